/-
  NARROWER THAN 'FOR EVERY INPUT', by the rows' own cells (each row's printed sentence says how): FnAgainShareGroupHeartbeatRequest: loops, laid · FnAgainCreateDelegationTokenResponse: loops, laid · FnAgainAddRaftVoterRequest: loops, laid · FnAgainWriteShareGroupStateRequest: loops, laid · FnAgainDescribeDelegationTokenResponse: loops, laid · FnAgainBrokerRegistrationRequest: loops, laid · FnAgainOffsetFetchRequest: loops, laid · FnCutJoinGroupRequest: loops, laid · FnCutDescribeLogDirsResponse: loops, laid · FnCutListPartitionReassignmentsResponse: loops, laid · FnCutConsumerGroupHeartbeatRequest: loops, laid · FnCutProduceRequest: loops, laid.
  DERIVED. THE GIVEN ROWS OF THIS SEAT. 12 by the template 'for every input the law returns true; each argument reads behind the call as it read before'; 0 by the template 'total and deterministic' (their statements: YtepedhnfnicbaaaGreatDoorTotals.lean).
  GIVEN WITH THE SEED: the statements are not yours to turn. If you find one false, say at which input.
  Laid BY PROGRAM, IN A SANDBOX (cutbox-rows.mjs): the forced cells as the released guide's own fill.sh prints them over the translation d023476a6335194d… (all of the seat's roots in one cut). By AI agents, Wed Nov 11 2026. No macro, syntax, notation, axiom, sorry.
-/
import Derived.Test.YtepedhnfnicbaaaGreatDoorChecked
import GoSem.Claim
import GoSem.ClaimJoined
import GoSem.ClaimMapViews
import Derived.JoinedTies
import Derived.KernelRfl
namespace Go.Proofs.YtepedhnfnicbaaaGreatDoor
/- THE CELL 'sum', in the pinned program and in every row, IS THE sha256 OF THE DUMP (.gsa) THAT YtepedhnfnicbaaaGreatDoorProg.lean LOADS. Nothing in Lean hashes anything: it is a label: what it is worth is what the hold of that sum in a sandbox is worth. -/
noncomputable def Tryz.pinned : Pinned := { name := "ytepedhnfnicbaaagreatdoor", sum := "d023476a6335194d444de74ab5142cf27dfbf6713787f511d98811c7930b7328", checked := Tryz.checked }
namespace Rows
def none {H : Type} : Left H := { results := [], args := [] }

/- WHAT THE LISTED PACKAGE-LEVEL VARIABLES READ AS WHEN THE CALL BEGINS. Each datum BY PROGRAM (the guide's laid-datum.mjs) off the statement by which the dump's own 'gosem.cut.vars' lays the variable. In a bare row this is a premise. The card (YtepedhnfnicbaaaGreatDoorCards.lean) ties it to the program's text. -/
def laid_pub_kmsg_pub_kmsg_inner_kbin_ErrNotEnoughData {H : Type} : DataW H := .iface "*errors.errorString" (.ptr (.agg [.lit (.string [114, 101, 115, 112, 111, 110, 115, 101, 32, 100, 105, 100, 32, 110, 111, 116, 32, 99, 111, 110, 116, 97, 105, 110, 32, 101, 110, 111, 117, 103, 104, 32, 100, 97, 116, 97, 32, 116, 111, 32, 98, 101, 32, 118, 97, 108, 105, 100])]))

/-- 'laws.FnAgainShareGroupHeartbeatRequest': WHATEVER THE INPUT: true; the input reads as it did. -/
def fnAgainShareGroupHeartbeatRequestSpec : ChangeSpec := { name := "fnAgainShareGroupHeartbeatRequest", fn := fun _ => fun
  | [d1, d2] => { results := [.lit (.bool true)], args := [d1, d2] }
  | _ => none }
def fnAgainShareGroupHeartbeatRequestRow : OpenClaim := { program := "ytepedhnfnicbaaagreatdoor", sum := "d023476a6335194d444de74ab5142cf27dfbf6713787f511d98811c7930b7328", func := "pub-kmsg/laws.FnAgainShareGroupHeartbeatRequest", spec := "fnAgainShareGroupHeartbeatRequest", inPlace := ["internal/reflectlite.ValueOf", "internal/reflectlite.Swapper", "(internal/reflectlite.Value).Len"], unfollowed := true, recurses := true, named := ["encoding/binary.BigEndian", "pub-kmsg/pub/kmsg/inner/kbin.ErrNotEnoughData"], loops := true, apart := false, laid := [("pub-kmsg/pub/kmsg/inner/kbin.ErrNotEnoughData", laid_pub_kmsg_pub_kmsg_inner_kbin_ErrNotEnoughData)] }
def FnAgainShareGroupHeartbeatRequestSaid : Prop := fnAgainShareGroupHeartbeatRequestRow.holds Tryz.pinned (OpenSpec.ofChange fnAgainShareGroupHeartbeatRequestSpec)

/-- ITS FALSE NEIGHBOUR: 'it returns false'. Refute it at one input. -/
def fnAgainShareGroupHeartbeatRequestWrong : ChangeSpec := { name := "fnAgainShareGroupHeartbeatRequest", fn := fun _ => fun
  | [d1, d2] => { results := [.lit (.bool false)], args := [d1, d2] }
  | _ => none }
def FnAgainShareGroupHeartbeatRequestWrongFalsely : Prop := fnAgainShareGroupHeartbeatRequestRow.holds Tryz.pinned (OpenSpec.ofChange fnAgainShareGroupHeartbeatRequestWrong)

/-- 'laws.FnAgainCreateDelegationTokenResponse': WHATEVER THE INPUT: true; the input reads as it did. -/
def fnAgainCreateDelegationTokenResponseSpec : ChangeSpec := { name := "fnAgainCreateDelegationTokenResponse", fn := fun _ => fun
  | [d1, d2] => { results := [.lit (.bool true)], args := [d1, d2] }
  | _ => none }
def fnAgainCreateDelegationTokenResponseRow : OpenClaim := { program := "ytepedhnfnicbaaagreatdoor", sum := "d023476a6335194d444de74ab5142cf27dfbf6713787f511d98811c7930b7328", func := "pub-kmsg/laws.FnAgainCreateDelegationTokenResponse", spec := "fnAgainCreateDelegationTokenResponse", inPlace := ["internal/reflectlite.ValueOf", "internal/reflectlite.Swapper", "(internal/reflectlite.Value).Len"], unfollowed := true, recurses := true, named := ["encoding/binary.BigEndian", "pub-kmsg/pub/kmsg/inner/kbin.ErrNotEnoughData"], loops := true, apart := false, laid := [("pub-kmsg/pub/kmsg/inner/kbin.ErrNotEnoughData", laid_pub_kmsg_pub_kmsg_inner_kbin_ErrNotEnoughData)] }
def FnAgainCreateDelegationTokenResponseSaid : Prop := fnAgainCreateDelegationTokenResponseRow.holds Tryz.pinned (OpenSpec.ofChange fnAgainCreateDelegationTokenResponseSpec)

/-- ITS FALSE NEIGHBOUR: 'it returns false'. Refute it at one input. -/
def fnAgainCreateDelegationTokenResponseWrong : ChangeSpec := { name := "fnAgainCreateDelegationTokenResponse", fn := fun _ => fun
  | [d1, d2] => { results := [.lit (.bool false)], args := [d1, d2] }
  | _ => none }
def FnAgainCreateDelegationTokenResponseWrongFalsely : Prop := fnAgainCreateDelegationTokenResponseRow.holds Tryz.pinned (OpenSpec.ofChange fnAgainCreateDelegationTokenResponseWrong)

/-- 'laws.FnAgainAddRaftVoterRequest': WHATEVER THE INPUT: true; the input reads as it did. -/
def fnAgainAddRaftVoterRequestSpec : ChangeSpec := { name := "fnAgainAddRaftVoterRequest", fn := fun _ => fun
  | [d1, d2] => { results := [.lit (.bool true)], args := [d1, d2] }
  | _ => none }
def fnAgainAddRaftVoterRequestRow : OpenClaim := { program := "ytepedhnfnicbaaagreatdoor", sum := "d023476a6335194d444de74ab5142cf27dfbf6713787f511d98811c7930b7328", func := "pub-kmsg/laws.FnAgainAddRaftVoterRequest", spec := "fnAgainAddRaftVoterRequest", inPlace := ["internal/reflectlite.ValueOf", "internal/reflectlite.Swapper", "(internal/reflectlite.Value).Len"], unfollowed := true, recurses := true, named := ["encoding/binary.BigEndian", "pub-kmsg/pub/kmsg/inner/kbin.ErrNotEnoughData"], loops := true, apart := false, laid := [("pub-kmsg/pub/kmsg/inner/kbin.ErrNotEnoughData", laid_pub_kmsg_pub_kmsg_inner_kbin_ErrNotEnoughData)] }
def FnAgainAddRaftVoterRequestSaid : Prop := fnAgainAddRaftVoterRequestRow.holds Tryz.pinned (OpenSpec.ofChange fnAgainAddRaftVoterRequestSpec)

/-- ITS FALSE NEIGHBOUR: 'it returns false'. Refute it at one input. -/
def fnAgainAddRaftVoterRequestWrong : ChangeSpec := { name := "fnAgainAddRaftVoterRequest", fn := fun _ => fun
  | [d1, d2] => { results := [.lit (.bool false)], args := [d1, d2] }
  | _ => none }
def FnAgainAddRaftVoterRequestWrongFalsely : Prop := fnAgainAddRaftVoterRequestRow.holds Tryz.pinned (OpenSpec.ofChange fnAgainAddRaftVoterRequestWrong)

/-- 'laws.FnAgainWriteShareGroupStateRequest': WHATEVER THE INPUT: true; the input reads as it did. -/
def fnAgainWriteShareGroupStateRequestSpec : ChangeSpec := { name := "fnAgainWriteShareGroupStateRequest", fn := fun _ => fun
  | [d1, d2] => { results := [.lit (.bool true)], args := [d1, d2] }
  | _ => none }
def fnAgainWriteShareGroupStateRequestRow : OpenClaim := { program := "ytepedhnfnicbaaagreatdoor", sum := "d023476a6335194d444de74ab5142cf27dfbf6713787f511d98811c7930b7328", func := "pub-kmsg/laws.FnAgainWriteShareGroupStateRequest", spec := "fnAgainWriteShareGroupStateRequest", inPlace := ["internal/reflectlite.ValueOf", "internal/reflectlite.Swapper", "(internal/reflectlite.Value).Len"], unfollowed := true, recurses := true, named := ["encoding/binary.BigEndian", "pub-kmsg/pub/kmsg/inner/kbin.ErrNotEnoughData"], loops := true, apart := false, laid := [("pub-kmsg/pub/kmsg/inner/kbin.ErrNotEnoughData", laid_pub_kmsg_pub_kmsg_inner_kbin_ErrNotEnoughData)] }
def FnAgainWriteShareGroupStateRequestSaid : Prop := fnAgainWriteShareGroupStateRequestRow.holds Tryz.pinned (OpenSpec.ofChange fnAgainWriteShareGroupStateRequestSpec)

/-- ITS FALSE NEIGHBOUR: 'it returns false'. Refute it at one input. -/
def fnAgainWriteShareGroupStateRequestWrong : ChangeSpec := { name := "fnAgainWriteShareGroupStateRequest", fn := fun _ => fun
  | [d1, d2] => { results := [.lit (.bool false)], args := [d1, d2] }
  | _ => none }
def FnAgainWriteShareGroupStateRequestWrongFalsely : Prop := fnAgainWriteShareGroupStateRequestRow.holds Tryz.pinned (OpenSpec.ofChange fnAgainWriteShareGroupStateRequestWrong)

/-- 'laws.FnAgainDescribeDelegationTokenResponse': WHATEVER THE INPUT: true; the input reads as it did. -/
def fnAgainDescribeDelegationTokenResponseSpec : ChangeSpec := { name := "fnAgainDescribeDelegationTokenResponse", fn := fun _ => fun
  | [d1, d2] => { results := [.lit (.bool true)], args := [d1, d2] }
  | _ => none }
def fnAgainDescribeDelegationTokenResponseRow : OpenClaim := { program := "ytepedhnfnicbaaagreatdoor", sum := "d023476a6335194d444de74ab5142cf27dfbf6713787f511d98811c7930b7328", func := "pub-kmsg/laws.FnAgainDescribeDelegationTokenResponse", spec := "fnAgainDescribeDelegationTokenResponse", inPlace := ["internal/reflectlite.ValueOf", "internal/reflectlite.Swapper", "(internal/reflectlite.Value).Len"], unfollowed := true, recurses := true, named := ["encoding/binary.BigEndian", "pub-kmsg/pub/kmsg/inner/kbin.ErrNotEnoughData"], loops := true, apart := false, laid := [("pub-kmsg/pub/kmsg/inner/kbin.ErrNotEnoughData", laid_pub_kmsg_pub_kmsg_inner_kbin_ErrNotEnoughData)] }
def FnAgainDescribeDelegationTokenResponseSaid : Prop := fnAgainDescribeDelegationTokenResponseRow.holds Tryz.pinned (OpenSpec.ofChange fnAgainDescribeDelegationTokenResponseSpec)

/-- ITS FALSE NEIGHBOUR: 'it returns false'. Refute it at one input. -/
def fnAgainDescribeDelegationTokenResponseWrong : ChangeSpec := { name := "fnAgainDescribeDelegationTokenResponse", fn := fun _ => fun
  | [d1, d2] => { results := [.lit (.bool false)], args := [d1, d2] }
  | _ => none }
def FnAgainDescribeDelegationTokenResponseWrongFalsely : Prop := fnAgainDescribeDelegationTokenResponseRow.holds Tryz.pinned (OpenSpec.ofChange fnAgainDescribeDelegationTokenResponseWrong)

/-- 'laws.FnAgainBrokerRegistrationRequest': WHATEVER THE INPUT: true; the input reads as it did. -/
def fnAgainBrokerRegistrationRequestSpec : ChangeSpec := { name := "fnAgainBrokerRegistrationRequest", fn := fun _ => fun
  | [d1, d2] => { results := [.lit (.bool true)], args := [d1, d2] }
  | _ => none }
def fnAgainBrokerRegistrationRequestRow : OpenClaim := { program := "ytepedhnfnicbaaagreatdoor", sum := "d023476a6335194d444de74ab5142cf27dfbf6713787f511d98811c7930b7328", func := "pub-kmsg/laws.FnAgainBrokerRegistrationRequest", spec := "fnAgainBrokerRegistrationRequest", inPlace := ["internal/reflectlite.ValueOf", "internal/reflectlite.Swapper", "(internal/reflectlite.Value).Len"], unfollowed := true, recurses := true, named := ["encoding/binary.BigEndian", "pub-kmsg/pub/kmsg/inner/kbin.ErrNotEnoughData"], loops := true, apart := false, laid := [("pub-kmsg/pub/kmsg/inner/kbin.ErrNotEnoughData", laid_pub_kmsg_pub_kmsg_inner_kbin_ErrNotEnoughData)] }
def FnAgainBrokerRegistrationRequestSaid : Prop := fnAgainBrokerRegistrationRequestRow.holds Tryz.pinned (OpenSpec.ofChange fnAgainBrokerRegistrationRequestSpec)

/-- ITS FALSE NEIGHBOUR: 'it returns false'. Refute it at one input. -/
def fnAgainBrokerRegistrationRequestWrong : ChangeSpec := { name := "fnAgainBrokerRegistrationRequest", fn := fun _ => fun
  | [d1, d2] => { results := [.lit (.bool false)], args := [d1, d2] }
  | _ => none }
def FnAgainBrokerRegistrationRequestWrongFalsely : Prop := fnAgainBrokerRegistrationRequestRow.holds Tryz.pinned (OpenSpec.ofChange fnAgainBrokerRegistrationRequestWrong)

/-- 'laws.FnAgainOffsetFetchRequest': WHATEVER THE INPUT: true; the input reads as it did. -/
def fnAgainOffsetFetchRequestSpec : ChangeSpec := { name := "fnAgainOffsetFetchRequest", fn := fun _ => fun
  | [d1, d2] => { results := [.lit (.bool true)], args := [d1, d2] }
  | _ => none }
def fnAgainOffsetFetchRequestRow : OpenClaim := { program := "ytepedhnfnicbaaagreatdoor", sum := "d023476a6335194d444de74ab5142cf27dfbf6713787f511d98811c7930b7328", func := "pub-kmsg/laws.FnAgainOffsetFetchRequest", spec := "fnAgainOffsetFetchRequest", inPlace := ["internal/reflectlite.ValueOf", "internal/reflectlite.Swapper", "(internal/reflectlite.Value).Len"], unfollowed := true, recurses := true, named := ["encoding/binary.BigEndian", "pub-kmsg/pub/kmsg/inner/kbin.ErrNotEnoughData"], loops := true, apart := false, laid := [("pub-kmsg/pub/kmsg/inner/kbin.ErrNotEnoughData", laid_pub_kmsg_pub_kmsg_inner_kbin_ErrNotEnoughData)] }
def FnAgainOffsetFetchRequestSaid : Prop := fnAgainOffsetFetchRequestRow.holds Tryz.pinned (OpenSpec.ofChange fnAgainOffsetFetchRequestSpec)

/-- ITS FALSE NEIGHBOUR: 'it returns false'. Refute it at one input. -/
def fnAgainOffsetFetchRequestWrong : ChangeSpec := { name := "fnAgainOffsetFetchRequest", fn := fun _ => fun
  | [d1, d2] => { results := [.lit (.bool false)], args := [d1, d2] }
  | _ => none }
def FnAgainOffsetFetchRequestWrongFalsely : Prop := fnAgainOffsetFetchRequestRow.holds Tryz.pinned (OpenSpec.ofChange fnAgainOffsetFetchRequestWrong)

/-- 'laws.FnCutJoinGroupRequest': WHATEVER THE INPUT: true; the input reads as it did. -/
def fnCutJoinGroupRequestSpec : ChangeSpec := { name := "fnCutJoinGroupRequest", fn := fun _ => fun
  | [d1, d2, d3] => { results := [.lit (.bool true)], args := [d1, d2, d3] }
  | _ => none }
def fnCutJoinGroupRequestRow : OpenClaim := { program := "ytepedhnfnicbaaagreatdoor", sum := "d023476a6335194d444de74ab5142cf27dfbf6713787f511d98811c7930b7328", func := "pub-kmsg/laws.FnCutJoinGroupRequest", spec := "fnCutJoinGroupRequest", inPlace := ["internal/reflectlite.ValueOf", "internal/reflectlite.Swapper", "(internal/reflectlite.Value).Len"], unfollowed := true, recurses := true, named := ["encoding/binary.BigEndian", "pub-kmsg/pub/kmsg/inner/kbin.ErrNotEnoughData"], loops := true, apart := false, laid := [("pub-kmsg/pub/kmsg/inner/kbin.ErrNotEnoughData", laid_pub_kmsg_pub_kmsg_inner_kbin_ErrNotEnoughData)] }
def FnCutJoinGroupRequestSaid : Prop := fnCutJoinGroupRequestRow.holds Tryz.pinned (OpenSpec.ofChange fnCutJoinGroupRequestSpec)

/-- ITS FALSE NEIGHBOUR: 'it returns false'. Refute it at one input. -/
def fnCutJoinGroupRequestWrong : ChangeSpec := { name := "fnCutJoinGroupRequest", fn := fun _ => fun
  | [d1, d2, d3] => { results := [.lit (.bool false)], args := [d1, d2, d3] }
  | _ => none }
def FnCutJoinGroupRequestWrongFalsely : Prop := fnCutJoinGroupRequestRow.holds Tryz.pinned (OpenSpec.ofChange fnCutJoinGroupRequestWrong)

/-- 'laws.FnCutDescribeLogDirsResponse': WHATEVER THE INPUT: true; the input reads as it did. -/
def fnCutDescribeLogDirsResponseSpec : ChangeSpec := { name := "fnCutDescribeLogDirsResponse", fn := fun _ => fun
  | [d1, d2, d3] => { results := [.lit (.bool true)], args := [d1, d2, d3] }
  | _ => none }
def fnCutDescribeLogDirsResponseRow : OpenClaim := { program := "ytepedhnfnicbaaagreatdoor", sum := "d023476a6335194d444de74ab5142cf27dfbf6713787f511d98811c7930b7328", func := "pub-kmsg/laws.FnCutDescribeLogDirsResponse", spec := "fnCutDescribeLogDirsResponse", inPlace := ["internal/reflectlite.ValueOf", "internal/reflectlite.Swapper", "(internal/reflectlite.Value).Len"], unfollowed := true, recurses := true, named := ["encoding/binary.BigEndian", "pub-kmsg/pub/kmsg/inner/kbin.ErrNotEnoughData"], loops := true, apart := false, laid := [("pub-kmsg/pub/kmsg/inner/kbin.ErrNotEnoughData", laid_pub_kmsg_pub_kmsg_inner_kbin_ErrNotEnoughData)] }
def FnCutDescribeLogDirsResponseSaid : Prop := fnCutDescribeLogDirsResponseRow.holds Tryz.pinned (OpenSpec.ofChange fnCutDescribeLogDirsResponseSpec)

/-- ITS FALSE NEIGHBOUR: 'it returns false'. Refute it at one input. -/
def fnCutDescribeLogDirsResponseWrong : ChangeSpec := { name := "fnCutDescribeLogDirsResponse", fn := fun _ => fun
  | [d1, d2, d3] => { results := [.lit (.bool false)], args := [d1, d2, d3] }
  | _ => none }
def FnCutDescribeLogDirsResponseWrongFalsely : Prop := fnCutDescribeLogDirsResponseRow.holds Tryz.pinned (OpenSpec.ofChange fnCutDescribeLogDirsResponseWrong)

/-- 'laws.FnCutListPartitionReassignmentsResponse': WHATEVER THE INPUT: true; the input reads as it did. -/
def fnCutListPartitionReassignmentsResponseSpec : ChangeSpec := { name := "fnCutListPartitionReassignmentsResponse", fn := fun _ => fun
  | [d1, d2, d3] => { results := [.lit (.bool true)], args := [d1, d2, d3] }
  | _ => none }
def fnCutListPartitionReassignmentsResponseRow : OpenClaim := { program := "ytepedhnfnicbaaagreatdoor", sum := "d023476a6335194d444de74ab5142cf27dfbf6713787f511d98811c7930b7328", func := "pub-kmsg/laws.FnCutListPartitionReassignmentsResponse", spec := "fnCutListPartitionReassignmentsResponse", inPlace := ["internal/reflectlite.ValueOf", "internal/reflectlite.Swapper", "(internal/reflectlite.Value).Len"], unfollowed := true, recurses := true, named := ["encoding/binary.BigEndian", "pub-kmsg/pub/kmsg/inner/kbin.ErrNotEnoughData"], loops := true, apart := false, laid := [("pub-kmsg/pub/kmsg/inner/kbin.ErrNotEnoughData", laid_pub_kmsg_pub_kmsg_inner_kbin_ErrNotEnoughData)] }
def FnCutListPartitionReassignmentsResponseSaid : Prop := fnCutListPartitionReassignmentsResponseRow.holds Tryz.pinned (OpenSpec.ofChange fnCutListPartitionReassignmentsResponseSpec)

/-- ITS FALSE NEIGHBOUR: 'it returns false'. Refute it at one input. -/
def fnCutListPartitionReassignmentsResponseWrong : ChangeSpec := { name := "fnCutListPartitionReassignmentsResponse", fn := fun _ => fun
  | [d1, d2, d3] => { results := [.lit (.bool false)], args := [d1, d2, d3] }
  | _ => none }
def FnCutListPartitionReassignmentsResponseWrongFalsely : Prop := fnCutListPartitionReassignmentsResponseRow.holds Tryz.pinned (OpenSpec.ofChange fnCutListPartitionReassignmentsResponseWrong)

/-- 'laws.FnCutConsumerGroupHeartbeatRequest': WHATEVER THE INPUT: true; the input reads as it did. -/
def fnCutConsumerGroupHeartbeatRequestSpec : ChangeSpec := { name := "fnCutConsumerGroupHeartbeatRequest", fn := fun _ => fun
  | [d1, d2, d3] => { results := [.lit (.bool true)], args := [d1, d2, d3] }
  | _ => none }
def fnCutConsumerGroupHeartbeatRequestRow : OpenClaim := { program := "ytepedhnfnicbaaagreatdoor", sum := "d023476a6335194d444de74ab5142cf27dfbf6713787f511d98811c7930b7328", func := "pub-kmsg/laws.FnCutConsumerGroupHeartbeatRequest", spec := "fnCutConsumerGroupHeartbeatRequest", inPlace := ["internal/reflectlite.ValueOf", "internal/reflectlite.Swapper", "(internal/reflectlite.Value).Len"], unfollowed := true, recurses := true, named := ["encoding/binary.BigEndian", "pub-kmsg/pub/kmsg/inner/kbin.ErrNotEnoughData"], loops := true, apart := false, laid := [("pub-kmsg/pub/kmsg/inner/kbin.ErrNotEnoughData", laid_pub_kmsg_pub_kmsg_inner_kbin_ErrNotEnoughData)] }
def FnCutConsumerGroupHeartbeatRequestSaid : Prop := fnCutConsumerGroupHeartbeatRequestRow.holds Tryz.pinned (OpenSpec.ofChange fnCutConsumerGroupHeartbeatRequestSpec)

/-- ITS FALSE NEIGHBOUR: 'it returns false'. Refute it at one input. -/
def fnCutConsumerGroupHeartbeatRequestWrong : ChangeSpec := { name := "fnCutConsumerGroupHeartbeatRequest", fn := fun _ => fun
  | [d1, d2, d3] => { results := [.lit (.bool false)], args := [d1, d2, d3] }
  | _ => none }
def FnCutConsumerGroupHeartbeatRequestWrongFalsely : Prop := fnCutConsumerGroupHeartbeatRequestRow.holds Tryz.pinned (OpenSpec.ofChange fnCutConsumerGroupHeartbeatRequestWrong)

/-- 'laws.FnCutProduceRequest': WHATEVER THE INPUT: true; the input reads as it did. -/
def fnCutProduceRequestSpec : ChangeSpec := { name := "fnCutProduceRequest", fn := fun _ => fun
  | [d1, d2, d3] => { results := [.lit (.bool true)], args := [d1, d2, d3] }
  | _ => none }
def fnCutProduceRequestRow : OpenClaim := { program := "ytepedhnfnicbaaagreatdoor", sum := "d023476a6335194d444de74ab5142cf27dfbf6713787f511d98811c7930b7328", func := "pub-kmsg/laws.FnCutProduceRequest", spec := "fnCutProduceRequest", inPlace := ["internal/reflectlite.ValueOf", "internal/reflectlite.Swapper", "(internal/reflectlite.Value).Len"], unfollowed := true, recurses := true, named := ["encoding/binary.BigEndian", "pub-kmsg/pub/kmsg/inner/kbin.ErrNotEnoughData"], loops := true, apart := false, laid := [("pub-kmsg/pub/kmsg/inner/kbin.ErrNotEnoughData", laid_pub_kmsg_pub_kmsg_inner_kbin_ErrNotEnoughData)] }
def FnCutProduceRequestSaid : Prop := fnCutProduceRequestRow.holds Tryz.pinned (OpenSpec.ofChange fnCutProduceRequestSpec)

/-- ITS FALSE NEIGHBOUR: 'it returns false'. Refute it at one input. -/
def fnCutProduceRequestWrong : ChangeSpec := { name := "fnCutProduceRequest", fn := fun _ => fun
  | [d1, d2, d3] => { results := [.lit (.bool false)], args := [d1, d2, d3] }
  | _ => none }
def FnCutProduceRequestWrongFalsely : Prop := fnCutProduceRequestRow.holds Tryz.pinned (OpenSpec.ofChange fnCutProduceRequestWrong)

/- THE SECOND FORM. 'bulk': how many values and letters a reading holds, each counted each time it is reached (what is shared counts as often as it is met; a slice's spare places count too). A statement '..UptoSaid' is the law's where the arguments, and the package variables that the reading takes, are together of bulk at most 1048576: NARROWER than '..Said'. Prove '..Said' where nothing that the law and all that it calls make is longer than what came in: it says more and counts as full. Else prove '..UptoSaid'. A law counts once. -/
mutual
def uptoBulk {H : Type} : DataW H → Nat
  | .lit (.string bytes) => bytes.length + 1
  | .lit _ => 1
  | .nil => 1
  | .ptr d => uptoBulk d + 1
  | .slice elems spare => uptoBulkAll elems + uptoBulkAll spare + 1
  | .agg parts => uptoBulkAll parts + 1
  | .iface _ d => uptoBulk d + 1
  | .map entries => uptoBulkEntries entries + 1
  | .held _ => 1
def uptoBulkAll {H : Type} : List (DataW H) → Nat
  | [] => 0
  | d :: r => uptoBulk d + uptoBulkAll r
def uptoBulkEntries {H : Type} : List (Lit × DataW H) → Nat
  | [] => 0
  | x :: r => uptoBulkEntry x + uptoBulkEntries r
def uptoBulkEntry {H : Type} : Lit × DataW H → Nat
  | (.string bytes, d) => bytes.length + uptoBulk d + 1
  | (_, d) => uptoBulk d + 1
 end
def uptoSmall : (H : Type) → List (DataW H) → Bool := fun _ ds => decide (uptoBulkAll ds ≤ 1048576)
def OpenSpec.upto (s : _root_.Go.ChangeSpec) : _root_.Go.OpenSpec := { _root_.Go.OpenSpec.ofChange s with cond := some uptoSmall }

/-- 'laws.FnAgainShareGroupHeartbeatRequest', WHERE WHAT IT READS IS OF BULK AT MOST 1048576: true; the input reads as it did. -/
def fnAgainShareGroupHeartbeatRequestUptoRow : OpenClaim := { program := "ytepedhnfnicbaaagreatdoor", sum := "d023476a6335194d444de74ab5142cf27dfbf6713787f511d98811c7930b7328", func := "pub-kmsg/laws.FnAgainShareGroupHeartbeatRequest", spec := "fnAgainShareGroupHeartbeatRequest", inPlace := ["internal/reflectlite.ValueOf", "internal/reflectlite.Swapper", "(internal/reflectlite.Value).Len"], unfollowed := true, recurses := true, named := ["encoding/binary.BigEndian", "pub-kmsg/pub/kmsg/inner/kbin.ErrNotEnoughData"], loops := true, apart := false, laid := [("pub-kmsg/pub/kmsg/inner/kbin.ErrNotEnoughData", laid_pub_kmsg_pub_kmsg_inner_kbin_ErrNotEnoughData)], narrowed := true }
def FnAgainShareGroupHeartbeatRequestUptoSaid : Prop := fnAgainShareGroupHeartbeatRequestUptoRow.holds Tryz.pinned (OpenSpec.upto fnAgainShareGroupHeartbeatRequestSpec)

/-- 'laws.FnAgainCreateDelegationTokenResponse', WHERE WHAT IT READS IS OF BULK AT MOST 1048576: true; the input reads as it did. -/
def fnAgainCreateDelegationTokenResponseUptoRow : OpenClaim := { program := "ytepedhnfnicbaaagreatdoor", sum := "d023476a6335194d444de74ab5142cf27dfbf6713787f511d98811c7930b7328", func := "pub-kmsg/laws.FnAgainCreateDelegationTokenResponse", spec := "fnAgainCreateDelegationTokenResponse", inPlace := ["internal/reflectlite.ValueOf", "internal/reflectlite.Swapper", "(internal/reflectlite.Value).Len"], unfollowed := true, recurses := true, named := ["encoding/binary.BigEndian", "pub-kmsg/pub/kmsg/inner/kbin.ErrNotEnoughData"], loops := true, apart := false, laid := [("pub-kmsg/pub/kmsg/inner/kbin.ErrNotEnoughData", laid_pub_kmsg_pub_kmsg_inner_kbin_ErrNotEnoughData)], narrowed := true }
def FnAgainCreateDelegationTokenResponseUptoSaid : Prop := fnAgainCreateDelegationTokenResponseUptoRow.holds Tryz.pinned (OpenSpec.upto fnAgainCreateDelegationTokenResponseSpec)

/-- 'laws.FnAgainAddRaftVoterRequest', WHERE WHAT IT READS IS OF BULK AT MOST 1048576: true; the input reads as it did. -/
def fnAgainAddRaftVoterRequestUptoRow : OpenClaim := { program := "ytepedhnfnicbaaagreatdoor", sum := "d023476a6335194d444de74ab5142cf27dfbf6713787f511d98811c7930b7328", func := "pub-kmsg/laws.FnAgainAddRaftVoterRequest", spec := "fnAgainAddRaftVoterRequest", inPlace := ["internal/reflectlite.ValueOf", "internal/reflectlite.Swapper", "(internal/reflectlite.Value).Len"], unfollowed := true, recurses := true, named := ["encoding/binary.BigEndian", "pub-kmsg/pub/kmsg/inner/kbin.ErrNotEnoughData"], loops := true, apart := false, laid := [("pub-kmsg/pub/kmsg/inner/kbin.ErrNotEnoughData", laid_pub_kmsg_pub_kmsg_inner_kbin_ErrNotEnoughData)], narrowed := true }
def FnAgainAddRaftVoterRequestUptoSaid : Prop := fnAgainAddRaftVoterRequestUptoRow.holds Tryz.pinned (OpenSpec.upto fnAgainAddRaftVoterRequestSpec)

/-- 'laws.FnAgainWriteShareGroupStateRequest', WHERE WHAT IT READS IS OF BULK AT MOST 1048576: true; the input reads as it did. -/
def fnAgainWriteShareGroupStateRequestUptoRow : OpenClaim := { program := "ytepedhnfnicbaaagreatdoor", sum := "d023476a6335194d444de74ab5142cf27dfbf6713787f511d98811c7930b7328", func := "pub-kmsg/laws.FnAgainWriteShareGroupStateRequest", spec := "fnAgainWriteShareGroupStateRequest", inPlace := ["internal/reflectlite.ValueOf", "internal/reflectlite.Swapper", "(internal/reflectlite.Value).Len"], unfollowed := true, recurses := true, named := ["encoding/binary.BigEndian", "pub-kmsg/pub/kmsg/inner/kbin.ErrNotEnoughData"], loops := true, apart := false, laid := [("pub-kmsg/pub/kmsg/inner/kbin.ErrNotEnoughData", laid_pub_kmsg_pub_kmsg_inner_kbin_ErrNotEnoughData)], narrowed := true }
def FnAgainWriteShareGroupStateRequestUptoSaid : Prop := fnAgainWriteShareGroupStateRequestUptoRow.holds Tryz.pinned (OpenSpec.upto fnAgainWriteShareGroupStateRequestSpec)

/-- 'laws.FnAgainDescribeDelegationTokenResponse', WHERE WHAT IT READS IS OF BULK AT MOST 1048576: true; the input reads as it did. -/
def fnAgainDescribeDelegationTokenResponseUptoRow : OpenClaim := { program := "ytepedhnfnicbaaagreatdoor", sum := "d023476a6335194d444de74ab5142cf27dfbf6713787f511d98811c7930b7328", func := "pub-kmsg/laws.FnAgainDescribeDelegationTokenResponse", spec := "fnAgainDescribeDelegationTokenResponse", inPlace := ["internal/reflectlite.ValueOf", "internal/reflectlite.Swapper", "(internal/reflectlite.Value).Len"], unfollowed := true, recurses := true, named := ["encoding/binary.BigEndian", "pub-kmsg/pub/kmsg/inner/kbin.ErrNotEnoughData"], loops := true, apart := false, laid := [("pub-kmsg/pub/kmsg/inner/kbin.ErrNotEnoughData", laid_pub_kmsg_pub_kmsg_inner_kbin_ErrNotEnoughData)], narrowed := true }
def FnAgainDescribeDelegationTokenResponseUptoSaid : Prop := fnAgainDescribeDelegationTokenResponseUptoRow.holds Tryz.pinned (OpenSpec.upto fnAgainDescribeDelegationTokenResponseSpec)

/-- 'laws.FnAgainBrokerRegistrationRequest', WHERE WHAT IT READS IS OF BULK AT MOST 1048576: true; the input reads as it did. -/
def fnAgainBrokerRegistrationRequestUptoRow : OpenClaim := { program := "ytepedhnfnicbaaagreatdoor", sum := "d023476a6335194d444de74ab5142cf27dfbf6713787f511d98811c7930b7328", func := "pub-kmsg/laws.FnAgainBrokerRegistrationRequest", spec := "fnAgainBrokerRegistrationRequest", inPlace := ["internal/reflectlite.ValueOf", "internal/reflectlite.Swapper", "(internal/reflectlite.Value).Len"], unfollowed := true, recurses := true, named := ["encoding/binary.BigEndian", "pub-kmsg/pub/kmsg/inner/kbin.ErrNotEnoughData"], loops := true, apart := false, laid := [("pub-kmsg/pub/kmsg/inner/kbin.ErrNotEnoughData", laid_pub_kmsg_pub_kmsg_inner_kbin_ErrNotEnoughData)], narrowed := true }
def FnAgainBrokerRegistrationRequestUptoSaid : Prop := fnAgainBrokerRegistrationRequestUptoRow.holds Tryz.pinned (OpenSpec.upto fnAgainBrokerRegistrationRequestSpec)

/-- 'laws.FnAgainOffsetFetchRequest', WHERE WHAT IT READS IS OF BULK AT MOST 1048576: true; the input reads as it did. -/
def fnAgainOffsetFetchRequestUptoRow : OpenClaim := { program := "ytepedhnfnicbaaagreatdoor", sum := "d023476a6335194d444de74ab5142cf27dfbf6713787f511d98811c7930b7328", func := "pub-kmsg/laws.FnAgainOffsetFetchRequest", spec := "fnAgainOffsetFetchRequest", inPlace := ["internal/reflectlite.ValueOf", "internal/reflectlite.Swapper", "(internal/reflectlite.Value).Len"], unfollowed := true, recurses := true, named := ["encoding/binary.BigEndian", "pub-kmsg/pub/kmsg/inner/kbin.ErrNotEnoughData"], loops := true, apart := false, laid := [("pub-kmsg/pub/kmsg/inner/kbin.ErrNotEnoughData", laid_pub_kmsg_pub_kmsg_inner_kbin_ErrNotEnoughData)], narrowed := true }
def FnAgainOffsetFetchRequestUptoSaid : Prop := fnAgainOffsetFetchRequestUptoRow.holds Tryz.pinned (OpenSpec.upto fnAgainOffsetFetchRequestSpec)

/-- 'laws.FnCutJoinGroupRequest', WHERE WHAT IT READS IS OF BULK AT MOST 1048576: true; the input reads as it did. -/
def fnCutJoinGroupRequestUptoRow : OpenClaim := { program := "ytepedhnfnicbaaagreatdoor", sum := "d023476a6335194d444de74ab5142cf27dfbf6713787f511d98811c7930b7328", func := "pub-kmsg/laws.FnCutJoinGroupRequest", spec := "fnCutJoinGroupRequest", inPlace := ["internal/reflectlite.ValueOf", "internal/reflectlite.Swapper", "(internal/reflectlite.Value).Len"], unfollowed := true, recurses := true, named := ["encoding/binary.BigEndian", "pub-kmsg/pub/kmsg/inner/kbin.ErrNotEnoughData"], loops := true, apart := false, laid := [("pub-kmsg/pub/kmsg/inner/kbin.ErrNotEnoughData", laid_pub_kmsg_pub_kmsg_inner_kbin_ErrNotEnoughData)], narrowed := true }
def FnCutJoinGroupRequestUptoSaid : Prop := fnCutJoinGroupRequestUptoRow.holds Tryz.pinned (OpenSpec.upto fnCutJoinGroupRequestSpec)

/-- 'laws.FnCutDescribeLogDirsResponse', WHERE WHAT IT READS IS OF BULK AT MOST 1048576: true; the input reads as it did. -/
def fnCutDescribeLogDirsResponseUptoRow : OpenClaim := { program := "ytepedhnfnicbaaagreatdoor", sum := "d023476a6335194d444de74ab5142cf27dfbf6713787f511d98811c7930b7328", func := "pub-kmsg/laws.FnCutDescribeLogDirsResponse", spec := "fnCutDescribeLogDirsResponse", inPlace := ["internal/reflectlite.ValueOf", "internal/reflectlite.Swapper", "(internal/reflectlite.Value).Len"], unfollowed := true, recurses := true, named := ["encoding/binary.BigEndian", "pub-kmsg/pub/kmsg/inner/kbin.ErrNotEnoughData"], loops := true, apart := false, laid := [("pub-kmsg/pub/kmsg/inner/kbin.ErrNotEnoughData", laid_pub_kmsg_pub_kmsg_inner_kbin_ErrNotEnoughData)], narrowed := true }
def FnCutDescribeLogDirsResponseUptoSaid : Prop := fnCutDescribeLogDirsResponseUptoRow.holds Tryz.pinned (OpenSpec.upto fnCutDescribeLogDirsResponseSpec)

/-- 'laws.FnCutListPartitionReassignmentsResponse', WHERE WHAT IT READS IS OF BULK AT MOST 1048576: true; the input reads as it did. -/
def fnCutListPartitionReassignmentsResponseUptoRow : OpenClaim := { program := "ytepedhnfnicbaaagreatdoor", sum := "d023476a6335194d444de74ab5142cf27dfbf6713787f511d98811c7930b7328", func := "pub-kmsg/laws.FnCutListPartitionReassignmentsResponse", spec := "fnCutListPartitionReassignmentsResponse", inPlace := ["internal/reflectlite.ValueOf", "internal/reflectlite.Swapper", "(internal/reflectlite.Value).Len"], unfollowed := true, recurses := true, named := ["encoding/binary.BigEndian", "pub-kmsg/pub/kmsg/inner/kbin.ErrNotEnoughData"], loops := true, apart := false, laid := [("pub-kmsg/pub/kmsg/inner/kbin.ErrNotEnoughData", laid_pub_kmsg_pub_kmsg_inner_kbin_ErrNotEnoughData)], narrowed := true }
def FnCutListPartitionReassignmentsResponseUptoSaid : Prop := fnCutListPartitionReassignmentsResponseUptoRow.holds Tryz.pinned (OpenSpec.upto fnCutListPartitionReassignmentsResponseSpec)

/-- 'laws.FnCutConsumerGroupHeartbeatRequest', WHERE WHAT IT READS IS OF BULK AT MOST 1048576: true; the input reads as it did. -/
def fnCutConsumerGroupHeartbeatRequestUptoRow : OpenClaim := { program := "ytepedhnfnicbaaagreatdoor", sum := "d023476a6335194d444de74ab5142cf27dfbf6713787f511d98811c7930b7328", func := "pub-kmsg/laws.FnCutConsumerGroupHeartbeatRequest", spec := "fnCutConsumerGroupHeartbeatRequest", inPlace := ["internal/reflectlite.ValueOf", "internal/reflectlite.Swapper", "(internal/reflectlite.Value).Len"], unfollowed := true, recurses := true, named := ["encoding/binary.BigEndian", "pub-kmsg/pub/kmsg/inner/kbin.ErrNotEnoughData"], loops := true, apart := false, laid := [("pub-kmsg/pub/kmsg/inner/kbin.ErrNotEnoughData", laid_pub_kmsg_pub_kmsg_inner_kbin_ErrNotEnoughData)], narrowed := true }
def FnCutConsumerGroupHeartbeatRequestUptoSaid : Prop := fnCutConsumerGroupHeartbeatRequestUptoRow.holds Tryz.pinned (OpenSpec.upto fnCutConsumerGroupHeartbeatRequestSpec)

/-- 'laws.FnCutProduceRequest', WHERE WHAT IT READS IS OF BULK AT MOST 1048576: true; the input reads as it did. -/
def fnCutProduceRequestUptoRow : OpenClaim := { program := "ytepedhnfnicbaaagreatdoor", sum := "d023476a6335194d444de74ab5142cf27dfbf6713787f511d98811c7930b7328", func := "pub-kmsg/laws.FnCutProduceRequest", spec := "fnCutProduceRequest", inPlace := ["internal/reflectlite.ValueOf", "internal/reflectlite.Swapper", "(internal/reflectlite.Value).Len"], unfollowed := true, recurses := true, named := ["encoding/binary.BigEndian", "pub-kmsg/pub/kmsg/inner/kbin.ErrNotEnoughData"], loops := true, apart := false, laid := [("pub-kmsg/pub/kmsg/inner/kbin.ErrNotEnoughData", laid_pub_kmsg_pub_kmsg_inner_kbin_ErrNotEnoughData)], narrowed := true }
def FnCutProduceRequestUptoSaid : Prop := fnCutProduceRequestUptoRow.holds Tryz.pinned (OpenSpec.upto fnCutProduceRequestSpec)

end Rows
end Go.Proofs.YtepedhnfnicbaaaGreatDoor
