/-
  NARROWER THAN 'FOR EVERY INPUT', by the rows' own cells (each row's printed sentence says how): FnCutSASLAuthenticateResponse: loops, laid · FnCutDescribeACLsRequest: loops, laid · FnAgainAlterReplicaLogDirsResponse: loops, laid · FnAgainDeleteShareGroupStateRequest: loops, laid · FnCutElectLeadersRequest: loops, laid · FnAgainTxnOffsetCommitResponse: loops, laid · FnCutAlterUserSCRAMCredentialsResponse: loops, laid · FnAgainListGroupsResponse: loops, laid.
  DERIVED. THE GIVEN ROWS OF THIS SEAT. 8 by the template 'for every input the law returns true; each argument reads behind the call as it read before'; 0 by the template 'total and deterministic' (their statements: YtafoaplcmgfloaaGreatDoorTotals.lean).
  GIVEN WITH THE SEED: the statements are not yours to turn. If you find one false, say at which input.
  Laid BY PROGRAM, IN A SANDBOX (cutbox-rows.mjs): the forced cells as the released guide's own fill.sh prints them over the translation e36ba7186f14d083… (all of the seat's roots in one cut). By AI agents, Wed Nov 11 2026. No macro, syntax, notation, axiom, sorry.
-/
import Derived.Test.YtafoaplcmgfloaaGreatDoorChecked
import GoSem.Claim
import GoSem.ClaimJoined
import GoSem.ClaimMapViews
import Derived.JoinedTies
import Derived.KernelRfl
namespace Go.Proofs.YtafoaplcmgfloaaGreatDoor
/- THE CELL 'sum', in the pinned program and in every row, IS THE sha256 OF THE DUMP (.gsa) THAT YtafoaplcmgfloaaGreatDoorProg.lean LOADS. Nothing in Lean hashes anything: it is a label: what it is worth is what the hold of that sum in a sandbox is worth. -/
noncomputable def Tryz.pinned : Pinned := { name := "ytafoaplcmgfloaagreatdoor", sum := "e36ba7186f14d083f6b496a7a5c4a46716d3d87ebe8047f11de7dafe5271bec2", checked := Tryz.checked }
namespace Rows
def none {H : Type} : Left H := { results := [], args := [] }

/- WHAT THE LISTED PACKAGE-LEVEL VARIABLES READ AS WHEN THE CALL BEGINS. Each datum BY PROGRAM (the guide's laid-datum.mjs) off the statement by which the dump's own 'gosem.cut.vars' lays the variable. In a bare row this is a premise. The card (YtafoaplcmgfloaaGreatDoorCards.lean) ties it to the program's text. -/
def laid_pub_kmsg_pub_kmsg_inner_kbin_ErrNotEnoughData {H : Type} : DataW H := .iface "*errors.errorString" (.ptr (.agg [.lit (.string [114, 101, 115, 112, 111, 110, 115, 101, 32, 100, 105, 100, 32, 110, 111, 116, 32, 99, 111, 110, 116, 97, 105, 110, 32, 101, 110, 111, 117, 103, 104, 32, 100, 97, 116, 97, 32, 116, 111, 32, 98, 101, 32, 118, 97, 108, 105, 100])]))

/-- 'laws.FnCutSASLAuthenticateResponse': WHATEVER THE INPUT: true; the input reads as it did. -/
def fnCutSASLAuthenticateResponseSpec : ChangeSpec := { name := "fnCutSASLAuthenticateResponse", fn := fun _ => fun
  | [d1, d2, d3] => { results := [.lit (.bool true)], args := [d1, d2, d3] }
  | _ => none }
def fnCutSASLAuthenticateResponseRow : OpenClaim := { program := "ytafoaplcmgfloaagreatdoor", sum := "e36ba7186f14d083f6b496a7a5c4a46716d3d87ebe8047f11de7dafe5271bec2", func := "pub-kmsg/laws.FnCutSASLAuthenticateResponse", spec := "fnCutSASLAuthenticateResponse", inPlace := ["internal/reflectlite.ValueOf", "internal/reflectlite.Swapper", "(internal/reflectlite.Value).Len"], unfollowed := true, recurses := true, named := ["encoding/binary.BigEndian", "pub-kmsg/pub/kmsg/inner/kbin.ErrNotEnoughData"], loops := true, apart := false, laid := [("pub-kmsg/pub/kmsg/inner/kbin.ErrNotEnoughData", laid_pub_kmsg_pub_kmsg_inner_kbin_ErrNotEnoughData)] }
def FnCutSASLAuthenticateResponseSaid : Prop := fnCutSASLAuthenticateResponseRow.holds Tryz.pinned (OpenSpec.ofChange fnCutSASLAuthenticateResponseSpec)

/-- ITS FALSE NEIGHBOUR: 'it returns false'. Refute it at one input. -/
def fnCutSASLAuthenticateResponseWrong : ChangeSpec := { name := "fnCutSASLAuthenticateResponse", fn := fun _ => fun
  | [d1, d2, d3] => { results := [.lit (.bool false)], args := [d1, d2, d3] }
  | _ => none }
def FnCutSASLAuthenticateResponseWrongFalsely : Prop := fnCutSASLAuthenticateResponseRow.holds Tryz.pinned (OpenSpec.ofChange fnCutSASLAuthenticateResponseWrong)

/-- 'laws.FnCutDescribeACLsRequest': WHATEVER THE INPUT: true; the input reads as it did. -/
def fnCutDescribeACLsRequestSpec : ChangeSpec := { name := "fnCutDescribeACLsRequest", fn := fun _ => fun
  | [d1, d2, d3] => { results := [.lit (.bool true)], args := [d1, d2, d3] }
  | _ => none }
def fnCutDescribeACLsRequestRow : OpenClaim := { program := "ytafoaplcmgfloaagreatdoor", sum := "e36ba7186f14d083f6b496a7a5c4a46716d3d87ebe8047f11de7dafe5271bec2", func := "pub-kmsg/laws.FnCutDescribeACLsRequest", spec := "fnCutDescribeACLsRequest", inPlace := ["internal/reflectlite.ValueOf", "internal/reflectlite.Swapper", "(internal/reflectlite.Value).Len"], unfollowed := true, recurses := true, named := ["encoding/binary.BigEndian", "pub-kmsg/pub/kmsg/inner/kbin.ErrNotEnoughData"], loops := true, apart := false, laid := [("pub-kmsg/pub/kmsg/inner/kbin.ErrNotEnoughData", laid_pub_kmsg_pub_kmsg_inner_kbin_ErrNotEnoughData)] }
def FnCutDescribeACLsRequestSaid : Prop := fnCutDescribeACLsRequestRow.holds Tryz.pinned (OpenSpec.ofChange fnCutDescribeACLsRequestSpec)

/-- ITS FALSE NEIGHBOUR: 'it returns false'. Refute it at one input. -/
def fnCutDescribeACLsRequestWrong : ChangeSpec := { name := "fnCutDescribeACLsRequest", fn := fun _ => fun
  | [d1, d2, d3] => { results := [.lit (.bool false)], args := [d1, d2, d3] }
  | _ => none }
def FnCutDescribeACLsRequestWrongFalsely : Prop := fnCutDescribeACLsRequestRow.holds Tryz.pinned (OpenSpec.ofChange fnCutDescribeACLsRequestWrong)

/-- 'laws.FnAgainAlterReplicaLogDirsResponse': WHATEVER THE INPUT: true; the input reads as it did. -/
def fnAgainAlterReplicaLogDirsResponseSpec : ChangeSpec := { name := "fnAgainAlterReplicaLogDirsResponse", fn := fun _ => fun
  | [d1, d2] => { results := [.lit (.bool true)], args := [d1, d2] }
  | _ => none }
def fnAgainAlterReplicaLogDirsResponseRow : OpenClaim := { program := "ytafoaplcmgfloaagreatdoor", sum := "e36ba7186f14d083f6b496a7a5c4a46716d3d87ebe8047f11de7dafe5271bec2", func := "pub-kmsg/laws.FnAgainAlterReplicaLogDirsResponse", spec := "fnAgainAlterReplicaLogDirsResponse", inPlace := ["internal/reflectlite.ValueOf", "internal/reflectlite.Swapper", "(internal/reflectlite.Value).Len"], unfollowed := true, recurses := true, named := ["encoding/binary.BigEndian", "pub-kmsg/pub/kmsg/inner/kbin.ErrNotEnoughData"], loops := true, apart := false, laid := [("pub-kmsg/pub/kmsg/inner/kbin.ErrNotEnoughData", laid_pub_kmsg_pub_kmsg_inner_kbin_ErrNotEnoughData)] }
def FnAgainAlterReplicaLogDirsResponseSaid : Prop := fnAgainAlterReplicaLogDirsResponseRow.holds Tryz.pinned (OpenSpec.ofChange fnAgainAlterReplicaLogDirsResponseSpec)

/-- ITS FALSE NEIGHBOUR: 'it returns false'. Refute it at one input. -/
def fnAgainAlterReplicaLogDirsResponseWrong : ChangeSpec := { name := "fnAgainAlterReplicaLogDirsResponse", fn := fun _ => fun
  | [d1, d2] => { results := [.lit (.bool false)], args := [d1, d2] }
  | _ => none }
def FnAgainAlterReplicaLogDirsResponseWrongFalsely : Prop := fnAgainAlterReplicaLogDirsResponseRow.holds Tryz.pinned (OpenSpec.ofChange fnAgainAlterReplicaLogDirsResponseWrong)

/-- 'laws.FnAgainDeleteShareGroupStateRequest': WHATEVER THE INPUT: true; the input reads as it did. -/
def fnAgainDeleteShareGroupStateRequestSpec : ChangeSpec := { name := "fnAgainDeleteShareGroupStateRequest", fn := fun _ => fun
  | [d1, d2] => { results := [.lit (.bool true)], args := [d1, d2] }
  | _ => none }
def fnAgainDeleteShareGroupStateRequestRow : OpenClaim := { program := "ytafoaplcmgfloaagreatdoor", sum := "e36ba7186f14d083f6b496a7a5c4a46716d3d87ebe8047f11de7dafe5271bec2", func := "pub-kmsg/laws.FnAgainDeleteShareGroupStateRequest", spec := "fnAgainDeleteShareGroupStateRequest", inPlace := ["internal/reflectlite.ValueOf", "internal/reflectlite.Swapper", "(internal/reflectlite.Value).Len"], unfollowed := true, recurses := true, named := ["encoding/binary.BigEndian", "pub-kmsg/pub/kmsg/inner/kbin.ErrNotEnoughData"], loops := true, apart := false, laid := [("pub-kmsg/pub/kmsg/inner/kbin.ErrNotEnoughData", laid_pub_kmsg_pub_kmsg_inner_kbin_ErrNotEnoughData)] }
def FnAgainDeleteShareGroupStateRequestSaid : Prop := fnAgainDeleteShareGroupStateRequestRow.holds Tryz.pinned (OpenSpec.ofChange fnAgainDeleteShareGroupStateRequestSpec)

/-- ITS FALSE NEIGHBOUR: 'it returns false'. Refute it at one input. -/
def fnAgainDeleteShareGroupStateRequestWrong : ChangeSpec := { name := "fnAgainDeleteShareGroupStateRequest", fn := fun _ => fun
  | [d1, d2] => { results := [.lit (.bool false)], args := [d1, d2] }
  | _ => none }
def FnAgainDeleteShareGroupStateRequestWrongFalsely : Prop := fnAgainDeleteShareGroupStateRequestRow.holds Tryz.pinned (OpenSpec.ofChange fnAgainDeleteShareGroupStateRequestWrong)

/-- 'laws.FnCutElectLeadersRequest': WHATEVER THE INPUT: true; the input reads as it did. -/
def fnCutElectLeadersRequestSpec : ChangeSpec := { name := "fnCutElectLeadersRequest", fn := fun _ => fun
  | [d1, d2, d3] => { results := [.lit (.bool true)], args := [d1, d2, d3] }
  | _ => none }
def fnCutElectLeadersRequestRow : OpenClaim := { program := "ytafoaplcmgfloaagreatdoor", sum := "e36ba7186f14d083f6b496a7a5c4a46716d3d87ebe8047f11de7dafe5271bec2", func := "pub-kmsg/laws.FnCutElectLeadersRequest", spec := "fnCutElectLeadersRequest", inPlace := ["internal/reflectlite.ValueOf", "internal/reflectlite.Swapper", "(internal/reflectlite.Value).Len"], unfollowed := true, recurses := true, named := ["encoding/binary.BigEndian", "pub-kmsg/pub/kmsg/inner/kbin.ErrNotEnoughData"], loops := true, apart := false, laid := [("pub-kmsg/pub/kmsg/inner/kbin.ErrNotEnoughData", laid_pub_kmsg_pub_kmsg_inner_kbin_ErrNotEnoughData)] }
def FnCutElectLeadersRequestSaid : Prop := fnCutElectLeadersRequestRow.holds Tryz.pinned (OpenSpec.ofChange fnCutElectLeadersRequestSpec)

/-- ITS FALSE NEIGHBOUR: 'it returns false'. Refute it at one input. -/
def fnCutElectLeadersRequestWrong : ChangeSpec := { name := "fnCutElectLeadersRequest", fn := fun _ => fun
  | [d1, d2, d3] => { results := [.lit (.bool false)], args := [d1, d2, d3] }
  | _ => none }
def FnCutElectLeadersRequestWrongFalsely : Prop := fnCutElectLeadersRequestRow.holds Tryz.pinned (OpenSpec.ofChange fnCutElectLeadersRequestWrong)

/-- 'laws.FnAgainTxnOffsetCommitResponse': WHATEVER THE INPUT: true; the input reads as it did. -/
def fnAgainTxnOffsetCommitResponseSpec : ChangeSpec := { name := "fnAgainTxnOffsetCommitResponse", fn := fun _ => fun
  | [d1, d2] => { results := [.lit (.bool true)], args := [d1, d2] }
  | _ => none }
def fnAgainTxnOffsetCommitResponseRow : OpenClaim := { program := "ytafoaplcmgfloaagreatdoor", sum := "e36ba7186f14d083f6b496a7a5c4a46716d3d87ebe8047f11de7dafe5271bec2", func := "pub-kmsg/laws.FnAgainTxnOffsetCommitResponse", spec := "fnAgainTxnOffsetCommitResponse", inPlace := ["internal/reflectlite.ValueOf", "internal/reflectlite.Swapper", "(internal/reflectlite.Value).Len"], unfollowed := true, recurses := true, named := ["encoding/binary.BigEndian", "pub-kmsg/pub/kmsg/inner/kbin.ErrNotEnoughData"], loops := true, apart := false, laid := [("pub-kmsg/pub/kmsg/inner/kbin.ErrNotEnoughData", laid_pub_kmsg_pub_kmsg_inner_kbin_ErrNotEnoughData)] }
def FnAgainTxnOffsetCommitResponseSaid : Prop := fnAgainTxnOffsetCommitResponseRow.holds Tryz.pinned (OpenSpec.ofChange fnAgainTxnOffsetCommitResponseSpec)

/-- ITS FALSE NEIGHBOUR: 'it returns false'. Refute it at one input. -/
def fnAgainTxnOffsetCommitResponseWrong : ChangeSpec := { name := "fnAgainTxnOffsetCommitResponse", fn := fun _ => fun
  | [d1, d2] => { results := [.lit (.bool false)], args := [d1, d2] }
  | _ => none }
def FnAgainTxnOffsetCommitResponseWrongFalsely : Prop := fnAgainTxnOffsetCommitResponseRow.holds Tryz.pinned (OpenSpec.ofChange fnAgainTxnOffsetCommitResponseWrong)

/-- 'laws.FnCutAlterUserSCRAMCredentialsResponse': WHATEVER THE INPUT: true; the input reads as it did. -/
def fnCutAlterUserSCRAMCredentialsResponseSpec : ChangeSpec := { name := "fnCutAlterUserSCRAMCredentialsResponse", fn := fun _ => fun
  | [d1, d2, d3] => { results := [.lit (.bool true)], args := [d1, d2, d3] }
  | _ => none }
def fnCutAlterUserSCRAMCredentialsResponseRow : OpenClaim := { program := "ytafoaplcmgfloaagreatdoor", sum := "e36ba7186f14d083f6b496a7a5c4a46716d3d87ebe8047f11de7dafe5271bec2", func := "pub-kmsg/laws.FnCutAlterUserSCRAMCredentialsResponse", spec := "fnCutAlterUserSCRAMCredentialsResponse", inPlace := ["internal/reflectlite.ValueOf", "internal/reflectlite.Swapper", "(internal/reflectlite.Value).Len"], unfollowed := true, recurses := true, named := ["encoding/binary.BigEndian", "pub-kmsg/pub/kmsg/inner/kbin.ErrNotEnoughData"], loops := true, apart := false, laid := [("pub-kmsg/pub/kmsg/inner/kbin.ErrNotEnoughData", laid_pub_kmsg_pub_kmsg_inner_kbin_ErrNotEnoughData)] }
def FnCutAlterUserSCRAMCredentialsResponseSaid : Prop := fnCutAlterUserSCRAMCredentialsResponseRow.holds Tryz.pinned (OpenSpec.ofChange fnCutAlterUserSCRAMCredentialsResponseSpec)

/-- ITS FALSE NEIGHBOUR: 'it returns false'. Refute it at one input. -/
def fnCutAlterUserSCRAMCredentialsResponseWrong : ChangeSpec := { name := "fnCutAlterUserSCRAMCredentialsResponse", fn := fun _ => fun
  | [d1, d2, d3] => { results := [.lit (.bool false)], args := [d1, d2, d3] }
  | _ => none }
def FnCutAlterUserSCRAMCredentialsResponseWrongFalsely : Prop := fnCutAlterUserSCRAMCredentialsResponseRow.holds Tryz.pinned (OpenSpec.ofChange fnCutAlterUserSCRAMCredentialsResponseWrong)

/-- 'laws.FnAgainListGroupsResponse': WHATEVER THE INPUT: true; the input reads as it did. -/
def fnAgainListGroupsResponseSpec : ChangeSpec := { name := "fnAgainListGroupsResponse", fn := fun _ => fun
  | [d1, d2] => { results := [.lit (.bool true)], args := [d1, d2] }
  | _ => none }
def fnAgainListGroupsResponseRow : OpenClaim := { program := "ytafoaplcmgfloaagreatdoor", sum := "e36ba7186f14d083f6b496a7a5c4a46716d3d87ebe8047f11de7dafe5271bec2", func := "pub-kmsg/laws.FnAgainListGroupsResponse", spec := "fnAgainListGroupsResponse", inPlace := ["internal/reflectlite.ValueOf", "internal/reflectlite.Swapper", "(internal/reflectlite.Value).Len"], unfollowed := true, recurses := true, named := ["encoding/binary.BigEndian", "pub-kmsg/pub/kmsg/inner/kbin.ErrNotEnoughData"], loops := true, apart := false, laid := [("pub-kmsg/pub/kmsg/inner/kbin.ErrNotEnoughData", laid_pub_kmsg_pub_kmsg_inner_kbin_ErrNotEnoughData)] }
def FnAgainListGroupsResponseSaid : Prop := fnAgainListGroupsResponseRow.holds Tryz.pinned (OpenSpec.ofChange fnAgainListGroupsResponseSpec)

/-- ITS FALSE NEIGHBOUR: 'it returns false'. Refute it at one input. -/
def fnAgainListGroupsResponseWrong : ChangeSpec := { name := "fnAgainListGroupsResponse", fn := fun _ => fun
  | [d1, d2] => { results := [.lit (.bool false)], args := [d1, d2] }
  | _ => none }
def FnAgainListGroupsResponseWrongFalsely : Prop := fnAgainListGroupsResponseRow.holds Tryz.pinned (OpenSpec.ofChange fnAgainListGroupsResponseWrong)

/- THE SECOND FORM. 'bulk': how many values and letters a reading holds, each counted each time it is reached (what is shared counts as often as it is met; a slice's spare places count too). A statement '..UptoSaid' is the law's where the arguments, and the package variables that the reading takes, are together of bulk at most 1048576: NARROWER than '..Said'. Prove '..Said' where nothing that the law and all that it calls make is longer than what came in: it says more and counts as full. Else prove '..UptoSaid'. A law counts once. -/
mutual
def uptoBulk {H : Type} : DataW H → Nat
  | .lit (.string bytes) => bytes.length + 1
  | .lit _ => 1
  | .nil => 1
  | .ptr d => uptoBulk d + 1
  | .slice elems spare => uptoBulkAll elems + uptoBulkAll spare + 1
  | .agg parts => uptoBulkAll parts + 1
  | .iface _ d => uptoBulk d + 1
  | .map entries => uptoBulkEntries entries + 1
  | .held _ => 1
def uptoBulkAll {H : Type} : List (DataW H) → Nat
  | [] => 0
  | d :: r => uptoBulk d + uptoBulkAll r
def uptoBulkEntries {H : Type} : List (Lit × DataW H) → Nat
  | [] => 0
  | x :: r => uptoBulkEntry x + uptoBulkEntries r
def uptoBulkEntry {H : Type} : Lit × DataW H → Nat
  | (.string bytes, d) => bytes.length + uptoBulk d + 1
  | (_, d) => uptoBulk d + 1
 end
def uptoSmall : (H : Type) → List (DataW H) → Bool := fun _ ds => decide (uptoBulkAll ds ≤ 1048576)
def OpenSpec.upto (s : _root_.Go.ChangeSpec) : _root_.Go.OpenSpec := { _root_.Go.OpenSpec.ofChange s with cond := some uptoSmall }

/-- 'laws.FnCutSASLAuthenticateResponse', WHERE WHAT IT READS IS OF BULK AT MOST 1048576: true; the input reads as it did. -/
def fnCutSASLAuthenticateResponseUptoRow : OpenClaim := { program := "ytafoaplcmgfloaagreatdoor", sum := "e36ba7186f14d083f6b496a7a5c4a46716d3d87ebe8047f11de7dafe5271bec2", func := "pub-kmsg/laws.FnCutSASLAuthenticateResponse", spec := "fnCutSASLAuthenticateResponse", inPlace := ["internal/reflectlite.ValueOf", "internal/reflectlite.Swapper", "(internal/reflectlite.Value).Len"], unfollowed := true, recurses := true, named := ["encoding/binary.BigEndian", "pub-kmsg/pub/kmsg/inner/kbin.ErrNotEnoughData"], loops := true, apart := false, laid := [("pub-kmsg/pub/kmsg/inner/kbin.ErrNotEnoughData", laid_pub_kmsg_pub_kmsg_inner_kbin_ErrNotEnoughData)], narrowed := true }
def FnCutSASLAuthenticateResponseUptoSaid : Prop := fnCutSASLAuthenticateResponseUptoRow.holds Tryz.pinned (OpenSpec.upto fnCutSASLAuthenticateResponseSpec)

/-- 'laws.FnCutDescribeACLsRequest', WHERE WHAT IT READS IS OF BULK AT MOST 1048576: true; the input reads as it did. -/
def fnCutDescribeACLsRequestUptoRow : OpenClaim := { program := "ytafoaplcmgfloaagreatdoor", sum := "e36ba7186f14d083f6b496a7a5c4a46716d3d87ebe8047f11de7dafe5271bec2", func := "pub-kmsg/laws.FnCutDescribeACLsRequest", spec := "fnCutDescribeACLsRequest", inPlace := ["internal/reflectlite.ValueOf", "internal/reflectlite.Swapper", "(internal/reflectlite.Value).Len"], unfollowed := true, recurses := true, named := ["encoding/binary.BigEndian", "pub-kmsg/pub/kmsg/inner/kbin.ErrNotEnoughData"], loops := true, apart := false, laid := [("pub-kmsg/pub/kmsg/inner/kbin.ErrNotEnoughData", laid_pub_kmsg_pub_kmsg_inner_kbin_ErrNotEnoughData)], narrowed := true }
def FnCutDescribeACLsRequestUptoSaid : Prop := fnCutDescribeACLsRequestUptoRow.holds Tryz.pinned (OpenSpec.upto fnCutDescribeACLsRequestSpec)

/-- 'laws.FnAgainAlterReplicaLogDirsResponse', WHERE WHAT IT READS IS OF BULK AT MOST 1048576: true; the input reads as it did. -/
def fnAgainAlterReplicaLogDirsResponseUptoRow : OpenClaim := { program := "ytafoaplcmgfloaagreatdoor", sum := "e36ba7186f14d083f6b496a7a5c4a46716d3d87ebe8047f11de7dafe5271bec2", func := "pub-kmsg/laws.FnAgainAlterReplicaLogDirsResponse", spec := "fnAgainAlterReplicaLogDirsResponse", inPlace := ["internal/reflectlite.ValueOf", "internal/reflectlite.Swapper", "(internal/reflectlite.Value).Len"], unfollowed := true, recurses := true, named := ["encoding/binary.BigEndian", "pub-kmsg/pub/kmsg/inner/kbin.ErrNotEnoughData"], loops := true, apart := false, laid := [("pub-kmsg/pub/kmsg/inner/kbin.ErrNotEnoughData", laid_pub_kmsg_pub_kmsg_inner_kbin_ErrNotEnoughData)], narrowed := true }
def FnAgainAlterReplicaLogDirsResponseUptoSaid : Prop := fnAgainAlterReplicaLogDirsResponseUptoRow.holds Tryz.pinned (OpenSpec.upto fnAgainAlterReplicaLogDirsResponseSpec)

/-- 'laws.FnAgainDeleteShareGroupStateRequest', WHERE WHAT IT READS IS OF BULK AT MOST 1048576: true; the input reads as it did. -/
def fnAgainDeleteShareGroupStateRequestUptoRow : OpenClaim := { program := "ytafoaplcmgfloaagreatdoor", sum := "e36ba7186f14d083f6b496a7a5c4a46716d3d87ebe8047f11de7dafe5271bec2", func := "pub-kmsg/laws.FnAgainDeleteShareGroupStateRequest", spec := "fnAgainDeleteShareGroupStateRequest", inPlace := ["internal/reflectlite.ValueOf", "internal/reflectlite.Swapper", "(internal/reflectlite.Value).Len"], unfollowed := true, recurses := true, named := ["encoding/binary.BigEndian", "pub-kmsg/pub/kmsg/inner/kbin.ErrNotEnoughData"], loops := true, apart := false, laid := [("pub-kmsg/pub/kmsg/inner/kbin.ErrNotEnoughData", laid_pub_kmsg_pub_kmsg_inner_kbin_ErrNotEnoughData)], narrowed := true }
def FnAgainDeleteShareGroupStateRequestUptoSaid : Prop := fnAgainDeleteShareGroupStateRequestUptoRow.holds Tryz.pinned (OpenSpec.upto fnAgainDeleteShareGroupStateRequestSpec)

/-- 'laws.FnCutElectLeadersRequest', WHERE WHAT IT READS IS OF BULK AT MOST 1048576: true; the input reads as it did. -/
def fnCutElectLeadersRequestUptoRow : OpenClaim := { program := "ytafoaplcmgfloaagreatdoor", sum := "e36ba7186f14d083f6b496a7a5c4a46716d3d87ebe8047f11de7dafe5271bec2", func := "pub-kmsg/laws.FnCutElectLeadersRequest", spec := "fnCutElectLeadersRequest", inPlace := ["internal/reflectlite.ValueOf", "internal/reflectlite.Swapper", "(internal/reflectlite.Value).Len"], unfollowed := true, recurses := true, named := ["encoding/binary.BigEndian", "pub-kmsg/pub/kmsg/inner/kbin.ErrNotEnoughData"], loops := true, apart := false, laid := [("pub-kmsg/pub/kmsg/inner/kbin.ErrNotEnoughData", laid_pub_kmsg_pub_kmsg_inner_kbin_ErrNotEnoughData)], narrowed := true }
def FnCutElectLeadersRequestUptoSaid : Prop := fnCutElectLeadersRequestUptoRow.holds Tryz.pinned (OpenSpec.upto fnCutElectLeadersRequestSpec)

/-- 'laws.FnAgainTxnOffsetCommitResponse', WHERE WHAT IT READS IS OF BULK AT MOST 1048576: true; the input reads as it did. -/
def fnAgainTxnOffsetCommitResponseUptoRow : OpenClaim := { program := "ytafoaplcmgfloaagreatdoor", sum := "e36ba7186f14d083f6b496a7a5c4a46716d3d87ebe8047f11de7dafe5271bec2", func := "pub-kmsg/laws.FnAgainTxnOffsetCommitResponse", spec := "fnAgainTxnOffsetCommitResponse", inPlace := ["internal/reflectlite.ValueOf", "internal/reflectlite.Swapper", "(internal/reflectlite.Value).Len"], unfollowed := true, recurses := true, named := ["encoding/binary.BigEndian", "pub-kmsg/pub/kmsg/inner/kbin.ErrNotEnoughData"], loops := true, apart := false, laid := [("pub-kmsg/pub/kmsg/inner/kbin.ErrNotEnoughData", laid_pub_kmsg_pub_kmsg_inner_kbin_ErrNotEnoughData)], narrowed := true }
def FnAgainTxnOffsetCommitResponseUptoSaid : Prop := fnAgainTxnOffsetCommitResponseUptoRow.holds Tryz.pinned (OpenSpec.upto fnAgainTxnOffsetCommitResponseSpec)

/-- 'laws.FnCutAlterUserSCRAMCredentialsResponse', WHERE WHAT IT READS IS OF BULK AT MOST 1048576: true; the input reads as it did. -/
def fnCutAlterUserSCRAMCredentialsResponseUptoRow : OpenClaim := { program := "ytafoaplcmgfloaagreatdoor", sum := "e36ba7186f14d083f6b496a7a5c4a46716d3d87ebe8047f11de7dafe5271bec2", func := "pub-kmsg/laws.FnCutAlterUserSCRAMCredentialsResponse", spec := "fnCutAlterUserSCRAMCredentialsResponse", inPlace := ["internal/reflectlite.ValueOf", "internal/reflectlite.Swapper", "(internal/reflectlite.Value).Len"], unfollowed := true, recurses := true, named := ["encoding/binary.BigEndian", "pub-kmsg/pub/kmsg/inner/kbin.ErrNotEnoughData"], loops := true, apart := false, laid := [("pub-kmsg/pub/kmsg/inner/kbin.ErrNotEnoughData", laid_pub_kmsg_pub_kmsg_inner_kbin_ErrNotEnoughData)], narrowed := true }
def FnCutAlterUserSCRAMCredentialsResponseUptoSaid : Prop := fnCutAlterUserSCRAMCredentialsResponseUptoRow.holds Tryz.pinned (OpenSpec.upto fnCutAlterUserSCRAMCredentialsResponseSpec)

/-- 'laws.FnAgainListGroupsResponse', WHERE WHAT IT READS IS OF BULK AT MOST 1048576: true; the input reads as it did. -/
def fnAgainListGroupsResponseUptoRow : OpenClaim := { program := "ytafoaplcmgfloaagreatdoor", sum := "e36ba7186f14d083f6b496a7a5c4a46716d3d87ebe8047f11de7dafe5271bec2", func := "pub-kmsg/laws.FnAgainListGroupsResponse", spec := "fnAgainListGroupsResponse", inPlace := ["internal/reflectlite.ValueOf", "internal/reflectlite.Swapper", "(internal/reflectlite.Value).Len"], unfollowed := true, recurses := true, named := ["encoding/binary.BigEndian", "pub-kmsg/pub/kmsg/inner/kbin.ErrNotEnoughData"], loops := true, apart := false, laid := [("pub-kmsg/pub/kmsg/inner/kbin.ErrNotEnoughData", laid_pub_kmsg_pub_kmsg_inner_kbin_ErrNotEnoughData)], narrowed := true }
def FnAgainListGroupsResponseUptoSaid : Prop := fnAgainListGroupsResponseUptoRow.holds Tryz.pinned (OpenSpec.upto fnAgainListGroupsResponseSpec)

end Rows
end Go.Proofs.YtafoaplcmgfloaaGreatDoor
