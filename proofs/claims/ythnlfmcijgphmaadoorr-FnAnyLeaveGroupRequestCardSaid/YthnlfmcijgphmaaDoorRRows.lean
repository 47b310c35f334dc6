/-
  NARROWER THAN 'FOR EVERY INPUT', by the rows' own cells (each row's printed sentence says how): FnAnyDescribeClusterRequest: laid · FnAnyAlterPartitionAssignmentsRequest: laid · FnAnyLeaveGroupRequest: laid · FnAnyControllerRegistrationRequest: laid · FnAnyShareAcknowledgeResponse: laid · FnAnyAssignReplicasToDirsResponse: laid · FnAnyGetTelemetrySubscriptionsResponse: laid · FnAnyMetadataResponse: laid.
  DERIVED. THE GIVEN ROWS OF THIS SEAT. 8 by the template 'for every input the law returns true; each argument reads behind the call as it read before'; 0 by the template 'total and deterministic' (their statements: YthnlfmcijgphmaaDoorRTotals.lean).
  GIVEN WITH THE SEED: the statements are not yours to turn. If you find one false, say at which input.
  Laid BY PROGRAM, IN A SANDBOX (cutbox-rows.mjs): the forced cells as the released guide's own fill.sh prints them over the translation 9ce332bf2507e603… (all of the seat's roots in one cut). By AI agents, Wed Nov 11 2026. No macro, syntax, notation, axiom, sorry.
-/
import Derived.Test.YthnlfmcijgphmaaDoorRChecked
import GoSem.Claim
import GoSem.ClaimJoined
import GoSem.ClaimMapViews
import Derived.JoinedTies
import Derived.KernelRfl
namespace Go.Proofs.YthnlfmcijgphmaaDoorR
/- THE CELL 'sum', in the pinned program and in every row, IS THE sha256 OF THE DUMP (.gsa) THAT YthnlfmcijgphmaaDoorRProg.lean LOADS. Nothing in Lean hashes anything: it is a label: what it is worth is what the hold of that sum in a sandbox is worth. -/
noncomputable def Tryd.pinned : Pinned := { name := "ythnlfmcijgphmaadoorr", sum := "9ce332bf2507e60374a853638635320166300083229da9904407b67e485d212d", checked := Tryd.checked }
namespace Rows
def none {H : Type} : Left H := { results := [], args := [] }

/- WHAT THE LISTED PACKAGE-LEVEL VARIABLES READ AS WHEN THE CALL BEGINS. Each datum BY PROGRAM (the guide's laid-datum.mjs) off the statement by which the dump's own 'gosem.cut.vars' lays the variable. In a bare row this is a premise. The card (YthnlfmcijgphmaaDoorRCards.lean) ties it to the program's text. -/
def laid_pub_kmsg_pub_kmsg_inner_kbin_ErrNotEnoughData {H : Type} : DataW H := .iface "*errors.errorString" (.ptr (.agg [.lit (.string [114, 101, 115, 112, 111, 110, 115, 101, 32, 100, 105, 100, 32, 110, 111, 116, 32, 99, 111, 110, 116, 97, 105, 110, 32, 101, 110, 111, 117, 103, 104, 32, 100, 97, 116, 97, 32, 116, 111, 32, 98, 101, 32, 118, 97, 108, 105, 100])]))

/-- 'laws.FnAnyDescribeClusterRequest': WHATEVER THE INPUT: true; the input reads as it did. -/
def fnAnyDescribeClusterRequestSpec : ChangeSpec := { name := "fnAnyDescribeClusterRequest", fn := fun _ => fun
  | [d1, d2] => { results := [.lit (.bool true)], args := [d1, d2] }
  | _ => none }
def fnAnyDescribeClusterRequestRow : OpenClaim := { program := "ythnlfmcijgphmaadoorr", sum := "9ce332bf2507e60374a853638635320166300083229da9904407b67e485d212d", func := "pub-kmsg/laws.FnAnyDescribeClusterRequest", spec := "fnAnyDescribeClusterRequest", inPlace := ["internal/reflectlite.ValueOf", "internal/reflectlite.Swapper", "(internal/reflectlite.Value).Len"], unfollowed := true, recurses := true, named := ["pub-kmsg/pub/kmsg/inner/kbin.ErrNotEnoughData"], apart := false, laid := [("pub-kmsg/pub/kmsg/inner/kbin.ErrNotEnoughData", laid_pub_kmsg_pub_kmsg_inner_kbin_ErrNotEnoughData)] }
def FnAnyDescribeClusterRequestSaid : Prop := fnAnyDescribeClusterRequestRow.holds Tryd.pinned (OpenSpec.ofChange fnAnyDescribeClusterRequestSpec)

/-- ITS FALSE NEIGHBOUR: 'it returns false'. Refute it at one input. -/
def fnAnyDescribeClusterRequestWrong : ChangeSpec := { name := "fnAnyDescribeClusterRequest", fn := fun _ => fun
  | [d1, d2] => { results := [.lit (.bool false)], args := [d1, d2] }
  | _ => none }
def FnAnyDescribeClusterRequestWrongFalsely : Prop := fnAnyDescribeClusterRequestRow.holds Tryd.pinned (OpenSpec.ofChange fnAnyDescribeClusterRequestWrong)

/-- 'laws.FnAnyAlterPartitionAssignmentsRequest': WHATEVER THE INPUT: true; the input reads as it did. -/
def fnAnyAlterPartitionAssignmentsRequestSpec : ChangeSpec := { name := "fnAnyAlterPartitionAssignmentsRequest", fn := fun _ => fun
  | [d1, d2] => { results := [.lit (.bool true)], args := [d1, d2] }
  | _ => none }
def fnAnyAlterPartitionAssignmentsRequestRow : OpenClaim := { program := "ythnlfmcijgphmaadoorr", sum := "9ce332bf2507e60374a853638635320166300083229da9904407b67e485d212d", func := "pub-kmsg/laws.FnAnyAlterPartitionAssignmentsRequest", spec := "fnAnyAlterPartitionAssignmentsRequest", inPlace := ["internal/reflectlite.ValueOf", "internal/reflectlite.Swapper", "(internal/reflectlite.Value).Len"], unfollowed := true, recurses := true, named := ["encoding/binary.BigEndian", "pub-kmsg/pub/kmsg/inner/kbin.ErrNotEnoughData"], apart := false, laid := [("pub-kmsg/pub/kmsg/inner/kbin.ErrNotEnoughData", laid_pub_kmsg_pub_kmsg_inner_kbin_ErrNotEnoughData)] }
def FnAnyAlterPartitionAssignmentsRequestSaid : Prop := fnAnyAlterPartitionAssignmentsRequestRow.holds Tryd.pinned (OpenSpec.ofChange fnAnyAlterPartitionAssignmentsRequestSpec)

/-- ITS FALSE NEIGHBOUR: 'it returns false'. Refute it at one input. -/
def fnAnyAlterPartitionAssignmentsRequestWrong : ChangeSpec := { name := "fnAnyAlterPartitionAssignmentsRequest", fn := fun _ => fun
  | [d1, d2] => { results := [.lit (.bool false)], args := [d1, d2] }
  | _ => none }
def FnAnyAlterPartitionAssignmentsRequestWrongFalsely : Prop := fnAnyAlterPartitionAssignmentsRequestRow.holds Tryd.pinned (OpenSpec.ofChange fnAnyAlterPartitionAssignmentsRequestWrong)

/-- 'laws.FnAnyLeaveGroupRequest': WHATEVER THE INPUT: true; the input reads as it did. -/
def fnAnyLeaveGroupRequestSpec : ChangeSpec := { name := "fnAnyLeaveGroupRequest", fn := fun _ => fun
  | [d1, d2] => { results := [.lit (.bool true)], args := [d1, d2] }
  | _ => none }
def fnAnyLeaveGroupRequestRow : OpenClaim := { program := "ythnlfmcijgphmaadoorr", sum := "9ce332bf2507e60374a853638635320166300083229da9904407b67e485d212d", func := "pub-kmsg/laws.FnAnyLeaveGroupRequest", spec := "fnAnyLeaveGroupRequest", inPlace := ["internal/reflectlite.ValueOf", "internal/reflectlite.Swapper", "(internal/reflectlite.Value).Len"], unfollowed := true, recurses := true, named := ["encoding/binary.BigEndian", "pub-kmsg/pub/kmsg/inner/kbin.ErrNotEnoughData"], apart := false, laid := [("pub-kmsg/pub/kmsg/inner/kbin.ErrNotEnoughData", laid_pub_kmsg_pub_kmsg_inner_kbin_ErrNotEnoughData)] }
def FnAnyLeaveGroupRequestSaid : Prop := fnAnyLeaveGroupRequestRow.holds Tryd.pinned (OpenSpec.ofChange fnAnyLeaveGroupRequestSpec)

/-- ITS FALSE NEIGHBOUR: 'it returns false'. Refute it at one input. -/
def fnAnyLeaveGroupRequestWrong : ChangeSpec := { name := "fnAnyLeaveGroupRequest", fn := fun _ => fun
  | [d1, d2] => { results := [.lit (.bool false)], args := [d1, d2] }
  | _ => none }
def FnAnyLeaveGroupRequestWrongFalsely : Prop := fnAnyLeaveGroupRequestRow.holds Tryd.pinned (OpenSpec.ofChange fnAnyLeaveGroupRequestWrong)

/-- 'laws.FnAnyControllerRegistrationRequest': WHATEVER THE INPUT: true; the input reads as it did. -/
def fnAnyControllerRegistrationRequestSpec : ChangeSpec := { name := "fnAnyControllerRegistrationRequest", fn := fun _ => fun
  | [d1, d2] => { results := [.lit (.bool true)], args := [d1, d2] }
  | _ => none }
def fnAnyControllerRegistrationRequestRow : OpenClaim := { program := "ythnlfmcijgphmaadoorr", sum := "9ce332bf2507e60374a853638635320166300083229da9904407b67e485d212d", func := "pub-kmsg/laws.FnAnyControllerRegistrationRequest", spec := "fnAnyControllerRegistrationRequest", inPlace := ["internal/reflectlite.ValueOf", "internal/reflectlite.Swapper", "(internal/reflectlite.Value).Len"], unfollowed := true, recurses := true, named := ["encoding/binary.BigEndian", "pub-kmsg/pub/kmsg/inner/kbin.ErrNotEnoughData"], apart := false, laid := [("pub-kmsg/pub/kmsg/inner/kbin.ErrNotEnoughData", laid_pub_kmsg_pub_kmsg_inner_kbin_ErrNotEnoughData)] }
def FnAnyControllerRegistrationRequestSaid : Prop := fnAnyControllerRegistrationRequestRow.holds Tryd.pinned (OpenSpec.ofChange fnAnyControllerRegistrationRequestSpec)

/-- ITS FALSE NEIGHBOUR: 'it returns false'. Refute it at one input. -/
def fnAnyControllerRegistrationRequestWrong : ChangeSpec := { name := "fnAnyControllerRegistrationRequest", fn := fun _ => fun
  | [d1, d2] => { results := [.lit (.bool false)], args := [d1, d2] }
  | _ => none }
def FnAnyControllerRegistrationRequestWrongFalsely : Prop := fnAnyControllerRegistrationRequestRow.holds Tryd.pinned (OpenSpec.ofChange fnAnyControllerRegistrationRequestWrong)

/-- 'laws.FnAnyShareAcknowledgeResponse': WHATEVER THE INPUT: true; the input reads as it did. -/
def fnAnyShareAcknowledgeResponseSpec : ChangeSpec := { name := "fnAnyShareAcknowledgeResponse", fn := fun _ => fun
  | [d1, d2] => { results := [.lit (.bool true)], args := [d1, d2] }
  | _ => none }
def fnAnyShareAcknowledgeResponseRow : OpenClaim := { program := "ythnlfmcijgphmaadoorr", sum := "9ce332bf2507e60374a853638635320166300083229da9904407b67e485d212d", func := "pub-kmsg/laws.FnAnyShareAcknowledgeResponse", spec := "fnAnyShareAcknowledgeResponse", inPlace := ["internal/reflectlite.ValueOf", "internal/reflectlite.Swapper", "(internal/reflectlite.Value).Len"], unfollowed := true, recurses := true, named := ["encoding/binary.BigEndian", "pub-kmsg/pub/kmsg/inner/kbin.ErrNotEnoughData"], apart := false, laid := [("pub-kmsg/pub/kmsg/inner/kbin.ErrNotEnoughData", laid_pub_kmsg_pub_kmsg_inner_kbin_ErrNotEnoughData)] }
def FnAnyShareAcknowledgeResponseSaid : Prop := fnAnyShareAcknowledgeResponseRow.holds Tryd.pinned (OpenSpec.ofChange fnAnyShareAcknowledgeResponseSpec)

/-- ITS FALSE NEIGHBOUR: 'it returns false'. Refute it at one input. -/
def fnAnyShareAcknowledgeResponseWrong : ChangeSpec := { name := "fnAnyShareAcknowledgeResponse", fn := fun _ => fun
  | [d1, d2] => { results := [.lit (.bool false)], args := [d1, d2] }
  | _ => none }
def FnAnyShareAcknowledgeResponseWrongFalsely : Prop := fnAnyShareAcknowledgeResponseRow.holds Tryd.pinned (OpenSpec.ofChange fnAnyShareAcknowledgeResponseWrong)

/-- 'laws.FnAnyAssignReplicasToDirsResponse': WHATEVER THE INPUT: true; the input reads as it did. -/
def fnAnyAssignReplicasToDirsResponseSpec : ChangeSpec := { name := "fnAnyAssignReplicasToDirsResponse", fn := fun _ => fun
  | [d1, d2] => { results := [.lit (.bool true)], args := [d1, d2] }
  | _ => none }
def fnAnyAssignReplicasToDirsResponseRow : OpenClaim := { program := "ythnlfmcijgphmaadoorr", sum := "9ce332bf2507e60374a853638635320166300083229da9904407b67e485d212d", func := "pub-kmsg/laws.FnAnyAssignReplicasToDirsResponse", spec := "fnAnyAssignReplicasToDirsResponse", inPlace := ["internal/reflectlite.ValueOf", "internal/reflectlite.Swapper", "(internal/reflectlite.Value).Len"], unfollowed := true, recurses := true, named := ["encoding/binary.BigEndian", "pub-kmsg/pub/kmsg/inner/kbin.ErrNotEnoughData"], apart := false, laid := [("pub-kmsg/pub/kmsg/inner/kbin.ErrNotEnoughData", laid_pub_kmsg_pub_kmsg_inner_kbin_ErrNotEnoughData)] }
def FnAnyAssignReplicasToDirsResponseSaid : Prop := fnAnyAssignReplicasToDirsResponseRow.holds Tryd.pinned (OpenSpec.ofChange fnAnyAssignReplicasToDirsResponseSpec)

/-- ITS FALSE NEIGHBOUR: 'it returns false'. Refute it at one input. -/
def fnAnyAssignReplicasToDirsResponseWrong : ChangeSpec := { name := "fnAnyAssignReplicasToDirsResponse", fn := fun _ => fun
  | [d1, d2] => { results := [.lit (.bool false)], args := [d1, d2] }
  | _ => none }
def FnAnyAssignReplicasToDirsResponseWrongFalsely : Prop := fnAnyAssignReplicasToDirsResponseRow.holds Tryd.pinned (OpenSpec.ofChange fnAnyAssignReplicasToDirsResponseWrong)

/-- 'laws.FnAnyGetTelemetrySubscriptionsResponse': WHATEVER THE INPUT: true; the input reads as it did. -/
def fnAnyGetTelemetrySubscriptionsResponseSpec : ChangeSpec := { name := "fnAnyGetTelemetrySubscriptionsResponse", fn := fun _ => fun
  | [d1, d2] => { results := [.lit (.bool true)], args := [d1, d2] }
  | _ => none }
def fnAnyGetTelemetrySubscriptionsResponseRow : OpenClaim := { program := "ythnlfmcijgphmaadoorr", sum := "9ce332bf2507e60374a853638635320166300083229da9904407b67e485d212d", func := "pub-kmsg/laws.FnAnyGetTelemetrySubscriptionsResponse", spec := "fnAnyGetTelemetrySubscriptionsResponse", inPlace := ["internal/reflectlite.ValueOf", "internal/reflectlite.Swapper", "(internal/reflectlite.Value).Len"], unfollowed := true, recurses := true, named := ["encoding/binary.BigEndian", "pub-kmsg/pub/kmsg/inner/kbin.ErrNotEnoughData"], apart := false, laid := [("pub-kmsg/pub/kmsg/inner/kbin.ErrNotEnoughData", laid_pub_kmsg_pub_kmsg_inner_kbin_ErrNotEnoughData)] }
def FnAnyGetTelemetrySubscriptionsResponseSaid : Prop := fnAnyGetTelemetrySubscriptionsResponseRow.holds Tryd.pinned (OpenSpec.ofChange fnAnyGetTelemetrySubscriptionsResponseSpec)

/-- ITS FALSE NEIGHBOUR: 'it returns false'. Refute it at one input. -/
def fnAnyGetTelemetrySubscriptionsResponseWrong : ChangeSpec := { name := "fnAnyGetTelemetrySubscriptionsResponse", fn := fun _ => fun
  | [d1, d2] => { results := [.lit (.bool false)], args := [d1, d2] }
  | _ => none }
def FnAnyGetTelemetrySubscriptionsResponseWrongFalsely : Prop := fnAnyGetTelemetrySubscriptionsResponseRow.holds Tryd.pinned (OpenSpec.ofChange fnAnyGetTelemetrySubscriptionsResponseWrong)

/-- 'laws.FnAnyMetadataResponse': WHATEVER THE INPUT: true; the input reads as it did. -/
def fnAnyMetadataResponseSpec : ChangeSpec := { name := "fnAnyMetadataResponse", fn := fun _ => fun
  | [d1, d2] => { results := [.lit (.bool true)], args := [d1, d2] }
  | _ => none }
def fnAnyMetadataResponseRow : OpenClaim := { program := "ythnlfmcijgphmaadoorr", sum := "9ce332bf2507e60374a853638635320166300083229da9904407b67e485d212d", func := "pub-kmsg/laws.FnAnyMetadataResponse", spec := "fnAnyMetadataResponse", inPlace := ["internal/reflectlite.ValueOf", "internal/reflectlite.Swapper", "(internal/reflectlite.Value).Len"], unfollowed := true, recurses := true, named := ["encoding/binary.BigEndian", "pub-kmsg/pub/kmsg/inner/kbin.ErrNotEnoughData"], apart := false, laid := [("pub-kmsg/pub/kmsg/inner/kbin.ErrNotEnoughData", laid_pub_kmsg_pub_kmsg_inner_kbin_ErrNotEnoughData)] }
def FnAnyMetadataResponseSaid : Prop := fnAnyMetadataResponseRow.holds Tryd.pinned (OpenSpec.ofChange fnAnyMetadataResponseSpec)

/-- ITS FALSE NEIGHBOUR: 'it returns false'. Refute it at one input. -/
def fnAnyMetadataResponseWrong : ChangeSpec := { name := "fnAnyMetadataResponse", fn := fun _ => fun
  | [d1, d2] => { results := [.lit (.bool false)], args := [d1, d2] }
  | _ => none }
def FnAnyMetadataResponseWrongFalsely : Prop := fnAnyMetadataResponseRow.holds Tryd.pinned (OpenSpec.ofChange fnAnyMetadataResponseWrong)

/- THE SECOND FORM. 'bulk': how many values and letters a reading holds, each counted each time it is reached (what is shared counts as often as it is met; a slice's spare places count too). A statement '..UptoSaid' is the law's where the arguments, and the package variables that the reading takes, are together of bulk at most 1048576: NARROWER than '..Said'. Prove '..Said' where nothing that the law and all that it calls make is longer than what came in: it says more and counts as full. Else prove '..UptoSaid'. A law counts once. -/
mutual
def uptoBulk {H : Type} : DataW H → Nat
  | .lit (.string bytes) => bytes.length + 1
  | .lit _ => 1
  | .nil => 1
  | .ptr d => uptoBulk d + 1
  | .slice elems spare => uptoBulkAll elems + uptoBulkAll spare + 1
  | .agg parts => uptoBulkAll parts + 1
  | .iface _ d => uptoBulk d + 1
  | .map entries => uptoBulkEntries entries + 1
  | .held _ => 1
def uptoBulkAll {H : Type} : List (DataW H) → Nat
  | [] => 0
  | d :: r => uptoBulk d + uptoBulkAll r
def uptoBulkEntries {H : Type} : List (Lit × DataW H) → Nat
  | [] => 0
  | x :: r => uptoBulkEntry x + uptoBulkEntries r
def uptoBulkEntry {H : Type} : Lit × DataW H → Nat
  | (.string bytes, d) => bytes.length + uptoBulk d + 1
  | (_, d) => uptoBulk d + 1
 end
def uptoSmall : (H : Type) → List (DataW H) → Bool := fun _ ds => decide (uptoBulkAll ds ≤ 1048576)
def OpenSpec.upto (s : _root_.Go.ChangeSpec) : _root_.Go.OpenSpec := { _root_.Go.OpenSpec.ofChange s with cond := some uptoSmall }

/-- 'laws.FnAnyDescribeClusterRequest', WHERE WHAT IT READS IS OF BULK AT MOST 1048576: true; the input reads as it did. -/
def fnAnyDescribeClusterRequestUptoRow : OpenClaim := { program := "ythnlfmcijgphmaadoorr", sum := "9ce332bf2507e60374a853638635320166300083229da9904407b67e485d212d", func := "pub-kmsg/laws.FnAnyDescribeClusterRequest", spec := "fnAnyDescribeClusterRequest", inPlace := ["internal/reflectlite.ValueOf", "internal/reflectlite.Swapper", "(internal/reflectlite.Value).Len"], unfollowed := true, recurses := true, named := ["pub-kmsg/pub/kmsg/inner/kbin.ErrNotEnoughData"], apart := false, laid := [("pub-kmsg/pub/kmsg/inner/kbin.ErrNotEnoughData", laid_pub_kmsg_pub_kmsg_inner_kbin_ErrNotEnoughData)], narrowed := true }
def FnAnyDescribeClusterRequestUptoSaid : Prop := fnAnyDescribeClusterRequestUptoRow.holds Tryd.pinned (OpenSpec.upto fnAnyDescribeClusterRequestSpec)

/-- 'laws.FnAnyAlterPartitionAssignmentsRequest', WHERE WHAT IT READS IS OF BULK AT MOST 1048576: true; the input reads as it did. -/
def fnAnyAlterPartitionAssignmentsRequestUptoRow : OpenClaim := { program := "ythnlfmcijgphmaadoorr", sum := "9ce332bf2507e60374a853638635320166300083229da9904407b67e485d212d", func := "pub-kmsg/laws.FnAnyAlterPartitionAssignmentsRequest", spec := "fnAnyAlterPartitionAssignmentsRequest", inPlace := ["internal/reflectlite.ValueOf", "internal/reflectlite.Swapper", "(internal/reflectlite.Value).Len"], unfollowed := true, recurses := true, named := ["encoding/binary.BigEndian", "pub-kmsg/pub/kmsg/inner/kbin.ErrNotEnoughData"], apart := false, laid := [("pub-kmsg/pub/kmsg/inner/kbin.ErrNotEnoughData", laid_pub_kmsg_pub_kmsg_inner_kbin_ErrNotEnoughData)], narrowed := true }
def FnAnyAlterPartitionAssignmentsRequestUptoSaid : Prop := fnAnyAlterPartitionAssignmentsRequestUptoRow.holds Tryd.pinned (OpenSpec.upto fnAnyAlterPartitionAssignmentsRequestSpec)

/-- 'laws.FnAnyLeaveGroupRequest', WHERE WHAT IT READS IS OF BULK AT MOST 1048576: true; the input reads as it did. -/
def fnAnyLeaveGroupRequestUptoRow : OpenClaim := { program := "ythnlfmcijgphmaadoorr", sum := "9ce332bf2507e60374a853638635320166300083229da9904407b67e485d212d", func := "pub-kmsg/laws.FnAnyLeaveGroupRequest", spec := "fnAnyLeaveGroupRequest", inPlace := ["internal/reflectlite.ValueOf", "internal/reflectlite.Swapper", "(internal/reflectlite.Value).Len"], unfollowed := true, recurses := true, named := ["encoding/binary.BigEndian", "pub-kmsg/pub/kmsg/inner/kbin.ErrNotEnoughData"], apart := false, laid := [("pub-kmsg/pub/kmsg/inner/kbin.ErrNotEnoughData", laid_pub_kmsg_pub_kmsg_inner_kbin_ErrNotEnoughData)], narrowed := true }
def FnAnyLeaveGroupRequestUptoSaid : Prop := fnAnyLeaveGroupRequestUptoRow.holds Tryd.pinned (OpenSpec.upto fnAnyLeaveGroupRequestSpec)

/-- 'laws.FnAnyControllerRegistrationRequest', WHERE WHAT IT READS IS OF BULK AT MOST 1048576: true; the input reads as it did. -/
def fnAnyControllerRegistrationRequestUptoRow : OpenClaim := { program := "ythnlfmcijgphmaadoorr", sum := "9ce332bf2507e60374a853638635320166300083229da9904407b67e485d212d", func := "pub-kmsg/laws.FnAnyControllerRegistrationRequest", spec := "fnAnyControllerRegistrationRequest", inPlace := ["internal/reflectlite.ValueOf", "internal/reflectlite.Swapper", "(internal/reflectlite.Value).Len"], unfollowed := true, recurses := true, named := ["encoding/binary.BigEndian", "pub-kmsg/pub/kmsg/inner/kbin.ErrNotEnoughData"], apart := false, laid := [("pub-kmsg/pub/kmsg/inner/kbin.ErrNotEnoughData", laid_pub_kmsg_pub_kmsg_inner_kbin_ErrNotEnoughData)], narrowed := true }
def FnAnyControllerRegistrationRequestUptoSaid : Prop := fnAnyControllerRegistrationRequestUptoRow.holds Tryd.pinned (OpenSpec.upto fnAnyControllerRegistrationRequestSpec)

/-- 'laws.FnAnyShareAcknowledgeResponse', WHERE WHAT IT READS IS OF BULK AT MOST 1048576: true; the input reads as it did. -/
def fnAnyShareAcknowledgeResponseUptoRow : OpenClaim := { program := "ythnlfmcijgphmaadoorr", sum := "9ce332bf2507e60374a853638635320166300083229da9904407b67e485d212d", func := "pub-kmsg/laws.FnAnyShareAcknowledgeResponse", spec := "fnAnyShareAcknowledgeResponse", inPlace := ["internal/reflectlite.ValueOf", "internal/reflectlite.Swapper", "(internal/reflectlite.Value).Len"], unfollowed := true, recurses := true, named := ["encoding/binary.BigEndian", "pub-kmsg/pub/kmsg/inner/kbin.ErrNotEnoughData"], apart := false, laid := [("pub-kmsg/pub/kmsg/inner/kbin.ErrNotEnoughData", laid_pub_kmsg_pub_kmsg_inner_kbin_ErrNotEnoughData)], narrowed := true }
def FnAnyShareAcknowledgeResponseUptoSaid : Prop := fnAnyShareAcknowledgeResponseUptoRow.holds Tryd.pinned (OpenSpec.upto fnAnyShareAcknowledgeResponseSpec)

/-- 'laws.FnAnyAssignReplicasToDirsResponse', WHERE WHAT IT READS IS OF BULK AT MOST 1048576: true; the input reads as it did. -/
def fnAnyAssignReplicasToDirsResponseUptoRow : OpenClaim := { program := "ythnlfmcijgphmaadoorr", sum := "9ce332bf2507e60374a853638635320166300083229da9904407b67e485d212d", func := "pub-kmsg/laws.FnAnyAssignReplicasToDirsResponse", spec := "fnAnyAssignReplicasToDirsResponse", inPlace := ["internal/reflectlite.ValueOf", "internal/reflectlite.Swapper", "(internal/reflectlite.Value).Len"], unfollowed := true, recurses := true, named := ["encoding/binary.BigEndian", "pub-kmsg/pub/kmsg/inner/kbin.ErrNotEnoughData"], apart := false, laid := [("pub-kmsg/pub/kmsg/inner/kbin.ErrNotEnoughData", laid_pub_kmsg_pub_kmsg_inner_kbin_ErrNotEnoughData)], narrowed := true }
def FnAnyAssignReplicasToDirsResponseUptoSaid : Prop := fnAnyAssignReplicasToDirsResponseUptoRow.holds Tryd.pinned (OpenSpec.upto fnAnyAssignReplicasToDirsResponseSpec)

/-- 'laws.FnAnyGetTelemetrySubscriptionsResponse', WHERE WHAT IT READS IS OF BULK AT MOST 1048576: true; the input reads as it did. -/
def fnAnyGetTelemetrySubscriptionsResponseUptoRow : OpenClaim := { program := "ythnlfmcijgphmaadoorr", sum := "9ce332bf2507e60374a853638635320166300083229da9904407b67e485d212d", func := "pub-kmsg/laws.FnAnyGetTelemetrySubscriptionsResponse", spec := "fnAnyGetTelemetrySubscriptionsResponse", inPlace := ["internal/reflectlite.ValueOf", "internal/reflectlite.Swapper", "(internal/reflectlite.Value).Len"], unfollowed := true, recurses := true, named := ["encoding/binary.BigEndian", "pub-kmsg/pub/kmsg/inner/kbin.ErrNotEnoughData"], apart := false, laid := [("pub-kmsg/pub/kmsg/inner/kbin.ErrNotEnoughData", laid_pub_kmsg_pub_kmsg_inner_kbin_ErrNotEnoughData)], narrowed := true }
def FnAnyGetTelemetrySubscriptionsResponseUptoSaid : Prop := fnAnyGetTelemetrySubscriptionsResponseUptoRow.holds Tryd.pinned (OpenSpec.upto fnAnyGetTelemetrySubscriptionsResponseSpec)

/-- 'laws.FnAnyMetadataResponse', WHERE WHAT IT READS IS OF BULK AT MOST 1048576: true; the input reads as it did. -/
def fnAnyMetadataResponseUptoRow : OpenClaim := { program := "ythnlfmcijgphmaadoorr", sum := "9ce332bf2507e60374a853638635320166300083229da9904407b67e485d212d", func := "pub-kmsg/laws.FnAnyMetadataResponse", spec := "fnAnyMetadataResponse", inPlace := ["internal/reflectlite.ValueOf", "internal/reflectlite.Swapper", "(internal/reflectlite.Value).Len"], unfollowed := true, recurses := true, named := ["encoding/binary.BigEndian", "pub-kmsg/pub/kmsg/inner/kbin.ErrNotEnoughData"], apart := false, laid := [("pub-kmsg/pub/kmsg/inner/kbin.ErrNotEnoughData", laid_pub_kmsg_pub_kmsg_inner_kbin_ErrNotEnoughData)], narrowed := true }
def FnAnyMetadataResponseUptoSaid : Prop := fnAnyMetadataResponseUptoRow.holds Tryd.pinned (OpenSpec.upto fnAnyMetadataResponseSpec)

end Rows
end Go.Proofs.YthnlfmcijgphmaaDoorR
