/-
  No cell of these rows narrows 'for every input' (looked for: loops, veiled, ifaces, maps, wideKeys, modest, calm, conditions, laid).
  DERIVED. THE GIVEN ROWS OF THIS SEAT. 15 by the template 'for every input the law returns true; each argument reads behind the call as it read before'; 0 by the template 'total and deterministic' (their statements: YtbhmbdkeogdmcaaTotals.lean).
  GIVEN WITH THE SEED: the statements are not yours to turn. If you find one false, say at which input.
  Laid BY PROGRAM, IN A SANDBOX (cutbox-rows.mjs): the forced cells as the released guide's own fill.sh prints them over the translation 3853416a1e31126b… (all of the seat's roots in one cut). By AI agents, Wed Nov 11 2026. No macro, syntax, notation, axiom, sorry.
-/
import Derived.Test.YtbhmbdkeogdmcaaChecked
import GoSem.Claim
import GoSem.ClaimJoined
import GoSem.ClaimMapViews
import Derived.JoinedTies
import Derived.KernelRfl
namespace Go.Proofs.Ytbhmbdkeogdmcaa
/- THE CELL 'sum', in the pinned program and in every row, IS THE sha256 OF THE DUMP (.gsa) THAT YtbhmbdkeogdmcaaProg.lean LOADS. Nothing in Lean hashes anything: it is a label: what it is worth is what the hold of that sum in a sandbox is worth. -/
noncomputable def Try.pinned : Pinned := { name := "ytbhmbdkeogdmcaa", sum := "3853416a1e31126b1125dfaf8100e8741d4173d963447537aeb561cd5b05534a", checked := Try.checked }
namespace Rows
def none {H : Type} : Left H := { results := [], args := [] }

/-- 'laws.FnNewAddOffsetsToTxnResponse': WHATEVER THE INPUT: true; the input reads as it did. -/
def fnNewAddOffsetsToTxnResponseSpec : ChangeSpec := { name := "fnNewAddOffsetsToTxnResponse", fn := fun _ => fun
  | [d] => { results := [.lit (.bool true)], args := [d] }
  | _ => none }
def fnNewAddOffsetsToTxnResponseRow : OpenClaim := { program := "ytbhmbdkeogdmcaa", sum := "3853416a1e31126b1125dfaf8100e8741d4173d963447537aeb561cd5b05534a", func := "pub-kmsg/laws.FnNewAddOffsetsToTxnResponse", spec := "fnNewAddOffsetsToTxnResponse", inPlace := ["internal/reflectlite.ValueOf", "internal/reflectlite.Swapper", "(internal/reflectlite.Value).Len"], unfollowed := true, recurses := true, apart := false }
def FnNewAddOffsetsToTxnResponseSaid : Prop := fnNewAddOffsetsToTxnResponseRow.holds Try.pinned (OpenSpec.ofChange fnNewAddOffsetsToTxnResponseSpec)

/-- ITS FALSE NEIGHBOUR: 'it returns false'. Refute it at one input. -/
def fnNewAddOffsetsToTxnResponseWrong : ChangeSpec := { name := "fnNewAddOffsetsToTxnResponse", fn := fun _ => fun
  | [d] => { results := [.lit (.bool false)], args := [d] }
  | _ => none }
def FnNewAddOffsetsToTxnResponseWrongFalsely : Prop := fnNewAddOffsetsToTxnResponseRow.holds Try.pinned (OpenSpec.ofChange fnNewAddOffsetsToTxnResponseWrong)

/-- 'laws.FnNewHeartbeatResponse': WHATEVER THE INPUT: true; the input reads as it did. -/
def fnNewHeartbeatResponseSpec : ChangeSpec := { name := "fnNewHeartbeatResponse", fn := fun _ => fun
  | [d] => { results := [.lit (.bool true)], args := [d] }
  | _ => none }
def fnNewHeartbeatResponseRow : OpenClaim := { program := "ytbhmbdkeogdmcaa", sum := "3853416a1e31126b1125dfaf8100e8741d4173d963447537aeb561cd5b05534a", func := "pub-kmsg/laws.FnNewHeartbeatResponse", spec := "fnNewHeartbeatResponse", inPlace := ["internal/reflectlite.ValueOf", "internal/reflectlite.Swapper", "(internal/reflectlite.Value).Len"], unfollowed := true, recurses := true, apart := false }
def FnNewHeartbeatResponseSaid : Prop := fnNewHeartbeatResponseRow.holds Try.pinned (OpenSpec.ofChange fnNewHeartbeatResponseSpec)

/-- ITS FALSE NEIGHBOUR: 'it returns false'. Refute it at one input. -/
def fnNewHeartbeatResponseWrong : ChangeSpec := { name := "fnNewHeartbeatResponse", fn := fun _ => fun
  | [d] => { results := [.lit (.bool false)], args := [d] }
  | _ => none }
def FnNewHeartbeatResponseWrongFalsely : Prop := fnNewHeartbeatResponseRow.holds Try.pinned (OpenSpec.ofChange fnNewHeartbeatResponseWrong)

/-- 'laws.FnNewListConfigResourcesRequest': WHATEVER THE INPUT: true; the input reads as it did. -/
def fnNewListConfigResourcesRequestSpec : ChangeSpec := { name := "fnNewListConfigResourcesRequest", fn := fun _ => fun
  | [d] => { results := [.lit (.bool true)], args := [d] }
  | _ => none }
def fnNewListConfigResourcesRequestRow : OpenClaim := { program := "ytbhmbdkeogdmcaa", sum := "3853416a1e31126b1125dfaf8100e8741d4173d963447537aeb561cd5b05534a", func := "pub-kmsg/laws.FnNewListConfigResourcesRequest", spec := "fnNewListConfigResourcesRequest", inPlace := ["internal/reflectlite.ValueOf", "internal/reflectlite.Swapper", "(internal/reflectlite.Value).Len"], unfollowed := true, recurses := true, apart := false }
def FnNewListConfigResourcesRequestSaid : Prop := fnNewListConfigResourcesRequestRow.holds Try.pinned (OpenSpec.ofChange fnNewListConfigResourcesRequestSpec)

/-- ITS FALSE NEIGHBOUR: 'it returns false'. Refute it at one input. -/
def fnNewListConfigResourcesRequestWrong : ChangeSpec := { name := "fnNewListConfigResourcesRequest", fn := fun _ => fun
  | [d] => { results := [.lit (.bool false)], args := [d] }
  | _ => none }
def FnNewListConfigResourcesRequestWrongFalsely : Prop := fnNewListConfigResourcesRequestRow.holds Try.pinned (OpenSpec.ofChange fnNewListConfigResourcesRequestWrong)

/-- 'laws.FnNewEnvelopeRequest': WHATEVER THE INPUT: true; the input reads as it did. -/
def fnNewEnvelopeRequestSpec : ChangeSpec := { name := "fnNewEnvelopeRequest", fn := fun _ => fun
  | [d] => { results := [.lit (.bool true)], args := [d] }
  | _ => none }
def fnNewEnvelopeRequestRow : OpenClaim := { program := "ytbhmbdkeogdmcaa", sum := "3853416a1e31126b1125dfaf8100e8741d4173d963447537aeb561cd5b05534a", func := "pub-kmsg/laws.FnNewEnvelopeRequest", spec := "fnNewEnvelopeRequest", inPlace := ["internal/reflectlite.ValueOf", "internal/reflectlite.Swapper", "(internal/reflectlite.Value).Len"], unfollowed := true, recurses := true, apart := false }
def FnNewEnvelopeRequestSaid : Prop := fnNewEnvelopeRequestRow.holds Try.pinned (OpenSpec.ofChange fnNewEnvelopeRequestSpec)

/-- ITS FALSE NEIGHBOUR: 'it returns false'. Refute it at one input. -/
def fnNewEnvelopeRequestWrong : ChangeSpec := { name := "fnNewEnvelopeRequest", fn := fun _ => fun
  | [d] => { results := [.lit (.bool false)], args := [d] }
  | _ => none }
def FnNewEnvelopeRequestWrongFalsely : Prop := fnNewEnvelopeRequestRow.holds Try.pinned (OpenSpec.ofChange fnNewEnvelopeRequestWrong)

/-- 'laws.FnNewReadShareGroupStateSummaryRequest': WHATEVER THE INPUT: true; the input reads as it did. -/
def fnNewReadShareGroupStateSummaryRequestSpec : ChangeSpec := { name := "fnNewReadShareGroupStateSummaryRequest", fn := fun _ => fun
  | [d] => { results := [.lit (.bool true)], args := [d] }
  | _ => none }
def fnNewReadShareGroupStateSummaryRequestRow : OpenClaim := { program := "ytbhmbdkeogdmcaa", sum := "3853416a1e31126b1125dfaf8100e8741d4173d963447537aeb561cd5b05534a", func := "pub-kmsg/laws.FnNewReadShareGroupStateSummaryRequest", spec := "fnNewReadShareGroupStateSummaryRequest", inPlace := ["internal/reflectlite.ValueOf", "internal/reflectlite.Swapper", "(internal/reflectlite.Value).Len"], unfollowed := true, recurses := true, apart := false }
def FnNewReadShareGroupStateSummaryRequestSaid : Prop := fnNewReadShareGroupStateSummaryRequestRow.holds Try.pinned (OpenSpec.ofChange fnNewReadShareGroupStateSummaryRequestSpec)

/-- ITS FALSE NEIGHBOUR: 'it returns false'. Refute it at one input. -/
def fnNewReadShareGroupStateSummaryRequestWrong : ChangeSpec := { name := "fnNewReadShareGroupStateSummaryRequest", fn := fun _ => fun
  | [d] => { results := [.lit (.bool false)], args := [d] }
  | _ => none }
def FnNewReadShareGroupStateSummaryRequestWrongFalsely : Prop := fnNewReadShareGroupStateSummaryRequestRow.holds Try.pinned (OpenSpec.ofChange fnNewReadShareGroupStateSummaryRequestWrong)

/-- 'laws.FnNewOffsetCommitResponse': WHATEVER THE INPUT: true; the input reads as it did. -/
def fnNewOffsetCommitResponseSpec : ChangeSpec := { name := "fnNewOffsetCommitResponse", fn := fun _ => fun
  | [d] => { results := [.lit (.bool true)], args := [d] }
  | _ => none }
def fnNewOffsetCommitResponseRow : OpenClaim := { program := "ytbhmbdkeogdmcaa", sum := "3853416a1e31126b1125dfaf8100e8741d4173d963447537aeb561cd5b05534a", func := "pub-kmsg/laws.FnNewOffsetCommitResponse", spec := "fnNewOffsetCommitResponse", inPlace := ["internal/reflectlite.ValueOf", "internal/reflectlite.Swapper", "(internal/reflectlite.Value).Len"], unfollowed := true, recurses := true, apart := false }
def FnNewOffsetCommitResponseSaid : Prop := fnNewOffsetCommitResponseRow.holds Try.pinned (OpenSpec.ofChange fnNewOffsetCommitResponseSpec)

/-- ITS FALSE NEIGHBOUR: 'it returns false'. Refute it at one input. -/
def fnNewOffsetCommitResponseWrong : ChangeSpec := { name := "fnNewOffsetCommitResponse", fn := fun _ => fun
  | [d] => { results := [.lit (.bool false)], args := [d] }
  | _ => none }
def FnNewOffsetCommitResponseWrongFalsely : Prop := fnNewOffsetCommitResponseRow.holds Try.pinned (OpenSpec.ofChange fnNewOffsetCommitResponseWrong)

/-- 'laws.FnNewDeleteRecordsResponse': WHATEVER THE INPUT: true; the input reads as it did. -/
def fnNewDeleteRecordsResponseSpec : ChangeSpec := { name := "fnNewDeleteRecordsResponse", fn := fun _ => fun
  | [d] => { results := [.lit (.bool true)], args := [d] }
  | _ => none }
def fnNewDeleteRecordsResponseRow : OpenClaim := { program := "ytbhmbdkeogdmcaa", sum := "3853416a1e31126b1125dfaf8100e8741d4173d963447537aeb561cd5b05534a", func := "pub-kmsg/laws.FnNewDeleteRecordsResponse", spec := "fnNewDeleteRecordsResponse", inPlace := ["internal/reflectlite.ValueOf", "internal/reflectlite.Swapper", "(internal/reflectlite.Value).Len"], unfollowed := true, recurses := true, apart := false }
def FnNewDeleteRecordsResponseSaid : Prop := fnNewDeleteRecordsResponseRow.holds Try.pinned (OpenSpec.ofChange fnNewDeleteRecordsResponseSpec)

/-- ITS FALSE NEIGHBOUR: 'it returns false'. Refute it at one input. -/
def fnNewDeleteRecordsResponseWrong : ChangeSpec := { name := "fnNewDeleteRecordsResponse", fn := fun _ => fun
  | [d] => { results := [.lit (.bool false)], args := [d] }
  | _ => none }
def FnNewDeleteRecordsResponseWrongFalsely : Prop := fnNewDeleteRecordsResponseRow.holds Try.pinned (OpenSpec.ofChange fnNewDeleteRecordsResponseWrong)

/-- 'laws.FnNewCreateACLsRequest': WHATEVER THE INPUT: true; the input reads as it did. -/
def fnNewCreateACLsRequestSpec : ChangeSpec := { name := "fnNewCreateACLsRequest", fn := fun _ => fun
  | [d] => { results := [.lit (.bool true)], args := [d] }
  | _ => none }
def fnNewCreateACLsRequestRow : OpenClaim := { program := "ytbhmbdkeogdmcaa", sum := "3853416a1e31126b1125dfaf8100e8741d4173d963447537aeb561cd5b05534a", func := "pub-kmsg/laws.FnNewCreateACLsRequest", spec := "fnNewCreateACLsRequest", inPlace := ["internal/reflectlite.ValueOf", "internal/reflectlite.Swapper", "(internal/reflectlite.Value).Len"], unfollowed := true, recurses := true, apart := false }
def FnNewCreateACLsRequestSaid : Prop := fnNewCreateACLsRequestRow.holds Try.pinned (OpenSpec.ofChange fnNewCreateACLsRequestSpec)

/-- ITS FALSE NEIGHBOUR: 'it returns false'. Refute it at one input. -/
def fnNewCreateACLsRequestWrong : ChangeSpec := { name := "fnNewCreateACLsRequest", fn := fun _ => fun
  | [d] => { results := [.lit (.bool false)], args := [d] }
  | _ => none }
def FnNewCreateACLsRequestWrongFalsely : Prop := fnNewCreateACLsRequestRow.holds Try.pinned (OpenSpec.ofChange fnNewCreateACLsRequestWrong)

/-- 'laws.FnNewDescribeConfigsRequest': WHATEVER THE INPUT: true; the input reads as it did. -/
def fnNewDescribeConfigsRequestSpec : ChangeSpec := { name := "fnNewDescribeConfigsRequest", fn := fun _ => fun
  | [d] => { results := [.lit (.bool true)], args := [d] }
  | _ => none }
def fnNewDescribeConfigsRequestRow : OpenClaim := { program := "ytbhmbdkeogdmcaa", sum := "3853416a1e31126b1125dfaf8100e8741d4173d963447537aeb561cd5b05534a", func := "pub-kmsg/laws.FnNewDescribeConfigsRequest", spec := "fnNewDescribeConfigsRequest", inPlace := ["internal/reflectlite.ValueOf", "internal/reflectlite.Swapper", "(internal/reflectlite.Value).Len"], unfollowed := true, recurses := true, apart := false }
def FnNewDescribeConfigsRequestSaid : Prop := fnNewDescribeConfigsRequestRow.holds Try.pinned (OpenSpec.ofChange fnNewDescribeConfigsRequestSpec)

/-- ITS FALSE NEIGHBOUR: 'it returns false'. Refute it at one input. -/
def fnNewDescribeConfigsRequestWrong : ChangeSpec := { name := "fnNewDescribeConfigsRequest", fn := fun _ => fun
  | [d] => { results := [.lit (.bool false)], args := [d] }
  | _ => none }
def FnNewDescribeConfigsRequestWrongFalsely : Prop := fnNewDescribeConfigsRequestRow.holds Try.pinned (OpenSpec.ofChange fnNewDescribeConfigsRequestWrong)

/-- 'laws.FnNewUpdateRaftVoterResponse': WHATEVER THE INPUT: true; the input reads as it did. -/
def fnNewUpdateRaftVoterResponseSpec : ChangeSpec := { name := "fnNewUpdateRaftVoterResponse", fn := fun _ => fun
  | [d] => { results := [.lit (.bool true)], args := [d] }
  | _ => none }
def fnNewUpdateRaftVoterResponseRow : OpenClaim := { program := "ytbhmbdkeogdmcaa", sum := "3853416a1e31126b1125dfaf8100e8741d4173d963447537aeb561cd5b05534a", func := "pub-kmsg/laws.FnNewUpdateRaftVoterResponse", spec := "fnNewUpdateRaftVoterResponse", inPlace := ["internal/reflectlite.ValueOf", "internal/reflectlite.Swapper", "(internal/reflectlite.Value).Len"], unfollowed := true, recurses := true, apart := false }
def FnNewUpdateRaftVoterResponseSaid : Prop := fnNewUpdateRaftVoterResponseRow.holds Try.pinned (OpenSpec.ofChange fnNewUpdateRaftVoterResponseSpec)

/-- ITS FALSE NEIGHBOUR: 'it returns false'. Refute it at one input. -/
def fnNewUpdateRaftVoterResponseWrong : ChangeSpec := { name := "fnNewUpdateRaftVoterResponse", fn := fun _ => fun
  | [d] => { results := [.lit (.bool false)], args := [d] }
  | _ => none }
def FnNewUpdateRaftVoterResponseWrongFalsely : Prop := fnNewUpdateRaftVoterResponseRow.holds Try.pinned (OpenSpec.ofChange fnNewUpdateRaftVoterResponseWrong)

/-- 'laws.FnNewSyncGroupRequest': WHATEVER THE INPUT: true; the input reads as it did. -/
def fnNewSyncGroupRequestSpec : ChangeSpec := { name := "fnNewSyncGroupRequest", fn := fun _ => fun
  | [d] => { results := [.lit (.bool true)], args := [d] }
  | _ => none }
def fnNewSyncGroupRequestRow : OpenClaim := { program := "ytbhmbdkeogdmcaa", sum := "3853416a1e31126b1125dfaf8100e8741d4173d963447537aeb561cd5b05534a", func := "pub-kmsg/laws.FnNewSyncGroupRequest", spec := "fnNewSyncGroupRequest", inPlace := ["internal/reflectlite.ValueOf", "internal/reflectlite.Swapper", "(internal/reflectlite.Value).Len"], unfollowed := true, recurses := true, apart := false }
def FnNewSyncGroupRequestSaid : Prop := fnNewSyncGroupRequestRow.holds Try.pinned (OpenSpec.ofChange fnNewSyncGroupRequestSpec)

/-- ITS FALSE NEIGHBOUR: 'it returns false'. Refute it at one input. -/
def fnNewSyncGroupRequestWrong : ChangeSpec := { name := "fnNewSyncGroupRequest", fn := fun _ => fun
  | [d] => { results := [.lit (.bool false)], args := [d] }
  | _ => none }
def FnNewSyncGroupRequestWrongFalsely : Prop := fnNewSyncGroupRequestRow.holds Try.pinned (OpenSpec.ofChange fnNewSyncGroupRequestWrong)

/-- 'laws.FnNewBeginQuorumEpochResponse': WHATEVER THE INPUT: true; the input reads as it did. -/
def fnNewBeginQuorumEpochResponseSpec : ChangeSpec := { name := "fnNewBeginQuorumEpochResponse", fn := fun _ => fun
  | [d] => { results := [.lit (.bool true)], args := [d] }
  | _ => none }
def fnNewBeginQuorumEpochResponseRow : OpenClaim := { program := "ytbhmbdkeogdmcaa", sum := "3853416a1e31126b1125dfaf8100e8741d4173d963447537aeb561cd5b05534a", func := "pub-kmsg/laws.FnNewBeginQuorumEpochResponse", spec := "fnNewBeginQuorumEpochResponse", inPlace := ["internal/reflectlite.ValueOf", "internal/reflectlite.Swapper", "(internal/reflectlite.Value).Len"], unfollowed := true, recurses := true, apart := false }
def FnNewBeginQuorumEpochResponseSaid : Prop := fnNewBeginQuorumEpochResponseRow.holds Try.pinned (OpenSpec.ofChange fnNewBeginQuorumEpochResponseSpec)

/-- ITS FALSE NEIGHBOUR: 'it returns false'. Refute it at one input. -/
def fnNewBeginQuorumEpochResponseWrong : ChangeSpec := { name := "fnNewBeginQuorumEpochResponse", fn := fun _ => fun
  | [d] => { results := [.lit (.bool false)], args := [d] }
  | _ => none }
def FnNewBeginQuorumEpochResponseWrongFalsely : Prop := fnNewBeginQuorumEpochResponseRow.holds Try.pinned (OpenSpec.ofChange fnNewBeginQuorumEpochResponseWrong)

/-- 'laws.FnNewAlterPartitionRequest': WHATEVER THE INPUT: true; the input reads as it did. -/
def fnNewAlterPartitionRequestSpec : ChangeSpec := { name := "fnNewAlterPartitionRequest", fn := fun _ => fun
  | [d] => { results := [.lit (.bool true)], args := [d] }
  | _ => none }
def fnNewAlterPartitionRequestRow : OpenClaim := { program := "ytbhmbdkeogdmcaa", sum := "3853416a1e31126b1125dfaf8100e8741d4173d963447537aeb561cd5b05534a", func := "pub-kmsg/laws.FnNewAlterPartitionRequest", spec := "fnNewAlterPartitionRequest", inPlace := ["internal/reflectlite.ValueOf", "internal/reflectlite.Swapper", "(internal/reflectlite.Value).Len"], unfollowed := true, recurses := true, apart := false }
def FnNewAlterPartitionRequestSaid : Prop := fnNewAlterPartitionRequestRow.holds Try.pinned (OpenSpec.ofChange fnNewAlterPartitionRequestSpec)

/-- ITS FALSE NEIGHBOUR: 'it returns false'. Refute it at one input. -/
def fnNewAlterPartitionRequestWrong : ChangeSpec := { name := "fnNewAlterPartitionRequest", fn := fun _ => fun
  | [d] => { results := [.lit (.bool false)], args := [d] }
  | _ => none }
def FnNewAlterPartitionRequestWrongFalsely : Prop := fnNewAlterPartitionRequestRow.holds Try.pinned (OpenSpec.ofChange fnNewAlterPartitionRequestWrong)

/-- 'laws.FnNewDescribeShareGroupOffsetsResponse': WHATEVER THE INPUT: true; the input reads as it did. -/
def fnNewDescribeShareGroupOffsetsResponseSpec : ChangeSpec := { name := "fnNewDescribeShareGroupOffsetsResponse", fn := fun _ => fun
  | [d] => { results := [.lit (.bool true)], args := [d] }
  | _ => none }
def fnNewDescribeShareGroupOffsetsResponseRow : OpenClaim := { program := "ytbhmbdkeogdmcaa", sum := "3853416a1e31126b1125dfaf8100e8741d4173d963447537aeb561cd5b05534a", func := "pub-kmsg/laws.FnNewDescribeShareGroupOffsetsResponse", spec := "fnNewDescribeShareGroupOffsetsResponse", inPlace := ["internal/reflectlite.ValueOf", "internal/reflectlite.Swapper", "(internal/reflectlite.Value).Len"], unfollowed := true, recurses := true, apart := false }
def FnNewDescribeShareGroupOffsetsResponseSaid : Prop := fnNewDescribeShareGroupOffsetsResponseRow.holds Try.pinned (OpenSpec.ofChange fnNewDescribeShareGroupOffsetsResponseSpec)

/-- ITS FALSE NEIGHBOUR: 'it returns false'. Refute it at one input. -/
def fnNewDescribeShareGroupOffsetsResponseWrong : ChangeSpec := { name := "fnNewDescribeShareGroupOffsetsResponse", fn := fun _ => fun
  | [d] => { results := [.lit (.bool false)], args := [d] }
  | _ => none }
def FnNewDescribeShareGroupOffsetsResponseWrongFalsely : Prop := fnNewDescribeShareGroupOffsetsResponseRow.holds Try.pinned (OpenSpec.ofChange fnNewDescribeShareGroupOffsetsResponseWrong)

/-- 'laws.FnNewShareFetchResponse': WHATEVER THE INPUT: true; the input reads as it did. -/
def fnNewShareFetchResponseSpec : ChangeSpec := { name := "fnNewShareFetchResponse", fn := fun _ => fun
  | [d] => { results := [.lit (.bool true)], args := [d] }
  | _ => none }
def fnNewShareFetchResponseRow : OpenClaim := { program := "ytbhmbdkeogdmcaa", sum := "3853416a1e31126b1125dfaf8100e8741d4173d963447537aeb561cd5b05534a", func := "pub-kmsg/laws.FnNewShareFetchResponse", spec := "fnNewShareFetchResponse", inPlace := ["internal/reflectlite.ValueOf", "internal/reflectlite.Swapper", "(internal/reflectlite.Value).Len"], unfollowed := true, recurses := true, apart := false }
def FnNewShareFetchResponseSaid : Prop := fnNewShareFetchResponseRow.holds Try.pinned (OpenSpec.ofChange fnNewShareFetchResponseSpec)

/-- ITS FALSE NEIGHBOUR: 'it returns false'. Refute it at one input. -/
def fnNewShareFetchResponseWrong : ChangeSpec := { name := "fnNewShareFetchResponse", fn := fun _ => fun
  | [d] => { results := [.lit (.bool false)], args := [d] }
  | _ => none }
def FnNewShareFetchResponseWrongFalsely : Prop := fnNewShareFetchResponseRow.holds Try.pinned (OpenSpec.ofChange fnNewShareFetchResponseWrong)

/- THE SECOND FORM. 'bulk': how many values and letters a reading holds, each counted each time it is reached (what is shared counts as often as it is met; a slice's spare places count too). A statement '..UptoSaid' is the law's where the arguments, and the package variables that the reading takes, are together of bulk at most 1048576: NARROWER than '..Said'. Prove '..Said' where nothing that the law and all that it calls make is longer than what came in: it says more and counts as full. Else prove '..UptoSaid'. A law counts once. -/
mutual
def uptoBulk {H : Type} : DataW H → Nat
  | .lit (.string bytes) => bytes.length + 1
  | .lit _ => 1
  | .nil => 1
  | .ptr d => uptoBulk d + 1
  | .slice elems spare => uptoBulkAll elems + uptoBulkAll spare + 1
  | .agg parts => uptoBulkAll parts + 1
  | .iface _ d => uptoBulk d + 1
  | .map entries => uptoBulkEntries entries + 1
  | .held _ => 1
def uptoBulkAll {H : Type} : List (DataW H) → Nat
  | [] => 0
  | d :: r => uptoBulk d + uptoBulkAll r
def uptoBulkEntries {H : Type} : List (Lit × DataW H) → Nat
  | [] => 0
  | x :: r => uptoBulkEntry x + uptoBulkEntries r
def uptoBulkEntry {H : Type} : Lit × DataW H → Nat
  | (.string bytes, d) => bytes.length + uptoBulk d + 1
  | (_, d) => uptoBulk d + 1
 end
def uptoSmall : (H : Type) → List (DataW H) → Bool := fun _ ds => decide (uptoBulkAll ds ≤ 1048576)
def OpenSpec.upto (s : _root_.Go.ChangeSpec) : _root_.Go.OpenSpec := { _root_.Go.OpenSpec.ofChange s with cond := some uptoSmall }

/-- 'laws.FnNewAddOffsetsToTxnResponse', WHERE WHAT IT READS IS OF BULK AT MOST 1048576: true; the input reads as it did. -/
def fnNewAddOffsetsToTxnResponseUptoRow : OpenClaim := { program := "ytbhmbdkeogdmcaa", sum := "3853416a1e31126b1125dfaf8100e8741d4173d963447537aeb561cd5b05534a", func := "pub-kmsg/laws.FnNewAddOffsetsToTxnResponse", spec := "fnNewAddOffsetsToTxnResponse", inPlace := ["internal/reflectlite.ValueOf", "internal/reflectlite.Swapper", "(internal/reflectlite.Value).Len"], unfollowed := true, recurses := true, apart := false, narrowed := true }
def FnNewAddOffsetsToTxnResponseUptoSaid : Prop := fnNewAddOffsetsToTxnResponseUptoRow.holds Try.pinned (OpenSpec.upto fnNewAddOffsetsToTxnResponseSpec)

/-- 'laws.FnNewHeartbeatResponse', WHERE WHAT IT READS IS OF BULK AT MOST 1048576: true; the input reads as it did. -/
def fnNewHeartbeatResponseUptoRow : OpenClaim := { program := "ytbhmbdkeogdmcaa", sum := "3853416a1e31126b1125dfaf8100e8741d4173d963447537aeb561cd5b05534a", func := "pub-kmsg/laws.FnNewHeartbeatResponse", spec := "fnNewHeartbeatResponse", inPlace := ["internal/reflectlite.ValueOf", "internal/reflectlite.Swapper", "(internal/reflectlite.Value).Len"], unfollowed := true, recurses := true, apart := false, narrowed := true }
def FnNewHeartbeatResponseUptoSaid : Prop := fnNewHeartbeatResponseUptoRow.holds Try.pinned (OpenSpec.upto fnNewHeartbeatResponseSpec)

/-- 'laws.FnNewListConfigResourcesRequest', WHERE WHAT IT READS IS OF BULK AT MOST 1048576: true; the input reads as it did. -/
def fnNewListConfigResourcesRequestUptoRow : OpenClaim := { program := "ytbhmbdkeogdmcaa", sum := "3853416a1e31126b1125dfaf8100e8741d4173d963447537aeb561cd5b05534a", func := "pub-kmsg/laws.FnNewListConfigResourcesRequest", spec := "fnNewListConfigResourcesRequest", inPlace := ["internal/reflectlite.ValueOf", "internal/reflectlite.Swapper", "(internal/reflectlite.Value).Len"], unfollowed := true, recurses := true, apart := false, narrowed := true }
def FnNewListConfigResourcesRequestUptoSaid : Prop := fnNewListConfigResourcesRequestUptoRow.holds Try.pinned (OpenSpec.upto fnNewListConfigResourcesRequestSpec)

/-- 'laws.FnNewEnvelopeRequest', WHERE WHAT IT READS IS OF BULK AT MOST 1048576: true; the input reads as it did. -/
def fnNewEnvelopeRequestUptoRow : OpenClaim := { program := "ytbhmbdkeogdmcaa", sum := "3853416a1e31126b1125dfaf8100e8741d4173d963447537aeb561cd5b05534a", func := "pub-kmsg/laws.FnNewEnvelopeRequest", spec := "fnNewEnvelopeRequest", inPlace := ["internal/reflectlite.ValueOf", "internal/reflectlite.Swapper", "(internal/reflectlite.Value).Len"], unfollowed := true, recurses := true, apart := false, narrowed := true }
def FnNewEnvelopeRequestUptoSaid : Prop := fnNewEnvelopeRequestUptoRow.holds Try.pinned (OpenSpec.upto fnNewEnvelopeRequestSpec)

/-- 'laws.FnNewReadShareGroupStateSummaryRequest', WHERE WHAT IT READS IS OF BULK AT MOST 1048576: true; the input reads as it did. -/
def fnNewReadShareGroupStateSummaryRequestUptoRow : OpenClaim := { program := "ytbhmbdkeogdmcaa", sum := "3853416a1e31126b1125dfaf8100e8741d4173d963447537aeb561cd5b05534a", func := "pub-kmsg/laws.FnNewReadShareGroupStateSummaryRequest", spec := "fnNewReadShareGroupStateSummaryRequest", inPlace := ["internal/reflectlite.ValueOf", "internal/reflectlite.Swapper", "(internal/reflectlite.Value).Len"], unfollowed := true, recurses := true, apart := false, narrowed := true }
def FnNewReadShareGroupStateSummaryRequestUptoSaid : Prop := fnNewReadShareGroupStateSummaryRequestUptoRow.holds Try.pinned (OpenSpec.upto fnNewReadShareGroupStateSummaryRequestSpec)

/-- 'laws.FnNewOffsetCommitResponse', WHERE WHAT IT READS IS OF BULK AT MOST 1048576: true; the input reads as it did. -/
def fnNewOffsetCommitResponseUptoRow : OpenClaim := { program := "ytbhmbdkeogdmcaa", sum := "3853416a1e31126b1125dfaf8100e8741d4173d963447537aeb561cd5b05534a", func := "pub-kmsg/laws.FnNewOffsetCommitResponse", spec := "fnNewOffsetCommitResponse", inPlace := ["internal/reflectlite.ValueOf", "internal/reflectlite.Swapper", "(internal/reflectlite.Value).Len"], unfollowed := true, recurses := true, apart := false, narrowed := true }
def FnNewOffsetCommitResponseUptoSaid : Prop := fnNewOffsetCommitResponseUptoRow.holds Try.pinned (OpenSpec.upto fnNewOffsetCommitResponseSpec)

/-- 'laws.FnNewDeleteRecordsResponse', WHERE WHAT IT READS IS OF BULK AT MOST 1048576: true; the input reads as it did. -/
def fnNewDeleteRecordsResponseUptoRow : OpenClaim := { program := "ytbhmbdkeogdmcaa", sum := "3853416a1e31126b1125dfaf8100e8741d4173d963447537aeb561cd5b05534a", func := "pub-kmsg/laws.FnNewDeleteRecordsResponse", spec := "fnNewDeleteRecordsResponse", inPlace := ["internal/reflectlite.ValueOf", "internal/reflectlite.Swapper", "(internal/reflectlite.Value).Len"], unfollowed := true, recurses := true, apart := false, narrowed := true }
def FnNewDeleteRecordsResponseUptoSaid : Prop := fnNewDeleteRecordsResponseUptoRow.holds Try.pinned (OpenSpec.upto fnNewDeleteRecordsResponseSpec)

/-- 'laws.FnNewCreateACLsRequest', WHERE WHAT IT READS IS OF BULK AT MOST 1048576: true; the input reads as it did. -/
def fnNewCreateACLsRequestUptoRow : OpenClaim := { program := "ytbhmbdkeogdmcaa", sum := "3853416a1e31126b1125dfaf8100e8741d4173d963447537aeb561cd5b05534a", func := "pub-kmsg/laws.FnNewCreateACLsRequest", spec := "fnNewCreateACLsRequest", inPlace := ["internal/reflectlite.ValueOf", "internal/reflectlite.Swapper", "(internal/reflectlite.Value).Len"], unfollowed := true, recurses := true, apart := false, narrowed := true }
def FnNewCreateACLsRequestUptoSaid : Prop := fnNewCreateACLsRequestUptoRow.holds Try.pinned (OpenSpec.upto fnNewCreateACLsRequestSpec)

/-- 'laws.FnNewDescribeConfigsRequest', WHERE WHAT IT READS IS OF BULK AT MOST 1048576: true; the input reads as it did. -/
def fnNewDescribeConfigsRequestUptoRow : OpenClaim := { program := "ytbhmbdkeogdmcaa", sum := "3853416a1e31126b1125dfaf8100e8741d4173d963447537aeb561cd5b05534a", func := "pub-kmsg/laws.FnNewDescribeConfigsRequest", spec := "fnNewDescribeConfigsRequest", inPlace := ["internal/reflectlite.ValueOf", "internal/reflectlite.Swapper", "(internal/reflectlite.Value).Len"], unfollowed := true, recurses := true, apart := false, narrowed := true }
def FnNewDescribeConfigsRequestUptoSaid : Prop := fnNewDescribeConfigsRequestUptoRow.holds Try.pinned (OpenSpec.upto fnNewDescribeConfigsRequestSpec)

/-- 'laws.FnNewUpdateRaftVoterResponse', WHERE WHAT IT READS IS OF BULK AT MOST 1048576: true; the input reads as it did. -/
def fnNewUpdateRaftVoterResponseUptoRow : OpenClaim := { program := "ytbhmbdkeogdmcaa", sum := "3853416a1e31126b1125dfaf8100e8741d4173d963447537aeb561cd5b05534a", func := "pub-kmsg/laws.FnNewUpdateRaftVoterResponse", spec := "fnNewUpdateRaftVoterResponse", inPlace := ["internal/reflectlite.ValueOf", "internal/reflectlite.Swapper", "(internal/reflectlite.Value).Len"], unfollowed := true, recurses := true, apart := false, narrowed := true }
def FnNewUpdateRaftVoterResponseUptoSaid : Prop := fnNewUpdateRaftVoterResponseUptoRow.holds Try.pinned (OpenSpec.upto fnNewUpdateRaftVoterResponseSpec)

/-- 'laws.FnNewSyncGroupRequest', WHERE WHAT IT READS IS OF BULK AT MOST 1048576: true; the input reads as it did. -/
def fnNewSyncGroupRequestUptoRow : OpenClaim := { program := "ytbhmbdkeogdmcaa", sum := "3853416a1e31126b1125dfaf8100e8741d4173d963447537aeb561cd5b05534a", func := "pub-kmsg/laws.FnNewSyncGroupRequest", spec := "fnNewSyncGroupRequest", inPlace := ["internal/reflectlite.ValueOf", "internal/reflectlite.Swapper", "(internal/reflectlite.Value).Len"], unfollowed := true, recurses := true, apart := false, narrowed := true }
def FnNewSyncGroupRequestUptoSaid : Prop := fnNewSyncGroupRequestUptoRow.holds Try.pinned (OpenSpec.upto fnNewSyncGroupRequestSpec)

/-- 'laws.FnNewBeginQuorumEpochResponse', WHERE WHAT IT READS IS OF BULK AT MOST 1048576: true; the input reads as it did. -/
def fnNewBeginQuorumEpochResponseUptoRow : OpenClaim := { program := "ytbhmbdkeogdmcaa", sum := "3853416a1e31126b1125dfaf8100e8741d4173d963447537aeb561cd5b05534a", func := "pub-kmsg/laws.FnNewBeginQuorumEpochResponse", spec := "fnNewBeginQuorumEpochResponse", inPlace := ["internal/reflectlite.ValueOf", "internal/reflectlite.Swapper", "(internal/reflectlite.Value).Len"], unfollowed := true, recurses := true, apart := false, narrowed := true }
def FnNewBeginQuorumEpochResponseUptoSaid : Prop := fnNewBeginQuorumEpochResponseUptoRow.holds Try.pinned (OpenSpec.upto fnNewBeginQuorumEpochResponseSpec)

/-- 'laws.FnNewAlterPartitionRequest', WHERE WHAT IT READS IS OF BULK AT MOST 1048576: true; the input reads as it did. -/
def fnNewAlterPartitionRequestUptoRow : OpenClaim := { program := "ytbhmbdkeogdmcaa", sum := "3853416a1e31126b1125dfaf8100e8741d4173d963447537aeb561cd5b05534a", func := "pub-kmsg/laws.FnNewAlterPartitionRequest", spec := "fnNewAlterPartitionRequest", inPlace := ["internal/reflectlite.ValueOf", "internal/reflectlite.Swapper", "(internal/reflectlite.Value).Len"], unfollowed := true, recurses := true, apart := false, narrowed := true }
def FnNewAlterPartitionRequestUptoSaid : Prop := fnNewAlterPartitionRequestUptoRow.holds Try.pinned (OpenSpec.upto fnNewAlterPartitionRequestSpec)

/-- 'laws.FnNewDescribeShareGroupOffsetsResponse', WHERE WHAT IT READS IS OF BULK AT MOST 1048576: true; the input reads as it did. -/
def fnNewDescribeShareGroupOffsetsResponseUptoRow : OpenClaim := { program := "ytbhmbdkeogdmcaa", sum := "3853416a1e31126b1125dfaf8100e8741d4173d963447537aeb561cd5b05534a", func := "pub-kmsg/laws.FnNewDescribeShareGroupOffsetsResponse", spec := "fnNewDescribeShareGroupOffsetsResponse", inPlace := ["internal/reflectlite.ValueOf", "internal/reflectlite.Swapper", "(internal/reflectlite.Value).Len"], unfollowed := true, recurses := true, apart := false, narrowed := true }
def FnNewDescribeShareGroupOffsetsResponseUptoSaid : Prop := fnNewDescribeShareGroupOffsetsResponseUptoRow.holds Try.pinned (OpenSpec.upto fnNewDescribeShareGroupOffsetsResponseSpec)

/-- 'laws.FnNewShareFetchResponse', WHERE WHAT IT READS IS OF BULK AT MOST 1048576: true; the input reads as it did. -/
def fnNewShareFetchResponseUptoRow : OpenClaim := { program := "ytbhmbdkeogdmcaa", sum := "3853416a1e31126b1125dfaf8100e8741d4173d963447537aeb561cd5b05534a", func := "pub-kmsg/laws.FnNewShareFetchResponse", spec := "fnNewShareFetchResponse", inPlace := ["internal/reflectlite.ValueOf", "internal/reflectlite.Swapper", "(internal/reflectlite.Value).Len"], unfollowed := true, recurses := true, apart := false, narrowed := true }
def FnNewShareFetchResponseUptoSaid : Prop := fnNewShareFetchResponseUptoRow.holds Try.pinned (OpenSpec.upto fnNewShareFetchResponseSpec)

end Rows
end Go.Proofs.Ytbhmbdkeogdmcaa
