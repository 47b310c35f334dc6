/-
  No cell of these rows narrows 'for every input' (looked for: loops, veiled, ifaces, maps, wideKeys, modest, calm, conditions, laid).
  DERIVED. THE GIVEN ROWS OF THIS SEAT. 5 by the template 'for every input the law returns true; each argument reads behind the call as it read before'; 0 by the template 'total and deterministic' (their statements: YtbphhadalmnogaaTotals.lean).
  GIVEN WITH THE SEED: the statements are not yours to turn. If you find one false, say at which input.
  Laid BY PROGRAM, IN A SANDBOX (cutbox-rows.mjs): the forced cells as the released guide's own fill.sh prints them over the translation ec55291dbea2a98b… (all of the seat's roots in one cut). By AI agents, Wed Nov 11 2026. No macro, syntax, notation, axiom, sorry.
-/
import Derived.Test.YtbphhadalmnogaaChecked
import GoSem.Claim
import GoSem.ClaimJoined
import GoSem.ClaimMapViews
import Derived.JoinedTies
import Derived.KernelRfl
namespace Go.Proofs.Ytbphhadalmnogaa
/- THE CELL 'sum', in the pinned program and in every row, IS THE sha256 OF THE DUMP (.gsa) THAT YtbphhadalmnogaaProg.lean LOADS. Nothing in Lean hashes anything: it is a label: what it is worth is what the hold of that sum in a sandbox is worth. -/
noncomputable def Try.pinned : Pinned := { name := "ytbphhadalmnogaa", sum := "ec55291dbea2a98ba990f07204e1f9a415228f4f480d39fe386f15c0322e5832", checked := Try.checked }
namespace Rows
def none {H : Type} : Left H := { results := [], args := [] }

/-- 'laws.FnControlRecordKeyTypeWords': WHATEVER THE INPUT: true; the input reads as it did. -/
def fnControlRecordKeyTypeWordsSpec : ChangeSpec := { name := "fnControlRecordKeyTypeWords", fn := fun _ => fun
  | [] => { results := [.lit (.bool true)], args := [] }
  | _ => none }
def fnControlRecordKeyTypeWordsRow : OpenClaim := { program := "ytbphhadalmnogaa", sum := "ec55291dbea2a98ba990f07204e1f9a415228f4f480d39fe386f15c0322e5832", func := "pub-kmsg/laws.FnControlRecordKeyTypeWords", spec := "fnControlRecordKeyTypeWords", apart := false }
def FnControlRecordKeyTypeWordsSaid : Prop := fnControlRecordKeyTypeWordsRow.holds Try.pinned (OpenSpec.ofChange fnControlRecordKeyTypeWordsSpec)

/-- ITS FALSE NEIGHBOUR: 'it returns false'. Refute it at one input. -/
def fnControlRecordKeyTypeWordsWrong : ChangeSpec := { name := "fnControlRecordKeyTypeWords", fn := fun _ => fun
  | [] => { results := [.lit (.bool false)], args := [] }
  | _ => none }
def FnControlRecordKeyTypeWordsWrongFalsely : Prop := fnControlRecordKeyTypeWordsRow.holds Try.pinned (OpenSpec.ofChange fnControlRecordKeyTypeWordsWrong)

/-- 'laws.FnNewAddOffsetsToTxnResponse': WHATEVER THE INPUT: true; the input reads as it did. -/
def fnNewAddOffsetsToTxnResponseSpec : ChangeSpec := { name := "fnNewAddOffsetsToTxnResponse", fn := fun _ => fun
  | [d] => { results := [.lit (.bool true)], args := [d] }
  | _ => none }
def fnNewAddOffsetsToTxnResponseRow : OpenClaim := { program := "ytbphhadalmnogaa", sum := "ec55291dbea2a98ba990f07204e1f9a415228f4f480d39fe386f15c0322e5832", func := "pub-kmsg/laws.FnNewAddOffsetsToTxnResponse", spec := "fnNewAddOffsetsToTxnResponse", inPlace := ["internal/reflectlite.ValueOf", "internal/reflectlite.Swapper", "(internal/reflectlite.Value).Len"], unfollowed := true, recurses := true, apart := false }
def FnNewAddOffsetsToTxnResponseSaid : Prop := fnNewAddOffsetsToTxnResponseRow.holds Try.pinned (OpenSpec.ofChange fnNewAddOffsetsToTxnResponseSpec)

/-- ITS FALSE NEIGHBOUR: 'it returns false'. Refute it at one input. -/
def fnNewAddOffsetsToTxnResponseWrong : ChangeSpec := { name := "fnNewAddOffsetsToTxnResponse", fn := fun _ => fun
  | [d] => { results := [.lit (.bool false)], args := [d] }
  | _ => none }
def FnNewAddOffsetsToTxnResponseWrongFalsely : Prop := fnNewAddOffsetsToTxnResponseRow.holds Try.pinned (OpenSpec.ofChange fnNewAddOffsetsToTxnResponseWrong)

/-- 'laws.FnNewHeartbeatResponse': WHATEVER THE INPUT: true; the input reads as it did. -/
def fnNewHeartbeatResponseSpec : ChangeSpec := { name := "fnNewHeartbeatResponse", fn := fun _ => fun
  | [d] => { results := [.lit (.bool true)], args := [d] }
  | _ => none }
def fnNewHeartbeatResponseRow : OpenClaim := { program := "ytbphhadalmnogaa", sum := "ec55291dbea2a98ba990f07204e1f9a415228f4f480d39fe386f15c0322e5832", func := "pub-kmsg/laws.FnNewHeartbeatResponse", spec := "fnNewHeartbeatResponse", inPlace := ["internal/reflectlite.ValueOf", "internal/reflectlite.Swapper", "(internal/reflectlite.Value).Len"], unfollowed := true, recurses := true, apart := false }
def FnNewHeartbeatResponseSaid : Prop := fnNewHeartbeatResponseRow.holds Try.pinned (OpenSpec.ofChange fnNewHeartbeatResponseSpec)

/-- ITS FALSE NEIGHBOUR: 'it returns false'. Refute it at one input. -/
def fnNewHeartbeatResponseWrong : ChangeSpec := { name := "fnNewHeartbeatResponse", fn := fun _ => fun
  | [d] => { results := [.lit (.bool false)], args := [d] }
  | _ => none }
def FnNewHeartbeatResponseWrongFalsely : Prop := fnNewHeartbeatResponseRow.holds Try.pinned (OpenSpec.ofChange fnNewHeartbeatResponseWrong)

/-- 'laws.FnNewListConfigResourcesRequest': WHATEVER THE INPUT: true; the input reads as it did. -/
def fnNewListConfigResourcesRequestSpec : ChangeSpec := { name := "fnNewListConfigResourcesRequest", fn := fun _ => fun
  | [d] => { results := [.lit (.bool true)], args := [d] }
  | _ => none }
def fnNewListConfigResourcesRequestRow : OpenClaim := { program := "ytbphhadalmnogaa", sum := "ec55291dbea2a98ba990f07204e1f9a415228f4f480d39fe386f15c0322e5832", func := "pub-kmsg/laws.FnNewListConfigResourcesRequest", spec := "fnNewListConfigResourcesRequest", inPlace := ["internal/reflectlite.ValueOf", "internal/reflectlite.Swapper", "(internal/reflectlite.Value).Len"], unfollowed := true, recurses := true, apart := false }
def FnNewListConfigResourcesRequestSaid : Prop := fnNewListConfigResourcesRequestRow.holds Try.pinned (OpenSpec.ofChange fnNewListConfigResourcesRequestSpec)

/-- ITS FALSE NEIGHBOUR: 'it returns false'. Refute it at one input. -/
def fnNewListConfigResourcesRequestWrong : ChangeSpec := { name := "fnNewListConfigResourcesRequest", fn := fun _ => fun
  | [d] => { results := [.lit (.bool false)], args := [d] }
  | _ => none }
def FnNewListConfigResourcesRequestWrongFalsely : Prop := fnNewListConfigResourcesRequestRow.holds Try.pinned (OpenSpec.ofChange fnNewListConfigResourcesRequestWrong)

/-- 'laws.FnNewEnvelopeRequest': WHATEVER THE INPUT: true; the input reads as it did. -/
def fnNewEnvelopeRequestSpec : ChangeSpec := { name := "fnNewEnvelopeRequest", fn := fun _ => fun
  | [d] => { results := [.lit (.bool true)], args := [d] }
  | _ => none }
def fnNewEnvelopeRequestRow : OpenClaim := { program := "ytbphhadalmnogaa", sum := "ec55291dbea2a98ba990f07204e1f9a415228f4f480d39fe386f15c0322e5832", func := "pub-kmsg/laws.FnNewEnvelopeRequest", spec := "fnNewEnvelopeRequest", inPlace := ["internal/reflectlite.ValueOf", "internal/reflectlite.Swapper", "(internal/reflectlite.Value).Len"], unfollowed := true, recurses := true, apart := false }
def FnNewEnvelopeRequestSaid : Prop := fnNewEnvelopeRequestRow.holds Try.pinned (OpenSpec.ofChange fnNewEnvelopeRequestSpec)

/-- ITS FALSE NEIGHBOUR: 'it returns false'. Refute it at one input. -/
def fnNewEnvelopeRequestWrong : ChangeSpec := { name := "fnNewEnvelopeRequest", fn := fun _ => fun
  | [d] => { results := [.lit (.bool false)], args := [d] }
  | _ => none }
def FnNewEnvelopeRequestWrongFalsely : Prop := fnNewEnvelopeRequestRow.holds Try.pinned (OpenSpec.ofChange fnNewEnvelopeRequestWrong)

/- THE SECOND FORM. 'bulk': how many values and letters a reading holds, each counted each time it is reached (what is shared counts as often as it is met; a slice's spare places count too). A statement '..UptoSaid' is the law's where the arguments, and the package variables that the reading takes, are together of bulk at most 1048576: NARROWER than '..Said'. Prove '..Said' where nothing that the law and all that it calls make is longer than what came in: it says more and counts as full. Else prove '..UptoSaid'. A law counts once. -/
mutual
def uptoBulk {H : Type} : DataW H → Nat
  | .lit (.string bytes) => bytes.length + 1
  | .lit _ => 1
  | .nil => 1
  | .ptr d => uptoBulk d + 1
  | .slice elems spare => uptoBulkAll elems + uptoBulkAll spare + 1
  | .agg parts => uptoBulkAll parts + 1
  | .iface _ d => uptoBulk d + 1
  | .map entries => uptoBulkEntries entries + 1
  | .held _ => 1
def uptoBulkAll {H : Type} : List (DataW H) → Nat
  | [] => 0
  | d :: r => uptoBulk d + uptoBulkAll r
def uptoBulkEntries {H : Type} : List (Lit × DataW H) → Nat
  | [] => 0
  | x :: r => uptoBulkEntry x + uptoBulkEntries r
def uptoBulkEntry {H : Type} : Lit × DataW H → Nat
  | (.string bytes, d) => bytes.length + uptoBulk d + 1
  | (_, d) => uptoBulk d + 1
 end
def uptoSmall : (H : Type) → List (DataW H) → Bool := fun _ ds => decide (uptoBulkAll ds ≤ 1048576)
def OpenSpec.upto (s : _root_.Go.ChangeSpec) : _root_.Go.OpenSpec := { _root_.Go.OpenSpec.ofChange s with cond := some uptoSmall }

/-- 'laws.FnControlRecordKeyTypeWords', WHERE WHAT IT READS IS OF BULK AT MOST 1048576: true; the input reads as it did. -/
def fnControlRecordKeyTypeWordsUptoRow : OpenClaim := { program := "ytbphhadalmnogaa", sum := "ec55291dbea2a98ba990f07204e1f9a415228f4f480d39fe386f15c0322e5832", func := "pub-kmsg/laws.FnControlRecordKeyTypeWords", spec := "fnControlRecordKeyTypeWords", apart := false, narrowed := true }
def FnControlRecordKeyTypeWordsUptoSaid : Prop := fnControlRecordKeyTypeWordsUptoRow.holds Try.pinned (OpenSpec.upto fnControlRecordKeyTypeWordsSpec)

/-- 'laws.FnNewAddOffsetsToTxnResponse', WHERE WHAT IT READS IS OF BULK AT MOST 1048576: true; the input reads as it did. -/
def fnNewAddOffsetsToTxnResponseUptoRow : OpenClaim := { program := "ytbphhadalmnogaa", sum := "ec55291dbea2a98ba990f07204e1f9a415228f4f480d39fe386f15c0322e5832", func := "pub-kmsg/laws.FnNewAddOffsetsToTxnResponse", spec := "fnNewAddOffsetsToTxnResponse", inPlace := ["internal/reflectlite.ValueOf", "internal/reflectlite.Swapper", "(internal/reflectlite.Value).Len"], unfollowed := true, recurses := true, apart := false, narrowed := true }
def FnNewAddOffsetsToTxnResponseUptoSaid : Prop := fnNewAddOffsetsToTxnResponseUptoRow.holds Try.pinned (OpenSpec.upto fnNewAddOffsetsToTxnResponseSpec)

/-- 'laws.FnNewHeartbeatResponse', WHERE WHAT IT READS IS OF BULK AT MOST 1048576: true; the input reads as it did. -/
def fnNewHeartbeatResponseUptoRow : OpenClaim := { program := "ytbphhadalmnogaa", sum := "ec55291dbea2a98ba990f07204e1f9a415228f4f480d39fe386f15c0322e5832", func := "pub-kmsg/laws.FnNewHeartbeatResponse", spec := "fnNewHeartbeatResponse", inPlace := ["internal/reflectlite.ValueOf", "internal/reflectlite.Swapper", "(internal/reflectlite.Value).Len"], unfollowed := true, recurses := true, apart := false, narrowed := true }
def FnNewHeartbeatResponseUptoSaid : Prop := fnNewHeartbeatResponseUptoRow.holds Try.pinned (OpenSpec.upto fnNewHeartbeatResponseSpec)

/-- 'laws.FnNewListConfigResourcesRequest', WHERE WHAT IT READS IS OF BULK AT MOST 1048576: true; the input reads as it did. -/
def fnNewListConfigResourcesRequestUptoRow : OpenClaim := { program := "ytbphhadalmnogaa", sum := "ec55291dbea2a98ba990f07204e1f9a415228f4f480d39fe386f15c0322e5832", func := "pub-kmsg/laws.FnNewListConfigResourcesRequest", spec := "fnNewListConfigResourcesRequest", inPlace := ["internal/reflectlite.ValueOf", "internal/reflectlite.Swapper", "(internal/reflectlite.Value).Len"], unfollowed := true, recurses := true, apart := false, narrowed := true }
def FnNewListConfigResourcesRequestUptoSaid : Prop := fnNewListConfigResourcesRequestUptoRow.holds Try.pinned (OpenSpec.upto fnNewListConfigResourcesRequestSpec)

/-- 'laws.FnNewEnvelopeRequest', WHERE WHAT IT READS IS OF BULK AT MOST 1048576: true; the input reads as it did. -/
def fnNewEnvelopeRequestUptoRow : OpenClaim := { program := "ytbphhadalmnogaa", sum := "ec55291dbea2a98ba990f07204e1f9a415228f4f480d39fe386f15c0322e5832", func := "pub-kmsg/laws.FnNewEnvelopeRequest", spec := "fnNewEnvelopeRequest", inPlace := ["internal/reflectlite.ValueOf", "internal/reflectlite.Swapper", "(internal/reflectlite.Value).Len"], unfollowed := true, recurses := true, apart := false, narrowed := true }
def FnNewEnvelopeRequestUptoSaid : Prop := fnNewEnvelopeRequestUptoRow.holds Try.pinned (OpenSpec.upto fnNewEnvelopeRequestSpec)

end Rows
end Go.Proofs.Ytbphhadalmnogaa
