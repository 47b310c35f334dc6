/- The law FnCutListPartitionReassignmentsResponse: a ListPartitionReassignmentsResponse that ends ahead of its end is an error; of inputs of bulk at most 1048576. The card: tied to the program's text. No condition but the row's own. -/
import Derived.Test.YtepedhnfnicbaaaGreatDoorOverFnCutListPartitionReassignmentsResponse
import Derived.Test.YtepedhnfnicbaaaGreatDoorGoesFnCutListPartitionReassignmentsResponse
import Derived.Test.YtepedhnfnicbaaaGreatDoorFactE
namespace Go.Proofs.YtepedhnfnicbaaaGreatDoor.fnCutListPartitionReassignmentsResponse
open Go.ChangeShapes Go.WideShapes Go.ChangeAt Go.RowKit
set_option linter.unusedVariables false
theorem plain (f : FuncId) (fn : Func) (hf : Tryz.pinned.checked.prog.funcNamed "pub-kmsg/laws.FnCutListPartitionReassignmentsResponse" = some f) (hfn : Tryz.pinned.checked.prog.funcs[f]? = some fn) :
    false = Tryz.pinned.checked.prog.looks [] ∧ ∀ (j : Nat) t, fn.params[j]? = some t → Tryz.pinned.checked.prog.wantsStandIn t = false := by
  obtain rfl : f = 12 := Option.some.inj ((show Tryz.prog.funcNamed "pub-kmsg/laws.FnCutListPartitionReassignmentsResponse" = some 12 by kernel_rfl).symm.trans hf) |>.symm
  obtain rfl : fn = Tryz.f12 := (Option.some.inj (Tryz.func12.symm.trans hfn)).symm
  refine ⟨factLooks, fun j t ht => ?_⟩
  rw [Tryz.params12] at ht
  have hm : t ∈ [5, 26, 39] := by simpa using Array.mem_of_getElem? ht
  have hall : ([5, 26, 39].all fun u => !Tryz.prog.wantsStandIn u) = true := by kernel_rfl
  exact (show Tryz.prog.wantsStandIn t = false by simpa using List.all_eq_true.1 hall t hm)
end Go.Proofs.YtepedhnfnicbaaaGreatDoor.fnCutListPartitionReassignmentsResponse
namespace Go.Proofs.YtepedhnfnicbaaaGreatDoor
/-- The card. -/
theorem fnCutListPartitionReassignmentsResponse_holds : Rows.FnCutListPartitionReassignmentsResponseUptoCardSaid :=
  Claim7.holds_tied_plain_at .later [] _ _ _ _ fnCutListPartitionReassignmentsResponse.over (fun _ h => by cases h) (by kernel_rfl) (fun _ h => by cases h) fnCutListPartitionReassignmentsResponseUpto_row_tie rfl ⟨rfl, rfl⟩ (by kernel_rfl) rfl fnCutListPartitionReassignmentsResponse.plain fnCutListPartitionReassignmentsResponse.goes
#print axioms fnCutListPartitionReassignmentsResponse_holds
end Go.Proofs.YtepedhnfnicbaaaGreatDoor
