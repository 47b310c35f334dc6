/- The law FnAgainOffsetFetchRequest: whatever a OffsetFetchRequest says is read, and written back byte by byte; of inputs of bulk at most 1048576. The card: tied to the program's text. No condition but the row's own. -/
import Derived.Test.YtmehkjdaeohblaaGreatDoorOverFnAgainOffsetFetchRequest
import Derived.Test.YtmehkjdaeohblaaGreatDoorGoesFnAgainOffsetFetchRequest
import Derived.Test.YtmehkjdaeohblaaGreatDoorFactE
namespace Go.Proofs.YtmehkjdaeohblaaGreatDoor.fnAgainOffsetFetchRequest
open Go.ChangeShapes Go.WideShapes Go.ChangeAt Go.RowKit
set_option linter.unusedVariables false
theorem plain (f : FuncId) (fn : Func) (hf : Tryz.pinned.checked.prog.funcNamed "pub-kmsg/laws.FnAgainOffsetFetchRequest" = some f) (hfn : Tryz.pinned.checked.prog.funcs[f]? = some fn) :
    false = Tryz.pinned.checked.prog.looks [] ∧ ∀ (j : Nat) t, fn.params[j]? = some t → Tryz.pinned.checked.prog.wantsStandIn t = false := by
  obtain rfl : f = 4 := Option.some.inj ((show Tryz.prog.funcNamed "pub-kmsg/laws.FnAgainOffsetFetchRequest" = some 4 by kernel_rfl).symm.trans hf) |>.symm
  obtain rfl : fn = Tryz.f4 := (Option.some.inj (Tryz.func4.symm.trans hfn)).symm
  refine ⟨factLooks, fun j t ht => ?_⟩
  rw [Tryz.params4] at ht
  have hm : t ∈ [5, 26] := by simpa using Array.mem_of_getElem? ht
  have hall : ([5, 26].all fun u => !Tryz.prog.wantsStandIn u) = true := by kernel_rfl
  exact (show Tryz.prog.wantsStandIn t = false by simpa using List.all_eq_true.1 hall t hm)
end Go.Proofs.YtmehkjdaeohblaaGreatDoor.fnAgainOffsetFetchRequest
namespace Go.Proofs.YtmehkjdaeohblaaGreatDoor
/-- The card. -/
theorem fnAgainOffsetFetchRequest_holds : Rows.FnAgainOffsetFetchRequestUptoCardSaid :=
  Claim7.holds_tied_plain_at .later [] _ _ _ _ fnAgainOffsetFetchRequest.over (fun _ h => by cases h) (by kernel_rfl) (fun _ h => by cases h) fnAgainOffsetFetchRequestUpto_row_tie rfl ⟨rfl, rfl⟩ (by kernel_rfl) rfl fnAgainOffsetFetchRequest.plain fnAgainOffsetFetchRequest.goes
#print axioms fnAgainOffsetFetchRequest_holds
end Go.Proofs.YtmehkjdaeohblaaGreatDoor
