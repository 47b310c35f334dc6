/- The law FnCutCreateTopicsResponse: a CreateTopicsResponse that ends ahead of its end is an error; of inputs of bulk at most 1048576. The card: tied to the program's text. No condition but the row's own. -/
import Derived.Test.YtpaoaobmaimibaaGreatDoorOverFnCutCreateTopicsResponse
import Derived.Test.YtpaoaobmaimibaaGreatDoorGoesFnCutCreateTopicsResponse
import Derived.Test.YtpaoaobmaimibaaGreatDoorFactE
namespace Go.Proofs.YtpaoaobmaimibaaGreatDoor.fnCutCreateTopicsResponse
open Go.ChangeShapes Go.WideShapes Go.ChangeAt Go.RowKit
set_option linter.unusedVariables false
theorem plain (f : FuncId) (fn : Func) (hf : Tryz.pinned.checked.prog.funcNamed "pub-kmsg/laws.FnCutCreateTopicsResponse" = some f) (hfn : Tryz.pinned.checked.prog.funcs[f]? = some fn) :
    false = Tryz.pinned.checked.prog.looks [] ∧ ∀ (j : Nat) t, fn.params[j]? = some t → Tryz.pinned.checked.prog.wantsStandIn t = false := by
  obtain rfl : f = 5 := Option.some.inj ((show Tryz.prog.funcNamed "pub-kmsg/laws.FnCutCreateTopicsResponse" = some 5 by kernel_rfl).symm.trans hf) |>.symm
  obtain rfl : fn = Tryz.f5 := (Option.some.inj (Tryz.func5.symm.trans hfn)).symm
  refine ⟨factLooks, fun j t ht => ?_⟩
  rw [Tryz.params5] at ht
  have hm : t ∈ [5, 33, 36] := by simpa using Array.mem_of_getElem? ht
  have hall : ([5, 33, 36].all fun u => !Tryz.prog.wantsStandIn u) = true := by kernel_rfl
  exact (show Tryz.prog.wantsStandIn t = false by simpa using List.all_eq_true.1 hall t hm)
end Go.Proofs.YtpaoaobmaimibaaGreatDoor.fnCutCreateTopicsResponse
namespace Go.Proofs.YtpaoaobmaimibaaGreatDoor
/-- The card. -/
theorem fnCutCreateTopicsResponse_holds : Rows.FnCutCreateTopicsResponseUptoCardSaid :=
  Claim7.holds_tied_plain_at .later [] _ _ _ _ fnCutCreateTopicsResponse.over (fun _ h => by cases h) (by kernel_rfl) (fun _ h => by cases h) fnCutCreateTopicsResponseUpto_row_tie rfl ⟨rfl, rfl⟩ (by kernel_rfl) rfl fnCutCreateTopicsResponse.plain fnCutCreateTopicsResponse.goes
#print axioms fnCutCreateTopicsResponse_holds
end Go.Proofs.YtpaoaobmaimibaaGreatDoor
