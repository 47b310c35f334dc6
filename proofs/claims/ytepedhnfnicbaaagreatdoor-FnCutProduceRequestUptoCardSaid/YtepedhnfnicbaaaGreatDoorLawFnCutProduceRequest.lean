/- The law FnCutProduceRequest: a ProduceRequest that ends ahead of its end is an error; of inputs of bulk at most 1048576. The card: tied to the program's text. No condition but the row's own. -/
import Derived.Test.YtepedhnfnicbaaaGreatDoorOverFnCutProduceRequest
import Derived.Test.YtepedhnfnicbaaaGreatDoorGoesFnCutProduceRequest
import Derived.Test.YtepedhnfnicbaaaGreatDoorFactE
namespace Go.Proofs.YtepedhnfnicbaaaGreatDoor.fnCutProduceRequest
open Go.ChangeShapes Go.WideShapes Go.ChangeAt Go.RowKit
set_option linter.unusedVariables false
theorem plain (f : FuncId) (fn : Func) (hf : Tryz.pinned.checked.prog.funcNamed "pub-kmsg/laws.FnCutProduceRequest" = some f) (hfn : Tryz.pinned.checked.prog.funcs[f]? = some fn) :
    false = Tryz.pinned.checked.prog.looks [] ∧ ∀ (j : Nat) t, fn.params[j]? = some t → Tryz.pinned.checked.prog.wantsStandIn t = false := by
  obtain rfl : f = 14 := Option.some.inj ((show Tryz.prog.funcNamed "pub-kmsg/laws.FnCutProduceRequest" = some 14 by kernel_rfl).symm.trans hf) |>.symm
  obtain rfl : fn = Tryz.f14 := (Option.some.inj (Tryz.func14.symm.trans hfn)).symm
  refine ⟨factLooks, fun j t ht => ?_⟩
  rw [Tryz.params14] at ht
  have hm : t ∈ [5, 26, 39] := by simpa using Array.mem_of_getElem? ht
  have hall : ([5, 26, 39].all fun u => !Tryz.prog.wantsStandIn u) = true := by kernel_rfl
  exact (show Tryz.prog.wantsStandIn t = false by simpa using List.all_eq_true.1 hall t hm)
end Go.Proofs.YtepedhnfnicbaaaGreatDoor.fnCutProduceRequest
namespace Go.Proofs.YtepedhnfnicbaaaGreatDoor
/-- The card. -/
theorem fnCutProduceRequest_holds : Rows.FnCutProduceRequestUptoCardSaid :=
  Claim7.holds_tied_plain_at .later [] _ _ _ _ fnCutProduceRequest.over (fun _ h => by cases h) (by kernel_rfl) (fun _ h => by cases h) fnCutProduceRequestUpto_row_tie rfl ⟨rfl, rfl⟩ (by kernel_rfl) rfl fnCutProduceRequest.plain fnCutProduceRequest.goes
#print axioms fnCutProduceRequest_holds
end Go.Proofs.YtepedhnfnicbaaaGreatDoor
