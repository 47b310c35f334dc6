/- The law FnCutDescribeLogDirsResponse: a DescribeLogDirsResponse that ends ahead of its end is an error; of inputs of bulk at most 1048576. The card: tied to the program's text. No condition but the row's own. -/
import Derived.Test.YtepedhnfnicbaaaGreatDoorOverFnCutDescribeLogDirsResponse
import Derived.Test.YtepedhnfnicbaaaGreatDoorGoesFnCutDescribeLogDirsResponse
import Derived.Test.YtepedhnfnicbaaaGreatDoorFactE
namespace Go.Proofs.YtepedhnfnicbaaaGreatDoor.fnCutDescribeLogDirsResponse
open Go.ChangeShapes Go.WideShapes Go.ChangeAt Go.RowKit
set_option linter.unusedVariables false
theorem plain (f : FuncId) (fn : Func) (hf : Tryz.pinned.checked.prog.funcNamed "pub-kmsg/laws.FnCutDescribeLogDirsResponse" = some f) (hfn : Tryz.pinned.checked.prog.funcs[f]? = some fn) :
    false = Tryz.pinned.checked.prog.looks [] ∧ ∀ (j : Nat) t, fn.params[j]? = some t → Tryz.pinned.checked.prog.wantsStandIn t = false := by
  obtain rfl : f = 11 := Option.some.inj ((show Tryz.prog.funcNamed "pub-kmsg/laws.FnCutDescribeLogDirsResponse" = some 11 by kernel_rfl).symm.trans hf) |>.symm
  obtain rfl : fn = Tryz.f11 := (Option.some.inj (Tryz.func11.symm.trans hfn)).symm
  refine ⟨factLooks, fun j t ht => ?_⟩
  rw [Tryz.params11] at ht
  have hm : t ∈ [5, 26, 39] := by simpa using Array.mem_of_getElem? ht
  have hall : ([5, 26, 39].all fun u => !Tryz.prog.wantsStandIn u) = true := by kernel_rfl
  exact (show Tryz.prog.wantsStandIn t = false by simpa using List.all_eq_true.1 hall t hm)
end Go.Proofs.YtepedhnfnicbaaaGreatDoor.fnCutDescribeLogDirsResponse
namespace Go.Proofs.YtepedhnfnicbaaaGreatDoor
/-- The card. -/
theorem fnCutDescribeLogDirsResponse_holds : Rows.FnCutDescribeLogDirsResponseUptoCardSaid :=
  Claim7.holds_tied_plain_at .later [] _ _ _ _ fnCutDescribeLogDirsResponse.over (fun _ h => by cases h) (by kernel_rfl) (fun _ h => by cases h) fnCutDescribeLogDirsResponseUpto_row_tie rfl ⟨rfl, rfl⟩ (by kernel_rfl) rfl fnCutDescribeLogDirsResponse.plain fnCutDescribeLogDirsResponse.goes
#print axioms fnCutDescribeLogDirsResponse_holds
end Go.Proofs.YtepedhnfnicbaaaGreatDoor
