/- The law FnACLPermissionTypeText: a value that is named is written as its word, and read as the value. The card: tied to the program's text. No condition but the row's own. -/
import Derived.Test.YtffglmphlpofbaaDoorOverFnACLPermissionTypeText
import Derived.Test.YtffglmphlpofbaaDoorGoesFnACLPermissionTypeText
import Derived.Test.YtffglmphlpofbaaDoorFactE
import Derived.SevenTiedAt
namespace Go.Proofs.YtffglmphlpofbaaDoor.fnACLPermissionTypeText
set_option linter.unusedVariables false
theorem plain (f : FuncId) (fn : Func) (hf : Tryd.pinned.checked.prog.funcNamed "pub-kmsg/laws.FnACLPermissionTypeText" = some f) (hfn : Tryd.pinned.checked.prog.funcs[f]? = some fn) :
    false = Tryd.pinned.checked.prog.looks [] ∧ ∀ (j : Nat) t, fn.params[j]? = some t → Tryd.pinned.checked.prog.wantsStandIn t = false := by
  obtain rfl : f = 6 := Option.some.inj ((show Tryd.prog.funcNamed "pub-kmsg/laws.FnACLPermissionTypeText" = some 6 by kernel_rfl).symm.trans hf) |>.symm
  obtain rfl : fn = Tryd.f6 := (Option.some.inj (Tryd.func6.symm.trans hfn)).symm
  refine ⟨factLooks, fun j t ht => ?_⟩
  rw [Tryd.params6] at ht
  have hm : t ∈ [46] := by simpa using Array.mem_of_getElem? ht
  have hall : ([46].all fun u => !Tryd.prog.wantsStandIn u) = true := by kernel_rfl
  exact (show Tryd.prog.wantsStandIn t = false by simpa using List.all_eq_true.1 hall t hm)
end Go.Proofs.YtffglmphlpofbaaDoor.fnACLPermissionTypeText
namespace Go.Proofs.YtffglmphlpofbaaDoor
/-- The card. -/
theorem fnACLPermissionTypeText_holds : Rows.FnACLPermissionTypeTextCardSaid :=
  Claim7.holds_tied_plain_at .later [] _ _ _ _ fnACLPermissionTypeText.over (fun _ h => by cases h) (by kernel_rfl) (fun _ h => by cases h) fnACLPermissionTypeText_row_tie rfl ⟨rfl, rfl⟩ (by kernel_rfl) rfl fnACLPermissionTypeText.plain fnACLPermissionTypeText.goes
#print axioms fnACLPermissionTypeText_holds
end Go.Proofs.YtffglmphlpofbaaDoor
