/- The law FnParseConfigType: a text is read as the value whose word it is, or as an error. The card: tied to the program's text. No condition but the row's own. -/
import Derived.Test.YtffglmphlpofbaaDoorOverFnParseConfigType
import Derived.Test.YtffglmphlpofbaaDoorGoesFnParseConfigType
import Derived.Test.YtffglmphlpofbaaDoorFactE
import Derived.SevenTiedAt
namespace Go.Proofs.YtffglmphlpofbaaDoor.fnParseConfigType
set_option linter.unusedVariables false
theorem plain (f : FuncId) (fn : Func) (hf : Tryd.pinned.checked.prog.funcNamed "pub-kmsg/laws.FnParseConfigType" = some f) (hfn : Tryd.pinned.checked.prog.funcs[f]? = some fn) :
    false = Tryd.pinned.checked.prog.looks [] ∧ ∀ (j : Nat) t, fn.params[j]? = some t → Tryd.pinned.checked.prog.wantsStandIn t = false := by
  obtain rfl : f = 5 := Option.some.inj ((show Tryd.prog.funcNamed "pub-kmsg/laws.FnParseConfigType" = some 5 by kernel_rfl).symm.trans hf) |>.symm
  obtain rfl : fn = Tryd.f5 := (Option.some.inj (Tryd.func5.symm.trans hfn)).symm
  refine ⟨factLooks, fun j t ht => ?_⟩
  rw [Tryd.params5] at ht
  have hm : t ∈ [9] := by simpa using Array.mem_of_getElem? ht
  have hall : ([9].all fun u => !Tryd.prog.wantsStandIn u) = true := by kernel_rfl
  exact (show Tryd.prog.wantsStandIn t = false by simpa using List.all_eq_true.1 hall t hm)
end Go.Proofs.YtffglmphlpofbaaDoor.fnParseConfigType
namespace Go.Proofs.YtffglmphlpofbaaDoor
/-- The card. -/
theorem fnParseConfigType_holds : Rows.FnParseConfigTypeCardSaid :=
  Claim7.holds_tied_plain_at .later [] _ _ _ _ fnParseConfigType.over (fun _ h => by cases h) (by kernel_rfl) (fun _ h => by cases h) fnParseConfigType_row_tie rfl ⟨rfl, rfl⟩ (by kernel_rfl) rfl fnParseConfigType.plain fnParseConfigType.goes
#print axioms fnParseConfigType_holds
end Go.Proofs.YtffglmphlpofbaaDoor
