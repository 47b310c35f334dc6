/- The law FnAnyMetadataResponse: what is read of any bytes as a MetadataResponse is written as bytes that are read again, and written as the same. The card: tied to the program's text. No condition but the row's own. -/
import Derived.Test.YtmehkjdaeohblaaDoorOverFnAnyMetadataResponse
import Derived.Test.YtmehkjdaeohblaaDoorGoesFnAnyMetadataResponse
import Derived.Test.YtmehkjdaeohblaaDoorFactE
namespace Go.Proofs.YtmehkjdaeohblaaDoor.fnAnyMetadataResponse
open Go.ChangeShapes Go.WideShapes Go.ChangeAt Go.RowKit
set_option linter.unusedVariables false
theorem plain (f : FuncId) (fn : Func) (hf : Tryd.pinned.checked.prog.funcNamed "pub-kmsg/laws.FnAnyMetadataResponse" = some f) (hfn : Tryd.pinned.checked.prog.funcs[f]? = some fn) :
    false = Tryd.pinned.checked.prog.looks [] ∧ ∀ (j : Nat) t, fn.params[j]? = some t → Tryd.pinned.checked.prog.wantsStandIn t = false := by
  obtain rfl : f = 3 := Option.some.inj ((show Tryd.prog.funcNamed "pub-kmsg/laws.FnAnyMetadataResponse" = some 3 by kernel_rfl).symm.trans hf) |>.symm
  obtain rfl : fn = Tryd.f3 := (Option.some.inj (Tryd.func3.symm.trans hfn)).symm
  refine ⟨factLooks, fun j t ht => ?_⟩
  rw [Tryd.params3] at ht
  have hm : t ∈ [5, 22] := by simpa using Array.mem_of_getElem? ht
  have hall : ([5, 22].all fun u => !Tryd.prog.wantsStandIn u) = true := by kernel_rfl
  exact (show Tryd.prog.wantsStandIn t = false by simpa using List.all_eq_true.1 hall t hm)
end Go.Proofs.YtmehkjdaeohblaaDoor.fnAnyMetadataResponse
namespace Go.Proofs.YtmehkjdaeohblaaDoor
/-- The card. -/
theorem fnAnyMetadataResponse_holds : Rows.FnAnyMetadataResponseCardSaid :=
  Claim7.holds_tied_plain_at .later [] _ _ _ _ fnAnyMetadataResponse.over (fun _ h => by cases h) (by kernel_rfl) (fun _ h => by cases h) fnAnyMetadataResponse_row_tie rfl ⟨rfl, rfl⟩ (by kernel_rfl) rfl fnAnyMetadataResponse.plain fnAnyMetadataResponse.goes
#print axioms fnAnyMetadataResponse_holds
end Go.Proofs.YtmehkjdaeohblaaDoor
