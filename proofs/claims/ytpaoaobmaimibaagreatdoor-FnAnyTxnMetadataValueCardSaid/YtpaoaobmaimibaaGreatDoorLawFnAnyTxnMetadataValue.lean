/- The law FnAnyTxnMetadataValue: what is read of any bytes as a TxnMetadataValue is written as bytes that are read again, and written as the same. The card: tied to the program's text. No condition but the row's own. -/
import Derived.Test.YtpaoaobmaimibaaGreatDoorOverFnAnyTxnMetadataValue
import Derived.Test.YtpaoaobmaimibaaGreatDoorGoesFnAnyTxnMetadataValue
import Derived.Test.YtpaoaobmaimibaaGreatDoorFactE
namespace Go.Proofs.YtpaoaobmaimibaaGreatDoor.fnAnyTxnMetadataValue
open Go.ChangeShapes Go.WideShapes Go.ChangeAt Go.RowKit
set_option linter.unusedVariables false
theorem plain (f : FuncId) (fn : Func) (hf : Tryz.pinned.checked.prog.funcNamed "pub-kmsg/laws.FnAnyTxnMetadataValue" = some f) (hfn : Tryz.pinned.checked.prog.funcs[f]? = some fn) :
    false = Tryz.pinned.checked.prog.looks [] ∧ ∀ (j : Nat) t, fn.params[j]? = some t → Tryz.pinned.checked.prog.wantsStandIn t = false := by
  obtain rfl : f = 3 := Option.some.inj ((show Tryz.prog.funcNamed "pub-kmsg/laws.FnAnyTxnMetadataValue" = some 3 by kernel_rfl).symm.trans hf) |>.symm
  obtain rfl : fn = Tryz.f3 := (Option.some.inj (Tryz.func3.symm.trans hfn)).symm
  refine ⟨factLooks, fun j t ht => ?_⟩
  rw [Tryz.params3] at ht
  have hm : t ∈ [22] := by simpa using Array.mem_of_getElem? ht
  have hall : ([22].all fun u => !Tryz.prog.wantsStandIn u) = true := by kernel_rfl
  exact (show Tryz.prog.wantsStandIn t = false by simpa using List.all_eq_true.1 hall t hm)
end Go.Proofs.YtpaoaobmaimibaaGreatDoor.fnAnyTxnMetadataValue
namespace Go.Proofs.YtpaoaobmaimibaaGreatDoor
/-- The card. -/
theorem fnAnyTxnMetadataValue_holds : Rows.FnAnyTxnMetadataValueCardSaid :=
  Claim7.holds_tied_plain_at .later [] _ _ _ _ fnAnyTxnMetadataValue.over (fun _ h => by cases h) (by kernel_rfl) (fun _ h => by cases h) fnAnyTxnMetadataValue_row_tie rfl ⟨rfl, rfl⟩ (by kernel_rfl) rfl fnAnyTxnMetadataValue.plain fnAnyTxnMetadataValue.goes
#print axioms fnAnyTxnMetadataValue_holds
end Go.Proofs.YtpaoaobmaimibaaGreatDoor
