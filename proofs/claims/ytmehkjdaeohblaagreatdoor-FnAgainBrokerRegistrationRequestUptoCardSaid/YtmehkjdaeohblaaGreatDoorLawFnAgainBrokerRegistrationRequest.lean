/- The law FnAgainBrokerRegistrationRequest: whatever a BrokerRegistrationRequest says is read, and written back byte by byte; of inputs of bulk at most 1048576. The card: tied to the program's text. No condition but the row's own. -/
import Derived.Test.YtmehkjdaeohblaaGreatDoorOverFnAgainBrokerRegistrationRequest
import Derived.Test.YtmehkjdaeohblaaGreatDoorGoesFnAgainBrokerRegistrationRequest
import Derived.Test.YtmehkjdaeohblaaGreatDoorFactE
namespace Go.Proofs.YtmehkjdaeohblaaGreatDoor.fnAgainBrokerRegistrationRequest
open Go.ChangeShapes Go.WideShapes Go.ChangeAt Go.RowKit
set_option linter.unusedVariables false
theorem plain (f : FuncId) (fn : Func) (hf : Tryz.pinned.checked.prog.funcNamed "pub-kmsg/laws.FnAgainBrokerRegistrationRequest" = some f) (hfn : Tryz.pinned.checked.prog.funcs[f]? = some fn) :
    false = Tryz.pinned.checked.prog.looks [] ∧ ∀ (j : Nat) t, fn.params[j]? = some t → Tryz.pinned.checked.prog.wantsStandIn t = false := by
  obtain rfl : f = 3 := Option.some.inj ((show Tryz.prog.funcNamed "pub-kmsg/laws.FnAgainBrokerRegistrationRequest" = some 3 by kernel_rfl).symm.trans hf) |>.symm
  obtain rfl : fn = Tryz.f3 := (Option.some.inj (Tryz.func3.symm.trans hfn)).symm
  refine ⟨factLooks, fun j t ht => ?_⟩
  rw [Tryz.params3] at ht
  have hm : t ∈ [5, 26] := by simpa using Array.mem_of_getElem? ht
  have hall : ([5, 26].all fun u => !Tryz.prog.wantsStandIn u) = true := by kernel_rfl
  exact (show Tryz.prog.wantsStandIn t = false by simpa using List.all_eq_true.1 hall t hm)
end Go.Proofs.YtmehkjdaeohblaaGreatDoor.fnAgainBrokerRegistrationRequest
namespace Go.Proofs.YtmehkjdaeohblaaGreatDoor
/-- The card. -/
theorem fnAgainBrokerRegistrationRequest_holds : Rows.FnAgainBrokerRegistrationRequestUptoCardSaid :=
  Claim7.holds_tied_plain_at .later [] _ _ _ _ fnAgainBrokerRegistrationRequest.over (fun _ h => by cases h) (by kernel_rfl) (fun _ h => by cases h) fnAgainBrokerRegistrationRequestUpto_row_tie rfl ⟨rfl, rfl⟩ (by kernel_rfl) rfl fnAgainBrokerRegistrationRequest.plain fnAgainBrokerRegistrationRequest.goes
#print axioms fnAgainBrokerRegistrationRequest_holds
end Go.Proofs.YtmehkjdaeohblaaGreatDoor
