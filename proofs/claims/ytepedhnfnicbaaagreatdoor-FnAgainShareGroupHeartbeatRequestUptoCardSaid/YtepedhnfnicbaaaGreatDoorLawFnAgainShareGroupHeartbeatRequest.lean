/- The law FnAgainShareGroupHeartbeatRequest: whatever a ShareGroupHeartbeatRequest says is read, and written back byte by byte; of inputs of bulk at most 1048576. The card: tied to the program's text. No condition but the row's own. -/
import Derived.Test.YtepedhnfnicbaaaGreatDoorOverFnAgainShareGroupHeartbeatRequest
import Derived.Test.YtepedhnfnicbaaaGreatDoorGoesFnAgainShareGroupHeartbeatRequest
import Derived.Test.YtepedhnfnicbaaaGreatDoorFactE
namespace Go.Proofs.YtepedhnfnicbaaaGreatDoor.fnAgainShareGroupHeartbeatRequest
open Go.ChangeShapes Go.WideShapes Go.ChangeAt Go.RowKit
set_option linter.unusedVariables false
theorem plain (f : FuncId) (fn : Func) (hf : Tryz.pinned.checked.prog.funcNamed "pub-kmsg/laws.FnAgainShareGroupHeartbeatRequest" = some f) (hfn : Tryz.pinned.checked.prog.funcs[f]? = some fn) :
    false = Tryz.pinned.checked.prog.looks [] ∧ ∀ (j : Nat) t, fn.params[j]? = some t → Tryz.pinned.checked.prog.wantsStandIn t = false := by
  obtain rfl : f = 3 := Option.some.inj ((show Tryz.prog.funcNamed "pub-kmsg/laws.FnAgainShareGroupHeartbeatRequest" = some 3 by kernel_rfl).symm.trans hf) |>.symm
  obtain rfl : fn = Tryz.f3 := (Option.some.inj (Tryz.func3.symm.trans hfn)).symm
  refine ⟨factLooks, fun j t ht => ?_⟩
  rw [Tryz.params3] at ht
  have hm : t ∈ [5, 26] := by simpa using Array.mem_of_getElem? ht
  have hall : ([5, 26].all fun u => !Tryz.prog.wantsStandIn u) = true := by kernel_rfl
  exact (show Tryz.prog.wantsStandIn t = false by simpa using List.all_eq_true.1 hall t hm)
end Go.Proofs.YtepedhnfnicbaaaGreatDoor.fnAgainShareGroupHeartbeatRequest
namespace Go.Proofs.YtepedhnfnicbaaaGreatDoor
/-- The card. -/
theorem fnAgainShareGroupHeartbeatRequest_holds : Rows.FnAgainShareGroupHeartbeatRequestUptoCardSaid :=
  Claim7.holds_tied_plain_at .later [] _ _ _ _ fnAgainShareGroupHeartbeatRequest.over (fun _ h => by cases h) (by kernel_rfl) (fun _ h => by cases h) fnAgainShareGroupHeartbeatRequestUpto_row_tie rfl ⟨rfl, rfl⟩ (by kernel_rfl) rfl fnAgainShareGroupHeartbeatRequest.plain fnAgainShareGroupHeartbeatRequest.goes
#print axioms fnAgainShareGroupHeartbeatRequest_holds
end Go.Proofs.YtepedhnfnicbaaaGreatDoor
