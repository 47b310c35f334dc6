/- The law FnCutConsumerGroupHeartbeatRequest: a ConsumerGroupHeartbeatRequest that ends ahead of its end is an error; of inputs of bulk at most 1048576. The card: tied to the program's text. No condition but the row's own. -/
import Derived.Test.YtepedhnfnicbaaaGreatDoorOverFnCutConsumerGroupHeartbeatRequest
import Derived.Test.YtepedhnfnicbaaaGreatDoorGoesFnCutConsumerGroupHeartbeatRequest
import Derived.Test.YtepedhnfnicbaaaGreatDoorFactE
namespace Go.Proofs.YtepedhnfnicbaaaGreatDoor.fnCutConsumerGroupHeartbeatRequest
open Go.ChangeShapes Go.WideShapes Go.ChangeAt Go.RowKit
set_option linter.unusedVariables false
theorem plain (f : FuncId) (fn : Func) (hf : Tryz.pinned.checked.prog.funcNamed "pub-kmsg/laws.FnCutConsumerGroupHeartbeatRequest" = some f) (hfn : Tryz.pinned.checked.prog.funcs[f]? = some fn) :
    false = Tryz.pinned.checked.prog.looks [] ∧ ∀ (j : Nat) t, fn.params[j]? = some t → Tryz.pinned.checked.prog.wantsStandIn t = false := by
  obtain rfl : f = 13 := Option.some.inj ((show Tryz.prog.funcNamed "pub-kmsg/laws.FnCutConsumerGroupHeartbeatRequest" = some 13 by kernel_rfl).symm.trans hf) |>.symm
  obtain rfl : fn = Tryz.f13 := (Option.some.inj (Tryz.func13.symm.trans hfn)).symm
  refine ⟨factLooks, fun j t ht => ?_⟩
  rw [Tryz.params13] at ht
  have hm : t ∈ [5, 26, 39] := by simpa using Array.mem_of_getElem? ht
  have hall : ([5, 26, 39].all fun u => !Tryz.prog.wantsStandIn u) = true := by kernel_rfl
  exact (show Tryz.prog.wantsStandIn t = false by simpa using List.all_eq_true.1 hall t hm)
end Go.Proofs.YtepedhnfnicbaaaGreatDoor.fnCutConsumerGroupHeartbeatRequest
namespace Go.Proofs.YtepedhnfnicbaaaGreatDoor
/-- The card. -/
theorem fnCutConsumerGroupHeartbeatRequest_holds : Rows.FnCutConsumerGroupHeartbeatRequestUptoCardSaid :=
  Claim7.holds_tied_plain_at .later [] _ _ _ _ fnCutConsumerGroupHeartbeatRequest.over (fun _ h => by cases h) (by kernel_rfl) (fun _ h => by cases h) fnCutConsumerGroupHeartbeatRequestUpto_row_tie rfl ⟨rfl, rfl⟩ (by kernel_rfl) rfl fnCutConsumerGroupHeartbeatRequest.plain fnCutConsumerGroupHeartbeatRequest.goes
#print axioms fnCutConsumerGroupHeartbeatRequest_holds
end Go.Proofs.YtepedhnfnicbaaaGreatDoor
