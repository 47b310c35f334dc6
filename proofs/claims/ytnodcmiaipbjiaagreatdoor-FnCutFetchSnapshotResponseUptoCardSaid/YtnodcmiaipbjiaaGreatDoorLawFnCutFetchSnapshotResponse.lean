/- The law FnCutFetchSnapshotResponse: a FetchSnapshotResponse that ends ahead of its end is an error; of inputs of bulk at most 1048576. The card: tied to the program's text. No condition but the row's own. -/
import Derived.Test.YtnodcmiaipbjiaaGreatDoorOverFnCutFetchSnapshotResponse
import Derived.Test.YtnodcmiaipbjiaaGreatDoorGoesFnCutFetchSnapshotResponse
import Derived.Test.YtnodcmiaipbjiaaGreatDoorFactE
namespace Go.Proofs.YtnodcmiaipbjiaaGreatDoor.fnCutFetchSnapshotResponse
open Go.ChangeShapes Go.WideShapes Go.ChangeAt Go.RowKit
set_option linter.unusedVariables false
theorem plain (f : FuncId) (fn : Func) (hf : Tryz.pinned.checked.prog.funcNamed "pub-kmsg/laws.FnCutFetchSnapshotResponse" = some f) (hfn : Tryz.pinned.checked.prog.funcs[f]? = some fn) :
    false = Tryz.pinned.checked.prog.looks [] ∧ ∀ (j : Nat) t, fn.params[j]? = some t → Tryz.pinned.checked.prog.wantsStandIn t = false := by
  obtain rfl : f = 3 := Option.some.inj ((show Tryz.prog.funcNamed "pub-kmsg/laws.FnCutFetchSnapshotResponse" = some 3 by kernel_rfl).symm.trans hf) |>.symm
  obtain rfl : fn = Tryz.f3 := (Option.some.inj (Tryz.func3.symm.trans hfn)).symm
  refine ⟨factLooks, fun j t ht => ?_⟩
  rw [Tryz.params3] at ht
  have hm : t ∈ [5, 26, 27] := by simpa using Array.mem_of_getElem? ht
  have hall : ([5, 26, 27].all fun u => !Tryz.prog.wantsStandIn u) = true := by kernel_rfl
  exact (show Tryz.prog.wantsStandIn t = false by simpa using List.all_eq_true.1 hall t hm)
end Go.Proofs.YtnodcmiaipbjiaaGreatDoor.fnCutFetchSnapshotResponse
namespace Go.Proofs.YtnodcmiaipbjiaaGreatDoor
/-- The card. -/
theorem fnCutFetchSnapshotResponse_holds : Rows.FnCutFetchSnapshotResponseUptoCardSaid :=
  Claim7.holds_tied_plain_at .later [] _ _ _ _ fnCutFetchSnapshotResponse.over (fun _ h => by cases h) (by kernel_rfl) (fun _ h => by cases h) fnCutFetchSnapshotResponseUpto_row_tie rfl ⟨rfl, rfl⟩ (by kernel_rfl) rfl fnCutFetchSnapshotResponse.plain fnCutFetchSnapshotResponse.goes
#print axioms fnCutFetchSnapshotResponse_holds
end Go.Proofs.YtnodcmiaipbjiaaGreatDoor
