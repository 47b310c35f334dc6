/- The law FnAgainListGroupsResponse: whatever a ListGroupsResponse says is read, and written back byte by byte; of inputs of bulk at most 1048576. The card: tied to the program's text. No condition but the row's own. -/
import Derived.Test.YtafoaplcmgfloaaGreatDoorCards
import Derived.Test.YtafoaplcmgfloaaGreatDoorTie
import Derived.Test.YtafoaplcmgfloaaGreatDoorSeatD
import Derived.Test.YtafoaplcmgfloaaGreatDoorFactA
import Derived.Test.YtafoaplcmgfloaaGreatDoorFactB
import Derived.Test.YtafoaplcmgfloaaGreatDoorFactC
import Derived.Test.YtafoaplcmgfloaaGreatDoorFactD
import Derived.ProofKit
import Derived.SevenTiedAt
namespace Go.Proofs.YtafoaplcmgfloaaGreatDoor.fnAgainListGroupsResponse
open Go.ChangeShapes Go.WideShapes Go.ChangeAt Go.RowKit
set_option linter.unusedVariables false
open Go.Kx in
def rl : RL0 := { f := 10, fMax := 36, fSpec := 37, fAgain := 38, fPtr := 81, fDef := 131, fMv := 82, fSet := 84, fAp := 86, fRd := 85, fRF := 132, tErr := 51, most := 5, L := 16, N := 139, LR := 23, NR := 141, pl := { T := 151, fl := some 3, tg := (some (4, 4)), fs := (.cons (.ge 1) 1 1 0 (.prim .i32 21) (.cons .always 2 2 0 (.prim .i16 42) (.cons .always 3 3 0 (.arr none 149 154 (.struct 154 5 173 (some (4, 4)) (.cons .always 0 0 0 (.prim .str 9) (.cons .always 1 1 0 (.prim .str 9) (.cons (.ge 4) 2 2 0 (.prim .str 9) (.cons (.ge 5) 3 3 0 (.prim .str 9) .nil)))))) .nil))) }, zs := [.int .i16 0, .int .i32 0, .int .i16 0, .nslice, .nmap], df := .nil, sx := (.cons (.mk [(0, 3), (1, 1), (2, -1), (3, -1), (4, -1)] 0 .nil) (.cons (.mk [(0, 2), (2, -1), (3, -1), (4, -1)] 0 .nil) (.cons (.mk [(0, 11), (2, -1), (3, -1), (4, -1), (6, 10)] 83 (.cons (.mk [(0, 8), (2, -1), (3, -1), (4, -1)] 0 .nil) (.cons (.mk [(0, 8), (2, -1), (3, -1), (4, -1)] 0 .nil) (.cons (.mk [(0, 8), (1, 4), (2, -1), (3, -1), (4, -1)] 0 .nil) (.cons (.mk [(0, 8), (1, 5), (2, -1), (3, -1), (4, -1)] 0 .nil) .nil))))) .nil))), flex := 3 }
theorem msgOk : (Go.Kx.msgB Tryz.prog seatK seatG seatS seatR seatTG rl).all id = true := by kernel_rfl
theorem specOk : (Go.Kx.specB Tryz.prog seatS rl).all id = true := by kernel_rfl
theorem lawOk : Go.Kx.isFn Tryz.prog rl.f (Go.Kx.cLawAgain seatS seatZ.f2 rl.fMax rl.fSpec rl.fAgain) 35 4 = true := by kernel_rfl
theorem reads (os : Os) {H : Type} (enc : TypeId × Value → H) : ∃ places, DataW.whole enc Tryz.prog ((laidWorld os).forCall (fun _ _ => 0) ⟨#[], #[.int .u8 0, .agg #[.int .i64 0, .slice none 0 0, .bool false, .slice none 0 0, .slice none 0 0]], []⟩).memory Tryz.f10.params.toList Rows.fnAgainListGroupsResponseSpec.vars false (#[.int .u8 0, .agg #[.int .i64 0, .slice none 0 0, .bool false, .slice none 0 0, .slice none 0 0]] : Array Value).toList 8 = some ([.lit (.int .u8 0), .agg [.lit (.int .i64 0), .nil, .lit (.bool false), .nil, .nil]], [], places) :=
  ⟨[], by kernel_rfl⟩
set_option maxRecDepth 100000 in
theorem lifted (os : Os) (started : os.Started) (H : Type) (enc : TypeId × Value → H) (F : Stop.Interp) :
    ReturnsInHanded {} Tryz.checked os 10 .any ((Rows.OpenSpec.upto Rows.fnAgainListGroupsResponseSpec).preRow enc Tryz.prog Tryz.f10 Rows.fnAgainListGroupsResponseUptoRow.domain false Rows.fnAgainListGroupsResponseUptoRow.laid) (((Rows.OpenSpec.upto Rows.fnAgainListGroupsResponseSpec).at F).post enc Tryz.prog Tryz.f10 false true false false) := by
  obtain ⟨places, hx⟩ := reads os enc
  refine returnsInHanded_of_row (C := Tryz.checked) (s := Rows.OpenSpec.upto Rows.fnAgainListGroupsResponseSpec) own started (by kernel_rfl) Tryz.func10
    (witness_row_at (enc := enc) (C := Tryz.checked) false (laidWorld os) #[.int .u8 0, .agg #[.int .i64 0, .slice none 0 0, .bool false, .slice none 0 0, .slice none 0 0]] rfl (by kernel_rfl) (by kernel_rfl) (by kernel_rfl)
      (OpenSpec.preRow_of_cond 8 hx (by kernel_rfl) (fun k hk => by cases hk; kernel_rfl) (by kernel_rfl) (laid_met os _))) ?_
  intro W base args ds gs before hval hW _ hc _ hL _ _
  exact Go.Kx.again_row seat2 tree rl msgOk specOk lawOk (by kernel_rfl) (fn := Tryz.f10) (s := Rows.fnAgainListGroupsResponseSpec) (bulkOk H) Tryz.params10 (by kernel_rfl) rfl factLaid (by kernel_rfl) (fun _ _ => rfl) hval hW (by have := hc _ rfl; exact of_decide_eq_true this) (err hL)
theorem facts : Go.Kx.rowFacts Tryz.checked.prog 10 Tryz.f10 Rows.fnAgainListGroupsResponseSpec Rows.fnAgainListGroupsResponseUptoRow = true := by kernel_rfl
theorem joined : joinedFacts Tryz.checked.prog 10 Tryz.f10 Rows.fnAgainListGroupsResponseSpec Rows.fnAgainListGroupsResponseUptoRow = true :=
  Go.Kx.joined_of facts factLaid factMaps factStops factKnobs factHeard factEnter factLifts factMake
set_option maxRecDepth 100000 in
theorem over : Rows.fnAgainListGroupsResponseUptoRow.holds Tryz.pinned (Rows.OpenSpec.upto Rows.fnAgainListGroupsResponseSpec) :=
  OpenClaim.holds_of_cond 10 Tryz.f10 rfl rfl rfl rfl rfl rfl rfl ⟨rfl, rfl, rfl, rfl, rfl⟩ rfl rfl rfl rfl rfl (by kernel_rfl) Tryz.func10 joined
    (of_decide_eq_true (by kernel_rfl)) (by unfold Func.isWrapper; first | (rw [if_pos (by decide +kernel)]; kernel_rfl) | (rw [if_neg (by decide +kernel)]; exact ⟨rfl, rfl⟩))
    (fun os started H enc _ F => by rw [OpenClaim.pre_eq_preRow]; exact lifted os started H enc F)
theorem plain (f : FuncId) (fn : Func) (hf : Tryz.pinned.checked.prog.funcNamed "pub-kmsg/laws.FnAgainListGroupsResponse" = some f) (hfn : Tryz.pinned.checked.prog.funcs[f]? = some fn) :
    false = Tryz.pinned.checked.prog.looks [] ∧ ∀ (j : Nat) t, fn.params[j]? = some t → Tryz.pinned.checked.prog.wantsStandIn t = false := by
  obtain rfl : f = 10 := Option.some.inj ((show Tryz.prog.funcNamed "pub-kmsg/laws.FnAgainListGroupsResponse" = some 10 by kernel_rfl).symm.trans hf) |>.symm
  obtain rfl : fn = Tryz.f10 := (Option.some.inj (Tryz.func10.symm.trans hfn)).symm
  refine ⟨by kernel_rfl, fun j t ht => ?_⟩
  rw [Tryz.params10] at ht
  have hm : t ∈ [5, 26] := by simpa using Array.mem_of_getElem? ht
  have hall : ([5, 26].all fun u => !Tryz.prog.wantsStandIn u) = true := by kernel_rfl
  exact (show Tryz.prog.wantsStandIn t = false by simpa using List.all_eq_true.1 hall t hm)
end Go.Proofs.YtafoaplcmgfloaaGreatDoor.fnAgainListGroupsResponse
namespace Go.Proofs.YtafoaplcmgfloaaGreatDoor
/-- The card. -/
theorem fnAgainListGroupsResponse_holds : Rows.FnAgainListGroupsResponseUptoCardSaid :=
  Claim7.holds_tied_plain_at .later [] _ _ _ _ fnAgainListGroupsResponse.over (fun _ h => by cases h) (by kernel_rfl) (fun _ h => by cases h) fnAgainListGroupsResponseUpto_row_tie rfl ⟨rfl, rfl⟩ (by kernel_rfl) rfl fnAgainListGroupsResponse.plain (by kernel_rfl)
#print axioms fnAgainListGroupsResponse_holds
end Go.Proofs.YtafoaplcmgfloaaGreatDoor
