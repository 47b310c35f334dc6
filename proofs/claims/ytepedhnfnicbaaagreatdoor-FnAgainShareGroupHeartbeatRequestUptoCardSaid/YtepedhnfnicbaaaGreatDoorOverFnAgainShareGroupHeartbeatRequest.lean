/- The law FnAgainShareGroupHeartbeatRequest: whatever a ShareGroupHeartbeatRequest says is read, and written back byte by byte; of inputs of bulk at most 1048576. The card: tied to the program's text. No condition but the row's own. -/
import Derived.Test.YtepedhnfnicbaaaGreatDoorCards
import Derived.Test.YtepedhnfnicbaaaGreatDoorTie
import Derived.Test.YtepedhnfnicbaaaGreatDoorSeatD
import Derived.Test.YtepedhnfnicbaaaGreatDoorFactA
import Derived.Test.YtepedhnfnicbaaaGreatDoorFactB
import Derived.Test.YtepedhnfnicbaaaGreatDoorFactC
import Derived.Test.YtepedhnfnicbaaaGreatDoorFactD
import Derived.ProofKit
import Derived.SevenTiedAt
namespace Go.Proofs.YtepedhnfnicbaaaGreatDoor.fnAgainShareGroupHeartbeatRequest
open Go.ChangeShapes Go.WideShapes Go.ChangeAt Go.RowKit
set_option linter.unusedVariables false
open Go.Kx in
def rl : RL0 := { f := 3, fMax := 16, fSpec := 18, fAgain := 20, fPtr := 56, fDef := 130, fMv := 57, fSet := 59, fAp := 61, fRd := 60, fRF := 139, tErr := 51, most := 1, L := 14, N := 111, LR := 20, NR := 123, pl := { T := 87, fl := some 0, tg := (some (6, 6)), fs := (.cons .always 1 1 0 (.prim .str 9) (.cons .always 2 2 0 (.prim .str 9) (.cons .always 3 3 0 (.prim .i32 21) (.cons .always 4 4 0 (.prim .nstr 81) (.cons .always 5 5 0 (.arr (some 0) 82 9 (.prim .str 9)) .nil))))) }, zs := [.int .i16 0, .estr, .estr, .int .i32 0, .nptr, .nslice, .nmap], df := .nil, sx := (.cons (.mk [(0, 8), (2, -1), (3, -1), (4, -1)] 0 .nil) (.cons (.mk [(0, 8), (2, -1), (3, -1), (4, -1)] 0 .nil) (.cons (.mk [(0, 3), (2, -1), (3, -1), (4, -1)] 0 .nil) (.cons (.mk [(0, 8), (2, -1), (3, 0), (4, -1)] 0 .nil) (.cons (.mk [(0, 11), (2, -1), (3, 0), (4, -1), (6, 8)] 0 .nil) .nil))))), flex := 0 }
theorem msgOk : (Go.Kx.msgB Tryz.prog seatK seatG seatS seatR seatTG rl).all id = true := by kernel_rfl
theorem specOk : (Go.Kx.specB Tryz.prog seatS rl).all id = true := by kernel_rfl
theorem lawOk : Go.Kx.isFn Tryz.prog rl.f (Go.Kx.cLawAgain seatS seatZ.f2 rl.fMax rl.fSpec rl.fAgain) 35 4 = true := by kernel_rfl
theorem reads (os : Os) {H : Type} (enc : TypeId × Value → H) : ∃ places, DataW.whole enc Tryz.prog ((laidWorld os).forCall (fun _ _ => 0) ⟨#[], #[.int .u8 0, .agg #[.int .i64 0, .slice none 0 0, .bool false, .slice none 0 0, .slice none 0 0]], []⟩).memory Tryz.f3.params.toList Rows.fnAgainShareGroupHeartbeatRequestSpec.vars false (#[.int .u8 0, .agg #[.int .i64 0, .slice none 0 0, .bool false, .slice none 0 0, .slice none 0 0]] : Array Value).toList 8 = some ([.lit (.int .u8 0), .agg [.lit (.int .i64 0), .nil, .lit (.bool false), .nil, .nil]], [], places) :=
  ⟨[], by kernel_rfl⟩
set_option maxRecDepth 100000 in
theorem lifted (os : Os) (started : os.Started) (H : Type) (enc : TypeId × Value → H) (F : Stop.Interp) :
    ReturnsInHanded {} Tryz.checked os 3 .any ((Rows.OpenSpec.upto Rows.fnAgainShareGroupHeartbeatRequestSpec).preRow enc Tryz.prog Tryz.f3 Rows.fnAgainShareGroupHeartbeatRequestUptoRow.domain false Rows.fnAgainShareGroupHeartbeatRequestUptoRow.laid) (((Rows.OpenSpec.upto Rows.fnAgainShareGroupHeartbeatRequestSpec).at F).post enc Tryz.prog Tryz.f3 false true false false) := by
  obtain ⟨places, hx⟩ := reads os enc
  refine returnsInHanded_of_row (C := Tryz.checked) (s := Rows.OpenSpec.upto Rows.fnAgainShareGroupHeartbeatRequestSpec) own started (by kernel_rfl) Tryz.func3
    (witness_row_at (enc := enc) (C := Tryz.checked) false (laidWorld os) #[.int .u8 0, .agg #[.int .i64 0, .slice none 0 0, .bool false, .slice none 0 0, .slice none 0 0]] rfl (by kernel_rfl) (by kernel_rfl) (by kernel_rfl)
      (OpenSpec.preRow_of_cond 8 hx (by kernel_rfl) (fun k hk => by cases hk; kernel_rfl) (by kernel_rfl) (laid_met os _))) ?_
  intro W base args ds gs before hval hW _ hc _ hL _ _
  exact Go.Kx.again_row seat2 tree rl msgOk specOk lawOk (by kernel_rfl) (fn := Tryz.f3) (s := Rows.fnAgainShareGroupHeartbeatRequestSpec) (bulkOk H) Tryz.params3 (by kernel_rfl) rfl factLaid (by kernel_rfl) (fun _ _ => rfl) hval hW (by have := hc _ rfl; exact of_decide_eq_true this) (err hL)
theorem facts : Go.Kx.rowFacts Tryz.checked.prog 3 Tryz.f3 Rows.fnAgainShareGroupHeartbeatRequestSpec Rows.fnAgainShareGroupHeartbeatRequestUptoRow = true := by kernel_rfl
theorem joined : joinedFacts Tryz.checked.prog 3 Tryz.f3 Rows.fnAgainShareGroupHeartbeatRequestSpec Rows.fnAgainShareGroupHeartbeatRequestUptoRow = true :=
  Go.Kx.joined_of facts factLaid factMaps factStops factKnobs factHeard factEnter factLifts factMake
set_option maxRecDepth 100000 in
theorem over : Rows.fnAgainShareGroupHeartbeatRequestUptoRow.holds Tryz.pinned (Rows.OpenSpec.upto Rows.fnAgainShareGroupHeartbeatRequestSpec) :=
  OpenClaim.holds_of_cond 3 Tryz.f3 rfl rfl rfl rfl rfl rfl rfl ⟨rfl, rfl, rfl, rfl, rfl⟩ rfl rfl rfl rfl rfl (by kernel_rfl) Tryz.func3 joined
    (of_decide_eq_true (by kernel_rfl)) (by unfold Func.isWrapper; first | (rw [if_pos (by decide +kernel)]; kernel_rfl) | (rw [if_neg (by decide +kernel)]; exact ⟨rfl, rfl⟩))
    (fun os started H enc _ F => by rw [OpenClaim.pre_eq_preRow]; exact lifted os started H enc F)
end Go.Proofs.YtepedhnfnicbaaaGreatDoor.fnAgainShareGroupHeartbeatRequest
