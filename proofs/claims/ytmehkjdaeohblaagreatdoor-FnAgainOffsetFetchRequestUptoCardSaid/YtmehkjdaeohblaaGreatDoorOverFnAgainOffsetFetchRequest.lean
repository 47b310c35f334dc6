/- The law FnAgainOffsetFetchRequest: whatever a OffsetFetchRequest says is read, and written back byte by byte; of inputs of bulk at most 1048576. The card: tied to the program's text. No condition but the row's own. -/
import Derived.Test.YtmehkjdaeohblaaGreatDoorCards
import Derived.Test.YtmehkjdaeohblaaGreatDoorTie
import Derived.Test.YtmehkjdaeohblaaGreatDoorSeatD
import Derived.Test.YtmehkjdaeohblaaGreatDoorFactA
import Derived.Test.YtmehkjdaeohblaaGreatDoorFactB
import Derived.Test.YtmehkjdaeohblaaGreatDoorFactC
import Derived.Test.YtmehkjdaeohblaaGreatDoorFactD
import Derived.ProofKit
import Derived.SevenTiedAt
namespace Go.Proofs.YtmehkjdaeohblaaGreatDoor.fnAgainOffsetFetchRequest
open Go.ChangeShapes Go.WideShapes Go.ChangeAt Go.RowKit
set_option linter.unusedVariables false
open Go.Kx in
def rl : RL0 := { f := 4, fMax := 12, fSpec := 13, fAgain := 14, fPtr := 24, fDef := 57, fMv := 25, fSet := 28, fAp := 30, fRd := 29, fRF := 59, tErr := 50, most := 10, L := 30, N := 336, LR := 47, NR := 361, pl := { T := 98, fl := some 6, tg := (some (5, 5)), fs := (.cons (.btw 0 7) 1 1 0 (.prim .str 9) (.cons (.btw 0 7) 2 2 0 (.arr (some 2) 95 103 (.struct 103 3 94 (some (2, 2)) (.cons .always 0 0 0 (.prim .str 9) (.cons .always 1 1 0 (.arr none 101 21 (.prim .i32 21)) .nil)))) (.cons (.ge 8) 3 3 0 (.arr none 96 107 (.struct 107 5 95 (some (4, 4)) (.cons .always 0 0 0 (.prim .str 9) (.cons (.ge 9) 1 1 0 (.prim .nstr 62) (.cons (.ge 9) 2 2 (-1) (.prim .i32 21) (.cons .always 3 3 0 (.arr (some 0) 105 110 (.struct 110 19 96 (some (3, 18)) (.cons (.btw 8 9) 0 0 0 (.prim .str 9) (.cons (.ge 10) 1 1 0 (.prim .uuid 59) (.cons .always 2 17 0 (.arr none 101 21 (.prim .i32 21)) .nil))))) .nil)))))) (.cons (.ge 7) 4 4 0 (.prim .bool 4) .nil)))) }, zs := [.int .i16 0, .estr, .nslice, .nslice, .bool false, .nmap], df := .nil, sx := (.cons (.mk [(0, 8), (2, 7), (3, -1), (4, -1)] 0 .nil) (.cons (.mk [(0, 11), (2, 7), (3, 2), (4, -1), (6, 10)] 26 (.cons (.mk [(0, 8), (2, -1), (3, -1), (4, -1)] 0 .nil) (.cons (.mk [(0, 11), (2, -1), (3, -1), (4, -1), (6, 3)] 0 .nil) .nil))) (.cons (.mk [(0, 11), (1, 8), (2, -1), (3, -1), (4, -1), (6, 10)] 27 (.cons (.mk [(0, 8), (2, -1), (3, -1), (4, -1)] 0 .nil) (.cons (.mk [(0, 8), (1, 9), (2, -1), (3, 9), (4, -1)] 0 .nil) (.cons (.mk [(0, 3), (1, 9), (2, -1), (3, -1), (4, -1), (5, -1)] 0 .nil) (.cons (.mk [(0, 11), (2, -1), (3, -1), (4, -1), (6, 10)] 58 (.cons (.mk [(0, 8), (1, 8), (2, 9), (3, -1), (4, -1)] 0 .nil) (.cons (.mk [(0, 7), (1, 10), (2, -1), (3, -1), (4, -1)] 0 .nil) (.cons (.mk [(0, 11), (2, -1), (3, -1), (4, -1), (6, 3)] 0 .nil) .nil)))) .nil))))) (.cons (.mk [(0, 0), (1, 7), (2, -1), (3, -1), (4, -1)] 0 .nil) .nil)))), flex := 6 }
theorem msgOk : (Go.Kx.msgB Tryz.prog seatK seatG seatS seatR seatTG rl).all id = true := by kernel_rfl
theorem specOk : (Go.Kx.specB Tryz.prog seatS rl).all id = true := by kernel_rfl
theorem lawOk : Go.Kx.isFn Tryz.prog rl.f (Go.Kx.cLawAgain seatS seatZ.f2 rl.fMax rl.fSpec rl.fAgain) 35 4 = true := by kernel_rfl
theorem reads (os : Os) {H : Type} (enc : TypeId × Value → H) : ∃ places, DataW.whole enc Tryz.prog ((laidWorld os).forCall (fun _ _ => 0) ⟨#[], #[.int .u8 0, .agg #[.int .i64 0, .slice none 0 0, .bool false, .slice none 0 0, .slice none 0 0]], []⟩).memory Tryz.f4.params.toList Rows.fnAgainOffsetFetchRequestSpec.vars false (#[.int .u8 0, .agg #[.int .i64 0, .slice none 0 0, .bool false, .slice none 0 0, .slice none 0 0]] : Array Value).toList 8 = some ([.lit (.int .u8 0), .agg [.lit (.int .i64 0), .nil, .lit (.bool false), .nil, .nil]], [], places) :=
  ⟨[], by kernel_rfl⟩
set_option maxRecDepth 100000 in
theorem lifted (os : Os) (started : os.Started) (H : Type) (enc : TypeId × Value → H) (F : Stop.Interp) :
    ReturnsInHanded {} Tryz.checked os 4 .any ((Rows.OpenSpec.upto Rows.fnAgainOffsetFetchRequestSpec).preRow enc Tryz.prog Tryz.f4 Rows.fnAgainOffsetFetchRequestUptoRow.domain false Rows.fnAgainOffsetFetchRequestUptoRow.laid) (((Rows.OpenSpec.upto Rows.fnAgainOffsetFetchRequestSpec).at F).post enc Tryz.prog Tryz.f4 false true false false) := by
  obtain ⟨places, hx⟩ := reads os enc
  refine returnsInHanded_of_row (C := Tryz.checked) (s := Rows.OpenSpec.upto Rows.fnAgainOffsetFetchRequestSpec) own started (by kernel_rfl) Tryz.func4
    (witness_row_at (enc := enc) (C := Tryz.checked) false (laidWorld os) #[.int .u8 0, .agg #[.int .i64 0, .slice none 0 0, .bool false, .slice none 0 0, .slice none 0 0]] rfl (by kernel_rfl) (by kernel_rfl) (by kernel_rfl)
      (OpenSpec.preRow_of_cond 8 hx (by kernel_rfl) (fun k hk => by cases hk; kernel_rfl) (by kernel_rfl) (laid_met os _))) ?_
  intro W base args ds gs before hval hW _ hc _ hL _ _
  exact Go.Kx.again_row seat2 tree rl msgOk specOk lawOk (by kernel_rfl) (fn := Tryz.f4) (s := Rows.fnAgainOffsetFetchRequestSpec) (bulkOk H) Tryz.params4 (by kernel_rfl) rfl factLaid (by kernel_rfl) (fun _ _ => rfl) hval hW (by have := hc _ rfl; exact of_decide_eq_true this) (err hL)
theorem facts : Go.Kx.rowFacts Tryz.checked.prog 4 Tryz.f4 Rows.fnAgainOffsetFetchRequestSpec Rows.fnAgainOffsetFetchRequestUptoRow = true := by kernel_rfl
theorem joined : joinedFacts Tryz.checked.prog 4 Tryz.f4 Rows.fnAgainOffsetFetchRequestSpec Rows.fnAgainOffsetFetchRequestUptoRow = true :=
  Go.Kx.joined_of facts factLaid factMaps factStops factKnobs factHeard factEnter factLifts factMake
set_option maxRecDepth 100000 in
theorem over : Rows.fnAgainOffsetFetchRequestUptoRow.holds Tryz.pinned (Rows.OpenSpec.upto Rows.fnAgainOffsetFetchRequestSpec) :=
  OpenClaim.holds_of_cond 4 Tryz.f4 rfl rfl rfl rfl rfl rfl rfl ⟨rfl, rfl, rfl, rfl, rfl⟩ rfl rfl rfl rfl rfl (by kernel_rfl) Tryz.func4 joined
    (of_decide_eq_true (by kernel_rfl)) (by unfold Func.isWrapper; first | (rw [if_pos (by decide +kernel)]; kernel_rfl) | (rw [if_neg (by decide +kernel)]; exact ⟨rfl, rfl⟩))
    (fun os started H enc _ F => by rw [OpenClaim.pre_eq_preRow]; exact lifted os started H enc F)
end Go.Proofs.YtmehkjdaeohblaaGreatDoor.fnAgainOffsetFetchRequest
