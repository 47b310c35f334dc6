/- The law FnCutDescribeLogDirsResponse: a DescribeLogDirsResponse that ends ahead of its end is an error; of inputs of bulk at most 1048576. The card: tied to the program's text. No condition but the row's own. -/
import Derived.Test.YtepedhnfnicbaaaGreatDoorCards
import Derived.Test.YtepedhnfnicbaaaGreatDoorTie
import Derived.Test.YtepedhnfnicbaaaGreatDoorSeatD
import Derived.Test.YtepedhnfnicbaaaGreatDoorFactA
import Derived.Test.YtepedhnfnicbaaaGreatDoorFactB
import Derived.Test.YtepedhnfnicbaaaGreatDoorFactC
import Derived.Test.YtepedhnfnicbaaaGreatDoorFactD
import Derived.ProofKit
import Derived.SevenTiedAt
namespace Go.Proofs.YtepedhnfnicbaaaGreatDoor.fnCutDescribeLogDirsResponse
open Go.ChangeShapes Go.WideShapes Go.ChangeAt Go.RowKit
set_option linter.unusedVariables false
open Go.Kx in
def rl : RL0 := { f := 11, fMax := 43, fSpec := 44, fAgain := 45, fPtr := 105, fDef := 177, fMv := 106, fSet := 108, fAp := 110, fRd := 109, fRF := 179, tErr := 51, most := 5, L := 28, N := 259, LR := 41, NR := 257, pl := { T := 178, fl := some 2, tg := (some (4, 4)), fs := (.cons .always 1 1 0 (.prim .i32 21) (.cons (.ge 3) 2 2 0 (.prim .i16 42) (.cons .always 3 3 0 (.arr none 176 182 (.struct 182 7 237 (some (6, 6)) (.cons .always 0 0 0 (.prim .i16 42) (.cons .always 1 1 0 (.prim .str 9) (.cons .always 2 2 0 (.arr none 180 186 (.struct 186 3 238 (some (2, 2)) (.cons .always 0 0 0 (.prim .str 9) (.cons .always 1 1 0 (.arr none 184 189 (.struct 189 5 239 (some (4, 4)) (.cons .always 0 0 0 (.prim .i32 21) (.cons .always 1 1 0 (.prim .i64 2) (.cons .always 2 2 0 (.prim .i64 2) (.cons .always 3 3 0 (.prim .bool 4) .nil)))))) .nil)))) (.cons (.ge 4) 3 3 (-1) (.prim .i64 2) (.cons (.ge 4) 4 4 (-1) (.prim .i64 2) (.cons (.ge 5) 5 5 0 (.prim .bool 4) .nil)))))))) .nil))) }, zs := [.int .i16 0, .int .i32 0, .int .i16 0, .nslice, .nmap], df := .nil, sx := (.cons (.mk [(0, 3), (2, -1), (3, -1), (4, -1)] 0 .nil) (.cons (.mk [(0, 2), (1, 3), (2, -1), (3, -1), (4, -1)] 0 .nil) (.cons (.mk [(0, 11), (2, -1), (3, -1), (4, -1), (6, 10)] 107 (.cons (.mk [(0, 2), (2, -1), (3, -1), (4, -1)] 0 .nil) (.cons (.mk [(0, 8), (2, -1), (3, -1), (4, -1)] 0 .nil) (.cons (.mk [(0, 11), (2, -1), (3, -1), (4, -1), (6, 10)] 178 (.cons (.mk [(0, 8), (2, -1), (3, -1), (4, -1)] 0 .nil) (.cons (.mk [(0, 11), (2, -1), (3, -1), (4, -1), (6, 10)] 236 (.cons (.mk [(0, 3), (2, -1), (3, -1), (4, -1)] 0 .nil) (.cons (.mk [(0, 4), (2, -1), (3, -1), (4, -1)] 0 .nil) (.cons (.mk [(0, 4), (2, -1), (3, -1), (4, -1)] 0 .nil) (.cons (.mk [(0, 0), (2, -1), (3, -1), (4, -1)] 0 .nil) .nil))))) .nil))) (.cons (.mk [(0, 4), (1, 4), (2, -1), (3, -1), (4, -1), (5, -1)] 0 .nil) (.cons (.mk [(0, 4), (1, 4), (2, -1), (3, -1), (4, -1), (5, -1)] 0 .nil) (.cons (.mk [(0, 0), (1, 5), (2, -1), (3, -1), (4, -1)] 0 .nil) .nil))))))) .nil))), flex := 2 }
theorem msgOk : (Go.Kx.msgB Tryz.prog seatK seatG seatS seatR seatTG rl).all id = true := by kernel_rfl
theorem specOk : (Go.Kx.specB Tryz.prog seatS rl).all id = true := by kernel_rfl
theorem lawOk : Go.Kx.isFn Tryz.prog rl.f (Go.Kx.cLawCut seatS seatZ.f2 rl.fMax rl.fSpec rl.fAgain) 56 6 = true := by kernel_rfl
theorem reads (os : Os) {H : Type} (enc : TypeId × Value → H) : ∃ places, DataW.whole enc Tryz.prog ((laidWorld os).forCall (fun _ _ => 0) ⟨#[], #[.int .u8 0, .agg #[.int .i64 0, .slice none 0 0, .bool false, .slice none 0 0, .slice none 0 0], .int .u16 0], []⟩).memory Tryz.f11.params.toList Rows.fnCutDescribeLogDirsResponseSpec.vars false (#[.int .u8 0, .agg #[.int .i64 0, .slice none 0 0, .bool false, .slice none 0 0, .slice none 0 0], .int .u16 0] : Array Value).toList 8 = some ([.lit (.int .u8 0), .agg [.lit (.int .i64 0), .nil, .lit (.bool false), .nil, .nil], .lit (.int .u16 0)], [], places) :=
  ⟨[], by kernel_rfl⟩
set_option maxRecDepth 100000 in
theorem lifted (os : Os) (started : os.Started) (H : Type) (enc : TypeId × Value → H) (F : Stop.Interp) :
    ReturnsInHanded {} Tryz.checked os 11 .any ((Rows.OpenSpec.upto Rows.fnCutDescribeLogDirsResponseSpec).preRow enc Tryz.prog Tryz.f11 Rows.fnCutDescribeLogDirsResponseUptoRow.domain false Rows.fnCutDescribeLogDirsResponseUptoRow.laid) (((Rows.OpenSpec.upto Rows.fnCutDescribeLogDirsResponseSpec).at F).post enc Tryz.prog Tryz.f11 false true false false) := by
  obtain ⟨places, hx⟩ := reads os enc
  refine returnsInHanded_of_row (C := Tryz.checked) (s := Rows.OpenSpec.upto Rows.fnCutDescribeLogDirsResponseSpec) own started (by kernel_rfl) Tryz.func11
    (witness_row_at (enc := enc) (C := Tryz.checked) false (laidWorld os) #[.int .u8 0, .agg #[.int .i64 0, .slice none 0 0, .bool false, .slice none 0 0, .slice none 0 0], .int .u16 0] rfl (by kernel_rfl) (by kernel_rfl) (by kernel_rfl)
      (OpenSpec.preRow_of_cond 8 hx (by kernel_rfl) (fun k hk => by cases hk; kernel_rfl) (by kernel_rfl) (laid_met os _))) ?_
  intro W base args ds gs before hval hW _ hc _ hL _ _
  exact Go.Kx.cut_row seat2 tree rl msgOk specOk lawOk (by kernel_rfl) (by kernel_rfl) (fn := Tryz.f11) (s := Rows.fnCutDescribeLogDirsResponseSpec) (bulkOk H) (by kernel_rfl) Tryz.params11 (by kernel_rfl) rfl factLaid (by kernel_rfl) (fun _ _ _ => rfl) hval hW (by have := hc _ rfl; exact of_decide_eq_true this) (err hL)
theorem facts : Go.Kx.rowFacts Tryz.checked.prog 11 Tryz.f11 Rows.fnCutDescribeLogDirsResponseSpec Rows.fnCutDescribeLogDirsResponseUptoRow = true := by kernel_rfl
theorem joined : joinedFacts Tryz.checked.prog 11 Tryz.f11 Rows.fnCutDescribeLogDirsResponseSpec Rows.fnCutDescribeLogDirsResponseUptoRow = true :=
  Go.Kx.joined_of facts factLaid factMaps factStops factKnobs factHeard factEnter factLifts factMake
set_option maxRecDepth 100000 in
theorem over : Rows.fnCutDescribeLogDirsResponseUptoRow.holds Tryz.pinned (Rows.OpenSpec.upto Rows.fnCutDescribeLogDirsResponseSpec) :=
  OpenClaim.holds_of_cond 11 Tryz.f11 rfl rfl rfl rfl rfl rfl rfl ⟨rfl, rfl, rfl, rfl, rfl⟩ rfl rfl rfl rfl rfl (by kernel_rfl) Tryz.func11 joined
    (of_decide_eq_true (by kernel_rfl)) (by unfold Func.isWrapper; first | (rw [if_pos (by decide +kernel)]; kernel_rfl) | (rw [if_neg (by decide +kernel)]; exact ⟨rfl, rfl⟩))
    (fun os started H enc _ F => by rw [OpenClaim.pre_eq_preRow]; exact lifted os started H enc F)
end Go.Proofs.YtepedhnfnicbaaaGreatDoor.fnCutDescribeLogDirsResponse
