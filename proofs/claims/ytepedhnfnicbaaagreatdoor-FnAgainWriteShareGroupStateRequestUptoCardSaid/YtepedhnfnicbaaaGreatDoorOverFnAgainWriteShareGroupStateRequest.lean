/- The law FnAgainWriteShareGroupStateRequest: whatever a WriteShareGroupStateRequest says is read, and written back byte by byte; of inputs of bulk at most 1048576. The card: tied to the program's text. No condition but the row's own. -/
import Derived.Test.YtepedhnfnicbaaaGreatDoorCards
import Derived.Test.YtepedhnfnicbaaaGreatDoorTie
import Derived.Test.YtepedhnfnicbaaaGreatDoorSeatD
import Derived.Test.YtepedhnfnicbaaaGreatDoorFactA
import Derived.Test.YtepedhnfnicbaaaGreatDoorFactB
import Derived.Test.YtepedhnfnicbaaaGreatDoorFactC
import Derived.Test.YtepedhnfnicbaaaGreatDoorFactD
import Derived.ProofKit
import Derived.SevenTiedAt
namespace Go.Proofs.YtepedhnfnicbaaaGreatDoor.fnAgainWriteShareGroupStateRequest
open Go.ChangeShapes Go.WideShapes Go.ChangeAt Go.RowKit
set_option linter.unusedVariables false
open Go.Kx in
def rl : RL0 := { f := 6, fMax := 28, fSpec := 29, fAgain := 30, fPtr := 73, fDef := 163, fMv := 74, fSet := 76, fAp := 78, fRd := 77, fRF := 165, tErr := 51, most := 1, L := 27, N := 241, LR := 40, NR := 239, pl := { T := 120, fl := some 0, tg := (some (3, 3)), fs := (.cons .always 1 1 0 (.prim .str 9) (.cons .always 2 2 0 (.arr none 118 124 (.struct 124 18 224 (some (2, 17)) (.cons .always 0 0 0 (.prim .uuid 107) (.cons .always 1 16 0 (.arr none 122 128 (.struct 128 7 225 (some (6, 6)) (.cons .always 0 0 0 (.prim .i32 21) (.cons .always 1 1 0 (.prim .i32 21) (.cons .always 2 2 0 (.prim .i32 21) (.cons .always 3 3 0 (.prim .i64 2) (.cons (.ge 1) 4 4 (-1) (.prim .i32 21) (.cons .always 5 5 0 (.arr none 126 132 (.struct 132 5 226 (some (4, 4)) (.cons .always 0 0 0 (.prim .i64 2) (.cons .always 1 1 0 (.prim .i64 2) (.cons .always 2 2 0 (.prim .i8 130) (.cons .always 3 3 0 (.prim .i16 42) .nil)))))) .nil)))))))) .nil)))) .nil)) }, zs := [.int .i16 0, .estr, .nslice, .nmap], df := .nil, sx := (.cons (.mk [(0, 8), (2, -1), (3, -1), (4, -1)] 0 .nil) (.cons (.mk [(0, 11), (2, -1), (3, -1), (4, -1), (6, 10)] 75 (.cons (.mk [(0, 7), (2, -1), (3, -1), (4, -1)] 0 .nil) (.cons (.mk [(0, 11), (2, -1), (3, -1), (4, -1), (6, 10)] 164 (.cons (.mk [(0, 3), (2, -1), (3, -1), (4, -1)] 0 .nil) (.cons (.mk [(0, 3), (2, -1), (3, -1), (4, -1)] 0 .nil) (.cons (.mk [(0, 3), (2, -1), (3, -1), (4, -1)] 0 .nil) (.cons (.mk [(0, 4), (2, -1), (3, -1), (4, -1)] 0 .nil) (.cons (.mk [(0, 3), (1, 1), (2, -1), (3, -1), (4, -1), (5, -1)] 0 .nil) (.cons (.mk [(0, 11), (2, -1), (3, -1), (4, -1), (6, 10)] 223 (.cons (.mk [(0, 4), (2, -1), (3, -1), (4, -1)] 0 .nil) (.cons (.mk [(0, 4), (2, -1), (3, -1), (4, -1)] 0 .nil) (.cons (.mk [(0, 1), (2, -1), (3, -1), (4, -1)] 0 .nil) (.cons (.mk [(0, 2), (2, -1), (3, -1), (4, -1)] 0 .nil) .nil))))) .nil))))))) .nil))) .nil)), flex := 0 }
theorem msgOk : (Go.Kx.msgB Tryz.prog seatK seatG seatS seatR seatTG rl).all id = true := by kernel_rfl
theorem specOk : (Go.Kx.specB Tryz.prog seatS rl).all id = true := by kernel_rfl
theorem lawOk : Go.Kx.isFn Tryz.prog rl.f (Go.Kx.cLawAgain seatS seatZ.f2 rl.fMax rl.fSpec rl.fAgain) 35 4 = true := by kernel_rfl
theorem reads (os : Os) {H : Type} (enc : TypeId × Value → H) : ∃ places, DataW.whole enc Tryz.prog ((laidWorld os).forCall (fun _ _ => 0) ⟨#[], #[.int .u8 0, .agg #[.int .i64 0, .slice none 0 0, .bool false, .slice none 0 0, .slice none 0 0]], []⟩).memory Tryz.f6.params.toList Rows.fnAgainWriteShareGroupStateRequestSpec.vars false (#[.int .u8 0, .agg #[.int .i64 0, .slice none 0 0, .bool false, .slice none 0 0, .slice none 0 0]] : Array Value).toList 8 = some ([.lit (.int .u8 0), .agg [.lit (.int .i64 0), .nil, .lit (.bool false), .nil, .nil]], [], places) :=
  ⟨[], by kernel_rfl⟩
set_option maxRecDepth 100000 in
theorem lifted (os : Os) (started : os.Started) (H : Type) (enc : TypeId × Value → H) (F : Stop.Interp) :
    ReturnsInHanded {} Tryz.checked os 6 .any ((Rows.OpenSpec.upto Rows.fnAgainWriteShareGroupStateRequestSpec).preRow enc Tryz.prog Tryz.f6 Rows.fnAgainWriteShareGroupStateRequestUptoRow.domain false Rows.fnAgainWriteShareGroupStateRequestUptoRow.laid) (((Rows.OpenSpec.upto Rows.fnAgainWriteShareGroupStateRequestSpec).at F).post enc Tryz.prog Tryz.f6 false true false false) := by
  obtain ⟨places, hx⟩ := reads os enc
  refine returnsInHanded_of_row (C := Tryz.checked) (s := Rows.OpenSpec.upto Rows.fnAgainWriteShareGroupStateRequestSpec) own started (by kernel_rfl) Tryz.func6
    (witness_row_at (enc := enc) (C := Tryz.checked) false (laidWorld os) #[.int .u8 0, .agg #[.int .i64 0, .slice none 0 0, .bool false, .slice none 0 0, .slice none 0 0]] rfl (by kernel_rfl) (by kernel_rfl) (by kernel_rfl)
      (OpenSpec.preRow_of_cond 8 hx (by kernel_rfl) (fun k hk => by cases hk; kernel_rfl) (by kernel_rfl) (laid_met os _))) ?_
  intro W base args ds gs before hval hW _ hc _ hL _ _
  exact Go.Kx.again_row seat2 tree rl msgOk specOk lawOk (by kernel_rfl) (fn := Tryz.f6) (s := Rows.fnAgainWriteShareGroupStateRequestSpec) (bulkOk H) Tryz.params6 (by kernel_rfl) rfl factLaid (by kernel_rfl) (fun _ _ => rfl) hval hW (by have := hc _ rfl; exact of_decide_eq_true this) (err hL)
theorem facts : Go.Kx.rowFacts Tryz.checked.prog 6 Tryz.f6 Rows.fnAgainWriteShareGroupStateRequestSpec Rows.fnAgainWriteShareGroupStateRequestUptoRow = true := by kernel_rfl
theorem joined : joinedFacts Tryz.checked.prog 6 Tryz.f6 Rows.fnAgainWriteShareGroupStateRequestSpec Rows.fnAgainWriteShareGroupStateRequestUptoRow = true :=
  Go.Kx.joined_of facts factLaid factMaps factStops factKnobs factHeard factEnter factLifts factMake
set_option maxRecDepth 100000 in
theorem over : Rows.fnAgainWriteShareGroupStateRequestUptoRow.holds Tryz.pinned (Rows.OpenSpec.upto Rows.fnAgainWriteShareGroupStateRequestSpec) :=
  OpenClaim.holds_of_cond 6 Tryz.f6 rfl rfl rfl rfl rfl rfl rfl ⟨rfl, rfl, rfl, rfl, rfl⟩ rfl rfl rfl rfl rfl (by kernel_rfl) Tryz.func6 joined
    (of_decide_eq_true (by kernel_rfl)) (by unfold Func.isWrapper; first | (rw [if_pos (by decide +kernel)]; kernel_rfl) | (rw [if_neg (by decide +kernel)]; exact ⟨rfl, rfl⟩))
    (fun os started H enc _ F => by rw [OpenClaim.pre_eq_preRow]; exact lifted os started H enc F)
end Go.Proofs.YtepedhnfnicbaaaGreatDoor.fnAgainWriteShareGroupStateRequest
