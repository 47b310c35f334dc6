/- The law FnCutCreateTopicsResponse: a CreateTopicsResponse that ends ahead of its end is an error; of inputs of bulk at most 1048576. The card: tied to the program's text. No condition but the row's own. -/
import Derived.Test.YtpaoaobmaimibaaGreatDoorCards
import Derived.Test.YtpaoaobmaimibaaGreatDoorTie
import Derived.Test.YtpaoaobmaimibaaGreatDoorSeatD
import Derived.Test.YtpaoaobmaimibaaGreatDoorFactA
import Derived.Test.YtpaoaobmaimibaaGreatDoorFactB
import Derived.Test.YtpaoaobmaimibaaGreatDoorFactC
import Derived.Test.YtpaoaobmaimibaaGreatDoorFactD
import Derived.ProofKit
import Derived.SevenTiedAt
namespace Go.Proofs.YtpaoaobmaimibaaGreatDoor.fnCutCreateTopicsResponse
open Go.ChangeShapes Go.WideShapes Go.ChangeAt Go.RowKit
set_option linter.unusedVariables false
open Go.Kx in
def rl : RL0 := { f := 5, fMax := 16, fSpec := 17, fAgain := 18, fPtr := 33, fDef := 72, fMv := 34, fSet := 36, fAp := 38, fRd := 37, fRF := 74, tErr := 53, most := 7, L := 29, N := 271, LR := 40, NR := 266, pl := { T := 120, fl := some 5, tg := (some ((3, []), 3)), fs := (.cons (.ge 2) 1 1 0 (.prim .i32 21) (.cons .always 2 2 0 (.arr none 118 126 (.struct 126 24 116 (some ((8, [⟨0, 4, 4, 19, 0, .i16, 42⟩]), 23)) (.cons .always 0 0 0 (.prim .str 9) (.cons (.ge 7) 1 1 0 (.prim .uuid 122) (.cons .always 2 17 0 (.prim .i16 42) (.cons (.ge 1) 3 18 0 (.prim .nstr 123) (.cons (.ge 5) 5 20 (-1) (.prim .i32 21) (.cons (.ge 5) 6 21 (-1) (.prim .i16 42) (.cons (.ge 5) 7 22 0 (.arr (some 0) 124 131 (.struct 131 6 122 (some ((5, []), 5)) (.cons .always 0 0 0 (.prim .str 9) (.cons .always 1 1 0 (.prim .nstr 123) (.cons .always 2 2 0 (.prim .bool 4) (.cons .always 3 3 (-1) (.prim .i8 43) (.cons .always 4 4 0 (.prim .bool 4) .nil))))))) .nil))))))))) .nil)) }, zs := [.int .i16 0, .int .i32 0, .nslice, .nmap], df := .nil, sx := (.cons (.mk [(0, 3), (1, 2), (2, -1), (3, -1), (4, -1)] 0 .nil) (.cons (.mk [(0, 11), (2, -1), (3, -1), (4, -1), (6, 10)] 35 (.cons (.mk [(0, 8), (2, -1), (3, -1), (4, -1)] 0 .nil) (.cons (.mk [(0, 7), (1, 7), (2, -1), (3, -1), (4, -1)] 0 .nil) (.cons (.mk [(0, 2), (2, -1), (3, -1), (4, -1)] 0 .nil) (.cons (.mk [(0, 8), (1, 1), (2, -1), (3, 1), (4, -1)] 0 .nil) (.cons (.mk [(0, 2), (2, -1), (3, -1), (4, 0)] 0 .nil) (.cons (.mk [(0, 3), (1, 5), (2, -1), (3, -1), (4, -1), (5, -1)] 0 .nil) (.cons (.mk [(0, 2), (1, 5), (2, -1), (3, -1), (4, -1), (5, -1)] 0 .nil) (.cons (.mk [(0, 11), (1, 5), (2, -1), (3, 5), (4, -1), (6, 10)] 73 (.cons (.mk [(0, 8), (2, -1), (3, -1), (4, -1)] 0 .nil) (.cons (.mk [(0, 8), (2, -1), (3, 0), (4, -1)] 0 .nil) (.cons (.mk [(0, 0), (2, -1), (3, -1), (4, -1)] 0 .nil) (.cons (.mk [(0, 1), (2, -1), (3, -1), (4, -1), (5, -1)] 0 .nil) (.cons (.mk [(0, 0), (2, -1), (3, -1), (4, -1)] 0 .nil) .nil)))))) .nil))))))))) .nil)), flex := 5 }
theorem msgOk : (Go.Kx.msgB Tryz.prog seatK seatG seatS seatR seatTG rl).all id = true := by kernel_rfl
theorem specOk : (Go.Kx.specB Tryz.prog seatS rl).all id = true := by kernel_rfl
theorem lawOk : Go.Kx.isFn Tryz.prog rl.f (Go.Kx.cLawCut seatS seatZ.f2 rl.fMax rl.fSpec rl.fAgain) 56 6 = true := by kernel_rfl
theorem reads (os : Os) {H : Type} (enc : TypeId × Value → H) : ∃ places, DataW.whole enc Tryz.prog ((laidWorld os).forCall (fun _ _ => 0) ⟨#[], #[.int .u8 0, .agg #[.int .i64 0, .slice none 0 0, .bool false, .slice none 0 0, .slice none 0 0], .int .u16 0], []⟩).memory Tryz.f5.params.toList Rows.fnCutCreateTopicsResponseSpec.vars false (#[.int .u8 0, .agg #[.int .i64 0, .slice none 0 0, .bool false, .slice none 0 0, .slice none 0 0], .int .u16 0] : Array Value).toList 8 = some ([.lit (.int .u8 0), .agg [.lit (.int .i64 0), .nil, .lit (.bool false), .nil, .nil], .lit (.int .u16 0)], [], places) :=
  ⟨[], by kernel_rfl⟩
set_option maxRecDepth 100000 in
theorem lifted (os : Os) (started : os.Started) (H : Type) (enc : TypeId × Value → H) (F : Stop.Interp) :
    ReturnsInHanded {} Tryz.checked os 5 .any ((Rows.OpenSpec.upto Rows.fnCutCreateTopicsResponseSpec).preRow enc Tryz.prog Tryz.f5 Rows.fnCutCreateTopicsResponseUptoRow.domain false Rows.fnCutCreateTopicsResponseUptoRow.laid) (((Rows.OpenSpec.upto Rows.fnCutCreateTopicsResponseSpec).at F).post enc Tryz.prog Tryz.f5 false true false false) := by
  obtain ⟨places, hx⟩ := reads os enc
  refine returnsInHanded_of_row (C := Tryz.checked) (s := Rows.OpenSpec.upto Rows.fnCutCreateTopicsResponseSpec) own started (by kernel_rfl) Tryz.func5
    (witness_row_at (enc := enc) (C := Tryz.checked) false (laidWorld os) #[.int .u8 0, .agg #[.int .i64 0, .slice none 0 0, .bool false, .slice none 0 0, .slice none 0 0], .int .u16 0] rfl (by kernel_rfl) (by kernel_rfl) (by kernel_rfl)
      (OpenSpec.preRow_of_cond 8 hx (by kernel_rfl) (fun k hk => by cases hk; kernel_rfl) (by kernel_rfl) (laid_met os _))) ?_
  intro W base args ds gs before hval hW _ hc _ hL _ _
  exact Go.Kx.cut_row seat2 tree rl msgOk specOk lawOk (by kernel_rfl) (by kernel_rfl) (fn := Tryz.f5) (s := Rows.fnCutCreateTopicsResponseSpec) (bulkOk H) (by kernel_rfl) Tryz.params5 (by kernel_rfl) rfl factLaid (by kernel_rfl) (fun _ _ _ => rfl) hval hW (by have := hc _ rfl; exact of_decide_eq_true this) (err hL)
theorem facts : Go.Kx.rowFacts Tryz.checked.prog 5 Tryz.f5 Rows.fnCutCreateTopicsResponseSpec Rows.fnCutCreateTopicsResponseUptoRow = true := by kernel_rfl
theorem joined : joinedFacts Tryz.checked.prog 5 Tryz.f5 Rows.fnCutCreateTopicsResponseSpec Rows.fnCutCreateTopicsResponseUptoRow = true :=
  Go.Kx.joined_of facts factLaid factMaps factStops factKnobs factHeard factEnter factLifts factMake
set_option maxRecDepth 100000 in
theorem over : Rows.fnCutCreateTopicsResponseUptoRow.holds Tryz.pinned (Rows.OpenSpec.upto Rows.fnCutCreateTopicsResponseSpec) :=
  OpenClaim.holds_of_cond 5 Tryz.f5 rfl rfl rfl rfl rfl rfl rfl ⟨rfl, rfl, rfl, rfl, rfl⟩ rfl rfl rfl rfl rfl (by kernel_rfl) Tryz.func5 joined
    (of_decide_eq_true (by kernel_rfl)) (by unfold Func.isWrapper; first | (rw [if_pos (by decide +kernel)]; kernel_rfl) | (rw [if_neg (by decide +kernel)]; exact ⟨rfl, rfl⟩))
    (fun os started H enc _ F => by rw [OpenClaim.pre_eq_preRow]; exact lifted os started H enc F)
end Go.Proofs.YtpaoaobmaimibaaGreatDoor.fnCutCreateTopicsResponse
