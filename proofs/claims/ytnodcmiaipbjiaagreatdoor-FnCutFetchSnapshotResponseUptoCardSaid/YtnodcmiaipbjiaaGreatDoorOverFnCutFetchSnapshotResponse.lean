/- The law FnCutFetchSnapshotResponse: a FetchSnapshotResponse that ends ahead of its end is an error; of inputs of bulk at most 1048576. The card: tied to the program's text. No condition but the row's own. -/
import Derived.Test.YtnodcmiaipbjiaaGreatDoorCards
import Derived.Test.YtnodcmiaipbjiaaGreatDoorTie
import Derived.Test.YtnodcmiaipbjiaaGreatDoorSeatD
import Derived.Test.YtnodcmiaipbjiaaGreatDoorFactA
import Derived.Test.YtnodcmiaipbjiaaGreatDoorFactB
import Derived.Test.YtnodcmiaipbjiaaGreatDoorFactC
import Derived.Test.YtnodcmiaipbjiaaGreatDoorFactD
import Derived.ProofKit
import Derived.SevenTiedAt
namespace Go.Proofs.YtnodcmiaipbjiaaGreatDoor.fnCutFetchSnapshotResponse
open Go.ChangeShapes Go.WideShapes Go.ChangeAt Go.RowKit
set_option linter.unusedVariables false
open Go.Kx in
def rl : RL0 := { f := 3, fMax := 5, fSpec := 7, fAgain := 9, fPtr := 11, fDef := 20, fMv := 12, fSet := 16, fAp := 18, fRd := 17, fRF := 30, tErr := 50, most := 1, L := 43, N := 397, LR := 56, NR := 351, pl := { T := 63, fl := some 0, tg := (some ((5, []), 5)), fs := (.cons .always 1 1 0 (.prim .i32 21) (.cons .always 2 2 0 (.prim .i16 40) (.cons .always 3 3 0 (.arr none 57 79 (.struct 79 3 62 (some ((2, []), 2)) (.cons .always 0 0 0 (.prim .str 9) (.cons .always 1 1 0 (.arr none 77 87 (.struct 87 12 67 (some ((7, []), 11)) (.cons .always 0 0 0 (.prim .i32 21) (.cons .always 1 1 0 (.prim .i16 40) (.cons .always 2 2 0 (.struct 83 3 68 (some ((2, []), 2)) (.cons .always 0 0 0 (.prim .i64 2) (.cons .always 1 1 0 (.prim .i32 21) .nil))) (.cons .tag 3 5 0 (.struct 85 3 45 (some ((2, []), 2)) (.cons .always 0 0 0 (.prim .i32 21) (.cons .always 1 1 0 (.prim .i32 21) .nil))) (.cons .always 4 8 0 (.prim .i64 2) (.cons .always 5 9 0 (.prim .i64 2) (.cons .always 6 10 0 (.prim .byt 22) .nil))))))))) .nil)))) (.cons .tag 4 4 (1) (.arr none 58 97 (.struct 97 4 76 (some ((3, []), 3)) (.cons (.ge 1) 0 0 0 (.prim .i32 21) (.cons (.ge 1) 1 1 0 (.prim .str 9) (.cons (.ge 1) 2 2 0 (.prim .u16 27) .nil))))) .nil)))) }, zs := [.int .i16 0, .int .i32 0, .int .i16 0, .nslice, .nslice, .nmap], df := .nil, sx := (.cons (.mk [(0, 3), (2, -1), (3, -1), (4, -1)] 0 .nil) (.cons (.mk [(0, 2), (2, -1), (3, -1), (4, -1)] 0 .nil) (.cons (.mk [(0, 11), (2, -1), (3, -1), (4, -1), (6, 10)] 14 (.cons (.mk [(0, 8), (2, -1), (3, -1), (4, -1)] 0 .nil) (.cons (.mk [(0, 11), (2, -1), (3, -1), (4, -1), (6, 10)] 29 (.cons (.mk [(0, 3), (2, -1), (3, -1), (4, -1)] 0 .nil) (.cons (.mk [(0, 2), (2, -1), (3, -1), (4, -1)] 0 .nil) (.cons (.mk [(0, 10), (2, -1), (3, -1), (4, -1)] 54 (.cons (.mk [(0, 4), (2, -1), (3, -1), (4, -1)] 0 .nil) (.cons (.mk [(0, 3), (2, -1), (3, -1), (4, -1)] 0 .nil) .nil))) (.cons (.mk [(0, 10), (2, -1), (3, -1), (4, 0)] 55 (.cons (.mk [(0, 3), (2, -1), (3, -1), (4, -1)] 0 .nil) (.cons (.mk [(0, 3), (2, -1), (3, -1), (4, -1)] 0 .nil) .nil))) (.cons (.mk [(0, 4), (2, -1), (3, -1), (4, -1)] 0 .nil) (.cons (.mk [(0, 4), (2, -1), (3, -1), (4, -1)] 0 .nil) (.cons (.mk [(0, 9), (2, -1), (3, -1), (4, -1)] 0 .nil) .nil)))))))) .nil))) (.cons (.mk [(0, 11), (2, -1), (3, -1), (4, 0), (6, 10)] 15 (.cons (.mk [(0, 3), (1, 1), (2, -1), (3, -1), (4, -1)] 0 .nil) (.cons (.mk [(0, 8), (1, 1), (2, -1), (3, -1), (4, -1)] 0 .nil) (.cons (.mk [(0, 5), (1, 1), (2, -1), (3, -1), (4, -1)] 0 .nil) .nil)))) .nil)))), flex := 0 }
theorem msgOk : (Go.Kx.msgB Tryz.prog seatK seatG seatS seatR seatTG rl).all id = true := by kernel_rfl
theorem specOk : (Go.Kx.specB Tryz.prog seatS rl).all id = true := by kernel_rfl
theorem lawOk : Go.Kx.isFn Tryz.prog rl.f (Go.Kx.cLawCut seatS seatZ.f2 rl.fMax rl.fSpec rl.fAgain) 56 6 = true := by kernel_rfl
theorem reads (os : Os) {H : Type} (enc : TypeId × Value → H) : ∃ places, DataW.whole enc Tryz.prog ((laidWorld os).forCall (fun _ _ => 0) ⟨#[], #[.int .u8 0, .agg #[.int .i64 0, .slice none 0 0, .bool false, .slice none 0 0, .slice none 0 0], .int .u16 0], []⟩).memory Tryz.f3.params.toList Rows.fnCutFetchSnapshotResponseSpec.vars false (#[.int .u8 0, .agg #[.int .i64 0, .slice none 0 0, .bool false, .slice none 0 0, .slice none 0 0], .int .u16 0] : Array Value).toList 8 = some ([.lit (.int .u8 0), .agg [.lit (.int .i64 0), .nil, .lit (.bool false), .nil, .nil], .lit (.int .u16 0)], [], places) :=
  ⟨[], by kernel_rfl⟩
set_option maxRecDepth 100000 in
theorem lifted (os : Os) (started : os.Started) (H : Type) (enc : TypeId × Value → H) (F : Stop.Interp) :
    ReturnsInHanded {} Tryz.checked os 3 .any ((Rows.OpenSpec.upto Rows.fnCutFetchSnapshotResponseSpec).preRow enc Tryz.prog Tryz.f3 Rows.fnCutFetchSnapshotResponseUptoRow.domain false Rows.fnCutFetchSnapshotResponseUptoRow.laid) (((Rows.OpenSpec.upto Rows.fnCutFetchSnapshotResponseSpec).at F).post enc Tryz.prog Tryz.f3 false true false false) := by
  obtain ⟨places, hx⟩ := reads os enc
  refine returnsInHanded_of_row (C := Tryz.checked) (s := Rows.OpenSpec.upto Rows.fnCutFetchSnapshotResponseSpec) own started (by kernel_rfl) Tryz.func3
    (witness_row_at (enc := enc) (C := Tryz.checked) false (laidWorld os) #[.int .u8 0, .agg #[.int .i64 0, .slice none 0 0, .bool false, .slice none 0 0, .slice none 0 0], .int .u16 0] rfl (by kernel_rfl) (by kernel_rfl) (by kernel_rfl)
      (OpenSpec.preRow_of_cond 8 hx (by kernel_rfl) (fun k hk => by cases hk; kernel_rfl) (by kernel_rfl) (laid_met os _))) ?_
  intro W base args ds gs before hval hW _ hc _ hL _ _
  exact Go.Kx.cut_row seat2 tree rl msgOk specOk lawOk (by kernel_rfl) (by kernel_rfl) (fn := Tryz.f3) (s := Rows.fnCutFetchSnapshotResponseSpec) (bulkOk H) (by kernel_rfl) Tryz.params3 (by kernel_rfl) rfl factLaid (by kernel_rfl) (fun _ _ _ => rfl) hval hW (by have := hc _ rfl; exact of_decide_eq_true this) (err hL)
theorem facts : Go.Kx.rowFacts Tryz.checked.prog 3 Tryz.f3 Rows.fnCutFetchSnapshotResponseSpec Rows.fnCutFetchSnapshotResponseUptoRow = true := by kernel_rfl
theorem joined : joinedFacts Tryz.checked.prog 3 Tryz.f3 Rows.fnCutFetchSnapshotResponseSpec Rows.fnCutFetchSnapshotResponseUptoRow = true :=
  Go.Kx.joined_of facts factLaid factMaps factStops factKnobs factHeard factEnter factLifts factMake
set_option maxRecDepth 100000 in
theorem over : Rows.fnCutFetchSnapshotResponseUptoRow.holds Tryz.pinned (Rows.OpenSpec.upto Rows.fnCutFetchSnapshotResponseSpec) :=
  OpenClaim.holds_of_cond 3 Tryz.f3 rfl rfl rfl rfl rfl rfl rfl ⟨rfl, rfl, rfl, rfl, rfl⟩ rfl rfl rfl rfl rfl (by kernel_rfl) Tryz.func3 joined
    (of_decide_eq_true (by kernel_rfl)) (by unfold Func.isWrapper; first | (rw [if_pos (by decide +kernel)]; kernel_rfl) | (rw [if_neg (by decide +kernel)]; exact ⟨rfl, rfl⟩))
    (fun os started H enc _ F => by rw [OpenClaim.pre_eq_preRow]; exact lifted os started H enc F)
end Go.Proofs.YtnodcmiaipbjiaaGreatDoor.fnCutFetchSnapshotResponse
