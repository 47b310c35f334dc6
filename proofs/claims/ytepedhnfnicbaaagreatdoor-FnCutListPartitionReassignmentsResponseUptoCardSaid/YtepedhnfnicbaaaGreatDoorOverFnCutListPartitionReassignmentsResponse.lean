/- The law FnCutListPartitionReassignmentsResponse: a ListPartitionReassignmentsResponse that ends ahead of its end is an error; of inputs of bulk at most 1048576. The card: tied to the program's text. No condition but the row's own. -/
import Derived.Test.YtepedhnfnicbaaaGreatDoorCards
import Derived.Test.YtepedhnfnicbaaaGreatDoorTie
import Derived.Test.YtepedhnfnicbaaaGreatDoorSeatD
import Derived.Test.YtepedhnfnicbaaaGreatDoorFactA
import Derived.Test.YtepedhnfnicbaaaGreatDoorFactB
import Derived.Test.YtepedhnfnicbaaaGreatDoorFactC
import Derived.Test.YtepedhnfnicbaaaGreatDoorFactD
import Derived.ProofKit
import Derived.SevenTiedAt
namespace Go.Proofs.YtepedhnfnicbaaaGreatDoor.fnCutListPartitionReassignmentsResponse
open Go.ChangeShapes Go.WideShapes Go.ChangeAt Go.RowKit
set_option linter.unusedVariables false
open Go.Kx in
def rl : RL0 := { f := 12, fMax := 46, fSpec := 47, fAgain := 48, fPtr := 111, fDef := 180, fMv := 112, fSet := 114, fAp := 116, fRd := 115, fRF := 182, tErr := 51, most := 0, L := 27, N := 243, LR := 43, NR := 276, pl := { T := 192, fl := some 0, tg := (some (5, 5)), fs := (.cons .always 1 1 0 (.prim .i32 21) (.cons .always 2 2 0 (.prim .i16 42) (.cons .always 3 3 0 (.prim .nstr 81) (.cons .always 4 4 0 (.arr none 190 196 (.struct 196 3 240 (some (2, 2)) (.cons .always 0 0 0 (.prim .str 9) (.cons .always 1 1 0 (.arr none 194 199 (.struct 199 5 241 (some (4, 4)) (.cons .always 0 0 0 (.prim .i32 21) (.cons .always 1 1 0 (.arr none 160 21 (.prim .i32 21)) (.cons .always 2 2 0 (.arr none 160 21 (.prim .i32 21)) (.cons .always 3 3 0 (.arr none 160 21 (.prim .i32 21)) .nil)))))) .nil)))) .nil)))) }, zs := [.int .i16 0, .int .i32 0, .int .i16 0, .nptr, .nslice, .nmap], df := .nil, sx := (.cons (.mk [(0, 3), (2, -1), (3, -1), (4, -1)] 0 .nil) (.cons (.mk [(0, 2), (2, -1), (3, -1), (4, -1)] 0 .nil) (.cons (.mk [(0, 8), (2, -1), (3, 0), (4, -1)] 0 .nil) (.cons (.mk [(0, 11), (2, -1), (3, -1), (4, -1), (6, 10)] 113 (.cons (.mk [(0, 8), (2, -1), (3, -1), (4, -1)] 0 .nil) (.cons (.mk [(0, 11), (2, -1), (3, -1), (4, -1), (6, 10)] 181 (.cons (.mk [(0, 3), (2, -1), (3, -1), (4, -1)] 0 .nil) (.cons (.mk [(0, 11), (2, -1), (3, -1), (4, -1), (6, 3)] 0 .nil) (.cons (.mk [(0, 11), (2, -1), (3, -1), (4, -1), (6, 3)] 0 .nil) (.cons (.mk [(0, 11), (2, -1), (3, -1), (4, -1), (6, 3)] 0 .nil) .nil))))) .nil))) .nil)))), flex := 0 }
theorem msgOk : (Go.Kx.msgB Tryz.prog seatK seatG seatS seatR seatTG rl).all id = true := by kernel_rfl
theorem specOk : (Go.Kx.specB Tryz.prog seatS rl).all id = true := by kernel_rfl
theorem lawOk : Go.Kx.isFn Tryz.prog rl.f (Go.Kx.cLawCut seatS seatZ.f2 rl.fMax rl.fSpec rl.fAgain) 56 6 = true := by kernel_rfl
theorem reads (os : Os) {H : Type} (enc : TypeId × Value → H) : ∃ places, DataW.whole enc Tryz.prog ((laidWorld os).forCall (fun _ _ => 0) ⟨#[], #[.int .u8 0, .agg #[.int .i64 0, .slice none 0 0, .bool false, .slice none 0 0, .slice none 0 0], .int .u16 0], []⟩).memory Tryz.f12.params.toList Rows.fnCutListPartitionReassignmentsResponseSpec.vars false (#[.int .u8 0, .agg #[.int .i64 0, .slice none 0 0, .bool false, .slice none 0 0, .slice none 0 0], .int .u16 0] : Array Value).toList 8 = some ([.lit (.int .u8 0), .agg [.lit (.int .i64 0), .nil, .lit (.bool false), .nil, .nil], .lit (.int .u16 0)], [], places) :=
  ⟨[], by kernel_rfl⟩
set_option maxRecDepth 100000 in
theorem lifted (os : Os) (started : os.Started) (H : Type) (enc : TypeId × Value → H) (F : Stop.Interp) :
    ReturnsInHanded {} Tryz.checked os 12 .any ((Rows.OpenSpec.upto Rows.fnCutListPartitionReassignmentsResponseSpec).preRow enc Tryz.prog Tryz.f12 Rows.fnCutListPartitionReassignmentsResponseUptoRow.domain false Rows.fnCutListPartitionReassignmentsResponseUptoRow.laid) (((Rows.OpenSpec.upto Rows.fnCutListPartitionReassignmentsResponseSpec).at F).post enc Tryz.prog Tryz.f12 false true false false) := by
  obtain ⟨places, hx⟩ := reads os enc
  refine returnsInHanded_of_row (C := Tryz.checked) (s := Rows.OpenSpec.upto Rows.fnCutListPartitionReassignmentsResponseSpec) own started (by kernel_rfl) Tryz.func12
    (witness_row_at (enc := enc) (C := Tryz.checked) false (laidWorld os) #[.int .u8 0, .agg #[.int .i64 0, .slice none 0 0, .bool false, .slice none 0 0, .slice none 0 0], .int .u16 0] rfl (by kernel_rfl) (by kernel_rfl) (by kernel_rfl)
      (OpenSpec.preRow_of_cond 8 hx (by kernel_rfl) (fun k hk => by cases hk; kernel_rfl) (by kernel_rfl) (laid_met os _))) ?_
  intro W base args ds gs before hval hW _ hc _ hL _ _
  exact Go.Kx.cut_row seat2 tree rl msgOk specOk lawOk (by kernel_rfl) (by kernel_rfl) (fn := Tryz.f12) (s := Rows.fnCutListPartitionReassignmentsResponseSpec) (bulkOk H) (by kernel_rfl) Tryz.params12 (by kernel_rfl) rfl factLaid (by kernel_rfl) (fun _ _ _ => rfl) hval hW (by have := hc _ rfl; exact of_decide_eq_true this) (err hL)
theorem facts : Go.Kx.rowFacts Tryz.checked.prog 12 Tryz.f12 Rows.fnCutListPartitionReassignmentsResponseSpec Rows.fnCutListPartitionReassignmentsResponseUptoRow = true := by kernel_rfl
theorem joined : joinedFacts Tryz.checked.prog 12 Tryz.f12 Rows.fnCutListPartitionReassignmentsResponseSpec Rows.fnCutListPartitionReassignmentsResponseUptoRow = true :=
  Go.Kx.joined_of facts factLaid factMaps factStops factKnobs factHeard factEnter factLifts factMake
set_option maxRecDepth 100000 in
theorem over : Rows.fnCutListPartitionReassignmentsResponseUptoRow.holds Tryz.pinned (Rows.OpenSpec.upto Rows.fnCutListPartitionReassignmentsResponseSpec) :=
  OpenClaim.holds_of_cond 12 Tryz.f12 rfl rfl rfl rfl rfl rfl rfl ⟨rfl, rfl, rfl, rfl, rfl⟩ rfl rfl rfl rfl rfl (by kernel_rfl) Tryz.func12 joined
    (of_decide_eq_true (by kernel_rfl)) (by unfold Func.isWrapper; first | (rw [if_pos (by decide +kernel)]; kernel_rfl) | (rw [if_neg (by decide +kernel)]; exact ⟨rfl, rfl⟩))
    (fun os started H enc _ F => by rw [OpenClaim.pre_eq_preRow]; exact lifted os started H enc F)
end Go.Proofs.YtepedhnfnicbaaaGreatDoor.fnCutListPartitionReassignmentsResponse
