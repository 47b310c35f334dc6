/- The law FnAgainAddRaftVoterRequest: whatever a AddRaftVoterRequest says is read, and written back byte by byte; of inputs of bulk at most 1048576. The card: tied to the program's text. No condition but the row's own. -/
import Derived.Test.YtepedhnfnicbaaaGreatDoorCards
import Derived.Test.YtepedhnfnicbaaaGreatDoorTie
import Derived.Test.YtepedhnfnicbaaaGreatDoorSeatD
import Derived.Test.YtepedhnfnicbaaaGreatDoorFactA
import Derived.Test.YtepedhnfnicbaaaGreatDoorFactB
import Derived.Test.YtepedhnfnicbaaaGreatDoorFactC
import Derived.Test.YtepedhnfnicbaaaGreatDoorFactD
import Derived.ProofKit
import Derived.SevenTiedAt
namespace Go.Proofs.YtepedhnfnicbaaaGreatDoor.fnAgainAddRaftVoterRequest
open Go.ChangeShapes Go.WideShapes Go.ChangeAt Go.RowKit
set_option linter.unusedVariables false
open Go.Kx in
def rl : RL0 := { f := 5, fMax := 25, fSpec := 26, fAgain := 27, fPtr := 67, fDef := 156, fMv := 68, fSet := 70, fAp := 72, fRd := 71, fRF := 157, tErr := 51, most := 1, L := 18, N := 147, LR := 25, NR := 143, pl := { T := 110, fl := some 0, tg := (some (7, 22)), fs := (.cons .always 1 1 0 (.prim .nstr 81) (.cons .always 2 2 (15000) (.prim .i32 21) (.cons .always 3 3 0 (.prim .i32 21) (.cons .always 4 4 0 (.prim .uuid 107) (.cons .always 5 20 0 (.arr none 108 115 (.struct 115 4 220 (some (3, 3)) (.cons .always 0 0 0 (.prim .str 9) (.cons .always 1 1 0 (.prim .str 9) (.cons .always 2 2 0 (.prim .u16 39) .nil))))) (.cons (.ge 1) 6 21 (1) (.prim .bool 4) .nil)))))) }, zs := [.int .i16 0, .nptr, .int .i32 0, .int .i32 0, .int .u8 0, .int .u8 0, .int .u8 0, .int .u8 0, .int .u8 0, .int .u8 0, .int .u8 0, .int .u8 0, .int .u8 0, .int .u8 0, .int .u8 0, .int .u8 0, .int .u8 0, .int .u8 0, .int .u8 0, .int .u8 0, .nslice, .bool false, .nmap], df := (.cons (.st 110 2 2 21 (.int .i32 (15000))) (.cons (.st 110 6 21 4 (.bool true)) .nil)), sx := (.cons (.mk [(0, 8), (2, -1), (3, 0), (4, -1)] 0 .nil) (.cons (.mk [(0, 3), (2, -1), (3, -1), (4, -1), (5, 15000)] 0 .nil) (.cons (.mk [(0, 3), (2, -1), (3, -1), (4, -1)] 0 .nil) (.cons (.mk [(0, 7), (2, -1), (3, -1), (4, -1)] 0 .nil) (.cons (.mk [(0, 11), (2, -1), (3, -1), (4, -1), (6, 10)] 69 (.cons (.mk [(0, 8), (2, -1), (3, -1), (4, -1)] 0 .nil) (.cons (.mk [(0, 8), (2, -1), (3, -1), (4, -1)] 0 .nil) (.cons (.mk [(0, 5), (2, -1), (3, -1), (4, -1)] 0 .nil) .nil)))) (.cons (.mk [(0, 0), (1, 1), (2, -1), (3, -1), (4, -1), (5, 1)] 0 .nil) .nil)))))), flex := 0 }
theorem msgOk : (Go.Kx.msgB Tryz.prog seatK seatG seatS seatR seatTG rl).all id = true := by kernel_rfl
theorem specOk : (Go.Kx.specB Tryz.prog seatS rl).all id = true := by kernel_rfl
theorem lawOk : Go.Kx.isFn Tryz.prog rl.f (Go.Kx.cLawAgain seatS seatZ.f2 rl.fMax rl.fSpec rl.fAgain) 35 4 = true := by kernel_rfl
theorem reads (os : Os) {H : Type} (enc : TypeId × Value → H) : ∃ places, DataW.whole enc Tryz.prog ((laidWorld os).forCall (fun _ _ => 0) ⟨#[], #[.int .u8 0, .agg #[.int .i64 0, .slice none 0 0, .bool false, .slice none 0 0, .slice none 0 0]], []⟩).memory Tryz.f5.params.toList Rows.fnAgainAddRaftVoterRequestSpec.vars false (#[.int .u8 0, .agg #[.int .i64 0, .slice none 0 0, .bool false, .slice none 0 0, .slice none 0 0]] : Array Value).toList 8 = some ([.lit (.int .u8 0), .agg [.lit (.int .i64 0), .nil, .lit (.bool false), .nil, .nil]], [], places) :=
  ⟨[], by kernel_rfl⟩
set_option maxRecDepth 100000 in
theorem lifted (os : Os) (started : os.Started) (H : Type) (enc : TypeId × Value → H) (F : Stop.Interp) :
    ReturnsInHanded {} Tryz.checked os 5 .any ((Rows.OpenSpec.upto Rows.fnAgainAddRaftVoterRequestSpec).preRow enc Tryz.prog Tryz.f5 Rows.fnAgainAddRaftVoterRequestUptoRow.domain false Rows.fnAgainAddRaftVoterRequestUptoRow.laid) (((Rows.OpenSpec.upto Rows.fnAgainAddRaftVoterRequestSpec).at F).post enc Tryz.prog Tryz.f5 false true false false) := by
  obtain ⟨places, hx⟩ := reads os enc
  refine returnsInHanded_of_row (C := Tryz.checked) (s := Rows.OpenSpec.upto Rows.fnAgainAddRaftVoterRequestSpec) own started (by kernel_rfl) Tryz.func5
    (witness_row_at (enc := enc) (C := Tryz.checked) false (laidWorld os) #[.int .u8 0, .agg #[.int .i64 0, .slice none 0 0, .bool false, .slice none 0 0, .slice none 0 0]] rfl (by kernel_rfl) (by kernel_rfl) (by kernel_rfl)
      (OpenSpec.preRow_of_cond 8 hx (by kernel_rfl) (fun k hk => by cases hk; kernel_rfl) (by kernel_rfl) (laid_met os _))) ?_
  intro W base args ds gs before hval hW _ hc _ hL _ _
  exact Go.Kx.again_row seat2 tree rl msgOk specOk lawOk (by kernel_rfl) (fn := Tryz.f5) (s := Rows.fnAgainAddRaftVoterRequestSpec) (bulkOk H) Tryz.params5 (by kernel_rfl) rfl factLaid (by kernel_rfl) (fun _ _ => rfl) hval hW (by have := hc _ rfl; exact of_decide_eq_true this) (err hL)
theorem facts : Go.Kx.rowFacts Tryz.checked.prog 5 Tryz.f5 Rows.fnAgainAddRaftVoterRequestSpec Rows.fnAgainAddRaftVoterRequestUptoRow = true := by kernel_rfl
theorem joined : joinedFacts Tryz.checked.prog 5 Tryz.f5 Rows.fnAgainAddRaftVoterRequestSpec Rows.fnAgainAddRaftVoterRequestUptoRow = true :=
  Go.Kx.joined_of facts factLaid factMaps factStops factKnobs factHeard factEnter factLifts factMake
set_option maxRecDepth 100000 in
theorem over : Rows.fnAgainAddRaftVoterRequestUptoRow.holds Tryz.pinned (Rows.OpenSpec.upto Rows.fnAgainAddRaftVoterRequestSpec) :=
  OpenClaim.holds_of_cond 5 Tryz.f5 rfl rfl rfl rfl rfl rfl rfl ⟨rfl, rfl, rfl, rfl, rfl⟩ rfl rfl rfl rfl rfl (by kernel_rfl) Tryz.func5 joined
    (of_decide_eq_true (by kernel_rfl)) (by unfold Func.isWrapper; first | (rw [if_pos (by decide +kernel)]; kernel_rfl) | (rw [if_neg (by decide +kernel)]; exact ⟨rfl, rfl⟩))
    (fun os started H enc _ F => by rw [OpenClaim.pre_eq_preRow]; exact lifted os started H enc F)
end Go.Proofs.YtepedhnfnicbaaaGreatDoor.fnAgainAddRaftVoterRequest
