/- The law FnCutJoinGroupRequest: a JoinGroupRequest that ends ahead of its end is an error; of inputs of bulk at most 1048576. The card: tied to the program's text. No condition but the row's own. -/
import Derived.Test.YtepedhnfnicbaaaGreatDoorCards
import Derived.Test.YtepedhnfnicbaaaGreatDoorTie
import Derived.Test.YtepedhnfnicbaaaGreatDoorSeatD
import Derived.Test.YtepedhnfnicbaaaGreatDoorFactA
import Derived.Test.YtepedhnfnicbaaaGreatDoorFactB
import Derived.Test.YtepedhnfnicbaaaGreatDoorFactC
import Derived.Test.YtepedhnfnicbaaaGreatDoorFactD
import Derived.ProofKit
import Derived.SevenTiedAt
namespace Go.Proofs.YtepedhnfnicbaaaGreatDoor.fnCutJoinGroupRequest
open Go.ChangeShapes Go.WideShapes Go.ChangeAt Go.RowKit
set_option linter.unusedVariables false
open Go.Kx in
def rl : RL0 := { f := 10, fMax := 40, fSpec := 41, fAgain := 42, fPtr := 99, fDef := 175, fMv := 100, fSet := 102, fAp := 104, fRd := 103, fRF := 176, tErr := 51, most := 9, L := 19, N := 175, LR := 26, NR := 173, pl := { T := 172, fl := some 6, tg := (some (9, 9)), fs := (.cons .always 1 1 0 (.prim .str 9) (.cons .always 2 2 0 (.prim .i32 21) (.cons (.ge 1) 3 3 (-1) (.prim .i32 21) (.cons .always 4 4 0 (.prim .str 9) (.cons (.ge 5) 5 5 0 (.prim .nstr 81) (.cons .always 6 6 0 (.prim .str 9) (.cons .always 7 7 0 (.arr none 170 175 (.struct 175 3 235 (some (2, 2)) (.cons .always 0 0 0 (.prim .str 9) (.cons .always 1 1 0 (.prim .byt 22) .nil)))) (.cons (.ge 8) 8 8 0 (.prim .nstr 81) .nil)))))))) }, zs := [.int .i16 0, .estr, .int .i32 0, .int .i32 0, .estr, .nptr, .estr, .nslice, .nptr, .nmap], df := (.cons (.st 172 3 3 21 (.int .i32 (-1))) .nil), sx := (.cons (.mk [(0, 8), (2, -1), (3, -1), (4, -1)] 0 .nil) (.cons (.mk [(0, 3), (2, -1), (3, -1), (4, -1)] 0 .nil) (.cons (.mk [(0, 3), (1, 1), (2, -1), (3, -1), (4, -1), (5, -1)] 0 .nil) (.cons (.mk [(0, 8), (2, -1), (3, -1), (4, -1)] 0 .nil) (.cons (.mk [(0, 8), (1, 5), (2, -1), (3, 5), (4, -1)] 0 .nil) (.cons (.mk [(0, 8), (2, -1), (3, -1), (4, -1)] 0 .nil) (.cons (.mk [(0, 11), (2, -1), (3, -1), (4, -1), (6, 10)] 101 (.cons (.mk [(0, 8), (2, -1), (3, -1), (4, -1)] 0 .nil) (.cons (.mk [(0, 9), (2, -1), (3, -1), (4, -1)] 0 .nil) .nil))) (.cons (.mk [(0, 8), (1, 8), (2, -1), (3, 8), (4, -1)] 0 .nil) .nil)))))))), flex := 6 }
theorem msgOk : (Go.Kx.msgB Tryz.prog seatK seatG seatS seatR seatTG rl).all id = true := by kernel_rfl
theorem specOk : (Go.Kx.specB Tryz.prog seatS rl).all id = true := by kernel_rfl
theorem lawOk : Go.Kx.isFn Tryz.prog rl.f (Go.Kx.cLawCut seatS seatZ.f2 rl.fMax rl.fSpec rl.fAgain) 56 6 = true := by kernel_rfl
theorem reads (os : Os) {H : Type} (enc : TypeId × Value → H) : ∃ places, DataW.whole enc Tryz.prog ((laidWorld os).forCall (fun _ _ => 0) ⟨#[], #[.int .u8 0, .agg #[.int .i64 0, .slice none 0 0, .bool false, .slice none 0 0, .slice none 0 0], .int .u16 0], []⟩).memory Tryz.f10.params.toList Rows.fnCutJoinGroupRequestSpec.vars false (#[.int .u8 0, .agg #[.int .i64 0, .slice none 0 0, .bool false, .slice none 0 0, .slice none 0 0], .int .u16 0] : Array Value).toList 8 = some ([.lit (.int .u8 0), .agg [.lit (.int .i64 0), .nil, .lit (.bool false), .nil, .nil], .lit (.int .u16 0)], [], places) :=
  ⟨[], by kernel_rfl⟩
set_option maxRecDepth 100000 in
theorem lifted (os : Os) (started : os.Started) (H : Type) (enc : TypeId × Value → H) (F : Stop.Interp) :
    ReturnsInHanded {} Tryz.checked os 10 .any ((Rows.OpenSpec.upto Rows.fnCutJoinGroupRequestSpec).preRow enc Tryz.prog Tryz.f10 Rows.fnCutJoinGroupRequestUptoRow.domain false Rows.fnCutJoinGroupRequestUptoRow.laid) (((Rows.OpenSpec.upto Rows.fnCutJoinGroupRequestSpec).at F).post enc Tryz.prog Tryz.f10 false true false false) := by
  obtain ⟨places, hx⟩ := reads os enc
  refine returnsInHanded_of_row (C := Tryz.checked) (s := Rows.OpenSpec.upto Rows.fnCutJoinGroupRequestSpec) own started (by kernel_rfl) Tryz.func10
    (witness_row_at (enc := enc) (C := Tryz.checked) false (laidWorld os) #[.int .u8 0, .agg #[.int .i64 0, .slice none 0 0, .bool false, .slice none 0 0, .slice none 0 0], .int .u16 0] rfl (by kernel_rfl) (by kernel_rfl) (by kernel_rfl)
      (OpenSpec.preRow_of_cond 8 hx (by kernel_rfl) (fun k hk => by cases hk; kernel_rfl) (by kernel_rfl) (laid_met os _))) ?_
  intro W base args ds gs before hval hW _ hc _ hL _ _
  exact Go.Kx.cut_row seat2 tree rl msgOk specOk lawOk (by kernel_rfl) (by kernel_rfl) (fn := Tryz.f10) (s := Rows.fnCutJoinGroupRequestSpec) (bulkOk H) (by kernel_rfl) Tryz.params10 (by kernel_rfl) rfl factLaid (by kernel_rfl) (fun _ _ _ => rfl) hval hW (by have := hc _ rfl; exact of_decide_eq_true this) (err hL)
theorem facts : Go.Kx.rowFacts Tryz.checked.prog 10 Tryz.f10 Rows.fnCutJoinGroupRequestSpec Rows.fnCutJoinGroupRequestUptoRow = true := by kernel_rfl
theorem joined : joinedFacts Tryz.checked.prog 10 Tryz.f10 Rows.fnCutJoinGroupRequestSpec Rows.fnCutJoinGroupRequestUptoRow = true :=
  Go.Kx.joined_of facts factLaid factMaps factStops factKnobs factHeard factEnter factLifts factMake
set_option maxRecDepth 100000 in
theorem over : Rows.fnCutJoinGroupRequestUptoRow.holds Tryz.pinned (Rows.OpenSpec.upto Rows.fnCutJoinGroupRequestSpec) :=
  OpenClaim.holds_of_cond 10 Tryz.f10 rfl rfl rfl rfl rfl rfl rfl ⟨rfl, rfl, rfl, rfl, rfl⟩ rfl rfl rfl rfl rfl (by kernel_rfl) Tryz.func10 joined
    (of_decide_eq_true (by kernel_rfl)) (by unfold Func.isWrapper; first | (rw [if_pos (by decide +kernel)]; kernel_rfl) | (rw [if_neg (by decide +kernel)]; exact ⟨rfl, rfl⟩))
    (fun os started H enc _ F => by rw [OpenClaim.pre_eq_preRow]; exact lifted os started H enc F)
end Go.Proofs.YtepedhnfnicbaaaGreatDoor.fnCutJoinGroupRequest
