/- The law FnCutProduceRequest: a ProduceRequest that ends ahead of its end is an error; of inputs of bulk at most 1048576. The card: tied to the program's text. No condition but the row's own. -/
import Derived.Test.YtepedhnfnicbaaaGreatDoorCards
import Derived.Test.YtepedhnfnicbaaaGreatDoorTie
import Derived.Test.YtepedhnfnicbaaaGreatDoorSeatD
import Derived.Test.YtepedhnfnicbaaaGreatDoorFactA
import Derived.Test.YtepedhnfnicbaaaGreatDoorFactB
import Derived.Test.YtepedhnfnicbaaaGreatDoorFactC
import Derived.Test.YtepedhnfnicbaaaGreatDoorFactD
import Derived.ProofKit
import Derived.SevenTiedAt
namespace Go.Proofs.YtepedhnfnicbaaaGreatDoor.fnCutProduceRequest
open Go.ChangeShapes Go.WideShapes Go.ChangeAt Go.RowKit
set_option linter.unusedVariables false
open Go.Kx in
def rl : RL0 := { f := 14, fMax := 52, fSpec := 53, fAgain := 54, fPtr := 123, fDef := 185, fMv := 124, fSet := 126, fAp := 128, fRd := 127, fRF := 187, tErr := 51, most := 13, L := 20, N := 186, LR := 30, NR := 186, pl := { T := 208, fl := some 9, tg := (some (5, 5)), fs := (.cons (.ge 3) 1 1 0 (.prim .nstr 81) (.cons .always 2 2 0 (.prim .i16 42) (.cons .always 3 3 (15000) (.prim .i32 21) (.cons .always 4 4 0 (.arr none 206 212 (.struct 212 19 243 (some (3, 18)) (.cons (.btw 0 12) 0 0 0 (.prim .str 9) (.cons (.ge 13) 1 1 0 (.prim .uuid 107) (.cons .always 2 17 0 (.arr none 210 215 (.struct 215 3 244 (some (2, 2)) (.cons .always 0 0 0 (.prim .i32 21) (.cons .always 1 1 0 (.prim .nbyt 22) .nil)))) .nil))))) .nil)))) }, zs := [.int .i16 0, .nptr, .int .i16 0, .int .i32 0, .nslice, .nmap], df := (.cons (.st 208 3 3 21 (.int .i32 (15000))) .nil), sx := (.cons (.mk [(0, 8), (1, 3), (2, -1), (3, 3), (4, -1)] 0 .nil) (.cons (.mk [(0, 2), (2, -1), (3, -1), (4, -1)] 0 .nil) (.cons (.mk [(0, 3), (2, -1), (3, -1), (4, -1), (5, 15000)] 0 .nil) (.cons (.mk [(0, 11), (2, -1), (3, -1), (4, -1), (6, 10)] 125 (.cons (.mk [(0, 8), (2, 12), (3, -1), (4, -1)] 0 .nil) (.cons (.mk [(0, 7), (1, 13), (2, -1), (3, -1), (4, -1)] 0 .nil) (.cons (.mk [(0, 11), (2, -1), (3, -1), (4, -1), (6, 10)] 186 (.cons (.mk [(0, 3), (2, -1), (3, -1), (4, -1)] 0 .nil) (.cons (.mk [(0, 9), (2, -1), (3, 0), (4, -1)] 0 .nil) .nil))) .nil)))) .nil)))), flex := 9 }
theorem msgOk : (Go.Kx.msgB Tryz.prog seatK seatG seatS seatR seatTG rl).all id = true := by kernel_rfl
theorem specOk : (Go.Kx.specB Tryz.prog seatS rl).all id = true := by kernel_rfl
theorem lawOk : Go.Kx.isFn Tryz.prog rl.f (Go.Kx.cLawCut seatS seatZ.f2 rl.fMax rl.fSpec rl.fAgain) 56 6 = true := by kernel_rfl
theorem reads (os : Os) {H : Type} (enc : TypeId × Value → H) : ∃ places, DataW.whole enc Tryz.prog ((laidWorld os).forCall (fun _ _ => 0) ⟨#[], #[.int .u8 0, .agg #[.int .i64 0, .slice none 0 0, .bool false, .slice none 0 0, .slice none 0 0], .int .u16 0], []⟩).memory Tryz.f14.params.toList Rows.fnCutProduceRequestSpec.vars false (#[.int .u8 0, .agg #[.int .i64 0, .slice none 0 0, .bool false, .slice none 0 0, .slice none 0 0], .int .u16 0] : Array Value).toList 8 = some ([.lit (.int .u8 0), .agg [.lit (.int .i64 0), .nil, .lit (.bool false), .nil, .nil], .lit (.int .u16 0)], [], places) :=
  ⟨[], by kernel_rfl⟩
set_option maxRecDepth 100000 in
theorem lifted (os : Os) (started : os.Started) (H : Type) (enc : TypeId × Value → H) (F : Stop.Interp) :
    ReturnsInHanded {} Tryz.checked os 14 .any ((Rows.OpenSpec.upto Rows.fnCutProduceRequestSpec).preRow enc Tryz.prog Tryz.f14 Rows.fnCutProduceRequestUptoRow.domain false Rows.fnCutProduceRequestUptoRow.laid) (((Rows.OpenSpec.upto Rows.fnCutProduceRequestSpec).at F).post enc Tryz.prog Tryz.f14 false true false false) := by
  obtain ⟨places, hx⟩ := reads os enc
  refine returnsInHanded_of_row (C := Tryz.checked) (s := Rows.OpenSpec.upto Rows.fnCutProduceRequestSpec) own started (by kernel_rfl) Tryz.func14
    (witness_row_at (enc := enc) (C := Tryz.checked) false (laidWorld os) #[.int .u8 0, .agg #[.int .i64 0, .slice none 0 0, .bool false, .slice none 0 0, .slice none 0 0], .int .u16 0] rfl (by kernel_rfl) (by kernel_rfl) (by kernel_rfl)
      (OpenSpec.preRow_of_cond 8 hx (by kernel_rfl) (fun k hk => by cases hk; kernel_rfl) (by kernel_rfl) (laid_met os _))) ?_
  intro W base args ds gs before hval hW _ hc _ hL _ _
  exact Go.Kx.cut_row seat2 tree rl msgOk specOk lawOk (by kernel_rfl) (by kernel_rfl) (fn := Tryz.f14) (s := Rows.fnCutProduceRequestSpec) (bulkOk H) (by kernel_rfl) Tryz.params14 (by kernel_rfl) rfl factLaid (by kernel_rfl) (fun _ _ _ => rfl) hval hW (by have := hc _ rfl; exact of_decide_eq_true this) (err hL)
theorem facts : Go.Kx.rowFacts Tryz.checked.prog 14 Tryz.f14 Rows.fnCutProduceRequestSpec Rows.fnCutProduceRequestUptoRow = true := by kernel_rfl
theorem joined : joinedFacts Tryz.checked.prog 14 Tryz.f14 Rows.fnCutProduceRequestSpec Rows.fnCutProduceRequestUptoRow = true :=
  Go.Kx.joined_of facts factLaid factMaps factStops factKnobs factHeard factEnter factLifts factMake
set_option maxRecDepth 100000 in
theorem over : Rows.fnCutProduceRequestUptoRow.holds Tryz.pinned (Rows.OpenSpec.upto Rows.fnCutProduceRequestSpec) :=
  OpenClaim.holds_of_cond 14 Tryz.f14 rfl rfl rfl rfl rfl rfl rfl ⟨rfl, rfl, rfl, rfl, rfl⟩ rfl rfl rfl rfl rfl (by kernel_rfl) Tryz.func14 joined
    (of_decide_eq_true (by kernel_rfl)) (by unfold Func.isWrapper; first | (rw [if_pos (by decide +kernel)]; kernel_rfl) | (rw [if_neg (by decide +kernel)]; exact ⟨rfl, rfl⟩))
    (fun os started H enc _ F => by rw [OpenClaim.pre_eq_preRow]; exact lifted os started H enc F)
end Go.Proofs.YtepedhnfnicbaaaGreatDoor.fnCutProduceRequest
