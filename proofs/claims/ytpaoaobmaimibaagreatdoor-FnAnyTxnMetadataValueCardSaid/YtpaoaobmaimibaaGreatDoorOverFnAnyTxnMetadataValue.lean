/- The law FnAnyTxnMetadataValue: what is read of any bytes as a TxnMetadataValue is written as bytes that are read again, and written as the same. The card: tied to the program's text. No condition but the row's own. -/
import Derived.Test.YtpaoaobmaimibaaGreatDoorCards
import Derived.Test.YtpaoaobmaimibaaGreatDoorTie
import Derived.Test.YtpaoaobmaimibaaGreatDoorSeatD
import Derived.Test.YtpaoaobmaimibaaGreatDoorFactA
import Derived.Test.YtpaoaobmaimibaaGreatDoorFactB
import Derived.Test.YtpaoaobmaimibaaGreatDoorFactC
import Derived.Test.YtpaoaobmaimibaaGreatDoorFactD
import Derived.ProofKit
import Derived.SevenTiedAt
namespace Go.Proofs.YtpaoaobmaimibaaGreatDoor.fnAnyTxnMetadataValue
open Go.ChangeShapes Go.WideShapes Go.ChangeAt Go.RowKit
set_option linter.unusedVariables false
open Go.Kx in
def rl : RL0 := { f := 3, fMax := 7, fSpec := 8, fAgain := 6, fPtr := 19, fDef := 39, fMv := 0, fSet := 0, fAp := 21, fRd := 20, fRF := 40, tErr := 53, most := 0, L := 29, N := 273, LR := 45, NR := 261, pl := { T := 50, fl := some 1, tg := (some ((12, [⟨0, 7, 8, 8, (-1), .i64, 2⟩, ⟨1, 8, 9, 9, (-1), .i64, 2⟩, ⟨2, 9, 10, 10, 0, .i16, 42⟩, ⟨3, 10, 11, 11, (-1), .i16, 42⟩]), 12)), fs := (.cons .always 1 1 0 (.prim .i64 2) (.cons .always 2 2 0 (.prim .i16 42) (.cons .always 3 3 0 (.prim .i32 21) (.cons .always 4 4 0 (.enum .i8 44 43) (.cons .always 5 5 0 (.arr (some 0) 45 78 (.struct 78 3 87 (some ((2, []), 2)) (.cons .always 0 0 0 (.prim .str 9) (.cons .always 1 1 0 (.arr none 76 21 (.prim .i32 21)) .nil)))) (.cons .always 6 6 0 (.prim .i64 2) (.cons .always 7 7 0 (.prim .i64 2) .nil))))))) }, zs := [.int .i16 0, .int .i64 0, .int .i16 0, .int .i32 0, .int .i8 0, .nslice, .int .i64 0, .int .i64 0, .int .i64 0, .int .i64 0, .int .i16 0, .int .i16 0, .nmap], df := (.cons (.st 50 8 8 2 (.int .i64 (-1))) (.cons (.st 50 9 9 2 (.int .i64 (-1))) (.cons (.st 50 11 11 42 (.int .i16 (-1))) .nil))), sx := (.cons (.mk [(0, 4), (2, -1), (3, -1), (4, -1)] 0 .nil) (.cons (.mk [(0, 2), (2, -1), (3, -1), (4, -1)] 0 .nil) (.cons (.mk [(0, 3), (2, -1), (3, -1), (4, -1)] 0 .nil) (.cons (.mk [(0, 1), (2, -1), (3, -1), (4, -1)] 0 .nil) (.cons (.mk [(0, 11), (2, -1), (3, -1), (4, -1), (6, 10)] 23 (.cons (.mk [(0, 8), (2, -1), (3, -1), (4, -1)] 0 .nil) (.cons (.mk [(0, 11), (2, -1), (3, -1), (4, -1), (6, 3)] 0 .nil) .nil))) (.cons (.mk [(0, 4), (2, -1), (3, -1), (4, -1)] 0 .nil) (.cons (.mk [(0, 4), (2, -1), (3, -1), (4, -1)] 0 .nil) (.cons (.mk [(0, 4), (2, -1), (3, -1), (4, 0), (5, -1)] 0 .nil) (.cons (.mk [(0, 4), (2, -1), (3, -1), (4, 1), (5, -1)] 0 .nil) (.cons (.mk [(0, 2), (2, -1), (3, -1), (4, 2)] 0 .nil) (.cons (.mk [(0, 2), (2, -1), (3, -1), (4, 3), (5, -1)] 0 .nil) .nil))))))))))), flex := 1 }
theorem msgOk : (Go.Kx.msgKB Tryz.prog seatK seatG seatS seatR seatTG rl).all id = true := by kernel_rfl
theorem specOk : (Go.Kx.specB Tryz.prog seatS rl).all id = true := by kernel_rfl
theorem lawOk : Go.Kx.isFn Tryz.prog rl.f (Go.Kx.cLawAnyK seatS rl.fSpec rl.fMax rl.fAgain) 45 2 = true := by kernel_rfl
theorem reads (os : Os) {H : Type} (enc : TypeId × Value → H) : ∃ places, DataW.whole enc Tryz.prog ((laidWorld os).forCall (fun _ _ => 0) ⟨#[], #[.slice none 0 0], []⟩).memory Tryz.f3.params.toList Rows.fnAnyTxnMetadataValueSpec.vars false (#[.slice none 0 0] : Array Value).toList 8 = some ([.nil], [], places) :=
  ⟨[], by kernel_rfl⟩
set_option maxRecDepth 100000 in
theorem lifted (os : Os) (started : os.Started) (H : Type) (enc : TypeId × Value → H) (F : Stop.Interp) :
    ReturnsInHanded {} Tryz.checked os 3 .any ((OpenSpec.ofChange Rows.fnAnyTxnMetadataValueSpec).preRow enc Tryz.prog Tryz.f3 Rows.fnAnyTxnMetadataValueRow.domain false Rows.fnAnyTxnMetadataValueRow.laid) (((OpenSpec.ofChange Rows.fnAnyTxnMetadataValueSpec).at F).post enc Tryz.prog Tryz.f3 false true false false) := by
  obtain ⟨places, hx⟩ := reads os enc
  refine returnsInHanded_of_row (C := Tryz.checked) (s := OpenSpec.ofChange Rows.fnAnyTxnMetadataValueSpec) own started (by kernel_rfl) Tryz.func3
    (witness_row_at (enc := enc) (C := Tryz.checked) false (laidWorld os) #[.slice none 0 0] rfl (by kernel_rfl) (by kernel_rfl) (by kernel_rfl)
      (OpenSpec.preRow_of_cond 8 hx (by kernel_rfl) (fun k hk => by cases hk) (by kernel_rfl) (laid_met os _))) ?_
  intro W base args ds gs before hval hW _ hc _ hL _ _
  exact Go.Kx.any_rowK seat2 argOk rl msgOk specOk (by kernel_rfl) (by kernel_rfl) lawOk (by kernel_rfl) (fn := Tryz.f3) (s := Rows.fnAnyTxnMetadataValueSpec) (bulkOk H) Tryz.params3 (by kernel_rfl) rfl factLaid (by kernel_rfl) (fun _ => rfl) hval hW (err hL)
theorem facts : Go.Kx.rowFacts Tryz.checked.prog 3 Tryz.f3 Rows.fnAnyTxnMetadataValueSpec Rows.fnAnyTxnMetadataValueRow = true := by kernel_rfl
theorem joined : joinedFacts Tryz.checked.prog 3 Tryz.f3 Rows.fnAnyTxnMetadataValueSpec Rows.fnAnyTxnMetadataValueRow = true :=
  Go.Kx.joined_of facts factLaid factMaps factStops factKnobs factHeard factEnter factLifts factMake
set_option maxRecDepth 100000 in
theorem over : Rows.fnAnyTxnMetadataValueRow.holds Tryz.pinned (OpenSpec.ofChange Rows.fnAnyTxnMetadataValueSpec) :=
  OpenClaim.holds_of_cond 3 Tryz.f3 rfl rfl rfl rfl rfl rfl rfl ⟨rfl, rfl, rfl, rfl, rfl⟩ rfl rfl rfl rfl rfl (by kernel_rfl) Tryz.func3 joined
    (of_decide_eq_true (by kernel_rfl)) (by unfold Func.isWrapper; first | (rw [if_pos (by decide +kernel)]; kernel_rfl) | (rw [if_neg (by decide +kernel)]; exact ⟨rfl, rfl⟩))
    (fun os started H enc _ F => by rw [OpenClaim.pre_eq_preRow]; exact lifted os started H enc F)
end Go.Proofs.YtpaoaobmaimibaaGreatDoor.fnAnyTxnMetadataValue
