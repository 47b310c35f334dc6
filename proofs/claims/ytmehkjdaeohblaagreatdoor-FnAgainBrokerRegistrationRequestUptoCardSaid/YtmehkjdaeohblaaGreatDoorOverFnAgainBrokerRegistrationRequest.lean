/- The law FnAgainBrokerRegistrationRequest: whatever a BrokerRegistrationRequest says is read, and written back byte by byte; of inputs of bulk at most 1048576. The card: tied to the program's text. No condition but the row's own. -/
import Derived.Test.YtmehkjdaeohblaaGreatDoorCards
import Derived.Test.YtmehkjdaeohblaaGreatDoorTie
import Derived.Test.YtmehkjdaeohblaaGreatDoorSeatD
import Derived.Test.YtmehkjdaeohblaaGreatDoorFactA
import Derived.Test.YtmehkjdaeohblaaGreatDoorFactB
import Derived.Test.YtmehkjdaeohblaaGreatDoorFactC
import Derived.Test.YtmehkjdaeohblaaGreatDoorFactD
import Derived.ProofKit
import Derived.SevenTiedAt
namespace Go.Proofs.YtmehkjdaeohblaaGreatDoor.fnAgainBrokerRegistrationRequest
open Go.ChangeShapes Go.WideShapes Go.ChangeAt Go.RowKit
set_option linter.unusedVariables false
open Go.Kx in
def rl : RL0 := { f := 3, fMax := 6, fSpec := 8, fAgain := 10, fPtr := 16, fDef := 32, fMv := 17, fSet := 21, fAp := 23, fRd := 22, fRF := 41, tErr := 50, most := 4, L := 29, N := 267, LR := 41, NR := 272, pl := { T := 68, fl := some 0, tg := (some (10, 25)), fs := (.cons .always 1 1 0 (.prim .i32 21) (.cons .always 2 2 0 (.prim .str 9) (.cons .always 3 3 0 (.prim .uuid 59) (.cons .always 4 19 0 (.arr none 60 85 (.struct 85 5 78 (some (4, 4)) (.cons .always 0 0 0 (.prim .str 9) (.cons .always 1 1 0 (.prim .str 9) (.cons .always 2 2 0 (.prim .u16 83) (.cons .always 3 3 0 (.prim .i16 40) .nil)))))) (.cons .always 5 20 0 (.arr none 61 91 (.struct 91 4 82 (some (3, 3)) (.cons .always 0 0 0 (.prim .str 9) (.cons .always 1 1 0 (.prim .i16 40) (.cons .always 2 2 0 (.prim .i16 40) .nil))))) (.cons .always 6 21 0 (.prim .nstr 62) (.cons (.ge 1) 7 22 0 (.prim .bool 4) (.cons (.ge 2) 8 23 0 (.arr none 63 59 (.prim .uuid 59)) (.cons (.ge 3) 9 24 (-1) (.prim .i64 2) .nil))))))))) }, zs := [.int .i16 0, .int .i32 0, .estr, .int .u8 0, .int .u8 0, .int .u8 0, .int .u8 0, .int .u8 0, .int .u8 0, .int .u8 0, .int .u8 0, .int .u8 0, .int .u8 0, .int .u8 0, .int .u8 0, .int .u8 0, .int .u8 0, .int .u8 0, .int .u8 0, .nslice, .nslice, .nptr, .bool false, .nslice, .int .i64 0, .nmap], df := (.cons (.st 68 9 24 2 (.int .i64 (-1))) .nil), sx := (.cons (.mk [(0, 3), (2, -1), (3, -1), (4, -1)] 0 .nil) (.cons (.mk [(0, 8), (2, -1), (3, -1), (4, -1)] 0 .nil) (.cons (.mk [(0, 7), (2, -1), (3, -1), (4, -1)] 0 .nil) (.cons (.mk [(0, 11), (2, -1), (3, -1), (4, -1), (6, 10)] 19 (.cons (.mk [(0, 8), (2, -1), (3, -1), (4, -1)] 0 .nil) (.cons (.mk [(0, 8), (2, -1), (3, -1), (4, -1)] 0 .nil) (.cons (.mk [(0, 5), (2, -1), (3, -1), (4, -1)] 0 .nil) (.cons (.mk [(0, 2), (2, -1), (3, -1), (4, -1)] 0 .nil) .nil))))) (.cons (.mk [(0, 11), (2, -1), (3, -1), (4, -1), (6, 10)] 20 (.cons (.mk [(0, 8), (2, -1), (3, -1), (4, -1)] 0 .nil) (.cons (.mk [(0, 2), (2, -1), (3, -1), (4, -1)] 0 .nil) (.cons (.mk [(0, 2), (2, -1), (3, -1), (4, -1)] 0 .nil) .nil)))) (.cons (.mk [(0, 8), (2, -1), (3, 0), (4, -1)] 0 .nil) (.cons (.mk [(0, 0), (1, 1), (2, -1), (3, -1), (4, -1)] 0 .nil) (.cons (.mk [(0, 11), (1, 2), (2, -1), (3, -1), (4, -1), (6, 7)] 0 .nil) (.cons (.mk [(0, 4), (1, 3), (2, -1), (3, -1), (4, -1), (5, -1)] 0 .nil) .nil))))))))), flex := 0 }
theorem msgOk : (Go.Kx.msgB Tryz.prog seatK seatG seatS seatR seatTG rl).all id = true := by kernel_rfl
theorem specOk : (Go.Kx.specB Tryz.prog seatS rl).all id = true := by kernel_rfl
theorem lawOk : Go.Kx.isFn Tryz.prog rl.f (Go.Kx.cLawAgain seatS seatZ.f2 rl.fMax rl.fSpec rl.fAgain) 35 4 = true := by kernel_rfl
theorem reads (os : Os) {H : Type} (enc : TypeId × Value → H) : ∃ places, DataW.whole enc Tryz.prog ((laidWorld os).forCall (fun _ _ => 0) ⟨#[], #[.int .u8 0, .agg #[.int .i64 0, .slice none 0 0, .bool false, .slice none 0 0, .slice none 0 0]], []⟩).memory Tryz.f3.params.toList Rows.fnAgainBrokerRegistrationRequestSpec.vars false (#[.int .u8 0, .agg #[.int .i64 0, .slice none 0 0, .bool false, .slice none 0 0, .slice none 0 0]] : Array Value).toList 8 = some ([.lit (.int .u8 0), .agg [.lit (.int .i64 0), .nil, .lit (.bool false), .nil, .nil]], [], places) :=
  ⟨[], by kernel_rfl⟩
set_option maxRecDepth 100000 in
theorem lifted (os : Os) (started : os.Started) (H : Type) (enc : TypeId × Value → H) (F : Stop.Interp) :
    ReturnsInHanded {} Tryz.checked os 3 .any ((Rows.OpenSpec.upto Rows.fnAgainBrokerRegistrationRequestSpec).preRow enc Tryz.prog Tryz.f3 Rows.fnAgainBrokerRegistrationRequestUptoRow.domain false Rows.fnAgainBrokerRegistrationRequestUptoRow.laid) (((Rows.OpenSpec.upto Rows.fnAgainBrokerRegistrationRequestSpec).at F).post enc Tryz.prog Tryz.f3 false true false false) := by
  obtain ⟨places, hx⟩ := reads os enc
  refine returnsInHanded_of_row (C := Tryz.checked) (s := Rows.OpenSpec.upto Rows.fnAgainBrokerRegistrationRequestSpec) own started (by kernel_rfl) Tryz.func3
    (witness_row_at (enc := enc) (C := Tryz.checked) false (laidWorld os) #[.int .u8 0, .agg #[.int .i64 0, .slice none 0 0, .bool false, .slice none 0 0, .slice none 0 0]] rfl (by kernel_rfl) (by kernel_rfl) (by kernel_rfl)
      (OpenSpec.preRow_of_cond 8 hx (by kernel_rfl) (fun k hk => by cases hk; kernel_rfl) (by kernel_rfl) (laid_met os _))) ?_
  intro W base args ds gs before hval hW _ hc _ hL _ _
  exact Go.Kx.again_row seat2 tree rl msgOk specOk lawOk (by kernel_rfl) (fn := Tryz.f3) (s := Rows.fnAgainBrokerRegistrationRequestSpec) (bulkOk H) Tryz.params3 (by kernel_rfl) rfl factLaid (by kernel_rfl) (fun _ _ => rfl) hval hW (by have := hc _ rfl; exact of_decide_eq_true this) (err hL)
theorem facts : Go.Kx.rowFacts Tryz.checked.prog 3 Tryz.f3 Rows.fnAgainBrokerRegistrationRequestSpec Rows.fnAgainBrokerRegistrationRequestUptoRow = true := by kernel_rfl
theorem joined : joinedFacts Tryz.checked.prog 3 Tryz.f3 Rows.fnAgainBrokerRegistrationRequestSpec Rows.fnAgainBrokerRegistrationRequestUptoRow = true :=
  Go.Kx.joined_of facts factLaid factMaps factStops factKnobs factHeard factEnter factLifts factMake
set_option maxRecDepth 100000 in
theorem over : Rows.fnAgainBrokerRegistrationRequestUptoRow.holds Tryz.pinned (Rows.OpenSpec.upto Rows.fnAgainBrokerRegistrationRequestSpec) :=
  OpenClaim.holds_of_cond 3 Tryz.f3 rfl rfl rfl rfl rfl rfl rfl ⟨rfl, rfl, rfl, rfl, rfl⟩ rfl rfl rfl rfl rfl (by kernel_rfl) Tryz.func3 joined
    (of_decide_eq_true (by kernel_rfl)) (by unfold Func.isWrapper; first | (rw [if_pos (by decide +kernel)]; kernel_rfl) | (rw [if_neg (by decide +kernel)]; exact ⟨rfl, rfl⟩))
    (fun os started H enc _ F => by rw [OpenClaim.pre_eq_preRow]; exact lifted os started H enc F)
end Go.Proofs.YtmehkjdaeohblaaGreatDoor.fnAgainBrokerRegistrationRequest
