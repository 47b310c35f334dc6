/- The law FnAnyMetadataResponse: what is read of any bytes as a MetadataResponse is written as bytes that are read again, and written as the same. The card: tied to the program's text. No condition but the row's own. -/
import Derived.Test.YtmehkjdaeohblaaDoorCards
import Derived.Test.YtmehkjdaeohblaaDoorTie
import Derived.Test.YtmehkjdaeohblaaDoorSeatD
import Derived.Test.YtmehkjdaeohblaaDoorFactA
import Derived.Test.YtmehkjdaeohblaaDoorFactB
import Derived.Test.YtmehkjdaeohblaaDoorFactC
import Derived.Test.YtmehkjdaeohblaaDoorFactD
import Derived.ProofKit
import Derived.SevenTiedAt
namespace Go.Proofs.YtmehkjdaeohblaaDoor.fnAnyMetadataResponse
open Go.ChangeShapes Go.WideShapes Go.ChangeAt Go.RowKit
set_option linter.unusedVariables false
open Go.Kx in
def rl : RL0 := { f := 3, fMax := 4, fSpec := 0, fAgain := 5, fPtr := 8, fDef := 13, fMv := 9, fSet := 10, fAp := 12, fRd := 11, fRF := 14, tErr := 35, most := 13, L := 45, N := 437, LR := 63, NR := 447, pl := { T := 45, fl := some 9, tg := (some (8, 8)), fs := (.cons (.ge 3) 1 1 0 (.prim .i32 21) (.cons .always 2 2 0 (.arr none 38 51 (.struct 51 5 33 (some (4, 4)) (.cons .always 0 0 0 (.prim .i32 21) (.cons .always 1 1 0 (.prim .str 9) (.cons .always 2 2 0 (.prim .i32 21) (.cons (.ge 1) 3 3 0 (.prim .nstr 39) .nil)))))) (.cons (.ge 2) 3 3 0 (.prim .nstr 39) (.cons (.ge 1) 4 4 (-1) (.prim .i32 21) (.cons .always 5 5 0 (.arr none 40 60 (.struct 60 22 43 (some (6, 21)) (.cons .always 0 0 0 (.prim .i16 29) (.cons .always 1 1 0 (.vstr 12 39 9) (.cons (.ge 10) 2 2 0 (.prim .uuid 57) (.cons (.ge 1) 3 18 0 (.prim .bool 4) (.cons .always 4 19 0 (.arr none 58 67 (.struct 67 8 47 (some (7, 7)) (.cons .always 0 0 0 (.prim .i16 29) (.cons .always 1 1 0 (.prim .i32 21) (.cons .always 2 2 0 (.prim .i32 21) (.cons (.ge 7) 3 3 (-1) (.prim .i32 21) (.cons .always 4 4 0 (.arr none 65 21 (.prim .i32 21)) (.cons .always 5 5 0 (.arr none 65 21 (.prim .i32 21)) (.cons (.ge 5) 6 6 0 (.arr none 65 21 (.prim .i32 21)) .nil))))))))) (.cons (.ge 8) 5 20 (-2147483648) (.prim .i32 21) .nil)))))))) (.cons (.btw 8 10) 6 6 (-2147483648) (.prim .i32 21) (.cons (.ge 13) 7 7 0 (.prim .i16 29) .nil))))))) }, zs := [.int .i16 0, .int .i32 0, .nslice, .nptr, .int .i32 0, .nslice, .int .i32 0, .int .i16 0, .nmap], df := (.cons (.st 45 4 4 21 (.int .i32 (-1))) (.cons (.st 45 6 6 21 (.int .i32 (-2147483648))) .nil)), sx := .nil, flex := 0 }
theorem msgOk : (Go.Kx.msgB Tryd.prog seatK seatG seatS seatR seatTG rl).all id = true := by kernel_rfl
theorem lawOk : Go.Kx.isFn Tryd.prog rl.f (Go.Kx.cLawAny seatS rl.fMax rl.fAgain) 43 4 = true := by kernel_rfl
theorem reads (os : Os) {H : Type} (enc : TypeId × Value → H) : ∃ places, DataW.whole enc Tryd.prog ((laidWorld os).forCall (fun _ _ => 0) ⟨#[], #[.int .u8 0, .slice none 0 0], []⟩).memory Tryd.f3.params.toList Rows.fnAnyMetadataResponseSpec.vars false (#[.int .u8 0, .slice none 0 0] : Array Value).toList 8 = some ([.lit (.int .u8 0), .nil], [], places) :=
  ⟨[], by kernel_rfl⟩
set_option maxRecDepth 100000 in
theorem lifted (os : Os) (started : os.Started) (H : Type) (enc : TypeId × Value → H) (F : Stop.Interp) :
    ReturnsInHanded {} Tryd.checked os 3 .any ((OpenSpec.ofChange Rows.fnAnyMetadataResponseSpec).preRow enc Tryd.prog Tryd.f3 Rows.fnAnyMetadataResponseRow.domain false Rows.fnAnyMetadataResponseRow.laid) (((OpenSpec.ofChange Rows.fnAnyMetadataResponseSpec).at F).post enc Tryd.prog Tryd.f3 false true false false) := by
  obtain ⟨places, hx⟩ := reads os enc
  refine returnsInHanded_of_row (C := Tryd.checked) (s := OpenSpec.ofChange Rows.fnAnyMetadataResponseSpec) own started (by kernel_rfl) Tryd.func3
    (witness_row_at (enc := enc) (C := Tryd.checked) false (laidWorld os) #[.int .u8 0, .slice none 0 0] rfl (by kernel_rfl) (by kernel_rfl) (by kernel_rfl)
      (OpenSpec.preRow_of_cond 8 hx (by kernel_rfl) (fun k hk => by cases hk) (by kernel_rfl) (laid_met os _))) ?_
  intro W base args ds gs before hval hW _ hc _ hL _ _
  exact Go.Kx.any_row seatA argOk rl msgOk (by kernel_rfl) lawOk (fn := Tryd.f3) (s := Rows.fnAnyMetadataResponseSpec) (bulkOk H) Tryd.params3 (by kernel_rfl) rfl factLaid (by kernel_rfl) (fun _ _ => rfl) hval hW (err hL)
theorem facts : Go.Kx.rowFacts Tryd.checked.prog 3 Tryd.f3 Rows.fnAnyMetadataResponseSpec Rows.fnAnyMetadataResponseRow = true := by kernel_rfl
theorem joined : joinedFacts Tryd.checked.prog 3 Tryd.f3 Rows.fnAnyMetadataResponseSpec Rows.fnAnyMetadataResponseRow = true :=
  Go.Kx.joined_of facts factLaid factMaps factStops factKnobs factHeard factEnter factLifts factMake
set_option maxRecDepth 100000 in
theorem over : Rows.fnAnyMetadataResponseRow.holds Tryd.pinned (OpenSpec.ofChange Rows.fnAnyMetadataResponseSpec) :=
  OpenClaim.holds_of_cond 3 Tryd.f3 rfl rfl rfl rfl rfl rfl rfl ⟨rfl, rfl, rfl, rfl, rfl⟩ rfl rfl rfl rfl rfl (by kernel_rfl) Tryd.func3 joined
    (of_decide_eq_true (by kernel_rfl)) (by unfold Func.isWrapper; first | (rw [if_pos (by decide +kernel)]; kernel_rfl) | (rw [if_neg (by decide +kernel)]; exact ⟨rfl, rfl⟩))
    (fun os started H enc _ F => by rw [OpenClaim.pre_eq_preRow]; exact lifted os started H enc F)
end Go.Proofs.YtmehkjdaeohblaaDoor.fnAnyMetadataResponse
