/- The law FnAnyUpdateMetadataResponse: what is read of any bytes as a UpdateMetadataResponse is written as bytes that are read again, and written as the same. The card: tied to the program's text. No condition but the row's own. -/
import Derived.Test.YtafoaplcmgfloaaDoorCards
import Derived.Test.YtafoaplcmgfloaaDoorTie
import Derived.Test.YtafoaplcmgfloaaDoorSeatD
import Derived.Test.YtafoaplcmgfloaaDoorFactA
import Derived.Test.YtafoaplcmgfloaaDoorFactB
import Derived.Test.YtafoaplcmgfloaaDoorFactC
import Derived.Test.YtafoaplcmgfloaaDoorFactD
import Derived.ProofKit
import Derived.SevenTiedAt
namespace Go.Proofs.YtafoaplcmgfloaaDoor.fnAnyUpdateMetadataResponse
open Go.ChangeShapes Go.WideShapes Go.ChangeAt Go.RowKit
set_option linter.unusedVariables false
open Go.Kx in
def rl : RL0 := { f := 3, fMax := 6, fSpec := 0, fAgain := 7, fPtr := 14, fDef := 29, fMv := 15, fSet := 16, fAp := 18, fRd := 17, fRF := 30, tErr := 35, most := 8, L := 8, N := 38, LR := 12, NR := 36, pl := { T := 46, fl := some 6, tg := (some (2, 2)), fs := (.cons .always 1 1 0 (.prim .i16 29) .nil) }, zs := [.int .i16 0, .int .i16 0, .nmap], df := .nil, sx := .nil, flex := 0 }
theorem msgOk : (Go.Kx.msgB Tryd.prog seatK seatG seatS seatR seatTG rl).all id = true := by kernel_rfl
theorem lawOk : Go.Kx.isFn Tryd.prog rl.f (Go.Kx.cLawAny seatS rl.fMax rl.fAgain) 43 4 = true := by kernel_rfl
theorem reads (os : Os) {H : Type} (enc : TypeId × Value → H) : ∃ places, DataW.whole enc Tryd.prog ((laidWorld os).forCall (fun _ _ => 0) ⟨#[], #[.int .u8 0, .slice none 0 0], []⟩).memory Tryd.f3.params.toList Rows.fnAnyUpdateMetadataResponseSpec.vars false (#[.int .u8 0, .slice none 0 0] : Array Value).toList 8 = some ([.lit (.int .u8 0), .nil], [], places) :=
  ⟨[], by kernel_rfl⟩
set_option maxRecDepth 100000 in
theorem lifted (os : Os) (started : os.Started) (H : Type) (enc : TypeId × Value → H) (F : Stop.Interp) :
    ReturnsInHanded {} Tryd.checked os 3 .any ((OpenSpec.ofChange Rows.fnAnyUpdateMetadataResponseSpec).preRow enc Tryd.prog Tryd.f3 Rows.fnAnyUpdateMetadataResponseRow.domain false Rows.fnAnyUpdateMetadataResponseRow.laid) (((OpenSpec.ofChange Rows.fnAnyUpdateMetadataResponseSpec).at F).post enc Tryd.prog Tryd.f3 false true false false) := by
  obtain ⟨places, hx⟩ := reads os enc
  refine returnsInHanded_of_row (C := Tryd.checked) (s := OpenSpec.ofChange Rows.fnAnyUpdateMetadataResponseSpec) own started (by kernel_rfl) Tryd.func3
    (witness_row_at (enc := enc) (C := Tryd.checked) false (laidWorld os) #[.int .u8 0, .slice none 0 0] rfl (by kernel_rfl) (by kernel_rfl) (by kernel_rfl)
      (OpenSpec.preRow_of_cond 8 hx (by kernel_rfl) (fun k hk => by cases hk) (by kernel_rfl) (laid_met os _))) ?_
  intro W base args ds gs before hval hW _ hc _ hL _ _
  exact Go.Kx.any_row seatA argOk rl msgOk (by kernel_rfl) lawOk (fn := Tryd.f3) (s := Rows.fnAnyUpdateMetadataResponseSpec) (bulkOk H) Tryd.params3 (by kernel_rfl) rfl factLaid (by kernel_rfl) (fun _ _ => rfl) hval hW (err hL)
theorem facts : Go.Kx.rowFacts Tryd.checked.prog 3 Tryd.f3 Rows.fnAnyUpdateMetadataResponseSpec Rows.fnAnyUpdateMetadataResponseRow = true := by kernel_rfl
theorem joined : joinedFacts Tryd.checked.prog 3 Tryd.f3 Rows.fnAnyUpdateMetadataResponseSpec Rows.fnAnyUpdateMetadataResponseRow = true :=
  Go.Kx.joined_of facts factLaid factMaps factStops factKnobs factHeard factEnter factLifts factMake
set_option maxRecDepth 100000 in
theorem over : Rows.fnAnyUpdateMetadataResponseRow.holds Tryd.pinned (OpenSpec.ofChange Rows.fnAnyUpdateMetadataResponseSpec) :=
  OpenClaim.holds_of_cond 3 Tryd.f3 rfl rfl rfl rfl rfl rfl rfl ⟨rfl, rfl, rfl, rfl, rfl⟩ rfl rfl rfl rfl rfl (by kernel_rfl) Tryd.func3 joined
    (of_decide_eq_true (by kernel_rfl)) (by unfold Func.isWrapper; first | (rw [if_pos (by decide +kernel)]; kernel_rfl) | (rw [if_neg (by decide +kernel)]; exact ⟨rfl, rfl⟩))
    (fun os started H enc _ F => by rw [OpenClaim.pre_eq_preRow]; exact lifted os started H enc F)
theorem plain (f : FuncId) (fn : Func) (hf : Tryd.pinned.checked.prog.funcNamed "pub-kmsg/laws.FnAnyUpdateMetadataResponse" = some f) (hfn : Tryd.pinned.checked.prog.funcs[f]? = some fn) :
    false = Tryd.pinned.checked.prog.looks [] ∧ ∀ (j : Nat) t, fn.params[j]? = some t → Tryd.pinned.checked.prog.wantsStandIn t = false := by
  obtain rfl : f = 3 := Option.some.inj ((show Tryd.prog.funcNamed "pub-kmsg/laws.FnAnyUpdateMetadataResponse" = some 3 by kernel_rfl).symm.trans hf) |>.symm
  obtain rfl : fn = Tryd.f3 := (Option.some.inj (Tryd.func3.symm.trans hfn)).symm
  refine ⟨by kernel_rfl, fun j t ht => ?_⟩
  rw [Tryd.params3] at ht
  have hm : t ∈ [5, 22] := by simpa using Array.mem_of_getElem? ht
  have hall : ([5, 22].all fun u => !Tryd.prog.wantsStandIn u) = true := by kernel_rfl
  exact (show Tryd.prog.wantsStandIn t = false by simpa using List.all_eq_true.1 hall t hm)
end Go.Proofs.YtafoaplcmgfloaaDoor.fnAnyUpdateMetadataResponse
namespace Go.Proofs.YtafoaplcmgfloaaDoor
/-- The card. -/
theorem fnAnyUpdateMetadataResponse_holds : Rows.FnAnyUpdateMetadataResponseCardSaid :=
  Claim7.holds_tied_plain_at .later [] _ _ _ _ fnAnyUpdateMetadataResponse.over (fun _ h => by cases h) (by kernel_rfl) (fun _ h => by cases h) fnAnyUpdateMetadataResponse_row_tie rfl ⟨rfl, rfl⟩ (by kernel_rfl) rfl fnAnyUpdateMetadataResponse.plain (by kernel_rfl)
#print axioms fnAnyUpdateMetadataResponse_holds
end Go.Proofs.YtafoaplcmgfloaaDoor
