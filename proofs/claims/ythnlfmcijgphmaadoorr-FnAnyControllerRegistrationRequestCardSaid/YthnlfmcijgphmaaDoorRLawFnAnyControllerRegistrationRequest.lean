/- The law FnAnyControllerRegistrationRequest: what is read of any bytes as a ControllerRegistrationRequest is written as bytes that are read again, and written as the same. The card: tied to the program's text. No condition but the row's own. -/
import Derived.Test.YthnlfmcijgphmaaDoorRCards
import Derived.Test.YthnlfmcijgphmaaDoorRTie
import Derived.Test.YthnlfmcijgphmaaDoorRSeatD
import Derived.Test.YthnlfmcijgphmaaDoorRFactA
import Derived.Test.YthnlfmcijgphmaaDoorRFactB
import Derived.Test.YthnlfmcijgphmaaDoorRFactC
import Derived.Test.YthnlfmcijgphmaaDoorRFactD
import Derived.ProofKit
import Derived.SevenTiedAt
namespace Go.Proofs.YthnlfmcijgphmaaDoorR.fnAnyControllerRegistrationRequest
open Go.ChangeShapes Go.WideShapes Go.ChangeAt Go.RowKit
set_option linter.unusedVariables false
open Go.Kx in
def rl : RL0 := { f := 6, fMax := 19, fSpec := 0, fAgain := 20, fPtr := 44, fDef := 89, fMv := 45, fSet := 46, fAp := 48, fRd := 47, fRF := 90, tErr := 35, most := 0, L := 23, N := 200, LR := 33, NR := 198, pl := { T := 90, fl := some 0, tg := (some (6, 21)), fs := (.cons .always 1 1 0 (.prim .i32 21) (.cons .always 2 2 0 (.prim .uuid 86) (.cons .always 3 18 0 (.prim .bool 4) (.cons .always 4 19 0 (.arr none 87 95 (.struct 95 5 126 (some (4, 4)) (.cons .always 0 0 0 (.prim .str 9) (.cons .always 1 1 0 (.prim .str 9) (.cons .always 2 2 0 (.prim .u16 93) (.cons .always 3 3 0 (.prim .i16 29) .nil)))))) (.cons .always 5 20 0 (.arr none 88 100 (.struct 100 4 129 (some (3, 3)) (.cons .always 0 0 0 (.prim .str 9) (.cons .always 1 1 0 (.prim .i16 29) (.cons .always 2 2 0 (.prim .i16 29) .nil))))) .nil))))) }, zs := [.int .i16 0, .int .i32 0, .int .u8 0, .int .u8 0, .int .u8 0, .int .u8 0, .int .u8 0, .int .u8 0, .int .u8 0, .int .u8 0, .int .u8 0, .int .u8 0, .int .u8 0, .int .u8 0, .int .u8 0, .int .u8 0, .int .u8 0, .int .u8 0, .bool false, .nslice, .nslice, .nmap], df := .nil, sx := .nil, flex := 0 }
theorem msgOk : (Go.Kx.msgB Tryd.prog seatK seatG seatS seatR seatTG rl).all id = true := by kernel_rfl
theorem lawOk : Go.Kx.isFn Tryd.prog rl.f (Go.Kx.cLawAny seatS rl.fMax rl.fAgain) 43 4 = true := by kernel_rfl
theorem reads (os : Os) {H : Type} (enc : TypeId × Value → H) : ∃ places, DataW.whole enc Tryd.prog ((laidWorld os).forCall (fun _ _ => 0) ⟨#[], #[.int .u8 0, .slice none 0 0], []⟩).memory Tryd.f6.params.toList Rows.fnAnyControllerRegistrationRequestSpec.vars false (#[.int .u8 0, .slice none 0 0] : Array Value).toList 8 = some ([.lit (.int .u8 0), .nil], [], places) :=
  ⟨[], by kernel_rfl⟩
set_option maxRecDepth 100000 in
theorem lifted (os : Os) (started : os.Started) (H : Type) (enc : TypeId × Value → H) (F : Stop.Interp) :
    ReturnsInHanded {} Tryd.checked os 6 .any ((OpenSpec.ofChange Rows.fnAnyControllerRegistrationRequestSpec).preRow enc Tryd.prog Tryd.f6 Rows.fnAnyControllerRegistrationRequestRow.domain false Rows.fnAnyControllerRegistrationRequestRow.laid) (((OpenSpec.ofChange Rows.fnAnyControllerRegistrationRequestSpec).at F).post enc Tryd.prog Tryd.f6 false true false false) := by
  obtain ⟨places, hx⟩ := reads os enc
  refine returnsInHanded_of_row (C := Tryd.checked) (s := OpenSpec.ofChange Rows.fnAnyControllerRegistrationRequestSpec) own started (by kernel_rfl) Tryd.func6
    (witness_row_at (enc := enc) (C := Tryd.checked) false (laidWorld os) #[.int .u8 0, .slice none 0 0] rfl (by kernel_rfl) (by kernel_rfl) (by kernel_rfl)
      (OpenSpec.preRow_of_cond 8 hx (by kernel_rfl) (fun k hk => by cases hk) (by kernel_rfl) (laid_met os _))) ?_
  intro W base args ds gs before hval hW _ hc _ hL _ _
  exact Go.Kx.any_row seatA argOk rl msgOk (by kernel_rfl) lawOk (fn := Tryd.f6) (s := Rows.fnAnyControllerRegistrationRequestSpec) (bulkOk H) Tryd.params6 (by kernel_rfl) rfl factLaid (by kernel_rfl) (fun _ _ => rfl) hval hW (err hL)
theorem facts : Go.Kx.rowFacts Tryd.checked.prog 6 Tryd.f6 Rows.fnAnyControllerRegistrationRequestSpec Rows.fnAnyControllerRegistrationRequestRow = true := by kernel_rfl
theorem joined : joinedFacts Tryd.checked.prog 6 Tryd.f6 Rows.fnAnyControllerRegistrationRequestSpec Rows.fnAnyControllerRegistrationRequestRow = true :=
  Go.Kx.joined_of facts factLaid factMaps factStops factKnobs factHeard factEnter factLifts factMake
set_option maxRecDepth 100000 in
theorem over : Rows.fnAnyControllerRegistrationRequestRow.holds Tryd.pinned (OpenSpec.ofChange Rows.fnAnyControllerRegistrationRequestSpec) :=
  OpenClaim.holds_of_cond 6 Tryd.f6 rfl rfl rfl rfl rfl rfl rfl ⟨rfl, rfl, rfl, rfl, rfl⟩ rfl rfl rfl rfl rfl (by kernel_rfl) Tryd.func6 joined
    (of_decide_eq_true (by kernel_rfl)) (by unfold Func.isWrapper; first | (rw [if_pos (by decide +kernel)]; kernel_rfl) | (rw [if_neg (by decide +kernel)]; exact ⟨rfl, rfl⟩))
    (fun os started H enc _ F => by rw [OpenClaim.pre_eq_preRow]; exact lifted os started H enc F)
theorem plain (f : FuncId) (fn : Func) (hf : Tryd.pinned.checked.prog.funcNamed "pub-kmsg/laws.FnAnyControllerRegistrationRequest" = some f) (hfn : Tryd.pinned.checked.prog.funcs[f]? = some fn) :
    false = Tryd.pinned.checked.prog.looks [] ∧ ∀ (j : Nat) t, fn.params[j]? = some t → Tryd.pinned.checked.prog.wantsStandIn t = false := by
  obtain rfl : f = 6 := Option.some.inj ((show Tryd.prog.funcNamed "pub-kmsg/laws.FnAnyControllerRegistrationRequest" = some 6 by kernel_rfl).symm.trans hf) |>.symm
  obtain rfl : fn = Tryd.f6 := (Option.some.inj (Tryd.func6.symm.trans hfn)).symm
  refine ⟨by kernel_rfl, fun j t ht => ?_⟩
  rw [Tryd.params6] at ht
  have hm : t ∈ [5, 22] := by simpa using Array.mem_of_getElem? ht
  have hall : ([5, 22].all fun u => !Tryd.prog.wantsStandIn u) = true := by kernel_rfl
  exact (show Tryd.prog.wantsStandIn t = false by simpa using List.all_eq_true.1 hall t hm)
end Go.Proofs.YthnlfmcijgphmaaDoorR.fnAnyControllerRegistrationRequest
namespace Go.Proofs.YthnlfmcijgphmaaDoorR
/-- The card. -/
theorem fnAnyControllerRegistrationRequest_holds : Rows.FnAnyControllerRegistrationRequestCardSaid :=
  Claim7.holds_tied_plain_at .later [] _ _ _ _ fnAnyControllerRegistrationRequest.over (fun _ h => by cases h) (by kernel_rfl) (fun _ h => by cases h) fnAnyControllerRegistrationRequest_row_tie rfl ⟨rfl, rfl⟩ (by kernel_rfl) rfl fnAnyControllerRegistrationRequest.plain (by kernel_rfl)
#print axioms fnAnyControllerRegistrationRequest_holds
end Go.Proofs.YthnlfmcijgphmaaDoorR
