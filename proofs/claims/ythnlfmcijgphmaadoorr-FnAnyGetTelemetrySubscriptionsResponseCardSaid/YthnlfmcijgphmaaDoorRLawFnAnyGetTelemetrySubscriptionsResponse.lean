/- The law FnAnyGetTelemetrySubscriptionsResponse: what is read of any bytes as a GetTelemetrySubscriptionsResponse is written as bytes that are read again, and written as the same. The card: tied to the program's text. No condition but the row's own. -/
import Derived.Test.YthnlfmcijgphmaaDoorRCards
import Derived.Test.YthnlfmcijgphmaaDoorRTie
import Derived.Test.YthnlfmcijgphmaaDoorRSeatD
import Derived.Test.YthnlfmcijgphmaaDoorRFactA
import Derived.Test.YthnlfmcijgphmaaDoorRFactB
import Derived.Test.YthnlfmcijgphmaaDoorRFactC
import Derived.Test.YthnlfmcijgphmaaDoorRFactD
import Derived.ProofKit
import Derived.SevenTiedAt
namespace Go.Proofs.YthnlfmcijgphmaaDoorR.fnAnyGetTelemetrySubscriptionsResponse
open Go.ChangeShapes Go.WideShapes Go.ChangeAt Go.RowKit
set_option linter.unusedVariables false
open Go.Kx in
def rl : RL0 := { f := 9, fMax := 25, fSpec := 0, fAgain := 26, fPtr := 59, fDef := 98, fMv := 60, fSet := 61, fAp := 63, fRd := 62, fRF := 99, tErr := 35, most := 0, L := 20, N := 148, LR := 28, NR := 154, pl := { T := 135, fl := some 0, tg := (some (10, 25)), fs := (.cons .always 1 1 0 (.prim .i32 21) (.cons .always 2 2 0 (.prim .i16 29) (.cons .always 3 3 0 (.prim .uuid 86) (.cons .always 4 19 0 (.prim .i32 21) (.cons .always 5 20 0 (.arr none 132 52 (.prim .i8 52)) (.cons .always 6 21 0 (.prim .i32 21) (.cons .always 7 22 0 (.prim .i32 21) (.cons .always 8 23 0 (.prim .bool 4) (.cons .always 9 24 0 (.arr none 133 9 (.prim .str 9)) .nil))))))))) }, zs := [.int .i16 0, .int .i32 0, .int .i16 0, .int .u8 0, .int .u8 0, .int .u8 0, .int .u8 0, .int .u8 0, .int .u8 0, .int .u8 0, .int .u8 0, .int .u8 0, .int .u8 0, .int .u8 0, .int .u8 0, .int .u8 0, .int .u8 0, .int .u8 0, .int .u8 0, .int .i32 0, .nslice, .int .i32 0, .int .i32 0, .bool false, .nslice, .nmap], df := .nil, sx := .nil, flex := 0 }
theorem msgOk : (Go.Kx.msgB Tryd.prog seatK seatG seatS seatR seatTG rl).all id = true := by kernel_rfl
theorem lawOk : Go.Kx.isFn Tryd.prog rl.f (Go.Kx.cLawAny seatS rl.fMax rl.fAgain) 43 4 = true := by kernel_rfl
theorem reads (os : Os) {H : Type} (enc : TypeId × Value → H) : ∃ places, DataW.whole enc Tryd.prog ((laidWorld os).forCall (fun _ _ => 0) ⟨#[], #[.int .u8 0, .slice none 0 0], []⟩).memory Tryd.f9.params.toList Rows.fnAnyGetTelemetrySubscriptionsResponseSpec.vars false (#[.int .u8 0, .slice none 0 0] : Array Value).toList 8 = some ([.lit (.int .u8 0), .nil], [], places) :=
  ⟨[], by kernel_rfl⟩
set_option maxRecDepth 100000 in
theorem lifted (os : Os) (started : os.Started) (H : Type) (enc : TypeId × Value → H) (F : Stop.Interp) :
    ReturnsInHanded {} Tryd.checked os 9 .any ((OpenSpec.ofChange Rows.fnAnyGetTelemetrySubscriptionsResponseSpec).preRow enc Tryd.prog Tryd.f9 Rows.fnAnyGetTelemetrySubscriptionsResponseRow.domain false Rows.fnAnyGetTelemetrySubscriptionsResponseRow.laid) (((OpenSpec.ofChange Rows.fnAnyGetTelemetrySubscriptionsResponseSpec).at F).post enc Tryd.prog Tryd.f9 false true false false) := by
  obtain ⟨places, hx⟩ := reads os enc
  refine returnsInHanded_of_row (C := Tryd.checked) (s := OpenSpec.ofChange Rows.fnAnyGetTelemetrySubscriptionsResponseSpec) own started (by kernel_rfl) Tryd.func9
    (witness_row_at (enc := enc) (C := Tryd.checked) false (laidWorld os) #[.int .u8 0, .slice none 0 0] rfl (by kernel_rfl) (by kernel_rfl) (by kernel_rfl)
      (OpenSpec.preRow_of_cond 8 hx (by kernel_rfl) (fun k hk => by cases hk) (by kernel_rfl) (laid_met os _))) ?_
  intro W base args ds gs before hval hW _ hc _ hL _ _
  exact Go.Kx.any_row seatA argOk rl msgOk (by kernel_rfl) lawOk (fn := Tryd.f9) (s := Rows.fnAnyGetTelemetrySubscriptionsResponseSpec) (bulkOk H) Tryd.params9 (by kernel_rfl) rfl factLaid (by kernel_rfl) (fun _ _ => rfl) hval hW (err hL)
theorem facts : Go.Kx.rowFacts Tryd.checked.prog 9 Tryd.f9 Rows.fnAnyGetTelemetrySubscriptionsResponseSpec Rows.fnAnyGetTelemetrySubscriptionsResponseRow = true := by kernel_rfl
theorem joined : joinedFacts Tryd.checked.prog 9 Tryd.f9 Rows.fnAnyGetTelemetrySubscriptionsResponseSpec Rows.fnAnyGetTelemetrySubscriptionsResponseRow = true :=
  Go.Kx.joined_of facts factLaid factMaps factStops factKnobs factHeard factEnter factLifts factMake
set_option maxRecDepth 100000 in
theorem over : Rows.fnAnyGetTelemetrySubscriptionsResponseRow.holds Tryd.pinned (OpenSpec.ofChange Rows.fnAnyGetTelemetrySubscriptionsResponseSpec) :=
  OpenClaim.holds_of_cond 9 Tryd.f9 rfl rfl rfl rfl rfl rfl rfl ⟨rfl, rfl, rfl, rfl, rfl⟩ rfl rfl rfl rfl rfl (by kernel_rfl) Tryd.func9 joined
    (of_decide_eq_true (by kernel_rfl)) (by unfold Func.isWrapper; first | (rw [if_pos (by decide +kernel)]; kernel_rfl) | (rw [if_neg (by decide +kernel)]; exact ⟨rfl, rfl⟩))
    (fun os started H enc _ F => by rw [OpenClaim.pre_eq_preRow]; exact lifted os started H enc F)
theorem plain (f : FuncId) (fn : Func) (hf : Tryd.pinned.checked.prog.funcNamed "pub-kmsg/laws.FnAnyGetTelemetrySubscriptionsResponse" = some f) (hfn : Tryd.pinned.checked.prog.funcs[f]? = some fn) :
    false = Tryd.pinned.checked.prog.looks [] ∧ ∀ (j : Nat) t, fn.params[j]? = some t → Tryd.pinned.checked.prog.wantsStandIn t = false := by
  obtain rfl : f = 9 := Option.some.inj ((show Tryd.prog.funcNamed "pub-kmsg/laws.FnAnyGetTelemetrySubscriptionsResponse" = some 9 by kernel_rfl).symm.trans hf) |>.symm
  obtain rfl : fn = Tryd.f9 := (Option.some.inj (Tryd.func9.symm.trans hfn)).symm
  refine ⟨by kernel_rfl, fun j t ht => ?_⟩
  rw [Tryd.params9] at ht
  have hm : t ∈ [5, 22] := by simpa using Array.mem_of_getElem? ht
  have hall : ([5, 22].all fun u => !Tryd.prog.wantsStandIn u) = true := by kernel_rfl
  exact (show Tryd.prog.wantsStandIn t = false by simpa using List.all_eq_true.1 hall t hm)
end Go.Proofs.YthnlfmcijgphmaaDoorR.fnAnyGetTelemetrySubscriptionsResponse
namespace Go.Proofs.YthnlfmcijgphmaaDoorR
/-- The card. -/
theorem fnAnyGetTelemetrySubscriptionsResponse_holds : Rows.FnAnyGetTelemetrySubscriptionsResponseCardSaid :=
  Claim7.holds_tied_plain_at .later [] _ _ _ _ fnAnyGetTelemetrySubscriptionsResponse.over (fun _ h => by cases h) (by kernel_rfl) (fun _ h => by cases h) fnAnyGetTelemetrySubscriptionsResponse_row_tie rfl ⟨rfl, rfl⟩ (by kernel_rfl) rfl fnAnyGetTelemetrySubscriptionsResponse.plain (by kernel_rfl)
#print axioms fnAnyGetTelemetrySubscriptionsResponse_holds
end Go.Proofs.YthnlfmcijgphmaaDoorR
