/- The law FnAgainExpireDelegationTokenResponse: whatever a ExpireDelegationTokenResponse says is read, and written back byte by byte; of inputs of bulk at most 1048576. The card: tied to the program's text. No condition but the row's own. -/
import Derived.Test.YtcpnjbbcbhbmcaaDoorCards
import Derived.Test.YtcpnjbbcbhbmcaaDoorTie
import Derived.Test.YtcpnjbbcbhbmcaaDoorSeatD
import Derived.Test.YtcpnjbbcbhbmcaaDoorFactA
import Derived.Test.YtcpnjbbcbhbmcaaDoorFactB
import Derived.Test.YtcpnjbbcbhbmcaaDoorFactC
import Derived.Test.YtcpnjbbcbhbmcaaDoorFactD
import Derived.ProofKit
import Derived.SevenTiedAt
namespace Go.Proofs.YtcpnjbbcbhbmcaaDoor.fnAgainExpireDelegationTokenResponse
open Go.ChangeShapes Go.WideShapes Go.ChangeAt Go.RowKit
set_option linter.unusedVariables false
open Go.Kx in
def rl : RL0 := { f := 3, fMax := 7, fSpec := 9, fAgain := 11, fPtr := 19, fDef := 35, fMv := 20, fSet := 22, fAp := 24, fRd := 23, fRF := 44, tErr := 51, most := 2, L := 10, N := 54, LR := 14, NR := 48, pl := { T := 68, fl := some 2, tg := (some (4, 4)), fs := (.cons .always 1 1 0 (.prim .i16 42) (.cons .always 2 2 0 (.prim .i64 2) (.cons .always 3 3 0 (.prim .i32 21) .nil))) }, zs := [.int .i16 0, .int .i16 0, .int .i64 0, .int .i32 0, .nmap], df := .nil, sx := (.cons (.mk [(0, 2), (2, -1), (3, -1), (4, -1)] 0 .nil) (.cons (.mk [(0, 4), (2, -1), (3, -1), (4, -1)] 0 .nil) (.cons (.mk [(0, 3), (2, -1), (3, -1), (4, -1)] 0 .nil) .nil))), flex := 2 }
theorem msgOk : (Go.Kx.msgB Tryd.prog seatK seatG seatS seatR seatTG rl).all id = true := by kernel_rfl
theorem specOk : (Go.Kx.specB Tryd.prog seatS rl).all id = true := by kernel_rfl
theorem lawOk : Go.Kx.isFn Tryd.prog rl.f (Go.Kx.cLawAgain seatS seatZ.f2 rl.fMax rl.fSpec rl.fAgain) 35 4 = true := by kernel_rfl
theorem reads (os : Os) {H : Type} (enc : TypeId × Value → H) : ∃ places, DataW.whole enc Tryd.prog ((laidWorld os).forCall (fun _ _ => 0) ⟨#[], #[.int .u8 0, .agg #[.int .i64 0, .slice none 0 0, .bool false, .slice none 0 0, .slice none 0 0]], []⟩).memory Tryd.f3.params.toList Rows.fnAgainExpireDelegationTokenResponseSpec.vars false (#[.int .u8 0, .agg #[.int .i64 0, .slice none 0 0, .bool false, .slice none 0 0, .slice none 0 0]] : Array Value).toList 8 = some ([.lit (.int .u8 0), .agg [.lit (.int .i64 0), .nil, .lit (.bool false), .nil, .nil]], [], places) :=
  ⟨[], by kernel_rfl⟩
set_option maxRecDepth 100000 in
theorem lifted (os : Os) (started : os.Started) (H : Type) (enc : TypeId × Value → H) (F : Stop.Interp) :
    ReturnsInHanded {} Tryd.checked os 3 .any ((Rows.OpenSpec.upto Rows.fnAgainExpireDelegationTokenResponseSpec).preRow enc Tryd.prog Tryd.f3 Rows.fnAgainExpireDelegationTokenResponseUptoRow.domain false Rows.fnAgainExpireDelegationTokenResponseUptoRow.laid) (((Rows.OpenSpec.upto Rows.fnAgainExpireDelegationTokenResponseSpec).at F).post enc Tryd.prog Tryd.f3 false true false false) := by
  obtain ⟨places, hx⟩ := reads os enc
  refine returnsInHanded_of_row (C := Tryd.checked) (s := Rows.OpenSpec.upto Rows.fnAgainExpireDelegationTokenResponseSpec) own started (by kernel_rfl) Tryd.func3
    (witness_row_at (enc := enc) (C := Tryd.checked) false (laidWorld os) #[.int .u8 0, .agg #[.int .i64 0, .slice none 0 0, .bool false, .slice none 0 0, .slice none 0 0]] rfl (by kernel_rfl) (by kernel_rfl) (by kernel_rfl)
      (OpenSpec.preRow_of_cond 8 hx (by kernel_rfl) (fun k hk => by cases hk; kernel_rfl) (by kernel_rfl) (laid_met os _))) ?_
  intro W base args ds gs before hval hW _ hc _ hL _ _
  exact Go.Kx.again_row seat2 tree rl msgOk specOk lawOk (by kernel_rfl) (fn := Tryd.f3) (s := Rows.fnAgainExpireDelegationTokenResponseSpec) (bulkOk H) Tryd.params3 (by kernel_rfl) rfl factLaid (by kernel_rfl) (fun _ _ => rfl) hval hW (by have := hc _ rfl; exact of_decide_eq_true this) (err hL)
theorem facts : Go.Kx.rowFacts Tryd.checked.prog 3 Tryd.f3 Rows.fnAgainExpireDelegationTokenResponseSpec Rows.fnAgainExpireDelegationTokenResponseUptoRow = true := by kernel_rfl
theorem joined : joinedFacts Tryd.checked.prog 3 Tryd.f3 Rows.fnAgainExpireDelegationTokenResponseSpec Rows.fnAgainExpireDelegationTokenResponseUptoRow = true :=
  Go.Kx.joined_of facts factLaid factMaps factStops factKnobs factHeard factEnter factLifts factMake
set_option maxRecDepth 100000 in
theorem over : Rows.fnAgainExpireDelegationTokenResponseUptoRow.holds Tryd.pinned (Rows.OpenSpec.upto Rows.fnAgainExpireDelegationTokenResponseSpec) :=
  OpenClaim.holds_of_cond 3 Tryd.f3 rfl rfl rfl rfl rfl rfl rfl ⟨rfl, rfl, rfl, rfl, rfl⟩ rfl rfl rfl rfl rfl (by kernel_rfl) Tryd.func3 joined
    (of_decide_eq_true (by kernel_rfl)) (by unfold Func.isWrapper; first | (rw [if_pos (by decide +kernel)]; kernel_rfl) | (rw [if_neg (by decide +kernel)]; exact ⟨rfl, rfl⟩))
    (fun os started H enc _ F => by rw [OpenClaim.pre_eq_preRow]; exact lifted os started H enc F)
theorem plain (f : FuncId) (fn : Func) (hf : Tryd.pinned.checked.prog.funcNamed "pub-kmsg/laws.FnAgainExpireDelegationTokenResponse" = some f) (hfn : Tryd.pinned.checked.prog.funcs[f]? = some fn) :
    false = Tryd.pinned.checked.prog.looks [] ∧ ∀ (j : Nat) t, fn.params[j]? = some t → Tryd.pinned.checked.prog.wantsStandIn t = false := by
  obtain rfl : f = 3 := Option.some.inj ((show Tryd.prog.funcNamed "pub-kmsg/laws.FnAgainExpireDelegationTokenResponse" = some 3 by kernel_rfl).symm.trans hf) |>.symm
  obtain rfl : fn = Tryd.f3 := (Option.some.inj (Tryd.func3.symm.trans hfn)).symm
  refine ⟨by kernel_rfl, fun j t ht => ?_⟩
  rw [Tryd.params3] at ht
  have hm : t ∈ [5, 26] := by simpa using Array.mem_of_getElem? ht
  have hall : ([5, 26].all fun u => !Tryd.prog.wantsStandIn u) = true := by kernel_rfl
  exact (show Tryd.prog.wantsStandIn t = false by simpa using List.all_eq_true.1 hall t hm)
end Go.Proofs.YtcpnjbbcbhbmcaaDoor.fnAgainExpireDelegationTokenResponse
namespace Go.Proofs.YtcpnjbbcbhbmcaaDoor
/-- The card. -/
theorem fnAgainExpireDelegationTokenResponse_holds : Rows.FnAgainExpireDelegationTokenResponseUptoCardSaid :=
  Claim7.holds_tied_plain_at .later [] _ _ _ _ fnAgainExpireDelegationTokenResponse.over (fun _ h => by cases h) (by kernel_rfl) (fun _ h => by cases h) fnAgainExpireDelegationTokenResponseUpto_row_tie rfl ⟨rfl, rfl⟩ (by kernel_rfl) rfl fnAgainExpireDelegationTokenResponse.plain (by kernel_rfl)
#print axioms fnAgainExpireDelegationTokenResponse_holds
end Go.Proofs.YtcpnjbbcbhbmcaaDoor
