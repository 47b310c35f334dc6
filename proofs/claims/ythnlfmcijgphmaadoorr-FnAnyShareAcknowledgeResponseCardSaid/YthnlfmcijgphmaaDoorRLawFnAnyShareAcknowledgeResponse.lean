/- The law FnAnyShareAcknowledgeResponse: what is read of any bytes as a ShareAcknowledgeResponse is written as bytes that are read again, and written as the same. The card: tied to the program's text. No condition but the row's own. -/
import Derived.Test.YthnlfmcijgphmaaDoorRCards
import Derived.Test.YthnlfmcijgphmaaDoorRTie
import Derived.Test.YthnlfmcijgphmaaDoorRSeatD
import Derived.Test.YthnlfmcijgphmaaDoorRFactA
import Derived.Test.YthnlfmcijgphmaaDoorRFactB
import Derived.Test.YthnlfmcijgphmaaDoorRFactC
import Derived.Test.YthnlfmcijgphmaaDoorRFactD
import Derived.ProofKit
import Derived.SevenTiedAt
namespace Go.Proofs.YthnlfmcijgphmaaDoorR.fnAnyShareAcknowledgeResponse
open Go.ChangeShapes Go.WideShapes Go.ChangeAt Go.RowKit
set_option linter.unusedVariables false
open Go.Kx in
def rl : RL0 := { f := 7, fMax := 21, fSpec := 0, fAgain := 22, fPtr := 49, fDef := 94, fMv := 50, fSet := 51, fAp := 53, fRd := 52, fRF := 95, tErr := 35, most := 2, L := 31, N := 295, LR := 45, NR := 288, pl := { T := 104, fl := some 0, tg := (some (7, 7)), fs := (.cons .always 1 1 0 (.prim .i32 21) (.cons .always 2 2 0 (.prim .i16 29) (.cons .always 3 3 0 (.prim .nstr 82) (.cons (.ge 2) 4 4 0 (.prim .i32 21) (.cons .always 5 5 0 (.arr none 101 108 (.struct 108 18 130 (some (2, 17)) (.cons .always 0 0 0 (.prim .uuid 86) (.cons .always 1 16 0 (.arr none 106 113 (.struct 113 7 131 (some (4, 6)) (.cons .always 0 0 0 (.prim .i32 21) (.cons .always 1 1 0 (.prim .i16 29) (.cons .always 2 2 0 (.prim .nstr 82) (.cons .always 3 3 0 (.struct 111 3 132 (some (2, 2)) (.cons .always 0 0 0 (.prim .i32 21) (.cons .always 1 1 0 (.prim .i32 21) .nil))) .nil)))))) .nil)))) (.cons .always 6 6 0 (.arr none 102 117 (.struct 117 5 133 (some (4, 4)) (.cons .always 0 0 0 (.prim .i32 21) (.cons .always 1 1 0 (.prim .str 9) (.cons .always 2 2 0 (.prim .i32 21) (.cons .always 3 3 0 (.prim .nstr 82) .nil)))))) .nil)))))) }, zs := [.int .i16 0, .int .i32 0, .int .i16 0, .nptr, .int .i32 0, .nslice, .nslice, .nmap], df := .nil, sx := .nil, flex := 0 }
theorem msgOk : (Go.Kx.msgB Tryd.prog seatK seatG seatS seatR seatTG rl).all id = true := by kernel_rfl
theorem lawOk : Go.Kx.isFn Tryd.prog rl.f (Go.Kx.cLawAny seatS rl.fMax rl.fAgain) 43 4 = true := by kernel_rfl
theorem reads (os : Os) {H : Type} (enc : TypeId × Value → H) : ∃ places, DataW.whole enc Tryd.prog ((laidWorld os).forCall (fun _ _ => 0) ⟨#[], #[.int .u8 0, .slice none 0 0], []⟩).memory Tryd.f7.params.toList Rows.fnAnyShareAcknowledgeResponseSpec.vars false (#[.int .u8 0, .slice none 0 0] : Array Value).toList 8 = some ([.lit (.int .u8 0), .nil], [], places) :=
  ⟨[], by kernel_rfl⟩
set_option maxRecDepth 100000 in
theorem lifted (os : Os) (started : os.Started) (H : Type) (enc : TypeId × Value → H) (F : Stop.Interp) :
    ReturnsInHanded {} Tryd.checked os 7 .any ((OpenSpec.ofChange Rows.fnAnyShareAcknowledgeResponseSpec).preRow enc Tryd.prog Tryd.f7 Rows.fnAnyShareAcknowledgeResponseRow.domain false Rows.fnAnyShareAcknowledgeResponseRow.laid) (((OpenSpec.ofChange Rows.fnAnyShareAcknowledgeResponseSpec).at F).post enc Tryd.prog Tryd.f7 false true false false) := by
  obtain ⟨places, hx⟩ := reads os enc
  refine returnsInHanded_of_row (C := Tryd.checked) (s := OpenSpec.ofChange Rows.fnAnyShareAcknowledgeResponseSpec) own started (by kernel_rfl) Tryd.func7
    (witness_row_at (enc := enc) (C := Tryd.checked) false (laidWorld os) #[.int .u8 0, .slice none 0 0] rfl (by kernel_rfl) (by kernel_rfl) (by kernel_rfl)
      (OpenSpec.preRow_of_cond 8 hx (by kernel_rfl) (fun k hk => by cases hk) (by kernel_rfl) (laid_met os _))) ?_
  intro W base args ds gs before hval hW _ hc _ hL _ _
  exact Go.Kx.any_row seatA argOk rl msgOk (by kernel_rfl) lawOk (fn := Tryd.f7) (s := Rows.fnAnyShareAcknowledgeResponseSpec) (bulkOk H) Tryd.params7 (by kernel_rfl) rfl factLaid (by kernel_rfl) (fun _ _ => rfl) hval hW (err hL)
theorem facts : Go.Kx.rowFacts Tryd.checked.prog 7 Tryd.f7 Rows.fnAnyShareAcknowledgeResponseSpec Rows.fnAnyShareAcknowledgeResponseRow = true := by kernel_rfl
theorem joined : joinedFacts Tryd.checked.prog 7 Tryd.f7 Rows.fnAnyShareAcknowledgeResponseSpec Rows.fnAnyShareAcknowledgeResponseRow = true :=
  Go.Kx.joined_of facts factLaid factMaps factStops factKnobs factHeard factEnter factLifts factMake
set_option maxRecDepth 100000 in
theorem over : Rows.fnAnyShareAcknowledgeResponseRow.holds Tryd.pinned (OpenSpec.ofChange Rows.fnAnyShareAcknowledgeResponseSpec) :=
  OpenClaim.holds_of_cond 7 Tryd.f7 rfl rfl rfl rfl rfl rfl rfl ⟨rfl, rfl, rfl, rfl, rfl⟩ rfl rfl rfl rfl rfl (by kernel_rfl) Tryd.func7 joined
    (of_decide_eq_true (by kernel_rfl)) (by unfold Func.isWrapper; first | (rw [if_pos (by decide +kernel)]; kernel_rfl) | (rw [if_neg (by decide +kernel)]; exact ⟨rfl, rfl⟩))
    (fun os started H enc _ F => by rw [OpenClaim.pre_eq_preRow]; exact lifted os started H enc F)
theorem plain (f : FuncId) (fn : Func) (hf : Tryd.pinned.checked.prog.funcNamed "pub-kmsg/laws.FnAnyShareAcknowledgeResponse" = some f) (hfn : Tryd.pinned.checked.prog.funcs[f]? = some fn) :
    false = Tryd.pinned.checked.prog.looks [] ∧ ∀ (j : Nat) t, fn.params[j]? = some t → Tryd.pinned.checked.prog.wantsStandIn t = false := by
  obtain rfl : f = 7 := Option.some.inj ((show Tryd.prog.funcNamed "pub-kmsg/laws.FnAnyShareAcknowledgeResponse" = some 7 by kernel_rfl).symm.trans hf) |>.symm
  obtain rfl : fn = Tryd.f7 := (Option.some.inj (Tryd.func7.symm.trans hfn)).symm
  refine ⟨by kernel_rfl, fun j t ht => ?_⟩
  rw [Tryd.params7] at ht
  have hm : t ∈ [5, 22] := by simpa using Array.mem_of_getElem? ht
  have hall : ([5, 22].all fun u => !Tryd.prog.wantsStandIn u) = true := by kernel_rfl
  exact (show Tryd.prog.wantsStandIn t = false by simpa using List.all_eq_true.1 hall t hm)
end Go.Proofs.YthnlfmcijgphmaaDoorR.fnAnyShareAcknowledgeResponse
namespace Go.Proofs.YthnlfmcijgphmaaDoorR
/-- The card. -/
theorem fnAnyShareAcknowledgeResponse_holds : Rows.FnAnyShareAcknowledgeResponseCardSaid :=
  Claim7.holds_tied_plain_at .later [] _ _ _ _ fnAnyShareAcknowledgeResponse.over (fun _ h => by cases h) (by kernel_rfl) (fun _ h => by cases h) fnAnyShareAcknowledgeResponse_row_tie rfl ⟨rfl, rfl⟩ (by kernel_rfl) rfl fnAnyShareAcknowledgeResponse.plain (by kernel_rfl)
#print axioms fnAnyShareAcknowledgeResponse_holds
end Go.Proofs.YthnlfmcijgphmaaDoorR
