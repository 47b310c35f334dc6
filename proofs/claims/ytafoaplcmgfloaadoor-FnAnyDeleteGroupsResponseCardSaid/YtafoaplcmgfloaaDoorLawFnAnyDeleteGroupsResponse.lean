/- The law FnAnyDeleteGroupsResponse: what is read of any bytes as a DeleteGroupsResponse is written as bytes that are read again, and written as the same. The card: tied to the program's text. No condition but the row's own. -/
import Derived.Test.YtafoaplcmgfloaaDoorCards
import Derived.Test.YtafoaplcmgfloaaDoorTie
import Derived.Test.YtafoaplcmgfloaaDoorSeatD
import Derived.Test.YtafoaplcmgfloaaDoorFactA
import Derived.Test.YtafoaplcmgfloaaDoorFactB
import Derived.Test.YtafoaplcmgfloaaDoorFactC
import Derived.Test.YtafoaplcmgfloaaDoorFactD
import Derived.ProofKit
import Derived.SevenTiedAt
namespace Go.Proofs.YtafoaplcmgfloaaDoor.fnAnyDeleteGroupsResponse
open Go.ChangeShapes Go.WideShapes Go.ChangeAt Go.RowKit
set_option linter.unusedVariables false
open Go.Kx in
def rl : RL0 := { f := 5, fMax := 12, fSpec := 0, fAgain := 13, fPtr := 24, fDef := 43, fMv := 25, fSet := 26, fAp := 28, fRd := 27, fRF := 44, tErr := 35, most := 3, L := 14, N := 111, LR := 21, NR := 113, pl := { T := 68, fl := some 2, tg := (some (3, 3)), fs := (.cons .always 1 1 0 (.prim .i32 21) (.cons .always 2 2 0 (.arr none 66 72 (.struct 72 4 66 (some (3, 3)) (.cons .always 0 0 0 (.prim .str 9) (.cons .always 1 1 0 (.prim .i16 29) (.cons (.ge 3) 2 2 0 (.prim .nstr 70) .nil))))) .nil)) }, zs := [.int .i16 0, .int .i32 0, .nslice, .nmap], df := .nil, sx := .nil, flex := 0 }
theorem msgOk : (Go.Kx.msgB Tryd.prog seatK seatG seatS seatR seatTG rl).all id = true := by kernel_rfl
theorem lawOk : Go.Kx.isFn Tryd.prog rl.f (Go.Kx.cLawAny seatS rl.fMax rl.fAgain) 43 4 = true := by kernel_rfl
theorem reads (os : Os) {H : Type} (enc : TypeId × Value → H) : ∃ places, DataW.whole enc Tryd.prog ((laidWorld os).forCall (fun _ _ => 0) ⟨#[], #[.int .u8 0, .slice none 0 0], []⟩).memory Tryd.f5.params.toList Rows.fnAnyDeleteGroupsResponseSpec.vars false (#[.int .u8 0, .slice none 0 0] : Array Value).toList 8 = some ([.lit (.int .u8 0), .nil], [], places) :=
  ⟨[], by kernel_rfl⟩
set_option maxRecDepth 100000 in
theorem lifted (os : Os) (started : os.Started) (H : Type) (enc : TypeId × Value → H) (F : Stop.Interp) :
    ReturnsInHanded {} Tryd.checked os 5 .any ((OpenSpec.ofChange Rows.fnAnyDeleteGroupsResponseSpec).preRow enc Tryd.prog Tryd.f5 Rows.fnAnyDeleteGroupsResponseRow.domain false Rows.fnAnyDeleteGroupsResponseRow.laid) (((OpenSpec.ofChange Rows.fnAnyDeleteGroupsResponseSpec).at F).post enc Tryd.prog Tryd.f5 false true false false) := by
  obtain ⟨places, hx⟩ := reads os enc
  refine returnsInHanded_of_row (C := Tryd.checked) (s := OpenSpec.ofChange Rows.fnAnyDeleteGroupsResponseSpec) own started (by kernel_rfl) Tryd.func5
    (witness_row_at (enc := enc) (C := Tryd.checked) false (laidWorld os) #[.int .u8 0, .slice none 0 0] rfl (by kernel_rfl) (by kernel_rfl) (by kernel_rfl)
      (OpenSpec.preRow_of_cond 8 hx (by kernel_rfl) (fun k hk => by cases hk) (by kernel_rfl) (laid_met os _))) ?_
  intro W base args ds gs before hval hW _ hc _ hL _ _
  exact Go.Kx.any_row seatA argOk rl msgOk (by kernel_rfl) lawOk (fn := Tryd.f5) (s := Rows.fnAnyDeleteGroupsResponseSpec) (bulkOk H) Tryd.params5 (by kernel_rfl) rfl factLaid (by kernel_rfl) (fun _ _ => rfl) hval hW (err hL)
theorem facts : Go.Kx.rowFacts Tryd.checked.prog 5 Tryd.f5 Rows.fnAnyDeleteGroupsResponseSpec Rows.fnAnyDeleteGroupsResponseRow = true := by kernel_rfl
theorem joined : joinedFacts Tryd.checked.prog 5 Tryd.f5 Rows.fnAnyDeleteGroupsResponseSpec Rows.fnAnyDeleteGroupsResponseRow = true :=
  Go.Kx.joined_of facts factLaid factMaps factStops factKnobs factHeard factEnter factLifts factMake
set_option maxRecDepth 100000 in
theorem over : Rows.fnAnyDeleteGroupsResponseRow.holds Tryd.pinned (OpenSpec.ofChange Rows.fnAnyDeleteGroupsResponseSpec) :=
  OpenClaim.holds_of_cond 5 Tryd.f5 rfl rfl rfl rfl rfl rfl rfl ⟨rfl, rfl, rfl, rfl, rfl⟩ rfl rfl rfl rfl rfl (by kernel_rfl) Tryd.func5 joined
    (of_decide_eq_true (by kernel_rfl)) (by unfold Func.isWrapper; first | (rw [if_pos (by decide +kernel)]; kernel_rfl) | (rw [if_neg (by decide +kernel)]; exact ⟨rfl, rfl⟩))
    (fun os started H enc _ F => by rw [OpenClaim.pre_eq_preRow]; exact lifted os started H enc F)
theorem plain (f : FuncId) (fn : Func) (hf : Tryd.pinned.checked.prog.funcNamed "pub-kmsg/laws.FnAnyDeleteGroupsResponse" = some f) (hfn : Tryd.pinned.checked.prog.funcs[f]? = some fn) :
    false = Tryd.pinned.checked.prog.looks [] ∧ ∀ (j : Nat) t, fn.params[j]? = some t → Tryd.pinned.checked.prog.wantsStandIn t = false := by
  obtain rfl : f = 5 := Option.some.inj ((show Tryd.prog.funcNamed "pub-kmsg/laws.FnAnyDeleteGroupsResponse" = some 5 by kernel_rfl).symm.trans hf) |>.symm
  obtain rfl : fn = Tryd.f5 := (Option.some.inj (Tryd.func5.symm.trans hfn)).symm
  refine ⟨by kernel_rfl, fun j t ht => ?_⟩
  rw [Tryd.params5] at ht
  have hm : t ∈ [5, 22] := by simpa using Array.mem_of_getElem? ht
  have hall : ([5, 22].all fun u => !Tryd.prog.wantsStandIn u) = true := by kernel_rfl
  exact (show Tryd.prog.wantsStandIn t = false by simpa using List.all_eq_true.1 hall t hm)
end Go.Proofs.YtafoaplcmgfloaaDoor.fnAnyDeleteGroupsResponse
namespace Go.Proofs.YtafoaplcmgfloaaDoor
/-- The card. -/
theorem fnAnyDeleteGroupsResponse_holds : Rows.FnAnyDeleteGroupsResponseCardSaid :=
  Claim7.holds_tied_plain_at .later [] _ _ _ _ fnAnyDeleteGroupsResponse.over (fun _ h => by cases h) (by kernel_rfl) (fun _ h => by cases h) fnAnyDeleteGroupsResponse_row_tie rfl ⟨rfl, rfl⟩ (by kernel_rfl) rfl fnAnyDeleteGroupsResponse.plain (by kernel_rfl)
#print axioms fnAnyDeleteGroupsResponse_holds
end Go.Proofs.YtafoaplcmgfloaaDoor
