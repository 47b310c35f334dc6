/- The law FnAnyDescribeQuorumResponse: what is read of any bytes as a DescribeQuorumResponse is written as bytes that are read again, and written as the same. The card: tied to the program's text. No condition but the row's own. -/
import Derived.Test.YthnlfmcijgphmaaGreatDoorCards
import Derived.Test.YthnlfmcijgphmaaGreatDoorTie
import Derived.Test.YthnlfmcijgphmaaGreatDoorSeatD
import Derived.Test.YthnlfmcijgphmaaGreatDoorFactA
import Derived.Test.YthnlfmcijgphmaaGreatDoorFactB
import Derived.Test.YthnlfmcijgphmaaGreatDoorFactC
import Derived.Test.YthnlfmcijgphmaaGreatDoorFactD
import Derived.ProofKit
import Derived.SevenTiedAt
namespace Go.Proofs.YthnlfmcijgphmaaGreatDoor.fnAnyDescribeQuorumResponse
open Go.ChangeShapes Go.WideShapes Go.ChangeAt Go.RowKit
set_option linter.unusedVariables false
open Go.Kx in
def rl : RL0 := { f := 3, fMax := 4, fSpec := 0, fAgain := 5, fPtr := 8, fDef := 13, fMv := 9, fSet := 10, fAp := 12, fRd := 11, fRF := 14, tErr := 35, most := 2, L := 48, N := 486, LR := 70, NR := 486, pl := { T := 45, fl := some 0, tg := (some (5, 5)), fs := (.cons .always 1 1 0 (.prim .i16 29) (.cons (.ge 2) 2 2 0 (.prim .nstr 38) (.cons .always 3 3 0 (.arr none 39 53 (.struct 53 3 38 (some (2, 2)) (.cons .always 0 0 0 (.prim .str 9) (.cons .always 1 1 0 (.arr none 51 58 (.struct 58 9 43 (some (8, 8)) (.cons .always 0 0 0 (.prim .i32 21) (.cons .always 1 1 0 (.prim .i16 29) (.cons (.ge 2) 2 2 0 (.prim .nstr 38) (.cons .always 3 3 0 (.prim .i32 21) (.cons .always 4 4 0 (.prim .i32 21) (.cons .always 5 5 0 (.prim .i64 2) (.cons .always 6 6 0 (.arr none 56 64 (.struct 64 21 46 (some (5, 20)) (.cons .always 0 0 0 (.prim .i32 21) (.cons (.ge 2) 1 1 0 (.prim .uuid 62) (.cons .always 2 17 0 (.prim .i64 2) (.cons (.ge 1) 3 18 (-1) (.prim .i64 2) (.cons (.ge 1) 4 19 (-1) (.prim .i64 2) .nil))))))) (.cons .always 7 7 0 (.arr none 56 64 (.struct 64 21 46 (some (5, 20)) (.cons .always 0 0 0 (.prim .i32 21) (.cons (.ge 2) 1 1 0 (.prim .uuid 62) (.cons .always 2 17 0 (.prim .i64 2) (.cons (.ge 1) 3 18 (-1) (.prim .i64 2) (.cons (.ge 1) 4 19 (-1) (.prim .i64 2) .nil))))))) .nil)))))))))) .nil)))) (.cons (.ge 2) 4 4 0 (.arr none 40 71 (.struct 71 3 49 (some (2, 2)) (.cons .always 0 0 0 (.prim .i32 21) (.cons .always 1 1 0 (.arr none 69 75 (.struct 75 4 50 (some (3, 3)) (.cons .always 0 0 0 (.prim .str 9) (.cons .always 1 1 0 (.prim .str 9) (.cons .always 2 2 0 (.prim .u16 73) .nil))))) .nil)))) .nil)))) }, zs := [.int .i16 0, .int .i16 0, .nptr, .nslice, .nslice, .nmap], df := .nil, sx := .nil, flex := 0 }
theorem msgOk : (Go.Kx.msgB Tryz.prog seatK seatG seatS seatR seatTG rl).all id = true := by kernel_rfl
theorem lawOk : Go.Kx.isFn Tryz.prog rl.f (Go.Kx.cLawAny seatS rl.fMax rl.fAgain) 43 4 = true := by kernel_rfl
theorem reads (os : Os) {H : Type} (enc : TypeId × Value → H) : ∃ places, DataW.whole enc Tryz.prog ((laidWorld os).forCall (fun _ _ => 0) ⟨#[], #[.int .u8 0, .slice none 0 0], []⟩).memory Tryz.f3.params.toList Rows.fnAnyDescribeQuorumResponseSpec.vars false (#[.int .u8 0, .slice none 0 0] : Array Value).toList 8 = some ([.lit (.int .u8 0), .nil], [], places) :=
  ⟨[], by kernel_rfl⟩
set_option maxRecDepth 100000 in
theorem lifted (os : Os) (started : os.Started) (H : Type) (enc : TypeId × Value → H) (F : Stop.Interp) :
    ReturnsInHanded {} Tryz.checked os 3 .any ((OpenSpec.ofChange Rows.fnAnyDescribeQuorumResponseSpec).preRow enc Tryz.prog Tryz.f3 Rows.fnAnyDescribeQuorumResponseRow.domain false Rows.fnAnyDescribeQuorumResponseRow.laid) (((OpenSpec.ofChange Rows.fnAnyDescribeQuorumResponseSpec).at F).post enc Tryz.prog Tryz.f3 false true false false) := by
  obtain ⟨places, hx⟩ := reads os enc
  refine returnsInHanded_of_row (C := Tryz.checked) (s := OpenSpec.ofChange Rows.fnAnyDescribeQuorumResponseSpec) own started (by kernel_rfl) Tryz.func3
    (witness_row_at (enc := enc) (C := Tryz.checked) false (laidWorld os) #[.int .u8 0, .slice none 0 0] rfl (by kernel_rfl) (by kernel_rfl) (by kernel_rfl)
      (OpenSpec.preRow_of_cond 8 hx (by kernel_rfl) (fun k hk => by cases hk) (by kernel_rfl) (laid_met os _))) ?_
  intro W base args ds gs before hval hW _ hc _ hL _ _
  exact Go.Kx.any_row seatA argOk rl msgOk (by kernel_rfl) lawOk (fn := Tryz.f3) (s := Rows.fnAnyDescribeQuorumResponseSpec) (bulkOk H) Tryz.params3 (by kernel_rfl) rfl factLaid (by kernel_rfl) (fun _ _ => rfl) hval hW (err hL)
theorem facts : Go.Kx.rowFacts Tryz.checked.prog 3 Tryz.f3 Rows.fnAnyDescribeQuorumResponseSpec Rows.fnAnyDescribeQuorumResponseRow = true := by kernel_rfl
theorem joined : joinedFacts Tryz.checked.prog 3 Tryz.f3 Rows.fnAnyDescribeQuorumResponseSpec Rows.fnAnyDescribeQuorumResponseRow = true :=
  Go.Kx.joined_of facts factLaid factMaps factStops factKnobs factHeard factEnter factLifts factMake
set_option maxRecDepth 100000 in
theorem over : Rows.fnAnyDescribeQuorumResponseRow.holds Tryz.pinned (OpenSpec.ofChange Rows.fnAnyDescribeQuorumResponseSpec) :=
  OpenClaim.holds_of_cond 3 Tryz.f3 rfl rfl rfl rfl rfl rfl rfl ⟨rfl, rfl, rfl, rfl, rfl⟩ rfl rfl rfl rfl rfl (by kernel_rfl) Tryz.func3 joined
    (of_decide_eq_true (by kernel_rfl)) (by unfold Func.isWrapper; first | (rw [if_pos (by decide +kernel)]; kernel_rfl) | (rw [if_neg (by decide +kernel)]; exact ⟨rfl, rfl⟩))
    (fun os started H enc _ F => by rw [OpenClaim.pre_eq_preRow]; exact lifted os started H enc F)
theorem plain (f : FuncId) (fn : Func) (hf : Tryz.pinned.checked.prog.funcNamed "pub-kmsg/laws.FnAnyDescribeQuorumResponse" = some f) (hfn : Tryz.pinned.checked.prog.funcs[f]? = some fn) :
    false = Tryz.pinned.checked.prog.looks [] ∧ ∀ (j : Nat) t, fn.params[j]? = some t → Tryz.pinned.checked.prog.wantsStandIn t = false := by
  obtain rfl : f = 3 := Option.some.inj ((show Tryz.prog.funcNamed "pub-kmsg/laws.FnAnyDescribeQuorumResponse" = some 3 by kernel_rfl).symm.trans hf) |>.symm
  obtain rfl : fn = Tryz.f3 := (Option.some.inj (Tryz.func3.symm.trans hfn)).symm
  refine ⟨by kernel_rfl, fun j t ht => ?_⟩
  rw [Tryz.params3] at ht
  have hm : t ∈ [5, 22] := by simpa using Array.mem_of_getElem? ht
  have hall : ([5, 22].all fun u => !Tryz.prog.wantsStandIn u) = true := by kernel_rfl
  exact (show Tryz.prog.wantsStandIn t = false by simpa using List.all_eq_true.1 hall t hm)
end Go.Proofs.YthnlfmcijgphmaaGreatDoor.fnAnyDescribeQuorumResponse
namespace Go.Proofs.YthnlfmcijgphmaaGreatDoor
/-- The card. -/
theorem fnAnyDescribeQuorumResponse_holds : Rows.FnAnyDescribeQuorumResponseCardSaid :=
  Claim7.holds_tied_plain_at .later [] _ _ _ _ fnAnyDescribeQuorumResponse.over (fun _ h => by cases h) (by kernel_rfl) (fun _ h => by cases h) fnAnyDescribeQuorumResponse_row_tie rfl ⟨rfl, rfl⟩ (by kernel_rfl) rfl fnAnyDescribeQuorumResponse.plain (by kernel_rfl)
#print axioms fnAnyDescribeQuorumResponse_holds
end Go.Proofs.YthnlfmcijgphmaaGreatDoor
