/- The law FnAnyDescribeClusterRequest: what is read of any bytes as a DescribeClusterRequest is written as bytes that are read again, and written as the same. The card: tied to the program's text. No condition but the row's own. -/
import Derived.Test.YthnlfmcijgphmaaDoorRCards
import Derived.Test.YthnlfmcijgphmaaDoorRTie
import Derived.Test.YthnlfmcijgphmaaDoorRSeatD
import Derived.Test.YthnlfmcijgphmaaDoorRFactA
import Derived.Test.YthnlfmcijgphmaaDoorRFactB
import Derived.Test.YthnlfmcijgphmaaDoorRFactC
import Derived.Test.YthnlfmcijgphmaaDoorRFactD
import Derived.ProofKit
import Derived.SevenTiedAt
namespace Go.Proofs.YthnlfmcijgphmaaDoorR.fnAnyDescribeClusterRequest
open Go.ChangeShapes Go.WideShapes Go.ChangeAt Go.RowKit
set_option linter.unusedVariables false
open Go.Kx in
def rl : RL0 := { f := 3, fMax := 11, fSpec := 0, fAgain := 12, fPtr := 29, fDef := 69, fMv := 30, fSet := 31, fAp := 33, fRd := 32, fRF := 70, tErr := 35, most := 2, L := 10, N := 58, LR := 14, NR := 52, pl := { T := 57, fl := some 0, tg := (some (4, 4)), fs := (.cons .always 1 1 0 (.prim .bool 4) (.cons (.ge 1) 2 2 (1) (.prim .i8 52) (.cons (.ge 2) 3 3 0 (.prim .bool 4) .nil))) }, zs := [.int .i16 0, .bool false, .int .i8 0, .bool false, .nmap], df := (.cons (.st 57 2 2 52 (.int .i8 (1))) .nil), sx := .nil, flex := 0 }
theorem msgOk : (Go.Kx.msgB Tryd.prog seatK seatG seatS seatR seatTG rl).all id = true := by kernel_rfl
theorem lawOk : Go.Kx.isFn Tryd.prog rl.f (Go.Kx.cLawAny seatS rl.fMax rl.fAgain) 43 4 = true := by kernel_rfl
theorem reads (os : Os) {H : Type} (enc : TypeId × Value → H) : ∃ places, DataW.whole enc Tryd.prog ((laidWorld os).forCall (fun _ _ => 0) ⟨#[], #[.int .u8 0, .slice none 0 0], []⟩).memory Tryd.f3.params.toList Rows.fnAnyDescribeClusterRequestSpec.vars false (#[.int .u8 0, .slice none 0 0] : Array Value).toList 8 = some ([.lit (.int .u8 0), .nil], [], places) :=
  ⟨[], by kernel_rfl⟩
set_option maxRecDepth 100000 in
theorem lifted (os : Os) (started : os.Started) (H : Type) (enc : TypeId × Value → H) (F : Stop.Interp) :
    ReturnsInHanded {} Tryd.checked os 3 .any ((OpenSpec.ofChange Rows.fnAnyDescribeClusterRequestSpec).preRow enc Tryd.prog Tryd.f3 Rows.fnAnyDescribeClusterRequestRow.domain false Rows.fnAnyDescribeClusterRequestRow.laid) (((OpenSpec.ofChange Rows.fnAnyDescribeClusterRequestSpec).at F).post enc Tryd.prog Tryd.f3 false true false false) := by
  obtain ⟨places, hx⟩ := reads os enc
  refine returnsInHanded_of_row (C := Tryd.checked) (s := OpenSpec.ofChange Rows.fnAnyDescribeClusterRequestSpec) own started (by kernel_rfl) Tryd.func3
    (witness_row_at (enc := enc) (C := Tryd.checked) false (laidWorld os) #[.int .u8 0, .slice none 0 0] rfl (by kernel_rfl) (by kernel_rfl) (by kernel_rfl)
      (OpenSpec.preRow_of_cond 8 hx (by kernel_rfl) (fun k hk => by cases hk) (by kernel_rfl) (laid_met os _))) ?_
  intro W base args ds gs before hval hW _ hc _ hL _ _
  exact Go.Kx.any_row seatA argOk rl msgOk (by kernel_rfl) lawOk (fn := Tryd.f3) (s := Rows.fnAnyDescribeClusterRequestSpec) (bulkOk H) Tryd.params3 (by kernel_rfl) rfl factLaid (by kernel_rfl) (fun _ _ => rfl) hval hW (err hL)
theorem facts : Go.Kx.rowFacts Tryd.checked.prog 3 Tryd.f3 Rows.fnAnyDescribeClusterRequestSpec Rows.fnAnyDescribeClusterRequestRow = true := by kernel_rfl
theorem joined : joinedFacts Tryd.checked.prog 3 Tryd.f3 Rows.fnAnyDescribeClusterRequestSpec Rows.fnAnyDescribeClusterRequestRow = true :=
  Go.Kx.joined_of facts factLaid factMaps factStops factKnobs factHeard factEnter factLifts factMake
set_option maxRecDepth 100000 in
theorem over : Rows.fnAnyDescribeClusterRequestRow.holds Tryd.pinned (OpenSpec.ofChange Rows.fnAnyDescribeClusterRequestSpec) :=
  OpenClaim.holds_of_cond 3 Tryd.f3 rfl rfl rfl rfl rfl rfl rfl ⟨rfl, rfl, rfl, rfl, rfl⟩ rfl rfl rfl rfl rfl (by kernel_rfl) Tryd.func3 joined
    (of_decide_eq_true (by kernel_rfl)) (by unfold Func.isWrapper; first | (rw [if_pos (by decide +kernel)]; kernel_rfl) | (rw [if_neg (by decide +kernel)]; exact ⟨rfl, rfl⟩))
    (fun os started H enc _ F => by rw [OpenClaim.pre_eq_preRow]; exact lifted os started H enc F)
theorem plain (f : FuncId) (fn : Func) (hf : Tryd.pinned.checked.prog.funcNamed "pub-kmsg/laws.FnAnyDescribeClusterRequest" = some f) (hfn : Tryd.pinned.checked.prog.funcs[f]? = some fn) :
    false = Tryd.pinned.checked.prog.looks [] ∧ ∀ (j : Nat) t, fn.params[j]? = some t → Tryd.pinned.checked.prog.wantsStandIn t = false := by
  obtain rfl : f = 3 := Option.some.inj ((show Tryd.prog.funcNamed "pub-kmsg/laws.FnAnyDescribeClusterRequest" = some 3 by kernel_rfl).symm.trans hf) |>.symm
  obtain rfl : fn = Tryd.f3 := (Option.some.inj (Tryd.func3.symm.trans hfn)).symm
  refine ⟨by kernel_rfl, fun j t ht => ?_⟩
  rw [Tryd.params3] at ht
  have hm : t ∈ [5, 22] := by simpa using Array.mem_of_getElem? ht
  have hall : ([5, 22].all fun u => !Tryd.prog.wantsStandIn u) = true := by kernel_rfl
  exact (show Tryd.prog.wantsStandIn t = false by simpa using List.all_eq_true.1 hall t hm)
end Go.Proofs.YthnlfmcijgphmaaDoorR.fnAnyDescribeClusterRequest
namespace Go.Proofs.YthnlfmcijgphmaaDoorR
/-- The card. -/
theorem fnAnyDescribeClusterRequest_holds : Rows.FnAnyDescribeClusterRequestCardSaid :=
  Claim7.holds_tied_plain_at .later [] _ _ _ _ fnAnyDescribeClusterRequest.over (fun _ h => by cases h) (by kernel_rfl) (fun _ h => by cases h) fnAnyDescribeClusterRequest_row_tie rfl ⟨rfl, rfl⟩ (by kernel_rfl) rfl fnAnyDescribeClusterRequest.plain (by kernel_rfl)
#print axioms fnAnyDescribeClusterRequest_holds
end Go.Proofs.YthnlfmcijgphmaaDoorR
