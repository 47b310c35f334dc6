/- The law FnAnyAlterPartitionAssignmentsRequest: what is read of any bytes as a AlterPartitionAssignmentsRequest is written as bytes that are read again, and written as the same. The card: tied to the program's text. No condition but the row's own. -/
import Derived.Test.YthnlfmcijgphmaaDoorRCards
import Derived.Test.YthnlfmcijgphmaaDoorRTie
import Derived.Test.YthnlfmcijgphmaaDoorRSeatD
import Derived.Test.YthnlfmcijgphmaaDoorRFactA
import Derived.Test.YthnlfmcijgphmaaDoorRFactB
import Derived.Test.YthnlfmcijgphmaaDoorRFactC
import Derived.Test.YthnlfmcijgphmaaDoorRFactD
import Derived.ProofKit
import Derived.SevenTiedAt
namespace Go.Proofs.YthnlfmcijgphmaaDoorR.fnAnyAlterPartitionAssignmentsRequest
open Go.ChangeShapes Go.WideShapes Go.ChangeAt Go.RowKit
set_option linter.unusedVariables false
open Go.Kx in
def rl : RL0 := { f := 4, fMax := 15, fSpec := 0, fAgain := 16, fPtr := 34, fDef := 76, fMv := 35, fSet := 36, fAp := 38, fRd := 37, fRF := 77, tErr := 35, most := 1, L := 20, N := 179, LR := 32, NR := 197, pl := { T := 65, fl := some 0, tg := (some (4, 4)), fs := (.cons .always 1 1 (60000) (.prim .i32 21) (.cons (.ge 1) 2 2 (1) (.prim .bool 4) (.cons .always 3 3 0 (.arr none 63 71 (.struct 71 3 113 (some (2, 2)) (.cons .always 0 0 0 (.prim .str 9) (.cons .always 1 1 0 (.arr none 69 76 (.struct 76 3 118 (some (2, 2)) (.cons .always 0 0 0 (.prim .i32 21) (.cons .always 1 1 0 (.arr (some 0) 74 21 (.prim .i32 21)) .nil)))) .nil)))) .nil))) }, zs := [.int .i16 0, .int .i32 0, .bool false, .nslice, .nmap], df := (.cons (.st 65 1 1 21 (.int .i32 (60000))) (.cons (.st 65 2 2 4 (.bool true)) .nil)), sx := .nil, flex := 0 }
theorem msgOk : (Go.Kx.msgB Tryd.prog seatK seatG seatS seatR seatTG rl).all id = true := by kernel_rfl
theorem lawOk : Go.Kx.isFn Tryd.prog rl.f (Go.Kx.cLawAny seatS rl.fMax rl.fAgain) 43 4 = true := by kernel_rfl
theorem reads (os : Os) {H : Type} (enc : TypeId × Value → H) : ∃ places, DataW.whole enc Tryd.prog ((laidWorld os).forCall (fun _ _ => 0) ⟨#[], #[.int .u8 0, .slice none 0 0], []⟩).memory Tryd.f4.params.toList Rows.fnAnyAlterPartitionAssignmentsRequestSpec.vars false (#[.int .u8 0, .slice none 0 0] : Array Value).toList 8 = some ([.lit (.int .u8 0), .nil], [], places) :=
  ⟨[], by kernel_rfl⟩
set_option maxRecDepth 100000 in
theorem lifted (os : Os) (started : os.Started) (H : Type) (enc : TypeId × Value → H) (F : Stop.Interp) :
    ReturnsInHanded {} Tryd.checked os 4 .any ((OpenSpec.ofChange Rows.fnAnyAlterPartitionAssignmentsRequestSpec).preRow enc Tryd.prog Tryd.f4 Rows.fnAnyAlterPartitionAssignmentsRequestRow.domain false Rows.fnAnyAlterPartitionAssignmentsRequestRow.laid) (((OpenSpec.ofChange Rows.fnAnyAlterPartitionAssignmentsRequestSpec).at F).post enc Tryd.prog Tryd.f4 false true false false) := by
  obtain ⟨places, hx⟩ := reads os enc
  refine returnsInHanded_of_row (C := Tryd.checked) (s := OpenSpec.ofChange Rows.fnAnyAlterPartitionAssignmentsRequestSpec) own started (by kernel_rfl) Tryd.func4
    (witness_row_at (enc := enc) (C := Tryd.checked) false (laidWorld os) #[.int .u8 0, .slice none 0 0] rfl (by kernel_rfl) (by kernel_rfl) (by kernel_rfl)
      (OpenSpec.preRow_of_cond 8 hx (by kernel_rfl) (fun k hk => by cases hk) (by kernel_rfl) (laid_met os _))) ?_
  intro W base args ds gs before hval hW _ hc _ hL _ _
  exact Go.Kx.any_row seatA argOk rl msgOk (by kernel_rfl) lawOk (fn := Tryd.f4) (s := Rows.fnAnyAlterPartitionAssignmentsRequestSpec) (bulkOk H) Tryd.params4 (by kernel_rfl) rfl factLaid (by kernel_rfl) (fun _ _ => rfl) hval hW (err hL)
theorem facts : Go.Kx.rowFacts Tryd.checked.prog 4 Tryd.f4 Rows.fnAnyAlterPartitionAssignmentsRequestSpec Rows.fnAnyAlterPartitionAssignmentsRequestRow = true := by kernel_rfl
theorem joined : joinedFacts Tryd.checked.prog 4 Tryd.f4 Rows.fnAnyAlterPartitionAssignmentsRequestSpec Rows.fnAnyAlterPartitionAssignmentsRequestRow = true :=
  Go.Kx.joined_of facts factLaid factMaps factStops factKnobs factHeard factEnter factLifts factMake
set_option maxRecDepth 100000 in
theorem over : Rows.fnAnyAlterPartitionAssignmentsRequestRow.holds Tryd.pinned (OpenSpec.ofChange Rows.fnAnyAlterPartitionAssignmentsRequestSpec) :=
  OpenClaim.holds_of_cond 4 Tryd.f4 rfl rfl rfl rfl rfl rfl rfl ⟨rfl, rfl, rfl, rfl, rfl⟩ rfl rfl rfl rfl rfl (by kernel_rfl) Tryd.func4 joined
    (of_decide_eq_true (by kernel_rfl)) (by unfold Func.isWrapper; first | (rw [if_pos (by decide +kernel)]; kernel_rfl) | (rw [if_neg (by decide +kernel)]; exact ⟨rfl, rfl⟩))
    (fun os started H enc _ F => by rw [OpenClaim.pre_eq_preRow]; exact lifted os started H enc F)
theorem plain (f : FuncId) (fn : Func) (hf : Tryd.pinned.checked.prog.funcNamed "pub-kmsg/laws.FnAnyAlterPartitionAssignmentsRequest" = some f) (hfn : Tryd.pinned.checked.prog.funcs[f]? = some fn) :
    false = Tryd.pinned.checked.prog.looks [] ∧ ∀ (j : Nat) t, fn.params[j]? = some t → Tryd.pinned.checked.prog.wantsStandIn t = false := by
  obtain rfl : f = 4 := Option.some.inj ((show Tryd.prog.funcNamed "pub-kmsg/laws.FnAnyAlterPartitionAssignmentsRequest" = some 4 by kernel_rfl).symm.trans hf) |>.symm
  obtain rfl : fn = Tryd.f4 := (Option.some.inj (Tryd.func4.symm.trans hfn)).symm
  refine ⟨by kernel_rfl, fun j t ht => ?_⟩
  rw [Tryd.params4] at ht
  have hm : t ∈ [5, 22] := by simpa using Array.mem_of_getElem? ht
  have hall : ([5, 22].all fun u => !Tryd.prog.wantsStandIn u) = true := by kernel_rfl
  exact (show Tryd.prog.wantsStandIn t = false by simpa using List.all_eq_true.1 hall t hm)
end Go.Proofs.YthnlfmcijgphmaaDoorR.fnAnyAlterPartitionAssignmentsRequest
namespace Go.Proofs.YthnlfmcijgphmaaDoorR
/-- The card. -/
theorem fnAnyAlterPartitionAssignmentsRequest_holds : Rows.FnAnyAlterPartitionAssignmentsRequestCardSaid :=
  Claim7.holds_tied_plain_at .later [] _ _ _ _ fnAnyAlterPartitionAssignmentsRequest.over (fun _ h => by cases h) (by kernel_rfl) (fun _ h => by cases h) fnAnyAlterPartitionAssignmentsRequest_row_tie rfl ⟨rfl, rfl⟩ (by kernel_rfl) rfl fnAnyAlterPartitionAssignmentsRequest.plain (by kernel_rfl)
#print axioms fnAnyAlterPartitionAssignmentsRequest_holds
end Go.Proofs.YthnlfmcijgphmaaDoorR
