/- The law FnAnyAssignReplicasToDirsResponse: what is read of any bytes as a AssignReplicasToDirsResponse is written as bytes that are read again, and written as the same. The card: tied to the program's text. No condition but the row's own. -/
import Derived.Test.YthnlfmcijgphmaaDoorRCards
import Derived.Test.YthnlfmcijgphmaaDoorRTie
import Derived.Test.YthnlfmcijgphmaaDoorRSeatD
import Derived.Test.YthnlfmcijgphmaaDoorRFactA
import Derived.Test.YthnlfmcijgphmaaDoorRFactB
import Derived.Test.YthnlfmcijgphmaaDoorRFactC
import Derived.Test.YthnlfmcijgphmaaDoorRFactD
import Derived.ProofKit
import Derived.SevenTiedAt
namespace Go.Proofs.YthnlfmcijgphmaaDoorR.fnAnyAssignReplicasToDirsResponse
open Go.ChangeShapes Go.WideShapes Go.ChangeAt Go.RowKit
set_option linter.unusedVariables false
open Go.Kx in
def rl : RL0 := { f := 8, fMax := 23, fSpec := 0, fAgain := 24, fPtr := 54, fDef := 96, fMv := 55, fSet := 56, fAp := 58, fRd := 57, fRF := 97, tErr := 35, most := 0, L := 22, N := 195, LR := 35, NR := 201, pl := { T := 120, fl := some 0, tg := (some (4, 4)), fs := (.cons .always 1 1 0 (.prim .i32 21) (.cons .always 2 2 0 (.prim .i16 29) (.cons .always 3 3 0 (.arr none 118 124 (.struct 124 18 134 (some (2, 17)) (.cons .always 0 0 0 (.prim .uuid 86) (.cons .always 1 16 0 (.arr none 122 128 (.struct 128 18 135 (some (2, 17)) (.cons .always 0 0 0 (.prim .uuid 86) (.cons .always 1 16 0 (.arr none 126 131 (.struct 131 3 136 (some (2, 2)) (.cons .always 0 0 0 (.prim .i32 21) (.cons .always 1 1 0 (.prim .i16 29) .nil)))) .nil)))) .nil)))) .nil))) }, zs := [.int .i16 0, .int .i32 0, .int .i16 0, .nslice, .nmap], df := .nil, sx := .nil, flex := 0 }
theorem msgOk : (Go.Kx.msgB Tryd.prog seatK seatG seatS seatR seatTG rl).all id = true := by kernel_rfl
theorem lawOk : Go.Kx.isFn Tryd.prog rl.f (Go.Kx.cLawAny seatS rl.fMax rl.fAgain) 43 4 = true := by kernel_rfl
theorem reads (os : Os) {H : Type} (enc : TypeId × Value → H) : ∃ places, DataW.whole enc Tryd.prog ((laidWorld os).forCall (fun _ _ => 0) ⟨#[], #[.int .u8 0, .slice none 0 0], []⟩).memory Tryd.f8.params.toList Rows.fnAnyAssignReplicasToDirsResponseSpec.vars false (#[.int .u8 0, .slice none 0 0] : Array Value).toList 8 = some ([.lit (.int .u8 0), .nil], [], places) :=
  ⟨[], by kernel_rfl⟩
set_option maxRecDepth 100000 in
theorem lifted (os : Os) (started : os.Started) (H : Type) (enc : TypeId × Value → H) (F : Stop.Interp) :
    ReturnsInHanded {} Tryd.checked os 8 .any ((OpenSpec.ofChange Rows.fnAnyAssignReplicasToDirsResponseSpec).preRow enc Tryd.prog Tryd.f8 Rows.fnAnyAssignReplicasToDirsResponseRow.domain false Rows.fnAnyAssignReplicasToDirsResponseRow.laid) (((OpenSpec.ofChange Rows.fnAnyAssignReplicasToDirsResponseSpec).at F).post enc Tryd.prog Tryd.f8 false true false false) := by
  obtain ⟨places, hx⟩ := reads os enc
  refine returnsInHanded_of_row (C := Tryd.checked) (s := OpenSpec.ofChange Rows.fnAnyAssignReplicasToDirsResponseSpec) own started (by kernel_rfl) Tryd.func8
    (witness_row_at (enc := enc) (C := Tryd.checked) false (laidWorld os) #[.int .u8 0, .slice none 0 0] rfl (by kernel_rfl) (by kernel_rfl) (by kernel_rfl)
      (OpenSpec.preRow_of_cond 8 hx (by kernel_rfl) (fun k hk => by cases hk) (by kernel_rfl) (laid_met os _))) ?_
  intro W base args ds gs before hval hW _ hc _ hL _ _
  exact Go.Kx.any_row seatA argOk rl msgOk (by kernel_rfl) lawOk (fn := Tryd.f8) (s := Rows.fnAnyAssignReplicasToDirsResponseSpec) (bulkOk H) Tryd.params8 (by kernel_rfl) rfl factLaid (by kernel_rfl) (fun _ _ => rfl) hval hW (err hL)
theorem facts : Go.Kx.rowFacts Tryd.checked.prog 8 Tryd.f8 Rows.fnAnyAssignReplicasToDirsResponseSpec Rows.fnAnyAssignReplicasToDirsResponseRow = true := by kernel_rfl
theorem joined : joinedFacts Tryd.checked.prog 8 Tryd.f8 Rows.fnAnyAssignReplicasToDirsResponseSpec Rows.fnAnyAssignReplicasToDirsResponseRow = true :=
  Go.Kx.joined_of facts factLaid factMaps factStops factKnobs factHeard factEnter factLifts factMake
set_option maxRecDepth 100000 in
theorem over : Rows.fnAnyAssignReplicasToDirsResponseRow.holds Tryd.pinned (OpenSpec.ofChange Rows.fnAnyAssignReplicasToDirsResponseSpec) :=
  OpenClaim.holds_of_cond 8 Tryd.f8 rfl rfl rfl rfl rfl rfl rfl ⟨rfl, rfl, rfl, rfl, rfl⟩ rfl rfl rfl rfl rfl (by kernel_rfl) Tryd.func8 joined
    (of_decide_eq_true (by kernel_rfl)) (by unfold Func.isWrapper; first | (rw [if_pos (by decide +kernel)]; kernel_rfl) | (rw [if_neg (by decide +kernel)]; exact ⟨rfl, rfl⟩))
    (fun os started H enc _ F => by rw [OpenClaim.pre_eq_preRow]; exact lifted os started H enc F)
theorem plain (f : FuncId) (fn : Func) (hf : Tryd.pinned.checked.prog.funcNamed "pub-kmsg/laws.FnAnyAssignReplicasToDirsResponse" = some f) (hfn : Tryd.pinned.checked.prog.funcs[f]? = some fn) :
    false = Tryd.pinned.checked.prog.looks [] ∧ ∀ (j : Nat) t, fn.params[j]? = some t → Tryd.pinned.checked.prog.wantsStandIn t = false := by
  obtain rfl : f = 8 := Option.some.inj ((show Tryd.prog.funcNamed "pub-kmsg/laws.FnAnyAssignReplicasToDirsResponse" = some 8 by kernel_rfl).symm.trans hf) |>.symm
  obtain rfl : fn = Tryd.f8 := (Option.some.inj (Tryd.func8.symm.trans hfn)).symm
  refine ⟨by kernel_rfl, fun j t ht => ?_⟩
  rw [Tryd.params8] at ht
  have hm : t ∈ [5, 22] := by simpa using Array.mem_of_getElem? ht
  have hall : ([5, 22].all fun u => !Tryd.prog.wantsStandIn u) = true := by kernel_rfl
  exact (show Tryd.prog.wantsStandIn t = false by simpa using List.all_eq_true.1 hall t hm)
end Go.Proofs.YthnlfmcijgphmaaDoorR.fnAnyAssignReplicasToDirsResponse
namespace Go.Proofs.YthnlfmcijgphmaaDoorR
/-- The card. -/
theorem fnAnyAssignReplicasToDirsResponse_holds : Rows.FnAnyAssignReplicasToDirsResponseCardSaid :=
  Claim7.holds_tied_plain_at .later [] _ _ _ _ fnAnyAssignReplicasToDirsResponse.over (fun _ h => by cases h) (by kernel_rfl) (fun _ h => by cases h) fnAnyAssignReplicasToDirsResponse_row_tie rfl ⟨rfl, rfl⟩ (by kernel_rfl) rfl fnAnyAssignReplicasToDirsResponse.plain (by kernel_rfl)
#print axioms fnAnyAssignReplicasToDirsResponse_holds
end Go.Proofs.YthnlfmcijgphmaaDoorR
