/- The law FnAnyConnectMemberAssignment: what is read of any bytes as a ConnectMemberAssignment is written as bytes that are read again, and written as the same. The card: tied to the program's text. No condition but the row's own. -/
import Derived.Test.YtffglmphlpofbaaDoorCards
import Derived.Test.YtffglmphlpofbaaDoorTie
import Derived.Test.YtffglmphlpofbaaDoorSeatD
import Derived.Test.YtffglmphlpofbaaDoorFactA
import Derived.Test.YtffglmphlpofbaaDoorFactB
import Derived.Test.YtffglmphlpofbaaDoorFactC
import Derived.Test.YtffglmphlpofbaaDoorFactD
import Derived.ProofKit
import Derived.SevenTiedAt
namespace Go.Proofs.YtffglmphlpofbaaDoor.fnAnyConnectMemberAssignment
open Go.ChangeShapes Go.WideShapes Go.ChangeAt Go.RowKit
set_option linter.unusedVariables false
open Go.Kx in
def rl : RL0 := { f := 4, fMax := 9, fSpec := 13, fAgain := 12, fPtr := 38, fDef := 71, fMv := 0, fSet := 0, fAp := 40, fRd := 39, fRF := 72, tErr := 77, most := 0, L := 26, N := 168, LR := 39, NR := 227, pl := { T := 83, fl := none, tg := none, fs := (.cons .always 1 1 0 (.prim .i16 68) (.cons .always 2 2 0 (.prim .str 9) (.cons .always 3 3 0 (.prim .str 9) (.cons .always 4 4 0 (.prim .i64 2) (.cons .always 5 5 0 (.arr none 80 133 (.struct 133 2 118 none (.cons .always 0 0 0 (.prim .str 9) (.cons .always 1 1 0 (.arr none 131 68 (.prim .i16 68)) .nil)))) (.cons (.ge 1) 6 6 0 (.arr none 81 135 (.struct 135 2 119 none (.cons .always 0 0 0 (.prim .str 9) (.cons .always 1 1 0 (.arr none 131 68 (.prim .i16 68)) .nil)))) (.cons (.ge 1) 7 7 0 (.prim .i32 21) .nil))))))) }, zs := [.int .i16 0, .int .i16 0, .estr, .estr, .int .i64 0, .nslice, .nslice, .int .i32 0], df := .nil, sx := (.cons (.mk [(0, 2), (2, -1), (3, -1), (4, -1)] 0 .nil) (.cons (.mk [(0, 8), (2, -1), (3, -1), (4, -1)] 0 .nil) (.cons (.mk [(0, 8), (2, -1), (3, -1), (4, -1)] 0 .nil) (.cons (.mk [(0, 4), (2, -1), (3, -1), (4, -1)] 0 .nil) (.cons (.mk [(0, 11), (2, -1), (3, -1), (4, -1), (6, 10)] 41 (.cons (.mk [(0, 8), (2, -1), (3, -1), (4, -1)] 0 .nil) (.cons (.mk [(0, 11), (2, -1), (3, -1), (4, -1), (6, 2)] 0 .nil) .nil))) (.cons (.mk [(0, 11), (1, 1), (2, -1), (3, -1), (4, -1), (6, 10)] 42 (.cons (.mk [(0, 8), (2, -1), (3, -1), (4, -1)] 0 .nil) (.cons (.mk [(0, 11), (2, -1), (3, -1), (4, -1), (6, 2)] 0 .nil) .nil))) (.cons (.mk [(0, 3), (1, 1), (2, -1), (3, -1), (4, -1)] 0 .nil) .nil))))))), flex := -1 }
theorem msgOk : (Go.Kx.msgKB Tryd.prog seatK seatG seatS seatR seatTG rl).all id = true := by kernel_rfl
theorem specOk : (Go.Kx.specB Tryd.prog seatS rl).all id = true := by kernel_rfl
theorem lawOk : Go.Kx.isFn Tryd.prog rl.f (Go.Kx.cLawAnyK seatS rl.fSpec rl.fMax rl.fAgain) 45 2 = true := by kernel_rfl
theorem reads (os : Os) {H : Type} (enc : TypeId × Value → H) : ∃ places, DataW.whole enc Tryd.prog ((laidWorld os).forCall (fun _ _ => 0) ⟨#[], #[.slice none 0 0], []⟩).memory Tryd.f4.params.toList Rows.fnAnyConnectMemberAssignmentSpec.vars false (#[.slice none 0 0] : Array Value).toList 8 = some ([.nil], [], places) :=
  ⟨[], by kernel_rfl⟩
set_option maxRecDepth 100000 in
theorem lifted (os : Os) (started : os.Started) (H : Type) (enc : TypeId × Value → H) (F : Stop.Interp) :
    ReturnsInHanded {} Tryd.checked os 4 .any ((OpenSpec.ofChange Rows.fnAnyConnectMemberAssignmentSpec).preRow enc Tryd.prog Tryd.f4 Rows.fnAnyConnectMemberAssignmentRow.domain false Rows.fnAnyConnectMemberAssignmentRow.laid) (((OpenSpec.ofChange Rows.fnAnyConnectMemberAssignmentSpec).at F).post enc Tryd.prog Tryd.f4 false true false false) := by
  obtain ⟨places, hx⟩ := reads os enc
  refine returnsInHanded_of_row (C := Tryd.checked) (s := OpenSpec.ofChange Rows.fnAnyConnectMemberAssignmentSpec) own started (by kernel_rfl) Tryd.func4
    (witness_row_at (enc := enc) (C := Tryd.checked) false (laidWorld os) #[.slice none 0 0] rfl (by kernel_rfl) (by kernel_rfl) (by kernel_rfl)
      (OpenSpec.preRow_of_cond 8 hx (by kernel_rfl) (fun k hk => by cases hk) (by kernel_rfl) (laid_met os _))) ?_
  intro W base args ds gs before hval hW _ hc _ hL _ _
  exact Go.Kx.any_rowK seat2 argOk rl msgOk specOk (by kernel_rfl) (by kernel_rfl) lawOk (by kernel_rfl) (fn := Tryd.f4) (s := Rows.fnAnyConnectMemberAssignmentSpec) (bulkOk H) Tryd.params4 (by kernel_rfl) rfl factLaid (by kernel_rfl) (fun _ => rfl) hval hW (err hL)
theorem facts : Go.Kx.rowFacts Tryd.checked.prog 4 Tryd.f4 Rows.fnAnyConnectMemberAssignmentSpec Rows.fnAnyConnectMemberAssignmentRow = true := by kernel_rfl
theorem joined : joinedFacts Tryd.checked.prog 4 Tryd.f4 Rows.fnAnyConnectMemberAssignmentSpec Rows.fnAnyConnectMemberAssignmentRow = true :=
  Go.Kx.joined_of facts factLaid factMaps factStops factKnobs factHeard factEnter factLifts factMake
set_option maxRecDepth 100000 in
theorem over : Rows.fnAnyConnectMemberAssignmentRow.holds Tryd.pinned (OpenSpec.ofChange Rows.fnAnyConnectMemberAssignmentSpec) :=
  OpenClaim.holds_of_cond 4 Tryd.f4 rfl rfl rfl rfl rfl rfl rfl ⟨rfl, rfl, rfl, rfl, rfl⟩ rfl rfl rfl rfl rfl (by kernel_rfl) Tryd.func4 joined
    (of_decide_eq_true (by kernel_rfl)) (by unfold Func.isWrapper; first | (rw [if_pos (by decide +kernel)]; kernel_rfl) | (rw [if_neg (by decide +kernel)]; exact ⟨rfl, rfl⟩))
    (fun os started H enc _ F => by rw [OpenClaim.pre_eq_preRow]; exact lifted os started H enc F)
theorem plain (f : FuncId) (fn : Func) (hf : Tryd.pinned.checked.prog.funcNamed "pub-kmsg/laws.FnAnyConnectMemberAssignment" = some f) (hfn : Tryd.pinned.checked.prog.funcs[f]? = some fn) :
    false = Tryd.pinned.checked.prog.looks [] ∧ ∀ (j : Nat) t, fn.params[j]? = some t → Tryd.pinned.checked.prog.wantsStandIn t = false := by
  obtain rfl : f = 4 := Option.some.inj ((show Tryd.prog.funcNamed "pub-kmsg/laws.FnAnyConnectMemberAssignment" = some 4 by kernel_rfl).symm.trans hf) |>.symm
  obtain rfl : fn = Tryd.f4 := (Option.some.inj (Tryd.func4.symm.trans hfn)).symm
  refine ⟨by kernel_rfl, fun j t ht => ?_⟩
  rw [Tryd.params4] at ht
  have hm : t ∈ [22] := by simpa using Array.mem_of_getElem? ht
  have hall : ([22].all fun u => !Tryd.prog.wantsStandIn u) = true := by kernel_rfl
  exact (show Tryd.prog.wantsStandIn t = false by simpa using List.all_eq_true.1 hall t hm)
end Go.Proofs.YtffglmphlpofbaaDoor.fnAnyConnectMemberAssignment
namespace Go.Proofs.YtffglmphlpofbaaDoor
/-- The card. -/
theorem fnAnyConnectMemberAssignment_holds : Rows.FnAnyConnectMemberAssignmentCardSaid :=
  Claim7.holds_tied_plain_at .later [] _ _ _ _ fnAnyConnectMemberAssignment.over (fun _ h => by cases h) (by kernel_rfl) (fun _ h => by cases h) fnAnyConnectMemberAssignment_row_tie rfl ⟨rfl, rfl⟩ (by kernel_rfl) rfl fnAnyConnectMemberAssignment.plain (by kernel_rfl)
#print axioms fnAnyConnectMemberAssignment_holds
end Go.Proofs.YtffglmphlpofbaaDoor
