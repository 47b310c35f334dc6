/- The law FnCutAlterClientQuotasRequest: a AlterClientQuotasRequest that ends ahead of its end is an error; of inputs of bulk at most 1048576. The card: tied to the program's text. No condition but the row's own. -/
import Derived.Test.YtffglmphlpofbaaGreatDoorCards
import Derived.Test.YtffglmphlpofbaaGreatDoorTie
import Derived.Test.YtffglmphlpofbaaGreatDoorSeatD
import Derived.Test.YtffglmphlpofbaaGreatDoorFactA
import Derived.Test.YtffglmphlpofbaaGreatDoorFactB
import Derived.Test.YtffglmphlpofbaaGreatDoorFactC
import Derived.Test.YtffglmphlpofbaaGreatDoorFactD
import Derived.ProofKit
import Derived.SevenTiedAt
namespace Go.Proofs.YtffglmphlpofbaaGreatDoor.fnCutAlterClientQuotasRequest
open Go.ChangeShapes Go.WideShapes Go.ChangeAt Go.RowKit
set_option linter.unusedVariables false
open Go.Kx in
def rl : RL0 := { f := 3, fMax := 8, fSpec := 10, fAgain := 12, fPtr := 24, fDef := 50, fMv := 25, fSet := 28, fAp := 30, fRd := 29, fRF := 61, tErr := 53, most := 1, L := 22, N := 207, LR := 35, NR := 219, pl := { T := 76, fl := some 1, tg := (some (3, 3)), fs := (.cons .always 1 1 0 (.arr none 74 91 (.struct 91 3 103 (some (2, 2)) (.cons .always 0 0 0 (.arr none 88 95 (.struct 95 3 104 (some (2, 2)) (.cons .always 0 0 0 (.prim .str 9) (.cons .always 1 1 0 (.prim .nstr 93) .nil)))) (.cons .always 1 1 0 (.arr none 89 102 (.struct 102 4 114 (some (3, 3)) (.cons .always 0 0 0 (.prim .str 9) (.cons .always 1 1 0 (.prim .f64 100) (.cons .always 2 2 0 (.prim .bool 4) .nil))))) .nil)))) (.cons .always 2 2 0 (.prim .bool 4) .nil)) }, zs := [.int .i16 0, .nslice, .bool false, .nmap], df := .nil, sx := (.cons (.mk [(0, 11), (2, -1), (3, -1), (4, -1), (6, 10)] 27 (.cons (.mk [(0, 11), (2, -1), (3, -1), (4, -1), (6, 10)] 59 (.cons (.mk [(0, 8), (2, -1), (3, -1), (4, -1)] 0 .nil) (.cons (.mk [(0, 8), (2, -1), (3, 0), (4, -1)] 0 .nil) .nil))) (.cons (.mk [(0, 11), (2, -1), (3, -1), (4, -1), (6, 10)] 60 (.cons (.mk [(0, 8), (2, -1), (3, -1), (4, -1)] 0 .nil) (.cons (.mk [(0, 6), (2, -1), (3, -1), (4, -1)] 0 .nil) (.cons (.mk [(0, 0), (2, -1), (3, -1), (4, -1)] 0 .nil) .nil)))) .nil))) (.cons (.mk [(0, 0), (2, -1), (3, -1), (4, -1)] 0 .nil) .nil)), flex := 1 }
theorem msgOk : (Go.Kx.msgB Tryz.prog seatK seatG seatS seatR seatTG rl).all id = true := by kernel_rfl
theorem specOk : (Go.Kx.specB Tryz.prog seatS rl).all id = true := by kernel_rfl
theorem lawOk : Go.Kx.isFn Tryz.prog rl.f (Go.Kx.cLawCut seatS seatZ.f2 rl.fMax rl.fSpec rl.fAgain) 56 6 = true := by kernel_rfl
theorem reads (os : Os) {H : Type} (enc : TypeId × Value → H) : ∃ places, DataW.whole enc Tryz.prog ((laidWorld os).forCall (fun _ _ => 0) ⟨#[], #[.int .u8 0, .agg #[.int .i64 0, .slice none 0 0, .bool false, .slice none 0 0, .slice none 0 0], .int .u16 0], []⟩).memory Tryz.f3.params.toList Rows.fnCutAlterClientQuotasRequestSpec.vars false (#[.int .u8 0, .agg #[.int .i64 0, .slice none 0 0, .bool false, .slice none 0 0, .slice none 0 0], .int .u16 0] : Array Value).toList 8 = some ([.lit (.int .u8 0), .agg [.lit (.int .i64 0), .nil, .lit (.bool false), .nil, .nil], .lit (.int .u16 0)], [], places) :=
  ⟨[], by kernel_rfl⟩
set_option maxRecDepth 100000 in
theorem lifted (os : Os) (started : os.Started) (H : Type) (enc : TypeId × Value → H) (F : Stop.Interp) :
    ReturnsInHanded {} Tryz.checked os 3 .any ((Rows.OpenSpec.upto Rows.fnCutAlterClientQuotasRequestSpec).preRow enc Tryz.prog Tryz.f3 Rows.fnCutAlterClientQuotasRequestUptoRow.domain false Rows.fnCutAlterClientQuotasRequestUptoRow.laid) (((Rows.OpenSpec.upto Rows.fnCutAlterClientQuotasRequestSpec).at F).post enc Tryz.prog Tryz.f3 false true false false) := by
  obtain ⟨places, hx⟩ := reads os enc
  refine returnsInHanded_of_row (C := Tryz.checked) (s := Rows.OpenSpec.upto Rows.fnCutAlterClientQuotasRequestSpec) own started (by kernel_rfl) Tryz.func3
    (witness_row_at (enc := enc) (C := Tryz.checked) false (laidWorld os) #[.int .u8 0, .agg #[.int .i64 0, .slice none 0 0, .bool false, .slice none 0 0, .slice none 0 0], .int .u16 0] rfl (by kernel_rfl) (by kernel_rfl) (by kernel_rfl)
      (OpenSpec.preRow_of_cond 8 hx (by kernel_rfl) (fun k hk => by cases hk; kernel_rfl) (by kernel_rfl) (laid_met os _))) ?_
  intro W base args ds gs before hval hW _ hc _ hL _ _
  exact Go.Kx.cut_row seat2 tree rl msgOk specOk lawOk (by kernel_rfl) (by kernel_rfl) (fn := Tryz.f3) (s := Rows.fnCutAlterClientQuotasRequestSpec) (bulkOk H) (by kernel_rfl) Tryz.params3 (by kernel_rfl) rfl factLaid (by kernel_rfl) (fun _ _ _ => rfl) hval hW (by have := hc _ rfl; exact of_decide_eq_true this) (err hL)
theorem facts : Go.Kx.rowFacts Tryz.checked.prog 3 Tryz.f3 Rows.fnCutAlterClientQuotasRequestSpec Rows.fnCutAlterClientQuotasRequestUptoRow = true := by kernel_rfl
theorem joined : joinedFacts Tryz.checked.prog 3 Tryz.f3 Rows.fnCutAlterClientQuotasRequestSpec Rows.fnCutAlterClientQuotasRequestUptoRow = true :=
  Go.Kx.joined_of facts factLaid factMaps factStops factKnobs factHeard factEnter factLifts factMake
set_option maxRecDepth 100000 in
theorem over : Rows.fnCutAlterClientQuotasRequestUptoRow.holds Tryz.pinned (Rows.OpenSpec.upto Rows.fnCutAlterClientQuotasRequestSpec) :=
  OpenClaim.holds_of_cond 3 Tryz.f3 rfl rfl rfl rfl rfl rfl rfl ⟨rfl, rfl, rfl, rfl, rfl⟩ rfl rfl rfl rfl rfl (by kernel_rfl) Tryz.func3 joined
    (of_decide_eq_true (by kernel_rfl)) (by unfold Func.isWrapper; first | (rw [if_pos (by decide +kernel)]; kernel_rfl) | (rw [if_neg (by decide +kernel)]; exact ⟨rfl, rfl⟩))
    (fun os started H enc _ F => by rw [OpenClaim.pre_eq_preRow]; exact lifted os started H enc F)
theorem plain (f : FuncId) (fn : Func) (hf : Tryz.pinned.checked.prog.funcNamed "pub-kmsg/laws.FnCutAlterClientQuotasRequest" = some f) (hfn : Tryz.pinned.checked.prog.funcs[f]? = some fn) :
    false = Tryz.pinned.checked.prog.looks [] ∧ ∀ (j : Nat) t, fn.params[j]? = some t → Tryz.pinned.checked.prog.wantsStandIn t = false := by
  obtain rfl : f = 3 := Option.some.inj ((show Tryz.prog.funcNamed "pub-kmsg/laws.FnCutAlterClientQuotasRequest" = some 3 by kernel_rfl).symm.trans hf) |>.symm
  obtain rfl : fn = Tryz.f3 := (Option.some.inj (Tryz.func3.symm.trans hfn)).symm
  refine ⟨by kernel_rfl, fun j t ht => ?_⟩
  rw [Tryz.params3] at ht
  have hm : t ∈ [5, 26, 27] := by simpa using Array.mem_of_getElem? ht
  have hall : ([5, 26, 27].all fun u => !Tryz.prog.wantsStandIn u) = true := by kernel_rfl
  exact (show Tryz.prog.wantsStandIn t = false by simpa using List.all_eq_true.1 hall t hm)
end Go.Proofs.YtffglmphlpofbaaGreatDoor.fnCutAlterClientQuotasRequest
namespace Go.Proofs.YtffglmphlpofbaaGreatDoor
/-- The card. -/
theorem fnCutAlterClientQuotasRequest_holds : Rows.FnCutAlterClientQuotasRequestUptoCardSaid :=
  Claim7.holds_tied_plain_at .later [] _ _ _ _ fnCutAlterClientQuotasRequest.over (fun _ h => by cases h) (by kernel_rfl) (fun _ h => by cases h) fnCutAlterClientQuotasRequestUpto_row_tie rfl ⟨rfl, rfl⟩ (by kernel_rfl) rfl fnCutAlterClientQuotasRequest.plain (by kernel_rfl)
#print axioms fnCutAlterClientQuotasRequest_holds
end Go.Proofs.YtffglmphlpofbaaGreatDoor
