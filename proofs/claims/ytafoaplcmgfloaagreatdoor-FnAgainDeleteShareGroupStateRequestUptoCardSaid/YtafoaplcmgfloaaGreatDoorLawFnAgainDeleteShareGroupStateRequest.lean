/- The law FnAgainDeleteShareGroupStateRequest: whatever a DeleteShareGroupStateRequest says is read, and written back byte by byte; of inputs of bulk at most 1048576. The card: tied to the program's text. No condition but the row's own. -/
import Derived.Test.YtafoaplcmgfloaaGreatDoorCards
import Derived.Test.YtafoaplcmgfloaaGreatDoorTie
import Derived.Test.YtafoaplcmgfloaaGreatDoorSeatD
import Derived.Test.YtafoaplcmgfloaaGreatDoorFactA
import Derived.Test.YtafoaplcmgfloaaGreatDoorFactB
import Derived.Test.YtafoaplcmgfloaaGreatDoorFactC
import Derived.Test.YtafoaplcmgfloaaGreatDoorFactD
import Derived.ProofKit
import Derived.SevenTiedAt
namespace Go.Proofs.YtafoaplcmgfloaaGreatDoor.fnAgainDeleteShareGroupStateRequest
open Go.ChangeShapes Go.WideShapes Go.ChangeAt Go.RowKit
set_option linter.unusedVariables false
open Go.Kx in
def rl : RL0 := { f := 6, fMax := 24, fSpec := 25, fAgain := 26, fPtr := 57, fDef := 118, fMv := 58, fSet := 60, fAp := 62, fRd := 61, fRF := 120, tErr := 51, most := 0, L := 16, N := 136, LR := 26, NR := 144, pl := { T := 116, fl := some 0, tg := (some (3, 3)), fs := (.cons .always 1 1 0 (.prim .str 9) (.cons .always 2 2 0 (.arr none 114 121 (.struct 121 18 166 (some (2, 17)) (.cons .always 0 0 0 (.prim .uuid 118) (.cons .always 1 16 0 (.arr none 119 125 (.struct 125 2 168 (some (1, 1)) (.cons .always 0 0 0 (.prim .i32 21) .nil))) .nil)))) .nil)) }, zs := [.int .i16 0, .estr, .nslice, .nmap], df := .nil, sx := (.cons (.mk [(0, 8), (2, -1), (3, -1), (4, -1)] 0 .nil) (.cons (.mk [(0, 11), (2, -1), (3, -1), (4, -1), (6, 10)] 59 (.cons (.mk [(0, 7), (2, -1), (3, -1), (4, -1)] 0 .nil) (.cons (.mk [(0, 11), (2, -1), (3, -1), (4, -1), (6, 10)] 119 (.cons (.mk [(0, 3), (2, -1), (3, -1), (4, -1)] 0 .nil) .nil)) .nil))) .nil)), flex := 0 }
theorem msgOk : (Go.Kx.msgB Tryz.prog seatK seatG seatS seatR seatTG rl).all id = true := by kernel_rfl
theorem specOk : (Go.Kx.specB Tryz.prog seatS rl).all id = true := by kernel_rfl
theorem lawOk : Go.Kx.isFn Tryz.prog rl.f (Go.Kx.cLawAgain seatS seatZ.f2 rl.fMax rl.fSpec rl.fAgain) 35 4 = true := by kernel_rfl
theorem reads (os : Os) {H : Type} (enc : TypeId × Value → H) : ∃ places, DataW.whole enc Tryz.prog ((laidWorld os).forCall (fun _ _ => 0) ⟨#[], #[.int .u8 0, .agg #[.int .i64 0, .slice none 0 0, .bool false, .slice none 0 0, .slice none 0 0]], []⟩).memory Tryz.f6.params.toList Rows.fnAgainDeleteShareGroupStateRequestSpec.vars false (#[.int .u8 0, .agg #[.int .i64 0, .slice none 0 0, .bool false, .slice none 0 0, .slice none 0 0]] : Array Value).toList 8 = some ([.lit (.int .u8 0), .agg [.lit (.int .i64 0), .nil, .lit (.bool false), .nil, .nil]], [], places) :=
  ⟨[], by kernel_rfl⟩
set_option maxRecDepth 100000 in
theorem lifted (os : Os) (started : os.Started) (H : Type) (enc : TypeId × Value → H) (F : Stop.Interp) :
    ReturnsInHanded {} Tryz.checked os 6 .any ((Rows.OpenSpec.upto Rows.fnAgainDeleteShareGroupStateRequestSpec).preRow enc Tryz.prog Tryz.f6 Rows.fnAgainDeleteShareGroupStateRequestUptoRow.domain false Rows.fnAgainDeleteShareGroupStateRequestUptoRow.laid) (((Rows.OpenSpec.upto Rows.fnAgainDeleteShareGroupStateRequestSpec).at F).post enc Tryz.prog Tryz.f6 false true false false) := by
  obtain ⟨places, hx⟩ := reads os enc
  refine returnsInHanded_of_row (C := Tryz.checked) (s := Rows.OpenSpec.upto Rows.fnAgainDeleteShareGroupStateRequestSpec) own started (by kernel_rfl) Tryz.func6
    (witness_row_at (enc := enc) (C := Tryz.checked) false (laidWorld os) #[.int .u8 0, .agg #[.int .i64 0, .slice none 0 0, .bool false, .slice none 0 0, .slice none 0 0]] rfl (by kernel_rfl) (by kernel_rfl) (by kernel_rfl)
      (OpenSpec.preRow_of_cond 8 hx (by kernel_rfl) (fun k hk => by cases hk; kernel_rfl) (by kernel_rfl) (laid_met os _))) ?_
  intro W base args ds gs before hval hW _ hc _ hL _ _
  exact Go.Kx.again_row seat2 tree rl msgOk specOk lawOk (by kernel_rfl) (fn := Tryz.f6) (s := Rows.fnAgainDeleteShareGroupStateRequestSpec) (bulkOk H) Tryz.params6 (by kernel_rfl) rfl factLaid (by kernel_rfl) (fun _ _ => rfl) hval hW (by have := hc _ rfl; exact of_decide_eq_true this) (err hL)
theorem facts : Go.Kx.rowFacts Tryz.checked.prog 6 Tryz.f6 Rows.fnAgainDeleteShareGroupStateRequestSpec Rows.fnAgainDeleteShareGroupStateRequestUptoRow = true := by kernel_rfl
theorem joined : joinedFacts Tryz.checked.prog 6 Tryz.f6 Rows.fnAgainDeleteShareGroupStateRequestSpec Rows.fnAgainDeleteShareGroupStateRequestUptoRow = true :=
  Go.Kx.joined_of facts factLaid factMaps factStops factKnobs factHeard factEnter factLifts factMake
set_option maxRecDepth 100000 in
theorem over : Rows.fnAgainDeleteShareGroupStateRequestUptoRow.holds Tryz.pinned (Rows.OpenSpec.upto Rows.fnAgainDeleteShareGroupStateRequestSpec) :=
  OpenClaim.holds_of_cond 6 Tryz.f6 rfl rfl rfl rfl rfl rfl rfl ⟨rfl, rfl, rfl, rfl, rfl⟩ rfl rfl rfl rfl rfl (by kernel_rfl) Tryz.func6 joined
    (of_decide_eq_true (by kernel_rfl)) (by unfold Func.isWrapper; first | (rw [if_pos (by decide +kernel)]; kernel_rfl) | (rw [if_neg (by decide +kernel)]; exact ⟨rfl, rfl⟩))
    (fun os started H enc _ F => by rw [OpenClaim.pre_eq_preRow]; exact lifted os started H enc F)
theorem plain (f : FuncId) (fn : Func) (hf : Tryz.pinned.checked.prog.funcNamed "pub-kmsg/laws.FnAgainDeleteShareGroupStateRequest" = some f) (hfn : Tryz.pinned.checked.prog.funcs[f]? = some fn) :
    false = Tryz.pinned.checked.prog.looks [] ∧ ∀ (j : Nat) t, fn.params[j]? = some t → Tryz.pinned.checked.prog.wantsStandIn t = false := by
  obtain rfl : f = 6 := Option.some.inj ((show Tryz.prog.funcNamed "pub-kmsg/laws.FnAgainDeleteShareGroupStateRequest" = some 6 by kernel_rfl).symm.trans hf) |>.symm
  obtain rfl : fn = Tryz.f6 := (Option.some.inj (Tryz.func6.symm.trans hfn)).symm
  refine ⟨by kernel_rfl, fun j t ht => ?_⟩
  rw [Tryz.params6] at ht
  have hm : t ∈ [5, 26] := by simpa using Array.mem_of_getElem? ht
  have hall : ([5, 26].all fun u => !Tryz.prog.wantsStandIn u) = true := by kernel_rfl
  exact (show Tryz.prog.wantsStandIn t = false by simpa using List.all_eq_true.1 hall t hm)
end Go.Proofs.YtafoaplcmgfloaaGreatDoor.fnAgainDeleteShareGroupStateRequest
namespace Go.Proofs.YtafoaplcmgfloaaGreatDoor
/-- The card. -/
theorem fnAgainDeleteShareGroupStateRequest_holds : Rows.FnAgainDeleteShareGroupStateRequestUptoCardSaid :=
  Claim7.holds_tied_plain_at .later [] _ _ _ _ fnAgainDeleteShareGroupStateRequest.over (fun _ h => by cases h) (by kernel_rfl) (fun _ h => by cases h) fnAgainDeleteShareGroupStateRequestUpto_row_tie rfl ⟨rfl, rfl⟩ (by kernel_rfl) rfl fnAgainDeleteShareGroupStateRequest.plain (by kernel_rfl)
#print axioms fnAgainDeleteShareGroupStateRequest_holds
end Go.Proofs.YtafoaplcmgfloaaGreatDoor
