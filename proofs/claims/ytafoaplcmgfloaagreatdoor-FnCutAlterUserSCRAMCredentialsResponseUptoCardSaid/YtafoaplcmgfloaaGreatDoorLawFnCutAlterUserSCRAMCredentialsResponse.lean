/- The law FnCutAlterUserSCRAMCredentialsResponse: a AlterUserSCRAMCredentialsResponse that ends ahead of its end is an error; of inputs of bulk at most 1048576. The card: tied to the program's text. No condition but the row's own. -/
import Derived.Test.YtafoaplcmgfloaaGreatDoorCards
import Derived.Test.YtafoaplcmgfloaaGreatDoorTie
import Derived.Test.YtafoaplcmgfloaaGreatDoorSeatD
import Derived.Test.YtafoaplcmgfloaaGreatDoorFactA
import Derived.Test.YtafoaplcmgfloaaGreatDoorFactB
import Derived.Test.YtafoaplcmgfloaaGreatDoorFactC
import Derived.Test.YtafoaplcmgfloaaGreatDoorFactD
import Derived.ProofKit
import Derived.SevenTiedAt
namespace Go.Proofs.YtafoaplcmgfloaaGreatDoor.fnCutAlterUserSCRAMCredentialsResponse
open Go.ChangeShapes Go.WideShapes Go.ChangeAt Go.RowKit
set_option linter.unusedVariables false
open Go.Kx in
def rl : RL0 := { f := 9, fMax := 33, fSpec := 34, fAgain := 35, fPtr := 75, fDef := 129, fMv := 76, fSet := 78, fAp := 80, fRd := 79, fRF := 130, tErr := 51, most := 0, L := 14, N := 109, LR := 21, NR := 111, pl := { T := 145, fl := some 0, tg := (some (3, 3)), fs := (.cons .always 1 1 0 (.prim .i32 21) (.cons .always 2 2 0 (.arr none 143 148 (.struct 148 4 172 (some (3, 3)) (.cons .always 0 0 0 (.prim .str 9) (.cons .always 1 1 0 (.prim .i16 42) (.cons .always 2 2 0 (.prim .nstr 73) .nil))))) .nil)) }, zs := [.int .i16 0, .int .i32 0, .nslice, .nmap], df := .nil, sx := (.cons (.mk [(0, 3), (2, -1), (3, -1), (4, -1)] 0 .nil) (.cons (.mk [(0, 11), (2, -1), (3, -1), (4, -1), (6, 10)] 77 (.cons (.mk [(0, 8), (2, -1), (3, -1), (4, -1)] 0 .nil) (.cons (.mk [(0, 2), (2, -1), (3, -1), (4, -1)] 0 .nil) (.cons (.mk [(0, 8), (2, -1), (3, 0), (4, -1)] 0 .nil) .nil)))) .nil)), flex := 0 }
theorem msgOk : (Go.Kx.msgB Tryz.prog seatK seatG seatS seatR seatTG rl).all id = true := by kernel_rfl
theorem specOk : (Go.Kx.specB Tryz.prog seatS rl).all id = true := by kernel_rfl
theorem lawOk : Go.Kx.isFn Tryz.prog rl.f (Go.Kx.cLawCut seatS seatZ.f2 rl.fMax rl.fSpec rl.fAgain) 56 6 = true := by kernel_rfl
theorem reads (os : Os) {H : Type} (enc : TypeId × Value → H) : ∃ places, DataW.whole enc Tryz.prog ((laidWorld os).forCall (fun _ _ => 0) ⟨#[], #[.int .u8 0, .agg #[.int .i64 0, .slice none 0 0, .bool false, .slice none 0 0, .slice none 0 0], .int .u16 0], []⟩).memory Tryz.f9.params.toList Rows.fnCutAlterUserSCRAMCredentialsResponseSpec.vars false (#[.int .u8 0, .agg #[.int .i64 0, .slice none 0 0, .bool false, .slice none 0 0, .slice none 0 0], .int .u16 0] : Array Value).toList 8 = some ([.lit (.int .u8 0), .agg [.lit (.int .i64 0), .nil, .lit (.bool false), .nil, .nil], .lit (.int .u16 0)], [], places) :=
  ⟨[], by kernel_rfl⟩
set_option maxRecDepth 100000 in
theorem lifted (os : Os) (started : os.Started) (H : Type) (enc : TypeId × Value → H) (F : Stop.Interp) :
    ReturnsInHanded {} Tryz.checked os 9 .any ((Rows.OpenSpec.upto Rows.fnCutAlterUserSCRAMCredentialsResponseSpec).preRow enc Tryz.prog Tryz.f9 Rows.fnCutAlterUserSCRAMCredentialsResponseUptoRow.domain false Rows.fnCutAlterUserSCRAMCredentialsResponseUptoRow.laid) (((Rows.OpenSpec.upto Rows.fnCutAlterUserSCRAMCredentialsResponseSpec).at F).post enc Tryz.prog Tryz.f9 false true false false) := by
  obtain ⟨places, hx⟩ := reads os enc
  refine returnsInHanded_of_row (C := Tryz.checked) (s := Rows.OpenSpec.upto Rows.fnCutAlterUserSCRAMCredentialsResponseSpec) own started (by kernel_rfl) Tryz.func9
    (witness_row_at (enc := enc) (C := Tryz.checked) false (laidWorld os) #[.int .u8 0, .agg #[.int .i64 0, .slice none 0 0, .bool false, .slice none 0 0, .slice none 0 0], .int .u16 0] rfl (by kernel_rfl) (by kernel_rfl) (by kernel_rfl)
      (OpenSpec.preRow_of_cond 8 hx (by kernel_rfl) (fun k hk => by cases hk; kernel_rfl) (by kernel_rfl) (laid_met os _))) ?_
  intro W base args ds gs before hval hW _ hc _ hL _ _
  exact Go.Kx.cut_row seat2 tree rl msgOk specOk lawOk (by kernel_rfl) (by kernel_rfl) (fn := Tryz.f9) (s := Rows.fnCutAlterUserSCRAMCredentialsResponseSpec) (bulkOk H) (by kernel_rfl) Tryz.params9 (by kernel_rfl) rfl factLaid (by kernel_rfl) (fun _ _ _ => rfl) hval hW (by have := hc _ rfl; exact of_decide_eq_true this) (err hL)
theorem facts : Go.Kx.rowFacts Tryz.checked.prog 9 Tryz.f9 Rows.fnCutAlterUserSCRAMCredentialsResponseSpec Rows.fnCutAlterUserSCRAMCredentialsResponseUptoRow = true := by kernel_rfl
theorem joined : joinedFacts Tryz.checked.prog 9 Tryz.f9 Rows.fnCutAlterUserSCRAMCredentialsResponseSpec Rows.fnCutAlterUserSCRAMCredentialsResponseUptoRow = true :=
  Go.Kx.joined_of facts factLaid factMaps factStops factKnobs factHeard factEnter factLifts factMake
set_option maxRecDepth 100000 in
theorem over : Rows.fnCutAlterUserSCRAMCredentialsResponseUptoRow.holds Tryz.pinned (Rows.OpenSpec.upto Rows.fnCutAlterUserSCRAMCredentialsResponseSpec) :=
  OpenClaim.holds_of_cond 9 Tryz.f9 rfl rfl rfl rfl rfl rfl rfl ⟨rfl, rfl, rfl, rfl, rfl⟩ rfl rfl rfl rfl rfl (by kernel_rfl) Tryz.func9 joined
    (of_decide_eq_true (by kernel_rfl)) (by unfold Func.isWrapper; first | (rw [if_pos (by decide +kernel)]; kernel_rfl) | (rw [if_neg (by decide +kernel)]; exact ⟨rfl, rfl⟩))
    (fun os started H enc _ F => by rw [OpenClaim.pre_eq_preRow]; exact lifted os started H enc F)
theorem plain (f : FuncId) (fn : Func) (hf : Tryz.pinned.checked.prog.funcNamed "pub-kmsg/laws.FnCutAlterUserSCRAMCredentialsResponse" = some f) (hfn : Tryz.pinned.checked.prog.funcs[f]? = some fn) :
    false = Tryz.pinned.checked.prog.looks [] ∧ ∀ (j : Nat) t, fn.params[j]? = some t → Tryz.pinned.checked.prog.wantsStandIn t = false := by
  obtain rfl : f = 9 := Option.some.inj ((show Tryz.prog.funcNamed "pub-kmsg/laws.FnCutAlterUserSCRAMCredentialsResponse" = some 9 by kernel_rfl).symm.trans hf) |>.symm
  obtain rfl : fn = Tryz.f9 := (Option.some.inj (Tryz.func9.symm.trans hfn)).symm
  refine ⟨by kernel_rfl, fun j t ht => ?_⟩
  rw [Tryz.params9] at ht
  have hm : t ∈ [5, 26, 27] := by simpa using Array.mem_of_getElem? ht
  have hall : ([5, 26, 27].all fun u => !Tryz.prog.wantsStandIn u) = true := by kernel_rfl
  exact (show Tryz.prog.wantsStandIn t = false by simpa using List.all_eq_true.1 hall t hm)
end Go.Proofs.YtafoaplcmgfloaaGreatDoor.fnCutAlterUserSCRAMCredentialsResponse
namespace Go.Proofs.YtafoaplcmgfloaaGreatDoor
/-- The card. -/
theorem fnCutAlterUserSCRAMCredentialsResponse_holds : Rows.FnCutAlterUserSCRAMCredentialsResponseUptoCardSaid :=
  Claim7.holds_tied_plain_at .later [] _ _ _ _ fnCutAlterUserSCRAMCredentialsResponse.over (fun _ h => by cases h) (by kernel_rfl) (fun _ h => by cases h) fnCutAlterUserSCRAMCredentialsResponseUpto_row_tie rfl ⟨rfl, rfl⟩ (by kernel_rfl) rfl fnCutAlterUserSCRAMCredentialsResponse.plain (by kernel_rfl)
#print axioms fnCutAlterUserSCRAMCredentialsResponse_holds
end Go.Proofs.YtafoaplcmgfloaaGreatDoor
