/- The law FnAgainDefaultPrincipalData: whatever a DefaultPrincipalData says is read, and written back byte by byte; of inputs of bulk at most 1048576. The card: tied to the program's text. No condition but the row's own. -/
import Derived.Test.YtcpnjbbcbhbmcaaDoorCards
import Derived.Test.YtcpnjbbcbhbmcaaDoorTie
import Derived.Test.YtcpnjbbcbhbmcaaDoorSeatD
import Derived.Test.YtcpnjbbcbhbmcaaDoorFactA
import Derived.Test.YtcpnjbbcbhbmcaaDoorFactB
import Derived.Test.YtcpnjbbcbhbmcaaDoorFactC
import Derived.Test.YtcpnjbbcbhbmcaaDoorFactD
import Derived.ProofKit
import Derived.SevenTiedAt
namespace Go.Proofs.YtcpnjbbcbhbmcaaDoor.fnAgainDefaultPrincipalData
open Go.ChangeShapes Go.WideShapes Go.ChangeAt Go.RowKit
set_option linter.unusedVariables false
open Go.Kx in
def rl : RL0 := { f := 4, fMax := 13, fSpec := 14, fAgain := 15, fPtr := 26, fDef := 51, fMv := 0, fSet := 0, fAp := 28, fRd := 27, fRF := 52, tErr := 51, most := 0, L := 11, N := 70, LR := 14, NR := 64, pl := { T := 59, fl := some 0, tg := (some (4, 4)), fs := (.cons .always 1 1 0 (.prim .str 9) (.cons .always 2 2 0 (.prim .str 9) (.cons .always 3 3 0 (.prim .bool 4) .nil))) }, zs := [.int .i16 0, .estr, .estr, .bool false, .nmap], df := .nil, sx := (.cons (.mk [(0, 8), (2, -1), (3, -1), (4, -1)] 0 .nil) (.cons (.mk [(0, 8), (2, -1), (3, -1), (4, -1)] 0 .nil) (.cons (.mk [(0, 0), (2, -1), (3, -1), (4, -1)] 0 .nil) .nil))), flex := 0 }
theorem msgOk : (Go.Kx.msgKB Tryd.prog seatK seatG seatS seatR seatTG rl).all id = true := by kernel_rfl
theorem specOk : (Go.Kx.specB Tryd.prog seatS rl).all id = true := by kernel_rfl
theorem lawOk : Go.Kx.isFn Tryd.prog rl.f (Go.Kx.cLawAgainK seatS seatZ.f2 rl.fSpec rl.fMax rl.fAgain rl.most) 28 4 = true := by kernel_rfl
theorem reads (os : Os) {H : Type} (enc : TypeId × Value → H) : ∃ places, DataW.whole enc Tryd.prog ((laidWorld os).forCall (fun _ _ => 0) ⟨#[], #[.int .u8 0, .agg #[.int .i64 0, .slice none 0 0, .bool false, .slice none 0 0, .slice none 0 0]], []⟩).memory Tryd.f4.params.toList Rows.fnAgainDefaultPrincipalDataSpec.vars false (#[.int .u8 0, .agg #[.int .i64 0, .slice none 0 0, .bool false, .slice none 0 0, .slice none 0 0]] : Array Value).toList 8 = some ([.lit (.int .u8 0), .agg [.lit (.int .i64 0), .nil, .lit (.bool false), .nil, .nil]], [], places) :=
  ⟨[], by kernel_rfl⟩
set_option maxRecDepth 100000 in
theorem lifted (os : Os) (started : os.Started) (H : Type) (enc : TypeId × Value → H) (F : Stop.Interp) :
    ReturnsInHanded {} Tryd.checked os 4 .any ((Rows.OpenSpec.upto Rows.fnAgainDefaultPrincipalDataSpec).preRow enc Tryd.prog Tryd.f4 Rows.fnAgainDefaultPrincipalDataUptoRow.domain false Rows.fnAgainDefaultPrincipalDataUptoRow.laid) (((Rows.OpenSpec.upto Rows.fnAgainDefaultPrincipalDataSpec).at F).post enc Tryd.prog Tryd.f4 false true false false) := by
  obtain ⟨places, hx⟩ := reads os enc
  refine returnsInHanded_of_row (C := Tryd.checked) (s := Rows.OpenSpec.upto Rows.fnAgainDefaultPrincipalDataSpec) own started (by kernel_rfl) Tryd.func4
    (witness_row_at (enc := enc) (C := Tryd.checked) false (laidWorld os) #[.int .u8 0, .agg #[.int .i64 0, .slice none 0 0, .bool false, .slice none 0 0, .slice none 0 0]] rfl (by kernel_rfl) (by kernel_rfl) (by kernel_rfl)
      (OpenSpec.preRow_of_cond 8 hx (by kernel_rfl) (fun k hk => by cases hk; kernel_rfl) (by kernel_rfl) (laid_met os _))) ?_
  intro W base args ds gs before hval hW _ hc _ hL _ _
  exact Go.Kx.again_rowK seat2 tree rl msgOk specOk (by kernel_rfl) lawOk (by kernel_rfl) (fn := Tryd.f4) (s := Rows.fnAgainDefaultPrincipalDataSpec) (bulkOk H) Tryd.params4 (by kernel_rfl) rfl factLaid (by kernel_rfl) (fun _ _ => rfl) hval hW (by have := hc _ rfl; exact of_decide_eq_true this) (err hL)
theorem facts : Go.Kx.rowFacts Tryd.checked.prog 4 Tryd.f4 Rows.fnAgainDefaultPrincipalDataSpec Rows.fnAgainDefaultPrincipalDataUptoRow = true := by kernel_rfl
theorem joined : joinedFacts Tryd.checked.prog 4 Tryd.f4 Rows.fnAgainDefaultPrincipalDataSpec Rows.fnAgainDefaultPrincipalDataUptoRow = true :=
  Go.Kx.joined_of facts factLaid factMaps factStops factKnobs factHeard factEnter factLifts factMake
set_option maxRecDepth 100000 in
theorem over : Rows.fnAgainDefaultPrincipalDataUptoRow.holds Tryd.pinned (Rows.OpenSpec.upto Rows.fnAgainDefaultPrincipalDataSpec) :=
  OpenClaim.holds_of_cond 4 Tryd.f4 rfl rfl rfl rfl rfl rfl rfl ⟨rfl, rfl, rfl, rfl, rfl⟩ rfl rfl rfl rfl rfl (by kernel_rfl) Tryd.func4 joined
    (of_decide_eq_true (by kernel_rfl)) (by unfold Func.isWrapper; first | (rw [if_pos (by decide +kernel)]; kernel_rfl) | (rw [if_neg (by decide +kernel)]; exact ⟨rfl, rfl⟩))
    (fun os started H enc _ F => by rw [OpenClaim.pre_eq_preRow]; exact lifted os started H enc F)
theorem plain (f : FuncId) (fn : Func) (hf : Tryd.pinned.checked.prog.funcNamed "pub-kmsg/laws.FnAgainDefaultPrincipalData" = some f) (hfn : Tryd.pinned.checked.prog.funcs[f]? = some fn) :
    false = Tryd.pinned.checked.prog.looks [] ∧ ∀ (j : Nat) t, fn.params[j]? = some t → Tryd.pinned.checked.prog.wantsStandIn t = false := by
  obtain rfl : f = 4 := Option.some.inj ((show Tryd.prog.funcNamed "pub-kmsg/laws.FnAgainDefaultPrincipalData" = some 4 by kernel_rfl).symm.trans hf) |>.symm
  obtain rfl : fn = Tryd.f4 := (Option.some.inj (Tryd.func4.symm.trans hfn)).symm
  refine ⟨by kernel_rfl, fun j t ht => ?_⟩
  rw [Tryd.params4] at ht
  have hm : t ∈ [5, 26] := by simpa using Array.mem_of_getElem? ht
  have hall : ([5, 26].all fun u => !Tryd.prog.wantsStandIn u) = true := by kernel_rfl
  exact (show Tryd.prog.wantsStandIn t = false by simpa using List.all_eq_true.1 hall t hm)
end Go.Proofs.YtcpnjbbcbhbmcaaDoor.fnAgainDefaultPrincipalData
namespace Go.Proofs.YtcpnjbbcbhbmcaaDoor
/-- The card. -/
theorem fnAgainDefaultPrincipalData_holds : Rows.FnAgainDefaultPrincipalDataUptoCardSaid :=
  Claim7.holds_tied_plain_at .later [] _ _ _ _ fnAgainDefaultPrincipalData.over (fun _ h => by cases h) (by kernel_rfl) (fun _ h => by cases h) fnAgainDefaultPrincipalDataUpto_row_tie rfl ⟨rfl, rfl⟩ (by kernel_rfl) rfl fnAgainDefaultPrincipalData.plain (by kernel_rfl)
#print axioms fnAgainDefaultPrincipalData_holds
end Go.Proofs.YtcpnjbbcbhbmcaaDoor
