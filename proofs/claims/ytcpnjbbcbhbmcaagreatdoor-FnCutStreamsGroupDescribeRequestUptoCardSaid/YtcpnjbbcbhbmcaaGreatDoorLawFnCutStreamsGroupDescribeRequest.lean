/- The law FnCutStreamsGroupDescribeRequest: a StreamsGroupDescribeRequest that ends ahead of its end is an error; of inputs of bulk at most 1048576. The card: tied to the program's text. No condition but the row's own. -/
import Derived.Test.YtcpnjbbcbhbmcaaGreatDoorCards
import Derived.Test.YtcpnjbbcbhbmcaaGreatDoorTie
import Derived.Test.YtcpnjbbcbhbmcaaGreatDoorSeatD
import Derived.Test.YtcpnjbbcbhbmcaaGreatDoorFactA
import Derived.Test.YtcpnjbbcbhbmcaaGreatDoorFactB
import Derived.Test.YtcpnjbbcbhbmcaaGreatDoorFactC
import Derived.Test.YtcpnjbbcbhbmcaaGreatDoorFactD
import Derived.ProofKit
import Derived.SevenTiedAt
namespace Go.Proofs.YtcpnjbbcbhbmcaaGreatDoor.fnCutStreamsGroupDescribeRequest
open Go.ChangeShapes Go.WideShapes Go.ChangeAt Go.RowKit
set_option linter.unusedVariables false
open Go.Kx in
def rl : RL0 := { f := 7, fMax := 24, fSpec := 25, fAgain := 26, fPtr := 49, fDef := 83, fMv := 50, fSet := 51, fAp := 53, fRd := 52, fRF := 84, tErr := 51, most := 1, L := 12, N := 81, LR := 18, NR := 88, pl := { T := 95, fl := some 0, tg := (some (4, 4)), fs := (.cons .always 1 1 0 (.arr none 86 9 (.prim .str 9)) (.cons .always 2 2 0 (.prim .bool 4) (.cons (.ge 1) 3 3 0 (.prim .bool 4) .nil))) }, zs := [.int .i16 0, .nslice, .bool false, .bool false, .nmap], df := .nil, sx := (.cons (.mk [(0, 11), (2, -1), (3, -1), (4, -1), (6, 8)] 0 .nil) (.cons (.mk [(0, 0), (2, -1), (3, -1), (4, -1)] 0 .nil) (.cons (.mk [(0, 0), (1, 1), (2, -1), (3, -1), (4, -1)] 0 .nil) .nil))), flex := 0 }
theorem msgOk : (Go.Kx.msgB Tryz.prog seatK seatG seatS seatR seatTG rl).all id = true := by kernel_rfl
theorem specOk : (Go.Kx.specB Tryz.prog seatS rl).all id = true := by kernel_rfl
theorem lawOk : Go.Kx.isFn Tryz.prog rl.f (Go.Kx.cLawCut seatS seatZ.f2 rl.fMax rl.fSpec rl.fAgain) 56 6 = true := by kernel_rfl
theorem reads (os : Os) {H : Type} (enc : TypeId × Value → H) : ∃ places, DataW.whole enc Tryz.prog ((laidWorld os).forCall (fun _ _ => 0) ⟨#[], #[.int .u8 0, .agg #[.int .i64 0, .slice none 0 0, .bool false, .slice none 0 0, .slice none 0 0], .int .u16 0], []⟩).memory Tryz.f7.params.toList Rows.fnCutStreamsGroupDescribeRequestSpec.vars false (#[.int .u8 0, .agg #[.int .i64 0, .slice none 0 0, .bool false, .slice none 0 0, .slice none 0 0], .int .u16 0] : Array Value).toList 8 = some ([.lit (.int .u8 0), .agg [.lit (.int .i64 0), .nil, .lit (.bool false), .nil, .nil], .lit (.int .u16 0)], [], places) :=
  ⟨[], by kernel_rfl⟩
set_option maxRecDepth 100000 in
theorem lifted (os : Os) (started : os.Started) (H : Type) (enc : TypeId × Value → H) (F : Stop.Interp) :
    ReturnsInHanded {} Tryz.checked os 7 .any ((Rows.OpenSpec.upto Rows.fnCutStreamsGroupDescribeRequestSpec).preRow enc Tryz.prog Tryz.f7 Rows.fnCutStreamsGroupDescribeRequestUptoRow.domain false Rows.fnCutStreamsGroupDescribeRequestUptoRow.laid) (((Rows.OpenSpec.upto Rows.fnCutStreamsGroupDescribeRequestSpec).at F).post enc Tryz.prog Tryz.f7 false true false false) := by
  obtain ⟨places, hx⟩ := reads os enc
  refine returnsInHanded_of_row (C := Tryz.checked) (s := Rows.OpenSpec.upto Rows.fnCutStreamsGroupDescribeRequestSpec) own started (by kernel_rfl) Tryz.func7
    (witness_row_at (enc := enc) (C := Tryz.checked) false (laidWorld os) #[.int .u8 0, .agg #[.int .i64 0, .slice none 0 0, .bool false, .slice none 0 0, .slice none 0 0], .int .u16 0] rfl (by kernel_rfl) (by kernel_rfl) (by kernel_rfl)
      (OpenSpec.preRow_of_cond 8 hx (by kernel_rfl) (fun k hk => by cases hk; kernel_rfl) (by kernel_rfl) (laid_met os _))) ?_
  intro W base args ds gs before hval hW _ hc _ hL _ _
  exact Go.Kx.cut_row seat2 tree rl msgOk specOk lawOk (by kernel_rfl) (by kernel_rfl) (fn := Tryz.f7) (s := Rows.fnCutStreamsGroupDescribeRequestSpec) (bulkOk H) (by kernel_rfl) Tryz.params7 (by kernel_rfl) rfl factLaid (by kernel_rfl) (fun _ _ _ => rfl) hval hW (by have := hc _ rfl; exact of_decide_eq_true this) (err hL)
theorem facts : Go.Kx.rowFacts Tryz.checked.prog 7 Tryz.f7 Rows.fnCutStreamsGroupDescribeRequestSpec Rows.fnCutStreamsGroupDescribeRequestUptoRow = true := by kernel_rfl
theorem joined : joinedFacts Tryz.checked.prog 7 Tryz.f7 Rows.fnCutStreamsGroupDescribeRequestSpec Rows.fnCutStreamsGroupDescribeRequestUptoRow = true :=
  Go.Kx.joined_of facts factLaid factMaps factStops factKnobs factHeard factEnter factLifts factMake
set_option maxRecDepth 100000 in
theorem over : Rows.fnCutStreamsGroupDescribeRequestUptoRow.holds Tryz.pinned (Rows.OpenSpec.upto Rows.fnCutStreamsGroupDescribeRequestSpec) :=
  OpenClaim.holds_of_cond 7 Tryz.f7 rfl rfl rfl rfl rfl rfl rfl ⟨rfl, rfl, rfl, rfl, rfl⟩ rfl rfl rfl rfl rfl (by kernel_rfl) Tryz.func7 joined
    (of_decide_eq_true (by kernel_rfl)) (by unfold Func.isWrapper; first | (rw [if_pos (by decide +kernel)]; kernel_rfl) | (rw [if_neg (by decide +kernel)]; exact ⟨rfl, rfl⟩))
    (fun os started H enc _ F => by rw [OpenClaim.pre_eq_preRow]; exact lifted os started H enc F)
theorem plain (f : FuncId) (fn : Func) (hf : Tryz.pinned.checked.prog.funcNamed "pub-kmsg/laws.FnCutStreamsGroupDescribeRequest" = some f) (hfn : Tryz.pinned.checked.prog.funcs[f]? = some fn) :
    false = Tryz.pinned.checked.prog.looks [] ∧ ∀ (j : Nat) t, fn.params[j]? = some t → Tryz.pinned.checked.prog.wantsStandIn t = false := by
  obtain rfl : f = 7 := Option.some.inj ((show Tryz.prog.funcNamed "pub-kmsg/laws.FnCutStreamsGroupDescribeRequest" = some 7 by kernel_rfl).symm.trans hf) |>.symm
  obtain rfl : fn = Tryz.f7 := (Option.some.inj (Tryz.func7.symm.trans hfn)).symm
  refine ⟨by kernel_rfl, fun j t ht => ?_⟩
  rw [Tryz.params7] at ht
  have hm : t ∈ [5, 26, 39] := by simpa using Array.mem_of_getElem? ht
  have hall : ([5, 26, 39].all fun u => !Tryz.prog.wantsStandIn u) = true := by kernel_rfl
  exact (show Tryz.prog.wantsStandIn t = false by simpa using List.all_eq_true.1 hall t hm)
end Go.Proofs.YtcpnjbbcbhbmcaaGreatDoor.fnCutStreamsGroupDescribeRequest
namespace Go.Proofs.YtcpnjbbcbhbmcaaGreatDoor
/-- The card. -/
theorem fnCutStreamsGroupDescribeRequest_holds : Rows.FnCutStreamsGroupDescribeRequestUptoCardSaid :=
  Claim7.holds_tied_plain_at .later [] _ _ _ _ fnCutStreamsGroupDescribeRequest.over (fun _ h => by cases h) (by kernel_rfl) (fun _ h => by cases h) fnCutStreamsGroupDescribeRequestUpto_row_tie rfl ⟨rfl, rfl⟩ (by kernel_rfl) rfl fnCutStreamsGroupDescribeRequest.plain (by kernel_rfl)
#print axioms fnCutStreamsGroupDescribeRequest_holds
end Go.Proofs.YtcpnjbbcbhbmcaaGreatDoor
