/- The law FnCutLeaderChangeMessage: a LeaderChangeMessage that ends ahead of its end is an error; of inputs of bulk at most 1048576. The card: tied to the program's text. No condition but the row's own. -/
import Derived.Test.YtffglmphlpofbaaDoorCards
import Derived.Test.YtffglmphlpofbaaDoorTie
import Derived.Test.YtffglmphlpofbaaDoorSeatD
import Derived.Test.YtffglmphlpofbaaDoorFactA
import Derived.Test.YtffglmphlpofbaaDoorFactB
import Derived.Test.YtffglmphlpofbaaDoorFactC
import Derived.Test.YtffglmphlpofbaaDoorFactD
import Derived.ProofKit
import Derived.SevenTiedAt
namespace Go.Proofs.YtffglmphlpofbaaDoor.fnCutLeaderChangeMessage
open Go.ChangeShapes Go.WideShapes Go.ChangeAt Go.RowKit
set_option linter.unusedVariables false
open Go.Kx in
def rl : RL0 := { f := 3, fMax := 9, fSpec := 10, fAgain := 11, fPtr := 35, fDef := 61, fMv := 0, fSet := 0, fAp := 37, fRd := 36, fRF := 62, tErr := 77, most := 1, L := 19, N := 160, LR := 28, NR := 158, pl := { T := 74, fl := some 0, tg := (some (4, 4)), fs := (.cons .always 1 1 0 (.prim .i32 21) (.cons .always 2 2 0 (.arr none 69 123 (.struct 123 18 107 (some (2, 17)) (.cons .always 0 0 0 (.prim .i32 21) (.cons (.ge 1) 1 1 0 (.prim .uuid 121) .nil)))) (.cons .always 3 3 0 (.arr none 69 123 (.struct 123 18 107 (some (2, 17)) (.cons .always 0 0 0 (.prim .i32 21) (.cons (.ge 1) 1 1 0 (.prim .uuid 121) .nil)))) .nil))) }, zs := [.int .i16 0, .int .i32 0, .nslice, .nslice, .nmap], df := .nil, sx := (.cons (.mk [(0, 3), (2, -1), (3, -1), (4, -1)] 0 .nil) (.cons (.mk [(0, 11), (2, -1), (3, -1), (4, -1), (6, 10)] 34 (.cons (.mk [(0, 3), (2, -1), (3, -1), (4, -1)] 0 .nil) (.cons (.mk [(0, 7), (1, 1), (2, -1), (3, -1), (4, -1)] 0 .nil) .nil))) (.cons (.mk [(0, 11), (2, -1), (3, -1), (4, -1), (6, 10)] 34 (.cons (.mk [(0, 3), (2, -1), (3, -1), (4, -1)] 0 .nil) (.cons (.mk [(0, 7), (1, 1), (2, -1), (3, -1), (4, -1)] 0 .nil) .nil))) .nil))), flex := 0 }
theorem msgOk : (Go.Kx.msgKB Tryd.prog seatK seatG seatS seatR seatTG rl).all id = true := by kernel_rfl
theorem specOk : (Go.Kx.specB Tryd.prog seatS rl).all id = true := by kernel_rfl
theorem lawOk : Go.Kx.isFn Tryd.prog rl.f (Go.Kx.cLawCutK seatS seatZ.f2 rl.fSpec rl.fMax rl.fAgain rl.most) 42 6 = true := by kernel_rfl
theorem reads (os : Os) {H : Type} (enc : TypeId × Value → H) : ∃ places, DataW.whole enc Tryd.prog ((laidWorld os).forCall (fun _ _ => 0) ⟨#[], #[.int .u8 0, .agg #[.int .i64 0, .slice none 0 0, .bool false, .slice none 0 0, .slice none 0 0], .int .u16 0], []⟩).memory Tryd.f3.params.toList Rows.fnCutLeaderChangeMessageSpec.vars false (#[.int .u8 0, .agg #[.int .i64 0, .slice none 0 0, .bool false, .slice none 0 0, .slice none 0 0], .int .u16 0] : Array Value).toList 8 = some ([.lit (.int .u8 0), .agg [.lit (.int .i64 0), .nil, .lit (.bool false), .nil, .nil], .lit (.int .u16 0)], [], places) :=
  ⟨[], by kernel_rfl⟩
set_option maxRecDepth 100000 in
theorem lifted (os : Os) (started : os.Started) (H : Type) (enc : TypeId × Value → H) (F : Stop.Interp) :
    ReturnsInHanded {} Tryd.checked os 3 .any ((Rows.OpenSpec.upto Rows.fnCutLeaderChangeMessageSpec).preRow enc Tryd.prog Tryd.f3 Rows.fnCutLeaderChangeMessageUptoRow.domain false Rows.fnCutLeaderChangeMessageUptoRow.laid) (((Rows.OpenSpec.upto Rows.fnCutLeaderChangeMessageSpec).at F).post enc Tryd.prog Tryd.f3 false true false false) := by
  obtain ⟨places, hx⟩ := reads os enc
  refine returnsInHanded_of_row (C := Tryd.checked) (s := Rows.OpenSpec.upto Rows.fnCutLeaderChangeMessageSpec) own started (by kernel_rfl) Tryd.func3
    (witness_row_at (enc := enc) (C := Tryd.checked) false (laidWorld os) #[.int .u8 0, .agg #[.int .i64 0, .slice none 0 0, .bool false, .slice none 0 0, .slice none 0 0], .int .u16 0] rfl (by kernel_rfl) (by kernel_rfl) (by kernel_rfl)
      (OpenSpec.preRow_of_cond 8 hx (by kernel_rfl) (fun k hk => by cases hk; kernel_rfl) (by kernel_rfl) (laid_met os _))) ?_
  intro W base args ds gs before hval hW _ hc _ hL _ _
  exact Go.Kx.cut_rowK seat2 tree rl msgOk specOk (by kernel_rfl) lawOk (by kernel_rfl) (by kernel_rfl) (fn := Tryd.f3) (s := Rows.fnCutLeaderChangeMessageSpec) (bulkOk H) (by kernel_rfl) Tryd.params3 (by kernel_rfl) rfl factLaid (by kernel_rfl) (fun _ _ _ => rfl) hval hW (by have := hc _ rfl; exact of_decide_eq_true this) (err hL)
theorem facts : Go.Kx.rowFacts Tryd.checked.prog 3 Tryd.f3 Rows.fnCutLeaderChangeMessageSpec Rows.fnCutLeaderChangeMessageUptoRow = true := by kernel_rfl
theorem joined : joinedFacts Tryd.checked.prog 3 Tryd.f3 Rows.fnCutLeaderChangeMessageSpec Rows.fnCutLeaderChangeMessageUptoRow = true :=
  Go.Kx.joined_of facts factLaid factMaps factStops factKnobs factHeard factEnter factLifts factMake
set_option maxRecDepth 100000 in
theorem over : Rows.fnCutLeaderChangeMessageUptoRow.holds Tryd.pinned (Rows.OpenSpec.upto Rows.fnCutLeaderChangeMessageSpec) :=
  OpenClaim.holds_of_cond 3 Tryd.f3 rfl rfl rfl rfl rfl rfl rfl ⟨rfl, rfl, rfl, rfl, rfl⟩ rfl rfl rfl rfl rfl (by kernel_rfl) Tryd.func3 joined
    (of_decide_eq_true (by kernel_rfl)) (by unfold Func.isWrapper; first | (rw [if_pos (by decide +kernel)]; kernel_rfl) | (rw [if_neg (by decide +kernel)]; exact ⟨rfl, rfl⟩))
    (fun os started H enc _ F => by rw [OpenClaim.pre_eq_preRow]; exact lifted os started H enc F)
theorem plain (f : FuncId) (fn : Func) (hf : Tryd.pinned.checked.prog.funcNamed "pub-kmsg/laws.FnCutLeaderChangeMessage" = some f) (hfn : Tryd.pinned.checked.prog.funcs[f]? = some fn) :
    false = Tryd.pinned.checked.prog.looks [] ∧ ∀ (j : Nat) t, fn.params[j]? = some t → Tryd.pinned.checked.prog.wantsStandIn t = false := by
  obtain rfl : f = 3 := Option.some.inj ((show Tryd.prog.funcNamed "pub-kmsg/laws.FnCutLeaderChangeMessage" = some 3 by kernel_rfl).symm.trans hf) |>.symm
  obtain rfl : fn = Tryd.f3 := (Option.some.inj (Tryd.func3.symm.trans hfn)).symm
  refine ⟨by kernel_rfl, fun j t ht => ?_⟩
  rw [Tryd.params3] at ht
  have hm : t ∈ [5, 26, 27] := by simpa using Array.mem_of_getElem? ht
  have hall : ([5, 26, 27].all fun u => !Tryd.prog.wantsStandIn u) = true := by kernel_rfl
  exact (show Tryd.prog.wantsStandIn t = false by simpa using List.all_eq_true.1 hall t hm)
end Go.Proofs.YtffglmphlpofbaaDoor.fnCutLeaderChangeMessage
namespace Go.Proofs.YtffglmphlpofbaaDoor
/-- The card. -/
theorem fnCutLeaderChangeMessage_holds : Rows.FnCutLeaderChangeMessageUptoCardSaid :=
  Claim7.holds_tied_plain_at .later [] _ _ _ _ fnCutLeaderChangeMessage.over (fun _ h => by cases h) (by kernel_rfl) (fun _ h => by cases h) fnCutLeaderChangeMessageUpto_row_tie rfl ⟨rfl, rfl⟩ (by kernel_rfl) rfl fnCutLeaderChangeMessage.plain (by kernel_rfl)
#print axioms fnCutLeaderChangeMessage_holds
end Go.Proofs.YtffglmphlpofbaaDoor
