/- The law FnNewReadShareGroupStateSummaryRequest: a new ReadShareGroupStateSummaryRequest is written, at every version, as the defaults are. No condition. -/
import Derived.Test.YtbhmbdkeogdmcaaRows
import Derived.Test.YtbhmbdkeogdmcaaSeatN
import Derived.Test.YtbhmbdkeogdmcaaFactA
import Derived.Test.YtbhmbdkeogdmcaaFactB
import Derived.Test.YtbhmbdkeogdmcaaFactC
import Derived.Test.YtbhmbdkeogdmcaaFactD
import Derived.WalkKit
import Derived.ProofKit
import Derived.OpenShut
import Derived.Below
namespace Go.Proofs.Ytbhmbdkeogdmcaa.fnNewReadShareGroupStateSummaryRequest
open Go.ChangeShapes Go.WideShapes Go.ChangeAt Go.RowKit
set_option linter.unusedVariables false
open Go.Kx in
def nl : NL := { f := 7, fMax := 34, fSpec := 35, fNew := 36, fPtr := 84, fDef := 165, fMv := 85, fSet := 87, fAp := 88, most := 1, L := 17, N := 144, pl := { T := 107, fl := some 0, tg := (some (3, 3)), fs := (.cons .always 1 1 0 (.prim .str 9) (.cons .always 2 2 0 (.arr none 105 113 (.struct 113 18 0 (some (2, 17)) (.cons .always 0 0 0 (.prim .uuid 110) (.cons .always 1 16 0 (.arr none 111 117 (.struct 117 3 0 (some (2, 2)) (.cons .always 0 0 0 (.prim .i32 21) (.cons .always 1 1 0 (.prim .i32 21) .nil)))) .nil)))) .nil)) }, zs := [.int .i16 0, .estr, .nslice, .nmap], df := .nil, sx := (.cons (.mk [(0, 8), (2, -1), (3, -1), (4, -1)] 0 .nil) (.cons (.mk [(0, 11), (2, -1), (3, -1), (4, -1), (6, 10)] 86 (.cons (.mk [(0, 7), (2, -1), (3, -1), (4, -1)] 0 .nil) (.cons (.mk [(0, 11), (2, -1), (3, -1), (4, -1), (6, 10)] 166 (.cons (.mk [(0, 3), (2, -1), (3, -1), (4, -1)] 0 .nil) (.cons (.mk [(0, 3), (2, -1), (3, -1), (4, -1)] 0 .nil) .nil))) .nil))) .nil)), flex := 0 }
theorem nlOk : (Go.Kx.nlB Try.prog seatK seatG seatS nl).all id = true := by kernel_rfl
theorem own : ownKnob Try.prog.godebug = none := by kernel_rfl
theorem walk (a0 : Int) (w0 : (Lit.int .u8 a0).wf = true) (w : World) :
    Calls Try.prog 7 #[.int .u8 a0] w fun e w' => e = .returned (.bool true) ∧ Below w.heap.size w w' := by
  obtain ⟨h0, h1⟩ : 0 ≤ a0 ∧ a0 < 256 := by
    simp [Lit.wf, IntKind.min, IntKind.max, IntKind.bits, IntKind.signed] at w0
    omega
  obtain ⟨k, rfl⟩ : ∃ k : Nat, a0 = (k : Int) := ⟨a0.toNat, by omega⟩
  exact Go.Kx.new_law seat nl nlOk w k (by omega)
set_option maxRecDepth 100000 in
theorem lifted (os : Os) (started : os.Started) (H : Type) (enc : TypeId × Value → H) :
    ReturnsInHanded {} Try.checked os 7 .any (Rows.fnNewReadShareGroupStateSummaryRequestSpec.pre6 enc Try.prog Try.f7 Rows.fnNewReadShareGroupStateSummaryRequestRow.domain false) (Rows.fnNewReadShareGroupStateSummaryRequestSpec.post enc Try.prog Try.f7 false true false false) := by
  refine returnsInHanded_of_change (C := Try.checked) own started (by kernel_rfl) Try.func7
    (ChangeSpec.witness6 (enc := enc) (C := Try.checked) false ⟨#[], #[.int .u8 0], []⟩ 8 (by kernel_rfl) (by kernel_rfl) (by kernel_rfl) (by kernel_rfl)) ?_
  intro W base args ds gs before hval0 hW hcnd _
  have hval : ∀ (j : Nat) t v, Try.f7.params[j]? = some t → args[j]? = some v → Value.okWide Try.prog W .any base t v := hval0
  have hW' := hW
  obtain ⟨p, q, hA0, hV, rfl, hfz, hnd⟩ := hW
  have hA : DataW.TrodAll enc Try.prog W 0 (fun _ => true) true Try.f7.params.toList args.toList ds p := hA0
  rw [Try.params7] at hA hval
  obtain ⟨v0, vs0, d0, ds0, p0, q0, hargs, rfl, rfl, h0, r0⟩ := trodAll_cons hA
  obtain ⟨rfl, rfl, rfl⟩ := trodAll_nil r0
  obtain rfl : args = #[v0] := by cases args; simp_all
  obtain ⟨rfl, rfl⟩ := trodVars_none hV
  obtain ⟨a0, rfl, rfl, rfl, w0⟩ := open_int Try.underlying5 (hval 0 5 v0 rfl rfl) h0
  clear hA0 hval0
  simp only [List.append_nil] at hW'
  refine (walk a0 w0 W).mono fun e W' ⟨he, bel⟩ => ?_
  subst he
  exact ⟨_, rfl, _, _, _, [], _, [], hW', trodAll_mk1 (shut_bool Try.underlying4 _), trodAll_mk1 (shut_int Try.underlying5 w0), rfl, bel.frame _, fun h => by cases h⟩
theorem facts : Go.Kx.rowFacts Try.checked.prog 7 Try.f7 Rows.fnNewReadShareGroupStateSummaryRequestSpec Rows.fnNewReadShareGroupStateSummaryRequestRow = true := by kernel_rfl
theorem joined : joinedFacts Try.checked.prog 7 Try.f7 Rows.fnNewReadShareGroupStateSummaryRequestSpec Rows.fnNewReadShareGroupStateSummaryRequestRow = true :=
  Go.Kx.joined_of facts factLaid factMaps factStops factKnobs factHeard factEnter factLifts factMake
theorem over : Rows.fnNewReadShareGroupStateSummaryRequestRow.holds Try.pinned (OpenSpec.ofChange Rows.fnNewReadShareGroupStateSummaryRequestSpec) :=
  OpenClaim.holds_of_wide 7 Try.f7 rfl rfl rfl rfl rfl rfl rfl ⟨rfl, rfl, rfl, rfl, rfl⟩ rfl rfl rfl rfl rfl (by kernel_rfl) Try.func7 joined
    (of_decide_eq_true (by kernel_rfl)) (by unfold Func.isWrapper; first | (rw [if_pos (by decide +kernel)]; kernel_rfl) | (rw [if_neg (by decide +kernel)]; exact ⟨rfl, rfl⟩))
    (fun os started H enc _ => lifted os started H enc)
end Go.Proofs.Ytbhmbdkeogdmcaa.fnNewReadShareGroupStateSummaryRequest
namespace Go.Proofs.Ytbhmbdkeogdmcaa
/-- The statement. -/
theorem fnNewReadShareGroupStateSummaryRequest_holds : Rows.FnNewReadShareGroupStateSummaryRequestSaid := fnNewReadShareGroupStateSummaryRequest.over
#print axioms fnNewReadShareGroupStateSummaryRequest_holds
end Go.Proofs.Ytbhmbdkeogdmcaa
