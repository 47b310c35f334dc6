/- The law FnNewDescribeConfigsRequest: a new DescribeConfigsRequest is written, at every version, as the defaults are. No condition. -/
import Derived.Test.YtbhmbdkeogdmcaaRows
import Derived.Test.YtbhmbdkeogdmcaaSeatN
import Derived.Test.YtbhmbdkeogdmcaaFactA
import Derived.Test.YtbhmbdkeogdmcaaFactB
import Derived.Test.YtbhmbdkeogdmcaaFactC
import Derived.Test.YtbhmbdkeogdmcaaFactD
import Derived.WalkKit
import Derived.ProofKit
import Derived.OpenShut
import Derived.Below
namespace Go.Proofs.Ytbhmbdkeogdmcaa.fnNewDescribeConfigsRequest
open Go.ChangeShapes Go.WideShapes Go.ChangeAt Go.RowKit
set_option linter.unusedVariables false
open Go.Kx in
def nl : NL := { f := 11, fMax := 46, fSpec := 47, fNew := 48, fPtr := 104, fDef := 176, fMv := 105, fSet := 107, fAp := 108, most := 4, L := 18, N := 148, pl := { T := 151, fl := some 4, tg := (some (4, 4)), fs := (.cons .always 1 1 0 (.arr none 149 156 (.struct 156 4 0 (some (3, 3)) (.cons .always 0 0 0 (.enum .i8 153 100) (.cons .always 1 1 0 (.prim .str 9) (.cons .always 2 2 0 (.arr (some 0) 154 9 (.prim .str 9)) .nil))))) (.cons (.ge 1) 2 2 0 (.prim .bool 4) (.cons (.ge 3) 3 3 0 (.prim .bool 4) .nil))) }, zs := [.int .i16 0, .nslice, .bool false, .bool false, .nmap], df := .nil, sx := (.cons (.mk [(0, 11), (2, -1), (3, -1), (4, -1), (6, 10)] 106 (.cons (.mk [(0, 1), (2, -1), (3, -1), (4, -1)] 0 .nil) (.cons (.mk [(0, 8), (2, -1), (3, -1), (4, -1)] 0 .nil) (.cons (.mk [(0, 11), (2, -1), (3, 0), (4, -1), (6, 8)] 0 .nil) .nil)))) (.cons (.mk [(0, 0), (1, 1), (2, -1), (3, -1), (4, -1)] 0 .nil) (.cons (.mk [(0, 0), (1, 3), (2, -1), (3, -1), (4, -1)] 0 .nil) .nil))), flex := 4 }
theorem nlOk : (Go.Kx.nlB Try.prog seatK seatG seatS nl).all id = true := by kernel_rfl
theorem own : ownKnob Try.prog.godebug = none := by kernel_rfl
theorem walk (a0 : Int) (w0 : (Lit.int .u8 a0).wf = true) (w : World) :
    Calls Try.prog 11 #[.int .u8 a0] w fun e w' => e = .returned (.bool true) ∧ Below w.heap.size w w' := by
  obtain ⟨h0, h1⟩ : 0 ≤ a0 ∧ a0 < 256 := by
    simp [Lit.wf, IntKind.min, IntKind.max, IntKind.bits, IntKind.signed] at w0
    omega
  obtain ⟨k, rfl⟩ : ∃ k : Nat, a0 = (k : Int) := ⟨a0.toNat, by omega⟩
  exact Go.Kx.new_law seat nl nlOk w k (by omega)
set_option maxRecDepth 100000 in
theorem lifted (os : Os) (started : os.Started) (H : Type) (enc : TypeId × Value → H) :
    ReturnsInHanded {} Try.checked os 11 .any (Rows.fnNewDescribeConfigsRequestSpec.pre6 enc Try.prog Try.f11 Rows.fnNewDescribeConfigsRequestRow.domain false) (Rows.fnNewDescribeConfigsRequestSpec.post enc Try.prog Try.f11 false true false false) := by
  refine returnsInHanded_of_change (C := Try.checked) own started (by kernel_rfl) Try.func11
    (ChangeSpec.witness6 (enc := enc) (C := Try.checked) false ⟨#[], #[.int .u8 0], []⟩ 8 (by kernel_rfl) (by kernel_rfl) (by kernel_rfl) (by kernel_rfl)) ?_
  intro W base args ds gs before hval0 hW hcnd _
  have hval : ∀ (j : Nat) t v, Try.f11.params[j]? = some t → args[j]? = some v → Value.okWide Try.prog W .any base t v := hval0
  have hW' := hW
  obtain ⟨p, q, hA0, hV, rfl, hfz, hnd⟩ := hW
  have hA : DataW.TrodAll enc Try.prog W 0 (fun _ => true) true Try.f11.params.toList args.toList ds p := hA0
  rw [Try.params11] at hA hval
  obtain ⟨v0, vs0, d0, ds0, p0, q0, hargs, rfl, rfl, h0, r0⟩ := trodAll_cons hA
  obtain ⟨rfl, rfl, rfl⟩ := trodAll_nil r0
  obtain rfl : args = #[v0] := by cases args; simp_all
  obtain ⟨rfl, rfl⟩ := trodVars_none hV
  obtain ⟨a0, rfl, rfl, rfl, w0⟩ := open_int Try.underlying5 (hval 0 5 v0 rfl rfl) h0
  clear hA0 hval0
  simp only [List.append_nil] at hW'
  refine (walk a0 w0 W).mono fun e W' ⟨he, bel⟩ => ?_
  subst he
  exact ⟨_, rfl, _, _, _, [], _, [], hW', trodAll_mk1 (shut_bool Try.underlying4 _), trodAll_mk1 (shut_int Try.underlying5 w0), rfl, bel.frame _, fun h => by cases h⟩
theorem facts : Go.Kx.rowFacts Try.checked.prog 11 Try.f11 Rows.fnNewDescribeConfigsRequestSpec Rows.fnNewDescribeConfigsRequestRow = true := by kernel_rfl
theorem joined : joinedFacts Try.checked.prog 11 Try.f11 Rows.fnNewDescribeConfigsRequestSpec Rows.fnNewDescribeConfigsRequestRow = true :=
  Go.Kx.joined_of facts factLaid factMaps factStops factKnobs factHeard factEnter factLifts factMake
theorem over : Rows.fnNewDescribeConfigsRequestRow.holds Try.pinned (OpenSpec.ofChange Rows.fnNewDescribeConfigsRequestSpec) :=
  OpenClaim.holds_of_wide 11 Try.f11 rfl rfl rfl rfl rfl rfl rfl ⟨rfl, rfl, rfl, rfl, rfl⟩ rfl rfl rfl rfl rfl (by kernel_rfl) Try.func11 joined
    (of_decide_eq_true (by kernel_rfl)) (by unfold Func.isWrapper; first | (rw [if_pos (by decide +kernel)]; kernel_rfl) | (rw [if_neg (by decide +kernel)]; exact ⟨rfl, rfl⟩))
    (fun os started H enc _ => lifted os started H enc)
end Go.Proofs.Ytbhmbdkeogdmcaa.fnNewDescribeConfigsRequest
namespace Go.Proofs.Ytbhmbdkeogdmcaa
/-- The statement. -/
theorem fnNewDescribeConfigsRequest_holds : Rows.FnNewDescribeConfigsRequestSaid := fnNewDescribeConfigsRequest.over
#print axioms fnNewDescribeConfigsRequest_holds
end Go.Proofs.Ytbhmbdkeogdmcaa
