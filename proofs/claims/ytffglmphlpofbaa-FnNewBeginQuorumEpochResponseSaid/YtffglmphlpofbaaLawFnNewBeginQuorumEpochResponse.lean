/- The law FnNewBeginQuorumEpochResponse: a new BeginQuorumEpochResponse is written, at every version, as the defaults are (its known tag is not told). No condition. -/
import Derived.Test.YtffglmphlpofbaaRows
import Derived.Test.YtffglmphlpofbaaSeatN
import Derived.Test.YtffglmphlpofbaaFactA
import Derived.Test.YtffglmphlpofbaaFactB
import Derived.Test.YtffglmphlpofbaaFactC
import Derived.Test.YtffglmphlpofbaaFactD
import Derived.WalkKit
import Derived.ProofKit
import Derived.OpenShut
import Derived.Below
namespace Go.Proofs.Ytffglmphlpofbaa.fnNewBeginQuorumEpochResponse
open Go.ChangeShapes Go.WideShapes Go.ChangeAt Go.RowKit
set_option linter.unusedVariables false
open Go.Kx in
def nl : NL := { f := 4, fMax := 12, fSpec := 13, fNew := 14, fPtr := 21, fDef := 46, fMv := 22, fSet := 25, fAp := 26, most := 1, L := 30, N := 274, pl := { T := 78, fl := some 1, tg := (some (4, 4)), fs := (.cons .always 1 1 0 (.prim .i16 38) (.cons .always 2 2 0 (.arr none 75 83 (.struct 83 3 0 (some (2, 2)) (.cons .always 0 0 0 (.prim .str 9) (.cons .always 1 1 0 (.arr none 81 86 (.struct 86 5 0 (some (4, 4)) (.cons .always 0 0 0 (.prim .i32 21) (.cons .always 1 1 0 (.prim .i16 38) (.cons .always 2 2 0 (.prim .i32 21) (.cons .always 3 3 0 (.prim .i32 21) .nil)))))) .nil)))) .nil)) }, zs := [.int .i16 0, .int .i16 0, .nslice, .nslice, .nmap], df := .nil, sx := (.cons (.mk [(0, 2), (2, -1), (3, -1), (4, -1)] 0 .nil) (.cons (.mk [(0, 11), (2, -1), (3, -1), (4, -1), (6, 10)] 23 (.cons (.mk [(0, 8), (2, -1), (3, -1), (4, -1)] 0 .nil) (.cons (.mk [(0, 11), (2, -1), (3, -1), (4, -1), (6, 10)] 47 (.cons (.mk [(0, 3), (2, -1), (3, -1), (4, -1)] 0 .nil) (.cons (.mk [(0, 2), (2, -1), (3, -1), (4, -1)] 0 .nil) (.cons (.mk [(0, 3), (2, -1), (3, -1), (4, -1)] 0 .nil) (.cons (.mk [(0, 3), (2, -1), (3, -1), (4, -1)] 0 .nil) .nil))))) .nil))) (.cons (.mk [(0, 11), (2, -1), (3, -1), (4, 0), (6, 10)] 24 (.cons (.mk [(0, 3), (1, 1), (2, -1), (3, -1), (4, -1)] 0 .nil) (.cons (.mk [(0, 8), (1, 1), (2, -1), (3, -1), (4, -1)] 0 .nil) (.cons (.mk [(0, 5), (1, 1), (2, -1), (3, -1), (4, -1)] 0 .nil) .nil)))) .nil))), flex := 1 }
open Go.Kx in
def kt : KTN := { kc := .list 76, idx := 3, off := 3, e := 90, tgi := 4, toff := 4, tks := 59, ek := 62, u := 268, b := 4, fD := 0, zs := [], df := .nil, fT := 0, tM := 0, tB := 0, tT := 0 }
theorem nlOk : (Go.Kx.nlKB Try.prog seatK seatG seatS nl kt).all id = true := by kernel_rfl
theorem own : ownKnob Try.prog.godebug = none := by kernel_rfl
theorem walk (a0 : Int) (w0 : (Lit.int .u8 a0).wf = true) (w : World) :
    Calls Try.prog 4 #[.int .u8 a0] w fun e w' => e = .returned (.bool true) ∧ Below w.heap.size w w' := by
  obtain ⟨h0, h1⟩ : 0 ≤ a0 ∧ a0 < 256 := by
    simp [Lit.wf, IntKind.min, IntKind.max, IntKind.bits, IntKind.signed] at w0
    omega
  obtain ⟨k, rfl⟩ : ∃ k : Nat, a0 = (k : Int) := ⟨a0.toNat, by omega⟩
  exact Go.Kx.new_lawK seat nl kt nlOk w k (by omega)
set_option maxRecDepth 100000 in
theorem lifted (os : Os) (started : os.Started) (H : Type) (enc : TypeId × Value → H) :
    ReturnsInHanded {} Try.checked os 4 .any (Rows.fnNewBeginQuorumEpochResponseSpec.pre6 enc Try.prog Try.f4 Rows.fnNewBeginQuorumEpochResponseRow.domain false) (Rows.fnNewBeginQuorumEpochResponseSpec.post enc Try.prog Try.f4 false true false false) := by
  refine returnsInHanded_of_change (C := Try.checked) own started (by kernel_rfl) Try.func4
    (ChangeSpec.witness6 (enc := enc) (C := Try.checked) false ⟨#[], #[.int .u8 0], []⟩ 8 (by kernel_rfl) (by kernel_rfl) (by kernel_rfl) (by kernel_rfl)) ?_
  intro W base args ds gs before hval0 hW hcnd _
  have hval : ∀ (j : Nat) t v, Try.f4.params[j]? = some t → args[j]? = some v → Value.okWide Try.prog W .any base t v := hval0
  have hW' := hW
  obtain ⟨p, q, hA0, hV, rfl, hfz, hnd⟩ := hW
  have hA : DataW.TrodAll enc Try.prog W 0 (fun _ => true) true Try.f4.params.toList args.toList ds p := hA0
  rw [Try.params4] at hA hval
  obtain ⟨v0, vs0, d0, ds0, p0, q0, hargs, rfl, rfl, h0, r0⟩ := trodAll_cons hA
  obtain ⟨rfl, rfl, rfl⟩ := trodAll_nil r0
  obtain rfl : args = #[v0] := by cases args; simp_all
  obtain ⟨rfl, rfl⟩ := trodVars_none hV
  obtain ⟨a0, rfl, rfl, rfl, w0⟩ := open_int Try.underlying5 (hval 0 5 v0 rfl rfl) h0
  clear hA0 hval0
  simp only [List.append_nil] at hW'
  refine (walk a0 w0 W).mono fun e W' ⟨he, bel⟩ => ?_
  subst he
  exact ⟨_, rfl, _, _, _, [], _, [], hW', trodAll_mk1 (shut_bool Try.underlying4 _), trodAll_mk1 (shut_int Try.underlying5 w0), rfl, bel.frame _, fun h => by cases h⟩
theorem facts : Go.Kx.rowFacts Try.checked.prog 4 Try.f4 Rows.fnNewBeginQuorumEpochResponseSpec Rows.fnNewBeginQuorumEpochResponseRow = true := by kernel_rfl
theorem joined : joinedFacts Try.checked.prog 4 Try.f4 Rows.fnNewBeginQuorumEpochResponseSpec Rows.fnNewBeginQuorumEpochResponseRow = true :=
  Go.Kx.joined_of facts factLaid factMaps factStops factKnobs factHeard factEnter factLifts factMake
theorem over : Rows.fnNewBeginQuorumEpochResponseRow.holds Try.pinned (OpenSpec.ofChange Rows.fnNewBeginQuorumEpochResponseSpec) :=
  OpenClaim.holds_of_wide 4 Try.f4 rfl rfl rfl rfl rfl rfl rfl ⟨rfl, rfl, rfl, rfl, rfl⟩ rfl rfl rfl rfl rfl (by kernel_rfl) Try.func4 joined
    (of_decide_eq_true (by kernel_rfl)) (by unfold Func.isWrapper; first | (rw [if_pos (by decide +kernel)]; kernel_rfl) | (rw [if_neg (by decide +kernel)]; exact ⟨rfl, rfl⟩))
    (fun os started H enc _ => lifted os started H enc)
end Go.Proofs.Ytffglmphlpofbaa.fnNewBeginQuorumEpochResponse
namespace Go.Proofs.Ytffglmphlpofbaa
/-- The statement. -/
theorem fnNewBeginQuorumEpochResponse_holds : Rows.FnNewBeginQuorumEpochResponseSaid := fnNewBeginQuorumEpochResponse.over
#print axioms fnNewBeginQuorumEpochResponse_holds
end Go.Proofs.Ytffglmphlpofbaa
