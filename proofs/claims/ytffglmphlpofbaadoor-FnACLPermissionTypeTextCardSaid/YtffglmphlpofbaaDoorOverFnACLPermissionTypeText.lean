/- The row of the law FnACLPermissionTypeText: a value that is named is written as its word, and read as the value. No condition but the row's own. -/
import Derived.Test.YtffglmphlpofbaaDoorCards
import Derived.Test.YtffglmphlpofbaaDoorTie
import Derived.Test.YtffglmphlpofbaaDoorStr
import Derived.Test.YtffglmphlpofbaaDoorFactA
import Derived.Test.YtffglmphlpofbaaDoorFactB
import Derived.Test.YtffglmphlpofbaaDoorFactC
import Derived.Test.YtffglmphlpofbaaDoorFactD
import Derived.Deep.DeepHandedRow
import Derived.Deep.DeepWitnessRowRef
import Derived.LaidLaws
import Derived.ChangeMaps5
import Derived.WalkKit
import Derived.ProofKit
import Derived.OpenShut
import Derived.Below
namespace Go.Proofs.YtffglmphlpofbaaDoor.fnACLPermissionTypeText
open Go.ChangeShapes Go.WideShapes Go.ChangeAt Go.RowKit Go.ChangeMaps
set_option linter.unusedVariables false
theorem own : ownKnob Tryd.prog.godebug = none := by kernel_rfl
theorem reads (os : Os) {H : Type} (enc : TypeId × Value → H) : ∃ places, DataW.whole enc Tryd.prog ((str.laidWorld os).forCall (fun _ _ => 0) ⟨#[], #[.int .i8 0], []⟩).memory Tryd.f6.params.toList Rows.fnACLPermissionTypeTextSpec.vars false (#[.int .i8 0] : Array Value).toList 8 = some ([.lit (.int .i8 0)], [], places) :=
  ⟨[], by kernel_rfl⟩
set_option maxRecDepth 100000 in
theorem lifted (os : Os) (started : os.Started) (H : Type) (enc : TypeId × Value → H) (F : Stop.Interp) :
    ReturnsInHanded {} Tryd.checked os 6 .any ((OpenSpec.ofChange Rows.fnACLPermissionTypeTextSpec).preRow enc Tryd.prog Tryd.f6 Rows.fnACLPermissionTypeTextRow.domain false Rows.fnACLPermissionTypeTextRow.laid) (((OpenSpec.ofChange Rows.fnACLPermissionTypeTextSpec).at F).post enc Tryd.prog Tryd.f6 false true false false) := by
  obtain ⟨places, hx⟩ := reads os enc
  refine returnsInHanded_of_row (C := Tryd.checked) (s := OpenSpec.ofChange Rows.fnACLPermissionTypeTextSpec) own started (by kernel_rfl) Tryd.func6
    (witness_row_atRef (enc := enc) (C := Tryd.checked) false (str.laidWorld os) #[.int .i8 0] rfl (by kernel_rfl) (by kernel_rfl) (by kernel_rfl)
      (OpenSpec.preRow_of_cond 8 hx (by kernel_rfl) (fun k hk => by cases hk) (by kernel_rfl) (str.laid_met os _))) ?_
  intro W base args ds gs before hval0 hW _ hc _ hL _ _
  have hval : ∀ (j : Nat) t v, Tryd.f6.params[j]? = some t → args[j]? = some v → Value.okWide Tryd.prog W .any base t v := hval0
  have hW' := hW
  obtain ⟨p, q, hA0, hV, rfl, hfz, hnd⟩ := hW
  have hA : DataW.TrodAll enc Tryd.prog W 0 (fun _ => true) true Tryd.f6.params.toList args.toList ds p := hA0
  rw [Tryd.params6] at hA hval
  obtain ⟨v0, vs0, d0, ds0, p0, q0, hargs, rfl, rfl, h0, r0⟩ := trodAll_cons hA
  obtain ⟨rfl, rfl, rfl⟩ := trodAll_nil r0
  obtain rfl : args = #[v0] := by cases args; simp_all
  obtain ⟨rfl, rfl⟩ := trodVars_none hV
  obtain ⟨a0, rfl, rfl, rfl, w0⟩ := open_int Tryd.underlying46 (hval 0 46 v0 rfl rfl) h0
  clear hA0 hval0
  simp only [List.append_nil] at hW'
  refine (str.ACLPermissionType.law W (str.tab hL) a0 (by simp [Lit.wf, IntKind.min, IntKind.max, IntKind.bits, IntKind.signed] at w0; omega) (by simp [Lit.wf, IntKind.min, IntKind.max, IntKind.bits, IntKind.signed] at w0; omega)).mono fun e W' ⟨he, bel⟩ => ?_
  subst he
  exact ⟨_, rfl, _, _, _, [], _, [], hW', trodAll_mk1 (shut_bool Tryd.underlying4 _), trodAll_mk1 (shut_int Tryd.underlying46 w0), rfl, bel.frame _, fun h => by cases h⟩
theorem facts : Go.Kx.rowFacts Tryd.checked.prog 6 Tryd.f6 Rows.fnACLPermissionTypeTextSpec Rows.fnACLPermissionTypeTextRow = true := by kernel_rfl
theorem joined : joinedFacts Tryd.checked.prog 6 Tryd.f6 Rows.fnACLPermissionTypeTextSpec Rows.fnACLPermissionTypeTextRow = true :=
  Go.Kx.joined_of facts factLaid factMaps factStops factKnobs factHeard factEnter factLifts factMake
set_option maxRecDepth 100000 in
theorem over : Rows.fnACLPermissionTypeTextRow.holds Tryd.pinned (OpenSpec.ofChange Rows.fnACLPermissionTypeTextSpec) :=
  OpenClaim.holds_of_cond 6 Tryd.f6 rfl rfl rfl rfl rfl rfl rfl ⟨rfl, rfl, rfl, rfl, rfl⟩ rfl rfl rfl rfl rfl (by kernel_rfl) Tryd.func6 joined
    (of_decide_eq_true (by kernel_rfl)) (by unfold Func.isWrapper; first | (rw [if_pos (by decide +kernel)]; kernel_rfl) | (rw [if_neg (by decide +kernel)]; exact ⟨rfl, rfl⟩))
    (fun os started H enc _ F => by rw [OpenClaim.pre_eq_preRow]; exact lifted os started H enc F)
end Go.Proofs.YtffglmphlpofbaaDoor.fnACLPermissionTypeText
