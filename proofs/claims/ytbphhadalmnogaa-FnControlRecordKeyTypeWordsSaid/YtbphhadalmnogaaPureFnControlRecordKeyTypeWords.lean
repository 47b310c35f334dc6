/- All words of the kind ControlRecordKeyType are those that the documentation names, in order; no condition. -/
import Derived.Test.YtbphhadalmnogaaPFnControlRecordKeyTypeWordsx1
import Derived.KernelRfl
namespace Go.Proofs.Ytbphhadalmnogaa.Pure
open Go.RowKit Go.Proofs.Ytbphhadalmnogaa.PFnControlRecordKeyTypeWords Go.Proofs.YtbphhadalmnogaaW.PrintWords Go.Proofs.YtbphhadalmnogaaW.PrintLast

/-- YOURS: ∃ k, laws_FnControlRecordKeyTypeWords.f k  = some true
What it reaches (each with k first where it has rounds; `.mono`: more rounds tell the same; `.l0`, ..: its loops, with `.mono_l`): laws_sameWords.f, kmsg_ControlRecordKeyTypeStrings.f, impl_ControlRecordKeyTypeStrings.f, spec_Words.f, spec_ControlRecordKeyType.f, laws_FnControlRecordKeyTypeWords.f -/
theorem FnControlRecordKeyTypeWords : laws_FnControlRecordKeyTypeWords.Pure := by
  exact ⟨20, by kernel_rfl⟩

end Go.Proofs.Ytbphhadalmnogaa.Pure
