/- The law FnAnyOld: any octets are read as an old message just as the form says, or refused. The card: tied to the program's text. No condition but the row's own. -/
import Derived.Test.YtnodcmiaipbjiaaDoorCards
import Derived.Test.YtnodcmiaipbjiaaDoorTie
import Derived.Test.YtnodcmiaipbjiaaDoorRows
import Derived.Test.YtnodcmiaipbjiaaDoorSeat
import Derived.Test.YtnodcmiaipbjiaaDoorFactA
import Derived.Test.YtnodcmiaipbjiaaDoorFactB
import Derived.Test.YtnodcmiaipbjiaaDoorFactC
import Derived.Test.YtnodcmiaipbjiaaDoorFactD
import Derived.MakeChecks
import Derived.LaidLaws
import Derived.Deep.DeepHandedRow
import Derived.ProofKit
import Derived.SevenTiedAt
namespace Go.Proofs.YtnodcmiaipbjiaaDoor.fnAnyOld
open Go.ChangeShapes Go.WideShapes Go.ChangeAt Go.RowKit Go.Kx
set_option linter.unusedVariables false
set_option maxRecDepth 100000
/-- What the row's list gives: the variable holds an error. -/
theorem err {W : World} (h : laidMetH Tryd.prog [("pub-kmsg/pub/kmsg/inner/kbin.ErrNotEnoughData", Rows.laid_pub_kmsg_pub_kmsg_inner_kbin_ErrNotEnoughData)] W) : ∃ ev, W.cell? ⟨sR.gErr, 0, none⟩ = some ev ∧ isErr ev := by
  rw [MakeChecks.laidMetH_plain _ _ _ (by kernel_rfl)] at h
  exact laid_err (t := 38) (by kernel_rfl) (by kernel_rfl) (by kernel_rfl) h
/-- A world that meets the row's list: the error as its initialiser lays it. -/
noncomputable def low : Nat := (World.holding Tryd.prog default ⟨#[], #[], []⟩).heap.size
abbrev errS : ByteArray := { data := #[114, 101, 115, 112, 111, 110, 115, 101, 32, 100, 105, 100, 32, 110, 111, 116, 32, 99, 111, 110, 116, 97, 105, 110, 32, 101, 110, 111, 117, 103, 104, 32, 100, 97, 116, 97, 32, 116, 111, 32, 98, 101, 32, 118, 97, 108, 105, 100] }
noncomputable def laidWorld (os : Os) : World :=
  let w0 := World.holding Tryd.prog os ⟨#[.cells #[.string errS] 152], #[], []⟩
  { w0 with heap := w0.heap.modify 1 fun
      | .cells _ t frozen => .cells #[.iface 136 (.pointer (some ⟨low, 0, none⟩))] t frozen
      | o => o }
theorem laid_met (os : Os) (args : Array Value) : laidMet Tryd.prog [("pub-kmsg/pub/kmsg/inner/kbin.ErrNotEnoughData", Rows.laid_pub_kmsg_pub_kmsg_inner_kbin_ErrNotEnoughData)] ((laidWorld os).forCall (fun _ _ => 0) ⟨#[], args, []⟩).memory :=
  laidMet_of_run (ps := [.cell 1 0, .cell low 0]) 8 (by kernel_rfl) (by kernel_rfl) (by kernel_rfl)
theorem own : ownKnob Tryd.prog.godebug = none := by kernel_rfl
theorem bulkOk (H : Type) : BulkOk (H := H) Rows.uptoBulk Rows.uptoBulkAll := {
  one := fun d => by
    cases d with
    | lit l => cases l <;> simp [Rows.uptoBulk]
    | nil => simp [Rows.uptoBulk]
    | ptr d => simp [Rows.uptoBulk]
    | slice e s => simp [Rows.uptoBulk]
    | agg ps => simp [Rows.uptoBulk]
    | iface n d => simp [Rows.uptoBulk]
    | map es => simp [Rows.uptoBulk]
    | held h => simp [Rows.uptoBulk]
  slice := fun e s => by simp only [Rows.uptoBulk]; omega
  agg := fun ps => by simp only [Rows.uptoBulk]; omega
  cons := fun d l => by simp only [Rows.uptoBulkAll]; omega }
theorem reads (os : Os) {H : Type} (enc : TypeId × Value → H) : ∃ places, DataW.whole enc Tryd.prog ((laidWorld os).forCall (fun _ _ => 0) ⟨#[], #[.slice none 0 0, .bool false], []⟩).memory Tryd.f3.params.toList Rows.fnAnyOldSpec.vars false (#[.slice none 0 0, .bool false] : Array Value).toList 8 = some ([.nil, .lit (.bool false)], [], places) :=
  ⟨[], by kernel_rfl⟩
theorem lifted (os : Os) (started : os.Started) (H : Type) (enc : TypeId × Value → H) (F : Stop.Interp) :
    ReturnsInHanded {} Tryd.checked os 3 .any ((OpenSpec.ofChange Rows.fnAnyOldSpec).preRow enc Tryd.prog Tryd.f3 Rows.fnAnyOldRow.domain false Rows.fnAnyOldRow.laid) (((OpenSpec.ofChange Rows.fnAnyOldSpec).at F).post enc Tryd.prog Tryd.f3 false true false false) := by
  obtain ⟨places, hx⟩ := reads os enc
  refine returnsInHanded_of_row (C := Tryd.checked) (s := OpenSpec.ofChange Rows.fnAnyOldSpec) own started (by kernel_rfl) Tryd.func3
    (witness_row_at (enc := enc) (C := Tryd.checked) false (laidWorld os) #[.slice none 0 0, .bool false] rfl (by kernel_rfl) (by kernel_rfl) (by kernel_rfl)
      (OpenSpec.preRow_of_cond 8 hx (by kernel_rfl) (fun k hk => by cases hk) (by kernel_rfl) (laid_met os _))) ?_
  intro W base args ds gs before hval hW _ hc _ hL _ _
  exact Go.Kx.old_row (tu8 := 5) (tu8s := 22) (tB := 4) sLaw (by kernel_rfl) (by kernel_rfl) (by kernel_rfl) (by kernel_rfl) (fn := Tryd.f3) (s := Rows.fnAnyOldSpec) (bulkOk H) Tryd.params3 (by kernel_rfl) rfl factLaid (by kernel_rfl) (fun _ _ => rfl) hval hW (err hL)
theorem facts : Go.Kx.rowFacts Tryd.checked.prog 3 Tryd.f3 Rows.fnAnyOldSpec Rows.fnAnyOldRow = true := by kernel_rfl
theorem joined : joinedFacts Tryd.checked.prog 3 Tryd.f3 Rows.fnAnyOldSpec Rows.fnAnyOldRow = true :=
  Go.Kx.joined_of facts factLaid factMaps factStops factKnobs factHeard factEnter factLifts factMake
theorem over : Rows.fnAnyOldRow.holds Tryd.pinned (OpenSpec.ofChange Rows.fnAnyOldSpec) :=
  OpenClaim.holds_of_cond 3 Tryd.f3 rfl rfl rfl rfl rfl rfl rfl ⟨rfl, rfl, rfl, rfl, rfl⟩ rfl rfl rfl rfl rfl (by kernel_rfl) Tryd.func3 joined
    (of_decide_eq_true (by kernel_rfl)) (by unfold Func.isWrapper; first | (rw [if_pos (by decide +kernel)]; kernel_rfl) | (rw [if_neg (by decide +kernel)]; exact ⟨rfl, rfl⟩))
    (fun os started H enc _ F => by rw [OpenClaim.pre_eq_preRow]; exact lifted os started H enc F)
theorem plain (f : FuncId) (fn : Func) (hf : Tryd.pinned.checked.prog.funcNamed "pub-kmsg/laws.FnAnyOld" = some f) (hfn : Tryd.pinned.checked.prog.funcs[f]? = some fn) :
    false = Tryd.pinned.checked.prog.looks [] ∧ ∀ (j : Nat) t, fn.params[j]? = some t → Tryd.pinned.checked.prog.wantsStandIn t = false := by
  obtain rfl : f = 3 := Option.some.inj ((show Tryd.prog.funcNamed "pub-kmsg/laws.FnAnyOld" = some 3 by kernel_rfl).symm.trans hf) |>.symm
  obtain rfl : fn = Tryd.f3 := (Option.some.inj (Tryd.func3.symm.trans hfn)).symm
  refine ⟨by kernel_rfl, fun j t ht => ?_⟩
  rw [Tryd.params3] at ht
  have hm : t ∈ [22, 4] := by simpa using Array.mem_of_getElem? ht
  have hall : ([22, 4].all fun u => !Tryd.prog.wantsStandIn u) = true := by kernel_rfl
  exact (show Tryd.prog.wantsStandIn t = false by simpa using List.all_eq_true.1 hall t hm)
end Go.Proofs.YtnodcmiaipbjiaaDoor.fnAnyOld
namespace Go.Proofs.YtnodcmiaipbjiaaDoor
/-- The card. -/
theorem fnAnyOld_holds : Rows.FnAnyOldCardSaid :=
  Claim7.holds_tied_plain_at .later [] _ _ _ _ fnAnyOld.over (fun _ h => by cases h) (by kernel_rfl) (fun _ h => by cases h) fnAnyOld_row_tie rfl ⟨rfl, rfl⟩ (by kernel_rfl) rfl fnAnyOld.plain (by kernel_rfl)
#print axioms fnAnyOld_holds
end Go.Proofs.YtnodcmiaipbjiaaDoor
