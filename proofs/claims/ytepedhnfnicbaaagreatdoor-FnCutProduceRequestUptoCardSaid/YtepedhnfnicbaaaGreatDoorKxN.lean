/- Numbers with a point: appended, read. Conditions: the program's tests; what its two functions of the library without a text answer (extern). -/
import Derived.Test.YtepedhnfnicbaaaGreatDoorKxM
namespace Go.Kx
open Go.RowKit
set_option linter.unusedSimpArgs false
set_option linter.unusedVariables false

section
variable {P : Program} {N : Nat} {Q : Exit → (Nat → Value) → World → Prop} {ρ : Nat → Value} {w w' : World} {ms : List MOp} {d : Nat} {v : Value}

/-- A call of a function without a text. -/
theorem MR.cax {f : Nat} {xs : List MX} (hr : (callFunc f (xs.map (xof ρ)).toArray).run P w = .ok (.value v) w) (hx : ∀ x ∈ xs, MX.lt N x = true) : MR P N (.ca d f xs) ρ w d v w := by
  intro a o hl hf
  obtain ⟨dst, op, type, pos, after, guard⟩ := o
  dsimp only at hf ⊢
  cases op <;> try (simp only [fitOp, Bool.false_eq_true] at hf; done)
  rename_i c
  obtain ⟨callee, args, ats⟩ := c
  cases callee <;> try (simp only [fitOp, Bool.false_eq_true] at hf; done)
  case value x =>
    cases x <;> try (simp only [fitOp, Bool.false_eq_true] at hf; done)
    simp only [fitOp, Bool.and_eq_true, Nat.beq_eq] at hf
    obtain ⟨⟨h1, h2⟩, h3⟩ := hf
    subst h2
    have hdst := dstIs_eq h1
    subst hdst
    have hargs : args.map a.eval = (xs.map (xof ρ)).toArray := by
      apply Array.toList_inj.1
      rw [Array.toList_map, allX_evalL hl hx h3]
    refine ⟨rfl, ?_⟩
    simp only [execOp, resolve, Act.eval, Deferred.ofValue, Sem.run_bind, Sem.run_pure, Result.andThen_ok, invoke, Array.append_empty, Array.empty_append]
    rw [hargs, hr]

def cApF (K : KB) : MCode := .sq (.rg [.mv 4 (.c .nslice)]) (.sq (.rg [.mv 5 (.t 0), .mv 6 (.t 1), .ca 7 K.ffb [.t 6], .ca 8 K.u64 [.t 5, .t 7], .mv 4 (.t 8)]) .rt)
def cRdF (R : RN) : MCode := .sq (.rg [.mv 2 (.c .flt)]) (.sq (.rg [.mv 3 (.t 0), .ca 4 R.r64 [.t 3], .ca 5 R.ffr [.t 4], .mv 2 (.t 5)]) .rt)

def flB (P : Program) (K : KB) (R : RN) : List Bool := [(kbOk P K).all id, isFn P K.f64 (cApF K) 9 4, yes K.u64, isFn P R.f64 (cRdF R) 6 2, yes R.r64]

theorem apF_ok {K : KB} (hf : FnIs P K.f64 (cApF K) 9 4) (hu : ApC P K.T.u8 K.u64 (fun _ _ x out => ∃ n : Nat, n < 18446744073709551616 ∧ x = .int .u64 n ∧ out = be n 8))
    (he : ∀ (n : Nat) (w : World), (callFunc K.ffb #[.float .f64 n]).run P w = .ok (.value (.int .u64 n)) w) : F64W P K := by
  intro _
  refine ⟨hf.ent, ?_⟩
  rintro w B sv x bs out hB ho ⟨n, hn, rfl, rfl⟩ hlim
  refine hf.runs (args := [sv, .float .f64 n]) (by simp) (by omega) ?_
  refine RW.sq (RW.rg (RL.step MR.mv (RL.nil (RW.sq (RW.rg (RL.step (MR.mv (v := sv) rfl) (RL.step (MR.mv (v := .float .f64 n) rfl) (RL.step (MR.cax (v := .int .u64 (n : Nat)) (he n w) (by simp [MX.lt])) ?_))))))))
  refine RL.caA (sv := sv) (bs := bs) (out := be n 8) hu rfl ho ⟨n, hn, rfl, rfl⟩ hB hlim ?_
  intro sv1 w1 o1 b1
  exact RL.step MR.mv (RL.nil (RW.rt (ret_ap (sv := sv1) rfl o1 b1)))

theorem rdF_ok {R : RN} (hf : FnIs P R.f64 (cRdF R) 6 2) (hr : RdC P R.r64 (dNat 8) (PlB (fun x => .int .u64 (x : Nat)) (· < 18446744073709551616)))
    (he : ∀ (n : Nat) (w : World), (callFunc R.ffr #[.int .u64 (n : Nat)]).run P w = .ok (.value (.float .f64 n)) w) : F64R P R := by
  intro _ flex
  refine ⟨hf.ent, fun w rb sb st h hne => ?_⟩
  refine hf.runs (args := [.pointer (some ⟨rb, 0, none⟩)]) (by simp) (by omega) ?_
  refine RW.sq (RW.rg (RL.step MR.mv (RL.nil (RW.sq (RW.rg (RL.step (MR.mv (v := .pointer (some ⟨rb, 0, none⟩)) rfl) (RL.rd hr rfl h hne (by rfl) (by decide) ?_)))))))
  rintro v x st1 w1 hF hG hR ⟨rfl, hx⟩
  refine RL.step (MR.cax (v := .float .f64 x) (he x w1) (by simp [MX.lt])) (RL.step MR.mv (RL.nil (RW.rt ?_)))
  exact ⟨_, .n (x : Nat), st1, rfl, hF, hG.map (f := fun n : Nat => D.n (n : Nat)), hR, rfl, rfl, rfl, x, rfl, rfl, hx⟩

theorem fl_of {K : KB} {R : RN} {G : TG} (h : (flB P K R).all id = true) (h2 : (rkB P R G).all id = true) (e1 : ∀ (n : Nat) (w : World), (callFunc K.ffb #[.float .f64 n]).run P w = .ok (.value (.int .u64 n)) w)
    (e2 : ∀ (n : Nat) (w : World), (callFunc R.ffr #[.int .u64 (n : Nat)]).run P w = .ok (.value (.float .f64 n)) w) : FlOk P K R := by
  simp only [flB, List.all_cons, List.all_nil, id_eq, Bool.and_true, Bool.and_eq_true] at h
  obtain ⟨h1, h3, h4, h5, h6⟩ := h
  exact ⟨apF_ok (FnIs.of h3) (u64_of h1 (yes_of h4)).2 e1, rdF_ok (FnIs.of h5) (rd_r64 h2 (yes_of h6)) e2⟩
end
end Go.Kx
