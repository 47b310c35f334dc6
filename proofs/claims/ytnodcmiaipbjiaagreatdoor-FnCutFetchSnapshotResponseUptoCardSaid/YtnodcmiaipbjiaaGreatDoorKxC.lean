/- Regions that draw their order, or have guards, told by the slots; calls; the rest of the operations.
   Appending octets and texts, told by the slots; kbin's functions that append texts, octets, a truth, sixteen octets. Conditions: the program's tables (TOK), fewer than 2^40 octets.
   Known tags are written: those that are not as by default are noted, then each is written. Conditions: the program's tables and the contracts of what is called (KtC).
   What is told twice: first to see how long it is, then behind its length. Conditions: the contracts of what is called (KtC).
   The tags of a part with a tagged field: noted, counted, told, and the others. Conditions: the contracts of what is called (KtC); the test and the telling as given.
   A struct of two numbers and tags that has a tag itself (told out of a box of its own); a list that has one: their tests. Conditions: the contracts of what is called (KtC).
   A struct of two numbers and tags that has a tag itself: it is told. Conditions: the contracts of what is called (KtC, ZsC), the program's tables.
   A part with a tagged struct: all its tags. Conditions: the contracts of what is called (KtC, ZsC), the program's tables.
   A part with a tagged list: all its tags. Conditions: the contracts of what is called (KtC); what writes the list, as given. -/
import Derived.Test.YtnodcmiaipbjiaaGreatDoorKxB
namespace Go.Kx
open Go.RowKit
set_option linter.unusedSimpArgs false
set_option linter.unusedVariables false
section
variable {P : Program} {N : Nat} {Q Q' : UE} {ρ : Nat → Value} {w w' : World} {ms : List MOp} {d : Nat} {v : Value} {S : World → Prop} {gs : List GOp}
theorem MR.lnS {ty s : Nat} {b : ByteArray} (ht : strTy P ty = true) (hv : ρ s = .string b) (hs : s < N := by decide) : MR P N (.ln d ty s) ρ w d (.int .i64 b.size) w := by
 refine MR.builtin (b := .len) (T := [ty]) (xs := [.t s]) (fun o hf => ?_) (by simp [MX.lt, Nat.blt_eq, hs]) (fun t cs => ?_)
 ·generalize hop : o.op = op at hf
  cases op <;> try (simp only [Jf, UB] at hf; done)
  rename_i c
  obtain ⟨callee, args, ats⟩ := c
  cases callee <;> try (simp only [Jf, UB] at hf; done)
  case builtin b =>
   cases b <;> try (simp only [Jf, UB] at hf; done)
   simp only [Jf, UA] at hf
   obtain ⟨h1, h2⟩ := hf
   generalize hA : args.toList = A at h2
   generalize hB : ats.toList = B at h2
   match A, B, h2 with
   | [y], [t'], h2 =>
    simp only [UA, Nat.beq_eq] at h2
    exact ⟨Jl h1, args, ats, rfl, .inl (by rw [hB, h2.2]), by rw [hA, J0 h2.1]; simp [allX, MX.is]⟩
 ·simp [Go.builtin, Builtin.len_, xof, hv, run_underlying (strTy_eq ht), goInt]
theorem MR.mn {x y : MX} {k k' : IntKind} {m n : Int} (hx : xof ρ x = .int k m) (hy : xof ρ y = .int k' n) (hxN : x.lt N = true := by rfl) (hyN : y.lt N = true := by rfl) : MR P N (.mn d x y) ρ w d (.int k (if n < m then n else m)) w := by
 refine MR.builtin (b := .min) (T := []) (xs := [x, y]) (fun o hf => ?_) (by simp [hxN, hyN]) (fun t cs => by simp [Go.builtin, hx, hy, run_min_int2])
 generalize hop : o.op = op at hf
 cases op <;> try (simp only [Jf, UB] at hf; done)
 rename_i c
 obtain ⟨callee, args, ats⟩ := c
 cases callee <;> try (simp only [Jf, UB] at hf; done)
 case builtin b =>
  cases b <;> try (simp only [Jf, UB] at hf; done)
  simp only [Jf, UA] at hf
  obtain ⟨h1, h2⟩ := hf
  generalize hA : args.toList = A at h2
  match A, h2 with
  | [x', y'], h2 =>
   simp only [UA] at h2
   exact ⟨Jl h1, args, ats, rfl, .inr (fun T' ty cs => by simp [Go.builtin, hx, hy, run_min_int2]), by rw [hA]; simp [allX, h2.1, h2.2]⟩
theorem MR.mxi {x y : MX} {k k' : IntKind} {m n : Int} (hx : xof ρ x = .int k m) (hy : xof ρ y = .int k' n) (hxN : x.lt N = true := by rfl) (hyN : y.lt N = true := by rfl) : MR P N (.mxi d x y) ρ w d (.int k (if n > m then n else m)) w := by
 refine MR.builtin (b := .max) (T := []) (xs := [x, y]) (fun o hf => ?_) (by simp [hxN, hyN]) (fun t cs => by simp [Go.builtin, hx, hy, run_max_int2])
 generalize hop : o.op = op at hf
 cases op <;> try (simp only [Jf, UB] at hf; done)
 rename_i c
 obtain ⟨callee, args, ats⟩ := c
 cases callee <;> try (simp only [Jf, UB] at hf; done)
 case builtin b =>
  cases b <;> try (simp only [Jf, UB] at hf; done)
  simp only [Jf, UA] at hf
  obtain ⟨h1, h2⟩ := hf
  generalize hA : args.toList = A at h2
  match A, h2 with
  | [x', y'], h2 =>
   simp only [UA] at h2
   exact ⟨Jl h1, args, ats, rfl, .inr (fun T' ty cs => by simp [Go.builtin, hx, hy, run_max_int2]), by rw [hA]; simp [allX, h2.1, h2.2]⟩
theorem MR.mkBy {T : Nat} {n c : MX} (hr : (Instr.makeSlice T (xof ρ n) (xof ρ c)).run P w = .ok v w') (hn : n.lt N = true := by rfl) (hc : c.lt N = true := by rfl) : MR P N (.mk d T n c) ρ w d v w' := by
 intro a o hl hf; generalize hop : o.op = op at hf; unfold execOp; cases op <;> simp only [Jf, UA, UB, Nat.beq_eq] at hf
 obtain ⟨⟨⟨h1, h2⟩, h3⟩, h4⟩ := hf
 subst h2
 exact ⟨Jl h1, by simp only [hop, Sem.run_bind, MX.evalL hl hn h3, MX.evalL hl hc h4, hr, Result.andThen_ok, Sem.run_pure]⟩
theorem RL.stBy {ty p x : Nat} (hr : (Instr.storeAt ty (ρ p) (ρ x)).run P w = .ok () w') (h : RL P N ms Q ρ w') (hp : p < N := by decide) (hx : x < N := by decide) : RL P N (.st ty p x :: ms) Q ρ w := by
 intro a ha
 refine ML.step (d := none) (v := undef) (w' := w') (fun o' ho => ?_) (h a ha)
 have hf := JM ho
 generalize hop : o'.op = op at hf
 generalize hd : o'.dst = dd at hf
 unfold execOp
 cases op <;> cases dd <;> simp only [Jf, UA, UB, Nat.beq_eq] at hf
 obtain ⟨⟨h1, h2⟩, h3⟩ := hf
 subst h1
 exact ⟨rfl, .inr ⟨rfl, by simp only [hop, Sem.run_bind, tmpL ha hp h2, tmpL ha hx h3, hr, Result.andThen_ok, Sem.run_pure]⟩⟩
theorem RL.st {ty p x b o : Nat} (hp : ρ p = .pointer (some ⟨b, o, none⟩)) (hn : Jh P ty (ρ x).cells.size = true)
  (ht : w.there b o (ρ x).cells.size) (h1 : (ρ x).cells.all (·.oneCell') = true) (h : RL P N ms Q ρ (w.setCells b o (ρ x).cells.toList)) (hpN : p < N := by decide) (hx : x < N := by decide) : RL P N (.st ty p x :: ms) Q ρ w :=
 RL.stBy (by rw [hp]; exact run_storeAt_any hn ht h1) h hpN hx
theorem allX_evalL {a : Act} : ∀ {xs : List MX} {l : List Operand}, Loc N N ρ a → (∀ x ∈ xs, MX.lt N x = true) → allX xs l = true → l.map a.eval = xs.map (xof ρ)
 | [], [], _, _, _ => rfl
 | [], _ :: _, _, _, h => by simp [allX] at h
 | _ :: _, [], _, _, h => by simp [allX] at h
 | x :: xs, y :: l, hl, hx, h => by
  simp only [allX, UA] at h
  simp only [List.map_cons]
  rw [MX.evalL hl (hx x List.mem_cons_self) h.1, allX_evalL hl (fun x hx' => hx x (List.mem_cons_of_mem _ hx')) h.2]
theorem callRun {f : Nat} {xs : List MX} {a : Act} {o : Oper} (he : Jo P f = true) (hx : ∀ x ∈ xs, MX.lt N x = true) (hl : Loc N N ρ a) (hf : Jf (.ca d f xs) o.dst o.op = true) :
  o.dst = some d ∧ (execOp a.eval o).run P w = .ok (.enter f (xs.map (xof ρ)).toArray) w := by
 obtain ⟨dst, op, type, pos, after, guard⟩ := o
 dsimp only at hf ⊢
 cases op <;> try (simp only [Jf, UB] at hf; done)
 rename_i c
 obtain ⟨callee, args, ats⟩ := c
 cases callee <;> try (simp only [Jf, UB] at hf; done)
 case value x =>
  cases x <;> try (simp only [Jf, UB] at hf; done)
  simp only [Jf, UA, Nat.beq_eq] at hf
  obtain ⟨⟨h1, h2⟩, h3⟩ := hf
  subst h2
  have hdst := Jl h1
  subst hdst
  have hargs : args.map a.eval = (xs.map (xof ρ)).toArray := by
   apply Array.toList_inj.1
   rw [Array.toList_map, allX_evalL hl hx h3]
  refine ⟨rfl, ?_⟩
  simp only [execOp, resolve, Act.eval, Deferred.ofValue, Sem.run_bind, Sem.run_pure, Result.andThen_ok, invoke, Array.append_empty, Array.empty_append]
  rw [hargs, QV he]
theorem RL.ca {f : Nat} {xs : List MX} {R : Value → World → Prop} (he : Jo P f = true)
  (hc : Calls P f (xs.map (xof ρ)).toArray w (fun e w' => ∃ v, e = .returned v ∧ R v w'))
  (h : ∀ v w', R v w' → RL P N ms Q (upd ρ d v) w') (hd : d < N := by decide) (hx : ∀ x ∈ xs, MX.lt N x = true := by simp [MX.lt, Nat.blt_eq]) : RL P N (.ca d f xs :: ms) Q ρ w := by
 intro a ha
 have e : xs.map (MX.of a) = xs.map (xof ρ) := List.map_congr_left fun x hxm => MX.of_loc ha (by rintro s rfl; simpa [MX.lt, Nat.blt_eq] using hx _ hxm)
 exact ML.ca (R := R) he (by rw [e]; exact hc) fun v w' hR => h v w' hR _ (ha.put hd)
/-! ### Regions -/
theorem wpList_value' {Q : Exit → Act → World → Prop} {a : Act} {ops : Array Oper} {o : Oper} {rest : List Oper} {d : Nat} {v : Value} (hw : Region.wanted o (yielded ops a.tmps) = true) (hd : o.dst = some d)
  (hr : (execOp a.eval o).run P w = .ok (.value v) w') (h : wpList P ops Q rest (wr a d v) w') : wpList P ops Q (o :: rest) a w := by
 unfold wpList
 rw [if_pos hw]
 refine .inl ?_
 unfold Oper.wp
 rw [hr, Oper.upon_value, hd]
 exact h
def RG (P : Program) (N : Nat) (gs : List GOp) (Q : UE) (S : World → Prop) (ρ : Nat → Value) (w : World) : Prop :=
 (∀ (ops : Array Oper) (l : List Oper) (a : Act), Loc N N ρ a → S w → fitG ops gs l = true → wpList P ops (up N Q) l a w) ∧
 (∀ (ops : Array Oper) (lst : Array Bool) (fuel : Nat) (a : Act), Loc N N ρ a → S w → Region.noSelect ops = true → ordFrom ops lst gs = true → gs.length ≤ fuel → wpAnyH P .any ops (up N Q) S fuel lst a w)
theorem RG.nil (h : S w → Q .normal ρ w) : RG P N [] Q S ρ w := by
 refine ⟨fun ops l a ha hS hf => ?_, fun ops lst fuel a ha hS hns hor _ => ?_⟩
 ·cases l with
  | nil => exact ⟨ρ, ha, h hS⟩
  | cons o os => simp [fitG] at hf
 ·have hr : Region.ready .any ops lst = [] := by simpa [ordFrom] using hor
  cases fuel with
  | zero => exact ⟨hr, ⟨ρ, ha, h hS⟩⟩
  | succ fuel => exact ⟨fun _ => ⟨ρ, ha, h hS⟩, by rw [hr]; simp⟩
theorem fitG_cons {ops : Array Oper} {x : GOp} {xs : List GOp} {l : List Oper} (h : fitG ops (x :: xs) l = true) :
  ∃ o os, l = o :: os ∧ fitAt ops x o = true ∧ fitG ops xs os = true := by
 cases l with
 | nil => simp [fitG] at h
 | cons o os =>
  simp only [fitG, UA] at h
  exact ⟨o, os, rfl, by simp only [fitAt, UA]; exact h.1, h.2⟩
theorem ord_cons {ops : Array Oper} {x : GOp} {xs : List GOp} {lst : Array Bool} (h : ordFrom ops lst (x :: xs) = true) :
  ∃ o, ops[x.i]? = some o ∧ fitAt ops x o = true ∧ ordFrom ops (lst.setIfInBounds x.i true) xs = true ∧
   ((x.m.quiet = true ∧ Region.free .any ops lst x.i = true ∧ (Region.ready .any ops lst).contains x.i = true) ∨ (x.m.quiet = false ∧ Region.ready .any ops lst = [x.i])) := by
 simp only [ordFrom, UA] at h
 obtain ⟨⟨h1, h2⟩, h3⟩ := h
 cases ho : ops[x.i]? with
 | none => simp [ho] at h1
 | some o =>
  simp only [ho] at h1
  refine ⟨o, rfl, h1, h3, ?_⟩
  cases hq : x.m.quiet
  ·rw [hq] at h2
   simp only [UB, if_false] at h2
   refine .inr ⟨rfl, ?_⟩
   split at h2
   ·rename_i i hr; rw [hr, Nat.eq_of_beq_eq_true h2]
   ·simp at h2
  ·rw [hq] at h2
   simp only [if_true, UA] at h2
   exact .inl ⟨rfl, h2⟩
def passes (N : Nat) (ρ : Nat → Value) (b : Bool) : Option (Nat × Nat × Bool) → Prop
 | none => b = true
 | some (_, s, c) => s < N ∧ (ρ s = .bool (if b then c else !c) ∨ (b = false ∧ ρ s = undef))
theorem QY {ops : Array Oper} {g : Option (Nat × Nat × Bool)} {o : Oper} {a : Act} {b : Bool} (ha : Loc N N ρ a) (hg : fitGuard ops g o.guard = true) (hp : passes N ρ b g) : Region.wanted o (yielded ops a.tmps) = b := by
 unfold Region.wanted
 cases g with
 | none =>
  cases hgo : o.guard with
  | none => simp only [passes] at hp; rw [hp]
  | some q => rw [hgo] at hg; simp [fitGuard] at hg
 | some p =>
  obtain ⟨j, s, c⟩ := p
  cases hgo : o.guard with
  | none => rw [hgo] at hg; simp [fitGuard] at hg
  | some q =>
   obtain ⟨j', c'⟩ := q
   rw [hgo] at hg
   simp only [fitGuard, UA, Nat.beq_eq, beq_iff_eq] at hg
   obtain ⟨⟨rfl, rfl⟩, h3⟩ := hg
   obtain ⟨hs, hv⟩ := hp
   cases hoj : ops[j]? with
   | none => rw [hoj] at h3; simp at h3
   | some oj =>
    rw [hoj] at h3
    have hd := Jl h3
    have ht : a.tmps[s]? = some (ρ s) := by rw [← ha.get s hs]; exact get_tmps rfl (by rw [ha.size]; exact hs)
    rcases hv with hv | ⟨rfl, hv⟩
    ·have hy : yielded ops a.tmps j = some (if b then c else !c) := by
      unfold yielded
      simp only [hoj, Option.bind_some, hd, ht, hv]
     simp only [hy]
     cases b <;> cases c <;> rfl
    ·have hy : yielded ops a.tmps j = none := by
      unfold yielded
      simp only [hoj, Option.bind_some, hd, ht, hv]
      rfl
     simp only [hy]
     cases c <;> rfl
theorem upPanic {o : Option Tmp} : ∀ c (a : Act) w, up N Q (.panic c) (a.put o v) w → up N Q (.panic c) a w := fun c a w h => h.elim
theorem Q4 {ops : Array Oper} {x : GOp} {o : Oper} (h : fitAt ops x o = true) : fitGuard ops x.g o.guard = true ∧ Jf x.m o.dst o.op = true ∧ x.m.d? = o.dst := by
 simp only [fitAt, UA] at h
 exact ⟨h.1.1, h.1.2, sameD_eq h.2⟩
theorem RG.q {x : GOp} (hm : ∀ w', S w' → MR P N x.m ρ w' d v w') (h : RG P N gs Q S (upd ρ d v) w) (hq : x.m.quiet = true := by rfl) (hg : passes N ρ true x.g := by first | exact rfl | exact ⟨by decide, .inl rfl⟩) (hd : d < N := by decide) : RG P N (x :: gs) Q S ρ w := by
 refine ⟨fun ops l a ha hS hf => ?_, fun ops lst fuel a ha hS hns hor hfuel => ?_⟩
 ·obtain ⟨o, os, rfl, h1, h2⟩ := fitG_cons hf
  obtain ⟨h4, h5, h6⟩ := Q4 h1
  obtain ⟨hod, hrun⟩ := hm w hS a o ha h5
  exact Qv (QY ha h4 hg) hod hrun (h.1 ops os _ (ha.put hd) hS h2)
 ·obtain ⟨o, h1, h2, h3, hor'⟩ := ord_cons hor
  obtain ⟨h4, h5, h6⟩ := Q4 h2
  have hw := QY ha h4 hg
  have hod : o.dst = some d := (hm w hS a o ha h5).1
  have hput : a.put o.dst v = wr a d v := by rw [hod]; rfl
  rcases hor' with ⟨_, hfree, hrdy⟩ | ⟨hq', _⟩
  ·cases fuel with
   | zero => simp at hfuel
   | succ fuel =>
    refine wpAnyH_take h1 hns hfree hrdy upPanic (.inl ⟨hw, fun w' hS' => (hm w' hS' a o ha h5).2⟩) hS ?_
    rw [hput]
    exact h.2 ops _ fuel _ (ha.put hd) hS hns h3 (by simpa using hfuel)
  ·rw [hq] at hq'; simp at hq'
theorem RG.no {x : GOp} (hg : passes N ρ false x.g := by first | exact ⟨by decide, .inl rfl⟩ | exact ⟨by decide, .inr ⟨rfl, rfl⟩⟩) (h : RG P N gs Q S (upd ρ d undef) w) (hd0 : x.m.d? = some d := by rfl) (hd : d < N := by decide) : RG P N (x :: gs) Q S ρ w := by
 refine ⟨fun ops l a ha hS hf => ?_, fun ops lst fuel a ha hS hns hor hfuel => ?_⟩
 ·obtain ⟨o, os, rfl, h1, h2⟩ := fitG_cons hf
  obtain ⟨h4, h5, h6⟩ := Q4 h1
  exact wpList_passed (QY ha h4 hg) (by rw [← h6]; exact hd0) (h.1 ops os _ (ha.put hd) hS h2)
 ·obtain ⟨o, h1, h2, h3, hor'⟩ := ord_cons hor
  obtain ⟨h4, h5, h6⟩ := Q4 h2
  have hw := QY ha h4 hg
  have hod : o.dst = some d := by rw [← h6]; exact hd0
  have hput : a.put o.dst undef = wr a d undef := by rw [hod]; rfl
  have hy : YieldsIf P ops S o undef a := .inr ⟨hw, rfl⟩
  cases fuel with
  | zero => simp at hfuel
  | succ fuel =>
   have hnext := h.2 ops _ fuel _ (ha.put hd) hS hns h3 (by simpa using hfuel)
   rcases hor' with ⟨_, hfree, hrdy⟩ | ⟨_, hr⟩
   ·refine wpAnyH_take h1 hns hfree hrdy upPanic hy hS ?_
    rw [hput]; exact hnext
   ·refine wpAnyH_all hr (by simp) fun i hi => ?_
    have hik : i = x.i := by simpa using hi
    subst hik
    exact hy.wpOp h1 hS ⟨hS, by rw [hput]; exact hnext⟩
theorem RG.x {x : GOp} (hm : MR P N x.m ρ w d v w') (hS' : S w → S w') (h : RG P N gs Q S (upd ρ d v) w') (hq : x.m.quiet = false := by rfl) (hg : passes N ρ true x.g := by first | exact rfl | exact ⟨by decide, .inl rfl⟩) (hd : d < N := by decide) : RG P N (x :: gs) Q S ρ w := by
 refine ⟨fun ops l a ha hS hf => ?_, fun ops lst fuel a ha hS hns hor hfuel => ?_⟩
 ·obtain ⟨o, os, rfl, h1, h2⟩ := fitG_cons hf
  obtain ⟨h4, h5, h6⟩ := Q4 h1
  obtain ⟨hod, hrun⟩ := hm a o ha h5
  exact wpList_value' (QY ha h4 hg) hod hrun (h.1 ops os _ (ha.put hd) (hS' hS) h2)
 ·obtain ⟨o, h1, h2, h3, hor'⟩ := ord_cons hor
  obtain ⟨h4, h5, h6⟩ := Q4 h2
  have hw := QY ha h4 hg
  obtain ⟨hod, hrun⟩ := hm a o ha h5
  have hput : a.put o.dst v = wr a d v := by rw [hod]; rfl
  rcases hor' with ⟨hq', _⟩ | ⟨_, hr⟩
  ·rw [hq] at hq'; simp at hq'
  ·cases fuel with
   | zero => simp at hfuel
   | succ fuel =>
    refine wpAnyH_all hr (by simp) fun i hi => ?_
    have hik : i = x.i := by simpa using hi
    subst hik
    unfold wpOp
    simp only [h1, hw, if_true]
    refine .inl ?_
    unfold Oper.wp
    rw [hrun, Oper.upon_value, hput]
    exact ⟨hS' hS, h.2 ops _ fuel _ (ha.put hd) (hS' hS) hns h3 (by simpa using hfuel)⟩
theorem RG.ca {i : Nat} {g : Option (Nat × Nat × Bool)} {f : Nat} {xs : List MX} {R : Value → World → Prop} (he : Jo P f = true)
  (hc : S w → Calls P f (xs.map (xof ρ)).toArray w (fun e w' => ∃ v, e = .returned v ∧ R v w' ∧ S w'))
  (h : ∀ v w', R v w' → RG P N gs Q S (upd ρ d v) w') (hg : passes N ρ true g := by first | exact rfl | exact ⟨by decide, .inl rfl⟩) (hd : d < N := by decide) (hx : ∀ x ∈ xs, MX.lt N x = true := by simp [MX.lt, Nat.blt_eq]) : RG P N (⟨i, g, .ca d f xs⟩ :: gs) Q S ρ w := by
 refine ⟨fun ops l a ha hS hf => ?_, fun ops lst fuel a ha hS hns hor hfuel => ?_⟩
 ·obtain ⟨o, os, rfl, h1, h2⟩ := fitG_cons hf
  obtain ⟨h4, h5, h6⟩ := Q4 h1
  obtain ⟨hod, hrun⟩ := callRun (d := d) (w := w) he hx ha h5
  have hput : ∀ v, a.put o.dst v = wr a d v := fun v => by rw [hod]; rfl
  unfold wpList
  rw [if_pos (QY ha h4 hg)]
  refine .inl ?_
  unfold Oper.wp
  rw [hrun, Oper.upon_enter]
  refine Calls.mono (hc hS) ?_
  rintro e w' ⟨v, rfl, hR, hS'⟩
  dsimp only
  rw [hput]
  exact (h v w' hR).1 ops os _ (ha.put hd) hS' h2
 ·obtain ⟨o, h1, h2, h3, hor'⟩ := ord_cons hor
  obtain ⟨h4, h5, h6⟩ := Q4 h2
  have hw := QY ha h4 hg
  obtain ⟨hod, hrun⟩ := callRun (d := d) (w := w) he hx ha h5
  have hput : ∀ v, a.put o.dst v = wr a d v := fun v => by rw [hod]; rfl
  rcases hor' with ⟨hq', _⟩ | ⟨_, hr⟩
  ·simp [MOp.quiet] at hq'
  ·cases fuel with
   | zero => simp at hfuel
   | succ fuel =>
    refine wpAnyH_all hr (by simp) fun j hj => ?_
    have hik : j = i := by simpa using hj
    subst hik
    unfold wpOp
    dsimp only at h1
    simp only [h1, hw, if_true]
    refine .inl ?_
    unfold Oper.wp
    rw [hrun, Oper.upon_enter]
    refine Calls.mono (hc hS) ?_
    rintro e w' ⟨v, rfl, hR, hS'⟩
    dsimp only
    rw [hput]
    exact ⟨hS', (h v w' hR).2 ops _ fuel _ (ha.put hd) hS' hns h3 (by simpa using hfuel)⟩
def World.drew1 (w : World) : World := { w with drawn := w.drawn + 1 }
theorem RW.gf {gs : List GOp} (S : World → Prop) (hS : S w) (h : RG P N gs Q S ρ w) : RW P N (.gr false gs) Q ρ w := by
 intro a ha c hc
 cases c <;> try (simp only [fits, UB] at hc; done)
 rename_i id ops dr
 simp only [fits, UA, beq_iff_eq] at hc
 obtain ⟨rfl, h2⟩ := hc
 exact wp_region_list (h.1 ops _ a ha hS (by simpa using h2))
theorem RW.gd {gs : List GOp} (hmo : P.follows .mixedOrders = true) (S : World → Prop) (hS : S (World.drew1 w)) (h : RG P N gs Q S ρ (World.drew1 w)) : RW P N (.gr true gs) Q ρ w := by
 intro a ha c hc
 cases c <;> try (simp only [fits, UB] at hc; done)
 rename_i id ops dr
 simp only [fits, UA, beq_iff_eq, if_true] at hc
 obtain ⟨rfl, h3⟩ := hc
 simp only [if_true, ordOk, UA, Nat.ble_eq] at h3
 exact wp_region_any hmo (wpAny_of_held (S := S) _ _ _ _ (h.2 ops _ _ a ha hS h3.1.1 h3.2 h3.1.2))
end
section
variable {P : Program} {N : Nat} {Q : UE} {ρ : Nat → Value} {w : World} {ms : List MOp} {T : IT}
theorem ltT {x : Nat} (h : x < N) : MX.lt N (.t x) = true := by simp [MX.lt, Nat.blt_eq, h]
theorem run_apOwn {T U m c B : Nat} {ad : Option Addr} {bs l : List UInt8} {sv : Value} (hT : Jk P T U = true) (hU : u8Ty P U = true) (ho : OwnB U w B sv bs)
  (hm : m = l.length) (hb : Jg w (fun _ => True) ad l) (hB : B ≤ w.heap.size) (hlim : bs.length + l.length ≤ lim) :
  ∃ sv' w', (∀ ty, (Builtin.append_ #[T, T] ty #[sv, .slice ad m c]).run P w = .ok sv' w') ∧ OwnB U w' B sv' (bs ++ l) ∧ Below B w w' ∧ w.grownBy w' sv.ownBlock := by
 obtain ⟨i, hi, hs, hby, hz⟩ := QB hU
 have hl1 : lim = 4294967295 := rfl
 have hbase : ∀ k, sv.ownBlock = some k → B ≤ k := fun k hk => (World.ownsRow.lt ho k hk).1
 cases ad with
 | some ad =>
  obtain ⟨v', w', h1, h2, h3, _⟩ := run_append_own (P := P) w B T 0 U i (.int .u8 0) 1 1 (Jq hT) hi hz hs hby rfl (by omega) sv bs.length (bs.map JF) ho ad m c (l.map JF) (by simp [hm])
   (fun j u hu => by
    simp only [List.getElem?_map, Option.map_eq_some_iff] at hu
    obtain ⟨b, hb1, rfl⟩ := hu
    obtain ⟨g, o, he, _, hc⟩ := hb j b hb1
    cases he
    rw [Addr.add_mid]; exact hc)
   (by intro u hu; simp only [List.mem_map] at hu; obtain ⟨b, _, rfl⟩ := hu; rfl) (by simp only [maxLen]; omega) (by omega) hB
  refine ⟨v', w', fun ty => h1, ?_, (Below.refl _ _).grown h3 hB hbase, h3⟩
  unfold OwnB
  rw [UD, List.map_append, ← hm]
  exact h2
 | none =>
  have hl : l = [] := by
   cases l with
   | nil => rfl
   | cons b l =>
    obtain ⟨g, o, he, _⟩ := hb 0 b rfl
    simp at he
  subst hl
  simp only [List.length_nil] at hm
  subst hm
  have hrun : ∀ ty, (Builtin.append_ #[T, T] ty #[sv, .slice none 0 c]).run P w = .ok sv w := by
   intro ty
   rcases ho.2 with ⟨rfl, h0⟩ | ⟨g, cap, cur, rfl, _, _, hnc, _⟩
   ·simp [Builtin.append_, run_underlying (Jq hT), sizeOf, typeInfo, hi, Builtin.lenOf, Builtin.firstCells]
   ·simp [Builtin.append_, run_underlying (Jq hT), sizeOf, typeInfo, hi, Builtin.lenOf, Builtin.firstCells, hnc, storeCells]
  exact ⟨sv, w, hrun, by rw [List.append_nil]; exact ho, Below.refl _ _, ⟨rfl, rfl, rfl, Nat.le_refl _, fun _ _ _ => rfl⟩⟩
theorem run_apStr {T U V B : Nat} {bs : List UInt8} {sv : Value} {s : ByteArray} (hT : Jk P T U = true) (hU : u8Ty P U = true) (hV : strTy P V = true) (ho : OwnB U w B sv bs)
  (hB : B ≤ w.heap.size) (hlim : bs.length + s.data.toList.length ≤ lim) :
  ∃ sv' w', (∀ ty, (Builtin.append_ #[T, V] ty #[sv, .string s]).run P w = .ok sv' w') ∧ OwnB U w' B sv' (bs ++ s.data.toList) ∧ Below B w w' := by
 obtain ⟨i, hi, hs, hby, hz⟩ := QB hU
 have hl1 : lim = 4294967295 := rfl
 have hsz : s.data.toList.length = s.size := Array.length_toList
 have hbase : ∀ k, sv.ownBlock = some k → B ≤ k := fun k hk => (World.ownsRow.lt ho k hk).1
 obtain ⟨v', w', h1, h2, h3, _⟩ := Lib.run_append_own_string (P := P) w B T V 0 U i (Jq hT) (strTy_eq hV) hi hz hs hby sv bs.length (bs.map JF) ho s (by simp only [maxLen]; omega) (by omega) hB
 refine ⟨v', w', fun ty => h1, ?_, (Below.refl _ _).grown h3 hB hbase⟩
 unfold OwnB
 rw [UD, List.map_append, hsz]
 have : s.data.toList.map JF = Lib.strCells s := rfl
 rw [this]
 exact h2
theorem RL.apOwn {d T U x y m c B : Nat} {ad : Option Addr} {bs l : List UInt8} {sv : Value} (hT : Jk P T U = true) (hU : u8Ty P U = true) (hx : ρ x = sv) (ho : OwnB U w B sv bs)
  (hy : ρ y = .slice ad m c) (hm : m = l.length) (hb : Jg w (fun _ => True) ad l) (hB : B ≤ w.heap.size) (hlim : bs.length + l.length ≤ lim)
  (h : ∀ sv' w', OwnB U w' B sv' (bs ++ l) → Below B w w' → RL P N ms Q (upd ρ d sv') w') (hxN : x < N := by decide) (hyN : y < N := by decide) (hd : d < N := by decide) : RL P N (.ap d T T x y :: ms) Q ρ w := by
 obtain ⟨sv', w', h1, h2, h3, _⟩ := run_apOwn (c := c) hT hU ho hm hb hB hlim
 subst hx
 exact RL.s (MR.apBy (by rw [hy]; exact h1 0) (fun ty => by rw [hy]; exact h1 ty) hxN hyN) (h sv' w' h2 h3) hd
theorem RL.apStr {d T U V x y B : Nat} {bs : List UInt8} {sv : Value} {s : ByteArray} (hT : Jk P T U = true) (hU : u8Ty P U = true) (hV : strTy P V = true) (hx : ρ x = sv) (ho : OwnB U w B sv bs)
  (hy : ρ y = .string s) (hB : B ≤ w.heap.size) (hlim : bs.length + s.data.toList.length ≤ lim)
  (h : ∀ sv' w', OwnB U w' B sv' (bs ++ s.data.toList) → Below B w w' → RL P N ms Q (upd ρ d sv') w') (hxN : x < N := by decide) (hyN : y < N := by decide) (hd : d < N := by decide) : RL P N (.ap d T V x y :: ms) Q ρ w := by
 obtain ⟨sv', w', h1, h2, h3⟩ := run_apStr hT hU hV ho hB hlim
 subst hx
 exact RL.s (MR.apBy (by rw [hy]; exact h1 0) (fun ty => by rw [hy]; exact h1 ty) hxN hyN) (h sv' w' h2 h3) hd
theorem RL.caA {U d f x B : Nat} {y : MX} {bs out : List UInt8} {sv : Value} {R : World → Nat → Value → List UInt8 → Prop} (hc : ApC P U f R) (hx : ρ x = sv) (ho : OwnB U w B sv bs) (hR : R w B (xof ρ y) out) (hB : B ≤ w.heap.size) (hlim : bs.length + out.length ≤ lim)
  (h : ∀ sv' w', OwnB U w' B sv' (bs ++ out) → Below B w w' → RL P N ms Q (upd ρ d sv') w') (hxN : x < N := by decide) (hyN : y.lt N = true := by rfl) (hd : d < N := by decide) : RL P N (.ca d f [.t x, y] :: ms) Q ρ w := by
 subst hx
 refine RL.ca (R := fun sv' w' => OwnB U w' B sv' (bs ++ out) ∧ Below B w w') hc.1 ?_ (fun v w' h' => h v w' h'.1 h'.2) hd (by intro z hz; simp only [List.mem_cons, List.not_mem_nil, or_false] at hz; rcases hz with rfl | rfl; exact ltT hxN; exact hyN)
 refine (hc.2 w B (ρ x) (xof ρ y) bs out hB ho hR hlim).mono ?_
 rintro e w' ⟨sv', rfl, h2⟩
 exact ⟨sv', rfl, h2⟩
theorem ret_ap {B r : Nat} {w' : World} {U : Nat} {out : List UInt8} {sv : Value} (hr : ρ r = sv) (h : OwnB U w' B sv out) (hb : Below B w w') :
  retQ r (fun e w' => ∃ sv', e = .returned sv' ∧ OwnB U w' B sv' out ∧ Below B w w') .ret ρ w' := ⟨ρ r, rfl, hr ▸ h, hb⟩
theorem Jg.below {w w' : World} {B : Nat} {ad : Option Addr} {l : List UInt8} (h : Jg w (· < B) ad l) (hb : Below B w w') : Jg w' (· < B) ad l :=
 h.mono (fun _ h => h) (fun b hb' => hb.block b hb')
theorem Jg.any {w : World} {F : Nat → Prop} {ad : Option Addr} {l : List UInt8} (h : Jg w F ad l) : Jg w (fun _ => True) ad l := h.mono (fun _ _ => trivial) (fun _ _ => rfl)
def StrC (P : Program) (U f : Nat) (flex : Bool) : Prop := ApC P U f (fun _ _ x out => ∃ s : ByteArray, s.data.toList.length ≤ 32767 ∧ x = .string s ∧ out = cnt flex 2 s.data.toList.length ++ s.data.toList)
def BytC (P : Program) (U f : Nat) (flex : Bool) : Prop := ApC P U f (fun w B x out => ∃ ad c l, List.length l ≤ 32767 ∧ x = .slice ad (List.length l) c ∧ Jg w (· < B) ad l ∧ out = cnt flex 4 l.length ++ l)
def codeStr (T : IT) (V t g : Nat) : Jc := rows [.rg [.mv 4 (.c .nslice)], .rg [.mv 5 (.t 0), .mv 6 (.t 1), .ln 7 V 6, .cv 8 T.int t 7, .ca 9 g [.t 5, .t 8], .mv 0 (.t 9)],
 .rg [.mv 10 (.t 0), .mv 11 (.t 1), .ap 12 T.u8s V 10 11, .mv 4 (.t 12)], .rt]
def codeCStr (T : IT) (V g : Nat) : Jc := rows [.rg [.mv 4 (.c .nslice)], .rg [.mv 5 (.t 0), .mv 6 (.t 1), .ln 7 V 6, .cv 8 T.int T.u32 7, .b2 9 .add (.c (.int .u32 1)) (.t 8), .ca 10 g [.t 5, .t 9], .mv 0 (.t 10)],
 .rg [.mv 11 (.t 0), .mv 12 (.t 1), .ap 13 T.u8s V 11 12, .mv 4 (.t 13)], .rt]
theorem appStr {f g : Nat} (tk : TOK P T) (hs : T.str ≠ 0) (h : T.i16 ≠ 0) (hf : FnIs P f (codeStr T T.str T.i16 g) 13 4) (hg : I16C P T.u8 g) : StrC P T.u8 f false := by
 refine ⟨hf.ent, ?_⟩
 rintro w B sv x bs out hB ho ⟨s, hn, rfl, rfl⟩ hlim
 have hsz2 : s.data.toList.length = s.size := Array.length_toList
 rw [hsz2] at hlim hn ⊢
 rw [UD, hsz2] at hlim
 change bs.length + ((fix s.size 2).length + s.size) ≤ lim at hlim
 refine hf.runs (args := [sv, .string s]) (by simp) (by omega) ?_
 refine RW.sq (RW.rg (RL.s MR.mv (RL.nil (RW.sq (RW.rg (RL.s MR.mv (RL.s MR.mv (RL.s (MR.lnS (tk.str hs) (b := s) rfl) (RL.s (MR.cvI rfl tk.int (tk.i16 h)) ?_)))))))))
 refine RL.caA (sv := sv) (bs := bs) (out := fix s.size 2) hg rfl ho ⟨s.size, by show Value.int .i16 (IntKind.i16.wrap (s.size : Int)) = _; rw [wrap_i16 (by omega) (by omega)], rfl⟩ hB (by omega) ?_
 intro sv1 w1 o1 b1
 refine RL.s MR.mv (RL.nil (RW.sq (RW.rg (RL.s MR.mv (RL.s MR.mv (RL.apStr (sv := sv1) (s := s) tk.u8s tk.u8 (tk.str hs) rfl o1 rfl (Nat.le_trans hB b1.size) ?_ ?_))))))
 ·rw [UD, hsz2]; omega
 intro sv2 w2 o2 b2
 refine RL.s MR.mv (RL.nil (RW.rt (ret_ap (sv := sv2) rfl ?_ (b1.trans b2))))
 rw [List.append_assoc] at o2; exact o2
theorem appCStr {f g : Nat} (tk : TOK P T) (hs : T.str ≠ 0) (h : T.u32 ≠ 0) (hf : FnIs P f (codeCStr T T.str g) 14 4) (hg : UvarC P T.u8 g) : StrC P T.u8 f true := by
 refine ⟨hf.ent, ?_⟩
 rintro w B sv x bs out hB ho ⟨s, hn, rfl, rfl⟩ hlim
 have hsz2 : s.data.toList.length = s.size := Array.length_toList
 rw [hsz2] at hlim hn ⊢
 rw [UD, hsz2] at hlim
 change bs.length + ((uv (s.size + 1)).length + s.size) ≤ lim at hlim
 refine hf.runs (args := [sv, .string s]) (by simp) (by omega) ?_
 refine RW.sq (RW.rg (RL.s MR.mv (RL.nil (RW.sq (RW.rg (RL.s MR.mv (RL.s MR.mv (RL.s (MR.lnS (tk.str hs) (b := s) rfl) (RL.s (MR.cvI rfl tk.int (tk.u32 h)) (RL.s (MR.b2 (v := .int .u32 ((s.size + 1 : Nat) : Int)) ?_) ?_))))))))))
 ·show evB .add (.int .u32 1) (.int .u32 (IntKind.u32.wrap (s.size : Int))) = _
  simp only [evB, if_true, one_add (show s.size < 4294967295 by omega)]
 refine RL.caA (sv := sv) (bs := bs) (out := uv (s.size + 1)) hg rfl ho ⟨s.size + 1, by omega, rfl, rfl⟩ hB (by omega) ?_
 intro sv1 w1 o1 b1
 refine RL.s MR.mv (RL.nil (RW.sq (RW.rg (RL.s MR.mv (RL.s MR.mv (RL.apStr (sv := sv1) (s := s) tk.u8s tk.u8 (tk.str hs) rfl o1 rfl (Nat.le_trans hB b1.size) ?_ ?_))))))
 ·rw [UD, hsz2]; omega
 intro sv2 w2 o2 b2
 refine RL.s MR.mv (RL.nil (RW.rt (ret_ap (sv := sv2) rfl ?_ (b1.trans b2))))
 rw [List.append_assoc] at o2; exact o2
theorem appByt {f g : Nat} (tk : TOK P T) (h : T.i32 ≠ 0) (hf : FnIs P f (codeStr T T.u8s T.i32 g) 13 4) (hg : I32C P T.u8 g) : BytC P T.u8 f false := by
 refine ⟨hf.ent, ?_⟩
 rintro w B sv x bs out hB ho ⟨ad, c, l, hn, rfl, hb, rfl⟩ hlim
 rw [UD] at hlim
 change bs.length + ((fix l.length 4).length + l.length) ≤ lim at hlim
 refine hf.runs (args := [sv, .slice ad l.length c]) (by simp) (by omega) ?_
 refine RW.sq (RW.rg (RL.s MR.mv (RL.nil (RW.sq (RW.rg (RL.s MR.mv (RL.s MR.mv (RL.s (MR.ln tk.u8s (p := ad) (n := l.length) (c := c) rfl) (RL.s (MR.cvI rfl tk.int (tk.i32 h)) ?_)))))))))
 refine RL.caA (sv := sv) (bs := bs) (out := fix l.length 4) hg rfl ho ⟨l.length, by show Value.int .i32 (IntKind.i32.wrap (l.length : Int)) = _; rw [wrap_i32 (by omega) (by omega)], rfl⟩ hB (by omega) ?_
 intro sv1 w1 o1 b1
 refine RL.s MR.mv (RL.nil (RW.sq (RW.rg (RL.s MR.mv (RL.s MR.mv (RL.apOwn (sv := sv1) (l := l) (ad := ad) (m := l.length) (c := c) tk.u8s tk.u8 rfl o1 rfl rfl (hb.below b1).any (Nat.le_trans hB b1.size) ?_ ?_))))))
 ·rw [UD]; omega
 intro sv2 w2 o2 b2
 refine RL.s MR.mv (RL.nil (RW.rt (ret_ap (sv := sv2) rfl ?_ (b1.trans b2))))
 rw [List.append_assoc] at o2; exact o2
theorem appCByt {f g : Nat} (tk : TOK P T) (h : T.u32 ≠ 0) (hf : FnIs P f (codeCStr T T.u8s g) 14 4) (hg : UvarC P T.u8 g) : BytC P T.u8 f true := by
 refine ⟨hf.ent, ?_⟩
 rintro w B sv x bs out hB ho ⟨ad, c, l, hn, rfl, hb, rfl⟩ hlim
 rw [UD] at hlim
 change bs.length + ((uv (l.length + 1)).length + l.length) ≤ lim at hlim
 refine hf.runs (args := [sv, .slice ad l.length c]) (by simp) (by omega) ?_
 refine RW.sq (RW.rg (RL.s MR.mv (RL.nil (RW.sq (RW.rg (RL.s MR.mv (RL.s MR.mv (RL.s (MR.ln tk.u8s (p := ad) (n := l.length) (c := c) rfl) (RL.s (MR.cvI rfl tk.int (tk.u32 h)) (RL.s (MR.b2 (v := .int .u32 ((l.length + 1 : Nat) : Int)) ?_) ?_))))))))))
 ·show evB .add (.int .u32 1) (.int .u32 (IntKind.u32.wrap (l.length : Int))) = _
  simp only [evB, if_true, one_add (show l.length < 4294967295 by omega)]
 refine RL.caA (sv := sv) (bs := bs) (out := uv (l.length + 1)) hg rfl ho ⟨l.length + 1, by omega, rfl, rfl⟩ hB (by omega) ?_
 intro sv1 w1 o1 b1
 refine RL.s MR.mv (RL.nil (RW.sq (RW.rg (RL.s MR.mv (RL.s MR.mv (RL.apOwn (sv := sv1) (l := l) (ad := ad) (m := l.length) (c := c) tk.u8s tk.u8 rfl o1 rfl rfl (hb.below b1).any (Nat.le_trans hB b1.size) ?_ ?_))))))
 ·rw [UD]; omega
 intro sv2 w2 o2 b2
 refine RL.s MR.mv (RL.nil (RW.rt (ret_ap (sv := sv2) rfl ?_ (b1.trans b2))))
 rw [List.append_assoc] at o2; exact o2
/-! ### Null or not -/
def NStrC (P : Program) (U f : Nat) (flex : Bool) : Prop := ApC P U f (fun w B x out => (x = .pointer none ∧ out = J9 flex 2) ∨ ∃ b, ∃ s : ByteArray, b < B ∧ x = .pointer (some ⟨b, 0, none⟩) ∧ w.cell? ⟨b, 0, none⟩ = some (.string s) ∧ s.data.toList.length ≤ 32767 ∧ out = cnt flex 2 s.data.toList.length ++ s.data.toList)
def NBytC (P : Program) (U f : Nat) (flex : Bool) : Prop := ApC P U f (fun w B x out => (∃ c, x = .slice none 0 c ∧ out = J9 flex 4) ∨ ∃ ad c l, List.length l ≤ 32767 ∧ x = .slice (some ad) (List.length l) c ∧ Jg w (· < B) (some ad) l ∧ out = cnt flex 4 l.length ++ l)
end
section
variable {P : Program} {N : Nat} {Q Q' : UE} {ρ : Nat → Value} {w : World} {ms : List MOp}
def RWL (P : Program) (N : Nat) : List Jc → (UE) → (Nat → Value) → World → Prop
 | [], Q, ρ, w => Q .normal ρ w
 | c :: cs, Q, ρ, w => RW P N c (QP (fun ρ w => RWL P N cs Q ρ w) Q) ρ w
theorem thenR_mono {K K' : (Nat → Value) → World → Prop} (hk : ∀ ρ w, K ρ w → K' ρ w) (hq : ∀ e ρ w, Q e ρ w → Q' e ρ w) : ∀ e ρ w, QP K Q e ρ w → QP K' Q' e ρ w := by
 intro e ρ w h
 cases e <;> first | exact hk _ _ h | exact hq _ _ _ h
theorem RWL.mono : ∀ {cs : List Jc} {ρ : Nat → Value} {w : World} {Q Q' : UE}, RWL P N cs Q ρ w → (∀ e ρ w, Q e ρ w → Q' e ρ w) → RWL P N cs Q' ρ w
 | [], _, _, _, _, h, hq => hq _ _ _ h
 | _ :: _, _, _, _, _, h, hq => RW.mono h (thenR_mono (fun _ _ h => RWL.mono h hq) hq)
theorem RWL.rows : ∀ {cs : List Jc} {ρ : Nat → Value} {w : World} {Q : UE}, RWL P N cs Q ρ w → RW P N (rows cs) Q ρ w
 | [], _, _, _, h => RW.sk h
 | [c], _, _, Q, h => RW.mono h (by intro e ρ w hq; cases e <;> exact hq)
 | c :: d :: cs, _, _, Q, h => RW.sq (RW.mono h (thenR_mono (fun _ _ h => RWL.rows h) (fun _ _ _ h => h)))
theorem RWL.append : ∀ {cs ds : List Jc} {ρ : Nat → Value} {w : World} {Q : UE}, RWL P N cs (QP (fun ρ w => RWL P N ds Q ρ w) Q) ρ w → RWL P N (cs ++ ds) Q ρ w
 | [], _, _, _, _, h => h
 | c :: cs, ds, _, _, Q, h => RW.mono h (by
   intro e ρ w hq
   cases e <;> first | exact RWL.append hq | exact hq)
theorem RWL.one {c : Jc} (h : RW P N c Q ρ w) : RWL P N [c] Q ρ w := RW.mono h (by intro e ρ w hq; cases e <;> exact hq)
end
section
variable {w w' : World} {U Ts db B : Nat} {v x : Value}
theorem own_one {n : Nat} {sv : Value} {xs : List Value} (h : w.ownsRow B U 1 sv n xs) : sv.oneCell' = true := by
 rcases h.2 with ⟨rfl, _⟩ | ⟨g, cap, cur, rfl, _⟩ <;> rfl
theorem own_keep {n : Nat} {sv : Value} {xs : List Value} (h : w.ownsRow B U 1 sv n xs) (hk : ∀ g, sv.ownBlock = some g → w'.heap[g]? = w.heap[g]?) : w'.ownsRow B U 1 sv n xs := by
 obtain ⟨h1, h2⟩ := h
 refine ⟨h1, ?_⟩
 rcases h2 with h2 | ⟨g, cap, cur, rfl, h3, h4, h5⟩
 ·exact .inl h2
 ·exact .inr ⟨g, cap, cur, rfl, h3, by rw [hk g rfl]; exact h4, h5⟩
theorem own_nr {n : Nat} {sv : Value} {xs : List Value} (h : w.ownsRow B U 1 sv n xs) {k : Nat} (hk : ∀ cur, w.heap[k]? ≠ some (.cells cur U (0, 0))) : some k ≠ sv.ownBlock := by
 rcases h.2 with ⟨rfl, _⟩ | ⟨g, cap, cur, rfl, h3, h4, h5⟩
 ·intro e; cases e
 ·intro e
  simp only [Value.ownBlock, UC] at e
  subst e
  exact hk cur h4
end
def u32V (n : Nat) : Value := .int .u32 (n : Nat)
def u32B (P : Program) (U : Nat) : Bool := match P.info? U with
 | some i => Nat.beq i.size 1 && Nat.ble i.bytes 1000 && (match i.zero with | some v => (MVal.int .u32 0).is v | none => false)
 | none => false
theorem u32B_of {P : Program} {U : Nat} (h : u32B P U = true) : ∃ i, P.info? U = some i ∧ i.size = 1 ∧ i.bytes ≤ 1000 ∧ i.zero = some (.int .u32 0) := by
 unfold u32B at h
 cases hi : P.info? U with
 | none => simp [hi] at h
 | some i =>
  simp only [hi, UA, Nat.beq_eq, Nat.ble_eq] at h
  obtain ⟨⟨h1, h2⟩, h3⟩ := h
  cases hz : i.zero with
  | none => simp [hz] at h3
  | some v => simp only [hz] at h3; exact ⟨i, rfl, h1, h2, by rw [hz, MVal.is_eq h3]; rfl⟩
theorem run_bsl1 {P : Program} {w : World} {T U : Nat} {n : Nat} (hT : Jk P T U = true) (hU : u32B P U = true) :
  (Instr.buildSlice T 1 ((List.range' 0 1).zip [u32V n]).toArray).run P w = .ok (.slice (some ⟨w.heap.size, 0, none⟩) 1 1) (w.alloc (.cells #[u32V n] U)) := by
 obtain ⟨i, hi, hs, hb, hz⟩ := u32B_of hU
 have hfill := fill_ones [u32V n] [] [.int .u32 0] (by intro v hv; simp only [List.mem_singleton] at hv; subst hv; rfl) rfl
 simp only [List.nil_append, List.length_nil, List.length_cons, Nat.zero_add] at hfill
 simp only [Sem.run_bind, Instr.buildSlice, run_underlying (Jq hT), Result.andThen_ok, sizeOf, typeInfo, run_program, hi, Sem.run_pure, hs]
 rw [if_neg (by omega)]
 have hzero : (Array.map (fun x => (Value.int IntKind.u32 0).cells[x % (Value.int IntKind.u32 0).cells.size]!) (Array.range 1)) = [Value.int IntKind.u32 0].toArray := by
  apply Array.toList_inj.1
  simp [Value.cells, List.range_succ]
 simp only [Nat.mul_one]
 rw [if_neg (by omega)]
 simp only [zeroValue, typeInfo, Sem.run_bind, run_program, Result.andThen_ok, hi, Sem.run_pure, hz, hzero, hfill, newRow, run_newObj]
 rfl
theorem run_ap32 {P : Program} {w : World} {T U B n h c : Nat} {sv : Value} {xs : List Value} {k : Nat} (hT : Jk P T U = true) (hU : u32B P U = true) (ho : w.ownsRow B U 1 sv n xs) (hc : w.rangeAt h 0 [u32V k]) (hn : n < 1000000) (hB : B ≤ w.heap.size) :
  ∃ sv' w', (∀ ty, (Builtin.append_ #[T, T] ty #[sv, .slice (some ⟨h, 0, none⟩) 1 c]).run P w = .ok sv' w') ∧ w'.ownsRow B U 1 sv' (n + 1) (xs ++ [u32V k]) ∧ w.grownBy w' sv.ownBlock := by
 obtain ⟨i, hi, hs, hby, hz⟩ := u32B_of hU
 have hbb : (n + 1) * i.bytes ≤ 1000000 * 1000 := Nat.mul_le_mul (by omega) hby
 obtain ⟨v', w', g1, g2, g3, _⟩ := run_append_own (P := P) w B T 0 U i _ 1 i.bytes (Jq hT) hi hz hs rfl rfl (by omega) sv n xs ho ⟨h, 0, none⟩ 1 c [u32V k] rfl
  (fun j u hu => by rw [Addr.add_mid]; exact hc j u hu) (by intro u hu; simp only [List.mem_singleton] at hu; subst hu; rfl) (by simp only [maxLen]; omega) (by omega) hB
 exact ⟨v', w', fun ty => g1, g2, g3⟩
theorem ne0 {n : Nat} (h : (!(Nat.beq n 0)) = true) : n ≠ 0 := by
 intro e; subst e; simp at h
def NrT (U : Nat) (w w' : World) : Prop := w.heap.size ≤ w'.heap.size ∧ ∀ k, k < w.heap.size → (∀ cur, w.heap[k]? ≠ some (.cells cur U (0, 0))) → w'.heap[k]? = w.heap[k]?
theorem NrT.trans {U : Nat} {w1 w2 w3 : World} (h : NrT U w1 w2) (k : NrT U w2 w3) : NrT U w1 w3 := ⟨Nat.le_trans h.1 k.1, fun i h1 h3 => by
 have e := h.2 i h1 h3
 rw [k.2 i (Nat.lt_of_lt_of_le h1 h.1) (fun cur => by rw [e]; exact h3 cur), e]⟩
theorem NrT.of {U B : Nat} {w w' : World} {sv : Value} {bs : List UInt8} (ho : OwnB U w B sv bs) (hb : Below B w w') (hg : Gr w w' sv) : NrT U w w' :=
 ⟨hb.size, fun k hk hr => hg k hk (own_nr ho hr)⟩
def TeachG (P : Program) (U f : Nat) (S : List (Nat × List UInt8) → Prop) : Prop :=
 Jo P f = true ∧ ∀ (w : World) (B : Nat) (p : Addr) (m sv : Value) (tags : List (Nat × List UInt8)) (bs : List UInt8), B ≤ w.heap.size → (p.block < B ∨ ∀ cur, w.heap[p.block]? ≠ some (.cells cur U (0, 0))) → OwnB U w B sv bs →
  RepT w (· < B) m tags → S tags → w.cell? p = some m → bs.length + (tags.flatMap Jt).length ≤ lim →
  Calls P f #[.pointer (some p), sv] w (fun e w' => ∃ sv', e = .returned sv' ∧ OwnB U w' B sv' (bs ++ tags.flatMap Jt) ∧ Below B w w' ∧ NrT U w w')
theorem TeachG.c {P : Program} {U f : Nat} {S : List (Nat × List UInt8) → Prop} (h : TeachG P U f S) : TeachC P U f S :=
 ⟨h.1, fun w B p m sv tags bs h1 h2 h3 h4 h5 h6 h7 => Calls.mono (h.2 w B p m sv tags bs h1 (.inl h2) h3 h4 h5 h6 h7) fun e w' ⟨sv', a, b, c, _⟩ => ⟨sv', a, b, c⟩⟩
theorem TeachG.sub {P : Program} {U f : Nat} {S S' : List (Nat × List UInt8) → Prop} (h : TeachG P U f S) (hs : ∀ t, S' t → S t) : TeachG P U f S' :=
 ⟨h.1, fun w B p m sv tags bs h1 h2 h3 h4 h5 h6 h7 => h.2 w B p m sv tags bs h1 h2 h3 h4 (hs _ h5) h6 h7⟩
def TeAt (U B : Nat) (w : World) (sv : Value) (ks : List Nat) : Prop := w.ownsRow B U 1 sv ks.length (ks.map u32V)
theorem TeAt.keep {U U' B : Nat} {w w' : World} {sv : Value} {ks : List Nat} (h : TeAt U B w sv ks) (hn : NrT U' w w') (hne : U' ≠ U) : TeAt U B w' sv ks := own_keep h fun g hg => by
 rcases h.2 with ⟨rfl, _⟩ | ⟨g', cap, cur, rfl, h3, h4, h5⟩
 ·cases hg
 ·simp only [Value.ownBlock, UC] at hg
  subst hg
  refine hn.2 _ (Array.getElem?_eq_some_iff.1 h4).1 fun cur' e => ?_
  rw [h4] at e
  simp only [UC, Obj.cells.injEq] at e
  exact hne e.2.1.symm
theorem TeAt.val {U B : Nat} {w : World} {sv : Value} {ks : List Nat} (h : TeAt U B w sv ks) : ∃ ad c, sv = .slice ad ks.length c ∧ ∀ i k, ks[i]? = some k → ∃ g, ad = some ⟨g, 0, none⟩ ∧ w.cell? ⟨g, i, none⟩ = some (u32V k) := by
 obtain ⟨h1, h2⟩ := h
 rcases h2 with ⟨rfl, h0⟩ | ⟨g, cap, cur, rfl, hb, hh, hn, hc, hs, ht⟩
 ·have : ks = [] := List.eq_nil_of_length_eq_zero h0
  subst this
  exact ⟨none, 0, rfl, fun i k hk => by simp at hk⟩
 ·refine ⟨some ⟨g, 0, none⟩, cap, rfl, fun j k hj => ⟨g, rfl, ?_⟩⟩
  rw [cell_of_row w g j cur U (0, 0) hh]
  have hjl : j < ks.length := (List.getElem?_eq_some_iff.1 hj).1
  have e : (cur.toList.take (ks.length * 1))[j]? = (ks.map u32V)[j]? := by rw [ht]
  rw [List.getElem?_take_of_lt (by omega)] at e
  rw [List.getElem?_map, hj] at e
  simpa using e
def ascT : Nat → List KT → Bool
 | _, [] => true
 | lo, q :: r => Nat.ble lo q.tag && ascT (q.tag + 1) r
structure ZsC (P : Program) (fN fS : Nat) : Prop where
 eN : Jo P fN = true
 eS : Jo P fS = true
 new : ∀ w : World, Calls P fN #[] w (fun e w' => e = .returned (.agg #[.int .i32 0, .int .i32 0, .map none]) ∧ Below w.heap.size w w')
 same : ∀ (w : World) (B : Nat) (a b : Int) (m : Value) (un : List (Nat × List UInt8)), RepT w (· < B) m un → Calls P fS #[.agg #[.int .i32 a, .int .i32 b, m], .agg #[.int .i32 0, .int .i32 0, .map none]] w (fun e w' => e = .returned (.bool (decide (a = 0) && decide (b = 0) && un.isEmpty)) ∧ Below w.heap.size w w')
structure KtC (P : Program) (I : IA) (S : List (Nat × List UInt8) → Prop) : Prop where
 us : Jk P I.tU32s I.tU32 = true
 u : u32B P I.tU32 = true
 pl : Jm P I.tU32 = true
 c1 : Jh P I.tU32 1 = true
 ne : I.tU8 ≠ I.tU32
 i1 : JC P I.tInt .i64 = true
 i2 : JC P I.tU32 .u32 = true
 len : TlenC P I.tlen
 each : TeachC P I.tU8 I.teach S
 eachG : TeachG P I.tU8 I.teach S
 mo : P.follows .mixedOrders = true
 zs : I.zSame ≠ 0 → ZsC P I.zNew I.zSame
 u8s : Jk P I.tU8s I.tU8 = true
 u8i : (P.info? I.tU8).isSome = true
 uv : ApG P I.tU8 I.uvar (fun _ _ x out => ∃ n : Nat, n < 4294967296 ∧ x = .int .u32 n ∧ out = uv n)
 num : ∀ k, k.isNum = true → I.fn k false ≠ 0 → ApG P I.tU8 (I.fn k false) (fun _ _ x out => ∃ n, NumP k x n ∧ out = encP k false (.n n))
theorem encP_oct {k : PK} {n : Int} (h : k.isNum = true) : (encP k false (.n n)).length = k.oct := by
 have be_len : ∀ (j n : Nat), (be n j).length = j := fun j => by
  induction j with
  | zero => intro n; rfl
  | succ j ih => intro n; simp [be, ih]
 cases k <;> simp only [PK.isNum, UB] at h <;> simp [encP, fix, be_len, PK.oct]
section
variable {P : Program} {N : Nat} {Q : UE} {ρ : Nat → Value} {w w' : World} {ms : List MOp} {I : IA} {S : List (Nat × List UInt8) → Prop}
theorem RL.caG {U d f x B : Nat} {y : MX} {bs out : List UInt8} {sv : Value} {R : World → Nat → Value → List UInt8 → Prop} (hc : ApG P U f R) (hx : ρ x = sv) (ho : OwnB U w B sv bs) (hR : R w B (xof ρ y) out) (hB : B ≤ w.heap.size) (hlim : bs.length + out.length ≤ lim)
  (h : ∀ sv' w', OwnB U w' B sv' (bs ++ out) → Below B w w' → NrT U w w' → RL P N ms Q (upd ρ d sv') w') (hxN : x < N) (hyN : y.lt N = true) (hd : d < N) : RL P N (.ca d f [.t x, y] :: ms) Q ρ w := by
 subst hx
 refine RL.ca (R := fun sv' w' => OwnB U w' B sv' (bs ++ out) ∧ Below B w w' ∧ Gr w w' (ρ x)) hc.1 ?_ (fun v w' h' => h v w' h'.1 h'.2.1 (NrT.of ho h'.2.1 h'.2.2)) hd (by intro z hz; simp only [List.mem_cons, List.not_mem_nil, or_false] at hz; rcases hz with rfl | rfl; exact ltT hxN; exact hyN)
 refine (hc.2 w B (ρ x) (xof ρ y) bs out hB ho hR hlim).mono ?_
 rintro e w' ⟨sv', rfl, h2⟩
 exact ⟨sv', rfl, h2⟩
def KnIn (kn : List KT) (cs : List Value) (e : Nat × List UInt8) : Prop := ∃ q ∈ kn, ∃ v n, cs[q.off]? = some v ∧ NumP q.k v n ∧ e = (q.tag, encP q.k false (.n n))
theorem KnAt.in : ∀ {kn : List KT} {cs : List Value} {out : List (Nat × List UInt8)}, KnAt kn cs out → ∀ e ∈ out, KnIn kn cs e
 | [], _, _, h, e, he => by
  have h' : _ = [] := h
  subst h'; simp at he
 | q :: r, cs, out, h, e, he => by
  obtain ⟨v, n, out', hc, hnum, rfl, hk'⟩ := h
  rw [List.mem_append] at he
  rcases he with he | he
  ·unfold KT.enc at he
   split at he
   ·simp at he
   ·simp only [List.mem_singleton] at he
    exact ⟨q, List.mem_cons_self, v, n, hc, hnum, he⟩
  ·obtain ⟨q', h1, h2⟩ := KnAt.in hk' e he
   exact ⟨q', List.mem_cons_of_mem _ h1, h2⟩
theorem ascT_lt : ∀ {kn : List KT} {lo : Nat}, ascT lo kn = true → ∀ q ∈ kn, lo ≤ q.tag
 | [], _, _, q, hq => by simp at hq
 | p :: r, lo, h, q, hq => by
  simp only [ascT, UA, Nat.ble_eq] at h
  rcases List.mem_cons.1 hq with rfl | hq
  ·exact h.1
  ·have := ascT_lt h.2 q hq; omega
theorem wrC_ok {U f t B : Nat} {m : MVal} {bs out : List UInt8} {R : World → Nat → Value → List UInt8 → Prop} (hc : ApG P U f R) (ho : OwnB U w B (ρ 1) bs) (hR : R w B m.val out) (hB : B ≤ w.heap.size) (hlim : bs.length + out.length ≤ lim) (h1t : 1 < t) (hN : t + 2 ≤ N)
  (hQ : ∀ ρ' w', (∀ s, s < t → s ≠ 1 → ρ' s = ρ s) → OwnB U w' B (ρ' 1) (bs ++ out) → Below B w w' → NrT U w w' → Q .normal ρ' w') : RW P N (.rg [.mv t (.t 1), .ca (t + 1) f [.t t, .c m], .mv 1 (.t (t + 1))]) Q ρ w := by
 refine RW.rg (RL.s (MR.mv rfl (ltT (by omega))) (RL.caG hc (sv := ρ 1) (Ja _ _ _) ho hR hB hlim (fun sv' w' h1 h2 h3 => RL.s (MR.mv (v := sv') (Ja _ _ _) (ltT (by omega))) (RL.nil ?_) (by omega)) (by omega) rfl (by omega)) (by omega))
 exact hQ _ w' (fun s hs h1 => by (repeat first | rw [Ja] | rw [Jb _ _ (by omega)])) (by rw [Ja]; exact h1) h2 h3
end
set_option linter.unusedVariables false
def jumpR (l : Nat) (J : (Nat → Value) → World → Prop) (Q : UE) : UE
 | .goto l', ρ, w => l' = l ∧ J ρ w
 | e, ρ, w => Q e ρ w
section
variable {P : Program} {N : Nat} {Q Q' : UE} {ρ : Nat → Value} {w w' : World} {ms : List MOp} {d : Nat} {v : Value}
theorem RW.lb {l : Nat} (h : Q .normal ρ w) : RW P N (.lb l) Q ρ w := fun a ha => MW.lb ⟨ρ, ha, h⟩
theorem RW.gt {l : Nat} (h : Q (.goto l) ρ w) : RW P N (.gt l) Q ρ w := fun a ha => MW.gt ⟨ρ, ha, h⟩
theorem RW.sc {b r : Jc} {l : Nat} (J : (Nat → Value) → World → Prop) (hf : findM l b = some r) (h : RW P N b (jumpR l J Q) ρ w) (hr : ∀ ρ w, J ρ w → RW P N r (jumpR l (fun _ _ => False) Q) ρ w) : RW P N (.sc b) Q ρ w := by
 intro a ha
 refine MW.sc (l := l) (fun a w => ∃ ρ, Loc N N ρ a ∧ J ρ w) hf ((h a ha).mono fun e a w hu => ?_) fun a w hJ => ?_
 ·cases e <;> simp only [up, jumpR, Exit.jump] at hu ⊢ <;> first | exact hu | (obtain ⟨ρ, h1, h2, h3⟩ := hu; exact ⟨h2, ρ, h1, h3⟩)
 ·obtain ⟨ρ, h1, h2⟩ := hJ
  refine ((hr ρ w h2) a h1).mono fun e a w hu => ?_
  cases e <;> simp only [up, jumpR, Exit.jump] at hu ⊢ <;> first | exact hu | (obtain ⟨ρ, h1, h2, h3⟩ := hu; exact ⟨h2, h3⟩)
end
theorem slTo {P : Program} {w : World} {T U n c h : Nat} {ad : Option Addr} (hT : Jk P T U = true) (hU : (P.info? U).isSome = true) (hc : h ≤ c) :
  (Instr.sliceAt T (.slice ad n c) none (some (.int .i64 (h : Nat))) none).run P w = .ok (.slice ad h c) w := by
 obtain ⟨i, hi⟩ := Option.isSome_iff_exists.1 hU
 simp only [Instr.sliceAt, Sem.run_bind, run_underlying (Jq hT), Result.andThen_ok, Instr.slice, Instr.sliceBounds, Instr.sliceBound, asIntOf, Sem.run_pure, sizeOf, typeInfo, run_program, hi]
 rw [if_pos ⟨by omega, by omega⟩]
 simp only [Sem.run_pure, Result.andThen_ok, Int.toNat_natCast, Nat.sub_zero]
 congr 2
 cases ad with
 | none => split <;> rfl
 | some a =>
  split
  ·rfl
  ·simp [Addr.add]
theorem slFrom {P : Program} {T U n c l : Nat} {ad : Option Addr} (hT : Jk P T U = true) (hU : (P.info? U).isSome = true) (h1 : l ≤ n) (h2 : n ≤ c) :
  ∃ ad', ∀ w : World, (Instr.sliceAt T (.slice ad n c) (some (.int .i64 (l : Nat))) none none).run P w = .ok (.slice ad' (n - l) (c - l)) w := by
 obtain ⟨i, hi⟩ := Option.isSome_iff_exists.1 hU
 refine ⟨if c = l then ad else ad.map (·.add (l * i.size)), fun w => ?_⟩
 simp only [Instr.sliceAt, Sem.run_bind, run_underlying (Jq hT), Result.andThen_ok, Instr.slice, Instr.sliceBounds, Instr.sliceBound, asIntOf, Sem.run_pure, sizeOf, typeInfo, run_program, hi]
 rw [if_pos ⟨by omega, by omega⟩]
 simp only [Sem.run_pure, Result.andThen_ok, Int.toNat_natCast]
theorem OwnB.cut {U B : Nat} {w : World} {sv : Value} {bs cs : List UInt8} (h : OwnB U w B sv (bs ++ cs)) : ∃ ad c, sv = .slice ad (bs ++ cs).length c ∧ (bs ++ cs).length ≤ c ∧ OwnB U w B (.slice ad bs.length c) bs := by
 obtain ⟨h1, h2⟩ := h
 rcases h2 with ⟨rfl, h0⟩ | ⟨g, cap, cur, rfl, hb, hh, hn, hc, hs, ht⟩
 ·have e1 : bs = [] := by cases bs <;> simp_all
  have e2 : cs = [] := by cases cs <;> simp_all
  subst e1 e2
  exact ⟨none, 0, rfl, Nat.le_refl _, World.ownsRow_nil w B U 1⟩
 ·refine ⟨some ⟨g, 0, none⟩, cap, rfl, hn, by simp, .inr ⟨g, cap, cur, rfl, hb, hh, by rw [UD] at hn; omega, hc, hs, ?_⟩⟩
  have := congrArg (List.take bs.length) ht
  rw [List.take_take, List.map_append, List.take_append_of_le_length (by simp), UD] at this
  rw [Nat.mul_one] at this ⊢
  rw [Nat.min_eq_left (by omega)] at this
  rw [this, List.take_of_length_le (by simp)]
section
variable {P : Program} {N : Nat} {Q : UE} {ρ : Nat → Value} {w w' : World} {ms : List MOp} {I : IA} {S : List (Nat × List UInt8) → Prop}
theorem find_twice {l : Nat} {h : Jc} {I : IA} {z t : Nat} (hno : noLb l h = true) : ∀ (cs : List Jc) (tw : Jc), findM l (rows (h :: (preA I z t l ++ (cs ++ [tw])))) = some (.sq .sk (rows (cs ++ [tw]))) := by
 intro cs tw
 have e : ∃ d ds, cs ++ [tw] = d :: ds := by cases cs <;> exact ⟨_, _, rfl⟩
 obtain ⟨d, ds, e⟩ := e
 rw [e]
 simp [preA, rows, findM, noLb, hno]
theorem twice_ok (kc : KtC P I S) (hu8 : Jk P I.tU8s I.tU8 = true) (hi8 : (P.info? I.tU8).isSome = true) {z t tk tc t2 lbl xe B : Nat} {cs : List Jc} {h : Jc} {bs X : List UInt8} (hno : noLb lbl h = true) (KS : (Nat → Value) → World → Prop)
  (hz : 2 < z) (hze : z + 2 ≤ xe) (hxt : xe ≤ tk) (htk : tk ≤ t) (htc : t + 4 ≤ tc) (ht2 : tc ≤ t2) (hN : t2 + 11 ≤ N) (hlim : bs.length + (Jt (0, X)).length ≤ lim) (hB : B ≤ w.heap.size)
  (hK : ∀ ρ1 ρ2 w1 w2, KS ρ1 w1 → (∀ s, s < z → s ≠ 1 → ρ2 s = ρ1 s) → Below B w1 w2 → NrT I.tU8 w1 w2 → KS ρ2 w2)
  (hh : ∀ Q' : UE, (∀ ρ1 w1, KS ρ1 w1 → (∀ s, s < tk → s ≠ z - 1 → ρ1 s = ρ s) → OwnB I.tU8 w1 B (ρ1 1) bs → Below B w w1 → Q' .normal ρ1 w1) → RW P N h Q' ρ w)
  (hC : ∀ (ρ1 : Nat → Value) (w1 : World) (bs1 : List UInt8) (Q' : UE), KS ρ1 w1 → OwnB I.tU8 w1 B (ρ1 1) bs1 → bs1.length + X.length ≤ lim → B ≤ w1.heap.size →
   (∀ ρ' w', (∀ s, s < tc → s ≠ 1 → (s < z + 2 ∨ xe ≤ s) → ρ' s = ρ1 s) → OwnB I.tU8 w' B (ρ' 1) (bs1 ++ X) → Below B w1 w' → KS ρ' w' → Q' .normal ρ' w') → RWL P N cs Q' ρ1 w1)
  (hQ : ∀ ρ' w', (∀ s, s < tk → s ≠ 1 → (s < z - 1 ∨ xe ≤ s) → ρ' s = ρ s) → OwnB I.tU8 w' B (ρ' 1) (bs ++ Jt (0, X)) → Below B w w' → Q .normal ρ' w') :
  RW P N (.sc (rows (h :: (preA I z t lbl ++ (cs ++ [twiceA I z t2 lbl]))))) Q ρ w := by
 have he : (Jt (0, X)).length = (uv 0).length + (uv X.length).length + X.length := by unfold Jt; simp only [UD]
 have hXl : X.length < 4294967296 := by have e : lim = 4294967295 := rfl; omega
 rw [he] at hlim
 refine RW.sc (l := lbl) (fun ρ1 w1 => KS ρ1 w1 ∧ ρ1 z = .bool true ∧ OwnB I.tU8 w1 B (ρ1 1) (bs ++ uv 0 ++ uv X.length) ∧ Below B w w1 ∧ (∀ s, s < tk → s ≠ 1 → (s < z - 1 ∨ xe ≤ s) → ρ1 s = ρ s)) (find_twice hno cs _) ?_ ?_
 ·refine RWL.rows ?_
  refine hh _ ?_
  intro ρ1 w1 k1 p1 o1 b1
  show RWL P N _ _ ρ1 w1
  unfold preA
  simp only [List.cons_append, List.nil_append]
  refine wrC_ok (R := fun _ _ x out => ∃ n : Nat, n < 4294967296 ∧ x = .int .u32 n ∧ out = uv n) kc.uv (B := B) (bs := bs) (out := uv 0) o1 ⟨0, by omega, rfl, rfl⟩ (Nat.le_trans hB b1.size) (by omega) (by omega) (by omega) fun ρ2 w2 a1 a2 a3 a4 => ?_
  show RWL P N _ _ ρ2 w2
  refine RW.rg (RL.s (MR.mv (v := .bool false) rfl rfl) (RL.nil ?_) (by omega))
  show RWL P N _ _ _ w2
  obtain ⟨ad, c, hsv, hlc, _⟩ := OwnB.cut (cs := []) (by rw [List.append_nil]; exact a2)
  rw [List.append_nil] at hsv hlc
  refine RW.rg (RL.s (MR.mv (v := ρ2 1) (by show upd _ _ _ 1 = _; (repeat first | rw [Ja] | rw [Jb _ _ (by omega)])) (ltT (by omega))) (RL.s (MR.ln (p := ad) (n := (bs ++ uv 0).length) (c := c) hu8 (by rw [Ja, hsv]) (by omega)) (RL.s (MR.mv (v := .int .i64 ((bs ++ uv 0).length : Nat)) (Ja _ _ _) (ltT (by omega))) (RL.nil ?_) (by omega)) (by omega)) (by omega))
  show RWL P N _ _ _ w2
  generalize hρ3 : upd (upd _ (t + 3) _) (z + 1) _ = ρ3
  have p3 : ∀ s, s < t → s ≠ z → s ≠ z + 1 → ρ3 s = ρ2 s := fun s h1 h2 h3 => by rw [← hρ3]; (repeat first | rw [Ja] | rw [Jb _ _ (by omega)])
  have p3z : ρ3 z = .bool false := by rw [← hρ3]; (repeat first | rw [Ja] | rw [Jb _ _ (by omega)])
  have p3a : ρ3 (z + 1) = .int .i64 ((bs ++ uv 0).length : Nat) := by rw [← hρ3]; exact Ja _ _ _
  refine RW.lb ?_
  show RWL P N _ _ ρ3 w2
  have k3 : KS ρ3 w2 := hK ρ1 ρ3 w1 w2 k1 (fun s h1 h2 => by rw [p3 s (by omega) (by omega) (by omega), a1 s (by omega) h2]) a3 a4
  have b2 : Below B w w2 := b1.trans a3
  refine RWL.append (hC ρ3 w2 (bs ++ uv 0) _ k3 (by rw [p3 1 (by omega) (by omega) (by omega)]; exact a2) (by rw [UD]; omega) (Nat.le_trans hB b2.size) ?_)
  intro ρ4 w4 c1 c2 c3 k4
  show RWL P N _ _ ρ4 w4
  have q4 : ∀ s, s < tk → s ≠ 1 → (s < z - 1 ∨ xe ≤ s) → ρ4 s = ρ s := fun s h1 h2 h3 => by rw [c1 s (by omega) h2 (by omega), p3 s (by omega) (by omega) (by omega), a1 s (by omega) h2, p1 s h1 (by omega)]
  have z4 : ρ4 z = .bool false := by rw [c1 z (by omega) (by omega) (.inl (by omega)), p3z]
  have a4' : ρ4 (z + 1) = .int .i64 ((bs ++ uv 0).length : Nat) := by rw [c1 _ (by omega) (by omega) (.inl (by omega)), p3a]
  unfold twiceA
  refine RWL.one (RW.sq (RW.rg (RL.s (MR.mv z4 (ltT (by omega))) (RL.s (MR.nt (b := false) (Ja _ _ _) (by omega)) (RL.nil ?_) (by omega)) (by omega))))
  refine RW.cd (b := true) (Ja _ _ _) (fun _ => ?_) (fun e => by cases e) (by omega)
  obtain ⟨ad4, c4, hsv4, hlc4, ho4⟩ := OwnB.cut c2
  obtain ⟨ad5, hrun5⟩ := slFrom (P := P) (ad := ad4) (n := (bs ++ uv 0 ++ X).length) (c := c4) (l := (bs ++ uv 0).length) hu8 hi8 (by simp only [UD]; omega) hlc4
  have hnl : (bs ++ uv 0 ++ X).length - (bs ++ uv 0).length = X.length := by simp only [UD]; omega
  rw [hnl] at hrun5
  refine RW.sq (RW.gd kc.mo (fun _ => True) trivial ?_)
  have bd : Below w4.heap.size w4 (World.drew1 w4) := ⟨rfl, rfl, rfl, Nat.le_refl _, fun _ _ => rfl⟩
  have od : OwnB I.tU8 (World.drew1 w4) B (.slice ad4 (bs ++ uv 0).length c4) (bs ++ uv 0) := ho4
  have nd : NrT I.tU8 w4 (World.drew1 w4) := ⟨Nat.le_refl _, fun _ _ _ => rfl⟩
  have sd : (World.drew1 w4).heap.size = w4.heap.size := rfl
  refine RG.q (fun _ _ => MR.mv (v := ρ4 1) (by show upd _ _ _ 1 = _; (repeat first | rw [Ja] | rw [Jb _ _ (by omega)])) (ltT (by omega))) (RG.q (fun _ _ => MR.mv (v := .int .i64 ((bs ++ uv 0).length : Nat)) (by show upd _ _ _ (z + 1) = _; (repeat first | rw [Ja] | rw [Jb _ _ (by omega)]); exact a4') (ltT (by omega)))
   (RG.q (v := .slice ad4 (bs ++ uv 0).length c4) (fun w' e => MR.sl (by
    (repeat first | rw [Ja] | rw [Jb _ _ (by omega)])
    rw [hsv4]
    simp only [Option.map_none, Option.map_some, xof]
    (repeat first | rw [Ja] | rw [Jb _ _ (by omega)])
    exact slTo hu8 hi8 (by rw [UD] at hlc4; omega)) (by simp) (by intro q hq; simp only [UC] at hq; subst hq; exact ltT (by omega)) (by simp) (by omega)) ?_ (hd := by omega)) (hd := by omega)) (hd := by omega)
  refine RG.q (fun _ _ => MR.mv (v := ρ4 1) (by show upd _ _ _ 1 = _; (repeat first | rw [Ja] | rw [Jb _ _ (by omega)])) (ltT (by omega))) (RG.q (fun _ _ => MR.mv (v := .int .i64 ((bs ++ uv 0).length : Nat)) (by show upd _ _ _ (z + 1) = _; (repeat first | rw [Ja] | rw [Jb _ _ (by omega)]); exact a4') (ltT (by omega)))
   (RG.q (v := .slice ad5 X.length (c4 - (bs ++ uv 0).length)) (fun w' e => MR.sl (by
    (repeat first | rw [Ja] | rw [Jb _ _ (by omega)])
    rw [hsv4]
    simp only [Option.map_none, Option.map_some, xof]
    (repeat first | rw [Ja] | rw [Jb _ _ (by omega)])
    exact hrun5 _) (by intro q hq; simp only [UC] at hq; subst hq; exact ltT (by omega)) (by simp) (by simp) (by omega)) ?_ (hd := by omega)) (hd := by omega)) (hd := by omega)
  refine RG.q (fun _ _ => MR.ln (p := ad5) (n := X.length) (c := c4 - (bs ++ uv 0).length) hu8 (Ja _ _ _) (by omega)) ?_ (hd := by omega)
  refine RG.q (fun _ _ => MR.cvI (n := (X.length : Int)) (Ja _ _ _) kc.i1 kc.i2 (by omega)) ?_ (hd := by omega)
  rw [show IntKind.u32.wrap ((X.length : Nat) : Int) = ((X.length : Nat) : Int) from Qx (by omega) (by omega)]
  refine RG.ca (R := fun v w' => OwnB I.tU8 w' B v (bs ++ uv 0 ++ uv X.length) ∧ Below B (World.drew1 w4) w' ∧ NrT I.tU8 (World.drew1 w4) w') kc.uv.1 (fun _ => ?_) ?_ (hd := by omega) (hx := by simp [MX.lt, Nat.blt_eq]; omega)
  ·simp only [List.map_cons, List.map_nil, xof]
   (repeat first | rw [Ja] | rw [Jb _ _ (by omega)])
   refine Calls.mono (kc.uv.2 (World.drew1 w4) B _ _ _ (uv X.length) (Nat.le_trans (Nat.le_trans hB b2.size) (Nat.le_trans c3.size bd.size)) od ⟨X.length, hXl, rfl, rfl⟩ (by simp only [UD]; omega)) ?_
   rintro e w' ⟨sv', rfl, g1, g2, g3⟩
   exact ⟨_, rfl, ⟨g1, g2, NrT.of od g2 g3⟩, trivial⟩
  rintro v w5 ⟨o5, b5, n5⟩
  have b45 : Below B w4 w5 := (bd.mono (Nat.le_trans (Nat.le_trans hB b2.size) c3.size)).trans b5
  have n45 : NrT I.tU8 w4 w5 := nd.trans n5
  refine RG.q (fun _ _ => MR.mv (v := v) (Ja _ _ _) (ltT (by omega))) (RG.nil fun _ => ?_) (hd := by omega)
  show RW P N _ _ _ w5
  generalize hρ5 : upd (upd _ (t2 + 10) v) 1 v = ρ5
  have p5 : ∀ s, s < t2 → s ≠ 1 → ρ5 s = ρ4 s := fun s h1 h2 => by rw [← hρ5]; (repeat first | rw [Ja] | rw [Jb _ _ (by omega)])
  have p51 : ρ5 1 = v := by rw [← hρ5]; exact Ja _ _ _
  refine RW.sq (RW.rg (RL.s (MR.mv (v := .bool true) rfl rfl) (RL.nil ?_) (by omega)))
  refine RW.gt ⟨rfl, ?_, Ja _ _ _, by rw [Jb _ _ (by omega), p51]; exact o5, (b2.trans c3).trans b45, fun s h1 h2 h3 => by rw [Jb _ _ (by omega), p5 s (by omega) h2]; exact q4 s h1 h2 h3⟩
  exact hK ρ4 _ w4 w5 k4 (fun s h1 h2 => by rw [Jb _ _ (by omega), p5 s (by omega) h2]) b45 n45
 ·rintro ρ1 w1 ⟨k1, z1, o1, b1, q1⟩
  refine RW.sq (RW.sk ?_)
  refine RWL.rows (RWL.append (hC ρ1 w1 (bs ++ uv 0 ++ uv X.length) _ k1 o1 (by simp only [UD]; omega) (Nat.le_trans hB b1.size) ?_))
  intro ρ2 w2 c1 c2 c3 k2
  show RWL P N _ _ ρ2 w2
  have z2 : ρ2 z = .bool true := by rw [c1 z (by omega) (by omega) (.inl (by omega)), z1]
  unfold twiceA
  refine RWL.one (RW.sq (RW.rg (RL.s (MR.mv z2 (ltT (by omega))) (RL.s (MR.nt (b := true) (Ja _ _ _) (by omega)) (RL.nil ?_) (by omega)) (by omega))))
  refine RW.cd (b := false) (Ja _ _ _) (fun e => by cases e) (fun _ => RW.sk ?_) (by omega)
  refine hQ _ w2 (fun s h1 h2 h3 => ?_) ?_ (b1.trans c3)
  ·(repeat first | rw [Ja] | rw [Jb _ _ (by omega)])
   rw [c1 s (by omega) h2 (by omega), q1 s h1 h2 h3]
  ·(repeat first | rw [Ja] | rw [Jb _ _ (by omega)])
   have e : bs ++ Jt (0, X) = bs ++ uv 0 ++ uv X.length ++ X := by unfold Jt; simp
   rw [e]; exact c2
end
set_option linter.unusedVariables false
def tl0 (told : Option (List UInt8)) : List (Nat × List UInt8) := match told with | some X => [(0, X)] | none => []
section
variable {P : Program} {N : Nat} {Q : UE} {ρ : Nat → Value} {w w' : World} {ms : List MOp} {I : IA} {S : List (Nat × List UInt8) → Prop}
theorem ptLoop_ok (kc : KtC P I S) {x u b' L xe e B B0 : Nat} {told : Option (List UInt8)} {body : Jc} {bs : List UInt8} {te : Value} (hte : TeAt I.tU32 B0 w te ((tl0 told).map (·.1))) (hx : ρ x = te) (hB : B ≤ w.heap.size) (ho : OwnB I.tU8 w B (ρ 1) bs) (hlim : bs.length + ((tl0 told).flatMap Jt).length ≤ lim)
  (h1x : 1 < x) (hxe : x + 3 ≤ xe) (hxL : xe ≤ L) (hL : L ≤ u) (he : u + 9 ≤ e) (hN : e + 1 ≤ N)
  (hbody : ∀ X, told = some X → ∀ (ρ1 : Nat → Value) (w1 : World) (bs1 : List UInt8) (Q' : UE), (∀ s, s < L → s ≠ 1 → (s < x ∨ xe ≤ s) → ρ1 s = ρ s) → Below B w w1 → OwnB I.tU8 w1 B (ρ1 1) bs1 → bs1.length + (Jt (0, X)).length ≤ lim →
   (∀ ρ' w', (∀ s, s < u + 9 → s ≠ 1 → (s < x + 3 ∨ xe ≤ s) → ρ' s = ρ1 s) → OwnB I.tU8 w' B (ρ' 1) (bs1 ++ Jt (0, X)) → Below B w1 w' → Q' .normal ρ' w') → RW P N (.sc body) Q' ρ1 w1)
  (hQ : ∀ ρ' w', (∀ s, s < L → s ≠ 1 → (s < x ∨ xe ≤ s) → ρ' s = ρ s) → OwnB I.tU8 w' B (ρ' 1) (bs ++ (tl0 told).flatMap Jt) → Below B w w' → Q .normal ρ' w') : RW P N (ptLoop I x u b' body e) Q ρ w := by
 unfold ptLoop
 obtain ⟨ad, cap, hteq, hteC⟩ := hte.val
 rw [List.length_map] at hteq
 have hn1 : (tl0 told).length ≤ 1 := by cases told <;> simp [tl0]
 refine RW.sq (RW.rg (RL.s (MR.mv (v := te) hx (ltT (by omega))) (RL.s (MR.ln (p := ad) (n := (tl0 told).length) (c := cap) kc.us (by rw [Ja, hteq]) (by omega)) (RL.s MR.mv (RL.nil ?_) (by omega)) (by omega)) (by omega)))
 refine RW.bl (RW.lp (fun ρ' w' => ∃ i : Nat, i ≤ (tl0 told).length ∧ ρ' u = te ∧ ρ' (u + 1) = .int .i64 ((tl0 told).length : Nat) ∧ ρ' (u + 2) = .int .i64 (i : Nat) ∧ OwnB I.tU8 w' B (ρ' 1) (bs ++ ((tl0 told).take i).flatMap Jt) ∧ Below B w w' ∧ (i = 0 → w' = w) ∧ ∀ s, s < L → s ≠ 1 → (s < x ∨ xe ≤ s) → ρ' s = ρ s)
  (fun ρ' _ => (tl0 told).length - (intOf (ρ' (u + 2))).toNat) ⟨0, Nat.zero_le _, by (repeat first | rw [Ja] | rw [Jb _ _ (by omega)]), by (repeat first | rw [Ja] | rw [Jb _ _ (by omega)]), by rw [Ja]; rfl, by (repeat first | rw [Ja] | rw [Jb _ _ (by omega)]); simpa using ho, Below.refl _ _, fun _ => rfl, fun s h1 h2 h3 => by (repeat first | rw [Ja] | rw [Jb _ _ (by omega)])⟩ ?_ (fun ρ ρ' w h => by rw [h (u + 2) (by omega)]))
 rintro ρ1 w1 ⟨i, hi, k0, k1, k2, ho1, hb1, hw1, hk1⟩
 refine RW.sq (RW.rg (RL.s (MR.biE (v := .bool (decide ((i : Int) < ((tl0 told).length : Nat)))) (by show evB .lss (ρ1 (u + 2)) (ρ1 (u + 1)) = _; rw [k1, k2]; rfl) (ltT (by omega)) (ltT (by omega))) (RL.nil ?_) (by omega)))
 refine RW.sq (RW.cd (b := decide ((i : Int) < ((tl0 told).length : Nat))) (Ja _ _ _) (fun e => RW.sk ?_) (fun e => RW.ex ?_) (by omega))
 ·have hil : i < (tl0 told).length := by have := of_decide_eq_true e; omega
  obtain ⟨X, rfl⟩ : ∃ X, told = some X := by
   cases told with
   | none => simp [tl0] at hil
   | some X => exact ⟨X, rfl⟩
  have hi0 : i = 0 := by omega
  subst hi0
  have hww := hw1 rfl
  subst hww
  have hl1 : (tl0 (some X)).length = 1 := rfl
  obtain ⟨g, hg, hgc⟩ := hteC 0 0 rfl
  show RW P N _ _ _ w1
  refine RW.sq (RW.bl (RW.sq (RW.rg (RL.s (MR.ia (b := g) (o := 0) (len := (tl0 (some X)).length) (cap := cap) (k := .i64) (j := 0) (sz := 1) kc.us kc.c1 (by (repeat first | rw [Ja] | rw [Jb _ _ (by omega)]); rw [k0, hteq, hg]) (by (repeat first | rw [Ja] | rw [Jb _ _ (by omega)]); exact k2) hil (by omega) (by omega)) (RL.s (MR.ld (v := u32V 0) (Ja _ _ _) kc.pl (by rw [Nat.zero_add, Nat.mul_one]; exact hgc) (by omega)) (RL.s (MR.mv (v := u32V 0) (Ja _ _ _) (ltT (by omega))) (RL.nil ?_) (by omega)) (by omega)) (by omega)))))
  show RW P N _ _ _ w1
  refine RW.sq (RW.rg (RL.s (MR.mv (v := u32V 0) (Ja _ _ _) (ltT (by omega))) (RL.nil (RW.bl ?_)) (by omega)))
  refine RW.sq (RW.rg (RL.s (MR.biE (v := .bool true) (by show evB .eql (upd _ _ _ _) _ = _; rw [Ja]; rfl) (ltT (by omega)) rfl) (RL.s (MR.mv (v := .bool true) (Ja _ _ _) (ltT (by omega))) (RL.nil ?_) (by omega)) (by omega)))
  refine RW.cd (b := true) (Ja _ _ _) (fun _ => ?_) (fun e => by cases e) (by omega)
  generalize hρ2 : upd (upd _ (u + 8) _) (u + 7) _ = ρ2
  have p2 : ∀ s, s ≠ x + 2 → s < u + 3 → ρ2 s = ρ1 s := fun s h1 h2 => by rw [← hρ2]; (repeat first | rw [Ja] | rw [Jb _ _ (by omega)])
  simp only [List.take_zero, List.flatMap_nil, List.append_nil] at ho1
  have hfl : (tl0 (some X)).flatMap Jt = Jt (0, X) := by simp [tl0]
  rw [hfl] at hlim
  refine hbody X rfl ρ2 w1 bs _ (fun s h1 h2 h3 => by rw [p2 s (by omega) (by omega)]; exact hk1 s h1 h2 h3) (Below.refl _ _) (by rw [p2 1 (by omega) (by omega)]; exact ho1) hlim ?_
  intro ρ3 w3 a1 a2 a3
  show RW P N _ _ ρ3 w3
  have e2 : ρ3 (u + 2) = .int .i64 (0 : Nat) := by rw [a1 (u + 2) (by omega) (by omega) (.inr (by omega)), p2 _ (by omega) (by omega), k2]
  refine RW.rg (RL.s (MR.biE (v := .int .i64 ((0 + 1 : Nat) : Int)) (by show evB .add (ρ3 (u + 2)) _ = _; rw [e2]; rfl) (ltT (by omega)) rfl) (RL.s (MR.mv (v := .int .i64 ((0 + 1 : Nat) : Int)) (Ja _ _ _) (ltT (by omega))) (RL.nil ?_) (by omega)) (by omega))
  refine ⟨⟨0 + 1, by omega, ?_, ?_, Ja _ _ _, ?_, a3, fun h => by omega, fun s h1 h2 h3 => ?_⟩, ?_⟩
  ·(repeat first | rw [Ja] | rw [Jb _ _ (by omega)]); rw [a1 u (by omega) (by omega) (.inr (by omega)), p2 u (by omega) (by omega), k0]
  ·(repeat first | rw [Ja] | rw [Jb _ _ (by omega)]); rw [a1 (u + 1) (by omega) (by omega) (.inr (by omega)), p2 _ (by omega) (by omega), k1]
  ·(repeat first | rw [Ja] | rw [Jb _ _ (by omega)])
   have : ((tl0 (some X)).take (0 + 1)).flatMap Jt = Jt (0, X) := by simp [tl0]
   rw [this]; exact a2
  ·(repeat first | rw [Ja] | rw [Jb _ _ (by omega)]); rw [a1 s (by omega) h2 (by omega), p2 s (by omega) (by omega), hk1 s h1 h2 h3]
  ·show (tl0 (some X)).length - (intOf (upd _ (u + 2) _ (u + 2))).toNat < (tl0 (some X)).length - (intOf (ρ1 (u + 2))).toNat
   rw [Ja, k2]; simp only [intOf]; omega
 ·have hil : i = (tl0 told).length := by have := of_decide_eq_false e; omega
  show J2 b' Q (.exit b') _ w1
  simp only [J2, if_pos]
  refine hQ _ w1 (fun s h1 h2 h3 => by (repeat first | rw [Ja] | rw [Jb _ _ (by omega)]); exact hk1 s h1 h2 h3) ?_ hb1
  (repeat first | rw [Ja] | rw [Jb _ _ (by omega)])
  rw [hil, List.take_length] at ho1
  exact ho1
theorem ptBody_ok (kc : KtC P I S) {T vs tidx off x u0 u b' L xe e B b o : Nat} {cs : List Value} {test body : Jc} {told : Option (List UInt8)} {ux : List (Nat × List UInt8)} {bs : List UInt8} {m : Value} (hF : Jd P T tidx off = true)
  (hm : cs[off]? = some m) (hrep : RepT w (· < B) m ux) (hsm : ux.length ≤ 40000) (hS : S ux) (hr : w.rangeAt b o cs) (hbB : b < B) (hB : B ≤ w.heap.size) (hv : ρ vs = .pointer (some ⟨b, o, none⟩)) (ho : OwnB I.tU8 w B (ρ 1) bs) (hlim : bs.length + (Jz (tl0 told ++ ux)).length ≤ lim)
  (hvx : vs < x) (hv1 : vs ≠ 1) (h1x : 1 < x) (hxe : x + 3 ≤ xe) (hxL : xe ≤ L) (hL : L ≤ u0) (hu : u0 ≤ u) (he : u + 19 ≤ e) (hN : e + 6 ≤ N)
  (htest : ∀ (ρ1 : Nat → Value) (Q' : UE), (∀ s, s < L → s ≠ x → ρ1 s = ρ s) → ρ1 x = .slice none 0 0 → (∀ ρ' w' sv', (∀ s, s < L → s ≠ x → ρ' s = ρ s) → ρ' x = sv' → TeAt I.tU32 w.heap.size w' sv' ((tl0 told).map (·.1)) → Below w.heap.size w w' → Q' .normal ρ' w') → RW P N test Q' ρ1 w)
  (hbody : ∀ X, told = some X → ∀ (ρ1 : Nat → Value) (w1 : World) (bs1 : List UInt8) (Q' : UE), (∀ s, s < L → s ≠ 1 → (s < x ∨ xe ≤ s) → ρ1 s = ρ s) → Below B w w1 → OwnB I.tU8 w1 B (ρ1 1) bs1 → bs1.length + (Jt (0, X)).length ≤ lim →
   (∀ ρ' w', (∀ s, s < u + 19 → s ≠ 1 → (s < x + 3 ∨ xe ≤ s) → ρ' s = ρ1 s) → OwnB I.tU8 w' B (ρ' 1) (bs1 ++ Jt (0, X)) → Below B w1 w' → Q' .normal ρ' w') → RW P N (.sc body) Q' ρ1 w1)
  (hQ : ∀ ρ' w', (∀ s, s < L → s ≠ 1 → (s < x ∨ xe ≤ s) → ρ' s = ρ s) → OwnB I.tU8 w' B (ρ' 1) (bs ++ Jz (tl0 told ++ ux)) → Below B w w' → Q .normal ρ' w') : RW P N (rows (ptBody I T vs tidx x b' test u body e)) Q ρ w := by
 have hol : (tl0 told).length ≤ 1 := by cases told <;> simp [tl0]
 generalize hout : tl0 told = out at hlim hQ htest hol
 have hlen : (Jz (out ++ ux)).length = (uv (out.length + ux.length)).length + ((out.flatMap Jt).length + (ux.flatMap Jt).length) := by
  unfold Jz; rw [UD, List.flatMap_append, UD, UD]
 rw [hlen] at hlim
 unfold ptBody
 refine RWL.rows ?_
 refine RW.rg (RL.s (MR.mv (v := .slice none 0 0) rfl rfl) (RL.nil ?_) (by omega))
 show RWL P N _ _ _ w
 refine htest _ _ (fun s h1 h2 => Jb _ _ h2) (Ja _ _ _) ?_
 intro ρ1 w1 te hp1 a2 a3 a4
 show RWL P N _ _ ρ1 w1
 have hb1 : Below B w w1 := a4.mono hB
 have ho1 : OwnB I.tU8 w1 B (ρ1 1) bs := by rw [hp1 1 (by omega) (by omega)]; exact ho.keep a4
 have hrep1 : RepT w1 (· < B) m ux := hrep.mono (fun _ h => h) (fun k hk => hb1.block k hk)
 have hr1 : w1.rangeAt b o cs := fun j z hz => by rw [Ji (hb1.block b hbB)]; exact hr j z hz
 have hcell1 : w1.cell? ⟨b, o + off, none⟩ = some m := hr1 _ _ hm
 obtain ⟨ad, cap, hteq, _⟩ := a3.val
 rw [List.length_map] at hteq
 have hB1 := Nat.le_trans hB hb1.size
 unfold ptCount
 refine RW.rg (RL.s (MR.mv (v := ρ1 1) rfl (ltT (by omega))) (RL.s (MR.mv (v := te) (by show upd _ _ _ x = _; (repeat first | rw [Ja] | rw [Jb _ _ (by omega)]); exact a2) (ltT (by omega))) (RL.s (MR.ln (p := ad) (n := out.length) (c := cap) kc.us (by rw [Ja, hteq]) (by omega)) (RL.s (MR.mv (v := .pointer (some ⟨b, o, none⟩)) (by show upd _ _ _ vs = _; (repeat first | rw [Ja] | rw [Jb _ _ (by omega)]); rw [hp1 vs (by omega) (by omega)]; exact hv) (ltT (by omega))) (RL.s (MR.nc (p := ⟨b, o, none⟩) (Ja _ _ _) (by omega)) (RL.s (MR.fa (Ja _ _ _) hF (by omega))
  (RL.ca (R := fun v w' => v = .int .i64 (ux.length : Nat) ∧ w' = w1) kc.len.1 ?_ ?_ (by omega) (by simp [MX.lt, Nat.blt_eq]; omega)) (by omega)) (by omega)) (by omega)) (by omega)) (by omega)) (by omega))
 ·simp only [List.map_cons, List.map_nil, xof]
  rw [Ja]
  refine (kc.len.2 w1 B ⟨b, o + off, none⟩ m ux hrep1 hcell1).mono ?_
  rintro e w' ⟨rfl, rfl⟩
  exact ⟨_, rfl, rfl, rfl⟩
 rintro v w1' ⟨rfl, rfl⟩
 refine RL.s (MR.biE (v := .int .i64 ((out.length + ux.length : Nat) : Int)) (by show evB .add (upd _ _ _ _) (upd _ _ _ _) = _; (repeat first | rw [Ja] | rw [Jb _ _ (by omega)]); show some (Value.int .i64 (IntKind.i64.wrap ((out.length : Int) + (ux.length : Int)))) = _; rw [Ju (by omega) (by omega)]; rfl) (ltT (by omega)) (ltT (by omega))) (RL.s (MR.cvI (n := ((out.length + ux.length : Nat) : Int)) (Ja _ _ _) kc.i1 kc.i2 (by omega)) ?_ (by omega)) (by omega)
 rw [show IntKind.u32.wrap ((out.length + ux.length : Nat) : Int) = ((out.length + ux.length : Nat) : Int) from Qx (by omega) (by omega)]
 refine RL.caG (R := fun _ _ x out => ∃ n : Nat, n < 4294967296 ∧ x = .int .u32 n ∧ out = uv n) kc.uv (B := B) (sv := ρ1 1) (bs := bs) (out := uv (out.length + ux.length)) (by (repeat first | rw [Ja] | rw [Jb _ _ (by omega)])) ho1 ⟨out.length + ux.length, by omega, by show upd _ _ _ _ = _; rw [Ja], rfl⟩ hB1 (by omega) (fun sv2 w2 c1 c2 c3 => RL.s (MR.mv (v := sv2) (Ja _ _ _) (ltT (by omega))) (RL.nil ?_) (by omega)) (by omega) (ltT (by omega)) (by omega)
 show RWL P N _ _ _ w2
 generalize hρ2 : upd (upd _ (u + 9) sv2) 1 sv2 = ρ2
 have p2 : ∀ s, s < L → s ≠ 1 → ρ2 s = ρ1 s := fun s h1 h2 => by rw [← hρ2]; (repeat first | rw [Ja] | rw [Jb _ _ (by omega)])
 have p21 : ρ2 1 = sv2 := by rw [← hρ2]; exact Ja _ _ _
 have hb2 : Below B w w2 := hb1.trans c2
 refine ptLoop_ok kc (L := L) (B := B) (B0 := w.heap.size) (told := told) (bs := bs ++ uv (out.length + ux.length)) (te := te) (by rw [hout]; exact a3.keep c3 kc.ne) (by rw [p2 x (by omega) (by omega)]; exact a2) (Nat.le_trans hB hb2.size) (by rw [p21]; exact c1) (by rw [hout, UD]; omega) h1x hxe hxL (by omega) (by omega) (by omega) ?_ ?_
 ·intro X hX ρ3 w3 bs1 Q' g1 g2 g3 g4 g5
  exact hbody X hX ρ3 w3 bs1 Q' (fun s h1 h2 h3 => by rw [g1 s h1 h2 h3, p2 s h1 h2, hp1 s h1 (by omega)]) (hb2.trans g2) g3 g4 g5
 intro ρ3 w3 d1 d2 d3
 show RWL P N _ _ ρ3 w3
 rw [hout] at d2
 have hb3 : Below B w w3 := hb2.trans d3
 have hrep3 : RepT w3 (· < B) m ux := hrep.mono (fun _ h => h) (fun k hk => hb3.block k hk)
 have hcell3 : w3.cell? ⟨b, o + off, none⟩ = some m := by rw [Ji (hb3.block b hbB)]; exact hr _ _ hm
 have hv3 : ρ3 vs = .pointer (some ⟨b, o, none⟩) := by rw [d1 vs (by omega) hv1 (.inl hvx), p2 vs (by omega) hv1, hp1 vs (by omega) (by omega)]; exact hv
 unfold ptEach
 refine RW.rg (RL.s (MR.mv hv3 (ltT (by omega))) (RL.s (MR.nc (p := ⟨b, o, none⟩) (Ja _ _ _) (by omega)) (RL.s (MR.fa (Ja _ _ _) hF (by omega)) (RL.s (MR.mv (v := ρ3 1) (by show upd _ _ _ 1 = _; (repeat first | rw [Ja] | rw [Jb _ _ (by omega)])) (ltT (by omega)))
  (RL.ca (R := fun sv4 w4 => OwnB I.tU8 w4 B sv4 (bs ++ uv (out.length + ux.length) ++ out.flatMap Jt ++ ux.flatMap Jt) ∧ Below B w3 w4) kc.each.1 ?_ ?_ (by omega) (by simp [MX.lt, Nat.blt_eq]; omega)) (by omega)) (by omega)) (by omega)) (by omega))
 ·simp only [List.map_cons, List.map_nil, xof]
  rw [Ja, Jb _ _ (by omega), Ja]
  refine (kc.each.2 w3 B ⟨b, o + off, none⟩ m (ρ3 1) ux (bs ++ uv (out.length + ux.length) ++ out.flatMap Jt) (Nat.le_trans hB hb3.size) hbB d2 hrep3 hS hcell3 (by simp only [UD]; omega)).mono ?_
  rintro e w' ⟨sv', rfl, h2⟩
  exact ⟨sv', rfl, h2⟩
 rintro sv4 w4 ⟨e1, e2⟩
 refine RL.s (MR.mv (v := sv4) (Ja _ _ _) (ltT (by omega))) (RL.nil ?_) (by omega)
 show Q .normal _ w4
 refine hQ _ w4 (fun s h1 h2 h3 => ?_) ?_ (hb3.trans e2)
 ·(repeat first | rw [Ja] | rw [Jb _ _ (by omega)])
  rw [d1 s h1 h2 h3, p2 s h1 h2, hp1 s h1 (by omega)]
 ·rw [Ja]
  have : bs ++ Jz (out ++ ux) = bs ++ uv (out.length + ux.length) ++ out.flatMap Jt ++ ux.flatMap Jt := by unfold Jz; simp
  rw [this]; exact e1
end
section
variable {P : Program} {N : Nat} {Q : UE} {ρ : Nat → Value} {w w' : World} {ms : List MOp} {I : IA} {S : List (Nat × List UInt8) → Prop}
theorem note_ok (kc : KtC P I S) {x n L B0 : Nat} (hx : ρ x = .slice none 0 0) (h1x : 1 < x) (hxL : x < L) (hL : L ≤ n) (hN : n + 3 ≤ N) (hB : B0 ≤ w.heap.size)
  (hQ : ∀ ρ' w' sv', (∀ s, s < L → s ≠ x → ρ' s = ρ s) → ρ' x = sv' → TeAt I.tU32 B0 w' sv' [0] → Below B0 w w' → Q .normal ρ' w') : RW P N (noteA I x n) Q ρ w := by
 have b1 := Jn w (.cells #[u32V 0] I.tU32)
 have s1 := J1 w (.cells #[u32V 0] I.tU32)
 have rg1 : (w.alloc (.cells #[u32V 0] I.tU32)).rangeAt w.heap.size 0 [u32V 0] := fun j v hj => JA w [u32V 0] I.tU32 hj
 have ht1 : TeAt I.tU32 B0 (w.alloc (.cells #[u32V 0] I.tU32)) (.slice none 0 0) [] := World.ownsRow_nil _ _ _ 1
 obtain ⟨sv', w', a1, a2, a3⟩ := run_ap32 (P := P) (w := w.alloc (.cells #[u32V 0] I.tU32)) (T := I.tU32s) (c := 1) kc.us kc.u ht1 rg1 (by simp) (Nat.le_trans hB (by omega))
 have B3 : Below B0 w w' := ((b1.mono hB)).grown a3 (Nat.le_trans hB (by omega)) (fun k hk => (World.ownsRow.lt ht1 k hk).1)
 unfold noteA
 refine RW.rg (RL.s (MR.mv (v := .slice none 0 0) hx (ltT (by omega))) (RL.s (MR.bslBy (v := .slice (some ⟨w.heap.size, 0, none⟩) 1 1) (w' := w.alloc (.cells #[u32V 0] I.tU32)) (run_bsl1 kc.us kc.u))
  (RL.s (MR.apBy (v := sv') (w' := w') (by rw [Ja, Jb _ _ (by omega), Ja]; exact a1 0) (fun ty => by rw [Ja, Jb _ _ (by omega), Ja]; exact a1 ty) (by omega) (by omega)) (RL.s (MR.mv (v := sv') (Ja _ _ _) (ltT (by omega))) (RL.nil ?_) (by omega)) (by omega)) (by omega)) (by omega))
 exact hQ _ w' sv' (fun s h1 h2 => by (repeat first | rw [Ja] | rw [Jb _ _ (by omega)])) (Ja _ _ _) a2 B3
theorem testL_ok (kc : KtC P I S) {T vs idx off ty ety x u L b o n c : Nat} {p : Option Addr} (hF : Jd P T idx off = true) (hp : Jm P ty = true) (hsl : Jk P ty ety = true) (hcell : w.cell? ⟨b, o + off, none⟩ = some (.slice p n c)) (hv : ρ vs = .pointer (some ⟨b, o, none⟩)) (hx : ρ x = .slice none 0 0)
  (h1x : 1 < x) (hvx : vs < x) (hxL : x < L) (hL : L ≤ u) (hN : u + 9 ≤ N)
  (hQ : ∀ ρ' w' sv', (∀ s, s < L → s ≠ x → ρ' s = ρ s) → ρ' x = sv' → TeAt I.tU32 w.heap.size w' sv' (if n = 0 then [] else [0]) → Below w.heap.size w w' → Q .normal ρ' w') : RW P N (ptTestL I T vs idx ty x u) Q ρ w := by
 unfold ptTestL
 refine RW.sq (RW.rg (RL.s (MR.mv hv (ltT (by omega))) (RL.s (MR.nc (p := ⟨b, o, none⟩) (Ja _ _ _) (by omega)) (RL.s (MR.fa (Ja _ _ _) hF (by omega)) (RL.s (MR.ld (Ja _ _ _) hp hcell (by omega)) (RL.s (MR.ln (p := p) (n := n) (c := c) hsl (Ja _ _ _) (by omega)) (RL.s (MR.biE (v := .bool (decide ((0 : Int) < (n : Nat)))) (by show evB .gtr (upd _ _ _ _) (.int .i64 0) = _; rw [Ja]; rfl) (ltT (by omega)) rfl) (RL.nil ?_) (by omega)) (by omega)) (by omega)) (by omega)) (by omega)) (by omega)))
 refine RW.cd (Ja _ _ _) (fun e => ?_) (fun e => RW.sk ?_) (by omega)
 ·have hn : n ≠ 0 := by have := of_decide_eq_true e; omega
  refine note_ok kc (L := L) (B0 := w.heap.size) (by (repeat first | rw [Ja] | rw [Jb _ _ (by omega)]); exact hx) h1x hxL (by omega) (by omega) (Nat.le_refl _) ?_
  intro ρ' w' sv' a1 a2 a3 a4
  rw [if_neg hn] at hQ
  exact hQ ρ' w' sv' (fun s h1 h2 => by rw [a1 s h1 h2]; (repeat first | rw [Ja] | rw [Jb _ _ (by omega)])) a2 a3 a4
 ·have hn : n = 0 := by have := of_decide_eq_false e; omega
  rw [if_pos hn] at hQ
  exact hQ _ w (.slice none 0 0) (fun s h1 h2 => by (repeat first | rw [Ja] | rw [Jb _ _ (by omega)])) (by (repeat first | rw [Ja] | rw [Jb _ _ (by omega)]); exact hx) (World.ownsRow_nil _ _ _ 1) (Below.refl _ _)
theorem testS_ok (kc : KtC P I S) (zs : ZsC P I.zNew I.zSame) {T vs idx off T' x u L b o B : Nat} {n1 n2 : Int} {m : Value} {ux : List (Nat × List UInt8)} (hF : Jd P T idx off = true) (hrow : QH P T' = true) (hcs : Jh P T' 3 = true) (hr : w.rangeAt b (o + off) [.int .i32 n1, .int .i32 n2, m]) (hrep : RepT w (· < B) m ux) (hB : B ≤ w.heap.size)
  (hv : ρ vs = .pointer (some ⟨b, o, none⟩)) (hx : ρ x = .slice none 0 0) (h1x : 1 < x) (hvx : vs < x) (hxL : x < L) (hL : L ≤ u) (hN : u + 10 ≤ N)
  (hQ : ∀ ρ' w' sv', (∀ s, s < L → s ≠ x → ρ' s = ρ s) → ρ' x = sv' → TeAt I.tU32 w.heap.size w' sv' (if (decide (n1 = 0) && decide (n2 = 0) && ux.isEmpty) = true then [] else [0]) → Below w.heap.size w w' → Q .normal ρ' w') : RW P N (ptTestS I T vs idx T' x u) Q ρ w := by
 have hbw : b < w.heap.size := World.block_lt_of_cell? w _ (hr 0 _ rfl)
 unfold ptTestS
 refine RW.sq (RW.gd kc.mo (Below w.heap.size w) ⟨rfl, rfl, rfl, Nat.le_refl _, fun _ _ => rfl⟩ ?_)
 refine RG.q (fun _ _ => MR.mv hv (ltT (by omega))) (RG.q (fun _ _ => MR.nc (p := ⟨b, o, none⟩) (Ja _ _ _) (by omega)) (RG.q (fun _ _ => MR.fa (Ja _ _ _) hF (by omega)) (RG.q (fun w' hS => MR.ldRow (b := b) (o := o + off) (cs := [.int .i32 n1, .int .i32 n2, m]) (Ja _ _ _) hrow hcs (fun j z hz => by rw [Ji (hS.block b hbw)]; exact hr j z hz) (by omega)) ?_ (hd := by omega)) (hd := by omega)) (hd := by omega)) (hd := by omega)
 refine RG.ca (R := fun v w' => v = .agg #[.int .i32 0, .int .i32 0, .map none] ∧ Below w.heap.size w w') zs.eN (fun hS => ?_) ?_ (hd := by omega) (hx := by simp)
 ·have hS' : Below w.heap.size w (World.drew1 w) := hS
  refine Calls.mono (zs.new _) ?_
  rintro e w' ⟨rfl, h⟩
  exact ⟨_, rfl, ⟨rfl, hS'.trans (h.mono hS'.size)⟩, hS'.trans (h.mono hS'.size)⟩
 rintro v w1 ⟨rfl, b1⟩
 refine RG.ca (R := fun v w' => v = .bool (decide (n1 = 0) && decide (n2 = 0) && ux.isEmpty) ∧ Below w.heap.size w w') zs.eS (fun _ => ?_) ?_ (hd := by omega) (hx := by simp [MX.lt, Nat.blt_eq]; omega)
 ·simp only [List.map_cons, List.map_nil, xof]
  (repeat first | rw [Ja] | rw [Jb _ _ (by omega)])
  refine Calls.mono (zs.same w1 B n1 n2 m ux (hrep.mono (fun _ h => h) (fun k hk => b1.block k (by omega)))) ?_
  rintro e w' ⟨rfl, h⟩
  exact ⟨_, rfl, ⟨rfl, b1.trans (h.mono b1.size)⟩, b1.trans (h.mono b1.size)⟩
 rintro v w2 ⟨rfl, b2⟩
 refine RG.q (fun _ _ => MR.nt (Ja _ _ _) (by omega)) (RG.nil fun _ => ?_) (hd := by omega)
 refine RW.cd (Ja _ _ _) (fun e => ?_) (fun e => RW.sk ?_) (by omega)
 ·have hn : ¬ ((decide (n1 = 0) && decide (n2 = 0) && ux.isEmpty) = true) := by intro h; rw [h] at e; cases e
  refine note_ok kc (L := L) (B0 := w.heap.size) (by (repeat first | rw [Ja] | rw [Jb _ _ (by omega)]); exact hx) h1x hxL (by omega) (by omega) b2.size ?_
  intro ρ' w' sv' a1 a2 a3 a4
  rw [if_neg hn] at hQ
  exact hQ ρ' w' sv' (fun s h1 h2 => by rw [a1 s h1 h2]; (repeat first | rw [Ja] | rw [Jb _ _ (by omega)])) a2 a3 (b2.trans a4)
 ·have hn : (decide (n1 = 0) && decide (n2 = 0) && ux.isEmpty) = true := by
   cases h : (decide (n1 = 0) && decide (n2 = 0) && ux.isEmpty) with
   | true => rfl
   | false => rw [h] at e; cases e
  rw [if_pos hn] at hQ
  exact hQ _ w2 (.slice none 0 0) (fun s h1 h2 => by (repeat first | rw [Ja] | rw [Jb _ _ (by omega)])) (by (repeat first | rw [Ja] | rw [Jb _ _ (by omega)]); exact hx) (World.ownsRow_nil _ _ _ 1) b2
end
set_option linter.unusedVariables false
theorem setC_shape {g T : Nat} {fr : Nat × Nat} : ∀ (vs : List Value) (o : Nat) (w : World) (cur : Array Value), w.heap[g]? = some (.cells cur T fr) → ∃ cur', (w.setCells g o vs).heap[g]? = some (.cells cur' T fr)
 | [], o, w, cur, h => ⟨cur, h⟩
 | v :: vs, o, w, cur, h => by
  have h1 : (w.setCell ⟨g, o, none⟩ v).heap[g]? = some (.cells (cur.setIfInBounds o v) T fr) := by
   simp only [World.setCell]
   rw [Array.getElem?_modify, if_pos rfl, h]
   simp
  exact setC_shape vs (o + 1) _ _ h1
section
variable {P : Program} {N : Nat} {Q : UE} {ρ : Nat → Value} {w w' : World} {ms : List MOp} {I : IA} {S : List (Nat × List UInt8) → Prop}
theorem RL.albox {d T x : Nat} {z : List Value} {v0 v1 v2 : Value} (hz : ∃ i, P.info? T = some i ∧ i.zero = some (.agg z.toArray)) (hx : ρ x = .agg #[v0, v1, v2]) (hxd : x ≠ d) (hzn : z.length = 3) (hT : Jh P T 3 = true) (h1 : [v0, v1, v2].all (·.oneCell') = true)
  (h : ∀ w', Below w.heap.size w w' → w'.heap.size = w.heap.size + 1 → w'.rangeAt w.heap.size 0 [v0, v1, v2] → (∃ cur, w'.heap[w.heap.size]? = some (.cells cur T (0, 0))) → RL P N ms Q (upd ρ d (.pointer (some ⟨w.heap.size, 0, none⟩))) w')
  (hd : d < N) (hxN : x < N) : RL P N (.al d T :: .st T d x :: ms) Q ρ w := by
 obtain ⟨i, hi, hzv⟩ := hz
 refine RL.s (MR.al ⟨i, hi, hzv⟩) ?_ hd
 have ht : (w.alloc (.cells z.toArray T)).there w.heap.size 0 3 := by rw [← hzn]; exact Qm w z T
 have e : (Value.agg #[v0, v1, v2]).cells.toList = [v0, v1, v2] := rfl
 refine RL.st (b := w.heap.size) (o := 0) (Ja _ _ _) (by rw [Jb _ _ hxd, hx]; exact hT) (by rw [Jb _ _ hxd, hx]; exact ht) (by rw [Jb _ _ hxd, hx, ← Array.all_toList]; exact h1) ?_ hd hxN
 rw [Jb _ _ hxd, hx, e]
 have hh : (w.alloc (.cells z.toArray T)).heap[w.heap.size]? = some (.cells z.toArray T (0, 0)) := by
  show (w.heap.push _)[w.heap.size]? = _
  simp
 refine h _ ?_ ?_ ?_ (setC_shape _ _ _ _ hh)
 ·exact JD (Nat.le_refl _) _ _ (Jn w _)
 ·rw [Qr, J1]
 ·exact World.rangeAt_setCells_same _ _ _ _ ht
theorem boxNum_ok (kc : KtC P I S) {T' y idx off ty x t bx B : Nat} {n : Int} {bs : List UInt8} (h32 : I.fn .i32 false ≠ 0) (hF : Jd P T' idx off = true) (hp : Jm P ty = true) (hy : ρ y = .pointer (some ⟨bx, 0, none⟩)) (hc : w.cell? ⟨bx, off, none⟩ = some (.int .i32 n)) (hn : NumP .i32 (.int .i32 n) n)
  (ho : OwnB I.tU8 w B (ρ 1) bs) (hB : B ≤ w.heap.size) (hlim : bs.length + (encP .i32 false (.n n)).length ≤ lim) (h1x : 1 < x) (hxt : x < t) (hyt : y < t) (hN : t + 5 ≤ N)
  (hQ : ∀ ρ' w', (∀ s, s < t → s ≠ 1 → s ≠ x → ρ' s = ρ s) → OwnB I.tU8 w' B (ρ' 1) (bs ++ encP .i32 false (.n n)) → Below B w w' → NrT I.tU8 w w' → Q .normal ρ' w') :
  RW P N (.sq (.rg [.fa t T' y idx, .ld (t + 1) ty t, .mv x (.t (t + 1))]) (callA (I.fn .i32 false) x (t + 2)).1) Q ρ w := by
 refine RW.sq (RW.rg (RL.s (MR.fa hy hF (by omega)) (RL.s (MR.ld (Ja _ _ _) hp (by rw [Nat.zero_add]; exact hc) (by omega)) (RL.s (MR.mv (Ja _ _ _) (ltT (by omega))) (RL.nil ?_) (by omega)) (by omega)) (by omega)))
 show RW P N (.rg [.mv (t + 2) (.t 1), .mv (t + 2 + 1) (.t x), .ca (t + 2 + 2) (I.fn .i32 false) [.t (t + 2), .t (t + 2 + 1)], .mv 1 (.t (t + 2 + 2))]) Q _ w
 refine RW.rg (RL.s (MR.mv (v := ρ 1) (by show upd _ _ _ 1 = _; (repeat first | rw [Ja] | rw [Jb _ _ (by omega)])) (ltT (by omega))) (RL.s (MR.mv (v := .int .i32 n) (by show upd _ _ _ x = _; (repeat first | rw [Ja] | rw [Jb _ _ (by omega)])) (ltT (by omega))) (RL.caG (kc.num .i32 rfl h32) (B := B) (sv := ρ 1) (bs := bs) (out := encP .i32 false (.n n)) (by (repeat first | rw [Ja] | rw [Jb _ _ (by omega)])) ho ⟨n, by show NumP .i32 (upd _ _ _ _) n; rw [Ja]; exact hn, rfl⟩ hB hlim
  (fun sv' w4 d1 d2 d3 => RL.s (MR.mv (v := sv') (Ja _ _ _) (ltT (by omega))) (RL.nil ?_) (by omega)) (by omega) (ltT (by omega)) (by omega)) (by omega)) (by omega))
 exact hQ _ w4 (fun s h1 h2 h3 => by (repeat first | rw [Ja] | rw [Jb _ _ (by omega)])) (by rw [Ja]; exact d1) d2 d3
theorem boxT_ok (kc : KtC P I S) {T' s y tidx off t bx B : Nat} {m : Value} {ux : List (Nat × List UInt8)} {bs : List UInt8} (hF : Jd P T' tidx off = true) (hs : ρ s = .bool true) (hy : ρ y = .pointer (some ⟨bx, 0, none⟩)) (hc : w.cell? ⟨bx, off, none⟩ = some m) (hbx : ∀ cur, w.heap[bx]? ≠ some (.cells cur I.tU8 (0, 0))) (hrep : RepT w (· < B) m ux) (hsm : ux.length ≤ 40000) (hS : S ux)
  (ho : OwnB I.tU8 w B (ρ 1) bs) (hB : B ≤ w.heap.size) (hlim : bs.length + (Jz ux).length ≤ lim) (hst : s < t) (hyt : y < t) (h1y : 1 < y) (h1t : 1 < t) (hN : t + 10 ≤ N)
  (hQ : ∀ ρ' w', (∀ s, s < t → s ≠ 1 → ρ' s = ρ s) → OwnB I.tU8 w' B (ρ' 1) (bs ++ Jz ux) → Below B w w' → NrT I.tU8 w w' → Q .normal ρ' w') : RW P N (boxT I s T' y tidx t) Q ρ w := by
 have hlen : (Jz ux).length = (uv ux.length).length + (ux.flatMap Jt).length := by unfold Jz; rw [UD]
 rw [hlen] at hlim
 unfold boxT
 refine RW.sq (RW.rg (RL.s (MR.mv hs (ltT (by omega))) (RL.nil ?_) (by omega)))
 refine RW.cd (b := true) (Ja _ _ _) (fun _ => ?_) (fun e => by cases e) (by omega)
 refine RW.sq (RW.rg (RL.s (MR.mv (v := ρ 1) (by show upd _ _ _ 1 = _; (repeat first | rw [Ja] | rw [Jb _ _ (by omega)])) (ltT (by omega))) (RL.s (MR.fa (b := bx) (o := 0) (by (repeat first | rw [Ja] | rw [Jb _ _ (by omega)]); exact hy) hF (by omega)) (RL.ca (R := fun v w' => v = .int .i64 (ux.length : Nat) ∧ w' = w) kc.len.1 ?_ ?_ (by omega) (by simp [MX.lt, Nat.blt_eq]; omega)) (by omega)) (by omega)))
 ·simp only [List.map_cons, List.map_nil, xof]
  rw [Ja]
  refine (kc.len.2 w B ⟨bx, 0 + off, none⟩ m ux hrep (by rw [Nat.zero_add]; exact hc)).mono ?_
  rintro e w' ⟨rfl, rfl⟩
  exact ⟨_, rfl, rfl, rfl⟩
 rintro v w1 ⟨rfl, rfl⟩
 refine RL.s (MR.cvI (n := ((ux.length : Nat) : Int)) (Ja _ _ _) kc.i1 kc.i2 (by omega)) ?_ (by omega)
 rw [show IntKind.u32.wrap ((ux.length : Nat) : Int) = ((ux.length : Nat) : Int) from Qx (by omega) (by omega)]
 refine RL.s (MR.biE (v := .int .u32 ((ux.length : Nat) : Int)) (by show evB .add (.int .u32 0) (upd _ _ _ _) = _; rw [Ja]; show some (Value.int .u32 (IntKind.u32.wrap ((0 : Int) + (ux.length : Int)))) = _; rw [Qx (by omega) (by omega)]; simp) rfl (ltT (by omega))) ?_ (by omega)
 refine RL.caG (R := fun _ _ x out => ∃ n : Nat, n < 4294967296 ∧ x = .int .u32 n ∧ out = uv n) kc.uv (B := B) (sv := ρ 1) (bs := bs) (out := uv ux.length) (by (repeat first | rw [Ja] | rw [Jb _ _ (by omega)])) ho ⟨ux.length, by omega, by show upd _ _ _ _ = _; rw [Ja], rfl⟩ hB (by omega) (fun sv2 w2 c1 c2 c3 => RL.s (MR.mv (v := sv2) (Ja _ _ _) (ltT (by omega))) (RL.nil ?_) (by omega)) (by omega) (ltT (by omega)) (by omega)
 have hbw : bx < w1.heap.size := World.block_lt_of_cell? w1 _ hc
 have hblk : w2.heap[bx]? = w1.heap[bx]? := c3.2 bx hbw hbx
 refine RW.rg (RL.s (MR.fa (b := bx) (o := 0) (by (repeat first | rw [Ja] | rw [Jb _ _ (by omega)]); exact hy) hF (by omega)) (RL.s (MR.mv (v := sv2) (by show upd _ _ _ 1 = _; (repeat first | rw [Ja] | rw [Jb _ _ (by omega)])) (ltT (by omega)))
  (RL.ca (R := fun sv4 w4 => OwnB I.tU8 w4 B sv4 (bs ++ uv ux.length ++ ux.flatMap Jt) ∧ Below B w2 w4 ∧ NrT I.tU8 w2 w4) kc.eachG.1 ?_ ?_ (by omega) (by simp [MX.lt, Nat.blt_eq]; omega)) (by omega)) (by omega))
 ·simp only [List.map_cons, List.map_nil, xof]
  rw [Ja, Jb _ _ (by omega), Ja]
  refine (kc.eachG.2 w2 B ⟨bx, 0 + off, none⟩ m sv2 ux (bs ++ uv ux.length) (Nat.le_trans hB c2.size) (.inr fun cur => by rw [hblk]; exact hbx cur) c1 (hrep.mono (fun _ h => h) (fun k hk => c2.block k hk)) hS (by rw [Ji hblk, Nat.zero_add]; exact hc) (by rw [UD]; omega)).mono ?_
  rintro e w' ⟨sv', rfl, h2⟩
  exact ⟨sv', rfl, h2⟩
 rintro sv4 w4 ⟨e1, e2, e3⟩
 refine RL.s (MR.mv (v := sv4) (Ja _ _ _) (ltT (by omega))) (RL.nil ?_) (by omega)
 refine hQ _ w4 (fun s h1 h2 => ?_) ?_ (c2.trans e2) (c3.trans e3)
 ·(repeat first | rw [Ja] | rw [Jb _ _ (by omega)])
 ·rw [Ja]
  have : bs ++ Jz ux = bs ++ uv ux.length ++ ux.flatMap Jt := by unfold Jz; simp
  rw [this]; exact e1
end
section
variable {P : Program} {N : Nat} {Q : UE} {ρ : Nat → Value} {w w' : World} {ms : List MOp} {I : IA} {S : List (Nat × List UInt8) → Prop}
def s2X (n1 n2 : Int) (ux : List (Nat × List UInt8)) : List UInt8 := encP .i32 false (.n n1) ++ (encP .i32 false (.n n2) ++ Jz ux)
def s2U (n1 n2 : Int) (ux : List (Nat × List UInt8)) : Bool := decide (n1 = 0) && decide (n2 = 0) && ux.isEmpty
theorem payS_ok (kc : KtC P I S) (zs : ZsC P I.zNew I.zSame) {s T vs idx off tidx toff lbl T' i1 i2 o1 o2 t1 t2 tidx' t x b' L B b o : Nat} {c1 c2 : Cnd} {d1 d2 n1 n2 : Int} {cs : List Value} {m m' : Value} {ux ux' : List (Nat × List UInt8)} {bs : List UInt8} {z : List Value}
  (h32 : I.fn .i32 false ≠ 0) (hF : Jd P T idx off = true) (hFt : Jd P T tidx toff = true) (f1 : Jd P T' i1 0 = true) (f2 : Jd P T' i2 1 = true) (f3 : Jd P T' tidx' 2 = true) (p1 : Jm P t1 = true) (p2 : Jm P t2 = true)
  (hrow : QH P T' = true) (hcs : Jh P T' 3 = true) (hz : ∃ i, P.info? T' = some i ∧ i.zero = some (.agg z.toArray)) (hzn : z.length = 3) (hne : T' ≠ I.tU8)
  (hr : w.rangeAt b o cs) (g0 : cs[off]? = some (.int .i32 n1)) (g1 : cs[off + 1]? = some (.int .i32 n2)) (g2 : cs[off + 2]? = some m') (hm1 : m'.oneCell' = true) (k1 : NumP .i32 (.int .i32 n1) n1) (k2 : NumP .i32 (.int .i32 n2) n2) (hrep' : RepT w (· < B) m' ux') (hsm' : ux'.length ≤ 40000) (hS' : S ux')
  (gt : cs[toff]? = some m) (hrep : RepT w (· < B) m ux) (hsm : ux.length ≤ 40000) (hS : S ux) (hbB : b < B) (hB : B ≤ w.heap.size) (hv : ρ vs = .pointer (some ⟨b, o, none⟩)) (hs : ρ s = .bool true) (ho : OwnB I.tU8 w B (ρ 1) bs)
  (hlim : bs.length + (Jz ((if s2U n1 n2 ux' then [] else [(0, s2X n1 n2 ux')]) ++ ux)).length ≤ lim)
  (hvx : vs < x) (hv1 : vs ≠ 1) (hsx : s < x) (hs1 : s ≠ 1) (h1x : 1 < x) (hxL : x + 8 ≤ L) (hL : L ≤ t) (hN : t + 74 ≤ N)
  (hQ : ∀ ρ' w', (∀ s, s < L → s ≠ 1 → (s < x ∨ x + 8 ≤ s) → ρ' s = ρ s) → OwnB I.tU8 w' B (ρ' 1) (bs ++ Jz ((if s2U n1 n2 ux' then [] else [(0, s2X n1 n2 ux')]) ++ ux)) → Below B w w' → Q .normal ρ' w') :
  RW P N (rows (payS I s T vs idx tidx lbl T' (.cons c1 i1 o1 d1 (.prim .i32 t1) (.cons c2 i2 o2 d2 (.prim .i32 t2) .nil)) tidx' t x b').1) Q ρ w := by
 have htl : tl0 (if s2U n1 n2 ux' then none else some (s2X n1 n2 ux')) = (if s2U n1 n2 ux' then [] else [(0, s2X n1 n2 ux')]) := by split <;> rfl
 rw [← htl] at hlim hQ
 have hr3 : w.rangeAt b (o + off) [.int .i32 n1, .int .i32 n2, m'] := fun j v hj => by
  match j, hj with
  | 0, hj => simp only [List.getElem?_cons_zero, UC] at hj; subst hj; exact hr _ _ g0
  | 1, hj => simp only [List.getElem?_cons_succ, List.getElem?_cons_zero, UC] at hj; subst hj; rw [Nat.add_assoc]; exact hr _ _ g1
  | 2, hj => simp only [List.getElem?_cons_succ, List.getElem?_cons_zero, UC] at hj; subst hj; rw [Nat.add_assoc]; exact hr _ _ g2
  | j + 3, hj => simp at hj
 have hXe : s2X n1 n2 ux' = encP .i32 false (.n n1) ++ (encP .i32 false (.n n2) ++ Jz ux') := rfl
 simp only [payS, boxF]
 refine ptBody_ok kc (L := L) (xe := x + 8) (u0 := t) (u := t + 10) (B := B) (b := b) (o := o) (cs := cs) (told := if s2U n1 n2 ux' then none else some (s2X n1 n2 ux')) (ux := ux) (bs := bs) (m := m) hFt gt hrep hsm hS hr hbB hB hv ho hlim hvx hv1 h1x (by omega) hxL hL (by omega) (by omega) (by omega) ?_ ?_ hQ
 ·intro ρ1 Q' q1 q2 hQ'
  refine testS_ok kc zs (L := L) (b := b) (o := o) (B := B) (n1 := n1) (n2 := n2) (m := m') (ux := ux') hF hrow hcs hr3 hrep' hB (by rw [q1 vs (by omega) (by omega)]; exact hv) q2 h1x hvx (by omega) (by omega) (by omega) ?_
  intro ρ' w' sv' a1 a2 a3 a4
  refine hQ' ρ' w' sv' (fun s h1 h2 => by rw [a1 s h1 h2, q1 s h1 h2]) a2 ?_ a4
  rw [htl]
  show TeAt I.tU32 w.heap.size w' sv' _
  have e : (List.map (fun x => x.1) (if s2U n1 n2 ux' = true then [] else [(0, s2X n1 n2 ux')])) = (if (decide (n1 = 0) && decide (n2 = 0) && ux'.isEmpty) = true then [] else [0]) := by
   show _ = (if s2U n1 n2 ux' = true then [] else [0])
   split <;> rfl
  rw [e]; exact a3
 ·intro X hX ρ1 w1 bs1 Q' q1 b1 ob1 hlim1 hQ'
  obtain rfl : X = s2X n1 n2 ux' := by
   split at hX
   ·cases hX
   ·exact (Option.some.inj hX).symm
  have hB1 := Nat.le_trans hB b1.size
  have hv1' : ρ1 vs = .pointer (some ⟨b, o, none⟩) := by rw [q1 vs (by omega) hv1 (.inl hvx)]; exact hv
  have hs1' : ρ1 s = .bool true := by rw [q1 s (by omega) hs1 (.inl hsx)]; exact hs
  have hr1 : w1.rangeAt b (o + off) [.int .i32 n1, .int .i32 n2, m'] := fun j v hj => by rw [Ji (b1.block b hbB)]; exact hr3 j v hj
  have hrep1 : RepT w1 (· < B) m' ux' := hrep'.mono (fun _ h => h) (fun k hk => b1.block k hk)
  refine twice_ok kc kc.u8s kc.u8i (z := x + 4) (t := t + 29 + 4) (tk := t + 29) (tc := t + 29 + 8) (t2 := t + 29 + 8 + 5 + 5 + 10) (xe := x + 8) (B := B) (bs := bs1) (X := s2X n1 n2 ux') (N := N) (cs := [.sq (.rg [.fa (t + 29 + 8) T' (x + 3) i1, .ld (t + 29 + 8 + 1) t1 (t + 29 + 8), .mv (x + 6) (.t (t + 29 + 8 + 1))]) (callA (I.fn .i32 false) (x + 6) (t + 29 + 8 + 2)).1, .sq (.rg [.fa (t + 29 + 8 + 5) T' (x + 3) i2, .ld (t + 29 + 8 + 5 + 1) t2 (t + 29 + 8 + 5), .mv (x + 6 + 1) (.t (t + 29 + 8 + 5 + 1))]) (callA (I.fn .i32 false) (x + 6 + 1) (t + 29 + 8 + 5 + 2)).1, boxT I s T' (x + 3) tidx' (t + 29 + 8 + 5 + 5)])
   (h := .rg [.mv (t + 29) (.t vs), .nc (t + 29 + 1) (t + 29), .fa (t + 29 + 2) T (t + 29 + 1) idx, .ld (t + 29 + 3) T' (t + 29 + 2), .al (x + 3) T', .st T' (x + 3) (t + 29 + 3)]) (lbl := lbl) rfl
   (fun ρ w => ∃ bx, ρ (x + 3) = .pointer (some ⟨bx, 0, none⟩) ∧ (∀ cur, w.heap[bx]? ≠ some (.cells cur I.tU8 (0, 0))) ∧ w.rangeAt bx 0 [.int .i32 n1, .int .i32 n2, m'] ∧ ρ s = .bool true ∧ RepT w (· < B) m' ux')
   (by omega) (by omega) (by omega) (by omega) (by omega) (by omega) (by omega) hlim1 hB1 ?_ ?_ ?_ ?_
  ·rintro ρa ρb wa wb ⟨bx, y1, y2, y3, y4, y5⟩ hk hb hn
   have hbx : bx < wa.heap.size := World.block_lt_of_cell? wa _ (y3 0 _ rfl)
   have e := hn.2 bx hbx y2
   exact ⟨bx, by rw [hk (x + 3) (by omega) (by omega)]; exact y1, fun cur => by rw [e]; exact y2 cur, fun j v hj => by rw [Ji e]; exact y3 j v hj, by rw [hk s (by omega) hs1]; exact y4, y5.mono (fun _ h => h) (fun k hk => hb.block k hk)⟩
  ·intro Q'' hh
   refine RW.rg (RL.s (MR.mv hv1' (ltT (by omega))) (RL.s (MR.nc (p := ⟨b, o, none⟩) (Ja _ _ _) (by omega)) (RL.s (MR.fa (Ja _ _ _) hF (by omega)) (RL.s (MR.ldRow (b := b) (o := o + off) (cs := [.int .i32 n1, .int .i32 n2, m']) (Ja _ _ _) hrow hcs hr1 (by omega)) (RL.albox (v0 := .int .i32 n1) (v1 := .int .i32 n2) (v2 := m') hz (Ja _ _ _) (by omega) hzn hcs (by simp only [List.all_cons, List.all_nil, hm1, Bool.and_true]; rfl) ?_ (by omega) (by omega)) (by omega)) (by omega)) (by omega)) (by omega))
   intro w2 b2 s2 r2 t2'
   refine RL.nil (hh _ w2 ⟨w1.heap.size, Ja _ _ _, fun cur e => ?_, r2, ?_, hrep1.mono (fun _ h => h) (fun k hk => b2.block k (by omega))⟩ (fun s h1 h2 => ?_) ?_ (b2.mono hB1))
   ·obtain ⟨cur', e'⟩ := t2'
    rw [e'] at e
    simp only [UC, Obj.cells.injEq] at e
    exact hne e.2.1
   ·(repeat first | rw [Ja] | rw [Jb _ _ (by omega)]); exact hs1'
   ·(repeat first | rw [Ja] | rw [Jb _ _ (by omega)])
   ·(repeat first | rw [Ja] | rw [Jb _ _ (by omega)]); exact ob1.keep b2
  ·rintro ρ2 w2 bs2 Q'' ⟨bx, y1, y2, y3, y4, y5⟩ o2 hl2 hB2 hQ2
   rw [hXe, UD, UD] at hl2
   have hbx : bx < w2.heap.size := World.block_lt_of_cell? w2 _ (y3 0 _ rfl)
   have nx : ∀ (ρ3 : Nat → Value) (w3 : World), NrT I.tU8 w2 w3 → Below B w2 w3 → (∀ cur, w3.heap[bx]? ≠ some (.cells cur I.tU8 (0, 0))) ∧ w3.rangeAt bx 0 [.int .i32 n1, .int .i32 n2, m'] ∧ RepT w3 (· < B) m' ux' := fun ρ3 w3 hn hb => by
    have e := hn.2 bx hbx y2
    exact ⟨fun cur => by rw [e]; exact y2 cur, fun j v hj => by rw [Ji e]; exact y3 j v hj, y5.mono (fun _ h => h) (fun k hk => hb.block k hk)⟩
   refine boxNum_ok kc (T' := T') (y := x + 3) (x := x + 6) (t := t + 29 + 8) (bx := bx) (B := B) (n := n1) (bs := bs2) h32 f1 p1 y1 (by have := y3 0 _ rfl; simpa using this) k1 o2 hB2 (by omega) (by omega) (by omega) (by omega) (by omega) ?_
   intro ρ3 w3 a1 a2 a3 a4
   show RWL P N _ _ ρ3 w3
   obtain ⟨y2', y3', y5'⟩ := nx ρ3 w3 a4 a3
   refine boxNum_ok kc (T' := T') (y := x + 3) (x := x + 6 + 1) (t := t + 29 + 8 + 5) (bx := bx) (B := B) (n := n2) (bs := bs2 ++ encP .i32 false (.n n1)) h32 f2 p2 (by rw [a1 (x + 3) (by omega) (by omega) (by omega)]; exact y1) (by have := y3' 1 _ rfl; simpa using this) k2 a2 (Nat.le_trans hB2 a3.size) (by rw [UD]; omega) (by omega) (by omega) (by omega) (by omega) ?_
   intro ρ4 w4 e1 e2 e3 e4
   show RWL P N _ _ ρ4 w4
   obtain ⟨y2'', y3'', y5''⟩ := nx ρ4 w4 (a4.trans e4) (a3.trans e3)
   refine boxT_ok kc (T' := T') (s := s) (y := x + 3) (tidx := tidx') (off := 2) (t := t + 29 + 8 + 5 + 5) (bx := bx) (B := B) (m := m') (ux := ux') (bs := bs2 ++ encP .i32 false (.n n1) ++ encP .i32 false (.n n2)) f3 (by rw [e1 s (by omega) hs1 (by omega), a1 s (by omega) hs1 (by omega)]; exact y4) (by rw [e1 (x + 3) (by omega) (by omega) (by omega), a1 (x + 3) (by omega) (by omega) (by omega)]; exact y1) (by have := y3'' 2 _ rfl; simpa using this) y2'' y5'' hsm' hS' e2 (Nat.le_trans hB2 (Nat.le_trans a3.size e3.size)) (by simp only [UD]; omega) (by omega) (by omega) (by omega) (by omega) (by omega) ?_
   intro ρ5 w5 j1 j2 j3 j4
   show Q'' .normal ρ5 w5
   obtain ⟨z2, z3, z5⟩ := nx ρ5 w5 ((a4.trans e4).trans j4) ((a3.trans e3).trans j3)
   have keep : ∀ s', s' < t + 29 + 8 → s' ≠ 1 → (s' < x + 4 + 2 ∨ x + 8 ≤ s') → ρ5 s' = ρ2 s' := fun s' h1 h2 h3 => by rw [j1 s' (by omega) h2, e1 s' (by omega) h2 (by omega), a1 s' (by omega) h2 (by omega)]
   refine hQ2 ρ5 w5 keep ?_ ((a3.trans e3).trans j3) ⟨bx, by rw [keep (x + 3) (by omega) (by omega) (by omega)]; exact y1, z2, z3, by rw [keep s (by omega) hs1 (by omega)]; exact y4, z5⟩
   have : bs2 ++ s2X n1 n2 ux' = bs2 ++ encP .i32 false (.n n1) ++ encP .i32 false (.n n2) ++ Jz ux' := by rw [hXe]; simp
   rw [this]; exact j2
  ·intro ρ' w' a1 a2 a3
   exact hQ' ρ' w' (fun s h1 h2 h3 => a1 s (by omega) h2 (by omega)) a2 a3
end
section
variable {P : Program} {N : Nat} {Q : UE} {ρ : Nat → Value} {w w' : World} {ms : List MOp} {I : IA} {S : List (Nat × List UInt8) → Prop}
theorem RW.ofWrites {U B L x x' : Nat} {m : Jc} {out bs : List UInt8} (hW : JB P U B N L m ρ w x x' out) (hL : L ≤ N) (ho : OwnB U w B (ρ 1) bs) (hlim : bs.length + out.length ≤ lim) (h1 : 1 < L)
  (hQ : ∀ ρ' w', Keep L x x' ρ ρ' → OwnB U w' B (ρ' 1) (bs ++ out) → Below B w w' → Q .normal ρ' w') : RW P N m Q ρ w := by
 intro a ha
 refine hW a bs _ (ha.less hL) ho hlim ?_
 intro a' w' ρ' g1 g2 g3 g4
 exact ⟨rd a', ⟨g1.size, g1.defers, fun _ _ => rfl⟩, hQ _ w' (fun s hs h0 h5 => by rw [g1.get s hs]; exact g2 s hs h0 h5) (by rw [g1.get 1 h1]; exact g3) g4⟩
theorem RW.ofSets {L x : Nat} {m : Jc} {v : Value} (hW : Sets P N L m ρ w x v) (hL : L ≤ N) (hQ : ∀ ρ', (∀ s, s < L → ρ' s = upd ρ x v s) → Q .normal ρ' w) : RW P N m Q ρ w := by
 intro a ha
 refine hW a _ (ha.less hL) ?_
 intro a' g1
 exact ⟨rd a', ⟨g1.size, g1.defers, fun _ _ => rfl⟩, hQ _ fun s hs => g1.get s hs⟩
theorem JK.slots {U B L : Nat} (h1L : 1 < L) : ∀ {cs : List Jc} {ρ ρ' : Nat → Value} {w : World} {x x' : Nat} {out : List UInt8}, (∀ s, s < L → ρ' s = ρ s) → JK P U B N L cs ρ w x x' out → JK P U B N L cs ρ' w x x' out
 | [], _, _, _, _, _, _, _, h => h
 | c :: cs, ρ, ρ', w, x, x', out, he, h => by
  have loc : ∀ {r r' : Nat → Value} {a : Act}, (∀ s, s < L → r' s = r s) → Loc N L r a → Loc N L r' a := fun hh hl => ⟨hl.size, hl.defers, fun s hs => by rw [hl.get s hs, hh s hs]⟩
  rcases h with ⟨o1, o2, y, rfl, h1, h2, h3, h4⟩ | ⟨v, h1, h2, h3, h4⟩
  ·refine .inl ⟨o1, o2, y, rfl, h1, h2, ?_, fun ρ2 w2 k b => h4 ρ2 w2 (fun s hs h0 h5 => by rw [k s hs h0 h5, he s hs]) b⟩
   intro a bs Q hl ho hlim hQ
   refine h3 a bs Q (loc (fun s hs => (he s hs).symm) hl) (by rw [← he 1 h1L]; exact ho) hlim ?_
   intro a' w' ρ2 g1 g2 g3 g4
   exact hQ a' w' ρ2 g1 (fun s hs h0 h5 => by rw [g2 s hs h0 h5, he s hs]) g3 g4
  ·refine .inr ⟨v, h1, h2, ?_, JK.slots h1L (fun s hs => ?_) h4⟩
   ·intro a Q hl hQ
    refine h3 a Q (loc (fun s hs => (he s hs).symm) hl) ?_
    intro a' g1
    refine hQ a' (loc (fun s hs => ?_) g1)
    by_cases e : s = x
    ·subst e; rw [Ja, Ja]
    ·rw [Jb _ _ e, Jb _ _ e, he s hs]
   ·by_cases e : s = x
    ·subst e; rw [Ja, Ja]
    ·rw [Jb _ _ e, Jb _ _ e, he s hs]
theorem RWL.ofWritesL {U B L : Nat} (hL : L ≤ N) (h1 : 1 < L) : ∀ {cs : List Jc} {ρ : Nat → Value} {w : World} {x x' : Nat} {out bs : List UInt8} {Q : UE}, JK P U B N L cs ρ w x x' out → OwnB U w B (ρ 1) bs → bs.length + out.length ≤ lim →
  (∀ ρ' w', Keep L x x' ρ ρ' → OwnB U w' B (ρ' 1) (bs ++ out) → Below B w w' → Q .normal ρ' w') → RWL P N cs Q ρ w
 | [], ρ, w, x, x', out, bs, Q, h, ho, hlim, hQ => by
  obtain ⟨rfl, rfl⟩ := h
  exact hQ ρ w (Keep.refl _ _ _ _) (by simpa using ho) (Below.refl _ _)
 | c :: cs, ρ, w, x, x', out, bs, Q, h, ho, hlim, hQ => by
  show RW P N c _ ρ w
  rcases h with ⟨o1, o2, y, rfl, k1, k2, k3, k4⟩ | ⟨v, k1, k2, k3, k4⟩
  ·rw [UD] at hlim
   refine RW.ofWrites k3 hL ho (by omega) h1 ?_
   intro ρ1 w1 g1 g2 g3
   refine RWL.ofWritesL hL h1 (k4 ρ1 w1 g1 g3) g2 (by rw [UD]; omega) ?_
   intro ρ2 w2 j1 j2 j3
   exact hQ ρ2 w2 (g1.trans j1 k1 k2) (by rw [← List.append_assoc]; exact j2) (g3.trans j3)
  ·refine RW.ofSets k3 hL ?_
   intro ρ1 g1
   have ho1 : OwnB U w B (ρ1 1) bs := by rw [g1 1 h1, Jb _ _ (Ne.symm k1)]; exact ho
   refine RWL.ofWritesL hL h1 (JK.slots h1 g1 k4) ho1 hlim ?_
   intro ρ2 w2 j1 j2 j3
   exact hQ ρ2 w2 (fun s hs h0 h5 => by rw [j1 s hs h0 (by omega), g1 s hs, Jb _ _ (by omega)]) j2 j3
theorem payL_ok (kc : KtC P I S) {T vs idx off tidx toff lbl ty ety t x xe b' L B b o n cap tw : Nat} {p : Option Addr} {cc : List Jc} {cs : List Value} {m : Value} {ux : List (Nat × List UInt8)} {bs X : List UInt8}
  (hF : Jd P T idx off = true) (hFt : Jd P T tidx toff = true) (hpl : Jm P ty = true) (hsl : Jk P ty ety = true)
  (hr : w.rangeAt b o cs) (g0 : cs[off]? = some (.slice p n cap)) (gt : cs[toff]? = some m) (hrep : RepT w (· < B) m ux) (hsm : ux.length ≤ 40000) (hS : S ux) (hbB : b < B) (hB : B ≤ w.heap.size) (hv : ρ vs = .pointer (some ⟨b, o, none⟩)) (ho : OwnB I.tU8 w B (ρ 1) bs)
  (hlim : bs.length + (Jz ((if n = 0 then [] else [(0, X)]) ++ ux)).length ≤ lim)
  (hvx : vs < x) (hv1 : vs ≠ 1) (h1x : 1 < x) (hxe : x + 6 ≤ xe) (hxL : xe ≤ L) (hL : L ≤ t) (htw : t + 28 + 8 ≤ tw) (hN : tw + 17 ≤ N)
  (hW : ∀ (ρ1 : Nat → Value) (w1 : World), (∀ s, s < x → s ≠ 1 → ρ1 s = ρ s) → ρ1 (x + 3) = .slice p n cap → Below B w w1 → JK P I.tU8 B N (t + 28 + 8) cc ρ1 w1 (x + 6) xe X)
  (hQ : ∀ ρ' w', (∀ s, s < L → s ≠ 1 → (s < x ∨ xe ≤ s) → ρ' s = ρ s) → OwnB I.tU8 w' B (ρ' 1) (bs ++ Jz ((if n = 0 then [] else [(0, X)]) ++ ux)) → Below B w w' → Q .normal ρ' w') :
  RW P N (rows (ptBody I T vs tidx x b' (ptTestL I T vs idx ty x t) (t + 9) (rows ((loadA T vs idx ty (x + 3) (t + 28)).1 :: (preA I (x + 4) (t + 28 + 4) lbl ++ (cc ++ [twiceA I (x + 4) tw lbl])))) (tw + 11))) Q ρ w := by
 have htl : tl0 (if n = 0 then none else some X) = (if n = 0 then [] else [(0, X)]) := by split <;> rfl
 rw [← htl] at hlim hQ
 have hcell : w.cell? ⟨b, o + off, none⟩ = some (.slice p n cap) := hr _ _ g0
 refine ptBody_ok kc (L := L) (xe := xe) (u0 := t) (u := t + 9) (B := B) (b := b) (o := o) (cs := cs) (told := if n = 0 then none else some X) (ux := ux) (bs := bs) (m := m) hFt gt hrep hsm hS hr hbB hB hv ho hlim hvx hv1 h1x (by omega) hxL hL (by omega) (by omega) (by omega) ?_ ?_ hQ
 ·intro ρ1 Q' q1 q2 hQ'
  refine testL_ok kc (L := L) (b := b) (o := o) (n := n) (c := cap) (p := p) hF hpl hsl hcell (by rw [q1 vs (by omega) (by omega)]; exact hv) q2 h1x hvx (by omega) (by omega) (by omega) ?_
  intro ρ' w' sv' a1 a2 a3 a4
  refine hQ' ρ' w' sv' (fun s h1 h2 => by rw [a1 s h1 h2, q1 s h1 h2]) a2 ?_ a4
  rw [htl]
  show TeAt I.tU32 w.heap.size w' sv' _
  have e : (List.map (fun x => x.1) (if n = 0 then [] else [(0, X)])) = (if n = 0 then [] else [0]) := by split <;> rfl
  rw [e]; exact a3
 ·intro X' hX ρ1 w1 bs1 Q' q1 b1 ob1 hlim1 hQ'
  obtain rfl : X' = X := by
   split at hX
   ·cases hX
   ·exact (Option.some.inj hX).symm
  have hB1 := Nat.le_trans hB b1.size
  have hv1' : ρ1 vs = .pointer (some ⟨b, o, none⟩) := by rw [q1 vs (by omega) hv1 (.inl hvx)]; exact hv
  have hcell1 : w1.cell? ⟨b, o + off, none⟩ = some (.slice p n cap) := by rw [Ji (b1.block b hbB)]; exact hcell
  refine twice_ok kc kc.u8s kc.u8i (z := x + 4) (t := t + 28 + 4) (tk := t + 28) (tc := t + 28 + 8) (t2 := tw) (xe := xe) (B := B) (bs := bs1) (X := X') (N := N) (cs := cc) (lbl := lbl) rfl
   (fun ρ2 w2 => (∀ s, s < x → s ≠ 1 → ρ2 s = ρ s) ∧ ρ2 (x + 3) = .slice p n cap ∧ Below B w w2)
   (by omega) (by omega) (by omega) (by omega) (by omega) (by omega) (by omega) hlim1 hB1 ?_ ?_ ?_ ?_
  ·rintro ρa ρb wa wb ⟨y1, y2, y3⟩ hk hb hn
   exact ⟨fun s h1 h2 => by rw [hk s (by omega) h2, y1 s h1 h2], by rw [hk (x + 3) (by omega) (by omega)]; exact y2, y3.trans hb⟩
  ·intro Q'' hh
   refine RW.rg (RL.s (MR.mv hv1' (ltT (by omega))) (RL.s (MR.nc (p := ⟨b, o, none⟩) (Ja _ _ _) (by omega)) (RL.s (MR.fa (Ja _ _ _) hF (by omega)) (RL.s (MR.ld (Ja _ _ _) hpl hcell1 (by omega)) (RL.s (MR.mv (Ja _ _ _) (ltT (by omega))) (RL.nil ?_) (by omega)) (by omega)) (by omega)) (by omega)) (by omega))
   refine hh _ w1 ⟨fun s h1 h2 => ?_, Ja _ _ _, b1⟩ (fun s h1 h2 => ?_) ?_ (Below.refl _ _)
   ·(repeat first | rw [Ja] | rw [Jb _ _ (by omega)]); exact q1 s (by omega) h2 (.inl h1)
   ·(repeat first | rw [Ja] | rw [Jb _ _ (by omega)])
   ·(repeat first | rw [Ja] | rw [Jb _ _ (by omega)]); exact ob1
  ·rintro ρ2 w2 bs2 Q'' ⟨y1, y2, y3⟩ o2 hl2 hB2 hQ2
   refine RWL.ofWritesL (L := t + 28 + 8) (by omega) (by omega) (hW ρ2 w2 y1 y2 y3) o2 hl2 ?_
   intro ρ3 w3 j1 j2 j3
   refine hQ2 ρ3 w3 (fun s h1 h2 h3 => j1 s h1 h2 h3) j2 j3 ⟨fun s h1 h2 => by rw [j1 s (by omega) h2 (.inl (by omega)), y1 s h1 h2], by rw [j1 (x + 3) (by omega) (by omega) (.inl (by omega))]; exact y2, y3.trans j3⟩
  ·intro ρ' w' a1 a2 a3
   exact hQ' ρ' w' (fun s h1 h2 h3 => a1 s (by omega) h2 (by omega)) a2 a3
end
end Go.Kx
