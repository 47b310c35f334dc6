/- The walk told by what the slots hold (ρ), all of them: rules for each operation, each statement; regions that draw their order or have guards. No condition on the program beyond those that a rule names; a region that draws wants mixed orders allowed.
   Regions that draw their order, or have guards, told by the slots; calls; the rest of the operations.
   Appending octets and texts, told by the slots; kbin's functions that append texts, octets, a truth, sixteen octets. Conditions: the program's tables (TOK), fewer than 2^40 octets.
   Known tags are written: those that are not as by default are noted, then each is written. Conditions: the program's tables and the contracts of what is called (KtC).
   The code of AppendTo writes what 'enc' says: by induction on the plan. Conditions: the plan fits the program's tables (wf), what is written is small (lists, texts and octets of at most 32767).
   The code of AppendTo writes what 'enc' says: the induction on the plan. Conditions: the plan fits the program's tables (wf), what is written is small (lists, texts and octets of at most 32767).
   AppendTo of a message, as a whole: what it returns. Conditions: the plan fits the program (okTop), what is written is small.
   A truth, sixteen octets; all of kbin's functions that append, as one test of the program (kbOk), and what AppendTo's code rests on (AOK) from it.
   The code of the reference's functions (package spec), in the small form; printed by wip/tools/gen23.py from the dump, with names for the numbers.
   The reference's small functions: numbers, lengths, versions. Conditions: the program's tables.
   The reference's messages and trees (Fd, Tr), how they lie in memory, what is written of them (sPart ..); its small functions. Conditions: the program's tables (SOK).
   The reference's small functions: width, counted, whole, things, version, has, null, Same.
   Functions whose result is a variable, or that have none; the reference's has, null, at. -/
import Derived.Test.YtnodcmiaipbjiaaDoorKxA
import Derived.Laws.Tables
namespace Go.Kx
open Go.RowKit
set_option linter.unusedSimpArgs false
set_option linter.unusedVariables false
def up (N : Nat) (Q : Exit → (Nat → Value) → World → Prop) : Exit → Act → World → Prop
  | .panic _, _, _ => False
  | e, a, w => ∃ ρ, Loc N N ρ a ∧ Q e ρ w
def RL (P : Program) (N : Nat) (ms : List MOp) (Q : Exit → (Nat → Value) → World → Prop) (ρ : Nat → Value) (w : World) : Prop := ∀ a, Loc N N ρ a → ML P ms (up N Q) a w
def RW (P : Program) (N : Nat) (m : MCode) (Q : Exit → (Nat → Value) → World → Prop) (ρ : Nat → Value) (w : World) : Prop := ∀ a, Loc N N ρ a → MW P m (up N Q) a w
def thenR (K : (Nat → Value) → World → Prop) (Q : Exit → (Nat → Value) → World → Prop) : Exit → (Nat → Value) → World → Prop
  | .normal, ρ, w => K ρ w
  | e, ρ, w => Q e ρ w
def inBlockR (id : Nat) (Q : Exit → (Nat → Value) → World → Prop) : Exit → (Nat → Value) → World → Prop
  | .exit id', ρ, w => if id' = id then Q .normal ρ w else Q (.exit id') ρ w
  | e, ρ, w => Q e ρ w
section
variable {P : Program} {N : Nat} {Q Q' : Exit → (Nat → Value) → World → Prop} {ρ : Nat → Value} {w : World} {ms : List MOp}
theorem up_mono (h : ∀ e ρ w, Q e ρ w → Q' e ρ w) {e : Exit} {a : Act} (hu : up N Q e a w) : up N Q' e a w := by
  cases e <;> simp only [up] at hu ⊢ <;> first | exact hu | (obtain ⟨ρ, h1, h2⟩ := hu; exact ⟨ρ, h1, h _ _ _ h2⟩)
theorem RW.mono {m : MCode} (h : RW P N m Q ρ w) (hq : ∀ e ρ w, Q e ρ w → Q' e ρ w) : RW P N m Q' ρ w := fun a ha => (h a ha).mono fun e a w hu => up_mono hq hu
theorem RW.sq {x y : MCode} (h : RW P N x (thenR (RW P N y Q) Q) ρ w) : RW P N (.sq x y) Q ρ w := by
  intro a ha
  refine MW.sq ((h a ha).mono fun e a w hu => ?_)
  cases e <;> simp only [up, thenR, Exit.then] at hu ⊢
  · obtain ⟨ρ, h1, h2⟩ := hu; exact h2 a h1
  all_goals exact hu
theorem RW.rg (h : RL P N ms Q ρ w) : RW P N (.rg ms) Q ρ w := fun a ha => MW.rg (h a ha)
theorem RW.cd {t : Nat} {x y : MCode} {b : Bool} (ht : ρ t = .bool b) (h1 : b = true → RW P N x Q ρ w) (h2 : b = false → RW P N y Q ρ w) (hN : t < N := by decide) : RW P N (.cd t x y) Q ρ w :=
  fun a ha => MW.cd ((ha.get t hN).trans ht) (fun e => h1 e a ha) (fun e => h2 e a ha)
theorem RW.bl {id : Nat} {x : MCode} (h : RW P N x (inBlockR id Q) ρ w) : RW P N (.bl id x) Q ρ w := by
  intro a ha
  refine MW.bl ((h a ha).mono fun e a w hu => ?_)
  cases e <;> simp only [up, inBlockR, Exit.inBlock] at hu ⊢
  all_goals try exact hu
  obtain ⟨ρ, h1, h2⟩ := hu
  split at h2
  · rename_i e; rw [if_pos e]; exact ⟨ρ, h1, h2⟩
  · rename_i e; rw [if_neg e]; exact ⟨ρ, h1, h2⟩
theorem RW.lp {x : MCode} (I : (Nat → Value) → World → Prop) (μ : (Nat → Value) → World → Nat) (h₀ : I ρ w)
    (round : ∀ ρ w, I ρ w → RW P N x (thenR (fun ρ' w' => I ρ' w' ∧ μ ρ' w' < μ ρ w) Q) ρ w) (hμ : ∀ ρ ρ' w, (∀ s, s < N → ρ s = ρ' s) → μ ρ w = μ ρ' w := by intros; rfl) : RW P N (.lp x) Q ρ w := by
  intro a ha
  refine MW.lp (fun a w => ∃ ρ, Loc N N ρ a ∧ I ρ w) (fun a w => μ (rd a) w) ⟨ρ, ha, h₀⟩ ?_
  rintro a w ⟨ρ, hl, hi⟩
  refine (round ρ w hi a hl).mono fun e a' w' hu => ?_
  cases e <;> simp only [up, thenR, Exit.then] at hu ⊢
  all_goals try exact hu
  obtain ⟨ρ', h1, h2, h3⟩ := hu
  refine ⟨⟨ρ', h1, h2⟩, ?_⟩
  rw [hμ (rd a') ρ' w' (fun s hs => h1.get s hs), hμ (rd a) ρ w (fun s hs => hl.get s hs)]
  exact h3
theorem RW.ex {id : Nat} (h : Q (.exit id) ρ w) : RW P N (.ex id) Q ρ w := fun a ha => MW.ex ⟨ρ, ha, h⟩
theorem RW.rt (h : Q .ret ρ w) : RW P N .rt Q ρ w := fun a ha => MW.rt ⟨ρ, ha, h⟩
theorem RW.sk (h : Q .normal ρ w) : RW P N .sk Q ρ w := fun a ha => MW.sk ⟨ρ, ha, h⟩
theorem RL.nil (h : Q .normal ρ w) : RL P N [] Q ρ w := fun a ha => ML.nil ⟨ρ, ha, h⟩
def retQ (r : Nat) (R : Ending → World → Prop) : Exit → (Nat → Value) → World → Prop
  | .ret, ρ, w => R (.returned (ρ r)) w
  | _, _, _ => False
theorem up_retQ {r : Nat} (hr : r < N) {R : Ending → World → Prop} {fn : Func} (hres : fn.results = #[.tmp r]) {e : Exit} {a : Act} (h : up N (retQ r R) e a w) : bodyPost P fn R e a w := by
  cases e <;> simp only [up, retQ] at h
  all_goals first | (obtain ⟨ρ, h1, h2⟩ := h; exact h2.elim) | skip
  · obtain ⟨ρ, h1, h2⟩ := h
    refine bodyPost_ret (v := ρ r) ?_ h1.defers h2
    rw [results_tmp hres]
    congr 1
    exact h1.get r hr
  all_goals exact h.elim
theorem FnIs.runs {f r : Nat} {m : MCode} (h : FnIs P f m N r) {args : List Value} {R : Ending → World → Prop} (hle : args.length ≤ N) (hr : r < N)
    (hw : RW P N m (retQ r R) (args0 args) w) : Calls P f args.toArray w R :=
  h.calls hle fun a fn hres hl => (hw a hl).mono fun _ _ _ hu => up_retQ hr hres hu
/-! ### One operation's run -/
def MX.lt (N : Nat) : MX → Bool
  | .t s => Nat.blt s N
  | .c _ => true
def MR (P : Program) (N : Nat) (m : MOp) (ρ : Nat → Value) (w : World) (d : Nat) (v : Value) (w' : World) : Prop :=
  ∀ (a : Act) (o : Oper), Loc N N ρ a → fitOp m o.dst o.op = true → o.dst = some d ∧ (execOp a.eval o).run P w = .ok (.value v) w'
theorem RL.step {m : MOp} {d : Nat} {v : Value} {w' : World} (hm : MR P N m ρ w d v w') (h : RL P N ms Q (upd ρ d v) w') (hd : d < N := by decide) : RL P N (m :: ms) Q ρ w := by
  intro a ha
  refine ML.step (d := some d) (v := v) (w' := w') (fun o ho => ?_) (h _ (ha.put hd))
  obtain ⟨h1, h2⟩ := hm a o ha (fitOper_op ho)
  exact ⟨h1, .inl h2⟩
theorem MX.evalL {a : Act} {x : MX} {y : Operand} (hl : Loc N N ρ a) (hx : x.lt N = true) (h : x.is y = true) : a.eval y = xof ρ x := by
  rw [MX.is_eval h a, MX.of_loc hl]
  rintro s rfl
  simpa [MX.lt, Nat.blt_eq] using hx
theorem tmpL {a : Act} {s : Nat} {y : Operand} (hl : Loc N N ρ a) (hs : s < N) (h : tmpIs s y = true) : a.eval y = ρ s := by
  rw [tmpIs_eq h]; exact hl.get s hs
variable {d : Nat} {v : Value} {w' : World}
theorem MR.mv {x : MX} (hv : xof ρ x = v := by rfl) (hx : x.lt N = true := by rfl) : MR P N (.mv d x) ρ w d v w := by
  subst hv
  intro a o hl hf
  generalize hop : o.op = op at hf
  unfold execOp
  cases op <;> simp only [fitOp, Bool.and_eq_true, Bool.false_eq_true] at hf
  all_goals exact ⟨dstIs_eq hf.1, by simp only [hop, MX.evalL hl hx hf.2]; rfl⟩
theorem MR.nc {s : Nat} {p : Addr} (hv : ρ s = .pointer (some p)) (hs : s < N := by decide) : MR P N (.nc d s) ρ w d (.pointer (some p)) w := by
  intro a o hl hf; generalize hop : o.op = op at hf; unfold execOp; cases op <;> simp only [fitOp, Bool.and_eq_true, Bool.false_eq_true, Nat.beq_eq] at hf
  exact ⟨dstIs_eq hf.1, by simp only [hop, tmpL hl hs hf.2, hv]; rfl⟩
theorem MR.fa {T s f b o off : Nat} (hv : ρ s = .pointer (some ⟨b, o, none⟩)) (hF : fieldAtB P T f off = true) (hs : s < N := by decide) : MR P N (.fa d T s f) ρ w d (.pointer (some ⟨b, o + off, none⟩)) w := by
  intro a o hl hf; generalize hop : o.op = op at hf; unfold execOp; cases op <;> simp only [fitOp, Bool.and_eq_true, Bool.false_eq_true, Nat.beq_eq] at hf
  obtain ⟨⟨⟨h1, h2⟩, h3⟩, h4⟩ := hf
  subst h2 h4
  refine ⟨dstIs_eq h1, ?_⟩
  simp only [hop, Sem.run_bind, tmpL hl hs h3, hv, run_fieldAt hF, Result.andThen_ok, Sem.run_pure]
theorem MR.ldBy {ty s : Nat} (hr : (Instr.loadAt ty (ρ s)).run P w = .ok v w) (hs : s < N := by decide) : MR P N (.ld d ty s) ρ w d v w := by
  intro a o hl hf; generalize hop : o.op = op at hf; unfold execOp; cases op <;> simp only [fitOp, Bool.and_eq_true, Bool.false_eq_true, Nat.beq_eq] at hf
  obtain ⟨⟨h1, h2⟩, h3⟩ := hf
  subst h2
  exact ⟨dstIs_eq h1, by simp only [hop, Sem.run_bind, tmpL hl hs h3, hr, Result.andThen_ok, Sem.run_pure]⟩
theorem MR.ld {ty s : Nat} {p : Addr} (hv : ρ s = .pointer (some p)) (hp : plainTy P ty = true) (hc : w.cell? p = some v) (hs : s < N := by decide) : MR P N (.ld d ty s) ρ w d v w :=
  MR.ldBy (by rw [hv]; exact run_loadAt_one hp hc) hs
theorem MR.ldRow {ty s b o : Nat} {cs : List Value} (hv : ρ s = .pointer (some ⟨b, o, none⟩)) (hp : rowTy P ty = true) (hn : cellsB P ty cs.length = true) (hc : w.rangeAt b o cs) (hs : s < N := by decide) :
    MR P N (.ld d ty s) ρ w d (.agg cs.toArray) w := MR.ldBy (by rw [hv]; exact run_loadAt_row hp hn hc) hs
theorem MR.bi {ty : Nat} {op : BinOp} {x y : MX} (hg : ∀ (ox oy : Operand), (eqGuard op ty ox oy (xof ρ x) (xof ρ y)).run P w = .ok () w)
    (hv : (binOp op ty (xof ρ x) (xof ρ y)).run P w = .ok v w) (hx : x.lt N = true := by rfl) (hy : y.lt N = true := by rfl) : MR P N (.bi d op ty x y) ρ w d v w := by
  intro a o hl hf
  generalize hop : o.op = op' at hf
  unfold execOp
  cases op' <;> simp only [fitOp, Bool.and_eq_true, Bool.false_eq_true, Nat.beq_eq] at hf
  obtain ⟨⟨⟨⟨⟨h1, h2⟩, h3⟩, h4⟩, h5⟩, _⟩ := hf
  have h2' := sameOp_eq h2
  subst h2' h3
  exact ⟨dstIs_eq h1, by simp only [hop, MX.evalL hl hx h4, MX.evalL hl hy h5, Sem.run_bind, hg, hv, Result.andThen_ok, Sem.run_pure]⟩
theorem MR.biE {ty : Nat} {op : BinOp} {x y : MX} (h : evB op (xof ρ x) (xof ρ y) = some v) (hx : x.lt N = true := by rfl) (hy : y.lt N = true := by rfl) : MR P N (.bi d op ty x y) ρ w d v w :=
  MR.bi (fun ox oy => (evB_run ty h).2 ox oy) (evB_run ty h).1 hx hy
theorem MR.b2 {op : BinOp} {x y : MX} (h : evB op (xof ρ x) (xof ρ y) = some v) (hx : x.lt N = true := by rfl) (hy : y.lt N = true := by rfl) : MR P N (.b2 d op x y) ρ w d v w := by
  intro a o hl hf
  generalize hop : o.op = op' at hf
  unfold execOp
  cases op' <;> simp only [fitOp, Bool.and_eq_true, Bool.false_eq_true] at hf
  obtain ⟨⟨⟨h1, h2⟩, h4⟩, h5⟩ := hf
  have h2' := sameOp_eq h2
  subst h2'
  exact ⟨dstIs_eq h1, by simp only [hop, MX.evalL hl hx h4, MX.evalL hl hy h5, Sem.run_bind, (evB_run (P := P) (w := w) _ h).1, (evB_run (P := P) (w := w) _ h).2, Result.andThen_ok, Sem.run_pure]⟩
theorem MR.nt {s : Nat} {b : Bool} (hv : ρ s = .bool b) (hs : s < N := by decide) : MR P N (.nt d s) ρ w d (.bool !b) w := by
  intro a o hl hf
  generalize hop : o.op = op' at hf
  unfold execOp
  cases op' <;> try (simp only [fitOp, Bool.false_eq_true] at hf; done)
  rename_i u ty x
  cases u <;> simp only [fitOp, Bool.and_eq_true, Bool.false_eq_true] at hf
  exact ⟨dstIs_eq hf.1, by simp only [hop, Sem.run_bind, tmpL hl hs hf.2, hv, Op.unary]; rfl⟩
theorem MR.cv {src dst s : Nat} (hr : (convert src dst (ρ s)).run P w = .ok v w) (hs : s < N := by decide) : MR P N (.cv d src dst s) ρ w d v w := by
  intro a o hl hf; generalize hop : o.op = op at hf; unfold execOp; cases op <;> simp only [fitOp, Bool.and_eq_true, Bool.false_eq_true, Nat.beq_eq] at hf
  obtain ⟨⟨⟨h1, h2⟩, h3⟩, h4⟩ := hf
  subst h2 h3
  exact ⟨dstIs_eq h1, by simp only [hop, Sem.run_bind, tmpL hl hs h4, hr, Result.andThen_ok, Sem.run_pure]⟩
theorem MR.cvI {src dst s : Nat} {k0 k : IntKind} {n : Int} (hv : ρ s = .int k0 n) (h1 : intTy P src k0 = true) (h2 : intTy P dst k = true) (hs : s < N := by decide) : MR P N (.cv d src dst s) ρ w d (.int k (k.wrap n)) w :=
  MR.cv (by rw [hv]; exact run_convert_int h1 h2 n) hs
theorem MR.builtin {m : MOp} {b : Builtin} {T : List Nat} {xs : List MX}
    (hm : ∀ o : Oper, fitOp m o.dst o.op = true → o.dst = some d ∧ ∃ args ats, o.op = .call { callee := .builtin b, args := args, argTypes := ats } ∧ (T = ats.toList ∨ ∀ T' ty cs, (Go.builtin b T' ty cs (xs.map (xof ρ)).toArray).run P w = .ok (.value v) w') ∧ allX xs args.toList = true)
    (hx : ∀ x ∈ xs, MX.lt N x = true) (hr : ∀ ty cs, (Go.builtin b T.toArray ty cs (xs.map (xof ρ)).toArray).run P w = .ok (.value v) w') : MR P N m ρ w d v w' := by
  intro a o hl hf
  obtain ⟨h1, args, ats, h2, h3, h4⟩ := hm o hf
  refine ⟨h1, ?_⟩
  have hargs : args.map a.eval = (xs.map (xof ρ)).toArray := by
    apply Array.toList_inj.1
    rw [Array.toList_map]
    generalize args.toList = l at h4
    clear h2 hr hm h3
    induction xs generalizing l with
    | nil => cases l <;> simp_all [allX]
    | cons x xs ih =>
      cases l with
      | nil => simp [allX] at h4
      | cons y l =>
        simp only [allX, Bool.and_eq_true] at h4
        simp only [List.map_cons]
        rw [MX.evalL hl (hx x List.mem_cons_self) h4.1, ih (fun x hx' => hx x (List.mem_cons_of_mem _ hx')) l h4.2]
  unfold execOp
  simp only [h2, resolve, Sem.run_bind, Sem.run_pure, Result.andThen_ok, invoke, hargs]
  rcases h3 with rfl | h3
  · have hats : ats = ats.toList.toArray := by simp
    rw [hats]
    exact hr _ _
  · exact h3 _ _ _
theorem MR.ln {ty s e : Nat} {p : Option Addr} {n c : Nat} (ht : sliceOf P ty e = true) (hv : ρ s = .slice p n c) (hs : s < N := by decide) : MR P N (.ln d ty s) ρ w d (.int .i64 n) w := by
  refine MR.builtin (b := .len) (T := [ty]) (xs := [.t s]) (fun o hf => ?_) (by simp [MX.lt, Nat.blt_eq, hs]) (fun t cs => ?_)
  · generalize hop : o.op = op at hf
    cases op <;> try (simp only [fitOp, Bool.false_eq_true] at hf; done)
    rename_i c
    obtain ⟨callee, args, ats⟩ := c
    cases callee <;> try (simp only [fitOp, Bool.false_eq_true] at hf; done)
    case builtin b =>
      cases b <;> try (simp only [fitOp, Bool.false_eq_true] at hf; done)
      simp only [fitOp, Bool.and_eq_true] at hf
      obtain ⟨h1, h2⟩ := hf
      generalize hA : args.toList = A at h2
      generalize hB : ats.toList = B at h2
      match A, B, h2 with
      | [y], [t'], h2 =>
        simp only [Bool.and_eq_true, Nat.beq_eq] at h2
        exact ⟨dstIs_eq h1, args, ats, rfl, .inl (by rw [hB, h2.2]), by rw [hA, tmpIs_eq h2.1]; simp [allX, MX.is]⟩
  · simp [Go.builtin, Builtin.len_, xof, hv, run_underlying (sliceOf_eq ht), goInt]
theorem MR.ia {T x i e b o len cap : Nat} {k : IntKind} {j : Nat} {sz : Nat} (ht : sliceOf P T e = true) (hn : cellsB P e sz = true)
    (hx : ρ x = .slice (some ⟨b, o, none⟩) len cap) (hi : ρ i = .int k j) (hj : j < len) (hxN : x < N := by decide) (hiN : i < N := by decide) : MR P N (.ia d T x i) ρ w d (.pointer (some ⟨b, o + j * sz, none⟩)) w := by
  intro a o hl hf; generalize hop : o.op = op at hf; unfold execOp; cases op <;> simp only [fitOp, Bool.and_eq_true, Bool.false_eq_true, Nat.beq_eq] at hf
  obtain ⟨⟨⟨h1, h2⟩, h3⟩, h4⟩ := hf
  subst h2
  refine ⟨dstIs_eq h1, ?_⟩
  have hn' := cellsB_map hn
  cases hie : P.info? e with
  | none => simp [hie] at hn'
  | some ie =>
    simp only [hie, Option.map_some, Option.some.injEq] at hn'
    simp only [hop, Sem.run_bind, tmpL hl hxN h3, tmpL hl hiN h4, hx, hi, Instr.indexAt]
    simp [asIntOf, run_underlying (sliceOf_eq ht), sizeOf, typeInfo, hie, hn', Addr.add_mid, hj]
theorem MR.fl {T s f : Nat} (hr : (Instr.field T (ρ s) f).run P w = .ok v w) (hs : s < N := by decide) : MR P N (.fl d T s f) ρ w d v w := by
  intro a o hl hf; generalize hop : o.op = op at hf; unfold execOp; cases op <;> simp only [fitOp, Bool.and_eq_true, Bool.false_eq_true, Nat.beq_eq] at hf
  obtain ⟨⟨⟨h1, h2⟩, h3⟩, h4⟩ := hf
  subst h2 h4
  exact ⟨dstIs_eq h1, by simp only [hop, Sem.run_bind, tmpL hl hs h3, hr, Result.andThen_ok, Sem.run_pure]⟩
theorem MR.pk {c x y : MX} {b : Bool} (hc : xof ρ c = .bool b) (hv : (if b then xof ρ x else xof ρ y) = v := by rfl) (hcN : c.lt N = true := by rfl) (hx : x.lt N = true := by rfl) (hy : y.lt N = true := by rfl) : MR P N (.pk d c x y) ρ w d v w := by
  subst hv
  intro a o hl hf; generalize hop : o.op = op at hf; unfold execOp; cases op <;> simp only [fitOp, Bool.and_eq_true, Bool.false_eq_true, Nat.beq_eq] at hf
  obtain ⟨⟨⟨h1, h2⟩, h3⟩, h4⟩ := hf
  refine ⟨dstIs_eq h1, ?_⟩
  simp only [hop, Sem.run_bind, MX.evalL hl hcN h2, MX.evalL hl hx h3, MX.evalL hl hy h4, hc, asBool]
  cases b <;> rfl
theorem MR.ext {s i : Nat} (hr : (Instr.extract (ρ s) i).run P w = .ok v w) (hs : s < N := by decide) : MR P N (.ext d s i) ρ w d v w := by
  intro a o hl hf; generalize hop : o.op = op at hf; unfold execOp; cases op <;> simp only [fitOp, Bool.and_eq_true, Bool.false_eq_true, Nat.beq_eq] at hf
  obtain ⟨⟨h1, h2⟩, h3⟩ := hf
  subst h3
  exact ⟨dstIs_eq h1, by simp only [hop, Sem.run_bind, tmpL hl hs h2, hr, Result.andThen_ok, Sem.run_pure]⟩
theorem fitOpt_map {a : Act} {x : Option MX} {y : Option Operand} (hl : Loc N N ρ a) (hx : ∀ z, x = some z → z.lt N = true) (h : fitOpt x y = true) : y.map a.eval = x.map (xof ρ) := by
  cases x <;> cases y <;> simp only [fitOpt, Bool.false_eq_true] at h
  · rfl
  · simp [MX.evalL hl (hx _ rfl) h]
theorem MR.sl {T x : Nat} {lo hi mx : Option MX} (hr : (Instr.sliceAt T (ρ x) (lo.map (xof ρ)) (hi.map (xof ρ)) (mx.map (xof ρ))).run P w = .ok v w)
    (h0 : ∀ z, lo = some z → z.lt N = true := by simp [MX.lt]) (h1 : ∀ z, hi = some z → z.lt N = true := by simp [MX.lt]) (h2 : ∀ z, mx = some z → z.lt N = true := by simp [MX.lt]) (hs : x < N := by decide) : MR P N (.sl d T x lo hi mx) ρ w d v w := by
  intro a o hl hf
  generalize hop : o.op = op at hf
  unfold execOp
  cases op <;> simp only [fitOp, Bool.and_eq_true, Bool.false_eq_true, Nat.beq_eq] at hf
  obtain ⟨⟨⟨⟨⟨g1, g2⟩, g3⟩, g4⟩, g5⟩, g6⟩ := hf
  subst g2
  exact ⟨dstIs_eq g1, by simp only [hop, Sem.run_bind, tmpL hl hs g3, fitOpt_map hl h0 g4, fitOpt_map hl h1 g5, fitOpt_map hl h2 g6, hr, Result.andThen_ok, Sem.run_pure]⟩
/-! ### Operations that make or write -/
theorem MR.bx {T s : Nat} (hs : s < N := by decide) : MR P N (.bx d T s) ρ w d (.pointer (some ⟨w.heap.size, 0, none⟩)) (w.alloc (.cells (ρ s).cells T)) := by
  intro a o hl hf; generalize hop : o.op = op at hf; unfold execOp; cases op <;> simp only [fitOp, Bool.and_eq_true, Bool.false_eq_true, Nat.beq_eq] at hf
  obtain ⟨⟨h1, h2⟩, h3⟩ := hf
  subst h2
  refine ⟨dstIs_eq h1, ?_⟩
  simp only [hop, Sem.run_bind, tmpL hl hs h3, Instr.box, newVar, newRow, run_newObj, Result.andThen_ok, Sem.run_pure]
  rfl
theorem MR.al {T : Nat} {z : Value} (hz : ∃ i, P.info? T = some i ∧ i.zero = some z) : MR P N (.al d T) ρ w d (.pointer (some ⟨w.heap.size, 0, none⟩)) (w.alloc (.cells z.cells T)) := by
  intro a o hl hf; generalize hop : o.op = op at hf; unfold execOp; cases op <;> simp only [fitOp, Bool.and_eq_true, Bool.false_eq_true, Nat.beq_eq] at hf
  obtain ⟨i, hi, hz⟩ := hz
  obtain ⟨h1, h2⟩ := hf
  subst h2
  refine ⟨dstIs_eq h1, ?_⟩
  simp only [hop, Sem.run_bind, Instr.alloc, zeroValue, typeInfo, run_program, Result.andThen_ok, hi, Sem.run_pure, hz, newVar, newRow, run_newObj]
  rfl
theorem fitPairs_map {a : Act} : ∀ {ps : List (Nat × MX)} {qs : List (Nat × Operand)}, Loc N N ρ a → (∀ p ∈ ps, p.2.lt N = true) → fitPairs ps qs = true → qs.map (fun p => (p.1, a.eval p.2)) = ps.map (fun p => (p.1, xof ρ p.2))
  | [], [], _, _, _ => rfl
  | [], _ :: _, _, _, h => by simp [fitPairs] at h
  | _ :: _, [], _, _, h => by simp [fitPairs] at h
  | (i, x) :: ps, (j, y) :: qs, hl, hx, h => by
    simp only [fitPairs, Bool.and_eq_true, Nat.beq_eq] at h
    obtain ⟨⟨rfl, h2⟩, h3⟩ := h
    simp only [List.map_cons]
    rw [MX.evalL hl (hx _ List.mem_cons_self) h2, fitPairs_map hl (fun p hp => hx p (List.mem_cons_of_mem _ hp)) h3]
theorem MR.bdl {T : Nat} {ps : List (Nat × MX)} (hr : (Instr.build T (ps.map fun p => (p.1, xof ρ p.2)).toArray).run P w = .ok v w') (hx : ∀ p ∈ ps, p.2.lt N = true := by simp [MX.lt, Nat.blt_eq]) : MR P N (.bdl d T ps) ρ w d v w' := by
  intro a o hl hf; generalize hop : o.op = op at hf; unfold execOp; cases op <;> simp only [fitOp, Bool.and_eq_true, Bool.false_eq_true, Nat.beq_eq] at hf
  rename_i T' qs
  obtain ⟨⟨h1, h2⟩, h3⟩ := hf
  subst h2
  refine ⟨dstIs_eq h1, ?_⟩
  have : (qs.map fun (x : Nat × Operand) => match x with | (i, x) => (i, a.eval x)) = (ps.map fun p => (p.1, xof ρ p.2)).toArray := by
    apply Array.toList_inj.1
    rw [Array.toList_map]
    exact fitPairs_map hl hx h3
  simp only [hop, Sem.run_bind, this, hr, Result.andThen_ok, Sem.run_pure]
theorem fitParts_map {a : Act} : ∀ {i : Nat} {xs : List MX} {ps : List (Nat × Operand)}, Loc N N ρ a → (∀ x ∈ xs, MX.lt N x = true) → fitParts i xs ps = true → ps.map (fun (p : Nat × Operand) => (p.1, a.eval p.2)) = (List.range' i xs.length).zip (xs.map (xof ρ))
  | i, [], [], _, _, _ => rfl
  | i, [], _ :: _, _, _, h => by simp [fitParts] at h
  | i, _ :: _, [], _, _, h => by simp [fitParts] at h
  | i, x :: xs, (j, o) :: ps, hl, hx, h => by
    simp only [fitParts, Bool.and_eq_true, Nat.beq_eq] at h
    obtain ⟨⟨rfl, h2⟩, h3⟩ := h
    simp only [List.map_cons, List.length_cons, List.range'_succ, List.zip_cons_cons]
    rw [MX.evalL hl (hx _ List.mem_cons_self) h2, fitParts_map hl (fun p hp => hx p (List.mem_cons_of_mem _ hp)) h3]
theorem MR.bslBy {T : Nat} {xs : List MX} (hr : (Instr.buildSlice T xs.length ((List.range' 0 xs.length).zip (xs.map (xof ρ))).toArray).run P w = .ok v w') (hx : ∀ x ∈ xs, MX.lt N x = true := by simp [MX.lt, Nat.blt_eq]) : MR P N (.bsl d T xs) ρ w d v w' := by
  intro a o hl hf; generalize hop : o.op = op at hf; unfold execOp; cases op <;> simp only [fitOp, Bool.and_eq_true, Bool.false_eq_true, Nat.beq_eq] at hf
  rename_i T' n qs
  obtain ⟨⟨⟨h1, h2⟩, h3⟩, h4⟩ := hf
  subst h2 h3
  refine ⟨dstIs_eq h1, ?_⟩
  have : (qs.map fun (x : Nat × Operand) => match x with | (i, x) => (i, a.eval x)) = ((List.range' 0 xs.length).zip (xs.map (xof ρ))).toArray := by
    apply Array.toList_inj.1
    rw [Array.toList_map]
    exact fitParts_map hl hx h4
  simp only [hop, Sem.run_bind, this, hr, Result.andThen_ok, Sem.run_pure]
theorem MR.apBy {T U x y : Nat} (hr : (Builtin.append_ #[T, U] 0 #[ρ x, ρ y]).run P w = .ok v w') (hr' : ∀ ty, (Builtin.append_ #[T, U] ty #[ρ x, ρ y]).run P w = .ok v w') (hx : x < N := by decide) (hy : y < N := by decide) : MR P N (.ap d T U x y) ρ w d v w' := by
  refine MR.builtin (b := .append) (T := [T, U]) (xs := [.t x, .t y]) (fun o hf => ?_) (by simp [MX.lt, Nat.blt_eq, hx, hy]) (fun t cs => ?_)
  · generalize hop : o.op = op at hf
    cases op <;> try (simp only [fitOp, Bool.false_eq_true] at hf; done)
    rename_i c
    obtain ⟨callee, args, ats⟩ := c
    cases callee <;> try (simp only [fitOp, Bool.false_eq_true] at hf; done)
    case builtin b =>
      cases b <;> try (simp only [fitOp, Bool.false_eq_true] at hf; done)
      simp only [fitOp, Bool.and_eq_true] at hf
      obtain ⟨h1, h2⟩ := hf
      generalize hA : args.toList = A at h2
      generalize hB : ats.toList = B at h2
      match A, B, h2 with
      | [x', y'], [t', u'], h2 =>
        simp only [Bool.and_eq_true, Nat.beq_eq] at h2
        obtain ⟨⟨⟨h3, h4⟩, h5⟩, h6⟩ := h2
        exact ⟨dstIs_eq h1, args, ats, rfl, .inl (by rw [hB, h5, h6]), by rw [hA, tmpIs_eq h3, tmpIs_eq h4]; simp [allX, MX.is]⟩
  · simp only [Go.builtin, xof, List.map_cons, List.map_nil]
    rw [Sem.run_bind, hr' t]; rfl
end
end Go.Kx
namespace Go.Kx
open Go.RowKit
set_option linter.unusedSimpArgs false
set_option linter.unusedVariables false
section
variable {P : Program} {N : Nat} {Q Q' : Exit → (Nat → Value) → World → Prop} {ρ : Nat → Value} {w w' : World} {ms : List MOp} {d : Nat} {v : Value} {S : World → Prop} {gs : List GOp}
theorem MR.lnS {ty s : Nat} {b : ByteArray} (ht : strTy P ty = true) (hv : ρ s = .string b) (hs : s < N := by decide) : MR P N (.ln d ty s) ρ w d (.int .i64 b.size) w := by
  refine MR.builtin (b := .len) (T := [ty]) (xs := [.t s]) (fun o hf => ?_) (by simp [MX.lt, Nat.blt_eq, hs]) (fun t cs => ?_)
  · generalize hop : o.op = op at hf
    cases op <;> try (simp only [fitOp, Bool.false_eq_true] at hf; done)
    rename_i c
    obtain ⟨callee, args, ats⟩ := c
    cases callee <;> try (simp only [fitOp, Bool.false_eq_true] at hf; done)
    case builtin b =>
      cases b <;> try (simp only [fitOp, Bool.false_eq_true] at hf; done)
      simp only [fitOp, Bool.and_eq_true] at hf
      obtain ⟨h1, h2⟩ := hf
      generalize hA : args.toList = A at h2
      generalize hB : ats.toList = B at h2
      match A, B, h2 with
      | [y], [t'], h2 =>
        simp only [Bool.and_eq_true, Nat.beq_eq] at h2
        exact ⟨dstIs_eq h1, args, ats, rfl, .inl (by rw [hB, h2.2]), by rw [hA, tmpIs_eq h2.1]; simp [allX, MX.is]⟩
  · simp [Go.builtin, Builtin.len_, xof, hv, run_underlying (strTy_eq ht), goInt]
theorem RL.stBy {ty p x : Nat} (hr : (Instr.storeAt ty (ρ p) (ρ x)).run P w = .ok () w') (h : RL P N ms Q ρ w') (hp : p < N := by decide) (hx : x < N := by decide) : RL P N (.st ty p x :: ms) Q ρ w := by
  intro a ha
  refine ML.step (d := none) (v := undef) (w' := w') (fun o' ho => ?_) (h a ha)
  have hf := fitOper_op ho
  generalize hop : o'.op = op at hf
  generalize hd : o'.dst = dd at hf
  unfold execOp
  cases op <;> cases dd <;> simp only [fitOp, Bool.and_eq_true, Bool.false_eq_true, Nat.beq_eq] at hf
  obtain ⟨⟨h1, h2⟩, h3⟩ := hf
  subst h1
  exact ⟨rfl, .inr ⟨rfl, by simp only [hop, Sem.run_bind, tmpL ha hp h2, tmpL ha hx h3, hr, Result.andThen_ok, Sem.run_pure]⟩⟩
theorem RL.st {ty p x b o : Nat} (hp : ρ p = .pointer (some ⟨b, o, none⟩)) (hn : cellsB P ty (ρ x).cells.size = true)
    (ht : w.there b o (ρ x).cells.size) (h1 : (ρ x).cells.all (·.oneCell') = true) (h : RL P N ms Q ρ (w.setCells b o (ρ x).cells.toList)) (hpN : p < N := by decide) (hx : x < N := by decide) : RL P N (.st ty p x :: ms) Q ρ w :=
  RL.stBy (by rw [hp]; exact run_storeAt_any hn ht h1) h hpN hx
theorem allX_evalL {a : Act} : ∀ {xs : List MX} {l : List Operand}, Loc N N ρ a → (∀ x ∈ xs, MX.lt N x = true) → allX xs l = true → l.map a.eval = xs.map (xof ρ)
  | [], [], _, _, _ => rfl
  | [], _ :: _, _, _, h => by simp [allX] at h
  | _ :: _, [], _, _, h => by simp [allX] at h
  | x :: xs, y :: l, hl, hx, h => by
    simp only [allX, Bool.and_eq_true] at h
    simp only [List.map_cons]
    rw [MX.evalL hl (hx x List.mem_cons_self) h.1, allX_evalL hl (fun x hx' => hx x (List.mem_cons_of_mem _ hx')) h.2]
theorem callRun {f : Nat} {xs : List MX} {a : Act} {o : Oper} (he : entersB P f = true) (hx : ∀ x ∈ xs, MX.lt N x = true) (hl : Loc N N ρ a) (hf : fitOp (.ca d f xs) o.dst o.op = true) :
    o.dst = some d ∧ (execOp a.eval o).run P w = .ok (.enter f (xs.map (xof ρ)).toArray) w := by
  obtain ⟨dst, op, type, pos, after, guard⟩ := o
  dsimp only at hf ⊢
  cases op <;> try (simp only [fitOp, Bool.false_eq_true] at hf; done)
  rename_i c
  obtain ⟨callee, args, ats⟩ := c
  cases callee <;> try (simp only [fitOp, Bool.false_eq_true] at hf; done)
  case value x =>
    cases x <;> try (simp only [fitOp, Bool.false_eq_true] at hf; done)
    simp only [fitOp, Bool.and_eq_true, Nat.beq_eq] at hf
    obtain ⟨⟨h1, h2⟩, h3⟩ := hf
    subst h2
    have hdst := dstIs_eq h1
    subst hdst
    have hargs : args.map a.eval = (xs.map (xof ρ)).toArray := by
      apply Array.toList_inj.1
      rw [Array.toList_map, allX_evalL hl hx h3]
    refine ⟨rfl, ?_⟩
    simp only [execOp, resolve, Act.eval, Deferred.ofValue, Sem.run_bind, Sem.run_pure, Result.andThen_ok, invoke, Array.append_empty, Array.empty_append]
    rw [hargs, run_callFunc_enter he]
theorem RL.ca {f : Nat} {xs : List MX} {R : Value → World → Prop} (he : entersB P f = true)
    (hc : Calls P f (xs.map (xof ρ)).toArray w (fun e w' => ∃ v, e = .returned v ∧ R v w'))
    (h : ∀ v w', R v w' → RL P N ms Q (upd ρ d v) w') (hd : d < N := by decide) (hx : ∀ x ∈ xs, MX.lt N x = true := by simp [MX.lt, Nat.blt_eq]) : RL P N (.ca d f xs :: ms) Q ρ w := by
  intro a ha
  have e : xs.map (MX.of a) = xs.map (xof ρ) := List.map_congr_left fun x hxm => MX.of_loc ha (by rintro s rfl; simpa [MX.lt, Nat.blt_eq] using hx _ hxm)
  exact ML.ca (R := R) he (by rw [e]; exact hc) fun v w' hR => h v w' hR _ (ha.put hd)
/-! ### Regions -/
theorem wpList_value' {Q : Exit → Act → World → Prop} {a : Act} {ops : Array Oper} {o : Oper} {rest : List Oper} {d : Nat} {v : Value} (hw : Region.wanted o (yielded ops a.tmps) = true) (hd : o.dst = some d)
    (hr : (execOp a.eval o).run P w = .ok (.value v) w') (h : wpList P ops Q rest (wr a d v) w') : wpList P ops Q (o :: rest) a w := by
  unfold wpList
  rw [if_pos hw]
  refine .inl ?_
  unfold Oper.wp
  rw [hr, Oper.upon_value, hd]
  exact h
def RG (P : Program) (N : Nat) (gs : List GOp) (Q : Exit → (Nat → Value) → World → Prop) (S : World → Prop) (ρ : Nat → Value) (w : World) : Prop :=
  (∀ (ops : Array Oper) (l : List Oper) (a : Act), Loc N N ρ a → S w → fitG ops gs l = true → wpList P ops (up N Q) l a w) ∧
  (∀ (ops : Array Oper) (lst : Array Bool) (fuel : Nat) (a : Act), Loc N N ρ a → S w → Region.noSelect ops = true → ordFrom ops lst gs = true → gs.length ≤ fuel → wpAnyH P .any ops (up N Q) S fuel lst a w)
theorem RG.nil (h : S w → Q .normal ρ w) : RG P N [] Q S ρ w := by
  refine ⟨fun ops l a ha hS hf => ?_, fun ops lst fuel a ha hS hns hor _ => ?_⟩
  · cases l with
    | nil => exact ⟨ρ, ha, h hS⟩
    | cons o os => simp [fitG] at hf
  · have hr : Region.ready .any ops lst = [] := by simpa [ordFrom] using hor
    cases fuel with
    | zero => exact ⟨hr, ⟨ρ, ha, h hS⟩⟩
    | succ fuel => exact ⟨fun _ => ⟨ρ, ha, h hS⟩, by rw [hr]; simp⟩
theorem fitG_cons {ops : Array Oper} {x : GOp} {xs : List GOp} {l : List Oper} (h : fitG ops (x :: xs) l = true) :
    ∃ o os, l = o :: os ∧ fitAt ops x o = true ∧ fitG ops xs os = true := by
  cases l with
  | nil => simp [fitG] at h
  | cons o os =>
    simp only [fitG, Bool.and_eq_true] at h
    exact ⟨o, os, rfl, by simp only [fitAt, Bool.and_eq_true]; exact h.1, h.2⟩
theorem ord_cons {ops : Array Oper} {x : GOp} {xs : List GOp} {lst : Array Bool} (h : ordFrom ops lst (x :: xs) = true) :
    ∃ o, ops[x.i]? = some o ∧ fitAt ops x o = true ∧ ordFrom ops (lst.setIfInBounds x.i true) xs = true ∧
      ((x.m.quiet = true ∧ Region.free .any ops lst x.i = true ∧ (Region.ready .any ops lst).contains x.i = true) ∨ (x.m.quiet = false ∧ Region.ready .any ops lst = [x.i])) := by
  simp only [ordFrom, Bool.and_eq_true] at h
  obtain ⟨⟨h1, h2⟩, h3⟩ := h
  cases ho : ops[x.i]? with
  | none => simp [ho] at h1
  | some o =>
    simp only [ho] at h1
    refine ⟨o, rfl, h1, h3, ?_⟩
    cases hq : x.m.quiet
    · rw [hq] at h2
      simp only [Bool.false_eq_true, if_false] at h2
      refine .inr ⟨rfl, ?_⟩
      split at h2
      · rename_i i hr; rw [hr, Nat.eq_of_beq_eq_true h2]
      · simp at h2
    · rw [hq] at h2
      simp only [if_true, Bool.and_eq_true] at h2
      exact .inl ⟨rfl, h2⟩
def passes (N : Nat) (ρ : Nat → Value) (b : Bool) : Option (Nat × Nat × Bool) → Prop
  | none => b = true
  | some (_, s, c) => s < N ∧ (ρ s = .bool (if b then c else !c) ∨ (b = false ∧ ρ s = undef))
theorem wanted_of {ops : Array Oper} {g : Option (Nat × Nat × Bool)} {o : Oper} {a : Act} {b : Bool} (ha : Loc N N ρ a) (hg : fitGuard ops g o.guard = true) (hp : passes N ρ b g) : Region.wanted o (yielded ops a.tmps) = b := by
  unfold Region.wanted
  cases g with
  | none =>
    cases hgo : o.guard with
    | none => simp only [passes] at hp; rw [hp]
    | some q => rw [hgo] at hg; simp [fitGuard] at hg
  | some p =>
    obtain ⟨j, s, c⟩ := p
    cases hgo : o.guard with
    | none => rw [hgo] at hg; simp [fitGuard] at hg
    | some q =>
      obtain ⟨j', c'⟩ := q
      rw [hgo] at hg
      simp only [fitGuard, Bool.and_eq_true, Nat.beq_eq, beq_iff_eq] at hg
      obtain ⟨⟨rfl, rfl⟩, h3⟩ := hg
      obtain ⟨hs, hv⟩ := hp
      cases hoj : ops[j]? with
      | none => rw [hoj] at h3; simp at h3
      | some oj =>
        rw [hoj] at h3
        have hd := dstIs_eq h3
        have ht : a.tmps[s]? = some (ρ s) := by rw [← ha.get s hs]; exact get_tmps rfl (by rw [ha.size]; exact hs)
        rcases hv with hv | ⟨rfl, hv⟩
        · have hy : yielded ops a.tmps j = some (if b then c else !c) := by
            unfold yielded
            simp only [hoj, Option.bind_some, hd, ht, hv]
          simp only [hy]
          cases b <;> cases c <;> rfl
        · have hy : yielded ops a.tmps j = none := by
            unfold yielded
            simp only [hoj, Option.bind_some, hd, ht, hv]
            rfl
          simp only [hy]
          cases c <;> rfl
theorem upPanic {o : Option Tmp} : ∀ c (a : Act) w, up N Q (.panic c) (a.put o v) w → up N Q (.panic c) a w := fun c a w h => h.elim
theorem fitAt_inv {ops : Array Oper} {x : GOp} {o : Oper} (h : fitAt ops x o = true) : fitGuard ops x.g o.guard = true ∧ fitOp x.m o.dst o.op = true ∧ x.m.d? = o.dst := by
  simp only [fitAt, Bool.and_eq_true] at h
  exact ⟨h.1.1, h.1.2, sameD_eq h.2⟩
theorem RG.q {x : GOp} (hm : ∀ w', S w' → MR P N x.m ρ w' d v w') (h : RG P N gs Q S (upd ρ d v) w) (hq : x.m.quiet = true := by rfl) (hg : passes N ρ true x.g := by first | exact rfl | exact ⟨by decide, .inl rfl⟩) (hd : d < N := by decide) : RG P N (x :: gs) Q S ρ w := by
  refine ⟨fun ops l a ha hS hf => ?_, fun ops lst fuel a ha hS hns hor hfuel => ?_⟩
  · obtain ⟨o, os, rfl, h1, h2⟩ := fitG_cons hf
    obtain ⟨h4, h5, h6⟩ := fitAt_inv h1
    obtain ⟨hod, hrun⟩ := hm w hS a o ha h5
    exact wpList_value (wanted_of ha h4 hg) hod hrun (h.1 ops os _ (ha.put hd) hS h2)
  · obtain ⟨o, h1, h2, h3, hor'⟩ := ord_cons hor
    obtain ⟨h4, h5, h6⟩ := fitAt_inv h2
    have hw := wanted_of ha h4 hg
    have hod : o.dst = some d := (hm w hS a o ha h5).1
    have hput : a.put o.dst v = wr a d v := by rw [hod]; rfl
    rcases hor' with ⟨_, hfree, hrdy⟩ | ⟨hq', _⟩
    · cases fuel with
      | zero => simp at hfuel
      | succ fuel =>
        refine wpAnyH_take h1 hns hfree hrdy upPanic (.inl ⟨hw, fun w' hS' => (hm w' hS' a o ha h5).2⟩) hS ?_
        rw [hput]
        exact h.2 ops _ fuel _ (ha.put hd) hS hns h3 (by simpa using hfuel)
    · rw [hq] at hq'; simp at hq'
theorem RG.no {x : GOp} (hg : passes N ρ false x.g := by first | exact ⟨by decide, .inl rfl⟩ | exact ⟨by decide, .inr ⟨rfl, rfl⟩⟩) (h : RG P N gs Q S (upd ρ d undef) w) (hd0 : x.m.d? = some d := by rfl) (hd : d < N := by decide) : RG P N (x :: gs) Q S ρ w := by
  refine ⟨fun ops l a ha hS hf => ?_, fun ops lst fuel a ha hS hns hor hfuel => ?_⟩
  · obtain ⟨o, os, rfl, h1, h2⟩ := fitG_cons hf
    obtain ⟨h4, h5, h6⟩ := fitAt_inv h1
    exact wpList_passed (wanted_of ha h4 hg) (by rw [← h6]; exact hd0) (h.1 ops os _ (ha.put hd) hS h2)
  · obtain ⟨o, h1, h2, h3, hor'⟩ := ord_cons hor
    obtain ⟨h4, h5, h6⟩ := fitAt_inv h2
    have hw := wanted_of ha h4 hg
    have hod : o.dst = some d := by rw [← h6]; exact hd0
    have hput : a.put o.dst undef = wr a d undef := by rw [hod]; rfl
    have hy : YieldsIf P ops S o undef a := .inr ⟨hw, rfl⟩
    cases fuel with
    | zero => simp at hfuel
    | succ fuel =>
      have hnext := h.2 ops _ fuel _ (ha.put hd) hS hns h3 (by simpa using hfuel)
      rcases hor' with ⟨_, hfree, hrdy⟩ | ⟨_, hr⟩
      · refine wpAnyH_take h1 hns hfree hrdy upPanic hy hS ?_
        rw [hput]; exact hnext
      · refine wpAnyH_all hr (by simp) fun i hi => ?_
        have hik : i = x.i := by simpa using hi
        subst hik
        exact hy.wpOp h1 hS ⟨hS, by rw [hput]; exact hnext⟩
theorem RG.x {x : GOp} (hm : MR P N x.m ρ w d v w') (hS' : S w → S w') (h : RG P N gs Q S (upd ρ d v) w') (hq : x.m.quiet = false := by rfl) (hg : passes N ρ true x.g := by first | exact rfl | exact ⟨by decide, .inl rfl⟩) (hd : d < N := by decide) : RG P N (x :: gs) Q S ρ w := by
  refine ⟨fun ops l a ha hS hf => ?_, fun ops lst fuel a ha hS hns hor hfuel => ?_⟩
  · obtain ⟨o, os, rfl, h1, h2⟩ := fitG_cons hf
    obtain ⟨h4, h5, h6⟩ := fitAt_inv h1
    obtain ⟨hod, hrun⟩ := hm a o ha h5
    exact wpList_value' (wanted_of ha h4 hg) hod hrun (h.1 ops os _ (ha.put hd) (hS' hS) h2)
  · obtain ⟨o, h1, h2, h3, hor'⟩ := ord_cons hor
    obtain ⟨h4, h5, h6⟩ := fitAt_inv h2
    have hw := wanted_of ha h4 hg
    obtain ⟨hod, hrun⟩ := hm a o ha h5
    have hput : a.put o.dst v = wr a d v := by rw [hod]; rfl
    rcases hor' with ⟨hq', _⟩ | ⟨_, hr⟩
    · rw [hq] at hq'; simp at hq'
    · cases fuel with
      | zero => simp at hfuel
      | succ fuel =>
        refine wpAnyH_all hr (by simp) fun i hi => ?_
        have hik : i = x.i := by simpa using hi
        subst hik
        unfold wpOp
        simp only [h1, hw, if_true]
        refine .inl ?_
        unfold Oper.wp
        rw [hrun, Oper.upon_value, hput]
        exact ⟨hS' hS, h.2 ops _ fuel _ (ha.put hd) (hS' hS) hns h3 (by simpa using hfuel)⟩
theorem RG.ca {i : Nat} {g : Option (Nat × Nat × Bool)} {f : Nat} {xs : List MX} {R : Value → World → Prop} (he : entersB P f = true)
    (hc : S w → Calls P f (xs.map (xof ρ)).toArray w (fun e w' => ∃ v, e = .returned v ∧ R v w' ∧ S w'))
    (h : ∀ v w', R v w' → RG P N gs Q S (upd ρ d v) w') (hg : passes N ρ true g := by first | exact rfl | exact ⟨by decide, .inl rfl⟩) (hd : d < N := by decide) (hx : ∀ x ∈ xs, MX.lt N x = true := by simp [MX.lt, Nat.blt_eq]) : RG P N (⟨i, g, .ca d f xs⟩ :: gs) Q S ρ w := by
  refine ⟨fun ops l a ha hS hf => ?_, fun ops lst fuel a ha hS hns hor hfuel => ?_⟩
  · obtain ⟨o, os, rfl, h1, h2⟩ := fitG_cons hf
    obtain ⟨h4, h5, h6⟩ := fitAt_inv h1
    obtain ⟨hod, hrun⟩ := callRun (d := d) (w := w) he hx ha h5
    have hput : ∀ v, a.put o.dst v = wr a d v := fun v => by rw [hod]; rfl
    unfold wpList
    rw [if_pos (wanted_of ha h4 hg)]
    refine .inl ?_
    unfold Oper.wp
    rw [hrun, Oper.upon_enter]
    refine Calls.mono (hc hS) ?_
    rintro e w' ⟨v, rfl, hR, hS'⟩
    dsimp only
    rw [hput]
    exact (h v w' hR).1 ops os _ (ha.put hd) hS' h2
  · obtain ⟨o, h1, h2, h3, hor'⟩ := ord_cons hor
    obtain ⟨h4, h5, h6⟩ := fitAt_inv h2
    have hw := wanted_of ha h4 hg
    obtain ⟨hod, hrun⟩ := callRun (d := d) (w := w) he hx ha h5
    have hput : ∀ v, a.put o.dst v = wr a d v := fun v => by rw [hod]; rfl
    rcases hor' with ⟨hq', _⟩ | ⟨_, hr⟩
    · simp [MOp.quiet] at hq'
    · cases fuel with
      | zero => simp at hfuel
      | succ fuel =>
        refine wpAnyH_all hr (by simp) fun j hj => ?_
        have hik : j = i := by simpa using hj
        subst hik
        unfold wpOp
        dsimp only at h1
        simp only [h1, hw, if_true]
        refine .inl ?_
        unfold Oper.wp
        rw [hrun, Oper.upon_enter]
        refine Calls.mono (hc hS) ?_
        rintro e w' ⟨v, rfl, hR, hS'⟩
        dsimp only
        rw [hput]
        exact ⟨hS', (h v w' hR).2 ops _ fuel _ (ha.put hd) hS' hns h3 (by simpa using hfuel)⟩
def World.drew1 (w : World) : World := { w with drawn := w.drawn + 1 }
theorem RW.gf {gs : List GOp} (S : World → Prop) (hS : S w) (h : RG P N gs Q S ρ w) : RW P N (.gr false gs) Q ρ w := by
  intro a ha c hc
  cases c <;> try (simp only [fits, Bool.false_eq_true] at hc; done)
  rename_i id ops dr
  simp only [fits, Bool.and_eq_true, beq_iff_eq] at hc
  obtain ⟨rfl, h2⟩ := hc
  exact wp_region_list (h.1 ops _ a ha hS (by simpa using h2))
theorem RW.gd {gs : List GOp} (hmo : P.follows .mixedOrders = true) (S : World → Prop) (hS : S (World.drew1 w)) (h : RG P N gs Q S ρ (World.drew1 w)) : RW P N (.gr true gs) Q ρ w := by
  intro a ha c hc
  cases c <;> try (simp only [fits, Bool.false_eq_true] at hc; done)
  rename_i id ops dr
  simp only [fits, Bool.and_eq_true, beq_iff_eq, if_true] at hc
  obtain ⟨rfl, h3⟩ := hc
  simp only [if_true, ordOk, Bool.and_eq_true, Nat.ble_eq] at h3
  exact wp_region_any hmo (wpAny_of_held (S := S) _ _ _ _ (h.2 ops _ _ a ha hS h3.1.1 h3.2 h3.1.2))
end
section
variable {P : Program} {N : Nat} {Q : Exit → (Nat → Value) → World → Prop} {ρ : Nat → Value} {w : World} {ms : List MOp} {T : IT}
theorem ltT {x : Nat} (h : x < N) : MX.lt N (.t x) = true := by simp [MX.lt, Nat.blt_eq, h]
theorem run_apOwn {T U m c B : Nat} {ad : Option Addr} {bs l : List UInt8} {sv : Value} (hT : sliceOf P T U = true) (hU : u8Ty P U = true) (ho : OwnB U w B sv bs)
    (hm : m = l.length) (hb : BytesAt w (fun _ => True) ad l) (hB : B ≤ w.heap.size) (hlim : bs.length + l.length ≤ lim) :
    ∃ sv' w', (∀ ty, (Builtin.append_ #[T, T] ty #[sv, .slice ad m c]).run P w = .ok sv' w') ∧ OwnB U w' B sv' (bs ++ l) ∧ Below B w w' ∧ w.grownBy w' sv.ownBlock := by
  obtain ⟨i, hi, hs, hby, hz⟩ := u8Ty_info hU
  have hl1 : lim = 1099511627776 := rfl
  have hbase : ∀ k, sv.ownBlock = some k → B ≤ k := fun k hk => (World.ownsRow.lt ho k hk).1
  cases ad with
  | some ad =>
    obtain ⟨v', w', h1, h2, h3, _⟩ := run_append_own (P := P) w B T 0 U i (.int .u8 0) 1 1 (sliceOf_eq hT) hi hz hs hby rfl (by omega) sv bs.length (bs.map byteV) ho ad m c (l.map byteV) (by simp [hm])
      (fun j u hu => by
        simp only [List.getElem?_map, Option.map_eq_some_iff] at hu
        obtain ⟨b, hb1, rfl⟩ := hu
        obtain ⟨g, o, he, _, hc⟩ := hb j b hb1
        cases he
        rw [Addr.add_mid]; exact hc)
      (by intro u hu; simp only [List.mem_map] at hu; obtain ⟨b, _, rfl⟩ := hu; rfl) (by simp only [maxLen]; omega) (by omega) hB
    refine ⟨v', w', fun ty => h1, ?_, (Below.refl _ _).grown h3 hB hbase, h3⟩
    unfold OwnB
    rw [List.length_append, List.map_append, ← hm]
    exact h2
  | none =>
    have hl : l = [] := by
      cases l with
      | nil => rfl
      | cons b l =>
        obtain ⟨g, o, he, _⟩ := hb 0 b rfl
        simp at he
    subst hl
    simp only [List.length_nil] at hm
    subst hm
    have hrun : ∀ ty, (Builtin.append_ #[T, T] ty #[sv, .slice none 0 c]).run P w = .ok sv w := by
      intro ty
      rcases ho.2 with ⟨rfl, h0⟩ | ⟨g, cap, cur, rfl, _, _, hnc, _⟩
      · simp [Builtin.append_, run_underlying (sliceOf_eq hT), sizeOf, typeInfo, hi, Builtin.lenOf, Builtin.firstCells]
      · simp [Builtin.append_, run_underlying (sliceOf_eq hT), sizeOf, typeInfo, hi, Builtin.lenOf, Builtin.firstCells, hnc, storeCells]
    exact ⟨sv, w, hrun, by rw [List.append_nil]; exact ho, Below.refl _ _, ⟨rfl, rfl, rfl, Nat.le_refl _, fun _ _ _ => rfl⟩⟩
theorem RL.apOwn {d T U x y m c B : Nat} {ad : Option Addr} {bs l : List UInt8} {sv : Value} (hT : sliceOf P T U = true) (hU : u8Ty P U = true) (hx : ρ x = sv) (ho : OwnB U w B sv bs)
    (hy : ρ y = .slice ad m c) (hm : m = l.length) (hb : BytesAt w (fun _ => True) ad l) (hB : B ≤ w.heap.size) (hlim : bs.length + l.length ≤ lim)
    (h : ∀ sv' w', OwnB U w' B sv' (bs ++ l) → Below B w w' → RL P N ms Q (upd ρ d sv') w') (hxN : x < N := by decide) (hyN : y < N := by decide) (hd : d < N := by decide) : RL P N (.ap d T T x y :: ms) Q ρ w := by
  obtain ⟨sv', w', h1, h2, h3, _⟩ := run_apOwn (c := c) hT hU ho hm hb hB hlim
  subst hx
  exact RL.step (MR.apBy (by rw [hy]; exact h1 0) (fun ty => by rw [hy]; exact h1 ty) hxN hyN) (h sv' w' h2 h3) hd
theorem BytesAt.any {w : World} {F : Nat → Prop} {ad : Option Addr} {l : List UInt8} (h : BytesAt w F ad l) : BytesAt w (fun _ => True) ad l := h.mono (fun _ _ => trivial) (fun _ _ => rfl)
def StrC (P : Program) (U f : Nat) (flex : Bool) : Prop := ApC P U f (fun _ _ x out => ∃ s : ByteArray, s.data.toList.length ≤ 32767 ∧ x = .string s ∧ out = cnt flex 2 s.data.toList.length ++ s.data.toList)
def BytC (P : Program) (U f : Nat) (flex : Bool) : Prop := ApC P U f (fun w B x out => ∃ ad c l, List.length l ≤ 32767 ∧ x = .slice ad (List.length l) c ∧ BytesAt w (· < B) ad l ∧ out = cnt flex 4 l.length ++ l)
def codeStr (T : IT) (V t g : Nat) : MCode := rows [.rg [.mv 4 (.c .nslice)], .rg [.mv 5 (.t 0), .mv 6 (.t 1), .ln 7 V 6, .cv 8 T.int t 7, .ca 9 g [.t 5, .t 8], .mv 0 (.t 9)],
  .rg [.mv 10 (.t 0), .mv 11 (.t 1), .ap 12 T.u8s V 10 11, .mv 4 (.t 12)], .rt]
def codeCStr (T : IT) (V g : Nat) : MCode := rows [.rg [.mv 4 (.c .nslice)], .rg [.mv 5 (.t 0), .mv 6 (.t 1), .ln 7 V 6, .cv 8 T.int T.u32 7, .b2 9 .add (.c (.int .u32 1)) (.t 8), .ca 10 g [.t 5, .t 9], .mv 0 (.t 10)],
  .rg [.mv 11 (.t 0), .mv 12 (.t 1), .ap 13 T.u8s V 11 12, .mv 4 (.t 13)], .rt]
/-! ### Null or not -/
def NStrC (P : Program) (U f : Nat) (flex : Bool) : Prop := ApC P U f (fun w B x out => (x = .pointer none ∧ out = cntNull flex 2) ∨ ∃ b, ∃ s : ByteArray, b < B ∧ x = .pointer (some ⟨b, 0, none⟩) ∧ w.cell? ⟨b, 0, none⟩ = some (.string s) ∧ s.data.toList.length ≤ 32767 ∧ out = cnt flex 2 s.data.toList.length ++ s.data.toList)
def NBytC (P : Program) (U f : Nat) (flex : Bool) : Prop := ApC P U f (fun w B x out => (∃ c, x = .slice none 0 c ∧ out = cntNull flex 4) ∨ ∃ ad c l, List.length l ≤ 32767 ∧ x = .slice (some ad) (List.length l) c ∧ BytesAt w (· < B) (some ad) l ∧ out = cnt flex 4 l.length ++ l)
def codeNStr (T : IT) (Tp g h : Nat) (k : IntKind) (z : Int) : MCode := rows [.rg [.mv 4 (.c .nslice)], .sq (.rg [.mv 5 (.t 1), .bi 6 .eql Tp (.t 5) (.c .nptr)])
  (.cd 6 (.sq (.rg [.mv 7 (.t 0), .ca 8 g [.t 7, .c (.int k z)], .mv 4 (.t 8)]) .rt) .sk), .rg [.mv 9 (.t 0), .mv 10 (.t 1), .nc 11 10, .ld 12 T.str 11, .ca 13 h [.t 9, .t 12], .mv 4 (.t 13)], .rt]
def codeNByt (T : IT) (g h : Nat) (k : IntKind) (z : Int) : MCode := rows [.rg [.mv 4 (.c .nslice)], .sq (.rg [.mv 5 (.t 1), .bi 6 .eql T.u8s (.t 5) (.c .nslice)])
  (.cd 6 (.sq (.rg [.mv 7 (.t 0), .ca 8 g [.t 7, .c (.int k z)], .mv 4 (.t 8)]) .rt) .sk), .rg [.mv 9 (.t 0), .mv 10 (.t 1), .ca 11 h [.t 9, .t 10], .mv 4 (.t 11)], .rt]
theorem MR.eqNilS {d ty e x : Nat} {p : Option Addr} {n c : Nat} (hs : sliceOf P ty e = true) (hx : ρ x = .slice p n c) (hxN : x < N := by decide) : MR P N (.bi d .eql ty (.t x) (.c .nslice)) ρ w d (.bool p.isNone) w := by
  refine MR.bi (fun ox oy => ?_) ?_ (ltT hxN)
  · simp only [xof, hx, MVal.val]; unfold eqGuard; rfl
  · simp only [xof, hx, MVal.val]
    exact Lib.run_eql_slice_nil w ty e p n c 0 0 (sliceOf_eq hs)
end
section
variable {P : Program} {N : Nat} {Q Q' : Exit → (Nat → Value) → World → Prop} {ρ : Nat → Value} {w : World} {ms : List MOp}
def RWL (P : Program) (N : Nat) : List MCode → (Exit → (Nat → Value) → World → Prop) → (Nat → Value) → World → Prop
  | [], Q, ρ, w => Q .normal ρ w
  | c :: cs, Q, ρ, w => RW P N c (thenR (fun ρ w => RWL P N cs Q ρ w) Q) ρ w
theorem RWL.one {c : MCode} (h : RW P N c Q ρ w) : RWL P N [c] Q ρ w := RW.mono h (by intro e ρ w hq; cases e <;> exact hq)
end
section
variable {w w' : World} {U Ts db B : Nat} {v x : Value}
theorem own_nr {n : Nat} {sv : Value} {xs : List Value} (h : w.ownsRow B U 1 sv n xs) {k : Nat} (hk : ∀ cur, w.heap[k]? ≠ some (.cells cur U (0, 0))) : some k ≠ sv.ownBlock := by
  rcases h.2 with ⟨rfl, _⟩ | ⟨g, cap, cur, rfl, h3, h4, h5⟩
  · intro e; cases e
  · intro e
    simp only [Value.ownBlock, Option.some.injEq] at e
    subst e
    exact hk cur h4
end
def u32V (n : Nat) : Value := .int .u32 (n : Nat)
def u32B (P : Program) (U : Nat) : Bool := match P.info? U with
  | some i => Nat.beq i.size 1 && Nat.ble i.bytes 1000 && (match i.zero with | some v => (MVal.int .u32 0).is v | none => false)
  | none => false
theorem ne0 {n : Nat} (h : (!(Nat.beq n 0)) = true) : n ≠ 0 := by
  intro e; subst e; simp at h
def NrT (U : Nat) (w w' : World) : Prop := w.heap.size ≤ w'.heap.size ∧ ∀ k, k < w.heap.size → (∀ cur, w.heap[k]? ≠ some (.cells cur U (0, 0))) → w'.heap[k]? = w.heap[k]?
theorem NrT.trans {U : Nat} {w1 w2 w3 : World} (h : NrT U w1 w2) (k : NrT U w2 w3) : NrT U w1 w3 := ⟨Nat.le_trans h.1 k.1, fun i h1 h3 => by
  have e := h.2 i h1 h3
  rw [k.2 i (Nat.lt_of_lt_of_le h1 h.1) (fun cur => by rw [e]; exact h3 cur), e]⟩
theorem NrT.of {U B : Nat} {w w' : World} {sv : Value} {bs : List UInt8} (ho : OwnB U w B sv bs) (hb : Below B w w') (hg : Gr w w' sv) : NrT U w w' :=
  ⟨hb.size, fun k hk hr => hg k hk (own_nr ho hr)⟩
def ktB (P : Program) (I : IA) (T : Nat) (q : KT) : Bool := fieldAtB P T q.idx q.off && plainTy P q.ty && !(Nat.beq (I.fn q.k false) 0) && q.k.isNum && Nat.blt q.tag 1000
def ascT : Nat → List KT → Bool
  | _, [] => true
  | lo, q :: r => Nat.ble lo q.tag && ascT (q.tag + 1) r
structure KtC (P : Program) (I : IA) (S : List (Nat × List UInt8) → Prop) : Prop where
  us : sliceOf P I.tU32s I.tU32 = true
  u : u32B P I.tU32 = true
  pl : plainTy P I.tU32 = true
  c1 : cellsB P I.tU32 1 = true
  ne : I.tU8 ≠ I.tU32
  i1 : intTy P I.tInt .i64 = true
  i2 : intTy P I.tU32 .u32 = true
  len : TlenC P I.tlen
  each : TeachC P I.tU8 I.teach S
  uv : ApG P I.tU8 I.uvar (fun _ _ x out => ∃ n : Nat, n < 4294967296 ∧ x = .int .u32 n ∧ out = uv n)
  num : ∀ k, k.isNum = true → I.fn k false ≠ 0 → ApG P I.tU8 (I.fn k false) (fun _ _ x out => ∃ n, NumP k x n ∧ out = encP k false (.n n))
section
variable {P : Program} {N : Nat} {Q : Exit → (Nat → Value) → World → Prop} {ρ : Nat → Value} {w w' : World} {ms : List MOp} {I : IA} {S : List (Nat × List UInt8) → Prop}
end
set_option linter.unusedVariables false
def asV (k : PK) (cs : List Value) : Value :=
  match k with
  | .uuid => .agg cs.toArray
  | _ => cs.headD undef
def smallP : D → Prop
  | .s (some l) => l.length ≤ 32767
  | _ => True
section
variable (S : List (Nat × List UInt8) → Prop)
end
def PK.kind : PK → Option IntKind
  | .i8 => some .i8
  | .i16 => some .i16
  | .i32 => some .i32
  | .i64 => some .i64
  | .u16 => some .u16
  | _ => none
def primTy (P : Program) (k : PK) (ty : Nat) : Bool :=
  match k with
  | .uuid => rowTy P ty && cellsB P ty 16
  | _ => plainTy P ty
def zeroN (P : Program) (ty n : Nat) : Bool :=
  match P.info? ty with
  | some i => (match i.zero with | some (.agg cs) => Nat.beq cs.size n | _ => false)
  | none => false
structure AOK (P : Program) (I : IA) (S : List (Nat × List UInt8) → Prop) : Prop where
  small : ∀ tags, S tags → smallT tags
  prim : ∀ k flex, I.fn k flex ≠ 0 → ApC P I.tU8 (I.fn k flex) (fun w B x out => ∃ cs d, x = asV k cs ∧ RepP w (· < B) k cs d ∧ smallP d ∧ out = encP k flex d)
  alen : I.alen ≠ 0 → LenC P I.tU8 I.alen (fun n => fix n 4)
  calen : I.calen ≠ 0 → LenC P I.tU8 I.calen (fun n => uv (n + 1))
  nalen : I.nalen ≠ 0 → NLenC P I.tU8 I.nalen false
  cnalen : I.cnalen ≠ 0 → NLenC P I.tU8 I.cnalen true
  tlen : I.tlen ≠ 0 → TlenC P I.tlen
  teach : I.teach ≠ 0 → TeachC P I.tU8 I.teach S
  uvar : I.uvar ≠ 0 → UvarC P I.tU8 I.uvar
  suf : ∀ a b, S (a ++ b) → S b
  kt : I.tU32s ≠ 0 → I.uvar ≠ 0 → KtC P I S
def fnOk (I : IA) (sf : Option Nat) (k : PK) : Bool := !(Nat.beq (I.fn k false) 0) && (if k.two && sf.isSome then !(Nat.beq (I.fn k true) 0) else true)
def lnOk1 (I : IA) (sf : Option Nat) : Bool := !(Nat.beq I.alen 0) && (if sf.isSome then !(Nat.beq I.calen 0) else true)
def lnOk2 (I : IA) (sf : Option Nat) : Bool := !(Nat.beq I.nalen 0) && (if sf.isSome then !(Nat.beq I.cnalen 0) else true)
def lnOk (I : IA) (sf nul : Option Nat) : Bool :=
  match nul with
  | none => lnOk1 I sf
  | some 0 => lnOk2 I sf
  | some (_ + 1) => lnOk1 I sf && lnOk2 I sf
def knB (P : Program) (I : IA) (T : Nat) (kn : List KT) : Bool := kn.all (ktB P I T) && ascT 0 kn && Nat.blt kn.length 1000 && !(Nat.beq I.tU32s 0)
def wfT (P : Program) (I : IA) (sf : Option Nat) (T : Nat) (tg : Option TgF) : Bool :=
  match tg with
  | none => true
  | some ((i, kn), off) => (kn.isEmpty || knB P I T kn) && fieldAtB P T i off && !(Nat.beq I.tlen 0) && !(Nat.beq I.teach 0) && !(Nat.beq I.uvar 0) && intTy P I.tInt .i64 && intTy P I.tU32 .u32
mutual
def wfE (P : Program) (I : IA) (sf : Option Nat) (ety : Nat) : Ty → Bool
  | .prim k _ => primTy P k ety && cellsB P ety k.cells && fnOk I sf k && (!k.box || zeroN P ety 16)
  | .struct T n _ tg fs => cellsB P ety n && wfF P I sf T fs && wfT P I sf T tg
  | _ => false
def wfF (P : Program) (I : IA) (sf : Option Nat) (T : Nat) : Flds → Bool
  | .nil => true
  | .cons _ idx off _ ty rest => fieldAtB P T idx off && wfFld P I sf ty && wfF P I sf T rest
def wfFld (P : Program) (I : IA) (sf : Option Nat) : Ty → Bool
  | .prim k ty => primTy P k ty && fnOk I sf k && (!k.box || zeroN P ty 16)
  | .enum k ty base => (match k.kind with | some kk => intTy P ty kk && intTy P base kk | none => false) && plainTy P ty && !(Nat.beq (I.fn k false) 0)
  | .vstr _ ty base => plainTy P ty && ptrOf P ty base && plainTy P base && fnOk I sf .str && fnOk I sf .nstr
  | .arr nul ty ety el => plainTy P ty && sliceOf P ty ety && cellsB P ety el.cells && wfE P I sf ety el && lnOk I sf nul
  | .struct T' n _ tg fs => wfF P I sf T' fs && wfT P I sf T' tg
end

section
variable {P : Program} {w : World} {F : Nat → Prop}
end
section
variable {P : Program} {B N L : Nat} {ρ : Nat → Value} {w : World} {x x' : Nat} {I : IA} {ver : Int} {flex : Bool} {sver : Nat} {sf : Option Nat} {S : List (Nat × List UInt8) → Prop}
theorem KnAt.nil {cs : List Value} {out : List (Nat × List UInt8)} (h : KnAt [] cs out) : out = [] := h
end
section
variable {P : Program} {B N L : Nat} {ρ : Nat → Value} {w : World} {x x' : Nat} {I : IA} {ver : Int} {flex : Bool} {sver : Nat} {sf : Option Nat} {S : List (Nat × List UInt8) → Prop}
theorem wrap_small {k : IntKind} {n : Int} (h0 : k.min ≤ n) (h1 : n ≤ k.max) : k.wrap n = n := by
  cases k <;> simp only [IntKind.min, IntKind.max, IntKind.bits, IntKind.signed, if_true, Bool.false_eq_true, if_false, show ((2 : Int) ^ (8 - 1)) = 128 from rfl, show ((2 : Int) ^ (16 - 1)) = 32768 from rfl, show ((2 : Int) ^ (32 - 1)) = 2147483648 from rfl, show ((2 : Int) ^ (64 - 1)) = 9223372036854775808 from rfl, show ((2 : Int) ^ 8) = 256 from rfl, show ((2 : Int) ^ 16) = 65536 from rfl, show ((2 : Int) ^ 32) = 4294967296 from rfl, show ((2 : Int) ^ 64) = 18446744073709551616 from rfl] at h0 h1 <;>
    simp only [IntKind.wrap, IntKind.bits, IntKind.signed, Bool.true_and, Bool.false_and, decide_eq_true_eq, Bool.false_eq_true, if_false, show ((2 : Int) ^ (8 - 1)) = 128 from rfl, show ((2 : Int) ^ (16 - 1)) = 32768 from rfl, show ((2 : Int) ^ (32 - 1)) = 2147483648 from rfl, show ((2 : Int) ^ (64 - 1)) = 9223372036854775808 from rfl, show ((2 : Int) ^ 8) = 256 from rfl, show ((2 : Int) ^ 16) = 65536 from rfl, show ((2 : Int) ^ 32) = 4294967296 from rfl, show ((2 : Int) ^ 64) = 18446744073709551616 from rfl] <;> (try split) <;> omega
theorem RepP.int {w : World} {F : Nat → Prop} {k : PK} {kk : IntKind} {cs : List Value} {d : D} (hk : k.kind = some kk) (h : RepP w F k cs d) : ∃ n, cs = [.int kk n] ∧ kk.wrap n = n := by
  cases k <;> simp only [PK.kind, Option.some.injEq, reduceCtorEq] at hk <;> subst hk <;> simp only [RepP] at h <;> obtain ⟨n, h1, _, h2, h3⟩ := h <;>
    exact ⟨n, h1, wrap_small (by simp [IntKind.min, IntKind.bits, IntKind.signed]; omega) (by simp [IntKind.max, IntKind.bits, IntKind.signed]; omega)⟩
end
structure Plan where
  T : Nat
  fl : Option Nat
  tg : Option TgF
  fs : Flds
def Plan.sf (p : Plan) : Option Nat := p.fl.map fun _ => 6
def Plan.x0 (p : Plan) : Nat := match p.fl with | none => 6 | some _ => 7
def Plan.flex (p : Plan) (ver : Int) : Bool := match p.fl with | none => false | some k => decide ((k : Int) ≤ ver)
def headA (I : IA) (p : Plan) (t : Nat) : List MCode × Nat :=
  let h := [MCode.rg [.mv 4 (.c .nslice)], (loadA p.T 0 0 I.tI16 5 t).1, .rg [.mv (t + 4) (.t 5)]]
  match p.fl with
  | none => (h, t + 5)
  | some k => (h ++ [.rg [.mv (t + 5) (.t 5), .bi (t + 6) .geq I.tI16 (.t (t + 5)) (.c (.int .i16 k)), .mv 6 (.t (t + 6))], .rg [.mv (t + 7) (.t 6)]], t + 8)
def bodyA (I : IA) (p : Plan) (L : Nat) : List MCode × Nat × Nat :=
  let h := headA I p L
  let f := genF I 5 p.sf p.T 0 p.fs h.2 p.x0 0
  let g := tagsA I p.sf p.T 0 p.tg f.2.1 f.2.2.1 f.2.2.2
  (f.1 ++ g.1, g.2.1, g.2.2.1)
def okTop (P : Program) (I : IA) (p : Plan) (L N : Nat) : Bool :=
  wfF P I p.sf p.T p.fs && wfT P I p.sf p.T p.tg && fieldAtB P p.T 0 0 && plainTy P I.tI16 && decide ((bodyA I p L).2.2 ≤ L) && decide ((bodyA I p L).2.1 + 1 ≤ N) && decide (7 ≤ L)
structure MsgAt (w : World) (F : Nat → Prop) (p : Plan) (a : Addr) (ver : Int) (ds : List D) (tags : List (Nat × List UInt8)) (cs : List Value) : Prop where
  spot : a.spot = none
  blk : F a.block
  at_ : w.rangeAt a.block a.off cs
  v0 : cs[0]? = some (.int .i16 ver)
  flds : RepF w F p.fs cs ds
  tgs : TagsAt w F p.tg cs tags
section
variable {P : Program} {I : IA} {S : List (Nat × List UInt8) → Prop}
end
section
variable {P : Program} {N : Nat} {Q : Exit → (Nat → Value) → World → Prop} {ρ : Nat → Value} {w : World} {ms : List MOp} {T : IT}
theorem RL.bsl8 {d T U : Nat} {xs : List MX} {bs : List UInt8} (hT : sliceOf P T U = true) (hU : u8Ty P U = true) (hx : xs.map (xof ρ) = bs.map byteV) (hn : xs.length ≤ 16)
    (h : RL P N ms Q (upd ρ d (.slice (some ⟨w.heap.size, 0, none⟩) bs.length bs.length)) (w.alloc (.cells (bs.map byteV).toArray U))) (hxN : ∀ x ∈ xs, MX.lt N x = true := by simp [MX.lt, Nat.blt_eq]) (hd : d < N := by decide) : RL P N (.bsl d T xs :: ms) Q ρ w := by
  intro a ha
  refine ML.bsl hT hU ?_ hn (h _ (ha.put hd))
  rw [← hx]
  exact List.map_congr_left fun x hxm => MX.of_loc ha (by rintro s rfl; simpa [MX.lt, Nat.blt_eq] using hxN _ hxm)
theorem RL.bslAp {d1 d T U x B : Nat} {xs : List MX} {bs l : List UInt8} {sv : Value} (hT : sliceOf P T U = true) (hU : u8Ty P U = true) (hx : xs.map (xof ρ) = l.map byteV) (hn : xs.length ≤ 16) (hs : ρ x = sv) (hxd : x ≠ d1) (ho : OwnB U w B sv bs) (hB : B ≤ w.heap.size) (hlim : bs.length + l.length ≤ lim)
    (h : ∀ ρ1 sv' w', ρ1 = upd ρ d1 (.slice (some ⟨w.heap.size, 0, none⟩) l.length l.length) → OwnB U w' B sv' (bs ++ l) → Below B w w' → RL P N ms Q (upd ρ1 d sv') w')
    (hxN : ∀ x ∈ xs, MX.lt N x = true := by simp [MX.lt, Nat.blt_eq]) (hd1 : d1 < N := by decide) (hd : d < N := by decide) (hxN' : x < N := by decide) : RL P N (.bsl d1 T xs :: .ap d T T x d1 :: ms) Q ρ w := by
  refine RL.bsl8 hT hU hx hn ?_ hxN hd1
  refine RL.apOwn (bs := bs) (l := l) (sv := sv) (B := B) hT hU (by rw [upd_ne _ _ hxd]; exact hs) (ho.alloc _) (upd_same _ _ _) rfl (BytesAt.new l) (by simp; omega) hlim ?_ hxN' hd1 hd
  intro sv' w' h1 h2
  exact h _ sv' w' rfl h1 (((Below.refl B w).alloc hB _).trans h2)
def codeBool (T : IT) : MCode := rows [.rg [.mv 4 (.c .nslice)], .sq (.rg [.mv 5 (.t 1)]) (.cd 5 (.sq (.rg [.mv 6 (.t 0), .bsl 7 T.u8s [.c (.int .u8 1)], .ap 8 T.u8s T.u8s 6 7, .mv 4 (.t 8)]) .rt) .sk),
  .rg [.mv 9 (.t 0), .bsl 10 T.u8s [.c (.int .u8 0)], .ap 11 T.u8s T.u8s 9 10, .mv 4 (.t 11)], .rt]
def BoolC (P : Program) (U f : Nat) : Prop := ApC P U f (fun _ _ x out => ∃ b : Bool, x = .bool b ∧ out = [if b then 1 else 0])
def codeUuid (T : IT) (A : Nat) : MCode := rows [.rg [.bx 3 A 1, .mv 4 (.c .nslice)], .rg [.mv 5 (.t 0), .sl 6 A 3 none none none, .ap 7 T.u8s T.u8s 5 6, .mv 4 (.t 7)], .rt]
def UuidC (P : Program) (U f : Nat) : Prop := ApC P U f (fun _ _ x out => out.length = 16 ∧ x = .agg (out.map byteV).toArray)
/-! ### The test of the program -/
def resIs (r : Nat) (l : List ResultVar) : Bool :=
  match l with
  | [.tmp r'] => Nat.beq r r'
  | _ => false
def isFn (P : Program) (f : Nat) (m : MCode) (N r : Nat) : Bool :=
  entersB P f && (match P.funcs[f]? with
    | some fn => Nat.beq fn.ntmps N && resIs r fn.results.toList && (match fn.body with | some c => fits m c | none => false)
    | none => false)
theorem FnIs.of {f N r : Nat} {m : MCode} (h : isFn P f m N r = true) : FnIs P f m N r := by
  simp only [isFn, Bool.and_eq_true] at h
  obtain ⟨h1, h2⟩ := h
  refine ⟨?_, h1⟩
  cases hf : P.funcs[f]? with
  | none => simp [hf] at h2
  | some fn =>
    simp only [hf, Bool.and_eq_true, Nat.beq_eq] at h2
    obtain ⟨⟨g1, g2⟩, g3⟩ := h2
    cases hb : fn.body with
    | none => simp [hb] at g3
    | some c =>
      simp only [hb] at g3
      refine ⟨fn, c, rfl, hb, g3, g1, ?_⟩
      apply Array.toList_inj.1
      generalize fn.results.toList = l at g2
      match l, g2 with
      | [.tmp r'], g2 => simp only [resIs, Nat.beq_eq] at g2; rw [g2]
structure KB where
  T : IT
  tP : Nat
  tA : Nat
  i8 : Nat
  u16 : Nat
  i16 : Nat
  u32 : Nat
  i32 : Nat
  u64 : Nat
  i64 : Nat
  bool : Nat
  uuid : Nat
  l32 : Nat
  uvl : Nat
  uv : Nat
  str : Nat
  cstr : Nat
  nstr : Nat
  cnstr : Nat
  byt : Nat
  cbyt : Nat
  nbyt : Nat
  cnbyt : Nat
  alen : Nat
  calen : Nat
  nalen : Nat
  cnalen : Nat
  f64 : Nat := 0
  ffb : Nat := 0
def orNo (f : Nat) (b : Bool) : Bool := if Nat.beq f 0 then true else b
def yes (f : Nat) : Bool := !(Nat.beq f 0)
theorem orNo_of {f : Nat} {b : Bool} (h : orNo f b = true) (hf : f ≠ 0) : b = true := by
  unfold orNo at h
  rw [if_neg (by simpa using hf)] at h
  exact h
def tokB (P : Program) (T : IT) : Bool :=
  u8Ty P T.u8 && intTy P T.u8 .u8 && sliceOf P T.u8s T.u8 && orNo T.i8 (intTy P T.i8 .i8) && orNo T.i16 (intTy P T.i16 .i16) && orNo T.u16 (intTy P T.u16 .u16) && orNo T.i32 (intTy P T.i32 .i32) &&
  orNo T.u32 (intTy P T.u32 .u32) && orNo T.i64 (intTy P T.i64 .i64) && orNo T.u64 (intTy P T.u64 .u64) && intTy P T.int .i64 && orNo T.str (strTy P T.str)
theorem tok_of (h : tokB P T = true) : TOK P T := by
  simp only [tokB, Bool.and_eq_true] at h
  obtain ⟨⟨⟨⟨⟨⟨⟨⟨⟨⟨⟨h1, h2⟩, h3⟩, h4⟩, h5⟩, h6⟩, h7⟩, h8⟩, h9⟩, h10⟩, h11⟩, h12⟩ := h
  exact ⟨h1, h2, h3, orNo_of h4, orNo_of h5, orNo_of h6, orNo_of h7, orNo_of h8, orNo_of h9, orNo_of h10, h11, orNo_of h12⟩
def kbOk (P : Program) (K : KB) : List Bool := [
  tokB P K.T,
  orNo K.i8 (isFn P K.i8 (code8 K.T) 10 4 && yes K.T.i8),
  orNo K.u16 (isFn P K.u16 (code16 K.T) 13 4 && yes K.T.u16),
  orNo K.i16 (isFn P K.i16 (codeConv 4 K.T.i16 K.T.u16 K.u16) 9 4 && yes K.T.i16 && yes K.u16 && yes K.T.u16),
  orNo K.u32 (isFn P K.u32 (code32 K.T) 19 4 && yes K.T.u32),
  orNo K.i32 (isFn P K.i32 (codeConv 4 K.T.i32 K.T.u32 K.u32) 9 4 && yes K.T.i32 && yes K.u32 && yes K.T.u32),
  orNo K.u64 (isFn P K.u64 (code64 K.T) 31 4 && yes K.T.u64),
  orNo K.i64 (isFn P K.i64 (codeConv 4 K.T.i64 K.T.u64 K.u64) 9 4 && yes K.T.i64 && yes K.u64 && yes K.T.u64),
  orNo K.bool (isFn P K.bool (codeBool K.T) 12 4),
  orNo K.uuid (isFn P K.uuid (codeUuid K.T K.tA) 8 4 && arrOf P K.tA 16 K.T.u8),
  orNo K.uv (isFn P K.l32 (codeLen32 K.T) 19 2 && isFn P K.uvl (codeUvLen K.T K.l32) 8 2 && isFn P K.uv (codeUv K.T K.uvl) 93 4 && yes K.T.u32 && yes K.T.str),
  orNo K.str (isFn P K.str (codeStr K.T K.T.str K.T.i16 K.i16) 13 4 && yes K.T.str && yes K.T.i16 && yes K.i16),
  orNo K.cstr (isFn P K.cstr (codeCStr K.T K.T.str K.uv) 14 4 && yes K.T.str && yes K.T.u32 && yes K.uv),
  orNo K.nstr (isFn P K.nstr (codeNStr K.T K.tP K.i16 K.str .i16 (-1)) 14 4 && ptrOf P K.tP K.T.str && plainTy P K.T.str && yes K.T.str && yes K.i16 && yes K.str),
  orNo K.cnstr (isFn P K.cnstr (codeNStr K.T K.tP K.uv K.cstr .u32 0) 14 4 && ptrOf P K.tP K.T.str && plainTy P K.T.str && yes K.T.str && yes K.uv && yes K.cstr),
  orNo K.byt (isFn P K.byt (codeStr K.T K.T.u8s K.T.i32 K.i32) 13 4 && yes K.T.i32 && yes K.i32),
  orNo K.cbyt (isFn P K.cbyt (codeCStr K.T K.T.u8s K.uv) 14 4 && yes K.T.u32 && yes K.uv),
  orNo K.nbyt (isFn P K.nbyt (codeNByt K.T K.i32 K.byt .i32 (-1)) 12 4 && yes K.i32 && yes K.byt),
  orNo K.cnbyt (isFn P K.cnbyt (codeNByt K.T K.uv K.cbyt .u32 0) 12 4 && yes K.uv && yes K.cbyt),
  orNo K.alen (isFn P K.alen (codeConv 4 K.T.int K.T.i32 K.i32) 9 4 && yes K.T.i32 && yes K.i32),
  orNo K.calen (isFn P K.calen (codeCLen K.T K.uv) 10 4 && yes K.T.u32 && yes K.uv),
  orNo K.nalen (isFn P K.nalen (codeNLen K.T K.i32) 14 6 && yes K.T.i32 && yes K.i32),
  orNo K.cnalen (isFn P K.cnalen (codeCNLen K.T K.uv) 15 6 && yes K.T.u32 && yes K.uv)]
def F64W (P : Program) (K : KB) : Prop := K.f64 ≠ 0 → ApC P K.T.u8 K.f64 (fun _ _ x out => ∃ n : Nat, n < 18446744073709551616 ∧ x = .float .f64 n ∧ out = be n 8)
structure KOK (P : Program) (K : KB) : Prop where
  tk : TOK P K.T
  i8 : K.i8 ≠ 0 → ApG P K.T.u8 K.i8 (fun _ _ x out => ∃ n : Int, x = .int .i8 n ∧ out = fix n 1)
  u16 : K.u16 ≠ 0 → ApG P K.T.u8 K.u16 (fun _ _ x out => ∃ n : Nat, n < 65536 ∧ x = .int .u16 n ∧ out = be n 2)
  i16 : K.i16 ≠ 0 → ApG P K.T.u8 K.i16 (fun _ _ x out => ∃ n : Int, x = .int .i16 n ∧ out = fix n 2)
  i32 : K.i32 ≠ 0 → ApG P K.T.u8 K.i32 (fun _ _ x out => ∃ n : Int, x = .int .i32 n ∧ out = fix n 4)
  i64 : K.i64 ≠ 0 → ApG P K.T.u8 K.i64 (fun _ _ x out => ∃ n : Int, x = .int .i64 n ∧ out = fix n 8)
  bool : K.bool ≠ 0 → BoolC P K.T.u8 K.bool
  uuid : K.uuid ≠ 0 → UuidC P K.T.u8 K.uuid
  uv : K.uv ≠ 0 → UvarC P K.T.u8 K.uv
  str : K.str ≠ 0 → StrC P K.T.u8 K.str false
  cstr : K.cstr ≠ 0 → StrC P K.T.u8 K.cstr true
  nstr : K.nstr ≠ 0 → NStrC P K.T.u8 K.nstr false
  cnstr : K.cnstr ≠ 0 → NStrC P K.T.u8 K.cnstr true
  byt : K.byt ≠ 0 → BytC P K.T.u8 K.byt false
  cbyt : K.cbyt ≠ 0 → BytC P K.T.u8 K.cbyt true
  nbyt : K.nbyt ≠ 0 → NBytC P K.T.u8 K.nbyt false
  cnbyt : K.cnbyt ≠ 0 → NBytC P K.T.u8 K.cnbyt true
  alen : K.alen ≠ 0 → LenC P K.T.u8 K.alen (fun n => fix n 4)
  calen : K.calen ≠ 0 → LenC P K.T.u8 K.calen (fun n => Kx.uv (n + 1))
  nalen : K.nalen ≠ 0 → NLenC P K.T.u8 K.nalen false
  cnalen : K.cnalen ≠ 0 → NLenC P K.T.u8 K.cnalen true
  uvg : K.uv ≠ 0 → UvarG P K.T.u8 K.uv
  f64 : F64W P K
theorem yes_of {f : Nat} (h : yes f = true) : f ≠ 0 := ne0 h
end
structure SN where
  T : IT
  fds : Nat
  fd : Nat
  trs : Nat
  tr : Nat
  tgs : Nat
  tg : Nat
  msg : Nat
  fSame : Nat
  fVer : Nat
  fWrite : Nat
  fDflt : Nat
  fPart : Nat
  fHas : Nat
  fField : Nat
  fAt : Nat
  fKnown : Nat
  fUsual : Nat
  fUvar : Nat
  fUnk : Nat
  fWhole : Nat
  fNull : Nat
  fThings : Nat
  fCounted : Nat
  fValue : Nat
  fFixed : Nat
  fWidth : Nat
def cSame (S : SN) : MCode :=
 .sq (.rg [.mv 4 (.c (.bool false))])
  (.sq (.sq (.rg [.mv 6 (.t 0), .ln 7 S.T.u8s 6, .mv 8 (.t 1), .ln 9 S.T.u8s 8, .bi 10 .neq S.T.int (.t 7) (.t 9)])
  (.cd 10 (.sq (.rg [.mv 4 (.c (.bool false))])
  (.rt)) (.sk)))
  (.sq (.sq (.rg [.mv 11 (.t 0), .ln 12 S.T.u8s 11, .mv 13 (.c (.int .i64 (0)))])
  (.bl 0 (.lp (.sq (.rg [.bi 14 .lss S.T.int (.t 13) (.t 12)])
  (.sq (.cd 14 (.sk) (.ex 0))
  (.sq (.bl 1 (.sq (.rg [.mv 15 (.t 13), .mv 5 (.t 15)])
  (.sq (.gr true [⟨0, none, .mv 16 (.t 0)⟩, ⟨1, none, .mv 17 (.t 5)⟩, ⟨2, none, .ia 18 S.T.u8s 16 17⟩, ⟨3, none, .ld 19 S.T.u8 18⟩, ⟨4, none, .mv 20 (.t 1)⟩, ⟨5, none, .mv 21 (.t 5)⟩, ⟨6, none, .ia 22 S.T.u8s 20 21⟩, ⟨7, none, .ld 23 S.T.u8 22⟩, ⟨8, none, .bi 24 .neq S.T.u8 (.t 19) (.t 23)⟩])
  (.cd 24 (.sq (.rg [.mv 4 (.c (.bool false))])
  (.rt)) (.sk)))))
  (.rg [.bi 25 .add S.T.int (.t 13) (.c (.int .i64 (1))), .mv 13 (.t 25)])))))))
  (.sq (.rg [.mv 4 (.c (.bool true))])
  (.rt))))
def cWrite (S : SN) : MCode :=
 .sq (.rg [.bx 3 S.msg 0, .bx 5 S.tr 2, .mv 6 (.c .nslice)])
  (.sq (.gr false [⟨0, none, .fa 7 S.msg 3 0⟩, ⟨1, none, .ld 8 S.fds 7⟩, ⟨2, none, .mv 9 (.t 1)⟩, ⟨3, none, .fa 10 S.msg 3 1⟩, ⟨4, none, .ld 11 S.T.int 10⟩, ⟨5, none, .bi 12 .geq S.T.int (.t 11) (.c (.int .i64 (0)))⟩, ⟨6, none, .mv 13 (.t 12)⟩, ⟨7, some (6, 13, true), .mv 14 (.t 1)⟩, ⟨8, some (6, 13, true), .fa 15 S.msg 3 1⟩, ⟨9, some (6, 13, true), .ld 16 S.T.int 15⟩, ⟨10, some (6, 13, true), .bi 17 .geq S.T.int (.t 14) (.t 16)⟩, ⟨11, none, .pk 18 (.t 13) (.t 17) (.c (.bool false))⟩, ⟨12, none, .ld 19 S.tr 5⟩, ⟨13, none, .ca 20 S.fPart [.t 8, .t 9, .t 18, .t 19]⟩, ⟨14, none, .mv 6 (.t 20)⟩])
  (.rt))
def cDflt (S : SN) : MCode :=
 .sq (.rg [.al 2 S.tr])
  (.sq (.rg [.al 3 S.tr])
  (.sq (.sq (.rg [.mv 7 (.t 0), .ln 8 S.fds 7, .mv 9 (.c (.int .i64 (0)))])
  (.bl 0 (.lp (.sq (.rg [.bi 10 .lss S.T.int (.t 9) (.t 8)])
  (.sq (.cd 10 (.sk) (.ex 0))
  (.sq (.bl 1 (.sq (.rg [.ia 11 S.fds 7 9, .ld 12 S.fd 11, .al 5 S.fd, .st S.fd 5 12])
  (.sq (.rg [.fa 13 S.fd 5 5, .ld 14 S.T.i64 13, .fa 15 S.fd 5 3, .ld 16 S.T.int 15, .bi 17 .geq S.T.int (.t 16) (.c (.int .i64 (0))), .bdl 18 S.tr [(0, .t 14), (2, .t 17)], .al 6 S.tr, .st S.tr 6 18])
  (.sq (.sq (.rg [.fa 19 S.fd 5 0, .ld 20 S.T.int 19, .bi 21 .eql S.T.int (.t 20) (.c (.int .i64 (10)))])
  (.cd 21 (.rg [.fa 22 S.fd 5 7, .ld 23 S.fds 22, .ca 24 S.fDflt [.t 23], .fl 25 S.tr 24 3, .fa 26 S.tr 6 3, .st S.trs 26 25]) (.sk)))
  (.rg [.fa 27 S.tr 3 3, .ld 28 S.trs 27, .ld 29 S.tr 6, .bsl 30 S.trs [.t 29], .ap 31 S.trs S.trs 28 30, .fa 32 S.tr 3 3, .st S.trs 32 31])))))
  (.rg [.bi 33 .add S.T.int (.t 9) (.c (.int .i64 (1))), .mv 9 (.t 33)])))))))
  (.sq (.rg [.ld 34 S.tr 3, .st S.tr 2 34])
  (.rt))))
def cPart (S : SN) : MCode :=
 .sq (.rg [.bx 7 S.tr 3, .mv 8 (.c .nslice)])
  (.sq (.rg [.mv 9 (.c .nslice), .mv 10 (.c .nslice)])
  (.sq (.rg [.mv 11 (.c (.int .i64 (0)))])
  (.sq (.sq (.rg [.mv 21 (.t 0), .ln 22 S.fds 21, .mv 23 (.c (.int .i64 (0)))])
  (.bl 0 (.lp (.sq (.rg [.bi 24 .lss S.T.int (.t 23) (.t 22)])
  (.sq (.cd 24 (.sk) (.ex 0))
  (.sq (.bl 1 (.sq (.rg [.mv 25 (.t 23), .ia 26 S.fds 21 23, .ld 27 S.fd 26, .al 13 S.fd, .mv 12 (.t 25), .st S.fd 13 27])
  (.sq (.gr false [⟨0, none, .fa 28 S.fd 13 4⟩, ⟨1, none, .ld 29 S.T.int 28⟩, ⟨2, none, .bi 30 .lss S.T.int (.t 29) (.c (.int .i64 (0)))⟩, ⟨3, none, .mv 31 (.t 30)⟩, ⟨4, some (3, 31, true), .ld 32 S.fd 13⟩, ⟨5, some (3, 31, true), .mv 33 (.t 1)⟩, ⟨6, some (3, 31, true), .ca 34 S.fHas [.t 32, .t 33]⟩, ⟨7, none, .pk 35 (.t 31) (.t 34) (.c (.bool false))⟩])
  (.cd 35 (.gr true [⟨0, none, .mv 36 (.t 9)⟩, ⟨1, none, .ld 37 S.fd 13⟩, ⟨2, none, .mv 38 (.t 1)⟩, ⟨3, none, .mv 39 (.t 2)⟩, ⟨4, none, .ld 40 S.tr 7⟩, ⟨5, none, .mv 41 (.t 12)⟩, ⟨6, none, .ca 42 S.fAt [.t 40, .t 41]⟩, ⟨7, none, .ca 43 S.fField [.t 37, .t 38, .t 39, .t 42]⟩, ⟨8, none, .ap 44 S.T.u8s S.T.u8s 36 43⟩, ⟨9, none, .mv 9 (.t 44)⟩]) (.sk)))))
  (.rg [.bi 45 .add S.T.int (.t 23) (.c (.int .i64 (1))), .mv 23 (.t 45)])))))))
  (.sq (.sq (.rg [.mv 46 (.t 2), .nt 47 46])
  (.cd 47 (.sq (.rg [.mv 48 (.t 9), .mv 8 (.t 48)])
  (.rt)) (.sk)))
  (.sq (.sq (.rg [.mv 49 (.t 0), .ca 50 S.fKnown [.t 49], .cv 51 S.T.u32 S.T.int 50, .mv 52 (.c (.int .i64 (0)))])
  (.bl 2 (.lp (.sq (.rg [.bi 53 .lss S.T.int (.t 52) (.t 51)])
  (.sq (.cd 53 (.sk) (.ex 2))
  (.sq (.bl 3 (.sq (.rg [.mv 54 (.t 52), .mv 14 (.t 54)])
  (.sq (.rg [.mv 55 (.t 0), .ln 56 S.fds 55, .mv 57 (.c (.int .i64 (0)))])
  (.bl 4 (.lp (.sq (.rg [.bi 58 .lss S.T.int (.t 57) (.t 56)])
  (.sq (.cd 58 (.sk) (.ex 4))
  (.sq (.bl 5 (.sq (.rg [.mv 59 (.t 57), .ia 60 S.fds 55 57, .ld 61 S.fd 60, .al 16 S.fd, .mv 15 (.t 59), .st S.fd 16 61])
  (.sq (.gr true [⟨0, none, .fa 62 S.fd 16 4⟩, ⟨1, none, .ld 63 S.T.int 62⟩, ⟨2, none, .mv 64 (.t 14)⟩, ⟨3, none, .bi 65 .eql S.T.int (.t 63) (.t 64)⟩, ⟨4, none, .mv 66 (.t 65)⟩, ⟨5, some (4, 66, true), .ld 67 S.fd 16⟩, ⟨6, some (4, 66, true), .ld 68 S.tr 7⟩, ⟨7, some (4, 66, true), .mv 69 (.t 15)⟩, ⟨8, some (4, 66, true), .ca 70 S.fAt [.t 68, .t 69]⟩, ⟨9, some (4, 66, true), .ca 71 S.fUsual [.t 67, .t 70]⟩, ⟨10, some (4, 66, true), .nt 72 71⟩, ⟨11, none, .pk 73 (.t 66) (.t 72) (.c (.bool false))⟩])
  (.cd 73 (.sq (.gr true [⟨0, none, .ld 74 S.fd 16⟩, ⟨1, none, .mv 75 (.t 1)⟩, ⟨2, none, .mv 76 (.t 2)⟩, ⟨3, none, .ld 77 S.tr 7⟩, ⟨4, none, .mv 78 (.t 15)⟩, ⟨5, none, .ca 79 S.fAt [.t 77, .t 78]⟩, ⟨6, none, .ca 80 S.fField [.t 74, .t 75, .t 76, .t 79]⟩, ⟨7, none, .mv 17 (.t 80)⟩])
  (.sq (.rg [.mv 81 (.t 10), .mv 82 (.t 14), .cv 83 S.T.int S.T.u64 82, .ca 84 S.fUvar [.t 83], .ap 85 S.T.u8s S.T.u8s 81 84, .mv 86 (.t 17), .ln 87 S.T.u8s 86, .cv 88 S.T.int S.T.u64 87, .ca 89 S.fUvar [.t 88], .ap 90 S.T.u8s S.T.u8s 85 89, .mv 91 (.t 17), .ap 92 S.T.u8s S.T.u8s 90 91, .mv 10 (.t 92)])
  (.rg [.mv 93 (.t 11), .bi 94 .add S.T.int (.t 93) (.c (.int .i64 (1))), .mv 11 (.t 94)]))) (.sk)))))
  (.rg [.bi 95 .add S.T.int (.t 57) (.c (.int .i64 (1))), .mv 57 (.t 95)])))))))))
  (.rg [.bi 96 .add S.T.int (.t 52) (.c (.int .i64 (1))), .mv 52 (.t 96)])))))))
  (.sq (.sq (.rg [.mv 97 (.t 0), .fa 98 S.tr 7 4, .ld 99 S.tgs 98, .ca 100 S.fUnk [.t 97, .t 99], .ln 101 S.tgs 100, .mv 102 (.c (.int .i64 (0)))])
  (.bl 6 (.lp (.sq (.rg [.bi 103 .lss S.T.int (.t 102) (.t 101)])
  (.sq (.cd 103 (.sk) (.ex 6))
  (.sq (.bl 7 (.sq (.rg [.ia 104 S.tgs 100 102, .ld 105 S.tg 104, .al 19 S.tg, .st S.tg 19 105])
  (.sq (.rg [.fa 106 S.tg 19 1, .ld 107 S.T.u8s 106, .ca 108 S.fWhole [.t 107], .mv 20 (.t 108)])
  (.sq (.rg [.mv 109 (.t 10), .fa 110 S.tg 19 0, .ld 111 S.T.u32 110, .cv 112 S.T.u32 S.T.u64 111, .ca 113 S.fUvar [.t 112], .ap 114 S.T.u8s S.T.u8s 109 113, .mv 115 (.t 20), .ln 116 S.T.u8s 115, .cv 117 S.T.int S.T.u64 116, .ca 118 S.fUvar [.t 117], .ap 119 S.T.u8s S.T.u8s 114 118, .mv 120 (.t 20), .ap 121 S.T.u8s S.T.u8s 119 120, .mv 10 (.t 121)])
  (.rg [.mv 122 (.t 11), .bi 123 .add S.T.int (.t 122) (.c (.int .i64 (1))), .mv 11 (.t 123)])))))
  (.rg [.bi 124 .add S.T.int (.t 102) (.c (.int .i64 (1))), .mv 102 (.t 124)])))))))
  (.sq (.rg [.mv 125 (.t 9), .mv 126 (.t 11), .cv 127 S.T.int S.T.u64 126, .ca 128 S.fUvar [.t 127], .ap 129 S.T.u8s S.T.u8s 125 128, .mv 130 (.t 10), .ap 131 S.T.u8s S.T.u8s 129 130, .mv 8 (.t 131)])
  (.rt))))))))
def cField (S : SN) : MCode :=
 .sq (.rg [.bx 4 S.fd 0, .bx 7 S.tr 3, .mv 8 (.c .nslice)])
  (.sq (.rg [.ld 13 S.fd 4, .mv 14 (.t 1), .ld 15 S.tr 7, .ca 16 S.fNull [.t 13, .t 14, .t 15], .mv 9 (.t 16)])
  (.sq (.sq (.rg [.fa 17 S.fd 4 0, .ld 18 S.T.int 17, .bi 19 .eql S.T.int (.t 18) (.c (.int .i64 (11)))])
  (.cd 19 (.sq (.rg [.fa 20 S.tr 7 3, .ld 21 S.trs 20, .ca 22 S.fThings [.t 21], .mv 10 (.t 22)])
  (.sq (.sq (.rg [.mv 23 (.t 9)])
  (.cd 23 (.rg [.mv 10 (.c .nslice)]) (.sk)))
  (.sq (.rg [.mv 24 (.t 2), .mv 25 (.t 9), .mv 26 (.t 10), .ln 27 S.trs 26, .ca 28 S.fCounted [.t 24, .t 25, .t 27, .c (.int .i64 (4))], .mv 11 (.t 28)])
  (.sq (.sq (.rg [.mv 29 (.t 10), .ln 30 S.trs 29, .mv 31 (.c (.int .i64 (0)))])
  (.bl 0 (.lp (.sq (.rg [.bi 32 .lss S.T.int (.t 31) (.t 30)])
  (.sq (.cd 32 (.sk) (.ex 0))
  (.sq (.bl 1 (.sq (.rg [.mv 33 (.t 31), .mv 12 (.t 33)])
  (.gr true [⟨0, none, .mv 34 (.t 11)⟩, ⟨1, none, .fa 35 S.fd 4 6⟩, ⟨2, none, .ld 36 S.T.int 35⟩, ⟨3, none, .fa 37 S.fd 4 7⟩, ⟨4, none, .ld 38 S.fds 37⟩, ⟨5, none, .mv 39 (.t 1)⟩, ⟨6, none, .mv 40 (.t 2)⟩, ⟨7, none, .mv 41 (.t 10)⟩, ⟨8, none, .mv 42 (.t 12)⟩, ⟨9, none, .ia 43 S.trs 41 42⟩, ⟨10, none, .ld 44 S.tr 43⟩, ⟨11, none, .ca 45 S.fValue [.t 36, .t 38, .c (.bool false), .t 39, .t 40, .t 44]⟩, ⟨12, none, .ap 46 S.T.u8s S.T.u8s 34 45⟩, ⟨13, none, .mv 11 (.t 46)⟩])))
  (.rg [.bi 47 .add S.T.int (.t 31) (.c (.int .i64 (1))), .mv 31 (.t 47)])))))))
  (.sq (.rg [.mv 48 (.t 11), .mv 8 (.t 48)])
  (.rt)))))) (.sk)))
  (.sq (.sq (.gr false [⟨0, none, .fa 49 S.fd 4 0⟩, ⟨1, none, .ld 50 S.T.int 49⟩, ⟨2, none, .bi 51 .eql S.T.int (.t 50) (.c (.int .i64 (10)))⟩, ⟨3, none, .mv 52 (.t 51)⟩, ⟨4, some (3, 52, true), .fa 53 S.fd 4 3⟩, ⟨5, some (3, 52, true), .ld 54 S.T.int 53⟩, ⟨6, some (3, 52, true), .bi 55 .geq S.T.int (.t 54) (.c (.int .i64 (0)))⟩, ⟨7, none, .pk 56 (.t 52) (.t 55) (.c (.bool false))⟩])
  (.cd 56 (.sq (.sq (.rg [.mv 57 (.t 9)])
  (.cd 57 (.sq (.rg [.ca 58 S.fFixed [.c (.int .i64 (-1)), .c (.int .i64 (1))], .mv 8 (.t 58)])
  (.rt)) (.sk)))
  (.sq (.gr true [⟨1, none, .fa 60 S.fd 4 7⟩, ⟨2, none, .ld 61 S.fds 60⟩, ⟨3, none, .mv 62 (.t 1)⟩, ⟨4, none, .mv 63 (.t 2)⟩, ⟨5, none, .ld 64 S.tr 7⟩, ⟨0, none, .ca 59 S.fFixed [.c (.int .i64 (1)), .c (.int .i64 (1))]⟩, ⟨6, none, .ca 65 S.fPart [.t 61, .t 62, .t 63, .t 64]⟩, ⟨7, none, .ap 66 S.T.u8s S.T.u8s 59 65⟩, ⟨8, none, .mv 8 (.t 66)⟩])
  (.rt))) (.sk)))
  (.sq (.rg [.fa 67 S.fd 4 0, .ld 68 S.T.int 67, .fa 69 S.fd 4 7, .ld 70 S.fds 69, .mv 71 (.t 9), .mv 72 (.t 1), .mv 73 (.t 2), .ld 74 S.tr 7, .ca 75 S.fValue [.t 68, .t 70, .t 71, .t 72, .t 73, .t 74], .mv 8 (.t 75)])
  (.rt)))))
def cValue (S : SN) : MCode :=
 .sq (.rg [.bx 11 S.tr 5, .mv 12 (.c .nslice)])
  (.sq (.sq (.rg [.mv 16 (.t 0)])
  (.bl 0 (.sq (.rg [.bi 18 .eql S.T.int (.t 16) (.c (.int .i64 (0))), .mv 17 (.t 18)])
  (.cd 17 (.sq (.rg [.fa 19 S.tr 11 0, .ld 20 S.T.i64 19, .bi 21 .and S.T.i64 (.t 20) (.c (.int .i64 (1))), .cv 22 S.T.i64 S.T.u8 21, .bsl 23 S.T.u8s [.t 22], .mv 12 (.t 23)])
  (.rt)) (.sq (.rg [.bi 25 .eql S.T.int (.t 16) (.c (.int .i64 (7))), .mv 24 (.t 25)])
  (.cd 24 (.sq (.rg [.mk 26 S.T.u8s (.c (.int .i64 (16))) (.c (.int .i64 (16))), .mv 13 (.t 26)])
  (.sq (.rg [.mv 27 (.t 13), .fa 28 S.tr 11 1, .ld 29 S.T.u8s 28, .cp 30 S.T.u8s S.T.u8s 27 29])
  (.sq (.rg [.mv 31 (.t 13), .mv 12 (.t 31)])
  (.rt)))) (.sq (.rg [.bi 33 .eql S.T.int (.t 16) (.c (.int .i64 (8))), .mv 32 (.t 33)])
  (.cd 32 (.sq (.rg [.fa 34 S.tr 11 1, .ld 35 S.T.u8s 34, .ca 36 S.fWhole [.t 35], .mv 14 (.t 36)])
  (.sq (.sq (.rg [.mv 37 (.t 2)])
  (.cd 37 (.rg [.mv 14 (.c .nslice)]) (.sk)))
  (.sq (.rg [.mv 38 (.t 4), .mv 39 (.t 2), .mv 40 (.t 14), .ln 41 S.T.u8s 40, .ca 42 S.fCounted [.t 38, .t 39, .t 41, .c (.int .i64 (2))], .mv 43 (.t 14), .ap 44 S.T.u8s S.T.u8s 42 43, .mv 12 (.t 44)])
  (.rt)))) (.sq (.rg [.bi 46 .eql S.T.int (.t 16) (.c (.int .i64 (9))), .mv 45 (.t 46)])
  (.cd 45 (.sq (.rg [.fa 47 S.tr 11 1, .ld 48 S.T.u8s 47, .ca 49 S.fWhole [.t 48], .mv 15 (.t 49)])
  (.sq (.sq (.rg [.mv 50 (.t 2)])
  (.cd 50 (.rg [.mv 15 (.c .nslice)]) (.sk)))
  (.sq (.rg [.mv 51 (.t 4), .mv 52 (.t 2), .mv 53 (.t 15), .ln 54 S.T.u8s 53, .ca 55 S.fCounted [.t 51, .t 52, .t 54, .c (.int .i64 (4))], .mv 56 (.t 15), .ap 57 S.T.u8s S.T.u8s 55 56, .mv 12 (.t 57)])
  (.rt)))) (.sq (.rg [.bi 59 .eql S.T.int (.t 16) (.c (.int .i64 (10))), .mv 58 (.t 59)])
  (.cd 58 (.sq (.rg [.mv 60 (.t 1), .mv 61 (.t 3), .mv 62 (.t 4), .ld 63 S.tr 11, .ca 64 S.fPart [.t 60, .t 61, .t 62, .t 63], .mv 12 (.t 64)])
  (.rt)) (.sk)))))))))))))
  (.sq (.gr true [⟨0, none, .fa 65 S.tr 11 0⟩, ⟨1, none, .ld 66 S.T.i64 65⟩, ⟨2, none, .mv 67 (.t 0)⟩, ⟨3, none, .ca 68 S.fWidth [.t 67]⟩, ⟨4, none, .ca 69 S.fFixed [.t 66, .t 68]⟩, ⟨5, none, .mv 12 (.t 69)⟩])
  (.rt)))
def cFixed (S : SN) : MCode :=
 .sq (.rg [.mv 4 (.c .nslice)])
  (.sq (.rg [.mv 5 (.c .nslice)])
  (.sq (.sq (.rg [.mv 7 (.t 1), .bi 8 .sub S.T.int (.t 7) (.c (.int .i64 (1))), .mv 6 (.t 8)])
  (.bl 0 (.lp (.sq (.sq (.rg [.mv 9 (.t 6), .bi 10 .geq S.T.int (.t 9) (.c (.int .i64 (0)))])
  (.cd 10 (.sk) (.ex 0)))
  (.sq (.bl 1 (.rg [.mv 13 (.t 5), .mv 14 (.t 0), .mv 15 (.t 6), .bi 16 .mul S.T.int (.c (.int .i64 (8))) (.t 15), .b2 17 .shr (.t 14) (.t 16), .cv 18 S.T.i64 S.T.u8 17, .bsl 19 S.T.u8s [.t 18], .ap 20 S.T.u8s S.T.u8s 13 19, .mv 5 (.t 20)]))
  (.rg [.mv 11 (.t 6), .bi 12 .sub S.T.int (.t 11) (.c (.int .i64 (1))), .mv 6 (.t 12)]))))))
  (.sq (.rg [.mv 21 (.t 5), .mv 4 (.t 21)])
  (.rt))))
set_option linter.unusedVariables false
def Kp (w w' : World) : Prop := ∀ p v, w.cell? p = some v → w'.cell? p = some v
theorem Kp.trans {a b c : World} (h : Kp a b) (k : Kp b c) : Kp a c := fun p v hv => k p v (h p v hv)
theorem _root_.Go.RowKit.Below.kp {w w' : World} (h : Below w.heap.size w w') : Kp w w' := fun p v hv => by rw [cell_of_heap (h.block p.block (World.block_lt_of_cell? w p hv))]; exact hv
theorem BytesAt.kp {w w' : World} {F : Nat → Prop} {ad : Option Addr} {l : List UInt8} (h : BytesAt w F ad l) (k : Kp w w') : BytesAt w' F ad l := by
  intro j b hj
  obtain ⟨g, o, h1, h2, h3⟩ := h j b hj
  exact ⟨g, o, h1, h2, k _ _ h3⟩
def updL (ρ : Nat → Value) : List (Nat × Value) → Nat → Value
  | [] => ρ
  | p :: l => updL (upd ρ p.1 p.2) l
theorem RW.knows {P : Program} {N : Nat} {m : MCode} {Q : Exit → (Nat → Value) → World → Prop} {ρ : Nat → Value} {w : World} (l : List (Nat × Value)) (h : ∀ p ∈ l, ρ p.1 = p.2) (k : RW P N m Q (updL ρ l) w) : RW P N m Q ρ w := by
  have : updL ρ l = ρ := by
    clear k
    induction l with
    | nil => rfl
    | cons p l ih =>
      have e : upd ρ p.1 p.2 = ρ := by
        funext x
        by_cases e : x = p.1
        · subst e; rw [upd_same, h p List.mem_cons_self]
        · rw [upd_ne _ _ e]
      show updL (upd ρ p.1 p.2) l = ρ
      rw [e]
      exact ih fun q hq => h q (List.mem_cons_of_mem _ hq)
  rwa [this] at k
def RetB (P : Program) (U f : Nat) (args : List Value) (w : World) (out : List UInt8) : Prop :=
  Calls P f args.toArray w (fun e w' => ∃ sv, e = .returned sv ∧ OwnB U w' w.heap.size sv out ∧ Below w.heap.size w w')
section
variable {P : Program} {S : SN} {w : World}
/-! ### Fixed -/
def down (n : Int) : Nat → List UInt8
  | 0 => []
  | k + 1 => UInt8.ofNat ((n.fdiv (2 ^ (8 * k))) % 256).toNat :: down n k
theorem fdiv_lit (n : Int) (m : Int) (h : 0 ≤ m) : n.fdiv m = n / m := Int.fdiv_eq_ediv_of_nonneg _ h
theorem fix_down {k : Nat} (hk : k = 1 ∨ k = 2 ∨ k = 4 ∨ k = 8) (n : Int) : fix n k = down n k := by
  rcases hk with rfl | rfl | rfl | rfl
  · simp only [fix, be_one, down, Nat.mul_zero, Int.pow_zero]
    rw [fdiv_lit _ _ (by omega)]
    congr 2; omega
  · simp only [fix, be_two, down, Nat.mul_zero, Int.pow_zero]
    rw [fdiv_lit _ _ (by omega), fdiv_lit _ _ (by omega)]
    have e1 : ((n % 256 ^ 2).toNat / 256 % 256) = ((n / 2 ^ (8 * 1)) % 256).toNat := by omega
    have e0 : ((n % 256 ^ 2).toNat % 256) = ((n / 1) % 256).toNat := by omega
    rw [e1, e0]
  · simp only [fix, be_four, down, Nat.mul_zero, Int.pow_zero]
    rw [fdiv_lit _ _ (by omega), fdiv_lit _ _ (by omega), fdiv_lit _ _ (by omega), fdiv_lit _ _ (by omega)]
    have e3 : ((n % 256 ^ 4).toNat / 256 / 256 / 256 % 256) = ((n / 2 ^ (8 * 3)) % 256).toNat := by omega
    have e2 : ((n % 256 ^ 4).toNat / 256 / 256 % 256) = ((n / 2 ^ (8 * 2)) % 256).toNat := by omega
    have e1 : ((n % 256 ^ 4).toNat / 256 % 256) = ((n / 2 ^ (8 * 1)) % 256).toNat := by omega
    have e0 : ((n % 256 ^ 4).toNat % 256) = ((n / 1) % 256).toNat := by omega
    rw [e3, e2, e1, e0]
  · simp only [fix, be_eight, down, Nat.mul_zero, Int.pow_zero]
    rw [fdiv_lit _ _ (by omega), fdiv_lit _ _ (by omega), fdiv_lit _ _ (by omega), fdiv_lit _ _ (by omega), fdiv_lit _ _ (by omega), fdiv_lit _ _ (by omega), fdiv_lit _ _ (by omega), fdiv_lit _ _ (by omega)]
    have hm : (n % 256 ^ 8) = n % 18446744073709551616 := rfl
    rw [hm]
    obtain ⟨q, N, hN, hn⟩ : ∃ (q : Int) (N : Nat), N < 18446744073709551616 ∧ n = 18446744073709551616 * q + N := ⟨n / 18446744073709551616, (n % 18446744073709551616).toNat, by omega, by omega⟩
    have h0 : (n % 18446744073709551616).toNat = N := by omega
    rw [h0]
    subst hn
    clear hm h0
    have e : ∀ (a : Nat) (b : Int) (c : Nat), a = c → (c : Int) = b % 256 → UInt8.ofNat a = UInt8.ofNat (b % 256).toNat := fun a b c h1 h2 => by rw [h1, ← h2]; rfl
    congr 1
    · exact e _ _ (N / 72057594037927936 % 256) (by omega) (by show _ = (18446744073709551616 * q + (N : Int)) / 72057594037927936 % 256; omega)
    congr 1
    · exact e _ _ (N / 281474976710656 % 256) (by omega) (by show _ = (18446744073709551616 * q + (N : Int)) / 281474976710656 % 256; omega)
    congr 1
    · exact e _ _ (N / 1099511627776 % 256) (by omega) (by show _ = (18446744073709551616 * q + (N : Int)) / 1099511627776 % 256; omega)
    congr 1
    · exact e _ _ (N / 4294967296 % 256) (by omega) (by show _ = (18446744073709551616 * q + (N : Int)) / 4294967296 % 256; omega)
    congr 1
    · exact e _ _ (N / 16777216 % 256) (by omega) (by show _ = (18446744073709551616 * q + (N : Int)) / 16777216 % 256; omega)
    congr 1
    · exact e _ _ (N / 65536 % 256) (by omega) (by show _ = (18446744073709551616 * q + (N : Int)) / 65536 % 256; omega)
    congr 1
    · exact e _ _ (N / 256 % 256) (by omega) (by show _ = (18446744073709551616 * q + (N : Int)) / 256 % 256; omega)
    congr 1
    · exact e _ _ (N % 256) (by omega) (by show _ = (18446744073709551616 * q + (N : Int)) / 1 % 256; omega)
theorem byteV_mod (n : Int) : Value.int .u8 (IntKind.u8.wrap n) = byteV (UInt8.ofNat (n % 256).toNat) := by
  rw [show IntKind.u8.wrap n = IntKind.u8.wrap (n % 256) from by rw [IntKind.wrap_u8, IntKind.wrap_u8]; omega]
  exact byteV_of (by omega) (by omega)
def FixedC (P : Program) (U f : Nat) : Prop := entersB P f = true ∧ ∀ (w : World) (n : Int) (k : Nat), (k = 1 ∨ k = 2 ∨ k = 4 ∨ k = 8) → RetB P U f [.int .i64 n, .int .i64 k] w (fix n k)
theorem fixed_ok {f : Nat} (tk : TOK P S.T) (h64 : S.T.i64 ≠ 0) (hf : FnIs P f (cFixed S) 22 4) : FixedC P S.T.u8 f := by
  refine ⟨hf.ent, fun w n k hk => ?_⟩
  have hk8 : 1 ≤ k ∧ k ≤ 8 := by omega
  rw [fix_down hk]
  refine hf.runs (by simp) (by omega) ?_
  refine RW.sq (RW.rg (RL.step MR.mv (RL.nil (RW.sq (RW.rg (RL.step MR.mv (RL.nil (RW.sq (RW.sq (RW.rg ?_)))))))))) 
  repeat first | refine RL.step MR.mv ?_ | refine RL.step (MR.biE rfl) ?_ | refine RL.step (MR.b2 rfl) ?_
  refine RL.nil (RW.bl (RW.lp (fun ρ w' => ∃ (i : Nat) (sv : Value) (bs : List UInt8), i ≤ 8 ∧ ρ 0 = .int .i64 n ∧ ρ 5 = sv ∧ ρ 6 = .int .i64 ((i : Int) - 1) ∧ OwnB S.T.u8 w' w.heap.size sv bs ∧ Below w.heap.size w w' ∧ bs ++ down n i = down n k ∧ bs.length + i ≤ 8)
    (fun ρ _ => (intOf (ρ 6) + 1).toNat) ⟨k, .slice none 0 0, [], hk8.2, rfl, rfl, ?_, OwnB.nil _ _ _, Below.refl _ _, rfl, by simpa using hk8.2⟩ ?_ ?_))
  · show Value.int .i64 (IntKind.i64.wrap ((k : Int) - 1)) = _
    rw [wrap_i64 (by omega) (by omega)]
  · rintro ρ w1 ⟨i, sv, bs, hi8, h0, h5, h6, ho, hb, hbs, hl⟩
    refine RW.knows [(0, .int .i64 n), (5, sv), (6, .int .i64 ((i : Int) - 1))] (by simp [h0, h5, h6]) (RW.sq (RW.sq (RW.rg ?_)))
    repeat first | refine RL.step MR.mv ?_ | refine RL.step (MR.biE rfl) ?_ | refine RL.step (MR.b2 rfl) ?_
    cases i with
    | zero =>
      refine RL.nil (RW.cd (b := false) (by show Value.bool (decide ((0 : Int) ≤ ((0 : Nat) : Int) - 1)) = _; rfl) (fun e => by cases e) (fun _ => RW.ex ?_))
      refine RW.sq (RW.rg ?_)
      repeat first | refine RL.step MR.mv ?_ | refine RL.step (MR.biE rfl) ?_ | refine RL.step (MR.b2 rfl) ?_
      refine RL.nil (RW.rt ⟨sv, rfl, ?_, hb⟩)
      have : bs = down n k := by simpa [down] using hbs
      rw [← this]; exact ho
    | succ i =>
      refine RL.nil (RW.cd (b := true) (by show Value.bool (decide ((0 : Int) ≤ ((i + 1 : Nat) : Int) - 1)) = _; simp) (fun _ => RW.sk ?_) (fun e => by cases e))
      refine RW.sq (RW.bl (RW.rg ?_))
      repeat first | refine RL.step MR.mv ?_ | refine RL.step (MR.biE rfl) ?_ | refine RL.step (MR.b2 rfl) ?_
      have hw : IntKind.i64.wrap (8 * (((i + 1 : Nat) : Int) - 1)) = ((8 * i : Nat) : Int) := by rw [wrap_i64 (by omega) (by omega)]; omega
      refine RL.step (MR.b2 (v := .int .i64 (n.fdiv (2 ^ (8 * i)))) ?_) (RL.step (MR.cvI rfl (tk.i64 h64) tk.u8i) ?_)
      · show evB .shr (.int .i64 n) (.int .i64 (IntKind.i64.wrap (8 * (((i + 1 : Nat) : Int) - 1)))) = _
        rw [hw]
        simp only [evB, Int.toNat_natCast]
        rw [if_pos (by omega), show min (8 * i) IntKind.i64.bits = 8 * i from by simp only [IntKind.bits]; omega]
      refine RL.bslAp (l := [UInt8.ofNat ((n.fdiv (2 ^ (8 * i))) % 256).toNat]) (sv := sv) (bs := bs) tk.u8s tk.u8 ?_ (by simp) rfl (by omega) ho (Nat.le_trans (Nat.le_refl _) hb.size) (by simp [lim]; omega) ?_
      · show [Value.int .u8 (IntKind.u8.wrap (n.fdiv (2 ^ (8 * i))))] = _
        rw [byteV_mod]; rfl
      rintro ρ1 sv1 w2 rfl o1 b1
      repeat first | refine RL.step MR.mv ?_ | refine RL.step (MR.biE rfl) ?_ | refine RL.step (MR.b2 rfl) ?_
      refine RL.nil (RW.rg ?_)
      repeat first | refine RL.step MR.mv ?_ | refine RL.step (MR.biE rfl) ?_ | refine RL.step (MR.b2 rfl) ?_
      refine RL.nil ⟨⟨i, sv1, bs ++ [UInt8.ofNat ((n.fdiv (2 ^ (8 * i))) % 256).toNat], by omega, rfl, rfl, ?_, o1, hb.trans b1, ?_, by simp; omega⟩, ?_⟩
      · show Value.int .i64 (IntKind.i64.wrap (((i + 1 : Nat) : Int) - 1 - 1)) = _
        rw [wrap_i64 (by omega) (by omega)]; congr 1; omega
      · rw [← hbs]; simp [down]
      · show (IntKind.i64.wrap (((i + 1 : Nat) : Int) - 1 - 1) + 1).toNat < (intOf (ρ 6) + 1).toNat
        rw [h6, wrap_i64 (by omega) (by omega)]
        simp only [intOf]; omega
  · intro ρ ρ' w h; rw [h 6 (by omega)]
/-! ### Uvarint -/
def UvC (P : Program) (U f : Nat) : Prop := entersB P f = true ∧ ∀ (w : World) (n : Nat), n < 18446744073709551616 → RetB P U f [.int .u64 (n : Nat)] w (uv n)
end
mutual
inductive Fd where
  | mk (kind fr to nul tag df of : Int) (sub : Fds)
inductive Fds where
  | nil
  | cons (f : Fd) (r : Fds)
end

mutual
inductive Tr where
  | mk (n : Int) (s : List UInt8) (null : Bool) (l : Trs) (u : List (Nat × List UInt8))
inductive Trs where
  | nil
  | cons (t : Tr) (r : Trs)
end

def Fds.toList : Fds → List Fd
  | .nil => []
  | .cons f r => f :: r.toList
def Trs.toList : Trs → List Tr
  | .nil => []
  | .cons t r => t :: r.toList
def Fd.kind : Fd → Int | .mk k _ _ _ _ _ _ _ => k
def Fd.fr : Fd → Int | .mk _ k _ _ _ _ _ _ => k
def Fd.to : Fd → Int | .mk _ _ k _ _ _ _ _ => k
def Fd.nul : Fd → Int | .mk _ _ _ k _ _ _ _ => k
def Fd.tag : Fd → Int | .mk _ _ _ _ k _ _ _ => k
def Fd.df : Fd → Int | .mk _ _ _ _ _ k _ _ => k
def Fd.of : Fd → Int | .mk _ _ _ _ _ _ k _ => k
def Fd.sub : Fd → Fds | .mk _ _ _ _ _ _ _ k => k
def Tr.n : Tr → Int | .mk n _ _ _ _ => n
def Tr.s : Tr → List UInt8 | .mk _ s _ _ _ => s
def Tr.null : Tr → Bool | .mk _ _ b _ _ => b
def Tr.l : Tr → List Tr | .mk _ _ _ l _ => l.toList
def Tr.u : Tr → List (Nat × List UInt8) | .mk _ _ _ _ u => u
def Tr.zero : Tr := .mk 0 [] false .nil []
/-! ### What is written -/
def sHas (fr to v : Int) : Bool := decide (fr ≤ v) && (decide (to < 0) || decide (v ≤ to))
def sNull (nul v : Int) (b : Bool) : Bool := b && decide (0 ≤ nul) && decide (nul ≤ v)
def sCnt (flex null : Bool) (n size : Nat) : List UInt8 := if null then cntNull flex size else cnt flex size n
def sWid (kind : Int) : Nat := if kind = 1 then 1 else if kind = 2 ∨ kind = 5 then 2 else if kind = 3 then 4 else 8
def most : Nat := 32767
def sVal (kind : Int) (part : Tr → List UInt8) (null flex : Bool) (t : Tr) : List UInt8 :=
  if kind = 0 then [UInt8.ofNat (t.n % 2).toNat]
  else if kind = 7 then (t.s ++ List.replicate 16 0).take 16
  else if kind = 8 then sCnt flex null (if null then [] else t.s.take most).length 2 ++ (if null then [] else t.s.take most)
  else if kind = 9 then sCnt flex null (if null then [] else t.s.take most).length 4 ++ (if null then [] else t.s.take most)
  else if kind = 10 then part t
  else fix t.n (sWid kind)
def insTag (t : Nat × List UInt8) : List (Nat × List UInt8) → List (Nat × List UInt8)
  | [] => [t]
  | x :: xs => if x.1 < t.1 then x :: insTag t xs else if x.1 = t.1 then x :: xs else t :: x :: xs
def sUnk (least : Nat) (l : List (Nat × List UInt8)) : List (Nat × List UInt8) := (l.take most).foldl (fun out t => if t.1 < least then out else insTag t out) []
def sTag (t : Nat × List UInt8) : List UInt8 := uv t.1 ++ uv (t.2.take most).length ++ t.2.take most
def sTags (flex : Bool) (t : Tr) : List UInt8 := if flex then uv (sUnk 0 t.u).length ++ (sUnk 0 t.u).flatMap sTag else []
mutual
def sField (ver : Int) (flex : Bool) : Fd → Tr → List UInt8
  | .mk kind _ _ nul _ _ of sub, t =>
    if kind = 11 then sCnt flex (sNull nul ver t.null) (if sNull nul ver t.null then [] else t.l.take most).length 4 ++ (if sNull nul ver t.null then [] else t.l.take most).flatMap (sVal of (fun t => sPlain ver flex sub 0 t ++ sTags flex t) false flex)
    else if kind = 10 ∧ 0 ≤ nul then if sNull nul ver t.null then fix (-1) 1 else fix 1 1 ++ (sPlain ver flex sub 0 t ++ sTags flex t)
    else sVal kind (fun t => sPlain ver flex sub 0 t ++ sTags flex t) (sNull nul ver t.null) flex t
def sPlain (ver : Int) (flex : Bool) : Fds → Nat → Tr → List UInt8
  | .nil, _, _ => []
  | .cons f r, i, t => (if sHas f.fr f.to ver then sField ver flex f (t.l.getD i .zero) else []) ++ sPlain ver flex r (i + 1) t
end
def sPart (ver : Int) (flex : Bool) (fs : Fds) (t : Tr) : List UInt8 := sPlain ver flex fs 0 t ++ sTags flex t
/-! ### .. of messages with known tags -/
def sKnown (fs : Fds) : Nat := fs.toList.foldl (fun n f => if 0 ≤ f.tag then max n (f.tag.toNat + 1) else n) 0

/-! ### How it lies in memory -/
def okAd (ad : Option Addr) : Prop := ad = none ∨ ∃ g o, ad = some ⟨g, o, none⟩
def okA (n : Nat) (ad : Option Addr) : Prop := n = 0 ∨ okAd ad
mutual
def RepFd (w : World) : Fd → List Value → Prop
  | .mk kind fr to nul tag df of sub, cs => ∃ sl, cs = [.int .i64 kind, .int .i64 fr, .int .i64 to, .int .i64 nul, .int .i64 tag, .int .i64 df, .int .i64 of, sl] ∧ ∃ ad c, sl = .slice ad sub.toList.length c ∧ RowsF w ad 0 sub
def RowsF (w : World) : Option Addr → Nat → Fds → Prop
  | _, _, .nil => True
  | ad, i, .cons f r => (∃ g o cs, ad = some ⟨g, o, none⟩ ∧ w.rangeAt g (o + i * 8) cs ∧ RepFd w f cs) ∧ RowsF w ad (i + 1) r
end

def TagRow (w : World) (cs : List Value) (t : Nat × List UInt8) : Prop := t.1 < 4294967296 ∧ ∃ ad c, cs = [.int .u32 (t.1 : Nat), .slice ad t.2.length c] ∧ okA t.2.length ad ∧ t.2.length ≤ c ∧ BytesAt w (fun _ => True) ad t.2
def TagsS (w : World) (v : Value) (u : List (Nat × List UInt8)) : Prop := ∃ ad c, v = .slice ad u.length c ∧ okA u.length ad ∧ u.length ≤ c ∧ ∀ i t, u[i]? = some t → ∃ g o cs, ad = some ⟨g, o, none⟩ ∧ w.rangeAt g (o + i * 2) cs ∧ TagRow w cs t
mutual
def RepTr (w : World) : Tr → List Value → Prop
  | .mk n s null l u, cs => ∃ sS sL sU, cs = [.int .i64 n, sS, .bool null, sL, sU] ∧ (-9223372036854775808 ≤ n ∧ n ≤ 9223372036854775807) ∧ (∃ ad c, sS = .slice ad s.length c ∧ okA s.length ad ∧ s.length ≤ c ∧ BytesAt w (fun _ => True) ad s) ∧
      (∃ ad c, sL = .slice ad l.toList.length c ∧ okA l.toList.length ad ∧ l.toList.length ≤ c ∧ RowsT w ad 0 l) ∧ TagsS w sU u
def RowsT (w : World) : Option Addr → Nat → Trs → Prop
  | _, _, .nil => True
  | ad, i, .cons t r => (∃ g o cs, ad = some ⟨g, o, none⟩ ∧ w.rangeAt g (o + i * 5) cs ∧ RepTr w t cs) ∧ RowsT w ad (i + 1) r
end

section
variable {w w' : World}

theorem RowsT.at {ad : Option Addr} : ∀ {l : Trs} {i j : Nat} {t : Tr}, RowsT w ad i l → l.toList[j]? = some t → ∃ g o cs, ad = some ⟨g, o, none⟩ ∧ w.rangeAt g (o + (i + j) * 5) cs ∧ RepTr w t cs
  | .nil, i, j, t, _, hj => by simp [Trs.toList] at hj
  | .cons t r, i, j, t', h, hj => by
    unfold RowsT at h
    cases j with
    | zero => simp [Trs.toList] at hj; subst hj; exact h.1
    | succ j =>
      obtain ⟨g, o, cs, h1, h2, h3⟩ := RowsT.at (j := j) h.2 (by simpa [Trs.toList] using hj)
      exact ⟨g, o, cs, h1, by rw [show i + (j + 1) = i + 1 + j from by omega]; exact h2, h3⟩
theorem RowsF.at {ad : Option Addr} : ∀ {l : Fds} {i j : Nat} {t : Fd}, RowsF w ad i l → l.toList[j]? = some t → ∃ g o cs, ad = some ⟨g, o, none⟩ ∧ w.rangeAt g (o + (i + j) * 8) cs ∧ RepFd w t cs
  | .nil, i, j, t, _, hj => by simp [Fds.toList] at hj
  | .cons t r, i, j, t', h, hj => by
    unfold RowsF at h
    cases j with
    | zero => simp [Fds.toList] at hj; subst hj; exact h.1
    | succ j =>
      obtain ⟨g, o, cs, h1, h2, h3⟩ := RowsF.at (j := j) h.2 (by simpa [Fds.toList] using hj)
      exact ⟨g, o, cs, h1, by rw [show i + (j + 1) = i + 1 + j from by omega]; exact h2, h3⟩
end
/-! ### What the program's tables must say -/
def zeroAgg (P : Program) (T : Nat) (z : List Value) : Prop := ∃ i, P.info? T = some i ∧ i.zero = some (.agg z.toArray)
def allIs : List MVal → List Value → Bool
  | [], [] => true
  | m :: ms, v :: vs => m.is v && allIs ms vs
  | _, _ => false
theorem allIs_eq : ∀ {ms : List MVal} {vs : List Value}, allIs ms vs = true → vs = ms.map MVal.val
  | [], [], _ => rfl
  | [], _ :: _, h => by simp [allIs] at h
  | _ :: _, [], h => by simp [allIs] at h
  | m :: ms, v :: vs, h => by
    simp only [allIs, Bool.and_eq_true] at h
    rw [MVal.is_eq h.1, allIs_eq h.2]; rfl
def zeroIs (P : Program) (T : Nat) (z : List MVal) : Bool :=
  match P.info? T with
  | some i => (match i.zero with | some (.agg cs) => allIs z cs.toList | _ => false)
  | none => false
theorem zeroIs_of {P : Program} {T : Nat} {z : List MVal} (h : zeroIs P T z = true) : zeroAgg P T (z.map MVal.val) := by
  unfold zeroIs at h
  cases hi : P.info? T with
  | none => simp [hi] at h
  | some i =>
    simp only [hi] at h
    refine ⟨i, hi, ?_⟩
    cases hz : i.zero with
    | none => simp [hz] at h
    | some v =>
      cases v <;> simp only [hz, Bool.false_eq_true] at h
      rw [← allIs_eq h]
def plcIs : Nat → List (Nat × Nat) → Bool
  | _, [] => true
  | k, p :: ps => Nat.beq p.1 k && Nat.beq p.2 1 && plcIs (k + 1) ps
def plcB (P : Program) (T n : Nat) : Bool :=
  match P.underlying T with
  | some (.struct fields) => (match fields.toList.mapM (fun f => (P.info? f.type).map fun i => (f.offset, i.size)) with | some ps => plcIs 0 ps && Nat.beq ps.length n | none => false)
  | _ => false
theorem plcIs_get : ∀ {ps : List (Nat × Nat)} {k i : Nat}, plcIs k ps = true → i < ps.length → ps[i]? = some (k + i, 1)
  | [], k, i, _, h => by simp at h
  | p :: ps, k, i, h, hi => by
    simp only [plcIs, Bool.and_eq_true, Nat.beq_eq] at h
    obtain ⟨⟨h1, h2⟩, h3⟩ := h
    cases i with
    | zero => simp only [List.getElem?_cons_zero, Option.some.injEq]; exact Prod.ext (by simpa using h1) h2
    | succ i => rw [List.getElem?_cons_succ, plcIs_get h3 (by simpa using hi)]; congr 2; omega
theorem fill_one {place : Nat → Option (Nat × Nat)} {n : Nat} (hp : ∀ i, i < n → place i = some (i, 1)) : ∀ (parts : List (Nat × Value)) (cells : Array Value), cells.size = n → (∀ p ∈ parts, p.1 < n ∧ p.2.cells = #[p.2]) →
    Instr.fill place cells parts = some (parts.foldl (fun cs p => cs.setIfInBounds p.1 p.2) cells)
  | [], cells, _, _ => rfl
  | (i, v) :: rest, cells, hc, h => by
    have h1 := h (i, v) List.mem_cons_self
    dsimp only at h1
    simp only [Instr.fill, hp i h1.1, h1.2]
    rw [if_neg (by simp; omega)]
    have e : ((#[v] : Array Value).zipIdx.foldl (fun (cs : Array Value) (x : Value × Nat) => match x with | (c, j) => cs.setIfInBounds (i + j) c) cells) = cells.setIfInBounds i v := by simp
    rw [e, fill_one hp rest _ (by simpa using hc) (fun p hp' => h p (List.mem_cons_of_mem _ hp'))]
    rfl
theorem built_of {P : Program} {T : Nat} {z : List Value} {parts : List (Nat × Value)} {cells : List Value} (hz : zeroAgg P T z) (hp : plcB P T z.length = true) (h : ∀ p ∈ parts, p.1 < z.length ∧ p.2.cells = #[p.2])
    (hc : parts.foldl (fun cs p => cs.setIfInBounds p.1 p.2) z.toArray = cells.toArray) (w : World) : (Instr.build T parts.toArray).run P w = .ok (.agg cells.toArray) w := by
  obtain ⟨it, hit, hzv⟩ := hz
  refine run_build w T _ _ ?_
  unfold plcB at hp
  cases hu : P.underlying T with
  | none => simp [hu] at hp
  | some d =>
    cases d <;> simp only [hu, Bool.false_eq_true] at hp
    rename_i fields
    cases hm : fields.toList.mapM (fun f => (P.info? f.type).map fun i => (f.offset, i.size)) with
    | none => simp [hm] at hp
    | some ps =>
      simp only [hm, Bool.and_eq_true, Nat.beq_eq] at hp
      unfold Program.built
      simp only [hit, hu, hzv, hm, Value.cells]
      rw [fill_one (n := z.length) (fun i hi => by
        rw [List.getElem?_toArray]
        have := plcIs_get (i := i) hp.1 (by omega)
        rw [this]; simp) parts z.toArray (by simp) h, hc]
def bytesLe (P : Program) (T n : Nat) : Bool :=
  match P.info? T with
  | some i => Nat.ble i.bytes n
  | none => false
structure SOK (P : Program) (S : SN) : Prop where
  tk : TOK P S.T
  hi64 : S.T.i64 ≠ 0
  hu64 : S.T.u64 ≠ 0
  hu32 : S.T.u32 ≠ 0
  mo : P.follows .mixedOrders = true
  fds : sliceOf P S.fds S.fd = true
  trs : sliceOf P S.trs S.tr = true
  tgs : sliceOf P S.tgs S.tg = true
  fdN : cellsB P S.fd 8 = true
  trN : cellsB P S.tr 5 = true
  tgN : cellsB P S.tg 2 = true
  msN : cellsB P S.msg 2 = true
  fdR : rowTy P S.fd = true
  trR : rowTy P S.tr = true
  tgR : rowTy P S.tg = true
  msR : rowTy P S.msg = true
  fdF : ∀ j, j < 8 → fieldAtB P S.fd j j = true
  trF : ∀ j, j < 5 → fieldAtB P S.tr j j = true
  tgF : ∀ j, j < 2 → fieldAtB P S.tg j j = true
  msF : ∀ j, j < 2 → fieldAtB P S.msg j j = true
  pInt : plainTy P S.T.int = true
  pI64 : plainTy P S.T.i64 = true
  pBool : plainTy P S.T.bool = true
  pU8s : plainTy P S.T.u8s = true
  pFds : plainTy P S.fds = true
  pTrs : plainTy P S.trs = true
  pTgs : plainTy P S.tgs = true
  pU32 : plainTy P S.T.u32 = true
  pU8 : plainTy P S.T.u8 = true
  zTr : zeroAgg P S.tr [.int .i64 0, .slice none 0 0, .bool false, .slice none 0 0, .slice none 0 0]
  zFd : zeroAgg P S.fd [.int .i64 0, .int .i64 0, .int .i64 0, .int .i64 0, .int .i64 0, .int .i64 0, .int .i64 0, .slice none 0 0]
  zTg : zeroAgg P S.tg [.int .u32 0, .slice none 0 0]
  zMs : zeroAgg P S.msg [.slice none 0 0, .int .i64 0]
  byTr : bytesLe P S.tr 1000 = true
  lTr : plcB P S.tr 5 = true
  lFd : plcB P S.fd 8 = true
  lTg : plcB P S.tg 2 = true
  lMs : plcB P S.msg 2 = true
structure SOK0 (P : Program) (S : SN) : Prop where
  tk : TOK P S.T
  mo : P.follows .mixedOrders = true
  pU8 : plainTy P S.T.u8 = true
section
variable {P : Program} {S : SN} {w : World} {N : Nat} {Q : Exit → (Nat → Value) → World → Prop} {ρ : Nat → Value} {ms : List MOp}
theorem RL.caB {U d f : Nat} {xs : List MX} {out : List UInt8} {args : List Value} (he : entersB P f = true) (hc : RetB P U f args w out) (ha : xs.map (xof ρ) = args)
    (h : ∀ sv w', OwnB U w' w.heap.size sv out → Below w.heap.size w w' → RL P N ms Q (upd ρ d sv) w') (hd : d < N := by decide) (hx : ∀ x ∈ xs, MX.lt N x = true := by simp [MX.lt, Nat.blt_eq]) : RL P N (.ca d f xs :: ms) Q ρ w := by
  refine RL.ca (R := fun sv w' => OwnB U w' w.heap.size sv out ∧ Below w.heap.size w w') he ?_ (fun v w' h' => h v w' h'.1 h'.2) hd hx
  rw [ha]
  refine Calls.mono hc ?_
  rintro e w' ⟨sv, rfl, h2⟩
  exact ⟨sv, rfl, h2⟩
/-! ### width -/
def WidC (P : Program) (f : Nat) : Prop := entersB P f = true ∧ ∀ (w : World) (k : Int), Calls P f #[.int .i64 k] w (fun e w' => e = .returned (.int .i64 (sWid k : Nat)) ∧ w' = w)
/-! ### counted -/
def CntC (P : Program) (U f : Nat) : Prop := entersB P f = true ∧ ∀ (w : World) (flex null : Bool) (n k : Nat), n ≤ 1099511627776 → (k = 1 ∨ k = 2 ∨ k = 4 ∨ k = 8) → RetB P U f [.bool flex, .bool null, .int .i64 n, .int .i64 k] w (sCnt flex null n k)
/-! ### whole, things -/
def CutC (P : Program) (f : Nat) : Prop := entersB P f = true ∧ ∀ (w : World) (ad : Option Addr) (n c : Nat), okA n ad → n ≤ c → Calls P f #[.slice ad n c] w (fun e w' => e = .returned (.slice ad (min n most) c) ∧ w' = w)
/-! ### version -/
def VerC (P : Program) (f : Nat) : Prop := entersB P f = true ∧ ∀ (w : World) (n m : Nat), n < 256 → m < 32768 → Calls P f #[.int .u8 n, .int .i64 m] w (fun e w' => e = .returned (.int .i64 (n % (m + 1) : Nat)) ∧ w' = w)
end
structure FnIsC (P : Program) (f : Nat) (m : MCode) (N s ty : Nat) : Prop where
  ex : ∃ fn c, P.funcs[f]? = some fn ∧ fn.body = some c ∧ fits m c = true ∧ fn.ntmps = N ∧ fn.results = #[.cell s ty]
  ent : entersB P f = true
structure FnIs0 (P : Program) (f : Nat) (m : MCode) (N : Nat) : Prop where
  ex : ∃ fn c, P.funcs[f]? = some fn ∧ fn.body = some c ∧ fits m c = true ∧ fn.ntmps = N ∧ fn.results = #[]
  ent : entersB P f = true
def isFnC (P : Program) (f : Nat) (m : MCode) (N s ty : Nat) : Bool :=
  entersB P f && (match P.funcs[f]? with
    | some fn => Nat.beq fn.ntmps N && (match fn.results.toList with | [.cell s' t'] => Nat.beq s s' && Nat.beq ty t' | _ => false) && (match fn.body with | some c => fits m c | none => false)
    | none => false)
def isFn0 (P : Program) (f : Nat) (m : MCode) (N : Nat) : Bool :=
  entersB P f && (match P.funcs[f]? with
    | some fn => Nat.beq fn.ntmps N && fn.results.toList.isEmpty && (match fn.body with | some c => fits m c | none => false)
    | none => false)
theorem FnIsC.of {P : Program} {f N s ty : Nat} {m : MCode} (h : isFnC P f m N s ty = true) : FnIsC P f m N s ty := by
  simp only [isFnC, Bool.and_eq_true] at h
  obtain ⟨h1, h2⟩ := h
  refine ⟨?_, h1⟩
  cases hf : P.funcs[f]? with
  | none => simp [hf] at h2
  | some fn =>
    simp only [hf, Bool.and_eq_true, Nat.beq_eq] at h2
    obtain ⟨⟨g1, g2⟩, g3⟩ := h2
    cases hb : fn.body with
    | none => simp [hb] at g3
    | some c =>
      simp only [hb] at g3
      refine ⟨fn, c, rfl, hb, g3, g1, ?_⟩
      apply Array.toList_inj.1
      generalize fn.results.toList = l at g2
      match l, g2 with
      | [.cell s' t'], g2 => simp only [Bool.and_eq_true, Nat.beq_eq] at g2; rw [g2.1, g2.2]
theorem FnIs0.of {P : Program} {f N : Nat} {m : MCode} (h : isFn0 P f m N = true) : FnIs0 P f m N := by
  simp only [isFn0, Bool.and_eq_true] at h
  obtain ⟨h1, h2⟩ := h
  refine ⟨?_, h1⟩
  cases hf : P.funcs[f]? with
  | none => simp [hf] at h2
  | some fn =>
    simp only [hf, Bool.and_eq_true, Nat.beq_eq] at h2
    obtain ⟨⟨g1, g2⟩, g3⟩ := h2
    cases hb : fn.body with
    | none => simp [hb] at g3
    | some c =>
      simp only [hb] at g3
      refine ⟨fn, c, rfl, hb, g3, g1, ?_⟩
      apply Array.toList_inj.1
      simpa using g2
section
variable {P : Program} {S : SN} {w : World} {N : Nat} {Q : Exit → (Nat → Value) → World → Prop} {ρ : Nat → Value} {ms : List MOp}
def retC (P : Program) (s ty : Nat) (R : Ending → World → Prop) : Exit → (Nat → Value) → World → Prop
  | .ret, ρ, w => ∃ p v, ρ s = .pointer (some p) ∧ (Instr.loadAt ty (.pointer (some p))).run P w = .ok v w ∧ R (.returned v) w
  | _, _, _ => False
def ret0 (R : Ending → World → Prop) : Exit → (Nat → Value) → World → Prop
  | .ret, ρ, w => R (.returned (.tuple #[])) w
  | .normal, ρ, w => R (.returned (.tuple #[])) w
  | _, _, _ => False
theorem FnIsC.runs {f s ty : Nat} {m : MCode} (h : FnIsC P f m N s ty) {args : List Value} {R : Ending → World → Prop} (hle : args.length ≤ N) (hs : s < N)
    (hw : RW P N m (retC P s ty R) (args0 args) w) : Calls P f args.toArray w R := by
  obtain ⟨fn, c, h1, h2, h3, h4, h5⟩ := h.ex
  refine calls_leaf h1 h2 h3 h4 hle fun a hl => (hw a hl).mono fun e a w hu => ?_
  cases e <;> simp only [up, retC] at hu
  all_goals first | (obtain ⟨ρ, h1, h2⟩ := hu; exact h2.elim) | skip
  · obtain ⟨ρ, g1, p, v, g2, g3, g4⟩ := hu
    refine bodyPost_ret (v := v) ?_ g1.defers g4
    have e : a.tmps[s]?.getD undef = .pointer (some p) := by
      have := (g1.get s hs).trans g2
      unfold rd at this
      rwa [Array.getD_eq_getD_getElem?] at this
    have g3' : (loadVar ty p).run P w = .ok v w := by simpa [Instr.loadAt, Instr.sureAddr] using g3
    unfold results
    rw [h5]
    simp [e, asAddr, g3']
  all_goals exact hu.elim
theorem FnIs0.runs {f : Nat} {m : MCode} (h : FnIs0 P f m N) {args : List Value} {R : Ending → World → Prop} (hle : args.length ≤ N)
    (hw : RW P N m (ret0 R) (args0 args) w) : Calls P f args.toArray w R := by
  obtain ⟨fn, c, h1, h2, h3, h4, h5⟩ := h.ex
  refine calls_leaf h1 h2 h3 h4 hle fun a hl => (hw a hl).mono fun e a w hu => ?_
  cases e <;> simp only [up, ret0] at hu
  all_goals first | (obtain ⟨ρ, h1, h2⟩ := hu; exact h2.elim) | skip
  · obtain ⟨ρ, g1, g4⟩ := hu
    exact ⟨g1.defers, .tuple #[], results_none h5 _ _ _, g4⟩
  · obtain ⟨ρ, g1, g4⟩ := hu
    exact ⟨g1.defers, .tuple #[], results_none h5 _ _ _, g4⟩
  all_goals exact hu.elim
theorem RL.bxA {d T s : Nat} {cs : List Value} (hv : ρ s = .agg cs.toArray) (h : RL P N ms Q (upd ρ d (.pointer (some ⟨w.heap.size, 0, none⟩))) (w.alloc (.cells cs.toArray T))) (hs : s < N := by decide) (hd : d < N := by decide) : RL P N (.bx d T s :: ms) Q ρ w := by
  refine RL.step (MR.bx hs) ?_ hd
  rw [hv]; exact h
theorem MR.biB {d ty : Nat} {op : BinOp} {x y : MX} {p : Prop} [Decidable p] {b : Bool} (h : evB op (xof ρ x) (xof ρ y) = some (.bool (decide p))) (hp : decide p = b) (hx : x.lt N = true := by rfl) (hy : y.lt N = true := by rfl) : MR P N (.bi d op ty x y) ρ w d (.bool b) w := by
  subst hp; exact MR.biE h hx hy
theorem RepFd.cells {f : Fd} {cs : List Value} (h : RepFd w f cs) : ∃ sl, cs = [.int .i64 f.kind, .int .i64 f.fr, .int .i64 f.to, .int .i64 f.nul, .int .i64 f.tag, .int .i64 f.df, .int .i64 f.of, sl] ∧ ∃ ad c, sl = .slice ad f.sub.toList.length c ∧ RowsF w ad 0 f.sub := by
  cases f; unfold RepFd at h; exact h
theorem RepTr.cells {t : Tr} {cs : List Value} (h : RepTr w t cs) : ∃ sS sL sU, cs = [.int .i64 t.n, sS, .bool t.null, sL, sU] ∧ (-9223372036854775808 ≤ t.n ∧ t.n ≤ 9223372036854775807) ∧ (∃ ad c, sS = .slice ad t.s.length c ∧ okA t.s.length ad ∧ t.s.length ≤ c ∧ BytesAt w (fun _ => True) ad t.s) ∧
      (∃ ad c, sL = .slice ad t.l.length c ∧ okA t.l.length ad ∧ t.l.length ≤ c ∧ ∀ i e, t.l[i]? = some e → ∃ g o cs', ad = some ⟨g, o, none⟩ ∧ w.rangeAt g (o + i * 5) cs' ∧ RepTr w e cs') ∧ TagsS w sU t.u := by
  cases t; unfold RepTr at h
  obtain ⟨sS, sL, sU, h1, hn, h2, ⟨ad, c, h3, h4, h5, h6⟩, h7⟩ := h
  exact ⟨sS, sL, sU, h1, hn, h2, ⟨ad, c, h3, h4, h5, fun i e hi => by have := h6.at hi; simpa using this⟩, h7⟩
/-! ### has, null -/
def HasC (P : Program) (f : Nat) : Prop := entersB P f = true ∧ ∀ (w : World) (fd : Fd) (cs : List Value) (v : Int), RepFd w fd cs → Calls P f #[.agg cs.toArray, .int .i64 v] w (fun e w' => e = .returned (.bool (sHas fd.fr fd.to v)) ∧ Below w.heap.size w w')
def NulC (P : Program) (f : Nat) : Prop := entersB P f = true ∧ ∀ (w : World) (fd : Fd) (t : Tr) (cs cs' : List Value) (v : Int), RepFd w fd cs → RepTr w t cs' → Calls P f #[.agg cs.toArray, .int .i64 v, .agg cs'.toArray] w (fun e w' => e = .returned (.bool (sNull fd.nul v t.null)) ∧ Below w.heap.size w w')
end
end Go.Kx
