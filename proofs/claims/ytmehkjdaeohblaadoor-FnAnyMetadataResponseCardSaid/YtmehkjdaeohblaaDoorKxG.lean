/- Statements in a row at slot level (RWL); what a call may turn in one block (Fr); the code of Default: stores of constants, its walk. No condition on the program beyond the tests named.
   The laws FnNew..: all that the program must pass, as one Boolean test (nlOk); from it the law's run.
   Reading, the plain law: what is written of what may be said (Ok) is read as it was said (norm), and written again the same. No condition.
   Reading, the plain law: what is read of octets may be said (Ok), is small, and is written in no more octets; so what is read and written is read and written the same. Conditions: at most 32767 octets; every thing of a list is written in at least one octet (minOk).
   A row's closed facts, out of the program's own (each proved once) and the row's. No condition.
   What a tree says, as a message's fields (toD): written alike by the reference (sField) and by the plan (enc); so the laws FnAgain and FnCut, the plain part. Conditions: the plan and the reference's fields match (mTopB, a test). -/
import Derived.Test.YtmehkjdaeohblaaDoorKxF
import Derived.JoinedOf
namespace Go.Kx
open Go.RowKit
set_option linter.unusedSimpArgs false
set_option linter.unusedVariables false

section
variable {P : Program} {N : Nat} {Q Q' : Exit → (Nat → Value) → World → Prop} {ρ : Nat → Value} {w : World} {ms : List MOp}

/-- Statements in a row. -/
def RWL (P : Program) (N : Nat) : List MCode → (Exit → (Nat → Value) → World → Prop) → (Nat → Value) → World → Prop
  | [], Q, ρ, w => Q .normal ρ w
  | c :: cs, Q, ρ, w => RW P N c (thenR (fun ρ w => RWL P N cs Q ρ w) Q) ρ w

theorem thenR_mono {K K' : (Nat → Value) → World → Prop} (hk : ∀ ρ w, K ρ w → K' ρ w) (hq : ∀ e ρ w, Q e ρ w → Q' e ρ w) : ∀ e ρ w, thenR K Q e ρ w → thenR K' Q' e ρ w := by
  intro e ρ w h
  cases e <;> first | exact hk _ _ h | exact hq _ _ _ h

theorem RWL.mono : ∀ {cs : List MCode} {ρ : Nat → Value} {w : World} {Q Q' : Exit → (Nat → Value) → World → Prop}, RWL P N cs Q ρ w → (∀ e ρ w, Q e ρ w → Q' e ρ w) → RWL P N cs Q' ρ w
  | [], _, _, _, _, h, hq => hq _ _ _ h
  | _ :: _, _, _, _, _, h, hq => RW.mono h (thenR_mono (fun _ _ h => RWL.mono h hq) hq)

theorem RWL.rows : ∀ {cs : List MCode} {ρ : Nat → Value} {w : World} {Q : Exit → (Nat → Value) → World → Prop}, RWL P N cs Q ρ w → RW P N (rows cs) Q ρ w
  | [], _, _, _, h => RW.sk h
  | [c], _, _, Q, h => RW.mono h (by intro e ρ w hq; cases e <;> exact hq)
  | c :: d :: cs, _, _, Q, h => RW.sq (RW.mono h (thenR_mono (fun _ _ h => RWL.rows h) (fun _ _ _ h => h)))

theorem RWL.append : ∀ {cs ds : List MCode} {ρ : Nat → Value} {w : World} {Q : Exit → (Nat → Value) → World → Prop}, RWL P N cs (thenR (fun ρ w => RWL P N ds Q ρ w) Q) ρ w → RWL P N (cs ++ ds) Q ρ w
  | [], _, _, _, _, h => h
  | c :: cs, ds, _, _, Q, h => RW.mono h (by
      intro e ρ w hq
      cases e <;> first | exact RWL.append hq | exact hq)

theorem RWL.one {c : MCode} (h : RW P N c Q ρ w) : RWL P N [c] Q ρ w := RW.mono h (by intro e ρ w hq; cases e <;> exact hq)

theorem MVal.cells1 (m : MVal) : m.val.cells = #[m.val] := by cases m <;> rfl
theorem MVal.one1 (m : MVal) : m.val.oneCell' = true := by cases m <;> rfl

/-- A constant is stored. -/
theorem RL.stc {ty p b o : Nat} {m : MVal} (hp : ρ p = .pointer (some ⟨b, o, none⟩)) (hn : cellsB P ty 1 = true) (ht : w.there b o 1) (h : RL P N ms Q ρ (w.setCells b o [m.val])) (hpN : p < N := by decide) : RL P N (.stc ty p m :: ms) Q ρ w := by
  intro a ha
  refine ML.step (d := none) (v := undef) (w' := w.setCells b o [m.val]) (fun o' ho => ?_) (h a ha)
  have hf := fitOper_op ho
  generalize hop : o'.op = op at hf
  generalize hd : o'.dst = dd at hf
  unfold execOp
  cases op <;> cases dd <;> try (simp only [fitOp, Bool.false_eq_true] at hf; done)
  rename_i ty' x y
  cases y <;> simp only [fitOp, Bool.and_eq_true, Bool.false_eq_true, Nat.beq_eq] at hf
  rename_i v
  obtain ⟨⟨h2, h3⟩, h4⟩ := hf
  subst h2
  have hv := MVal.is_eq h4
  subst hv
  have he2 : a.eval (.const m.val) = m.val := rfl
  have hrun : (Instr.storeAt ty (.pointer (some ⟨b, o, none⟩)) m.val).run P w = .ok () (w.setCells b o [m.val]) := by
    have := run_storeAt_any (P := P) (w := w) (ty := ty) (b := b) (o := o) (v := m.val) (by rw [MVal.cells1]; exact hn) (by rw [MVal.cells1]; exact ht) (by rw [MVal.cells1]; simp [MVal.one1])
    rw [MVal.cells1] at this
    exact this
  exact ⟨rfl, .inr ⟨rfl, by simp only [hop, tmpL ha hpN h3, hp, he2, Sem.run_bind, hrun, Result.andThen_ok, Sem.run_pure]⟩⟩

theorem range_set {b o k : Nat} {cs : List Value} {v : Value} (h : w.rangeAt b o cs) (ht : w.there b (o + k) 1) : (w.setCells b (o + k) [v]).rangeAt b o (cs.set k v) := by
  intro j u hj
  by_cases e : j = k
  · subst e
    have hs := World.rangeAt_setCells_same w b (o + j) [v] ht 0 v rfl
    have : u = v := by
      rw [List.getElem?_set_self'] at hj
      cases hc : cs[j]? with
      | none => simp [hc] at hj
      | some x => simpa [hc] using hj.symm
    subst this
    exact hs
  · rw [List.getElem?_set_ne (fun x => e x.symm)] at hj
    rw [World.cell?_setCells_out b [v] (o + k) w ⟨b, o + j, none⟩ (fun _ _ => by simp only [List.length_cons, List.length_nil]; show o + j < o + k ∨ o + k + (0 + 1) ≤ o + j; omega)]
    exact h j u hj

theorem there_in {b o n k m : Nat} (h : w.there b o n) (hk : k + m ≤ n) : w.there b (o + k) m := fun j hj => by
  have := h (k + j) (by omega)
  rwa [show o + (k + j) = o + k + j from by omega] at this

/-- What a call may turn: in block b the cells from o on, n of them; blocks that X names; new blocks. -/
structure Fr (X : Nat → Prop) (b o n : Nat) (w w' : World) : Prop where
  os : w'.os = w.os
  tape : w'.tape = w.tape
  output : w'.output = w.output
  size : w.heap.size ≤ w'.heap.size
  block : ∀ k, k < w.heap.size → k ≠ b → ¬ X k → w'.heap[k]? = w.heap[k]?
  cell : ∀ j, (j < o ∨ o + n ≤ j) → w'.cell? ⟨b, j, none⟩ = w.cell? ⟨b, j, none⟩
  there : ∀ o' n', w.there b o' n' → w'.there b o' n'

theorem Fr.refl (X : Nat → Prop) (b o n : Nat) (w : World) : Fr X b o n w w := ⟨rfl, rfl, rfl, Nat.le_refl _, fun _ _ _ _ => rfl, fun _ _ => rfl, fun _ _ h => h⟩
theorem Fr.trans {X : Nat → Prop} {b o n : Nat} {w1 w2 w3 : World} (h : Fr X b o n w1 w2) (k : Fr X b o n w2 w3) : Fr X b o n w1 w3 :=
  ⟨k.os.trans h.os, k.tape.trans h.tape, k.output.trans h.output, Nat.le_trans h.size k.size, fun i hi h1 h2 => (k.block i (Nat.lt_of_lt_of_le hi h.size) h1 h2).trans (h.block i hi h1 h2),
   fun j hj => (k.cell j hj).trans (h.cell j hj), fun o' n' ht => k.there _ _ (h.there _ _ ht)⟩
theorem Fr.wide {X X' : Nat → Prop} {b o n o' n' : Nat} {w w' : World} (h : Fr X b o n w w') (hX : ∀ k, X k → X' k) (h1 : o' ≤ o) (h2 : o + n ≤ o' + n') : Fr X' b o' n' w w' :=
  ⟨h.os, h.tape, h.output, h.size, fun k h1 h2 h3 => h.block k h1 h2 (fun x => h3 (hX k x)), fun j hj => h.cell j (by omega), h.there⟩
theorem Fr.below {X : Nat → Prop} {b o n B : Nat} {w w' : World} (h : Fr X b o n w w') (hb : B ≤ b) (hX : ∀ k, X k → B ≤ k) (hB : B ≤ w.heap.size) : Below B w w' :=
  ⟨h.os, h.tape, h.output, h.size, fun k hk => h.block k (by omega) (by omega) (fun x => by have := hX k x; omega)⟩
theorem Fr.ofBelow {X : Nat → Prop} {b o n : Nat} {w w' : World} (h : Below w.heap.size w w') (hb : b < w.heap.size) : Fr X b o n w w' :=
  ⟨h.os, h.tape, h.output, h.size, fun k hk _ _ => h.block k hk, fun j _ => cell_of_heap (h.block b hb), fun o' n' ht => there_keep ht (h.block b hb)⟩
theorem Fr.put {X : Nat → Prop} {b o n k : Nat} {w : World} (vs : List Value) (h1 : o ≤ k) (h2 : k + vs.length ≤ o + n) : Fr X b o n w (w.setCells b k vs) :=
  have hb := below_setCells (B := 0) (b := b) (Nat.zero_le _) vs k (Below.refl 0 w)
  ⟨hb.os, hb.tape, hb.output, hb.size, fun i _ hi _ => setCells_other b vs k w i hi, fun j hj => World.cell?_setCells_out b vs k w ⟨b, j, none⟩ (fun _ _ => by show j < k ∨ k + vs.length ≤ j; omega), fun o' n' ht => World.there_setCells ht _ _ _⟩

/-! ### Default -/
mutual
/-- A field's constant; an embedded part's. -/
inductive Df where
  | st (T idx off ty : Nat) (v : MVal)
  | sub (T idx off : Nat) (l : Dfs)
inductive Dfs where
  | nil
  | cons (d : Df) (r : Dfs)
end

mutual
def put1 : Df → Nat → List Value → List Value
  | .st _ _ off _ v, o, cs => cs.set (o + off) v.val
  | .sub _ _ off l, o, cs => putD l (o + off) cs
def putD : Dfs → Nat → List Value → List Value
  | .nil, _, cs => cs
  | .cons d r, o, cs => putD r o (put1 d o cs)
end

mutual
theorem put1_len : ∀ (d : Df) (o : Nat) (cs : List Value), (put1 d o cs).length = cs.length
  | .st _ _ _ _ _, _, _ => by unfold put1; simp
  | .sub _ _ _ l, o, cs => by unfold put1; exact putD_len l _ _
theorem putD_len : ∀ (l : Dfs) (o : Nat) (cs : List Value), (putD l o cs).length = cs.length
  | .nil, _, _ => by unfold putD; rfl
  | .cons d r, o, cs => by unfold putD; rw [putD_len r, put1_len d]
end

mutual
def gen1 (vs : Nat) : Df → (t x : Nat) → MCode × Nat × Nat
  | .st T idx _ ty v, t, x => (.rg [.mv t (.t vs), .nc (t + 1) t, .fa (t + 2) T (t + 1) idx, .stc ty (t + 2) v], t + 3, x)
  | .sub T idx _ l, t, x =>
    let i := genD x l (t + 4) (x + 1)
    (rows (.rg [.mv t (.t vs), .nc (t + 1) t, .fa (t + 2) T (t + 1) idx, .mv x (.t (t + 2))] :: .rg [.mv (t + 3) (.t x)] :: i.1), i.2)
def genD (vs : Nat) : Dfs → (t x : Nat) → List MCode × Nat × Nat
  | .nil, t, x => ([], t, x)
  | .cons d r, t, x =>
    let h := gen1 vs d t x
    let g := genD vs r h.2.1 h.2.2
    (h.1 :: g.1, g.2)
end

mutual
def ok1 (P : Program) (n : Nat) : Df → Nat → Bool
  | .st T idx off ty _, o => fieldAtB P T idx off && cellsB P ty 1 && Nat.blt (o + off) n
  | .sub T idx off l, o => fieldAtB P T idx off && okD P n l (o + off)
def okD (P : Program) (n : Nat) : Dfs → Nat → Bool
  | .nil, _ => true
  | .cons d r, o => ok1 P n d o && okD P n r o
end

mutual
theorem gen1_le {vs : Nat} : ∀ (d : Df) (t x : Nat), t ≤ (gen1 vs d t x).2.1 ∧ x ≤ (gen1 vs d t x).2.2
  | .st _ _ _ _ _, t, x => by unfold gen1; exact ⟨by simp, Nat.le_refl _⟩
  | .sub _ _ _ l, t, x => by
    unfold gen1
    have := genD_le (vs := x) l (t + 4) (x + 1)
    exact ⟨by simp only; omega, by simp only; omega⟩
theorem genD_le {vs : Nat} : ∀ (l : Dfs) (t x : Nat), t ≤ (genD vs l t x).2.1 ∧ x ≤ (genD vs l t x).2.2
  | .nil, t, x => by unfold genD; exact ⟨Nat.le_refl _, Nat.le_refl _⟩
  | .cons d r, t, x => by
    unfold genD
    have h1 := gen1_le (vs := vs) d t x
    have h2 := genD_le (vs := vs) r (gen1 vs d t x).2.1 (gen1 vs d t x).2.2
    exact ⟨by simp only; omega, by simp only; omega⟩
end

mutual
theorem gen1_ok {n b ob : Nat} : ∀ (d : Df) (vs o t x t0 : Nat) (ρ : Nat → Value) (w : World) (cs : List Value) (Q : Exit → (Nat → Value) → World → Prop), ok1 P n d o = true → vs < x → (gen1 vs d t x).2.2 ≤ t0 → t0 ≤ t → (gen1 vs d t x).2.1 ≤ N →
    ρ vs = .pointer (some ⟨b, ob + o, none⟩) → w.rangeAt b ob cs → w.there b ob n → cs.length = n →
    (∀ ρ' w', (∀ s, s < x → ρ' s = ρ s) → w'.rangeAt b ob (put1 d o cs) → Fr (fun _ => False) b ob n w w' → Q .normal ρ' w') → RW P N (gen1 vs d t x).1 Q ρ w
  | .st T idx off ty v, vs, o, t, x, t0, ρ, w, cs, Q, hok, hvx, hx, ht, hN, hv, hr, hth, hl, hQ => by
    unfold gen1 at hx hN ⊢
    simp only [ok1, Bool.and_eq_true, Nat.blt_eq] at hok
    obtain ⟨⟨h1, h2⟩, h3⟩ := hok
    simp only at hx hN
    refine RW.rg (RL.step (MR.mv hv (ltT (by omega))) (RL.step (MR.nc (upd_same _ _ _) (by omega)) (RL.step (MR.fa (upd_same _ _ _) h1 (by omega)) (RL.stc (b := b) (o := ob + (o + off)) ?_ h2 (there_in hth (by omega)) (RL.nil ?_) (by omega)) (by omega)) (by omega)) (by omega))
    · rw [upd_same, Nat.add_assoc]
    refine hQ _ _ (fun s hs => by rw [upd_ne _ _ (by omega), upd_ne _ _ (by omega), upd_ne _ _ (by omega)]) ?_ (Fr.put _ (by omega) (by simp; omega))
    unfold put1
    exact range_set hr (there_in hth (by omega))
  | .sub T idx off l, vs, o, t, x, t0, ρ, w, cs, Q, hok, hvx, hx, ht, hN, hv, hr, hth, hl, hQ => by
    unfold gen1 at hx hN ⊢
    simp only [ok1, Bool.and_eq_true] at hok
    obtain ⟨h1, h2⟩ := hok
    simp only at hx hN
    have hle := genD_le (vs := x) l (t + 4) (x + 1)
    refine RWL.rows ?_
    unfold RWL
    refine RW.rg (RL.step (MR.mv hv (ltT (by omega))) (RL.step (MR.nc (upd_same _ _ _) (by omega)) (RL.step (MR.fa (upd_same _ _ _) h1 (by omega)) (RL.step (MR.mv (upd_same _ _ _) (ltT (by omega))) (RL.nil ?_) (by omega)) (by omega)) (by omega)) (by omega))
    show RWL P N (_ :: _) Q _ _
    unfold RWL
    refine RW.rg (RL.step (MR.mv rfl (ltT (by omega))) (RL.nil ?_) (by omega))
    show RWL P N _ Q _ _
    refine genD_ok l x (o + off) (t + 4) (x + 1) t0 _ w cs Q h2 (by omega) hx (by omega) hN ?_ hr hth hl ?_
    · rw [upd_ne _ _ (by omega), upd_same, Nat.add_assoc]
    · intro ρ' w' k1 k2 k3
      refine hQ ρ' w' (fun s hs => ?_) (by unfold put1; exact k2) k3
      rw [k1 s (by omega), upd_ne _ _ (by omega), upd_ne _ _ (by omega), upd_ne _ _ (by omega), upd_ne _ _ (by omega), upd_ne _ _ (by omega)]
theorem genD_ok {n b ob : Nat} : ∀ (l : Dfs) (vs o t x t0 : Nat) (ρ : Nat → Value) (w : World) (cs : List Value) (Q : Exit → (Nat → Value) → World → Prop), okD P n l o = true → vs < x → (genD vs l t x).2.2 ≤ t0 → t0 ≤ t → (genD vs l t x).2.1 ≤ N →
    ρ vs = .pointer (some ⟨b, ob + o, none⟩) → w.rangeAt b ob cs → w.there b ob n → cs.length = n →
    (∀ ρ' w', (∀ s, s < x → ρ' s = ρ s) → w'.rangeAt b ob (putD l o cs) → Fr (fun _ => False) b ob n w w' → Q .normal ρ' w') → RWL P N (genD vs l t x).1 Q ρ w
  | .nil, vs, o, t, x, t0, ρ, w, cs, Q, hok, hvx, hx, ht, hN, hv, hr, hth, hl, hQ => by
    unfold genD RWL
    exact hQ ρ w (fun _ _ => rfl) (by unfold putD; exact hr) (Fr.refl _ _ _ _ _)
  | .cons d r, vs, o, t, x, t0, ρ, w, cs, Q, hok, hvx, hx, ht, hN, hv, hr, hth, hl, hQ => by
    unfold genD at hx hN ⊢
    simp only [okD, Bool.and_eq_true] at hok
    simp only at hx hN
    have hle1 := gen1_le (vs := vs) d t x
    have hle2 := genD_le (vs := vs) r (gen1 vs d t x).2.1 (gen1 vs d t x).2.2
    simp only [RWL]
    refine gen1_ok d vs o t x t0 ρ w cs _ hok.1 hvx (by omega) ht (by omega) hv hr hth hl fun ρ1 w1 k1 k2 k3 => ?_
    show RWL P N _ Q ρ1 w1
    refine genD_ok r vs o _ _ t0 ρ1 w1 (put1 d o cs) Q hok.2 (by omega) hx (by omega) hN (by rw [k1 vs hvx]; exact hv) k2 (k3.there _ _ hth) (by rw [put1_len]; exact hl) fun ρ2 w2 g1 g2 g3 => ?_
    exact hQ ρ2 w2 (fun s hs => by rw [g1 s (by omega), k1 s hs]) (by unfold putD; exact g2) (k3.trans g3)
end

/-- '(*X).Default', of a part of n cells: these constants. -/
def DefD (P : Program) (f n : Nat) (l : Dfs) : Prop := entersB P f = true ∧ ∀ (w : World) (b o : Nat) (cs : List Value), w.rangeAt b o cs → w.there b o n → cs.length = n →
  Calls P f #[.pointer (some ⟨b, o, none⟩)] w (fun e w' => e = .returned (.tuple #[]) ∧ w'.rangeAt b o (putD l 0 cs) ∧ Fr (fun _ => False) b o n w w')

def defT0 : Dfs → Nat
  | .nil => 2
  | .cons d r => (genD 0 (.cons d r) 0 2).2.2

theorem defD_of {f n : Nat} {l : Dfs} (hf : FnIs0 P f (rows (genD 0 l (defT0 l) 2).1) (genD 0 l (defT0 l) 2).2.1) (hok : okD P n l 0 = true) (hx : (genD 0 l (defT0 l) 2).2.2 ≤ defT0 l) : DefD P f n l := by
  refine ⟨hf.ent, fun w b o cs hr ht hl => ?_⟩
  have hle := genD_le (vs := 0) l (defT0 l) 2
  have h2 : 2 ≤ defT0 l := by omega
  refine hf.runs (args := [.pointer (some ⟨b, o, none⟩)]) (by simp; omega) ?_
  refine RWL.rows (genD_ok (b := b) (ob := o) (n := n) l 0 0 _ 2 (defT0 l) _ w cs _ hok (by omega) hx (Nat.le_refl _) (Nat.le_refl _) rfl hr ht hl fun ρ' w' _ k2 k3 => ?_)
  exact ⟨rfl, k2, k3⟩
end
end Go.Kx
namespace Go.Kx
open Go.RowKit
set_option linter.unusedSimpArgs false
set_option linter.unusedVariables false

mutual
/-- A field of the reference as it is made: its numbers, the function that makes its parts' fields (0: none), these. -/
inductive Sx where
  | mk (ps : List (Nat × Int)) (f : Nat) (sub : SxL)
inductive SxL where
  | nil
  | cons (x : Sx) (r : SxL)
end

def toSF : SxL → List SF
  | .nil => []
  | .cons (.mk ps f _) r => ⟨ps, if Nat.beq f 0 then none else some f⟩ :: toSF r

mutual
def toFd : Sx → Fd
  | .mk ps _ sub => .mk ((intsOf ps).getD 0 0) ((intsOf ps).getD 1 0) ((intsOf ps).getD 2 0) ((intsOf ps).getD 3 0) ((intsOf ps).getD 4 0) ((intsOf ps).getD 5 0) ((intsOf ps).getD 6 0) (toFds sub)
def toFds : SxL → Fds
  | .nil => .nil
  | .cons x r => .cons (toFd x) (toFds r)
end

def SxL.isNil : SxL → Bool
  | .nil => true
  | _ => false

theorem intsOf_len (ps : List (Nat × Int)) : (intsOf ps).length = 7 := by
  unfold intsOf
  have : ∀ (ps : List (Nat × Int)) (l : List Int), (ps.foldl (fun l p => l.set p.1 p.2) l).length = l.length := by
    intro ps
    induction ps with
    | nil => intro l; rfl
    | cons p ps ih => intro l; rw [List.foldl_cons, ih]; simp
  rw [this]; rfl

theorem seven (l : List Int) (h : l.length = 7) : l = [l.getD 0 0, l.getD 1 0, l.getD 2 0, l.getD 3 0, l.getD 4 0, l.getD 5 0, l.getD 6 0] := by
  match l, h with
  | [a, b, c, d, e, f, g], _ => rfl

def okS (P : Program) (S : SN) : SxL → Bool
  | .nil => true
  | .cons (.mk ps f sub) r => ps.all (fun p => Nat.blt p.1 7) && (if Nat.beq f 0 then sub.isNil else
      isFn P f (cFds S (toSF sub)) ((genSF S.fd (toSF sub) 1).2.2 + 1) 0 && okS P S sub && !sub.isNil && Nat.ble (toFds sub).toList.length 1000) && okS P S r

section
variable {P : Program} {S : SN} {K : KB} {g : TN}

theorem okS_of (ok : SOK P S) : ∀ (l : SxL), okS P S l = true → SFok P (toSF l) (toFds l)
  | .nil, _ => by unfold toSF toFds SFok; rfl
  | .cons (.mk ps f sub) r, h => by
    simp only [okS, Bool.and_eq_true, List.all_eq_true, Nat.blt_eq] at h
    obtain ⟨⟨h1, h2⟩, h3⟩ := h
    unfold toSF toFds SFok
    refine ⟨_, _, rfl, ?_, h1, ?_, okS_of ok r h3⟩
    · unfold toFd
      exact seven _ (intsOf_len ps)
    · have e : (toFd (.mk ps f sub)).sub = toFds sub := by unfold toFd; rfl
      rw [e]
      cases hf : Nat.beq f 0 with
      | true =>
        rw [hf] at h2
        simp only [if_true] at h2 ⊢
        cases sub with
        | nil => unfold toFds; rfl
        | cons x r => simp [SxL.isNil] at h2
      | false =>
        rw [hf] at h2
        simp only [Bool.false_eq_true, if_false, Bool.and_eq_true, Bool.not_eq_true', Nat.ble_eq] at h2 ⊢
        obtain ⟨⟨⟨g1, g2⟩, g3⟩, g4⟩ := h2
        refine fds_of ok (FnIs.of g1) (okS_of ok sub g2) ?_ g4
        intro e
        cases sub with
        | nil => simp [SxL.isNil] at g3
        | cons x r => unfold toFds at e; cases e

/-! ### A new message's cells -/
mutual
def putM1 : Df → Nat → List MVal → List MVal
  | .st _ _ off _ v, o, cs => cs.set (o + off) v
  | .sub _ _ off l, o, cs => putM l (o + off) cs
def putM : Dfs → Nat → List MVal → List MVal
  | .nil, _, cs => cs
  | .cons d r, o, cs => putM r o (putM1 d o cs)
end
mutual
theorem putM1_val : ∀ (d : Df) (o : Nat) (cs : List MVal), (putM1 d o cs).map MVal.val = put1 d o (cs.map MVal.val)
  | .st _ _ off _ v, o, cs => by unfold putM1 put1; rw [List.map_set]
  | .sub _ _ off l, o, cs => by unfold putM1 put1; exact putM_val l _ _
theorem putM_val : ∀ (l : Dfs) (o : Nat) (cs : List MVal), (putM l o cs).map MVal.val = putD l o (cs.map MVal.val)
  | .nil, o, cs => by unfold putM putD; rfl
  | .cons d r, o, cs => by unfold putM putD; rw [putM_val r, putM1_val d]
end

def offs1 : Flds → Bool
  | .nil => true
  | .cons _ _ off _ _ r => Nat.ble 1 off && offs1 r
def tag1 : Option (Nat × Nat) → Bool
  | none => true
  | some q => Nat.ble 1 q.2

theorem drop1 {α : Type} {a b : α} {l : List α} {n : Nat} (h : 1 ≤ n) : (a :: l).drop n = (b :: l).drop n := by
  cases n with
  | zero => omega
  | succ n => rfl

theorem defF_first : ∀ {fs : Flds} {a b : MVal} {rest : List MVal}, offs1 fs = true → defF fs (a :: rest) = defF fs (b :: rest)
  | .nil, _, _, _, _ => by unfold defF; rfl
  | .cons _ _ off _ ty r, a, b, rest, h => by
    simp only [offs1, Bool.and_eq_true, Nat.ble_eq] at h
    unfold defF
    rw [drop1 (a := a) (b := b) h.1, defF_first (a := a) (b := b) h.2]
    rfl

theorem defTag_first {tg : Option (Nat × Nat)} {a b : MVal} {rest : List MVal} (h : tag1 tg = true) : defTag tg (a :: rest) = defTag tg (b :: rest) := by
  cases tg with
  | none => rfl
  | some q =>
    unfold defTag
    simp only [tag1, Nat.ble_eq] at h
    dsimp only
    obtain ⟨k, hk⟩ : ∃ k, q.2 = k + 1 := ⟨q.2 - 1, by omega⟩
    rw [hk, List.getElem?_cons_succ, List.getElem?_cons_succ]

def eqB : List UInt8 → List UInt8 → Bool
  | [], [] => true
  | a :: as, b :: bs => Nat.beq a.toNat b.toNat && eqB as bs
  | _, _ => false

theorem eqB_eq : ∀ {a b : List UInt8}, eqB a b = true → a = b
  | [], [], _ => rfl
  | [], _ :: _, h => by simp [eqB] at h
  | _ :: _, [], h => by simp [eqB] at h
  | a :: as, b :: bs, h => by
    simp only [eqB, Bool.and_eq_true, Nat.beq_eq] at h
    rw [eqB_eq h.2, UInt8.toNat_inj.1 h.1]

mutual
/-- Strings and lists of a default are empty: small. -/
def smD : Ty → D → Bool
  | .prim _ _, d => (match d with | .s (some l) => Nat.ble l.length 32767 | _ => true)
  | .enum _ _ _, d => (match d with | .s (some l) => Nat.ble l.length 32767 | _ => true)
  | .vstr _ _ _, d => (match d with | .s (some l) => Nat.ble l.length 32767 | _ => true)
  | .arr _ _ _ _, d => (match d with | .l _ [] => true | _ => false)
  | .struct _ _ _ _ fs, d => (match d with | .r ds [] => smDF fs ds | _ => false)
def smDF : Flds → List D → Bool
  | .nil, _ => true
  | .cons _ _ _ _ ty rest, ds => smD ty (ds.headD (.n 0)) && smDF rest ds.tail
end

theorem smallP_of {d : D} (h : (match d with | .s (some l) => Nat.ble l.length 32767 | _ => true) = true) : smallP d := by
  unfold smallP
  split
  · simpa using h
  · trivial

mutual
theorem smD_of : ∀ (ty : Ty) (d : D), smD ty d = true → Sm (· = []) ty d
  | .prim _ _, d, h => by unfold smD at h; unfold Sm; exact smallP_of h
  | .enum _ _ _, d, h => by unfold smD at h; unfold Sm; exact smallP_of h
  | .vstr _ _ _, d, h => by unfold smD at h; unfold Sm; exact smallP_of h
  | .arr _ _ _ el, d, h => by
    unfold smD at h
    unfold Sm
    split at h
    · exact ⟨by simp, by simp⟩
    · simp at h
  | .struct _ _ _ _ fs, d, h => by
    unfold smD at h
    unfold Sm
    split at h
    · exact ⟨smDF_of fs _ h, rfl⟩
    · simp at h
theorem smDF_of : ∀ (fs : Flds) (ds : List D), smDF fs ds = true → SmF (· = []) fs ds
  | .nil, _, _ => by unfold SmF; trivial
  | .cons _ _ _ _ ty rest, ds, h => by
    simp only [smDF, Bool.and_eq_true] at h
    unfold SmF
    exact ⟨smD_of ty _ h.1, smDF_of rest _ h.2⟩
end

/-! ### What the seat's program has in common -/
/-- The reference's functions and kbin's, the tags': one test. -/
def seatB (P : Program) (K : KB) (g : TN) (S : SN) : List Bool := [(kbOk P K).all id, (sokB P S).all id, mapTy P g.tMap, plainTy P g.tMap, plainTy P K.T.u8s, fieldAtB P g.tSt 0 0, isFn P g.fLen (cTLen g) 8 2, isFn0 P g.fEach (cEach g K.T.int) 53, isFn P g.fTeach (cTeach g K.T) 9 4,
  isFn P S.fFixed (cFixed S) 22 4, isFn P S.fUvar (cUvar S) 20 2, isFn P S.fWidth (cWidth S) 11 2, isFn P S.fCounted (cCounted S) 28 8, isFn P S.fWhole (cWhole S) 8 2, isFn P S.fThings (cThings S) 8 2, isFn P S.fHas (cHas S) 20 4, isFn P S.fNull (cNull S) 20 6,
  isFnC P S.fAt (cAt S) 16 4 S.tr, isFn P S.fKnown (cKnown S) 23 2, isFn P S.fUnk (cUnk S) 85 4, isFn P S.fValue (cValue S) 70 12, isFn P S.fField (cField S) 76 8, isFn P S.fPart (cPart S) 132 8, isFn P S.fWrite (cWrite S) 21 6, orNo S.fDflt (isFnC P S.fDflt (cDflt S) 35 2 S.tr),
  isFn P S.fSame (cSame S) 26 4, orNo S.fVer (isFn P S.fVer (cVer S) 10 4), fieldIs P S.tr 3 S.trs 3, cellsB P S.trs 1, yes K.T.i16, cellsB P K.T.i16 1, Nat.beq K.T.u8 S.T.u8]

structure Seat (P : Program) (K : KB) (g : TN) (S : SN) : Prop where
  kk : KOK P K
  ok : SOK P S
  tg : TgOK P g K.T
  sp : SPC P S (· = [])
  wr : FnIs P S.fWrite (cWrite S) 21 6
  df : S.fDflt ≠ 0 → FnIsC P S.fDflt (cDflt S) 35 2 S.tr
  same : SameC P S.fSame
  ver : S.fVer ≠ 0 → VerC P S.fVer
  fi : fieldIs P S.tr 3 S.trs 3 = true
  c1 : cellsB P S.trs 1 = true
  h16 : K.T.i16 ≠ 0
  c16 : cellsB P K.T.i16 1 = true
  u8 : K.T.u8 = S.T.u8

theorem seat_of (h : (seatB P K g S).all id = true) (hfl : F64W P K) : Seat P K g S := by
  simp only [seatB, List.all_cons, List.all_nil, id_eq, Bool.and_true, Bool.and_eq_true] at h
  obtain ⟨h1, h2, h3, h4, h5, h6, h7, h8, h9, h10, h11, h12, h13, h14, h15, h16, h17, h18, h19, h20, h21, h22, h23, h24, h25, h26, h27, h28, h29, h30, h31, h32⟩ := h
  have kk := kok_of h1 hfl
  have ok := sok_of h2
  have hfix := fixed_ok ok.tk ok.hi64 (FnIs.of h10)
  have huv := uvar_ok ok.tk ok.hu64 (FnIs.of h11)
  have hkn := known_ok ok (FnIs.of h19)
  exact {
    kk := kk
    ok := ok
    tg := ⟨kk.tk, h3, h4, h5, h6, FnIs.of h7, FnIs0.of h8, FnIs.of h9⟩
    sp := ⟨ok, rfl, hfix, huv, width_ok (FnIs.of h12), counted_ok ok (FnIs.of h13) hfix huv, whole_ok ok (FnIs.of h14), things_ok ok (FnIs.of h15), has_ok ok (FnIs.of h16), null_ok ok (FnIs.of h17), at_ok ok (FnIsC.of h18), hkn, unk_none ok (FnIs.of h20) hkn, FnIs.of h21, FnIs.of h22, FnIs.of h23⟩
    wr := FnIs.of h24
    df := fun e => FnIsC.of (orNo_of h25 e)
    same := same_ok ok.z (FnIs.of h26)
    ver := fun e => ver_ok ok.z (FnIs.of (orNo_of h27 e))
    fi := h28
    c1 := h29
    h16 := yes_of h30
    c16 := h31
    u8 := by simpa using h32 }

/-- A law FnNew..: its functions' numbers, the plan, the new message's cells. -/
structure NL where
  f : Nat
  fMax : Nat
  fSpec : Nat
  fNew : Nat
  fPtr : Nat
  fDef : Nat
  fMv : Nat
  fSet : Nat
  fAp : Nat
  most : Nat
  L : Nat
  N : Nat
  pl : Plan
  zs : List MVal
  df : Dfs
  sx : SxL
  flex : Int

def firstZero : List MVal → Bool
  | .int .i16 n :: _ => sameInt n 0
  | _ => false

/-- At every version what is written of the new message is what the reference writes. -/
def sayB (n : NL) (ds : List D) : Bool := (List.range (n.most + 1)).all fun v => eqB (encTop n.pl (v : Nat) ds []) (sWrite (toFds n.sx) n.flex (v : Nat) (sDflt (toFds n.sx))) && Nat.ble (encTop n.pl (v : Nat) ds []).length 1000000

def nlB (P : Program) (K : KB) (g : TN) (S : SN) (n : NL) : List Bool := [isFn P n.f (cLawNew S n.fMax n.fSpec n.fNew) 22 2, isFn P n.fMax (cMax K.T n.fPtr n.fMv) 4 0, isFn P n.fMv (cMv n.most) 3 2, Nat.blt n.most 32768,
  isFn P n.fPtr (cPtr n.pl.T n.fDef) 3 0, zeroIs P n.pl.T n.zs, isFn0 P n.fDef (rows (genD 0 n.df (defT0 n.df) 2).1) (genD 0 n.df (defT0 n.df) 2).2.1, okD P n.zs.length n.df 0, Nat.ble (genD 0 n.df (defT0 n.df) 2).2.2 (defT0 n.df),
  isFn P n.fNew (cNew K.T n.fPtr n.fSet n.fAp) 11 2, isFn0 P n.fSet (cSet K.T n.pl.T) 8, fieldAtB P n.pl.T 0 0, isFn P n.fAp (topA (K.ia g) n.pl n.L) n.N 4, okTop P (K.ia g) n.pl n.L n.N,
  isFnC P n.fSpec (cSpec S (toSF n.sx) n.flex) ((genSF S.fd (toSF n.sx) 1).2.2 + 2) 0 S.msg, okS P S n.sx, !n.sx.isNil, Nat.ble (toFds n.sx).toList.length 1000, plainFds (toFds n.sx), dfOk (toFds n.sx),
  firstZero (putM n.df 0 n.zs), offs1 n.pl.fs, tag1 n.pl.tg, defTag n.pl.tg (putM n.df 0 n.zs), (match defF n.pl.fs (putM n.df 0 n.zs) with | some ds => smDF n.pl.fs ds && sayB n ds | none => false), yes S.fDflt, yes S.fVer]

theorem defC_of {f n : Nat} {l : Dfs} {zs : List Value} (h : DefD P f n l) (hl : zs.length = n) : DefC P f zs (putD l 0 zs) := by
  refine ⟨h.1, fun w b hb hr ht => ?_⟩
  refine Calls.mono (h.2 w b 0 zs hr (by rw [← hl]; exact ht) hl) ?_
  rintro e w' ⟨rfl, h1, h2⟩
  exact ⟨rfl, h1, h2.there _ _ ht, h2.below (Nat.le_refl _) (fun _ x => x.elim) (by omega)⟩

theorem new_law (se : Seat P K g S) (n : NL) (h : (nlB P K g S n).all id = true) (w : World) (k : Nat) (hk : k < 256) :
    Calls P n.f #[.int .u8 k] w (fun e w' => e = .returned (.bool true) ∧ Below w.heap.size w w') := by
  simp only [nlB, List.all_cons, List.all_nil, id_eq, Bool.and_true, Bool.and_eq_true] at h
  obtain ⟨h1, h2, h3, h4, h5, h6, h7, h8, h9, h10, h11, h12, h13, h14, h15, h16, h17, h18, h19, h20, h21, h22, h23, h24, h25, h26, h27⟩ := h
  simp only [Nat.blt_eq, Nat.ble_eq] at h4 h9 h18
  have hm : n.most < 32768 := h4
  cases hd : defF n.pl.fs (putM n.df 0 n.zs) with
  | none => simp [hd] at h25
  | some ds =>
    simp only [hd, Bool.and_eq_true] at h25
    obtain ⟨hsm, hsay⟩ := h25
    have hsay' : ∀ v, v ≤ n.most → encTop n.pl (v : Nat) ds [] = sWrite (toFds n.sx) n.flex (v : Nat) (sDflt (toFds n.sx)) ∧ (encTop n.pl (v : Nat) ds []).length ≤ 1000000 := by
      intro v hv
      have := List.all_eq_true.1 hsay v (List.mem_range.2 (by omega))
      simp only [Bool.and_eq_true, Nat.ble_eq] at this
      exact ⟨eqB_eq this.1, this.2⟩
    -- the cells
    obtain ⟨rest, hrest⟩ : ∃ rest, putM n.df 0 n.zs = .int .i16 0 :: rest := by
      cases hq : putM n.df 0 n.zs with
      | nil => rw [hq] at h21; simp [firstZero] at h21
      | cons m r =>
        rw [hq] at h21
        cases m <;> try (simp [firstZero] at h21; done)
        rename_i kk nn
        cases kk <;> try (simp [firstZero] at h21; done)
        simp only [firstZero] at h21
        rw [sameInt_eq h21]; exact ⟨r, rfl⟩
    have hcs : putD n.df 0 (n.zs.map MVal.val) = .int .i16 0 :: rest.map MVal.val := by rw [← putM_val, hrest]; rfl
    have hdef : DefC P n.fDef (n.zs.map MVal.val) (.int .i16 0 :: rest.map MVal.val) := by
      rw [← hcs]
      exact defC_of (defD_of (n := n.zs.length) (FnIs0.of h7) h8 h9) (by simp)
    have hlen : (Value.int .i16 0 :: rest.map MVal.val).length = (n.zs.map MVal.val).length := by rw [← hcs, putD_len]
    have hptr : PtrC P n.fPtr (.int .i16 0 :: rest.map MVal.val) := ptr_of (FnIs.of h5) (zeroIs_of h6) hdef hlen
    have hmax := max_of se.kk.tk se.h16 (FnIs.of h2) hptr (FnIs.of h3) hm
    have hF : ∀ v : Nat, defF n.pl.fs (.int .i16 (v : Nat) :: rest) = some ds := fun v => by rw [defF_first (b := .int .i16 0) h22, ← hrest]; exact hd
    have hT : ∀ v : Nat, defTag n.pl.tg (.int .i16 (v : Nat) :: rest) = true := fun v => by rw [defTag_first (b := .int .i16 0) h23, ← hrest]; exact h24
    have hnew : NewC P K.T.u8 n.fNew n.most (fun v => encTop n.pl (v : Nat) ds []) :=
      new_of se.kk se.tg se.h16 se.c16 (FnIs.of h10) hptr (FnIs0.of h11) h12 (FnIs.of h13) h14 hm
        (fun w F v => by have := defF_rep (w := w) (F := F) (hF v); simpa [MVal.val] using this) (fun w F v => by have := defTag_at (w := w) (F := F) (hT v); simpa [MVal.val] using this) (smDF_of _ _ hsm) (fun v hv => (hsay' v hv).2)
    have hne : toFds n.sx ≠ .nil := by
      intro e
      cases hx : n.sx with
      | nil => rw [hx] at h17; simp [SxL.isNil] at h17
      | cons x r => rw [hx] at e; unfold toFds at e; cases e
    have hspec := spec_of (flex := n.flex) se.ok (FnIsC.of h15) (okS_of se.ok n.sx h16) hne h18
    have hwr := write_of se.sp se.wr (fs := toFds n.sx) h19 (by omega)
    have hdf := dflt_all se.ok se.fi se.c1 (se.df (yes_of h26)) (fs := toFds n.sx) h20 (by omega)
    rw [se.u8] at hnew
    exact law_new se.sp (FnIs.of h1) hwr se.wr.ent hdf (se.df (yes_of h26)).ent se.same (se.ver (yes_of h27)) hmax hspec hnew hm (fun v hv => hsay' v hv) w k hk
end
end Go.Kx
namespace Go.Kx
open Go.RowKit
set_option linter.unusedSimpArgs false
set_option linter.unusedVariables false

theorem beVal_snoc (l : List UInt8) (b : UInt8) : beVal (l ++ [b]) = beVal l * 256 + b.toNat := by simp [beVal, List.foldl_append]
theorem be_len : ∀ (k n : Nat), (be n k).length = k
  | 0, _ => rfl
  | k + 1, n => by simp [be, be_len k]
theorem beVal_be : ∀ (k n : Nat), beVal (be n k) = n % 256 ^ k
  | 0, n => by simp [be, beVal, Nat.mod_one]
  | k + 1, n => by
    rw [be, beVal_snoc, beVal_be k]
    have : (UInt8.ofNat (n % 256)).toNat = n % 256 := by simp
    rw [this, Nat.pow_succ, Nat.mul_comm (256 ^ k) 256, Nat.mod_mul]
    omega
theorem takeN_app {k : Nat} {l : List UInt8} (r : List UInt8) (h : l.length = k) : takeN k (l ++ r) = some (l, r) := by
  unfold takeN
  rw [if_pos (by rw [List.length_append]; omega), ← h, List.take_left, List.drop_left]
theorem dNat_be {k n : Nat} (r : List UInt8) : dNat k (be n k ++ r) = some (n % 256 ^ k, r) := by
  unfold dNat
  rw [Dec.map_of (takeN_app r (be_len k n)), beVal_be]
theorem dNat_fix {k : Nat} {i : Int} (r : List UInt8) : dNat k (fix i k ++ r) = some ((i % (256 ^ k : Int)).toNat % 256 ^ k, r) := dNat_be r
theorem dInt_fix {k : Nat} {i : Int} (r : List UInt8) : dInt k (fix i k ++ r) = some (sgn k ((i % (256 ^ k : Int)).toNat % 256 ^ k), r) := by
  unfold dInt
  rw [Dec.map_of (dNat_fix r)]
theorem fix_len (i : Int) (k : Nat) : (fix i k).length = k := be_len _ _

theorem sgn1 {i : Int} (h0 : -128 ≤ i) (h1 : i ≤ 127) : sgn 1 ((i % (256 ^ 1 : Int)).toNat % 256 ^ 1) = i := by
  unfold sgn; simp only [Nat.pow_one, Int.pow_one]; split <;> omega
theorem sgn2 {i : Int} (h0 : -32768 ≤ i) (h1 : i ≤ 32767) : sgn 2 ((i % (256 ^ 2 : Int)).toNat % 256 ^ 2) = i := by
  unfold sgn; simp only [show (256 : Nat) ^ 2 = 65536 from rfl, show (256 : Int) ^ 2 = 65536 from rfl]; split <;> omega
theorem sgn4 {i : Int} (h0 : -2147483648 ≤ i) (h1 : i ≤ 2147483647) : sgn 4 ((i % (256 ^ 4 : Int)).toNat % 256 ^ 4) = i := by
  unfold sgn; simp only [show (256 : Nat) ^ 4 = 4294967296 from rfl, show (256 : Int) ^ 4 = 4294967296 from rfl]; split <;> omega
theorem sgn8 {i : Int} (h0 : -9223372036854775808 ≤ i) (h1 : i ≤ 9223372036854775807) : sgn 8 ((i % (256 ^ 8 : Int)).toNat % 256 ^ 8) = i := by
  unfold sgn; simp only [show (256 : Nat) ^ 8 = 18446744073709551616 from rfl, show (256 : Int) ^ 8 = 18446744073709551616 from rfl]; split <;> omega

theorem uvb_rt : ∀ (k j n : Nat) (r : List UInt8), n < 16 * 128 ^ k → k ≤ j → dUvb k (uvb j n ++ r) = some (n, r)
  | 0, j, n, r, h, hj => by
    have h16 : n < 16 := by simpa using h
    have e : uvb j n = [UInt8.ofNat n] := by cases j <;> simp [uvb]; omega
    rw [e]
    show dUvb 0 (UInt8.ofNat n :: r) = _
    have e2 : (UInt8.ofNat n).toNat = n := by simp; omega
    simp only [dUvb, e2]
    rw [if_pos (by omega)]
  | k + 1, j, n, r, h, hj => by
    obtain ⟨j, rfl⟩ : ∃ j', j = j' + 1 := ⟨j - 1, by omega⟩
    by_cases hn : n < 128
    · have e : uvb (j + 1) n = [UInt8.ofNat n] := by simp [uvb, hn]
      have e2 : (UInt8.ofNat n).toNat = n := by simp; omega
      rw [e]
      show dUvb (k + 1) (UInt8.ofNat n :: r) = _
      simp only [dUvb, e2]
      rw [if_pos hn]
    · have e : uvb (j + 1) n = UInt8.ofNat (n % 128 + 128) :: uvb j (n / 128) := by simp [uvb, hn]
      have e2 : (UInt8.ofNat (n % 128 + 128)).toNat = n % 128 + 128 := by simp; omega
      rw [e]
      show dUvb (k + 1) (UInt8.ofNat (n % 128 + 128) :: (uvb j (n / 128) ++ r)) = _
      simp only [dUvb, e2]
      rw [if_neg (by omega), uvb_rt k j (n / 128) r (by rw [Nat.pow_succ] at h; omega) (by omega)]
      simp only [Option.some.injEq, Prod.mk.injEq, and_true]
      omega

theorem uv_rt {n : Nat} (r : List UInt8) (h : n < 4294967296) : dUv (uv n ++ r) = some (n, r) := uvb_rt 4 9 n r (by simpa using h) (by omega)
theorem uv_pos (n : Nat) : 1 ≤ (uv n).length := by
  unfold uv; simp only [uvb]; split <;> simp

theorem dLen_cnt {flex : Bool} {k n : Nat} (r : List UInt8) (hk : k = 2 ∨ k = 4) (h : n ≤ 32767) : dLen flex k (cnt flex k n ++ r) = some ((n : Int), r) := by
  cases flex
  · simp only [dLen, cnt, Bool.false_eq_true, if_false]
    rw [dInt_fix]
    rcases hk with rfl | rfl
    · rw [sgn2 (by omega) (by omega)]
    · rw [sgn4 (by omega) (by omega)]
  · simp only [dLen, cnt, if_true]
    rw [Dec.map_of (uv_rt r (by omega))]
    simp only [Option.some.injEq, Prod.mk.injEq, and_true]; omega
theorem dLen_null {flex : Bool} {k : Nat} (r : List UInt8) (hk : k = 2 ∨ k = 4) : dLen flex k (cntNull flex k ++ r) = some (-1, r) := by
  cases flex
  · simp only [dLen, cntNull, Bool.false_eq_true, if_false]
    rw [dInt_fix]
    rcases hk with rfl | rfl
    · rw [sgn2 (by omega) (by omega)]
    · rw [sgn4 (by omega) (by omega)]
  · simp only [dLen, cntNull, if_true]
    rw [Dec.map_of (uv_rt r (by omega))]
    rfl
theorem dSpan_app {l : List UInt8} (r : List UInt8) : dSpan (l.length : Nat) (l ++ r) = some (l, r) := by
  unfold dSpan
  rw [if_neg (by omega)]
  exact takeN_app r (by simp)

theorem aLen_small {n : Nat} (h : n ≤ 32768) : aLen n = (n : Int) - 1 := by
  unfold aLen
  rw [wrap_i32 (n := (n : Int)) (by omega) (by omega), wrap_i32 (by omega) (by omega)]
theorem dALen_cnt {flex : Bool} {n : Nat} (r : List UInt8) (h : n ≤ 32767) (hr : n ≤ r.length) : dALen flex (cnt flex 4 n ++ r) = some ((n : Int), r) := by
  cases flex
  · simp only [dALen, cnt, Bool.false_eq_true, if_false]
    rw [Dec.bind_of (dInt_fix r), sgn4 (by omega) (by omega)]
    unfold atMost; rw [if_neg (by omega)]
  · simp only [dALen, cnt, if_true]
    rw [Dec.bind_of (uv_rt r (by omega)), aLen_small (by omega)]
    unfold atMost; rw [if_neg (by omega)]
    simp only [Option.some.injEq, Prod.mk.injEq, and_true]; omega
theorem dALen_null {flex : Bool} (r : List UInt8) : dALen flex (cntNull flex 4 ++ r) = some (-1, r) := by
  cases flex
  · simp only [dALen, cntNull, Bool.false_eq_true, if_false]
    rw [Dec.bind_of (dInt_fix r), sgn4 (by omega) (by omega)]
    unfold atMost; rw [if_neg (by omega)]
  · simp only [dALen, cntNull, if_true]
    rw [Dec.bind_of (uv_rt r (by omega)), aLen_small (by omega)]
    unfold atMost; rw [if_neg (by omega)]
    rfl

/-- What a plain field may say. -/
def okP (k : PK) (d : D) : Prop :=
  match k with
  | .i8 => ∃ i, d = .n i ∧ -128 ≤ i ∧ i ≤ 127
  | .i16 => ∃ i, d = .n i ∧ -32768 ≤ i ∧ i ≤ 32767
  | .u16 => ∃ i, d = .n i ∧ 0 ≤ i ∧ i ≤ 65535
  | .i32 => ∃ i, d = .n i ∧ -2147483648 ≤ i ∧ i ≤ 2147483647
  | .i64 => ∃ i, d = .n i ∧ -9223372036854775808 ≤ i ∧ i ≤ 9223372036854775807
  | .f64 => ∃ i, d = .n i ∧ 0 ≤ i ∧ i < 18446744073709551616
  | .bool => d = .n 0 ∨ d = .n 1
  | .uuid => ∃ l, d = .s (some l) ∧ l.length = 16
  | .str | .byt => ∃ l, d = .s (some l) ∧ l.length ≤ 32767
  | .nstr | .nbyt => d = .s none ∨ ∃ l, d = .s (some l) ∧ l.length ≤ 32767

theorem rtP {k : PK} {d : D} {flex : Bool} (r : List UInt8) (h : okP k d) : dP k flex (encP k flex d ++ r) = some (d, r) := by
  cases k <;> simp only [okP] at h <;> unfold dP
  · obtain ⟨i, rfl, h0, h1⟩ := h
    show (dInt 1).map D.n (fix i 1 ++ r) = _
    rw [Dec.map_of (dInt_fix r), sgn1 h0 h1]
  · obtain ⟨i, rfl, h0, h1⟩ := h
    show (dInt 2).map D.n (fix i 2 ++ r) = _
    rw [Dec.map_of (dInt_fix r), sgn2 h0 h1]
  · obtain ⟨i, rfl, h0, h1⟩ := h
    show (dInt 4).map D.n (fix i 4 ++ r) = _
    rw [Dec.map_of (dInt_fix r), sgn4 h0 h1]
  · obtain ⟨i, rfl, h0, h1⟩ := h
    show (dInt 8).map D.n (fix i 8 ++ r) = _
    rw [Dec.map_of (dInt_fix r), sgn8 h0 h1]
  · obtain ⟨i, rfl, h0, h1⟩ := h
    show (dNat 2).map (fun n => D.n (n : Nat)) (fix i 2 ++ r) = _
    rw [Dec.map_of (dNat_fix r)]
    simp only [show (256 : Nat) ^ 2 = 65536 from rfl, show (256 : Int) ^ 2 = 65536 from rfl]
    congr 3; omega
  · rcases h with rfl | rfl <;> rfl
  · obtain ⟨i, rfl, h0, h1⟩ := h
    show (dNat 8).map (fun n => D.n (n : Nat)) (fix i 8 ++ r) = _
    rw [Dec.map_of (dNat_fix r)]
    simp only [show (256 : Nat) ^ 8 = 18446744073709551616 from rfl, show (256 : Int) ^ 8 = 18446744073709551616 from rfl]
    congr 3; omega
  · obtain ⟨l, rfl, hl⟩ := h
    exact Dec.map_of (takeN_app r hl)
  · obtain ⟨l, rfl, hl⟩ := h
    show (dLen flex 2).bind _ ((cnt flex 2 l.length ++ l) ++ r) = _
    rw [List.append_assoc, Dec.bind_of (dLen_cnt _ (.inl rfl) hl), Dec.map_of (dSpan_app r)]
  · rcases h with rfl | ⟨l, rfl, hl⟩
    · show (dLen flex 2).bind _ (cntNull flex 2 ++ r) = _
      rw [Dec.bind_of (dLen_null _ (.inl rfl)), if_pos (by omega)]; rfl
    · show (dLen flex 2).bind _ ((cnt flex 2 l.length ++ l) ++ r) = _
      rw [List.append_assoc, Dec.bind_of (dLen_cnt _ (.inl rfl) hl), if_neg (by omega), Dec.map_of (dSpan_app r)]
  · obtain ⟨l, rfl, hl⟩ := h
    show (dLen flex 4).bind _ ((cnt flex 4 l.length ++ l) ++ r) = _
    rw [List.append_assoc, Dec.bind_of (dLen_cnt _ (.inr rfl) hl), if_neg (by omega), Dec.map_of (dSpan_app r)]
  · rcases h with rfl | ⟨l, rfl, hl⟩
    · show (dLen flex 4).bind _ (cntNull flex 4 ++ r) = _
      rw [Dec.bind_of (dLen_null _ (.inr rfl)), if_pos (by omega)]; rfl
    · show (dLen flex 4).bind _ ((cnt flex 4 l.length ++ l) ++ r) = _
      rw [List.append_assoc, Dec.bind_of (dLen_cnt _ (.inr rfl) hl), if_neg (by omega), Dec.map_of (dSpan_app r)]

/-! ### Tags -/
/-- Tags by rising numbers, few and small. -/
def okTags (ts : List (Nat × List UInt8)) : Prop := ts.Pairwise (fun x y => x.1 < y.1) ∧ ts.length ≤ 32767 ∧ ∀ t ∈ ts, t.1 < 4294967296 ∧ t.2.length ≤ 32767

theorem setTag_snoc {t : Nat × List UInt8} : ∀ {ts : List (Nat × List UInt8)}, (∀ x ∈ ts, x.1 < t.1) → setTag t ts = ts ++ [t]
  | [], _ => rfl
  | x :: xs, h => by
    rw [setTag, if_pos (h x List.mem_cons_self), setTag_snoc (fun y hy => h y (List.mem_cons_of_mem _ hy))]; rfl

theorem dTag_enc {t : Nat × List UInt8} (r : List UInt8) (h1 : t.1 < 4294967296) (h2 : t.2.length ≤ 32767) : dTag (encTag t ++ r) = some (t, r) := by
  unfold dTag encTag
  rw [List.append_assoc, List.append_assoc, Dec.bind_of (uv_rt _ h1), Dec.bind_of (uv_rt _ (by omega)), Dec.map_of (dSpan_app r)]

theorem dTagN_enc (r : List UInt8) : ∀ (ts acc : List (Nat × List UInt8)), (acc ++ ts).Pairwise (fun x y => x.1 < y.1) → (∀ t ∈ ts, t.1 < 4294967296 ∧ t.2.length ≤ 32767) →
    dTagN ts.length acc (ts.flatMap encTag ++ r) = some (acc ++ ts, r)
  | [], acc, _, _ => by simp [dTagN, Dec.pure]
  | t :: ts, acc, hp, h => by
    have ht := h t List.mem_cons_self
    rw [List.flatMap_cons, List.append_assoc]
    show dTagN (ts.length + 1) acc _ = _
    unfold dTagN
    rw [Dec.bind_of (dTag_enc _ ht.1 ht.2), setTag_snoc (fun x hx => (List.pairwise_append.1 hp).2.2 x hx t List.mem_cons_self)]
    rw [dTagN_enc r ts (acc ++ [t]) (by rw [List.append_assoc]; exact hp) (fun x hx => h x (List.mem_cons_of_mem _ hx))]
    simp

theorem dTags_enc {ts : List (Nat × List UInt8)} (r : List UInt8) (h : okTags ts) : dTags (encTags ts ++ r) = some (ts, r) := by
  obtain ⟨h1, h2, h3⟩ := h
  unfold dTags encTags
  rw [List.append_assoc, Dec.bind_of (uv_rt _ (by omega)), dTagN_enc r ts [] (by simpa using h1) h3]
  rfl

/-! ### All of it -/
mutual
def Ok (ver : Int) (flex : Bool) : Ty → D → Prop
  | .prim k _, d => okP k d
  | .enum k _ _, d => okP k d
  | .vstr _ _ _, d => okP .nstr d
  | .arr nul _ _ el, d => ∃ b xs, d = .l b xs ∧ xs.length ≤ 32767 ∧ (b = true → xs = [] ∧ nulOf nul ver (-1) = true) ∧ ∀ x ∈ xs, Ok ver flex el x ∧ 1 ≤ (enc ver flex el x).length
  | .struct _ _ _ tg fs, d => ∃ ds ts, d = .r ds ts ∧ OkF ver flex fs ds ∧ ((tg.isSome && flex) = true → okTags ts)
def OkF (ver : Int) (flex : Bool) : Flds → List D → Prop
  | .nil, _ => True
  | .cons c _ _ _ ty rest, ds => (c.ok ver = true → Ok ver flex ty (ds.headD (.n 0))) ∧ OkF ver flex rest ds.tail
end

mutual
def norm (ver : Int) (flex : Bool) : Ty → D → D
  | .vstr lim _ _, d => vD lim ver d
  | .arr _ _ _ el, .l b xs => .l b (xs.map (norm ver flex el))
  | .struct _ _ _ tg fs, .r ds ts => .r (normF ver flex fs ds) (if tg.isSome && flex then ts else [])
  | _, d => d
def normF (ver : Int) (flex : Bool) : Flds → List D → List D
  | .nil, _ => []
  | .cons c _ _ df ty rest, ds => (if c.ok ver then norm ver flex ty (ds.headD (.n 0)) else dfl ty df) :: normF ver flex rest ds.tail
end

theorem rep_enc {f : Dec D} {e : D → List UInt8} {g : D → D} (r : List UInt8) : ∀ (xs : List D), (∀ x ∈ xs, ∀ r, f (e x ++ r) = some (g x, r)) → rep f xs.length (xs.flatMap e ++ r) = some (xs.map g, r)
  | [], _ => rfl
  | x :: xs, h => by
    rw [List.flatMap_cons, List.append_assoc]
    show rep f (xs.length + 1) _ = _
    unfold rep
    rw [Dec.bind_of (h x List.mem_cons_self _), Dec.map_of (rep_enc r xs (fun y hy => h y (List.mem_cons_of_mem _ hy)))]
    rfl

theorem flat_len {e : D → List UInt8} : ∀ {xs : List D}, (∀ x ∈ xs, 1 ≤ (e x).length) → xs.length ≤ (xs.flatMap e).length
  | [], _ => by simp
  | x :: xs, h => by
    have h1 := h x List.mem_cons_self
    have h2 := flat_len (fun y hy => h y (List.mem_cons_of_mem _ hy))
    rw [List.flatMap_cons, List.length_append, List.length_cons]; omega

theorem vD_ok {lim : Nat} {ver : Int} {d : D} (h : okP .nstr d) : okP (vK lim ver) (vD lim ver d) := by
  unfold vK vD
  split
  · rcases h with rfl | ⟨l, rfl, h⟩
    · exact ⟨[], rfl, Nat.zero_le _⟩
    · exact ⟨l, rfl, h⟩
  · exact h
theorem vD_of {lim : Nat} {ver : Int} {d : D} (h : okP (vK lim ver) d) : okP .nstr d ∧ vD lim ver d = d := by
  unfold vK at h
  unfold vD
  split at h
  · rename_i e
    obtain ⟨l, rfl, h⟩ := h
    rw [if_pos e]
    exact ⟨.inr ⟨l, rfl, h⟩, rfl⟩
  · rename_i e
    rw [if_neg e]
    exact ⟨h, rfl⟩
theorem vNul_of {nul : Option Nat} {ver : Int} (h : nulOf nul ver (-1) = true) : vNul nul ver = true := by
  unfold nulOf at h
  cases nul with
  | none => rfl
  | some k =>
    simp only [Bool.not_eq_true', Bool.or_eq_false_iff, decide_eq_false_iff_not] at h
    cases k with
    | zero => rfl
    | succ k => unfold vNul; exact decide_eq_true (by have := h.1; omega)
theorem nulOf_zero (nul : Option Nat) (ver : Int) : nulOf nul ver 0 = false := by
  unfold nulOf; cases nul <;> simp

mutual
theorem rt (ver : Int) (flex : Bool) : ∀ (ty : Ty) (d : D) (r : List UInt8), Ok ver flex ty d → dec ver flex ty (enc ver flex ty d ++ r) = some (norm ver flex ty d, r)
  | .prim k _, d, r, h => by unfold Ok at h; unfold dec enc norm; exact rtP r h
  | .enum k _ _, d, r, h => by unfold Ok at h; unfold dec enc norm; exact rtP r h
  | .vstr _ _ _, d, r, h => by unfold Ok at h; unfold dec enc norm; exact rtP r (vD_ok h)
  | .arr nul _ _ el, d, r, h => by
    unfold Ok at h
    obtain ⟨b, xs, rfl, hn, hb, hx⟩ := h
    unfold dec enc norm
    cases b with
    | true =>
      obtain ⟨rfl, hnul⟩ := hb rfl
      simp only [vNul_of hnul, Bool.and_self, if_true]
      rw [Dec.bind_of (dALen_null r), if_pos (by omega), hnul]; rfl
    | false =>
      simp only [Bool.false_and, Bool.false_eq_true, if_false]
      rw [List.append_assoc, Dec.bind_of (dALen_cnt _ hn (by have := flat_len (fun x h => (hx x h).2); rw [List.length_append]; omega))]
      by_cases h0 : xs.length = 0
      · have e0 : xs = [] := List.eq_nil_of_length_eq_zero h0
        subst e0
        rw [if_pos (by simp)]
        simp [Dec.pure, nulOf_zero]
      · rw [if_neg (by omega), show ((xs.length : Nat) : Int).toNat = xs.length from by omega]
        rw [Dec.map_of (rep_enc (f := dec ver flex el) (g := norm ver flex el) r xs (fun x h r => rt ver flex el x r (hx x h).1))]
  | .struct _ _ _ tg fs, d, r, h => by
    unfold Ok at h
    obtain ⟨ds, ts, rfl, h1, h2⟩ := h
    unfold dec enc norm
    rw [List.append_assoc, Dec.bind_of (rtF ver flex fs ds _ h1)]
    cases hf : (tg.isSome && flex) with
    | true => simp only [if_true]; rw [Dec.map_of (dTags_enc r (h2 hf))]
    | false => simp only [Bool.false_eq_true, if_false, List.nil_append]; rfl
theorem rtF (ver : Int) (flex : Bool) : ∀ (fs : Flds) (ds : List D) (r : List UInt8), OkF ver flex fs ds → decF ver flex fs (encF ver flex fs ds ++ r) = some (normF ver flex fs ds, r)
  | .nil, ds, r, _ => by unfold decF encF normF; rfl
  | .cons c _ _ df ty rest, ds, r, h => by
    unfold OkF at h
    unfold decF encF normF
    cases hc : c.ok ver with
    | true =>
      simp only [if_true]
      rw [List.append_assoc, Dec.bind_of (rt ver flex ty _ _ (h.1 hc)), Dec.map_of (rtF ver flex rest _ r h.2)]
    | false =>
      simp only [Bool.false_eq_true, if_false, List.nil_append]
      rw [Dec.bind_of (show Dec.pure (dfl ty df) _ = some (dfl ty df, _) from rfl), Dec.map_of (rtF ver flex rest _ r h.2)]
end

mutual
theorem enc_norm (ver : Int) (flex : Bool) : ∀ (ty : Ty) (d : D), enc ver flex ty (norm ver flex ty d) = enc ver flex ty d
  | .prim k _, d => by unfold norm; rfl
  | .enum k _ _, d => by unfold norm; rfl
  | .vstr lim _ _, d => by
    unfold norm enc
    have : vD lim ver (vD lim ver d) = vD lim ver d := by
      unfold vD
      split
      · cases d with
        | s o => cases o <;> rfl
        | _ => rfl
      · rfl
    rw [this]
  | .arr nul _ _ el, d => by
    cases d <;> unfold norm <;> try rfl
    rename_i b xs
    unfold enc
    rw [List.length_map, List.flatMap_map]
    have : (fun a => enc ver flex el (norm ver flex el a)) = enc ver flex el := funext fun a => enc_norm ver flex el a
    rw [this]
  | .struct _ _ _ tg fs, d => by
    cases d <;> unfold norm <;> try rfl
    rename_i ds ts
    unfold enc
    rw [encF_norm ver flex fs ds]
    cases hf : (tg.isSome && flex) <;> simp
theorem encF_norm (ver : Int) (flex : Bool) : ∀ (fs : Flds) (ds : List D), encF ver flex fs (normF ver flex fs ds) = encF ver flex fs ds
  | .nil, ds => by unfold normF encF; rfl
  | .cons c _ _ df ty rest, ds => by
    unfold normF encF
    simp only [List.headD_cons, List.tail_cons]
    rw [encF_norm ver flex rest ds.tail]
    cases hc : c.ok ver with
    | true => simp only [if_true]; rw [enc_norm ver flex ty]
    | false => simp
end

/-- A whole message: what may be said is read as it was said. -/
def OkTop (p : Plan) (ver : Int) (ds : List D) (ts : List (Nat × List UInt8)) : Prop := OkF ver (p.flex ver) p.fs ds ∧ ((p.tg.isSome && p.flex ver) = true → okTags ts)

theorem rtTop {p : Plan} {ver : Int} {ds : List D} {ts : List (Nat × List UInt8)} (r : List UInt8) (h : OkTop p ver ds ts) :
    decTop p ver (encTop p ver ds ts ++ r) = some ((normF ver (p.flex ver) p.fs ds, if p.tg.isSome && p.flex ver then ts else []), r) := by
  unfold decTop encTop
  rw [List.append_assoc, Dec.bind_of (rtF ver _ p.fs ds _ h.1)]
  cases hf : (p.tg.isSome && p.flex ver) with
  | true => simp only [if_true]; rw [Dec.map_of (dTags_enc r (h.2 hf))]
  | false => simp only [Bool.false_eq_true, if_false, List.nil_append]; rfl

theorem encTop_norm (p : Plan) (ver : Int) (ds : List D) (ts : List (Nat × List UInt8)) :
    encTop p ver (normF ver (p.flex ver) p.fs ds) (if p.tg.isSome && p.flex ver then ts else []) = encTop p ver ds ts := by
  unfold encTop
  rw [encF_norm]
  cases hf : (p.tg.isSome && p.flex ver) <;> simp

/-- What is cut short is not read. -/
theorem cutTop {p : Plan} {ver : Int} {ds : List D} {ts : List (Nat × List UInt8)} (h : OkTop p ver ds ts) {l m : List UInt8} (hl : encTop p ver ds ts = l ++ m) (hm : m ≠ []) : decTop p ver l = none := by
  cases hd : decTop p ver l with
  | none => rfl
  | some q =>
    obtain ⟨x, r⟩ := q
    have h1 := Ext.decTop p ver l x r m hd
    have h2 := rtTop (r := []) h
    rw [List.append_nil, hl, h1] at h2
    simp only [Option.some.injEq, Prod.mk.injEq] at h2
    have := (List.append_eq_nil_iff.1 h2.2).2
    exact absurd this hm
end Go.Kx
namespace Go.Kx
open Go.RowKit
set_option linter.unusedSimpArgs false
set_option linter.unusedVariables false

theorem takeN_some {k : Nat} {l x r : List UInt8} (h : takeN k l = some (x, r)) : x.length = k ∧ x.length + r.length = l.length := by
  unfold takeN at h
  split at h
  · rename_i hk
    simp only [Option.some.injEq, Prod.mk.injEq] at h
    obtain ⟨rfl, rfl⟩ := h
    simp only [List.length_take, List.length_drop]; omega
  · simp at h

theorem beVal_lt : ∀ (l : List UInt8), beVal l < 256 ^ l.length := by
  intro l
  induction h : l.length generalizing l with
  | zero => have := List.eq_nil_of_length_eq_zero h; subst this; simp [beVal]
  | succ n ih =>
    have hne : l ≠ [] := by intro e; subst e; simp at h
    have e := List.dropLast_concat_getLast hne
    have h2 := ih l.dropLast (by rw [List.length_dropLast]; omega)
    have h3 : (l.getLast hne).toNat < 256 := (l.getLast hne).toNat_lt
    rw [← e, beVal_snoc, Nat.pow_succ]
    omega

theorem dNat_some {k n : Nat} {l r : List UInt8} (h : dNat k l = some (n, r)) : n < 256 ^ k ∧ k + r.length = l.length := by
  unfold dNat at h
  obtain ⟨x, h1, rfl⟩ := Dec.map_some.1 h
  obtain ⟨h2, h3⟩ := takeN_some h1
  have := beVal_lt x
  rw [h2] at this
  exact ⟨this, by omega⟩

theorem dInt_some {k : Nat} {n : Int} {l r : List UInt8} (hk : k = 1 ∨ k = 2 ∨ k = 4 ∨ k = 8) (h : dInt k l = some (n, r)) : -((256 ^ k / 2 : Nat) : Int) ≤ n ∧ n < ((256 ^ k / 2 : Nat) : Int) ∧ k + r.length = l.length := by
  unfold dInt at h
  obtain ⟨x, h1, rfl⟩ := Dec.map_some.1 h
  obtain ⟨h2, h3⟩ := dNat_some h1
  refine ⟨?_, ?_, h3⟩ <;> unfold sgn <;> rcases hk with rfl | rfl | rfl | rfl <;> simp only [Nat.reducePow, Nat.reduceDiv] at h2 ⊢ <;> split <;> omega

theorem uvb_len1 (j n : Nat) : 1 ≤ (uvb j n).length := by
  cases j <;> simp only [uvb] <;> (try split) <;> simp

theorem dUvb_some : ∀ (k : Nat) (l r : List UInt8) (n : Nat), dUvb k l = some (n, r) → n < 16 * 128 ^ k ∧ ∀ j, (uvb j n).length + r.length ≤ l.length
  | _, [], r, n, h => by simp [dUvb] at h
  | 0, b :: l, r, n, h => by
    simp only [dUvb] at h
    split at h
    · rename_i hb
      simp only [Option.some.injEq, Prod.mk.injEq] at h
      obtain ⟨rfl, rfl⟩ := h
      refine ⟨by simp; omega, fun j => ?_⟩
      have : (uvb j b.toNat).length = 1 := by
        cases j with
        | zero => rfl
        | succ j => rw [uvb, if_pos (by omega)]; rfl
      rw [this, List.length_cons]; omega
    · simp at h
  | k + 1, b :: l, r, n, h => by
    simp only [dUvb] at h
    split at h
    · rename_i hb
      simp only [Option.some.injEq, Prod.mk.injEq] at h
      obtain ⟨rfl, rfl⟩ := h
      refine ⟨?_, fun j => ?_⟩
      · have : 1 ≤ 128 ^ k := Nat.one_le_pow _ _ (by omega)
        rw [Nat.pow_succ]; omega
      · have : (uvb j b.toNat).length = 1 := by cases j <;> simp [uvb, hb]
        rw [this, List.length_cons]; omega
    · cases h1 : dUvb k l with
      | none => simp [h1] at h
      | some p =>
        obtain ⟨m, r'⟩ := p
        simp only [h1, Option.some.injEq, Prod.mk.injEq] at h
        obtain ⟨rfl, rfl⟩ := h
        obtain ⟨h2, h3⟩ := dUvb_some k l r' m h1
        refine ⟨by rw [Nat.pow_succ]; omega, fun j => ?_⟩
        cases j with
        | zero => have := h3 0; simp only [uvb, List.length_cons, List.length_nil] at this ⊢; omega
        | succ j =>
          by_cases hn : b.toNat % 128 + 128 * m < 128
          · have := h3 0
            simp only [uvb, if_pos hn, List.length_cons, List.length_nil] at this ⊢; omega
          · have := h3 j
            rw [uvb, if_neg hn, show (b.toNat % 128 + 128 * m) / 128 = m from by omega]
            simp only [List.length_cons]; omega

theorem dUv_some {l r : List UInt8} {n : Nat} (h : dUv l = some (n, r)) : n < 4294967296 ∧ (uv n).length + r.length ≤ l.length := by
  obtain ⟨h1, h2⟩ := dUvb_some 4 l r n h
  exact ⟨by simpa using h1, h2 9⟩

theorem dSpan_some {s : Int} {l x r : List UInt8} (h : dSpan s l = some (x, r)) : 0 ≤ s ∧ s = (x.length : Nat) ∧ x.length + r.length = l.length := by
  unfold dSpan at h
  split at h
  · simp at h
  · obtain ⟨h1, h2⟩ := takeN_some h
    exact ⟨by omega, by omega, h2⟩

theorem cntNull_len (flex : Bool) (k : Nat) : (cntNull flex k).length = if flex then 1 else k := by
  cases flex
  · simp [cntNull, fix_len]
  · rfl

theorem dLen_some {flex : Bool} {k : Nat} {l r : List UInt8} {x : Int} (hk : k = 2 ∨ k = 4) (h : dLen flex k l = some (x, r)) :
    (cntNull flex k).length + r.length ≤ l.length ∧ (0 ≤ x → (cnt flex k x.toNat).length + r.length ≤ l.length) := by
  cases flex
  · simp only [dLen, Bool.false_eq_true, if_false] at h
    obtain ⟨_, _, h3⟩ := dInt_some (by omega) h
    rw [cntNull_len]
    refine ⟨by simp only [Bool.false_eq_true, if_false]; omega, fun _ => ?_⟩
    simp only [cnt, Bool.false_eq_true, if_false, fix_len]; omega
  · simp only [dLen, if_true] at h
    obtain ⟨n, h1, rfl⟩ := Dec.map_some.1 h
    obtain ⟨h2, h3⟩ := dUv_some h1
    have hp := uv_pos n
    rw [cntNull_len]
    refine ⟨by simp only [if_true]; omega, fun h0 => ?_⟩
    simp only [cnt, if_true]
    rw [show ((n : Int) - 1).toNat + 1 = n from by omega]
    exact h3

theorem cnt_zero (flex : Bool) (k : Nat) : (cnt flex k 0).length = (cntNull flex k).length := by
  cases flex
  · simp [cnt, cntNull, fix_len]
  · rfl

theorem dP_some {k : PK} {flex : Bool} {l r : List UInt8} {d : D} (h : dP k flex l = some (d, r)) (hl : l.length ≤ 32767) : okP k d ∧ (encP k flex d).length + r.length ≤ l.length := by
  cases k <;> unfold dP at h <;> simp only [okP]
  · obtain ⟨i, h1, rfl⟩ := Dec.map_some.1 h
    obtain ⟨h2, h3, h4⟩ := dInt_some (by omega) h1
    simp only [Nat.reducePow, Nat.reduceDiv] at h2 h3
    exact ⟨⟨i, rfl, by omega, by omega⟩, by show (fix i 1).length + _ ≤ _; rw [fix_len]; omega⟩
  · obtain ⟨i, h1, rfl⟩ := Dec.map_some.1 h
    obtain ⟨h2, h3, h4⟩ := dInt_some (by omega) h1
    simp only [Nat.reducePow, Nat.reduceDiv] at h2 h3
    exact ⟨⟨i, rfl, by omega, by omega⟩, by show (fix i 2).length + _ ≤ _; rw [fix_len]; omega⟩
  · obtain ⟨i, h1, rfl⟩ := Dec.map_some.1 h
    obtain ⟨h2, h3, h4⟩ := dInt_some (by omega) h1
    simp only [Nat.reducePow, Nat.reduceDiv] at h2 h3
    exact ⟨⟨i, rfl, by omega, by omega⟩, by show (fix i 4).length + _ ≤ _; rw [fix_len]; omega⟩
  · obtain ⟨i, h1, rfl⟩ := Dec.map_some.1 h
    obtain ⟨h2, h3, h4⟩ := dInt_some (by omega) h1
    simp only [Nat.reducePow, Nat.reduceDiv] at h2 h3
    exact ⟨⟨i, rfl, by omega, by omega⟩, by show (fix i 8).length + _ ≤ _; rw [fix_len]; omega⟩
  · obtain ⟨i, h1, rfl⟩ := Dec.map_some.1 h
    obtain ⟨h2, h4⟩ := dNat_some h1
    simp only [Nat.reducePow] at h2
    exact ⟨⟨i, rfl, by omega, by omega⟩, by show (fix i 2).length + _ ≤ _; rw [fix_len]; omega⟩
  · obtain ⟨i, h1, rfl⟩ := Dec.map_some.1 h
    obtain ⟨h2, h4⟩ := dNat_some h1
    refine ⟨?_, by show 1 + _ ≤ _; omega⟩
    split
    · exact .inl rfl
    · exact .inr rfl
  · obtain ⟨i, h1, rfl⟩ := Dec.map_some.1 h
    obtain ⟨h2, h4⟩ := dNat_some h1
    simp only [Nat.reducePow] at h2
    exact ⟨⟨i, rfl, by omega, by omega⟩, by show (fix i 8).length + _ ≤ _; rw [fix_len]; omega⟩
  · obtain ⟨x, h1, rfl⟩ := Dec.map_some.1 h
    obtain ⟨h2, h3⟩ := takeN_some h1
    exact ⟨⟨x, rfl, h2⟩, by show x.length + _ ≤ _; omega⟩
  · obtain ⟨n, r', h1, h2⟩ := Dec.bind_some.1 h
    obtain ⟨x, h3, rfl⟩ := Dec.map_some.1 h2
    obtain ⟨g1, g2, g3⟩ := dSpan_some h3
    obtain ⟨g4, g5⟩ := dLen_some (.inl rfl) h1
    have g6 := g5 g1
    rw [show n.toNat = x.length from by omega] at g6
    exact ⟨⟨x, rfl, by omega⟩, by show (cnt flex 2 x.length ++ x).length + _ ≤ _; rw [List.length_append]; omega⟩
  · obtain ⟨n, r', h1, h2⟩ := Dec.bind_some.1 h
    obtain ⟨g4, g5⟩ := dLen_some (.inl rfl) h1
    split at h2
    · simp only [Dec.pure, Option.some.injEq, Prod.mk.injEq] at h2
      obtain ⟨rfl, rfl⟩ := h2
      exact ⟨.inl rfl, g4⟩
    · obtain ⟨x, h3, rfl⟩ := Dec.map_some.1 h2
      obtain ⟨g1, g2, g3⟩ := dSpan_some h3
      have g6 := g5 g1
      rw [show n.toNat = x.length from by omega] at g6
      exact ⟨.inr ⟨x, rfl, by omega⟩, by show (cnt flex 2 x.length ++ x).length + _ ≤ _; rw [List.length_append]; omega⟩
  · obtain ⟨n, r', h1, h2⟩ := Dec.bind_some.1 h
    obtain ⟨g4, g5⟩ := dLen_some (.inr rfl) h1
    split at h2
    · simp only [Dec.pure, Option.some.injEq, Prod.mk.injEq] at h2
      obtain ⟨rfl, rfl⟩ := h2
      refine ⟨⟨[], rfl, by simp⟩, ?_⟩
      show (cnt flex 4 0 ++ []).length + _ ≤ _
      rw [List.append_nil, cnt_zero]; exact g4
    · obtain ⟨x, h3, rfl⟩ := Dec.map_some.1 h2
      obtain ⟨g1, g2, g3⟩ := dSpan_some h3
      have g6 := g5 g1
      rw [show n.toNat = x.length from by omega] at g6
      exact ⟨⟨x, rfl, by omega⟩, by show (cnt flex 4 x.length ++ x).length + _ ≤ _; rw [List.length_append]; omega⟩
  · obtain ⟨n, r', h1, h2⟩ := Dec.bind_some.1 h
    obtain ⟨g4, g5⟩ := dLen_some (.inr rfl) h1
    split at h2
    · simp only [Dec.pure, Option.some.injEq, Prod.mk.injEq] at h2
      obtain ⟨rfl, rfl⟩ := h2
      exact ⟨.inl rfl, g4⟩
    · obtain ⟨x, h3, rfl⟩ := Dec.map_some.1 h2
      obtain ⟨g1, g2, g3⟩ := dSpan_some h3
      have g6 := g5 g1
      rw [show n.toNat = x.length from by omega] at g6
      exact ⟨.inr ⟨x, rfl, by omega⟩, by show (cnt flex 4 x.length ++ x).length + _ ≤ _; rw [List.length_append]; omega⟩

theorem okP_small {k : PK} {d : D} (h : okP k d) : smallP d := by
  cases k <;> simp only [okP] at h
  case bool => rcases h with rfl | rfl <;> trivial
  case uuid => obtain ⟨l, rfl, h1⟩ := h; show l.length ≤ 32767; omega
  case str => obtain ⟨l, rfl, h1⟩ := h; exact h1
  case byt => obtain ⟨l, rfl, h1⟩ := h; exact h1
  case nstr => rcases h with rfl | ⟨l, rfl, h1⟩ <;> first | trivial | exact h1
  case nbyt => rcases h with rfl | ⟨l, rfl, h1⟩ <;> first | trivial | exact h1
  all_goals (obtain ⟨i, rfl, _⟩ := h; trivial)

theorem encP_pos {k : PK} {flex : Bool} {d : D} (h : okP k d) : 1 ≤ (encP k flex d).length := by
  have hc : ∀ (k n : Nat), 1 ≤ k → 1 ≤ (cnt flex k n).length := by
    intro k n hk
    cases flex
    · simp only [cnt, Bool.false_eq_true, if_false, fix_len]; exact hk
    · simp only [cnt, if_true]; exact uv_pos _
  have hn : ∀ k : Nat, 1 ≤ k → 1 ≤ (cntNull flex k).length := by intro k hk; rw [cntNull_len]; split <;> omega
  cases k <;> simp only [okP] at h
  case bool => rcases h with rfl | rfl <;> exact Nat.le_refl 1
  case uuid => obtain ⟨l, rfl, h1⟩ := h; show 1 ≤ l.length; omega
  case str => obtain ⟨l, rfl, h1⟩ := h; show 1 ≤ (cnt flex 2 l.length ++ l).length; rw [List.length_append]; have := hc 2 l.length (by omega); omega
  case byt => obtain ⟨l, rfl, h1⟩ := h; show 1 ≤ (cnt flex 4 l.length ++ l).length; rw [List.length_append]; have := hc 4 l.length (by omega); omega
  case nstr =>
    rcases h with rfl | ⟨l, rfl, h1⟩
    · exact hn 2 (by omega)
    · show 1 ≤ (cnt flex 2 l.length ++ l).length; rw [List.length_append]; have := hc 2 l.length (by omega); omega
  case nbyt =>
    rcases h with rfl | ⟨l, rfl, h1⟩
    · exact hn 4 (by omega)
    · show 1 ≤ (cnt flex 4 l.length ++ l).length; rw [List.length_append]; have := hc 4 l.length (by omega); omega
  case i8 => obtain ⟨i, rfl, _⟩ := h; show 1 ≤ (fix i 1).length; rw [fix_len]; omega
  case i16 => obtain ⟨i, rfl, _⟩ := h; show 1 ≤ (fix i 2).length; rw [fix_len]; omega
  case u16 => obtain ⟨i, rfl, _⟩ := h; show 1 ≤ (fix i 2).length; rw [fix_len]; omega
  case i32 => obtain ⟨i, rfl, _⟩ := h; show 1 ≤ (fix i 4).length; rw [fix_len]; omega
  case i64 => obtain ⟨i, rfl, _⟩ := h; show 1 ≤ (fix i 8).length; rw [fix_len]; omega
  case f64 => obtain ⟨i, rfl, _⟩ := h; show 1 ≤ (fix i 8).length; rw [fix_len]; omega

/-! ### At least one octet -/
mutual
def min1 (ver : Int) (flex : Bool) : Ty → Bool
  | .struct _ _ _ tg fs => (tg.isSome && flex) || min1F ver flex fs
  | _ => true
def min1F (ver : Int) (flex : Bool) : Flds → Bool
  | .nil => false
  | .cons c _ _ _ ty rest => (c.ok ver && min1 ver flex ty) || min1F ver flex rest
end
mutual
def minOk (ver : Int) (flex : Bool) : Ty → Bool
  | .arr _ _ _ el => min1 ver flex el && minOk ver flex el
  | .struct _ _ _ _ fs => minOkF ver flex fs
  | _ => true
def minOkF (ver : Int) (flex : Bool) : Flds → Bool
  | .nil => true
  | .cons c _ _ _ ty rest => (!c.ok ver || minOk ver flex ty) && minOkF ver flex rest
end

theorem cnt_pos (flex : Bool) (n : Nat) : 1 ≤ (cnt flex 4 n).length := by
  cases flex
  · simp only [cnt, Bool.false_eq_true, if_false, fix_len]; omega
  · simp only [cnt, if_true]; exact uv_pos _

mutual
theorem enc_pos (ver : Int) (flex : Bool) : ∀ (ty : Ty) (d : D), min1 ver flex ty = true → Ok ver flex ty d → 1 ≤ (enc ver flex ty d).length
  | .prim k _, d, _, h => by unfold Ok at h; unfold enc; exact encP_pos h
  | .enum k _ _, d, _, h => by unfold Ok at h; unfold enc; exact encP_pos h
  | .vstr _ _ _, d, _, h => by unfold Ok at h; unfold enc; exact encP_pos (vD_ok h)
  | .arr nul _ _ el, d, _, h => by
    unfold Ok at h
    obtain ⟨b, xs, rfl, _⟩ := h
    unfold enc
    split
    · rw [cntNull_len]; split <;> omega
    · rw [List.length_append]; have := cnt_pos flex xs.length; omega
  | .struct _ _ _ tg fs, d, hm, h => by
    unfold Ok at h
    obtain ⟨ds, ts, rfl, h1, _⟩ := h
    unfold enc
    simp only [min1, Bool.or_eq_true] at hm
    rw [List.length_append]
    rcases hm with hm | hm
    · rw [hm]; simp only [if_true]
      unfold encTags; rw [List.length_append]; have := uv_pos ts.length; omega
    · have := encF_pos ver flex fs ds hm h1; omega
theorem encF_pos (ver : Int) (flex : Bool) : ∀ (fs : Flds) (ds : List D), min1F ver flex fs = true → OkF ver flex fs ds → 1 ≤ (encF ver flex fs ds).length
  | .nil, _, hm, _ => by simp [min1F] at hm
  | .cons c _ _ _ ty rest, ds, hm, h => by
    unfold OkF at h
    unfold encF
    simp only [min1F, Bool.or_eq_true, Bool.and_eq_true] at hm
    rw [List.length_append]
    rcases hm with hm | hm
    · rw [hm.1]; simp only [if_true]
      have := enc_pos ver flex ty _ hm.2 (h.1 hm.1); omega
    · have := encF_pos ver flex rest _ hm h.2; omega
end

/-! ### Tags that are read -/
theorem uvb_mono : ∀ (j a b : Nat), a ≤ b → (uvb j a).length ≤ (uvb j b).length
  | 0, _, _, _ => by simp [uvb]
  | j + 1, a, b, h => by
    simp only [uvb]
    by_cases hb : b < 128
    · rw [if_pos hb, if_pos (by omega)]; simp
    · rw [if_neg hb]
      by_cases ha : a < 128
      · rw [if_pos ha]; simp
      · rw [if_neg ha]
        have := uvb_mono j (a / 128) (b / 128) (Nat.div_le_div_right h)
        simp only [List.length_cons]; omega
theorem uv_mono {a b : Nat} (h : a ≤ b) : (uv a).length ≤ (uv b).length := uvb_mono 9 a b h

theorem setTag_mem {t x : Nat × List UInt8} : ∀ {ts : List (Nat × List UInt8)}, x ∈ setTag t ts → x = t ∨ x ∈ ts
  | [], h => by simp only [setTag, List.mem_singleton] at h; exact .inl h
  | y :: ys, h => by
    simp only [setTag] at h
    split at h
    · simp only [List.mem_cons] at h
      rcases h with rfl | h
      · exact .inr List.mem_cons_self
      · rcases setTag_mem h with h | h
        · exact .inl h
        · exact .inr (List.mem_cons_of_mem _ h)
    · split at h
      · simp only [List.mem_cons] at h
        rcases h with rfl | h
        · exact .inl rfl
        · exact .inr (List.mem_cons_of_mem _ h)
      · simp only [List.mem_cons] at h
        rcases h with rfl | rfl | h
        · exact .inl rfl
        · exact .inr List.mem_cons_self
        · exact .inr (List.mem_cons_of_mem _ h)

theorem setTag_sorted {t : Nat × List UInt8} : ∀ {ts : List (Nat × List UInt8)}, ts.Pairwise (fun x y => x.1 < y.1) → (setTag t ts).Pairwise (fun x y => x.1 < y.1)
  | [], _ => by simp [setTag]
  | y :: ys, h => by
    rw [List.pairwise_cons] at h
    simp only [setTag]
    split
    · rename_i h1
      rw [List.pairwise_cons]
      refine ⟨fun z hz => ?_, setTag_sorted h.2⟩
      rcases setTag_mem hz with rfl | hz
      · exact h1
      · exact h.1 z hz
    · split
      · rename_i h1 h2
        rw [List.pairwise_cons]
        exact ⟨fun z hz => by rw [← h2]; exact h.1 z hz, h.2⟩
      · rename_i h1 h2
        rw [List.pairwise_cons, List.pairwise_cons]
        refine ⟨fun z hz => ?_, h⟩
        simp only [List.mem_cons] at hz
        rcases hz with rfl | hz
        · omega
        · have := h.1 z hz; omega

theorem setTag_len {t : Nat × List UInt8} : ∀ {ts : List (Nat × List UInt8)}, (setTag t ts).length ≤ ts.length + 1 ∧ ((setTag t ts).flatMap encTag).length ≤ (ts.flatMap encTag).length + (encTag t).length
  | [] => by simp [setTag]
  | y :: ys => by
    have ih := @setTag_len t ys
    simp only [setTag]
    split
    · simp only [List.length_cons, List.flatMap_cons, List.length_append]; omega
    · split
      · simp only [List.length_cons, List.flatMap_cons, List.length_append]; omega
      · simp only [List.length_cons, List.flatMap_cons, List.length_append]; omega

theorem dTag_some {l r : List UInt8} {t : Nat × List UInt8} (h : dTag l = some (t, r)) (hl : l.length ≤ 32767) : t.1 < 4294967296 ∧ t.2.length ≤ 32767 ∧ (encTag t).length + r.length ≤ l.length ∧ r.length + 1 ≤ l.length := by
  unfold dTag at h
  obtain ⟨k, r1, h1, h⟩ := Dec.bind_some.1 h
  obtain ⟨s, r2, h2, h⟩ := Dec.bind_some.1 h
  obtain ⟨v, h3, rfl⟩ := Dec.map_some.1 h
  obtain ⟨a1, a2⟩ := dUv_some h1
  obtain ⟨b1, b2⟩ := dUv_some h2
  obtain ⟨c1, c2, c3⟩ := dSpan_some h3
  have := uv_pos k
  have e : s = v.length := by omega
  subst e
  refine ⟨a1, by dsimp only; omega, ?_, by omega⟩
  unfold encTag; simp only [List.length_append]; omega

theorem dTagN_some : ∀ (n : Nat) (acc : List (Nat × List UInt8)) (l r : List UInt8) (ts : List (Nat × List UInt8)), dTagN n acc l = some (ts, r) → l.length ≤ 32767 → acc.Pairwise (fun x y => x.1 < y.1) → (∀ t ∈ acc, t.1 < 4294967296 ∧ t.2.length ≤ 32767) →
    ts.Pairwise (fun x y => x.1 < y.1) ∧ (∀ t ∈ ts, t.1 < 4294967296 ∧ t.2.length ≤ 32767) ∧ ts.length ≤ acc.length + n ∧ ts.length + r.length ≤ acc.length + l.length ∧ (ts.flatMap encTag).length + r.length ≤ (acc.flatMap encTag).length + l.length
  | 0, acc, l, r, ts, h, hl, hs, hm => by
    simp only [dTagN, Dec.pure, Option.some.injEq, Prod.mk.injEq] at h
    obtain ⟨rfl, rfl⟩ := h
    exact ⟨hs, hm, by omega, by omega, by omega⟩
  | n + 1, acc, l, r, ts, h, hl, hs, hm => by
    unfold dTagN at h
    obtain ⟨t, r1, h1, h2⟩ := Dec.bind_some.1 h
    obtain ⟨a1, a2, a3, a4⟩ := dTag_some h1 hl
    obtain ⟨b1, b2, b3, b4, b5⟩ := dTagN_some n (setTag t acc) r1 r ts h2 (by omega) (setTag_sorted hs) (fun x hx => by
      rcases setTag_mem hx with rfl | hx
      · exact ⟨a1, a2⟩
      · exact hm x hx)
    have := @setTag_len t acc
    exact ⟨b1, b2, by omega, by omega, by omega⟩

theorem dTags_some {l r : List UInt8} {ts : List (Nat × List UInt8)} (h : dTags l = some (ts, r)) (hl : l.length ≤ 32767) : okTags ts ∧ (encTags ts).length + r.length ≤ l.length := by
  unfold dTags at h
  obtain ⟨n, r1, h1, h2⟩ := Dec.bind_some.1 h
  obtain ⟨a1, a2⟩ := dUv_some h1
  obtain ⟨b1, b2, b3, b4, b5⟩ := dTagN_some n [] r1 r ts h2 (by omega) List.Pairwise.nil (by simp)
  have hu := @uv_mono ts.length n (by simpa using b3)
  simp only [List.length_nil, List.flatMap_nil] at b4 b5
  exact ⟨⟨b1, by omega, b2⟩, by unfold encTags; rw [List.length_append]; omega⟩

/-! ### All of it -/
theorem dALen_some {flex : Bool} {l r : List UInt8} {x : Int} (hl : l.length ≤ 32767) (h : dALen flex l = some (x, r)) :
    x ≤ r.length ∧ (cntNull flex 4).length + r.length ≤ l.length ∧ (0 < x → (cnt flex 4 x.toNat).length + r.length ≤ l.length) := by
  cases flex
  · simp only [dALen, Bool.false_eq_true, if_false] at h
    obtain ⟨y, r', h1, h2⟩ := Dec.bind_some.1 h
    obtain ⟨_, _, h3⟩ := dInt_some (by omega) h1
    unfold atMost at h2
    split at h2
    · simp at h2
    · simp only [Option.some.injEq, Prod.mk.injEq] at h2
      obtain ⟨rfl, rfl⟩ := h2
      rw [cntNull_len]
      exact ⟨by omega, by simp only [Bool.false_eq_true, if_false]; omega, fun _ => by simp only [cnt, Bool.false_eq_true, if_false, fix_len]; omega⟩
  · simp only [dALen, if_true] at h
    obtain ⟨n, r', h1, h2⟩ := Dec.bind_some.1 h
    obtain ⟨a1, a2⟩ := dUv_some h1
    unfold atMost at h2
    split at h2
    · simp at h2
    · simp only [Option.some.injEq, Prod.mk.injEq] at h2
      obtain ⟨rfl, rfl⟩ := h2
      have hp := uv_pos n
      rw [cntNull_len]
      refine ⟨by omega, by simp only [if_true]; omega, fun h0 => ?_⟩
      simp only [cnt, if_true]
      have e : (aLen n).toNat + 1 = n := by
        rename_i hs
        revert h0 hs
        unfold aLen
        by_cases hn : n < 2147483648
        · by_cases h0 : n = 0
          · subst h0; intro _ h; exact absurd h (by decide)
          · rw [wrap_i32 (n := (n : Int)) (by omega) (by omega), wrap_i32 (by omega) (by omega)]; omega
        · have e1 : IntKind.i32.wrap (n : Int) = (n : Int) - 4294967296 := by simp [IntKind.wrap, IntKind.signed, IntKind.bits]; omega
          rw [e1]
          by_cases hm : n = 2147483648
          · subst hm
            have e2 : IntKind.i32.wrap (((2147483648 : Nat) : Int) - 4294967296 - 1) = 2147483647 := by decide
            rw [e2]; intro hs _; omega
          · rw [wrap_i32 (by omega) (by omega)]; omega
      rw [e]; exact a2

theorem rep_some {f : Dec D} {Pd : D → Prop} {e : D → List UInt8} (hf : ∀ l d r, f l = some (d, r) → l.length ≤ 32767 → Pd d ∧ (e d).length + r.length ≤ l.length) : ∀ (n : Nat) (l r : List UInt8) (xs : List D), rep f n l = some (xs, r) → l.length ≤ 32767 →
    (∀ x ∈ xs, Pd x) ∧ (xs.flatMap e).length + r.length ≤ l.length ∧ xs.length = n
  | 0, l, r, xs, h, hl => by
    simp only [rep, Dec.pure, Option.some.injEq, Prod.mk.injEq] at h
    obtain ⟨rfl, rfl⟩ := h
    simp
  | n + 1, l, r, xs, h, hl => by
    unfold rep at h
    obtain ⟨d, r1, h1, h2⟩ := Dec.bind_some.1 h
    obtain ⟨ys, h3, rfl⟩ := Dec.map_some.1 h2
    obtain ⟨a1, a2⟩ := hf _ _ _ h1 hl
    obtain ⟨b1, b2, b3⟩ := rep_some hf n r1 r ys h3 (by omega)
    refine ⟨fun x hx => ?_, by rw [List.flatMap_cons, List.length_append]; omega, by simp [b3]⟩
    simp only [List.mem_cons] at hx
    rcases hx with rfl | hx
    · exact a1
    · exact b1 x hx

theorem dfl_small : (∀ (ty : Ty) (df : Int), Sm okTags ty (dfl ty df)) := by
  intro ty
  refine Ty.rec (motive_1 := fun ty => ∀ df, Sm okTags ty (dfl ty df)) (motive_2 := fun fs => SmF okTags fs (dflF fs)) ?_ ?_ ?_ ?_ ?_ ?_ ?_ ty
  · intro k ty df
    unfold dfl Sm
    cases k <;> first | trivial | (show List.length _ ≤ 32767; simp)
  · intro k ty base df
    unfold dfl Sm; trivial
  · intro lim ty base df
    unfold dfl Sm; trivial
  · intro nul ty ety el _ df
    unfold dfl Sm
    exact ⟨by simp, by simp⟩
  · intro T n df' tg fs ih df
    unfold dfl Sm
    exact ⟨ih, ⟨List.Pairwise.nil, by simp, by simp⟩⟩
  · unfold dflF SmF; trivial
  · intro c i o df ty rest h1 h2
    unfold dflF SmF
    exact ⟨h1 df, h2⟩

mutual
theorem dec_some (ver : Int) (flex : Bool) : ∀ (ty : Ty) (l r : List UInt8) (d : D), minOk ver flex ty = true → dec ver flex ty l = some (d, r) → l.length ≤ 32767 → (Ok ver flex ty d ∧ Sm okTags ty d) ∧ (enc ver flex ty d).length + r.length ≤ l.length
  | .prim k _, l, r, d, _, h, hl => by
    unfold dec at h; unfold Ok enc Sm
    obtain ⟨h1, h2⟩ := dP_some h hl
    exact ⟨⟨h1, okP_small h1⟩, h2⟩
  | .enum k _ _, l, r, d, _, h, hl => by
    unfold dec at h; unfold Ok enc Sm
    obtain ⟨h1, h2⟩ := dP_some h hl
    exact ⟨⟨h1, okP_small h1⟩, h2⟩
  | .vstr _ _ _, l, r, d, _, h, hl => by
    unfold dec at h; unfold Ok enc Sm
    obtain ⟨h1, h2⟩ := dP_some h hl
    obtain ⟨g1, g2⟩ := vD_of h1
    rw [g2]
    exact ⟨⟨g1, okP_small g1⟩, h2⟩
  | .arr nul _ _ el, l, r, d, hm, h, hl => by
    simp only [minOk, Bool.and_eq_true] at hm
    unfold dec at h
    obtain ⟨x, r1, h1, h2⟩ := Dec.bind_some.1 h
    obtain ⟨a1, a2, a3⟩ := dALen_some hl h1
    split at h2
    · rename_i hx
      simp only [Dec.pure, Option.some.injEq, Prod.mk.injEq] at h2
      obtain ⟨rfl, rfl⟩ := h2
      unfold Ok enc Sm
      refine ⟨⟨⟨_, [], rfl, by simp, fun hb => ⟨rfl, ?_⟩, by simp⟩, by simp, by simp⟩, ?_⟩
      · revert hb
        unfold nulOf
        cases nul with
        | none => intro h; exact h
        | some nv =>
          simp only [Bool.not_eq_true', Bool.or_eq_false_iff]
          rintro ⟨g1, g2⟩
          exact ⟨g1, by decide⟩
      · split
        · exact a2
        · simp only [List.length_nil, List.flatMap_nil, List.append_nil]
          rw [cnt_zero]; exact a2
    · rename_i hx
      obtain ⟨xs, h3, rfl⟩ := Dec.map_some.1 h2
      obtain ⟨b1, b2, b3⟩ := rep_some (f := dec ver flex el) (Pd := fun d => Ok ver flex el d ∧ Sm okTags el d) (e := enc ver flex el) (fun l d r h hl => dec_some ver flex el l r d hm.2 h hl) _ r1 r xs h3 (by omega)
      have hxn : xs.length = x.toNat := b3
      refine ⟨⟨?_, ?_⟩, ?_⟩
      · rw [Ok]; exact ⟨_, xs, rfl, by omega, by simp, fun y hy => ⟨(b1 y hy).1, enc_pos ver flex el y hm.1 (b1 y hy).1⟩⟩
      · rw [Sm]; exact ⟨by omega, fun y hy => (b1 y hy).2⟩
      rw [enc]
      simp only [Bool.false_and, Bool.false_eq_true, if_false, List.length_append]
      have := a3 (by omega)
      rw [hxn]; omega
  | .struct _ _ _ tg fs, l, r, d, hm, h, hl => by
    simp only [minOk] at hm
    unfold dec at h
    obtain ⟨ds, r1, h1, h2⟩ := Dec.bind_some.1 h
    obtain ⟨⟨a1, a2⟩, a3⟩ := decF_some ver flex fs l r1 ds hm h1 hl
    split at h2
    · rename_i hf
      obtain ⟨ts, h3, rfl⟩ := Dec.map_some.1 h2
      obtain ⟨b1, b2⟩ := dTags_some h3 (by omega)
      unfold Ok enc Sm
      refine ⟨⟨⟨ds, ts, rfl, a1, fun _ => b1⟩, a2, b1⟩, ?_⟩
      rw [hf]; simp only [if_true, List.length_append]; omega
    · rename_i hf
      simp only [Dec.pure, Option.some.injEq, Prod.mk.injEq] at h2
      obtain ⟨rfl, rfl⟩ := h2
      unfold Ok enc Sm
      refine ⟨⟨⟨ds, [], rfl, a1, fun h => absurd h hf⟩, a2, ⟨List.Pairwise.nil, by simp, by simp⟩⟩, ?_⟩
      rw [if_neg hf, List.append_nil]; exact a3
theorem decF_some (ver : Int) (flex : Bool) : ∀ (fs : Flds) (l r : List UInt8) (ds : List D), minOkF ver flex fs = true → decF ver flex fs l = some (ds, r) → l.length ≤ 32767 → (OkF ver flex fs ds ∧ SmF okTags fs ds) ∧ (encF ver flex fs ds).length + r.length ≤ l.length
  | .nil, l, r, ds, _, h, hl => by
    unfold decF at h; rw [OkF, encF, SmF]
    simp only [Dec.pure, Option.some.injEq, Prod.mk.injEq] at h
    obtain ⟨rfl, rfl⟩ := h
    exact ⟨⟨trivial, trivial⟩, by simp⟩
  | .cons c _ _ df ty rest, l, r, ds, hm, h, hl => by
    simp only [minOkF, Bool.and_eq_true, Bool.or_eq_true, Bool.not_eq_true'] at hm
    unfold decF at h
    obtain ⟨d, r1, h1, h2⟩ := Dec.bind_some.1 h
    obtain ⟨ds', h3, rfl⟩ := Dec.map_some.1 h2
    rw [OkF, encF, SmF]
    simp only [List.headD_cons, List.tail_cons]
    cases hc : c.ok ver with
    | true =>
      rw [hc] at h1 hm
      simp only [if_true] at h1 ⊢
      obtain ⟨⟨a1, a2⟩, a3⟩ := dec_some ver flex ty l r1 d (by simpa using hm.1) h1 hl
      obtain ⟨⟨b1, b2⟩, b3⟩ := decF_some ver flex rest r1 r ds' hm.2 h3 (by omega)
      exact ⟨⟨⟨fun _ => a1, b1⟩, a2, b2⟩, by rw [List.length_append]; omega⟩
    | false =>
      rw [hc] at h1
      simp only [Bool.false_eq_true, if_false, Dec.pure, Option.some.injEq, Prod.mk.injEq] at h1 ⊢
      obtain ⟨rfl, rfl⟩ := h1
      obtain ⟨⟨b1, b2⟩, b3⟩ := decF_some ver flex rest l r ds' hm.2 h3 hl
      exact ⟨⟨⟨(fun h => by cases h), b1⟩, dfl_small ty df, b2⟩, by simpa using b3⟩
end

/-- What is said and small stays so. -/
theorem Ok.small (ver : Int) (flex : Bool) : (∀ (ty : Ty) (d : D), Ok ver flex ty d → Sm okTags ty (norm ver flex ty d)) := by
  intro ty
  refine Ty.rec (motive_1 := fun ty => ∀ d, Ok ver flex ty d → Sm okTags ty (norm ver flex ty d)) (motive_2 := fun fs => ∀ ds, OkF ver flex fs ds → SmF okTags fs (normF ver flex fs ds)) ?_ ?_ ?_ ?_ ?_ ?_ ?_ ty
  · intro k ty d h
    unfold Ok at h; unfold Sm norm; exact okP_small h
  · intro k ty base d h
    unfold Ok at h; unfold Sm norm; exact okP_small h
  · intro lim ty base d h
    unfold Ok at h; unfold Sm norm
    exact okP_small (vD_ok (lim := lim) (ver := ver) h)
  · intro nul ty ety el ih d h
    unfold Ok at h
    obtain ⟨b, xs, rfl, h1, _, h2⟩ := h
    unfold norm Sm
    refine ⟨by simpa using h1, fun y hy => ?_⟩
    simp only [List.mem_map] at hy
    obtain ⟨x, hx, rfl⟩ := hy
    exact ih x (h2 x hx).1
  · intro T n df tg fs ih d h
    unfold Ok at h
    obtain ⟨ds, ts, rfl, h1, h2⟩ := h
    unfold norm Sm
    refine ⟨ih ds h1, ?_⟩
    split
    · rename_i hf; exact h2 hf
    · exact ⟨List.Pairwise.nil, by simp, by simp⟩
  · intro ds h
    unfold normF SmF; trivial
  · intro c i o df ty rest h1 h2 ds h
    unfold OkF at h
    unfold normF SmF
    simp only [List.headD_cons, List.tail_cons]
    refine ⟨?_, h2 _ h.2⟩
    split
    · rename_i hc; exact h1 _ (h.1 hc)
    · exact dfl_small ty df

theorem OkF.small (ver : Int) (flex : Bool) : ∀ (fs : Flds) (ds : List D), OkF ver flex fs ds → SmF okTags fs (normF ver flex fs ds)
  | .nil, ds, _ => by unfold normF SmF; trivial
  | .cons c _ _ df ty rest, ds, h => by
    unfold OkF at h
    unfold normF SmF
    simp only [List.headD_cons, List.tail_cons]
    refine ⟨?_, OkF.small ver flex rest _ h.2⟩
    split
    · rename_i hc; exact Ok.small ver flex ty _ (h.1 hc)
    · exact dfl_small ty df

/-- What is read of at most 32767 octets. -/
theorem decTop_some {p : Plan} {ver : Int} {l r : List UInt8} {ds : List D} {ts : List (Nat × List UInt8)} (hm : minOkF ver (p.flex ver) p.fs = true) (h : decTop p ver l = some ((ds, ts), r)) (hl : l.length ≤ 32767) :
    OkTop p ver ds ts ∧ SmF okTags p.fs ds ∧ okTags ts ∧ (encTop p ver ds ts).length ≤ l.length := by
  unfold decTop at h
  obtain ⟨ds', r1, h1, h2⟩ := Dec.bind_some.1 h
  obtain ⟨⟨a1, a2⟩, a3⟩ := decF_some ver _ p.fs l r1 ds' hm h1 hl
  split at h2
  · rename_i hf
    obtain ⟨ts', h3, h4⟩ := Dec.map_some.1 h2
    simp only [Prod.mk.injEq] at h4
    obtain ⟨rfl, rfl⟩ := h4
    obtain ⟨b1, b2⟩ := dTags_some h3 (by omega)
    refine ⟨⟨a1, fun _ => b1⟩, a2, b1, ?_⟩
    unfold encTop; rw [hf]; simp only [if_true, List.length_append]; omega
  · rename_i hf
    simp only [Dec.pure, Option.some.injEq, Prod.mk.injEq] at h2
    obtain ⟨⟨rfl, rfl⟩, rfl⟩ := h2
    refine ⟨⟨a1, fun h => absurd h hf⟩, a2, ⟨List.Pairwise.nil, by simp, by simp⟩, ?_⟩
    unfold encTop; rw [if_neg hf, List.append_nil]; omega

/-- What is read and written is read again, and written the same. -/
theorem anyTop {p : Plan} {ver : Int} {l r : List UInt8} {ds : List D} {ts : List (Nat × List UInt8)} (hm : minOkF ver (p.flex ver) p.fs = true) (h : decTop p ver l = some ((ds, ts), r)) (hl : l.length ≤ 32767) :
    ∃ ds' ts', decTop p ver (encTop p ver ds ts) = some ((ds', ts'), []) ∧ encTop p ver ds' ts' = encTop p ver ds ts := by
  obtain ⟨h1, _⟩ := decTop_some hm h hl
  have := rtTop (r := []) h1
  rw [List.append_nil] at this
  exact ⟨_, _, this, encTop_norm p ver ds ts⟩
end Go.Kx
namespace Go.Kx
open Go.RowKit
set_option linter.unusedSimpArgs false
set_option linter.unusedVariables false

/-- The closed facts but for those that speak of the whole program. -/
def rowFacts (P : Program) (f : FuncId) (fn : Func) (s : ChangeSpec) (c : OpenClaim) : Bool :=
  c.wf (OpenSpec.ofChange s) && true && true &&
  fn.params.all (P.readableRec ·) && namedTie P c.named s.vars &&
  (c.stops == []) && true && (c.knobs == []) && true &&
  (c.inPlace == P.inPlace f) && (c.unfollowed == P.unfollowed f) && (c.recurses == P.recurses f) && (c.named == P.varsNamed f) &&
  (c.maps == (fn.params.toList ++ s.plain.varTypes P).any (P.mapsRec ·)) && (c.ifaces == (fn.params.toList ++ s.plain.varTypes P).any (P.ifacesRec ·)) && (c.mapsOut == P.mapsAmong fn.resultTypes.toList) &&
  (c.loops == (fn.params.toList ++ s.plain.varTypes P).any (P.loopsFrom ·)) && (c.wideKeys == (fn.params.toList ++ s.plain.varTypes P ++ fn.resultTypes.toList).any (P.wideKeysFrom ·)) &&
  s.vars.all (P.varReadable ·) && fn.resultTypes.all (fun t => P.readableRec t && decide (t < P.types.size)) && (c.ifacesOut == fn.resultTypes.toList.any (P.ifacesRec ·)) && (c.loopsOut == fn.resultTypes.toList.any (P.loopsFrom ·)) && (c.plainKeys == P.plainKeys) && c.shortTexts.isNone && true && true && true && true && (c.kinds == (if c.domain.isEmpty then [] else fn.params.toList.map fun t => match P.underlying t with | some (.int k) => some k | _ => none)) && (c.pinned == c.pinnedBy) &&
  (c.veiled == (fn.params.toList ++ s.plain.varTypes P ++ fn.resultTypes.toList).any (P.veiledRec ·)) && c.veiledFits P fn.params.toList (fn.params.toList ++ s.plain.varTypes P ++ fn.resultTypes.toList)

theorem joined_of {P : Program} {f : FuncId} {fn : Func} {s : ChangeSpec} {c : OpenClaim} (h : rowFacts P f fn s c = true) (h1 : laidOutB P = true) (h2 : mapsRowed P = true) (h3 : (P.stops == []) = true) (h4 : (P.stopKnobs == []) = true)
    (h5 : P.stopsHeard = true) (h6 : P.mayEnter = true) (h7 : (c.lifted == P.liftsFinal) = true) (h8 : (P.make == some c.make) = true) : joinedFacts P f fn s c = true := by
  unfold joinedFacts
  rw [h1, h2, h3, h4, h5, h6, h7, h8]
  exact h
end Go.Kx
namespace Go.Kx
open Go.RowKit
set_option linter.unusedSimpArgs false
set_option linter.unusedVariables false
set_option linter.unusedSectionVars false

def wrapS (k : Nat) (n : Int) : Int := sgn k (n % (256 ^ k : Int)).toNat

theorem fix_wrapS {k : Nat} (hk : k = 1 ∨ k = 2 ∨ k = 4 ∨ k = 8) (n : Int) : fix (wrapS k n) k = fix n k := by
  unfold fix wrapS sgn
  congr 1
  rcases hk with rfl | rfl | rfl | rfl
  · simp only [Nat.pow_one, Int.pow_one]; split <;> omega
  · simp only [show (256 : Nat) ^ 2 = 65536 from rfl, show (256 : Int) ^ 2 = 65536 from rfl]; split <;> omega
  · simp only [show (256 : Nat) ^ 4 = 4294967296 from rfl, show (256 : Int) ^ 4 = 4294967296 from rfl]; split <;> omega
  · simp only [show (256 : Nat) ^ 8 = 18446744073709551616 from rfl, show (256 : Int) ^ 8 = 18446744073709551616 from rfl]; split <;> omega

theorem fix_mod (n : Int) (k : Nat) : fix (n % (256 ^ k : Int)) k = fix n k := by
  unfold fix; rw [Int.emod_emod]

def mP (k : PK) (kind nul : Int) : Bool :=
  match k with
  | .i8 => sameInt kind 1
  | .i16 => sameInt kind 2
  | .u16 => sameInt kind 5
  | .i32 => sameInt kind 3
  | .i64 => sameInt kind 4
  | .f64 => sameInt kind 6
  | .bool => sameInt kind 0
  | .uuid => sameInt kind 7
  | .str => sameInt kind 8 && decide (nul < 0)
  | .nstr => sameInt kind 8 && decide (0 ≤ nul)
  | .byt => sameInt kind 9 && decide (nul < 0)
  | .nbyt => sameInt kind 9 && decide (0 ≤ nul)

def toP (ver : Int) (k : PK) (nul : Int) (t : Tr) : D :=
  match k with
  | .i8 => .n (wrapS 1 t.n)
  | .i16 => .n (wrapS 2 t.n)
  | .u16 => .n (t.n % (256 ^ 2 : Int))
  | .i32 => .n (wrapS 4 t.n)
  | .i64 => .n (wrapS 8 t.n)
  | .f64 => .n (t.n % (256 ^ 8 : Int))
  | .bool => .n (t.n % 2)
  | .uuid => .s (some ((t.s ++ List.replicate 16 0).take 16))
  | .str | .byt => .s (some (t.s.take most))
  | .nstr | .nbyt => if sNull nul ver t.null then .s none else .s (some (t.s.take most))

theorem sNull_neg {nul ver : Int} (h : nul < 0) (b : Bool) : sNull nul ver b = false := by
  unfold sNull
  rw [decide_eq_false (by omega)]; simp

theorem take_most (l : List UInt8) : (l.take most).length ≤ 32767 := by rw [List.length_take]; unfold most; omega

theorem toP_ok {ver : Int} {k : PK} {nul : Int} {t : Tr} : okP k (toP ver k nul t) := by
  cases k <;> simp only [okP, toP]
  · refine ⟨_, rfl, ?_⟩; unfold wrapS sgn; simp only [Nat.pow_one, Int.pow_one]; split <;> omega
  · refine ⟨_, rfl, ?_⟩; unfold wrapS sgn; simp only [show (256 : Nat) ^ 2 = 65536 from rfl, show (256 : Int) ^ 2 = 65536 from rfl]; split <;> omega
  · refine ⟨_, rfl, ?_⟩; unfold wrapS sgn; simp only [show (256 : Nat) ^ 4 = 4294967296 from rfl, show (256 : Int) ^ 4 = 4294967296 from rfl]; split <;> omega
  · refine ⟨_, rfl, ?_⟩; unfold wrapS sgn; simp only [show (256 : Nat) ^ 8 = 18446744073709551616 from rfl, show (256 : Int) ^ 8 = 18446744073709551616 from rfl]; split <;> omega
  · refine ⟨_, rfl, ?_⟩; simp only [show (256 : Int) ^ 2 = 65536 from rfl]; omega
  · rcases Int.emod_two_eq t.n with h | h <;> rw [h] <;> simp
  · refine ⟨_, rfl, ?_⟩; simp only [show (256 : Int) ^ 8 = 18446744073709551616 from rfl]; omega
  · exact ⟨_, rfl, by simp⟩
  · exact ⟨_, rfl, take_most _⟩
  · split
    · exact .inl rfl
    · exact .inr ⟨_, rfl, take_most _⟩
  · exact ⟨_, rfl, take_most _⟩
  · split
    · exact .inl rfl
    · exact .inr ⟨_, rfl, take_most _⟩

theorem toP_enc {ver : Int} {k : PK} {kind nul : Int} {t : Tr} {flex : Bool} {part : Tr → List UInt8} (h : mP k kind nul = true) : encP k flex (toP ver k nul t) = sVal kind part (sNull nul ver t.null) flex t := by
  have fx : ∀ (n : Int) (k : Nat), (k = 1 ∨ k = 2 ∨ k = 4 ∨ k = 8) → fix (wrapS k n) k = fix n k := fun n k hk => fix_wrapS hk n
  cases k <;> simp only [mP, Bool.and_eq_true, decide_eq_true_eq] at h
  · rw [sameInt_eq h]; show fix (wrapS 1 t.n) 1 = fix t.n 1; exact fx _ _ (by omega)
  · rw [sameInt_eq h]; show fix (wrapS 2 t.n) 2 = fix t.n 2; exact fx _ _ (by omega)
  · rw [sameInt_eq h]; show fix (wrapS 4 t.n) 4 = fix t.n 4; exact fx _ _ (by omega)
  · rw [sameInt_eq h]; show fix (wrapS 8 t.n) 8 = fix t.n 8; exact fx _ _ (by omega)
  · rw [sameInt_eq h]; show fix (t.n % (256 ^ 2 : Int)) 2 = fix t.n 2; exact fix_mod _ _
  · rw [sameInt_eq h]
    show [if t.n % 2 = 0 then (0 : UInt8) else 1] = [UInt8.ofNat (t.n % 2).toNat]
    rcases Int.emod_two_eq t.n with h | h <;> rw [h] <;> rfl
  · rw [sameInt_eq h]; show fix (t.n % (256 ^ 8 : Int)) 8 = fix t.n 8; exact fix_mod _ _
  · rw [sameInt_eq h]; rfl
  · rw [sameInt_eq h.1, sNull_neg h.2]; rfl
  · rw [sameInt_eq h.1]
    cases hn : sNull nul ver t.null
    · simp only [toP, hn, Bool.false_eq_true, if_false]; rfl
    · simp only [toP, hn, if_true]; simp [encP, sVal, sCnt]
  · rw [sameInt_eq h.1, sNull_neg h.2]; rfl
  · rw [sameInt_eq h.1]
    cases hn : sNull nul ver t.null
    · simp only [toP, hn, Bool.false_eq_true, if_false]; rfl
    · simp only [toP, hn, if_true]; simp [encP, sVal, sCnt]

/-! ### Tags -/
def sTagL (t : Tr) : List (Nat × List UInt8) := (sUnk 0 t.u).map fun x => (x.1, x.2.take most)

theorem sTags_enc (flex : Bool) (t : Tr) : sTags flex t = if flex then encTags (sTagL t) else [] := by
  unfold sTags encTags sTagL
  split
  · rw [List.length_map, List.flatMap_map]; rfl
  · rfl

theorem insTag_mem {t x : Nat × List UInt8} : ∀ {ts : List (Nat × List UInt8)}, x ∈ insTag t ts → x = t ∨ x ∈ ts
  | [], h => by simp only [insTag, List.mem_singleton] at h; exact .inl h
  | y :: ys, h => by
    simp only [insTag] at h
    split at h
    · simp only [List.mem_cons] at h
      rcases h with rfl | h
      · exact .inr List.mem_cons_self
      · rcases insTag_mem h with h | h
        · exact .inl h
        · exact .inr (List.mem_cons_of_mem _ h)
    · split at h
      · exact .inr h
      · simp only [List.mem_cons] at h
        rcases h with rfl | rfl | h
        · exact .inl rfl
        · exact .inr List.mem_cons_self
        · exact .inr (List.mem_cons_of_mem _ h)

theorem insTag_sorted {t : Nat × List UInt8} : ∀ {ts : List (Nat × List UInt8)}, ts.Pairwise (fun x y => x.1 < y.1) → (insTag t ts).Pairwise (fun x y => x.1 < y.1)
  | [], _ => by simp [insTag]
  | y :: ys, h => by
    have h0 := h
    rw [List.pairwise_cons] at h
    simp only [insTag]
    split
    · rename_i h1
      rw [List.pairwise_cons]
      refine ⟨fun z hz => ?_, insTag_sorted h.2⟩
      rcases insTag_mem hz with rfl | hz
      · exact h1
      · exact h.1 z hz
    · split
      · exact h0
      · rename_i h1 h2
        rw [List.pairwise_cons]
        refine ⟨fun z hz => ?_, h0⟩
        simp only [List.mem_cons] at hz
        rcases hz with rfl | hz
        · omega
        · have := h.1 z hz; omega

theorem insTag_len {t : Nat × List UInt8} : ∀ {ts : List (Nat × List UInt8)}, (insTag t ts).length ≤ ts.length + 1
  | [] => by simp [insTag]
  | y :: ys => by
    have := @insTag_len t ys
    simp only [insTag]
    split
    · simp only [List.length_cons]; omega
    · split <;> simp

theorem sUnk_fold {least : Nat} : ∀ (l out : List (Nat × List UInt8)), out.Pairwise (fun x y => x.1 < y.1) →
    (l.foldl (fun out t => if t.1 < least then out else insTag t out) out).Pairwise (fun x y => x.1 < y.1) ∧ (l.foldl (fun out t => if t.1 < least then out else insTag t out) out).length ≤ out.length + l.length ∧
    ∀ x ∈ l.foldl (fun out t => if t.1 < least then out else insTag t out) out, x ∈ out ∨ x ∈ l
  | [], out, h => ⟨h, by simp, fun x hx => .inl hx⟩
  | t :: l, out, h => by
    simp only [List.foldl_cons]
    split
    · obtain ⟨h1, h2, h3⟩ := sUnk_fold (least := least) l out h
      exact ⟨h1, by simp only [List.length_cons]; omega, fun x hx => by rcases h3 x hx with h | h; exact .inl h; exact .inr (List.mem_cons_of_mem _ h)⟩
    · obtain ⟨h1, h2, h3⟩ := sUnk_fold (least := least) l (insTag t out) (insTag_sorted h)
      refine ⟨h1, by have := @insTag_len t out; simp only [List.length_cons]; omega, fun x hx => ?_⟩
      rcases h3 x hx with h | h
      · rcases insTag_mem h with rfl | h
        · exact .inr List.mem_cons_self
        · exact .inl h
      · exact .inr (List.mem_cons_of_mem _ h)

/-- Every tag's number fits. -/
def keysOk (u : List (Nat × List UInt8)) : Prop := ∀ x ∈ u, x.1 < 4294967296

theorem sTagL_ok {t : Tr} (h : keysOk t.u) : okTags (sTagL t) := by
  unfold sTagL sUnk
  obtain ⟨h1, h2, h3⟩ := sUnk_fold (least := 0) (t.u.take most) [] List.Pairwise.nil
  refine ⟨?_, ?_, fun x hx => ?_⟩
  · rw [List.pairwise_map]; exact h1
  · rw [List.length_map]; simp only [List.length_nil, List.length_take] at h2; unfold most at h2 ⊢; omega
  · simp only [List.mem_map] at hx
    obtain ⟨y, hy, rfl⟩ := hx
    refine ⟨?_, take_most _⟩
    rcases h3 y hy with h' | h'
    · simp at h'
    · exact h y (List.mem_of_mem_take h')

/-! ### All of it -/
def cM (mx : Nat) (c : Cnd) (fr to : Int) : Bool := (List.range (mx + 1)).all fun v => (c.ok (v : Nat)) == sHas fr to (v : Nat)
def nulM (nul : Option Nat) (fn : Int) : Bool :=
  match nul with
  | none => decide (fn < 0)
  | some nv => sameInt fn nv || decide (fn < 0)

mutual
def mTy (mx : Nat) (fx : Bool) : Ty → Fd → Bool
  | .prim k _, .mk kind _ _ nul _ _ _ _ => mP k kind nul
  | .enum k _ _, .mk kind _ _ nul _ _ _ _ => mP k kind nul
  | .arr nul _ _ el, .mk kind _ _ fn _ _ of sub => sameInt kind 11 && nulM nul fn && mEl mx fx el of sub
  | .vstr _ _ _, _ => false
  | .struct _ _ _ tg fs, .mk kind _ _ nul _ _ _ sub => sameInt kind 10 && decide (nul < 0) && (tg.isSome || !fx) && mF mx fx fs sub
def mEl (mx : Nat) (fx : Bool) : Ty → Int → Fds → Bool
  | .prim k _, of, _ => mP k of (-1)
  | .struct _ _ _ tg fs, of, sub => sameInt of 10 && (tg.isSome || !fx) && mF mx fx fs sub
  | _, _, _ => false
def mF (mx : Nat) (fx : Bool) : Flds → Fds → Bool
  | .nil, .nil => true
  | .cons c _ _ _ ty r, .cons f r' => cM mx c f.fr f.to && mTy mx fx ty f && mF mx fx r r'
  | _, _ => false
end

mutual
def toD (ver : Int) (flex : Bool) : Ty → Fd → Tr → D
  | .prim k _, f, t => toP ver k f.nul t
  | .enum k _ _, f, t => toP ver k f.nul t
  | .vstr _ _ _, _, _ => .n 0
  | .arr _ _ _ el, f, t => .l (sNull f.nul ver t.null) ((if sNull f.nul ver t.null then [] else t.l.take most).map (toE ver flex el f.sub))
  | .struct _ _ _ _ fs, f, t => .r (toF ver flex fs f.sub 0 t) (sTagL t)
def toE (ver : Int) (flex : Bool) : Ty → Fds → Tr → D
  | .prim k _, _, t => toP ver k (-1) t
  | .struct _ _ _ _ fs, sub, t => .r (toF ver flex fs sub 0 t) (sTagL t)
  | _, _, _ => .n 0
def toF (ver : Int) (flex : Bool) : Flds → Fds → Nat → Tr → List D
  | .nil, _, _, _ => []
  | .cons _ _ _ _ ty r, .cons f r', i, t => toD ver flex ty f (t.l.getD i .zero) :: toF ver flex r r' (i + 1) t
  | .cons _ _ _ _ _ _, .nil, _, _ => []
end

theorem cM_at {mx : Nat} {c : Cnd} {fr to : Int} {ver : Int} (h : cM mx c fr to = true) (h0 : 0 ≤ ver) (h1 : ver ≤ mx) : c.ok ver = sHas fr to ver := by
  have := List.all_eq_true.1 h ver.toNat (List.mem_range.2 (by omega))
  rw [beq_iff_eq] at this
  rwa [show ((ver.toNat : Nat) : Int) = ver from by omega] at this

theorem tags_match {fx flex : Bool} {tg : Option (Nat × Nat)} {t : Tr} (h : (tg.isSome || !fx) = true) (hf : flex = true → fx = true) : (if tg.isSome && flex then encTags (sTagL t) else []) = sTags flex t := by
  rw [sTags_enc]
  cases flex
  · simp
  · rw [hf rfl] at h
    simp only [Bool.not_true, Bool.or_false] at h
    simp [h]

section
variable {mx : Nat} {fx : Bool} {ver : Int} {flex : Bool} (h0 : 0 ≤ ver) (h1 : ver ≤ mx) (hf : flex = true → fx = true)
include h0 h1 hf

mutual
theorem toD_enc : ∀ (ty : Ty) (f : Fd) (t : Tr), mTy mx fx ty f = true → enc ver flex ty (toD ver flex ty f t) = sField ver flex f t
  | .prim k _, .mk kind fr to nul tag df of sub, t, hm => by
    have hm' : mP k kind nul = true := hm
    rw [toD, enc]
    rw [show (Fd.mk kind fr to nul tag df of sub).nul = nul from rfl]
    have hk11 : kind ≠ 11 := by intro e; subst e; cases k <;> simp [mP, sameInt] at hm'
    have hk10 : ¬ (kind = 10 ∧ 0 ≤ nul) := by rintro ⟨e, _⟩; subst e; cases k <;> simp [mP, sameInt] at hm'
    rw [sField, if_neg hk11, if_neg hk10]
    exact toP_enc hm'
  | .enum k _ _, .mk kind fr to nul tag df of sub, t, hm => by
    have hm' : mP k kind nul = true := hm
    rw [toD, enc]
    rw [show (Fd.mk kind fr to nul tag df of sub).nul = nul from rfl]
    have hk11 : kind ≠ 11 := by intro e; subst e; cases k <;> simp [mP, sameInt] at hm'
    have hk10 : ¬ (kind = 10 ∧ 0 ≤ nul) := by rintro ⟨e, _⟩; subst e; cases k <;> simp [mP, sameInt] at hm'
    rw [sField, if_neg hk11, if_neg hk10]
    exact toP_enc hm'
  | .vstr .., f, t, hm => by simp [mTy] at hm
  | .arr nul _ _ el, .mk kind fr to fn tag df of sub, t, hm => by
    simp only [mTy, Bool.and_eq_true] at hm
    obtain ⟨⟨hm1, hm2⟩, hm3⟩ := hm
    have hk := sameInt_eq hm1
    subst hk
    rw [toD]
    show enc ver flex _ (D.l (sNull fn ver t.null) ((if sNull fn ver t.null then [] else t.l.take most).map (toE ver flex el sub))) = _
    rw [enc, sField, if_pos rfl]
    cases hn : sNull fn ver t.null with
    | true =>
      have hv : vNul nul ver = true := by
        unfold sNull at hn
        simp only [Bool.and_eq_true, decide_eq_true_eq] at hn
        cases nul with
        | none => rfl
        | some nv =>
          unfold nulM at hm2
          simp only [Bool.or_eq_true, decide_eq_true_eq] at hm2
          have := hm2.resolve_right (by omega)
          have := sameInt_eq this
          subst this
          cases nv with
          | zero => rfl
          | succ k => unfold vNul; exact decide_eq_true (by omega)
      simp [sCnt, hv]
    | false =>
      simp only [Bool.false_and, Bool.false_eq_true, if_false, List.length_map, List.flatMap_map, sCnt]
      congr 1
      have : (fun a => enc ver flex el (toE ver flex el sub a)) = sVal of (fun t => sPlain ver flex sub 0 t ++ sTags flex t) false flex := funext fun a => toE_enc el of sub a hm3
      rw [this]
  | .struct _ _ _ tg fs, .mk kind fr to nul tag df of sub, t, hm => by
    simp only [mTy, Bool.and_eq_true, decide_eq_true_eq] at hm
    obtain ⟨⟨⟨hm1, hm2⟩, hm3⟩, hm4⟩ := hm
    have hk := sameInt_eq hm1
    subst hk
    rw [toD]
    show enc ver flex _ (D.r (toF ver flex fs sub 0 t) (sTagL t)) = _
    rw [enc, toF_enc fs sub 0 t hm4, tags_match hm3 hf, sField, if_neg (show ¬ (10 : Int) = 11 by omega), if_neg (by rintro ⟨_, h⟩; omega)]
    rfl
theorem toE_enc : ∀ (el : Ty) (of : Int) (sub : Fds) (t : Tr), mEl mx fx el of sub = true → enc ver flex el (toE ver flex el sub t) = sVal of (fun t => sPlain ver flex sub 0 t ++ sTags flex t) false flex t
  | .prim k _, of, sub, t, hm => by
    have hm' : mP k of (-1) = true := hm
    rw [toE, enc, toP_enc (ver := ver) (part := fun t => sPlain ver flex sub 0 t ++ sTags flex t) hm', sNull_neg (by omega)]
  | .struct _ _ _ tg fs, of, sub, t, hm => by
    simp only [mEl, Bool.and_eq_true] at hm
    obtain ⟨⟨hm1, hm3⟩, hm4⟩ := hm
    have hk := sameInt_eq hm1
    subst hk
    rw [toE, enc, toF_enc fs sub 0 t hm4, tags_match hm3 hf]
    rfl
  | .enum .., of, sub, t, hm => by simp [mEl] at hm
  | .vstr .., of, sub, t, hm => by simp [mEl] at hm
  | .arr .., of, sub, t, hm => by simp [mEl] at hm
theorem toF_enc : ∀ (fs : Flds) (fds : Fds) (i : Nat) (t : Tr), mF mx fx fs fds = true → encF ver flex fs (toF ver flex fs fds i t) = sPlain ver flex fds i t
  | .nil, .nil, i, t, _ => by rw [toF, encF, sPlain]
  | .cons c _ _ _ ty r, .cons f r', i, t, hm => by
    simp only [mF, Bool.and_eq_true] at hm
    obtain ⟨⟨hm1, hm2⟩, hm3⟩ := hm
    rw [toF, encF, sPlain]
    simp only [List.headD_cons, List.tail_cons]
    rw [toF_enc r r' (i + 1) t hm3, toD_enc ty f _ hm2, cM_at hm1 h0 h1]
  | .nil, .cons _ _, i, t, hm => by simp [mF] at hm
  | .cons .., .nil, i, t, hm => by simp [mF] at hm
end

mutual
theorem toD_ok : ∀ (ty : Ty) (f : Fd) (t : Tr), mTy mx fx ty f = true → minOk ver flex ty = true → goodT keysOk t → Ok ver flex ty (toD ver flex ty f t)
  | .prim k _, f, t, hm, _, _ => by rw [toD, Ok]; exact toP_ok
  | .enum k _ _, f, t, hm, _, _ => by rw [toD, Ok]; exact toP_ok
  | .vstr .., f, t, hm, _, _ => by simp [mTy] at hm
  | .arr nul _ _ el, .mk kind fr to fn tag df of sub, t, hm, hmin, hg => by
    simp only [mTy, Bool.and_eq_true] at hm
    obtain ⟨⟨hm1, hm2⟩, hm3⟩ := hm
    simp only [minOk, Bool.and_eq_true] at hmin
    rw [toD, Ok]
    refine ⟨_, _, rfl, ?_, fun hb => ?_, fun x hx => ?_⟩
    · rw [List.length_map]; split
      · simp
      · rw [List.length_take]; unfold most; omega
    · have hb' : sNull fn ver t.null = true := hb
      have : (Fd.mk kind fr to fn tag df of sub).nul = fn := rfl
      rw [this, hb']
      refine ⟨rfl, ?_⟩
      unfold sNull at hb'
      simp only [Bool.and_eq_true, decide_eq_true_eq] at hb'
      unfold nulM at hm2
      cases nul with
      | none => simp at hm2; omega
      | some nv =>
        simp only [Bool.or_eq_true, decide_eq_true_eq] at hm2
        have := sameInt_eq (hm2.resolve_right (by omega))
        subst this
        unfold nulOf
        simp; omega
    · simp only [List.mem_map] at hx
      obtain ⟨y, hy, rfl⟩ := hx
      have hyl : y ∈ t.l := by
        split at hy
        · simp at hy
        · exact List.mem_of_mem_take hy
      have hok := toE_ok el of sub y hm3 hmin.2 (hg.mem hyl)
      exact ⟨hok, enc_pos ver flex el _ hmin.1 hok⟩
  | .struct _ _ _ tg fs, .mk kind fr to nul tag df of sub, t, hm, hmin, hg => by
    simp only [mTy, Bool.and_eq_true, decide_eq_true_eq] at hm
    obtain ⟨⟨⟨hm1, hm2⟩, hm3⟩, hm4⟩ := hm
    simp only [minOk] at hmin
    rw [toD, Ok]
    exact ⟨_, _, rfl, toF_ok fs sub 0 t hm4 hmin hg, fun _ => sTagL_ok hg.u⟩
theorem toE_ok : ∀ (el : Ty) (of : Int) (sub : Fds) (t : Tr), mEl mx fx el of sub = true → minOk ver flex el = true → goodT keysOk t → Ok ver flex el (toE ver flex el sub t)
  | .prim k _, of, sub, t, hm, _, _ => by rw [toE, Ok]; exact toP_ok
  | .struct _ _ _ tg fs, of, sub, t, hm, hmin, hg => by
    simp only [mEl, Bool.and_eq_true] at hm
    obtain ⟨⟨hm1, hm3⟩, hm4⟩ := hm
    simp only [minOk] at hmin
    rw [toE, Ok]
    exact ⟨_, _, rfl, toF_ok fs sub 0 t hm4 hmin hg, fun _ => sTagL_ok hg.u⟩
  | .enum .., of, sub, t, hm, _, _ => by simp [mEl] at hm
  | .vstr .., of, sub, t, hm, _, _ => by simp [mEl] at hm
  | .arr .., of, sub, t, hm, _, _ => by simp [mEl] at hm
theorem toF_ok : ∀ (fs : Flds) (fds : Fds) (i : Nat) (t : Tr), mF mx fx fs fds = true → minOkF ver flex fs = true → goodT keysOk t → OkF ver flex fs (toF ver flex fs fds i t)
  | .nil, _, i, t, _, _, _ => by rw [OkF]; trivial
  | .cons c _ _ _ ty r, .cons f r', i, t, hm, hmin, hg => by
    simp only [mF, Bool.and_eq_true] at hm
    obtain ⟨⟨hm1, hm2⟩, hm3⟩ := hm
    simp only [minOkF, Bool.and_eq_true, Bool.or_eq_true, Bool.not_eq_true'] at hmin
    rw [toF, OkF]
    simp only [List.headD_cons, List.tail_cons]
    refine ⟨fun hc => ?_, toF_ok r r' (i + 1) t hm3 hmin.2 hg⟩
    exact toD_ok ty f _ hm2 (by rcases hmin.1 with h | h; rw [hc] at h; cases h; exact h) (hg.at (fun x hx => by cases hx) i)
  | .cons .., .nil, i, t, hm, _, _ => by simp [mF] at hm
end
end

/-- The plan and the reference's message match, at the versions up to mx. -/
def mTopB (p : Plan) (fs : Fds) (flex : Int) (mx : Nat) : Bool :=
  mF mx p.fl.isSome p.fs fs && (p.tg.isSome || !p.fl.isSome) && (List.range (mx + 1)).all (fun v => (p.flex (v : Nat) == (decide (0 ≤ flex) && decide (flex ≤ (v : Nat)))) && minOkF (v : Nat) (p.flex (v : Nat)) p.fs)

theorem Plan.flex_some {p : Plan} {ver : Int} (h : p.flex ver = true) : p.fl.isSome = true := by
  unfold Plan.flex at h
  cases hp : p.fl with
  | none => rw [hp] at h; simp at h
  | some k => rfl

/-- What the reference writes of a tree is what the plan writes of what the tree says; that may be said. -/
theorem saysTop {p : Plan} {fs : Fds} {flex : Int} {mx v : Nat} (h : mTopB p fs flex mx = true) (hv : v ≤ mx) {t : Tr} (hg : goodT keysOk t) :
    sWrite fs flex (v : Nat) t = encTop p (v : Nat) (toF (v : Nat) (p.flex (v : Nat)) p.fs fs 0 t) (sTagL t) ∧ OkTop p (v : Nat) (toF (v : Nat) (p.flex (v : Nat)) p.fs fs 0 t) (sTagL t) := by
  simp only [mTopB, Bool.and_eq_true] at h
  obtain ⟨⟨h1, h2⟩, h3⟩ := h
  have h4 := List.all_eq_true.1 h3 v (List.mem_range.2 (by omega))
  simp only [Bool.and_eq_true, beq_iff_eq] at h4
  obtain ⟨h5, h6⟩ := h4
  refine ⟨?_, toF_ok (mx := mx) (by omega) (by omega) (fun e => Plan.flex_some e) p.fs fs 0 t h1 h6 hg, fun _ => sTagL_ok hg.u⟩
  unfold sWrite encTop sPart
  rw [← h5, toF_enc (mx := mx) (fx := p.fl.isSome) (by omega) (by omega) (fun e => Plan.flex_some e) p.fs fs 0 t h1]
  congr 1
  exact (tags_match h2 (fun e => Plan.flex_some e)).symm

/-- FnAgain, the plain part. -/
theorem againTop {p : Plan} {fs : Fds} {flex : Int} {mx v : Nat} (h : mTopB p fs flex mx = true) (hv : v ≤ mx) {t : Tr} (hg : goodT keysOk t) :
    ∃ ds ts, decTop p (v : Nat) (sWrite fs flex (v : Nat) t) = some ((ds, ts), []) ∧ encTop p (v : Nat) ds ts = sWrite fs flex (v : Nat) t ∧ SmF okTags p.fs ds ∧ okTags ts := by
  obtain ⟨h1, h2⟩ := saysTop h hv hg
  have h3 := rtTop (r := []) h2
  rw [List.append_nil, ← h1] at h3
  refine ⟨_, _, h3, (encTop_norm p _ _ _).trans h1.symm, OkF.small _ _ _ _ h2.1, ?_⟩
  split
  · exact sTagL_ok hg.u
  · exact ⟨List.Pairwise.nil, by simp, by simp⟩

/-- FnCut, the plain part. -/
theorem cut_plain {p : Plan} {fs : Fds} {flex : Int} {mx v : Nat} (h : mTopB p fs flex mx = true) (hv : v ≤ mx) {t : Tr} (hg : goodT keysOk t) {l m : List UInt8} (hl : sWrite fs flex (v : Nat) t = l ++ m) (hm : m ≠ []) : decTop p (v : Nat) l = none := by
  obtain ⟨h1, h2⟩ := saysTop h hv hg
  exact cutTop h2 (h1.symm.trans hl) hm
end Go.Kx
