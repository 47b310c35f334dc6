/- readFrom's fields in a row; lists of structs. Conditions: the reader's contracts (RKOK), the plan's tests (wfRF), the default's cells (ZF).
   readFrom, whole. Conditions: the reader's contracts (RKOK), the plan's tests, Default's contract (DefD).
   readFrom, whole: its contract (RFC) by tests (rfB). Conditions: the reader's contracts (RKOK).
   Rules: a range over a map (the iterator anywhere), calls of closures, an append to nil. No condition on the program beyond those that a rule names.
   A new message with a known tag: whether the tag is as by default (zzSame, a list's length); AppendTo's tags where none is told. Conditions: the contracts of what is called; the slots' bounds.
   AppendTo's tags where no known one is told: the walk. Conditions: the slots' bounds, the contracts of what is called, what lies in memory. -/
import Derived.Test.YtffglmphlpofbaaKxJ
namespace Go.Kx
open Go.RowKit
set_option linter.unusedSimpArgs false
set_option linter.unusedVariables false

/-- The cells of defaults: each says its default; a list is nil. -/
def ZF (w : World) : Flds → List Value → Prop
  | .nil, _ => True
  | .cons _ _ off df ty rest, cs => off + ty.cells ≤ cs.length ∧ Rep w (fun _ => False) ty ((cs.drop off).take ty.cells) (dfl ty df) ∧ ((∃ a b c d, ty = .arr a b c d) → cs[off]? = some (.slice none 0 0)) ∧ ZF w rest cs

theorem zf_of {w : World} : ∀ {fs : Flds} {cs : List MVal}, zfB fs cs = true → ZF w fs (cs.map MVal.val)
  | .nil, _, _ => trivial
  | .cons c idx off df ty rest, cs, h => by
    simp only [zfB, Bool.and_eq_true, Nat.ble_eq] at h
    obtain ⟨⟨h1, h2⟩, h3⟩ := h
    unfold ZF
    cases hd : defT ty ((cs.drop off).take ty.cells) with
    | none => simp [hd] at h2
    | some d =>
      simp only [hd] at h2
      have e := eqD0_eq h2
      subst e
      refine ⟨by rw [List.length_map]; exact h1, ?_, ?_, zf_of h3⟩
      · have := defT_rep (w := w) (F := fun _ => False) hd
        rwa [List.map_take, List.map_drop] at this
      · rintro ⟨a, b, c', d', rfl⟩
        unfold defT at hd
        split at hd
        · rename_i heq
          have : cs[off]? = some .nslice := by
            have e2 : ((cs.drop off).take (Ty.arr a b c' d').cells)[0]? = some .nslice := by rw [heq]; rfl
            rw [List.getElem?_take] at e2
            split at e2
            · rw [List.getElem?_drop] at e2; exact e2
            · simp at e2
          rw [List.getElem?_map, this]; rfl
        · simp at hd

section
variable {P : Program} {N : Nat} {Q : Exit → (Nat → Value) → World → Prop} {ρ : Nat → Value} {w w' : World} {ms : List MOp} {R : RN} {G : TG} {rb sb h b o n : Nat} {ev : Value} {st st' : Option (List UInt8)} {sf : Option Nat} {flex : Bool} {ver : Int}

theorem tagsR_le {T vs t : Nat} {tg : Option (Nat × Nat)} : t ≤ (tagsR G sf T vs tg t).2 := by unfold tagsR; split <;> simp

theorem condR_le {c : Cnd} {t x : Nat} {body : Nat → MCode × Nat × Nat × Nat} (h : ∀ t, t ≤ (body t).2.1 ∧ x ≤ (body t).2.2.1) : t ≤ (condR R c t body).2.1 ∧ x ≤ (condR R c t body).2.2.1 := by
  unfold condR
  split
  · exact h t
  · have := h (t + 2); simp only; omega
  · have := h (t + 6); simp only; omega

mutual
theorem genRFld_le : ∀ (ty : Ty) {T vs idx t x bk : Nat}, t ≤ (genRFld R G sf ty T vs idx t x bk).2.1 ∧ x ≤ (genRFld R G sf ty T vs idx t x bk).2.2.1
  | .prim k ty, T, vs, idx, t, x, bk => by
    have := @primU_le R sf T vs idx x t k ty
    unfold genRFld
    simp only; omega
  | .arr nul ty ety el, T, vs, idx, t, x, bk => by
    have h1 := @lenR_le R sf x (t + 5)
    have h2 := elR_le el (ty := ty) (ety := ety) (t := (lenR R sf x (t + 5)).2 + nulT nul + 15) (x := x) (bk := bk)
    unfold genRFld
    simp only [arrR]; omega
  | .enum _ _ _, T, vs, idx, t, x, bk => by unfold genRFld; simp only [enumR]; omega
  | .struct T' _ fDef tg fs, T, vs, idx, t, x, bk => by
    have h1 := genRF_le fs (T := T') (vs := x + 1) (t := t + 6) (x := x + 2) (bk := bk)
    have h2 := tagsR_le (G := G) (sf := sf) (T := T') (vs := x + 1) (t := (genRF R G sf fs T' (x + 1) (t + 6) (x + 2) bk).2.1) (tg := tg)
    unfold genRFld
    simp only; omega
theorem elR_le : ∀ (el : Ty) {ty ety t x bk : Nat}, t ≤ (elR R G sf el ty ety t x bk).2.1 ∧ x + 5 ≤ (elR R G sf el ty ety t x bk).2.2.1
  | .prim k _, ty, ety, t, x, bk => by
    have h2 := @elemU_le R sf ty ety x t k
    unfold elR
    simp only; omega
  | .struct T _ fDef tg fs, ty, ety, t, x, bk => by
    have h1 := genRF_le fs (T := T) (vs := x + 5) (t := t + 6) (x := x + 6) (bk := bk + 2)
    have h2 := tagsR_le (G := G) (sf := sf) (T := T) (vs := x + 5) (t := (genRF R G sf fs T (x + 5) (t + 6) (x + 6) (bk + 2)).2.1) (tg := tg)
    unfold elR
    simp only; omega
  | .arr _ _ _ _, ty, ety, t, x, bk => by unfold elR; exact ⟨Nat.le_refl _, Nat.le_refl _⟩
  | .enum _ _ _, ty, ety, t, x, bk => by unfold elR; exact ⟨Nat.le_refl _, Nat.le_refl _⟩
theorem genRF_le : ∀ (fs : Flds) {T vs t x bk : Nat}, t ≤ (genRF R G sf fs T vs t x bk).2.1 ∧ x ≤ (genRF R G sf fs T vs t x bk).2.2.1
  | .nil, T, vs, t, x, bk => by simp [genRF]
  | .cons c idx off df ty rest, T, vs, t, x, bk => by
    have h1 := @condR_le R c t x (fun t => genRFld R G sf ty T vs idx t x bk) (fun t => genRFld_le ty)
    have h2 := genRF_le rest (T := T) (vs := vs) (t := (condR R c t fun t => genRFld R G sf ty T vs idx t x bk).2.1) (x := (condR R c t fun t => genRFld R G sf ty T vs idx t x bk).2.2.1) (bk := (condR R c t fun t => genRFld R G sf ty T vs idx t x bk).2.2.2)
    simp only [genRF]
    omega
end

theorem condR_x {c : Cnd} {t1 t2 : Nat} {body : Nat → MCode × Nat × Nat × Nat} (h : ∀ t1 t2, (body t1).2.2 = (body t2).2.2) : (condR R c t1 body).2.2 = (body t2).2.2 := by
  cases c <;> simp only [condR] <;> exact h _ _

mutual
/-- Slots and labels do not hang on the temporaries. -/
theorem genRFld_x : ∀ (ty : Ty) (T vs idx t1 t2 x bk : Nat), (genRFld R G sf ty T vs idx t1 x bk).2.2 = (genRFld R G sf ty T vs idx t2 x bk).2.2
  | .prim k ty, T, vs, idx, t1, t2, x, bk => by unfold genRFld; rfl
  | .arr nul ty ety el, T, vs, idx, t1, t2, x, bk => by
    unfold genRFld
    simp only [arrR]
    exact elR_x el _ _ _ _ _ _
  | .enum _ _ _, T, vs, idx, t1, t2, x, bk => by unfold genRFld; rfl
  | .struct T' _ fDef tg fs, T, vs, idx, t1, t2, x, bk => by
    unfold genRFld
    have := genRF_x fs T' (x + 1) (t1 + 6) (t2 + 6) (x + 2) bk
    simp only [this]
theorem elR_x : ∀ (el : Ty) (ty ety t1 t2 x bk : Nat), (elR R G sf el ty ety t1 x bk).2.2 = (elR R G sf el ty ety t2 x bk).2.2
  | .prim k _, ty, ety, t1, t2, x, bk => by unfold elR; rfl
  | .struct T _ fDef tg fs, ty, ety, t1, t2, x, bk => by
    unfold elR
    have := genRF_x fs T (x + 5) (t1 + 6) (t2 + 6) (x + 6) (bk + 2)
    simp only [this]
  | .arr _ _ _ _, ty, ety, t1, t2, x, bk => by unfold elR; rfl
  | .enum _ _ _, ty, ety, t1, t2, x, bk => by unfold elR; rfl
theorem genRF_x : ∀ (fs : Flds) (T vs t1 t2 x bk : Nat), (genRF R G sf fs T vs t1 x bk).2.2 = (genRF R G sf fs T vs t2 x bk).2.2
  | .nil, T, vs, t1, t2, x, bk => by simp [genRF]
  | .cons c idx off df ty rest, T, vs, t1, t2, x, bk => by
    have e : ∀ t, (condR R c t fun t => genRFld R G sf ty T vs idx t x bk).2.2 = (genRFld R G sf ty T vs idx 0 x bk).2.2 := fun t => condR_x (fun a b => genRFld_x ty T vs idx a b x bk)
    simp only [genRF]
    rw [e t1, e t2]
    exact genRF_x rest _ _ _ _ _ _
end

/-- A version's test, at slot level. -/
theorem RW.twS {s ty lo hi t L : Nat} {v : Int} (hs : s < L) (hv : ρ s = .int .i16 v) (ht : L ≤ t) (hN : t + 6 ≤ N)
    (h : ∀ ρ', (∀ s, s < L → ρ' s = ρ s) → ρ' (t + 5) = .bool (decide ((lo : Int) ≤ v) && decide (v ≤ hi)) → Q .normal ρ' w) : RW P N (.tw s ty lo hi t) Q ρ w := by
  intro a ha
  have hl : Loc N L ρ a := ⟨ha.size, ha.defers, fun s hs => ha.get s (by omega)⟩
  refine MW.tw (N := N) (L := L) hl hs hv ht hN fun a' hl' h5 => ?_
  exact ⟨rd a', ⟨hl'.size, hl'.defers, fun _ _ => rfl⟩, h _ (fun s hs => hl'.get s hs) h5⟩

theorem condR_ok {c : Cnd} {t L : Nat} {body : Nat → MCode × Nat × Nat × Nat} (h16 : intTy P R.T.i16 .i16 = true) (r8 : ρ 8 = .int .i16 ver) (hL8 : 8 < L) (hL : L ≤ t) (hb : ∀ t, t ≤ (body t).2.1) (hN : (condR R c t body).2.1 ≤ N)
    (hyes : c.ok ver = true → ∀ ρ' t', (∀ s, s < L → ρ' s = ρ s) → L ≤ t' → (body t').2.1 ≤ N → RW P N (body t').1 Q ρ' w) (hno : c.ok ver = false → ∀ ρ', (∀ s, s < L → ρ' s = ρ s) → Q .normal ρ' w) : RW P N (condR R c t body).1 Q ρ w := by
  unfold condR at hN ⊢
  cases c with
  | always => exact hyes rfl ρ t (fun _ _ => rfl) hL hN
  | ge lo =>
    simp only at hN ⊢
    have := hb (t + 2)
    refine RW.sq (RW.rg (RL.step (MR.mv r8 (ltT (by omega))) (RL.step (MR.biE (v := .bool (decide ((lo : Int) ≤ ver))) (by show evB .geq (upd _ _ _ _) (.int .i16 (lo : Nat)) = _; rw [upd_same]; rfl) (ltT (by omega)) rfl) (RL.nil ?_) (by omega)) (by omega)))
    refine RW.cd (upd_same _ _ _) (fun e => hyes e _ _ (fun s hs => by (repeat (first | rw [upd_same] | rw [upd_ne _ _ (by omega)]))) (by omega) hN) (fun e => RW.sk (hno e _ (fun s hs => by (repeat (first | rw [upd_same] | rw [upd_ne _ _ (by omega)]))))) (by omega)
  | btw lo hi =>
    simp only at hN ⊢
    have := hb (t + 6)
    refine RW.sq (RW.twS (L := L) hL8 r8 hL (by omega) fun ρ' h1 h2 => ?_)
    refine RW.cd h2 (fun e => hyes e _ _ h1 (by omega) hN) (fun e => RW.sk (hno e _ h1)) (by omega)

theorem RepF.more {F : Nat → Prop} {tl : List Value} : ∀ {fs : Flds} {cs : List Value} {ds : List D}, RepF w F fs cs ds → RepF w F fs (cs ++ tl) ds
  | .nil, _, _, h => by unfold RepF at h ⊢; exact h
  | .cons c idx off df ty rest, cs, ds, h => by
    unfold RepF at h ⊢
    obtain ⟨h1, d, ds', h2, h3, h4⟩ := h
    refine ⟨by rw [List.length_append]; omega, d, ds', h2, ?_, RepF.more h4⟩
    rw [List.drop_append_of_le_length (by omega), List.take_append_of_le_length (by rw [List.length_drop]; omega)]
    exact h3

theorem ZF.keep {cs cs' : List Value} {k : Nat} (hd : cs'.drop k = cs.drop k) (hl : cs'.length = cs.length) : ∀ (fs : Flds) {T n : Nat}, wfRF P R G sf fs T n k = true → ZF w fs cs → ZF w' fs cs'
  | .nil, _, _, _, _ => trivial
  | .cons c idx off df ty rest, T, n, hwf, h => by
    simp only [wfRF, Bool.and_eq_true, Nat.ble_eq] at hwf
    obtain ⟨⟨⟨g1, g2⟩, g3⟩, g4⟩ := hwf
    unfold ZF at h ⊢
    obtain ⟨h1, h2, h3, h4⟩ := h
    refine ⟨by omega, ?_, fun e => ?_, ?_⟩
    · rw [part_of_drop hd g1]; exact Rep.mono (fun _ h => h) (fun b hb => hb.elim) ty h2
    · have := h3 e
      have e2 : cs'[off]? = cs[off]? := by
        have e3 : ∀ l : List Value, l[off]? = (l.drop k)[off - k]? := fun l => by rw [List.getElem?_drop]; congr 1; omega
        rw [e3, e3, hd]
      rw [e2]; exact this
    · have hd' : cs'.drop (off + ty.cells) = cs.drop (off + ty.cells) := by
        have e : ∀ l : List Value, l.drop (off + ty.cells) = (l.drop k).drop (off + ty.cells - k) := fun l => by rw [List.drop_drop]; congr 1; omega
        rw [e, e, hd]
      exact ZF.keep hd' hl rest g4 h4

/-- The tags' place: behind the fields, nil. -/
def TgP (P : Program) (G : TG) (w : World) (T b o n m : Nat) : Option (Nat × Nat) → Prop
  | none => n = m
  | some q => m = q.2 ∧ n = m + 1 ∧ fieldAtB P T q.1 q.2 = true ∧ G.fRead ≠ 0 ∧ w.cell? ⟨b, o + m, none⟩ = some (.map none)

theorem RWL.tags {T vs t x L m : Nat} {tg : Option (Nat × Nat)} {fs : Flds} {ds : List D} {cs : List Value} (kk : RKOK P R G) (hh : FH P R rb sb h b o m ev st w) (hne : b < w.heap.size) (hth : w.there b o n) (cx : RCx sf flex ver rb vs b o ρ) (hx9 : 9 ≤ x) (hs : ∀ s, sf = some s → s < x) (hvx : vs < x) (hxL : x ≤ L) (hL : L ≤ t) (hN : (tagsR G sf T vs tg t).2 ≤ N)
    (htg : TgP P G w T b o n m tg) (hr : w.rangeAt b o cs) (hl : cs.length = m) (hrep : RepF w (FB sb h w) fs cs ds) {rest : List MCode}
    (hQ : ∀ ρ' w' tags st' tl, (∀ s, s < x → ρ' s = ρ s) → Fr (· = rb) b o n w w' → Got (if tg.isSome && flex then dTags.map (fun ts => (ds, ts)) else Dec.pure (ds, [])) st (ds, tags) st' → RdAt w' rb sb st' → w'.rangeAt b o (cs ++ tl) → cs.length + tl.length = n → RepF w' (FB sb h w') fs cs ds → TagsAt w' (FB sb h w') tg (cs ++ tl) tags → RWL P N rest Q ρ' w') :
    RWL P N ((tagsR G sf T vs tg t).1 ++ rest) Q ρ w := by
  have noTags : (tg.isSome && flex) = false → ∀ ρ', (∀ s, s < x → ρ' s = ρ s) → RWL P N rest Q ρ' w := by
    intro hno ρ' hρ'
    cases htg' : tg with
    | none =>
      refine hQ ρ' w [] st [] hρ' (Fr.refl _ _ _ _ _) ?_ hh.rd (by rw [List.append_nil]; exact hr) (by rw [htg'] at htg; have h0 : n = m := htg; simp only [List.length_nil]; omega) hrep ?_
      · rw [hno]; exact Got.pure _
      · rw [htg']; rfl
    | some q =>
      rw [htg'] at htg
      obtain ⟨g1, g2, g3, g4, g5⟩ := htg
      refine hQ ρ' w [] st [.map none] hρ' (Fr.refl _ _ _ _ _) ?_ hh.rd ?_ (by simp only [List.length_cons, List.length_nil]; omega) hrep ?_
      · rw [hno]; exact Got.pure _
      · intro j v hj
        by_cases h1 : j < cs.length
        · rw [List.getElem?_append_left h1] at hj; exact hr j v hj
        · rw [List.getElem?_append_right (by omega)] at hj
          have hj0 : j - cs.length = 0 := by
            have := (List.getElem?_eq_some_iff.1 hj).1
            simp at this; omega
          rw [hj0] at hj
          simp only [List.getElem?_cons_zero, Option.some.injEq] at hj
          subst hj
          rw [show o + j = o + m from by omega]; exact g5
      · rw [htg']
        refine ⟨.map none, ?_, .inl ⟨rfl, rfl⟩⟩
        rw [← g1, ← hl, List.getElem?_append_right (Nat.le_refl _), Nat.sub_self]; rfl
  unfold tagsR at hN ⊢
  cases htg' : tg with
  | none =>
    simp only [List.nil_append]
    exact noTags (by rw [htg']; rfl) ρ fun _ _ => rfl
  | some q =>
    cases hsf : sf with
    | none =>
      simp only [List.nil_append]
      exact noTags (by rw [cx.nf hsf]; simp) ρ fun _ _ => rfl
    | some s =>
      rw [htg', hsf] at hN
      rw [htg'] at htg
      obtain ⟨g1, g2, g3, g4, g5⟩ := htg
      have hsx := hs s hsf
      simp only [List.cons_append, List.nil_append] at hN ⊢
      refine RW.sq (RW.rg (RL.step (MR.mv (cx.rf s hsf) (ltT (by omega))) (RL.nil ?_) (by omega)))
      refine RW.cd (upd_same _ _ _) (fun e => ?_) (fun e => RW.sk (noTags (by rw [e]; simp) _ fun s hs => by (repeat (first | rw [upd_same] | rw [upd_ne _ _ (by omega)])))) (by omega)
      refine RW.rg (RL.step (MR.mv (v := .pointer (some ⟨b, o, none⟩)) (by show upd _ _ _ vs = _; (repeat (first | rw [upd_same] | rw [upd_ne _ _ (by omega)])); exact cx.rv) (ltT (by omega))) ?_ (by omega))
      refine RL.ca (R := fun v w' => ∃ m tags st', v = .agg #[m] ∧ m.oneCell' = true ∧ Fr (fun _ => False) rb 0 2 w w' ∧ Got dTags st tags st' ∧ RdAt w' rb sb st' ∧ RepT w' (Rb w sb) m tags) (kk.tag g4).1 ?_ ?_ (by omega) (by simp [MX.lt, Nat.blt_eq]; omega)
      · simp only [List.map_cons, List.map_nil, xof]
        (repeat (first | rw [upd_same] | rw [upd_ne _ _ (by omega)]))
        rw [cx.r7]
        refine Calls.mono ((kk.tag g4).2 w rb sb st hh.rd hh.ne hh.hs) ?_
        rintro e w' ⟨m, tags, st', rfl, h⟩
        exact ⟨_, rfl, m, tags, st', rfl, h⟩
      rintro v w2 ⟨m', tags, st', rfl, k1, k2, k3, k4, k5⟩
      have F1 : Fr (· = rb) b o n w w2 := k2.rd hh.rbb hne
      have ht2 : w2.there b (o + q.2) 1 := there_in (F1.there _ _ hth) (by omega)
      refine RL.step (MR.nc (p := ⟨b, o, none⟩) (by (repeat (first | rw [upd_same] | rw [upd_ne _ _ (by omega)]))) (by omega)) (RL.step (MR.fa (upd_same _ _ _) g3 (by omega)) (RL.stA (cs := [m']) (b := b) (o := o + q.2) (upd_same _ _ _) (by (repeat (first | rw [upd_same] | rw [upd_ne _ _ (by omega)]))) kk.tg.sc ht2 (by simp [k1]) (RL.nil ?_) (by omega) (by omega)) (by omega)) (by omega)
      have F2 : Fr (· = rb) b o n w2 (w2.setCells b (o + q.2) [m']) := Fr.put _ (by omega) (by simp; omega)
      have F2' : Fr (· = rb) b (o + q.2) 1 w2 (w2.setCells b (o + q.2) [m']) := Fr.put _ (by omega) (by simp)
      have hh2 : FH P R rb sb h b o m ev st' w2 := hh.keep (o' := o) (n' := n) F1 k4
      have F1' : Fr (· = rb) b o 0 w w2 := k2.rd hh.rbb hne
      have hrng : (w2.setCells b (o + q.2) [m']).rangeAt b o (cs ++ [m']) := by
        intro j v hj
        by_cases h1 : j < cs.length
        · rw [List.getElem?_append_left h1] at hj
          rw [F2'.cell (o + j) (.inl (by omega)), F1'.cell (o + j) (.inr (by omega))]
          exact hr j v hj
        · rw [List.getElem?_append_right (by omega)] at hj
          have hj0 : j - cs.length = 0 := by
            have := (List.getElem?_eq_some_iff.1 hj).1
            simp at this; omega
          rw [hj0] at hj
          have := World.rangeAt_setCells_same w2 b (o + q.2) [m'] ht2 0 v hj
          rw [show o + j = o + q.2 + 0 from by omega]; exact this
      have hsz : w2.heap.size ≤ (w2.setCells b (o + q.2) [m']).heap.size := F2.size
      refine hQ _ _ tags st' [m'] (fun s hs => by (repeat (first | rw [upd_same] | rw [upd_ne _ _ (by omega)]))) (F1.trans F2) ?_ ?_ hrng (by simp only [List.length_cons, List.length_nil]; omega) ?_ ?_
      · rw [htg', e]
        exact k3.map (f := fun ts => (ds, ts))
      · exact k4.keep (setCells_other b _ _ _ rb (fun e => hh.rbb e.symm)) (setCells_other b _ _ _ sb hh.nb)
      · exact RepF.mono (fun k hk => (hh2.fb F2).1 k ((hh.fb F1).1 k hk)) (fun k hk => by rw [(hh2.fb F2).2 k ((hh.fb F1).1 k hk), (hh.fb F1).2 k hk]) _ hrep
      · rw [htg']
        refine ⟨m', by rw [← g1, ← hl, List.getElem?_append_right (Nat.le_refl _), Nat.sub_self]; rfl, ?_⟩
        refine RepT.mono k5.bound (fun k hk => ?_) (fun k hk => setCells_other b _ _ _ k ?_)
        · rcases hk with ⟨hk | hk, hk'⟩
          · exact .inl hk
          · exact .inr ⟨Nat.lt_of_lt_of_le hh.hw hk, Nat.lt_of_lt_of_le hk' hsz⟩
        · rcases hk with ⟨rfl | hk, _⟩
          · exact hh.nb
          · exact fun e => by omega

theorem wfRF_n : ∀ (fs : Flds) {T n k : Nat}, wfRF P R G sf fs T n k = true → k ≤ n
  | .nil, T, n, k, h => by simpa [wfRF] using h
  | .cons c idx off df ty rest, T, n, k, h => by
    simp only [wfRF, Bool.and_eq_true, Nat.ble_eq] at h
    obtain ⟨⟨⟨h1, _⟩, _⟩, h4⟩ := h
    have := wfRF_n rest h4
    omega

theorem ze_arr {ty ety ec : Nat} (h : arrB P R sf ty ety ec = true) : ∃ zs, zeroM P ety = some zs ∧ zs.length = ec := by
  simp only [arrB, Bool.and_eq_true] at h
  obtain ⟨⟨⟨⟨⟨⟨⟨⟨_, _⟩, _⟩, _⟩, f6⟩, _⟩, _⟩, _⟩, _⟩ := h
  cases hz : zeroM P ety with
  | none => simp [hz] at f6
  | some zs => simp only [hz, Nat.beq_eq] at f6; exact ⟨zs, rfl, f6⟩

/-- Cells that say the defaults, of a struct within a struct. -/
theorem zf_rep {w' : World} : ∀ (fs : Flds) {T m k : Nat} {us : List Value}, wfRF P R G sf fs T m k = true → m ≤ us.length → RepF w (fun _ => False) fs us (dflF fs) → ZF w' fs (us.take m)
  | .nil, _, _, _, _, _, _, _ => trivial
  | .cons c idx off df ty rest, T, m, k, us, hwf, hl, h => by
    simp only [wfRF, Bool.and_eq_true, Nat.ble_eq] at hwf
    obtain ⟨⟨⟨g1, g2⟩, g3⟩, g4⟩ := hwf
    have hn : off + ty.cells ≤ m := wfRF_n rest g4
    unfold RepF dflF at h
    obtain ⟨h1, d, ds', h2, h3, h4⟩ := h
    injection h2 with h5 h6
    subst h5 h6
    unfold ZF
    have hp : ((us.take m).drop off).take ty.cells = (us.drop off).take ty.cells := by rw [List.drop_take, List.take_take, Nat.min_eq_left (by omega)]
    refine ⟨by rw [List.length_take]; omega, ?_, ?_, zf_rep rest g4 hl h4⟩
    · rw [hp]; exact Rep.mono (fun _ h => h) (fun b hb => hb.elim) ty h3
    · rintro ⟨a, b, c', d', rfl⟩
      unfold Rep at h3
      have hc1 : (Ty.arr a b c' d').cells = 1 := rfl
      rw [hc1] at h3 hn
      obtain ⟨isnul, xs, _, ⟨e2, _⟩ | ⟨_, ab, arr, cap, _, e3, _⟩⟩ := h3
      · have e : ((us.drop off).take 1)[0]? = some (.slice none 0 0) := by rw [e2]; rfl
        rw [List.getElem?_take, if_pos (by omega), List.getElem?_drop] at e
        rw [List.getElem?_take, if_pos (by omega)]
        exact e
      · exact e3.elim

mutual
/-- One field. -/
theorem genRFld_ok (kk : RKOK P R G) (h16 : intTy P R.T.i16 .i16 = true) : ∀ (ty : Ty) {T vs idx off t x bk L b o n h : Nat} {ρ : Nat → Value} {w : World} {st : Option (List UInt8)} {Q : Exit → (Nat → Value) → World → Prop}, wfRFld P R G sf ty = true → fieldAtB P T idx off = true → FH P R rb sb h b o n ev st w → RCx sf flex ver rb vs b o ρ → 9 ≤ x → (∀ s, sf = some s → s < x) → vs < x → (genRFld R G sf ty T vs idx t x bk).2.2.1 ≤ L → L ≤ t → (genRFld R G sf ty T vs idx t x bk).2.1 ≤ N → off + ty.cells ≤ n →
    ((∃ a b c d, ty = .arr a b c d) → w.cell? ⟨b, o + off, none⟩ = some (.slice none 0 0)) →
    (∃ us df, w.rangeAt b (o + off) us ∧ us.length = ty.cells ∧ Rep w (fun _ => False) ty us (dfl ty df)) →
    (∀ ρ' w' d st' vs, (∀ s, s < x → ρ' s = ρ s) → Fr (· = rb) b (o + off) ty.cells w w' → Got (dec ver flex ty) st d st' → RdAt w' rb sb st' → w'.rangeAt b (o + off) vs → vs.length = ty.cells → Rep w' (FB sb h w') ty vs d → Q .normal ρ' w') →
    (∀ ρ' w', ρ' 6 = ev → Fr (· = rb) b (o + off) ty.cells w w' → (∀ d, Got (dec ver flex ty) st d none) → RdAt w' rb sb none → Q .ret ρ' w') → RW P N (genRFld R G sf ty T vs idx t x bk).1 Q ρ w
  | .prim k ty, T, vs, idx, off, t, x, bk, L, b, o, n, h, ρ, w, st, Q, hwf, hF, hh, cx, hx9, hs, hvx, hxL, hL, hN, hoff, h0, hz0, hQ, hE => by
    simp only [wfRFld, Bool.and_eq_true] at hwf
    unfold genRFld at hN hxL ⊢
    refine primU_ok kk hwf.1.1 hwf.2 hF hwf.1.2 hh cx hx9 hs hvx (by simp only at hxL; omega) hL hN hoff ?_
    intro ρ' w' d st' us h1 h2 h3 h4 h5 h6 h7
    exact hQ ρ' w' d st' us h1 h2 (by unfold dec; exact h3) h4 h5 h6 (by unfold Rep; exact h7)
  | .arr nul ty ety el, T, vs, idx, off, t, x, bk, L, b, o, n, h, ρ, w, st, Q, hwf, hF, hh, cx, hx9, hs, hvx, hxL, hL, hN, hoff, h0, hz0, hQ, hE => by
    simp only [wfRFld, Bool.and_eq_true] at hwf
    obtain ⟨hwa, hwe⟩ := hwf
    unfold genRFld at hN hxL ⊢
    obtain ⟨zs, hz, hzl⟩ := ze_arr hwa
    have hze := ze_of hz
    rw [hzl] at hze
    have hx5 := (elR_le (R := R) (G := G) (sf := sf) el (ty := ty) (ety := ety) (t := (lenR R sf x (t + 5)).2 + nulT nul + 15) (x := x) (bk := bk)).2
    have hxL' : (elR R G sf el ty ety ((lenR R sf x (t + 5)).2 + nulT nul + 15) x bk).2.2.1 ≤ L := by simpa only [arrR] using hxL
    have hsl : sliceOf P ty ety = true := by
      simp only [arrB, Bool.and_eq_true] at hwa
      exact hwa.1.1.1.1.1.1.2
    have hce : cellsB P ety el.cells = true := by
      simp only [arrB, Bool.and_eq_true] at hwa
      exact hwa.1.1.1.1.1.2
    refine arrR_ok (el := el) (zs := zs.map MVal.val) kk hwa hze hF hh cx hx9 hs hvx (by omega) hL (fun t => (elR_le el).1) hN hoff (h0 ⟨_, _, _, _, rfl⟩) ?_ ?_ hE
    · exact elR_ok kk h16 el hwe hsl hce hz hx9 hs (fun t => by rw [elR_x el ty ety t ((lenR R sf x (t + 5)).2 + nulT nul + 15) x bk]; rw [elR_x el ty ety ((lenR R sf x (t + 5)).2 + nulT nul + 15) ((lenR R sf x (_ + 5)).2 + nulT nul + 15) x bk]; exact hxL')
    · intro ρ' w' d st' v h1 h2 h3 h4 h5 h6
      exact hQ ρ' w' d st' [v] h1 h2 h3 h4 h5 rfl h6
  | .enum k ty cty, T, vs, idx, off, t, x, bk, L, b, o, n, h, ρ, w, st, Q, hwf, hF, hh, cx, hx9, hs, hvx, hxL, hL, hN, hoff, h0, hz0, hQ, hE => by
    simp only [wfRFld, Bool.and_eq_true] at hwf
    unfold genRFld at hN hxL ⊢
    have hk1 : k.cells = 1 := by
      have := hwf.1.1
      cases k <;> simp [enumK] at this <;> rfl
    have hcl : (Ty.enum k ty cty).cells = 1 := by simp only [Ty.cells, hk1]
    rw [hcl] at hoff hQ hE
    refine enumR_ok kk hwf.1.1 (ne0 hwf.1.2) hF hwf.2 hh cx hx9 hvx hs (by simp only at hxL; omega) hL hN hoff ?_
    intro ρ' w' d st' us h1 h2 h3 h4 h5 h6 h7
    exact hQ ρ' w' d st' us h1 h2 (by unfold dec; exact h3) h4 h5 h6 (by unfold Rep; exact h7)
  | .struct T' n' fDef tg fs, T, vs, idx, off, t, x, bk, L, b, o, n, h, ρ, w, st, Q, hwf, hF, hh, cx, hx9, hs, hvx, hxL, hL, hN, hoff, h0, hz0, hQ, hE => by
    simp only [wfRFld, Bool.and_eq_true] at hwf
    obtain ⟨hsub, hfs⟩ := hwf
    unfold subB at hsub
    simp only [Bool.and_eq_true, Nat.beq_eq, Nat.ble_eq] at hsub
    obtain ⟨⟨⟨⟨⟨s1, s2⟩, s3⟩, s4⟩, s5⟩, s6⟩ := hsub
    have hnil : dfsOf T' fs = .nil := by
      cases hd : dfsOf T' fs with
      | nil => rfl
      | cons a r => rw [hd] at s1; simp [Dfs.isNil] at s1
    have hdef : DefD P fDef n' (dfsOf T' fs) := defD_of (FnIs0.of s2) s3 s4
    obtain ⟨us, df, hrz, hlz, hrep⟩ := hz0
    have hcl : (Ty.struct T' n' fDef tg fs).cells = n' := rfl
    rw [hcl] at hoff hlz hQ hE
    unfold genRFld at hN hxL ⊢
    simp only at hN hxL ⊢
    have hgl := genRF_le (R := R) (G := G) (sf := sf) fs (T := T') (vs := x + 1) (t := t + 6) (x := x + 2) (bk := bk)
    have htl := tagsR_le (G := G) (sf := sf) (T := T') (vs := x + 1) (t := (genRF R G sf fs T' (x + 1) (t + 6) (x + 2) bk).2.1) (tg := tg)
    have hbw : b < w.heap.size := Nat.lt_of_le_of_lt hh.hb hh.hw
    have hth : w.there b (o + off) n' := there_in hh.th hoff
    unfold Rep dfl at hrep
    obtain ⟨ds0, tags0, e1, e2, e3, e4⟩ := hrep
    injection e1 with e5 e6
    subst e5 e6
    refine RWL.rows ?_
    unfold subH
    simp only [List.cons_append, List.nil_append]
    refine RW.rg (RL.step (MR.mv cx.rv (ltT (by omega))) (RL.step (MR.nc (p := ⟨b, o, none⟩) (upd_same _ _ _) (by omega)) (RL.step (MR.fa (upd_same _ _ _) hF (by omega)) (RL.step (MR.mv (v := .pointer (some ⟨b, o + off, none⟩)) (upd_same _ _ _) (ltT (by omega))) (RL.nil ?_) (by omega)) (by omega)) (by omega)) (by omega))
    -- Default
    refine RW.rg (RL.step (MR.mv (v := .pointer (some ⟨b, o + off, none⟩)) (upd_same _ _ _) (ltT (by omega))) (RL.ca (R := fun _ w' => w'.rangeAt b (o + off) us ∧ Fr (fun _ => False) b (o + off) n' w w') hdef.1 ?_ ?_ (by omega) (by simp [MX.lt, Nat.blt_eq]; omega)) (by omega))
    · simp only [List.map_cons, List.map_nil, xof]
      rw [upd_same]
      refine Calls.mono (hdef.2 w b (o + off) us hrz hth hlz) ?_
      rintro e w' ⟨rfl, g1, g2⟩
      refine ⟨_, rfl, ?_, g2⟩
      rw [hnil] at g1
      exact g1
    rintro v1 w2 ⟨hr2, F2⟩
    refine RL.nil ?_
    have F2' : Fr (· = rb) b (o + off) n' w w2 := F2.wide (fun _ h => h.elim) (Nat.le_refl _) (Nat.le_refl _)
    have hrd2 : RdAt w2 rb sb st := hh.rd.keep (F2.block rb hh.rd.lt (fun e => hh.rbb e.symm) (fun x => x)) (F2.block sb hh.hs hh.nb (fun x => x))
    have hh2 := hh.keep F2' hrd2
    refine RW.rg (RL.step (MR.mv (v := .pointer (some ⟨b, o + off, none⟩)) (by show upd _ _ _ x = _; (repeat (first | rw [upd_same] | rw [upd_ne _ _ (by omega)]))) (ltT (by omega))) (RL.step (MR.mv (upd_same _ _ _) (ltT (by omega))) (RL.nil ?_) (by omega)) (by omega))
    generalize hρ2 : upd (upd _ (t + 5) _) (x + 1) _ = ρ2
    have q2 : ∀ s, s < x → ρ2 s = ρ s := fun s hs => by rw [← hρ2]; (repeat (first | rw [upd_same] | rw [upd_ne _ _ (by omega)]))
    have cx2 : RCx sf flex ver rb (x + 1) b (o + off) ρ2 := ⟨by rw [q2 7 (by omega)]; exact cx.r7, by rw [q2 2 (by omega)]; exact cx.r2, by rw [q2 8 (by omega)]; exact cx.r8, fun s e => by rw [q2 s (hs s e)]; exact cx.rf s e, cx.nf, by rw [← hρ2]; (repeat (first | rw [upd_same] | rw [upd_ne _ _ (by omega)]))⟩
    have hs2 : ∀ s, sf = some s → s < x + 2 := fun s e => by have := hs s e; omega
    have hth2 : w2.there b (o + off) n' := F2.there _ _ hth
    have hhE : FH P R rb sb h b (o + off) (preN tg n') ev st w2 :=
      ⟨hh2.rd, hh2.ne, hh2.nb, hh2.rbb, hh2.hb, hh2.hr, hh2.hw, hh2.hs, there_in (k := 0) hth2 (by omega), hh2.ev, hh2.gb, hh2.gr⟩
    refine RWL.append ?_
    refine genRF_ok kk h16 fs (L := L) (k := 0) (b := b) (o := o + off) (h := h) (cs := us.take (preN tg n')) hfs hhE cx2 (by omega) hs2 (by omega) hxL (by omega) (by omega) ?_ (by rw [List.length_take]; omega) (zf_rep fs hfs (by omega) e3) ?_ ?_
    · intro j v hj
      rw [List.getElem?_take] at hj
      split at hj
      · exact hr2 j v hj
      · simp at hj
    · intro ρ3 w3 ds st3 cs3 k1 k2 k3 k4 k5 k6 k7 k8
      show RWL P N _ _ ρ3 w3
      have hh3 := hhE.keep k2 k4
      have W3 : Fr (· = rb) b (o + off) n' w2 w3 := k2.wide (fun _ h => h) (by omega) (by omega)
      have cx3 := cx2.keep k1 (by omega) hs2 (by omega)
      have hbw2 : b < w2.heap.size := Nat.lt_of_lt_of_le hbw F2.size
      refine (List.append_nil (tagsR G sf T' (x + 1) tg (genRF R G sf fs T' (x + 1) (t + 6) (x + 2) bk).2.1).1 ▸ (RWL.tags (x := x + 2) (L := L) (n := n') (m := preN tg n') (ds := ds) (cs := cs3) (rest := []) kk hh3 (Nat.lt_of_lt_of_le hbw2 W3.size) (W3.there _ _ hth2) cx3 (by omega) hs2 (by omega) (by omega) (by omega) (by omega) ?_ k5 k6 k8 ?_) : RWL P N _ _ ρ3 w3)
      · unfold preN
        cases htg : tg with
        | none => exact (rfl : n' = n')
        | some q =>
          rw [htg] at s6 e4
          simp only [Bool.and_eq_true, Nat.beq_eq] at s6
          obtain ⟨⟨q1, q2'⟩, q4⟩ := s6
          refine ⟨rfl, q1, q2', ne0 q4, ?_⟩
          have hpq : preN tg n' = q.2 := by unfold preN; rw [htg]
          obtain ⟨m, hm, hmr⟩ := e4
          have hm0 : m = .map none := by
            rcases hmr with ⟨e, _⟩ | ⟨r, es, clock, _, hf, _⟩
            · exact e
            · exact hf.elim
          subst hm0
          have hcell : w2.cell? ⟨b, o + off + q.2, none⟩ = some (.map none) := hr2 q.2 _ hm
          rw [k2.cell (o + off + q.2) (.inr (by omega))]
          exact hcell
      · intro ρ4 w4 tags st4 tl j1 j2 j3 j4 j5 j5' j6 j7
        show Q .normal ρ4 w4
        refine hQ ρ4 w4 (.r ds tags) st4 (cs3 ++ tl) (fun s hs => by rw [j1 s (by omega), k1 s (by omega), q2 s hs]) (F2'.trans (W3.trans j2)) ?_ j4 j5 (by rw [List.length_append]; exact j5') ?_
        · unfold dec
          refine k3.bind ?_
          cases hb : (tg.isSome && flex) with
          | true =>
            rw [hb] at j3
            simp only [if_true] at j3 ⊢
            have : (dTags.map fun ts => D.r ds ts) = (dTags.map (fun ts => (ds, ts))).map (fun p => D.r p.1 p.2) := by
              funext l; unfold Dec.map; cases dTags l <;> rfl
            rw [this]
            exact j3.map (f := fun p => D.r p.1 p.2)
          | false =>
            rw [hb] at j3
            simp only [Bool.false_eq_true, if_false] at j3 ⊢
            have : (Dec.pure (D.r ds [])) = (Dec.pure (ds, ([] : List (Nat × List UInt8)))).map (fun p => D.r p.1 p.2) := by
              funext l; rfl
            rw [this]
            exact j3.map (f := fun p => D.r p.1 p.2)
        · unfold Rep
          exact ⟨ds, tags, rfl, by rw [List.length_append]; exact j5', RepF.more j6, j7⟩
    · intro ρ3 w3 k1 k2 k3 k4
      refine hE ρ3 w3 k1 (F2'.trans (k2.wide (fun _ h => h) (by omega) (by omega))) (fun d => ?_) k4
      unfold dec
      exact Got.bind (k := fun ds => if (tg.isSome && flex) = true then dTags.map (fun ts => D.r ds ts) else Dec.pure (D.r ds [])) (k3 []) (by exact rfl)
/-- A list's element. -/
theorem elR_ok (kk : RKOK P R G) (h16 : intTy P R.T.i16 .i16 = true) : ∀ (el : Ty) {ty ety x bk L : Nat} {zs : List MVal}, wfEl P R G sf el ety = true → sliceOf P ty ety = true → cellsB P ety el.cells = true → zeroM P ety = some zs → 9 ≤ x → (∀ s, sf = some s → s < x) → (∀ t, (elR R G sf el ty ety t x bk).2.2.1 ≤ L) →
    ElC P R N rb sb ev sf flex ver el x L (zs.map MVal.val) (fun t => elR R G sf el ty ety t x bk)
  | .prim k kty, ty, ety, x, bk, L, zs, hwf, hsl, hce, hz, hx9, hs, hxL => by
    simp only [wfEl, Bool.and_eq_true] at hwf
    have hx := hxL 0
    unfold elR at hx ⊢
    exact elC_prim kk hwf.1.1 hsl hwf.1.2 hwf.2 hx9 hs (by simp only at hx; omega)
  | .struct T n' fDef tg fs, ty, ety, x, bk, L, zs, hwf, hsl, hce, hz, hx9, hs, hxL => by
    simp only [wfEl, Bool.and_eq_true] at hwf
    obtain ⟨hel, hfs⟩ := hwf
    unfold elB at hel
    rw [hz] at hel
    simp only [Bool.and_eq_true, Nat.beq_eq, Nat.ble_eq] at hel
    obtain ⟨⟨⟨⟨⟨⟨e1, e2⟩, e3⟩, e4⟩, e5⟩, e6⟩, e7⟩ := hel
    have hdef : DefD P fDef n' (dfsOf T fs) := defD_of (FnIs0.of e2) e3 e4
    have hpre : preN tg n' ≤ n' := by
      unfold preN
      cases htg : tg with
      | none => exact Nat.le_refl _
      | some q => rw [htg] at e7; simp only [Bool.and_eq_true, Nat.beq_eq] at e7; simp only; omega
    have hplen : (putM (dfsOf T fs) 0 zs).length = n' := by
      have := congrArg List.length (putM_val (dfsOf T fs) 0 zs)
      rw [putD_len, List.length_map, List.length_map] at this
      omega
    refine ⟨?_⟩
    intro t' ab l c i vs b o ρ ρ1 w1 st1 Q1 hL hN hh cx hvx q ra ri hi hrz hK hK2
    have hcl : (Ty.struct T n' fDef tg fs).cells = n' := rfl
    rw [hcl] at hh hrz hK hK2
    rw [hcl] at hce
    have hx0 := hxL t'
    unfold elR at hx0 hN ⊢
    simp only at hx0 hN ⊢
    have hgl := genRF_le (R := R) (G := G) (sf := sf) fs (T := T) (vs := x + 5) (t := t' + 6) (x := x + 6) (bk := bk + 2)
    have htl := tagsR_le (G := G) (sf := sf) (T := T) (vs := x + 5) (t := (genRF R G sf fs T (x + 5) (t' + 6) (x + 6) (bk + 2)).2.1) (tg := tg)
    have hmul : (i + 1) * n' ≤ l * n' := Nat.mul_le_mul_right _ hi
    have hmul' : (i + 1) * n' = i * n' + n' := Nat.succ_mul i n'
    have cx1 := cx.keep q hx9 hs hvx
    have hth1 : w1.there ab (i * n') n' := by
      have := there_in (k := i * n') (m := n') hh.th (by omega)
      rwa [Nat.zero_add] at this
    refine RWL.rows ?_
    unfold elemH
    simp only [List.cons_append, List.nil_append]
    refine RW.rg (RL.step (MR.mv ra (ltT (by omega))) (RL.step (MR.mv (v := .int .i32 (i : Nat)) (by show upd _ _ _ (x + 3) = _; (repeat (first | rw [upd_same] | rw [upd_ne _ _ (by omega)])); exact ri) (ltT (by omega)))
      (RL.step (MR.ia (k := .i32) (b := ab) (o := 0) (len := l) (cap := c) (j := i) (sz := n') hsl hce (by (repeat (first | rw [upd_same] | rw [upd_ne _ _ (by omega)]))) (by (repeat (first | rw [upd_same] | rw [upd_ne _ _ (by omega)]))) hi (by omega) (by omega)) (RL.step (MR.mv (v := .pointer (some ⟨ab, i * n', none⟩)) (by show upd _ _ _ (t' + 2) = _; rw [upd_same, Nat.zero_add]) (ltT (by omega))) (RL.nil ?_) (by omega)) (by omega)) (by omega)) (by omega))
    -- Default
    refine RW.rg (RL.step (MR.mv (v := .pointer (some ⟨ab, i * n', none⟩)) (upd_same _ _ _) (ltT (by omega))) (RL.ca (R := fun _ w' => w'.rangeAt ab (i * n') ((putM (dfsOf T fs) 0 zs).map MVal.val) ∧ Fr (fun _ => False) ab (i * n') n' w1 w') hdef.1 ?_ ?_ (by omega) (by simp [MX.lt, Nat.blt_eq]; omega)) (by omega))
    · simp only [List.map_cons, List.map_nil, xof]
      rw [upd_same]
      refine Calls.mono (hdef.2 w1 ab (i * n') _ hrz hth1 (by simp [e1])) ?_
      rintro e w' ⟨rfl, g1, g2⟩
      exact ⟨_, rfl, by rw [putM_val]; exact g1, g2⟩
    rintro v1 w2 ⟨hr2, F2⟩
    refine RL.nil ?_
    have F2' : Fr (· = rb) ab (i * n') n' w1 w2 := F2.wide (fun _ h => h.elim) (Nat.le_refl _) (Nat.le_refl _)
    have hrd2 : RdAt w2 rb sb st1 := hh.rd.keep (F2.block rb hh.rd.lt (fun e => hh.rbb e.symm) (fun x => x)) (F2.block sb hh.hs hh.nb (fun x => x))
    have hh2 := hh.keep F2' hrd2
    refine RW.rg (RL.step (MR.mv (v := .pointer (some ⟨ab, i * n', none⟩)) (by show upd _ _ _ (x + 4) = _; (repeat (first | rw [upd_same] | rw [upd_ne _ _ (by omega)]))) (ltT (by omega))) (RL.step (MR.mv (upd_same _ _ _) (ltT (by omega))) (RL.nil ?_) (by omega)) (by omega))
    generalize hρ2 : upd (upd _ (t' + 5) _) (x + 5) _ = ρ2
    have q2 : ∀ s, s < x + 4 → ρ2 s = ρ1 s := fun s hs => by rw [← hρ2]; (repeat (first | rw [upd_same] | rw [upd_ne _ _ (by omega)]))
    have cx2 : RCx sf flex ver rb (x + 5) ab (i * n') ρ2 := ⟨by rw [q2 7 (by omega)]; exact cx1.r7, by rw [q2 2 (by omega)]; exact cx1.r2, by rw [q2 8 (by omega)]; exact cx1.r8, fun s e => by rw [q2 s (by have := hs s e; omega)]; exact cx1.rf s e, cx1.nf, by rw [← hρ2]; (repeat (first | rw [upd_same] | rw [upd_ne _ _ (by omega)]))⟩
    have hs6 : ∀ s, sf = some s → s < x + 6 := fun s e => by have := hs s e; omega
    have hth2 : w2.there ab (i * n') n' := F2.there _ _ hth1
    have hhE : FH P R rb sb ab ab (i * n') (preN tg n') ev st1 w2 :=
      ⟨hh2.rd, hh2.ne, hh2.nb, hh2.rbb, hh2.hb, hh2.hr, hh2.hw, hh2.hs, there_in (k := 0) hth2 (by omega), hh2.ev, hh2.gb, hh2.gr⟩
    have hzf : ZF w2 fs (((putM (dfsOf T fs) 0 zs).map MVal.val).take (preN tg n')) := by
      have := zf_of (w := w2) e5
      rwa [List.map_take] at this
    refine RWL.append ?_
    refine genRF_ok kk h16 fs (L := L) (k := 0) (b := ab) (o := i * n') (h := ab) (cs := ((putM (dfsOf T fs) 0 zs).map MVal.val).take (preN tg n')) hfs hhE cx2 (by omega) hs6 (by omega) (by omega) (by omega) (by omega) ?_ (by rw [List.length_take, List.length_map]; omega) hzf ?_ ?_
    · intro j v hj
      rw [List.getElem?_take] at hj
      split at hj
      · exact hr2 j v hj
      · simp at hj
    · intro ρ3 w3 ds st3 cs3 k1 k2 k3 k4 k5 k6 k7 k8
      show RWL P N _ _ ρ3 w3
      have hh3 := hhE.keep k2 k4
      have W3 : Fr (· = rb) ab (i * n') n' w2 w3 := k2.wide (fun _ h => h) (by omega) (by omega)
      have cx3 := cx2.keep k1 (by omega) hs6 (by omega)
      refine (List.append_nil (tagsR G sf T (x + 5) tg (genRF R G sf fs T (x + 5) (t' + 6) (x + 6) (bk + 2)).2.1).1 ▸ (RWL.tags (x := x + 6) (L := L) (n := n') (m := preN tg n') (ds := ds) (cs := cs3) (rest := []) kk hh3 (Nat.lt_of_lt_of_le hh2.hw W3.size) (W3.there _ _ hth2) cx3 (by omega) hs6 (by omega) (by omega) (by omega) (by omega) ?_ k5 k6 k8 ?_) : RWL P N _ _ ρ3 w3)
      · unfold preN
        cases htg : tg with
        | none => exact (rfl : n' = n')
        | some q =>
          rw [htg] at e7
          simp only [Bool.and_eq_true, Nat.beq_eq] at e7
          obtain ⟨⟨⟨q1, q2'⟩, q3⟩, q4⟩ := e7
          refine ⟨rfl, q1, q2', ne0 q4, ?_⟩
          have hpq : preN tg n' = q.2 := by unfold preN; rw [htg]
          have hcell : w2.cell? ⟨ab, i * n' + q.2, none⟩ = some (.map none) := by
            refine hr2 q.2 _ ?_
            simp only [defTag] at q3
            rw [List.getElem?_map]
            split at q3
            · rename_i heq; rw [heq]; rfl
            · simp at q3
          rw [k2.cell (i * n' + q.2) (.inr (by omega))]
          exact hcell
      · intro ρ4 w4 tags st4 tl j1 j2 j3 j4 j5 j5' j6 j7
        show Q1 .normal ρ4 w4
        refine hK ρ4 w4 (.r ds tags) st4 (cs3 ++ tl) (fun s hs => by rw [j1 s (by omega), k1 s (by omega), q2 s hs]) (F2'.trans (W3.trans j2)) ?_ j4 j5 (by rw [List.length_append]; exact j5') ?_
        · unfold dec
          refine k3.bind ?_
          cases hb : (tg.isSome && flex) with
          | true =>
            rw [hb] at j3
            simp only [if_true] at j3 ⊢
            have : (dTags.map fun ts => D.r ds ts) = (dTags.map (fun ts => (ds, ts))).map (fun p => D.r p.1 p.2) := by
              funext l; unfold Dec.map; cases dTags l <;> rfl
            rw [this]
            exact j3.map (f := fun p => D.r p.1 p.2)
          | false =>
            rw [hb] at j3
            simp only [Bool.false_eq_true, if_false] at j3 ⊢
            have : (Dec.pure (D.r ds [])) = (Dec.pure (ds, ([] : List (Nat × List UInt8)))).map (fun p => D.r p.1 p.2) := by
              funext l; rfl
            rw [this]
            exact j3.map (f := fun p => D.r p.1 p.2)
        · unfold Rep
          exact ⟨ds, tags, rfl, by rw [List.length_append]; exact j5', RepF.more j6, j7⟩
    · intro ρ3 w3 k1 k2 k3 k4
      refine hK2 ρ3 w3 k1 (F2'.trans (k2.wide (fun _ h => h) (by omega) (by omega))) (fun d => ?_) k4
      unfold dec
      exact Got.bind (k := fun ds => if (tg.isSome && flex) = true then dTags.map (fun ts => D.r ds ts) else Dec.pure (D.r ds [])) (k3 []) (by exact rfl)
  | .arr _ _ _ _, ty, ety, x, bk, L, zs, hwf, hsl, hce, hz, hx9, hs, hxL => by simp [wfEl] at hwf
  | .enum _ _ _, ty, ety, x, bk, L, zs, hwf, hsl, hce, hz, hx9, hs, hxL => by simp [wfEl] at hwf
theorem genRF_ok (kk : RKOK P R G) (h16 : intTy P R.T.i16 .i16 = true) : ∀ (fs : Flds) {T vs t x bk L k b o n h : Nat} {ρ : Nat → Value} {w : World} {st : Option (List UInt8)} {cs : List Value} {Q : Exit → (Nat → Value) → World → Prop}, wfRF P R G sf fs T n k = true → FH P R rb sb h b o n ev st w → RCx sf flex ver rb vs b o ρ → 9 ≤ x → (∀ s, sf = some s → s < x) → vs < x → (genRF R G sf fs T vs t x bk).2.2.1 ≤ L → L ≤ t → (genRF R G sf fs T vs t x bk).2.1 ≤ N →
    w.rangeAt b o cs → cs.length = n → ZF w fs cs →
    (∀ ρ' w' ds st' cs', (∀ s, s < x → ρ' s = ρ s) → Fr (· = rb) b (o + k) (n - k) w w' → Got (decF ver flex fs) st ds st' → RdAt w' rb sb st' → w'.rangeAt b o cs' → cs'.length = n → cs'.take k = cs.take k → RepF w' (FB sb h w') fs cs' ds → Q .normal ρ' w') →
    (∀ ρ' w', ρ' 6 = ev → Fr (· = rb) b (o + k) (n - k) w w' → (∀ d, Got (decF ver flex fs) st d none) → RdAt w' rb sb none → Q .ret ρ' w') → RWL P N (genRF R G sf fs T vs t x bk).1 Q ρ w
  | .nil, T, vs, t, x, bk, L, k, b, o, n, h, ρ, w, st, cs, Q, hwf, hh, cx, hx9, hs, hvx, hxL, hL, hN, hr, hl, hz, hQ, hE => by
    unfold genRF
    exact hQ ρ w [] st cs (fun _ _ => rfl) (Fr.refl _ _ _ _ _) (by unfold decF; exact Got.pure _) hh.rd hr hl rfl (by unfold RepF; rfl)
  | .cons c idx off df ty rest, T, vs, t, x, bk, L, k, b, o, n, h, ρ, w, st, cs, Q, hwf, hh, cx, hx9, hs, hvx, hxL, hL, hN, hr, hl, hz, hQ, hE => by
    simp only [wfRF, Bool.and_eq_true, Nat.ble_eq] at hwf
    obtain ⟨⟨⟨g1, g2⟩, g3⟩, g4⟩ := hwf
    have hn : off + ty.cells ≤ n := wfRF_n rest g4
    unfold ZF at hz
    obtain ⟨z1, z2, z3, z4⟩ := hz
    simp only [genRF] at hxL hN ⊢
    have le1 := @condR_le R c t x (fun t => genRFld R G sf ty T vs idx t x bk) (fun t => genRFld_le ty)
    have le2 := genRF_le (R := R) (G := G) (sf := sf) rest (T := T) (vs := vs) (t := (condR R c t fun t => genRFld R G sf ty T vs idx t x bk).2.1) (x := (condR R c t fun t => genRFld R G sf ty T vs idx t x bk).2.2.1) (bk := (condR R c t fun t => genRFld R G sf ty T vs idx t x bk).2.2.2)
    have xeq : ∀ t', (genRFld R G sf ty T vs idx t' x bk).2.2.1 = (condR R c t fun t => genRFld R G sf ty T vs idx t x bk).2.2.1 := fun t' => by rw [condR_x (t2 := t') (fun a b => genRFld_x ty T vs idx a b x bk)]
    -- behind the field
    have next : ∀ (ρ1 : Nat → Value) (w1 : World) (d : D) (st1 : Option (List UInt8)) (cs1 : List Value), (∀ s, s < x → ρ1 s = ρ s) → Fr (· = rb) b (o + off) ty.cells w w1 → Got (if c.ok ver then dec ver flex ty else Dec.pure (dfl ty df)) st d st1 → RdAt w1 rb sb st1 → w1.rangeAt b o cs1 → cs1.length = n → cs1.take off = cs.take off → cs1.drop (off + ty.cells) = cs.drop (off + ty.cells) → Rep w1 (FB sb h w1) ty ((cs1.drop off).take ty.cells) d →
        RWL P N (genRF R G sf rest T vs (condR R c t fun t => genRFld R G sf ty T vs idx t x bk).2.1 (condR R c t fun t => genRFld R G sf ty T vs idx t x bk).2.2.1 (condR R c t fun t => genRFld R G sf ty T vs idx t x bk).2.2.2).1 Q ρ1 w1 := by
      intro ρ1 w1 d st1 cs1 e1 e2 e3 e4 e5 e6 e7 e8 e9
      have hh1 := hh.keep e2 e4
      have W : Fr (· = rb) b (o + k) (n - k) w w1 := e2.wide (fun _ h => h) (by omega) (by omega)
      have M : ∀ w2, Fr (· = rb) b (o + (off + ty.cells)) (n - (off + ty.cells)) w1 w2 → Fr (· = rb) b (o + k) (n - k) w w2 := fun w2 hf => W.trans (hf.wide (fun _ h => h) (by omega) (by omega))
      have cx1 : RCx sf flex ver rb vs b o ρ1 := cx.keep e1 hx9 hs hvx
      refine genRF_ok kk h16 rest (L := L) (k := off + ty.cells) (cs := cs1) g4 hh1 cx1 (by omega) (fun s e => by have := hs s e; omega) (by omega) hxL (by omega) hN e5 e6 (ZF.keep e8 (by rw [e6, hl]) rest g4 z4) ?_ ?_
      · intro ρ2 w2 ds st2 cs2 k1 k2 k3 k4 k5 k6 k7 k8
        refine hQ ρ2 w2 (d :: ds) st2 cs2 (fun s hs => by rw [k1 s (by omega), e1 s hs]) (M w2 k2) ?_ k4 k5 k6 ?_ ?_
        · unfold decF
          exact e3.bind (k3.map (f := fun ds => d :: ds))
        · have a1 : cs2.take k = (cs2.take (off + ty.cells)).take k := by rw [List.take_take, Nat.min_eq_left (by omega)]
          have a2 : cs1.take k = (cs1.take (off + ty.cells)).take k := by rw [List.take_take, Nat.min_eq_left (by omega)]
          have a3 : cs1.take k = (cs1.take off).take k := by rw [List.take_take, Nat.min_eq_left (by omega)]
          have a4 : cs.take k = (cs.take off).take k := by rw [List.take_take, Nat.min_eq_left (by omega)]
          rw [a1, k7, ← a2, a3, e7, ← a4]
        · unfold RepF
          refine ⟨by omega, d, ds, rfl, ?_, k8⟩
          rw [part_of_take k7 (Nat.le_refl _)]
          exact hh1.rep k2 e9
      · intro ρ2 w2 k1 k2 k3 k4
        refine hE ρ2 w2 k1 (M w2 k2) (fun ds => ?_) k4
        unfold decF
        refine e3.bind (Got.bind (k := fun ds => Dec.pure (d :: ds)) (k3 []) ?_)
        exact rfl
    show RW P N _ _ ρ w
    refine condR_ok (L := L) h16 cx.r8 (by omega) hL (fun t => (genRFld_le ty).1) (by omega) (fun hc ρ1 t1 a1 a2 a3 => ?_) (fun hc ρ1 a1 => ?_)
    · refine genRFld_ok kk h16 (L := L) ty g3 g2 hh (cx.keep (fun s hs => a1 s (by omega)) hx9 hs hvx) hx9 hs hvx (by rw [xeq]; omega) a2 a3 hn (fun e => hr off _ (z3 e)) ⟨_, df, range_part (k := off) (m := ty.cells) hr, by rw [List.length_take, List.length_drop]; omega, z2⟩ ?_ ?_
      · intro ρ2 w2 d st2 vs k1 k2 k3 k4 k5 k6 k7
        have hk : off + vs.length ≤ cs.length := by omega
        refine next ρ2 w2 d st2 (splice off vs cs) (fun s hs => by rw [k1 s hs, a1 s (by omega)]) k2 (by rw [if_pos hc]; exact k3) k4 (range_splice hr (by rw [k6]; exact k2) k5 hk) (by rw [splice_len hk, hl]) (splice_take hk) (by rw [← k6]; exact splice_drop hk) ?_
        have := splice_mid hk
        rw [k6] at this
        rw [this]; exact k7
      · intro ρ2 w2 k1 k2 k3 k4
        refine hE ρ2 w2 k1 (k2.wide (fun _ h => h) (by omega) (by omega)) (fun ds => ?_) k4
        unfold decF
        rw [if_pos hc]
        exact Got.bind (k := fun d => (decF ver flex rest).map (fun ds => d :: ds)) (k3 (.n 0)) (by exact rfl)
    · refine next ρ1 w (dfl ty df) st cs (fun s hs => a1 s (by omega)) (Fr.refl _ _ _ _ _) (by rw [hc]; exact Got.pure _) hh.rd hr hl rfl rfl ?_
      exact Rep.mono (fun _ h => h.elim) (fun _ h => h.elim) ty z2
end
end
end Go.Kx
namespace Go.Kx
open Go.RowKit
set_option linter.unusedSimpArgs false
set_option linter.unusedVariables false

def Plan.sfR (p : Plan) : Option Nat := p.fl.map fun _ => 9
def Plan.vsR (p : Plan) : Nat := match p.fl with | none => 9 | some _ => 10

def flexR (R : RN) (p : Plan) (t : Nat) : List MCode × Nat :=
  match p.fl with
  | none => ([], t)
  | some k => ([.rg [.mv t (.t 8), .bi (t + 1) .geq R.T.i16 (.t t) (.c (.int .i16 k)), .mv 9 (.t (t + 1))], .rg [.mv (t + 2) (.t 9)]], t + 3)

def cRF (R : RN) (G : TG) (p : Plan) (fDef L : Nat) : MCode × Nat :=
  let h := flexR R p (L + 9)
  let f := genRF R G p.sfR p.fs p.T p.vsR (h.2 + 1) (p.vsR + 1) 0
  let g := tagsR G p.sfR p.T p.vsR p.tg f.2.1
  (rows ([.rg [.mv 6 (.c .niface)], .rg [.mv L (.t 0), .ca (L + 1) fDef [.t L]], .rg [.mv (L + 2) (.t 1), .bdl (L + 3) R.tR [(0, .t (L + 2))], .al 7 R.tR, .st R.tR 7 (L + 3)],
    (loadA p.T 0 0 R.T.i16 8 (L + 4)).1, .rg [.mv (L + 8) (.t 8)]] ++ (h.1 ++ ([.rg [.mv h.2 (.t 0), .mv p.vsR (.t h.2)]] ++ (f.1 ++ (g.1 ++ [.rg [.ca g.2 R.compl [.t 7], .mv 6 (.t g.2)], .rt]))))), g.2 + 1)

/-- How many cells lie before the tags; how many there are. -/
def Plan.pre (p : Plan) (n : Nat) : Nat := match p.tg with | none => n | some q => q.2

mutual
def ge1 : Df → Nat → Bool
  | .st _ _ off _ _, o => Nat.ble 1 (o + off)
  | .sub _ _ off l, o => geD l (o + off)
def geD : Dfs → Nat → Bool
  | .nil, _ => true
  | .cons d r, o => ge1 d o && geD r o
end
mutual
theorem put1_first {a b : Value} {cs : List Value} : ∀ (d : Df) (o : Nat), ge1 d o = true → ∃ cs', put1 d o (a :: cs) = a :: cs' ∧ put1 d o (b :: cs) = b :: cs'
  | .st _ _ off _ v, o, h => by
    simp only [ge1, Nat.ble_eq] at h
    obtain ⟨k, hk⟩ : ∃ k, o + off = k + 1 := ⟨o + off - 1, by omega⟩
    unfold put1
    rw [hk]
    exact ⟨_, rfl, rfl⟩
  | .sub _ _ off l, o, h => by
    unfold ge1 at h
    unfold put1
    exact putD_first l _ h
theorem putD_first {a b : Value} {cs : List Value} : ∀ (l : Dfs) (o : Nat), geD l o = true → ∃ cs', putD l o (a :: cs) = a :: cs' ∧ putD l o (b :: cs) = b :: cs'
  | .nil, o, h => by unfold putD; exact ⟨cs, rfl, rfl⟩
  | .cons d r, o, h => by
    simp only [geD, Bool.and_eq_true] at h
    obtain ⟨c1, e1, e2⟩ := put1_first (a := a) (b := b) (cs := cs) d o h.1
    unfold putD
    rw [e1, e2]
    exact putD_first r o h.2
end

def eqMs : List MVal → List MVal → Bool
  | [], [] => true
  | a :: as, b :: bs => a.is b.val && eqMs as bs
  | _, _ => false
theorem eqMs_eq : ∀ {a b : List MVal}, eqMs a b = true → a.map MVal.val = b.map MVal.val
  | [], [], _ => rfl
  | [], _ :: _, h => by simp [eqMs] at h
  | _ :: _, [], h => by simp [eqMs] at h
  | a :: as, b :: bs, h => by
    simp only [eqMs, Bool.and_eq_true] at h
    simp only [List.map_cons]
    rw [eqMs_eq h.2, MVal.is_eq h.1]

/-- readFrom's tests; rest: a new message's cells behind the version. -/
def rfB (P : Program) (R : RN) (G : TG) (p : Plan) (fDef : Nat) (df : Dfs) (rest : List MVal) (L N : Nat) : List Bool :=
  [wfRF P R G p.sfR p.fs p.T (p.pre (rest.length + 1)) 1, fieldAtB P p.T 0 0, Nat.ble (genRF R G p.sfR p.fs p.T p.vsR ((flexR R p (L + 9)).2 + 1) (p.vsR + 1) 0).2.2.1 L, Nat.ble (cRF R G p fDef L).2 N, intTy P R.T.i16 .i16, plainTy P R.T.i16,
   zfB p.fs ((.int .i16 0 :: rest).take (p.pre (rest.length + 1))), geD df 0, eqMs (putM df 0 (.int .i16 0 :: rest)) (.int .i16 0 :: rest),
   isFn0 P fDef (rows (genD 0 df (defT0 df) 2).1) (genD 0 df (defT0 df) 2).2.1, okD P (rest.length + 1) df 0, Nat.ble (genD 0 df (defT0 df) 2).2.2 (defT0 df),
   zeroIs P R.tR [.nslice, .bool false], plcB P R.tR 2, cellsB P R.tR 2,
   (match p.tg with | none => true | some q => Nat.beq (rest.length + 1) (q.2 + 1) && fieldAtB P p.T q.1 q.2 && defTag p.tg (.int .i16 0 :: rest) && !(Nat.beq G.fRead 0) && Nat.ble 1 q.2)]

section
variable {P : Program} {N : Nat} {Q : Exit → (Nat → Value) → World → Prop} {ρ : Nat → Value} {w w' : World} {ms : List MOp} {R : RN} {G : TG} {rb sb h b o n : Nat} {ev : Value} {st st' : Option (List UInt8)} {sf : Option Nat} {flex : Bool} {ver : Int}

/-- What readFrom does: the message at block b says what the octets say; or the reader's error. -/
def RFC (P : Program) (f : Nat) (p : Plan) (gE : Nat) (rest : List MVal) : Prop := entersB P f = true ∧ ∀ (w : World) (b sb : Nat) (ad : Option Addr) (l : List UInt8) (c : Nat) (ver : Int) (ev : Value), w.rangeAt b 0 (.int .i16 ver :: rest.map MVal.val) → w.there b 0 (rest.length + 1) → BytesAt w (· = sb) ad l → okAd ad → l.length ≤ c → sb < w.heap.size → sb ≠ b → w.cell? ⟨gE, 0, none⟩ = some ev → gE ≠ b →
  Calls P f #[.pointer (some ⟨b, 0, none⟩), .slice ad l.length c, .bool false] w (fun e w' => Fr (fun _ => False) b 0 (rest.length + 1) w w' ∧
    ((∃ ds tags r cs, decTop p ver l = some ((ds, tags), r) ∧ e = .returned MVal.niface.val ∧ MsgAt w' (fun k => k = b ∨ k = sb ∨ (w.heap.size ≤ k ∧ k < w'.heap.size)) p ⟨b, 0, none⟩ ver ds tags cs) ∨ (decTop p ver l = none ∧ e = .returned ev)))

theorem Got.top {p : Plan} {ver : Int} {ds : List D} {tags : List Tg} {st1 st2 : Option (List UInt8)} (h1 : Got (decF ver (p.flex ver) p.fs) st ds st1) (h2 : Got (if p.tg.isSome && p.flex ver then dTags.map (fun ts => (ds, ts)) else Dec.pure (ds, [])) st1 (ds, tags) st2) : Got (decTop p ver) st (ds, tags) st2 := by
  unfold decTop
  exact h1.bind h2

end
end Go.Kx
namespace Go.Kx
open Go.RowKit
set_option linter.unusedSimpArgs false
set_option linter.unusedVariables false

section
variable {P : Program} {R : RN} {G : TG}

theorem decTop_fail {p : Plan} {ver : Int} {l : List UInt8} (h : ∀ ds, Got (decF ver (p.flex ver) p.fs) (some l) ds none) : decTop p ver l = none := by
  have : decF ver (p.flex ver) p.fs l = none := h []
  unfold decTop Dec.bind
  rw [this]

/-- readFrom behind the version. -/
theorem rf_core {p : Plan} {L N t0 : Nat} {rest : List MVal} {rb sb b : Nat} {ver : Int} {ev : Value} {st : Option (List UInt8)} {w0 w2 : World} {ρ3 : Nat → Value} (kk : RKOK P R G) (h5 : intTy P R.T.i16 .i16 = true) (h1 : wfRF P R G p.sfR p.fs p.T (p.pre (rest.length + 1)) 1 = true)
    (h3 : (genRF R G p.sfR p.fs p.T p.vsR ((flexR R p (t0 + 1)).2 + 1) (p.vsR + 1) 0).2.2.1 ≤ L) (hLt : L ≤ t0) (hN : (tagsR G p.sfR p.T p.vsR p.tg (genRF R G p.sfR p.fs p.T p.vsR ((flexR R p (t0 + 1)).2 + 1) (p.vsR + 1) 0).2.1).2 + 1 ≤ N)
    (h7 : zfB p.fs ((.int .i16 0 :: rest).take (p.pre (rest.length + 1))) = true) (h16 : (match p.tg with | none => true | some q => Nat.beq (rest.length + 1) (q.2 + 1) && fieldAtB P p.T q.1 q.2 && defTag p.tg (.int .i16 0 :: rest) && !(Nat.beq G.fRead 0) && Nat.ble 1 q.2) = true)
    (hrb : w0.heap.size ≤ rb) (hb0 : b < w0.heap.size) (hFH : FH P R rb sb rb b 0 (rest.length + 1) ev st w2) (hr2 : w2.rangeAt b 0 (.int .i16 ver :: rest.map MVal.val)) (ht2 : w2.there b 0 (rest.length + 1)) (F2 : Fr (fun _ => False) b 0 (rest.length + 1) w0 w2)
    (p0 : ρ3 0 = .pointer (some ⟨b, 0, none⟩)) (c7 : ρ3 7 = .pointer (some ⟨rb, 0, none⟩)) (p2 : ρ3 2 = .bool false) (c2 : ρ3 8 = .int .i16 ver) :
    RWL P N (.rg [.mv t0 (.t 8)] :: ((flexR R p (t0 + 1)).1 ++ (.rg [.mv (flexR R p (t0 + 1)).2 (.t 0), .mv p.vsR (.t (flexR R p (t0 + 1)).2)] :: ((genRF R G p.sfR p.fs p.T p.vsR ((flexR R p (t0 + 1)).2 + 1) (p.vsR + 1) 0).1 ++ ((tagsR G p.sfR p.T p.vsR p.tg (genRF R G p.sfR p.fs p.T p.vsR ((flexR R p (t0 + 1)).2 + 1) (p.vsR + 1) 0).2.1).1 ++ [.rg [.ca (tagsR G p.sfR p.T p.vsR p.tg (genRF R G p.sfR p.fs p.T p.vsR ((flexR R p (t0 + 1)).2 + 1) (p.vsR + 1) 0).2.1).2 R.compl [.t 7], .mv 6 (.t (tagsR G p.sfR p.T p.vsR p.tg (genRF R G p.sfR p.fs p.T p.vsR ((flexR R p (t0 + 1)).2 + 1) (p.vsR + 1) 0).2.1).2)], .rt])))))
      (retQ 6 (fun e w' => Fr (fun _ => False) b 0 (rest.length + 1) w0 w' ∧ ((∃ ds tags r cs, Got (decTop p ver) st (ds, tags) (some r) ∧ e = .returned MVal.niface.val ∧ MsgAt w' (fun k => k = b ∨ k = sb ∨ (w0.heap.size ≤ k ∧ k < w'.heap.size)) p ⟨b, 0, none⟩ ver ds tags cs) ∨ ((∀ x, Got (decTop p ver) st x none) ∧ e = .returned ev)))) ρ3 w2 := by
  have hxx : 9 ≤ p.vsR := by unfold Plan.vsR; split <;> omega
  have hgl := genRF_le (R := R) (G := G) (sf := p.sfR) p.fs (T := p.T) (vs := p.vsR) (t := (flexR R p (t0 + 1)).2 + 1) (x := p.vsR + 1) (bk := 0)
  have hfl : t0 + 1 ≤ (flexR R p (t0 + 1)).2 := by unfold flexR; split <;> simp
  have htl : ∀ t, t ≤ (tagsR G p.sfR p.T p.vsR p.tg t).2 := by intro t; unfold tagsR; split <;> simp
  have htl' := htl (genRF R G p.sfR p.fs p.T p.vsR ((flexR R p (t0 + 1)).2 + 1) (p.vsR + 1) 0).2.1
  have hL : p.vsR + 1 ≤ L := by omega
  have hlenV : (Value.int .i16 ver :: rest.map MVal.val).length = rest.length + 1 := by simp
  refine RW.rg (RL.step (MR.mv c2 (ltT (by omega))) (RL.nil ?_) (by omega))
  have fin : ∀ (ρ4 : Nat → Value) (t4 : Nat), (∀ s, s < 9 → ρ4 s = ρ3 s) → (∀ s, p.sfR = some s → ρ4 s = .bool (p.flex ver)) → (p.sfR = none → p.flex ver = false) → t4 = (flexR R p (t0 + 1)).2 →
      RWL P N (.rg [.mv t4 (.t 0), .mv p.vsR (.t t4)] :: ((genRF R G p.sfR p.fs p.T p.vsR (t4 + 1) (p.vsR + 1) 0).1 ++ ((tagsR G p.sfR p.T p.vsR p.tg (genRF R G p.sfR p.fs p.T p.vsR (t4 + 1) (p.vsR + 1) 0).2.1).1 ++ [.rg [.ca (tagsR G p.sfR p.T p.vsR p.tg (genRF R G p.sfR p.fs p.T p.vsR (t4 + 1) (p.vsR + 1) 0).2.1).2 R.compl [.t 7], .mv 6 (.t (tagsR G p.sfR p.T p.vsR p.tg (genRF R G p.sfR p.fs p.T p.vsR (t4 + 1) (p.vsR + 1) 0).2.1).2)], .rt])))
        (retQ 6 (fun e w' => Fr (fun _ => False) b 0 (rest.length + 1) w0 w' ∧ ((∃ ds tags r cs, Got (decTop p ver) st (ds, tags) (some r) ∧ e = .returned MVal.niface.val ∧ MsgAt w' (fun k => k = b ∨ k = sb ∨ (w0.heap.size ≤ k ∧ k < w'.heap.size)) p ⟨b, 0, none⟩ ver ds tags cs) ∨ ((∀ x, Got (decTop p ver) st x none) ∧ e = .returned ev)))) ρ4 w2 := by
    intro ρ4 t4 d1 d2 d3 d4
    subst d4
    refine mv2_ok (L := L) (a := 0) (v := .pointer (some ⟨b, 0, none⟩)) (by rw [d1 0 (by omega)]; exact p0) (by omega) (by omega) (by omega) (by omega) fun ρ5 e1 e2 => ?_
    have cx5 : RCx p.sfR (p.flex ver) ver rb p.vsR b 0 ρ5 := by
      refine ⟨?_, ?_, ?_, fun s hs => ?_, d3, e2⟩
      · rw [e1 7 (by omega) (by omega), d1 7 (by omega)]; exact c7
      · rw [e1 2 (by omega) (by omega), d1 2 (by omega)]; exact p2
      · rw [e1 8 (by omega) (by omega), d1 8 (by omega)]; exact c2
      · have hs9 : s = 9 ∧ p.vsR = 10 := by
          unfold Plan.sfR at hs; unfold Plan.vsR
          cases hfl' : p.fl with
          | none => rw [hfl'] at hs; simp at hs
          | some k => rw [hfl'] at hs; simp only [Option.map_some, Option.some.injEq] at hs; exact ⟨hs.symm, rfl⟩
        rw [e1 s (by omega) (by omega)]; exact d2 s hs
    have hsx : ∀ s, p.sfR = some s → s < p.vsR + 1 := by
      intro s hs
      unfold Plan.sfR at hs; unfold Plan.vsR
      cases hfl' : p.fl with
      | none => rw [hfl'] at hs; simp at hs
      | some k => rw [hfl'] at hs; simp only [Option.map_some, Option.some.injEq] at hs; simp only; omega
    -- the cells ahead of the tags
    have hpre : p.pre (rest.length + 1) ≤ rest.length + 1 := by
      unfold Plan.pre
      cases htg : p.tg with
      | none => exact Nat.le_refl _
      | some q => rw [htg] at h16; simp only [Bool.and_eq_true, Nat.beq_eq] at h16; simp only; omega
    have hpre1 : 1 ≤ p.pre (rest.length + 1) := by
      unfold Plan.pre
      cases htg : p.tg with
      | none => simp only; omega
      | some q => rw [htg] at h16; simp only [Bool.and_eq_true, Nat.ble_eq] at h16; exact h16.2
    have hFHp : FH P R rb sb rb b 0 (p.pre (rest.length + 1)) ev st w2 := ⟨hFH.rd, hFH.ne, hFH.nb, hFH.rbb, hFH.hb, hFH.hr, hFH.hw, hFH.hs, there_in (k := 0) ht2 (by omega), hFH.ev, hFH.gb, hFH.gr⟩
    have hzf : ZF w2 p.fs ((Value.int .i16 ver :: rest.map MVal.val).take (p.pre (rest.length + 1))) := by
      have z0 := zf_of (w := w2) h7
      rw [List.map_take, List.map_cons] at z0
      obtain ⟨m, hm⟩ : ∃ m, p.pre (rest.length + 1) = m + 1 := ⟨p.pre (rest.length + 1) - 1, by omega⟩
      rw [hm] at z0 h1 ⊢
      refine ZF.keep (sf := p.sfR) (P := P) (R := R) (G := G) (k := 1) ?_ ?_ p.fs h1 z0
      · simp [List.take_succ_cons]
      · simp [List.take_succ_cons]
    refine RWL.append ?_
    refine genRF_ok (L := L) (k := 1) (b := b) (o := 0) (cs := (Value.int .i16 ver :: rest.map MVal.val).take (p.pre (rest.length + 1))) kk h5 p.fs h1 hFHp cx5 (by omega) hsx (by omega) h3 (by omega) (by omega) ?_ ?_ hzf ?_ ?_
    · intro j v hj
      rw [List.getElem?_take] at hj
      split at hj
      · exact hr2 j v hj
      · simp at hj
    · rw [List.length_take, hlenV]; omega
    · intro ρ6 w6 ds st6 cs6 k1 k2 k3 k4 k5 k6 k7 k8
      show RWL P N _ _ ρ6 w6
      have hh6 := hFHp.keep k2 k4
      have W6 : Fr (· = rb) b 0 (rest.length + 1) w2 w6 := k2.wide (fun _ h => h) (by omega) (by omega)
      have cx6 := cx5.keep k1 (by omega) hsx (by omega)
      refine RWL.tags (x := p.vsR + 1) (L := L) (n := rest.length + 1) (m := p.pre (rest.length + 1)) (ds := ds) (cs := cs6) kk hh6 (Nat.lt_of_lt_of_le (Nat.lt_of_lt_of_le hb0 F2.size) W6.size) (W6.there _ _ ht2) cx6 (by omega) hsx (by omega) (by omega) (by omega) (by omega) ?_ k5 k6 k8 ?_
      · unfold Plan.pre
        cases htg : p.tg with
        | none => exact (rfl : rest.length + 1 = rest.length + 1)
        | some q =>
          rw [htg] at h16
          simp only [Bool.and_eq_true, Nat.beq_eq] at h16
          obtain ⟨⟨⟨⟨q1, q2⟩, q3⟩, q4⟩, q5⟩ := h16
          refine ⟨rfl, q1, q2, ne0 q4, ?_⟩
          have hpq : p.pre (rest.length + 1) = q.2 := by unfold Plan.pre; rw [htg]
          have hcell : w2.cell? ⟨b, 0 + q.2, none⟩ = some (.map none) := by
            refine hr2 q.2 _ ?_
            simp only [defTag] at q3
            have q5' : 1 ≤ q.2 := by simpa using q5
            obtain ⟨m, hm⟩ : ∃ m, q.2 = m + 1 := ⟨q.2 - 1, by omega⟩
            rw [hm, List.getElem?_cons_succ] at q3 ⊢
            rw [List.getElem?_map]
            split at q3
            · rename_i heq; rw [heq]; rfl
            · simp at q3
          rw [k2.cell (0 + q.2) (.inr (by omega))]
          exact hcell
      · intro ρ7 w7 tags st7 tl j1 j2 j3 j4 j5 j5' j6 j7
        have hh7 := hh6.keep j2 j4
        have F7 : Fr (fun _ => False) b 0 (rest.length + 1) w0 w7 := ((F2.wide (X' := (· = rb)) (fun _ x => x.elim) (Nat.le_refl _) (Nat.le_refl _)).trans (W6.trans j2)).drop (fun k hk => .inr (by omega))
        have hgot : Got (decTop p ver) st (ds, tags) st7 := Got.top k3 j3
        refine RW.rg (RL.ca (R := fun v w' => v = complV ev st7 ∧ w7 = w') kk.compl.1 ?_ ?_ (by omega) (by simp [MX.lt, Nat.blt_eq]; omega))
        · simp only [List.map_cons, List.map_nil, xof]
          rw [j1 7 (by omega), cx6.r7]
          refine Calls.mono (kk.compl.2 w7 rb sb st7 ev j4 hh7.ev) ?_
          rintro e w' ⟨rfl, rfl⟩
          exact ⟨_, rfl, rfl, rfl⟩
        rintro v w8 ⟨rfl, rfl⟩
        refine RL.step (MR.mv (upd_same _ _ _) (ltT (by omega))) (RL.nil (RW.rt ⟨F7, ?_⟩)) (by omega)
        rw [upd_same]
        cases st7 with
        | none => exact .inr ⟨fun x => hgot, rfl⟩
        | some r =>
          refine .inl ⟨ds, tags, r, cs6 ++ tl, hgot, rfl, rfl, .inl rfl, j5, ?_, ?_, ?_⟩
          · have e0 : cs6[0]? = some (.int .i16 ver) := by
              have e3 : ∀ l : List Value, l[0]? = (l.take 1)[0]? := fun l => by rw [List.getElem?_take]; rfl
              rw [e3, k7, List.take_take, Nat.min_eq_left hpre1]
              rfl
            rw [List.getElem?_append_left (by omega)]; exact e0
          · refine RepF.more (RepF.mono (fun k hk => ?_) (fun k _ => rfl) _ j6)
            rcases hk with hk | ⟨hk, hk'⟩
            · exact .inr (.inl hk)
            · exact .inr (.inr ⟨by omega, hk'⟩)
          · refine j7.mono (fun k hk => ?_) (fun k _ => rfl)
            rcases hk with hk | ⟨hk, hk'⟩
            · exact .inr (.inl hk)
            · exact .inr (.inr ⟨by omega, hk'⟩)
    · intro ρ6 w6 k1 k2 k3 k4
      show Fr _ b 0 _ w0 w6 ∧ _
      have W6 : Fr (· = rb) b 0 (rest.length + 1) w2 w6 := k2.wide (fun _ h => h) (by omega) (by omega)
      refine ⟨((F2.wide (X' := (· = rb)) (fun _ x => x.elim) (Nat.le_refl _) (Nat.le_refl _)).trans W6).drop (fun k hk => .inr (by omega)), .inr ⟨fun x => ?_, ?_⟩⟩
      · obtain ⟨ds, tags⟩ := x
        unfold decTop
        exact Got.bind (k := fun ds => if (p.tg.isSome && p.flex ver) = true then dTags.map (fun ts => (ds, ts)) else Dec.pure (ds, [])) (k3 []) (by exact rfl)
      show Ending.returned (ρ6 6) = _
      rw [k1]
  unfold flexR at fin ⊢
  cases hfl' : p.fl with
  | none =>
    rw [hfl'] at fin
    simp only [List.nil_append] at fin ⊢
    refine fin _ _ (fun s hs => by (repeat (first | rw [upd_same] | rw [upd_ne _ _ (by omega)]))) (fun s hs => ?_) (fun _ => by unfold Plan.flex; rw [hfl']) rfl
    unfold Plan.sfR at hs; rw [hfl'] at hs; simp at hs
  | some k =>
    have hfN : t0 + 1 + 3 ≤ N := by have := hfl; unfold flexR at hfl hgl hN htl'; rw [hfl'] at hgl htl' hN; simp only at hgl htl' hN; omega
    rw [hfl'] at fin
    simp only [List.cons_append, List.nil_append] at fin ⊢
    refine RW.rg (RL.step (MR.mv (v := .int .i16 ver) (by show upd _ _ _ 8 = _; (repeat (first | rw [upd_same] | rw [upd_ne _ _ (by omega)])); exact c2) (ltT (by omega))) (RL.step (MR.biE (v := .bool (decide ((k : Int) ≤ ver))) (by show evB .geq (upd _ _ _ _) (.int .i16 (k : Nat)) = _; rw [upd_same]; rfl) (ltT (by omega)) rfl) (RL.step (MR.mv (upd_same _ _ _) (ltT (by omega))) (RL.nil ?_) (by omega)) (by omega)) (by omega))
    refine RW.rg (RL.step (MR.mv (upd_same _ _ _) (ltT (by omega))) (RL.nil ?_) (by omega))
    refine fin _ _ (fun s hs => by (repeat (first | rw [upd_same] | rw [upd_ne _ _ (by omega)]))) (fun s hs => ?_) (fun hs => ?_) rfl
    · unfold Plan.sfR at hs; rw [hfl'] at hs
      simp only [Option.map_some, Option.some.injEq] at hs
      subst hs
      unfold Plan.flex; rw [hfl']
      (repeat (first | rw [upd_same] | rw [upd_ne _ _ (by omega)]))
    · unfold Plan.sfR at hs; rw [hfl'] at hs; simp at hs

theorem rf_of {f fDef L N : Nat} {p : Plan} {df : Dfs} {rest : List MVal} (kk : RKOK P R G) (h : (rfB P R G p fDef df rest L N).all id = true) (hf : FnIs P f (cRF R G p fDef L).1 N 6) : RFC P f p R.gErr rest := by
  simp only [rfB, List.all_cons, List.all_nil, id_eq, Bool.and_true, Bool.and_eq_true, Nat.ble_eq] at h
  obtain ⟨h1, h2, h3, h4, h5, h6, h7, h8, h9, h10, h11, h12, h13, h14, h15, h16⟩ := h
  have hdef : DefD P fDef (rest.length + 1) df := defD_of (FnIs0.of h10) h11 h12
  refine ⟨hf.ent, fun w b sb ad l c ver ev hr ht hb had hlc hsb hne hev hgb => ?_⟩
  -- numbers
  have hxx : 9 ≤ p.vsR := by unfold Plan.vsR; split <;> omega
  have hgl := genRF_le (R := R) (G := G) (sf := p.sfR) p.fs (T := p.T) (vs := p.vsR) (t := (flexR R p (L + 9)).2 + 1) (x := p.vsR + 1) (bk := 0)
  have hfl : L + 9 ≤ (flexR R p (L + 9)).2 := by unfold flexR; split <;> simp
  have htl : ∀ t, t ≤ (tagsR G p.sfR p.T p.vsR p.tg t).2 := by intro t; unfold tagsR; split <;> simp
  have hN : (tagsR G p.sfR p.T p.vsR p.tg (genRF R G p.sfR p.fs p.T p.vsR ((flexR R p (L + 9)).2 + 1) (p.vsR + 1) 0).2.1).2 + 1 ≤ N := h4
  have htl' := htl (genRF R G p.sfR p.fs p.T p.vsR ((flexR R p (L + 9)).2 + 1) (p.vsR + 1) 0).2.1
  have hL : p.vsR + 1 ≤ L := by omega
  have hbw : b < w.heap.size := World.block_lt_of_cell? w _ (hr 0 _ rfl)
  have hlenV : (Value.int .i16 ver :: rest.map MVal.val).length = rest.length + 1 := by simp
  -- Default keeps a new message's cells
  have hput : putD df 0 (.int .i16 ver :: rest.map MVal.val) = .int .i16 ver :: rest.map MVal.val := by
    obtain ⟨cs', e1, e2⟩ := putD_first (a := Value.int .i16 0) (b := .int .i16 ver) (cs := rest.map MVal.val) df 0 h8
    have e3 := eqMs_eq h9
    rw [putM_val] at e3
    simp only [List.map_cons, MVal.val] at e3
    rw [e1] at e3
    rw [e2, (List.cons.inj e3).2]
  refine hf.runs (args := [.pointer (some ⟨b, 0, none⟩), .slice ad l.length c, .bool false]) (by simp; omega) (by omega) ?_
  simp only [cRF]
  refine RWL.rows ?_
  simp only [List.cons_append, List.nil_append]
  refine mvc_ok (L := L) (by omega) (by omega) fun ρ1 a1 a2 => ?_
  have p0 : ρ1 0 = .pointer (some ⟨b, 0, none⟩) := by rw [a1 0 (by omega) (by omega)]; rfl
  have p1 : ρ1 1 = .slice ad l.length c := by rw [a1 1 (by omega) (by omega)]; rfl
  have p2 : ρ1 2 = .bool false := by rw [a1 2 (by omega) (by omega)]; rfl
  -- Default
  refine RW.rg (RL.step (MR.mv p0 (ltT (by omega))) (RL.ca (R := fun _ w' => w'.rangeAt b 0 (.int .i16 ver :: rest.map MVal.val) ∧ Fr (fun _ => False) b 0 (rest.length + 1) w w') hdef.1 ?_ ?_ (by omega) (by simp [MX.lt, Nat.blt_eq]; omega)) (by omega))
  · simp only [List.map_cons, List.map_nil, xof]
    rw [upd_same]
    refine Calls.mono (hdef.2 w b 0 _ hr ht hlenV) ?_
    rintro e w' ⟨rfl, g1, g2⟩
    exact ⟨_, rfl, by rw [hput] at g1; exact g1, g2⟩
  rintro v1 w1 ⟨hr1, F1⟩
  refine RL.nil ?_
  have hb1 : BytesAt w1 (· = sb) ad l := hb.mono (fun _ h => h) (fun k hk => by rw [hk]; exact F1.block sb hsb hne (fun x => x))
  -- the reader
  have hz := zeroIs_of h13
  refine RW.rg (RL.step (MR.mv (v := .slice ad l.length c) (by show upd _ _ _ 1 = _; (repeat (first | rw [upd_same] | rw [upd_ne _ _ (by omega)])); exact p1) (ltT (by omega))) (RL.step (MR.bdl (w' := w1) (v := .agg #[.slice ad l.length c, .bool false]) ?_ (by simp [MX.lt, Nat.blt_eq]; omega)) (RL.alst (z := [.slice none 0 0, .bool false]) (cs := [.slice ad l.length c, .bool false]) (n := 2) hz (upd_same _ _ _) (by omega) rfl rfl h15 rfl ?_ (by omega) (by omega)) (by omega)) (by omega))
  · have hbd := built_of (z := [.slice none 0 0, .bool false]) (parts := [(0, .slice ad l.length c)]) (cells := [.slice ad l.length c, .bool false]) hz h14 (by simp [Value.cells]) rfl w1
    simp only [List.map_cons, List.map_nil, xof]
    rw [upd_same]
    exact hbd
  intro w2 b2 s2 r2 t2
  refine RL.nil ?_
  have hs1 := F1.size
  have R2 : RdAt w2 w1.heap.size sb (some l) := by
    refine ⟨ad, c, r2, t2, had, hlc, fun j y hj => ?_⟩
    obtain ⟨g, o, e1, e2, e3⟩ := hb1 j y hj
    exact ⟨g, o, e1, e2, b2.kp _ _ e3⟩
  have hr2 : w2.rangeAt b 0 (.int .i16 ver :: rest.map MVal.val) := range_keep hr1 (b2.block b (by omega))
  have ht2 : w2.there b 0 (rest.length + 1) := there_keep (F1.there _ _ ht) (b2.block b (by omega))
  have F2 : Fr (fun _ => False) b 0 (rest.length + 1) w w2 := F1.trans (Fr.ofBelow b2 (by omega))
  -- the version
  refine loadR_ok (L := L) (b := b) (o := 0) (off := 0) (v := .int .i16 ver) h2 h6 (by (repeat (first | rw [upd_same] | rw [upd_ne _ _ (by omega)])); exact p0) (hr2 0 _ rfl) (by omega) (by omega) (by omega) (by omega) fun ρ3 c1 c2 => ?_
  have keep3 : ∀ s, s < 6 → ρ3 s = ρ1 s := fun s hs => by rw [c1 s (by omega) (by omega)]; (repeat (first | rw [upd_same] | rw [upd_ne _ _ (by omega)]))
  have c7 : ρ3 7 = .pointer (some ⟨w1.heap.size, 0, none⟩) := by rw [c1 7 (by omega) (by omega)]; (repeat (first | rw [upd_same] | rw [upd_ne _ _ (by omega)]))
  have hrun := rf_core (p := p) (L := L) (N := N) (t0 := L + 8) (rest := rest) (rb := w1.heap.size) (sb := sb) (b := b) (ver := ver) (ev := ev) (st := some l) (w0 := w) (w2 := w2) (ρ3 := ρ3) kk h5 h1 h3 (by omega) hN h7 h16 hs1 hbw
    ⟨R2, by omega, hne, by omega, by omega, Nat.le_refl _, by omega, by omega, ht2, b2.kp _ _ (by rw [cell_of_heap (F1.block _ (World.block_lt_of_cell? w _ hev) hgb (fun x => x))]; exact hev), hgb, by have := World.block_lt_of_cell? w _ hev; exact fun e => by simp only at this; omega⟩ hr2 ht2 F2 (by rw [keep3 0 (by omega)]; exact p0) c7 (by rw [keep3 2 (by omega)]; exact p2) c2
  refine RWL.mono hrun ?_
  intro e ρ' w' h
  cases e <;> first | exact h | skip
  obtain ⟨h1, ⟨ds, tags, r, cs, h2, h3, h4⟩ | ⟨h2, h3⟩⟩ := h
  · exact ⟨h1, .inl ⟨ds, tags, r, cs, h2, h3, h4⟩⟩
  · exact ⟨h1, .inr ⟨h2 default, h3⟩⟩
end
end Go.Kx
namespace Go.Kx
open Go.RowKit
set_option linter.unusedSimpArgs false
set_option linter.unusedVariables false

section
variable {P : Program} {N : Nat} {Q : Exit → (Nat → Value) → World → Prop} {ρ : Nat → Value} {w w' : World} {ms : List MOp} {d : Nat} {v : Value}

theorem MR.nxt {it : Nat} (hr : ∀ ty, (Instr.next (ρ it) false ty).run P w = .ok v w') (hi : it < N := by decide) : MR P N (.nxt d it) ρ w d v w' := by
  intro a o hl hf
  generalize hop : o.op = op at hf
  unfold execOp
  cases op <;> try (simp only [fitOp, Bool.false_eq_true] at hf; done)
  rename_i x b
  cases b <;> simp only [fitOp, Bool.and_eq_true, Bool.false_eq_true] at hf
  exact ⟨dstIs_eq hf.1, by simp only [hop, Sem.run_bind, tmpL hl hi hf.2, hr, Result.andThen_ok, Sem.run_pure]⟩

theorem MR.ent {it : Nat} (hr : (Instr.entry (ρ it)).run P w = .ok v w') (hi : it < N := by decide) : MR P N (.ent d it) ρ w d v w' := by
  intro a o hl hf
  generalize hop : o.op = op at hf
  unfold execOp
  cases op <;> try (simp only [fitOp, Bool.false_eq_true] at hf; done)
  simp only [fitOp, Bool.and_eq_true, Bool.false_eq_true] at hf
  exact ⟨dstIs_eq hf.1, by simp only [hop, Sem.run_bind, tmpL hl hi hf.2, hr, Result.andThen_ok, Sem.run_pure]⟩

/-- append to nil. -/
theorem MR.apk {T U y : Nat} (hr : ∀ ty, (Builtin.append_ #[T, U] ty #[.slice none 0 0, ρ y]).run P w = .ok v w') (hy : y < N := by decide) : MR P N (.apk d T U y) ρ w d v w' := by
  refine MR.builtin (b := .append) (T := [T, U]) (xs := [.c .nslice, .t y]) (fun o hf => ?_) (by simp [MX.lt, Nat.blt_eq, hy]) (fun ty cs => by
      show (Go.builtin Builtin.append #[T, U] ty cs #[.slice none 0 0, ρ y]).run P w = _
      simp only [Go.builtin, Sem.run_bind, hr ty, Result.andThen_ok, Sem.run_pure])
  generalize hop : o.op = op at hf
  cases op <;> try (simp only [fitOp, Bool.false_eq_true] at hf; done)
  rename_i c
  obtain ⟨callee, args, ats⟩ := c
  cases callee <;> try (simp only [fitOp, Bool.false_eq_true] at hf; done)
  case builtin b =>
    cases b <;> try (simp only [fitOp, Bool.false_eq_true] at hf; done)
    simp only [fitOp, Bool.and_eq_true] at hf
    obtain ⟨h1, h2⟩ := hf
    generalize hA : args.toList = A at h2
    generalize hB : ats.toList = B at h2
    match A, B, h2 with
    | [x, z], [t', u'], h2 =>
      simp only [Bool.and_eq_true, Nat.beq_eq] at h2
      obtain ⟨⟨⟨g1, g2⟩, g3⟩, g4⟩ := h2
      refine ⟨dstIs_eq h1, args, ats, rfl, .inl (by rw [hB, g3, g4]), ?_⟩
      rw [hA]
      simp only [allX, Bool.and_eq_true, and_true]
      refine ⟨g1, ?_⟩
      rw [tmpIs_eq g2]; simp [MX.is]

/-- A closure is called. -/
theorem RL.cav {f g : Nat} {lb : List Value} {xs : List MX} {R : Value → World → Prop} (he : entersB P g = true) (hfv : ρ f = .func (.func g) #[] lb.toArray)
    (hc : Calls P g (xs.map (xof ρ) ++ lb).toArray w (fun e w' => ∃ v, e = .returned v ∧ R v w'))
    (h : ∀ v w', R v w' → RL P N ms Q (upd ρ d v) w') (hd : d < N := by decide) (hfN : f < N := by decide) (hx : ∀ x ∈ xs, MX.lt N x = true := by simp [MX.lt, Nat.blt_eq]) : RL P N (.cav d f xs :: ms) Q ρ w := by
  intro a ha ops l hl
  cases l with
  | nil => simp [fitOps] at hl
  | cons o os =>
    simp only [fitOps, Bool.and_eq_true] at hl
    obtain ⟨ho, hs⟩ := hl
    have hgd : o.guard = none := by
      simp only [fitOper, Bool.and_eq_true, Option.isNone_iff_eq_none] at ho; exact ho.1
    refine wpList_plain hgd fun K hK => ?_
    have hf := fitOper_op ho
    obtain ⟨dst, op, type, pos, after, guard⟩ := o
    dsimp only at hf hgd
    cases op <;> try (simp only [fitOp, Bool.false_eq_true] at hf; done)
    rename_i c
    obtain ⟨callee, args, ats⟩ := c
    cases callee <;> try (simp only [fitOp, Bool.false_eq_true] at hf; done)
    case value x =>
      cases x <;> try (simp only [fitOp, Bool.false_eq_true] at hf; done)
      simp only [fitOp, Bool.and_eq_true, Nat.beq_eq] at hf
      obtain ⟨⟨h1, h2⟩, h3⟩ := hf
      subst h2
      have hdst := dstIs_eq h1
      subst hdst
      have hargs : args.map a.eval = (xs.map (xof ρ)).toArray := by
        apply Array.toList_inj.1
        rw [Array.toList_map, allX_evalL ha hx h3]
      have hfe : a.eval (.tmp f) = .func (.func g) #[] lb.toArray := by
        have := ha.get f hfN
        rw [hfv] at this
        exact this
      have hrun : (execOp a.eval ⟨some d, .call ⟨.value (.tmp f), args, ats⟩, type, pos, after, guard⟩).run P w = .ok (.enter g (xs.map (xof ρ) ++ lb).toArray) w := by
        simp only [execOp, resolve, hfe, Deferred.ofValue, Sem.run_bind, Sem.run_pure, Result.andThen_ok, invoke, Array.empty_append]
        rw [hargs]
        have e : (xs.map (xof ρ)).toArray ++ lb.toArray = (xs.map (xof ρ) ++ lb).toArray := by simp
        rw [e, run_callFunc_enter he]
      unfold Oper.wp
      rw [hrun, Oper.upon_enter]
      refine Calls.mono hc ?_
      rintro e w' ⟨v, rfl, hR⟩
      exact hK _ _ (h v w' hR _ (ha.put hd) ops os hs)
end

/-! ### A range over a map -/
section
variable {P : Program} {w : World}

def setHeap (w : World) (r : Nat) (o : Obj) : World := { w with heap := w.heap.setIfInBounds r o }

theorem run_nextG (it bm since c0 clock : Nat) (seen : Array Nat) (es : Array MapEntry) (hb : w.heap[bm]? = some (.map es clock)) (hi : w.heap[it]? = some (.mapIter (some bm) since seen c0)) (hold : ∀ x ∈ es.toList, x.born < since) (hsc : since ≤ c0) :
    ((leftOf es seen).size = 0 ∧ ∀ ty, (Instr.next (.pointer (some ⟨it, 0, none⟩)) false ty).run P w = .ok (.tuple #[.bool false]) w) ∨
    ∃ e ∈ (leftOf es seen).toList, ∃ w1 : World, w1.heap = w.heap ∧ w1.os = w.os ∧ w1.tape = w.tape ∧ w1.output = w.output ∧ ∀ ty, (Instr.next (.pointer (some ⟨it, 0, none⟩)) false ty).run P w = .ok (.tuple #[.bool true, e.key, e.val]) (setHeap w1 it (.mapIter (some bm) since (seen.push e.born) clock)) := by
  simp only [Instr.next, getObj, Sem.run_bind, Sem.run, hi, hb, Result.andThen, next_test_false seen es since c0 hold hsc, Bool.false_eq_true, if_false]
  unfold leftOf
  have hmem : ∀ x ∈ (Array.filter (fun e => !seen.contains e.born) es).toList, x.born < since := fun x hx => hold x (by simp at hx ⊢; exact hx.1)
  generalize Array.filter (fun e => !seen.contains e.born) es = L at hmem ⊢
  have e1 : L.filter (fun x => decide (x.born < since)) = L := Array.filter_eq_self.2 (fun x hx => by simpa using hmem x (by simpa using hx))
  have e2 : L.filter (fun x => decide (x.born ≥ since)) = #[] := by
    rw [Array.filter_eq_empty_iff]
    intro x hx
    have := hmem x (by simpa using hx)
    simp
    omega
  simp only [e1, e2, Array.append_empty]
  by_cases h0 : L.size = 0
  · left
    have : L = #[] := Array.eq_empty_of_size_eq_zero h0
    subst this
    refine ⟨rfl, fun ty => ?_⟩
    simp [choose, Sem.run, Question.forced]
  · right
    have hne : L.isEmpty = false := by simp [Array.isEmpty, h0]
    simp only [hne, Bool.false_eq_true, if_false, Array.empty_append, Array.size_map]
    have hch : ∃ (j : Nat) (w1 : World), j < L.size ∧ w1.heap = w.heap ∧ w1.os = w.os ∧ w1.tape = w.tape ∧ w1.output = w.output ∧ (choose (Question.mapNext L.size)).run P w = .ok j w1 := by
      by_cases hf : L.size ≤ 1
      · exact ⟨0, w, by omega, rfl, rfl, rfl, rfl, by simp [choose, Sem.run, Question.forced, hf]⟩
      · exact ⟨_, w.drew, Nat.mod_lt _ (by omega), rfl, rfl, rfl, rfl, by
          simp only [choose, Sem.run, Question.forced, decide_eq_true_eq, hf, if_false, Question.cut]
          rfl⟩
    obtain ⟨j, w1, hj, hh, ho, ht, hou, hrun⟩ := hch
    refine ⟨L[j], by simp, w1, hh, ho, ht, hou, fun ty => ?_⟩
    have hset : ∀ o' : Obj, (setObj it o').run P w1 = .ok () (setHeap w1 it o') := fun o' => by
      simp only [setObj, Sem.run, hh, hi]
      simp [setHeap, hh]
    simp only [hrun, Array.getElem?_map, Array.getElem?_eq_getElem hj, Option.map_some, Sem.run_bind, hset, Result.andThen]
    rfl

theorem run_entryG (it bm since clock : Nat) (seen : Array Nat) (es : Array MapEntry) (e : MapEntry) (hb : w.heap[bm]? = some (.map es clock)) (hi : w.heap[it]? = some (.mapIter (some bm) since (seen.push e.born) clock)) (he : e ∈ es.toList) (hn : (es.toList.map (·.born)).Nodup) :
    (Instr.entry (.pointer (some ⟨it, 0, none⟩))).run P w = .ok (.tuple #[e.key, e.val]) w := by
  have hf : es.find? (·.born == e.born) = some e := by rw [← Array.find?_toList]; exact find_born e es.toList hn he
  simp only [Instr.entry, getObj, Sem.run_bind, Sem.run, hi, hb, Result.andThen, Array.back?_push, bne_self_eq_false, Bool.false_eq_true, if_false, hf]
  rfl
end
end Go.Kx
namespace Go.Kx
open Go.RowKit
set_option linter.unusedSimpArgs false
set_option linter.unusedVariables false

section
variable {P : Program} {N : Nat} {Q : Exit → (Nat → Value) → World → Prop} {ρ : Nat → Value} {w w' : World} {ms : List MOp} {d : Nat} {v : Value}

/-! ### Comparing -/
theorem MR.eqS {ty : Nat} {x y : Nat} {a : ByteArray} (hx : ρ x = .string a) (hy : ρ y = .string a) (hxN : x < N := by decide) (hyN : y < N := by decide) : MR P N (.bi d .eql ty (.t x) (.t y)) ρ w d (.bool true) w := by
  refine MR.bi (fun ox oy => ?_) ?_ (ltT hxN) (ltT hyN)
  · simp only [xof, hx, hy]; unfold eqGuard; rfl
  · simp only [xof, hx, hy]; simp [binOp, Op.stringOp]

def boolTy (P : Program) (T : Nat) : Bool := match P.underlying T with | some .bool => true | _ => false
theorem boolTy_eq {T : Nat} (h : boolTy P T = true) : P.underlying T = some .bool := by
  unfold boolTy at h
  cases hu : P.underlying T with
  | none => simp [hu] at h
  | some d => cases d <;> simp_all
theorem MR.neB {ty : Nat} {x y : Nat} {a b : Bool} (ht : boolTy P ty = true) (hx : ρ x = .bool a) (hy : ρ y = .bool b) (hxN : x < N := by decide) (hyN : y < N := by decide) : MR P N (.bi d .neq ty (.t x) (.t y)) ρ w d (.bool (!(a == b))) w := by
  have hu := boolTy_eq ht
  refine MR.bi (fun ox oy => ?_) ?_ (ltT hxN) (ltT hyN)
  · simp only [xof, hx, hy]; unfold eqGuard; rfl
  · simp only [xof, hx, hy]
    have h : ∀ d : Nat, (Op.equalIn (d + 1) ty (.bool a) (.bool b)).run P w = .ok (a == b) w := fun d => by simp [Op.equalIn, run_underlying hu]
    simp only [binOp]
    simp [Op.equal, Op.maxDepth, h 9999]

/-- Tags.zzSame: of maps that are nil. -/
def cTSame (tT tM tB tI : Nat) : MCode :=
  .sq (.rg [.bx 2 tT 0, .bx 3 tT 1, .mv 4 (.c (.bool false))])
  (.sq (.sq (.gr false [⟨0, none, .fa 9 tT 2 0⟩, ⟨1, none, .ld 10 tM 9⟩, ⟨2, none, .bi 11 .eql tM (.t 10) (.c .nmap)⟩, ⟨3, none, .fa 12 tT 3 0⟩, ⟨4, none, .ld 13 tM 12⟩, ⟨5, none, .bi 14 .eql tM (.t 13) (.c .nmap)⟩, ⟨6, none, .bi 15 .neq tB (.t 11) (.t 14)⟩, ⟨7, none, .mv 16 (.t 15)⟩, ⟨8, some (7, 16, false), .fa 17 tT 2 0⟩, ⟨9, some (7, 16, false), .ld 18 tM 17⟩, ⟨10, some (7, 16, false), .ln 19 tM 18⟩, ⟨11, some (7, 16, false), .fa 20 tT 3 0⟩, ⟨12, some (7, 16, false), .ld 21 tM 20⟩, ⟨13, some (7, 16, false), .ln 22 tM 21⟩, ⟨14, some (7, 16, false), .bi 23 .neq tI (.t 19) (.t 22)⟩, ⟨15, none, .pk 24 (.t 16) (.c (.bool true)) (.t 23)⟩]) (.cd 24 .any .sk))
  (.sq (.sq (.rg [.fa 25 tT 2 0, .ld 26 tM 25, .rng 27 tM 26]) (.bl 0 (.lp (.sq (.rg [.nxt 28 27, .ext 29 28 0]) (.sq (.cd 29 .sk (.ex 0)) .any)))))
  (.sq (.rg [.mv 4 (.c (.bool true))]) .rt)))

/-- Two values of a struct, the same: true. -/
def SameSC (P : Program) (f : Nat) (cs : List Value) : Prop := entersB P f = true ∧ ∀ w : World, Calls P f #[.agg cs.toArray, .agg cs.toArray] w (fun e w' => e = .returned (.bool true) ∧ Below w.heap.size w w')

theorem tsame_ok {f tT tM tB tI : Nat} (hm : mapU P tM = true) (hmt : mapTy P tM = true) (hp : plainTy P tM = true) (hb : boolTy P tB = true) (hF : fieldAtB P tT 0 0 = true) (hf : FnIs P f (cTSame tT tM tB tI) 56 4) : SameSC P f [.map none] := by
  refine ⟨hf.ent, fun w => ?_⟩
  refine hf.runs (args := [.agg [Value.map none].toArray, .agg [Value.map none].toArray]) (by simp) (by omega) ?_
  refine RW.sq (RW.rg (RL.bxA rfl (RL.bxA rfl (RL.step MR.mv (RL.nil ?_)))))
  have r2 : (w.alloc (.cells [Value.map none].toArray tT)).cell? ⟨w.heap.size, 0, none⟩ = some (.map none) := cell_box w [Value.map none] tT (j := 0) rfl
  have hb0 := below_box w (.cells [Value.map none].toArray tT)
  revert r2 hb0
  generalize w.alloc (.cells [Value.map none].toArray tT) = w0
  intro r2 hb0
  have r3 : (w0.alloc (.cells [Value.map none].toArray tT)).cell? ⟨w0.heap.size, 0, none⟩ = some (.map none) := cell_box w0 [Value.map none] tT (j := 0) rfl
  have hb1 := below_box w0 (.cells [Value.map none].toArray tT)
  have r2' := hb1.kp _ _ r2
  revert r3 hb1 r2'
  generalize w0.alloc (.cells [Value.map none].toArray tT) = w1
  intro r3 hb1 r2'
  have hB : Below w.heap.size w w1 := hb0.trans (hb1.mono hb0.size)
  have hT : RepT w1 (fun _ => True) (.map none) [] := .inl ⟨rfl, rfl⟩
  refine RW.sq (RW.sq (RW.gf (fun w' => w' = w1) rfl ?_))
  refine RG.q (fun _ _ => MR.fa rfl hF) (RG.q (fun w' hS => MR.ld (v := .map none) rfl hp (by rw [hS]; exact r2')) (RG.q (fun _ _ => MR.eqNilM (p := none) hm rfl) (RG.q (fun _ _ => MR.fa rfl hF) (RG.q (fun w' hS => MR.ld (v := .map none) rfl hp (by rw [hS]; exact r3)) (RG.q (fun _ _ => MR.eqNilM (p := none) hm rfl)
    (RG.q (v := .bool false) (fun _ _ => MR.neB (a := true) (b := true) hb rfl rfl) (RG.q (fun _ _ => MR.mv (v := .bool false) rfl) ?_)))))))
  refine RG.q (fun _ _ => MR.fa rfl hF) (RG.q (fun w' hS => MR.ld (v := .map none) rfl hp (by rw [hS]; exact r2')) (RG.q (v := .int .i64 0) (fun w' hS => by rw [hS]; exact MR.lnM hmt hT rfl) (RG.q (fun _ _ => MR.fa rfl hF) (RG.q (fun w' hS => MR.ld (v := .map none) rfl hp (by rw [hS]; exact r3)) (RG.q (v := .int .i64 0) (fun w' hS => by rw [hS]; exact MR.lnM hmt hT rfl)
    (RG.q (v := .bool false) (fun _ _ => MR.biE rfl) (RG.q (fun _ _ => MR.pk (b := false) (v := .bool false) rfl) (RG.nil fun _ => ?_))))))))
  refine RW.cd (b := false) rfl (fun e => by cases e) (fun _ => RW.sk ?_)
  obtain ⟨k, e, hu, _⟩ := mapU_eq hm
  refine RW.sq (RW.sq (RW.rg (RL.step (MR.fa rfl hF) (RL.step (MR.ld (v := .map none) rfl hp r2') (RL.step (MR.rng (v := .pointer (some ⟨w1.heap.size, 0, none⟩)) (w' := w1.alloc (.mapIter none 0 #[] 0)) (run_range_nilMap w1 tM k e hu)) (RL.nil (RW.bl ?_)))))))
  have b2 : Below w1.heap.size w1 (w1.alloc (.mapIter none 0 #[] 0)) := below_box w1 _
  refine RW.lp (fun ρ w' => ρ 27 = .pointer (some ⟨w1.heap.size, 0, none⟩) ∧ w' = w1.alloc (.mapIter none 0 #[] 0)) (fun _ _ => 0) ⟨rfl, rfl⟩ ?_
  rintro ρ1 w2 ⟨h27, rfl⟩
  refine RW.knows [(27, .pointer (some ⟨w1.heap.size, 0, none⟩))] (by simp [h27]) (RW.sq (RW.rg ?_))
  refine RL.step (MR.nxt (v := .tuple #[.bool false]) (w' := w1.alloc (.mapIter none 0 #[] 0)) (fun ty => run_next_nilMap w1 ty 0 0 #[])) (RL.step (MR.ext (v := .bool false) rfl) (RL.nil ?_))
  refine RW.sq (RW.cd (b := false) rfl (fun e => by cases e) (fun _ => RW.ex ?_))
  refine RW.sq (RW.rg (RL.step MR.mv (RL.nil (RW.rt ⟨rfl, hB.trans (b2.mono hB.size)⟩))))

/-- zzSame of a part of two numbers, a text, a number, tags. -/
def cSame4 (T tI tS tT fT : Nat) : MCode :=
  .sq (.rg [.bx 2 T 0, .bx 3 T 1, .mv 4 (.c (.bool false))])
  (.sq (.gr false [⟨0, none, .fa 5 T 2 0⟩, ⟨1, none, .ld 6 tI 5⟩, ⟨2, none, .fa 7 T 3 0⟩, ⟨3, none, .ld 8 tI 7⟩, ⟨4, none, .bi 9 .eql tI (.t 6) (.t 8)⟩, ⟨5, none, .mv 10 (.t 9)⟩,
    ⟨6, some (5, 10, true), .fa 11 T 2 1⟩, ⟨7, some (5, 10, true), .ld 12 tI 11⟩, ⟨8, some (5, 10, true), .fa 13 T 3 1⟩, ⟨9, some (5, 10, true), .ld 14 tI 13⟩, ⟨10, some (5, 10, true), .bi 15 .eql tI (.t 12) (.t 14)⟩, ⟨11, none, .pk 16 (.t 10) (.t 15) (.c (.bool false))⟩, ⟨12, none, .mv 17 (.t 16)⟩,
    ⟨13, some (12, 17, true), .fa 18 T 2 2⟩, ⟨14, some (12, 17, true), .ld 19 tS 18⟩, ⟨15, some (12, 17, true), .fa 20 T 3 2⟩, ⟨16, some (12, 17, true), .ld 21 tS 20⟩, ⟨17, some (12, 17, true), .bi 22 .eql tS (.t 19) (.t 21)⟩, ⟨18, none, .pk 23 (.t 17) (.t 22) (.c (.bool false))⟩, ⟨19, none, .mv 24 (.t 23)⟩,
    ⟨20, some (19, 24, true), .fa 25 T 2 3⟩, ⟨21, some (19, 24, true), .ld 26 tI 25⟩, ⟨22, some (19, 24, true), .fa 27 T 3 3⟩, ⟨23, some (19, 24, true), .ld 28 tI 27⟩, ⟨24, some (19, 24, true), .bi 29 .eql tI (.t 26) (.t 28)⟩, ⟨25, none, .pk 30 (.t 24) (.t 29) (.c (.bool false))⟩, ⟨26, none, .mv 31 (.t 30)⟩,
    ⟨27, some (26, 31, true), .fa 32 T 2 4⟩, ⟨28, some (26, 31, true), .ld 33 tT 32⟩, ⟨29, some (26, 31, true), .fa 34 T 3 4⟩, ⟨30, some (26, 31, true), .ld 35 tT 34⟩, ⟨31, some (26, 31, true), .ca 36 fT [.t 33, .t 35]⟩, ⟨32, none, .pk 37 (.t 31) (.t 36) (.c (.bool false))⟩, ⟨33, none, .mv 4 (.t 37)⟩]) .rt)

theorem same4_ok {f T tI tS tT fT : Nat} {a b c : Int} {s : ByteArray} (hF : ∀ j, j < 5 → fieldAtB P T j j = true) (hpI : plainTy P tI = true) (hpS : plainTy P tS = true) (hrT : rowTy P tT = true) (hnT : cellsB P tT 1 = true) (hT : SameSC P fT [.map none]) (hf : FnIs P f (cSame4 T tI tS tT fT) 38 4) :
    SameSC P f [.int .i32 a, .int .i32 b, .string s, .int .i32 c, .map none] := by
  refine ⟨hf.ent, fun w => ?_⟩
  generalize hcs : [Value.int .i32 a, .int .i32 b, .string s, .int .i32 c, .map none] = cs
  refine hf.runs (args := [.agg cs.toArray, .agg cs.toArray]) (by simp) (by omega) ?_
  refine RW.sq (RW.rg (RL.bxA rfl (RL.bxA rfl (RL.step MR.mv (RL.nil ?_)))))
  have r2 : (w.alloc (.cells cs.toArray T)).rangeAt w.heap.size 0 cs := fun j v hj => cell_box w cs T hj
  have hb0 := below_box w (.cells cs.toArray T)
  revert r2 hb0
  generalize w.alloc (.cells cs.toArray T) = w0
  intro r2 hb0
  have r3 : (w0.alloc (.cells cs.toArray T)).rangeAt w0.heap.size 0 cs := fun j v hj => cell_box w0 cs T hj
  have hb1 := below_box w0 (.cells cs.toArray T)
  have r2' := rangeAt_kp r2 hb1.kp
  revert r3 hb1 r2'
  generalize w0.alloc (.cells cs.toArray T) = w1
  intro r3 hb1 r2'
  have hB : Below w.heap.size w w1 := hb0.trans (hb1.mono hb0.size)
  have x0 := r2' 0 (.int .i32 a) (by rw [← hcs]; rfl)
  have x1 := r2' 1 (.int .i32 b) (by rw [← hcs]; rfl)
  have x2 := r2' 2 (.string s) (by rw [← hcs]; rfl)
  have x3 := r2' 3 (.int .i32 c) (by rw [← hcs]; rfl)
  have y0 := r3 0 (.int .i32 a) (by rw [← hcs]; rfl)
  have y1 := r3 1 (.int .i32 b) (by rw [← hcs]; rfl)
  have y2 := r3 2 (.string s) (by rw [← hcs]; rfl)
  have y3 := r3 3 (.int .i32 c) (by rw [← hcs]; rfl)
  have x4 : w1.rangeAt w.heap.size (0 + 4) [.map none] := fun j v hj => by
    have := r2' (4 + j) v (by rw [← hcs]; cases j with | zero => simpa using hj | succ j => simp at hj)
    rwa [← Nat.add_assoc] at this
  have y4 : w1.rangeAt w0.heap.size (0 + 4) [.map none] := fun j v hj => by
    have := r3 (4 + j) v (by rw [← hcs]; cases j with | zero => simpa using hj | succ j => simp at hj)
    rwa [← Nat.add_assoc] at this
  have eqi : ∀ n : Int, evB .eql (.int .i32 n) (.int .i32 n) = some (.bool true) := fun n => by simp [evB]
  refine RW.sq (RW.gf (Below w1.heap.size w1) (Below.refl _ _) ?_)
  refine RG.q (fun _ _ => MR.fa rfl (hF 0 (by omega))) (RG.q (fun w' hS => MR.ld (v := .int .i32 a) rfl hpI (hS.kp _ _ x0)) (RG.q (fun _ _ => MR.fa rfl (hF 0 (by omega))) (RG.q (fun w' hS => MR.ld (v := .int .i32 a) rfl hpI (hS.kp _ _ y0)) (RG.q (fun _ _ => MR.biE (eqi a)) (RG.q (fun _ _ => MR.mv (v := .bool true) rfl) ?_)))))
  refine RG.q (fun _ _ => MR.fa rfl (hF 1 (by omega))) (RG.q (fun w' hS => MR.ld (v := .int .i32 b) rfl hpI (hS.kp _ _ x1)) (RG.q (fun _ _ => MR.fa rfl (hF 1 (by omega))) (RG.q (fun w' hS => MR.ld (v := .int .i32 b) rfl hpI (hS.kp _ _ y1)) (RG.q (fun _ _ => MR.biE (eqi b)) (RG.q (fun _ _ => MR.pk (b := true) (v := .bool true) rfl) (RG.q (fun _ _ => MR.mv (v := .bool true) rfl) ?_))))))
  refine RG.q (fun _ _ => MR.fa rfl (hF 2 (by omega))) (RG.q (fun w' hS => MR.ld (v := .string s) rfl hpS (hS.kp _ _ x2)) (RG.q (fun _ _ => MR.fa rfl (hF 2 (by omega))) (RG.q (fun w' hS => MR.ld (v := .string s) rfl hpS (hS.kp _ _ y2)) (RG.q (fun _ _ => MR.eqS (a := s) rfl rfl) (RG.q (fun _ _ => MR.pk (b := true) (v := .bool true) rfl) (RG.q (fun _ _ => MR.mv (v := .bool true) rfl) ?_))))))
  refine RG.q (fun _ _ => MR.fa rfl (hF 3 (by omega))) (RG.q (fun w' hS => MR.ld (v := .int .i32 c) rfl hpI (hS.kp _ _ x3)) (RG.q (fun _ _ => MR.fa rfl (hF 3 (by omega))) (RG.q (fun w' hS => MR.ld (v := .int .i32 c) rfl hpI (hS.kp _ _ y3)) (RG.q (fun _ _ => MR.biE (eqi c)) (RG.q (fun _ _ => MR.pk (b := true) (v := .bool true) rfl) (RG.q (fun _ _ => MR.mv (v := .bool true) rfl) ?_))))))
  refine RG.q (fun _ _ => MR.fa rfl (hF 4 (by omega))) (RG.q (fun w' hS => MR.ldRow (cs := [.map none]) rfl hrT hnT (rangeAt_kp x4 hS.kp)) (RG.q (fun _ _ => MR.fa rfl (hF 4 (by omega))) (RG.q (fun w' hS => MR.ldRow (cs := [.map none]) rfl hrT hnT (rangeAt_kp y4 hS.kp)) ?_)))
  refine RG.ca (R := fun v w' => v = .bool true ∧ Below w1.heap.size w1 w') hT.1 (fun hS => ?_) ?_
  · refine Calls.mono (hT.2 w1) ?_
    rintro e w' ⟨rfl, h⟩
    exact ⟨_, rfl, ⟨rfl, h⟩, h⟩
  rintro v w2 ⟨rfl, h2⟩
  refine RG.q (fun _ _ => MR.pk (b := true) (v := .bool true) rfl) (RG.q (fun _ _ => MR.mv (v := .bool true) rfl) (RG.nil fun h => RW.rt ⟨rfl, hB.trans (h.mono hB.size)⟩))

/-! ### The default of a part, made anew -/
def cClo (tm fDef : Nat) : MCode := .sq (.rg [.al 0 tm]) (.sq (.rg [.al 1 tm]) (.sq (.rg [.ca 2 fDef [.t 1]]) (.sq (.rg [.ld 3 tm 1, .st tm 0 3]) .rt)))
def CloC (P : Program) (f : Nat) (cs : List Value) : Prop := entersB P f = true ∧ ∀ w : World, Calls P f #[] w (fun e w' => e = .returned (.agg cs.toArray) ∧ Below w.heap.size w w')

theorem clo_of {f fD tm n : Nat} {zs cs : List Value} (hf : FnIsC P f (cClo tm fD) 4 0 tm) (hz : zeroAgg P tm zs) (hrow : rowTy P tm = true) (hn : cellsB P tm n = true) (hzl : zs.length = n) (hone : cs.all (·.oneCell') = true) (hd : DefC P fD zs cs) (hl : cs.length = zs.length) : CloC P f cs := by
  refine ⟨hf.ent, fun w => ?_⟩
  obtain ⟨zi, hzi, hzv⟩ := hz
  refine hf.runs (args := []) (by simp) (by omega) ?_
  refine RW.sq (RW.rg (RL.step (MR.al ⟨zi, hzi, hzv⟩) (RL.nil ?_)))
  have b1 := below_box w (.cells zs.toArray tm)
  have s1 := size_box w (.cells zs.toArray tm)
  have t1 := there_box w zs tm
  change RW P 4 _ _ _ (w.alloc (.cells zs.toArray tm))
  revert b1 s1 t1
  generalize w.alloc (.cells zs.toArray tm) = w1
  intro b1 s1 t1
  refine RW.sq (RW.rg (RL.step (MR.al ⟨zi, hzi, hzv⟩) (RL.nil ?_)))
  have b2 := below_box w1 (.cells zs.toArray tm)
  have s2 := size_box w1 (.cells zs.toArray tm)
  have t2 := there_box w1 zs tm
  have r2 : (w1.alloc (.cells zs.toArray tm)).rangeAt w1.heap.size 0 zs := fun j v hj => cell_box w1 zs tm hj
  change RW P 4 _ _ _ (w1.alloc (.cells zs.toArray tm))
  revert b2 s2 t2 r2
  generalize w1.alloc (.cells zs.toArray tm) = w2
  intro b2 s2 t2 r2
  have B2 : Below w.heap.size w w2 := b1.trans (b2.mono b1.size)
  have t1' : w2.there w.heap.size 0 zs.length := there_keep t1 (b2.block _ (by omega))
  refine RW.sq (RW.rg (RL.ca (R := fun v w' => w'.rangeAt w1.heap.size 0 cs ∧ Below w1.heap.size w2 w') hd.1 ?_ ?_))
  · refine Calls.mono (hd.2 w2 w1.heap.size (by omega) r2 t2) ?_
    rintro e w' ⟨rfl, h1, h2, h3⟩
    exact ⟨_, rfl, h1, h3⟩
  rintro v w3 ⟨r3, b3⟩
  refine RL.nil (RW.sq (RW.rg ?_))
  have t3 : w3.there w.heap.size 0 cs.length := by rw [hl]; exact there_keep t1' (b3.block _ (by omega))
  refine RL.step (MR.ldRow (cs := cs) (b := w1.heap.size) (o := 0) rfl hrow (by rw [hl, hzl]; exact hn) r3) ?_
  refine RL.stA (cs := cs) (b := w.heap.size) (o := 0) rfl rfl (by rw [hl, hzl]; exact hn) t3 hone (RL.nil (RW.rt ?_))
  have e1 := World.rangeAt_setCells_same w3 w.heap.size 0 cs t3
  exact ⟨⟨w.heap.size, 0, none⟩, .agg cs.toArray, rfl, run_loadAt_row (cs := cs) hrow (by rw [hl, hzl]; exact hn) e1, rfl, below_setCells (Nat.le_refl _) _ _ (B2.trans (b3.mono (by omega)))⟩

/-! ### From the slots to what is written -/
theorem Writes.ofRW {U B L : Nat} {m : MCode} {x x' : Nat} {out : List UInt8}
    (h : ∀ (ρf : Nat → Value) (bs : List UInt8) (Q : Exit → (Nat → Value) → World → Prop), (∀ s, s < L → ρf s = ρ s) → OwnB U w B (ρ 1) bs → bs.length + out.length ≤ lim →
      (∀ ρ' w', (∀ s, s < L → s ≠ 1 → (s < x ∨ x' ≤ s) → ρ' s = ρ s) → OwnB U w' B (ρ' 1) (bs ++ out) → Below B w w' → Q .normal ρ' w') → RW P N m Q ρf w) (hLN : L ≤ N) : Writes P U B N L m ρ w x x' out := by
  intro a bs Q hl ho hlim hQ
  obtain ⟨ρf, h1, h2, h3⟩ := hl.all N
  refine ((h ρf bs (fun e ρ' w' => ∀ a', Loc N N ρ' a' → Q e a' w') h2 ho hlim ?_) a h1).mono fun e a' w' hu => ?_
  · intro ρ' w' k1 k2 k3 a' hl'
    exact hQ a' w' ρ' ⟨hl'.size, hl'.defers, fun s hs => hl'.get s (by omega)⟩ k1 k2 k3
  · cases e <;> first
      | exact hu.elim
      | (obtain ⟨ρ', h4, h5⟩ := hu; exact h5 a' h4)
end
end Go.Kx
namespace Go.Kx
open Go.RowKit
set_option linter.unusedSimpArgs false
set_option linter.unusedVariables false

/-- Whether the field is as by default: a list's length; zzSame with a new part. -/
inductive KC where
  | list (ty : Nat)
  | same (ty fC fS : Nat)

def condN (I : IA) (T idx : Nat) (k : KC) (t : Nat) : MCode × Nat × Nat := match k with
  | .list ty => (.rg [.mv t (.t 0), .nc (t + 1) t, .fa (t + 2) T (t + 1) idx, .ld (t + 3) ty (t + 2), .ln (t + 4) ty (t + 3), .bi (t + 5) .gtr I.tInt (.t (t + 4)) (.c (.int .i64 0))], t + 5, t + 6)
  | .same ty fC fS => (.gr true [⟨0, none, .mv t (.t 0)⟩, ⟨1, none, .nc (t + 1) t⟩, ⟨2, none, .fa (t + 2) T (t + 1) idx⟩, ⟨3, none, .ld (t + 3) ty (t + 2)⟩, ⟨4, none, .ca (t + 4) fC []⟩, ⟨5, none, .ca (t + 5) fS [.t (t + 3), .t (t + 4)]⟩, ⟨6, none, .nt (t + 6) (t + 5)⟩], t + 6, t + 7)

def tailN (I : IA) (T idx tgi tks x t u b : Nat) (k : KC) : MCode :=
  let c := condN I T idx k (t + 1)
  let m := c.2.2 + 3
  .sq (.rg [.mv t (.t 6)]) (.cd t
    (.sq (.rg [.mv x (.c .nslice)])
    (.sq (.sq c.1 (.cd c.2.1 .any .sk))
    (.sq (.rg [.mv m (.t 1), .mv (m + 1) (.t x), .ln (m + 2) tks (m + 1), .mv (m + 3) (.t 0), .nc (m + 4) (m + 3), .fa (m + 5) T (m + 4) tgi, .ca (m + 6) I.tlen [.t (m + 5)], .bi (m + 7) .add I.tInt (.t (m + 2)) (.t (m + 6)), .cv (m + 8) I.tInt I.tU32 (m + 7), .ca (m + 9) I.uvar [.t m, .t (m + 8)], .mv 1 (.t (m + 9))])
    (.sq (.sq (.rg [.mv (m + 10) (.t x), .ln (m + 11) tks (m + 10), .mv (m + 12) (.c (.int .i64 0))]) (.bl b (.lp (.sq (.rg [.bi (m + 13) .lss I.tInt (.t (m + 12)) (.t (m + 11))]) (.sq (.cd (m + 13) .sk (.ex b)) .any)))))
      (.rg [.mv u (.t 0), .nc (u + 1) u, .fa (u + 2) T (u + 1) tgi, .mv (u + 3) (.t 1), .ca (u + 4) I.teach [.t (u + 2), .t (u + 3)], .mv 1 (.t (u + 4))])))))
    .sk)

section
variable {P : Program} {N : Nat} {Q : Exit → (Nat → Value) → World → Prop} {ρ : Nat → Value} {w w' : World} {I : IA}

/-- The field is as by default: the test says no. -/
def CondC (P : Program) (N : Nat) (I : IA) (T idx : Nat) (k : KC) (t pb po B : Nat) (w : World) : Prop := ∀ (ρ : Nat → Value) (w1 : World) (Q : Exit → (Nat → Value) → World → Prop), ρ 0 = .pointer (some ⟨pb, po, none⟩) → Below B w w1 →
  (∀ ρ' w2, (∀ s, s < t → ρ' s = ρ s) → ρ' (condN I T idx k t).2.1 = .bool false → Below w1.heap.size w1 w2 → Q .normal ρ' w2) → RW P N (condN I T idx k t).1 Q ρ w1

theorem cond_list {T idx off ty e t pb po B : Nat} (hF : fieldAtB P T idx off = true) (hty : sliceOf P ty e = true) (hp : plainTy P ty = true) (hc : w.cell? ⟨pb, po + off, none⟩ = some (.slice none 0 0)) (hpB : pb < B) (ht : 0 < t) (hN : t + 6 ≤ N) : CondC P N I T idx (.list ty) t pb po B w := by
  intro ρ w1 Q h0 hb hQ
  have hc1 : w1.cell? ⟨pb, po + off, none⟩ = some (.slice none 0 0) := by rw [cell_of_heap (hb.block pb hpB)]; exact hc
  refine RW.rg (RL.step (MR.mv h0 (ltT (by omega))) (RL.step (MR.nc (upd_same _ _ _) (by omega)) (RL.step (MR.fa (upd_same _ _ _) hF (by omega)) (RL.step (MR.ld (upd_same _ _ _) hp hc1 (by omega)) (RL.step (MR.ln hty (p := none) (n := 0) (c := 0) (upd_same _ _ _) (by omega)) (RL.step (MR.biE (v := .bool false) ?_ (ltT (by omega)) rfl) (RL.nil ?_) (by omega)) (by omega)) (by omega)) (by omega)) (by omega)) (by omega))
  · show evB .gtr (upd _ _ _ (t + 4)) (.int .i64 0) = _
    rw [upd_same]; rfl
  · refine hQ _ w1 (fun s hs => ?_) (upd_same _ _ _) (Below.refl _ _)
    rw [upd_ne _ _ (by omega), upd_ne _ _ (by omega), upd_ne _ _ (by omega), upd_ne _ _ (by omega), upd_ne _ _ (by omega), upd_ne _ _ (by omega)]

theorem cond_same {T idx off ty fC fS t pb po B : Nat} {cs : List Value} (hmo : P.follows .mixedOrders = true) (hF : fieldAtB P T idx off = true) (hr : rowTy P ty = true) (hn : cellsB P ty cs.length = true) (hc : w.rangeAt pb (po + off) cs) (hpB : pb < B) (ht : 0 < t) (hN : t + 7 ≤ N) (hC : CloC P fC cs) (hS : SameSC P fS cs) : CondC P N I T idx (.same ty fC fS) t pb po B w := by
  intro ρ w1 Q h0 hb hQ
  have hc1 : w1.rangeAt pb (po + off) cs := fun j v hj => by rw [cell_of_heap (hb.block pb hpB)]; exact hc j v hj
  refine RW.gd hmo (Below w1.heap.size w1) (below_drew1 _ _) ?_
  refine RG.q (fun _ _ => MR.mv h0 (ltT (by omega))) (RG.q (fun _ _ => MR.nc (upd_same _ _ _) (by omega)) (RG.q (fun _ _ => MR.fa (upd_same _ _ _) hF (by omega)) (RG.q (fun w' h => MR.ldRow (cs := cs) (b := pb) (o := po + off) (upd_same _ _ _) hr hn (rangeAt_kp hc1 h.kp) (by omega)) ?_ rfl rfl (by omega)) rfl rfl (by omega)) rfl rfl (by omega)) rfl rfl (by omega)
  refine RG.ca (R := fun v w' => v = .agg cs.toArray ∧ Below w1.heap.size w1 w') hC.1 (fun h => ?_) ?_ rfl (by omega) (by simp)
  · refine Calls.mono (hC.2 (World.drew1 w1)) ?_
    rintro e w' ⟨rfl, h2⟩
    have := h.trans (h2.mono h.size)
    exact ⟨_, rfl, ⟨rfl, this⟩, this⟩
  rintro v w2 ⟨rfl, b2⟩
  refine RG.ca (R := fun v w' => v = .bool true ∧ Below w1.heap.size w1 w') hS.1 (fun h => ?_) ?_ rfl (by omega) (by simp [MX.lt, Nat.blt_eq]; omega)
  · simp only [List.map_cons, List.map_nil, xof]
    rw [upd_same, upd_ne _ _ (by omega), upd_same]
    refine Calls.mono (hS.2 w2) ?_
    rintro e w' ⟨rfl, h2⟩
    have := h.trans (h2.mono h.size)
    exact ⟨_, rfl, ⟨rfl, this⟩, this⟩
  rintro v w3 ⟨rfl, b3⟩
  refine RG.q (v := .bool false) (fun _ _ => MR.nt (b := true) (upd_same _ _ _) (by omega)) (RG.nil fun h => ?_) rfl rfl (by omega)
  refine hQ _ w3 (fun s hs => ?_) (upd_same _ _ _) h
  rw [upd_ne _ _ (by omega), upd_ne _ _ (by omega), upd_ne _ _ (by omega), upd_ne _ _ (by omega), upd_ne _ _ (by omega), upd_ne _ _ (by omega), upd_ne _ _ (by omega)]

theorem uv0 : uv 0 = [0] := rfl

theorem tailN_ok {S : List (Nat × List UInt8) → Prop} (ok : AOK P I S) (hS0 : S []) (h1 : I.tlen ≠ 0) (h2 : I.teach ≠ 0) (h3 : I.uvar ≠ 0) (hi1 : intTy P I.tInt .i64 = true) (hi2 : intTy P I.tU32 .u32 = true) {T idx tgi toff tks ek x t u b pb po B L : Nat} {k : KC} {flex : Bool}
    (hF : fieldAtB P T tgi toff = true) (hks : sliceOf P tks ek = true) (hcond : CondC P N I T idx k (t + 1) pb po B w) (hct : t + 1 ≤ (condN I T idx k (t + 1)).2.1 ∧ (condN I T idx k (t + 1)).2.1 < (condN I T idx k (t + 1)).2.2) (hc : w.cell? ⟨pb, po + toff, none⟩ = some (.map none)) (hpB : pb < B) (hB : B ≤ w.heap.size)
    (h0 : ρ 0 = .pointer (some ⟨pb, po, none⟩)) (h6 : ρ 6 = .bool flex) (hx6 : 6 < x) (hxL : x < L) (hLt : L ≤ t) (hmu : (condN I T idx k (t + 1)).2.2 + 17 ≤ u) (hN : u + 5 ≤ N) :
    WritesL P I.tU8 B N L [tailN I T idx tgi tks x t u b k] ρ w x L (if flex then encTags [] else []) := by
  refine .inl ⟨_, [], L, (List.append_nil _).symm, by omega, Nat.le_refl _, ?_, fun _ _ _ _ => ⟨rfl, rfl⟩⟩
  refine Writes.ofRW (fun ρf bs Q hρ ho hlim hQ => ?_) (by omega)
  have elim : lim = 1099511627776 := rfl
  unfold tailN
  generalize hcc : condN I T idx k (t + 1) = c at hct hmu
  obtain ⟨c1, cr, cm⟩ := c
  simp only at hct hmu ⊢
  have hcond' : ∀ (ρ : Nat → Value) (w1 : World) (Q : Exit → (Nat → Value) → World → Prop), ρ 0 = .pointer (some ⟨pb, po, none⟩) → Below B w w1 → (∀ ρ' w2, (∀ s, s < t + 1 → ρ' s = ρ s) → ρ' cr = .bool false → Below w1.heap.size w1 w2 → Q .normal ρ' w2) → RW P N c1 Q ρ w1 := by
    have := hcond
    unfold CondC at this
    rw [hcc] at this
    exact this
  have hf0 : ρf 0 = .pointer (some ⟨pb, po, none⟩) := by rw [hρ 0 (by omega)]; exact h0
  refine RW.sq (RW.rg (RL.step (MR.mv (v := .bool flex) (by show ρf 6 = _; rw [hρ 6 (by omega)]; exact h6) (ltT (by omega))) (RL.nil ?_) (by omega)))
  cases flex
  · refine RW.cd (b := false) (upd_same _ _ _) (fun e => by cases e) (fun _ => RW.sk ?_) (by omega)
    simp only [Bool.false_eq_true, if_false] at hQ
    exact hQ _ w (fun s hs _ _ => by rw [upd_ne _ _ (by omega)]; exact hρ s hs) (by rw [upd_ne _ _ (by omega), hρ 1 (by omega), List.append_nil]; exact ho) (Below.refl _ _)
  · refine RW.cd (b := true) (upd_same _ _ _) (fun _ => ?_) (fun e => by cases e) (by omega)
    simp only [if_true] at hQ hlim
    have hlen1 : (encTags []).length = 1 := rfl
    refine RW.sq (RW.rg (RL.step MR.mv (RL.nil ?_) (by omega)))
    refine RW.sq (RW.sq (hcond' _ w _ (by rw [upd_ne _ _ (by omega), upd_ne _ _ (by omega)]; exact hf0) (Below.refl _ _) ?_))
    intro ρ1 w1 k1 k2 b1
    have B1 : Below B w w1 := b1.mono hB
    refine RW.cd (b := false) k2 (fun e => by cases e) (fun _ => RW.sk ?_) (by omega)
    have q0 : ρ1 0 = .pointer (some ⟨pb, po, none⟩) := by rw [k1 0 (by omega), upd_ne _ _ (by omega), upd_ne _ _ (by omega)]; exact hf0
    have q1 : ρ1 1 = ρ 1 := by rw [k1 1 (by omega), upd_ne _ _ (by omega), upd_ne _ _ (by omega)]; exact hρ 1 (by omega)
    have qx : ρ1 x = .slice none 0 0 := by rw [k1 x (by omega), upd_same]; rfl
    have qs : ∀ s, s < L → s ≠ x → ρ1 s = ρ s := fun s hs hsx => by rw [k1 s (by omega), upd_ne _ _ hsx, upd_ne _ _ (by omega)]; exact hρ s hs
    have ho1 : OwnB I.tU8 w1 B (ρ 1) bs := ho.keep b1
    have hc1 : w1.cell? ⟨pb, po + toff, none⟩ = some (.map none) := by rw [cell_of_heap (B1.block pb hpB)]; exact hc
    have hm1 : RepT w1 (· < B) (.map none) [] := .inl ⟨rfl, rfl⟩
    show RW P N _ _ ρ1 w1
    generalize hmm : cm + 3 = m at *
    refine RW.sq (RW.rg (RL.step (MR.mv (v := ρ 1) q1 (ltT (by omega))) (RL.step (MR.mv (v := .slice none 0 0) (by show upd _ _ _ x = _; rw [upd_ne _ _ (by omega)]; exact qx) (ltT (by omega))) (RL.step (MR.ln hks (p := none) (n := 0) (c := 0) (upd_same _ _ _) (by omega)) (RL.step (MR.mv (v := .pointer (some ⟨pb, po, none⟩)) (by show upd _ _ _ 0 = _; rw [upd_ne _ _ (by omega), upd_ne _ _ (by omega), upd_ne _ _ (by omega)]; exact q0) (ltT (by omega))) (RL.step (MR.nc (upd_same _ _ _) (by omega)) (RL.step (MR.fa (upd_same _ _ _) hF (by omega)) ?_ (by omega)) (by omega)) (by omega)) (by omega)) (by omega)) (by omega)))
    refine RL.ca (R := fun v w' => v = .int .i64 0 ∧ w' = w1) (ok.tlen h1).1 ?_ ?_ (by omega) (by simp [MX.lt, Nat.blt_eq]; omega)
    · simp only [List.map_cons, List.map_nil, xof]
      rw [upd_same]
      refine Calls.mono ((ok.tlen h1).2 w1 B ⟨pb, po + toff, none⟩ (.map none) [] hm1 hc1) ?_
      rintro e w' ⟨rfl, rfl⟩
      exact ⟨_, rfl, rfl, rfl⟩
    rintro v w1' ⟨rfl, rfl⟩
    refine RL.step (MR.biE (v := .int .i64 0) ?_ (ltT (by omega)) (ltT (by omega))) (RL.step (MR.cvI (upd_same _ _ _) hi1 hi2 (by omega)) ?_ (by omega)) (by omega)
    · show evB .add (upd _ _ _ (m + 2)) (upd _ _ _ (m + 6)) = _
      rw [upd_same, upd_ne _ _ (by omega), upd_ne _ _ (by omega), upd_ne _ _ (by omega), upd_ne _ _ (by omega), upd_same]
      show some (Value.int .i64 (IntKind.i64.wrap 0)) = _
      rw [wrap_i64 (by omega) (by omega)]
    rw [wrap_u32 (by omega) (by omega)]
    refine RL.caA (sv := ρ 1) (bs := bs) (out := uv 0) (B := B) (ok.uvar h3) ?_ ho1 ⟨0, by omega, ?_, rfl⟩ (Nat.le_trans hB B1.size) (by rw [uv0]; simp only [List.length_cons, List.length_nil]; omega) ?_ (by omega) (ltT (by omega)) (by omega)
    · rw [upd_ne _ _ (by omega), upd_ne _ _ (by omega), upd_ne _ _ (by omega), upd_ne _ _ (by omega), upd_ne _ _ (by omega), upd_ne _ _ (by omega), upd_ne _ _ (by omega), upd_ne _ _ (by omega), upd_same]
    · show upd _ _ _ (m + 8) = _
      rw [upd_same]; rfl
    intro sv2 w2 o2 b2
    have B2 : Below B w w2 := B1.trans b2
    refine RL.step (MR.mv (v := sv2) (upd_same _ _ _) (ltT (by omega))) (RL.nil ?_) (by omega)
    -- no tag is told
    refine RW.sq (RW.sq (RW.rg (RL.step (MR.mv (v := .slice none 0 0) ?_ (ltT (by omega))) (RL.step (MR.ln hks (p := none) (n := 0) (c := 0) (upd_same _ _ _) (by omega)) (RL.step MR.mv (RL.nil (RW.bl ?_)) (by omega)) (by omega)) (by omega))))
    · show upd _ _ _ x = _
      rw [upd_ne _ _ (by omega), upd_ne _ _ (by omega), upd_ne _ _ (by omega), upd_ne _ _ (by omega), upd_ne _ _ (by omega), upd_ne _ _ (by omega), upd_ne _ _ (by omega), upd_ne _ _ (by omega), upd_ne _ _ (by omega), upd_ne _ _ (by omega), upd_ne _ _ (by omega)]
      exact qx
    refine RW.lp (fun ρ' w' => w' = w2 ∧ ρ' (m + 11) = .int .i64 0 ∧ ρ' (m + 12) = .int .i64 0 ∧ ρ' 0 = .pointer (some ⟨pb, po, none⟩) ∧ ρ' 1 = sv2 ∧ ∀ s, s < L → s ≠ x → s ≠ 1 → ρ' s = ρ s) (fun _ _ => 0) ⟨rfl, ?_, ?_, ?_, ?_, ?_⟩ ?_
    · rw [upd_ne _ _ (by omega), upd_same]; rfl
    · rw [upd_same]; rfl
    · rw [upd_ne _ _ (by omega), upd_ne _ _ (by omega), upd_ne _ _ (by omega), upd_ne _ _ (by omega), upd_ne _ _ (by omega), upd_ne _ _ (by omega), upd_ne _ _ (by omega), upd_ne _ _ (by omega), upd_ne _ _ (by omega), upd_ne _ _ (by omega), upd_ne _ _ (by omega), upd_ne _ _ (by omega), upd_ne _ _ (by omega), upd_ne _ _ (by omega)]
      exact q0
    · rw [upd_ne _ _ (by omega), upd_ne _ _ (by omega), upd_ne _ _ (by omega), upd_same]
    · intro s hs hsx hs1
      rw [upd_ne _ _ (by omega), upd_ne _ _ (by omega), upd_ne _ _ (by omega), upd_ne _ _ (by omega), upd_ne _ _ (by omega), upd_ne _ _ (by omega), upd_ne _ _ (by omega), upd_ne _ _ (by omega), upd_ne _ _ (by omega), upd_ne _ _ (by omega), upd_ne _ _ (by omega), upd_ne _ _ (by omega), upd_ne _ _ (by omega), upd_ne _ _ (by omega)]
      exact qs s hs hsx
    rintro ρ3 w3 ⟨rfl, z11, z12, z0, z1, zs⟩
    refine RW.sq (RW.rg (RL.step (MR.biE (v := .bool false) (by show evB .lss (ρ3 (m + 12)) (ρ3 (m + 11)) = _; rw [z11, z12]; rfl) (ltT (by omega)) (ltT (by omega))) (RL.nil ?_) (by omega)))
    refine RW.sq (RW.cd (b := false) (upd_same _ _ _) (fun e => by cases e) (fun _ => RW.ex ?_) (by omega))
    show inBlockR b _ (.exit b) _ _
    simp only [inBlockR, ↓reduceIte]
    have ho3 : OwnB I.tU8 w3 B sv2 (bs ++ uv 0) := o2
    have hc3 : w3.cell? ⟨pb, po + toff, none⟩ = some (.map none) := by rw [cell_of_heap (B2.block pb hpB)]; exact hc
    refine RW.rg (RL.step (MR.mv (v := .pointer (some ⟨pb, po, none⟩)) (by show upd _ _ _ 0 = _; rw [upd_ne _ _ (by omega)]; exact z0) (ltT (by omega))) (RL.step (MR.nc (upd_same _ _ _) (by omega)) (RL.step (MR.fa (upd_same _ _ _) hF (by omega)) (RL.step (MR.mv (v := sv2) (by show upd _ _ _ 1 = _; rw [upd_ne _ _ (by omega), upd_ne _ _ (by omega), upd_ne _ _ (by omega), upd_ne _ _ (by omega)]; exact z1) (ltT (by omega))) ?_ (by omega)) (by omega)) (by omega)) (by omega))
    refine RL.ca (R := fun sv' w' => OwnB I.tU8 w' B sv' ((bs ++ uv 0) ++ []) ∧ Below B w3 w') (ok.teach h2).1 ?_ ?_ (by omega) (by simp [MX.lt, Nat.blt_eq]; omega)
    · simp only [List.map_cons, List.map_nil, xof]
      rw [upd_same, upd_ne _ _ (by omega), upd_same]
      refine Calls.mono ((ok.teach h2).2 w3 B ⟨pb, po + toff, none⟩ (.map none) sv2 [] (bs ++ uv 0) (Nat.le_trans hB B2.size) hpB ho3 (.inl ⟨rfl, rfl⟩) hS0 hc3 (by rw [List.length_append, uv0]; simp; omega)) ?_
      rintro e w' ⟨sv', rfl, h1, h2⟩
      exact ⟨sv', rfl, h1, h2⟩
    rintro sv4 w4 ⟨o4, b4⟩
    refine RL.step (MR.mv (v := sv4) (upd_same _ _ _) (ltT (by omega))) (RL.nil ?_) (by omega)
    refine hQ _ w4 (fun s hs hs1 hsx => ?_) ?_ (B2.trans b4)
    · rw [upd_ne _ _ hs1, upd_ne _ _ (by omega), upd_ne _ _ (by omega), upd_ne _ _ (by omega), upd_ne _ _ (by omega), upd_ne _ _ (by omega), upd_ne _ _ (by omega)]
      exact zs s hs (by omega) hs1
    · rw [upd_same]
      rw [List.append_nil] at o4
      exact o4
end
end Go.Kx
