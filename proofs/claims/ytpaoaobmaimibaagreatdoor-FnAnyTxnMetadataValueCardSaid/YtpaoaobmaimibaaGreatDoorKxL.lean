/- Known tags are read: each of a reader of its own; what is not known is kept. Conditions: the reader's contracts (RKOK), the tests krB.
   readFrom's fields in a row; lists of structs. Conditions: the reader's contracts (RKOK), the plan's tests (wfRF), the default's cells (ZF).
   readFrom, whole. Conditions: the reader's contracts (RKOK), the plan's tests, Default's contract (DefD). -/
import Derived.Test.YtpaoaobmaimibaaGreatDoorKxK
namespace Go.Kx
open Go.RowKit
set_option linter.unusedSimpArgs false
set_option linter.unusedVariables false
/-! ### Known tags and the others, in a row -/
theorem KnAt.congr {cs cs' : List Value} : ∀ {kn : List KT} {out : List Tg}, (∀ q ∈ kn, cs'[q.off]? = cs[q.off]?) → KnAt kn cs out → KnAt kn cs' out
  | [], _, _, h => h
  | q :: r, out, he, h => by
    obtain ⟨v, n, out', h1, h2, h3, h4⟩ := h
    exact ⟨v, n, out', by rw [he q List.mem_cons_self]; exact h1, h2, h3, KnAt.congr (fun p hp => he p (List.mem_cons_of_mem _ hp)) h4⟩
theorem conT_ge : ∀ {kn : List KT} {lo : Nat}, conT lo kn = true → ∀ q ∈ kn, lo ≤ q.tag ∧ q.tag < lo + kn.length
  | [], _, _, q, hq => by simp at hq
  | p :: r, lo, h, q, hq => by
    simp only [conT, Bool.and_eq_true, Nat.beq_eq] at h
    simp only [List.length_cons]
    rcases List.mem_cons.1 hq with rfl | hq
    · omega
    · have := conT_ge h.2 q hq; omega
theorem conT_all : ∀ {kn : List KT} {lo k : Nat}, conT lo kn = true → lo ≤ k → k < lo + kn.length → ∃ q ∈ kn, q.tag = k
  | [], lo, k, _, h1, h2 => by simp at h2; omega
  | p :: r, lo, k, h, h1, h2 => by
    simp only [conT, Bool.and_eq_true, Nat.beq_eq] at h
    simp only [List.length_cons] at h2
    by_cases e : k = lo
    · exact ⟨p, List.mem_cons_self, by omega⟩
    · obtain ⟨q, h3, h4⟩ := conT_all h.2 (by omega) (show k < lo + 1 + r.length by omega)
      exact ⟨q, List.mem_cons_of_mem _ h3, h4⟩
theorem ascO_ge : ∀ {kn : List KT} {lo : Nat}, ascO lo kn = true → ∀ q ∈ kn, lo ≤ q.off
  | [], _, _, q, hq => by simp at hq
  | p :: r, lo, h, q, hq => by
    simp only [ascO, Bool.and_eq_true, Nat.ble_eq] at h
    rcases List.mem_cons.1 hq with rfl | hq
    · exact h.1
    · have := ascO_ge h.2 q hq; omega
theorem KnAt.tags {kn : List KT} {cs : List Value} {out : List Tg} {lo : Nat} (h : KnAt kn cs out) (hc : conT lo kn = true) : ∀ x ∈ out, lo ≤ x.1 ∧ x.1 < lo + kn.length := fun x hx => by
  obtain ⟨q, hq, v, n, _, _, rfl⟩ := h.in x hx
  exact conT_ge hc q hq
theorem setTag_app {t : Tg} : ∀ {a b : List Tg}, (∀ x ∈ a, x.1 < t.1) → setTag t (a ++ b) = a ++ setTag t b
  | [], b, _ => rfl
  | x :: a, b, h => by
    rw [List.cons_append, setTag, if_pos (h x List.mem_cons_self), setTag_app (fun y hy => h y (List.mem_cons_of_mem _ hy))]; rfl
theorem setTag_front {t : Tg} : ∀ {b : List Tg}, (∀ x ∈ b, t.1 < x.1) → setTag t b = t :: b
  | [], _ => rfl
  | x :: b, h => by
    have := h x List.mem_cons_self
    rw [setTag, if_neg (by omega), if_neg (by omega)]
theorem erase_id {k : Nat} : ∀ {b : List Tg}, (∀ x ∈ b, x.1 ≠ k) → eraseTag k b = b := fun {b} h => List.filter_eq_self.2 fun x hx => by simpa using h x hx
theorem KnAt.set {n : Int} {X : List Tg} : ∀ {kn : List KT} {lo lo' : Nat} {cs : List Value} {kb : List Tg}, conT lo kn = true → ascO lo' kn = true → KnAt kn cs kb → ∀ q ∈ kn, NumP q.k (.int q.k.ik n) n → q.off < cs.length → (∀ x ∈ X, lo + kn.length ≤ x.1) →
    ∃ kb', KnAt kn (cs.set q.off (.int q.k.ik n)) kb' ∧ (if n = q.df then eraseTag q.tag (kb ++ X) else setTag (q.tag, encP q.k false (.n n)) (kb ++ X)) = kb' ++ X
  | [], _, _, _, _, _, _, _, q, hq, _, _, _ => by simp at hq
  | p :: r, lo, lo', cs, kb, hc, ho, hk, q, hq, hn, hl, hX => by
    obtain ⟨v0, n0, out, h1, h2, rfl, h4⟩ := hk
    have hc0 := hc
    have ho0 := ho
    simp only [conT, Bool.and_eq_true, Nat.beq_eq] at hc
    simp only [ascO, Bool.and_eq_true, Nat.ble_eq] at ho
    have hot := h4.tags hc.2
    simp only [List.length_cons] at hX
    have hoff := ascO_ge ho.2
    rcases List.mem_cons.1 hq with rfl | hq
    · have hY : ∀ x ∈ out ++ X, q.tag < x.1 := fun x hx => by
        rcases List.mem_append.1 hx with hx | hx
        · have := hot x hx; omega
        · have := hX x hx; omega
      refine ⟨q.enc n ++ out, ⟨_, n, out, by rw [List.getElem?_set_self hl], hn, rfl, h4.congr fun p hp => by rw [List.getElem?_set_ne (by have := hoff p hp; omega)]⟩, ?_⟩
      have e0 : q.enc n0 ++ out ++ X = q.enc n0 ++ (out ++ X) := List.append_assoc _ _ _
      rw [e0, List.append_assoc]
      unfold KT.enc
      by_cases hnd : n = q.df
      · rw [if_pos hnd, if_pos hnd]
        have e1 := erase_id (k := q.tag) (b := out ++ X) fun x hx => by have := hY x hx; omega
        split
        · exact e1
        · show eraseTag q.tag ((q.tag, encP q.k false (.n n0)) :: (out ++ X)) = _
          unfold eraseTag at e1 ⊢
          rw [List.filter_cons_of_neg (by simp), e1]; rfl
      · rw [if_neg hnd, if_neg hnd]
        split
        · exact setTag_front hY
        · show setTag _ ((q.tag, encP q.k false (.n n0)) :: (out ++ X)) = _
          rw [setTag, if_neg (by simp), if_pos rfl]; rfl
    · have hqt := (conT_ge hc.2 q hq).1
      obtain ⟨kb', g1, g2⟩ := KnAt.set (X := X) hc.2 ho.2 h4 q hq hn hl (fun x hx => by have := hX x hx; omega)
      refine ⟨p.enc n0 ++ kb', ⟨v0, n0, kb', by rw [List.getElem?_set_ne (by have := hoff q hq; omega)]; exact h1, h2, rfl, g1⟩, ?_⟩
      have e0 : p.enc n0 ++ out ++ X = p.enc n0 ++ (out ++ X) := List.append_assoc _ _ _
      rw [e0, List.append_assoc, ← g2]
      have hp : ∀ x ∈ p.enc n0, x.1 = p.tag := fun x hx => by
        unfold KT.enc at hx
        split at hx
        · simp at hx
        · simp only [List.mem_singleton] at hx; rw [hx]
      split
      · unfold eraseTag
        rw [List.filter_append]
        congr 1
        exact List.filter_eq_self.2 fun x hx => by have := hp x hx; simp; omega
      · exact setTag_app fun x hx => by have := hp x hx; show x.1 < q.tag; omega
theorem RepF.gap {w : World} {F : Nat → Prop} {cs cs' : List Value} (hl : cs'.length = cs.length) : ∀ {fs : Flds} {ds : List D}, (∀ j, gapF fs j = false → cs'[j]? = cs[j]?) → RepF w F fs cs ds → RepF w F fs cs' ds
  | .nil, _, _, h => by unfold RepF at h ⊢; exact h
  | .cons c idx off df ty rest, ds, hg, h => by
    unfold RepF at h ⊢
    obtain ⟨h1, d, ds', h2, h3, h4⟩ := h
    refine ⟨by omega, d, ds', h2, ?_, RepF.gap hl (fun j hj => hg j (by unfold gapF; rw [hj, Bool.and_false])) h4⟩
    have e : (cs'.drop off).take ty.cells = (cs.drop off).take ty.cells := by
      apply List.ext_getElem?
      intro k
      rw [List.getElem?_take, List.getElem?_take]
      split
      · rename_i hk
        rw [List.getElem?_drop, List.getElem?_drop]
        refine hg _ ?_
        unfold gapF
        have e1 : Nat.blt (off + k) off = false := by rw [← Bool.not_eq_true, Nat.blt_eq]; omega
        have e2 : Nat.ble (off + ty.cells) (off + k) = false := by rw [← Bool.not_eq_true, Nat.ble_eq]; omega
        rw [e1, e2]; rfl
      · rfl
    rw [e]; exact h3
section
variable {P : Program} {N : Nat} {Q : Exit → (Nat → Value) → World → Prop} {ρ : Nat → Value} {w w' : World} {ms : List MOp} {d : Nat} {R : RN} {G : TG} {rb sb h b o n : Nat} {ev : Value} {st st' : Option (List UInt8)} {sf : Option Nat} {flex : Bool} {ver : Int}
theorem MR.neqNilI {ty x : Nat} {v : Value} (hs : ifaceTy P ty = true) (hx : ρ x = v) (hv : v = Value.nilIface ∨ isErr v) (hxN : x < N := by decide) : MR P N (.bi d .neq ty (.t x) (.c .niface)) ρ w d (.bool (errB v)) w := by
  obtain ⟨mts, hu⟩ := ifaceTy_eq hs
  intro a o hl hf
  generalize hop : o.op = op' at hf
  unfold execOp
  cases op' <;> simp only [fitOp, Bool.and_eq_true, Bool.false_eq_true, Nat.beq_eq] at hf
  rename_i bop ty' ox oy kq
  obtain ⟨⟨⟨⟨⟨h1, h2⟩, h3⟩, h4⟩, h5⟩, _⟩ := hf
  have h2' := sameOp_eq h2
  subst h2' h3
  cases oy <;> simp only [MX.is, Bool.false_eq_true] at h5
  rename_i c
  have hc : c = Value.nilIface := by cases c <;> simp_all [MVal.is]
  subst hc
  have e1 := MX.evalL hl (ltT hxN) h4
  have e2 : a.eval (Operand.const Value.nilIface) = Value.nilIface := rfl
  have hD : Op.maxDepth = 9999 + 1 := rfl
  refine ⟨dstIs_eq h1, ?_⟩
  have hg : ∀ u : Value, (u = Value.nilIface ∨ isErr u) → (eqGuard .neq ty ox (Operand.const Value.nilIface) u Value.nilIface).run P w = .ok () w := by
    rintro u (rfl | ⟨t, y, rfl⟩)
    · unfold eqGuard; cases ox <;> rfl
    · unfold eqGuard; cases ox <;> rfl
  have hq : ∀ u : Value, (u = Value.nilIface ∨ isErr u) → ∀ d : Nat, (Op.equalIn (d + 1) ty u Value.nilIface).run P w = .ok (!errB u) w := by
    rintro u (rfl | ⟨t, y, rfl⟩) d
    · simp [Op.equalIn, run_underlying hu, errB]
    · simp [Op.equalIn, run_underlying hu, errB]
  have hb : (binOp .neq ty v Value.nilIface).run P w = .ok (.bool (errB v)) w := by
    rcases hv with rfl | ⟨t, y, rfl⟩
    · simp only [binOp]
      simp [Op.equal, Op.maxDepth, hq _ (.inl rfl) 9999]
    · simp only [binOp]
      simp [Op.equal, Op.maxDepth, hq _ (.inr ⟨t, y, rfl⟩) 9999]
  simp only [hop, e1, e2, xof, hx, Sem.run_bind, hg v hv, hb, Result.andThen_ok, Sem.run_pure]
def dLV : Dec (List UInt8) := dUv.bind fun s => dSpan (s : Nat)
theorem krCase_ok {T vs v c y L : Nat} {q : KT} (kk : RKOK P R G) (hF : fieldAtB P T q.idx q.off = true) (hty : cellsB P q.ty 1 = true) (hnum : q.k.isNum = true) (hfn : R.fn q.k false ≠ 0) (hoff : q.off < n) (hif : ifaceTy P R.tErr = true) (hz0 : zeroIs P R.tR [.nslice, .bool false] = true) (hpl : plcB P R.tR 2 = true) (hcr : cellsB P R.tR 2 = true) (hru : R.uv ≠ 0) (hrs : R.span ≠ 0) (h32 : R.T.u32 ≠ 0)
    (hh : FH P R rb sb h b o n ev st w) (cx : RCx sf flex ver rb vs b o ρ) (hvy : vs < y) (h9 : 9 ≤ y) (hyv : y ≤ v) (hvL : v + 2 < L) (hL : L ≤ c) (hN : c + 15 ≤ N)
    (hQ : ∀ ρ' w' l n' st', (∀ s, s < y → ρ' s = ρ s) → Fr (· = rb) b (o + q.off) 1 w w' → Got dLV st l st' → q.dec l = some n' → RdAt w' rb sb st' → w'.cell? ⟨b, o + q.off, none⟩ = some (.int q.k.ik n') → NumP q.k (.int q.k.ik n') n' → Q .normal ρ' w')
    (hE : ∀ ρ' w' l st', ρ' 6 = ev → Fr (· = rb) b (o + q.off) 1 w w' → Got dLV st l st' → q.dec l = none → Q .ret ρ' w') : RW P N (krCase R T vs q v c) Q ρ w := by
  have hbw : b < w.heap.size := Nat.lt_of_le_of_lt hh.hb hh.hw
  have hz := zeroIs_of hz0
  unfold krCase
  refine RWL.rows ?_
  refine RW.rg (RL.rd (kk.uv hru) cx.r7 hh.rd hh.ne (ltT (by omega)) (by omega) ?_)
  rintro u s st1 w1 F1 G1 R1 ⟨rfl, hs⟩
  refine RL.step (MR.cvI (n := (s : Nat)) (upd_same _ _ _) (kk.ok.tk.u32 h32) kk.ok.tk.int (by omega)) (RL.span (n := (s : Nat)) (kk.span hrs) (by show upd _ _ _ 7 = _; (repeat (first | rw [upd_same] | rw [upd_ne _ _ (by omega)])); exact cx.r7) (by show upd _ _ _ _ = _; rw [upd_same]; show Value.int .i64 (IntKind.i64.wrap (s : Int)) = _; rw [wrap_i64 (by omega) (by omega)]) R1 hh.ne (ltT (by omega)) (ltT (by omega)) (by omega) ?_) (by omega)
  intro ad l st2 w2 F2 G2 R2 had hby
  have hrb2 := R2.lt
  have hs2 : w.heap.size ≤ w2.heap.size := Nat.le_trans F1.size F2.size
  refine RL.step (MR.bdl (w' := w2) (v := .agg #[.slice ad l.length l.length, .bool false]) ?_ (by simp [MX.lt, Nat.blt_eq]; omega)) (RL.alst (z := [.slice none 0 0, .bool false]) (cs := [.slice ad l.length l.length, .bool false]) (n := 2) hz (upd_same _ _ _) (by omega) rfl rfl hcr rfl ?_ (by omega) (by omega)) (by omega)
  · have hbd := built_of (z := [.slice none 0 0, .bool false]) (parts := [(0, .slice ad l.length l.length)]) (cells := [.slice ad l.length l.length, .bool false]) hz hpl (by simp [Value.cells]) rfl w2
    simp only [List.map_cons, List.map_nil, xof]
    rw [upd_same]
    exact hbd
  intro w3 b3 s3 r3 t3
  refine RL.nil ?_
  show RWL P N _ _ _ w3
  generalize hρ1 : upd (upd _ (c + 5) _) v _ = ρ1
  have p1 : ∀ s, s < y → ρ1 s = ρ s := fun s hs => by rw [← hρ1]; (repeat (first | rw [upd_same] | rw [upd_ne _ _ (by omega)]))
  have p1v : ρ1 v = .pointer (some ⟨w2.heap.size, 0, none⟩) := by rw [← hρ1]; exact upd_same _ _ _
  have hGl : Got dLV st l st2 := G1.bind G2
  have F12 : Fr (· = rb) b (o + q.off) 1 w w2 := (F1.trans F2).rd hh.rbb hbw
  have F3 : Fr (· = rb) b (o + q.off) 1 w w3 := F12.trans (Fr.ofBelow b3 (by omega))
  have R3 : RdAt w3 rb sb st2 := R2.below b3
  have hsbw : sb < w2.heap.size := Nat.lt_of_lt_of_le hh.hs hs2
  have Ri : RdAt w3 w2.heap.size sb (some l) := ⟨ad, l.length, r3, t3, had, Nat.le_refl _, hby.mono (fun _ h => h) (fun k hk => by rw [hk]; exact b3.block sb hsbw)⟩
  refine RW.rg (RL.rd (kk.fn q.k false hfn) p1v Ri (by omega) (ltT (by omega)) (by omega) ?_)
  rintro vv dd st4 w4 F4 G4 R4 ⟨cv, c1, c2, c3⟩
  refine RL.step (MR.mv (upd_same _ _ _) (ltT (by omega))) (RL.nil ?_) (by omega)
  show RWL P N _ _ _ w4
  obtain ⟨n', hvv, hdd, hnp⟩ : ∃ n', vv = .int q.k.ik n' ∧ dd = .n n' ∧ NumP q.k (.int q.k.ik n') n' := by
    have one : ∀ u : Value, vv.cells.toList = [u] → vv.oneCell' = true → vv = u := fun u hu h1 => by
      have : vv.cells = #[u] := Array.toList_inj.1 hu
      cases vv <;> simp_all [Value.cells, Value.oneCell']
    cases hk : q.k <;> rw [hk] at hnum cv c3 <;> simp only [PK.isNum, Bool.false_eq_true] at hnum
    all_goals (obtain ⟨m, e1, e2, e3, e4⟩ := c3; exact ⟨m, one _ e1 cv, e2, ⟨rfl, e3, e4⟩⟩)
  subst hvv hdd
  generalize hρ2 : upd (upd ρ1 (c + 6) _) (v + 1) _ = ρ2
  have p2 : ∀ s, s < v + 1 → ρ2 s = ρ1 s := fun s hs => by rw [← hρ2]; (repeat (first | rw [upd_same] | rw [upd_ne _ _ (by omega)]))
  have p2v : ρ2 (v + 1) = .int q.k.ik n' := by rw [← hρ2]; exact upd_same _ _ _
  have hrbw : rb < w3.heap.size := Nat.lt_of_lt_of_le hrb2 b3.size
  have F34 : Fr (fun k => k = rb ∨ w.heap.size ≤ k) b (o + q.off) 1 w3 w4 := (F4.wide (X' := fun k => k = rb ∨ w.heap.size ≤ k) (fun _ h => h.elim) (Nat.le_refl _) (Nat.le_refl _)).other (.inr hs2) (by
    rintro (e | e)
    · exact hh.rbb e
    · omega) (by omega)
  have F04 : Fr (fun k => k = rb ∨ w.heap.size ≤ k) b (o + q.off) 1 w w4 := (F3.wide (fun _ h => .inl h) (Nat.le_refl _) (Nat.le_refl _)).trans F34
  have F4w : Fr (· = rb) b (o + q.off) 1 w w4 := F04.drop fun k hk => hk
  have R4o : RdAt w4 rb sb st2 := R3.keep (F4.block rb hrbw (by omega) (fun x => x)) (F4.block sb (Nat.lt_of_lt_of_le hsbw b3.size) (by omega) (fun x => x))
  have ht4 : w4.there b (o + q.off) 1 := there_in (F4w.there _ _ hh.th) (by omega)
  have hvs2 : ρ2 vs = .pointer (some ⟨b, o, none⟩) := by rw [p2 vs (by omega), p1 vs hvy]; exact cx.rv
  refine store_ok (L := L) (v := .int q.k.ik n') hF (by exact hty) hvs2 p2v rfl ht4 (by omega) (by omega) (by omega) (by omega) fun ρ3 p3 => ?_
  show RWL P N _ _ ρ3 (w4.setCells b (o + q.off) [.int q.k.ik n'])
  have F5 : Fr (· = rb) b (o + q.off) 1 w4 (w4.setCells b (o + q.off) [.int q.k.ik n']) := Fr.put _ (Nat.le_refl _) (by simp)
  have hcell5 : (w4.setCells b (o + q.off) [.int q.k.ik n']).cell? ⟨b, o + q.off, none⟩ = some (.int q.k.ik n') := by
    have := World.rangeAt_setCells_same w4 b (o + q.off) [.int q.k.ik n'] ht4 0 _ rfl
    simpa using this
  have hob : ∀ k, k ≠ b → (w4.setCells b (o + q.off) [.int q.k.ik n']).heap[k]? = w4.heap[k]? := fun k hk => setCells_other b _ _ _ k hk
  generalize w4.setCells b (o + q.off) [.int q.k.ik n'] = w5 at F5 hcell5 hob
  have FF := F4w.trans F5
  have R5 : RdAt w5 rb sb st2 := R4o.keep (hob rb (fun e => hh.rbb e.symm)) (hob sb hh.nb)
  have R5i : RdAt w5 w2.heap.size sb st4 := R4.keep (hob _ (by omega)) (hob sb hh.nb)
  have hev5 : w5.cell? ⟨R.gErr, 0, none⟩ = some ev := by
    rw [cell_of_heap (FF.block _ (World.block_lt_of_cell? w _ hh.ev) hh.gb hh.gr)]; exact hh.ev
  have p3v : ρ3 v = .pointer (some ⟨w2.heap.size, 0, none⟩) := by rw [p3 v (by omega), p2 v (by omega)]; exact p1v
  refine RW.rg (RL.ca (R := fun v w' => v = complV ev st4 ∧ w5 = w') kk.compl.1 ?_ ?_ (by omega) (by simp [MX.lt, Nat.blt_eq]; omega))
  · simp only [List.map_cons, List.map_nil, xof, p3v]
    refine Calls.mono (kk.compl.2 w5 w2.heap.size sb st4 ev R5i hev5) ?_
    rintro e w' ⟨rfl, rfl⟩
    exact ⟨_, rfl, rfl, rfl⟩
  rintro v' w' ⟨rfl, rfl⟩
  refine RL.step (MR.mv (upd_same _ _ _) (ltT (by omega))) (RL.nil ?_) (by omega)
  show RWL P N _ _ _ w5
  generalize hρ4 : upd (upd ρ3 (c + 11) _) (v + 2) _ = ρ4
  have p4 : ∀ s, s < y → ρ4 s = ρ s := fun s hs => by rw [← hρ4]; (repeat (first | rw [upd_same] | rw [upd_ne _ _ (by omega)])); rw [p3 s (by omega), p2 s (by omega), p1 s hs]
  have p4v : ρ4 (v + 2) = complV ev st4 := by rw [← hρ4]; exact upd_same _ _ _
  refine RWL.one (RW.sq (RW.rg (RL.step (MR.mv (v := complV ev st4) p4v (ltT (by omega))) ?_ (by omega))))
  cases hst : st4 with
  | some r =>
    rw [hst] at G4
    have e : complV ev (some r) = Value.nilIface := rfl
    rw [e]
    refine RL.step (MR.neqNilI (v := Value.nilIface) hif (upd_same _ _ _) (.inl rfl) (by omega)) (RL.nil (RW.cd (b := false) (upd_same _ _ _) (fun e => by cases e) (fun _ => RW.sk ?_) (by omega))) (by omega)
    refine hQ _ w5 l n' st2 (fun s hs => by (repeat (first | rw [upd_same] | rw [upd_ne _ _ (by omega)])); exact p4 s hs) FF hGl ?_ R5 hcell5 hnp
    unfold KT.dec
    have : dP q.k false l = some (.n n', r) := G4
    rw [this]
  | none =>
    rw [hst] at G4
    have e : complV ev none = ev := rfl
    rw [e]
    have hb : errB ev = true := by obtain ⟨a1, a2, a3⟩ := hh.er; rw [a3]; rfl
    refine RL.step (MR.neqNilI (v := ev) hif (upd_same _ _ _) (.inr hh.er) (by omega)) (RL.nil (RW.cd (b := true) (by rw [upd_same, hb]) (fun _ => ?_) (fun e => by cases e) (by omega))) (by omega)
    refine RW.sq (RW.rg (RL.step (MR.mv (v := ev) (by show upd _ _ _ (v + 2) = _; (repeat (first | rw [upd_same] | rw [upd_ne _ _ (by omega)])); rw [p4v, hst]; rfl) (ltT (by omega))) (RL.step (MR.mv (v := ev) (upd_same _ _ _) (ltT (by omega))) (RL.nil ?_) (by omega)) (by omega)))
    refine RW.rt (hE _ w5 l st2 (upd_same _ _ _) FF hGl ?_)
    unfold KT.dec
    have : dP q.k false l = none := G4
    rw [this]
theorem krChain_ok {T vs s k : Nat} {dflt : MCode} : ∀ (kn : List KT) {v c : Nat} {ρ : Nat → Value}, ρ s = .int .u32 (k : Nat) → s < c → c + 15 * kn.length ≤ N →
    (∀ q ∈ kn, q.tag = k → ∀ v' c' ρ', v ≤ v' → v' + 3 ≤ v + 3 * kn.length → c ≤ c' → c' + 15 ≤ c + 15 * kn.length → (∀ s', s' < c → ρ' s' = ρ s') → RW P N (krCase R T vs q v' c') Q ρ' w) →
    ((∀ q ∈ kn, q.tag ≠ k) → ∀ ρ', (∀ s', s' < c → ρ' s' = ρ s') → RW P N dflt Q ρ' w) → RW P N (krChain R T vs s kn v c dflt) Q ρ w
  | [], v, c, ρ, _, _, _, _, hD => hD (by simp) ρ fun _ _ => rfl
  | q :: r, v, c, ρ, hs, hsc, hN, hC, hD => by
    simp only [List.length_cons] at hN hC
    unfold krChain
    refine RW.sq (RW.rg (RL.step (MR.biE (v := .bool (((k : Nat) : Int) == ((q.tag : Nat) : Int))) (by show evB .eql (ρ s) _ = _; rw [hs]; rfl) (ltT (by omega)) rfl) (RL.step (MR.mv (upd_same _ _ _) (ltT (by omega))) (RL.nil ?_) (by omega)) (by omega)))
    refine RW.cd (b := (((k : Nat) : Int) == ((q.tag : Nat) : Int))) (upd_same _ _ _) (fun e => ?_) (fun e => ?_) (by omega)
    · have htag : q.tag = k := by have := beq_iff_eq.1 e; omega
      exact hC q List.mem_cons_self htag v c _ (Nat.le_refl _) (by omega) (Nat.le_refl _) (by omega) fun s' h => by (repeat (first | rw [upd_same] | rw [upd_ne _ _ (by omega)]))
    · have hne : q.tag ≠ k := fun h => by rw [h] at e; simp at e
      refine krChain_ok r (v := v + 3) (c := c + 15) (by (repeat (first | rw [upd_same] | rw [upd_ne _ _ (by omega)])); exact hs) (by omega) (by omega) ?_ ?_
      · intro p hp ht v' c' ρ' h1 h2 h3 h4 h5
        exact hC p (List.mem_cons_of_mem _ hp) ht v' c' ρ' (by omega) (by omega) (by omega) (by omega) fun s' h => by rw [h5 s' (by omega)]; (repeat (first | rw [upd_same] | rw [upd_ne _ _ (by omega)]))
      · intro hno ρ' h5
        refine hD (fun p hp => ?_) ρ' fun s' h => by rw [h5 s' (by omega)]; (repeat (first | rw [upd_same] | rw [upd_ne _ _ (by omega)]))
        rcases List.mem_cons.1 hp with rfl | hp
        · exact hne
        · exact hno p hp
theorem TM.keep {lo : Nat} {m : Value} {tags : List Tg} (h : TM w lo sb m tags) (hh : ∀ k, k < w.heap.size → lo ≤ k → w'.heap[k]? = w.heap[k]?) (hs : w'.heap[sb]? = w.heap[sb]?) : TM w' lo sb m tags := by
  rcases h with h | ⟨r, es, clock, g1, g2, g3, g4⟩
  · exact .inl h
  · exact .inr ⟨r, es, clock, g1, g2, by rw [hh r (Array.getElem?_eq_some_iff.1 g3).1 g2]; exact g3, g4.keep hs⟩
theorem krDflt_ok {T vs idx x t mo lo k : Nat} {un : List Tg} {mv : Value} (kk : RKOK P R G) (hF : fieldAtB P T idx mo = true) (hfr : G.fRead ≠ 0) (hru : R.uv ≠ 0) (hrs : R.span ≠ 0) (h32 : R.T.u32 ≠ 0)
    (hh : FH P R rb sb h b o n ev st w) (cx : RCx sf flex ver rb vs b o ρ) (hkey : ρ (x + 1) = .int .u32 (k : Nat)) (hk : k < 4294967296) (hT : TM w lo sb mv un) (hcell : w.cell? ⟨b, o + mo, none⟩ = some mv) (hth : w.there b (o + mo) 1) (hlo : lo ≤ w.heap.size) (hhl : h < lo) (hsl : sb < lo)
    (hvt : vs < t) (hxt : x + 1 < t) (h9 : 9 ≤ t) (hN : t + 16 ≤ N)
    (hQ : ∀ ρ' w' l st' m', (∀ s, s < t → ρ' s = ρ s) → Fr (fun k => k = rb ∨ lo ≤ k) b (o + mo) 1 w w' → Got dLV st l st' → RdAt w' rb sb st' → TM w' lo sb m' (setTag (k, l) un) → w'.cell? ⟨b, o + mo, none⟩ = some m' → Q .normal ρ' w') : RW P N (krDflt R G T vs idx x t) Q ρ w := by
  have hbw : b < w.heap.size := Nat.lt_of_le_of_lt hh.hb hh.hw
  have hset := kk.set hfr
  unfold krDflt
  refine RW.gd kk.ok.mo (fun _ => True) trivial ?_
  have bd : Below w.heap.size w (World.drew1 w) := below_drew1 w _
  have rd : RdAt (World.drew1 w) rb sb st := hh.rd.below bd
  have Td : TM (World.drew1 w) lo sb mv un := hT.keep (fun _ _ _ => rfl) rfl
  have cd : (World.drew1 w).cell? ⟨b, o + mo, none⟩ = some mv := hcell
  have td : (World.drew1 w).there b (o + mo) 1 := hth
  have sd : (World.drew1 w).heap.size = w.heap.size := rfl
  have Fd : Fr (fun k => k = rb ∨ lo ≤ k) b (o + mo) 1 w (World.drew1 w) := Fr.ofBelow bd hbw
  generalize World.drew1 w = wd at rd Td cd td sd Fd
  refine RG.q (fun _ _ => MR.mv cx.rv (ltT (by omega))) (RG.q (fun _ _ => MR.nc (p := ⟨b, o, none⟩) (upd_same _ _ _) (by omega)) (RG.q (fun _ _ => MR.fa (upd_same _ _ _) hF (by omega)) (RG.q (fun _ _ => MR.mv (v := .int .u32 (k : Nat)) (by show upd _ _ _ (x + 1) = _; (repeat (first | rw [upd_same] | rw [upd_ne _ _ (by omega)])); exact hkey) (ltT (by omega))) ?_ (hd := by omega)) (hd := by omega)) (hd := by omega)) (hd := by omega)
  refine RG.ca (R := fun v w' => ∃ (s : Nat) (st1 : Option (List UInt8)), v = .int .u32 (s : Nat) ∧ s < 4294967296 ∧ Fr (fun _ => False) rb 0 2 wd w' ∧ Got dUv st s st1 ∧ RdAt w' rb sb st1) (kk.uv hru).1 (fun _ => ?_) ?_ (hd := by omega) (hx := by simp [MX.lt, Nat.blt_eq]; omega)
  · simp only [List.map_cons, List.map_nil, xof]
    (repeat (first | rw [upd_same] | rw [upd_ne _ _ (by omega)]))
    rw [cx.r7]
    refine Calls.mono ((kk.uv hru).2 wd rb sb st rd hh.ne) ?_
    rintro e w' ⟨v, s, st1, rfl, g1, g2, g3, g4, g5⟩
    exact ⟨v, rfl, ⟨s, st1, g4, g5, g1, g2, g3⟩, trivial⟩
  rintro v w1 ⟨s, st1, rfl, hs, F1, G1, R1⟩
  refine RG.q (fun _ _ => MR.cvI (n := (s : Nat)) (upd_same _ _ _) (kk.ok.tk.u32 h32) kk.ok.tk.int (by omega)) ?_ (hd := by omega)
  rw [show IntKind.i64.wrap ((s : Nat) : Int) = (s : Int) from wrap_i64 (by omega) (by omega)]
  refine RG.ca (R := fun v w' => ∃ ad l st2, v = .slice ad (List.length l) (List.length l) ∧ Fr (fun _ => False) rb 0 2 w1 w' ∧ Got (dSpan (s : Nat)) st1 l st2 ∧ RdAt w' rb sb st2 ∧ okAd ad ∧ BytesAt w' (· = sb) ad l) (kk.span hrs).1 (fun _ => ?_) ?_ (hd := by omega) (hx := by simp [MX.lt, Nat.blt_eq]; omega)
  · simp only [List.map_cons, List.map_nil, xof]
    (repeat (first | rw [upd_same] | rw [upd_ne _ _ (by omega)]))
    rw [cx.r7]
    refine Calls.mono ((kk.span hrs).2 w1 rb sb st1 (s : Nat) R1 hh.ne) ?_
    rintro e w' ⟨ad, l, st2, rfl, g1, g2, g3, g4, g5⟩
    exact ⟨_, rfl, ⟨ad, l, st2, rfl, g1, g2, g3, g4, g5⟩, trivial⟩
  rintro v w2 ⟨ad, l, st2, rfl, F2, G2, R2, had, hby⟩
  have F12 : Fr (fun _ => False) rb 0 2 wd w2 := F1.trans F2
  have hkb : ∀ k, k < wd.heap.size → k ≠ rb → w2.heap[k]? = wd.heap[k]? := fun k h1 h2 => F12.block k h1 h2 (fun x => x)
  have hhr := hh.hr
  have hhb := hh.hb
  have T2 : TM w2 lo sb mv un := Td.keep (fun k h1 h2 => hkb k h1 (by omega)) (hkb sb (by omega) hh.ne)
  have cell2 : w2.cell? ⟨b, o + mo, none⟩ = some mv := by rw [cell_of_heap (hkb b (by omega) hh.rbb)]; exact cd
  have th2 : w2.there b (o + mo) 1 := there_keep td (hkb b (by omega) hh.rbb)
  refine RG.ca (R := fun _ w' => ∃ m', TM w' lo sb m' (setTag (k, l) un) ∧ w'.rangeAt b (o + mo) [m'] ∧ w'.there b (o + mo) 1 ∧ Fr (fun b => lo ≤ b) b (o + mo) 1 w2 w') hset.1 (fun _ => ?_) ?_ (hd := by omega) (hx := by simp [MX.lt, Nat.blt_eq]; omega)
  · simp only [List.map_cons, List.map_nil, xof]
    (repeat (first | rw [upd_same] | rw [upd_ne _ _ (by omega)]))
    refine Calls.mono (hset.2 w2 b (o + mo) sb lo mv un k ad l l.length T2 (fun j z hz => ?_) th2 (Nat.le_trans (by omega) F12.size) hsl hh.nb hk hby) ?_
    · cases j with
      | zero => simp only [List.getElem?_cons_zero, Option.some.injEq] at hz; subst hz; exact cell2
      | succ j => simp at hz
    rintro e w' ⟨⟨v, rfl⟩, h⟩
    exact ⟨v, rfl, h, trivial⟩
  rintro v w3 ⟨m', T3, r3, t3, F3⟩
  refine RG.nil fun _ => ?_
  have h2s := F12.size
  have F23 : Fr (fun k => k = rb ∨ lo ≤ k) b (o + mo) 1 w2 w3 := F3.wide (fun _ h => .inr h) (Nat.le_refl _) (Nat.le_refl _)
  have F02 : Fr (fun k => k = rb ∨ lo ≤ k) b (o + mo) 1 wd w2 := (F12.rd hh.rbb (by omega)).wide (fun _ h => .inl h) (Nat.le_refl _) (Nat.le_refl _)
  refine hQ _ w3 l st2 m' (fun s hs => by (repeat (first | rw [upd_same] | rw [upd_ne _ _ (by omega)]))) ((Fd.trans F02).trans F23) (G1.bind G2) (R2.keep (F3.block rb (Nat.lt_of_lt_of_le rd.lt h2s) (fun e => hh.rbb e.symm) (by show ¬ lo ≤ rb; omega)) (F3.block sb (by omega) hh.nb (by show ¬ lo ≤ sb; omega))) T3 ?_
  have := r3 0 m' rfl
  simpa using this
theorem conT_asc : ∀ {kn : List KT} {lo : Nat}, conT lo kn = true → ascT lo kn = true
  | [], _, _ => rfl
  | q :: r, lo, h => by
    simp only [conT, Bool.and_eq_true, Nat.beq_eq] at h
    simp only [ascT, Bool.and_eq_true, Nat.ble_eq]
    exact ⟨by omega, conT_asc (by rw [h.1]; exact h.2)⟩
theorem gotTag {st1 st2 st3 : Option (List UInt8)} {k : Nat} {l : List UInt8} (h1 : Got dUv st1 k st2) (h2 : Got dLV st2 l st3) : Got dTag st1 (k, l) st3 := by
  unfold dTag
  refine h1.bind ?_
  have e : (dUv.bind fun s => (dSpan (s : Nat)).map fun v => (k, v)) = dLV.map fun v => (k, v) := by
    funext x
    unfold dLV Dec.map Dec.bind
    cases dUv x with
    | none => rfl
    | some p => rfl
  rw [e]
  exact h2.map
theorem krBody_ok {T vs idx x t bl L mo : Nat} {kn : List KT} {fs : Flds} {cs : List Value} (kk : RKOK P R G) (hkr : krB P R G T mo fs kn = true) (hne0 : kn ≠ []) (hF : fieldAtB P T idx mo = true) (hh : FH P R rb sb h b o mo ev st w) (hth : w.there b o (mo + 1)) (cx : RCx sf flex ver rb vs b o ρ)
    (hsx : ∀ s, sf = some s → s < x) (hvx : vs < x) (h9 : 9 ≤ x) (hxL : x + 2 + 3 * kn.length ≤ L) (hL : L ≤ t) (hN : t + 16 + 15 * kn.length ≤ N) (hcell : w.cell? ⟨b, o + mo, none⟩ = some (.map none)) (hr : w.rangeAt b o cs) (hl : cs.length = mo) (hkd : KnAt kn cs [])
    (hQ : ∀ ρ' w' kb un st' cs' mv, (∀ s, s < x → ρ' s = ρ s) → Fr (· = rb) b o (mo + 1) w w' → Got (dTagsK kn) st (kb ++ un) st' → RdAt w' rb sb st' → w'.rangeAt b o cs' → cs'.length = mo → w'.cell? ⟨b, o + mo, none⟩ = some mv → KnAt kn cs' kb → RepT w' (FB sb h w') mv un → unKn kn un → (∀ j, (∀ q ∈ kn, q.off ≠ j) → cs'[j]? = cs[j]?) → Q .normal ρ' w')
    (hE : ∀ ρ' w', ρ' 6 = ev → Fr (· = rb) b o (mo + 1) w w' → (∀ y, Got (dTagsK kn) st y none) → Q .ret ρ' w') : RW P N (krBody R G T vs idx kn t x bl) Q ρ w := by
  have hkr' : (kn.all (fun q => fieldAtB P T q.idx q.off && cellsB P q.ty 1 && q.k.isNum && !(Nat.beq (R.fn q.k false) 0) && Nat.blt q.off mo && gapF fs q.off && Nat.blt q.tag 1000) && conT 0 kn && ascO 0 kn && Nat.blt kn.length 1000 &&
    !(Nat.beq G.fRead 0) && ifaceTy P R.tErr && zeroIs P R.tR [.nslice, .bool false] && plcB P R.tR 2 && cellsB P R.tR 2 && !(Nat.beq R.uv 0) && !(Nat.beq R.span 0) && !(Nat.beq R.T.u32 0)) = true := by
    unfold krB at hkr
    cases kn with
    | nil => exact absurd rfl hne0
    | cons q r => simpa using hkr
  simp only [Bool.and_eq_true, List.all_eq_true, Nat.blt_eq] at hkr'
  obtain ⟨⟨⟨⟨⟨⟨⟨⟨⟨⟨⟨a1, a2⟩, a3⟩, a4⟩, a5⟩, a6⟩, a7⟩, a8⟩, a9⟩, a10⟩, a11⟩, a12⟩ := hkr'
  have hbw : b < w.heap.size := Nat.lt_of_le_of_lt hh.hb hh.hw
  have hru := ne0 a10
  have hlow : ∀ (w1 : World), Fr (fun k => k = rb ∨ w.heap.size ≤ k) b o (mo + 1) w w1 → Fr (· = rb) b o (mo + 1) w w1 := fun w1 hf => hf.drop fun k hk => hk
  unfold krBody
  refine RW.sq (RW.rg (RL.rd (kk.uv hru) cx.r7 hh.rd hh.ne (ltT (by omega)) (by omega) ?_))
  rintro u n0 st1 w1 F1 G1 R1 ⟨rfl, hn0⟩
  refine RL.step (MR.mv (upd_same _ _ _) (ltT (by omega))) (RL.nil (RW.bl ?_)) (by omega)
  have hk1 : ∀ k, k < w.heap.size → k ≠ rb → w1.heap[k]? = w.heap[k]? := fun k h1 h2 => F1.block k h1 h2 (fun x => x)
  have FX1 : Fr (fun k => k = rb ∨ w.heap.size ≤ k) b o (mo + 1) w w1 := (F1.rd hh.rbb hbw).wide (fun _ h => .inl h) (Nat.le_refl _) (Nat.le_refl _)
  refine RW.lp (fun ρ' w' => ∃ (n : Nat) (st' : Option (List UInt8)) (un kb : List Tg) (mv : Value) (cs' : List Value), ρ' x = .int .u32 (n : Nat) ∧ n < 4294967296 ∧ (∀ s, s < x → ρ' s = ρ s) ∧ (∀ y z, Got (dTagNK kn n (kb ++ un)) st' y z → Got (dTagsK kn) st y z) ∧ RdAt w' rb sb st' ∧ TM w' w.heap.size sb mv un ∧
      w'.rangeAt b o cs' ∧ cs'.length = mo ∧ w'.cell? ⟨b, o + mo, none⟩ = some mv ∧ KnAt kn cs' kb ∧ (∀ j, (∀ q ∈ kn, q.off ≠ j) → cs'[j]? = cs[j]?) ∧ (∀ y ∈ un, kn.length ≤ y.1) ∧ Fr (fun k => k = rb ∨ w.heap.size ≤ k) b o (mo + 1) w w')
    (fun ρ _ => (intOf (ρ x)).toNat) ⟨n0, st1, [], [], .map none, cs, upd_same _ _ _, hn0, fun s hs => by (repeat (first | rw [upd_same] | rw [upd_ne _ _ (by omega)])), fun y z hy => G1.bind hy, R1, .inl ⟨rfl, rfl⟩, range_keep hr (hk1 b hbw hh.rbb), hl, by rw [cell_of_heap (hk1 b hbw hh.rbb)]; exact hcell, hkd, fun _ _ => rfl, by simp, FX1⟩ ?_ (fun ρ ρ' w h => by rw [h x (by omega)])
  rintro ρ1 w2 ⟨n, st2, un, kb, mv, cs2, k0, hn, hk, hG2, R2, T2, r2, l2, c2, kn2, hg2, hun2, FX2⟩
  have F2 := hlow w2 FX2
  have hh2 : FH P R rb sb h b o mo ev st2 w2 := hh.keep F2 R2
  have cx2 := cx.keep hk (by omega) hsx hvx
  have hs2 := FX2.size
  have hth2 : w2.there b o (mo + 1) := FX2.there _ _ hth
  refine RW.sq (RW.sq (RW.rg (RL.step (MR.mv (v := .int .u32 (n : Nat)) k0 (ltT (by omega))) (RL.step (MR.biE (v := .bool (decide ((0 : Int) < (n : Nat)))) (by show evB .gtr (upd _ _ _ _) _ = _; rw [upd_same]; rfl) (ltT (by omega)) rfl) (RL.nil ?_) (by omega)) (by omega))))
  refine RW.cd (b := decide ((0 : Int) < (n : Nat))) (upd_same _ _ _) (fun e => RW.sk ?_) (fun e => RW.ex ?_) (by omega)
  · have hn1 : 0 < n := by have := of_decide_eq_true e; omega
    obtain ⟨n, rfl⟩ : ∃ k, n = k + 1 := ⟨n - 1, by omega⟩
    show RW P N _ _ _ w2
    generalize hρ2 : upd (upd ρ1 (t + 2) _) (t + 3) _ = ρ2
    have p2 : ∀ s, s < t → ρ2 s = ρ1 s := fun s hs => by rw [← hρ2]; (repeat (first | rw [upd_same] | rw [upd_ne _ _ (by omega)]))
    have cx3 := cx2.keep (x := x) (ρ' := ρ2) (fun s hs => p2 s (by omega)) (by omega) hsx hvx
    refine RW.sq (RW.bl (RW.sq (RW.rg (RL.rd (kk.uv hru) cx3.r7 R2 hh.ne (ltT (by omega)) (by omega) ?_))))
    rintro u k st3 w3 F3 G3 R3 ⟨rfl, hk3⟩
    refine RL.step (MR.mv (upd_same _ _ _) (ltT (by omega))) (RL.nil ?_) (by omega)
    show RW P N _ _ _ w3
    refine RW.sq (RW.rg (RL.step (MR.mv (v := .int .u32 (k : Nat)) (upd_same _ _ _) (ltT (by omega))) (RL.nil (RW.bl ?_)) (by omega)))
    generalize hρ3 : upd (upd _ (x + 1) _) (t + 7) _ = ρ3
    have p3 : ∀ s, s < t → s ≠ x + 1 → ρ3 s = ρ1 s := fun s hs h1 => by rw [← hρ3]; (repeat (first | rw [upd_same] | rw [upd_ne _ _ (by omega)])); exact p2 s hs
    have p3k : ρ3 (x + 1) = .int .u32 (k : Nat) := by rw [← hρ3]; (repeat (first | rw [upd_same] | rw [upd_ne _ _ (by omega)]))
    have p3t : ρ3 (t + 7) = .int .u32 (k : Nat) := by rw [← hρ3]; exact upd_same _ _ _
    have hbw2 : b < w2.heap.size := by omega
    have hkp3 : ∀ k, k < w2.heap.size → k ≠ rb → w3.heap[k]? = w2.heap[k]? := fun k h1 h2 => F3.block k h1 h2 (fun x => x)
    have FX3 : Fr (fun k => k = rb ∨ w.heap.size ≤ k) b o (mo + 1) w w3 := FX2.trans ((F3.rd hh.rbb hbw2).wide (fun _ h => .inl h) (Nat.le_refl _) (Nat.le_refl _))
    have hh3 : FH P R rb sb h b o mo ev st3 w3 := hh.keep (hlow w3 FX3) R3
    have hhr := hh.hr
    have hhw := hh.hw
    have hhs := hh.hs
    have T3 : TM w3 w.heap.size sb mv un := T2.keep (fun k h1 h2 => hkp3 k h1 (by omega)) (hkp3 sb (by omega) hh.ne)
    have r3 : w3.rangeAt b o cs2 := range_keep r2 (hkp3 b hbw2 hh.rbb)
    have c3 : w3.cell? ⟨b, o + mo, none⟩ = some mv := by rw [cell_of_heap (hkp3 b hbw2 hh.rbb)]; exact c2
    have hth3 : w3.there b o (mo + 1) := FX3.there _ _ hth
    have cxk : ∀ ρ', (∀ s, s < t + 16 → ρ' s = ρ3 s) → RCx sf flex ver rb vs b o ρ' := fun ρ' h1 => cx.keep (x := x) (fun s hs => by rw [h1 s (by omega), p3 s (by omega) (by omega), hk s hs]) (by omega) hsx hvx
    have next : ∀ (ρ' : Nat → Value) (w' : World) (l : List UInt8) (st4 : Option (List UInt8)) (un' kb' : List Tg) (mv' : Value) (cs' : List Value), (∀ s, s < x + 2 → ρ' s = ρ3 s) → Got dLV st3 l st4 → putK kn (k, l) (kb ++ un) = some (kb' ++ un') → RdAt w' rb sb st4 → TM w' w.heap.size sb mv' un' → w'.rangeAt b o cs' → cs'.length = mo → w'.cell? ⟨b, o + mo, none⟩ = some mv' →
        KnAt kn cs' kb' → (∀ j, (∀ q ∈ kn, q.off ≠ j) → cs'[j]? = cs2[j]?) → (∀ y ∈ un', kn.length ≤ y.1) → Fr (fun k => k = rb ∨ w.heap.size ≤ k) b o (mo + 1) w w' →
        RW P N (.rg [.mv (t + 4) (.t x), .bi (t + 5) .sub R.T.u32 (.t (t + 4)) (.c (.int .u32 1)), .mv x (.t (t + 5))]) (thenR (fun ρ' w' => (∃ (n : Nat) (st' : Option (List UInt8)) (un kb : List Tg) (mv : Value) (cs' : List Value), ρ' x = .int .u32 (n : Nat) ∧ n < 4294967296 ∧ (∀ s, s < x → ρ' s = ρ s) ∧ (∀ y z, Got (dTagNK kn n (kb ++ un)) st' y z → Got (dTagsK kn) st y z) ∧ RdAt w' rb sb st' ∧ TM w' w.heap.size sb mv un ∧
          w'.rangeAt b o cs' ∧ cs'.length = mo ∧ w'.cell? ⟨b, o + mo, none⟩ = some mv ∧ KnAt kn cs' kb ∧ (∀ j, (∀ q ∈ kn, q.off ≠ j) → cs'[j]? = cs[j]?) ∧ (∀ y ∈ un, kn.length ≤ y.1) ∧ Fr (fun k => k = rb ∨ w.heap.size ≤ k) b o (mo + 1) w w') ∧ (intOf (ρ' x)).toNat < (intOf (ρ1 x)).toNat) (inBlockR bl Q)) ρ' w' := by
      intro ρ' w' l st4 un' kb' mv' cs' g1 g2 g3 g4 g5 g6 g7 g8 g9 g10 g11 g12
      have e0 : ρ' x = .int .u32 ((n + 1 : Nat) : Int) := by rw [g1 x (by omega), p3 x (by omega) (by omega)]; exact k0
      refine RW.rg (RL.step (MR.mv e0 (ltT (by omega))) (RL.step (MR.biE (v := .int .u32 (n : Nat)) ?_ (ltT (by omega)) rfl) (RL.step (MR.mv (v := .int .u32 (n : Nat)) (upd_same _ _ _) (ltT (by omega))) (RL.nil ?_) (by omega)) (by omega)) (by omega))
      · show evB .sub (upd _ _ _ _) _ = _
        rw [upd_same]
        show some (Value.int .u32 (IntKind.u32.wrap (((n + 1 : Nat) : Int) - 1))) = _
        rw [show (((n + 1 : Nat) : Int) - 1) = (n : Nat) from by omega, wrap_u32n (by omega)]
      refine ⟨⟨n, st4, un', kb', mv', cs', upd_same _ _ _, by omega, fun s hs => ?_, fun y z hy => hG2 y z ?_, g4, g5, g6, g7, g8, g9, fun j hj => by rw [g10 j hj, hg2 j hj], g11, g12⟩, ?_⟩
      · (repeat (first | rw [upd_same] | rw [upd_ne _ _ (by omega)])); rw [g1 s (by omega), p3 s (by omega) (by omega), hk s hs]
      · unfold dTagNK
        refine (gotTag G3 g2).bind ?_
        show Got ((dOpt (putK kn (k, l) (kb ++ un))).bind _) st4 y z
        rw [g3]
        exact hy
      · show (intOf (upd _ x _ x)).toNat < _
        rw [upd_same, k0]; simp only [intOf]; omega
    refine krChain_ok kn p3t (by omega) (by omega) ?_ ?_
    · -- a known one
      intro q hq htag v' c' ρ4 h1 h2 h3 h4 h5
      obtain ⟨⟨⟨⟨⟨⟨b1, b2⟩, b3⟩, b4⟩, b5⟩, b6⟩, b7⟩ := a1 q hq
      have hqo : q.off < mo := b5
      refine krCase_ok (y := x + 2) (L := L) kk b1 b2 b3 (ne0 b4) hqo a6 a7 a8 a9 hru (ne0 a11) (ne0 a12) hh3 (cxk ρ4 h5) (by omega) (by omega) (by omega) (by omega) (by omega) (by omega) ?_ ?_
      · intro ρ' w' l n' st4 g1 g2 g3 g4 g5 g6 g7
        show RW P N _ _ ρ' w'
        have hX : ∀ y ∈ un, 0 + kn.length ≤ y.1 := fun y hy => by have := hun2 y hy; omega
        obtain ⟨kb', q1, q2⟩ := KnAt.set (X := un) (n := n') a2 a3 kn2 q hq g7 (by omega) hX
        have hput : putK kn (k, l) (kb ++ un) = some (kb' ++ un) := by
          unfold putK
          dsimp only
          rw [← htag, find_asc (conT_asc a2) q hq]
          dsimp only
          rw [g4]
          dsimp only
          rw [q2]
        have hkp : ∀ j, j < w3.heap.size → j ≠ b → j ≠ rb → w'.heap[j]? = w3.heap[j]? := fun j h1 h2 h3 => g2.block j h1 h2 h3
        refine next ρ' w' l st4 un kb' mv (cs2.set q.off (.int q.k.ik n')) (fun s hs => by rw [g1 s hs, h5 s (by omega)]) g3 hput g5 (T3.keep (fun j h1 h2 => hkp j h1 (by omega) (by omega)) (g2.block sb (Nat.lt_of_lt_of_le hh.hs FX3.size) hh.nb hh.ne)) (fun j z hz => ?_) (by rw [List.length_set]; exact l2) (by rw [g2.cell (o + mo) (.inr (by omega))]; exact c3) q1 (fun j hj => List.getElem?_set_ne (hj q hq)) hun2 (FX3.trans ((g2.wide (X' := fun k => k = rb ∨ w.heap.size ≤ k) (fun _ h => .inl h) (by omega) (by omega))))
        by_cases hj : j = q.off
        · subst hj
          rw [List.getElem?_set_self (by omega)] at hz
          simp only [Option.some.injEq] at hz
          subst hz
          exact g6
        · rw [List.getElem?_set_ne (fun e => hj e.symm)] at hz
          rw [g2.cell (o + j) (by omega)]
          exact r3 j z hz
      · intro ρ' w' l st4 g1 g2 g3 g4
        show Q .ret ρ' w'
        refine hE ρ' w' g1 (hlow w' (FX3.trans ((g2.wide (X' := fun k => k = rb ∨ w.heap.size ≤ k) (fun _ h => .inl h) (by omega) (by omega))))) fun y => hG2 y none ?_
        unfold dTagNK
        refine (gotTag G3 g3).bind ?_
        show Got ((dOpt (putK kn (k, l) (kb ++ un))).bind _) st4 y none
        have hput : putK kn (k, l) (kb ++ un) = none := by
          unfold putK
          dsimp only
          rw [← htag, find_asc (conT_asc a2) q hq]
          dsimp only
          rw [g4]
        rw [hput]
        cases st4 <;> rfl
    · -- another
      intro hno ρ4 h5
      have hkl : kn.length ≤ k := by
        refine Nat.le_of_not_lt fun hlt => ?_
        obtain ⟨q, hq, e⟩ := conT_all a2 (Nat.zero_le k) (by omega)
        exact hno q hq e
      have hput : ∀ l, putK kn (k, l) (kb ++ un) = some (kb ++ setTag (k, l) un) := fun l => by
        unfold putK
        have : kn.find? (fun q => decide (q.tag = (k, l).1)) = none := List.find?_eq_none.2 fun q hq => by simpa using hno q hq
        rw [this]
        dsimp only
        rw [setTag_app fun y hy => by have := (kn2.tags a2 y hy).2; show y.1 < k; omega]
      refine krDflt_ok (n := mo) (mo := mo) (lo := w.heap.size) (k := k) (un := un) (mv := mv) kk hF (ne0 a5) hru (ne0 a11) (ne0 a12) hh3 (cxk ρ4 h5) (by rw [h5 _ (by omega)]; exact p3k) hk3 T3 c3 (there_in (k := mo) hth3 (by omega)) FX3.size hhw hhs (by omega) (by omega) (by omega) (by omega) ?_
      intro ρ' w' l st4 m' g1 g2 g3 g4 g5 g6
      show RW P N _ _ ρ' w'
      refine next ρ' w' l st4 (setTag (k, l) un) kb m' cs2 (fun s hs => by rw [g1 s (by omega), h5 s (by omega)]) g3 (hput l) g4 g5 (fun j z hz => ?_) l2 g6 kn2 (fun _ _ => rfl) (fun y hy => ?_) (FX3.trans (g2.wide (fun _ h => h) (by omega) (by omega)))
      · have hj := (List.getElem?_eq_some_iff.1 hz).1
        rw [g2.cell (o + j) (.inl (by omega))]
        exact r3 j z hz
      · rcases setTag_mem hy with rfl | hy
        · exact hkl
        · exact hun2 y hy
  · have hn0' : n = 0 := by have := of_decide_eq_false e; omega
    subst hn0'
    show inBlockR bl Q (.exit bl) _ w2
    simp only [inBlockR, if_pos]
    refine hQ _ w2 kb un st2 cs2 mv (fun s hs => by (repeat (first | rw [upd_same] | rw [upd_ne _ _ (by omega)])); exact hk s hs) F2 (hG2 _ _ (Got.pure _)) R2 r2 l2 c2 kn2 ?_ (fun y hy q hq e => ?_) hg2
    · have hT := T2.rep (F := fun k => k = sb ∨ h < k) (fun k hk => .inr (by have := hh.hw; omega)) (.inl rfl)
      exact hT.bound.mono (fun k hk => by
        rcases hk with ⟨hk | hk, hk'⟩
        · exact .inl hk
        · exact .inr ⟨hk, hk'⟩) (fun _ _ => rfl)
    · have := hun2 y hy
      have := (conT_ge a2 q hq).2
      omega
end
set_option linter.unusedVariables false
def ZF (w : World) : Flds → List Value → Prop
  | .nil, _ => True
  | .cons _ _ off df ty rest, cs => off + ty.cells ≤ cs.length ∧ Rep w (fun _ => False) ty ((cs.drop off).take ty.cells) (dfl ty df) ∧ ((∃ a b c d, ty = .arr a b c d) → cs[off]? = some (.slice none 0 0)) ∧ ZF w rest cs
theorem zf_of {w : World} : ∀ {fs : Flds} {cs : List MVal}, zfB fs cs = true → ZF w fs (cs.map MVal.val)
  | .nil, _, _ => trivial
  | .cons c idx off df ty rest, cs, h => by
    simp only [zfB, Bool.and_eq_true, Nat.ble_eq] at h
    obtain ⟨⟨h1, h2⟩, h3⟩ := h
    unfold ZF
    cases hd : defT ty ((cs.drop off).take ty.cells) with
    | none => simp [hd] at h2
    | some d =>
      simp only [hd] at h2
      have e := eqD0_eq h2
      subst e
      refine ⟨by rw [List.length_map]; exact h1, ?_, ?_, zf_of h3⟩
      · have := defT_rep (w := w) (F := fun _ => False) hd
        rwa [List.map_take, List.map_drop] at this
      · rintro ⟨a, b, c', d', rfl⟩
        unfold defT at hd
        split at hd
        · rename_i heq
          have : cs[off]? = some .nslice := by
            have e2 : ((cs.drop off).take (Ty.arr a b c' d').cells)[0]? = some .nslice := by rw [heq]; rfl
            rw [List.getElem?_take] at e2
            split at e2
            · rw [List.getElem?_drop] at e2; exact e2
            · simp at e2
          rw [List.getElem?_map, this]; rfl
        · simp at hd
section
variable {P : Program} {N : Nat} {Q : Exit → (Nat → Value) → World → Prop} {ρ : Nat → Value} {w w' : World} {ms : List MOp} {R : RN} {G : TG} {rb sb h b o n : Nat} {ev : Value} {st st' : Option (List UInt8)} {sf : Option Nat} {flex : Bool} {ver : Int}
theorem tagsR_le {T vs t x bl : Nat} {tg : Option TgF} : t ≤ (tagsR R G sf T vs tg t x bl).2.1 ∧ x ≤ (tagsR R G sf T vs tg t x bl).2.2.1 := by
  unfold tagsR
  split
  · simp
  · dsimp only; omega
  · simp
theorem tagsR_x {T vs t t2 x bl : Nat} {tg : Option TgF} : (tagsR R G sf T vs tg t x bl).2.2 = (tagsR R G sf T vs tg t2 x bl).2.2 := by
  unfold tagsR
  split <;> rfl
theorem condR_le {c : Cnd} {t x : Nat} {body : Nat → MCode × Nat × Nat × Nat} (h : ∀ t, t ≤ (body t).2.1 ∧ x ≤ (body t).2.2.1) : t ≤ (condR R c t body).2.1 ∧ x ≤ (condR R c t body).2.2.1 := by
  unfold condR
  split
  · exact h t
  · have := h (t + 2); simp only; omega
  · have := h (t + 6); simp only; omega
mutual
theorem genRFld_le : ∀ (ty : Ty) {T vs idx t x bk : Nat}, t ≤ (genRFld R G sf ty T vs idx t x bk).2.1 ∧ x ≤ (genRFld R G sf ty T vs idx t x bk).2.2.1
  | .prim k ty, T, vs, idx, t, x, bk => by
    have := @primU_le R sf T vs idx x t k ty
    unfold genRFld
    simp only; omega
  | .arr nul ty ety el, T, vs, idx, t, x, bk => by
    have h1 := @lenR_le R sf x (t + 5)
    have h2 := elR_le el (ty := ty) (ety := ety) (t := (lenR R sf x (t + 5)).2 + nulT nul + 15) (x := x) (bk := bk)
    unfold genRFld
    simp only [arrR]; omega
  | .enum _ _ _, T, vs, idx, t, x, bk => by unfold genRFld; simp only [enumR]; omega
  | .vstr lim ty base, T, vs, idx, t, x, bk => by
    have := @vstrR_le R sf T vs idx lim ty base t x
    unfold genRFld; simp only; omega
  | .struct T' _ fDef tg fs, T, vs, idx, t, x, bk => by
    have h1 := genRF_le fs (T := T') (vs := x + 1) (t := t + 6) (x := x + 2) (bk := bk)
    have h2 := tagsR_le (R := R) (G := G) (sf := sf) (T := T') (vs := x + 1) (t := (genRF R G sf fs T' (x + 1) (t + 6) (x + 2) bk).2.1) (x := (genRF R G sf fs T' (x + 1) (t + 6) (x + 2) bk).2.2.1) (bl := (genRF R G sf fs T' (x + 1) (t + 6) (x + 2) bk).2.2.2) (tg := tg)
    unfold genRFld
    simp only; omega
theorem elR_le : ∀ (el : Ty) {ty ety t x bk : Nat}, t ≤ (elR R G sf el ty ety t x bk).2.1 ∧ x + 5 ≤ (elR R G sf el ty ety t x bk).2.2.1
  | .prim k _, ty, ety, t, x, bk => by
    have h2 := @elemU_le R sf ty ety x t k
    unfold elR
    simp only; omega
  | .struct T _ fDef tg fs, ty, ety, t, x, bk => by
    have h1 := genRF_le fs (T := T) (vs := x + 5) (t := t + 6) (x := x + 6) (bk := bk + 2)
    have h2 := tagsR_le (R := R) (G := G) (sf := sf) (T := T) (vs := x + 5) (t := (genRF R G sf fs T (x + 5) (t + 6) (x + 6) (bk + 2)).2.1) (x := (genRF R G sf fs T (x + 5) (t + 6) (x + 6) (bk + 2)).2.2.1) (bl := (genRF R G sf fs T (x + 5) (t + 6) (x + 6) (bk + 2)).2.2.2) (tg := tg)
    unfold elR
    simp only; omega
  | .arr _ _ _ _, ty, ety, t, x, bk => by unfold elR; exact ⟨Nat.le_refl _, Nat.le_refl _⟩
  | .enum _ _ _, ty, ety, t, x, bk => by unfold elR; exact ⟨Nat.le_refl _, Nat.le_refl _⟩
  | .vstr _ _ _, ty, ety, t, x, bk => by unfold elR; exact ⟨Nat.le_refl _, Nat.le_refl _⟩
theorem genRF_le : ∀ (fs : Flds) {T vs t x bk : Nat}, t ≤ (genRF R G sf fs T vs t x bk).2.1 ∧ x ≤ (genRF R G sf fs T vs t x bk).2.2.1
  | .nil, T, vs, t, x, bk => by simp [genRF]
  | .cons c idx off df ty rest, T, vs, t, x, bk => by
    have h1 := @condR_le R c t x (fun t => genRFld R G sf ty T vs idx t x bk) (fun t => genRFld_le ty)
    have h2 := genRF_le rest (T := T) (vs := vs) (t := (condR R c t fun t => genRFld R G sf ty T vs idx t x bk).2.1) (x := (condR R c t fun t => genRFld R G sf ty T vs idx t x bk).2.2.1) (bk := (condR R c t fun t => genRFld R G sf ty T vs idx t x bk).2.2.2)
    simp only [genRF]
    omega
end

theorem condR_x {c : Cnd} {t1 t2 : Nat} {body : Nat → MCode × Nat × Nat × Nat} (h : ∀ t1 t2, (body t1).2.2 = (body t2).2.2) : (condR R c t1 body).2.2 = (body t2).2.2 := by
  cases c <;> simp only [condR] <;> exact h _ _
mutual
theorem genRFld_x : ∀ (ty : Ty) (T vs idx t1 t2 x bk : Nat), (genRFld R G sf ty T vs idx t1 x bk).2.2 = (genRFld R G sf ty T vs idx t2 x bk).2.2
  | .prim k ty, T, vs, idx, t1, t2, x, bk => by unfold genRFld; rfl
  | .arr nul ty ety el, T, vs, idx, t1, t2, x, bk => by
    unfold genRFld
    simp only [arrR]
    exact elR_x el _ _ _ _ _ _
  | .enum _ _ _, T, vs, idx, t1, t2, x, bk => by unfold genRFld; rfl
  | .vstr _ _ _, T, vs, idx, t1, t2, x, bk => by unfold genRFld; rfl
  | .struct T' _ fDef tg fs, T, vs, idx, t1, t2, x, bk => by
    unfold genRFld
    have := genRF_x fs T' (x + 1) (t1 + 6) (t2 + 6) (x + 2) bk
    simp only [this]
    exact tagsR_x
theorem elR_x : ∀ (el : Ty) (ty ety t1 t2 x bk : Nat), (elR R G sf el ty ety t1 x bk).2.2 = (elR R G sf el ty ety t2 x bk).2.2
  | .prim k _, ty, ety, t1, t2, x, bk => by unfold elR; rfl
  | .struct T _ fDef tg fs, ty, ety, t1, t2, x, bk => by
    unfold elR
    have := genRF_x fs T (x + 5) (t1 + 6) (t2 + 6) (x + 6) (bk + 2)
    simp only [this]
    exact tagsR_x
  | .arr _ _ _ _, ty, ety, t1, t2, x, bk => by unfold elR; rfl
  | .enum _ _ _, ty, ety, t1, t2, x, bk => by unfold elR; rfl
  | .vstr _ _ _, ty, ety, t1, t2, x, bk => by unfold elR; rfl
theorem genRF_x : ∀ (fs : Flds) (T vs t1 t2 x bk : Nat), (genRF R G sf fs T vs t1 x bk).2.2 = (genRF R G sf fs T vs t2 x bk).2.2
  | .nil, T, vs, t1, t2, x, bk => by simp [genRF]
  | .cons c idx off df ty rest, T, vs, t1, t2, x, bk => by
    have e : ∀ t, (condR R c t fun t => genRFld R G sf ty T vs idx t x bk).2.2 = (genRFld R G sf ty T vs idx 0 x bk).2.2 := fun t => condR_x (fun a b => genRFld_x ty T vs idx a b x bk)
    simp only [genRF]
    rw [e t1, e t2]
    exact genRF_x rest _ _ _ _ _ _
end

theorem RW.twS {s ty lo hi t L : Nat} {v : Int} (hs : s < L) (hv : ρ s = .int .i16 v) (ht : L ≤ t) (hN : t + 6 ≤ N)
    (h : ∀ ρ', (∀ s, s < L → ρ' s = ρ s) → ρ' (t + 5) = .bool (decide ((lo : Int) ≤ v) && decide (v ≤ hi)) → Q .normal ρ' w) : RW P N (.tw s ty lo hi t) Q ρ w := by
  intro a ha
  have hl : Loc N L ρ a := ⟨ha.size, ha.defers, fun s hs => ha.get s (by omega)⟩
  refine MW.tw (N := N) (L := L) hl hs hv ht hN fun a' hl' h5 => ?_
  exact ⟨rd a', ⟨hl'.size, hl'.defers, fun _ _ => rfl⟩, h _ (fun s hs => hl'.get s hs) h5⟩
theorem condR_ok {c : Cnd} {t L : Nat} {body : Nat → MCode × Nat × Nat × Nat} (h16 : intTy P R.T.i16 .i16 = true) (r8 : ρ 8 = .int .i16 ver) (hL8 : 8 < L) (hL : L ≤ t) (hb : ∀ t, t ≤ (body t).2.1) (hN : (condR R c t body).2.1 ≤ N)
    (hyes : c.ok ver = true → ∀ ρ' t', (∀ s, s < L → ρ' s = ρ s) → L ≤ t' → (body t').2.1 ≤ N → RW P N (body t').1 Q ρ' w) (hno : c.ok ver = false → ∀ ρ', (∀ s, s < L → ρ' s = ρ s) → Q .normal ρ' w) : RW P N (condR R c t body).1 Q ρ w := by
  unfold condR at hN ⊢
  cases c with
  | always => exact hyes rfl ρ t (fun _ _ => rfl) hL hN
  | ge lo =>
    simp only at hN ⊢
    have := hb (t + 2)
    refine RW.sq (RW.rg (RL.step (MR.mv r8 (ltT (by omega))) (RL.step (MR.biE (v := .bool (decide ((lo : Int) ≤ ver))) (by show evB .geq (upd _ _ _ _) (.int .i16 (lo : Nat)) = _; rw [upd_same]; rfl) (ltT (by omega)) rfl) (RL.nil ?_) (by omega)) (by omega)))
    refine RW.cd (upd_same _ _ _) (fun e => hyes e _ _ (fun s hs => by (repeat (first | rw [upd_same] | rw [upd_ne _ _ (by omega)]))) (by omega) hN) (fun e => RW.sk (hno e _ (fun s hs => by (repeat (first | rw [upd_same] | rw [upd_ne _ _ (by omega)]))))) (by omega)
  | btw lo hi =>
    simp only at hN ⊢
    have := hb (t + 6)
    refine RW.sq (RW.twS (L := L) hL8 r8 hL (by omega) fun ρ' h1 h2 => ?_)
    refine RW.cd h2 (fun e => hyes e _ _ h1 (by omega) hN) (fun e => RW.sk (hno e _ h1)) (by omega)
theorem RepF.more {F : Nat → Prop} {tl : List Value} : ∀ {fs : Flds} {cs : List Value} {ds : List D}, RepF w F fs cs ds → RepF w F fs (cs ++ tl) ds
  | .nil, _, _, h => by unfold RepF at h ⊢; exact h
  | .cons c idx off df ty rest, cs, ds, h => by
    unfold RepF at h ⊢
    obtain ⟨h1, d, ds', h2, h3, h4⟩ := h
    refine ⟨by rw [List.length_append]; omega, d, ds', h2, ?_, RepF.more h4⟩
    rw [List.drop_append_of_le_length (by omega), List.take_append_of_le_length (by rw [List.length_drop]; omega)]
    exact h3
theorem ZF.keep {cs cs' : List Value} {k : Nat} (hd : cs'.drop k = cs.drop k) (hl : cs'.length = cs.length) : ∀ (fs : Flds) {T n : Nat}, wfRF P R G sf fs T n k = true → ZF w fs cs → ZF w' fs cs'
  | .nil, _, _, _, _ => trivial
  | .cons c idx off df ty rest, T, n, hwf, h => by
    simp only [wfRF, Bool.and_eq_true, Nat.ble_eq] at hwf
    obtain ⟨⟨⟨g1, g2⟩, g3⟩, g4⟩ := hwf
    unfold ZF at h ⊢
    obtain ⟨h1, h2, h3, h4⟩ := h
    refine ⟨by omega, ?_, fun e => ?_, ?_⟩
    · rw [part_of_drop hd g1]; exact Rep.mono (fun _ h => h) (fun b hb => hb.elim) ty h2
    · have := h3 e
      have e2 : cs'[off]? = cs[off]? := by
        have e3 : ∀ l : List Value, l[off]? = (l.drop k)[off - k]? := fun l => by rw [List.getElem?_drop]; congr 1; omega
        rw [e3, e3, hd]
      rw [e2]; exact this
    · have hd' : cs'.drop (off + ty.cells) = cs.drop (off + ty.cells) := by
        have e : ∀ l : List Value, l.drop (off + ty.cells) = (l.drop k).drop (off + ty.cells - k) := fun l => by rw [List.drop_drop]; congr 1; omega
        rw [e, e, hd]
      exact ZF.keep hd' hl rest g4 h4
theorem knAt_of {T m : Nat} {fs : Flds} {kn : List KT} {cs cs' : List Value} {out : List Tg} (hkr : krB P R G T m fs kn = true) (h : ∀ q ∈ kn, q.off < m → gapF fs q.off = true → cs'[q.off]? = cs[q.off]?) (hk : KnAt kn cs out) : KnAt kn cs' out := by
  refine hk.congr fun q hq => ?_
  unfold krB at hkr
  cases kn with
  | nil => simp at hq
  | cons p r =>
    simp only [List.isEmpty_cons, Bool.false_or, Bool.and_eq_true, List.all_eq_true, Nat.blt_eq] at hkr
    have := hkr.1.1.1.1.1.1.1.1.1.1.1 q hq
    exact h q hq this.1.1.2 this.1.2
def TgP (P : Program) (R : RN) (G : TG) (w : World) (T b o n m : Nat) (fs : Flds) (cs : List Value) : Option TgF → Prop
  | none => n = m
  | some q => m = q.2 ∧ n = m + 1 ∧ fieldAtB P T q.1.1 q.2 = true ∧ G.fRead ≠ 0 ∧ w.cell? ⟨b, o + m, none⟩ = some (.map none) ∧ krB P R G T m fs q.1.2 = true ∧ KnAt q.1.2 cs []
theorem RWL.tags {T vs t x bl L m : Nat} {tg : Option TgF} {fs : Flds} {ds : List D} {cs : List Value} (kk : RKOK P R G) (hh : FH P R rb sb h b o m ev st w) (hne : b < w.heap.size) (hth : w.there b o n) (cx : RCx sf flex ver rb vs b o ρ) (hx9 : 9 ≤ x) (hs : ∀ s, sf = some s → s < x) (hvx : vs < x) (hxL : (tagsR R G sf T vs tg t x bl).2.2.1 ≤ L) (hL : L ≤ t) (hN : (tagsR R G sf T vs tg t x bl).2.1 ≤ N)
    (htg : TgP P R G w T b o n m fs cs tg) (hr : w.rangeAt b o cs) (hl : cs.length = m) (hrep : RepF w (FB sb h w) fs cs ds) {rest : List MCode}
    (hQ : ∀ ρ' w' tags st' cs' tl, (∀ s, s < x → ρ' s = ρ s) → Fr (· = rb) b o n w w' → Got (if tg.isSome && flex then (dTagsK (knOf tg)).map (fun ts => (ds, ts)) else Dec.pure (ds, [])) st (ds, tags) st' → RdAt w' rb sb st' → w'.rangeAt b o (cs' ++ tl) → cs'.length + tl.length = n → RepF w' (FB sb h w') fs cs' ds → TagsAt w' (FB sb h w') tg (cs' ++ tl) tags → (∀ j, (∀ q ∈ knOf tg, q.off ≠ j) → cs'[j]? = cs[j]?) → RWL P N rest Q ρ' w')
    (hE : ∀ ρ' w', ρ' 6 = ev → Fr (· = rb) b o n w w' → (∀ y, Got (if tg.isSome && flex then (dTagsK (knOf tg)).map (fun ts => (ds, ts)) else Dec.pure (ds, [])) st y none) → Q .ret ρ' w') :
    RWL P N ((tagsR R G sf T vs tg t x bl).1 ++ rest) Q ρ w := by
  have hxl := @tagsR_le R G sf T vs t x bl tg
  have put1 : ∀ {w' : World} {cs' : List Value} {v : Value}, w'.rangeAt b o cs' → cs'.length = m → w'.cell? ⟨b, o + m, none⟩ = some v → w'.rangeAt b o (cs' ++ [v]) := by
    intro w' cs' v h1 h2 h3 j u hj
    by_cases h4 : j < cs'.length
    · rw [List.getElem?_append_left h4] at hj; exact h1 j u hj
    · rw [List.getElem?_append_right (by omega)] at hj
      have hj0 : j - cs'.length = 0 := by
        have := (List.getElem?_eq_some_iff.1 hj).1
        simp at this; omega
      rw [hj0] at hj
      simp only [List.getElem?_cons_zero, Option.some.injEq] at hj
      subst hj
      rw [show o + j = o + m from by omega]; exact h3
  have knT : ∀ {cs' : List Value} {kn : List KT} {out : List Tg} {v : Value}, KnAt kn cs' out → KnAt kn (cs' ++ [v]) out := by
    intro cs' kn
    induction kn with
    | nil => intro out v h; exact h
    | cons q r ih =>
      rintro out v ⟨u, n, out', h1, h2, h3, h4⟩
      exact ⟨u, n, out', by rw [List.getElem?_append_left (List.getElem?_eq_some_iff.1 h1).1]; exact h1, h2, h3, ih h4⟩
  have noTags : (tg.isSome && flex) = false → ∀ ρ', (∀ s, s < x → ρ' s = ρ s) → RWL P N rest Q ρ' w := by
    intro hno ρ' hρ'
    cases htg' : tg with
    | none =>
      refine hQ ρ' w [] st cs [] hρ' (Fr.refl _ _ _ _ _) ?_ hh.rd (by rw [List.append_nil]; exact hr) (by rw [htg'] at htg; have h0 : n = m := htg; simp only [List.length_nil]; omega) hrep ?_ (fun _ _ => rfl)
      · rw [hno]; exact Got.pure _
      · rw [htg']; rfl
    | some q =>
      rw [htg'] at htg
      obtain ⟨g1, g2, g3, g4, g5, g6, g7⟩ := htg
      refine hQ ρ' w [] st cs [.map none] hρ' (Fr.refl _ _ _ _ _) ?_ hh.rd (put1 hr hl g5) (by simp only [List.length_cons, List.length_nil]; omega) hrep ?_ (fun _ _ => rfl)
      · rw [hno]; exact Got.pure _
      · rw [htg']
        refine ⟨.map none, [], [], ?_, .inl ⟨rfl, rfl⟩, knT g7, rfl, by simp [unKn]⟩
        rw [← g1, ← hl, List.getElem?_append_right (Nat.le_refl _), Nat.sub_self]; rfl
  cases htg' : tg with
  | none =>
    unfold tagsR
    simp only [List.nil_append]
    exact noTags (by rw [htg']; rfl) ρ fun _ _ => rfl
  | some q =>
    obtain ⟨⟨idx, kn⟩, off⟩ := q
    cases hsf : sf with
    | none =>
      have e : (tagsR R G none T vs (some ((idx, kn), off)) t x bl).1 = [] := by unfold tagsR; cases kn <;> rfl
      rw [e, List.nil_append]
      exact noTags (by rw [cx.nf hsf]; simp) ρ fun _ _ => rfl
    | some s =>
      rw [htg', hsf] at hN hxL hxl
      rw [htg'] at htg
      obtain ⟨g1, g2, g3, g4, g5, g6, g7⟩ := htg
      have hsx := hs s hsf
      have goTags : ∀ (body : MCode) (hc : flex = true → ∀ ρ', (∀ s, s < L → ρ' s = ρ s) → RW P N body (thenR (fun ρ w => RWL P N rest Q ρ w) Q) ρ' w), t < N → RW P N (.sq (.rg [.mv t (.t s)]) (.cd t body .sk)) (thenR (fun ρ w => RWL P N rest Q ρ w) Q) ρ w := by
        intro body hc htN
        refine RW.sq (RW.rg (RL.step (MR.mv (cx.rf s hsf) (ltT (by omega))) (RL.nil ?_) (by omega)))
        exact RW.cd (upd_same _ _ _) (fun e => hc e _ fun s hs => by (repeat (first | rw [upd_same] | rw [upd_ne _ _ (by omega)]))) (fun e => RW.sk (noTags (by rw [e]; simp) _ fun s hs => by (repeat (first | rw [upd_same] | rw [upd_ne _ _ (by omega)])))) (by omega)
      cases kn with
      | nil =>
        simp only [tagsR] at hN hxL ⊢
        simp only [List.cons_append, List.nil_append]
        refine goTags _ (fun e ρ0 hρ0 => ?_) (by omega)
        have cx0 := cx.keep (x := x) (ρ' := ρ0) (fun s hs => hρ0 s (by omega)) (by omega) hs hvx
        refine RW.rg (RL.step (MR.mv (v := .pointer (some ⟨b, o, none⟩)) cx0.rv (ltT (by omega))) ?_ (by omega))
        refine RL.ca (R := fun v w' => ∃ m tags st', v = .agg #[m] ∧ m.oneCell' = true ∧ Fr (fun _ => False) rb 0 2 w w' ∧ Got dTags st tags st' ∧ RdAt w' rb sb st' ∧ RepT w' (Rb w sb) m tags) (kk.tag g4).1 ?_ ?_ (by omega) (by simp [MX.lt, Nat.blt_eq]; omega)
        · simp only [List.map_cons, List.map_nil, xof]
          (repeat (first | rw [upd_same] | rw [upd_ne _ _ (by omega)]))
          rw [cx0.r7]
          refine Calls.mono ((kk.tag g4).2 w rb sb st hh.rd hh.ne hh.hs) ?_
          rintro e w' ⟨m, tags, st', rfl, h⟩
          exact ⟨_, rfl, m, tags, st', rfl, h⟩
        rintro v w2 ⟨m', tags, st', rfl, k1, k2, k3, k4, k5⟩
        have F1 : Fr (· = rb) b o n w w2 := k2.rd hh.rbb hne
        have g1' : m = off := g1
        have ht2 : w2.there b (o + off) 1 := there_in (F1.there _ _ hth) (by omega)
        refine RL.step (MR.nc (p := ⟨b, o, none⟩) (by (repeat (first | rw [upd_same] | rw [upd_ne _ _ (by omega)]))) (by omega)) (RL.step (MR.fa (upd_same _ _ _) g3 (by omega)) (RL.stA (cs := [m']) (b := b) (o := o + off) (upd_same _ _ _) (by (repeat (first | rw [upd_same] | rw [upd_ne _ _ (by omega)]))) kk.tg.sc ht2 (by simp [k1]) (RL.nil ?_) (by omega) (by omega)) (by omega)) (by omega)
        have F2 : Fr (· = rb) b o n w2 (w2.setCells b (o + off) [m']) := Fr.put _ (by omega) (by simp; omega)
        have F2' : Fr (· = rb) b (o + off) 1 w2 (w2.setCells b (o + off) [m']) := Fr.put _ (by omega) (by simp)
        have hh2 : FH P R rb sb h b o m ev st' w2 := hh.keep (o' := o) (n' := n) F1 k4
        have F1' : Fr (· = rb) b o 0 w w2 := k2.rd hh.rbb hne
        have hrng : (w2.setCells b (o + off) [m']).rangeAt b o (cs ++ [m']) := by
          refine put1 (fun j v hj => ?_) hl ?_
          · have := (List.getElem?_eq_some_iff.1 hj).1
            rw [F2'.cell (o + j) (.inl (by omega)), F1'.cell (o + j) (.inr (by omega))]
            exact hr j v hj
          · have := World.rangeAt_setCells_same w2 b (o + off) [m'] ht2 0 m' rfl
            rw [show o + m = o + off + 0 from by omega]; exact this
        have hsz : w2.heap.size ≤ (w2.setCells b (o + off) [m']).heap.size := F2.size
        show RWL P N rest Q _ _
        refine hQ _ _ tags st' cs [m'] (fun s hs => by (repeat (first | rw [upd_same] | rw [upd_ne _ _ (by omega)])); exact hρ0 s (by omega)) (F1.trans F2) ?_ ?_ hrng (by simp only [List.length_cons, List.length_nil]; omega) ?_ ?_ (fun _ _ => rfl)
        · rw [htg', e]
          show Got ((dTagsK []).map _) st _ st'
          rw [dTagsK_nil]
          exact k3.map (f := fun ts => (ds, ts))
        · exact k4.keep (setCells_other b _ _ _ rb (fun e => hh.rbb e.symm)) (setCells_other b _ _ _ sb hh.nb)
        · exact RepF.mono (fun k hk => (hh2.fb F2).1 k ((hh.fb F1).1 k hk)) (fun k hk => by rw [(hh2.fb F2).2 k ((hh.fb F1).1 k hk), (hh.fb F1).2 k hk]) _ hrep
        · rw [htg']
          refine ⟨m', [], tags, by rw [← g1, ← hl, List.getElem?_append_right (Nat.le_refl _), Nat.sub_self]; rfl, ?_, rfl, rfl, by intro t _ q hq; simp at hq⟩
          refine RepT.mono k5.bound (fun k hk => ?_) (fun k hk => setCells_other b _ _ _ k ?_)
          · rcases hk with ⟨hk | hk, hk'⟩
            · exact .inl hk
            · exact .inr ⟨Nat.lt_of_lt_of_le hh.hw hk, Nat.lt_of_lt_of_le hk' hsz⟩
          · rcases hk with ⟨rfl | hk, _⟩
            · exact hh.nb
            · exact fun e => by omega
      | cons q r =>
        simp only [tagsR] at hN hxL ⊢
        simp only [List.cons_append, List.nil_append]
        have g1' : m = off := g1
        refine goTags _ (fun e ρ0 hρ0 => ?_) (by omega)
        have cx0 := cx.keep (x := x) (ρ' := ρ0) (fun s hs => hρ0 s (by omega)) (by omega) hs hvx
        refine krBody_ok (L := L) (mo := m) (kn := q :: r) (fs := fs) (cs := cs) kk g6 (by simp) (by rw [g1']; exact g3) hh (by rw [← g2]; exact hth) cx0 (fun s' e => hs s' e) hvx hx9 hxL hL hN g5 hr hl g7 ?_ ?_
        · intro ρ' w' kb uk st' cs' mv h1 h2 h3 h4 h5 h6 h7 h8 h9 h10 h11
          show RWL P N rest Q ρ' w'
          have g6' := g6
          unfold krB at g6'
          simp only [List.isEmpty_cons, Bool.false_or, Bool.and_eq_true, List.all_eq_true, Nat.blt_eq] at g6'
          have hgaps := fun q' (hq' : q' ∈ q :: r) => (g6'.1.1.1.1.1.1.1.1.1.1.1 q' hq').1.2
          have F1 : Fr (· = rb) b o n w w' := by rw [g2]; exact h2
          refine hQ ρ' w' (kb ++ uk) st' cs' [mv] (fun s hs => by rw [h1 s hs, hρ0 s (by omega)]) F1 ?_ h4 (put1 h5 h6 h7) (by simp only [List.length_cons, List.length_nil]; omega) ?_ ?_ (fun j hj => h11 j fun q' hq' => hj q' (by rw [htg']; exact hq'))
          · rw [htg', e]
            exact h3.map (f := fun ts => (ds, ts))
          · refine RepF.gap (cs := cs) (by omega) (fun j hj => h11 j fun q' hq' e' => ?_) (RepF.mono (fun k hk => (hh.fb F1).1 k hk) (fun k hk => (hh.fb F1).2 k hk) _ hrep)
            have := hgaps q' hq'
            rw [e', hj] at this; cases this
          · rw [htg']
            exact ⟨mv, kb, uk, by rw [← g1, ← h6, List.getElem?_append_right (Nat.le_refl _), Nat.sub_self]; rfl, h9, knT h8, rfl, h10⟩
        · intro ρ' w' h1 h2 h3
          show Q .ret ρ' w'
          refine hE ρ' w' h1 (by rw [g2]; exact h2) fun y => ?_
          rw [htg', e]
          refine Got.failed fun l hl' => ?_
          subst hl'
          have := h3 []
          have h4 : dTagsK (q :: r) l = none := this
          show ((dTagsK (q :: r)).map _) l = none
          unfold Dec.map
          rw [h4]
theorem wfRF_n : ∀ (fs : Flds) {T n k : Nat}, wfRF P R G sf fs T n k = true → k ≤ n
  | .nil, T, n, k, h => by simpa [wfRF] using h
  | .cons c idx off df ty rest, T, n, k, h => by
    simp only [wfRF, Bool.and_eq_true, Nat.ble_eq] at h
    obtain ⟨⟨⟨h1, _⟩, _⟩, h4⟩ := h
    have := wfRF_n rest h4
    omega
theorem ze_arr {ty ety ec : Nat} (h : arrB P R sf ty ety ec = true) : ∃ zs, zeroM P ety = some zs ∧ zs.length = ec := by
  simp only [arrB, Bool.and_eq_true] at h
  obtain ⟨⟨⟨⟨⟨⟨⟨⟨_, _⟩, _⟩, _⟩, f6⟩, _⟩, _⟩, _⟩, _⟩ := h
  cases hz : zeroM P ety with
  | none => simp [hz] at f6
  | some zs => simp only [hz, Nat.beq_eq] at f6; exact ⟨zs, rfl, f6⟩
theorem zf_rep {w' : World} : ∀ (fs : Flds) {T m k : Nat} {us : List Value}, wfRF P R G sf fs T m k = true → m ≤ us.length → RepF w (fun _ => False) fs us (dflF fs) → ZF w' fs (us.take m)
  | .nil, _, _, _, _, _, _, _ => trivial
  | .cons c idx off df ty rest, T, m, k, us, hwf, hl, h => by
    simp only [wfRF, Bool.and_eq_true, Nat.ble_eq] at hwf
    obtain ⟨⟨⟨g1, g2⟩, g3⟩, g4⟩ := hwf
    have hn : off + ty.cells ≤ m := wfRF_n rest g4
    unfold RepF dflF at h
    obtain ⟨h1, d, ds', h2, h3, h4⟩ := h
    injection h2 with h5 h6
    subst h5 h6
    unfold ZF
    have hp : ((us.take m).drop off).take ty.cells = (us.drop off).take ty.cells := by rw [List.drop_take, List.take_take, Nat.min_eq_left (by omega)]
    refine ⟨by rw [List.length_take]; omega, ?_, ?_, zf_rep rest g4 hl h4⟩
    · rw [hp]; exact Rep.mono (fun _ h => h) (fun b hb => hb.elim) ty h3
    · rintro ⟨a, b, c', d', rfl⟩
      unfold Rep at h3
      have hc1 : (Ty.arr a b c' d').cells = 1 := rfl
      rw [hc1] at h3 hn
      obtain ⟨isnul, xs, _, ⟨e2, _⟩ | ⟨_, ab, arr, cap, _, e3, _⟩⟩ := h3
      · have e : ((us.drop off).take 1)[0]? = some (.slice none 0 0) := by rw [e2]; rfl
        rw [List.getElem?_take, if_pos (by omega), List.getElem?_drop] at e
        rw [List.getElem?_take, if_pos (by omega)]
        exact e
      · exact e3.elim
mutual
theorem genRFld_ok (kk : RKOK P R G) (h16 : intTy P R.T.i16 .i16 = true) : ∀ (ty : Ty) {T vs idx off t x bk L b o n h : Nat} {ρ : Nat → Value} {w : World} {st : Option (List UInt8)} {Q : Exit → (Nat → Value) → World → Prop}, wfRFld P R G sf ty = true → fieldAtB P T idx off = true → FH P R rb sb h b o n ev st w → RCx sf flex ver rb vs b o ρ → 9 ≤ x → (∀ s, sf = some s → s < x) → vs < x → (genRFld R G sf ty T vs idx t x bk).2.2.1 ≤ L → L ≤ t → (genRFld R G sf ty T vs idx t x bk).2.1 ≤ N → off + ty.cells ≤ n →
    ((∃ a b c d, ty = .arr a b c d) → w.cell? ⟨b, o + off, none⟩ = some (.slice none 0 0)) →
    (∃ us df, w.rangeAt b (o + off) us ∧ us.length = ty.cells ∧ Rep w (fun _ => False) ty us (dfl ty df)) →
    (∀ ρ' w' d st' vs, (∀ s, s < x → ρ' s = ρ s) → Fr (· = rb) b (o + off) ty.cells w w' → Got (dec ver flex ty) st d st' → RdAt w' rb sb st' → w'.rangeAt b (o + off) vs → vs.length = ty.cells → Rep w' (FB sb h w') ty vs d → Q .normal ρ' w') →
    (∀ ρ' w', ρ' 6 = ev → Fr (· = rb) b (o + off) ty.cells w w' → (∀ d, Got (dec ver flex ty) st d none) → Q .ret ρ' w') → RW P N (genRFld R G sf ty T vs idx t x bk).1 Q ρ w
  | .prim k ty, T, vs, idx, off, t, x, bk, L, b, o, n, h, ρ, w, st, Q, hwf, hF, hh, cx, hx9, hs, hvx, hxL, hL, hN, hoff, h0, hz0, hQ, hE => by
    simp only [wfRFld, Bool.and_eq_true] at hwf
    unfold genRFld at hN hxL ⊢
    refine primU_ok kk hwf.1.1 hwf.2 hF hwf.1.2 hh cx hx9 hs hvx (by simp only at hxL; omega) hL hN hoff ?_
    intro ρ' w' d st' us h1 h2 h3 h4 h5 h6 h7
    exact hQ ρ' w' d st' us h1 h2 (by unfold dec; exact h3) h4 h5 h6 (by unfold Rep; exact h7)
  | .arr nul ty ety el, T, vs, idx, off, t, x, bk, L, b, o, n, h, ρ, w, st, Q, hwf, hF, hh, cx, hx9, hs, hvx, hxL, hL, hN, hoff, h0, hz0, hQ, hE => by
    simp only [wfRFld, Bool.and_eq_true] at hwf
    obtain ⟨hwa, hwe⟩ := hwf
    unfold genRFld at hN hxL ⊢
    obtain ⟨zs, hz, hzl⟩ := ze_arr hwa
    have hze := ze_of hz
    rw [hzl] at hze
    have hx5 := (elR_le (R := R) (G := G) (sf := sf) el (ty := ty) (ety := ety) (t := (lenR R sf x (t + 5)).2 + nulT nul + 15) (x := x) (bk := bk)).2
    have hxL' : (elR R G sf el ty ety ((lenR R sf x (t + 5)).2 + nulT nul + 15) x bk).2.2.1 ≤ L := by simpa only [arrR] using hxL
    have hsl : sliceOf P ty ety = true := by
      simp only [arrB, Bool.and_eq_true] at hwa
      exact hwa.1.1.1.1.1.1.2
    have hce : cellsB P ety el.cells = true := by
      simp only [arrB, Bool.and_eq_true] at hwa
      exact hwa.1.1.1.1.1.2
    refine arrR_ok (el := el) (zs := zs.map MVal.val) kk hwa hze hF hh cx hx9 hs hvx (by omega) hL (fun t => (elR_le el).1) hN hoff (h0 ⟨_, _, _, _, rfl⟩) ?_ ?_ hE
    · exact elR_ok kk h16 el hwe hsl hce hz hx9 hs (fun t => by rw [elR_x el ty ety t ((lenR R sf x (t + 5)).2 + nulT nul + 15) x bk]; rw [elR_x el ty ety ((lenR R sf x (t + 5)).2 + nulT nul + 15) ((lenR R sf x (_ + 5)).2 + nulT nul + 15) x bk]; exact hxL')
    · intro ρ' w' d st' v h1 h2 h3 h4 h5 h6
      exact hQ ρ' w' d st' [v] h1 h2 h3 h4 h5 rfl h6
  | .enum k ty cty, T, vs, idx, off, t, x, bk, L, b, o, n, h, ρ, w, st, Q, hwf, hF, hh, cx, hx9, hs, hvx, hxL, hL, hN, hoff, h0, hz0, hQ, hE => by
    simp only [wfRFld, Bool.and_eq_true] at hwf
    unfold genRFld at hN hxL ⊢
    have hk1 : k.cells = 1 := by
      have := hwf.1.1
      cases k <;> simp [enumK] at this <;> rfl
    have hcl : (Ty.enum k ty cty).cells = 1 := by simp only [Ty.cells, hk1]
    rw [hcl] at hoff hQ hE
    refine enumR_ok kk hwf.1.1 (ne0 hwf.1.2) hF hwf.2 hh cx hx9 hvx hs (by simp only at hxL; omega) hL hN hoff ?_
    intro ρ' w' d st' us h1 h2 h3 h4 h5 h6 h7
    exact hQ ρ' w' d st' us h1 h2 (by unfold dec; exact h3) h4 h5 h6 (by unfold Rep; exact h7)
  | .vstr lim ty base, T, vs, idx, off, t, x, bk, L, b, o, n, h, ρ, w, st, Q, hwf, hF, hh, cx, hx9, hs, hvx, hxL, hL, hN, hoff, h0, hz0, hQ, hE => by
    simp only [wfRFld, Bool.and_eq_true] at hwf
    unfold genRFld at hN hxL ⊢
    have hcl : (Ty.vstr lim ty base).cells = 1 := rfl
    rw [hcl] at hoff hQ hE
    refine vstrR_ok kk hwf.1.1.1.1 hwf.1.1.1.2 hF hwf.1.1.2 hwf.1.2 hwf.2 h16 hh cx hx9 hs hvx (by simp only at hxL; omega) hL hN hoff ?_
    intro ρ' w' d st' us h1 h2 h3 h4 h5 h6 h7
    exact hQ ρ' w' d st' us h1 h2 (by unfold dec; exact h3) h4 h5 h6 (by unfold Rep; exact h7)
  | .struct T' n' fDef tg fs, T, vs, idx, off, t, x, bk, L, b, o, n, h, ρ, w, st, Q, hwf, hF, hh, cx, hx9, hs, hvx, hxL, hL, hN, hoff, h0, hz0, hQ, hE => by
    simp only [wfRFld, Bool.and_eq_true] at hwf
    obtain ⟨hsub, hfs⟩ := hwf
    unfold subB at hsub
    simp only [Bool.and_eq_true, Nat.beq_eq, Nat.ble_eq] at hsub
    obtain ⟨⟨⟨⟨⟨s1, s2⟩, s3⟩, s4⟩, s5⟩, s6⟩ := hsub
    have hnil : dfsOf T' fs = .nil := by
      cases hd : dfsOf T' fs with
      | nil => rfl
      | cons a r => rw [hd] at s1; simp [Dfs.isNil] at s1
    have hdef : DefD P fDef n' (dfsOf T' fs) := defD_of (FnIs0.of s2) s3 s4
    obtain ⟨us, df, hrz, hlz, hrep⟩ := hz0
    have hcl : (Ty.struct T' n' fDef tg fs).cells = n' := rfl
    rw [hcl] at hoff hlz hQ hE
    unfold genRFld at hN hxL ⊢
    simp only at hN hxL ⊢
    have hgl := genRF_le (R := R) (G := G) (sf := sf) fs (T := T') (vs := x + 1) (t := t + 6) (x := x + 2) (bk := bk)
    have htl := tagsR_le (R := R) (G := G) (sf := sf) (T := T') (vs := x + 1) (t := (genRF R G sf fs T' (x + 1) (t + 6) (x + 2) bk).2.1) (x := (genRF R G sf fs T' (x + 1) (t + 6) (x + 2) bk).2.2.1) (bl := (genRF R G sf fs T' (x + 1) (t + 6) (x + 2) bk).2.2.2) (tg := tg)
    have hbw : b < w.heap.size := Nat.lt_of_le_of_lt hh.hb hh.hw
    have hth : w.there b (o + off) n' := there_in hh.th hoff
    unfold Rep dfl at hrep
    obtain ⟨ds0, tags0, e1, e2, e3, e4⟩ := hrep
    injection e1 with e5 e6
    subst e5 e6
    refine RWL.rows ?_
    unfold subH
    simp only [List.cons_append, List.nil_append]
    refine RW.rg (RL.step (MR.mv cx.rv (ltT (by omega))) (RL.step (MR.nc (p := ⟨b, o, none⟩) (upd_same _ _ _) (by omega)) (RL.step (MR.fa (upd_same _ _ _) hF (by omega)) (RL.step (MR.mv (v := .pointer (some ⟨b, o + off, none⟩)) (upd_same _ _ _) (ltT (by omega))) (RL.nil ?_) (by omega)) (by omega)) (by omega)) (by omega))
    refine RW.rg (RL.step (MR.mv (v := .pointer (some ⟨b, o + off, none⟩)) (upd_same _ _ _) (ltT (by omega))) (RL.ca (R := fun _ w' => w'.rangeAt b (o + off) us ∧ Fr (fun _ => False) b (o + off) n' w w') hdef.1 ?_ ?_ (by omega) (by simp [MX.lt, Nat.blt_eq]; omega)) (by omega))
    · simp only [List.map_cons, List.map_nil, xof]
      rw [upd_same]
      refine Calls.mono (hdef.2 w b (o + off) us hrz hth hlz) ?_
      rintro e w' ⟨rfl, g1, g2⟩
      refine ⟨_, rfl, ?_, g2⟩
      rw [hnil] at g1
      exact g1
    rintro v1 w2 ⟨hr2, F2⟩
    refine RL.nil ?_
    have F2' : Fr (· = rb) b (o + off) n' w w2 := F2.wide (fun _ h => h.elim) (Nat.le_refl _) (Nat.le_refl _)
    have hrd2 : RdAt w2 rb sb st := hh.rd.keep (F2.block rb hh.rd.lt (fun e => hh.rbb e.symm) (fun x => x)) (F2.block sb hh.hs hh.nb (fun x => x))
    have hh2 := hh.keep F2' hrd2
    refine RW.rg (RL.step (MR.mv (v := .pointer (some ⟨b, o + off, none⟩)) (by show upd _ _ _ x = _; (repeat (first | rw [upd_same] | rw [upd_ne _ _ (by omega)]))) (ltT (by omega))) (RL.step (MR.mv (upd_same _ _ _) (ltT (by omega))) (RL.nil ?_) (by omega)) (by omega))
    generalize hρ2 : upd (upd _ (t + 5) _) (x + 1) _ = ρ2
    have q2 : ∀ s, s < x → ρ2 s = ρ s := fun s hs => by rw [← hρ2]; (repeat (first | rw [upd_same] | rw [upd_ne _ _ (by omega)]))
    have cx2 : RCx sf flex ver rb (x + 1) b (o + off) ρ2 := ⟨by rw [q2 7 (by omega)]; exact cx.r7, by rw [q2 2 (by omega)]; exact cx.r2, by rw [q2 8 (by omega)]; exact cx.r8, fun s e => by rw [q2 s (hs s e)]; exact cx.rf s e, cx.nf, by rw [← hρ2]; (repeat (first | rw [upd_same] | rw [upd_ne _ _ (by omega)]))⟩
    have hs2 : ∀ s, sf = some s → s < x + 2 := fun s e => by have := hs s e; omega
    have hth2 : w2.there b (o + off) n' := F2.there _ _ hth
    have hhE : FH P R rb sb h b (o + off) (preN tg n') ev st w2 :=
      ⟨hh2.rd, hh2.ne, hh2.nb, hh2.rbb, hh2.hb, hh2.hr, hh2.hw, hh2.hs, there_in (k := 0) hth2 (by omega), hh2.er, hh2.ev, hh2.gb, hh2.gr⟩
    refine RWL.append ?_
    refine genRF_ok kk h16 fs (L := L) (k := 0) (b := b) (o := o + off) (h := h) (cs := us.take (preN tg n')) hfs hhE cx2 (by omega) hs2 (by omega) (Nat.le_trans htl.2 hxL) (by omega) (by omega) ?_ (by rw [List.length_take]; omega) (zf_rep fs hfs (by omega) e3) ?_ ?_
    · intro j v hj
      rw [List.getElem?_take] at hj
      split at hj
      · exact hr2 j v hj
      · simp at hj
    · intro ρ3 w3 ds st3 cs3 k1 k2 k3 k4 k5 k6 k7 k8 k9
      show RWL P N _ _ ρ3 w3
      have hh3 := hhE.keep k2 k4
      have W3 : Fr (· = rb) b (o + off) n' w2 w3 := k2.wide (fun _ h => h) (by omega) (by omega)
      have cx3' := cx2.keep k1 (by omega) hs2 (by omega)
      have hbw2 : b < w2.heap.size := Nat.lt_of_lt_of_le hbw F2.size
      refine (List.append_nil (tagsR R G sf T' (x + 1) tg (genRF R G sf fs T' (x + 1) (t + 6) (x + 2) bk).2.1 (genRF R G sf fs T' (x + 1) (t + 6) (x + 2) bk).2.2.1 (genRF R G sf fs T' (x + 1) (t + 6) (x + 2) bk).2.2.2).1 ▸ (RWL.tags (x := (genRF R G sf fs T' (x + 1) (t + 6) (x + 2) bk).2.2.1) (bl := (genRF R G sf fs T' (x + 1) (t + 6) (x + 2) bk).2.2.2) (L := L) (n := n') (m := preN tg n') (ds := ds) (cs := cs3) (rest := []) kk hh3 (Nat.lt_of_lt_of_le hbw2 W3.size) (W3.there _ _ hth2) cx3' (by omega) (fun s e => by have := hs s e; omega) (by omega) hxL (by omega) hN ?_ k5 k6 k8 ?_ ?_) : RWL P N _ _ ρ3 w3)
      · unfold preN
        cases htg : tg with
        | none => exact (rfl : n' = n')
        | some q =>
          rw [htg] at s6 e4
          simp only [Bool.and_eq_true, Nat.beq_eq] at s6
          obtain ⟨⟨⟨q1, q2'⟩, q3⟩, q4⟩ := s6
          have hpq : preN tg n' = q.2 := by unfold preN; rw [htg]
          obtain ⟨m, kb0, un0, hm, hmr, hkb, hku, _⟩ := e4
          have hm0 : m = .map none := by
            rcases hmr with ⟨e, _⟩ | ⟨r, es, clock, _, hf, _⟩
            · exact e
            · exact hf.elim
          subst hm0
          have hkb0 : kb0 = [] := (List.append_eq_nil_iff.1 hku.symm).1
          subst hkb0
          refine ⟨rfl, q1, q2', ne0 q4, ?_, q3, knAt_of q3 (cs := us) (fun p hp h1 h2 => ?_) hkb⟩
          · have hcell : w2.cell? ⟨b, o + off + q.2, none⟩ = some (.map none) := hr2 q.2 _ hm
            rw [k2.cell (o + off + q.2) (.inr (by omega))]
            exact hcell
          · rw [k9 _ h2, List.getElem?_take, if_pos (by omega)]
      · intro ρ4 w4 tags st4 cs4 tl j1 j2 j3 j4 j5 j5' j6 j7 _
        show Q .normal ρ4 w4
        refine hQ ρ4 w4 (.r ds tags) st4 (cs4 ++ tl) (fun s hs => by rw [j1 s (by omega), k1 s (by omega), q2 s hs]) (F2'.trans (W3.trans j2)) ?_ j4 j5 (by rw [List.length_append]; exact j5') ?_
        · unfold dec
          refine k3.bind ?_
          cases hb : (tg.isSome && flex) with
          | true =>
            rw [hb] at j3
            simp only [if_true] at j3 ⊢
            have : ((dTagsK (knOf tg)).map fun ts => D.r ds ts) = ((dTagsK (knOf tg)).map (fun ts => (ds, ts))).map (fun p => D.r p.1 p.2) := by
              funext l; unfold Dec.map; cases dTagsK (knOf tg) l <;> rfl
            rw [this]
            exact j3.map (f := fun p => D.r p.1 p.2)
          | false =>
            rw [hb] at j3
            simp only [Bool.false_eq_true, if_false] at j3 ⊢
            have : (Dec.pure (D.r ds [])) = (Dec.pure (ds, ([] : List (Nat × List UInt8)))).map (fun p => D.r p.1 p.2) := by
              funext l; rfl
            rw [this]
            exact j3.map (f := fun p => D.r p.1 p.2)
        · unfold Rep
          exact ⟨ds, tags, rfl, by rw [List.length_append]; exact j5', RepF.more j6, j7⟩
      · intro ρ4 w4 j1 j2 j3
        refine hE ρ4 w4 j1 (F2'.trans (W3.trans j2)) fun d => ?_
        unfold dec
        refine k3.bind ?_
        cases hb : (tg.isSome && flex) with
        | true =>
          have j3' := j3 ([], [])
          rw [hb] at j3'
          simp only [if_true] at j3' ⊢
          refine Got.failed fun l hl' => ?_
          subst hl'
          have h4 : ((dTagsK (knOf tg)).map (fun ts => (ds, ts))) l = none := j3'
          unfold Dec.map at h4 ⊢
          cases hd : dTagsK (knOf tg) l with
          | none => rfl
          | some p => rw [hd] at h4; cases h4
        | false =>
          have j3' := j3 ([], [])
          rw [hb] at j3'
          simp only [Bool.false_eq_true, if_false] at j3' ⊢
          exact Got.failed fun l hl' => by subst hl'; exact absurd (show (some _ : Option (_ × _)) = none from j3') (by simp)
    · intro ρ3 w3 k1 k2 k3
      refine hE ρ3 w3 k1 (F2'.trans (k2.wide (fun _ h => h) (by omega) (by omega))) (fun d => ?_)
      unfold dec
      exact Got.bind (k := fun ds => if (tg.isSome && flex) = true then (dTagsK (knOf tg)).map (fun ts => D.r ds ts) else Dec.pure (D.r ds [])) (k3 []) (by exact rfl)
theorem elR_ok (kk : RKOK P R G) (h16 : intTy P R.T.i16 .i16 = true) : ∀ (el : Ty) {ty ety x bk L : Nat} {zs : List MVal}, wfEl P R G sf el ety = true → sliceOf P ty ety = true → cellsB P ety el.cells = true → zeroM P ety = some zs → 9 ≤ x → (∀ s, sf = some s → s < x) → (∀ t, (elR R G sf el ty ety t x bk).2.2.1 ≤ L) →
    ElC P R N rb sb ev sf flex ver el x L (zs.map MVal.val) (fun t => elR R G sf el ty ety t x bk)
  | .prim k kty, ty, ety, x, bk, L, zs, hwf, hsl, hce, hz, hx9, hs, hxL => by
    simp only [wfEl, Bool.and_eq_true] at hwf
    have hx := hxL 0
    unfold elR at hx ⊢
    exact elC_prim kk hwf.1.1 hsl hwf.1.2 hwf.2 hx9 hs (by simp only at hx; omega)
  | .struct T n' fDef tg fs, ty, ety, x, bk, L, zs, hwf, hsl, hce, hz, hx9, hs, hxL => by
    simp only [wfEl, Bool.and_eq_true] at hwf
    obtain ⟨hel, hfs⟩ := hwf
    unfold elB at hel
    rw [hz] at hel
    simp only [Bool.and_eq_true, Nat.beq_eq, Nat.ble_eq] at hel
    obtain ⟨⟨⟨⟨⟨⟨e1, e2⟩, e3⟩, e4⟩, e5⟩, e6⟩, e7⟩ := hel
    have hdef : DefD P fDef n' (dfsOf T fs) := defD_of (FnIs0.of e2) e3 e4
    have hpre : preN tg n' ≤ n' := by
      unfold preN
      cases htg : tg with
      | none => exact Nat.le_refl _
      | some q => rw [htg] at e7; simp only [Bool.and_eq_true, Nat.beq_eq] at e7; simp only; omega
    have hplen : (putM (dfsOf T fs) 0 zs).length = n' := by
      have := congrArg List.length (putM_val (dfsOf T fs) 0 zs)
      rw [putD_len, List.length_map, List.length_map] at this
      omega
    refine ⟨?_⟩
    intro t' ab l c i vs b o ρ ρ1 w1 st1 Q1 hL hN hh cx hvx q ra ri hi hrz hK hK2
    have hcl : (Ty.struct T n' fDef tg fs).cells = n' := rfl
    rw [hcl] at hh hrz hK hK2
    rw [hcl] at hce
    have hx0 := hxL t'
    unfold elR at hx0 hN ⊢
    simp only at hx0 hN ⊢
    have hgl := genRF_le (R := R) (G := G) (sf := sf) fs (T := T) (vs := x + 5) (t := t' + 6) (x := x + 6) (bk := bk + 2)
    have htl := tagsR_le (R := R) (G := G) (sf := sf) (T := T) (vs := x + 5) (t := (genRF R G sf fs T (x + 5) (t' + 6) (x + 6) (bk + 2)).2.1) (x := (genRF R G sf fs T (x + 5) (t' + 6) (x + 6) (bk + 2)).2.2.1) (bl := (genRF R G sf fs T (x + 5) (t' + 6) (x + 6) (bk + 2)).2.2.2) (tg := tg)
    have hmul : (i + 1) * n' ≤ l * n' := Nat.mul_le_mul_right _ hi
    have hmul' : (i + 1) * n' = i * n' + n' := Nat.succ_mul i n'
    have cx1 := cx.keep q hx9 hs hvx
    have hth1 : w1.there ab (i * n') n' := by
      have := there_in (k := i * n') (m := n') hh.th (by omega)
      rwa [Nat.zero_add] at this
    refine RWL.rows ?_
    unfold elemH
    simp only [List.cons_append, List.nil_append]
    refine RW.rg (RL.step (MR.mv ra (ltT (by omega))) (RL.step (MR.mv (v := .int .i32 (i : Nat)) (by show upd _ _ _ (x + 3) = _; (repeat (first | rw [upd_same] | rw [upd_ne _ _ (by omega)])); exact ri) (ltT (by omega)))
      (RL.step (MR.ia (k := .i32) (b := ab) (o := 0) (len := l) (cap := c) (j := i) (sz := n') hsl hce (by (repeat (first | rw [upd_same] | rw [upd_ne _ _ (by omega)]))) (by (repeat (first | rw [upd_same] | rw [upd_ne _ _ (by omega)]))) hi (by omega) (by omega)) (RL.step (MR.mv (v := .pointer (some ⟨ab, i * n', none⟩)) (by show upd _ _ _ (t' + 2) = _; rw [upd_same, Nat.zero_add]) (ltT (by omega))) (RL.nil ?_) (by omega)) (by omega)) (by omega)) (by omega))
    refine RW.rg (RL.step (MR.mv (v := .pointer (some ⟨ab, i * n', none⟩)) (upd_same _ _ _) (ltT (by omega))) (RL.ca (R := fun _ w' => w'.rangeAt ab (i * n') ((putM (dfsOf T fs) 0 zs).map MVal.val) ∧ Fr (fun _ => False) ab (i * n') n' w1 w') hdef.1 ?_ ?_ (by omega) (by simp [MX.lt, Nat.blt_eq]; omega)) (by omega))
    · simp only [List.map_cons, List.map_nil, xof]
      rw [upd_same]
      refine Calls.mono (hdef.2 w1 ab (i * n') _ hrz hth1 (by simp [e1])) ?_
      rintro e w' ⟨rfl, g1, g2⟩
      exact ⟨_, rfl, by rw [putM_val]; exact g1, g2⟩
    rintro v1 w2 ⟨hr2, F2⟩
    refine RL.nil ?_
    have F2' : Fr (· = rb) ab (i * n') n' w1 w2 := F2.wide (fun _ h => h.elim) (Nat.le_refl _) (Nat.le_refl _)
    have hrd2 : RdAt w2 rb sb st1 := hh.rd.keep (F2.block rb hh.rd.lt (fun e => hh.rbb e.symm) (fun x => x)) (F2.block sb hh.hs hh.nb (fun x => x))
    have hh2 := hh.keep F2' hrd2
    refine RW.rg (RL.step (MR.mv (v := .pointer (some ⟨ab, i * n', none⟩)) (by show upd _ _ _ (x + 4) = _; (repeat (first | rw [upd_same] | rw [upd_ne _ _ (by omega)]))) (ltT (by omega))) (RL.step (MR.mv (upd_same _ _ _) (ltT (by omega))) (RL.nil ?_) (by omega)) (by omega))
    generalize hρ2 : upd (upd _ (t' + 5) _) (x + 5) _ = ρ2
    have q2 : ∀ s, s < x + 4 → ρ2 s = ρ1 s := fun s hs => by rw [← hρ2]; (repeat (first | rw [upd_same] | rw [upd_ne _ _ (by omega)]))
    have cx2 : RCx sf flex ver rb (x + 5) ab (i * n') ρ2 := ⟨by rw [q2 7 (by omega)]; exact cx1.r7, by rw [q2 2 (by omega)]; exact cx1.r2, by rw [q2 8 (by omega)]; exact cx1.r8, fun s e => by rw [q2 s (by have := hs s e; omega)]; exact cx1.rf s e, cx1.nf, by rw [← hρ2]; (repeat (first | rw [upd_same] | rw [upd_ne _ _ (by omega)]))⟩
    have hs6 : ∀ s, sf = some s → s < x + 6 := fun s e => by have := hs s e; omega
    have hth2 : w2.there ab (i * n') n' := F2.there _ _ hth1
    have hhE : FH P R rb sb ab ab (i * n') (preN tg n') ev st1 w2 :=
      ⟨hh2.rd, hh2.ne, hh2.nb, hh2.rbb, hh2.hb, hh2.hr, hh2.hw, hh2.hs, there_in (k := 0) hth2 (by omega), hh2.er, hh2.ev, hh2.gb, hh2.gr⟩
    have hzf : ZF w2 fs (((putM (dfsOf T fs) 0 zs).map MVal.val).take (preN tg n')) := by
      have := zf_of (w := w2) e5
      rwa [List.map_take] at this
    refine RWL.append ?_
    refine genRF_ok kk h16 fs (L := L) (k := 0) (b := ab) (o := i * n') (h := ab) (cs := ((putM (dfsOf T fs) 0 zs).map MVal.val).take (preN tg n')) hfs hhE cx2 (by omega) hs6 (by omega) (by omega) (by omega) (by omega) ?_ (by rw [List.length_take, List.length_map]; omega) hzf ?_ ?_
    · intro j v hj
      rw [List.getElem?_take] at hj
      split at hj
      · exact hr2 j v hj
      · simp at hj
    · intro ρ3 w3 ds st3 cs3 k1 k2 k3 k4 k5 k6 k7 k8 k9
      show RWL P N _ _ ρ3 w3
      have hh3 := hhE.keep k2 k4
      have W3 : Fr (· = rb) ab (i * n') n' w2 w3 := k2.wide (fun _ h => h) (by omega) (by omega)
      have cx3' := cx2.keep k1 (by omega) hs6 (by omega)
      refine (List.append_nil (tagsR R G sf T (x + 5) tg (genRF R G sf fs T (x + 5) (t' + 6) (x + 6) (bk + 2)).2.1 (genRF R G sf fs T (x + 5) (t' + 6) (x + 6) (bk + 2)).2.2.1 (genRF R G sf fs T (x + 5) (t' + 6) (x + 6) (bk + 2)).2.2.2).1 ▸ (RWL.tags (x := (genRF R G sf fs T (x + 5) (t' + 6) (x + 6) (bk + 2)).2.2.1) (bl := (genRF R G sf fs T (x + 5) (t' + 6) (x + 6) (bk + 2)).2.2.2) (L := L) (n := n') (m := preN tg n') (ds := ds) (cs := cs3) (rest := []) kk hh3 (Nat.lt_of_lt_of_le hh2.hw W3.size) (W3.there _ _ hth2) cx3' (by omega) (fun s e => by have := hs s e; omega) (by omega) hx0 (by omega) hN ?_ k5 k6 k8 ?_ ?_) : RWL P N _ _ ρ3 w3)
      · unfold preN
        cases htg : tg with
        | none => exact (rfl : n' = n')
        | some q =>
          rw [htg] at e7
          simp only [Bool.and_eq_true, Nat.beq_eq] at e7
          obtain ⟨⟨⟨⟨q1, q2'⟩, q5⟩, q3⟩, q4⟩ := e7
          have hpq : preN tg n' = q.2 := by unfold preN; rw [htg]
          simp only [defTag, Bool.and_eq_true] at q3
          refine ⟨rfl, q1, q2', ne0 q4, ?_, q5, knAt_of q5 (cs := (putM (dfsOf T fs) 0 zs).map MVal.val) (fun p hp h1 h2 => ?_) (knAt_def (knDef_cell q3.2))⟩
          · have hcell : w2.cell? ⟨ab, i * n' + q.2, none⟩ = some (.map none) := by
              refine hr2 q.2 _ ?_
              have q3' := q3.1
              rw [List.getElem?_map]
              split at q3'
              · rename_i heq; rw [heq]; rfl
              · simp at q3'
            rw [k2.cell (i * n' + q.2) (.inr (by omega))]
            exact hcell
          · rw [k9 _ h2, List.getElem?_take, if_pos (by omega)]
      · intro ρ4 w4 tags st4 cs4 tl j1 j2 j3 j4 j5 j5' j6 j7 _
        show Q1 .normal ρ4 w4
        refine hK ρ4 w4 (.r ds tags) st4 (cs4 ++ tl) (fun s hs => by rw [j1 s (by omega), k1 s (by omega), q2 s hs]) (F2'.trans (W3.trans j2)) ?_ j4 j5 (by rw [List.length_append]; exact j5') ?_
        · unfold dec
          refine k3.bind ?_
          cases hb : (tg.isSome && flex) with
          | true =>
            rw [hb] at j3
            simp only [if_true] at j3 ⊢
            have : ((dTagsK (knOf tg)).map fun ts => D.r ds ts) = ((dTagsK (knOf tg)).map (fun ts => (ds, ts))).map (fun p => D.r p.1 p.2) := by
              funext l; unfold Dec.map; cases dTagsK (knOf tg) l <;> rfl
            rw [this]
            exact j3.map (f := fun p => D.r p.1 p.2)
          | false =>
            rw [hb] at j3
            simp only [Bool.false_eq_true, if_false] at j3 ⊢
            have : (Dec.pure (D.r ds [])) = (Dec.pure (ds, ([] : List (Nat × List UInt8)))).map (fun p => D.r p.1 p.2) := by
              funext l; rfl
            rw [this]
            exact j3.map (f := fun p => D.r p.1 p.2)
        · unfold Rep
          exact ⟨ds, tags, rfl, by rw [List.length_append]; exact j5', RepF.more j6, j7⟩
      · intro ρ4 w4 j1 j2 j3
        refine hK2 ρ4 w4 j1 (F2'.trans (W3.trans j2)) fun d => ?_
        unfold dec
        refine k3.bind ?_
        cases hb : (tg.isSome && flex) with
        | true =>
          have j3' := j3 ([], [])
          rw [hb] at j3'
          simp only [if_true] at j3' ⊢
          refine Got.failed fun l hl' => ?_
          subst hl'
          have h4 : ((dTagsK (knOf tg)).map (fun ts => (ds, ts))) l = none := j3'
          unfold Dec.map at h4 ⊢
          cases hd : dTagsK (knOf tg) l with
          | none => rfl
          | some p => rw [hd] at h4; cases h4
        | false =>
          have j3' := j3 ([], [])
          rw [hb] at j3'
          simp only [Bool.false_eq_true, if_false] at j3' ⊢
          exact Got.failed fun l hl' => by subst hl'; exact absurd (show (some _ : Option (_ × _)) = none from j3') (by simp)
    · intro ρ3 w3 k1 k2 k3
      refine hK2 ρ3 w3 k1 (F2'.trans (k2.wide (fun _ h => h) (by omega) (by omega))) (fun d => ?_)
      unfold dec
      exact Got.bind (k := fun ds => if (tg.isSome && flex) = true then (dTagsK (knOf tg)).map (fun ts => D.r ds ts) else Dec.pure (D.r ds [])) (k3 []) (by exact rfl)
  | .arr _ _ _ _, ty, ety, x, bk, L, zs, hwf, hsl, hce, hz, hx9, hs, hxL => by simp [wfEl] at hwf
  | .enum _ _ _, ty, ety, x, bk, L, zs, hwf, hsl, hce, hz, hx9, hs, hxL => by simp [wfEl] at hwf
  | .vstr _ _ _, ty, ety, x, bk, L, zs, hwf, hsl, hce, hz, hx9, hs, hxL => by simp [wfEl] at hwf
theorem genRF_ok (kk : RKOK P R G) (h16 : intTy P R.T.i16 .i16 = true) : ∀ (fs : Flds) {T vs t x bk L k b o n h : Nat} {ρ : Nat → Value} {w : World} {st : Option (List UInt8)} {cs : List Value} {Q : Exit → (Nat → Value) → World → Prop}, wfRF P R G sf fs T n k = true → FH P R rb sb h b o n ev st w → RCx sf flex ver rb vs b o ρ → 9 ≤ x → (∀ s, sf = some s → s < x) → vs < x → (genRF R G sf fs T vs t x bk).2.2.1 ≤ L → L ≤ t → (genRF R G sf fs T vs t x bk).2.1 ≤ N →
    w.rangeAt b o cs → cs.length = n → ZF w fs cs →
    (∀ ρ' w' ds st' cs', (∀ s, s < x → ρ' s = ρ s) → Fr (· = rb) b (o + k) (n - k) w w' → Got (decF ver flex fs) st ds st' → RdAt w' rb sb st' → w'.rangeAt b o cs' → cs'.length = n → cs'.take k = cs.take k → RepF w' (FB sb h w') fs cs' ds → (∀ j, gapF fs j = true → cs'[j]? = cs[j]?) → Q .normal ρ' w') →
    (∀ ρ' w', ρ' 6 = ev → Fr (· = rb) b (o + k) (n - k) w w' → (∀ d, Got (decF ver flex fs) st d none) → Q .ret ρ' w') → RWL P N (genRF R G sf fs T vs t x bk).1 Q ρ w
  | .nil, T, vs, t, x, bk, L, k, b, o, n, h, ρ, w, st, cs, Q, hwf, hh, cx, hx9, hs, hvx, hxL, hL, hN, hr, hl, hz, hQ, hE => by
    unfold genRF
    exact hQ ρ w [] st cs (fun _ _ => rfl) (Fr.refl _ _ _ _ _) (by unfold decF; exact Got.pure _) hh.rd hr hl rfl (by unfold RepF; rfl) (fun _ _ => rfl)
  | .cons c idx off df ty rest, T, vs, t, x, bk, L, k, b, o, n, h, ρ, w, st, cs, Q, hwf, hh, cx, hx9, hs, hvx, hxL, hL, hN, hr, hl, hz, hQ, hE => by
    simp only [wfRF, Bool.and_eq_true, Nat.ble_eq] at hwf
    obtain ⟨⟨⟨g1, g2⟩, g3⟩, g4⟩ := hwf
    have hn : off + ty.cells ≤ n := wfRF_n rest g4
    unfold ZF at hz
    obtain ⟨z1, z2, z3, z4⟩ := hz
    simp only [genRF] at hxL hN ⊢
    have le1 := @condR_le R c t x (fun t => genRFld R G sf ty T vs idx t x bk) (fun t => genRFld_le ty)
    have le2 := genRF_le (R := R) (G := G) (sf := sf) rest (T := T) (vs := vs) (t := (condR R c t fun t => genRFld R G sf ty T vs idx t x bk).2.1) (x := (condR R c t fun t => genRFld R G sf ty T vs idx t x bk).2.2.1) (bk := (condR R c t fun t => genRFld R G sf ty T vs idx t x bk).2.2.2)
    have xeq : ∀ t', (genRFld R G sf ty T vs idx t' x bk).2.2.1 = (condR R c t fun t => genRFld R G sf ty T vs idx t x bk).2.2.1 := fun t' => by rw [condR_x (t2 := t') (fun a b => genRFld_x ty T vs idx a b x bk)]
    have next : ∀ (ρ1 : Nat → Value) (w1 : World) (d : D) (st1 : Option (List UInt8)) (cs1 : List Value), (∀ s, s < x → ρ1 s = ρ s) → Fr (· = rb) b (o + off) ty.cells w w1 → Got (if c.ok ver then dec ver flex ty else Dec.pure (dfl ty df)) st d st1 → RdAt w1 rb sb st1 → w1.rangeAt b o cs1 → cs1.length = n → cs1.take off = cs.take off → cs1.drop (off + ty.cells) = cs.drop (off + ty.cells) → Rep w1 (FB sb h w1) ty ((cs1.drop off).take ty.cells) d →
        RWL P N (genRF R G sf rest T vs (condR R c t fun t => genRFld R G sf ty T vs idx t x bk).2.1 (condR R c t fun t => genRFld R G sf ty T vs idx t x bk).2.2.1 (condR R c t fun t => genRFld R G sf ty T vs idx t x bk).2.2.2).1 Q ρ1 w1 := by
      intro ρ1 w1 d st1 cs1 e1 e2 e3 e4 e5 e6 e7 e8 e9
      have hh1 := hh.keep e2 e4
      have W : Fr (· = rb) b (o + k) (n - k) w w1 := e2.wide (fun _ h => h) (by omega) (by omega)
      have M : ∀ w2, Fr (· = rb) b (o + (off + ty.cells)) (n - (off + ty.cells)) w1 w2 → Fr (· = rb) b (o + k) (n - k) w w2 := fun w2 hf => W.trans (hf.wide (fun _ h => h) (by omega) (by omega))
      have cx1 : RCx sf flex ver rb vs b o ρ1 := cx.keep e1 hx9 hs hvx
      refine genRF_ok kk h16 rest (L := L) (k := off + ty.cells) (cs := cs1) g4 hh1 cx1 (by omega) (fun s e => by have := hs s e; omega) (by omega) hxL (by omega) hN e5 e6 (ZF.keep e8 (by rw [e6, hl]) rest g4 z4) ?_ ?_
      · intro ρ2 w2 ds st2 cs2 k1 k2 k3 k4 k5 k6 k7 k8 k9
        refine hQ ρ2 w2 (d :: ds) st2 cs2 (fun s hs => by rw [k1 s (by omega), e1 s hs]) (M w2 k2) ?_ k4 k5 k6 ?_ ?_ ?_
        · unfold decF
          exact e3.bind (k3.map (f := fun ds => d :: ds))
        · have a1 : cs2.take k = (cs2.take (off + ty.cells)).take k := by rw [List.take_take, Nat.min_eq_left (by omega)]
          have a2 : cs1.take k = (cs1.take (off + ty.cells)).take k := by rw [List.take_take, Nat.min_eq_left (by omega)]
          have a3 : cs1.take k = (cs1.take off).take k := by rw [List.take_take, Nat.min_eq_left (by omega)]
          have a4 : cs.take k = (cs.take off).take k := by rw [List.take_take, Nat.min_eq_left (by omega)]
          rw [a1, k7, ← a2, a3, e7, ← a4]
        · unfold RepF
          refine ⟨by omega, d, ds, rfl, ?_, k8⟩
          rw [part_of_take k7 (Nat.le_refl _)]
          exact hh1.rep k2 e9
        · intro j hj
          simp only [gapF, Bool.and_eq_true, Bool.or_eq_true, Nat.blt_eq, Nat.ble_eq] at hj
          rw [k9 j hj.2]
          rcases hj.1 with hj | hj
          · have e : ∀ l : List Value, l[j]? = (l.take off)[j]? := fun l => by rw [List.getElem?_take, if_pos hj]
            exact (e cs1).trans ((congrArg (fun l : List Value => l[j]?) e7).trans (e cs).symm)
          · have e : ∀ l : List Value, l[j]? = (l.drop (off + ty.cells))[j - (off + ty.cells)]? := fun l => by rw [List.getElem?_drop]; congr 1; omega
            exact (e cs1).trans ((congrArg (fun l : List Value => l[j - (off + ty.cells)]?) e8).trans (e cs).symm)
      · intro ρ2 w2 k1 k2 k3
        refine hE ρ2 w2 k1 (M w2 k2) (fun ds => ?_)
        unfold decF
        refine e3.bind (Got.bind (k := fun ds => Dec.pure (d :: ds)) (k3 []) ?_)
        exact rfl
    show RW P N _ _ ρ w
    refine condR_ok (L := L) h16 cx.r8 (by omega) hL (fun t => (genRFld_le ty).1) (by omega) (fun hc ρ1 t1 a1 a2 a3 => ?_) (fun hc ρ1 a1 => ?_)
    · refine genRFld_ok kk h16 (L := L) ty g3 g2 hh (cx.keep (fun s hs => a1 s (by omega)) hx9 hs hvx) hx9 hs hvx (by rw [xeq]; omega) a2 a3 hn (fun e => hr off _ (z3 e)) ⟨_, df, range_part (k := off) (m := ty.cells) hr, by rw [List.length_take, List.length_drop]; omega, z2⟩ ?_ ?_
      · intro ρ2 w2 d st2 vs k1 k2 k3 k4 k5 k6 k7
        have hk : off + vs.length ≤ cs.length := by omega
        refine next ρ2 w2 d st2 (splice off vs cs) (fun s hs => by rw [k1 s hs, a1 s (by omega)]) k2 (by rw [if_pos hc]; exact k3) k4 (range_splice hr (by rw [k6]; exact k2) k5 hk) (by rw [splice_len hk, hl]) (splice_take hk) (by rw [← k6]; exact splice_drop hk) ?_
        have := splice_mid hk
        rw [k6] at this
        rw [this]; exact k7
      · intro ρ2 w2 k1 k2 k3
        refine hE ρ2 w2 k1 (k2.wide (fun _ h => h) (by omega) (by omega)) (fun ds => ?_)
        unfold decF
        rw [if_pos hc]
        exact Got.bind (k := fun d => (decF ver flex rest).map (fun ds => d :: ds)) (k3 (.n 0)) (by exact rfl)
    · refine next ρ1 w (dfl ty df) st cs (fun s hs => a1 s (by omega)) (Fr.refl _ _ _ _ _) (by rw [hc]; exact Got.pure _) hh.rd hr hl rfl rfl ?_
      exact Rep.mono (fun _ h => h.elim) (fun _ h => h.elim) ty z2
end
end
set_option linter.unusedVariables false
def Plan.sfR (p : Plan) : Option Nat := p.fl.map fun _ => 9
def Plan.vsR (p : Plan) : Nat := match p.fl with | none => 9 | some _ => 10
def flexR (R : RN) (p : Plan) (t : Nat) : List MCode × Nat :=
  match p.fl with
  | none => ([], t)
  | some k => ([.rg [.mv t (.t 8), .bi (t + 1) .geq R.T.i16 (.t t) (.c (.int .i16 k)), .mv 9 (.t (t + 1))], .rg [.mv (t + 2) (.t 9)]], t + 3)
def cRF (R : RN) (G : TG) (p : Plan) (fDef L : Nat) : MCode × Nat :=
  let h := flexR R p (L + 9)
  let f := genRF R G p.sfR p.fs p.T p.vsR (h.2 + 1) (p.vsR + 1) 0
  let g := tagsR R G p.sfR p.T p.vsR p.tg f.2.1 f.2.2.1 f.2.2.2
  (rows ([.rg [.mv 6 (.c .niface)], .rg [.mv L (.t 0), .ca (L + 1) fDef [.t L]], .rg [.mv (L + 2) (.t 1), .bdl (L + 3) R.tR [(0, .t (L + 2))], .al 7 R.tR, .st R.tR 7 (L + 3)],
    (loadA p.T 0 0 R.T.i16 8 (L + 4)).1, .rg [.mv (L + 8) (.t 8)]] ++ (h.1 ++ ([.rg [.mv h.2 (.t 0), .mv p.vsR (.t h.2)]] ++ (f.1 ++ (g.1 ++ [.rg [.ca g.2.1 R.compl [.t 7], .mv 6 (.t g.2.1)], .rt]))))), g.2.1 + 1)
def Plan.pre (p : Plan) (n : Nat) : Nat := match p.tg with | none => n | some q => q.2
mutual
def ge1 : Df → Nat → Bool
  | .st _ _ off _ _, o => Nat.ble 1 (o + off)
  | .sub _ _ off l, o => geD l (o + off)
def geD : Dfs → Nat → Bool
  | .nil, _ => true
  | .cons d r, o => ge1 d o && geD r o
end

def eqMs : List MVal → List MVal → Bool
  | [], [] => true
  | a :: as, b :: bs => a.is b.val && eqMs as bs
  | _, _ => false
theorem eqMs_eq : ∀ {a b : List MVal}, eqMs a b = true → a.map MVal.val = b.map MVal.val
  | [], [], _ => rfl
  | [], _ :: _, h => by simp [eqMs] at h
  | _ :: _, [], h => by simp [eqMs] at h
  | a :: as, b :: bs, h => by
    simp only [eqMs, Bool.and_eq_true] at h
    simp only [List.map_cons]
    rw [eqMs_eq h.2, MVal.is_eq h.1]
def cRFt (R : RN) (G : TG) (p : Plan) (L : Nat) : List MCode × Nat × Nat × Nat :=
  tagsR R G p.sfR p.T p.vsR p.tg (genRF R G p.sfR p.fs p.T p.vsR ((flexR R p L).2 + 1) (p.vsR + 1) 0).2.1 (genRF R G p.sfR p.fs p.T p.vsR ((flexR R p L).2 + 1) (p.vsR + 1) 0).2.2.1 (genRF R G p.sfR p.fs p.T p.vsR ((flexR R p L).2 + 1) (p.vsR + 1) 0).2.2.2
def tgB (P : Program) (R : RN) (G : TG) (p : Plan) (rest : List MVal) : Bool := match p.tg with | none => true | some q => Nat.beq (rest.length + 1) (q.2 + 1) && fieldAtB P p.T q.1.1 q.2 && krB P R G p.T q.2 p.fs q.1.2 && defTag p.tg (.int .i16 0 :: rest) && !(Nat.beq G.fRead 0) && tag1 p.tg
def rfB (P : Program) (R : RN) (G : TG) (p : Plan) (fDef : Nat) (df : Dfs) (rest : List MVal) (L N : Nat) : List Bool :=
  [wfRF P R G p.sfR p.fs p.T (p.pre (rest.length + 1)) 1, fieldAtB P p.T 0 0, Nat.ble (cRFt R G p (L + 9)).2.2.1 L, Nat.ble (cRF R G p fDef L).2 N, intTy P R.T.i16 .i16, plainTy P R.T.i16,
   zfB p.fs ((.int .i16 0 :: rest).take (p.pre (rest.length + 1))), geD df 0, eqMs (putM df 0 (.int .i16 0 :: rest)) (.int .i16 0 :: rest),
   isFn0 P fDef (rows (genD 0 df (defT0 df) 2).1) (genD 0 df (defT0 df) 2).2.1, okD P (rest.length + 1) df 0, Nat.ble (genD 0 df (defT0 df) 2).2.2 (defT0 df),
   zeroIs P R.tR [.nslice, .bool false], plcB P R.tR 2, cellsB P R.tR 2,
   tgB P R G p rest]
section
variable {P : Program} {N : Nat} {Q : Exit → (Nat → Value) → World → Prop} {ρ : Nat → Value} {w w' : World} {ms : List MOp} {R : RN} {G : TG} {rb sb h b o n : Nat} {ev : Value} {st st' : Option (List UInt8)} {sf : Option Nat} {flex : Bool} {ver : Int}
def RFC (P : Program) (f : Nat) (p : Plan) (gE : Nat) (rest : List MVal) : Prop := entersB P f = true ∧ ∀ (w : World) (b sb : Nat) (ad : Option Addr) (l : List UInt8) (c : Nat) (ver : Int) (ev : Value), w.rangeAt b 0 (.int .i16 ver :: rest.map MVal.val) → w.there b 0 (rest.length + 1) → BytesAt w (· = sb) ad l → okAd ad → l.length ≤ c → sb < w.heap.size → sb ≠ b → w.cell? ⟨gE, 0, none⟩ = some ev → gE ≠ b → isErr ev →
  Calls P f #[.pointer (some ⟨b, 0, none⟩), .slice ad l.length c, .bool false] w (fun e w' => Fr (fun _ => False) b 0 (rest.length + 1) w w' ∧
    ((∃ ds tags r cs, decTop p ver l = some ((ds, tags), r) ∧ e = .returned MVal.niface.val ∧ MsgAt w' (fun k => k = b ∨ k = sb ∨ (w.heap.size ≤ k ∧ k < w'.heap.size)) p ⟨b, 0, none⟩ ver ds tags cs) ∨ (decTop p ver l = none ∧ e = .returned ev)))
theorem Got.top {p : Plan} {ver : Int} {ds : List D} {tags : List Tg} {st1 st2 : Option (List UInt8)} (h1 : Got (decF ver (p.flex ver) p.fs) st ds st1) (h2 : Got (if p.tg.isSome && p.flex ver then (dTagsK (knOf p.tg)).map (fun ts => (ds, ts)) else Dec.pure (ds, [])) st1 (ds, tags) st2) : Got (decTop p ver) st (ds, tags) st2 := by
  unfold decTop
  exact h1.bind h2
end
end Go.Kx
