/- The reference's at, Same.
   The reference's Same, known (no tags), unknown (none said), Write.
   The reference's known (no tags), unknown (none said), Write's choice; octets of one's own as octets that lie somewhere.
   The reference's value.
   The reference's field. -/
import Derived.Test.YtpaoaobmaimibaaGreatDoorKxE
import Derived.Laws.MakeOwn
import Derived.Laws.CopyOwn
namespace Go.Kx
open Go.RowKit
set_option linter.unusedSimpArgs false
set_option linter.unusedVariables false
section
variable {P : Program} {S : SN} {w : World} {N : Nat} {Q : Exit → (Nat → Value) → World → Prop} {ρ : Nat → Value} {ms : List MOp}
theorem RepFd.one {f : Fd} {cs : List Value} (h : RepFd w f cs) : cs.all (·.oneCell') = true ∧ cs.length = 8 := by
  obtain ⟨sl, rfl, ad, c, rfl, _⟩ := h.cells
  exact ⟨rfl, rfl⟩
theorem RepTr.one {t : Tr} {cs : List Value} (h : RepTr w t cs) : cs.all (·.oneCell') = true ∧ cs.length = 5 := by
  obtain ⟨sS, sL, sU, rfl, _, ⟨ad, c, rfl, _⟩, ⟨ad', c', rfl, _⟩, ad'', c'', rfl, _⟩ := h.cells
  exact ⟨rfl, rfl⟩
theorem RL.stA {ty p x b o : Nat} {cs : List Value} (hp : ρ p = .pointer (some ⟨b, o, none⟩)) (hx : ρ x = .agg cs.toArray) (hn : cellsB P ty cs.length = true) (ht : w.there b o cs.length) (h1 : cs.all (·.oneCell') = true)
    (h : RL P N ms Q ρ (w.setCells b o cs)) (hpN : p < N := by decide) (hxN : x < N := by decide) : RL P N (.st ty p x :: ms) Q ρ w := by
  refine RL.st hp (by rw [hx]; simpa [Value.cells] using hn) (by rw [hx]; simpa [Value.cells] using ht) (by rw [hx]; simpa [Value.cells] using h1) ?_ hpN hxN
  rw [hx]; simpa [Value.cells] using h
theorem RL.alst {d T x n : Nat} {z cs : List Value} (hz : zeroAgg P T z) (hx : ρ x = .agg cs.toArray) (hxd : x ≠ d) (hzn : z.length = n) (hn : cs.length = n) (hT : cellsB P T n = true) (h1 : cs.all (·.oneCell') = true)
    (h : ∀ w', Below w.heap.size w w' → w'.heap.size = w.heap.size + 1 → w'.rangeAt w.heap.size 0 cs → w'.there w.heap.size 0 n → RL P N ms Q (upd ρ d (.pointer (some ⟨w.heap.size, 0, none⟩))) w')
    (hd : d < N := by decide) (hxN : x < N := by decide) : RL P N (.al d T :: .st T d x :: ms) Q ρ w := by
  obtain ⟨i, hi, hzv⟩ := hz
  refine RL.step (MR.al ⟨i, hi, hzv⟩) ?_ hd
  have ht : (w.alloc (.cells z.toArray T)).there w.heap.size 0 cs.length := by rw [hn, ← hzn]; exact there_box w z T
  refine RL.stA (upd_same _ _ _) (by rw [upd_ne _ _ hxd]; exact hx) (by rw [hn]; exact hT) ht h1 (h _ ?_ ?_ ?_ ?_) hd hxN
  · exact below_setCells (Nat.le_refl _) _ _ (below_box w _)
  · rw [size_setCells, size_box]
  · exact World.rangeAt_setCells_same _ _ _ _ ht
  · rw [← hn]; exact World.there_setCells ht _ _ _
theorem build_zero {T : Nat} {z : List Value} (hz : zeroAgg P T z) (hp : plcB P T z.length = true) : (Instr.build T #[]).run P w = .ok (.agg z.toArray) w :=
  built_of (parts := []) hz hp (by simp) rfl w
theorem RepTr.zero (w : World) : RepTr w .zero [.int .i64 0, .slice none 0 0, .bool false, .slice none 0 0, .slice none 0 0] := by
  unfold Tr.zero RepTr
  refine ⟨_, _, _, rfl, by omega, ⟨none, 0, rfl, .inl rfl, by simp, fun j b h => by simp at h⟩, ⟨none, 0, rfl, .inl rfl, by simp [Trs.toList], by unfold RowsT; trivial⟩, none, 0, rfl, .inl rfl, by simp, fun i t h => by simp at h⟩
def AtC (P : Program) (f : Nat) : Prop := entersB P f = true ∧ ∀ (w : World) (t : Tr) (cs : List Value) (i : Nat), RepTr w t cs → i < 9223372036854775808 →
  Calls P f #[.agg cs.toArray, .int .i64 i] w (fun e w' => ∃ cs', e = .returned (.agg cs'.toArray) ∧ RepTr w' (t.l.getD i .zero) cs' ∧ Below w.heap.size w w')
theorem at_ok {f : Nat} (ok : SOK P S) (hf : FnIsC P f (cAt S) 16 4 S.tr) : AtC P f := by
  refine ⟨hf.ent, fun w t cs i hrep hi => ?_⟩
  obtain ⟨sS, sL, sU, rfl, _, _, ⟨ad, c, rfl, had, hlc, hrows⟩, _⟩ := hrep.cells
  obtain ⟨zi, hzi, hzv⟩ := ok.zTr
  refine hf.runs (args := [.agg _, .int .i64 i]) (by simp) (by omega) ?_
  refine RW.sq (RW.rg (RL.bxA rfl (RL.step (MR.al ⟨zi, hzi, hzv⟩) (RL.nil ?_))))
  have c3 := cell_box w [Value.int .i64 t.n, sS, .bool t.null, .slice ad t.l.length c, sU] S.tr (j := 3) rfl
  have hb := below_box w (.cells [Value.int .i64 t.n, sS, .bool t.null, .slice ad t.l.length c, sU].toArray S.tr)
  revert c3 hb
  generalize w.alloc (.cells [Value.int .i64 t.n, sS, .bool t.null, .slice ad t.l.length c, sU].toArray S.tr) = w1
  intro c3 hb
  have hb2 := below_box w1 (.cells (Value.agg [Value.int .i64 0, .slice none 0 0, .bool false, .slice none 0 0, .slice none 0 0].toArray).cells S.tr)
  have th := there_box w1 [Value.int .i64 0, .slice none 0 0, .bool false, .slice none 0 0, .slice none 0 0] S.tr
  have c3' := hb2.kp _ _ c3
  have hB := hb.trans (hb2.mono hb.size)
  change (w1.alloc (.cells (Value.agg [Value.int .i64 0, .slice none 0 0, .bool false, .slice none 0 0, .slice none 0 0].toArray).cells S.tr)).there _ _ _ at th
  revert hb2 th c3' hB
  generalize w1.alloc (.cells (Value.agg [Value.int .i64 0, .slice none 0 0, .bool false, .slice none 0 0, .slice none 0 0].toArray).cells S.tr) = w2
  intro hb2 c3' hB th
  refine RW.sq (RW.sq (RW.rg (RL.step MR.mv (RL.step (MR.fa rfl (ok.trF 3 (by omega))) (RL.step (MR.ld rfl ok.pTrs c3') (RL.step (MR.ln ok.trs rfl) ?_))))))
  by_cases h : i < t.l.length
  · refine RL.step (MR.biB (p := (i : Int) < (t.l.length : Int)) rfl (decide_eq_true (by omega))) (RL.nil (RW.cd (b := true) rfl (fun _ => RW.sq (RW.rg ?_)) (fun e => by cases e)))
    obtain ⟨g, o, cs', rfl, hr, hrt⟩ := hrows i _ (List.getElem?_eq_getElem h)
    have hr2 := rangeAt_kp hr (Kp.trans hb.kp hb2.kp)
    have hrt2 := RepTr.kp (Kp.trans hb.kp hb2.kp) _ hrt
    obtain ⟨o1, l1⟩ := hrt2.one
    refine RL.step (MR.fa rfl (ok.trF 3 (by omega))) (RL.step (MR.ld rfl ok.pTrs c3') (RL.step MR.mv (RL.step (MR.ia (k := .i64) ok.trs ok.trN rfl rfl h) (RL.step (MR.ldRow rfl ok.trR (by rw [l1]; exact ok.trN) hr2) ?_))))
    have ht : w2.there w1.heap.size 0 cs'.length := by rw [l1]; exact th
    refine RL.stA rfl rfl (by rw [l1]; exact ok.trN) ht o1 (RL.nil (RW.rt ⟨⟨w1.heap.size, 0, none⟩, .agg cs'.toArray, rfl, ?_, cs', rfl, ?_, below_setCells hb.size _ _ hB⟩))
    · exact run_loadAt_row ok.trR (by rw [l1]; exact ok.trN) (World.rangeAt_setCells_same _ _ _ _ ht)
    · rw [List.getD_eq_getElem?_getD, List.getElem?_eq_getElem h]
      refine RepTr.kp (fun p v hv => ?_) _ hrt
      have hlt := World.block_lt_of_cell? w p hv
      have := (below_setCells hb.size cs' 0 hB).block p.block hlt
      rw [cell_of_heap this]; exact hv
  · refine RL.step (MR.biB (p := (i : Int) < (t.l.length : Int)) rfl (decide_eq_false (by omega))) (RL.nil (RW.cd (b := false) rfl (fun e => by cases e) (fun _ => RW.sk (RW.sq (RW.rg ?_)))))
    refine RL.step (MR.bdl (build_zero ok.zTr ok.lTr)) (RL.stA rfl rfl ok.trN th rfl (RL.nil (RW.rt ⟨⟨w1.heap.size, 0, none⟩, _, rfl, run_loadAt_row ok.trR (cs := [Value.int .i64 0, .slice none 0 0, .bool false, .slice none 0 0, .slice none 0 0]) ok.trN (World.rangeAt_setCells_same _ _ _ _ th), _, rfl, ?_, below_setCells hb.size _ _ hB⟩)))
    rw [List.getD_eq_getElem?_getD, List.getElem?_eq_none (by omega)]
    exact RepTr.zero _
end
section
variable {P : Program} {S : SN} {w : World} {N : Nat} {Q : Exit → (Nat → Value) → World → Prop} {ρ : Nat → Value} {ms : List MOp}
theorem u8Ty_cells {U : Nat} (h : u8Ty P U = true) : cellsB P U 1 = true := by
  obtain ⟨i, hi, hs, _⟩ := u8Ty_info h
  simp [cellsB, hi, hs]
theorem drew1_kp (w : World) : Kp w (World.drew1 w) := fun p v h => h
theorem below_drew1 (w : World) (B : Nat) : Below B w (World.drew1 w) := ⟨rfl, rfl, rfl, Nat.le_refl _, fun _ _ => rfl⟩
def SameC (P : Program) (f : Nat) : Prop := entersB P f = true ∧ ∀ (w : World) (a b : Option Addr) (l m : List UInt8) (c d : Nat), BytesAt w (fun _ => True) a l → BytesAt w (fun _ => True) b m → l.length < 9223372036854775807 → m.length < 9223372036854775807 →
  Calls P f #[.slice a l.length c, .slice b m.length d] w (fun e w' => e = .returned (.bool (decide (l = m))) ∧ Below w.heap.size w w')
theorem same_ok {f : Nat} (ok : SOK0 P S) (hf : FnIs P f (cSame S) 26 4) : SameC P f := by
  refine ⟨hf.ent, fun w a b l m c d ha hb hl hm => ?_⟩
  refine hf.runs (args := [.slice a l.length c, .slice b m.length d]) (by simp) (by omega) ?_
  refine RW.sq (RW.rg (RL.step MR.mv (RL.nil (RW.sq (RW.sq (RW.rg (RL.step MR.mv (RL.step (MR.ln ok.tk.u8s rfl) (RL.step MR.mv (RL.step (MR.ln ok.tk.u8s rfl) ?_)))))))))) 
  by_cases hlen : l.length = m.length
  · refine RL.step (MR.biE (v := .bool false) ?_) (RL.nil (RW.cd (b := false) rfl (fun e => by cases e) (fun _ => RW.sk ?_)))
    · show some (Value.bool (!(((l.length : Nat) : Int) == ((m.length : Nat) : Int)))) = _
      rw [hlen]; simp
    refine RW.sq (RW.sq (RW.rg (RL.step MR.mv (RL.step (MR.ln ok.tk.u8s rfl) (RL.step MR.mv (RL.nil (RW.bl ?_)))))))
    refine RW.lp (fun ρ w' => ∃ i : Nat, i ≤ l.length ∧ ρ 0 = .slice a l.length c ∧ ρ 1 = .slice b m.length d ∧ ρ 12 = .int .i64 (l.length : Nat) ∧ ρ 13 = .int .i64 (i : Nat) ∧ Below w.heap.size w w' ∧ ∀ j, j < i → l[j]? = m[j]?)
      (fun ρ _ => l.length - (intOf (ρ 13)).toNat) ⟨0, by omega, rfl, rfl, rfl, rfl, Below.refl _ _, fun j h => by omega⟩ ?_ (fun ρ ρ' w h => by rw [h 13 (by omega)])
    rintro ρ w1 ⟨i, hi, h0, h1, h12, h13, hbl, heq⟩
    refine RW.knows [(0, .slice a l.length c), (1, .slice b m.length d), (12, .int .i64 (l.length : Nat)), (13, .int .i64 (i : Nat))] (by simp [h0, h1, h12, h13]) (RW.sq (RW.rg ?_))
    by_cases hlt : i < l.length
    · refine RL.step (MR.biB (p := (i : Int) < (l.length : Int)) rfl (decide_eq_true (by omega))) (RL.nil (RW.sq (RW.cd (b := true) rfl (fun _ => RW.sk ?_) (fun e => by cases e))))
      refine RW.sq (RW.bl (RW.sq (RW.rg ?_)))
      repeat first | refine RL.step MR.mv ?_ | refine RL.step (MR.biE rfl) ?_ | refine RL.step (MR.b2 rfl) ?_
      refine RL.nil (RW.sq (RW.gd ok.mo (Kp w1) (drew1_kp w1) ?_))
      obtain ⟨g, o, rfl, _, hc1⟩ := (ha.kp hbl.kp) i _ (List.getElem?_eq_getElem hlt)
      obtain ⟨g', o', rfl, _, hc2⟩ := (hb.kp hbl.kp) i _ (List.getElem?_eq_getElem (show i < m.length by omega))
      have c1 := u8Ty_cells ok.tk.u8
      repeat first | refine RG.q (fun _ _ => MR.mv) ?_ | refine RG.q (fun _ _ => MR.biE rfl) ?_ | refine RG.q (fun _ _ => MR.pk rfl) ?_ | refine RG.no (by first | exact ⟨by decide, .inl rfl⟩ | exact ⟨by decide, .inr ⟨rfl, rfl⟩⟩) ?_
      refine RG.q (fun _ _ => MR.ia (k := .i64) ok.tk.u8s c1 rfl rfl hlt) (RG.q (fun w' hS => MR.ld rfl ok.pU8 (by rw [Nat.mul_one]; exact hS _ _ hc1)) ?_)
      repeat first | refine RG.q (fun _ _ => MR.mv) ?_ | refine RG.q (fun _ _ => MR.biE rfl) ?_ | refine RG.q (fun _ _ => MR.pk rfl) ?_ | refine RG.no (by first | exact ⟨by decide, .inl rfl⟩ | exact ⟨by decide, .inr ⟨rfl, rfl⟩⟩) ?_
      refine RG.q (fun _ _ => MR.ia (k := .i64) ok.tk.u8s c1 rfl rfl (show i < m.length by omega)) (RG.q (fun w' hS => MR.ld rfl ok.pU8 (by rw [Nat.mul_one]; exact hS _ _ hc2)) ?_)
      by_cases hb : l[i] = m[i]
      · refine RG.q (fun _ _ => MR.biE (v := .bool false) ?_) (RG.nil fun _ => RW.cd (b := false) rfl (fun e => by cases e) (fun _ => RW.sk ?_))
        · show some (Value.bool (!(((l[i].toNat : Nat) : Int) == ((m[i].toNat : Nat) : Int)))) = _
          rw [hb]; simp
        refine RW.rg ?_
        repeat first | refine RL.step MR.mv ?_ | refine RL.step (MR.biE rfl) ?_ | refine RL.step (MR.b2 rfl) ?_
        refine RL.nil ⟨⟨i + 1, hlt, rfl, rfl, rfl, ?_, hbl.trans (below_drew1 _ _), fun j hj => ?_⟩, ?_⟩
        · show Value.int .i64 (IntKind.i64.wrap ((i : Int) + 1)) = _
          rw [wrap_i64 (by omega) (by omega)]; rfl
        · by_cases e : j = i
          · subst e; rw [List.getElem?_eq_getElem hlt, List.getElem?_eq_getElem (show j < m.length by omega), hb]
          · exact heq j (by omega)
        · show l.length - (IntKind.i64.wrap ((i : Int) + 1)).toNat < l.length - (intOf (ρ 13)).toNat
          rw [h13, wrap_i64 (by omega) (by omega)]; simp only [intOf]; omega
      · refine RG.q (fun _ _ => MR.biE (v := .bool true) ?_) (RG.nil fun _ => RW.cd (b := true) rfl (fun _ => ?_) (fun e => by cases e))
        · show some (Value.bool (!(((l[i].toNat : Nat) : Int) == ((m[i].toNat : Nat) : Int)))) = _
          have : l[i].toNat ≠ m[i].toNat := fun e => hb (UInt8.toNat_inj.1 e)
          simp; omega
        refine RW.sq (RW.rg (RL.step MR.mv (RL.nil (RW.rt ⟨?_, hbl.trans (below_drew1 _ _)⟩))))
        have hne : l ≠ m := fun e => hb (by subst e; rfl)
        show Ending.returned (.bool false) = _
        simp [hne]
    · refine RL.step (MR.biB (p := (i : Int) < (l.length : Int)) rfl (decide_eq_false (by omega))) (RL.nil (RW.sq (RW.cd (b := false) rfl (fun e => by cases e) (fun _ => RW.ex ?_))))
      refine RW.sq (RW.rg (RL.step MR.mv (RL.nil (RW.rt ⟨?_, hbl⟩))))
      have hlm : l = m := by
        apply List.ext_getElem?
        intro j
        by_cases hj : j < i
        · exact heq j hj
        · rw [List.getElem?_eq_none (by omega), List.getElem?_eq_none (by omega)]
      show Ending.returned (.bool true) = _
      simp [hlm]
  · refine RL.step (MR.biE (v := .bool true) ?_) (RL.nil (RW.cd (b := true) rfl (fun _ => ?_) (fun e => by cases e)))
    · show some (Value.bool (!(((l.length : Nat) : Int) == ((m.length : Nat) : Int)))) = _
      simp; omega
    refine RW.sq (RW.rg (RL.step MR.mv (RL.nil (RW.rt ⟨?_, Below.refl _ _⟩))))
    have hne : l ≠ m := fun e => hlen (by rw [e])
    show Ending.returned (.bool false) = _
    simp [hne]
end
mutual
def noTag : Fd → Prop
  | .mk _ _ _ _ tag _ _ sub => tag < 0 ∧ noTags sub
def noTags : Fds → Prop
  | .nil => True
  | .cons f r => noTag f ∧ noTags r
end

def OutR (S : SN) (T : List Value → Nat × List UInt8 → Prop) (w0 w : World) (sv : Value) (out : List (Nat × List UInt8)) : Prop := (sv = .slice none 0 0 ∧ out = []) ∨ ∃ g cap cur, sv = .slice (some ⟨g, 0, none⟩) out.length cap ∧ w0.heap.size ≤ g ∧ w.heap[g]? = some (.cells cur S.tg (0, 0)) ∧ 0 < out.length ∧ out.length ≤ cap ∧ cap ≤ maxLen ∧ cur.size = cap * 2 ∧
  ∀ i t, out[i]? = some t → ∃ cs, w.rangeAt g (i * 2) cs ∧ T cs t
section
variable {P : Program} {S : SN} {w w' : World} {N : Nat} {Q : Exit → (Nat → Value) → World → Prop} {ρ : Nat → Value} {ms : List MOp}
theorem OwnB.bytes {U B : Nat} {sv : Value} {bs : List UInt8} (h : OwnB U w B sv bs) : ∃ ad c, sv = .slice ad bs.length c ∧ okAd ad ∧ bs.length ≤ c ∧ BytesAt w (fun _ => True) ad bs := by
  obtain ⟨h1, h2⟩ := h
  rcases h2 with ⟨rfl, h0⟩ | ⟨g, cap, cur, rfl, hb, hh, hn, hc, hs, ht⟩
  · have : bs = [] := List.eq_nil_of_length_eq_zero h0
    subst this
    exact ⟨none, 0, rfl, .inl rfl, by simp, fun j b hj => by simp at hj⟩
  · refine ⟨some ⟨g, 0, none⟩, cap, rfl, .inr ⟨g, 0, rfl⟩, hn, fun j b hj => ⟨g, 0, rfl, trivial, ?_⟩⟩
    rw [cell_of_row w g (0 + j) cur U (0, 0) hh, Nat.zero_add]
    have hjl : j < bs.length := (List.getElem?_eq_some_iff.1 hj).1
    have e : (cur.toList.take (bs.length * 1))[j]? = (bs.map byteV)[j]? := by rw [ht]
    rw [List.getElem?_take_of_lt (by omega)] at e
    rw [List.getElem?_map, hj] at e
    simpa using e
theorem RL.rowF {d1 d2 d x i : Nat} {ad : Option Addr} {n c : Nat} {f : Fd} {k : Nat} (ok : SOK P S) (hx : ρ x = .slice ad n c) (hi : ρ i = .int .i64 (k : Nat)) (hk : k < n)
    (hrow : ∃ g o cs, ad = some ⟨g, o, none⟩ ∧ w.rangeAt g (o + k * 8) cs ∧ RepFd w f cs) (hd1 : d1 ≠ d2) (hd2 : d2 ≠ d)
    (h : ∀ p cs w', Below w.heap.size w w' → w'.heap.size = w.heap.size + 1 → RepFd w' f cs → w'.rangeAt w.heap.size 0 cs → RL P N ms Q (upd (upd (upd ρ d1 p) d2 (.agg cs.toArray)) d (.pointer (some ⟨w.heap.size, 0, none⟩))) w')
    (hxN : x < N := by decide) (hiN : i < N := by decide) (h1N : d1 < N := by decide) (h2N : d2 < N := by decide) (hdN : d < N := by decide) : RL P N (.ia d1 S.fds x i :: .ld d2 S.fd d1 :: .al d S.fd :: .st S.fd d d2 :: ms) Q ρ w := by
  obtain ⟨g, o, cs, rfl, hr, hf⟩ := hrow
  obtain ⟨o1, l1⟩ := hf.one
  refine RL.step (MR.ia (k := .i64) ok.fds ok.fdN hx hi hk hxN hiN) (RL.step (MR.ldRow (upd_same _ _ _) ok.fdR (by rw [l1]; exact ok.fdN) hr h1N) ?_ h2N) h1N
  refine RL.alst ok.zFd (upd_same _ _ _) hd2 rfl l1 ok.fdN o1 (fun w' hb hs hrg _ => h _ cs w' hb hs (RepFd.kp hb.kp f hf) hrg) hdN h2N
def KnownC (P : Program) (f : Nat) : Prop := entersB P f = true ∧ ∀ (w : World) (ad : Option Addr) (c : Nat) (fs : Fds), RowsF w ad 0 fs → (∀ f ∈ fs.toList, f.tag < 1000000) → fs.toList.length < 9223372036854775807 →
  Calls P f #[.slice ad fs.toList.length c] w (fun e w' => e = .returned (.int .u32 (sKnown fs : Nat)) ∧ Below w.heap.size w w')
theorem known_ok {f : Nat} (ok : SOK P S) (hf : FnIs P f (cKnown S) 23 2) : KnownC P f := by
  refine ⟨hf.ent, fun w ad c fs hrows htag hlen => ?_⟩
  refine hf.runs (args := [.slice ad fs.toList.length c]) (by simp) (by omega) ?_
  refine RW.sq (RW.rg ?_)
  repeat first | refine RL.step MR.mv ?_ | refine RL.step (MR.biE rfl) ?_ | refine RL.step (MR.b2 rfl) ?_
  refine RL.nil (RW.sq (RW.rg ?_))
  repeat first | refine RL.step MR.mv ?_ | refine RL.step (MR.biE rfl) ?_ | refine RL.step (MR.b2 rfl) ?_
  refine RL.nil (RW.sq (RW.sq (RW.rg ?_)))
  repeat first | refine RL.step MR.mv ?_ | refine RL.step (MR.biE rfl) ?_ | refine RL.step (MR.b2 rfl) ?_
  refine RL.step (MR.ln ok.fds rfl) ?_
  repeat first | refine RL.step MR.mv ?_ | refine RL.step (MR.biE rfl) ?_ | refine RL.step (MR.b2 rfl) ?_
  refine RL.nil (RW.bl ?_)
  refine RW.lp (fun ρ w' => ∃ (i acc : Nat) (rest : Fds), i + rest.toList.length = fs.toList.length ∧ RowsF w ad i rest ∧ (∀ f ∈ rest.toList, f.tag < 1000000) ∧ acc ≤ 1000000 ∧ rest.toList.foldl (fun n f => if 0 ≤ f.tag then max n (f.tag.toNat + 1) else n) acc = sKnown fs ∧ ρ 3 = .int .u32 (acc : Nat) ∧ ρ 6 = .slice ad fs.toList.length c ∧ ρ 7 = .int .i64 (fs.toList.length : Nat) ∧ ρ 8 = .int .i64 (i : Nat) ∧ Below w.heap.size w w')
    (fun ρ _ => fs.toList.length - (intOf (ρ 8)).toNat) ⟨0, 0, fs, by omega, hrows, htag, by omega, rfl, rfl, rfl, rfl, rfl, Below.refl _ _⟩ ?_ (fun ρ ρ' w h => by rw [h 8 (by omega)])
  rintro ρ w1 ⟨i, acc, rest, hi, hr, ht, hacc, hfold, h3, h6, h7, h8, hbl⟩
  refine RW.knows [(3, .int .u32 (acc : Nat)), (6, .slice ad fs.toList.length c), (7, .int .i64 (fs.toList.length : Nat)), (8, .int .i64 (i : Nat))] (by simp [h3, h6, h7, h8]) (RW.sq (RW.rg ?_))
  cases rest with
  | nil =>
    simp only [Fds.toList, List.length_nil, Nat.add_zero] at hi
    simp only [Fds.toList, List.foldl_nil] at hfold
    refine RL.step (MR.biB (p := (i : Int) < (fs.toList.length : Int)) rfl (decide_eq_false (by omega))) (RL.nil (RW.sq (RW.cd (b := false) rfl (fun e => by cases e) (fun _ => RW.ex ?_))))
    refine RW.sq (RW.rg ?_)
    repeat first | refine RL.step MR.mv ?_ | refine RL.step (MR.biE rfl) ?_ | refine RL.step (MR.b2 rfl) ?_
    exact RL.nil (RW.rt ⟨by rw [← hfold]; rfl, hbl⟩)
  | cons fd rest =>
    simp only [Fds.toList, List.length_cons] at hi
    simp only [Fds.toList, List.foldl_cons] at hfold
    unfold RowsF at hr
    obtain ⟨hrow, hr'⟩ := hr
    refine RL.step (MR.biB (p := (i : Int) < (fs.toList.length : Int)) rfl (decide_eq_true (by omega))) (RL.nil (RW.sq (RW.cd (b := true) rfl (fun _ => RW.sk ?_) (fun e => by cases e))))
    obtain ⟨g, o, cs, h1, h2, h4⟩ := hrow
    refine RW.sq (RW.bl (RW.sq (RW.rg (RL.rowF (f := fd) (k := i) ok rfl rfl (by omega) ⟨g, o, cs, h1, rangeAt_kp h2 hbl.kp, RepFd.kp hbl.kp _ h4⟩ (by omega) (by omega) ?_))))
    intro p cs2 w2 hb2 hs2 hf2 hrg2
    obtain ⟨sl, rfl, _⟩ := hf2.cells
    have c4 := hrg2 4 (.int .i64 fd.tag) rfl
    have htf : fd.tag < 1000000 := ht fd (by simp [Fds.toList])
    have next : ∀ (Qn : Exit → (Nat → Value) → World → Prop) (ρ' : Nat → Value) (acc' : Nat), acc' ≤ 1000000 → rest.toList.foldl (fun n f => if 0 ≤ f.tag then max n (f.tag.toNat + 1) else n) acc' = sKnown fs → ρ' 3 = .int .u32 (acc' : Nat) → ρ' 6 = .slice ad fs.toList.length c → ρ' 7 = .int .i64 (fs.toList.length : Nat) → ρ' 8 = .int .i64 (i : Nat) →
        RW P 23 (.rg [.bi 21 .add S.T.int (.t 8) (.c (.int .i64 (1))), .mv 8 (.t 21)]) (thenR (fun ρ' w' => (∃ (i acc : Nat) (rest : Fds), i + rest.toList.length = fs.toList.length ∧ RowsF w ad i rest ∧ (∀ f ∈ rest.toList, f.tag < 1000000) ∧ acc ≤ 1000000 ∧ rest.toList.foldl (fun n f => if 0 ≤ f.tag then max n (f.tag.toNat + 1) else n) acc = sKnown fs ∧ ρ' 3 = .int .u32 (acc : Nat) ∧ ρ' 6 = .slice ad fs.toList.length c ∧ ρ' 7 = .int .i64 (fs.toList.length : Nat) ∧ ρ' 8 = .int .i64 (i : Nat) ∧ Below w.heap.size w w') ∧ fs.toList.length - (intOf (ρ' 8)).toNat < fs.toList.length - (intOf (ρ 8)).toNat) Qn) ρ' w2 := by
      intro Qn ρ' acc' ha hfo q3 q6 q7 q8
      refine RW.knows [(3, .int .u32 (acc' : Nat)), (6, .slice ad fs.toList.length c), (7, .int .i64 (fs.toList.length : Nat)), (8, .int .i64 (i : Nat))] (by simp [q3, q6, q7, q8]) (RW.rg ?_)
      repeat first | refine RL.step MR.mv ?_ | refine RL.step (MR.biE rfl) ?_ | refine RL.step (MR.b2 rfl) ?_
      refine RL.nil ⟨⟨i + 1, acc', rest, by omega, hr', fun f hf => ht f (by simp [Fds.toList, hf]), ha, hfo, rfl, rfl, rfl, ?_, hbl.trans (hb2.mono hbl.size)⟩, ?_⟩
      · show Value.int .i64 (IntKind.i64.wrap ((i : Int) + 1)) = _
        rw [wrap_i64 (by omega) (by omega)]; rfl
      · show fs.toList.length - (IntKind.i64.wrap ((i : Int) + 1)).toNat < fs.toList.length - (intOf (ρ 8)).toNat
        rw [h8, wrap_i64 (by omega) (by omega)]; simp only [intOf]; omega
    refine RL.nil (RW.sq (RW.rg (RL.step (MR.fa rfl (ok.fdF 4 (by omega))) (RL.step (MR.ld rfl ok.pInt c4) ?_))))
    by_cases h0 : 0 ≤ fd.tag
    · rw [if_pos h0] at hfold
      refine RL.step (MR.biB (p := (0 : Int) ≤ fd.tag) rfl (decide_eq_true h0)) (RL.nil (RW.cd (b := true) rfl (fun _ => RW.rg ?_) (fun e => by cases e)))
      refine RL.step (MR.mv (v := .int .u32 (acc : Nat)) rfl) (RL.step (MR.fa rfl (ok.fdF 4 (by omega))) (RL.step (MR.ld rfl ok.pInt c4) (RL.step (MR.cvI rfl ok.tk.int (ok.tk.u32 ok.hu32)) ?_)))
      rw [wrap_u32 h0 (by omega)]
      refine RL.step (MR.biE (v := .int .u32 (fd.tag + 1)) (by show some (Value.int .u32 (IntKind.u32.wrap (fd.tag + 1))) = _; rw [wrap_u32 (by omega) (by omega)])) (RL.step (MR.mxi (k := .u32) (k' := .u32) (m := (acc : Nat)) (n := fd.tag + 1) rfl rfl) ?_)
      have em : (if fd.tag + 1 > ((acc : Nat) : Int) then fd.tag + 1 else ((acc : Nat) : Int)) = ((max acc (fd.tag.toNat + 1) : Nat) : Int) := by split <;> omega
      rw [em]
      refine RL.step MR.mv (RL.nil (next _ _ (max acc (fd.tag.toNat + 1)) (by omega) hfold rfl rfl rfl rfl))
    · rw [if_neg h0] at hfold
      refine RL.step (MR.biB (p := (0 : Int) ≤ fd.tag) rfl (decide_eq_false h0)) (RL.nil (RW.cd (b := false) rfl (fun e => by cases e) (fun _ => RW.sk ?_)))
      exact next _ _ acc hacc hfold rfl rfl rfl rfl
def UnkC (P : Program) (S : SN) (f : Nat) (SU : List (Nat × List UInt8) → Prop) : Prop := entersB P f = true ∧ ∀ (w0 w : World) (ad : Option Addr) (c : Nat) (fs : Fds) (v : Value) (u : List (Nat × List UInt8)), RowsF w ad 0 fs → (∀ f ∈ fs.toList, f.tag < 1000000) → fs.toList.length < 9223372036854775807 → Below w0.heap.size w0 w → TagsS w0 v u → SU u →
  Calls P f #[.slice ad fs.toList.length c, v] w (fun e w' => ∃ sv, e = .returned sv ∧ OutR S (TagRow w0) w w' sv (sUnk (sKnown fs) u) ∧ Below w.heap.size w w')
theorem unk_none {f : Nat} (ok : SOK P S) (hf : FnIs P f (cUnk S) 85 4) (hk : KnownC P S.fKnown) : UnkC P S f (· = []) := by
  refine ⟨hf.ent, ?_⟩
  rintro w0 w ad c fs v u hrows htag hlen hB0 ⟨ad', c', rfl, had, hc, hrow⟩ rfl
  refine hf.runs (args := [.slice ad fs.toList.length c, .slice ad' 0 c']) (by simp) (by omega) ?_
  refine RW.sq (RW.rg (RL.step MR.mv (RL.nil (RW.sq (RW.rg (RL.step MR.mv (RL.ca (R := fun v w' => v = .int .u32 (sKnown fs : Nat) ∧ Below w.heap.size w w') hk.1 ?_ ?_)))))))
  · refine Calls.mono (hk.2 w ad c fs hrows htag hlen) ?_
    rintro e w' ⟨rfl, h⟩
    exact ⟨_, rfl, rfl, h⟩
  rintro v w1 ⟨rfl, hb⟩
  repeat first | refine RL.step MR.mv ?_ | refine RL.step (MR.biE rfl) ?_ | refine RL.step (MR.b2 rfl) ?_
  refine RL.nil (RW.sq (RW.rg (RL.step MR.mv (RL.nil (RW.sq (RW.sq (RW.rg ?_)))))))
  repeat first | refine RL.step MR.mv ?_ | refine RL.step (MR.biE rfl) ?_ | refine RL.step (MR.b2 rfl) ?_
  refine RL.step (MR.ln ok.tgs (p := ad') (n := 0) (c := c') rfl) (RL.step (MR.mn (m := 0) (n := 32767) rfl rfl) (RL.step (MR.sl (v := .slice ad' 0 c') (run_sliceTo (h := 0) ok.tgs (cellsB_some ok.tgN) had (by omega))) (RL.step (MR.ln ok.tgs (p := ad') (n := 0) (c := c') rfl) ?_)))
  repeat first | refine RL.step MR.mv ?_ | refine RL.step (MR.biE rfl) ?_ | refine RL.step (MR.b2 rfl) ?_
  refine RL.nil (RW.bl (RW.lp (fun ρ w' => ρ 6 = .slice none 0 0 ∧ ρ 18 = .int .i64 0 ∧ ρ 19 = .int .i64 0 ∧ w' = w1) (fun _ _ => 0) ⟨rfl, rfl, rfl, rfl⟩ ?_))
  rintro ρ w2 ⟨h6, h18, h19, rfl⟩
  refine RW.knows [(6, .slice none 0 0), (18, .int .i64 0), (19, .int .i64 0)] (by simp [h6, h18, h19]) (RW.sq (RW.rg ?_))
  refine RL.step (MR.biB (p := (0 : Int) < 0) rfl (decide_eq_false (by omega))) (RL.nil (RW.sq (RW.cd (b := false) rfl (fun e => by cases e) (fun _ => RW.ex ?_))))
  refine RW.sq (RW.rg ?_)
  repeat first | refine RL.step MR.mv ?_ | refine RL.step (MR.biE rfl) ?_ | refine RL.step (MR.b2 rfl) ?_
  exact RL.nil (RW.rt ⟨_, rfl, .inl ⟨rfl, by simp [sUnk]⟩, hb⟩)
end
mutual
def goodT (SU : List (Nat × List UInt8) → Prop) : Tr → Prop
  | .mk _ _ _ l u => SU u ∧ goodTs SU l
def goodTs (SU : List (Nat × List UInt8) → Prop) : Trs → Prop
  | .nil => True
  | .cons t r => goodT SU t ∧ goodTs SU r
end

theorem goodTs.mem {SU : List (Nat × List UInt8) → Prop} : ∀ {l : Trs} {t : Tr}, goodTs SU l → t ∈ l.toList → goodT SU t
  | .nil, t, _, h => by simp [Trs.toList] at h
  | .cons t r, t', h, hm => by
    unfold goodTs at h
    simp only [Trs.toList, List.mem_cons] at hm
    rcases hm with rfl | hm
    · exact h.1
    · exact goodTs.mem h.2 hm
theorem goodT.u {SU : List (Nat × List UInt8) → Prop} {t : Tr} (h : goodT SU t) : SU t.u := by cases t; unfold goodT at h; exact h.1
theorem goodT.mem {SU : List (Nat × List UInt8) → Prop} {t e : Tr} (h : goodT SU t) (he : e ∈ t.l) : goodT SU e := by cases t; unfold goodT at h; exact h.2.mem he
theorem goodT.zero {SU : List (Nat × List UInt8) → Prop} (h : SU []) : goodT SU .zero := by unfold Tr.zero goodT goodTs; exact ⟨h, trivial⟩
theorem goodT.at {SU : List (Nat × List UInt8) → Prop} {t : Tr} (h : goodT SU t) (h0 : SU []) (i : Nat) : goodT SU (t.l.getD i .zero) := by
  rw [List.getD_eq_getElem?_getD]
  cases hi : t.l[i]? with
  | none => exact goodT.zero h0
  | some e => exact h.mem (List.mem_of_getElem? hi)
structure SPC (P : Program) (S : SN) (SU : List (Nat × List UInt8) → Prop) : Prop where
  ok : SOK P S
  su0 : SU []
  fixed : FixedC P S.T.u8 S.fFixed
  uvar : UvC P S.T.u8 S.fUvar
  width : WidC P S.fWidth
  counted : CntC P S.T.u8 S.fCounted
  whole : CutC P S.fWhole
  things : CutC P S.fThings
  has : HasC P S.fHas
  null : NulC P S.fNull
  at_ : AtC P S.fAt
  known : KnownC P S.fKnown
  unk : UnkC P S S.fUnk SU
  value : FnIs P S.fValue (cValue S) 70 12
  field : FnIs P S.fField (cField S) 76 8
  part : FnIs P S.fPart (cPart S) 132 8
def PartC (P : Program) (S : SN) (SU : List (Nat × List UInt8) → Prop) (fs : Fds) : Prop := ∀ (w : World) (ad : Option Addr) (c : Nat) (t : Tr) (cs : List Value) (ver : Int) (flex : Bool),
  RowsF w ad 0 fs → RepTr w t cs → goodT SU t → (kPart ver flex fs t).length ≤ lim → RetB P S.T.u8 S.fPart [.slice ad fs.toList.length c, .int .i64 ver, .bool flex, .agg cs.toArray] w (kPart ver flex fs t)
def ValueC (P : Program) (S : SN) (SU : List (Nat × List UInt8) → Prop) (sub : Fds) : Prop := ∀ (w : World) (ad : Option Addr) (c : Nat) (t : Tr) (cs : List Value) (kind ver : Int) (null flex : Bool),
  RowsF w ad 0 sub → RepTr w t cs → goodT SU t → (sVal kind (kPart ver flex sub) null flex t).length ≤ lim →
  RetB P S.T.u8 S.fValue [.int .i64 kind, .slice ad sub.toList.length c, .bool null, .int .i64 ver, .bool flex, .agg cs.toArray] w (sVal kind (kPart ver flex sub) null flex t)
def FieldC (P : Program) (S : SN) (SU : List (Nat × List UInt8) → Prop) (fd : Fd) : Prop := ∀ (w : World) (cf ct : List Value) (t : Tr) (ver : Int) (flex : Bool),
  RepFd w fd cf → RepTr w t ct → goodT SU t → (kField ver flex fd t).length ≤ lim → RetB P S.T.u8 S.fField [.agg cf.toArray, .int .i64 ver, .bool flex, .agg ct.toArray] w (kField ver flex fd t)
section
variable {P : Program} {S : SN} {w w' : World} {N : Nat} {Q : Exit → (Nat → Value) → World → Prop} {ρ : Nat → Value} {ms : List MOp} {SU : List (Nat × List UInt8) → Prop} {Q' : (Nat → Value) → World → Prop}
theorem OwnB.rebase {U B B' : Nat} {sv : Value} {bs : List UInt8} (h : OwnB U w B sv bs) (hB : B' ≤ B) : OwnB U w B' sv bs := by
  obtain ⟨h1, h2⟩ := h
  refine ⟨h1, ?_⟩
  rcases h2 with h2 | ⟨g, cap, cur, h2, h3, h4⟩
  · exact .inl h2
  · exact .inr ⟨g, cap, cur, h2, Nat.le_trans hB h3, h4⟩
theorem run_apOO {T U B B' : Nat} {sv sy : Value} {bs l : List UInt8} (hT : sliceOf P T U = true) (hU : u8Ty P U = true) (ho : OwnB U w B sv bs) (hy : OwnB U w B' sy l) (hB : B ≤ w.heap.size) (hlim : bs.length + l.length ≤ lim) :
    ∃ sv' w', (∀ ty, (Builtin.append_ #[T, T] ty #[sv, sy]).run P w = .ok sv' w') ∧ OwnB U w' B sv' (bs ++ l) ∧ Below B w w' ∧ w.grownBy w' sv.ownBlock := by
  obtain ⟨ad, c, rfl, _, _, hb⟩ := hy.bytes
  exact run_apOwn hT hU ho rfl hb hB hlim
theorem RL.apOO {d T U x y B B' : Nat} {sv sy : Value} {bs l : List UInt8} (hT : sliceOf P T U = true) (hU : u8Ty P U = true) (hx : ρ x = sv) (hy : ρ y = sy) (ho : OwnB U w B sv bs) (hoy : OwnB U w B' sy l) (hB : B ≤ w.heap.size) (hlim : bs.length + l.length ≤ lim)
    (h : ∀ sv' w', OwnB U w' B sv' (bs ++ l) → Below B w w' → RL P N ms Q (upd ρ d sv') w') (hxN : x < N := by decide) (hyN : y < N := by decide) (hd : d < N := by decide) : RL P N (.ap d T T x y :: ms) Q ρ w := by
  obtain ⟨sv', w', h1, h2, h3, _⟩ := run_apOO hT hU ho hoy hB hlim
  subst hx hy
  exact RL.step (MR.apBy (h1 0) h1 hxN hyN) (h sv' w' h2 h3) hd
theorem run_uuid {T U c : Nat} {ad : Option Addr} {l : List UInt8} (hT : sliceOf P T U = true) (hU : u8Ty P U = true) (hb : BytesAt w (fun _ => True) ad l) :
    ∃ w1, (Instr.makeSlice T (.int .i64 16) (.int .i64 16)).run P w = .ok (.slice (some ⟨w.heap.size, 0, none⟩) 16 16) w1 ∧ Below w.heap.size w w1 ∧
      ∃ v w2, (∀ ty, (Builtin.copy_ #[T, T] ty #[.slice (some ⟨w.heap.size, 0, none⟩) 16 16, .slice ad l.length c]).run P w1 = .ok v w2) ∧
        OwnB U w2 w.heap.size (.slice (some ⟨w.heap.size, 0, none⟩) 16 16) ((l ++ List.replicate 16 0).take 16) ∧ Below w.heap.size w w2 := by
  obtain ⟨i, hi, hs, hby, hz⟩ := u8Ty_info hU
  have hm := run_makeSlice (P := P) (w := w) T U i (.int .u8 0) (sliceOf_eq hT) hi hz .i64 .i64 16 16 (by omega) (by omega) (by rw [hs]; decide) (by rw [hby]; decide) (by omega)
  have hmade : madeCells (Value.int .u8 0).cells ((16 : Int).toNat * i.size) = (List.replicate 16 (Value.int .u8 0)).toArray := by
    rw [hs]
    apply Array.toList_inj.1
    refine List.eq_replicate_iff.2 ⟨by simp [madeCells], fun b hb => ?_⟩
    simp only [madeCells, Value.cells, Array.toList_map, List.mem_map] at hb
    obtain ⟨x, _, rfl⟩ := hb
    simp [Nat.mod_one]
  rw [hmade] at hm
  refine ⟨_, hm, below_box w _, ?_⟩
  have hh : (w.alloc (.cells (List.replicate 16 (Value.int .u8 0)).toArray U)).heap[w.heap.size]? = some (.cells (List.replicate 16 (Value.int .u8 0)).toArray U (0, 0)) := by
    show (w.heap.push _)[w.heap.size]? = _
    simp
  have hz0 : ∀ n, List.replicate n (Value.int .u8 0) = (List.replicate n (0 : UInt8)).map byteV := fun n => by rw [List.map_replicate]; rfl
  have hlen : ((l ++ List.replicate 16 (0 : UInt8)).take 16).length = 16 := by simp
  have hsz : (P.info? U).map (·.size) = some 1 := by rw [hi]; simp [hs]
  by_cases hl : l.length = 0
  · have : l = [] := List.eq_nil_of_length_eq_zero hl
    subst this
    refine ⟨_, _, fun ty => run_copy_none (P := P) _ T T ty U (some ⟨w.heap.size, 0, none⟩) ad 16 16 0 c (sliceOf_eq hT) hsz (by simp), ?_, below_box w _⟩
    refine ⟨by simp, .inr ⟨w.heap.size, 16, _, rfl, Nat.le_refl _, hh, by simp, by decide, by simp, ?_⟩⟩
    simp [hz0]
  · obtain ⟨b0, hb0⟩ : ∃ b, l[0]? = some b := ⟨l[0], List.getElem?_eq_getElem (by omega)⟩
    obtain ⟨g, o, rfl, _, _⟩ := hb 0 b0 hb0
    have hcopy := fun ty => run_copy_row (P := P) (w.alloc (.cells (List.replicate 16 (Value.int .u8 0)).toArray U)) T T ty U w.heap.size 0 16 16 ⟨g, o, none⟩ l.length c (List.replicate 16 (Value.int .u8 0)).toArray U ((l.take 16).map byteV) (sliceOf_eq hT) hsz hh
      (by simp [Nat.min_comm]) (fun j v hv => by
        rw [List.getElem?_map, Option.map_eq_some_iff] at hv
        obtain ⟨b, hb1, rfl⟩ := hv
        rw [List.getElem?_take] at hb1
        split at hb1
        · obtain ⟨g', o', he, _, hc⟩ := (hb.kp (kp_alloc w _)) j b hb1
          cases he
          rw [Addr.add_mid]; exact hc
        · simp at hb1) (by simp; omega) (by intro v hv; simp only [List.mem_map] at hv; obtain ⟨b, _, rfl⟩ := hv; rfl)
    refine ⟨_, _, hcopy, ?_, below_setRow (below_box w _) (Nat.le_refl _) _⟩
    refine ⟨by simp, .inr ⟨w.heap.size, 16, _, by rw [hlen], Nat.le_refl _, setRow_heap _ _ _ _ _ _ hh, by simp, by decide, ?_, ?_⟩⟩
    · simp; omega
    · rw [hlen]
      simp only [List.take_zero, List.nil_append, Nat.zero_add, List.length_map, List.length_take]
      rw [hz0, ← List.map_drop, ← List.map_append, Nat.mul_one, ← List.map_take]
      congr 1
      rw [List.drop_replicate, List.take_append, List.take_append]
      rw [List.take_take, List.take_replicate, List.take_replicate, List.length_take, Nat.min_self]
      congr 2; omega
theorem and1 {n : Int} (h0 : -9223372036854775808 ≤ n) (h1 : n ≤ 9223372036854775807) : IntKind.i64.wrap ((BitVec.ofInt IntKind.i64.bits n &&& BitVec.ofInt IntKind.i64.bits 1).toNat : Int) = n % 2 := by
  show IntKind.i64.wrap ((BitVec.ofInt 64 n &&& BitVec.ofInt 64 1).toNat : Int) = _
  rw [BitVec.toNat_and, show (BitVec.ofInt 64 1).toNat = 2 ^ 1 - 1 from rfl, Nat.and_two_pow_sub_one_eq_mod, BitVec.toNat_ofInt, wrap_i64 (by omega) (by omega)]
  omega
theorem lit_own {U : Nat} (bs : List UInt8) (h : bs.length ≤ 16) : OwnB U (w.alloc (.cells (bs.map byteV).toArray U)) w.heap.size (.slice (some ⟨w.heap.size, 0, none⟩) bs.length bs.length) bs := by
  have := World.ownsRow_lit (base := w.heap.size) (e := U) (size := 1) w (bs.map byteV).toArray bs.length (Nat.le_refl _) (by simp only [maxLen]; omega) (by simp)
  simpa [OwnB] using this
theorem rcd {t : Nat} {x y : MCode} {k k' : Int} (ht : ρ t = .bool (k == k')) (h1 : k = k' → RW P N x Q ρ w) (h2 : k ≠ k' → RW P N y Q ρ w) (hN : t < N := by decide) : RW P N (.cd t x y) Q ρ w :=
  RW.cd ht (fun e => h1 (beq_iff_eq.1 e)) (fun e => h2 (beq_eq_false_iff_ne.1 e)) hN
theorem cutBytes {ad : Option Addr} {l : List UInt8} (hb : BytesAt w (fun _ => True) ad l) : BytesAt w (fun _ => True) ad (l.take most) := by
  intro j b hj
  rw [List.getElem?_take] at hj
  split at hj
  · exact hb j b hj
  · simp at hj
theorem MR.cpBy {d T U x y : Nat} {v : Value} (hr : ∀ ty, (Builtin.copy_ #[T, U] ty #[ρ x, ρ y]).run P w = .ok v w') (hx : x < N := by decide) (hy : y < N := by decide) : MR P N (.cp d T U x y) ρ w d v w' := by
  refine MR.builtin (b := .copy) (T := [T, U]) (xs := [.t x, .t y]) (fun o hf => ?_) (by simp [MX.lt, Nat.blt_eq, hx, hy]) (fun t cs => ?_)
  · generalize hop : o.op = op at hf
    cases op <;> try (simp only [fitOp, Bool.false_eq_true] at hf; done)
    rename_i c
    obtain ⟨callee, args, ats⟩ := c
    cases callee <;> try (simp only [fitOp, Bool.false_eq_true] at hf; done)
    case builtin b =>
      cases b <;> try (simp only [fitOp, Bool.false_eq_true] at hf; done)
      simp only [fitOp, Bool.and_eq_true] at hf
      obtain ⟨h1, h2⟩ := hf
      generalize hA : args.toList = A at h2
      generalize hB : ats.toList = B at h2
      match A, B, h2 with
      | [x', y'], [t', u'], h2 =>
        simp only [Bool.and_eq_true, Nat.beq_eq] at h2
        obtain ⟨⟨⟨h3, h4⟩, h5⟩, h6⟩ := h2
        exact ⟨dstIs_eq h1, args, ats, rfl, .inl (by rw [hB, h5, h6]), by rw [hA, tmpIs_eq h3, tmpIs_eq h4]; simp [allX, MX.is]⟩
  · simp only [Go.builtin, xof, List.map_cons, List.map_nil]
    rw [Sem.run_bind, hr t]; rfl
theorem take_most_len (l : List UInt8) : min l.length most = (l.take most).length := by rw [List.length_take, Nat.min_comm]
set_option maxHeartbeats 1000000 in
theorem value_of (sp : SPC P S SU) {sub : Fds} (hp : PartC P S SU sub) : ValueC P S SU sub := by
  intro w ad c t cs kind ver null flex hrows hrep hgood hlim
  have ok := sp.ok
  have hrep0 := hrep
  obtain ⟨sS, sL, sU, rfl, hn, ⟨adS, cS, rfl, hadS, hlS, hbS⟩, ⟨adL, cL, rfl, _⟩, adU, cU, rfl, _⟩ := hrep.cells
  refine sp.value.runs (args := [.int .i64 kind, .slice ad sub.toList.length c, .bool null, .int .i64 ver, .bool flex, .agg _]) (by simp) (by omega) ?_
  refine RW.sq (RW.rg (RL.bxA rfl (RL.step MR.mv (RL.nil ?_))))
  have c0 := cell_box w [Value.int .i64 t.n, .slice adS t.s.length cS, .bool t.null, .slice adL t.l.length cL, .slice adU t.u.length cU] S.tr (j := 0) rfl
  have c1 := cell_box w [Value.int .i64 t.n, .slice adS t.s.length cS, .bool t.null, .slice adL t.l.length cL, .slice adU t.u.length cU] S.tr (j := 1) rfl
  have crow : (w.alloc (.cells [Value.int .i64 t.n, .slice adS t.s.length cS, .bool t.null, .slice adL t.l.length cL, .slice adU t.u.length cU].toArray S.tr)).rangeAt w.heap.size 0 [Value.int .i64 t.n, .slice adS t.s.length cS, .bool t.null, .slice adL t.l.length cL, .slice adU t.u.length cU] := fun j v hj => cell_box w _ S.tr hj
  have hb := below_box w (.cells [Value.int .i64 t.n, .slice adS t.s.length cS, .bool t.null, .slice adL t.l.length cL, .slice adU t.u.length cU].toArray S.tr)
  revert c0 c1 crow hb
  generalize w.alloc (.cells [Value.int .i64 t.n, .slice adS t.s.length cS, .bool t.null, .slice adL t.l.length cL, .slice adU t.u.length cU].toArray S.tr) = w1
  intro c0 c1 crow hb
  have hB : w.heap.size ≤ w1.heap.size := hb.size
  refine RW.sq (RW.sq (RW.rg ?_))
  repeat first | refine RL.step MR.mv ?_ | refine RL.step (MR.biE rfl) ?_ | refine RL.step (MR.b2 rfl) ?_
  refine RL.nil (RW.bl (RW.sq (RW.rg ?_)))
  repeat first | refine RL.step MR.mv ?_ | refine RL.step (MR.biE rfl) ?_ | refine RL.step (MR.b2 rfl) ?_
  refine RL.nil (rcd (k := kind) (k' := 0) rfl (fun e => ?_) (fun k0 => ?_))
  · subst e
    refine RW.sq (RW.rg (RL.step (MR.fa rfl (ok.trF 0 (by omega))) (RL.step (MR.ld rfl ok.pI64 c0) ?_)))
    repeat first | refine RL.step MR.mv ?_ | refine RL.step (MR.biE rfl) ?_ | refine RL.step (MR.b2 rfl) ?_
    refine RL.step (MR.cvI rfl (ok.tk.i64 ok.hi64) ok.tk.u8i) ?_
    refine RL.bsl8 (bs := [UInt8.ofNat (t.n % 2).toNat]) ok.tk.u8s ok.tk.u8 ?_ (by simp) ?_
    · show [Value.int .u8 (IntKind.u8.wrap (IntKind.i64.wrap ((BitVec.ofInt IntKind.i64.bits t.n &&& BitVec.ofInt IntKind.i64.bits 1).toNat : Int)))] = _
      rw [and1 hn.1 hn.2, byteV_mod]
      congr 3; omega
    repeat first | refine RL.step MR.mv ?_ | refine RL.step (MR.biE rfl) ?_ | refine RL.step (MR.b2 rfl) ?_
    refine RL.nil (RW.rt ⟨_, rfl, ?_, hb.trans ((below_box w1 _).mono hB)⟩)
    exact (lit_own (w := w1) [UInt8.ofNat (t.n % 2).toNat] (by simp)).rebase hB
  refine RW.sq (RW.rg ?_)
  repeat first | refine RL.step MR.mv ?_ | refine RL.step (MR.biE rfl) ?_ | refine RL.step (MR.b2 rfl) ?_
  refine RL.nil (rcd (k := kind) (k' := 7) rfl (fun e => ?_) (fun k7 => ?_))
  · subst e
    obtain ⟨w2, m1, m2, v, w3, m3, m4, m5⟩ := run_uuid (c := cS) ok.tk.u8s ok.tk.u8 (hbS.kp hb.kp)
    refine RW.sq (RW.rg (RL.step (MR.mkBy m1) ?_))
    repeat first | refine RL.step MR.mv ?_ | refine RL.step (MR.biE rfl) ?_ | refine RL.step (MR.b2 rfl) ?_
    refine RL.nil (RW.sq (RW.rg ?_))
    repeat first | refine RL.step MR.mv ?_ | refine RL.step (MR.biE rfl) ?_ | refine RL.step (MR.b2 rfl) ?_
    refine RL.step (MR.fa rfl (ok.trF 1 (by omega))) (RL.step (MR.ld rfl ok.pU8s (m2.kp _ _ c1)) (RL.step (MR.cpBy m3) (RL.nil (RW.sq (RW.rg ?_)))))
    repeat first | refine RL.step MR.mv ?_ | refine RL.step (MR.biE rfl) ?_ | refine RL.step (MR.b2 rfl) ?_
    exact RL.nil (RW.rt ⟨_, rfl, m4.rebase hB, hb.trans (m5.mono hB)⟩)
  refine RW.sq (RW.rg ?_)
  repeat first | refine RL.step MR.mv ?_ | refine RL.step (MR.biE rfl) ?_ | refine RL.step (MR.b2 rfl) ?_
  refine RL.nil (rcd (k := kind) (k' := 8) rfl (fun e => ?_) (fun k8 => ?_))
  · subst e
    have hval : sVal 8 (kPart ver flex sub) null flex t = sCnt flex null (if null then [] else t.s.take most).length 2 ++ (if null then [] else t.s.take most) := rfl
    rw [hval] at hlim ⊢
    refine RW.sq (RW.rg (RL.step (MR.fa rfl (ok.trF 1 (by omega))) (RL.step (MR.ld rfl ok.pU8s c1) (RL.ca (R := fun v w' => v = .slice adS (min t.s.length most) cS ∧ w' = w1) sp.whole.1 ?_ ?_))))
    · refine Calls.mono (sp.whole.2 w1 adS t.s.length cS hadS hlS) ?_
      rintro e w' ⟨rfl, rfl⟩
      exact ⟨_, rfl, rfl, rfl⟩
    rintro v w' ⟨rfl, rfl⟩
    repeat first | refine RL.step MR.mv ?_ | refine RL.step (MR.biE rfl) ?_ | refine RL.step (MR.b2 rfl) ?_
    refine RL.nil (RW.sq (RW.sq (RW.rg ?_)))
    repeat first | refine RL.step MR.mv ?_ | refine RL.step (MR.biE rfl) ?_ | refine RL.step (MR.b2 rfl) ?_
    have fin : ∀ (Qn : (Nat → Value) → World → Prop) (ad' : Option Addr) (l : List UInt8) (c' : Nat) (ρ : Nat → Value), BytesAt w' (fun _ => True) ad' l → l.length ≤ most → ρ 14 = .slice ad' l.length c' → ρ 2 = .bool null → ρ 4 = .bool flex → (sCnt flex null l.length 2 ++ l).length ≤ lim →
        RW P 70 (.sq (.rg [.mv 38 (.t 4), .mv 39 (.t 2), .mv 40 (.t 14), .ln 41 S.T.u8s 40, .ca 42 S.fCounted [.t 38, .t 39, .t 41, .c (.int .i64 (2))], .mv 43 (.t 14), .ap 44 S.T.u8s S.T.u8s 42 43, .mv 12 (.t 44)]) .rt)
          (inBlockR 0 (thenR Qn (retQ 12 fun e w'' => ∃ sv, e = .returned sv ∧ OwnB S.T.u8 w'' w.heap.size sv (sCnt flex null l.length 2 ++ l) ∧ Below w.heap.size w w''))) ρ w' := by
      intro Qn ad' l c' ρ hbl hl hs h2 h4 hlm
      refine RW.knows [(14, .slice ad' l.length c'), (2, .bool null), (4, .bool flex)] (by simp [hs, h2, h4]) (RW.sq (RW.rg ?_))
      repeat first | refine RL.step MR.mv ?_ | refine RL.step (MR.biE rfl) ?_ | refine RL.step (MR.b2 rfl) ?_
      refine RL.step (MR.ln ok.tk.u8s (p := ad') (n := l.length) (c := c') rfl) ?_
      refine RL.caB sp.counted.1 (sp.counted.2 w' flex null l.length 2 (by simp only [most] at hl; omega) (by omega)) rfl fun sv w2 o b => ?_
      repeat first | refine RL.step MR.mv ?_ | refine RL.step (MR.biE rfl) ?_ | refine RL.step (MR.b2 rfl) ?_
      refine RL.apOwn (sv := sv) (bs := sCnt flex null l.length 2) (l := l) (ad := ad') (m := l.length) (c := c') ok.tk.u8s ok.tk.u8 rfl o rfl rfl (hbl.kp b.kp) b.size (by simpa using hlm) fun sv2 w3 o2 b2 => ?_
      repeat first | refine RL.step MR.mv ?_ | refine RL.step (MR.biE rfl) ?_ | refine RL.step (MR.b2 rfl) ?_
      exact RL.nil (RW.rt ⟨sv2, rfl, o2.rebase hB, hb.trans ((b.trans b2).mono hB)⟩)
    cases null
    · refine RL.nil (RW.cd (b := false) rfl (fun e => by cases e) (fun _ => RW.sk ?_))
      exact fin _ adS (t.s.take most) cS _ (cutBytes (hbS.kp hb.kp)) (List.length_take_le _ _) (by show Value.slice adS (min t.s.length most) cS = _; rw [take_most_len]) rfl rfl hlim
    · refine RL.nil (RW.cd (b := true) rfl (fun _ => RW.rg (RL.step MR.mv (RL.nil ?_))) (fun e => by cases e))
      exact fin _ none [] 0 _ (fun j b hj => by simp at hj) (by simp) rfl rfl rfl hlim
  refine RW.sq (RW.rg ?_)
  repeat first | refine RL.step MR.mv ?_ | refine RL.step (MR.biE rfl) ?_ | refine RL.step (MR.b2 rfl) ?_
  refine RL.nil (rcd (k := kind) (k' := 9) rfl (fun e => ?_) (fun k9 => ?_))
  · subst e
    have hval : sVal 9 (kPart ver flex sub) null flex t = sCnt flex null (if null then [] else t.s.take most).length 4 ++ (if null then [] else t.s.take most) := rfl
    rw [hval] at hlim ⊢
    refine RW.sq (RW.rg (RL.step (MR.fa rfl (ok.trF 1 (by omega))) (RL.step (MR.ld rfl ok.pU8s c1) (RL.ca (R := fun v w' => v = .slice adS (min t.s.length most) cS ∧ w' = w1) sp.whole.1 ?_ ?_))))
    · refine Calls.mono (sp.whole.2 w1 adS t.s.length cS hadS hlS) ?_
      rintro e w' ⟨rfl, rfl⟩
      exact ⟨_, rfl, rfl, rfl⟩
    rintro v w' ⟨rfl, rfl⟩
    repeat first | refine RL.step MR.mv ?_ | refine RL.step (MR.biE rfl) ?_ | refine RL.step (MR.b2 rfl) ?_
    refine RL.nil (RW.sq (RW.sq (RW.rg ?_)))
    repeat first | refine RL.step MR.mv ?_ | refine RL.step (MR.biE rfl) ?_ | refine RL.step (MR.b2 rfl) ?_
    have fin : ∀ (Qn : (Nat → Value) → World → Prop) (ad' : Option Addr) (l : List UInt8) (c' : Nat) (ρ : Nat → Value), BytesAt w' (fun _ => True) ad' l → l.length ≤ most → ρ 15 = .slice ad' l.length c' → ρ 2 = .bool null → ρ 4 = .bool flex → (sCnt flex null l.length 4 ++ l).length ≤ lim →
        RW P 70 (.sq (.rg [.mv 51 (.t 4), .mv 52 (.t 2), .mv 53 (.t 15), .ln 54 S.T.u8s 53, .ca 55 S.fCounted [.t 51, .t 52, .t 54, .c (.int .i64 (4))], .mv 56 (.t 15), .ap 57 S.T.u8s S.T.u8s 55 56, .mv 12 (.t 57)]) .rt)
          (inBlockR 0 (thenR Qn (retQ 12 fun e w'' => ∃ sv, e = .returned sv ∧ OwnB S.T.u8 w'' w.heap.size sv (sCnt flex null l.length 4 ++ l) ∧ Below w.heap.size w w''))) ρ w' := by
      intro Qn ad' l c' ρ hbl hl hs h2 h4 hlm
      refine RW.knows [(15, .slice ad' l.length c'), (2, .bool null), (4, .bool flex)] (by simp [hs, h2, h4]) (RW.sq (RW.rg ?_))
      repeat first | refine RL.step MR.mv ?_ | refine RL.step (MR.biE rfl) ?_ | refine RL.step (MR.b2 rfl) ?_
      refine RL.step (MR.ln ok.tk.u8s (p := ad') (n := l.length) (c := c') rfl) ?_
      refine RL.caB sp.counted.1 (sp.counted.2 w' flex null l.length 4 (by simp only [most] at hl; omega) (by omega)) rfl fun sv w2 o b => ?_
      repeat first | refine RL.step MR.mv ?_ | refine RL.step (MR.biE rfl) ?_ | refine RL.step (MR.b2 rfl) ?_
      refine RL.apOwn (sv := sv) (bs := sCnt flex null l.length 4) (l := l) (ad := ad') (m := l.length) (c := c') ok.tk.u8s ok.tk.u8 rfl o rfl rfl (hbl.kp b.kp) b.size (by simpa using hlm) fun sv2 w3 o2 b2 => ?_
      repeat first | refine RL.step MR.mv ?_ | refine RL.step (MR.biE rfl) ?_ | refine RL.step (MR.b2 rfl) ?_
      exact RL.nil (RW.rt ⟨sv2, rfl, o2.rebase hB, hb.trans ((b.trans b2).mono hB)⟩)
    cases null
    · refine RL.nil (RW.cd (b := false) rfl (fun e => by cases e) (fun _ => RW.sk ?_))
      exact fin _ adS (t.s.take most) cS _ (cutBytes (hbS.kp hb.kp)) (List.length_take_le _ _) (by show Value.slice adS (min t.s.length most) cS = _; rw [take_most_len]) rfl rfl hlim
    · refine RL.nil (RW.cd (b := true) rfl (fun _ => RW.rg (RL.step MR.mv (RL.nil ?_))) (fun e => by cases e))
      exact fin _ none [] 0 _ (fun j b hj => by simp at hj) (by simp) rfl rfl rfl hlim
  refine RW.sq (RW.rg ?_)
  repeat first | refine RL.step MR.mv ?_ | refine RL.step (MR.biE rfl) ?_ | refine RL.step (MR.b2 rfl) ?_
  refine RL.nil (rcd (k := kind) (k' := 10) rfl (fun e => ?_) (fun k10 => RW.sk ?_))
  · subst e
    refine RW.sq (RW.rg ?_)
    repeat first | refine RL.step MR.mv ?_ | refine RL.step (MR.biE rfl) ?_ | refine RL.step (MR.b2 rfl) ?_
    refine RL.step (MR.ldRow (cs := [Value.int .i64 t.n, .slice adS t.s.length cS, .bool t.null, .slice adL t.l.length cL, .slice adU t.u.length cU]) rfl ok.trR ok.trN crow) ?_
    refine RL.caB sp.part.ent (hp w1 ad c t _ ver flex (RowsF.kp hb.kp _ hrows) (RepTr.kp hb.kp _ hrep0) hgood hlim) rfl fun sv w2 o b => ?_
    repeat first | refine RL.step MR.mv ?_ | refine RL.step (MR.biE rfl) ?_ | refine RL.step (MR.b2 rfl) ?_
    exact RL.nil (RW.rt ⟨sv, rfl, o.rebase hB, hb.trans (b.mono hB)⟩)
  have hval : sVal kind (kPart ver flex sub) null flex t = fix t.n (sWid kind) := by simp [sVal, k0, k7, k8, k9, k10]
  rw [hval]
  refine RW.sq (RW.gd ok.mo (Kp w1) (drew1_kp w1) ?_)
  refine RG.q (fun _ _ => MR.fa rfl (ok.trF 0 (by omega))) (RG.q (fun w' hS => MR.ld rfl ok.pI64 (hS _ _ c0)) ?_)
  repeat first | refine RG.q (fun _ _ => MR.mv) ?_ | refine RG.q (fun _ _ => MR.biE rfl) ?_ | refine RG.q (fun _ _ => MR.pk rfl) ?_ | refine RG.no (by first | exact ⟨by decide, .inl rfl⟩ | exact ⟨by decide, .inr ⟨rfl, rfl⟩⟩) ?_
  have bd := hb.trans (below_drew1 w1 w.heap.size)
  refine RG.ca (R := fun v w' => v = .int .i64 (sWid kind : Nat) ∧ w' = World.drew1 w1) sp.width.1 (fun hS => ?_) ?_
  · refine Calls.mono (sp.width.2 _ kind) ?_
    rintro e w' ⟨rfl, rfl⟩
    exact ⟨_, rfl, ⟨rfl, rfl⟩, hS⟩
  rintro v w' ⟨rfl, rfl⟩
  have hk : sWid kind = 1 ∨ sWid kind = 2 ∨ sWid kind = 4 ∨ sWid kind = 8 := by unfold sWid; (repeat' split) <;> simp
  refine RG.ca (R := fun v w' => OwnB S.T.u8 w' (World.drew1 w1).heap.size v (fix t.n (sWid kind)) ∧ Below (World.drew1 w1).heap.size (World.drew1 w1) w') sp.fixed.1 (fun hS => ?_) ?_
  · refine Calls.mono (sp.fixed.2 (World.drew1 w1) t.n (sWid kind) hk) ?_
    rintro e w' ⟨sv, rfl, o, b⟩
    exact ⟨_, rfl, ⟨o, b⟩, hS.trans b.kp⟩
  rintro v w' ⟨o, b⟩
  repeat first | refine RG.q (fun _ _ => MR.mv) ?_ | refine RG.q (fun _ _ => MR.biE rfl) ?_ | refine RG.q (fun _ _ => MR.pk rfl) ?_ | refine RG.no (by first | exact ⟨by decide, .inl rfl⟩ | exact ⟨by decide, .inr ⟨rfl, rfl⟩⟩) ?_
  exact RG.nil fun _ => RW.rt ⟨v, rfl, o.rebase hB, bd.trans (b.mono hB)⟩
end
section
variable {P : Program} {S : SN} {w w' : World} {N : Nat} {Q : Exit → (Nat → Value) → World → Prop} {ρ : Nat → Value} {ms : List MOp} {SU : List (Nat × List UInt8) → Prop} {Q' : (Nat → Value) → World → Prop}
theorem RG.caB {i d f : Nat} {U : Nat} {g : Option (Nat × Nat × Bool)} {gs : List GOp} {xs : List MX} {out : List UInt8} {args : List Value} {S : World → Prop} (he : entersB P f = true) (hc : RetB P U f args w out) (ha : xs.map (xof ρ) = args)
    (hS : ∀ w', Below w.heap.size w w' → S w → S w') (h : ∀ sv w', OwnB U w' w.heap.size sv out → Below w.heap.size w w' → RG P N gs Q S (upd ρ d sv) w')
    (hg : passes N ρ true g := by first | exact rfl | exact ⟨by decide, .inl rfl⟩) (hd : d < N := by decide) (hx : ∀ x ∈ xs, MX.lt N x = true := by simp [MX.lt, Nat.blt_eq]) : RG P N (⟨i, g, .ca d f xs⟩ :: gs) Q S ρ w := by
  refine RG.ca (R := fun sv w' => OwnB U w' w.heap.size sv out ∧ Below w.heap.size w w') he (fun hs => ?_) (fun v w' h' => h v w' h'.1 h'.2) hg hd hx
  rw [ha]
  refine Calls.mono hc ?_
  rintro e w' ⟨sv, rfl, h1, h2⟩
  exact ⟨sv, rfl, ⟨h1, h2⟩, hS w' h2 hs⟩
theorem RG.apOO {i d T U x y B B' : Nat} {gs : List GOp} {sv sy : Value} {bs l : List UInt8} {S : World → Prop} (hT : sliceOf P T U = true) (hU : u8Ty P U = true) (hx : ρ x = sv) (hy : ρ y = sy) (ho : OwnB U w B sv bs) (hoy : OwnB U w B' sy l) (hB : B ≤ w.heap.size) (hlim : bs.length + l.length ≤ lim)
    (hS : ∀ w', Below B w w' → w.grownBy w' sv.ownBlock → S w → S w') (h : ∀ sv' w', OwnB U w' B sv' (bs ++ l) → Below B w w' → RG P N gs Q S (upd ρ d sv') w') (hxN : x < N := by decide) (hyN : y < N := by decide) (hd : d < N := by decide) : RG P N (⟨i, none, .ap d T T x y⟩ :: gs) Q S ρ w := by
  obtain ⟨sv', w', h1, h2, h3, h4⟩ := run_apOO hT hU ho hoy hB hlim
  subst hx hy
  exact RG.x (MR.apBy (h1 0) h1 hxN hyN) (hS w' h3 h4) (h sv' w' h2 h3) rfl rfl hd
theorem getElem?_take_some {α : Type} {l : List α} {n i : Nat} {x : α} (h : (l.take n)[i]? = some x) : l[i]? = some x := by
  rw [List.getElem?_take] at h
  split at h
  · exact h
  · simp at h
theorem sField_part {ver : Int} {flex : Bool} {t : Tr} {fd : Fd} (h1 : fd.kind = 10) (h2 : 0 ≤ fd.nul) : kField ver flex fd t = if sNull fd.nul ver t.null then fix (-1) 1 else fix 1 1 ++ kPart ver flex fd.sub t := by
  obtain ⟨kind, fr, to, nul, tag, df, of, sub⟩ := fd
  change kind = 10 at h1
  change 0 ≤ nul at h2
  subst h1
  unfold kField
  rw [if_neg (by decide), if_pos ⟨rfl, h2⟩]; rfl
theorem sField_plain {ver : Int} {flex : Bool} {t : Tr} {fd : Fd} (h1 : fd.kind ≠ 11) (h2 : ¬ (fd.kind = 10 ∧ 0 ≤ fd.nul)) : kField ver flex fd t = sVal fd.kind (kPart ver flex fd.sub) (sNull fd.nul ver t.null) flex t := by
  obtain ⟨kind, fr, to, nul, tag, df, of, sub⟩ := fd
  change kind ≠ 11 at h1
  change ¬ (kind = 10 ∧ 0 ≤ nul) at h2
  unfold kField
  rw [if_neg h1, if_neg h2]; rfl
set_option maxHeartbeats 1000000 in
theorem field_of (sp : SPC P S SU) {fd : Fd} (hp : PartC P S SU fd.sub) (hv : ValueC P S SU fd.sub) : FieldC P S SU fd := by
  intro w cf ct t ver flex hfd hrep hgood hlim
  have ok := sp.ok
  have hfd0 := hfd
  have hrep0 := hrep
  obtain ⟨of1, ol1⟩ := hfd.one
  obtain ⟨ot1, tl1⟩ := hrep.one
  obtain ⟨sl, hcf, adF, cF, rfl, hrows⟩ := hfd.cells
  obtain ⟨sS, sL, sU, hct, hn, _, ⟨adL, cL, rfl, hadL, hlL, hL⟩, _⟩ := hrep.cells
  refine sp.field.runs (args := [.agg cf.toArray, .int .i64 ver, .bool flex, .agg ct.toArray]) (by simp) (by omega) ?_
  refine RW.sq (RW.rg (RL.bxA rfl (RL.bxA rfl (RL.step MR.mv (RL.nil ?_)))))
  have r4 : (w.alloc (.cells cf.toArray S.fd)).rangeAt w.heap.size 0 cf := fun j v hj => cell_box w _ S.fd hj
  have hb0 := below_box w (.cells cf.toArray S.fd)
  have hs0 := size_box w (.cells cf.toArray S.fd)
  revert r4 hb0 hs0
  generalize w.alloc (.cells cf.toArray S.fd) = w0
  intro r4 hb0 hs0
  have r7 : (w0.alloc (.cells ct.toArray S.tr)).rangeAt w0.heap.size 0 ct := fun j v hj => cell_box w0 _ S.tr hj
  have hb1 := below_box w0 (.cells ct.toArray S.tr)
  have hs1 := size_box w0 (.cells ct.toArray S.tr)
  have r4' := rangeAt_kp r4 hb1.kp
  revert r7 hb1 hs1 r4'
  generalize w0.alloc (.cells ct.toArray S.tr) = w1
  intro r7 hb1 hs1 r4'
  have hb : Below w.heap.size w w1 := hb0.trans (hb1.mono hb0.size)
  have hB : w.heap.size ≤ w1.heap.size := hb.size
  have f0 := r4' 0 (.int .i64 fd.kind) (by rw [hcf]; rfl)
  have f3 := r4' 3 (.int .i64 fd.nul) (by rw [hcf]; rfl)
  have f6 := r4' 6 (.int .i64 fd.of) (by rw [hcf]; rfl)
  have f7 := r4' 7 (.slice adF fd.sub.toList.length cF) (by rw [hcf]; rfl)
  have t3 := r7 3 (.slice adL t.l.length cL) (by rw [hct]; rfl)
  refine RW.sq (RW.rg (RL.step (MR.ldRow rfl ok.fdR (by rw [ol1]; exact ok.fdN) r4') (RL.step MR.mv (RL.step (MR.ldRow rfl ok.trR (by rw [tl1]; exact ok.trN) r7) ?_))))
  refine RL.ca (R := fun v w' => v = .bool (sNull fd.nul ver t.null) ∧ Below w1.heap.size w1 w') sp.null.1 ?_ ?_
  · refine Calls.mono (sp.null.2 w1 fd t cf ct ver (RepFd.kp hb.kp _ hfd0) (RepTr.kp hb.kp _ hrep0)) ?_
    rintro e w' ⟨rfl, h⟩
    exact ⟨_, rfl, rfl, h⟩
  rintro v w2 ⟨rfl, hb2⟩
  have f0' := hb2.kp _ _ f0
  have f3' := hb2.kp _ _ f3
  have f6' := hb2.kp _ _ f6
  have f7' := hb2.kp _ _ f7
  have t3' := hb2.kp _ _ t3
  have r7' := rangeAt_kp r7 hb2.kp
  have hbw2 : Below w.heap.size w w2 := hb.trans (hb2.mono hB)
  have hrows2 := RowsF.kp hbw2.kp _ hrows
  have hrep2 := RepTr.kp hbw2.kp _ hrep0
  have hB2 : w.heap.size ≤ w2.heap.size := hbw2.size
  repeat first | refine RL.step MR.mv ?_ | refine RL.step (MR.biE rfl) ?_ | refine RL.step (MR.b2 rfl) ?_
  refine RL.nil (RW.sq (RW.sq (RW.rg (RL.step (MR.fa rfl (ok.fdF 0 (by omega))) (RL.step (MR.ld rfl ok.pInt f0') ?_)))))
  repeat first | refine RL.step MR.mv ?_ | refine RL.step (MR.biE rfl) ?_ | refine RL.step (MR.b2 rfl) ?_
  refine RL.nil (rcd (k := fd.kind) (k' := 11) rfl (fun hk => ?_) (fun k11 => RW.sk ?_))
  · -- a list
    have hfld : kField ver flex fd t = sCnt flex (sNull fd.nul ver t.null) (if sNull fd.nul ver t.null then [] else t.l.take most).length 4 ++ (if sNull fd.nul ver t.null then [] else t.l.take most).flatMap (sVal fd.of (kPart ver flex fd.sub) false flex) := by
      cases fd; simp only [Fd.kind] at hk; subst hk; rfl
    rw [hfld] at hlim ⊢
    refine RW.sq (RW.rg (RL.step (MR.fa rfl (ok.trF 3 (by omega))) (RL.step (MR.ld rfl ok.pTrs t3') (RL.ca (R := fun v w' => v = .slice adL (min t.l.length most) cL ∧ w' = w2) sp.things.1 ?_ ?_))))
    · refine Calls.mono (sp.things.2 w2 adL t.l.length cL hadL hlL) ?_
      rintro e w' ⟨rfl, rfl⟩
      exact ⟨_, rfl, rfl, rfl⟩
    rintro v w' ⟨rfl, rfl⟩
    repeat first | refine RL.step MR.mv ?_ | refine RL.step (MR.biE rfl) ?_ | refine RL.step (MR.b2 rfl) ?_
    refine RL.nil (RW.sq (RW.sq (RW.rg ?_)))
    repeat first | refine RL.step MR.mv ?_ | refine RL.step (MR.biE rfl) ?_ | refine RL.step (MR.b2 rfl) ?_
    have fin : ∀ (l : List Tr) (ad' : Option Addr) (c' : Nat) (null : Bool) (ρ : Nat → Value) (Qn : (Nat → Value) → World → Prop), null = sNull fd.nul ver t.null → (if null then [] else t.l.take most) = l → l.length ≤ most → (∀ e ∈ l, goodT SU e) →
        (∀ i e, l[i]? = some e → ∃ g o cs', ad' = some ⟨g, o, none⟩ ∧ w.rangeAt g (o + i * 5) cs' ∧ RepTr w e cs') →
        ρ 10 = .slice ad' l.length c' → ρ 9 = .bool null → ρ 1 = .int .i64 ver → ρ 2 = .bool flex → ρ 4 = .pointer (some ⟨w.heap.size, 0, none⟩) → (sCnt flex null l.length 4 ++ l.flatMap (sVal fd.of (kPart ver flex fd.sub) false flex)).length ≤ lim →
        RW P 76 (.sq (.rg [.mv 24 (.t 2), .mv 25 (.t 9), .mv 26 (.t 10), .ln 27 S.trs 26, .ca 28 S.fCounted [.t 24, .t 25, .t 27, .c (.int .i64 (4))], .mv 11 (.t 28)])
          (.sq (.sq (.rg [.mv 29 (.t 10), .ln 30 S.trs 29, .mv 31 (.c (.int .i64 (0)))])
          (.bl 0 (.lp (.sq (.rg [.bi 32 .lss S.T.int (.t 31) (.t 30)])
          (.sq (.cd 32 (.sk) (.ex 0))
          (.sq (.bl 1 (.sq (.rg [.mv 33 (.t 31), .mv 12 (.t 33)])
          (.gr true [⟨0, none, .mv 34 (.t 11)⟩, ⟨1, none, .fa 35 S.fd 4 6⟩, ⟨2, none, .ld 36 S.T.int 35⟩, ⟨3, none, .fa 37 S.fd 4 7⟩, ⟨4, none, .ld 38 S.fds 37⟩, ⟨5, none, .mv 39 (.t 1)⟩, ⟨6, none, .mv 40 (.t 2)⟩, ⟨7, none, .mv 41 (.t 10)⟩, ⟨8, none, .mv 42 (.t 12)⟩, ⟨9, none, .ia 43 S.trs 41 42⟩, ⟨10, none, .ld 44 S.tr 43⟩, ⟨11, none, .ca 45 S.fValue [.t 36, .t 38, .c (.bool false), .t 39, .t 40, .t 44]⟩, ⟨12, none, .ap 46 S.T.u8s S.T.u8s 34 45⟩, ⟨13, none, .mv 11 (.t 46)⟩])))
          (.rg [.bi 47 .add S.T.int (.t 31) (.c (.int .i64 (1))), .mv 31 (.t 47)])))))))
          (.sq (.rg [.mv 48 (.t 11), .mv 8 (.t 48)])
          (.rt)))) (thenR Qn (retQ 8 fun e w'' => ∃ sv, e = .returned sv ∧ OwnB S.T.u8 w'' w.heap.size sv (sCnt flex null l.length 4 ++ l.flatMap (sVal fd.of (kPart ver flex fd.sub) false flex)) ∧ Below w.heap.size w w'')) ρ w' := by
      intro l ad' c' null ρ Qn hnull hl0 hl hgl hrl h10 h9 h1 h2 h4 hlm
      have hm : l.length ≤ 32767 := hl
      refine RW.knows [(10, .slice ad' l.length c'), (9, .bool null), (1, .int .i64 ver), (2, .bool flex), (4, .pointer (some ⟨w.heap.size, 0, none⟩))] (by simp [h10, h9, h1, h2, h4]) (RW.sq (RW.rg ?_))
      repeat first | refine RL.step MR.mv ?_ | refine RL.step (MR.biE rfl) ?_ | refine RL.step (MR.b2 rfl) ?_
      refine RL.step (MR.ln ok.trs (p := ad') (n := l.length) (c := c') rfl) ?_
      refine RL.caB sp.counted.1 (sp.counted.2 w' flex null l.length 4 (by simp only [most] at hl; omega) (by omega)) rfl fun sv0 w3 o3 b3 => ?_
      repeat first | refine RL.step MR.mv ?_ | refine RL.step (MR.biE rfl) ?_ | refine RL.step (MR.b2 rfl) ?_
      refine RL.nil (RW.sq (RW.sq (RW.rg ?_)))
      repeat first | refine RL.step MR.mv ?_ | refine RL.step (MR.biE rfl) ?_ | refine RL.step (MR.b2 rfl) ?_
      refine RL.step (MR.ln ok.trs (p := ad') (n := l.length) (c := c') rfl) ?_
      repeat first | refine RL.step MR.mv ?_ | refine RL.step (MR.biE rfl) ?_ | refine RL.step (MR.b2 rfl) ?_
      refine RL.nil (RW.bl ?_)
      refine RW.lp (fun ρ w4 => ∃ (i : Nat) (sv : Value) (bs : List UInt8), i ≤ l.length ∧ ρ 1 = .int .i64 ver ∧ ρ 2 = .bool flex ∧ ρ 4 = .pointer (some ⟨w.heap.size, 0, none⟩) ∧ ρ 10 = .slice ad' l.length c' ∧ ρ 11 = sv ∧ ρ 30 = .int .i64 (l.length : Nat) ∧ ρ 31 = .int .i64 (i : Nat) ∧
          OwnB S.T.u8 w4 w'.heap.size sv bs ∧ Below w'.heap.size w' w4 ∧ bs ++ (l.drop i).flatMap (sVal fd.of (kPart ver flex fd.sub) false flex) = sCnt flex null l.length 4 ++ l.flatMap (sVal fd.of (kPart ver flex fd.sub) false flex))
        (fun ρ _ => l.length - (intOf (ρ 31)).toNat) ⟨0, sv0, _, by omega, rfl, rfl, rfl, rfl, rfl, rfl, rfl, o3, b3, rfl⟩ ?_ (fun ρ ρ' w h => by rw [h 31 (by omega)])
      rintro ρ1 w4 ⟨i, sv, bs, hi, h1, h2, h4, h10, h11, h30, h31, ho, hb4, hbs⟩
      refine RW.knows [(1, .int .i64 ver), (2, .bool flex), (4, .pointer (some ⟨w.heap.size, 0, none⟩)), (10, .slice ad' l.length c'), (11, sv), (30, .int .i64 (l.length : Nat)), (31, .int .i64 (i : Nat))] (by simp [h1, h2, h4, h10, h11, h30, h31]) (RW.sq (RW.rg ?_))
      by_cases hlt : i < l.length
      · refine RL.step (MR.biB (p := (i : Int) < (l.length : Int)) rfl (decide_eq_true (by omega))) (RL.nil (RW.sq (RW.cd (b := true) rfl (fun _ => RW.sk ?_) (fun e => by cases e))))
        have hdrop : l.drop i = l[i] :: l.drop (i + 1) := List.drop_eq_getElem_cons hlt
        rw [hdrop, List.flatMap_cons, ← List.append_assoc] at hbs
        have hlen2 := congrArg List.length hbs
        simp only [List.length_append] at hlen2 hlm
        obtain ⟨g, o, cs', rfl, hr', hrt'⟩ := hrl i _ (List.getElem?_eq_getElem hlt)
        obtain ⟨oe1, le1⟩ := hrt'.one
        refine RW.sq (RW.bl (RW.sq (RW.rg ?_)))
        repeat first | refine RL.step MR.mv ?_ | refine RL.step (MR.biE rfl) ?_ | refine RL.step (MR.b2 rfl) ?_
        refine RL.nil (RW.gd ok.mo (Below w'.heap.size w4) (below_drew1 _ _) ?_)
        have b24 : ∀ {w5 : World}, Below w'.heap.size w4 w5 → Kp w' w5 := fun hS => (hb4.trans hS).kp
        repeat first | refine RG.q (fun _ _ => MR.mv) ?_ | refine RG.q (fun _ _ => MR.biE rfl) ?_ | refine RG.q (fun _ _ => MR.pk rfl) ?_ | refine RG.no (by first | exact ⟨by decide, .inl rfl⟩ | exact ⟨by decide, .inr ⟨rfl, rfl⟩⟩) ?_
        refine RG.q (fun _ _ => MR.fa rfl (ok.fdF 6 (by omega))) (RG.q (fun w5 hS => MR.ld rfl ok.pInt (b24 hS _ _ f6')) (RG.q (fun _ _ => MR.fa rfl (ok.fdF 7 (by omega))) (RG.q (fun w5 hS => MR.ld rfl ok.pFds (b24 hS _ _ f7')) ?_)))
        repeat first | refine RG.q (fun _ _ => MR.mv) ?_ | refine RG.q (fun _ _ => MR.biE rfl) ?_ | refine RG.q (fun _ _ => MR.pk rfl) ?_ | refine RG.no (by first | exact ⟨by decide, .inl rfl⟩ | exact ⟨by decide, .inr ⟨rfl, rfl⟩⟩) ?_
        refine RG.q (fun _ _ => MR.ia (k := .i64) ok.trs ok.trN rfl rfl hlt) (RG.q (fun w5 hS => MR.ldRow (cs := cs') rfl ok.trR (by rw [le1]; exact ok.trN) (rangeAt_kp hr' (hbw2.kp.trans (b24 hS)))) ?_)
        have k4 : Kp w (World.drew1 w4) := hbw2.kp.trans (hb4.kp.trans (drew1_kp w4))
        refine RG.caB sp.value.ent (hv (World.drew1 w4) adF cF l[i] cs' fd.of ver false flex (RowsF.kp k4 _ hrows) (RepTr.kp k4 _ hrt') (hgl _ (List.getElem_mem hlt)) (by omega)) rfl (fun w5 h5 hS => hS.trans (h5.mono hb4.size)) fun sv5 w5 o5 b5 => ?_
        have b45 : Below w4.heap.size w4 w5 := (below_drew1 w4 w4.heap.size).trans b5
        refine RG.apOO (B := w'.heap.size) (bs := bs) (l := sVal fd.of (kPart ver flex fd.sub) false flex l[i]) ok.tk.u8s ok.tk.u8 rfl rfl (ho.keep b45) o5 (Nat.le_trans hb4.size b45.size) (by omega) (fun w6 h6 _ hS => hS.trans h6) fun sv6 w6 o6 b6 => ?_
        repeat first | refine RG.q (fun _ _ => MR.mv) ?_ | refine RG.q (fun _ _ => MR.biE rfl) ?_ | refine RG.q (fun _ _ => MR.pk rfl) ?_ | refine RG.no (by first | exact ⟨by decide, .inl rfl⟩ | exact ⟨by decide, .inr ⟨rfl, rfl⟩⟩) ?_
        refine RG.nil fun hS => RW.rg ?_
        repeat first | refine RL.step MR.mv ?_ | refine RL.step (MR.biE rfl) ?_ | refine RL.step (MR.b2 rfl) ?_
        refine RL.nil ⟨⟨i + 1, sv6, _, hlt, rfl, rfl, rfl, rfl, rfl, rfl, ?_, o6, hb4.trans hS, hbs⟩, ?_⟩
        · show Value.int .i64 (IntKind.i64.wrap ((i : Int) + 1)) = _
          rw [wrap_i64 (by omega) (by omega)]; rfl
        · show l.length - (IntKind.i64.wrap ((i : Int) + 1)).toNat < l.length - (intOf (ρ1 31)).toNat
          rw [h31, wrap_i64 (by omega) (by omega)]; simp only [intOf]; omega
      · refine RL.step (MR.biB (p := (i : Int) < (l.length : Int)) rfl (decide_eq_false (by omega))) (RL.nil (RW.sq (RW.cd (b := false) rfl (fun e => by cases e) (fun _ => RW.ex ?_))))
        refine RW.sq (RW.rg ?_)
        repeat first | refine RL.step MR.mv ?_ | refine RL.step (MR.biE rfl) ?_ | refine RL.step (MR.b2 rfl) ?_
        refine RL.nil (RW.rt ⟨sv, rfl, ?_, hbw2.trans (hb4.mono hB2)⟩)
        have : l.drop i = [] := List.drop_eq_nil_of_le (by omega)
        rw [this, List.flatMap_nil, List.append_nil] at hbs
        rw [← hbs]; exact ho.rebase hB2
    have hall : ∀ e ∈ t.l.take most, goodT SU e := fun e he => hgood.mem (List.mem_of_mem_take he)
    cases hnul : sNull fd.nul ver t.null
    · rw [hnul] at hlim
      refine RL.nil (RW.cd (b := false) rfl (fun e => by cases e) (fun _ => RW.sk ?_))
      exact fin (t.l.take most) adL cL false _ _ hnul.symm rfl (List.length_take_le _ _) hall (fun i e he => hL i e (getElem?_take_some he)) (by show Value.slice adL (min t.l.length most) cL = _; rw [List.length_take, Nat.min_comm]) rfl rfl rfl rfl hlim
    · rw [hnul] at hlim
      refine RL.nil (RW.cd (b := true) rfl (fun _ => RW.rg (RL.step MR.mv (RL.nil ?_))) (fun e => by cases e))
      exact fin [] none 0 true _ _ hnul.symm rfl (by simp) (by simp) (fun i e he => by simp at he) rfl rfl rfl rfl rfl hlim
  · -- a part that may be null, or a plain value
    have hpart : fd.kind = 10 ∧ 0 ≤ fd.nul → kField ver flex fd t = if sNull fd.nul ver t.null then fix (-1) 1 else fix 1 1 ++ kPart ver flex fd.sub t := fun h => sField_part h.1 h.2
    have hplain : ¬ (fd.kind = 10 ∧ 0 ≤ fd.nul) → kField ver flex fd t = sVal fd.kind (kPart ver flex fd.sub) (sNull fd.nul ver t.null) flex t := fun h => sField_plain k11 h
    have valArm : ∀ (ρ : Nat → Value), ¬ (fd.kind = 10 ∧ 0 ≤ fd.nul) → ρ 4 = .pointer (some ⟨w.heap.size, 0, none⟩) → ρ 7 = .pointer (some ⟨w0.heap.size, 0, none⟩) → ρ 9 = .bool (sNull fd.nul ver t.null) → ρ 1 = .int .i64 ver → ρ 2 = .bool flex →
        RW P 76 (.sq (.rg [.fa 67 S.fd 4 0, .ld 68 S.T.int 67, .fa 69 S.fd 4 7, .ld 70 S.fds 69, .mv 71 (.t 9), .mv 72 (.t 1), .mv 73 (.t 2), .ld 74 S.tr 7, .ca 75 S.fValue [.t 68, .t 70, .t 71, .t 72, .t 73, .t 74], .mv 8 (.t 75)]) .rt)
          (retQ 8 fun e w'' => ∃ sv, e = .returned sv ∧ OwnB S.T.u8 w'' w.heap.size sv (kField ver flex fd t) ∧ Below w.heap.size w w'') ρ w2 := by
      intro ρ hne h4 h7 h9 h1 h2
      rw [hplain hne] at hlim ⊢
      refine RW.knows [(4, .pointer (some ⟨w.heap.size, 0, none⟩)), (7, .pointer (some ⟨w0.heap.size, 0, none⟩)), (9, .bool (sNull fd.nul ver t.null)), (1, .int .i64 ver), (2, .bool flex)] (by simp [h4, h7, h9, h1, h2]) (RW.sq (RW.rg ?_))
      refine RL.step (MR.fa rfl (ok.fdF 0 (by omega))) (RL.step (MR.ld rfl ok.pInt f0') (RL.step (MR.fa rfl (ok.fdF 7 (by omega))) (RL.step (MR.ld rfl ok.pFds f7') ?_)))
      repeat first | refine RL.step MR.mv ?_ | refine RL.step (MR.biE rfl) ?_ | refine RL.step (MR.b2 rfl) ?_
      refine RL.step (MR.ldRow (cs := ct) rfl ok.trR (by rw [tl1]; exact ok.trN) r7') ?_
      refine RL.caB sp.value.ent (hv w2 adF cF t ct fd.kind ver (sNull fd.nul ver t.null) flex hrows2 hrep2 hgood hlim) rfl fun sv w3 o b => ?_
      repeat first | refine RL.step MR.mv ?_ | refine RL.step (MR.biE rfl) ?_ | refine RL.step (MR.b2 rfl) ?_
      exact RL.nil (RW.rt ⟨sv, rfl, o.rebase hB2, hbw2.trans (b.mono hB2)⟩)
    refine RW.sq (RW.sq (RW.gf (Kp w2) (Kp.refl _) ?_))
    refine RG.q (fun _ _ => MR.fa rfl (ok.fdF 0 (by omega))) (RG.q (fun w' hS => MR.ld rfl ok.pInt (hS _ _ f0')) ?_)
    by_cases k10 : fd.kind = 10
    · refine RG.q (fun _ _ => MR.biE (v := .bool true) (by show some (Value.bool (fd.kind == 10)) = _; rw [k10]; rfl)) (RG.q (fun _ _ => MR.mv) ?_)
      refine RG.q (fun _ _ => MR.fa rfl (ok.fdF 3 (by omega))) (RG.q (fun w' hS => MR.ld rfl ok.pInt (hS _ _ f3')) ?_)
      by_cases hn0 : 0 ≤ fd.nul
      · refine RG.q (fun _ _ => MR.biB (p := 0 ≤ fd.nul) rfl (decide_eq_true hn0)) ?_
        repeat first | refine RG.q (fun _ _ => MR.mv) ?_ | refine RG.q (fun _ _ => MR.biE rfl) ?_ | refine RG.q (fun _ _ => MR.pk rfl) ?_ | refine RG.no (by first | exact ⟨by decide, .inl rfl⟩ | exact ⟨by decide, .inr ⟨rfl, rfl⟩⟩) ?_
        refine RG.nil fun _ => RW.cd (b := true) rfl (fun _ => ?_) (fun e => by cases e)
        rw [hpart ⟨k10, hn0⟩] at hlim ⊢
        refine RW.sq (RW.sq (RW.rg ?_))
        repeat first | refine RL.step MR.mv ?_ | refine RL.step (MR.biE rfl) ?_ | refine RL.step (MR.b2 rfl) ?_
        cases hnul : sNull fd.nul ver t.null
        · rw [hnul] at hlim
          simp only [Bool.false_eq_true, if_false, List.length_append] at hlim ⊢
          refine RL.nil (RW.cd (b := false) rfl (fun e => by cases e) (fun _ => RW.sk ?_))
          refine RW.sq (RW.gd ok.mo (Below w2.heap.size w2) (below_drew1 _ _) ?_)
          refine RG.q (fun _ _ => MR.fa rfl (ok.fdF 7 (by omega))) (RG.q (fun w' hS => MR.ld rfl ok.pFds (hS.kp _ _ f7')) ?_)
          repeat first | refine RG.q (fun _ _ => MR.mv) ?_ | refine RG.q (fun _ _ => MR.biE rfl) ?_ | refine RG.q (fun _ _ => MR.pk rfl) ?_ | refine RG.no (by first | exact ⟨by decide, .inl rfl⟩ | exact ⟨by decide, .inr ⟨rfl, rfl⟩⟩) ?_
          refine RG.q (fun w' hS => MR.ldRow (cs := ct) rfl ok.trR (by rw [tl1]; exact ok.trN) (rangeAt_kp r7' hS.kp)) ?_
          refine RG.caB sp.fixed.1 (sp.fixed.2 (World.drew1 w2) 1 1 (by omega)) rfl (fun w5 h5 hS => hS.trans h5) fun sv5 w5 o5 b5 => ?_
          have b25 : Below w2.heap.size w2 w5 := (below_drew1 w2 _).trans b5
          refine RG.caB sp.part.ent (hp w5 adF cF t ct ver flex (RowsF.kp b25.kp _ hrows2) (RepTr.kp b25.kp _ hrep2) hgood (by omega)) rfl (fun w6 h6 hS => hS.trans (h6.mono b25.size)) fun sv6 w6 o6 b6 => ?_
          refine RG.apOO (B := w2.heap.size) (bs := fix 1 1) (l := kPart ver flex fd.sub t) ok.tk.u8s ok.tk.u8 rfl rfl (o5.keep b6) o6 (Nat.le_trans b25.size b6.size) hlim (fun w7 h7 _ hS => hS.trans h7) fun sv7 w7 o7 b7 => ?_
          repeat first | refine RG.q (fun _ _ => MR.mv) ?_ | refine RG.q (fun _ _ => MR.biE rfl) ?_ | refine RG.q (fun _ _ => MR.pk rfl) ?_ | refine RG.no (by first | exact ⟨by decide, .inl rfl⟩ | exact ⟨by decide, .inr ⟨rfl, rfl⟩⟩) ?_
          exact RG.nil fun hS => RW.rt ⟨sv7, rfl, o7.rebase hB2, hbw2.trans (hS.mono hB2)⟩
        · simp only [if_true]
          refine RL.nil (RW.cd (b := true) rfl (fun _ => RW.sq (RW.rg ?_)) (fun e => by cases e))
          refine RL.caB sp.fixed.1 (sp.fixed.2 w2 (-1) 1 (by omega)) rfl fun sv w3 o b => ?_
          repeat first | refine RL.step MR.mv ?_ | refine RL.step (MR.biE rfl) ?_ | refine RL.step (MR.b2 rfl) ?_
          exact RL.nil (RW.rt ⟨sv, rfl, o.rebase hB2, hbw2.trans (b.mono hB2)⟩)
      · refine RG.q (fun _ _ => MR.biB (p := 0 ≤ fd.nul) rfl (decide_eq_false hn0)) ?_
        repeat first | refine RG.q (fun _ _ => MR.mv) ?_ | refine RG.q (fun _ _ => MR.biE rfl) ?_ | refine RG.q (fun _ _ => MR.pk rfl) ?_ | refine RG.no (by first | exact ⟨by decide, .inl rfl⟩ | exact ⟨by decide, .inr ⟨rfl, rfl⟩⟩) ?_
        exact RG.nil fun _ => RW.cd (b := false) rfl (fun e => by cases e) (fun _ => RW.sk (valArm _ (fun h => hn0 h.2) rfl rfl rfl rfl rfl))
    · refine RG.q (fun _ _ => MR.biE (v := .bool false) (by show some (Value.bool (fd.kind == 10)) = _; rw [beq_eq_false_iff_ne.2 k10])) (RG.q (fun _ _ => MR.mv) ?_)
      repeat first | refine RG.q (fun _ _ => MR.mv) ?_ | refine RG.q (fun _ _ => MR.biE rfl) ?_ | refine RG.q (fun _ _ => MR.pk rfl) ?_ | refine RG.no (by first | exact ⟨by decide, .inl rfl⟩ | exact ⟨by decide, .inr ⟨rfl, rfl⟩⟩) ?_
      exact RG.nil fun _ => RW.cd (b := false) rfl (fun e => by cases e) (fun _ => RW.sk (valArm _ (fun h => k10 h.1) rfl rfl rfl rfl rfl))
end
end Go.Kx
