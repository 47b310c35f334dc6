/- spec.unknown, whole (UnkC of keys that fit). Conditions: the program's tables (SOK), known's contract.
   spec.unknown, whole (UnkC of whatever keys). Conditions: the program's tables (SOK), known's contract.
   The laws' zzFits2, zzFits3, zzFits4: they yield a truth value. Conditions: the program's tables (SOK).
   The laws FnAgain..: the law's own code.
   The laws FnCut..: the law's own code.
   Each's order: the closure that compares two keys. Conditions: the program's tables.
   The laws FnAny..: the law's own code.
   The reference's functions over trees with tags. The reader's octets: sixteen of them, texts of octets. Conditions: the program's tables (ROK).
   The reader's contracts, as one test of the program.
   The reader's contracts, all of them, out of one test of the program.
   sort.Slice at a slice of keys, from the shelf's contracts (hbig, htiny: given where the shelf's text is laid), the closure's code. -/
import Derived.Test.YtpaoaobmaimibaaGreatDoorKxM
import Derived.Shelf.GgSortFunc.Whole
import Derived.Shelf.GgSortFunc.Tiny
namespace Go.Kx
open Go.RowKit
set_option linter.unusedSimpArgs false
set_option linter.unusedVariables false
section
variable {P : Program} {S : SN} {w w' w0 : World} {Q : Exit → (Nat → Value) → World → Prop} {ρ : Nat → Value}
theorem TagRow.keep {cs : List Value} {t : Tg} (h : TagRow w cs t) (hb : Below w.heap.size w w') : TagRow w' cs t := by
  obtain ⟨e3, ad', c', e4, e5, e6, e7⟩ := h
  exact ⟨e3, ad', c', e4, e5, e6, e7.kp hb.kp⟩
theorem TagRow.two {cs : List Value} {t : Tg} (h : TagRow w cs t) : cs.length = 2 ∧ cs.all (·.oneCell') = true := by
  obtain ⟨_, ad, c, rfl, _⟩ := h
  exact ⟨rfl, rfl⟩
theorem OutR.tags {T : List Value → Tg → Prop} (hT : ∀ cs t, T cs t → TagRow w0 cs t) {sv : Value} {out : List Tg} (h : OutR S T w0 w sv out) (hb : Below w0.heap.size w0 w) : TagsS w sv out := by
  rcases h with ⟨rfl, rfl⟩ | ⟨g, cap, cur, rfl, h1, h2, h0, h3, h4, h5, h6⟩
  · exact ⟨none, 0, rfl, .inl rfl, Nat.le_refl _, fun i t h => by simp at h⟩
  · refine ⟨_, cap, rfl, .inr (.inr ⟨g, 0, rfl⟩), h3, fun i t hi => ?_⟩
    obtain ⟨cs, a1, a2⟩ := h6 i t hi
    exact ⟨g, 0, cs, rfl, by rw [Nat.zero_add]; exact a1, (hT _ _ a2).keep hb⟩
theorem OutR.keep {T : List Value → Tg → Prop} {sv : Value} {out : List Tg} (h : OutR S T w0 w sv out) (hh : ∀ k, k < w.heap.size → w'.heap[k]? = w.heap[k]?) : OutR S T w0 w' sv out := by
  rcases h with h | ⟨g, cap, cur, rfl, h1, h2, h0, h3, h4, h5, h6⟩
  · exact .inl h
  · have hg : w'.heap[g]? = w.heap[g]? := hh g (Array.getElem?_eq_some_iff.1 h2).1
    refine .inr ⟨g, cap, cur, rfl, h1, by rw [hg]; exact h2, h0, h3, h4, h5, fun i t hi => ?_⟩
    obtain ⟨cs, a1, a2⟩ := h6 i t hi
    exact ⟨cs, range_keep a1 hg, a2⟩
theorem set_shape {g T : Nat} {fr : Nat × Nat} : ∀ (vs : List Value) (o : Nat) (w : World) (cur : Array Value), w.heap[g]? = some (.cells cur T fr) → ∃ cur', (w.setCells g o vs).heap[g]? = some (.cells cur' T fr) ∧ cur'.size = cur.size
  | [], o, w, cur, h => ⟨cur, h, rfl⟩
  | v :: vs, o, w, cur, h => by
    have h1 : (w.setCell ⟨g, o, none⟩ v).heap[g]? = some (.cells (cur.setIfInBounds o v) T fr) := by
      simp only [World.setCell]
      rw [Array.getElem?_modify, if_pos rfl, h]
      simp
    obtain ⟨cur', h2, h3⟩ := set_shape vs (o + 1) _ _ h1
    exact ⟨cur', h2, by rw [h3]; simp⟩
theorem run_bslTg (ok : SOK P S) {cs : List Value} (hl : cs.length = 2) : (Instr.buildSlice S.tgs 1 #[(0, .agg cs.toArray)]).run P w = .ok (.slice (some ⟨w.heap.size, 0, none⟩) 1 1) (w.alloc (.cells cs.toArray S.tg)) := by
  obtain ⟨i, hi, hz⟩ := ok.zTg
  have hsz : i.size = 2 := by have := ok.tgN; simp [cellsB, hi] at this; exact this
  refine run_buildSlice w S.tgs S.tg 1 _ _ i _ (sliceOf_eq ok.tgs) hi hz (by rw [hsz]; decide) (by rw [hsz]; decide) ?_
  match cs, hl with
  | [a, b], _ =>
    simp only [Instr.fill, hsz]
    rw [if_neg (by simp [Value.cells])]
    simp [Value.cells, Array.zipIdx, Array.range]
    rfl
theorem RL.rowTH {N d1 d2 d x i g o : Nat} {ms : List MOp} {n c : Nat} {cs : List Value} {t : Tg} {k : Nat} (ok : SOK P S) (hx : ρ x = .slice (some ⟨g, o, none⟩) n c) (hi : ρ i = .int .i64 (k : Nat)) (hk : k < n)
    (hr : w.rangeAt g (o + k * 2) cs) (hf : TagRow w cs t) (hd1 : d1 ≠ d2) (hd2 : d2 ≠ d)
    (h : ∀ p w', Below w.heap.size w w' → w'.heap.size = w.heap.size + 1 → w'.rangeAt w.heap.size 0 cs → (∃ ck, w'.heap[w.heap.size]? = some (.cells ck S.tg (0, 0)) ∧ ck.size = 2) → RL P N ms Q (upd (upd (upd ρ d1 p) d2 (.agg cs.toArray)) d (.pointer (some ⟨w.heap.size, 0, none⟩))) w')
    (hxN : x < N := by decide) (hiN : i < N := by decide) (h1N : d1 < N := by decide) (h2N : d2 < N := by decide) (hdN : d < N := by decide) : RL P N (.ia d1 S.tgs x i :: .ld d2 S.tg d1 :: .al d S.tg :: .st S.tg d d2 :: ms) Q ρ w := by
  obtain ⟨l1, o1⟩ := hf.two
  obtain ⟨zi, hzi, hzv⟩ := ok.zTg
  refine RL.step (MR.ia (k := .i64) ok.tgs ok.tgN hx hi hk hxN hiN) (RL.step (MR.ldRow (upd_same _ _ _) ok.tgR (by rw [l1]; exact ok.tgN) hr h1N) (RL.step (MR.al ⟨zi, hzi, hzv⟩) ?_ hdN) h2N) h1N
  have ht : (w.alloc (.cells [Value.int .u32 0, .slice none 0 0].toArray S.tg)).there w.heap.size 0 cs.length := by rw [l1]; exact there_box w [.int .u32 0, .slice none 0 0] S.tg
  refine RL.stA (cs := cs) (upd_same _ _ _) (by rw [upd_ne _ _ hd2, upd_same]) (by rw [l1]; exact ok.tgN) ht o1 ?_ hdN h2N
  refine h _ _ ?_ ?_ ?_ ?_
  · exact below_setCells (Nat.le_refl _) _ _ (below_box w _)
  · rw [size_setCells]; exact size_box w _
  · exact World.rangeAt_setCells_same _ _ _ _ ht
  · obtain ⟨ck, a1, a2⟩ := set_shape cs 0 (w.alloc (.cells [Value.int .u32 0, .slice none 0 0].toArray S.tg)) [Value.int .u32 0, .slice none 0 0].toArray (heap_alloc_new w _)
    exact ⟨ck, a1, by rw [a2]; rfl⟩
def zTagC : List Value := [.int .u32 0, .slice none 0 0]
theorem run_apTg {T : List Value → Tg → Prop} (hT : ∀ cs t, T cs t → TagRow w0 cs t) (ok : SOK P S) (hby : bytesLe P S.tg 1000 = true) {h c : Nat} {sv : Value} {out : List Tg} (ho : OutR S T w0 w sv out) (hc : w.rangeAt h 0 zTagC) (hn : out.length < 1000000) (hB : w0.heap.size ≤ w.heap.size) :
    ∃ g cap w' cur, (∀ ty, (Builtin.append_ #[S.tgs, S.tgs] ty #[sv, .slice (some ⟨h, 0, none⟩) 1 c]).run P w = .ok (.slice (some ⟨g, 0, none⟩) (out.length + 1) cap) w') ∧ w0.heap.size ≤ g ∧ w'.heap[g]? = some (.cells cur S.tg (0, 0)) ∧ out.length + 1 ≤ cap ∧ cap ≤ maxLen ∧ cur.size = cap * 2 ∧
      (∀ i t, out[i]? = some t → ∃ cs, w'.rangeAt g (i * 2) cs ∧ T cs t) ∧ Below w0.heap.size w w' ∧ w'.there g 0 ((out.length + 1) * 2) ∧ Gr w w' sv ∧ (∀ k ck, k < w.heap.size → some k ≠ sv.ownBlock → w.heap[k]? = some (.cells ck S.tg (0, 0)) → ck.size = 2 → k ≠ g) := by
  obtain ⟨i, hi, hz⟩ := ok.zTg
  have hsz : i.size = 2 := by have := ok.tgN; simp [cellsB, hi] at this; exact this
  have hbb : i.bytes ≤ 1000 := by simp [bytesLe, hi] at hby; exact hby
  have hb2 : (out.length + 1) * i.bytes ≤ 1000000 * 1000 := Nat.mul_le_mul (by omega) hbb
  obtain ⟨b0, xs, hown, hb0, hb1, hcase, hxs⟩ : ∃ b0 xs, w.ownsRow b0 S.tg 2 sv out.length xs ∧ w0.heap.size ≤ b0 ∧ b0 ≤ w.heap.size ∧ (w.heap.size ≤ b0 ∨ 1 ≤ out.length) ∧ ∀ j t, out[j]? = some t → ∃ cs, T cs t ∧ ∀ k u, cs[k]? = some u → xs[j * 2 + k]? = some u := by
    rcases ho with ⟨rfl, rfl⟩ | ⟨g, cap, cur, rfl, h1, h2, h0, h3, h4, h5, h6⟩
    · exact ⟨w.heap.size, [], World.ownsRow_nil _ _ _ _, hB, Nat.le_refl _, .inl (Nat.le_refl _), fun j t h => by simp at h⟩
    · refine ⟨w0.heap.size, cur.toList.take (out.length * 2), ⟨by rw [List.length_take, show cur.toList.length = cap * 2 from by rw [Array.length_toList]; exact h5]; omega, .inr ⟨g, cap, cur, rfl, h1, h2, h3, h4, h5, rfl⟩⟩, Nat.le_refl _, hB, .inr h0, fun j t hj => ?_⟩
      obtain ⟨cs, a1, a2⟩ := h6 j t hj
      refine ⟨cs, a2, fun k u hk => ?_⟩
      have hj' := (List.getElem?_eq_some_iff.1 hj).1
      have hk' := (List.getElem?_eq_some_iff.1 hk).1
      rw [(hT _ _ a2).two.1] at hk'
      have := a1 k u hk
      rw [cell_of_row w g (j * 2 + k) cur S.tg (0, 0) h2] at this
      rw [List.getElem?_take, if_pos (by omega)]
      simpa using this
  have hnews : ∀ j u, zTagC[j]? = some u → w.cell? ((⟨h, 0, none⟩ : Addr).add j) = some u := fun j u hu => by rw [Addr.add_mid]; exact hc j u hu
  obtain ⟨v', w', g1, g2, g3, g4⟩ := run_append_own (P := P) w b0 S.tgs 0 S.tg i _ 2 i.bytes (sliceOf_eq ok.tgs) hi hz hsz rfl rfl (by omega) sv out.length xs hown ⟨h, 0, none⟩ 1 c zTagC rfl
    hnews (by intro u hu; simp only [zTagC, List.mem_cons, List.not_mem_nil, or_false] at hu; rcases hu with rfl | rfl <;> rfl) (by simp only [maxLen]; omega) (by omega) hb1
  have hbase : ∀ k, sv.ownBlock = some k → w0.heap.size ≤ k := fun k hk => Nat.le_trans hb0 (World.ownsRow.lt hown k hk).1
  rcases g2.2 with ⟨_, h0⟩ | ⟨g, cap, cur, rfl, e1, e2, e3, e4, e5, e6⟩
  · omega
  refine ⟨g, cap, w', cur, fun ty => g1, Nat.le_trans hb0 e1, e2, e3, e4, e5, fun j t hj => ?_, (Below.refl _ _).grown g3 hB hbase, cells_there e2 (by rw [e5]; exact Nat.mul_le_mul_right _ e3), fun k hk hne => g3.block k hk hne, fun k ck hk hne hck h2 => ?_⟩
  rotate_left
  · rintro rfl
    rcases hcase with h | h
    · omega
    · have := g3.block k hk hne
      rw [e2, hck] at this
      simp only [Option.some.injEq, Obj.cells.injEq, and_true] at this
      rw [this, h2] at e5
      omega
  obtain ⟨cs, a1, a2⟩ := hxs j t hj
  refine ⟨cs, fun k u hk => ?_, a1⟩
  have hx := a2 k u hk
  have hxl := (List.getElem?_eq_some_iff.1 hx).1
  rw [cell_of_row w' g (j * 2 + k) cur S.tg (0, 0) e2]
  have e7 : (cur.toList.take ((out.length + 1) * 2))[j * 2 + k]? = some u := by rw [e6, List.getElem?_append_left hxl]; exact hx
  rw [List.getElem?_take] at e7
  split at e7
  · simpa using e7
  · simp at e7
theorem unk_put {T : List Value → Tg → Prop} (hT : ∀ cs t, T cs t → TagRow w0 cs t) (ok : SOK P S) {g cap i tb : Nat} {cur : Array Value} {cst : List Value} {out : List Tg} {t : Tg} (hi : i ≤ out.length) (hlen : out.length < 1000000) (hg : w0.heap.size ≤ g) (hsh : w.heap[g]? = some (.cells cur S.tg (0, 0))) (hcap : out.length + 1 ≤ cap) (hcm : cap ≤ maxLen) (hcs : cur.size = cap * 2)
    (hrows : ∀ i t, out[i]? = some t → ∃ cs, w.rangeAt g (i * 2) cs ∧ T cs t) (hth : w.there g 0 ((out.length + 1) * 2)) (htb : w.rangeAt tb 0 cst) (htr : T cst t) (hne : tb ≠ g) (hB : Below w0.heap.size w0 w)
    (r6 : ρ 6 = .slice (some ⟨g, 0, none⟩) (out.length + 1) cap) (r8 : ρ 8 = .pointer (some ⟨tb, 0, none⟩)) (r9 : ρ 9 = .int .i64 (i : Nat))
    (hQ : ∀ ρ' w', (∀ s, s < 23 → s ≠ 10 → ρ' s = ρ s) → OutR S T w0 w' (.slice (some ⟨g, 0, none⟩) (out.length + 1) cap) (out.take i ++ t :: out.drop i) → Below w0.heap.size w0 w' → Q .normal ρ' w') :
    RW P 85 (.sq (.sq (.rg [.mv 63 (.t 6), .ln 64 S.tgs 63, .bi 65 .sub S.T.int (.t 64) (.c (.int .i64 (1))), .mv 10 (.t 65)])
      (.bl 4 (.lp (.sq (.sq (.rg [.mv 66 (.t 10), .mv 67 (.t 9), .bi 68 .gtr S.T.int (.t 66) (.t 67)]) (.cd 68 (.sk) (.ex 4)))
        (.sq (.bl 5 (.rg [.mv 71 (.t 6), .mv 72 (.t 10), .mv 73 (.t 6), .mv 74 (.t 10), .bi 75 .sub S.T.int (.t 74) (.c (.int .i64 (1))), .ia 76 S.tgs 73 75, .ld 77 S.tg 76, .ia 78 S.tgs 71 72, .st S.tg 78 77]))
          (.rg [.mv 69 (.t 10), .bi 70 .sub S.T.int (.t 69) (.c (.int .i64 (1))), .mv 10 (.t 70)]))))))
      (.rg [.mv 79 (.t 6), .mv 80 (.t 9), .ld 81 S.tg 8, .ia 82 S.tgs 79 80, .st S.tg 82 81])) Q ρ w := by
  have hex : ∀ k, ∃ cs, ∀ x, out[k]? = some x → w.rangeAt g (k * 2) cs ∧ T cs x := fun k => by
    cases hk : out[k]? with
    | none => exact ⟨[], by simp⟩
    | some x =>
      obtain ⟨cs, h⟩ := hrows k x hk
      exact ⟨cs, fun y hy => by cases hy; exact h⟩
  obtain ⟨C, hC⟩ : ∃ C : Nat → List Value, ∀ k x, out[k]? = some x → w.rangeAt g (k * 2) (C k) ∧ T (C k) x := ⟨fun k => (hex k).choose, fun k x hx => (hex k).choose_spec x hx⟩
  have hrow : ∀ k, k < out.length → ∃ x, out[k]? = some x ∧ w.rangeAt g (k * 2) (C k) ∧ T (C k) x := fun k hk => ⟨_, List.getElem?_eq_getElem hk, hC k _ (List.getElem?_eq_getElem hk)⟩
  refine RW.sq (RW.sq (RW.rg (RL.step (MR.mv r6) (RL.step (MR.ln ok.tgs rfl) (RL.step (MR.biE (v := .int .i64 (out.length : Nat)) (by show some (Value.int .i64 (IntKind.i64.wrap (((out.length + 1 : Nat) : Int) - 1))) = _; rw [show (((out.length + 1 : Nat) : Int) - 1) = (out.length : Nat) from by omega, wrap_i64 (by omega) (by omega)])) (RL.step MR.mv (RL.nil (RW.bl ?_))))))))
  refine RW.lp (fun ρ' w' => ∃ j : Nat, i ≤ j ∧ j ≤ out.length ∧ (∀ s, s < 23 → s ≠ 10 → ρ' s = ρ s) ∧ ρ' 10 = .int .i64 (j : Nat) ∧ Fr (fun _ => False) g 0 ((out.length + 1) * 2) w w' ∧ (∃ cur', w'.heap[g]? = some (.cells cur' S.tg (0, 0)) ∧ cur'.size = cap * 2) ∧
      (∀ k, k < j → k < out.length → w'.rangeAt g (k * 2) (C k)) ∧ (∀ k, j ≤ k → k < out.length → w'.rangeAt g ((k + 1) * 2) (C k)))
    (fun ρ' _ => (intOf (ρ' 10)).toNat) ⟨out.length, hi, Nat.le_refl _, fun s hs h10 => by (repeat (first | rw [upd_same] | rw [upd_ne _ _ (by omega)])), rfl, Fr.refl _ _ _ _ _, ⟨cur, hsh, hcs⟩, fun k _ hk => (hrow k hk).elim fun x hx => hx.2.1, fun k h1 h2 => by omega⟩ ?_ (fun ρ1 ρ2 w1 h => by rw [h 10 (by omega)])
  rintro ρ1 w1 ⟨j, hij, hjn, q, q10, hF, ⟨cur1, hs1, hs2⟩, hlo, hhi⟩
  have q6 : ρ1 6 = .slice (some ⟨g, 0, none⟩) (out.length + 1) cap := by rw [q 6 (by omega) (by omega)]; exact r6
  have q8 : ρ1 8 = .pointer (some ⟨tb, 0, none⟩) := by rw [q 8 (by omega) (by omega)]; exact r8
  have q9 : ρ1 9 = .int .i64 (i : Nat) := by rw [q 9 (by omega) (by omega)]; exact r9
  have hth1 : w1.there g 0 ((out.length + 1) * 2) := hF.there _ _ hth
  refine RW.sq (RW.sq (RW.rg (RL.step (MR.mv q10) (RL.step (MR.mv (v := .int .i64 (i : Nat)) (by show upd _ _ _ 9 = _; (repeat (first | rw [upd_same] | rw [upd_ne _ _ (by omega)])); exact q9)) (RL.step (MR.biE (v := .bool (decide ((i : Int) < (j : Nat)))) rfl) (RL.nil ?_))))))
  refine RW.cd rfl (fun e => RW.sk ?_) (fun e => RW.ex ?_)
  · have e : i < j := by have := of_decide_eq_true e; omega
    obtain ⟨j, rfl⟩ : ∃ k, j = k + 1 := ⟨j - 1, by omega⟩
    obtain ⟨x, hx1, hx2, hx3⟩ := hrow j (by omega)
    have hrj := hlo j (by omega) (by omega)
    have l2 := (hT _ _ hx3).two
    have htj : w1.there g (0 + (j + 1) * 2) 2 := there_in hth1 (by omega)
    show RW P 85 _ _ _ w1
    refine RW.sq (RW.bl (RW.rg (RL.step (MR.mv (v := .slice (some ⟨g, 0, none⟩) (out.length + 1) cap) (by show upd _ _ _ 6 = _; (repeat (first | rw [upd_same] | rw [upd_ne _ _ (by omega)])); exact q6)) (RL.step (MR.mv (v := .int .i64 ((j + 1 : Nat) : Int)) (by show upd _ _ _ 10 = _; (repeat (first | rw [upd_same] | rw [upd_ne _ _ (by omega)])); exact q10)) (RL.step (MR.mv (v := .slice (some ⟨g, 0, none⟩) (out.length + 1) cap) (by show upd _ _ _ 6 = _; (repeat (first | rw [upd_same] | rw [upd_ne _ _ (by omega)])); exact q6)) (RL.step (MR.mv (v := .int .i64 ((j + 1 : Nat) : Int)) (by show upd _ _ _ 10 = _; (repeat (first | rw [upd_same] | rw [upd_ne _ _ (by omega)])); exact q10))
      (RL.step (MR.biE (v := .int .i64 (j : Nat)) (by show some (Value.int .i64 (IntKind.i64.wrap (((j + 1 : Nat) : Int) - 1))) = _; rw [show (((j + 1 : Nat) : Int) - 1) = (j : Nat) from by omega, wrap_i64 (by omega) (by omega)])) (RL.step (MR.ia (k := .i64) ok.tgs ok.tgN rfl rfl (show j < out.length + 1 by omega))
        (RL.step (MR.ldRow (cs := C j) rfl ok.tgR (by rw [l2.1]; exact ok.tgN) (by rw [Nat.zero_add]; exact hrj)) (RL.step (MR.ia (k := .i64) (j := j + 1) ok.tgs ok.tgN rfl rfl (show j + 1 < out.length + 1 by omega)) (RL.stA (cs := C j) (b := g) (o := 0 + (j + 1) * 2) rfl rfl (by rw [l2.1]; exact ok.tgN) (by rw [l2.1]; exact htj) l2.2 (RL.nil ?_))))))))))))
    have F2 : Fr (fun _ => False) g 0 ((out.length + 1) * 2) w1 (w1.setCells g (0 + (j + 1) * 2) (C j)) := Fr.put _ (by omega) (by rw [l2.1]; omega)
    have F2' : Fr (fun _ => False) g ((j + 1) * 2) 2 w1 (w1.setCells g (0 + (j + 1) * 2) (C j)) := Fr.put _ (by omega) (by rw [l2.1]; omega)
    obtain ⟨cur2, s1, s2⟩ := set_shape (C j) (0 + (j + 1) * 2) w1 cur1 hs1
    have keepRow : ∀ k cs, cs.length = 2 → k ≠ j + 1 → w1.rangeAt g (k * 2) cs → (w1.setCells g (0 + (j + 1) * 2) (C j)).rangeAt g (k * 2) cs := fun k cs hl hk hr m u hu => by
      have hm := (List.getElem?_eq_some_iff.1 hu).1
      rw [F2'.cell _ (by omega)]; exact hr m u hu
    refine RW.rg (RL.step (MR.mv (v := .int .i64 ((j + 1 : Nat) : Int)) (by show upd _ _ _ 10 = _; (repeat (first | rw [upd_same] | rw [upd_ne _ _ (by omega)])); exact q10)) (RL.step (MR.biE (v := .int .i64 (j : Nat)) (by show some (Value.int .i64 (IntKind.i64.wrap (((j + 1 : Nat) : Int) - 1))) = _; rw [show (((j + 1 : Nat) : Int) - 1) = (j : Nat) from by omega, wrap_i64 (by omega) (by omega)])) (RL.step MR.mv (RL.nil ?_))))
    refine ⟨⟨j, by omega, by omega, fun s hs h10 => by rw [upd_ne _ _ h10]; (repeat (first | rw [upd_same] | rw [upd_ne _ _ (by omega)])); exact q s hs h10, rfl, hF.trans F2, ⟨cur2, s1, by rw [s2, hs2]⟩, fun k h1 h2 => ?_, fun k h1 h2 => ?_⟩, ?_⟩
    · obtain ⟨y, _, _, hy⟩ := hrow k h2
      exact keepRow k _ (hT _ _ hy).two.1 (by omega) (hlo k (by omega) h2)
    · by_cases hk : k = j
      · subst hk
        have := World.rangeAt_setCells_same w1 g (0 + (k + 1) * 2) (C k) (by rw [l2.1]; exact htj)
        rwa [Nat.zero_add] at this ⊢
      · obtain ⟨y, _, _, hy⟩ := hrow k h2
        exact keepRow (k + 1) _ (hT _ _ hy).two.1 (by omega) (hhi k (by omega) h2)
    · show ((j : Nat) : Int).toNat < (intOf (ρ1 10)).toNat
      rw [q10]; simp only [intOf]; omega
  · have e : j = i := by have := of_decide_eq_false e; omega
    subst e
    have l2 := (hT _ _ htr).two
    have htb1 : w1.rangeAt tb 0 cst := range_keep htb (hF.block tb (by
      obtain ⟨_, ad, c, hc, _⟩ := hT _ _ htr
      exact World.block_lt_of_cell? w _ (htb 0 _ (by rw [hc]; rfl))) hne (fun x => x))
    have hti : w1.there g (0 + j * 2) 2 := there_in hth1 (by omega)
    show inBlockR 4 (thenR (fun ρ w => RW P 85 (.rg [.mv 79 (.t 6), .mv 80 (.t 9), .ld 81 S.tg 8, .ia 82 S.tgs 79 80, .st S.tg 82 81]) Q ρ w) Q) (.exit 4) _ w1
    simp only [inBlockR, ↓reduceIte]
    show RW P 85 _ _ _ w1
    refine RW.rg (RL.step (MR.mv (v := .slice (some ⟨g, 0, none⟩) (out.length + 1) cap) (by show upd _ _ _ 6 = _; (repeat (first | rw [upd_same] | rw [upd_ne _ _ (by omega)])); exact q6)) (RL.step (MR.mv (v := .int .i64 (j : Nat)) (by show upd _ _ _ 9 = _; (repeat (first | rw [upd_same] | rw [upd_ne _ _ (by omega)])); exact q9)) (RL.step (MR.ldRow (b := tb) (o := 0) (cs := cst) (by (repeat (first | rw [upd_same] | rw [upd_ne _ _ (by omega)])); exact q8) ok.tgR (by rw [l2.1]; exact ok.tgN) htb1)
      (RL.step (MR.ia (k := .i64) ok.tgs ok.tgN rfl rfl (show j < out.length + 1 by omega)) (RL.stA (cs := cst) (b := g) (o := 0 + j * 2) rfl rfl (by rw [l2.1]; exact ok.tgN) (by rw [l2.1]; exact hti) l2.2 (RL.nil ?_))))))
    have F2 : Fr (fun _ => False) g 0 ((out.length + 1) * 2) w1 (w1.setCells g (0 + j * 2) cst) := Fr.put _ (by omega) (by rw [l2.1]; omega)
    have F2' : Fr (fun _ => False) g (j * 2) 2 w1 (w1.setCells g (0 + j * 2) cst) := Fr.put _ (by omega) (by rw [l2.1]; omega)
    obtain ⟨cur2, s1, s2⟩ := set_shape cst (0 + j * 2) w1 cur1 hs1
    have keepRow : ∀ k cs, cs.length = 2 → k ≠ j → w1.rangeAt g (k * 2) cs → (w1.setCells g (0 + j * 2) cst).rangeAt g (k * 2) cs := fun k cs hl hk hr m u hu => by
      have hm := (List.getElem?_eq_some_iff.1 hu).1
      rw [F2'.cell _ (by omega)]; exact hr m u hu
    have hlen' : (out.take j ++ t :: out.drop j).length = out.length + 1 := by simp; omega
    refine hQ _ _ (fun s hs h10 => by (repeat (first | rw [upd_same] | rw [upd_ne _ _ (by omega)])); exact q s hs h10) (.inr ⟨g, cap, cur2, by rw [hlen'], hg, s1, by omega, by omega, hcm, by rw [s2, hs2], fun k x hx => ?_⟩) (hB.trans ((hF.trans F2).below hg (fun _ h => h.elim) hB.size))
    rcases Nat.lt_trichotomy k j with hk | hk | hk
    · rw [List.getElem?_append_left (by rw [List.length_take]; omega), List.getElem?_take, if_pos hk] at hx
      obtain ⟨h1, h2⟩ := hC k x hx
      exact ⟨C k, keepRow k _ (hT _ _ h2).two.1 (by omega) (hlo k hk (List.getElem?_eq_some_iff.1 hx).1), h2⟩
    · subst hk
      rw [List.getElem?_append_right (by rw [List.length_take]; omega), List.length_take, Nat.min_eq_left hi, Nat.sub_self] at hx
      simp only [List.getElem?_cons_zero, Option.some.injEq] at hx
      subst hx
      refine ⟨cst, ?_, htr⟩
      have := World.rangeAt_setCells_same w1 g (0 + k * 2) cst (by rw [l2.1]; exact hti)
      rwa [Nat.zero_add] at this ⊢
    · obtain ⟨k, rfl⟩ : ∃ m, k = m + 1 := ⟨k - 1, by omega⟩
      rw [List.getElem?_append_right (by rw [List.length_take]; omega), List.length_take, Nat.min_eq_left hi, show k + 1 - j = (k - j) + 1 from by omega, List.getElem?_cons_succ, List.getElem?_drop, show j + (k - j) = k from by omega] at hx
      obtain ⟨h1, h2⟩ := hC k x hx
      exact ⟨C k, keepRow (k + 1) _ (hT _ _ h2).two.1 (by omega) (hhi k (by omega) (List.getElem?_eq_some_iff.1 hx).1), h2⟩
end
end Go.Kx
namespace Go.Kx
open Go.RowKit
set_option linter.unusedSimpArgs false
set_option linter.unusedVariables false
section
variable {P : Program} {S : SN} {w w' w0 : World} {Q : Exit → (Nat → Value) → World → Prop} {ρ : Nat → Value}
def insF (least : Nat) (out : List Tg) (t : Tg) : List Tg := if t.1 < least then out else insTag t out
theorem unk_elem {T : List Value → Tg → Prop} (hT : ∀ cs t, T cs t → TagRow w0 cs t) {least : Nat} (ok : SOK P S) (hby : bytesLe P S.tg 1000 = true) {sv : Value} {out : List Tg} {t : Tg} {g o i n c : Nat} {cs : List Value} (hB : Below w0.heap.size w0 w) (hout : OutR S T w0 w sv out) (hlen : out.length < 1000000) (hr : w.rangeAt g (o + i * 2) cs) (htr' : T cs t) (hin : i < n)
    (r5 : ρ 5 = .int .u32 (least : Nat)) (r6 : ρ 6 = sv) (r17 : ρ 17 = .slice (some ⟨g, o, none⟩) n c) (r19 : ρ 19 = .int .i64 (i : Nat))
    (hQ : ∀ ρ' w' sv', (∀ s, s = 5 ∨ s = 17 ∨ s = 18 ∨ s = 19 → ρ' s = ρ s) → ρ' 6 = sv' → OutR S T w0 w' sv' (insF least out t) → Below w0.heap.size w0 w' → Q .normal ρ' w') :
    RW P 85 (.bl 1 (.sq (.rg [.ia 21 S.tgs 17 19, .ld 22 S.tg 21, .al 8 S.tg, .st S.tg 8 22]) (.sq (.rg [.mv 9 (.c (.int .i64 (0)))])
      (.sq (.bl 2 (.lp (.sq (.sq (.gr true (unkG1 S)) (.cd 36 .sk (.ex 2))) (.bl 3 (.rg [.mv 37 (.t 9), .bi 38 .add S.T.int (.t 37) (.c (.int .i64 1)), .mv 9 (.t 38)])))))
      (.sq (.sq (.gr true (unkG2 S)) (.cd 58 (.ex 1) .sk))
      (.sq (.rg [.mv 59 (.t 6), .bdl 60 S.tg [], .bsl 61 S.tgs [.t 60], .ap 62 S.tgs S.tgs 59 61, .mv 6 (.t 62)])
      (.sq (.sq (.rg [.mv 63 (.t 6), .ln 64 S.tgs 63, .bi 65 .sub S.T.int (.t 64) (.c (.int .i64 (1))), .mv 10 (.t 65)])
      (.bl 4 (.lp (.sq (.sq (.rg [.mv 66 (.t 10), .mv 67 (.t 9), .bi 68 .gtr S.T.int (.t 66) (.t 67)]) (.cd 68 (.sk) (.ex 4)))
        (.sq (.bl 5 (.rg [.mv 71 (.t 6), .mv 72 (.t 10), .mv 73 (.t 6), .mv 74 (.t 10), .bi 75 .sub S.T.int (.t 74) (.c (.int .i64 (1))), .ia 76 S.tgs 73 75, .ld 77 S.tg 76, .ia 78 S.tgs 71 72, .st S.tg 78 77]))
          (.rg [.mv 69 (.t 10), .bi 70 .sub S.T.int (.t 69) (.c (.int .i64 (1))), .mv 10 (.t 70)]))))))
      (.rg [.mv 79 (.t 6), .mv 80 (.t 9), .ld 81 S.tg 8, .ia 82 S.tgs 79 80, .st S.tg 82 81])))))))) Q ρ w := by
  have htr : TagRow w0 cs t := hT _ _ htr'
  refine RW.bl (RW.sq (RW.rg (RL.rowTH (t := t) (cs := cs) ok r17 r19 hin hr (htr.keep hB) (by decide) (by decide) ?_)))
  rintro p w1 b1 s1 rg1 ⟨ck, hck, hck2⟩
  refine RL.nil (RW.sq (RW.rg (RL.step MR.mv (RL.nil ?_))))
  have B1 : Below w0.heap.size w0 w1 := hB.trans (b1.mono hB.size)
  have out1 : OutR S T w0 w1 sv out := hout.keep fun k hk => b1.block k hk
  have htb1 : w1.cell? ⟨w.heap.size, 0, none⟩ = some (u32V t.1) := by
    obtain ⟨_, ad, c', rfl, _⟩ := htr
    exact rg1 0 _ rfl
  refine RW.sq (unk_find ok (sv := sv) (out := out) (t := t) (tb := w.heap.size) (out1.tags hT B1) htb1 (by omega) (by (repeat (first | rw [upd_same] | rw [upd_ne _ _ (by omega)])); exact r6) (by (repeat (first | rw [upd_same] | rw [upd_ne _ _ (by omega)]))) rfl ?_)
  intro ρ2 w2 q2 q29 hh2 b2
  have B2 : Below w0.heap.size w0 w2 := B1.trans (b2.mono B1.size)
  have out2 : OutR S T w0 w2 sv out := out1.keep fun k hk => by rw [hh2]
  have e6 : ρ2 6 = sv := by rw [q2 6 (by omega) (by omega)]; (repeat (first | rw [upd_same] | rw [upd_ne _ _ (by omega)])); exact r6
  have e8 : ρ2 8 = .pointer (some ⟨w.heap.size, 0, none⟩) := by rw [q2 8 (by omega) (by omega)]; (repeat (first | rw [upd_same] | rw [upd_ne _ _ (by omega)]))
  have e5 : ρ2 5 = .int .u32 (least : Nat) := by rw [q2 5 (by omega) (by omega)]; (repeat (first | rw [upd_same] | rw [upd_ne _ _ (by omega)])); exact r5
  have eo : ∀ s, s = 5 ∨ s = 17 ∨ s = 18 ∨ s = 19 → ρ2 s = ρ s := fun s hs => by rw [q2 s (by omega) (by omega)]; (repeat (first | rw [upd_same] | rw [upd_ne _ _ (by omega)]))
  refine RW.sq (RW.sq (unk_g2 ok (out2.tags hT B2) (b2.kp _ _ htb1) e5 e6 e8 q29 fun ρ3 q3 q358 => ?_))
  have b3 : Below w2.heap.size w2 (World.drew1 w2) := below_drew1 w2 _
  have B3 : Below w0.heap.size w0 (World.drew1 w2) := B2.trans (b3.mono B2.size)
  have out3 : OutR S T w0 (World.drew1 w2) sv out := out2.keep fun k hk => rfl
  have rg3 : (World.drew1 w2).rangeAt w.heap.size 0 cs := fun j u hu => b3.kp _ _ (b2.kp _ _ (rg1 j u hu))
  have ins : ∀ b, q358 = q358 → (match out[posOf t.1 out]? with | some x => decide (x.1 = t.1) | none => false) = b → insTag t out = if b then out else out.take (posOf t.1 out) ++ t :: out.drop (posOf t.1 out) := by
    intro b _ hb
    rw [insTag_pos]
    unfold insAt
    cases hx : out[posOf t.1 out]? with
    | none => rw [hx] at hb; subst hb; rfl
    | some x =>
      rw [hx] at hb
      simp only at hb ⊢
      subst hb
      by_cases h : x.1 = t.1 <;> simp [h]
  refine RW.cd q358 (fun e => RW.ex ?_) (fun e => RW.sk ?_)
  · show inBlockR 1 Q (.exit 1) _ _
    simp only [inBlockR, ↓reduceIte]
    have hi : insF least out t = out := by
      unfold insF
      by_cases hl : t.1 < least
      · rw [if_pos hl]
      · rw [if_neg hl]
        rw [decide_eq_false hl, Bool.false_or] at e
        have := ins true rfl e
        rw [if_pos rfl] at this
        exact this
    exact hQ _ _ sv (fun s hs => by rw [q3 s (by omega)]; exact eo s hs) (by rw [q3 6 (by omega)]; exact e6) (by rw [hi]; exact out3) B3
  · rw [Bool.or_eq_false_iff] at e
    have hl : ¬ t.1 < least := of_decide_eq_false e.1
    have hi : insF least out t = insTag t out := if_neg hl
    have hins := ins false rfl e.2
    simp only [Bool.false_eq_true, if_false] at hins
    show RW P 85 _ _ ρ3 (World.drew1 w2)
    have f6 : ρ3 6 = sv := by rw [q3 6 (by omega)]; exact e6
    have b4 := below_box (World.drew1 w2) (.cells zTagC.toArray S.tg)
    have out4 : OutR S T w0 ((World.drew1 w2).alloc (.cells zTagC.toArray S.tg)) sv out := out3.keep fun k hk => b4.block k hk
    have hz4 : ((World.drew1 w2).alloc (.cells zTagC.toArray S.tg)).rangeAt (World.drew1 w2).heap.size 0 zTagC := fun j v hj => cell_box _ zTagC S.tg hj
    obtain ⟨g5, cap, w5, cur, a1, a2, a3, a4, a5, a6, a7, a8, a9, a10, a11⟩ := run_apTg (P := P) (c := 1) hT ok hby out4 hz4 hlen (Nat.le_trans B3.size b4.size)
    refine RW.sq (RW.rg (RL.step (MR.mv f6) (RL.step (MR.bdl (v := .agg zTagC.toArray) (w' := World.drew1 w2) (build_zero (z := zTagC) ok.zTg ok.lTg)) (RL.step (MR.bslBy (v := .slice (some ⟨(World.drew1 w2).heap.size, 0, none⟩) 1 1) (w' := (World.drew1 w2).alloc (.cells zTagC.toArray S.tg)) (run_bslTg (cs := zTagC) ok rfl))
      (RL.step (MR.apBy (a1 0) a1) (RL.step MR.mv (RL.nil ?_)))))))
    have B5 : Below w0.heap.size w0 w5 := (B3.trans (b4.mono B3.size)).trans a8
    have hown : some w.heap.size ≠ sv.ownBlock := by
      rcases hout with ⟨rfl, _⟩ | ⟨g', cap', cur', rfl, _, h2, _⟩
      · intro e; cases e
      · intro e
        simp only [Value.ownBlock, Option.some.injEq] at e
        have := (Array.getElem?_eq_some_iff.1 h2).1
        omega
    have hck4 : ((World.drew1 w2).alloc (.cells zTagC.toArray S.tg)).heap[w.heap.size]? = some (.cells ck S.tg (0, 0)) := by
      have e2 : (World.drew1 w2).heap[w.heap.size]? = some (.cells ck S.tg (0, 0)) := by show w2.heap[w.heap.size]? = _; rw [hh2]; exact hck
      rw [b4.block _ (Array.getElem?_eq_some_iff.1 e2).1]; exact e2
    have htb4 := (Array.getElem?_eq_some_iff.1 hck4).1
    have rg5 : w5.rangeAt w.heap.size 0 cs := range_keep (fun j u hu => b4.kp _ _ (rg3 j u hu)) (a10 w.heap.size htb4 hown)
    show RW P 85 _ _ _ w5
    refine unk_put hT ok (posOf_le t.1 out) hlen a2 a3 a4 a5 a6 a7 a9 rg5 htr' ?_ B5 rfl (by show ρ3 8 = _; rw [q3 8 (by omega)]; exact e8) (by show ρ3 9 = _; rw [q3 9 (by omega)]; exact q29) ?_
    · exact a11 w.heap.size ck htb4 hown hck4 hck2
    · intro ρ6 w6 h1 h2 h3
      show Q .normal ρ6 w6
      refine hQ ρ6 w6 _ (fun s hs => by rw [h1 s (by omega) (by omega)]; (repeat (first | rw [upd_same] | rw [upd_ne _ _ (by omega)])); rw [q3 s (by omega)]; exact eo s hs) (h1 6 (by omega) (by omega)) (by rw [hi, hins]; exact h2) h3
theorem insF_len {least : Nat} {out : List Tg} {t : Tg} : (insF least out t).length ≤ out.length + 1 := by
  unfold insF
  split
  · omega
  · exact insTag_len
theorem unk_ok {f : Nat} (ok : SOK P S) (hby : bytesLe P S.tg 1000 = true) (hf : FnIs P f (cUnk S) 85 4) (hk : KnownC P S.fKnown) : UnkC P S f (fun _ => True) := by
  refine ⟨hf.ent, ?_⟩
  rintro w0 w ad c fs v u hrows htag hlen hB0 ⟨ad', c', rfl, had, hc, hrow⟩ -
  have hT : ∀ cs t, TagRow w0 cs t → TagRow w cs t := fun cs t h => h.kp hB0.kp
  refine hf.runs (args := [.slice ad fs.toList.length c, .slice ad' u.length c']) (by simp) (by omega) ?_
  refine RW.sq (RW.rg (RL.step MR.mv (RL.nil (RW.sq (RW.rg (RL.step MR.mv (RL.ca (R := fun v w' => v = .int .u32 (sKnown fs : Nat) ∧ Below w.heap.size w w') hk.1 ?_ ?_)))))))
  · refine Calls.mono (hk.2 w ad c fs hrows htag hlen) ?_
    rintro e w' ⟨rfl, h⟩
    exact ⟨_, rfl, rfl, h⟩
  rintro v w1 ⟨rfl, hb⟩
  repeat first | refine RL.step MR.mv ?_ | refine RL.step (MR.biE rfl) ?_ | refine RL.step (MR.b2 rfl) ?_
  refine RL.nil (RW.sq (RW.rg (RL.step MR.mv (RL.nil (RW.sq (RW.sq (RW.rg ?_)))))))
  repeat first | refine RL.step MR.mv ?_ | refine RL.step (MR.biE rfl) ?_ | refine RL.step (MR.b2 rfl) ?_
  have hm : (if (32767 : Int) < (u.length : Nat) then (32767 : Int) else (u.length : Nat)) = ((u.take most).length : Nat) := by
    rw [List.length_take]; unfold most; split <;> omega
  have hml : (u.take most).length ≤ c' := by rw [List.length_take]; omega
  refine RL.step (MR.ln ok.tgs (p := ad') (n := u.length) (c := c') rfl) (RL.step (MR.mn (k := .i64) (k' := .i64) (m := (u.length : Nat)) (n := 32767) rfl rfl) ?_)
  rw [hm]
  refine RL.step (MR.sl (v := .slice ad' (u.take most).length c') (run_sliceTo (h := (u.take most).length) ok.tgs (cellsB_some ok.tgN) had hml)) (RL.step (MR.ln ok.tgs (p := ad') (n := (u.take most).length) (c := c') rfl) ?_)
  repeat first | refine RL.step MR.mv ?_ | refine RL.step (MR.biE rfl) ?_ | refine RL.step (MR.b2 rfl) ?_
  refine RL.nil (RW.bl (RW.lp (fun ρ w' => ∃ (k : Nat) (sv : Value), k ≤ (u.take most).length ∧ ρ 5 = .int .u32 (sKnown fs : Nat) ∧ ρ 6 = sv ∧ ρ 17 = .slice ad' (u.take most).length c' ∧ ρ 18 = .int .i64 ((u.take most).length : Nat) ∧ ρ 19 = .int .i64 (k : Nat) ∧ OutR S (TagRow w0) w w' sv (((u.take most).take k).foldl (insF (sKnown fs)) []) ∧ Below w.heap.size w w' ∧ (((u.take most).take k).foldl (insF (sKnown fs)) []).length ≤ k)
    (fun ρ' _ => (u.take most).length - (intOf (ρ' 19)).toNat) ⟨0, .slice none 0 0, Nat.zero_le _, rfl, rfl, rfl, rfl, rfl, .inl ⟨rfl, rfl⟩, hb, Nat.le_refl _⟩ ?_ (fun ρ1 ρ2 w1 h => by rw [h 19 (by omega)])))
  rintro ρ2 w2 ⟨k, sv, hkm, h5, h6, h17, h18, h19, hout, hb2, hlk⟩
  have hm32 : (u.take most).length ≤ 32767 := by rw [List.length_take]; unfold most; omega
  refine RW.knows [(5, .int .u32 (sKnown fs : Nat)), (6, sv), (17, .slice ad' (u.take most).length c'), (18, .int .i64 ((u.take most).length : Nat)), (19, .int .i64 (k : Nat))] (by simp [h5, h6, h17, h18, h19]) (RW.sq (RW.rg ?_))
  by_cases hlt : k < (u.take most).length
  · refine RL.step (MR.biB (p := (k : Int) < ((u.take most).length : Nat)) rfl (decide_eq_true (by omega))) (RL.nil (RW.sq (RW.cd (b := true) rfl (fun _ => RW.sk ?_) (fun e => by cases e))))
    obtain ⟨t, ht⟩ : ∃ t, (u.take most)[k]? = some t := ⟨_, List.getElem?_eq_getElem hlt⟩
    have htu : u[k]? = some t := by
      rw [List.getElem?_take] at ht
      split at ht
      · exact ht
      · cases ht
    obtain ⟨g, o, cs, rfl, hr, htr⟩ := hrow k t htu
    have est : ((u.take most).take (k + 1)).foldl (insF (sKnown fs)) [] = insF (sKnown fs) (((u.take most).take k).foldl (insF (sKnown fs)) []) t := by
      rw [List.take_add_one, ht, List.foldl_append]
      rfl
    refine RW.sq (unk_elem (w0 := w) (T := TagRow w0) hT (least := sKnown fs) (t := t) (i := k) (n := (u.take most).length) (c := c') (g := g) (o := o) (cs := cs) (sv := sv) ok hby hb2 hout (by omega) (fun j x hx => (hB0.trans (hb2.mono hB0.size)).kp _ _ (hr j x hx)) htr hlt rfl rfl rfl rfl ?_)
    intro ρ3 w3 sv3 e1 e2 e3 e4
    have q5 := e1 5 (.inl rfl)
    have q17 := e1 17 (.inr (.inl rfl))
    have q18 := e1 18 (.inr (.inr (.inl rfl)))
    have q19 := e1 19 (.inr (.inr (.inr rfl)))
    refine RW.rg (RL.step (MR.biE (v := .int .i64 ((k + 1 : Nat) : Int)) (by show evB .add (ρ3 19) (.int .i64 1) = _; rw [q19]; show some (Value.int .i64 (IntKind.i64.wrap ((k : Int) + 1))) = _; rw [wrap_i64 (by omega) (by omega)]; rfl)) (RL.step MR.mv (RL.nil ?_)))
    refine ⟨⟨k + 1, sv3, hlt, by (repeat (first | rw [upd_same] | rw [upd_ne _ _ (by omega)])); rw [q5]; rfl, by (repeat (first | rw [upd_same] | rw [upd_ne _ _ (by omega)])); exact e2, by (repeat (first | rw [upd_same] | rw [upd_ne _ _ (by omega)])); rw [q17]; rfl, by (repeat (first | rw [upd_same] | rw [upd_ne _ _ (by omega)])); rw [q18]; rfl, rfl, by rw [est]; exact e3, e4, by rw [est]; have := @insF_len (sKnown fs) (((u.take most).take k).foldl (insF (sKnown fs)) []) t; omega⟩, ?_⟩
    show (u.take most).length - ((k + 1 : Nat) : Int).toNat < (u.take most).length - (intOf (ρ2 19)).toNat
    rw [h19]; simp only [intOf]; omega
  · refine RL.step (MR.biB (p := (k : Int) < ((u.take most).length : Nat)) rfl (decide_eq_false (by omega))) (RL.nil (RW.sq (RW.cd (b := false) rfl (fun e => by cases e) (fun _ => RW.ex ?_))))
    have : k = (u.take most).length := by omega
    subst this
    rw [List.take_length] at hout
    refine RW.sq (RW.rg ?_)
    repeat first | refine RL.step MR.mv ?_ | refine RL.step (MR.biE rfl) ?_ | refine RL.step (MR.b2 rfl) ?_
    refine RL.nil (RW.rt ⟨sv, rfl, ?_, hb2⟩)
    exact hout
end
end Go.Kx
namespace Go.Kx
open Go.RowKit
set_option linter.unusedSimpArgs false
set_option linter.unusedVariables false
def cFits4 (S : SN) : MCode := .sq (.rg [.bx 1 S.tg 0, .mv 2 (.c (.bool false))]) (.sq (.sq (.rg [.fa 3 S.tg 1 1, .ld 4 S.T.u8s 3, .ln 5 S.T.u8s 4, .bi 6 .gtr S.T.int (.t 5) (.c (.int .i64 2147483647))]) (.cd 6 (.sq (.rg [.mv 2 (.c (.bool false))]) .rt) .sk)) (.sq (.rg [.mv 2 (.c (.bool true))]) .rt))
def cFits3 (S : SN) (f4 : Nat) : MCode := .sq (.rg [.mv 2 (.c (.bool false))]) (.sq (.sq (.rg [.mv 5 (.t 0), .ln 6 S.tgs 5, .bi 7 .gtr S.T.int (.t 6) (.c (.int .i64 2147483647))]) (.cd 7 (.sq (.rg [.mv 2 (.c (.bool false))]) .rt) .sk))
  (.sq (.sq (.rg [.mv 8 (.t 0), .ln 9 S.tgs 8, .mv 10 (.c (.int .i64 0))]) (.bl 0 (.lp (.sq (.rg [.bi 11 .lss S.T.int (.t 10) (.t 9)]) (.sq (.cd 11 .sk (.ex 0)) (.sq (.bl 1 (.sq (.rg [.ia 12 S.tgs 8 10, .ld 13 S.tg 12, .al 4 S.tg, .st S.tg 4 13]) (.sq (.rg [.ld 14 S.tg 4, .ca 15 f4 [.t 14], .nt 16 15]) (.cd 16 (.sq (.rg [.mv 2 (.c (.bool false))]) .rt) .sk))))
    (.rg [.bi 17 .add S.T.int (.t 10) (.c (.int .i64 1)), .mv 10 (.t 17)]))))))) (.sq (.rg [.mv 2 (.c (.bool true))]) .rt)))
def cFits2 (S : SN) (f3 : Nat) : MCode := .sq (.rg [.bx 1 S.tr 0, .mv 2 (.c (.bool false))]) (.sq (.sq (.rg [.fa 3 S.tr 1 1, .ld 4 S.T.u8s 3, .ln 5 S.T.u8s 4, .bi 6 .gtr S.T.int (.t 5) (.c (.int .i64 2147483647))]) (.cd 6 (.sq (.rg [.mv 2 (.c (.bool false))]) .rt) .sk))
  (.sq (.sq (.rg [.fa 7 S.tr 1 3, .ld 8 S.trs 7, .ln 9 S.trs 8, .bi 10 .gtr S.T.int (.t 9) (.c (.int .i64 2147483647))]) (.cd 10 (.sq (.rg [.mv 2 (.c (.bool false))]) .rt) .sk))
  (.sq (.sq (.rg [.fa 11 S.tr 1 4, .ld 12 S.tgs 11, .ca 13 f3 [.t 12], .nt 14 13]) (.cd 14 (.sq (.rg [.mv 2 (.c (.bool false))]) .rt) .sk)) (.sq (.rg [.mv 2 (.c (.bool true))]) .rt))))
def YN (w : World) : Ending → World → Prop := fun e w' => (∃ b, e = .returned (.bool b)) ∧ Below w.heap.size w w'
section
variable {P : Program} {S : SN} {w w' : World} {Q : Exit → (Nat → Value) → World → Prop} {ρ : Nat → Value}
theorem fits4_ok {f : Nat} (ok : SOK P S) (hf : FnIs P f (cFits4 S) 7 2) (w : World) (cs : List Value) (t : Tg) (h : TagRow w cs t) : Calls P f #[.agg cs.toArray] w (YN w) := by
  obtain ⟨hk, ad, c, rfl, had, hc, hby⟩ := h
  refine hf.runs (args := [.agg [Value.int .u32 (t.1 : Nat), .slice ad t.2.length c].toArray]) (by simp) (by omega) ?_
  have hb := below_box w (.cells [Value.int .u32 (t.1 : Nat), .slice ad t.2.length c].toArray S.tg)
  refine RW.sq (RW.rg (RL.bxA (cs := [Value.int .u32 (t.1 : Nat), .slice ad t.2.length c]) rfl (RL.step MR.mv (RL.nil ?_))))
  refine RW.sq (RW.sq (RW.rg (RL.step (MR.fa (b := w.heap.size) (o := 0) rfl (ok.tgF 1 (by omega))) (RL.step (MR.ld (v := .slice ad t.2.length c) rfl ok.pU8s (cell_box w [Value.int .u32 (t.1 : Nat), .slice ad t.2.length c] S.tg (j := 1) rfl)) (RL.step (MR.ln ok.tk.u8s rfl) (RL.step (MR.biE (v := .bool (decide ((2147483647 : Int) < (t.2.length : Nat)))) rfl) (RL.nil ?_)))))))
  refine RW.cd rfl (fun e => RW.sq (RW.rg (RL.step MR.mv (RL.nil (RW.rt ⟨⟨_, rfl⟩, hb⟩))))) (fun e => RW.sk ?_)
  exact RW.sq (RW.rg (RL.step MR.mv (RL.nil (RW.rt ⟨⟨_, rfl⟩, hb⟩))))
theorem fits3_ok {f f4 : Nat} (ok : SOK P S) (h4 : FnIs P f4 (cFits4 S) 7 2) (hf : FnIs P f (cFits3 S f4) 18 2) (w : World) (v : Value) (u : List Tg) (h : TagsS w v u) : Calls P f #[v] w (YN w) := by
  obtain ⟨ad, c, rfl, had, hc, hrow⟩ := h
  refine hf.runs (args := [.slice ad u.length c]) (by simp) (by omega) ?_
  refine RW.sq (RW.rg (RL.step MR.mv (RL.nil ?_)))
  refine RW.sq (RW.sq (RW.rg (RL.step (MR.mv (v := .slice ad u.length c) rfl) (RL.step (MR.ln ok.tgs rfl) (RL.step (MR.biE (v := .bool (decide ((2147483647 : Int) < (u.length : Nat)))) rfl) (RL.nil ?_))))))
  refine RW.cd rfl (fun e => RW.sq (RW.rg (RL.step MR.mv (RL.nil (RW.rt ⟨⟨_, rfl⟩, Below.refl _ _⟩))))) (fun e => RW.sk ?_)
  have hlen : u.length ≤ 2147483647 := by have := of_decide_eq_false e; omega
  refine RW.sq (RW.sq (RW.rg (RL.step (MR.mv (v := .slice ad u.length c) rfl) (RL.step (MR.ln ok.tgs rfl) (RL.step MR.mv (RL.nil (RW.bl ?_)))))))
  refine RW.lp (fun ρ w' => ∃ i : Nat, i ≤ u.length ∧ ρ 8 = .slice ad u.length c ∧ ρ 9 = .int .i64 (u.length : Nat) ∧ ρ 10 = .int .i64 (i : Nat) ∧ Below w.heap.size w w') (fun ρ' _ => u.length - (intOf (ρ' 10)).toNat) ⟨0, Nat.zero_le _, rfl, rfl, rfl, Below.refl _ _⟩ ?_ (fun ρ1 ρ2 w1 h => by rw [h 10 (by omega)])
  rintro ρ1 w1 ⟨i, hi, q8, q9, q10, hb⟩
  refine RW.knows [(8, .slice ad u.length c), (9, .int .i64 (u.length : Nat)), (10, .int .i64 (i : Nat))] (by simp [q8, q9, q10]) (RW.sq (RW.rg ?_))
  by_cases hlt : i < u.length
  · refine RL.step (MR.biB (p := (i : Int) < (u.length : Nat)) rfl (decide_eq_true (by omega))) (RL.nil (RW.sq (RW.cd (b := true) rfl (fun _ => RW.sk ?_) (fun e => by cases e))))
    obtain ⟨t, ht⟩ : ∃ t, u[i]? = some t := ⟨_, List.getElem?_eq_getElem hlt⟩
    obtain ⟨g, o, cs, rfl, hr, htr⟩ := hrow i t ht
    have l2 := htr.two
    refine RW.sq (RW.bl (RW.sq (RW.rg (RL.rowTH (t := t) (cs := cs) (n := u.length) (c := c) ok rfl rfl hlt (fun j x hx => hb.kp _ _ (hr j x hx)) (htr.keep hb) (by decide) (by decide) ?_))))
    rintro p w2 b2 s2 rg2 -
    have B2 : Below w.heap.size w w2 := hb.trans (b2.mono hb.size)
    refine RL.nil (RW.sq (RW.rg (RL.step (MR.ldRow (b := w1.heap.size) (o := 0) (cs := cs) rfl ok.tgR (by rw [l2.1]; exact ok.tgN) rg2) ?_)))
    refine RL.ca (R := fun v w' => (∃ b, v = .bool b) ∧ Below w2.heap.size w2 w') h4.ent ?_ ?_
    · refine Calls.mono (fits4_ok ok h4 w2 cs t (htr.keep B2)) ?_
      rintro e w' ⟨⟨b, rfl⟩, h⟩
      exact ⟨_, rfl, ⟨b, rfl⟩, h⟩
    rintro v w3 ⟨⟨b, rfl⟩, b3⟩
    have B3 : Below w.heap.size w w3 := B2.trans (b3.mono B2.size)
    refine RL.step (MR.nt rfl) (RL.nil (RW.cd rfl (fun e => RW.sq (RW.rg (RL.step MR.mv (RL.nil (RW.rt ⟨⟨_, rfl⟩, B3⟩))))) (fun e => RW.sk ?_)))
    refine RW.rg (RL.step (MR.biE (v := .int .i64 ((i + 1 : Nat) : Int)) (by show some (Value.int .i64 (IntKind.i64.wrap ((i : Int) + 1))) = _; rw [wrap_i64 (by omega) (by omega)]; rfl)) (RL.step MR.mv (RL.nil ?_)))
    refine ⟨⟨i + 1, hlt, rfl, rfl, rfl, B3⟩, ?_⟩
    show u.length - ((i + 1 : Nat) : Int).toNat < u.length - (intOf (ρ1 10)).toNat
    rw [q10]; simp only [intOf]; omega
  · refine RL.step (MR.biB (p := (i : Int) < (u.length : Nat)) rfl (decide_eq_false (by omega))) (RL.nil (RW.sq (RW.cd (b := false) rfl (fun e => by cases e) (fun _ => RW.ex ?_))))
    exact RW.sq (RW.rg (RL.step MR.mv (RL.nil (RW.rt ⟨⟨_, rfl⟩, hb⟩))))
theorem fits2_ok {f f3 f4 : Nat} (ok : SOK P S) (h4 : FnIs P f4 (cFits4 S) 7 2) (h3 : FnIs P f3 (cFits3 S f4) 18 2) (hf : FnIs P f (cFits2 S f3) 15 2) (w : World) (cs : List Value) (t : Tr) (h : RepTr w t cs) : Calls P f #[.agg cs.toArray] w (YN w) := by
  cases t with
  | mk n s null l u =>
    unfold RepTr at h
    obtain ⟨sS, sL, sU, rfl, hn, ⟨ad, c, rfl, had, hc, hby⟩, ⟨ad2, c2, rfl, had2, hc2, hrows⟩, htags⟩ := h
    refine hf.runs (args := [.agg [Value.int .i64 n, .slice ad s.length c, .bool null, .slice ad2 l.toList.length c2, sU].toArray]) (by simp) (by omega) ?_
    have hb := below_box w (.cells [Value.int .i64 n, .slice ad s.length c, .bool null, .slice ad2 l.toList.length c2, sU].toArray S.tr)
    refine RW.sq (RW.rg (RL.bxA (cs := [Value.int .i64 n, .slice ad s.length c, .bool null, .slice ad2 l.toList.length c2, sU]) rfl (RL.step MR.mv (RL.nil ?_))))
    refine RW.sq (RW.sq (RW.rg (RL.step (MR.fa (b := w.heap.size) (o := 0) rfl (ok.trF 1 (by omega))) (RL.step (MR.ld (v := .slice ad s.length c) rfl ok.pU8s (cell_box w [Value.int .i64 n, .slice ad s.length c, .bool null, .slice ad2 l.toList.length c2, sU] S.tr (j := 1) rfl)) (RL.step (MR.ln ok.tk.u8s rfl) (RL.step (MR.biE (v := .bool (decide ((2147483647 : Int) < (s.length : Nat)))) rfl) (RL.nil ?_)))))))
    refine RW.cd rfl (fun e => RW.sq (RW.rg (RL.step MR.mv (RL.nil (RW.rt ⟨⟨_, rfl⟩, hb⟩))))) (fun e => RW.sk ?_)
    refine RW.sq (RW.sq (RW.rg (RL.step (MR.fa (b := w.heap.size) (o := 0) rfl (ok.trF 3 (by omega))) (RL.step (MR.ld (v := .slice ad2 l.toList.length c2) rfl ok.pTrs (cell_box w [Value.int .i64 n, .slice ad s.length c, .bool null, .slice ad2 l.toList.length c2, sU] S.tr (j := 3) rfl)) (RL.step (MR.ln ok.trs rfl) (RL.step (MR.biE (v := .bool (decide ((2147483647 : Int) < (l.toList.length : Nat)))) rfl) (RL.nil ?_)))))))
    refine RW.cd rfl (fun e => RW.sq (RW.rg (RL.step MR.mv (RL.nil (RW.rt ⟨⟨_, rfl⟩, hb⟩))))) (fun e => RW.sk ?_)
    refine RW.sq (RW.sq (RW.rg (RL.step (MR.fa (b := w.heap.size) (o := 0) rfl (ok.trF 4 (by omega))) (RL.step (MR.ld (v := sU) rfl ok.pTgs (cell_box w [Value.int .i64 n, .slice ad s.length c, .bool null, .slice ad2 l.toList.length c2, sU] S.tr (j := 4) rfl)) ?_))))
    have htags2 : TagsS (w.alloc (.cells [Value.int .i64 n, .slice ad s.length c, .bool null, .slice ad2 l.toList.length c2, sU].toArray S.tr)) sU u := by
      obtain ⟨ad', c', e, had', hc', hrow⟩ := htags
      refine ⟨ad', c', e, had', hc', fun j x hx => ?_⟩
      obtain ⟨g, o, cs, e1, e2, e3⟩ := hrow j x hx
      exact ⟨g, o, cs, e1, fun k y hy => hb.kp _ _ (e2 k y hy), e3.keep hb⟩
    refine RL.ca (R := fun v w' => (∃ b, v = .bool b) ∧ Below (w.alloc (.cells [Value.int .i64 n, .slice ad s.length c, .bool null, .slice ad2 l.toList.length c2, sU].toArray S.tr)).heap.size (w.alloc (.cells [Value.int .i64 n, .slice ad s.length c, .bool null, .slice ad2 l.toList.length c2, sU].toArray S.tr)) w') h3.ent ?_ ?_
    · refine Calls.mono (fits3_ok ok h4 h3 _ sU u htags2) ?_
      rintro e w' ⟨⟨b, rfl⟩, h⟩
      exact ⟨_, rfl, ⟨b, rfl⟩, h⟩
    rintro v w3 ⟨⟨b, rfl⟩, b3⟩
    have B3 : Below w.heap.size w w3 := hb.trans (b3.mono hb.size)
    refine RL.step (MR.nt rfl) (RL.nil (RW.cd rfl (fun e => RW.sq (RW.rg (RL.step MR.mv (RL.nil (RW.rt ⟨⟨_, rfl⟩, B3⟩))))) (fun e => RW.sk ?_)))
    exact RW.sq (RW.rg (RL.step MR.mv (RL.nil (RW.rt ⟨⟨_, rfl⟩, B3⟩))))
end
end Go.Kx
namespace Go.Kx
open Go.RowKit
set_option linter.unusedSimpArgs false
set_option linter.unusedVariables false
section
variable {P : Program} {S : SN} {w w' : World} {N : Nat} {Q : Exit → (Nat → Value) → World → Prop} {ρ : Nat → Value} {SU : List (Nat × List UInt8) → Prop}
def FitsC (P : Program) (f : Nat) : Prop := entersB P f = true ∧ ∀ (w : World) (cs : List Value) (t : Tr), RepTr w t cs → Calls P f #[.agg cs.toArray] w (YN w)
end
end Go.Kx
namespace Go.Kx
open Go.RowKit
set_option linter.unusedSimpArgs false
set_option linter.unusedVariables false
def cLawCut (S : SN) (fFits fMax fSpec fAgain : Nat) : MCode :=
  .sq (.rg [.bx 4 S.tr 1, .mv 6 (.c (.bool false))])
  (.sq (.sq (.rg [.ld 13 S.tr 4, .ca 14 fFits [.t 13], .nt 15 14]) (.cd 15 (.sq (.rg [.mv 6 (.c (.bool true))]) .rt) .sk))
  (.sq (.rg [.ca 16 fMax [], .mv 7 (.t 16)])
  (.sq (.sq (.rg [.mv 17 (.t 7), .bi 18 .lss S.T.int (.t 17) (.c (.int .i64 0))]) (.cd 18 (.sq (.rg [.mv 6 (.c (.bool false))]) .rt) .sk))
  (.sq (.gr true [⟨1, none, .mv 20 (.t 0)⟩, ⟨2, none, .mv 21 (.t 7)⟩, ⟨4, none, .ld 23 S.tr 4⟩, ⟨0, none, .ca 19 fSpec []⟩, ⟨3, none, .ca 22 S.fVer [.t 20, .t 21]⟩, ⟨5, none, .ca 24 S.fWrite [.t 19, .t 22, .t 23]⟩, ⟨6, none, .mv 8 (.t 24)⟩])
  (.sq (.rg [.mv 26 (.t 0), .mv 27 (.t 7), .ca 28 S.fVer [.t 26, .t 27], .mv 29 (.t 8), .ca 30 fAgain [.t 28, .t 29], .mv 25 (.t 30), .ext 31 25 0, .ext 32 25 1, .mv 9 (.t 31), .mv 10 (.t 32)])
  (.sq (.sq (.rg [.mv 33 (.t 8), .ln 34 S.T.u8s 33, .bi 35 .eql S.T.int (.t 34) (.c (.int .i64 0))]) (.cd 35 (.sq (.rg [.mv 36 (.t 10), .mv 6 (.t 36)]) .rt) .sk))
  (.sq (.gr true [⟨0, none, .mv 38 (.t 0)⟩, ⟨1, none, .mv 39 (.t 7)⟩, ⟨3, none, .mv 41 (.t 8)⟩, ⟨4, none, .mv 42 (.t 2)⟩, ⟨5, none, .cv 43 S.T.u16 S.T.int 42⟩, ⟨6, none, .mv 44 (.t 8)⟩, ⟨7, none, .ln 45 S.T.u8s 44⟩, ⟨8, none, .bi 46 .rem S.T.int (.t 43) (.t 45)⟩, ⟨9, none, .sl 47 S.T.u8s 41 none (some (.t 46)) none⟩, ⟨2, none, .ca 40 S.fVer [.t 38, .t 39]⟩, ⟨10, none, .ca 48 fAgain [.t 40, .t 47]⟩, ⟨11, none, .mv 37 (.t 48)⟩, ⟨12, none, .ext 49 37 0⟩, ⟨13, none, .ext 50 37 1⟩, ⟨14, none, .mv 11 (.t 49)⟩, ⟨15, none, .mv 12 (.t 50)⟩])
  (.sq (.gr false [⟨0, none, .mv 51 (.t 10)⟩, ⟨1, none, .mv 52 (.t 51)⟩, ⟨2, some (1, 52, true), .mv 53 (.t 12)⟩, ⟨3, some (1, 52, true), .nt 54 53⟩, ⟨4, none, .pk 55 (.t 52) (.t 54) (.c (.bool false))⟩, ⟨5, none, .mv 6 (.t 55)⟩]) .rt))))))))
section
variable {P : Program} {S : SN} {w w' : World} {N : Nat} {Q : Exit → (Nat → Value) → World → Prop} {ρ : Nat → Value} {SU : List (Nat × List UInt8) → Prop}
theorem law_cut {f fFits fMax fSpec fAgain gE most : Nat} {fs : Fds} {flex : Int} {p : Plan} (sp : SPC P S SU) (hf : FnIs P f (cLawCut S fFits fMax fSpec fAgain) 56 6) (h16u : S.T.u16 ≠ 0) (hfits : FitsC P fFits)
    (hw : WriteCK P S SU fs) (hwE : entersB P S.fWrite = true) (hsame : SameC P S.fSame) (hver : VerC P S.fVer)
    (hmax : MaxC P fMax most) (hspec : SpecC P fSpec fs flex) (hag : AgainC P S.T.u8 fAgain gE most p) (hm : most < 32768) (w : World) (n mc : Nat) (hn : n < 256) (hmc : mc < 65536) (ct : List Value) (t : Tr) (hrt : RepTr w t ct) (hg : goodT SU t) (ev : Value) (hev : w.cell? ⟨gE, 0, none⟩ = some ev) (herr : isErr ev)
    (hpl : ∀ v, v ≤ most → (kWrite fs flex (v : Nat) t).length ≤ 274877906944 ∧ ∃ ds ts, decTop p (v : Nat) (kWrite fs flex (v : Nat) t) = some ((ds, ts), []) ∧ encTop p (v : Nat) ds ts = kWrite fs flex (v : Nat) t ∧ SmF okTags p.fs ds ∧ okTags ts)
    (hcut : ∀ v k, v ≤ most → k < (kWrite fs flex (v : Nat) t).length → decTop p (v : Nat) ((kWrite fs flex (v : Nat) t).take k) = none) :
    Calls P f #[.int .u8 n, .agg ct.toArray, .int .u16 (mc : Nat)] w (fun e w' => e = .returned (.bool true) ∧ Below w.heap.size w w') := by
  have ok := sp.ok
  obtain ⟨lct, oct⟩ : ct.length = 5 ∧ ct.all (·.oneCell') = true := ⟨hrt.one.2, hrt.one.1⟩
  refine hf.runs (args := [.int .u8 n, .agg ct.toArray, .int .u16 (mc : Nat)]) (by simp) (by omega) ?_
  have b1 := below_box w (.cells ct.toArray S.tr)
  have r1 : (w.alloc (.cells ct.toArray S.tr)).rangeAt w.heap.size 0 ct := fun j v hj => cell_box w ct S.tr hj
  refine RW.sq (RW.rg (RL.bxA (cs := ct) rfl (RL.step MR.mv (RL.nil ?_))))
  have hrt1 : RepTr (w.alloc (.cells ct.toArray S.tr)) t ct := RepTr.kp b1.kp _ hrt
  revert b1 r1 hrt1
  generalize w.alloc (.cells ct.toArray S.tr) = w1
  intro b1 r1 hrt1
  refine RW.sq (RW.sq (RW.rg (RL.step (MR.ldRow (b := w.heap.size) (o := 0) (cs := ct) rfl ok.trR (by rw [lct]; exact ok.trN) r1) ?_)))
  refine RL.ca (R := fun v w' => (∃ b, v = .bool b) ∧ Below w1.heap.size w1 w') hfits.1 ?_ ?_
  · refine Calls.mono (hfits.2 w1 ct t hrt1) ?_
    rintro e w' ⟨⟨b, rfl⟩, h⟩
    exact ⟨_, rfl, ⟨b, rfl⟩, h⟩
  rintro v w2 ⟨⟨b, rfl⟩, b2⟩
  have B2 : Below w.heap.size w w2 := b1.trans (b2.mono b1.size)
  refine RL.step (MR.nt rfl) (RL.nil (RW.cd rfl (fun e => RW.sq (RW.rg (RL.step MR.mv (RL.nil (RW.rt ⟨rfl, B2⟩))))) (fun e => RW.sk ?_)))
  refine RW.sq (RW.rg (RL.ca (R := fun v w' => v = .int .i64 (most : Nat) ∧ Below w2.heap.size w2 w') hmax.1 ?_ ?_))
  · refine Calls.mono (hmax.2 w2) ?_
    rintro e w' ⟨rfl, h⟩
    exact ⟨_, rfl, rfl, h⟩
  rintro v w3 ⟨rfl, b3⟩
  have B3 : Below w.heap.size w w3 := B2.trans (b3.mono B2.size)
  refine RL.step MR.mv (RL.nil (RW.sq (RW.sq (RW.rg (RL.step (MR.mv (v := .int .i64 (most : Nat)) rfl) (RL.step (MR.biB (p := (most : Int) < 0) rfl (decide_eq_false (by omega))) (RL.nil (RW.cd (b := false) rfl (fun e => by cases e) (fun _ => RW.sk ?_)))))))))
  have r3 : w3.rangeAt w.heap.size 0 ct := fun j u hu => b3.kp _ _ (b2.kp _ _ (r1 j u hu))
  have hrt3 : RepTr w3 t ct := RepTr.kp (B3.kp) _ hrt
  refine RW.sq (RW.gd ok.mo (Below w3.heap.size w3) (below_drew1 _ _) ?_)
  have hS : ∀ {wa wb : World}, Below w3.heap.size w3 wa → Below wa.heap.size wa wb → Below w3.heap.size w3 wb := fun h k => h.trans (k.mono h.size)
  have hmod : n % (most + 1) ≤ most := Nat.lt_succ_iff.1 (Nat.mod_lt _ (by omega))
  refine RG.q (fun _ _ => MR.mv (v := .int .u8 n) rfl) (RG.q (fun _ _ => MR.mv (v := .int .i64 (most : Nat)) rfl) (RG.q (fun w' hS => MR.ldRow (b := w.heap.size) (o := 0) (cs := ct) rfl ok.trR (by rw [lct]; exact ok.trN) (fun j u hu => hS.kp _ _ (r3 j u hu))) ?_))
  refine RG.ca (R := fun v w' => ∃ cm, v = .agg (List.toArray cm) ∧ RepMs w' fs flex cm ∧ Below w3.heap.size w3 w') hspec.1 (fun h0 => ?_) ?_
  · refine Calls.mono (hspec.2 (World.drew1 w3)) ?_
    rintro e w' ⟨cm, rfl, h1, h2⟩
    exact ⟨_, rfl, ⟨cm, rfl, h1, hS h0 h2⟩, hS h0 h2⟩
  rintro v w4 ⟨cm, rfl, hms, b4⟩
  refine RG.ca (R := fun v w' => v = .int .i64 (n % (most + 1) : Nat) ∧ w' = w4) hver.1 (fun h0 => ?_) ?_
  · refine Calls.mono (hver.2 w4 n most hn hm) ?_
    rintro e w' ⟨rfl, rfl⟩
    exact ⟨_, rfl, ⟨rfl, rfl⟩, h0⟩
  rintro v w4' ⟨rfl, rfl⟩
  obtain ⟨hlen, ds, ts, hd1, hd2, hd3, hd4⟩ := hpl (n % (most + 1)) hmod
  have elim : lim = 1099511627776 := rfl
  refine RG.caB hwE (hw w4' cm ct t ((n % (most + 1) : Nat) : Int) flex hms (RepTr.kp b4.kp _ hrt3) hg (by omega)) rfl (fun w' h' h => hS h h') fun sv w5 o5 b5 => ?_
  refine RG.q (fun _ _ => MR.mv) (RG.nil fun b05 => ?_)
  have B5 : Below w.heap.size w w5 := B3.trans (b05.mono B3.size)
  obtain ⟨ad5, c5, rfl, had5, hc5, hby5⟩ := o5.bytes
  refine RW.sq (RW.rg (RL.step (MR.mv (v := .int .u8 n) rfl) (RL.step (MR.mv (v := .int .i64 (most : Nat)) rfl) ?_)))
  refine RL.ca (R := fun v w' => v = .int .i64 (n % (most + 1) : Nat) ∧ w5 = w') hver.1 ?_ ?_
  · refine Calls.mono (hver.2 w5 n most hn hm) ?_
    rintro e w' ⟨rfl, rfl⟩
    exact ⟨_, rfl, rfl, rfl⟩
  rintro v w6 ⟨rfl, rfl⟩
  refine RL.step MR.mv ?_
  have hagc := hag.2 w5 (n % (most + 1)) ad5 (kWrite fs flex ((n % (most + 1) : Nat) : Int) t) c5 ev hmod hby5 hlen (B5.kp _ _ hev) herr (fun ds' ts' r h => by
    rw [hd1] at h
    simp only [Option.some.injEq, Prod.mk.injEq] at h
    obtain ⟨⟨rfl, rfl⟩, rfl⟩ := h
    exact ⟨hd3, hd4, by rw [hd2]; exact hlen⟩)
  refine RL.ca (R := fun v w' => ∃ sv, v = .tuple #[sv, .bool true] ∧ OwnB S.T.u8 w' w5.heap.size sv (kWrite fs flex ((n % (most + 1) : Nat) : Int) t) ∧ Below w5.heap.size w5 w') hag.1 ?_ ?_
  · refine Calls.mono hagc ?_
    rintro e w' ⟨hb', ⟨ds', ts', r, sv, h, rfl, ho⟩ | ⟨h, _⟩⟩
    · rw [hd1] at h
      simp only [Option.some.injEq, Prod.mk.injEq] at h
      obtain ⟨⟨rfl, rfl⟩, rfl⟩ := h
      exact ⟨_, rfl, sv, rfl, by rw [← hd2]; exact ho, hb'⟩
    · rw [hd1] at h; cases h
  rintro v w7 ⟨sv, rfl, o7, b7⟩
  have B7 : Below w.heap.size w w7 := B5.trans (b7.mono B5.size)
  obtain ⟨ad7, c7, rfl, had7, hc7, hby7⟩ := o7.bytes
  refine RL.step MR.mv (RL.step (MR.ext (v := .slice ad7 (kWrite fs flex ((n % (most + 1) : Nat) : Int) t).length c7) rfl) (RL.step (MR.ext (v := .bool true) rfl) (RL.step MR.mv (RL.step MR.mv (RL.nil ?_)))))
  refine RW.sq (RW.sq (RW.rg (RL.step (MR.mv (v := .slice ad5 (kWrite fs flex ((n % (most + 1) : Nat) : Int) t).length c5) rfl) (RL.step (MR.ln ok.tk.u8s rfl) (RL.step (MR.biE (v := .bool (((kWrite fs flex ((n % (most + 1) : Nat) : Int) t).length : Int) == 0)) rfl) (RL.nil ?_))))))
  refine RW.cd rfl (fun e0 => RW.sq (RW.rg (RL.step (MR.mv (v := .bool true) rfl) (RL.step MR.mv (RL.nil (RW.rt ⟨rfl, B7⟩)))))) (fun e0 => RW.sk ?_)
  have hl0 : 0 < (kWrite fs flex ((n % (most + 1) : Nat) : Int) t).length := by have := beq_eq_false_iff_ne.1 e0; omega
  have hklt : mc % (kWrite fs flex ((n % (most + 1) : Nat) : Int) t).length < (kWrite fs flex ((n % (most + 1) : Nat) : Int) t).length := Nat.mod_lt _ hl0
  have hrem : evB .rem (.int .i64 (mc : Nat)) (.int .i64 ((kWrite fs flex ((n % (most + 1) : Nat) : Int) t).length : Nat)) = some (.int .i64 ((mc % (kWrite fs flex ((n % (most + 1) : Nat) : Int) t).length : Nat) : Int)) := by
    simp only [evB]
    rw [if_pos ⟨trivial, by omega⟩]
    rfl
  have hu8 : (P.info? S.T.u8).isSome = true := by obtain ⟨i, hi, _⟩ := u8Ty_info ok.tk.u8; rw [hi]; rfl
  have hby57 : BytesAt w7 (fun _ => True) ad5 (kWrite fs flex ((n % (most + 1) : Nat) : Int) t) := hby5.kp b7.kp
  refine RW.sq (RW.gd ok.mo (Below w7.heap.size w7) (below_drew1 _ _) ?_)
  have hS7 : ∀ {wa wb : World}, Below w7.heap.size w7 wa → Below wa.heap.size wa wb → Below w7.heap.size w7 wb := fun h k => h.trans (k.mono h.size)
  refine RG.q (fun _ _ => MR.mv (v := .int .u8 n) rfl) (RG.q (fun _ _ => MR.mv (v := .int .i64 (most : Nat)) rfl) (RG.q (fun _ _ => MR.mv (v := .slice ad5 (kWrite fs flex ((n % (most + 1) : Nat) : Int) t).length c5) rfl) (RG.q (fun _ _ => MR.mv (v := .int .u16 (mc : Nat)) rfl)
    (RG.q (fun _ _ => MR.cvI rfl (ok.tk.u16 h16u) ok.tk.int) ?_))))
  rw [wrap_i64 (show -9223372036854775808 ≤ (mc : Int) by omega) (by omega)]
  refine RG.q (fun _ _ => MR.mv (v := .slice ad5 (kWrite fs flex ((n % (most + 1) : Nat) : Int) t).length c5) rfl) (RG.q (fun _ _ => MR.ln ok.tk.u8s rfl) (RG.q (v := .int .i64 ((mc % (kWrite fs flex ((n % (most + 1) : Nat) : Int) t).length : Nat) : Int)) (fun _ _ => MR.biE hrem)
      (RG.q (v := .slice ad5 (mc % (kWrite fs flex ((n % (most + 1) : Nat) : Int) t).length) c5) (fun _ _ => MR.sl (run_sliceTo (h := mc % (kWrite fs flex ((n % (most + 1) : Nat) : Int) t).length) ok.tk.u8s hu8 had5 (by omega))) ?_)))
  refine RG.ca (R := fun v w' => v = .int .i64 (n % (most + 1) : Nat) ∧ Below w7.heap.size w7 w') hver.1 (fun h0 => ?_) ?_
  · refine Calls.mono (hver.2 (World.drew1 w7) n most hn hm) ?_
    rintro e w' ⟨rfl, rfl⟩
    exact ⟨_, rfl, ⟨rfl, h0⟩, h0⟩
  rintro v w8 ⟨rfl, b8⟩
  have hk1 : ((kWrite fs flex ((n % (most + 1) : Nat) : Int) t).take (mc % (kWrite fs flex ((n % (most + 1) : Nat) : Int) t).length)).length = mc % (kWrite fs flex ((n % (most + 1) : Nat) : Int) t).length := by rw [List.length_take]; omega
  have hnone := hcut (n % (most + 1)) _ hmod hklt
  have hag2 := hag.2 w8 (n % (most + 1)) ad5 ((kWrite fs flex ((n % (most + 1) : Nat) : Int) t).take (mc % (kWrite fs flex ((n % (most + 1) : Nat) : Int) t).length)) c5 ev hmod ((hby57.take _).kp b8.kp) (by rw [hk1]; omega) (b8.kp _ _ (B7.kp _ _ hev)) herr (fun ds' ts' r h => by rw [hnone] at h; cases h)
  rw [hk1] at hag2
  refine RG.ca (R := fun v w' => v = .tuple #[.slice none 0 0, .bool false] ∧ Below w7.heap.size w7 w') hag.1 (fun h0 => ?_) ?_
  · refine Calls.mono hag2 ?_
    rintro e w' ⟨hb', ⟨ds', ts', r, sv, h, _⟩ | ⟨_, rfl⟩⟩
    · rw [hnone] at h; cases h
    · exact ⟨_, rfl, ⟨rfl, hS7 h0 hb'⟩, hS7 h0 hb'⟩
  rintro v w9 ⟨rfl, b9⟩
  refine RG.q (fun _ _ => MR.mv (v := .tuple #[.slice none 0 0, .bool false]) rfl) (RG.q (fun _ _ => MR.ext (v := .slice none 0 0) rfl) (RG.q (fun _ _ => MR.ext (v := .bool false) rfl) (RG.q (fun _ _ => MR.mv (v := .slice none 0 0) rfl) (RG.q (fun _ _ => MR.mv (v := .bool false) rfl) (RG.nil fun b09 => ?_)))))
  have B9 : Below w.heap.size w w9 := B7.trans (b09.mono B7.size)
  refine RW.sq (RW.gf (Below w9.heap.size w9) (Below.refl _ _) ?_)
  refine RG.q (fun _ _ => MR.mv (v := .bool true) rfl) (RG.q (fun _ _ => MR.mv (v := .bool true) rfl) (RG.q (fun _ _ => MR.mv (v := .bool false) rfl) (RG.q (v := .bool true) (fun _ _ => MR.nt (b := false) rfl) (RG.q (fun _ _ => MR.pk (b := true) (v := .bool true) rfl rfl) (RG.q (fun _ _ => MR.mv (v := .bool true) rfl) (RG.nil fun h => RW.rt ⟨rfl, B9⟩))))))
end
end Go.Kx
namespace Go.Kx
open Go.RowKit
set_option linter.unusedSimpArgs false
set_option linter.unusedVariables false
def cLess (K : EN) : MCode := .sq (.rg [.mv 5 (.c (.bool false))]) (.sq (.gr true [⟨0, none, .ld 6 K.tKs 2⟩, ⟨1, none, .mv 7 (.t 0)⟩, ⟨2, none, .ia 8 K.tKs 6 7⟩, ⟨3, none, .ld 9 K.tU32 8⟩, ⟨4, none, .ld 10 K.tKs 2⟩, ⟨5, none, .mv 11 (.t 1)⟩, ⟨6, none, .ia 12 K.tKs 10 11⟩, ⟨7, none, .ld 13 K.tU32 12⟩, ⟨8, none, .bi 14 .lss K.tU32 (.t 9) (.t 13)⟩, ⟨9, none, .mv 5 (.t 14)⟩]) .rt)
section
variable {P : Program} {w : World} {T : IT} {K : EN}
theorem less_ok {f : Nat} (te : TgE P K T) (hmo : P.follows .mixedOrders = true) (hf : FnIs P f (cLess K) 15 5) {db g o n c i j a b : Nat} (hc : w.cell? ⟨db, 0, none⟩ = some (.slice (some ⟨g, o, none⟩) n c)) (hi : i < n) (hj : j < n) (ha : w.cell? ⟨g, o + i, none⟩ = some (u32V a)) (hb : w.cell? ⟨g, o + j, none⟩ = some (u32V b)) :
    Calls P f #[.int .i64 (i : Nat), .int .i64 (j : Nat), .pointer (some ⟨db, 0, none⟩)] w (fun e w' => e = .returned (.bool (decide (a < b))) ∧ w' = World.drew1 w) := by
  refine hf.runs (args := [.int .i64 (i : Nat), .int .i64 (j : Nat), .pointer (some ⟨db, 0, none⟩)]) (by simp) (by omega) ?_
  refine RW.sq (RW.rg (RL.step MR.mv (RL.nil (RW.sq (RW.gd hmo (fun w' => Kp w w') (drew1_kp w) ?_)))))
  refine RG.q (fun w' h => MR.ld (p := ⟨db, 0, none⟩) rfl te.pk (h _ _ hc)) (RG.q (fun _ _ => MR.mv (v := .int .i64 (i : Nat)) rfl) (RG.q (fun _ _ => MR.ia (k := .i64) te.ks te.cu rfl rfl hi) (RG.q (fun w' h => MR.ld rfl te.pu (by rw [Nat.mul_one]; exact h _ _ ha))
    (RG.q (fun w' h => MR.ld (p := ⟨db, 0, none⟩) rfl te.pk (h _ _ hc)) (RG.q (fun _ _ => MR.mv (v := .int .i64 (j : Nat)) rfl) (RG.q (fun _ _ => MR.ia (k := .i64) te.ks te.cu rfl rfl hj) (RG.q (fun w' h => MR.ld rfl te.pu (by rw [Nat.mul_one]; exact h _ _ hb))
      (RG.q (v := .bool (decide ((a : Int) < (b : Nat)))) (fun _ _ => MR.biE rfl) (RG.q (fun _ _ => MR.mv (v := .bool (decide ((a : Int) < (b : Nat)))) rfl) (RG.nil fun _ => RW.rt ⟨?_, rfl⟩))))))))))
  show Ending.returned (.bool _) = _
  congr 2
  by_cases h : a < b
  · rw [decide_eq_true h, decide_eq_true (by omega)]
  · rw [decide_eq_false h, decide_eq_false (by omega)]
end
end Go.Kx
namespace Go.Kx
open Go.RowKit
set_option linter.unusedSimpArgs false
set_option linter.unusedVariables false
section
variable {P : Program} {S : SN} {w w' : World} {Q : Exit → (Nat → Value) → World → Prop} {ρ : Nat → Value}
end
end Go.Kx
namespace Go.Kx
open Go.RowKit
set_option linter.unusedSimpArgs false
set_option linter.unusedVariables false
theorem sp_tags {P : Program} {S : SN} {SU : List (Nat × List UInt8) → Prop} (sp : SPC P S SU) (hby : bytesLe P S.tg 1000 = true) (hf : FnIs P S.fUnk (cUnk S) 85 4) : SPC P S keysOk :=
  { ok := sp.ok, su0 := fun x hx => by simp at hx, fixed := sp.fixed, uvar := sp.uvar, width := sp.width, counted := sp.counted, whole := sp.whole, things := sp.things, has := sp.has, null := sp.null, at_ := sp.at_, known := sp.known,
    unk := ⟨hf.ent, fun w0 w ad c fs v u h1 h2 h3 h5 h4 _ => (unk_ok sp.ok hby hf sp.known).2 w0 w ad c fs v u h1 h2 h3 h5 h4 trivial⟩, value := sp.value, field := sp.field, part := sp.part }
/-! ### Sixteen octets, copied into an array -/
section
variable {P : Program} {w w' : World}
theorem Fr.ofBelowX {lo b o n : Nat} (h : Below lo w w') (hb : b < lo) : Fr (fun k => lo ≤ k) b o n w w' :=
  ⟨h.os, h.tape, h.output, h.size, fun k _ _ hk => h.block k (by omega), fun j _ => cell_of_heap (h.block b hb), fun o' n' ht => there_keep ht (h.block b hb)⟩
theorem heap_box (w : World) (o : Obj) : (w.alloc o).heap[w.heap.size]? = some o := by
  show (w.heap.push o)[w.heap.size]? = _
  simp
theorem row_at {q : Nat} {cs : List Value} {A : Nat} (hh : w.heap[q]? = some (.cells cs.toArray A (0, 0))) : w.rangeAt q 0 cs := by
  intro j v hj
  rw [Nat.zero_add]
  unfold World.cell?
  simp [hh, hj]
theorem run_copy16 {T U q c A lo : Nat} {F : Nat → Prop} {ad : Option Addr} {l : List UInt8} (hT : sliceOf P T U = true) (hU : u8Ty P U = true) (hb : BytesAt w F ad l) (hlo : lo ≤ q) (hh : w.heap[q]? = some (.cells (List.replicate 16 (Value.int .u8 0)).toArray A (0, 0))) :
    ∃ v w2, (∀ ty, (Builtin.copy_ #[T, T] ty #[.slice (some ⟨q, 0, none⟩) 16 16, .slice ad l.length c]).run P w = .ok v w2) ∧ Below lo w w2 ∧ (∀ k, k ≠ q → w2.heap[k]? = w.heap[k]?) ∧ w2.rangeAt q 0 (((l ++ List.replicate 16 0).take 16).map byteV) := by
  obtain ⟨i, hi, hs, hby, hz⟩ := u8Ty_info hU
  have hz0 : ∀ n, List.replicate n (Value.int .u8 0) = (List.replicate n (0 : UInt8)).map byteV := fun n => by rw [List.map_replicate]; rfl
  have hsz : (P.info? U).map (·.size) = some 1 := by rw [hi]; simp [hs]
  by_cases hl : l.length = 0
  · have : l = [] := List.eq_nil_of_length_eq_zero hl
    subst this
    refine ⟨_, _, fun ty => run_copy_none (P := P) _ T T ty U (some ⟨q, 0, none⟩) ad 16 16 0 c (sliceOf_eq hT) hsz (by simp), Below.refl _ _, fun _ _ => rfl, ?_⟩
    have := row_at hh
    rw [hz0] at this
    simpa using this
  · obtain ⟨b0, hb0⟩ : ∃ b, l[0]? = some b := ⟨l[0], List.getElem?_eq_getElem (by omega)⟩
    obtain ⟨g, o, rfl, _, _⟩ := hb 0 b0 hb0
    have hcopy := fun ty => run_copy_row (P := P) w T T ty U q 0 16 16 ⟨g, o, none⟩ l.length c (List.replicate 16 (Value.int .u8 0)).toArray A ((l.take 16).map byteV) (sliceOf_eq hT) hsz hh
      (by simp [Nat.min_comm]) (fun j v hv => by
        rw [List.getElem?_map, Option.map_eq_some_iff] at hv
        obtain ⟨b, hb1, rfl⟩ := hv
        rw [List.getElem?_take] at hb1
        split at hb1
        · obtain ⟨g', o', he, _, hc⟩ := hb j b hb1
          cases he
          rw [Addr.add_mid]; exact hc
        · simp at hb1) (by simp; omega) (by intro v hv; simp only [List.mem_map] at hv; obtain ⟨b, _, rfl⟩ := hv; rfl)
    refine ⟨_, _, hcopy, below_setRow (Below.refl _ _) hlo _, fun k hk => setRow_other w q k _ hk, ?_⟩
    have e : ((List.take 0 (List.replicate 16 (Value.int .u8 0)).toArray.toList ++ (l.take 16).map byteV ++ List.drop (0 + ((l.take 16).map byteV).length) (List.replicate 16 (Value.int .u8 0)).toArray.toList)) = ((l ++ List.replicate 16 0).take 16).map byteV := by
      simp only [List.take_zero, List.nil_append, Nat.zero_add, List.length_map, List.length_take]
      rw [hz0, ← List.map_drop, ← List.map_append]
      congr 1
      rw [List.drop_replicate, List.take_append]
      rw [List.take_replicate]
      congr 2; omega
    rw [e]
    exact row_at (w := w.setRow q _) (setRow_heap w q _ _ A (0, 0) hh)
end
def cUuidR (R : RN) : MCode :=
  .sq (.rg [.al 2 R.tA]) (.sq (.rg [.al 3 R.tA]) (.sq (.gr true [⟨0, none, .sl 4 R.tA 3 none none none⟩, ⟨1, none, .mv 5 (.t 0)⟩, ⟨2, none, .ca 6 R.span [.t 5, .c (.int .i64 16)]⟩, ⟨3, none, .cp 7 R.T.u8s R.T.u8s 4 6⟩]) (.sq (.rg [.ld 8 R.tA 3, .st R.tA 2 8]) .rt)))
theorem drew1_below (lo : Nat) (w : World) : Below lo w (World.drew1 w) := ⟨rfl, rfl, rfl, Nat.le_refl _, fun _ _ => rfl⟩
theorem uuid_ok {P : Program} {R : RN} {f : Nat} {flex : Bool} (ok : ROK P R) (hA : arrOf P R.tA 16 R.T.u8 = true) (hrow : rowTy P R.tA = true) (hc : cellsB P R.tA 16 = true) (hz : zeroIs P R.tA (List.replicate 16 (.int .u8 0)) = true) (hsp : SpanC P R.span) (hf : FnIsC P f (cUuidR R) 9 2 R.tA) : RdC P f (dP .uuid flex) (PrC .uuid) := by
  have hzz := zeroIs_of hz
  rw [List.map_replicate] at hzz
  obtain ⟨iz, hiz, hzv⟩ := hzz
  have hU8 : (P.info? R.T.u8).isSome = true := by obtain ⟨i, hi, _⟩ := u8Ty_info ok.tk.u8; rw [hi]; rfl
  refine ⟨hf.ent, fun w rb sb st h hne => ?_⟩
  have hrb := h.lt
  refine hf.runs (args := [.pointer (some ⟨rb, 0, none⟩)]) (by simp) (by omega) ?_
  refine RW.sq (RW.rg (RL.step (MR.al ⟨iz, hiz, hzv⟩) (RL.nil (RW.sq (RW.rg (RL.step (MR.al ⟨iz, hiz, hzv⟩) (RL.nil ?_)))))))
  have b1 := below_box w (.cells (List.replicate 16 (Value.int .u8 0)).toArray R.tA)
  have s1 := size_box w (.cells (List.replicate 16 (Value.int .u8 0)).toArray R.tA)
  have t1 := there_box w (List.replicate 16 (Value.int .u8 0)) R.tA
  have b2 := below_box (w.alloc (.cells (List.replicate 16 (Value.int .u8 0)).toArray R.tA)) (.cells (List.replicate 16 (Value.int .u8 0)).toArray R.tA)
  have s2 := size_box (w.alloc (.cells (List.replicate 16 (Value.int .u8 0)).toArray R.tA)) (.cells (List.replicate 16 (Value.int .u8 0)).toArray R.tA)
  have hq : ((w.alloc (.cells (List.replicate 16 (Value.int .u8 0)).toArray R.tA)).alloc (.cells (List.replicate 16 (Value.int .u8 0)).toArray R.tA)).heap[(w.alloc (.cells (List.replicate 16 (Value.int .u8 0)).toArray R.tA)).heap.size]? = some (.cells (List.replicate 16 (Value.int .u8 0)).toArray R.tA (0, 0))  := heap_box _ _
  show RW P 9 _ _ (upd _ 3 (.pointer (some ⟨(w.alloc (.cells (List.replicate 16 (Value.int .u8 0)).toArray R.tA)).heap.size, 0, none⟩))) ((w.alloc (.cells (List.replicate 16 (Value.int .u8 0)).toArray R.tA)).alloc (.cells (List.replicate 16 (Value.int .u8 0)).toArray R.tA))
  rw [s1] at hq ⊢
  generalize (w.alloc (.cells (List.replicate 16 (Value.int .u8 0)).toArray R.tA)) = w1 at b1 s1 t1 b2 s2 hq ⊢
  generalize w1.alloc (.cells (List.replicate 16 (Value.int .u8 0)).toArray R.tA) = w2 at b2 s2 hq ⊢
  have b02 : Below w.heap.size w w2 := b1.trans (b2.mono (by omega))
  have t2 : w2.there w.heap.size 0 16 := by
    have := there_keep t1 (b2.block w.heap.size (by omega))
    simpa using this
  refine RW.sq (RW.gd ok.mo (S := fun _ => True) trivial ?_)
  have bd := b02.trans (drew1_below w.heap.size w2)
  refine RG.q (v := .slice (some ⟨w.heap.size + 1, 0, none⟩) 16 16) (fun _ _ => MR.slArr (p := ⟨w.heap.size + 1, 0, none⟩) hA hU8 (by omega) rfl) ?_
  refine RG.q (v := .pointer (some ⟨rb, 0, none⟩)) (fun _ _ => MR.mv rfl) ?_
  have h2 : RdAt (World.drew1 w2) rb sb st := h.below bd
  refine RG.ca (R := fun v w' => ∃ ad l st', v = .slice ad (List.length l) (List.length l) ∧ Fr (fun _ => False) rb 0 2 (World.drew1 w2) w' ∧ Got (dSpan 16) st l st' ∧ RdAt w' rb sb st' ∧ BytesAt w' (· = sb) ad l) hsp.1 (fun _ => ?_) ?_
  · refine Calls.mono (hsp.2 (World.drew1 w2) rb sb st 16 h2 hne) ?_
    rintro e w' ⟨ad, l, st', rfl, k1, k2, k3, k4, k5⟩
    exact ⟨_, rfl, ⟨ad, l, st', rfl, k1, k2, k3, k5⟩, trivial⟩
  rintro v w3 ⟨ad, l, st', rfl, k1, k2, k3, k5⟩
  have hs2 : (World.drew1 w2).heap.size = w.heap.size + 2 := by show w2.heap.size = _; omega
  have hq3 : w3.heap[w.heap.size + 1]? = some (.cells (List.replicate 16 (Value.int .u8 0)).toArray R.tA (0, 0)) := by
    rw [k1.block (w.heap.size + 1) (by omega) (by omega) (fun x => x)]; exact hq
  obtain ⟨v4, w4, m1, m2, m3, m4⟩ := run_copy16 (T := R.T.u8s) (U := R.T.u8) (lo := w.heap.size) (c := l.length) ok.tk.u8s ok.tk.u8 k5 (by omega) hq3
  refine RG.x (MR.cpBy (by exact m1)) (fun x => x) ?_
  refine RG.nil fun _ => ?_
  have hl16 : (((l ++ List.replicate 16 (0 : UInt8)).take 16).map byteV).length = 16 := by simp
  have t4 : w4.there w.heap.size 0 16 := by
    have t3 : w3.there w.heap.size 0 16 := there_keep (show (World.drew1 w2).there w.heap.size 0 16 from t2) (k1.block _ (by omega) (by omega) (fun x => x))
    exact there_keep t3 (m3 _ (by omega))
  show RW P 9 _ _ _ w4
  refine RW.sq (RW.rg (RL.step (MR.ldRow (b := w.heap.size + 1) (o := 0) (cs := ((l ++ List.replicate 16 (0 : UInt8)).take 16).map byteV) rfl hrow (by rw [hl16]; exact hc) m4) (RL.stA (cs := ((l ++ List.replicate 16 (0 : UInt8)).take 16).map byteV) (b := w.heap.size) (o := 0) rfl rfl (by rw [hl16]; exact hc) (by rw [hl16]; exact t4) (by simp only [List.all_map, List.all_eq_true]; intro b _; rfl) (RL.nil (RW.rt ?_)))))
  have r5 := World.rangeAt_setCells_same w4 w.heap.size 0 (((l ++ List.replicate 16 (0 : UInt8)).take 16).map byteV) (by rw [hl16]; exact t4)
  refine ⟨⟨w.heap.size, 0, none⟩, .agg (((l ++ List.replicate 16 (0 : UInt8)).take 16).map byteV).toArray, rfl, run_loadAt_row hrow (by rw [hl16]; exact hc) r5, ?_⟩
  have b5 : Below w.heap.size w3 (w4.setCells w.heap.size 0 (((l ++ List.replicate 16 (0 : UInt8)).take 16).map byteV)) := below_setCells (Nat.le_refl _) _ _ m2
  have F : Fr (fun _ => False) rb 0 2 w (w4.setCells w.heap.size 0 (((l ++ List.replicate 16 (0 : UInt8)).take 16).map byteV)) :=
    (((Fr.ofBelow bd hrb).trans (k1.wide (fun _ x => x.elim) (Nat.le_refl _) (Nat.le_refl _))).trans (Fr.ofBelowX b5 hrb)).drop (fun k hk => .inr hk)
  have R5 : RdAt (w4.setCells w.heap.size 0 (((l ++ List.replicate 16 (0 : UInt8)).take 16).map byteV)) rb sb st' := by
    by_cases hsb : sb < w.heap.size
    · exact k3.keep (b5.block rb hrb) (b5.block sb hsb)
    · have hst : st' = none := by
        cases st with
        | none => exact Got.out k2
        | some l0 =>
          cases l0 with
          | nil =>
            cases hst' : st' with
            | none => rfl
            | some r => rw [hst'] at k2; simp [Got, dSpan, takeN] at k2
          | cons x xs =>
            obtain ⟨ad0, c0, g1, g2, g3, g4, g5⟩ := h
            obtain ⟨g, o, e1, e2, e3⟩ := g5 0 x rfl
            have := World.block_lt_of_cell? w _ e3
            simp only at this
            omega
      subst hst
      exact ⟨range_keep k3.1 (b5.block rb hrb), there_keep k3.2 (b5.block rb hrb)⟩
  refine ⟨_, .s (some ((l ++ List.replicate 16 0).take 16)), st', rfl, F, ?_, R5, rfl, hl16, ?_, ?_⟩
  rotate_left
  · show List.all (((l ++ List.replicate 16 (0 : UInt8)).take 16).map byteV) _ = true
    simp only [List.all_map, List.all_eq_true]; intro b _; rfl
  rotate_left
  · cases hst' : st' with
    | none =>
      rw [hst'] at k2
      refine Got.failed fun l0 hl0 => ?_
      subst hl0
      refine Dec.map_none ?_
      have : dSpan 16 l0 = none := k2
      unfold dSpan at this
      simpa using this
    | some r =>
      rw [hst'] at k2
      cases st with
      | none => simp [Got] at k2
      | some l0 =>
        have k2' : takeN 16 l0 = some (l, r) := by have : dSpan 16 l0 = some (l, r) := k2; unfold dSpan at this; simpa using this
        have hl : l.length = 16 := by
          unfold takeN at k2'
          split at k2'
          · simp only [Option.some.injEq, Prod.mk.injEq] at k2'
            rw [← k2'.1, List.length_take]; omega
          · simp at k2'
        have : (l ++ List.replicate 16 (0 : UInt8)).take 16 = l := by rw [List.take_append_of_le_length (by omega), List.take_of_length_le (by omega)]
        rw [this]
        exact (Dec.map_of (f := fun l => D.s (some l)) k2' : Dec.map _ (takeN 16) l0 = _)
  · exact ⟨(l ++ List.replicate 16 0).take 16, by simp, rfl, rfl⟩
/-! ### Octets behind their length -/
def cByt (R : RN) : MCode := .sq (.rg [.mv 2 (.c .nslice)]) (.sq (.rg [.mv 4 (.t 0), .ca 5 R.i32 [.t 4], .mv 3 (.t 5)])
  (.sq (.sq (.rg [.mv 6 (.t 3), .bi 7 .eql R.T.i32 (.t 6) (.c (.int .i32 (-1)))]) (.cd 7 (.sq (.rg [.bsl 8 R.T.u8s [], .mv 2 (.t 8)]) .rt) .sk))
  (.sq (.rg [.mv 9 (.t 0), .mv 10 (.t 3), .cv 11 R.T.i32 R.T.int 10, .ca 12 R.span [.t 9, .t 11], .mv 2 (.t 12)]) .rt)))
def cCByt (R : RN) : MCode := .sq (.rg [.mv 2 (.c .nslice)]) (.sq (.rg [.mv 4 (.t 0), .ca 5 R.uv [.t 4], .cv 6 R.T.u32 R.T.int 5, .bi 7 .sub R.T.int (.t 6) (.c (.int .i64 1)), .mv 3 (.t 7)])
  (.sq (.sq (.rg [.mv 8 (.t 3), .bi 9 .eql R.T.int (.t 8) (.c (.int .i64 (-1)))]) (.cd 9 (.sq (.rg [.bsl 10 R.T.u8s [], .mv 2 (.t 10)]) .rt) .sk))
  (.sq (.rg [.mv 11 (.t 0), .mv 12 (.t 3), .ca 13 R.span [.t 11, .t 12], .mv 2 (.t 13)]) .rt)))
theorem I32.wr {n : Int} (h : I32 n) : IntKind.i64.wrap n = n := by obtain ⟨a1, a2⟩ := h; simp [IntKind.wrap, IntKind.signed, IntKind.bits]; omega
theorem beq_dec (a b : Int) : (a == b) = decide (a = b) := by by_cases h : a = b <;> simp [h]
section
variable {P : Program} {R : RN}
theorem byt_ok {f : Nat} (ok : ROK P R) (h32 : R.T.i32 ≠ 0) (hi : RdC P R.i32 (dInt 4) (PlB (fun x => .int .i32 x) I32)) (hsp : SpanC P R.span) (hf : FnIs P f (cByt R) 13 2) : RdC P f (dP .byt false) (PrC .byt) := by
  refine ⟨hf.ent, fun w rb sb st h hne => ?_⟩
  refine hf.runs (args := [.pointer (some ⟨rb, 0, none⟩)]) (by simp) (by omega) ?_
  refine RW.sq (RW.rg (RL.step MR.mv (RL.nil (RW.sq (RW.rg (RL.step (MR.mv (v := .pointer (some ⟨rb, 0, none⟩)) rfl) (RL.rd hi rfl h hne (by rfl) (by decide) ?_)))))))
  rintro v x st1 w1 hF hG hR ⟨rfl, hx⟩
  have hrb1 := hR.lt
  refine RL.step MR.mv (RL.nil (RW.sq (RW.sq (RW.rg (RL.step (MR.mv (v := .int .i32 x) rfl) (RL.step (MR.biE (v := .bool (decide (x = -1))) (by show some (Value.bool (x == -1)) = _; rw [beq_dec])) (RL.nil ?_)))))))
  refine RW.cd rfl (fun e => ?_) (fun e => RW.sk ?_)
  · have e := of_decide_eq_true e
    refine RW.sq (RW.rg (RL.bsl8 (bs := []) ok.tk.u8s ok.tk.u8 rfl (by simp) (RL.step MR.mv (RL.nil (RW.rt ?_)))))
    have b1 := below_box w1 (.cells (([] : List UInt8).map byteV).toArray R.T.u8)
    exact ⟨_, .s (some []), st1, rfl, hF.trans (Fr.ofBelow b1 hrb1), hG.bind (by rw [if_pos e]; exact Got.pure _), hR.below b1, rfl, rfl, rfl, _, _, [], rfl, fun j b hj => by simp at hj, rfl⟩
  have e := of_decide_eq_false e
  refine RW.sq (RW.rg (RL.step (MR.mv (v := .pointer (some ⟨rb, 0, none⟩)) rfl) (RL.step (MR.mv (v := .int .i32 x) rfl) (RL.step (MR.cvI rfl (ok.tk.i32 h32) ok.tk.int) (RL.span (n := x) hsp rfl (by show Value.int .i64 (IntKind.i64.wrap x) = _; rw [hx.wr]) hR hne (by rfl) (by rfl) (by decide) ?_)))))
  intro ad l st2 w2 hF2 hG2 hR2 ha hb
  refine RL.step MR.mv (RL.nil (RW.rt ?_))
  exact ⟨_, .s (some l), st2, rfl, hF.trans hF2, hG.bind (by rw [if_neg e]; exact hG2.map (f := fun l => D.s (some l))), hR2, rfl, rfl, rfl, _, _, l, rfl, hb.mono (fun _ h => .inl h) (fun _ _ => rfl), rfl⟩
theorem cbyt_ok {f : Nat} (ok : ROK P R) (h32 : R.T.u32 ≠ 0) (hi : RdC P R.uv dUv (PlB (fun x => .int .u32 (x : Nat)) (· < 4294967296))) (hsp : SpanC P R.span) (hf : FnIs P f (cCByt R) 14 2) : RdC P f (dP .byt true) (PrC .byt) := by
  refine ⟨hf.ent, fun w rb sb st h hne => ?_⟩
  refine hf.runs (args := [.pointer (some ⟨rb, 0, none⟩)]) (by simp) (by omega) ?_
  refine RW.sq (RW.rg (RL.step MR.mv (RL.nil (RW.sq (RW.rg (RL.step (MR.mv (v := .pointer (some ⟨rb, 0, none⟩)) rfl) (RL.rd hi rfl h hne (by rfl) (by decide) ?_)))))))
  rintro v x st1 w1 hF hG hR ⟨rfl, hx⟩
  have hrb1 := hR.lt
  refine RL.step (MR.cvI rfl (ok.tk.u32 h32) ok.tk.int) (RL.step (MR.biE (v := .int .i64 ((x : Int) - 1)) (by show some (Value.int .i64 (IntKind.i64.wrap (IntKind.i64.wrap (x : Int) - 1))) = _; rw [u32_w hx])) (RL.step MR.mv (RL.nil (RW.sq (RW.sq (RW.rg (RL.step (MR.mv (v := .int .i64 ((x : Int) - 1)) rfl) (RL.step (MR.biE (v := .bool (decide ((x : Int) - 1 = -1))) (by show some (Value.bool (((x : Int) - 1) == -1)) = _; rw [beq_dec])) (RL.nil ?_)))))))))
  refine RW.cd rfl (fun e => ?_) (fun e => RW.sk ?_)
  · have e := of_decide_eq_true e
    refine RW.sq (RW.rg (RL.bsl8 (bs := []) ok.tk.u8s ok.tk.u8 rfl (by simp) (RL.step MR.mv (RL.nil (RW.rt ?_)))))
    have b1 := below_box w1 (.cells (([] : List UInt8).map byteV).toArray R.T.u8)
    exact ⟨_, .s (some []), st1, rfl, hF.trans (Fr.ofBelow b1 hrb1), (hG.map (f := fun n : Nat => (n : Int) - 1)).bind (by rw [if_pos e]; exact Got.pure _), hR.below b1, rfl, rfl, rfl, _, _, [], rfl, fun j b hj => by simp at hj, rfl⟩
  have e := of_decide_eq_false e
  refine RW.sq (RW.rg (RL.step (MR.mv (v := .pointer (some ⟨rb, 0, none⟩)) rfl) (RL.step (MR.mv (v := .int .i64 ((x : Int) - 1)) rfl) (RL.span (n := (x : Int) - 1) hsp rfl rfl hR hne (by rfl) (by rfl) (by decide) ?_))))
  intro ad l st2 w2 hF2 hG2 hR2 ha hb
  refine RL.step MR.mv (RL.nil (RW.rt ?_))
  exact ⟨_, .s (some l), st2, rfl, hF.trans hF2, (hG.map (f := fun n : Nat => (n : Int) - 1)).bind (by rw [if_neg e]; exact hG2.map (f := fun l => D.s (some l))), hR2, rfl, rfl, rfl, _, _, l, rfl, hb.mono (fun _ h => .inl h) (fun _ _ => rfl), rfl⟩
/-! ### Octets that may be null; numbers with a point -/
def cNByt (R : RN) : MCode := .sq (.rg [.mv 2 (.c .nslice)]) (.sq (.rg [.mv 5 (.t 0), .ca 6 R.i32 [.t 5], .mv 3 (.t 6)])
  (.sq (.sq (.rg [.mv 7 (.t 3), .bi 8 .lss R.T.i32 (.t 7) (.c (.int .i32 0))]) (.cd 8 (.sq (.rg [.mv 2 (.c .nslice)]) .rt) .sk))
  (.sq (.rg [.mv 9 (.t 0), .mv 10 (.t 3), .cv 11 R.T.i32 R.T.int 10, .ca 12 R.span [.t 9, .t 11], .mv 4 (.t 12)]) (.sq (.rg [.mv 13 (.t 4), .mv 2 (.t 13)]) .rt))))
def cCNByt (R : RN) : MCode := .sq (.rg [.mv 2 (.c .nslice)]) (.sq (.rg [.mv 5 (.t 0), .ca 6 R.uv [.t 5], .cv 7 R.T.u32 R.T.int 6, .bi 8 .sub R.T.int (.t 7) (.c (.int .i64 1)), .mv 3 (.t 8)])
  (.sq (.sq (.rg [.mv 9 (.t 3), .bi 10 .lss R.T.int (.t 9) (.c (.int .i64 0))]) (.cd 10 (.sq (.rg [.mv 2 (.c .nslice)]) .rt) .sk))
  (.sq (.rg [.mv 11 (.t 0), .mv 12 (.t 3), .ca 13 R.span [.t 11, .t 12], .mv 4 (.t 13)]) (.sq (.rg [.mv 14 (.t 4), .mv 2 (.t 14)]) .rt))))
theorem nbyt_fin {w : World} {sb : Nat} {ad : Option Addr} {l : List UInt8} {st2 : Option (List UInt8)} (ha : okAd ad) (hb : BytesAt w (· = sb) ad l) (h1 : st2 ≠ none → ad ≠ none) (h2 : st2 = none → ad = none ∧ l = []) : ∃ d, (st2 ≠ none → d = D.s (some l)) ∧ PrC .nbyt w (Rb w sb) (.slice ad l.length l.length) d := by
  cases st2 with
  | none =>
    obtain ⟨rfl, rfl⟩ := h2 rfl
    exact ⟨.s none, fun h => absurd rfl h, rfl, rfl, rfl, .inl ⟨rfl, rfl⟩⟩
  | some r =>
    cases ad with
    | none => exact absurd rfl (h1 (by simp))
    | some a => exact ⟨.s (some l), fun _ => rfl, rfl, rfl, rfl, .inr ⟨a, _, l, rfl, hb.mono (fun _ h => .inl h) (fun _ _ => rfl), rfl⟩⟩
theorem Got.chg {α : Type} {d : Dec α} {st st' : Option (List UInt8)} {x y : α} (h : Got d st x st') (hy : st' ≠ none → y = x) : Got d st y st' := by
  cases st' with
  | none => exact h
  | some r => rw [hy (by simp)]; exact h
theorem nbyt_ok {f : Nat} (ok : ROK P R) (h32 : R.T.i32 ≠ 0) (hi : RdCS P R.i32 (dInt 4) (PlB (fun x => .int .i32 x) I32)) (hsp : SpanCS P R.span) (hf : FnIs P f (cNByt R) 14 2) : RdC P f (dP .nbyt false) (PrC .nbyt) := by
  refine ⟨hf.ent, fun w rb sb st h hne => ?_⟩
  refine hf.runs (args := [.pointer (some ⟨rb, 0, none⟩)]) (by simp) (by omega) ?_
  refine RW.sq (RW.rg (RL.step MR.mv (RL.nil (RW.sq (RW.rg (RL.step (MR.mv (v := .pointer (some ⟨rb, 0, none⟩)) rfl) (RL.rdS hi rfl h hne (by rfl) (by decide) ?_)))))))
  rintro v x st1 w1 hF hG hR ⟨rfl, hx⟩ hA
  refine RL.step MR.mv (RL.nil (RW.sq (RW.sq (RW.rg (RL.step (MR.mv (v := .int .i32 x) rfl) (RL.step (MR.biE (v := .bool (decide (x < 0))) rfl) (RL.nil ?_)))))))
  refine RW.cd rfl (fun e => ?_) (fun e => RW.sk ?_)
  · have e := of_decide_eq_true e
    refine RW.sq (RW.rg (RL.step MR.mv (RL.nil (RW.rt ?_))))
    exact ⟨_, .s none, st1, rfl, hF, hG.bind (by rw [if_pos e]; exact Got.pure _), hR, rfl, rfl, rfl, .inl ⟨rfl, rfl⟩⟩
  have e := of_decide_eq_false e
  refine RW.sq (RW.rg (RL.step (MR.mv (v := .pointer (some ⟨rb, 0, none⟩)) rfl) (RL.step (MR.mv (v := .int .i32 x) rfl) (RL.step (MR.cvI rfl (ok.tk.i32 h32) ok.tk.int) (RL.spanS (n := x) hsp rfl (by show Value.int .i64 (IntKind.i64.wrap x) = _; rw [hx.wr]) hR hne (by rfl) (by rfl) (by decide) ?_)))))
  intro ad l st2 w2 hF2 hG2 hR2 ha hb hs1 hs2
  obtain ⟨d, hd1, hd2⟩ := nbyt_fin (st2 := st2) ha hb (fun hn => hs1 (hA (by rintro rfl; exact hn hG2.out)) hn) hs2
  refine RL.step MR.mv (RL.nil (RW.sq (RW.rg (RL.step (MR.mv (v := .slice ad l.length l.length) rfl) (RL.step MR.mv (RL.nil (RW.rt ?_)))))))
  have hd2' : PrC .nbyt w2 (Rb w sb) (.slice ad l.length l.length) d := by
    obtain ⟨a1, a2, a3, a4⟩ := hd2
    refine ⟨a1, a2, a3, RepP.mono a4 (fun b hb => hb.imp id (fun hb => ?_)) (fun _ _ => rfl)⟩
    exact Nat.le_trans (Nat.le_trans hF.size hF2.size) hb
  have hG3 : Got (dP .nbyt false) st (D.s (some l)) st2 := hG.bind (by rw [if_neg e]; exact hG2.map (f := fun l => D.s (some l)))
  exact ⟨_, d, st2, rfl, hF.trans hF2, hG3.chg hd1, hR2, hd2'⟩
theorem cnbyt_ok {f : Nat} (ok : ROK P R) (h32 : R.T.u32 ≠ 0) (hi : RdCS P R.uv dUv (PlB (fun x => .int .u32 (x : Nat)) (· < 4294967296))) (hsp : SpanCS P R.span) (hf : FnIs P f (cCNByt R) 15 2) : RdC P f (dP .nbyt true) (PrC .nbyt) := by
  refine ⟨hf.ent, fun w rb sb st h hne => ?_⟩
  refine hf.runs (args := [.pointer (some ⟨rb, 0, none⟩)]) (by simp) (by omega) ?_
  refine RW.sq (RW.rg (RL.step MR.mv (RL.nil (RW.sq (RW.rg (RL.step (MR.mv (v := .pointer (some ⟨rb, 0, none⟩)) rfl) (RL.rdS hi rfl h hne (by rfl) (by decide) ?_)))))))
  rintro v x st1 w1 hF hG hR ⟨rfl, hx⟩ hA
  refine RL.step (MR.cvI rfl (ok.tk.u32 h32) ok.tk.int) (RL.step (MR.biE (v := .int .i64 ((x : Int) - 1)) (by show some (Value.int .i64 (IntKind.i64.wrap (IntKind.i64.wrap (x : Int) - 1))) = _; rw [u32_w hx])) (RL.step MR.mv (RL.nil (RW.sq (RW.sq (RW.rg (RL.step (MR.mv (v := .int .i64 ((x : Int) - 1)) rfl) (RL.step (MR.biE (v := .bool (decide ((x : Int) - 1 < 0))) rfl) (RL.nil ?_)))))))))
  refine RW.cd rfl (fun e => ?_) (fun e => RW.sk ?_)
  · have e := of_decide_eq_true e
    refine RW.sq (RW.rg (RL.step MR.mv (RL.nil (RW.rt ?_))))
    exact ⟨_, .s none, st1, rfl, hF, (hG.map (f := fun n : Nat => (n : Int) - 1)).bind (by rw [if_pos e]; exact Got.pure _), hR, rfl, rfl, rfl, .inl ⟨rfl, rfl⟩⟩
  have e := of_decide_eq_false e
  refine RW.sq (RW.rg (RL.step (MR.mv (v := .pointer (some ⟨rb, 0, none⟩)) rfl) (RL.step (MR.mv (v := .int .i64 ((x : Int) - 1)) rfl) (RL.spanS (n := (x : Int) - 1) hsp rfl rfl hR hne (by rfl) (by rfl) (by decide) ?_))))
  intro ad l st2 w2 hF2 hG2 hR2 ha hb hs1 hs2
  obtain ⟨d, hd1, hd2⟩ := nbyt_fin (st2 := st2) ha hb (fun hn => hs1 (hA (by rintro rfl; exact hn hG2.out)) hn) hs2
  refine RL.step MR.mv (RL.nil (RW.sq (RW.rg (RL.step (MR.mv (v := .slice ad l.length l.length) rfl) (RL.step MR.mv (RL.nil (RW.rt ?_)))))))
  have hd2' : PrC .nbyt w2 (Rb w sb) (.slice ad l.length l.length) d := by
    obtain ⟨a1, a2, a3, a4⟩ := hd2
    refine ⟨a1, a2, a3, RepP.mono a4 (fun b hb => hb.imp id (fun hb => ?_)) (fun _ _ => rfl)⟩
    exact Nat.le_trans (Nat.le_trans hF.size hF2.size) hb
  have hG3 : Got (dP .nbyt true) st (D.s (some l)) st2 := (hG.map (f := fun n : Nat => (n : Int) - 1)).bind (by rw [if_neg e]; exact hG2.map (f := fun l => D.s (some l)))
  exact ⟨_, d, st2, rfl, hF.trans hF2, hG3.chg hd1, hR2, hd2'⟩
end
end Go.Kx
namespace Go.Kx
open Go.RowKit
set_option linter.unusedVariables false
set_option linter.unusedSimpArgs false
def rkB (P : Program) (R : RN) (G : TG) : List Bool := [(rokB P R).all id, (tgrB P G).all id,
  orNo R.be16 (isFn P R.be16 (cBe R R.T.u16 2 .u16) 18 4 && yes R.T.u16), orNo R.be32 (isFn P R.be32 (cBe R R.T.u32 4 .u32) 30 4 && yes R.T.u32), orNo R.be64 (isFn P R.be64 (cBe R R.T.u64 8 .u64) 54 4 && yes R.T.u64),
  orNo R.i16 (isFn P R.i16 (cNumC R 2 R.be16 R.T.u16 R.T.i16 .i16) 32 2 && yes R.be16 && yes R.T.u16 && yes R.T.i16), orNo R.i32 (isFn P R.i32 (cNumC R 4 R.be32 R.T.u32 R.T.i32 .i32) 32 2 && yes R.be32 && yes R.T.u32 && yes R.T.i32),
  orNo R.r64 (isFn P R.r64 (cNumU R 8 R.be64 .u64) 31 2 && yes R.be64), orNo R.i64 (isFn P R.i64 (cI64 R) 6 2 && yes R.r64 && yes R.T.u64 && yes R.T.i64), orNo R.bool (isFn P R.bool (cBool R) 32 2),
  orNo R.span (isFn P R.span (cSpan R) 40 4), orNo R.uvd (isFn2 P R.uvd (cUvd R) 87 2 3 && yes R.T.u32), orNo R.uv (isFn P R.uv (cRUv R) 31 2 && yes R.uvd && yes R.T.u32)]
theorem dNat_lt {k : Nat} {l r : List UInt8} {x : Nat} (h : dNat k l = some (x, r)) : x < 256 ^ k := by
  unfold dNat Dec.map at h
  cases ht : takeN k l with
  | none => simp [ht] at h
  | some p =>
    simp only [ht, Option.map_some, Option.some.injEq, Prod.mk.injEq] at h
    obtain ⟨rfl, _⟩ := h
    unfold takeN at ht
    split at ht
    · simp only [Option.some.injEq] at ht
      subst ht
      refine Nat.lt_of_lt_of_le (beVal_lt _) (Nat.pow_le_pow_right (by omega) (by simp; omega))
    · simp at ht
theorem rd_i16 {P : Program} {R : RN} {G : TG} (h : (rkB P R G).all id = true) : R.i16 ≠ 0 → RdC P R.i16 (dInt 2) (PlB (fun x => .int .i16 x) I16) := by
  simp only [rkB, List.all_cons, List.all_nil, id_eq, Bool.and_true, Bool.and_eq_true] at h
  obtain ⟨h1, h2, h3, h4, h5, h6, _⟩ := h
  intro e
  have ok := rok_of h1
  have := orNo_of h6 e
  simp only [Bool.and_eq_true] at this
  obtain ⟨⟨⟨a1, a2⟩, a3⟩, a4⟩ := this
  have hb := orNo_of h3 (yes_of a2)
  simp only [Bool.and_eq_true] at hb
  have hbe : BeC P R.be16 2 .u16 := be_ok ok ku16 (ok.tk.u16 (yes_of a3)) (by omega) (FnIs.of hb.1)
  exact (numC_ok ok hbe (by omega) (ok.tk.u16 (yes_of a3)) (ok.tk.i16 (yes_of a4)) (fun x hx => wrap_sgn16 hx) (FnIs.of a1)).c (fun l x r hd => by
    have := dInt_some (by omega) hd
    simp only [Nat.reducePow, Nat.reduceDiv] at this
    exact ⟨by omega, by omega⟩) ⟨by show (-32768 : Int) ≤ 0; omega, by show (0 : Int) ≤ 32767; omega⟩
theorem rd_i32S {P : Program} {R : RN} {G : TG} (h : (rkB P R G).all id = true) : R.i32 ≠ 0 → RdCS P R.i32 (dInt 4) (PlB (fun x => .int .i32 x) I32) := by
  simp only [rkB, List.all_cons, List.all_nil, id_eq, Bool.and_true, Bool.and_eq_true] at h
  obtain ⟨h1, h2, h3, h4, h5, h6, h7, _⟩ := h
  intro e
  have ok := rok_of h1
  have := orNo_of h7 e
  simp only [Bool.and_eq_true] at this
  obtain ⟨⟨⟨a1, a2⟩, a3⟩, a4⟩ := this
  have hb := orNo_of h4 (yes_of a2)
  simp only [Bool.and_eq_true] at hb
  have hbe : BeC P R.be32 4 .u32 := be_ok ok ku32 (ok.tk.u32 (yes_of a3)) (by omega) (FnIs.of hb.1)
  exact (numC_okS ok hbe (by omega) (ok.tk.u32 (yes_of a3)) (ok.tk.i32 (yes_of a4)) (fun x hx => wrap_sgn32 hx) (FnIs.of a1)).c (fun l x r hd => by
    have := dInt_some (by omega) hd
    simp only [Nat.reducePow, Nat.reduceDiv] at this
    exact ⟨by omega, by omega⟩) ⟨by show (-2147483648 : Int) ≤ 0; omega, by show (0 : Int) ≤ 2147483647; omega⟩
theorem rd_i32 {P : Program} {R : RN} {G : TG} (h : (rkB P R G).all id = true) : R.i32 ≠ 0 → RdC P R.i32 (dInt 4) (PlB (fun x => .int .i32 x) I32) := fun e => (rd_i32S h e).n
theorem rd_uvS {P : Program} {R : RN} {G : TG} (h : (rkB P R G).all id = true) : R.uv ≠ 0 → RdCS P R.uv dUv (PlB (fun x => .int .u32 (x : Nat)) (· < 4294967296)) := by
  simp only [rkB, List.all_cons, List.all_nil, id_eq, Bool.and_true, Bool.and_eq_true] at h
  obtain ⟨h1, _, _, _, _, _, _, _, _, _, _, h12, h13⟩ := h
  intro e
  have ok := rok_of h1
  have a := orNo_of h13 e
  simp only [Bool.and_eq_true] at a
  have b := orNo_of h12 (yes_of a.1.2)
  simp only [Bool.and_eq_true] at b
  exact ruv_okS ok (uvd_ok ok (yes_of b.2) (FnIs2.of b.1)) (FnIs.of a.1.1)
theorem rd_uv {P : Program} {R : RN} {G : TG} (h : (rkB P R G).all id = true) : R.uv ≠ 0 → RdC P R.uv dUv (PlB (fun x => .int .u32 (x : Nat)) (· < 4294967296)) := fun e => (rd_uvS h e).n
theorem rd_i64 {P : Program} {R : RN} {G : TG} (h : (rkB P R G).all id = true) : R.i64 ≠ 0 → RdC P R.i64 (dInt 8) (PlB (fun x => .int .i64 x) (fun n => -9223372036854775808 ≤ n ∧ n ≤ 9223372036854775807)) := by
  simp only [rkB, List.all_cons, List.all_nil, id_eq, Bool.and_true, Bool.and_eq_true] at h
  obtain ⟨h1, h2, h3, h4, h5, h6, h7, h8, h9, _⟩ := h
  intro e
  have ok := rok_of h1
  have a := orNo_of h9 e
  simp only [Bool.and_eq_true] at a
  obtain ⟨⟨⟨a1, a2⟩, a3⟩, a4⟩ := a
  have b := orNo_of h8 (yes_of a2)
  simp only [Bool.and_eq_true] at b
  have c := orNo_of h5 (yes_of b.2)
  simp only [Bool.and_eq_true] at c
  have hbe : BeC P R.be64 8 .u64 := be_ok ok ku64 (ok.tk.u64 (yes_of c.2)) (by omega) (FnIs.of c.1)
  exact (i64_ok ok (yes_of a3) (yes_of a4) (numU_ok ok hbe (by omega) (FnIs.of b.1)) (FnIs.of a1)).c (fun l x r hd => by
    have := dInt_some (by omega) hd
    simp only [Nat.reducePow, Nat.reduceDiv] at this
    exact ⟨by omega, by omega⟩) ⟨by show (-9223372036854775808 : Int) ≤ 0; omega, by show (0 : Int) ≤ 9223372036854775807; omega⟩
theorem rd_spanS {P : Program} {R : RN} {G : TG} (h : (rkB P R G).all id = true) : R.span ≠ 0 → SpanCS P R.span := by
  simp only [rkB, List.all_cons, List.all_nil, id_eq, Bool.and_true, Bool.and_eq_true] at h
  obtain ⟨h1, _, _, _, _, _, _, _, _, _, h11, _⟩ := h
  intro e
  exact span_okS (rok_of h1) (FnIs.of (orNo_of h11 e))
theorem rd_span {P : Program} {R : RN} {G : TG} (h : (rkB P R G).all id = true) : R.span ≠ 0 → SpanC P R.span := fun e => (rd_spanS h e).n
end Go.Kx
namespace Go.Kx
open Go.RowKit
set_option linter.unusedVariables false
set_option linter.unusedSimpArgs false
def cI8 (R : RN) : MCode :=
  .sq (.rg [.mv 2 (.c (.int .i8 0))]) (.sq (.sq (.rg (headR R 1 (.int .i8 0))) (.cd 9 (failM R (.int .i8 0) 2 10) .sk))
    (.sq (.rg [.mv 16 (.t 0), .nc 17 16, .fa 18 R.tR 17 0, .ld 19 R.T.u8s 18, .iak 20 R.T.u8s 19 0, .ld 21 R.T.u8 20, .mv 3 (.t 21)])
    (.sq (.rg (nextR R 1 22)) (.sq (.rg [.mv 30 (.t 3), .cv 31 R.T.u8 R.T.i8 30, .mv 2 (.t 31)]) .rt))))
theorem wrap_sgn8 {x : Nat} (h : x < 256) : IntKind.i8.wrap (x : Int) = sgn 1 x := by
  unfold sgn
  simp [IntKind.wrap, IntKind.signed, IntKind.bits]
  split <;> omega
theorem i8_ok {P : Program} {R : RN} {f : Nat} (ok : ROK P R) (h8 : R.T.i8 ≠ 0) (hf : FnIs P f (cI8 R) 32 2) : RdC P f (dInt 1) (PlB (fun x => .int .i8 x) (fun n => -128 ≤ n ∧ n ≤ 127)) := by
  refine ⟨hf.ent, fun w rb sb st h hne => ?_⟩
  refine hf.runs (args := [.pointer (some ⟨rb, 0, none⟩)]) (by simp) (by omega) ?_
  refine RW.sq (RW.rg (RL.step MR.mv (RL.nil (RW.sq (head_ok (n := 1) ok h rfl (by omega) (by omega) (fun hlt ρ' w' g1 g2 g3 => ?_) (fun l hl hnl ρ1 hρ => ?_))))))
  · refine ⟨_, 0, none, rfl, g3, Got.failed (fun l hl => ?_), g2, g1, by omega, by omega⟩
    subst hl; exact Dec.map_none (Dec.map_none (takeN_none hlt))
  · subst hl
    obtain ⟨y, hy⟩ : ∃ y, l[0]? = some y := ⟨_, List.getElem?_eq_getElem (by omega)⟩
    obtain ⟨ad, c, r1, r2, r3, r4, r5⟩ := h
    obtain ⟨g, o, rfl, hc, hlt⟩ := byte_at r5 hy
    show RW P 32 _ _ ρ1 w
    have q0 : ρ1 0 = .pointer (some ⟨rb, 0, none⟩) := by rw [hρ 0 (by omega)]; rfl
    refine RW.sq (RW.rg (RL.step (MR.mv q0) (RL.step (MR.nc rfl) (RL.step (MR.fa rfl ok.f0) (RL.step (MR.ld rfl ok.ps (r1 0 _ rfl)) (RL.step (MR.iak (sz := 1) ok.tk.u8s ok.cu rfl hlt) (RL.step (MR.ld rfl ok.pu hc)
      (RL.step MR.mv (RL.nil ?_)))))))))
    refine RW.sq (RW.rg (next_ok ok ⟨_, c, r1, r2, r3, r4, r5⟩ hne hnl q0 (by omega) (by omega) fun ρ2 w2 k1 k2 k3 => ?_))
    refine RW.sq (RW.rg (RL.step (MR.mv (v := .int .u8 (y.toNat : Int)) (by show ρ2 3 = _; rw [k1 3 (by omega)]; rfl)) (RL.step (MR.cvI rfl ok.tk.u8i (ok.tk.i8 h8)) (RL.step MR.mv (RL.nil (RW.rt ?_))))))
    have hbv : beVal (l.take 1) = y.toNat := by
      cases l with
      | nil => simp at hy
      | cons a l => simp at hy; subst hy; simp [beVal]
    have hy8 := y.toNat_lt
    refine ⟨_, sgn 1 y.toNat, some (l.drop 1), rfl, k3, ?_, k2, ?_, ?_, ?_⟩
    · show dInt 1 l = _
      have := Dec.map_of (f := sgn 1) (Dec.map_of (f := beVal) (takeN_yes hnl))
      rw [hbv] at this
      exact this
    · show Value.int .i8 (IntKind.i8.wrap (y.toNat : Int)) = _
      rw [wrap_sgn8 (by omega)]
    · show (-128 : Int) ≤ sgn 1 y.toNat; unfold sgn; split <;> omega
    · show sgn 1 y.toNat ≤ 127; unfold sgn; split <;> omega
def rk2B (P : Program) (R : RN) (G : TG) : List Bool := [
  orNo R.str (isFn P R.str (cStr R) 11 2 && yes R.T.str && yes R.T.i16 && yes R.i16 && yes R.span),
  orNo R.cstr (isFn P R.cstr (cCStr R) 12 2 && yes R.T.str && yes R.T.u32 && yes R.uv && yes R.span),
  orNo R.nstr (isFn P R.nstr (cNStr R) 14 2 && yes R.T.str && yes R.T.i16 && yes R.i16 && yes R.span && zOneB P R.T.str && cellsB P R.T.str 1),
  orNo R.cnstr (isFn P R.cnstr (cCNStr R) 15 2 && yes R.T.str && yes R.T.u32 && yes R.uv && yes R.span && zOneB P R.T.str && cellsB P R.T.str 1),
  orNo R.alen (isFn P R.alen (cALen R) 21 2 && yes R.T.i32 && yes R.i32),
  orNo R.calen (isFn P R.calen (cCALen R) 23 2 && yes R.T.i32 && yes R.T.u32 && yes R.uv),
  orNo R.okf (isFn P R.okf (cOk R) 8 2), isFn P R.compl (cCompl R) 8 2,
  orNo G.fRead (isFnC P G.fRead (cReadTags R G) 24 2 G.tSt && isFn0 P G.fSet (cTagSet G) 21 && yes R.T.u32 && yes R.uv && yes R.span),
  orNo R.u16 (isFn P R.u16 (cNumU R 2 R.be16 .u16) 31 2 && yes R.be16 && yes R.T.u16),
  orNo R.i8 (isFn P R.i8 (cI8 R) 32 2 && yes R.T.i8), orNo R.byt (isFn P R.byt (cByt R) 13 2 && yes R.T.i32 && yes R.i32 && yes R.span), orNo R.cbyt (isFn P R.cbyt (cCByt R) 14 2 && yes R.T.u32 && yes R.uv && yes R.span), orNo R.nbyt (isFn P R.nbyt (cNByt R) 14 2 && yes R.T.i32 && yes R.i32 && yes R.span), orNo R.cnbyt (isFn P R.cnbyt (cCNByt R) 15 2 && yes R.T.u32 && yes R.uv && yes R.span),
  orNo R.uuid (isFnC P R.uuid (cUuidR R) 9 2 R.tA && yes R.span && arrOf P R.tA 16 R.T.u8 && rowTy P R.tA && cellsB P R.tA 16 && zeroIs P R.tA (List.replicate 16 (.int .u8 0)))]
def F64R (P : Program) (R : RN) : Prop := R.f64 ≠ 0 → ∀ flex, RdC P R.f64 (dP .f64 flex) (PrC .f64)
theorem f64r_none {P : Program} {R : RN} (h : R.f64 = 0) : F64R P R := fun e => absurd h e
theorem rd_u16 {P : Program} {R : RN} {G : TG} (h : (rkB P R G).all id = true) (e : R.be16 ≠ 0) (h16 : R.T.u16 ≠ 0) (hf : FnIs P R.u16 (cNumU R 2 R.be16 .u16) 31 2) : RdC P R.u16 (dNat 2) (PlB (fun x => .int .u16 (x : Nat)) (· < 65536)) := by
  simp only [rkB, List.all_cons, List.all_nil, id_eq, Bool.and_true, Bool.and_eq_true] at h
  obtain ⟨h1, h2, h3, _⟩ := h
  have ok := rok_of h1
  have hb := orNo_of h3 e
  simp only [Bool.and_eq_true] at hb
  have hbe : BeC P R.be16 2 .u16 := be_ok ok ku16 (ok.tk.u16 h16) (by omega) (FnIs.of hb.1)
  exact (numU_ok ok hbe (by omega) hf).c (fun l x r hd => dNat_lt hd) (by decide)
theorem rk_of {P : Program} {R : RN} {G : TG} (h : (rkB P R G).all id = true) (h2 : (rk2B P R G).all id = true) (hfl : F64R P R) : RKOK P R G := by
  have hh := h
  simp only [rkB, List.all_cons, List.all_nil, id_eq, Bool.and_true, Bool.and_eq_true] at hh
  obtain ⟨k1, k2, _, _, _, _, _, _, _, k10, _⟩ := hh
  have ok := rok_of k1
  have tg := tgr_of k2
  simp only [rk2B, List.all_cons, List.all_nil, id_eq, Bool.and_true, Bool.and_eq_true] at h2
  obtain ⟨t1, t2, t3, t4, t5, t6, t7, t8, t9, t10, z1, z2, z3, z4, z5, z6⟩ := h2
  refine ⟨ok, tg, fun k flex e => ?_, fun e => ?_, fun e => ?_, fun e => okf_ok ok (FnIs.of (orNo_of t7 e)), compl_ok ok (FnIs.of t8), fun e => ?_, fun e => rd_uv h e, fun e => rd_span h e, fun e => ?_⟩
  · cases k <;> simp only [RN.fn] at e ⊢
    case i8 =>
      have := orNo_of z1 e
      simp only [Bool.and_eq_true] at this
      refine (i8_ok ok (yes_of this.2) (FnIs.of this.1)).map fun w F v x hx => ?_
      obtain ⟨rfl, a, b⟩ := hx
      exact ⟨rfl, rfl, rfl, x, rfl, rfl, a, b⟩
    case i16 =>
      refine (rd_i16 h e).map fun w F v x hx => ?_
      obtain ⟨rfl, a, b⟩ := hx
      exact ⟨rfl, rfl, rfl, x, rfl, rfl, a, b⟩
    case u16 =>
      have := orNo_of t10 e
      simp only [Bool.and_eq_true] at this
      refine (rd_u16 h (yes_of this.1.2) (yes_of this.2) (FnIs.of this.1.1)).map fun w F v x hx => ?_
      obtain ⟨rfl, a⟩ := hx
      exact ⟨rfl, rfl, rfl, _, rfl, rfl, by omega, by omega⟩
    case i32 =>
      refine (rd_i32 h e).map fun w F v x hx => ?_
      obtain ⟨rfl, a, b⟩ := hx
      exact ⟨rfl, rfl, rfl, x, rfl, rfl, a, b⟩
    case i64 =>
      refine (rd_i64 h e).map fun w F v x hx => ?_
      obtain ⟨rfl, a, b⟩ := hx
      exact ⟨rfl, rfl, rfl, x, rfl, rfl, a, b⟩
    case uuid =>
      have := orNo_of z6 e
      simp only [Bool.and_eq_true] at this
      obtain ⟨⟨⟨⟨⟨a1, a2⟩, a3⟩, a4⟩, a5⟩, a6⟩ := this
      exact uuid_ok ok a3 a4 a5 a6 (rd_span h (yes_of a2)) (FnIsC.of a1)
    case bool =>
      exact bool_ok ok flex (FnIs.of (orNo_of k10 e))
    case f64 =>
      exact hfl e flex
    case str =>
      cases flex <;> simp only [if_true, if_false, Bool.false_eq_true] at e ⊢
      · have := orNo_of t1 e
        simp only [Bool.and_eq_true] at this
        obtain ⟨⟨⟨⟨a1, a2⟩, a3⟩, a4⟩, a5⟩ := this
        exact str_ok ok (yes_of a2) (yes_of a3) (rd_i16 h (yes_of a4)) (rd_span h (yes_of a5)) (FnIs.of a1)
      · have := orNo_of t2 e
        simp only [Bool.and_eq_true] at this
        obtain ⟨⟨⟨⟨a1, a2⟩, a3⟩, a4⟩, a5⟩ := this
        exact cstr_ok ok (yes_of a2) (yes_of a3) (rd_uv h (yes_of a4)) (rd_span h (yes_of a5)) (FnIs.of a1)
    case nstr =>
      cases flex <;> simp only [if_true, if_false, Bool.false_eq_true] at e ⊢
      · have := orNo_of t3 e
        simp only [Bool.and_eq_true] at this
        obtain ⟨⟨⟨⟨⟨⟨a1, a2⟩, a3⟩, a4⟩, a5⟩, a6⟩, a7⟩ := this
        exact nstr_ok ok (yes_of a2) (yes_of a3) a6 a7 (rd_i16 h (yes_of a4)) (rd_span h (yes_of a5)) (FnIs.of a1)
      · have := orNo_of t4 e
        simp only [Bool.and_eq_true] at this
        obtain ⟨⟨⟨⟨⟨⟨a1, a2⟩, a3⟩, a4⟩, a5⟩, a6⟩, a7⟩ := this
        exact cnstr_ok ok (yes_of a2) (yes_of a3) a6 a7 (rd_uv h (yes_of a4)) (rd_span h (yes_of a5)) (FnIs.of a1)
    case byt =>
      cases flex <;> simp only [if_true, if_false, Bool.false_eq_true] at e ⊢
      · have := orNo_of z2 e
        simp only [Bool.and_eq_true] at this
        obtain ⟨⟨⟨a1, a2⟩, a3⟩, a4⟩ := this
        exact byt_ok ok (yes_of a2) (rd_i32 h (yes_of a3)) (rd_span h (yes_of a4)) (FnIs.of a1)
      · have := orNo_of z3 e
        simp only [Bool.and_eq_true] at this
        obtain ⟨⟨⟨a1, a2⟩, a3⟩, a4⟩ := this
        exact cbyt_ok ok (yes_of a2) (rd_uv h (yes_of a3)) (rd_span h (yes_of a4)) (FnIs.of a1)
    case nbyt =>
      cases flex <;> simp only [if_true, if_false, Bool.false_eq_true] at e ⊢
      · have := orNo_of z4 e
        simp only [Bool.and_eq_true] at this
        obtain ⟨⟨⟨a1, a2⟩, a3⟩, a4⟩ := this
        exact nbyt_ok ok (yes_of a2) (rd_i32S h (yes_of a3)) (rd_spanS h (yes_of a4)) (FnIs.of a1)
      · have := orNo_of z5 e
        simp only [Bool.and_eq_true] at this
        obtain ⟨⟨⟨a1, a2⟩, a3⟩, a4⟩ := this
        exact cnbyt_ok ok (yes_of a2) (rd_uvS h (yes_of a3)) (rd_spanS h (yes_of a4)) (FnIs.of a1)
  · have := orNo_of t5 e
    simp only [Bool.and_eq_true] at this
    exact alen_ok ok (yes_of this.1.2) (rd_i32 h (yes_of this.2)) (FnIs.of this.1.1)
  · have := orNo_of t6 e
    simp only [Bool.and_eq_true] at this
    obtain ⟨⟨⟨a1, a2⟩, a3⟩, a4⟩ := this
    exact calen_ok ok (yes_of a2) (yes_of a3) (rd_uv h (yes_of a4)) (FnIs.of a1)
  · have := orNo_of t9 e
    simp only [Bool.and_eq_true] at this
    obtain ⟨⟨⟨⟨a1, a2⟩, a3⟩, a4⟩, a5⟩ := this
    exact readTags_ok ok tg (yes_of a3) (rd_uv h (yes_of a4)) (rd_span h (yes_of a5)) (set_ok tg (FnIs0.of a2)) (FnIsC.of a1)
  · have := orNo_of t9 e
    simp only [Bool.and_eq_true] at this
    exact set_ok tg (FnIs0.of this.1.1.1.2)
end Go.Kx
namespace Go.Kx
open Go.RowKit Go.Proofs Go.Shelf Go.Sort Go.Lib
set_option linter.unusedVariables false
section
variable {P : Program} {w : World} {T : IT} {K : EN}
theorem swo_nat : SWO (fun a b : Nat => decide (a < b)) :=
  ⟨fun x => by simp, fun x y z h1 h2 => by simp only [decide_eq_true_eq] at *; omega, fun x y z h1 h2 => by simp only [decide_eq_false_iff_not] at *; omega⟩
theorem frozen_cells {g o : Nat} {cur : Array Value} {U : Nat} (h : w.heap[g]? = some (.cells cur U (0, 0))) : w.frozen? ⟨g, o, none⟩ = false := by
  simp [World.frozen?, h]
theorem sort_fin {U g n : Nat} {cur : Array Value} {ks : List Nat} (hg : w.heap[g]? = some (.cells cur U (0, 0))) (hl : ks.length = n) (hr : w.rangeAt g 0 (ks.map u32V)) (ht : w.there g 0 n) (hgs : g < w.heap.size)
    {d' : Array Nat} (hp : PermIn 0 ks.toArray.size ks.toArray d') (hs : SortedIn (fun a b : Nat => decide (a < b)) 0 ks.toArray.size d') {m : Nat} {os : Array Obj} :
    ∃ ks' : List Nat, ks'.Perm ks ∧ ks'.Pairwise (fun x y => x ≤ y) ∧ (grow (putRow u32V (Sort.ahead w m) g 0 d') os).rangeAt g 0 (ks'.map u32V) ∧ (∃ cur', (grow (putRow u32V (Sort.ahead w m) g 0 d') os).heap[g]? = some (.cells cur' U (0, 0))) ∧ Fr (fun _ => False) g 0 n w (grow (putRow u32V (Sort.ahead w m) g 0 d') os) := by
  have hsz : d'.size = n := by rw [hp.1]; simpa using hl
  have hH : Holds u32V (Sort.ahead w m) g 0 ks.toArray := fun j hj => by
    have hj' : j < ks.length := by simpa using hj
    refine ⟨?_, frozen_cells hg⟩
    have := hr j (u32V ks[j]) (by rw [List.getElem?_map, List.getElem?_eq_getElem hj']; rfl)
    rw [cell?_ahead, this, getElem!_pos _ j hj]
    simp
  have hgp : g < (putRow u32V (Sort.ahead w m) g 0 d').heap.size := by rw [Go.Sort.size_putRow]; exact hgs
  have hcell : ∀ j, j < n → (grow (putRow u32V (Sort.ahead w m) g 0 d') os).cell? ⟨g, 0 + j, none⟩ = some (u32V d'[j]!) := fun j hj => by
    rw [cell?_grow _ _ _ hgp, cell?_putRow u32V _ g 0 _ _ hH (by rw [hsz]; simpa using hl.symm) j (by omega)]
  have hblk : ∃ cur', (grow (putRow u32V (Sort.ahead w m) g 0 d') os).heap[g]? = some (.cells cur' U (0, 0)) := by
    refine ⟨putCells u32V 0 d' cur, ?_⟩
    rw [heap_grow_old _ _ hgp]
    simp only [putRow, mapBlock, Array.getElem?_modify, heap_ahead, hg, if_true, Option.map_some, onCells]
  refine ⟨d'.toList, ?_, ?_, ?_, hblk, ?_⟩
  · have := hp.2.2
    rw [← hp.1] at this
    simp only [Array.extract_size] at this
    rw [hp.1, Array.extract_size] at this
    simpa using this
  · rw [List.pairwise_iff_getElem]
    intro i j hi hj hij
    have hi' : i < d'.size := by simpa using hi
    have hj' : j < d'.size := by simpa using hj
    have := hs i j (Nat.zero_le _) hij (by rw [← hp.1]; exact hj')
    rw [getElem!_pos _ i hi', getElem!_pos _ j hj'] at this
    have := of_decide_eq_false this
    simp only [Array.getElem_toList]
    omega
  · intro j u hu
    rw [List.getElem?_map] at hu
    by_cases hj : j < d'.size
    · rw [hcell j (by omega), ← hu]
      rw [List.getElem?_eq_getElem (by simpa using hj), getElem!_pos _ j hj]
      simp
    · rw [List.getElem?_eq_none (by simpa using hj)] at hu; simp at hu
  · have hcell2 : ∀ j, (0 + n ≤ j) → (grow (putRow u32V (Sort.ahead w m) g 0 d') os).cell? ⟨g, j, none⟩ = w.cell? ⟨g, j, none⟩ := fun j hj => by
      rw [cell?_grow _ _ _ hgp, cell?_putRow_other _ _ _ _ _ _ (.inr (.inr (by show 0 + d'.size ≤ j; omega)))]; rfl
    refine ⟨rfl, rfl, rfl, ?_, fun k h1 h2 _ => ?_, fun j hj => hcell2 j (by omega), fun o' n' h j hj => ?_⟩
    · rw [size_grow, Go.Sort.size_putRow]; simp
    · rw [heap_grow_old _ _ (by rw [Go.Sort.size_putRow]; exact h1)]
      simp only [putRow, mapBlock, Array.getElem?_modify, heap_ahead]
      rw [if_neg (by omega)]
    · obtain ⟨h1, h2⟩ := h j hj
      obtain ⟨cur', hc'⟩ := hblk
      refine ⟨?_, frozen_cells hc'⟩
      by_cases hj2 : o' + j < n
      · rw [show o' + j = 0 + (o' + j) by omega, hcell _ hj2]; rfl
      · rw [hcell2 _ (by omega)]; exact h1
theorem sort_ok {fSort tS U fLess : Nat} (te : TgE P K T) (hK1 : K.tKs = tS) (hK2 : K.tU32 = U) (hmo : P.follows .mixedOrders = true) (hl : FnIs P fLess (cLess K) 15 5) (ent : entersB P fSort = true)
    (hbig : ∀ (lb : Array Value) (blk off c : Nat) (d : Array Nat), 2 ≤ d.size → d.size < 4611686018427387904 → ∀ w : World, LessReads P fLess lb u32V (fun a b : Nat => decide (a < b)) blk off d.size w → Holds u32V w blk off d → blk < w.heap.size →
      Calls P fSort #[.iface tS (.slice (some ⟨blk, off, none⟩) d.size c), .func (.func fLess) #[] lb] w (fun e w' => e = .returned (.tuple #[]) ∧ ∃ d' n os, PermIn 0 d.size d d' ∧ SortedIn (fun a b : Nat => decide (a < b)) 0 d.size d' ∧ w' = grow (putRow u32V (Sort.ahead w n) blk off d') os))
    (htiny : ∀ (p : Option Addr) (n c : Nat), n ≤ 1 → ∀ (lf : Fn) (la lb : Array Value) (w : World), Calls P fSort #[.iface tS (.slice p n c), .func lf la lb] w (fun e w' => e = .returned (.tuple #[]) ∧ ∃ os, w' = grow w os)) : SortC P tS U fSort fLess := by
  subst hK1 hK2
  refine ⟨ent, fun w db g n c cur ks hdb hg hlen hn hkb hr ht hne hgs => ?_⟩
  subst hlen
  by_cases h2 : 2 ≤ ks.length
  · have hd2 : ks.toArray.size = ks.length := by simp
    have hH : Holds u32V w g 0 ks.toArray := fun j hj => by
      have hj' : j < ks.length := by simpa using hj
      refine ⟨?_, frozen_cells hg⟩
      have := hr j (u32V ks[j]) (by rw [List.getElem?_map, List.getElem?_eq_getElem hj']; rfl)
      rw [this, getElem!_pos _ j hj]
      simp
    have hdbs : db < w.heap.size := (Array.getElem?_eq_some_iff.1 hdb).1
    have hless : LessReads P fLess #[.pointer (some ⟨db, 0, none⟩)] u32V (fun a b : Nat => decide (a < b)) g 0 ks.toArray.size w := by
      intro m os dk hs i j hi hj
      have hcd : (sortWorld u32V w g 0 m dk os).cell? ⟨db, 0, none⟩ = some (.slice (some ⟨g, 0, none⟩) ks.length c) := by
        unfold sortWorld
        rw [cell?_grow _ _ _ (by rw [Go.Sort.size_putRow]; exact hdbs), cell?_putRow_other _ _ _ _ _ _ (.inl (fun e => hne e.symm)), cell?_ahead]
        simp [World.cell?, hdb]
      have hc : ∀ t, t < ks.length → (sortWorld u32V w g 0 m dk os).cell? ⟨g, 0 + t, none⟩ = some (u32V dk[t]!) := fun t ht => by
        unfold sortWorld
        rw [cell?_grow _ _ _ (by rw [Go.Sort.size_putRow]; exact hgs), cell?_putRow u32V _ g 0 _ _ (holds_ahead _ _ m _ _ _ hH) hs t (by rw [hs, hd2]; exact ht)]
      exact (less_ok (i := i) (j := j) te hmo hl hcd (by simpa using hi) (by simpa using hj) (hc i (by simpa using hi)) (hc j (by simpa using hj))).mono fun e w' he => ⟨he.1, 1, he.2⟩
    have h := hbig #[.pointer (some ⟨db, 0, none⟩)] g 0 c ks.toArray (by simpa using h2) (by rw [hd2]; omega) w hless hH hgs
    rw [hd2] at h
    refine h.mono ?_
    rintro e w' ⟨he, d', m, os, hp, hso, rfl⟩
    exact ⟨he, sort_fin hg rfl hr ht hgs (by rw [hd2]; exact hp) (by rw [hd2]; exact hso)⟩
  · refine (htiny (some ⟨g, 0, none⟩) ks.length c (by omega) (.func fLess) #[] #[.pointer (some ⟨db, 0, none⟩)] w).mono ?_
    rintro e w' ⟨he, os, rfl⟩
    have hH : Holds u32V w g 0 ks.toArray := fun j hj => by
      have hj' : j < ks.length := by simpa using hj
      refine ⟨?_, frozen_cells hg⟩
      have := hr j (u32V ks[j]) (by rw [List.getElem?_map, List.getElem?_eq_getElem hj']; rfl)
      rw [this, getElem!_pos _ j hj]
      simp
    have e0 : grow w os = grow (putRow u32V (Sort.ahead w 0) g 0 ks.toArray) os := by rw [ahead_zero, putRow_self _ _ _ _ _ hH]
    refine ⟨he, ?_⟩
    rw [e0]
    refine sort_fin hg rfl hr ht hgs ⟨rfl, fun _ _ => rfl, List.Perm.refl _⟩ (fun i j _ h1 h2 => ?_)
    have : ks.toArray.size = ks.length := by simp
    omega
end
end Go.Kx
