/- spec.unknown, whole (UnkC of whatever keys). Conditions: the program's tables (SOK), known's contract.
   The laws' zzFits2, zzFits3, zzFits4: they yield a truth value. Conditions: the program's tables (SOK).
   The laws FnAgain..: the law's own code.
   The laws FnCut..: the law's own code.
   Each's order: the closure that compares two keys. Conditions: the program's tables.
   The laws FnAny..: the law's own code.
   The reference's functions over trees with tags. The reader's octets: sixteen of them, texts of octets. Conditions: the program's tables (ROK).
   The reader's contracts, as one test of the program.
   The reader's contracts, all of them, out of one test of the program.
   sort.Slice at a slice of keys, from the shelf's contracts (hbig, htiny: given where the shelf's text is laid), the closure's code.
   The laws FnAgain.., FnCut.., FnAny..: all that the program must pass, as Boolean tests; from them the laws' runs.
   How much the reference writes of a tree: at most so often the tree's size. No condition.
   An argument's tree as it is read (DataW): it lies in memory as a tree, keys fit, its bulk is no less than its size. Conditions: the tables' facts (treeB), the bulk's equations (BulkOk).
   From the laws' runs to what a row says of them: arguments opened, read again behind the call. Conditions: the program's tests, the row's closed facts. -/
import Derived.Test.YtpaoaobmaimibaaGreatDoorKxM
import Derived.Shelf.GgSortFunc.Whole
import Derived.Shelf.GgSortFunc.Tiny
import Derived.ChangeSlices
import Derived.ChangeArms
import Derived.Carry
import Derived.OpenShut
import Derived.ChangeShapes
import Derived.FnData
namespace Go.Kx
open Go.RowKit
set_option linter.unusedSimpArgs false
set_option linter.unusedVariables false
section
variable {P : Program} {S : SN} {w w' w0 : World} {Q : Exit → (Nat → Value) → World → Prop} {ρ : Nat → Value}
def insF (least : Nat) (out : List Tg) (t : Tg) : List Tg := if t.1 < least then out else insTag t out
theorem unk_elem {T : List Value → Tg → Prop} (hT : ∀ cs t, T cs t → TagRow w0 cs t) {least : Nat} (ok : SOK P S) (hby : bytesLe P S.tg 1000 = true) {sv : Value} {out : List Tg} {t : Tg} {g o i n c : Nat} {cs : List Value} (hB : Below w0.heap.size w0 w) (hout : OutR S T w0 w sv out) (hlen : out.length < 1000000) (hr : w.rangeAt g (o + i * 2) cs) (htr' : T cs t) (hin : i < n)
    (r5 : ρ 5 = .int .u32 (least : Nat)) (r6 : ρ 6 = sv) (r17 : ρ 17 = .slice (some ⟨g, o, none⟩) n c) (r19 : ρ 19 = .int .i64 (i : Nat))
    (hQ : ∀ ρ' w' sv', (∀ s, s = 5 ∨ s = 17 ∨ s = 18 ∨ s = 19 → ρ' s = ρ s) → ρ' 6 = sv' → OutR S T w0 w' sv' (insF least out t) → Below w0.heap.size w0 w' → Q .normal ρ' w') :
    RW P 85 (.bl 1 (.sq (.rg [.ia 21 S.tgs 17 19, .ld 22 S.tg 21, .al 8 S.tg, .st S.tg 8 22]) (.sq (.rg [.mv 9 (.c (.int .i64 (0)))])
      (.sq (.bl 2 (.lp (.sq (.sq (.gr true (unkG1 S)) (.cd 36 .sk (.ex 2))) (.bl 3 (.rg [.mv 37 (.t 9), .bi 38 .add S.T.int (.t 37) (.c (.int .i64 1)), .mv 9 (.t 38)])))))
      (.sq (.sq (.gr true (unkG2 S)) (.cd 58 (.ex 1) .sk))
      (.sq (.rg [.mv 59 (.t 6), .bdl 60 S.tg [], .bsl 61 S.tgs [.t 60], .ap 62 S.tgs S.tgs 59 61, .mv 6 (.t 62)])
      (.sq (.sq (.rg [.mv 63 (.t 6), .ln 64 S.tgs 63, .bi 65 .sub S.T.int (.t 64) (.c (.int .i64 (1))), .mv 10 (.t 65)])
      (.bl 4 (.lp (.sq (.sq (.rg [.mv 66 (.t 10), .mv 67 (.t 9), .bi 68 .gtr S.T.int (.t 66) (.t 67)]) (.cd 68 (.sk) (.ex 4)))
        (.sq (.bl 5 (.rg [.mv 71 (.t 6), .mv 72 (.t 10), .mv 73 (.t 6), .mv 74 (.t 10), .bi 75 .sub S.T.int (.t 74) (.c (.int .i64 (1))), .ia 76 S.tgs 73 75, .ld 77 S.tg 76, .ia 78 S.tgs 71 72, .st S.tg 78 77]))
          (.rg [.mv 69 (.t 10), .bi 70 .sub S.T.int (.t 69) (.c (.int .i64 (1))), .mv 10 (.t 70)]))))))
      (.rg [.mv 79 (.t 6), .mv 80 (.t 9), .ld 81 S.tg 8, .ia 82 S.tgs 79 80, .st S.tg 82 81])))))))) Q ρ w := by
  have htr : TagRow w0 cs t := hT _ _ htr'
  refine RW.bl (RW.sq (RW.rg (RL.rowTH (t := t) (cs := cs) ok r17 r19 hin hr (htr.keep hB) (by decide) (by decide) ?_)))
  rintro p w1 b1 s1 rg1 ⟨ck, hck, hck2⟩
  refine RL.nil (RW.sq (RW.rg (RL.step MR.mv (RL.nil ?_))))
  have B1 : Below w0.heap.size w0 w1 := hB.trans (b1.mono hB.size)
  have out1 : OutR S T w0 w1 sv out := hout.keep fun k hk => b1.block k hk
  have htb1 : w1.cell? ⟨w.heap.size, 0, none⟩ = some (u32V t.1) := by
    obtain ⟨_, ad, c', rfl, _⟩ := htr
    exact rg1 0 _ rfl
  refine RW.sq (unk_find ok (sv := sv) (out := out) (t := t) (tb := w.heap.size) (out1.tags hT B1) htb1 (by omega) (by (repeat (first | rw [upd_same] | rw [upd_ne _ _ (by omega)])); exact r6) (by (repeat (first | rw [upd_same] | rw [upd_ne _ _ (by omega)]))) rfl ?_)
  intro ρ2 w2 q2 q29 hh2 b2
  have B2 : Below w0.heap.size w0 w2 := B1.trans (b2.mono B1.size)
  have out2 : OutR S T w0 w2 sv out := out1.keep fun k hk => by rw [hh2]
  have e6 : ρ2 6 = sv := by rw [q2 6 (by omega) (by omega)]; (repeat (first | rw [upd_same] | rw [upd_ne _ _ (by omega)])); exact r6
  have e8 : ρ2 8 = .pointer (some ⟨w.heap.size, 0, none⟩) := by rw [q2 8 (by omega) (by omega)]; (repeat (first | rw [upd_same] | rw [upd_ne _ _ (by omega)]))
  have e5 : ρ2 5 = .int .u32 (least : Nat) := by rw [q2 5 (by omega) (by omega)]; (repeat (first | rw [upd_same] | rw [upd_ne _ _ (by omega)])); exact r5
  have eo : ∀ s, s = 5 ∨ s = 17 ∨ s = 18 ∨ s = 19 → ρ2 s = ρ s := fun s hs => by rw [q2 s (by omega) (by omega)]; (repeat (first | rw [upd_same] | rw [upd_ne _ _ (by omega)]))
  refine RW.sq (RW.sq (unk_g2 ok (out2.tags hT B2) (b2.kp _ _ htb1) e5 e6 e8 q29 fun ρ3 q3 q358 => ?_))
  have b3 : Below w2.heap.size w2 (World.drew1 w2) := below_drew1 w2 _
  have B3 : Below w0.heap.size w0 (World.drew1 w2) := B2.trans (b3.mono B2.size)
  have out3 : OutR S T w0 (World.drew1 w2) sv out := out2.keep fun k hk => rfl
  have rg3 : (World.drew1 w2).rangeAt w.heap.size 0 cs := fun j u hu => b3.kp _ _ (b2.kp _ _ (rg1 j u hu))
  have ins : ∀ b, q358 = q358 → (match out[posOf t.1 out]? with | some x => decide (x.1 = t.1) | none => false) = b → insTag t out = if b then out else out.take (posOf t.1 out) ++ t :: out.drop (posOf t.1 out) := by
    intro b _ hb
    rw [insTag_pos]
    unfold insAt
    cases hx : out[posOf t.1 out]? with
    | none => rw [hx] at hb; subst hb; rfl
    | some x =>
      rw [hx] at hb
      simp only at hb ⊢
      subst hb
      by_cases h : x.1 = t.1 <;> simp [h]
  refine RW.cd q358 (fun e => RW.ex ?_) (fun e => RW.sk ?_)
  · show inBlockR 1 Q (.exit 1) _ _
    simp only [inBlockR, ↓reduceIte]
    have hi : insF least out t = out := by
      unfold insF
      by_cases hl : t.1 < least
      · rw [if_pos hl]
      · rw [if_neg hl]
        rw [decide_eq_false hl, Bool.false_or] at e
        have := ins true rfl e
        rw [if_pos rfl] at this
        exact this
    exact hQ _ _ sv (fun s hs => by rw [q3 s (by omega)]; exact eo s hs) (by rw [q3 6 (by omega)]; exact e6) (by rw [hi]; exact out3) B3
  · rw [Bool.or_eq_false_iff] at e
    have hl : ¬ t.1 < least := of_decide_eq_false e.1
    have hi : insF least out t = insTag t out := if_neg hl
    have hins := ins false rfl e.2
    simp only [Bool.false_eq_true, if_false] at hins
    show RW P 85 _ _ ρ3 (World.drew1 w2)
    have f6 : ρ3 6 = sv := by rw [q3 6 (by omega)]; exact e6
    have b4 := below_box (World.drew1 w2) (.cells zTagC.toArray S.tg)
    have out4 : OutR S T w0 ((World.drew1 w2).alloc (.cells zTagC.toArray S.tg)) sv out := out3.keep fun k hk => b4.block k hk
    have hz4 : ((World.drew1 w2).alloc (.cells zTagC.toArray S.tg)).rangeAt (World.drew1 w2).heap.size 0 zTagC := fun j v hj => cell_box _ zTagC S.tg hj
    obtain ⟨g5, cap, w5, cur, a1, a2, a3, a4, a5, a6, a7, a8, a9, a10, a11⟩ := run_apTg (P := P) (c := 1) hT ok hby out4 hz4 hlen (Nat.le_trans B3.size b4.size)
    refine RW.sq (RW.rg (RL.step (MR.mv f6) (RL.step (MR.bdl (v := .agg zTagC.toArray) (w' := World.drew1 w2) (build_zero (z := zTagC) ok.zTg ok.lTg)) (RL.step (MR.bslBy (v := .slice (some ⟨(World.drew1 w2).heap.size, 0, none⟩) 1 1) (w' := (World.drew1 w2).alloc (.cells zTagC.toArray S.tg)) (run_bslTg (cs := zTagC) ok rfl))
      (RL.step (MR.apBy (a1 0) a1) (RL.step MR.mv (RL.nil ?_)))))))
    have B5 : Below w0.heap.size w0 w5 := (B3.trans (b4.mono B3.size)).trans a8
    have hown : some w.heap.size ≠ sv.ownBlock := by
      rcases hout with ⟨rfl, _⟩ | ⟨g', cap', cur', rfl, _, h2, _⟩
      · intro e; cases e
      · intro e
        simp only [Value.ownBlock, Option.some.injEq] at e
        have := (Array.getElem?_eq_some_iff.1 h2).1
        omega
    have hck4 : ((World.drew1 w2).alloc (.cells zTagC.toArray S.tg)).heap[w.heap.size]? = some (.cells ck S.tg (0, 0)) := by
      have e2 : (World.drew1 w2).heap[w.heap.size]? = some (.cells ck S.tg (0, 0)) := by show w2.heap[w.heap.size]? = _; rw [hh2]; exact hck
      rw [b4.block _ (Array.getElem?_eq_some_iff.1 e2).1]; exact e2
    have htb4 := (Array.getElem?_eq_some_iff.1 hck4).1
    have rg5 : w5.rangeAt w.heap.size 0 cs := range_keep (fun j u hu => b4.kp _ _ (rg3 j u hu)) (a10 w.heap.size htb4 hown)
    show RW P 85 _ _ _ w5
    refine unk_put hT ok (posOf_le t.1 out) hlen a2 a3 a4 a5 a6 a7 a9 rg5 htr' ?_ B5 rfl (by show ρ3 8 = _; rw [q3 8 (by omega)]; exact e8) (by show ρ3 9 = _; rw [q3 9 (by omega)]; exact q29) ?_
    · exact a11 w.heap.size ck htb4 hown hck4 hck2
    · intro ρ6 w6 h1 h2 h3
      show Q .normal ρ6 w6
      refine hQ ρ6 w6 _ (fun s hs => by rw [h1 s (by omega) (by omega)]; (repeat (first | rw [upd_same] | rw [upd_ne _ _ (by omega)])); rw [q3 s (by omega)]; exact eo s hs) (h1 6 (by omega) (by omega)) (by rw [hi, hins]; exact h2) h3
theorem insF_len {least : Nat} {out : List Tg} {t : Tg} : (insF least out t).length ≤ out.length + 1 := by
  unfold insF
  split
  · omega
  · exact insTag_len
theorem unk_ok {f : Nat} (ok : SOK P S) (hby : bytesLe P S.tg 1000 = true) (hf : FnIs P f (cUnk S) 85 4) (hk : KnownC P S.fKnown) : UnkC P S f (fun _ => True) := by
  refine ⟨hf.ent, ?_⟩
  rintro w0 w ad c fs v u hrows htag hlen hB0 ⟨ad', c', rfl, had, hc, hrow⟩ -
  have hT : ∀ cs t, TagRow w0 cs t → TagRow w cs t := fun cs t h => h.kp hB0.kp
  refine hf.runs (args := [.slice ad fs.toList.length c, .slice ad' u.length c']) (by simp) (by omega) ?_
  refine RW.sq (RW.rg (RL.step MR.mv (RL.nil (RW.sq (RW.rg (RL.step MR.mv (RL.ca (R := fun v w' => v = .int .u32 (sKnown fs : Nat) ∧ Below w.heap.size w w') hk.1 ?_ ?_)))))))
  · refine Calls.mono (hk.2 w ad c fs hrows htag hlen) ?_
    rintro e w' ⟨rfl, h⟩
    exact ⟨_, rfl, rfl, h⟩
  rintro v w1 ⟨rfl, hb⟩
  repeat first | refine RL.step MR.mv ?_ | refine RL.step (MR.biE rfl) ?_ | refine RL.step (MR.b2 rfl) ?_
  refine RL.nil (RW.sq (RW.rg (RL.step MR.mv (RL.nil (RW.sq (RW.sq (RW.rg ?_)))))))
  repeat first | refine RL.step MR.mv ?_ | refine RL.step (MR.biE rfl) ?_ | refine RL.step (MR.b2 rfl) ?_
  have hm : (if (32767 : Int) < (u.length : Nat) then (32767 : Int) else (u.length : Nat)) = ((u.take most).length : Nat) := by
    rw [List.length_take]; unfold most; split <;> omega
  have hml : (u.take most).length ≤ c' := by rw [List.length_take]; omega
  refine RL.step (MR.ln ok.tgs (p := ad') (n := u.length) (c := c') rfl) (RL.step (MR.mn (k := .i64) (k' := .i64) (m := (u.length : Nat)) (n := 32767) rfl rfl) ?_)
  rw [hm]
  refine RL.step (MR.sl (v := .slice ad' (u.take most).length c') (run_sliceTo (h := (u.take most).length) ok.tgs (cellsB_some ok.tgN) had hml)) (RL.step (MR.ln ok.tgs (p := ad') (n := (u.take most).length) (c := c') rfl) ?_)
  repeat first | refine RL.step MR.mv ?_ | refine RL.step (MR.biE rfl) ?_ | refine RL.step (MR.b2 rfl) ?_
  refine RL.nil (RW.bl (RW.lp (fun ρ w' => ∃ (k : Nat) (sv : Value), k ≤ (u.take most).length ∧ ρ 5 = .int .u32 (sKnown fs : Nat) ∧ ρ 6 = sv ∧ ρ 17 = .slice ad' (u.take most).length c' ∧ ρ 18 = .int .i64 ((u.take most).length : Nat) ∧ ρ 19 = .int .i64 (k : Nat) ∧ OutR S (TagRow w0) w w' sv (((u.take most).take k).foldl (insF (sKnown fs)) []) ∧ Below w.heap.size w w' ∧ (((u.take most).take k).foldl (insF (sKnown fs)) []).length ≤ k)
    (fun ρ' _ => (u.take most).length - (intOf (ρ' 19)).toNat) ⟨0, .slice none 0 0, Nat.zero_le _, rfl, rfl, rfl, rfl, rfl, .inl ⟨rfl, rfl⟩, hb, Nat.le_refl _⟩ ?_ (fun ρ1 ρ2 w1 h => by rw [h 19 (by omega)])))
  rintro ρ2 w2 ⟨k, sv, hkm, h5, h6, h17, h18, h19, hout, hb2, hlk⟩
  have hm32 : (u.take most).length ≤ 32767 := by rw [List.length_take]; unfold most; omega
  refine RW.knows [(5, .int .u32 (sKnown fs : Nat)), (6, sv), (17, .slice ad' (u.take most).length c'), (18, .int .i64 ((u.take most).length : Nat)), (19, .int .i64 (k : Nat))] (by simp [h5, h6, h17, h18, h19]) (RW.sq (RW.rg ?_))
  by_cases hlt : k < (u.take most).length
  · refine RL.step (MR.biB (p := (k : Int) < ((u.take most).length : Nat)) rfl (decide_eq_true (by omega))) (RL.nil (RW.sq (RW.cd (b := true) rfl (fun _ => RW.sk ?_) (fun e => by cases e))))
    obtain ⟨t, ht⟩ : ∃ t, (u.take most)[k]? = some t := ⟨_, List.getElem?_eq_getElem hlt⟩
    have htu : u[k]? = some t := by
      rw [List.getElem?_take] at ht
      split at ht
      · exact ht
      · cases ht
    obtain ⟨g, o, cs, rfl, hr, htr⟩ := hrow k t htu
    have est : ((u.take most).take (k + 1)).foldl (insF (sKnown fs)) [] = insF (sKnown fs) (((u.take most).take k).foldl (insF (sKnown fs)) []) t := by
      rw [List.take_add_one, ht, List.foldl_append]
      rfl
    refine RW.sq (unk_elem (w0 := w) (T := TagRow w0) hT (least := sKnown fs) (t := t) (i := k) (n := (u.take most).length) (c := c') (g := g) (o := o) (cs := cs) (sv := sv) ok hby hb2 hout (by omega) (fun j x hx => (hB0.trans (hb2.mono hB0.size)).kp _ _ (hr j x hx)) htr hlt rfl rfl rfl rfl ?_)
    intro ρ3 w3 sv3 e1 e2 e3 e4
    have q5 := e1 5 (.inl rfl)
    have q17 := e1 17 (.inr (.inl rfl))
    have q18 := e1 18 (.inr (.inr (.inl rfl)))
    have q19 := e1 19 (.inr (.inr (.inr rfl)))
    refine RW.rg (RL.step (MR.biE (v := .int .i64 ((k + 1 : Nat) : Int)) (by show evB .add (ρ3 19) (.int .i64 1) = _; rw [q19]; show some (Value.int .i64 (IntKind.i64.wrap ((k : Int) + 1))) = _; rw [wrap_i64 (by omega) (by omega)]; rfl)) (RL.step MR.mv (RL.nil ?_)))
    refine ⟨⟨k + 1, sv3, hlt, by (repeat (first | rw [upd_same] | rw [upd_ne _ _ (by omega)])); rw [q5]; rfl, by (repeat (first | rw [upd_same] | rw [upd_ne _ _ (by omega)])); exact e2, by (repeat (first | rw [upd_same] | rw [upd_ne _ _ (by omega)])); rw [q17]; rfl, by (repeat (first | rw [upd_same] | rw [upd_ne _ _ (by omega)])); rw [q18]; rfl, rfl, by rw [est]; exact e3, e4, by rw [est]; have := @insF_len (sKnown fs) (((u.take most).take k).foldl (insF (sKnown fs)) []) t; omega⟩, ?_⟩
    show (u.take most).length - ((k + 1 : Nat) : Int).toNat < (u.take most).length - (intOf (ρ2 19)).toNat
    rw [h19]; simp only [intOf]; omega
  · refine RL.step (MR.biB (p := (k : Int) < ((u.take most).length : Nat)) rfl (decide_eq_false (by omega))) (RL.nil (RW.sq (RW.cd (b := false) rfl (fun e => by cases e) (fun _ => RW.ex ?_))))
    have : k = (u.take most).length := by omega
    subst this
    rw [List.take_length] at hout
    refine RW.sq (RW.rg ?_)
    repeat first | refine RL.step MR.mv ?_ | refine RL.step (MR.biE rfl) ?_ | refine RL.step (MR.b2 rfl) ?_
    refine RL.nil (RW.rt ⟨sv, rfl, ?_, hb2⟩)
    exact hout
end
set_option linter.unusedVariables false
def cFits4 (S : SN) : MCode := .sq (.rg [.bx 1 S.tg 0, .mv 2 (.c (.bool false))]) (.sq (.sq (.rg [.fa 3 S.tg 1 1, .ld 4 S.T.u8s 3, .ln 5 S.T.u8s 4, .bi 6 .gtr S.T.int (.t 5) (.c (.int .i64 2147483647))]) (.cd 6 (.sq (.rg [.mv 2 (.c (.bool false))]) .rt) .sk)) (.sq (.rg [.mv 2 (.c (.bool true))]) .rt))
def cFits3 (S : SN) (f4 : Nat) : MCode := .sq (.rg [.mv 2 (.c (.bool false))]) (.sq (.sq (.rg [.mv 5 (.t 0), .ln 6 S.tgs 5, .bi 7 .gtr S.T.int (.t 6) (.c (.int .i64 2147483647))]) (.cd 7 (.sq (.rg [.mv 2 (.c (.bool false))]) .rt) .sk))
  (.sq (.sq (.rg [.mv 8 (.t 0), .ln 9 S.tgs 8, .mv 10 (.c (.int .i64 0))]) (.bl 0 (.lp (.sq (.rg [.bi 11 .lss S.T.int (.t 10) (.t 9)]) (.sq (.cd 11 .sk (.ex 0)) (.sq (.bl 1 (.sq (.rg [.ia 12 S.tgs 8 10, .ld 13 S.tg 12, .al 4 S.tg, .st S.tg 4 13]) (.sq (.rg [.ld 14 S.tg 4, .ca 15 f4 [.t 14], .nt 16 15]) (.cd 16 (.sq (.rg [.mv 2 (.c (.bool false))]) .rt) .sk))))
    (.rg [.bi 17 .add S.T.int (.t 10) (.c (.int .i64 1)), .mv 10 (.t 17)]))))))) (.sq (.rg [.mv 2 (.c (.bool true))]) .rt)))
def cFits2 (S : SN) (f3 : Nat) : MCode := .sq (.rg [.bx 1 S.tr 0, .mv 2 (.c (.bool false))]) (.sq (.sq (.rg [.fa 3 S.tr 1 1, .ld 4 S.T.u8s 3, .ln 5 S.T.u8s 4, .bi 6 .gtr S.T.int (.t 5) (.c (.int .i64 2147483647))]) (.cd 6 (.sq (.rg [.mv 2 (.c (.bool false))]) .rt) .sk))
  (.sq (.sq (.rg [.fa 7 S.tr 1 3, .ld 8 S.trs 7, .ln 9 S.trs 8, .bi 10 .gtr S.T.int (.t 9) (.c (.int .i64 2147483647))]) (.cd 10 (.sq (.rg [.mv 2 (.c (.bool false))]) .rt) .sk))
  (.sq (.sq (.rg [.fa 11 S.tr 1 4, .ld 12 S.tgs 11, .ca 13 f3 [.t 12], .nt 14 13]) (.cd 14 (.sq (.rg [.mv 2 (.c (.bool false))]) .rt) .sk)) (.sq (.rg [.mv 2 (.c (.bool true))]) .rt))))
def YN (w : World) : Ending → World → Prop := fun e w' => (∃ b, e = .returned (.bool b)) ∧ Below w.heap.size w w'
section
variable {P : Program} {S : SN} {w w' : World} {Q : Exit → (Nat → Value) → World → Prop} {ρ : Nat → Value}
theorem fits4_ok {f : Nat} (ok : SOK P S) (hf : FnIs P f (cFits4 S) 7 2) (w : World) (cs : List Value) (t : Tg) (h : TagRow w cs t) : Calls P f #[.agg cs.toArray] w (YN w) := by
  obtain ⟨hk, ad, c, rfl, had, hc, hby⟩ := h
  refine hf.runs (args := [.agg [Value.int .u32 (t.1 : Nat), .slice ad t.2.length c].toArray]) (by simp) (by omega) ?_
  have hb := below_box w (.cells [Value.int .u32 (t.1 : Nat), .slice ad t.2.length c].toArray S.tg)
  refine RW.sq (RW.rg (RL.bxA (cs := [Value.int .u32 (t.1 : Nat), .slice ad t.2.length c]) rfl (RL.step MR.mv (RL.nil ?_))))
  refine RW.sq (RW.sq (RW.rg (RL.step (MR.fa (b := w.heap.size) (o := 0) rfl (ok.tgF 1 (by omega))) (RL.step (MR.ld (v := .slice ad t.2.length c) rfl ok.pU8s (cell_box w [Value.int .u32 (t.1 : Nat), .slice ad t.2.length c] S.tg (j := 1) rfl)) (RL.step (MR.ln ok.tk.u8s rfl) (RL.step (MR.biE (v := .bool (decide ((2147483647 : Int) < (t.2.length : Nat)))) rfl) (RL.nil ?_)))))))
  refine RW.cd rfl (fun e => RW.sq (RW.rg (RL.step MR.mv (RL.nil (RW.rt ⟨⟨_, rfl⟩, hb⟩))))) (fun e => RW.sk ?_)
  exact RW.sq (RW.rg (RL.step MR.mv (RL.nil (RW.rt ⟨⟨_, rfl⟩, hb⟩))))
theorem fits3_ok {f f4 : Nat} (ok : SOK P S) (h4 : FnIs P f4 (cFits4 S) 7 2) (hf : FnIs P f (cFits3 S f4) 18 2) (w : World) (v : Value) (u : List Tg) (h : TagsS w v u) : Calls P f #[v] w (YN w) := by
  obtain ⟨ad, c, rfl, had, hc, hrow⟩ := h
  refine hf.runs (args := [.slice ad u.length c]) (by simp) (by omega) ?_
  refine RW.sq (RW.rg (RL.step MR.mv (RL.nil ?_)))
  refine RW.sq (RW.sq (RW.rg (RL.step (MR.mv (v := .slice ad u.length c) rfl) (RL.step (MR.ln ok.tgs rfl) (RL.step (MR.biE (v := .bool (decide ((2147483647 : Int) < (u.length : Nat)))) rfl) (RL.nil ?_))))))
  refine RW.cd rfl (fun e => RW.sq (RW.rg (RL.step MR.mv (RL.nil (RW.rt ⟨⟨_, rfl⟩, Below.refl _ _⟩))))) (fun e => RW.sk ?_)
  have hlen : u.length ≤ 2147483647 := by have := of_decide_eq_false e; omega
  refine RW.sq (RW.sq (RW.rg (RL.step (MR.mv (v := .slice ad u.length c) rfl) (RL.step (MR.ln ok.tgs rfl) (RL.step MR.mv (RL.nil (RW.bl ?_)))))))
  refine RW.lp (fun ρ w' => ∃ i : Nat, i ≤ u.length ∧ ρ 8 = .slice ad u.length c ∧ ρ 9 = .int .i64 (u.length : Nat) ∧ ρ 10 = .int .i64 (i : Nat) ∧ Below w.heap.size w w') (fun ρ' _ => u.length - (intOf (ρ' 10)).toNat) ⟨0, Nat.zero_le _, rfl, rfl, rfl, Below.refl _ _⟩ ?_ (fun ρ1 ρ2 w1 h => by rw [h 10 (by omega)])
  rintro ρ1 w1 ⟨i, hi, q8, q9, q10, hb⟩
  refine RW.knows [(8, .slice ad u.length c), (9, .int .i64 (u.length : Nat)), (10, .int .i64 (i : Nat))] (by simp [q8, q9, q10]) (RW.sq (RW.rg ?_))
  by_cases hlt : i < u.length
  · refine RL.step (MR.biB (p := (i : Int) < (u.length : Nat)) rfl (decide_eq_true (by omega))) (RL.nil (RW.sq (RW.cd (b := true) rfl (fun _ => RW.sk ?_) (fun e => by cases e))))
    obtain ⟨t, ht⟩ : ∃ t, u[i]? = some t := ⟨_, List.getElem?_eq_getElem hlt⟩
    obtain ⟨g, o, cs, rfl, hr, htr⟩ := hrow i t ht
    have l2 := htr.two
    refine RW.sq (RW.bl (RW.sq (RW.rg (RL.rowTH (t := t) (cs := cs) (n := u.length) (c := c) ok rfl rfl hlt (fun j x hx => hb.kp _ _ (hr j x hx)) (htr.keep hb) (by decide) (by decide) ?_))))
    rintro p w2 b2 s2 rg2 -
    have B2 : Below w.heap.size w w2 := hb.trans (b2.mono hb.size)
    refine RL.nil (RW.sq (RW.rg (RL.step (MR.ldRow (b := w1.heap.size) (o := 0) (cs := cs) rfl ok.tgR (by rw [l2.1]; exact ok.tgN) rg2) ?_)))
    refine RL.ca (R := fun v w' => (∃ b, v = .bool b) ∧ Below w2.heap.size w2 w') h4.ent ?_ ?_
    · refine Calls.mono (fits4_ok ok h4 w2 cs t (htr.keep B2)) ?_
      rintro e w' ⟨⟨b, rfl⟩, h⟩
      exact ⟨_, rfl, ⟨b, rfl⟩, h⟩
    rintro v w3 ⟨⟨b, rfl⟩, b3⟩
    have B3 : Below w.heap.size w w3 := B2.trans (b3.mono B2.size)
    refine RL.step (MR.nt rfl) (RL.nil (RW.cd rfl (fun e => RW.sq (RW.rg (RL.step MR.mv (RL.nil (RW.rt ⟨⟨_, rfl⟩, B3⟩))))) (fun e => RW.sk ?_)))
    refine RW.rg (RL.step (MR.biE (v := .int .i64 ((i + 1 : Nat) : Int)) (by show some (Value.int .i64 (IntKind.i64.wrap ((i : Int) + 1))) = _; rw [wrap_i64 (by omega) (by omega)]; rfl)) (RL.step MR.mv (RL.nil ?_)))
    refine ⟨⟨i + 1, hlt, rfl, rfl, rfl, B3⟩, ?_⟩
    show u.length - ((i + 1 : Nat) : Int).toNat < u.length - (intOf (ρ1 10)).toNat
    rw [q10]; simp only [intOf]; omega
  · refine RL.step (MR.biB (p := (i : Int) < (u.length : Nat)) rfl (decide_eq_false (by omega))) (RL.nil (RW.sq (RW.cd (b := false) rfl (fun e => by cases e) (fun _ => RW.ex ?_))))
    exact RW.sq (RW.rg (RL.step MR.mv (RL.nil (RW.rt ⟨⟨_, rfl⟩, hb⟩))))
theorem fits2_ok {f f3 f4 : Nat} (ok : SOK P S) (h4 : FnIs P f4 (cFits4 S) 7 2) (h3 : FnIs P f3 (cFits3 S f4) 18 2) (hf : FnIs P f (cFits2 S f3) 15 2) (w : World) (cs : List Value) (t : Tr) (h : RepTr w t cs) : Calls P f #[.agg cs.toArray] w (YN w) := by
  cases t with
  | mk n s null l u =>
    unfold RepTr at h
    obtain ⟨sS, sL, sU, rfl, hn, ⟨ad, c, rfl, had, hc, hby⟩, ⟨ad2, c2, rfl, had2, hc2, hrows⟩, htags⟩ := h
    refine hf.runs (args := [.agg [Value.int .i64 n, .slice ad s.length c, .bool null, .slice ad2 l.toList.length c2, sU].toArray]) (by simp) (by omega) ?_
    have hb := below_box w (.cells [Value.int .i64 n, .slice ad s.length c, .bool null, .slice ad2 l.toList.length c2, sU].toArray S.tr)
    refine RW.sq (RW.rg (RL.bxA (cs := [Value.int .i64 n, .slice ad s.length c, .bool null, .slice ad2 l.toList.length c2, sU]) rfl (RL.step MR.mv (RL.nil ?_))))
    refine RW.sq (RW.sq (RW.rg (RL.step (MR.fa (b := w.heap.size) (o := 0) rfl (ok.trF 1 (by omega))) (RL.step (MR.ld (v := .slice ad s.length c) rfl ok.pU8s (cell_box w [Value.int .i64 n, .slice ad s.length c, .bool null, .slice ad2 l.toList.length c2, sU] S.tr (j := 1) rfl)) (RL.step (MR.ln ok.tk.u8s rfl) (RL.step (MR.biE (v := .bool (decide ((2147483647 : Int) < (s.length : Nat)))) rfl) (RL.nil ?_)))))))
    refine RW.cd rfl (fun e => RW.sq (RW.rg (RL.step MR.mv (RL.nil (RW.rt ⟨⟨_, rfl⟩, hb⟩))))) (fun e => RW.sk ?_)
    refine RW.sq (RW.sq (RW.rg (RL.step (MR.fa (b := w.heap.size) (o := 0) rfl (ok.trF 3 (by omega))) (RL.step (MR.ld (v := .slice ad2 l.toList.length c2) rfl ok.pTrs (cell_box w [Value.int .i64 n, .slice ad s.length c, .bool null, .slice ad2 l.toList.length c2, sU] S.tr (j := 3) rfl)) (RL.step (MR.ln ok.trs rfl) (RL.step (MR.biE (v := .bool (decide ((2147483647 : Int) < (l.toList.length : Nat)))) rfl) (RL.nil ?_)))))))
    refine RW.cd rfl (fun e => RW.sq (RW.rg (RL.step MR.mv (RL.nil (RW.rt ⟨⟨_, rfl⟩, hb⟩))))) (fun e => RW.sk ?_)
    refine RW.sq (RW.sq (RW.rg (RL.step (MR.fa (b := w.heap.size) (o := 0) rfl (ok.trF 4 (by omega))) (RL.step (MR.ld (v := sU) rfl ok.pTgs (cell_box w [Value.int .i64 n, .slice ad s.length c, .bool null, .slice ad2 l.toList.length c2, sU] S.tr (j := 4) rfl)) ?_))))
    have htags2 : TagsS (w.alloc (.cells [Value.int .i64 n, .slice ad s.length c, .bool null, .slice ad2 l.toList.length c2, sU].toArray S.tr)) sU u := by
      obtain ⟨ad', c', e, had', hc', hrow⟩ := htags
      refine ⟨ad', c', e, had', hc', fun j x hx => ?_⟩
      obtain ⟨g, o, cs, e1, e2, e3⟩ := hrow j x hx
      exact ⟨g, o, cs, e1, fun k y hy => hb.kp _ _ (e2 k y hy), e3.keep hb⟩
    refine RL.ca (R := fun v w' => (∃ b, v = .bool b) ∧ Below (w.alloc (.cells [Value.int .i64 n, .slice ad s.length c, .bool null, .slice ad2 l.toList.length c2, sU].toArray S.tr)).heap.size (w.alloc (.cells [Value.int .i64 n, .slice ad s.length c, .bool null, .slice ad2 l.toList.length c2, sU].toArray S.tr)) w') h3.ent ?_ ?_
    · refine Calls.mono (fits3_ok ok h4 h3 _ sU u htags2) ?_
      rintro e w' ⟨⟨b, rfl⟩, h⟩
      exact ⟨_, rfl, ⟨b, rfl⟩, h⟩
    rintro v w3 ⟨⟨b, rfl⟩, b3⟩
    have B3 : Below w.heap.size w w3 := hb.trans (b3.mono hb.size)
    refine RL.step (MR.nt rfl) (RL.nil (RW.cd rfl (fun e => RW.sq (RW.rg (RL.step MR.mv (RL.nil (RW.rt ⟨⟨_, rfl⟩, B3⟩))))) (fun e => RW.sk ?_)))
    exact RW.sq (RW.rg (RL.step MR.mv (RL.nil (RW.rt ⟨⟨_, rfl⟩, B3⟩))))
end
section
variable {P : Program} {S : SN} {w w' : World} {N : Nat} {Q : Exit → (Nat → Value) → World → Prop} {ρ : Nat → Value} {SU : List (Nat × List UInt8) → Prop}
def FitsC (P : Program) (f : Nat) : Prop := entersB P f = true ∧ ∀ (w : World) (cs : List Value) (t : Tr), RepTr w t cs → Calls P f #[.agg cs.toArray] w (YN w)
end
section
variable {P : Program} {S : SN} {w w' : World} {N : Nat} {Q : Exit → (Nat → Value) → World → Prop} {ρ : Nat → Value} {SU : List (Nat × List UInt8) → Prop}
end
set_option linter.unusedVariables false
def cLess (K : EN) : MCode := .sq (.rg [.mv 5 (.c (.bool false))]) (.sq (.gr true [⟨0, none, .ld 6 K.tKs 2⟩, ⟨1, none, .mv 7 (.t 0)⟩, ⟨2, none, .ia 8 K.tKs 6 7⟩, ⟨3, none, .ld 9 K.tU32 8⟩, ⟨4, none, .ld 10 K.tKs 2⟩, ⟨5, none, .mv 11 (.t 1)⟩, ⟨6, none, .ia 12 K.tKs 10 11⟩, ⟨7, none, .ld 13 K.tU32 12⟩, ⟨8, none, .bi 14 .lss K.tU32 (.t 9) (.t 13)⟩, ⟨9, none, .mv 5 (.t 14)⟩]) .rt)
section
variable {P : Program} {w : World} {T : IT} {K : EN}
theorem less_ok {f : Nat} (te : TgE P K T) (hmo : P.follows .mixedOrders = true) (hf : FnIs P f (cLess K) 15 5) {db g o n c i j a b : Nat} (hc : w.cell? ⟨db, 0, none⟩ = some (.slice (some ⟨g, o, none⟩) n c)) (hi : i < n) (hj : j < n) (ha : w.cell? ⟨g, o + i, none⟩ = some (u32V a)) (hb : w.cell? ⟨g, o + j, none⟩ = some (u32V b)) :
    Calls P f #[.int .i64 (i : Nat), .int .i64 (j : Nat), .pointer (some ⟨db, 0, none⟩)] w (fun e w' => e = .returned (.bool (decide (a < b))) ∧ w' = World.drew1 w) := by
  refine hf.runs (args := [.int .i64 (i : Nat), .int .i64 (j : Nat), .pointer (some ⟨db, 0, none⟩)]) (by simp) (by omega) ?_
  refine RW.sq (RW.rg (RL.step MR.mv (RL.nil (RW.sq (RW.gd hmo (fun w' => Kp w w') (drew1_kp w) ?_)))))
  refine RG.q (fun w' h => MR.ld (p := ⟨db, 0, none⟩) rfl te.pk (h _ _ hc)) (RG.q (fun _ _ => MR.mv (v := .int .i64 (i : Nat)) rfl) (RG.q (fun _ _ => MR.ia (k := .i64) te.ks te.cu rfl rfl hi) (RG.q (fun w' h => MR.ld rfl te.pu (by rw [Nat.mul_one]; exact h _ _ ha))
    (RG.q (fun w' h => MR.ld (p := ⟨db, 0, none⟩) rfl te.pk (h _ _ hc)) (RG.q (fun _ _ => MR.mv (v := .int .i64 (j : Nat)) rfl) (RG.q (fun _ _ => MR.ia (k := .i64) te.ks te.cu rfl rfl hj) (RG.q (fun w' h => MR.ld rfl te.pu (by rw [Nat.mul_one]; exact h _ _ hb))
      (RG.q (v := .bool (decide ((a : Int) < (b : Nat)))) (fun _ _ => MR.biE rfl) (RG.q (fun _ _ => MR.mv (v := .bool (decide ((a : Int) < (b : Nat)))) rfl) (RG.nil fun _ => RW.rt ⟨?_, rfl⟩))))))))))
  show Ending.returned (.bool _) = _
  congr 2
  by_cases h : a < b
  · rw [decide_eq_true h, decide_eq_true (by omega)]
  · rw [decide_eq_false h, decide_eq_false (by omega)]
end
section
variable {P : Program} {S : SN} {w w' : World} {Q : Exit → (Nat → Value) → World → Prop} {ρ : Nat → Value}
end
set_option linter.unusedVariables false
theorem sp_tags {P : Program} {S : SN} {SU : List (Nat × List UInt8) → Prop} (sp : SPC P S SU) (hby : bytesLe P S.tg 1000 = true) (hf : FnIs P S.fUnk (cUnk S) 85 4) : SPC P S keysOk :=
  { ok := sp.ok, su0 := fun x hx => by simp at hx, fixed := sp.fixed, uvar := sp.uvar, width := sp.width, counted := sp.counted, whole := sp.whole, things := sp.things, has := sp.has, null := sp.null, at_ := sp.at_, known := sp.known,
    unk := ⟨hf.ent, fun w0 w ad c fs v u h1 h2 h3 h5 h4 _ => (unk_ok sp.ok hby hf sp.known).2 w0 w ad c fs v u h1 h2 h3 h5 h4 trivial⟩, value := sp.value, field := sp.field, part := sp.part }
/-! ### Sixteen octets, copied into an array -/
section
variable {P : Program} {w w' : World}
theorem Fr.ofBelowX {lo b o n : Nat} (h : Below lo w w') (hb : b < lo) : Fr (fun k => lo ≤ k) b o n w w' :=
  ⟨h.os, h.tape, h.output, h.size, fun k _ _ hk => h.block k (by omega), fun j _ => cell_of_heap (h.block b hb), fun o' n' ht => there_keep ht (h.block b hb)⟩
theorem heap_box (w : World) (o : Obj) : (w.alloc o).heap[w.heap.size]? = some o := by
  show (w.heap.push o)[w.heap.size]? = _
  simp
theorem row_at {q : Nat} {cs : List Value} {A : Nat} (hh : w.heap[q]? = some (.cells cs.toArray A (0, 0))) : w.rangeAt q 0 cs := by
  intro j v hj
  rw [Nat.zero_add]
  unfold World.cell?
  simp [hh, hj]
theorem run_copy16 {T U q c A lo : Nat} {F : Nat → Prop} {ad : Option Addr} {l : List UInt8} (hT : sliceOf P T U = true) (hU : u8Ty P U = true) (hb : BytesAt w F ad l) (hlo : lo ≤ q) (hh : w.heap[q]? = some (.cells (List.replicate 16 (Value.int .u8 0)).toArray A (0, 0))) :
    ∃ v w2, (∀ ty, (Builtin.copy_ #[T, T] ty #[.slice (some ⟨q, 0, none⟩) 16 16, .slice ad l.length c]).run P w = .ok v w2) ∧ Below lo w w2 ∧ (∀ k, k ≠ q → w2.heap[k]? = w.heap[k]?) ∧ w2.rangeAt q 0 (((l ++ List.replicate 16 0).take 16).map byteV) := by
  obtain ⟨i, hi, hs, hby, hz⟩ := u8Ty_info hU
  have hz0 : ∀ n, List.replicate n (Value.int .u8 0) = (List.replicate n (0 : UInt8)).map byteV := fun n => by rw [List.map_replicate]; rfl
  have hsz : (P.info? U).map (·.size) = some 1 := by rw [hi]; simp [hs]
  by_cases hl : l.length = 0
  · have : l = [] := List.eq_nil_of_length_eq_zero hl
    subst this
    refine ⟨_, _, fun ty => run_copy_none (P := P) _ T T ty U (some ⟨q, 0, none⟩) ad 16 16 0 c (sliceOf_eq hT) hsz (by simp), Below.refl _ _, fun _ _ => rfl, ?_⟩
    have := row_at hh
    rw [hz0] at this
    simpa using this
  · obtain ⟨b0, hb0⟩ : ∃ b, l[0]? = some b := ⟨l[0], List.getElem?_eq_getElem (by omega)⟩
    obtain ⟨g, o, rfl, _, _⟩ := hb 0 b0 hb0
    have hcopy := fun ty => run_copy_row (P := P) w T T ty U q 0 16 16 ⟨g, o, none⟩ l.length c (List.replicate 16 (Value.int .u8 0)).toArray A ((l.take 16).map byteV) (sliceOf_eq hT) hsz hh
      (by simp [Nat.min_comm]) (fun j v hv => by
        rw [List.getElem?_map, Option.map_eq_some_iff] at hv
        obtain ⟨b, hb1, rfl⟩ := hv
        rw [List.getElem?_take] at hb1
        split at hb1
        · obtain ⟨g', o', he, _, hc⟩ := hb j b hb1
          cases he
          rw [Addr.add_mid]; exact hc
        · simp at hb1) (by simp; omega) (by intro v hv; simp only [List.mem_map] at hv; obtain ⟨b, _, rfl⟩ := hv; rfl)
    refine ⟨_, _, hcopy, below_setRow (Below.refl _ _) hlo _, fun k hk => setRow_other w q k _ hk, ?_⟩
    have e : ((List.take 0 (List.replicate 16 (Value.int .u8 0)).toArray.toList ++ (l.take 16).map byteV ++ List.drop (0 + ((l.take 16).map byteV).length) (List.replicate 16 (Value.int .u8 0)).toArray.toList)) = ((l ++ List.replicate 16 0).take 16).map byteV := by
      simp only [List.take_zero, List.nil_append, Nat.zero_add, List.length_map, List.length_take]
      rw [hz0, ← List.map_drop, ← List.map_append]
      congr 1
      rw [List.drop_replicate, List.take_append]
      rw [List.take_replicate]
      congr 2; omega
    rw [e]
    exact row_at (w := w.setRow q _) (setRow_heap w q _ _ A (0, 0) hh)
end
def cUuidR (R : RN) : MCode :=
  .sq (.rg [.al 2 R.tA]) (.sq (.rg [.al 3 R.tA]) (.sq (.gr true [⟨0, none, .sl 4 R.tA 3 none none none⟩, ⟨1, none, .mv 5 (.t 0)⟩, ⟨2, none, .ca 6 R.span [.t 5, .c (.int .i64 16)]⟩, ⟨3, none, .cp 7 R.T.u8s R.T.u8s 4 6⟩]) (.sq (.rg [.ld 8 R.tA 3, .st R.tA 2 8]) .rt)))
theorem drew1_below (lo : Nat) (w : World) : Below lo w (World.drew1 w) := ⟨rfl, rfl, rfl, Nat.le_refl _, fun _ _ => rfl⟩
theorem uuid_ok {P : Program} {R : RN} {f : Nat} {flex : Bool} (ok : ROK P R) (hA : arrOf P R.tA 16 R.T.u8 = true) (hrow : rowTy P R.tA = true) (hc : cellsB P R.tA 16 = true) (hz : zeroIs P R.tA (List.replicate 16 (.int .u8 0)) = true) (hsp : SpanC P R.span) (hf : FnIsC P f (cUuidR R) 9 2 R.tA) : RdC P f (dP .uuid flex) (PrC .uuid) := by
  have hzz := zeroIs_of hz
  rw [List.map_replicate] at hzz
  obtain ⟨iz, hiz, hzv⟩ := hzz
  have hU8 : (P.info? R.T.u8).isSome = true := by obtain ⟨i, hi, _⟩ := u8Ty_info ok.tk.u8; rw [hi]; rfl
  refine ⟨hf.ent, fun w rb sb st h hne => ?_⟩
  have hrb := h.lt
  refine hf.runs (args := [.pointer (some ⟨rb, 0, none⟩)]) (by simp) (by omega) ?_
  refine RW.sq (RW.rg (RL.step (MR.al ⟨iz, hiz, hzv⟩) (RL.nil (RW.sq (RW.rg (RL.step (MR.al ⟨iz, hiz, hzv⟩) (RL.nil ?_)))))))
  have b1 := below_box w (.cells (List.replicate 16 (Value.int .u8 0)).toArray R.tA)
  have s1 := size_box w (.cells (List.replicate 16 (Value.int .u8 0)).toArray R.tA)
  have t1 := there_box w (List.replicate 16 (Value.int .u8 0)) R.tA
  have b2 := below_box (w.alloc (.cells (List.replicate 16 (Value.int .u8 0)).toArray R.tA)) (.cells (List.replicate 16 (Value.int .u8 0)).toArray R.tA)
  have s2 := size_box (w.alloc (.cells (List.replicate 16 (Value.int .u8 0)).toArray R.tA)) (.cells (List.replicate 16 (Value.int .u8 0)).toArray R.tA)
  have hq : ((w.alloc (.cells (List.replicate 16 (Value.int .u8 0)).toArray R.tA)).alloc (.cells (List.replicate 16 (Value.int .u8 0)).toArray R.tA)).heap[(w.alloc (.cells (List.replicate 16 (Value.int .u8 0)).toArray R.tA)).heap.size]? = some (.cells (List.replicate 16 (Value.int .u8 0)).toArray R.tA (0, 0))  := heap_box _ _
  show RW P 9 _ _ (upd _ 3 (.pointer (some ⟨(w.alloc (.cells (List.replicate 16 (Value.int .u8 0)).toArray R.tA)).heap.size, 0, none⟩))) ((w.alloc (.cells (List.replicate 16 (Value.int .u8 0)).toArray R.tA)).alloc (.cells (List.replicate 16 (Value.int .u8 0)).toArray R.tA))
  rw [s1] at hq ⊢
  generalize (w.alloc (.cells (List.replicate 16 (Value.int .u8 0)).toArray R.tA)) = w1 at b1 s1 t1 b2 s2 hq ⊢
  generalize w1.alloc (.cells (List.replicate 16 (Value.int .u8 0)).toArray R.tA) = w2 at b2 s2 hq ⊢
  have b02 : Below w.heap.size w w2 := b1.trans (b2.mono (by omega))
  have t2 : w2.there w.heap.size 0 16 := by
    have := there_keep t1 (b2.block w.heap.size (by omega))
    simpa using this
  refine RW.sq (RW.gd ok.mo (S := fun _ => True) trivial ?_)
  have bd := b02.trans (drew1_below w.heap.size w2)
  refine RG.q (v := .slice (some ⟨w.heap.size + 1, 0, none⟩) 16 16) (fun _ _ => MR.slArr (p := ⟨w.heap.size + 1, 0, none⟩) hA hU8 (by omega) rfl) ?_
  refine RG.q (v := .pointer (some ⟨rb, 0, none⟩)) (fun _ _ => MR.mv rfl) ?_
  have h2 : RdAt (World.drew1 w2) rb sb st := h.below bd
  refine RG.ca (R := fun v w' => ∃ ad l st', v = .slice ad (List.length l) (List.length l) ∧ Fr (fun _ => False) rb 0 2 (World.drew1 w2) w' ∧ Got (dSpan 16) st l st' ∧ RdAt w' rb sb st' ∧ BytesAt w' (· = sb) ad l) hsp.1 (fun _ => ?_) ?_
  · refine Calls.mono (hsp.2 (World.drew1 w2) rb sb st 16 h2 hne) ?_
    rintro e w' ⟨ad, l, st', rfl, k1, k2, k3, k4, k5⟩
    exact ⟨_, rfl, ⟨ad, l, st', rfl, k1, k2, k3, k5⟩, trivial⟩
  rintro v w3 ⟨ad, l, st', rfl, k1, k2, k3, k5⟩
  have hs2 : (World.drew1 w2).heap.size = w.heap.size + 2 := by show w2.heap.size = _; omega
  have hq3 : w3.heap[w.heap.size + 1]? = some (.cells (List.replicate 16 (Value.int .u8 0)).toArray R.tA (0, 0)) := by
    rw [k1.block (w.heap.size + 1) (by omega) (by omega) (fun x => x)]; exact hq
  obtain ⟨v4, w4, m1, m2, m3, m4⟩ := run_copy16 (T := R.T.u8s) (U := R.T.u8) (lo := w.heap.size) (c := l.length) ok.tk.u8s ok.tk.u8 k5 (by omega) hq3
  refine RG.x (MR.cpBy (by exact m1)) (fun x => x) ?_
  refine RG.nil fun _ => ?_
  have hl16 : (((l ++ List.replicate 16 (0 : UInt8)).take 16).map byteV).length = 16 := by simp
  have t4 : w4.there w.heap.size 0 16 := by
    have t3 : w3.there w.heap.size 0 16 := there_keep (show (World.drew1 w2).there w.heap.size 0 16 from t2) (k1.block _ (by omega) (by omega) (fun x => x))
    exact there_keep t3 (m3 _ (by omega))
  show RW P 9 _ _ _ w4
  refine RW.sq (RW.rg (RL.step (MR.ldRow (b := w.heap.size + 1) (o := 0) (cs := ((l ++ List.replicate 16 (0 : UInt8)).take 16).map byteV) rfl hrow (by rw [hl16]; exact hc) m4) (RL.stA (cs := ((l ++ List.replicate 16 (0 : UInt8)).take 16).map byteV) (b := w.heap.size) (o := 0) rfl rfl (by rw [hl16]; exact hc) (by rw [hl16]; exact t4) (by simp only [List.all_map, List.all_eq_true]; intro b _; rfl) (RL.nil (RW.rt ?_)))))
  have r5 := World.rangeAt_setCells_same w4 w.heap.size 0 (((l ++ List.replicate 16 (0 : UInt8)).take 16).map byteV) (by rw [hl16]; exact t4)
  refine ⟨⟨w.heap.size, 0, none⟩, .agg (((l ++ List.replicate 16 (0 : UInt8)).take 16).map byteV).toArray, rfl, run_loadAt_row hrow (by rw [hl16]; exact hc) r5, ?_⟩
  have b5 : Below w.heap.size w3 (w4.setCells w.heap.size 0 (((l ++ List.replicate 16 (0 : UInt8)).take 16).map byteV)) := below_setCells (Nat.le_refl _) _ _ m2
  have F : Fr (fun _ => False) rb 0 2 w (w4.setCells w.heap.size 0 (((l ++ List.replicate 16 (0 : UInt8)).take 16).map byteV)) :=
    (((Fr.ofBelow bd hrb).trans (k1.wide (fun _ x => x.elim) (Nat.le_refl _) (Nat.le_refl _))).trans (Fr.ofBelowX b5 hrb)).drop (fun k hk => .inr hk)
  have R5 : RdAt (w4.setCells w.heap.size 0 (((l ++ List.replicate 16 (0 : UInt8)).take 16).map byteV)) rb sb st' := by
    by_cases hsb : sb < w.heap.size
    · exact k3.keep (b5.block rb hrb) (b5.block sb hsb)
    · have hst : st' = none := by
        cases st with
        | none => exact Got.out k2
        | some l0 =>
          cases l0 with
          | nil =>
            cases hst' : st' with
            | none => rfl
            | some r => rw [hst'] at k2; simp [Got, dSpan, takeN] at k2
          | cons x xs =>
            obtain ⟨ad0, c0, g1, g2, g3, g4, g5⟩ := h
            obtain ⟨g, o, e1, e2, e3⟩ := g5 0 x rfl
            have := World.block_lt_of_cell? w _ e3
            simp only at this
            omega
      subst hst
      exact ⟨range_keep k3.1 (b5.block rb hrb), there_keep k3.2 (b5.block rb hrb)⟩
  refine ⟨_, .s (some ((l ++ List.replicate 16 0).take 16)), st', rfl, F, ?_, R5, rfl, hl16, ?_, ?_⟩
  rotate_left
  · show List.all (((l ++ List.replicate 16 (0 : UInt8)).take 16).map byteV) _ = true
    simp only [List.all_map, List.all_eq_true]; intro b _; rfl
  rotate_left
  · cases hst' : st' with
    | none =>
      rw [hst'] at k2
      refine Got.failed fun l0 hl0 => ?_
      subst hl0
      refine Dec.map_none ?_
      have : dSpan 16 l0 = none := k2
      unfold dSpan at this
      simpa using this
    | some r =>
      rw [hst'] at k2
      cases st with
      | none => simp [Got] at k2
      | some l0 =>
        have k2' : takeN 16 l0 = some (l, r) := by have : dSpan 16 l0 = some (l, r) := k2; unfold dSpan at this; simpa using this
        have hl : l.length = 16 := by
          unfold takeN at k2'
          split at k2'
          · simp only [Option.some.injEq, Prod.mk.injEq] at k2'
            rw [← k2'.1, List.length_take]; omega
          · simp at k2'
        have : (l ++ List.replicate 16 (0 : UInt8)).take 16 = l := by rw [List.take_append_of_le_length (by omega), List.take_of_length_le (by omega)]
        rw [this]
        exact (Dec.map_of (f := fun l => D.s (some l)) k2' : Dec.map _ (takeN 16) l0 = _)
  · exact ⟨(l ++ List.replicate 16 0).take 16, by simp, rfl, rfl⟩
/-! ### Octets behind their length -/
def cByt (R : RN) : MCode := .sq (.rg [.mv 2 (.c .nslice)]) (.sq (.rg [.mv 4 (.t 0), .ca 5 R.i32 [.t 4], .mv 3 (.t 5)])
  (.sq (.sq (.rg [.mv 6 (.t 3), .bi 7 .eql R.T.i32 (.t 6) (.c (.int .i32 (-1)))]) (.cd 7 (.sq (.rg [.bsl 8 R.T.u8s [], .mv 2 (.t 8)]) .rt) .sk))
  (.sq (.rg [.mv 9 (.t 0), .mv 10 (.t 3), .cv 11 R.T.i32 R.T.int 10, .ca 12 R.span [.t 9, .t 11], .mv 2 (.t 12)]) .rt)))
def cCByt (R : RN) : MCode := .sq (.rg [.mv 2 (.c .nslice)]) (.sq (.rg [.mv 4 (.t 0), .ca 5 R.uv [.t 4], .cv 6 R.T.u32 R.T.int 5, .bi 7 .sub R.T.int (.t 6) (.c (.int .i64 1)), .mv 3 (.t 7)])
  (.sq (.sq (.rg [.mv 8 (.t 3), .bi 9 .eql R.T.int (.t 8) (.c (.int .i64 (-1)))]) (.cd 9 (.sq (.rg [.bsl 10 R.T.u8s [], .mv 2 (.t 10)]) .rt) .sk))
  (.sq (.rg [.mv 11 (.t 0), .mv 12 (.t 3), .ca 13 R.span [.t 11, .t 12], .mv 2 (.t 13)]) .rt)))
theorem I32.wr {n : Int} (h : I32 n) : IntKind.i64.wrap n = n := by obtain ⟨a1, a2⟩ := h; simp [IntKind.wrap, IntKind.signed, IntKind.bits]; omega
theorem beq_dec (a b : Int) : (a == b) = decide (a = b) := by by_cases h : a = b <;> simp [h]
section
variable {P : Program} {R : RN}
theorem byt_ok {f : Nat} (ok : ROK P R) (h32 : R.T.i32 ≠ 0) (hi : RdC P R.i32 (dInt 4) (PlB (fun x => .int .i32 x) I32)) (hsp : SpanC P R.span) (hf : FnIs P f (cByt R) 13 2) : RdC P f (dP .byt false) (PrC .byt) := by
  refine ⟨hf.ent, fun w rb sb st h hne => ?_⟩
  refine hf.runs (args := [.pointer (some ⟨rb, 0, none⟩)]) (by simp) (by omega) ?_
  refine RW.sq (RW.rg (RL.step MR.mv (RL.nil (RW.sq (RW.rg (RL.step (MR.mv (v := .pointer (some ⟨rb, 0, none⟩)) rfl) (RL.rd hi rfl h hne (by rfl) (by decide) ?_)))))))
  rintro v x st1 w1 hF hG hR ⟨rfl, hx⟩
  have hrb1 := hR.lt
  refine RL.step MR.mv (RL.nil (RW.sq (RW.sq (RW.rg (RL.step (MR.mv (v := .int .i32 x) rfl) (RL.step (MR.biE (v := .bool (decide (x = -1))) (by show some (Value.bool (x == -1)) = _; rw [beq_dec])) (RL.nil ?_)))))))
  refine RW.cd rfl (fun e => ?_) (fun e => RW.sk ?_)
  · have e := of_decide_eq_true e
    refine RW.sq (RW.rg (RL.bsl8 (bs := []) ok.tk.u8s ok.tk.u8 rfl (by simp) (RL.step MR.mv (RL.nil (RW.rt ?_)))))
    have b1 := below_box w1 (.cells (([] : List UInt8).map byteV).toArray R.T.u8)
    exact ⟨_, .s (some []), st1, rfl, hF.trans (Fr.ofBelow b1 hrb1), hG.bind (by rw [if_pos e]; exact Got.pure _), hR.below b1, rfl, rfl, rfl, _, _, [], rfl, fun j b hj => by simp at hj, rfl⟩
  have e := of_decide_eq_false e
  refine RW.sq (RW.rg (RL.step (MR.mv (v := .pointer (some ⟨rb, 0, none⟩)) rfl) (RL.step (MR.mv (v := .int .i32 x) rfl) (RL.step (MR.cvI rfl (ok.tk.i32 h32) ok.tk.int) (RL.span (n := x) hsp rfl (by show Value.int .i64 (IntKind.i64.wrap x) = _; rw [hx.wr]) hR hne (by rfl) (by rfl) (by decide) ?_)))))
  intro ad l st2 w2 hF2 hG2 hR2 ha hb
  refine RL.step MR.mv (RL.nil (RW.rt ?_))
  exact ⟨_, .s (some l), st2, rfl, hF.trans hF2, hG.bind (by rw [if_neg e]; exact hG2.map (f := fun l => D.s (some l))), hR2, rfl, rfl, rfl, _, _, l, rfl, hb.mono (fun _ h => .inl h) (fun _ _ => rfl), rfl⟩
theorem cbyt_ok {f : Nat} (ok : ROK P R) (h32 : R.T.u32 ≠ 0) (hi : RdC P R.uv dUv (PlB (fun x => .int .u32 (x : Nat)) (· < 4294967296))) (hsp : SpanC P R.span) (hf : FnIs P f (cCByt R) 14 2) : RdC P f (dP .byt true) (PrC .byt) := by
  refine ⟨hf.ent, fun w rb sb st h hne => ?_⟩
  refine hf.runs (args := [.pointer (some ⟨rb, 0, none⟩)]) (by simp) (by omega) ?_
  refine RW.sq (RW.rg (RL.step MR.mv (RL.nil (RW.sq (RW.rg (RL.step (MR.mv (v := .pointer (some ⟨rb, 0, none⟩)) rfl) (RL.rd hi rfl h hne (by rfl) (by decide) ?_)))))))
  rintro v x st1 w1 hF hG hR ⟨rfl, hx⟩
  have hrb1 := hR.lt
  refine RL.step (MR.cvI rfl (ok.tk.u32 h32) ok.tk.int) (RL.step (MR.biE (v := .int .i64 ((x : Int) - 1)) (by show some (Value.int .i64 (IntKind.i64.wrap (IntKind.i64.wrap (x : Int) - 1))) = _; rw [u32_w hx])) (RL.step MR.mv (RL.nil (RW.sq (RW.sq (RW.rg (RL.step (MR.mv (v := .int .i64 ((x : Int) - 1)) rfl) (RL.step (MR.biE (v := .bool (decide ((x : Int) - 1 = -1))) (by show some (Value.bool (((x : Int) - 1) == -1)) = _; rw [beq_dec])) (RL.nil ?_)))))))))
  refine RW.cd rfl (fun e => ?_) (fun e => RW.sk ?_)
  · have e := of_decide_eq_true e
    refine RW.sq (RW.rg (RL.bsl8 (bs := []) ok.tk.u8s ok.tk.u8 rfl (by simp) (RL.step MR.mv (RL.nil (RW.rt ?_)))))
    have b1 := below_box w1 (.cells (([] : List UInt8).map byteV).toArray R.T.u8)
    exact ⟨_, .s (some []), st1, rfl, hF.trans (Fr.ofBelow b1 hrb1), (hG.map (f := fun n : Nat => (n : Int) - 1)).bind (by rw [if_pos e]; exact Got.pure _), hR.below b1, rfl, rfl, rfl, _, _, [], rfl, fun j b hj => by simp at hj, rfl⟩
  have e := of_decide_eq_false e
  refine RW.sq (RW.rg (RL.step (MR.mv (v := .pointer (some ⟨rb, 0, none⟩)) rfl) (RL.step (MR.mv (v := .int .i64 ((x : Int) - 1)) rfl) (RL.span (n := (x : Int) - 1) hsp rfl rfl hR hne (by rfl) (by rfl) (by decide) ?_))))
  intro ad l st2 w2 hF2 hG2 hR2 ha hb
  refine RL.step MR.mv (RL.nil (RW.rt ?_))
  exact ⟨_, .s (some l), st2, rfl, hF.trans hF2, (hG.map (f := fun n : Nat => (n : Int) - 1)).bind (by rw [if_neg e]; exact hG2.map (f := fun l => D.s (some l))), hR2, rfl, rfl, rfl, _, _, l, rfl, hb.mono (fun _ h => .inl h) (fun _ _ => rfl), rfl⟩
/-! ### Octets that may be null; numbers with a point -/
def cNByt (R : RN) : MCode := .sq (.rg [.mv 2 (.c .nslice)]) (.sq (.rg [.mv 5 (.t 0), .ca 6 R.i32 [.t 5], .mv 3 (.t 6)])
  (.sq (.sq (.rg [.mv 7 (.t 3), .bi 8 .lss R.T.i32 (.t 7) (.c (.int .i32 0))]) (.cd 8 (.sq (.rg [.mv 2 (.c .nslice)]) .rt) .sk))
  (.sq (.rg [.mv 9 (.t 0), .mv 10 (.t 3), .cv 11 R.T.i32 R.T.int 10, .ca 12 R.span [.t 9, .t 11], .mv 4 (.t 12)]) (.sq (.rg [.mv 13 (.t 4), .mv 2 (.t 13)]) .rt))))
def cCNByt (R : RN) : MCode := .sq (.rg [.mv 2 (.c .nslice)]) (.sq (.rg [.mv 5 (.t 0), .ca 6 R.uv [.t 5], .cv 7 R.T.u32 R.T.int 6, .bi 8 .sub R.T.int (.t 7) (.c (.int .i64 1)), .mv 3 (.t 8)])
  (.sq (.sq (.rg [.mv 9 (.t 3), .bi 10 .lss R.T.int (.t 9) (.c (.int .i64 0))]) (.cd 10 (.sq (.rg [.mv 2 (.c .nslice)]) .rt) .sk))
  (.sq (.rg [.mv 11 (.t 0), .mv 12 (.t 3), .ca 13 R.span [.t 11, .t 12], .mv 4 (.t 13)]) (.sq (.rg [.mv 14 (.t 4), .mv 2 (.t 14)]) .rt))))
theorem nbyt_fin {w : World} {sb : Nat} {ad : Option Addr} {l : List UInt8} {st2 : Option (List UInt8)} (ha : okAd ad) (hb : BytesAt w (· = sb) ad l) (h1 : st2 ≠ none → ad ≠ none) (h2 : st2 = none → ad = none ∧ l = []) : ∃ d, (st2 ≠ none → d = D.s (some l)) ∧ PrC .nbyt w (Rb w sb) (.slice ad l.length l.length) d := by
  cases st2 with
  | none =>
    obtain ⟨rfl, rfl⟩ := h2 rfl
    exact ⟨.s none, fun h => absurd rfl h, rfl, rfl, rfl, .inl ⟨rfl, rfl⟩⟩
  | some r =>
    cases ad with
    | none => exact absurd rfl (h1 (by simp))
    | some a => exact ⟨.s (some l), fun _ => rfl, rfl, rfl, rfl, .inr ⟨a, _, l, rfl, hb.mono (fun _ h => .inl h) (fun _ _ => rfl), rfl⟩⟩
theorem Got.chg {α : Type} {d : Dec α} {st st' : Option (List UInt8)} {x y : α} (h : Got d st x st') (hy : st' ≠ none → y = x) : Got d st y st' := by
  cases st' with
  | none => exact h
  | some r => rw [hy (by simp)]; exact h
theorem nbyt_ok {f : Nat} (ok : ROK P R) (h32 : R.T.i32 ≠ 0) (hi : RdCS P R.i32 (dInt 4) (PlB (fun x => .int .i32 x) I32)) (hsp : SpanCS P R.span) (hf : FnIs P f (cNByt R) 14 2) : RdC P f (dP .nbyt false) (PrC .nbyt) := by
  refine ⟨hf.ent, fun w rb sb st h hne => ?_⟩
  refine hf.runs (args := [.pointer (some ⟨rb, 0, none⟩)]) (by simp) (by omega) ?_
  refine RW.sq (RW.rg (RL.step MR.mv (RL.nil (RW.sq (RW.rg (RL.step (MR.mv (v := .pointer (some ⟨rb, 0, none⟩)) rfl) (RL.rdS hi rfl h hne (by rfl) (by decide) ?_)))))))
  rintro v x st1 w1 hF hG hR ⟨rfl, hx⟩ hA
  refine RL.step MR.mv (RL.nil (RW.sq (RW.sq (RW.rg (RL.step (MR.mv (v := .int .i32 x) rfl) (RL.step (MR.biE (v := .bool (decide (x < 0))) rfl) (RL.nil ?_)))))))
  refine RW.cd rfl (fun e => ?_) (fun e => RW.sk ?_)
  · have e := of_decide_eq_true e
    refine RW.sq (RW.rg (RL.step MR.mv (RL.nil (RW.rt ?_))))
    exact ⟨_, .s none, st1, rfl, hF, hG.bind (by rw [if_pos e]; exact Got.pure _), hR, rfl, rfl, rfl, .inl ⟨rfl, rfl⟩⟩
  have e := of_decide_eq_false e
  refine RW.sq (RW.rg (RL.step (MR.mv (v := .pointer (some ⟨rb, 0, none⟩)) rfl) (RL.step (MR.mv (v := .int .i32 x) rfl) (RL.step (MR.cvI rfl (ok.tk.i32 h32) ok.tk.int) (RL.spanS (n := x) hsp rfl (by show Value.int .i64 (IntKind.i64.wrap x) = _; rw [hx.wr]) hR hne (by rfl) (by rfl) (by decide) ?_)))))
  intro ad l st2 w2 hF2 hG2 hR2 ha hb hs1 hs2
  obtain ⟨d, hd1, hd2⟩ := nbyt_fin (st2 := st2) ha hb (fun hn => hs1 (hA (by rintro rfl; exact hn hG2.out)) hn) hs2
  refine RL.step MR.mv (RL.nil (RW.sq (RW.rg (RL.step (MR.mv (v := .slice ad l.length l.length) rfl) (RL.step MR.mv (RL.nil (RW.rt ?_)))))))
  have hd2' : PrC .nbyt w2 (Rb w sb) (.slice ad l.length l.length) d := by
    obtain ⟨a1, a2, a3, a4⟩ := hd2
    refine ⟨a1, a2, a3, RepP.mono a4 (fun b hb => hb.imp id (fun hb => ?_)) (fun _ _ => rfl)⟩
    exact Nat.le_trans (Nat.le_trans hF.size hF2.size) hb
  have hG3 : Got (dP .nbyt false) st (D.s (some l)) st2 := hG.bind (by rw [if_neg e]; exact hG2.map (f := fun l => D.s (some l)))
  exact ⟨_, d, st2, rfl, hF.trans hF2, hG3.chg hd1, hR2, hd2'⟩
theorem cnbyt_ok {f : Nat} (ok : ROK P R) (h32 : R.T.u32 ≠ 0) (hi : RdCS P R.uv dUv (PlB (fun x => .int .u32 (x : Nat)) (· < 4294967296))) (hsp : SpanCS P R.span) (hf : FnIs P f (cCNByt R) 15 2) : RdC P f (dP .nbyt true) (PrC .nbyt) := by
  refine ⟨hf.ent, fun w rb sb st h hne => ?_⟩
  refine hf.runs (args := [.pointer (some ⟨rb, 0, none⟩)]) (by simp) (by omega) ?_
  refine RW.sq (RW.rg (RL.step MR.mv (RL.nil (RW.sq (RW.rg (RL.step (MR.mv (v := .pointer (some ⟨rb, 0, none⟩)) rfl) (RL.rdS hi rfl h hne (by rfl) (by decide) ?_)))))))
  rintro v x st1 w1 hF hG hR ⟨rfl, hx⟩ hA
  refine RL.step (MR.cvI rfl (ok.tk.u32 h32) ok.tk.int) (RL.step (MR.biE (v := .int .i64 ((x : Int) - 1)) (by show some (Value.int .i64 (IntKind.i64.wrap (IntKind.i64.wrap (x : Int) - 1))) = _; rw [u32_w hx])) (RL.step MR.mv (RL.nil (RW.sq (RW.sq (RW.rg (RL.step (MR.mv (v := .int .i64 ((x : Int) - 1)) rfl) (RL.step (MR.biE (v := .bool (decide ((x : Int) - 1 < 0))) rfl) (RL.nil ?_)))))))))
  refine RW.cd rfl (fun e => ?_) (fun e => RW.sk ?_)
  · have e := of_decide_eq_true e
    refine RW.sq (RW.rg (RL.step MR.mv (RL.nil (RW.rt ?_))))
    exact ⟨_, .s none, st1, rfl, hF, (hG.map (f := fun n : Nat => (n : Int) - 1)).bind (by rw [if_pos e]; exact Got.pure _), hR, rfl, rfl, rfl, .inl ⟨rfl, rfl⟩⟩
  have e := of_decide_eq_false e
  refine RW.sq (RW.rg (RL.step (MR.mv (v := .pointer (some ⟨rb, 0, none⟩)) rfl) (RL.step (MR.mv (v := .int .i64 ((x : Int) - 1)) rfl) (RL.spanS (n := (x : Int) - 1) hsp rfl rfl hR hne (by rfl) (by rfl) (by decide) ?_))))
  intro ad l st2 w2 hF2 hG2 hR2 ha hb hs1 hs2
  obtain ⟨d, hd1, hd2⟩ := nbyt_fin (st2 := st2) ha hb (fun hn => hs1 (hA (by rintro rfl; exact hn hG2.out)) hn) hs2
  refine RL.step MR.mv (RL.nil (RW.sq (RW.rg (RL.step (MR.mv (v := .slice ad l.length l.length) rfl) (RL.step MR.mv (RL.nil (RW.rt ?_)))))))
  have hd2' : PrC .nbyt w2 (Rb w sb) (.slice ad l.length l.length) d := by
    obtain ⟨a1, a2, a3, a4⟩ := hd2
    refine ⟨a1, a2, a3, RepP.mono a4 (fun b hb => hb.imp id (fun hb => ?_)) (fun _ _ => rfl)⟩
    exact Nat.le_trans (Nat.le_trans hF.size hF2.size) hb
  have hG3 : Got (dP .nbyt true) st (D.s (some l)) st2 := (hG.map (f := fun n : Nat => (n : Int) - 1)).bind (by rw [if_neg e]; exact hG2.map (f := fun l => D.s (some l)))
  exact ⟨_, d, st2, rfl, hF.trans hF2, hG3.chg hd1, hR2, hd2'⟩
end
set_option linter.unusedSimpArgs false
def rkB (P : Program) (R : RN) (G : TG) : List Bool := [(rokB P R).all id, (tgrB P G).all id,
  orNo R.be16 (isFn P R.be16 (cBe R R.T.u16 2 .u16) 18 4 && yes R.T.u16), orNo R.be32 (isFn P R.be32 (cBe R R.T.u32 4 .u32) 30 4 && yes R.T.u32), orNo R.be64 (isFn P R.be64 (cBe R R.T.u64 8 .u64) 54 4 && yes R.T.u64),
  orNo R.i16 (isFn P R.i16 (cNumC R 2 R.be16 R.T.u16 R.T.i16 .i16) 32 2 && yes R.be16 && yes R.T.u16 && yes R.T.i16), orNo R.i32 (isFn P R.i32 (cNumC R 4 R.be32 R.T.u32 R.T.i32 .i32) 32 2 && yes R.be32 && yes R.T.u32 && yes R.T.i32),
  orNo R.r64 (isFn P R.r64 (cNumU R 8 R.be64 .u64) 31 2 && yes R.be64), orNo R.i64 (isFn P R.i64 (cI64 R) 6 2 && yes R.r64 && yes R.T.u64 && yes R.T.i64), orNo R.bool (isFn P R.bool (cBool R) 32 2),
  orNo R.span (isFn P R.span (cSpan R) 40 4), orNo R.uvd (isFn2 P R.uvd (cUvd R) 87 2 3 && yes R.T.u32), orNo R.uv (isFn P R.uv (cRUv R) 31 2 && yes R.uvd && yes R.T.u32)]
theorem dNat_lt {k : Nat} {l r : List UInt8} {x : Nat} (h : dNat k l = some (x, r)) : x < 256 ^ k := by
  unfold dNat Dec.map at h
  cases ht : takeN k l with
  | none => simp [ht] at h
  | some p =>
    simp only [ht, Option.map_some, Option.some.injEq, Prod.mk.injEq] at h
    obtain ⟨rfl, _⟩ := h
    unfold takeN at ht
    split at ht
    · simp only [Option.some.injEq] at ht
      subst ht
      refine Nat.lt_of_lt_of_le (beVal_lt _) (Nat.pow_le_pow_right (by omega) (by simp; omega))
    · simp at ht
theorem rd_i16 {P : Program} {R : RN} {G : TG} (h : (rkB P R G).all id = true) : R.i16 ≠ 0 → RdC P R.i16 (dInt 2) (PlB (fun x => .int .i16 x) I16) := by
  simp only [rkB, List.all_cons, List.all_nil, id_eq, Bool.and_true, Bool.and_eq_true] at h
  obtain ⟨h1, h2, h3, h4, h5, h6, _⟩ := h
  intro e
  have ok := rok_of h1
  have := orNo_of h6 e
  simp only [Bool.and_eq_true] at this
  obtain ⟨⟨⟨a1, a2⟩, a3⟩, a4⟩ := this
  have hb := orNo_of h3 (yes_of a2)
  simp only [Bool.and_eq_true] at hb
  have hbe : BeC P R.be16 2 .u16 := be_ok ok ku16 (ok.tk.u16 (yes_of a3)) (by omega) (FnIs.of hb.1)
  exact (numC_ok ok hbe (by omega) (ok.tk.u16 (yes_of a3)) (ok.tk.i16 (yes_of a4)) (fun x hx => wrap_sgn16 hx) (FnIs.of a1)).c (fun l x r hd => by
    have := dInt_some (by omega) hd
    simp only [Nat.reducePow, Nat.reduceDiv] at this
    exact ⟨by omega, by omega⟩) ⟨by show (-32768 : Int) ≤ 0; omega, by show (0 : Int) ≤ 32767; omega⟩
theorem rd_i32S {P : Program} {R : RN} {G : TG} (h : (rkB P R G).all id = true) : R.i32 ≠ 0 → RdCS P R.i32 (dInt 4) (PlB (fun x => .int .i32 x) I32) := by
  simp only [rkB, List.all_cons, List.all_nil, id_eq, Bool.and_true, Bool.and_eq_true] at h
  obtain ⟨h1, h2, h3, h4, h5, h6, h7, _⟩ := h
  intro e
  have ok := rok_of h1
  have := orNo_of h7 e
  simp only [Bool.and_eq_true] at this
  obtain ⟨⟨⟨a1, a2⟩, a3⟩, a4⟩ := this
  have hb := orNo_of h4 (yes_of a2)
  simp only [Bool.and_eq_true] at hb
  have hbe : BeC P R.be32 4 .u32 := be_ok ok ku32 (ok.tk.u32 (yes_of a3)) (by omega) (FnIs.of hb.1)
  exact (numC_okS ok hbe (by omega) (ok.tk.u32 (yes_of a3)) (ok.tk.i32 (yes_of a4)) (fun x hx => wrap_sgn32 hx) (FnIs.of a1)).c (fun l x r hd => by
    have := dInt_some (by omega) hd
    simp only [Nat.reducePow, Nat.reduceDiv] at this
    exact ⟨by omega, by omega⟩) ⟨by show (-2147483648 : Int) ≤ 0; omega, by show (0 : Int) ≤ 2147483647; omega⟩
theorem rd_i32 {P : Program} {R : RN} {G : TG} (h : (rkB P R G).all id = true) : R.i32 ≠ 0 → RdC P R.i32 (dInt 4) (PlB (fun x => .int .i32 x) I32) := fun e => (rd_i32S h e).n
theorem rd_uvS {P : Program} {R : RN} {G : TG} (h : (rkB P R G).all id = true) : R.uv ≠ 0 → RdCS P R.uv dUv (PlB (fun x => .int .u32 (x : Nat)) (· < 4294967296)) := by
  simp only [rkB, List.all_cons, List.all_nil, id_eq, Bool.and_true, Bool.and_eq_true] at h
  obtain ⟨h1, _, _, _, _, _, _, _, _, _, _, h12, h13⟩ := h
  intro e
  have ok := rok_of h1
  have a := orNo_of h13 e
  simp only [Bool.and_eq_true] at a
  have b := orNo_of h12 (yes_of a.1.2)
  simp only [Bool.and_eq_true] at b
  exact ruv_okS ok (uvd_ok ok (yes_of b.2) (FnIs2.of b.1)) (FnIs.of a.1.1)
theorem rd_uv {P : Program} {R : RN} {G : TG} (h : (rkB P R G).all id = true) : R.uv ≠ 0 → RdC P R.uv dUv (PlB (fun x => .int .u32 (x : Nat)) (· < 4294967296)) := fun e => (rd_uvS h e).n
theorem rd_i64 {P : Program} {R : RN} {G : TG} (h : (rkB P R G).all id = true) : R.i64 ≠ 0 → RdC P R.i64 (dInt 8) (PlB (fun x => .int .i64 x) (fun n => -9223372036854775808 ≤ n ∧ n ≤ 9223372036854775807)) := by
  simp only [rkB, List.all_cons, List.all_nil, id_eq, Bool.and_true, Bool.and_eq_true] at h
  obtain ⟨h1, h2, h3, h4, h5, h6, h7, h8, h9, _⟩ := h
  intro e
  have ok := rok_of h1
  have a := orNo_of h9 e
  simp only [Bool.and_eq_true] at a
  obtain ⟨⟨⟨a1, a2⟩, a3⟩, a4⟩ := a
  have b := orNo_of h8 (yes_of a2)
  simp only [Bool.and_eq_true] at b
  have c := orNo_of h5 (yes_of b.2)
  simp only [Bool.and_eq_true] at c
  have hbe : BeC P R.be64 8 .u64 := be_ok ok ku64 (ok.tk.u64 (yes_of c.2)) (by omega) (FnIs.of c.1)
  exact (i64_ok ok (yes_of a3) (yes_of a4) (numU_ok ok hbe (by omega) (FnIs.of b.1)) (FnIs.of a1)).c (fun l x r hd => by
    have := dInt_some (by omega) hd
    simp only [Nat.reducePow, Nat.reduceDiv] at this
    exact ⟨by omega, by omega⟩) ⟨by show (-9223372036854775808 : Int) ≤ 0; omega, by show (0 : Int) ≤ 9223372036854775807; omega⟩
theorem rd_spanS {P : Program} {R : RN} {G : TG} (h : (rkB P R G).all id = true) : R.span ≠ 0 → SpanCS P R.span := by
  simp only [rkB, List.all_cons, List.all_nil, id_eq, Bool.and_true, Bool.and_eq_true] at h
  obtain ⟨h1, _, _, _, _, _, _, _, _, _, h11, _⟩ := h
  intro e
  exact span_okS (rok_of h1) (FnIs.of (orNo_of h11 e))
theorem rd_span {P : Program} {R : RN} {G : TG} (h : (rkB P R G).all id = true) : R.span ≠ 0 → SpanC P R.span := fun e => (rd_spanS h e).n
set_option linter.unusedSimpArgs false
def cI8 (R : RN) : MCode :=
  .sq (.rg [.mv 2 (.c (.int .i8 0))]) (.sq (.sq (.rg (headR R 1 (.int .i8 0))) (.cd 9 (failM R (.int .i8 0) 2 10) .sk))
    (.sq (.rg [.mv 16 (.t 0), .nc 17 16, .fa 18 R.tR 17 0, .ld 19 R.T.u8s 18, .iak 20 R.T.u8s 19 0, .ld 21 R.T.u8 20, .mv 3 (.t 21)])
    (.sq (.rg (nextR R 1 22)) (.sq (.rg [.mv 30 (.t 3), .cv 31 R.T.u8 R.T.i8 30, .mv 2 (.t 31)]) .rt))))
theorem wrap_sgn8 {x : Nat} (h : x < 256) : IntKind.i8.wrap (x : Int) = sgn 1 x := by
  unfold sgn
  simp [IntKind.wrap, IntKind.signed, IntKind.bits]
  split <;> omega
theorem i8_ok {P : Program} {R : RN} {f : Nat} (ok : ROK P R) (h8 : R.T.i8 ≠ 0) (hf : FnIs P f (cI8 R) 32 2) : RdC P f (dInt 1) (PlB (fun x => .int .i8 x) (fun n => -128 ≤ n ∧ n ≤ 127)) := by
  refine ⟨hf.ent, fun w rb sb st h hne => ?_⟩
  refine hf.runs (args := [.pointer (some ⟨rb, 0, none⟩)]) (by simp) (by omega) ?_
  refine RW.sq (RW.rg (RL.step MR.mv (RL.nil (RW.sq (head_ok (n := 1) ok h rfl (by omega) (by omega) (fun hlt ρ' w' g1 g2 g3 => ?_) (fun l hl hnl ρ1 hρ => ?_))))))
  · refine ⟨_, 0, none, rfl, g3, Got.failed (fun l hl => ?_), g2, g1, by omega, by omega⟩
    subst hl; exact Dec.map_none (Dec.map_none (takeN_none hlt))
  · subst hl
    obtain ⟨y, hy⟩ : ∃ y, l[0]? = some y := ⟨_, List.getElem?_eq_getElem (by omega)⟩
    obtain ⟨ad, c, r1, r2, r3, r4, r5⟩ := h
    obtain ⟨g, o, rfl, hc, hlt⟩ := byte_at r5 hy
    show RW P 32 _ _ ρ1 w
    have q0 : ρ1 0 = .pointer (some ⟨rb, 0, none⟩) := by rw [hρ 0 (by omega)]; rfl
    refine RW.sq (RW.rg (RL.step (MR.mv q0) (RL.step (MR.nc rfl) (RL.step (MR.fa rfl ok.f0) (RL.step (MR.ld rfl ok.ps (r1 0 _ rfl)) (RL.step (MR.iak (sz := 1) ok.tk.u8s ok.cu rfl hlt) (RL.step (MR.ld rfl ok.pu hc)
      (RL.step MR.mv (RL.nil ?_)))))))))
    refine RW.sq (RW.rg (next_ok ok ⟨_, c, r1, r2, r3, r4, r5⟩ hne hnl q0 (by omega) (by omega) fun ρ2 w2 k1 k2 k3 => ?_))
    refine RW.sq (RW.rg (RL.step (MR.mv (v := .int .u8 (y.toNat : Int)) (by show ρ2 3 = _; rw [k1 3 (by omega)]; rfl)) (RL.step (MR.cvI rfl ok.tk.u8i (ok.tk.i8 h8)) (RL.step MR.mv (RL.nil (RW.rt ?_))))))
    have hbv : beVal (l.take 1) = y.toNat := by
      cases l with
      | nil => simp at hy
      | cons a l => simp at hy; subst hy; simp [beVal]
    have hy8 := y.toNat_lt
    refine ⟨_, sgn 1 y.toNat, some (l.drop 1), rfl, k3, ?_, k2, ?_, ?_, ?_⟩
    · show dInt 1 l = _
      have := Dec.map_of (f := sgn 1) (Dec.map_of (f := beVal) (takeN_yes hnl))
      rw [hbv] at this
      exact this
    · show Value.int .i8 (IntKind.i8.wrap (y.toNat : Int)) = _
      rw [wrap_sgn8 (by omega)]
    · show (-128 : Int) ≤ sgn 1 y.toNat; unfold sgn; split <;> omega
    · show sgn 1 y.toNat ≤ 127; unfold sgn; split <;> omega
def rk2B (P : Program) (R : RN) (G : TG) : List Bool := [
  orNo R.str (isFn P R.str (cStr R) 11 2 && yes R.T.str && yes R.T.i16 && yes R.i16 && yes R.span),
  orNo R.cstr (isFn P R.cstr (cCStr R) 12 2 && yes R.T.str && yes R.T.u32 && yes R.uv && yes R.span),
  orNo R.nstr (isFn P R.nstr (cNStr R) 14 2 && yes R.T.str && yes R.T.i16 && yes R.i16 && yes R.span && zOneB P R.T.str && cellsB P R.T.str 1),
  orNo R.cnstr (isFn P R.cnstr (cCNStr R) 15 2 && yes R.T.str && yes R.T.u32 && yes R.uv && yes R.span && zOneB P R.T.str && cellsB P R.T.str 1),
  orNo R.alen (isFn P R.alen (cALen R) 21 2 && yes R.T.i32 && yes R.i32),
  orNo R.calen (isFn P R.calen (cCALen R) 23 2 && yes R.T.i32 && yes R.T.u32 && yes R.uv),
  orNo R.okf (isFn P R.okf (cOk R) 8 2), isFn P R.compl (cCompl R) 8 2,
  orNo G.fRead (isFnC P G.fRead (cReadTags R G) 24 2 G.tSt && isFn0 P G.fSet (cTagSet G) 21 && yes R.T.u32 && yes R.uv && yes R.span),
  orNo R.u16 (isFn P R.u16 (cNumU R 2 R.be16 .u16) 31 2 && yes R.be16 && yes R.T.u16),
  orNo R.i8 (isFn P R.i8 (cI8 R) 32 2 && yes R.T.i8), orNo R.byt (isFn P R.byt (cByt R) 13 2 && yes R.T.i32 && yes R.i32 && yes R.span), orNo R.cbyt (isFn P R.cbyt (cCByt R) 14 2 && yes R.T.u32 && yes R.uv && yes R.span), orNo R.nbyt (isFn P R.nbyt (cNByt R) 14 2 && yes R.T.i32 && yes R.i32 && yes R.span), orNo R.cnbyt (isFn P R.cnbyt (cCNByt R) 15 2 && yes R.T.u32 && yes R.uv && yes R.span),
  orNo R.uuid (isFnC P R.uuid (cUuidR R) 9 2 R.tA && yes R.span && arrOf P R.tA 16 R.T.u8 && rowTy P R.tA && cellsB P R.tA 16 && zeroIs P R.tA (List.replicate 16 (.int .u8 0)))]
def F64R (P : Program) (R : RN) : Prop := R.f64 ≠ 0 → ∀ flex, RdC P R.f64 (dP .f64 flex) (PrC .f64)
theorem f64r_none {P : Program} {R : RN} (h : R.f64 = 0) : F64R P R := fun e => absurd h e
theorem rd_u16 {P : Program} {R : RN} {G : TG} (h : (rkB P R G).all id = true) (e : R.be16 ≠ 0) (h16 : R.T.u16 ≠ 0) (hf : FnIs P R.u16 (cNumU R 2 R.be16 .u16) 31 2) : RdC P R.u16 (dNat 2) (PlB (fun x => .int .u16 (x : Nat)) (· < 65536)) := by
  simp only [rkB, List.all_cons, List.all_nil, id_eq, Bool.and_true, Bool.and_eq_true] at h
  obtain ⟨h1, h2, h3, _⟩ := h
  have ok := rok_of h1
  have hb := orNo_of h3 e
  simp only [Bool.and_eq_true] at hb
  have hbe : BeC P R.be16 2 .u16 := be_ok ok ku16 (ok.tk.u16 h16) (by omega) (FnIs.of hb.1)
  exact (numU_ok ok hbe (by omega) hf).c (fun l x r hd => dNat_lt hd) (by decide)
theorem rk_of {P : Program} {R : RN} {G : TG} (h : (rkB P R G).all id = true) (h2 : (rk2B P R G).all id = true) (hfl : F64R P R) : RKOK P R G := by
  have hh := h
  simp only [rkB, List.all_cons, List.all_nil, id_eq, Bool.and_true, Bool.and_eq_true] at hh
  obtain ⟨k1, k2, _, _, _, _, _, _, _, k10, _⟩ := hh
  have ok := rok_of k1
  have tg := tgr_of k2
  simp only [rk2B, List.all_cons, List.all_nil, id_eq, Bool.and_true, Bool.and_eq_true] at h2
  obtain ⟨t1, t2, t3, t4, t5, t6, t7, t8, t9, t10, z1, z2, z3, z4, z5, z6⟩ := h2
  refine ⟨ok, tg, fun k flex e => ?_, fun e => ?_, fun e => ?_, fun e => okf_ok ok (FnIs.of (orNo_of t7 e)), compl_ok ok (FnIs.of t8), fun e => ?_, fun e => rd_uv h e, fun e => rd_span h e, fun e => ?_⟩
  · cases k <;> simp only [RN.fn] at e ⊢
    case i8 =>
      have := orNo_of z1 e
      simp only [Bool.and_eq_true] at this
      refine (i8_ok ok (yes_of this.2) (FnIs.of this.1)).map fun w F v x hx => ?_
      obtain ⟨rfl, a, b⟩ := hx
      exact ⟨rfl, rfl, rfl, x, rfl, rfl, a, b⟩
    case i16 =>
      refine (rd_i16 h e).map fun w F v x hx => ?_
      obtain ⟨rfl, a, b⟩ := hx
      exact ⟨rfl, rfl, rfl, x, rfl, rfl, a, b⟩
    case u16 =>
      have := orNo_of t10 e
      simp only [Bool.and_eq_true] at this
      refine (rd_u16 h (yes_of this.1.2) (yes_of this.2) (FnIs.of this.1.1)).map fun w F v x hx => ?_
      obtain ⟨rfl, a⟩ := hx
      exact ⟨rfl, rfl, rfl, _, rfl, rfl, by omega, by omega⟩
    case i32 =>
      refine (rd_i32 h e).map fun w F v x hx => ?_
      obtain ⟨rfl, a, b⟩ := hx
      exact ⟨rfl, rfl, rfl, x, rfl, rfl, a, b⟩
    case i64 =>
      refine (rd_i64 h e).map fun w F v x hx => ?_
      obtain ⟨rfl, a, b⟩ := hx
      exact ⟨rfl, rfl, rfl, x, rfl, rfl, a, b⟩
    case uuid =>
      have := orNo_of z6 e
      simp only [Bool.and_eq_true] at this
      obtain ⟨⟨⟨⟨⟨a1, a2⟩, a3⟩, a4⟩, a5⟩, a6⟩ := this
      exact uuid_ok ok a3 a4 a5 a6 (rd_span h (yes_of a2)) (FnIsC.of a1)
    case bool =>
      exact bool_ok ok flex (FnIs.of (orNo_of k10 e))
    case f64 =>
      exact hfl e flex
    case str =>
      cases flex <;> simp only [if_true, if_false, Bool.false_eq_true] at e ⊢
      · have := orNo_of t1 e
        simp only [Bool.and_eq_true] at this
        obtain ⟨⟨⟨⟨a1, a2⟩, a3⟩, a4⟩, a5⟩ := this
        exact str_ok ok (yes_of a2) (yes_of a3) (rd_i16 h (yes_of a4)) (rd_span h (yes_of a5)) (FnIs.of a1)
      · have := orNo_of t2 e
        simp only [Bool.and_eq_true] at this
        obtain ⟨⟨⟨⟨a1, a2⟩, a3⟩, a4⟩, a5⟩ := this
        exact cstr_ok ok (yes_of a2) (yes_of a3) (rd_uv h (yes_of a4)) (rd_span h (yes_of a5)) (FnIs.of a1)
    case nstr =>
      cases flex <;> simp only [if_true, if_false, Bool.false_eq_true] at e ⊢
      · have := orNo_of t3 e
        simp only [Bool.and_eq_true] at this
        obtain ⟨⟨⟨⟨⟨⟨a1, a2⟩, a3⟩, a4⟩, a5⟩, a6⟩, a7⟩ := this
        exact nstr_ok ok (yes_of a2) (yes_of a3) a6 a7 (rd_i16 h (yes_of a4)) (rd_span h (yes_of a5)) (FnIs.of a1)
      · have := orNo_of t4 e
        simp only [Bool.and_eq_true] at this
        obtain ⟨⟨⟨⟨⟨⟨a1, a2⟩, a3⟩, a4⟩, a5⟩, a6⟩, a7⟩ := this
        exact cnstr_ok ok (yes_of a2) (yes_of a3) a6 a7 (rd_uv h (yes_of a4)) (rd_span h (yes_of a5)) (FnIs.of a1)
    case byt =>
      cases flex <;> simp only [if_true, if_false, Bool.false_eq_true] at e ⊢
      · have := orNo_of z2 e
        simp only [Bool.and_eq_true] at this
        obtain ⟨⟨⟨a1, a2⟩, a3⟩, a4⟩ := this
        exact byt_ok ok (yes_of a2) (rd_i32 h (yes_of a3)) (rd_span h (yes_of a4)) (FnIs.of a1)
      · have := orNo_of z3 e
        simp only [Bool.and_eq_true] at this
        obtain ⟨⟨⟨a1, a2⟩, a3⟩, a4⟩ := this
        exact cbyt_ok ok (yes_of a2) (rd_uv h (yes_of a3)) (rd_span h (yes_of a4)) (FnIs.of a1)
    case nbyt =>
      cases flex <;> simp only [if_true, if_false, Bool.false_eq_true] at e ⊢
      · have := orNo_of z4 e
        simp only [Bool.and_eq_true] at this
        obtain ⟨⟨⟨a1, a2⟩, a3⟩, a4⟩ := this
        exact nbyt_ok ok (yes_of a2) (rd_i32S h (yes_of a3)) (rd_spanS h (yes_of a4)) (FnIs.of a1)
      · have := orNo_of z5 e
        simp only [Bool.and_eq_true] at this
        obtain ⟨⟨⟨a1, a2⟩, a3⟩, a4⟩ := this
        exact cnbyt_ok ok (yes_of a2) (rd_uvS h (yes_of a3)) (rd_spanS h (yes_of a4)) (FnIs.of a1)
  · have := orNo_of t5 e
    simp only [Bool.and_eq_true] at this
    exact alen_ok ok (yes_of this.1.2) (rd_i32 h (yes_of this.2)) (FnIs.of this.1.1)
  · have := orNo_of t6 e
    simp only [Bool.and_eq_true] at this
    obtain ⟨⟨⟨a1, a2⟩, a3⟩, a4⟩ := this
    exact calen_ok ok (yes_of a2) (yes_of a3) (rd_uv h (yes_of a4)) (FnIs.of a1)
  · have := orNo_of t9 e
    simp only [Bool.and_eq_true] at this
    obtain ⟨⟨⟨⟨a1, a2⟩, a3⟩, a4⟩, a5⟩ := this
    exact readTags_ok ok tg (yes_of a3) (rd_uv h (yes_of a4)) (rd_span h (yes_of a5)) (set_ok tg (FnIs0.of a2)) (FnIsC.of a1)
  · have := orNo_of t9 e
    simp only [Bool.and_eq_true] at this
    exact set_ok tg (FnIs0.of this.1.1.1.2)
end Go.Kx
namespace Go.Kx
open Go.RowKit Go.Proofs Go.Shelf Go.Sort Go.Lib
set_option linter.unusedVariables false
section
variable {P : Program} {w : World} {T : IT} {K : EN}
theorem swo_nat : SWO (fun a b : Nat => decide (a < b)) :=
  ⟨fun x => by simp, fun x y z h1 h2 => by simp only [decide_eq_true_eq] at *; omega, fun x y z h1 h2 => by simp only [decide_eq_false_iff_not] at *; omega⟩
theorem frozen_cells {g o : Nat} {cur : Array Value} {U : Nat} (h : w.heap[g]? = some (.cells cur U (0, 0))) : w.frozen? ⟨g, o, none⟩ = false := by
  simp [World.frozen?, h]
theorem sort_fin {U g n : Nat} {cur : Array Value} {ks : List Nat} (hg : w.heap[g]? = some (.cells cur U (0, 0))) (hl : ks.length = n) (hr : w.rangeAt g 0 (ks.map u32V)) (ht : w.there g 0 n) (hgs : g < w.heap.size)
    {d' : Array Nat} (hp : PermIn 0 ks.toArray.size ks.toArray d') (hs : SortedIn (fun a b : Nat => decide (a < b)) 0 ks.toArray.size d') {m : Nat} {os : Array Obj} :
    ∃ ks' : List Nat, ks'.Perm ks ∧ ks'.Pairwise (fun x y => x ≤ y) ∧ (grow (putRow u32V (Sort.ahead w m) g 0 d') os).rangeAt g 0 (ks'.map u32V) ∧ (∃ cur', (grow (putRow u32V (Sort.ahead w m) g 0 d') os).heap[g]? = some (.cells cur' U (0, 0))) ∧ Fr (fun _ => False) g 0 n w (grow (putRow u32V (Sort.ahead w m) g 0 d') os) := by
  have hsz : d'.size = n := by rw [hp.1]; simpa using hl
  have hH : Holds u32V (Sort.ahead w m) g 0 ks.toArray := fun j hj => by
    have hj' : j < ks.length := by simpa using hj
    refine ⟨?_, frozen_cells hg⟩
    have := hr j (u32V ks[j]) (by rw [List.getElem?_map, List.getElem?_eq_getElem hj']; rfl)
    rw [cell?_ahead, this, getElem!_pos _ j hj]
    simp
  have hgp : g < (putRow u32V (Sort.ahead w m) g 0 d').heap.size := by rw [Go.Sort.size_putRow]; exact hgs
  have hcell : ∀ j, j < n → (grow (putRow u32V (Sort.ahead w m) g 0 d') os).cell? ⟨g, 0 + j, none⟩ = some (u32V d'[j]!) := fun j hj => by
    rw [cell?_grow _ _ _ hgp, cell?_putRow u32V _ g 0 _ _ hH (by rw [hsz]; simpa using hl.symm) j (by omega)]
  have hblk : ∃ cur', (grow (putRow u32V (Sort.ahead w m) g 0 d') os).heap[g]? = some (.cells cur' U (0, 0)) := by
    refine ⟨putCells u32V 0 d' cur, ?_⟩
    rw [heap_grow_old _ _ hgp]
    simp only [putRow, mapBlock, Array.getElem?_modify, heap_ahead, hg, if_true, Option.map_some, onCells]
  refine ⟨d'.toList, ?_, ?_, ?_, hblk, ?_⟩
  · have := hp.2.2
    rw [← hp.1] at this
    simp only [Array.extract_size] at this
    rw [hp.1, Array.extract_size] at this
    simpa using this
  · rw [List.pairwise_iff_getElem]
    intro i j hi hj hij
    have hi' : i < d'.size := by simpa using hi
    have hj' : j < d'.size := by simpa using hj
    have := hs i j (Nat.zero_le _) hij (by rw [← hp.1]; exact hj')
    rw [getElem!_pos _ i hi', getElem!_pos _ j hj'] at this
    have := of_decide_eq_false this
    simp only [Array.getElem_toList]
    omega
  · intro j u hu
    rw [List.getElem?_map] at hu
    by_cases hj : j < d'.size
    · rw [hcell j (by omega), ← hu]
      rw [List.getElem?_eq_getElem (by simpa using hj), getElem!_pos _ j hj]
      simp
    · rw [List.getElem?_eq_none (by simpa using hj)] at hu; simp at hu
  · have hcell2 : ∀ j, (0 + n ≤ j) → (grow (putRow u32V (Sort.ahead w m) g 0 d') os).cell? ⟨g, j, none⟩ = w.cell? ⟨g, j, none⟩ := fun j hj => by
      rw [cell?_grow _ _ _ hgp, cell?_putRow_other _ _ _ _ _ _ (.inr (.inr (by show 0 + d'.size ≤ j; omega)))]; rfl
    refine ⟨rfl, rfl, rfl, ?_, fun k h1 h2 _ => ?_, fun j hj => hcell2 j (by omega), fun o' n' h j hj => ?_⟩
    · rw [size_grow, Go.Sort.size_putRow]; simp
    · rw [heap_grow_old _ _ (by rw [Go.Sort.size_putRow]; exact h1)]
      simp only [putRow, mapBlock, Array.getElem?_modify, heap_ahead]
      rw [if_neg (by omega)]
    · obtain ⟨h1, h2⟩ := h j hj
      obtain ⟨cur', hc'⟩ := hblk
      refine ⟨?_, frozen_cells hc'⟩
      by_cases hj2 : o' + j < n
      · rw [show o' + j = 0 + (o' + j) by omega, hcell _ hj2]; rfl
      · rw [hcell2 _ (by omega)]; exact h1
theorem sort_ok {fSort tS U fLess : Nat} (te : TgE P K T) (hK1 : K.tKs = tS) (hK2 : K.tU32 = U) (hmo : P.follows .mixedOrders = true) (hl : FnIs P fLess (cLess K) 15 5) (ent : entersB P fSort = true)
    (hbig : ∀ (lb : Array Value) (blk off c : Nat) (d : Array Nat), 2 ≤ d.size → d.size < 4611686018427387904 → ∀ w : World, LessReads P fLess lb u32V (fun a b : Nat => decide (a < b)) blk off d.size w → Holds u32V w blk off d → blk < w.heap.size →
      Calls P fSort #[.iface tS (.slice (some ⟨blk, off, none⟩) d.size c), .func (.func fLess) #[] lb] w (fun e w' => e = .returned (.tuple #[]) ∧ ∃ d' n os, PermIn 0 d.size d d' ∧ SortedIn (fun a b : Nat => decide (a < b)) 0 d.size d' ∧ w' = grow (putRow u32V (Sort.ahead w n) blk off d') os))
    (htiny : ∀ (p : Option Addr) (n c : Nat), n ≤ 1 → ∀ (lf : Fn) (la lb : Array Value) (w : World), Calls P fSort #[.iface tS (.slice p n c), .func lf la lb] w (fun e w' => e = .returned (.tuple #[]) ∧ ∃ os, w' = grow w os)) : SortC P tS U fSort fLess := by
  subst hK1 hK2
  refine ⟨ent, fun w db g n c cur ks hdb hg hlen hn hkb hr ht hne hgs => ?_⟩
  subst hlen
  by_cases h2 : 2 ≤ ks.length
  · have hd2 : ks.toArray.size = ks.length := by simp
    have hH : Holds u32V w g 0 ks.toArray := fun j hj => by
      have hj' : j < ks.length := by simpa using hj
      refine ⟨?_, frozen_cells hg⟩
      have := hr j (u32V ks[j]) (by rw [List.getElem?_map, List.getElem?_eq_getElem hj']; rfl)
      rw [this, getElem!_pos _ j hj]
      simp
    have hdbs : db < w.heap.size := (Array.getElem?_eq_some_iff.1 hdb).1
    have hless : LessReads P fLess #[.pointer (some ⟨db, 0, none⟩)] u32V (fun a b : Nat => decide (a < b)) g 0 ks.toArray.size w := by
      intro m os dk hs i j hi hj
      have hcd : (sortWorld u32V w g 0 m dk os).cell? ⟨db, 0, none⟩ = some (.slice (some ⟨g, 0, none⟩) ks.length c) := by
        unfold sortWorld
        rw [cell?_grow _ _ _ (by rw [Go.Sort.size_putRow]; exact hdbs), cell?_putRow_other _ _ _ _ _ _ (.inl (fun e => hne e.symm)), cell?_ahead]
        simp [World.cell?, hdb]
      have hc : ∀ t, t < ks.length → (sortWorld u32V w g 0 m dk os).cell? ⟨g, 0 + t, none⟩ = some (u32V dk[t]!) := fun t ht => by
        unfold sortWorld
        rw [cell?_grow _ _ _ (by rw [Go.Sort.size_putRow]; exact hgs), cell?_putRow u32V _ g 0 _ _ (holds_ahead _ _ m _ _ _ hH) hs t (by rw [hs, hd2]; exact ht)]
      exact (less_ok (i := i) (j := j) te hmo hl hcd (by simpa using hi) (by simpa using hj) (hc i (by simpa using hi)) (hc j (by simpa using hj))).mono fun e w' he => ⟨he.1, 1, he.2⟩
    have h := hbig #[.pointer (some ⟨db, 0, none⟩)] g 0 c ks.toArray (by simpa using h2) (by rw [hd2]; omega) w hless hH hgs
    rw [hd2] at h
    refine h.mono ?_
    rintro e w' ⟨he, d', m, os, hp, hso, rfl⟩
    exact ⟨he, sort_fin hg rfl hr ht hgs (by rw [hd2]; exact hp) (by rw [hd2]; exact hso)⟩
  · refine (htiny (some ⟨g, 0, none⟩) ks.length c (by omega) (.func fLess) #[] #[.pointer (some ⟨db, 0, none⟩)] w).mono ?_
    rintro e w' ⟨he, os, rfl⟩
    have hH : Holds u32V w g 0 ks.toArray := fun j hj => by
      have hj' : j < ks.length := by simpa using hj
      refine ⟨?_, frozen_cells hg⟩
      have := hr j (u32V ks[j]) (by rw [List.getElem?_map, List.getElem?_eq_getElem hj']; rfl)
      rw [this, getElem!_pos _ j hj]
      simp
    have e0 : grow w os = grow (putRow u32V (Sort.ahead w 0) g 0 ks.toArray) os := by rw [ahead_zero, putRow_self _ _ _ _ _ hH]
    refine ⟨he, ?_⟩
    rw [e0]
    refine sort_fin hg rfl hr ht hgs ⟨rfl, fun _ _ => rfl, List.Perm.refl _⟩ (fun i j _ h1 h2 => ?_)
    have : ks.toArray.size = ks.length := by simp
    omega
end
end Go.Kx
namespace Go.Kx
open Go.RowKit
set_option linter.unusedSimpArgs false
set_option linter.unusedVariables false
structure FTN where
  f2 : Nat
  f3 : Nat
  f4 : Nat
def seat2B (P : Program) (K : KB) (g : TN) (S : SN) (R : RN) (G : TG) (E : EN) (Z : FTN) : List Bool := [(rkB P R G).all id, (rk2B P R G).all id, bytesLe P S.tg 1000,
  isFn0 P E.fCb (cCb K.T K.uv) 16, isFn0 P g.fEach (cEachF E) 53, Nat.beq g.fCb E.fCb, !(Nat.beq K.T.u8 K.T.u8s), !(Nat.beq E.tU32 K.T.u8), cellsB P K.T.u8s 1, yes K.T.u32, yes K.uv,
  mapU P E.tMap, mapTy P E.tMap, plainTy P E.tMap, fieldAtB P E.tSt 0 0, sliceOf P E.tKs E.tU32, u32B P E.tU32, nilSB P E.tKs, cellsB P E.tKs 1, plainTy P E.tKs, plainTy P E.tU32, cellsB P E.tU32 1, intTy P E.tInt .i64, !(Nat.beq E.tU32 E.tKs),
  isFn P Z.f4 (cFits4 S) 7 2, isFn P Z.f3 (cFits3 S Z.f4) 18 2, isFn P Z.f2 (cFits2 S Z.f3) 15 2]
def seatAB (P : Program) (K : KB) (g : TN) (S : SN) (R : RN) (G : TG) (E : EN) : List Bool := [(rkB P R G).all id, (rk2B P R G).all id, (kbOk P K).all id, tokB P S.T, P.follows .mixedOrders, plainTy P S.T.u8,
  isFn0 P E.fCb (cCb K.T K.uv) 16, isFn0 P g.fEach (cEachF E) 53, Nat.beq g.fCb E.fCb, !(Nat.beq K.T.u8 K.T.u8s), !(Nat.beq E.tU32 K.T.u8), cellsB P K.T.u8s 1, yes K.T.u32, yes K.uv,
  mapU P E.tMap, mapTy P E.tMap, plainTy P E.tMap, fieldAtB P E.tSt 0 0, sliceOf P E.tKs E.tU32, u32B P E.tU32, nilSB P E.tKs, cellsB P E.tKs 1, plainTy P E.tKs, plainTy P E.tU32, cellsB P E.tU32 1, intTy P E.tInt .i64, !(Nat.beq E.tU32 E.tKs),
  mapTy P g.tMap, plainTy P g.tMap, plainTy P K.T.u8s, fieldAtB P g.tSt 0 0, isFn P g.fLen (cTLen g) 8 2, isFn0 P g.fEach (cEach g K.T.int) 53, isFn P g.fTeach (cTeach g K.T) 9 4 && orNo g.tKs (ktTB P K.T g.tKs),
  isFn P S.fSame (cSame S) 26 4, orNo S.fVer (isFn P S.fVer (cVer S) 10 4), yes K.T.i16, cellsB P K.T.i16 1, Nat.beq K.T.u8 S.T.u8]
def FlOk (P : Program) (K : KB) (R : RN) : Prop := F64W P K ∧ F64R P R
theorem fl_none {P : Program} {K : KB} {R : RN} (h1 : K.f64 = 0) (h2 : R.f64 = 0) : FlOk P K R := ⟨f64w_none h1, f64r_none h2⟩
structure SeatA (P : Program) (K : KB) (g : TN) (S : SN) (R : RN) (G : TG) : Prop where
  kk : KOK P K
  ok : SOK0 P S
  same : SameC P S.fSame
  ver : S.fVer ≠ 0 → VerC P S.fVer
  h16 : K.T.i16 ≠ 0
  c16 : cellsB P K.T.i16 1 = true
  u8 : K.T.u8 = S.T.u8
  rk : RKOK P R G
  ao : AOK P (K.ia g) okTags
structure Seat2 (P : Program) (K : KB) (g : TN) (S : SN) (R : RN) (G : TG) (E : EN) (Z : FTN) : Prop where
  se : Seat P K g S
  rk : RKOK P R G
  sp : SPC P S keysOk
  ao : AOK P (K.ia g) okTags
  fits : FitsC P Z.f2
theorem tge_of {P : Program} {E : EN} {T : IT} (h1 : mapU P E.tMap = true) (h2 : mapTy P E.tMap = true) (h3 : plainTy P E.tMap = true) (h4 : fieldAtB P E.tSt 0 0 = true) (h5 : sliceOf P E.tKs E.tU32 = true) (h6 : u32B P E.tU32 = true) (h7 : nilSB P E.tKs = true)
    (h8 : cellsB P E.tKs 1 = true) (h9 : plainTy P E.tKs = true) (h10 : plainTy P E.tU32 = true) (h11 : cellsB P E.tU32 1 = true) (h12 : intTy P E.tInt .i64 = true) (h13 : E.tU32 ≠ E.tKs) : TgE P E T := ⟨h1, h2, h3, h4, h5, h6, h7, h8, h9, h10, h11, h12, h13⟩
theorem nbeq {a b : Nat} (h : (!(Nat.beq a b)) = true) : a ≠ b := fun e => by subst e; simp at h
section
variable {P : Program} {K : KB} {g : TN} {S : SN} {R : RN} {G : TG} {E : EN} {Z : FTN}
theorem seat2_of (h : (seatB P K g S).all id = true) (h2 : (seat2B P K g S R G E Z).all id = true) (hso : SortC P E.tKs E.tU32 E.fSort E.fLess) (hfl : FlOk P K R) : Seat2 P K g S R G E Z := by
  have se := seat_of h hfl.1
  simp only [seat2B, List.all_cons, List.all_nil, id_eq, Bool.and_true, Bool.and_eq_true] at h2
  obtain ⟨a1, a2, a3, a4, a5, a6, a7, a8, a9, a10, a11, b1, b2, b3, b4, b5, b6, b7, b8, b9, b10, b11, b12, b13, c1, c2, c3⟩ := h2
  have te : TgE P E K.T := tge_of b1 b2 b3 b4 b5 b6 b7 b8 b9 b10 b11 b12 (nbeq b13)
  have hcb : CbC P K.T E.fCb := cb_ok se.kk.tk (nbeq a7) a9 se.tg.plu (yes_of a10) (se.kk.uvg (yes_of a11)) (FnIs0.of a4)
  have hte : TeachC P K.T.u8 g.fTeach smallT := teach_ok (fEach := 0) se.kk.tk te (nbeq a7) (nbeq a8) se.tg.plu hcb hso (FnIs0.of a5) (by simpa using a6) se.tg.teach
  have hunk : FnIs P S.fUnk (cUnk S) 85 4 := by
    simp only [seatB, List.all_cons, List.all_nil, id_eq, Bool.and_true, Bool.and_eq_true] at h
    obtain ⟨h1, h2, h3, h4, h5, h6, h7, h8, h9, h10, h11, h12, h13, h14, h15, h16, h17, h18, h19, h20, h21, h22, h23, h24, h25, h26, h27, h28, h29, h30, h31, h32⟩ := h
    exact FnIs.of h20
  exact {
    se := se
    rk := rk_of a1 a2 hfl.2
    sp := sp_tags se.sp a3 hunk
    ao := aok_tags se.kk se.tg (tlen_ok se.tg) hte
    fits := ⟨(FnIs.of c3).ent, fun w cs t hr => fits2_ok se.ok (FnIs.of c1) (FnIs.of c2) (FnIs.of c3) w cs t hr⟩ }
theorem Seat2.a (se : Seat2 P K g S R G E Z) : SeatA P K g S R G := ⟨se.se.kk, se.se.ok.z, se.se.same, se.se.ver, se.se.h16, se.se.c16, se.se.u8, se.rk, se.ao⟩
theorem teA_of (h2 : (seatAB P K g S R G E).all id = true) : TgE P E K.T := by
  simp only [seatAB, List.all_cons, List.all_nil, id_eq, Bool.and_true, Bool.and_eq_true] at h2
  obtain ⟨a1, a2, a3, s1, s2, s3, a4, a5, a6, a7, a8, a9, a10, a11, b1, b2, b3, b4, b5, b6, b7, b8, b9, b10, b11, b12, b13, _⟩ := h2
  exact tge_of b1 b2 b3 b4 b5 b6 b7 b8 b9 b10 b11 b12 (nbeq b13)
theorem seatA_of (h2 : (seatAB P K g S R G E).all id = true) (hso : SortC P E.tKs E.tU32 E.fSort E.fLess) (hfl : FlOk P K R) : SeatA P K g S R G := by
  have te := teA_of h2
  simp only [seatAB, List.all_cons, List.all_nil, id_eq, Bool.and_true, Bool.and_eq_true] at h2
  obtain ⟨a1, a2, a3, s1, s2, s3, a4, a5, a6, a7, a8, a9, a10, a11, b1, b2, b3, b4, b5, b6, b7, b8, b9, b10, b11, b12, b13, c1, c2, c3, c4, c5, c6, c7, d1, d2, d3, d4, d5⟩ := h2
  have kk := kok_of a3 hfl.1
  have ok : SOK0 P S := ⟨tok_of s1, s2, s3⟩
  have tg : TgOK P g K.T := ⟨kk.tk, c1, c2, c3, c4, FnIs.of c5, FnIs0.of c6, FnIs.of c7.1, c7.2⟩
  have hcb : CbC P K.T E.fCb := cb_ok kk.tk (nbeq a7) a9 tg.plu (yes_of a10) (kk.uvg (yes_of a11)) (FnIs0.of a4)
  have hte : TeachC P K.T.u8 g.fTeach smallT := teach_ok (fEach := 0) kk.tk te (nbeq a7) (nbeq a8) tg.plu hcb hso (FnIs0.of a5) (by simpa using a6) tg.teach
  exact ⟨kk, ok, same_ok ok (FnIs.of d1), fun e => ver_ok ok (FnIs.of (orNo_of d2 e)), yes_of d3, d4, by simpa using d5, rk_of a1 a2 hfl.2, aok_tags kk tg (tlen_ok tg) hte⟩
structure RL0 where
  f : Nat
  fMax : Nat
  fSpec : Nat
  fAgain : Nat
  fPtr : Nat
  fDef : Nat
  fMv : Nat
  fSet : Nat
  fAp : Nat
  fRd : Nat
  fRF : Nat
  tErr : Nat
  most : Nat
  L : Nat
  N : Nat
  LR : Nat
  NR : Nat
  pl : Plan
  zs : List MVal
  df : Dfs
  sx : SxL
  flex : Int
def specB (P : Program) (S : SN) (n : RL0) : List Bool := [isFnC P n.fSpec (cSpec S (toSF n.sx) n.flex) ((genSF S.fd (toSF n.sx) 1).2.2 + 2) 0 S.msg, okS P S n.sx, !n.sx.isNil, Nat.ble (toFds n.sx).toList.length 1000, okFds (toFds n.sx), mTopB n.pl (toFds n.sx) n.flex n.most, isFn P S.fUsual (cUsual S) 91 4]
theorem spec2_of (se : Seat2 P K g S R G E Z) {n : RL0} (h : (specB P S n).all id = true) : SpecC P n.fSpec (toFds n.sx) n.flex ∧ WriteCK P S keysOk (toFds n.sx) ∧ mTopB n.pl (toFds n.sx) n.flex n.most = true := by
  simp only [specB, List.all_cons, List.all_nil, id_eq, Bool.and_true, Bool.and_eq_true] at h
  obtain ⟨h15, h16, h17, h18, h19, h20, h21⟩ := h
  simp only [Nat.ble_eq] at h18
  have hne : toFds n.sx ≠ .nil := by
    intro e
    cases hx : n.sx with
    | nil => rw [hx] at h17; simp [SxL.isNil] at h17
    | cons x r => rw [hx] at e; unfold toFds at e; cases e
  exact ⟨spec_of (flex := n.flex) se.se.ok (FnIsC.of h15) (okS_of se.se.ok n.sx h16) hne h18, write_ofK se.se.wr (fs := toFds n.sx) se.sp.ok se.sp.part.ent (part_allK se.sp se.se.same (FnIs.of h21) h19 (by omega)), h20⟩
end
end Go.Kx
namespace Go.Kx
set_option linter.unusedVariables false
def szU : List (Nat × List UInt8) → Nat
  | [] => 0
  | x :: r => 1 + x.2.length + szU r
mutual
def szT : Tr → Nat
  | .mk _ s _ l u => 1 + s.length + szTs l + szU u
def szTs : Trs → Nat
  | .nil => 0
  | .cons t r => szT t + szTs r
end

theorem szT_pos : ∀ t : Tr, 1 ≤ szT t
  | .mk _ _ _ _ _ => by unfold szT; omega
theorem szTs_sum : ∀ l : Trs, szTs l = (l.toList.map szT).sum
  | .nil => by unfold szTs; rfl
  | .cons t r => by unfold szTs Trs.toList; rw [List.map_cons, List.sum_cons, szTs_sum r]
theorem szT_l (t : Tr) : (t.l.map szT).sum ≤ szT t := by
  cases t with
  | mk n s b l u =>
    show (l.toList.map szT).sum ≤ _
    unfold szT
    rw [← szTs_sum l]; omega
theorem szT_s (t : Tr) : 1 + t.s.length ≤ szT t := by
  cases t with
  | mk n s b l u => unfold szT; show 1 + s.length ≤ _; omega
theorem szT_u (t : Tr) : szU t.u ≤ szT t := by
  cases t with
  | mk n s b l u => unfold szT; show szU u ≤ _; omega
theorem mem_sum {l : List Tr} {x : Tr} (h : x ∈ l) : szT x ≤ (l.map szT).sum := by
  induction l with
  | nil => simp at h
  | cons y l ih =>
    rw [List.map_cons, List.sum_cons]
    simp only [List.mem_cons] at h
    rcases h with rfl | h
    · omega
    · have := ih h; omega
theorem take_sum (k : Nat) : ∀ (l : List Tr), ((l.take k).map szT).sum ≤ (l.map szT).sum := by
  induction k with
  | zero => intro l; simp
  | succ k ih =>
    intro l
    cases l with
    | nil => simp
    | cons y l => rw [List.take_succ_cons, List.map_cons, List.sum_cons, List.map_cons, List.sum_cons]; have := ih l; omega
theorem szT_at (t : Tr) (i : Nat) : szT (t.l.getD i .zero) ≤ szT t := by
  rw [List.getD_eq_getElem?_getD]
  cases h : t.l[i]? with
  | none => simp only [Option.getD_none]; have := szT_pos t; have : szT .zero = 1 := rfl; omega
  | some x => simp only [Option.getD_some]; exact Nat.le_trans (mem_sum (List.mem_of_getElem? h)) (szT_l t)
theorem uvb_le : ∀ (j n : Nat), (uvb j n).length ≤ j + 1
  | 0, n => by simp [uvb]
  | j + 1, n => by
    unfold uvb
    split
    · simp
    · rw [List.length_cons]; have := uvb_le j (n / 128); omega
theorem uv_le (n : Nat) : (uv n).length ≤ 10 := uvb_le 9 n
theorem cnt_le (flex : Bool) (k n : Nat) (hk : k ≤ 10) : (cnt flex k n).length ≤ 10 := by
  unfold cnt
  split
  · exact uv_le _
  · rw [fix_len]; exact hk
theorem sCnt_le (flex null : Bool) (n k : Nat) (hk : k ≤ 10) : (sCnt flex null n k).length ≤ 10 := by
  unfold sCnt
  split
  · rw [cntNull_len]; split <;> omega
  · exact cnt_le _ _ _ hk
theorem szU_ins (t : Nat × List UInt8) : ∀ (xs : List (Nat × List UInt8)), szU (insTag t xs) ≤ 1 + t.2.length + szU xs
  | [] => by simp [insTag, szU]
  | x :: xs => by
    have := szU_ins t xs
    unfold insTag
    split
    · simp only [szU]; omega
    · split
      · simp only [szU]; omega
      · simp only [szU]; omega
theorem szU_fold {least : Nat} : ∀ (l out : List (Nat × List UInt8)), szU (l.foldl (fun out t => if t.1 < least then out else insTag t out) out) ≤ szU out + szU l
  | [], out => by simp [szU]
  | t :: l, out => by
    rw [List.foldl_cons]
    refine Nat.le_trans (szU_fold l _) ?_
    simp only [szU]
    split
    · omega
    · have := szU_ins t out; omega
theorem szU_take : ∀ (k : Nat) (l : List (Nat × List UInt8)), szU (l.take k) ≤ szU l
  | 0, l => by simp [szU]
  | k + 1, [] => by simp
  | k + 1, x :: l => by rw [List.take_succ_cons]; simp only [szU]; have := szU_take k l; omega
theorem szU_unk (least : Nat) (l : List (Nat × List UInt8)) : szU (sUnk least l) ≤ szU l := by
  unfold sUnk
  refine Nat.le_trans (szU_fold _ _) ?_
  have := szU_take most l
  simp only [szU]; omega
theorem sTag_le (t : Nat × List UInt8) : (sTag t).length ≤ 20 * (1 + t.2.length) := by
  unfold sTag
  have h1 := uv_le t.1
  have h2 := uv_le (t.2.take most).length
  have h3 : (t.2.take most).length ≤ t.2.length := by rw [List.length_take]; omega
  simp only [List.length_append] at *
  omega
theorem flat_tags : ∀ (l : List (Nat × List UInt8)), (l.flatMap sTag).length ≤ 20 * szU l
  | [] => by simp
  | x :: l => by
    have h1 := flat_tags l
    have h2 := sTag_le x
    rw [List.flatMap_cons, List.length_append]
    simp only [szU]; omega
mutual
def costF : Fd → Nat
  | .mk _ _ _ _ _ _ _ sub => 60 + costs sub
def costs : Fds → Nat
  | .nil => 0
  | .cons f r => 2 * (20 + costF f) + costs r
end

theorem sWid_le (kind : Int) : sWid kind ≤ 8 := by unfold sWid; split <;> (try omega); split <;> (try omega); split <;> omega
theorem sVal_le {kind : Int} {part : Tr → List UInt8} {null flex : Bool} {t : Tr} {K : Nat} (h : (part t).length ≤ K * szT t) : (sVal kind part null flex t).length ≤ (16 + K) * szT t := by
  have h5 := szT_pos t
  have h6 := szT_s t
  have e : (16 + K) * szT t = 16 * szT t + K * szT t := Nat.add_mul _ _ _
  have h7 : (if null then [] else t.s.take most).length ≤ t.s.length := by
    split
    · simp
    · rw [List.length_take]; omega
  unfold sVal
  split
  · simp; omega
  · split
    · rw [List.length_take]; omega
    · split
      · rw [List.length_append]; have := sCnt_le flex null (if null then [] else t.s.take most).length 2 (by omega); omega
      · split
        · rw [List.length_append]; have := sCnt_le flex null (if null then [] else t.s.take most).length 4 (by omega); omega
        · split
          · omega
          · rw [fix_len]; have := sWid_le kind; omega
theorem flat_le {e : Tr → List UInt8} {K : Nat} : ∀ {l : List Tr}, (∀ x ∈ l, (e x).length ≤ K * szT x) → (l.flatMap e).length ≤ K * (l.map szT).sum
  | [], _ => by simp
  | x :: l, h => by
    rw [List.flatMap_cons, List.length_append, List.map_cons, List.sum_cons, Nat.mul_add]
    have h1 := h x List.mem_cons_self
    have h2 := flat_le (l := l) fun y hy => h y (List.mem_cons_of_mem _ hy)
    omega
theorem len_flat2 {F : Nat → List (Nat × List UInt8)} : ∀ (l : List Nat), ((l.flatMap F).flatMap encK1).length = (l.map fun g => ((F g).flatMap encK1).length).sum
  | [] => rfl
  | g :: l => by rw [List.flatMap_cons, List.flatMap_append, List.length_append, List.map_cons, List.sum_cons, len_flat2 l]
theorem sum_add {a b : Nat → Nat} : ∀ (l : List Nat), (l.map fun g => a g + b g).sum = (l.map a).sum + (l.map b).sum
  | [] => rfl
  | g :: l => by simp only [List.map_cons, List.sum_cons]; rw [sum_add l]; omega
theorem sum_le {a b : Nat → Nat} : ∀ (l : List Nat), (∀ g ∈ l, a g ≤ b g) → (l.map a).sum ≤ (l.map b).sum
  | [], _ => Nat.le_refl _
  | g :: l, h => by
    simp only [List.map_cons, List.sum_cons]
    have := h g List.mem_cons_self
    have := sum_le l fun x hx => h x (List.mem_cons_of_mem _ hx)
    omega
theorem sum_none {k : Int} {c : Nat} : ∀ (l : List Nat), (∀ g ∈ l, k ≠ (g : Int)) → (l.map fun g : Nat => if k = (g : Int) then c else 0).sum = 0
  | [], _ => rfl
  | g :: l, h => by
    simp only [List.map_cons, List.sum_cons]
    rw [if_neg (h g List.mem_cons_self), sum_none l fun x hx => h x (List.mem_cons_of_mem _ hx)]
theorem sum_one {k : Int} {c : Nat} : ∀ (l : List Nat), l.Nodup → (l.map fun g : Nat => if k = (g : Int) then c else 0).sum ≤ c
  | [], _ => Nat.zero_le _
  | g :: l, h => by
    simp only [List.map_cons, List.sum_cons]
    have hn := List.nodup_cons.1 h
    by_cases e : k = (g : Int)
    · rw [if_pos e, sum_none l fun x hx e2 => hn.1 (by have : x = g := by omega
                                                       rwa [this] at hx)]
      omega
    · rw [if_neg e]
      have := sum_one (k := k) (c := c) l hn.2
      omega
theorem encK1_le (x : Nat × List UInt8) : (encK1 x).length ≤ 20 + x.2.length := by
  unfold encK1
  have h1 := uv_le x.1
  have h2 := uv_le x.2.length
  simp only [List.length_append]; omega
section
variable (ver : Int) (flex : Bool)
theorem kTags_le {fs : Fds} {t : Tr} {W : Nat} (h : 2 * ((List.range (sKnown fs)).map fun g => ((kKn ver flex g fs 0 t).flatMap encK1).length).sum ≤ W) : 2 * (kTags ver flex fs t).length ≤ W + 60 * szT t := by
  unfold kTags
  split
  · unfold tagsOf kKns
    have h1 := uv_le (((List.range (sKnown fs)).flatMap fun g => kKn ver flex g fs 0 t).length + (sUnk (sKnown fs) t.u).length)
    have h2 := flat_tags (sUnk (sKnown fs) t.u)
    have h3 := szU_unk (sKnown fs) t.u
    have h4 := szT_u t
    have h5 := szT_pos t
    have h6 := len_flat2 (F := fun g => kKn ver flex g fs 0 t) (List.range (sKnown fs))
    rw [List.length_append, List.length_append, h6]
    omega
  · simp
mutual
theorem kField_le : ∀ (f : Fd) (t : Tr), (kField ver flex f t).length ≤ costF f * szT t
  | .mk kind fr to nul tag df of sub, t => by
    have hp : ∀ t : Tr, (kPlain ver flex sub 0 t ++ kTags ver flex sub t).length ≤ (costs sub + 30) * szT t := fun t => by
      rw [List.length_append, Nat.add_mul]
      have := kPlain_le sub 0 t
      have := kTags_le ver flex (kKn_le sub 0 t (sKnown sub))
      omega
    have h5 := szT_pos t
    have e1 : costF (.mk kind fr to nul tag df of sub) = 60 + costs sub := by unfold costF; rfl
    rw [e1, kField]
    have e2 : (60 + costs sub) * szT t = 60 * szT t + costs sub * szT t := Nat.add_mul _ _ _
    split
    · rw [List.length_append]
      have h1 := sCnt_le flex (sNull nul ver t.null) (if sNull nul ver t.null then [] else t.l.take most).length 4 (by omega)
      have h2 : ((if sNull nul ver t.null then [] else t.l.take most).flatMap (sVal of (fun t => kPlain ver flex sub 0 t ++ kTags ver flex sub t) false flex)).length ≤ (16 + (costs sub + 30)) * ((if sNull nul ver t.null then [] else t.l.take most).map szT).sum :=
        flat_le fun x _ => sVal_le (hp x)
      have h2' : ((if sNull nul ver t.null then [] else t.l.take most).flatMap (sVal of (fun t => kPlain ver flex sub 0 t ++ (if flex then tagsOf ((List.range (sKnown sub)).flatMap fun g => kKn ver flex g sub 0 t) (sUnk (sKnown sub) t.u) else [])) false flex)).length ≤ (16 + (costs sub + 30)) * ((if sNull nul ver t.null then [] else t.l.take most).map szT).sum := h2
      have h3 : ((if sNull nul ver t.null then [] else t.l.take most).map szT).sum ≤ szT t := by
        split
        · simp
        · exact Nat.le_trans (take_sum _ _) (szT_l t)
      have h4 := Nat.mul_le_mul_left (16 + (costs sub + 30)) h3
      have e3 : (16 + (costs sub + 30)) * szT t = 46 * szT t + costs sub * szT t := by rw [show 16 + (costs sub + 30) = 46 + costs sub from by omega, Nat.add_mul]
      omega
    · have h1 := hp t
      have h1' : (kPlain ver flex sub 0 t ++ (if flex then tagsOf ((List.range (sKnown sub)).flatMap fun g => kKn ver flex g sub 0 t) (sUnk (sKnown sub) t.u) else [])).length ≤ (costs sub + 30) * szT t := h1
      have e3 : (costs sub + 30) * szT t = costs sub * szT t + 30 * szT t := Nat.add_mul _ _ _
      split
      · split
        · rw [fix_len]; omega
        · rw [List.length_append, fix_len]; omega
      · have h9 := sVal_le (kind := kind) (part := fun t => kPlain ver flex sub 0 t ++ kTags ver flex sub t) (null := sNull nul ver t.null) (flex := flex) (hp t)
        have h9' : (sVal kind (fun t => kPlain ver flex sub 0 t ++ (if flex then tagsOf ((List.range (sKnown sub)).flatMap fun g => kKn ver flex g sub 0 t) (sUnk (sKnown sub) t.u) else [])) (sNull nul ver t.null) flex t).length ≤ (16 + (costs sub + 30)) * szT t := h9
        have e4 : (16 + (costs sub + 30)) * szT t = 46 * szT t + costs sub * szT t := by rw [show 16 + (costs sub + 30) = 46 + costs sub from by omega, Nat.add_mul]
        omega
theorem kPlain_le : ∀ (fs : Fds) (i : Nat) (t : Tr), 2 * (kPlain ver flex fs i t).length ≤ costs fs * szT t
  | .nil, i, t => by rw [kPlain]; simp
  | .cons f r, i, t => by
    rw [kPlain, List.length_append]
    have h1 := kPlain_le r (i + 1) t
    have h2 : (if decide (f.tag < 0) && sHas f.fr f.to ver then kField ver flex f (t.l.getD i .zero) else []).length ≤ costF f * szT t := by
      split
      · exact Nat.le_trans (kField_le f _) (Nat.mul_le_mul_left _ (szT_at t i))
      · simp
    have e : costs (.cons f r) * szT t = 40 * szT t + 2 * (costF f * szT t) + costs r * szT t := by rw [costs, Nat.add_mul, Nat.mul_assoc, Nat.add_mul]; omega
    omega
theorem kKn_le : ∀ (fs : Fds) (i : Nat) (t : Tr) (n : Nat), 2 * ((List.range n).map fun g => ((kKn ver flex g fs i t).flatMap encK1).length).sum ≤ costs fs * szT t
  | .nil, i, t, n => by
    have : ((List.range n).map fun g => ((kKn ver flex g .nil i t).flatMap encK1).length).sum ≤ ((List.range n).map fun _ => 0).sum := sum_le _ fun g _ => by rw [kKn]; simp
    have h0 : ∀ l : List Nat, (l.map fun _ => 0).sum = 0 := fun l => by induction l with | nil => rfl | cons a l ih => rw [List.map_cons, List.sum_cons, ih]
    rw [h0] at this
    omega
  | .cons f r, i, t, n => by
    have h1 := kKn_le r (i + 1) t n
    have h3 := Nat.le_trans (kField_le f (t.l.getD i .zero)) (Nat.mul_le_mul_left _ (szT_at t i))
    have hs := szT_pos t
    have e : costs (.cons f r) * szT t = 40 * szT t + 2 * (costF f * szT t) + costs r * szT t := by rw [costs, Nat.add_mul, Nat.mul_assoc, Nat.add_mul]; omega
    have h2 : ((List.range n).map fun g => ((kKn ver flex g (.cons f r) i t).flatMap encK1).length).sum ≤ ((List.range n).map fun g : Nat => (if f.tag = (g : Int) then 20 + costF f * szT t else 0) + ((kKn ver flex g r (i + 1) t).flatMap encK1).length).sum := by
      refine sum_le _ fun g _ => ?_
      rw [kKn, List.flatMap_append, List.length_append]
      refine Nat.add_le_add_right ?_ _
      by_cases hg : f.tag = (g : Int)
      · rw [if_pos hg]
        split
        · rw [List.flatMap_cons, List.flatMap_nil, List.append_nil]
          have : (encK1 (g, kField ver flex f (t.l.getD i .zero))).length ≤ 20 + (kField ver flex f (t.l.getD i .zero)).length := encK1_le (g, kField ver flex f (t.l.getD i .zero))
          omega
        · simp
      · rw [if_neg hg, decide_eq_false hg]; simp
    rw [sum_add] at h2
    have h4 := sum_one (k := f.tag) (c := 20 + costF f * szT t) (List.range n) List.nodup_range
    omega
end
end
theorem kWrite_le (fs : Fds) (flex v : Int) (t : Tr) : (kWrite fs flex v t).length ≤ (costs fs + 30) * szT t := by
  unfold kWrite kPart
  rw [List.length_append, Nat.add_mul]
  have := kPlain_le v (decide (0 ≤ flex) && decide (flex ≤ v)) fs 0 t
  have := kTags_le v (decide (0 ≤ flex) && decide (flex ≤ v)) (kKn_le v (decide (0 ≤ flex) && decide (flex ≤ v)) fs 0 t (sKnown fs))
  omega
end Go.Kx
namespace Go.Kx
open Go.RowKit Go.ChangeShapes Go.WideShapes
set_option linter.unusedVariables false
set_option linter.unusedSimpArgs false
def eqNN : List (Nat × Nat) → List (Nat × Nat) → Bool
  | [], [] => true
  | a :: xs, b :: ys => Nat.beq a.1 b.1 && Nat.beq a.2 b.2 && eqNN xs ys
  | _, _ => false
def structB (P : Program) (t : Nat) (l : List (Nat × Nat)) : Bool := match P.underlying t with
  | some (.struct fs) => eqNN (fs.toList.map fun f => (f.offset, f.type)) l
  | _ => false
def boolB (P : Program) (t : Nat) : Bool := match P.underlying t with
  | some .bool => true
  | _ => false
theorem boolB_eq {P : Program} {t : Nat} (h : boolB P t = true) : P.underlying t = some .bool := by
  unfold boolB at h
  split at h
  · assumption
  · simp at h
def treeB (P : Program) (S : SN) : List Bool := [structB P S.tr [(0, S.T.i64), (1, S.T.u8s), (2, S.T.bool), (3, S.trs), (4, S.tgs)], structB P S.tg [(0, S.T.u32), (1, S.T.u8s)], intTy P S.T.i64 .i64, boolB P S.T.bool, intTy P S.T.u32 .u32, intTy P S.T.u8 .u8,
  sliceOf P S.T.u8s S.T.u8, sliceOf P S.trs S.tr, sliceOf P S.tgs S.tg, Nat.beq (P.cellsOf S.tr) 5, Nat.beq (P.cellsOf S.tg) 2, Nat.beq (P.cellsOf S.T.i64) 1, Nat.beq (P.cellsOf S.T.bool) 1, Nat.beq (P.cellsOf S.T.u8) 1, Nat.beq (P.cellsOf S.T.u8s) 1, Nat.beq (P.cellsOf S.trs) 1, Nat.beq (P.cellsOf S.tgs) 1, Nat.beq (P.cellsOf S.T.u32) 1]
structure BulkOk {H : Type} (B : DataW H → Nat) (BA : List (DataW H) → Nat) : Prop where
  one : ∀ d, 1 ≤ B d
  slice : ∀ e s, 1 + BA e ≤ B (.slice e s)
  agg : ∀ ps, 1 + BA ps ≤ B (.agg ps)
  cons : ∀ d l, B d + BA l ≤ BA (d :: l)
section
variable {H : Type} {B : DataW H → Nat} {BA : List (DataW H) → Nat} {enc : TypeId × Value → H} {P : Program} {S : SN} {w : World} {base : Nat} {held : Bool}
theorem BulkOk.len (hB : BulkOk B BA) : ∀ l : List (DataW H), l.length ≤ BA l
  | [] => Nat.zero_le _
  | d :: l => by have := hB.one d; have := hB.cons d l; have := hB.len l; rw [List.length_cons]; omega
theorem cell_at {a : Addr} {v : Value} {i : Nat} (h : w.cell? (a.add i) = some v) (h0 : a.spot = none) : w.cell? ⟨a.block, a.off + i, none⟩ = some v := by
  have e : a = ⟨a.block, a.off, none⟩ := by cases a; simp_all
  rw [e, Addr.add_mid] at h
  exact h
theorem open_u8s {U8 U8s : Nat} (h1 : sliceOf P U8s U8 = true) (h2 : intTy P U8 .u8 = true) (h3 : P.cellsOf U8 = 1) (hB : BulkOk B BA) {fuel : Nat} {cs : List Value} {x : DataW H × List MemPlace} (h : DataW.trod enc P w base (fun _ => true) held fuel U8s cs = some x) :
    ∃ ad l c, cs = [.slice ad (List.length l) c] ∧ okA l.length ad ∧ l.length ≤ c ∧ BytesAt w (fun _ => True) ad l ∧ 1 + l.length ≤ B x.1 := by
  rcases open_ints (sliceOf_eq h1) (intTy_eq h2) h3 h with ⟨rfl, rfl⟩ | ⟨a, len, cap, zs, rfl, hb, hl, hm, hz, rfl, hcell, hwz⟩
  · exact ⟨none, [], 0, rfl, .inl rfl, Nat.le_refl _, fun j b hj => by simp at hj, by have := hB.one (DataW.nil : DataW H); simpa using this⟩
  · simp only [if_true] at hz
    have hlen : ((zs.take len).map fun n => UInt8.ofNat n.toNat).length = len := by simp; omega
    have hspot : 0 < len → a.spot = none := fun h0 => by
      have := World.cell?_spot (hcell 0 (by omega))
      simpa [Addr.add] using this
    refine ⟨some a, (zs.take len).map fun n => UInt8.ofNat n.toNat, cap, by rw [hlen], ?_, by rw [hlen]; exact hl, fun j b hj => ?_, ?_⟩
    · rw [hlen]
      by_cases h0 : len = 0
      · exact .inl h0
      · right; right
        refine ⟨a.block, a.off, ?_⟩
        have := hspot (by omega)
        cases a; simp_all
    · have hj' : j < len := by
        have := (List.getElem?_eq_some_iff.1 hj).1
        rwa [hlen] at this
      have hs := hspot (by omega)
      refine ⟨a.block, a.off, by cases a; simp_all, trivial, ?_⟩
      rw [cell_at (hcell j (by omega)) hs]
      have hzj : zs.getD j 0 = zs[j]'(by omega) := by simp [List.getD, List.getElem?_eq_getElem (show j < zs.length by omega)]
      have hw := hwz (zs[j]'(by omega)) (List.getElem_mem _)
      rw [List.getElem?_map, List.getElem?_take, if_pos hj', List.getElem?_eq_getElem (show j < zs.length by omega)] at hj
      simp only [Option.map_some, Option.some.injEq] at hj
      subst hj
      rw [hzj]
      unfold byteV
      congr 2
      simp [Lit.wf, IntKind.min, IntKind.max, IntKind.bits, IntKind.signed] at hw
      simp only [UInt8.toNat_ofNat']
      omega
    · have h1 := hB.slice (lits .u8 (zs.take len)) (lits .u8 (zs.drop len))
      have h2 := hB.len (lits .u8 (zs.take len))
      have h3 : (lits (H := H) .u8 (zs.take len)).length = len := by simp [lits]; omega
      rw [hlen]
      show 1 + len ≤ B (.slice _ _)
      rw [h3] at h2
      omega
structure TreeOk (P : Program) (S : SN) : Prop where
  tr : structB P S.tr [(0, S.T.i64), (1, S.T.u8s), (2, S.T.bool), (3, S.trs), (4, S.tgs)] = true
  tg : structB P S.tg [(0, S.T.u32), (1, S.T.u8s)] = true
  i64 : intTy P S.T.i64 .i64 = true
  bool : boolB P S.T.bool = true
  u32 : intTy P S.T.u32 .u32 = true
  u8 : intTy P S.T.u8 .u8 = true
  u8s : sliceOf P S.T.u8s S.T.u8 = true
  trs : sliceOf P S.trs S.tr = true
  tgs : sliceOf P S.tgs S.tg = true
  ctr : P.cellsOf S.tr = 5
  ctg : P.cellsOf S.tg = 2
  ci64 : P.cellsOf S.T.i64 = 1
  cbool : P.cellsOf S.T.bool = 1
  cu8 : P.cellsOf S.T.u8 = 1
  cu8s : P.cellsOf S.T.u8s = 1
  ctrs : P.cellsOf S.trs = 1
  ctgs : P.cellsOf S.tgs = 1
  cu32 : P.cellsOf S.T.u32 = 1
theorem tree_of (h : (treeB P S).all id = true) : TreeOk P S := by
  simp only [treeB, List.all_cons, List.all_nil, id_eq, Bool.and_true, Bool.and_eq_true, Nat.beq_eq] at h
  obtain ⟨h1, h2, h3, h4, h5, h6, h7, h8, h9, h10, h11, h12, h13, h14, h15, h16, h17, h18⟩ := h
  exact ⟨h1, h2, h3, h4, h5, h6, h7, h8, h9, h10, h11, h12, h13, h14, h15, h16, h17, h18⟩
end
end Go.Kx
namespace Go.Kx
open Go.RowKit Go.ChangeShapes Go.WideShapes Go.WideElems
set_option linter.unusedVariables false
set_option linter.unusedSimpArgs false
section
variable {H : Type} {B : DataW H → Nat} {BA : List (DataW H) → Nat} {enc : TypeId × Value → H} {P : Program}
theorem keepAll {W W' : World} (hl : laidOutB P = true) (hb : Below W.heap.size W W') : ∀ {ts : List TypeId} {vs : List Value} {ds : List (DataW H)} {ps : List MemPlace}, ts.all (fun t => P.readableRec t && decide (t < P.types.size)) = true →
    DataW.TrodAll enc P W 0 (fun _ => true) true ts vs ds ps → (∀ x ∈ ps, x.block < W.heap.size) → DataW.TrodAll enc P W' 0 (fun b => decide (b < W.heap.size)) true ts vs ds ps
  | [], vs, ds, ps, _, h, _ => by
    obtain ⟨rfl, rfl, rfl⟩ := trodAll_nil h
    exact trodAll_mk0
  | t :: ts, vs, ds, ps, hr, h, hlt => by
    obtain ⟨v, vs', d, ds', p, q, rfl, rfl, rfl, h1, h2⟩ := trodAll_cons h
    simp only [List.all_cons, Bool.and_eq_true, decide_eq_true_eq] at hr
    exact trodAll_cons_mk (Below.trod hl hr.1.1 hr.1.2 h1 hb (fun x hx => hlt x (List.mem_append.2 (.inl hx)))) (keepAll hl hb (by simpa using hr.2) h2 (fun x hx => hlt x (List.mem_append.2 (.inr hx))))
theorem row_post {fn : Func} {s : ChangeSpec} {tb : TypeId} {W W' : World} {args : Array Value} {ds gs : List (DataW H)} {before : List MemPlace} (hl : laidOutB P = true) (hrd : fn.params.toList.all (fun t => P.readableRec t && decide (t < P.types.size)) = true) (hres : fn.resultTypes = #[tb]) (ht : P.underlying tb = some .bool)
    (hv : s.vars = []) (hW : DataW.Whole enc P fn.params.toList s.vars false W args.toList ds gs before) (hb : Below W.heap.size W W') (hfn : s.fn H (ds ++ gs) = { results := [.lit (.bool true)], args := ds, vars := [] }) : s.post enc P fn false true false false W args (.bool true) W' := by
  have hW' := hW
  obtain ⟨p, q, hA, hV, rfl, hfz, hnd⟩ := hW
  rw [hv] at hV
  have hq : gs = [] ∧ q = [] := by
    cases gs with
    | nil => exact ⟨rfl, hV⟩
    | cons g gs => simp [DataW.TrodVars] at hV
  obtain ⟨rfl, rfl⟩ := hq
  refine ⟨ds, [], _, [], p, [], hW', ?_, ?_, ?_, hb.frame _, fun h => by cases h⟩
  · rw [hfn, hres]
    exact trodAll_mk1 (shut_bool ht true)
  · rw [hfn]
    exact keepAll hl hb hrd hA (fun x hx => hW'.lt x (List.mem_append.2 (.inl hx)))
  · rw [hv, hfn]
    exact rfl
theorem laid_err {W : World} {name nm : String} {g t : Nat} {d : DataW Unit} (hg : P.globalNamed name = some g) (ht : (P.globals[g]?).map (·.type) = some t) (hi : ifaceTy P t = true) (h : laidMet P [(name, .iface nm d)] W) : ∃ ev, W.cell? ⟨g, 0, none⟩ = some ev ∧ isErr ev := by
  obtain ⟨ps, ⟨g', t', cs, fuel, p, q, hg', ht', hvar, hd, _, _⟩, _⟩ := h
  obtain rfl := Option.some.inj (hg.symm.trans hg')
  obtain rfl := Option.some.inj (ht.symm.trans ht')
  obtain ⟨ms, hu⟩ := ifaceTy_eq hi
  have hc := fun i => World.var?_cell hg hvar i
  obtain ⟨l⟩ := cs
  cases fuel with
  | zero => simp [DataW.trod] at hd
  | succ n =>
    unfold DataW.trod at hd
    rw [hu] at hd
    simp only at hd
    match l, hd with
    | [], hd => simp at hd
    | [v], hd =>
      cases v <;> simp at hd
      rename_i u x
      exact ⟨_, by rw [hc 0]; rfl, _, _, rfl⟩
    | v :: v2 :: r, hd => simp at hd
section
variable {K : KB} {g : TN} {S : SN} {R : RN} {G : TG} {E : EN} {Z : FTN}
structure ArgOk (P : Program) (S : SN) : Prop where
  u8 : intTy P S.T.u8 .u8 = true
  u8s : sliceOf P S.T.u8s S.T.u8 = true
  cu8 : P.cellsOf S.T.u8 = 1
  bool : boolB P S.T.bool = true
def argB (P : Program) (S : SN) : List Bool := [intTy P S.T.u8 .u8, sliceOf P S.T.u8s S.T.u8, Nat.beq (P.cellsOf S.T.u8) 1, boolB P S.T.bool]
theorem arg_of {P : Program} {S : SN} (h : (argB P S).all id = true) : ArgOk P S := by
  simp only [argB, List.all_cons, List.all_nil, id_eq, Bool.and_true, Bool.and_eq_true, Nat.beq_eq] at h
  exact ⟨h.1, h.2.1, h.2.2.1, h.2.2.2⟩
end
end
end Go.Kx
