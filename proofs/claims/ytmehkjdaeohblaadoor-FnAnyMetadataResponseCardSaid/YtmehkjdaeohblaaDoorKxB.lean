/- Statements that write: tags, tests of versions. The bound on what is written: fewer than 2^40 octets.
   The slots that the code of AppendTo takes rise. Plain facts on numbers.
   The code of AppendTo writes what 'enc' says: by induction on the plan. Conditions: the plan fits the program's tables (wf), what is written is small (lists, texts and octets of at most 32767).
   The code of AppendTo writes what 'enc' says: the induction on the plan. Conditions: the plan fits the program's tables (wf), what is written is small (lists, texts and octets of at most 32767).
   AppendTo of a message, as a whole: what it returns. Conditions: the plan fits the program (okTop), what is written is small. -/
import Derived.Test.YtmehkjdaeohblaaDoorKxA
namespace Go.Kx
open Go.RowKit
set_option linter.unusedSimpArgs false
set_option linter.unusedVariables false

section
variable {P : Program} {Q : Exit → Act → World → Prop} {a : Act} {w : World}

theorem run_mv {d : Nat} {x : MX} {o : Oper} (h : fitOp (.mv d x) o.dst o.op = true) : o.dst = some d ∧ (execOp a.eval o).run P w = .ok (.value (x.of a)) w := by
  generalize hop : o.op = op at h
  unfold execOp
  cases op <;> simp only [fitOp, Bool.and_eq_true, Bool.false_eq_true] at h
  all_goals exact ⟨dstIs_eq h.1, by simp only [hop, MX.is_eval h.2 a]; rfl⟩

theorem run_biInt {d ty : Nat} {op : BinOp} {x y : MX} {k : IntKind} {m n : Int} {v : Value} {o : Oper} (h : fitOp (.bi d op ty x y) o.dst o.op = true)
    (hx : x.of a = .int k m) (hy : y.of a = .int k n) (hv : (binOp op ty (.int k m) (.int k n)).run P w = .ok v w) :
    o.dst = some d ∧ (execOp a.eval o).run P w = .ok (.value v) w := by
  generalize hop : o.op = op' at h
  unfold execOp
  cases op' <;> simp only [fitOp, Bool.and_eq_true, Bool.false_eq_true, Nat.beq_eq] at h
  obtain ⟨⟨⟨⟨⟨h1, h2⟩, h3⟩, h4⟩, h5⟩, _⟩ := h
  have h2' := sameOp_eq h2
  subst h2' h3
  exact ⟨dstIs_eq h1, by simp only [hop, MX.is_eval h4 a, MX.is_eval h5 a, hx, hy, Sem.run_bind, eqGuard_num, hv, Result.andThen_ok, Sem.run_pure]⟩

theorem wpList_value {ops : Array Oper} {o : Oper} {rest : List Oper} {d : Nat} {v : Value} (hw : Region.wanted o (yielded ops a.tmps) = true) (hd : o.dst = some d)
    (hr : (execOp a.eval o).run P w = .ok (.value v) w) (h : wpList P ops Q rest (wr a d v) w) : wpList P ops Q (o :: rest) a w := by
  unfold wpList
  rw [if_pos hw]
  refine .inl ?_
  unfold Oper.wp
  rw [hr, Oper.upon_value, hd]
  exact h

theorem wpList_passed {ops : Array Oper} {o : Oper} {rest : List Oper} {d : Nat} (hw : Region.wanted o (yielded ops a.tmps) = false) (hd : o.dst = some d)
    (h : wpList P ops Q rest (wr a d undef) w) : wpList P ops Q (o :: rest) a w := by
  unfold wpList
  rw [if_neg (by rw [hw]; exact Bool.false_ne_true), hd]
  exact h

theorem get_tmps {s : Nat} {v : Value} (h : rd a s = v) (hs : s < a.tmps.size) : a.tmps[s]? = some v := by
  unfold rd at h
  rw [Array.getElem?_eq_getElem hs]
  simp only [Array.getD, hs, dif_pos] at h
  rw [← h]; rfl

theorem MW.tw {N L s ty lo hi t : Nat} {ρ : Nat → Value} {v : Int} (hl : Loc N L ρ a) (hs : s < L) (hv : ρ s = .int .i16 v) (ht : L ≤ t) (hN : t + 6 ≤ N)
    (h : ∀ a', Loc N L ρ a' → rd a' (t + 5) = .bool (decide ((lo : Int) ≤ v) && decide (v ≤ hi)) → Q .normal a' w) : MW P (.tw s ty lo hi t) Q a w := by
  intro c hc
  cases c <;> try (simp only [fits, Bool.false_eq_true] at hc; done)
  rename_i id ops dr
  cases dr <;> simp only [fits, Bool.false_eq_true] at hc
  refine wp_region_list ?_
  obtain ⟨l⟩ := ops
  dsimp only at hc ⊢
  obtain ⟨o0, o1, o2, o3, o4, o5, rfl, h0', h1', h2', ⟨G3, h3⟩, ⟨G4, h4⟩, ⟨hg5, hd5, h5⟩⟩ := fitTw_inv hc
  clear hc
  have hsz := hl.size
  have hg : ∀ {m : MOp} {o : Oper}, fitOper m o = true → o.guard = none ∧ fitOp m o.dst o.op = true := by
    intro m o hh
    simpa only [fitOper, Bool.and_eq_true, Option.isNone_iff_eq_none] using hh
  obtain ⟨hg0, h0⟩ := hg h0'
  obtain ⟨hg1, h1⟩ := hg h1'
  obtain ⟨hg2, h2⟩ := hg h2'
  have e0 := fun a => @run_mv P a w _ _ o0 h0
  have W0 : ∀ y, Region.wanted o0 y = true := fun y => by simp [Region.wanted, hg0]
  have W1 : ∀ y, Region.wanted o1 y = true := fun y => by simp [Region.wanted, hg1]
  have W2 : ∀ y, Region.wanted o2 y = true := fun y => by simp [Region.wanted, hg2]
  have W5 : ∀ y, Region.wanted o5 y = true := fun y => by simp [Region.wanted, hg5]
  refine wpList_value (W0 _) (e0 a).1 (e0 a).2 ?_
  have v0 : (MX.t s).of a = .int .i16 v := by simp only [MX.of]; rw [hl.get s hs, hv]
  rw [v0]
  obtain ⟨d1, r1⟩ := @run_biInt P (wr a t (.int .i16 v)) w (t + 1) ty .geq (.t t) (.c (.int .i16 lo)) .i16 v lo _ o1 h1 (rd_same (by omega)) rfl (run_cmp_geq _ _ _ _)
  refine wpList_value (W1 _) d1 r1 ?_
  obtain ⟨d2, r2⟩ := @run_mv P (wr (wr a t (.int .i16 v)) (t + 1) (.bool (decide ((lo : Int) ≤ v)))) w _ _ o2 h2
  refine wpList_value (W2 _) d2 r2 ?_
  rw [show (MX.t (t + 1)).of (wr (wr a t (.int .i16 v)) (t + 1) (.bool (decide ((lo : Int) ≤ v)))) = .bool (decide ((lo : Int) ≤ v)) from rd_same (by simp only [size_wr]; omega)]
  -- what the guarded ones see
  generalize hA : wr (wr (wr a t (.int .i16 v)) (t + 1) (.bool (decide ((lo : Int) ≤ v)))) (t + 2) (.bool (decide ((lo : Int) ≤ v))) = A
  have hlA : Loc N L ρ A := by rw [← hA]; exact ((hl.tmp _ (by omega) (by omega)).tmp _ (by omega) (by omega)).tmp _ (by omega) (by omega)
  have hszA := hlA.size
  have hA2 : rd A (t + 2) = .bool (decide ((lo : Int) ≤ v)) := by
    rw [← hA]; simp (disch := (first | omega | (simp only [size_wr]; omega))) only [rd_same, rd_ne]
  have Y : ∀ A' : Act, rd A' (t + 2) = .bool (decide ((lo : Int) ≤ v)) → A'.tmps.size = N → yielded [o0, o1, o2, o3, o4, o5].toArray A'.tmps 2 = some (decide ((lo : Int) ≤ v)) := by
    intro A' h6 h7
    have := get_tmps h6 (by omega)
    simp [yielded, d2, this]
  have fin : ∀ A' : Act, Loc N L ρ A' → ∀ b, rd A' (t + 2) = .bool (decide ((lo : Int) ≤ v)) → (decide ((lo : Int) ≤ v) = true → rd A' (t + 4) = .bool b) → (b = decide (v ≤ hi)) → wpList P [o0, o1, o2, o3, o4, o5].toArray Q [o5] A' w := by
    intro A' hl' b h6 h7 hb
    have hsz' := hl'.size
    have hrun : (execOp A'.eval o5).run P w = .ok (.value (.bool (decide ((lo : Int) ≤ v) && decide (v ≤ hi)))) w := by
      obtain ⟨c', x', y', hop, k1, k2, k3⟩ := pickIs_eq h5
      unfold execOp
      have e1 : A'.eval c' = .bool (decide ((lo : Int) ≤ v)) := (MX.is_eval k1 A').trans h6
      simp only [hop, e1, asBool, Sem.run_bind, Sem.run_pure, Result.andThen_ok]
      cases hd : decide ((lo : Int) ≤ v)
      · simp only [MX.is_eval k3 A', MX.of, MVal.val, Bool.false_eq_true, if_false, Bool.false_and]
      · have e2 : A'.eval x' = .bool b := (MX.is_eval k2 A').trans (h7 hd)
        simp only [e2, hb, if_true, Bool.true_and]
    refine wpList_value (W5 _) hd5 hrun ?_
    exact h _ (hl'.tmp _ (by omega) (by omega)) (rd_same (by omega))
  have hd3 : o3.dst = some (t + 3) := (@run_mv P A w _ _ o3 h3).1
  have hd4 : o4.dst = some (t + 4) := by
    generalize hop : o4.op = op at h4
    cases op <;> simp only [fitOp, Bool.and_eq_true, Bool.false_eq_true] at h4
    exact dstIs_eq h4.1.1.1.1.1
  cases hdec : decide ((lo : Int) ≤ v)
  · rw [hdec] at hA2 Y
    refine wpList_passed ?_ hd3 (wpList_passed ?_ hd4 (fin _ ((hlA.tmp _ (by omega) (by omega)).tmp _ (by omega) (by omega)) _ ?_ ?_ rfl))
    · simp only [Region.wanted, G3]; rw [Y A hA2 hszA]; rfl
    · simp only [Region.wanted, G4]; rw [Y _ (by rw [rd_ne (by omega)]; exact hA2) (by simpa using hszA)]; rfl
    · simp (disch := (first | omega | (simp only [size_wr]; omega))) only [rd_same, rd_ne]; rw [hA2, hdec]
    · rw [hdec]; intro hf; simp at hf
  · rw [hdec] at hA2 Y
    have e3 := (@run_mv P A w _ _ o3 h3).2
    rw [show (MX.t s).of A = .int .i16 v from by simp only [MX.of]; rw [hlA.get s hs, hv]] at e3
    refine wpList_value ?_ hd3 e3 ?_
    · simp only [Region.wanted, G3]; rw [Y A hA2 hszA]; rfl
    obtain ⟨_, e4⟩ := @run_biInt P (wr A (t + 3) (.int .i16 v)) w (t + 4) ty .leq (.t (t + 3)) (.c (.int .i16 hi)) .i16 v hi _ o4 h4 (rd_same (by omega)) rfl (run_cmp_leq _ _ _ _)
    refine wpList_value ?_ hd4 e4 (fin _ ((hlA.tmp _ (by omega) (by omega)).tmp _ (by omega) (by omega)) (decide (v ≤ (hi : Int))) ?_ ?_ rfl)
    · simp only [Region.wanted, G4]; rw [Y _ (by rw [rd_ne (by omega)]; exact hA2) (by simpa using hszA)]; rfl
    · simp (disch := (first | omega | (simp only [size_wr]; omega))) only [rd_same, rd_ne]; rw [hA2, hdec]
    · intro _; simp (disch := (first | omega | (simp only [size_wr]; omega))) only [rd_same, rd_ne]
end

section
variable {P : Program} {U B N L : Nat} {ρ : Nat → Value} {w : World} {x x' : Nat} {out : List UInt8}

/-- The test of a field's versions. -/
theorem Writes.condA {I : IA} {sver t : Nat} {c : Cnd} {body : Nat → MCode × Nat × Nat × Nat} {ver : Int} (hs : sver < L) (hv : ρ sver = .int .i16 ver) (ht : L ≤ t)
    (hx : ∀ t, (body t).2.2.1 = x') (hxx : x ≤ x') (hm : ∀ t, t ≤ (body t).2.1) (hN : (Kx.condA I sver c t body).2.1 ≤ N)
    (hb : c.ok ver = true → ∀ t, L ≤ t → (body t).2.1 ≤ N → Writes P U B N L (body t).1 ρ w x x' out) :
    Writes P U B N L (Kx.condA I sver c t body).1 ρ w x x' (if c.ok ver then out else []) := by
  cases c with
  | always => exact hb rfl t ht hN
  | ge lo =>
    simp only [Kx.condA] at hN ⊢
    have m1 := hm (t + 2)
    intro a bs Q hl ho hlim hQ
    have hsz := hl.size
    refine MW.sq (MW.rg (ML.mv (ML.biInt (k := .i16) (m := ver) (n := lo) (v := .bool (decide ((lo : Int) ≤ ver))) ?_ rfl (run_cmp_geq _ _ _ _) (ML.nil ?_))))
    · simp (disch := (first | omega | (simp only [size_wr]; omega))) only [rd_same, rd_ne, MX.of]
      rw [hl.get sver hs, hv]
    have hl' := (hl.tmp ((MX.t sver).of a) ht (by omega)).tmp (.bool (decide ((lo : Int) ≤ ver))) (show L ≤ t + 1 by omega) (by omega)
    refine MW.cd (b := decide ((lo : Int) ≤ ver)) (rd_same (by simp only [size_wr]; omega)) (fun e => ?_) (fun e => ?_)
    · have hok : (Cnd.ge lo).ok ver = true := e
      rw [if_pos hok] at hlim hQ
      exact hb hok (t + 2) (by omega) hN _ bs Q hl' ho hlim hQ
    · have hok : ¬ (Cnd.ge lo).ok ver = true := by simp [Cnd.ok, e]
      rw [if_neg hok] at hlim hQ
      exact Writes.sk hxx _ bs Q hl' ho hlim hQ
  | btw lo hi =>
    simp only [Kx.condA] at hN ⊢
    have m1 := hm (t + 6)
    intro a bs Q hl ho hlim hQ
    refine MW.sq (MW.tw hl hs hv ht (by omega) ?_)
    intro a1 hl1 h5
    refine MW.cd (b := decide ((lo : Int) ≤ ver) && decide (ver ≤ hi)) h5 (fun e => ?_) (fun e => ?_)
    · have hok : (Cnd.btw lo hi).ok ver = true := e
      rw [if_pos hok] at hlim hQ
      exact hb hok (t + 6) (by omega) hN _ bs Q hl1 ho hlim hQ
    · have hok : ¬ (Cnd.btw lo hi).ok ver = true := by simp only [Cnd.ok, e]; simp
      rw [if_neg hok] at hlim hQ
      exact Writes.sk hxx _ bs Q hl1 ho hlim hQ

/-- 'if version >= lo' with two answers. -/
theorem Writes.ifGe {tI sver t lo : Nat} {yes no : MCode} {ver : Int} (hs : sver < L) (hv : ρ sver = .int .i16 ver) (ht : L ≤ t) (hN : t + 2 ≤ N)
    (h1 : (lo : Int) ≤ ver → Writes P U B N L yes ρ w x x' out) (h2 : ¬ (lo : Int) ≤ ver → Writes P U B N L no ρ w x x' out) :
    Writes P U B N L (.sq (.rg [.mv t (.t sver), .bi (t + 1) .geq tI (.t t) (.c (.int .i16 lo))]) (.cd (t + 1) yes no)) ρ w x x' out := by
  intro a bs Q hl ho hlim hQ
  have hsz := hl.size
  refine MW.sq (MW.rg (ML.mv (ML.biInt (k := .i16) (m := ver) (n := lo) (v := .bool (decide ((lo : Int) ≤ ver))) ?_ rfl (run_cmp_geq _ _ _ _) (ML.nil ?_))))
  · simp (disch := (first | omega | (simp only [size_wr]; omega))) only [rd_same, rd_ne, MX.of]
    rw [hl.get sver hs, hv]
  have hl' := (hl.tmp ((MX.t sver).of a) ht (by omega)).tmp (.bool (decide ((lo : Int) ≤ ver))) (show L ≤ t + 1 by omega) (by omega)
  refine MW.cd (b := decide ((lo : Int) ≤ ver)) (rd_same (by simp only [size_wr]; omega)) (fun e => ?_) (fun e => ?_)
  · exact h1 (of_decide_eq_true e) _ bs Q hl' ho hlim hQ
  · exact h2 (of_decide_eq_false e) _ bs Q hl' ho hlim hQ

/-- How many tags there are: '(*Tags).Len'. -/
def TlenC (P : Program) (f : Nat) : Prop :=
  entersB P f = true ∧ ∀ (w : World) (B : Nat) (p : Addr) (m : Value) (tags : List (Nat × List UInt8)), RepT w (· < B) m tags → w.cell? p = some m →
    Calls P f #[.pointer (some p)] w (fun e w' => e = .returned (.int .i64 tags.length) ∧ w' = w)

def smallT (tags : List (Nat × List UInt8)) : Prop := tags.length ≤ 32767 ∧ ∀ t ∈ tags, t.2.length ≤ 32767

/-- The tags, each: '(*Tags).AppendEach'. -/
def TeachC (P : Program) (U f : Nat) (S : List (Nat × List UInt8) → Prop) : Prop :=
  entersB P f = true ∧ ∀ (w : World) (B : Nat) (p : Addr) (m sv : Value) (tags : List (Nat × List UInt8)) (bs : List UInt8), B ≤ w.heap.size → p.block < B → OwnB U w B sv bs →
    RepT w (· < B) m tags → S tags → w.cell? p = some m → bs.length + (tags.flatMap encTag).length ≤ lim →
    Calls P f #[.pointer (some p), sv] w (fun e w' => ∃ sv', e = .returned sv' ∧ OwnB U w' B sv' (bs ++ tags.flatMap encTag) ∧ Below B w w')

def UvarC (P : Program) (U f : Nat) : Prop := ApC P U f (fun _ _ x out => ∃ n : Nat, n < 4294967296 ∧ x = .int .u32 n ∧ out = uv n)

theorem WritesL.tagsA {I : IA} {sf : Option Nat} {T vs t b o : Nat} {tg : Option (Nat × Nat)} {flex : Bool} {m : Value} {tags : List (Nat × List UInt8)} {S : List (Nat × List UInt8) → Prop}
    (hs : ∀ s, sf = some s → s < L ∧ ρ s = .bool flex) (hn : sf = none → flex = false) (ht : L ≤ t) (hN : (Kx.tagsA I sf T vs tg t).2 ≤ N) (h1L : 1 < L) (hvs : vs < L) (hvs1 : vs ≠ 1)
    (hp : ρ vs = .pointer (some ⟨b, o, none⟩)) (hbB : b < B) (hB : B ≤ w.heap.size)
    (hlen : TlenC P I.tlen) (heach : TeachC P U I.teach S) (huv : UvarC P U I.uvar) (hi1 : intTy P I.tInt .i64 = true) (hi2 : intTy P I.tU32 .u32 = true)
    (htg : ∀ i off, tg = some (i, off) → fieldAtB P T i off = true ∧ w.cell? ⟨b, o + off, none⟩ = some m ∧ RepT w (· < B) m tags ∧ smallT tags ∧ S tags) :
    WritesL P U B N L (Kx.tagsA I sf T vs tg t).1 ρ w x x (if tg.isSome && flex then encTags tags else []) := by
  cases tg with
  | none => exact ⟨rfl, rfl⟩
  | some p =>
    obtain ⟨i, off⟩ := p
    cases sf with
    | none => simp only [Kx.tagsA, hn rfl]; exact ⟨rfl, rfl⟩
    | some s =>
      obtain ⟨hsL, hsv⟩ := hs s rfl
      obtain ⟨hf, hc, hrep, hsm, hS⟩ := htg i off rfl
      simp only [Kx.tagsA] at hN ⊢
      refine .inl ⟨_, [], x, (List.append_nil _).symm, Nat.le_refl _, Nat.le_refl _, ?_, fun _ _ _ _ => ⟨rfl, rfl⟩⟩
      intro a bs Q hl ho hlim hQ
      have hsz := hl.size
      simp only [Option.isSome_some, Bool.true_and] at hlim hQ
      refine MW.sq (MW.rg (ML.mv (ML.nil ?_)))
      simp only [MX.of]
      rw [hl.get s hsL, hsv]
      have hl0 : Loc N L ρ (wr a t (.bool flex)) := hl.tmp _ ht (by omega)
      refine MW.cd (b := flex) (rd_same (by omega)) (fun e => ?_) (fun e => ?_)
      · subst e
        rw [if_pos rfl] at hlim hQ
        simp only [encTags, List.length_append] at hlim
        generalize wr a t (.bool true) = a0 at hl0
        have hsz0 := hl0.size
        have hcount : tags.length ≤ 32767 := hsm.1
        refine MW.sq (MW.rg (ML.mv (ML.mv (ML.nc (p := ⟨b, o, none⟩) ?_ (ML.fa (b := b) (o := o) (off := off) ?_ hf (ML.ca (R := fun v w' => v = .int .i64 tags.length ∧ w' = w) hlen.1 ?_ ?_))))))
        · simp (disch := (first | omega | (simp only [size_wr]; omega))) only [rd_same, rd_ne, MX.of]
          rw [hl0.get vs hvs, hp]
        · simp (disch := (first | omega | (simp only [size_wr]; omega))) only [rd_same, rd_ne, MX.of]
        · simp (disch := (first | omega | (simp only [size_wr]; omega))) only [rd_same, rd_ne, MX.of, List.map_cons, List.map_nil]
          refine (hlen.2 w B ⟨b, o + off, none⟩ m tags hrep hc).mono ?_
          rintro e w' ⟨rfl, rfl⟩
          exact ⟨_, rfl, rfl, rfl⟩
        · rintro v w' ⟨rfl, rfl⟩
          refine ML.cv (v := .int .u32 tags.length) ?_ (ML.biInt (k := .u32) (m := 0) (n := tags.length) (v := .int .u32 tags.length) rfl ?_ ?_ (ML.ca (R := fun sv' w1 => OwnB U w1 B sv' (bs ++ uv tags.length) ∧ Below B w' w1) huv.1 ?_ ?_))
          · simp (disch := (first | omega | (simp only [size_wr]; omega))) only [rd_same, rd_ne, MX.of]
            rw [run_convert_int hi1 hi2, wrap_u32 (by omega) (by omega)]
          · simp (disch := (first | omega | (simp only [size_wr]; omega))) only [rd_same, rd_ne, MX.of]
          · rw [run_sum, Int.zero_add, wrap_u32 (by omega) (by omega)]
          · simp (disch := (first | omega | (simp only [size_wr]; omega))) only [rd_same, rd_ne, MX.of, List.map_cons, List.map_nil]
            rw [hl0.get 1 h1L]
            refine (huv.2 w' B (ρ 1) _ bs (uv tags.length) hB ho ⟨tags.length, by omega, rfl, rfl⟩ (by omega)).mono ?_
            rintro e w1 ⟨sv', rfl, h2⟩
            exact ⟨sv', rfl, h2⟩
          · rintro sv' w1 ⟨h2, h3⟩
            refine ML.mv (ML.nil ?_)
            simp (disch := (first | omega | (simp only [size_wr]; omega))) only [rd_same, rd_ne, MX.of]
            -- the tags themselves
            have hl1 : Loc N L (upd ρ 1 sv') (wr (wr (wr (wr (wr (wr (wr (wr (wr a0 (t + 1) (rd a0 1)) (t + 2) (rd a0 vs)) (t + 3) (Value.pointer (some { block := b, off := o }))) (t + 4) (Value.pointer (some { block := b, off := o + off }))) (t + 5) (Value.int IntKind.i64 ↑tags.length)) (t + 6) (Value.int IntKind.u32 ↑tags.length)) (t + 7) (Value.int IntKind.u32 ↑tags.length)) (t + 8) sv') 1 sv') :=
              Loc.set ((((((((hl0.tmp _ (by omega) (by omega)).tmp _ (by omega) (by omega)).tmp _ (by omega) (by omega)).tmp _ (by omega) (by omega)).tmp _ (by omega) (by omega)).tmp _ (by omega) (by omega)).tmp _ (by omega) (by omega)).tmp _ (by omega) (by omega)) _ (by omega)
            revert hl1
            generalize (wr (wr (wr (wr (wr (wr (wr (wr (wr a0 (t + 1) (rd a0 1)) (t + 2) (rd a0 vs)) (t + 3) (Value.pointer (some { block := b, off := o }))) (t + 4) (Value.pointer (some { block := b, off := o + off }))) (t + 5) (Value.int IntKind.i64 ↑tags.length)) (t + 6) (Value.int IntKind.u32 ↑tags.length)) (t + 7) (Value.int IntKind.u32 ↑tags.length)) (t + 8) sv') 1 sv') = a1
            intro hl1
            have hsz1 := hl1.size
            have hkeep : ∀ b, b < B → w1.heap[b]? = w'.heap[b]? := fun b hb => h3.block b hb
            show MW P _ Q a1 w1
            refine MW.rg (ML.mv (ML.nc (p := ⟨b, o, none⟩) ?_ (ML.fa (b := b) (o := o) (off := off) ?_ hf (ML.mv (ML.ca (R := fun sv2 w2 => OwnB U w2 B sv2 ((bs ++ uv tags.length) ++ tags.flatMap encTag) ∧ Below B w1 w2) heach.1 ?_ ?_)))))
            · simp (disch := (first | omega | (simp only [size_wr]; omega))) only [rd_same, rd_ne, MX.of]
              rw [hl1.get vs hvs, upd_ne _ _ hvs1, hp]
            · simp (disch := (first | omega | (simp only [size_wr]; omega))) only [rd_same, rd_ne, MX.of]
            · simp (disch := (first | omega | (simp only [size_wr]; omega))) only [rd_same, rd_ne, MX.of, List.map_cons, List.map_nil]
              rw [hl1.get 1 h1L, upd_same]
              refine (heach.2 w1 B ⟨b, o + off, none⟩ m sv' tags (bs ++ uv tags.length) (Nat.le_trans hB h3.size) hbB h2 (hrep.mono (fun _ h => h) hkeep) hS ?_ ?_).mono ?_
              · rw [cell_of_heap (hkeep b hbB)]; exact hc
              · simp only [List.length_append]; omega
              · rintro e w2 ⟨sv2, rfl, h4⟩
                exact ⟨sv2, rfl, h4⟩
            · rintro sv2 w2 ⟨h4, h5⟩
              refine ML.mv (ML.nil ?_)
              simp (disch := (first | omega | (simp only [size_wr]; omega))) only [rd_same, rd_ne, MX.of]
              refine hQ _ w2 (upd (upd ρ 1 sv') 1 sv2) (Loc.set (((((hl1.tmp _ (by omega) (by omega)).tmp _ (by omega) (by omega)).tmp _ (by omega) (by omega)).tmp _ (by omega) (by omega)).tmp _ (by omega) (by omega)) _ (by omega)) ?_ ?_ (h3.trans h5)
              · intro s hs h0 _
                rw [upd_ne _ _ h0, upd_ne _ _ h0]
              · rw [upd_same, encTags, ← List.append_assoc]; exact h4
      · subst e
        rw [if_neg (by simp)] at hlim hQ
        exact Writes.sk (Nat.le_refl _) _ bs Q hl0 ho hlim hQ
/-- The contract of a function that writes a list's length, or that there is none. -/
def NLenC (P : Program) (U f : Nat) (flex : Bool) : Prop :=
  entersB P f = true ∧ ∀ (w : World) (B : Nat) (sv : Value) (bs : List UInt8) (n : Nat) (isnil : Bool), B ≤ w.heap.size → OwnB U w B sv bs → n ≤ 32767 →
    bs.length + (if isnil then cntNull flex 4 else cnt flex 4 n).length ≤ lim →
    Calls P f #[sv, .int .i64 n, .bool isnil] w (fun e w' => ∃ sv', e = .returned sv' ∧ OwnB U w' B sv' (bs ++ (if isnil then cntNull flex 4 else cnt flex 4 n)) ∧ Below B w w')

theorem Writes.nlenA {f ty e v t n c : Nat} {p : Option Addr} {flex : Bool} (hc : NLenC P U f flex) (hB : B ≤ w.heap.size) (hv : v < L) (hv1 : v ≠ 1) (h1L : 1 < L) (ht : L ≤ t) (hN : t + 6 ≤ N)
    (hs : sliceOf P ty e = true) (hρ : ρ v = .slice p n c) (hn : n ≤ 32767) : Writes P U B N L (nlenA f ty v t).1 ρ w x x (if p.isNone then cntNull flex 4 else cnt flex 4 n) := by
  intro a bs Q hl ho hlim hQ
  have hsz := hl.size
  refine MW.rg (ML.mv (ML.mv (ML.ln hs (p := p) (n := n) (c := c) ?_ (ML.mv (ML.bi (v := .bool p.isNone) ?_ ?_
    (ML.ca (R := fun sv' w' => OwnB U w' B sv' (bs ++ (if p.isNone then cntNull flex 4 else cnt flex 4 n)) ∧ Below B w w') hc.1 ?_ ?_))))))
  · simp (disch := (first | omega | (simp only [size_wr]; omega))) only [rd_same, rd_ne, MX.of]
    rw [hl.get v hv, hρ]
  · intro ox oy _ _
    simp (disch := (first | omega | (simp only [size_wr]; omega))) only [rd_same, rd_ne, MX.of, MVal.val]
    rw [hl.get v hv, hρ]
    unfold eqGuard
    rfl
  · simp (disch := (first | omega | (simp only [size_wr]; omega))) only [rd_same, rd_ne, MX.of, MVal.val]
    rw [hl.get v hv, hρ]
    exact Lib.run_eql_slice_nil w ty e p n c 0 0 (sliceOf_eq hs)
  · simp (disch := (first | omega | (simp only [size_wr]; omega))) only [rd_same, rd_ne, MX.of, List.map_cons, List.map_nil]
    rw [hl.get 1 h1L]
    refine (hc.2 w B (ρ 1) bs n p.isNone hB ho hn hlim).mono ?_
    rintro e w' ⟨sv', rfl, h2⟩
    exact ⟨sv', rfl, h2⟩
  · rintro sv' w' ⟨h2, h3⟩
    refine ML.mv (ML.nil ?_)
    simp (disch := (first | omega | (simp only [size_wr]; omega))) only [rd_same, rd_ne, MX.of]
    refine hQ _ w' (upd ρ 1 sv') (Loc.set ((((((hl.tmp _ (by omega) (by omega)).tmp _ (by omega) (by omega)).tmp _ (by omega) (by omega)).tmp _ (by omega) (by omega)).tmp _ (by omega) (by omega)).tmp _ (by omega) (by omega)) _ (by omega)) ?_ ?_ h3
    · intro s hs h0 _; exact upd_ne _ _ h0
    · rw [upd_same]; exact h2
end
end Go.Kx
namespace Go.Kx
open Go.RowKit
set_option linter.unusedSimpArgs false
set_option linter.unusedVariables false

theorem ifFlex_le {sf : Option Nat} {t : Nat} {yes no : Nat → MCode × Nat} (h1 : ∀ t, t ≤ (yes t).2) (h2 : ∀ t, t ≤ (no t).2) : t ≤ (ifFlex sf t yes no).2 := by
  cases sf with
  | none => exact h2 t
  | some s => have a := h1 (t + 1); have b := h2 (yes (t + 1)).2; simp only [ifFlex]; omega

theorem callA_le {f v t : Nat} : t ≤ (callA f v t).2 := by simp [callA]
theorem lenA_le {f ty v t : Nat} : t ≤ (lenA f ty v t).2 := by simp [lenA]
theorem nlenA_le {f ty v t : Nat} : t ≤ (nlenA f ty v t).2 := by simp [nlenA]
theorem primA_le {I : IA} {sf : Option Nat} {k : PK} {v t : Nat} : t ≤ (primA I sf k v t).2 := by
  unfold primA
  split
  · exact ifFlex_le (fun _ => callA_le) (fun _ => callA_le)
  · exact callA_le
theorem primFldA_le {I : IA} {sf : Option Nat} {T vs idx : Nat} {k : PK} {ty x t : Nat} : t ≤ (primFldA I sf T vs idx k ty x t).2 := by
  unfold primFldA
  have := @primA_le I sf k x (t + 4)
  split
  · simp
  · simp only; omega
theorem tagsA_le {I : IA} {sf : Option Nat} {T vs : Nat} {tg : Option (Nat × Nat)} {t : Nat} : t ≤ (tagsA I sf T vs tg t).2 := by
  unfold tagsA
  split <;> simp
theorem condA_le {I : IA} {sver t : Nat} {c : Cnd} {body : Nat → MCode × Nat × Nat × Nat} (h : ∀ t, t ≤ (body t).2.1) : t ≤ (condA I sver c t body).2.1 := by
  unfold condA
  split
  · exact h t
  · have := h (t + 2); dsimp only; omega
  · have := h (t + 6); dsimp only; omega
theorem condA_x {I : IA} {sver t : Nat} {c : Cnd} {body : Nat → MCode × Nat × Nat × Nat} {x' : Nat} (h : ∀ t, (body t).2.2.1 = x') : (condA I sver c t body).2.2.1 = x' := by
  unfold condA
  split <;> exact h _
theorem alenA_le {I : IA} {sver : Nat} {sf nul : Option Nat} {ty v t : Nat} : t ≤ (alenA I sver sf nul ty v t).2 := by
  unfold alenA
  split
  · exact ifFlex_le (fun _ => lenA_le) (fun _ => lenA_le)
  · exact ifFlex_le (fun _ => nlenA_le) (fun _ => nlenA_le)
  · have h1 := @ifFlex_le sf (t + 2) (nlenA I.cnalen ty v) (nlenA I.nalen ty v) (fun _ => nlenA_le) (fun _ => nlenA_le)
    have h2 := @ifFlex_le sf (ifFlex sf (t + 2) (nlenA I.cnalen ty v) (nlenA I.nalen ty v)).2 (lenA I.calen ty v) (lenA I.alen ty v) (fun _ => lenA_le) (fun _ => lenA_le)
    dsimp only; omega

theorem vstrA_le {I : IA} {sver : Nat} {sf : Option Nat} {lim ty base x t : Nat} : t + 8 ≤ (vstrA I sver sf lim ty base x t).2 := by
  have h1 := @primA_le I sf .str (x + 2) (t + 8)
  have h2 := @primA_le I sf .nstr x (primA I sf .str (x + 2) (t + 8)).2
  unfold vstrA
  dsimp only; omega
section
variable {I : IA} {sver : Nat} {sf : Option Nat}
mutual
theorem genE_le {ty ety : Nat} : ∀ (el : Ty) {v x t x' b : Nat}, t ≤ (genE I sver sf ty ety el v x t x' b).2.1 ∧ x' ≤ (genE I sver sf ty ety el v x t x' b).2.2.1
  | .prim k _, v, x, t, x', b => by
    simp only [genE]
    have := @primA_le I sf k (x + 1) (t + 4)
    split
    · exact ⟨by show t ≤ t + 7; omega, Nat.le_refl _⟩
    · exact ⟨by show t ≤ (primA I sf k (x + 1) (t + 4)).2; omega, Nat.le_refl _⟩
  | .struct T _ _ tg fs, v, x, t, x', b => by
    simp only [genE]
    have h1 := @genF_le T (x + 1) fs (t + 3) x' b
    have h2 := @tagsA_le I sf T (x + 1) tg (genF I sver sf T (x + 1) fs (t + 3) x' b).2.1
    omega
  | .enum .., v, x, t, x', b => by simp [genE]
  | .vstr .., v, x, t, x', b => by simp [genE]
  | .arr .., v, x, t, x', b => by simp [genE]
theorem genF_le {T vs : Nat} : ∀ (fs : Flds) {t x b : Nat}, t ≤ (genF I sver sf T vs fs t x b).2.1 ∧ x ≤ (genF I sver sf T vs fs t x b).2.2.1
  | .nil, t, x, b => by simp [genF]
  | .cons c idx off df ty rest, t, x, b => by
    simp only [genF]
    have h1 : t ≤ (condA I sver c t (fun t => genFld I sver sf T vs idx ty t x b)).2.1 := condA_le (fun t => (@genFld_le T vs idx ty t x b).1)
    have h2 : x ≤ (condA I sver c t (fun t => genFld I sver sf T vs idx ty t x b)).2.2.1 := by
      unfold condA
      split
      · exact (@genFld_le T vs idx ty t x b).2
      · exact (@genFld_le T vs idx ty (t + 2) x b).2
      · exact (@genFld_le T vs idx ty (t + 6) x b).2
    have h3 := @genF_le T vs rest (condA I sver c t (fun t => genFld I sver sf T vs idx ty t x b)).2.1 (condA I sver c t (fun t => genFld I sver sf T vs idx ty t x b)).2.2.1 (condA I sver c t (fun t => genFld I sver sf T vs idx ty t x b)).2.2.2
    omega
theorem genFld_le {T vs idx : Nat} : ∀ (ty : Ty) {t x b : Nat}, t ≤ (genFld I sver sf T vs idx ty t x b).2.1 ∧ x ≤ (genFld I sver sf T vs idx ty t x b).2.2.1
  | .prim k ty, t, x, b => by
    simp only [genFld]
    have := @primFldA_le I sf T vs idx k ty x t
    omega
  | .enum k ty base, t, x, b => by
    simp only [genFld, loadA, callA]
    omega
  | .vstr lim ty base, t, x, b => by
    simp only [genFld, loadA]
    have := @vstrA_le I sver sf lim ty base x (t + 4)
    omega
  | .arr nul ty ety el, t, x, b => by
    simp only [genFld, loadA, loopA]
    have h0 : t + 4 ≤ (alenA I sver sf nul ty x (t + 4)).2 := alenA_le
    have h1 := @genE_le ty ety el x (x + 1) ((alenA I sver sf nul ty x (t + 4)).2 + 5) (x + 3) (b + 2)
    omega
  | .struct T' _ _ tg fs, t, x, b => by
    simp only [genFld]
    have h1 := @genF_le T' x fs (t + 3) (x + 1) b
    have h2 := @tagsA_le I sf T' x tg (genF I sver sf T' x fs (t + 3) (x + 1) b).2.1
    omega
end
end

section
variable {I : IA} {sver : Nat} {sf : Option Nat}
mutual
/-- The slots of variables do not hang on where the temporaries begin. -/
theorem genE_x {ty ety : Nat} : ∀ (el : Ty) {v x t t2 x' b b2 : Nat}, (genE I sver sf ty ety el v x t x' b).2.2.1 = (genE I sver sf ty ety el v x t2 x' b2).2.2.1
  | .prim k _, v, x, t, t2, x', b, b2 => by simp only [genE]; split <;> rfl
  | .struct T _ _ tg fs, v, x, t, t2, x', b, b2 => by
    simp only [genE]
    exact genF_x fs
  | .enum .., v, x, t, t2, x', b, b2 => by simp [genE]
  | .vstr .., v, x, t, t2, x', b, b2 => by simp [genE]
  | .arr .., v, x, t, t2, x', b, b2 => by simp [genE]
theorem genF_x {T vs : Nat} : ∀ (fs : Flds) {t t2 x b b2 : Nat}, (genF I sver sf T vs fs t x b).2.2.1 = (genF I sver sf T vs fs t2 x b2).2.2.1
  | .nil, t, t2, x, b, b2 => by simp [genF]
  | .cons c idx off df ty rest, t, t2, x, b, b2 => by
    simp only [genF]
    have h2 : (condA I sver c t (fun t => genFld I sver sf T vs idx ty t x b)).2.2.1 = (condA I sver c t2 (fun t => genFld I sver sf T vs idx ty t x b2)).2.2.1 := by
      unfold condA
      split <;> exact genFld_x ty
    rw [h2]
    exact genF_x rest
theorem genFld_x {T vs idx : Nat} : ∀ (ty : Ty) {t t2 x b b2 : Nat}, (genFld I sver sf T vs idx ty t x b).2.2.1 = (genFld I sver sf T vs idx ty t2 x b2).2.2.1
  | .prim k ty, t, t2, x, b, b2 => by simp only [genFld]
  | .enum k ty base, t, t2, x, b, b2 => by simp only [genFld, loadA, callA]
  | .vstr .., t, t2, x, b, b2 => by simp only [genFld, loadA]
  | .arr nul ty ety el, t, t2, x, b, b2 => by
    simp only [genFld, loadA, loopA]
    exact genE_x el
  | .struct T' _ _ tg fs, t, t2, x, b, b2 => by
    simp only [genFld]
    exact genF_x fs
end
end
end Go.Kx
namespace Go.Kx
open Go.RowKit
set_option linter.unusedSimpArgs false
set_option linter.unusedVariables false

/-- The value of a kind whose cells are these. -/
def asV (k : PK) (cs : List Value) : Value :=
  match k with
  | .uuid => .agg cs.toArray
  | _ => cs.headD undef

def smallP : D → Prop
  | .s (some l) => l.length ≤ 32767
  | _ => True

section
variable (S : List (Nat × List UInt8) → Prop)
mutual
def Sm : Ty → D → Prop
  | .prim _ _, d => smallP d
  | .enum _ _ _, d => smallP d
  | .vstr _ _ _, d => smallP d
  | .arr _ _ _ el, d => match d with
    | .l _ xs => xs.length ≤ 32767 ∧ ∀ d ∈ xs, Sm el d
    | _ => True
  | .struct _ _ _ tg fs, d => match d with
    | .r ds tags => SmF fs ds ∧ S tags
    | _ => True
def SmF : Flds → List D → Prop
  | .nil, _ => True
  | .cons _ _ _ _ ty rest, ds => Sm ty (ds.headD (.n 0)) ∧ SmF rest ds.tail
end
end

def PK.kind : PK → Option IntKind
  | .i8 => some .i8
  | .i16 => some .i16
  | .i32 => some .i32
  | .i64 => some .i64
  | .u16 => some .u16
  | _ => none

/-- The type of a plain field is of the kind's shape. -/
def primTy (P : Program) (k : PK) (ty : Nat) : Bool :=
  match k with
  | .uuid => rowTy P ty && cellsB P ty 16
  | _ => plainTy P ty

def ptrOf (P : Program) (T e : Nat) : Bool :=
  match P.underlying T with
  | some (.pointer e') => Nat.beq e e'
  | _ => false

theorem ptrOf_eq {P : Program} {T e : Nat} (h : ptrOf P T e = true) : P.underlying T = some (.pointer e) := by
  unfold ptrOf at h
  cases hu : P.underlying T with
  | none => simp [hu] at h
  | some d => cases d <;> simp_all

/-- The zero of an array of so many cells. -/
def zeroN (P : Program) (ty n : Nat) : Bool :=
  match P.info? ty with
  | some i => (match i.zero with | some (.agg cs) => Nat.beq cs.size n | _ => false)
  | none => false

/-- The contracts that AppendTo's code rests on; a function's number 0: there is none. -/
structure AOK (P : Program) (I : IA) (S : List (Nat × List UInt8) → Prop) : Prop where
  small : ∀ tags, S tags → smallT tags
  prim : ∀ k flex, I.fn k flex ≠ 0 → ApC P I.tU8 (I.fn k flex) (fun w B x out => ∃ cs d, x = asV k cs ∧ RepP w (· < B) k cs d ∧ smallP d ∧ out = encP k flex d)
  alen : I.alen ≠ 0 → LenC P I.tU8 I.alen (fun n => fix n 4)
  calen : I.calen ≠ 0 → LenC P I.tU8 I.calen (fun n => uv (n + 1))
  nalen : I.nalen ≠ 0 → NLenC P I.tU8 I.nalen false
  cnalen : I.cnalen ≠ 0 → NLenC P I.tU8 I.cnalen true
  tlen : I.tlen ≠ 0 → TlenC P I.tlen
  teach : I.teach ≠ 0 → TeachC P I.tU8 I.teach S
  uvar : I.uvar ≠ 0 → UvarC P I.tU8 I.uvar

def fnOk (I : IA) (sf : Option Nat) (k : PK) : Bool := !(Nat.beq (I.fn k false) 0) && (if k.two && sf.isSome then !(Nat.beq (I.fn k true) 0) else true)
def lnOk1 (I : IA) (sf : Option Nat) : Bool := !(Nat.beq I.alen 0) && (if sf.isSome then !(Nat.beq I.calen 0) else true)
def lnOk2 (I : IA) (sf : Option Nat) : Bool := !(Nat.beq I.nalen 0) && (if sf.isSome then !(Nat.beq I.cnalen 0) else true)
def lnOk (I : IA) (sf nul : Option Nat) : Bool :=
  match nul with
  | none => lnOk1 I sf
  | some 0 => lnOk2 I sf
  | some (_ + 1) => lnOk1 I sf && lnOk2 I sf

def wfT (P : Program) (I : IA) (sf : Option Nat) (T : Nat) (tg : Option (Nat × Nat)) : Bool :=
  match tg with
  | none => true
  | some (i, off) => fieldAtB P T i off && !(Nat.beq I.tlen 0) && !(Nat.beq I.teach 0) && !(Nat.beq I.uvar 0) && intTy P I.tInt .i64 && intTy P I.tU32 .u32

mutual
def wfE (P : Program) (I : IA) (sf : Option Nat) (ety : Nat) : Ty → Bool
  | .prim k _ => primTy P k ety && cellsB P ety k.cells && fnOk I sf k && (!k.box || zeroN P ety 16)
  | .struct T n _ tg fs => cellsB P ety n && wfF P I sf T fs && wfT P I sf T tg
  | _ => false
def wfF (P : Program) (I : IA) (sf : Option Nat) (T : Nat) : Flds → Bool
  | .nil => true
  | .cons _ idx off _ ty rest => fieldAtB P T idx off && wfFld P I sf ty && wfF P I sf T rest
def wfFld (P : Program) (I : IA) (sf : Option Nat) : Ty → Bool
  | .prim k ty => primTy P k ty && fnOk I sf k && (!k.box || zeroN P ty 16)
  | .enum k ty base => (match k.kind with | some kk => intTy P ty kk && intTy P base kk | none => false) && plainTy P ty && !(Nat.beq (I.fn k false) 0)
  | .vstr _ ty base => plainTy P ty && ptrOf P ty base && plainTy P base && fnOk I sf .str && fnOk I sf .nstr
  | .arr nul ty ety el => plainTy P ty && sliceOf P ty ety && cellsB P ety el.cells && wfE P I sf ety el && lnOk I sf nul
  | .struct T' n _ tg fs => wfF P I sf T' fs && wfT P I sf T' tg
end

theorem ne0 {n : Nat} (h : (!(Nat.beq n 0)) = true) : n ≠ 0 := by
  intro e; subst e; simp at h

theorem rangeAt_sub {w : World} {b o : Nat} {cs : List Value} (h : w.rangeAt b o cs) (off n : Nat) : w.rangeAt b (o + off) ((cs.drop off).take n) := by
  intro j v hv
  rw [List.getElem?_take] at hv
  split at hv
  · rw [List.getElem?_drop] at hv
    have := h (off + j) v hv
    rwa [show o + off + j = o + (off + j) from by omega]
  · simp at hv

theorem rangeAt_heap {w : World} {g : Nat} {arr : Array Value} {eT : Nat} {fr : Nat × Nat} (h : w.heap[g]? = some (.cells arr eT fr)) : w.rangeAt g 0 arr.toList := by
  intro j v hv
  rw [Nat.zero_add, cell_of_row w g j arr eT fr h]
  simpa using hv

theorem encP_two {k : PK} (h : k.two = false) (flex : Bool) (d : D) : encP k flex d = encP k false d := by
  cases k <;> first | (simp [PK.two] at h; done) | (cases d <;> first | rfl | (rename_i o; cases o <;> rfl))

section
variable {P : Program} {w : World} {F : Nat → Prop}

theorem load_prim {k : PK} {ty b o : Nat} {cs : List Value} {d : D} (hp : primTy P k ty = true) (hr : RepP w F k cs d) (hc : w.rangeAt b o cs) :
    (Instr.loadAt ty (.pointer (some ⟨b, o, none⟩))).run P w = .ok (asV k cs) w := by
  have one : ∀ u : Value, cs = [u] → asV k cs = cs.headD undef → plainTy P ty = true → (Instr.loadAt ty (.pointer (some ⟨b, o, none⟩))).run P w = .ok (asV k cs) w := by
    intro u hu h1 h2
    rw [h1, hu]
    refine run_loadAt_one h2 ?_
    have := hc 0 u (by rw [hu]; rfl)
    simpa using this
  cases k
  case uuid =>
    obtain ⟨l, h1, h2, h3⟩ := hr
    simp only [primTy, Bool.and_eq_true] at hp
    exact run_loadAt_row hp.1 (by rw [h2, List.length_map, h1]; exact hp.2) hc
  all_goals simp only [RepP] at hr
  case i8 => obtain ⟨n, h1, _⟩ := hr; exact one _ h1 rfl hp
  case i16 => obtain ⟨n, h1, _⟩ := hr; exact one _ h1 rfl hp
  case i32 => obtain ⟨n, h1, _⟩ := hr; exact one _ h1 rfl hp
  case i64 => obtain ⟨n, h1, _⟩ := hr; exact one _ h1 rfl hp
  case u16 => obtain ⟨n, h1, _⟩ := hr; exact one _ h1 rfl hp
  case bool => obtain ⟨n, h1, _⟩ := hr; exact one _ h1 rfl hp
  case f64 => obtain ⟨n, h1, _⟩ := hr; exact one _ h1 rfl hp
  case str => obtain ⟨n, h1, _⟩ := hr; exact one _ h1 rfl hp
  case nstr => rcases hr with ⟨h1, _⟩ | ⟨b', s, h1, _⟩ <;> exact one _ h1 rfl hp
  case byt => obtain ⟨a, c, l, h1, _⟩ := hr; exact one _ h1 rfl hp
  case nbyt => rcases hr with ⟨h1, _⟩ | ⟨a, c, l, h1, _⟩ <;> exact one _ h1 rfl hp
end

section
variable {P : Program} {B N L : Nat} {ρ : Nat → Value} {w : World} {x x' : Nat} {I : IA} {ver : Int} {flex : Bool} {sver : Nat} {sf : Option Nat} {S : List (Nat × List UInt8) → Prop}

/-- What stands in the frame wherever a field is written: the version, whether it is flexible. -/
structure Ctx (sver : Nat) (sf : Option Nat) (ver : Int) (flex : Bool) (x : Nat) (ρ : Nat → Value) : Prop where
  hx : 1 < x
  v1 : 1 < sver
  vx : sver < x
  ver : ρ sver = .int .i16 ver
  f1 : ∀ s, sf = some s → 1 < s ∧ s < x ∧ ρ s = .bool flex
  f0 : sf = none → flex = false

theorem Ctx.keep {y : Nat} {ρ' : Nat → Value} (h : Ctx sver sf ver flex x ρ) (hk : Keep L x y ρ ρ') (hL : x ≤ L) (hy : x ≤ y) : Ctx sver sf ver flex y ρ' where
  hx := by have := h.hx; omega
  v1 := h.v1
  vx := by have := h.vx; omega
  ver := by rw [hk _ (by have := h.vx; omega) (by have := h.v1; omega) (.inl h.vx)]; exact h.ver
  f1 := fun s hs => by
    obtain ⟨h1, h2, h3⟩ := h.f1 s hs
    exact ⟨h1, by omega, by rw [hk _ (by omega) (by omega) (.inl h2)]; exact h3⟩
  f0 := h.f0

theorem Ctx.upd {v : Value} (h : Ctx sver sf ver flex x ρ) : Ctx sver sf ver flex (x + 1) (upd ρ x v) where
  hx := by have := h.hx; omega
  v1 := h.v1
  vx := by have := h.vx; omega
  ver := by rw [upd_ne _ _ (by have := h.vx; omega)]; exact h.ver
  f1 := fun s hs => by
    obtain ⟨h1, h2, h3⟩ := h.f1 s hs
    exact ⟨h1, by omega, by rw [upd_ne _ _ (by omega)]; exact h3⟩
  f0 := h.f0

theorem Writes.primA {k : PK} {v t : Nat} {d : D} (ok : AOK P I S) (hctx : Ctx sver sf ver flex x ρ) (hxL : x ≤ L) (hv : v < L) (ht : L ≤ t) (hN : (Kx.primA I sf k v t).2 ≤ N) (hB : B ≤ w.heap.size)
    {cs : List Value} (hfn : fnOk I sf k = true) (hx : ρ v = asV k cs) (hr : RepP w (· < B) k cs d) (hs : smallP d) : Writes P I.tU8 B N L (Kx.primA I sf k v t).1 ρ w x' x' (encP k flex d) := by
  have h1L : 1 < L := by have := hctx.hx; omega
  simp only [fnOk, Bool.and_eq_true] at hfn
  obtain ⟨f1, f2⟩ := hfn
  have callN : ∀ t, L ≤ t → (Kx.callA (I.fn k false) v t).2 ≤ N → Writes P I.tU8 B N L (Kx.callA (I.fn k false) v t).1 ρ w x' x' (encP k false d) := by
    intro t ht hN
    exact Writes.callA (ok.prim k false (ne0 f1)) hB hv h1L ht (by simpa [Kx.callA] using hN) ⟨cs, d, hx, hr, hs, rfl⟩
  unfold Kx.primA at hN ⊢
  cases htwo : k.two
  · rw [encP_two htwo]
    rw [htwo] at hN
    simpa [htwo] using callN t ht (by simpa using hN)
  · rw [htwo] at hN f2
    simp only [if_true] at hN ⊢
    refine Writes.ifFlex (fun s hs => ?_) hctx.f0 ht hN (fun _ => callA_le) (fun _ => callA_le) (fun e t' ht' hN' => ?_) (fun e t' ht' hN' => ?_)
    · obtain ⟨h1, h2, h3⟩ := hctx.f1 s hs; exact ⟨by omega, h3⟩
    · subst e
      cases sf with
      | none => have := hctx.f0 rfl; simp at this
      | some s =>
        simp only [Option.isSome_some, Bool.and_true, if_true] at f2
        exact Writes.callA (ok.prim k true (ne0 f2)) hB hv h1L ht' (by simpa [Kx.callA] using hN') ⟨cs, d, hx, hr, hs, rfl⟩
    · subst e; exact callN t' ht' hN'

/-- The length of a list that can't be null, that may be. -/
theorem Writes.alenA1 {ty ety v t n c : Nat} {p : Option Addr} (ok : AOK P I S) (hctx : Ctx sver sf ver flex x ρ) (hxL : x ≤ L) (hv : v < L) (hv1 : v ≠ 1) (ht : L ≤ t) (hN : (Kx.ifFlex sf t (Kx.lenA I.calen ty v) (Kx.lenA I.alen ty v)).2 ≤ N) (hB : B ≤ w.heap.size)
    (hln : lnOk1 I sf = true) (hsl : sliceOf P ty ety = true) (hρ : ρ v = .slice p n c) (hn : n ≤ 32767) :
    Writes P I.tU8 B N L (Kx.ifFlex sf t (Kx.lenA I.calen ty v) (Kx.lenA I.alen ty v)).1 ρ w x' x' (cnt flex 4 n) := by
  have h1L : 1 < L := by have := hctx.hx; omega
  have hs : ∀ s, sf = some s → s < L ∧ ρ s = .bool flex := fun s hs => by obtain ⟨h1, h2, h3⟩ := hctx.f1 s hs; exact ⟨by omega, h3⟩
  simp only [lnOk1, Bool.and_eq_true] at hln
  refine Writes.ifFlex hs hctx.f0 ht hN (fun _ => lenA_le) (fun _ => lenA_le) (fun e t' ht' hN' => ?_) (fun e t' ht' hN' => ?_)
  · subst e
    cases sf with
    | none => have := hctx.f0 rfl; simp at this
    | some s =>
      have h2 := hln.2
      simp only [Option.isSome_some, if_true] at h2
      exact Writes.lenA (ok.calen (ne0 h2)) hB hv hv1 h1L ht' (by simpa [Kx.lenA] using hN') hsl hρ hn
  · subst e
    exact Writes.lenA (ok.alen (ne0 hln.1)) hB hv hv1 h1L ht' (by simpa [Kx.lenA] using hN') hsl hρ hn
theorem Writes.alenA2 {ty ety v t n c : Nat} {p : Option Addr} (ok : AOK P I S) (hctx : Ctx sver sf ver flex x ρ) (hxL : x ≤ L) (hv : v < L) (hv1 : v ≠ 1) (ht : L ≤ t) (hN : (Kx.ifFlex sf t (Kx.nlenA I.cnalen ty v) (Kx.nlenA I.nalen ty v)).2 ≤ N) (hB : B ≤ w.heap.size)
    (hln : lnOk2 I sf = true) (hsl : sliceOf P ty ety = true) (hρ : ρ v = .slice p n c) (hn : n ≤ 32767) :
    Writes P I.tU8 B N L (Kx.ifFlex sf t (Kx.nlenA I.cnalen ty v) (Kx.nlenA I.nalen ty v)).1 ρ w x' x' (if p.isNone then cntNull flex 4 else cnt flex 4 n) := by
  have h1L : 1 < L := by have := hctx.hx; omega
  have hs : ∀ s, sf = some s → s < L ∧ ρ s = .bool flex := fun s hs => by obtain ⟨h1, h2, h3⟩ := hctx.f1 s hs; exact ⟨by omega, h3⟩
  simp only [lnOk2, Bool.and_eq_true] at hln
  refine Writes.ifFlex hs hctx.f0 ht hN (fun _ => nlenA_le) (fun _ => nlenA_le) (fun e t' ht' hN' => ?_) (fun e t' ht' hN' => ?_)
  · subst e
    cases sf with
    | none => have := hctx.f0 rfl; simp at this
    | some s =>
      have h2 := hln.2
      simp only [Option.isSome_some, if_true] at h2
      exact Writes.nlenA (ok.cnalen (ne0 h2)) hB hv hv1 h1L ht' (by simpa [Kx.nlenA] using hN') hsl hρ hn
  · subst e
    exact Writes.nlenA (ok.nalen (ne0 hln.1)) hB hv hv1 h1L ht' (by simpa [Kx.nlenA] using hN') hsl hρ hn
/-- The length of a list. -/
theorem Writes.alenA {nul : Option Nat} {ty ety v t n c : Nat} {p : Option Addr} (ok : AOK P I S) (hctx : Ctx sver sf ver flex x ρ) (hxL : x ≤ L) (hv : v < L) (hv1 : v ≠ 1) (ht : L ≤ t) (hN : (Kx.alenA I sver sf nul ty v t).2 ≤ N) (hB : B ≤ w.heap.size)
    (hln : lnOk I sf nul = true) (hsl : sliceOf P ty ety = true) (hρ : ρ v = .slice p n c) (hn : n ≤ 32767) :
    Writes P I.tU8 B N L (Kx.alenA I sver sf nul ty v t).1 ρ w x' x' (if nul.isSome && p.isNone && vNul nul ver then cntNull flex 4 else cnt flex 4 n) := by
  cases nul with
  | none => exact Writes.alenA1 ok hctx hxL hv hv1 ht hN hB hln hsl hρ hn
  | some m =>
    cases m with
    | zero =>
      simp only [vNul, Option.isSome_some, Bool.true_and, Bool.and_true]
      exact Writes.alenA2 ok hctx hxL hv hv1 ht hN hB hln hsl hρ hn
    | succ k =>
      simp only [lnOk, Bool.and_eq_true] at hln
      simp only [Kx.alenA, vNul, Option.isSome_some, Bool.true_and] at hN ⊢
      have g1 := @ifFlex_le sf (t + 2) (Kx.nlenA I.cnalen ty v) (Kx.nlenA I.nalen ty v) (fun _ => nlenA_le) (fun _ => nlenA_le)
      have g2 := @Kx.ifFlex_le sf (Kx.ifFlex sf (t + 2) (Kx.nlenA I.cnalen ty v) (Kx.nlenA I.nalen ty v)).2 (Kx.lenA I.calen ty v) (Kx.lenA I.alen ty v) (fun _ => lenA_le) (fun _ => lenA_le)
      refine Writes.ifGe (lo := k + 1) (by have := hctx.vx; omega) hctx.ver ht (by omega) (fun e => ?_) (fun e => ?_)
      · rw [decide_eq_true e, Bool.and_true]
        exact Writes.alenA2 ok hctx hxL hv hv1 (by omega) (by omega) hB hln.2 hsl hρ hn
      · rw [decide_eq_false e, Bool.and_false]
        simp only [Bool.false_eq_true, if_false]
        exact Writes.alenA1 ok hctx hxL hv hv1 (by omega) hN hB hln.1 hsl hρ hn

theorem tags_of (ok : AOK P I S) {T vs t b o : Nat} {tg : Option (Nat × Nat)} {cs : List Value} {tags : List (Nat × List UInt8)}
    (hctx : Ctx sver sf ver flex x ρ) (hxL : x ≤ L) (hvs : vs < L) (hvs1 : vs ≠ 1) (ht : L ≤ t) (hN : (Kx.tagsA I sf T vs tg t).2 ≤ N) (hp : ρ vs = .pointer (some ⟨b, o, none⟩)) (hbB : b < B) (hB : B ≤ w.heap.size)
    (hwf : wfT P I sf T tg = true) (hc : w.rangeAt b o cs) (hm : TagsAt w (· < B) tg cs tags) (hsm : S tags) :
    WritesL P I.tU8 B N L (Kx.tagsA I sf T vs tg t).1 ρ w x' x' (if tg.isSome && flex then encTags tags else []) := by
  have hs : ∀ s, sf = some s → s < L ∧ ρ s = .bool flex := fun s hs => by obtain ⟨h1, h2, h3⟩ := hctx.f1 s hs; exact ⟨by omega, h3⟩
  cases tg with
  | none => exact ⟨rfl, rfl⟩
  | some p =>
    obtain ⟨i, off⟩ := p
    simp only [wfT, Bool.and_eq_true] at hwf
    obtain ⟨⟨⟨⟨⟨w1, w2⟩, w3⟩, w4⟩, w5⟩, w6⟩ := hwf
    obtain ⟨m, hm1, hm2⟩ := hm
    refine WritesL.tagsA (m := m) (tags := tags) hs hctx.f0 ht hN (by have := hctx.hx; omega) hvs hvs1 hp hbB hB (ok.tlen (ne0 w2)) (ok.teach (ne0 w3)) (ok.uvar (ne0 w4)) w5 w6 ?_
    intro i' off' he
    simp only [Option.some.injEq, Prod.mk.injEq] at he
    obtain ⟨rfl, rfl⟩ := he
    exact ⟨w1, hc off m hm1, hm2, ok.small _ hsm, hsm⟩

/-- Small, where a part says it. -/
theorem flds_ok_mono : True := trivial
end
end Go.Kx
namespace Go.Kx
open Go.RowKit
set_option linter.unusedSimpArgs false
set_option linter.unusedVariables false

theorem Ctx.le {x y : Nat} {ρ : Nat → Value} {ver : Int} {flex : Bool} {sver : Nat} {sf : Option Nat} (h : Ctx sver sf ver flex x ρ) (hxy : x ≤ y) : Ctx sver sf ver flex y ρ where
  hx := by have := h.hx; omega
  v1 := h.v1
  vx := by have := h.vx; omega
  ver := h.ver
  f1 := fun s hs => by obtain ⟨h1, h2, h3⟩ := h.f1 s hs; exact ⟨h1, by omega, h3⟩
  f0 := h.f0

section
variable {P : Program} {B N L : Nat} {ρ : Nat → Value} {w : World} {x x' : Nat} {I : IA} {ver : Int} {flex : Bool} {sver : Nat} {sf : Option Nat} {S : List (Nat × List UInt8) → Prop}

theorem Ctx.keep0 {y : Nat} {ρ' : Nat → Value} (h : Ctx sver sf ver flex x ρ) (hk : Keep L x y ρ ρ') (hL : x ≤ L) : Ctx sver sf ver flex x ρ' where
  hx := h.hx
  v1 := h.v1
  vx := h.vx
  ver := by rw [hk _ (by have := h.vx; omega) (by have := h.v1; omega) (.inl h.vx)]; exact h.ver
  f1 := fun s hs => by
    obtain ⟨h1, h2, h3⟩ := h.f1 s hs
    exact ⟨h1, h2, by rw [hk _ (by omega) (by omega) (.inl h2)]; exact h3⟩
  f0 := h.f0

/-- The place of an element. -/
theorem Sets.elemAddr {ty ety v t ab i len cap sz : Nat} (hv : v < L) (hx : x < L) (hxL : x + 1 < L) (ht : L ≤ t) (hN : t + 3 ≤ N) (hs : sliceOf P ty ety = true) (hc : cellsB P ety sz = true)
    (hρ : ρ v = .slice (some ⟨ab, 0, none⟩) len cap) (hi : ρ x = .int .i64 (i : Nat)) (hil : i < len) :
    Sets P N L (.rg [.mv t (.t v), .mv (t + 1) (.t x), .ia (t + 2) ty t (t + 1), .mv (x + 1) (.t (t + 2))]) ρ w (x + 1) (.pointer (some ⟨ab, i * sz, none⟩)) := by
  intro a Q hl hQ
  have hsz := hl.size
  refine MW.rg (ML.mv (ML.mv (ML.ia (b := ab) (o := 0) (len := len) (cap := cap) (k := .i64) (j := i) (sz := sz) hs hc ?_ ?_ hil (ML.mv (ML.nil ?_)))))
  · simp (disch := (first | omega | (simp only [size_wr]; omega))) only [rd_same, rd_ne, MX.of]
    rw [hl.get v hv, hρ]
  · simp (disch := (first | omega | (simp only [size_wr]; omega))) only [rd_same, rd_ne, MX.of]
    rw [hl.get x hx, hi]
  · simp (disch := (first | omega | (simp only [size_wr]; omega))) only [rd_same, rd_ne, MX.of]
    rw [Nat.zero_add]
    exact hQ _ (Loc.set (((hl.tmp _ (by omega) (by omega)).tmp _ (by omega) (by omega)).tmp _ (by omega) (by omega)) _ (by omega))

/-- An element, loaded. -/
theorem Sets.elemLoad {ty ety v t ab i len cap sz : Nat} {u : Value} (hv : v < L) (hx : x < L) (hxL : x + 1 < L) (ht : L ≤ t) (hN : t + 4 ≤ N) (hs : sliceOf P ty ety = true) (hc : cellsB P ety sz = true)
    (hρ : ρ v = .slice (some ⟨ab, 0, none⟩) len cap) (hi : ρ x = .int .i64 (i : Nat)) (hil : i < len) (hr : (Instr.loadAt ety (.pointer (some ⟨ab, i * sz, none⟩))).run P w = .ok u w) :
    Sets P N L (.rg [.mv t (.t v), .mv (t + 1) (.t x), .ia (t + 2) ty t (t + 1), .ld (t + 3) ety (t + 2), .mv (x + 1) (.t (t + 3))]) ρ w (x + 1) u := by
  intro a Q hl hQ
  have hsz := hl.size
  refine MW.rg (ML.mv (ML.mv (ML.ia (b := ab) (o := 0) (len := len) (cap := cap) (k := .i64) (j := i) (sz := sz) hs hc ?_ ?_ hil (ML.ldBy (v := u) ?_ (ML.mv (ML.nil ?_))))))
  · simp (disch := (first | omega | (simp only [size_wr]; omega))) only [rd_same, rd_ne, MX.of]
    rw [hl.get v hv, hρ]
  · simp (disch := (first | omega | (simp only [size_wr]; omega))) only [rd_same, rd_ne, MX.of]
    rw [hl.get x hx, hi]
  · simp (disch := (first | omega | (simp only [size_wr]; omega))) only [rd_same, rd_ne, MX.of]
    rw [Nat.zero_add]; exact hr
  · simp (disch := (first | omega | (simp only [size_wr]; omega))) only [rd_same, rd_ne, MX.of]
    exact hQ _ (Loc.set ((((hl.tmp _ (by omega) (by omega)).tmp _ (by omega) (by omega)).tmp _ (by omega) (by omega)).tmp _ (by omega) (by omega)) _ (by omega))

/-- The place of an embedded part. -/
theorem Sets.fldAddr {T vs idx t b o off : Nat} (hp : ρ vs = .pointer (some ⟨b, o, none⟩)) (hvs : vs < L) (hx : x < L) (ht : L ≤ t) (hN : t + 3 ≤ N) (hf : fieldAtB P T idx off = true) :
    Sets P N L (.rg [.mv t (.t vs), .nc (t + 1) t, .fa (t + 2) T (t + 1) idx, .mv x (.t (t + 2))]) ρ w x (.pointer (some ⟨b, o + off, none⟩)) := by
  intro a Q hl hQ
  have hsz := hl.size
  refine MW.rg (ML.mv (ML.nc (p := ⟨b, o, none⟩) ?_ (ML.fa (b := b) (o := o) (off := off) ?_ hf (ML.mv (ML.nil ?_)))))
  · simp (disch := (first | omega | (simp only [size_wr]; omega))) only [rd_same, rd_ne, MX.of]
    rw [hl.get vs hvs, hp]
  · simp (disch := (first | omega | (simp only [size_wr]; omega))) only [rd_same, rd_ne, MX.of]
  · simp (disch := (first | omega | (simp only [size_wr]; omega))) only [rd_same, rd_ne, MX.of]
    exact hQ _ (Loc.set (((hl.tmp _ (by omega) (by omega)).tmp _ (by omega) (by omega)).tmp _ (by omega) (by omega)) _ (by omega))

/-- The number of an enumeration, as its base type. -/
theorem Sets.conv {v t : Nat} {u : Value} (hv : v < L) (hx : x < L) (ht : L ≤ t) (hN : t + 1 ≤ N)
    (hρ : ρ v = u) : Sets P N L (.rg [.mv t (.t v), .mv x (.t t)]) ρ w x u := by
  intro a Q hl hQ
  have hsz := hl.size
  refine MW.rg (ML.mv (ML.mv (ML.nil ?_)))
  simp (disch := (first | omega | (simp only [size_wr]; omega))) only [rd_same, rd_ne, MX.of]
  rw [hl.get v hv, hρ]
  exact hQ _ (Loc.set (hl.tmp _ (by omega) (by omega)) _ (by omega))

theorem wrap_small {k : IntKind} {n : Int} (h0 : k.min ≤ n) (h1 : n ≤ k.max) : k.wrap n = n := by
  cases k <;> simp only [IntKind.min, IntKind.max, IntKind.bits, IntKind.signed, if_true, Bool.false_eq_true, if_false, show ((2 : Int) ^ (8 - 1)) = 128 from rfl, show ((2 : Int) ^ (16 - 1)) = 32768 from rfl, show ((2 : Int) ^ (32 - 1)) = 2147483648 from rfl, show ((2 : Int) ^ (64 - 1)) = 9223372036854775808 from rfl, show ((2 : Int) ^ 8) = 256 from rfl, show ((2 : Int) ^ 16) = 65536 from rfl, show ((2 : Int) ^ 32) = 4294967296 from rfl, show ((2 : Int) ^ 64) = 18446744073709551616 from rfl] at h0 h1 <;>
    simp only [IntKind.wrap, IntKind.bits, IntKind.signed, Bool.true_and, Bool.false_and, decide_eq_true_eq, Bool.false_eq_true, if_false, show ((2 : Int) ^ (8 - 1)) = 128 from rfl, show ((2 : Int) ^ (16 - 1)) = 32768 from rfl, show ((2 : Int) ^ (32 - 1)) = 2147483648 from rfl, show ((2 : Int) ^ (64 - 1)) = 9223372036854775808 from rfl, show ((2 : Int) ^ 8) = 256 from rfl, show ((2 : Int) ^ 16) = 65536 from rfl, show ((2 : Int) ^ 32) = 4294967296 from rfl, show ((2 : Int) ^ 64) = 18446744073709551616 from rfl] <;> (try split) <;> omega

/-- A number's kind. -/
theorem RepP.int {w : World} {F : Nat → Prop} {k : PK} {kk : IntKind} {cs : List Value} {d : D} (hk : k.kind = some kk) (h : RepP w F k cs d) : ∃ n, cs = [.int kk n] ∧ kk.wrap n = n := by
  cases k <;> simp only [PK.kind, Option.some.injEq, reduceCtorEq] at hk <;> subst hk <;> simp only [RepP] at h <;> obtain ⟨n, h1, _, h2, h3⟩ := h <;>
    exact ⟨n, h1, wrap_small (by simp [IntKind.min, IntKind.bits, IntKind.signed]; omega) (by simp [IntKind.max, IntKind.bits, IntKind.signed]; omega)⟩

/-- A field that is read through a variable of its own. -/
theorem Writes.box {T vs idx off t x ty pb po : Nat} {ρ : Nat → Value} {w : World} {L : Nat} {cs : List Value} {d : D} (ok : AOK P I S) (hctx : Ctx sver sf ver flex x ρ) (hf : fieldAtB P T idx off = true)
    (hrow : rowTy P ty = true) (hcs : cellsB P ty 16 = true) (hz : zeroN P ty 16 = true) (hfn : I.fn .uuid false ≠ 0) (hp : ρ vs = .pointer (some ⟨pb, po, none⟩)) (hvx : vs < x) (hL : x + 1 ≤ L) (ht : L ≤ t) (hN : t + 7 ≤ N)
    (hB : B ≤ w.heap.size) (hrep : RepP w (· < B) .uuid cs d) (hu1 : (Instr.loadAt ty (.pointer (some ⟨pb, po + off, none⟩))).run P w = .ok (asV .uuid cs) w) :
    Writes P I.tU8 B N L (.sq (.rg [.mv t (.t vs), .nc (t + 1) t, .fa (t + 2) T (t + 1) idx, .ld (t + 3) ty (t + 2), .al x ty, .st ty x (t + 3)])
      (.rg [.mv (t + 4) (.t 1), .ld (t + 5) ty x, .ca (t + 6) (I.fn .uuid false) [.t (t + 4), .t (t + 5)], .mv 1 (.t (t + 6))])) ρ w x (x + 1) (encP .uuid flex d) := by
  intro a bs Q hl ho hlim hQ
  have hsz := hl.size
  have h1x := hctx.hx
  have hrep0 := hrep
  obtain ⟨l, hl16, hcl, hd⟩ := hrep
  have hlen : cs.length = 16 := by rw [hcl, List.length_map, hl16]
  obtain ⟨z, iz, hzs⟩ : ∃ z : List Value, (∃ i, P.info? ty = some i ∧ i.zero = some (.agg z.toArray)) ∧ z.length = 16 := by
    unfold zeroN at hz
    cases hi : P.info? ty with
    | none => simp [hi] at hz
    | some i =>
      simp only [hi] at hz
      cases hzv : i.zero with
      | none => simp [hzv] at hz
      | some v =>
        cases v <;> simp only [hzv, Bool.false_eq_true, Nat.beq_eq] at hz
        rename_i cs
        exact ⟨cs.toList, ⟨i, rfl, by rw [hzv]⟩, by simpa using hz⟩
  have hone : cs.all (·.oneCell') = true := by rw [hcl]; simp [byteV, Value.oneCell']
  have hth : (w.alloc (.cells z.toArray ty)).there w.heap.size 0 cs.length := by rw [hlen, ← hzs]; exact there_box w z ty
  have hbw : Below w.heap.size w ((w.alloc (.cells z.toArray ty)).setCells w.heap.size 0 cs) := below_setCells (Nat.le_refl _) _ _ (below_box w _)
  have hsw : ((w.alloc (.cells z.toArray ty)).setCells w.heap.size 0 cs).heap.size = w.heap.size + 1 := by rw [size_setCells, size_box]
  have hrg : ((w.alloc (.cells z.toArray ty)).setCells w.heap.size 0 cs).rangeAt w.heap.size 0 cs := World.rangeAt_setCells_same _ _ _ _ hth
  refine MW.sq (MW.rg (ML.mv (ML.nc (p := ⟨pb, po, none⟩) ?_ (ML.fa (b := pb) (o := po) (off := off) ?_ hf (ML.ldBy (v := asV .uuid cs) ?_ (ML.al (z := .agg z.toArray) iz ?_))))))
  · simp (disch := (first | omega | (simp only [size_wr]; omega))) only [rd_same, rd_ne, MX.of]
    rw [hl.get vs (by omega), hp]
  · simp (disch := (first | omega | (simp only [size_wr]; omega))) only [rd_same, rd_ne, MX.of]
  · simp (disch := (first | omega | (simp only [size_wr]; omega))) only [rd_same, rd_ne, MX.of]
    exact hu1
  refine ML.st (b := w.heap.size) (o := 0) ?_ ?_ ?_ ?_ ?_
  · simp (disch := (first | omega | (simp only [size_wr]; omega))) only [rd_same, rd_ne, MX.of]
  · simp (disch := (first | omega | (simp only [size_wr]; omega))) only [rd_same, rd_ne, MX.of]
    simpa [asV, Value.cells, hlen] using hcs
  · simp (disch := (first | omega | (simp only [size_wr]; omega))) only [rd_same, rd_ne, MX.of]
    simpa [asV, Value.cells] using hth
  · simp (disch := (first | omega | (simp only [size_wr]; omega))) only [rd_same, rd_ne, MX.of]
    simpa [asV, Value.cells] using hone
  simp (disch := (first | omega | (simp only [size_wr]; omega))) only [rd_same, rd_ne, MX.of]
  refine ML.nil ?_
  show MW P _ Q _ _
  have ew : (w.alloc (.cells (Value.agg z.toArray).cells ty)).setCells w.heap.size 0 (asV .uuid cs).cells.toList = (w.alloc (.cells z.toArray ty)).setCells w.heap.size 0 cs := by simp [asV, Value.cells]
  rw [ew]
  have hl2 : Loc N L (upd ρ x (.pointer (some ⟨w.heap.size, 0, none⟩))) (wr (wr (wr (wr (wr a t (rd a vs)) (t + 1) (.pointer (some ⟨pb, po, none⟩))) (t + 2) (.pointer (some ⟨pb, po + off, none⟩))) (t + 3) (asV .uuid cs)) x (.pointer (some ⟨w.heap.size, 0, none⟩))) :=
    Loc.set ((((hl.tmp _ (by omega) (by omega)).tmp _ (by omega) (by omega)).tmp _ (by omega) (by omega)).tmp _ (by omega) (by omega)) _ (by omega)
  generalize (wr (wr (wr (wr (wr a t (rd a vs)) (t + 1) (.pointer (some ⟨pb, po, none⟩))) (t + 2) (.pointer (some ⟨pb, po + off, none⟩))) (t + 3) (asV .uuid cs)) x (.pointer (some ⟨w.heap.size, 0, none⟩))) = a2 at hl2 ⊢
  generalize (w.alloc (.cells z.toArray ty)).setCells w.heap.size 0 cs = w2 at hbw hsw hrg ⊢
  have hsz2 := hl2.size
  have ho2 : OwnB I.tU8 w2 B (ρ 1) bs := ho.keep hbw
  refine MW.rg (ML.mv (ML.ldRow (b := w.heap.size) (o := 0) (cs := cs) ?_ hrow (by rw [hlen]; exact hcs) hrg (ML.ca (R := fun sv' w' => OwnB I.tU8 w' B sv' (bs ++ encP .uuid flex d) ∧ Below B w2 w') (ok.prim .uuid false hfn).1 ?_ ?_)))
  · simp (disch := (first | omega | (simp only [size_wr]; omega))) only [rd_same, rd_ne, MX.of]
    rw [hl2.get x (by omega), upd_same]
  · simp (disch := (first | omega | (simp only [size_wr]; omega))) only [rd_same, rd_ne, MX.of, List.map_cons, List.map_nil]
    rw [hl2.get 1 (by omega), upd_ne _ _ (by omega)]
    refine ((ok.prim .uuid false hfn).2 w2 B (ρ 1) (.agg cs.toArray) bs (encP .uuid flex d) (by omega) ho2 ⟨cs, d, rfl, RepP.mono hrep0 (fun _ h => h) (fun b h => hbw.block b (by omega)), by rw [hd]; simp only [smallP]; omega, ?_⟩ hlim).mono ?_
    · cases flex <;> rw [hd] <;> rfl
    · rintro e w' ⟨sv', rfl, h2⟩
      exact ⟨sv', rfl, h2⟩
  · rintro sv' w' ⟨h2, h3⟩
    refine ML.mv (ML.nil ?_)
    simp (disch := (first | omega | (simp only [size_wr]; omega))) only [rd_same, rd_ne, MX.of]
    refine hQ _ w' (upd (upd ρ x (.pointer (some ⟨w.heap.size, 0, none⟩))) 1 sv') (Loc.set (((hl2.tmp _ (by omega) (by omega)).tmp _ (by omega) (by omega)).tmp _ (by omega) (by omega)) _ (by omega)) ?_ ?_ ((hbw.mono hB).trans h3)
    · intro s hs h0 h5; rw [upd_ne _ _ h0, upd_ne _ _ (by omega)]
    · rw [upd_same]; exact h2

/-- An element that is read through a variable of its own. -/
theorem Writes.boxE {v xi x t ty ety ab i len cap : Nat} {ρ : Nat → Value} {w : World} {L : Nat} {cs : List Value} {d : D} (ok : AOK P I S) (hctx : Ctx sver sf ver flex xi ρ) (hs : sliceOf P ty ety = true)
    (hrow : rowTy P ety = true) (hcs : cellsB P ety 16 = true) (hz : zeroN P ety 16 = true) (hfn : I.fn .uuid false ≠ 0) (hρ : ρ v = .slice (some ⟨ab, 0, none⟩) len cap) (hi : ρ xi = .int .i64 (i : Nat)) (hil : i < len) (hvx : v < xi) (hxx : xi < x) (hL : x + 1 ≤ L) (ht : L ≤ t) (hN : t + 7 ≤ N)
    (hB : B ≤ w.heap.size) (hrep : RepP w (· < B) .uuid cs d) (hu1 : (Instr.loadAt ety (.pointer (some ⟨ab, i * 16, none⟩))).run P w = .ok (asV .uuid cs) w) :
    Writes P I.tU8 B N L (.sq (.rg [.mv t (.t v), .mv (t + 1) (.t xi), .ia (t + 2) ty t (t + 1), .ld (t + 3) ety (t + 2), .al x ety, .st ety x (t + 3)])
      (.rg [.mv (t + 4) (.t 1), .ld (t + 5) ety x, .ca (t + 6) (I.fn .uuid false) [.t (t + 4), .t (t + 5)], .mv 1 (.t (t + 6))])) ρ w x (x + 1) (encP .uuid flex d) := by
  intro a bs Q hl ho hlim hQ
  have hsz := hl.size
  have h1x := hctx.hx
  have hrep0 := hrep
  obtain ⟨l, hl16, hcl, hd⟩ := hrep
  have hlen : cs.length = 16 := by rw [hcl, List.length_map, hl16]
  obtain ⟨z, iz, hzs⟩ : ∃ z : List Value, (∃ i, P.info? ety = some i ∧ i.zero = some (.agg z.toArray)) ∧ z.length = 16 := by
    unfold zeroN at hz
    cases hi : P.info? ety with
    | none => simp [hi] at hz
    | some i =>
      simp only [hi] at hz
      cases hzv : i.zero with
      | none => simp [hzv] at hz
      | some v =>
        cases v <;> simp only [hzv, Bool.false_eq_true, Nat.beq_eq] at hz
        rename_i cs
        exact ⟨cs.toList, ⟨i, rfl, by rw [hzv]⟩, by simpa using hz⟩
  have hone : cs.all (·.oneCell') = true := by rw [hcl]; simp [byteV, Value.oneCell']
  have hth : (w.alloc (.cells z.toArray ety)).there w.heap.size 0 cs.length := by rw [hlen, ← hzs]; exact there_box w z ety
  have hbw : Below w.heap.size w ((w.alloc (.cells z.toArray ety)).setCells w.heap.size 0 cs) := below_setCells (Nat.le_refl _) _ _ (below_box w _)
  have hsw : ((w.alloc (.cells z.toArray ety)).setCells w.heap.size 0 cs).heap.size = w.heap.size + 1 := by rw [size_setCells, size_box]
  have hrg : ((w.alloc (.cells z.toArray ety)).setCells w.heap.size 0 cs).rangeAt w.heap.size 0 cs := World.rangeAt_setCells_same _ _ _ _ hth
  refine MW.sq (MW.rg (ML.mv (ML.mv (ML.ia (b := ab) (o := 0) (len := len) (cap := cap) (k := .i64) (j := i) (sz := 16) hs hcs ?_ ?_ hil (ML.ldBy (v := asV .uuid cs) ?_ (ML.al (z := .agg z.toArray) iz ?_))))))
  · simp (disch := (first | omega | (simp only [size_wr]; omega))) only [rd_same, rd_ne, MX.of]
    rw [hl.get v (by omega), hρ]
  · simp (disch := (first | omega | (simp only [size_wr]; omega))) only [rd_same, rd_ne, MX.of]
    rw [hl.get xi (by omega), hi]
  · simp (disch := (first | omega | (simp only [size_wr]; omega))) only [rd_same, rd_ne, MX.of]
    rw [Nat.zero_add]; exact hu1
  refine ML.st (b := w.heap.size) (o := 0) ?_ ?_ ?_ ?_ ?_
  · simp (disch := (first | omega | (simp only [size_wr]; omega))) only [rd_same, rd_ne, MX.of]
  · simp (disch := (first | omega | (simp only [size_wr]; omega))) only [rd_same, rd_ne, MX.of]
    simpa [asV, Value.cells, hlen] using hcs
  · simp (disch := (first | omega | (simp only [size_wr]; omega))) only [rd_same, rd_ne, MX.of]
    simpa [asV, Value.cells] using hth
  · simp (disch := (first | omega | (simp only [size_wr]; omega))) only [rd_same, rd_ne, MX.of]
    simpa [asV, Value.cells] using hone
  simp (disch := (first | omega | (simp only [size_wr]; omega))) only [rd_same, rd_ne, MX.of]
  refine ML.nil ?_
  show MW P _ Q _ _
  have ew : (w.alloc (.cells (Value.agg z.toArray).cells ety)).setCells w.heap.size 0 (asV .uuid cs).cells.toList = (w.alloc (.cells z.toArray ety)).setCells w.heap.size 0 cs := by simp [asV, Value.cells]
  rw [ew]
  have hl2 : Loc N L (upd ρ x (.pointer (some ⟨w.heap.size, 0, none⟩))) (wr (wr (wr (wr (wr a t (rd a v)) (t + 1) (rd a xi)) (t + 2) (.pointer (some ⟨ab, 0 + i * 16, none⟩))) (t + 3) (asV .uuid cs)) x (.pointer (some ⟨w.heap.size, 0, none⟩))) :=
    Loc.set ((((hl.tmp _ (by omega) (by omega)).tmp _ (by omega) (by omega)).tmp _ (by omega) (by omega)).tmp _ (by omega) (by omega)) _ (by omega)
  generalize (wr (wr (wr (wr (wr a t (rd a v)) (t + 1) (rd a xi)) (t + 2) (.pointer (some ⟨ab, 0 + i * 16, none⟩))) (t + 3) (asV .uuid cs)) x (.pointer (some ⟨w.heap.size, 0, none⟩))) = a2 at hl2 ⊢
  generalize (w.alloc (.cells z.toArray ety)).setCells w.heap.size 0 cs = w2 at hbw hsw hrg ⊢
  have hsz2 := hl2.size
  have ho2 : OwnB I.tU8 w2 B (ρ 1) bs := ho.keep hbw
  refine MW.rg (ML.mv (ML.ldRow (b := w.heap.size) (o := 0) (cs := cs) ?_ hrow (by rw [hlen]; exact hcs) hrg (ML.ca (R := fun sv' w' => OwnB I.tU8 w' B sv' (bs ++ encP .uuid flex d) ∧ Below B w2 w') (ok.prim .uuid false hfn).1 ?_ ?_)))
  · simp (disch := (first | omega | (simp only [size_wr]; omega))) only [rd_same, rd_ne, MX.of]
    rw [hl2.get x (by omega), upd_same]
  · simp (disch := (first | omega | (simp only [size_wr]; omega))) only [rd_same, rd_ne, MX.of, List.map_cons, List.map_nil]
    rw [hl2.get 1 (by omega), upd_ne _ _ (by omega)]
    refine ((ok.prim .uuid false hfn).2 w2 B (ρ 1) (.agg cs.toArray) bs (encP .uuid flex d) (by omega) ho2 ⟨cs, d, rfl, RepP.mono hrep0 (fun _ h => h) (fun b h => hbw.block b (by omega)), by rw [hd]; simp only [smallP]; omega, ?_⟩ hlim).mono ?_
    · cases flex <;> rw [hd] <;> rfl
    · rintro e w' ⟨sv', rfl, h2⟩
      exact ⟨sv', rfl, h2⟩
  · rintro sv' w' ⟨h2, h3⟩
    refine ML.mv (ML.nil ?_)
    simp (disch := (first | omega | (simp only [size_wr]; omega))) only [rd_same, rd_ne, MX.of]
    refine hQ _ w' (upd (upd ρ x (.pointer (some ⟨w.heap.size, 0, none⟩))) 1 sv') (Loc.set (((hl2.tmp _ (by omega) (by omega)).tmp _ (by omega) (by omega)).tmp _ (by omega) (by omega)) _ (by omega)) ?_ ?_ ((hbw.mono hB).trans h3)
    · intro s hs h0 h5; rw [upd_ne _ _ h0, upd_ne _ _ (by omega)]
    · rw [upd_same]; exact h2

theorem ML.neNilP {ms : List MOp} {Q : Exit → Act → World → Prop} {a : Act} {w : World} {d ty e : Nat} {x : Nat} {p : Option Addr} (hs : ptrOf P ty e = true) (hx : rd a x = .pointer p) (h : ML P ms Q (wr a d (.bool p.isSome)) w) : ML P (.bi d .neq ty (.t x) (.c .nptr) :: ms) Q a w := by
  refine ML.bi (fun ox oy _ _ => ?_) ?_ h
  · simp only [MX.of, hx, MVal.val]; unfold eqGuard; rfl
  · simp only [MX.of, hx, MVal.val]
    have h : ∀ d : Nat, (Op.equalIn (d + 1) ty (.pointer p) (.pointer none)).run P w = .ok p.isNone w := fun d => by
      cases p <;> simp [Op.equalIn, run_underlying (ptrOf_eq hs)]
    simp only [binOp]
    simp [Op.equal, Op.maxDepth, h 9999]

theorem ldStr_ok {N L : Nat} {w : World} {Q : Exit → Act → World → Prop} {ρ : Nat → Value} {a : Act} {b x y t base : Nat} {s : ByteArray} (hl : Loc N L ρ a) (hx : ρ x = .pointer (some ⟨b, 0, none⟩)) (w3 : plainTy P base = true) (hcl : w.cell? ⟨b, 0, none⟩ = some (.string s))
    (hxL : x < L) (hyL : y < L) (ht : L ≤ t) (hN : t + 2 < N) (hQ : ∀ a', Loc N L (upd ρ y (.string s)) a' → Q .normal a' w) : MW P (.rg [.mv t (.t x), .nc (t + 1) t, .ld (t + 2) base (t + 1), .mv y (.t (t + 2))]) Q a w := by
  have hsz := hl.size
  have hv : (MX.t x).of a = .pointer (some ⟨b, 0, none⟩) := (hl.get x hxL).trans hx
  refine MW.rg (ML.mv ?_)
  rw [hv]
  have h1 := hl.tmp (.pointer (some ⟨b, 0, none⟩)) ht (by omega)
  refine ML.nc (p := ⟨b, 0, none⟩) (rd_same (by omega)) ?_
  have h2 := h1.tmp (.pointer (some ⟨b, 0, none⟩)) (show L ≤ t + 1 by omega) (by omega)
  refine ML.ld (p := ⟨b, 0, none⟩) (rd_same (by simp only [size_wr]; omega)) w3 hcl ?_
  have h3 := h2.tmp (.string s) (show L ≤ t + 2 by omega) (by omega)
  have hs3 := h3.size
  generalize wr (wr a t (.pointer (some ⟨b, 0, none⟩))) (t + 1) (.pointer (some ⟨b, 0, none⟩)) = z at h3 hs3 ⊢
  have hs4 : t + 2 < z.tmps.size := by simp only [size_wr] at hs3; omega
  refine ML.mv ?_
  rw [show (MX.t (t + 2)).of (wr z (t + 2) (.string s)) = .string s from rd_same hs4]
  exact ML.nil (hQ _ (h3.set (d := y) (.string s) (by omega)))

/-- A text that may be null from a version on. -/
theorem Writes.vstrIn {lim ty base t x : Nat} {ρ : Nat → Value} {w : World} {L : Nat} {cs : List Value} {d : D} (ok : AOK P I S) (hctx : Ctx sver sf ver flex (x + 1) ρ) (hxL : x + 3 ≤ L) (ht : L ≤ t) (hN : (vstrA I sver sf lim ty base x t).2 ≤ N) (hB : B ≤ w.heap.size)
    (w2 : ptrOf P ty base = true) (w3 : plainTy P base = true) (w4 : fnOk I sf .str = true) (w5 : fnOk I sf .nstr = true) (hx : ρ x = asV .nstr cs) (hr : RepP w (· < B) .nstr cs d) (hs : smallP d) :
    Writes P I.tU8 B N L (vstrA I sver sf lim ty base x t).1 ρ w (x + 1) (x + 3) (encP (vK lim ver) flex (vD lim ver d)) := by
  have g1 := @primA_le I sf .str (x + 2) (t + 8)
  have g2 := @primA_le I sf .nstr x (Kx.primA I sf .str (x + 2) (t + 8)).2
  have hN' : (Kx.primA I sf .nstr x (Kx.primA I sf .str (x + 2) (t + 8)).2).2 ≤ N := hN
  have hx1 := hctx.hx
  have hvx := hctx.vx
  intro a bs Q hl ho hlim hQ
  have hsz := hl.size
  unfold vstrA
  refine MW.sq (MW.rg (ML.mv (ML.biInt (k := .i16) (m := ver) (n := lim) (v := .bool (decide (ver < (lim : Int)))) ?_ rfl (run_cmp_lss _ _ _ _) (ML.nil ?_))))
  · simp (disch := (first | omega | (simp only [size_wr]; omega))) only [rd_same, rd_ne, MX.of]
    rw [hl.get sver (by omega), hctx.ver]
  have hl' := (hl.tmp ((MX.t sver).of a) ht (by omega)).tmp (.bool (decide (ver < (lim : Int)))) (show L ≤ t + 1 by omega) (by omega)
  refine MW.cd (b := decide (ver < (lim : Int))) (rd_same (by simp only [size_wr]; omega)) (fun e => ?_) (fun e => ?_)
  · have e' : ver < (lim : Int) := of_decide_eq_true e
    obtain ⟨s, hd, hcs⟩ : ∃ s : ByteArray, vD lim ver d = .s (some s.data.toList) ∧ ((cs = [.pointer none] ∧ s = ⟨#[]⟩) ∨ ∃ b, cs = [.pointer (some ⟨b, 0, none⟩)] ∧ w.cell? ⟨b, 0, none⟩ = some (.string s)) := by
      unfold vD
      rw [if_pos e']
      rcases hr with ⟨h1, rfl⟩ | ⟨b, s, h1, _, h3, rfl⟩
      · exact ⟨⟨#[]⟩, rfl, .inl ⟨h1, rfl⟩⟩
      · exact ⟨s, rfl, .inr ⟨b, h1, h3⟩⟩
    have hsm : smallP (.s (some s.data.toList)) := by
      have : smallP (vD lim ver d) := by
        unfold vD
        rw [if_pos e']
        split
        · exact hs
        · exact Nat.zero_le _
      rwa [hd] at this
    have hk : vK lim ver = .str := by unfold vK; rw [if_pos e']
    rw [hk, hd] at hlim hQ
    have fin : ∀ (a2 : Act) (ρ2 : Nat → Value), Loc N L ρ2 a2 → ρ2 (x + 1) = .string s → (∀ s', s' ≠ x + 1 → ρ2 s' = ρ s') →
        MW P (.sq (.rg [.mv (t + 7) (.t (x + 1)), .mv (x + 2) (.t (t + 7))]) (Kx.primA I sf .str (x + 2) (t + 8)).1) Q a2 w := by
      intro a2 ρ2 h2 h3 h4
      have hsz2 := h2.size
      refine MW.sq (MW.rg (ML.mv (ML.mv (ML.nil ?_))))
      have hv : (MX.t (x + 1)).of a2 = .string s := by show rd a2 (x + 1) = _; rw [h2.get _ (by omega), h3]
      have hv2 : (MX.t (t + 7)).of (wr a2 (t + 7) (.string s)) = .string s := by show rd _ _ = _; exact rd_same (by omega)
      rw [hv, hv2]
      have h5 := (h2.tmp (.string s) (show L ≤ t + 7 by omega) (by omega)).set (d := x + 2) (.string s) (by omega)
      have hk1 : Keep L (x + 1) (x + 3) ρ (upd ρ2 (x + 2) (.string s)) := fun s' h1 h2' h3' => by rw [upd_ne _ _ (by omega), h4 s' (by omega)]
      have hctx3 : Ctx sver sf ver flex (x + 3) (upd ρ2 (x + 2) (.string s)) := (hctx.keep (L := L) (fun s' h1 h2' h3' => by
        rcases h3' with h3' | h3'
        · rw [upd_ne _ _ (by omega), h4 s' (by omega)]
        · exact hk1 s' h1 h2' (.inr h3')) (by omega) (by omega))
      refine Writes.primA ok hctx3 (x' := x + 3) (L := L) (v := x + 2) (k := .str) (t := t + 8) (d := .s (some s.data.toList)) (w := w) (cs := [.string s]) hxL (by omega) (by omega) (by omega) hB w4 (upd_same _ _ _) ⟨s, rfl, rfl⟩ hsm _ bs Q h5
        (by rw [upd_ne _ _ (by omega), h4 1 (by omega)]; exact ho) hlim ?_
      intro a' w' ρ' q1 q2 q3 q4
      exact hQ a' w' ρ' q1 (fun s' h1 h2' h3' => by rw [q2 s' h1 h2' (by omega)]; exact hk1 s' h1 h2' h3') q3 q4
    show MW P (.sq _ (.sq (.sq _ _) (.sq _ _))) Q _ w
    refine MW.sq (MW.rg (ML.mv (ML.nil ?_)))
    have hl1 := hl'.set (d := x + 1) (MVal.val .estr) (by omega)
    have hs1 := hl1.size
    rcases hcs with ⟨hcs, hse⟩ | ⟨b, hcs, hcl⟩
    · refine MW.sq (MW.sq (MW.rg (ML.mv (ML.neNilP (p := none) w2 ?_ (ML.nil ?_)))))
      · rw [rd_same (by simp only [size_wr]; omega)]
        exact (hl1.get x (by omega)).trans (by rw [upd_ne _ _ (by omega), hx, hcs]; rfl)
      · have hl2 := (hl1.tmp ((MX.t x).of (wr (wr (wr a t ((MX.t sver).of a)) (t + 1) (.bool (decide (ver < (lim : Int))))) (x + 1) (MVal.val .estr))) (show L ≤ t + 2 by omega) (by omega)).tmp (.bool false) (show L ≤ t + 3 by omega) (by omega)
        refine MW.cd (b := false) (rd_same (by simp only [size_wr]; omega)) (fun e => by cases e) (fun _ => MW.sk ?_)
        exact fin _ _ hl2 (by rw [upd_same, hse]; rfl) (fun s' h => upd_ne _ _ h)
    · refine MW.sq (MW.sq (MW.rg (ML.mv (ML.neNilP (p := some ⟨b, 0, none⟩) w2 ?_ (ML.nil ?_)))))
      · rw [rd_same (by simp only [size_wr]; omega)]
        exact (hl1.get x (by omega)).trans (by rw [upd_ne _ _ (by omega), hx, hcs]; rfl)
      · have hl2 := (hl1.tmp ((MX.t x).of (wr (wr (wr a t ((MX.t sver).of a)) (t + 1) (.bool (decide (ver < (lim : Int))))) (x + 1) (MVal.val .estr))) (show L ≤ t + 2 by omega) (by omega)).tmp (.bool true) (show L ≤ t + 3 by omega) (by omega)
        have hs2 := hl2.size
        refine MW.cd (b := true) (rd_same (by simp only [size_wr]; omega)) (fun _ => ?_) (fun e => by cases e)
        exact ldStr_ok hl2 (by rw [upd_ne _ _ (by omega), hx, hcs]; rfl) w3 hcl (by omega) (by omega) (by omega) (by omega) fun a4 h4 => fin a4 _ h4 (upd_same _ _ _) (fun s' h => by rw [upd_ne _ _ h, upd_ne _ _ h])
  · have e' : ¬ ver < (lim : Int) := of_decide_eq_false e
    have hk : vK lim ver = .nstr := by unfold vK; rw [if_neg e']
    have hd : vD lim ver d = d := by unfold vD; rw [if_neg e']
    rw [hk, hd] at hlim hQ
    refine Writes.primA ok hctx (x' := x + 1) (L := L) (v := x) (k := .nstr) (t := (Kx.primA I sf .str (x + 2) (t + 8)).2) (w := w) (by omega) (by omega) (by omega) hN' hB w5 hx hr hs _ bs Q hl' ho hlim ?_
    intro a' w' ρ' q1 q2 q3 q4
    exact hQ a' w' ρ' q1 (fun s' h1 h2' h3' => q2 s' h1 h2' (by omega)) q3 q4

mutual
theorem genE_ok (ok : AOK P I S) {ty ety : Nat} : ∀ (el : Ty) {ρ : Nat → Value} {w : World} {L v x t x' b ab i len cap : Nat} {arr : List Value} {d : D},
    wfE P I sf ety el = true → sliceOf P ty ety = true → Ctx sver sf ver flex x ρ → 1 < v → v < x → x' = x + 2 → (genE I sver sf ty ety el v x t x' b).2.2.1 ≤ L → L ≤ t → (genE I sver sf ty ety el v x t x' b).2.1 ≤ N →
    ρ v = .slice (some ⟨ab, 0, none⟩) len cap → ρ x = .int .i64 (i : Nat) → i < len → ab < B → B ≤ w.heap.size → w.rangeAt ab 0 arr →
    Rep w (· < B) el ((arr.drop (i * el.cells)).take el.cells) d → Sm S el d →
    WritesL P I.tU8 B N L (genE I sver sf ty ety el v x t x' b).1 ρ w (x + 1) (genE I sver sf ty ety el v x t x' b).2.2.1 (enc ver flex el d)
  | .prim k _, ρ, w, L, v, x, t, x', b, ab, i, len, cap, arr, d, hwf, hsl, hctx, hv1, hvx, hx', hL, ht, hN, hρ, hi, hil, hab, hB, hh, hrep, hsm => by
    subst hx'
    simp only [wfE, Bool.and_eq_true] at hwf
    obtain ⟨⟨⟨w1, w2⟩, w3⟩, w4⟩ := hwf
    simp only [Ty.cells] at hrep
    unfold Rep at hrep
    unfold Sm at hsm
    have hpl := @primA_le I sf k (x + 1) (t + 4)
    have hrg := rangeAt_sub (hh) (i * k.cells) k.cells
    rw [Nat.zero_add] at hrg
    have hu1 := load_prim w1 hrep hrg
    cases hbx : k.box with
    | true =>
      simp only [genE, hbx, if_true] at hL hN ⊢
      cases k <;> simp only [PK.box, Bool.false_eq_true] at hbx
      simp only [primTy, Bool.and_eq_true] at w1
      simp only [PK.box, Bool.not_true, Bool.false_or] at w4
      simp only [fnOk, Bool.and_eq_true] at w3
      refine .inl ⟨_, [], x + 2, (List.append_nil _).symm, Nat.le_succ _, Nat.le_refl _, ?_, fun _ _ _ _ => ⟨rfl, rfl⟩⟩
      unfold enc
      exact Writes.boxE ok hctx hsl w1.1 w1.2 w4 (ne0 w3.1) hρ hi hil hvx (Nat.lt_succ_self x) (by omega) ht hN hB hrep hu1
    | false =>
    simp only [genE, hbx, Bool.false_eq_true, if_false] at hL hN ⊢
    refine .inr ⟨_, by omega, by omega, Sets.elemLoad (by omega) (by omega) (by omega) ht (by omega) hsl w2 hρ hi hil hu1, ?_⟩
    have hctx' : Ctx sver sf ver flex (x + 1 + 1) (upd ρ (x + 1) (asV k ((arr.drop (i * k.cells)).take k.cells))) := (hctx.le (Nat.le_succ x)).upd
    refine .inl ⟨_, [], x + 2, (List.append_nil _).symm, Nat.le_refl _, Nat.le_refl _, ?_, fun _ _ _ _ => ⟨rfl, rfl⟩⟩
    unfold enc
    exact Writes.primA ok hctx' (by omega) (by omega) (by omega) hN hB w3 (upd_same _ _ _) hrep hsm
  | .struct T n df tg fs, ρ, w, L, v, x, t, x', b, ab, i, len, cap, arr, d, hwf, hsl, hctx, hv1, hvx, hx', hL, ht, hN, hρ, hi, hil, hab, hB, hh, hrep, hsm => by
    subst hx'
    simp only [wfE, Bool.and_eq_true] at hwf
    obtain ⟨⟨w1, w2⟩, w3⟩ := hwf
    simp only [genE] at hL hN ⊢
    simp only [Ty.cells] at hrep
    unfold Rep at hrep
    obtain ⟨ds, tags, rfl, hcn, hrf, htg⟩ := hrep
    unfold Sm at hsm
    obtain ⟨hs1, hs2⟩ := hsm
    have hle := @genF_le I sver sf T (x + 1) fs (t + 3) (x + 2) b
    have hle2 := @tagsA_le I sf T (x + 1) tg (genF I sver sf T (x + 1) fs (t + 3) (x + 2) b).2.1
    have hrg := rangeAt_sub (hh) (i * n) n
    rw [Nat.zero_add] at hrg
    refine .inr ⟨_, by omega, by omega, Sets.elemAddr (by omega) (by omega) (by omega) ht (by omega) hsl w1 hρ hi hil, ?_⟩
    have hctx' : Ctx sver sf ver flex (x + 1 + 1) (upd ρ (x + 1) (.pointer (some ⟨ab, i * n, none⟩))) := (hctx.le (Nat.le_succ x)).upd
    unfold enc
    refine WritesL.append (y := (genF I sver sf T (x + 1) fs (t + 3) (x + 2) b).2.2.1)
      (genF_ok ok fs w2 hctx' (by omega) (by omega) hL (by omega) (by omega) (upd_same _ _ _) hab hB hrg hrf hs1) (Nat.le_refl _) ?_
    intro ρ' w' hk hb
    exact tags_of ok (hctx'.keep hk (by omega) hle.2) hL (by omega) (by omega) (by omega) hN (by rw [hk _ (by omega) (by omega) (.inl (by omega)), upd_same]) hab (Nat.le_trans hB hb.size) w3
      (fun j u hu => by rw [cell_of_heap (hb.block ab hab)]; exact hrg j u hu)
      (htg.mono (fun _ h => h) (fun b h => hb.block b h)) hs2
  | .enum .., ρ, w, L, v, x, t, x', b, ab, i, len, cap, arr, d, hwf, hsl, hctx, hv1, hvx, hx', hL, ht, hN, hρ, hi, hil, hab, hB, hh, hrep, hsm => by simp [wfE] at hwf
  | .vstr .., ρ, w, L, v, x, t, x', b, ab, i, len, cap, arr, d, hwf, hsl, hctx, hv1, hvx, hx', hL, ht, hN, hρ, hi, hil, hab, hB, hh, hrep, hsm => by simp [wfE] at hwf
  | .arr .., ρ, w, L, v, x, t, x', b, ab, i, len, cap, arr, d, hwf, hsl, hctx, hv1, hvx, hx', hL, ht, hN, hρ, hi, hil, hab, hB, hh, hrep, hsm => by simp [wfE] at hwf
theorem genF_ok (ok : AOK P I S) {T vs : Nat} : ∀ (fs : Flds) {ρ : Nat → Value} {w : World} {L t x b pb po : Nat} {cs : List Value} {ds : List D},
    wfF P I sf T fs = true → Ctx sver sf ver flex x ρ → vs ≠ 1 → vs < x → (genF I sver sf T vs fs t x b).2.2.1 ≤ L → L ≤ t → (genF I sver sf T vs fs t x b).2.1 ≤ N →
    ρ vs = .pointer (some ⟨pb, po, none⟩) → pb < B → B ≤ w.heap.size → w.rangeAt pb po cs → RepF w (· < B) fs cs ds → SmF S fs ds →
    WritesL P I.tU8 B N L (genF I sver sf T vs fs t x b).1 ρ w x (genF I sver sf T vs fs t x b).2.2.1 (encF ver flex fs ds)
  | .nil, ρ, w, L, t, x, b, pb, po, cs, ds, hwf, hctx, hv1, hvx, hL, ht, hN, hp, hpb, hB, hc, hrep, hsm => by
    simp only [genF]
    unfold encF
    exact ⟨rfl, rfl⟩
  | .cons c idx off df ty rest, ρ, w, L, t, x, b, pb, po, cs, ds, hwf, hctx, hv1, hvx, hL, ht, hN, hp, hpb, hB, hc, hrep, hsm => by
    simp only [wfF, Bool.and_eq_true] at hwf
    obtain ⟨⟨w1, w2⟩, w3⟩ := hwf
    unfold RepF at hrep
    obtain ⟨h0, d, ds', rfl, hr1, hr2⟩ := hrep
    unfold SmF at hsm
    simp only [List.headD_cons, List.tail_cons] at hsm
    obtain ⟨s1, s2⟩ := hsm
    simp only [genF] at hL hN ⊢
    unfold encF
    simp only [List.headD_cons, List.tail_cons]
    have hfx : ∀ t', (genFld I sver sf T vs idx ty t' x b).2.2.1 = (genFld I sver sf T vs idx ty t x b).2.2.1 := fun t' => genFld_x ty
    have hcx : (condA I sver c t (fun t => genFld I sver sf T vs idx ty t x b)).2.2.1 = (genFld I sver sf T vs idx ty t x b).2.2.1 := condA_x hfx
    have hfl := @genFld_le I sver sf T vs idx ty t x b
    have hct : t ≤ (condA I sver c t (fun t => genFld I sver sf T vs idx ty t x b)).2.1 := condA_le (fun t => (@genFld_le I sver sf T vs idx ty t x b).1)
    have hrl := @genF_le I sver sf T vs rest (condA I sver c t (fun t => genFld I sver sf T vs idx ty t x b)).2.1 (condA I sver c t (fun t => genFld I sver sf T vs idx ty t x b)).2.2.1 (condA I sver c t (fun t => genFld I sver sf T vs idx ty t x b)).2.2.2
    refine .inl ⟨_, _, (condA I sver c t (fun t => genFld I sver sf T vs idx ty t x b)).2.2.1, rfl, by omega, hrl.2, ?_, ?_⟩
    · rw [hcx]
      refine Writes.condA (by have := hctx.vx; omega) hctx.ver ht hfx hfl.2 (fun t => (@genFld_le I sver sf T vs idx ty t x b).1) (by omega) ?_
      intro _ t' ht' hN'
      rw [← hfx t']
      exact genFld_ok ok ty w1 w2 hctx hv1 hvx (by rw [hfx t']; omega) ht' hN' hp hpb hB (rangeAt_sub hc off ty.cells) hr1 s1
    · intro ρ' w' hk hb
      exact genF_ok ok rest w3 (hctx.keep hk (by omega) (by omega)) hv1 (by omega) hL (by omega) hN
        (by rw [hk _ (by omega) (by omega) (.inl hvx)]; exact hp) hpb (Nat.le_trans hB hb.size)
        (fun j u hu => by rw [cell_of_heap (hb.block pb hpb)]; exact hc j u hu) (RepF.mono (fun _ h => h) (fun b h => hb.block b h) rest hr2) s2
theorem genFld_ok (ok : AOK P I S) {T vs idx off : Nat} : ∀ (ty : Ty) {ρ : Nat → Value} {w : World} {L t x b pb po : Nat} {cs : List Value} {d : D},
    fieldAtB P T idx off = true → wfFld P I sf ty = true → Ctx sver sf ver flex x ρ → vs ≠ 1 → vs < x → (genFld I sver sf T vs idx ty t x b).2.2.1 ≤ L → L ≤ t → (genFld I sver sf T vs idx ty t x b).2.1 ≤ N →
    ρ vs = .pointer (some ⟨pb, po, none⟩) → pb < B → B ≤ w.heap.size → w.rangeAt pb (po + off) cs → Rep w (· < B) ty cs d → Sm S ty d →
    Writes P I.tU8 B N L (genFld I sver sf T vs idx ty t x b).1 ρ w x (genFld I sver sf T vs idx ty t x b).2.2.1 (enc ver flex ty d)
  | .prim k ty, ρ, w, L, t, x, b, pb, po, cs, d, hf, hwf, hctx, hv1, hvx, hL, ht, hN, hp, hpb, hB, hc, hrep, hsm => by
    simp only [wfFld, Bool.and_eq_true] at hwf
    obtain ⟨⟨w1, w2⟩, w3⟩ := hwf
    simp only [genFld] at hL hN ⊢
    unfold Rep at hrep
    unfold Sm at hsm
    unfold enc
    have hpl := @primA_le I sf k x (t + 4)
    have hu1 := load_prim w1 hrep hc
    unfold primFldA at hN ⊢
    cases hbx : k.box with
    | true =>
      rw [hbx] at hN w3
      simp only [if_true] at hN ⊢
      cases k <;> simp only [PK.box, Bool.false_eq_true] at hbx
      simp only [primTy, Bool.and_eq_true] at w1
      simp only [Bool.not_true, Bool.false_or] at w3
      simp only [fnOk, Bool.and_eq_true] at w2
      exact Writes.box (hf := hf) (hctx := hctx) (ok := ok) w1.1 w1.2 w3 (ne0 w2.1) hp hvx hL ht hN hB hrep hu1
    | false =>
    rw [hbx] at hN
    simp only [Bool.false_eq_true, if_false, Kx.loadA] at hN ⊢
    refine Sets.then (Sets.loadA hp (by omega) (by omega) ht (by omega) hf hu1) (by have := hctx.hx; omega) ?_ (Nat.le_refl _)
    exact Writes.primA ok hctx.upd hL (by omega) (by omega) hN hB w2 (upd_same _ _ _) hrep hsm
  | .enum k ty base, ρ, w, L, t, x, b, pb, po, cs, d, hf, hwf, hctx, hv1, hvx, hL, ht, hN, hp, hpb, hB, hc, hrep, hsm => by
    simp only [wfFld, Bool.and_eq_true] at hwf
    obtain ⟨⟨w1, w2⟩, w3⟩ := hwf
    simp only [genFld, Kx.loadA] at hL hN ⊢
    unfold Rep at hrep
    unfold Sm at hsm
    unfold enc
    cases hk : k.kind with
    | none => simp [hk] at w1
    | some kk =>
      simp only [hk, Bool.and_eq_true] at w1
      obtain ⟨n, hcs, hwr⟩ := hrep.int hk
      have hnt : k.two = false := by cases k <;> simp [PK.kind] at hk <;> rfl
      have hu1 : (Instr.loadAt ty (.pointer (some ⟨pb, po + off, none⟩))).run P w = .ok (.int kk n) w := run_loadAt_one w2 (by have := hc 0 (.int kk n) (by rw [hcs]; rfl); simpa using this)
      simp only [Kx.callA] at hN
      have h1x := hctx.hx
      refine Sets.then (Sets.loadA hp (by omega) (by omega) ht (by omega) hf hu1) (by omega) ?_ (by omega)
      refine Sets.then (Sets.conv (by omega) (by omega) (by omega) (by omega) (upd_same _ _ _)) (by omega) ?_ (Nat.le_refl _)
      rw [encP_two hnt]
      exact Writes.callA (ok.prim k false (ne0 w3)) hB (by omega) (by omega) (by omega) (by omega) ⟨cs, d, by rw [upd_same, hcs]; cases k <;> simp [PK.kind] at hk <;> rfl, hrep, hsm, rfl⟩
  | .vstr lim ty base, ρ, w, L, t, x, b, pb, po, cs, d, hf, hwf, hctx, hv1, hvx, hL, ht, hN, hp, hpb, hB, hc, hrep, hsm => by
    simp only [wfFld, Bool.and_eq_true] at hwf
    obtain ⟨⟨⟨⟨w1, w2⟩, w3⟩, w4⟩, w5⟩ := hwf
    simp only [genFld, Kx.loadA] at hL hN ⊢
    unfold Rep at hrep
    unfold Sm at hsm
    unfold enc
    have hle := @vstrA_le I sver sf lim ty base x (t + 4)
    have hu1 : (Instr.loadAt ty (.pointer (some ⟨pb, po + off, none⟩))).run P w = .ok (asV .nstr cs) w := load_prim (k := .nstr) w1 hrep hc
    refine Sets.then (Sets.loadA hp (by omega) (by omega) ht (by omega) hf hu1) (by have := hctx.hx; omega) ?_ (by omega)
    exact Writes.vstrIn ok hctx.upd (by omega) (by omega) hN hB w2 w3 w4 w5 (upd_same _ _ _) hrep hsm
  | .arr nul ty ety el, ρ, w, L, t, x, b, pb, po, cs, d, hf, hwf, hctx, hv1, hvx, hL, ht, hN, hp, hpb, hB, hc, hrep, hsm => by
    simp only [wfFld, Bool.and_eq_true] at hwf
    obtain ⟨⟨⟨⟨w1, w2⟩, w3⟩, w4⟩, w5⟩ := hwf
    simp only [genFld] at hL hN ⊢
    unfold Rep at hrep
    obtain ⟨isnul, xs, rfl, hrep⟩ := hrep
    unfold Sm at hsm
    obtain ⟨s1, s2⟩ := hsm
    have hl2 : (Kx.loadA T vs idx ty x t).2 = t + 4 := rfl
    rw [hl2] at hL hN ⊢
    have h0 : t + 4 ≤ (Kx.alenA I sver sf nul ty x (t + 4)).2 := alenA_le
    have h1 := @genE_le I sver sf ty ety el x (x + 1) ((Kx.alenA I sver sf nul ty x (t + 4)).2 + 5) (x + 3) (b + 2)
    have hlx : (Kx.loopA I.tInt ty x (x + 1) (Kx.alenA I sver sf nul ty x (t + 4)).2 b (fun t' b' => genE I sver sf ty ety el x (x + 1) t' (x + 3) b')).2.2.1 = (genE I sver sf ty ety el x (x + 1) ((Kx.alenA I sver sf nul ty x (t + 4)).2 + 5) (x + 3) (b + 2)).2.2.1 := rfl
    have hlt : (Kx.loopA I.tInt ty x (x + 1) (Kx.alenA I sver sf nul ty x (t + 4)).2 b (fun t' b' => genE I sver sf ty ety el x (x + 1) t' (x + 3) b')).2.1 = (genE I sver sf ty ety el x (x + 1) ((Kx.alenA I sver sf nul ty x (t + 4)).2 + 5) (x + 3) (b + 2)).2.1 + 1 := rfl
    have hxx := hctx.hx
    -- the slice's value
    obtain ⟨p, cap, hcs, hpn, hel⟩ : ∃ p cap, cs = [.slice p xs.length cap] ∧ (isnul = (nul.isSome && p.isNone)) ∧
        (xs = [] ∨ ∃ (ab : Nat) (arr : List Value), p = some ⟨ab, 0, none⟩ ∧ ab < B ∧ w.rangeAt ab 0 arr ∧ ∀ i d, xs[i]? = some d → Rep w (· < B) el ((arr.drop (i * el.cells)).take el.cells) d) := by
      rcases hrep with ⟨k1, k2, k3⟩ | ⟨k1, ab, arr, cap, k2, k3, k4, k5, k6⟩
      · exact ⟨none, 0, by rw [k1, k2]; rfl, by simp [k3], .inl k2⟩
      · exact ⟨some ⟨ab, 0, none⟩, cap, k2, by simp [k1], .inr ⟨ab, arr, rfl, k3, k4, k6⟩⟩
    have hu1 : (Instr.loadAt ty (.pointer (some ⟨pb, po + off, none⟩))).run P w = .ok (.slice p xs.length cap) w := run_loadAt_one w1 (by have := hc 0 (.slice p xs.length cap) (by rw [hcs]; rfl); simpa using this)
    refine Sets.then (Sets.loadA hp (by omega) (by omega) ht (by omega) hf hu1) (by omega) ?_ (by omega)
    refine WritesL.rows (cs := [(Kx.alenA I sver sf nul ty x (t + 4)).1, (Kx.loopA I.tInt ty x (x + 1) (Kx.alenA I sver sf nul ty x (t + 4)).2 b (fun t' b' => genE I sver sf ty ety el x (x + 1) t' (x + 3) b')).1]) ?_
    have hctx1 : Ctx sver sf ver flex (x + 1) (upd ρ x (.slice p xs.length cap)) := hctx.upd
    have hlen : Writes P I.tU8 B N L (Kx.alenA I sver sf nul ty x (t + 4)).1 (upd ρ x (.slice p xs.length cap)) w (x + 1) (x + 1) (if nul.isSome && p.isNone && vNul nul ver then cntNull flex 4 else cnt flex 4 xs.length) :=
      Writes.alenA ok hctx1 (by omega) (by omega) (by omega) (by omega) (by omega) hB w5 w2 (upd_same _ _ _) s1
    have hout : enc ver flex (.arr nul ty ety el) (.l isnul xs) = (if nul.isSome && p.isNone && vNul nul ver then cntNull flex 4 else cnt flex 4 xs.length) ++ xs.flatMap (enc ver flex el) := by
      unfold enc
      rw [← hpn]
      cases hnn : isnul
      · simp
      · have : xs = [] := by
          rcases hel with h | ⟨ab, arr, h, _⟩
          · exact h
          · rw [hnn, h] at hpn; simp at hpn
        simp [this]
    rw [hout]
    refine .inl ⟨_, _, x + 1, rfl, Nat.le_refl _, by omega, hlen, ?_⟩
    intro ρ' w' hk hb
    have hv' : ρ' x = .slice p xs.length cap := by rw [hk _ (by omega) (by omega) (.inl (by omega)), upd_same]
    have hctx2 : Ctx sver sf ver flex (x + 1) ρ' := hctx1.keep hk (by omega) (Nat.le_refl _)
    refine .inl ⟨_, [], _, (List.append_nil _).symm, by omega, Nat.le_refl _, ?_, fun _ _ _ _ => ⟨rfl, rfl⟩⟩
    refine Writes.loopA (v := x) (x := x + 1) (t := (Kx.alenA I sver sf nul ty x (t + 4)).2) xs (enc ver flex el) (by omega) (by omega) (by omega) (by omega) (by omega) (by omega) (by omega) hN h1.1 w2 hv' rfl (by omega) ?_
    intro i d hd ρ2 w2' hk2 hb2 hi2
    rcases hel with h | ⟨ab, arr, hpe, hab, hh, hall⟩
    · rw [h] at hd; simp at hd
    · have hb' := hb.trans hb2
      have hblk : w2'.heap[ab]? = w.heap[ab]? := hb'.block ab hab
      refine genE_ok ok el (len := xs.length) (cap := cap) (ab := ab) (i := i) (arr := arr) w4 w2 ?_ (by omega) (by omega) rfl (by omega) (by omega) (by omega) ?_ hi2 ?_ hab (Nat.le_trans hB hb'.size) (fun j u hu => by rw [cell_of_heap hblk]; exact hh j u hu) ?_ (s2 d (List.mem_of_getElem? hd))
      · exact hctx2.keep0 hk2 (by omega)
      · rw [hk2 x (by omega) (by omega) (by omega), hv', hpe]
      · exact (List.getElem?_eq_some_iff.1 hd).1
      · exact Rep.mono (fun _ h => h) (fun b h => hb'.block b h) el (hall i d hd)
  | .struct T' n df tg fs, ρ, w, L, t, x, b, pb, po, cs, d, hf, hwf, hctx, hv1, hvx, hL, ht, hN, hp, hpb, hB, hc, hrep, hsm => by
    simp only [wfFld, Bool.and_eq_true] at hwf
    obtain ⟨w1, w2⟩ := hwf
    simp only [genFld] at hL hN ⊢
    unfold Rep at hrep
    obtain ⟨ds, tags, rfl, hcn, hrf, htg⟩ := hrep
    unfold Sm at hsm
    obtain ⟨s1, s2⟩ := hsm
    unfold enc
    have hle := @genF_le I sver sf T' x fs (t + 3) (x + 1) b
    have hle2 := @tagsA_le I sf T' x tg (genF I sver sf T' x fs (t + 3) (x + 1) b).2.1
    have hxx := hctx.hx
    refine WritesL.rows (.inr ⟨_, by omega, by omega, Sets.fldAddr hp (by omega) (by omega) ht (by omega) hf, ?_⟩)
    have hctx' : Ctx sver sf ver flex (x + 1) (upd ρ x (.pointer (some ⟨pb, po + off, none⟩))) := hctx.upd
    refine WritesL.append (y := (genF I sver sf T' x fs (t + 3) (x + 1) b).2.2.1)
      (genF_ok ok fs w1 hctx' (by omega) (by omega) hL (by omega) (by omega) (upd_same _ _ _) hpb hB hc hrf s1) (Nat.le_refl _) ?_
    intro ρ' w' hk hb
    exact tags_of ok (hctx'.keep hk (by omega) hle.2) hL (by omega) (by omega) (by omega) hN (by rw [hk _ (by omega) (by omega) (.inl (by omega)), upd_same]) hpb (Nat.le_trans hB hb.size) w2
      (fun j u hu => by rw [cell_of_heap (hb.block pb hpb)]; exact hc j u hu)
      (htg.mono (fun _ h => h) (fun b h => hb.block b h)) s2
end
end
end Go.Kx
namespace Go.Kx
open Go.RowKit
set_option linter.unusedSimpArgs false
set_option linter.unusedVariables false

/-- A message: its type, from which version on it is flexible, its tags' place, its fields. -/
structure Plan where
  T : Nat
  fl : Option Nat
  tg : Option (Nat × Nat)
  fs : Flds

def Plan.sf (p : Plan) : Option Nat := p.fl.map fun _ => 6
def Plan.x0 (p : Plan) : Nat := match p.fl with | none => 6 | some _ => 7
def Plan.flex (p : Plan) (ver : Int) : Bool := match p.fl with | none => false | some k => decide ((k : Int) ≤ ver)

/-- The head: the result's slot, the version, whether it is flexible. -/
def headA (I : IA) (p : Plan) (t : Nat) : List MCode × Nat :=
  let h := [MCode.rg [.mv 4 (.c .nslice)], (loadA p.T 0 0 I.tI16 5 t).1, .rg [.mv (t + 4) (.t 5)]]
  match p.fl with
  | none => (h, t + 5)
  | some k => (h ++ [.rg [.mv (t + 5) (.t 5), .bi (t + 6) .geq I.tI16 (.t (t + 5)) (.c (.int .i16 k)), .mv 6 (.t (t + 6))], .rg [.mv (t + 7) (.t 6)]], t + 8)

def bodyA (I : IA) (p : Plan) (L : Nat) : List MCode × Nat × Nat :=
  let h := headA I p L
  let f := genF I 5 p.sf p.T 0 p.fs h.2 p.x0 0
  let g := tagsA I p.sf p.T 0 p.tg f.2.1
  (f.1 ++ g.1, g.2, f.2.2.1)

def topA (I : IA) (p : Plan) (L : Nat) : MCode :=
  let b := bodyA I p L
  rows ((headA I p L).1 ++ (b.1 ++ [.rg [.mv b.2.1 (.t 1), .mv 4 (.t b.2.1)], .rt]))

/-- The plan and the function's frame fit. -/
def okTop (P : Program) (I : IA) (p : Plan) (L N : Nat) : Bool :=
  wfF P I p.sf p.T p.fs && wfT P I p.sf p.T p.tg && fieldAtB P p.T 0 0 && plainTy P I.tI16 && decide ((bodyA I p L).2.2 ≤ L) && decide ((bodyA I p L).2.1 + 1 ≤ N) && decide (7 ≤ L)

def encTop (p : Plan) (ver : Int) (ds : List D) (tags : List (Nat × List UInt8)) : List UInt8 :=
  encF ver (p.flex ver) p.fs ds ++ (if p.tg.isSome && p.flex ver then encTags tags else [])

/-- A message in memory at p: its version, its fields, its tags. -/
structure MsgAt (w : World) (F : Nat → Prop) (p : Plan) (a : Addr) (ver : Int) (ds : List D) (tags : List (Nat × List UInt8)) (cs : List Value) : Prop where
  spot : a.spot = none
  blk : F a.block
  at_ : w.rangeAt a.block a.off cs
  v0 : cs[0]? = some (.int .i16 ver)
  flds : RepF w F p.fs cs ds
  tgs : TagsAt w F p.tg cs tags

theorem MsgAt.mono {w w' : World} {F F' : Nat → Prop} {p : Plan} {a : Addr} {ver : Int} {ds : List D} {tags : List (Nat × List UInt8)} {cs : List Value} (h : MsgAt w F p a ver ds tags cs)
    (hF : ∀ b, F b → F' b) (hw : ∀ b, F b → w'.heap[b]? = w.heap[b]?) : MsgAt w' F' p a ver ds tags cs where
  spot := h.spot
  blk := hF _ h.blk
  at_ := fun j u hu => by
    have := h.at_ j u hu
    rwa [← cell_of_heap (w := w) (w' := w') (a := ⟨a.block, a.off + j, none⟩) (hw _ h.blk)] at this
  v0 := h.v0
  flds := RepF.mono hF hw _ h.flds
  tgs := h.tgs.mono hF hw

section
variable {P : Program} {I : IA} {S : List (Nat × List UInt8) → Prop}

/-- Statements behind statements that write. -/
theorem rows_append {U B N L : Nat} : ∀ {cs ds : List MCode} {ρ : Nat → Value} {w : World} {x x' : Nat} {out : List UInt8} {a : Act} {bs : List UInt8} {Q : Exit → Act → World → Prop}, ds ≠ [] → WritesL P U B N L cs ρ w x x' out →
    Loc N L ρ a → OwnB U w B (ρ 1) bs → bs.length + out.length ≤ lim →
    (∀ a' w' ρ', Loc N L ρ' a' → Keep L x x' ρ ρ' → OwnB U w' B (ρ' 1) (bs ++ out) → Below B w w' → MW P (rows ds) Q a' w') → MW P (rows (cs ++ ds)) Q a w
  | [], ds, ρ, w, x, x', out, a, bs, Q, hds, h, hl, ho, hlim, hQ => by
    obtain ⟨rfl, rfl⟩ := h
    exact hQ a w ρ hl (Keep.refl _ _ _ _) (by simpa using ho) (Below.refl _ _)
  | c :: cs, ds, ρ, w, x, x', out, a, bs, Q, hds, h, hl, ho, hlim, hQ => by
    have hne : ∃ d ds', cs ++ ds = d :: ds' := by
      cases cs with
      | nil => cases ds with
        | nil => exact absurd rfl hds
        | cons d ds' => exact ⟨d, ds', rfl⟩
      | cons d cs' => exact ⟨d, cs' ++ ds, rfl⟩
    obtain ⟨d, ds', hd⟩ := hne
    have hrow : rows (c :: cs ++ ds) = .sq c (rows (cs ++ ds)) := by
      rw [List.cons_append, hd]; rfl
    rw [hrow]
    rcases h with ⟨o1, o2, y, rfl, h1, h2, h3, h4⟩ | ⟨v, h1, h2, h3, h4⟩
    · simp only [List.length_append] at hlim
      refine MW.sq (h3 a bs _ hl ho (by omega) ?_)
      intro a' w' ρ' g1 g2 g3 g4
      refine rows_append hds (h4 ρ' w' g2 g4) g1 g3 (by simp only [List.length_append]; omega) ?_
      intro a'' w'' ρ'' k1 k2 k3 k4
      exact hQ a'' w'' ρ'' k1 (g2.trans k2 h1 h2) (by simpa using k3) (g4.trans k4)
    · refine MW.sq (h3 a _ hl ?_)
      intro a1 hl1
      refine rows_append hds h4 hl1 (by rw [upd_ne _ _ (Ne.symm h1)]; exact ho) hlim ?_
      intro a' w' ρ' g1 g2 g3 g4
      exact hQ a' w' ρ' g1 (fun s hs h0 h5 => by rw [g2 s hs h0 (by omega), upd_ne _ _ (by omega)]) g3 g4

theorem topA_calls {f : Nat} {fn : Func} {c : Code} {p : Plan} {L N : Nat} (ok : AOK P I S) (hf : P.funcs[f]? = some fn) (hb : fn.body = some c) (hfit : fits (topA I p L) c = true)
    (hres : fn.results = #[.tmp 4]) (hN : fn.ntmps = N) (hok : okTop P I p L N = true)
    {w : World} {B : Nat} {a : Addr} {ver : Int} {ds : List D} {tags : List (Nat × List UInt8)} {cs : List Value} {sv : Value} {bs : List UInt8}
    (hB : B ≤ w.heap.size) (hm : MsgAt w (· < B) p a ver ds tags cs) (hs1 : SmF S p.fs ds) (hs2 : S tags) (ho : OwnB I.tU8 w B sv bs) (hlim : bs.length + (encTop p ver ds tags).length ≤ lim) :
    Calls P f #[.pointer (some a), sv] w (fun e w' => ∃ sv', e = .returned sv' ∧ OwnB I.tU8 w' B sv' (bs ++ encTop p ver ds tags) ∧ Below B w w') := by
  obtain ⟨ab, ao, asp⟩ := a
  have hsp := hm.spot
  dsimp only at hsp
  subst hsp
  simp only [okTop, Bool.and_eq_true, decide_eq_true_eq] at hok
  obtain ⟨⟨⟨⟨⟨⟨w1, w2⟩, w3⟩, w4⟩, w5⟩, w6⟩, w7⟩ := hok
  refine calls_of_wp hf hb (?_ : Code.wp P c _ _ w)
  refine (?_ : MW P (topA I p L) _ _ w) c hfit
  generalize ha0 : ({ tmps := #[.pointer (some ⟨ab, ao, none⟩), sv] ++ Array.replicate (fn.ntmps - #[(.pointer (some ⟨ab, ao, none⟩) : Value), sv].size) undef, defers := [] } : Act) = a0
  -- the bounds
  have hLb : (headA I p L).2 ≤ L + 8 := by unfold headA; cases p.fl <;> simp
  have hLh : L + 5 ≤ (headA I p L).2 := by unfold headA; cases p.fl <;> simp
  have hgl := @genF_le I 5 p.sf p.T 0 p.fs (headA I p L).2 p.x0 0
  have hgt := @tagsA_le I p.sf p.T 0 p.tg (genF I 5 p.sf p.T 0 p.fs (headA I p L).2 p.x0 0).2.1
  have hbt : (bodyA I p L).2.1 = (tagsA I p.sf p.T 0 p.tg (genF I 5 p.sf p.T 0 p.fs (headA I p L).2 p.x0 0).2.1).2 := rfl
  have hbx : (bodyA I p L).2.2 = (genF I 5 p.sf p.T 0 p.fs (headA I p L).2 p.x0 0).2.2.1 := rfl
  rw [hbt] at w6
  rw [hbx] at w5
  have hsz0 : a0.tmps.size = N := by rw [← ha0]; simp; omega
  have hd0 : a0.defers = [] := by rw [← ha0]
  have hr0 : rd a0 0 = .pointer (some ⟨ab, ao, none⟩) := by rw [← ha0]; simp [rd, Array.getElem?_append]
  have hr1 : rd a0 1 = sv := by rw [← ha0]; simp [rd, Array.getElem?_append]
  have hl0 : Loc N L (rd a0) a0 := ⟨hsz0, hd0, fun _ _ => rfl⟩
  have hload : (Instr.loadAt I.tI16 (.pointer (some ⟨ab, ao + 0, none⟩))).run P w = .ok (.int .i16 ver) w := run_loadAt_one w4 (by have := hm.at_ 0 _ hm.v0; simpa using this)
  -- the head's statements, then the rest
  have finish : ∀ (ρ : Nat → Value) (a1 : Act), Loc N L ρ a1 → ρ 0 = .pointer (some ⟨ab, ao, none⟩) → ρ 1 = sv → Ctx 5 p.sf ver (p.flex ver) p.x0 ρ →
      MW P (rows ((bodyA I p L).1 ++ [.rg [.mv (bodyA I p L).2.1 (.t 1), .mv 4 (.t (bodyA I p L).2.1)], .rt])) (bodyPost P fn (fun e w' => ∃ sv', e = .returned sv' ∧ OwnB I.tU8 w' B sv' (bs ++ encTop p ver ds tags) ∧ Below B w w')) a1 w := by
    intro ρ a1 hl1 h0 h1 hctx
    have hx0 : 6 ≤ p.x0 := by unfold Plan.x0; split <;> omega
    have hwl : WritesL P I.tU8 B N L (bodyA I p L).1 ρ w p.x0 (genF I 5 p.sf p.T 0 p.fs (headA I p L).2 p.x0 0).2.2.1 (encTop p ver ds tags) := by
      refine WritesL.append (y := (genF I 5 p.sf p.T 0 p.fs (headA I p L).2 p.x0 0).2.2.1) (genF_ok ok p.fs w1 hctx (by omega) (by omega) w5 (by omega) (by omega) h0 hm.blk hB hm.at_ hm.flds hs1) (Nat.le_refl _) ?_
      intro ρ' w' hk hbl
      exact tags_of ok (hctx.keep hk (by omega) hgl.2) w5 (by omega) (by omega) (by omega) (by omega) (by rw [hk _ (by omega) (by omega) (.inl (by omega))]; exact h0) hm.blk (Nat.le_trans hB hbl.size) w2
        (fun j u hu => by rw [cell_of_heap (hbl.block ab hm.blk)]; exact hm.at_ j u hu)
        (hm.tgs.mono (fun _ h => h) (fun b h => hbl.block b h)) hs2
    refine rows_append (by simp) hwl hl1 (by rw [h1]; exact ho) hlim ?_
    intro a' w' ρ' g1 g2 g3 g4
    have hsz' := g1.size
    rw [hbt]
    refine MW.sq (MW.rg (ML.mv (ML.mv (ML.nil ?_))))
    simp (disch := (first | omega | (simp only [size_wr]; omega))) only [rd_same, rd_ne, MX.of]
    refine MW.rt ?_
    refine bodyPost_ret (v := ρ' 1) ?_ (by simpa using g1.defers) ⟨_, rfl, g3, g4⟩
    rw [results_tmp hres]
    congr 1
    show rd _ 4 = _
    rw [rd_same (by simp only [size_wr]; omega), g1.get 1 (by omega)]
  have hx0 : 6 ≤ p.x0 := by unfold Plan.x0; split <;> omega
  -- slot 4
  have hl1 : Loc N L (upd (rd a0) 4 (.slice none 0 0)) (wr a0 4 (.slice none 0 0)) := Loc.set hl0 _ (by omega)
  unfold topA headA
  generalize hb1 : bodyA I p L = bb at finish ⊢
  cases hfl : p.fl with
  | none =>
    simp only []
    refine MW.sq (MW.rg (ML.mv (ML.nil ?_)))
    refine MW.sq (Sets.loadA (ρ := upd (rd a0) 4 (.slice none 0 0)) (b := ab) (o := ao) (off := 0) (v := .int .i16 ver) ?_ (by omega) (by omega) (Nat.le_refl _) (by omega) w3 hload _ _ hl1 ?_)
    · rw [upd_ne _ _ (by omega)]; exact hr0
    intro a2 hl2
    obtain ⟨c0, cs0, hne⟩ : ∃ c0 cs0, bb.1 ++ [.rg [.mv bb.2.1 (.t 1), .mv 4 (.t bb.2.1)], .rt] = c0 :: cs0 := by
      cases bb.1 with
      | nil => exact ⟨_, _, rfl⟩
      | cons c0 cs0 => exact ⟨_, _, rfl⟩
    show MW P (rows (_ :: (bb.1 ++ _))) _ a2 w
    rw [hne] at finish ⊢
    refine MW.sq (MW.rg (ML.mv (ML.nil ?_)))
    refine finish _ _ (hl2.tmp _ (by omega) (by omega)) ?_ ?_ ?_
    · rw [upd_ne _ _ (by omega), upd_ne _ _ (by omega)]; exact hr0
    · rw [upd_ne _ _ (by omega), upd_ne _ _ (by omega)]; exact hr1
    · refine ⟨by omega, by omega, by omega, upd_same _ _ _, ?_, ?_⟩
      · intro s hs; simp [Plan.sf, hfl] at hs
      · intro _; simp [Plan.flex, hfl]
  | some k =>
    simp only []
    refine MW.sq (MW.rg (ML.mv (ML.nil ?_)))
    refine MW.sq (Sets.loadA (ρ := upd (rd a0) 4 (.slice none 0 0)) (b := ab) (o := ao) (off := 0) (v := .int .i16 ver) ?_ (by omega) (by omega) (Nat.le_refl _) (by omega) w3 hload _ _ hl1 ?_)
    · rw [upd_ne _ _ (by omega)]; exact hr0
    intro a2 hl2
    have hh8 : (headA I p L).2 = L + 8 := by unfold headA; rw [hfl]
    have hsz2 := hl2.size
    have hv2 : rd a2 5 = .int .i16 ver := by rw [hl2.get 5 (by omega), upd_same]
    refine MW.sq (MW.rg (ML.mv (ML.nil ?_)))
    have hl3 := hl2.tmp ((MX.t 5).of a2) (show L ≤ L + 4 by omega) (by omega)
    refine MW.sq (MW.rg (ML.mv (ML.biInt (k := .i16) (m := ver) (n := k) (v := .bool (decide ((k : Int) ≤ ver))) ?_ rfl (run_cmp_geq _ _ _ _) (ML.mv (ML.nil ?_)))))
    · simp (disch := (first | omega | (simp only [size_wr]; omega))) only [rd_same, rd_ne, MX.of]
      exact hv2
    simp (disch := (first | omega | (simp only [size_wr]; omega))) only [rd_same, rd_ne, MX.of]
    obtain ⟨c0, cs0, hne⟩ : ∃ c0 cs0, bb.1 ++ [.rg [.mv bb.2.1 (.t 1), .mv 4 (.t bb.2.1)], .rt] = c0 :: cs0 := by
      cases bb.1 with
      | nil => exact ⟨_, _, rfl⟩
      | cons c0 cs0 => exact ⟨_, _, rfl⟩
    show MW P (rows (_ :: (bb.1 ++ _))) _ _ w
    rw [hne] at finish ⊢
    refine MW.sq (MW.rg (ML.mv (ML.nil ?_)))
    have hl4 : Loc N L (upd (upd (upd (rd a0) 4 (.slice none 0 0)) 5 (.int .i16 ver)) 6 (.bool (decide ((k : Int) ≤ ver)))) (wr (wr (wr (wr a2 (L + 4) (rd a2 5)) (L + 5) (rd a2 5)) (L + 6) (.bool (decide ((k : Int) ≤ ver)))) 6 (.bool (decide ((k : Int) ≤ ver)))) :=
      Loc.set (((hl2.tmp _ (by omega) (by omega)).tmp _ (by omega) (by omega)).tmp _ (by omega) (by omega)) _ (by omega)
    refine finish _ _ (hl4.tmp _ (by omega) (by omega)) ?_ ?_ ?_
    · rw [upd_ne _ _ (by omega), upd_ne _ _ (by omega), upd_ne _ _ (by omega)]; exact hr0
    · rw [upd_ne _ _ (by omega), upd_ne _ _ (by omega), upd_ne _ _ (by omega)]; exact hr1
    · refine ⟨by omega, by omega, by omega, ?_, ?_, ?_⟩
      · rw [upd_ne _ _ (by omega), upd_same]
      · intro s hs
        simp only [Plan.sf, hfl, Option.map_some, Option.some.injEq] at hs
        subst hs
        refine ⟨by omega, ?_, ?_⟩
        · simp [Plan.x0, hfl]
        · rw [upd_same]; simp [Plan.flex, hfl]
      · intro hn; simp [Plan.sf, hfl] at hn
end
end Go.Kx
