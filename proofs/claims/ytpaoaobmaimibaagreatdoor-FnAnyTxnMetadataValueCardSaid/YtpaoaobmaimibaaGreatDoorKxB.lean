/- Statements that write: tags, tests of versions. The bound on what is written: fewer than 2^40 octets.
   The slots that the code of AppendTo takes rise. Plain facts on numbers.
   Functions whose frame is known whole: an evaluator of operations on numbers; making and appending small slices; entering and returning. No condition on the program beyond those named.
   Small slices that are made, and appended; a leaf's entry and return. No condition on the program beyond those named.
   kbin's functions that append a number: AppendInt8, Uint16, Int16, Uint32, Int32, Uint64, Int64, Bool. Each writes the number's octets, the highest first. Conditions: the program's tables (TOK), fewer than 2^40 octets.
   kbin's functions that append: the lengths, numbers in groups of seven bits, and what converts and calls. Conditions: the program's tables (TOK), fewer than 2^40 octets.
   kbin.UvarintLen and kbin.AppendUvarint: a number below 2^32 in groups of seven bits. Conditions: the program's tables (TOK), fewer than 2^40 octets. -/
import Derived.Test.YtpaoaobmaimibaaGreatDoorKxA
import Derived.Lib.AppendStr
import Derived.Laws.OwnMore
namespace Go.Kx
open Go.RowKit
set_option linter.unusedSimpArgs false
set_option linter.unusedVariables false
section
variable {P : Program} {Q : Exit → Act → World → Prop} {a : Act} {w : World}
theorem run_mv {d : Nat} {x : MX} {o : Oper} (h : fitOp (.mv d x) o.dst o.op = true) : o.dst = some d ∧ (execOp a.eval o).run P w = .ok (.value (x.of a)) w := by
  generalize hop : o.op = op at h
  unfold execOp
  cases op <;> simp only [fitOp, Bool.and_eq_true, Bool.false_eq_true] at h
  all_goals exact ⟨dstIs_eq h.1, by simp only [hop, MX.is_eval h.2 a]; rfl⟩
theorem run_biInt {d ty : Nat} {op : BinOp} {x y : MX} {k : IntKind} {m n : Int} {v : Value} {o : Oper} (h : fitOp (.bi d op ty x y) o.dst o.op = true)
    (hx : x.of a = .int k m) (hy : y.of a = .int k n) (hv : (binOp op ty (.int k m) (.int k n)).run P w = .ok v w) :
    o.dst = some d ∧ (execOp a.eval o).run P w = .ok (.value v) w := by
  generalize hop : o.op = op' at h
  unfold execOp
  cases op' <;> simp only [fitOp, Bool.and_eq_true, Bool.false_eq_true, Nat.beq_eq] at h
  obtain ⟨⟨⟨⟨⟨h1, h2⟩, h3⟩, h4⟩, h5⟩, _⟩ := h
  have h2' := sameOp_eq h2
  subst h2' h3
  exact ⟨dstIs_eq h1, by simp only [hop, MX.is_eval h4 a, MX.is_eval h5 a, hx, hy, Sem.run_bind, eqGuard_num, hv, Result.andThen_ok, Sem.run_pure]⟩
theorem wpList_value {ops : Array Oper} {o : Oper} {rest : List Oper} {d : Nat} {v : Value} (hw : Region.wanted o (yielded ops a.tmps) = true) (hd : o.dst = some d)
    (hr : (execOp a.eval o).run P w = .ok (.value v) w) (h : wpList P ops Q rest (wr a d v) w) : wpList P ops Q (o :: rest) a w := by
  unfold wpList
  rw [if_pos hw]
  refine .inl ?_
  unfold Oper.wp
  rw [hr, Oper.upon_value, hd]
  exact h
theorem wpList_passed {ops : Array Oper} {o : Oper} {rest : List Oper} {d : Nat} (hw : Region.wanted o (yielded ops a.tmps) = false) (hd : o.dst = some d)
    (h : wpList P ops Q rest (wr a d undef) w) : wpList P ops Q (o :: rest) a w := by
  unfold wpList
  rw [if_neg (by rw [hw]; exact Bool.false_ne_true), hd]
  exact h
theorem get_tmps {s : Nat} {v : Value} (h : rd a s = v) (hs : s < a.tmps.size) : a.tmps[s]? = some v := by
  unfold rd at h
  rw [Array.getElem?_eq_getElem hs]
  simp only [Array.getD, hs, dif_pos] at h
  rw [← h]; rfl
theorem MW.tw {N L s ty lo hi t : Nat} {ρ : Nat → Value} {v : Int} (hl : Loc N L ρ a) (hs : s < L) (hv : ρ s = .int .i16 v) (ht : L ≤ t) (hN : t + 6 ≤ N)
    (h : ∀ a', Loc N L ρ a' → rd a' (t + 5) = .bool (decide ((lo : Int) ≤ v) && decide (v ≤ hi)) → Q .normal a' w) : MW P (.tw s ty lo hi t) Q a w := by
  intro c hc
  cases c <;> try (simp only [fits, Bool.false_eq_true] at hc; done)
  rename_i id ops dr
  cases dr <;> simp only [fits, Bool.false_eq_true] at hc
  refine wp_region_list ?_
  obtain ⟨l⟩ := ops
  dsimp only at hc ⊢
  obtain ⟨o0, o1, o2, o3, o4, o5, rfl, h0', h1', h2', ⟨G3, h3⟩, ⟨G4, h4⟩, ⟨hg5, hd5, h5⟩⟩ := fitTw_inv hc
  clear hc
  have hsz := hl.size
  have hg : ∀ {m : MOp} {o : Oper}, fitOper m o = true → o.guard = none ∧ fitOp m o.dst o.op = true := by
    intro m o hh
    simpa only [fitOper, Bool.and_eq_true, Option.isNone_iff_eq_none] using hh
  obtain ⟨hg0, h0⟩ := hg h0'
  obtain ⟨hg1, h1⟩ := hg h1'
  obtain ⟨hg2, h2⟩ := hg h2'
  have e0 := fun a => @run_mv P a w _ _ o0 h0
  have W0 : ∀ y, Region.wanted o0 y = true := fun y => by simp [Region.wanted, hg0]
  have W1 : ∀ y, Region.wanted o1 y = true := fun y => by simp [Region.wanted, hg1]
  have W2 : ∀ y, Region.wanted o2 y = true := fun y => by simp [Region.wanted, hg2]
  have W5 : ∀ y, Region.wanted o5 y = true := fun y => by simp [Region.wanted, hg5]
  refine wpList_value (W0 _) (e0 a).1 (e0 a).2 ?_
  have v0 : (MX.t s).of a = .int .i16 v := by simp only [MX.of]; rw [hl.get s hs, hv]
  rw [v0]
  obtain ⟨d1, r1⟩ := @run_biInt P (wr a t (.int .i16 v)) w (t + 1) ty .geq (.t t) (.c (.int .i16 lo)) .i16 v lo _ o1 h1 (rd_same (by omega)) rfl (run_cmp_geq _ _ _ _)
  refine wpList_value (W1 _) d1 r1 ?_
  obtain ⟨d2, r2⟩ := @run_mv P (wr (wr a t (.int .i16 v)) (t + 1) (.bool (decide ((lo : Int) ≤ v)))) w _ _ o2 h2
  refine wpList_value (W2 _) d2 r2 ?_
  rw [show (MX.t (t + 1)).of (wr (wr a t (.int .i16 v)) (t + 1) (.bool (decide ((lo : Int) ≤ v)))) = .bool (decide ((lo : Int) ≤ v)) from rd_same (by simp only [size_wr]; omega)]
  generalize hA : wr (wr (wr a t (.int .i16 v)) (t + 1) (.bool (decide ((lo : Int) ≤ v)))) (t + 2) (.bool (decide ((lo : Int) ≤ v))) = A
  have hlA : Loc N L ρ A := by rw [← hA]; exact ((hl.tmp _ (by omega) (by omega)).tmp _ (by omega) (by omega)).tmp _ (by omega) (by omega)
  have hszA := hlA.size
  have hA2 : rd A (t + 2) = .bool (decide ((lo : Int) ≤ v)) := by
    rw [← hA]; simp (disch := (first | omega | (simp only [size_wr]; omega))) only [rd_same, rd_ne]
  have Y : ∀ A' : Act, rd A' (t + 2) = .bool (decide ((lo : Int) ≤ v)) → A'.tmps.size = N → yielded [o0, o1, o2, o3, o4, o5].toArray A'.tmps 2 = some (decide ((lo : Int) ≤ v)) := by
    intro A' h6 h7
    have := get_tmps h6 (by omega)
    simp [yielded, d2, this]
  have fin : ∀ A' : Act, Loc N L ρ A' → ∀ b, rd A' (t + 2) = .bool (decide ((lo : Int) ≤ v)) → (decide ((lo : Int) ≤ v) = true → rd A' (t + 4) = .bool b) → (b = decide (v ≤ hi)) → wpList P [o0, o1, o2, o3, o4, o5].toArray Q [o5] A' w := by
    intro A' hl' b h6 h7 hb
    have hsz' := hl'.size
    have hrun : (execOp A'.eval o5).run P w = .ok (.value (.bool (decide ((lo : Int) ≤ v) && decide (v ≤ hi)))) w := by
      obtain ⟨c', x', y', hop, k1, k2, k3⟩ := pickIs_eq h5
      unfold execOp
      have e1 : A'.eval c' = .bool (decide ((lo : Int) ≤ v)) := (MX.is_eval k1 A').trans h6
      simp only [hop, e1, asBool, Sem.run_bind, Sem.run_pure, Result.andThen_ok]
      cases hd : decide ((lo : Int) ≤ v)
      · simp only [MX.is_eval k3 A', MX.of, MVal.val, Bool.false_eq_true, if_false, Bool.false_and]
      · have e2 : A'.eval x' = .bool b := (MX.is_eval k2 A').trans (h7 hd)
        simp only [e2, hb, if_true, Bool.true_and]
    refine wpList_value (W5 _) hd5 hrun ?_
    exact h _ (hl'.tmp _ (by omega) (by omega)) (rd_same (by omega))
  have hd3 : o3.dst = some (t + 3) := (@run_mv P A w _ _ o3 h3).1
  have hd4 : o4.dst = some (t + 4) := by
    generalize hop : o4.op = op at h4
    cases op <;> simp only [fitOp, Bool.and_eq_true, Bool.false_eq_true] at h4
    exact dstIs_eq h4.1.1.1.1.1
  cases hdec : decide ((lo : Int) ≤ v)
  · rw [hdec] at hA2 Y
    refine wpList_passed ?_ hd3 (wpList_passed ?_ hd4 (fin _ ((hlA.tmp _ (by omega) (by omega)).tmp _ (by omega) (by omega)) _ ?_ ?_ rfl))
    · simp only [Region.wanted, G3]; rw [Y A hA2 hszA]; rfl
    · simp only [Region.wanted, G4]; rw [Y _ (by rw [rd_ne (by omega)]; exact hA2) (by simpa using hszA)]; rfl
    · simp (disch := (first | omega | (simp only [size_wr]; omega))) only [rd_same, rd_ne]; rw [hA2, hdec]
    · rw [hdec]; intro hf; simp at hf
  · rw [hdec] at hA2 Y
    have e3 := (@run_mv P A w _ _ o3 h3).2
    rw [show (MX.t s).of A = .int .i16 v from by simp only [MX.of]; rw [hlA.get s hs, hv]] at e3
    refine wpList_value ?_ hd3 e3 ?_
    · simp only [Region.wanted, G3]; rw [Y A hA2 hszA]; rfl
    obtain ⟨_, e4⟩ := @run_biInt P (wr A (t + 3) (.int .i16 v)) w (t + 4) ty .leq (.t (t + 3)) (.c (.int .i16 hi)) .i16 v hi _ o4 h4 (rd_same (by omega)) rfl (run_cmp_leq _ _ _ _)
    refine wpList_value ?_ hd4 e4 (fin _ ((hlA.tmp _ (by omega) (by omega)).tmp _ (by omega) (by omega)) (decide (v ≤ (hi : Int))) ?_ ?_ rfl)
    · simp only [Region.wanted, G4]; rw [Y _ (by rw [rd_ne (by omega)]; exact hA2) (by simpa using hszA)]; rfl
    · simp (disch := (first | omega | (simp only [size_wr]; omega))) only [rd_same, rd_ne]; rw [hA2, hdec]
    · intro _; simp (disch := (first | omega | (simp only [size_wr]; omega))) only [rd_same, rd_ne]
end
section
variable {P : Program} {U B N L : Nat} {ρ : Nat → Value} {w : World} {x x' : Nat} {out : List UInt8}
theorem Writes.condA {I : IA} {sver t : Nat} {c : Cnd} {body : Nat → MCode × Nat × Nat × Nat} {ver : Int} (hs : sver < L) (hv : ρ sver = .int .i16 ver) (ht : L ≤ t)
    (hx : ∀ t, (body t).2.2.1 = x') (hxx : x ≤ x') (hm : ∀ t, t ≤ (body t).2.1) (hN : (Kx.condA I sver c t body).2.1 ≤ N)
    (hb : c.ok ver = true → ∀ t, L ≤ t → (body t).2.1 ≤ N → Writes P U B N L (body t).1 ρ w x x' out) :
    Writes P U B N L (Kx.condA I sver c t body).1 ρ w x x' (if c.ok ver then out else []) := by
  cases c with
  | always => exact hb rfl t ht hN
  | ge lo =>
    simp only [Kx.condA] at hN ⊢
    have m1 := hm (t + 2)
    intro a bs Q hl ho hlim hQ
    have hsz := hl.size
    refine MW.sq (MW.rg (ML.mv (ML.biInt (k := .i16) (m := ver) (n := lo) (v := .bool (decide ((lo : Int) ≤ ver))) ?_ rfl (run_cmp_geq _ _ _ _) (ML.nil ?_))))
    · simp (disch := (first | omega | (simp only [size_wr]; omega))) only [rd_same, rd_ne, MX.of]
      rw [hl.get sver hs, hv]
    have hl' := (hl.tmp ((MX.t sver).of a) ht (by omega)).tmp (.bool (decide ((lo : Int) ≤ ver))) (show L ≤ t + 1 by omega) (by omega)
    refine MW.cd (b := decide ((lo : Int) ≤ ver)) (rd_same (by simp only [size_wr]; omega)) (fun e => ?_) (fun e => ?_)
    · have hok : (Cnd.ge lo).ok ver = true := e
      rw [if_pos hok] at hlim hQ
      exact hb hok (t + 2) (by omega) hN _ bs Q hl' ho hlim hQ
    · have hok : ¬ (Cnd.ge lo).ok ver = true := by simp [Cnd.ok, e]
      rw [if_neg hok] at hlim hQ
      exact Writes.sk hxx _ bs Q hl' ho hlim hQ
  | btw lo hi =>
    simp only [Kx.condA] at hN ⊢
    have m1 := hm (t + 6)
    intro a bs Q hl ho hlim hQ
    refine MW.sq (MW.tw hl hs hv ht (by omega) ?_)
    intro a1 hl1 h5
    refine MW.cd (b := decide ((lo : Int) ≤ ver) && decide (ver ≤ hi)) h5 (fun e => ?_) (fun e => ?_)
    · have hok : (Cnd.btw lo hi).ok ver = true := e
      rw [if_pos hok] at hlim hQ
      exact hb hok (t + 6) (by omega) hN _ bs Q hl1 ho hlim hQ
    · have hok : ¬ (Cnd.btw lo hi).ok ver = true := by simp only [Cnd.ok, e]; simp
      rw [if_neg hok] at hlim hQ
      exact Writes.sk hxx _ bs Q hl1 ho hlim hQ
theorem Writes.ifGe {tI sver t lo : Nat} {yes no : MCode} {ver : Int} (hs : sver < L) (hv : ρ sver = .int .i16 ver) (ht : L ≤ t) (hN : t + 2 ≤ N)
    (h1 : (lo : Int) ≤ ver → Writes P U B N L yes ρ w x x' out) (h2 : ¬ (lo : Int) ≤ ver → Writes P U B N L no ρ w x x' out) :
    Writes P U B N L (.sq (.rg [.mv t (.t sver), .bi (t + 1) .geq tI (.t t) (.c (.int .i16 lo))]) (.cd (t + 1) yes no)) ρ w x x' out := by
  intro a bs Q hl ho hlim hQ
  have hsz := hl.size
  refine MW.sq (MW.rg (ML.mv (ML.biInt (k := .i16) (m := ver) (n := lo) (v := .bool (decide ((lo : Int) ≤ ver))) ?_ rfl (run_cmp_geq _ _ _ _) (ML.nil ?_))))
  · simp (disch := (first | omega | (simp only [size_wr]; omega))) only [rd_same, rd_ne, MX.of]
    rw [hl.get sver hs, hv]
  have hl' := (hl.tmp ((MX.t sver).of a) ht (by omega)).tmp (.bool (decide ((lo : Int) ≤ ver))) (show L ≤ t + 1 by omega) (by omega)
  refine MW.cd (b := decide ((lo : Int) ≤ ver)) (rd_same (by simp only [size_wr]; omega)) (fun e => ?_) (fun e => ?_)
  · exact h1 (of_decide_eq_true e) _ bs Q hl' ho hlim hQ
  · exact h2 (of_decide_eq_false e) _ bs Q hl' ho hlim hQ
def TlenC (P : Program) (f : Nat) : Prop :=
  entersB P f = true ∧ ∀ (w : World) (B : Nat) (p : Addr) (m : Value) (tags : List (Nat × List UInt8)), RepT w (· < B) m tags → w.cell? p = some m →
    Calls P f #[.pointer (some p)] w (fun e w' => e = .returned (.int .i64 tags.length) ∧ w' = w)
def smallT (tags : List (Nat × List UInt8)) : Prop := tags.length ≤ 40000 ∧ ∀ t ∈ tags, t.2.length ≤ 32767
def TeachC (P : Program) (U f : Nat) (S : List (Nat × List UInt8) → Prop) : Prop :=
  entersB P f = true ∧ ∀ (w : World) (B : Nat) (p : Addr) (m sv : Value) (tags : List (Nat × List UInt8)) (bs : List UInt8), B ≤ w.heap.size → p.block < B → OwnB U w B sv bs →
    RepT w (· < B) m tags → S tags → w.cell? p = some m → bs.length + (tags.flatMap encTag).length ≤ lim →
    Calls P f #[.pointer (some p), sv] w (fun e w' => ∃ sv', e = .returned sv' ∧ OwnB U w' B sv' (bs ++ tags.flatMap encTag) ∧ Below B w w')
def UvarC (P : Program) (U f : Nat) : Prop := ApC P U f (fun _ _ x out => ∃ n : Nat, n < 4294967296 ∧ x = .int .u32 n ∧ out = uv n)
theorem WritesL.tagsA {I : IA} {sf : Option Nat} {T vs t x0 b0 b o : Nat} {tg : Option TgF} (hkn : ∀ q, tg = some q → q.1.2 = []) {flex : Bool} {m : Value} {tags : List (Nat × List UInt8)} {S : List (Nat × List UInt8) → Prop}
    (hs : ∀ s, sf = some s → s < L ∧ ρ s = .bool flex) (hn : sf = none → flex = false) (ht : L ≤ t) (hN : (Kx.tagsA I sf T vs tg t x0 b0).2.1 ≤ N) (h1L : 1 < L) (hvs : vs < L) (hvs1 : vs ≠ 1)
    (hp : ρ vs = .pointer (some ⟨b, o, none⟩)) (hbB : b < B) (hB : B ≤ w.heap.size)
    (hlen : TlenC P I.tlen) (heach : TeachC P U I.teach S) (huv : UvarC P U I.uvar) (hi1 : intTy P I.tInt .i64 = true) (hi2 : intTy P I.tU32 .u32 = true)
    (htg : ∀ i kn off, tg = some ((i, kn), off) → fieldAtB P T i off = true ∧ w.cell? ⟨b, o + off, none⟩ = some m ∧ RepT w (· < B) m tags ∧ smallT tags ∧ S tags) :
    WritesL P U B N L (Kx.tagsA I sf T vs tg t x0 b0).1 ρ w x x (if tg.isSome && flex then encTags tags else []) := by
  cases tg with
  | none => exact ⟨rfl, rfl⟩
  | some p =>
    obtain ⟨⟨i, kn⟩, off⟩ := p
    obtain rfl : kn = [] := hkn _ rfl
    cases sf with
    | none => simp only [Kx.tagsA, hn rfl]; exact ⟨rfl, rfl⟩
    | some s =>
      obtain ⟨hsL, hsv⟩ := hs s rfl
      obtain ⟨hf, hc, hrep, hsm, hS⟩ := htg i [] off rfl
      simp only [Kx.tagsA] at hN ⊢
      refine .inl ⟨_, [], x, (List.append_nil _).symm, Nat.le_refl _, Nat.le_refl _, ?_, fun _ _ _ _ => ⟨rfl, rfl⟩⟩
      intro a bs Q hl ho hlim hQ
      have hsz := hl.size
      simp only [Option.isSome_some, Bool.true_and] at hlim hQ
      refine MW.sq (MW.rg (ML.mv (ML.nil ?_)))
      simp only [MX.of]
      rw [hl.get s hsL, hsv]
      have hl0 : Loc N L ρ (wr a t (.bool flex)) := hl.tmp _ ht (by omega)
      refine MW.cd (b := flex) (rd_same (by omega)) (fun e => ?_) (fun e => ?_)
      · subst e
        rw [if_pos rfl] at hlim hQ
        simp only [encTags, List.length_append] at hlim
        generalize wr a t (.bool true) = a0 at hl0
        have hsz0 := hl0.size
        have hcount : tags.length ≤ 40000 := hsm.1
        refine MW.sq (MW.rg (ML.mv (ML.mv (ML.nc (p := ⟨b, o, none⟩) ?_ (ML.fa (b := b) (o := o) (off := off) ?_ hf (ML.ca (R := fun v w' => v = .int .i64 tags.length ∧ w' = w) hlen.1 ?_ ?_))))))
        · simp (disch := (first | omega | (simp only [size_wr]; omega))) only [rd_same, rd_ne, MX.of]
          rw [hl0.get vs hvs, hp]
        · simp (disch := (first | omega | (simp only [size_wr]; omega))) only [rd_same, rd_ne, MX.of]
        · simp (disch := (first | omega | (simp only [size_wr]; omega))) only [rd_same, rd_ne, MX.of, List.map_cons, List.map_nil]
          refine (hlen.2 w B ⟨b, o + off, none⟩ m tags hrep hc).mono ?_
          rintro e w' ⟨rfl, rfl⟩
          exact ⟨_, rfl, rfl, rfl⟩
        · rintro v w' ⟨rfl, rfl⟩
          refine ML.cv (v := .int .u32 tags.length) ?_ (ML.biInt (k := .u32) (m := 0) (n := tags.length) (v := .int .u32 tags.length) rfl ?_ ?_ (ML.ca (R := fun sv' w1 => OwnB U w1 B sv' (bs ++ uv tags.length) ∧ Below B w' w1) huv.1 ?_ ?_))
          · simp (disch := (first | omega | (simp only [size_wr]; omega))) only [rd_same, rd_ne, MX.of]
            rw [run_convert_int hi1 hi2, wrap_u32 (by omega) (by omega)]
          · simp (disch := (first | omega | (simp only [size_wr]; omega))) only [rd_same, rd_ne, MX.of]
          · rw [run_sum, Int.zero_add, wrap_u32 (by omega) (by omega)]
          · simp (disch := (first | omega | (simp only [size_wr]; omega))) only [rd_same, rd_ne, MX.of, List.map_cons, List.map_nil]
            rw [hl0.get 1 h1L]
            refine (huv.2 w' B (ρ 1) _ bs (uv tags.length) hB ho ⟨tags.length, by omega, rfl, rfl⟩ (by omega)).mono ?_
            rintro e w1 ⟨sv', rfl, h2⟩
            exact ⟨sv', rfl, h2⟩
          · rintro sv' w1 ⟨h2, h3⟩
            refine ML.mv (ML.nil ?_)
            simp (disch := (first | omega | (simp only [size_wr]; omega))) only [rd_same, rd_ne, MX.of]
            have hl1 : Loc N L (upd ρ 1 sv') (wr (wr (wr (wr (wr (wr (wr (wr (wr a0 (t + 1) (rd a0 1)) (t + 2) (rd a0 vs)) (t + 3) (Value.pointer (some { block := b, off := o }))) (t + 4) (Value.pointer (some { block := b, off := o + off }))) (t + 5) (Value.int IntKind.i64 ↑tags.length)) (t + 6) (Value.int IntKind.u32 ↑tags.length)) (t + 7) (Value.int IntKind.u32 ↑tags.length)) (t + 8) sv') 1 sv') :=
              Loc.set ((((((((hl0.tmp _ (by omega) (by omega)).tmp _ (by omega) (by omega)).tmp _ (by omega) (by omega)).tmp _ (by omega) (by omega)).tmp _ (by omega) (by omega)).tmp _ (by omega) (by omega)).tmp _ (by omega) (by omega)).tmp _ (by omega) (by omega)) _ (by omega)
            revert hl1
            generalize (wr (wr (wr (wr (wr (wr (wr (wr (wr a0 (t + 1) (rd a0 1)) (t + 2) (rd a0 vs)) (t + 3) (Value.pointer (some { block := b, off := o }))) (t + 4) (Value.pointer (some { block := b, off := o + off }))) (t + 5) (Value.int IntKind.i64 ↑tags.length)) (t + 6) (Value.int IntKind.u32 ↑tags.length)) (t + 7) (Value.int IntKind.u32 ↑tags.length)) (t + 8) sv') 1 sv') = a1
            intro hl1
            have hsz1 := hl1.size
            have hkeep : ∀ b, b < B → w1.heap[b]? = w'.heap[b]? := fun b hb => h3.block b hb
            show MW P _ Q a1 w1
            refine MW.rg (ML.mv (ML.nc (p := ⟨b, o, none⟩) ?_ (ML.fa (b := b) (o := o) (off := off) ?_ hf (ML.mv (ML.ca (R := fun sv2 w2 => OwnB U w2 B sv2 ((bs ++ uv tags.length) ++ tags.flatMap encTag) ∧ Below B w1 w2) heach.1 ?_ ?_)))))
            · simp (disch := (first | omega | (simp only [size_wr]; omega))) only [rd_same, rd_ne, MX.of]
              rw [hl1.get vs hvs, upd_ne _ _ hvs1, hp]
            · simp (disch := (first | omega | (simp only [size_wr]; omega))) only [rd_same, rd_ne, MX.of]
            · simp (disch := (first | omega | (simp only [size_wr]; omega))) only [rd_same, rd_ne, MX.of, List.map_cons, List.map_nil]
              rw [hl1.get 1 h1L, upd_same]
              refine (heach.2 w1 B ⟨b, o + off, none⟩ m sv' tags (bs ++ uv tags.length) (Nat.le_trans hB h3.size) hbB h2 (hrep.mono (fun _ h => h) hkeep) hS ?_ ?_).mono ?_
              · rw [cell_of_heap (hkeep b hbB)]; exact hc
              · simp only [List.length_append]; omega
              · rintro e w2 ⟨sv2, rfl, h4⟩
                exact ⟨sv2, rfl, h4⟩
            · rintro sv2 w2 ⟨h4, h5⟩
              refine ML.mv (ML.nil ?_)
              simp (disch := (first | omega | (simp only [size_wr]; omega))) only [rd_same, rd_ne, MX.of]
              refine hQ _ w2 (upd (upd ρ 1 sv') 1 sv2) (Loc.set (((((hl1.tmp _ (by omega) (by omega)).tmp _ (by omega) (by omega)).tmp _ (by omega) (by omega)).tmp _ (by omega) (by omega)).tmp _ (by omega) (by omega)) _ (by omega)) ?_ ?_ (h3.trans h5)
              · intro s hs h0 _
                rw [upd_ne _ _ h0, upd_ne _ _ h0]
              · rw [upd_same, encTags, ← List.append_assoc]; exact h4
      · subst e
        rw [if_neg (by simp)] at hlim hQ
        exact Writes.sk (Nat.le_refl _) _ bs Q hl0 ho hlim hQ
def NLenC (P : Program) (U f : Nat) (flex : Bool) : Prop :=
  entersB P f = true ∧ ∀ (w : World) (B : Nat) (sv : Value) (bs : List UInt8) (n : Nat) (isnil : Bool), B ≤ w.heap.size → OwnB U w B sv bs → n ≤ 32767 →
    bs.length + (if isnil then cntNull flex 4 else cnt flex 4 n).length ≤ lim →
    Calls P f #[sv, .int .i64 n, .bool isnil] w (fun e w' => ∃ sv', e = .returned sv' ∧ OwnB U w' B sv' (bs ++ (if isnil then cntNull flex 4 else cnt flex 4 n)) ∧ Below B w w')
theorem Writes.nlenA {f ty e v t n c : Nat} {p : Option Addr} {flex : Bool} (hc : NLenC P U f flex) (hB : B ≤ w.heap.size) (hv : v < L) (hv1 : v ≠ 1) (h1L : 1 < L) (ht : L ≤ t) (hN : t + 6 ≤ N)
    (hs : sliceOf P ty e = true) (hρ : ρ v = .slice p n c) (hn : n ≤ 32767) : Writes P U B N L (nlenA f ty v t).1 ρ w x x (if p.isNone then cntNull flex 4 else cnt flex 4 n) := by
  intro a bs Q hl ho hlim hQ
  have hsz := hl.size
  refine MW.rg (ML.mv (ML.mv (ML.ln hs (p := p) (n := n) (c := c) ?_ (ML.mv (ML.bi (v := .bool p.isNone) ?_ ?_
    (ML.ca (R := fun sv' w' => OwnB U w' B sv' (bs ++ (if p.isNone then cntNull flex 4 else cnt flex 4 n)) ∧ Below B w w') hc.1 ?_ ?_))))))
  · simp (disch := (first | omega | (simp only [size_wr]; omega))) only [rd_same, rd_ne, MX.of]
    rw [hl.get v hv, hρ]
  · intro ox oy _ _
    simp (disch := (first | omega | (simp only [size_wr]; omega))) only [rd_same, rd_ne, MX.of, MVal.val]
    rw [hl.get v hv, hρ]
    unfold eqGuard
    rfl
  · simp (disch := (first | omega | (simp only [size_wr]; omega))) only [rd_same, rd_ne, MX.of, MVal.val]
    rw [hl.get v hv, hρ]
    exact Lib.run_eql_slice_nil w ty e p n c 0 0 (sliceOf_eq hs)
  · simp (disch := (first | omega | (simp only [size_wr]; omega))) only [rd_same, rd_ne, MX.of, List.map_cons, List.map_nil]
    rw [hl.get 1 h1L]
    refine (hc.2 w B (ρ 1) bs n p.isNone hB ho hn hlim).mono ?_
    rintro e w' ⟨sv', rfl, h2⟩
    exact ⟨sv', rfl, h2⟩
  · rintro sv' w' ⟨h2, h3⟩
    refine ML.mv (ML.nil ?_)
    simp (disch := (first | omega | (simp only [size_wr]; omega))) only [rd_same, rd_ne, MX.of]
    refine hQ _ w' (upd ρ 1 sv') (Loc.set ((((((hl.tmp _ (by omega) (by omega)).tmp _ (by omega) (by omega)).tmp _ (by omega) (by omega)).tmp _ (by omega) (by omega)).tmp _ (by omega) (by omega)).tmp _ (by omega) (by omega)) _ (by omega)) ?_ ?_ h3
    · intro s hs h0 _; exact upd_ne _ _ h0
    · rw [upd_same]; exact h2
end
set_option linter.unusedVariables false
theorem ifFlex_le {sf : Option Nat} {t : Nat} {yes no : Nat → MCode × Nat} (h1 : ∀ t, t ≤ (yes t).2) (h2 : ∀ t, t ≤ (no t).2) : t ≤ (ifFlex sf t yes no).2 := by
  cases sf with
  | none => exact h2 t
  | some s => have a := h1 (t + 1); have b := h2 (yes (t + 1)).2; simp only [ifFlex]; omega
theorem callA_le {f v t : Nat} : t ≤ (callA f v t).2 := by simp [callA]
theorem lenA_le {f ty v t : Nat} : t ≤ (lenA f ty v t).2 := by simp [lenA]
theorem nlenA_le {f ty v t : Nat} : t ≤ (nlenA f ty v t).2 := by simp [nlenA]
theorem primA_le {I : IA} {sf : Option Nat} {k : PK} {v t : Nat} : t ≤ (primA I sf k v t).2 := by
  unfold primA
  split
  · exact ifFlex_le (fun _ => callA_le) (fun _ => callA_le)
  · exact callA_le
theorem primFldA_le {I : IA} {sf : Option Nat} {T vs idx : Nat} {k : PK} {ty x t : Nat} : t ≤ (primFldA I sf T vs idx k ty x t).2 := by
  unfold primFldA
  have := @primA_le I sf k x (t + 4)
  split
  · simp
  · simp only; omega
theorem ktTests_end {I : IA} {T vs x : Nat} : ∀ (kn : List KT) (u : Nat), (ktTests I T vs x kn u).2 = u + 8 * kn.length
  | [], u => rfl
  | q :: r, u => by
    unfold ktTests
    rw [ktTests_end r]
    simp only [List.length_cons]; omega
theorem tagsA_le {I : IA} {sf : Option Nat} {T vs : Nat} {tg : Option TgF} {t x b : Nat} : t ≤ (tagsA I sf T vs tg t x b).2.1 ∧ x ≤ (tagsA I sf T vs tg t x b).2.2.1 := by
  unfold tagsA
  split
  · simp
  · simp only [ktEnd]; omega
  · simp
theorem tagsA_x {I : IA} {sf : Option Nat} {T vs : Nat} {tg : Option TgF} {t t2 x b b2 : Nat} : (tagsA I sf T vs tg t x b).2.2.1 = (tagsA I sf T vs tg t2 x b2).2.2.1 := by
  unfold tagsA
  split <;> rfl
theorem condA_le {I : IA} {sver t : Nat} {c : Cnd} {body : Nat → MCode × Nat × Nat × Nat} (h : ∀ t, t ≤ (body t).2.1) : t ≤ (condA I sver c t body).2.1 := by
  unfold condA
  split
  · exact h t
  · have := h (t + 2); dsimp only; omega
  · have := h (t + 6); dsimp only; omega
theorem condA_x {I : IA} {sver t : Nat} {c : Cnd} {body : Nat → MCode × Nat × Nat × Nat} {x' : Nat} (h : ∀ t, (body t).2.2.1 = x') : (condA I sver c t body).2.2.1 = x' := by
  unfold condA
  split <;> exact h _
theorem alenA_le {I : IA} {sver : Nat} {sf nul : Option Nat} {ty v t : Nat} : t ≤ (alenA I sver sf nul ty v t).2 := by
  unfold alenA
  split
  · exact ifFlex_le (fun _ => lenA_le) (fun _ => lenA_le)
  · exact ifFlex_le (fun _ => nlenA_le) (fun _ => nlenA_le)
  · have h1 := @ifFlex_le sf (t + 2) (nlenA I.cnalen ty v) (nlenA I.nalen ty v) (fun _ => nlenA_le) (fun _ => nlenA_le)
    have h2 := @ifFlex_le sf (ifFlex sf (t + 2) (nlenA I.cnalen ty v) (nlenA I.nalen ty v)).2 (lenA I.calen ty v) (lenA I.alen ty v) (fun _ => lenA_le) (fun _ => lenA_le)
    dsimp only; omega
theorem vstrA_le {I : IA} {sver : Nat} {sf : Option Nat} {lim ty base x t : Nat} : t + 8 ≤ (vstrA I sver sf lim ty base x t).2 := by
  have h1 := @primA_le I sf .str (x + 2) (t + 8)
  have h2 := @primA_le I sf .nstr x (primA I sf .str (x + 2) (t + 8)).2
  unfold vstrA
  dsimp only; omega
section
variable {I : IA} {sver : Nat} {sf : Option Nat}
mutual
theorem genE_le {ty ety : Nat} : ∀ (el : Ty) {v x t x' b : Nat}, t ≤ (genE I sver sf ty ety el v x t x' b).2.1 ∧ x' ≤ (genE I sver sf ty ety el v x t x' b).2.2.1
  | .prim k _, v, x, t, x', b => by
    simp only [genE]
    have := @primA_le I sf k (x + 1) (t + 4)
    split
    · exact ⟨by show t ≤ t + 7; omega, Nat.le_refl _⟩
    · exact ⟨by show t ≤ (primA I sf k (x + 1) (t + 4)).2; omega, Nat.le_refl _⟩
  | .struct T _ _ tg fs, v, x, t, x', b => by
    simp only [genE]
    have h1 := @genF_le T (x + 1) fs (t + 3) x' b
    have h2 := @tagsA_le I sf T (x + 1) tg (genF I sver sf T (x + 1) fs (t + 3) x' b).2.1 (genF I sver sf T (x + 1) fs (t + 3) x' b).2.2.1 (genF I sver sf T (x + 1) fs (t + 3) x' b).2.2.2
    omega
  | .enum .., v, x, t, x', b => by simp [genE]
  | .vstr .., v, x, t, x', b => by simp [genE]
  | .arr .., v, x, t, x', b => by simp [genE]
theorem genF_le {T vs : Nat} : ∀ (fs : Flds) {t x b : Nat}, t ≤ (genF I sver sf T vs fs t x b).2.1 ∧ x ≤ (genF I sver sf T vs fs t x b).2.2.1
  | .nil, t, x, b => by simp [genF]
  | .cons c idx off df ty rest, t, x, b => by
    simp only [genF]
    have h1 : t ≤ (condA I sver c t (fun t => genFld I sver sf T vs idx ty t x b)).2.1 := condA_le (fun t => (@genFld_le T vs idx ty t x b).1)
    have h2 : x ≤ (condA I sver c t (fun t => genFld I sver sf T vs idx ty t x b)).2.2.1 := by
      unfold condA
      split
      · exact (@genFld_le T vs idx ty t x b).2
      · exact (@genFld_le T vs idx ty (t + 2) x b).2
      · exact (@genFld_le T vs idx ty (t + 6) x b).2
    have h3 := @genF_le T vs rest (condA I sver c t (fun t => genFld I sver sf T vs idx ty t x b)).2.1 (condA I sver c t (fun t => genFld I sver sf T vs idx ty t x b)).2.2.1 (condA I sver c t (fun t => genFld I sver sf T vs idx ty t x b)).2.2.2
    omega
theorem genFld_le {T vs idx : Nat} : ∀ (ty : Ty) {t x b : Nat}, t ≤ (genFld I sver sf T vs idx ty t x b).2.1 ∧ x ≤ (genFld I sver sf T vs idx ty t x b).2.2.1
  | .prim k ty, t, x, b => by
    simp only [genFld]
    have := @primFldA_le I sf T vs idx k ty x t
    omega
  | .enum k ty base, t, x, b => by
    simp only [genFld, loadA, callA]
    omega
  | .vstr lim ty base, t, x, b => by
    simp only [genFld, loadA]
    have := @vstrA_le I sver sf lim ty base x (t + 4)
    omega
  | .arr nul ty ety el, t, x, b => by
    simp only [genFld, loadA, loopA]
    have h0 : t + 4 ≤ (alenA I sver sf nul ty x (t + 4)).2 := alenA_le
    have h1 := @genE_le ty ety el x (x + 1) ((alenA I sver sf nul ty x (t + 4)).2 + 5) (x + 3) (b + 2)
    omega
  | .struct T' _ _ tg fs, t, x, b => by
    simp only [genFld]
    have h1 := @genF_le T' x fs (t + 3) (x + 1) b
    have h2 := @tagsA_le I sf T' x tg (genF I sver sf T' x fs (t + 3) (x + 1) b).2.1 (genF I sver sf T' x fs (t + 3) (x + 1) b).2.2.1 (genF I sver sf T' x fs (t + 3) (x + 1) b).2.2.2
    omega
end
end
section
variable {I : IA} {sver : Nat} {sf : Option Nat}
mutual
theorem genE_x {ty ety : Nat} : ∀ (el : Ty) {v x t t2 x' b b2 : Nat}, (genE I sver sf ty ety el v x t x' b).2.2.1 = (genE I sver sf ty ety el v x t2 x' b2).2.2.1
  | .prim k _, v, x, t, t2, x', b, b2 => by simp only [genE]; split <;> rfl
  | .struct T _ _ tg fs, v, x, t, t2, x', b, b2 => by
    simp only [genE]
    rw [genF_x fs (t2 := t2 + 3) (b2 := b2)]
    exact tagsA_x
  | .enum .., v, x, t, t2, x', b, b2 => by simp [genE]
  | .vstr .., v, x, t, t2, x', b, b2 => by simp [genE]
  | .arr .., v, x, t, t2, x', b, b2 => by simp [genE]
theorem genF_x {T vs : Nat} : ∀ (fs : Flds) {t t2 x b b2 : Nat}, (genF I sver sf T vs fs t x b).2.2.1 = (genF I sver sf T vs fs t2 x b2).2.2.1
  | .nil, t, t2, x, b, b2 => by simp [genF]
  | .cons c idx off df ty rest, t, t2, x, b, b2 => by
    simp only [genF]
    have h2 : (condA I sver c t (fun t => genFld I sver sf T vs idx ty t x b)).2.2.1 = (condA I sver c t2 (fun t => genFld I sver sf T vs idx ty t x b2)).2.2.1 := by
      unfold condA
      split <;> exact genFld_x ty
    rw [h2]
    exact genF_x rest
theorem genFld_x {T vs idx : Nat} : ∀ (ty : Ty) {t t2 x b b2 : Nat}, (genFld I sver sf T vs idx ty t x b).2.2.1 = (genFld I sver sf T vs idx ty t2 x b2).2.2.1
  | .prim k ty, t, t2, x, b, b2 => by simp only [genFld]
  | .enum k ty base, t, t2, x, b, b2 => by simp only [genFld, loadA, callA]
  | .vstr .., t, t2, x, b, b2 => by simp only [genFld, loadA]
  | .arr nul ty ety el, t, t2, x, b, b2 => by
    simp only [genFld, loadA, loopA]
    exact genE_x el
  | .struct T' _ _ tg fs, t, t2, x, b, b2 => by
    simp only [genFld]
    rw [genF_x fs (t2 := t2 + 3) (b2 := b2)]
    exact tagsA_x
end
end
set_option linter.unusedVariables false
def args0 (l : List Value) : Nat → Value := fun s => l.getD s undef
def xof (ρ : Nat → Value) : MX → Value
  | .t s => ρ s
  | .c m => m.val
def evB : BinOp → Value → Value → Option Value
  | .shr, .int k a, .int _ b => if 0 ≤ b then some (.int k (a.fdiv (2 ^ (min b.toNat k.bits)))) else none
  | .shl, .int k a, .int _ b => if 0 ≤ b then some (.int k (k.wrap (a * 2 ^ (min b.toNat k.bits)))) else none
  | .add, .int k a, .int k' b => if k = k' then some (.int k (k.wrap (a + b))) else none
  | .sub, .int k a, .int k' b => if k = k' then some (.int k (k.wrap (a - b))) else none
  | .mul, .int k a, .int k' b => if k = k' then some (.int k (k.wrap (a * b))) else none
  | .rem, .int k a, .int k' b => if k = k' ∧ b ≠ 0 then some (.int k (a.tmod b)) else none
  | .and, .int k a, .int k' b => if k = k' then some (.int k (k.wrap (BitVec.ofInt k.bits a &&& BitVec.ofInt k.bits b).toNat)) else none
  | .or, .int k a, .int k' b => if k = k' then some (.int k (k.wrap (BitVec.ofInt k.bits a ||| BitVec.ofInt k.bits b).toNat)) else none
  | .xor, .int k a, .int k' b => if k = k' then some (.int k (k.wrap (BitVec.ofInt k.bits a ^^^ BitVec.ofInt k.bits b).toNat)) else none
  | .lss, .int k a, .int k' b => if k = k' then some (.bool (decide (a < b))) else none
  | .leq, .int k a, .int k' b => if k = k' then some (.bool (decide (a ≤ b))) else none
  | .gtr, .int k a, .int k' b => if k = k' then some (.bool (decide (b < a))) else none
  | .geq, .int k a, .int k' b => if k = k' then some (.bool (decide (b ≤ a))) else none
  | .eql, .int k a, .int k' b => if k = k' then some (.bool (a == b)) else none
  | .neq, .int k a, .int k' b => if k = k' then some (.bool (!(a == b))) else none
  | _, _, _ => none
theorem evB_run {P : Program} {w : World} {op : BinOp} {x y v : Value} (ty : Nat) (h : evB op x y = some v) :
    (binOp op ty x y).run P w = .ok v w ∧ ∀ ox oy, (eqGuard op ty ox oy x y).run P w = .ok () w := by
  cases x <;> cases y <;> cases op <;> simp only [evB, reduceCtorEq] at h
  all_goals (rename_i k a k' b; refine ⟨?_, fun ox oy => eqGuard_num _ _ _ _ _ _ _ _⟩)
  all_goals (split at h <;> simp only [Option.some.injEq, reduceCtorEq] at h; subst h)
  case int.int.shl h1 => have : ¬ b < 0 := by omega
                         simp [binOp, Op.shift, this]
  case int.int.shr h1 => have : ¬ b < 0 := by omega
                         simp [binOp, Op.shift, this]
  case int.int.rem h1 => obtain ⟨rfl, h2⟩ := h1; simp [binOp, Op.intDiv, h2]
  all_goals (rename_i h1; subst h1; simp [binOp, Op.intArith, Op.intBits, Op.intCmp, bne])
def ev1 : List IntKind → MOp → (Nat → Value) → Option (Nat × Value × List IntKind)
  | ks, .mv d x, ρ => some (d, xof ρ x, ks)
  | ks, .b2 d op x y, ρ => (evB op (xof ρ x) (xof ρ y)).map fun v => (d, v, ks)
  | ks, .bi d op _ x y, ρ => (evB op (xof ρ x) (xof ρ y)).map fun v => (d, v, ks)
  | ks, .nt d s, ρ => match ρ s with | .bool b => some (d, .bool !b, ks) | _ => none
  | k :: ks, .cv d _ _ s, ρ => match ρ s with | .int _ n => some (d, .int k (k.wrap n), ks) | _ => none
  | ks, .mn d x y, ρ => match xof ρ x, xof ρ y with | .int k a, .int _ b => some (d, .int k (if b < a then b else a), ks) | _, _ => none
  | ks, .mxi d x y, ρ => match xof ρ x, xof ρ y with | .int k a, .int _ b => some (d, .int k (if b > a then b else a), ks) | _, _ => none
  | _, _, _ => none
def CvOk (P : Program) : List IntKind → List MOp → Prop
  | _, [] => True
  | k :: ks, .cv _ s t _ :: ms => (∃ k0, intTy P s k0 = true) ∧ intTy P t k = true ∧ CvOk P ks ms
  | ks, _ :: ms => CvOk P ks ms
def evs : List IntKind → List MOp → (Nat → Value) → Nat → Option (Nat → Value)
  | _, [], ρ, _ => some ρ
  | ks, m :: ms, ρ, N => match ev1 ks m ρ with
    | some (d, v, ks') => if d < N then evs ks' ms (upd ρ d v) N else none
    | none => none
def MX.slots : MX → List Nat
  | .t s => [s]
  | .c _ => []
def reads : MOp → List Nat
  | .mv _ x => x.slots
  | .b2 _ _ x y | .bi _ _ _ x y | .mn _ x y | .mxi _ x y => x.slots ++ y.slots
  | .nt _ s | .cv _ _ _ s => [s]
  | _ => []
section
variable {P : Program} {Q : Exit → Act → World → Prop} {a : Act} {w : World} {ms : List MOp}
theorem ML.b2 {d : Nat} {op : BinOp} {x y : MX} {v : Value} (h1 : evB op (x.of a) (y.of a) = some v) (h : ML P ms Q (wr a d v) w) : ML P (.b2 d op x y :: ms) Q a w := by
  refine ML.step (d := some d) (v := v) (w' := w) (fun o' ho => ?_) h
  have hf := fitOper_op ho
  generalize hop : o'.op = op' at hf
  unfold execOp
  cases op' <;> simp only [fitOp, Bool.and_eq_true, Bool.false_eq_true, Nat.beq_eq] at hf
  obtain ⟨⟨⟨k1, k2⟩, k3⟩, k4⟩ := hf
  have k2' := sameOp_eq k2
  subst k2'
  rename_i ty _ _ _
  obtain ⟨r1, r2⟩ := evB_run (P := P) (w := w) ty h1
  exact ⟨dstIs_eq k1, .inl (by simp only [hop, MX.is_eval k3 a, MX.is_eval k4 a, Sem.run_bind, r2, r1, Result.andThen_ok, Sem.run_pure])⟩
theorem ML.mn {d : Nat} {x y : MX} {k k' : IntKind} {m n : Int} (hx : x.of a = .int k m) (hy : y.of a = .int k' n) (h : ML P ms Q (wr a d (.int k (if n < m then n else m))) w) : ML P (.mn d x y :: ms) Q a w := by
  refine ML.step (d := some d) (v := .int k (if n < m then n else m)) (w' := w) (fun o ho => ?_) h
  have hf := fitOper_op ho
  obtain ⟨dst, op, type, pos, after, guard⟩ := o
  dsimp only at hf ⊢
  cases op <;> try (simp only [fitOp, Bool.false_eq_true] at hf; done)
  rename_i c
  obtain ⟨callee, args, ats⟩ := c
  cases callee <;> try (simp only [fitOp, Bool.false_eq_true] at hf; done)
  rename_i b
  cases b <;> try (simp only [fitOp, Bool.false_eq_true] at hf; done)
  simp only [fitOp, Bool.and_eq_true] at hf
  obtain ⟨h1, h2⟩ := hf
  obtain ⟨args⟩ := args
  dsimp only at h2
  match args, h2 with
  | [x', y'], h2 =>
    simp only [Bool.and_eq_true] at h2
    refine ⟨dstIs_eq h1, .inl ?_⟩
    unfold execOp
    have e1 := MX.is_eval h2.1 a
    have e2 := MX.is_eval h2.2 a
    simp [resolve, invoke, Go.builtin, e1, e2, hx, hy, run_min_int2, run_max_int2]
theorem ML.mxi {d : Nat} {x y : MX} {k k' : IntKind} {m n : Int} (hx : x.of a = .int k m) (hy : y.of a = .int k' n) (h : ML P ms Q (wr a d (.int k (if n > m then n else m))) w) : ML P (.mxi d x y :: ms) Q a w := by
  refine ML.step (d := some d) (v := .int k (if n > m then n else m)) (w' := w) (fun o ho => ?_) h
  have hf := fitOper_op ho
  obtain ⟨dst, op, type, pos, after, guard⟩ := o
  dsimp only at hf ⊢
  cases op <;> try (simp only [fitOp, Bool.false_eq_true] at hf; done)
  rename_i c
  obtain ⟨callee, args, ats⟩ := c
  cases callee <;> try (simp only [fitOp, Bool.false_eq_true] at hf; done)
  rename_i b
  cases b <;> try (simp only [fitOp, Bool.false_eq_true] at hf; done)
  simp only [fitOp, Bool.and_eq_true] at hf
  obtain ⟨h1, h2⟩ := hf
  obtain ⟨args⟩ := args
  dsimp only at h2
  match args, h2 with
  | [x', y'], h2 =>
    simp only [Bool.and_eq_true] at h2
    refine ⟨dstIs_eq h1, .inl ?_⟩
    unfold execOp
    have e1 := MX.is_eval h2.1 a
    have e2 := MX.is_eval h2.2 a
    simp [resolve, invoke, Go.builtin, e1, e2, hx, hy, run_min_int2, run_max_int2]
theorem Loc.xof {N : Nat} {ρ : Nat → Value} (hl : Loc N N ρ a) {x : MX} (hx : ∀ s, x = .t s → s < N) : x.of a = xof ρ x := by
  cases x with
  | t s => exact hl.get s (hx s rfl)
  | c m => rfl
theorem Loc.put {N : Nat} {ρ : Nat → Value} (hl : Loc N N ρ a) {d : Nat} {v : Value} (hd : d < N) : Loc N N (upd ρ d v) (wr a d v) := hl.set v hd
theorem ML.evs {N : Nat} {rest : List MOp} : ∀ {ks : List IntKind} {ms : List MOp} {ρ ρ' : Nat → Value} {a : Act}, Loc N N ρ a → Kx.evs ks ms ρ N = some ρ' → CvOk P ks ms →
    (∀ m ∈ ms, ∀ s ∈ reads m, s < N) → (∀ a', Loc N N ρ' a' → ML P rest Q a' w) → ML P (ms ++ rest) Q a w
  | ks, [], ρ, ρ', a, hl, he, hc, hr, h => by
    simp only [Kx.evs, Option.some.injEq] at he
    subst he
    exact h a hl
  | ks, m :: ms, ρ, ρ', a, hl, he, hc, hr, h => by
    have hsz := hl.size
    have hr' : ∀ m ∈ ms, ∀ s ∈ reads m, s < N := fun m hm => hr m (List.mem_cons_of_mem _ hm)
    have hrm := hr m List.mem_cons_self
    simp only [Kx.evs] at he
    cases h1 : ev1 ks m ρ with
    | none => simp [h1] at he
    | some p =>
      obtain ⟨d, v, ks'⟩ := p
      simp only [h1] at he
      split at he
      · rename_i hd
        have next : ∀ hc', ML P (ms ++ rest) Q (wr a d v) w := fun hc' => ML.evs (ks := ks') (hl.put hd) he hc' hr' h
        rw [List.cons_append]
        cases m <;> simp only [ev1, reduceCtorEq] at h1
        case mv d' x =>
          simp only [Option.some.injEq, Prod.mk.injEq] at h1
          obtain ⟨rfl, rfl, rfl⟩ := h1
          refine ML.mv ?_
          rw [hl.xof (x := x) (fun s hs => hrm s (by subst hs; simp [reads, MX.slots]))]
          exact next (by cases ks <;> exact hc)
        case b2 d' op x y =>
          simp only [Option.map_eq_some_iff, Prod.mk.injEq] at h1
          obtain ⟨v', h2, rfl, rfl, rfl⟩ := h1
          refine ML.b2 (v := v') ?_ (next (by cases ks <;> exact hc))
          rw [hl.xof (x := x) (fun s hs => hrm s (by subst hs; simp [reads, MX.slots])), hl.xof (x := y) (fun s hs => hrm s (by subst hs; simp [reads, MX.slots]))]
          exact h2
        case bi d' op ty x y =>
          simp only [Option.map_eq_some_iff, Prod.mk.injEq] at h1
          obtain ⟨v', h2, rfl, rfl, rfl⟩ := h1
          obtain ⟨r1, r2⟩ := evB_run (P := P) (w := w) ty h2
          have ex : x.of a = xof ρ x := hl.xof (fun s hs => hrm s (by subst hs; simp [reads, MX.slots]))
          have ey : y.of a = xof ρ y := hl.xof (fun s hs => hrm s (by subst hs; simp [reads, MX.slots]))
          exact ML.bi (v := v') (fun ox oy _ _ => by rw [ex, ey]; exact r2 ox oy) (by rw [ex, ey]; exact r1) (next (by cases ks <;> exact hc))
        case nt d' s =>
          cases hs : ρ s <;> simp only [hs, reduceCtorEq, Option.some.injEq, Prod.mk.injEq] at h1
          obtain ⟨rfl, rfl, rfl⟩ := h1
          exact ML.nt (by rw [hl.get s (hrm s (by simp [reads])), hs]) (next (by cases ks <;> exact hc))
        case cv d' s t y =>
          cases ks with
          | nil => simp [ev1] at h1
          | cons k ks =>
            simp only [ev1] at h1
            cases hs : ρ y <;> simp only [hs, reduceCtorEq, Option.some.injEq, Prod.mk.injEq] at h1
            obtain ⟨rfl, rfl, rfl⟩ := h1
            obtain ⟨⟨k0, c1⟩, c2, c3⟩ := hc
            refine ML.cv ?_ (next c3)
            rw [hl.get y (hrm y (by simp [reads])), hs]
            exact run_convert_int c1 c2 _
        case mn d' x y =>
          cases hx : xof ρ x <;> cases hy : xof ρ y <;> simp only [hx, hy, reduceCtorEq, Option.some.injEq, Prod.mk.injEq] at h1
          obtain ⟨rfl, rfl, rfl⟩ := h1
          exact ML.mn ((hl.xof (x := x) (fun s hs => hrm s (by subst hs; simp [reads, MX.slots]))).trans hx) ((hl.xof (x := y) (fun s hs => hrm s (by subst hs; simp [reads, MX.slots]))).trans hy) (next (by cases ks <;> exact hc))
        case mxi d' x y =>
          cases hx : xof ρ x <;> cases hy : xof ρ y <;> simp only [hx, hy, reduceCtorEq, Option.some.injEq, Prod.mk.injEq] at h1
          obtain ⟨rfl, rfl, rfl⟩ := h1
          exact ML.mxi ((hl.xof (x := x) (fun s hs => hrm s (by subst hs; simp [reads, MX.slots]))).trans hx) ((hl.xof (x := y) (fun s hs => hrm s (by subst hs; simp [reads, MX.slots]))).trans hy) (next (by cases ks <;> exact hc))
      · simp at he
end
set_option linter.unusedVariables false
def u8Ty (P : Program) (U : Nat) : Bool :=
  match P.info? U with
  | some i => Nat.beq i.size 1 && Nat.beq i.bytes 1 && (match i.zero with | some v => (MVal.int .u8 0).is v | none => false)
  | none => false
theorem u8Ty_info {P : Program} {U : Nat} (h : u8Ty P U = true) : ∃ i, P.info? U = some i ∧ i.size = 1 ∧ i.bytes = 1 ∧ i.zero = some (.int .u8 0) := by
  unfold u8Ty at h
  cases hi : P.info? U with
  | none => simp [hi] at h
  | some i =>
    simp only [hi, Bool.and_eq_true, Nat.beq_eq] at h
    obtain ⟨⟨h1, h2⟩, h3⟩ := h
    cases hz : i.zero with
    | none => simp [hz] at h3
    | some v =>
      simp only [hz] at h3
      exact ⟨i, rfl, h1, h2, by rw [hz, MVal.is_eq h3]; rfl⟩
def strTy (P : Program) (T : Nat) : Bool :=
  match P.underlying T with
  | some .string => true
  | _ => false
theorem strTy_eq {P : Program} {T : Nat} (h : strTy P T = true) : P.underlying T = some .string := by
  unfold strTy at h
  cases hu : P.underlying T with
  | none => simp [hu] at h
  | some d => cases d <;> simp_all
theorem fill_ones : ∀ (vs : List Value) (pre : List Value) (post : List Value), (∀ v ∈ vs, v.cells = #[v]) → vs.length = post.length →
    Instr.fill (fun i => some (i * 1, 1)) (pre ++ post).toArray ((List.range' pre.length vs.length).zip vs) = some (pre ++ vs).toArray
  | [], pre, post, _, h => by
    have : post = [] := by cases post <;> simp_all
    simp [Instr.fill, this]
  | v :: vs, pre, post, hv, h => by
    cases post with
    | nil => simp at h
    | cons p post =>
      have hc := hv v List.mem_cons_self
      have ih := fill_ones vs (pre ++ [v]) post (fun u hu => hv u (List.mem_cons_of_mem _ hu)) (by simpa using h)
      simp only [List.length_cons, List.range'_succ, List.zip_cons_cons, Instr.fill, hc]
      simp only [List.length_append, List.length_cons, List.length_nil, Nat.zero_add] at ih
      rw [if_neg (by simp)]
      have : ((#[v] : Array Value).zipIdx.foldl (fun cs (x : Value × Nat) => cs.setIfInBounds (pre.length * 1 + x.2) x.1) (pre ++ p :: post).toArray) = (pre ++ [v] ++ post).toArray := by
        simp
      rw [show (fun (cs : Array Value) (x : Value × Nat) => match x with | (c, j) => cs.setIfInBounds (pre.length * 1 + j) c) = (fun cs (x : Value × Nat) => cs.setIfInBounds (pre.length * 1 + x.2) x.1) from rfl, this]
      rw [ih]; simp
theorem fitParts_eval {a : Act} : ∀ {i : Nat} {xs : List MX} {ps : List (Nat × Operand)}, fitParts i xs ps = true → ps.map (fun (p : Nat × Operand) => (p.1, a.eval p.2)) = (List.range' i xs.length).zip (xs.map (MX.of a))
  | i, [], [], _ => rfl
  | i, [], _ :: _, h => by simp [fitParts] at h
  | i, _ :: _, [], h => by simp [fitParts] at h
  | i, x :: xs, (j, o) :: ps, h => by
    simp only [fitParts, Bool.and_eq_true, Nat.beq_eq] at h
    obtain ⟨⟨rfl, h2⟩, h3⟩ := h
    simp only [List.map_cons, List.length_cons, List.range'_succ, List.zip_cons_cons, MX.is_eval h2 a, fitParts_eval h3]
section
variable {P : Program} {Q : Exit → Act → World → Prop} {a : Act} {w : World} {ms : List MOp}
theorem ML.bsl {d T U : Nat} {xs : List MX} {bs : List UInt8} (hT : sliceOf P T U = true) (hU : u8Ty P U = true) (hx : xs.map (MX.of a) = bs.map byteV) (hn : xs.length ≤ 16)
    (h : ML P ms Q (wr a d (.slice (some ⟨w.heap.size, 0, none⟩) bs.length bs.length)) (w.alloc (.cells (bs.map byteV).toArray U))) : ML P (.bsl d T xs :: ms) Q a w := by
  have hlen : xs.length = bs.length := by have := congrArg List.length hx; simpa using this
  refine ML.step (d := some d) (v := .slice (some ⟨w.heap.size, 0, none⟩) bs.length bs.length) (w' := w.alloc (.cells (bs.map byteV).toArray U)) (fun o ho => ?_) h
  have hf := fitOper_op ho
  generalize hop : o.op = op at hf
  unfold execOp
  cases op <;> simp only [fitOp, Bool.and_eq_true, Bool.false_eq_true, Nat.beq_eq] at hf
  rename_i T' n ps
  obtain ⟨⟨⟨h1, h2⟩, h3⟩, h4⟩ := hf
  subst h2 h3
  obtain ⟨i, hi, hs, hb, hz⟩ := u8Ty_info hU
  refine ⟨dstIs_eq h1, .inl ?_⟩
  have hps : (ps.map fun (p : Nat × Operand) => (p.1, a.eval p.2)).toList = (List.range' 0 xs.length).zip (xs.map (MX.of a)) := by
    rw [Array.toList_map]; exact fitParts_eval h4
  have hfill := fill_ones (bs.map byteV) [] (List.replicate bs.length (.int .u8 0)) (by intro v hv; simp only [List.mem_map] at hv; obtain ⟨b, _, rfl⟩ := hv; rfl) (by simp)
  simp only [List.nil_append, List.length_nil, List.length_map, Nat.mul_one] at hfill
  simp only [hop, Sem.run_bind, Instr.buildSlice, run_underlying (sliceOf_eq hT), Result.andThen_ok, sizeOf, typeInfo, run_program, hi, Sem.run_pure, hs]
  rw [if_neg (by omega)]
  have hps' : (ps.map fun (x : Nat × Operand) => match x with | (i, x) => (i, a.eval x)).toList = (List.range' 0 bs.length).zip (bs.map byteV) := by
    rw [← hlen, ← hx]; exact hps
  have hzero : ∀ n : Nat, (Array.map (fun x => (Value.int IntKind.u8 0).cells[x % (Value.int IntKind.u8 0).cells.size]!) (Array.range n)) = (List.replicate n (Value.int IntKind.u8 0)).toArray := by
    intro n
    apply Array.toList_inj.1
    simp [Value.cells, Nat.mod_one]
    exact List.eq_replicate_iff.2 ⟨by simp, by simp⟩
  simp only [Nat.mul_one, hlen]
  by_cases h0 : bs.length = 0
  · have hb0 : bs = [] := List.eq_nil_of_length_eq_zero h0
    subst hb0
    simp only [List.length_nil, if_true, Sem.run_pure, Result.andThen_ok, Sem.run_bind]
    have hps0 : (ps.map fun (x : Nat × Operand) => match x with | (i, x) => (i, a.eval x)).toList = [] := by simpa using hps'
    simp only [hps0, Instr.fill]
    simp only [newRow, Sem.run_bind, run_newObj, Result.andThen_ok, Sem.run_pure]
    rw [show (Array.map (fun x => (#[] : Array Value)[x % (#[] : Array Value).size]!) (Array.range 0)) = #[] from by simp]
    rfl
  · rw [if_neg h0]
    simp only [zeroValue, typeInfo, Sem.run_bind, run_program, Result.andThen_ok, hi, Sem.run_pure, hz, hps', hzero, hfill, newRow, run_newObj]
    rfl
theorem ML.apOwn {d T U x y m c B : Nat} {ad : Option Addr} {bs l : List UInt8} {sv : Value} (hT : sliceOf P T U = true) (hU : u8Ty P U = true) (hx : rd a x = sv) (ho : OwnB U w B sv bs)
    (hy : rd a y = .slice ad m c) (hm : m = l.length) (hb : BytesAt w (fun _ => True) ad l) (hB : B ≤ w.heap.size) (hlim : bs.length + l.length ≤ lim)
    (h : ∀ sv' w', OwnB U w' B sv' (bs ++ l) → Below B w w' → w.grownBy w' sv.ownBlock → ML P ms Q (wr a d sv') w') : ML P (.ap d T T x y :: ms) Q a w := by
  obtain ⟨i, hi, hs, hby, hz⟩ := u8Ty_info hU
  have hl1 : lim = 1099511627776 := rfl
  have hbase : ∀ k, sv.ownBlock = some k → B ≤ k := fun k hk => (World.ownsRow.lt ho k hk).1
  cases ad with
  | some ad =>
    obtain ⟨v', w', h1, h2, h3, _⟩ := run_append_own (P := P) w B T 0 U i (.int .u8 0) 1 1 (sliceOf_eq hT) hi hz hs hby rfl (by omega) sv bs.length (bs.map byteV) ho ad m c (l.map byteV) (by simp [hm])
      (fun j u hu => by
        simp only [List.getElem?_map, Option.map_eq_some_iff] at hu
        obtain ⟨b, hb1, rfl⟩ := hu
        obtain ⟨g, o, he, _, hc⟩ := hb j b hb1
        cases he
        rw [Addr.add_mid]; exact hc)
      (by intro u hu; simp only [List.mem_map] at hu; obtain ⟨b, _, rfl⟩ := hu; rfl) (by simp only [maxLen]; omega) (by omega) hB
    refine ML.ap (v := v') (w' := w') (fun ty => by rw [hx, hy]; exact h1) (h v' w' ?_ ((Below.refl _ _).grown h3 hB hbase) h3)
    unfold OwnB
    rw [List.length_append, List.map_append, ← hm]
    exact h2
  | none =>
    have hl : l = [] := by
      cases l with
      | nil => rfl
      | cons b l =>
        obtain ⟨g, o, he, _⟩ := hb 0 b rfl
        simp at he
    subst hl
    simp only [List.length_nil] at hm
    subst hm
    have hrun : ∀ ty, (Builtin.append_ #[T, T] ty #[sv, .slice none 0 c]).run P w = .ok sv w := by
      intro ty
      rcases ho.2 with ⟨rfl, h0⟩ | ⟨g, cap, cur, rfl, _, _, hnc, _⟩
      · simp [Builtin.append_, run_underlying (sliceOf_eq hT), sizeOf, typeInfo, hi, Builtin.lenOf, Builtin.firstCells]
      · simp [Builtin.append_, run_underlying (sliceOf_eq hT), sizeOf, typeInfo, hi, Builtin.lenOf, Builtin.firstCells, hnc, storeCells]
    refine ML.ap (v := sv) (w' := w) (fun ty => by rw [hx, hy]; exact hrun ty) (h sv w ?_ (Below.refl _ _) ⟨rfl, rfl, rfl, Nat.le_refl _, fun _ _ _ => rfl⟩)
    rw [List.append_nil]; exact ho
theorem OwnB.nil (U : Nat) (w : World) (B : Nat) : OwnB U w B (.slice none 0 0) [] := World.ownsRow_nil w B U 1
theorem OwnB.alloc {U B : Nat} {sv : Value} {bs : List UInt8} (h : OwnB U w B sv bs) (o : Obj) : OwnB U (w.alloc o) B sv bs := World.ownsRow.alloc h o
theorem BytesAt.new {U : Nat} (l : List UInt8) : BytesAt (w.alloc (.cells (l.map byteV).toArray U)) (fun _ => True) (some ⟨w.heap.size, 0, none⟩) l := by
  intro j b hj
  refine ⟨w.heap.size, 0, rfl, trivial, ?_⟩
  rw [Nat.zero_add, World.cell?_alloc_new]
  simp [hj]
end
theorem calls_leaf {P : Program} {f : Nat} {fn : Func} {c : Code} {m : MCode} {args : List Value} {N : Nat} {w : World} {R : Ending → World → Prop} (hf : P.funcs[f]? = some fn) (hb : fn.body = some c) (hfit : fits m c = true) (hN : fn.ntmps = N)
    (hle : args.length ≤ N) (h : ∀ a, Loc N N (args0 args) a → MW P m (bodyPost P fn R) a w) : Calls P f args.toArray w R := by
  refine calls_of_wp hf hb (h _ ?_ c hfit)
  refine ⟨by simp; omega, rfl, fun s hs => ?_⟩
  simp only [rd, args0]
  rw [Array.getD_eq_getD_getElem?, Array.getElem?_append]
  by_cases h1 : s < args.length
  · simp [h1]
  · have : args.toArray.size ≤ s := by simpa using Nat.le_of_not_lt h1
    rw [if_neg (by simpa using h1)]
    simp only [List.getD_eq_getElem?_getD]
    rw [List.getElem?_eq_none (Nat.le_of_not_lt h1), Array.getElem?_replicate]
    split <;> rfl
theorem MW.ret1 {P : Program} {fn : Func} {R : Ending → World → Prop} {a : Act} {w : World} {r N L : Nat} {ρ : Nat → Value} {v : Value} (hl : Loc N L ρ a) (hr : fn.results = #[.tmp r]) (hv : rd a r = v) (h : R (.returned v) w) : MW P .rt (bodyPost P fn R) a w := by
  refine MW.rt (bodyPost_ret (v := v) ?_ hl.defers h)
  rw [results_tmp hr, ← hv]; rfl
structure IT where
  u8 : Nat
  u8s : Nat
  i8 : Nat
  i16 : Nat
  u16 : Nat
  i32 : Nat
  u32 : Nat
  i64 : Nat
  u64 : Nat
  int : Nat
  str : Nat
  bool : Nat
structure TOK (P : Program) (T : IT) : Prop where
  u8 : u8Ty P T.u8 = true
  u8i : intTy P T.u8 .u8 = true
  u8s : sliceOf P T.u8s T.u8 = true
  i8 : T.i8 ≠ 0 → intTy P T.i8 .i8 = true
  i16 : T.i16 ≠ 0 → intTy P T.i16 .i16 = true
  u16 : T.u16 ≠ 0 → intTy P T.u16 .u16 = true
  i32 : T.i32 ≠ 0 → intTy P T.i32 .i32 = true
  u32 : T.u32 ≠ 0 → intTy P T.u32 .u32 = true
  i64 : T.i64 ≠ 0 → intTy P T.i64 .i64 = true
  u64 : T.u64 ≠ 0 → intTy P T.u64 .u64 = true
  int : intTy P T.int .i64 = true
  str : T.str ≠ 0 → strTy P T.str = true
structure FnIs (P : Program) (f : Nat) (m : MCode) (N r : Nat) : Prop where
  ex : ∃ fn c, P.funcs[f]? = some fn ∧ fn.body = some c ∧ fits m c = true ∧ fn.ntmps = N ∧ fn.results = #[.tmp r]
  ent : entersB P f = true
theorem FnIs.calls {P : Program} {f N r : Nat} {m : MCode} (h : FnIs P f m N r) {args : List Value} {w : World} {R : Ending → World → Prop} (hle : args.length ≤ N)
    (hw : ∀ (a : Act) (fn : Func), fn.results = #[.tmp r] → Loc N N (args0 args) a → MW P m (bodyPost P fn R) a w) : Calls P f args.toArray w R := by
  obtain ⟨fn, c, h1, h2, h3, h4, h5⟩ := h.ex
  exact calls_leaf h1 h2 h3 h4 hle fun a hl => hw a fn h5 hl
section
variable {P : Program} {T : IT} {w : World}
theorem ML.octets {N B y d1 d2 r : Nat} {ks : List IntKind} {pre : List MOp} {xs : List MX} {ρ ρ' : Nat → Value} {a : Act} {bs l : List UInt8} {Q : Exit → Act → World → Prop} (tk : TOK P T)
    (hl : Loc N N ρ a) (he : Kx.evs ks pre ρ N = some ρ') (hc : CvOk P ks pre) (hr : ∀ m ∈ pre, ∀ s ∈ reads m, s < N) (hxs : xs.map (xof ρ') = l.map byteV) (hxN : ∀ x ∈ xs, ∀ s, x = .t s → s < N) (hx16 : xs.length ≤ 16)
    (hy : y < N) (hd1 : d1 < N) (hd2 : d2 < N) (hrN : r < N) (hyd : y ≠ d1) (ho : OwnB T.u8 w B (ρ' y) bs) (hB : B ≤ w.heap.size) (hlim : bs.length + l.length ≤ lim)
    (h : ∀ a' w' sv' ρ'', Loc N N ρ'' a' → ρ'' r = sv' → OwnB T.u8 w' B sv' (bs ++ l) → Below B w w' → Gr w w' (ρ' y) → Q .normal a' w') :
    ML P (pre ++ [.bsl d1 T.u8s xs, .ap d2 T.u8s T.u8s y d1, .mv r (.t d2)]) Q a w := by
  refine ML.evs hl he hc hr fun a1 hl1 => ?_
  have hsz := hl1.size
  have hxs' : xs.map (MX.of a1) = l.map byteV := by
    rw [← hxs]
    exact List.map_congr_left fun x hx => hl1.xof (hxN x hx)
  refine ML.bsl tk.u8s tk.u8 hxs' hx16 ?_
  have hl2 := hl1.put (v := .slice (some ⟨w.heap.size, 0, none⟩) l.length l.length) hd1
  refine ML.apOwn tk.u8s tk.u8 (bs := bs) (l := l) (B := B) (sv := ρ' y) (by rw [hl2.get y hy, upd_ne _ _ hyd]) (ho.alloc _) (hl2.get d1 hd1 |>.trans (upd_same _ _ _)) rfl (BytesAt.new l) (by simp; omega) hlim ?_
  intro sv' w' h1 h2 h3g
  have hl3 := hl2.put (v := sv') hd2
  refine ML.mv (ML.nil ?_)
  have : (MX.t d2).of (wr (wr a1 d1 (.slice (some ⟨w.heap.size, 0, none⟩) l.length l.length)) d2 sv') = sv' := rd_same (by simp only [size_wr]; omega)
  rw [this]
  refine h _ w' sv' _ (hl3.put hrN) (upd_same _ _ _) h1 (((Below.refl B w).alloc hB _).trans h2) fun k hk hne => ?_
  have hb := below_box w (.cells (l.map byteV).toArray T.u8)
  rw [h3g.block k (Nat.lt_of_lt_of_le hk hb.size) hne, hb.block k hk]
def octetsCode (T : IT) (pre : List MOp) (xs : List MX) (d1 d2 : Nat) : MCode :=
  rows [.rg [.mv 4 (.c .nslice)], .rg (pre ++ [.bsl d1 T.u8s xs, .ap d2 T.u8s T.u8s 5 d1, .mv 4 (.t d2)]), .rt]
theorem octets_calls {f N d1 d2 B : Nat} {ks : List IntKind} {pre : List MOp} {xs : List MX} {x sv : Value} {ρ' : Nat → Value} {bs l : List UInt8} (tk : TOK P T) (hf : FnIs P f (octetsCode T pre xs d1 d2) N 4)
    (he : Kx.evs ks pre (upd (args0 [sv, x]) 4 (.slice none 0 0)) N = some ρ') (hc : CvOk P ks pre) (hr : ∀ m ∈ pre, ∀ s ∈ reads m, s < N) (hxs : xs.map (xof ρ') = l.map byteV) (hxN : ∀ x ∈ xs, ∀ s, x = .t s → s < N) (hx16 : xs.length ≤ 16)
    (h5 : ρ' 5 = sv) (hN : 5 < N) (hd1 : d1 < N) (hd2 : d2 < N) (h5d : 5 ≠ d1) (ho : OwnB T.u8 w B sv bs) (hB : B ≤ w.heap.size) (hlim : bs.length + l.length ≤ lim) :
    Calls P f #[sv, x] w (fun e w' => ∃ sv', e = .returned sv' ∧ OwnB T.u8 w' B sv' (bs ++ l) ∧ Below B w w' ∧ Gr w w' sv) := by
  refine hf.calls (args := [sv, x]) (by simp; omega) fun a fn hres hl => ?_
  refine MW.sq (MW.rg (ML.mv (ML.nil ?_)))
  have hl1 := hl.put (v := .slice none 0 0) (show 4 < N by omega)
  refine MW.sq (MW.rg (ML.octets tk hl1 he hc hr hxs hxN hx16 hN hd1 hd2 (by omega) h5d (by rw [h5]; exact ho) hB hlim ?_))
  intro a' w' sv' ρ'' g1 g2 g3 g4 g5
  exact MW.ret1 g1 hres ((g1.get 4 (by omega)).trans g2) ⟨sv', rfl, g3, g4, by rw [← h5]; exact g5⟩
/-! The octets of numbers. -/
theorem byteV_of {n : Int} {k : Nat} (h0 : 0 ≤ n) (h : n.toNat % 256 = k % 256) : Value.int .u8 (IntKind.u8.wrap n) = byteV (UInt8.ofNat k) := by
  unfold byteV
  rw [IntKind.wrap_u8]
  have : (UInt8.ofNat k).toNat = k % 256 := by simp
  rw [this]
  congr 1
  omega
theorem be_one (n : Nat) : be n 1 = [UInt8.ofNat (n % 256)] := rfl
theorem be_two (n : Nat) : be n 2 = [UInt8.ofNat (n / 256 % 256), UInt8.ofNat (n % 256)] := rfl
theorem be_four (n : Nat) : be n 4 = [UInt8.ofNat (n / 256 / 256 / 256 % 256), UInt8.ofNat (n / 256 / 256 % 256), UInt8.ofNat (n / 256 % 256), UInt8.ofNat (n % 256)] := rfl
theorem be_eight (n : Nat) : be n 8 = [UInt8.ofNat (n / 256 / 256 / 256 / 256 / 256 / 256 / 256 % 256), UInt8.ofNat (n / 256 / 256 / 256 / 256 / 256 / 256 % 256), UInt8.ofNat (n / 256 / 256 / 256 / 256 / 256 % 256), UInt8.ofNat (n / 256 / 256 / 256 / 256 % 256), UInt8.ofNat (n / 256 / 256 / 256 % 256), UInt8.ofNat (n / 256 / 256 % 256), UInt8.ofNat (n / 256 % 256), UInt8.ofNat (n % 256)] := rfl
def code8 (T : IT) : MCode := octetsCode T [.mv 5 (.t 0), .mv 6 (.t 1), .cv 7 T.i8 T.u8 6] [.t 7] 8 9
theorem app8 {f : Nat} (tk : TOK P T) (h8 : T.i8 ≠ 0) (hf : FnIs P f (code8 T) 10 4) : ApG P T.u8 f (fun _ _ x out => ∃ n : Int, x = .int .i8 n ∧ out = fix n 1) := by
  refine ⟨hf.ent, ?_⟩
  rintro w B sv x bs out hB ho ⟨n, rfl, rfl⟩ hlim
  refine octets_calls (ks := [.u8]) (l := fix n 1) tk hf rfl ⟨⟨_, tk.i8 h8⟩, tk.u8i, trivial⟩ (by simp [reads, MX.slots]) ?_ (by simp) (by simp) rfl (by omega) (by omega) (by omega) (by omega) ho hB hlim
  simp only [List.map_cons, List.map_nil, fix, be_one]
  show [Value.int .u8 (IntKind.u8.wrap n)] = _
  congr 1
  rw [show IntKind.u8.wrap n = IntKind.u8.wrap (n % 256) from by rw [IntKind.wrap_u8, IntKind.wrap_u8]; omega]
  exact byteV_of (by omega) (by simp)
def code16 (T : IT) : MCode := octetsCode T [.mv 5 (.t 0), .mv 6 (.t 1), .b2 7 .shr (.t 6) (.c (.int .u64 8)), .cv 8 T.u16 T.u8 7, .mv 9 (.t 1), .cv 10 T.u16 T.u8 9] [.t 8, .t 10] 11 12
theorem appU16 {f : Nat} (tk : TOK P T) (h16 : T.u16 ≠ 0) (hf : FnIs P f (code16 T) 13 4) : ApG P T.u8 f (fun _ _ x out => ∃ n : Nat, n < 65536 ∧ x = .int .u16 n ∧ out = be n 2) := by
  refine ⟨hf.ent, ?_⟩
  rintro w B sv x bs out hB ho ⟨n, hn, rfl, rfl⟩ hlim
  refine octets_calls (ks := [.u8, .u8]) (l := be n 2) tk hf rfl ⟨⟨_, tk.u16 h16⟩, tk.u8i, ⟨_, tk.u16 h16⟩, tk.u8i, trivial⟩ (by simp [reads, MX.slots]) ?_ (by simp) (by simp) rfl (by omega) (by omega) (by omega) (by omega) ho hB hlim
  simp only [List.map_cons, List.map_nil, be_two]
  show [Value.int .u8 (IntKind.u8.wrap (Int.fdiv n 256)), Value.int .u8 (IntKind.u8.wrap n)] = _
  rw [byteV_of (k := n / 256 % 256) (by rw [Int.fdiv_eq_ediv_of_nonneg _ (by omega)]; omega) (by rw [Int.fdiv_eq_ediv_of_nonneg _ (by omega)]; omega), byteV_of (k := n % 256) (by omega) (by omega)]
def code32 (T : IT) : MCode := octetsCode T [.mv 5 (.t 0), .mv 6 (.t 1), .b2 7 .shr (.t 6) (.c (.int .u64 24)), .cv 8 T.u32 T.u8 7, .mv 9 (.t 1), .b2 10 .shr (.t 9) (.c (.int .u64 16)), .cv 11 T.u32 T.u8 10, .mv 12 (.t 1), .b2 13 .shr (.t 12) (.c (.int .u64 8)), .cv 14 T.u32 T.u8 13, .mv 15 (.t 1), .cv 16 T.u32 T.u8 15] [.t 8, .t 11, .t 14, .t 16] 17 18
theorem appU32 {f : Nat} (tk : TOK P T) (h32 : T.u32 ≠ 0) (hf : FnIs P f (code32 T) 19 4) : ApG P T.u8 f (fun _ _ x out => ∃ n : Nat, n < 4294967296 ∧ x = .int .u32 n ∧ out = be n 4) := by
  refine ⟨hf.ent, ?_⟩
  rintro w B sv x bs out hB ho ⟨n, hn, rfl, rfl⟩ hlim
  have q := tk.u32 h32
  refine octets_calls (ks := [.u8, .u8, .u8, .u8]) (l := be n 4) tk hf rfl ⟨⟨_, q⟩, tk.u8i, ⟨_, q⟩, tk.u8i, ⟨_, q⟩, tk.u8i, ⟨_, q⟩, tk.u8i, trivial⟩ (by simp [reads, MX.slots]) ?_ (by simp) (by simp) rfl (by omega) (by omega) (by omega) (by omega) ho hB hlim
  simp only [List.map_cons, List.map_nil, be_four]
  show [Value.int .u8 (IntKind.u8.wrap (Int.fdiv n 16777216)), Value.int .u8 (IntKind.u8.wrap (Int.fdiv n 65536)), Value.int .u8 (IntKind.u8.wrap (Int.fdiv n 256)), Value.int .u8 (IntKind.u8.wrap n)] = _
  rw [byteV_of (k := n / 256 / 256 / 256 % 256) (by rw [Int.fdiv_eq_ediv_of_nonneg _ (by omega)]; omega) (by rw [Int.fdiv_eq_ediv_of_nonneg _ (by omega)]; omega),
    byteV_of (k := n / 256 / 256 % 256) (by rw [Int.fdiv_eq_ediv_of_nonneg _ (by omega)]; omega) (by rw [Int.fdiv_eq_ediv_of_nonneg _ (by omega)]; omega),
    byteV_of (k := n / 256 % 256) (by rw [Int.fdiv_eq_ediv_of_nonneg _ (by omega)]; omega) (by rw [Int.fdiv_eq_ediv_of_nonneg _ (by omega)]; omega), byteV_of (k := n % 256) (by omega) (by omega)]
def code64 (T : IT) : MCode := octetsCode T [.mv 5 (.t 0), .mv 6 (.t 1), .b2 7 .shr (.t 6) (.c (.int .u64 56)), .cv 8 T.u64 T.u8 7, .mv 9 (.t 1), .b2 10 .shr (.t 9) (.c (.int .u64 48)), .cv 11 T.u64 T.u8 10,
  .mv 12 (.t 1), .b2 13 .shr (.t 12) (.c (.int .u64 40)), .cv 14 T.u64 T.u8 13, .mv 15 (.t 1), .b2 16 .shr (.t 15) (.c (.int .u64 32)), .cv 17 T.u64 T.u8 16, .mv 18 (.t 1), .b2 19 .shr (.t 18) (.c (.int .u64 24)), .cv 20 T.u64 T.u8 19,
  .mv 21 (.t 1), .b2 22 .shr (.t 21) (.c (.int .u64 16)), .cv 23 T.u64 T.u8 22, .mv 24 (.t 1), .b2 25 .shr (.t 24) (.c (.int .u64 8)), .cv 26 T.u64 T.u8 25, .mv 27 (.t 1), .cv 28 T.u64 T.u8 27] [.t 8, .t 11, .t 14, .t 17, .t 20, .t 23, .t 26, .t 28] 29 30
theorem appU64 {f : Nat} (tk : TOK P T) (h64 : T.u64 ≠ 0) (hf : FnIs P f (code64 T) 31 4) : ApG P T.u8 f (fun _ _ x out => ∃ n : Nat, n < 18446744073709551616 ∧ x = .int .u64 n ∧ out = be n 8) := by
  refine ⟨hf.ent, ?_⟩
  rintro w B sv x bs out hB ho ⟨n, hn, rfl, rfl⟩ hlim
  have q := tk.u64 h64
  refine octets_calls (ks := [.u8, .u8, .u8, .u8, .u8, .u8, .u8, .u8]) (l := be n 8) tk hf rfl ⟨⟨_, q⟩, tk.u8i, ⟨_, q⟩, tk.u8i, ⟨_, q⟩, tk.u8i, ⟨_, q⟩, tk.u8i, ⟨_, q⟩, tk.u8i, ⟨_, q⟩, tk.u8i, ⟨_, q⟩, tk.u8i, ⟨_, q⟩, tk.u8i, trivial⟩ (by simp [reads, MX.slots]) ?_ (by simp) (by simp) rfl (by omega) (by omega) (by omega) (by omega) ho hB hlim
  simp only [List.map_cons, List.map_nil, be_eight]
  show [Value.int .u8 (IntKind.u8.wrap (Int.fdiv n 72057594037927936)), Value.int .u8 (IntKind.u8.wrap (Int.fdiv n 281474976710656)), Value.int .u8 (IntKind.u8.wrap (Int.fdiv n 1099511627776)), Value.int .u8 (IntKind.u8.wrap (Int.fdiv n 4294967296)),
    Value.int .u8 (IntKind.u8.wrap (Int.fdiv n 16777216)), Value.int .u8 (IntKind.u8.wrap (Int.fdiv n 65536)), Value.int .u8 (IntKind.u8.wrap (Int.fdiv n 256)), Value.int .u8 (IntKind.u8.wrap n)] = _
  have go : ∀ (m : Int) (k : Nat), 0 < m → (Int.toNat ((n : Int) / m)) % 256 = k % 256 → Value.int .u8 (IntKind.u8.wrap (Int.fdiv n m)) = byteV (UInt8.ofNat k) := by
    intro m k hm hk
    rw [Int.fdiv_eq_ediv_of_nonneg _ (by omega)]
    exact byteV_of (Int.ediv_nonneg (by omega) (by omega)) hk
  rw [go 72057594037927936 (n / 256 / 256 / 256 / 256 / 256 / 256 / 256 % 256) (by omega) (by omega), go 281474976710656 (n / 256 / 256 / 256 / 256 / 256 / 256 % 256) (by omega) (by omega),
    go 1099511627776 (n / 256 / 256 / 256 / 256 / 256 % 256) (by omega) (by omega), go 4294967296 (n / 256 / 256 / 256 / 256 % 256) (by omega) (by omega), go 16777216 (n / 256 / 256 / 256 % 256) (by omega) (by omega),
    go 65536 (n / 256 / 256 % 256) (by omega) (by omega), go 256 (n / 256 % 256) (by omega) (by omega), byteV_of (k := n % 256) (by omega) (by omega)]
end
set_option linter.unusedVariables false
def uvTab : List Nat := [1, 1, 1, 1, 1, 1, 1, 1, 2, 2, 2, 2, 2, 2, 2, 3, 3, 3, 3, 3, 3, 3, 4, 4, 4, 4, 4, 4, 4, 5, 5, 5, 5, 5, 5, 5, 6, 6, 6, 6, 6, 6, 6, 7, 7, 7, 7, 7, 7, 7, 8, 8, 8, 8, 8, 8, 8, 9, 9, 9, 9, 9, 9, 9, 10, 0, 0, 0, 0, 0, 0, 0, 0, 0, 0, 0, 0, 0, 0, 0, 0, 0, 0, 0, 0, 0, 0, 0, 0, 0, 0, 0, 0, 0, 0, 0, 0, 0, 0, 0, 0, 0, 0, 0, 0, 0, 0, 0, 0, 0, 0, 0, 0, 0, 0, 0, 0, 0, 0, 0, 0, 0, 0, 0, 0, 0, 0, 0, 0, 0, 0, 0, 0, 0, 0, 0, 0, 0, 0, 0, 0, 0, 0, 0, 0, 0, 0, 0, 0, 0, 0, 0, 0, 0, 0, 0, 0, 0, 0, 0, 0, 0, 0, 0, 0, 0, 0, 0, 0, 0, 0, 0, 0, 0, 0, 0, 0, 0, 0, 0, 0, 0, 0, 0, 0, 0, 0, 0, 0, 0, 0, 0, 0, 0, 0, 0, 0, 0, 0, 0, 0, 0, 0, 0, 0, 0, 0, 0, 0, 0, 0, 0, 0, 0, 0, 0, 0, 0, 0, 0, 0, 0, 0, 0, 0, 0, 0, 0, 0, 0, 0, 0, 0, 0, 0, 0, 0, 0, 0, 0, 0, 0, 0, 0, 0, 0, 0, 0, 0, 0, 0, 0, 0, 0, 0, 0]
def len8 : List Nat := [0, 1, 2, 2, 3, 3, 3, 3, 4, 4, 4, 4, 4, 4, 4, 4, 5, 5, 5, 5, 5, 5, 5, 5, 5, 5, 5, 5, 5, 5, 5, 5, 6, 6, 6, 6, 6, 6, 6, 6, 6, 6, 6, 6, 6, 6, 6, 6, 6, 6, 6, 6, 6, 6, 6, 6, 6, 6, 6, 6, 6, 6, 6, 6, 7, 7, 7, 7, 7, 7, 7, 7, 7, 7, 7, 7, 7, 7, 7, 7, 7, 7, 7, 7, 7, 7, 7, 7, 7, 7, 7, 7, 7, 7, 7, 7, 7, 7, 7, 7, 7, 7, 7, 7, 7, 7, 7, 7, 7, 7, 7, 7, 7, 7, 7, 7, 7, 7, 7, 7, 7, 7, 7, 7, 7, 7, 7, 7, 8, 8, 8, 8, 8, 8, 8, 8, 8, 8, 8, 8, 8, 8, 8, 8, 8, 8, 8, 8, 8, 8, 8, 8, 8, 8, 8, 8, 8, 8, 8, 8, 8, 8, 8, 8, 8, 8, 8, 8, 8, 8, 8, 8, 8, 8, 8, 8, 8, 8, 8, 8, 8, 8, 8, 8, 8, 8, 8, 8, 8, 8, 8, 8, 8, 8, 8, 8, 8, 8, 8, 8, 8, 8, 8, 8, 8, 8, 8, 8, 8, 8, 8, 8, 8, 8, 8, 8, 8, 8, 8, 8, 8, 8, 8, 8, 8, 8, 8, 8, 8, 8, 8, 8, 8, 8, 8, 8, 8, 8, 8, 8, 8, 8, 8, 8, 8, 8, 8, 8, 8, 8, 8, 8, 8, 8, 8, 8]
section
variable {P : Program} {Q : Exit → Act → World → Prop} {a : Act} {w : World} {ms : List MOp} {T : IT}
theorem ML.ix {d V x i b : Nat} {k : IntKind} {s : List Nat} (hV : strTy P V = true) (hx : rd a x = .int k (i : Nat)) (hi : s[i]? = some b) (h : ML P ms Q (wr a d (.int .u8 (b : Nat))) w) : ML P (.ix d V s x :: ms) Q a w := by
  refine ML.step (d := some d) (v := .int .u8 (b : Nat)) (w' := w) (fun o ho => ?_) h
  have hf := fitOper_op ho
  generalize hop : o.op = op at hf
  unfold execOp
  cases op <;> simp only [fitOp, Bool.and_eq_true, Bool.false_eq_true, Nat.beq_eq] at hf
  rename_i V' y x'
  obtain ⟨⟨⟨h1, h2⟩, h3⟩, h4⟩ := hf
  subst h2
  cases y <;> try (simp at h4; done)
  rename_i v
  cases v <;> try (simp at h4; done)
  rename_i B
  have hm := fitStr_eq h4
  have hb : ∃ u : UInt8, B.data.toList[i]? = some u ∧ u.toNat = b := by
    rw [← hm, List.getElem?_map, Option.map_eq_some_iff] at hi
    exact hi
  obtain ⟨u, hu, rfl⟩ := hb
  have hlt : i < B.data.toList.length := (List.getElem?_eq_some_iff.1 hu).1
  have hget : B[i]? = some u := by
    have h5 : i < B.size := by have h6 := hlt; rw [Array.length_toList] at h6; exact h6
    rw [getElem?_pos B i h5]
    have h7 := (List.getElem?_eq_some_iff.1 hu).2
    rw [Array.getElem_toList] at h7
    exact congrArg some h7
  have he : a.eval (.tmp x) = .int k (i : Nat) := hx
  have hec : a.eval (.const (.string B)) = .string B := rfl
  refine ⟨dstIs_eq h1, .inl ?_⟩
  simp only [hop, tmpIs_eq h3, he, hec, Sem.run_bind, Instr.index, asIntOf, Sem.run_pure, Result.andThen_ok, run_underlying (strTy_eq hV)]
  rw [if_pos (by omega), Int.toNat_natCast, hget]
  rfl
def NumC (P : Program) (f : Nat) (k k' : IntKind) (dom : Nat → Prop) (g : Nat → Nat) : Prop :=
  entersB P f = true ∧ ∀ (w : World) (n : Nat), dom n → Calls P f #[.int k (n : Nat)] w (fun e w' => e = .returned (.int k' (g n : Nat)) ∧ w' = w)
def bitLen (n : Nat) : Nat := if n < 256 then len8.getD n 0 else if n < 65536 then 8 + len8.getD (n / 256) 0 else if n < 16777216 then 16 + len8.getD (n / 65536) 0 else 24 + len8.getD (n / 16777216) 0
def codeLen32 (T : IT) : MCode := rows [.rg [.mv 2 (.c (.int .i64 0))],
  .sq (.rg [.mv 3 (.t 0), .b2 4 .geq (.t 3) (.c (.int .u32 65536))]) (.cd 4 (.sq (.rg [.mv 5 (.t 0), .b2 6 .shr (.t 5) (.c (.int .u64 16)), .mv 0 (.t 6)]) (.rg [.mv 2 (.c (.int .i64 16))])) .sk),
  .sq (.rg [.mv 7 (.t 0), .b2 8 .geq (.t 7) (.c (.int .u32 256))]) (.cd 8 (.sq (.rg [.mv 9 (.t 0), .b2 10 .shr (.t 9) (.c (.int .u64 8)), .mv 0 (.t 10)]) (.rg [.mv 11 (.t 2), .b2 12 .add (.t 11) (.c (.int .i64 8)), .mv 2 (.t 12)])) .sk),
  .rg [.mv 13 (.t 2), .mv 14 (.t 0), .cv 15 T.u32 T.u8 14, .ix 16 T.str len8 15, .cv 17 T.u8 T.int 16, .b2 18 .add (.t 13) (.t 17), .mv 2 (.t 18)], .rt]
theorem len8_le : ∀ x : Fin 256, len8.getD x.val 0 ≤ 8 ∧ len8[x.val]? = some (len8.getD x.val 0) := by decide +kernel
theorem lenTail {a : Act} {ρ : Nat → Value} {x m : Nat} {fn : Func} {R : Ending → World → Prop} (tk : TOK P T) (h32 : T.u32 ≠ 0) (hstr : T.str ≠ 0) (hres : fn.results = #[.tmp 2]) (hl : Loc 19 19 ρ a) (h0 : ρ 0 = .int .u32 (x : Nat)) (h2 : ρ 2 = .int .i64 (m : Nat)) (hx : x < 256) (hm : m ≤ 24)
    (h : R (.returned (.int .i64 ((m + len8.getD x 0 : Nat) : Int))) w) : MW P (rows [.rg [.mv 13 (.t 2), .mv 14 (.t 0), .cv 15 T.u32 T.u8 14, .ix 16 T.str len8 15, .cv 17 T.u8 T.int 16, .b2 18 .add (.t 13) (.t 17), .mv 2 (.t 18)], .rt]) (bodyPost P fn R) a w := by
  have hsz := hl.size
  obtain ⟨hle, hget⟩ := len8_le ⟨x, hx⟩
  dsimp only at hle hget
  have r0 : rd a 0 = .int .u32 (x : Nat) := by rw [hl.get 0 (by omega), h0]
  have r2 : rd a 2 = .int .i64 (m : Nat) := by rw [hl.get 2 (by omega), h2]
  refine MW.sq (MW.rg (ML.mv (ML.mv (ML.cv (v := .int .u8 (x : Nat)) ?_ (ML.ix (k := .u8) (i := x) (b := len8.getD x 0) (tk.str hstr) ?_ hget (ML.cv (v := .int .i64 ((len8.getD x 0 : Nat) : Int)) ?_ (ML.b2 (v := .int .i64 ((m + len8.getD x 0 : Nat) : Int)) ?_ (ML.mv (ML.nil ?_)))))))))
  · simp (disch := (first | omega | (simp only [size_wr]; omega))) only [rd_same, rd_ne, MX.of]
    rw [r0, run_convert_int (tk.u32 h32) tk.u8i, IntKind.wrap_u8]
    congr 2; omega
  · simp (disch := (first | omega | (simp only [size_wr]; omega))) only [rd_same, rd_ne, MX.of]
  · simp (disch := (first | omega | (simp only [size_wr]; omega))) only [rd_same, rd_ne, MX.of]
    rw [run_convert_int tk.u8i tk.int, wrap_i64 (by omega) (by omega)]
  · simp (disch := (first | omega | (simp only [size_wr]; omega))) only [rd_same, rd_ne, MX.of]
    rw [r2]
    simp only [evB, if_true]
    rw [wrap_i64 (by omega) (by omega)]; rfl
  · simp (disch := (first | omega | (simp only [size_wr]; omega))) only [rd_same, rd_ne, MX.of]
    refine MW.ret1 (N := 19) (L := 0) (ρ := fun _ => undef) ⟨by simpa using hsz, by simpa using hl.defers, fun s hs => by omega⟩ hres (rd_same (by simp only [size_wr]; omega)) h
theorem len32_num {f : Nat} (tk : TOK P T) (h32 : T.u32 ≠ 0) (hstr : T.str ≠ 0) (hf : FnIs P f (codeLen32 T) 19 2) : NumC P f .u32 .i64 (· < 4294967296) bitLen := by
  refine ⟨hf.ent, fun w n hn => ?_⟩
  refine hf.calls (args := [.int .u32 (n : Nat)]) (by simp) fun a fn hres hl => ?_
  have hsz := hl.size
  refine MW.sq (MW.rg (ML.mv (ML.nil ?_)))
  have hl1 := hl.put (v := .int .i64 0) (show 2 < 19 by omega)
  generalize hA : wr a 2 (Value.int IntKind.i64 0) = a1 at hl1
  have hA' : wr a 2 ((MX.c (MVal.int IntKind.i64 0)).of a) = a1 := hA
  rw [hA']
  have hsz1 := hl1.size
  have q0 : rd a1 0 = .int .u32 (n : Nat) := by rw [hl1.get 0 (by omega)]; rfl
  have q2 : rd a1 2 = .int .i64 0 := by rw [hl1.get 2 (by omega)]; rfl
  have half : ∀ (a2 : Act) (ρ : Nat → Value) (x m : Nat), Loc 19 19 ρ a2 → ρ 0 = .int .u32 (x : Nat) → ρ 2 = .int .i64 (m : Nat) → x < 65536 → m ≤ 16 → bitLen n = (if x < 256 then m + len8.getD x 0 else m + 8 + len8.getD (x / 256) 0) →
      MW P (rows [.sq (.rg [.mv 7 (.t 0), .b2 8 .geq (.t 7) (.c (.int .u32 256))]) (.cd 8 (.sq (.rg [.mv 9 (.t 0), .b2 10 .shr (.t 9) (.c (.int .u64 8)), .mv 0 (.t 10)]) (.rg [.mv 11 (.t 2), .b2 12 .add (.t 11) (.c (.int .i64 8)), .mv 2 (.t 12)])) .sk),
        .rg [.mv 13 (.t 2), .mv 14 (.t 0), .cv 15 T.u32 T.u8 14, .ix 16 T.str len8 15, .cv 17 T.u8 T.int 16, .b2 18 .add (.t 13) (.t 17), .mv 2 (.t 18)], .rt]) (bodyPost P fn fun e w' => e = .returned (.int .i64 (bitLen n : Nat)) ∧ w' = w) a2 w := by
    intro a2 ρ x m hl2 h0 h2 hx hm hb
    have hsz2 := hl2.size
    have p0 : rd a2 0 = .int .u32 (x : Nat) := by rw [hl2.get 0 (by omega), h0]
    refine MW.sq (MW.sq (MW.rg (ML.mv (ML.b2 (v := .bool (decide ((256 : Int) ≤ x))) ?_ (ML.nil ?_)))))
    · simp (disch := (first | omega | (simp only [size_wr]; omega))) only [rd_same, rd_ne, MX.of]
      rw [p0]; rfl
    have hl3 := (hl2.put (v := (MX.t 0).of a2) (show 7 < 19 by omega)).put (v := .bool (decide ((256 : Int) ≤ x))) (show 8 < 19 by omega)
    have hb8 : rd (wr (wr a2 7 ((MX.t 0).of a2)) 8 (.bool (decide ((256 : Int) ≤ x)))) 8 = .bool (decide ((256 : Int) ≤ x)) := rd_same (by simp only [size_wr]; omega)
    revert hl3 hb8
    generalize wr (wr a2 7 ((MX.t 0).of a2)) 8 (.bool (decide ((256 : Int) ≤ x))) = a3
    intro hl3 hb8
    refine MW.cd (b := decide ((256 : Int) ≤ x)) hb8 (fun e => ?_) (fun e => ?_)
    · have hge : 256 ≤ x := by have := of_decide_eq_true e; omega
      have hsz3 := hl3.size
      have p0' := (hl3.get 0 (by omega)).trans ((upd_ne _ _ (by omega)).trans ((upd_ne _ _ (by omega)).trans h0))
      refine MW.sq (MW.rg (ML.mv (ML.b2 (v := .int .u32 ((x / 256 : Nat) : Int)) ?_ (ML.mv (ML.nil ?_)))))
      · simp (disch := (first | omega | (simp only [size_wr]; omega))) only [rd_same, MX.of]
        rw [p0']
        show some (Value.int .u32 (Int.fdiv x 256)) = _
        rw [Int.fdiv_eq_ediv_of_nonneg _ (by omega)]; rfl
      have hl4 := ((hl3.put (v := (MX.t 0).of a3) (show 9 < 19 by omega)).put (v := .int .u32 ((x / 256 : Nat) : Int)) (show 10 < 19 by omega)).put (v := .int .u32 ((x / 256 : Nat) : Int)) (show 0 < 19 by omega)
      simp (disch := (first | omega | (simp only [size_wr]; omega))) only [rd_same, rd_ne, MX.of] at hl4 ⊢
      revert hl4
      generalize wr (wr (wr a3 9 (rd a3 0)) 10 (.int .u32 ((x / 256 : Nat) : Int))) 0 (.int .u32 ((x / 256 : Nat) : Int)) = a4
      intro hl4
      have hsz4 := hl4.size
      have p2' := hl4.get 2 (by omega)
      rw [upd_ne _ _ (by omega), upd_ne _ _ (by omega), upd_ne _ _ (by omega), upd_ne _ _ (by omega), upd_ne _ _ (by omega), h2] at p2'
      refine MW.rg (ML.mv (ML.b2 (v := .int .i64 ((m + 8 : Nat) : Int)) ?_ (ML.mv (ML.nil ?_))))
      · simp (disch := (first | omega | (simp only [size_wr]; omega))) only [rd_same, MX.of]
        rw [p2']
        show some (Value.int .i64 (IntKind.i64.wrap (m + 8))) = _
        rw [wrap_i64 (by omega) (by omega)]; rfl
      have hl5 := ((hl4.put (v := (.int .i64 (m : Nat) : Value)) (show 11 < 19 by omega)).put (v := .int .i64 ((m + 8 : Nat) : Int)) (show 12 < 19 by omega)).put (v := .int .i64 ((m + 8 : Nat) : Int)) (show 2 < 19 by omega)
      simp (disch := (first | omega | (simp only [size_wr]; omega))) only [rd_same, MX.of]
      rw [p2']
      show MW P (rows [_, _]) _ _ w
      refine lenTail tk h32 hstr hres hl5 (x := x / 256) (m := m + 8) ?_ (upd_same _ _ _) (by omega) (by omega) ⟨?_, rfl⟩
      · rw [upd_ne _ _ (by omega), upd_ne _ _ (by omega), upd_ne _ _ (by omega), upd_same]
      · rw [hb, if_neg (by omega)]
    · have hlt : x < 256 := by have := of_decide_eq_false e; omega
      refine MW.sk ?_
      show MW P (rows [_, _]) _ _ w
      refine lenTail tk h32 hstr hres hl3 (x := x) (m := m) ?_ ?_ hlt (by omega) ⟨?_, rfl⟩
      · rw [upd_ne _ _ (by omega), upd_ne _ _ (by omega), h0]
      · rw [upd_ne _ _ (by omega), upd_ne _ _ (by omega), h2]
      · rw [hb, if_pos hlt]
  refine MW.sq (MW.sq (MW.rg (ML.mv (ML.b2 (v := .bool (decide ((65536 : Int) ≤ n))) ?_ (ML.nil ?_)))))
  · simp (disch := (first | omega | (simp only [size_wr]; omega))) only [rd_same, rd_ne, MX.of]
    rw [q0]; rfl
  have hl3 := (hl1.put (v := (MX.t 0).of a1) (show 3 < 19 by omega)).put (v := .bool (decide ((65536 : Int) ≤ n))) (show 4 < 19 by omega)
  have hb4 : rd (wr (wr a1 3 ((MX.t 0).of a1)) 4 (.bool (decide ((65536 : Int) ≤ n)))) 4 = .bool (decide ((65536 : Int) ≤ n)) := rd_same (by simp only [size_wr]; omega)
  revert hl3 hb4
  generalize wr (wr a1 3 ((MX.t 0).of a1)) 4 (.bool (decide ((65536 : Int) ≤ n))) = a3
  intro hl3 hb4
  refine MW.cd (b := decide ((65536 : Int) ≤ n)) hb4 (fun e => ?_) (fun e => ?_)
  · have hge : 65536 ≤ n := by have := of_decide_eq_true e; omega
    have hsz3 := hl3.size
    have p0' := (hl3.get 0 (by omega)).trans ((upd_ne _ _ (by omega)).trans ((upd_ne _ _ (by omega)).trans ((hl1.get 0 (by omega)).symm.trans q0)))
    refine MW.sq (MW.rg (ML.mv (ML.b2 (v := .int .u32 ((n / 65536 : Nat) : Int)) ?_ (ML.mv (ML.nil ?_)))))
    · simp (disch := (first | omega | (simp only [size_wr]; omega))) only [rd_same, MX.of]
      rw [p0']
      show some (Value.int .u32 (Int.fdiv n 65536)) = _
      rw [Int.fdiv_eq_ediv_of_nonneg _ (by omega)]; rfl
    have hl4 := ((hl3.put (v := (MX.t 0).of a3) (show 5 < 19 by omega)).put (v := .int .u32 ((n / 65536 : Nat) : Int)) (show 6 < 19 by omega)).put (v := .int .u32 ((n / 65536 : Nat) : Int)) (show 0 < 19 by omega)
    simp (disch := (first | omega | (simp only [size_wr]; omega))) only [rd_same, rd_ne, MX.of] at hl4 ⊢
    refine MW.rg (ML.mv (ML.nil ?_))
    have hl5 := hl4.put (v := (.int .i64 16 : Value)) (show 2 < 19 by omega)
    refine half _ _ (n / 65536) 16 hl5 ?_ (upd_same _ _ _) (by omega) (by omega) ?_
    · rw [upd_ne _ _ (by omega), upd_same]
    · unfold bitLen
      rw [if_neg (by omega), if_neg (by omega)]
      by_cases h6 : n < 16777216
      · rw [if_pos h6, if_pos (by omega)]
      · rw [if_neg h6, if_neg (by omega)]
        rw [show n / 65536 / 256 = n / 16777216 from by omega]
  · have hlt : n < 65536 := by have := of_decide_eq_false e; omega
    refine MW.sk ?_
    refine half _ _ n 0 hl3 ?_ ?_ hlt (by omega) ?_
    · rw [upd_ne _ _ (by omega), upd_ne _ _ (by omega)]; exact (hl1.get 0 (by omega)).symm.trans q0
    · rw [upd_ne _ _ (by omega), upd_ne _ _ (by omega)]; exact (hl1.get 2 (by omega)).symm.trans q2
    · unfold bitLen
      by_cases h6 : n < 256
      · rw [if_pos h6, if_pos h6, Nat.zero_add]
      · rw [if_neg h6, if_pos hlt, if_neg h6]
end
set_option linter.unusedVariables false
def uvLen (n : Nat) : Nat := uvTab.getD (bitLen n) 0
theorem tab1 : ∀ x : Fin 256, uvTab.getD (len8.getD x.val 0) 0 = if x.val < 128 then 1 else 2 := by decide +kernel
theorem tab2 : ∀ x : Fin 256, x.val ≠ 0 → uvTab.getD (8 + len8.getD x.val 0) 0 = if x.val < 64 then 2 else 3 := by decide +kernel
theorem tab3 : ∀ x : Fin 256, x.val ≠ 0 → uvTab.getD (16 + len8.getD x.val 0) 0 = if x.val < 32 then 3 else 4 := by decide +kernel
theorem tab4 : ∀ x : Fin 256, x.val ≠ 0 → uvTab.getD (24 + len8.getD x.val 0) 0 = if x.val < 16 then 4 else 5 := by decide +kernel
theorem tabIn : ∀ x : Fin 33, uvTab[x.val]? = some (uvTab.getD x.val 0) := by decide +kernel
theorem bitLen_le {n : Nat} (h : n < 4294967296) : bitLen n ≤ 32 := by
  unfold bitLen
  split
  · have := (len8_le ⟨n, by assumption⟩).1; dsimp only at this; omega
  · split
    · have := (len8_le ⟨n / 256, by omega⟩).1; dsimp only at this; omega
    · split
      · have := (len8_le ⟨n / 65536, by omega⟩).1; dsimp only at this; omega
      · have := (len8_le ⟨n / 16777216, by omega⟩).1; dsimp only at this; omega
theorem uvLen_eq {n : Nat} (h : n < 4294967296) : uvLen n = if n < 128 then 1 else if n < 16384 then 2 else if n < 2097152 then 3 else if n < 268435456 then 4 else 5 := by
  unfold uvLen bitLen
  by_cases h1 : n < 256
  · rw [if_pos h1, tab1 ⟨n, h1⟩]; dsimp only; repeat' split
    all_goals omega
  · rw [if_neg h1]
    by_cases h2 : n < 65536
    · rw [if_pos h2, tab2 ⟨n / 256, by omega⟩ (by dsimp only; omega)]; dsimp only; repeat' split
      all_goals omega
    · rw [if_neg h2]
      by_cases h3 : n < 16777216
      · rw [if_pos h3, tab3 ⟨n / 65536, by omega⟩ (by dsimp only; omega)]; dsimp only; repeat' split
        all_goals omega
      · rw [if_neg h3, tab4 ⟨n / 16777216, by omega⟩ (by dsimp only; omega)]; dsimp only; repeat' split
        all_goals omega
section
variable {P : Program} {T : IT} {w : World}
def codeUvLen (T : IT) (fl : Nat) : MCode := rows [.rg [.mv 2 (.c (.int .i64 0))], .rg [.mv 3 (.t 0), .ca 4 fl [.t 3], .cv 5 T.int T.u8 4, .ix 6 T.str uvTab 5, .cv 7 T.u8 T.int 6, .mv 2 (.t 7)], .rt]
theorem uvLen_num {f fl : Nat} (tk : TOK P T) (hstr : T.str ≠ 0) (hf : FnIs P f (codeUvLen T fl) 8 2) (hl : NumC P fl .u32 .i64 (· < 4294967296) bitLen) : NumC P f .u32 .i64 (· < 4294967296) uvLen := by
  refine ⟨hf.ent, fun w n hn => ?_⟩
  refine hf.calls (args := [.int .u32 (n : Nat)]) (by simp) fun a fn hres hl0 => ?_
  have hsz := hl0.size
  have hble := bitLen_le hn
  have hv5 : uvLen n ≤ 5 := by rw [uvLen_eq hn]; repeat' split
                               all_goals omega
  refine MW.sq (MW.rg (ML.mv (ML.nil ?_)))
  have hl1 := hl0.put (v := .int .i64 0) (show 2 < 8 by omega)
  have q0 : rd (wr a 2 (.int .i64 0)) 0 = .int .u32 (n : Nat) := by rw [hl1.get 0 (by omega)]; rfl
  show MW P _ _ (wr a 2 (.int .i64 0)) w
  revert hl1 q0
  generalize wr a 2 (.int .i64 0) = a1
  intro hl1 q0
  have hsz1 := hl1.size
  refine MW.sq (MW.rg (ML.mv (ML.ca (R := fun v w' => v = .int .i64 (bitLen n : Nat) ∧ w' = w) hl.1 ?_ ?_)))
  · simp (disch := (first | omega | (simp only [size_wr]; omega))) only [rd_same, rd_ne, MX.of, List.map_cons, List.map_nil]
    rw [q0]
    refine (hl.2 w n hn).mono ?_
    rintro e w' ⟨rfl, rfl⟩
    exact ⟨_, rfl, rfl, rfl⟩
  · rintro v w' ⟨rfl, rfl⟩
    refine ML.cv (v := .int .u8 (bitLen n : Nat)) ?_ (ML.ix (k := .u8) (i := bitLen n) (b := uvLen n) (tk.str hstr) ?_ (tabIn ⟨bitLen n, by omega⟩) (ML.cv (v := .int .i64 (uvLen n : Nat)) ?_ (ML.mv (ML.nil ?_))))
    · simp (disch := (first | omega | (simp only [size_wr]; omega))) only [rd_same, rd_ne, MX.of]
      rw [run_convert_int tk.int tk.u8i, IntKind.wrap_u8]
      congr 2; omega
    · simp (disch := (first | omega | (simp only [size_wr]; omega))) only [rd_same, rd_ne, MX.of]
    · simp (disch := (first | omega | (simp only [size_wr]; omega))) only [rd_same, rd_ne, MX.of]
      rw [run_convert_int tk.u8i tk.int, wrap_i64 (by omega) (by omega)]
    · simp (disch := (first | omega | (simp only [size_wr]; omega))) only [rd_same, rd_ne, MX.of]
      exact MW.ret1 (N := 8) (L := 0) (ρ := fun _ => undef) ⟨by simpa using hsz1, by simpa using hl1.defers, fun s hs => by omega⟩ hres (rd_same (by simp only [size_wr]; omega)) ⟨rfl, rfl⟩
/-! Groups of seven bits. -/
theorem toNat_ofInt {n : Nat} (h : n < 4294967296) : (BitVec.ofInt 32 (n : Int)).toNat = n := by
  rw [BitVec.toNat_ofInt]; omega
theorem and127 {n : Nat} (h : n < 4294967296) : IntKind.u32.wrap ((BitVec.ofInt IntKind.u32.bits (n : Int) &&& BitVec.ofInt IntKind.u32.bits 127).toNat : Int) = ((n % 128 : Nat) : Int) := by
  show IntKind.u32.wrap ((BitVec.ofInt 32 (n : Int) &&& BitVec.ofInt 32 127).toNat : Int) = _
  rw [BitVec.toNat_and, toNat_ofInt h, show (BitVec.ofInt 32 127).toNat = 2 ^ 7 - 1 from rfl, Nat.and_two_pow_sub_one_eq_mod, wrap_u32 (by omega) (by omega)]
theorem or128 {n : Nat} (h : n < 128) : IntKind.u32.wrap ((BitVec.ofInt IntKind.u32.bits (n : Int) ||| BitVec.ofInt IntKind.u32.bits 128).toNat : Int) = ((n + 128 : Nat) : Int) := by
  show IntKind.u32.wrap ((BitVec.ofInt 32 (n : Int) ||| BitVec.ofInt 32 128).toNat : Int) = _
  rw [BitVec.toNat_or, toNat_ofInt (by omega), show (BitVec.ofInt 32 128).toNat = 2 ^ 7 from rfl]
  have := Nat.two_pow_add_eq_or_of_lt (show n < 2 ^ 7 from h) 1
  rw [Nat.or_comm, show 2 ^ 7 ||| n = n + 128 from by rw [show (2 : Nat) ^ 7 * 1 = 2 ^ 7 from rfl] at this; omega, wrap_u32 (by omega) (by omega)]
theorem grp {n : Nat} (h : n < 4294967296) : IntKind.u8.wrap (IntKind.u32.wrap ((BitVec.ofInt IntKind.u32.bits (IntKind.u32.wrap ((BitVec.ofInt IntKind.u32.bits (n : Int) &&& BitVec.ofInt IntKind.u32.bits 127).toNat : Int)) ||| BitVec.ofInt IntKind.u32.bits 128).toNat : Int)) = ((n % 128 + 128 : Nat) : Int) := by
  rw [and127 h, or128 (by omega), IntKind.wrap_u8]; omega
theorem shr_nat (n m : Nat) (hm : 0 < m) : Int.fdiv (n : Int) (m : Int) = ((n / m : Nat) : Int) := by
  rw [Int.fdiv_eq_ediv_of_nonneg _ (by omega)]; rfl
theorem byteV_nat {n : Nat} (h : n < 256) : Value.int .u8 ((n : Nat) : Int) = byteV (UInt8.ofNat n) := by
  unfold byteV
  have : (UInt8.ofNat n).toNat = n := by simp; omega
  rw [this]
theorem byteV_wrap {n : Nat} (h : n < 256) : Value.int .u8 (IntKind.u8.wrap ((n : Nat) : Int)) = byteV (UInt8.ofNat n) := by
  rw [IntKind.wrap_u8, show ((n : Int) % 256) = ((n : Nat) : Int) from by omega]; exact byteV_nat h
def grpOps (T : IT) (t sh : Nat) : List MOp := [.mv t (.t 1), .b2 (t + 1) .shr (.t t) (.c (.int .u64 sh)), .b2 (t + 2) .and (.t (t + 1)) (.c (.int .u32 127)), .b2 (t + 3) .or (.t (t + 2)) (.c (.int .u32 128)), .cv (t + 4) T.u32 T.u8 (t + 3)]
def grpOp0 (T : IT) (t : Nat) : List MOp := [.mv t (.t 1), .b2 (t + 1) .and (.t t) (.c (.int .u32 127)), .b2 (t + 2) .or (.t (t + 1)) (.c (.int .u32 128)), .cv (t + 3) T.u32 T.u8 (t + 2)]
def lastOps (T : IT) (t sh : Nat) : List MOp := [.mv t (.t 1), .b2 (t + 1) .shr (.t t) (.c (.int .u64 sh)), .cv (t + 2) T.u32 T.u8 (t + 1)]
def case5 (T : IT) : List MOp := .mv 9 (.t 0) :: (grpOp0 T 10 ++ (grpOps T 14 7 ++ (grpOps T 19 14 ++ (grpOps T 24 21 ++ lastOps T 29 28))))
def case4 (T : IT) : List MOp := .mv 36 (.t 0) :: (grpOp0 T 37 ++ (grpOps T 41 7 ++ (grpOps T 46 14 ++ lastOps T 51 21)))
def case3 (T : IT) : List MOp := .mv 58 (.t 0) :: (grpOp0 T 59 ++ (grpOps T 63 7 ++ lastOps T 68 14))
def case2 (T : IT) : List MOp := .mv 75 (.t 0) :: (grpOp0 T 76 ++ lastOps T 80 7)
def case1 (T : IT) : List MOp := [.mv 87 (.t 0), .mv 88 (.t 1), .cv 89 T.u32 T.u8 88]
def tailU (T : IT) (pre : List MOp) (xs : List MX) (y d1 d2 : Nat) : MCode := .sq (.rg (pre ++ [.bsl d1 T.u8s xs, .ap d2 T.u8s T.u8s y d1, .mv 4 (.t d2)])) .rt
def codeUv (T : IT) (fl : Nat) : MCode := rows [.rg [.mv 4 (.c .nslice)], .sq (.rg [.mv 5 (.t 1), .ca 6 fl [.t 5]])
  (.bl 0 (.sq (.rg [.bi 8 .eql T.int (.t 6) (.c (.int .i64 5)), .mv 7 (.t 8)]) (.cd 7 (tailU T (case5 T) [.t 13, .t 18, .t 23, .t 28, .t 31] 9 32 33)
    (.sq (.rg [.bi 35 .eql T.int (.t 6) (.c (.int .i64 4)), .mv 34 (.t 35)]) (.cd 34 (tailU T (case4 T) [.t 40, .t 45, .t 50, .t 53] 36 54 55)
      (.sq (.rg [.bi 57 .eql T.int (.t 6) (.c (.int .i64 3)), .mv 56 (.t 57)]) (.cd 56 (tailU T (case3 T) [.t 62, .t 67, .t 70] 58 71 72)
        (.sq (.rg [.bi 74 .eql T.int (.t 6) (.c (.int .i64 2)), .mv 73 (.t 74)]) (.cd 73 (tailU T (case2 T) [.t 79, .t 82] 75 83 84)
          (.sq (.rg [.bi 86 .eql T.int (.t 6) (.c (.int .i64 1)), .mv 85 (.t 86)]) (.cd 85 (tailU T (case1 T) [.t 89] 87 90 91) .sk))))))))))),
  .rg [.mv 92 (.t 0), .mv 4 (.t 92)], .rt]
theorem uv1 {n : Nat} (h : n < 128) : uv n = [UInt8.ofNat n] := by simp [uv, uvb, h]
theorem uv2 {n : Nat} (h0 : 128 ≤ n) (h : n < 16384) : uv n = [UInt8.ofNat (n % 128 + 128), UInt8.ofNat (n / 128)] := by
  have h1 : ¬ n < 128 := by omega
  have h2 : n / 128 < 128 := by omega
  simp [uv, uvb, h1, h2]
theorem uv3 {n : Nat} (h0 : 16384 ≤ n) (h : n < 2097152) : uv n = [UInt8.ofNat (n % 128 + 128), UInt8.ofNat (n / 128 % 128 + 128), UInt8.ofNat (n / 128 / 128)] := by
  have h1 : ¬ n < 128 := by omega
  have h2 : ¬ n / 128 < 128 := by omega
  have h3 : n / 128 / 128 < 128 := by omega
  simp only [uv, uvb, h1, h2, h3, if_true, if_false]
theorem uv4 {n : Nat} (h0 : 2097152 ≤ n) (h : n < 268435456) : uv n = [UInt8.ofNat (n % 128 + 128), UInt8.ofNat (n / 128 % 128 + 128), UInt8.ofNat (n / 128 / 128 % 128 + 128), UInt8.ofNat (n / 128 / 128 / 128)] := by
  have h1 : ¬ n < 128 := by omega
  have h2 : ¬ n / 128 < 128 := by omega
  have h3 : ¬ n / 128 / 128 < 128 := by omega
  have h4 : n / 128 / 128 / 128 < 128 := by omega
  simp only [uv, uvb, h1, h2, h3, h4, if_true, if_false]
theorem uv5 {n : Nat} (h0 : 268435456 ≤ n) (h : n < 4294967296) : uv n = [UInt8.ofNat (n % 128 + 128), UInt8.ofNat (n / 128 % 128 + 128), UInt8.ofNat (n / 128 / 128 % 128 + 128), UInt8.ofNat (n / 128 / 128 / 128 % 128 + 128), UInt8.ofNat (n / 128 / 128 / 128 / 128)] := by
  have h1 : ¬ n < 128 := by omega
  have h2 : ¬ n / 128 < 128 := by omega
  have h3 : ¬ n / 128 / 128 < 128 := by omega
  have h4 : ¬ n / 128 / 128 / 128 < 128 := by omega
  have h5 : n / 128 / 128 / 128 / 128 < 128 := by omega
  simp only [uv, uvb, h1, h2, h3, h4, h5, if_true, if_false]
theorem tailU_ok {B : Nat} {ks : List IntKind} {pre : List MOp} {xs : List MX} {y d1 d2 : Nat} {ρ ρ' : Nat → Value} {a : Act} {sv : Value} {bs l : List UInt8} {fn : Func} {Q : Exit → Act → World → Prop} (tk : TOK P T)
    (hres : fn.results = #[.tmp 4]) (hl : Loc 93 93 ρ a) (he : Kx.evs ks pre ρ 93 = some ρ') (hc : CvOk P ks pre) (hr : ∀ m ∈ pre, ∀ s ∈ reads m, s < 93) (hxs : xs.map (xof ρ') = l.map byteV) (hxN : ∀ x ∈ xs, ∀ s, x = .t s → s < 93) (hx16 : xs.length ≤ 16)
    (hy : y < 93) (hd1 : d1 < 93) (hd2 : d2 < 93) (hyd : y ≠ d1) (hsv : ρ' y = sv) (ho : OwnB T.u8 w B sv bs) (hB : B ≤ w.heap.size) (hlim : bs.length + l.length ≤ lim)
    (hQ : ∀ a' w', bodyPost P fn (fun e w' => ∃ sv', e = .returned sv' ∧ OwnB T.u8 w' B sv' (bs ++ l) ∧ Below B w w' ∧ Gr w w' sv) .ret a' w' → Q .ret a' w') : MW P (tailU T pre xs y d1 d2) Q a w := by
  refine MW.sq (MW.rg (ML.octets tk hl he hc hr hxs hxN hx16 hy hd1 hd2 (by omega) hyd (by rw [hsv]; exact ho) hB hlim ?_))
  intro a' w' sv' ρ'' g1 g2 g3 g4 g5
  refine MW.rt (hQ a' w' ?_)
  refine bodyPost_ret (v := sv') ?_ g1.defers ⟨sv', rfl, g3, g4, by rw [← hsv]; exact g5⟩
  rw [results_tmp hres]
  congr 1
  exact (g1.get 4 (by omega)).trans g2
abbrev gV (x : Int) : Value := .int .u8 (IntKind.u8.wrap (IntKind.u32.wrap ((BitVec.ofInt IntKind.u32.bits (IntKind.u32.wrap ((BitVec.ofInt IntKind.u32.bits x &&& BitVec.ofInt IntKind.u32.bits 127).toNat : Int)) ||| BitVec.ofInt IntKind.u32.bits 128).toNat : Int)))
abbrev lV (x : Int) : Value := .int .u8 (IntKind.u8.wrap x)
theorem gV_eq {n : Nat} (h : n < 4294967296) : gV (n : Int) = byteV (UInt8.ofNat (n % 128 + 128)) := by
  unfold gV; rw [grp h]; exact byteV_nat (by omega)
theorem gV_div {n m : Nat} (h : n < 4294967296) (hm : 0 < m) : gV (Int.fdiv (n : Int) (m : Int)) = byteV (UInt8.ofNat (n / m % 128 + 128)) := by
  rw [shr_nat n m hm]; exact gV_eq (Nat.lt_of_le_of_lt (Nat.div_le_self n m) h)
theorem lV_div {n m : Nat} (h : n / m < 256) (hm : 0 < m) : lV (Int.fdiv (n : Int) (m : Int)) = byteV (UInt8.ofNat (n / m)) := by
  unfold lV; rw [shr_nat n m hm]; exact byteV_wrap h
def UvarG (P : Program) (U f : Nat) : Prop := ApG P U f (fun _ _ x out => ∃ n : Nat, n < 4294967296 ∧ x = .int .u32 n ∧ out = uv n)
set_option maxHeartbeats 1000000 in
theorem appUvG {f fl : Nat} (tk : TOK P T) (h32 : T.u32 ≠ 0) (hf : FnIs P f (codeUv T fl) 93 4) (hlen : NumC P fl .u32 .i64 (· < 4294967296) uvLen) : UvarG P T.u8 f := by
  refine ⟨hf.ent, ?_⟩
  rintro w B sv x bs out hB ho ⟨n, hn, rfl, rfl⟩ hlim
  have q := tk.u32 h32
  have hk := uvLen_eq hn
  refine hf.calls (args := [sv, .int .u32 (n : Nat)]) (by simp) fun a fn hres hl0 => ?_
  have hsz := hl0.size
  refine MW.sq (MW.rg (ML.mv (ML.nil ?_)))
  refine MW.sq (MW.sq (MW.rg (ML.mv (ML.ca (R := fun v w' => v = .int .i64 (uvLen n : Nat) ∧ w' = w) hlen.1 ?_ ?_))))
  · simp (disch := (first | omega | (simp only [size_wr]; omega))) only [rd_same, rd_ne, MX.of, List.map_cons, List.map_nil]
    rw [hl0.get 1 (by omega)]
    refine (hlen.2 w n hn).mono ?_
    rintro e w' ⟨rfl, rfl⟩
    exact ⟨_, rfl, rfl, rfl⟩
  rintro v w' ⟨rfl, rfl⟩
  refine ML.nil ?_
  have hl1 := ((hl0.put (v := .slice none 0 0) (show 4 < 93 by omega)).put (v := .int .u32 (n : Nat)) (show 5 < 93 by omega)).put (v := .int .i64 (uvLen n : Nat)) (show 6 < 93 by omega)
  simp (disch := (first | omega | (simp only [size_wr]; omega))) only [rd_same, rd_ne, MX.of, MVal.val]
  rw [hl0.get 1 (by omega)]
  show MW P _ _ (wr (wr (wr a 4 (.slice none 0 0)) 5 (.int .u32 (n : Nat))) 6 (.int .i64 (uvLen n : Nat))) w'
  revert hl1
  generalize wr (wr (wr a 4 (.slice none 0 0)) 5 (.int .u32 (n : Nat))) 6 (.int .i64 (uvLen n : Nat)) = a1
  intro hl1
  have hsz1 := hl1.size
  have test : ∀ (ρ : Nat → Value) (a2 : Act) (d k : Nat) (x y : MCode) (Q : Exit → Act → World → Prop), Loc 93 93 ρ a2 → ρ 6 = .int .i64 (uvLen n : Nat) → d + 1 < 93 →
      (uvLen n = k → ∀ a3, Loc 93 93 (upd (upd ρ (d + 1) (.bool (((uvLen n : Nat) : Int) == (k : Int)))) d (.bool (((uvLen n : Nat) : Int) == (k : Int)))) a3 → MW P x Q a3 w') →
      (uvLen n ≠ k → ∀ a3, Loc 93 93 (upd (upd ρ (d + 1) (.bool (((uvLen n : Nat) : Int) == (k : Int)))) d (.bool (((uvLen n : Nat) : Int) == (k : Int)))) a3 → MW P y Q a3 w') →
      MW P (.sq (.rg [.bi (d + 1) .eql T.int (.t 6) (.c (.int .i64 k)), .mv d (.t (d + 1))]) (.cd d x y)) Q a2 w' := by
    intro ρ a2 d k x y Q hl2 h6 hd hyes hno
    have hsz2 := hl2.size
    refine MW.sq (MW.rg (ML.biInt (k := .i64) (m := (uvLen n : Nat)) (n := k) (v := .bool (((uvLen n : Nat) : Int) == (k : Int))) ?_ rfl (run_cmp_eql _ _ _ _) (ML.mv (ML.nil ?_))))
    · simp only [MX.of]; rw [hl2.get 6 (by omega), h6]
    simp (disch := (first | omega | (simp only [size_wr]; omega))) only [rd_same, rd_ne, MX.of]
    have hl3 := (hl2.put (v := .bool (((uvLen n : Nat) : Int) == (k : Int))) hd).put (v := .bool (((uvLen n : Nat) : Int) == (k : Int))) (show d < 93 by omega)
    refine MW.cd (rd_same (by simp only [size_wr]; omega)) (fun e => hyes ?_ _ hl3) (fun e => hno ?_ _ hl3)
    · have := beq_iff_eq.1 e; omega
    · have := beq_eq_false_iff_ne.1 e; omega
  have w127 : ∀ m : Nat, m < 4294967296 → IntKind.u8.wrap (IntKind.u32.wrap ((BitVec.ofInt IntKind.u32.bits (IntKind.u32.wrap ((BitVec.ofInt IntKind.u32.bits (m : Int) &&& BitVec.ofInt IntKind.u32.bits 127).toNat : Int)) ||| BitVec.ofInt IntKind.u32.bits 128).toNat : Int)) = ((m % 128 + 128 : Nat) : Int) := fun m hm => grp hm
  refine MW.bl ?_
  refine test _ a1 7 5 _ _ _ hl1 (upd_same _ _ _) (by omega) (fun e a3 hl3 => ?_) (fun e5 a3 hl3 => ?_)
  · have h0 : 268435456 ≤ n := by rw [hk] at e; revert e; (repeat' split) <;> omega
    refine tailU_ok (ks := [.u8, .u8, .u8, .u8, .u8]) (sv := sv) (bs := bs) (l := uv n) tk hres hl3 rfl ⟨⟨_, q⟩, tk.u8i, ⟨_, q⟩, tk.u8i, ⟨_, q⟩, tk.u8i, ⟨_, q⟩, tk.u8i, ⟨_, q⟩, tk.u8i, trivial⟩ (by simp [case5, grpOps, grpOp0, lastOps, reads, MX.slots]) ?_ (by simp) (by simp) (by omega) (by omega) (by omega) (by omega) rfl ho hB hlim (fun _ _ h => h)
    rw [uv5 h0 hn]
    simp only [List.map_cons, List.map_nil, Nat.div_div_eq_div_mul, Nat.reduceMul]
    show [gV (n : Int), gV (Int.fdiv (n : Int) ((128 : Nat) : Int)), gV (Int.fdiv (n : Int) ((16384 : Nat) : Int)), gV (Int.fdiv (n : Int) ((2097152 : Nat) : Int)), lV (Int.fdiv (n : Int) ((268435456 : Nat) : Int))] = _
    rw [gV_eq hn, gV_div hn (by omega), gV_div hn (by omega), gV_div hn (by omega), lV_div (by omega) (by omega)]
  · refine test _ _ 34 4 _ _ _ hl3 rfl (by omega) (fun e a3 hl3 => ?_) (fun e4 a3 hl3 => ?_)
    · have h0 : 2097152 ≤ n := by rw [hk] at e; revert e; (repeat' split) <;> omega
      have h2 : n < 268435456 := by rw [hk] at e; revert e; (repeat' split) <;> omega
      refine tailU_ok (ks := [.u8, .u8, .u8, .u8]) (sv := sv) (bs := bs) (l := uv n) tk hres hl3 rfl ⟨⟨_, q⟩, tk.u8i, ⟨_, q⟩, tk.u8i, ⟨_, q⟩, tk.u8i, ⟨_, q⟩, tk.u8i, trivial⟩ (by simp [case4, grpOps, grpOp0, lastOps, reads, MX.slots]) ?_ (by simp) (by simp) (by omega) (by omega) (by omega) (by omega) rfl ho hB hlim (fun _ _ h => h)
      rw [uv4 h0 h2]
      simp only [List.map_cons, List.map_nil, Nat.div_div_eq_div_mul, Nat.reduceMul]
      show [gV (n : Int), gV (Int.fdiv (n : Int) ((128 : Nat) : Int)), gV (Int.fdiv (n : Int) ((16384 : Nat) : Int)), lV (Int.fdiv (n : Int) ((2097152 : Nat) : Int))] = _
      rw [gV_eq hn, gV_div hn (by omega), gV_div hn (by omega), lV_div (by omega) (by omega)]
    · refine test _ _ 56 3 _ _ _ hl3 rfl (by omega) (fun e a3 hl3 => ?_) (fun e3 a3 hl3 => ?_)
      · have h0 : 16384 ≤ n := by rw [hk] at e; revert e; (repeat' split) <;> omega
        have h2 : n < 2097152 := by rw [hk] at e; revert e; (repeat' split) <;> omega
        refine tailU_ok (ks := [.u8, .u8, .u8]) (sv := sv) (bs := bs) (l := uv n) tk hres hl3 rfl ⟨⟨_, q⟩, tk.u8i, ⟨_, q⟩, tk.u8i, ⟨_, q⟩, tk.u8i, trivial⟩ (by simp [case3, grpOps, grpOp0, lastOps, reads, MX.slots]) ?_ (by simp) (by simp) (by omega) (by omega) (by omega) (by omega) rfl ho hB hlim (fun _ _ h => h)
        rw [uv3 h0 h2]
        simp only [List.map_cons, List.map_nil, Nat.div_div_eq_div_mul, Nat.reduceMul]
        show [gV (n : Int), gV (Int.fdiv (n : Int) ((128 : Nat) : Int)), lV (Int.fdiv (n : Int) ((16384 : Nat) : Int))] = _
        rw [gV_eq hn, gV_div hn (by omega), lV_div (by omega) (by omega)]
      · refine test _ _ 73 2 _ _ _ hl3 rfl (by omega) (fun e a3 hl3 => ?_) (fun e2 a3 hl3 => ?_)
        · have h0 : 128 ≤ n := by rw [hk] at e; revert e; (repeat' split) <;> omega
          have h2 : n < 16384 := by rw [hk] at e; revert e; (repeat' split) <;> omega
          refine tailU_ok (ks := [.u8, .u8]) (sv := sv) (bs := bs) (l := uv n) tk hres hl3 rfl ⟨⟨_, q⟩, tk.u8i, ⟨_, q⟩, tk.u8i, trivial⟩ (by simp [case2, grpOps, grpOp0, lastOps, reads, MX.slots]) ?_ (by simp) (by simp) (by omega) (by omega) (by omega) (by omega) rfl ho hB hlim (fun _ _ h => h)
          rw [uv2 h0 h2]
          simp only [List.map_cons, List.map_nil, Nat.div_div_eq_div_mul, Nat.reduceMul]
          show [gV (n : Int), lV (Int.fdiv (n : Int) ((128 : Nat) : Int))] = _
          rw [gV_eq hn, lV_div (by omega) (by omega)]
        · refine test _ _ 85 1 _ _ _ hl3 rfl (by omega) (fun e a3 hl3 => ?_) (fun e1 a3 hl3 => ?_)
          · have h0 : 0 ≤ n := Nat.zero_le n
            have h2 : n < 128 := by rw [hk] at e; revert e; (repeat' split) <;> omega
            refine tailU_ok (ks := [.u8]) (sv := sv) (bs := bs) (l := uv n) tk hres hl3 rfl ⟨⟨_, q⟩, tk.u8i, trivial⟩ (by simp [case1, grpOps, grpOp0, lastOps, reads, MX.slots]) ?_ (by simp) (by simp) (by omega) (by omega) (by omega) (by omega) rfl ho hB hlim (fun _ _ h => h)
            rw [uv1 h2]
            simp only [List.map_cons, List.map_nil]
            show [lV (n : Int)] = _
            unfold lV; rw [byteV_wrap (by omega)]
          · exfalso; rw [hk] at e1 e2 e3 e4 e5; revert e1 e2 e3 e4 e5; (repeat' split) <;> omega
end
end Go.Kx
