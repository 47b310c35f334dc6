/- Known tags are written: those that are not as by default are noted, then each is written. Conditions: the program's tables and the contracts of what is called (KtC).
   The code of AppendTo writes what 'enc' says: by induction on the plan. Conditions: the plan fits the program's tables (wf), what is written is small (lists, texts and octets of at most 32767).
   The code of AppendTo writes what 'enc' says: the induction on the plan. Conditions: the plan fits the program's tables (wf), what is written is small (lists, texts and octets of at most 32767). -/
import Derived.Test.YtpaoaobmaimibaaGreatDoorKxC
namespace Go.Kx
open Go.RowKit
set_option linter.unusedSimpArgs false
set_option linter.unusedVariables false
section
variable {P : Program} {N : Nat} {Q Q' : Exit → (Nat → Value) → World → Prop} {ρ : Nat → Value} {w : World} {ms : List MOp}
def RWL (P : Program) (N : Nat) : List MCode → (Exit → (Nat → Value) → World → Prop) → (Nat → Value) → World → Prop
  | [], Q, ρ, w => Q .normal ρ w
  | c :: cs, Q, ρ, w => RW P N c (thenR (fun ρ w => RWL P N cs Q ρ w) Q) ρ w
theorem thenR_mono {K K' : (Nat → Value) → World → Prop} (hk : ∀ ρ w, K ρ w → K' ρ w) (hq : ∀ e ρ w, Q e ρ w → Q' e ρ w) : ∀ e ρ w, thenR K Q e ρ w → thenR K' Q' e ρ w := by
  intro e ρ w h
  cases e <;> first | exact hk _ _ h | exact hq _ _ _ h
theorem RWL.mono : ∀ {cs : List MCode} {ρ : Nat → Value} {w : World} {Q Q' : Exit → (Nat → Value) → World → Prop}, RWL P N cs Q ρ w → (∀ e ρ w, Q e ρ w → Q' e ρ w) → RWL P N cs Q' ρ w
  | [], _, _, _, _, h, hq => hq _ _ _ h
  | _ :: _, _, _, _, _, h, hq => RW.mono h (thenR_mono (fun _ _ h => RWL.mono h hq) hq)
theorem RWL.rows : ∀ {cs : List MCode} {ρ : Nat → Value} {w : World} {Q : Exit → (Nat → Value) → World → Prop}, RWL P N cs Q ρ w → RW P N (rows cs) Q ρ w
  | [], _, _, _, h => RW.sk h
  | [c], _, _, Q, h => RW.mono h (by intro e ρ w hq; cases e <;> exact hq)
  | c :: d :: cs, _, _, Q, h => RW.sq (RW.mono h (thenR_mono (fun _ _ h => RWL.rows h) (fun _ _ _ h => h)))
theorem RWL.append : ∀ {cs ds : List MCode} {ρ : Nat → Value} {w : World} {Q : Exit → (Nat → Value) → World → Prop}, RWL P N cs (thenR (fun ρ w => RWL P N ds Q ρ w) Q) ρ w → RWL P N (cs ++ ds) Q ρ w
  | [], _, _, _, _, h => h
  | c :: cs, ds, _, _, Q, h => RW.mono h (by
      intro e ρ w hq
      cases e <;> first | exact RWL.append hq | exact hq)
theorem RWL.one {c : MCode} (h : RW P N c Q ρ w) : RWL P N [c] Q ρ w := RW.mono h (by intro e ρ w hq; cases e <;> exact hq)
end
section
variable {w w' : World} {U Ts db B : Nat} {v x : Value}
theorem own_one {n : Nat} {sv : Value} {xs : List Value} (h : w.ownsRow B U 1 sv n xs) : sv.oneCell' = true := by
  rcases h.2 with ⟨rfl, _⟩ | ⟨g, cap, cur, rfl, _⟩ <;> rfl
theorem own_keep {n : Nat} {sv : Value} {xs : List Value} (h : w.ownsRow B U 1 sv n xs) (hk : ∀ g, sv.ownBlock = some g → w'.heap[g]? = w.heap[g]?) : w'.ownsRow B U 1 sv n xs := by
  obtain ⟨h1, h2⟩ := h
  refine ⟨h1, ?_⟩
  rcases h2 with h2 | ⟨g, cap, cur, rfl, h3, h4, h5⟩
  · exact .inl h2
  · exact .inr ⟨g, cap, cur, rfl, h3, by rw [hk g rfl]; exact h4, h5⟩
theorem own_nr {n : Nat} {sv : Value} {xs : List Value} (h : w.ownsRow B U 1 sv n xs) {k : Nat} (hk : ∀ cur, w.heap[k]? ≠ some (.cells cur U (0, 0))) : some k ≠ sv.ownBlock := by
  rcases h.2 with ⟨rfl, _⟩ | ⟨g, cap, cur, rfl, h3, h4, h5⟩
  · intro e; cases e
  · intro e
    simp only [Value.ownBlock, Option.some.injEq] at e
    subst e
    exact hk cur h4
end
def u32V (n : Nat) : Value := .int .u32 (n : Nat)
def u32B (P : Program) (U : Nat) : Bool := match P.info? U with
  | some i => Nat.beq i.size 1 && Nat.ble i.bytes 1000 && (match i.zero with | some v => (MVal.int .u32 0).is v | none => false)
  | none => false
theorem u32B_of {P : Program} {U : Nat} (h : u32B P U = true) : ∃ i, P.info? U = some i ∧ i.size = 1 ∧ i.bytes ≤ 1000 ∧ i.zero = some (.int .u32 0) := by
  unfold u32B at h
  cases hi : P.info? U with
  | none => simp [hi] at h
  | some i =>
    simp only [hi, Bool.and_eq_true, Nat.beq_eq, Nat.ble_eq] at h
    obtain ⟨⟨h1, h2⟩, h3⟩ := h
    cases hz : i.zero with
    | none => simp [hz] at h3
    | some v => simp only [hz] at h3; exact ⟨i, rfl, h1, h2, by rw [hz, MVal.is_eq h3]; rfl⟩
theorem run_bsl1 {P : Program} {w : World} {T U : Nat} {n : Nat} (hT : sliceOf P T U = true) (hU : u32B P U = true) :
    (Instr.buildSlice T 1 ((List.range' 0 1).zip [u32V n]).toArray).run P w = .ok (.slice (some ⟨w.heap.size, 0, none⟩) 1 1) (w.alloc (.cells #[u32V n] U)) := by
  obtain ⟨i, hi, hs, hb, hz⟩ := u32B_of hU
  have hfill := fill_ones [u32V n] [] [.int .u32 0] (by intro v hv; simp only [List.mem_singleton] at hv; subst hv; rfl) rfl
  simp only [List.nil_append, List.length_nil, List.length_cons, Nat.zero_add] at hfill
  simp only [Sem.run_bind, Instr.buildSlice, run_underlying (sliceOf_eq hT), Result.andThen_ok, sizeOf, typeInfo, run_program, hi, Sem.run_pure, hs]
  rw [if_neg (by omega)]
  have hzero : (Array.map (fun x => (Value.int IntKind.u32 0).cells[x % (Value.int IntKind.u32 0).cells.size]!) (Array.range 1)) = [Value.int IntKind.u32 0].toArray := by
    apply Array.toList_inj.1
    simp [Value.cells, List.range_succ]
  simp only [Nat.mul_one]
  rw [if_neg (by omega)]
  simp only [zeroValue, typeInfo, Sem.run_bind, run_program, Result.andThen_ok, hi, Sem.run_pure, hz, hzero, hfill, newRow, run_newObj]
  rfl
theorem run_ap32 {P : Program} {w : World} {T U B n h c : Nat} {sv : Value} {xs : List Value} {k : Nat} (hT : sliceOf P T U = true) (hU : u32B P U = true) (ho : w.ownsRow B U 1 sv n xs) (hc : w.rangeAt h 0 [u32V k]) (hn : n < 1000000) (hB : B ≤ w.heap.size) :
    ∃ sv' w', (∀ ty, (Builtin.append_ #[T, T] ty #[sv, .slice (some ⟨h, 0, none⟩) 1 c]).run P w = .ok sv' w') ∧ w'.ownsRow B U 1 sv' (n + 1) (xs ++ [u32V k]) ∧ w.grownBy w' sv.ownBlock := by
  obtain ⟨i, hi, hs, hby, hz⟩ := u32B_of hU
  have hbb : (n + 1) * i.bytes ≤ 1000000 * 1000 := Nat.mul_le_mul (by omega) hby
  obtain ⟨v', w', g1, g2, g3, _⟩ := run_append_own (P := P) w B T 0 U i _ 1 i.bytes (sliceOf_eq hT) hi hz hs rfl rfl (by omega) sv n xs ho ⟨h, 0, none⟩ 1 c [u32V k] rfl
    (fun j u hu => by rw [Addr.add_mid]; exact hc j u hu) (by intro u hu; simp only [List.mem_singleton] at hu; subst hu; rfl) (by simp only [maxLen]; omega) (by omega) hB
  exact ⟨v', w', fun ty => g1, g2, g3⟩
theorem ne0 {n : Nat} (h : (!(Nat.beq n 0)) = true) : n ≠ 0 := by
  intro e; subst e; simp at h
def NrT (U : Nat) (w w' : World) : Prop := w.heap.size ≤ w'.heap.size ∧ ∀ k, k < w.heap.size → (∀ cur, w.heap[k]? ≠ some (.cells cur U (0, 0))) → w'.heap[k]? = w.heap[k]?
theorem NrT.refl (U : Nat) (w : World) : NrT U w w := ⟨Nat.le_refl _, fun _ _ _ => rfl⟩
theorem NrT.trans {U : Nat} {w1 w2 w3 : World} (h : NrT U w1 w2) (k : NrT U w2 w3) : NrT U w1 w3 := ⟨Nat.le_trans h.1 k.1, fun i h1 h3 => by
  have e := h.2 i h1 h3
  rw [k.2 i (Nat.lt_of_lt_of_le h1 h.1) (fun cur => by rw [e]; exact h3 cur), e]⟩
theorem NrT.of {U B : Nat} {w w' : World} {sv : Value} {bs : List UInt8} (ho : OwnB U w B sv bs) (hb : Below B w w') (hg : Gr w w' sv) : NrT U w w' :=
  ⟨hb.size, fun k hk hr => hg k hk (own_nr ho hr)⟩
def TeAt (U B : Nat) (w : World) (sv : Value) (ks : List Nat) : Prop := w.ownsRow B U 1 sv ks.length (ks.map u32V)
theorem TeAt.keep {U U' B : Nat} {w w' : World} {sv : Value} {ks : List Nat} (h : TeAt U B w sv ks) (hn : NrT U' w w') (hne : U' ≠ U) : TeAt U B w' sv ks := own_keep h fun g hg => by
  rcases h.2 with ⟨rfl, _⟩ | ⟨g', cap, cur, rfl, h3, h4, h5⟩
  · cases hg
  · simp only [Value.ownBlock, Option.some.injEq] at hg
    subst hg
    refine hn.2 _ (Array.getElem?_eq_some_iff.1 h4).1 fun cur' e => ?_
    rw [h4] at e
    simp only [Option.some.injEq, Obj.cells.injEq] at e
    exact hne e.2.1.symm
theorem TeAt.val {U B : Nat} {w : World} {sv : Value} {ks : List Nat} (h : TeAt U B w sv ks) : ∃ ad c, sv = .slice ad ks.length c ∧ ∀ i k, ks[i]? = some k → ∃ g, ad = some ⟨g, 0, none⟩ ∧ w.cell? ⟨g, i, none⟩ = some (u32V k) := by
  obtain ⟨h1, h2⟩ := h
  rcases h2 with ⟨rfl, h0⟩ | ⟨g, cap, cur, rfl, hb, hh, hn, hc, hs, ht⟩
  · have : ks = [] := List.eq_nil_of_length_eq_zero h0
    subst this
    exact ⟨none, 0, rfl, fun i k hk => by simp at hk⟩
  · refine ⟨some ⟨g, 0, none⟩, cap, rfl, fun j k hj => ⟨g, rfl, ?_⟩⟩
    rw [cell_of_row w g j cur U (0, 0) hh]
    have hjl : j < ks.length := (List.getElem?_eq_some_iff.1 hj).1
    have e : (cur.toList.take (ks.length * 1))[j]? = (ks.map u32V)[j]? := by rw [ht]
    rw [List.getElem?_take_of_lt (by omega)] at e
    rw [List.getElem?_map, hj] at e
    simpa using e
def ktB (P : Program) (I : IA) (T : Nat) (q : KT) : Bool := fieldAtB P T q.idx q.off && plainTy P q.ty && !(Nat.beq (I.fn q.k false) 0) && q.k.isNum && Nat.blt q.tag 1000
def ascT : Nat → List KT → Bool
  | _, [] => true
  | lo, q :: r => Nat.ble lo q.tag && ascT (q.tag + 1) r
structure KtC (P : Program) (I : IA) (S : List (Nat × List UInt8) → Prop) : Prop where
  us : sliceOf P I.tU32s I.tU32 = true
  u : u32B P I.tU32 = true
  pl : plainTy P I.tU32 = true
  c1 : cellsB P I.tU32 1 = true
  ne : I.tU8 ≠ I.tU32
  i1 : intTy P I.tInt .i64 = true
  i2 : intTy P I.tU32 .u32 = true
  len : TlenC P I.tlen
  each : TeachC P I.tU8 I.teach S
  uv : ApG P I.tU8 I.uvar (fun _ _ x out => ∃ n : Nat, n < 4294967296 ∧ x = .int .u32 n ∧ out = uv n)
  num : ∀ k, k.isNum = true → I.fn k false ≠ 0 → ApG P I.tU8 (I.fn k false) (fun _ _ x out => ∃ n, NumP k x n ∧ out = encP k false (.n n))
theorem NumP.val {k : PK} {v : Value} {n : Int} (h : NumP k v n) : v = .int k.ik n := by cases k <;> simp only [NumP] at h <;> first | exact h.1 | exact h.elim
theorem encP_oct {k : PK} {n : Int} (h : k.isNum = true) : (encP k false (.n n)).length = k.oct := by
  have be_len : ∀ (j n : Nat), (be n j).length = j := fun j => by
    induction j with
    | zero => intro n; rfl
    | succ j ih => intro n; simp [be, ih]
  cases k <;> simp only [PK.isNum, Bool.false_eq_true] at h <;> simp [encP, fix, be_len, PK.oct]
section
variable {P : Program} {N : Nat} {Q : Exit → (Nat → Value) → World → Prop} {ρ : Nat → Value} {w w' : World} {ms : List MOp} {I : IA} {S : List (Nat × List UInt8) → Prop}
theorem RL.caG {U d f x B : Nat} {y : MX} {bs out : List UInt8} {sv : Value} {R : World → Nat → Value → List UInt8 → Prop} (hc : ApG P U f R) (hx : ρ x = sv) (ho : OwnB U w B sv bs) (hR : R w B (xof ρ y) out) (hB : B ≤ w.heap.size) (hlim : bs.length + out.length ≤ lim)
    (h : ∀ sv' w', OwnB U w' B sv' (bs ++ out) → Below B w w' → NrT U w w' → RL P N ms Q (upd ρ d sv') w') (hxN : x < N) (hyN : y.lt N = true) (hd : d < N) : RL P N (.ca d f [.t x, y] :: ms) Q ρ w := by
  subst hx
  refine RL.ca (R := fun sv' w' => OwnB U w' B sv' (bs ++ out) ∧ Below B w w' ∧ Gr w w' (ρ x)) hc.1 ?_ (fun v w' h' => h v w' h'.1 h'.2.1 (NrT.of ho h'.2.1 h'.2.2)) hd (by intro z hz; simp only [List.mem_cons, List.not_mem_nil, or_false] at hz; rcases hz with rfl | rfl; exact ltT hxN; exact hyN)
  refine (hc.2 w B (ρ x) (xof ρ y) bs out hB ho hR hlim).mono ?_
  rintro e w' ⟨sv', rfl, h2⟩
  exact ⟨sv', rfl, h2⟩
theorem ktTests_ok (kc : KtC P I S) {T vs x L B0 b o : Nat} {cs : List Value} {rest : List MCode} (hvL : vs < L) (hxL : x < L) (hvx : vs ≠ x) (hbB : b < B0) : ∀ (kn : List KT) {u : Nat} {ρ : Nat → Value} {w : World} {ks : List Nat} {out : List (Nat × List UInt8)} {sv : Value},
    (∀ q ∈ kn, ktB P I T q = true) → KnAt kn cs out → w.rangeAt b o cs → B0 ≤ w.heap.size → ρ vs = .pointer (some ⟨b, o, none⟩) → ρ x = sv → TeAt I.tU32 B0 w sv ks → ks.length + kn.length < 1000000 → L ≤ u → u + 8 * kn.length ≤ N →
    (∀ ρ' w' sv', (∀ s, s < L → s ≠ x → ρ' s = ρ s) → ρ' x = sv' → TeAt I.tU32 B0 w' sv' (ks ++ out.map (·.1)) → Below B0 w w' → RWL P N rest Q ρ' w') → RWL P N ((ktTests I T vs x kn u).1 ++ rest) Q ρ w
  | [], u, ρ, w, ks, out, sv, _, hk, _, _, _, hx, ht, _, _, _, hQ => by
    have hk' : out = [] := hk
    subst hk'
    exact hQ ρ w sv (fun _ _ _ => rfl) hx (by simpa using ht) (Below.refl _ _)
  | q :: r, u, ρ, w, ks, out, sv, hq, hk, hr, hB, hv, hx, ht, hn, hL, hN, hQ => by
    obtain ⟨v, n, out', hc, hnum, rfl, hk'⟩ := hk
    have hqb := hq q List.mem_cons_self
    simp only [ktB, Bool.and_eq_true] at hqb
    obtain ⟨⟨⟨⟨q1, q2⟩, q3⟩, q4⟩, q5⟩ := hqb
    have hvv := hnum.val
    subst hvv
    simp only [List.length_cons] at hn hN
    unfold ktTests
    show RW P N _ _ ρ w
    have hcell : w.cell? ⟨b, o + q.off, none⟩ = some (.int q.k.ik n) := hr _ _ hc
    refine RW.sq (RW.rg (RL.step (MR.mv hv (ltT (by omega))) (RL.step (MR.nc (p := ⟨b, o, none⟩) (upd_same _ _ _) (by omega)) (RL.step (MR.fa (upd_same _ _ _) q1 (by omega)) (RL.step (MR.ld (upd_same _ _ _) q2 hcell (by omega)) (RL.step (MR.biE (v := .bool (!(n == q.df))) ?_ (ltT (by omega)) rfl) (RL.nil ?_) (by omega)) (by omega)) (by omega)) (by omega)) (by omega)))
    · show evB .neq (upd _ _ _ _) _ = _
      rw [upd_same]
      show (if q.k.ik = q.k.ik then some (Value.bool (!(n == q.df))) else none) = _
      rw [if_pos rfl]
    have next : ∀ (ρ1 : Nat → Value) (w1 : World) (sv1 : Value) (ks1 : List Nat), (∀ s, s < L → s ≠ x → ρ1 s = ρ s) → ρ1 x = sv1 → TeAt I.tU32 B0 w1 sv1 ks1 → ks1.length ≤ ks.length + 1 → Below B0 w w1 → ks1 ++ out'.map (·.1) = ks ++ (q.enc n ++ out').map (·.1) → RWL P N ((ktTests I T vs x r (u + 8)).1 ++ rest) Q ρ1 w1 := by
      intro ρ1 w1 sv1 ks1 e1 e2 e3 e4 e5 e6
      refine ktTests_ok kc hvL hxL hvx hbB r (fun q hq' => hq q (List.mem_cons_of_mem _ hq')) hk' (fun j z hz => by rw [cell_of_heap (e5.block b hbB)]; exact hr j z hz) (Nat.le_trans hB e5.size) (by rw [e1 vs hvL hvx]; exact hv) e2 e3 (by omega) (by omega) (by omega) ?_
      intro ρ2 w2 sv2 g1 g2 g3 g4
      exact hQ ρ2 w2 sv2 (fun s h1 h2 => by rw [g1 s h1 h2, e1 s h1 h2]) g2 (by rw [← e6]; exact g3) (e5.trans g4)
    refine RW.cd (b := !(n == q.df)) (upd_same _ _ _) (fun e => ?_) (fun e => RW.sk ?_) (by omega)
    · have hne : n ≠ q.df := by simpa using e
      have b1 := below_box w (.cells #[u32V q.tag] I.tU32)
      have s1 := size_box w (.cells #[u32V q.tag] I.tU32)
      have rg1 : (w.alloc (.cells #[u32V q.tag] I.tU32)).rangeAt w.heap.size 0 [u32V q.tag] := fun j v hj => cell_box w [u32V q.tag] I.tU32 hj
      have ht1 : TeAt I.tU32 B0 (w.alloc (.cells #[u32V q.tag] I.tU32)) sv ks := own_keep ht fun g hg => b1.block g (by
        rcases ht.2 with ⟨rfl, _⟩ | ⟨g', cap, cur, rfl, h3, h4, h5⟩
        · cases hg
        · simp only [Value.ownBlock, Option.some.injEq] at hg
          subst hg
          exact (Array.getElem?_eq_some_iff.1 h4).1)
      obtain ⟨sv', w', a1, a2, a3⟩ := run_ap32 (P := P) (w := w.alloc (.cells #[u32V q.tag] I.tU32)) (T := I.tU32s) (c := 1) kc.us kc.u ht1 rg1 (by omega) (Nat.le_trans hB (by omega))
      have B3 : Below B0 w w' := ((b1.mono hB)).grown a3 (Nat.le_trans hB (by omega)) (fun k hk => (World.ownsRow.lt ht1 k hk).1)
      refine RW.rg (RL.step (MR.mv (v := sv) (by show upd _ _ _ x = _; (repeat (first | rw [upd_same] | rw [upd_ne _ _ (by omega)])); exact hx) (ltT (by omega))) (RL.step (MR.bslBy (v := .slice (some ⟨w.heap.size, 0, none⟩) 1 1) (w' := w.alloc (.cells #[u32V q.tag] I.tU32)) (run_bsl1 kc.us kc.u))
        (RL.step (MR.apBy (v := sv') (w' := w') (by rw [upd_same, upd_ne _ _ (by omega), upd_same]; exact a1 0) (fun ty => by rw [upd_same, upd_ne _ _ (by omega), upd_same]; exact a1 ty) (by omega) (by omega)) (RL.step (MR.mv (v := sv') (upd_same _ _ _) (ltT (by omega))) (RL.nil ?_) (by omega)) (by omega)) (by omega)) (by omega))
      refine next _ w' sv' (ks ++ [q.tag]) (fun s h1 h2 => by (repeat (first | rw [upd_same] | rw [upd_ne _ _ (by omega)]))) (upd_same _ _ _) ?_ (by simp) B3 ?_
      · show w'.ownsRow B0 I.tU32 1 sv' (ks ++ [q.tag]).length ((ks ++ [q.tag]).map u32V)
        rw [List.length_append, List.map_append]; exact a2
      · unfold KT.enc; rw [if_neg hne]; simp
    · have heq : n = q.df := by simpa using e
      refine next _ w sv ks (fun s h1 h2 => by (repeat (first | rw [upd_same] | rw [upd_ne _ _ (by omega)]))) (by (repeat (first | rw [upd_same] | rw [upd_ne _ _ (by omega)])); exact hx) ht (by omega) (Below.refl _ _) ?_
      unfold KT.enc; rw [if_pos heq]; simp
def KnIn (kn : List KT) (cs : List Value) (e : Nat × List UInt8) : Prop := ∃ q ∈ kn, ∃ v n, cs[q.off]? = some v ∧ NumP q.k v n ∧ e = (q.tag, encP q.k false (.n n))
theorem KnAt.in : ∀ {kn : List KT} {cs : List Value} {out : List (Nat × List UInt8)}, KnAt kn cs out → ∀ e ∈ out, KnIn kn cs e
  | [], _, _, h, e, he => by
    have h' : _ = [] := h
    subst h'; simp at he
  | q :: r, cs, out, h, e, he => by
    obtain ⟨v, n, out', hc, hnum, rfl, hk'⟩ := h
    rw [List.mem_append] at he
    rcases he with he | he
    · unfold KT.enc at he
      split at he
      · simp at he
      · simp only [List.mem_singleton] at he
        exact ⟨q, List.mem_cons_self, v, n, hc, hnum, he⟩
    · obtain ⟨q', h1, h2⟩ := KnAt.in hk' e he
      exact ⟨q', List.mem_cons_of_mem _ h1, h2⟩
theorem ascT_lt : ∀ {kn : List KT} {lo : Nat}, ascT lo kn = true → ∀ q ∈ kn, lo ≤ q.tag
  | [], _, _, q, hq => by simp at hq
  | p :: r, lo, h, q, hq => by
    simp only [ascT, Bool.and_eq_true, Nat.ble_eq] at h
    rcases List.mem_cons.1 hq with rfl | hq
    · exact h.1
    · have := ascT_lt h.2 q hq; omega
theorem wrC_ok {U f t B : Nat} {m : MVal} {bs out : List UInt8} {R : World → Nat → Value → List UInt8 → Prop} (hc : ApG P U f R) (ho : OwnB U w B (ρ 1) bs) (hR : R w B m.val out) (hB : B ≤ w.heap.size) (hlim : bs.length + out.length ≤ lim) (h1t : 1 < t) (hN : t + 2 ≤ N)
    (hQ : ∀ ρ' w', (∀ s, s < t → s ≠ 1 → ρ' s = ρ s) → OwnB U w' B (ρ' 1) (bs ++ out) → Below B w w' → NrT U w w' → Q .normal ρ' w') : RW P N (.rg [.mv t (.t 1), .ca (t + 1) f [.t t, .c m], .mv 1 (.t (t + 1))]) Q ρ w := by
  refine RW.rg (RL.step (MR.mv rfl (ltT (by omega))) (RL.caG hc (sv := ρ 1) (upd_same _ _ _) ho hR hB hlim (fun sv' w' h1 h2 h3 => RL.step (MR.mv (v := sv') (upd_same _ _ _) (ltT (by omega))) (RL.nil ?_) (by omega)) (by omega) rfl (by omega)) (by omega))
  exact hQ _ w' (fun s hs h1 => by (repeat (first | rw [upd_same] | rw [upd_ne _ _ (by omega)]))) (by rw [upd_same]; exact h1) h2 h3
theorem ktChain_ok (kc : KtC P I S) {T vs s0 L B b o : Nat} {cs : List Value} {e : Nat × List UInt8} {bs : List UInt8} (hvL : vs < L) (hv1 : vs ≠ 1) (h1L : 1 < L) (hbB : b < B) (he : e.1 < 1000) (hlim : bs.length + (encTag e).length ≤ lim) : ∀ (kn : List KT) {y c lo : Nat} {ρ : Nat → Value} {w : World},
    (∀ q ∈ kn, ktB P I T q = true) → ascT lo kn = true → KnIn kn cs e → w.rangeAt b o cs → B ≤ w.heap.size → ρ vs = .pointer (some ⟨b, o, none⟩) → ρ s0 = u32V e.1 → OwnB I.tU8 w B (ρ 1) bs → vs < y → 1 < y → y + kn.length ≤ L → L ≤ s0 → s0 < c → c + 13 * kn.length ≤ N →
    (∀ ρ' w', (∀ s, s < c → s ≠ 1 → (s < y ∨ y + kn.length ≤ s) → ρ' s = ρ s) → OwnB I.tU8 w' B (ρ' 1) (bs ++ encTag e) → Below B w w' → NrT I.tU8 w w' → Q .normal ρ' w') → RW P N (ktChain I T vs s0 kn y c) Q ρ w
  | [], y, c, lo, ρ, w, _, _, hin, _, _, _, _, _, _, _, _, _, _, _, _ => by
    obtain ⟨q, hq, _⟩ := hin
    simp at hq
  | q :: r, y, c, lo, ρ, w, hq, hasc, hin, hr, hB, hv, hs, ho, hvy, h1y, hyL, hLs, hsc, hN, hQ => by
    have hqb := hq q List.mem_cons_self
    simp only [ktB, Bool.and_eq_true, Nat.blt_eq] at hqb
    obtain ⟨⟨⟨⟨q1, q2⟩, q3⟩, q4⟩, q5⟩ := hqb
    simp only [ascT, Bool.and_eq_true, Nat.ble_eq] at hasc
    simp only [List.length_cons] at hyL hN hQ
    unfold ktChain
    refine RW.sq (RW.rg (RL.step (MR.biE (v := .bool (((e.1 : Nat) : Int) == ((q.tag : Nat) : Int))) (by show evB .eql (ρ s0) _ = _; rw [hs]; rfl) (ltT (by omega)) rfl) (RL.step (MR.mv (upd_same _ _ _) (ltT (by omega))) (RL.nil ?_) (by omega)) (by omega)))
    refine RW.cd (b := (((e.1 : Nat) : Int) == ((q.tag : Nat) : Int))) (upd_same _ _ _) (fun e' => ?_) (fun e' => ?_) (by omega)
    · have htag : e.1 = q.tag := by have := beq_iff_eq.1 e'; omega
      obtain ⟨v, n, hc, hnum, hee⟩ : ∃ v n, cs[q.off]? = some v ∧ NumP q.k v n ∧ e = (q.tag, encP q.k false (.n n)) := by
        obtain ⟨p, hp, v, n, h1, h2, h3⟩ := hin
        rcases List.mem_cons.1 hp with rfl | hp
        · exact ⟨v, n, h1, h2, h3⟩
        · have := ascT_lt hasc.2 p hp
          rw [h3] at htag
          dsimp only at htag
          omega
      have hvv := hnum.val
      have henc : (encTag e).length = (uv q.tag).length + (uv q.k.oct).length + (encP q.k false (.n n)).length := by rw [hee]; unfold encTag; dsimp only; rw [encP_oct q4]; simp only [List.length_append, encP_oct q4, Nat.add_assoc]
      have hcell : w.cell? ⟨b, o + q.off, none⟩ = some v := hr _ _ hc
      have hoct : q.k.oct < 4294967296 := by cases q.k <;> simp [PK.oct]
      refine RWL.rows ?_
      refine RW.rg (RL.step (MR.mv (v := .pointer (some ⟨b, o, none⟩)) (by show upd _ _ _ vs = _; (repeat (first | rw [upd_same] | rw [upd_ne _ _ (by omega)])); exact hv) (ltT (by omega))) (RL.step (MR.nc (p := ⟨b, o, none⟩) (upd_same _ _ _) (by omega)) (RL.step (MR.fa (upd_same _ _ _) q1 (by omega)) (RL.step (MR.ld (upd_same _ _ _) q2 hcell (by omega)) (RL.step (MR.mv (v := v) (upd_same _ _ _) (ltT (by omega))) (RL.nil ?_) (by omega)) (by omega)) (by omega)) (by omega)) (by omega))
      show RWL P N _ _ _ w
      generalize hρ1 : upd (upd _ (c + 2 + 3) v) y v = ρ1
      have p1 : ∀ s, s < c → s ≠ y → ρ1 s = ρ s := fun s h1 h2 => by rw [← hρ1]; (repeat (first | rw [upd_same] | rw [upd_ne _ _ (by omega)]))
      have p2 : ρ1 y = v := by rw [← hρ1]; exact upd_same _ _ _
      refine wrC_ok (R := fun _ _ x out => ∃ n : Nat, n < 4294967296 ∧ x = .int .u32 n ∧ out = uv n) kc.uv (B := B) (bs := bs) (out := uv q.tag) (by rw [p1 1 (by omega) (by omega)]; exact ho) ⟨q.tag, by omega, rfl, rfl⟩ hB (by omega) (by omega) (by omega) fun ρ2 w2 a1 a2 a3 a4 => ?_
      show RWL P N _ _ ρ2 w2
      refine wrC_ok (R := fun _ _ x out => ∃ n : Nat, n < 4294967296 ∧ x = .int .u32 n ∧ out = uv n) kc.uv (B := B) (bs := bs ++ uv q.tag) (out := uv q.k.oct) a2 ⟨q.k.oct, hoct, rfl, rfl⟩ (Nat.le_trans hB a3.size) (by rw [List.length_append]; omega) (by omega) (by omega) fun ρ3 w3 c1 c2 c3 c4 => ?_
      show RWL P N _ _ ρ3 w3
      have h3y : ρ3 y = v := by rw [c1 y (by omega) (by omega), a1 y (by omega) (by omega), p2]
      refine RW.mono (RW.rg (RL.step (MR.mv (v := ρ3 1) rfl (ltT (by omega))) (RL.step (MR.mv (v := v) (by show upd _ _ _ y = _; (repeat (first | rw [upd_same] | rw [upd_ne _ _ (by omega)])); exact h3y) (ltT (by omega))) (RL.caG (kc.num q.k q4 (ne0 q3)) (B := B) (sv := ρ3 1) (bs := bs ++ uv q.tag ++ uv q.k.oct) (out := encP q.k false (.n n)) (by (repeat (first | rw [upd_same] | rw [upd_ne _ _ (by omega)]))) c2 ⟨n, by show NumP q.k (upd _ _ _ _) n; rw [upd_same]; exact hnum, rfl⟩ (Nat.le_trans hB (Nat.le_trans a3.size c3.size)) (by simp only [List.length_append]; omega) (fun sv' w4 d1 d2 d3 => RL.step (MR.mv (v := sv') (upd_same _ _ _) (ltT (by omega))) (RL.nil (Q := Q) ?_) (by omega)) (by omega) (ltT (by omega)) (by omega)) (by omega)) (by omega))) (fun e ρ w h => by cases e <;> exact h)
      refine hQ _ w4 (fun s g1 g2 g3 => ?_) ?_ ((a3.trans c3).trans d2) ((a4.trans c4).trans d3)
      · (repeat (first | rw [upd_same] | rw [upd_ne _ _ (by omega)]))
        rw [c1 s (by omega) g2, a1 s (by omega) g2, p1 s g1 (by omega)]
      · rw [upd_same]
        have : bs ++ encTag e = bs ++ uv q.tag ++ uv q.k.oct ++ encP q.k false (.n n) := by rw [hee]; unfold encTag; dsimp only; rw [encP_oct q4]; simp
        rw [this]; exact d1
    · have hne : e.1 ≠ q.tag := fun h => by rw [h] at e'; simp at e'
      refine ktChain_ok kc hvL hv1 h1L hbB he hlim r (y := y + 1) (c := c + 13) (lo := q.tag + 1) (fun q hq' => hq q (List.mem_cons_of_mem _ hq')) hasc.2 ?_ hr hB (by (repeat (first | rw [upd_same] | rw [upd_ne _ _ (by omega)])); exact hv) (by (repeat (first | rw [upd_same] | rw [upd_ne _ _ (by omega)])); exact hs) (by (repeat (first | rw [upd_same] | rw [upd_ne _ _ (by omega)])); exact ho) (by omega) (by omega) (by omega) hLs (by omega) (by omega) ?_
      · obtain ⟨p, hp, v, n, h1, h2, h3⟩ := hin
        rcases List.mem_cons.1 hp with rfl | hp
        · rw [h3] at hne; exact absurd rfl hne
        · exact ⟨p, hp, v, n, h1, h2, h3⟩
      · intro ρ' w' g1 g2 g3 g4
        exact hQ ρ' w' (fun s h1 h2 h3 => by rw [g1 s (by omega) h2 (by omega)]; (repeat (first | rw [upd_same] | rw [upd_ne _ _ (by omega)]))) g2 g3 g4
theorem ascT_mono : ∀ {kn : List KT} {lo lo' : Nat}, ascT lo kn = true → lo' ≤ lo → ascT lo' kn = true
  | [], _, _, _, _ => rfl
  | p :: r, lo, lo', h, hl => by
    simp only [ascT, Bool.and_eq_true, Nat.ble_eq] at h ⊢
    exact ⟨by omega, h.2⟩
theorem ktLoop_ok (kc : KtC P I S) {T vs x u b' L B B0 b o : Nat} {cs : List Value} {kn : List KT} {es : List (Nat × List UInt8)} {bs : List UInt8} {te : Value} (hq : ∀ q ∈ kn, ktB P I T q = true) (hasc : ascT 0 kn = true) (hes : ∀ e ∈ es, KnIn kn cs e) (hn : es.length < 1000000)
    (hte : TeAt I.tU32 B0 w te (es.map (·.1))) (hx : ρ x = te) (hr : w.rangeAt b o cs) (hbB : b < B) (hB : B ≤ w.heap.size) (hv : ρ vs = .pointer (some ⟨b, o, none⟩)) (ho : OwnB I.tU8 w B (ρ 1) bs) (hlim : bs.length + (es.flatMap encTag).length ≤ lim)
    (hvx : vs < x) (hv1 : vs ≠ 1) (h1x : 1 < x) (hxL : x + 3 + kn.length ≤ L) (hL : L ≤ u) (hN : u + 7 + 13 * kn.length + 1 ≤ N)
    (hQ : ∀ ρ' w', (∀ s, s < L → s ≠ 1 → (s < x ∨ x + 3 + kn.length ≤ s) → ρ' s = ρ s) → OwnB I.tU8 w' B (ρ' 1) (bs ++ es.flatMap encTag) → Below B w w' → Q .normal ρ' w') : RW P N (ktLoop I T vs x u b' kn (u + 7 + 13 * kn.length)) Q ρ w := by
  unfold ktLoop
  obtain ⟨ad, cap, hteq, hteC⟩ := hte.val
  rw [List.length_map] at hteq
  refine RW.sq (RW.rg (RL.step (MR.mv (v := te) hx (ltT (by omega))) (RL.step (MR.ln (p := ad) (n := es.length) (c := cap) kc.us (by rw [upd_same, hteq]) (by omega)) (RL.step MR.mv (RL.nil ?_) (by omega)) (by omega)) (by omega)))
  refine RW.bl (RW.lp (fun ρ' w' => ∃ i : Nat, i ≤ es.length ∧ ρ' u = te ∧ ρ' (u + 1) = .int .i64 (es.length : Nat) ∧ ρ' (u + 2) = .int .i64 (i : Nat) ∧ OwnB I.tU8 w' B (ρ' 1) (bs ++ (es.take i).flatMap encTag) ∧ Below B w w' ∧ NrT I.tU8 w w' ∧ ∀ s, s < L → s ≠ 1 → (s < x ∨ x + 3 + kn.length ≤ s) → ρ' s = ρ s)
    (fun ρ' _ => es.length - (intOf (ρ' (u + 2))).toNat) ⟨0, Nat.zero_le _, by (repeat (first | rw [upd_same] | rw [upd_ne _ _ (by omega)])), by (repeat (first | rw [upd_same] | rw [upd_ne _ _ (by omega)])), by rw [upd_same]; rfl, by (repeat (first | rw [upd_same] | rw [upd_ne _ _ (by omega)])); simpa using ho, Below.refl _ _, NrT.refl _ _, fun s h1 h2 h3 => by (repeat (first | rw [upd_same] | rw [upd_ne _ _ (by omega)]))⟩ ?_ (fun ρ ρ' w h => by rw [h (u + 2) (by omega)]))
  rintro ρ1 w1 ⟨i, hi, k0, k1, k2, ho1, hb1, hn1, hk1⟩
  refine RW.sq (RW.rg (RL.step (MR.biE (v := .bool (decide ((i : Int) < (es.length : Nat)))) (by show evB .lss (ρ1 (u + 2)) (ρ1 (u + 1)) = _; rw [k1, k2]; rfl) (ltT (by omega)) (ltT (by omega))) (RL.nil ?_) (by omega)))
  refine RW.sq (RW.cd (b := decide ((i : Int) < (es.length : Nat))) (upd_same _ _ _) (fun e => RW.sk ?_) (fun e => RW.ex ?_) (by omega))
  · have hil : i < es.length := by have := of_decide_eq_true e; omega
    obtain ⟨en, hen⟩ : ∃ en, es[i]? = some en := ⟨es[i], List.getElem?_eq_getElem hil⟩
    have henm : en ∈ es := List.mem_of_getElem? hen
    have hKn := hes en henm
    have hlt : en.1 < 1000 := by
      obtain ⟨q, hq', v, n, _, _, h3⟩ := hKn
      have := hq q hq'
      simp only [ktB, Bool.and_eq_true, Nat.blt_eq] at this
      rw [h3]; exact this.2
    obtain ⟨ad1, cap1, hteq1, hteC1⟩ := (hte.keep hn1 kc.ne).val
    rw [List.length_map] at hteq1
    obtain ⟨g, hg, hgc⟩ := hteC1 i en.1 (by rw [List.getElem?_map, hen]; rfl)
    show RW P N _ _ _ w1
    have hfm : (es.take (i + 1)).flatMap encTag = (es.take i).flatMap encTag ++ encTag en := by
      rw [List.take_add_one, hen]; simp
    have hle : ((es.take (i + 1)).flatMap encTag).length ≤ (es.flatMap encTag).length := by
      have : es.flatMap encTag = (es.take (i + 1)).flatMap encTag ++ (es.drop (i + 1)).flatMap encTag := by rw [← List.flatMap_append, List.take_append_drop]
      rw [this, List.length_append]; omega
    refine RW.sq (RW.bl (RW.sq (RW.rg (RL.step (MR.ia (b := g) (o := 0) (len := es.length) (cap := cap1) (k := .i64) (j := i) (sz := 1) kc.us kc.c1 (by (repeat (first | rw [upd_same] | rw [upd_ne _ _ (by omega)])); rw [k0, hteq1, hg]) (by (repeat (first | rw [upd_same] | rw [upd_ne _ _ (by omega)])); exact k2) hil (by omega) (by omega)) (RL.step (MR.ld (v := u32V en.1) (upd_same _ _ _) kc.pl (by rw [Nat.zero_add, Nat.mul_one]; exact hgc) (by omega)) (RL.step (MR.mv (v := u32V en.1) (upd_same _ _ _) (ltT (by omega))) (RL.nil ?_) (by omega)) (by omega)) (by omega)))))
    show RW P N _ _ _ w1
    refine RW.sq (RW.rg (RL.step (MR.mv (v := u32V en.1) (upd_same _ _ _) (ltT (by omega))) (RL.nil (RW.bl ?_)) (by omega)))
    generalize hρ2 : upd (upd _ (x + 2) _) (u + 6) _ = ρ2
    have p2 : ∀ s, s ≠ x + 2 → s < u + 3 → ρ2 s = ρ1 s := fun s h1 h2 => by rw [← hρ2]; (repeat (first | rw [upd_same] | rw [upd_ne _ _ (by omega)]))
    have p2s : ρ2 (u + 6) = u32V en.1 := by rw [← hρ2]; exact upd_same _ _ _
    refine ktChain_ok kc (L := L) (B := B) (b := b) (o := o) (cs := cs) (bs := bs ++ (es.take i).flatMap encTag) (by omega) hv1 (by omega) hbB hlt ?_ kn (lo := 0) hq hasc hKn (fun j z hz => by rw [cell_of_heap (hb1.block b hbB)]; exact hr j z hz) (Nat.le_trans hB hb1.size) (by rw [p2 vs (by omega) (by omega), hk1 vs (by omega) hv1 (.inl hvx)]; exact hv) p2s (by rw [p2 1 (by omega) (by omega)]; exact ho1) (by omega) (by omega) (by omega) (by omega) (by omega) (by omega) ?_
    · rw [hfm, List.length_append] at hle
      rw [List.length_append]; omega
    intro ρ3 w3 a1 a2 a3 a4
    show RW P N _ _ ρ3 w3
    have e2 : ρ3 (u + 2) = .int .i64 (i : Nat) := by rw [a1 (u + 2) (by omega) (by omega) (.inr (by omega)), p2 _ (by omega) (by omega), k2]
    refine RW.rg (RL.step (MR.biE (v := .int .i64 ((i + 1 : Nat) : Int)) (by show evB .add (ρ3 (u + 2)) _ = _; rw [e2]; show some (Value.int .i64 (IntKind.i64.wrap ((i : Int) + 1))) = _; rw [wrap_i64 (by omega) (by omega)]; rfl) (ltT (by omega)) rfl) (RL.step (MR.mv (v := .int .i64 ((i + 1 : Nat) : Int)) (upd_same _ _ _) (ltT (by omega))) (RL.nil ?_) (by omega)) (by omega))
    refine ⟨⟨i + 1, by omega, ?_, ?_, upd_same _ _ _, ?_, hb1.trans a3, hn1.trans a4, fun s h1 h2 h3 => ?_⟩, ?_⟩
    · (repeat (first | rw [upd_same] | rw [upd_ne _ _ (by omega)])); rw [a1 u (by omega) (by omega) (.inr (by omega)), p2 u (by omega) (by omega), k0]
    · (repeat (first | rw [upd_same] | rw [upd_ne _ _ (by omega)])); rw [a1 (u + 1) (by omega) (by omega) (.inr (by omega)), p2 _ (by omega) (by omega), k1]
    · (repeat (first | rw [upd_same] | rw [upd_ne _ _ (by omega)])); rw [hfm, ← List.append_assoc]; exact a2
    · (repeat (first | rw [upd_same] | rw [upd_ne _ _ (by omega)])); rw [a1 s (by omega) h2 (by omega), p2 s (by omega) (by omega), hk1 s h1 h2 h3]
    · show es.length - (intOf (upd _ (u + 2) _ (u + 2))).toNat < es.length - (intOf (ρ1 (u + 2))).toNat
      rw [upd_same, k2]; simp only [intOf]; omega
  · have hil : i = es.length := by have := of_decide_eq_false e; omega
    show inBlockR b' Q (.exit b') _ w1
    simp only [inBlockR, if_pos]
    refine hQ _ w1 (fun s h1 h2 h3 => by (repeat (first | rw [upd_same] | rw [upd_ne _ _ (by omega)])); exact hk1 s h1 h2 h3) ?_ hb1
    (repeat (first | rw [upd_same] | rw [upd_ne _ _ (by omega)]))
    rw [hil, List.take_length] at ho1
    exact ho1
theorem ktBody_ok (kc : KtC P I S) {T vs idx off x t b' L B b o : Nat} {cs : List Value} {kn : List KT} {out un : List (Nat × List UInt8)} {bs : List UInt8} {m : Value} (hq : ∀ q ∈ kn, ktB P I T q = true) (hasc : ascT 0 kn = true) (hkl : kn.length < 1000) (hF : fieldAtB P T idx off = true)
    (hk : KnAt kn cs out) (hm : cs[off]? = some m) (hrep : RepT w (· < B) m un) (hsm : un.length ≤ 40000) (hS : S un) (hr : w.rangeAt b o cs) (hbB : b < B) (hB : B ≤ w.heap.size) (hv : ρ vs = .pointer (some ⟨b, o, none⟩)) (ho : OwnB I.tU8 w B (ρ 1) bs) (hlim : bs.length + (encTags (out ++ un)).length ≤ lim)
    (hvx : vs < x) (hv1 : vs ≠ 1) (h1x : 1 < x) (hxL : x + 3 + kn.length ≤ L) (hL : L ≤ t) (hN : ktEnd kn t ≤ N)
    (hQ : ∀ ρ' w', (∀ s, s < L → s ≠ 1 → (s < x ∨ x + 3 + kn.length ≤ s) → ρ' s = ρ s) → OwnB I.tU8 w' B (ρ' 1) (bs ++ encTags (out ++ un)) → Below B w w' → Q .normal ρ' w') : RW P N (rows (ktBody I T vs idx kn t x b')) Q ρ w := by
  have hol : out.length ≤ kn.length := by
    clear hlim hQ
    induction kn generalizing out with
    | nil => have h' : out = [] := hk; subst h'; simp
    | cons q r ih =>
      obtain ⟨v, n, out', _, _, rfl, hk'⟩ := hk
      have := ih (fun q h => hq q (List.mem_cons_of_mem _ h)) (by simp only [ascT, Bool.and_eq_true] at hasc; revert hasc; intro h; exact ascT_mono h.2 (Nat.zero_le _)) (by simp only [List.length_cons] at hkl; omega) hk' (by simp only [List.length_cons] at hxL; omega) (by simp only [ktEnd, List.length_cons] at hN ⊢; omega)
      unfold KT.enc
      split <;> simp only [List.nil_append, List.length_append, List.length_cons, List.length_nil] <;> omega
  have hlen : (encTags (out ++ un)).length = (uv (out.length + un.length)).length + ((out.flatMap encTag).length + (un.flatMap encTag).length) := by
    unfold encTags; rw [List.length_append, List.flatMap_append, List.length_append, List.length_append]
  rw [hlen] at hlim
  have hend := @ktTests_end I T vs x kn t
  simp only [ktEnd] at hN
  unfold ktBody
  dsimp only
  rw [hend]
  refine RWL.rows ?_
  refine RW.rg (RL.step (MR.mv (v := .slice none 0 0) rfl rfl) (RL.nil ?_) (by omega))
  show RWL P N _ _ _ w
  refine ktTests_ok kc (L := L) (B0 := w.heap.size) (b := b) (o := o) (cs := cs) (ks := []) (out := out) (sv := .slice none 0 0) (by omega) (by omega) (by omega) (by omega) kn hq hk hr (Nat.le_refl _) (by (repeat (first | rw [upd_same] | rw [upd_ne _ _ (by omega)])); exact hv) (upd_same _ _ _) (World.ownsRow_nil w _ _ 1) (by simp only [List.length_nil]; omega) hL (by omega) ?_
  intro ρ1 w1 te a1 a2 a3 a4
  rw [List.nil_append] at a3
  have hb1 : Below B w w1 := a4.mono hB
  have hp1 : ∀ s, s < L → s ≠ x → ρ1 s = ρ s := fun s h1 h2 => by rw [a1 s h1 h2]; (repeat (first | rw [upd_same] | rw [upd_ne _ _ (by omega)]))
  have ho1 : OwnB I.tU8 w1 B (ρ1 1) bs := by rw [hp1 1 (by omega) (by omega)]; exact ho.keep a4
  have hrep1 : RepT w1 (· < B) m un := hrep.mono (fun _ h => h) (fun k hk => hb1.block k hk)
  have hr1 : w1.rangeAt b o cs := fun j z hz => by rw [cell_of_heap (hb1.block b hbB)]; exact hr j z hz
  have hcell1 : w1.cell? ⟨b, o + off, none⟩ = some m := hr1 _ _ hm
  obtain ⟨ad, cap, hteq, _⟩ := a3.val
  rw [List.length_map] at hteq
  have hB1 := Nat.le_trans hB hb1.size
  refine RW.rg (RL.step (MR.mv (v := ρ1 1) rfl (ltT (by omega))) (RL.step (MR.mv (v := te) (by show upd _ _ _ x = _; (repeat (first | rw [upd_same] | rw [upd_ne _ _ (by omega)])); exact a2) (ltT (by omega))) (RL.step (MR.ln (p := ad) (n := out.length) (c := cap) kc.us (by rw [upd_same, hteq]) (by omega)) (RL.step (MR.mv (v := .pointer (some ⟨b, o, none⟩)) (by show upd _ _ _ vs = _; (repeat (first | rw [upd_same] | rw [upd_ne _ _ (by omega)])); rw [hp1 vs (by omega) (by omega)]; exact hv) (ltT (by omega))) (RL.step (MR.nc (p := ⟨b, o, none⟩) (upd_same _ _ _) (by omega)) (RL.step (MR.fa (upd_same _ _ _) hF (by omega))
    (RL.ca (R := fun v w' => v = .int .i64 (un.length : Nat) ∧ w' = w1) kc.len.1 ?_ ?_ (by omega) (by simp [MX.lt, Nat.blt_eq]; omega)) (by omega)) (by omega)) (by omega)) (by omega)) (by omega)) (by omega))
  · simp only [List.map_cons, List.map_nil, xof]
    rw [upd_same]
    refine (kc.len.2 w1 B ⟨b, o + off, none⟩ m un hrep1 hcell1).mono ?_
    rintro e w' ⟨rfl, rfl⟩
    exact ⟨_, rfl, rfl, rfl⟩
  rintro v w1' ⟨rfl, rfl⟩
  refine RL.step (MR.biE (v := .int .i64 ((out.length + un.length : Nat) : Int)) (by show evB .add (upd _ _ _ _) (upd _ _ _ _) = _; (repeat (first | rw [upd_same] | rw [upd_ne _ _ (by omega)])); show some (Value.int .i64 (IntKind.i64.wrap ((out.length : Int) + (un.length : Int)))) = _; rw [wrap_i64 (by omega) (by omega)]; rfl) (ltT (by omega)) (ltT (by omega))) (RL.step (MR.cvI (n := ((out.length + un.length : Nat) : Int)) (upd_same _ _ _) kc.i1 kc.i2 (by omega)) ?_ (by omega)) (by omega)
  rw [show IntKind.u32.wrap ((out.length + un.length : Nat) : Int) = ((out.length + un.length : Nat) : Int) from wrap_u32 (by omega) (by omega)]
  refine RL.caG (R := fun _ _ x out => ∃ n : Nat, n < 4294967296 ∧ x = .int .u32 n ∧ out = uv n) kc.uv (B := B) (sv := ρ1 1) (bs := bs) (out := uv (out.length + un.length)) (by (repeat (first | rw [upd_same] | rw [upd_ne _ _ (by omega)]))) ho1 ⟨out.length + un.length, by omega, by show upd _ _ _ _ = _; rw [upd_same], rfl⟩ hB1 (by omega) (fun sv2 w2 c1 c2 c3 => RL.step (MR.mv (v := sv2) (upd_same _ _ _) (ltT (by omega))) (RL.nil ?_) (by omega)) (by omega) (ltT (by omega)) (by omega)
  show RWL P N _ _ _ w2
  generalize hρ2 : upd (upd _ (t + 8 * kn.length + 9) sv2) 1 sv2 = ρ2
  have p2 : ∀ s, s < L → s ≠ 1 → ρ2 s = ρ1 s := fun s h1 h2 => by rw [← hρ2]; (repeat (first | rw [upd_same] | rw [upd_ne _ _ (by omega)]))
  have p21 : ρ2 1 = sv2 := by rw [← hρ2]; exact upd_same _ _ _
  have hb2 : Below B w w2 := hb1.trans c2
  refine (?_ : RW P N (ktLoop I T vs x (t + 8 * kn.length + 10) b' kn (t + 8 * kn.length + 17 + 13 * kn.length)) _ ρ2 w2)
  rw [show t + 8 * kn.length + 17 + 13 * kn.length = t + 8 * kn.length + 10 + 7 + 13 * kn.length from by omega]
  refine ktLoop_ok kc (L := L) (B := B) (B0 := w.heap.size) (b := b) (o := o) (cs := cs) (es := out) (bs := bs ++ uv (out.length + un.length)) (te := te) hq hasc (fun e he => hk.in e he) (by omega) (a3.keep c3 kc.ne) (by rw [p2 x (by omega) (by omega)]; exact a2) (fun j z hz => by rw [cell_of_heap (hb2.block b hbB)]; exact hr j z hz) hbB (Nat.le_trans hB hb2.size) (by rw [p2 vs (by omega) hv1, hp1 vs (by omega) (by omega)]; exact hv) (by rw [p21]; exact c1) (by rw [List.length_append]; omega) hvx hv1 h1x hxL (by omega) (by omega) ?_
  intro ρ3 w3 d1 d2 d3
  show RWL P N _ _ ρ3 w3
  have hb3 : Below B w w3 := hb2.trans d3
  have hrep3 : RepT w3 (· < B) m un := hrep.mono (fun _ h => h) (fun k hk => hb3.block k hk)
  have hcell3 : w3.cell? ⟨b, o + off, none⟩ = some m := by rw [cell_of_heap (hb3.block b hbB)]; exact hr _ _ hm
  have hv3 : ρ3 vs = .pointer (some ⟨b, o, none⟩) := by rw [d1 vs (by omega) hv1 (.inl hvx), p2 vs (by omega) hv1, hp1 vs (by omega) (by omega)]; exact hv
  refine RW.rg (RL.step (MR.mv hv3 (ltT (by omega))) (RL.step (MR.nc (p := ⟨b, o, none⟩) (upd_same _ _ _) (by omega)) (RL.step (MR.fa (upd_same _ _ _) hF (by omega)) (RL.step (MR.mv (v := ρ3 1) (by show upd _ _ _ 1 = _; (repeat (first | rw [upd_same] | rw [upd_ne _ _ (by omega)]))) (ltT (by omega)))
    (RL.ca (R := fun sv4 w4 => OwnB I.tU8 w4 B sv4 (bs ++ uv (out.length + un.length) ++ out.flatMap encTag ++ un.flatMap encTag) ∧ Below B w3 w4) kc.each.1 ?_ ?_ (by omega) (by simp [MX.lt, Nat.blt_eq]; omega)) (by omega)) (by omega)) (by omega)) (by omega))
  · simp only [List.map_cons, List.map_nil, xof]
    rw [upd_same, upd_ne _ _ (by omega), upd_same]
    refine (kc.each.2 w3 B ⟨b, o + off, none⟩ m (ρ3 1) un (bs ++ uv (out.length + un.length) ++ out.flatMap encTag) (Nat.le_trans hB hb3.size) hbB d2 hrep3 hS hcell3 (by simp only [List.length_append]; omega)).mono ?_
    rintro e w' ⟨sv', rfl, h2⟩
    exact ⟨sv', rfl, h2⟩
  rintro sv4 w4 ⟨e1, e2⟩
  refine RL.step (MR.mv (v := sv4) (upd_same _ _ _) (ltT (by omega))) (RL.nil ?_) (by omega)
  show Q .normal _ w4
  refine hQ _ w4 (fun s h1 h2 h3 => ?_) ?_ (hb3.trans e2)
  · (repeat (first | rw [upd_same] | rw [upd_ne _ _ (by omega)]))
    rw [d1 s h1 h2 h3, p2 s h1 h2, hp1 s h1 (by omega)]
  · rw [upd_same]
    have : bs ++ encTags (out ++ un) = bs ++ uv (out.length + un.length) ++ out.flatMap encTag ++ un.flatMap encTag := by unfold encTags; simp
    rw [this]; exact e1
end
set_option linter.unusedVariables false
def asV (k : PK) (cs : List Value) : Value :=
  match k with
  | .uuid => .agg cs.toArray
  | _ => cs.headD undef
def smallP : D → Prop
  | .s (some l) => l.length ≤ 32767
  | _ => True
section
variable (S : List (Nat × List UInt8) → Prop)
mutual
def Sm : Ty → D → Prop
  | .prim _ _, d => smallP d
  | .enum _ _ _, d => smallP d
  | .vstr _ _ _, d => smallP d
  | .arr _ _ _ el, d => match d with
    | .l _ xs => xs.length ≤ 32767 ∧ ∀ d ∈ xs, Sm el d
    | _ => True
  | .struct _ _ _ tg fs, d => match d with
    | .r ds tags => SmF fs ds ∧ S tags
    | _ => True
def SmF : Flds → List D → Prop
  | .nil, _ => True
  | .cons _ _ _ _ ty rest, ds => Sm ty (ds.headD (.n 0)) ∧ SmF rest ds.tail
end
end
def PK.kind : PK → Option IntKind
  | .i8 => some .i8
  | .i16 => some .i16
  | .i32 => some .i32
  | .i64 => some .i64
  | .u16 => some .u16
  | _ => none
def primTy (P : Program) (k : PK) (ty : Nat) : Bool :=
  match k with
  | .uuid => rowTy P ty && cellsB P ty 16
  | _ => plainTy P ty
def zeroN (P : Program) (ty n : Nat) : Bool :=
  match P.info? ty with
  | some i => (match i.zero with | some (.agg cs) => Nat.beq cs.size n | _ => false)
  | none => false
structure AOK (P : Program) (I : IA) (S : List (Nat × List UInt8) → Prop) : Prop where
  small : ∀ tags, S tags → smallT tags
  prim : ∀ k flex, I.fn k flex ≠ 0 → ApC P I.tU8 (I.fn k flex) (fun w B x out => ∃ cs d, x = asV k cs ∧ RepP w (· < B) k cs d ∧ smallP d ∧ out = encP k flex d)
  alen : I.alen ≠ 0 → LenC P I.tU8 I.alen (fun n => fix n 4)
  calen : I.calen ≠ 0 → LenC P I.tU8 I.calen (fun n => uv (n + 1))
  nalen : I.nalen ≠ 0 → NLenC P I.tU8 I.nalen false
  cnalen : I.cnalen ≠ 0 → NLenC P I.tU8 I.cnalen true
  tlen : I.tlen ≠ 0 → TlenC P I.tlen
  teach : I.teach ≠ 0 → TeachC P I.tU8 I.teach S
  uvar : I.uvar ≠ 0 → UvarC P I.tU8 I.uvar
  suf : ∀ a b, S (a ++ b) → S b
  kt : I.tU32s ≠ 0 → I.uvar ≠ 0 → KtC P I S
def fnOk (I : IA) (sf : Option Nat) (k : PK) : Bool := !(Nat.beq (I.fn k false) 0) && (if k.two && sf.isSome then !(Nat.beq (I.fn k true) 0) else true)
def lnOk1 (I : IA) (sf : Option Nat) : Bool := !(Nat.beq I.alen 0) && (if sf.isSome then !(Nat.beq I.calen 0) else true)
def lnOk2 (I : IA) (sf : Option Nat) : Bool := !(Nat.beq I.nalen 0) && (if sf.isSome then !(Nat.beq I.cnalen 0) else true)
def lnOk (I : IA) (sf nul : Option Nat) : Bool :=
  match nul with
  | none => lnOk1 I sf
  | some 0 => lnOk2 I sf
  | some (_ + 1) => lnOk1 I sf && lnOk2 I sf
def knB (P : Program) (I : IA) (T : Nat) (kn : List KT) : Bool := kn.all (ktB P I T) && ascT 0 kn && Nat.blt kn.length 1000 && !(Nat.beq I.tU32s 0)
def wfT (P : Program) (I : IA) (sf : Option Nat) (T : Nat) (tg : Option TgF) : Bool :=
  match tg with
  | none => true
  | some ((i, kn), off) => (kn.isEmpty || knB P I T kn) && fieldAtB P T i off && !(Nat.beq I.tlen 0) && !(Nat.beq I.teach 0) && !(Nat.beq I.uvar 0) && intTy P I.tInt .i64 && intTy P I.tU32 .u32
mutual
def wfE (P : Program) (I : IA) (sf : Option Nat) (ety : Nat) : Ty → Bool
  | .prim k _ => primTy P k ety && cellsB P ety k.cells && fnOk I sf k && (!k.box || zeroN P ety 16)
  | .struct T n _ tg fs => cellsB P ety n && wfF P I sf T fs && wfT P I sf T tg
  | _ => false
def wfF (P : Program) (I : IA) (sf : Option Nat) (T : Nat) : Flds → Bool
  | .nil => true
  | .cons _ idx off _ ty rest => fieldAtB P T idx off && wfFld P I sf ty && wfF P I sf T rest
def wfFld (P : Program) (I : IA) (sf : Option Nat) : Ty → Bool
  | .prim k ty => primTy P k ty && fnOk I sf k && (!k.box || zeroN P ty 16)
  | .enum k ty base => (match k.kind with | some kk => intTy P ty kk && intTy P base kk | none => false) && plainTy P ty && !(Nat.beq (I.fn k false) 0)
  | .vstr _ ty base => plainTy P ty && ptrOf P ty base && plainTy P base && fnOk I sf .str && fnOk I sf .nstr
  | .arr nul ty ety el => plainTy P ty && sliceOf P ty ety && cellsB P ety el.cells && wfE P I sf ety el && lnOk I sf nul
  | .struct T' n _ tg fs => wfF P I sf T' fs && wfT P I sf T' tg
end

theorem rangeAt_sub {w : World} {b o : Nat} {cs : List Value} (h : w.rangeAt b o cs) (off n : Nat) : w.rangeAt b (o + off) ((cs.drop off).take n) := by
  intro j v hv
  rw [List.getElem?_take] at hv
  split at hv
  · rw [List.getElem?_drop] at hv
    have := h (off + j) v hv
    rwa [show o + off + j = o + (off + j) from by omega]
  · simp at hv
theorem rangeAt_heap {w : World} {g : Nat} {arr : Array Value} {eT : Nat} {fr : Nat × Nat} (h : w.heap[g]? = some (.cells arr eT fr)) : w.rangeAt g 0 arr.toList := by
  intro j v hv
  rw [Nat.zero_add, cell_of_row w g j arr eT fr h]
  simpa using hv
theorem encP_two {k : PK} (h : k.two = false) (flex : Bool) (d : D) : encP k flex d = encP k false d := by
  cases k <;> first | (simp [PK.two] at h; done) | (cases d <;> first | rfl | (rename_i o; cases o <;> rfl))
section
variable {P : Program} {w : World} {F : Nat → Prop}
theorem load_prim {k : PK} {ty b o : Nat} {cs : List Value} {d : D} (hp : primTy P k ty = true) (hr : RepP w F k cs d) (hc : w.rangeAt b o cs) :
    (Instr.loadAt ty (.pointer (some ⟨b, o, none⟩))).run P w = .ok (asV k cs) w := by
  have one : ∀ u : Value, cs = [u] → asV k cs = cs.headD undef → plainTy P ty = true → (Instr.loadAt ty (.pointer (some ⟨b, o, none⟩))).run P w = .ok (asV k cs) w := by
    intro u hu h1 h2
    rw [h1, hu]
    refine run_loadAt_one h2 ?_
    have := hc 0 u (by rw [hu]; rfl)
    simpa using this
  cases k
  case uuid =>
    obtain ⟨l, h1, h2, h3⟩ := hr
    simp only [primTy, Bool.and_eq_true] at hp
    exact run_loadAt_row hp.1 (by rw [h2, List.length_map, h1]; exact hp.2) hc
  all_goals simp only [RepP] at hr
  case i8 => obtain ⟨n, h1, _⟩ := hr; exact one _ h1 rfl hp
  case i16 => obtain ⟨n, h1, _⟩ := hr; exact one _ h1 rfl hp
  case i32 => obtain ⟨n, h1, _⟩ := hr; exact one _ h1 rfl hp
  case i64 => obtain ⟨n, h1, _⟩ := hr; exact one _ h1 rfl hp
  case u16 => obtain ⟨n, h1, _⟩ := hr; exact one _ h1 rfl hp
  case bool => obtain ⟨n, h1, _⟩ := hr; exact one _ h1 rfl hp
  case f64 => obtain ⟨n, h1, _⟩ := hr; exact one _ h1 rfl hp
  case str => obtain ⟨n, h1, _⟩ := hr; exact one _ h1 rfl hp
  case nstr => rcases hr with ⟨h1, _⟩ | ⟨b', s, h1, _⟩ <;> exact one _ h1 rfl hp
  case byt => obtain ⟨a, c, l, h1, _⟩ := hr; exact one _ h1 rfl hp
  case nbyt => rcases hr with ⟨h1, _⟩ | ⟨a, c, l, h1, _⟩ <;> exact one _ h1 rfl hp
end
section
variable {P : Program} {B N L : Nat} {ρ : Nat → Value} {w : World} {x x' : Nat} {I : IA} {ver : Int} {flex : Bool} {sver : Nat} {sf : Option Nat} {S : List (Nat × List UInt8) → Prop}
structure Ctx (sver : Nat) (sf : Option Nat) (ver : Int) (flex : Bool) (x : Nat) (ρ : Nat → Value) : Prop where
  hx : 1 < x
  v1 : 1 < sver
  vx : sver < x
  ver : ρ sver = .int .i16 ver
  f1 : ∀ s, sf = some s → 1 < s ∧ s < x ∧ ρ s = .bool flex
  f0 : sf = none → flex = false
theorem Ctx.keep {y : Nat} {ρ' : Nat → Value} (h : Ctx sver sf ver flex x ρ) (hk : Keep L x y ρ ρ') (hL : x ≤ L) (hy : x ≤ y) : Ctx sver sf ver flex y ρ' where
  hx := by have := h.hx; omega
  v1 := h.v1
  vx := by have := h.vx; omega
  ver := by rw [hk _ (by have := h.vx; omega) (by have := h.v1; omega) (.inl h.vx)]; exact h.ver
  f1 := fun s hs => by
    obtain ⟨h1, h2, h3⟩ := h.f1 s hs
    exact ⟨h1, by omega, by rw [hk _ (by omega) (by omega) (.inl h2)]; exact h3⟩
  f0 := h.f0
theorem Ctx.upd {v : Value} (h : Ctx sver sf ver flex x ρ) : Ctx sver sf ver flex (x + 1) (upd ρ x v) where
  hx := by have := h.hx; omega
  v1 := h.v1
  vx := by have := h.vx; omega
  ver := by rw [upd_ne _ _ (by have := h.vx; omega)]; exact h.ver
  f1 := fun s hs => by
    obtain ⟨h1, h2, h3⟩ := h.f1 s hs
    exact ⟨h1, by omega, by rw [upd_ne _ _ (by omega)]; exact h3⟩
  f0 := h.f0
theorem Writes.primA {k : PK} {v t : Nat} {d : D} (ok : AOK P I S) (hctx : Ctx sver sf ver flex x ρ) (hxL : x ≤ L) (hv : v < L) (ht : L ≤ t) (hN : (Kx.primA I sf k v t).2 ≤ N) (hB : B ≤ w.heap.size)
    {cs : List Value} (hfn : fnOk I sf k = true) (hx : ρ v = asV k cs) (hr : RepP w (· < B) k cs d) (hs : smallP d) : Writes P I.tU8 B N L (Kx.primA I sf k v t).1 ρ w x' x' (encP k flex d) := by
  have h1L : 1 < L := by have := hctx.hx; omega
  simp only [fnOk, Bool.and_eq_true] at hfn
  obtain ⟨f1, f2⟩ := hfn
  have callN : ∀ t, L ≤ t → (Kx.callA (I.fn k false) v t).2 ≤ N → Writes P I.tU8 B N L (Kx.callA (I.fn k false) v t).1 ρ w x' x' (encP k false d) := by
    intro t ht hN
    exact Writes.callA (ok.prim k false (ne0 f1)) hB hv h1L ht (by simpa [Kx.callA] using hN) ⟨cs, d, hx, hr, hs, rfl⟩
  unfold Kx.primA at hN ⊢
  cases htwo : k.two
  · rw [encP_two htwo]
    rw [htwo] at hN
    simpa [htwo] using callN t ht (by simpa using hN)
  · rw [htwo] at hN f2
    simp only [if_true] at hN ⊢
    refine Writes.ifFlex (fun s hs => ?_) hctx.f0 ht hN (fun _ => callA_le) (fun _ => callA_le) (fun e t' ht' hN' => ?_) (fun e t' ht' hN' => ?_)
    · obtain ⟨h1, h2, h3⟩ := hctx.f1 s hs; exact ⟨by omega, h3⟩
    · subst e
      cases sf with
      | none => have := hctx.f0 rfl; simp at this
      | some s =>
        simp only [Option.isSome_some, Bool.and_true, if_true] at f2
        exact Writes.callA (ok.prim k true (ne0 f2)) hB hv h1L ht' (by simpa [Kx.callA] using hN') ⟨cs, d, hx, hr, hs, rfl⟩
    · subst e; exact callN t' ht' hN'
theorem Writes.alenA1 {ty ety v t n c : Nat} {p : Option Addr} (ok : AOK P I S) (hctx : Ctx sver sf ver flex x ρ) (hxL : x ≤ L) (hv : v < L) (hv1 : v ≠ 1) (ht : L ≤ t) (hN : (Kx.ifFlex sf t (Kx.lenA I.calen ty v) (Kx.lenA I.alen ty v)).2 ≤ N) (hB : B ≤ w.heap.size)
    (hln : lnOk1 I sf = true) (hsl : sliceOf P ty ety = true) (hρ : ρ v = .slice p n c) (hn : n ≤ 32767) :
    Writes P I.tU8 B N L (Kx.ifFlex sf t (Kx.lenA I.calen ty v) (Kx.lenA I.alen ty v)).1 ρ w x' x' (cnt flex 4 n) := by
  have h1L : 1 < L := by have := hctx.hx; omega
  have hs : ∀ s, sf = some s → s < L ∧ ρ s = .bool flex := fun s hs => by obtain ⟨h1, h2, h3⟩ := hctx.f1 s hs; exact ⟨by omega, h3⟩
  simp only [lnOk1, Bool.and_eq_true] at hln
  refine Writes.ifFlex hs hctx.f0 ht hN (fun _ => lenA_le) (fun _ => lenA_le) (fun e t' ht' hN' => ?_) (fun e t' ht' hN' => ?_)
  · subst e
    cases sf with
    | none => have := hctx.f0 rfl; simp at this
    | some s =>
      have h2 := hln.2
      simp only [Option.isSome_some, if_true] at h2
      exact Writes.lenA (ok.calen (ne0 h2)) hB hv hv1 h1L ht' (by simpa [Kx.lenA] using hN') hsl hρ hn
  · subst e
    exact Writes.lenA (ok.alen (ne0 hln.1)) hB hv hv1 h1L ht' (by simpa [Kx.lenA] using hN') hsl hρ hn
theorem Writes.alenA2 {ty ety v t n c : Nat} {p : Option Addr} (ok : AOK P I S) (hctx : Ctx sver sf ver flex x ρ) (hxL : x ≤ L) (hv : v < L) (hv1 : v ≠ 1) (ht : L ≤ t) (hN : (Kx.ifFlex sf t (Kx.nlenA I.cnalen ty v) (Kx.nlenA I.nalen ty v)).2 ≤ N) (hB : B ≤ w.heap.size)
    (hln : lnOk2 I sf = true) (hsl : sliceOf P ty ety = true) (hρ : ρ v = .slice p n c) (hn : n ≤ 32767) :
    Writes P I.tU8 B N L (Kx.ifFlex sf t (Kx.nlenA I.cnalen ty v) (Kx.nlenA I.nalen ty v)).1 ρ w x' x' (if p.isNone then cntNull flex 4 else cnt flex 4 n) := by
  have h1L : 1 < L := by have := hctx.hx; omega
  have hs : ∀ s, sf = some s → s < L ∧ ρ s = .bool flex := fun s hs => by obtain ⟨h1, h2, h3⟩ := hctx.f1 s hs; exact ⟨by omega, h3⟩
  simp only [lnOk2, Bool.and_eq_true] at hln
  refine Writes.ifFlex hs hctx.f0 ht hN (fun _ => nlenA_le) (fun _ => nlenA_le) (fun e t' ht' hN' => ?_) (fun e t' ht' hN' => ?_)
  · subst e
    cases sf with
    | none => have := hctx.f0 rfl; simp at this
    | some s =>
      have h2 := hln.2
      simp only [Option.isSome_some, if_true] at h2
      exact Writes.nlenA (ok.cnalen (ne0 h2)) hB hv hv1 h1L ht' (by simpa [Kx.nlenA] using hN') hsl hρ hn
  · subst e
    exact Writes.nlenA (ok.nalen (ne0 hln.1)) hB hv hv1 h1L ht' (by simpa [Kx.nlenA] using hN') hsl hρ hn
theorem Writes.alenA {nul : Option Nat} {ty ety v t n c : Nat} {p : Option Addr} (ok : AOK P I S) (hctx : Ctx sver sf ver flex x ρ) (hxL : x ≤ L) (hv : v < L) (hv1 : v ≠ 1) (ht : L ≤ t) (hN : (Kx.alenA I sver sf nul ty v t).2 ≤ N) (hB : B ≤ w.heap.size)
    (hln : lnOk I sf nul = true) (hsl : sliceOf P ty ety = true) (hρ : ρ v = .slice p n c) (hn : n ≤ 32767) :
    Writes P I.tU8 B N L (Kx.alenA I sver sf nul ty v t).1 ρ w x' x' (if nul.isSome && p.isNone && vNul nul ver then cntNull flex 4 else cnt flex 4 n) := by
  cases nul with
  | none => exact Writes.alenA1 ok hctx hxL hv hv1 ht hN hB hln hsl hρ hn
  | some m =>
    cases m with
    | zero =>
      simp only [vNul, Option.isSome_some, Bool.true_and, Bool.and_true]
      exact Writes.alenA2 ok hctx hxL hv hv1 ht hN hB hln hsl hρ hn
    | succ k =>
      simp only [lnOk, Bool.and_eq_true] at hln
      simp only [Kx.alenA, vNul, Option.isSome_some, Bool.true_and] at hN ⊢
      have g1 := @ifFlex_le sf (t + 2) (Kx.nlenA I.cnalen ty v) (Kx.nlenA I.nalen ty v) (fun _ => nlenA_le) (fun _ => nlenA_le)
      have g2 := @Kx.ifFlex_le sf (Kx.ifFlex sf (t + 2) (Kx.nlenA I.cnalen ty v) (Kx.nlenA I.nalen ty v)).2 (Kx.lenA I.calen ty v) (Kx.lenA I.alen ty v) (fun _ => lenA_le) (fun _ => lenA_le)
      refine Writes.ifGe (lo := k + 1) (by have := hctx.vx; omega) hctx.ver ht (by omega) (fun e => ?_) (fun e => ?_)
      · rw [decide_eq_true e, Bool.and_true]
        exact Writes.alenA2 ok hctx hxL hv hv1 (by omega) (by omega) hB hln.2 hsl hρ hn
      · rw [decide_eq_false e, Bool.and_false]
        simp only [Bool.false_eq_true, if_false]
        exact Writes.alenA1 ok hctx hxL hv hv1 (by omega) hN hB hln.1 hsl hρ hn
theorem KnAt.nil {cs : List Value} {out : List (Nat × List UInt8)} (h : KnAt [] cs out) : out = [] := h
theorem tags_of (ok : AOK P I S) {T vs t b o bl : Nat} {tg : Option TgF} {cs : List Value} {tags : List (Nat × List UInt8)}
    (hctx : Ctx sver sf ver flex x ρ) (hxL : (Kx.tagsA I sf T vs tg t x bl).2.2.1 ≤ L) (hvs : vs < x) (hvs1 : vs ≠ 1) (ht : L ≤ t) (hN : (Kx.tagsA I sf T vs tg t x bl).2.1 ≤ N) (hp : ρ vs = .pointer (some ⟨b, o, none⟩)) (hbB : b < B) (hB : B ≤ w.heap.size)
    (hwf : wfT P I sf T tg = true) (hc : w.rangeAt b o cs) (hm : TagsAt w (· < B) tg cs tags) (hsm : S tags) :
    WritesL P I.tU8 B N L (Kx.tagsA I sf T vs tg t x bl).1 ρ w x (Kx.tagsA I sf T vs tg t x bl).2.2.1 (if tg.isSome && flex then encTags tags else []) := by
  have hxl := @tagsA_le I sf T vs tg t x bl
  have hs : ∀ s, sf = some s → s < L ∧ ρ s = .bool flex := fun s hs => by obtain ⟨h1, h2, h3⟩ := hctx.f1 s hs; exact ⟨by omega, h3⟩
  cases tg with
  | none => exact ⟨rfl, rfl⟩
  | some p =>
    obtain ⟨⟨i, kn⟩, off⟩ := p
    simp only [wfT, Bool.and_eq_true] at hwf
    obtain ⟨⟨⟨⟨⟨⟨w0, w1⟩, w2⟩, w3⟩, w4⟩, w5⟩, w6⟩ := hwf
    obtain ⟨m, kb, un, hm1, hm2, hm3, rfl, hm5⟩ := hm
    cases kn with
    | nil =>
      have hk : kb = [] := hm3
      subst hk
      have hx2 : (Kx.tagsA I sf T vs (some ((i, []), off)) t x bl).2.2.1 = x := by cases sf <;> rfl
      rw [hx2]
      refine WritesL.tagsA (m := m) (tags := un) (fun q hq => by cases hq; rfl) hs hctx.f0 ht hN (by have := hctx.hx; omega) (by omega) hvs1 hp hbB hB (ok.tlen (ne0 w2)) (ok.teach (ne0 w3)) (ok.uvar (ne0 w4)) w5 w6 ?_
      intro i' kn' off' he
      simp only [Option.some.injEq, Prod.mk.injEq] at he
      obtain ⟨⟨rfl, _⟩, rfl⟩ := he
      exact ⟨w1, hc off m hm1, hm2, ok.small _ hsm, hsm⟩
    | cons q r =>
      cases sf with
      | none => simp only [Kx.tagsA, hctx.f0 rfl]; exact ⟨rfl, rfl⟩
      | some s =>
        simp only [List.isEmpty_cons, Bool.false_or, knB, Bool.and_eq_true, List.all_eq_true, Nat.blt_eq] at w0
        obtain ⟨⟨⟨k1, k2⟩, k3⟩, k4⟩ := w0
        obtain ⟨hsL, hsv⟩ := hs s rfl
        simp only [Kx.tagsA] at hN hxL ⊢
        refine .inl ⟨_, [], _, (List.append_nil _).symm, by omega, Nat.le_refl _, ?_, fun _ _ _ _ => ⟨rfl, rfl⟩⟩
        intro a bs Q hl ho hlim hQ
        have hsz := hl.size
        have hend : t + 1 < N := by simp only [ktEnd] at hN; omega
        simp only [Option.isSome_some, Bool.true_and] at hlim hQ
        refine MW.sq (MW.rg (ML.mv (ML.nil ?_)))
        simp only [MX.of]
        rw [hl.get s hsL, hsv]
        have hl0 : Loc N L ρ (wr a t (.bool flex)) := hl.tmp _ ht (by omega)
        refine MW.cd (b := flex) (rd_same (by omega)) (fun e => ?_) (fun e => ?_)
        · subst e
          rw [if_pos rfl] at hlim hQ
          generalize wr a t (.bool true) = a0 at hl0
          have hrd : ∀ s, s < L → rd a0 s = ρ s := hl0.get
          have hx1 := hctx.hx
          have body := ktBody_ok (N := N) (Q := fun e ρ' w' => e = .normal ∧ (∀ s, s < L → s ≠ 1 → (s < x ∨ x + 3 + (q :: r).length ≤ s) → ρ' s = rd a0 s) ∧ OwnB I.tU8 w' B (ρ' 1) (bs ++ encTags (kb ++ un)) ∧ Below B w w') (ρ := rd a0) (b' := bl) (ok.kt (ne0 k4) (ne0 w4)) k1 k2 k3 w1 hm3 hm1 hm2 (ok.small _ (ok.suf _ _ hsm)).1 (ok.suf _ _ hsm) hc hbB hB (by rw [hrd vs (by omega)]; exact hp) (by rw [hrd 1 (by omega)]; exact ho) hlim hvs hvs1 hx1 hxL (show L ≤ t + 1 by omega) hN (fun ρ' w' h1 h2 h3 => ⟨rfl, h1, h2, h3⟩)
          refine (body a0 ⟨hl0.size, hl0.defers, fun _ _ => rfl⟩).mono fun e a' w' hu => ?_
          cases e with
          | normal =>
            obtain ⟨ρ', g1, _, g2, g3, g4⟩ := hu
            exact hQ a' w' ρ' (g1.less (by omega)) (fun s h1 h2 h3 => by rw [g2 s h1 h2 h3, hrd s h1]) g3 g4
          | panic _ => exact hu.elim
          | _ => obtain ⟨ρ', g1, g2, _⟩ := hu; cases g2
        · subst e
          rw [if_neg (by simp)] at hlim hQ
          exact Writes.sk (by omega) _ bs Q hl0 ho hlim hQ
end
set_option linter.unusedVariables false
theorem Ctx.le {x y : Nat} {ρ : Nat → Value} {ver : Int} {flex : Bool} {sver : Nat} {sf : Option Nat} (h : Ctx sver sf ver flex x ρ) (hxy : x ≤ y) : Ctx sver sf ver flex y ρ where
  hx := by have := h.hx; omega
  v1 := h.v1
  vx := by have := h.vx; omega
  ver := h.ver
  f1 := fun s hs => by obtain ⟨h1, h2, h3⟩ := h.f1 s hs; exact ⟨h1, by omega, h3⟩
  f0 := h.f0
section
variable {P : Program} {B N L : Nat} {ρ : Nat → Value} {w : World} {x x' : Nat} {I : IA} {ver : Int} {flex : Bool} {sver : Nat} {sf : Option Nat} {S : List (Nat × List UInt8) → Prop}
theorem Ctx.keep0 {y : Nat} {ρ' : Nat → Value} (h : Ctx sver sf ver flex x ρ) (hk : Keep L x y ρ ρ') (hL : x ≤ L) : Ctx sver sf ver flex x ρ' where
  hx := h.hx
  v1 := h.v1
  vx := h.vx
  ver := by rw [hk _ (by have := h.vx; omega) (by have := h.v1; omega) (.inl h.vx)]; exact h.ver
  f1 := fun s hs => by
    obtain ⟨h1, h2, h3⟩ := h.f1 s hs
    exact ⟨h1, h2, by rw [hk _ (by omega) (by omega) (.inl h2)]; exact h3⟩
  f0 := h.f0
theorem Sets.elemAddr {ty ety v t ab i len cap sz : Nat} (hv : v < L) (hx : x < L) (hxL : x + 1 < L) (ht : L ≤ t) (hN : t + 3 ≤ N) (hs : sliceOf P ty ety = true) (hc : cellsB P ety sz = true)
    (hρ : ρ v = .slice (some ⟨ab, 0, none⟩) len cap) (hi : ρ x = .int .i64 (i : Nat)) (hil : i < len) :
    Sets P N L (.rg [.mv t (.t v), .mv (t + 1) (.t x), .ia (t + 2) ty t (t + 1), .mv (x + 1) (.t (t + 2))]) ρ w (x + 1) (.pointer (some ⟨ab, i * sz, none⟩)) := by
  intro a Q hl hQ
  have hsz := hl.size
  refine MW.rg (ML.mv (ML.mv (ML.ia (b := ab) (o := 0) (len := len) (cap := cap) (k := .i64) (j := i) (sz := sz) hs hc ?_ ?_ hil (ML.mv (ML.nil ?_)))))
  · simp (disch := (first | omega | (simp only [size_wr]; omega))) only [rd_same, rd_ne, MX.of]
    rw [hl.get v hv, hρ]
  · simp (disch := (first | omega | (simp only [size_wr]; omega))) only [rd_same, rd_ne, MX.of]
    rw [hl.get x hx, hi]
  · simp (disch := (first | omega | (simp only [size_wr]; omega))) only [rd_same, rd_ne, MX.of]
    rw [Nat.zero_add]
    exact hQ _ (Loc.set (((hl.tmp _ (by omega) (by omega)).tmp _ (by omega) (by omega)).tmp _ (by omega) (by omega)) _ (by omega))
theorem Sets.elemLoad {ty ety v t ab i len cap sz : Nat} {u : Value} (hv : v < L) (hx : x < L) (hxL : x + 1 < L) (ht : L ≤ t) (hN : t + 4 ≤ N) (hs : sliceOf P ty ety = true) (hc : cellsB P ety sz = true)
    (hρ : ρ v = .slice (some ⟨ab, 0, none⟩) len cap) (hi : ρ x = .int .i64 (i : Nat)) (hil : i < len) (hr : (Instr.loadAt ety (.pointer (some ⟨ab, i * sz, none⟩))).run P w = .ok u w) :
    Sets P N L (.rg [.mv t (.t v), .mv (t + 1) (.t x), .ia (t + 2) ty t (t + 1), .ld (t + 3) ety (t + 2), .mv (x + 1) (.t (t + 3))]) ρ w (x + 1) u := by
  intro a Q hl hQ
  have hsz := hl.size
  refine MW.rg (ML.mv (ML.mv (ML.ia (b := ab) (o := 0) (len := len) (cap := cap) (k := .i64) (j := i) (sz := sz) hs hc ?_ ?_ hil (ML.ldBy (v := u) ?_ (ML.mv (ML.nil ?_))))))
  · simp (disch := (first | omega | (simp only [size_wr]; omega))) only [rd_same, rd_ne, MX.of]
    rw [hl.get v hv, hρ]
  · simp (disch := (first | omega | (simp only [size_wr]; omega))) only [rd_same, rd_ne, MX.of]
    rw [hl.get x hx, hi]
  · simp (disch := (first | omega | (simp only [size_wr]; omega))) only [rd_same, rd_ne, MX.of]
    rw [Nat.zero_add]; exact hr
  · simp (disch := (first | omega | (simp only [size_wr]; omega))) only [rd_same, rd_ne, MX.of]
    exact hQ _ (Loc.set ((((hl.tmp _ (by omega) (by omega)).tmp _ (by omega) (by omega)).tmp _ (by omega) (by omega)).tmp _ (by omega) (by omega)) _ (by omega))
theorem Sets.fldAddr {T vs idx t b o off : Nat} (hp : ρ vs = .pointer (some ⟨b, o, none⟩)) (hvs : vs < L) (hx : x < L) (ht : L ≤ t) (hN : t + 3 ≤ N) (hf : fieldAtB P T idx off = true) :
    Sets P N L (.rg [.mv t (.t vs), .nc (t + 1) t, .fa (t + 2) T (t + 1) idx, .mv x (.t (t + 2))]) ρ w x (.pointer (some ⟨b, o + off, none⟩)) := by
  intro a Q hl hQ
  have hsz := hl.size
  refine MW.rg (ML.mv (ML.nc (p := ⟨b, o, none⟩) ?_ (ML.fa (b := b) (o := o) (off := off) ?_ hf (ML.mv (ML.nil ?_)))))
  · simp (disch := (first | omega | (simp only [size_wr]; omega))) only [rd_same, rd_ne, MX.of]
    rw [hl.get vs hvs, hp]
  · simp (disch := (first | omega | (simp only [size_wr]; omega))) only [rd_same, rd_ne, MX.of]
  · simp (disch := (first | omega | (simp only [size_wr]; omega))) only [rd_same, rd_ne, MX.of]
    exact hQ _ (Loc.set (((hl.tmp _ (by omega) (by omega)).tmp _ (by omega) (by omega)).tmp _ (by omega) (by omega)) _ (by omega))
theorem Sets.conv {v t : Nat} {u : Value} (hv : v < L) (hx : x < L) (ht : L ≤ t) (hN : t + 1 ≤ N)
    (hρ : ρ v = u) : Sets P N L (.rg [.mv t (.t v), .mv x (.t t)]) ρ w x u := by
  intro a Q hl hQ
  have hsz := hl.size
  refine MW.rg (ML.mv (ML.mv (ML.nil ?_)))
  simp (disch := (first | omega | (simp only [size_wr]; omega))) only [rd_same, rd_ne, MX.of]
  rw [hl.get v hv, hρ]
  exact hQ _ (Loc.set (hl.tmp _ (by omega) (by omega)) _ (by omega))
theorem wrap_small {k : IntKind} {n : Int} (h0 : k.min ≤ n) (h1 : n ≤ k.max) : k.wrap n = n := by
  cases k <;> simp only [IntKind.min, IntKind.max, IntKind.bits, IntKind.signed, if_true, Bool.false_eq_true, if_false, show ((2 : Int) ^ (8 - 1)) = 128 from rfl, show ((2 : Int) ^ (16 - 1)) = 32768 from rfl, show ((2 : Int) ^ (32 - 1)) = 2147483648 from rfl, show ((2 : Int) ^ (64 - 1)) = 9223372036854775808 from rfl, show ((2 : Int) ^ 8) = 256 from rfl, show ((2 : Int) ^ 16) = 65536 from rfl, show ((2 : Int) ^ 32) = 4294967296 from rfl, show ((2 : Int) ^ 64) = 18446744073709551616 from rfl] at h0 h1 <;>
    simp only [IntKind.wrap, IntKind.bits, IntKind.signed, Bool.true_and, Bool.false_and, decide_eq_true_eq, Bool.false_eq_true, if_false, show ((2 : Int) ^ (8 - 1)) = 128 from rfl, show ((2 : Int) ^ (16 - 1)) = 32768 from rfl, show ((2 : Int) ^ (32 - 1)) = 2147483648 from rfl, show ((2 : Int) ^ (64 - 1)) = 9223372036854775808 from rfl, show ((2 : Int) ^ 8) = 256 from rfl, show ((2 : Int) ^ 16) = 65536 from rfl, show ((2 : Int) ^ 32) = 4294967296 from rfl, show ((2 : Int) ^ 64) = 18446744073709551616 from rfl] <;> (try split) <;> omega
theorem RepP.int {w : World} {F : Nat → Prop} {k : PK} {kk : IntKind} {cs : List Value} {d : D} (hk : k.kind = some kk) (h : RepP w F k cs d) : ∃ n, cs = [.int kk n] ∧ kk.wrap n = n := by
  cases k <;> simp only [PK.kind, Option.some.injEq, reduceCtorEq] at hk <;> subst hk <;> simp only [RepP] at h <;> obtain ⟨n, h1, _, h2, h3⟩ := h <;>
    exact ⟨n, h1, wrap_small (by simp [IntKind.min, IntKind.bits, IntKind.signed]; omega) (by simp [IntKind.max, IntKind.bits, IntKind.signed]; omega)⟩
theorem Writes.box {T vs idx off t x ty pb po : Nat} {ρ : Nat → Value} {w : World} {L : Nat} {cs : List Value} {d : D} (ok : AOK P I S) (hctx : Ctx sver sf ver flex x ρ) (hf : fieldAtB P T idx off = true)
    (hrow : rowTy P ty = true) (hcs : cellsB P ty 16 = true) (hz : zeroN P ty 16 = true) (hfn : I.fn .uuid false ≠ 0) (hp : ρ vs = .pointer (some ⟨pb, po, none⟩)) (hvx : vs < x) (hL : x + 1 ≤ L) (ht : L ≤ t) (hN : t + 7 ≤ N)
    (hB : B ≤ w.heap.size) (hrep : RepP w (· < B) .uuid cs d) (hu1 : (Instr.loadAt ty (.pointer (some ⟨pb, po + off, none⟩))).run P w = .ok (asV .uuid cs) w) :
    Writes P I.tU8 B N L (.sq (.rg [.mv t (.t vs), .nc (t + 1) t, .fa (t + 2) T (t + 1) idx, .ld (t + 3) ty (t + 2), .al x ty, .st ty x (t + 3)])
      (.rg [.mv (t + 4) (.t 1), .ld (t + 5) ty x, .ca (t + 6) (I.fn .uuid false) [.t (t + 4), .t (t + 5)], .mv 1 (.t (t + 6))])) ρ w x (x + 1) (encP .uuid flex d) := by
  intro a bs Q hl ho hlim hQ
  have hsz := hl.size
  have h1x := hctx.hx
  have hrep0 := hrep
  obtain ⟨l, hl16, hcl, hd⟩ := hrep
  have hlen : cs.length = 16 := by rw [hcl, List.length_map, hl16]
  obtain ⟨z, iz, hzs⟩ : ∃ z : List Value, (∃ i, P.info? ty = some i ∧ i.zero = some (.agg z.toArray)) ∧ z.length = 16 := by
    unfold zeroN at hz
    cases hi : P.info? ty with
    | none => simp [hi] at hz
    | some i =>
      simp only [hi] at hz
      cases hzv : i.zero with
      | none => simp [hzv] at hz
      | some v =>
        cases v <;> simp only [hzv, Bool.false_eq_true, Nat.beq_eq] at hz
        rename_i cs
        exact ⟨cs.toList, ⟨i, rfl, by rw [hzv]⟩, by simpa using hz⟩
  have hone : cs.all (·.oneCell') = true := by rw [hcl]; simp [byteV, Value.oneCell']
  have hth : (w.alloc (.cells z.toArray ty)).there w.heap.size 0 cs.length := by rw [hlen, ← hzs]; exact there_box w z ty
  have hbw : Below w.heap.size w ((w.alloc (.cells z.toArray ty)).setCells w.heap.size 0 cs) := below_setCells (Nat.le_refl _) _ _ (below_box w _)
  have hsw : ((w.alloc (.cells z.toArray ty)).setCells w.heap.size 0 cs).heap.size = w.heap.size + 1 := by rw [size_setCells, size_box]
  have hrg : ((w.alloc (.cells z.toArray ty)).setCells w.heap.size 0 cs).rangeAt w.heap.size 0 cs := World.rangeAt_setCells_same _ _ _ _ hth
  refine MW.sq (MW.rg (ML.mv (ML.nc (p := ⟨pb, po, none⟩) ?_ (ML.fa (b := pb) (o := po) (off := off) ?_ hf (ML.ldBy (v := asV .uuid cs) ?_ (ML.al (z := .agg z.toArray) iz ?_))))))
  · simp (disch := (first | omega | (simp only [size_wr]; omega))) only [rd_same, rd_ne, MX.of]
    rw [hl.get vs (by omega), hp]
  · simp (disch := (first | omega | (simp only [size_wr]; omega))) only [rd_same, rd_ne, MX.of]
  · simp (disch := (first | omega | (simp only [size_wr]; omega))) only [rd_same, rd_ne, MX.of]
    exact hu1
  refine ML.st (b := w.heap.size) (o := 0) ?_ ?_ ?_ ?_ ?_
  · simp (disch := (first | omega | (simp only [size_wr]; omega))) only [rd_same, rd_ne, MX.of]
  · simp (disch := (first | omega | (simp only [size_wr]; omega))) only [rd_same, rd_ne, MX.of]
    simpa [asV, Value.cells, hlen] using hcs
  · simp (disch := (first | omega | (simp only [size_wr]; omega))) only [rd_same, rd_ne, MX.of]
    simpa [asV, Value.cells] using hth
  · simp (disch := (first | omega | (simp only [size_wr]; omega))) only [rd_same, rd_ne, MX.of]
    simpa [asV, Value.cells] using hone
  simp (disch := (first | omega | (simp only [size_wr]; omega))) only [rd_same, rd_ne, MX.of]
  refine ML.nil ?_
  show MW P _ Q _ _
  have ew : (w.alloc (.cells (Value.agg z.toArray).cells ty)).setCells w.heap.size 0 (asV .uuid cs).cells.toList = (w.alloc (.cells z.toArray ty)).setCells w.heap.size 0 cs := by simp [asV, Value.cells]
  rw [ew]
  have hl2 : Loc N L (upd ρ x (.pointer (some ⟨w.heap.size, 0, none⟩))) (wr (wr (wr (wr (wr a t (rd a vs)) (t + 1) (.pointer (some ⟨pb, po, none⟩))) (t + 2) (.pointer (some ⟨pb, po + off, none⟩))) (t + 3) (asV .uuid cs)) x (.pointer (some ⟨w.heap.size, 0, none⟩))) :=
    Loc.set ((((hl.tmp _ (by omega) (by omega)).tmp _ (by omega) (by omega)).tmp _ (by omega) (by omega)).tmp _ (by omega) (by omega)) _ (by omega)
  generalize (wr (wr (wr (wr (wr a t (rd a vs)) (t + 1) (.pointer (some ⟨pb, po, none⟩))) (t + 2) (.pointer (some ⟨pb, po + off, none⟩))) (t + 3) (asV .uuid cs)) x (.pointer (some ⟨w.heap.size, 0, none⟩))) = a2 at hl2 ⊢
  generalize (w.alloc (.cells z.toArray ty)).setCells w.heap.size 0 cs = w2 at hbw hsw hrg ⊢
  have hsz2 := hl2.size
  have ho2 : OwnB I.tU8 w2 B (ρ 1) bs := ho.keep hbw
  refine MW.rg (ML.mv (ML.ldRow (b := w.heap.size) (o := 0) (cs := cs) ?_ hrow (by rw [hlen]; exact hcs) hrg (ML.ca (R := fun sv' w' => OwnB I.tU8 w' B sv' (bs ++ encP .uuid flex d) ∧ Below B w2 w') (ok.prim .uuid false hfn).1 ?_ ?_)))
  · simp (disch := (first | omega | (simp only [size_wr]; omega))) only [rd_same, rd_ne, MX.of]
    rw [hl2.get x (by omega), upd_same]
  · simp (disch := (first | omega | (simp only [size_wr]; omega))) only [rd_same, rd_ne, MX.of, List.map_cons, List.map_nil]
    rw [hl2.get 1 (by omega), upd_ne _ _ (by omega)]
    refine ((ok.prim .uuid false hfn).2 w2 B (ρ 1) (.agg cs.toArray) bs (encP .uuid flex d) (by omega) ho2 ⟨cs, d, rfl, RepP.mono hrep0 (fun _ h => h) (fun b h => hbw.block b (by omega)), by rw [hd]; simp only [smallP]; omega, ?_⟩ hlim).mono ?_
    · cases flex <;> rw [hd] <;> rfl
    · rintro e w' ⟨sv', rfl, h2⟩
      exact ⟨sv', rfl, h2⟩
  · rintro sv' w' ⟨h2, h3⟩
    refine ML.mv (ML.nil ?_)
    simp (disch := (first | omega | (simp only [size_wr]; omega))) only [rd_same, rd_ne, MX.of]
    refine hQ _ w' (upd (upd ρ x (.pointer (some ⟨w.heap.size, 0, none⟩))) 1 sv') (Loc.set (((hl2.tmp _ (by omega) (by omega)).tmp _ (by omega) (by omega)).tmp _ (by omega) (by omega)) _ (by omega)) ?_ ?_ ((hbw.mono hB).trans h3)
    · intro s hs h0 h5; rw [upd_ne _ _ h0, upd_ne _ _ (by omega)]
    · rw [upd_same]; exact h2
theorem Writes.boxE {v xi x t ty ety ab i len cap : Nat} {ρ : Nat → Value} {w : World} {L : Nat} {cs : List Value} {d : D} (ok : AOK P I S) (hctx : Ctx sver sf ver flex xi ρ) (hs : sliceOf P ty ety = true)
    (hrow : rowTy P ety = true) (hcs : cellsB P ety 16 = true) (hz : zeroN P ety 16 = true) (hfn : I.fn .uuid false ≠ 0) (hρ : ρ v = .slice (some ⟨ab, 0, none⟩) len cap) (hi : ρ xi = .int .i64 (i : Nat)) (hil : i < len) (hvx : v < xi) (hxx : xi < x) (hL : x + 1 ≤ L) (ht : L ≤ t) (hN : t + 7 ≤ N)
    (hB : B ≤ w.heap.size) (hrep : RepP w (· < B) .uuid cs d) (hu1 : (Instr.loadAt ety (.pointer (some ⟨ab, i * 16, none⟩))).run P w = .ok (asV .uuid cs) w) :
    Writes P I.tU8 B N L (.sq (.rg [.mv t (.t v), .mv (t + 1) (.t xi), .ia (t + 2) ty t (t + 1), .ld (t + 3) ety (t + 2), .al x ety, .st ety x (t + 3)])
      (.rg [.mv (t + 4) (.t 1), .ld (t + 5) ety x, .ca (t + 6) (I.fn .uuid false) [.t (t + 4), .t (t + 5)], .mv 1 (.t (t + 6))])) ρ w x (x + 1) (encP .uuid flex d) := by
  intro a bs Q hl ho hlim hQ
  have hsz := hl.size
  have h1x := hctx.hx
  have hrep0 := hrep
  obtain ⟨l, hl16, hcl, hd⟩ := hrep
  have hlen : cs.length = 16 := by rw [hcl, List.length_map, hl16]
  obtain ⟨z, iz, hzs⟩ : ∃ z : List Value, (∃ i, P.info? ety = some i ∧ i.zero = some (.agg z.toArray)) ∧ z.length = 16 := by
    unfold zeroN at hz
    cases hi : P.info? ety with
    | none => simp [hi] at hz
    | some i =>
      simp only [hi] at hz
      cases hzv : i.zero with
      | none => simp [hzv] at hz
      | some v =>
        cases v <;> simp only [hzv, Bool.false_eq_true, Nat.beq_eq] at hz
        rename_i cs
        exact ⟨cs.toList, ⟨i, rfl, by rw [hzv]⟩, by simpa using hz⟩
  have hone : cs.all (·.oneCell') = true := by rw [hcl]; simp [byteV, Value.oneCell']
  have hth : (w.alloc (.cells z.toArray ety)).there w.heap.size 0 cs.length := by rw [hlen, ← hzs]; exact there_box w z ety
  have hbw : Below w.heap.size w ((w.alloc (.cells z.toArray ety)).setCells w.heap.size 0 cs) := below_setCells (Nat.le_refl _) _ _ (below_box w _)
  have hsw : ((w.alloc (.cells z.toArray ety)).setCells w.heap.size 0 cs).heap.size = w.heap.size + 1 := by rw [size_setCells, size_box]
  have hrg : ((w.alloc (.cells z.toArray ety)).setCells w.heap.size 0 cs).rangeAt w.heap.size 0 cs := World.rangeAt_setCells_same _ _ _ _ hth
  refine MW.sq (MW.rg (ML.mv (ML.mv (ML.ia (b := ab) (o := 0) (len := len) (cap := cap) (k := .i64) (j := i) (sz := 16) hs hcs ?_ ?_ hil (ML.ldBy (v := asV .uuid cs) ?_ (ML.al (z := .agg z.toArray) iz ?_))))))
  · simp (disch := (first | omega | (simp only [size_wr]; omega))) only [rd_same, rd_ne, MX.of]
    rw [hl.get v (by omega), hρ]
  · simp (disch := (first | omega | (simp only [size_wr]; omega))) only [rd_same, rd_ne, MX.of]
    rw [hl.get xi (by omega), hi]
  · simp (disch := (first | omega | (simp only [size_wr]; omega))) only [rd_same, rd_ne, MX.of]
    rw [Nat.zero_add]; exact hu1
  refine ML.st (b := w.heap.size) (o := 0) ?_ ?_ ?_ ?_ ?_
  · simp (disch := (first | omega | (simp only [size_wr]; omega))) only [rd_same, rd_ne, MX.of]
  · simp (disch := (first | omega | (simp only [size_wr]; omega))) only [rd_same, rd_ne, MX.of]
    simpa [asV, Value.cells, hlen] using hcs
  · simp (disch := (first | omega | (simp only [size_wr]; omega))) only [rd_same, rd_ne, MX.of]
    simpa [asV, Value.cells] using hth
  · simp (disch := (first | omega | (simp only [size_wr]; omega))) only [rd_same, rd_ne, MX.of]
    simpa [asV, Value.cells] using hone
  simp (disch := (first | omega | (simp only [size_wr]; omega))) only [rd_same, rd_ne, MX.of]
  refine ML.nil ?_
  show MW P _ Q _ _
  have ew : (w.alloc (.cells (Value.agg z.toArray).cells ety)).setCells w.heap.size 0 (asV .uuid cs).cells.toList = (w.alloc (.cells z.toArray ety)).setCells w.heap.size 0 cs := by simp [asV, Value.cells]
  rw [ew]
  have hl2 : Loc N L (upd ρ x (.pointer (some ⟨w.heap.size, 0, none⟩))) (wr (wr (wr (wr (wr a t (rd a v)) (t + 1) (rd a xi)) (t + 2) (.pointer (some ⟨ab, 0 + i * 16, none⟩))) (t + 3) (asV .uuid cs)) x (.pointer (some ⟨w.heap.size, 0, none⟩))) :=
    Loc.set ((((hl.tmp _ (by omega) (by omega)).tmp _ (by omega) (by omega)).tmp _ (by omega) (by omega)).tmp _ (by omega) (by omega)) _ (by omega)
  generalize (wr (wr (wr (wr (wr a t (rd a v)) (t + 1) (rd a xi)) (t + 2) (.pointer (some ⟨ab, 0 + i * 16, none⟩))) (t + 3) (asV .uuid cs)) x (.pointer (some ⟨w.heap.size, 0, none⟩))) = a2 at hl2 ⊢
  generalize (w.alloc (.cells z.toArray ety)).setCells w.heap.size 0 cs = w2 at hbw hsw hrg ⊢
  have hsz2 := hl2.size
  have ho2 : OwnB I.tU8 w2 B (ρ 1) bs := ho.keep hbw
  refine MW.rg (ML.mv (ML.ldRow (b := w.heap.size) (o := 0) (cs := cs) ?_ hrow (by rw [hlen]; exact hcs) hrg (ML.ca (R := fun sv' w' => OwnB I.tU8 w' B sv' (bs ++ encP .uuid flex d) ∧ Below B w2 w') (ok.prim .uuid false hfn).1 ?_ ?_)))
  · simp (disch := (first | omega | (simp only [size_wr]; omega))) only [rd_same, rd_ne, MX.of]
    rw [hl2.get x (by omega), upd_same]
  · simp (disch := (first | omega | (simp only [size_wr]; omega))) only [rd_same, rd_ne, MX.of, List.map_cons, List.map_nil]
    rw [hl2.get 1 (by omega), upd_ne _ _ (by omega)]
    refine ((ok.prim .uuid false hfn).2 w2 B (ρ 1) (.agg cs.toArray) bs (encP .uuid flex d) (by omega) ho2 ⟨cs, d, rfl, RepP.mono hrep0 (fun _ h => h) (fun b h => hbw.block b (by omega)), by rw [hd]; simp only [smallP]; omega, ?_⟩ hlim).mono ?_
    · cases flex <;> rw [hd] <;> rfl
    · rintro e w' ⟨sv', rfl, h2⟩
      exact ⟨sv', rfl, h2⟩
  · rintro sv' w' ⟨h2, h3⟩
    refine ML.mv (ML.nil ?_)
    simp (disch := (first | omega | (simp only [size_wr]; omega))) only [rd_same, rd_ne, MX.of]
    refine hQ _ w' (upd (upd ρ x (.pointer (some ⟨w.heap.size, 0, none⟩))) 1 sv') (Loc.set (((hl2.tmp _ (by omega) (by omega)).tmp _ (by omega) (by omega)).tmp _ (by omega) (by omega)) _ (by omega)) ?_ ?_ ((hbw.mono hB).trans h3)
    · intro s hs h0 h5; rw [upd_ne _ _ h0, upd_ne _ _ (by omega)]
    · rw [upd_same]; exact h2
theorem ML.neNilP {ms : List MOp} {Q : Exit → Act → World → Prop} {a : Act} {w : World} {d ty e : Nat} {x : Nat} {p : Option Addr} (hs : ptrOf P ty e = true) (hx : rd a x = .pointer p) (h : ML P ms Q (wr a d (.bool p.isSome)) w) : ML P (.bi d .neq ty (.t x) (.c .nptr) :: ms) Q a w := by
  refine ML.bi (fun ox oy _ _ => ?_) ?_ h
  · simp only [MX.of, hx, MVal.val]; unfold eqGuard; rfl
  · simp only [MX.of, hx, MVal.val]
    have h : ∀ d : Nat, (Op.equalIn (d + 1) ty (.pointer p) (.pointer none)).run P w = .ok p.isNone w := fun d => by
      cases p <;> simp [Op.equalIn, run_underlying (ptrOf_eq hs)]
    simp only [binOp]
    simp [Op.equal, Op.maxDepth, h 9999]
theorem ldStr_ok {N L : Nat} {w : World} {Q : Exit → Act → World → Prop} {ρ : Nat → Value} {a : Act} {b x y t base : Nat} {s : ByteArray} (hl : Loc N L ρ a) (hx : ρ x = .pointer (some ⟨b, 0, none⟩)) (w3 : plainTy P base = true) (hcl : w.cell? ⟨b, 0, none⟩ = some (.string s))
    (hxL : x < L) (hyL : y < L) (ht : L ≤ t) (hN : t + 2 < N) (hQ : ∀ a', Loc N L (upd ρ y (.string s)) a' → Q .normal a' w) : MW P (.rg [.mv t (.t x), .nc (t + 1) t, .ld (t + 2) base (t + 1), .mv y (.t (t + 2))]) Q a w := by
  have hsz := hl.size
  have hv : (MX.t x).of a = .pointer (some ⟨b, 0, none⟩) := (hl.get x hxL).trans hx
  refine MW.rg (ML.mv ?_)
  rw [hv]
  have h1 := hl.tmp (.pointer (some ⟨b, 0, none⟩)) ht (by omega)
  refine ML.nc (p := ⟨b, 0, none⟩) (rd_same (by omega)) ?_
  have h2 := h1.tmp (.pointer (some ⟨b, 0, none⟩)) (show L ≤ t + 1 by omega) (by omega)
  refine ML.ld (p := ⟨b, 0, none⟩) (rd_same (by simp only [size_wr]; omega)) w3 hcl ?_
  have h3 := h2.tmp (.string s) (show L ≤ t + 2 by omega) (by omega)
  have hs3 := h3.size
  generalize wr (wr a t (.pointer (some ⟨b, 0, none⟩))) (t + 1) (.pointer (some ⟨b, 0, none⟩)) = z at h3 hs3 ⊢
  have hs4 : t + 2 < z.tmps.size := by simp only [size_wr] at hs3; omega
  refine ML.mv ?_
  rw [show (MX.t (t + 2)).of (wr z (t + 2) (.string s)) = .string s from rd_same hs4]
  exact ML.nil (hQ _ (h3.set (d := y) (.string s) (by omega)))
theorem Writes.vstrIn {lim ty base t x : Nat} {ρ : Nat → Value} {w : World} {L : Nat} {cs : List Value} {d : D} (ok : AOK P I S) (hctx : Ctx sver sf ver flex (x + 1) ρ) (hxL : x + 3 ≤ L) (ht : L ≤ t) (hN : (vstrA I sver sf lim ty base x t).2 ≤ N) (hB : B ≤ w.heap.size)
    (w2 : ptrOf P ty base = true) (w3 : plainTy P base = true) (w4 : fnOk I sf .str = true) (w5 : fnOk I sf .nstr = true) (hx : ρ x = asV .nstr cs) (hr : RepP w (· < B) .nstr cs d) (hs : smallP d) :
    Writes P I.tU8 B N L (vstrA I sver sf lim ty base x t).1 ρ w (x + 1) (x + 3) (encP (vK lim ver) flex (vD lim ver d)) := by
  have g1 := @primA_le I sf .str (x + 2) (t + 8)
  have g2 := @primA_le I sf .nstr x (Kx.primA I sf .str (x + 2) (t + 8)).2
  have hN' : (Kx.primA I sf .nstr x (Kx.primA I sf .str (x + 2) (t + 8)).2).2 ≤ N := hN
  have hx1 := hctx.hx
  have hvx := hctx.vx
  intro a bs Q hl ho hlim hQ
  have hsz := hl.size
  unfold vstrA
  refine MW.sq (MW.rg (ML.mv (ML.biInt (k := .i16) (m := ver) (n := lim) (v := .bool (decide (ver < (lim : Int)))) ?_ rfl (run_cmp_lss _ _ _ _) (ML.nil ?_))))
  · simp (disch := (first | omega | (simp only [size_wr]; omega))) only [rd_same, rd_ne, MX.of]
    rw [hl.get sver (by omega), hctx.ver]
  have hl' := (hl.tmp ((MX.t sver).of a) ht (by omega)).tmp (.bool (decide (ver < (lim : Int)))) (show L ≤ t + 1 by omega) (by omega)
  refine MW.cd (b := decide (ver < (lim : Int))) (rd_same (by simp only [size_wr]; omega)) (fun e => ?_) (fun e => ?_)
  · have e' : ver < (lim : Int) := of_decide_eq_true e
    obtain ⟨s, hd, hcs⟩ : ∃ s : ByteArray, vD lim ver d = .s (some s.data.toList) ∧ ((cs = [.pointer none] ∧ s = ⟨#[]⟩) ∨ ∃ b, cs = [.pointer (some ⟨b, 0, none⟩)] ∧ w.cell? ⟨b, 0, none⟩ = some (.string s)) := by
      unfold vD
      rw [if_pos e']
      rcases hr with ⟨h1, rfl⟩ | ⟨b, s, h1, _, h3, rfl⟩
      · exact ⟨⟨#[]⟩, rfl, .inl ⟨h1, rfl⟩⟩
      · exact ⟨s, rfl, .inr ⟨b, h1, h3⟩⟩
    have hsm : smallP (.s (some s.data.toList)) := by
      have : smallP (vD lim ver d) := by
        unfold vD
        rw [if_pos e']
        split
        · exact hs
        · exact Nat.zero_le _
      rwa [hd] at this
    have hk : vK lim ver = .str := by unfold vK; rw [if_pos e']
    rw [hk, hd] at hlim hQ
    have fin : ∀ (a2 : Act) (ρ2 : Nat → Value), Loc N L ρ2 a2 → ρ2 (x + 1) = .string s → (∀ s', s' ≠ x + 1 → ρ2 s' = ρ s') →
        MW P (.sq (.rg [.mv (t + 7) (.t (x + 1)), .mv (x + 2) (.t (t + 7))]) (Kx.primA I sf .str (x + 2) (t + 8)).1) Q a2 w := by
      intro a2 ρ2 h2 h3 h4
      have hsz2 := h2.size
      refine MW.sq (MW.rg (ML.mv (ML.mv (ML.nil ?_))))
      have hv : (MX.t (x + 1)).of a2 = .string s := by show rd a2 (x + 1) = _; rw [h2.get _ (by omega), h3]
      have hv2 : (MX.t (t + 7)).of (wr a2 (t + 7) (.string s)) = .string s := by show rd _ _ = _; exact rd_same (by omega)
      rw [hv, hv2]
      have h5 := (h2.tmp (.string s) (show L ≤ t + 7 by omega) (by omega)).set (d := x + 2) (.string s) (by omega)
      have hk1 : Keep L (x + 1) (x + 3) ρ (upd ρ2 (x + 2) (.string s)) := fun s' h1 h2' h3' => by rw [upd_ne _ _ (by omega), h4 s' (by omega)]
      have hctx3 : Ctx sver sf ver flex (x + 3) (upd ρ2 (x + 2) (.string s)) := (hctx.keep (L := L) (fun s' h1 h2' h3' => by
        rcases h3' with h3' | h3'
        · rw [upd_ne _ _ (by omega), h4 s' (by omega)]
        · exact hk1 s' h1 h2' (.inr h3')) (by omega) (by omega))
      refine Writes.primA ok hctx3 (x' := x + 3) (L := L) (v := x + 2) (k := .str) (t := t + 8) (d := .s (some s.data.toList)) (w := w) (cs := [.string s]) hxL (by omega) (by omega) (by omega) hB w4 (upd_same _ _ _) ⟨s, rfl, rfl⟩ hsm _ bs Q h5
        (by rw [upd_ne _ _ (by omega), h4 1 (by omega)]; exact ho) hlim ?_
      intro a' w' ρ' q1 q2 q3 q4
      exact hQ a' w' ρ' q1 (fun s' h1 h2' h3' => by rw [q2 s' h1 h2' (by omega)]; exact hk1 s' h1 h2' h3') q3 q4
    show MW P (.sq _ (.sq (.sq _ _) (.sq _ _))) Q _ w
    refine MW.sq (MW.rg (ML.mv (ML.nil ?_)))
    have hl1 := hl'.set (d := x + 1) (MVal.val .estr) (by omega)
    have hs1 := hl1.size
    rcases hcs with ⟨hcs, hse⟩ | ⟨b, hcs, hcl⟩
    · refine MW.sq (MW.sq (MW.rg (ML.mv (ML.neNilP (p := none) w2 ?_ (ML.nil ?_)))))
      · rw [rd_same (by simp only [size_wr]; omega)]
        exact (hl1.get x (by omega)).trans (by rw [upd_ne _ _ (by omega), hx, hcs]; rfl)
      · have hl2 := (hl1.tmp ((MX.t x).of (wr (wr (wr a t ((MX.t sver).of a)) (t + 1) (.bool (decide (ver < (lim : Int))))) (x + 1) (MVal.val .estr))) (show L ≤ t + 2 by omega) (by omega)).tmp (.bool false) (show L ≤ t + 3 by omega) (by omega)
        refine MW.cd (b := false) (rd_same (by simp only [size_wr]; omega)) (fun e => by cases e) (fun _ => MW.sk ?_)
        exact fin _ _ hl2 (by rw [upd_same, hse]; rfl) (fun s' h => upd_ne _ _ h)
    · refine MW.sq (MW.sq (MW.rg (ML.mv (ML.neNilP (p := some ⟨b, 0, none⟩) w2 ?_ (ML.nil ?_)))))
      · rw [rd_same (by simp only [size_wr]; omega)]
        exact (hl1.get x (by omega)).trans (by rw [upd_ne _ _ (by omega), hx, hcs]; rfl)
      · have hl2 := (hl1.tmp ((MX.t x).of (wr (wr (wr a t ((MX.t sver).of a)) (t + 1) (.bool (decide (ver < (lim : Int))))) (x + 1) (MVal.val .estr))) (show L ≤ t + 2 by omega) (by omega)).tmp (.bool true) (show L ≤ t + 3 by omega) (by omega)
        have hs2 := hl2.size
        refine MW.cd (b := true) (rd_same (by simp only [size_wr]; omega)) (fun _ => ?_) (fun e => by cases e)
        exact ldStr_ok hl2 (by rw [upd_ne _ _ (by omega), hx, hcs]; rfl) w3 hcl (by omega) (by omega) (by omega) (by omega) fun a4 h4 => fin a4 _ h4 (upd_same _ _ _) (fun s' h => by rw [upd_ne _ _ h, upd_ne _ _ h])
  · have e' : ¬ ver < (lim : Int) := of_decide_eq_false e
    have hk : vK lim ver = .nstr := by unfold vK; rw [if_neg e']
    have hd : vD lim ver d = d := by unfold vD; rw [if_neg e']
    rw [hk, hd] at hlim hQ
    refine Writes.primA ok hctx (x' := x + 1) (L := L) (v := x) (k := .nstr) (t := (Kx.primA I sf .str (x + 2) (t + 8)).2) (w := w) (by omega) (by omega) (by omega) hN' hB w5 hx hr hs _ bs Q hl' ho hlim ?_
    intro a' w' ρ' q1 q2 q3 q4
    exact hQ a' w' ρ' q1 (fun s' h1 h2' h3' => q2 s' h1 h2' (by omega)) q3 q4
mutual
theorem genE_ok (ok : AOK P I S) {ty ety : Nat} : ∀ (el : Ty) {ρ : Nat → Value} {w : World} {L v x t x' b ab i len cap : Nat} {arr : List Value} {d : D},
    wfE P I sf ety el = true → sliceOf P ty ety = true → Ctx sver sf ver flex x ρ → 1 < v → v < x → x' = x + 2 → (genE I sver sf ty ety el v x t x' b).2.2.1 ≤ L → L ≤ t → (genE I sver sf ty ety el v x t x' b).2.1 ≤ N →
    ρ v = .slice (some ⟨ab, 0, none⟩) len cap → ρ x = .int .i64 (i : Nat) → i < len → ab < B → B ≤ w.heap.size → w.rangeAt ab 0 arr →
    Rep w (· < B) el ((arr.drop (i * el.cells)).take el.cells) d → Sm S el d →
    WritesL P I.tU8 B N L (genE I sver sf ty ety el v x t x' b).1 ρ w (x + 1) (genE I sver sf ty ety el v x t x' b).2.2.1 (enc ver flex el d)
  | .prim k _, ρ, w, L, v, x, t, x', b, ab, i, len, cap, arr, d, hwf, hsl, hctx, hv1, hvx, hx', hL, ht, hN, hρ, hi, hil, hab, hB, hh, hrep, hsm => by
    subst hx'
    simp only [wfE, Bool.and_eq_true] at hwf
    obtain ⟨⟨⟨w1, w2⟩, w3⟩, w4⟩ := hwf
    simp only [Ty.cells] at hrep
    unfold Rep at hrep
    unfold Sm at hsm
    have hpl := @primA_le I sf k (x + 1) (t + 4)
    have hrg := rangeAt_sub (hh) (i * k.cells) k.cells
    rw [Nat.zero_add] at hrg
    have hu1 := load_prim w1 hrep hrg
    cases hbx : k.box with
    | true =>
      simp only [genE, hbx, if_true] at hL hN ⊢
      cases k <;> simp only [PK.box, Bool.false_eq_true] at hbx
      simp only [primTy, Bool.and_eq_true] at w1
      simp only [PK.box, Bool.not_true, Bool.false_or] at w4
      simp only [fnOk, Bool.and_eq_true] at w3
      refine .inl ⟨_, [], x + 2, (List.append_nil _).symm, Nat.le_succ _, Nat.le_refl _, ?_, fun _ _ _ _ => ⟨rfl, rfl⟩⟩
      unfold enc
      exact Writes.boxE ok hctx hsl w1.1 w1.2 w4 (ne0 w3.1) hρ hi hil hvx (Nat.lt_succ_self x) (by omega) ht hN hB hrep hu1
    | false =>
    simp only [genE, hbx, Bool.false_eq_true, if_false] at hL hN ⊢
    refine .inr ⟨_, by omega, by omega, Sets.elemLoad (by omega) (by omega) (by omega) ht (by omega) hsl w2 hρ hi hil hu1, ?_⟩
    have hctx' : Ctx sver sf ver flex (x + 1 + 1) (upd ρ (x + 1) (asV k ((arr.drop (i * k.cells)).take k.cells))) := (hctx.le (Nat.le_succ x)).upd
    refine .inl ⟨_, [], x + 2, (List.append_nil _).symm, Nat.le_refl _, Nat.le_refl _, ?_, fun _ _ _ _ => ⟨rfl, rfl⟩⟩
    unfold enc
    exact Writes.primA ok hctx' (by omega) (by omega) (by omega) hN hB w3 (upd_same _ _ _) hrep hsm
  | .struct T n df tg fs, ρ, w, L, v, x, t, x', b, ab, i, len, cap, arr, d, hwf, hsl, hctx, hv1, hvx, hx', hL, ht, hN, hρ, hi, hil, hab, hB, hh, hrep, hsm => by
    subst hx'
    simp only [wfE, Bool.and_eq_true] at hwf
    obtain ⟨⟨w1, w2⟩, w3⟩ := hwf
    simp only [genE] at hL hN ⊢
    simp only [Ty.cells] at hrep
    unfold Rep at hrep
    obtain ⟨ds, tags, rfl, hcn, hrf, htg⟩ := hrep
    unfold Sm at hsm
    obtain ⟨hs1, hs2⟩ := hsm
    have hle := @genF_le I sver sf T (x + 1) fs (t + 3) (x + 2) b
    have hle2 := @tagsA_le I sf T (x + 1) tg (genF I sver sf T (x + 1) fs (t + 3) (x + 2) b).2.1 (genF I sver sf T (x + 1) fs (t + 3) (x + 2) b).2.2.1 (genF I sver sf T (x + 1) fs (t + 3) (x + 2) b).2.2.2
    have hrg := rangeAt_sub (hh) (i * n) n
    rw [Nat.zero_add] at hrg
    refine .inr ⟨_, by omega, by omega, Sets.elemAddr (by omega) (by omega) (by omega) ht (by omega) hsl w1 hρ hi hil, ?_⟩
    have hctx' : Ctx sver sf ver flex (x + 1 + 1) (upd ρ (x + 1) (.pointer (some ⟨ab, i * n, none⟩))) := (hctx.le (Nat.le_succ x)).upd
    unfold enc
    refine WritesL.append (y := (genF I sver sf T (x + 1) fs (t + 3) (x + 2) b).2.2.1)
      (genF_ok ok fs w2 hctx' (by omega) (by omega) (Nat.le_trans hle2.2 hL) (by omega) (by omega) (upd_same _ _ _) hab hB hrg hrf hs1) hle2.2 ?_
    intro ρ' w' hk hb
    exact tags_of ok (hctx'.keep hk (by omega) hle.2) hL (by omega) (by omega) (by omega) hN (by rw [hk _ (by omega) (by omega) (.inl (by omega)), upd_same]) hab (Nat.le_trans hB hb.size) w3
      (fun j u hu => by rw [cell_of_heap (hb.block ab hab)]; exact hrg j u hu)
      (htg.mono (fun _ h => h) (fun b h => hb.block b h)) hs2
  | .enum .., ρ, w, L, v, x, t, x', b, ab, i, len, cap, arr, d, hwf, hsl, hctx, hv1, hvx, hx', hL, ht, hN, hρ, hi, hil, hab, hB, hh, hrep, hsm => by simp [wfE] at hwf
  | .vstr .., ρ, w, L, v, x, t, x', b, ab, i, len, cap, arr, d, hwf, hsl, hctx, hv1, hvx, hx', hL, ht, hN, hρ, hi, hil, hab, hB, hh, hrep, hsm => by simp [wfE] at hwf
  | .arr .., ρ, w, L, v, x, t, x', b, ab, i, len, cap, arr, d, hwf, hsl, hctx, hv1, hvx, hx', hL, ht, hN, hρ, hi, hil, hab, hB, hh, hrep, hsm => by simp [wfE] at hwf
theorem genF_ok (ok : AOK P I S) {T vs : Nat} : ∀ (fs : Flds) {ρ : Nat → Value} {w : World} {L t x b pb po : Nat} {cs : List Value} {ds : List D},
    wfF P I sf T fs = true → Ctx sver sf ver flex x ρ → vs ≠ 1 → vs < x → (genF I sver sf T vs fs t x b).2.2.1 ≤ L → L ≤ t → (genF I sver sf T vs fs t x b).2.1 ≤ N →
    ρ vs = .pointer (some ⟨pb, po, none⟩) → pb < B → B ≤ w.heap.size → w.rangeAt pb po cs → RepF w (· < B) fs cs ds → SmF S fs ds →
    WritesL P I.tU8 B N L (genF I sver sf T vs fs t x b).1 ρ w x (genF I sver sf T vs fs t x b).2.2.1 (encF ver flex fs ds)
  | .nil, ρ, w, L, t, x, b, pb, po, cs, ds, hwf, hctx, hv1, hvx, hL, ht, hN, hp, hpb, hB, hc, hrep, hsm => by
    simp only [genF]
    unfold encF
    exact ⟨rfl, rfl⟩
  | .cons c idx off df ty rest, ρ, w, L, t, x, b, pb, po, cs, ds, hwf, hctx, hv1, hvx, hL, ht, hN, hp, hpb, hB, hc, hrep, hsm => by
    simp only [wfF, Bool.and_eq_true] at hwf
    obtain ⟨⟨w1, w2⟩, w3⟩ := hwf
    unfold RepF at hrep
    obtain ⟨h0, d, ds', rfl, hr1, hr2⟩ := hrep
    unfold SmF at hsm
    simp only [List.headD_cons, List.tail_cons] at hsm
    obtain ⟨s1, s2⟩ := hsm
    simp only [genF] at hL hN ⊢
    unfold encF
    simp only [List.headD_cons, List.tail_cons]
    have hfx : ∀ t', (genFld I sver sf T vs idx ty t' x b).2.2.1 = (genFld I sver sf T vs idx ty t x b).2.2.1 := fun t' => genFld_x ty
    have hcx : (condA I sver c t (fun t => genFld I sver sf T vs idx ty t x b)).2.2.1 = (genFld I sver sf T vs idx ty t x b).2.2.1 := condA_x hfx
    have hfl := @genFld_le I sver sf T vs idx ty t x b
    have hct : t ≤ (condA I sver c t (fun t => genFld I sver sf T vs idx ty t x b)).2.1 := condA_le (fun t => (@genFld_le I sver sf T vs idx ty t x b).1)
    have hrl := @genF_le I sver sf T vs rest (condA I sver c t (fun t => genFld I sver sf T vs idx ty t x b)).2.1 (condA I sver c t (fun t => genFld I sver sf T vs idx ty t x b)).2.2.1 (condA I sver c t (fun t => genFld I sver sf T vs idx ty t x b)).2.2.2
    refine .inl ⟨_, _, (condA I sver c t (fun t => genFld I sver sf T vs idx ty t x b)).2.2.1, rfl, by omega, hrl.2, ?_, ?_⟩
    · rw [hcx]
      refine Writes.condA (by have := hctx.vx; omega) hctx.ver ht hfx hfl.2 (fun t => (@genFld_le I sver sf T vs idx ty t x b).1) (by omega) ?_
      intro _ t' ht' hN'
      rw [← hfx t']
      exact genFld_ok ok ty w1 w2 hctx hv1 hvx (by rw [hfx t']; omega) ht' hN' hp hpb hB (rangeAt_sub hc off ty.cells) hr1 s1
    · intro ρ' w' hk hb
      exact genF_ok ok rest w3 (hctx.keep hk (by omega) (by omega)) hv1 (by omega) hL (by omega) hN
        (by rw [hk _ (by omega) (by omega) (.inl hvx)]; exact hp) hpb (Nat.le_trans hB hb.size)
        (fun j u hu => by rw [cell_of_heap (hb.block pb hpb)]; exact hc j u hu) (RepF.mono (fun _ h => h) (fun b h => hb.block b h) rest hr2) s2
theorem genFld_ok (ok : AOK P I S) {T vs idx off : Nat} : ∀ (ty : Ty) {ρ : Nat → Value} {w : World} {L t x b pb po : Nat} {cs : List Value} {d : D},
    fieldAtB P T idx off = true → wfFld P I sf ty = true → Ctx sver sf ver flex x ρ → vs ≠ 1 → vs < x → (genFld I sver sf T vs idx ty t x b).2.2.1 ≤ L → L ≤ t → (genFld I sver sf T vs idx ty t x b).2.1 ≤ N →
    ρ vs = .pointer (some ⟨pb, po, none⟩) → pb < B → B ≤ w.heap.size → w.rangeAt pb (po + off) cs → Rep w (· < B) ty cs d → Sm S ty d →
    Writes P I.tU8 B N L (genFld I sver sf T vs idx ty t x b).1 ρ w x (genFld I sver sf T vs idx ty t x b).2.2.1 (enc ver flex ty d)
  | .prim k ty, ρ, w, L, t, x, b, pb, po, cs, d, hf, hwf, hctx, hv1, hvx, hL, ht, hN, hp, hpb, hB, hc, hrep, hsm => by
    simp only [wfFld, Bool.and_eq_true] at hwf
    obtain ⟨⟨w1, w2⟩, w3⟩ := hwf
    simp only [genFld] at hL hN ⊢
    unfold Rep at hrep
    unfold Sm at hsm
    unfold enc
    have hpl := @primA_le I sf k x (t + 4)
    have hu1 := load_prim w1 hrep hc
    unfold primFldA at hN ⊢
    cases hbx : k.box with
    | true =>
      rw [hbx] at hN w3
      simp only [if_true] at hN ⊢
      cases k <;> simp only [PK.box, Bool.false_eq_true] at hbx
      simp only [primTy, Bool.and_eq_true] at w1
      simp only [Bool.not_true, Bool.false_or] at w3
      simp only [fnOk, Bool.and_eq_true] at w2
      exact Writes.box (hf := hf) (hctx := hctx) (ok := ok) w1.1 w1.2 w3 (ne0 w2.1) hp hvx hL ht hN hB hrep hu1
    | false =>
    rw [hbx] at hN
    simp only [Bool.false_eq_true, if_false, Kx.loadA] at hN ⊢
    refine Sets.then (Sets.loadA hp (by omega) (by omega) ht (by omega) hf hu1) (by have := hctx.hx; omega) ?_ (Nat.le_refl _)
    exact Writes.primA ok hctx.upd hL (by omega) (by omega) hN hB w2 (upd_same _ _ _) hrep hsm
  | .enum k ty base, ρ, w, L, t, x, b, pb, po, cs, d, hf, hwf, hctx, hv1, hvx, hL, ht, hN, hp, hpb, hB, hc, hrep, hsm => by
    simp only [wfFld, Bool.and_eq_true] at hwf
    obtain ⟨⟨w1, w2⟩, w3⟩ := hwf
    simp only [genFld, Kx.loadA] at hL hN ⊢
    unfold Rep at hrep
    unfold Sm at hsm
    unfold enc
    cases hk : k.kind with
    | none => simp [hk] at w1
    | some kk =>
      simp only [hk, Bool.and_eq_true] at w1
      obtain ⟨n, hcs, hwr⟩ := hrep.int hk
      have hnt : k.two = false := by cases k <;> simp [PK.kind] at hk <;> rfl
      have hu1 : (Instr.loadAt ty (.pointer (some ⟨pb, po + off, none⟩))).run P w = .ok (.int kk n) w := run_loadAt_one w2 (by have := hc 0 (.int kk n) (by rw [hcs]; rfl); simpa using this)
      simp only [Kx.callA] at hN
      have h1x := hctx.hx
      refine Sets.then (Sets.loadA hp (by omega) (by omega) ht (by omega) hf hu1) (by omega) ?_ (by omega)
      refine Sets.then (Sets.conv (by omega) (by omega) (by omega) (by omega) (upd_same _ _ _)) (by omega) ?_ (Nat.le_refl _)
      rw [encP_two hnt]
      exact Writes.callA (ok.prim k false (ne0 w3)) hB (by omega) (by omega) (by omega) (by omega) ⟨cs, d, by rw [upd_same, hcs]; cases k <;> simp [PK.kind] at hk <;> rfl, hrep, hsm, rfl⟩
  | .vstr lim ty base, ρ, w, L, t, x, b, pb, po, cs, d, hf, hwf, hctx, hv1, hvx, hL, ht, hN, hp, hpb, hB, hc, hrep, hsm => by
    simp only [wfFld, Bool.and_eq_true] at hwf
    obtain ⟨⟨⟨⟨w1, w2⟩, w3⟩, w4⟩, w5⟩ := hwf
    simp only [genFld, Kx.loadA] at hL hN ⊢
    unfold Rep at hrep
    unfold Sm at hsm
    unfold enc
    have hle := @vstrA_le I sver sf lim ty base x (t + 4)
    have hu1 : (Instr.loadAt ty (.pointer (some ⟨pb, po + off, none⟩))).run P w = .ok (asV .nstr cs) w := load_prim (k := .nstr) w1 hrep hc
    refine Sets.then (Sets.loadA hp (by omega) (by omega) ht (by omega) hf hu1) (by have := hctx.hx; omega) ?_ (by omega)
    exact Writes.vstrIn ok hctx.upd (by omega) (by omega) hN hB w2 w3 w4 w5 (upd_same _ _ _) hrep hsm
  | .arr nul ty ety el, ρ, w, L, t, x, b, pb, po, cs, d, hf, hwf, hctx, hv1, hvx, hL, ht, hN, hp, hpb, hB, hc, hrep, hsm => by
    simp only [wfFld, Bool.and_eq_true] at hwf
    obtain ⟨⟨⟨⟨w1, w2⟩, w3⟩, w4⟩, w5⟩ := hwf
    simp only [genFld] at hL hN ⊢
    unfold Rep at hrep
    obtain ⟨isnul, xs, rfl, hrep⟩ := hrep
    unfold Sm at hsm
    obtain ⟨s1, s2⟩ := hsm
    have hl2 : (Kx.loadA T vs idx ty x t).2 = t + 4 := rfl
    rw [hl2] at hL hN ⊢
    have h0 : t + 4 ≤ (Kx.alenA I sver sf nul ty x (t + 4)).2 := alenA_le
    have h1 := @genE_le I sver sf ty ety el x (x + 1) ((Kx.alenA I sver sf nul ty x (t + 4)).2 + 5) (x + 3) (b + 2)
    have hlx : (Kx.loopA I.tInt ty x (x + 1) (Kx.alenA I sver sf nul ty x (t + 4)).2 b (fun t' b' => genE I sver sf ty ety el x (x + 1) t' (x + 3) b')).2.2.1 = (genE I sver sf ty ety el x (x + 1) ((Kx.alenA I sver sf nul ty x (t + 4)).2 + 5) (x + 3) (b + 2)).2.2.1 := rfl
    have hlt : (Kx.loopA I.tInt ty x (x + 1) (Kx.alenA I sver sf nul ty x (t + 4)).2 b (fun t' b' => genE I sver sf ty ety el x (x + 1) t' (x + 3) b')).2.1 = (genE I sver sf ty ety el x (x + 1) ((Kx.alenA I sver sf nul ty x (t + 4)).2 + 5) (x + 3) (b + 2)).2.1 + 1 := rfl
    have hxx := hctx.hx
    obtain ⟨p, cap, hcs, hpn, hel⟩ : ∃ p cap, cs = [.slice p xs.length cap] ∧ (isnul = (nul.isSome && p.isNone)) ∧
        (xs = [] ∨ ∃ (ab : Nat) (arr : List Value), p = some ⟨ab, 0, none⟩ ∧ ab < B ∧ w.rangeAt ab 0 arr ∧ ∀ i d, xs[i]? = some d → Rep w (· < B) el ((arr.drop (i * el.cells)).take el.cells) d) := by
      rcases hrep with ⟨k1, k2, k3⟩ | ⟨k1, ab, arr, cap, k2, k3, k4, k5, k6⟩
      · exact ⟨none, 0, by rw [k1, k2]; rfl, by simp [k3], .inl k2⟩
      · exact ⟨some ⟨ab, 0, none⟩, cap, k2, by simp [k1], .inr ⟨ab, arr, rfl, k3, k4, k6⟩⟩
    have hu1 : (Instr.loadAt ty (.pointer (some ⟨pb, po + off, none⟩))).run P w = .ok (.slice p xs.length cap) w := run_loadAt_one w1 (by have := hc 0 (.slice p xs.length cap) (by rw [hcs]; rfl); simpa using this)
    refine Sets.then (Sets.loadA hp (by omega) (by omega) ht (by omega) hf hu1) (by omega) ?_ (by omega)
    refine WritesL.rows (cs := [(Kx.alenA I sver sf nul ty x (t + 4)).1, (Kx.loopA I.tInt ty x (x + 1) (Kx.alenA I sver sf nul ty x (t + 4)).2 b (fun t' b' => genE I sver sf ty ety el x (x + 1) t' (x + 3) b')).1]) ?_
    have hctx1 : Ctx sver sf ver flex (x + 1) (upd ρ x (.slice p xs.length cap)) := hctx.upd
    have hlen : Writes P I.tU8 B N L (Kx.alenA I sver sf nul ty x (t + 4)).1 (upd ρ x (.slice p xs.length cap)) w (x + 1) (x + 1) (if nul.isSome && p.isNone && vNul nul ver then cntNull flex 4 else cnt flex 4 xs.length) :=
      Writes.alenA ok hctx1 (by omega) (by omega) (by omega) (by omega) (by omega) hB w5 w2 (upd_same _ _ _) s1
    have hout : enc ver flex (.arr nul ty ety el) (.l isnul xs) = (if nul.isSome && p.isNone && vNul nul ver then cntNull flex 4 else cnt flex 4 xs.length) ++ xs.flatMap (enc ver flex el) := by
      unfold enc
      rw [← hpn]
      cases hnn : isnul
      · simp
      · have : xs = [] := by
          rcases hel with h | ⟨ab, arr, h, _⟩
          · exact h
          · rw [hnn, h] at hpn; simp at hpn
        simp [this]
    rw [hout]
    refine .inl ⟨_, _, x + 1, rfl, Nat.le_refl _, by omega, hlen, ?_⟩
    intro ρ' w' hk hb
    have hv' : ρ' x = .slice p xs.length cap := by rw [hk _ (by omega) (by omega) (.inl (by omega)), upd_same]
    have hctx2 : Ctx sver sf ver flex (x + 1) ρ' := hctx1.keep hk (by omega) (Nat.le_refl _)
    refine .inl ⟨_, [], _, (List.append_nil _).symm, by omega, Nat.le_refl _, ?_, fun _ _ _ _ => ⟨rfl, rfl⟩⟩
    refine Writes.loopA (v := x) (x := x + 1) (t := (Kx.alenA I sver sf nul ty x (t + 4)).2) xs (enc ver flex el) (by omega) (by omega) (by omega) (by omega) (by omega) (by omega) (by omega) hN h1.1 w2 hv' rfl (by omega) ?_
    intro i d hd ρ2 w2' hk2 hb2 hi2
    rcases hel with h | ⟨ab, arr, hpe, hab, hh, hall⟩
    · rw [h] at hd; simp at hd
    · have hb' := hb.trans hb2
      have hblk : w2'.heap[ab]? = w.heap[ab]? := hb'.block ab hab
      refine genE_ok ok el (len := xs.length) (cap := cap) (ab := ab) (i := i) (arr := arr) w4 w2 ?_ (by omega) (by omega) rfl (by omega) (by omega) (by omega) ?_ hi2 ?_ hab (Nat.le_trans hB hb'.size) (fun j u hu => by rw [cell_of_heap hblk]; exact hh j u hu) ?_ (s2 d (List.mem_of_getElem? hd))
      · exact hctx2.keep0 hk2 (by omega)
      · rw [hk2 x (by omega) (by omega) (by omega), hv', hpe]
      · exact (List.getElem?_eq_some_iff.1 hd).1
      · exact Rep.mono (fun _ h => h) (fun b h => hb'.block b h) el (hall i d hd)
  | .struct T' n df tg fs, ρ, w, L, t, x, b, pb, po, cs, d, hf, hwf, hctx, hv1, hvx, hL, ht, hN, hp, hpb, hB, hc, hrep, hsm => by
    simp only [wfFld, Bool.and_eq_true] at hwf
    obtain ⟨w1, w2⟩ := hwf
    simp only [genFld] at hL hN ⊢
    unfold Rep at hrep
    obtain ⟨ds, tags, rfl, hcn, hrf, htg⟩ := hrep
    unfold Sm at hsm
    obtain ⟨s1, s2⟩ := hsm
    unfold enc
    have hle := @genF_le I sver sf T' x fs (t + 3) (x + 1) b
    have hle2 := @tagsA_le I sf T' x tg (genF I sver sf T' x fs (t + 3) (x + 1) b).2.1 (genF I sver sf T' x fs (t + 3) (x + 1) b).2.2.1 (genF I sver sf T' x fs (t + 3) (x + 1) b).2.2.2
    have hxx := hctx.hx
    refine WritesL.rows (.inr ⟨_, by omega, by omega, Sets.fldAddr hp (by omega) (by omega) ht (by omega) hf, ?_⟩)
    have hctx' : Ctx sver sf ver flex (x + 1) (upd ρ x (.pointer (some ⟨pb, po + off, none⟩))) := hctx.upd
    refine WritesL.append (y := (genF I sver sf T' x fs (t + 3) (x + 1) b).2.2.1)
      (genF_ok ok fs w1 hctx' (by omega) (by omega) (Nat.le_trans hle2.2 hL) (by omega) (by omega) (upd_same _ _ _) hpb hB hc hrf s1) hle2.2 ?_
    intro ρ' w' hk hb
    exact tags_of ok (hctx'.keep hk (by omega) hle.2) hL (by omega) (by omega) (by omega) hN (by rw [hk _ (by omega) (by omega) (.inl (by omega)), upd_same]) hpb (Nat.le_trans hB hb.size) w2
      (fun j u hu => by rw [cell_of_heap (hb.block pb hpb)]; exact hc j u hu)
      (htg.mono (fun _ h => h) (fun b h => hb.block b h)) s2
end
end
end Go.Kx
