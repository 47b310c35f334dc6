/- The reference's known (no tags), unknown (none said), Write's choice; octets of one's own as octets that lie somewhere.
   The reference's value.
   The reference's field.
   The reference's part. -/
import Derived.Test.YtffglmphlpofbaaKxD
import Derived.Laws.MakeOwn
import Derived.Laws.CopyOwn
namespace Go.Kx
open Go.RowKit
set_option linter.unusedSimpArgs false
set_option linter.unusedVariables false

mutual
def noTag : Fd → Prop
  | .mk _ _ _ _ tag _ _ sub => tag < 0 ∧ noTags sub
def noTags : Fds → Prop
  | .nil => True
  | .cons f r => noTag f ∧ noTags r
end

/-- The tags so far: rows of one's own. -/
def OutR (S : SN) (T : List Value → Nat × List UInt8 → Prop) (w0 w : World) (sv : Value) (out : List (Nat × List UInt8)) : Prop := (sv = .slice none 0 0 ∧ out = []) ∨ ∃ g cap cur, sv = .slice (some ⟨g, 0, none⟩) out.length cap ∧ w0.heap.size ≤ g ∧ w.heap[g]? = some (.cells cur S.tg (0, 0)) ∧ 0 < out.length ∧ out.length ≤ cap ∧ cap ≤ maxLen ∧ cur.size = cap * 2 ∧
  ∀ i t, out[i]? = some t → ∃ cs, w.rangeAt g (i * 2) cs ∧ T cs t

section
variable {P : Program} {S : SN} {w w' : World} {N : Nat} {Q : Exit → (Nat → Value) → World → Prop} {ρ : Nat → Value} {ms : List MOp}

/-- What is one's own lies somewhere. -/
theorem OwnB.bytes {U B : Nat} {sv : Value} {bs : List UInt8} (h : OwnB U w B sv bs) : ∃ ad c, sv = .slice ad bs.length c ∧ okAd ad ∧ bs.length ≤ c ∧ BytesAt w (fun _ => True) ad bs := by
  obtain ⟨h1, h2⟩ := h
  rcases h2 with ⟨rfl, h0⟩ | ⟨g, cap, cur, rfl, hb, hh, hn, hc, hs, ht⟩
  · have : bs = [] := List.eq_nil_of_length_eq_zero h0
    subst this
    exact ⟨none, 0, rfl, .inl rfl, by simp, fun j b hj => by simp at hj⟩
  · refine ⟨some ⟨g, 0, none⟩, cap, rfl, .inr ⟨g, 0, rfl⟩, hn, fun j b hj => ⟨g, 0, rfl, trivial, ?_⟩⟩
    rw [cell_of_row w g (0 + j) cur U (0, 0) hh, Nat.zero_add]
    have hjl : j < bs.length := (List.getElem?_eq_some_iff.1 hj).1
    have e : (cur.toList.take (bs.length * 1))[j]? = (bs.map byteV)[j]? := by rw [ht]
    rw [List.getElem?_take_of_lt (by omega)] at e
    rw [List.getElem?_map, hj] at e
    simpa using e

/-- A row of a slice of fields: into a variable of its own. -/
theorem RL.rowF {d1 d2 d x i : Nat} {ad : Option Addr} {n c : Nat} {f : Fd} {k : Nat} (ok : SOK P S) (hx : ρ x = .slice ad n c) (hi : ρ i = .int .i64 (k : Nat)) (hk : k < n)
    (hrow : ∃ g o cs, ad = some ⟨g, o, none⟩ ∧ w.rangeAt g (o + k * 8) cs ∧ RepFd w f cs) (hd1 : d1 ≠ d2) (hd2 : d2 ≠ d)
    (h : ∀ p cs w', Below w.heap.size w w' → w'.heap.size = w.heap.size + 1 → RepFd w' f cs → w'.rangeAt w.heap.size 0 cs → RL P N ms Q (upd (upd (upd ρ d1 p) d2 (.agg cs.toArray)) d (.pointer (some ⟨w.heap.size, 0, none⟩))) w')
    (hxN : x < N := by decide) (hiN : i < N := by decide) (h1N : d1 < N := by decide) (h2N : d2 < N := by decide) (hdN : d < N := by decide) : RL P N (.ia d1 S.fds x i :: .ld d2 S.fd d1 :: .al d S.fd :: .st S.fd d d2 :: ms) Q ρ w := by
  obtain ⟨g, o, cs, rfl, hr, hf⟩ := hrow
  obtain ⟨o1, l1⟩ := hf.one
  refine RL.step (MR.ia (k := .i64) ok.fds ok.fdN hx hi hk hxN hiN) (RL.step (MR.ldRow (upd_same _ _ _) ok.fdR (by rw [l1]; exact ok.fdN) hr h1N) ?_ h2N) h1N
  refine RL.alst ok.zFd (upd_same _ _ _) hd2 rfl l1 ok.fdN o1 (fun w' hb hs hrg _ => h _ cs w' hb hs (RepFd.kp hb.kp f hf) hrg) hdN h2N

def KnownC (P : Program) (f : Nat) : Prop := entersB P f = true ∧ ∀ (w : World) (ad : Option Addr) (c : Nat) (fs : Fds), RowsF w ad 0 fs → (∀ f ∈ fs.toList, f.tag < 1000000) → fs.toList.length < 9223372036854775807 →
  Calls P f #[.slice ad fs.toList.length c] w (fun e w' => e = .returned (.int .u32 (sKnown fs : Nat)) ∧ Below w.heap.size w w')

theorem known_ok {f : Nat} (ok : SOK P S) (hf : FnIs P f (cKnown S) 23 2) : KnownC P f := by
  refine ⟨hf.ent, fun w ad c fs hrows htag hlen => ?_⟩
  refine hf.runs (args := [.slice ad fs.toList.length c]) (by simp) (by omega) ?_
  refine RW.sq (RW.rg ?_)
  repeat first | refine RL.step MR.mv ?_ | refine RL.step (MR.biE rfl) ?_ | refine RL.step (MR.b2 rfl) ?_
  refine RL.nil (RW.sq (RW.rg ?_))
  repeat first | refine RL.step MR.mv ?_ | refine RL.step (MR.biE rfl) ?_ | refine RL.step (MR.b2 rfl) ?_
  refine RL.nil (RW.sq (RW.sq (RW.rg ?_)))
  repeat first | refine RL.step MR.mv ?_ | refine RL.step (MR.biE rfl) ?_ | refine RL.step (MR.b2 rfl) ?_
  refine RL.step (MR.ln ok.fds rfl) ?_
  repeat first | refine RL.step MR.mv ?_ | refine RL.step (MR.biE rfl) ?_ | refine RL.step (MR.b2 rfl) ?_
  refine RL.nil (RW.bl ?_)
  refine RW.lp (fun ρ w' => ∃ (i acc : Nat) (rest : Fds), i + rest.toList.length = fs.toList.length ∧ RowsF w ad i rest ∧ (∀ f ∈ rest.toList, f.tag < 1000000) ∧ acc ≤ 1000000 ∧ rest.toList.foldl (fun n f => if 0 ≤ f.tag then max n (f.tag.toNat + 1) else n) acc = sKnown fs ∧ ρ 3 = .int .u32 (acc : Nat) ∧ ρ 6 = .slice ad fs.toList.length c ∧ ρ 7 = .int .i64 (fs.toList.length : Nat) ∧ ρ 8 = .int .i64 (i : Nat) ∧ Below w.heap.size w w')
    (fun ρ _ => fs.toList.length - (intOf (ρ 8)).toNat) ⟨0, 0, fs, by omega, hrows, htag, by omega, rfl, rfl, rfl, rfl, rfl, Below.refl _ _⟩ ?_ (fun ρ ρ' w h => by rw [h 8 (by omega)])
  rintro ρ w1 ⟨i, acc, rest, hi, hr, ht, hacc, hfold, h3, h6, h7, h8, hbl⟩
  refine RW.knows [(3, .int .u32 (acc : Nat)), (6, .slice ad fs.toList.length c), (7, .int .i64 (fs.toList.length : Nat)), (8, .int .i64 (i : Nat))] (by simp [h3, h6, h7, h8]) (RW.sq (RW.rg ?_))
  cases rest with
  | nil =>
    simp only [Fds.toList, List.length_nil, Nat.add_zero] at hi
    simp only [Fds.toList, List.foldl_nil] at hfold
    refine RL.step (MR.biB (p := (i : Int) < (fs.toList.length : Int)) rfl (decide_eq_false (by omega))) (RL.nil (RW.sq (RW.cd (b := false) rfl (fun e => by cases e) (fun _ => RW.ex ?_))))
    refine RW.sq (RW.rg ?_)
    repeat first | refine RL.step MR.mv ?_ | refine RL.step (MR.biE rfl) ?_ | refine RL.step (MR.b2 rfl) ?_
    exact RL.nil (RW.rt ⟨by rw [← hfold]; rfl, hbl⟩)
  | cons fd rest =>
    simp only [Fds.toList, List.length_cons] at hi
    simp only [Fds.toList, List.foldl_cons] at hfold
    unfold RowsF at hr
    obtain ⟨hrow, hr'⟩ := hr
    refine RL.step (MR.biB (p := (i : Int) < (fs.toList.length : Int)) rfl (decide_eq_true (by omega))) (RL.nil (RW.sq (RW.cd (b := true) rfl (fun _ => RW.sk ?_) (fun e => by cases e))))
    obtain ⟨g, o, cs, h1, h2, h4⟩ := hrow
    refine RW.sq (RW.bl (RW.sq (RW.rg (RL.rowF (f := fd) (k := i) ok rfl rfl (by omega) ⟨g, o, cs, h1, rangeAt_kp h2 hbl.kp, RepFd.kp hbl.kp _ h4⟩ (by omega) (by omega) ?_))))
    intro p cs2 w2 hb2 hs2 hf2 hrg2
    obtain ⟨sl, rfl, _⟩ := hf2.cells
    have c4 := hrg2 4 (.int .i64 fd.tag) rfl
    have htf : fd.tag < 1000000 := ht fd (by simp [Fds.toList])
    have next : ∀ (Qn : Exit → (Nat → Value) → World → Prop) (ρ' : Nat → Value) (acc' : Nat), acc' ≤ 1000000 → rest.toList.foldl (fun n f => if 0 ≤ f.tag then max n (f.tag.toNat + 1) else n) acc' = sKnown fs → ρ' 3 = .int .u32 (acc' : Nat) → ρ' 6 = .slice ad fs.toList.length c → ρ' 7 = .int .i64 (fs.toList.length : Nat) → ρ' 8 = .int .i64 (i : Nat) →
        RW P 23 (.rg [.bi 21 .add S.T.int (.t 8) (.c (.int .i64 (1))), .mv 8 (.t 21)]) (thenR (fun ρ' w' => (∃ (i acc : Nat) (rest : Fds), i + rest.toList.length = fs.toList.length ∧ RowsF w ad i rest ∧ (∀ f ∈ rest.toList, f.tag < 1000000) ∧ acc ≤ 1000000 ∧ rest.toList.foldl (fun n f => if 0 ≤ f.tag then max n (f.tag.toNat + 1) else n) acc = sKnown fs ∧ ρ' 3 = .int .u32 (acc : Nat) ∧ ρ' 6 = .slice ad fs.toList.length c ∧ ρ' 7 = .int .i64 (fs.toList.length : Nat) ∧ ρ' 8 = .int .i64 (i : Nat) ∧ Below w.heap.size w w') ∧ fs.toList.length - (intOf (ρ' 8)).toNat < fs.toList.length - (intOf (ρ 8)).toNat) Qn) ρ' w2 := by
      intro Qn ρ' acc' ha hfo q3 q6 q7 q8
      refine RW.knows [(3, .int .u32 (acc' : Nat)), (6, .slice ad fs.toList.length c), (7, .int .i64 (fs.toList.length : Nat)), (8, .int .i64 (i : Nat))] (by simp [q3, q6, q7, q8]) (RW.rg ?_)
      repeat first | refine RL.step MR.mv ?_ | refine RL.step (MR.biE rfl) ?_ | refine RL.step (MR.b2 rfl) ?_
      refine RL.nil ⟨⟨i + 1, acc', rest, by omega, hr', fun f hf => ht f (by simp [Fds.toList, hf]), ha, hfo, rfl, rfl, rfl, ?_, hbl.trans (hb2.mono hbl.size)⟩, ?_⟩
      · show Value.int .i64 (IntKind.i64.wrap ((i : Int) + 1)) = _
        rw [wrap_i64 (by omega) (by omega)]; rfl
      · show fs.toList.length - (IntKind.i64.wrap ((i : Int) + 1)).toNat < fs.toList.length - (intOf (ρ 8)).toNat
        rw [h8, wrap_i64 (by omega) (by omega)]; simp only [intOf]; omega
    refine RL.nil (RW.sq (RW.rg (RL.step (MR.fa rfl (ok.fdF 4 (by omega))) (RL.step (MR.ld rfl ok.pInt c4) ?_))))
    by_cases h0 : 0 ≤ fd.tag
    · rw [if_pos h0] at hfold
      refine RL.step (MR.biB (p := (0 : Int) ≤ fd.tag) rfl (decide_eq_true h0)) (RL.nil (RW.cd (b := true) rfl (fun _ => RW.rg ?_) (fun e => by cases e)))
      refine RL.step (MR.mv (v := .int .u32 (acc : Nat)) rfl) (RL.step (MR.fa rfl (ok.fdF 4 (by omega))) (RL.step (MR.ld rfl ok.pInt c4) (RL.step (MR.cvI rfl ok.tk.int (ok.tk.u32 ok.hu32)) ?_)))
      rw [wrap_u32 h0 (by omega)]
      refine RL.step (MR.biE (v := .int .u32 (fd.tag + 1)) (by show some (Value.int .u32 (IntKind.u32.wrap (fd.tag + 1))) = _; rw [wrap_u32 (by omega) (by omega)])) (RL.step (MR.mxi (k := .u32) (k' := .u32) (m := (acc : Nat)) (n := fd.tag + 1) rfl rfl) ?_)
      have em : (if fd.tag + 1 > ((acc : Nat) : Int) then fd.tag + 1 else ((acc : Nat) : Int)) = ((max acc (fd.tag.toNat + 1) : Nat) : Int) := by split <;> omega
      rw [em]
      refine RL.step MR.mv (RL.nil (next _ _ (max acc (fd.tag.toNat + 1)) (by omega) hfold rfl rfl rfl rfl))
    · rw [if_neg h0] at hfold
      refine RL.step (MR.biB (p := (0 : Int) ≤ fd.tag) rfl (decide_eq_false h0)) (RL.nil (RW.cd (b := false) rfl (fun e => by cases e) (fun _ => RW.sk ?_)))
      exact next _ _ acc hacc hfold rfl rfl rfl rfl

/-- The unknown tags that SU allows; the argument is as it was in an older world. -/
def UnkC (P : Program) (S : SN) (f : Nat) (SU : List (Nat × List UInt8) → Prop) : Prop := entersB P f = true ∧ ∀ (w0 w : World) (ad : Option Addr) (c : Nat) (fs : Fds) (v : Value) (u : List (Nat × List UInt8)), RowsF w ad 0 fs → (∀ f ∈ fs.toList, f.tag < 1000000) → fs.toList.length < 9223372036854775807 → Below w0.heap.size w0 w → TagsS w0 v u → SU u →
  Calls P f #[.slice ad fs.toList.length c, v] w (fun e w' => ∃ sv, e = .returned sv ∧ OutR S (TagRow w0) w w' sv (sUnk (sKnown fs) u) ∧ Below w.heap.size w w')

theorem unk_none {f : Nat} (ok : SOK P S) (hf : FnIs P f (cUnk S) 85 4) (hk : KnownC P S.fKnown) : UnkC P S f (· = []) := by
  refine ⟨hf.ent, ?_⟩
  rintro w0 w ad c fs v u hrows htag hlen hB0 ⟨ad', c', rfl, had, hc, hrow⟩ rfl
  refine hf.runs (args := [.slice ad fs.toList.length c, .slice ad' 0 c']) (by simp) (by omega) ?_
  refine RW.sq (RW.rg (RL.step MR.mv (RL.nil (RW.sq (RW.rg (RL.step MR.mv (RL.ca (R := fun v w' => v = .int .u32 (sKnown fs : Nat) ∧ Below w.heap.size w w') hk.1 ?_ ?_)))))))
  · refine Calls.mono (hk.2 w ad c fs hrows htag hlen) ?_
    rintro e w' ⟨rfl, h⟩
    exact ⟨_, rfl, rfl, h⟩
  rintro v w1 ⟨rfl, hb⟩
  repeat first | refine RL.step MR.mv ?_ | refine RL.step (MR.biE rfl) ?_ | refine RL.step (MR.b2 rfl) ?_
  refine RL.nil (RW.sq (RW.rg (RL.step MR.mv (RL.nil (RW.sq (RW.sq (RW.rg ?_)))))))
  repeat first | refine RL.step MR.mv ?_ | refine RL.step (MR.biE rfl) ?_ | refine RL.step (MR.b2 rfl) ?_
  refine RL.step (MR.ln ok.tgs (p := ad') (n := 0) (c := c') rfl) (RL.step (MR.mn (m := 0) (n := 32767) rfl rfl) (RL.step (MR.sl (v := .slice ad' 0 c') (run_sliceTo (h := 0) ok.tgs (cellsB_some ok.tgN) had (by omega))) (RL.step (MR.ln ok.tgs (p := ad') (n := 0) (c := c') rfl) ?_)))
  repeat first | refine RL.step MR.mv ?_ | refine RL.step (MR.biE rfl) ?_ | refine RL.step (MR.b2 rfl) ?_
  refine RL.nil (RW.bl (RW.lp (fun ρ w' => ρ 6 = .slice none 0 0 ∧ ρ 18 = .int .i64 0 ∧ ρ 19 = .int .i64 0 ∧ w' = w1) (fun _ _ => 0) ⟨rfl, rfl, rfl, rfl⟩ ?_))
  rintro ρ w2 ⟨h6, h18, h19, rfl⟩
  refine RW.knows [(6, .slice none 0 0), (18, .int .i64 0), (19, .int .i64 0)] (by simp [h6, h18, h19]) (RW.sq (RW.rg ?_))
  refine RL.step (MR.biB (p := (0 : Int) < 0) rfl (decide_eq_false (by omega))) (RL.nil (RW.sq (RW.cd (b := false) rfl (fun e => by cases e) (fun _ => RW.ex ?_))))
  refine RW.sq (RW.rg ?_)
  repeat first | refine RL.step MR.mv ?_ | refine RL.step (MR.biE rfl) ?_ | refine RL.step (MR.b2 rfl) ?_
  exact RL.nil (RW.rt ⟨_, rfl, .inl ⟨rfl, by simp [sUnk]⟩, hb⟩)
end
end Go.Kx
namespace Go.Kx
open Go.RowKit
set_option linter.unusedSimpArgs false
set_option linter.unusedVariables false

mutual
def goodT (SU : List (Nat × List UInt8) → Prop) : Tr → Prop
  | .mk _ _ _ l u => SU u ∧ goodTs SU l
def goodTs (SU : List (Nat × List UInt8) → Prop) : Trs → Prop
  | .nil => True
  | .cons t r => goodT SU t ∧ goodTs SU r
end

theorem goodTs.mem {SU : List (Nat × List UInt8) → Prop} : ∀ {l : Trs} {t : Tr}, goodTs SU l → t ∈ l.toList → goodT SU t
  | .nil, t, _, h => by simp [Trs.toList] at h
  | .cons t r, t', h, hm => by
    unfold goodTs at h
    simp only [Trs.toList, List.mem_cons] at hm
    rcases hm with rfl | hm
    · exact h.1
    · exact goodTs.mem h.2 hm

theorem goodT.u {SU : List (Nat × List UInt8) → Prop} {t : Tr} (h : goodT SU t) : SU t.u := by cases t; unfold goodT at h; exact h.1
theorem goodT.mem {SU : List (Nat × List UInt8) → Prop} {t e : Tr} (h : goodT SU t) (he : e ∈ t.l) : goodT SU e := by cases t; unfold goodT at h; exact h.2.mem he
theorem goodT.zero {SU : List (Nat × List UInt8) → Prop} (h : SU []) : goodT SU .zero := by unfold Tr.zero goodT goodTs; exact ⟨h, trivial⟩
theorem goodT.at {SU : List (Nat × List UInt8) → Prop} {t : Tr} (h : goodT SU t) (h0 : SU []) (i : Nat) : goodT SU (t.l.getD i .zero) := by
  rw [List.getD_eq_getElem?_getD]
  cases hi : t.l[i]? with
  | none => exact goodT.zero h0
  | some e => exact h.mem (List.mem_of_getElem? hi)

/-- What the reference's functions rest on. -/
structure SPC (P : Program) (S : SN) (SU : List (Nat × List UInt8) → Prop) : Prop where
  ok : SOK P S
  su0 : SU []
  fixed : FixedC P S.T.u8 S.fFixed
  uvar : UvC P S.T.u8 S.fUvar
  width : WidC P S.fWidth
  counted : CntC P S.T.u8 S.fCounted
  whole : CutC P S.fWhole
  things : CutC P S.fThings
  has : HasC P S.fHas
  null : NulC P S.fNull
  at_ : AtC P S.fAt
  known : KnownC P S.fKnown
  unk : UnkC P S S.fUnk SU
  value : FnIs P S.fValue (cValue S) 70 12
  field : FnIs P S.fField (cField S) 76 8
  part : FnIs P S.fPart (cPart S) 132 8

def PartC (P : Program) (S : SN) (SU : List (Nat × List UInt8) → Prop) (fs : Fds) : Prop := ∀ (w : World) (ad : Option Addr) (c : Nat) (t : Tr) (cs : List Value) (ver : Int) (flex : Bool),
  RowsF w ad 0 fs → RepTr w t cs → goodT SU t → (kPart ver flex fs t).length ≤ lim → RetB P S.T.u8 S.fPart [.slice ad fs.toList.length c, .int .i64 ver, .bool flex, .agg cs.toArray] w (kPart ver flex fs t)

def ValueC (P : Program) (S : SN) (SU : List (Nat × List UInt8) → Prop) (sub : Fds) : Prop := ∀ (w : World) (ad : Option Addr) (c : Nat) (t : Tr) (cs : List Value) (kind ver : Int) (null flex : Bool),
  RowsF w ad 0 sub → RepTr w t cs → goodT SU t → (sVal kind (kPart ver flex sub) null flex t).length ≤ lim →
  RetB P S.T.u8 S.fValue [.int .i64 kind, .slice ad sub.toList.length c, .bool null, .int .i64 ver, .bool flex, .agg cs.toArray] w (sVal kind (kPart ver flex sub) null flex t)

def FieldC (P : Program) (S : SN) (SU : List (Nat × List UInt8) → Prop) (fd : Fd) : Prop := ∀ (w : World) (cf ct : List Value) (t : Tr) (ver : Int) (flex : Bool),
  RepFd w fd cf → RepTr w t ct → goodT SU t → (kField ver flex fd t).length ≤ lim → RetB P S.T.u8 S.fField [.agg cf.toArray, .int .i64 ver, .bool flex, .agg ct.toArray] w (kField ver flex fd t)

section
variable {P : Program} {S : SN} {w w' : World} {N : Nat} {Q : Exit → (Nat → Value) → World → Prop} {ρ : Nat → Value} {ms : List MOp} {SU : List (Nat × List UInt8) → Prop} {Q' : (Nat → Value) → World → Prop}

theorem OwnB.rebase {U B B' : Nat} {sv : Value} {bs : List UInt8} (h : OwnB U w B sv bs) (hB : B' ≤ B) : OwnB U w B' sv bs := by
  obtain ⟨h1, h2⟩ := h
  refine ⟨h1, ?_⟩
  rcases h2 with h2 | ⟨g, cap, cur, h2, h3, h4⟩
  · exact .inl h2
  · exact .inr ⟨g, cap, cur, h2, Nat.le_trans hB h3, h4⟩

/-- 'append(x, y...)' of two that are one's own. -/
theorem run_apOO {T U B B' : Nat} {sv sy : Value} {bs l : List UInt8} (hT : sliceOf P T U = true) (hU : u8Ty P U = true) (ho : OwnB U w B sv bs) (hy : OwnB U w B' sy l) (hB : B ≤ w.heap.size) (hlim : bs.length + l.length ≤ lim) :
    ∃ sv' w', (∀ ty, (Builtin.append_ #[T, T] ty #[sv, sy]).run P w = .ok sv' w') ∧ OwnB U w' B sv' (bs ++ l) ∧ Below B w w' ∧ w.grownBy w' sv.ownBlock := by
  obtain ⟨ad, c, rfl, _, _, hb⟩ := hy.bytes
  exact run_apOwn hT hU ho rfl hb hB hlim

theorem RL.apOO {d T U x y B B' : Nat} {sv sy : Value} {bs l : List UInt8} (hT : sliceOf P T U = true) (hU : u8Ty P U = true) (hx : ρ x = sv) (hy : ρ y = sy) (ho : OwnB U w B sv bs) (hoy : OwnB U w B' sy l) (hB : B ≤ w.heap.size) (hlim : bs.length + l.length ≤ lim)
    (h : ∀ sv' w', OwnB U w' B sv' (bs ++ l) → Below B w w' → RL P N ms Q (upd ρ d sv') w') (hxN : x < N := by decide) (hyN : y < N := by decide) (hd : d < N := by decide) : RL P N (.ap d T T x y :: ms) Q ρ w := by
  obtain ⟨sv', w', h1, h2, h3, _⟩ := run_apOO hT hU ho hoy hB hlim
  subst hx hy
  exact RL.step (MR.apBy (h1 0) h1 hxN hyN) (h sv' w' h2 h3) hd

/-- 'make([]byte, 16)' and 'copy'. -/
theorem run_uuid {T U c : Nat} {ad : Option Addr} {l : List UInt8} (hT : sliceOf P T U = true) (hU : u8Ty P U = true) (hb : BytesAt w (fun _ => True) ad l) :
    ∃ w1, (Instr.makeSlice T (.int .i64 16) (.int .i64 16)).run P w = .ok (.slice (some ⟨w.heap.size, 0, none⟩) 16 16) w1 ∧ Below w.heap.size w w1 ∧
      ∃ v w2, (∀ ty, (Builtin.copy_ #[T, T] ty #[.slice (some ⟨w.heap.size, 0, none⟩) 16 16, .slice ad l.length c]).run P w1 = .ok v w2) ∧
        OwnB U w2 w.heap.size (.slice (some ⟨w.heap.size, 0, none⟩) 16 16) ((l ++ List.replicate 16 0).take 16) ∧ Below w.heap.size w w2 := by
  obtain ⟨i, hi, hs, hby, hz⟩ := u8Ty_info hU
  have hm := run_makeSlice (P := P) (w := w) T U i (.int .u8 0) (sliceOf_eq hT) hi hz .i64 .i64 16 16 (by omega) (by omega) (by rw [hs]; decide) (by rw [hby]; decide) (by omega)
  have hmade : madeCells (Value.int .u8 0).cells ((16 : Int).toNat * i.size) = (List.replicate 16 (Value.int .u8 0)).toArray := by
    rw [hs]
    apply Array.toList_inj.1
    refine List.eq_replicate_iff.2 ⟨by simp [madeCells], fun b hb => ?_⟩
    simp only [madeCells, Value.cells, Array.toList_map, List.mem_map] at hb
    obtain ⟨x, _, rfl⟩ := hb
    simp [Nat.mod_one]
  rw [hmade] at hm
  refine ⟨_, hm, below_box w _, ?_⟩
  have hh : (w.alloc (.cells (List.replicate 16 (Value.int .u8 0)).toArray U)).heap[w.heap.size]? = some (.cells (List.replicate 16 (Value.int .u8 0)).toArray U (0, 0)) := by
    show (w.heap.push _)[w.heap.size]? = _
    simp
  have hz0 : ∀ n, List.replicate n (Value.int .u8 0) = (List.replicate n (0 : UInt8)).map byteV := fun n => by rw [List.map_replicate]; rfl
  have hlen : ((l ++ List.replicate 16 (0 : UInt8)).take 16).length = 16 := by simp
  have hsz : (P.info? U).map (·.size) = some 1 := by rw [hi]; simp [hs]
  by_cases hl : l.length = 0
  · have : l = [] := List.eq_nil_of_length_eq_zero hl
    subst this
    refine ⟨_, _, fun ty => run_copy_none (P := P) _ T T ty U (some ⟨w.heap.size, 0, none⟩) ad 16 16 0 c (sliceOf_eq hT) hsz (by simp), ?_, below_box w _⟩
    refine ⟨by simp, .inr ⟨w.heap.size, 16, _, rfl, Nat.le_refl _, hh, by simp, by decide, by simp, ?_⟩⟩
    simp [hz0]
  · obtain ⟨b0, hb0⟩ : ∃ b, l[0]? = some b := ⟨l[0], List.getElem?_eq_getElem (by omega)⟩
    obtain ⟨g, o, rfl, _, _⟩ := hb 0 b0 hb0
    have hcopy := fun ty => run_copy_row (P := P) (w.alloc (.cells (List.replicate 16 (Value.int .u8 0)).toArray U)) T T ty U w.heap.size 0 16 16 ⟨g, o, none⟩ l.length c (List.replicate 16 (Value.int .u8 0)).toArray U ((l.take 16).map byteV) (sliceOf_eq hT) hsz hh
      (by simp [Nat.min_comm]) (fun j v hv => by
        rw [List.getElem?_map, Option.map_eq_some_iff] at hv
        obtain ⟨b, hb1, rfl⟩ := hv
        rw [List.getElem?_take] at hb1
        split at hb1
        · obtain ⟨g', o', he, _, hc⟩ := (hb.kp (kp_alloc w _)) j b hb1
          cases he
          rw [Addr.add_mid]; exact hc
        · simp at hb1) (by simp; omega) (by intro v hv; simp only [List.mem_map] at hv; obtain ⟨b, _, rfl⟩ := hv; rfl)
    refine ⟨_, _, hcopy, ?_, below_setRow (below_box w _) (Nat.le_refl _) _⟩
    refine ⟨by simp, .inr ⟨w.heap.size, 16, _, by rw [hlen], Nat.le_refl _, setRow_heap _ _ _ _ _ _ hh, by simp, by decide, ?_, ?_⟩⟩
    · simp; omega
    · rw [hlen]
      simp only [List.take_zero, List.nil_append, Nat.zero_add, List.length_map, List.length_take]
      rw [hz0, ← List.map_drop, ← List.map_append, Nat.mul_one, ← List.map_take]
      congr 1
      rw [List.drop_replicate, List.take_append, List.take_append]
      rw [List.take_take, List.take_replicate, List.take_replicate, List.length_take, Nat.min_self]
      congr 2; omega

theorem and1 {n : Int} (h0 : -9223372036854775808 ≤ n) (h1 : n ≤ 9223372036854775807) : IntKind.i64.wrap ((BitVec.ofInt IntKind.i64.bits n &&& BitVec.ofInt IntKind.i64.bits 1).toNat : Int) = n % 2 := by
  show IntKind.i64.wrap ((BitVec.ofInt 64 n &&& BitVec.ofInt 64 1).toNat : Int) = _
  rw [BitVec.toNat_and, show (BitVec.ofInt 64 1).toNat = 2 ^ 1 - 1 from rfl, Nat.and_two_pow_sub_one_eq_mod, BitVec.toNat_ofInt, wrap_i64 (by omega) (by omega)]
  omega

theorem lit_own {U : Nat} (bs : List UInt8) (h : bs.length ≤ 16) : OwnB U (w.alloc (.cells (bs.map byteV).toArray U)) w.heap.size (.slice (some ⟨w.heap.size, 0, none⟩) bs.length bs.length) bs := by
  have := World.ownsRow_lit (base := w.heap.size) (e := U) (size := 1) w (bs.map byteV).toArray bs.length (Nat.le_refl _) (by simp only [maxLen]; omega) (by simp)
  simpa [OwnB] using this

theorem rcd {t : Nat} {x y : MCode} {k k' : Int} (ht : ρ t = .bool (k == k')) (h1 : k = k' → RW P N x Q ρ w) (h2 : k ≠ k' → RW P N y Q ρ w) (hN : t < N := by decide) : RW P N (.cd t x y) Q ρ w :=
  RW.cd ht (fun e => h1 (beq_iff_eq.1 e)) (fun e => h2 (beq_eq_false_iff_ne.1 e)) hN

/-- Texts and octets: the count, then as far as they may go. -/
theorem cutBytes {ad : Option Addr} {l : List UInt8} (hb : BytesAt w (fun _ => True) ad l) : BytesAt w (fun _ => True) ad (l.take most) := by
  intro j b hj
  rw [List.getElem?_take] at hj
  split at hj
  · exact hb j b hj
  · simp at hj

theorem sCnt_len (flex null : Bool) (n k : Nat) (hk : k = 2 ∨ k = 4) : (sCnt flex null n k).length ≤ 16 := by
  unfold sCnt cntNull cnt
  have h1 := uvb_len 9 0
  have h2 := uvb_len 9 (n + 1)
  rcases hk with rfl | rfl <;> cases null <;> cases flex <;> simp [uv, fix, be] <;> omega

theorem MR.cpBy {d T U x y : Nat} {v : Value} (hr : ∀ ty, (Builtin.copy_ #[T, U] ty #[ρ x, ρ y]).run P w = .ok v w') (hx : x < N := by decide) (hy : y < N := by decide) : MR P N (.cp d T U x y) ρ w d v w' := by
  refine MR.builtin (b := .copy) (T := [T, U]) (xs := [.t x, .t y]) (fun o hf => ?_) (by simp [MX.lt, Nat.blt_eq, hx, hy]) (fun t cs => ?_)
  · generalize hop : o.op = op at hf
    cases op <;> try (simp only [fitOp, Bool.false_eq_true] at hf; done)
    rename_i c
    obtain ⟨callee, args, ats⟩ := c
    cases callee <;> try (simp only [fitOp, Bool.false_eq_true] at hf; done)
    case builtin b =>
      cases b <;> try (simp only [fitOp, Bool.false_eq_true] at hf; done)
      simp only [fitOp, Bool.and_eq_true] at hf
      obtain ⟨h1, h2⟩ := hf
      generalize hA : args.toList = A at h2
      generalize hB : ats.toList = B at h2
      match A, B, h2 with
      | [x', y'], [t', u'], h2 =>
        simp only [Bool.and_eq_true, Nat.beq_eq] at h2
        obtain ⟨⟨⟨h3, h4⟩, h5⟩, h6⟩ := h2
        exact ⟨dstIs_eq h1, args, ats, rfl, .inl (by rw [hB, h5, h6]), by rw [hA, tmpIs_eq h3, tmpIs_eq h4]; simp [allX, MX.is]⟩
  · simp only [Go.builtin, xof, List.map_cons, List.map_nil]
    rw [Sem.run_bind, hr t]; rfl

theorem take_most_len (l : List UInt8) : min l.length most = (l.take most).length := by rw [List.length_take, Nat.min_comm]

set_option maxHeartbeats 1000000 in
theorem value_of (sp : SPC P S SU) {sub : Fds} (hp : PartC P S SU sub) : ValueC P S SU sub := by
  intro w ad c t cs kind ver null flex hrows hrep hgood hlim
  have ok := sp.ok
  have hrep0 := hrep
  obtain ⟨sS, sL, sU, rfl, hn, ⟨adS, cS, rfl, hadS, hlS, hbS⟩, ⟨adL, cL, rfl, _⟩, adU, cU, rfl, _⟩ := hrep.cells
  refine sp.value.runs (args := [.int .i64 kind, .slice ad sub.toList.length c, .bool null, .int .i64 ver, .bool flex, .agg _]) (by simp) (by omega) ?_
  refine RW.sq (RW.rg (RL.bxA rfl (RL.step MR.mv (RL.nil ?_))))
  have c0 := cell_box w [Value.int .i64 t.n, .slice adS t.s.length cS, .bool t.null, .slice adL t.l.length cL, .slice adU t.u.length cU] S.tr (j := 0) rfl
  have c1 := cell_box w [Value.int .i64 t.n, .slice adS t.s.length cS, .bool t.null, .slice adL t.l.length cL, .slice adU t.u.length cU] S.tr (j := 1) rfl
  have crow : (w.alloc (.cells [Value.int .i64 t.n, .slice adS t.s.length cS, .bool t.null, .slice adL t.l.length cL, .slice adU t.u.length cU].toArray S.tr)).rangeAt w.heap.size 0 [Value.int .i64 t.n, .slice adS t.s.length cS, .bool t.null, .slice adL t.l.length cL, .slice adU t.u.length cU] := fun j v hj => cell_box w _ S.tr hj
  have hb := below_box w (.cells [Value.int .i64 t.n, .slice adS t.s.length cS, .bool t.null, .slice adL t.l.length cL, .slice adU t.u.length cU].toArray S.tr)
  revert c0 c1 crow hb
  generalize w.alloc (.cells [Value.int .i64 t.n, .slice adS t.s.length cS, .bool t.null, .slice adL t.l.length cL, .slice adU t.u.length cU].toArray S.tr) = w1
  intro c0 c1 crow hb
  have hB : w.heap.size ≤ w1.heap.size := hb.size
  refine RW.sq (RW.sq (RW.rg ?_))
  repeat first | refine RL.step MR.mv ?_ | refine RL.step (MR.biE rfl) ?_ | refine RL.step (MR.b2 rfl) ?_
  refine RL.nil (RW.bl (RW.sq (RW.rg ?_)))
  repeat first | refine RL.step MR.mv ?_ | refine RL.step (MR.biE rfl) ?_ | refine RL.step (MR.b2 rfl) ?_
  refine RL.nil (rcd (k := kind) (k' := 0) rfl (fun e => ?_) (fun k0 => ?_))
  · subst e
    refine RW.sq (RW.rg (RL.step (MR.fa rfl (ok.trF 0 (by omega))) (RL.step (MR.ld rfl ok.pI64 c0) ?_)))
    repeat first | refine RL.step MR.mv ?_ | refine RL.step (MR.biE rfl) ?_ | refine RL.step (MR.b2 rfl) ?_
    refine RL.step (MR.cvI rfl (ok.tk.i64 ok.hi64) ok.tk.u8i) ?_
    refine RL.bsl8 (bs := [UInt8.ofNat (t.n % 2).toNat]) ok.tk.u8s ok.tk.u8 ?_ (by simp) ?_
    · show [Value.int .u8 (IntKind.u8.wrap (IntKind.i64.wrap ((BitVec.ofInt IntKind.i64.bits t.n &&& BitVec.ofInt IntKind.i64.bits 1).toNat : Int)))] = _
      rw [and1 hn.1 hn.2, byteV_mod]
      congr 3; omega
    repeat first | refine RL.step MR.mv ?_ | refine RL.step (MR.biE rfl) ?_ | refine RL.step (MR.b2 rfl) ?_
    refine RL.nil (RW.rt ⟨_, rfl, ?_, hb.trans ((below_box w1 _).mono hB)⟩)
    exact (lit_own (w := w1) [UInt8.ofNat (t.n % 2).toNat] (by simp)).rebase hB
  refine RW.sq (RW.rg ?_)
  repeat first | refine RL.step MR.mv ?_ | refine RL.step (MR.biE rfl) ?_ | refine RL.step (MR.b2 rfl) ?_
  refine RL.nil (rcd (k := kind) (k' := 7) rfl (fun e => ?_) (fun k7 => ?_))
  · subst e
    obtain ⟨w2, m1, m2, v, w3, m3, m4, m5⟩ := run_uuid (c := cS) ok.tk.u8s ok.tk.u8 (hbS.kp hb.kp)
    refine RW.sq (RW.rg (RL.step (MR.mkBy m1) ?_))
    repeat first | refine RL.step MR.mv ?_ | refine RL.step (MR.biE rfl) ?_ | refine RL.step (MR.b2 rfl) ?_
    refine RL.nil (RW.sq (RW.rg ?_))
    repeat first | refine RL.step MR.mv ?_ | refine RL.step (MR.biE rfl) ?_ | refine RL.step (MR.b2 rfl) ?_
    refine RL.step (MR.fa rfl (ok.trF 1 (by omega))) (RL.step (MR.ld rfl ok.pU8s (m2.kp _ _ c1)) (RL.step (MR.cpBy m3) (RL.nil (RW.sq (RW.rg ?_)))))
    repeat first | refine RL.step MR.mv ?_ | refine RL.step (MR.biE rfl) ?_ | refine RL.step (MR.b2 rfl) ?_
    exact RL.nil (RW.rt ⟨_, rfl, m4.rebase hB, hb.trans (m5.mono hB)⟩)
  refine RW.sq (RW.rg ?_)
  repeat first | refine RL.step MR.mv ?_ | refine RL.step (MR.biE rfl) ?_ | refine RL.step (MR.b2 rfl) ?_
  refine RL.nil (rcd (k := kind) (k' := 8) rfl (fun e => ?_) (fun k8 => ?_))
  · subst e
    have hval : sVal 8 (kPart ver flex sub) null flex t = sCnt flex null (if null then [] else t.s.take most).length 2 ++ (if null then [] else t.s.take most) := rfl
    rw [hval] at hlim ⊢
    refine RW.sq (RW.rg (RL.step (MR.fa rfl (ok.trF 1 (by omega))) (RL.step (MR.ld rfl ok.pU8s c1) (RL.ca (R := fun v w' => v = .slice adS (min t.s.length most) cS ∧ w' = w1) sp.whole.1 ?_ ?_))))
    · refine Calls.mono (sp.whole.2 w1 adS t.s.length cS hadS hlS) ?_
      rintro e w' ⟨rfl, rfl⟩
      exact ⟨_, rfl, rfl, rfl⟩
    rintro v w' ⟨rfl, rfl⟩
    repeat first | refine RL.step MR.mv ?_ | refine RL.step (MR.biE rfl) ?_ | refine RL.step (MR.b2 rfl) ?_
    refine RL.nil (RW.sq (RW.sq (RW.rg ?_)))
    repeat first | refine RL.step MR.mv ?_ | refine RL.step (MR.biE rfl) ?_ | refine RL.step (MR.b2 rfl) ?_
    have fin : ∀ (Qn : (Nat → Value) → World → Prop) (ad' : Option Addr) (l : List UInt8) (c' : Nat) (ρ : Nat → Value), BytesAt w' (fun _ => True) ad' l → l.length ≤ most → ρ 14 = .slice ad' l.length c' → ρ 2 = .bool null → ρ 4 = .bool flex → (sCnt flex null l.length 2 ++ l).length ≤ lim →
        RW P 70 (.sq (.rg [.mv 38 (.t 4), .mv 39 (.t 2), .mv 40 (.t 14), .ln 41 S.T.u8s 40, .ca 42 S.fCounted [.t 38, .t 39, .t 41, .c (.int .i64 (2))], .mv 43 (.t 14), .ap 44 S.T.u8s S.T.u8s 42 43, .mv 12 (.t 44)]) .rt)
          (inBlockR 0 (thenR Qn (retQ 12 fun e w'' => ∃ sv, e = .returned sv ∧ OwnB S.T.u8 w'' w.heap.size sv (sCnt flex null l.length 2 ++ l) ∧ Below w.heap.size w w''))) ρ w' := by
      intro Qn ad' l c' ρ hbl hl hs h2 h4 hlm
      refine RW.knows [(14, .slice ad' l.length c'), (2, .bool null), (4, .bool flex)] (by simp [hs, h2, h4]) (RW.sq (RW.rg ?_))
      repeat first | refine RL.step MR.mv ?_ | refine RL.step (MR.biE rfl) ?_ | refine RL.step (MR.b2 rfl) ?_
      refine RL.step (MR.ln ok.tk.u8s (p := ad') (n := l.length) (c := c') rfl) ?_
      refine RL.caB sp.counted.1 (sp.counted.2 w' flex null l.length 2 (by simp only [most] at hl; omega) (by omega)) rfl fun sv w2 o b => ?_
      repeat first | refine RL.step MR.mv ?_ | refine RL.step (MR.biE rfl) ?_ | refine RL.step (MR.b2 rfl) ?_
      refine RL.apOwn (sv := sv) (bs := sCnt flex null l.length 2) (l := l) (ad := ad') (m := l.length) (c := c') ok.tk.u8s ok.tk.u8 rfl o rfl rfl (hbl.kp b.kp) b.size (by simpa using hlm) fun sv2 w3 o2 b2 => ?_
      repeat first | refine RL.step MR.mv ?_ | refine RL.step (MR.biE rfl) ?_ | refine RL.step (MR.b2 rfl) ?_
      exact RL.nil (RW.rt ⟨sv2, rfl, o2.rebase hB, hb.trans ((b.trans b2).mono hB)⟩)
    cases null
    · refine RL.nil (RW.cd (b := false) rfl (fun e => by cases e) (fun _ => RW.sk ?_))
      exact fin _ adS (t.s.take most) cS _ (cutBytes (hbS.kp hb.kp)) (List.length_take_le _ _) (by show Value.slice adS (min t.s.length most) cS = _; rw [take_most_len]) rfl rfl hlim
    · refine RL.nil (RW.cd (b := true) rfl (fun _ => RW.rg (RL.step MR.mv (RL.nil ?_))) (fun e => by cases e))
      exact fin _ none [] 0 _ (fun j b hj => by simp at hj) (by simp) rfl rfl rfl hlim
  refine RW.sq (RW.rg ?_)
  repeat first | refine RL.step MR.mv ?_ | refine RL.step (MR.biE rfl) ?_ | refine RL.step (MR.b2 rfl) ?_
  refine RL.nil (rcd (k := kind) (k' := 9) rfl (fun e => ?_) (fun k9 => ?_))
  · subst e
    have hval : sVal 9 (kPart ver flex sub) null flex t = sCnt flex null (if null then [] else t.s.take most).length 4 ++ (if null then [] else t.s.take most) := rfl
    rw [hval] at hlim ⊢
    refine RW.sq (RW.rg (RL.step (MR.fa rfl (ok.trF 1 (by omega))) (RL.step (MR.ld rfl ok.pU8s c1) (RL.ca (R := fun v w' => v = .slice adS (min t.s.length most) cS ∧ w' = w1) sp.whole.1 ?_ ?_))))
    · refine Calls.mono (sp.whole.2 w1 adS t.s.length cS hadS hlS) ?_
      rintro e w' ⟨rfl, rfl⟩
      exact ⟨_, rfl, rfl, rfl⟩
    rintro v w' ⟨rfl, rfl⟩
    repeat first | refine RL.step MR.mv ?_ | refine RL.step (MR.biE rfl) ?_ | refine RL.step (MR.b2 rfl) ?_
    refine RL.nil (RW.sq (RW.sq (RW.rg ?_)))
    repeat first | refine RL.step MR.mv ?_ | refine RL.step (MR.biE rfl) ?_ | refine RL.step (MR.b2 rfl) ?_
    have fin : ∀ (Qn : (Nat → Value) → World → Prop) (ad' : Option Addr) (l : List UInt8) (c' : Nat) (ρ : Nat → Value), BytesAt w' (fun _ => True) ad' l → l.length ≤ most → ρ 15 = .slice ad' l.length c' → ρ 2 = .bool null → ρ 4 = .bool flex → (sCnt flex null l.length 4 ++ l).length ≤ lim →
        RW P 70 (.sq (.rg [.mv 51 (.t 4), .mv 52 (.t 2), .mv 53 (.t 15), .ln 54 S.T.u8s 53, .ca 55 S.fCounted [.t 51, .t 52, .t 54, .c (.int .i64 (4))], .mv 56 (.t 15), .ap 57 S.T.u8s S.T.u8s 55 56, .mv 12 (.t 57)]) .rt)
          (inBlockR 0 (thenR Qn (retQ 12 fun e w'' => ∃ sv, e = .returned sv ∧ OwnB S.T.u8 w'' w.heap.size sv (sCnt flex null l.length 4 ++ l) ∧ Below w.heap.size w w''))) ρ w' := by
      intro Qn ad' l c' ρ hbl hl hs h2 h4 hlm
      refine RW.knows [(15, .slice ad' l.length c'), (2, .bool null), (4, .bool flex)] (by simp [hs, h2, h4]) (RW.sq (RW.rg ?_))
      repeat first | refine RL.step MR.mv ?_ | refine RL.step (MR.biE rfl) ?_ | refine RL.step (MR.b2 rfl) ?_
      refine RL.step (MR.ln ok.tk.u8s (p := ad') (n := l.length) (c := c') rfl) ?_
      refine RL.caB sp.counted.1 (sp.counted.2 w' flex null l.length 4 (by simp only [most] at hl; omega) (by omega)) rfl fun sv w2 o b => ?_
      repeat first | refine RL.step MR.mv ?_ | refine RL.step (MR.biE rfl) ?_ | refine RL.step (MR.b2 rfl) ?_
      refine RL.apOwn (sv := sv) (bs := sCnt flex null l.length 4) (l := l) (ad := ad') (m := l.length) (c := c') ok.tk.u8s ok.tk.u8 rfl o rfl rfl (hbl.kp b.kp) b.size (by simpa using hlm) fun sv2 w3 o2 b2 => ?_
      repeat first | refine RL.step MR.mv ?_ | refine RL.step (MR.biE rfl) ?_ | refine RL.step (MR.b2 rfl) ?_
      exact RL.nil (RW.rt ⟨sv2, rfl, o2.rebase hB, hb.trans ((b.trans b2).mono hB)⟩)
    cases null
    · refine RL.nil (RW.cd (b := false) rfl (fun e => by cases e) (fun _ => RW.sk ?_))
      exact fin _ adS (t.s.take most) cS _ (cutBytes (hbS.kp hb.kp)) (List.length_take_le _ _) (by show Value.slice adS (min t.s.length most) cS = _; rw [take_most_len]) rfl rfl hlim
    · refine RL.nil (RW.cd (b := true) rfl (fun _ => RW.rg (RL.step MR.mv (RL.nil ?_))) (fun e => by cases e))
      exact fin _ none [] 0 _ (fun j b hj => by simp at hj) (by simp) rfl rfl rfl hlim
  refine RW.sq (RW.rg ?_)
  repeat first | refine RL.step MR.mv ?_ | refine RL.step (MR.biE rfl) ?_ | refine RL.step (MR.b2 rfl) ?_
  refine RL.nil (rcd (k := kind) (k' := 10) rfl (fun e => ?_) (fun k10 => RW.sk ?_))
  · subst e
    refine RW.sq (RW.rg ?_)
    repeat first | refine RL.step MR.mv ?_ | refine RL.step (MR.biE rfl) ?_ | refine RL.step (MR.b2 rfl) ?_
    refine RL.step (MR.ldRow (cs := [Value.int .i64 t.n, .slice adS t.s.length cS, .bool t.null, .slice adL t.l.length cL, .slice adU t.u.length cU]) rfl ok.trR ok.trN crow) ?_
    refine RL.caB sp.part.ent (hp w1 ad c t _ ver flex (RowsF.kp hb.kp _ hrows) (RepTr.kp hb.kp _ hrep0) hgood hlim) rfl fun sv w2 o b => ?_
    repeat first | refine RL.step MR.mv ?_ | refine RL.step (MR.biE rfl) ?_ | refine RL.step (MR.b2 rfl) ?_
    exact RL.nil (RW.rt ⟨sv, rfl, o.rebase hB, hb.trans (b.mono hB)⟩)
  have hval : sVal kind (kPart ver flex sub) null flex t = fix t.n (sWid kind) := by simp [sVal, k0, k7, k8, k9, k10]
  rw [hval]
  refine RW.sq (RW.gd ok.mo (Kp w1) (drew1_kp w1) ?_)
  refine RG.q (fun _ _ => MR.fa rfl (ok.trF 0 (by omega))) (RG.q (fun w' hS => MR.ld rfl ok.pI64 (hS _ _ c0)) ?_)
  repeat first | refine RG.q (fun _ _ => MR.mv) ?_ | refine RG.q (fun _ _ => MR.biE rfl) ?_ | refine RG.q (fun _ _ => MR.pk rfl) ?_ | refine RG.no (by first | exact ⟨by decide, .inl rfl⟩ | exact ⟨by decide, .inr ⟨rfl, rfl⟩⟩) ?_
  have bd := hb.trans (below_drew1 w1 w.heap.size)
  refine RG.ca (R := fun v w' => v = .int .i64 (sWid kind : Nat) ∧ w' = World.drew1 w1) sp.width.1 (fun hS => ?_) ?_
  · refine Calls.mono (sp.width.2 _ kind) ?_
    rintro e w' ⟨rfl, rfl⟩
    exact ⟨_, rfl, ⟨rfl, rfl⟩, hS⟩
  rintro v w' ⟨rfl, rfl⟩
  have hk : sWid kind = 1 ∨ sWid kind = 2 ∨ sWid kind = 4 ∨ sWid kind = 8 := by unfold sWid; (repeat' split) <;> simp
  refine RG.ca (R := fun v w' => OwnB S.T.u8 w' (World.drew1 w1).heap.size v (fix t.n (sWid kind)) ∧ Below (World.drew1 w1).heap.size (World.drew1 w1) w') sp.fixed.1 (fun hS => ?_) ?_
  · refine Calls.mono (sp.fixed.2 (World.drew1 w1) t.n (sWid kind) hk) ?_
    rintro e w' ⟨sv, rfl, o, b⟩
    exact ⟨_, rfl, ⟨o, b⟩, hS.trans b.kp⟩
  rintro v w' ⟨o, b⟩
  repeat first | refine RG.q (fun _ _ => MR.mv) ?_ | refine RG.q (fun _ _ => MR.biE rfl) ?_ | refine RG.q (fun _ _ => MR.pk rfl) ?_ | refine RG.no (by first | exact ⟨by decide, .inl rfl⟩ | exact ⟨by decide, .inr ⟨rfl, rfl⟩⟩) ?_
  exact RG.nil fun _ => RW.rt ⟨v, rfl, o.rebase hB, bd.trans (b.mono hB)⟩
end
end Go.Kx
namespace Go.Kx
open Go.RowKit
set_option linter.unusedSimpArgs false
set_option linter.unusedVariables false

section
variable {P : Program} {S : SN} {w w' : World} {N : Nat} {Q : Exit → (Nat → Value) → World → Prop} {ρ : Nat → Value} {ms : List MOp} {SU : List (Nat × List UInt8) → Prop} {Q' : (Nat → Value) → World → Prop}

/-- A call that hands back octets of its own, in a region. -/
theorem RG.caB {i d f : Nat} {U : Nat} {g : Option (Nat × Nat × Bool)} {gs : List GOp} {xs : List MX} {out : List UInt8} {args : List Value} {S : World → Prop} (he : entersB P f = true) (hc : RetB P U f args w out) (ha : xs.map (xof ρ) = args)
    (hS : ∀ w', Below w.heap.size w w' → S w → S w') (h : ∀ sv w', OwnB U w' w.heap.size sv out → Below w.heap.size w w' → RG P N gs Q S (upd ρ d sv) w')
    (hg : passes N ρ true g := by first | exact rfl | exact ⟨by decide, .inl rfl⟩) (hd : d < N := by decide) (hx : ∀ x ∈ xs, MX.lt N x = true := by simp [MX.lt, Nat.blt_eq]) : RG P N (⟨i, g, .ca d f xs⟩ :: gs) Q S ρ w := by
  refine RG.ca (R := fun sv w' => OwnB U w' w.heap.size sv out ∧ Below w.heap.size w w') he (fun hs => ?_) (fun v w' h' => h v w' h'.1 h'.2) hg hd hx
  rw [ha]
  refine Calls.mono hc ?_
  rintro e w' ⟨sv, rfl, h1, h2⟩
  exact ⟨sv, rfl, ⟨h1, h2⟩, hS w' h2 hs⟩

theorem RG.apOO {i d T U x y B B' : Nat} {gs : List GOp} {sv sy : Value} {bs l : List UInt8} {S : World → Prop} (hT : sliceOf P T U = true) (hU : u8Ty P U = true) (hx : ρ x = sv) (hy : ρ y = sy) (ho : OwnB U w B sv bs) (hoy : OwnB U w B' sy l) (hB : B ≤ w.heap.size) (hlim : bs.length + l.length ≤ lim)
    (hS : ∀ w', Below B w w' → w.grownBy w' sv.ownBlock → S w → S w') (h : ∀ sv' w', OwnB U w' B sv' (bs ++ l) → Below B w w' → RG P N gs Q S (upd ρ d sv') w') (hxN : x < N := by decide) (hyN : y < N := by decide) (hd : d < N := by decide) : RG P N (⟨i, none, .ap d T T x y⟩ :: gs) Q S ρ w := by
  obtain ⟨sv', w', h1, h2, h3, h4⟩ := run_apOO hT hU ho hoy hB hlim
  subst hx hy
  exact RG.x (MR.apBy (h1 0) h1 hxN hyN) (hS w' h3 h4) (h sv' w' h2 h3) rfl rfl hd

theorem getElem?_take_some {α : Type} {l : List α} {n i : Nat} {x : α} (h : (l.take n)[i]? = some x) : l[i]? = some x := by
  rw [List.getElem?_take] at h
  split at h
  · exact h
  · simp at h

theorem sField_part {ver : Int} {flex : Bool} {t : Tr} {fd : Fd} (h1 : fd.kind = 10) (h2 : 0 ≤ fd.nul) : kField ver flex fd t = if sNull fd.nul ver t.null then fix (-1) 1 else fix 1 1 ++ kPart ver flex fd.sub t := by
  obtain ⟨kind, fr, to, nul, tag, df, of, sub⟩ := fd
  change kind = 10 at h1
  change 0 ≤ nul at h2
  subst h1
  unfold kField
  rw [if_neg (by decide), if_pos ⟨rfl, h2⟩]; rfl

theorem sField_plain {ver : Int} {flex : Bool} {t : Tr} {fd : Fd} (h1 : fd.kind ≠ 11) (h2 : ¬ (fd.kind = 10 ∧ 0 ≤ fd.nul)) : kField ver flex fd t = sVal fd.kind (kPart ver flex fd.sub) (sNull fd.nul ver t.null) flex t := by
  obtain ⟨kind, fr, to, nul, tag, df, of, sub⟩ := fd
  change kind ≠ 11 at h1
  change ¬ (kind = 10 ∧ 0 ≤ nul) at h2
  unfold kField
  rw [if_neg h1, if_neg h2]; rfl

set_option maxHeartbeats 1000000 in
theorem field_of (sp : SPC P S SU) {fd : Fd} (hp : PartC P S SU fd.sub) (hv : ValueC P S SU fd.sub) : FieldC P S SU fd := by
  intro w cf ct t ver flex hfd hrep hgood hlim
  have ok := sp.ok
  have hfd0 := hfd
  have hrep0 := hrep
  obtain ⟨of1, ol1⟩ := hfd.one
  obtain ⟨ot1, tl1⟩ := hrep.one
  obtain ⟨sl, hcf, adF, cF, rfl, hrows⟩ := hfd.cells
  obtain ⟨sS, sL, sU, hct, hn, _, ⟨adL, cL, rfl, hadL, hlL, hL⟩, _⟩ := hrep.cells
  refine sp.field.runs (args := [.agg cf.toArray, .int .i64 ver, .bool flex, .agg ct.toArray]) (by simp) (by omega) ?_
  refine RW.sq (RW.rg (RL.bxA rfl (RL.bxA rfl (RL.step MR.mv (RL.nil ?_)))))
  have r4 : (w.alloc (.cells cf.toArray S.fd)).rangeAt w.heap.size 0 cf := fun j v hj => cell_box w _ S.fd hj
  have hb0 := below_box w (.cells cf.toArray S.fd)
  have hs0 := size_box w (.cells cf.toArray S.fd)
  revert r4 hb0 hs0
  generalize w.alloc (.cells cf.toArray S.fd) = w0
  intro r4 hb0 hs0
  have r7 : (w0.alloc (.cells ct.toArray S.tr)).rangeAt w0.heap.size 0 ct := fun j v hj => cell_box w0 _ S.tr hj
  have hb1 := below_box w0 (.cells ct.toArray S.tr)
  have hs1 := size_box w0 (.cells ct.toArray S.tr)
  have r4' := rangeAt_kp r4 hb1.kp
  revert r7 hb1 hs1 r4'
  generalize w0.alloc (.cells ct.toArray S.tr) = w1
  intro r7 hb1 hs1 r4'
  have hb : Below w.heap.size w w1 := hb0.trans (hb1.mono hb0.size)
  have hB : w.heap.size ≤ w1.heap.size := hb.size
  have f0 := r4' 0 (.int .i64 fd.kind) (by rw [hcf]; rfl)
  have f3 := r4' 3 (.int .i64 fd.nul) (by rw [hcf]; rfl)
  have f6 := r4' 6 (.int .i64 fd.of) (by rw [hcf]; rfl)
  have f7 := r4' 7 (.slice adF fd.sub.toList.length cF) (by rw [hcf]; rfl)
  have t3 := r7 3 (.slice adL t.l.length cL) (by rw [hct]; rfl)
  -- null
  refine RW.sq (RW.rg (RL.step (MR.ldRow rfl ok.fdR (by rw [ol1]; exact ok.fdN) r4') (RL.step MR.mv (RL.step (MR.ldRow rfl ok.trR (by rw [tl1]; exact ok.trN) r7) ?_))))
  refine RL.ca (R := fun v w' => v = .bool (sNull fd.nul ver t.null) ∧ Below w1.heap.size w1 w') sp.null.1 ?_ ?_
  · refine Calls.mono (sp.null.2 w1 fd t cf ct ver (RepFd.kp hb.kp _ hfd0) (RepTr.kp hb.kp _ hrep0)) ?_
    rintro e w' ⟨rfl, h⟩
    exact ⟨_, rfl, rfl, h⟩
  rintro v w2 ⟨rfl, hb2⟩
  have f0' := hb2.kp _ _ f0
  have f3' := hb2.kp _ _ f3
  have f6' := hb2.kp _ _ f6
  have f7' := hb2.kp _ _ f7
  have t3' := hb2.kp _ _ t3
  have r7' := rangeAt_kp r7 hb2.kp
  have hbw2 : Below w.heap.size w w2 := hb.trans (hb2.mono hB)
  have hrows2 := RowsF.kp hbw2.kp _ hrows
  have hrep2 := RepTr.kp hbw2.kp _ hrep0
  have hB2 : w.heap.size ≤ w2.heap.size := hbw2.size
  repeat first | refine RL.step MR.mv ?_ | refine RL.step (MR.biE rfl) ?_ | refine RL.step (MR.b2 rfl) ?_
  refine RL.nil (RW.sq (RW.sq (RW.rg (RL.step (MR.fa rfl (ok.fdF 0 (by omega))) (RL.step (MR.ld rfl ok.pInt f0') ?_)))))
  repeat first | refine RL.step MR.mv ?_ | refine RL.step (MR.biE rfl) ?_ | refine RL.step (MR.b2 rfl) ?_
  refine RL.nil (rcd (k := fd.kind) (k' := 11) rfl (fun hk => ?_) (fun k11 => RW.sk ?_))
  · -- a list
    have hfld : kField ver flex fd t = sCnt flex (sNull fd.nul ver t.null) (if sNull fd.nul ver t.null then [] else t.l.take most).length 4 ++ (if sNull fd.nul ver t.null then [] else t.l.take most).flatMap (sVal fd.of (kPart ver flex fd.sub) false flex) := by
      cases fd; simp only [Fd.kind] at hk; subst hk; rfl
    rw [hfld] at hlim ⊢
    refine RW.sq (RW.rg (RL.step (MR.fa rfl (ok.trF 3 (by omega))) (RL.step (MR.ld rfl ok.pTrs t3') (RL.ca (R := fun v w' => v = .slice adL (min t.l.length most) cL ∧ w' = w2) sp.things.1 ?_ ?_))))
    · refine Calls.mono (sp.things.2 w2 adL t.l.length cL hadL hlL) ?_
      rintro e w' ⟨rfl, rfl⟩
      exact ⟨_, rfl, rfl, rfl⟩
    rintro v w' ⟨rfl, rfl⟩
    repeat first | refine RL.step MR.mv ?_ | refine RL.step (MR.biE rfl) ?_ | refine RL.step (MR.b2 rfl) ?_
    refine RL.nil (RW.sq (RW.sq (RW.rg ?_)))
    repeat first | refine RL.step MR.mv ?_ | refine RL.step (MR.biE rfl) ?_ | refine RL.step (MR.b2 rfl) ?_
    have fin : ∀ (l : List Tr) (ad' : Option Addr) (c' : Nat) (null : Bool) (ρ : Nat → Value) (Qn : (Nat → Value) → World → Prop), null = sNull fd.nul ver t.null → (if null then [] else t.l.take most) = l → l.length ≤ most → (∀ e ∈ l, goodT SU e) →
        (∀ i e, l[i]? = some e → ∃ g o cs', ad' = some ⟨g, o, none⟩ ∧ w.rangeAt g (o + i * 5) cs' ∧ RepTr w e cs') →
        ρ 10 = .slice ad' l.length c' → ρ 9 = .bool null → ρ 1 = .int .i64 ver → ρ 2 = .bool flex → ρ 4 = .pointer (some ⟨w.heap.size, 0, none⟩) → (sCnt flex null l.length 4 ++ l.flatMap (sVal fd.of (kPart ver flex fd.sub) false flex)).length ≤ lim →
        RW P 76 (.sq (.rg [.mv 24 (.t 2), .mv 25 (.t 9), .mv 26 (.t 10), .ln 27 S.trs 26, .ca 28 S.fCounted [.t 24, .t 25, .t 27, .c (.int .i64 (4))], .mv 11 (.t 28)])
          (.sq (.sq (.rg [.mv 29 (.t 10), .ln 30 S.trs 29, .mv 31 (.c (.int .i64 (0)))])
          (.bl 0 (.lp (.sq (.rg [.bi 32 .lss S.T.int (.t 31) (.t 30)])
          (.sq (.cd 32 (.sk) (.ex 0))
          (.sq (.bl 1 (.sq (.rg [.mv 33 (.t 31), .mv 12 (.t 33)])
          (.gr true [⟨0, none, .mv 34 (.t 11)⟩, ⟨1, none, .fa 35 S.fd 4 6⟩, ⟨2, none, .ld 36 S.T.int 35⟩, ⟨3, none, .fa 37 S.fd 4 7⟩, ⟨4, none, .ld 38 S.fds 37⟩, ⟨5, none, .mv 39 (.t 1)⟩, ⟨6, none, .mv 40 (.t 2)⟩, ⟨7, none, .mv 41 (.t 10)⟩, ⟨8, none, .mv 42 (.t 12)⟩, ⟨9, none, .ia 43 S.trs 41 42⟩, ⟨10, none, .ld 44 S.tr 43⟩, ⟨11, none, .ca 45 S.fValue [.t 36, .t 38, .c (.bool false), .t 39, .t 40, .t 44]⟩, ⟨12, none, .ap 46 S.T.u8s S.T.u8s 34 45⟩, ⟨13, none, .mv 11 (.t 46)⟩])))
          (.rg [.bi 47 .add S.T.int (.t 31) (.c (.int .i64 (1))), .mv 31 (.t 47)])))))))
          (.sq (.rg [.mv 48 (.t 11), .mv 8 (.t 48)])
          (.rt)))) (thenR Qn (retQ 8 fun e w'' => ∃ sv, e = .returned sv ∧ OwnB S.T.u8 w'' w.heap.size sv (sCnt flex null l.length 4 ++ l.flatMap (sVal fd.of (kPart ver flex fd.sub) false flex)) ∧ Below w.heap.size w w'')) ρ w' := by
      intro l ad' c' null ρ Qn hnull hl0 hl hgl hrl h10 h9 h1 h2 h4 hlm
      have hm : l.length ≤ 32767 := hl
      refine RW.knows [(10, .slice ad' l.length c'), (9, .bool null), (1, .int .i64 ver), (2, .bool flex), (4, .pointer (some ⟨w.heap.size, 0, none⟩))] (by simp [h10, h9, h1, h2, h4]) (RW.sq (RW.rg ?_))
      repeat first | refine RL.step MR.mv ?_ | refine RL.step (MR.biE rfl) ?_ | refine RL.step (MR.b2 rfl) ?_
      refine RL.step (MR.ln ok.trs (p := ad') (n := l.length) (c := c') rfl) ?_
      refine RL.caB sp.counted.1 (sp.counted.2 w' flex null l.length 4 (by simp only [most] at hl; omega) (by omega)) rfl fun sv0 w3 o3 b3 => ?_
      repeat first | refine RL.step MR.mv ?_ | refine RL.step (MR.biE rfl) ?_ | refine RL.step (MR.b2 rfl) ?_
      refine RL.nil (RW.sq (RW.sq (RW.rg ?_)))
      repeat first | refine RL.step MR.mv ?_ | refine RL.step (MR.biE rfl) ?_ | refine RL.step (MR.b2 rfl) ?_
      refine RL.step (MR.ln ok.trs (p := ad') (n := l.length) (c := c') rfl) ?_
      repeat first | refine RL.step MR.mv ?_ | refine RL.step (MR.biE rfl) ?_ | refine RL.step (MR.b2 rfl) ?_
      refine RL.nil (RW.bl ?_)
      refine RW.lp (fun ρ w4 => ∃ (i : Nat) (sv : Value) (bs : List UInt8), i ≤ l.length ∧ ρ 1 = .int .i64 ver ∧ ρ 2 = .bool flex ∧ ρ 4 = .pointer (some ⟨w.heap.size, 0, none⟩) ∧ ρ 10 = .slice ad' l.length c' ∧ ρ 11 = sv ∧ ρ 30 = .int .i64 (l.length : Nat) ∧ ρ 31 = .int .i64 (i : Nat) ∧
          OwnB S.T.u8 w4 w'.heap.size sv bs ∧ Below w'.heap.size w' w4 ∧ bs ++ (l.drop i).flatMap (sVal fd.of (kPart ver flex fd.sub) false flex) = sCnt flex null l.length 4 ++ l.flatMap (sVal fd.of (kPart ver flex fd.sub) false flex))
        (fun ρ _ => l.length - (intOf (ρ 31)).toNat) ⟨0, sv0, _, by omega, rfl, rfl, rfl, rfl, rfl, rfl, rfl, o3, b3, rfl⟩ ?_ (fun ρ ρ' w h => by rw [h 31 (by omega)])
      rintro ρ1 w4 ⟨i, sv, bs, hi, h1, h2, h4, h10, h11, h30, h31, ho, hb4, hbs⟩
      refine RW.knows [(1, .int .i64 ver), (2, .bool flex), (4, .pointer (some ⟨w.heap.size, 0, none⟩)), (10, .slice ad' l.length c'), (11, sv), (30, .int .i64 (l.length : Nat)), (31, .int .i64 (i : Nat))] (by simp [h1, h2, h4, h10, h11, h30, h31]) (RW.sq (RW.rg ?_))
      by_cases hlt : i < l.length
      · refine RL.step (MR.biB (p := (i : Int) < (l.length : Int)) rfl (decide_eq_true (by omega))) (RL.nil (RW.sq (RW.cd (b := true) rfl (fun _ => RW.sk ?_) (fun e => by cases e))))
        have hdrop : l.drop i = l[i] :: l.drop (i + 1) := List.drop_eq_getElem_cons hlt
        rw [hdrop, List.flatMap_cons, ← List.append_assoc] at hbs
        have hlen2 := congrArg List.length hbs
        simp only [List.length_append] at hlen2 hlm
        obtain ⟨g, o, cs', rfl, hr', hrt'⟩ := hrl i _ (List.getElem?_eq_getElem hlt)
        obtain ⟨oe1, le1⟩ := hrt'.one
        refine RW.sq (RW.bl (RW.sq (RW.rg ?_)))
        repeat first | refine RL.step MR.mv ?_ | refine RL.step (MR.biE rfl) ?_ | refine RL.step (MR.b2 rfl) ?_
        refine RL.nil (RW.gd ok.mo (Below w'.heap.size w4) (below_drew1 _ _) ?_)
        have b24 : ∀ {w5 : World}, Below w'.heap.size w4 w5 → Kp w' w5 := fun hS => (hb4.trans hS).kp
        repeat first | refine RG.q (fun _ _ => MR.mv) ?_ | refine RG.q (fun _ _ => MR.biE rfl) ?_ | refine RG.q (fun _ _ => MR.pk rfl) ?_ | refine RG.no (by first | exact ⟨by decide, .inl rfl⟩ | exact ⟨by decide, .inr ⟨rfl, rfl⟩⟩) ?_
        refine RG.q (fun _ _ => MR.fa rfl (ok.fdF 6 (by omega))) (RG.q (fun w5 hS => MR.ld rfl ok.pInt (b24 hS _ _ f6')) (RG.q (fun _ _ => MR.fa rfl (ok.fdF 7 (by omega))) (RG.q (fun w5 hS => MR.ld rfl ok.pFds (b24 hS _ _ f7')) ?_)))
        repeat first | refine RG.q (fun _ _ => MR.mv) ?_ | refine RG.q (fun _ _ => MR.biE rfl) ?_ | refine RG.q (fun _ _ => MR.pk rfl) ?_ | refine RG.no (by first | exact ⟨by decide, .inl rfl⟩ | exact ⟨by decide, .inr ⟨rfl, rfl⟩⟩) ?_
        refine RG.q (fun _ _ => MR.ia (k := .i64) ok.trs ok.trN rfl rfl hlt) (RG.q (fun w5 hS => MR.ldRow (cs := cs') rfl ok.trR (by rw [le1]; exact ok.trN) (rangeAt_kp hr' (hbw2.kp.trans (b24 hS)))) ?_)
        have k4 : Kp w (World.drew1 w4) := hbw2.kp.trans (hb4.kp.trans (drew1_kp w4))
        refine RG.caB sp.value.ent (hv (World.drew1 w4) adF cF l[i] cs' fd.of ver false flex (RowsF.kp k4 _ hrows) (RepTr.kp k4 _ hrt') (hgl _ (List.getElem_mem hlt)) (by omega)) rfl (fun w5 h5 hS => hS.trans (h5.mono hb4.size)) fun sv5 w5 o5 b5 => ?_
        have b45 : Below w4.heap.size w4 w5 := (below_drew1 w4 w4.heap.size).trans b5
        refine RG.apOO (B := w'.heap.size) (bs := bs) (l := sVal fd.of (kPart ver flex fd.sub) false flex l[i]) ok.tk.u8s ok.tk.u8 rfl rfl (ho.keep b45) o5 (Nat.le_trans hb4.size b45.size) (by omega) (fun w6 h6 _ hS => hS.trans h6) fun sv6 w6 o6 b6 => ?_
        repeat first | refine RG.q (fun _ _ => MR.mv) ?_ | refine RG.q (fun _ _ => MR.biE rfl) ?_ | refine RG.q (fun _ _ => MR.pk rfl) ?_ | refine RG.no (by first | exact ⟨by decide, .inl rfl⟩ | exact ⟨by decide, .inr ⟨rfl, rfl⟩⟩) ?_
        refine RG.nil fun hS => RW.rg ?_
        repeat first | refine RL.step MR.mv ?_ | refine RL.step (MR.biE rfl) ?_ | refine RL.step (MR.b2 rfl) ?_
        refine RL.nil ⟨⟨i + 1, sv6, _, hlt, rfl, rfl, rfl, rfl, rfl, rfl, ?_, o6, hb4.trans hS, hbs⟩, ?_⟩
        · show Value.int .i64 (IntKind.i64.wrap ((i : Int) + 1)) = _
          rw [wrap_i64 (by omega) (by omega)]; rfl
        · show l.length - (IntKind.i64.wrap ((i : Int) + 1)).toNat < l.length - (intOf (ρ1 31)).toNat
          rw [h31, wrap_i64 (by omega) (by omega)]; simp only [intOf]; omega
      · refine RL.step (MR.biB (p := (i : Int) < (l.length : Int)) rfl (decide_eq_false (by omega))) (RL.nil (RW.sq (RW.cd (b := false) rfl (fun e => by cases e) (fun _ => RW.ex ?_))))
        refine RW.sq (RW.rg ?_)
        repeat first | refine RL.step MR.mv ?_ | refine RL.step (MR.biE rfl) ?_ | refine RL.step (MR.b2 rfl) ?_
        refine RL.nil (RW.rt ⟨sv, rfl, ?_, hbw2.trans (hb4.mono hB2)⟩)
        have : l.drop i = [] := List.drop_eq_nil_of_le (by omega)
        rw [this, List.flatMap_nil, List.append_nil] at hbs
        rw [← hbs]; exact ho.rebase hB2
    have hall : ∀ e ∈ t.l.take most, goodT SU e := fun e he => hgood.mem (List.mem_of_mem_take he)
    cases hnul : sNull fd.nul ver t.null
    · rw [hnul] at hlim
      refine RL.nil (RW.cd (b := false) rfl (fun e => by cases e) (fun _ => RW.sk ?_))
      exact fin (t.l.take most) adL cL false _ _ hnul.symm rfl (List.length_take_le _ _) hall (fun i e he => hL i e (getElem?_take_some he)) (by show Value.slice adL (min t.l.length most) cL = _; rw [List.length_take, Nat.min_comm]) rfl rfl rfl rfl hlim
    · rw [hnul] at hlim
      refine RL.nil (RW.cd (b := true) rfl (fun _ => RW.rg (RL.step MR.mv (RL.nil ?_))) (fun e => by cases e))
      exact fin [] none 0 true _ _ hnul.symm rfl (by simp) (by simp) (fun i e he => by simp at he) rfl rfl rfl rfl rfl hlim
  · -- a part that may be null, or a plain value
    have hpart : fd.kind = 10 ∧ 0 ≤ fd.nul → kField ver flex fd t = if sNull fd.nul ver t.null then fix (-1) 1 else fix 1 1 ++ kPart ver flex fd.sub t := fun h => sField_part h.1 h.2
    have hplain : ¬ (fd.kind = 10 ∧ 0 ≤ fd.nul) → kField ver flex fd t = sVal fd.kind (kPart ver flex fd.sub) (sNull fd.nul ver t.null) flex t := fun h => sField_plain k11 h
    have valArm : ∀ (ρ : Nat → Value), ¬ (fd.kind = 10 ∧ 0 ≤ fd.nul) → ρ 4 = .pointer (some ⟨w.heap.size, 0, none⟩) → ρ 7 = .pointer (some ⟨w0.heap.size, 0, none⟩) → ρ 9 = .bool (sNull fd.nul ver t.null) → ρ 1 = .int .i64 ver → ρ 2 = .bool flex →
        RW P 76 (.sq (.rg [.fa 67 S.fd 4 0, .ld 68 S.T.int 67, .fa 69 S.fd 4 7, .ld 70 S.fds 69, .mv 71 (.t 9), .mv 72 (.t 1), .mv 73 (.t 2), .ld 74 S.tr 7, .ca 75 S.fValue [.t 68, .t 70, .t 71, .t 72, .t 73, .t 74], .mv 8 (.t 75)]) .rt)
          (retQ 8 fun e w'' => ∃ sv, e = .returned sv ∧ OwnB S.T.u8 w'' w.heap.size sv (kField ver flex fd t) ∧ Below w.heap.size w w'') ρ w2 := by
      intro ρ hne h4 h7 h9 h1 h2
      rw [hplain hne] at hlim ⊢
      refine RW.knows [(4, .pointer (some ⟨w.heap.size, 0, none⟩)), (7, .pointer (some ⟨w0.heap.size, 0, none⟩)), (9, .bool (sNull fd.nul ver t.null)), (1, .int .i64 ver), (2, .bool flex)] (by simp [h4, h7, h9, h1, h2]) (RW.sq (RW.rg ?_))
      refine RL.step (MR.fa rfl (ok.fdF 0 (by omega))) (RL.step (MR.ld rfl ok.pInt f0') (RL.step (MR.fa rfl (ok.fdF 7 (by omega))) (RL.step (MR.ld rfl ok.pFds f7') ?_)))
      repeat first | refine RL.step MR.mv ?_ | refine RL.step (MR.biE rfl) ?_ | refine RL.step (MR.b2 rfl) ?_
      refine RL.step (MR.ldRow (cs := ct) rfl ok.trR (by rw [tl1]; exact ok.trN) r7') ?_
      refine RL.caB sp.value.ent (hv w2 adF cF t ct fd.kind ver (sNull fd.nul ver t.null) flex hrows2 hrep2 hgood hlim) rfl fun sv w3 o b => ?_
      repeat first | refine RL.step MR.mv ?_ | refine RL.step (MR.biE rfl) ?_ | refine RL.step (MR.b2 rfl) ?_
      exact RL.nil (RW.rt ⟨sv, rfl, o.rebase hB2, hbw2.trans (b.mono hB2)⟩)
    refine RW.sq (RW.sq (RW.gf (Kp w2) (Kp.refl _) ?_))
    refine RG.q (fun _ _ => MR.fa rfl (ok.fdF 0 (by omega))) (RG.q (fun w' hS => MR.ld rfl ok.pInt (hS _ _ f0')) ?_)
    by_cases k10 : fd.kind = 10
    · refine RG.q (fun _ _ => MR.biE (v := .bool true) (by show some (Value.bool (fd.kind == 10)) = _; rw [k10]; rfl)) (RG.q (fun _ _ => MR.mv) ?_)
      refine RG.q (fun _ _ => MR.fa rfl (ok.fdF 3 (by omega))) (RG.q (fun w' hS => MR.ld rfl ok.pInt (hS _ _ f3')) ?_)
      by_cases hn0 : 0 ≤ fd.nul
      · refine RG.q (fun _ _ => MR.biB (p := 0 ≤ fd.nul) rfl (decide_eq_true hn0)) ?_
        repeat first | refine RG.q (fun _ _ => MR.mv) ?_ | refine RG.q (fun _ _ => MR.biE rfl) ?_ | refine RG.q (fun _ _ => MR.pk rfl) ?_ | refine RG.no (by first | exact ⟨by decide, .inl rfl⟩ | exact ⟨by decide, .inr ⟨rfl, rfl⟩⟩) ?_
        refine RG.nil fun _ => RW.cd (b := true) rfl (fun _ => ?_) (fun e => by cases e)
        rw [hpart ⟨k10, hn0⟩] at hlim ⊢
        refine RW.sq (RW.sq (RW.rg ?_))
        repeat first | refine RL.step MR.mv ?_ | refine RL.step (MR.biE rfl) ?_ | refine RL.step (MR.b2 rfl) ?_
        cases hnul : sNull fd.nul ver t.null
        · rw [hnul] at hlim
          simp only [Bool.false_eq_true, if_false, List.length_append] at hlim ⊢
          refine RL.nil (RW.cd (b := false) rfl (fun e => by cases e) (fun _ => RW.sk ?_))
          refine RW.sq (RW.gd ok.mo (Below w2.heap.size w2) (below_drew1 _ _) ?_)
          refine RG.q (fun _ _ => MR.fa rfl (ok.fdF 7 (by omega))) (RG.q (fun w' hS => MR.ld rfl ok.pFds (hS.kp _ _ f7')) ?_)
          repeat first | refine RG.q (fun _ _ => MR.mv) ?_ | refine RG.q (fun _ _ => MR.biE rfl) ?_ | refine RG.q (fun _ _ => MR.pk rfl) ?_ | refine RG.no (by first | exact ⟨by decide, .inl rfl⟩ | exact ⟨by decide, .inr ⟨rfl, rfl⟩⟩) ?_
          refine RG.q (fun w' hS => MR.ldRow (cs := ct) rfl ok.trR (by rw [tl1]; exact ok.trN) (rangeAt_kp r7' hS.kp)) ?_
          refine RG.caB sp.fixed.1 (sp.fixed.2 (World.drew1 w2) 1 1 (by omega)) rfl (fun w5 h5 hS => hS.trans h5) fun sv5 w5 o5 b5 => ?_
          have b25 : Below w2.heap.size w2 w5 := (below_drew1 w2 _).trans b5
          refine RG.caB sp.part.ent (hp w5 adF cF t ct ver flex (RowsF.kp b25.kp _ hrows2) (RepTr.kp b25.kp _ hrep2) hgood (by omega)) rfl (fun w6 h6 hS => hS.trans (h6.mono b25.size)) fun sv6 w6 o6 b6 => ?_
          refine RG.apOO (B := w2.heap.size) (bs := fix 1 1) (l := kPart ver flex fd.sub t) ok.tk.u8s ok.tk.u8 rfl rfl (o5.keep b6) o6 (Nat.le_trans b25.size b6.size) hlim (fun w7 h7 _ hS => hS.trans h7) fun sv7 w7 o7 b7 => ?_
          repeat first | refine RG.q (fun _ _ => MR.mv) ?_ | refine RG.q (fun _ _ => MR.biE rfl) ?_ | refine RG.q (fun _ _ => MR.pk rfl) ?_ | refine RG.no (by first | exact ⟨by decide, .inl rfl⟩ | exact ⟨by decide, .inr ⟨rfl, rfl⟩⟩) ?_
          exact RG.nil fun hS => RW.rt ⟨sv7, rfl, o7.rebase hB2, hbw2.trans (hS.mono hB2)⟩
        · simp only [if_true]
          refine RL.nil (RW.cd (b := true) rfl (fun _ => RW.sq (RW.rg ?_)) (fun e => by cases e))
          refine RL.caB sp.fixed.1 (sp.fixed.2 w2 (-1) 1 (by omega)) rfl fun sv w3 o b => ?_
          repeat first | refine RL.step MR.mv ?_ | refine RL.step (MR.biE rfl) ?_ | refine RL.step (MR.b2 rfl) ?_
          exact RL.nil (RW.rt ⟨sv, rfl, o.rebase hB2, hbw2.trans (b.mono hB2)⟩)
      · refine RG.q (fun _ _ => MR.biB (p := 0 ≤ fd.nul) rfl (decide_eq_false hn0)) ?_
        repeat first | refine RG.q (fun _ _ => MR.mv) ?_ | refine RG.q (fun _ _ => MR.biE rfl) ?_ | refine RG.q (fun _ _ => MR.pk rfl) ?_ | refine RG.no (by first | exact ⟨by decide, .inl rfl⟩ | exact ⟨by decide, .inr ⟨rfl, rfl⟩⟩) ?_
        exact RG.nil fun _ => RW.cd (b := false) rfl (fun e => by cases e) (fun _ => RW.sk (valArm _ (fun h => hn0 h.2) rfl rfl rfl rfl rfl))
    · refine RG.q (fun _ _ => MR.biE (v := .bool false) (by show some (Value.bool (fd.kind == 10)) = _; rw [beq_eq_false_iff_ne.2 k10])) (RG.q (fun _ _ => MR.mv) ?_)
      repeat first | refine RG.q (fun _ _ => MR.mv) ?_ | refine RG.q (fun _ _ => MR.biE rfl) ?_ | refine RG.q (fun _ _ => MR.pk rfl) ?_ | refine RG.no (by first | exact ⟨by decide, .inl rfl⟩ | exact ⟨by decide, .inr ⟨rfl, rfl⟩⟩) ?_
      exact RG.nil fun _ => RW.cd (b := false) rfl (fun e => by cases e) (fun _ => RW.sk (valArm _ (fun h => k10 h.1) rfl rfl rfl rfl rfl))
end
end Go.Kx
namespace Go.Kx
open Go.RowKit
set_option linter.unusedSimpArgs false
set_option linter.unusedVariables false

section
variable {P : Program} {S : SN} {w w' : World} {N : Nat} {Q : Exit → (Nat → Value) → World → Prop} {ρ : Nat → Value} {ms : List MOp} {SU : List (Nat × List UInt8) → Prop}

/-- What stood there stands still, but for one block. -/
def Ex (row : Option Nat) (w w' : World) : Prop := w.heap.size ≤ w'.heap.size ∧ ∀ k, k < w.heap.size → row ≠ some k → w'.heap[k]? = w.heap[k]?

theorem Ex.refl (row : Option Nat) (w : World) : Ex row w w := ⟨Nat.le_refl _, fun _ _ _ => rfl⟩
theorem Ex.below {row : Option Nat} {a w w' : World} (h : Ex row a w) (hb : Below w.heap.size w w') : Ex row a w' :=
  ⟨Nat.le_trans h.1 hb.size, fun k hk hr => (hb.block k (by have := h.1; omega)).trans (h.2 k hk hr)⟩
theorem Ex.grown {row : Option Nat} {a w w' : World} (h : Ex row a w) (hg : w.grownBy w' row) : Ex row a w' :=
  ⟨Nat.le_trans h.1 hg.size, fun k hk hr => (hg.block k (by have := h.1; omega) (fun e => hr e.symm)).trans (h.2 k hk hr)⟩
theorem Ex.rangeAt {row : Option Nat} {b o : Nat} {cs : List Value} (h : Ex row w w') (hr : w.rangeAt b o cs) (hb : b < w.heap.size) (hne : row ≠ some b) : w'.rangeAt b o cs :=
  fun j v hj => by rw [cell_of_heap (h.2 b hb hne)]; exact hr j v hj

/-- A row of a slice of fields: into a variable of its own, another slot written between. -/
theorem RL.rowF2 {d1 d2 d e x i : Nat} {y : MX} {ad : Option Addr} {n c : Nat} {f : Fd} {k : Nat} (ok : SOK P S) (hx : ρ x = .slice ad n c) (hi : ρ i = .int .i64 (k : Nat)) (hk : k < n)
    (hrow : ∃ g o cs, ad = some ⟨g, o, none⟩ ∧ w.rangeAt g (o + k * 8) cs ∧ RepFd w f cs) (hd1 : d1 ≠ d2) (hd2 : d2 ≠ d) (hed : e ≠ d) (hed2 : e ≠ d2)
    (h : ∀ p cs w', Below w.heap.size w w' → w'.heap.size = w.heap.size + 1 → RepFd w' f cs → w'.rangeAt w.heap.size 0 cs → RL P N ms Q (upd (upd (upd (upd ρ d1 p) d2 (.agg cs.toArray)) d (.pointer (some ⟨w.heap.size, 0, none⟩))) e (xof (upd (upd (upd ρ d1 p) d2 (.agg cs.toArray)) d (.pointer (some ⟨w.heap.size, 0, none⟩))) y)) w')
    (hxN : x < N := by decide) (hiN : i < N := by decide) (h1N : d1 < N := by decide) (h2N : d2 < N := by decide) (hdN : d < N := by decide) (heN : e < N := by decide) (hyN : y.lt N = true := by rfl) :
    RL P N (.ia d1 S.fds x i :: .ld d2 S.fd d1 :: .al d S.fd :: .mv e y :: .st S.fd d d2 :: ms) Q ρ w := by
  obtain ⟨g, o, cs, rfl, hr, hf⟩ := hrow
  obtain ⟨o1, l1⟩ := hf.one
  obtain ⟨zi, hzi, hzv⟩ := ok.zFd
  refine RL.step (MR.ia (k := .i64) ok.fds ok.fdN hx hi hk hxN hiN) (RL.step (MR.ldRow (upd_same _ _ _) ok.fdR (by rw [l1]; exact ok.fdN) hr h1N) ?_ h2N) h1N
  refine RL.step (MR.al ⟨zi, hzi, hzv⟩) (RL.step (MR.mv rfl hyN) ?_ heN) hdN
  have ht : (w.alloc (.cells (Value.agg [Value.int .i64 0, .int .i64 0, .int .i64 0, .int .i64 0, .int .i64 0, .int .i64 0, .int .i64 0, .slice none 0 0].toArray).cells S.fd)).there w.heap.size 0 cs.length := by
    rw [l1]; exact there_box w [Value.int .i64 0, .int .i64 0, .int .i64 0, .int .i64 0, .int .i64 0, .int .i64 0, .int .i64 0, .slice none 0 0] S.fd
  have hb := below_setCells (Nat.le_refl w.heap.size) cs 0 (below_box w (.cells (Value.agg [Value.int .i64 0, .int .i64 0, .int .i64 0, .int .i64 0, .int .i64 0, .int .i64 0, .int .i64 0, .slice none 0 0].toArray).cells S.fd))
  refine RL.stA (cs := cs) (by rw [upd_ne _ _ (Ne.symm hed), upd_same]) (by rw [upd_ne _ _ (Ne.symm hed2), upd_ne _ _ hd2, upd_same]) (by rw [l1]; exact ok.fdN) ht o1 (h _ cs _ hb ?_ (RepFd.kp hb.kp _ hf) (World.rangeAt_setCells_same _ _ _ _ ht)) hdN h2N
  rw [size_setCells, size_box]

/-- A row of a slice of tags: into a variable of its own. -/
theorem RL.rowT {d1 d2 d x i g o : Nat} {n c : Nat} {cs : List Value} {t : Nat × List UInt8} {k : Nat} (ok : SOK P S) (hx : ρ x = .slice (some ⟨g, o, none⟩) n c) (hi : ρ i = .int .i64 (k : Nat)) (hk : k < n)
    (hr : w.rangeAt g (o + k * 2) cs) (hf : TagRow w cs t) (hd1 : d1 ≠ d2) (hd2 : d2 ≠ d)
    (h : ∀ p w', Below w.heap.size w w' → w'.heap.size = w.heap.size + 1 → w'.rangeAt w.heap.size 0 cs → RL P N ms Q (upd (upd (upd ρ d1 p) d2 (.agg cs.toArray)) d (.pointer (some ⟨w.heap.size, 0, none⟩))) w')
    (hxN : x < N := by decide) (hiN : i < N := by decide) (h1N : d1 < N := by decide) (h2N : d2 < N := by decide) (hdN : d < N := by decide) : RL P N (.ia d1 S.tgs x i :: .ld d2 S.tg d1 :: .al d S.tg :: .st S.tg d d2 :: ms) Q ρ w := by
  obtain ⟨_, ad', c', hcs, _⟩ := hf
  have l1 : cs.length = 2 := by rw [hcs]; rfl
  have o1 : cs.all (·.oneCell') = true := by rw [hcs]; rfl
  refine RL.step (MR.ia (k := .i64) ok.tgs ok.tgN hx hi hk hxN hiN) (RL.step (MR.ldRow (upd_same _ _ _) ok.tgR (by rw [l1]; exact ok.tgN) hr h1N) ?_ h2N) h1N
  refine RL.alst ok.zTg (upd_same _ _ _) hd2 rfl l1 ok.tgN o1 (fun w' hb hs hrg _ => h _ w' hb hs hrg) hdN h2N

theorem RL.apOOg {d T U x y B B' : Nat} {sv sy : Value} {bs l : List UInt8} (hT : sliceOf P T U = true) (hU : u8Ty P U = true) (hx : ρ x = sv) (hy : ρ y = sy) (ho : OwnB U w B sv bs) (hoy : OwnB U w B' sy l) (hB : B ≤ w.heap.size) (hlim : bs.length + l.length ≤ lim)
    (h : ∀ sv' w', OwnB U w' B sv' (bs ++ l) → Below B w w' → w.grownBy w' sv.ownBlock → RL P N ms Q (upd ρ d sv') w') (hxN : x < N := by decide) (hyN : y < N := by decide) (hd : d < N := by decide) : RL P N (.ap d T T x y :: ms) Q ρ w := by
  obtain ⟨sv', w', h1, h2, h3, h4⟩ := run_apOO hT hU ho hoy hB hlim
  subst hx hy
  exact RL.step (MR.apBy (h1 0) h1 hxN hyN) (h sv' w' h2 h3 h4) hd

theorem fds_len (f : Fd) (r : Fds) : (Fds.cons f r).toList.length = r.toList.length + 1 := rfl

theorem run_apOwnX {T U m c B : Nat} {ad : Option Addr} {bs l : List UInt8} {sv : Value} (hT : sliceOf P T U = true) (hU : u8Ty P U = true) (ho : OwnB U w B sv bs)
    (hm : m = l.length) (hb : BytesAt w (fun _ => True) ad l) (hB : B ≤ w.heap.size) (hlim : bs.length + l.length ≤ lim) :
    ∃ sv' w', (∀ ty, (Builtin.append_ #[T, T] ty #[sv, .slice ad m c]).run P w = .ok sv' w') ∧ OwnB U w' B sv' (bs ++ l) ∧ Below B w w' ∧ w.grownBy w' sv.ownBlock ∧ ∀ k, sv'.ownBlock = some k → sv.ownBlock = some k ∨ w.heap.size ≤ k := by
  obtain ⟨sv', w', h1, h2, h3, h4⟩ := run_apOwn (c := c) hT hU ho hm hb hB hlim
  refine ⟨sv', w', h1, h2, h3, h4, ?_⟩
  obtain ⟨i, hi, hs, hby, hz⟩ := u8Ty_info hU
  have hl1 : lim = 1099511627776 := rfl
  cases ad with
  | none =>
    have hl : l = [] := by
      cases l with
      | nil => rfl
      | cons b l => obtain ⟨g, o, he, _⟩ := hb 0 b rfl; simp at he
    subst hl
    simp only [List.length_nil] at hm
    subst hm
    have hrun : (Builtin.append_ #[T, T] 0 #[sv, .slice none 0 c]).run P w = .ok sv w := by
      rcases ho.2 with ⟨rfl, h0⟩ | ⟨g, cap, cur, rfl, _, _, hnc, _⟩
      · simp [Builtin.append_, run_underlying (sliceOf_eq hT), sizeOf, typeInfo, hi, Builtin.lenOf, Builtin.firstCells]
      · simp [Builtin.append_, run_underlying (sliceOf_eq hT), sizeOf, typeInfo, hi, Builtin.lenOf, Builtin.firstCells, hnc, storeCells]
    have := h1 0
    rw [hrun] at this
    injection this with e1 e2
    subst e1
    exact fun k hk => .inl hk
  | some ad =>
    have hnews : ∀ j u, (l.map byteV)[j]? = some u → w.cell? (ad.add j) = some u := fun j u hu => by
      simp only [List.getElem?_map, Option.map_eq_some_iff] at hu
      obtain ⟨b, hb1, rfl⟩ := hu
      obtain ⟨g, o, he, _, hc⟩ := hb j b hb1
      cases he
      rw [Addr.add_mid]; exact hc
    have h1' : ∀ u ∈ l.map byteV, u.oneCell' = true := by intro u hu; simp only [List.mem_map] at hu; obtain ⟨b, _, rfl⟩ := hu; rfl
    rcases ho.2 with ⟨rfl, h0⟩ | ⟨g, cap, cur, rfl, hbg, hg, hnc, hcm, hcs, htake⟩
    · have hx : bs = [] := List.eq_nil_of_length_eq_zero h0
      subst hx
      obtain ⟨v2, w2, q1, q2, _⟩ := run_append_own (P := P) w w.heap.size T 0 U i (.int .u8 0) 1 1 (sliceOf_eq hT) hi hz hs hby rfl (by omega) (.slice none 0 0) 0 [] (World.ownsRow_nil _ _ _ _) ad m c (l.map byteV) (by simp [hm])
        hnews h1' (by simp only [maxLen]; simp only [List.length_nil] at hlim; omega) (by simp only [List.length_nil] at hlim; omega) (Nat.le_refl _)
      have := h1 0
      rw [q1] at this
      injection this with e1 e2
      subst e1
      exact fun k hk => .inr (World.ownsRow.lt q2 k hk).1
    · by_cases hroom : bs.length + m ≤ cap
      · have hr := run_append_room (P := P) w T 0 U i (sliceOf_eq hT) hi g bs.length cap cur hg ad m c (l.map byteV) (by rw [hs]; simp [hm]) hnews h1' hroom (by rw [hs, List.length_map]; omega)
        have := h1 0
        rw [hr] at this
        injection this with e1 e2
        subst e1
        exact fun k hk => .inl hk
      · have holds : ∀ j u, (bs.map byteV)[j]? = some u → w.cell? ((⟨g, 0, none⟩ : Addr).add j) = some u := World.ownsRow.cells ho (g := g) rfl
        have hr := run_append_grow (P := P) w T 0 U i _ (sliceOf_eq hT) hi hz ⟨g, 0, none⟩ bs.length cap (bs.map byteV) (by rw [hs]; simp) holds ad m c (l.map byteV) (by rw [hs]; simp [hm]) hnews (by omega) (by omega) (growslice_fits (by omega) (by rw [hby]; omega))
        have := h1 0
        rw [hr] at this
        injection this with e1 e2
        subst e1
        intro k hk
        simp only [Value.ownBlock, Option.some.injEq] at hk
        exact .inr (by omega)

theorem RL.apOOx {d T U x y B B' : Nat} {sv sy : Value} {bs l : List UInt8} (hT : sliceOf P T U = true) (hU : u8Ty P U = true) (hx : ρ x = sv) (hy : ρ y = sy) (ho : OwnB U w B sv bs) (hoy : OwnB U w B' sy l) (hB : B ≤ w.heap.size) (hlim : bs.length + l.length ≤ lim)
    (h : ∀ sv' w', OwnB U w' B sv' (bs ++ l) → Below B w w' → w.grownBy w' sv.ownBlock → (∀ k, sv'.ownBlock = some k → sv.ownBlock = some k ∨ w.heap.size ≤ k) → RL P N ms Q (upd ρ d sv') w') (hxN : x < N := by decide) (hyN : y < N := by decide) (hd : d < N := by decide) : RL P N (.ap d T T x y :: ms) Q ρ w := by
  obtain ⟨ad, c, rfl, _, _, hb⟩ := hoy.bytes
  obtain ⟨sv', w', h1, h2, h3, h4, h5⟩ := run_apOwnX (c := c) hT hU ho rfl hb hB hlim
  exact RL.step (MR.apBy (by rw [hx, hy]; exact h1 0) (fun ty => by rw [hx, hy]; exact h1 ty) hxN hyN) (h sv' w' h2 h3 h4 h5) hd

theorem OwnB.ne {U B k T : Nat} {sv : Value} {bs : List UInt8} {cur : Array Value} (h : OwnB U w B sv bs) (hk : w.heap[k]? = some (.cells cur T (0, 0))) (hUT : U ≠ T) : sv.ownBlock ≠ some k := by
  rcases h.2 with ⟨rfl, _⟩ | ⟨g, cap, cur', rfl, hb, hh, _⟩
  · intro e; cases e
  · intro e
    simp only [Value.ownBlock, Option.some.injEq] at e
    subst e
    rw [hh] at hk
    simp only [Option.some.injEq, Obj.cells.injEq] at hk
    exact hUT hk.2.1

/-- What the tags' rows stand in is as it was. -/
def TgK (S : SN) (w w' : World) : Prop := ∀ (k : Nat) (cur : Array Value), w.heap[k]? = some (.cells cur S.tg (0, 0)) → w'.heap[k]? = some (.cells cur S.tg (0, 0))
theorem TgK.refl (w : World) : TgK S w w := fun _ _ h => h
theorem TgK.below {w w1 w2 : World} (h : TgK S w w1) (hb : Below w1.heap.size w1 w2) : TgK S w w2 := fun k cur hk => by
  have h1 := h k cur hk
  rw [hb.block k (Array.getElem?_eq_some_iff.1 h1).1]; exact h1
theorem TgK.grown {w w1 w2 : World} {B : Nat} {sv : Value} {bs : List UInt8} (h : TgK S w w1) (hn : S.T.u8 ≠ S.tg) (ho : OwnB S.T.u8 w1 B sv bs) (hg : w1.grownBy w2 sv.ownBlock) : TgK S w w2 := fun k cur hk => by
  have h1 := h k cur hk
  rw [hg.block k (Array.getElem?_eq_some_iff.1 h1).1 (fun e => ho.ne h1 hn e.symm)]; exact h1

theorem tg_ne (ok : SOK P S) : S.T.u8 ≠ S.tg := by
  intro e
  obtain ⟨i, hi, hs, _⟩ := u8Ty_info ok.tk.u8
  have := ok.tgN
  rw [← e] at this
  simp [cellsB, hi] at this
  omega

/-- Whether a field is as by default, as the program says it. -/
def UsualC (P : Program) (S : SN) (SU : List (Nat × List UInt8) → Prop) (fd : Fd) : Prop := entersB P S.fUsual = true ∧ ∀ (w : World) (cf ct : List Value) (t : Tr), RepFd w fd cf → RepTr w t ct → goodT SU t →
  Calls P S.fUsual #[.agg cf.toArray, .agg ct.toArray] w (fun e w' => e = .returned (.bool (sUsual fd t)) ∧ Below w.heap.size w w')

def kIn (S : SN) : MCode := .bl 4 (.lp (.sq (.rg [.bi 58 .lss S.T.int (.t 57) (.t 56)])
  (.sq (.cd 58 (.sk) (.ex 4))
  (.sq (.bl 5 (.sq (.rg [.mv 59 (.t 57), .ia 60 S.fds 55 57, .ld 61 S.fd 60, .al 16 S.fd, .mv 15 (.t 59), .st S.fd 16 61])
  (.sq (.gr true [⟨0, none, .fa 62 S.fd 16 4⟩, ⟨1, none, .ld 63 S.T.int 62⟩, ⟨2, none, .mv 64 (.t 14)⟩, ⟨3, none, .bi 65 .eql S.T.int (.t 63) (.t 64)⟩, ⟨4, none, .mv 66 (.t 65)⟩, ⟨5, some (4, 66, true), .ld 67 S.fd 16⟩, ⟨6, some (4, 66, true), .ld 68 S.tr 7⟩, ⟨7, some (4, 66, true), .mv 69 (.t 15)⟩, ⟨8, some (4, 66, true), .ca 70 S.fAt [.t 68, .t 69]⟩, ⟨9, some (4, 66, true), .ca 71 S.fUsual [.t 67, .t 70]⟩, ⟨10, some (4, 66, true), .nt 72 71⟩, ⟨11, none, .pk 73 (.t 66) (.t 72) (.c (.bool false))⟩])
  (.cd 73 (.sq (.gr true [⟨0, none, .ld 74 S.fd 16⟩, ⟨1, none, .mv 75 (.t 1)⟩, ⟨2, none, .mv 76 (.t 2)⟩, ⟨3, none, .ld 77 S.tr 7⟩, ⟨4, none, .mv 78 (.t 15)⟩, ⟨5, none, .ca 79 S.fAt [.t 77, .t 78]⟩, ⟨6, none, .ca 80 S.fField [.t 74, .t 75, .t 76, .t 79]⟩, ⟨7, none, .mv 17 (.t 80)⟩])
  (.sq (.rg [.mv 81 (.t 10), .mv 82 (.t 14), .cv 83 S.T.int S.T.u64 82, .ca 84 S.fUvar [.t 83], .ap 85 S.T.u8s S.T.u8s 81 84, .mv 86 (.t 17), .ln 87 S.T.u8s 86, .cv 88 S.T.int S.T.u64 87, .ca 89 S.fUvar [.t 88], .ap 90 S.T.u8s S.T.u8s 85 89, .mv 91 (.t 17), .ap 92 S.T.u8s S.T.u8s 90 91, .mv 10 (.t 92)])
  (.rg [.mv 93 (.t 11), .bi 94 .add S.T.int (.t 93) (.c (.int .i64 (1))), .mv 11 (.t 94)]))) (.sk)))))
  (.rg [.bi 95 .add S.T.int (.t 57) (.c (.int .i64 (1))), .mv 57 (.t 95)])))))
def kOut (S : SN) : MCode := .bl 2 (.lp (.sq (.rg [.bi 53 .lss S.T.int (.t 52) (.t 51)])
  (.sq (.cd 53 (.sk) (.ex 2))
  (.sq (.bl 3 (.sq (.rg [.mv 54 (.t 52), .mv 14 (.t 54)])
  (.sq (.rg [.mv 55 (.t 0), .ln 56 S.fds 55, .mv 57 (.c (.int .i64 (0)))])
  (kIn S))))
  (.rg [.bi 96 .add S.T.int (.t 52) (.c (.int .i64 (1))), .mv 52 (.t 96)])))))

theorem encK1_pos (x : Nat × List UInt8) : 1 ≤ (encK1 x).length := by
  unfold encK1 uv uvb
  simp only [List.length_append]
  split <;> simp <;> omega
theorem flatK_len (l : List (Nat × List UInt8)) : l.length ≤ (l.flatMap encK1).length := by
  induction l with
  | nil => simp
  | cons x xs ih =>
    have := encK1_pos x
    simp only [List.flatMap_cons, List.length_append, List.length_cons]
    omega

/-- What the slots hold while tags are told. -/
structure KS (S : SN) (fs : Fds) (ad : Option Addr) (c : Nat) (ver : Int) (bx : Nat) (sv : Value) (K : Nat) (ρ : Nat → Value) : Prop where
  s0 : ρ 0 = .slice ad fs.toList.length c
  s1 : ρ 1 = .int .i64 ver
  s2 : ρ 2 = .bool true
  s7 : ρ 7 = .pointer (some ⟨bx, 0, none⟩)
  s9 : ρ 9 = sv
  s51 : ρ 51 = .int .i64 (K : Nat)

set_option maxHeartbeats 2000000 in
theorem kIn_ok (sp : SPC P S SU) {fs : Fds} {ad : Option Addr} {c : Nat} {t : Tr} {ct : List Value} {ver : Int} {bx K g : Nat} {sv tv : Value} {dn0 : List (Nat × List UInt8)} {w3 : World} (hlen : fs.toList.length < 9223372036854775807) (hall : ∀ f ∈ fs.toList, FieldC P S SU f) (hus : ∀ f ∈ fs.toList, 0 ≤ f.tag → UsualC P S SU f)
    (hrows : RowsF w3 ad 0 fs) (hrep : RepTr w3 t ct) (hgood : goodT SU t) (r7 : w3.rangeAt bx 0 ct) (hbx : bx < w3.heap.size) (hg : g < 1000000) (hb : Below w3.heap.size w3 w) (ho : OwnB S.T.u8 w w3.heap.size tv (dn0.flatMap encK1)) (hlim : ((dn0 ++ kKn ver true g fs 0 t).flatMap encK1).length ≤ lim)
    (ks : KS S fs ad c ver bx sv K ρ) (h10 : ρ 10 = tv) (h11 : ρ 11 = .int .i64 (dn0.length : Nat)) (h14 : ρ 14 = .int .i64 (g : Nat)) (h52 : ρ 52 = .int .i64 (g : Nat)) (h55 : ρ 55 = .slice ad fs.toList.length c) (h56 : ρ 56 = .int .i64 (fs.toList.length : Nat)) (h57 : ρ 57 = .int .i64 0)
    (hQ : ∀ ρ' w' tv', KS S fs ad c ver bx sv K ρ' → ρ' 10 = tv' → ρ' 11 = .int .i64 ((dn0 ++ kKn ver true g fs 0 t).length : Nat) → ρ' 52 = .int .i64 (g : Nat) → OwnB S.T.u8 w' w3.heap.size tv' ((dn0 ++ kKn ver true g fs 0 t).flatMap encK1) → Below w3.heap.size w3 w' → Q .normal ρ' w') : RW P 132 (kIn S) Q ρ w := by
  have ok := sp.ok
  obtain ⟨ot1, tl1⟩ := hrep.one
  obtain ⟨s0, s1, s2, s7, s9, s51⟩ := ks
  have elim : lim = 1099511627776 := rfl
  refine RW.bl ?_
  refine RW.lp (fun ρ w' => ∃ (i : Nat) (rest : Fds) (tv : Value) (dn : List (Nat × List UInt8)), i + rest.toList.length = fs.toList.length ∧ RowsF w3 ad i rest ∧ (∀ f ∈ rest.toList, FieldC P S SU f) ∧ (∀ f ∈ rest.toList, 0 ≤ f.tag → UsualC P S SU f) ∧
      ρ 0 = .slice ad fs.toList.length c ∧ ρ 1 = .int .i64 ver ∧ ρ 2 = .bool true ∧ ρ 7 = .pointer (some ⟨bx, 0, none⟩) ∧ ρ 9 = sv ∧ ρ 51 = .int .i64 (K : Nat) ∧ ρ 10 = tv ∧ ρ 11 = .int .i64 (dn.length : Nat) ∧ ρ 14 = .int .i64 (g : Nat) ∧ ρ 52 = .int .i64 (g : Nat) ∧ ρ 55 = .slice ad fs.toList.length c ∧ ρ 56 = .int .i64 (fs.toList.length : Nat) ∧ ρ 57 = .int .i64 (i : Nat) ∧
      OwnB S.T.u8 w' w3.heap.size tv (dn.flatMap encK1) ∧ Below w3.heap.size w3 w' ∧ dn ++ kKn ver true g rest i t = dn0 ++ kKn ver true g fs 0 t)
    (fun ρ _ => fs.toList.length - (intOf (ρ 57)).toNat) ⟨0, fs, tv, dn0, by omega, hrows, hall, hus, s0, s1, s2, s7, s9, s51, h10, h11, h14, h52, h55, h56, h57, ho, hb, rfl⟩ ?_ (fun ρ ρ' w h => by rw [h 57 (by omega)])
  rintro ρ1 w4 ⟨i, rest, tv4, dn, hi, hr, hal, hul, z0, z1, z2, z7, z9, z51, z10, z11, z14, z52, z55, z56, z57, ho4, hb4, hdn⟩
  refine RW.knows [(0, .slice ad fs.toList.length c), (1, .int .i64 ver), (2, .bool true), (7, .pointer (some ⟨bx, 0, none⟩)), (9, sv), (51, .int .i64 (K : Nat)), (10, tv4), (11, .int .i64 (dn.length : Nat)), (14, .int .i64 (g : Nat)), (52, .int .i64 (g : Nat)), (55, .slice ad fs.toList.length c), (56, .int .i64 (fs.toList.length : Nat)), (57, .int .i64 (i : Nat))]
    (by simp [z0, z1, z2, z7, z9, z51, z10, z11, z14, z52, z55, z56, z57]) (RW.sq (RW.rg ?_))
  have hdl : dn.length < 9223372036854775000 := by
    have h1 := flatK_len dn
    have h2 : (dn.flatMap encK1).length ≤ ((dn0 ++ kKn ver true g fs 0 t).flatMap encK1).length := by rw [← hdn, List.flatMap_append, List.length_append]; omega
    omega
  cases rest with
  | nil =>
    simp only [Fds.toList, List.length_nil, Nat.add_zero] at hi
    have hdone : dn = dn0 ++ kKn ver true g fs 0 t := by rw [← hdn, kKn, List.append_nil]
    refine RL.step (MR.biB (p := (i : Int) < (fs.toList.length : Int)) rfl (decide_eq_false (by omega))) (RL.nil (RW.sq (RW.cd (b := false) rfl (fun e => by cases e) (fun _ => RW.ex ?_))))
    rw [hdone] at ho4
    refine hQ _ w4 tv4 ⟨rfl, rfl, rfl, rfl, rfl, rfl⟩ rfl ?_ rfl ho4 hb4
    show Value.int .i64 (dn.length : Nat) = _
    rw [hdone]
  | cons fd rest =>
    rw [fds_len] at hi
    unfold RowsF at hr
    obtain ⟨hrow, hr'⟩ := hr
    have hff : FieldC P S SU fd := hal fd (by simp [Fds.toList])
    rw [kKn] at hdn
    have next : ∀ (Qn : Exit → (Nat → Value) → World → Prop) (ρ : Nat → Value) (w5 : World) (tv' : Value) (dn' : List (Nat × List UInt8)), OwnB S.T.u8 w5 w3.heap.size tv' (dn'.flatMap encK1) → Below w3.heap.size w3 w5 → dn' ++ kKn ver true g rest (i + 1) t = dn0 ++ kKn ver true g fs 0 t →
        ρ 0 = .slice ad fs.toList.length c → ρ 1 = .int .i64 ver → ρ 2 = .bool true → ρ 7 = .pointer (some ⟨bx, 0, none⟩) → ρ 9 = sv → ρ 51 = .int .i64 (K : Nat) → ρ 10 = tv' → ρ 11 = .int .i64 (dn'.length : Nat) → ρ 14 = .int .i64 (g : Nat) → ρ 52 = .int .i64 (g : Nat) → ρ 55 = .slice ad fs.toList.length c → ρ 56 = .int .i64 (fs.toList.length : Nat) → ρ 57 = .int .i64 (i : Nat) →
        RW P 132 (.rg [.bi 95 .add S.T.int (.t 57) (.c (.int .i64 (1))), .mv 57 (.t 95)]) (thenR (fun ρ w' => (∃ (i : Nat) (rest : Fds) (tv : Value) (dn : List (Nat × List UInt8)), i + rest.toList.length = fs.toList.length ∧ RowsF w3 ad i rest ∧ (∀ f ∈ rest.toList, FieldC P S SU f) ∧ (∀ f ∈ rest.toList, 0 ≤ f.tag → UsualC P S SU f) ∧
          ρ 0 = .slice ad fs.toList.length c ∧ ρ 1 = .int .i64 ver ∧ ρ 2 = .bool true ∧ ρ 7 = .pointer (some ⟨bx, 0, none⟩) ∧ ρ 9 = sv ∧ ρ 51 = .int .i64 (K : Nat) ∧ ρ 10 = tv ∧ ρ 11 = .int .i64 (dn.length : Nat) ∧ ρ 14 = .int .i64 (g : Nat) ∧ ρ 52 = .int .i64 (g : Nat) ∧ ρ 55 = .slice ad fs.toList.length c ∧ ρ 56 = .int .i64 (fs.toList.length : Nat) ∧ ρ 57 = .int .i64 (i : Nat) ∧
          OwnB S.T.u8 w' w3.heap.size tv (dn.flatMap encK1) ∧ Below w3.heap.size w3 w' ∧ dn ++ kKn ver true g rest i t = dn0 ++ kKn ver true g fs 0 t) ∧ fs.toList.length - (intOf (ρ 57)).toNat < fs.toList.length - (intOf (ρ1 57)).toNat) Qn) ρ w5 := by
      intro Qn ρ w5 tv' dn' o5 b5 e5 q0 q1 q2 q7 q9 q51 q10 q11 q14 q52 q55 q56 q57
      refine RW.knows [(0, .slice ad fs.toList.length c), (1, .int .i64 ver), (2, .bool true), (7, .pointer (some ⟨bx, 0, none⟩)), (9, sv), (51, .int .i64 (K : Nat)), (10, tv'), (11, .int .i64 (dn'.length : Nat)), (14, .int .i64 (g : Nat)), (52, .int .i64 (g : Nat)), (55, .slice ad fs.toList.length c), (56, .int .i64 (fs.toList.length : Nat)), (57, .int .i64 (i : Nat))]
        (by simp [q0, q1, q2, q7, q9, q51, q10, q11, q14, q52, q55, q56, q57]) (RW.rg ?_)
      repeat first | refine RL.step MR.mv ?_ | refine RL.step (MR.biE rfl) ?_ | refine RL.step (MR.b2 rfl) ?_
      refine RL.nil ⟨⟨i + 1, rest, tv', dn', by omega, hr', fun f hf => hal f (by simp [Fds.toList, hf]), fun f hf => hul f (by simp [Fds.toList, hf]), rfl, rfl, rfl, rfl, rfl, rfl, rfl, rfl, rfl, rfl, rfl, rfl, ?_, o5, b5, e5⟩, ?_⟩
      · show Value.int .i64 (IntKind.i64.wrap ((i : Int) + 1)) = _
        rw [wrap_i64 (by omega) (by omega)]; rfl
      · show fs.toList.length - (IntKind.i64.wrap ((i : Int) + 1)).toNat < fs.toList.length - (intOf (ρ1 57)).toNat
        rw [z57, wrap_i64 (by omega) (by omega)]; simp only [intOf]; omega
    refine RL.step (MR.biB (p := (i : Int) < (fs.toList.length : Int)) rfl (decide_eq_true (by omega))) (RL.nil (RW.sq (RW.cd (b := true) rfl (fun _ => RW.sk ?_) (fun e => by cases e))))
    obtain ⟨g', o, cs0, g1, g2, g4⟩ := hrow
    refine RW.sq (RW.bl (RW.sq (RW.rg (RL.step MR.mv (RL.rowF2 (f := fd) (k := i) (n := fs.toList.length) (c := c) ok rfl rfl (by omega) ⟨g', o, cs0, g1, rangeAt_kp g2 hb4.kp, RepFd.kp hb4.kp _ g4⟩ (by omega) (by omega) (by omega) (by omega) ?_)))))
    intro p cs w5 hb5 hs5 hf5 hrg5
    obtain ⟨oc1, lc1⟩ := hf5.one
    have B5 : Below w3.heap.size w3 w5 := hb4.trans (hb5.mono hb4.size)
    have ho5 : OwnB S.T.u8 w5 w3.heap.size tv4 (dn.flatMap encK1) := ho4.keep hb5
    have f4 : w5.cell? ⟨w4.heap.size, 0 + 4, none⟩ = some (.int .i64 fd.tag) := by
      obtain ⟨sl, hcs, _⟩ := hf5.cells
      exact hrg5 4 (.int .i64 fd.tag) (by rw [hcs]; rfl)
    have hatlen : i < 9223372036854775808 := by omega
    have r75 : w5.rangeAt bx 0 ct := rangeAt_kp r7 B5.kp
    refine RL.nil (RW.sq (RW.gd ok.mo (Below w5.heap.size w5) (below_drew1 _ _) ?_))
    refine RG.q (fun _ _ => MR.fa rfl (ok.fdF 4 (by omega))) (RG.q (fun w' hS => MR.ld rfl ok.pInt (hS.kp _ _ f4)) (RG.q (fun _ _ => MR.mv (v := .int .i64 (g : Nat)) rfl) ?_))
    by_cases htg : fd.tag = (g : Int)
    · rw [decide_eq_true htg, Bool.true_and] at hdn
      have husf : UsualC P S SU fd := hul fd (by simp [Fds.toList]) (by omega)
      refine RG.q (fun _ _ => MR.biE (v := .bool true) (by show some (Value.bool (fd.tag == (g : Int))) = _; simp [htg])) (RG.q (fun _ _ => MR.mv (v := .bool true) rfl) ?_)
      refine RG.q (fun w' hS => MR.ldRow (cs := cs) (b := w4.heap.size) (o := 0) rfl ok.fdR (by rw [lc1]; exact ok.fdN) (rangeAt_kp hrg5 hS.kp)) (RG.q (fun w' hS => MR.ldRow (cs := ct) (b := bx) (o := 0) rfl ok.trR (by rw [tl1]; exact ok.trN) (rangeAt_kp r75 hS.kp)) (RG.q (fun _ _ => MR.mv (v := .int .i64 (i : Nat)) rfl) ?_))
      refine RG.ca (R := fun v w' => ∃ cs', v = .agg cs'.toArray ∧ RepTr w' (t.l.getD i .zero) cs' ∧ Below w5.heap.size w5 w') sp.at_.1 (fun hS => ?_) ?_
      · refine Calls.mono (sp.at_.2 (World.drew1 w5) t ct i (RepTr.kp (B5.kp.trans (drew1_kp w5)) _ hrep) hatlen) ?_
        rintro e w' ⟨cs', rfl, h1, h2⟩
        have := hS.trans (h2.mono hS.size)
        exact ⟨_, rfl, ⟨cs', rfl, h1, this⟩, this⟩
      rintro v w6 ⟨cs', rfl, hrt6, hb6⟩
      refine RG.ca (R := fun v w' => v = .bool (sUsual fd (t.l.getD i .zero)) ∧ Below w5.heap.size w5 w') husf.1 (fun hS => ?_) ?_
      · refine Calls.mono (husf.2 w6 cs cs' (t.l.getD i .zero) (RepFd.kp hb6.kp _ hf5) hrt6 (hgood.at sp.su0 i)) ?_
        rintro e w' ⟨rfl, h2⟩
        have := hS.trans (h2.mono hS.size)
        exact ⟨_, rfl, ⟨rfl, this⟩, this⟩
      rintro v w7 ⟨rfl, hb7⟩
      have B7 : Below w3.heap.size w3 w7 := B5.trans (hb7.mono B5.size)
      have ho7 : OwnB S.T.u8 w7 w3.heap.size tv4 (dn.flatMap encK1) := ho5.keep hb7
      refine RG.q (v := .bool (!sUsual fd (t.l.getD i .zero))) (fun _ _ => MR.nt rfl) (RG.q (v := .bool (!sUsual fd (t.l.getD i .zero))) (fun _ _ => MR.pk (b := true) rfl) (RG.nil fun _ => ?_))
      cases husu : sUsual fd (t.l.getD i .zero)
      · -- the tag is told
        rw [husu] at hdn
        simp only [Bool.not_false, if_true] at hdn ⊢
        refine RW.cd (b := true) rfl (fun _ => ?_) (fun e => by cases e)
        have hdn2 : (dn ++ [(g, kField ver true fd (t.l.getD i .zero))]) ++ kKn ver true g rest (i + 1) t = dn0 ++ kKn ver true g fs 0 t := by rw [← hdn]; simp
        have hll : (dn.flatMap encK1).length + ((uv g).length + (uv (kField ver true fd (t.l.getD i .zero)).length).length + (kField ver true fd (t.l.getD i .zero)).length) ≤ lim := by
          have h1 : ((dn ++ [(g, kField ver true fd (t.l.getD i .zero))]).flatMap encK1).length ≤ ((dn0 ++ kKn ver true g fs 0 t).flatMap encK1).length := by rw [← hdn2]; simp only [List.flatMap_append, List.length_append]; omega
          rw [List.flatMap_append, List.length_append] at h1
          simp only [List.flatMap_cons, List.flatMap_nil, List.append_nil, encK1, List.length_append] at h1
          omega
        have r77 : w7.rangeAt bx 0 ct := rangeAt_kp r75 hb7.kp
        have rg7 : w7.rangeAt w4.heap.size 0 cs := rangeAt_kp hrg5 hb7.kp
        refine RW.sq (RW.gd ok.mo (Below w7.heap.size w7) (below_drew1 _ _) ?_)
        refine RG.q (fun w' hS => MR.ldRow (cs := cs) (b := w4.heap.size) (o := 0) rfl ok.fdR (by rw [lc1]; exact ok.fdN) (rangeAt_kp rg7 hS.kp)) (RG.q (fun _ _ => MR.mv (v := .int .i64 ver) rfl) (RG.q (fun _ _ => MR.mv (v := .bool true) rfl) (RG.q (fun w' hS => MR.ldRow (cs := ct) (b := bx) (o := 0) rfl ok.trR (by rw [tl1]; exact ok.trN) (rangeAt_kp r77 hS.kp)) (RG.q (fun _ _ => MR.mv (v := .int .i64 (i : Nat)) rfl) ?_))))
        refine RG.ca (R := fun v w' => ∃ cs', v = .agg cs'.toArray ∧ RepTr w' (t.l.getD i .zero) cs' ∧ Below w7.heap.size w7 w') sp.at_.1 (fun hS => ?_) ?_
        · refine Calls.mono (sp.at_.2 (World.drew1 w7) t ct i (RepTr.kp (B7.kp.trans (drew1_kp w7)) _ hrep) hatlen) ?_
          rintro e w' ⟨cs', rfl, h1, h2⟩
          have := hS.trans (h2.mono hS.size)
          exact ⟨_, rfl, ⟨cs', rfl, h1, this⟩, this⟩
        rintro v w8 ⟨cs8, rfl, hrt8, hb8⟩
        refine RG.caB sp.field.ent (hff w8 cs cs8 (t.l.getD i .zero) ver true (RepFd.kp (hb7.kp.trans hb8.kp) _ hf5) hrt8 (hgood.at sp.su0 i) (by omega)) rfl (fun w' h' hS => hS.trans (h'.mono hS.size)) fun svb w9 ob hb9 => ?_
        refine RG.q (fun _ _ => MR.mv) (RG.nil fun hS9 => ?_)
        have B9 : Below w3.heap.size w3 w9 := B7.trans (hS9.mono B7.size)
        have ho9 : OwnB S.T.u8 w9 w3.heap.size tv4 (dn.flatMap encK1) := ho7.keep hS9
        generalize hbb : kField ver true fd (t.l.getD i .zero) = bb at *
        have hlt8 : w3.heap.size ≤ w8.heap.size := Nat.le_trans B7.size hb8.size
        have hne : ∀ {wx : World} {tx : Value} {l : List UInt8}, OwnB S.T.u8 wx w8.heap.size svb bb → OwnB S.T.u8 w7 w3.heap.size tx l → svb.ownBlock = none ∨ svb.ownBlock ≠ tx.ownBlock := by
          intro wx tx l h1 h2
          cases hsv : svb.ownBlock with
          | none => exact .inl rfl
          | some k' =>
            refine .inr fun e => ?_
            have e1 := (World.ownsRow.lt h1 _ hsv).1
            have e2 := (World.ownsRow.lt h2 _ e.symm).2
            have := hb8.size
            omega
        refine RW.sq (RW.rg (RL.step (MR.mv (v := tv4) rfl) (RL.step (MR.mv (v := .int .i64 (g : Nat)) rfl) (RL.step (MR.cvI rfl ok.tk.int (ok.tk.u64 ok.hu64)) ?_))))
        refine RL.caB sp.uvar.1 (sp.uvar.2 w9 g (by omega)) (by show [Value.int .u64 (IntKind.u64.wrap (g : Int))] = _; rw [wrap_mod (.inr (.inr ⟨rfl, rfl⟩))]; congr 2; omega) fun s1 x1 p1 c1 => ?_
        have k1 : Below w3.heap.size w3 x1 := B9.trans (c1.mono B9.size)
        refine RL.apOOx (sv := tv4) (B := w3.heap.size) (bs := dn.flatMap encK1) (l := uv g) ok.tk.u8s ok.tk.u8 rfl rfl (ho9.keep c1) p1 k1.size (by omega) fun s2 x2 p2 c2 gr2 ox2 => ?_
        have k2 : Below w3.heap.size w3 x2 := k1.trans c2
        have ob2 : OwnB S.T.u8 x2 w8.heap.size svb bb := World.ownsRow.kept (OwnB.keep ob c1) gr2 (hne ob ho7)
        obtain ⟨adb, cb, hsvb, _, _, _⟩ := ob2.bytes
        refine RL.step (MR.mv (v := svb) rfl) ?_
        subst hsvb
        refine RL.step (MR.ln ok.tk.u8s (p := adb) (n := bb.length) (c := cb) rfl) (RL.step (MR.cvI rfl ok.tk.int (ok.tk.u64 ok.hu64)) ?_)
        refine RL.caB sp.uvar.1 (sp.uvar.2 x2 bb.length (by omega)) (by show [Value.int .u64 (IntKind.u64.wrap (bb.length : Int))] = _; rw [wrap_mod (.inr (.inr ⟨rfl, rfl⟩))]; congr 2; omega) fun s3 x3 p3 c3 => ?_
        have k3 : Below w3.heap.size w3 x3 := k2.trans (c3.mono k2.size)
        refine RL.apOOg (sv := s2) (B := w3.heap.size) (bs := dn.flatMap encK1 ++ uv g) (l := uv bb.length) ok.tk.u8s ok.tk.u8 rfl rfl (p2.keep c3) p3 k3.size (by simp only [List.length_append]; omega) fun s4 x4 p4 c4 gr4 => ?_
        have k4 : Below w3.heap.size w3 x4 := k3.trans c4
        have hne4 : Value.ownBlock (.slice adb bb.length cb) = none ∨ Value.ownBlock (.slice adb bb.length cb) ≠ s2.ownBlock := by
          cases hsv : Value.ownBlock (.slice adb bb.length cb) with
          | none => exact .inl rfl
          | some k' =>
            refine .inr fun e => ?_
            rcases ox2 k' e.symm with h | h
            · rcases hne ob ho7 with h0 | h0
              · rw [hsv] at h0; cases h0
              · exact h0 (by rw [hsv, h])
            · have := (World.ownsRow.lt (OwnB.keep ob c1) _ hsv).2
              omega
        have ob4 : OwnB S.T.u8 x4 w8.heap.size (.slice adb bb.length cb) bb := World.ownsRow.kept (OwnB.keep ob2 c3) gr4 hne4
        refine RL.step (MR.mv (v := .slice adb bb.length cb) rfl) ?_
        refine RL.apOO (B := w3.heap.size) (bs := dn.flatMap encK1 ++ uv g ++ uv bb.length) (l := bb) ok.tk.u8s ok.tk.u8 rfl rfl p4 ob4 k4.size (by simp only [List.length_append]; omega) fun s5 x5 p5 c5 => ?_
        refine RL.step MR.mv (RL.nil (RW.rg (RL.step (MR.mv (v := .int .i64 (dn.length : Nat)) rfl) (RL.step (MR.biE (v := .int .i64 ((dn.length + 1 : Nat) : Int)) (by show some (Value.int .i64 (IntKind.i64.wrap ((dn.length : Int) + 1))) = _; rw [wrap_i64 (by omega) (by omega)]; rfl)) (RL.step MR.mv (RL.nil ?_))))))
        have p5' : OwnB S.T.u8 x5 w3.heap.size s5 ((dn ++ [(g, bb)]).flatMap encK1) := by
          have e : (dn ++ [(g, bb)]).flatMap encK1 = dn.flatMap encK1 ++ uv g ++ uv bb.length ++ bb := by simp [encK1]
          rw [e]; exact p5
        exact next _ _ x5 s5 (dn ++ [(g, bb)]) p5' (k4.trans c5) hdn2 rfl rfl rfl rfl rfl rfl rfl (by simp; rfl) rfl rfl rfl rfl rfl
      · rw [husu] at hdn
        simp only [Bool.not_true, Bool.false_eq_true, if_false, List.nil_append] at hdn ⊢
        refine RW.cd (b := false) rfl (fun e => by cases e) (fun _ => RW.sk ?_)
        exact next _ _ w7 tv4 dn ho7 B7 hdn rfl rfl rfl rfl rfl rfl rfl rfl rfl rfl rfl rfl rfl
    · rw [decide_eq_false htg, Bool.false_and] at hdn
      simp only [Bool.false_eq_true, if_false, List.nil_append] at hdn
      refine RG.q (fun _ _ => MR.biE (v := .bool false) (by show some (Value.bool (fd.tag == (g : Int))) = _; simp [htg])) (RG.q (fun _ _ => MR.mv (v := .bool false) rfl) ?_)
      refine RG.no (d := 67) (by exact ⟨by decide, .inl rfl⟩) (RG.no (d := 68) (by exact ⟨by decide, .inl rfl⟩) (RG.no (d := 69) (by exact ⟨by decide, .inl rfl⟩) (RG.no (d := 70) (by exact ⟨by decide, .inl rfl⟩) (RG.no (d := 71) (by exact ⟨by decide, .inl rfl⟩) (RG.no (d := 72) (by exact ⟨by decide, .inl rfl⟩)
        (RG.q (fun _ _ => MR.pk (b := false) (v := .bool false) rfl) (RG.nil fun hS => ?_)))))))
      refine RW.cd (b := false) rfl (fun e => by cases e) (fun _ => RW.sk ?_)
      exact next _ _ _ tv4 dn (ho5.keep hS) (B5.trans (hS.mono B5.size)) hdn rfl rfl rfl rfl rfl rfl rfl rfl rfl rfl rfl rfl rfl

theorem known_le {fs : Fds} (h : ∀ f ∈ fs.toList, f.tag < 1000000) : sKnown fs ≤ 1000000 := by
  unfold sKnown
  generalize fs.toList = l at h
  have : ∀ (l : List Fd) (n : Nat), (∀ f ∈ l, f.tag < 1000000) → n ≤ 1000000 → l.foldl (fun n f => if 0 ≤ f.tag then max n (f.tag.toNat + 1) else n) n ≤ 1000000 := by
    intro l
    induction l with
    | nil => intro n _ h; exact h
    | cons x xs ih =>
      intro n hl hn
      have hx := hl x List.mem_cons_self
      rw [List.foldl_cons]
      refine ih _ (fun f hf => hl f (List.mem_cons_of_mem _ hf)) ?_
      split <;> omega
  exact this l 0 h (by omega)

theorem kOut_ok (sp : SPC P S SU) {fs : Fds} {ad : Option Addr} {c : Nat} {t : Tr} {ct : List Value} {ver : Int} {bx : Nat} {sv : Value} {w3 : World} (hlen : fs.toList.length < 9223372036854775807) (htag : ∀ f ∈ fs.toList, f.tag < 1000000) (hall : ∀ f ∈ fs.toList, FieldC P S SU f) (hus : ∀ f ∈ fs.toList, 0 ≤ f.tag → UsualC P S SU f)
    (hrows : RowsF w3 ad 0 fs) (hrep : RepTr w3 t ct) (hgood : goodT SU t) (r7 : w3.rangeAt bx 0 ct) (hbx : bx < w3.heap.size) (hlim : ((kKns ver true fs t).flatMap encK1).length ≤ lim)
    (ks : KS S fs ad c ver bx sv (sKnown fs) ρ) (h10 : ρ 10 = .slice none 0 0) (h11 : ρ 11 = .int .i64 0) (h52 : ρ 52 = .int .i64 0)
    (hQ : ∀ ρ' w' tv', KS S fs ad c ver bx sv (sKnown fs) ρ' → ρ' 10 = tv' → ρ' 11 = .int .i64 ((kKns ver true fs t).length : Nat) → OwnB S.T.u8 w' w3.heap.size tv' ((kKns ver true fs t).flatMap encK1) → Below w3.heap.size w3 w' → Q .normal ρ' w') : RW P 132 (kOut S) Q ρ w3 := by
  have ok := sp.ok
  have hK := known_le htag
  refine RW.bl ?_
  refine RW.lp (fun ρ w' => ∃ (g : Nat) (tv : Value) (dn : List (Nat × List UInt8)), g ≤ sKnown fs ∧ KS S fs ad c ver bx sv (sKnown fs) ρ ∧ ρ 10 = tv ∧ ρ 11 = .int .i64 (dn.length : Nat) ∧ ρ 52 = .int .i64 (g : Nat) ∧
      OwnB S.T.u8 w' w3.heap.size tv (dn.flatMap encK1) ∧ Below w3.heap.size w3 w' ∧ dn ++ ((List.range (sKnown fs)).drop g).flatMap (fun g => kKn ver true g fs 0 t) = kKns ver true fs t)
    (fun ρ _ => sKnown fs - (intOf (ρ 52)).toNat) ⟨0, .slice none 0 0, [], by omega, ks, h10, h11, h52, OwnB.nil _ _ _, Below.refl _ _, rfl⟩ ?_ (fun ρ ρ' w h => by rw [h 52 (by omega)])
  rintro ρ1 w4 ⟨g, tv, dn, hg, ⟨z0, z1, z2, z7, z9, z51⟩, z10, z11, z52, ho, hb, hdn⟩
  refine RW.knows [(0, .slice ad fs.toList.length c), (1, .int .i64 ver), (2, .bool true), (7, .pointer (some ⟨bx, 0, none⟩)), (9, sv), (51, .int .i64 (sKnown fs : Nat)), (10, tv), (11, .int .i64 (dn.length : Nat)), (52, .int .i64 (g : Nat))]
    (by simp [z0, z1, z2, z7, z9, z51, z10, z11, z52]) (RW.sq (RW.rg ?_))
  by_cases hlt : g < sKnown fs
  · refine RL.step (MR.biB (p := (g : Int) < ((sKnown fs : Nat) : Int)) rfl (decide_eq_true (by omega))) (RL.nil (RW.sq (RW.cd (b := true) rfl (fun _ => RW.sk ?_) (fun e => by cases e))))
    have hdrop : (List.range (sKnown fs)).drop g = g :: (List.range (sKnown fs)).drop (g + 1) := by
      rw [List.drop_eq_getElem_cons (by rw [List.length_range]; exact hlt), List.getElem_range]
    rw [hdrop, List.flatMap_cons, ← List.append_assoc] at hdn
    refine RW.sq (RW.bl (RW.sq (RW.rg (RL.step (MR.mv (v := .int .i64 (g : Nat)) rfl) (RL.step MR.mv (RL.nil (RW.sq (RW.rg (RL.step (MR.mv (v := .slice ad fs.toList.length c) rfl) (RL.step (MR.ln ok.fds (p := ad) (n := fs.toList.length) (c := c) rfl) (RL.step (MR.mv (v := .int .i64 0) rfl) (RL.nil ?_))))))))))))
    refine kIn_ok (w3 := w3) (K := sKnown fs) (sv := sv) (tv := tv) (dn0 := dn) sp hlen hall hus hrows hrep hgood r7 hbx (by omega) hb ho ?_ ⟨rfl, rfl, rfl, rfl, rfl, rfl⟩ rfl rfl rfl rfl rfl rfl rfl ?_
    · have h1 : ((dn ++ kKn ver true g fs 0 t).flatMap encK1).length ≤ ((kKns ver true fs t).flatMap encK1).length := by rw [← hdn]; simp only [List.flatMap_append, List.length_append]; omega
      omega
    · intro ρ2 w5 tv' ks' q10 q11 q52 o5 b5
      show RW P 132 _ _ ρ2 w5
      obtain ⟨q0, q1, q2, q7, q9, q51⟩ := ks'
      refine RW.knows [(0, .slice ad fs.toList.length c), (1, .int .i64 ver), (2, .bool true), (7, .pointer (some ⟨bx, 0, none⟩)), (9, sv), (51, .int .i64 (sKnown fs : Nat)), (10, tv'), (11, .int .i64 ((dn ++ kKn ver true g fs 0 t).length : Nat)), (52, .int .i64 (g : Nat))]
        (by simp [q0, q1, q2, q7, q9, q51, q10, q11, q52]) (RW.rg ?_)
      refine RL.step (MR.biE (v := .int .i64 ((g + 1 : Nat) : Int)) (by show some (Value.int .i64 (IntKind.i64.wrap ((g : Int) + 1))) = _; rw [wrap_i64 (by omega) (by omega)]; rfl)) (RL.step MR.mv (RL.nil ?_))
      refine ⟨⟨g + 1, tv', dn ++ kKn ver true g fs 0 t, hlt, ⟨rfl, rfl, rfl, rfl, rfl, rfl⟩, rfl, rfl, rfl, o5, b5, hdn⟩, ?_⟩
      show sKnown fs - ((g + 1 : Nat) : Int).toNat < sKnown fs - (intOf (ρ1 52)).toNat
      rw [z52]; simp only [intOf]; omega
  · refine RL.step (MR.biB (p := (g : Int) < ((sKnown fs : Nat) : Int)) rfl (decide_eq_false (by omega))) (RL.nil (RW.sq (RW.cd (b := false) rfl (fun e => by cases e) (fun _ => RW.ex ?_))))
    have hdone : dn = kKns ver true fs t := by
      rw [List.drop_eq_nil_of_le (by rw [List.length_range]; omega), List.flatMap_nil, List.append_nil] at hdn
      exact hdn
    subst hdone
    exact hQ _ w4 tv ⟨rfl, rfl, rfl, rfl, rfl, rfl⟩ rfl rfl ho hb

set_option maxHeartbeats 2000000 in
theorem part_of (sp : SPC P S SU) {fs : Fds} (hlen : fs.toList.length < 9223372036854775807) (htag : ∀ f ∈ fs.toList, f.tag < 1000000) (hall : ∀ f ∈ fs.toList, FieldC P S SU f) (hus : ∀ f ∈ fs.toList, 0 ≤ f.tag → UsualC P S SU f) : PartC P S SU fs := by
  intro w ad c t ct ver flex hrows hrep hgood hlim
  have ok := sp.ok
  have hrep0 := hrep
  obtain ⟨ot1, tl1⟩ := hrep.one
  obtain ⟨sS, sL, sU, hct, hn, _, _, hU⟩ := hrep.cells
  refine sp.part.runs (args := [.slice ad fs.toList.length c, .int .i64 ver, .bool flex, .agg ct.toArray]) (by simp) (by omega) ?_
  refine RW.sq (RW.rg (RL.bxA rfl (RL.step MR.mv (RL.nil ?_))))
  have r7 : (w.alloc (.cells ct.toArray S.tr)).rangeAt w.heap.size 0 ct := fun j v hj => cell_box w _ S.tr hj
  have hb := below_box w (.cells ct.toArray S.tr)
  have hs1 := size_box w (.cells ct.toArray S.tr)
  revert r7 hb hs1
  generalize w.alloc (.cells ct.toArray S.tr) = w1
  intro r7 hb hs1
  have hB : w.heap.size ≤ w1.heap.size := hb.size
  refine RW.sq (RW.rg ?_)
  repeat first | refine RL.step MR.mv ?_ | refine RL.step (MR.biE rfl) ?_ | refine RL.step (MR.b2 rfl) ?_
  refine RL.nil (RW.sq (RW.rg ?_))
  repeat first | refine RL.step MR.mv ?_ | refine RL.step (MR.biE rfl) ?_ | refine RL.step (MR.b2 rfl) ?_
  refine RL.nil (RW.sq (RW.sq (RW.rg ?_)))
  repeat first | refine RL.step MR.mv ?_ | refine RL.step (MR.biE rfl) ?_ | refine RL.step (MR.b2 rfl) ?_
  refine RL.step (MR.ln ok.fds (p := ad) (n := fs.toList.length) (c := c) rfl) ?_
  repeat first | refine RL.step MR.mv ?_ | refine RL.step (MR.biE rfl) ?_ | refine RL.step (MR.b2 rfl) ?_
  refine RL.nil (RW.bl ?_)
  -- the fields
  refine RW.lp (fun ρ w' => ∃ (i : Nat) (rest : Fds) (sv : Value) (bs : List UInt8), i + rest.toList.length = fs.toList.length ∧ RowsF w ad i rest ∧ (∀ f ∈ rest.toList, FieldC P S SU f) ∧
      ρ 0 = .slice ad fs.toList.length c ∧ ρ 1 = .int .i64 ver ∧ ρ 2 = .bool flex ∧ ρ 7 = .pointer (some ⟨w.heap.size, 0, none⟩) ∧ ρ 9 = sv ∧ ρ 10 = .slice none 0 0 ∧ ρ 11 = .int .i64 0 ∧ ρ 21 = .slice ad fs.toList.length c ∧ ρ 22 = .int .i64 (fs.toList.length : Nat) ∧ ρ 23 = .int .i64 (i : Nat) ∧
      OwnB S.T.u8 w' w1.heap.size sv bs ∧ Below w1.heap.size w1 w' ∧ bs ++ kPlain ver flex rest i t = kPlain ver flex fs 0 t)
    (fun ρ _ => fs.toList.length - (intOf (ρ 23)).toNat) ⟨0, fs, .slice none 0 0, [], by omega, hrows, hall, rfl, rfl, rfl, rfl, rfl, rfl, rfl, rfl, rfl, rfl, OwnB.nil _ _ _, Below.refl _ _, rfl⟩ ?_ (fun ρ ρ' w h => by rw [h 23 (by omega)])
  rintro ρ1 w2 ⟨i, rest, sv, bs, hi, hr, hal, h0, h1, h2, h7, h9, h10, h11, h21, h22, h23, ho, hb2, hbs⟩
  have hbw2 : Below w.heap.size w w2 := hb.trans (hb2.mono hB)
  refine RW.knows [(0, .slice ad fs.toList.length c), (1, .int .i64 ver), (2, .bool flex), (7, .pointer (some ⟨w.heap.size, 0, none⟩)), (9, sv), (10, .slice none 0 0), (11, .int .i64 0), (21, .slice ad fs.toList.length c), (22, .int .i64 (fs.toList.length : Nat)), (23, .int .i64 (i : Nat))]
    (by simp [h0, h1, h2, h7, h9, h10, h11, h21, h22, h23]) (RW.sq (RW.rg ?_))
  have hsl : (kPart ver flex fs t).length = (kPlain ver flex fs 0 t).length + (kTags ver flex fs t).length := by simp [kPart]
  cases rest with
  | cons fd rest =>
    rw [fds_len] at hi
    unfold RowsF at hr
    obtain ⟨hrow, hr'⟩ := hr
    have hff : FieldC P S SU fd := hal fd (by simp [Fds.toList])
    refine RL.step (MR.biB (p := (i : Int) < (fs.toList.length : Int)) rfl (decide_eq_true (by omega))) (RL.nil (RW.sq (RW.cd (b := true) rfl (fun _ => RW.sk ?_) (fun e => by cases e))))
    obtain ⟨g, o, cs0, g1, g2, g4⟩ := hrow
    refine RW.sq (RW.bl (RW.sq (RW.rg (RL.step MR.mv (RL.rowF2 (f := fd) (k := i) (n := fs.toList.length) (c := c) ok rfl rfl (by omega) ⟨g, o, cs0, g1, rangeAt_kp g2 hbw2.kp, RepFd.kp hbw2.kp _ g4⟩ (by omega) (by omega) (by omega) (by omega) ?_)))))
    intro p cs w3 hb3 hs3 hf3 hrg3
    obtain ⟨oc1, lc1⟩ := hf3.one
    have hb23 : Below w1.heap.size w1 w3 := hb2.trans (hb3.mono hb2.size)
    have f4 : w3.cell? ⟨w2.heap.size, 0 + 4, none⟩ = some (.int .i64 fd.tag) := by
      obtain ⟨sl, hcs, _⟩ := hf3.cells
      exact hrg3 4 (.int .i64 fd.tag) (by rw [hcs]; rfl)
    have step : kPlain ver flex (.cons fd rest) i t = (if decide (fd.tag < 0) && sHas fd.fr fd.to ver then kField ver flex fd (t.l.getD i .zero) else []) ++ kPlain ver flex rest (i + 1) t := by rw [kPlain]
    rw [step, ← List.append_assoc] at hbs
    have next : ∀ (Qn : Exit → (Nat → Value) → World → Prop) (ρ : Nat → Value) (w5 : World) (sv' : Value) (bs' : List UInt8), OwnB S.T.u8 w5 w1.heap.size sv' bs' → Below w1.heap.size w1 w5 → bs' ++ kPlain ver flex rest (i + 1) t = kPlain ver flex fs 0 t →
        ρ 0 = .slice ad fs.toList.length c → ρ 1 = .int .i64 ver → ρ 2 = .bool flex → ρ 7 = .pointer (some ⟨w.heap.size, 0, none⟩) → ρ 9 = sv' → ρ 10 = .slice none 0 0 → ρ 11 = .int .i64 0 → ρ 21 = .slice ad fs.toList.length c → ρ 22 = .int .i64 (fs.toList.length : Nat) → ρ 23 = .int .i64 (i : Nat) →
        RW P 132 (.rg [.bi 45 .add S.T.int (.t 23) (.c (.int .i64 (1))), .mv 23 (.t 45)]) (thenR (fun ρ' w' => (∃ (i : Nat) (rest : Fds) (sv : Value) (bs : List UInt8), i + rest.toList.length = fs.toList.length ∧ RowsF w ad i rest ∧ (∀ f ∈ rest.toList, FieldC P S SU f) ∧
          ρ' 0 = .slice ad fs.toList.length c ∧ ρ' 1 = .int .i64 ver ∧ ρ' 2 = .bool flex ∧ ρ' 7 = .pointer (some ⟨w.heap.size, 0, none⟩) ∧ ρ' 9 = sv ∧ ρ' 10 = .slice none 0 0 ∧ ρ' 11 = .int .i64 0 ∧ ρ' 21 = .slice ad fs.toList.length c ∧ ρ' 22 = .int .i64 (fs.toList.length : Nat) ∧ ρ' 23 = .int .i64 (i : Nat) ∧
          OwnB S.T.u8 w' w1.heap.size sv bs ∧ Below w1.heap.size w1 w' ∧ bs ++ kPlain ver flex rest i t = kPlain ver flex fs 0 t) ∧ fs.toList.length - (intOf (ρ' 23)).toNat < fs.toList.length - (intOf (ρ1 23)).toNat) Qn) ρ w5 := by
      intro Qn ρ w5 sv' bs' o5 b5 e5 q0 q1 q2 q7 q9 q10 q11 q21 q22 q23
      refine RW.knows [(0, .slice ad fs.toList.length c), (1, .int .i64 ver), (2, .bool flex), (7, .pointer (some ⟨w.heap.size, 0, none⟩)), (9, sv'), (10, .slice none 0 0), (11, .int .i64 0), (21, .slice ad fs.toList.length c), (22, .int .i64 (fs.toList.length : Nat)), (23, .int .i64 (i : Nat))]
        (by simp [q0, q1, q2, q7, q9, q10, q11, q21, q22, q23]) (RW.rg ?_)
      repeat first | refine RL.step MR.mv ?_ | refine RL.step (MR.biE rfl) ?_ | refine RL.step (MR.b2 rfl) ?_
      refine RL.nil ⟨⟨i + 1, rest, sv', bs', by omega, hr', fun f hf => hal f (by simp [Fds.toList, hf]), rfl, rfl, rfl, rfl, rfl, rfl, rfl, rfl, rfl, ?_, o5, b5, e5⟩, ?_⟩
      · show Value.int .i64 (IntKind.i64.wrap ((i : Int) + 1)) = _
        rw [wrap_i64 (by omega) (by omega)]; rfl
      · show fs.toList.length - (IntKind.i64.wrap ((i : Int) + 1)).toNat < fs.toList.length - (intOf (ρ1 23)).toNat
        rw [h23, wrap_i64 (by omega) (by omega)]; simp only [intOf]; omega
    refine RL.nil (RW.sq (RW.gf (Below w3.heap.size w3) (Below.refl _ _) ?_))
    refine RG.q (fun _ _ => MR.fa rfl (ok.fdF 4 (by omega))) (RG.q (fun w' hS => MR.ld rfl ok.pInt (hS.kp _ _ f4)) ?_)
    by_cases htf : fd.tag < 0
    case neg =>
      rw [decide_eq_false htf, Bool.false_and] at hbs
      refine RG.q (fun _ _ => MR.biB (p := fd.tag < 0) rfl (decide_eq_false htf)) (RG.q (fun _ _ => MR.mv (v := .bool false) rfl) ?_)
      refine RG.no (d := 32) (by exact ⟨by decide, .inl rfl⟩) (RG.no (d := 33) (by exact ⟨by decide, .inl rfl⟩) (RG.no (d := 34) (by exact ⟨by decide, .inl rfl⟩) (RG.q (fun _ _ => MR.pk (b := false) (v := .bool false) rfl) (RG.nil fun _ => ?_))))
      refine RW.cd (b := false) rfl (fun e => by cases e) (fun _ => RW.sk ?_)
      exact next _ _ w3 sv bs (ho.keep hb3) hb23 (by simpa using hbs) rfl rfl rfl rfl rfl rfl rfl rfl rfl rfl
    rw [decide_eq_true htf, Bool.true_and] at hbs
    refine RG.q (fun _ _ => MR.biB (p := fd.tag < 0) rfl (decide_eq_true htf)) ?_
    repeat first | refine RG.q (fun _ _ => MR.mv) ?_ | refine RG.q (fun _ _ => MR.biE rfl) ?_ | refine RG.q (fun _ _ => MR.pk rfl) ?_ | refine RG.no (by first | exact ⟨by decide, .inl rfl⟩ | exact ⟨by decide, .inr ⟨rfl, rfl⟩⟩) ?_
    refine RG.q (fun w' hS => MR.ldRow (cs := cs) rfl ok.fdR (by rw [lc1]; exact ok.fdN) (rangeAt_kp hrg3 hS.kp)) ?_
    repeat first | refine RG.q (fun _ _ => MR.mv) ?_ | refine RG.q (fun _ _ => MR.biE rfl) ?_ | refine RG.q (fun _ _ => MR.pk rfl) ?_ | refine RG.no (by first | exact ⟨by decide, .inl rfl⟩ | exact ⟨by decide, .inr ⟨rfl, rfl⟩⟩) ?_
    refine RG.ca (R := fun v w' => v = .bool (sHas fd.fr fd.to ver) ∧ Below w3.heap.size w3 w') sp.has.1 (fun hS => ?_) ?_
    · refine Calls.mono (sp.has.2 w3 fd cs ver hf3) ?_
      rintro e w' ⟨rfl, h⟩
      exact ⟨_, rfl, ⟨rfl, h⟩, h⟩
    rintro v w4 ⟨rfl, hb4⟩
    repeat first | refine RG.q (fun _ _ => MR.mv) ?_ | refine RG.q (fun _ _ => MR.biE rfl) ?_ | refine RG.q (fun _ _ => MR.pk rfl) ?_ | refine RG.no (by first | exact ⟨by decide, .inl rfl⟩ | exact ⟨by decide, .inr ⟨rfl, rfl⟩⟩) ?_
    have hlen2 := congrArg List.length hbs
    simp only [List.length_append] at hlen2
    have hb24 : Below w1.heap.size w1 w4 := hb23.trans (hb4.mono hb23.size)
    have ho4 : OwnB S.T.u8 w4 w1.heap.size sv bs := (ho.keep hb3).keep hb4
    refine RG.nil fun _ => ?_
    have hatlen : i < 9223372036854775808 := by omega
    cases hhas : sHas fd.fr fd.to ver
    · rw [hhas] at hbs
      refine RW.cd (b := false) rfl (fun e => by cases e) (fun _ => RW.sk ?_)
      exact next _ _ w4 sv bs ho4 hb24 (by simpa using hbs) rfl rfl rfl rfl rfl rfl rfl rfl rfl rfl
    · rw [hhas] at hbs hlen2
      simp only [if_true] at hbs hlen2
      refine RW.cd (b := true) rfl (fun _ => ?_) (fun e => by cases e)
      have hrg4 := rangeAt_kp hrg3 hb4.kp
      have r7' : w4.rangeAt w.heap.size 0 ct := rangeAt_kp r7 hb24.kp
      have hk4 : Kp w w4 := hb.kp.trans hb24.kp
      have hlt3 : w2.heap.size < w4.heap.size := by have := hb4.size; omega
      have hne3 : sv.ownBlock ≠ some w2.heap.size := fun e => by have := (World.ownsRow.lt ho _ e).2; omega
      have hne7 : sv.ownBlock ≠ some w.heap.size := fun e => by have := (World.ownsRow.lt ho _ e).1; omega
      refine RW.gd ok.mo (Ex sv.ownBlock (World.drew1 w4)) (Ex.refl _ _) ?_
      repeat first | refine RG.q (fun _ _ => MR.mv) ?_ | refine RG.q (fun _ _ => MR.biE rfl) ?_ | refine RG.q (fun _ _ => MR.pk rfl) ?_ | refine RG.no (by first | exact ⟨by decide, .inl rfl⟩ | exact ⟨by decide, .inr ⟨rfl, rfl⟩⟩) ?_
      refine RG.q (fun w' hS => MR.ldRow (cs := cs) rfl ok.fdR (by rw [lc1]; exact ok.fdN) (Ex.rangeAt hS (b := w2.heap.size) hrg4 hlt3 hne3)) ?_
      repeat first | refine RG.q (fun _ _ => MR.mv) ?_ | refine RG.q (fun _ _ => MR.biE rfl) ?_ | refine RG.q (fun _ _ => MR.pk rfl) ?_ | refine RG.no (by first | exact ⟨by decide, .inl rfl⟩ | exact ⟨by decide, .inr ⟨rfl, rfl⟩⟩) ?_
      refine RG.q (fun w' hS => MR.ldRow (cs := ct) rfl ok.trR (by rw [tl1]; exact ok.trN) (Ex.rangeAt hS (b := w.heap.size) r7' (by show w.heap.size < w4.heap.size; have := hb24.size; omega) hne7)) ?_
      repeat first | refine RG.q (fun _ _ => MR.mv) ?_ | refine RG.q (fun _ _ => MR.biE rfl) ?_ | refine RG.q (fun _ _ => MR.pk rfl) ?_ | refine RG.no (by first | exact ⟨by decide, .inl rfl⟩ | exact ⟨by decide, .inr ⟨rfl, rfl⟩⟩) ?_
      refine RG.ca (R := fun v w' => ∃ cs', v = .agg cs'.toArray ∧ RepTr w' (t.l.getD i .zero) cs' ∧ Below (World.drew1 w4).heap.size (World.drew1 w4) w') sp.at_.1 (fun hS => ?_) ?_
      · refine Calls.mono (sp.at_.2 (World.drew1 w4) t ct i (RepTr.kp (hk4.trans (drew1_kp w4)) _ hrep0) hatlen) ?_
        rintro e w' ⟨cs', rfl, h1, h2⟩
        exact ⟨_, rfl, ⟨cs', rfl, h1, h2⟩, hS.below h2⟩
      rintro v w5 ⟨cs', rfl, hrt5, hb5⟩
      have hb45 : Below w4.heap.size w4 w5 := (below_drew1 w4 _).trans hb5
      refine RG.caB sp.field.ent (hff w5 cs cs' (t.l.getD i .zero) ver flex (RepFd.kp (hb4.kp.trans hb45.kp) _ hf3) hrt5 (hgood.at sp.su0 i) (by omega)) rfl (fun w' h' hS => hS.below h') fun sv6 w6 o6 b6 => ?_
      have hb46 : Below w4.heap.size w4 w6 := hb45.trans (b6.mono hb45.size)
      have hb16 : Below w1.heap.size w1 w6 := hb24.trans (hb46.mono hb24.size)
      refine RG.apOO (B := w1.heap.size) (bs := bs) (l := kField ver flex fd (t.l.getD i .zero)) ok.tk.u8s ok.tk.u8 rfl rfl (ho4.keep hb46) o6 hb16.size (by omega) (fun w' _ hg hS => hS.grown hg) fun sv7 w7 o7 b7 => ?_
      repeat first | refine RG.q (fun _ _ => MR.mv) ?_ | refine RG.q (fun _ _ => MR.biE rfl) ?_ | refine RG.q (fun _ _ => MR.pk rfl) ?_ | refine RG.no (by first | exact ⟨by decide, .inl rfl⟩ | exact ⟨by decide, .inr ⟨rfl, rfl⟩⟩) ?_
      refine RG.nil fun _ => ?_
      exact next _ _ w7 sv7 _ o7 (hb16.trans b7) hbs rfl rfl rfl rfl rfl rfl rfl rfl rfl rfl
  | nil =>
    simp only [Fds.toList, List.length_nil, Nat.add_zero] at hi
    have hplain : bs = kPlain ver flex fs 0 t := by
      have : kPlain ver flex .nil i t = [] := rfl
      rw [this, List.append_nil] at hbs; exact hbs
    refine RL.step (MR.biB (p := (i : Int) < (fs.toList.length : Int)) rfl (decide_eq_false (by omega))) (RL.nil (RW.sq (RW.cd (b := false) rfl (fun e => by cases e) (fun _ => RW.ex ?_))))
    refine RW.sq (RW.sq (RW.rg (RL.step MR.mv (RL.step (MR.nt (b := flex) rfl) (RL.nil ?_)))))
    cases flex
    · refine RW.cd (b := true) rfl (fun _ => RW.sq (RW.rg ?_)) (fun e => by cases e)
      repeat first | refine RL.step MR.mv ?_ | refine RL.step (MR.biE rfl) ?_ | refine RL.step (MR.b2 rfl) ?_
      refine RL.nil (RW.rt ⟨sv, rfl, ?_, hbw2⟩)
      have : kPart ver false fs t = bs := by rw [hplain]; simp [kPart, kTags]
      rw [this]; exact ho.rebase hB
    refine RW.cd (b := false) rfl (fun e => by cases e) (fun _ => RW.sk ?_)
    -- the known tags
    have hKt : (kPart ver true fs t) = bs ++ (uv ((kKns ver true fs t).length + (sUnk (sKnown fs) t.u).length) ++ ((kKns ver true fs t).flatMap encK1 ++ (sUnk (sKnown fs) t.u).flatMap sTag)) := by rw [hplain]; simp [kPart, kTags, tagsOf]
    have hlimK : ((kKns ver true fs t).flatMap encK1).length ≤ lim := by rw [hKt] at hlim; simp only [List.length_append] at hlim; omega
    refine RW.sq (RW.sq (RW.rg (RL.step MR.mv (RL.ca (R := fun v w' => v = .int .u32 (sKnown fs : Nat) ∧ Below w2.heap.size w2 w') sp.known.1 ?_ ?_))))
    · refine Calls.mono (sp.known.2 w2 ad c fs (RowsF.kp hbw2.kp _ hrows) htag hlen) ?_
      rintro e w' ⟨rfl, h⟩
      exact ⟨_, rfl, rfl, h⟩
    rintro v w3 ⟨rfl, hb3⟩
    have hKle := known_le htag
    refine RL.step (MR.cvI rfl (ok.tk.u32 ok.hu32) ok.tk.int) ?_
    rw [wrap_i64 (show -9223372036854775808 ≤ ((sKnown fs : Nat) : Int) by omega) (by omega)]
    refine RL.step MR.mv (RL.nil ?_)
    have hb13 : Below w1.heap.size w1 w3 := hb2.trans (hb3.mono hb2.size)
    have hbw3 : Below w.heap.size w w3 := hb.trans (hb13.mono hB)
    have ho3 : OwnB S.T.u8 w3 w1.heap.size sv bs := ho.keep hb3
    refine kOut_ok (w3 := w3) (bx := w.heap.size) (sv := sv) (ct := ct) sp hlen htag hall hus (RowsF.kp hbw3.kp _ hrows) (RepTr.kp hbw3.kp _ hrep0) hgood (rangeAt_kp r7 hb13.kp) (by have := hb13.size; omega) hlimK ⟨rfl, rfl, rfl, rfl, rfl, rfl⟩ rfl rfl rfl ?_
    intro ρ2 w4 tv ks' q10 q11 o4 hb34
    obtain ⟨q0, q1, q2, q7, q9, q51⟩ := ks'
    show RW P 132 _ _ ρ2 w4
    refine RW.knows [(0, .slice ad fs.toList.length c), (7, .pointer (some ⟨w.heap.size, 0, none⟩)), (9, sv), (10, tv), (11, .int .i64 ((kKns ver true fs t).length : Nat))] (by simp [q0, q7, q9, q10, q11]) ?_
    -- the unknown ones
    have hb14 : Below w1.heap.size w1 w4 := hb13.trans (hb34.mono hb13.size)
    have hbw4 : Below w.heap.size w w4 := hb.trans (hb14.mono hB)
    have t4 : w4.cell? ⟨w.heap.size, 0 + 4, none⟩ = some sU := (hb14.kp) _ _ (r7 4 sU (by rw [hct]; rfl))
    have ho4 : OwnB S.T.u8 w4 w1.heap.size sv bs := ho3.keep hb34
    generalize hKN : kKns ver true fs t = KN at *
    refine RW.sq (RW.sq (RW.rg (RL.step MR.mv (RL.step (MR.fa rfl (ok.trF 4 (by omega))) (RL.step (MR.ld rfl ok.pTgs t4) (RL.ca (R := fun v w' => OutR S (TagRow w) w4 w' v (sUnk (sKnown fs) t.u) ∧ Below w4.heap.size w4 w') sp.unk.1 ?_ ?_))))))
    · refine Calls.mono (sp.unk.2 w w4 ad c fs sU t.u (RowsF.kp hbw4.kp _ hrows) htag hlen hbw4 hU hgood.u) ?_
      rintro e w' ⟨sv', rfl, h1, h2⟩
      exact ⟨_, rfl, h1, h2⟩
    rintro v w5 ⟨hout, hb5⟩
    generalize hu' : sUnk (sKnown fs) t.u = u at *
    obtain ⟨adT, cT, rfl, hrT⟩ : ∃ adT cT, v = .slice adT u.length cT ∧ ∀ k tk, u[k]? = some tk → ∃ g cs cur, adT = some ⟨g, 0, none⟩ ∧ w5.rangeAt g (k * 2) cs ∧ TagRow w cs tk ∧ w5.heap[g]? = some (.cells cur S.tg (0, 0)) := by
      rcases hout with ⟨rfl, rfl⟩ | ⟨g, cap, cur, rfl, e1, e2, _, _, _, _, e6⟩
      · exact ⟨none, 0, rfl, fun k tk h => by simp at h⟩
      · refine ⟨_, cap, rfl, fun k tk hk => ?_⟩
        obtain ⟨cs, a1, a2⟩ := e6 k tk hk
        exact ⟨g, cs, cur, rfl, a1, a2, e2⟩
    have hb35 : Below w3.heap.size w3 w5 := hb34.trans (hb5.mono hb34.size)
    have o5 : OwnB S.T.u8 w5 w3.heap.size tv (KN.flatMap encK1) := o4.keep hb5
    refine RL.step (MR.ln ok.tgs (p := adT) (n := u.length) (c := cT) rfl) ?_
    repeat first | refine RL.step MR.mv ?_ | refine RL.step (MR.biE rfl) ?_ | refine RL.step (MR.b2 rfl) ?_
    rw [hKt] at hlim ⊢
    simp only [List.length_append] at hlim
    refine RL.nil (RW.bl ?_)
    refine RW.lp (fun ρ w' => ∃ (k : Nat) (st : Value) (ts : List UInt8), k ≤ u.length ∧ ρ 9 = sv ∧ ρ 10 = st ∧ ρ 11 = .int .i64 ((KN.length + k : Nat) : Int) ∧ ρ 100 = .slice adT u.length cT ∧ ρ 101 = .int .i64 (u.length : Nat) ∧ ρ 102 = .int .i64 (k : Nat) ∧
        OwnB S.T.u8 w' w3.heap.size st ts ∧ Below w3.heap.size w3 w' ∧ TgK S w5 w' ∧ ts ++ (u.drop k).flatMap sTag = KN.flatMap encK1 ++ u.flatMap sTag)
      (fun ρ _ => u.length - (intOf (ρ 102)).toNat) ⟨0, tv, KN.flatMap encK1, by omega, rfl, rfl, rfl, rfl, rfl, rfl, o5, hb35, TgK.refl _, rfl⟩ ?_ (fun ρ ρ' w h => by rw [h 102 (by omega)])
    rintro ρ3 w6 ⟨k, st, ts, hk, z9, z10, z11, z100, z101, z102, hot, hb6, htk, hts⟩
    refine RW.knows [(9, sv), (10, st), (11, .int .i64 ((KN.length + k : Nat) : Int)), (100, .slice adT u.length cT), (101, .int .i64 (u.length : Nat)), (102, .int .i64 (k : Nat))] (by simp [z9, z10, z11, z100, z101, z102]) (RW.sq (RW.rg ?_))
    have elim : lim = 1099511627776 := rfl
    have hulen : u.length < 4611686018427387904 := by
      have h2 : ∀ (u : List (Nat × List UInt8)), u.length ≤ (u.flatMap sTag).length := by
        intro u
        induction u with
        | nil => simp
        | cons x xs ih =>
          simp only [List.flatMap_cons, List.length_append, List.length_cons]
          have : 1 ≤ (sTag x).length := by
            unfold sTag uv uvb
            simp only [List.length_append]
            split <;> simp <;> omega
          omega
      have := h2 u
      omega
    have hknlen : KN.length < 4611686018427387904 := by have := flatK_len KN; omega
    by_cases hlt : k < u.length
    · refine RL.step (MR.biB (p := (k : Int) < (u.length : Int)) rfl (decide_eq_true (by omega))) (RL.nil (RW.sq (RW.cd (b := true) rfl (fun _ => RW.sk ?_) (fun e => by cases e))))
      have hdrop : u.drop k = u[k] :: u.drop (k + 1) := List.drop_eq_getElem_cons hlt
      rw [hdrop, List.flatMap_cons, ← List.append_assoc] at hts
      have hlen2 := congrArg List.length hts
      simp only [List.length_append] at hlen2
      obtain ⟨g, cs0, cur, rfl, g2, g3, g4⟩ := hrT k _ (List.getElem?_eq_getElem hlt)
      have g5 : w6.rangeAt g (0 + k * 2) cs0 := by rw [Nat.zero_add]; exact fun j v hj => by rw [cell_of_heap (w := w5) (by rw [htk g cur g4, g4])]; exact g2 j v hj
      have Bw6 : Below w.heap.size w w6 := hbw3.trans (hb6.mono hbw3.size)
      refine RW.sq (RW.bl (RW.sq (RW.rg (RL.rowT (t := u[k]) (k := k) (n := u.length) (c := cT) ok rfl rfl hlt g5 (g3.kp Bw6.kp) (by omega) (by omega) ?_))))
      intro p w7 hb7 hs7 hrg7
      obtain ⟨hkey, adV, cV, rfl, hadV, hlV, hbV⟩ := g3
      have e0 := hrg7 0 _ rfl
      have e1 := hrg7 1 _ rfl
      have hb37 : Below w3.heap.size w3 w7 := hb6.trans (hb7.mono hb6.size)
      have tk7 : TgK S w5 w7 := htk.below hb7
      generalize hkeyv : u[k] = tk at *
      have htag : sTag tk = uv tk.1 ++ uv (tk.2.take most).length ++ tk.2.take most := rfl
      rw [htag] at hlen2 hts
      simp only [List.length_append] at hlen2
      refine RL.nil (RW.sq (RW.rg (RL.step (MR.fa rfl (ok.tgF 1 (by omega))) (RL.step (MR.ld rfl ok.pU8s e1) (RL.ca (R := fun v w' => v = .slice adV (min tk.2.length most) cV ∧ w' = w7) sp.whole.1 ?_ ?_)))))
      · refine Calls.mono (sp.whole.2 w7 adV tk.2.length cV hadV hlV) ?_
        rintro e w' ⟨rfl, rfl⟩
        exact ⟨_, rfl, rfl, rfl⟩
      rintro v w' ⟨rfl, rfl⟩
      repeat first | refine RL.step MR.mv ?_ | refine RL.step (MR.biE rfl) ?_ | refine RL.step (MR.b2 rfl) ?_
      refine RL.nil (RW.sq (RW.rg (RL.step MR.mv (RL.step (MR.fa rfl (ok.tgF 0 (by omega))) (RL.step (MR.ld rfl ok.pU32 e0) (RL.step (MR.cvI rfl (ok.tk.u32 ok.hu32) (ok.tk.u64 ok.hu64)) ?_))))))
      refine RL.caB sp.uvar.1 (sp.uvar.2 w' tk.1 (by omega)) (by show [Value.int .u64 (IntKind.u64.wrap (tk.1 : Int))] = _; rw [wrap_mod (.inr (.inr ⟨rfl, rfl⟩))]; congr 2; omega) fun s1 x1 p1 c1 => ?_
      have k1 : Below w3.heap.size w3 x1 := hb37.trans (c1.mono hb37.size)
      refine RL.apOOg (B := w3.heap.size) (bs := ts) (l := uv tk.1) ok.tk.u8s ok.tk.u8 rfl rfl ((hot.keep hb7).keep c1) p1 k1.size (by omega) fun s2 x2 p2 c2 gr2 => ?_
      have tk2 := (tk7.below c1).grown (tg_ne ok) ((hot.keep hb7).keep c1) gr2
      have k2 : Below w3.heap.size w3 x2 := k1.trans c2
      repeat first | refine RL.step MR.mv ?_ | refine RL.step (MR.biE rfl) ?_ | refine RL.step (MR.b2 rfl) ?_
      refine RL.step (MR.ln ok.tk.u8s (p := adV) (n := min tk.2.length most) (c := cV) rfl) (RL.step (MR.cvI rfl ok.tk.int (ok.tk.u64 ok.hu64)) ?_)
      refine RL.caB sp.uvar.1 (sp.uvar.2 x2 (tk.2.take most).length (by rw [← take_most_len]; unfold most; omega)) (by show [Value.int .u64 (IntKind.u64.wrap ((min tk.2.length most : Nat) : Int))] = _; rw [wrap_mod (.inr (.inr ⟨rfl, rfl⟩)), take_most_len]; congr 2; have : (tk.2.take most).length ≤ 32767 := List.length_take_le _ _; omega) fun s3 x3 p3 c3 => ?_
      have k3 : Below w3.heap.size w3 x3 := k2.trans (c3.mono k2.size)
      refine RL.apOOg (B := w3.heap.size) (bs := ts ++ uv tk.1) (l := uv (tk.2.take most).length) ok.tk.u8s ok.tk.u8 rfl rfl (p2.keep c3) p3 k3.size (by simp only [List.length_append]; omega) fun s4 x4 p4 c4 gr4 => ?_
      have tk4 := (tk2.below c3).grown (tg_ne ok) (p2.keep c3) gr4
      have k4 : Below w3.heap.size w3 x4 := k3.trans c4
      repeat first | refine RL.step MR.mv ?_ | refine RL.step (MR.biE rfl) ?_ | refine RL.step (MR.b2 rfl) ?_
      obtain ⟨s5, x5, a5, p5, c5, gr5⟩ := run_apOwn (P := P) (w := x4) (T := S.T.u8s) (U := S.T.u8) (c := cV) (B := w3.heap.size) (m := min tk.2.length most) (ad := adV) (l := tk.2.take most) ok.tk.u8s ok.tk.u8 p4 (take_most_len _) ((cutBytes hbV).kp (hbw3.trans (k4.mono hbw3.size)).kp) k4.size (by simp only [List.length_append]; omega)
      refine RL.step (MR.apBy (a5 0) a5) ?_
      repeat first | refine RL.step MR.mv ?_ | refine RL.step (MR.biE rfl) ?_ | refine RL.step (MR.b2 rfl) ?_
      refine RL.nil (RW.rg ?_)
      repeat first | refine RL.step MR.mv ?_ | refine RL.step (MR.biE rfl) ?_ | refine RL.step (MR.b2 rfl) ?_
      refine RL.nil (RW.rg ?_)
      repeat first | refine RL.step MR.mv ?_ | refine RL.step (MR.biE rfl) ?_ | refine RL.step (MR.b2 rfl) ?_
      refine RL.nil ⟨⟨k + 1, s5, _, hlt, rfl, rfl, ?_, rfl, rfl, ?_, p5, k4.trans c5, tk4.grown (tg_ne ok) p4 gr5, ?_⟩, ?_⟩
      · show Value.int .i64 (IntKind.i64.wrap (((KN.length + k : Nat) : Int) + 1)) = _
        rw [wrap_i64 (by omega) (by omega)]; rfl
      · show Value.int .i64 (IntKind.i64.wrap ((k : Int) + 1)) = _
        rw [wrap_i64 (by omega) (by omega)]; rfl
      · rw [← hts]; simp only [List.append_assoc]
      · show u.length - (IntKind.i64.wrap ((k : Int) + 1)).toNat < u.length - (intOf (ρ3 102)).toNat
        rw [z102, wrap_i64 (by omega) (by omega)]; simp only [intOf]; omega
    · refine RL.step (MR.biB (p := (k : Int) < (u.length : Int)) rfl (decide_eq_false (by omega))) (RL.nil (RW.sq (RW.cd (b := false) rfl (fun e => by cases e) (fun _ => RW.ex ?_))))
      have hts' : ts = KN.flatMap encK1 ++ u.flatMap sTag := by rw [List.drop_eq_nil_of_le (by omega), List.flatMap_nil, List.append_nil] at hts; exact hts
      have hk' : k = u.length := by omega
      subst hk'
      refine RW.sq (RW.rg ?_)
      repeat first | refine RL.step MR.mv ?_ | refine RL.step (MR.biE rfl) ?_ | refine RL.step (MR.b2 rfl) ?_
      refine RL.step (MR.cvI rfl ok.tk.int (ok.tk.u64 ok.hu64)) ?_
      refine RL.caB sp.uvar.1 (sp.uvar.2 w6 (KN.length + u.length) (by omega)) (by show [Value.int .u64 (IntKind.u64.wrap ((KN.length + u.length : Nat) : Int))] = _; rw [wrap_mod (.inr (.inr ⟨rfl, rfl⟩))]; congr 2; omega) fun s1 x1 p1 c1 => ?_
      have k0 : Below w1.heap.size w1 w6 := hb13.trans (hb6.mono hb13.size)
      have k1 : Below w1.heap.size w1 x1 := k0.trans (c1.mono k0.size)
      refine RL.apOOg (B := w1.heap.size) (bs := bs) (l := uv (KN.length + u.length)) ok.tk.u8s ok.tk.u8 rfl rfl ((ho3.keep hb6).keep c1) p1 k1.size (by omega) fun s2 x2 p2 c2 g2 => ?_
      have k2 : Below w1.heap.size w1 x2 := k1.trans c2
      repeat first | refine RL.step MR.mv ?_ | refine RL.step (MR.biE rfl) ?_ | refine RL.step (MR.b2 rfl) ?_
      have hsne : OwnB S.T.u8 x2 w3.heap.size st ts := by
        refine World.ownsRow.kept (hot.keep c1) g2 ?_
        cases hso : st.ownBlock with
        | none => exact .inl rfl
        | some k' =>
          refine .inr fun e => ?_
          have h1 := (World.ownsRow.lt hot _ hso).1
          have h2 := (World.ownsRow.lt ho3 _ e.symm).2
          omega
      refine RL.apOO (B := w1.heap.size) (bs := bs ++ uv (KN.length + u.length)) (l := ts) ok.tk.u8s ok.tk.u8 rfl rfl p2 hsne k2.size (by rw [hts']; simp only [List.length_append]; omega) fun s3 x3 p3 c3 => ?_
      repeat first | refine RL.step MR.mv ?_ | refine RL.step (MR.biE rfl) ?_ | refine RL.step (MR.b2 rfl) ?_
      refine RL.nil (RW.rt ⟨s3, rfl, ?_, hb.trans ((k2.trans c3).mono hB)⟩)
      rw [hts', List.append_assoc] at p3
      exact p3.rebase hB
end
end Go.Kx
