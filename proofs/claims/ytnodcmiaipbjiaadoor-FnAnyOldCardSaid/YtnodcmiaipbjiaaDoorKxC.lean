/- The reference's at, Same.
   The reference's Same, known (no tags), unknown (none said), Write.
   The reference's known (no tags), unknown (none said), Write's choice; octets of one's own as octets that lie somewhere.
   The reference's value.
   The reference's field.
   The reference's part.
   The reference's field, part for every message without known tags; Write.
   The reference's Default.
   The reference's Default: its walk.
   The reference's Default: the walk.
   The laws FnNew..: the law's own code; what is new is written as the reference writes its defaults.
   The tags' Len, AppendEach (of no tags).
   What AppendTo's code rests on (AOK), of a program that passes the tests (messages without tags).
   impl.MaxX, impl.NewX: a new message, its version, AppendTo.
   The reference's messages as the program makes them: slices of structs that are built.
   The reference's constructors of messages and parts (SpecC): the code from a list, its walk.
   A new message's cells say its default: by a test.
   Reading, the plain law: what is read of octets (dec), that more octets behind change nothing (ext), that what is written is read as what was said (round trip), that what is read is written in no more octets. Plain definitions; no condition.
   Statements in a row at slot level (RWL); what a call may turn in one block (Fr); the code of Default: stores of constants, its walk. No condition on the program beyond the tests named.
   The laws FnNew..: all that the program must pass, as one Boolean test (nlOk); from it the law's run.
   Reading, the plain law: what is written of what may be said (Ok) is read as it was said (norm), and written again the same. No condition.
   Reading, the plain law: what is read of octets may be said (Ok), is small, and is written in no more octets; so what is read and written is read and written the same. Conditions: at most 32767 octets; every thing of a list is written in at least one octet (minOk).
   A row's closed facts, out of the program's own (each proved once) and the row's. No condition.
   What a tree says, as a message's fields (toD): written alike by the reference (sField) and by the plan (enc); so the laws FnAgain and FnCut, the plain part. Conditions: the plan and the reference's fields match (mTopB, a test).
   Rules for scopes, constant indices, maps, globals, slicing of octets; the reader's memory (RdAt). No condition on the program beyond those that a rule names.
   encoding/binary's BigEndian numbers; the reader's numbers: Int16, Uint16, Int32, readUint64, Int64. Conditions: the program's tables (ROK). -/
import Derived.Test.YtnodcmiaipbjiaaDoorKxB
import Derived.Laws.MakeOwn
import Derived.Laws.CopyOwn
import Derived.Great.BuildSlice
import Derived.JoinedOf
import Derived.Laws.IdiomRangeMap
namespace Go.Kx
open Go.RowKit
set_option linter.unusedSimpArgs false
set_option linter.unusedVariables false
section
variable {P : Program} {S : SN} {w : World} {N : Nat} {Q : Exit → (Nat → Value) → World → Prop} {ρ : Nat → Value} {ms : List MOp}
theorem RepFd.one {f : Fd} {cs : List Value} (h : RepFd w f cs) : cs.all (·.oneCell') = true ∧ cs.length = 8 := by
  obtain ⟨sl, rfl, ad, c, rfl, _⟩ := h.cells
  exact ⟨rfl, rfl⟩
theorem RepTr.one {t : Tr} {cs : List Value} (h : RepTr w t cs) : cs.all (·.oneCell') = true ∧ cs.length = 5 := by
  obtain ⟨sS, sL, sU, rfl, _, ⟨ad, c, rfl, _⟩, ⟨ad', c', rfl, _⟩, ad'', c'', rfl, _⟩ := h.cells
  exact ⟨rfl, rfl⟩
theorem RL.stA {ty p x b o : Nat} {cs : List Value} (hp : ρ p = .pointer (some ⟨b, o, none⟩)) (hx : ρ x = .agg cs.toArray) (hn : cellsB P ty cs.length = true) (ht : w.there b o cs.length) (h1 : cs.all (·.oneCell') = true)
    (h : RL P N ms Q ρ (w.setCells b o cs)) (hpN : p < N := by decide) (hxN : x < N := by decide) : RL P N (.st ty p x :: ms) Q ρ w := by
  refine RL.st hp (by rw [hx]; simpa [Value.cells] using hn) (by rw [hx]; simpa [Value.cells] using ht) (by rw [hx]; simpa [Value.cells] using h1) ?_ hpN hxN
  rw [hx]; simpa [Value.cells] using h
theorem RL.alst {d T x n : Nat} {z cs : List Value} (hz : zeroAgg P T z) (hx : ρ x = .agg cs.toArray) (hxd : x ≠ d) (hzn : z.length = n) (hn : cs.length = n) (hT : cellsB P T n = true) (h1 : cs.all (·.oneCell') = true)
    (h : ∀ w', Below w.heap.size w w' → w'.heap.size = w.heap.size + 1 → w'.rangeAt w.heap.size 0 cs → w'.there w.heap.size 0 n → RL P N ms Q (upd ρ d (.pointer (some ⟨w.heap.size, 0, none⟩))) w')
    (hd : d < N := by decide) (hxN : x < N := by decide) : RL P N (.al d T :: .st T d x :: ms) Q ρ w := by
  obtain ⟨i, hi, hzv⟩ := hz
  refine RL.step (MR.al ⟨i, hi, hzv⟩) ?_ hd
  have ht : (w.alloc (.cells z.toArray T)).there w.heap.size 0 cs.length := by rw [hn, ← hzn]; exact there_box w z T
  refine RL.stA (upd_same _ _ _) (by rw [upd_ne _ _ hxd]; exact hx) (by rw [hn]; exact hT) ht h1 (h _ ?_ ?_ ?_ ?_) hd hxN
  · exact below_setCells (Nat.le_refl _) _ _ (below_box w _)
  · rw [size_setCells, size_box]
  · exact World.rangeAt_setCells_same _ _ _ _ ht
  · rw [← hn]; exact World.there_setCells ht _ _ _
def AtC (P : Program) (f : Nat) : Prop := entersB P f = true ∧ ∀ (w : World) (t : Tr) (cs : List Value) (i : Nat), RepTr w t cs → i < 9223372036854775808 →
  Calls P f #[.agg cs.toArray, .int .i64 i] w (fun e w' => ∃ cs', e = .returned (.agg cs'.toArray) ∧ RepTr w' (t.l.getD i .zero) cs' ∧ Below w.heap.size w w')
end
section
variable {P : Program} {S : SN} {w : World} {N : Nat} {Q : Exit → (Nat → Value) → World → Prop} {ρ : Nat → Value} {ms : List MOp}
theorem u8Ty_cells {U : Nat} (h : u8Ty P U = true) : cellsB P U 1 = true := by
  obtain ⟨i, hi, hs, _⟩ := u8Ty_info h
  simp [cellsB, hi, hs]
theorem drew1_kp (w : World) : Kp w (World.drew1 w) := fun p v h => h
theorem below_drew1 (w : World) (B : Nat) : Below B w (World.drew1 w) := ⟨rfl, rfl, rfl, Nat.le_refl _, fun _ _ => rfl⟩
def SameC (P : Program) (f : Nat) : Prop := entersB P f = true ∧ ∀ (w : World) (a b : Option Addr) (l m : List UInt8) (c d : Nat), BytesAt w (fun _ => True) a l → BytesAt w (fun _ => True) b m → l.length < 9223372036854775807 → m.length < 9223372036854775807 →
  Calls P f #[.slice a l.length c, .slice b m.length d] w (fun e w' => e = .returned (.bool (decide (l = m))) ∧ Below w.heap.size w w')
theorem same_ok {f : Nat} (ok : SOK0 P S) (hf : FnIs P f (cSame S) 26 4) : SameC P f := by
  refine ⟨hf.ent, fun w a b l m c d ha hb hl hm => ?_⟩
  refine hf.runs (args := [.slice a l.length c, .slice b m.length d]) (by simp) (by omega) ?_
  refine RW.sq (RW.rg (RL.step MR.mv (RL.nil (RW.sq (RW.sq (RW.rg (RL.step MR.mv (RL.step (MR.ln ok.tk.u8s rfl) (RL.step MR.mv (RL.step (MR.ln ok.tk.u8s rfl) ?_)))))))))) 
  by_cases hlen : l.length = m.length
  · refine RL.step (MR.biE (v := .bool false) ?_) (RL.nil (RW.cd (b := false) rfl (fun e => by cases e) (fun _ => RW.sk ?_)))
    · show some (Value.bool (!(((l.length : Nat) : Int) == ((m.length : Nat) : Int)))) = _
      rw [hlen]; simp
    refine RW.sq (RW.sq (RW.rg (RL.step MR.mv (RL.step (MR.ln ok.tk.u8s rfl) (RL.step MR.mv (RL.nil (RW.bl ?_)))))))
    refine RW.lp (fun ρ w' => ∃ i : Nat, i ≤ l.length ∧ ρ 0 = .slice a l.length c ∧ ρ 1 = .slice b m.length d ∧ ρ 12 = .int .i64 (l.length : Nat) ∧ ρ 13 = .int .i64 (i : Nat) ∧ Below w.heap.size w w' ∧ ∀ j, j < i → l[j]? = m[j]?)
      (fun ρ _ => l.length - (intOf (ρ 13)).toNat) ⟨0, by omega, rfl, rfl, rfl, rfl, Below.refl _ _, fun j h => by omega⟩ ?_ (fun ρ ρ' w h => by rw [h 13 (by omega)])
    rintro ρ w1 ⟨i, hi, h0, h1, h12, h13, hbl, heq⟩
    refine RW.knows [(0, .slice a l.length c), (1, .slice b m.length d), (12, .int .i64 (l.length : Nat)), (13, .int .i64 (i : Nat))] (by simp [h0, h1, h12, h13]) (RW.sq (RW.rg ?_))
    by_cases hlt : i < l.length
    · refine RL.step (MR.biB (p := (i : Int) < (l.length : Int)) rfl (decide_eq_true (by omega))) (RL.nil (RW.sq (RW.cd (b := true) rfl (fun _ => RW.sk ?_) (fun e => by cases e))))
      refine RW.sq (RW.bl (RW.sq (RW.rg ?_)))
      repeat first | refine RL.step MR.mv ?_ | refine RL.step (MR.biE rfl) ?_ | refine RL.step (MR.b2 rfl) ?_
      refine RL.nil (RW.sq (RW.gd ok.mo (Kp w1) (drew1_kp w1) ?_))
      obtain ⟨g, o, rfl, _, hc1⟩ := (ha.kp hbl.kp) i _ (List.getElem?_eq_getElem hlt)
      obtain ⟨g', o', rfl, _, hc2⟩ := (hb.kp hbl.kp) i _ (List.getElem?_eq_getElem (show i < m.length by omega))
      have c1 := u8Ty_cells ok.tk.u8
      repeat first | refine RG.q (fun _ _ => MR.mv) ?_ | refine RG.q (fun _ _ => MR.biE rfl) ?_ | refine RG.q (fun _ _ => MR.pk rfl) ?_ | refine RG.no (by first | exact ⟨by decide, .inl rfl⟩ | exact ⟨by decide, .inr ⟨rfl, rfl⟩⟩) ?_
      refine RG.q (fun _ _ => MR.ia (k := .i64) ok.tk.u8s c1 rfl rfl hlt) (RG.q (fun w' hS => MR.ld rfl ok.pU8 (by rw [Nat.mul_one]; exact hS _ _ hc1)) ?_)
      repeat first | refine RG.q (fun _ _ => MR.mv) ?_ | refine RG.q (fun _ _ => MR.biE rfl) ?_ | refine RG.q (fun _ _ => MR.pk rfl) ?_ | refine RG.no (by first | exact ⟨by decide, .inl rfl⟩ | exact ⟨by decide, .inr ⟨rfl, rfl⟩⟩) ?_
      refine RG.q (fun _ _ => MR.ia (k := .i64) ok.tk.u8s c1 rfl rfl (show i < m.length by omega)) (RG.q (fun w' hS => MR.ld rfl ok.pU8 (by rw [Nat.mul_one]; exact hS _ _ hc2)) ?_)
      by_cases hb : l[i] = m[i]
      · refine RG.q (fun _ _ => MR.biE (v := .bool false) ?_) (RG.nil fun _ => RW.cd (b := false) rfl (fun e => by cases e) (fun _ => RW.sk ?_))
        · show some (Value.bool (!(((l[i].toNat : Nat) : Int) == ((m[i].toNat : Nat) : Int)))) = _
          rw [hb]; simp
        refine RW.rg ?_
        repeat first | refine RL.step MR.mv ?_ | refine RL.step (MR.biE rfl) ?_ | refine RL.step (MR.b2 rfl) ?_
        refine RL.nil ⟨⟨i + 1, hlt, rfl, rfl, rfl, ?_, hbl.trans (below_drew1 _ _), fun j hj => ?_⟩, ?_⟩
        · show Value.int .i64 (IntKind.i64.wrap ((i : Int) + 1)) = _
          rw [wrap_i64 (by omega) (by omega)]; rfl
        · by_cases e : j = i
          · subst e; rw [List.getElem?_eq_getElem hlt, List.getElem?_eq_getElem (show j < m.length by omega), hb]
          · exact heq j (by omega)
        · show l.length - (IntKind.i64.wrap ((i : Int) + 1)).toNat < l.length - (intOf (ρ 13)).toNat
          rw [h13, wrap_i64 (by omega) (by omega)]; simp only [intOf]; omega
      · refine RG.q (fun _ _ => MR.biE (v := .bool true) ?_) (RG.nil fun _ => RW.cd (b := true) rfl (fun _ => ?_) (fun e => by cases e))
        · show some (Value.bool (!(((l[i].toNat : Nat) : Int) == ((m[i].toNat : Nat) : Int)))) = _
          have : l[i].toNat ≠ m[i].toNat := fun e => hb (UInt8.toNat_inj.1 e)
          simp; omega
        refine RW.sq (RW.rg (RL.step MR.mv (RL.nil (RW.rt ⟨?_, hbl.trans (below_drew1 _ _)⟩))))
        have hne : l ≠ m := fun e => hb (by subst e; rfl)
        show Ending.returned (.bool false) = _
        simp [hne]
    · refine RL.step (MR.biB (p := (i : Int) < (l.length : Int)) rfl (decide_eq_false (by omega))) (RL.nil (RW.sq (RW.cd (b := false) rfl (fun e => by cases e) (fun _ => RW.ex ?_))))
      refine RW.sq (RW.rg (RL.step MR.mv (RL.nil (RW.rt ⟨?_, hbl⟩))))
      have hlm : l = m := by
        apply List.ext_getElem?
        intro j
        by_cases hj : j < i
        · exact heq j hj
        · rw [List.getElem?_eq_none (by omega), List.getElem?_eq_none (by omega)]
      show Ending.returned (.bool true) = _
      simp [hlm]
  · refine RL.step (MR.biE (v := .bool true) ?_) (RL.nil (RW.cd (b := true) rfl (fun _ => ?_) (fun e => by cases e)))
    · show some (Value.bool (!(((l.length : Nat) : Int) == ((m.length : Nat) : Int)))) = _
      simp; omega
    refine RW.sq (RW.rg (RL.step MR.mv (RL.nil (RW.rt ⟨?_, Below.refl _ _⟩))))
    have hne : l ≠ m := fun e => hlen (by rw [e])
    show Ending.returned (.bool false) = _
    simp [hne]
end

def OutR (S : SN) (T : List Value → Nat × List UInt8 → Prop) (w0 w : World) (sv : Value) (out : List (Nat × List UInt8)) : Prop := (sv = .slice none 0 0 ∧ out = []) ∨ ∃ g cap cur, sv = .slice (some ⟨g, 0, none⟩) out.length cap ∧ w0.heap.size ≤ g ∧ w.heap[g]? = some (.cells cur S.tg (0, 0)) ∧ 0 < out.length ∧ out.length ≤ cap ∧ cap ≤ maxLen ∧ cur.size = cap * 2 ∧
  ∀ i t, out[i]? = some t → ∃ cs, w.rangeAt g (i * 2) cs ∧ T cs t
section
variable {P : Program} {S : SN} {w w' : World} {N : Nat} {Q : Exit → (Nat → Value) → World → Prop} {ρ : Nat → Value} {ms : List MOp}
theorem OwnB.bytes {U B : Nat} {sv : Value} {bs : List UInt8} (h : OwnB U w B sv bs) : ∃ ad c, sv = .slice ad bs.length c ∧ okAd ad ∧ bs.length ≤ c ∧ BytesAt w (fun _ => True) ad bs := by
  obtain ⟨h1, h2⟩ := h
  rcases h2 with ⟨rfl, h0⟩ | ⟨g, cap, cur, rfl, hb, hh, hn, hc, hs, ht⟩
  · have : bs = [] := List.eq_nil_of_length_eq_zero h0
    subst this
    exact ⟨none, 0, rfl, .inl rfl, by simp, fun j b hj => by simp at hj⟩
  · refine ⟨some ⟨g, 0, none⟩, cap, rfl, .inr ⟨g, 0, rfl⟩, hn, fun j b hj => ⟨g, 0, rfl, trivial, ?_⟩⟩
    rw [cell_of_row w g (0 + j) cur U (0, 0) hh, Nat.zero_add]
    have hjl : j < bs.length := (List.getElem?_eq_some_iff.1 hj).1
    have e : (cur.toList.take (bs.length * 1))[j]? = (bs.map byteV)[j]? := by rw [ht]
    rw [List.getElem?_take_of_lt (by omega)] at e
    rw [List.getElem?_map, hj] at e
    simpa using e
def KnownC (P : Program) (f : Nat) : Prop := entersB P f = true ∧ ∀ (w : World) (ad : Option Addr) (c : Nat) (fs : Fds), RowsF w ad 0 fs → (∀ f ∈ fs.toList, f.tag < 1000000) → fs.toList.length < 9223372036854775807 →
  Calls P f #[.slice ad fs.toList.length c] w (fun e w' => e = .returned (.int .u32 (sKnown fs : Nat)) ∧ Below w.heap.size w w')
def UnkC (P : Program) (S : SN) (f : Nat) (SU : List (Nat × List UInt8) → Prop) : Prop := entersB P f = true ∧ ∀ (w0 w : World) (ad : Option Addr) (c : Nat) (fs : Fds) (v : Value) (u : List (Nat × List UInt8)), RowsF w ad 0 fs → (∀ f ∈ fs.toList, f.tag < 1000000) → fs.toList.length < 9223372036854775807 → Below w0.heap.size w0 w → TagsS w0 v u → SU u →
  Calls P f #[.slice ad fs.toList.length c, v] w (fun e w' => ∃ sv, e = .returned sv ∧ OutR S (TagRow w0) w w' sv (sUnk (sKnown fs) u) ∧ Below w.heap.size w w')
end
mutual
def goodT (SU : List (Nat × List UInt8) → Prop) : Tr → Prop
  | .mk _ _ _ l u => SU u ∧ goodTs SU l
def goodTs (SU : List (Nat × List UInt8) → Prop) : Trs → Prop
  | .nil => True
  | .cons t r => goodT SU t ∧ goodTs SU r
end

theorem goodTs.mem {SU : List (Nat × List UInt8) → Prop} : ∀ {l : Trs} {t : Tr}, goodTs SU l → t ∈ l.toList → goodT SU t
  | .nil, t, _, h => by simp [Trs.toList] at h
  | .cons t r, t', h, hm => by
    unfold goodTs at h
    simp only [Trs.toList, List.mem_cons] at hm
    rcases hm with rfl | hm
    · exact h.1
    · exact goodTs.mem h.2 hm
theorem goodT.mem {SU : List (Nat × List UInt8) → Prop} {t e : Tr} (h : goodT SU t) (he : e ∈ t.l) : goodT SU e := by cases t; unfold goodT at h; exact h.2.mem he
theorem goodT.zero {SU : List (Nat × List UInt8) → Prop} (h : SU []) : goodT SU .zero := by unfold Tr.zero goodT goodTs; exact ⟨h, trivial⟩
theorem goodT.at {SU : List (Nat × List UInt8) → Prop} {t : Tr} (h : goodT SU t) (h0 : SU []) (i : Nat) : goodT SU (t.l.getD i .zero) := by
  rw [List.getD_eq_getElem?_getD]
  cases hi : t.l[i]? with
  | none => exact goodT.zero h0
  | some e => exact h.mem (List.mem_of_getElem? hi)
structure SPC (P : Program) (S : SN) (SU : List (Nat × List UInt8) → Prop) : Prop where
  ok : SOK P S
  su0 : SU []
  fixed : FixedC P S.T.u8 S.fFixed
  uvar : UvC P S.T.u8 S.fUvar
  width : WidC P S.fWidth
  counted : CntC P S.T.u8 S.fCounted
  whole : CutC P S.fWhole
  things : CutC P S.fThings
  has : HasC P S.fHas
  null : NulC P S.fNull
  at_ : AtC P S.fAt
  known : KnownC P S.fKnown
  unk : UnkC P S S.fUnk SU
  value : FnIs P S.fValue (cValue S) 70 12
  field : FnIs P S.fField (cField S) 76 8
  part : FnIs P S.fPart (cPart S) 132 8
section
variable {P : Program} {S : SN} {w w' : World} {N : Nat} {Q : Exit → (Nat → Value) → World → Prop} {ρ : Nat → Value} {ms : List MOp} {SU : List (Nat × List UInt8) → Prop} {Q' : (Nat → Value) → World → Prop}
theorem OwnB.rebase {U B B' : Nat} {sv : Value} {bs : List UInt8} (h : OwnB U w B sv bs) (hB : B' ≤ B) : OwnB U w B' sv bs := by
  obtain ⟨h1, h2⟩ := h
  refine ⟨h1, ?_⟩
  rcases h2 with h2 | ⟨g, cap, cur, h2, h3, h4⟩
  · exact .inl h2
  · exact .inr ⟨g, cap, cur, h2, Nat.le_trans hB h3, h4⟩
theorem run_apOO {T U B B' : Nat} {sv sy : Value} {bs l : List UInt8} (hT : sliceOf P T U = true) (hU : u8Ty P U = true) (ho : OwnB U w B sv bs) (hy : OwnB U w B' sy l) (hB : B ≤ w.heap.size) (hlim : bs.length + l.length ≤ lim) :
    ∃ sv' w', (∀ ty, (Builtin.append_ #[T, T] ty #[sv, sy]).run P w = .ok sv' w') ∧ OwnB U w' B sv' (bs ++ l) ∧ Below B w w' ∧ w.grownBy w' sv.ownBlock := by
  obtain ⟨ad, c, rfl, _, _, hb⟩ := hy.bytes
  exact run_apOwn hT hU ho rfl hb hB hlim
theorem RL.apOO {d T U x y B B' : Nat} {sv sy : Value} {bs l : List UInt8} (hT : sliceOf P T U = true) (hU : u8Ty P U = true) (hx : ρ x = sv) (hy : ρ y = sy) (ho : OwnB U w B sv bs) (hoy : OwnB U w B' sy l) (hB : B ≤ w.heap.size) (hlim : bs.length + l.length ≤ lim)
    (h : ∀ sv' w', OwnB U w' B sv' (bs ++ l) → Below B w w' → RL P N ms Q (upd ρ d sv') w') (hxN : x < N := by decide) (hyN : y < N := by decide) (hd : d < N := by decide) : RL P N (.ap d T T x y :: ms) Q ρ w := by
  obtain ⟨sv', w', h1, h2, h3, _⟩ := run_apOO hT hU ho hoy hB hlim
  subst hx hy
  exact RL.step (MR.apBy (h1 0) h1 hxN hyN) (h sv' w' h2 h3) hd
end
section
variable {P : Program} {S : SN} {w w' : World} {N : Nat} {Q : Exit → (Nat → Value) → World → Prop} {ρ : Nat → Value} {ms : List MOp} {SU : List (Nat × List UInt8) → Prop} {Q' : (Nat → Value) → World → Prop}
theorem RG.caB {i d f : Nat} {U : Nat} {g : Option (Nat × Nat × Bool)} {gs : List GOp} {xs : List MX} {out : List UInt8} {args : List Value} {S : World → Prop} (he : entersB P f = true) (hc : RetB P U f args w out) (ha : xs.map (xof ρ) = args)
    (hS : ∀ w', Below w.heap.size w w' → S w → S w') (h : ∀ sv w', OwnB U w' w.heap.size sv out → Below w.heap.size w w' → RG P N gs Q S (upd ρ d sv) w')
    (hg : passes N ρ true g := by first | exact rfl | exact ⟨by decide, .inl rfl⟩) (hd : d < N := by decide) (hx : ∀ x ∈ xs, MX.lt N x = true := by simp [MX.lt, Nat.blt_eq]) : RG P N (⟨i, g, .ca d f xs⟩ :: gs) Q S ρ w := by
  refine RG.ca (R := fun sv w' => OwnB U w' w.heap.size sv out ∧ Below w.heap.size w w') he (fun hs => ?_) (fun v w' h' => h v w' h'.1 h'.2) hg hd hx
  rw [ha]
  refine Calls.mono hc ?_
  rintro e w' ⟨sv, rfl, h1, h2⟩
  exact ⟨sv, rfl, ⟨h1, h2⟩, hS w' h2 hs⟩
theorem RG.apOO {i d T U x y B B' : Nat} {gs : List GOp} {sv sy : Value} {bs l : List UInt8} {S : World → Prop} (hT : sliceOf P T U = true) (hU : u8Ty P U = true) (hx : ρ x = sv) (hy : ρ y = sy) (ho : OwnB U w B sv bs) (hoy : OwnB U w B' sy l) (hB : B ≤ w.heap.size) (hlim : bs.length + l.length ≤ lim)
    (hS : ∀ w', Below B w w' → w.grownBy w' sv.ownBlock → S w → S w') (h : ∀ sv' w', OwnB U w' B sv' (bs ++ l) → Below B w w' → RG P N gs Q S (upd ρ d sv') w') (hxN : x < N := by decide) (hyN : y < N := by decide) (hd : d < N := by decide) : RG P N (⟨i, none, .ap d T T x y⟩ :: gs) Q S ρ w := by
  obtain ⟨sv', w', h1, h2, h3, h4⟩ := run_apOO hT hU ho hoy hB hlim
  subst hx hy
  exact RG.x (MR.apBy (h1 0) h1 hxN hyN) (hS w' h3 h4) (h sv' w' h2 h3) rfl rfl hd
end
section
variable {P : Program} {S : SN} {w w' : World} {N : Nat} {Q : Exit → (Nat → Value) → World → Prop} {ρ : Nat → Value} {ms : List MOp} {SU : List (Nat × List UInt8) → Prop}
theorem run_apOwnX {T U m c B : Nat} {ad : Option Addr} {bs l : List UInt8} {sv : Value} (hT : sliceOf P T U = true) (hU : u8Ty P U = true) (ho : OwnB U w B sv bs)
    (hm : m = l.length) (hb : BytesAt w (fun _ => True) ad l) (hB : B ≤ w.heap.size) (hlim : bs.length + l.length ≤ lim) :
    ∃ sv' w', (∀ ty, (Builtin.append_ #[T, T] ty #[sv, .slice ad m c]).run P w = .ok sv' w') ∧ OwnB U w' B sv' (bs ++ l) ∧ Below B w w' ∧ w.grownBy w' sv.ownBlock ∧ ∀ k, sv'.ownBlock = some k → sv.ownBlock = some k ∨ w.heap.size ≤ k := by
  obtain ⟨sv', w', h1, h2, h3, h4⟩ := run_apOwn (c := c) hT hU ho hm hb hB hlim
  refine ⟨sv', w', h1, h2, h3, h4, ?_⟩
  obtain ⟨i, hi, hs, hby, hz⟩ := u8Ty_info hU
  have hl1 : lim = 1099511627776 := rfl
  cases ad with
  | none =>
    have hl : l = [] := by
      cases l with
      | nil => rfl
      | cons b l => obtain ⟨g, o, he, _⟩ := hb 0 b rfl; simp at he
    subst hl
    simp only [List.length_nil] at hm
    subst hm
    have hrun : (Builtin.append_ #[T, T] 0 #[sv, .slice none 0 c]).run P w = .ok sv w := by
      rcases ho.2 with ⟨rfl, h0⟩ | ⟨g, cap, cur, rfl, _, _, hnc, _⟩
      · simp [Builtin.append_, run_underlying (sliceOf_eq hT), sizeOf, typeInfo, hi, Builtin.lenOf, Builtin.firstCells]
      · simp [Builtin.append_, run_underlying (sliceOf_eq hT), sizeOf, typeInfo, hi, Builtin.lenOf, Builtin.firstCells, hnc, storeCells]
    have := h1 0
    rw [hrun] at this
    injection this with e1 e2
    subst e1
    exact fun k hk => .inl hk
  | some ad =>
    have hnews : ∀ j u, (l.map byteV)[j]? = some u → w.cell? (ad.add j) = some u := fun j u hu => by
      simp only [List.getElem?_map, Option.map_eq_some_iff] at hu
      obtain ⟨b, hb1, rfl⟩ := hu
      obtain ⟨g, o, he, _, hc⟩ := hb j b hb1
      cases he
      rw [Addr.add_mid]; exact hc
    have h1' : ∀ u ∈ l.map byteV, u.oneCell' = true := by intro u hu; simp only [List.mem_map] at hu; obtain ⟨b, _, rfl⟩ := hu; rfl
    rcases ho.2 with ⟨rfl, h0⟩ | ⟨g, cap, cur, rfl, hbg, hg, hnc, hcm, hcs, htake⟩
    · have hx : bs = [] := List.eq_nil_of_length_eq_zero h0
      subst hx
      obtain ⟨v2, w2, q1, q2, _⟩ := run_append_own (P := P) w w.heap.size T 0 U i (.int .u8 0) 1 1 (sliceOf_eq hT) hi hz hs hby rfl (by omega) (.slice none 0 0) 0 [] (World.ownsRow_nil _ _ _ _) ad m c (l.map byteV) (by simp [hm])
        hnews h1' (by simp only [maxLen]; simp only [List.length_nil] at hlim; omega) (by simp only [List.length_nil] at hlim; omega) (Nat.le_refl _)
      have := h1 0
      rw [q1] at this
      injection this with e1 e2
      subst e1
      exact fun k hk => .inr (World.ownsRow.lt q2 k hk).1
    · by_cases hroom : bs.length + m ≤ cap
      · have hr := run_append_room (P := P) w T 0 U i (sliceOf_eq hT) hi g bs.length cap cur hg ad m c (l.map byteV) (by rw [hs]; simp [hm]) hnews h1' hroom (by rw [hs, List.length_map]; omega)
        have := h1 0
        rw [hr] at this
        injection this with e1 e2
        subst e1
        exact fun k hk => .inl hk
      · have holds : ∀ j u, (bs.map byteV)[j]? = some u → w.cell? ((⟨g, 0, none⟩ : Addr).add j) = some u := World.ownsRow.cells ho (g := g) rfl
        have hr := run_append_grow (P := P) w T 0 U i _ (sliceOf_eq hT) hi hz ⟨g, 0, none⟩ bs.length cap (bs.map byteV) (by rw [hs]; simp) holds ad m c (l.map byteV) (by rw [hs]; simp [hm]) hnews (by omega) (by omega) (growslice_fits (by omega) (by rw [hby]; omega))
        have := h1 0
        rw [hr] at this
        injection this with e1 e2
        subst e1
        intro k hk
        simp only [Value.ownBlock, Option.some.injEq] at hk
        exact .inr (by omega)
end
/-! ### As by default -/
section
variable {P : Program} {S : SN} {w w' : World} {SU : List (Nat × List UInt8) → Prop}
end
section
variable {P : Program} {S : SN} {w w' : World} {SU : List (Nat × List UInt8) → Prop}

def RepMs (w : World) (fs : Fds) (flex : Int) (cs : List Value) : Prop := ∃ ad c, cs = [.slice ad fs.toList.length c, .int .i64 flex] ∧ RowsF w ad 0 fs
end


/-! ### A world seen through some of its blocks -/
open Classical in
section
variable {P : Program} {S : SN} {w w' : World} {N : Nat} {Q : Exit → (Nat → Value) → World → Prop} {ρ : Nat → Value} {ms : List MOp}
end
section
variable {P : Program} {S : SN} {w w' : World} {N : Nat} {Q : Exit → (Nat → Value) → World → Prop} {ρ : Nat → Value} {ms : List MOp}
def fieldIs (P : Program) (T f ty off : Nat) : Bool :=
  match P.underlying T with
  | some (.struct fs) => (match fs[f]? with | some fl => Nat.beq fl.type ty && Nat.beq fl.offset off | none => false)
  | _ => false
theorem setCells_other (g : Nat) : ∀ (vs : List Value) (o : Nat) (w : World) (k : Nat), k ≠ g → (w.setCells g o vs).heap[k]? = w.heap[k]?
  | [], _, _, _, _ => rfl
  | v :: vs, o, w, k, h => by
    show ((w.setCell ⟨g, o, none⟩ v).setCells g (o + 1) vs).heap[k]? = _
    rw [setCells_other g vs (o + 1) _ k h, Below.heap_setCell w ⟨g, o, none⟩ v k h]
theorem there_keep {b o n : Nat} (h : w.there b o n) (hb : w'.heap[b]? = w.heap[b]?) : w'.there b o n := fun j hj => by
  have h1 := h j hj
  refine ⟨by rw [cell_of_heap (a := ⟨b, o + j, none⟩) hb]; exact h1.1, ?_⟩
  rw [World.frozen?_of_block (w := w) (a := ⟨b, o + j, none⟩) hb]; exact h1.2
theorem range_keep {b o : Nat} {cs : List Value} (h : w.rangeAt b o cs) (hb : w'.heap[b]? = w.heap[b]?) : w'.rangeAt b o cs := fun j v hj => by
  rw [cell_of_heap (a := ⟨b, o + j, none⟩) hb]; exact h j v hj
end
section
variable {P : Program} {S : SN} {w w' : World} {N : Nat} {Q : Exit → (Nat → Value) → World → Prop} {ρ : Nat → Value} {ms : List MOp}
theorem RL.st1 {ty p x b o : Nat} {v : Value} (hp : ρ p = .pointer (some ⟨b, o, none⟩)) (hx : ρ x = v) (h1 : v.oneCell' = true) (hn : cellsB P ty 1 = true) (ht : w.there b o 1) (h : RL P N ms Q ρ (w.setCells b o [v])) (hpN : p < N := by decide) (hxN : x < N := by decide) : RL P N (.st ty p x :: ms) Q ρ w := by
  have hc : v.cells = #[v] := by cases v <;> simp_all [Value.cells, Value.oneCell']
  refine RL.st hp (by rw [hx, hc]; exact hn) (by rw [hx, hc]; exact ht) (by rw [hx, hc]; simp [h1]) ?_ hpN hxN
  rw [hx, hc]; exact h

end
section
variable {P : Program} {S : SN} {w w' : World} {N : Nat} {Q : Exit → (Nat → Value) → World → Prop} {ρ : Nat → Value} {ms : List MOp} {SU : List (Nat × List UInt8) → Prop}
def SpecC (P : Program) (f : Nat) (fs : Fds) (flex : Int) : Prop := entersB P f = true ∧ ∀ w : World, Calls P f #[] w (fun e w' => ∃ cm, e = .returned (.agg (List.toArray cm)) ∧ RepMs w' fs flex cm ∧ Below w.heap.size w w')
end
section
variable {P : Program} {w w' : World} {N : Nat} {Q : Exit → (Nat → Value) → World → Prop} {ρ : Nat → Value} {ms : List MOp} {d : Nat} {T : IT}
def mapTy (P : Program) (T : Nat) : Bool :=
  match P.underlying T with
  | some (.map _ _) => true
  | _ => false
structure TN where
  tSt : Nat
  tMap : Nat
  fLen : Nat
  fTeach : Nat
  fEach : Nat
  fCb : Nat
  tKs : Nat := 0
def cTLen (K : TN) : MCode := .sq (.rg [.mv 2 (.c (.int .i64 0))]) (.sq (.rg [.mv 3 (.t 0), .nc 4 3, .fa 5 K.tSt 4 0, .ld 6 K.tMap 5, .ln 7 K.tMap 6, .mv 2 (.t 7)]) .rt)
def cEach (K : TN) (tInt : Nat) : MCode := .sq (.sq (.rg [.mv 8 (.t 0), .nc 9 8, .fa 10 K.tSt 9 0, .ld 11 K.tMap 10, .ln 12 K.tMap 11, .bi 13 .eql tInt (.t 12) (.c (.int .i64 0))]) (.cd 13 .rt .sk)) .any
def cTeach (K : TN) (T : IT) : MCode := .sq (.rg [.bx 3 T.u8s 1, .mv 4 (.c .nslice)]) (.sq (.rg [.mv 5 (.t 0), .mf 6 K.fCb 3, .ca 7 K.fEach [.t 5, .t 6]]) (.sq (.rg [.ld 8 T.u8s 3, .mv 4 (.t 8)]) .rt))
def ktTB (P : Program) (T : IT) (tKs : Nat) : Bool := sliceOf P tKs T.u32 && u32B P T.u32 && plainTy P T.u32 && cellsB P T.u32 1 && !(Nat.beq T.u8 T.u32) && intTy P T.int .i64 && intTy P T.u32 .u32
structure TgOK (P : Program) (K : TN) (T : IT) : Prop where
  tk : TOK P T
  map : mapTy P K.tMap = true
  pl : plainTy P K.tMap = true
  plu : plainTy P T.u8s = true
  fld : fieldAtB P K.tSt 0 0 = true
  len : FnIs P K.fLen (cTLen K) 8 2
  each : FnIs0 P K.fEach (cEach K T.int) 53
  teach : FnIs P K.fTeach (cTeach K T) 9 4
  kt : orNo K.tKs (ktTB P T K.tKs) = true
end
set_option linter.unusedVariables false
def KB.ia (K : KB) (g : TN) : IA where
  tU8 := K.T.u8
  tI16 := K.T.i16
  tInt := K.T.int
  tU32 := K.T.u32
  tTags := g.tSt
  i8 := K.i8
  i16 := K.i16
  i32 := K.i32
  i64 := K.i64
  u16 := K.u16
  bool := K.bool
  f64 := K.f64
  uuid := K.uuid
  str := K.str
  nstr := K.nstr
  byt := K.byt
  nbyt := K.nbyt
  cstr := K.cstr
  cnstr := K.cnstr
  cbyt := K.cbyt
  cnbyt := K.cnbyt
  alen := K.alen
  calen := K.calen
  nalen := K.nalen
  cnalen := K.cnalen
  uvar := K.uv
  tU32s := g.tKs
  tlen := g.fLen
  teach := g.fTeach
section
variable {P : Program} {K : KB} {g : TN}
end
section
variable {P : Program} {w w' : World} {N : Nat} {Q : Exit → (Nat → Value) → World → Prop} {ρ : Nat → Value} {ms : List MOp} {T : IT}
end
section
variable {P : Program} {S : SN} {w w' : World} {N : Nat} {Q : Exit → (Nat → Value) → World → Prop} {ρ : Nat → Value} {ms : List MOp}
end
structure SF where
  ps : List (Nat × Int)
  sub : Option Nat
section
variable {P : Program} {S : SN} {w w' : World} {N : Nat} {Q : Exit → (Nat → Value) → World → Prop} {ρ : Nat → Value} {ms : List MOp}
end
set_option linter.unusedVariables false
def defP (k : PK) (cs : List MVal) : Option D :=
  match k, cs with
  | .i8, [.int .i8 n] => if -128 ≤ n ∧ n ≤ 127 then some (.n n) else none
  | .i16, [.int .i16 n] => if -32768 ≤ n ∧ n ≤ 32767 then some (.n n) else none
  | .u16, [.int .u16 n] => if 0 ≤ n ∧ n ≤ 65535 then some (.n n) else none
  | .i32, [.int .i32 n] => if -2147483648 ≤ n ∧ n ≤ 2147483647 then some (.n n) else none
  | .i64, [.int .i64 n] => if -9223372036854775808 ≤ n ∧ n ≤ 9223372036854775807 then some (.n n) else none
  | .bool, [.bool b] => some (.n (if b then 1 else 0))
  | .str, [.estr] => some (.s (some []))
  | .nstr, [.nptr] => some (.s none)
  | .byt, [.nslice] => some (.s (some []))
  | .nbyt, [.nslice] => some (.s none)
  | .uuid, cs => if cs.length = 16 ∧ cs.all (fun m => match m with | .int .u8 n => sameInt n 0 | _ => false) then some (.s (some (List.replicate 16 0))) else none
  | .f64, [.flt] => some (.n 0)
  | _, _ => none
def rangeB : PK → Int → Bool
  | .i8, n => decide (-128 ≤ n) && decide (n ≤ 127)
  | .i16, n => decide (-32768 ≤ n) && decide (n ≤ 32767)
  | .u16, n => decide (0 ≤ n) && decide (n ≤ 65535)
  | .i32, n => decide (-2147483648 ≤ n) && decide (n ≤ 2147483647)
  | .i64, n => decide (-9223372036854775808 ≤ n) && decide (n ≤ 9223372036854775807)
  | _, _ => false
def knDef : List KT → List MVal → Bool
  | [], _ => true
  | q :: r, cs => (match cs[q.off]? with | some (.int k n) => sameKind k q.k.ik && sameInt n q.df | _ => false) && rangeB q.k q.df && knDef r cs
def defTag (tg : Option TgF) (cs : List MVal) : Bool :=
  match tg with
  | none => true
  | some q => (match cs[q.2]? with | some .nmap => true | _ => false) && knDef q.1.2 cs
mutual
def defT : Ty → List MVal → Option D
  | .prim k _, cs => defP k cs
  | .enum k _ _, cs => defP k cs
  | .vstr _ _ _, cs => defP .nstr cs
  | .arr nul _ _ _, cs => match cs with | [.nslice] => some (.l nul.isSome []) | _ => none
  | .struct _ n _ tg fs, cs => if cs.length = n ∧ defTag tg cs then (defF fs cs).map (fun ds => .r ds []) else none
def defF : Flds → List MVal → Option (List D)
  | .nil, _ => some []
  | .cons _ _ off _ ty rest, cs => if off + ty.cells ≤ cs.length then (defT ty ((cs.drop off).take ty.cells)).bind fun d => (defF rest cs).map (d :: ·) else none
end

section
variable {w : World} {F : Nat → Prop}
end
abbrev Dec (α : Type) := List UInt8 → Option (α × List UInt8)
def Dec.map {α β : Type} (f : α → β) (d : Dec α) : Dec β := fun l => match d l with | some (x, r) => some (f x, r) | none => none
def Dec.bind {α β : Type} (d : Dec α) (k : α → Dec β) : Dec β := fun l => match d l with | some (x, r) => k x r | none => none
def Dec.pure {α : Type} (x : α) : Dec α := fun l => some (x, l)
def beVal (l : List UInt8) : Nat := l.foldl (fun a b => a * 256 + b.toNat) 0
def takeN (k : Nat) : Dec (List UInt8) := fun l => if k ≤ l.length then some (l.take k, l.drop k) else none
def dNat (k : Nat) : Dec Nat := (takeN k).map beVal
def sgn (k n : Nat) : Int := if n < 256 ^ k / 2 then n else (n : Int) - (256 ^ k : Nat)
def dInt (k : Nat) : Dec Int := (dNat k).map (sgn k)
def dUvb : Nat → Dec Nat
  | _, [] => none
  | 0, b :: l => if b.toNat ≤ 15 then some (b.toNat, l) else none
  | k + 1, b :: l => if b.toNat < 128 then some (b.toNat, l) else match dUvb k l with | some (n, r) => some (b.toNat % 128 + 128 * n, r) | none => none
def dUv : Dec Nat := dUvb 4
def dSpan (s : Int) : Dec (List UInt8) := fun l => if s < 0 then none else takeN s.toNat l
def dLen (flex : Bool) (k : Nat) : Dec Int := if flex then Dec.map (fun n : Nat => (n : Int) - 1) dUv else dInt k
def aLen (n : Nat) : Int := IntKind.i32.wrap (IntKind.i32.wrap (n : Int) - 1)
def atMost (r : Int) : Dec Int := fun l => if (l.length : Int) < r then none else some (r, l)
def dALen (flex : Bool) : Dec Int := if flex then dUv.bind (fun n => atMost (aLen n)) else (dInt 4).bind atMost
def dP (k : PK) (flex : Bool) : Dec D :=
  match k with
  | .i8 => (dInt 1).map .n
  | .i16 => (dInt 2).map .n
  | .u16 => (dNat 2).map (fun n => .n (n : Nat))
  | .i32 => (dInt 4).map .n
  | .i64 => (dInt 8).map .n
  | .f64 => (dNat 8).map (fun n => .n (n : Nat))
  | .bool => (dNat 1).map (fun n => .n (if n = 0 then 0 else 1))
  | .uuid => (takeN 16).map (fun l => .s (some l))
  | .str => (dLen flex 2).bind fun n => (dSpan n).map (fun l => .s (some l))
  | .nstr => (dLen flex 2).bind fun n => if n < 0 then Dec.pure (.s none) else (dSpan n).map (fun l => .s (some l))
  | .byt => (dLen flex 4).bind fun n => if n = -1 then Dec.pure (.s (some [])) else (dSpan n).map (fun l => .s (some l))
  | .nbyt => (dLen flex 4).bind fun n => if n < 0 then Dec.pure (.s none) else (dSpan n).map (fun l => .s (some l))
def setTag (t : Nat × List UInt8) : List (Nat × List UInt8) → List (Nat × List UInt8)
  | [] => [t]
  | x :: xs => if x.1 < t.1 then x :: setTag t xs else if x.1 = t.1 then t :: xs else t :: x :: xs
def dTag : Dec (Nat × List UInt8) := dUv.bind fun k => dUv.bind fun s => (dSpan (s : Nat)).map fun v => (k, v)
def dTagN : Nat → List (Nat × List UInt8) → Dec (List (Nat × List UInt8))
  | 0, ts => Dec.pure ts
  | n + 1, ts => dTag.bind fun t => dTagN n (setTag t ts)
def dTags : Dec (List (Nat × List UInt8)) := dUv.bind fun n => dTagN n []
def KT.dec (q : KT) (v : List UInt8) : Option Int := match dP q.k false v with | some (.n n, _) => some n | _ => none
def eraseTag (k : Nat) (ts : List (Nat × List UInt8)) : List (Nat × List UInt8) := ts.filter fun x => !decide (x.1 = k)
def putK (kn : List KT) (t : Nat × List UInt8) (ts : List (Nat × List UInt8)) : Option (List (Nat × List UInt8)) :=
  match kn.find? fun q => decide (q.tag = t.1) with
  | none => some (setTag t ts)
  | some q => match q.dec t.2 with
    | some n => some (if n = q.df then eraseTag t.1 ts else setTag (t.1, encP q.k false (.n n)) ts)
    | none => none
def dOpt {α : Type} : Option α → Dec α
  | some x => Dec.pure x
  | none => fun _ => none
def dTagNK (kn : List KT) : Nat → List (Nat × List UInt8) → Dec (List (Nat × List UInt8))
  | 0, ts => Dec.pure ts
  | n + 1, ts => dTag.bind fun t => (dOpt (putK kn t ts)).bind fun ts' => dTagNK kn n ts'
def dTagsK (kn : List KT) : Dec (List (Nat × List UInt8)) := dUv.bind fun n => dTagNK kn n []
def knOf : Option TgF → List KT
  | none => []
  | some q => q.1.2
def rep {α : Type} (f : Dec α) : Nat → Dec (List α)
  | 0 => Dec.pure []
  | n + 1 => f.bind fun d => (rep f n).map fun ds => d :: ds
def nulOf (nul : Option Nat) (ver : Int) (r : Int) : Bool :=
  match nul with
  | none => false
  | some nv => !(decide (ver < (nv : Int)) || decide (r = 0))
mutual
def dfl : Ty → Int → D
  | .prim k _, df => match k with | .uuid => .s (some (List.replicate 16 0)) | .str | .byt => .s (some []) | .nstr | .nbyt => .s none | _ => .n df
  | .enum _ _ _, df => .n df
  | .vstr _ _ _, _ => .s none
  | .arr nul _ _ _, _ => .l nul.isSome []
  | .struct _ _ _ _ fs, _ => .r (dflF fs) []
def dflF : Flds → List D
  | .nil => []
  | .cons _ _ _ df ty rest => dfl ty df :: dflF rest
end

mutual
def dec (ver : Int) (flex : Bool) : Ty → Dec D
  | .prim k _ => dP k flex
  | .enum k _ _ => dP k flex
  | .vstr lim _ _ => dP (vK lim ver) flex
  | .arr nul _ _ el => (dALen flex).bind fun r => if r ≤ 0 then Dec.pure (.l (nulOf nul ver r) []) else (rep (dec ver flex el) r.toNat).map (fun xs => .l false xs)
  | .struct _ _ _ tg fs => (decF ver flex fs).bind fun ds => if tg.isSome && flex then (dTagsK (knOf tg)).map (fun ts => .r ds ts) else Dec.pure (.r ds [])
def decF (ver : Int) (flex : Bool) : Flds → Dec (List D)
  | .nil => Dec.pure []
  | .cons c _ _ df ty rest => (if c.ok ver then dec ver flex ty else Dec.pure (dfl ty df)).bind fun d => (decF ver flex rest).map (fun ds => d :: ds)
end

def decTop (p : Plan) (ver : Int) : Dec (List D × List (Nat × List UInt8)) :=
  (decF ver (p.flex ver) p.fs).bind fun ds => if p.tg.isSome && p.flex ver then (dTagsK (knOf p.tg)).map (fun ts => (ds, ts)) else Dec.pure (ds, [])
/-! ### More octets behind -/
section
variable {α β : Type}
theorem Dec.map_some {d : Dec α} {f : α → β} {l r : List UInt8} {y : β} : d.map f l = some (y, r) ↔ ∃ x, d l = some (x, r) ∧ f x = y := by
  unfold Dec.map
  cases h : d l with
  | none => simp
  | some p =>
    obtain ⟨x, r'⟩ := p
    simp only [Option.some.injEq, Prod.mk.injEq]
    constructor
    · rintro ⟨rfl, rfl⟩; exact ⟨x, ⟨rfl, rfl⟩, rfl⟩
    · rintro ⟨x1, ⟨rfl, rfl⟩, rfl⟩; exact ⟨rfl, rfl⟩
theorem Dec.bind_of {d : Dec α} {k : α → Dec β} {l r : List UInt8} {x : α} (h : d l = some (x, r)) : d.bind k l = k x r := by simp [Dec.bind, h]
theorem Dec.map_of {d : Dec α} {f : α → β} {l r : List UInt8} {x : α} (h : d l = some (x, r)) : d.map f l = some (f x, r) := by simp [Dec.map, h]
end
section
variable {P : Program} {N : Nat} {Q Q' : Exit → (Nat → Value) → World → Prop} {ρ : Nat → Value} {w : World} {ms : List MOp}
theorem MVal.cells1 (m : MVal) : m.val.cells = #[m.val] := by cases m <;> rfl
theorem MVal.one1 (m : MVal) : m.val.oneCell' = true := by cases m <;> rfl
theorem RL.stc {ty p b o : Nat} {m : MVal} (hp : ρ p = .pointer (some ⟨b, o, none⟩)) (hn : cellsB P ty 1 = true) (ht : w.there b o 1) (h : RL P N ms Q ρ (w.setCells b o [m.val])) (hpN : p < N := by decide) : RL P N (.stc ty p m :: ms) Q ρ w := by
  intro a ha
  refine ML.step (d := none) (v := undef) (w' := w.setCells b o [m.val]) (fun o' ho => ?_) (h a ha)
  have hf := fitOper_op ho
  generalize hop : o'.op = op at hf
  generalize hd : o'.dst = dd at hf
  unfold execOp
  cases op <;> cases dd <;> try (simp only [fitOp, Bool.false_eq_true] at hf; done)
  rename_i ty' x y
  cases y <;> simp only [fitOp, Bool.and_eq_true, Bool.false_eq_true, Nat.beq_eq] at hf
  rename_i v
  obtain ⟨⟨h2, h3⟩, h4⟩ := hf
  subst h2
  have hv := MVal.is_eq h4
  subst hv
  have he2 : a.eval (.const m.val) = m.val := rfl
  have hrun : (Instr.storeAt ty (.pointer (some ⟨b, o, none⟩)) m.val).run P w = .ok () (w.setCells b o [m.val]) := by
    have := run_storeAt_any (P := P) (w := w) (ty := ty) (b := b) (o := o) (v := m.val) (by rw [MVal.cells1]; exact hn) (by rw [MVal.cells1]; exact ht) (by rw [MVal.cells1]; simp [MVal.one1])
    rw [MVal.cells1] at this
    exact this
  exact ⟨rfl, .inr ⟨rfl, by simp only [hop, tmpL ha hpN h3, hp, he2, Sem.run_bind, hrun, Result.andThen_ok, Sem.run_pure]⟩⟩
theorem range_set {b o k : Nat} {cs : List Value} {v : Value} (h : w.rangeAt b o cs) (ht : w.there b (o + k) 1) : (w.setCells b (o + k) [v]).rangeAt b o (cs.set k v) := by
  intro j u hj
  by_cases e : j = k
  · subst e
    have hs := World.rangeAt_setCells_same w b (o + j) [v] ht 0 v rfl
    have : u = v := by
      rw [List.getElem?_set_self'] at hj
      cases hc : cs[j]? with
      | none => simp [hc] at hj
      | some x => simpa [hc] using hj.symm
    subst this
    exact hs
  · rw [List.getElem?_set_ne (fun x => e x.symm)] at hj
    rw [World.cell?_setCells_out b [v] (o + k) w ⟨b, o + j, none⟩ (fun _ _ => by simp only [List.length_cons, List.length_nil]; show o + j < o + k ∨ o + k + (0 + 1) ≤ o + j; omega)]
    exact h j u hj
theorem there_in {b o n k m : Nat} (h : w.there b o n) (hk : k + m ≤ n) : w.there b (o + k) m := fun j hj => by
  have := h (k + j) (by omega)
  rwa [show o + (k + j) = o + k + j from by omega] at this
structure Fr (X : Nat → Prop) (b o n : Nat) (w w' : World) : Prop where
  os : w'.os = w.os
  tape : w'.tape = w.tape
  output : w'.output = w.output
  size : w.heap.size ≤ w'.heap.size
  block : ∀ k, k < w.heap.size → k ≠ b → ¬ X k → w'.heap[k]? = w.heap[k]?
  cell : ∀ j, (j < o ∨ o + n ≤ j) → w'.cell? ⟨b, j, none⟩ = w.cell? ⟨b, j, none⟩
  there : ∀ o' n', w.there b o' n' → w'.there b o' n'
theorem Fr.refl (X : Nat → Prop) (b o n : Nat) (w : World) : Fr X b o n w w := ⟨rfl, rfl, rfl, Nat.le_refl _, fun _ _ _ _ => rfl, fun _ _ => rfl, fun _ _ h => h⟩
theorem Fr.trans {X : Nat → Prop} {b o n : Nat} {w1 w2 w3 : World} (h : Fr X b o n w1 w2) (k : Fr X b o n w2 w3) : Fr X b o n w1 w3 :=
  ⟨k.os.trans h.os, k.tape.trans h.tape, k.output.trans h.output, Nat.le_trans h.size k.size, fun i hi h1 h2 => (k.block i (Nat.lt_of_lt_of_le hi h.size) h1 h2).trans (h.block i hi h1 h2),
   fun j hj => (k.cell j hj).trans (h.cell j hj), fun o' n' ht => k.there _ _ (h.there _ _ ht)⟩
theorem Fr.wide {X X' : Nat → Prop} {b o n o' n' : Nat} {w w' : World} (h : Fr X b o n w w') (hX : ∀ k, X k → X' k) (h1 : o' ≤ o) (h2 : o + n ≤ o' + n') : Fr X' b o' n' w w' :=
  ⟨h.os, h.tape, h.output, h.size, fun k h1 h2 h3 => h.block k h1 h2 (fun x => h3 (hX k x)), fun j hj => h.cell j (by omega), h.there⟩
theorem Fr.below {X : Nat → Prop} {b o n B : Nat} {w w' : World} (h : Fr X b o n w w') (hb : B ≤ b) (hX : ∀ k, X k → B ≤ k) (hB : B ≤ w.heap.size) : Below B w w' :=
  ⟨h.os, h.tape, h.output, h.size, fun k hk => h.block k (by omega) (by omega) (fun x => by have := hX k x; omega)⟩
theorem Fr.ofBelow {X : Nat → Prop} {b o n : Nat} {w w' : World} (h : Below w.heap.size w w') (hb : b < w.heap.size) : Fr X b o n w w' :=
  ⟨h.os, h.tape, h.output, h.size, fun k hk _ _ => h.block k hk, fun j _ => cell_of_heap (h.block b hb), fun o' n' ht => there_keep ht (h.block b hb)⟩
theorem Fr.put {X : Nat → Prop} {b o n k : Nat} {w : World} (vs : List Value) (h1 : o ≤ k) (h2 : k + vs.length ≤ o + n) : Fr X b o n w (w.setCells b k vs) :=
  have hb := below_setCells (B := 0) (b := b) (Nat.zero_le _) vs k (Below.refl 0 w)
  ⟨hb.os, hb.tape, hb.output, hb.size, fun i _ hi _ => setCells_other b vs k w i hi, fun j hj => World.cell?_setCells_out b vs k w ⟨b, j, none⟩ (fun _ _ => by show j < k ∨ k + vs.length ≤ j; omega), fun o' n' ht => World.there_setCells ht _ _ _⟩
/-! ### Default -/
mutual
inductive Df where
  | st (T idx off ty : Nat) (v : MVal)
  | sub (T idx off : Nat) (l : Dfs)
inductive Dfs where
  | nil
  | cons (d : Df) (r : Dfs)
end

mutual
def put1 : Df → Nat → List Value → List Value
  | .st _ _ off _ v, o, cs => cs.set (o + off) v.val
  | .sub _ _ off l, o, cs => putD l (o + off) cs
def putD : Dfs → Nat → List Value → List Value
  | .nil, _, cs => cs
  | .cons d r, o, cs => putD r o (put1 d o cs)
end


mutual
def gen1 (vs : Nat) : Df → (t x : Nat) → MCode × Nat × Nat
  | .st T idx _ ty v, t, x => (.rg [.mv t (.t vs), .nc (t + 1) t, .fa (t + 2) T (t + 1) idx, .stc ty (t + 2) v], t + 3, x)
  | .sub T idx _ l, t, x =>
    let i := genD x l (t + 4) (x + 1)
    (rows (.rg [.mv t (.t vs), .nc (t + 1) t, .fa (t + 2) T (t + 1) idx, .mv x (.t (t + 2))] :: .rg [.mv (t + 3) (.t x)] :: i.1), i.2)
def genD (vs : Nat) : Dfs → (t x : Nat) → List MCode × Nat × Nat
  | .nil, t, x => ([], t, x)
  | .cons d r, t, x =>
    let h := gen1 vs d t x
    let g := genD vs r h.2.1 h.2.2
    (h.1 :: g.1, g.2)
end

mutual
def ok1 (P : Program) (n : Nat) : Df → Nat → Bool
  | .st T idx off ty _, o => fieldAtB P T idx off && cellsB P ty 1 && Nat.blt (o + off) n
  | .sub T idx off l, o => fieldAtB P T idx off && okD P n l (o + off)
def okD (P : Program) (n : Nat) : Dfs → Nat → Bool
  | .nil, _ => true
  | .cons d r, o => ok1 P n d o && okD P n r o
end



def DefD (P : Program) (f n : Nat) (l : Dfs) : Prop := entersB P f = true ∧ ∀ (w : World) (b o : Nat) (cs : List Value), w.rangeAt b o cs → w.there b o n → cs.length = n →
  Calls P f #[.pointer (some ⟨b, o, none⟩)] w (fun e w' => e = .returned (.tuple #[]) ∧ w'.rangeAt b o (putD l 0 cs) ∧ Fr (fun _ => False) b o n w w')
def defT0 : Dfs → Nat
  | .nil => 2
  | .cons d r => (genD 0 (.cons d r) 0 2).2.2
end
mutual
inductive Sx where
  | mk (ps : List (Nat × Int)) (f : Nat) (sub : SxL)
inductive SxL where
  | nil
  | cons (x : Sx) (r : SxL)
end


def SxL.isNil : SxL → Bool
  | .nil => true
  | _ => false
theorem seven (l : List Int) (h : l.length = 7) : l = [l.getD 0 0, l.getD 1 0, l.getD 2 0, l.getD 3 0, l.getD 4 0, l.getD 5 0, l.getD 6 0] := by
  match l, h with
  | [a, b, c, d, e, f, g], _ => rfl
section
variable {P : Program} {S : SN} {K : KB} {g : TN}
/-! ### A new message's cells -/
mutual
def putM1 : Df → Nat → List MVal → List MVal
  | .st _ _ off _ v, o, cs => cs.set (o + off) v
  | .sub _ _ off l, o, cs => putM l (o + off) cs
def putM : Dfs → Nat → List MVal → List MVal
  | .nil, _, cs => cs
  | .cons d r, o, cs => putM r o (putM1 d o cs)
end

def tag1 : Option TgF → Bool
  | none => true
  | some q => Nat.ble 1 q.2 && q.1.2.all fun k => Nat.ble 1 k.off
def eqB : List UInt8 → List UInt8 → Bool
  | [], [] => true
  | a :: asx, b :: bs => Nat.beq a.toNat b.toNat && eqB asx bs
  | _, _ => false


/-! ### What the seat's program has in common -/
structure Seat (P : Program) (K : KB) (g : TN) (S : SN) : Prop where
  kk : KOK P K
  ok : SOK P S
  tg : TgOK P g K.T
  sp : SPC P S (· = [])
  wr : FnIs P S.fWrite (cWrite S) 21 6
  df : S.fDflt ≠ 0 → FnIsC P S.fDflt (cDflt S) 35 2 S.tr
  same : SameC P S.fSame
  ver : S.fVer ≠ 0 → VerC P S.fVer
  fi : fieldIs P S.tr 3 S.trs 3 = true
  c1 : cellsB P S.trs 1 = true
  h16 : K.T.i16 ≠ 0
  c16 : cellsB P K.T.i16 1 = true
  u8 : K.T.u8 = S.T.u8
structure NL where
  f : Nat
  fMax : Nat
  fSpec : Nat
  fNew : Nat
  fPtr : Nat
  fDef : Nat
  fMv : Nat
  fSet : Nat
  fAp : Nat
  most : Nat
  L : Nat
  N : Nat
  pl : Plan
  zs : List MVal
  df : Dfs
  sx : SxL
  flex : Int
end
set_option linter.unusedVariables false
theorem beVal_snoc (l : List UInt8) (b : UInt8) : beVal (l ++ [b]) = beVal l * 256 + b.toNat := by simp [beVal, List.foldl_append]
theorem be_len : ∀ (k n : Nat), (be n k).length = k
  | 0, _ => rfl
  | k + 1, n => by simp [be, be_len k]
theorem beVal_be : ∀ (k n : Nat), beVal (be n k) = n % 256 ^ k
  | 0, n => by simp [be, beVal, Nat.mod_one]
  | k + 1, n => by
    rw [be, beVal_snoc, beVal_be k]
    have : (UInt8.ofNat (n % 256)).toNat = n % 256 := by simp
    rw [this, Nat.pow_succ, Nat.mul_comm (256 ^ k) 256, Nat.mod_mul]
    omega
theorem takeN_app {k : Nat} {l : List UInt8} (r : List UInt8) (h : l.length = k) : takeN k (l ++ r) = some (l, r) := by
  unfold takeN
  rw [if_pos (by rw [List.length_append]; omega), ← h, List.take_left, List.drop_left]
theorem dNat_be {k n : Nat} (r : List UInt8) : dNat k (be n k ++ r) = some (n % 256 ^ k, r) := by
  unfold dNat
  rw [Dec.map_of (takeN_app r (be_len k n)), beVal_be]
theorem dNat_fix {k : Nat} {i : Int} (r : List UInt8) : dNat k (fix i k ++ r) = some ((i % (256 ^ k : Int)).toNat % 256 ^ k, r) := dNat_be r
theorem dInt_fix {k : Nat} {i : Int} (r : List UInt8) : dInt k (fix i k ++ r) = some (sgn k ((i % (256 ^ k : Int)).toNat % 256 ^ k), r) := by
  unfold dInt
  rw [Dec.map_of (dNat_fix r)]
theorem fix_len (i : Int) (k : Nat) : (fix i k).length = k := be_len _ _
theorem sgn1 {i : Int} (h0 : -128 ≤ i) (h1 : i ≤ 127) : sgn 1 ((i % (256 ^ 1 : Int)).toNat % 256 ^ 1) = i := by
  unfold sgn; simp only [Nat.pow_one, Int.pow_one]; split <;> omega
theorem sgn2 {i : Int} (h0 : -32768 ≤ i) (h1 : i ≤ 32767) : sgn 2 ((i % (256 ^ 2 : Int)).toNat % 256 ^ 2) = i := by
  unfold sgn; simp only [show (256 : Nat) ^ 2 = 65536 from rfl, show (256 : Int) ^ 2 = 65536 from rfl]; split <;> omega
theorem sgn4 {i : Int} (h0 : -2147483648 ≤ i) (h1 : i ≤ 2147483647) : sgn 4 ((i % (256 ^ 4 : Int)).toNat % 256 ^ 4) = i := by
  unfold sgn; simp only [show (256 : Nat) ^ 4 = 4294967296 from rfl, show (256 : Int) ^ 4 = 4294967296 from rfl]; split <;> omega
theorem sgn8 {i : Int} (h0 : -9223372036854775808 ≤ i) (h1 : i ≤ 9223372036854775807) : sgn 8 ((i % (256 ^ 8 : Int)).toNat % 256 ^ 8) = i := by
  unfold sgn; simp only [show (256 : Nat) ^ 8 = 18446744073709551616 from rfl, show (256 : Int) ^ 8 = 18446744073709551616 from rfl]; split <;> omega
theorem uvb_rt : ∀ (k j n : Nat) (r : List UInt8), n < 16 * 128 ^ k → k ≤ j → dUvb k (uvb j n ++ r) = some (n, r)
  | 0, j, n, r, h, hj => by
    have h16 : n < 16 := by simpa using h
    have e : uvb j n = [UInt8.ofNat n] := by cases j <;> simp [uvb]; omega
    rw [e]
    show dUvb 0 (UInt8.ofNat n :: r) = _
    have e2 : (UInt8.ofNat n).toNat = n := by simp; omega
    simp only [dUvb, e2]
    rw [if_pos (by omega)]
  | k + 1, j, n, r, h, hj => by
    obtain ⟨j, rfl⟩ : ∃ j', j = j' + 1 := ⟨j - 1, by omega⟩
    by_cases hn : n < 128
    · have e : uvb (j + 1) n = [UInt8.ofNat n] := by simp [uvb, hn]
      have e2 : (UInt8.ofNat n).toNat = n := by simp; omega
      rw [e]
      show dUvb (k + 1) (UInt8.ofNat n :: r) = _
      simp only [dUvb, e2]
      rw [if_pos hn]
    · have e : uvb (j + 1) n = UInt8.ofNat (n % 128 + 128) :: uvb j (n / 128) := by simp [uvb, hn]
      have e2 : (UInt8.ofNat (n % 128 + 128)).toNat = n % 128 + 128 := by simp; omega
      rw [e]
      show dUvb (k + 1) (UInt8.ofNat (n % 128 + 128) :: (uvb j (n / 128) ++ r)) = _
      simp only [dUvb, e2]
      rw [if_neg (by omega), uvb_rt k j (n / 128) r (by rw [Nat.pow_succ] at h; omega) (by omega)]
      simp only [Option.some.injEq, Prod.mk.injEq, and_true]
      omega
theorem uv_rt {n : Nat} (r : List UInt8) (h : n < 4294967296) : dUv (uv n ++ r) = some (n, r) := uvb_rt 4 9 n r (by simpa using h) (by omega)
theorem dLen_cnt {flex : Bool} {k n : Nat} (r : List UInt8) (hk : k = 2 ∨ k = 4) (h : n ≤ 32767) : dLen flex k (cnt flex k n ++ r) = some ((n : Int), r) := by
  cases flex
  · simp only [dLen, cnt, Bool.false_eq_true, if_false]
    rw [dInt_fix]
    rcases hk with rfl | rfl
    · rw [sgn2 (by omega) (by omega)]
    · rw [sgn4 (by omega) (by omega)]
  · simp only [dLen, cnt, if_true]
    rw [Dec.map_of (uv_rt r (by omega))]
    simp only [Option.some.injEq, Prod.mk.injEq, and_true]; omega
theorem dLen_null {flex : Bool} {k : Nat} (r : List UInt8) (hk : k = 2 ∨ k = 4) : dLen flex k (cntNull flex k ++ r) = some (-1, r) := by
  cases flex
  · simp only [dLen, cntNull, Bool.false_eq_true, if_false]
    rw [dInt_fix]
    rcases hk with rfl | rfl
    · rw [sgn2 (by omega) (by omega)]
    · rw [sgn4 (by omega) (by omega)]
  · simp only [dLen, cntNull, if_true]
    rw [Dec.map_of (uv_rt r (by omega))]
    rfl
theorem dSpan_app {l : List UInt8} (r : List UInt8) : dSpan (l.length : Nat) (l ++ r) = some (l, r) := by
  unfold dSpan
  rw [if_neg (by omega)]
  exact takeN_app r (by simp)
theorem aLen_small {n : Nat} (h : n ≤ 32768) : aLen n = (n : Int) - 1 := by
  unfold aLen
  rw [wrap_i32 (n := (n : Int)) (by omega) (by omega), wrap_i32 (by omega) (by omega)]
theorem dALen_cnt {flex : Bool} {n : Nat} (r : List UInt8) (h : n ≤ 32767) (hr : n ≤ r.length) : dALen flex (cnt flex 4 n ++ r) = some ((n : Int), r) := by
  cases flex
  · simp only [dALen, cnt, Bool.false_eq_true, if_false]
    rw [Dec.bind_of (dInt_fix r), sgn4 (by omega) (by omega)]
    unfold atMost; rw [if_neg (by omega)]
  · simp only [dALen, cnt, if_true]
    rw [Dec.bind_of (uv_rt r (by omega)), aLen_small (by omega)]
    unfold atMost; rw [if_neg (by omega)]
    simp only [Option.some.injEq, Prod.mk.injEq, and_true]; omega
theorem dALen_null {flex : Bool} (r : List UInt8) : dALen flex (cntNull flex 4 ++ r) = some (-1, r) := by
  cases flex
  · simp only [dALen, cntNull, Bool.false_eq_true, if_false]
    rw [Dec.bind_of (dInt_fix r), sgn4 (by omega) (by omega)]
    unfold atMost; rw [if_neg (by omega)]
  · simp only [dALen, cntNull, if_true]
    rw [Dec.bind_of (uv_rt r (by omega)), aLen_small (by omega)]
    unfold atMost; rw [if_neg (by omega)]
    rfl
def okP (k : PK) (d : D) : Prop :=
  match k with
  | .i8 => ∃ i, d = .n i ∧ -128 ≤ i ∧ i ≤ 127
  | .i16 => ∃ i, d = .n i ∧ -32768 ≤ i ∧ i ≤ 32767
  | .u16 => ∃ i, d = .n i ∧ 0 ≤ i ∧ i ≤ 65535
  | .i32 => ∃ i, d = .n i ∧ -2147483648 ≤ i ∧ i ≤ 2147483647
  | .i64 => ∃ i, d = .n i ∧ -9223372036854775808 ≤ i ∧ i ≤ 9223372036854775807
  | .f64 => ∃ i, d = .n i ∧ 0 ≤ i ∧ i < 18446744073709551616
  | .bool => d = .n 0 ∨ d = .n 1
  | .uuid => ∃ l, d = .s (some l) ∧ l.length = 16
  | .str | .byt => ∃ l, d = .s (some l) ∧ l.length ≤ 32767
  | .nstr | .nbyt => d = .s none ∨ ∃ l, d = .s (some l) ∧ l.length ≤ 32767
theorem rtP {k : PK} {d : D} {flex : Bool} (r : List UInt8) (h : okP k d) : dP k flex (encP k flex d ++ r) = some (d, r) := by
  cases k <;> simp only [okP] at h <;> unfold dP
  · obtain ⟨i, rfl, h0, h1⟩ := h
    show (dInt 1).map D.n (fix i 1 ++ r) = _
    rw [Dec.map_of (dInt_fix r), sgn1 h0 h1]
  · obtain ⟨i, rfl, h0, h1⟩ := h
    show (dInt 2).map D.n (fix i 2 ++ r) = _
    rw [Dec.map_of (dInt_fix r), sgn2 h0 h1]
  · obtain ⟨i, rfl, h0, h1⟩ := h
    show (dInt 4).map D.n (fix i 4 ++ r) = _
    rw [Dec.map_of (dInt_fix r), sgn4 h0 h1]
  · obtain ⟨i, rfl, h0, h1⟩ := h
    show (dInt 8).map D.n (fix i 8 ++ r) = _
    rw [Dec.map_of (dInt_fix r), sgn8 h0 h1]
  · obtain ⟨i, rfl, h0, h1⟩ := h
    show (dNat 2).map (fun n => D.n (n : Nat)) (fix i 2 ++ r) = _
    rw [Dec.map_of (dNat_fix r)]
    simp only [show (256 : Nat) ^ 2 = 65536 from rfl, show (256 : Int) ^ 2 = 65536 from rfl]
    congr 3; omega
  · rcases h with rfl | rfl <;> rfl
  · obtain ⟨i, rfl, h0, h1⟩ := h
    show (dNat 8).map (fun n => D.n (n : Nat)) (fix i 8 ++ r) = _
    rw [Dec.map_of (dNat_fix r)]
    simp only [show (256 : Nat) ^ 8 = 18446744073709551616 from rfl, show (256 : Int) ^ 8 = 18446744073709551616 from rfl]
    congr 3; omega
  · obtain ⟨l, rfl, hl⟩ := h
    exact Dec.map_of (takeN_app r hl)
  · obtain ⟨l, rfl, hl⟩ := h
    show (dLen flex 2).bind _ ((cnt flex 2 l.length ++ l) ++ r) = _
    rw [List.append_assoc, Dec.bind_of (dLen_cnt _ (.inl rfl) hl), Dec.map_of (dSpan_app r)]
  · rcases h with rfl | ⟨l, rfl, hl⟩
    · show (dLen flex 2).bind _ (cntNull flex 2 ++ r) = _
      rw [Dec.bind_of (dLen_null _ (.inl rfl)), if_pos (by omega)]; rfl
    · show (dLen flex 2).bind _ ((cnt flex 2 l.length ++ l) ++ r) = _
      rw [List.append_assoc, Dec.bind_of (dLen_cnt _ (.inl rfl) hl), if_neg (by omega), Dec.map_of (dSpan_app r)]
  · obtain ⟨l, rfl, hl⟩ := h
    show (dLen flex 4).bind _ ((cnt flex 4 l.length ++ l) ++ r) = _
    rw [List.append_assoc, Dec.bind_of (dLen_cnt _ (.inr rfl) hl), if_neg (by omega), Dec.map_of (dSpan_app r)]
  · rcases h with rfl | ⟨l, rfl, hl⟩
    · show (dLen flex 4).bind _ (cntNull flex 4 ++ r) = _
      rw [Dec.bind_of (dLen_null _ (.inr rfl)), if_pos (by omega)]; rfl
    · show (dLen flex 4).bind _ ((cnt flex 4 l.length ++ l) ++ r) = _
      rw [List.append_assoc, Dec.bind_of (dLen_cnt _ (.inr rfl) hl), if_neg (by omega), Dec.map_of (dSpan_app r)]
/-! ### Tags -/
def okTags (ts : List (Nat × List UInt8)) : Prop := ts.Pairwise (fun x y => x.1 < y.1) ∧ ts.length ≤ 40000 ∧ ∀ t ∈ ts, t.1 < 4294967296 ∧ t.2.length ≤ 32767
theorem setTag_snoc {t : Nat × List UInt8} : ∀ {ts : List (Nat × List UInt8)}, (∀ x ∈ ts, x.1 < t.1) → setTag t ts = ts ++ [t]
  | [], _ => rfl
  | x :: xs, h => by
    rw [setTag, if_pos (h x List.mem_cons_self), setTag_snoc (fun y hy => h y (List.mem_cons_of_mem _ hy))]; rfl
theorem dTag_enc {t : Nat × List UInt8} (r : List UInt8) (h1 : t.1 < 4294967296) (h2 : t.2.length ≤ 32767) : dTag (encTag t ++ r) = some (t, r) := by
  unfold dTag encTag
  rw [List.append_assoc, List.append_assoc, Dec.bind_of (uv_rt _ h1), Dec.bind_of (uv_rt _ (by omega)), Dec.map_of (dSpan_app r)]
def okKn (kn : List KT) (t : Nat × List UInt8) : Prop := ∀ q, kn.find? (fun q => decide (q.tag = t.1)) = some q → ∃ n, n ≠ q.df ∧ t.2 = encP q.k false (.n n) ∧ okP q.k (.n n)
def okTagsK (kn : List KT) (ts : List (Nat × List UInt8)) : Prop := okTags ts ∧ ∀ t ∈ ts, okKn kn t
theorem KT.dec_enc {q : KT} {n : Int} (h : okP q.k (.n n)) : q.dec (encP q.k false (.n n)) = some n := by
  unfold KT.dec
  have := rtP (flex := false) [] h
  rw [List.append_nil] at this
  rw [this]
theorem putK_ok {kn : List KT} {t : Nat × List UInt8} (ts : List (Nat × List UInt8)) (h : okKn kn t) : putK kn t ts = some (setTag t ts) := by
  unfold putK
  split
  · rfl
  · rename_i q hq
    obtain ⟨n, h1, h2, h3⟩ := h q hq
    rw [h2, KT.dec_enc h3]
    simp only
    rw [if_neg h1, ← h2]
theorem dTagNK_enc {kn : List KT} (r : List UInt8) : ∀ (ts acc : List (Nat × List UInt8)), (acc ++ ts).Pairwise (fun x y => x.1 < y.1) → (∀ t ∈ ts, t.1 < 4294967296 ∧ t.2.length ≤ 32767) → (∀ t ∈ ts, okKn kn t) →
    dTagNK kn ts.length acc (ts.flatMap encTag ++ r) = some (acc ++ ts, r)
  | [], acc, _, _, _ => by simp [dTagNK, Dec.pure]
  | t :: ts, acc, hp, h, hk => by
    have ht := h t List.mem_cons_self
    rw [List.flatMap_cons, List.append_assoc]
    show dTagNK kn (ts.length + 1) acc _ = _
    unfold dTagNK
    rw [Dec.bind_of (dTag_enc _ ht.1 ht.2), putK_ok _ (hk t List.mem_cons_self), setTag_snoc (fun x hx => (List.pairwise_append.1 hp).2.2 x hx t List.mem_cons_self)]
    rw [Dec.bind_of (show Kx.dOpt (some (acc ++ [t])) _ = some (acc ++ [t], _) from rfl)]
    rw [dTagNK_enc r ts (acc ++ [t]) (by rw [List.append_assoc]; exact hp) (fun x hx => h x (List.mem_cons_of_mem _ hx)) (fun x hx => hk x (List.mem_cons_of_mem _ hx))]
    simp
theorem dTagsK_enc {kn : List KT} {ts : List (Nat × List UInt8)} (r : List UInt8) (h : okTagsK kn ts) : dTagsK kn (encTags ts ++ r) = some (ts, r) := by
  obtain ⟨⟨h1, h2, h3⟩, h4⟩ := h
  unfold dTagsK encTags
  rw [List.append_assoc, Dec.bind_of (uv_rt _ (by omega)), dTagNK_enc r ts [] (by simpa using h1) h3 h4]
  rfl
/-! ### All of it -/
mutual
def Ok (ver : Int) (flex : Bool) : Ty → D → Prop
  | .prim k _, d => okP k d
  | .enum k _ _, d => okP k d
  | .vstr _ _ _, d => okP .nstr d
  | .arr nul _ _ el, d => ∃ b xs, d = .l b xs ∧ xs.length ≤ 32767 ∧ (b = true → xs = [] ∧ nulOf nul ver (-1) = true) ∧ ∀ x ∈ xs, Ok ver flex el x ∧ 1 ≤ (enc ver flex el x).length
  | .struct _ _ _ tg fs, d => ∃ ds ts, d = .r ds ts ∧ OkF ver flex fs ds ∧ ((tg.isSome && flex) = true → okTagsK (knOf tg) ts)
def OkF (ver : Int) (flex : Bool) : Flds → List D → Prop
  | .nil, _ => True
  | .cons c _ _ _ ty rest, ds => (c.ok ver = true → Ok ver flex ty (ds.headD (.n 0))) ∧ OkF ver flex rest ds.tail
end

mutual
def norm (ver : Int) (flex : Bool) : Ty → D → D
  | .vstr lim _ _, d => vD lim ver d
  | .arr _ _ _ el, .l b xs => .l b (xs.map (norm ver flex el))
  | .struct _ _ _ tg fs, .r ds ts => .r (normF ver flex fs ds) (if tg.isSome && flex then ts else [])
  | _, d => d
def normF (ver : Int) (flex : Bool) : Flds → List D → List D
  | .nil, _ => []
  | .cons c _ _ df ty rest, ds => (if c.ok ver then norm ver flex ty (ds.headD (.n 0)) else dfl ty df) :: normF ver flex rest ds.tail
end

theorem rep_enc {f : Dec D} {e : D → List UInt8} {g : D → D} (r : List UInt8) : ∀ (xs : List D), (∀ x ∈ xs, ∀ r, f (e x ++ r) = some (g x, r)) → rep f xs.length (xs.flatMap e ++ r) = some (xs.map g, r)
  | [], _ => rfl
  | x :: xs, h => by
    rw [List.flatMap_cons, List.append_assoc]
    show rep f (xs.length + 1) _ = _
    unfold rep
    rw [Dec.bind_of (h x List.mem_cons_self _), Dec.map_of (rep_enc r xs (fun y hy => h y (List.mem_cons_of_mem _ hy)))]
    rfl
theorem flat_len {e : D → List UInt8} : ∀ {xs : List D}, (∀ x ∈ xs, 1 ≤ (e x).length) → xs.length ≤ (xs.flatMap e).length
  | [], _ => by simp
  | x :: xs, h => by
    have h1 := h x List.mem_cons_self
    have h2 := flat_len (fun y hy => h y (List.mem_cons_of_mem _ hy))
    rw [List.flatMap_cons, List.length_append, List.length_cons]; omega
theorem vD_ok {lim : Nat} {ver : Int} {d : D} (h : okP .nstr d) : okP (vK lim ver) (vD lim ver d) := by
  unfold vK vD
  split
  · rcases h with rfl | ⟨l, rfl, h⟩
    · exact ⟨[], rfl, Nat.zero_le _⟩
    · exact ⟨l, rfl, h⟩
  · exact h
theorem vNul_of {nul : Option Nat} {ver : Int} (h : nulOf nul ver (-1) = true) : vNul nul ver = true := by
  unfold nulOf at h
  cases nul with
  | none => rfl
  | some k =>
    simp only [Bool.not_eq_true', Bool.or_eq_false_iff, decide_eq_false_iff_not] at h
    cases k with
    | zero => rfl
    | succ k => unfold vNul; exact decide_eq_true (by have := h.1; omega)
theorem nulOf_zero (nul : Option Nat) (ver : Int) : nulOf nul ver 0 = false := by
  unfold nulOf; cases nul <;> simp
mutual
theorem rt (ver : Int) (flex : Bool) : ∀ (ty : Ty) (d : D) (r : List UInt8), Ok ver flex ty d → dec ver flex ty (enc ver flex ty d ++ r) = some (norm ver flex ty d, r)
  | .prim k _, d, r, h => by unfold Ok at h; unfold dec enc norm; exact rtP r h
  | .enum k _ _, d, r, h => by unfold Ok at h; unfold dec enc norm; exact rtP r h
  | .vstr _ _ _, d, r, h => by unfold Ok at h; unfold dec enc norm; exact rtP r (vD_ok h)
  | .arr nul _ _ el, d, r, h => by
    unfold Ok at h
    obtain ⟨b, xs, rfl, hn, hb, hx⟩ := h
    unfold dec enc norm
    cases b with
    | true =>
      obtain ⟨rfl, hnul⟩ := hb rfl
      simp only [vNul_of hnul, Bool.and_self, if_true]
      rw [Dec.bind_of (dALen_null r), if_pos (by omega), hnul]; rfl
    | false =>
      simp only [Bool.false_and, Bool.false_eq_true, if_false]
      rw [List.append_assoc, Dec.bind_of (dALen_cnt _ hn (by have := flat_len (fun x h => (hx x h).2); rw [List.length_append]; omega))]
      by_cases h0 : xs.length = 0
      · have e0 : xs = [] := List.eq_nil_of_length_eq_zero h0
        subst e0
        rw [if_pos (by simp)]
        simp [Dec.pure, nulOf_zero]
      · rw [if_neg (by omega), show ((xs.length : Nat) : Int).toNat = xs.length from by omega]
        rw [Dec.map_of (rep_enc (f := dec ver flex el) (g := norm ver flex el) r xs (fun x h r => rt ver flex el x r (hx x h).1))]
  | .struct _ _ _ tg fs, d, r, h => by
    unfold Ok at h
    obtain ⟨ds, ts, rfl, h1, h2⟩ := h
    unfold dec enc norm
    rw [List.append_assoc, Dec.bind_of (rtF ver flex fs ds _ h1)]
    cases hf : (tg.isSome && flex) with
    | true => simp only [if_true]; rw [Dec.map_of (dTagsK_enc r (h2 hf))]
    | false => simp only [Bool.false_eq_true, if_false, List.nil_append]; rfl
theorem rtF (ver : Int) (flex : Bool) : ∀ (fs : Flds) (ds : List D) (r : List UInt8), OkF ver flex fs ds → decF ver flex fs (encF ver flex fs ds ++ r) = some (normF ver flex fs ds, r)
  | .nil, ds, r, _ => by unfold decF encF normF; rfl
  | .cons c _ _ df ty rest, ds, r, h => by
    unfold OkF at h
    unfold decF encF normF
    cases hc : c.ok ver with
    | true =>
      simp only [if_true]
      rw [List.append_assoc, Dec.bind_of (rt ver flex ty _ _ (h.1 hc)), Dec.map_of (rtF ver flex rest _ r h.2)]
    | false =>
      simp only [Bool.false_eq_true, if_false, List.nil_append]
      rw [Dec.bind_of (show Dec.pure (dfl ty df) _ = some (dfl ty df, _) from rfl), Dec.map_of (rtF ver flex rest _ r h.2)]
end
set_option linter.unusedVariables false
theorem takeN_some {k : Nat} {l x r : List UInt8} (h : takeN k l = some (x, r)) : x.length = k ∧ x.length + r.length = l.length := by
  unfold takeN at h
  split at h
  · rename_i hk
    simp only [Option.some.injEq, Prod.mk.injEq] at h
    obtain ⟨rfl, rfl⟩ := h
    simp only [List.length_take, List.length_drop]; omega
  · simp at h
theorem beVal_lt : ∀ (l : List UInt8), beVal l < 256 ^ l.length := by
  intro l
  induction h : l.length generalizing l with
  | zero => have := List.eq_nil_of_length_eq_zero h; subst this; simp [beVal]
  | succ n ih =>
    have hne : l ≠ [] := by intro e; subst e; simp at h
    have e := List.dropLast_concat_getLast hne
    have h2 := ih l.dropLast (by rw [List.length_dropLast]; omega)
    have h3 : (l.getLast hne).toNat < 256 := (l.getLast hne).toNat_lt
    rw [← e, beVal_snoc, Nat.pow_succ]
    omega
theorem dNat_some {k n : Nat} {l r : List UInt8} (h : dNat k l = some (n, r)) : n < 256 ^ k ∧ k + r.length = l.length := by
  unfold dNat at h
  obtain ⟨x, h1, rfl⟩ := Dec.map_some.1 h
  obtain ⟨h2, h3⟩ := takeN_some h1
  have := beVal_lt x
  rw [h2] at this
  exact ⟨this, by omega⟩
theorem dInt_some {k : Nat} {n : Int} {l r : List UInt8} (hk : k = 1 ∨ k = 2 ∨ k = 4 ∨ k = 8) (h : dInt k l = some (n, r)) : -((256 ^ k / 2 : Nat) : Int) ≤ n ∧ n < ((256 ^ k / 2 : Nat) : Int) ∧ k + r.length = l.length := by
  unfold dInt at h
  obtain ⟨x, h1, rfl⟩ := Dec.map_some.1 h
  obtain ⟨h2, h3⟩ := dNat_some h1
  refine ⟨?_, ?_, h3⟩ <;> unfold sgn <;> rcases hk with rfl | rfl | rfl | rfl <;> simp only [Nat.reducePow, Nat.reduceDiv] at h2 ⊢ <;> split <;> omega
/-! ### At least one octet -/
mutual
def min1 (ver : Int) (flex : Bool) : Ty → Bool
  | .struct _ _ _ tg fs => (tg.isSome && flex) || min1F ver flex fs
  | _ => true
def min1F (ver : Int) (flex : Bool) : Flds → Bool
  | .nil => false
  | .cons c _ _ _ ty rest => (c.ok ver && min1 ver flex ty) || min1F ver flex rest
end
mutual
def minOk (ver : Int) (flex : Bool) : Ty → Bool
  | .arr _ _ _ el => min1 ver flex el && minOk ver flex el
  | .struct _ _ _ _ fs => minOkF ver flex fs
  | _ => true
def minOkF (ver : Int) (flex : Bool) : Flds → Bool
  | .nil => true
  | .cons c _ _ _ ty rest => (!c.ok ver || minOk ver flex ty) && minOkF ver flex rest
end


/-! ### Tags that are read -/
/-! ### All of it -/
set_option linter.unusedVariables false
def rowFacts (P : Program) (f : FuncId) (fn : Func) (s : ChangeSpec) (c : OpenClaim) : Bool :=
  c.wf (OpenSpec.ofChange s) && true && true &&
  fn.params.all (P.readableRec ·) && namedTie P c.named s.vars &&
  (c.stops == []) && true && (c.knobs == []) && true &&
  (c.inPlace == P.inPlace f) && (c.unfollowed == P.unfollowed f) && (c.recurses == P.recurses f) && (c.named == P.varsNamed f) &&
  (c.maps == (fn.params.toList ++ s.plain.varTypes P).any (P.mapsRec ·)) && (c.ifaces == (fn.params.toList ++ s.plain.varTypes P).any (P.ifacesRec ·)) && (c.mapsOut == P.mapsAmong fn.resultTypes.toList) &&
  (c.loops == (fn.params.toList ++ s.plain.varTypes P).any (P.loopsFrom ·)) && (c.wideKeys == (fn.params.toList ++ s.plain.varTypes P ++ fn.resultTypes.toList).any (P.wideKeysFrom ·)) &&
  s.vars.all (P.varReadable ·) && fn.resultTypes.all (fun t => P.readableRec t && decide (t < P.types.size)) && (c.ifacesOut == fn.resultTypes.toList.any (P.ifacesRec ·)) && (c.loopsOut == fn.resultTypes.toList.any (P.loopsFrom ·)) && (c.plainKeys == P.plainKeys) && c.shortTexts.isNone && true && true && true && true && (c.kinds == (if c.domain.isEmpty then [] else fn.params.toList.map fun t => match P.underlying t with | some (.int k) => some k | _ => none)) && (c.pinned == c.pinnedBy) &&
  (c.veiled == (fn.params.toList ++ s.plain.varTypes P ++ fn.resultTypes.toList).any (P.veiledRec ·)) && c.veiledFits P fn.params.toList (fn.params.toList ++ s.plain.varTypes P ++ fn.resultTypes.toList)
theorem joined_of {P : Program} {f : FuncId} {fn : Func} {s : ChangeSpec} {c : OpenClaim} (h : rowFacts P f fn s c = true) (h1 : laidOutB P = true) (h2 : mapsRowed P = true) (h3 : (P.stops == []) = true) (h4 : (P.stopKnobs == []) = true)
    (h5 : P.stopsHeard = true) (h6 : P.mayEnter = true) (h7 : (c.lifted == P.liftsFinal) = true) (h8 : (P.make == some c.make) = true) : joinedFacts P f fn s c = true := by
  unfold joinedFacts
  rw [h1, h2, h3, h4, h5, h6, h7, h8]
  exact h
set_option linter.unusedSectionVars false
def wrapS (k : Nat) (n : Int) : Int := sgn k (n % (256 ^ k : Int)).toNat
def mP (k : PK) (kind nul : Int) : Bool :=
  match k with
  | .i8 => sameInt kind 1
  | .i16 => sameInt kind 2
  | .u16 => sameInt kind 5
  | .i32 => sameInt kind 3
  | .i64 => sameInt kind 4
  | .f64 => sameInt kind 6
  | .bool => sameInt kind 0
  | .uuid => sameInt kind 7
  | .str => sameInt kind 8 && decide (nul < 0)
  | .nstr => sameInt kind 8 && decide (0 ≤ nul)
  | .byt => sameInt kind 9 && decide (nul < 0)
  | .nbyt => sameInt kind 9 && decide (0 ≤ nul)
def toP (ver : Int) (k : PK) (nul : Int) (t : Tr) : D :=
  match k with
  | .i8 => .n (wrapS 1 t.n)
  | .i16 => .n (wrapS 2 t.n)
  | .u16 => .n (t.n % (256 ^ 2 : Int))
  | .i32 => .n (wrapS 4 t.n)
  | .i64 => .n (wrapS 8 t.n)
  | .f64 => .n (t.n % (256 ^ 8 : Int))
  | .bool => .n (t.n % 2)
  | .uuid => .s (some ((t.s ++ List.replicate 16 0).take 16))
  | .str | .byt => .s (some (t.s.take most))
  | .nstr | .nbyt => if sNull nul ver t.null then .s none else .s (some (t.s.take most))
/-! ### Tags -/
def sTagU (least : Nat) (t : Tr) : List (Nat × List UInt8) := (sUnk least t.u).map fun x => (x.1, x.2.take most)
/-! ### Known tags -/
def tgF : Fds → Nat → List (Nat × Fd)
  | .nil, _ => []
  | .cons f r, i => (if 0 ≤ f.tag then [(i, f)] else []) ++ tgF r (i + 1)
def knM1 (q : KT) (x : Nat × Fd) : Bool := Nat.beq q.pos x.1 && sameInt x.2.tag q.tag && mP q.k x.2.kind x.2.nul && sameInt x.2.df q.df && rangeB q.k q.df && Nat.blt q.tag 1000
def knM2 : List KT → List (Nat × Fd) → Bool
  | [], [] => true
  | q :: r, x :: xs => knM1 q x && knM2 r xs
  | _, _ => false
def knM (kn : List KT) (sub : Fds) : Bool := knM2 kn (tgF sub 0) && ascT 0 kn && Nat.ble kn.length 1000
def numT (k : PK) (t : Tr) : Int := match toP 0 k (-1) t with | .n n => n | _ => 0
def sKn (kn : List KT) (t : Tr) : List (Nat × List UInt8) := kn.flatMap fun q => q.enc (numT q.k (t.l.getD q.pos .zero))
def sTagK (kn : List KT) (sub : Fds) (t : Tr) : List (Nat × List UInt8) := sKn kn t ++ sTagU (sKnown sub) t
def skipT : Fds → Nat → Fds × Nat
  | .nil, i => (.nil, i)
  | .cons f r, i => if 0 ≤ f.tag then skipT r (i + 1) else (.cons f r, i)
/-! ### All of it -/
def cM (mx : Nat) (c : Cnd) (fr to : Int) : Bool := (List.range (mx + 1)).all fun v => (c.ok (v : Nat)) == sHas fr to (v : Nat)
def nulM (nul : Option Nat) (fn : Int) : Bool :=
  match nul with
  | none => decide (fn < 0)
  | some nv => decide (fn < 0) || decide ((nv : Int) ≤ fn)
mutual
def mTy (mx : Nat) (fx : Bool) : Ty → Fd → Bool
  | .prim k _, .mk kind _ _ nul _ _ _ _ => mP k kind nul
  | .enum k _ _, .mk kind _ _ nul _ _ _ _ => mP k kind nul
  | .arr nul _ _ el, .mk kind _ _ fn _ _ of sub => sameInt kind 11 && nulM nul fn && mEl mx fx el of sub
  | .vstr _ _ _, _ => false
  | .struct _ _ _ tg fs, .mk kind _ _ nul _ _ _ sub => sameInt kind 10 && decide (nul < 0) && (tg.isSome || !fx) && knM (knOf tg) sub && mF mx fx fs sub
def mEl (mx : Nat) (fx : Bool) : Ty → Int → Fds → Bool
  | .prim k _, of, _ => mP k of (-1)
  | .struct _ _ _ tg fs, of, sub => sameInt of 10 && (tg.isSome || !fx) && knM (knOf tg) sub && mF mx fx fs sub
  | _, _, _ => false
def mF (mx : Nat) (fx : Bool) : Flds → Fds → Bool
  | .nil, fds => (match (skipT fds 0).1 with | .nil => true | .cons _ _ => false)
  | .cons c _ _ _ ty r, fds => (match (skipT fds 0).1 with | .cons f r' => cM mx c f.fr f.to && mTy mx fx ty f && mF mx fx r r' | .nil => false)
end

mutual
def toD (ver : Int) (flex : Bool) : Ty → Fd → Tr → D
  | .prim k _, f, t => toP ver k f.nul t
  | .enum k _ _, f, t => toP ver k f.nul t
  | .vstr _ _ _, _, _ => .n 0
  | .arr _ _ _ el, f, t => .l (sNull f.nul ver t.null) ((if sNull f.nul ver t.null then [] else t.l.take most).map (toE ver flex el f.sub))
  | .struct _ _ _ tg fs, f, t => .r (toF ver flex fs f.sub 0 t) (sTagK (knOf tg) f.sub t)
def toE (ver : Int) (flex : Bool) : Ty → Fds → Tr → D
  | .prim k _, _, t => toP ver k (-1) t
  | .struct _ _ _ tg fs, sub, t => .r (toF ver flex fs sub 0 t) (sTagK (knOf tg) sub t)
  | _, _, _ => .n 0
def toF (ver : Int) (flex : Bool) : Flds → Fds → Nat → Tr → List D
  | .nil, _, _, _ => []
  | .cons _ _ _ _ ty r, fds, i, t => (match skipT fds i with | (.cons f r', j) => toD ver flex ty f (t.l.getD j .zero) :: toF ver flex r r' (j + 1) t | (.nil, _) => [])
end

section
variable {mx : Nat} {fx : Bool} {ver : Int} {flex : Bool} (h0 : 0 ≤ ver) (h1 : ver ≤ mx) (hf : flex = true → fx = true)
include h0 h1 hf

end
def mTopB (p : Plan) (fs : Fds) (flex : Int) (mx : Nat) : Bool :=
  mF mx p.fl.isSome p.fs fs && knM (knOf p.tg) fs && (p.tg.isSome || !p.fl.isSome) && (List.range (mx + 1)).all (fun v => (p.flex (v : Nat) == (decide (0 ≤ flex) && decide (flex ≤ (v : Nat)))) && minOkF (v : Nat) (p.flex (v : Nat)) p.fs)
set_option linter.unusedVariables false
def jumpR (l : Nat) (J : (Nat → Value) → World → Prop) (Q : Exit → (Nat → Value) → World → Prop) : Exit → (Nat → Value) → World → Prop
  | .goto l', ρ, w => l' = l ∧ J ρ w
  | e, ρ, w => Q e ρ w
section
variable {P : Program} {N : Nat} {Q Q' : Exit → (Nat → Value) → World → Prop} {ρ : Nat → Value} {w w' : World} {ms : List MOp} {d : Nat} {v : Value}
theorem RW.lb {l : Nat} (h : Q .normal ρ w) : RW P N (.lb l) Q ρ w := fun a ha => MW.lb ⟨ρ, ha, h⟩
theorem RW.gt {l : Nat} (h : Q (.goto l) ρ w) : RW P N (.gt l) Q ρ w := fun a ha => MW.gt ⟨ρ, ha, h⟩
theorem RW.sc {b r : MCode} {l : Nat} (J : (Nat → Value) → World → Prop) (hf : findM l b = some r) (h : RW P N b (jumpR l J Q) ρ w) (hr : ∀ ρ w, J ρ w → RW P N r (jumpR l (fun _ _ => False) Q) ρ w) : RW P N (.sc b) Q ρ w := by
  intro a ha
  refine MW.sc (l := l) (fun a w => ∃ ρ, Loc N N ρ a ∧ J ρ w) hf ((h a ha).mono fun e a w hu => ?_) fun a w hJ => ?_
  · cases e <;> simp only [up, jumpR, Exit.jump] at hu ⊢ <;> first | exact hu | (obtain ⟨ρ, h1, h2, h3⟩ := hu; exact ⟨h2, ρ, h1, h3⟩)
  · obtain ⟨ρ, h1, h2⟩ := hJ
    refine ((hr ρ w h2) a h1).mono fun e a w hu => ?_
    cases e <;> simp only [up, jumpR, Exit.jump] at hu ⊢ <;> first | exact hu | (obtain ⟨ρ, h1, h2, h3⟩ := hu; exact ⟨h2, h3⟩)
theorem MR.iak {T x e b o len cap i sz : Nat} (ht : sliceOf P T e = true) (hn : cellsB P e sz = true) (hx : ρ x = .slice (some ⟨b, o, none⟩) len cap) (hj : i < len) (hxN : x < N := by decide) :
    MR P N (.iak d T x i) ρ w d (.pointer (some ⟨b, o + i * sz, none⟩)) w := by
  intro a o' hl hf
  generalize hop : o'.op = op at hf
  unfold execOp
  cases op <;> try (simp only [fitOp, Bool.false_eq_true] at hf; done)
  rename_i T' x' i'
  cases i' <;> simp only [fitOp, Bool.and_eq_true, Bool.false_eq_true, Nat.beq_eq] at hf
  rename_i vi
  obtain ⟨⟨⟨h1, h2⟩, h3⟩, h4⟩ := hf
  subst h2
  have hv := MVal.is_eq h4
  subst hv
  refine ⟨dstIs_eq h1, ?_⟩
  have hn' := cellsB_map hn
  cases hie : P.info? e with
  | none => simp [hie] at hn'
  | some ie =>
    simp only [hie, Option.map_some, Option.some.injEq] at hn'
    have he2 : a.eval (.const (MVal.int .i64 i).val) = .int .i64 i := rfl
    simp only [hop, Sem.run_bind, tmpL hl hxN h3, he2, hx, Instr.indexAt]
    simp [asIntOf, run_underlying (sliceOf_eq ht), sizeOf, typeInfo, hie, hn', Addr.add_mid, hj]
theorem MR.lg {ty g : Nat} (hr : (Instr.loadAt ty (.pointer (some ⟨g, 0, none⟩))).run P w = .ok v w) : MR P N (.lg d ty g) ρ w d v w := by
  intro a o hl hf
  generalize hop : o.op = op at hf
  unfold execOp
  cases op <;> try (simp only [fitOp, Bool.false_eq_true] at hf; done)
  rename_i ty' x
  cases x <;> simp only [fitOp, Bool.and_eq_true, Bool.false_eq_true, Nat.beq_eq] at hf
  obtain ⟨⟨h1, h2⟩, h3⟩ := hf
  subst h2 h3
  have he : ∀ g : Nat, a.eval (.global g) = .pointer (some ⟨g, 0, none⟩) := fun g => rfl
  exact ⟨dstIs_eq h1, by simp only [hop, Sem.run_bind, he, hr, Result.andThen_ok, Sem.run_pure]⟩
/-! ### Slices of octets -/
theorem run_sliceFromS {T U n c l : Nat} {ad : Option Addr} (hT : sliceOf P T U = true) (hU : cellsB P U 1 = true) (had : okAd ad) (h1 : l ≤ n) (h2 : n ≤ c) :
    ∃ ad', (Instr.sliceAt T (.slice ad n c) (some (.int .i64 (l : Nat))) none none).run P w = .ok (.slice ad' (n - l) (c - l)) w ∧ okAd ad' ∧ (∀ {F : Nat → Prop} {bs : List UInt8}, bs.length = n → BytesAt w F ad bs → BytesAt w F ad' (bs.drop l)) ∧ (ad = none → ad' = none) ∧ (∀ a, ad = some a → ∃ a', ad' = some a') := by
  have hn' := cellsB_map hU
  cases hie : P.info? U with
  | none => simp [hie] at hn'
  | some ie =>
    simp only [hie, Option.map_some, Option.some.injEq] at hn'
    refine ⟨if c = l then ad else ad.map (·.add (l * 1)), ?_, ?_, ?_, fun h => by subst h; split <;> rfl, fun a h => by subst h; split <;> exact ⟨_, rfl⟩⟩
    · simp only [Instr.sliceAt, Sem.run_bind, run_underlying (sliceOf_eq hT), Result.andThen_ok, Instr.slice, Instr.sliceBounds, Instr.sliceBound, asIntOf, Sem.run_pure, sizeOf, typeInfo, run_program, hie, hn']
      rw [if_pos ⟨by omega, by omega⟩]
      simp only [Sem.run_pure, Result.andThen_ok, Int.toNat_natCast]
    · rcases had with rfl | ⟨g, o, rfl⟩
      · split <;> exact .inl rfl
      · split
        · exact .inr ⟨g, o, rfl⟩
        · exact .inr ⟨g, o + l * 1, by simp [Addr.add_mid]⟩
    · intro F bs hl hb
      by_cases hc : c = l
      · have : bs.drop l = [] := List.drop_eq_nil_of_le (by omega)
        rw [this]
        intro j b hj; simp at hj
      · rw [if_neg hc]
        intro j b hj
        rw [List.getElem?_drop] at hj
        obtain ⟨g, o, rfl, h3, h4⟩ := hb (l + j) b hj
        exact ⟨g, o + l * 1, by simp [Addr.add_mid], h3, by rw [Nat.mul_one, Nat.add_assoc]; exact h4⟩
theorem run_sliceFrom {T U n c l : Nat} {ad : Option Addr} (hT : sliceOf P T U = true) (hU : cellsB P U 1 = true) (had : okAd ad) (h1 : l ≤ n) (h2 : n ≤ c) :
    ∃ ad', (Instr.sliceAt T (.slice ad n c) (some (.int .i64 (l : Nat))) none none).run P w = .ok (.slice ad' (n - l) (c - l)) w ∧ okAd ad' ∧ (∀ {F : Nat → Prop} {bs : List UInt8}, bs.length = n → BytesAt w F ad bs → BytesAt w F ad' (bs.drop l)) ∧ (ad = none → ad' = none) := by
  obtain ⟨ad', g1, g2, g3, g4, _⟩ := run_sliceFromS (P := P) (w := w) hT hU had h1 h2
  exact ⟨ad', g1, g2, g3, g4⟩
theorem run_slice3 {T U n c l : Nat} {ad : Option Addr} (hT : sliceOf P T U = true) (hU : cellsB P U 1 = true) (had : okAd ad) (h1 : l ≤ c) :
    (Instr.sliceAt T (.slice ad n c) none (some (.int .i64 (l : Nat))) (some (.int .i64 (l : Nat)))).run P w = .ok (.slice ad l l) w := by
  have hn' := cellsB_map hU
  cases hie : P.info? U with
  | none => simp [hie] at hn'
  | some ie =>
    simp only [hie, Option.map_some, Option.some.injEq] at hn'
    simp only [Instr.sliceAt, Sem.run_bind, run_underlying (sliceOf_eq hT), Result.andThen_ok, Instr.slice, Instr.sliceBounds, Instr.sliceBound, asIntOf, Sem.run_pure, sizeOf, typeInfo, run_program, hie, hn']
    rw [if_pos ⟨by omega, by omega⟩]
    simp only [Sem.run_pure, Result.andThen_ok, Int.toNat_natCast]
    rw [if_pos ⟨by omega, by omega⟩]
    simp only [Sem.run_pure, Result.andThen_ok, Int.toNat_natCast, Nat.sub_zero]
    congr 2
    rcases had with rfl | ⟨g, o, rfl⟩
    · split <;> rfl
    · split
      · rfl
      · simp [Addr.add_mid]
/-! ### Numbers out of octets -/
theorem or_u32 {a b : Nat} (ha : a < 4294967296) (hb : b < 4294967296) : IntKind.u32.wrap ((BitVec.ofInt IntKind.u32.bits (a : Int) ||| BitVec.ofInt IntKind.u32.bits (b : Int)).toNat : Int) = ((a ||| b : Nat) : Int) := by
  have h : a ||| b < 2 ^ 32 := Nat.or_lt_two_pow (by omega) (by omega)
  have e1 : (BitVec.ofInt 32 (a : Int)).toNat = a := by rw [BitVec.toNat_ofInt]; omega
  have e2 : (BitVec.ofInt 32 (b : Int)).toNat = b := by rw [BitVec.toNat_ofInt]; omega
  show IntKind.u32.wrap ((BitVec.ofInt 32 (a : Int) ||| BitVec.ofInt 32 (b : Int)).toNat : Int) = _
  rw [BitVec.toNat_or, e1, e2]
  simp [IntKind.wrap, IntKind.signed, IntKind.bits]; omega
theorem or_u64 {a b : Nat} (ha : a < 18446744073709551616) (hb : b < 18446744073709551616) : IntKind.u64.wrap ((BitVec.ofInt IntKind.u64.bits (a : Int) ||| BitVec.ofInt IntKind.u64.bits (b : Int)).toNat : Int) = ((a ||| b : Nat) : Int) := by
  have h : a ||| b < 2 ^ 64 := Nat.or_lt_two_pow (by omega) (by omega)
  have e1 : (BitVec.ofInt 64 (a : Int)).toNat = a := by rw [BitVec.toNat_ofInt]; omega
  have e2 : (BitVec.ofInt 64 (b : Int)).toNat = b := by rw [BitVec.toNat_ofInt]; omega
  show IntKind.u64.wrap ((BitVec.ofInt 64 (a : Int) ||| BitVec.ofInt 64 (b : Int)).toNat : Int) = _
  rw [BitVec.toNat_or, e1, e2]
  simp [IntKind.wrap, IntKind.signed, IntKind.bits]; omega
theorem or_add {x y s : Nat} (h : x < 2 ^ s) : x ||| (y * 2 ^ s) = x + y * 2 ^ s := by
  rw [Nat.or_comm, Nat.mul_comm, ← Nat.two_pow_add_eq_or_of_lt h]; omega
theorem wrap_u32n {n : Nat} (h : n < 4294967296) : IntKind.u32.wrap (n : Int) = n := by simp [IntKind.wrap, IntKind.signed, IntKind.bits]; omega
theorem wrap_u64n {n : Nat} (h : n < 18446744073709551616) : IntKind.u64.wrap (n : Int) = n := by simp [IntKind.wrap, IntKind.signed, IntKind.bits]; omega
end
structure RN where
  T : IT
  tR : Nat
  tBE : Nat
  gBE : Nat
  gErr : Nat
  tErr : Nat
  be16 : Nat
  be32 : Nat
  be64 : Nat
  uvd : Nat
  span : Nat
  uv : Nat
  i8 : Nat
  i16 : Nat
  u16 : Nat
  i32 : Nat
  i64 : Nat
  r64 : Nat
  bool : Nat
  str : Nat
  cstr : Nat
  nstr : Nat
  cnstr : Nat
  byt : Nat
  cbyt : Nat
  nbyt : Nat
  cnbyt : Nat
  uuid : Nat
  alen : Nat
  calen : Nat
  compl : Nat
  okf : Nat
  tA : Nat := 0
  f64 : Nat := 0
  ffr : Nat := 0
structure ROK (P : Program) (R : RN) : Prop where
  tk : TOK P R.T
  mo : P.follows .mixedOrders = true
  f0 : fieldAtB P R.tR 0 0 = true
  f1 : fieldAtB P R.tR 1 1 = true
  ps : plainTy P R.T.u8s = true
  pb : plainTy P R.T.bool = true
  pu : plainTy P R.T.u8 = true
  cs : cellsB P R.T.u8s 1 = true
  cb : cellsB P R.T.bool 1 = true
  cu : cellsB P R.T.u8 1 = true
  be : rowTy P R.tBE = true
  bn : cellsB P R.tBE 0 = true
  pe : plainTy P R.tErr = true
def rokB (P : Program) (R : RN) : List Bool := [tokB P R.T, P.follows .mixedOrders, fieldAtB P R.tR 0 0, fieldAtB P R.tR 1 1, plainTy P R.T.u8s, plainTy P R.T.bool, plainTy P R.T.u8, cellsB P R.T.u8s 1, cellsB P R.T.bool 1, cellsB P R.T.u8 1, rowTy P R.tBE, cellsB P R.tBE 0, plainTy P R.tErr]
theorem rok_of {P : Program} {R : RN} (h : (rokB P R).all id = true) : ROK P R := by
  simp only [rokB, List.all_cons, List.all_nil, id_eq, Bool.and_true, Bool.and_eq_true] at h
  obtain ⟨h1, h2, h3, h4, h5, h6, h7, h8, h9, h10, h11, h12, h13⟩ := h
  exact ⟨tok_of h1, h2, h3, h4, h5, h6, h7, h8, h9, h10, h11, h12, h13⟩
def RdAt (w : World) (rb sb : Nat) : Option (List UInt8) → Prop
  | some l => ∃ ad c, w.rangeAt rb 0 [.slice ad l.length c, .bool false] ∧ w.there rb 0 2 ∧ okAd ad ∧ l.length ≤ c ∧ BytesAt w (· = sb) ad l
  | none => w.rangeAt rb 0 [.slice none 0 0, .bool true] ∧ w.there rb 0 2
def AdS (w : World) (rb : Nat) : Prop := ∃ a n c, w.cell? ⟨rb, 0, none⟩ = some (.slice (some a) n c)
def stL : Option (List UInt8) → List UInt8
  | some l => l
  | none => []
def stB : Option (List UInt8) → Bool
  | some _ => false
  | none => true
section
variable {P : Program} {N : Nat} {Q : Exit → (Nat → Value) → World → Prop} {ρ : Nat → Value} {w w' : World} {ms : List MOp} {R : RN} {rb sb : Nat} {st : Option (List UInt8)}
theorem RdAt.all (h : RdAt w rb sb st) : ∃ ad c, w.rangeAt rb 0 [.slice ad (stL st).length c, .bool (stB st)] ∧ w.there rb 0 2 ∧ okAd ad ∧ (stL st).length ≤ c ∧ BytesAt w (· = sb) ad (stL st) := by
  cases st with
  | some l => exact h
  | none => exact ⟨none, 0, h.1, h.2, .inl rfl, Nat.le_refl _, fun j b hj => by simp [stL] at hj⟩
theorem RdAt.lt (h : RdAt w rb sb st) : rb < w.heap.size := by
  obtain ⟨ad, c, h1, _⟩ := h.all
  exact World.block_lt_of_cell? w _ (h1 0 _ rfl)
theorem RdAt.keep (h : RdAt w rb sb st) (h1 : w'.heap[rb]? = w.heap[rb]?) (h2 : w'.heap[sb]? = w.heap[sb]?) : RdAt w' rb sb st := by
  cases st with
  | some l =>
    obtain ⟨ad, c, g1, g2, g3, g4, g5⟩ := h
    exact ⟨ad, c, range_keep g1 h1, there_keep g2 h1, g3, g4, g5.mono (fun _ h => h) (fun b hb => by rw [hb]; exact h2)⟩
  | none => exact ⟨range_keep h.1 h1, there_keep h.2 h1⟩
theorem RdAt.put {l : List UInt8} {ad : Option Addr} {c : Nat} {u v : Value} (hr : w.rangeAt rb 0 [u, v]) (ht : w.there rb 0 2) (hv : v = .bool false) (h1 : okAd ad) (h2 : l.length ≤ c) (h3 : BytesAt w (· = sb) ad l) (hne : sb ≠ rb) :
    RdAt (w.setCells rb 0 [.slice ad l.length c]) rb sb (some l) := by
  subst hv
  refine ⟨ad, c, ?_, World.there_setCells ht _ _ _, h1, h2, h3.mono (fun _ h => h) (fun b hb => by rw [hb]; exact setCells_other rb _ _ _ sb hne)⟩
  have := range_set (b := rb) (o := 0) (k := 0) (cs := [u, .bool false]) (v := .slice ad l.length c) hr (there_in ht (by omega))
  simpa using this
/-! ### Running out -/
def failM (R : RN) (z : MVal) (res t : Nat) : MCode :=
  .sq (.rg [.mv t (.t 0), .nc (t + 1) t, .fa (t + 2) R.tR (t + 1) 1, .stc R.T.bool (t + 2) (.bool true)])
    (.sq (.rg [.mv (t + 3) (.t 0), .nc (t + 4) (t + 3), .fa (t + 5) R.tR (t + 4) 0, .stc R.T.u8s (t + 5) .nslice]) (.sq (.rg [.mv res (.c z)]) .rt))
theorem fail_ok {z : MVal} {res t : Nat} (ok : ROK P R) (h : RdAt w rb sb st) (h0 : ρ 0 = .pointer (some ⟨rb, 0, none⟩)) (hres : res < t) (ht : 0 < t) (hN : t + 6 ≤ N)
    (hQ : ∀ ρ' w', ρ' res = z.val → RdAt w' rb sb none → Fr (fun _ => False) rb 0 2 w w' → Q .ret ρ' w') : RW P N (failM R z res t) Q ρ w := by
  obtain ⟨ad, c, h1, h2, _⟩ := h.all
  unfold failM
  refine RW.sq (RW.rg (RL.step (MR.mv h0 (ltT (by omega))) (RL.step (MR.nc (upd_same _ _ _) (by omega)) (RL.step (MR.fa (upd_same _ _ _) ok.f1 (by omega)) (RL.stc (b := rb) (o := 0 + 1) (upd_same _ _ _) ok.cb (there_in h2 (by omega)) (RL.nil ?_) (by omega)) (by omega)) (by omega)) (by omega)))
  have e1 := range_set (k := 1) (v := (MVal.bool true).val) h1 (there_in h2 (by omega))
  have t1 : (w.setCells rb (0 + 1) [(MVal.bool true).val]).there rb 0 2 := World.there_setCells h2 _ _ _
  refine RW.sq (RW.rg (RL.step (MR.mv (v := .pointer (some ⟨rb, 0, none⟩)) (by show upd _ _ _ 0 = _; rw [upd_ne _ _ (by omega), upd_ne _ _ (by omega), upd_ne _ _ (by omega)]; exact h0) (ltT (by omega))) (RL.step (MR.nc (upd_same _ _ _) (by omega)) (RL.step (MR.fa (upd_same _ _ _) ok.f0 (by omega)) (RL.stc (b := rb) (o := 0 + 0) (upd_same _ _ _) ok.cs (there_in t1 (by omega)) (RL.nil ?_) (by omega)) (by omega)) (by omega)) (by omega)))
  have e2 := range_set (k := 0) (v := MVal.nslice.val) e1 (there_in t1 (by omega))
  refine RW.sq (RW.rg (RL.step MR.mv (RL.nil (RW.rt ?_)) (by omega)))
  refine hQ _ _ (upd_same _ _ _) ⟨?_, World.there_setCells t1 _ _ _⟩ ?_
  · exact e2
  · exact (Fr.put _ (by omega) (by simp)).trans (Fr.put _ (by omega) (by simp))
end
set_option linter.unusedVariables false
def beTail (R : RN) (tu kk : Nat) : (n j t i acc : Nat) → List GOp
  | 0, _, _, i, acc => [⟨i, none, .mv 4 (.t acc)⟩]
  | n + 1, j, t, i, acc => ⟨i, none, .mv t (.t 1)⟩ :: ⟨i + 1, none, .iak (t + 1) R.T.u8s t (kk - 1 - j)⟩ :: ⟨i + 2, none, .ld (t + 2) R.T.u8 (t + 1)⟩ :: ⟨i + 3, none, .cv (t + 3) R.T.u8 tu (t + 2)⟩ ::
      ⟨i + 4, none, .b2 (t + 4) .shl (.t (t + 3)) (.c (.int .u64 ((8 * j : Nat) : Int)))⟩ :: ⟨i + 5, none, .bi (t + 5) .or tu (.t acc) (.t (t + 4))⟩ :: beTail R tu kk n (j + 1) (t + 6) (i + 6) (t + 5)
def cBe (R : RN) (tu kk : Nat) (k : IntKind) : MCode :=
  .sq (.rg [.bx 2 R.tBE 0, .mv 4 (.c (.int k 0))]) (.sq (.rg [.mv 5 (.t 1), .iak 6 R.T.u8s 5 (kk - 1), .ld 7 R.T.u8 6])
    (.sq (.gr true (⟨0, none, .mv 8 (.t 1)⟩ :: ⟨1, none, .iak 9 R.T.u8s 8 (kk - 1)⟩ :: ⟨2, none, .ld 10 R.T.u8 9⟩ :: ⟨3, none, .cv 11 R.T.u8 tu 10⟩ :: beTail R tu kk (kk - 1) 1 12 4 11)) .rt))
structure KU (k : IntKind) (n : Nat) : Prop where
  bits : k.bits = 8 * n
  wr : ∀ x : Nat, x < 256 ^ n → k.wrap (x : Int) = x
  or_ : ∀ a b : Nat, a < 256 ^ n → b < 256 ^ n → k.wrap ((BitVec.ofInt k.bits (a : Int) ||| BitVec.ofInt k.bits (b : Int)).toNat : Int) = ((a ||| b : Nat) : Int)
theorem ku32 : KU .u32 4 := ⟨rfl, fun x h => wrap_u32n (by simpa using h), fun a b ha hb => or_u32 (by simpa using ha) (by simpa using hb)⟩
theorem ku64 : KU .u64 8 := ⟨rfl, fun x h => wrap_u64n (by simpa using h), fun a b ha hb => or_u64 (by simpa using ha) (by simpa using hb)⟩
theorem beVal_cons (b : UInt8) (l : List UInt8) : beVal (b :: l) = b.toNat * 256 ^ l.length + beVal l := by
  have h : ∀ (l : List UInt8) (a : Nat), l.foldl (fun a b => a * 256 + b.toNat) a = a * 256 ^ l.length + l.foldl (fun a b => a * 256 + b.toNat) 0 := by
    intro l
    induction l with
    | nil => intro a; simp
    | cons x l ih =>
      intro a
      simp only [List.foldl_cons, List.length_cons]
      rw [ih (a * 256 + x.toNat), ih (0 * 256 + x.toNat), Nat.pow_succ, Nat.add_mul, Nat.zero_mul, Nat.zero_add, Nat.mul_assoc, Nat.mul_comm 256 (256 ^ l.length)]
      omega
  show (b :: l).foldl (fun a b => a * 256 + b.toNat) 0 = _
  rw [List.foldl_cons, h]; simp [beVal]
section
variable {P : Program} {N : Nat} {Q : Exit → (Nat → Value) → World → Prop} {ρ : Nat → Value} {w w' : World} {R : RN}
theorem be_tail {tu kk : Nat} {k : IntKind} {S : World → Prop} {l : List UInt8} {g o c : Nat} (ok : ROK P R) (ku : KU k kk) (htu : intTy P tu k = true) (hl : kk ≤ l.length)
    (hS : ∀ w', S w' → ∀ (j : Nat) (b : UInt8), l[j]? = some b → w'.cell? ⟨g, o + j, none⟩ = some (byteV b)) :
    ∀ (n j t i acc : Nat) (ρ : Nat → Value), n + j = kk → 1 ≤ j → 4 < t → acc < t → 4 < acc → t + 6 * n ≤ N → ρ 1 = .slice (some ⟨g, o, none⟩) l.length c → ρ acc = .int k (beVal ((l.take kk).drop (kk - j)) : Nat) →
    (∀ ρ', ρ' 4 = .int k (beVal (l.take kk) : Nat) → S w → Q .normal ρ' w) → RG P N (beTail R tu kk n j t i acc) Q S ρ w
  | 0, j, t, i, acc, ρ, hn, hj, h4, ha, h4a, hN, h1, hacc, hQ => by
    unfold beTail
    refine RG.q (fun _ _ => MR.mv hacc (ltT (by omega))) (RG.nil fun h => hQ _ ?_ h) rfl rfl (by omega)
    rw [upd_same, show kk - j = 0 from by omega, List.drop_zero]
  | n + 1, j, t, i, acc, ρ, hn, hj, h4, ha, h4a, hN, h1, hacc, hQ => by
    unfold beTail
    obtain ⟨y, hy⟩ : ∃ y, l[kk - 1 - j]? = some y := ⟨_, List.getElem?_eq_getElem (by omega)⟩
    have hlen : (l.take kk).length = kk := by rw [List.length_take]; omega
    have hstep : beVal ((l.take kk).drop (kk - (j + 1))) = y.toNat * 256 ^ j + beVal ((l.take kk).drop (kk - j)) := by
      have e1 : (l.take kk)[kk - (j + 1)]? = some y := by rw [List.getElem?_take, if_pos (by omega), show kk - (j + 1) = kk - 1 - j from by omega]; exact hy
      have e2 : (l.take kk).drop (kk - (j + 1)) = y :: (l.take kk).drop (kk - j) := by
        obtain ⟨hlt, e3⟩ := List.getElem?_eq_some_iff.1 e1
        rw [List.drop_eq_getElem_cons hlt, e3, show kk - (j + 1) + 1 = kk - j from by omega]
      rw [e2, beVal_cons, List.length_drop, hlen, show kk - (kk - j) = j from by omega]
    have hacc_lt : beVal ((l.take kk).drop (kk - j)) < 256 ^ j := by
      have := beVal_lt ((l.take kk).drop (kk - j))
      rwa [List.length_drop, hlen, show kk - (kk - j) = j from by omega] at this
    have hp : 256 ^ (j + 1) ≤ 256 ^ kk := Nat.pow_le_pow_right (by omega) (by omega)
    have hyl : y.toNat < 256 := y.toNat_lt
    have hsum : y.toNat * 256 ^ j + beVal ((l.take kk).drop (kk - j)) < 256 ^ (j + 1) := by rw [Nat.pow_succ]; have : (y.toNat + 1) * 256 ^ j ≤ 256 * 256 ^ j := Nat.mul_le_mul_right _ (by omega); rw [Nat.add_mul] at this; omega
    have hj1 : 256 ^ j ≤ 256 ^ kk := Nat.pow_le_pow_right (by omega) (by omega)
    have hk1 : 1 ≤ kk := by omega
    have h256 : 256 ≤ 256 ^ kk := by have := Nat.pow_le_pow_right (n := 256) (by omega) hk1; simpa using this
    refine RG.q (fun _ _ => MR.mv h1 (ltT (by omega))) ?_ rfl rfl (by omega)
    refine RG.q (fun _ _ => MR.iak (sz := 1) ok.tk.u8s ok.cu (upd_same _ _ _) (by omega) (by omega)) ?_ rfl rfl (by omega)
    refine RG.q (fun w' h => MR.ld (upd_same _ _ _) ok.pu (by rw [Nat.mul_one]; exact hS w' h _ y hy) (by omega)) ?_ rfl rfl (by omega)
    refine RG.q (fun _ _ => MR.cvI (upd_same _ _ _) ok.tk.u8i htu (by omega)) ?_ rfl rfl (by omega)
    have ew : k.wrap (y.toNat : Int) = y.toNat := ku.wr _ (by omega)
    have esh : k.wrap ((y.toNat : Int) * 2 ^ (min (((8 * j : Nat) : Int)).toNat k.bits)) = ((y.toNat * 256 ^ j : Nat) : Int) := by
      rw [ku.bits, show ((8 * j : Nat) : Int).toNat = 8 * j from by omega, Nat.min_eq_left (by omega)]
      have e1 : ((y.toNat : Int) * 2 ^ (8 * j)) = ((y.toNat * 256 ^ j : Nat) : Int) := by
        rw [Nat.pow_mul' 2 8 j |>.symm |> fun _ => show (256 : Nat) ^ j = 2 ^ (8 * j) from by rw [Nat.pow_mul]]
        push_cast; rfl
      rw [e1]
      exact ku.wr _ (by omega)
    refine RG.q (v := .int k ((y.toNat * 256 ^ j : Nat) : Int)) (fun _ _ => MR.b2 (by
      show evB .shl (upd _ (t + 3) _ (t + 3)) (.int .u64 ((8 * j : Nat) : Int)) = _
      rw [upd_same, ew]
      simp only [evB]
      rw [if_pos (by omega), esh]) (ltT (by omega)) rfl) ?_ rfl rfl (by omega)
    have hor : k.wrap ((BitVec.ofInt k.bits ((beVal ((l.take kk).drop (kk - j)) : Nat) : Int) ||| BitVec.ofInt k.bits ((y.toNat * 256 ^ j : Nat) : Int)).toNat : Int) = ((beVal ((l.take kk).drop (kk - (j + 1))) : Nat) : Int) := by
      rw [ku.or_ _ _ (by omega) (by omega), show (256 : Nat) ^ j = 2 ^ (8 * j) from by rw [Nat.pow_mul], or_add (by rw [show (2 : Nat) ^ (8 * j) = 256 ^ j from by rw [Nat.pow_mul]]; exact hacc_lt), hstep, Nat.add_comm, show (256 : Nat) ^ j = 2 ^ (8 * j) from by rw [Nat.pow_mul]]
    refine RG.q (v := .int k ((beVal ((l.take kk).drop (kk - (j + 1))) : Nat) : Int)) (fun _ _ => MR.biE (by
      show evB .or (upd _ (t + 4) _ acc) (upd _ (t + 4) _ (t + 4)) = _
      rw [upd_same, upd_ne _ _ (by omega), upd_ne _ _ (by omega), upd_ne _ _ (by omega), upd_ne _ _ (by omega), upd_ne _ _ (by omega), hacc]
      simp only [evB, if_true]
      rw [hor]) (ltT (by omega)) (ltT (by omega))) ?_ rfl rfl (by omega)
    refine be_tail (c := c) ok ku htu hl hS n (j + 1) (t + 6) (i + 6) (t + 5) _ (by omega) (by omega) (by omega) (by omega) (by omega) (by omega) ?_ (upd_same _ _ _) hQ
    rw [upd_ne _ _ (by omega), upd_ne _ _ (by omega), upd_ne _ _ (by omega), upd_ne _ _ (by omega), upd_ne _ _ (by omega), upd_ne _ _ (by omega)]; exact h1
def BeC (P : Program) (f kk : Nat) (k : IntKind) : Prop := entersB P f = true ∧ ∀ (w : World) (ad : Option Addr) (l : List UInt8) (c : Nat), BytesAt w (fun _ => True) ad l → kk ≤ l.length →
  Calls P f #[.agg #[], .slice ad l.length c] w (fun e w' => e = .returned (.int k (beVal (l.take kk) : Nat)) ∧ Below w.heap.size w w')
theorem be_ok {f tu kk : Nat} {k : IntKind} (ok : ROK P R) (ku : KU k kk) (htu : intTy P tu k = true) (hk1 : 1 ≤ kk) (hf : FnIs P f (cBe R tu kk k) (6 * kk + 6) 4) : BeC P f kk k := by
  refine ⟨hf.ent, fun w ad l c hb hl => ?_⟩
  obtain ⟨y, hy⟩ : ∃ y, l[kk - 1]? = some y := ⟨_, List.getElem?_eq_getElem (by omega)⟩
  obtain ⟨g, o, rfl, _, hyc⟩ := hb _ y hy
  have hall : ∀ (j : Nat) (b : UInt8), l[j]? = some b → w.cell? ⟨g, o + j, none⟩ = some (byteV b) := fun j b hj => by
    obtain ⟨g', o', e, _, hc⟩ := hb j b hj
    cases e; exact hc
  refine hf.runs (args := [.agg #[], .slice (some ⟨g, o, none⟩) l.length c]) (by simp) (by omega) ?_
  have b0 := below_box w (.cells #[] R.tBE)
  refine RW.sq (RW.rg (RL.step (MR.bx (by omega)) (RL.step MR.mv (RL.nil ?_) (by omega)) (by omega)))
  show RW P _ _ _ _ (w.alloc (.cells #[] R.tBE))
  refine RW.sq (RW.rg (RL.step (MR.mv (v := .slice (some ⟨g, o, none⟩) l.length c) rfl (ltT (by omega))) (RL.step (MR.iak (sz := 1) ok.tk.u8s ok.cu (upd_same _ _ _) (by omega) (by omega)) (RL.step (MR.ld (v := byteV y) (upd_same _ _ _) ok.pu (by rw [Nat.mul_one]; exact b0.kp _ _ hyc) (by omega)) (RL.nil ?_) (by omega)) (by omega)) (by omega)))
  refine RW.sq (RW.gd ok.mo (Below w.heap.size w) (b0.trans ((below_drew1 _ _).mono b0.size)) ?_)
  have hSc : ∀ w', Below w.heap.size w w' → ∀ (j : Nat) (b : UInt8), l[j]? = some b → w'.cell? ⟨g, o + j, none⟩ = some (byteV b) := fun w' h j b hj => h.kp _ _ (hall j b hj)
  refine RG.q (fun _ _ => MR.mv (v := .slice (some ⟨g, o, none⟩) l.length c) rfl (ltT (by omega))) ?_ rfl rfl (by omega)
  refine RG.q (fun _ _ => MR.iak (sz := 1) ok.tk.u8s ok.cu (upd_same _ _ _) (by omega) (by omega)) ?_ rfl rfl (by omega)
  refine RG.q (fun w' h => MR.ld (upd_same _ _ _) ok.pu (by rw [Nat.mul_one]; exact hSc w' h _ y hy) (by omega)) ?_ rfl rfl (by omega)
  refine RG.q (fun _ _ => MR.cvI (upd_same _ _ _) ok.tk.u8i htu (by omega)) ?_ rfl rfl (by omega)
  refine be_tail (l := l) (g := g) (o := o) (c := c) ok ku htu hl hSc (kk - 1) 1 12 4 11 _ (by omega) (by omega) (by omega) (by omega) (by omega) (by omega) rfl ?_ fun ρ' h4 hS => ?_
  · rw [upd_same]
    have hlen : (l.take kk).length = kk := by rw [List.length_take]; omega
    have e1 : (l.take kk)[kk - 1]? = some y := by rw [List.getElem?_take, if_pos (by omega)]; exact hy
    obtain ⟨hlt, e3⟩ := List.getElem?_eq_some_iff.1 e1
    have h256 : 256 ≤ 256 ^ kk := by have := Nat.pow_le_pow_right (n := 256) (by omega) hk1; simpa using this
    have hyl : y.toNat < 256 := y.toNat_lt
    rw [List.drop_eq_getElem_cons hlt, e3, List.drop_eq_nil_of_le (by omega), beVal_cons]
    show Value.int k (k.wrap (y.toNat : Int)) = _
    rw [ku.wr _ (by omega)]
    simp [beVal]
  · exact RW.rt ⟨by rw [h4], hS⟩
end
end Go.Kx
