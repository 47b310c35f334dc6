/- The reader's lists' lengths, texts, Bool, Ok, Complete. Conditions: the program's tables (ROK), numbers that are not 0.
   Tags are read: Tags.Set, internalReadTags. Conditions: the program's tables (ROK, TGR).
   readFrom's code: plain fields, versions' tests, fields in a row. Conditions: the reader's contracts (RKOK), the message's plan (wfRF).
   readFrom's fields: plain ones, lists of plain ones; a field's versions; fields in a row. Conditions: the reader's contracts (RKOK), the plan's tests. -/
import Derived.Test.YtmehkjdaeohblaaDoorKxH
import Derived.Lib.AppendZeros
namespace Go.Kx
open Go.RowKit
set_option linter.unusedSimpArgs false
set_option linter.unusedVariables false

/-- A plain value's shape. -/
def VK (k : PK) (v : Value) : Prop := match k with | .uuid => v = .agg v.cells | _ => v.oneCell' = true
/-- A plain field's value. -/
def PrC (k : PK) : World → (Nat → Prop) → Value → D → Prop := fun w F v d => VK k v ∧ v.cells.size = k.cells ∧ v.cells.toList.all (·.oneCell') = true ∧ RepP w F k v.cells.toList d

section
variable {P : Program} {N : Nat} {Q : Exit → (Nat → Value) → World → Prop} {ρ : Nat → Value} {w w' : World} {ms : List MOp} {R : RN} {rb sb : Nat} {st : Option (List UInt8)}

theorem RdC.map {α β : Type} {f : Nat} {d : Dec α} {C : World → (Nat → Prop) → Value → α → Prop} {C' : World → (Nat → Prop) → Value → β → Prop} {g : α → β} (h : RdC P f d C) (hg : ∀ w F v x, C w F v x → C' w F v (g x)) : RdC P f (d.map g) C' := by
  refine ⟨h.1, fun w rb sb st hr hne => Calls.mono (h.2 w rb sb st hr hne) ?_⟩
  rintro e w' ⟨v, x, st', rfl, h1, h2, h3, h4⟩
  exact ⟨v, g x, st', rfl, h1, h2.map, h3, hg _ _ _ _ h4⟩

theorem RdAt.below (h : RdAt w rb sb st) (hb : Below w.heap.size w w') : RdAt w' rb sb st := by
  have hrb := h.lt
  cases st with
  | none => exact ⟨range_keep h.1 (hb.block _ hrb), there_keep h.2 (hb.block _ hrb)⟩
  | some l =>
    obtain ⟨ad, c, g1, g2, g3, g4, g5⟩ := h
    refine ⟨ad, c, range_keep g1 (hb.block _ hrb), there_keep g2 (hb.block _ hrb), g3, g4, fun j b hj => ?_⟩
    obtain ⟨g, o, e1, e2, e3⟩ := g5 j b hj
    exact ⟨g, o, e1, e2, hb.kp _ _ e3⟩

/-! ### Lengths of lists -/
def lenT (R : RN) (t : Nat) : MCode :=
  .sq (.rg [.mv t (.t 0), .nc (t + 1) t, .fa (t + 2) R.tR (t + 1) 0, .ld (t + 3) R.T.u8s (t + 2), .ln (t + 4) R.T.u8s (t + 3), .mv (t + 5) (.t 3), .cv (t + 6) R.T.i32 R.T.int (t + 5), .bi (t + 7) .lss R.T.int (.t (t + 4)) (.t (t + 6))])
    (.cd (t + 7) (failM R (.int .i32 0) 2 (t + 8)) .sk)
def lenE (t : Nat) : MCode := .sq (.rg [.mv t (.t 3), .mv 2 (.t t)]) .rt
def cALen (R : RN) : MCode := .sq (.rg [.mv 2 (.c (.int .i32 0))]) (.sq (.rg [.mv 4 (.t 0), .ca 5 R.i32 [.t 4], .mv 3 (.t 5)]) (.sq (lenT R 6) (lenE 20)))
def cCALen (R : RN) : MCode := .sq (.rg [.mv 2 (.c (.int .i32 0))]) (.sq (.rg [.mv 4 (.t 0), .ca 5 R.uv [.t 4], .cv 6 R.T.u32 R.T.i32 5, .bi 7 .sub R.T.i32 (.t 6) (.c (.int .i32 1)), .mv 3 (.t 7)]) (.sq (lenT R 8) (lenE 22)))

def I32 (n : Int) : Prop := -2147483648 ≤ n ∧ n ≤ 2147483647

theorem lenT_ok {t : Nat} {r : Int} (ok : ROK P R) (h32 : intTy P R.T.i32 .i32 = true) (h : RdAt w rb sb st) (h0 : ρ 0 = .pointer (some ⟨rb, 0, none⟩)) (h3 : ρ 3 = .int .i32 r) (hr : I32 r) (ht : 3 < t) (hN : t + 14 < N)
    {K : Ending → World → Prop} (hK : ∀ v st' w', I32 v → Got (atMost r) st v st' → RdAt w' rb sb st' → Fr (fun _ => False) rb 0 2 w w' → K (.returned (.int .i32 v)) w') : RW P N (.sq (lenT R t) (lenE (t + 14))) (retQ 2 K) ρ w := by
  obtain ⟨ad, c, r1, r2, r3, r4, r5⟩ := h.all
  have hw : IntKind.i64.wrap r = r := by obtain ⟨a1, a2⟩ := hr; simp [IntKind.wrap, IntKind.signed, IntKind.bits]; omega
  unfold lenT lenE
  refine RW.sq (RW.sq (RW.rg (RL.step (MR.mv h0 (ltT (by omega))) (RL.step (MR.nc (upd_same _ _ _) (by omega)) (RL.step (MR.fa (upd_same _ _ _) ok.f0 (by omega)) (RL.step (MR.ld (upd_same _ _ _) ok.ps (r1 0 _ rfl) (by omega)) (RL.step (MR.ln ok.tk.u8s (upd_same _ _ _) (by omega))
    (RL.step (MR.mv (v := .int .i32 r) ?_ (ltT (by omega))) (RL.step (MR.cvI (upd_same _ _ _) h32 ok.tk.int (by omega)) (RL.step (MR.biE (v := .bool (decide (((stL st).length : Int) < r))) ?_ (ltT (by omega)) (ltT (by omega))) (RL.nil ?_) (by omega)) (by omega)) (by omega)) (by omega)) (by omega)) (by omega)) (by omega)) (by omega))))
  · show upd _ _ _ 3 = _
    rw [upd_ne _ _ (by omega), upd_ne _ _ (by omega), upd_ne _ _ (by omega), upd_ne _ _ (by omega), upd_ne _ _ (by omega)]; exact h3
  · show evB .lss (upd _ _ _ (t + 4)) (upd _ _ _ (t + 6)) = _
    rw [upd_same, upd_ne _ _ (by omega), upd_ne _ _ (by omega), upd_same, hw]; rfl
  · refine RW.cd (upd_same _ _ _) (fun e => ?_) (fun e => RW.sk ?_) (by omega)
    · have e := of_decide_eq_true e
      refine fail_ok ok h (by rw [upd_ne _ _ (by omega), upd_ne _ _ (by omega), upd_ne _ _ (by omega), upd_ne _ _ (by omega), upd_ne _ _ (by omega), upd_ne _ _ (by omega), upd_ne _ _ (by omega), upd_ne _ _ (by omega)]; exact h0) (by omega) (by omega) (by omega) fun ρ' w' g1 g2 g3 => ?_
      show K (.returned (ρ' 2)) w'
      rw [g1]
      refine hK 0 none w' ⟨by omega, by omega⟩ (Got.failed fun l hl => ?_) g2 g3
      subst hl
      exact if_pos e
    · have e := of_decide_eq_false e
      show RW P N _ _ _ _
      refine RW.sq (RW.rg (RL.step (MR.mv (v := .int .i32 r) ?_ (ltT (by omega))) (RL.step (MR.mv (upd_same _ _ _) (ltT (by omega))) (RL.nil (RW.rt ?_)) (by omega)) (by omega)))
      · show upd _ _ _ 3 = _
        rw [upd_ne _ _ (by omega), upd_ne _ _ (by omega), upd_ne _ _ (by omega), upd_ne _ _ (by omega), upd_ne _ _ (by omega), upd_ne _ _ (by omega), upd_ne _ _ (by omega), upd_ne _ _ (by omega)]; exact h3
      · show K (.returned (upd _ 2 _ 2)) w
        rw [upd_same]
        refine hK r st w hr ?_ h (Fr.refl _ _ _ _ _)
        cases st with
        | none => rfl
        | some l => exact if_neg e

theorem alen_ok {f : Nat} (ok : ROK P R) (h32 : R.T.i32 ≠ 0) (hi : RdC P R.i32 (dInt 4) (PlB (fun x => .int .i32 x) I32)) (hf : FnIs P f (cALen R) 21 2) : RdC P f (dALen false) (PlB (fun x => .int .i32 x) I32) := by
  refine ⟨hf.ent, fun w rb sb st h hne => ?_⟩
  refine hf.runs (args := [.pointer (some ⟨rb, 0, none⟩)]) (by simp) (by omega) ?_
  refine RW.sq (RW.rg (RL.step MR.mv (RL.nil (RW.sq (RW.rg (RL.step (MR.mv (v := .pointer (some ⟨rb, 0, none⟩)) rfl) (RL.rd hi rfl h hne (by rfl) (by decide) ?_)))))))
  rintro v x st1 w1 hF hG hR ⟨rfl, hx⟩
  refine RL.step MR.mv (RL.nil ?_)
  refine lenT_ok ok (ok.tk.i32 h32) hR rfl rfl hx (by omega) (by omega) fun v st' w' h1 h2 h3 h4 => ?_
  exact ⟨_, v, st', rfl, hF.trans h4, hG.bind h2, h3, rfl, h1⟩

theorem calen_ok {f : Nat} (ok : ROK P R) (h32 : R.T.i32 ≠ 0) (hu32 : R.T.u32 ≠ 0) (hi : RdC P R.uv dUv (PlB (fun x => .int .u32 (x : Nat)) (· < 4294967296))) (hf : FnIs P f (cCALen R) 23 2) : RdC P f (dALen true) (PlB (fun x => .int .i32 x) I32) := by
  refine ⟨hf.ent, fun w rb sb st h hne => ?_⟩
  refine hf.runs (args := [.pointer (some ⟨rb, 0, none⟩)]) (by simp) (by omega) ?_
  refine RW.sq (RW.rg (RL.step MR.mv (RL.nil (RW.sq (RW.rg (RL.step (MR.mv (v := .pointer (some ⟨rb, 0, none⟩)) rfl) (RL.rd hi rfl h hne (by rfl) (by decide) ?_)))))))
  rintro v x st1 w1 hF hG hR ⟨rfl, hx⟩
  refine RL.step (MR.cvI rfl (ok.tk.u32 hu32) (ok.tk.i32 h32)) (RL.step (MR.biE (v := .int .i32 (aLen x)) rfl) (RL.step MR.mv (RL.nil ?_)))
  have hr : I32 (aLen x) := by unfold aLen I32; simp [IntKind.wrap, IntKind.signed, IntKind.bits]; omega
  refine lenT_ok ok (ok.tk.i32 h32) hR rfl rfl hr (by omega) (by omega) fun v st' w' h1 h2 h3 h4 => ?_
  exact ⟨_, v, st', rfl, hF.trans h4, hG.bind h2, h3, rfl, h1⟩

/-! ### Texts -/
theorem conv_str {l : List UInt8} {c : Nat} {ad : Option Addr} {T U V : Nat} {F : Nat → Prop} (hT : sliceOf P T U = true) (hU : intTy P U .u8 = true) (hV : strTy P V = true) (had : okAd ad) (hb : BytesAt w F ad l) : (convert T V (.slice ad l.length c)).run P w = .ok (.string ⟨l.toArray⟩) w := by
  have hU' : P.underlying U = some (.int .u8) := intTy_eq hU
  cases ad with
  | none =>
    have : l = [] := by
      cases l with
      | nil => rfl
      | cons b l => obtain ⟨g, o, e, _⟩ := hb 0 b rfl; cases e
    subst this
    rw [run_convert_bytes_string w T V U none _ c (sliceOf_eq hT) hU' (strTy_eq hV)]
    simp [Conv.bytesToString]
    rfl
  | some a =>
    obtain ⟨g, o, e⟩ : ∃ g o, a = ⟨g, o, none⟩ := by
      rcases had with h | ⟨g, o, h⟩
      · cases h
      · exact ⟨g, o, by simpa using h⟩
    subst e
    refine run_convert_bytes_back w T V U ⟨g, o, none⟩ c l (sliceOf_eq hT) hU' (strTy_eq hV) fun j hj => ?_
    obtain ⟨g', o', e, _, hc⟩ := hb j l[j] (List.getElem?_eq_getElem hj)
    cases e
    rw [Addr.add_mid]; exact hc

def cStr (R : RN) : MCode := .sq (.rg [.mv 2 (.c .estr)]) (.sq (.rg [.mv 4 (.t 0), .ca 5 R.i16 [.t 4], .mv 3 (.t 5)])
  (.sq (.rg [.mv 6 (.t 0), .mv 7 (.t 3), .cv 8 R.T.i16 R.T.int 7, .ca 9 R.span [.t 6, .t 8], .cv 10 R.T.u8s R.T.str 9, .mv 2 (.t 10)]) .rt))
def cCStr (R : RN) : MCode := .sq (.rg [.mv 2 (.c .estr)]) (.sq (.rg [.mv 4 (.t 0), .ca 5 R.uv [.t 4], .cv 6 R.T.u32 R.T.int 5, .bi 7 .sub R.T.int (.t 6) (.c (.int .i64 1)), .mv 3 (.t 7)])
  (.sq (.rg [.mv 8 (.t 0), .mv 9 (.t 3), .ca 10 R.span [.t 8, .t 9], .cv 11 R.T.u8s R.T.str 10, .mv 2 (.t 11)]) .rt))
def cNStr (R : RN) : MCode := .sq (.rg [.mv 2 (.c .nptr)]) (.sq (.rg [.mv 5 (.t 0), .ca 6 R.i16 [.t 5], .mv 3 (.t 6)])
  (.sq (.sq (.rg [.mv 7 (.t 3), .bi 8 .lss R.T.i16 (.t 7) (.c (.int .i16 0))]) (.cd 8 (.sq (.rg [.mv 2 (.c .nptr)]) .rt) .sk))
  (.sq (.rg [.mv 9 (.t 0), .mv 10 (.t 3), .cv 11 R.T.i16 R.T.int 10, .ca 12 R.span [.t 9, .t 11], .cv 13 R.T.u8s R.T.str 12, .al 4 R.T.str, .st R.T.str 4 13]) (.sq (.rg [.mv 2 (.t 4)]) .rt))))
def cCNStr (R : RN) : MCode := .sq (.rg [.mv 2 (.c .nptr)]) (.sq (.rg [.mv 5 (.t 0), .ca 6 R.uv [.t 5], .cv 7 R.T.u32 R.T.int 6, .bi 8 .sub R.T.int (.t 7) (.c (.int .i64 1)), .mv 3 (.t 8)])
  (.sq (.sq (.rg [.mv 9 (.t 3), .bi 10 .lss R.T.int (.t 9) (.c (.int .i64 0))]) (.cd 10 (.sq (.rg [.mv 2 (.c .nptr)]) .rt) .sk))
  (.sq (.rg [.mv 11 (.t 0), .mv 12 (.t 3), .ca 13 R.span [.t 11, .t 12], .cv 14 R.T.u8s R.T.str 13, .al 4 R.T.str, .st R.T.str 4 14]) (.sq (.rg [.mv 2 (.t 4)]) .rt))))

def I16 (n : Int) : Prop := -32768 ≤ n ∧ n ≤ 32767
theorem I16.wr {n : Int} (h : I16 n) : IntKind.i64.wrap n = n := by obtain ⟨a1, a2⟩ := h; simp [IntKind.wrap, IntKind.signed, IntKind.bits]; omega
theorem u32_w {n : Nat} (h : n < 4294967296) : IntKind.i64.wrap (IntKind.i64.wrap (n : Int) - 1) = (n : Int) - 1 := by simp [IntKind.wrap, IntKind.signed, IntKind.bits]; omega

theorem PrC.str {F : Nat → Prop} (l : List UInt8) : PrC .str w F (.string ⟨l.toArray⟩) (.s (some l)) := ⟨rfl, rfl, rfl, ⟨_, rfl, rfl⟩⟩

/-- A string's zero fills one cell. -/
def zOneB (P : Program) (T : Nat) : Bool := match P.info? T with
  | some i => (match i.zero with | some z => Nat.beq z.cells.size 1 | none => false)
  | none => false

theorem RL.alst1 {d T x : Nat} {v : Value} (hz : zOneB P T = true) (hT : cellsB P T 1 = true) (hx : ρ x = v) (hxd : x ≠ d) (h1 : v.oneCell' = true)
    (h : ∀ w', Below w.heap.size w w' → w'.cell? ⟨w.heap.size, 0, none⟩ = some v → RL P N ms Q (upd ρ d (.pointer (some ⟨w.heap.size, 0, none⟩))) w') (hd : d < N := by decide) (hxN : x < N := by decide) : RL P N (.al d T :: .st T d x :: ms) Q ρ w := by
  unfold zOneB at hz
  cases hi : P.info? T with
  | none => simp [hi] at hz
  | some i =>
    simp only [hi] at hz
    cases hzv : i.zero with
    | none => simp [hzv] at hz
    | some z =>
      simp only [hzv, Nat.beq_eq] at hz
      refine RL.step (MR.al ⟨i, hi, hzv⟩) ?_ hd
      have ht : (w.alloc (.cells z.cells T)).there w.heap.size 0 1 := by
        have := there_box w z.cells.toList T
        simp only [Array.length_toList, hz] at this
        exact this
      refine RL.st1 (upd_same _ _ _) (by rw [upd_ne _ _ hxd]; exact hx) h1 hT ht (h _ ?_ ?_) hd hxN
      · exact below_setCells (Nat.le_refl _) _ _ (below_box w _)
      · exact World.rangeAt_setCells_same _ _ _ [v] ht 0 v rfl

theorem str_ok {f : Nat} (ok : ROK P R) (hs : R.T.str ≠ 0) (h16 : R.T.i16 ≠ 0) (hi : RdC P R.i16 (dInt 2) (PlB (fun x => .int .i16 x) I16)) (hsp : SpanC P R.span) (hf : FnIs P f (cStr R) 11 2) : RdC P f (dP .str false) (PrC .str) := by
  refine ⟨hf.ent, fun w rb sb st h hne => ?_⟩
  refine hf.runs (args := [.pointer (some ⟨rb, 0, none⟩)]) (by simp) (by omega) ?_
  refine RW.sq (RW.rg (RL.step MR.mv (RL.nil (RW.sq (RW.rg (RL.step (MR.mv (v := .pointer (some ⟨rb, 0, none⟩)) rfl) (RL.rd hi rfl h hne (by rfl) (by decide) ?_)))))))
  rintro v x st1 w1 hF hG hR ⟨rfl, hx⟩
  refine RL.step MR.mv (RL.nil (RW.sq (RW.rg (RL.step (MR.mv (v := .pointer (some ⟨rb, 0, none⟩)) rfl) (RL.step (MR.mv (v := .int .i16 x) rfl) (RL.step (MR.cvI rfl (ok.tk.i16 h16) ok.tk.int) (RL.span (n := x) hsp rfl (by show Value.int .i64 (IntKind.i64.wrap x) = _; rw [hx.wr]) hR hne (by rfl) (by rfl) (by decide) ?_)))))))
  intro ad l st2 w2 hF2 hG2 hR2 ha hb
  refine RL.step (MR.cv (conv_str ok.tk.u8s ok.tk.u8i (ok.tk.str hs) ha hb)) (RL.step MR.mv (RL.nil (RW.rt ?_)))
  exact ⟨_, .s (some l), st2, rfl, hF.trans hF2, hG.bind (hG2.map (f := fun l => D.s (some l))), hR2, PrC.str l⟩

theorem cstr_ok {f : Nat} (ok : ROK P R) (hs : R.T.str ≠ 0) (h32 : R.T.u32 ≠ 0) (hi : RdC P R.uv dUv (PlB (fun x => .int .u32 (x : Nat)) (· < 4294967296))) (hsp : SpanC P R.span) (hf : FnIs P f (cCStr R) 12 2) : RdC P f (dP .str true) (PrC .str) := by
  refine ⟨hf.ent, fun w rb sb st h hne => ?_⟩
  refine hf.runs (args := [.pointer (some ⟨rb, 0, none⟩)]) (by simp) (by omega) ?_
  refine RW.sq (RW.rg (RL.step MR.mv (RL.nil (RW.sq (RW.rg (RL.step (MR.mv (v := .pointer (some ⟨rb, 0, none⟩)) rfl) (RL.rd hi rfl h hne (by rfl) (by decide) ?_)))))))
  rintro v x st1 w1 hF hG hR ⟨rfl, hx⟩
  refine RL.step (MR.cvI rfl (ok.tk.u32 h32) ok.tk.int) (RL.step (MR.biE (v := .int .i64 ((x : Int) - 1)) (by show some (Value.int .i64 (IntKind.i64.wrap (IntKind.i64.wrap (x : Int) - 1))) = _; rw [u32_w hx])) (RL.step MR.mv (RL.nil (RW.sq (RW.rg (RL.step (MR.mv (v := .pointer (some ⟨rb, 0, none⟩)) rfl) (RL.step (MR.mv (v := .int .i64 ((x : Int) - 1)) rfl) (RL.span (n := (x : Int) - 1) hsp rfl rfl hR hne (by rfl) (by rfl) (by decide) ?_))))))))
  intro ad l st2 w2 hF2 hG2 hR2 ha hb
  refine RL.step (MR.cv (conv_str ok.tk.u8s ok.tk.u8i (ok.tk.str hs) ha hb)) (RL.step MR.mv (RL.nil (RW.rt ?_)))
  exact ⟨_, .s (some l), st2, rfl, hF.trans hF2, (hG.map (f := fun n : Nat => (n : Int) - 1)).bind (hG2.map (f := fun l => D.s (some l))), hR2, PrC.str l⟩

theorem nstr_fin {F : Nat → Prop} {s : Nat} (l : List UInt8) (hF : F s) (hc : w.cell? ⟨s, 0, none⟩ = some (.string ⟨l.toArray⟩)) : PrC .nstr w F (.pointer (some ⟨s, 0, none⟩)) (.s (some l)) := ⟨rfl, rfl, rfl, .inr ⟨s, _, rfl, hF, hc, rfl⟩⟩

theorem nstr_ok {f : Nat} (ok : ROK P R) (hs : R.T.str ≠ 0) (h16 : R.T.i16 ≠ 0) (hz : zOneB P R.T.str = true) (hc1 : cellsB P R.T.str 1 = true) (hi : RdC P R.i16 (dInt 2) (PlB (fun x => .int .i16 x) I16)) (hsp : SpanC P R.span) (hf : FnIs P f (cNStr R) 14 2) : RdC P f (dP .nstr false) (PrC .nstr) := by
  refine ⟨hf.ent, fun w rb sb st h hne => ?_⟩
  refine hf.runs (args := [.pointer (some ⟨rb, 0, none⟩)]) (by simp) (by omega) ?_
  refine RW.sq (RW.rg (RL.step MR.mv (RL.nil (RW.sq (RW.rg (RL.step (MR.mv (v := .pointer (some ⟨rb, 0, none⟩)) rfl) (RL.rd hi rfl h hne (by rfl) (by decide) ?_)))))))
  rintro v x st1 w1 hF hG hR ⟨rfl, hx⟩
  refine RL.step MR.mv (RL.nil (RW.sq (RW.sq (RW.rg (RL.step (MR.mv (v := .int .i16 x) rfl) (RL.step (MR.biE (v := .bool (decide (x < 0))) rfl) (RL.nil ?_)))))))
  refine RW.cd rfl (fun e => ?_) (fun e => RW.sk ?_)
  · have e := of_decide_eq_true e
    refine RW.sq (RW.rg (RL.step MR.mv (RL.nil (RW.rt ?_))))
    exact ⟨_, .s none, st1, rfl, hF, hG.bind (by rw [if_pos e]; exact Got.pure _), hR, rfl, rfl, rfl, .inl ⟨rfl, rfl⟩⟩
  have e := of_decide_eq_false e
  refine RW.sq (RW.rg (RL.step (MR.mv (v := .pointer (some ⟨rb, 0, none⟩)) rfl) (RL.step (MR.mv (v := .int .i16 x) rfl) (RL.step (MR.cvI rfl (ok.tk.i16 h16) ok.tk.int) (RL.span (n := x) hsp rfl (by show Value.int .i64 (IntKind.i64.wrap x) = _; rw [hx.wr]) hR hne (by rfl) (by rfl) (by decide) ?_)))))
  intro ad l st2 w2 hF2 hG2 hR2 ha hb
  refine RL.step (MR.cv (conv_str ok.tk.u8s ok.tk.u8i (ok.tk.str hs) ha hb)) (RL.alst1 hz hc1 rfl (by decide) rfl fun w3 b3 c3 => RL.nil (RW.sq (RW.rg (RL.step MR.mv (RL.nil (RW.rt ?_))))))
  have hrb2 := hR2.lt
  refine ⟨_, .s (some l), st2, rfl, (hF.trans hF2).trans (Fr.ofBelow b3 hrb2), hG.bind (by rw [if_neg e]; exact hG2.map (f := fun l => D.s (some l))), hR2.below b3, nstr_fin l (.inr ?_) c3⟩
  exact Nat.le_trans hF.size hF2.size

theorem cnstr_ok {f : Nat} (ok : ROK P R) (hs : R.T.str ≠ 0) (h32 : R.T.u32 ≠ 0) (hz : zOneB P R.T.str = true) (hc1 : cellsB P R.T.str 1 = true) (hi : RdC P R.uv dUv (PlB (fun x => .int .u32 (x : Nat)) (· < 4294967296))) (hsp : SpanC P R.span) (hf : FnIs P f (cCNStr R) 15 2) : RdC P f (dP .nstr true) (PrC .nstr) := by
  refine ⟨hf.ent, fun w rb sb st h hne => ?_⟩
  refine hf.runs (args := [.pointer (some ⟨rb, 0, none⟩)]) (by simp) (by omega) ?_
  refine RW.sq (RW.rg (RL.step MR.mv (RL.nil (RW.sq (RW.rg (RL.step (MR.mv (v := .pointer (some ⟨rb, 0, none⟩)) rfl) (RL.rd hi rfl h hne (by rfl) (by decide) ?_)))))))
  rintro v x st1 w1 hF hG hR ⟨rfl, hx⟩
  refine RL.step (MR.cvI rfl (ok.tk.u32 h32) ok.tk.int) (RL.step (MR.biE (v := .int .i64 ((x : Int) - 1)) (by show some (Value.int .i64 (IntKind.i64.wrap (IntKind.i64.wrap (x : Int) - 1))) = _; rw [u32_w hx])) (RL.step MR.mv (RL.nil (RW.sq (RW.sq (RW.rg (RL.step (MR.mv (v := .int .i64 ((x : Int) - 1)) rfl) (RL.step (MR.biE (v := .bool (decide ((x : Int) - 1 < 0))) rfl) (RL.nil ?_)))))))))
  refine RW.cd rfl (fun e => ?_) (fun e => RW.sk ?_)
  · have e := of_decide_eq_true e
    refine RW.sq (RW.rg (RL.step MR.mv (RL.nil (RW.rt ?_))))
    exact ⟨_, .s none, st1, rfl, hF, (hG.map (f := fun n : Nat => (n : Int) - 1)).bind (by rw [if_pos e]; exact Got.pure _), hR, rfl, rfl, rfl, .inl ⟨rfl, rfl⟩⟩
  have e := of_decide_eq_false e
  refine RW.sq (RW.rg (RL.step (MR.mv (v := .pointer (some ⟨rb, 0, none⟩)) rfl) (RL.step (MR.mv (v := .int .i64 ((x : Int) - 1)) rfl) (RL.span (n := (x : Int) - 1) hsp rfl rfl hR hne (by rfl) (by rfl) (by decide) ?_))))
  intro ad l st2 w2 hF2 hG2 hR2 ha hb
  refine RL.step (MR.cv (conv_str ok.tk.u8s ok.tk.u8i (ok.tk.str hs) ha hb)) (RL.alst1 hz hc1 rfl (by decide) rfl fun w3 b3 c3 => RL.nil (RW.sq (RW.rg (RL.step MR.mv (RL.nil (RW.rt ?_))))))
  have hrb2 := hR2.lt
  refine ⟨_, .s (some l), st2, rfl, (hF.trans hF2).trans (Fr.ofBelow b3 hrb2), (hG.map (f := fun n : Nat => (n : Int) - 1)).bind (by rw [if_neg e]; exact hG2.map (f := fun l => D.s (some l))), hR2.below b3, nstr_fin l (.inr ?_) c3⟩
  exact Nat.le_trans hF.size hF2.size

/-! ### Bool, Ok, Complete -/
def cBool (R : RN) : MCode :=
  .sq (.rg [.mv 2 (.c (.bool false))]) (.sq (.sq (.rg (headR R 1 (.bool false))) (.cd 9 (failM R (.bool false) 2 10) .sk))
    (.sq (.rg [.mv 16 (.t 0), .nc 17 16, .fa 18 R.tR 17 0, .ld 19 R.T.u8s 18, .iak 20 R.T.u8s 19 0, .ld 21 R.T.u8 20, .bi 22 .neq R.T.u8 (.t 21) (.c (.int .u8 0)), .mv 3 (.t 22)])
    (.sq (.rg (nextR R 1 23)) (.sq (.rg [.mv 31 (.t 3), .mv 2 (.t 31)]) .rt))))

theorem bool_ok {f : Nat} (ok : ROK P R) (flex : Bool) (hf : FnIs P f (cBool R) 32 2) : RdC P f (dP .bool flex) (PrC .bool) := by
  refine ⟨hf.ent, fun w rb sb st h hne => ?_⟩
  refine hf.runs (args := [.pointer (some ⟨rb, 0, none⟩)]) (by simp) (by omega) ?_
  refine RW.sq (RW.rg (RL.step MR.mv (RL.nil (RW.sq (head_ok (n := 1) ok h rfl (by omega) (by omega) (fun hlt ρ' w' g1 g2 g3 => ?_) (fun l hl hnl ρ1 hρ => ?_))))))
  · refine ⟨_, .n 0, none, rfl, g3, Got.failed (fun l hl => ?_), g2, ?_⟩
    · subst hl; exact Dec.map_none (Dec.map_none (takeN_none hlt))
    · show PrC .bool w' _ (ρ' 2) _
      rw [g1]; exact ⟨rfl, rfl, rfl, false, rfl, rfl⟩
  · subst hl
    obtain ⟨y, hy⟩ : ∃ y, l[0]? = some y := ⟨_, List.getElem?_eq_getElem (by omega)⟩
    obtain ⟨ad, c, r1, r2, r3, r4, r5⟩ := h
    obtain ⟨g, o, rfl, hc, hlt⟩ := byte_at r5 hy
    show RW P 32 _ _ ρ1 w
    have q0 : ρ1 0 = .pointer (some ⟨rb, 0, none⟩) := by rw [hρ 0 (by omega)]; rfl
    refine RW.sq (RW.rg (RL.step (MR.mv q0) (RL.step (MR.nc rfl) (RL.step (MR.fa rfl ok.f0) (RL.step (MR.ld rfl ok.ps (r1 0 _ rfl)) (RL.step (MR.iak (sz := 1) ok.tk.u8s ok.cu rfl hlt) (RL.step (MR.ld rfl ok.pu hc)
      (RL.step (MR.biE (v := .bool (!((y.toNat : Int) == 0))) rfl) (RL.step MR.mv (RL.nil ?_))))))))))
    refine RW.sq (RW.rg (next_ok ok ⟨_, c, r1, r2, r3, r4, r5⟩ hne hnl q0 (by omega) (by omega) fun ρ2 w2 k1 k2 k3 => ?_))
    refine RW.sq (RW.rg (RL.step (MR.mv (v := .bool (!((y.toNat : Int) == 0))) (by show ρ2 3 = _; rw [k1 3 (by omega)]; rfl)) (RL.step MR.mv (RL.nil (RW.rt ?_)))))
    have hbv : beVal (l.take 1) = y.toNat := by
      cases l with
      | nil => simp at hy
      | cons a l => simp at hy; subst hy; simp [beVal]
    refine ⟨_, .n (if y.toNat = 0 then 0 else 1), some (l.drop 1), rfl, k3, ?_, k2, rfl, rfl, rfl, !((y.toNat : Int) == 0), rfl, ?_⟩
    · show dP .bool flex l = _
      have := Dec.map_of (f := fun n => D.n (if n = 0 then 0 else 1)) (Dec.map_of (f := beVal) (takeN_yes hnl))
      rw [hbv] at this
      exact this
    · by_cases hz : y.toNat = 0
      · simp [hz]
      · simp [hz]

def cOk (R : RN) : MCode := .sq (.rg [.mv 2 (.c (.bool false))]) (.sq (.rg [.mv 3 (.t 0), .nc 4 3, .fa 5 R.tR 4 1, .ld 6 R.T.bool 5, .nt 7 6, .mv 2 (.t 7)]) .rt)
def cCompl (R : RN) : MCode := .sq (.rg [.mv 2 (.c .niface)]) (.sq (.sq (.rg [.mv 3 (.t 0), .nc 4 3, .fa 5 R.tR 4 1, .ld 6 R.T.bool 5]) (.cd 6 (.sq (.rg [.lg 7 R.tErr R.gErr, .mv 2 (.t 7)]) .rt) .sk)) (.sq (.rg [.mv 2 (.c .niface)]) .rt))

def OkC (P : Program) (f : Nat) : Prop := entersB P f = true ∧ ∀ (w : World) (rb sb : Nat) (st : Option (List UInt8)), RdAt w rb sb st →
  Calls P f #[.pointer (some ⟨rb, 0, none⟩)] w (fun e w' => e = .returned (.bool (!stB st)) ∧ w' = w)
theorem okf_ok {f : Nat} (ok : ROK P R) (hf : FnIs P f (cOk R) 8 2) : OkC P f := by
  refine ⟨hf.ent, fun w rb sb st h => ?_⟩
  refine hf.runs (args := [.pointer (some ⟨rb, 0, none⟩)]) (by simp) (by omega) ?_
  obtain ⟨ad, c, r1, r2, r3, r4, r5⟩ := h.all
  refine RW.sq (RW.rg (RL.step MR.mv (RL.nil (RW.sq (RW.rg (RL.step (MR.mv (v := .pointer (some ⟨rb, 0, none⟩)) rfl) (RL.step (MR.nc rfl) (RL.step (MR.fa rfl ok.f1) (RL.step (MR.ld rfl ok.pb (r1 1 _ rfl)) (RL.step (MR.nt rfl) (RL.step MR.mv (RL.nil (RW.rt ?_)))))))))))))
  exact ⟨rfl, rfl⟩

/-- What Complete yields: ev where the reader has run out. -/
def complV (ev : Value) (st : Option (List UInt8)) : Value := if stB st then ev else MVal.niface.val
def ComplC (P : Program) (f gE : Nat) : Prop := entersB P f = true ∧ ∀ (w : World) (rb sb : Nat) (st : Option (List UInt8)) (ev : Value), RdAt w rb sb st → w.cell? ⟨gE, 0, none⟩ = some ev →
  Calls P f #[.pointer (some ⟨rb, 0, none⟩)] w (fun e w' => e = .returned (complV ev st) ∧ w' = w)
theorem compl_ok {f : Nat} (ok : ROK P R) (hf : FnIs P f (cCompl R) 8 2) : ComplC P f R.gErr := by
  refine ⟨hf.ent, fun w rb sb st ev h hev => ?_⟩
  refine hf.runs (args := [.pointer (some ⟨rb, 0, none⟩)]) (by simp) (by omega) ?_
  obtain ⟨ad, c, r1, r2, r3, r4, r5⟩ := h.all
  refine RW.sq (RW.rg (RL.step MR.mv (RL.nil (RW.sq (RW.sq (RW.rg (RL.step (MR.mv (v := .pointer (some ⟨rb, 0, none⟩)) rfl) (RL.step (MR.nc rfl) (RL.step (MR.fa rfl ok.f1) (RL.step (MR.ld rfl ok.pb (r1 1 _ rfl)) (RL.nil ?_)))))))))))
  refine RW.cd rfl (fun e => ?_) (fun e => RW.sk ?_)
  · refine RW.sq (RW.rg (RL.step (MR.lg (run_loadAt_one ok.pe hev)) (RL.step MR.mv (RL.nil (RW.rt ?_)))))
    exact ⟨by show Ending.returned ev = _; unfold complV; rw [e]; rfl, rfl⟩
  · refine RW.sq (RW.rg (RL.step MR.mv (RL.nil (RW.rt ?_))))
    exact ⟨by show Ending.returned MVal.niface.val = _; unfold complV; rw [e]; rfl, rfl⟩
end
end Go.Kx
namespace Go.Kx
open Go.RowKit Go.MapKept Go.MapFrom
set_option linter.unusedSimpArgs false
set_option linter.unusedVariables false

abbrev Tg := Nat × List UInt8

theorem setTag_iff {t x : Tg} : ∀ {ts : List Tg}, ts.Pairwise (fun x y => x.1 < y.1) → (x ∈ setTag t ts ↔ x = t ∨ (x ∈ ts ∧ x.1 ≠ t.1))
  | [], _ => by simp [setTag]
  | y :: ys, hs => by
    rw [List.pairwise_cons] at hs
    simp only [setTag]
    split
    · rename_i h
      rw [List.mem_cons, setTag_iff hs.2, List.mem_cons]
      constructor
      · rintro (rfl | rfl | ⟨h1, h2⟩)
        · exact .inr ⟨.inl rfl, by omega⟩
        · exact .inl rfl
        · exact .inr ⟨.inr h1, h2⟩
      · rintro (rfl | ⟨rfl | h1, h2⟩)
        · exact .inr (.inl rfl)
        · exact .inl rfl
        · exact .inr (.inr ⟨h1, h2⟩)
    · rename_i h
      split
      · rename_i h'
        rw [List.mem_cons, List.mem_cons]
        constructor
        · rintro (rfl | h1)
          · exact .inl rfl
          · have := hs.1 x h1; exact .inr ⟨.inr h1, by omega⟩
        · rintro (rfl | ⟨rfl | h1, h2⟩)
          · exact .inl rfl
          · exact absurd h' h2
          · exact .inr h1
      · rename_i h'
        simp only [List.mem_cons]
        constructor
        · rintro (rfl | rfl | h1)
          · exact .inl rfl
          · exact .inr ⟨.inl rfl, h'⟩
          · have := hs.1 x h1; exact .inr ⟨.inr h1, by omega⟩
        · rintro (rfl | ⟨rfl | h1, h2⟩)
          · exact .inl rfl
          · exact .inr (.inl rfl)
          · exact .inr (.inr h1)

theorem setTag_length {t : Tg} : ∀ {ts : List Tg}, ts.Pairwise (fun x y => x.1 < y.1) → ((∃ x ∈ ts, x.1 = t.1) → (setTag t ts).length = ts.length) ∧ ((∀ x ∈ ts, x.1 ≠ t.1) → (setTag t ts).length = ts.length + 1)
  | [], _ => by simp [setTag]
  | y :: ys, hs => by
    rw [List.pairwise_cons] at hs
    obtain ⟨i1, i2⟩ := @setTag_length t ys hs.2
    simp only [setTag]
    split
    · rename_i h
      refine ⟨?_, fun h1 => by rw [List.length_cons, List.length_cons, i2 fun x hx => h1 x (List.mem_cons_of_mem _ hx)]⟩
      rintro ⟨x, hx, e⟩
      rw [List.mem_cons] at hx
      rcases hx with rfl | hx
      · omega
      · rw [List.length_cons, List.length_cons, i1 ⟨x, hx, e⟩]
    · rename_i h
      split
      · rename_i h'
        exact ⟨fun _ => rfl, fun h1 => absurd h' (h1 y List.mem_cons_self)⟩
      · rename_i h'
        refine ⟨?_, fun _ => rfl⟩
        rintro ⟨x, hx, e⟩
        rw [List.mem_cons] at hx
        rcases hx with rfl | hx
        · exact absurd e h'
        · have := hs.1 x hx; omega

/-- The entries of a tags' map; the octets lie in block sb. -/
structure RepM (w : World) (sb : Nat) (es : Array MapEntry) (clock : Nat) (tags : List Tg) : Prop where
  sz : es.size = tags.length
  so : tags.Pairwise (fun x y => x.1 < y.1)
  has : ∀ t ∈ tags, t.1 < 4294967296 ∧ ∃ e ∈ es.toList, e.key = .int .u32 t.1 ∧ ∃ a c, e.val = .slice a t.2.length c ∧ BytesAt w (· = sb) a t.2
  st : Stamped es clock
  back : ∀ x ∈ es.toList, ∃ t ∈ tags, x.key = .int .u32 t.1

def TM (w : World) (lo sb : Nat) (m : Value) (tags : List Tg) : Prop :=
  (m = .map none ∧ tags = []) ∨ ∃ r es clock, m = .map (some r) ∧ lo ≤ r ∧ w.heap[r]? = some (.map es clock) ∧ RepM w sb es clock tags

theorem RepM.nil (w : World) (sb : Nat) : RepM w sb #[] 0 [] := ⟨rfl, List.Pairwise.nil, by simp, stamped_empty 0, by simp⟩
theorem RepM.keep {w w' : World} {sb clock : Nat} {es : Array MapEntry} {tags : List Tg} (h : RepM w sb es clock tags) (hs : w'.heap[sb]? = w.heap[sb]?) : RepM w' sb es clock tags := by
  refine ⟨h.sz, h.so, fun t ht => ?_, h.st, h.back⟩
  obtain ⟨h1, e, h2, h3, a, c, h4, h5⟩ := h.has t ht
  exact ⟨h1, e, h2, h3, a, c, h4, h5.mono (fun _ h => h) (fun b hb => by rw [hb]; exact hs)⟩
theorem RepM.keys {w : World} {sb clock : Nat} {es : Array MapEntry} {tags : List Tg} (h : RepM w sb es clock tags) : ∀ x ∈ es.toList, IsKey (.int .u32) x.key := fun x hx => by
  obtain ⟨t, _, e⟩ := h.back x hx
  rw [e]; rfl

theorem TM.rep {w : World} {lo sb : Nat} {m : Value} {tags : List Tg} {F : Nat → Prop} (h : TM w lo sb m tags) (hF : ∀ b, lo ≤ b → F b) (hs : F sb) : RepT w F m tags := by
  rcases h with h | ⟨r, es, clock, h1, h2, h3, h4⟩
  · exact .inl h
  · refine .inr ⟨r, es, clock, h1, hF r h2, h3, h4.sz, h4.so, fun t ht => ?_, h4.st, h4.back⟩
    obtain ⟨g1, e, g2, g3, a, c, g4, g5⟩ := h4.has t ht
    exact ⟨g1, e, g2, g3, a, c, g4, g5.mono (fun b hb => by rw [hb]; exact hs) (fun b _ => rfl)⟩

def mapU (P : Program) (T : Nat) : Bool := match P.underlying T with
  | some (.map k _) => intTy P k .u32
  | _ => false

theorem mapU_eq {P : Program} {T : Nat} (h : mapU P T = true) : ∃ k e, P.underlying T = some (.map k e) ∧ P.underlying k = some (.int .u32) := by
  unfold mapU at h
  cases hu : P.underlying T with
  | none => simp [hu] at h
  | some d =>
    cases d <;> simp only [hu, Bool.false_eq_true] at h
    exact ⟨_, _, rfl, intTy_eq h⟩

/-- An entry is set. -/
theorem run_setTag {P : Program} {w : World} {T r sb clock : Nat} {es : Array MapEntry} {tags : List Tg} {k : Nat} {l : List UInt8} {a : Option Addr} {c : Nat} (hT : mapU P T = true) (hb : w.heap[r]? = some (.map es clock)) (hM : RepM w sb es clock tags) (hk : k < 4294967296) (hv : BytesAt w (· = sb) a l) (hne : sb ≠ r) :
    ∃ es' clock', (Instr.mapUpdate T (.map (some r)) (.int .u32 (k : Nat)) (.slice a l.length c)).run P w = .ok () { w with heap := w.heap.setIfInBounds r (.map es' clock') } ∧ RepM { w with heap := w.heap.setIfInBounds r (.map es' clock') } sb es' clock' (setTag (k, l) tags) := by
  obtain ⟨kt, et, hm, hd⟩ := mapU_eq hT
  have hk' : IsKey (.int .u32) (.int .u32 (k : Nat)) := rfl
  have keep : ∀ es' clock', ({ w with heap := w.heap.setIfInBounds r (.map es' clock') } : World).heap[sb]? = w.heap[sb]? := fun es' clock' => (heap_set hb).2 sb hne
  rcases findNow_spec hk' es.toList 0 hM.keys with ⟨h1, h2⟩ | ⟨j, e, h1, h2, h3⟩
  · refine ⟨es.push { key := .int .u32 (k : Nat), val := .slice a l.length c, born := clock }, clock + 1, ?_, ?_⟩
    · simp [Instr.mapUpdate, run_underlying hm, Go.MapKept.run_getObj_map hb, Go.MapKept.run_checkKey hd hk', Go.MapKept.run_findKey hd h1, Go.MapKept.run_setObj_map _ hb, Result.andThen]
    · have hno : ∀ x ∈ tags, x.1 ≠ k := fun x hx e => by
        obtain ⟨_, e', g2, g3, _⟩ := hM.has x hx
        exact h2 e' g2 (by rw [g3, e])
      refine ⟨?_, setTag_sorted hM.so, fun t ht => ?_, stamped_push hM.st h2, fun x hx => ?_⟩
      · rw [Array.size_push, hM.sz, (setTag_length (t := (k, l)) hM.so).2 hno]
      · rw [setTag_iff hM.so] at ht
        rcases ht with rfl | ⟨ht, _⟩
        · exact ⟨hk, { key := .int .u32 (k : Nat), val := .slice a l.length c, born := clock }, by simp, rfl, a, c, rfl, hv.mono (fun _ h => h) (fun b hb' => by rw [hb']; exact keep _ _)⟩
        · obtain ⟨g1, e', g2, g3, a', c', g4, g5⟩ := hM.has t ht
          exact ⟨g1, e', by simp [Array.mem_toList_iff.1 g2], g3, a', c', g4, g5.mono (fun _ h => h) (fun b hb' => by rw [hb']; exact keep _ _)⟩
      · simp only [Array.toList_push, List.mem_append, List.mem_singleton] at hx
        rcases hx with hx | rfl
        · obtain ⟨t, g1, g2⟩ := hM.back x hx
          exact ⟨t, (setTag_iff hM.so).2 (.inr ⟨g1, hno t g1⟩), g2⟩
        · exact ⟨(k, l), (setTag_iff hM.so).2 (.inl rfl), rfl⟩
  · have hj : es[j]? = some e := by simpa using h2
    have hem : e ∈ es.toList := at_mem hj
    refine ⟨es.modify j fun e => { e with key := .int .u32 (k : Nat), val := .slice a l.length c }, clock, ?_, ?_⟩
    · simp [Instr.mapUpdate, run_underlying hm, Go.MapKept.run_getObj_map hb, Go.MapKept.run_checkKey hd hk', Go.MapKept.run_findKey hd h1, hj, h3, Go.MapKept.run_keyThatStays hk', Go.MapKept.run_setObj_map _ hb, Result.andThen]
    · obtain ⟨t0, q1, q2⟩ := hM.back e hem
      have q3 : t0.1 = k := by
        rw [h3] at q2
        simp only [Value.int.injEq, true_and] at q2; omega
      have hkey : ∀ e', es[j]? = some e' → ({ e' with key := .int .u32 (k : Nat), val := .slice a l.length c } : MapEntry).key = e'.key := fun e' he' => by rw [hj] at he'; cases he'; exact h3.symm
      refine ⟨?_, setTag_sorted hM.so, fun t ht => ?_, stamped_modify hM.st _ _ (fun _ _ => rfl) (fun e' _ he' => hkey e' he'), fun x hx => ?_⟩
      · rw [Array.size_modify, hM.sz, (setTag_length (t := (k, l)) hM.so).1 ⟨t0, q1, q3⟩]
      · rw [setTag_iff hM.so] at ht
        rcases ht with rfl | ⟨ht, hne'⟩
        · refine ⟨hk, { e with key := .int .u32 (k : Nat), val := .slice a l.length c }, ?_, rfl, a, c, rfl, hv.mono (fun _ h => h) (fun b hb' => by rw [hb']; exact keep _ _)⟩
          rw [Array.mem_toList_iff, Array.mem_iff_getElem?]
          exact ⟨j, by rw [Array.getElem?_modify, if_pos rfl, hj]; rfl⟩
        · obtain ⟨g1, e', g2, g3, a', c', g4, g5⟩ := hM.has t ht
          refine ⟨g1, e', ?_, g3, a', c', g4, g5.mono (fun _ h => h) (fun b hb' => by rw [hb']; exact keep _ _)⟩
          rw [Array.mem_toList_iff, Array.mem_iff_getElem?] at g2 ⊢
          obtain ⟨i, hi⟩ := g2
          refine ⟨i, ?_⟩
          rw [Array.getElem?_modify, if_neg, hi]
          rintro rfl
          rw [hj] at hi
          cases hi
          rw [h3] at g3
          simp only [Value.int.injEq, true_and] at g3
          exact hne' (by show t.1 = k; omega)
      · rcases mem_modify hx with hx | ⟨e', he', rfl⟩
        · obtain ⟨t, g1, g2⟩ := hM.back x hx
          by_cases hk2 : t.1 = k
          · exact ⟨(k, l), (setTag_iff hM.so).2 (.inl rfl), by rw [g2, hk2]⟩
          · exact ⟨t, (setTag_iff hM.so).2 (.inr ⟨g1, hk2⟩), g2⟩
        · exact ⟨(k, l), (setTag_iff hM.so).2 (.inl rfl), rfl⟩

def zTagB (P : Program) (T : Nat) : Bool := match P.info? T with
  | some i => (match i.zero with | some (.agg a) => (match a.toList with | [.map none] => true | _ => false) | _ => false)
  | none => false

theorem zTag_of {P : Program} {T : Nat} (h : zTagB P T = true) : zeroAgg P T [.map none] := by
  unfold zTagB at h
  cases hi : P.info? T with
  | none => simp [hi] at h
  | some i =>
    simp only [hi] at h
    split at h
    · rename_i a hz
      split at h
      · rename_i hl
        refine ⟨i, hi, ?_⟩
        rw [hz]
        have : a = #[.map none] := Array.toList_inj.1 hl
        rw [this]
      · simp at h
    · simp at h

/-- The numbers of the tags' types and functions. -/
structure TG where
  tSt : Nat
  tMap : Nat
  fSet : Nat
  fRead : Nat

structure TGR (P : Program) (G : TG) : Prop where
  map : mapU P G.tMap = true
  pl : plainTy P G.tMap = true
  mc : cellsB P G.tMap 1 = true
  fld : fieldAtB P G.tSt 0 0 = true
  row : rowTy P G.tSt = true
  sc : cellsB P G.tSt 1 = true
  z : zTagB P G.tSt = true
def tgrB (P : Program) (G : TG) : List Bool := [mapU P G.tMap, plainTy P G.tMap, cellsB P G.tMap 1, fieldAtB P G.tSt 0 0, rowTy P G.tSt, cellsB P G.tSt 1, zTagB P G.tSt]
theorem tgr_of {P : Program} {G : TG} (h : (tgrB P G).all id = true) : TGR P G := by
  simp only [tgrB, List.all_cons, List.all_nil, id_eq, Bool.and_true, Bool.and_eq_true] at h
  obtain ⟨h1, h2, h3, h4, h5, h6, h7⟩ := h
  exact ⟨h1, h2, h3, h4, h5, h6, h7⟩

def cTagSet (G : TG) : MCode :=
  .sq (.sq (.rg [.mv 6 (.t 0), .nc 7 6, .fa 8 G.tSt 7 0, .ld 9 G.tMap 8, .bi 10 .eql G.tMap (.t 9) (.c .nmap)]) (.cd 10 (.rg [.mv 11 (.t 0), .mkm 12 G.tMap, .nc 13 11, .fa 14 G.tSt 13 0, .st G.tMap 14 12]) .sk))
    (.rg [.mv 15 (.t 0), .nc 16 15, .fa 17 G.tSt 16 0, .ld 18 G.tMap 17, .mv 19 (.t 1), .mv 20 (.t 2), .mpu G.tMap 18 19 20])

section
variable {P : Program} {N : Nat} {Q : Exit → (Nat → Value) → World → Prop} {ρ : Nat → Value} {w w' : World} {ms : List MOp} {R : RN} {G : TG} {rb sb : Nat} {st : Option (List UInt8)}

theorem MR.eqNilM {d ty x : Nat} {p : Option Nat} (hs : mapU P ty = true) (hx : ρ x = .map p) (hxN : x < N := by decide) : MR P N (.bi d .eql ty (.t x) (.c .nmap)) ρ w d (.bool p.isNone) w := by
  obtain ⟨k, e, hu, _⟩ := mapU_eq hs
  refine MR.bi (fun ox oy => ?_) ?_ (ltT hxN)
  · simp only [xof, hx, MVal.val]; unfold eqGuard; rfl
  · simp only [xof, hx, MVal.val]
    have h : ∀ d : Nat, (Op.equalIn (d + 1) ty (.map p) (.map none)).run P w = .ok p.isNone w := fun d => by
      cases p <;> simp [Op.equalIn, run_underlying hu]
    simp only [binOp]
    simp [Op.equal, Op.maxDepth, h 9999]

theorem cell_map {r : Nat} {es : Array MapEntry} {clock o : Nat} (h : w.heap[r]? = some (.map es clock)) : w.cell? ⟨r, o, none⟩ = none := by
  simp [World.cell?, h]

def SetC (P : Program) (f : Nat) : Prop := entersB P f = true ∧ ∀ (w : World) (tb sb lo : Nat) (m : Value) (tags : List Tg) (k : Nat) (ad : Option Addr) (l : List UInt8) (c : Nat), TM w lo sb m tags → w.rangeAt tb 0 [m] → w.there tb 0 1 → lo ≤ w.heap.size → sb < lo → sb ≠ tb → k < 4294967296 → BytesAt w (· = sb) ad l →
  Calls P f #[.pointer (some ⟨tb, 0, none⟩), .int .u32 (k : Nat), .slice ad l.length c] w (fun e w' => (∃ v, e = .returned v) ∧ ∃ m', TM w' lo sb m' (setTag (k, l) tags) ∧ w'.rangeAt tb 0 [m'] ∧ w'.there tb 0 1 ∧ Fr (fun b => lo ≤ b) tb 0 1 w w')

theorem set_ok {f : Nat} (tg : TGR P G) (hf : FnIs0 P f (cTagSet G) 21) : SetC P f := by
  refine ⟨hf.ent, fun w tb sb lo m tags k ad l c hm hr ht hlo hsl hst hk hb => ?_⟩
  refine hf.runs (args := [.pointer (some ⟨tb, 0, none⟩), .int .u32 (k : Nat), .slice ad l.length c]) (by simp) ?_
  have htb : tb < w.heap.size := World.block_lt_of_cell? w _ (hr 0 _ rfl)
  -- the second half
  have half : ∀ (ρ : Nat → Value) (w1 : World) (r : Nat) (es : Array MapEntry) (clock : Nat), ρ 0 = .pointer (some ⟨tb, 0, none⟩) → ρ 1 = .int .u32 (k : Nat) → ρ 2 = .slice ad l.length c → lo ≤ r → w1.heap[r]? = some (.map es clock) → RepM w1 sb es clock tags → w1.rangeAt tb 0 [.map (some r)] → w1.there tb 0 1 → BytesAt w1 (· = sb) ad l → Fr (fun b => lo ≤ b) tb 0 1 w w1 →
      RW P 21 (.rg [.mv 15 (.t 0), .nc 16 15, .fa 17 G.tSt 16 0, .ld 18 G.tMap 17, .mv 19 (.t 1), .mv 20 (.t 2), .mpu G.tMap 18 19 20]) (ret0 (fun e w' => (∃ v, e = .returned v) ∧ ∃ m', TM w' lo sb m' (setTag (k, l) tags) ∧ w'.rangeAt tb 0 [m'] ∧ w'.there tb 0 1 ∧ Fr (fun b => lo ≤ b) tb 0 1 w w')) ρ w1 := by
    intro ρ w1 r es clock h0 h1 h2 hr1 hh hM hra hth hb1 hF
    have hsr : sb ≠ r := by omega
    have htr : tb ≠ r := by
      rintro rfl
      have := hra 0 _ rfl
      rw [cell_map hh] at this
      cases this
    obtain ⟨es', clock', g1, g2⟩ := run_setTag (P := P) (T := G.tMap) (c := c) tg.map hh hM hk hb1 hsr
    refine RW.rg (RL.step (MR.mv h0) (RL.step (MR.nc rfl) (RL.step (MR.fa rfl tg.fld) (RL.step (MR.ld rfl tg.pl (hra 0 _ rfl)) (RL.step (MR.mv h1) (RL.step (MR.mv h2) (RL.mpu g1 (RL.nil ?_))))))))
    have hhs := @heap_set w1 r _ (.map es' clock') hh
    refine ⟨⟨_, rfl⟩, .map (some r), .inr ⟨r, es', clock', rfl, hr1, hhs.1, g2⟩, range_keep hra (hhs.2 tb htr), there_keep hth (hhs.2 tb htr), hF.trans ⟨rfl, rfl, rfl, by simp, fun b hb1 hb2 hb3 => hhs.2 b (fun e => hb3 (by omega)), fun j _ => cell_of_heap (hhs.2 tb htr), fun o' n' h => there_keep h (hhs.2 tb htr)⟩⟩
  refine RW.sq (RW.sq (RW.rg (RL.step (MR.mv (v := .pointer (some ⟨tb, 0, none⟩)) rfl) (RL.step (MR.nc rfl) (RL.step (MR.fa rfl tg.fld) (RL.step (MR.ld rfl tg.pl (hr 0 _ rfl)) ?_))))))
  rcases hm with ⟨rfl, rfl⟩ | ⟨r, es, clock, rfl, h1, h2, h3⟩
  · refine RL.step (MR.eqNilM (p := none) tg.map rfl) (RL.nil (RW.cd (b := true) rfl (fun _ => ?_) (fun e => by cases e)))
    refine RW.rg (RL.step (MR.mv (v := .pointer (some ⟨tb, 0, none⟩)) rfl) (RL.step MR.mkm (RL.step (MR.nc rfl) (RL.step (MR.fa rfl tg.fld) ?_))))
    have ha := heap_alloc w (.map #[] 0)
    have ht1 : (w.alloc (.map #[] 0)).there tb 0 1 := there_keep ht (ha.2 tb htb)
    refine RL.st1 (v := .map (some w.heap.size)) (b := tb) (o := 0 + 0) rfl rfl rfl tg.mc ht1 (RL.nil ?_)
    have hne : w.heap.size ≠ tb := by omega
    have e1 : ((w.alloc (.map #[] 0)).setCells tb (0 + 0) [.map (some w.heap.size)]).heap[w.heap.size]? = some (.map #[] 0) := by
      rw [setCells_other tb _ _ _ _ hne]; exact ha.1
    have e2 : ((w.alloc (.map #[] 0)).setCells tb (0 + 0) [.map (some w.heap.size)]).heap[sb]? = w.heap[sb]? := by
      rw [setCells_other tb _ _ _ _ hst]; exact ha.2 sb (by omega)
    refine half _ _ w.heap.size #[] 0 rfl rfl rfl hlo e1 (RepM.nil _ _) (World.rangeAt_setCells_same _ _ _ _ ht1) (World.there_setCells ht1 _ _ _) (hb.mono (fun _ h => h) (fun b hb' => by rw [hb']; exact e2)) ?_
    refine Fr.trans (w2 := w.alloc (.map #[] 0)) ?_ (Fr.put _ (by omega) (by simp))
    exact Fr.ofBelow ((Below.refl _ w).alloc (Nat.le_refl _) _) htb
  · refine RL.step (MR.eqNilM (p := some r) tg.map rfl) (RL.nil (RW.cd (b := false) rfl (fun e => by cases e) (fun _ => RW.sk ?_)))
    exact half _ _ r es clock rfl rfl rfl h1 h2 h3 hr ht hb (Fr.refl _ _ _ _ _)

def cReadTags (R : RN) (G : TG) : MCode :=
  .sq (.rg [.al 2 G.tSt]) (.sq (.rg [.al 3 G.tSt]) (.sq (.sq (.rg [.mv 7 (.t 0), .ca 8 R.uv [.t 7], .mv 4 (.t 8)])
    (.bl 0 (.lp (.sq (.sq (.rg [.mv 9 (.t 4), .bi 10 .gtr R.T.u32 (.t 9) (.c (.int .u32 0))]) (.cd 10 .sk (.ex 0)))
      (.sq (.bl 1 (.sq (.rg [.mv 13 (.t 0), .ca 14 R.uv [.t 13], .mv 15 (.t 0), .ca 16 R.uv [.t 15], .mv 5 (.t 14), .mv 6 (.t 16)])
        (.rg [.mv 17 (.t 5), .mv 18 (.t 0), .mv 19 (.t 6), .cv 20 R.T.u32 R.T.int 19, .ca 21 R.span [.t 18, .t 20], .ca 22 G.fSet [.t 3, .t 17, .t 21]])))
        (.rg [.mv 11 (.t 4), .bi 12 .sub R.T.u32 (.t 11) (.c (.int .u32 1)), .mv 4 (.t 12)]))))))
    (.sq (.rg [.ld 23 G.tSt 3, .st G.tSt 2 23]) .rt)))

/-- Tags are read. -/
def TagC (P : Program) (f : Nat) : Prop := entersB P f = true ∧ ∀ (w : World) (rb sb : Nat) (st : Option (List UInt8)), RdAt w rb sb st → sb ≠ rb → sb < w.heap.size →
  Calls P f #[.pointer (some ⟨rb, 0, none⟩)] w (fun e w' => ∃ m tags st', e = .returned (.agg #[m]) ∧ m.oneCell' = true ∧ Fr (fun _ => False) rb 0 2 w w' ∧ Got dTags st tags st' ∧ RdAt w' rb sb st' ∧ RepT w' (Rb w sb) m tags)

theorem Fr.toNew {X : Nat → Prop} {b o n : Nat} {w w' : World} (h : Fr X b o n w w') (hX : ∀ k, X k → w.heap.size ≤ k) : Fr (fun _ => False) b o n w w' :=
  ⟨h.os, h.tape, h.output, h.size, fun k h1 h2 _ => h.block k h1 h2 (fun x => by have := hX k x; omega), h.cell, h.there⟩
/-- A frame of one block, as one of another block's, where both may be turned. -/
theorem Fr.other {X : Nat → Prop} {b b' o n o' n' : Nat} {w w' : World} (h : Fr X b' o' n' w w') (hb' : X b') (hb : ¬ X b) (hbw : b < w.heap.size) : Fr X b o n w w' := by
  have hne : b ≠ b' := fun e => hb (e ▸ hb')
  have he := h.block b hbw hne hb
  exact ⟨h.os, h.tape, h.output, h.size, fun k h1 h2 h3 => h.block k h1 (fun e => h3 (e ▸ hb')) h3, fun j _ => cell_of_heap he, fun o' n' ht => there_keep ht he⟩

theorem readTags_ok {f : Nat} (ok : ROK P R) (tg : TGR P G) (h32 : R.T.u32 ≠ 0) (hu : RdC P R.uv dUv (PlB (fun x => .int .u32 (x : Nat)) (· < 4294967296))) (hsp : SpanC P R.span) (hset : SetC P G.fSet) (hf : FnIsC P f (cReadTags R G) 24 2 G.tSt) : TagC P f := by
  refine ⟨hf.ent, fun w rb sb st0 h hne hsb => ?_⟩
  refine hf.runs (args := [.pointer (some ⟨rb, 0, none⟩)]) (by simp) (by omega) ?_
  obtain ⟨zi, hzi, hzv⟩ := zTag_of tg.z
  have hrb := h.lt
  refine RW.sq (RW.rg (RL.step (MR.al ⟨zi, hzi, hzv⟩) (RL.nil ?_)))
  have b1 := below_box w (.cells #[.map none] G.tSt)
  have s1 := size_box w (.cells #[.map none] G.tSt)
  have t1 := there_box w [.map none] G.tSt
  change RW P 24 _ _ _ (w.alloc (.cells #[.map none] G.tSt))
  revert b1 s1 t1
  change _ → _ → (w.alloc (.cells #[.map none] G.tSt)).there w.heap.size 0 1 → _
  generalize w.alloc (.cells #[.map none] G.tSt) = w1
  intro b1 s1 t1
  refine RW.sq (RW.rg (RL.step (MR.al ⟨zi, hzi, hzv⟩) (RL.nil ?_)))
  have b2 := below_box w1 (.cells #[.map none] G.tSt)
  have s2 := size_box w1 (.cells #[.map none] G.tSt)
  have t2 := there_box w1 [.map none] G.tSt
  have r2 : (w1.alloc (.cells #[.map none] G.tSt)).rangeAt w1.heap.size 0 [.map none] := fun j v hj => cell_box w1 [.map none] G.tSt hj
  change RW P 24 _ _ _ (w1.alloc (.cells #[.map none] G.tSt))
  revert b2 s2 t2 r2
  change _ → _ → (w1.alloc (.cells #[.map none] G.tSt)).there w1.heap.size 0 1 → _ → _
  generalize w1.alloc (.cells #[.map none] G.tSt) = w2
  intro b2 s2 t2 r2
  have B2 : Below w.heap.size w w2 := b1.trans (b2.mono b1.size)
  have h2 : RdAt w2 rb sb st0 := h.below B2
  have F2 : Fr (fun b => w.heap.size ≤ b) rb 0 2 w w2 := Fr.ofBelow B2 hrb
  have t1' : w2.there w.heap.size 0 1 := there_keep t1 (b2.block _ (by omega))
  refine RW.sq (RW.sq (RW.rg (RL.step (MR.mv (v := .pointer (some ⟨rb, 0, none⟩)) rfl) (RL.rd hu rfl h2 hne (by rfl) (by decide) ?_))))
  rintro v n st1 w3 hF hG hR ⟨rfl, hn⟩
  refine RL.step MR.mv (RL.nil (RW.bl ?_))
  have s3 := hF.size
  have hlt1 : w1.heap.size < w2.heap.size := by omega
  have r3 : w3.rangeAt w1.heap.size 0 [.map none] := range_keep r2 (hF.block _ hlt1 (by omega) (fun x => x))
  have t3 : w3.there w1.heap.size 0 1 := there_keep t2 (hF.block _ hlt1 (by omega) (fun x => x))
  have t3' : w3.there w.heap.size 0 1 := there_keep t1' (hF.block _ (by omega) (by omega) (fun x => x))
  refine RW.lp (fun ρ w' => ∃ (n : Nat) (st : Option (List UInt8)) (ts : List Tg) (m : Value), ρ 0 = .pointer (some ⟨rb, 0, none⟩) ∧ ρ 2 = .pointer (some ⟨w.heap.size, 0, none⟩) ∧ ρ 3 = .pointer (some ⟨w1.heap.size, 0, none⟩) ∧ ρ 4 = .int .u32 (n : Nat) ∧ n < 4294967296 ∧
      (∀ x st', Got (dTagN n ts) st x st' → Got dTags st0 x st') ∧ RdAt w' rb sb st ∧ TM w' w2.heap.size sb m ts ∧ w'.rangeAt w1.heap.size 0 [m] ∧ w'.there w1.heap.size 0 1 ∧ w'.there w.heap.size 0 1 ∧ w2.heap.size ≤ w'.heap.size ∧ Fr (fun b => w.heap.size ≤ b) rb 0 2 w w')
    (fun ρ _ => (intOf (ρ 4)).toNat) ⟨n, st1, [], .map none, rfl, rfl, rfl, rfl, hn, fun x st' hx => hG.bind hx, hR, .inl ⟨rfl, rfl⟩, r3, t3, t3', s3, F2.trans (hF.wide (fun _ h => h.elim) (Nat.le_refl _) (Nat.le_refl _))⟩ ?_ (fun ρ ρ' w h => by rw [h 4 (by omega)])
  rintro ρ w4 ⟨n, st, ts, m, q0, q2, q3, q4, hn, hG4, h4, hm, hr4, ht4, ht4', hs4, F4⟩
  refine RW.knows [(0, .pointer (some ⟨rb, 0, none⟩)), (2, .pointer (some ⟨w.heap.size, 0, none⟩)), (3, .pointer (some ⟨w1.heap.size, 0, none⟩)), (4, .int .u32 (n : Nat))] (by simp [q0, q2, q3, q4]) ?_
  refine RW.sq (RW.sq (RW.rg (RL.step (MR.mv (v := .int .u32 (n : Nat)) rfl) (RL.step (MR.biE (v := .bool (decide ((0 : Int) < (n : Nat)))) rfl) (RL.nil ?_)))))
  refine RW.cd rfl (fun e => RW.sk ?_) (fun e => RW.ex ?_)
  · have hn0 : 0 < n := by have := of_decide_eq_true e; omega
    obtain ⟨n, rfl⟩ : ∃ k, n = k + 1 := ⟨n - 1, by omega⟩
    show RW P 24 _ _ _ w4
    refine RW.sq (RW.bl (RW.sq (RW.rg (RL.step (MR.mv (v := .pointer (some ⟨rb, 0, none⟩)) rfl) (RL.rd hu rfl h4 hne (by rfl) (by decide) ?_)))))
    rintro v k st5 w5 hF5 hG5 hR5 ⟨rfl, hk⟩
    refine RL.step (MR.mv (v := .pointer (some ⟨rb, 0, none⟩)) rfl) (RL.rd hu rfl hR5 hne (by rfl) (by decide) ?_)
    rintro v s st6 w6 hF6 hG6 hR6 ⟨rfl, hs⟩
    refine RL.step MR.mv (RL.step MR.mv (RL.nil (RW.rg ?_)))
    refine RL.step MR.mv (RL.step (MR.mv (v := .pointer (some ⟨rb, 0, none⟩)) rfl) (RL.step MR.mv (RL.step (MR.cvI rfl (ok.tk.u32 h32) ok.tk.int) (RL.span (n := (s : Nat)) hsp rfl (by show Value.int .i64 (IntKind.i64.wrap (s : Int)) = _; rw [wrap_i64 (by omega) (by omega)]) hR6 hne (by rfl) (by rfl) (by decide) ?_))))
    intro ad l st7 w7 hF7 hG7 hR7 ha hb
    have F47 : Fr (fun _ => False) rb 0 2 w4 w7 := (hF5.trans hF6).trans hF7
    have hk7 : ∀ b, b < w4.heap.size → b ≠ rb → w7.heap[b]? = w4.heap[b]? := fun b h1 h2 => F47.block b h1 h2 (fun x => x)
    have hw4 : w.heap.size ≤ w4.heap.size := F4.size
    have hm7 : TM w7 w2.heap.size sb m ts := by
      rcases hm with hm | ⟨r, es, clock, g1, g2, g3, g4⟩
      · exact .inl hm
      · have hr : r < w4.heap.size := (Array.getElem?_eq_some_iff.1 g3).1
        exact .inr ⟨r, es, clock, g1, g2, by rw [hk7 r hr (by omega)]; exact g3, g4.keep (hk7 sb (by omega) hne)⟩
    have hb1 : w1.heap.size < w4.heap.size := by omega
    have hr7 := range_keep hr4 (hk7 _ hb1 (by omega))
    have ht7 := there_keep ht4 (hk7 _ hb1 (by omega))
    refine RL.ca (R := fun _ w' => ∃ m', TM w' w2.heap.size sb m' (setTag (k, l) ts) ∧ w'.rangeAt w1.heap.size 0 [m'] ∧ w'.there w1.heap.size 0 1 ∧ Fr (fun b => w2.heap.size ≤ b) w1.heap.size 0 1 w7 w') hset.1 ?_ ?_
    · have := hset.2 w7 w1.heap.size sb w2.heap.size m ts k ad l l.length hm7 hr7 ht7 (Nat.le_trans hs4 F47.size) (by omega) (by omega) hk hb
      refine Calls.mono this ?_
      rintro e w' ⟨⟨v, rfl⟩, h⟩
      exact ⟨v, rfl, h⟩
    rintro v w8 ⟨m', hm8, hr8, ht8, hF8⟩
    have F8' : Fr (fun b => w.heap.size ≤ b) rb 0 2 w7 w8 := (hF8.wide (X' := fun b => w.heap.size ≤ b) (fun b hb => by show w.heap.size ≤ b; have : w2.heap.size ≤ b := hb; omega) (Nat.le_refl _) (Nat.le_refl _)).other (by show w.heap.size ≤ w1.heap.size; omega) (by show ¬ w.heap.size ≤ rb; omega) (Nat.lt_of_lt_of_le (by omega) (Nat.le_trans hw4 F47.size))
    have hrb7 : rb < w7.heap.size := hR7.lt
    have hkb : ∀ b, b < w.heap.size → w8.heap[b]? = w7.heap[b]? := fun b hb => hF8.block b (by have := F47.size; omega) (by omega) (by show ¬ w2.heap.size ≤ b; omega)
    refine RL.nil (RW.rg (RL.step (MR.mv (v := .int .u32 ((n + 1 : Nat) : Int)) rfl) (RL.step (MR.biE (v := .int .u32 (n : Nat)) ?_) (RL.step MR.mv (RL.nil ?_)))))
    · show some (Value.int .u32 (IntKind.u32.wrap (((n + 1 : Nat) : Int) - 1))) = _
      rw [show (((n + 1 : Nat) : Int) - 1) = (n : Nat) from by omega, wrap_u32n (by omega)]
    · refine ⟨⟨n, st7, setTag (k, l) ts, m', rfl, rfl, rfl, rfl, by omega, fun x st' hx => hG4 x st' ?_, hR7.keep (hkb rb hrb) (hkb sb hsb), hm8, hr8, ht8, ?_, ?_, F4.trans ((F47.wide (fun _ h => h.elim) (Nat.le_refl _) (Nat.le_refl _)).trans F8')⟩, ?_⟩
      · exact (hG5.bind (hG6.bind (hG7.map (f := fun v => (k, v))))).bind hx
      · have e1 := there_keep ht4' (hk7 w.heap.size (by omega) (by omega))
        exact there_keep e1 (hF8.block _ (by have := F47.size; omega) (by omega) (by show ¬ w2.heap.size ≤ w.heap.size; omega))
      · have := F47.size; have := hF8.size; omega
      · show (n : Int).toNat < (intOf (ρ 4)).toNat
        rw [q4]; simp only [intOf]; omega
  · have hn0 : n = 0 := by have := of_decide_eq_false e; omega
    subst hn0
    show RW P 24 _ _ _ w4
    refine RW.sq (RW.rg (RL.step (MR.ldRow (cs := [m]) (b := w1.heap.size) (o := 0) rfl tg.row tg.sc hr4) ?_))
    have hm1 : m.oneCell' = true := by rcases hm with ⟨rfl, _⟩ | ⟨r, es, clock, rfl, _⟩ <;> rfl
    refine RL.stA (cs := [m]) (b := w.heap.size) (o := 0) rfl rfl tg.sc ht4' (by simp [hm1]) (RL.nil (RW.rt ?_))
    have e1 := World.rangeAt_setCells_same w4 w.heap.size 0 [m] ht4'
    have ho : ∀ b, b ≠ w.heap.size → (w4.setCells w.heap.size 0 [m]).heap[b]? = w4.heap[b]? := fun b hb => setCells_other _ _ _ _ b hb
    have FF : Fr (fun b => w.heap.size ≤ b) rb 0 2 w (w4.setCells w.heap.size 0 [m]) := F4.trans ((Fr.put (X := fun b => w.heap.size ≤ b) (b := w.heap.size) (o := 0) (n := 1) [m] (by omega) (by simp)).other (Nat.le_refl _) (by show ¬ w.heap.size ≤ rb; omega) (Nat.lt_of_lt_of_le hrb F4.size))
    have hmr : TM (w4.setCells w.heap.size 0 [m]) w2.heap.size sb m ts := by
      rcases hm with hm | ⟨r, es, clock, g1, g2, g3, g4⟩
      · exact .inl hm
      · exact .inr ⟨r, es, clock, g1, g2, by rw [ho r (by omega)]; exact g3, g4.keep (ho sb (by omega))⟩
    refine ⟨⟨w.heap.size, 0, none⟩, .agg #[m], rfl, run_loadAt_row (cs := [m]) tg.row tg.sc e1, m, ts, st, rfl, hm1, FF.toNew (fun b hb => hb), hG4 ts st (Got.pure _), h4.keep (ho rb (by omega)) (ho sb (by omega)), hmr.rep (fun b hb => .inr (by omega)) (.inl rfl)⟩
end
end Go.Kx
namespace Go.Kx
open Go.RowKit
set_option linter.unusedSimpArgs false
set_option linter.unusedVariables false

def RN.fn (R : RN) (k : PK) (flex : Bool) : Nat :=
  match k with
  | .i8 => R.i8 | .i16 => R.i16 | .u16 => R.u16 | .i32 => R.i32 | .i64 => R.i64 | .bool => R.bool
  | .str => if flex then R.cstr else R.str
  | .nstr => if flex then R.cnstr else R.nstr
  | .byt => if flex then R.cbyt else R.byt
  | .nbyt => if flex then R.cnbyt else R.nbyt
  | .uuid => R.uuid | .f64 => R.f64

/-- The reader's functions, those that the program has. -/
structure RKOK (P : Program) (R : RN) (G : TG) : Prop where
  ok : ROK P R
  tg : TGR P G
  fn : ∀ k flex, R.fn k flex ≠ 0 → RdC P (R.fn k flex) (dP k flex) (PrC k)
  al : R.alen ≠ 0 → RdC P R.alen (dALen false) (PlB (fun x => .int .i32 x) I32)
  cal : R.calen ≠ 0 → RdC P R.calen (dALen true) (PlB (fun x => .int .i32 x) I32)
  okf : R.okf ≠ 0 → OkC P R.okf
  compl : ComplC P R.compl R.gErr
  tag : G.fRead ≠ 0 → TagC P G.fRead

def PK.zr : PK → MVal
  | .str => .estr
  | .nstr => .nptr
  | _ => .nslice

def uOff : Option Nat → Nat
  | none => 2
  | some _ => 4
def callR (f x t : Nat) : MCode × Nat := (.rg [.ca t f [.t 7], .mv x (.t t)], t + 1)
def unsR (f x t : Nat) : MCode × Nat := (.sq (.rg [.mv t (.t 2)]) (.cd t .any (.rg [.ca (t + 2) f [.t 7], .mv x (.t (t + 2))])), t + 3)
/-- A value is read into slot x. -/
def rdA (R : RN) (sf : Option Nat) (k : PK) (x t : Nat) : MCode × Nat :=
  match k with
  | .str =>
    let r := ifFlex sf (t + uOff sf) (callR (R.fn .str true) x) (callR (R.fn .str false) x)
    (.sq (.rg [.mv t (.t 2)]) (.cd t .any r.1), r.2)
  | .nstr => ifFlex sf t (unsR (R.fn .nstr true) x) (unsR (R.fn .nstr false) x)
  | .byt => ifFlex sf t (callR (R.fn .byt true) x) (callR (R.fn .byt false) x)
  | .nbyt => ifFlex sf t (callR (R.fn .nbyt true) x) (callR (R.fn .nbyt false) x)
  | k => callR (R.fn k false) x t
def storeR (T vs idx ty x t : Nat) : MCode × Nat := (.rg [.mv t (.t vs), .mv (t + 1) (.t x), .nc (t + 2) t, .fa (t + 3) T (t + 2) idx, .st ty (t + 3) (t + 1)], t + 4)

/-- The function that k's value needs is there. -/
def rdOk (R : RN) (sf : Option Nat) (k : PK) : Bool :=
  !(Nat.beq (R.fn k false) 0) && (if k.two && sf.isSome then !(Nat.beq (R.fn k true) 0) else true)

/-- What the slots hold while fields are read. -/
structure RCx (sf : Option Nat) (flex : Bool) (ver : Int) (rb vs b o : Nat) (ρ : Nat → Value) : Prop where
  r7 : ρ 7 = .pointer (some ⟨rb, 0, none⟩)
  r2 : ρ 2 = .bool false
  r8 : ρ 8 = .int .i16 ver
  rf : ∀ s, sf = some s → ρ s = .bool flex
  nf : sf = none → flex = false
  rv : ρ vs = .pointer (some ⟨b, o, none⟩)

/-- The blocks that values may name: the source's; those behind h. -/
def FB (sb h : Nat) (w : World) : Nat → Prop := fun k => k = sb ∨ (h < k ∧ k < w.heap.size)

theorem BytesAt.bound {w : World} {F : Nat → Prop} {a : Option Addr} {l : List UInt8} (h : BytesAt w F a l) : BytesAt w (fun k => F k ∧ k < w.heap.size) a l := fun j b hj => by
  obtain ⟨g, o, e, h1, h2⟩ := h j b hj
  exact ⟨g, o, e, ⟨h1, World.block_lt_of_cell? w _ h2⟩, h2⟩
theorem RepP.bound {w : World} {F : Nat → Prop} {k : PK} {cs : List Value} {d : D} (h : RepP w F k cs d) : RepP w (fun k => F k ∧ k < w.heap.size) k cs d := by
  cases k <;> simp only [RepP] at h ⊢ <;> try exact h
  · rcases h with h | ⟨b, s, h1, h2, h3, h4⟩
    · exact .inl h
    · exact .inr ⟨b, s, h1, ⟨h2, World.block_lt_of_cell? w _ h3⟩, h3, h4⟩
  · obtain ⟨a, c, l, h1, h2, h3⟩ := h
    exact ⟨a, c, l, h1, h2.bound, h3⟩
  · rcases h with h | ⟨ad, c, l, h1, h2, h3⟩
    · exact .inl h
    · exact .inr ⟨ad, c, l, h1, h2.bound, h3⟩
theorem RepT.bound {w : World} {F : Nat → Prop} {m : Value} {tags : List (Nat × List UInt8)} (h : RepT w F m tags) : RepT w (fun k => F k ∧ k < w.heap.size) m tags := by
  rcases h with h | ⟨r, es, clock, h1, h2, h3, h4, h5, h6, hs⟩
  · exact .inl h
  · refine .inr ⟨r, es, clock, h1, ⟨h2, (Array.getElem?_eq_some_iff.1 h3).1⟩, h3, h4, h5, fun t ht => ?_, hs⟩
    obtain ⟨g1, e, g2, g3, a, c, g4, g5⟩ := h6 t ht
    exact ⟨g1, e, g2, g3, a, c, g4, g5.bound⟩

section
variable {P : Program} {N : Nat} {Q : Exit → (Nat → Value) → World → Prop} {ρ : Nat → Value} {w w' : World} {ms : List MOp} {R : RN} {G : TG} {rb sb : Nat} {st : Option (List UInt8)} {sf : Option Nat} {flex : Bool} {ver : Int}

theorem RCx.keep {vs b o x : Nat} {ρ' : Nat → Value} (h : RCx sf flex ver rb vs b o ρ) (hk : ∀ s, s < x → ρ' s = ρ s) (hx : 9 ≤ x) (hs : ∀ s, sf = some s → s < x) (hv : vs < x) : RCx sf flex ver rb vs b o ρ' :=
  ⟨by rw [hk 7 (by omega)]; exact h.r7, by rw [hk 2 (by omega)]; exact h.r2, by rw [hk 8 (by omega)]; exact h.r8, fun s e => by rw [hk s (hs s e)]; exact h.rf s e, h.nf, by rw [hk vs hv]; exact h.rv⟩

/-- What a code that reads into slot x does. -/
def ReadsX (P : Program) (N : Nat) (m : MCode) (k : PK) (flex : Bool) (x L : Nat) : Prop :=
  ∀ {ρ : Nat → Value} {w : World} {Q : Exit → (Nat → Value) → World → Prop} {rb sb : Nat} {st : Option (List UInt8)}, RdAt w rb sb st → sb ≠ rb → ρ 7 = .pointer (some ⟨rb, 0, none⟩) → ρ 2 = .bool false → (∀ s, s < L → s = s) →
    (∀ ρ' w' v d st', (∀ s, s < L → s ≠ x → ρ' s = ρ s) → ρ' x = v → Fr (fun _ => False) rb 0 2 w w' → Got (dP k flex) st d st' → RdAt w' rb sb st' → PrC k w' (Rb w sb) v d → Q .normal ρ' w') → RW P N m Q ρ w

theorem callR_ok {k : PK} {f x t L : Nat} (hc : RdC P f (dP k flex) (PrC k)) (hx : x < L) (h7 : 7 < L) (ht : L ≤ t) (hN : t + 1 ≤ N) (h : RdAt w rb sb st) (hne : sb ≠ rb) (r7 : ρ 7 = .pointer (some ⟨rb, 0, none⟩))
    (hQ : ∀ ρ' w' v d st', (∀ s, s < L → s ≠ x → ρ' s = ρ s) → ρ' x = v → Fr (fun _ => False) rb 0 2 w w' → Got (dP k flex) st d st' → RdAt w' rb sb st' → PrC k w' (Rb w sb) v d → Q .normal ρ' w') : RW P N (callR f x t).1 Q ρ w := by
  refine RW.rg (RL.rd hc r7 h hne (ltT (by omega)) (by omega) fun v d st' w' h1 h2 h3 h4 => RL.step (MR.mv (upd_same _ _ _) (ltT (by omega))) (RL.nil ?_) (by omega))
  exact hQ _ w' v d st' (fun s hs hsx => by rw [upd_ne _ _ hsx, upd_ne _ _ (by omega)]) (upd_same _ _ _) h1 h2 h3 h4

theorem unsR_ok {k : PK} {f x t L : Nat} (hc : RdC P f (dP k flex) (PrC k)) (hx : x < L) (h7 : 7 < L) (ht : L ≤ t) (hN : t + 3 ≤ N) (h : RdAt w rb sb st) (hne : sb ≠ rb) (r7 : ρ 7 = .pointer (some ⟨rb, 0, none⟩)) (r2 : ρ 2 = .bool false)
    (hQ : ∀ ρ' w' v d st', (∀ s, s < L → s ≠ x → ρ' s = ρ s) → ρ' x = v → Fr (fun _ => False) rb 0 2 w w' → Got (dP k flex) st d st' → RdAt w' rb sb st' → PrC k w' (Rb w sb) v d → Q .normal ρ' w') : RW P N (unsR f x t).1 Q ρ w := by
  refine RW.sq (RW.rg (RL.step (MR.mv r2 (ltT (by omega))) (RL.nil (RW.cd (b := false) (upd_same _ _ _) (fun e => by cases e) (fun _ => ?_) (by omega))) (by omega)))
  refine RW.rg (RL.rd hc (by show upd _ _ _ 7 = _; rw [upd_ne _ _ (by omega)]; exact r7) h hne (ltT (by omega)) (by omega) fun v d st' w' h1 h2 h3 h4 => RL.step (MR.mv (upd_same _ _ _) (ltT (by omega))) (RL.nil ?_) (by omega))
  exact hQ _ w' v d st' (fun s hs hsx => by rw [upd_ne _ _ hsx, upd_ne _ _ (by omega), upd_ne _ _ (by omega)]) (upd_same _ _ _) h1 h2 h3 h4

theorem RW.ifF {t L : Nat} {yes no : Nat → MCode × Nat} (ht : L ≤ t) (hN : (ifFlex sf t yes no).2 ≤ N) (hy : ∀ t, t ≤ (yes t).2) (hn : ∀ t, t ≤ (no t).2) (hs : ∀ s, sf = some s → s < L) (hf : ∀ s, sf = some s → ρ s = .bool flex) (hnf : sf = none → flex = false)
    (h1 : flex = true → ∀ ρ' t', (∀ s, s < L → ρ' s = ρ s) → L ≤ t' → (yes t').2 ≤ N → RW P N (yes t').1 Q ρ' w) (h2 : flex = false → ∀ ρ' t', (∀ s, s < L → ρ' s = ρ s) → L ≤ t' → (no t').2 ≤ N → RW P N (no t').1 Q ρ' w) : RW P N (ifFlex sf t yes no).1 Q ρ w := by
  unfold ifFlex at hN ⊢
  cases sf with
  | none => exact h2 (hnf rfl) ρ t (fun _ _ => rfl) ht hN
  | some s =>
    simp only at hN ⊢
    have e1 := hy (t + 1)
    have e2 := hn (yes (t + 1)).2
    have hsl := hs s rfl
    refine RW.sq (RW.rg (RL.step (MR.mv (hf s rfl) (ltT (by omega))) (RL.nil ?_) (by omega)))
    exact RW.cd (upd_same _ _ _) (fun e => h1 e _ _ (fun s hs => by rw [upd_ne _ _ (by omega)]) (by omega) (by omega)) (fun e => h2 e _ _ (fun s hs => by rw [upd_ne _ _ (by omega)]) (by omega) (by omega)) (by omega)

theorem ifFlex_le2 {t : Nat} {yes no : Nat → MCode × Nat} (h1 : ∀ t, t ≤ (yes t).2) (h2 : ∀ t, t ≤ (no t).2) : t ≤ (ifFlex sf t yes no).2 := by
  unfold ifFlex
  cases sf with
  | none => exact h2 t
  | some s => exact Nat.le_trans (Nat.le_succ t) (Nat.le_trans (h1 _) (h2 _))
theorem callR_le {f x t : Nat} : t ≤ (callR f x t).2 := Nat.le_succ t
theorem unsR_le {f x t : Nat} : t ≤ (unsR f x t).2 := by simp [unsR]
theorem rdA_le {k : PK} {x t : Nat} : t ≤ (rdA R sf k x t).2 := by
  have hl : ∀ f, ∀ t, t ≤ (callR f x t).2 := fun f t => callR_le
  cases k <;> simp only [rdA]
  all_goals first | exact callR_le | (exact ifFlex_le2 (fun _ => callR_le) (fun _ => callR_le)) | (exact ifFlex_le2 (fun _ => unsR_le) (fun _ => unsR_le)) | skip
  exact Nat.le_trans (Nat.le_add_right _ _) (ifFlex_le2 (fun _ => callR_le) (fun _ => callR_le))

theorem rdA_ok {k : PK} {x t L : Nat} (kk : RKOK P R G) (hk : rdOk R sf k = true) (hx : x < L) (h7 : 8 < L) (hs : ∀ s, sf = some s → s < L) (ht : L ≤ t) (hN : (rdA R sf k x t).2 ≤ N) (h : RdAt w rb sb st) (hne : sb ≠ rb) (r7 : ρ 7 = .pointer (some ⟨rb, 0, none⟩)) (r2 : ρ 2 = .bool false)
    (rf : ∀ s, sf = some s → ρ s = .bool flex) (nf : sf = none → flex = false)
    (hQ : ∀ ρ' w' v d st', (∀ s, s < L → s ≠ x → ρ' s = ρ s) → ρ' x = v → Fr (fun _ => False) rb 0 2 w w' → Got (dP k flex) st d st' → RdAt w' rb sb st' → PrC k w' (Rb w sb) v d → Q .normal ρ' w') : RW P N (rdA R sf k x t).1 Q ρ w := by
  simp only [rdOk, Bool.and_eq_true, Bool.not_eq_true', beq_eq_false_iff_ne] at hk
  obtain ⟨k3, k4⟩ := hk
  have f0 : R.fn k false ≠ 0 := fun e => by rw [e] at k3; simp at k3
  have f1 : k.two = true → flex = true → R.fn k true ≠ 0 := fun h2 hf e => by
    cases hsf : sf with
    | none => have := nf hsf; rw [this] at hf; cases hf
    | some s => rw [hsf, h2, e] at k4; simp at k4
  have one : ∀ (k : PK), k.two = false → dP k flex = dP k false := fun k hk => by cases k <;> simp [PK.two] at hk <;> rfl
  have plain : k.two = false → (rdA R sf k x t) = callR (R.fn k false) x t → RW P N (rdA R sf k x t).1 Q ρ w := fun h2 e => by
    rw [e] at hN ⊢
    exact callR_ok (flex := flex) (by rw [one k h2]; exact kk.fn k false f0) hx (by omega) ht hN h hne r7 hQ
  have two : ∀ (k' : PK), k' = k → k.two = true → ∀ (g : Nat → Nat → Nat → MCode × Nat), (∀ f x t, t ≤ (g f x t).2) → (∀ {f t : Nat} {ρ' : Nat → Value}, (∀ s, s < L → ρ' s = ρ s) → L ≤ t → (g f x t).2 ≤ N → RdC P f (dP k flex) (PrC k) → RW P N (g f x t).1 Q ρ' w) → ∀ (t' : Nat) (ρ' : Nat → Value), L ≤ t' → (∀ s, s < L → ρ' s = ρ s) →
      (ifFlex sf t' (g (R.fn k true) x) (g (R.fn k false) x)).2 ≤ N → RW P N (ifFlex sf t' (g (R.fn k true) x) (g (R.fn k false) x)).1 Q ρ' w := by
    intro k' _ h2 g hg hgo t' ρ' ht' hρ' hN'
    refine RW.ifF (flex := flex) ht' hN' (hg _ _) (hg _ _) hs (fun s e => by rw [hρ' s (hs s e)]; exact rf s e) nf (fun e ρ2 t2 h1 h3 h4 => ?_) (fun e ρ2 t2 h1 h3 h4 => ?_)
    · exact hgo (fun s hs => by rw [h1 s hs, hρ' s hs]) h3 h4 (by rw [e]; exact kk.fn k true (f1 h2 e))
    · exact hgo (fun s hs => by rw [h1 s hs, hρ' s hs]) h3 h4 (by rw [e]; exact kk.fn k false f0)
  have goC : ∀ {f t : Nat} {ρ' : Nat → Value}, (∀ s, s < L → ρ' s = ρ s) → L ≤ t → (callR f x t).2 ≤ N → RdC P f (dP k flex) (PrC k) → RW P N (callR f x t).1 Q ρ' w := fun {f t ρ'} h1 h2 h3 h4 =>
    callR_ok h4 hx (by omega) h2 h3 h hne (by rw [h1 7 (by omega)]; exact r7) fun ρ2 w' v d st' g1 g2 g3 g4 g5 g6 => hQ ρ2 w' v d st' (fun s hs hsx => by rw [g1 s hs hsx, h1 s hs]) g2 g3 g4 g5 g6
  have goU : ∀ {f t : Nat} {ρ' : Nat → Value}, (∀ s, s < L → ρ' s = ρ s) → L ≤ t → (unsR f x t).2 ≤ N → RdC P f (dP k flex) (PrC k) → RW P N (unsR f x t).1 Q ρ' w := fun {f t ρ'} h1 h2 h3 h4 =>
    unsR_ok h4 hx (by omega) h2 h3 h hne (by rw [h1 7 (by omega)]; exact r7) (by rw [h1 2 (by omega)]; exact r2) fun ρ2 w' v d st' g1 g2 g3 g4 g5 g6 => hQ ρ2 w' v d st' (fun s hs hsx => by rw [g1 s hs hsx, h1 s hs]) g2 g3 g4 g5 g6
  have rr : ∀ s, s < L → ρ s = ρ s := fun _ _ => rfl
  cases k
  case i8 => exact plain rfl rfl
  case i16 => exact plain rfl rfl
  case i32 => exact plain rfl rfl
  case i64 => exact plain rfl rfl
  case u16 => exact plain rfl rfl
  case bool => exact plain rfl rfl
  case f64 => exact plain rfl rfl
  case uuid => exact plain rfl rfl
  case byt => exact two .byt rfl rfl callR (fun _ _ _ => callR_le) goC t ρ ht rr hN
  case nbyt => exact two .nbyt rfl rfl callR (fun _ _ _ => callR_le) goC t ρ ht rr hN
  case nstr => exact two .nstr rfl rfl unsR (fun _ _ _ => unsR_le) goU t ρ ht rr hN
  case str =>
    simp only [rdA] at hN ⊢
    have hle : t + uOff sf ≤ N := Nat.le_trans (ifFlex_le2 (fun _ => callR_le) (fun _ => callR_le)) hN
    have htN : t < N := by cases sf <;> simp only [uOff] at hle <;> omega
    refine RW.sq (RW.rg (RL.step (MR.mv r2 (ltT (by omega))) (RL.nil (RW.cd (b := false) (upd_same _ _ _) (fun e => by cases e) (fun _ => ?_) htN)) htN))
    exact two .str rfl rfl callR (fun _ _ _ => callR_le) goC _ _ (by omega) (fun s hs => by rw [upd_ne _ _ (by omega)]) hN
end
end Go.Kx
namespace Go.Kx
open Go.RowKit
set_option linter.unusedSimpArgs false
set_option linter.unusedVariables false

def primR (R : RN) (sf : Option Nat) (T vs idx : Nat) (k : PK) (ty t x : Nat) : MCode × Nat :=
  let r := rdA R sf k x t
  (rows ((if k.two then [.rg [.mv x (.c k.zr)]] else []) ++ [r.1, (storeR T vs idx ty x r.2).1]), r.2 + 4)

def elemR (R : RN) (sf : Option Nat) (k : PK) (ty ety x t : Nat) : MCode × Nat :=
  let e := rdA R sf k (x + 4) t
  (rows ((if k.two then [.rg [.mv (x + 4) (.c k.zr)]] else []) ++ [e.1, .rg [.mv e.2 (.t (x + 1)), .mv (e.2 + 1) (.t (x + 3)), .mv (e.2 + 2) (.t (x + 4)), .ia (e.2 + 3) ty e.2 (e.2 + 1), .st ety (e.2 + 3) (e.2 + 2)]]), e.2 + 4)

def elemRU (R : RN) (ty ety x t : Nat) : MCode × Nat :=
  (rows [.rg [.ca t R.uuid [.t 7], .al (x + 4) ety, .st ety (x + 4) t], .rg [.mv (t + 1) (.t (x + 1)), .mv (t + 2) (.t (x + 3)), .ld (t + 3) ety (x + 4), .ia (t + 4) ty (t + 1) (t + 2), .st ety (t + 4) (t + 3)]], t + 5)
def elemU (R : RN) (sf : Option Nat) (k : PK) (ty ety x t : Nat) : MCode × Nat := match k with
  | .uuid => elemRU R ty ety x t
  | k => elemR R sf k ty ety x t

/-- The loop over a list's elements. -/
def loopR (R : RN) (x u b : Nat) (body : MCode) : MCode :=
  .sq (.rg [.mv (x + 3) (.c (.int .i32 0))]) (.bl b (.lp (.sq (.sq (.rg [.mv (u + 10) (.t (x + 3)), .mv (u + 11) (.t (x + 2)), .bi (u + 12) .lss R.T.i32 (.t (u + 10)) (.t (u + 11))]) (.cd (u + 12) .sk (.ex b)))
    (.sq (.bl (b + 1) body) (.rg [.mv (u + 13) (.t (x + 3)), .bi (u + 14) .add R.T.i32 (.t (u + 13)) (.c (.int .i32 1)), .mv (x + 3) (.t (u + 14))])))))
/-- The test of the reader, the list made. -/
def makeR (R : RN) (ty x u : Nat) : List MCode :=
  [.sq (.rg [.ca u R.okf [.t 7], .nt (u + 1) u]) (.cd (u + 1) (.sq (.rg [.ca (u + 2) R.compl [.t 7], .mv 6 (.t (u + 2))]) .rt) .sk),
   .rg [.mv (u + 3) (.t (x + 1)), .sl (u + 4) ty (u + 3) none (some (.c (.int .i64 0))) none, .mv (x + 1) (.t (u + 4))],
   .sq (.rg [.mv (u + 5) (.t (x + 2)), .bi (u + 6) .gtr R.T.i32 (.t (u + 5)) (.c (.int .i32 0))]) (.cd (u + 6) (.rg [.mv (u + 7) (.t (x + 1)), .mv (u + 8) (.t (x + 2)), .ap (u + 9) ty R.T.i32 (u + 7) (u + 8), .mv (x + 1) (.t (u + 9))]) .sk)]
def lenR (R : RN) (sf : Option Nat) (x t : Nat) : MCode × Nat := ifFlex sf t (callR R.calen (x + 2)) (callR R.alen (x + 2))

/-- An array of sixteen octets, read into a variable of its own. -/
def uuidR (R : RN) (T vs idx ty t x : Nat) : MCode × Nat :=
  (rows [.rg [.ca t R.uuid [.t 7], .al x ty, .st ty x t], .rg [.mv (t + 1) (.t vs), .ld (t + 2) ty x, .nc (t + 3) (t + 1), .fa (t + 4) T (t + 3) idx, .st ty (t + 4) (t + 2)]], t + 5)
def PK.ik : PK → IntKind
  | .i8 => .i8 | .i16 => .i16 | .u16 => .u16 | .i32 => .i32 | _ => .i64
/-- A number of a type with names. -/
def enumR (R : RN) (T vs idx : Nat) (k : PK) (ty t x : Nat) : MCode × Nat :=
  (rows [.rg [.mv x (.c (.int k.ik 0))], .sq (.rg [.ca t (R.fn k false) [.t 7], .mv (x + 1) (.t t)]) (.rg [.mv (t + 1) (.t (x + 1)), .mv x (.t (t + 1))]), .rg [.mv (t + 2) (.t x), .mv (x + 2) (.t (t + 2))], (storeR T vs idx ty (x + 2) (t + 3)).1], t + 7)
def primU (R : RN) (sf : Option Nat) (T vs idx : Nat) (k : PK) (ty t x : Nat) : MCode × Nat := match k with
  | .uuid => uuidR R T vs idx ty t x
  | k => primR R sf T vs idx k ty t x

def unsB (f base x t : Nat) : MCode × Nat := (.sq (.rg [.mv t (.t 2)]) (.cd t .any (.rg [.ca (t + 2) f [.t 7], .st base x (t + 2)])), t + 3)
/-- A text that may be null from a version on. -/
def vstrR (R : RN) (sf : Option Nat) (T vs idx lim ty base t x : Nat) : MCode × Nat :=
  let y := ifFlex sf (t + 2) (unsB (R.fn .str true) base (x + 1)) (unsB (R.fn .str false) base (x + 1))
  let n := rdA R sf .nstr x y.2
  (rows [.rg [.mv x (.c .nptr)], .sq (.rg [.mv t (.t 8), .bi (t + 1) .lss R.T.i16 (.t t) (.c (.int .i16 lim))]) (.cd (t + 1) (.sq (.rg [.al (x + 1) base]) (.sq y.1 (.rg [.mv x (.t (x + 1))]))) n.1), (storeR T vs idx ty x n.2).1], n.2 + 4)
/-- A list that may be null: from a version on. -/
def nulT : Option Nat → Nat
  | none => 0
  | some _ => 7
def nulC (R : RN) (nul : Option Nat) (ty x u : Nat) : List MCode := match nul with
  | none => []
  | some nv => [.sq (.gr false [⟨0, none, .mv u (.t 8)⟩, ⟨1, none, .bi (u + 1) .lss R.T.i16 (.t u) (.c (.int .i16 nv))⟩, ⟨2, none, .mv (u + 2) (.t (u + 1))⟩, ⟨3, some (2, u + 2, false), .mv (u + 3) (.t (x + 2))⟩, ⟨4, some (2, u + 2, false), .bi (u + 4) .eql R.T.i32 (.t (u + 3)) (.c (.int .i32 0))⟩, ⟨5, none, .pk (u + 5) (.t (u + 2)) (.c (.bool true)) (.t (u + 4))⟩])
      (.cd (u + 5) (.rg [.bsl (u + 6) ty [], .mv (x + 1) (.t (u + 6))]) .sk)]

def arrR (R : RN) (sf : Option Nat) (nul : Option Nat) (T vs idx ty : Nat) (t x b : Nat) (body : Nat → MCode × Nat × Nat × Nat) : MCode × Nat × Nat × Nat :=
  let a := lenR R sf x (t + 5)
  let u := a.2 + nulT nul
  let e := body (u + 15)
  (rows ([(loadA T vs idx ty x t).1, .rg [.mv (t + 4) (.t x), .mv (x + 1) (.t (t + 4))], .rg [.mv (x + 2) (.c (.int .i32 0))], a.1] ++ (nulC R nul ty x a.2 ++ (makeR R ty x u ++
     [loopR R x u b e.1, .rg [.mv e.2.1 (.t (x + 1)), .mv x (.t e.2.1)], (storeR T vs idx ty x (e.2.1 + 1)).1]))), e.2.1 + 5, e.2.2.1, e.2.2.2)

/-- A version's test in readFrom. -/
def condR (R : RN) (c : Cnd) (t : Nat) (body : Nat → MCode × Nat × Nat × Nat) : MCode × Nat × Nat × Nat :=
  match c with
  | .always => body t
  | .ge lo =>
    let r := body (t + 2)
    (.sq (.rg [.mv t (.t 8), .bi (t + 1) .geq R.T.i16 (.t t) (.c (.int .i16 lo))]) (.cd (t + 1) r.1 .sk), r.2)
  | .btw lo hi =>
    let r := body (t + 6)
    (.sq (.tw 8 R.T.i16 lo hi t) (.cd (t + 5) r.1 .sk), r.2)

def tagsR (G : TG) (sf : Option Nat) (T vs : Nat) (tg : Option (Nat × Nat)) (t : Nat) : List MCode × Nat :=
  match tg, sf with
  | some (idx, _), some s => ([.sq (.rg [.mv t (.t s)]) (.cd t (.rg [.mv (t + 1) (.t vs), .ca (t + 2) G.fRead [.t 7], .nc (t + 3) (t + 1), .fa (t + 4) T (t + 3) idx, .st G.tSt (t + 4) (t + 2)]) .sk)], t + 5)
  | _, _ => ([], t)

/-- A list's element that is a struct: its place, its defaults. -/
def elemH (ty fDef x t : Nat) : List MCode := [.rg [.mv t (.t (x + 1)), .mv (t + 1) (.t (x + 3)), .ia (t + 2) ty t (t + 1), .mv (x + 4) (.t (t + 2))], .rg [.mv (t + 3) (.t (x + 4)), .ca (t + 4) fDef [.t (t + 3)]], .rg [.mv (t + 5) (.t (x + 4)), .mv (x + 5) (.t (t + 5))]]

/-- A struct within a struct: its place, its defaults. -/
def subH (T vs idx fDef t x : Nat) : List MCode := [.rg [.mv t (.t vs), .nc (t + 1) t, .fa (t + 2) T (t + 1) idx, .mv x (.t (t + 2))], .rg [.mv (t + 3) (.t x), .ca (t + 4) fDef [.t (t + 3)]], .rg [.mv (t + 5) (.t x), .mv (x + 1) (.t (t + 5))]]

mutual
def genRFld (R : RN) (G : TG) (sf : Option Nat) : Ty → (T vs idx t x b : Nat) → MCode × Nat × Nat × Nat
  | .prim k ty, T, vs, idx, t, x, b => let r := primU R sf T vs idx k ty t x; (r.1, r.2, x + 1, b)
  | .arr nul ty ety el, T, vs, idx, t, x, b => arrR R sf nul T vs idx ty t x b (fun t => elR R G sf el ty ety t x b)
  | .enum k ty _, T, vs, idx, t, x, b => let r := enumR R T vs idx k ty t x; (r.1, r.2, x + 3, b)
  | .vstr lim ty base, T, vs, idx, t, x, b => let r := vstrR R sf T vs idx lim ty base t x; (r.1, r.2, x + 2, b)
  | .struct T' _ fDef tg fs, T, vs, idx, t, x, b =>
    let f := genRF R G sf fs T' (x + 1) (t + 6) (x + 2) b
    let g := tagsR G sf T' (x + 1) tg f.2.1
    (rows (subH T vs idx fDef t x ++ (f.1 ++ g.1)), g.2, f.2.2.1, f.2.2.2)
def elR (R : RN) (G : TG) (sf : Option Nat) : Ty → (ty ety t x b : Nat) → MCode × Nat × Nat × Nat
  | .prim k _, ty, ety, t, x, b => let e := elemU R sf k ty ety x t; (e.1, e.2, x + 5, b + 2)
  | .struct T _ fDef tg fs, ty, ety, t, x, b =>
    let f := genRF R G sf fs T (x + 5) (t + 6) (x + 6) (b + 2)
    let g := tagsR G sf T (x + 5) tg f.2.1
    (rows (elemH ty fDef x t ++ (f.1 ++ g.1)), g.2, f.2.2.1, f.2.2.2)
  | .arr _ _ _ _, ty, ety, t, x, b => (.any, t, x + 5, b + 2)
  | .enum _ _ _, ty, ety, t, x, b => (.any, t, x + 5, b + 2)
  | .vstr _ _ _, ty, ety, t, x, b => (.any, t, x + 5, b + 2)
def genRF (R : RN) (G : TG) (sf : Option Nat) : Flds → (T vs t x b : Nat) → List MCode × Nat × Nat × Nat
  | .nil, T, vs, t, x, b => ([], t, x, b)
  | .cons c idx _ _ ty rest, T, vs, t, x, b =>
    let f := condR R c t (fun t => genRFld R G sf ty T vs idx t x b)
    let r := genRF R G sf rest T vs f.2.1 f.2.2.1 f.2.2.2
    (f.1 :: r.1, r.2)
end

/-! ### A type's zero, the defaults of a struct -/
def toM : Value → Option MVal
  | .int k n => some (.int k n)
  | .bool b => some (.bool b)
  | v => [MVal.nslice, .estr, .niface, .nptr, .nmap, .flt].find? (fun m => m.is v)
theorem toM_eq {v : Value} {m : MVal} (h : toM v = some m) : v = m.val := by
  unfold toM at h
  split at h
  · simp only [Option.some.injEq] at h; subst h; rfl
  · simp only [Option.some.injEq] at h; subst h; rfl
  · exact MVal.is_eq (by simpa using List.find?_some h)
def toMs : List Value → Option (List MVal)
  | [] => some []
  | v :: vs => match toM v, toMs vs with
    | some m, some ms => some (m :: ms)
    | _, _ => none
theorem toMs_eq : ∀ {vs : List Value} {ms : List MVal}, toMs vs = some ms → vs = ms.map MVal.val
  | [], ms, h => by simp only [toMs, Option.some.injEq] at h; subst h; rfl
  | v :: vs, ms, h => by
    unfold toMs at h
    split at h
    · rename_i m ms' h1 h2
      simp only [Option.some.injEq] at h
      subst h
      rw [toM_eq h1, toMs_eq h2]; rfl
    · cases h
/-- A type's zero, cell by cell; its sizes are as they should be. -/
def zeroM (P : Program) (ety : Nat) : Option (List MVal) := match P.info? ety with
  | some i => (match i.zero with
    | some z => (match toMs z.cells.toList with
      | some zs => if Nat.beq zs.length i.size && Nat.ble i.bytes 65536 && Nat.blt 0 i.size then some zs else none
      | none => none)
    | none => none)
  | none => none

/-- What is known of an element's type. -/
def ZE (P : Program) (ety ec : Nat) (zs : List Value) : Prop := ∃ i z, P.info? ety = some i ∧ i.zero = some z ∧ z.cells.toList = zs ∧ zs.length = ec ∧ i.size = ec ∧ i.bytes ≤ 65536 ∧ 0 < ec
theorem ze_of {P : Program} {ety : Nat} {zs : List MVal} (h : zeroM P ety = some zs) : ZE P ety zs.length (zs.map MVal.val) := by
  unfold zeroM at h
  split at h
  · rename_i i hi
    split at h
    · rename_i z hz
      split at h
      · rename_i ms hms
        split at h
        · rename_i hc
          simp only [Option.some.injEq] at h
          subst h
          simp only [Bool.and_eq_true, Nat.beq_eq, Nat.ble_eq, Nat.blt_eq] at hc
          obtain ⟨⟨h1, h2⟩, h3⟩ := hc
          exact ⟨i, z, hi, hz, toMs_eq hms, by simp, h1.symm, h2, by omega⟩
        · cases h
      · cases h
    · cases h
  · cases h

mutual
/-- The constants that Default stores, out of the plan. -/
def dfOf (T idx off : Nat) (df : Int) : Ty → Option Df
  | .prim k ty => if sameInt df 0 then none else match k with
    | .bool => some (.st T idx off ty (.bool true))
    | k => some (.st T idx off ty (.int k.ik df))
  | .enum k ty _ => if sameInt df 0 then none else some (.st T idx off ty (.int k.ik df))
  | .vstr _ _ _ => none
  | .arr _ _ _ _ => none
  | .struct T' _ _ _ fs => some (.sub T idx off (dfsOf T' fs))
def dfsOf (T : Nat) : Flds → Dfs
  | .nil => .nil
  | .cons _ idx off df ty rest => match dfOf T idx off df ty with
    | some d => .cons d (dfsOf T rest)
    | none => dfsOf T rest
end

def eqLs (f : D → D → Bool) : List D → List D → Bool
  | [], [] => true
  | a :: as, b :: bs => f a b && eqLs f as bs
  | _, _ => false
theorem eqLs_eq {f : D → D → Bool} (hf : ∀ a b, f a b = true → a = b) : ∀ {as bs : List D}, eqLs f as bs = true → as = bs
  | [], [], _ => rfl
  | a :: as, b :: bs, h => by
    simp only [eqLs, Bool.and_eq_true] at h
    rw [hf a b h.1, eqLs_eq hf h.2]
  | [], _ :: _, h => by simp [eqLs] at h
  | _ :: _, [], h => by simp [eqLs] at h
def eqDb : D → D → Bool
  | .n a, .n b => sameInt a b
  | .s none, .s none => true
  | .s (some a), .s (some b) => eqB a b
  | .l a [], .l b [] => a == b
  | _, _ => false
theorem eqDb_eq {a b : D} (h : eqDb a b = true) : a = b := by
  unfold eqDb at h
  split at h
  · rw [sameInt_eq h]
  · rfl
  · rw [eqB_eq h]
  · rw [beq_iff_eq] at h; rw [h]
  · simp at h
/-- Defaults are the same; structs within structs, not too deep. -/
def eqDn : Nat → D → D → Bool
  | 0 => eqDb
  | n + 1 => fun a b => match a, b with
    | .r a [], .r b [] => eqLs (eqDn n) a b
    | a, b => eqDb a b
theorem eqDn_eq : ∀ (n : Nat) (a b : D), eqDn n a b = true → a = b
  | 0, a, b, h => eqDb_eq h
  | n + 1, a, b, h => by
    unfold eqDn at h
    split at h
    · rw [eqLs_eq (eqDn_eq n) h]
    · exact eqDb_eq h
def eqD0 : D → D → Bool := eqDn 4
theorem eqD0_eq {a b : D} (h : eqD0 a b = true) : a = b := eqDn_eq 4 a b h

/-- The cells say the fields' defaults. -/
def zfB : Flds → List MVal → Bool
  | .nil, _ => true
  | .cons _ _ off df ty rest, cs => Nat.ble (off + ty.cells) cs.length && (match defT ty ((cs.drop off).take ty.cells) with | some d => eqD0 d (dfl ty df) | none => false) && zfB rest cs

def preN (tg : Option (Nat × Nat)) (n : Nat) : Nat := match tg with | none => n | some q => q.2

/-- The tests of an element's type, but for those of its fields. -/
def elB (P : Program) (G : TG) (ety T n fDef : Nat) (tg : Option (Nat × Nat)) (fs : Flds) : Bool := match zeroM P ety with
  | some zs => Nat.beq zs.length n && isFn0 P fDef (rows (genD 0 (dfsOf T fs) (defT0 (dfsOf T fs)) 2).1) (genD 0 (dfsOf T fs) (defT0 (dfsOf T fs)) 2).2.1 && okD P n (dfsOf T fs) 0 && Nat.ble (genD 0 (dfsOf T fs) (defT0 (dfsOf T fs)) 2).2.2 (defT0 (dfsOf T fs)) &&
      zfB fs ((putM (dfsOf T fs) 0 zs).take (preN tg n)) && cellsB P ety n && (match tg with | none => true | some q => Nat.beq n (q.2 + 1) && fieldAtB P T q.1 q.2 && defTag tg (putM (dfsOf T fs) 0 zs) && !(Nat.beq G.fRead 0))
  | none => false
def Dfs.isNil : Dfs → Bool
  | .nil => true
  | _ => false
/-- The tests of a struct within a struct, but for those of its fields: it stores no defaults. -/
def subB (P : Program) (G : TG) (T n fDef : Nat) (tg : Option (Nat × Nat)) (fs : Flds) : Bool := (dfsOf T fs).isNil && isFn0 P fDef (rows (genD 0 (dfsOf T fs) (defT0 (dfsOf T fs)) 2).1) (genD 0 (dfsOf T fs) (defT0 (dfsOf T fs)) 2).2.1 && okD P n (dfsOf T fs) 0 && Nat.ble (genD 0 (dfsOf T fs) (defT0 (dfsOf T fs)) 2).2.2 (defT0 (dfsOf T fs)) &&
  Nat.ble (preN tg n) n && (match tg with | none => true | some q => Nat.beq n (q.2 + 1) && fieldAtB P T q.1 q.2 && !(Nat.beq G.fRead 0))
/-- A list's own tests. -/
def arrB (P : Program) (R : RN) (sf : Option Nat) (ty ety ec : Nat) : Bool := cellsB P ty 1 && plainTy P ty && sliceOf P ty ety && cellsB P ety ec && (match zeroM P ety with | some zs => Nat.beq zs.length ec | none => false) && !(Nat.beq R.alen 0) && !(Nat.beq R.okf 0) && (match sf with | none => true | some _ => !(Nat.beq R.calen 0)) && intTy P R.T.i32 .i32

/-- The type of sixteen octets. -/
def uuB (P : Program) (k : PK) (ty : Nat) : Bool := match k with | .uuid => rowTy P ty && zeroIs P ty (List.replicate 16 (.int .u8 0)) | _ => true
/-- Kinds of numbers with names. -/
def enumK (k : PK) : Bool := match k with | .i8 | .i16 | .i32 => true | _ => false

mutual
def wfRFld (P : Program) (R : RN) (G : TG) (sf : Option Nat) : Ty → Bool
  | .prim k ty => rdOk R sf k && cellsB P ty k.cells && uuB P k ty
  | .arr _ ty ety el => arrB P R sf ty ety el.cells && wfEl P R G sf el ety
  | .enum k ty _ => enumK k && !(Nat.beq (R.fn k false) 0) && cellsB P ty 1
  | .vstr _ ty base => rdOk R sf .str && rdOk R sf .nstr && cellsB P ty 1 && zOneB P base && cellsB P base 1
  | .struct T n fDef tg fs => subB P G T n fDef tg fs && wfRF P R G sf fs T (preN tg n) 0
def wfEl (P : Program) (R : RN) (G : TG) (sf : Option Nat) : Ty → (ety : Nat) → Bool
  | .prim k _, ety => rdOk R sf k && cellsB P ety k.cells && uuB P k ety
  | .struct T n fDef tg fs, ety => elB P G ety T n fDef tg fs && wfRF P R G sf fs T (preN tg n) 0
  | .arr _ _ _ _, ety => false
  | .enum _ _ _, ety => false
  | .vstr _ _ _, ety => false
/-- Fields lie one behind the other, from k on. -/
def wfRF (P : Program) (R : RN) (G : TG) (sf : Option Nat) : Flds → (T n k : Nat) → Bool
  | .nil, T, n, k => Nat.ble k n
  | .cons _ idx off _ ty rest, T, n, k => Nat.ble k off && fieldAtB P T idx off && wfRFld P R G sf ty && wfRF P R G sf rest T n (off + ty.cells)
end

/-- What holds of memory while fields are read; the part lies in block b from o on, n cells. -/
structure FH (P : Program) (R : RN) (rb sb h b o n : Nat) (ev : Value) (st : Option (List UInt8)) (w : World) : Prop where
  rd : RdAt w rb sb st
  ne : sb ≠ rb
  nb : sb ≠ b
  rbb : b ≠ rb
  hb : b ≤ h
  hr : rb ≤ h
  hw : h < w.heap.size
  hs : sb < w.heap.size
  th : w.there b o n
  ev : w.cell? ⟨R.gErr, 0, none⟩ = some ev
  gb : R.gErr ≠ b
  gr : R.gErr ≠ rb

section
variable {P : Program} {N : Nat} {Q : Exit → (Nat → Value) → World → Prop} {ρ : Nat → Value} {w w' : World} {ms : List MOp} {R : RN} {G : TG} {rb sb h b o n : Nat} {ev : Value} {st st' : Option (List UInt8)} {sf : Option Nat} {flex : Bool} {ver : Int}

theorem Fr.rd {o n : Nat} (hf : Fr (fun _ => False) rb 0 2 w w') (hne : b ≠ rb) (hb : b < w.heap.size) : Fr (· = rb) b o n w w' :=
  (hf.wide (X' := (· = rb)) (fun _ x => x.elim) (Nat.le_refl _) (Nat.le_refl _)).other rfl hne hb

theorem FH.keep {o' n' : Nat} (hh : FH P R rb sb h b o n ev st w) (hf : Fr (· = rb) b o' n' w w') (hr : RdAt w' rb sb st') : FH P R rb sb h b o n ev st' w' :=
  ⟨hr, hh.ne, hh.nb, hh.rbb, hh.hb, hh.hr, Nat.lt_of_lt_of_le hh.hw hf.size, Nat.lt_of_lt_of_le hh.hs hf.size, hf.there _ _ hh.th, by
    rw [cell_of_heap (hf.block _ (World.block_lt_of_cell? w _ hh.ev) hh.gb hh.gr)]; exact hh.ev, hh.gb, hh.gr⟩

theorem FH.fb {o' n' : Nat} (hh : FH P R rb sb h b o n ev st w) (hf : Fr (· = rb) b o' n' w w') : (∀ k, FB sb h w k → FB sb h w' k) ∧ ∀ k, FB sb h w k → w'.heap[k]? = w.heap[k]? := by
  obtain ⟨h1, h2, h3, h4, h5⟩ := And.intro hh.hb (And.intro hh.hr (And.intro hh.ne (And.intro hh.nb hh.hs)))
  refine ⟨fun k hk => hk.imp id fun hk => ⟨hk.1, Nat.lt_of_lt_of_le hk.2 hf.size⟩, fun k hk => ?_⟩
  rcases hk with rfl | ⟨hk, hk'⟩
  · exact hf.block _ h5 h4 h3
  · exact hf.block k hk' (by omega) (by show ¬ k = rb; omega)
theorem FH.rep {o' n' : Nat} {ty : Ty} {cs : List Value} {d : D} (hh : FH P R rb sb h b o n ev st w) (hf : Fr (· = rb) b o' n' w w') (hr : Rep w (FB sb h w) ty cs d) : Rep w' (FB sb h w') ty cs d := Rep.mono (hh.fb hf).1 (hh.fb hf).2 ty hr

theorem store_ok {T vs idx off ty x t L : Nat} {v : Value} (hF : fieldAtB P T idx off = true) (hc : cellsB P ty v.cells.size = true) (hv : ρ vs = .pointer (some ⟨b, o, none⟩)) (hx : ρ x = v) (h1 : v.cells.toList.all (·.oneCell') = true) (ht : w.there b (o + off) v.cells.size) (hvL : vs < L) (hxL : x < L) (hL : L ≤ t) (hN : t + 4 ≤ N)
    (hQ : ∀ ρ', (∀ s, s < L → ρ' s = ρ s) → Q .normal ρ' (w.setCells b (o + off) v.cells.toList)) : RW P N (storeR T vs idx ty x t).1 Q ρ w := by
  refine RW.rg (RL.step (MR.mv hv (ltT (by omega))) (RL.step (MR.mv (v := v) (by show upd _ _ _ x = _; rw [upd_ne _ _ (by omega)]; exact hx) (ltT (by omega))) (RL.step (MR.nc (p := ⟨b, o, none⟩) (by rw [upd_ne _ _ (by omega), upd_same]) (by omega)) (RL.step (MR.fa (upd_same _ _ _) hF (by omega)) ?_ (by omega)) (by omega)) (by omega)) (by omega))
  have e1 : ∀ (z : Value), (upd (upd (upd (upd ρ t (.pointer (some ⟨b, o, none⟩))) (t + 1) v) (t + 2) (.pointer (some ⟨b, o, none⟩))) (t + 3) z) (t + 1) = v := fun z => by rw [upd_ne _ _ (by omega), upd_ne _ _ (by omega), upd_same]
  refine RL.st (b := b) (o := o + off) (upd_same _ _ _) (by rw [e1]; exact hc) (by rw [e1]; exact ht) (by rw [e1, ← Array.all_toList]; exact h1) ?_ (by omega) (by omega)
  rw [e1]
  refine RL.nil (hQ _ fun s hs => ?_)
  rw [upd_ne _ _ (by omega), upd_ne _ _ (by omega), upd_ne _ _ (by omega), upd_ne _ _ (by omega)]

theorem primR_ok {T vs idx off ty x t L : Nat} {k : PK} (kk : RKOK P R G) (hk : rdOk R sf k = true) (hF : fieldAtB P T idx off = true) (hc : cellsB P ty k.cells = true) (hh : FH P R rb sb h b o n ev st w) (cx : RCx sf flex ver rb vs b o ρ)
    (hx9 : 9 ≤ x) (hs : ∀ s, sf = some s → s < x) (hvx : vs < x) (hxL : x < L) (hL : L ≤ t) (hN : (primR R sf T vs idx k ty t x).2 ≤ N) (hoff : off + k.cells ≤ n)
    (hQ : ∀ ρ' w' d st' us, (∀ s, s < x → ρ' s = ρ s) → Fr (· = rb) b (o + off) k.cells w w' → Got (dP k flex) st d st' → RdAt w' rb sb st' → w'.rangeAt b (o + off) us → us.length = k.cells → RepP w' (FB sb h w') k us d → Q .normal ρ' w') : RW P N (primR R sf T vs idx k ty t x).1 Q ρ w := by
  simp only [primR] at hN ⊢
  have hle := @rdA_le R sf k x t
  have hbw : b < w.heap.size := Nat.lt_of_le_of_lt hh.hb hh.hw
  refine RWL.rows ?_
  have core : ∀ ρ1, (∀ s, s < x → ρ1 s = ρ s) → RWL P N [(rdA R sf k x t).1, (storeR T vs idx ty x (rdA R sf k x t).2).1] Q ρ1 w := by
    intro ρ1 h1
    have cx1 := cx.keep h1 hx9 hs hvx
    refine rdA_ok kk hk hxL (by omega) (fun s e => by have := hs s e; omega) hL (by omega) hh.rd hh.ne cx1.r7 cx1.r2 cx1.rf cx1.nf ?_
    intro ρ2 w2 v d st2 g1 g2 g3 g4 g5 g6
    obtain ⟨_, g6a, g6b, g6c⟩ := g6
    have F1 : Fr (· = rb) b (o + off) k.cells w w2 := g3.rd hh.rbb hbw
    have cx2 := cx1.keep (ρ' := ρ2) (fun s hs => g1 s (by omega) (by omega)) hx9 hs hvx
    have ht2 : w2.there b (o + off) k.cells := there_in (F1.there _ _ hh.th) hoff
    have hln : v.cells.toList.length = k.cells := by rw [Array.length_toList]; exact g6a
    refine RW.mono (store_ok (L := L) (v := v) hF (by rw [g6a]; exact hc) cx2.rv g2 g6b (by rw [g6a]; exact ht2) (by omega) hxL (by omega) (by omega) fun ρ3 h3 => ?_) (fun e ρ w h => h)
    have F2 : Fr (· = rb) b (o + off) k.cells w2 (w2.setCells b (o + off) v.cells.toList) := Fr.put _ (by omega) (by rw [hln]; omega)
    refine hQ ρ3 _ d st2 v.cells.toList (fun s hs => by rw [h3 s (by omega), g1 s (by omega) (by omega), h1 s hs]) (F1.trans F2) g4 ?_ (World.rangeAt_setCells_same _ _ _ _ (by rw [hln]; exact ht2)) hln ?_
    · exact g5.keep (setCells_other b _ _ _ rb (fun e => hh.rbb e.symm)) (setCells_other b _ _ _ sb hh.nb)
    · have hsz : w2.heap.size ≤ (w2.setCells b (o + off) v.cells.toList).heap.size := F2.size
      refine RepP.mono g6c.bound (fun k hk => ?_) (fun k hk => setCells_other b _ _ _ k ?_)
      · rcases hk with ⟨hk | hk, hk'⟩
        · exact .inl hk
        · exact .inr ⟨Nat.lt_of_lt_of_le hh.hw hk, Nat.lt_of_lt_of_le hk' hsz⟩
      · rcases hk with ⟨rfl | hk, _⟩
        · exact hh.nb
        · exact fun e => by omega
  cases h2 : k.two
  · simp only [Bool.false_eq_true, if_false, List.nil_append]
    exact core ρ fun _ _ => rfl
  · simp only [if_true, List.cons_append, List.nil_append]
    exact RW.rg (RL.step MR.mv (RL.nil (core _ fun s hs => by rw [upd_ne _ _ (by omega)])) (by omega))
theorem uuidR_ok {T vs idx off ty x t L : Nat} (kk : RKOK P R G) (h0 : R.uuid ≠ 0) (hF : fieldAtB P T idx off = true) (hc : cellsB P ty 16 = true) (hrow : rowTy P ty = true) (hz : zeroIs P ty (List.replicate 16 (.int .u8 0)) = true) (hh : FH P R rb sb h b o n ev st w) (cx : RCx sf flex ver rb vs b o ρ)
    (hvx : vs < x) (hx9 : 9 ≤ x) (hxL : x < L) (hL : L ≤ t) (hN : t + 5 ≤ N) (hoff : off + 16 ≤ n)
    (hQ : ∀ ρ' w' d st' us, (∀ s, s < x → ρ' s = ρ s) → Fr (· = rb) b (o + off) 16 w w' → Got (dP .uuid flex) st d st' → RdAt w' rb sb st' → w'.rangeAt b (o + off) us → us.length = 16 → RepP w' (FB sb h w') .uuid us d → Q .normal ρ' w') : RW P N (uuidR R T vs idx ty t x).1 Q ρ w := by
  have hbw : b < w.heap.size := Nat.lt_of_le_of_lt hh.hb hh.hw
  have hzz := zeroIs_of hz
  unfold uuidR
  refine RWL.rows ?_
  refine RW.rg (RL.rd (kk.fn .uuid flex h0) cx.r7 hh.rd hh.ne (ltT (by omega)) (by omega) fun v d st2 w2 g3 g4 g5 g6 => ?_)
  obtain ⟨g6v, g6a, g6b, g6c⟩ := g6
  have hv : v = .agg v.cells := g6v
  have hl16 : v.cells.toList.length = 16 := by rw [Array.length_toList]; exact g6a
  have hrb2 := g5.lt
  have hsz2 := g3.size
  refine RL.alst (n := 16) (cs := v.cells.toList) hzz (by rw [upd_same, Array.toArray_toList]; exact hv) (by omega) (by simp) hl16 hc g6b ?_ (by omega) (by omega)
  intro w3 b3 s3 r3 t3
  refine RL.nil ?_
  show RWL P N _ _ _ w3
  have F1 : Fr (· = rb) b (o + off) 16 w w2 := g3.rd hh.rbb hbw
  have F3 : Fr (· = rb) b (o + off) 16 w2 w3 := Fr.ofBelow b3 (by omega)
  have R3 : RdAt w3 rb sb st2 := g5.below b3
  have ht3 : w3.there b (o + off) 16 := there_in ((F1.trans F3).there _ _ hh.th) hoff
  refine RW.rg (RL.step (MR.mv (v := .pointer (some ⟨b, o, none⟩)) (by show upd _ _ _ vs = _; rw [upd_ne _ _ (by omega), upd_ne _ _ (by omega)]; exact cx.rv) (ltT (by omega))) (RL.step (MR.ldRow (b := w2.heap.size) (o := 0) (cs := v.cells.toList) (by rw [upd_ne _ _ (by omega), upd_same]) hrow (by rw [hl16]; exact hc) r3 (by omega))
    (RL.step (MR.nc (p := ⟨b, o, none⟩) (by rw [upd_ne _ _ (by omega), upd_same]) (by omega)) (RL.step (MR.fa (upd_same _ _ _) hF (by omega)) (RL.stA (cs := v.cells.toList) (b := b) (o := o + off) (upd_same _ _ _) (by rw [upd_ne _ _ (by omega), upd_ne _ _ (by omega), upd_same]) (by rw [hl16]; exact hc) (by rw [hl16]; exact ht3) g6b (RL.nil ?_) (by omega) (by omega)) (by omega)) (by omega)) (by omega)) (by omega))
  have F2 : Fr (· = rb) b (o + off) 16 w3 (w3.setCells b (o + off) v.cells.toList) := Fr.put _ (by omega) (by rw [hl16]; omega)
  refine hQ _ _ d st2 v.cells.toList (fun s hs => by rw [upd_ne _ _ (by omega), upd_ne _ _ (by omega), upd_ne _ _ (by omega), upd_ne _ _ (by omega), upd_ne _ _ (by omega), upd_ne _ _ (by omega)]) ((F1.trans F3).trans F2) g4 ?_ (World.rangeAt_setCells_same _ _ _ _ (by rw [hl16]; exact ht3)) hl16 ?_
  · exact R3.keep (setCells_other b _ _ _ rb (fun e => hh.rbb e.symm)) (setCells_other b _ _ _ sb hh.nb)
  · simp only [RepP] at g6c ⊢; exact g6c

theorem enumR_ok {T vs idx off ty x t L : Nat} {k : PK} (kk : RKOK P R G) (hk : enumK k = true) (h0 : R.fn k false ≠ 0) (hF : fieldAtB P T idx off = true) (hc : cellsB P ty 1 = true) (hh : FH P R rb sb h b o n ev st w) (cx : RCx sf flex ver rb vs b o ρ)
    (hx9 : 9 ≤ x) (hvx : vs < x) (hs : ∀ s, sf = some s → s < x) (hxL : x + 2 < L) (hL : L ≤ t) (hN : t + 7 ≤ N) (hoff : off + 1 ≤ n)
    (hQ : ∀ ρ' w' d st' us, (∀ s, s < x → ρ' s = ρ s) → Fr (· = rb) b (o + off) 1 w w' → Got (dP k flex) st d st' → RdAt w' rb sb st' → w'.rangeAt b (o + off) us → us.length = 1 → RepP w' (FB sb h w') k us d → Q .normal ρ' w') : RW P N (enumR R T vs idx k ty t x).1 Q ρ w := by
  have hbw : b < w.heap.size := Nat.lt_of_le_of_lt hh.hb hh.hw
  have hdec : dP k flex = dP k false := by cases k <;> simp [enumK] at hk <;> rfl
  have hk1 : k.cells = 1 := by cases k <;> simp [enumK] at hk <;> rfl
  have hk2 : ∀ v, VK k v → v.oneCell' = true := by intro v hv; cases k <;> simp [enumK] at hk <;> exact hv
  unfold enumR
  refine RWL.rows ?_
  refine RW.rg (RL.step MR.mv (RL.nil ?_) (by omega))
  show RWL P N _ _ _ w
  refine RW.sq (RW.rg (RL.rd (kk.fn k false h0) (by show upd _ _ _ 7 = _; rw [upd_ne _ _ (by omega)]; exact cx.r7) hh.rd hh.ne (ltT (by omega)) (by omega) fun v d st2 w2 g3 g4 g5 g6 => ?_))
  obtain ⟨g6v, g6a, g6b, g6c⟩ := g6
  have hv1 := hk2 v g6v
  have hvc : v.cells = #[v] := by cases v <;> simp_all [Value.cells, Value.oneCell']
  refine RL.step (MR.mv (upd_same _ _ _) (ltT (by omega))) (RL.nil ?_) (by omega)
  show RW P N _ _ _ w2
  refine RW.rg (RL.step (MR.mv (v := v) (upd_same _ _ _) (ltT (by omega))) (RL.step (MR.mv (v := v) (upd_same _ _ _) (ltT (by omega))) (RL.nil ?_) (by omega)) (by omega))
  show RWL P N _ _ _ w2
  refine RW.rg (RL.step (MR.mv (v := v) (upd_same _ _ _) (ltT (by omega))) (RL.step (MR.mv (v := v) (upd_same _ _ _) (ltT (by omega))) (RL.nil ?_) (by omega)) (by omega))
  show RWL P N _ _ _ w2
  generalize hρ2 : upd (upd _ (t + 2) _) (x + 2) _ = ρ2
  have q2 : ∀ s, s < x → ρ2 s = ρ s := fun s hs => by rw [← hρ2]; repeat rw [upd_ne _ _ (by omega)]
  have q3 : ρ2 (x + 2) = v := by rw [← hρ2]; exact upd_same _ _ _
  have F1 : Fr (· = rb) b (o + off) 1 w w2 := g3.rd hh.rbb hbw
  have cx2 := cx.keep q2 hx9 hs hvx
  have ht2 : w2.there b (o + off) 1 := there_in (F1.there _ _ hh.th) hoff
  refine RW.mono (store_ok (L := L) (v := v) hF (by rw [hvc]; exact hc) cx2.rv q3 (by rw [hvc]; simp [hv1]) (by rw [hvc]; exact ht2) (by omega) hxL (by omega) (by omega) fun ρ3 h3 => ?_) (fun e ρ w h => h)
  rw [hvc]
  have F2 : Fr (· = rb) b (o + off) 1 w2 (w2.setCells b (o + off) [v]) := Fr.put _ (by omega) (by simp)
  refine hQ ρ3 _ d st2 [v] (fun s hs => by rw [h3 s (by omega), q2 s hs]) (F1.trans F2) (by rw [hdec]; exact g4) ?_ (World.rangeAt_setCells_same _ _ _ _ ht2) rfl ?_
  · exact g5.keep (setCells_other b _ _ _ rb (fun e => hh.rbb e.symm)) (setCells_other b _ _ _ sb hh.nb)
  · rw [hvc] at g6c
    cases k <;> simp [enumK] at hk <;> (simp only [RepP] at g6c ⊢; exact g6c)

theorem primU_ok {T vs idx off ty x t L : Nat} {k : PK} (kk : RKOK P R G) (hk : rdOk R sf k = true) (hu : uuB P k ty = true) (hF : fieldAtB P T idx off = true) (hc : cellsB P ty k.cells = true) (hh : FH P R rb sb h b o n ev st w) (cx : RCx sf flex ver rb vs b o ρ)
    (hx9 : 9 ≤ x) (hs : ∀ s, sf = some s → s < x) (hvx : vs < x) (hxL : x < L) (hL : L ≤ t) (hN : (primU R sf T vs idx k ty t x).2 ≤ N) (hoff : off + k.cells ≤ n)
    (hQ : ∀ ρ' w' d st' us, (∀ s, s < x → ρ' s = ρ s) → Fr (· = rb) b (o + off) k.cells w w' → Got (dP k flex) st d st' → RdAt w' rb sb st' → w'.rangeAt b (o + off) us → us.length = k.cells → RepP w' (FB sb h w') k us d → Q .normal ρ' w') : RW P N (primU R sf T vs idx k ty t x).1 Q ρ w := by
  by_cases e : k = .uuid
  · subst e
    simp only [uuB, Bool.and_eq_true] at hu
    have h0 : R.uuid ≠ 0 := by
      intro e
      have : rdOk R sf .uuid = false := by unfold rdOk RN.fn; simp [e]
      rw [this] at hk; cases hk
    exact uuidR_ok kk h0 hF hc hu.1 hu.2 hh cx hvx hx9 hxL hL hN hoff hQ
  · have e2 : primU R sf T vs idx k ty t x = primR R sf T vs idx k ty t x := by cases k <;> first | rfl | exact absurd rfl e
    rw [e2] at hN ⊢
    exact primR_ok kk hk hF hc hh cx hx9 hs hvx hxL hL hN hoff hQ
theorem elemU_le {ty ety x t : Nat} {k : PK} : t ≤ (elemU R sf k ty ety x t).2 := by
  have := @rdA_le R sf k (x + 4) t
  cases k <;> simp only [elemU, elemR, elemRU] <;> omega
theorem primU_le {T vs idx x t : Nat} {k : PK} {ty : Nat} : t ≤ (primU R sf T vs idx k ty t x).2 := by
  have := @rdA_le R sf k x t
  cases k <;> simp only [primU, primR, uuidR] <;> omega
theorem unsB_le {f base x t : Nat} : t ≤ (unsB f base x t).2 := by simp [unsB]
theorem vstrR_le {T vs idx lim ty base t x : Nat} : t ≤ (vstrR R sf T vs idx lim ty base t x).2 := by
  have h1 := @ifFlex_le2 sf (t + 2) (unsB (R.fn .str true) base (x + 1)) (unsB (R.fn .str false) base (x + 1)) (fun _ => unsB_le) (fun _ => unsB_le)
  have h2 := @rdA_le R sf .nstr x (ifFlex sf (t + 2) (unsB (R.fn .str true) base (x + 1)) (unsB (R.fn .str false) base (x + 1))).2
  unfold vstrR; dsimp only; omega
theorem zOne_info {T : Nat} (h : zOneB P T = true) : ∃ i z, P.info? T = some i ∧ i.zero = some z ∧ z.cells.size = 1 := by
  unfold zOneB at h
  cases hi : P.info? T with
  | none => simp [hi] at h
  | some i =>
    simp only [hi] at h
    cases hzv : i.zero with
    | none => simp [hzv] at h
    | some z => simp only [hzv, Nat.beq_eq] at h; exact ⟨i, z, rfl, hzv, h⟩

/-- A text is read into a variable of its own (block q). -/
theorem unsB_ok {f base x t L q : Nat} (hc : RdC P f (dP .str flex) (PrC .str)) (hx : x < L) (h7 : 7 < L) (ht : L ≤ t) (hN : t + 3 ≤ N) (h : RdAt w rb sb st) (hne : sb ≠ rb) (r7 : ρ 7 = .pointer (some ⟨rb, 0, none⟩)) (r2 : ρ 2 = .bool false)
    (rx : ρ x = .pointer (some ⟨q, 0, none⟩)) (hT : cellsB P base 1 = true) (hq : w.there q 0 1) (hqw : q < w.heap.size) (hqr : q ≠ rb) (hqs : q ≠ sb)
    (hQ : ∀ ρ' w' (s : ByteArray) st', (∀ s, s < L → ρ' s = ρ s) → Fr (fun k => k = rb) q 0 1 w w' → Got (dP .str flex) st (.s (some s.data.toList)) st' → RdAt w' rb sb st' → w'.cell? ⟨q, 0, none⟩ = some (.string s) → Q .normal ρ' w') : RW P N (unsB f base x t).1 Q ρ w := by
  refine RW.sq (RW.rg (RL.step (MR.mv r2 (ltT (by omega))) (RL.nil (RW.cd (b := false) (upd_same _ _ _) (fun e => by cases e) (fun _ => ?_) (by omega))) (by omega)))
  refine RW.rg (RL.rd hc (by show upd _ _ _ 7 = _; rw [upd_ne _ _ (by omega)]; exact r7) h hne (ltT (by omega)) (by omega) fun v d st' w' h1 h2 h3 h4 => ?_)
  obtain ⟨g1, g2, g3, s, g4, rfl⟩ := h4
  have hv : v = .string s := by
    have g1' : v.oneCell' = true := g1
    cases v <;> simp_all [Value.cells, Value.oneCell']
  subst hv
  have F1 : Fr (fun k => k = rb) q 0 1 w w' := (h1.wide (X' := fun k => k = rb) (fun _ x => x.elim) (Nat.le_refl _) (Nat.le_refl _)).other rfl hqr hqw
  have hq' := F1.there _ _ hq
  refine RL.st1 (b := q) (o := 0) (v := .string s) (by rw [upd_ne _ _ (by omega), upd_ne _ _ (by omega)]; exact rx) (upd_same _ _ _) rfl hT hq' (RL.nil ?_) (by omega) (by omega)
  refine hQ _ _ s st' (fun s hs => by rw [upd_ne _ _ (by omega), upd_ne _ _ (by omega)]) (F1.trans (Fr.put _ (Nat.le_refl _) (by simp))) h2 ?_ ?_
  · exact h3.keep (setCells_other q _ _ _ rb (fun e => hqr e.symm)) (setCells_other q _ _ _ sb (fun e => hqs e.symm))
  · exact World.rangeAt_setCells_same _ _ _ [.string s] hq' 0 _ rfl

theorem vstrR_ok {T vs idx off lim ty base x t L : Nat} (kk : RKOK P R G) (hk1 : rdOk R sf .str = true) (hk2 : rdOk R sf .nstr = true) (hF : fieldAtB P T idx off = true) (hc : cellsB P ty 1 = true) (hz : zOneB P base = true) (hcb : cellsB P base 1 = true) (h16 : intTy P R.T.i16 .i16 = true) (hh : FH P R rb sb h b o n ev st w) (cx : RCx sf flex ver rb vs b o ρ)
    (hx9 : 9 ≤ x) (hs : ∀ s, sf = some s → s < x) (hvx : vs < x) (hxL : x + 1 < L) (hL : L ≤ t) (hN : (vstrR R sf T vs idx lim ty base t x).2 ≤ N) (hoff : off + 1 ≤ n)
    (hQ : ∀ ρ' w' d st' us, (∀ s, s < x → ρ' s = ρ s) → Fr (· = rb) b (o + off) 1 w w' → Got (dP (vK lim ver) flex) st d st' → RdAt w' rb sb st' → w'.rangeAt b (o + off) us → us.length = 1 → RepP w' (FB sb h w') .nstr us d → Q .normal ρ' w') : RW P N (vstrR R sf T vs idx lim ty base t x).1 Q ρ w := by
  have l1 := @ifFlex_le2 sf (t + 2) (unsB (R.fn .str true) base (x + 1)) (unsB (R.fn .str false) base (x + 1)) (fun _ => unsB_le) (fun _ => unsB_le)
  have l2 := @rdA_le R sf .nstr x (ifFlex sf (t + 2) (unsB (R.fn .str true) base (x + 1)) (unsB (R.fn .str false) base (x + 1))).2
  have hN' : (rdA R sf .nstr x (ifFlex sf (t + 2) (unsB (R.fn .str true) base (x + 1)) (unsB (R.fn .str false) base (x + 1))).2).2 + 4 ≤ N := hN
  have hbw : b < w.heap.size := Nat.lt_of_le_of_lt hh.hb hh.hw
  unfold vstrR
  dsimp only
  generalize hyc : ifFlex sf (t + 2) (unsB (R.fn .str true) base (x + 1)) (unsB (R.fn .str false) base (x + 1)) = yc at l1 l2 hN' ⊢
  generalize hnc : rdA R sf .nstr x yc.2 = nc at l2 hN' ⊢
  refine RWL.rows ?_
  refine RW.rg (RL.step MR.mv (RL.nil ?_) (by omega))
  show RWL P N [_, _] Q _ w
  have q1 : ∀ s, s < x → upd ρ x (xof ρ (.c .nptr)) s = ρ s := fun s hs => upd_ne _ _ (by omega)
  generalize upd ρ x (xof ρ (.c .nptr)) = ρ1 at q1
  have cx1 := cx.keep q1 hx9 hs hvx
  -- what follows
  have fin : ∀ (ρ2 : Nat → Value) (w2 : World) (v : Value) (d : D) (st2 : Option (List UInt8)), (∀ s, s < x → ρ2 s = ρ s) → ρ2 x = v → Fr (· = rb) b (o + off) 1 w w2 → Got (dP (vK lim ver) flex) st d st2 → RdAt w2 rb sb st2 → v.oneCell' = true →
      RepP w2 (FB sb h w2) .nstr [v] d → RWL P N [(storeR T vs idx ty x nc.2).1] Q ρ2 w2 := by
    intro ρ2 w2 v d st2 h2 h3 F1 h5 h6 h7 h8
    have hvc : v.cells = #[v] := by cases v <;> simp_all [Value.cells, Value.oneCell']
    have cx2 := cx.keep (ρ' := ρ2) h2 hx9 hs hvx
    have ht2 : w2.there b (o + off) 1 := there_in (F1.there _ _ hh.th) hoff
    refine RW.mono (store_ok (L := L) (v := v) hF (by rw [hvc]; exact hc) cx2.rv h3 (by rw [hvc]; simp [h7]) (by rw [hvc]; exact ht2) (by omega) (by omega) (by omega) (by omega) fun ρ3 h3 => ?_) (fun e ρ w h => h)
    rw [hvc]
    have F2 : Fr (· = rb) b (o + off) 1 w2 (w2.setCells b (o + off) [v]) := Fr.put _ (by omega) (by simp)
    refine hQ ρ3 _ d st2 [v] (fun s hs => by rw [h3 s (by omega), h2 s hs]) (F1.trans F2) h5 ?_ (World.rangeAt_setCells_same _ _ _ _ ht2) rfl ?_
    · exact h6.keep (setCells_other b _ _ _ rb (fun e => hh.rbb e.symm)) (setCells_other b _ _ _ sb hh.nb)
    · have hsz : w2.heap.size ≤ (w2.setCells b (o + off) [v]).heap.size := F2.size
      refine RepP.mono h8.bound (fun k hk => ?_) (fun k hk => setCells_other b _ _ _ k ?_)
      · rcases hk with ⟨hk | hk, hk'⟩
        · exact .inl hk
        · exact .inr ⟨hk.1, Nat.lt_of_lt_of_le hk' hsz⟩
      · rcases hk with ⟨rfl | hk, _⟩
        · exact hh.nb
        · exact fun e => by have := hk.1; have := hh.hb; omega
  refine RW.sq (RW.rg (RL.step (MR.mv (v := .int .i16 ver) cx1.r8 (ltT (by omega))) (RL.step (MR.biE (v := .bool (decide (ver < (lim : Int)))) (by show evB .lss (upd _ _ _ t) _ = _; rw [upd_same]; rfl) (ltT (by omega)) rfl) (RL.nil ?_) (by omega)) (by omega)))
  have q2 : ∀ s, s < L → upd (upd ρ1 t (.int .i16 ver)) (t + 1) (.bool (decide (ver < (lim : Int)))) s = ρ1 s := fun s hs => by rw [upd_ne _ _ (by omega), upd_ne _ _ (by omega)]
  refine RW.cd (b := decide (ver < (lim : Int))) (upd_same _ _ _) (fun e => ?_) (fun e => ?_) (by omega)
  · have e' : ver < (lim : Int) := of_decide_eq_true e
    have hk : vK lim ver = .str := by unfold vK; rw [if_pos e']
    rw [hk] at fin
    generalize upd (upd ρ1 t (.int .i16 ver)) (t + 1) (.bool (decide (ver < (lim : Int)))) = ρ2 at q2
    obtain ⟨i, z, hi, hzv, hz1⟩ := zOne_info hz
    refine RW.sq (RW.rg (RL.step (MR.al ⟨i, hi, hzv⟩) (RL.nil ?_) (by omega)))
    show RW P N _ _ _ _
    have hbox := below_box w (.cells z.cells base)
    have hth : (w.alloc (.cells z.cells base)).there w.heap.size 0 1 := by
      have := there_box w z.cells.toList base
      simp only [Array.length_toList, hz1] at this
      exact this
    generalize hw1 : w.alloc (.cells z.cells base) = w1 at hbox hth
    have hw1s : w1.heap.size = w.heap.size + 1 := by rw [← hw1]; exact size_box w _
    have q3 : ∀ s, s < x → upd ρ2 (x + 1) (.pointer (some ⟨w.heap.size, 0, none⟩)) s = ρ s := fun s hs => by rw [upd_ne _ _ (by omega), q2 s (by omega), q1 s hs]
    have q3x : upd ρ2 (x + 1) (.pointer (some ⟨w.heap.size, 0, none⟩)) (x + 1) = .pointer (some ⟨w.heap.size, 0, none⟩) := upd_same _ _ _
    generalize upd ρ2 (x + 1) (.pointer (some ⟨w.heap.size, 0, none⟩)) = ρ3 at q3 q3x
    have cx3 := cx.keep (ρ' := ρ3) q3 hx9 hs hvx
    have R1 : RdAt w1 rb sb st := hh.rd.below hbox
    have hrw := hh.rd.lt
    have hsw := hh.hs
    have hhw := hh.hw
    have hhb := hh.hb
    simp only [rdOk, Bool.and_eq_true] at hk1
    refine RW.sq ?_
    have one : ∀ {f t' : Nat} {ρ' : Nat → Value}, RdC P f (dP .str flex) (PrC .str) → (∀ s, s < L → ρ' s = ρ3 s) → L ≤ t' → (unsB f base (x + 1) t').2 ≤ N → RW P N (unsB f base (x + 1) t').1 (thenR (RW P N (.rg [.mv x (.t (x + 1))]) (thenR (fun ρ w => RWL P N [(storeR T vs idx ty x nc.2).1] Q ρ w) Q)) (thenR (fun ρ w => RWL P N [(storeR T vs idx ty x nc.2).1] Q ρ w) Q)) ρ' w1 := by
      intro f t' ρ' hf h1 h2 h3
      refine unsB_ok (q := w.heap.size) hf (by omega) (by omega) h2 h3 R1 hh.ne (by rw [h1 7 (by omega)]; exact cx3.r7) (by rw [h1 2 (by omega)]; exact cx3.r2) (by rw [h1 _ (by omega)]; exact q3x) hcb hth (by omega) (by omega) (by omega) ?_
      intro ρ4 w4 s st4 g1 g2 g3 g4 g5
      show RW P N _ _ _ _
      refine RW.rg (RL.step (MR.mv (v := .pointer (some ⟨w.heap.size, 0, none⟩)) (by show ρ4 (x + 1) = _; rw [g1 _ (by omega), h1 _ (by omega), q3x]) (ltT (by omega))) (RL.nil ?_) (by omega))
      have F : Fr (· = rb) b (o + off) 1 w w4 := by
        have A : Fr (fun k => k = rb ∨ w.heap.size ≤ k) b (o + off) 1 w w1 := Fr.ofBelow hbox hbw
        have B' : Fr (fun k => k = rb ∨ w.heap.size ≤ k) b (o + off) 1 w1 w4 := (g2.wide (X' := fun k => k = rb ∨ w.heap.size ≤ k) (fun _ h => .inl h) (Nat.le_refl _) (Nat.le_refl _)).other (.inr (Nat.le_refl _)) (by
          rintro (e | e)
          · exact hh.rbb e
          · omega) (by omega)
        have C := A.trans B'
        exact ⟨C.os, C.tape, C.output, C.size, fun k h1 h2 h3 => C.block k h1 h2 (by rintro (e | e); exact h3 e; omega), C.cell, C.there⟩
      refine fin _ w4 _ _ st4 (fun s hs => by rw [upd_ne _ _ (by omega), g1 s (by omega), h1 s (by omega), q3 s hs]) (upd_same _ _ _) F g3 g4 rfl ?_
      refine .inr ⟨w.heap.size, s, rfl, .inr ⟨hhw, World.block_lt_of_cell? w4 _ g5⟩, g5, rfl⟩
    have hf0 : R.fn .str false ≠ 0 := ne0 hk1.1
    rw [← hyc]
    refine RW.ifF (flex := flex) (L := L) (by omega) (by rw [hyc]; omega) (fun _ => unsB_le) (fun _ => unsB_le) (fun s e => by have := hs s e; omega) cx3.rf cx3.nf (fun e ρ' t' h1 h2 h3 => ?_) (fun e ρ' t' h1 h2 h3 => ?_)
    · refine one ?_ h1 h2 h3
      rw [e]
      refine kk.fn .str true ?_
      cases hsf : sf with
      | none => have := cx.nf hsf; rw [this] at e; cases e
      | some s =>
        have := hk1.2
        rw [hsf] at this
        simp only [PK.two, Option.isSome_some, Bool.and_self, if_true] at this
        exact ne0 this
    · refine one ?_ h1 h2 h3
      rw [e]
      exact kk.fn .str false hf0
  · have e' : ¬ ver < (lim : Int) := of_decide_eq_false e
    have hk : vK lim ver = .nstr := by unfold vK; rw [if_neg e']
    rw [hk] at fin
    generalize upd (upd ρ1 t (.int .i16 ver)) (t + 1) (.bool (decide (ver < (lim : Int)))) = ρ2 at q2
    have q3 : ∀ s, s < x → ρ2 s = ρ s := fun s hs => by rw [q2 s (by omega), q1 s hs]
    have cx3 := cx.keep (ρ' := ρ2) q3 hx9 hs hvx
    have go : RW P N (rdA R sf .nstr x yc.2).1 (thenR (fun ρ w => RWL P N [(storeR T vs idx ty x nc.2).1] Q ρ w) Q) ρ2 w := by
      refine rdA_ok (L := L) kk hk2 (by omega) (by omega) (fun s e => by have := hs s e; omega) (by omega) (by rw [hnc]; omega) hh.rd hh.ne cx3.r7 cx3.r2 cx3.rf cx3.nf ?_
      intro ρ4 w4 v d st4 g1 g2 g3 g4 g5 g6
      obtain ⟨g6v, g6a, g6b, g6c⟩ := g6
      have g6v' : v.oneCell' = true := g6v
      have hvc : v.cells = #[v] := by cases v <;> simp_all [Value.cells, Value.oneCell']
      rw [hvc] at g6c
      refine fin ρ4 w4 v d st4 (fun s hs => by rw [g1 s (by omega) (by omega), q3 s hs]) g2 (g3.rd hh.rbb hbw) g4 g5 g6v' ?_
      refine RepP.mono g6c.bound (fun k hk => ?_) (fun k _ => rfl)
      rcases hk with ⟨hk | hk, hk'⟩
      · exact .inl hk
      · exact .inr ⟨Nat.lt_of_lt_of_le hh.hw hk, hk'⟩
    rw [hnc] at go
    exact go
end
end Go.Kx
