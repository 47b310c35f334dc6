/- The laws' zzFits2, zzFits3, zzFits4: they yield a truth value. Conditions: the program's tables (SOK).
   The laws FnAgain..: the law's own code.
   The laws FnCut..: the law's own code.
   Each's order: the closure that compares two keys. Conditions: the program's tables.
   The laws FnAny..: the law's own code.
   The reference's functions over trees with tags. The reader's octets: sixteen of them, texts of octets. Conditions: the program's tables (ROK).
   The reader's contracts, as one test of the program.
   The reader's contracts, all of them, out of one test of the program.
   sort.Slice at a slice of keys, from the shelf's contracts (hbig, htiny: given where the shelf's text is laid), the closure's code.
   The laws FnAgain.., FnCut.., FnAny..: all that the program must pass, as Boolean tests; from them the laws' runs. -/
import Derived.Test.YtmehkjdaeohblaaGreatDoorKxK
import Derived.Shelf.GgSortFunc.Whole
import Derived.Shelf.GgSortFunc.Tiny
namespace Go.Kx
open Go.RowKit
set_option linter.unusedSimpArgs false
set_option linter.unusedVariables false

def cFits4 (S : SN) : MCode := .sq (.rg [.bx 1 S.tg 0, .mv 2 (.c (.bool false))]) (.sq (.sq (.rg [.fa 3 S.tg 1 1, .ld 4 S.T.u8s 3, .ln 5 S.T.u8s 4, .bi 6 .gtr S.T.int (.t 5) (.c (.int .i64 2147483647))]) (.cd 6 (.sq (.rg [.mv 2 (.c (.bool false))]) .rt) .sk)) (.sq (.rg [.mv 2 (.c (.bool true))]) .rt))
def cFits3 (S : SN) (f4 : Nat) : MCode := .sq (.rg [.mv 2 (.c (.bool false))]) (.sq (.sq (.rg [.mv 5 (.t 0), .ln 6 S.tgs 5, .bi 7 .gtr S.T.int (.t 6) (.c (.int .i64 2147483647))]) (.cd 7 (.sq (.rg [.mv 2 (.c (.bool false))]) .rt) .sk))
  (.sq (.sq (.rg [.mv 8 (.t 0), .ln 9 S.tgs 8, .mv 10 (.c (.int .i64 0))]) (.bl 0 (.lp (.sq (.rg [.bi 11 .lss S.T.int (.t 10) (.t 9)]) (.sq (.cd 11 .sk (.ex 0)) (.sq (.bl 1 (.sq (.rg [.ia 12 S.tgs 8 10, .ld 13 S.tg 12, .al 4 S.tg, .st S.tg 4 13]) (.sq (.rg [.ld 14 S.tg 4, .ca 15 f4 [.t 14], .nt 16 15]) (.cd 16 (.sq (.rg [.mv 2 (.c (.bool false))]) .rt) .sk))))
    (.rg [.bi 17 .add S.T.int (.t 10) (.c (.int .i64 1)), .mv 10 (.t 17)]))))))) (.sq (.rg [.mv 2 (.c (.bool true))]) .rt)))
def cFits2 (S : SN) (f3 : Nat) : MCode := .sq (.rg [.bx 1 S.tr 0, .mv 2 (.c (.bool false))]) (.sq (.sq (.rg [.fa 3 S.tr 1 1, .ld 4 S.T.u8s 3, .ln 5 S.T.u8s 4, .bi 6 .gtr S.T.int (.t 5) (.c (.int .i64 2147483647))]) (.cd 6 (.sq (.rg [.mv 2 (.c (.bool false))]) .rt) .sk))
  (.sq (.sq (.rg [.fa 7 S.tr 1 3, .ld 8 S.trs 7, .ln 9 S.trs 8, .bi 10 .gtr S.T.int (.t 9) (.c (.int .i64 2147483647))]) (.cd 10 (.sq (.rg [.mv 2 (.c (.bool false))]) .rt) .sk))
  (.sq (.sq (.rg [.fa 11 S.tr 1 4, .ld 12 S.tgs 11, .ca 13 f3 [.t 12], .nt 14 13]) (.cd 14 (.sq (.rg [.mv 2 (.c (.bool false))]) .rt) .sk)) (.sq (.rg [.mv 2 (.c (.bool true))]) .rt))))

/-- A truth value; nothing of before is turned. -/
def YN (w : World) : Ending → World → Prop := fun e w' => (∃ b, e = .returned (.bool b)) ∧ Below w.heap.size w w'

section
variable {P : Program} {S : SN} {w w' : World} {Q : Exit → (Nat → Value) → World → Prop} {ρ : Nat → Value}

theorem fits4_ok {f : Nat} (ok : SOK P S) (hf : FnIs P f (cFits4 S) 7 2) (w : World) (cs : List Value) (t : Tg) (h : TagRow w cs t) : Calls P f #[.agg cs.toArray] w (YN w) := by
  obtain ⟨hk, ad, c, rfl, had, hc, hby⟩ := h
  refine hf.runs (args := [.agg [Value.int .u32 (t.1 : Nat), .slice ad t.2.length c].toArray]) (by simp) (by omega) ?_
  have hb := below_box w (.cells [Value.int .u32 (t.1 : Nat), .slice ad t.2.length c].toArray S.tg)
  refine RW.sq (RW.rg (RL.bxA (cs := [Value.int .u32 (t.1 : Nat), .slice ad t.2.length c]) rfl (RL.step MR.mv (RL.nil ?_))))
  refine RW.sq (RW.sq (RW.rg (RL.step (MR.fa (b := w.heap.size) (o := 0) rfl (ok.tgF 1 (by omega))) (RL.step (MR.ld (v := .slice ad t.2.length c) rfl ok.pU8s (cell_box w [Value.int .u32 (t.1 : Nat), .slice ad t.2.length c] S.tg (j := 1) rfl)) (RL.step (MR.ln ok.tk.u8s rfl) (RL.step (MR.biE (v := .bool (decide ((2147483647 : Int) < (t.2.length : Nat)))) rfl) (RL.nil ?_)))))))
  refine RW.cd rfl (fun e => RW.sq (RW.rg (RL.step MR.mv (RL.nil (RW.rt ⟨⟨_, rfl⟩, hb⟩))))) (fun e => RW.sk ?_)
  exact RW.sq (RW.rg (RL.step MR.mv (RL.nil (RW.rt ⟨⟨_, rfl⟩, hb⟩))))

theorem fits3_ok {f f4 : Nat} (ok : SOK P S) (h4 : FnIs P f4 (cFits4 S) 7 2) (hf : FnIs P f (cFits3 S f4) 18 2) (w : World) (v : Value) (u : List Tg) (h : TagsS w v u) : Calls P f #[v] w (YN w) := by
  obtain ⟨ad, c, rfl, had, hc, hrow⟩ := h
  refine hf.runs (args := [.slice ad u.length c]) (by simp) (by omega) ?_
  refine RW.sq (RW.rg (RL.step MR.mv (RL.nil ?_)))
  refine RW.sq (RW.sq (RW.rg (RL.step (MR.mv (v := .slice ad u.length c) rfl) (RL.step (MR.ln ok.tgs rfl) (RL.step (MR.biE (v := .bool (decide ((2147483647 : Int) < (u.length : Nat)))) rfl) (RL.nil ?_))))))
  refine RW.cd rfl (fun e => RW.sq (RW.rg (RL.step MR.mv (RL.nil (RW.rt ⟨⟨_, rfl⟩, Below.refl _ _⟩))))) (fun e => RW.sk ?_)
  have hlen : u.length ≤ 2147483647 := by have := of_decide_eq_false e; omega
  refine RW.sq (RW.sq (RW.rg (RL.step (MR.mv (v := .slice ad u.length c) rfl) (RL.step (MR.ln ok.tgs rfl) (RL.step MR.mv (RL.nil (RW.bl ?_)))))))
  refine RW.lp (fun ρ w' => ∃ i : Nat, i ≤ u.length ∧ ρ 8 = .slice ad u.length c ∧ ρ 9 = .int .i64 (u.length : Nat) ∧ ρ 10 = .int .i64 (i : Nat) ∧ Below w.heap.size w w') (fun ρ' _ => u.length - (intOf (ρ' 10)).toNat) ⟨0, Nat.zero_le _, rfl, rfl, rfl, Below.refl _ _⟩ ?_ (fun ρ1 ρ2 w1 h => by rw [h 10 (by omega)])
  rintro ρ1 w1 ⟨i, hi, q8, q9, q10, hb⟩
  refine RW.knows [(8, .slice ad u.length c), (9, .int .i64 (u.length : Nat)), (10, .int .i64 (i : Nat))] (by simp [q8, q9, q10]) (RW.sq (RW.rg ?_))
  by_cases hlt : i < u.length
  · refine RL.step (MR.biB (p := (i : Int) < (u.length : Nat)) rfl (decide_eq_true (by omega))) (RL.nil (RW.sq (RW.cd (b := true) rfl (fun _ => RW.sk ?_) (fun e => by cases e))))
    obtain ⟨t, ht⟩ : ∃ t, u[i]? = some t := ⟨_, List.getElem?_eq_getElem hlt⟩
    obtain ⟨g, o, cs, rfl, hr, htr⟩ := hrow i t ht
    have l2 := htr.two
    refine RW.sq (RW.bl (RW.sq (RW.rg (RL.rowTH (t := t) (cs := cs) (n := u.length) (c := c) ok rfl rfl hlt (fun j x hx => hb.kp _ _ (hr j x hx)) (htr.keep hb) (by decide) (by decide) ?_))))
    rintro p w2 b2 s2 rg2 -
    have B2 : Below w.heap.size w w2 := hb.trans (b2.mono hb.size)
    refine RL.nil (RW.sq (RW.rg (RL.step (MR.ldRow (b := w1.heap.size) (o := 0) (cs := cs) rfl ok.tgR (by rw [l2.1]; exact ok.tgN) rg2) ?_)))
    refine RL.ca (R := fun v w' => (∃ b, v = .bool b) ∧ Below w2.heap.size w2 w') h4.ent ?_ ?_
    · refine Calls.mono (fits4_ok ok h4 w2 cs t (htr.keep B2)) ?_
      rintro e w' ⟨⟨b, rfl⟩, h⟩
      exact ⟨_, rfl, ⟨b, rfl⟩, h⟩
    rintro v w3 ⟨⟨b, rfl⟩, b3⟩
    have B3 : Below w.heap.size w w3 := B2.trans (b3.mono B2.size)
    refine RL.step (MR.nt rfl) (RL.nil (RW.cd rfl (fun e => RW.sq (RW.rg (RL.step MR.mv (RL.nil (RW.rt ⟨⟨_, rfl⟩, B3⟩))))) (fun e => RW.sk ?_)))
    refine RW.rg (RL.step (MR.biE (v := .int .i64 ((i + 1 : Nat) : Int)) (by show some (Value.int .i64 (IntKind.i64.wrap ((i : Int) + 1))) = _; rw [wrap_i64 (by omega) (by omega)]; rfl)) (RL.step MR.mv (RL.nil ?_)))
    refine ⟨⟨i + 1, hlt, rfl, rfl, rfl, B3⟩, ?_⟩
    show u.length - ((i + 1 : Nat) : Int).toNat < u.length - (intOf (ρ1 10)).toNat
    rw [q10]; simp only [intOf]; omega
  · refine RL.step (MR.biB (p := (i : Int) < (u.length : Nat)) rfl (decide_eq_false (by omega))) (RL.nil (RW.sq (RW.cd (b := false) rfl (fun e => by cases e) (fun _ => RW.ex ?_))))
    exact RW.sq (RW.rg (RL.step MR.mv (RL.nil (RW.rt ⟨⟨_, rfl⟩, hb⟩))))

theorem fits2_ok {f f3 f4 : Nat} (ok : SOK P S) (h4 : FnIs P f4 (cFits4 S) 7 2) (h3 : FnIs P f3 (cFits3 S f4) 18 2) (hf : FnIs P f (cFits2 S f3) 15 2) (w : World) (cs : List Value) (t : Tr) (h : RepTr w t cs) : Calls P f #[.agg cs.toArray] w (YN w) := by
  cases t with
  | mk n s null l u =>
    unfold RepTr at h
    obtain ⟨sS, sL, sU, rfl, hn, ⟨ad, c, rfl, had, hc, hby⟩, ⟨ad2, c2, rfl, had2, hc2, hrows⟩, htags⟩ := h
    refine hf.runs (args := [.agg [Value.int .i64 n, .slice ad s.length c, .bool null, .slice ad2 l.toList.length c2, sU].toArray]) (by simp) (by omega) ?_
    have hb := below_box w (.cells [Value.int .i64 n, .slice ad s.length c, .bool null, .slice ad2 l.toList.length c2, sU].toArray S.tr)
    refine RW.sq (RW.rg (RL.bxA (cs := [Value.int .i64 n, .slice ad s.length c, .bool null, .slice ad2 l.toList.length c2, sU]) rfl (RL.step MR.mv (RL.nil ?_))))
    refine RW.sq (RW.sq (RW.rg (RL.step (MR.fa (b := w.heap.size) (o := 0) rfl (ok.trF 1 (by omega))) (RL.step (MR.ld (v := .slice ad s.length c) rfl ok.pU8s (cell_box w [Value.int .i64 n, .slice ad s.length c, .bool null, .slice ad2 l.toList.length c2, sU] S.tr (j := 1) rfl)) (RL.step (MR.ln ok.tk.u8s rfl) (RL.step (MR.biE (v := .bool (decide ((2147483647 : Int) < (s.length : Nat)))) rfl) (RL.nil ?_)))))))
    refine RW.cd rfl (fun e => RW.sq (RW.rg (RL.step MR.mv (RL.nil (RW.rt ⟨⟨_, rfl⟩, hb⟩))))) (fun e => RW.sk ?_)
    refine RW.sq (RW.sq (RW.rg (RL.step (MR.fa (b := w.heap.size) (o := 0) rfl (ok.trF 3 (by omega))) (RL.step (MR.ld (v := .slice ad2 l.toList.length c2) rfl ok.pTrs (cell_box w [Value.int .i64 n, .slice ad s.length c, .bool null, .slice ad2 l.toList.length c2, sU] S.tr (j := 3) rfl)) (RL.step (MR.ln ok.trs rfl) (RL.step (MR.biE (v := .bool (decide ((2147483647 : Int) < (l.toList.length : Nat)))) rfl) (RL.nil ?_)))))))
    refine RW.cd rfl (fun e => RW.sq (RW.rg (RL.step MR.mv (RL.nil (RW.rt ⟨⟨_, rfl⟩, hb⟩))))) (fun e => RW.sk ?_)
    refine RW.sq (RW.sq (RW.rg (RL.step (MR.fa (b := w.heap.size) (o := 0) rfl (ok.trF 4 (by omega))) (RL.step (MR.ld (v := sU) rfl ok.pTgs (cell_box w [Value.int .i64 n, .slice ad s.length c, .bool null, .slice ad2 l.toList.length c2, sU] S.tr (j := 4) rfl)) ?_))))
    have htags2 : TagsS (w.alloc (.cells [Value.int .i64 n, .slice ad s.length c, .bool null, .slice ad2 l.toList.length c2, sU].toArray S.tr)) sU u := by
      obtain ⟨ad', c', e, had', hc', hrow⟩ := htags
      refine ⟨ad', c', e, had', hc', fun j x hx => ?_⟩
      obtain ⟨g, o, cs, e1, e2, e3⟩ := hrow j x hx
      exact ⟨g, o, cs, e1, fun k y hy => hb.kp _ _ (e2 k y hy), e3.keep hb⟩
    refine RL.ca (R := fun v w' => (∃ b, v = .bool b) ∧ Below (w.alloc (.cells [Value.int .i64 n, .slice ad s.length c, .bool null, .slice ad2 l.toList.length c2, sU].toArray S.tr)).heap.size (w.alloc (.cells [Value.int .i64 n, .slice ad s.length c, .bool null, .slice ad2 l.toList.length c2, sU].toArray S.tr)) w') h3.ent ?_ ?_
    · refine Calls.mono (fits3_ok ok h4 h3 _ sU u htags2) ?_
      rintro e w' ⟨⟨b, rfl⟩, h⟩
      exact ⟨_, rfl, ⟨b, rfl⟩, h⟩
    rintro v w3 ⟨⟨b, rfl⟩, b3⟩
    have B3 : Below w.heap.size w w3 := hb.trans (b3.mono hb.size)
    refine RL.step (MR.nt rfl) (RL.nil (RW.cd rfl (fun e => RW.sq (RW.rg (RL.step MR.mv (RL.nil (RW.rt ⟨⟨_, rfl⟩, B3⟩))))) (fun e => RW.sk ?_)))
    exact RW.sq (RW.rg (RL.step MR.mv (RL.nil (RW.rt ⟨⟨_, rfl⟩, B3⟩))))
end
end Go.Kx
namespace Go.Kx
open Go.RowKit
set_option linter.unusedSimpArgs false
set_option linter.unusedVariables false

def cLawAgain (S : SN) (fFits fMax fSpec fAgain : Nat) : MCode :=
  .sq (.rg [.bx 3 S.tr 1, .mv 4 (.c (.bool false))])
  (.sq (.sq (.rg [.ld 9 S.tr 3, .ca 10 fFits [.t 9], .nt 11 10]) (.cd 11 (.sq (.rg [.mv 4 (.c (.bool true))]) .rt) .sk))
  (.sq (.rg [.ca 12 fMax [], .mv 5 (.t 12)])
  (.sq (.sq (.rg [.mv 13 (.t 5), .bi 14 .lss S.T.int (.t 13) (.c (.int .i64 0))]) (.cd 14 (.sq (.rg [.mv 4 (.c (.bool false))]) .rt) .sk))
  (.sq (.gr true [⟨1, none, .mv 16 (.t 0)⟩, ⟨2, none, .mv 17 (.t 5)⟩, ⟨4, none, .ld 19 S.tr 3⟩, ⟨0, none, .ca 15 fSpec []⟩, ⟨3, none, .ca 18 S.fVer [.t 16, .t 17]⟩, ⟨5, none, .ca 20 S.fWrite [.t 15, .t 18, .t 19]⟩, ⟨6, none, .mv 6 (.t 20)⟩])
  (.sq (.rg [.mv 22 (.t 0), .mv 23 (.t 5), .ca 24 S.fVer [.t 22, .t 23], .mv 25 (.t 6), .ca 26 fAgain [.t 24, .t 25], .mv 21 (.t 26), .ext 27 21 0, .ext 28 21 1, .mv 7 (.t 27), .mv 8 (.t 28)])
  (.sq (.gr false [⟨0, none, .mv 29 (.t 8)⟩, ⟨1, none, .mv 30 (.t 29)⟩, ⟨2, some (1, 30, true), .mv 31 (.t 7)⟩, ⟨3, some (1, 30, true), .mv 32 (.t 6)⟩, ⟨4, some (1, 30, true), .ca 33 S.fSame [.t 31, .t 32]⟩, ⟨5, none, .pk 34 (.t 30) (.t 33) (.c (.bool false))⟩, ⟨6, none, .mv 4 (.t 34)⟩]) .rt))))))

section
variable {P : Program} {S : SN} {w w' : World} {N : Nat} {Q : Exit → (Nat → Value) → World → Prop} {ρ : Nat → Value} {SU : List (Nat × List UInt8) → Prop}

def FitsC (P : Program) (f : Nat) : Prop := entersB P f = true ∧ ∀ (w : World) (cs : List Value) (t : Tr), RepTr w t cs → Calls P f #[.agg cs.toArray] w (YN w)

theorem law_again {f fFits fMax fSpec fAgain gE most : Nat} {fs : Fds} {flex : Int} {p : Plan} (sp : SPC P S SU) (hf : FnIs P f (cLawAgain S fFits fMax fSpec fAgain) 35 4) (hfits : FitsC P fFits)
    (hw : WriteC P S SU fs) (hwE : entersB P S.fWrite = true) (hsame : SameC P S.fSame) (hver : VerC P S.fVer)
    (hmax : MaxC P fMax most) (hspec : SpecC P fSpec fs flex) (hag : AgainC P S.T.u8 fAgain gE most p) (hm : most < 32768) (w : World) (n : Nat) (hn : n < 256) (ct : List Value) (t : Tr) (hrt : RepTr w t ct) (hg : goodT SU t) (ev : Value) (hev : w.cell? ⟨gE, 0, none⟩ = some ev) (herr : isErr ev)
    (hpl : ∀ v, v ≤ most → (sWrite fs flex (v : Nat) t).length ≤ 274877906944 ∧ ∃ ds ts, decTop p (v : Nat) (sWrite fs flex (v : Nat) t) = some ((ds, ts), []) ∧ encTop p (v : Nat) ds ts = sWrite fs flex (v : Nat) t ∧ SmF okTags p.fs ds ∧ okTags ts) :
    Calls P f #[.int .u8 n, .agg ct.toArray] w (fun e w' => e = .returned (.bool true) ∧ Below w.heap.size w w') := by
  have ok := sp.ok
  obtain ⟨lct, oct⟩ : ct.length = 5 ∧ ct.all (·.oneCell') = true := ⟨hrt.one.2, hrt.one.1⟩
  refine hf.runs (args := [.int .u8 n, .agg ct.toArray]) (by simp) (by omega) ?_
  have b1 := below_box w (.cells ct.toArray S.tr)
  have r1 : (w.alloc (.cells ct.toArray S.tr)).rangeAt w.heap.size 0 ct := fun j v hj => cell_box w ct S.tr hj
  refine RW.sq (RW.rg (RL.bxA (cs := ct) rfl (RL.step MR.mv (RL.nil ?_))))
  have hrt1 : RepTr (w.alloc (.cells ct.toArray S.tr)) t ct := RepTr.kp b1.kp _ hrt
  revert b1 r1 hrt1
  generalize w.alloc (.cells ct.toArray S.tr) = w1
  intro b1 r1 hrt1
  refine RW.sq (RW.sq (RW.rg (RL.step (MR.ldRow (b := w.heap.size) (o := 0) (cs := ct) rfl ok.trR (by rw [lct]; exact ok.trN) r1) ?_)))
  refine RL.ca (R := fun v w' => (∃ b, v = .bool b) ∧ Below w1.heap.size w1 w') hfits.1 ?_ ?_
  · refine Calls.mono (hfits.2 w1 ct t hrt1) ?_
    rintro e w' ⟨⟨b, rfl⟩, h⟩
    exact ⟨_, rfl, ⟨b, rfl⟩, h⟩
  rintro v w2 ⟨⟨b, rfl⟩, b2⟩
  have B2 : Below w.heap.size w w2 := b1.trans (b2.mono b1.size)
  refine RL.step (MR.nt rfl) (RL.nil (RW.cd rfl (fun e => RW.sq (RW.rg (RL.step MR.mv (RL.nil (RW.rt ⟨rfl, B2⟩))))) (fun e => RW.sk ?_)))
  refine RW.sq (RW.rg (RL.ca (R := fun v w' => v = .int .i64 (most : Nat) ∧ Below w2.heap.size w2 w') hmax.1 ?_ ?_))
  · refine Calls.mono (hmax.2 w2) ?_
    rintro e w' ⟨rfl, h⟩
    exact ⟨_, rfl, rfl, h⟩
  rintro v w3 ⟨rfl, b3⟩
  have B3 : Below w.heap.size w w3 := B2.trans (b3.mono B2.size)
  refine RL.step MR.mv (RL.nil (RW.sq (RW.sq (RW.rg (RL.step (MR.mv (v := .int .i64 (most : Nat)) rfl) (RL.step (MR.biB (p := (most : Int) < 0) rfl (decide_eq_false (by omega))) (RL.nil (RW.cd (b := false) rfl (fun e => by cases e) (fun _ => RW.sk ?_)))))))))
  have r3 : w3.rangeAt w.heap.size 0 ct := fun j u hu => b3.kp _ _ (b2.kp _ _ (r1 j u hu))
  have hrt3 : RepTr w3 t ct := RepTr.kp (B3.kp) _ hrt
  refine RW.sq (RW.gd ok.mo (Below w3.heap.size w3) (below_drew1 _ _) ?_)
  have hS : ∀ {wa wb : World}, Below w3.heap.size w3 wa → Below wa.heap.size wa wb → Below w3.heap.size w3 wb := fun h k => h.trans (k.mono h.size)
  have hmod : n % (most + 1) ≤ most := Nat.lt_succ_iff.1 (Nat.mod_lt _ (by omega))
  refine RG.q (fun _ _ => MR.mv (v := .int .u8 n) rfl) (RG.q (fun _ _ => MR.mv (v := .int .i64 (most : Nat)) rfl) (RG.q (fun w' hS => MR.ldRow (b := w.heap.size) (o := 0) (cs := ct) rfl ok.trR (by rw [lct]; exact ok.trN) (fun j u hu => hS.kp _ _ (r3 j u hu))) ?_))
  refine RG.ca (R := fun v w' => ∃ cm, v = .agg (List.toArray cm) ∧ RepMs w' fs flex cm ∧ Below w3.heap.size w3 w') hspec.1 (fun h0 => ?_) ?_
  · refine Calls.mono (hspec.2 (World.drew1 w3)) ?_
    rintro e w' ⟨cm, rfl, h1, h2⟩
    exact ⟨_, rfl, ⟨cm, rfl, h1, hS h0 h2⟩, hS h0 h2⟩
  rintro v w4 ⟨cm, rfl, hms, b4⟩
  refine RG.ca (R := fun v w' => v = .int .i64 (n % (most + 1) : Nat) ∧ w' = w4) hver.1 (fun h0 => ?_) ?_
  · refine Calls.mono (hver.2 w4 n most hn hm) ?_
    rintro e w' ⟨rfl, rfl⟩
    exact ⟨_, rfl, ⟨rfl, rfl⟩, h0⟩
  rintro v w4' ⟨rfl, rfl⟩
  obtain ⟨hlen, ds, ts, hd1, hd2, hd3, hd4⟩ := hpl (n % (most + 1)) hmod
  have elim : lim = 1099511627776 := rfl
  refine RG.caB hwE (hw w4' cm ct t ((n % (most + 1) : Nat) : Int) flex hms (RepTr.kp b4.kp _ hrt3) hg (by omega)) rfl (fun w' h' h => hS h h') fun sv w5 o5 b5 => ?_
  refine RG.q (fun _ _ => MR.mv) (RG.nil fun b05 => ?_)
  have B5 : Below w.heap.size w w5 := B3.trans (b05.mono B3.size)
  obtain ⟨ad5, c5, rfl, had5, hc5, hby5⟩ := o5.bytes
  -- AgainX
  refine RW.sq (RW.rg (RL.step (MR.mv (v := .int .u8 n) rfl) (RL.step (MR.mv (v := .int .i64 (most : Nat)) rfl) ?_)))
  refine RL.ca (R := fun v w' => v = .int .i64 (n % (most + 1) : Nat) ∧ w5 = w') hver.1 ?_ ?_
  · refine Calls.mono (hver.2 w5 n most hn hm) ?_
    rintro e w' ⟨rfl, rfl⟩
    exact ⟨_, rfl, rfl, rfl⟩
  rintro v w6 ⟨rfl, rfl⟩
  refine RL.step MR.mv ?_
  have hagc := hag.2 w5 (n % (most + 1)) ad5 (sWrite fs flex ((n % (most + 1) : Nat) : Int) t) c5 ev hmod hby5 hlen (B5.kp _ _ hev) herr (fun ds' ts' r h => by
    rw [hd1] at h
    simp only [Option.some.injEq, Prod.mk.injEq] at h
    obtain ⟨⟨rfl, rfl⟩, rfl⟩ := h
    exact ⟨hd3, hd4, by rw [hd2]; exact hlen⟩)
  refine RL.ca (R := fun v w' => ∃ sv, v = .tuple #[sv, .bool true] ∧ OwnB S.T.u8 w' w5.heap.size sv (sWrite fs flex ((n % (most + 1) : Nat) : Int) t) ∧ Below w5.heap.size w5 w') hag.1 ?_ ?_
  · refine Calls.mono hagc ?_
    rintro e w' ⟨hb', ⟨ds', ts', r, sv, h, rfl, ho⟩ | ⟨h, _⟩⟩
    · rw [hd1] at h
      simp only [Option.some.injEq, Prod.mk.injEq] at h
      obtain ⟨⟨rfl, rfl⟩, rfl⟩ := h
      exact ⟨_, rfl, sv, rfl, by rw [← hd2]; exact ho, hb'⟩
    · rw [hd1] at h; cases h
  rintro v w7 ⟨sv, rfl, o7, b7⟩
  have B7 : Below w.heap.size w w7 := B5.trans (b7.mono B5.size)
  obtain ⟨ad7, c7, rfl, had7, hc7, hby7⟩ := o7.bytes
  refine RL.step MR.mv (RL.step (MR.ext (v := .slice ad7 (sWrite fs flex ((n % (most + 1) : Nat) : Int) t).length c7) rfl) (RL.step (MR.ext (v := .bool true) rfl) (RL.step MR.mv (RL.step MR.mv (RL.nil ?_)))))
  refine RW.sq (RW.gf (Below w7.heap.size w7) (Below.refl _ _) ?_)
  refine RG.q (fun _ _ => MR.mv (v := .bool true) rfl) (RG.q (fun _ _ => MR.mv (v := .bool true) rfl) (RG.q (fun _ _ => MR.mv (v := .slice ad7 (sWrite fs flex ((n % (most + 1) : Nat) : Int) t).length c7) rfl) (RG.q (fun _ _ => MR.mv (v := .slice ad5 (sWrite fs flex ((n % (most + 1) : Nat) : Int) t).length c5) rfl) ?_)))
  refine RG.ca (R := fun v w' => v = .bool true ∧ Below w7.heap.size w7 w') hsame.1 (fun h0 => ?_) ?_
  · refine Calls.mono (hsame.2 w7 ad7 ad5 (sWrite fs flex ((n % (most + 1) : Nat) : Int) t) (sWrite fs flex ((n % (most + 1) : Nat) : Int) t) c7 c5 hby7 (hby5.kp b7.kp) (by omega) (by omega)) ?_
    rintro e w' ⟨rfl, h2⟩
    exact ⟨_, rfl, ⟨by simp, h2⟩, h2⟩
  rintro v w8 ⟨rfl, b8⟩
  refine RG.q (fun _ _ => MR.pk (b := true) (v := .bool true) rfl rfl) (RG.q (fun _ _ => MR.mv (v := .bool true) rfl) (RG.nil fun h => RW.rt ⟨rfl, B7.trans (h.mono B7.size)⟩))
end
end Go.Kx
namespace Go.Kx
open Go.RowKit
set_option linter.unusedSimpArgs false
set_option linter.unusedVariables false

def cLawCut (S : SN) (fFits fMax fSpec fAgain : Nat) : MCode :=
  .sq (.rg [.bx 4 S.tr 1, .mv 6 (.c (.bool false))])
  (.sq (.sq (.rg [.ld 13 S.tr 4, .ca 14 fFits [.t 13], .nt 15 14]) (.cd 15 (.sq (.rg [.mv 6 (.c (.bool true))]) .rt) .sk))
  (.sq (.rg [.ca 16 fMax [], .mv 7 (.t 16)])
  (.sq (.sq (.rg [.mv 17 (.t 7), .bi 18 .lss S.T.int (.t 17) (.c (.int .i64 0))]) (.cd 18 (.sq (.rg [.mv 6 (.c (.bool false))]) .rt) .sk))
  (.sq (.gr true [⟨1, none, .mv 20 (.t 0)⟩, ⟨2, none, .mv 21 (.t 7)⟩, ⟨4, none, .ld 23 S.tr 4⟩, ⟨0, none, .ca 19 fSpec []⟩, ⟨3, none, .ca 22 S.fVer [.t 20, .t 21]⟩, ⟨5, none, .ca 24 S.fWrite [.t 19, .t 22, .t 23]⟩, ⟨6, none, .mv 8 (.t 24)⟩])
  (.sq (.rg [.mv 26 (.t 0), .mv 27 (.t 7), .ca 28 S.fVer [.t 26, .t 27], .mv 29 (.t 8), .ca 30 fAgain [.t 28, .t 29], .mv 25 (.t 30), .ext 31 25 0, .ext 32 25 1, .mv 9 (.t 31), .mv 10 (.t 32)])
  (.sq (.sq (.rg [.mv 33 (.t 8), .ln 34 S.T.u8s 33, .bi 35 .eql S.T.int (.t 34) (.c (.int .i64 0))]) (.cd 35 (.sq (.rg [.mv 36 (.t 10), .mv 6 (.t 36)]) .rt) .sk))
  (.sq (.gr true [⟨0, none, .mv 38 (.t 0)⟩, ⟨1, none, .mv 39 (.t 7)⟩, ⟨3, none, .mv 41 (.t 8)⟩, ⟨4, none, .mv 42 (.t 2)⟩, ⟨5, none, .cv 43 S.T.u16 S.T.int 42⟩, ⟨6, none, .mv 44 (.t 8)⟩, ⟨7, none, .ln 45 S.T.u8s 44⟩, ⟨8, none, .bi 46 .rem S.T.int (.t 43) (.t 45)⟩, ⟨9, none, .sl 47 S.T.u8s 41 none (some (.t 46)) none⟩, ⟨2, none, .ca 40 S.fVer [.t 38, .t 39]⟩, ⟨10, none, .ca 48 fAgain [.t 40, .t 47]⟩, ⟨11, none, .mv 37 (.t 48)⟩, ⟨12, none, .ext 49 37 0⟩, ⟨13, none, .ext 50 37 1⟩, ⟨14, none, .mv 11 (.t 49)⟩, ⟨15, none, .mv 12 (.t 50)⟩])
  (.sq (.gr false [⟨0, none, .mv 51 (.t 10)⟩, ⟨1, none, .mv 52 (.t 51)⟩, ⟨2, some (1, 52, true), .mv 53 (.t 12)⟩, ⟨3, some (1, 52, true), .nt 54 53⟩, ⟨4, none, .pk 55 (.t 52) (.t 54) (.c (.bool false))⟩, ⟨5, none, .mv 6 (.t 55)⟩]) .rt))))))))

section
variable {P : Program} {S : SN} {w w' : World} {N : Nat} {Q : Exit → (Nat → Value) → World → Prop} {ρ : Nat → Value} {SU : List (Nat × List UInt8) → Prop}

theorem law_cut {f fFits fMax fSpec fAgain gE most : Nat} {fs : Fds} {flex : Int} {p : Plan} (sp : SPC P S SU) (hf : FnIs P f (cLawCut S fFits fMax fSpec fAgain) 56 6) (h16u : S.T.u16 ≠ 0) (hfits : FitsC P fFits)
    (hw : WriteC P S SU fs) (hwE : entersB P S.fWrite = true) (hsame : SameC P S.fSame) (hver : VerC P S.fVer)
    (hmax : MaxC P fMax most) (hspec : SpecC P fSpec fs flex) (hag : AgainC P S.T.u8 fAgain gE most p) (hm : most < 32768) (w : World) (n mc : Nat) (hn : n < 256) (hmc : mc < 65536) (ct : List Value) (t : Tr) (hrt : RepTr w t ct) (hg : goodT SU t) (ev : Value) (hev : w.cell? ⟨gE, 0, none⟩ = some ev) (herr : isErr ev)
    (hpl : ∀ v, v ≤ most → (sWrite fs flex (v : Nat) t).length ≤ 274877906944 ∧ ∃ ds ts, decTop p (v : Nat) (sWrite fs flex (v : Nat) t) = some ((ds, ts), []) ∧ encTop p (v : Nat) ds ts = sWrite fs flex (v : Nat) t ∧ SmF okTags p.fs ds ∧ okTags ts)
    (hcut : ∀ v k, v ≤ most → k < (sWrite fs flex (v : Nat) t).length → decTop p (v : Nat) ((sWrite fs flex (v : Nat) t).take k) = none) :
    Calls P f #[.int .u8 n, .agg ct.toArray, .int .u16 (mc : Nat)] w (fun e w' => e = .returned (.bool true) ∧ Below w.heap.size w w') := by
  have ok := sp.ok
  obtain ⟨lct, oct⟩ : ct.length = 5 ∧ ct.all (·.oneCell') = true := ⟨hrt.one.2, hrt.one.1⟩
  refine hf.runs (args := [.int .u8 n, .agg ct.toArray, .int .u16 (mc : Nat)]) (by simp) (by omega) ?_
  have b1 := below_box w (.cells ct.toArray S.tr)
  have r1 : (w.alloc (.cells ct.toArray S.tr)).rangeAt w.heap.size 0 ct := fun j v hj => cell_box w ct S.tr hj
  refine RW.sq (RW.rg (RL.bxA (cs := ct) rfl (RL.step MR.mv (RL.nil ?_))))
  have hrt1 : RepTr (w.alloc (.cells ct.toArray S.tr)) t ct := RepTr.kp b1.kp _ hrt
  revert b1 r1 hrt1
  generalize w.alloc (.cells ct.toArray S.tr) = w1
  intro b1 r1 hrt1
  refine RW.sq (RW.sq (RW.rg (RL.step (MR.ldRow (b := w.heap.size) (o := 0) (cs := ct) rfl ok.trR (by rw [lct]; exact ok.trN) r1) ?_)))
  refine RL.ca (R := fun v w' => (∃ b, v = .bool b) ∧ Below w1.heap.size w1 w') hfits.1 ?_ ?_
  · refine Calls.mono (hfits.2 w1 ct t hrt1) ?_
    rintro e w' ⟨⟨b, rfl⟩, h⟩
    exact ⟨_, rfl, ⟨b, rfl⟩, h⟩
  rintro v w2 ⟨⟨b, rfl⟩, b2⟩
  have B2 : Below w.heap.size w w2 := b1.trans (b2.mono b1.size)
  refine RL.step (MR.nt rfl) (RL.nil (RW.cd rfl (fun e => RW.sq (RW.rg (RL.step MR.mv (RL.nil (RW.rt ⟨rfl, B2⟩))))) (fun e => RW.sk ?_)))
  refine RW.sq (RW.rg (RL.ca (R := fun v w' => v = .int .i64 (most : Nat) ∧ Below w2.heap.size w2 w') hmax.1 ?_ ?_))
  · refine Calls.mono (hmax.2 w2) ?_
    rintro e w' ⟨rfl, h⟩
    exact ⟨_, rfl, rfl, h⟩
  rintro v w3 ⟨rfl, b3⟩
  have B3 : Below w.heap.size w w3 := B2.trans (b3.mono B2.size)
  refine RL.step MR.mv (RL.nil (RW.sq (RW.sq (RW.rg (RL.step (MR.mv (v := .int .i64 (most : Nat)) rfl) (RL.step (MR.biB (p := (most : Int) < 0) rfl (decide_eq_false (by omega))) (RL.nil (RW.cd (b := false) rfl (fun e => by cases e) (fun _ => RW.sk ?_)))))))))
  have r3 : w3.rangeAt w.heap.size 0 ct := fun j u hu => b3.kp _ _ (b2.kp _ _ (r1 j u hu))
  have hrt3 : RepTr w3 t ct := RepTr.kp (B3.kp) _ hrt
  refine RW.sq (RW.gd ok.mo (Below w3.heap.size w3) (below_drew1 _ _) ?_)
  have hS : ∀ {wa wb : World}, Below w3.heap.size w3 wa → Below wa.heap.size wa wb → Below w3.heap.size w3 wb := fun h k => h.trans (k.mono h.size)
  have hmod : n % (most + 1) ≤ most := Nat.lt_succ_iff.1 (Nat.mod_lt _ (by omega))
  refine RG.q (fun _ _ => MR.mv (v := .int .u8 n) rfl) (RG.q (fun _ _ => MR.mv (v := .int .i64 (most : Nat)) rfl) (RG.q (fun w' hS => MR.ldRow (b := w.heap.size) (o := 0) (cs := ct) rfl ok.trR (by rw [lct]; exact ok.trN) (fun j u hu => hS.kp _ _ (r3 j u hu))) ?_))
  refine RG.ca (R := fun v w' => ∃ cm, v = .agg (List.toArray cm) ∧ RepMs w' fs flex cm ∧ Below w3.heap.size w3 w') hspec.1 (fun h0 => ?_) ?_
  · refine Calls.mono (hspec.2 (World.drew1 w3)) ?_
    rintro e w' ⟨cm, rfl, h1, h2⟩
    exact ⟨_, rfl, ⟨cm, rfl, h1, hS h0 h2⟩, hS h0 h2⟩
  rintro v w4 ⟨cm, rfl, hms, b4⟩
  refine RG.ca (R := fun v w' => v = .int .i64 (n % (most + 1) : Nat) ∧ w' = w4) hver.1 (fun h0 => ?_) ?_
  · refine Calls.mono (hver.2 w4 n most hn hm) ?_
    rintro e w' ⟨rfl, rfl⟩
    exact ⟨_, rfl, ⟨rfl, rfl⟩, h0⟩
  rintro v w4' ⟨rfl, rfl⟩
  obtain ⟨hlen, ds, ts, hd1, hd2, hd3, hd4⟩ := hpl (n % (most + 1)) hmod
  have elim : lim = 1099511627776 := rfl
  refine RG.caB hwE (hw w4' cm ct t ((n % (most + 1) : Nat) : Int) flex hms (RepTr.kp b4.kp _ hrt3) hg (by omega)) rfl (fun w' h' h => hS h h') fun sv w5 o5 b5 => ?_
  refine RG.q (fun _ _ => MR.mv) (RG.nil fun b05 => ?_)
  have B5 : Below w.heap.size w w5 := B3.trans (b05.mono B3.size)
  obtain ⟨ad5, c5, rfl, had5, hc5, hby5⟩ := o5.bytes
  -- AgainX
  refine RW.sq (RW.rg (RL.step (MR.mv (v := .int .u8 n) rfl) (RL.step (MR.mv (v := .int .i64 (most : Nat)) rfl) ?_)))
  refine RL.ca (R := fun v w' => v = .int .i64 (n % (most + 1) : Nat) ∧ w5 = w') hver.1 ?_ ?_
  · refine Calls.mono (hver.2 w5 n most hn hm) ?_
    rintro e w' ⟨rfl, rfl⟩
    exact ⟨_, rfl, rfl, rfl⟩
  rintro v w6 ⟨rfl, rfl⟩
  refine RL.step MR.mv ?_
  have hagc := hag.2 w5 (n % (most + 1)) ad5 (sWrite fs flex ((n % (most + 1) : Nat) : Int) t) c5 ev hmod hby5 hlen (B5.kp _ _ hev) herr (fun ds' ts' r h => by
    rw [hd1] at h
    simp only [Option.some.injEq, Prod.mk.injEq] at h
    obtain ⟨⟨rfl, rfl⟩, rfl⟩ := h
    exact ⟨hd3, hd4, by rw [hd2]; exact hlen⟩)
  refine RL.ca (R := fun v w' => ∃ sv, v = .tuple #[sv, .bool true] ∧ OwnB S.T.u8 w' w5.heap.size sv (sWrite fs flex ((n % (most + 1) : Nat) : Int) t) ∧ Below w5.heap.size w5 w') hag.1 ?_ ?_
  · refine Calls.mono hagc ?_
    rintro e w' ⟨hb', ⟨ds', ts', r, sv, h, rfl, ho⟩ | ⟨h, _⟩⟩
    · rw [hd1] at h
      simp only [Option.some.injEq, Prod.mk.injEq] at h
      obtain ⟨⟨rfl, rfl⟩, rfl⟩ := h
      exact ⟨_, rfl, sv, rfl, by rw [← hd2]; exact ho, hb'⟩
    · rw [hd1] at h; cases h
  rintro v w7 ⟨sv, rfl, o7, b7⟩
  have B7 : Below w.heap.size w w7 := B5.trans (b7.mono B5.size)
  obtain ⟨ad7, c7, rfl, had7, hc7, hby7⟩ := o7.bytes
  refine RL.step MR.mv (RL.step (MR.ext (v := .slice ad7 (sWrite fs flex ((n % (most + 1) : Nat) : Int) t).length c7) rfl) (RL.step (MR.ext (v := .bool true) rfl) (RL.step MR.mv (RL.step MR.mv (RL.nil ?_)))))
  -- nothing was written: there is nothing to cut
  refine RW.sq (RW.sq (RW.rg (RL.step (MR.mv (v := .slice ad5 (sWrite fs flex ((n % (most + 1) : Nat) : Int) t).length c5) rfl) (RL.step (MR.ln ok.tk.u8s rfl) (RL.step (MR.biE (v := .bool (((sWrite fs flex ((n % (most + 1) : Nat) : Int) t).length : Int) == 0)) rfl) (RL.nil ?_))))))
  refine RW.cd rfl (fun e0 => RW.sq (RW.rg (RL.step (MR.mv (v := .bool true) rfl) (RL.step MR.mv (RL.nil (RW.rt ⟨rfl, B7⟩)))))) (fun e0 => RW.sk ?_)
  have hl0 : 0 < (sWrite fs flex ((n % (most + 1) : Nat) : Int) t).length := by have := beq_eq_false_iff_ne.1 e0; omega
  have hklt : mc % (sWrite fs flex ((n % (most + 1) : Nat) : Int) t).length < (sWrite fs flex ((n % (most + 1) : Nat) : Int) t).length := Nat.mod_lt _ hl0
  have hrem : evB .rem (.int .i64 (mc : Nat)) (.int .i64 ((sWrite fs flex ((n % (most + 1) : Nat) : Int) t).length : Nat)) = some (.int .i64 ((mc % (sWrite fs flex ((n % (most + 1) : Nat) : Int) t).length : Nat) : Int)) := by
    simp only [evB]
    rw [if_pos ⟨trivial, by omega⟩]
    rfl
  have hu8 : (P.info? S.T.u8).isSome = true := by obtain ⟨i, hi, _⟩ := u8Ty_info ok.tk.u8; rw [hi]; rfl
  have hby57 : BytesAt w7 (fun _ => True) ad5 (sWrite fs flex ((n % (most + 1) : Nat) : Int) t) := hby5.kp b7.kp
  refine RW.sq (RW.gd ok.mo (Below w7.heap.size w7) (below_drew1 _ _) ?_)
  have hS7 : ∀ {wa wb : World}, Below w7.heap.size w7 wa → Below wa.heap.size wa wb → Below w7.heap.size w7 wb := fun h k => h.trans (k.mono h.size)
  refine RG.q (fun _ _ => MR.mv (v := .int .u8 n) rfl) (RG.q (fun _ _ => MR.mv (v := .int .i64 (most : Nat)) rfl) (RG.q (fun _ _ => MR.mv (v := .slice ad5 (sWrite fs flex ((n % (most + 1) : Nat) : Int) t).length c5) rfl) (RG.q (fun _ _ => MR.mv (v := .int .u16 (mc : Nat)) rfl)
    (RG.q (fun _ _ => MR.cvI rfl (ok.tk.u16 h16u) ok.tk.int) ?_))))
  rw [wrap_i64 (show -9223372036854775808 ≤ (mc : Int) by omega) (by omega)]
  refine RG.q (fun _ _ => MR.mv (v := .slice ad5 (sWrite fs flex ((n % (most + 1) : Nat) : Int) t).length c5) rfl) (RG.q (fun _ _ => MR.ln ok.tk.u8s rfl) (RG.q (v := .int .i64 ((mc % (sWrite fs flex ((n % (most + 1) : Nat) : Int) t).length : Nat) : Int)) (fun _ _ => MR.biE hrem)
      (RG.q (v := .slice ad5 (mc % (sWrite fs flex ((n % (most + 1) : Nat) : Int) t).length) c5) (fun _ _ => MR.sl (run_sliceTo (h := mc % (sWrite fs flex ((n % (most + 1) : Nat) : Int) t).length) ok.tk.u8s hu8 had5 (by omega))) ?_)))
  refine RG.ca (R := fun v w' => v = .int .i64 (n % (most + 1) : Nat) ∧ Below w7.heap.size w7 w') hver.1 (fun h0 => ?_) ?_
  · refine Calls.mono (hver.2 (World.drew1 w7) n most hn hm) ?_
    rintro e w' ⟨rfl, rfl⟩
    exact ⟨_, rfl, ⟨rfl, h0⟩, h0⟩
  rintro v w8 ⟨rfl, b8⟩
  have hk1 : ((sWrite fs flex ((n % (most + 1) : Nat) : Int) t).take (mc % (sWrite fs flex ((n % (most + 1) : Nat) : Int) t).length)).length = mc % (sWrite fs flex ((n % (most + 1) : Nat) : Int) t).length := by rw [List.length_take]; omega
  have hnone := hcut (n % (most + 1)) _ hmod hklt
  have hag2 := hag.2 w8 (n % (most + 1)) ad5 ((sWrite fs flex ((n % (most + 1) : Nat) : Int) t).take (mc % (sWrite fs flex ((n % (most + 1) : Nat) : Int) t).length)) c5 ev hmod ((hby57.take _).kp b8.kp) (by rw [hk1]; omega) (b8.kp _ _ (B7.kp _ _ hev)) herr (fun ds' ts' r h => by rw [hnone] at h; cases h)
  rw [hk1] at hag2
  refine RG.ca (R := fun v w' => v = .tuple #[.slice none 0 0, .bool false] ∧ Below w7.heap.size w7 w') hag.1 (fun h0 => ?_) ?_
  · refine Calls.mono hag2 ?_
    rintro e w' ⟨hb', ⟨ds', ts', r, sv, h, _⟩ | ⟨_, rfl⟩⟩
    · rw [hnone] at h; cases h
    · exact ⟨_, rfl, ⟨rfl, hS7 h0 hb'⟩, hS7 h0 hb'⟩
  rintro v w9 ⟨rfl, b9⟩
  refine RG.q (fun _ _ => MR.mv (v := .tuple #[.slice none 0 0, .bool false]) rfl) (RG.q (fun _ _ => MR.ext (v := .slice none 0 0) rfl) (RG.q (fun _ _ => MR.ext (v := .bool false) rfl) (RG.q (fun _ _ => MR.mv (v := .slice none 0 0) rfl) (RG.q (fun _ _ => MR.mv (v := .bool false) rfl) (RG.nil fun b09 => ?_)))))
  have B9 : Below w.heap.size w w9 := B7.trans (b09.mono B7.size)
  refine RW.sq (RW.gf (Below w9.heap.size w9) (Below.refl _ _) ?_)
  refine RG.q (fun _ _ => MR.mv (v := .bool true) rfl) (RG.q (fun _ _ => MR.mv (v := .bool true) rfl) (RG.q (fun _ _ => MR.mv (v := .bool false) rfl) (RG.q (v := .bool true) (fun _ _ => MR.nt (b := false) rfl) (RG.q (fun _ _ => MR.pk (b := true) (v := .bool true) rfl rfl) (RG.q (fun _ _ => MR.mv (v := .bool true) rfl) (RG.nil fun h => RW.rt ⟨rfl, B9⟩))))))
end
end Go.Kx
namespace Go.Kx
open Go.RowKit
set_option linter.unusedSimpArgs false
set_option linter.unusedVariables false

def cLess (K : EN) : MCode := .sq (.rg [.mv 5 (.c (.bool false))]) (.sq (.gr true [⟨0, none, .ld 6 K.tKs 2⟩, ⟨1, none, .mv 7 (.t 0)⟩, ⟨2, none, .ia 8 K.tKs 6 7⟩, ⟨3, none, .ld 9 K.tU32 8⟩, ⟨4, none, .ld 10 K.tKs 2⟩, ⟨5, none, .mv 11 (.t 1)⟩, ⟨6, none, .ia 12 K.tKs 10 11⟩, ⟨7, none, .ld 13 K.tU32 12⟩, ⟨8, none, .bi 14 .lss K.tU32 (.t 9) (.t 13)⟩, ⟨9, none, .mv 5 (.t 14)⟩]) .rt)

section
variable {P : Program} {w : World} {T : IT} {K : EN}

theorem less_ok {f : Nat} (te : TgE P K T) (hmo : P.follows .mixedOrders = true) (hf : FnIs P f (cLess K) 15 5) {db g o n c i j a b : Nat} (hc : w.cell? ⟨db, 0, none⟩ = some (.slice (some ⟨g, o, none⟩) n c)) (hi : i < n) (hj : j < n) (ha : w.cell? ⟨g, o + i, none⟩ = some (u32V a)) (hb : w.cell? ⟨g, o + j, none⟩ = some (u32V b)) :
    Calls P f #[.int .i64 (i : Nat), .int .i64 (j : Nat), .pointer (some ⟨db, 0, none⟩)] w (fun e w' => e = .returned (.bool (decide (a < b))) ∧ w' = World.drew1 w) := by
  refine hf.runs (args := [.int .i64 (i : Nat), .int .i64 (j : Nat), .pointer (some ⟨db, 0, none⟩)]) (by simp) (by omega) ?_
  refine RW.sq (RW.rg (RL.step MR.mv (RL.nil (RW.sq (RW.gd hmo (fun w' => Kp w w') (drew1_kp w) ?_)))))
  refine RG.q (fun w' h => MR.ld (p := ⟨db, 0, none⟩) rfl te.pk (h _ _ hc)) (RG.q (fun _ _ => MR.mv (v := .int .i64 (i : Nat)) rfl) (RG.q (fun _ _ => MR.ia (k := .i64) te.ks te.cu rfl rfl hi) (RG.q (fun w' h => MR.ld rfl te.pu (by rw [Nat.mul_one]; exact h _ _ ha))
    (RG.q (fun w' h => MR.ld (p := ⟨db, 0, none⟩) rfl te.pk (h _ _ hc)) (RG.q (fun _ _ => MR.mv (v := .int .i64 (j : Nat)) rfl) (RG.q (fun _ _ => MR.ia (k := .i64) te.ks te.cu rfl rfl hj) (RG.q (fun w' h => MR.ld rfl te.pu (by rw [Nat.mul_one]; exact h _ _ hb))
      (RG.q (v := .bool (decide ((a : Int) < (b : Nat)))) (fun _ _ => MR.biE rfl) (RG.q (fun _ _ => MR.mv (v := .bool (decide ((a : Int) < (b : Nat)))) rfl) (RG.nil fun _ => RW.rt ⟨?_, rfl⟩))))))))))
  show Ending.returned (.bool _) = _
  congr 2
  by_cases h : a < b
  · rw [decide_eq_true h, decide_eq_true (by omega)]
  · rw [decide_eq_false h, decide_eq_false (by omega)]
end
end Go.Kx
namespace Go.Kx
open Go.RowKit
set_option linter.unusedSimpArgs false
set_option linter.unusedVariables false

def cLawAny (S : SN) (fMax fAgain : Nat) : MCode :=
  .sq (.rg [.mv 4 (.c (.bool false))])
  (.sq (.sq (.rg [.mv 10 (.t 1), .ln 11 S.T.u8s 10, .bi 12 .gtr S.T.int (.t 11) (.c (.int .i64 2147483647))]) (.cd 12 (.sq (.rg [.mv 4 (.c (.bool true))]) .rt) .sk))
  (.sq (.rg [.ca 13 fMax [], .mv 5 (.t 13)])
  (.sq (.sq (.rg [.mv 14 (.t 5), .bi 15 .lss S.T.int (.t 14) (.c (.int .i64 0))]) (.cd 15 (.sq (.rg [.mv 4 (.c (.bool false))]) .rt) .sk))
  (.sq (.sq (.rg [.mv 16 (.t 1), .ln 17 S.T.u8s 16, .bi 18 .gtr S.T.int (.t 17) (.c (.int .i64 1000))]) (.cd 18 (.sq (.rg [.mv 4 (.c (.bool true))]) .rt) .sk))
  (.sq (.rg [.mv 20 (.t 0), .mv 21 (.t 5), .ca 22 S.fVer [.t 20, .t 21], .mv 23 (.t 1), .ca 24 fAgain [.t 22, .t 23], .mv 19 (.t 24), .ext 25 19 0, .ext 26 19 1, .mv 6 (.t 25), .mv 7 (.t 26)])
  (.sq (.sq (.rg [.mv 27 (.t 7), .nt 28 27]) (.cd 28 (.sq (.rg [.mv 4 (.c (.bool true))]) .rt) .sk))
  (.sq (.rg [.mv 30 (.t 0), .mv 31 (.t 5), .ca 32 S.fVer [.t 30, .t 31], .mv 33 (.t 6), .ca 34 fAgain [.t 32, .t 33], .mv 29 (.t 34), .ext 35 29 0, .ext 36 29 1, .mv 8 (.t 35), .mv 9 (.t 36)])
  (.sq (.gr false [⟨0, none, .mv 37 (.t 9)⟩, ⟨1, none, .mv 38 (.t 37)⟩, ⟨2, some (1, 38, true), .mv 39 (.t 6)⟩, ⟨3, some (1, 38, true), .mv 40 (.t 8)⟩, ⟨4, some (1, 38, true), .ca 41 S.fSame [.t 39, .t 40]⟩, ⟨5, none, .pk 42 (.t 38) (.t 41) (.c (.bool false))⟩, ⟨6, none, .mv 4 (.t 42)⟩]) .rt))))))))

section
variable {P : Program} {S : SN} {w w' : World} {Q : Exit → (Nat → Value) → World → Prop} {ρ : Nat → Value}

theorem law_any {f fMax fAgain gE most : Nat} {p : Plan} (ok : SOK0 P S) (hf : FnIs P f (cLawAny S fMax fAgain) 43 4) (hsame : SameC P S.fSame) (hver : VerC P S.fVer)
    (hmax : MaxC P fMax most) (hag : AgainC P S.T.u8 fAgain gE most p) (hm : most < 32768) (w : World) (n : Nat) (hn : n < 256) (ad : Option Addr) (l : List UInt8) (c : Nat) (hby : BytesAt w (fun _ => True) ad l) (ev : Value) (hev : w.cell? ⟨gE, 0, none⟩ = some ev) (herr : isErr ev)
    (hany : ∀ v, v ≤ most → l.length ≤ 1000 → ∀ ds ts r, decTop p (v : Nat) l = some ((ds, ts), r) → SmF okTags p.fs ds ∧ okTags ts ∧ (encTop p (v : Nat) ds ts).length ≤ 274877906944 ∧
      ∃ ds' ts', decTop p (v : Nat) (encTop p (v : Nat) ds ts) = some ((ds', ts'), []) ∧ encTop p (v : Nat) ds' ts' = encTop p (v : Nat) ds ts ∧ SmF okTags p.fs ds' ∧ okTags ts') :
    Calls P f #[.int .u8 n, .slice ad l.length c] w (fun e w' => e = .returned (.bool true) ∧ Below w.heap.size w w') := by
  refine hf.runs (args := [.int .u8 n, .slice ad l.length c]) (by simp) (by omega) ?_
  refine RW.sq (RW.rg (RL.step MR.mv (RL.nil ?_)))
  refine RW.sq (RW.sq (RW.rg (RL.step (MR.mv (v := .slice ad l.length c) rfl) (RL.step (MR.ln ok.tk.u8s rfl) (RL.step (MR.biE (v := .bool (decide ((2147483647 : Int) < (l.length : Nat)))) rfl) (RL.nil ?_))))))
  refine RW.cd rfl (fun e => RW.sq (RW.rg (RL.step MR.mv (RL.nil (RW.rt ⟨rfl, Below.refl _ _⟩))))) (fun e => RW.sk ?_)
  refine RW.sq (RW.rg (RL.ca (R := fun v w' => v = .int .i64 (most : Nat) ∧ Below w.heap.size w w') hmax.1 ?_ ?_))
  · refine Calls.mono (hmax.2 w) ?_
    rintro e w' ⟨rfl, h⟩
    exact ⟨_, rfl, rfl, h⟩
  rintro v w1 ⟨rfl, b1⟩
  refine RL.step MR.mv (RL.nil (RW.sq (RW.sq (RW.rg (RL.step (MR.mv (v := .int .i64 (most : Nat)) rfl) (RL.step (MR.biB (p := (most : Int) < 0) rfl (decide_eq_false (by omega))) (RL.nil (RW.cd (b := false) rfl (fun e => by cases e) (fun _ => RW.sk ?_)))))))))
  refine RW.sq (RW.sq (RW.rg (RL.step (MR.mv (v := .slice ad l.length c) rfl) (RL.step (MR.ln ok.tk.u8s rfl) (RL.step (MR.biE (v := .bool (decide ((1000 : Int) < (l.length : Nat)))) rfl) (RL.nil ?_))))))
  refine RW.cd rfl (fun e => RW.sq (RW.rg (RL.step MR.mv (RL.nil (RW.rt ⟨rfl, b1⟩))))) (fun e => RW.sk ?_)
  have hl : l.length ≤ 1000 := by have := of_decide_eq_false e; omega
  have hmod : n % (most + 1) ≤ most := Nat.lt_succ_iff.1 (Nat.mod_lt _ (by omega))
  refine RW.sq (RW.rg (RL.step (MR.mv (v := .int .u8 n) rfl) (RL.step (MR.mv (v := .int .i64 (most : Nat)) rfl) ?_)))
  refine RL.ca (R := fun v w' => v = .int .i64 (n % (most + 1) : Nat) ∧ w1 = w') hver.1 ?_ ?_
  · refine Calls.mono (hver.2 w1 n most hn hm) ?_
    rintro e w' ⟨rfl, rfl⟩
    exact ⟨_, rfl, rfl, rfl⟩
  rintro v w2 ⟨rfl, rfl⟩
  refine RL.step (MR.mv (v := .slice ad l.length c) rfl) ?_
  have hag1 := hag.2 w1 (n % (most + 1)) ad l c ev hmod (hby.kp b1.kp) (by omega) (b1.kp _ _ hev) herr (fun ds ts r h => by
    obtain ⟨a1, a2, a3, _⟩ := hany _ hmod hl ds ts r h
    exact ⟨a1, a2, a3⟩)
  refine RL.ca (R := fun v w' => Below w1.heap.size w1 w' ∧ ((∃ ds ts r sv, decTop p ((n % (most + 1) : Nat) : Int) l = some ((ds, ts), r) ∧ v = .tuple #[sv, .bool true] ∧ OwnB S.T.u8 w' w1.heap.size sv (encTop p ((n % (most + 1) : Nat) : Int) ds ts)) ∨ v = .tuple #[.slice none 0 0, .bool false])) hag.1 ?_ ?_
  · refine Calls.mono hag1 ?_
    rintro e w' ⟨hb', ⟨ds', ts', r, sv, h, rfl, ho⟩ | ⟨h, rfl⟩⟩
    · exact ⟨_, rfl, hb', .inl ⟨ds', ts', r, sv, h, rfl, ho⟩⟩
    · exact ⟨_, rfl, hb', .inr rfl⟩
  rintro v w3 ⟨b3, h3⟩
  have B3 : Below w.heap.size w w3 := b1.trans (b3.mono b1.size)
  rcases h3 with ⟨ds, ts, r, sv, hd, rfl, ho⟩ | rfl
  · obtain ⟨a1, a2, a3, ds', ts', d1, d2, d3, d4⟩ := hany _ hmod hl ds ts r hd
    obtain ⟨ad3, c3, rfl, _, _, hby3⟩ := ho.bytes
    refine RL.step MR.mv (RL.step (MR.ext (v := .slice ad3 (encTop p ((n % (most + 1) : Nat) : Int) ds ts).length c3) rfl) (RL.step (MR.ext (v := .bool true) rfl) (RL.step MR.mv (RL.step MR.mv (RL.nil ?_)))))
    refine RW.sq (RW.sq (RW.rg (RL.step (MR.mv (v := .bool true) rfl) (RL.step (MR.nt (b := true) rfl) (RL.nil (RW.cd (b := false) rfl (fun e => by cases e) (fun _ => RW.sk ?_)))))))
    refine RW.sq (RW.rg (RL.step (MR.mv (v := .int .u8 n) rfl) (RL.step (MR.mv (v := .int .i64 (most : Nat)) rfl) ?_)))
    refine RL.ca (R := fun v w' => v = .int .i64 (n % (most + 1) : Nat) ∧ w3 = w') hver.1 ?_ ?_
    · refine Calls.mono (hver.2 w3 n most hn hm) ?_
      rintro e w' ⟨rfl, rfl⟩
      exact ⟨_, rfl, rfl, rfl⟩
    rintro v w4 ⟨rfl, rfl⟩
    refine RL.step (MR.mv (v := .slice ad3 (encTop p ((n % (most + 1) : Nat) : Int) ds ts).length c3) rfl) ?_
    have hag2 := hag.2 w3 (n % (most + 1)) ad3 (encTop p ((n % (most + 1) : Nat) : Int) ds ts) c3 ev hmod hby3 a3 (B3.kp _ _ hev) herr (fun ds2 ts2 r2 h => by
      rw [d1] at h
      simp only [Option.some.injEq, Prod.mk.injEq] at h
      obtain ⟨⟨rfl, rfl⟩, rfl⟩ := h
      exact ⟨d3, d4, by rw [d2]; exact a3⟩)
    refine RL.ca (R := fun v w' => ∃ sv, v = .tuple #[sv, .bool true] ∧ OwnB S.T.u8 w' w3.heap.size sv (encTop p ((n % (most + 1) : Nat) : Int) ds ts) ∧ Below w3.heap.size w3 w') hag.1 ?_ ?_
    · refine Calls.mono hag2 ?_
      rintro e w' ⟨hb', ⟨ds2, ts2, r2, sv, h, rfl, ho2⟩ | ⟨h, _⟩⟩
      · rw [d1] at h
        simp only [Option.some.injEq, Prod.mk.injEq] at h
        obtain ⟨⟨rfl, rfl⟩, rfl⟩ := h
        exact ⟨_, rfl, sv, rfl, by rw [← d2]; exact ho2, hb'⟩
      · rw [d1] at h; cases h
    rintro v w5 ⟨sv, rfl, o5, b5⟩
    have B5 : Below w.heap.size w w5 := B3.trans (b5.mono B3.size)
    obtain ⟨ad5, c5, rfl, _, _, hby5⟩ := o5.bytes
    refine RL.step MR.mv (RL.step (MR.ext (v := .slice ad5 (encTop p ((n % (most + 1) : Nat) : Int) ds ts).length c5) rfl) (RL.step (MR.ext (v := .bool true) rfl) (RL.step MR.mv (RL.step MR.mv (RL.nil ?_)))))
    refine RW.sq (RW.gf (Below w5.heap.size w5) (Below.refl _ _) ?_)
    refine RG.q (fun _ _ => MR.mv (v := .bool true) rfl) (RG.q (fun _ _ => MR.mv (v := .bool true) rfl) (RG.q (fun _ _ => MR.mv (v := .slice ad3 (encTop p ((n % (most + 1) : Nat) : Int) ds ts).length c3) rfl) (RG.q (fun _ _ => MR.mv (v := .slice ad5 (encTop p ((n % (most + 1) : Nat) : Int) ds ts).length c5) rfl) ?_)))
    refine RG.ca (R := fun v w' => v = .bool true ∧ Below w5.heap.size w5 w') hsame.1 (fun h0 => ?_) ?_
    · refine Calls.mono (hsame.2 w5 ad3 ad5 _ _ c3 c5 (hby3.kp b5.kp) hby5 (by omega) (by omega)) ?_
      rintro e w' ⟨rfl, h2⟩
      exact ⟨_, rfl, ⟨by simp, h2⟩, h2⟩
    rintro v w6 ⟨rfl, b6⟩
    refine RG.q (fun _ _ => MR.pk (b := true) (v := .bool true) rfl rfl) (RG.q (fun _ _ => MR.mv (v := .bool true) rfl) (RG.nil fun h => RW.rt ⟨rfl, B5.trans (h.mono B5.size)⟩))
  · refine RL.step MR.mv (RL.step (MR.ext (v := .slice none 0 0) rfl) (RL.step (MR.ext (v := .bool false) rfl) (RL.step MR.mv (RL.step MR.mv (RL.nil ?_)))))
    refine RW.sq (RW.sq (RW.rg (RL.step (MR.mv (v := .bool false) rfl) (RL.step (MR.nt (b := false) rfl) (RL.nil (RW.cd (b := true) rfl (fun _ => ?_) (fun e => by cases e)))))))
    exact RW.sq (RW.rg (RL.step MR.mv (RL.nil (RW.rt ⟨rfl, B3⟩))))
end
end Go.Kx
namespace Go.Kx
open Go.RowKit
set_option linter.unusedSimpArgs false
set_option linter.unusedVariables false

/-- With spec.unknown's whole contract the reference's functions take every tree whose keys fit. -/
theorem sp_tags {P : Program} {S : SN} {SU : List (Nat × List UInt8) → Prop} (sp : SPC P S SU) (hby : bytesLe P S.tg 1000 = true) (hf : FnIs P S.fUnk (cUnk S) 85 4) : SPC P S keysOk :=
  { ok := sp.ok, su0 := fun x hx => by simp at hx, fixed := sp.fixed, uvar := sp.uvar, width := sp.width, counted := sp.counted, whole := sp.whole, things := sp.things, has := sp.has, null := sp.null, at_ := sp.at_, known := sp.known,
    unk := ⟨hf.ent, fun w ad c fs v u h1 h2 h3 h4 _ => (unk_ok sp.ok hby hf sp.known).2 w ad c fs v u h1 h2 h3 h4 trivial⟩, value := sp.value, field := sp.field, part := sp.part }
/-! ### Sixteen octets, copied into an array -/
section
variable {P : Program} {w w' : World}

theorem Fr.ofBelowX {lo b o n : Nat} (h : Below lo w w') (hb : b < lo) : Fr (fun k => lo ≤ k) b o n w w' :=
  ⟨h.os, h.tape, h.output, h.size, fun k _ _ hk => h.block k (by omega), fun j _ => cell_of_heap (h.block b hb), fun o' n' ht => there_keep ht (h.block b hb)⟩

theorem heap_box (w : World) (o : Obj) : (w.alloc o).heap[w.heap.size]? = some o := by
  show (w.heap.push o)[w.heap.size]? = _
  simp
theorem row_at {q : Nat} {cs : List Value} {A : Nat} (hh : w.heap[q]? = some (.cells cs.toArray A (0, 0))) : w.rangeAt q 0 cs := by
  intro j v hj
  rw [Nat.zero_add]
  unfold World.cell?
  simp [hh, hj]

theorem run_copy16 {T U q c A lo : Nat} {F : Nat → Prop} {ad : Option Addr} {l : List UInt8} (hT : sliceOf P T U = true) (hU : u8Ty P U = true) (hb : BytesAt w F ad l) (hlo : lo ≤ q) (hh : w.heap[q]? = some (.cells (List.replicate 16 (Value.int .u8 0)).toArray A (0, 0))) :
    ∃ v w2, (∀ ty, (Builtin.copy_ #[T, T] ty #[.slice (some ⟨q, 0, none⟩) 16 16, .slice ad l.length c]).run P w = .ok v w2) ∧ Below lo w w2 ∧ (∀ k, k ≠ q → w2.heap[k]? = w.heap[k]?) ∧ w2.rangeAt q 0 (((l ++ List.replicate 16 0).take 16).map byteV) := by
  obtain ⟨i, hi, hs, hby, hz⟩ := u8Ty_info hU
  have hz0 : ∀ n, List.replicate n (Value.int .u8 0) = (List.replicate n (0 : UInt8)).map byteV := fun n => by rw [List.map_replicate]; rfl
  have hsz : (P.info? U).map (·.size) = some 1 := by rw [hi]; simp [hs]
  by_cases hl : l.length = 0
  · have : l = [] := List.eq_nil_of_length_eq_zero hl
    subst this
    refine ⟨_, _, fun ty => run_copy_none (P := P) _ T T ty U (some ⟨q, 0, none⟩) ad 16 16 0 c (sliceOf_eq hT) hsz (by simp), Below.refl _ _, fun _ _ => rfl, ?_⟩
    have := row_at hh
    rw [hz0] at this
    simpa using this
  · obtain ⟨b0, hb0⟩ : ∃ b, l[0]? = some b := ⟨l[0], List.getElem?_eq_getElem (by omega)⟩
    obtain ⟨g, o, rfl, _, _⟩ := hb 0 b0 hb0
    have hcopy := fun ty => run_copy_row (P := P) w T T ty U q 0 16 16 ⟨g, o, none⟩ l.length c (List.replicate 16 (Value.int .u8 0)).toArray A ((l.take 16).map byteV) (sliceOf_eq hT) hsz hh
      (by simp [Nat.min_comm]) (fun j v hv => by
        rw [List.getElem?_map, Option.map_eq_some_iff] at hv
        obtain ⟨b, hb1, rfl⟩ := hv
        rw [List.getElem?_take] at hb1
        split at hb1
        · obtain ⟨g', o', he, _, hc⟩ := hb j b hb1
          cases he
          rw [Addr.add_mid]; exact hc
        · simp at hb1) (by simp; omega) (by intro v hv; simp only [List.mem_map] at hv; obtain ⟨b, _, rfl⟩ := hv; rfl)
    refine ⟨_, _, hcopy, below_setRow (Below.refl _ _) hlo _, fun k hk => setRow_other w q k _ hk, ?_⟩
    have e : ((List.take 0 (List.replicate 16 (Value.int .u8 0)).toArray.toList ++ (l.take 16).map byteV ++ List.drop (0 + ((l.take 16).map byteV).length) (List.replicate 16 (Value.int .u8 0)).toArray.toList)) = ((l ++ List.replicate 16 0).take 16).map byteV := by
      simp only [List.take_zero, List.nil_append, Nat.zero_add, List.length_map, List.length_take]
      rw [hz0, ← List.map_drop, ← List.map_append]
      congr 1
      rw [List.drop_replicate, List.take_append]
      rw [List.take_replicate]
      congr 2; omega
    rw [e]
    exact row_at (w := w.setRow q _) (setRow_heap w q _ _ A (0, 0) hh)
end

def cUuidR (R : RN) : MCode :=
  .sq (.rg [.al 2 R.tA]) (.sq (.rg [.al 3 R.tA]) (.sq (.gr true [⟨0, none, .sl 4 R.tA 3 none none none⟩, ⟨1, none, .mv 5 (.t 0)⟩, ⟨2, none, .ca 6 R.span [.t 5, .c (.int .i64 16)]⟩, ⟨3, none, .cp 7 R.T.u8s R.T.u8s 4 6⟩]) (.sq (.rg [.ld 8 R.tA 3, .st R.tA 2 8]) .rt)))

theorem drew1_below (lo : Nat) (w : World) : Below lo w (World.drew1 w) := ⟨rfl, rfl, rfl, Nat.le_refl _, fun _ _ => rfl⟩

theorem uuid_ok {P : Program} {R : RN} {f : Nat} {flex : Bool} (ok : ROK P R) (hA : arrOf P R.tA 16 R.T.u8 = true) (hrow : rowTy P R.tA = true) (hc : cellsB P R.tA 16 = true) (hz : zeroIs P R.tA (List.replicate 16 (.int .u8 0)) = true) (hsp : SpanC P R.span) (hf : FnIsC P f (cUuidR R) 9 2 R.tA) : RdC P f (dP .uuid flex) (PrC .uuid) := by
  have hzz := zeroIs_of hz
  rw [List.map_replicate] at hzz
  obtain ⟨iz, hiz, hzv⟩ := hzz
  have hU8 : (P.info? R.T.u8).isSome = true := by obtain ⟨i, hi, _⟩ := u8Ty_info ok.tk.u8; rw [hi]; rfl
  refine ⟨hf.ent, fun w rb sb st h hne => ?_⟩
  have hrb := h.lt
  refine hf.runs (args := [.pointer (some ⟨rb, 0, none⟩)]) (by simp) (by omega) ?_
  refine RW.sq (RW.rg (RL.step (MR.al ⟨iz, hiz, hzv⟩) (RL.nil (RW.sq (RW.rg (RL.step (MR.al ⟨iz, hiz, hzv⟩) (RL.nil ?_)))))))
  have b1 := below_box w (.cells (List.replicate 16 (Value.int .u8 0)).toArray R.tA)
  have s1 := size_box w (.cells (List.replicate 16 (Value.int .u8 0)).toArray R.tA)
  have t1 := there_box w (List.replicate 16 (Value.int .u8 0)) R.tA
  have b2 := below_box (w.alloc (.cells (List.replicate 16 (Value.int .u8 0)).toArray R.tA)) (.cells (List.replicate 16 (Value.int .u8 0)).toArray R.tA)
  have s2 := size_box (w.alloc (.cells (List.replicate 16 (Value.int .u8 0)).toArray R.tA)) (.cells (List.replicate 16 (Value.int .u8 0)).toArray R.tA)
  have hq : ((w.alloc (.cells (List.replicate 16 (Value.int .u8 0)).toArray R.tA)).alloc (.cells (List.replicate 16 (Value.int .u8 0)).toArray R.tA)).heap[(w.alloc (.cells (List.replicate 16 (Value.int .u8 0)).toArray R.tA)).heap.size]? = some (.cells (List.replicate 16 (Value.int .u8 0)).toArray R.tA (0, 0))  := heap_box _ _
  show RW P 9 _ _ (upd _ 3 (.pointer (some ⟨(w.alloc (.cells (List.replicate 16 (Value.int .u8 0)).toArray R.tA)).heap.size, 0, none⟩))) ((w.alloc (.cells (List.replicate 16 (Value.int .u8 0)).toArray R.tA)).alloc (.cells (List.replicate 16 (Value.int .u8 0)).toArray R.tA))
  rw [s1] at hq ⊢
  generalize (w.alloc (.cells (List.replicate 16 (Value.int .u8 0)).toArray R.tA)) = w1 at b1 s1 t1 b2 s2 hq ⊢
  generalize w1.alloc (.cells (List.replicate 16 (Value.int .u8 0)).toArray R.tA) = w2 at b2 s2 hq ⊢
  have b02 : Below w.heap.size w w2 := b1.trans (b2.mono (by omega))
  have t2 : w2.there w.heap.size 0 16 := by
    have := there_keep t1 (b2.block w.heap.size (by omega))
    simpa using this
  refine RW.sq (RW.gd ok.mo (S := fun _ => True) trivial ?_)
  have bd := b02.trans (drew1_below w.heap.size w2)
  refine RG.q (v := .slice (some ⟨w.heap.size + 1, 0, none⟩) 16 16) (fun _ _ => MR.slArr (p := ⟨w.heap.size + 1, 0, none⟩) hA hU8 (by omega) rfl) ?_
  refine RG.q (v := .pointer (some ⟨rb, 0, none⟩)) (fun _ _ => MR.mv rfl) ?_
  have h2 : RdAt (World.drew1 w2) rb sb st := h.below bd
  refine RG.ca (R := fun v w' => ∃ ad l st', v = .slice ad (List.length l) (List.length l) ∧ Fr (fun _ => False) rb 0 2 (World.drew1 w2) w' ∧ Got (dSpan 16) st l st' ∧ RdAt w' rb sb st' ∧ BytesAt w' (· = sb) ad l) hsp.1 (fun _ => ?_) ?_
  · refine Calls.mono (hsp.2 (World.drew1 w2) rb sb st 16 h2 hne) ?_
    rintro e w' ⟨ad, l, st', rfl, k1, k2, k3, k4, k5⟩
    exact ⟨_, rfl, ⟨ad, l, st', rfl, k1, k2, k3, k5⟩, trivial⟩
  rintro v w3 ⟨ad, l, st', rfl, k1, k2, k3, k5⟩
  have hs2 : (World.drew1 w2).heap.size = w.heap.size + 2 := by show w2.heap.size = _; omega
  have hq3 : w3.heap[w.heap.size + 1]? = some (.cells (List.replicate 16 (Value.int .u8 0)).toArray R.tA (0, 0)) := by
    rw [k1.block (w.heap.size + 1) (by omega) (by omega) (fun x => x)]; exact hq
  obtain ⟨v4, w4, m1, m2, m3, m4⟩ := run_copy16 (T := R.T.u8s) (U := R.T.u8) (lo := w.heap.size) (c := l.length) ok.tk.u8s ok.tk.u8 k5 (by omega) hq3
  refine RG.x (MR.cpBy (by exact m1)) (fun x => x) ?_
  refine RG.nil fun _ => ?_
  have hl16 : (((l ++ List.replicate 16 (0 : UInt8)).take 16).map byteV).length = 16 := by simp
  have t4 : w4.there w.heap.size 0 16 := by
    have t3 : w3.there w.heap.size 0 16 := there_keep (show (World.drew1 w2).there w.heap.size 0 16 from t2) (k1.block _ (by omega) (by omega) (fun x => x))
    exact there_keep t3 (m3 _ (by omega))
  show RW P 9 _ _ _ w4
  refine RW.sq (RW.rg (RL.step (MR.ldRow (b := w.heap.size + 1) (o := 0) (cs := ((l ++ List.replicate 16 (0 : UInt8)).take 16).map byteV) rfl hrow (by rw [hl16]; exact hc) m4) (RL.stA (cs := ((l ++ List.replicate 16 (0 : UInt8)).take 16).map byteV) (b := w.heap.size) (o := 0) rfl rfl (by rw [hl16]; exact hc) (by rw [hl16]; exact t4) (by simp only [List.all_map, List.all_eq_true]; intro b _; rfl) (RL.nil (RW.rt ?_)))))
  have r5 := World.rangeAt_setCells_same w4 w.heap.size 0 (((l ++ List.replicate 16 (0 : UInt8)).take 16).map byteV) (by rw [hl16]; exact t4)
  refine ⟨⟨w.heap.size, 0, none⟩, .agg (((l ++ List.replicate 16 (0 : UInt8)).take 16).map byteV).toArray, rfl, run_loadAt_row hrow (by rw [hl16]; exact hc) r5, ?_⟩
  have b5 : Below w.heap.size w3 (w4.setCells w.heap.size 0 (((l ++ List.replicate 16 (0 : UInt8)).take 16).map byteV)) := below_setCells (Nat.le_refl _) _ _ m2
  have F : Fr (fun _ => False) rb 0 2 w (w4.setCells w.heap.size 0 (((l ++ List.replicate 16 (0 : UInt8)).take 16).map byteV)) :=
    (((Fr.ofBelow bd hrb).trans (k1.wide (fun _ x => x.elim) (Nat.le_refl _) (Nat.le_refl _))).trans (Fr.ofBelowX b5 hrb)).drop (fun k hk => .inr hk)
  have R5 : RdAt (w4.setCells w.heap.size 0 (((l ++ List.replicate 16 (0 : UInt8)).take 16).map byteV)) rb sb st' := by
    by_cases hsb : sb < w.heap.size
    · exact k3.keep (b5.block rb hrb) (b5.block sb hsb)
    · have hst : st' = none := by
        cases st with
        | none => exact Got.out k2
        | some l0 =>
          cases l0 with
          | nil =>
            cases hst' : st' with
            | none => rfl
            | some r => rw [hst'] at k2; simp [Got, dSpan, takeN] at k2
          | cons x xs =>
            obtain ⟨ad0, c0, g1, g2, g3, g4, g5⟩ := h
            obtain ⟨g, o, e1, e2, e3⟩ := g5 0 x rfl
            have := World.block_lt_of_cell? w _ e3
            simp only at this
            omega
      subst hst
      exact ⟨range_keep k3.1 (b5.block rb hrb), there_keep k3.2 (b5.block rb hrb)⟩
  refine ⟨_, .s (some ((l ++ List.replicate 16 0).take 16)), st', rfl, F, ?_, R5, rfl, hl16, ?_, ?_⟩
  rotate_left
  · show List.all (((l ++ List.replicate 16 (0 : UInt8)).take 16).map byteV) _ = true
    simp only [List.all_map, List.all_eq_true]; intro b _; rfl
  rotate_left
  · cases hst' : st' with
    | none =>
      rw [hst'] at k2
      refine Got.failed fun l0 hl0 => ?_
      subst hl0
      refine Dec.map_none ?_
      have : dSpan 16 l0 = none := k2
      unfold dSpan at this
      simpa using this
    | some r =>
      rw [hst'] at k2
      cases st with
      | none => simp [Got] at k2
      | some l0 =>
        have k2' : takeN 16 l0 = some (l, r) := by have : dSpan 16 l0 = some (l, r) := k2; unfold dSpan at this; simpa using this
        have hl : l.length = 16 := by
          unfold takeN at k2'
          split at k2'
          · simp only [Option.some.injEq, Prod.mk.injEq] at k2'
            rw [← k2'.1, List.length_take]; omega
          · simp at k2'
        have : (l ++ List.replicate 16 (0 : UInt8)).take 16 = l := by rw [List.take_append_of_le_length (by omega), List.take_of_length_le (by omega)]
        rw [this]
        exact (Dec.map_of (f := fun l => D.s (some l)) k2' : Dec.map _ (takeN 16) l0 = _)
  · exact ⟨(l ++ List.replicate 16 0).take 16, by simp, rfl, rfl⟩

/-! ### Octets behind their length -/
def cByt (R : RN) : MCode := .sq (.rg [.mv 2 (.c .nslice)]) (.sq (.rg [.mv 4 (.t 0), .ca 5 R.i32 [.t 4], .mv 3 (.t 5)])
  (.sq (.sq (.rg [.mv 6 (.t 3), .bi 7 .eql R.T.i32 (.t 6) (.c (.int .i32 (-1)))]) (.cd 7 (.sq (.rg [.bsl 8 R.T.u8s [], .mv 2 (.t 8)]) .rt) .sk))
  (.sq (.rg [.mv 9 (.t 0), .mv 10 (.t 3), .cv 11 R.T.i32 R.T.int 10, .ca 12 R.span [.t 9, .t 11], .mv 2 (.t 12)]) .rt)))
def cCByt (R : RN) : MCode := .sq (.rg [.mv 2 (.c .nslice)]) (.sq (.rg [.mv 4 (.t 0), .ca 5 R.uv [.t 4], .cv 6 R.T.u32 R.T.int 5, .bi 7 .sub R.T.int (.t 6) (.c (.int .i64 1)), .mv 3 (.t 7)])
  (.sq (.sq (.rg [.mv 8 (.t 3), .bi 9 .eql R.T.int (.t 8) (.c (.int .i64 (-1)))]) (.cd 9 (.sq (.rg [.bsl 10 R.T.u8s [], .mv 2 (.t 10)]) .rt) .sk))
  (.sq (.rg [.mv 11 (.t 0), .mv 12 (.t 3), .ca 13 R.span [.t 11, .t 12], .mv 2 (.t 13)]) .rt)))

theorem I32.wr {n : Int} (h : I32 n) : IntKind.i64.wrap n = n := by obtain ⟨a1, a2⟩ := h; simp [IntKind.wrap, IntKind.signed, IntKind.bits]; omega
theorem beq_dec (a b : Int) : (a == b) = decide (a = b) := by by_cases h : a = b <;> simp [h]

section
variable {P : Program} {R : RN}
theorem byt_ok {f : Nat} (ok : ROK P R) (h32 : R.T.i32 ≠ 0) (hi : RdC P R.i32 (dInt 4) (PlB (fun x => .int .i32 x) I32)) (hsp : SpanC P R.span) (hf : FnIs P f (cByt R) 13 2) : RdC P f (dP .byt false) (PrC .byt) := by
  refine ⟨hf.ent, fun w rb sb st h hne => ?_⟩
  refine hf.runs (args := [.pointer (some ⟨rb, 0, none⟩)]) (by simp) (by omega) ?_
  refine RW.sq (RW.rg (RL.step MR.mv (RL.nil (RW.sq (RW.rg (RL.step (MR.mv (v := .pointer (some ⟨rb, 0, none⟩)) rfl) (RL.rd hi rfl h hne (by rfl) (by decide) ?_)))))))
  rintro v x st1 w1 hF hG hR ⟨rfl, hx⟩
  have hrb1 := hR.lt
  refine RL.step MR.mv (RL.nil (RW.sq (RW.sq (RW.rg (RL.step (MR.mv (v := .int .i32 x) rfl) (RL.step (MR.biE (v := .bool (decide (x = -1))) (by show some (Value.bool (x == -1)) = _; rw [beq_dec])) (RL.nil ?_)))))))
  refine RW.cd rfl (fun e => ?_) (fun e => RW.sk ?_)
  · have e := of_decide_eq_true e
    refine RW.sq (RW.rg (RL.bsl8 (bs := []) ok.tk.u8s ok.tk.u8 rfl (by simp) (RL.step MR.mv (RL.nil (RW.rt ?_)))))
    have b1 := below_box w1 (.cells (([] : List UInt8).map byteV).toArray R.T.u8)
    exact ⟨_, .s (some []), st1, rfl, hF.trans (Fr.ofBelow b1 hrb1), hG.bind (by rw [if_pos e]; exact Got.pure _), hR.below b1, rfl, rfl, rfl, _, _, [], rfl, fun j b hj => by simp at hj, rfl⟩
  have e := of_decide_eq_false e
  refine RW.sq (RW.rg (RL.step (MR.mv (v := .pointer (some ⟨rb, 0, none⟩)) rfl) (RL.step (MR.mv (v := .int .i32 x) rfl) (RL.step (MR.cvI rfl (ok.tk.i32 h32) ok.tk.int) (RL.span (n := x) hsp rfl (by show Value.int .i64 (IntKind.i64.wrap x) = _; rw [hx.wr]) hR hne (by rfl) (by rfl) (by decide) ?_)))))
  intro ad l st2 w2 hF2 hG2 hR2 ha hb
  refine RL.step MR.mv (RL.nil (RW.rt ?_))
  exact ⟨_, .s (some l), st2, rfl, hF.trans hF2, hG.bind (by rw [if_neg e]; exact hG2.map (f := fun l => D.s (some l))), hR2, rfl, rfl, rfl, _, _, l, rfl, hb.mono (fun _ h => .inl h) (fun _ _ => rfl), rfl⟩

theorem cbyt_ok {f : Nat} (ok : ROK P R) (h32 : R.T.u32 ≠ 0) (hi : RdC P R.uv dUv (PlB (fun x => .int .u32 (x : Nat)) (· < 4294967296))) (hsp : SpanC P R.span) (hf : FnIs P f (cCByt R) 14 2) : RdC P f (dP .byt true) (PrC .byt) := by
  refine ⟨hf.ent, fun w rb sb st h hne => ?_⟩
  refine hf.runs (args := [.pointer (some ⟨rb, 0, none⟩)]) (by simp) (by omega) ?_
  refine RW.sq (RW.rg (RL.step MR.mv (RL.nil (RW.sq (RW.rg (RL.step (MR.mv (v := .pointer (some ⟨rb, 0, none⟩)) rfl) (RL.rd hi rfl h hne (by rfl) (by decide) ?_)))))))
  rintro v x st1 w1 hF hG hR ⟨rfl, hx⟩
  have hrb1 := hR.lt
  refine RL.step (MR.cvI rfl (ok.tk.u32 h32) ok.tk.int) (RL.step (MR.biE (v := .int .i64 ((x : Int) - 1)) (by show some (Value.int .i64 (IntKind.i64.wrap (IntKind.i64.wrap (x : Int) - 1))) = _; rw [u32_w hx])) (RL.step MR.mv (RL.nil (RW.sq (RW.sq (RW.rg (RL.step (MR.mv (v := .int .i64 ((x : Int) - 1)) rfl) (RL.step (MR.biE (v := .bool (decide ((x : Int) - 1 = -1))) (by show some (Value.bool (((x : Int) - 1) == -1)) = _; rw [beq_dec])) (RL.nil ?_)))))))))
  refine RW.cd rfl (fun e => ?_) (fun e => RW.sk ?_)
  · have e := of_decide_eq_true e
    refine RW.sq (RW.rg (RL.bsl8 (bs := []) ok.tk.u8s ok.tk.u8 rfl (by simp) (RL.step MR.mv (RL.nil (RW.rt ?_)))))
    have b1 := below_box w1 (.cells (([] : List UInt8).map byteV).toArray R.T.u8)
    exact ⟨_, .s (some []), st1, rfl, hF.trans (Fr.ofBelow b1 hrb1), (hG.map (f := fun n : Nat => (n : Int) - 1)).bind (by rw [if_pos e]; exact Got.pure _), hR.below b1, rfl, rfl, rfl, _, _, [], rfl, fun j b hj => by simp at hj, rfl⟩
  have e := of_decide_eq_false e
  refine RW.sq (RW.rg (RL.step (MR.mv (v := .pointer (some ⟨rb, 0, none⟩)) rfl) (RL.step (MR.mv (v := .int .i64 ((x : Int) - 1)) rfl) (RL.span (n := (x : Int) - 1) hsp rfl rfl hR hne (by rfl) (by rfl) (by decide) ?_))))
  intro ad l st2 w2 hF2 hG2 hR2 ha hb
  refine RL.step MR.mv (RL.nil (RW.rt ?_))
  exact ⟨_, .s (some l), st2, rfl, hF.trans hF2, (hG.map (f := fun n : Nat => (n : Int) - 1)).bind (by rw [if_neg e]; exact hG2.map (f := fun l => D.s (some l))), hR2, rfl, rfl, rfl, _, _, l, rfl, hb.mono (fun _ h => .inl h) (fun _ _ => rfl), rfl⟩

/-! ### Octets that may be null; numbers with a point -/
def cNByt (R : RN) : MCode := .sq (.rg [.mv 2 (.c .nslice)]) (.sq (.rg [.mv 5 (.t 0), .ca 6 R.i32 [.t 5], .mv 3 (.t 6)])
  (.sq (.sq (.rg [.mv 7 (.t 3), .bi 8 .lss R.T.i32 (.t 7) (.c (.int .i32 0))]) (.cd 8 (.sq (.rg [.mv 2 (.c .nslice)]) .rt) .sk))
  (.sq (.rg [.mv 9 (.t 0), .mv 10 (.t 3), .cv 11 R.T.i32 R.T.int 10, .ca 12 R.span [.t 9, .t 11], .mv 4 (.t 12)]) (.sq (.rg [.mv 13 (.t 4), .mv 2 (.t 13)]) .rt))))
def cCNByt (R : RN) : MCode := .sq (.rg [.mv 2 (.c .nslice)]) (.sq (.rg [.mv 5 (.t 0), .ca 6 R.uv [.t 5], .cv 7 R.T.u32 R.T.int 6, .bi 8 .sub R.T.int (.t 7) (.c (.int .i64 1)), .mv 3 (.t 8)])
  (.sq (.sq (.rg [.mv 9 (.t 3), .bi 10 .lss R.T.int (.t 9) (.c (.int .i64 0))]) (.cd 10 (.sq (.rg [.mv 2 (.c .nslice)]) .rt) .sk))
  (.sq (.rg [.mv 11 (.t 0), .mv 12 (.t 3), .ca 13 R.span [.t 11, .t 12], .mv 4 (.t 13)]) (.sq (.rg [.mv 14 (.t 4), .mv 2 (.t 14)]) .rt))))

theorem nbyt_fin {w : World} {sb : Nat} {ad : Option Addr} {l : List UInt8} {st2 : Option (List UInt8)} (ha : okAd ad) (hb : BytesAt w (· = sb) ad l) (h1 : st2 ≠ none → ad ≠ none) (h2 : st2 = none → ad = none ∧ l = []) : ∃ d, (st2 ≠ none → d = D.s (some l)) ∧ PrC .nbyt w (Rb w sb) (.slice ad l.length l.length) d := by
  cases st2 with
  | none =>
    obtain ⟨rfl, rfl⟩ := h2 rfl
    exact ⟨.s none, fun h => absurd rfl h, rfl, rfl, rfl, .inl ⟨rfl, rfl⟩⟩
  | some r =>
    cases ad with
    | none => exact absurd rfl (h1 (by simp))
    | some a => exact ⟨.s (some l), fun _ => rfl, rfl, rfl, rfl, .inr ⟨a, _, l, rfl, hb.mono (fun _ h => .inl h) (fun _ _ => rfl), rfl⟩⟩

theorem Got.chg {α : Type} {d : Dec α} {st st' : Option (List UInt8)} {x y : α} (h : Got d st x st') (hy : st' ≠ none → y = x) : Got d st y st' := by
  cases st' with
  | none => exact h
  | some r => rw [hy (by simp)]; exact h

theorem nbyt_ok {f : Nat} (ok : ROK P R) (h32 : R.T.i32 ≠ 0) (hi : RdCS P R.i32 (dInt 4) (PlB (fun x => .int .i32 x) I32)) (hsp : SpanCS P R.span) (hf : FnIs P f (cNByt R) 14 2) : RdC P f (dP .nbyt false) (PrC .nbyt) := by
  refine ⟨hf.ent, fun w rb sb st h hne => ?_⟩
  refine hf.runs (args := [.pointer (some ⟨rb, 0, none⟩)]) (by simp) (by omega) ?_
  refine RW.sq (RW.rg (RL.step MR.mv (RL.nil (RW.sq (RW.rg (RL.step (MR.mv (v := .pointer (some ⟨rb, 0, none⟩)) rfl) (RL.rdS hi rfl h hne (by rfl) (by decide) ?_)))))))
  rintro v x st1 w1 hF hG hR ⟨rfl, hx⟩ hA
  refine RL.step MR.mv (RL.nil (RW.sq (RW.sq (RW.rg (RL.step (MR.mv (v := .int .i32 x) rfl) (RL.step (MR.biE (v := .bool (decide (x < 0))) rfl) (RL.nil ?_)))))))
  refine RW.cd rfl (fun e => ?_) (fun e => RW.sk ?_)
  · have e := of_decide_eq_true e
    refine RW.sq (RW.rg (RL.step MR.mv (RL.nil (RW.rt ?_))))
    exact ⟨_, .s none, st1, rfl, hF, hG.bind (by rw [if_pos e]; exact Got.pure _), hR, rfl, rfl, rfl, .inl ⟨rfl, rfl⟩⟩
  have e := of_decide_eq_false e
  refine RW.sq (RW.rg (RL.step (MR.mv (v := .pointer (some ⟨rb, 0, none⟩)) rfl) (RL.step (MR.mv (v := .int .i32 x) rfl) (RL.step (MR.cvI rfl (ok.tk.i32 h32) ok.tk.int) (RL.spanS (n := x) hsp rfl (by show Value.int .i64 (IntKind.i64.wrap x) = _; rw [hx.wr]) hR hne (by rfl) (by rfl) (by decide) ?_)))))
  intro ad l st2 w2 hF2 hG2 hR2 ha hb hs1 hs2
  obtain ⟨d, hd1, hd2⟩ := nbyt_fin (st2 := st2) ha hb (fun hn => hs1 (hA (by rintro rfl; exact hn hG2.out)) hn) hs2
  refine RL.step MR.mv (RL.nil (RW.sq (RW.rg (RL.step (MR.mv (v := .slice ad l.length l.length) rfl) (RL.step MR.mv (RL.nil (RW.rt ?_)))))))
  have hd2' : PrC .nbyt w2 (Rb w sb) (.slice ad l.length l.length) d := by
    obtain ⟨a1, a2, a3, a4⟩ := hd2
    refine ⟨a1, a2, a3, RepP.mono a4 (fun b hb => hb.imp id (fun hb => ?_)) (fun _ _ => rfl)⟩
    exact Nat.le_trans (Nat.le_trans hF.size hF2.size) hb
  have hG3 : Got (dP .nbyt false) st (D.s (some l)) st2 := hG.bind (by rw [if_neg e]; exact hG2.map (f := fun l => D.s (some l)))
  exact ⟨_, d, st2, rfl, hF.trans hF2, hG3.chg hd1, hR2, hd2'⟩

theorem cnbyt_ok {f : Nat} (ok : ROK P R) (h32 : R.T.u32 ≠ 0) (hi : RdCS P R.uv dUv (PlB (fun x => .int .u32 (x : Nat)) (· < 4294967296))) (hsp : SpanCS P R.span) (hf : FnIs P f (cCNByt R) 15 2) : RdC P f (dP .nbyt true) (PrC .nbyt) := by
  refine ⟨hf.ent, fun w rb sb st h hne => ?_⟩
  refine hf.runs (args := [.pointer (some ⟨rb, 0, none⟩)]) (by simp) (by omega) ?_
  refine RW.sq (RW.rg (RL.step MR.mv (RL.nil (RW.sq (RW.rg (RL.step (MR.mv (v := .pointer (some ⟨rb, 0, none⟩)) rfl) (RL.rdS hi rfl h hne (by rfl) (by decide) ?_)))))))
  rintro v x st1 w1 hF hG hR ⟨rfl, hx⟩ hA
  refine RL.step (MR.cvI rfl (ok.tk.u32 h32) ok.tk.int) (RL.step (MR.biE (v := .int .i64 ((x : Int) - 1)) (by show some (Value.int .i64 (IntKind.i64.wrap (IntKind.i64.wrap (x : Int) - 1))) = _; rw [u32_w hx])) (RL.step MR.mv (RL.nil (RW.sq (RW.sq (RW.rg (RL.step (MR.mv (v := .int .i64 ((x : Int) - 1)) rfl) (RL.step (MR.biE (v := .bool (decide ((x : Int) - 1 < 0))) rfl) (RL.nil ?_)))))))))
  refine RW.cd rfl (fun e => ?_) (fun e => RW.sk ?_)
  · have e := of_decide_eq_true e
    refine RW.sq (RW.rg (RL.step MR.mv (RL.nil (RW.rt ?_))))
    exact ⟨_, .s none, st1, rfl, hF, (hG.map (f := fun n : Nat => (n : Int) - 1)).bind (by rw [if_pos e]; exact Got.pure _), hR, rfl, rfl, rfl, .inl ⟨rfl, rfl⟩⟩
  have e := of_decide_eq_false e
  refine RW.sq (RW.rg (RL.step (MR.mv (v := .pointer (some ⟨rb, 0, none⟩)) rfl) (RL.step (MR.mv (v := .int .i64 ((x : Int) - 1)) rfl) (RL.spanS (n := (x : Int) - 1) hsp rfl rfl hR hne (by rfl) (by rfl) (by decide) ?_))))
  intro ad l st2 w2 hF2 hG2 hR2 ha hb hs1 hs2
  obtain ⟨d, hd1, hd2⟩ := nbyt_fin (st2 := st2) ha hb (fun hn => hs1 (hA (by rintro rfl; exact hn hG2.out)) hn) hs2
  refine RL.step MR.mv (RL.nil (RW.sq (RW.rg (RL.step (MR.mv (v := .slice ad l.length l.length) rfl) (RL.step MR.mv (RL.nil (RW.rt ?_)))))))
  have hd2' : PrC .nbyt w2 (Rb w sb) (.slice ad l.length l.length) d := by
    obtain ⟨a1, a2, a3, a4⟩ := hd2
    refine ⟨a1, a2, a3, RepP.mono a4 (fun b hb => hb.imp id (fun hb => ?_)) (fun _ _ => rfl)⟩
    exact Nat.le_trans (Nat.le_trans hF.size hF2.size) hb
  have hG3 : Got (dP .nbyt true) st (D.s (some l)) st2 := (hG.map (f := fun n : Nat => (n : Int) - 1)).bind (by rw [if_neg e]; exact hG2.map (f := fun l => D.s (some l)))
  exact ⟨_, d, st2, rfl, hF.trans hF2, hG3.chg hd1, hR2, hd2'⟩
end
end Go.Kx
namespace Go.Kx
open Go.RowKit
set_option linter.unusedVariables false
set_option linter.unusedSimpArgs false

/-- The reader's functions (a function's number 0: the program lacks it). -/
def rkB (P : Program) (R : RN) (G : TG) : List Bool := [(rokB P R).all id, (tgrB P G).all id,
  orNo R.be16 (isFn P R.be16 (cBe R R.T.u16 2 .u16) 18 4 && yes R.T.u16), orNo R.be32 (isFn P R.be32 (cBe R R.T.u32 4 .u32) 30 4 && yes R.T.u32), orNo R.be64 (isFn P R.be64 (cBe R R.T.u64 8 .u64) 54 4 && yes R.T.u64),
  orNo R.i16 (isFn P R.i16 (cNumC R 2 R.be16 R.T.u16 R.T.i16 .i16) 32 2 && yes R.be16 && yes R.T.u16 && yes R.T.i16), orNo R.i32 (isFn P R.i32 (cNumC R 4 R.be32 R.T.u32 R.T.i32 .i32) 32 2 && yes R.be32 && yes R.T.u32 && yes R.T.i32),
  orNo R.r64 (isFn P R.r64 (cNumU R 8 R.be64 .u64) 31 2 && yes R.be64), orNo R.i64 (isFn P R.i64 (cI64 R) 6 2 && yes R.r64 && yes R.T.u64 && yes R.T.i64), orNo R.bool (isFn P R.bool (cBool R) 32 2),
  orNo R.span (isFn P R.span (cSpan R) 40 4), orNo R.uvd (isFn2 P R.uvd (cUvd R) 87 2 3 && yes R.T.u32), orNo R.uv (isFn P R.uv (cRUv R) 31 2 && yes R.uvd && yes R.T.u32)]

theorem dNat_lt {k : Nat} {l r : List UInt8} {x : Nat} (h : dNat k l = some (x, r)) : x < 256 ^ k := by
  unfold dNat Dec.map at h
  cases ht : takeN k l with
  | none => simp [ht] at h
  | some p =>
    simp only [ht, Option.map_some, Option.some.injEq, Prod.mk.injEq] at h
    obtain ⟨rfl, _⟩ := h
    unfold takeN at ht
    split at ht
    · simp only [Option.some.injEq] at ht
      subst ht
      refine Nat.lt_of_lt_of_le (beVal_lt _) (Nat.pow_le_pow_right (by omega) (by simp; omega))
    · simp at ht

theorem rd_i16 {P : Program} {R : RN} {G : TG} (h : (rkB P R G).all id = true) : R.i16 ≠ 0 → RdC P R.i16 (dInt 2) (PlB (fun x => .int .i16 x) I16) := by
  simp only [rkB, List.all_cons, List.all_nil, id_eq, Bool.and_true, Bool.and_eq_true] at h
  obtain ⟨h1, h2, h3, h4, h5, h6, _⟩ := h
  intro e
  have ok := rok_of h1
  have := orNo_of h6 e
  simp only [Bool.and_eq_true] at this
  obtain ⟨⟨⟨a1, a2⟩, a3⟩, a4⟩ := this
  have hb := orNo_of h3 (yes_of a2)
  simp only [Bool.and_eq_true] at hb
  have hbe : BeC P R.be16 2 .u16 := be_ok ok ku16 (ok.tk.u16 (yes_of a3)) (by omega) (FnIs.of hb.1)
  exact (numC_ok ok hbe (by omega) (ok.tk.u16 (yes_of a3)) (ok.tk.i16 (yes_of a4)) (fun x hx => wrap_sgn16 hx) (FnIs.of a1)).c (fun l x r hd => by
    have := dInt_some (by omega) hd
    simp only [Nat.reducePow, Nat.reduceDiv] at this
    exact ⟨by omega, by omega⟩) ⟨by show (-32768 : Int) ≤ 0; omega, by show (0 : Int) ≤ 32767; omega⟩

theorem rd_i32S {P : Program} {R : RN} {G : TG} (h : (rkB P R G).all id = true) : R.i32 ≠ 0 → RdCS P R.i32 (dInt 4) (PlB (fun x => .int .i32 x) I32) := by
  simp only [rkB, List.all_cons, List.all_nil, id_eq, Bool.and_true, Bool.and_eq_true] at h
  obtain ⟨h1, h2, h3, h4, h5, h6, h7, _⟩ := h
  intro e
  have ok := rok_of h1
  have := orNo_of h7 e
  simp only [Bool.and_eq_true] at this
  obtain ⟨⟨⟨a1, a2⟩, a3⟩, a4⟩ := this
  have hb := orNo_of h4 (yes_of a2)
  simp only [Bool.and_eq_true] at hb
  have hbe : BeC P R.be32 4 .u32 := be_ok ok ku32 (ok.tk.u32 (yes_of a3)) (by omega) (FnIs.of hb.1)
  exact (numC_okS ok hbe (by omega) (ok.tk.u32 (yes_of a3)) (ok.tk.i32 (yes_of a4)) (fun x hx => wrap_sgn32 hx) (FnIs.of a1)).c (fun l x r hd => by
    have := dInt_some (by omega) hd
    simp only [Nat.reducePow, Nat.reduceDiv] at this
    exact ⟨by omega, by omega⟩) ⟨by show (-2147483648 : Int) ≤ 0; omega, by show (0 : Int) ≤ 2147483647; omega⟩

theorem rd_i32 {P : Program} {R : RN} {G : TG} (h : (rkB P R G).all id = true) : R.i32 ≠ 0 → RdC P R.i32 (dInt 4) (PlB (fun x => .int .i32 x) I32) := fun e => (rd_i32S h e).n

theorem rd_uvS {P : Program} {R : RN} {G : TG} (h : (rkB P R G).all id = true) : R.uv ≠ 0 → RdCS P R.uv dUv (PlB (fun x => .int .u32 (x : Nat)) (· < 4294967296)) := by
  simp only [rkB, List.all_cons, List.all_nil, id_eq, Bool.and_true, Bool.and_eq_true] at h
  obtain ⟨h1, _, _, _, _, _, _, _, _, _, _, h12, h13⟩ := h
  intro e
  have ok := rok_of h1
  have a := orNo_of h13 e
  simp only [Bool.and_eq_true] at a
  have b := orNo_of h12 (yes_of a.1.2)
  simp only [Bool.and_eq_true] at b
  exact ruv_okS ok (uvd_ok ok (yes_of b.2) (FnIs2.of b.1)) (FnIs.of a.1.1)

theorem rd_uv {P : Program} {R : RN} {G : TG} (h : (rkB P R G).all id = true) : R.uv ≠ 0 → RdC P R.uv dUv (PlB (fun x => .int .u32 (x : Nat)) (· < 4294967296)) := fun e => (rd_uvS h e).n

theorem rd_i64 {P : Program} {R : RN} {G : TG} (h : (rkB P R G).all id = true) : R.i64 ≠ 0 → RdC P R.i64 (dInt 8) (PlB (fun x => .int .i64 x) (fun n => -9223372036854775808 ≤ n ∧ n ≤ 9223372036854775807)) := by
  simp only [rkB, List.all_cons, List.all_nil, id_eq, Bool.and_true, Bool.and_eq_true] at h
  obtain ⟨h1, h2, h3, h4, h5, h6, h7, h8, h9, _⟩ := h
  intro e
  have ok := rok_of h1
  have a := orNo_of h9 e
  simp only [Bool.and_eq_true] at a
  obtain ⟨⟨⟨a1, a2⟩, a3⟩, a4⟩ := a
  have b := orNo_of h8 (yes_of a2)
  simp only [Bool.and_eq_true] at b
  have c := orNo_of h5 (yes_of b.2)
  simp only [Bool.and_eq_true] at c
  have hbe : BeC P R.be64 8 .u64 := be_ok ok ku64 (ok.tk.u64 (yes_of c.2)) (by omega) (FnIs.of c.1)
  exact (i64_ok ok (yes_of a3) (yes_of a4) (numU_ok ok hbe (by omega) (FnIs.of b.1)) (FnIs.of a1)).c (fun l x r hd => by
    have := dInt_some (by omega) hd
    simp only [Nat.reducePow, Nat.reduceDiv] at this
    exact ⟨by omega, by omega⟩) ⟨by show (-9223372036854775808 : Int) ≤ 0; omega, by show (0 : Int) ≤ 9223372036854775807; omega⟩

theorem rd_spanS {P : Program} {R : RN} {G : TG} (h : (rkB P R G).all id = true) : R.span ≠ 0 → SpanCS P R.span := by
  simp only [rkB, List.all_cons, List.all_nil, id_eq, Bool.and_true, Bool.and_eq_true] at h
  obtain ⟨h1, _, _, _, _, _, _, _, _, _, h11, _⟩ := h
  intro e
  exact span_okS (rok_of h1) (FnIs.of (orNo_of h11 e))
theorem rd_span {P : Program} {R : RN} {G : TG} (h : (rkB P R G).all id = true) : R.span ≠ 0 → SpanC P R.span := fun e => (rd_spanS h e).n
theorem rd_r64 {P : Program} {R : RN} {G : TG} (h : (rkB P R G).all id = true) : R.r64 ≠ 0 → RdC P R.r64 (dNat 8) (PlB (fun x => .int .u64 (x : Nat)) (· < 18446744073709551616)) := by
  simp only [rkB, List.all_cons, List.all_nil, id_eq, Bool.and_true, Bool.and_eq_true] at h
  obtain ⟨h1, h2, h3, h4, h5, h6, h7, h8, h9, _⟩ := h
  intro e
  have ok := rok_of h1
  have b := orNo_of h8 e
  simp only [Bool.and_eq_true] at b
  have c := orNo_of h5 (yes_of b.2)
  simp only [Bool.and_eq_true] at c
  have hbe : BeC P R.be64 8 .u64 := be_ok ok ku64 (ok.tk.u64 (yes_of c.2)) (by omega) (FnIs.of c.1)
  exact (numU_ok ok hbe (by omega) (FnIs.of b.1)).c (fun l x r hd => dNat_lt hd) (by decide)
end Go.Kx
namespace Go.Kx
open Go.RowKit
set_option linter.unusedVariables false
set_option linter.unusedSimpArgs false

def cI8 (R : RN) : MCode :=
  .sq (.rg [.mv 2 (.c (.int .i8 0))]) (.sq (.sq (.rg (headR R 1 (.int .i8 0))) (.cd 9 (failM R (.int .i8 0) 2 10) .sk))
    (.sq (.rg [.mv 16 (.t 0), .nc 17 16, .fa 18 R.tR 17 0, .ld 19 R.T.u8s 18, .iak 20 R.T.u8s 19 0, .ld 21 R.T.u8 20, .mv 3 (.t 21)])
    (.sq (.rg (nextR R 1 22)) (.sq (.rg [.mv 30 (.t 3), .cv 31 R.T.u8 R.T.i8 30, .mv 2 (.t 31)]) .rt))))

theorem wrap_sgn8 {x : Nat} (h : x < 256) : IntKind.i8.wrap (x : Int) = sgn 1 x := by
  unfold sgn
  simp [IntKind.wrap, IntKind.signed, IntKind.bits]
  split <;> omega

theorem i8_ok {P : Program} {R : RN} {f : Nat} (ok : ROK P R) (h8 : R.T.i8 ≠ 0) (hf : FnIs P f (cI8 R) 32 2) : RdC P f (dInt 1) (PlB (fun x => .int .i8 x) (fun n => -128 ≤ n ∧ n ≤ 127)) := by
  refine ⟨hf.ent, fun w rb sb st h hne => ?_⟩
  refine hf.runs (args := [.pointer (some ⟨rb, 0, none⟩)]) (by simp) (by omega) ?_
  refine RW.sq (RW.rg (RL.step MR.mv (RL.nil (RW.sq (head_ok (n := 1) ok h rfl (by omega) (by omega) (fun hlt ρ' w' g1 g2 g3 => ?_) (fun l hl hnl ρ1 hρ => ?_))))))
  · refine ⟨_, 0, none, rfl, g3, Got.failed (fun l hl => ?_), g2, g1, by omega, by omega⟩
    subst hl; exact Dec.map_none (Dec.map_none (takeN_none hlt))
  · subst hl
    obtain ⟨y, hy⟩ : ∃ y, l[0]? = some y := ⟨_, List.getElem?_eq_getElem (by omega)⟩
    obtain ⟨ad, c, r1, r2, r3, r4, r5⟩ := h
    obtain ⟨g, o, rfl, hc, hlt⟩ := byte_at r5 hy
    show RW P 32 _ _ ρ1 w
    have q0 : ρ1 0 = .pointer (some ⟨rb, 0, none⟩) := by rw [hρ 0 (by omega)]; rfl
    refine RW.sq (RW.rg (RL.step (MR.mv q0) (RL.step (MR.nc rfl) (RL.step (MR.fa rfl ok.f0) (RL.step (MR.ld rfl ok.ps (r1 0 _ rfl)) (RL.step (MR.iak (sz := 1) ok.tk.u8s ok.cu rfl hlt) (RL.step (MR.ld rfl ok.pu hc)
      (RL.step MR.mv (RL.nil ?_)))))))))
    refine RW.sq (RW.rg (next_ok ok ⟨_, c, r1, r2, r3, r4, r5⟩ hne hnl q0 (by omega) (by omega) fun ρ2 w2 k1 k2 k3 => ?_))
    refine RW.sq (RW.rg (RL.step (MR.mv (v := .int .u8 (y.toNat : Int)) (by show ρ2 3 = _; rw [k1 3 (by omega)]; rfl)) (RL.step (MR.cvI rfl ok.tk.u8i (ok.tk.i8 h8)) (RL.step MR.mv (RL.nil (RW.rt ?_))))))
    have hbv : beVal (l.take 1) = y.toNat := by
      cases l with
      | nil => simp at hy
      | cons a l => simp at hy; subst hy; simp [beVal]
    have hy8 := y.toNat_lt
    refine ⟨_, sgn 1 y.toNat, some (l.drop 1), rfl, k3, ?_, k2, ?_, ?_, ?_⟩
    · show dInt 1 l = _
      have := Dec.map_of (f := sgn 1) (Dec.map_of (f := beVal) (takeN_yes hnl))
      rw [hbv] at this
      exact this
    · show Value.int .i8 (IntKind.i8.wrap (y.toNat : Int)) = _
      rw [wrap_sgn8 (by omega)]
    · show (-128 : Int) ≤ sgn 1 y.toNat; unfold sgn; split <;> omega
    · show sgn 1 y.toNat ≤ 127; unfold sgn; split <;> omega

/-- Texts, lengths, tags; what has no contract yet is not there. -/
def rk2B (P : Program) (R : RN) (G : TG) : List Bool := [
  orNo R.str (isFn P R.str (cStr R) 11 2 && yes R.T.str && yes R.T.i16 && yes R.i16 && yes R.span),
  orNo R.cstr (isFn P R.cstr (cCStr R) 12 2 && yes R.T.str && yes R.T.u32 && yes R.uv && yes R.span),
  orNo R.nstr (isFn P R.nstr (cNStr R) 14 2 && yes R.T.str && yes R.T.i16 && yes R.i16 && yes R.span && zOneB P R.T.str && cellsB P R.T.str 1),
  orNo R.cnstr (isFn P R.cnstr (cCNStr R) 15 2 && yes R.T.str && yes R.T.u32 && yes R.uv && yes R.span && zOneB P R.T.str && cellsB P R.T.str 1),
  orNo R.alen (isFn P R.alen (cALen R) 21 2 && yes R.T.i32 && yes R.i32),
  orNo R.calen (isFn P R.calen (cCALen R) 23 2 && yes R.T.i32 && yes R.T.u32 && yes R.uv),
  orNo R.okf (isFn P R.okf (cOk R) 8 2), isFn P R.compl (cCompl R) 8 2,
  orNo G.fRead (isFnC P G.fRead (cReadTags R G) 24 2 G.tSt && isFn0 P G.fSet (cTagSet G) 21 && yes R.T.u32 && yes R.uv && yes R.span),
  orNo R.u16 (isFn P R.u16 (cNumU R 2 R.be16 .u16) 31 2 && yes R.be16 && yes R.T.u16),
  orNo R.i8 (isFn P R.i8 (cI8 R) 32 2 && yes R.T.i8), orNo R.byt (isFn P R.byt (cByt R) 13 2 && yes R.T.i32 && yes R.i32 && yes R.span), orNo R.cbyt (isFn P R.cbyt (cCByt R) 14 2 && yes R.T.u32 && yes R.uv && yes R.span), orNo R.nbyt (isFn P R.nbyt (cNByt R) 14 2 && yes R.T.i32 && yes R.i32 && yes R.span), orNo R.cnbyt (isFn P R.cnbyt (cCNByt R) 15 2 && yes R.T.u32 && yes R.uv && yes R.span),
  orNo R.uuid (isFnC P R.uuid (cUuidR R) 9 2 R.tA && yes R.span && arrOf P R.tA 16 R.T.u8 && rowTy P R.tA && cellsB P R.tA 16 && zeroIs P R.tA (List.replicate 16 (.int .u8 0)))]

/-- What is asked of the function that reads a number with a point, if the program has it. -/
def F64R (P : Program) (R : RN) : Prop := R.f64 ≠ 0 → ∀ flex, RdC P R.f64 (dP .f64 flex) (PrC .f64)
theorem f64r_none {P : Program} {R : RN} (h : R.f64 = 0) : F64R P R := fun e => absurd h e

theorem rd_u16 {P : Program} {R : RN} {G : TG} (h : (rkB P R G).all id = true) (e : R.be16 ≠ 0) (h16 : R.T.u16 ≠ 0) (hf : FnIs P R.u16 (cNumU R 2 R.be16 .u16) 31 2) : RdC P R.u16 (dNat 2) (PlB (fun x => .int .u16 (x : Nat)) (· < 65536)) := by
  simp only [rkB, List.all_cons, List.all_nil, id_eq, Bool.and_true, Bool.and_eq_true] at h
  obtain ⟨h1, h2, h3, _⟩ := h
  have ok := rok_of h1
  have hb := orNo_of h3 e
  simp only [Bool.and_eq_true] at hb
  have hbe : BeC P R.be16 2 .u16 := be_ok ok ku16 (ok.tk.u16 h16) (by omega) (FnIs.of hb.1)
  exact (numU_ok ok hbe (by omega) hf).c (fun l x r hd => dNat_lt hd) (by decide)

theorem nbz {n : Nat} {p : Prop} (e : Nat.beq n 0 = true) (hn : n ≠ 0) : p := absurd (Nat.eq_of_beq_eq_true e) hn

theorem rk_of {P : Program} {R : RN} {G : TG} (h : (rkB P R G).all id = true) (h2 : (rk2B P R G).all id = true) (hfl : F64R P R) : RKOK P R G := by
  have hh := h
  simp only [rkB, List.all_cons, List.all_nil, id_eq, Bool.and_true, Bool.and_eq_true] at hh
  obtain ⟨k1, k2, _, _, _, _, _, _, _, k10, _⟩ := hh
  have ok := rok_of k1
  have tg := tgr_of k2
  simp only [rk2B, List.all_cons, List.all_nil, id_eq, Bool.and_true, Bool.and_eq_true] at h2
  obtain ⟨t1, t2, t3, t4, t5, t6, t7, t8, t9, t10, z1, z2, z3, z4, z5, z6⟩ := h2
  refine ⟨ok, tg, fun k flex e => ?_, fun e => ?_, fun e => ?_, fun e => okf_ok ok (FnIs.of (orNo_of t7 e)), compl_ok ok (FnIs.of t8), fun e => ?_⟩
  · cases k <;> simp only [RN.fn] at e ⊢
    case i8 =>
      have := orNo_of z1 e
      simp only [Bool.and_eq_true] at this
      refine (i8_ok ok (yes_of this.2) (FnIs.of this.1)).map fun w F v x hx => ?_
      obtain ⟨rfl, a, b⟩ := hx
      exact ⟨rfl, rfl, rfl, x, rfl, rfl, a, b⟩
    case i16 =>
      refine (rd_i16 h e).map fun w F v x hx => ?_
      obtain ⟨rfl, a, b⟩ := hx
      exact ⟨rfl, rfl, rfl, x, rfl, rfl, a, b⟩
    case u16 =>
      have := orNo_of t10 e
      simp only [Bool.and_eq_true] at this
      refine (rd_u16 h (yes_of this.1.2) (yes_of this.2) (FnIs.of this.1.1)).map fun w F v x hx => ?_
      obtain ⟨rfl, a⟩ := hx
      exact ⟨rfl, rfl, rfl, _, rfl, rfl, by omega, by omega⟩
    case i32 =>
      refine (rd_i32 h e).map fun w F v x hx => ?_
      obtain ⟨rfl, a, b⟩ := hx
      exact ⟨rfl, rfl, rfl, x, rfl, rfl, a, b⟩
    case i64 =>
      refine (rd_i64 h e).map fun w F v x hx => ?_
      obtain ⟨rfl, a, b⟩ := hx
      exact ⟨rfl, rfl, rfl, x, rfl, rfl, a, b⟩
    case uuid =>
      have := orNo_of z6 e
      simp only [Bool.and_eq_true] at this
      obtain ⟨⟨⟨⟨⟨a1, a2⟩, a3⟩, a4⟩, a5⟩, a6⟩ := this
      exact uuid_ok ok a3 a4 a5 a6 (rd_span h (yes_of a2)) (FnIsC.of a1)
    case bool =>
      exact bool_ok ok flex (FnIs.of (orNo_of k10 e))
    case f64 =>
      exact hfl e flex
    case str =>
      cases flex <;> simp only [if_true, if_false, Bool.false_eq_true] at e ⊢
      · have := orNo_of t1 e
        simp only [Bool.and_eq_true] at this
        obtain ⟨⟨⟨⟨a1, a2⟩, a3⟩, a4⟩, a5⟩ := this
        exact str_ok ok (yes_of a2) (yes_of a3) (rd_i16 h (yes_of a4)) (rd_span h (yes_of a5)) (FnIs.of a1)
      · have := orNo_of t2 e
        simp only [Bool.and_eq_true] at this
        obtain ⟨⟨⟨⟨a1, a2⟩, a3⟩, a4⟩, a5⟩ := this
        exact cstr_ok ok (yes_of a2) (yes_of a3) (rd_uv h (yes_of a4)) (rd_span h (yes_of a5)) (FnIs.of a1)
    case nstr =>
      cases flex <;> simp only [if_true, if_false, Bool.false_eq_true] at e ⊢
      · have := orNo_of t3 e
        simp only [Bool.and_eq_true] at this
        obtain ⟨⟨⟨⟨⟨⟨a1, a2⟩, a3⟩, a4⟩, a5⟩, a6⟩, a7⟩ := this
        exact nstr_ok ok (yes_of a2) (yes_of a3) a6 a7 (rd_i16 h (yes_of a4)) (rd_span h (yes_of a5)) (FnIs.of a1)
      · have := orNo_of t4 e
        simp only [Bool.and_eq_true] at this
        obtain ⟨⟨⟨⟨⟨⟨a1, a2⟩, a3⟩, a4⟩, a5⟩, a6⟩, a7⟩ := this
        exact cnstr_ok ok (yes_of a2) (yes_of a3) a6 a7 (rd_uv h (yes_of a4)) (rd_span h (yes_of a5)) (FnIs.of a1)
    case byt =>
      cases flex <;> simp only [if_true, if_false, Bool.false_eq_true] at e ⊢
      · have := orNo_of z2 e
        simp only [Bool.and_eq_true] at this
        obtain ⟨⟨⟨a1, a2⟩, a3⟩, a4⟩ := this
        exact byt_ok ok (yes_of a2) (rd_i32 h (yes_of a3)) (rd_span h (yes_of a4)) (FnIs.of a1)
      · have := orNo_of z3 e
        simp only [Bool.and_eq_true] at this
        obtain ⟨⟨⟨a1, a2⟩, a3⟩, a4⟩ := this
        exact cbyt_ok ok (yes_of a2) (rd_uv h (yes_of a3)) (rd_span h (yes_of a4)) (FnIs.of a1)
    case nbyt =>
      cases flex <;> simp only [if_true, if_false, Bool.false_eq_true] at e ⊢
      · have := orNo_of z4 e
        simp only [Bool.and_eq_true] at this
        obtain ⟨⟨⟨a1, a2⟩, a3⟩, a4⟩ := this
        exact nbyt_ok ok (yes_of a2) (rd_i32S h (yes_of a3)) (rd_spanS h (yes_of a4)) (FnIs.of a1)
      · have := orNo_of z5 e
        simp only [Bool.and_eq_true] at this
        obtain ⟨⟨⟨a1, a2⟩, a3⟩, a4⟩ := this
        exact cnbyt_ok ok (yes_of a2) (rd_uvS h (yes_of a3)) (rd_spanS h (yes_of a4)) (FnIs.of a1)
  · have := orNo_of t5 e
    simp only [Bool.and_eq_true] at this
    exact alen_ok ok (yes_of this.1.2) (rd_i32 h (yes_of this.2)) (FnIs.of this.1.1)
  · have := orNo_of t6 e
    simp only [Bool.and_eq_true] at this
    obtain ⟨⟨⟨a1, a2⟩, a3⟩, a4⟩ := this
    exact calen_ok ok (yes_of a2) (yes_of a3) (rd_uv h (yes_of a4)) (FnIs.of a1)
  · have := orNo_of t9 e
    simp only [Bool.and_eq_true] at this
    obtain ⟨⟨⟨⟨a1, a2⟩, a3⟩, a4⟩, a5⟩ := this
    exact readTags_ok ok tg (yes_of a3) (rd_uv h (yes_of a4)) (rd_span h (yes_of a5)) (set_ok tg (FnIs0.of a2)) (FnIsC.of a1)
end Go.Kx
namespace Go.Kx
open Go.RowKit Go.Proofs Go.Shelf Go.Sort Go.Lib
set_option linter.unusedVariables false

section
variable {P : Program} {w : World} {T : IT} {K : EN}

theorem swo_nat : SWO (fun a b : Nat => decide (a < b)) :=
  ⟨fun x => by simp, fun x y z h1 h2 => by simp only [decide_eq_true_eq] at *; omega, fun x y z h1 h2 => by simp only [decide_eq_false_iff_not] at *; omega⟩

theorem frozen_cells {g o : Nat} {cur : Array Value} {U : Nat} (h : w.heap[g]? = some (.cells cur U (0, 0))) : w.frozen? ⟨g, o, none⟩ = false := by
  simp [World.frozen?, h]

theorem sort_fin {U g n : Nat} {cur : Array Value} {ks : List Nat} (hg : w.heap[g]? = some (.cells cur U (0, 0))) (hl : ks.length = n) (hr : w.rangeAt g 0 (ks.map u32V)) (ht : w.there g 0 n) (hgs : g < w.heap.size)
    {d' : Array Nat} (hp : PermIn 0 ks.toArray.size ks.toArray d') (hs : SortedIn (fun a b : Nat => decide (a < b)) 0 ks.toArray.size d') {m : Nat} {os : Array Obj} :
    ∃ ks' : List Nat, ks'.Perm ks ∧ ks'.Pairwise (fun x y => x ≤ y) ∧ (grow (putRow u32V (Sort.ahead w m) g 0 d') os).rangeAt g 0 (ks'.map u32V) ∧ (∃ cur', (grow (putRow u32V (Sort.ahead w m) g 0 d') os).heap[g]? = some (.cells cur' U (0, 0))) ∧ Fr (fun _ => False) g 0 n w (grow (putRow u32V (Sort.ahead w m) g 0 d') os) := by
  have hsz : d'.size = n := by rw [hp.1]; simpa using hl
  have hH : Holds u32V (Sort.ahead w m) g 0 ks.toArray := fun j hj => by
    have hj' : j < ks.length := by simpa using hj
    refine ⟨?_, frozen_cells hg⟩
    have := hr j (u32V ks[j]) (by rw [List.getElem?_map, List.getElem?_eq_getElem hj']; rfl)
    rw [cell?_ahead, this, getElem!_pos _ j hj]
    simp
  have hgp : g < (putRow u32V (Sort.ahead w m) g 0 d').heap.size := by rw [Go.Sort.size_putRow]; exact hgs
  have hcell : ∀ j, j < n → (grow (putRow u32V (Sort.ahead w m) g 0 d') os).cell? ⟨g, 0 + j, none⟩ = some (u32V d'[j]!) := fun j hj => by
    rw [cell?_grow _ _ _ hgp, cell?_putRow u32V _ g 0 _ _ hH (by rw [hsz]; simpa using hl.symm) j (by omega)]
  have hblk : ∃ cur', (grow (putRow u32V (Sort.ahead w m) g 0 d') os).heap[g]? = some (.cells cur' U (0, 0)) := by
    refine ⟨putCells u32V 0 d' cur, ?_⟩
    rw [heap_grow_old _ _ hgp]
    simp only [putRow, mapBlock, Array.getElem?_modify, heap_ahead, hg, if_true, Option.map_some, onCells]
  refine ⟨d'.toList, ?_, ?_, ?_, hblk, ?_⟩
  · have := hp.2.2
    rw [← hp.1] at this
    simp only [Array.extract_size] at this
    rw [hp.1, Array.extract_size] at this
    simpa using this
  · rw [List.pairwise_iff_getElem]
    intro i j hi hj hij
    have hi' : i < d'.size := by simpa using hi
    have hj' : j < d'.size := by simpa using hj
    have := hs i j (Nat.zero_le _) hij (by rw [← hp.1]; exact hj')
    rw [getElem!_pos _ i hi', getElem!_pos _ j hj'] at this
    have := of_decide_eq_false this
    simp only [Array.getElem_toList]
    omega
  · intro j u hu
    rw [List.getElem?_map] at hu
    by_cases hj : j < d'.size
    · rw [hcell j (by omega), ← hu]
      rw [List.getElem?_eq_getElem (by simpa using hj), getElem!_pos _ j hj]
      simp
    · rw [List.getElem?_eq_none (by simpa using hj)] at hu; simp at hu
  · have hcell2 : ∀ j, (0 + n ≤ j) → (grow (putRow u32V (Sort.ahead w m) g 0 d') os).cell? ⟨g, j, none⟩ = w.cell? ⟨g, j, none⟩ := fun j hj => by
      rw [cell?_grow _ _ _ hgp, cell?_putRow_other _ _ _ _ _ _ (.inr (.inr (by show 0 + d'.size ≤ j; omega)))]; rfl
    refine ⟨rfl, rfl, rfl, ?_, fun k h1 h2 _ => ?_, fun j hj => hcell2 j (by omega), fun o' n' h j hj => ?_⟩
    · rw [size_grow, Go.Sort.size_putRow]; simp
    · rw [heap_grow_old _ _ (by rw [Go.Sort.size_putRow]; exact h1)]
      simp only [putRow, mapBlock, Array.getElem?_modify, heap_ahead]
      rw [if_neg (by omega)]
    · obtain ⟨h1, h2⟩ := h j hj
      obtain ⟨cur', hc'⟩ := hblk
      refine ⟨?_, frozen_cells hc'⟩
      by_cases hj2 : o' + j < n
      · rw [show o' + j = 0 + (o' + j) by omega, hcell _ hj2]; rfl
      · rw [hcell2 _ (by omega)]; exact h1

theorem sort_ok {fSort tS U fLess : Nat} (te : TgE P K T) (hK1 : K.tKs = tS) (hK2 : K.tU32 = U) (hmo : P.follows .mixedOrders = true) (hl : FnIs P fLess (cLess K) 15 5) (ent : entersB P fSort = true)
    (hbig : ∀ (lb : Array Value) (blk off c : Nat) (d : Array Nat), 2 ≤ d.size → d.size < 4611686018427387904 → ∀ w : World, LessReads P fLess lb u32V (fun a b : Nat => decide (a < b)) blk off d.size w → Holds u32V w blk off d → blk < w.heap.size →
      Calls P fSort #[.iface tS (.slice (some ⟨blk, off, none⟩) d.size c), .func (.func fLess) #[] lb] w (fun e w' => e = .returned (.tuple #[]) ∧ ∃ d' n os, PermIn 0 d.size d d' ∧ SortedIn (fun a b : Nat => decide (a < b)) 0 d.size d' ∧ w' = grow (putRow u32V (Sort.ahead w n) blk off d') os))
    (htiny : ∀ (p : Option Addr) (n c : Nat), n ≤ 1 → ∀ (lf : Fn) (la lb : Array Value) (w : World), Calls P fSort #[.iface tS (.slice p n c), .func lf la lb] w (fun e w' => e = .returned (.tuple #[]) ∧ ∃ os, w' = grow w os)) : SortC P tS U fSort fLess := by
  subst hK1 hK2
  refine ⟨ent, fun w db g n c cur ks hdb hg hlen hn hkb hr ht hne hgs => ?_⟩
  subst hlen
  by_cases h2 : 2 ≤ ks.length
  · have hd2 : ks.toArray.size = ks.length := by simp
    have hH : Holds u32V w g 0 ks.toArray := fun j hj => by
      have hj' : j < ks.length := by simpa using hj
      refine ⟨?_, frozen_cells hg⟩
      have := hr j (u32V ks[j]) (by rw [List.getElem?_map, List.getElem?_eq_getElem hj']; rfl)
      rw [this, getElem!_pos _ j hj]
      simp
    have hdbs : db < w.heap.size := (Array.getElem?_eq_some_iff.1 hdb).1
    have hless : LessReads P fLess #[.pointer (some ⟨db, 0, none⟩)] u32V (fun a b : Nat => decide (a < b)) g 0 ks.toArray.size w := by
      intro m os dk hs i j hi hj
      have hcd : (sortWorld u32V w g 0 m dk os).cell? ⟨db, 0, none⟩ = some (.slice (some ⟨g, 0, none⟩) ks.length c) := by
        unfold sortWorld
        rw [cell?_grow _ _ _ (by rw [Go.Sort.size_putRow]; exact hdbs), cell?_putRow_other _ _ _ _ _ _ (.inl (fun e => hne e.symm)), cell?_ahead]
        simp [World.cell?, hdb]
      have hc : ∀ t, t < ks.length → (sortWorld u32V w g 0 m dk os).cell? ⟨g, 0 + t, none⟩ = some (u32V dk[t]!) := fun t ht => by
        unfold sortWorld
        rw [cell?_grow _ _ _ (by rw [Go.Sort.size_putRow]; exact hgs), cell?_putRow u32V _ g 0 _ _ (holds_ahead _ _ m _ _ _ hH) hs t (by rw [hs, hd2]; exact ht)]
      exact (less_ok (i := i) (j := j) te hmo hl hcd (by simpa using hi) (by simpa using hj) (hc i (by simpa using hi)) (hc j (by simpa using hj))).mono fun e w' he => ⟨he.1, 1, he.2⟩
    have h := hbig #[.pointer (some ⟨db, 0, none⟩)] g 0 c ks.toArray (by simpa using h2) (by rw [hd2]; omega) w hless hH hgs
    rw [hd2] at h
    refine h.mono ?_
    rintro e w' ⟨he, d', m, os, hp, hso, rfl⟩
    exact ⟨he, sort_fin hg rfl hr ht hgs (by rw [hd2]; exact hp) (by rw [hd2]; exact hso)⟩
  · refine (htiny (some ⟨g, 0, none⟩) ks.length c (by omega) (.func fLess) #[] #[.pointer (some ⟨db, 0, none⟩)] w).mono ?_
    rintro e w' ⟨he, os, rfl⟩
    have hH : Holds u32V w g 0 ks.toArray := fun j hj => by
      have hj' : j < ks.length := by simpa using hj
      refine ⟨?_, frozen_cells hg⟩
      have := hr j (u32V ks[j]) (by rw [List.getElem?_map, List.getElem?_eq_getElem hj']; rfl)
      rw [this, getElem!_pos _ j hj]
      simp
    have e0 : grow w os = grow (putRow u32V (Sort.ahead w 0) g 0 ks.toArray) os := by rw [ahead_zero, putRow_self _ _ _ _ _ hH]
    refine ⟨he, ?_⟩
    rw [e0]
    refine sort_fin hg rfl hr ht hgs ⟨rfl, fun _ _ => rfl, List.Perm.refl _⟩ (fun i j _ h1 h2 => ?_)
    have : ks.toArray.size = ks.length := by simp
    omega
end
end Go.Kx
namespace Go.Kx
open Go.RowKit
set_option linter.unusedSimpArgs false
set_option linter.unusedVariables false

/-- The numbers of the functions that say whether a tree's sizes fit. -/
structure FTN where
  f2 : Nat
  f3 : Nat
  f4 : Nat

/-- Beside seatB: the reader's functions, the tags', the reference's over trees with tags. -/
def seat2B (P : Program) (K : KB) (g : TN) (S : SN) (R : RN) (G : TG) (E : EN) (Z : FTN) : List Bool := [(rkB P R G).all id, (rk2B P R G).all id, bytesLe P S.tg 1000,
  isFn0 P E.fCb (cCb K.T K.uv) 16, isFn0 P g.fEach (cEachF E) 53, Nat.beq g.fCb E.fCb, !(Nat.beq K.T.u8 K.T.u8s), !(Nat.beq E.tU32 K.T.u8), cellsB P K.T.u8s 1, yes K.T.u32, yes K.uv,
  mapU P E.tMap, mapTy P E.tMap, plainTy P E.tMap, fieldAtB P E.tSt 0 0, sliceOf P E.tKs E.tU32, u32B P E.tU32, nilSB P E.tKs, cellsB P E.tKs 1, plainTy P E.tKs, plainTy P E.tU32, cellsB P E.tU32 1, intTy P E.tInt .i64, !(Nat.beq E.tU32 E.tKs),
  isFn P Z.f4 (cFits4 S) 7 2, isFn P Z.f3 (cFits3 S Z.f4) 18 2, isFn P Z.f2 (cFits2 S Z.f3) 15 2]

/-- What the laws FnAny.. rest on: they reach less of the reference. -/
def seatAB (P : Program) (K : KB) (g : TN) (S : SN) (R : RN) (G : TG) (E : EN) : List Bool := [(rkB P R G).all id, (rk2B P R G).all id, (kbOk P K).all id, tokB P S.T, P.follows .mixedOrders, plainTy P S.T.u8,
  isFn0 P E.fCb (cCb K.T K.uv) 16, isFn0 P g.fEach (cEachF E) 53, Nat.beq g.fCb E.fCb, !(Nat.beq K.T.u8 K.T.u8s), !(Nat.beq E.tU32 K.T.u8), cellsB P K.T.u8s 1, yes K.T.u32, yes K.uv,
  mapU P E.tMap, mapTy P E.tMap, plainTy P E.tMap, fieldAtB P E.tSt 0 0, sliceOf P E.tKs E.tU32, u32B P E.tU32, nilSB P E.tKs, cellsB P E.tKs 1, plainTy P E.tKs, plainTy P E.tU32, cellsB P E.tU32 1, intTy P E.tInt .i64, !(Nat.beq E.tU32 E.tKs),
  mapTy P g.tMap, plainTy P g.tMap, plainTy P K.T.u8s, fieldAtB P g.tSt 0 0, isFn P g.fLen (cTLen g) 8 2, isFn0 P g.fEach (cEach g K.T.int) 53, isFn P g.fTeach (cTeach g K.T) 9 4,
  isFn P S.fSame (cSame S) 26 4, orNo S.fVer (isFn P S.fVer (cVer S) 10 4), yes K.T.i16, cellsB P K.T.i16 1, Nat.beq K.T.u8 S.T.u8]

/-- Numbers with a point: what is asked of their two functions. -/
def FlOk (P : Program) (K : KB) (R : RN) : Prop := F64W P K ∧ F64R P R
theorem fl_none {P : Program} {K : KB} {R : RN} (h1 : K.f64 = 0) (h2 : R.f64 = 0) : FlOk P K R := ⟨f64w_none h1, f64r_none h2⟩

structure SeatA (P : Program) (K : KB) (g : TN) (S : SN) (R : RN) (G : TG) : Prop where
  kk : KOK P K
  ok : SOK0 P S
  same : SameC P S.fSame
  ver : S.fVer ≠ 0 → VerC P S.fVer
  h16 : K.T.i16 ≠ 0
  c16 : cellsB P K.T.i16 1 = true
  u8 : K.T.u8 = S.T.u8
  rk : RKOK P R G
  ao : AOK P (K.ia g) okTags

structure Seat2 (P : Program) (K : KB) (g : TN) (S : SN) (R : RN) (G : TG) (E : EN) (Z : FTN) : Prop where
  se : Seat P K g S
  rk : RKOK P R G
  sp : SPC P S keysOk
  ao : AOK P (K.ia g) okTags
  fits : FitsC P Z.f2

theorem tge_of {P : Program} {E : EN} {T : IT} (h1 : mapU P E.tMap = true) (h2 : mapTy P E.tMap = true) (h3 : plainTy P E.tMap = true) (h4 : fieldAtB P E.tSt 0 0 = true) (h5 : sliceOf P E.tKs E.tU32 = true) (h6 : u32B P E.tU32 = true) (h7 : nilSB P E.tKs = true)
    (h8 : cellsB P E.tKs 1 = true) (h9 : plainTy P E.tKs = true) (h10 : plainTy P E.tU32 = true) (h11 : cellsB P E.tU32 1 = true) (h12 : intTy P E.tInt .i64 = true) (h13 : E.tU32 ≠ E.tKs) : TgE P E T := ⟨h1, h2, h3, h4, h5, h6, h7, h8, h9, h10, h11, h12, h13⟩

theorem nbeq {a b : Nat} (h : (!(Nat.beq a b)) = true) : a ≠ b := fun e => by subst e; simp at h

section
variable {P : Program} {K : KB} {g : TN} {S : SN} {R : RN} {G : TG} {E : EN} {Z : FTN}

theorem te_of (h2 : (seat2B P K g S R G E Z).all id = true) : TgE P E K.T := by
  simp only [seat2B, List.all_cons, List.all_nil, id_eq, Bool.and_true, Bool.and_eq_true] at h2
  obtain ⟨a1, a2, a3, a4, a5, a6, a7, a8, a9, a10, a11, b1, b2, b3, b4, b5, b6, b7, b8, b9, b10, b11, b12, b13, c1, c2, c3⟩ := h2
  exact tge_of b1 b2 b3 b4 b5 b6 b7 b8 b9 b10 b11 b12 (nbeq b13)

theorem seat2_of (h : (seatB P K g S).all id = true) (h2 : (seat2B P K g S R G E Z).all id = true) (hso : SortC P E.tKs E.tU32 E.fSort E.fLess) (hfl : FlOk P K R) : Seat2 P K g S R G E Z := by
  have se := seat_of h hfl.1
  simp only [seat2B, List.all_cons, List.all_nil, id_eq, Bool.and_true, Bool.and_eq_true] at h2
  obtain ⟨a1, a2, a3, a4, a5, a6, a7, a8, a9, a10, a11, b1, b2, b3, b4, b5, b6, b7, b8, b9, b10, b11, b12, b13, c1, c2, c3⟩ := h2
  have te : TgE P E K.T := tge_of b1 b2 b3 b4 b5 b6 b7 b8 b9 b10 b11 b12 (nbeq b13)
  have hcb : CbC P K.T E.fCb := cb_ok se.kk.tk (nbeq a7) a9 se.tg.plu (yes_of a10) (se.kk.uvg (yes_of a11)) (FnIs0.of a4)
  have hte : TeachC P K.T.u8 g.fTeach smallT := teach_ok (fEach := 0) se.kk.tk te (nbeq a7) (nbeq a8) se.tg.plu hcb hso (FnIs0.of a5) (by simpa using a6) se.tg.teach
  have hunk : FnIs P S.fUnk (cUnk S) 85 4 := by
    simp only [seatB, List.all_cons, List.all_nil, id_eq, Bool.and_true, Bool.and_eq_true] at h
    obtain ⟨h1, h2, h3, h4, h5, h6, h7, h8, h9, h10, h11, h12, h13, h14, h15, h16, h17, h18, h19, h20, h21, h22, h23, h24, h25, h26, h27, h28, h29, h30, h31, h32⟩ := h
    exact FnIs.of h20
  exact {
    se := se
    rk := rk_of a1 a2 hfl.2
    sp := sp_tags se.sp a3 hunk
    ao := aok_tags se.kk (tlen_ok se.tg) hte
    fits := ⟨(FnIs.of c3).ent, fun w cs t hr => fits2_ok se.ok (FnIs.of c1) (FnIs.of c2) (FnIs.of c3) w cs t hr⟩ }

theorem Seat2.a (se : Seat2 P K g S R G E Z) : SeatA P K g S R G := ⟨se.se.kk, se.se.ok.z, se.se.same, se.se.ver, se.se.h16, se.se.c16, se.se.u8, se.rk, se.ao⟩

theorem teA_of (h2 : (seatAB P K g S R G E).all id = true) : TgE P E K.T := by
  simp only [seatAB, List.all_cons, List.all_nil, id_eq, Bool.and_true, Bool.and_eq_true] at h2
  obtain ⟨a1, a2, a3, s1, s2, s3, a4, a5, a6, a7, a8, a9, a10, a11, b1, b2, b3, b4, b5, b6, b7, b8, b9, b10, b11, b12, b13, _⟩ := h2
  exact tge_of b1 b2 b3 b4 b5 b6 b7 b8 b9 b10 b11 b12 (nbeq b13)

theorem seatA_of (h2 : (seatAB P K g S R G E).all id = true) (hso : SortC P E.tKs E.tU32 E.fSort E.fLess) (hfl : FlOk P K R) : SeatA P K g S R G := by
  have te := teA_of h2
  simp only [seatAB, List.all_cons, List.all_nil, id_eq, Bool.and_true, Bool.and_eq_true] at h2
  obtain ⟨a1, a2, a3, s1, s2, s3, a4, a5, a6, a7, a8, a9, a10, a11, b1, b2, b3, b4, b5, b6, b7, b8, b9, b10, b11, b12, b13, c1, c2, c3, c4, c5, c6, c7, d1, d2, d3, d4, d5⟩ := h2
  have kk := kok_of a3 hfl.1
  have ok : SOK0 P S := ⟨tok_of s1, s2, s3⟩
  have tg : TgOK P g K.T := ⟨kk.tk, c1, c2, c3, c4, FnIs.of c5, FnIs0.of c6, FnIs.of c7⟩
  have hcb : CbC P K.T E.fCb := cb_ok kk.tk (nbeq a7) a9 tg.plu (yes_of a10) (kk.uvg (yes_of a11)) (FnIs0.of a4)
  have hte : TeachC P K.T.u8 g.fTeach smallT := teach_ok (fEach := 0) kk.tk te (nbeq a7) (nbeq a8) tg.plu hcb hso (FnIs0.of a5) (by simpa using a6) tg.teach
  exact ⟨kk, ok, same_ok ok (FnIs.of d1), fun e => ver_ok ok (FnIs.of (orNo_of d2 e)), yes_of d3, d4, by simpa using d5, rk_of a1 a2 hfl.2, aok_tags kk (tlen_ok tg) hte⟩

/-- A law that reads a message: its functions' numbers, the plan, a new message's cells. -/
structure RL0 where
  f : Nat
  fMax : Nat
  fSpec : Nat
  fAgain : Nat
  fPtr : Nat
  fDef : Nat
  fMv : Nat
  fSet : Nat
  fAp : Nat
  fRd : Nat
  fRF : Nat
  tErr : Nat
  most : Nat
  L : Nat
  N : Nat
  LR : Nat
  NR : Nat
  pl : Plan
  zs : List MVal
  df : Dfs
  sx : SxL
  flex : Int

def msgB (P : Program) (K : KB) (g : TN) (S : SN) (R : RN) (G : TG) (n : RL0) : List Bool := [isFn P n.fMax (cMax K.T n.fPtr n.fMv) 4 0, isFn P n.fMv (cMv n.most) 3 2, Nat.blt n.most 32768,
  isFn P n.fPtr (cPtr n.pl.T n.fDef) 3 0, zeroIs P n.pl.T n.zs, isFn0 P n.fDef (rows (genD 0 n.df (defT0 n.df) 2).1) (genD 0 n.df (defT0 n.df) 2).2.1, okD P n.zs.length n.df 0, Nat.ble (genD 0 n.df (defT0 n.df) 2).2.2 (defT0 n.df),
  isFn0 P n.fSet (cSet K.T n.pl.T) 8, fieldAtB P n.pl.T 0 0, isFn P n.fAp (topA (K.ia g) n.pl n.L) n.N 4, okTop P (K.ia g) n.pl n.L n.N, firstZero (putM n.df 0 n.zs),
  isFn2 P n.fAgain (cAgain K.T n.tErr n.fPtr n.fSet n.fRd n.fAp) 19 4 5, isFn P n.fRd (cReadFrom n.fRF) 8 4, isFn P n.fRF (cRF R G n.pl n.fDef n.LR).1 n.NR 6, (rfB P R G n.pl n.fDef n.df (putM n.df 0 n.zs).tail n.LR n.NR).all id, ifaceTy P n.tErr, yes S.fVer]

theorem msg_of (se : SeatA P K g S R G) {n : RL0} (h : (msgB P K g S R G n).all id = true) : MaxC P n.fMax n.most ∧ AgainC P S.T.u8 n.fAgain R.gErr n.most n.pl ∧ n.most < 32768 ∧ S.fVer ≠ 0 := by
  simp only [msgB, List.all_cons, List.all_nil, id_eq, Bool.and_true, Bool.and_eq_true] at h
  obtain ⟨h1, h2, h3, h4, h5, h6, h7, h8, h9, h10, h11, h12, h13, h14, h15, h16, h17, h18, h19⟩ := h
  simp only [Nat.blt_eq, Nat.ble_eq] at h3 h8
  have hm : n.most < 32768 := h3
  obtain ⟨rest, hrest⟩ : ∃ rest, putM n.df 0 n.zs = .int .i16 0 :: rest := by
    cases hq : putM n.df 0 n.zs with
    | nil => rw [hq] at h13; simp [firstZero] at h13
    | cons m r =>
      rw [hq] at h13
      cases m <;> try (simp [firstZero] at h13; done)
      rename_i kk nn
      cases kk <;> try (simp [firstZero] at h13; done)
      simp only [firstZero] at h13
      rw [sameInt_eq h13]; exact ⟨r, rfl⟩
  have hcs : putD n.df 0 (n.zs.map MVal.val) = .int .i16 0 :: rest.map MVal.val := by rw [← putM_val, hrest]; rfl
  have hdef : DefC P n.fDef (n.zs.map MVal.val) (.int .i16 0 :: rest.map MVal.val) := by
    rw [← hcs]
    exact defC_of (defD_of (n := n.zs.length) (FnIs0.of h6) h7 h8) (by simp)
  have hlen : (Value.int .i16 0 :: rest.map MVal.val).length = (n.zs.map MVal.val).length := by rw [← hcs, putD_len]
  have hptr : PtrC P n.fPtr (.int .i16 0 :: rest.map MVal.val) := ptr_of (FnIs.of h4) (zeroIs_of h5) hdef hlen
  rw [hrest] at h17
  have hrf := rf_of se.rk h17 (FnIs.of h16)
  refine ⟨max_of se.kk.tk se.h16 (FnIs.of h1) hptr (FnIs.of h2) hm, ?_, hm, yes_of h19⟩
  rw [← se.u8]
  exact again_ok se.kk se.ao se.h16 se.c16 h18 hm (FnIs2.of h14) hptr (FnIs0.of h9) h10 (FnIs.of h15) hrf (FnIs.of h11) h12

def specB (P : Program) (S : SN) (n : RL0) : List Bool := [isFnC P n.fSpec (cSpec S (toSF n.sx) n.flex) ((genSF S.fd (toSF n.sx) 1).2.2 + 2) 0 S.msg, okS P S n.sx, !n.sx.isNil, Nat.ble (toFds n.sx).toList.length 1000, plainFds (toFds n.sx), mTopB n.pl (toFds n.sx) n.flex n.most]

theorem spec2_of (se : Seat2 P K g S R G E Z) {n : RL0} (h : (specB P S n).all id = true) : SpecC P n.fSpec (toFds n.sx) n.flex ∧ WriteC P S keysOk (toFds n.sx) ∧ mTopB n.pl (toFds n.sx) n.flex n.most = true := by
  simp only [specB, List.all_cons, List.all_nil, id_eq, Bool.and_true, Bool.and_eq_true] at h
  obtain ⟨h15, h16, h17, h18, h19, h20⟩ := h
  simp only [Nat.ble_eq] at h18
  have hne : toFds n.sx ≠ .nil := by
    intro e
    cases hx : n.sx with
    | nil => rw [hx] at h17; simp [SxL.isNil] at h17
    | cons x r => rw [hx] at e; unfold toFds at e; cases e
  exact ⟨spec_of (flex := n.flex) se.se.ok (FnIsC.of h15) (okS_of se.se.ok n.sx h16) hne h18, write_of se.sp se.se.wr (fs := toFds n.sx) h19 (by omega), h20⟩

/-- A law FnAgain.. -/
theorem again_law (se : Seat2 P K g S R G E Z) (n : RL0) (h1 : (msgB P K g S R G n).all id = true) (h2 : (specB P S n).all id = true) (h3 : isFn P n.f (cLawAgain S Z.f2 n.fMax n.fSpec n.fAgain) 35 4 = true)
    (w : World) (k : Nat) (hk : k < 256) (ct : List Value) (t : Tr) (hrt : RepTr w t ct) (hg : goodT keysOk t) (ev : Value) (hev : w.cell? ⟨R.gErr, 0, none⟩ = some ev) (herr : isErr ev) (hlen : ∀ v, v ≤ n.most → (sWrite (toFds n.sx) n.flex (v : Nat) t).length ≤ 274877906944) :
    Calls P n.f #[.int .u8 k, .agg ct.toArray] w (fun e w' => e = .returned (.bool true) ∧ Below w.heap.size w w') := by
  obtain ⟨hmax, hag, hm, hv0⟩ := msg_of se.a h1
  obtain ⟨hspec, hwr, hmt⟩ := spec2_of se h2
  exact law_again se.sp (FnIs.of h3) se.fits hwr se.se.wr.ent se.se.same (se.se.ver hv0) hmax hspec hag hm w k hk ct t hrt hg ev hev herr (fun v hv => ⟨hlen v hv, againTop hmt hv hg⟩)

/-- A law FnCut.. -/
theorem cut_law (se : Seat2 P K g S R G E Z) (n : RL0) (h1 : (msgB P K g S R G n).all id = true) (h2 : (specB P S n).all id = true) (h3 : isFn P n.f (cLawCut S Z.f2 n.fMax n.fSpec n.fAgain) 56 6 = true) (h4 : yes S.T.u16 = true)
    (w : World) (k mc : Nat) (hk : k < 256) (hmc : mc < 65536) (ct : List Value) (t : Tr) (hrt : RepTr w t ct) (hg : goodT keysOk t) (ev : Value) (hev : w.cell? ⟨R.gErr, 0, none⟩ = some ev) (herr : isErr ev) (hlen : ∀ v, v ≤ n.most → (sWrite (toFds n.sx) n.flex (v : Nat) t).length ≤ 274877906944) :
    Calls P n.f #[.int .u8 k, .agg ct.toArray, .int .u16 (mc : Nat)] w (fun e w' => e = .returned (.bool true) ∧ Below w.heap.size w w') := by
  obtain ⟨hmax, hag, hm, hv0⟩ := msg_of se.a h1
  obtain ⟨hspec, hwr, hmt⟩ := spec2_of se h2
  refine law_cut se.sp (FnIs.of h3) (yes_of h4) se.fits hwr se.se.wr.ent se.se.same (se.se.ver hv0) hmax hspec hag hm w k mc hk hmc ct t hrt hg ev hev herr (fun v hv => ⟨hlen v hv, againTop hmt hv hg⟩) (fun v j hv hj => ?_)
  refine cut_plain hmt hv hg (m := (sWrite (toFds n.sx) n.flex (v : Nat) t).drop j) (List.take_append_drop _ _).symm ?_
  intro e
  have := congrArg List.length e
  simp at this
  omega

/-- A law FnAny.. -/
theorem any_law (se : SeatA P K g S R G) (n : RL0) (h1 : (msgB P K g S R G n).all id = true) (h2 : (List.range (n.most + 1)).all (fun v => minOkF (v : Nat) (n.pl.flex (v : Nat)) n.pl.fs) = true) (h3 : isFn P n.f (cLawAny S n.fMax n.fAgain) 43 4 = true)
    (w : World) (k : Nat) (hk : k < 256) (ad : Option Addr) (l : List UInt8) (c : Nat) (hby : BytesAt w (fun _ => True) ad l) (ev : Value) (hev : w.cell? ⟨R.gErr, 0, none⟩ = some ev) (herr : isErr ev) :
    Calls P n.f #[.int .u8 k, .slice ad l.length c] w (fun e w' => e = .returned (.bool true) ∧ Below w.heap.size w w') := by
  obtain ⟨hmax, hag, hm, hv0⟩ := msg_of se h1
  refine law_any se.ok (FnIs.of h3) se.same (se.ver hv0) hmax hag hm w k hk ad l c hby ev hev herr (fun v hv hl ds ts r hd => ?_)
  have hmin : minOkF (v : Nat) (n.pl.flex (v : Nat)) n.pl.fs = true := List.all_eq_true.1 h2 v (List.mem_range.2 (by omega))
  obtain ⟨a1, a2, a3, a4⟩ := decTop_some hmin hd (by omega)
  obtain ⟨ds', ts', b1, b2⟩ := anyTop hmin hd (by omega)
  have hle : (encTop n.pl (v : Nat) ds ts).length ≤ 32767 := by omega
  obtain ⟨c1, c2, c3, c4⟩ := decTop_some hmin b1 hle
  exact ⟨a2, a3, by omega, ds', ts', b1, b2, c2, c3⟩
end
end Go.Kx
