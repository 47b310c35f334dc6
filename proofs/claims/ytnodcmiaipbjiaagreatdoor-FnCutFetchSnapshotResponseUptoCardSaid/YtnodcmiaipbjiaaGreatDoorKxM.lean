/- The laws' zzFits2, zzFits3, zzFits4: they yield a truth value. Conditions: the program's tables (SOK).
   What is asked of the function that says whether a tree's sizes fit.
   The laws FnCut..: the law's own code.
   Each's order: the closure that compares two keys. Conditions: the program's tables.
   The reference's functions over trees with tags. The reader's octets: sixteen of them, texts of octets. Conditions: the program's tables (ROK).
   The reader's contracts, as one test of the program.
   The reader's contracts, all of them, out of one test of the program.
   sort.Slice at a slice of keys, from the shelf's contracts (hbig, htiny: given where the shelf's text is laid), the closure's code.
   The laws FnAgain.., FnCut.., FnAny..: all that the program must pass, as Boolean tests; from them the laws' runs.
   How much the reference writes of a tree: at most so often the tree's size. No condition.
   An argument's tree as it is read (DataW): it lies in memory as a tree, keys fit, its bulk is no less than its size. Conditions: the tables' facts (treeB), the bulk's equations (BulkOk).
   From the laws' runs to what a row says of them: arguments opened, read again behind the call. Conditions: the program's tests, the row's closed facts. -/
import Derived.Test.YtnodcmiaipbjiaaGreatDoorKxL
import Derived.Shelf.GgSortFunc.Whole
import Derived.Shelf.GgSortFunc.Tiny
import Derived.ChangeSlices
import Derived.ChangeArms
import Derived.Carry
import Derived.OpenShut
import Derived.ChangeShapes
import Derived.FnData
namespace Go.Kx
open Go.RowKit
set_option linter.unusedSimpArgs false
set_option linter.unusedVariables false
def cFits4 (S : SN) : Jc := .sq (.rg [.bx 1 S.tg 0, .mv 2 (.c (.bool false))]) (.sq (.sq (.rg [.fa 3 S.tg 1 1, .ld 4 S.T.u8s 3, .ln 5 S.T.u8s 4, .bi 6 .gtr S.T.int (.t 5) (.c (.int .i64 2147483647))]) (.cd 6 (.sq (.rg [.mv 2 (.c (.bool false))]) .rt) .sk)) (.sq (.rg [.mv 2 (.c (.bool true))]) .rt))
def cFits3 (S : SN) (f4 : Nat) : Jc := .sq (.rg [.mv 2 (.c (.bool false))]) (.sq (.sq (.rg [.mv 5 (.t 0), .ln 6 S.tgs 5, .bi 7 .gtr S.T.int (.t 6) (.c (.int .i64 2147483647))]) (.cd 7 (.sq (.rg [.mv 2 (.c (.bool false))]) .rt) .sk))
 (.sq (.sq (.rg [.mv 8 (.t 0), .ln 9 S.tgs 8, .mv 10 (.c (.int .i64 0))]) (.bl 0 (.lp (.sq (.rg [.bi 11 .lss S.T.int (.t 10) (.t 9)]) (.sq (.cd 11 .sk (.ex 0)) (.sq (.bl 1 (.sq (.rg [.ia 12 S.tgs 8 10, .ld 13 S.tg 12, .al 4 S.tg, .st S.tg 4 13]) (.sq (.rg [.ld 14 S.tg 4, .ca 15 f4 [.t 14], .nt 16 15]) (.cd 16 (.sq (.rg [.mv 2 (.c (.bool false))]) .rt) .sk))))
  (.rg [.bi 17 .add S.T.int (.t 10) (.c (.int .i64 1)), .mv 10 (.t 17)]))))))) (.sq (.rg [.mv 2 (.c (.bool true))]) .rt)))
def cFits2 (S : SN) (f3 : Nat) : Jc := .sq (.rg [.bx 1 S.tr 0, .mv 2 (.c (.bool false))]) (.sq (.sq (.rg [.fa 3 S.tr 1 1, .ld 4 S.T.u8s 3, .ln 5 S.T.u8s 4, .bi 6 .gtr S.T.int (.t 5) (.c (.int .i64 2147483647))]) (.cd 6 (.sq (.rg [.mv 2 (.c (.bool false))]) .rt) .sk))
 (.sq (.sq (.rg [.fa 7 S.tr 1 3, .ld 8 S.trs 7, .ln 9 S.trs 8, .bi 10 .gtr S.T.int (.t 9) (.c (.int .i64 2147483647))]) (.cd 10 (.sq (.rg [.mv 2 (.c (.bool false))]) .rt) .sk))
 (.sq (.sq (.rg [.fa 11 S.tr 1 4, .ld 12 S.tgs 11, .ca 13 f3 [.t 12], .nt 14 13]) (.cd 14 (.sq (.rg [.mv 2 (.c (.bool false))]) .rt) .sk)) (.sq (.rg [.mv 2 (.c (.bool true))]) .rt))))
def YN (w : World) : Ending → World → Prop := fun e w' => (∃ b, e = .returned (.bool b)) ∧ Below w.heap.size w w'
section
variable {P : Program} {S : SN} {w w' : World} {Q : UE} {ρ : Nat → Value}
theorem fits4_ok {f : Nat} (ok : SOK P S) (hf : FnIs P f (cFits4 S) 7 2) (w : World) (cs : List Value) (t : Tg) (h : J8 w cs t) : Calls P f #[.agg cs.toArray] w (YN w) := by
 obtain ⟨hk, ad, c, rfl, had, hc, hby⟩ := h
 refine hf.runs (args := [.agg [Value.int .u32 (t.1 : Nat), .slice ad t.2.length c].toArray]) (by simp) (by omega) ?_
 have hb := Jn w (.cells [Value.int .u32 (t.1 : Nat), .slice ad t.2.length c].toArray S.tg)
 refine RW.sq (RW.rg (RL.bxA (cs := [Value.int .u32 (t.1 : Nat), .slice ad t.2.length c]) rfl (RL.s MR.mv (RL.nil ?_))))
 refine RW.sq (RW.sq (RW.rg (RL.s (MR.fa (b := w.heap.size) (o := 0) rfl (ok.tgF 1 (by omega))) (RL.s (MR.ld (v := .slice ad t.2.length c) rfl ok.pU8s (JA w [Value.int .u32 (t.1 : Nat), .slice ad t.2.length c] S.tg (j := 1) rfl)) (RL.s (MR.ln ok.tk.u8s rfl) (RL.s (MR.biE (v := .bool (decide ((2147483647 : Int) < (t.2.length : Nat)))) rfl) (RL.nil ?_)))))))
 refine RW.cd rfl (fun e => RW.sq (RW.rg (RL.s MR.mv (RL.nil (RW.rt ⟨⟨_, rfl⟩, hb⟩))))) (fun e => RW.sk ?_)
 exact RW.sq (RW.rg (RL.s MR.mv (RL.nil (RW.rt ⟨⟨_, rfl⟩, hb⟩))))
theorem fits3_ok {f f4 : Nat} (ok : SOK P S) (h4 : FnIs P f4 (cFits4 S) 7 2) (hf : FnIs P f (cFits3 S f4) 18 2) (w : World) (v : Value) (u : List Tg) (h : TagsS w v u) : Calls P f #[v] w (YN w) := by
 obtain ⟨ad, c, rfl, had, hc, hrow⟩ := h
 refine hf.runs (args := [.slice ad u.length c]) (by simp) (by omega) ?_
 refine RW.sq (RW.rg (RL.s MR.mv (RL.nil ?_)))
 refine RW.sq (RW.sq (RW.rg (RL.s (MR.mv (v := .slice ad u.length c) rfl) (RL.s (MR.ln ok.tgs rfl) (RL.s (MR.biE (v := .bool (decide ((2147483647 : Int) < (u.length : Nat)))) rfl) (RL.nil ?_))))))
 refine RW.cd rfl (fun e => RW.sq (RW.rg (RL.s MR.mv (RL.nil (RW.rt ⟨⟨_, rfl⟩, Below.refl _ _⟩))))) (fun e => RW.sk ?_)
 have hlen : u.length ≤ 2147483647 := by have := of_decide_eq_false e; omega
 refine RW.sq (RW.sq (RW.rg (RL.s (MR.mv (v := .slice ad u.length c) rfl) (RL.s (MR.ln ok.tgs rfl) (RL.s MR.mv (RL.nil (RW.bl ?_)))))))
 refine RW.lp (fun ρ w' => ∃ i : Nat, i ≤ u.length ∧ ρ 8 = .slice ad u.length c ∧ ρ 9 = .int .i64 (u.length : Nat) ∧ ρ 10 = .int .i64 (i : Nat) ∧ Below w.heap.size w w') (fun ρ' _ => u.length - (intOf (ρ' 10)).toNat) ⟨0, Nat.zero_le _, rfl, rfl, rfl, Below.refl _ _⟩ ?_ (fun ρ1 ρ2 w1 h => by rw [h 10 (by omega)])
 rintro ρ1 w1 ⟨i, hi, q8, q9, q10, hb⟩
 refine RW.knows [(8, .slice ad u.length c), (9, .int .i64 (u.length : Nat)), (10, .int .i64 (i : Nat))] (by simp [q8, q9, q10]) (RW.sq (RW.rg ?_))
 by_cases hlt : i < u.length
 ·refine RL.s (MR.biB (p := (i : Int) < (u.length : Nat)) rfl (decide_eq_true (by omega))) (RL.nil (RW.sq (RW.cd (b := true) rfl (fun _ => RW.sk ?_) (fun e => by cases e))))
  obtain ⟨t, ht⟩ : ∃ t, u[i]? = some t := ⟨_, List.getElem?_eq_getElem hlt⟩
  obtain ⟨g, o, cs, rfl, hr, htr⟩ := hrow i t ht
  have l2 := htr.two
  refine RW.sq (RW.bl (RW.sq (RW.rg (RL.rowTH (t := t) (cs := cs) (n := u.length) (c := c) ok rfl rfl hlt (fun j x hx => hb.kp _ _ (hr j x hx)) (htr.keep hb) (by decide) (by decide) ?_))))
  rintro p w2 b2 s2 rg2 -
  have B2 : Below w.heap.size w w2 := hb.trans (b2.mono hb.size)
  refine RL.nil (RW.sq (RW.rg (RL.s (MR.ldRow (b := w1.heap.size) (o := 0) (cs := cs) rfl ok.tgR (by rw [l2.1]; exact ok.tgN) rg2) ?_)))
  refine RL.ca (R := fun v w' => (∃ b, v = .bool b) ∧ Below w2.heap.size w2 w') h4.ent ?_ ?_
  ·refine Calls.mono (fits4_ok ok h4 w2 cs t (htr.keep B2)) ?_
   rintro e w' ⟨⟨b, rfl⟩, h⟩
   exact ⟨_, rfl, ⟨b, rfl⟩, h⟩
  rintro v w3 ⟨⟨b, rfl⟩, b3⟩
  have B3 : Below w.heap.size w w3 := B2.trans (b3.mono B2.size)
  refine RL.s (MR.nt rfl) (RL.nil (RW.cd rfl (fun e => RW.sq (RW.rg (RL.s MR.mv (RL.nil (RW.rt ⟨⟨_, rfl⟩, B3⟩))))) (fun e => RW.sk ?_)))
  refine RW.rg (RL.s (MR.biE (v := .int .i64 ((i + 1 : Nat) : Int)) (by show some (Value.int .i64 (IntKind.i64.wrap ((i : Int) + 1))) = _; rw [Ju (by omega) (by omega)]; rfl)) (RL.s MR.mv (RL.nil ?_)))
  refine ⟨⟨i + 1, hlt, rfl, rfl, rfl, B3⟩, ?_⟩
  show u.length - ((i + 1 : Nat) : Int).toNat < u.length - (intOf (ρ1 10)).toNat
  rw [q10]; simp only [intOf]; omega
 ·refine RL.s (MR.biB (p := (i : Int) < (u.length : Nat)) rfl (decide_eq_false (by omega))) (RL.nil (RW.sq (RW.cd (b := false) rfl (fun e => by cases e) (fun _ => RW.ex ?_))))
  exact RW.sq (RW.rg (RL.s MR.mv (RL.nil (RW.rt ⟨⟨_, rfl⟩, hb⟩))))
theorem fits2_ok {f f3 f4 : Nat} (ok : SOK P S) (h4 : FnIs P f4 (cFits4 S) 7 2) (h3 : FnIs P f3 (cFits3 S f4) 18 2) (hf : FnIs P f (cFits2 S f3) 15 2) (w : World) (cs : List Value) (t : Tr) (h : JL w t cs) : Calls P f #[.agg cs.toArray] w (YN w) := by
 cases t with
 | mk n s null l u =>
  unfold JL at h
  obtain ⟨sS, sL, sU, rfl, hn, ⟨ad, c, rfl, had, hc, hby⟩, ⟨ad2, c2, rfl, had2, hc2, hrows⟩, htags⟩ := h
  refine hf.runs (args := [.agg [Value.int .i64 n, .slice ad s.length c, .bool null, .slice ad2 l.toList.length c2, sU].toArray]) (by simp) (by omega) ?_
  have hb := Jn w (.cells [Value.int .i64 n, .slice ad s.length c, .bool null, .slice ad2 l.toList.length c2, sU].toArray S.tr)
  refine RW.sq (RW.rg (RL.bxA (cs := [Value.int .i64 n, .slice ad s.length c, .bool null, .slice ad2 l.toList.length c2, sU]) rfl (RL.s MR.mv (RL.nil ?_))))
  refine RW.sq (RW.sq (RW.rg (RL.s (MR.fa (b := w.heap.size) (o := 0) rfl (ok.trF 1 (by omega))) (RL.s (MR.ld (v := .slice ad s.length c) rfl ok.pU8s (JA w [Value.int .i64 n, .slice ad s.length c, .bool null, .slice ad2 l.toList.length c2, sU] S.tr (j := 1) rfl)) (RL.s (MR.ln ok.tk.u8s rfl) (RL.s (MR.biE (v := .bool (decide ((2147483647 : Int) < (s.length : Nat)))) rfl) (RL.nil ?_)))))))
  refine RW.cd rfl (fun e => RW.sq (RW.rg (RL.s MR.mv (RL.nil (RW.rt ⟨⟨_, rfl⟩, hb⟩))))) (fun e => RW.sk ?_)
  refine RW.sq (RW.sq (RW.rg (RL.s (MR.fa (b := w.heap.size) (o := 0) rfl (ok.trF 3 (by omega))) (RL.s (MR.ld (v := .slice ad2 l.toList.length c2) rfl ok.pTrs (JA w [Value.int .i64 n, .slice ad s.length c, .bool null, .slice ad2 l.toList.length c2, sU] S.tr (j := 3) rfl)) (RL.s (MR.ln ok.trs rfl) (RL.s (MR.biE (v := .bool (decide ((2147483647 : Int) < (l.toList.length : Nat)))) rfl) (RL.nil ?_)))))))
  refine RW.cd rfl (fun e => RW.sq (RW.rg (RL.s MR.mv (RL.nil (RW.rt ⟨⟨_, rfl⟩, hb⟩))))) (fun e => RW.sk ?_)
  refine RW.sq (RW.sq (RW.rg (RL.s (MR.fa (b := w.heap.size) (o := 0) rfl (ok.trF 4 (by omega))) (RL.s (MR.ld (v := sU) rfl ok.pTgs (JA w [Value.int .i64 n, .slice ad s.length c, .bool null, .slice ad2 l.toList.length c2, sU] S.tr (j := 4) rfl)) ?_))))
  have htags2 : TagsS (w.alloc (.cells [Value.int .i64 n, .slice ad s.length c, .bool null, .slice ad2 l.toList.length c2, sU].toArray S.tr)) sU u := by
   obtain ⟨ad', c', e, had', hc', hrow⟩ := htags
   refine ⟨ad', c', e, had', hc', fun j x hx => ?_⟩
   obtain ⟨g, o, cs, e1, e2, e3⟩ := hrow j x hx
   exact ⟨g, o, cs, e1, fun k y hy => hb.kp _ _ (e2 k y hy), e3.keep hb⟩
  refine RL.ca (R := fun v w' => (∃ b, v = .bool b) ∧ Below (w.alloc (.cells [Value.int .i64 n, .slice ad s.length c, .bool null, .slice ad2 l.toList.length c2, sU].toArray S.tr)).heap.size (w.alloc (.cells [Value.int .i64 n, .slice ad s.length c, .bool null, .slice ad2 l.toList.length c2, sU].toArray S.tr)) w') h3.ent ?_ ?_
  ·refine Calls.mono (fits3_ok ok h4 h3 _ sU u htags2) ?_
   rintro e w' ⟨⟨b, rfl⟩, h⟩
   exact ⟨_, rfl, ⟨b, rfl⟩, h⟩
  rintro v w3 ⟨⟨b, rfl⟩, b3⟩
  have B3 : Below w.heap.size w w3 := hb.trans (b3.mono hb.size)
  refine RL.s (MR.nt rfl) (RL.nil (RW.cd rfl (fun e => RW.sq (RW.rg (RL.s MR.mv (RL.nil (RW.rt ⟨⟨_, rfl⟩, B3⟩))))) (fun e => RW.sk ?_)))
  exact RW.sq (RW.rg (RL.s MR.mv (RL.nil (RW.rt ⟨⟨_, rfl⟩, B3⟩))))
end
end Go.Kx
namespace Go.Kx
open Go.RowKit
set_option linter.unusedSimpArgs false
set_option linter.unusedVariables false
section
variable {P : Program} {S : SN} {w w' : World} {N : Nat} {Q : UE} {ρ : Nat → Value} {SU : List (Nat × List UInt8) → Prop}
def FitsC (P : Program) (f : Nat) : Prop := Jo P f = true ∧ ∀ (w : World) (cs : List Value) (t : Tr), JL w t cs → Calls P f #[.agg cs.toArray] w (YN w)
end
set_option linter.unusedVariables false
def cLawCut (S : SN) (fFits fMax fSpec fAgain : Nat) : Jc :=
 .sq (.rg [.bx 4 S.tr 1, .mv 6 (.c (.bool false))])
 (.sq (.sq (.rg [.ld 13 S.tr 4, .ca 14 fFits [.t 13], .nt 15 14]) (.cd 15 (.sq (.rg [.mv 6 (.c (.bool true))]) .rt) .sk))
 (.sq (.rg [.ca 16 fMax [], .mv 7 (.t 16)])
 (.sq (.sq (.rg [.mv 17 (.t 7), .bi 18 .lss S.T.int (.t 17) (.c (.int .i64 0))]) (.cd 18 (.sq (.rg [.mv 6 (.c (.bool false))]) .rt) .sk))
 (.sq (.gr true [⟨1, none, .mv 20 (.t 0)⟩, ⟨2, none, .mv 21 (.t 7)⟩, ⟨4, none, .ld 23 S.tr 4⟩, ⟨0, none, .ca 19 fSpec []⟩, ⟨3, none, .ca 22 S.fVer [.t 20, .t 21]⟩, ⟨5, none, .ca 24 S.fWrite [.t 19, .t 22, .t 23]⟩, ⟨6, none, .mv 8 (.t 24)⟩])
 (.sq (.rg [.mv 26 (.t 0), .mv 27 (.t 7), .ca 28 S.fVer [.t 26, .t 27], .mv 29 (.t 8), .ca 30 fAgain [.t 28, .t 29], .mv 25 (.t 30), .ext 31 25 0, .ext 32 25 1, .mv 9 (.t 31), .mv 10 (.t 32)])
 (.sq (.sq (.rg [.mv 33 (.t 8), .ln 34 S.T.u8s 33, .bi 35 .eql S.T.int (.t 34) (.c (.int .i64 0))]) (.cd 35 (.sq (.rg [.mv 36 (.t 10), .mv 6 (.t 36)]) .rt) .sk))
 (.sq (.gr true [⟨0, none, .mv 38 (.t 0)⟩, ⟨1, none, .mv 39 (.t 7)⟩, ⟨3, none, .mv 41 (.t 8)⟩, ⟨4, none, .mv 42 (.t 2)⟩, ⟨5, none, .cv 43 S.T.u16 S.T.int 42⟩, ⟨6, none, .mv 44 (.t 8)⟩, ⟨7, none, .ln 45 S.T.u8s 44⟩, ⟨8, none, .bi 46 .rem S.T.int (.t 43) (.t 45)⟩, ⟨9, none, .sl 47 S.T.u8s 41 none (some (.t 46)) none⟩, ⟨2, none, .ca 40 S.fVer [.t 38, .t 39]⟩, ⟨10, none, .ca 48 fAgain [.t 40, .t 47]⟩, ⟨11, none, .mv 37 (.t 48)⟩, ⟨12, none, .ext 49 37 0⟩, ⟨13, none, .ext 50 37 1⟩, ⟨14, none, .mv 11 (.t 49)⟩, ⟨15, none, .mv 12 (.t 50)⟩])
 (.sq (.gr false [⟨0, none, .mv 51 (.t 10)⟩, ⟨1, none, .mv 52 (.t 51)⟩, ⟨2, some (1, 52, true), .mv 53 (.t 12)⟩, ⟨3, some (1, 52, true), .nt 54 53⟩, ⟨4, none, .pk 55 (.t 52) (.t 54) (.c (.bool false))⟩, ⟨5, none, .mv 6 (.t 55)⟩]) .rt))))))))
section
variable {P : Program} {S : SN} {w w' : World} {N : Nat} {Q : UE} {ρ : Nat → Value} {SU : List (Nat × List UInt8) → Prop}
theorem law_cut {f fFits fMax fSpec fAgain gE most : Nat} {fs : Fds} {flex : Int} {p : Plan} (sp : SPC P S SU) (hf : FnIs P f (cLawCut S fFits fMax fSpec fAgain) 56 6) (h16u : S.T.u16 ≠ 0) (hfits : FitsC P fFits)
  (hw : WriteCK P S SU fs) (hwE : Jo P S.fWrite = true) (hsame : SameC P S.fSame) (hver : VerC P S.fVer)
  (hmax : MaxC P fMax most) (hspec : SpecC P fSpec fs flex) (hag : AgainC P S.T.u8 fAgain gE most p) (hm : most < 32768) (w : World) (n mc : Nat) (hn : n < 256) (hmc : mc < 65536) (ct : List Value) (t : Tr) (hrt : JL w t ct) (hg : Qb SU t) (ev : Value) (hev : w.cell? ⟨gE, 0, none⟩ = some ev) (herr : isErr ev)
  (hpl : ∀ v, v ≤ most → (JJ fs flex (v : Nat) t).length ≤ 2147483648 ∧ ∃ ds ts, decTop p (v : Nat) (JJ fs flex (v : Nat) t) = some ((ds, ts), []) ∧ Qj p (v : Nat) ds ts = JJ fs flex (v : Nat) t ∧ SmF Ql p.fs ds ∧ Ql ts)
  (hone : ∀ v, v ≤ most → oneTag p (v : Nat) (JJ fs flex (v : Nat) t))
  (hcut : ∀ v k, v ≤ most → k < (JJ fs flex (v : Nat) t).length → decTop p (v : Nat) ((JJ fs flex (v : Nat) t).take k) = none) :
  Calls P f #[.int .u8 n, .agg ct.toArray, .int .u16 (mc : Nat)] w (fun e w' => e = .returned (.bool true) ∧ Below w.heap.size w w') := by
 have ok := sp.ok
 obtain ⟨lct, oct⟩ : ct.length = 5 ∧ ct.all (·.oneCell') = true := ⟨hrt.one.2, hrt.one.1⟩
 refine hf.runs (args := [.int .u8 n, .agg ct.toArray, .int .u16 (mc : Nat)]) (by simp) (by omega) ?_
 have b1 := Jn w (.cells ct.toArray S.tr)
 have r1 : (w.alloc (.cells ct.toArray S.tr)).rangeAt w.heap.size 0 ct := fun j v hj => JA w ct S.tr hj
 refine RW.sq (RW.rg (RL.bxA (cs := ct) rfl (RL.s MR.mv (RL.nil ?_))))
 have hrt1 : JL (w.alloc (.cells ct.toArray S.tr)) t ct := JL.kp b1.kp _ hrt
 revert b1 r1 hrt1
 generalize w.alloc (.cells ct.toArray S.tr) = w1
 intro b1 r1 hrt1
 refine RW.sq (RW.sq (RW.rg (RL.s (MR.ldRow (b := w.heap.size) (o := 0) (cs := ct) rfl ok.trR (by rw [lct]; exact ok.trN) r1) ?_)))
 refine RL.ca (R := fun v w' => (∃ b, v = .bool b) ∧ Below w1.heap.size w1 w') hfits.1 ?_ ?_
 ·refine Calls.mono (hfits.2 w1 ct t hrt1) ?_
  rintro e w' ⟨⟨b, rfl⟩, h⟩
  exact ⟨_, rfl, ⟨b, rfl⟩, h⟩
 rintro v w2 ⟨⟨b, rfl⟩, b2⟩
 have B2 : Below w.heap.size w w2 := b1.trans (b2.mono b1.size)
 refine RL.s (MR.nt rfl) (RL.nil (RW.cd rfl (fun e => RW.sq (RW.rg (RL.s MR.mv (RL.nil (RW.rt ⟨rfl, B2⟩))))) (fun e => RW.sk ?_)))
 refine RW.sq (RW.rg (RL.ca (R := fun v w' => v = .int .i64 (most : Nat) ∧ Below w2.heap.size w2 w') hmax.1 ?_ ?_))
 ·refine Calls.mono (hmax.2 w2) ?_
  rintro e w' ⟨rfl, h⟩
  exact ⟨_, rfl, rfl, h⟩
 rintro v w3 ⟨rfl, b3⟩
 have B3 : Below w.heap.size w w3 := B2.trans (b3.mono B2.size)
 refine RL.s MR.mv (RL.nil (RW.sq (RW.sq (RW.rg (RL.s (MR.mv (v := .int .i64 (most : Nat)) rfl) (RL.s (MR.biB (p := (most : Int) < 0) rfl (decide_eq_false (by omega))) (RL.nil (RW.cd (b := false) rfl (fun e => by cases e) (fun _ => RW.sk ?_)))))))))
 have r3 : w3.rangeAt w.heap.size 0 ct := fun j u hu => b3.kp _ _ (b2.kp _ _ (r1 j u hu))
 have hrt3 : JL w3 t ct := JL.kp (B3.kp) _ hrt
 refine RW.sq (RW.gd ok.mo (Below w3.heap.size w3) (JI _ _) ?_)
 have hS : ∀ {wa wb : World}, Below w3.heap.size w3 wa → Below wa.heap.size wa wb → Below w3.heap.size w3 wb := fun h k => h.trans (k.mono h.size)
 have hmod : n % (most + 1) ≤ most := Nat.lt_succ_iff.1 (Nat.mod_lt _ (by omega))
 refine RG.q (fun _ _ => MR.mv (v := .int .u8 n) rfl) (RG.q (fun _ _ => MR.mv (v := .int .i64 (most : Nat)) rfl) (RG.q (fun w' hS => MR.ldRow (b := w.heap.size) (o := 0) (cs := ct) rfl ok.trR (by rw [lct]; exact ok.trN) (fun j u hu => hS.kp _ _ (r3 j u hu))) ?_))
 refine RG.ca (R := fun v w' => ∃ cm, v = .agg (List.toArray cm) ∧ RepMs w' fs flex cm ∧ Below w3.heap.size w3 w') hspec.1 (fun h0 => ?_) ?_
 ·refine Calls.mono (hspec.2 (World.drew1 w3)) ?_
  rintro e w' ⟨cm, rfl, h1, h2⟩
  exact ⟨_, rfl, ⟨cm, rfl, h1, hS h0 h2⟩, hS h0 h2⟩
 rintro v w4 ⟨cm, rfl, hms, b4⟩
 refine RG.ca (R := fun v w' => v = .int .i64 (n % (most + 1) : Nat) ∧ w' = w4) hver.1 (fun h0 => ?_) ?_
 ·refine Calls.mono (hver.2 w4 n most hn hm) ?_
  rintro e w' ⟨rfl, rfl⟩
  exact ⟨_, rfl, ⟨rfl, rfl⟩, h0⟩
 rintro v w4' ⟨rfl, rfl⟩
 obtain ⟨hlen, ds, ts, hd1, hd2, hd3, hd4⟩ := hpl (n % (most + 1)) hmod
 have elim : lim = 4294967295 := rfl
 refine RG.caB hwE (hw w4' cm ct t ((n % (most + 1) : Nat) : Int) flex hms (JL.kp b4.kp _ hrt3) hg (by omega)) rfl (fun w' h' h => hS h h') fun sv w5 o5 b5 => ?_
 refine RG.q (fun _ _ => MR.mv) (RG.nil fun b05 => ?_)
 have B5 : Below w.heap.size w w5 := B3.trans (b05.mono B3.size)
 obtain ⟨ad5, c5, rfl, had5, hc5, hby5⟩ := o5.bytes
 refine RW.sq (RW.rg (RL.s (MR.mv (v := .int .u8 n) rfl) (RL.s (MR.mv (v := .int .i64 (most : Nat)) rfl) ?_)))
 refine RL.ca (R := fun v w' => v = .int .i64 (n % (most + 1) : Nat) ∧ w5 = w') hver.1 ?_ ?_
 ·refine Calls.mono (hver.2 w5 n most hn hm) ?_
  rintro e w' ⟨rfl, rfl⟩
  exact ⟨_, rfl, rfl, rfl⟩
 rintro v w6 ⟨rfl, rfl⟩
 refine RL.s MR.mv ?_
 have hagc := hag.2 w5 (n % (most + 1)) ad5 (JJ fs flex ((n % (most + 1) : Nat) : Int) t) c5 ev hmod hby5 hlen (B5.kp _ _ hev) herr (hone _ hmod) (fun ds' ts' r h => by
  rw [hd1] at h
  simp only [UC, Prod.mk.injEq] at h
  obtain ⟨⟨rfl, rfl⟩, rfl⟩ := h
  exact ⟨hd3, hd4, by rw [hd2]; exact hlen⟩)
 refine RL.ca (R := fun v w' => ∃ sv, v = .tuple #[sv, .bool true] ∧ OwnB S.T.u8 w' w5.heap.size sv (JJ fs flex ((n % (most + 1) : Nat) : Int) t) ∧ Below w5.heap.size w5 w') hag.1 ?_ ?_
 ·refine Calls.mono hagc ?_
  rintro e w' ⟨hb', ⟨ds', ts', r, sv, h, rfl, ho⟩ | ⟨h, _⟩⟩
  ·rw [hd1] at h
   simp only [UC, Prod.mk.injEq] at h
   obtain ⟨⟨rfl, rfl⟩, rfl⟩ := h
   exact ⟨_, rfl, sv, rfl, by rw [← hd2]; exact ho, hb'⟩
  ·rw [hd1] at h; cases h
 rintro v w7 ⟨sv, rfl, o7, b7⟩
 have B7 : Below w.heap.size w w7 := B5.trans (b7.mono B5.size)
 obtain ⟨ad7, c7, rfl, had7, hc7, hby7⟩ := o7.bytes
 refine RL.s MR.mv (RL.s (MR.ext (v := .slice ad7 (JJ fs flex ((n % (most + 1) : Nat) : Int) t).length c7) rfl) (RL.s (MR.ext (v := .bool true) rfl) (RL.s MR.mv (RL.s MR.mv (RL.nil ?_)))))
 refine RW.sq (RW.sq (RW.rg (RL.s (MR.mv (v := .slice ad5 (JJ fs flex ((n % (most + 1) : Nat) : Int) t).length c5) rfl) (RL.s (MR.ln ok.tk.u8s rfl) (RL.s (MR.biE (v := .bool (((JJ fs flex ((n % (most + 1) : Nat) : Int) t).length : Int) == 0)) rfl) (RL.nil ?_))))))
 refine RW.cd rfl (fun e0 => RW.sq (RW.rg (RL.s (MR.mv (v := .bool true) rfl) (RL.s MR.mv (RL.nil (RW.rt ⟨rfl, B7⟩)))))) (fun e0 => RW.sk ?_)
 have hl0 : 0 < (JJ fs flex ((n % (most + 1) : Nat) : Int) t).length := by have := beq_eq_false_iff_ne.1 e0; omega
 have hklt : mc % (JJ fs flex ((n % (most + 1) : Nat) : Int) t).length < (JJ fs flex ((n % (most + 1) : Nat) : Int) t).length := Nat.mod_lt _ hl0
 have hrem : evB .rem (.int .i64 (mc : Nat)) (.int .i64 ((JJ fs flex ((n % (most + 1) : Nat) : Int) t).length : Nat)) = some (.int .i64 ((mc % (JJ fs flex ((n % (most + 1) : Nat) : Int) t).length : Nat) : Int)) := by
  simp only [evB]
  rw [if_pos ⟨trivial, by omega⟩]
  rfl
 have hu8 : (P.info? S.T.u8).isSome = true := by obtain ⟨i, hi, _⟩ := QB ok.tk.u8; rw [hi]; rfl
 have hby57 : Jg w7 (fun _ => True) ad5 (JJ fs flex ((n % (most + 1) : Nat) : Int) t) := hby5.kp b7.kp
 refine RW.sq (RW.gd ok.mo (Below w7.heap.size w7) (JI _ _) ?_)
 have hS7 : ∀ {wa wb : World}, Below w7.heap.size w7 wa → Below wa.heap.size wa wb → Below w7.heap.size w7 wb := fun h k => h.trans (k.mono h.size)
 refine RG.q (fun _ _ => MR.mv (v := .int .u8 n) rfl) (RG.q (fun _ _ => MR.mv (v := .int .i64 (most : Nat)) rfl) (RG.q (fun _ _ => MR.mv (v := .slice ad5 (JJ fs flex ((n % (most + 1) : Nat) : Int) t).length c5) rfl) (RG.q (fun _ _ => MR.mv (v := .int .u16 (mc : Nat)) rfl)
  (RG.q (fun _ _ => MR.cvI rfl (ok.tk.u16 h16u) ok.tk.int) ?_))))
 rw [Ju (show -9223372036854775808 ≤ (mc : Int) by omega) (by omega)]
 refine RG.q (fun _ _ => MR.mv (v := .slice ad5 (JJ fs flex ((n % (most + 1) : Nat) : Int) t).length c5) rfl) (RG.q (fun _ _ => MR.ln ok.tk.u8s rfl) (RG.q (v := .int .i64 ((mc % (JJ fs flex ((n % (most + 1) : Nat) : Int) t).length : Nat) : Int)) (fun _ _ => MR.biE hrem)
   (RG.q (v := .slice ad5 (mc % (JJ fs flex ((n % (most + 1) : Nat) : Int) t).length) c5) (fun _ _ => MR.sl (run_sliceTo (h := mc % (JJ fs flex ((n % (most + 1) : Nat) : Int) t).length) ok.tk.u8s hu8 had5 (by omega))) ?_)))
 refine RG.ca (R := fun v w' => v = .int .i64 (n % (most + 1) : Nat) ∧ Below w7.heap.size w7 w') hver.1 (fun h0 => ?_) ?_
 ·refine Calls.mono (hver.2 (World.drew1 w7) n most hn hm) ?_
  rintro e w' ⟨rfl, rfl⟩
  exact ⟨_, rfl, ⟨rfl, h0⟩, h0⟩
 rintro v w8 ⟨rfl, b8⟩
 have hk1 : ((JJ fs flex ((n % (most + 1) : Nat) : Int) t).take (mc % (JJ fs flex ((n % (most + 1) : Nat) : Int) t).length)).length = mc % (JJ fs flex ((n % (most + 1) : Nat) : Int) t).length := by rw [List.length_take]; omega
 have hnone := hcut (n % (most + 1)) _ hmod hklt
 have hag2 := hag.2 w8 (n % (most + 1)) ad5 ((JJ fs flex ((n % (most + 1) : Nat) : Int) t).take (mc % (JJ fs flex ((n % (most + 1) : Nat) : Int) t).length)) c5 ev hmod ((hby57.take _).kp b8.kp) (by rw [hk1]; omega) (b8.kp _ _ (B7.kp _ _ hev)) herr (oneTag.take (m := (JJ fs flex ((n % (most + 1) : Nat) : Int) t).drop (mc % (JJ fs flex ((n % (most + 1) : Nat) : Int) t).length)) (by rw [List.take_append_drop]; exact hone _ hmod)) (fun ds' ts' r h => by rw [hnone] at h; cases h)
 rw [hk1] at hag2
 refine RG.ca (R := fun v w' => v = .tuple #[.slice none 0 0, .bool false] ∧ Below w7.heap.size w7 w') hag.1 (fun h0 => ?_) ?_
 ·refine Calls.mono hag2 ?_
  rintro e w' ⟨hb', ⟨ds', ts', r, sv, h, _⟩ | ⟨_, rfl⟩⟩
  ·rw [hnone] at h; cases h
  ·exact ⟨_, rfl, ⟨rfl, hS7 h0 hb'⟩, hS7 h0 hb'⟩
 rintro v w9 ⟨rfl, b9⟩
 refine RG.q (fun _ _ => MR.mv (v := .tuple #[.slice none 0 0, .bool false]) rfl) (RG.q (fun _ _ => MR.ext (v := .slice none 0 0) rfl) (RG.q (fun _ _ => MR.ext (v := .bool false) rfl) (RG.q (fun _ _ => MR.mv (v := .slice none 0 0) rfl) (RG.q (fun _ _ => MR.mv (v := .bool false) rfl) (RG.nil fun b09 => ?_)))))
 have B9 : Below w.heap.size w w9 := B7.trans (b09.mono B7.size)
 refine RW.sq (RW.gf (Below w9.heap.size w9) (Below.refl _ _) ?_)
 refine RG.q (fun _ _ => MR.mv (v := .bool true) rfl) (RG.q (fun _ _ => MR.mv (v := .bool true) rfl) (RG.q (fun _ _ => MR.mv (v := .bool false) rfl) (RG.q (v := .bool true) (fun _ _ => MR.nt (b := false) rfl) (RG.q (fun _ _ => MR.pk (b := true) (v := .bool true) rfl rfl) (RG.q (fun _ _ => MR.mv (v := .bool true) rfl) (RG.nil fun h => RW.rt ⟨rfl, B9⟩))))))
end
set_option linter.unusedVariables false
def cLess (K : EN) : Jc := .sq (.rg [.mv 5 (.c (.bool false))]) (.sq (.gr true [⟨0, none, .ld 6 K.tKs 2⟩, ⟨1, none, .mv 7 (.t 0)⟩, ⟨2, none, .ia 8 K.tKs 6 7⟩, ⟨3, none, .ld 9 K.tU32 8⟩, ⟨4, none, .ld 10 K.tKs 2⟩, ⟨5, none, .mv 11 (.t 1)⟩, ⟨6, none, .ia 12 K.tKs 10 11⟩, ⟨7, none, .ld 13 K.tU32 12⟩, ⟨8, none, .bi 14 .lss K.tU32 (.t 9) (.t 13)⟩, ⟨9, none, .mv 5 (.t 14)⟩]) .rt)
section
variable {P : Program} {w : World} {T : IT} {K : EN}
theorem less_ok {f : Nat} (te : TgE P K T) (hmo : P.follows .mixedOrders = true) (hf : FnIs P f (cLess K) 15 5) {db g o n c i j a b : Nat} (hc : w.cell? ⟨db, 0, none⟩ = some (.slice (some ⟨g, o, none⟩) n c)) (hi : i < n) (hj : j < n) (ha : w.cell? ⟨g, o + i, none⟩ = some (u32V a)) (hb : w.cell? ⟨g, o + j, none⟩ = some (u32V b)) :
  Calls P f #[.int .i64 (i : Nat), .int .i64 (j : Nat), .pointer (some ⟨db, 0, none⟩)] w (fun e w' => e = .returned (.bool (decide (a < b))) ∧ w' = World.drew1 w) := by
 refine hf.runs (args := [.int .i64 (i : Nat), .int .i64 (j : Nat), .pointer (some ⟨db, 0, none⟩)]) (by simp) (by omega) ?_
 refine RW.sq (RW.rg (RL.s MR.mv (RL.nil (RW.sq (RW.gd hmo (fun w' => Kp w w') (Qy w) ?_)))))
 refine RG.q (fun w' h => MR.ld (p := ⟨db, 0, none⟩) rfl te.pk (h _ _ hc)) (RG.q (fun _ _ => MR.mv (v := .int .i64 (i : Nat)) rfl) (RG.q (fun _ _ => MR.ia (k := .i64) te.ks te.cu rfl rfl hi) (RG.q (fun w' h => MR.ld rfl te.pu (by rw [Nat.mul_one]; exact h _ _ ha))
  (RG.q (fun w' h => MR.ld (p := ⟨db, 0, none⟩) rfl te.pk (h _ _ hc)) (RG.q (fun _ _ => MR.mv (v := .int .i64 (j : Nat)) rfl) (RG.q (fun _ _ => MR.ia (k := .i64) te.ks te.cu rfl rfl hj) (RG.q (fun w' h => MR.ld rfl te.pu (by rw [Nat.mul_one]; exact h _ _ hb))
   (RG.q (v := .bool (decide ((a : Int) < (b : Nat)))) (fun _ _ => MR.biE rfl) (RG.q (fun _ _ => MR.mv (v := .bool (decide ((a : Int) < (b : Nat)))) rfl) (RG.nil fun _ => RW.rt ⟨?_, rfl⟩))))))))))
 show Ending.returned (.bool _) = _
 congr 2
 by_cases h : a < b
 ·rw [decide_eq_true h, decide_eq_true (by omega)]
 ·rw [decide_eq_false h, decide_eq_false (by omega)]
end
set_option linter.unusedVariables false
theorem sp_tags {P : Program} {S : SN} {SU : List (Nat × List UInt8) → Prop} (sp : SPC P S SU) (hby : bytesLe P S.tg 1000 = true) (hf : FnIs P S.fUnk (cUnk S) 85 4) : SPC P S Qt :=
 { ok := sp.ok, su0 := fun x hx => by simp at hx, fixed := sp.fixed, uvar := sp.uvar, width := sp.width, counted := sp.counted, whole := sp.whole, things := sp.things, has := sp.has, null := sp.null, at_ := sp.at_, known := sp.known, unk := ⟨hf.ent, fun w0 w ad c fs v u h1 h2 h3 h5 h4 _ => (unk_ok sp.ok hby hf sp.known).2 w0 w ad c fs v u h1 h2 h3 h5 h4 trivial⟩, value := sp.value, field := sp.field, part := sp.part }
/-! ### Sixteen octets, copied into an array -/
section
variable {P : Program} {w w' : World}
end
/-! ### Octets behind their length -/
def cByt (R : RN) : Jc := .sq (.rg [.mv 2 (.c .nslice)]) (.sq (.rg [.mv 4 (.t 0), .ca 5 R.i32 [.t 4], .mv 3 (.t 5)])
 (.sq (.sq (.rg [.mv 6 (.t 3), .bi 7 .eql R.T.i32 (.t 6) (.c (.int .i32 (-1)))]) (.cd 7 (.sq (.rg [.bsl 8 R.T.u8s [], .mv 2 (.t 8)]) .rt) .sk))
 (.sq (.rg [.mv 9 (.t 0), .mv 10 (.t 3), .cv 11 R.T.i32 R.T.int 10, .ca 12 R.span [.t 9, .t 11], .mv 2 (.t 12)]) .rt)))
def cCByt (R : RN) : Jc := .sq (.rg [.mv 2 (.c .nslice)]) (.sq (.rg [.mv 4 (.t 0), .ca 5 R.uv [.t 4], .cv 6 R.T.u32 R.T.int 5, .bi 7 .sub R.T.int (.t 6) (.c (.int .i64 1)), .mv 3 (.t 7)])
 (.sq (.sq (.rg [.mv 8 (.t 3), .bi 9 .eql R.T.int (.t 8) (.c (.int .i64 (-1)))]) (.cd 9 (.sq (.rg [.bsl 10 R.T.u8s [], .mv 2 (.t 10)]) .rt) .sk))
 (.sq (.rg [.mv 11 (.t 0), .mv 12 (.t 3), .ca 13 R.span [.t 11, .t 12], .mv 2 (.t 13)]) .rt)))
theorem I32.wr {n : Int} (h : I32 n) : IntKind.i64.wrap n = n := by obtain ⟨a1, a2⟩ := h; simp [IntKind.wrap, IntKind.signed, IntKind.bits]; omega
theorem beq_dec (a b : Int) : (a == b) = decide (a = b) := by by_cases h : a = b <;> simp [h]
section
variable {P : Program} {R : RN}
theorem byt_ok {f : Nat} (ok : ROK P R) (h32 : R.T.i32 ≠ 0) (hi : RdC P R.i32 (dInt 4) (PlB (fun x => .int .i32 x) I32)) (hsp : SpanC P R.span) (hf : FnIs P f (cByt R) 13 2) : RdC P f (dP .byt false) (PrC .byt) := by
 refine ⟨hf.ent, fun w rb sb st h hne => ?_⟩
 refine hf.runs (args := [.pointer (some ⟨rb, 0, none⟩)]) (by simp) (by omega) ?_
 refine RW.sq (RW.rg (RL.s MR.mv (RL.nil (RW.sq (RW.rg (RL.s (MR.mv (v := .pointer (some ⟨rb, 0, none⟩)) rfl) (RL.rd hi rfl h hne (by rfl) (by decide) ?_)))))))
 rintro v x st1 w1 hF hG hR ⟨rfl, hx⟩
 have hrb1 := hR.lt
 refine RL.s MR.mv (RL.nil (RW.sq (RW.sq (RW.rg (RL.s (MR.mv (v := .int .i32 x) rfl) (RL.s (MR.biE (v := .bool (decide (x = -1))) (by show some (Value.bool (x == -1)) = _; rw [beq_dec])) (RL.nil ?_)))))))
 refine RW.cd rfl (fun e => ?_) (fun e => RW.sk ?_)
 ·have e := of_decide_eq_true e
  refine RW.sq (RW.rg (RL.bsl8 (bs := []) ok.tk.u8s ok.tk.u8 rfl (by simp) (RL.s MR.mv (RL.nil (RW.rt ?_)))))
  have b1 := Jn w1 (.cells (([] : List UInt8).map JF).toArray R.T.u8)
  exact ⟨_, .s (some []), st1, rfl, hF.trans (Fr.ofBelow b1 hrb1), hG.bind (by rw [if_pos e]; exact Got.pure _), hR.below b1, rfl, rfl, rfl, _, _, [], rfl, fun j b hj => by simp at hj, rfl⟩
 have e := of_decide_eq_false e
 refine RW.sq (RW.rg (RL.s (MR.mv (v := .pointer (some ⟨rb, 0, none⟩)) rfl) (RL.s (MR.mv (v := .int .i32 x) rfl) (RL.s (MR.cvI rfl (ok.tk.i32 h32) ok.tk.int) (RL.span (n := x) hsp rfl (by show Value.int .i64 (IntKind.i64.wrap x) = _; rw [hx.wr]) hR hne (by rfl) (by rfl) (by decide) ?_)))))
 intro ad l st2 w2 hF2 hG2 hR2 ha hb
 refine RL.s MR.mv (RL.nil (RW.rt ?_))
 exact ⟨_, .s (some l), st2, rfl, hF.trans hF2, hG.bind (by rw [if_neg e]; exact hG2.map (f := fun l => D.s (some l))), hR2, rfl, rfl, rfl, _, _, l, rfl, hb.mono (fun _ h => .inl h) (fun _ _ => rfl), rfl⟩
theorem cbyt_ok {f : Nat} (ok : ROK P R) (h32 : R.T.u32 ≠ 0) (hi : RdC P R.uv dUv (PlB (fun x => .int .u32 (x : Nat)) (· < 4294967296))) (hsp : SpanC P R.span) (hf : FnIs P f (cCByt R) 14 2) : RdC P f (dP .byt true) (PrC .byt) := by
 refine ⟨hf.ent, fun w rb sb st h hne => ?_⟩
 refine hf.runs (args := [.pointer (some ⟨rb, 0, none⟩)]) (by simp) (by omega) ?_
 refine RW.sq (RW.rg (RL.s MR.mv (RL.nil (RW.sq (RW.rg (RL.s (MR.mv (v := .pointer (some ⟨rb, 0, none⟩)) rfl) (RL.rd hi rfl h hne (by rfl) (by decide) ?_)))))))
 rintro v x st1 w1 hF hG hR ⟨rfl, hx⟩
 have hrb1 := hR.lt
 refine RL.s (MR.cvI rfl (ok.tk.u32 h32) ok.tk.int) (RL.s (MR.biE (v := .int .i64 ((x : Int) - 1)) (by show some (Value.int .i64 (IntKind.i64.wrap (IntKind.i64.wrap (x : Int) - 1))) = _; rw [u32_w hx])) (RL.s MR.mv (RL.nil (RW.sq (RW.sq (RW.rg (RL.s (MR.mv (v := .int .i64 ((x : Int) - 1)) rfl) (RL.s (MR.biE (v := .bool (decide ((x : Int) - 1 = -1))) (by show some (Value.bool (((x : Int) - 1) == -1)) = _; rw [beq_dec])) (RL.nil ?_)))))))))
 refine RW.cd rfl (fun e => ?_) (fun e => RW.sk ?_)
 ·have e := of_decide_eq_true e
  refine RW.sq (RW.rg (RL.bsl8 (bs := []) ok.tk.u8s ok.tk.u8 rfl (by simp) (RL.s MR.mv (RL.nil (RW.rt ?_)))))
  have b1 := Jn w1 (.cells (([] : List UInt8).map JF).toArray R.T.u8)
  exact ⟨_, .s (some []), st1, rfl, hF.trans (Fr.ofBelow b1 hrb1), (hG.map (f := fun n : Nat => (n : Int) - 1)).bind (by rw [if_pos e]; exact Got.pure _), hR.below b1, rfl, rfl, rfl, _, _, [], rfl, fun j b hj => by simp at hj, rfl⟩
 have e := of_decide_eq_false e
 refine RW.sq (RW.rg (RL.s (MR.mv (v := .pointer (some ⟨rb, 0, none⟩)) rfl) (RL.s (MR.mv (v := .int .i64 ((x : Int) - 1)) rfl) (RL.span (n := (x : Int) - 1) hsp rfl rfl hR hne (by rfl) (by rfl) (by decide) ?_))))
 intro ad l st2 w2 hF2 hG2 hR2 ha hb
 refine RL.s MR.mv (RL.nil (RW.rt ?_))
 exact ⟨_, .s (some l), st2, rfl, hF.trans hF2, (hG.map (f := fun n : Nat => (n : Int) - 1)).bind (by rw [if_neg e]; exact hG2.map (f := fun l => D.s (some l))), hR2, rfl, rfl, rfl, _, _, l, rfl, hb.mono (fun _ h => .inl h) (fun _ _ => rfl), rfl⟩
/-! ### Octets that may be null; numbers with a point -/
end
set_option linter.unusedSimpArgs false
def rkB (P : Program) (R : RN) (G : TG) : List Bool := [(rokB P R).all id, (tgrB P G).all id,
 orNo R.be16 (isFn P R.be16 (cBe R R.T.u16 2 .u16) 18 4 && yes R.T.u16), orNo R.be32 (isFn P R.be32 (cBe R R.T.u32 4 .u32) 30 4 && yes R.T.u32), orNo R.be64 (isFn P R.be64 (cBe R R.T.u64 8 .u64) 54 4 && yes R.T.u64),
 orNo R.i16 (isFn P R.i16 (cNumC R 2 R.be16 R.T.u16 R.T.i16 .i16) 32 2 && yes R.be16 && yes R.T.u16 && yes R.T.i16), orNo R.i32 (isFn P R.i32 (cNumC R 4 R.be32 R.T.u32 R.T.i32 .i32) 32 2 && yes R.be32 && yes R.T.u32 && yes R.T.i32),
 orNo R.r64 (isFn P R.r64 (cNumU R 8 R.be64 .u64) 31 2 && yes R.be64), orNo R.i64 (isFn P R.i64 (cI64 R) 6 2 && yes R.r64 && yes R.T.u64 && yes R.T.i64), Nat.beq R.bool 0,
 orNo R.span (isFn P R.span (cSpan R) 40 4), orNo R.uvd (isFn2 P R.uvd (cUvd R) 87 2 3 && yes R.T.u32), orNo R.uv (isFn P R.uv (cRUv R) 31 2 && yes R.uvd && yes R.T.u32)]
theorem dNat_lt {k : Nat} {l r : List UInt8} {x : Nat} (h : dNat k l = some (x, r)) : x < 256 ^ k := by
 unfold dNat Dec.map at h
 cases ht : takeN k l with
 | none => simp [ht] at h
 | some p =>
  simp only [ht, Option.map_some, UC, Prod.mk.injEq] at h
  obtain ⟨rfl, _⟩ := h
  unfold takeN at ht
  split at ht
  ·simp only [UC] at ht
   subst ht
   refine Nat.lt_of_lt_of_le (beVal_lt _) (Nat.pow_le_pow_right (by omega) (by simp; omega))
  ·simp at ht
theorem rd_i16 {P : Program} {R : RN} {G : TG} (h : (rkB P R G).all id = true) : R.i16 ≠ 0 → RdC P R.i16 (dInt 2) (PlB (fun x => .int .i16 x) I16) := by
 simp only [rkB, List.all_cons, List.all_nil, id_eq, Bool.and_true, UA] at h
 obtain ⟨h1, h2, h3, h4, h5, h6, _⟩ := h
 intro e
 have ok := rok_of h1
 have := Jy h6 e
 simp only [UA] at this
 obtain ⟨⟨⟨a1, a2⟩, a3⟩, a4⟩ := this
 have hb := Jy h3 (Js a2)
 simp only [UA] at hb
 have hbe : BeC P R.be16 2 .u16 := be_ok ok ku16 (ok.tk.u16 (Js a3)) (by omega) (FnIs.of hb.1)
 exact (numC_ok ok hbe (by omega) (ok.tk.u16 (Js a3)) (ok.tk.i16 (Js a4)) (fun x hx => wrap_sgn16 hx) (FnIs.of a1)).c (fun l x r hd => by
  have := dInt_some (by omega) hd
  simp only [Nat.reducePow, Nat.reduceDiv] at this
  exact ⟨by omega, by omega⟩) ⟨by show (-32768 : Int) ≤ 0; omega, by show (0 : Int) ≤ 32767; omega⟩
theorem rd_i32S {P : Program} {R : RN} {G : TG} (h : (rkB P R G).all id = true) : R.i32 ≠ 0 → RdCS P R.i32 (dInt 4) (PlB (fun x => .int .i32 x) I32) := by
 simp only [rkB, List.all_cons, List.all_nil, id_eq, Bool.and_true, UA] at h
 obtain ⟨h1, h2, h3, h4, h5, h6, h7, _⟩ := h
 intro e
 have ok := rok_of h1
 have := Jy h7 e
 simp only [UA] at this
 obtain ⟨⟨⟨a1, a2⟩, a3⟩, a4⟩ := this
 have hb := Jy h4 (Js a2)
 simp only [UA] at hb
 have hbe : BeC P R.be32 4 .u32 := be_ok ok ku32 (ok.tk.u32 (Js a3)) (by omega) (FnIs.of hb.1)
 exact (numC_okS ok hbe (by omega) (ok.tk.u32 (Js a3)) (ok.tk.i32 (Js a4)) (fun x hx => wrap_sgn32 hx) (FnIs.of a1)).c (fun l x r hd => by
  have := dInt_some (by omega) hd
  simp only [Nat.reducePow, Nat.reduceDiv] at this
  exact ⟨by omega, by omega⟩) ⟨by show (-2147483648 : Int) ≤ 0; omega, by show (0 : Int) ≤ 2147483647; omega⟩
theorem rd_i32 {P : Program} {R : RN} {G : TG} (h : (rkB P R G).all id = true) : R.i32 ≠ 0 → RdC P R.i32 (dInt 4) (PlB (fun x => .int .i32 x) I32) := fun e => (rd_i32S h e).n
theorem rd_uvS {P : Program} {R : RN} {G : TG} (h : (rkB P R G).all id = true) : R.uv ≠ 0 → RdCS P R.uv dUv (PlB (fun x => .int .u32 (x : Nat)) (· < 4294967296)) := by
 simp only [rkB, List.all_cons, List.all_nil, id_eq, Bool.and_true, UA] at h
 obtain ⟨h1, _, _, _, _, _, _, _, _, _, _, h12, h13⟩ := h
 intro e
 have ok := rok_of h1
 have a := Jy h13 e
 simp only [UA] at a
 have b := Jy h12 (Js a.1.2)
 simp only [UA] at b
 exact ruv_okS ok (uvd_ok ok (Js b.2) (FnIs2.of b.1)) (FnIs.of a.1.1)
theorem rd_uv {P : Program} {R : RN} {G : TG} (h : (rkB P R G).all id = true) : R.uv ≠ 0 → RdC P R.uv dUv (PlB (fun x => .int .u32 (x : Nat)) (· < 4294967296)) := fun e => (rd_uvS h e).n
theorem rd_i64 {P : Program} {R : RN} {G : TG} (h : (rkB P R G).all id = true) : R.i64 ≠ 0 → RdC P R.i64 (dInt 8) (PlB (fun x => .int .i64 x) (fun n => -9223372036854775808 ≤ n ∧ n ≤ 9223372036854775807)) := by
 simp only [rkB, List.all_cons, List.all_nil, id_eq, Bool.and_true, UA] at h
 obtain ⟨h1, h2, h3, h4, h5, h6, h7, h8, h9, _⟩ := h
 intro e
 have ok := rok_of h1
 have a := Jy h9 e
 simp only [UA] at a
 obtain ⟨⟨⟨a1, a2⟩, a3⟩, a4⟩ := a
 have b := Jy h8 (Js a2)
 simp only [UA] at b
 have c := Jy h5 (Js b.2)
 simp only [UA] at c
 have hbe : BeC P R.be64 8 .u64 := be_ok ok ku64 (ok.tk.u64 (Js c.2)) (by omega) (FnIs.of c.1)
 exact (i64_ok ok (Js a3) (Js a4) (numU_ok ok hbe (by omega) (FnIs.of b.1)) (FnIs.of a1)).c (fun l x r hd => by
  have := dInt_some (by omega) hd
  simp only [Nat.reducePow, Nat.reduceDiv] at this
  exact ⟨by omega, by omega⟩) ⟨by show (-9223372036854775808 : Int) ≤ 0; omega, by show (0 : Int) ≤ 9223372036854775807; omega⟩
theorem rd_spanS {P : Program} {R : RN} {G : TG} (h : (rkB P R G).all id = true) : R.span ≠ 0 → SpanCS P R.span := by
 simp only [rkB, List.all_cons, List.all_nil, id_eq, Bool.and_true, UA] at h
 obtain ⟨h1, _, _, _, _, _, _, _, _, _, h11, _⟩ := h
 intro e
 exact span_okS (rok_of h1) (FnIs.of (Jy h11 e))
theorem rd_span {P : Program} {R : RN} {G : TG} (h : (rkB P R G).all id = true) : R.span ≠ 0 → SpanC P R.span := fun e => (rd_spanS h e).n
set_option linter.unusedSimpArgs false
def rk2B (P : Program) (R : RN) (G : TG) : List Bool := [
 orNo R.str (isFn P R.str (cStr R) 11 2 && yes R.T.str && yes R.T.i16 && yes R.i16 && yes R.span),
 orNo R.cstr (isFn P R.cstr (cCStr R) 12 2 && yes R.T.str && yes R.T.u32 && yes R.uv && yes R.span),
 Nat.beq R.nstr 0, Nat.beq R.cnstr 0,
 orNo R.alen (isFn P R.alen (cALen R) 21 2 && yes R.T.i32 && yes R.i32),
 orNo R.calen (isFn P R.calen (cCALen R) 23 2 && yes R.T.i32 && yes R.T.u32 && yes R.uv),
 orNo R.okf (isFn P R.okf (cOk R) 8 2), isFn P R.compl (cCompl R) 8 2,
 orNo G.fRead (isFnC P G.fRead (cReadTags R G) 24 2 G.tSt && isFn0 P G.fSet (cTagSet G) 21 && yes R.T.u32 && yes R.uv && yes R.span),
 orNo R.u16 (isFn P R.u16 (cNumU R 2 R.be16 .u16) 31 2 && yes R.be16 && yes R.T.u16),
 Nat.beq R.i8 0, orNo R.byt (isFn P R.byt (cByt R) 13 2 && yes R.T.i32 && yes R.i32 && yes R.span), orNo R.cbyt (isFn P R.cbyt (cCByt R) 14 2 && yes R.T.u32 && yes R.uv && yes R.span), Nat.beq R.nbyt 0, Nat.beq R.cnbyt 0, Nat.beq R.uuid 0]
def F64R (P : Program) (R : RN) : Prop := R.f64 ≠ 0 → ∀ flex, RdC P R.f64 (dP .f64 flex) (PrC .f64)
theorem f64r_none {P : Program} {R : RN} (h : R.f64 = 0) : F64R P R := fun e => absurd h e
theorem rd_u16 {P : Program} {R : RN} {G : TG} (h : (rkB P R G).all id = true) (e : R.be16 ≠ 0) (h16 : R.T.u16 ≠ 0) (hf : FnIs P R.u16 (cNumU R 2 R.be16 .u16) 31 2) : RdC P R.u16 (dNat 2) (PlB (fun x => .int .u16 (x : Nat)) (· < 65536)) := by
 simp only [rkB, List.all_cons, List.all_nil, id_eq, Bool.and_true, UA] at h
 obtain ⟨h1, h2, h3, _⟩ := h
 have ok := rok_of h1
 have hb := Jy h3 e
 simp only [UA] at hb
 have hbe : BeC P R.be16 2 .u16 := be_ok ok ku16 (ok.tk.u16 h16) (by omega) (FnIs.of hb.1)
 exact (numU_ok ok hbe (by omega) hf).c (fun l x r hd => dNat_lt hd) (by decide)
theorem rk_of {P : Program} {R : RN} {G : TG} (h : (rkB P R G).all id = true) (h2 : (rk2B P R G).all id = true) (hfl : F64R P R) : RKOK P R G := by
 have hh := h
 simp only [rkB, List.all_cons, List.all_nil, id_eq, Bool.and_true, UA] at hh
 obtain ⟨k1, k2, _, _, _, _, _, _, _, k10, _⟩ := hh
 have ok := rok_of k1
 have tg := tgr_of k2
 simp only [rk2B, List.all_cons, List.all_nil, id_eq, Bool.and_true, UA] at h2
 obtain ⟨t1, t2, t3, t4, t5, t6, t7, t8, t9, t10, z1, z2, z3, z4, z5, z6⟩ := h2
 refine ⟨ok, tg, fun k flex e => ?_, fun e => ?_, fun e => ?_, fun e => okf_ok ok (FnIs.of (Jy t7 e)), compl_ok ok (FnIs.of t8), fun e => ?_, fun e => rd_uv h e, fun e => rd_spanS h e, fun e => ?_⟩
 ·cases k <;> simp only [RN.fn] at e ⊢
  case i8 =>
   exact nbz z1 e
  case i16 =>
   refine (rd_i16 h e).map fun w F v x hx => ?_
   obtain ⟨rfl, a, b⟩ := hx
   exact ⟨rfl, rfl, rfl, x, rfl, rfl, a, b⟩
  case u16 =>
   have := Jy t10 e
   simp only [UA] at this
   refine (rd_u16 h (Js this.1.2) (Js this.2) (FnIs.of this.1.1)).map fun w F v x hx => ?_
   obtain ⟨rfl, a⟩ := hx
   exact ⟨rfl, rfl, rfl, _, rfl, rfl, by omega, by omega⟩
  case i32 =>
   refine (rd_i32 h e).map fun w F v x hx => ?_
   obtain ⟨rfl, a, b⟩ := hx
   exact ⟨rfl, rfl, rfl, x, rfl, rfl, a, b⟩
  case i64 =>
   refine (rd_i64 h e).map fun w F v x hx => ?_
   obtain ⟨rfl, a, b⟩ := hx
   exact ⟨rfl, rfl, rfl, x, rfl, rfl, a, b⟩
  case uuid =>
   exact nbz z6 e
  case bool =>
   exact nbz k10 e
  case f64 =>
   exact hfl e flex
  case str =>
   cases flex <;> simp only [if_true, if_false, UB] at e ⊢
   ·have := Jy t1 e
    simp only [UA] at this
    obtain ⟨⟨⟨⟨a1, a2⟩, a3⟩, a4⟩, a5⟩ := this
    exact str_ok ok (Js a2) (Js a3) (rd_i16 h (Js a4)) (rd_span h (Js a5)) (FnIs.of a1)
   ·have := Jy t2 e
    simp only [UA] at this
    obtain ⟨⟨⟨⟨a1, a2⟩, a3⟩, a4⟩, a5⟩ := this
    exact cstr_ok ok (Js a2) (Js a3) (rd_uv h (Js a4)) (rd_span h (Js a5)) (FnIs.of a1)
  case nstr =>
   cases flex <;> simp only [if_true, if_false, UB] at e ⊢
   ·exact nbz t3 e
   ·exact nbz t4 e
  case byt =>
   cases flex <;> simp only [if_true, if_false, UB] at e ⊢
   ·have := Jy z2 e
    simp only [UA] at this
    obtain ⟨⟨⟨a1, a2⟩, a3⟩, a4⟩ := this
    exact byt_ok ok (Js a2) (rd_i32 h (Js a3)) (rd_span h (Js a4)) (FnIs.of a1)
   ·have := Jy z3 e
    simp only [UA] at this
    obtain ⟨⟨⟨a1, a2⟩, a3⟩, a4⟩ := this
    exact cbyt_ok ok (Js a2) (rd_uv h (Js a3)) (rd_span h (Js a4)) (FnIs.of a1)
  case nbyt =>
   cases flex <;> simp only [if_true, if_false, UB] at e ⊢
   ·exact nbz z4 e
   ·exact nbz z5 e
 ·have := Jy t5 e
  simp only [UA] at this
  exact alen_ok ok (Js this.1.2) (rd_i32 h (Js this.2)) (FnIs.of this.1.1)
 ·have := Jy t6 e
  simp only [UA] at this
  obtain ⟨⟨⟨a1, a2⟩, a3⟩, a4⟩ := this
  exact calen_ok ok (Js a2) (Js a3) (rd_uv h (Js a4)) (FnIs.of a1)
 ·have := Jy t9 e
  simp only [UA] at this
  obtain ⟨⟨⟨⟨a1, a2⟩, a3⟩, a4⟩, a5⟩ := this
  exact readTags_ok ok tg (Js a3) (rd_uv h (Js a4)) (rd_span h (Js a5)) (set_ok tg (Qz.of a2)) (FnIsC.of a1)
 ·have := Jy t9 e
  simp only [UA] at this
  exact set_ok tg (Qz.of this.1.1.1.2)
end Go.Kx
namespace Go.Kx
open Go.RowKit Go.Proofs Go.Shelf Go.Sort Go.Lib
set_option linter.unusedVariables false
section
variable {P : Program} {w : World} {T : IT} {K : EN}
theorem swo_nat : SWO (fun a b : Nat => decide (a < b)) :=
 ⟨fun x => by simp, fun x y z h1 h2 => by simp only [decide_eq_true_eq] at *; omega, fun x y z h1 h2 => by simp only [decide_eq_false_iff_not] at *; omega⟩
theorem frozen_cells {g o : Nat} {cur : Array Value} {U : Nat} (h : w.heap[g]? = some (.cells cur U (0, 0))) : w.frozen? ⟨g, o, none⟩ = false := by
 simp [World.frozen?, h]
theorem sort_fin {U g n : Nat} {cur : Array Value} {ks : List Nat} (hg : w.heap[g]? = some (.cells cur U (0, 0))) (hl : ks.length = n) (hr : w.rangeAt g 0 (ks.map u32V)) (ht : w.there g 0 n) (hgs : g < w.heap.size)
  {d' : Array Nat} (hp : PermIn 0 ks.toArray.size ks.toArray d') (hs : SortedIn (fun a b : Nat => decide (a < b)) 0 ks.toArray.size d') {m : Nat} {os : Array Obj} :
  ∃ ks' : List Nat, ks'.Perm ks ∧ ks'.Pairwise (fun x y => x ≤ y) ∧ (grow (putRow u32V (Sort.ahead w m) g 0 d') os).rangeAt g 0 (ks'.map u32V) ∧ (∃ cur', (grow (putRow u32V (Sort.ahead w m) g 0 d') os).heap[g]? = some (.cells cur' U (0, 0))) ∧ Fr (fun _ => False) g 0 n w (grow (putRow u32V (Sort.ahead w m) g 0 d') os) := by
 have hsz : d'.size = n := by rw [hp.1]; simpa using hl
 have hH : Holds u32V (Sort.ahead w m) g 0 ks.toArray := fun j hj => by
  have hj' : j < ks.length := by simpa using hj
  refine ⟨?_, frozen_cells hg⟩
  have := hr j (u32V ks[j]) (by rw [List.getElem?_map, List.getElem?_eq_getElem hj']; rfl)
  rw [cell?_ahead, this, getElem!_pos _ j hj]
  simp
 have hgp : g < (putRow u32V (Sort.ahead w m) g 0 d').heap.size := by rw [Go.Sort.size_putRow]; exact hgs
 have hcell : ∀ j, j < n → (grow (putRow u32V (Sort.ahead w m) g 0 d') os).cell? ⟨g, 0 + j, none⟩ = some (u32V d'[j]!) := fun j hj => by
  rw [cell?_grow _ _ _ hgp, cell?_putRow u32V _ g 0 _ _ hH (by rw [hsz]; simpa using hl.symm) j (by omega)]
 have hblk : ∃ cur', (grow (putRow u32V (Sort.ahead w m) g 0 d') os).heap[g]? = some (.cells cur' U (0, 0)) := by
  refine ⟨putCells u32V 0 d' cur, ?_⟩
  rw [heap_grow_old _ _ hgp]
  simp only [putRow, mapBlock, Array.getElem?_modify, heap_ahead, hg, if_true, Option.map_some, onCells]
 refine ⟨d'.toList, ?_, ?_, ?_, hblk, ?_⟩
 ·have := hp.2.2
  rw [← hp.1] at this
  simp only [Array.extract_size] at this
  rw [hp.1, Array.extract_size] at this
  simpa using this
 ·rw [List.pairwise_iff_getElem]
  intro i j hi hj hij
  have hi' : i < d'.size := by simpa using hi
  have hj' : j < d'.size := by simpa using hj
  have := hs i j (Nat.zero_le _) hij (by rw [← hp.1]; exact hj')
  rw [getElem!_pos _ i hi', getElem!_pos _ j hj'] at this
  have := of_decide_eq_false this
  simp only [Array.getElem_toList]
  omega
 ·intro j u hu
  rw [List.getElem?_map] at hu
  by_cases hj : j < d'.size
  ·rw [hcell j (by omega), ← hu]
   rw [List.getElem?_eq_getElem (by simpa using hj), getElem!_pos _ j hj]
   simp
  ·rw [List.getElem?_eq_none (by simpa using hj)] at hu; simp at hu
 ·have hcell2 : ∀ j, (0 + n ≤ j) → (grow (putRow u32V (Sort.ahead w m) g 0 d') os).cell? ⟨g, j, none⟩ = w.cell? ⟨g, j, none⟩ := fun j hj => by
   rw [cell?_grow _ _ _ hgp, cell?_putRow_other _ _ _ _ _ _ (.inr (.inr (by show 0 + d'.size ≤ j; omega)))]; rfl
  refine ⟨rfl, rfl, rfl, ?_, fun k h1 h2 _ => ?_, fun j hj => hcell2 j (by omega), fun o' n' h j hj => ?_⟩
  ·rw [size_grow, Go.Sort.size_putRow]; simp
  ·rw [heap_grow_old _ _ (by rw [Go.Sort.size_putRow]; exact h1)]
   simp only [putRow, mapBlock, Array.getElem?_modify, heap_ahead]
   rw [if_neg (by omega)]
  ·obtain ⟨h1, h2⟩ := h j hj
   obtain ⟨cur', hc'⟩ := hblk
   refine ⟨?_, frozen_cells hc'⟩
   by_cases hj2 : o' + j < n
   ·rw [show o' + j = 0 + (o' + j) by omega, hcell _ hj2]; rfl
   ·rw [hcell2 _ (by omega)]; exact h1
theorem sort_ok {fSort tS U fLess : Nat} (te : TgE P K T) (hK1 : K.tKs = tS) (hK2 : K.tU32 = U) (hmo : P.follows .mixedOrders = true) (hl : FnIs P fLess (cLess K) 15 5) (ent : Jo P fSort = true)
  (hbig : ∀ (lb : Array Value) (blk off c : Nat) (d : Array Nat), 2 ≤ d.size → d.size < 4611686018427387904 → ∀ w : World, LessReads P fLess lb u32V (fun a b : Nat => decide (a < b)) blk off d.size w → Holds u32V w blk off d → blk < w.heap.size →
   Calls P fSort #[.iface tS (.slice (some ⟨blk, off, none⟩) d.size c), .func (.func fLess) #[] lb] w (fun e w' => e = .returned (.tuple #[]) ∧ ∃ d' n os, PermIn 0 d.size d d' ∧ SortedIn (fun a b : Nat => decide (a < b)) 0 d.size d' ∧ w' = grow (putRow u32V (Sort.ahead w n) blk off d') os))
  (htiny : ∀ (p : Option Addr) (n c : Nat), n ≤ 1 → ∀ (lf : Fn) (la lb : Array Value) (w : World), Calls P fSort #[.iface tS (.slice p n c), .func lf la lb] w (fun e w' => e = .returned (.tuple #[]) ∧ ∃ os, w' = grow w os)) : SortC P tS U fSort fLess := by
 subst hK1 hK2
 refine ⟨ent, fun w db g n c cur ks hdb hg hlen hn hkb hr ht hne hgs => ?_⟩
 subst hlen
 by_cases h2 : 2 ≤ ks.length
 ·have hd2 : ks.toArray.size = ks.length := by simp
  have hH : Holds u32V w g 0 ks.toArray := fun j hj => by
   have hj' : j < ks.length := by simpa using hj
   refine ⟨?_, frozen_cells hg⟩
   have := hr j (u32V ks[j]) (by rw [List.getElem?_map, List.getElem?_eq_getElem hj']; rfl)
   rw [this, getElem!_pos _ j hj]
   simp
  have hdbs : db < w.heap.size := (Array.getElem?_eq_some_iff.1 hdb).1
  have hless : LessReads P fLess #[.pointer (some ⟨db, 0, none⟩)] u32V (fun a b : Nat => decide (a < b)) g 0 ks.toArray.size w := by
   intro m os dk hs i j hi hj
   have hcd : (sortWorld u32V w g 0 m dk os).cell? ⟨db, 0, none⟩ = some (.slice (some ⟨g, 0, none⟩) ks.length c) := by
    unfold sortWorld
    rw [cell?_grow _ _ _ (by rw [Go.Sort.size_putRow]; exact hdbs), cell?_putRow_other _ _ _ _ _ _ (.inl (fun e => hne e.symm)), cell?_ahead]
    simp [World.cell?, hdb]
   have hc : ∀ t, t < ks.length → (sortWorld u32V w g 0 m dk os).cell? ⟨g, 0 + t, none⟩ = some (u32V dk[t]!) := fun t ht => by
    unfold sortWorld
    rw [cell?_grow _ _ _ (by rw [Go.Sort.size_putRow]; exact hgs), cell?_putRow u32V _ g 0 _ _ (holds_ahead _ _ m _ _ _ hH) hs t (by rw [hs, hd2]; exact ht)]
   exact (less_ok (i := i) (j := j) te hmo hl hcd (by simpa using hi) (by simpa using hj) (hc i (by simpa using hi)) (hc j (by simpa using hj))).mono fun e w' he => ⟨he.1, 1, he.2⟩
  have h := hbig #[.pointer (some ⟨db, 0, none⟩)] g 0 c ks.toArray (by simpa using h2) (by rw [hd2]; omega) w hless hH hgs
  rw [hd2] at h
  refine h.mono ?_
  rintro e w' ⟨he, d', m, os, hp, hso, rfl⟩
  exact ⟨he, sort_fin hg rfl hr ht hgs (by rw [hd2]; exact hp) (by rw [hd2]; exact hso)⟩
 ·refine (htiny (some ⟨g, 0, none⟩) ks.length c (by omega) (.func fLess) #[] #[.pointer (some ⟨db, 0, none⟩)] w).mono ?_
  rintro e w' ⟨he, os, rfl⟩
  have hH : Holds u32V w g 0 ks.toArray := fun j hj => by
   have hj' : j < ks.length := by simpa using hj
   refine ⟨?_, frozen_cells hg⟩
   have := hr j (u32V ks[j]) (by rw [List.getElem?_map, List.getElem?_eq_getElem hj']; rfl)
   rw [this, getElem!_pos _ j hj]
   simp
  have e0 : grow w os = grow (putRow u32V (Sort.ahead w 0) g 0 ks.toArray) os := by rw [ahead_zero, putRow_self _ _ _ _ _ hH]
  refine ⟨he, ?_⟩
  rw [e0]
  refine sort_fin hg rfl hr ht hgs ⟨rfl, fun _ _ => rfl, List.Perm.refl _⟩ (fun i j _ h1 h2 => ?_)
  have : ks.toArray.size = ks.length := by simp
  omega
end
end Go.Kx
namespace Go.Kx
open Go.RowKit
set_option linter.unusedSimpArgs false
set_option linter.unusedVariables false
structure FTN where
 f2 : Nat
 f3 : Nat
 f4 : Nat
def seat2B (P : Program) (K : KB) (g : TN) (S : SN) (R : RN) (G : TG) (E : EN) (Z : FTN) : List Bool := [(rkB P R G).all id, (rk2B P R G).all id, bytesLe P S.tg 1000,
 isFn0 P E.fCb (cCb K.T K.uv) 16, isFn0 P g.fEach (cEachF E) 53, Nat.beq g.fCb E.fCb, !(Nat.beq K.T.u8 K.T.u8s), !(Nat.beq E.tU32 K.T.u8), Jh P K.T.u8s 1, yes K.T.u32, yes K.uv,
 mapU P E.tMap, mapTy P E.tMap, Jm P E.tMap, Jd P E.tSt 0 0, Jk P E.tKs E.tU32, u32B P E.tU32, nilSB P E.tKs, Jh P E.tKs 1, Jm P E.tKs, Jm P E.tU32, Jh P E.tU32 1, JC P E.tInt .i64, !(Nat.beq E.tU32 E.tKs),
 isFn P Z.f4 (cFits4 S) 7 2, isFn P Z.f3 (cFits3 S Z.f4) 18 2, isFn P Z.f2 (cFits2 S Z.f3) 15 2]
def FlOk (P : Program) (K : KB) (R : RN) : Prop := F64W P K ∧ F64R P R
theorem fl_none {P : Program} {K : KB} {R : RN} (h1 : K.f64 = 0) (h2 : R.f64 = 0) : FlOk P K R := ⟨f64w_none h1, f64r_none h2⟩
structure SeatA (P : Program) (K : KB) (g : TN) (S : SN) (R : RN) (G : TG) : Prop where
 kk : KOK P K
 ok : SOK0 P S
 same : SameC P S.fSame
 ver : S.fVer ≠ 0 → VerC P S.fVer
 h16 : K.T.i16 ≠ 0
 c16 : Jh P K.T.i16 1 = true
 u8 : K.T.u8 = S.T.u8
 rk : RKOK P R G
 ao : AOK P (K.ia g) Ql
structure Seat2 (P : Program) (K : KB) (g : TN) (S : SN) (R : RN) (G : TG) (E : EN) (Z : FTN) : Prop where
 se : Seat P K g S
 rk : RKOK P R G
 sp : SPC P S Qt
 ao : AOK P (K.ia g) Ql
 fits : FitsC P Z.f2
theorem tge_of {P : Program} {E : EN} {T : IT} (h1 : mapU P E.tMap = true) (h2 : mapTy P E.tMap = true) (h3 : Jm P E.tMap = true) (h4 : Jd P E.tSt 0 0 = true) (h5 : Jk P E.tKs E.tU32 = true) (h6 : u32B P E.tU32 = true) (h7 : nilSB P E.tKs = true)
  (h8 : Jh P E.tKs 1 = true) (h9 : Jm P E.tKs = true) (h10 : Jm P E.tU32 = true) (h11 : Jh P E.tU32 1 = true) (h12 : JC P E.tInt .i64 = true) (h13 : E.tU32 ≠ E.tKs) : TgE P E T := ⟨h1, h2, h3, h4, h5, h6, h7, h8, h9, h10, h11, h12, h13⟩
theorem nbeq {a b : Nat} (h : (!(Nat.beq a b)) = true) : a ≠ b := fun e => by subst e; simp at h
section
variable {P : Program} {K : KB} {g : TN} {S : SN} {R : RN} {G : TG} {E : EN} {Z : FTN}
theorem te_of (h2 : (seat2B P K g S R G E Z).all id = true) : TgE P E K.T := by
 simp only [seat2B, List.all_cons, List.all_nil, id_eq, Bool.and_true, UA] at h2
 obtain ⟨a1, a2, a3, a4, a5, a6, a7, a8, a9, a10, a11, b1, b2, b3, b4, b5, b6, b7, b8, b9, b10, b11, b12, b13, c1, c2, c3⟩ := h2
 exact tge_of b1 b2 b3 b4 b5 b6 b7 b8 b9 b10 b11 b12 (nbeq b13)
theorem seat2_of (h : (seatB P K g S).all id = true) (h2 : (seat2B P K g S R G E Z).all id = true) (hso : SortC P E.tKs E.tU32 E.fSort E.fLess) (hfl : FlOk P K R) (hzs : g.zSame ≠ 0 → ZsC P g.zNew g.zSame) : Seat2 P K g S R G E Z := by
 have se := seat_of h hfl.1
 simp only [seat2B, List.all_cons, List.all_nil, id_eq, Bool.and_true, UA] at h2
 obtain ⟨a1, a2, a3, a4, a5, a6, a7, a8, a9, a10, a11, b1, b2, b3, b4, b5, b6, b7, b8, b9, b10, b11, b12, b13, c1, c2, c3⟩ := h2
 have te : TgE P E K.T := tge_of b1 b2 b3 b4 b5 b6 b7 b8 b9 b10 b11 b12 (nbeq b13)
 have hcb : CbC P K.T E.fCb := cb_ok se.kk.tk (nbeq a7) a9 se.tg.plu (Js a10) (se.kk.uvg (Js a11)) (Qz.of a4)
 have hte : TeachG P K.T.u8 g.fTeach smallT := teach_ok (fEach := 0) se.kk.tk te (nbeq a7) (nbeq a8) se.tg.plu hcb hso (Qz.of a5) (by simpa using a6) se.tg.teach
 have hunk : FnIs P S.fUnk (cUnk S) 85 4 := by
  simp only [seatB, List.all_cons, List.all_nil, id_eq, Bool.and_true, UA] at h
  obtain ⟨h1, h2, h3, h4, h5, h6, h7, h8, h9, h10, h11, h12, h13, h14, h15, h16, h17, h18, h19, h20, h21, h22, h23, h24, h25, h26, h27, h28, h29, h30, h31, h32⟩ := h
  exact FnIs.of h20
 exact {
  se := se
  rk := rk_of a1 a2 hfl.2
  sp := sp_tags se.sp a3 hunk
  ao := aok_tags se.kk se.tg (tlen_ok se.tg) se.ok.z.mo hzs hte
  fits := ⟨(FnIs.of c3).ent, fun w cs t hr => fits2_ok se.ok (FnIs.of c1) (FnIs.of c2) (FnIs.of c3) w cs t hr⟩ }
theorem Seat2.a (se : Seat2 P K g S R G E Z) : SeatA P K g S R G := ⟨se.se.kk, se.se.ok.z, se.se.same, se.se.ver, se.se.h16, se.se.c16, se.se.u8, se.rk, se.ao⟩
structure RL0 where
 f : Nat
 fMax : Nat
 fSpec : Nat
 fAgain : Nat
 fPtr : Nat
 fDef : Nat
 fMv : Nat
 fSet : Nat
 fAp : Nat
 fRd : Nat
 fRF : Nat
 tErr : Nat
 most : Nat
 L : Nat
 N : Nat
 LR : Nat
 NR : Nat
 pl : Plan
 zs : List MVal
 df : Dfs
 sx : SxL
 flex : Int
def msgB (P : Program) (K : KB) (g : TN) (S : SN) (R : RN) (G : TG) (n : RL0) : List Bool := [isFn P n.fMax (cMax K.T n.fPtr n.fMv) 4 0, isFn P n.fMv (cMv n.most) 3 2, Nat.blt n.most 32768,
 isFn P n.fPtr (cPtr n.pl.T n.fDef) 3 0, zeroIs P n.pl.T n.zs, isFn0 P n.fDef (rows (genD 0 n.df (QK n.df) 2).1) (genD 0 n.df (QK n.df) 2).2.1, okD P n.zs.length n.df 0, Nat.ble (genD 0 n.df (QK n.df) 2).2.2 (QK n.df),
 isFn0 P n.fSet (cSet K.T n.pl.T) 8, Jd P n.pl.T 0 0, isFn P n.fAp (topA (K.ia g) n.pl n.L) n.N 4, okTop P (K.ia g) n.pl n.L n.N, firstZero (putM n.df 0 n.zs),
 isFn2 P n.fAgain (cAgain K.T n.tErr n.fPtr n.fSet n.fRd n.fAp) 19 4 5, isFn P n.fRd (cReadFrom n.fRF) 8 4, isFn P n.fRF (cRF R G n.pl n.fDef n.LR).1 n.NR 6, (rfB P R G n.pl n.fDef n.df (putM n.df 0 n.zs).tail n.LR n.NR).all id, ifaceTy P n.tErr, yes S.fVer]
theorem msg_of (se : SeatA P K g S R G) {n : RL0} (h : (msgB P K g S R G n).all id = true) : MaxC P n.fMax n.most ∧ AgainC P S.T.u8 n.fAgain R.gErr n.most n.pl ∧ n.most < 32768 ∧ S.fVer ≠ 0 := by
 simp only [msgB, List.all_cons, List.all_nil, id_eq, Bool.and_true, UA] at h
 obtain ⟨h1, h2, h3, h4, h5, h6, h7, h8, h9, h10, h11, h12, h13, h14, h15, h16, h17, h18, h19⟩ := h
 simp only [Nat.blt_eq, Nat.ble_eq] at h3 h8
 have hm : n.most < 32768 := h3
 obtain ⟨rest, hrest⟩ : ∃ rest, putM n.df 0 n.zs = .int .i16 0 :: rest := by
  cases hq : putM n.df 0 n.zs with
  | nil => rw [hq] at h13; simp [firstZero] at h13
  | cons m r =>
   rw [hq] at h13
   cases m <;> try (simp [firstZero] at h13; done)
   rename_i kk nn
   cases kk <;> try (simp [firstZero] at h13; done)
   simp only [firstZero] at h13
   rw [Jw h13]; exact ⟨r, rfl⟩
 have hcs : putD n.df 0 (n.zs.map MVal.val) = .int .i16 0 :: rest.map MVal.val := by rw [← putM_val, hrest]; rfl
 have hdef : DefC P n.fDef (n.zs.map MVal.val) (.int .i16 0 :: rest.map MVal.val) := by
  rw [← hcs]
  exact defC_of (defD_of (n := n.zs.length) (Qz.of h6) h7 h8) (by simp)
 have hlen : (Value.int .i16 0 :: rest.map MVal.val).length = (n.zs.map MVal.val).length := by rw [← hcs, putD_len]
 have hptr : PtrC P n.fPtr (.int .i16 0 :: rest.map MVal.val) := ptr_of (FnIs.of h4) (QX h5) hdef hlen
 rw [hrest] at h17
 have hrf := rf_of se.rk h17 (FnIs.of h16)
 refine ⟨max_of se.kk.tk se.h16 (FnIs.of h1) hptr (FnIs.of h2) hm, ?_, hm, Js h19⟩
 rw [← se.u8]
 exact again_ok se.kk se.ao se.h16 se.c16 h18 hm (FnIs2.of h14) hptr (Qz.of h9) h10 (FnIs.of h15) hrf (FnIs.of h11) h12
def specB (P : Program) (S : SN) (n : RL0) : List Bool := [isFnC P n.fSpec (cSpec S (toSF n.sx) n.flex) ((Yb S.fd (toSF n.sx) 1).2.2 + 2) 0 S.msg, okS P S n.sx, !n.sx.isNil, Nat.ble (QO n.sx).toList.length 1000, Q0 (QO n.sx), mTopB n.pl (QO n.sx) n.flex n.most, isFn P S.fUsual (cUsual S) 91 4]
theorem spec2_of (se : Seat2 P K g S R G E Z) {n : RL0} (h : (specB P S n).all id = true) : SpecC P n.fSpec (QO n.sx) n.flex ∧ WriteCK P S Qt (QO n.sx) ∧ mTopB n.pl (QO n.sx) n.flex n.most = true := by
 simp only [specB, List.all_cons, List.all_nil, id_eq, Bool.and_true, UA] at h
 obtain ⟨h15, h16, h17, h18, h19, h20, h21⟩ := h
 simp only [Nat.ble_eq] at h18
 have hne : QO n.sx ≠ .nil := by
  intro e
  cases hx : n.sx with
  | nil => rw [hx] at h17; simp [SxL.isNil] at h17
  | cons x r => rw [hx] at e; unfold QO at e; cases e
 exact ⟨spec_of (flex := n.flex) se.se.ok (FnIsC.of h15) (okS_of se.se.ok n.sx h16) hne h18, write_ofK se.se.wr (fs := QO n.sx) se.sp.ok se.sp.part.ent (part_allK se.sp se.se.same (FnIs.of h21) h19 (by omega)), h20⟩
theorem cut_law (se : Seat2 P K g S R G E Z) (n : RL0) (h1 : (msgB P K g S R G n).all id = true) (h2 : (specB P S n).all id = true) (h3 : isFn P n.f (cLawCut S Z.f2 n.fMax n.fSpec n.fAgain) 56 6 = true) (h4 : yes S.T.u16 = true)
  (w : World) (k mc : Nat) (hk : k < 256) (hmc : mc < 65536) (ct : List Value) (t : Tr) (hrt : JL w t ct) (hg : Qb Qt t) (ev : Value) (hev : w.cell? ⟨R.gErr, 0, none⟩ = some ev) (herr : isErr ev) (hlen : ∀ v, v ≤ n.most → (JJ (QO n.sx) n.flex (v : Nat) t).length ≤ 2147483648) :
  Calls P n.f #[.int .u8 k, .agg ct.toArray, .int .u16 (mc : Nat)] w (fun e w' => e = .returned (.bool true) ∧ Below w.heap.size w w') := by
 obtain ⟨hmax, hag, hm, hv0⟩ := msg_of se.a h1
 obtain ⟨hspec, hwr, hmt⟩ := spec2_of se h2
 refine law_cut se.sp (FnIs.of h3) (Js h4) se.fits hwr se.se.wr.ent se.se.same (se.se.ver hv0) hmax hspec hag hm w k mc hk hmc ct t hrt hg ev hev herr (fun v hv => ⟨hlen v hv, againTop hmt hv hg (by have := hlen v hv; omega)⟩) (fun v hv => one_plain hmt hv hg (by have := hlen v hv; omega)) (fun v j hv hj => ?_)
 refine cut_plain hmt hv hg (by have := hlen v hv; omega) (m := (JJ (QO n.sx) n.flex (v : Nat) t).drop j) (List.take_append_drop _ _).symm ?_
 intro e
 have := congrArg List.length e
 simp at this
 omega
end
end Go.Kx
namespace Go.Kx
set_option linter.unusedVariables false
def szU : List (Nat × List UInt8) → Nat
 | [] => 0
 | x :: r => 1 + x.2.length + szU r
mutual
def szT : Tr → Nat
 | .mk _ s _ l u => 1 + s.length + szTs l + szU u
def szTs : Trs → Nat
 | .nil => 0
 | .cons t r => szT t + szTs r
end
theorem szT_pos : ∀ t : Tr, 1 ≤ szT t
 | .mk _ _ _ _ _ => by unfold szT; omega
theorem szTs_sum : ∀ l : Trs, szTs l = (l.toList.map szT).sum
 | .nil => by unfold szTs; rfl
 | .cons t r => by unfold szTs Trs.toList; rw [List.map_cons, List.sum_cons, szTs_sum r]
theorem szT_l (t : Tr) : (t.l.map szT).sum ≤ szT t := by
 cases t with
 | mk n s b l u =>
  show (l.toList.map szT).sum ≤ _
  unfold szT
  rw [← szTs_sum l]; omega
theorem szT_s (t : Tr) : 1 + t.s.length ≤ szT t := by
 cases t with
 | mk n s b l u => unfold szT; show 1 + s.length ≤ _; omega
theorem szT_u (t : Tr) : szU t.u ≤ szT t := by
 cases t with
 | mk n s b l u => unfold szT; show szU u ≤ _; omega
theorem mem_sum {l : List Tr} {x : Tr} (h : x ∈ l) : szT x ≤ (l.map szT).sum := by
 induction l with
 | nil => simp at h
 | cons y l ih =>
  rw [List.map_cons, List.sum_cons]
  simp only [List.mem_cons] at h
  rcases h with rfl | h
  ·omega
  ·have := ih h; omega
theorem take_sum (k : Nat) : ∀ (l : List Tr), ((l.take k).map szT).sum ≤ (l.map szT).sum := by
 induction k with
 | zero => intro l; simp
 | succ k ih =>
  intro l
  cases l with
  | nil => simp
  | cons y l => rw [List.take_succ_cons, List.map_cons, List.sum_cons, List.map_cons, List.sum_cons]; have := ih l; omega
theorem szT_at (t : Tr) (i : Nat) : szT (t.l.getD i .zero) ≤ szT t := by
 rw [List.getD_eq_getElem?_getD]
 cases h : t.l[i]? with
 | none => simp only [Option.getD_none]; have := szT_pos t; have : szT .zero = 1 := rfl; omega
 | some x => simp only [Option.getD_some]; exact Nat.le_trans (mem_sum (List.mem_of_getElem? h)) (szT_l t)
theorem uvb_le : ∀ (j n : Nat), (uvb j n).length ≤ j + 1
 | 0, n => by simp [uvb]
 | j + 1, n => by
  unfold uvb
  split
  ·simp
  ·rw [List.length_cons]; have := uvb_le j (n / 128); omega
theorem uv_le (n : Nat) : (uv n).length ≤ 10 := uvb_le 9 n
theorem cnt_le (flex : Bool) (k n : Nat) (hk : k ≤ 10) : (cnt flex k n).length ≤ 10 := by
 unfold cnt
 split
 ·exact uv_le _
 ·rw [QL]; exact hk
theorem sCnt_le (flex null : Bool) (n k : Nat) (hk : k ≤ 10) : (sCnt flex null n k).length ≤ 10 := by
 unfold sCnt
 split
 ·rw [cntNull_len]; split <;> omega
 ·exact cnt_le _ _ _ hk
theorem szU_ins (t : Nat × List UInt8) : ∀ (xs : List (Nat × List UInt8)), szU (Qf t xs) ≤ 1 + t.2.length + szU xs
 | [] => by simp [Qf, szU]
 | x :: xs => by
  have := szU_ins t xs
  unfold Qf
  split
  ·simp only [szU]; omega
  ·split
   ·simp only [szU]; omega
   ·simp only [szU]; omega
theorem szU_fold {least : Nat} : ∀ (l out : List (Nat × List UInt8)), szU (l.foldl (fun out t => if t.1 < least then out else Qf t out) out) ≤ szU out + szU l
 | [], out => by simp [szU]
 | t :: l, out => by
  rw [List.foldl_cons]
  refine Nat.le_trans (szU_fold l _) ?_
  simp only [szU]
  split
  ·omega
  ·have := szU_ins t out; omega
theorem szU_take : ∀ (k : Nat) (l : List (Nat × List UInt8)), szU (l.take k) ≤ szU l
 | 0, l => by simp [szU]
 | k + 1, [] => by simp
 | k + 1, x :: l => by rw [List.take_succ_cons]; simp only [szU]; have := szU_take k l; omega
theorem szU_unk (least : Nat) (l : List (Nat × List UInt8)) : szU (sUnk least l) ≤ szU l := by
 unfold sUnk
 refine Nat.le_trans (szU_fold _ _) ?_
 have := szU_take most l
 simp only [szU]; omega
theorem sTag_le (t : Nat × List UInt8) : (sTag t).length ≤ 20 * (1 + t.2.length) := by
 unfold sTag
 have h1 := uv_le t.1
 have h2 := uv_le (t.2.take most).length
 have h3 : (t.2.take most).length ≤ t.2.length := by rw [List.length_take]; omega
 simp only [UD] at *
 omega
theorem flat_tags : ∀ (l : List (Nat × List UInt8)), (l.flatMap sTag).length ≤ 20 * szU l
 | [] => by simp
 | x :: l => by
  have h1 := flat_tags l
  have h2 := sTag_le x
  rw [List.flatMap_cons, UD]
  simp only [szU]; omega
mutual
def costF : Fd → Nat
 | .mk _ _ _ _ _ _ _ sub => 60 + Qo sub
def Qo : Fds → Nat
 | .nil => 0
 | .cons f r => (20 + costF f) + Qo r
end
theorem sWid_le (kind : Int) : sWid kind ≤ 8 := by unfold sWid; split <;> (try omega); split <;> (try omega); split <;> omega
theorem sVal_le {kind : Int} {part : Tr → List UInt8} {null flex : Bool} {t : Tr} {K : Nat} (h : (part t).length ≤ K * szT t) : (sVal kind part null flex t).length ≤ (16 + K) * szT t := by
 have h5 := szT_pos t
 have h6 := szT_s t
 have e : (16 + K) * szT t = 16 * szT t + K * szT t := Nat.add_mul _ _ _
 have h7 : (if null then [] else t.s.take most).length ≤ t.s.length := by
  split
  ·simp
  ·rw [List.length_take]; omega
 unfold sVal
 split
 ·simp; omega
 ·split
  ·rw [List.length_take]; omega
  ·split
   ·rw [UD]; have := sCnt_le flex null (if null then [] else t.s.take most).length 2 (by omega); omega
   ·split
    ·rw [UD]; have := sCnt_le flex null (if null then [] else t.s.take most).length 4 (by omega); omega
    ·split
     ·omega
     ·rw [QL]; have := sWid_le kind; omega
theorem flat_le {e : Tr → List UInt8} {K : Nat} : ∀ {l : List Tr}, (∀ x ∈ l, (e x).length ≤ K * szT x) → (l.flatMap e).length ≤ K * (l.map szT).sum
 | [], _ => by simp
 | x :: l, h => by
  rw [List.flatMap_cons, UD, List.map_cons, List.sum_cons, Nat.mul_add]
  have h1 := h x List.mem_cons_self
  have h2 := flat_le (l := l) fun y hy => h y (List.mem_cons_of_mem _ hy)
  omega
theorem len_flat2 {F : Nat → List (Nat × List UInt8)} : ∀ (l : List Nat), ((l.flatMap F).flatMap JW).length = (l.map fun g => ((F g).flatMap JW).length).sum
 | [] => rfl
 | g :: l => by rw [List.flatMap_cons, List.flatMap_append, UD, List.map_cons, List.sum_cons, len_flat2 l]
theorem sum_add {a b : Nat → Nat} : ∀ (l : List Nat), (l.map fun g => a g + b g).sum = (l.map a).sum + (l.map b).sum
 | [] => rfl
 | g :: l => by simp only [List.map_cons, List.sum_cons]; rw [sum_add l]; omega
theorem sum_le {a b : Nat → Nat} : ∀ (l : List Nat), (∀ g ∈ l, a g ≤ b g) → (l.map a).sum ≤ (l.map b).sum
 | [], _ => Nat.le_refl _
 | g :: l, h => by
  simp only [List.map_cons, List.sum_cons]
  have := h g List.mem_cons_self
  have := sum_le l fun x hx => h x (List.mem_cons_of_mem _ hx)
  omega
theorem sum_none {k : Int} {c : Nat} : ∀ (l : List Nat), (∀ g ∈ l, k ≠ (g : Int)) → (l.map fun g : Nat => if k = (g : Int) then c else 0).sum = 0
 | [], _ => rfl
 | g :: l, h => by
  simp only [List.map_cons, List.sum_cons]
  rw [if_neg (h g List.mem_cons_self), sum_none l fun x hx => h x (List.mem_cons_of_mem _ hx)]
theorem sum_one {k : Int} {c : Nat} : ∀ (l : List Nat), l.Nodup → (l.map fun g : Nat => if k = (g : Int) then c else 0).sum ≤ c
 | [], _ => Nat.zero_le _
 | g :: l, h => by
  simp only [List.map_cons, List.sum_cons]
  have hn := List.nodup_cons.1 h
  by_cases e : k = (g : Int)
  ·rw [if_pos e, sum_none l fun x hx e2 => hn.1 (by
    have : x = g := by omega
    rwa [this] at hx)]
   omega
  ·rw [if_neg e]
   have := sum_one (k := k) (c := c) l hn.2
   omega
theorem encK1_le (x : Nat × List UInt8) : (JW x).length ≤ 20 + x.2.length := by
 unfold JW
 have h1 := uv_le x.1
 have h2 := uv_le x.2.length
 simp only [UD]; omega
section
variable (ver : Int) (flex : Bool)
theorem kTags_le {fs : Fds} {t : Tr} : (kTags ver flex fs t).length ≤ ((List.range (Jr fs)).map fun g => ((kKn ver flex g fs 0 t).flatMap JW).length).sum + 30 * szT t := by
 unfold kTags
 split
 ·unfold Q8 kKns
  have h1 := uv_le (((List.range (Jr fs)).flatMap fun g => kKn ver flex g fs 0 t).length + (sUnk (Jr fs) t.u).length)
  have h2 := flat_tags (sUnk (Jr fs) t.u)
  have h3 := szU_unk (Jr fs) t.u
  have h4 := szT_u t
  have h5 := szT_pos t
  have h6 := len_flat2 (F := fun g => kKn ver flex g fs 0 t) (List.range (Jr fs))
  rw [UD, UD, h6]
  omega
 ·simp
mutual
theorem kField_le : ∀ (f : Fd) (t : Tr), (JU ver flex f t).length ≤ costF f * szT t
 | .mk kind fr to nul tag df of sub, t => by
  have hp : ∀ t : Tr, (JT ver flex sub 0 t ++ kTags ver flex sub t).length ≤ (Qo sub + 30) * szT t := fun t => by
   rw [UD, Nat.add_mul]
   have := kBoth_le sub 0 t (Jr sub)
   have := kTags_le ver flex (fs := sub) (t := t)
   omega
  have h5 := szT_pos t
  have e1 : costF (.mk kind fr to nul tag df of sub) = 60 + Qo sub := by unfold costF; rfl
  rw [e1, JU]
  have e2 : (60 + Qo sub) * szT t = 60 * szT t + Qo sub * szT t := Nat.add_mul _ _ _
  split
  ·rw [UD]
   have h1 := sCnt_le flex (JR nul ver t.null) (if JR nul ver t.null then [] else t.l.take most).length 4 (by omega)
   have h2 : ((if JR nul ver t.null then [] else t.l.take most).flatMap (sVal of (fun t => JT ver flex sub 0 t ++ kTags ver flex sub t) false flex)).length ≤ (16 + (Qo sub + 30)) * ((if JR nul ver t.null then [] else t.l.take most).map szT).sum :=
    flat_le fun x _ => sVal_le (hp x)
   have h2' : ((if JR nul ver t.null then [] else t.l.take most).flatMap (sVal of (fun t => JT ver flex sub 0 t ++ (if flex then Q8 ((List.range (Jr sub)).flatMap fun g => kKn ver flex g sub 0 t) (sUnk (Jr sub) t.u) else [])) false flex)).length ≤ (16 + (Qo sub + 30)) * ((if JR nul ver t.null then [] else t.l.take most).map szT).sum := h2
   have h3 : ((if JR nul ver t.null then [] else t.l.take most).map szT).sum ≤ szT t := by
    split
    ·simp
    ·exact Nat.le_trans (take_sum _ _) (szT_l t)
   have h4 := Nat.mul_le_mul_left (16 + (Qo sub + 30)) h3
   have e3 : (16 + (Qo sub + 30)) * szT t = 46 * szT t + Qo sub * szT t := by rw [show 16 + (Qo sub + 30) = 46 + Qo sub from by omega, Nat.add_mul]
   omega
  ·have h1 := hp t
   have h1' : (JT ver flex sub 0 t ++ (if flex then Q8 ((List.range (Jr sub)).flatMap fun g => kKn ver flex g sub 0 t) (sUnk (Jr sub) t.u) else [])).length ≤ (Qo sub + 30) * szT t := h1
   have e3 : (Qo sub + 30) * szT t = Qo sub * szT t + 30 * szT t := Nat.add_mul _ _ _
   split
   ·split
    ·rw [QL]; omega
    ·rw [UD, QL]; omega
   ·have h9 := sVal_le (kind := kind) (part := fun t => JT ver flex sub 0 t ++ kTags ver flex sub t) (null := JR nul ver t.null) (flex := flex) (hp t)
    have h9' : (sVal kind (fun t => JT ver flex sub 0 t ++ (if flex then Q8 ((List.range (Jr sub)).flatMap fun g => kKn ver flex g sub 0 t) (sUnk (Jr sub) t.u) else [])) (JR nul ver t.null) flex t).length ≤ (16 + (Qo sub + 30)) * szT t := h9
    have e4 : (16 + (Qo sub + 30)) * szT t = 46 * szT t + Qo sub * szT t := by rw [show 16 + (Qo sub + 30) = 46 + Qo sub from by omega, Nat.add_mul]
    omega
theorem kBoth_le : ∀ (fs : Fds) (i : Nat) (t : Tr) (n : Nat), (JT ver flex fs i t).length + ((List.range n).map fun g => ((kKn ver flex g fs i t).flatMap JW).length).sum ≤ Qo fs * szT t
 | .nil, i, t, n => by
  have : ((List.range n).map fun g => ((kKn ver flex g .nil i t).flatMap JW).length).sum ≤ ((List.range n).map fun _ => 0).sum := sum_le _ fun g _ => by rw [kKn]; simp
  have h0 : ∀ l : List Nat, (l.map fun _ => 0).sum = 0 := fun l => by induction l with | nil => rfl | cons a l ih => rw [List.map_cons, List.sum_cons, ih]
  rw [h0] at this
  rw [JT]
  simp only [List.length_nil]
  omega
 | .cons f r, i, t, n => by
  have h1 := kBoth_le r (i + 1) t n
  have h3 := Nat.le_trans (kField_le f (t.l.getD i .zero)) (Nat.mul_le_mul_left _ (szT_at t i))
  have hs := szT_pos t
  have e : Qo (.cons f r) * szT t = 20 * szT t + costF f * szT t + Qo r * szT t := by rw [Qo, Nat.add_mul, Nat.add_mul]
  have h2 : ((List.range n).map fun g => ((kKn ver flex g (.cons f r) i t).flatMap JW).length).sum ≤ ((List.range n).map fun g : Nat => (if f.tag = (g : Int) then 20 + costF f * szT t else 0) + ((kKn ver flex g r (i + 1) t).flatMap JW).length).sum := by
   refine sum_le _ fun g _ => ?_
   rw [kKn, List.flatMap_append, UD]
   refine Nat.add_le_add_right ?_ _
   by_cases hg : f.tag = (g : Int)
   ·rw [if_pos hg]
    split
    ·rw [List.flatMap_cons, List.flatMap_nil, List.append_nil]
     have : (JW (g, JU ver flex f (t.l.getD i .zero))).length ≤ 20 + (JU ver flex f (t.l.getD i .zero)).length := encK1_le (g, JU ver flex f (t.l.getD i .zero))
     omega
    ·simp
   ·rw [if_neg hg, decide_eq_false hg]; simp
  rw [sum_add] at h2
  rw [JT, UD]
  by_cases ht : f.tag < 0
  ·have h4 := sum_none (k := f.tag) (c := 20 + costF f * szT t) (List.range n) (fun g _ => by omega)
   have h5 : (if decide (f.tag < 0) && sHas f.fr f.to ver then JU ver flex f (t.l.getD i .zero) else []).length ≤ costF f * szT t := by
    split
    ·exact h3
    ·simp
   omega
  ·have h4 := sum_one (k := f.tag) (c := 20 + costF f * szT t) (List.range n) List.nodup_range
   have h5 : (if decide (f.tag < 0) && sHas f.fr f.to ver then JU ver flex f (t.l.getD i .zero) else []).length = 0 := by
    rw [decide_eq_false ht]; rfl
   omega
end
end
theorem kWrite_le (fs : Fds) (flex v : Int) (t : Tr) : (JJ fs flex v t).length ≤ (Qo fs + 30) * szT t := by
 unfold JJ Qu
 rw [UD, Nat.add_mul]
 have := kBoth_le v (decide (0 ≤ flex) && decide (flex ≤ v)) fs 0 t (Jr fs)
 have := kTags_le v (decide (0 ≤ flex) && decide (flex ≤ v)) (fs := fs) (t := t)
 omega
theorem kWrite_small {fs : Fds} (hc : Nat.ble (Qo fs + 30) 1950 = true) (flex v : Int) {t : Tr} (ht : szT t ≤ 1100000) : (JJ fs flex v t).length ≤ 2147483648 := by
 have h := kWrite_le fs flex v t
 have h1 : Qo fs + 30 ≤ 1950 := Nat.le_of_ble_eq_true hc
 have h2 := Nat.mul_le_mul h1 ht
 omega
end Go.Kx
namespace Go.Kx
open Go.RowKit Go.ChangeShapes Go.WideShapes
set_option linter.unusedVariables false
set_option linter.unusedSimpArgs false
def eqNN : List (Nat × Nat) → List (Nat × Nat) → Bool
 | [], [] => true
 | a :: xs, b :: ys => Nat.beq a.1 b.1 && Nat.beq a.2 b.2 && eqNN xs ys
 | _, _ => false
theorem eqNN_eq : ∀ {a b : List (Nat × Nat)}, eqNN a b = true → a = b
 | [], [], _ => rfl
 | [], _ :: _, h => by simp [eqNN] at h
 | _ :: _, [], h => by simp [eqNN] at h
 | (a1, a2) :: xs, (b1, b2) :: ys, h => by
  simp only [eqNN, UA, Nat.beq_eq] at h
  obtain ⟨⟨rfl, rfl⟩, h⟩ := h
  rw [eqNN_eq h]
def structB (P : Program) (t : Nat) (l : List (Nat × Nat)) : Bool := match P.underlying t with
 | some (.struct fs) => eqNN (fs.toList.map fun f => (f.offset, f.type)) l
 | _ => false
theorem structB_of {P : Program} {t : Nat} {l : List (Nat × Nat)} (h : structB P t l = true) : ∃ fs : Array Field, P.underlying t = some (.struct fs) ∧ fs.size = l.length ∧ ∀ (i : Nat) (q : Nat × Nat), l[i]? = some q → ∃ f : Field, fs[i]? = some f ∧ f.offset = q.1 ∧ f.type = q.2 := by
 unfold structB at h
 split at h
 ·rename_i fs hu
  have e := eqNN_eq h
  subst e
  refine ⟨fs, hu, by simp, fun i q hi => ?_⟩
  rw [List.getElem?_map, Array.getElem?_toList] at hi
  cases hf : fs[i]? with
  | none => simp [hf] at hi
  | some f =>
   rw [hf] at hi
   simp only [Option.map_some, UC] at hi
   subst hi
   exact ⟨f, rfl, rfl, rfl⟩
 ·simp at h
def boolB (P : Program) (t : Nat) : Bool := match P.underlying t with
 | some .bool => true
 | _ => false
theorem boolB_eq {P : Program} {t : Nat} (h : boolB P t = true) : P.underlying t = some .bool := by
 unfold boolB at h
 split at h
 ·assumption
 ·simp at h
def treeB (P : Program) (S : SN) : List Bool := [structB P S.tr [(0, S.T.i64), (1, S.T.u8s), (2, S.T.bool), (3, S.trs), (4, S.tgs)], structB P S.tg [(0, S.T.u32), (1, S.T.u8s)], JC P S.T.i64 .i64, boolB P S.T.bool, JC P S.T.u32 .u32, JC P S.T.u8 .u8,
 Jk P S.T.u8s S.T.u8, Jk P S.trs S.tr, Jk P S.tgs S.tg, Nat.beq (P.cellsOf S.tr) 5, Nat.beq (P.cellsOf S.tg) 2, Nat.beq (P.cellsOf S.T.i64) 1, Nat.beq (P.cellsOf S.T.bool) 1, Nat.beq (P.cellsOf S.T.u8) 1, Nat.beq (P.cellsOf S.T.u8s) 1, Nat.beq (P.cellsOf S.trs) 1, Nat.beq (P.cellsOf S.tgs) 1, Nat.beq (P.cellsOf S.T.u32) 1]
structure BulkOk {H : Type} (B : DataW H → Nat) (BA : List (DataW H) → Nat) : Prop where
 one : ∀ d, 1 ≤ B d
 slice : ∀ e s, 1 + BA e ≤ B (.slice e s)
 agg : ∀ ps, 1 + BA ps ≤ B (.agg ps)
 cons : ∀ d l, B d + BA l ≤ BA (d :: l)
section
variable {H : Type} {B : DataW H → Nat} {BA : List (DataW H) → Nat} {enc : TypeId × Value → H} {P : Program} {S : SN} {w : World} {base : Nat} {held : Bool}
theorem BulkOk.len (hB : BulkOk B BA) : ∀ l : List (DataW H), l.length ≤ BA l
 | [] => Nat.zero_le _
 | d :: l => by have := hB.one d; have := hB.cons d l; have := hB.len l; rw [List.length_cons]; omega
theorem cell_at {a : Addr} {v : Value} {i : Nat} (h : w.cell? (a.add i) = some v) (h0 : a.spot = none) : w.cell? ⟨a.block, a.off + i, none⟩ = some v := by
 have e : a = ⟨a.block, a.off, none⟩ := by cases a; simp_all
 rw [e, Addr.add_mid] at h
 exact h
theorem open_u8s {U8 U8s : Nat} (h1 : Jk P U8s U8 = true) (h2 : JC P U8 .u8 = true) (h3 : P.cellsOf U8 = 1) (hB : BulkOk B BA) {fuel : Nat} {cs : List Value} {x : DataW H × List MemPlace} (h : DataW.trod enc P w base (fun _ => true) held fuel U8s cs = some x) :
  ∃ ad l c, cs = [.slice ad (List.length l) c] ∧ okA l.length ad ∧ l.length ≤ c ∧ Jg w (fun _ => True) ad l ∧ 1 + l.length ≤ B x.1 := by
 rcases open_ints (Jq h1) (QR h2) h3 h with ⟨rfl, rfl⟩ | ⟨a, len, cap, zs, rfl, hb, hl, hm, hz, rfl, hcell, hwz⟩
 ·exact ⟨none, [], 0, rfl, .inl rfl, Nat.le_refl _, fun j b hj => by simp at hj, by have := hB.one (DataW.nil : DataW H); simpa using this⟩
 ·simp only [if_true] at hz
  have hlen : ((zs.take len).map fun n => UInt8.ofNat n.toNat).length = len := by simp; omega
  have hspot : 0 < len → a.spot = none := fun h0 => by
   have := World.cell?_spot (hcell 0 (by omega))
   simpa [Addr.add] using this
  refine ⟨some a, (zs.take len).map fun n => UInt8.ofNat n.toNat, cap, by rw [hlen], ?_, by rw [hlen]; exact hl, fun j b hj => ?_, ?_⟩
  ·rw [hlen]
   by_cases h0 : len = 0
   ·exact .inl h0
   ·right; right
    refine ⟨a.block, a.off, ?_⟩
    have := hspot (by omega)
    cases a; simp_all
  ·have hj' : j < len := by
    have := (List.getElem?_eq_some_iff.1 hj).1
    rwa [hlen] at this
   have hs := hspot (by omega)
   refine ⟨a.block, a.off, by cases a; simp_all, trivial, ?_⟩
   rw [cell_at (hcell j (by omega)) hs]
   have hzj : zs.getD j 0 = zs[j]'(by omega) := by simp [List.getD, List.getElem?_eq_getElem (show j < zs.length by omega)]
   have hw := hwz (zs[j]'(by omega)) (List.getElem_mem _)
   rw [List.getElem?_map, List.getElem?_take, if_pos hj', List.getElem?_eq_getElem (show j < zs.length by omega)] at hj
   simp only [Option.map_some, UC] at hj
   subst hj
   rw [hzj]
   unfold JF
   congr 2
   simp [Lit.wf, IntKind.min, IntKind.max, IntKind.bits, IntKind.signed] at hw
   simp only [UInt8.toNat_ofNat']
   omega
  ·have h1 := hB.slice (lits .u8 (zs.take len)) (lits .u8 (zs.drop len))
   have h2 := hB.len (lits .u8 (zs.take len))
   have h3 : (lits (H := H) .u8 (zs.take len)).length = len := by simp [lits]; omega
   rw [hlen]
   show 1 + len ≤ B (.slice _ _)
   rw [h3] at h2
   omega
structure TreeOk (P : Program) (S : SN) : Prop where
 tr : structB P S.tr [(0, S.T.i64), (1, S.T.u8s), (2, S.T.bool), (3, S.trs), (4, S.tgs)] = true
 tg : structB P S.tg [(0, S.T.u32), (1, S.T.u8s)] = true
 i64 : JC P S.T.i64 .i64 = true
 bool : boolB P S.T.bool = true
 u32 : JC P S.T.u32 .u32 = true
 u8 : JC P S.T.u8 .u8 = true
 u8s : Jk P S.T.u8s S.T.u8 = true
 trs : Jk P S.trs S.tr = true
 tgs : Jk P S.tgs S.tg = true
 ctr : P.cellsOf S.tr = 5
 ctg : P.cellsOf S.tg = 2
 ci64 : P.cellsOf S.T.i64 = 1
 cbool : P.cellsOf S.T.bool = 1
 cu8 : P.cellsOf S.T.u8 = 1
 cu8s : P.cellsOf S.T.u8s = 1
 ctrs : P.cellsOf S.trs = 1
 ctgs : P.cellsOf S.tgs = 1
 cu32 : P.cellsOf S.T.u32 = 1
theorem tree_of (h : (treeB P S).all id = true) : TreeOk P S := by
 simp only [treeB, List.all_cons, List.all_nil, id_eq, Bool.and_true, UA, Nat.beq_eq] at h
 obtain ⟨h1, h2, h3, h4, h5, h6, h7, h8, h9, h10, h11, h12, h13, h14, h15, h16, h17, h18⟩ := h
 exact ⟨h1, h2, h3, h4, h5, h6, h7, h8, h9, h10, h11, h12, h13, h14, h15, h16, h17, h18⟩
theorem open_tg (tb : TreeOk P S) (hB : BulkOk B BA) {fuel : Nat} {cs : List Value} {x : DataW H × List MemPlace} (h : DataW.trod enc P w base (fun _ => true) held fuel S.tg cs = some x) :
  ∃ t, J8 w cs t ∧ t.1 < 4294967296 ∧ 1 + t.2.length ≤ B x.1 := by
 obtain ⟨fs, hu, hsz, hf⟩ := structB_of tb.tg
 obtain ⟨xs, n, rfl, rfl, hl, hxl, hx⟩ := DataW.trod_struct hu h
 rw [tb.ctg] at hl
 obtain ⟨c0, c1, rfl⟩ : ∃ c0 c1, cs = [c0, c1] := by
  match cs, hl with
  | [a, b], _ => exact ⟨a, b, rfl⟩
 obtain ⟨x0, x1, rfl⟩ : ∃ x0 x1, xs = [x0, x1] := by
  rw [hsz] at hxl
  match xs, hxl with
  | [a, b], _ => exact ⟨a, b, rfl⟩
 obtain ⟨f0, g0, o0, t0⟩ := hf 0 _ rfl
 obtain ⟨f1, g1, o1, t1⟩ := hf 1 _ rfl
 have e0 := hx 0 f0 g0
 have e1 := hx 1 f1 g1
 rw [o0, t0, tb.cu32] at e0
 rw [o1, t1, tb.cu8s] at e1
 obtain ⟨k, hk, hx0, hwf⟩ := DataW.trod_int (QR tb.u32) (show _ = some x0 from e0)
 obtain ⟨ad, l, c, hc, ha, hlc, hby, hb⟩ := open_u8s tb.u8s tb.u8 tb.cu8 hB (show _ = some x1 from e1)
 have hk' : c0 = .int .u32 k := by simpa using hk
 have hc' : c1 = .slice ad l.length c := by simpa using hc
 simp [Lit.wf, IntKind.min, IntKind.max, IntKind.bits, IntKind.signed] at hwf
 refine ⟨(k.toNat, l), ⟨by show k.toNat < _; omega, ad, c, ?_, ha, hlc, hby⟩, by show k.toNat < _; omega, ?_⟩
 ·rw [hk', hc', show ((k.toNat : Nat) : Int) = k from by omega]
 ·have h1 := hB.agg [x0.1, x1.1]
  have h2 := hB.cons x0.1 [x1.1]
  have h3 := hB.cons x1.1 []
  simp only [List.map_cons, List.map_nil]
  show 1 + l.length ≤ _
  omega
theorem el_at {e : Nat} {a : Addr} {len n k : Nat} {elems : List (DataW H × List MemPlace)} (hk : P.cellsOf e = k) (hk0 : 0 < k) (hel : ∀ i, i < len → (w.cells? base (a.add (i * P.cellsOf e)) (P.cellsOf e)).bind (DataW.trod enc P w base (fun _ => true) held n e) = elems[i]?) (hlen : elems.length = len) :
  (0 < len → a.spot = none) ∧ ∀ i, (hi : i < len) → ∃ cs, w.rangeAt a.block (a.off + i * k) cs ∧ DataW.trod enc P w base (fun _ => true) held n e cs = some (elems[i]'(by omega)) := by
 subst hk
 have hs : 0 < len → a.spot = none := fun h0 => by
  have h := hel 0 h0
  rw [List.getElem?_eq_getElem (by omega)] at h
  obtain ⟨cs, h1, h2⟩ := Option.bind_eq_some_iff.1 h
  obtain ⟨_, g1, g2⟩ := World.cells?_some h1
  have h3 := g2 0 hk0
  rw [List.getElem?_eq_getElem (by omega)] at h3
  have := World.cell?_spot h3
  simpa [Addr.add] using this
 refine ⟨hs, fun i hi => ?_⟩
 have h := hel i hi
 rw [List.getElem?_eq_getElem (by omega)] at h
 obtain ⟨cs, h1, h2⟩ := Option.bind_eq_some_iff.1 h
 refine ⟨cs, fun j v hj => ?_, h2⟩
 obtain ⟨_, g1, g2⟩ := World.cells?_some h1
 have hjl := (List.getElem?_eq_some_iff.1 hj).1
 have h3 := g2 j (by omega)
 rw [hj] at h3
 have e : a = ⟨a.block, a.off, none⟩ := by have := hs (by omega); cases a; simp_all
 rw [e, Addr.add_mid, Addr.add_mid] at h3
 exact h3
theorem okA_some {a : Addr} {n : Nat} (h : 0 < n → a.spot = none) : okA n (some a) := by
 by_cases h0 : n = 0
 ·exact .inl h0
 ·right; right
  have := h (by omega)
  exact ⟨a.block, a.off, by cases a; simp_all⟩
theorem utags_of (tb : TreeOk P S) (hB : BulkOk B BA) {a : Addr} {len n : Nat} {elems : List (DataW H × List MemPlace)} (hlen : elems.length = len) (hs : 0 < len → a.spot = none)
  (hel : ∀ i, (hi : i < len) → ∃ cs, w.rangeAt a.block (a.off + i * 2) cs ∧ DataW.trod enc P w base (fun _ => true) held n S.tg cs = some (elems[i]'(by omega))) : ∀ (k i : Nat), i + k = len →
  ∃ u : List (Nat × List UInt8), u.length = k ∧ (∀ j t, u[j]? = some t → ∃ g o cs, some a = some ⟨g, o, none⟩ ∧ w.rangeAt g (o + (i + j) * 2) cs ∧ J8 w cs t) ∧ Qt u ∧ szU u ≤ BA ((elems.drop i).map (·.1)) := by
 intro k
 induction k with
 | zero => intro i hi; exact ⟨[], rfl, fun j t h => by simp at h, fun x hx => by simp at hx, by simp [szU]⟩
 | succ k ih =>
  intro i hi
  obtain ⟨u, h1, h2, h3, h4⟩ := ih (i + 1) (by omega)
  obtain ⟨cs, g1, g2⟩ := hel i (by omega)
  obtain ⟨t, k1, k2, k3⟩ := open_tg tb hB g2
  have hsp := hs (by omega)
  refine ⟨t :: u, by simp [h1], fun j t' hj => ?_, fun x hx => ?_, ?_⟩
  ·cases j with
   | zero =>
    simp only [List.getElem?_cons_zero, UC] at hj
    subst hj
    exact ⟨a.block, a.off, cs, by cases a; simp_all, g1, k1⟩
   | succ j =>
    rw [List.getElem?_cons_succ] at hj
    obtain ⟨g, o, cs', e1, e2, e3⟩ := h2 j t' hj
    exact ⟨g, o, cs', e1, by rw [show i + (j + 1) = i + 1 + j from by omega]; exact e2, e3⟩
  ·simp only [List.mem_cons] at hx
   rcases hx with rfl | hx
   ·exact k2
   ·exact h3 x hx
  ·rw [List.drop_eq_getElem_cons (by omega), List.map_cons]
   have := hB.cons (elems[i]'(by omega)).1 ((elems.drop (i + 1)).map (·.1))
   simp only [szU]; omega
theorem open_tgs (tb : TreeOk P S) (hB : BulkOk B BA) {fuel : Nat} {cs : List Value} {x : DataW H × List MemPlace} (h : DataW.trod enc P w base (fun _ => true) held fuel S.tgs cs = some x) :
  ∃ v u, cs = [v] ∧ TagsS w v u ∧ Qt u ∧ szU u ≤ B x.1 := by
 rcases DataW.trod_slice (Jq tb.tgs) h with ⟨rfl, rfl⟩ | ⟨a, len, cap, elems, rest, n, _, rfl, rfl, hb, hl, hm, hlen, hel, hsp, hns⟩
 ·exact ⟨_, [], rfl, ⟨none, 0, rfl, .inl rfl, Nat.le_refl _, fun i t h => by simp at h⟩, fun x hx => by simp at hx, by simp [szU]⟩
 ·obtain ⟨h1, h2⟩ := el_at tb.ctg (by omega) hel hlen
  obtain ⟨u, g1, g2, g3, g4⟩ := utags_of tb hB hlen h1 h2 len 0 (by omega)
  subst g1
  refine ⟨_, u, rfl, ⟨some a, cap, rfl, okA_some h1, hl, fun i t hi => ?_⟩, g3, ?_⟩
  ·have := g2 i t hi
   rwa [Nat.zero_add] at this
  ·have := hB.slice (elems.map (·.1)) (rest.map (·.1))
   rw [List.drop_zero] at g4
   show szU u ≤ B (.slice _ _)
   omega
theorem rows_of (hB : BulkOk B BA) {a : Addr} {len : Nat} {elems : List (DataW H × List MemPlace)} (hlen : elems.length = len) (hs : 0 < len → a.spot = none)
  (hel : ∀ i, (hi : i < len) → ∃ cs t, w.rangeAt a.block (a.off + i * 5) cs ∧ JL w t cs ∧ Qb Qt t ∧ szT t ≤ B (elems[i]'(by omega)).1) : ∀ (k i : Nat), i + k = len →
  ∃ l : Trs, l.toList.length = k ∧ Ye w (some a) i l ∧ goodTs Qt l ∧ szTs l ≤ BA ((elems.drop i).map (·.1)) := by
 intro k
 induction k with
 | zero => intro i hi; exact ⟨.nil, rfl, by unfold Ye; trivial, by unfold goodTs; trivial, by simp [szTs]⟩
 | succ k ih =>
  intro i hi
  obtain ⟨l, h1, h2, h3, h4⟩ := ih (i + 1) (by omega)
  obtain ⟨cs, t, g1, g2, g3, g4⟩ := hel i (by omega)
  have hsp := hs (by omega)
  refine ⟨.cons t l, by unfold Trs.toList; simp [h1], ?_, ?_, ?_⟩
  ·unfold Ye
   exact ⟨⟨a.block, a.off, cs, by cases a; simp_all, g1, g2⟩, h2⟩
  ·unfold goodTs; exact ⟨g3, h3⟩
  ·rw [List.drop_eq_getElem_cons (by omega), List.map_cons]
   have := hB.cons (elems[i]'(by omega)).1 ((elems.drop (i + 1)).map (·.1))
   unfold szTs; omega
theorem open_tr (tb : TreeOk P S) (hB : BulkOk B BA) : ∀ (fuel : Nat) {cs : List Value} {x : DataW H × List MemPlace}, DataW.trod enc P w base (fun _ => true) held fuel S.tr cs = some x → ∃ t, JL w t cs ∧ Qb Qt t ∧ szT t ≤ B x.1 := by
 intro fuel
 induction fuel using Nat.strongRecOn with
 | _ fuel ih =>
  intro cs x h
  obtain ⟨fs, hu, hsz, hf⟩ := structB_of tb.tr
  obtain ⟨xs, n, rfl, rfl, hl, hxl, hx⟩ := DataW.trod_struct hu h
  rw [tb.ctr] at hl
  obtain ⟨c0, c1, c2, c3, c4, rfl⟩ : ∃ c0 c1 c2 c3 c4, cs = [c0, c1, c2, c3, c4] := by
   match cs, hl with
   | [a, b, c, d, e], _ => exact ⟨a, b, c, d, e, rfl⟩
  obtain ⟨x0, x1, x2, x3, x4, rfl⟩ : ∃ x0 x1 x2 x3 x4, xs = [x0, x1, x2, x3, x4] := by
   rw [hsz] at hxl
   match xs, hxl with
   | [a, b, c, d, e], _ => exact ⟨a, b, c, d, e, rfl⟩
  obtain ⟨f0, g0, o0, t0⟩ := hf 0 _ rfl
  obtain ⟨f1, g1, o1, t1⟩ := hf 1 _ rfl
  obtain ⟨f2, g2, o2, t2⟩ := hf 2 _ rfl
  obtain ⟨f3, g3, o3, t3⟩ := hf 3 _ rfl
  obtain ⟨f4, g4, o4, t4⟩ := hf 4 _ rfl
  have e0 := hx 0 f0 g0
  have e1 := hx 1 f1 g1
  have e2 := hx 2 f2 g2
  have e3 := hx 3 f3 g3
  have e4 := hx 4 f4 g4
  rw [o0, t0, tb.ci64] at e0
  rw [o1, t1, tb.cu8s] at e1
  rw [o2, t2, tb.cbool] at e2
  rw [o3, t3, tb.ctrs] at e3
  rw [o4, t4, tb.ctgs] at e4
  obtain ⟨k, hk, hx0, hwf⟩ := DataW.trod_int (QR tb.i64) (show _ = some x0 from e0)
  obtain ⟨ad, l, c, hc, ha, hlc, hby, hb⟩ := open_u8s tb.u8s tb.u8 tb.cu8 hB (show _ = some x1 from e1)
  obtain ⟨nu, hnu, hx2⟩ := DataW.trod_bool (boolB_eq tb.bool) (show _ = some x2 from e2)
  obtain ⟨vu, u, hvu, htg, hku, hszu⟩ := open_tgs tb hB (show _ = some x4 from e4)
  have hk' : c0 = .int .i64 k := by simpa using hk
  have hc' : c1 = .slice ad l.length c := by simpa using hc
  have hn' : c2 = .bool nu := by simpa using hnu
  have hv' : c4 = vu := by simpa using hvu
  simp [Lit.wf, IntKind.min, IntKind.max, IntKind.bits, IntKind.signed] at hwf
  have hL : ∃ lt : Trs, (∃ ad c, c3 = .slice ad lt.toList.length c ∧ okA lt.toList.length ad ∧ lt.toList.length ≤ c ∧ Ye w ad 0 lt) ∧ goodTs Qt lt ∧ szTs lt ≤ B x3.1 := by
   rcases DataW.trod_slice (Jq tb.trs) (show _ = some x3 from e3) with ⟨hcs, rfl⟩ | ⟨a, len, cap, elems, rest, n', hn2, hcs, rfl, hb, hl, hm, hlen, hel, hsp, hns⟩
   ·have hcs' : c3 = .slice none 0 0 := by simpa using hcs
    exact ⟨.nil, ⟨none, 0, hcs', .inl rfl, Nat.le_refl _, by unfold Ye; trivial⟩, by unfold goodTs; trivial, by simp [szTs]⟩
   ·have hcs' : c3 = .slice (some a) len cap := by simpa using hcs
    obtain ⟨h1, h2⟩ := el_at tb.ctr (by omega) hel hlen
    obtain ⟨lt, q1, q2, q3, q4⟩ := rows_of hB hlen h1 (fun i hi => by
     obtain ⟨cs, r1, r2⟩ := h2 i hi
     obtain ⟨t, s1, s2, s3⟩ := ih n' (by omega) r2
     exact ⟨cs, t, r1, s1, s2, s3⟩) len 0 (by omega)
    refine ⟨lt, ⟨some a, cap, by rw [q1]; exact hcs', by rw [q1]; exact okA_some h1, by rw [q1]; exact hl, q2⟩, q3, ?_⟩
    have := hB.slice (elems.map (·.1)) (rest.map (·.1))
    rw [List.drop_zero] at q4
    show szTs lt ≤ B (.slice _ _)
    omega
  obtain ⟨lt, hL1, hL2, hL3⟩ := hL
  refine ⟨.mk k l nu lt u, ?_, ?_, ?_⟩
  ·unfold JL
   exact ⟨c1, c3, c4, by rw [hk', hn'], by omega, ⟨ad, c, hc', ha, hlc, hby⟩, hL1, by rw [hv']; exact htg⟩
  ·unfold Qb; exact ⟨hku, hL2⟩
  ·unfold szT
   have b0 := hB.agg [x0.1, x1.1, x2.1, x3.1, x4.1]
   have b1 := hB.cons x0.1 [x1.1, x2.1, x3.1, x4.1]
   have b2 := hB.cons x1.1 [x2.1, x3.1, x4.1]
   have b3 := hB.cons x2.1 [x3.1, x4.1]
   have b4 := hB.cons x3.1 [x4.1]
   have b5 := hB.cons x4.1 []
   show _ ≤ B (.agg [x0.1, x1.1, x2.1, x3.1, x4.1])
   omega
end
end Go.Kx
namespace Go.Kx
open Go.RowKit Go.ChangeShapes Go.WideShapes Go.WideElems
set_option linter.unusedVariables false
set_option linter.unusedSimpArgs false
section
variable {H : Type} {B : DataW H → Nat} {BA : List (DataW H) → Nat} {enc : TypeId × Value → H} {P : Program}
theorem keepAll {W W' : World} (hl : laidOutB P = true) (hb : Below W.heap.size W W') : ∀ {ts : List TypeId} {vs : List Value} {ds : List (DataW H)} {ps : List MemPlace}, ts.all (fun t => P.readableRec t && decide (t < P.types.size)) = true →
  DataW.TrodAll enc P W 0 (fun _ => true) true ts vs ds ps → (∀ x ∈ ps, x.block < W.heap.size) → DataW.TrodAll enc P W' 0 (fun b => decide (b < W.heap.size)) true ts vs ds ps
 | [], vs, ds, ps, _, h, _ => by
  obtain ⟨rfl, rfl, rfl⟩ := trodAll_nil h
  exact trodAll_mk0
 | t :: ts, vs, ds, ps, hr, h, hlt => by
  obtain ⟨v, vs', d, ds', p, q, rfl, rfl, rfl, h1, h2⟩ := trodAll_cons h
  simp only [List.all_cons, UA, decide_eq_true_eq] at hr
  exact trodAll_cons_mk (Below.trod hl hr.1.1 hr.1.2 h1 hb (fun x hx => hlt x (List.mem_append.2 (.inl hx)))) (keepAll hl hb (by simpa using hr.2) h2 (fun x hx => hlt x (List.mem_append.2 (.inr hx))))
theorem row_post {fn : Func} {s : ChangeSpec} {tb : TypeId} {W W' : World} {args : Array Value} {ds gs : List (DataW H)} {before : List MemPlace} (hl : laidOutB P = true) (hrd : fn.params.toList.all (fun t => P.readableRec t && decide (t < P.types.size)) = true) (hres : fn.resultTypes = #[tb]) (ht : P.underlying tb = some .bool)
  (hv : s.vars = []) (hW : DataW.Whole enc P fn.params.toList s.vars false W args.toList ds gs before) (hb : Below W.heap.size W W') (hfn : s.fn H (ds ++ gs) = { results := [.lit (.bool true)], args := ds, vars := [] }) : s.post enc P fn false true false false W args (.bool true) W' := by
 have hW' := hW
 obtain ⟨p, q, hA, hV, rfl, hfz, hnd⟩ := hW
 rw [hv] at hV
 have hq : gs = [] ∧ q = [] := by
  cases gs with
  | nil => exact ⟨rfl, hV⟩
  | cons g gs => simp [DataW.TrodVars] at hV
 obtain ⟨rfl, rfl⟩ := hq
 refine ⟨ds, [], _, [], p, [], hW', ?_, ?_, ?_, hb.frame _, fun h => by cases h⟩
 ·rw [hfn, hres]
  exact trodAll_mk1 (shut_bool ht true)
 ·rw [hfn]
  exact keepAll hl hb hrd hA (fun x hx => hW'.lt x (List.mem_append.2 (.inl hx)))
 ·rw [hv, hfn]
  exact rfl
theorem laid_err {W : World} {name nm : String} {g t : Nat} {d : DataW Unit} (hg : P.globalNamed name = some g) (ht : (P.globals[g]?).map (·.type) = some t) (hi : ifaceTy P t = true) (h : laidMet P [(name, .iface nm d)] W) : ∃ ev, W.cell? ⟨g, 0, none⟩ = some ev ∧ isErr ev := by
 obtain ⟨ps, ⟨g', t', cs, fuel, p, q, hg', ht', hvar, hd, _, _⟩, _⟩ := h
 obtain rfl := Option.some.inj (hg.symm.trans hg')
 obtain rfl := Option.some.inj (ht.symm.trans ht')
 obtain ⟨ms, hu⟩ := ifaceTy_eq hi
 have hc := fun i => World.var?_cell hg hvar i
 obtain ⟨l⟩ := cs
 cases fuel with
 | zero => simp [DataW.trod] at hd
 | succ n =>
  unfold DataW.trod at hd
  rw [hu] at hd
  simp only at hd
  match l, hd with
  | [], hd => simp at hd
  | [v], hd =>
   cases v <;> simp at hd
   rename_i u x
   exact ⟨_, by rw [hc 0]; rfl, _, _, rfl⟩
  | v :: v2 :: r, hd => simp at hd
section
variable {K : KB} {g : TN} {S : SN} {R : RN} {G : TG} {E : EN} {Z : FTN}
theorem u8_range {a : Int} (w0 : (Lit.int .u8 a).wf = true) : ∃ k : Nat, a = (k : Int) ∧ k < 256 := by
 simp [Lit.wf, IntKind.min, IntKind.max, IntKind.bits, IntKind.signed] at w0
 exact ⟨a.toNat, by omega, by omega⟩
theorem u16_range {a : Int} (w0 : (Lit.int .u16 a).wf = true) : ∃ k : Nat, a = (k : Int) ∧ k < 65536 := by
 simp [Lit.wf, IntKind.min, IntKind.max, IntKind.bits, IntKind.signed] at w0
 exact ⟨a.toNat, by omega, by omega⟩
theorem agg_toList (cs : Array Value) : Value.agg cs = .agg cs.toList.toArray := by simp
theorem cut_row (se : Seat2 P K g S R G E Z) (tb : TreeOk P S) (n : RL0) (h1 : (msgB P K g S R G n).all id = true) (h2 : (specB P S n).all id = true) (h3 : isFn P n.f (cLawCut S Z.f2 n.fMax n.fSpec n.fAgain) 56 6 = true) (h4 : yes S.T.u16 = true) (hcost : Nat.ble (Qo (QO n.sx) + 30) 1950 = true)
  {fn : Func} {s : ChangeSpec} (hB : BulkOk B BA) (hu16 : JC P S.T.u16 .u16 = true) (hp : fn.params = #[S.T.u8, S.tr, S.T.u16]) (hr : fn.resultTypes = #[S.T.bool]) (hv : s.vars = []) (hl : laidOutB P = true) (hrd : fn.params.toList.all (fun t => P.readableRec t && decide (t < P.types.size)) = true)
  (hfn : ∀ d1 d2 d3, s.fn H [d1, d2, d3] = { results := [.lit (.bool true)], args := [d1, d2, d3], vars := [] }) {W : World} {base : Nat} {args : Array Value} {ds gs : List (DataW H)} {before : List MemPlace}
  (hval : ∀ (j : Nat) t v, fn.params[j]? = some t → args[j]? = some v → Value.okWide P W .any base t v) (hW : DataW.Whole enc P fn.params.toList s.vars false W args.toList ds gs before) (hbulk : BA (ds ++ gs) ≤ 1048576) (hev : ∃ ev, W.cell? ⟨R.gErr, 0, none⟩ = some ev ∧ isErr ev) :
  Calls P n.f args W fun e W' => ∃ v, e = .returned v ∧ s.post enc P fn false true false false W args v W' := by
 have hW' := hW
 obtain ⟨p, q, hA, hV, rfl, hfz, hnd⟩ := hW
 have hg0 : gs = [] := by
  rw [hv] at hV
  cases gs with
  | nil => rfl
  | cons g gs => simp [DataW.TrodVars] at hV
 subst hg0
 rw [hp] at hA hval
 obtain ⟨v0, vs0, d0, ds0, p0, q0, hargs, rfl, rfl, t0, r0⟩ := trodAll_cons hA
 obtain ⟨v1, vs1, d1, ds1, p1, q1, hargs1, rfl, rfl, t1, r1⟩ := trodAll_cons r0
 obtain ⟨v2, vs2, d2, ds2, p2, q2, hargs2, rfl, rfl, t2, r2⟩ := trodAll_cons r1
 obtain ⟨rfl, rfl, rfl⟩ := trodAll_nil r2
 subst hargs2
 subst hargs1
 obtain rfl : args = #[v0, v1, v2] := by cases args; simp_all
 obtain ⟨a0, rfl, rfl, rfl, w0⟩ := open_int (QR tb.u8) (hval 0 S.T.u8 v0 rfl rfl) t0
 obtain ⟨k, rfl, hk⟩ := u8_range w0
 obtain ⟨a2, rfl, rfl, rfl, w2⟩ := open_int (QR hu16) (hval 2 S.T.u16 v2 rfl rfl) t2
 obtain ⟨m, rfl, hm⟩ := u16_range w2
 obtain ⟨fs, hu, _, _⟩ := structB_of tb.tr
 obtain ⟨cs, rfl, hcs⟩ := okWide_struct hu (hval 1 S.tr v1 rfl rfl)
 obtain ⟨fuel, ht⟩ := t1
 obtain ⟨t, hrep, hgood, hsz⟩ := open_tr tb hB fuel (cs := cs.toList) (x := (d1, _)) ht
 obtain ⟨ev, hc, hie⟩ := hev
 have b0 := hB.cons (.lit (.int .u8 (k : Int)) : DataW H) [d1, .lit (.int .u16 (m : Int))]
 have b1 := hB.cons d1 [.lit (.int .u16 (m : Int))]
 have hst : szT t ≤ 1100000 := by
  simp only [List.append_nil] at hbulk
  have : szT t ≤ B d1 := hsz
  omega
 have hrun := cut_law se n h1 h2 h3 h4 W k m hk hm cs.toList t hrep hgood ev hc hie (fun v hv => kWrite_small hcost n.flex (v : Nat) hst)
 rw [← agg_toList] at hrun
 refine hrun.mono ?_
 rintro e W' ⟨rfl, hbel⟩
 exact ⟨_, rfl, row_post hl hrd hr (boolB_eq tb.bool) hv hW' hbel (by rw [List.append_nil]; exact hfn _ _ _)⟩
end
end
end Go.Kx
