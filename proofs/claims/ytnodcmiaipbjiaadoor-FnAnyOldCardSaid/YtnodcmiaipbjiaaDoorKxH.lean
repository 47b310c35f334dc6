/- OldBytes (of version 1), SameOld. Conditions: the contracts of Fixed, fixedOctets, Same; the program's tables.
   judged; FnAnyOld. Conditions: the contracts of ReadOld, TellV0, TellV1, SameOld; that awakeRecords says true.
   The row of FnAnyOld: from the law's own code to what the row asks. Conditions: the program's tables. -/
import Derived.Test.YtnodcmiaipbjiaaDoorKxG
namespace Go.Kx
open Go.RowKit
set_option linter.unusedSimpArgs false
set_option linter.unusedVariables false
section
variable {P : Program} {N : Nat} {Q : Exit → (Nat → Value) → World → Prop} {ρ : Nat → Value} {w w' : World} {ms : List MOp} {gs : List GOp} {O : ON}
def oldR5 (O : ON) : List GOp := [⟨0, none, .mv 36 (.t 5)⟩, ⟨1, none, .fa 37 O.tOld 3 6⟩, ⟨2, none, .ld 38 O.tOc 37⟩, ⟨5, none, .fa 41 O.tOld 3 7⟩, ⟨6, none, .ld 42 O.tOc 41⟩, ⟨3, none, .ca 39 O.fFxO [.t 38]⟩, ⟨4, none, .ap 40 O.T.u8s O.T.u8s 36 39⟩, ⟨7, none, .ca 43 O.fFxO [.t 42]⟩, ⟨8, none, .ap 44 O.T.u8s O.T.u8s 40 43⟩, ⟨9, none, .mv 4 (.t 44)⟩]
def oldR1 (O : ON) : List GOp := [⟨0, none, .fa 6 O.tOld 3 0⟩, ⟨1, none, .ld 7 O.T.i64 6⟩, ⟨3, none, .fa 9 O.tOld 3 1⟩, ⟨4, none, .ld 10 O.T.i32 9⟩, ⟨5, none, .cv 11 O.T.i32 O.T.i64 10⟩, ⟨2, none, .ca 8 O.fFixed [.t 7, .c (.int .i64 8)]⟩, ⟨6, none, .ca 12 O.fFixed [.t 11, .c (.int .i64 4)]⟩, ⟨7, none, .ap 13 O.T.u8s O.T.u8s 8 12⟩, ⟨8, none, .mv 5 (.t 13)⟩]
def cOldB (O : ON) : MCode :=
  .sq (.rg [.bx 3 O.tOld 1, .mv 4 (.c .nslice)]) (.sq (.gr true (oldR1 O))
  (.sq (.rg [.mv 14 (.t 5), .fa 15 O.tOld 3 2, .ld 16 O.T.i32 15, .cv 17 O.T.i32 O.T.i64 16, .ca 18 O.fFixed [.t 17, .c (.int .i64 4)], .ap 19 O.T.u8s O.T.u8s 14 18, .mv 5 (.t 19)])
  (.sq (.rg [.mv 20 (.t 5), .fa 21 O.tOld 3 3, .ld 22 O.T.i8 21, .cv 23 O.T.i8 O.T.u8 22, .fa 24 O.tOld 3 4, .ld 25 O.T.i8 24, .cv 26 O.T.i8 O.T.u8 25, .bsl 27 O.T.u8s [.t 23, .t 26], .ap 28 O.T.u8s O.T.u8s 20 27, .mv 5 (.t 28)])
  (.sq (.sq (.rg [.mv 29 (.t 0), .bi 30 .gtr O.T.int (.t 29) (.c (.int .i64 0))]) (.cd 30 (.rg [.mv 31 (.t 5), .fa 32 O.tOld 3 5, .ld 33 O.T.i64 32, .ca 34 O.fFixed [.t 33, .c (.int .i64 8)], .ap 35 O.T.u8s O.T.u8s 31 34, .mv 5 (.t 35)]) .sk))
  (.sq (.gr true (oldR5 O)) .rt)))))
def OldBC (P : Program) (U f : Nat) : Prop := entersB P f = true ∧ ∀ (w : World) (o : OldD) (cs : List Value), OldW w (fun _ => True) o cs → (o.key.getD []).length ≤ 1000000000 → (o.val.getD []).length ≤ 1000000000 → RetB P U f [.int .i64 1, .agg cs.toArray] w (oldB o)
theorem fxo_len {o : Option (List UInt8)} (h : (o.getD []).length ≤ 1000000000) : (fxo o).length ≤ 1000000004 := by
  cases o with
  | none => unfold fxo; rw [fix_len4]; omega
  | some l => unfold fxo; rw [List.length_append, fix_len4]; simp only [Option.getD_some] at h; omega
set_option maxHeartbeats 1000000 in
theorem oldB_ok {f : Nat} (ok : OBK P O) (hx : FxOC P O.T.u8 O.fFxO) (hf : FnIs P f (cOldB O) 45 4) : OldBC P O.T.u8 f := by
  refine ⟨hf.ent, fun w o cs ho hlk hlv => ?_⟩
  obtain ⟨ks, vs, ⟨ad1, c1, rfl, oa1, lc1, by1⟩, ⟨ad2, c2, rfl, oa2, lc2, by2⟩, hcs⟩ := ho
  simp only [List.cons_append, List.nil_append] at hcs
  have hl1 : lim = 1099511627776 := rfl
  have tu := ok.ok4.ok.ok.ok
  have t3 := ok.ok4.ok
  have lk := fxo_len hlk
  have lv := fxo_len hlv
  refine hf.runs (args := [.int .i64 1, .agg cs.toArray]) (by simp) (by omega) ?_
  refine RW.sq (RW.rg (RL.bxA (cs := cs) rfl (RL.step (MR.mv (v := .slice none 0 0) rfl) (RL.nil ?_))))
  have B1 := below_box w (.cells cs.toArray O.tOld)
  have R1 : (w.alloc (.cells cs.toArray O.tOld)).rangeAt w.heap.size 0 cs := fun j v hj => cell_box w cs O.tOld hj
  have S1 := size_box w (.cells cs.toArray O.tOld)
  revert B1 R1 S1
  generalize w.alloc (.cells cs.toArray O.tOld) = w1
  intro B1 R1 S1
  subst hcs
  generalize hp : w.heap.size = p at *
  have hld : ∀ {w' : World} {j : Nat} {v : Value}, w'.heap[p]? = w1.heap[p]? → _ → w'.cell? ⟨p, 0 + j, none⟩ = some v := fun {w' j v} hS hj => (range_keep R1 hS j v hj)
  refine RW.sq (RW.gd tu.mo (fun w' => w'.heap[p]? = w1.heap[p]?) rfl ?_)
  have D1 := below_drew1 w1 w1.heap.size
  have ds : (World.drew1 w1).heap.size = w1.heap.size := rfl
  unfold oldR1
  refine RG.q (fun _ _ => MR.fa rfl (t3.f 0 (by omega))) (RG.q (fun w' hS => MR.ld rfl ok.p64 (hld (j := 0) hS rfl)) (RG.q (fun _ _ => MR.fa rfl (t3.f 1 (by omega))) (RG.q (fun w' hS => MR.ld rfl ok.p32 (hld (j := 1) hS rfl)) (RG.q (fun _ _ => MR.cvI rfl ok.i32 tu.i64) ?_))))
  refine RG.caB (args := [.int .i64 o.off, .int .i64 8]) ok.fx.1 (ok.fx.2 (World.drew1 w1) o.off 8 (by omega)) rfl (fun w' hb hS => by rw [hb.block _ (by omega)]; exact hS) fun sv1 w2 O2 B2 => ?_
  have s2 := B2.size
  refine RG.caB (args := [.int .i64 (IntKind.i64.wrap o.size), .int .i64 4]) ok.fx.1 (ok.fx.2 w2 _ 4 (by omega)) rfl (fun w' hb hS => by rw [hb.block _ (by omega)]; exact hS) fun sv2 w3 O3 B3 => ?_
  have s3 := B3.size
  have O2' : OwnB O.T.u8 w3 (p + 1) sv1 (fix o.off 8) := (O2.keep B3).rebase (by omega)
  refine RG.apOO (B := p + 1) (B' := w2.heap.size) (sv := sv1) (sy := sv2) (bs := fix o.off 8) (l := fix (IntKind.i64.wrap o.size) 4) tu.tk.u8s tu.tk.u8 rfl rfl O2' O3 (by omega) (by rw [fix_len, fix_len]; omega) (fun w' hb _ hS => by rw [hb.block _ (by omega)]; exact hS) fun sv4 w4 O4 B4 => ?_
  have s4 := B4.size
  refine RG.q (fun _ _ => MR.mv (v := sv4) rfl) (RG.nil fun hS4 => ?_)
  have P4 : w4.heap[p]? = w1.heap[p]? := hS4
  have T4 : Below p w w4 := B1.trans ((D1.mono (by omega)).trans ((B2.mono (by omega)).trans ((B3.mono (by omega)).trans (B4.mono (by omega)))))
  refine RW.sq (RW.rg (RL.step (MR.mv (v := sv4) rfl) (RL.step (MR.fa (b := p) (o := 0) rfl (t3.f 2 (by omega))) (RL.step (MR.ld rfl ok.p32 (hld (j := 2) P4 rfl)) (RL.step (MR.cvI (n := o.crc) rfl ok.i32 tu.i64) ?_)))))
  refine RL.fixAp (B := p + 1) (k := 4) (n := IntKind.i64.wrap o.crc) (sv := sv4) ok (by omega) rfl rfl (by omega) O4 (by omega) (by simp only [List.length_append, fix_len]; omega) (fun s1 sv5 w5 O5 B5 => RL.nil ?_) (by omega) (by omega) (by omega) (by omega) (by omega)
  have s5 := B5.size
  have P5 : w5.heap[p]? = w1.heap[p]? := by rw [B5.block p (by omega)]; exact P4
  refine RW.sq (RW.rg (RL.step (MR.mv (v := sv5) rfl) (RL.step (MR.fa (b := p) (o := 0) rfl (t3.f 3 (by omega))) (RL.step (MR.ld rfl ok.p8 (hld (j := 3) P5 rfl)) (RL.step (MR.cvI (n := o.magic) rfl (tu.tk.i8 ok.h8) tu.tk.u8i) (RL.step (MR.fa (b := p) (o := 0) rfl (t3.f 4 (by omega))) (RL.step (MR.ld rfl ok.p8 (hld (j := 4) P5 rfl)) (RL.step (MR.cvI (n := o.attr) rfl (tu.tk.i8 ok.h8) tu.tk.u8i) ?_))))))))
  refine RL.bslAp (B := p + 1) (l := [b8 o.magic, b8 o.attr]) (sv := sv5) tu.tk.u8s tu.tk.u8 (by simp only [List.map_cons, List.map_nil, byteV_b8]; rfl) (by simp) rfl (by omega) O5 (by omega) (by simp only [List.length_append, fix_len, List.length_cons, List.length_nil]; omega) fun ρ1 sv6 w6 hρ1 O6 B6 => ?_
  have s6 := B6.size
  have P6 : w6.heap[p]? = w1.heap[p]? := by rw [B6.block p (by omega)]; exact P5
  refine RL.step (MR.mv (v := sv6) (upd_same _ _ _)) (RL.nil ?_)
  subst hρ1
  refine RW.sq (RW.sq (RW.rg (RL.step (MR.mv (v := .int .i64 1) rfl) (RL.step (MR.biE (v := .bool true) rfl) (RL.nil ?_)))))
  refine RW.cd (b := true) rfl (fun _ => ?_) (fun e => by cases e)
  refine RW.rg (RL.step (MR.mv (v := sv6) rfl) (RL.step (MR.fa (b := p) (o := 0) rfl (t3.f 5 (by omega))) (RL.step (MR.ld rfl ok.p64 (hld (j := 5) P6 rfl)) ?_)))
  refine RL.fixAp (B := p + 1) (k := 8) (n := o.time) (sv := sv6) ok (by omega) rfl rfl (by omega) O6 (by omega) (by simp only [List.length_append, fix_len, List.length_cons, List.length_nil]; omega) (fun s1 sv7 w7 O7 B7 => RL.nil ?_) (by omega) (by omega) (by omega) (by omega) (by omega)
  have s7 := B7.size
  have P7 : w7.heap[p]? = w1.heap[p]? := by rw [B7.block p (by omega)]; exact P6
  have T7 : Below p w w7 := T4.trans ((B5.mono (by omega)).trans ((B6.mono (by omega)).trans (B7.mono (by omega))))
  refine RW.sq (RW.gd tu.mo (fun w' => w'.heap[p]? = w1.heap[p]?) P7 ?_)
  have D7 := below_drew1 w7 w7.heap.size
  have d7 : (World.drew1 w7).heap.size = w7.heap.size := rfl
  have O7' : OwnB O.T.u8 (World.drew1 w7) (p + 1) sv7 _ := O7.keep D7
  unfold oldR5
  have hoc : ∀ {w' : World}, w'.heap[p]? = w1.heap[p]? → w'.rangeAt p (0 + 6) [.bool o.key.isNone, .slice ad1 (o.key.getD []).length c1] := fun hS => by
    have := range_part (k := 6) (m := 2) (range_keep R1 hS); exact this
  have hov : ∀ {w' : World}, w'.heap[p]? = w1.heap[p]? → w'.rangeAt p (0 + 8) [.bool o.val.isNone, .slice ad2 (o.val.getD []).length c2] := fun hS => by
    have := range_part (k := 8) (m := 2) (range_keep R1 hS); exact this
  refine RG.q (fun _ _ => MR.mv (v := sv7) rfl) (RG.q (fun _ _ => MR.fa (b := p) (o := 0) rfl (t3.f 6 (by omega))) (RG.q (fun w' hS => MR.ldRow (cs := [.bool o.key.isNone, .slice ad1 (o.key.getD []).length c1]) rfl t3.ok.or_ t3.ok.oc (hoc hS)) (RG.q (fun _ _ => MR.fa (b := p) (o := 0) rfl t3.f7) (RG.q (fun w' hS => MR.ldRow (cs := [.bool o.val.isNone, .slice ad2 (o.val.getD []).length c2]) rfl t3.ok.or_ t3.ok.oc (hov hS)) ?_))))
  have kT : ∀ {w' : World}, Below p w w' → ∀ (ad : Option Addr) (l : List UInt8), BytesAt w (fun _ => True) ad l → BytesAt w' (fun _ => True) ad l := fun {w'} hb ad l h => by
    refine h.bound.mono (fun _ _ => trivial) (fun b hb' => hb.block b ?_)
    have h2 := hb'.2
    rw [hp] at h2
    exact h2
  have T7' : Below p w (World.drew1 w7) := T7.trans (D7.mono (by omega))
  refine RG.caB (args := [.agg [.bool o.key.isNone, .slice ad1 (o.key.getD []).length c1].toArray]) hx.1 (hx.2 (World.drew1 w7) o.key _ ⟨ad1, c1, rfl, oa1, lc1, kT T7' _ _ by1⟩ hlk) rfl (fun w' hb hS => by rw [hb.block _ (by omega)]; exact hS) fun sv8 w8 O8 B8 => ?_
  have s8 := B8.size
  refine RG.apOO (B := p + 1) (B' := w7.heap.size) (sv := sv7) (sy := sv8) tu.tk.u8s tu.tk.u8 rfl rfl (O7'.keep B8) O8 (by omega) (by simp only [List.length_append, fix_len, List.length_cons, List.length_nil]; omega) (fun w' hb _ hS => by rw [hb.block _ (by omega)]; exact hS) fun sv9 w9 O9 B9 => ?_
  have s9 := B9.size
  have T9 : Below p w w9 := T7'.trans ((B8.mono (by omega)).trans (B9.mono (by omega)))
  refine RG.caB (args := [.agg [.bool o.val.isNone, .slice ad2 (o.val.getD []).length c2].toArray]) hx.1 (hx.2 w9 o.val _ ⟨ad2, c2, rfl, oa2, lc2, kT T9 _ _ by2⟩ hlv) rfl (fun w' hb hS => by rw [hb.block _ (by omega)]; exact hS) fun sv10 w10 O10 B10 => ?_
  have s10 := B10.size
  refine RG.apOO (B := p + 1) (B' := w9.heap.size) (sv := sv9) (sy := sv10) tu.tk.u8s tu.tk.u8 rfl rfl (O9.keep B10) O10 (by omega) (by simp only [List.length_append, fix_len, List.length_cons, List.length_nil]; omega) (fun w' hb _ hS => by rw [hb.block _ (by omega)]; exact hS) fun sv11 w11 O11 B11 => ?_
  refine RG.q (fun _ _ => MR.mv (v := sv11) rfl) (RG.nil fun _ => RW.rt ?_)
  refine ⟨sv11, rfl, ?_, ?_⟩
  · exact O11.rebase (by omega)
  · exact T9.trans ((B10.mono (by omega)).trans (B11.mono (by omega)))
def cSameOld (O : ON) : MCode := .sq (.rg [.bx 2 O.tOld 0, .bx 3 O.tOld 1, .mv 4 (.c (.bool false))])
  (.sq (.gr true [⟨0, none, .ld 5 O.tOld 2⟩, ⟨2, none, .ld 7 O.tOld 3⟩, ⟨1, none, .ca 6 O.fOldB [.c (.int .i64 1), .t 5]⟩, ⟨3, none, .ca 8 O.fOldB [.c (.int .i64 1), .t 7]⟩, ⟨4, none, .ca 9 O.fSame [.t 6, .t 8]⟩, ⟨5, none, .mv 4 (.t 9)⟩]) .rt)
def SameOldC (P : Program) (f : Nat) : Prop := entersB P f = true ∧ ∀ (w : World) (o o' : OldD) (cs cs' : List Value), OldW w (fun _ => True) o cs → OldW w (fun _ => True) o' cs' → (o.key.getD []).length ≤ 1000000000 → (o.val.getD []).length ≤ 1000000000 → (o'.key.getD []).length ≤ 1000000000 → (o'.val.getD []).length ≤ 1000000000 →
  Calls P f #[.agg cs.toArray, .agg cs'.toArray] w (fun e w' => e = .returned (.bool (decide (oldB o = oldB o'))) ∧ Below w.heap.size w w')
theorem oldB_len {o : OldD} (h1 : (o.key.getD []).length ≤ 1000000000) (h2 : (o.val.getD []).length ≤ 1000000000) : (oldB o).length < 9223372036854775807 := by
  have := fxo_len h1
  have := fxo_len h2
  unfold oldB
  simp only [List.length_append, fix_len, List.length_cons, List.length_nil]
  omega
theorem OldW.keep {w w' : World} {F : Nat → Prop} {o : OldD} {cs : List Value} (h : OldW w F o cs) (hb : Kp w w') : OldW w' F o cs := by
  obtain ⟨ks, vs, ⟨a1, c1, h1, h2, h3, h4⟩, ⟨a2, c2, h5, h6, h7, h8⟩, h9⟩ := h
  exact ⟨ks, vs, ⟨a1, c1, h1, h2, h3, h4.kp hb⟩, ⟨a2, c2, h5, h6, h7, h8.kp hb⟩, h9⟩
theorem OldW.len {w : World} {F : Nat → Prop} {o : OldD} {cs : List Value} (h : OldW w F o cs) : cs.length = 10 := by
  obtain ⟨ks, vs, ⟨_, _, rfl, _⟩, ⟨_, _, rfl, _⟩, rfl⟩ := h
  rfl
theorem sameOld_ok {f : Nat} (ok : OBK P O) (hb : OldBC P O.T.u8 O.fOldB) (hs : SameC P O.fSame) (hf : FnIs P f (cSameOld O) 10 4) : SameOldC P f := by
  refine ⟨hf.ent, fun w o o' cs cs' h h' k1 k2 k3 k4 => ?_⟩
  have tu := ok.ok4.ok.ok.ok
  have t3 := ok.ok4.ok
  have l1 := h.len
  have l2 := h'.len
  refine hf.runs (args := [.agg cs.toArray, .agg cs'.toArray]) (by simp) (by omega) ?_
  refine RW.sq (RW.rg (RL.bxA (cs := cs) rfl (RL.bxA (cs := cs') rfl (RL.step (MR.mv (v := .bool false) rfl) (RL.nil ?_)))))
  have B1 := below_box w (.cells cs.toArray O.tOld)
  have R1 : (w.alloc (.cells cs.toArray O.tOld)).rangeAt w.heap.size 0 cs := fun j v hj => cell_box w cs O.tOld hj
  have S1 := size_box w (.cells cs.toArray O.tOld)
  revert B1 R1 S1
  generalize w.alloc (.cells cs.toArray O.tOld) = w1
  intro B1 R1 S1
  have B2 := below_box w1 (.cells cs'.toArray O.tOld)
  have R2 : (w1.alloc (.cells cs'.toArray O.tOld)).rangeAt w1.heap.size 0 cs' := fun j v hj => cell_box w1 cs' O.tOld hj
  have S2 := size_box w1 (.cells cs'.toArray O.tOld)
  revert B2 R2 S2
  generalize w1.alloc (.cells cs'.toArray O.tOld) = w2
  intro B2 R2 S2
  have R1' : w2.rangeAt w.heap.size 0 cs := range_keep R1 (B2.block _ (by omega))
  have B02 : Below w.heap.size w w2 := B1.trans (B2.mono (by omega))
  refine RW.sq (RW.gd tu.mo (fun w' => Below w2.heap.size w2 w') (below_drew1 w2 _) ?_)
  have D := below_drew1 w2 w2.heap.size
  have ds : (World.drew1 w2).heap.size = w2.heap.size := rfl
  refine RG.q (fun w' hS => MR.ldRow (cs := cs) rfl t3.row (by rw [l1]; exact t3.cells) (range_keep R1' (hS.block _ (by omega)))) (RG.q (fun w' hS => MR.ldRow (cs := cs') rfl t3.row (by rw [l2]; exact t3.cells) (range_keep R2 (hS.block _ (by omega)))) ?_)
  refine RG.caB (args := [.int .i64 1, .agg cs.toArray]) hb.1 (hb.2 (World.drew1 w2) o cs (((h.keep B1.kp).keep B2.kp).keep D.kp) k1 k2) rfl (fun w' hb' hS => hS.trans (hb'.mono (by omega))) fun sv1 w3 O3 B3 => ?_
  have s3 := B3.size
  refine RG.caB (args := [.int .i64 1, .agg cs'.toArray]) hb.1 (hb.2 w3 o' cs' ((((h'.keep B1.kp).keep B2.kp).keep D.kp).keep B3.kp) k3 k4) rfl (fun w' hb' hS => hS.trans (hb'.mono (by omega))) fun sv2 w4 O4 B4 => ?_
  have s4 := B4.size
  obtain ⟨ad1, c1, rfl, _, _, by1⟩ := (O3.keep B4).bytes
  obtain ⟨ad2, c2, rfl, _, _, by2⟩ := O4.bytes
  refine RG.ca (R := fun v w' => v = .bool (decide (oldB o = oldB o')) ∧ Below w4.heap.size w4 w') hs.1 (fun hS => ?_) ?_
  · refine Calls.mono (hs.2 w4 ad1 ad2 (oldB o) (oldB o') c1 c2 by1 by2 (oldB_len k1 k2) (oldB_len k3 k4)) ?_
    rintro e w' ⟨rfl, g⟩
    exact ⟨_, rfl, ⟨rfl, g⟩, hS.trans (g.mono (by omega))⟩
  · rintro v w' ⟨rfl, g⟩
    refine RG.q (fun _ _ => MR.mv (v := .bool (decide (oldB o = oldB o'))) rfl) (RG.nil fun hS => RW.rt ?_)
    exact ⟨rfl, B02.trans (hS.mono (by omega))⟩
end
set_option linter.unusedVariables false
def TrueC (P : Program) (f : Nat) : Prop := entersB P f = true ∧ ∀ w : World, Calls P f #[] w (fun e w' => e = .returned (.bool true) ∧ Below w.heap.size w w')
structure LN where
  fJ : Nat
  fAw : Nat
  fRO : Nat
  fT0 : Nat
  fT1 : Nat
  fSO : Nat
theorem oc_small {l : List UInt8} {n : Int} {s : Nat × Int} : ((oc l n s).1.getD []).length ≤ l.length := by
  unfold oc
  by_cases h1 : n = -1 ∧ s.2 = 0
  · rw [if_pos h1]; simp
  rw [if_neg h1]
  generalize (if (l.length : Int) < n then (if (if n < 0 then (if s.2 = 0 then 3 else s.2) else s.2) = 0 then 1 else (if n < 0 then (if s.2 = 0 then 3 else s.2) else s.2)) else (if n < 0 then (if s.2 = 0 then 3 else s.2) else s.2)) = k
  by_cases hk : k = (0 : Int)
  · rw [if_neg (by simp [hk])]
    by_cases h2 : l.length - s.1 < n.toNat
    · rw [if_pos h2]; simp
    · rw [if_neg h2]
      simp only [Option.getD_some, List.length_take, List.length_drop]; omega
  · rw [if_pos hk]; simp
theorem roM_len (v1 : Bool) {l : List UInt8} (hl : l.length ≤ 4096) : ((roM v1 l).1.key.getD []).length ≤ 4096 ∧ ((roM v1 l).1.val.getD []).length ≤ 4096 := by
  unfold roM
  exact ⟨Nat.le_trans oc_small hl, Nat.le_trans oc_small hl⟩
theorem toDs_inj (v1 : Bool) {o o' : OldD} (h : toDs v1 o = toDs v1 o') (ht : v1 = false → o.time = o'.time) : o = o' := by
  obtain ⟨a1, a2, a3, a4, a5, a6, a7, a8⟩ := o
  obtain ⟨b1, b2, b3, b4, b5, b6, b7, b8⟩ := o'
  cases v1
  · have e := ht rfl
    simp only [toDs, Bool.false_eq_true, if_false, List.append_nil, List.cons_append, List.nil_append, List.cons.injEq, D.n.injEq, D.s.injEq, and_true] at h
    dsimp only at e
    obtain ⟨rfl, rfl, rfl, rfl, rfl, rfl, rfl⟩ := h
    subst e
    rfl
  · simp only [toDs, if_true, List.cons_append, List.nil_append, List.cons.injEq, D.n.injEq, D.s.injEq, and_true] at h
    obtain ⟨rfl, rfl, rfl, rfl, rfl, rfl, rfl, rfl⟩ := h
    rfl
section
variable {P : Program} {N : Nat} {Q : Exit → (Nat → Value) → World → Prop} {ρ : Nat → Value} {w w' : World} {ms : List MOp} {gs : List GOp} {O : ON} {L : LN}
def jG1 (O : ON) : List GOp := [⟨0, none, .mv 12 (.t 1)⟩, ⟨1, none, .bi 13 .eql O.T.int (.t 12) (.c (.int .i64 1))⟩, ⟨2, none, .mv 14 (.t 13)⟩, ⟨3, some (2, 14, false), .mv 15 (.t 1)⟩, ⟨4, some (2, 14, false), .bi 16 .eql O.T.int (.t 15) (.c (.int .i64 2))⟩, ⟨5, none, .pk 17 (.t 14) (.c (.bool true)) (.t 16)⟩, ⟨6, none, .mv 11 (.t 17)⟩]
def jG2 (L : LN) : List GOp := [⟨0, none, .mv 18 (.t 3)⟩, ⟨1, none, .nt 19 18⟩, ⟨2, none, .mv 20 (.t 19)⟩, ⟨3, some (2, 20, true), .ca 21 L.fAw []⟩, ⟨4, none, .pk 22 (.t 20) (.t 21) (.c (.bool false))⟩, ⟨5, none, .mv 10 (.t 22)⟩]
def jG3 (O : ON) : List GOp := [⟨0, none, .mv 24 (.t 1)⟩, ⟨1, none, .bi 25 .eql O.T.int (.t 24) (.c (.int .i64 0))⟩, ⟨2, none, .mv 26 (.t 25)⟩, ⟨3, some (2, 26, true), .mv 27 (.t 0)⟩, ⟨4, some (2, 26, true), .mv 28 (.t 2)⟩, ⟨5, some (2, 26, true), .ln 29 O.T.u8s 28⟩, ⟨6, some (2, 26, true), .bi 30 .eql O.T.int (.t 27) (.t 29)⟩, ⟨7, none, .pk 31 (.t 26) (.t 30) (.c (.bool false))⟩, ⟨8, none, .mv 23 (.t 31)⟩]
def jG4 : List GOp := [⟨0, none, .mv 32 (.t 3)⟩, ⟨1, none, .mv 33 (.t 32)⟩, ⟨2, some (1, 33, true), .mv 34 (.t 4)⟩, ⟨3, none, .pk 35 (.t 33) (.t 34) (.c (.bool false))⟩, ⟨4, none, .mv 10 (.t 35)⟩]
def cJudged (O : ON) (L : LN) : MCode :=
  .sq (.rg [.mv 10 (.c (.bool false))]) (.sq (.bl 0 (.sq (.gr false (jG1 O)) (.cd 11 (.sq (.gr false (jG2 L)) .rt) (.sq (.gr false (jG3 O)) (.cd 23 (.sq (.gr false jG4) .rt) .sk)))))
  (.sq (.rg [.ca 36 L.fAw [], .mv 10 (.t 36)]) .rt))
def judgeB (size : Nat) (how : Int) (n : Nat) (ok same : Bool) : Bool := if how = 1 ∨ how = 2 then !ok else if how = 0 ∧ size = n then ok && same else true
def JudgedC (P : Program) (f : Nat) : Prop := entersB P f = true ∧ ∀ (w : World) (size : Nat) (how : Int) (ad : Option Addr) (n c : Nat) (ok same : Bool),
  Calls P f #[.int .i64 (size : Nat), .int .i64 how, .slice ad n c, .bool ok, .bool same] w (fun e w' => e = .returned (.bool (judgeB size how n ok same)) ∧ Below w.heap.size w w')
theorem judged_ok {f : Nat} (tu : OOK P O) (ha : TrueC P L.fAw) (hf : FnIs P f (cJudged O L) 37 10) : JudgedC P f := by
  refine ⟨hf.ent, fun w size how ad n c ok same => ?_⟩
  refine hf.runs (args := [.int .i64 (size : Nat), .int .i64 how, .slice ad n c, .bool ok, .bool same]) (by simp) (by omega) ?_
  refine RW.sq (RW.rg (RL.step (MR.mv (v := .bool false) rfl) (RL.nil ?_)))
  have tail : ∀ (ρ' : Nat → Value) (w1 : World), Below w.heap.size w w1 → judgeB size how n ok same = true → RW P 37 (.sq (.rg [.ca 36 L.fAw [], .mv 10 (.t 36)]) .rt) (retQ 10 (fun e w' => e = .returned (.bool (judgeB size how n ok same)) ∧ Below w.heap.size w w')) ρ' w1 := by
    intro ρ' w1 hb hj
    refine RW.sq (RW.rg (RL.ca (R := fun v w' => v = .bool true ∧ Below w1.heap.size w1 w') ha.1 ?_ ?_))
    · refine Calls.mono (ha.2 w1) ?_
      rintro e w' ⟨rfl, g⟩
      exact ⟨_, rfl, rfl, g⟩
    · rintro v w' ⟨rfl, g⟩
      refine RL.step (MR.mv (v := .bool true) rfl) (RL.nil (RW.rt ?_))
      exact ⟨by rw [hj]; rfl, hb.trans (g.mono hb.size)⟩
  refine RW.sq (RW.bl (RW.sq (RW.gf (fun w' => w' = w) rfl ?_)))
  unfold jG1
  have b1 : ∀ (ρ' : Nat → Value) (b : Bool), (how = 1 ∨ how = 2) = (b = true) → ρ' 11 = .bool b → ρ' 0 = .int .i64 (size : Nat) → ρ' 1 = .int .i64 how → ρ' 2 = .slice ad n c → ρ' 3 = .bool ok → ρ' 4 = .bool same → RW P 37 (.cd 11 (.sq (.gr false (jG2 L)) .rt) (.sq (.gr false (jG3 O)) (.cd 23 (.sq (.gr false jG4) .rt) .sk))) (inBlockR 0 (thenR (RW P 37 (.sq (.rg [.ca 36 L.fAw [], .mv 10 (.t 36)]) .rt) (retQ 10 (fun e w' => e = .returned (.bool (judgeB size how n ok same)) ∧ Below w.heap.size w w'))) (retQ 10 (fun e w' => e = .returned (.bool (judgeB size how n ok same)) ∧ Below w.heap.size w w')))) ρ' w := by
    intro ρ' b hb h11 q0 q1 q2 q3 q4
    refine RW.cd (b := b) h11 (fun e => ?_) (fun e => ?_)
    · subst e
      have hh : how = 1 ∨ how = 2 := by rw [hb]
      refine RW.sq (RW.knows [(3, .bool ok)] (by simp [q3]) (RW.gf (Below w.heap.size w) (Below.refl _ _) ?_))
      unfold jG2
      refine RG.q (fun _ _ => MR.mv (v := .bool ok) rfl) (RG.q (fun _ _ => MR.nt (b := ok) rfl) (RG.q (fun _ _ => MR.mv (v := .bool !ok) rfl) ?_))
      cases ok
      · refine RG.ca (R := fun v w' => v = .bool true) ha.1 (fun hS => ?_) ?_
        · refine Calls.mono (ha.2 w) ?_
          rintro e w' ⟨rfl, g⟩
          exact ⟨_, rfl, rfl, g⟩
        · rintro v w' rfl
          refine RG.q (fun _ _ => MR.pk (b := true) (v := .bool true) rfl rfl) (RG.q (fun _ _ => MR.mv (v := .bool true) rfl) (RG.nil fun hS => RW.rt ?_))
          exact ⟨by unfold judgeB; rw [if_pos hh]; rfl, hS⟩
      · refine RG.no (d := 21) (by exact ⟨by decide, .inl rfl⟩) (RG.q (fun _ _ => MR.pk (b := false) (v := .bool false) rfl rfl) (RG.q (fun _ _ => MR.mv (v := .bool false) rfl) (RG.nil fun hS => RW.rt ?_)))
        exact ⟨by unfold judgeB; rw [if_pos hh]; rfl, hS⟩
    · subst e
      have hh : ¬ (how = 1 ∨ how = 2) := by rw [hb]; simp
      refine RW.sq (RW.knows [(0, .int .i64 (size : Nat)), (1, .int .i64 how), (2, .slice ad n c), (3, .bool ok), (4, .bool same)] (by simp [q0, q1, q2, q3, q4]) (RW.gf (Below w.heap.size w) (Below.refl _ _) ?_))
      unfold jG3
      have b2 : ∀ (ρ' : Nat → Value) (b : Bool), (how = 0 ∧ size = n) = (b = true) → ρ' 23 = .bool b → ρ' 3 = .bool ok → ρ' 4 = .bool same → RW P 37 (.cd 23 (.sq (.gr false jG4) .rt) .sk) (inBlockR 0 (thenR (RW P 37 (.sq (.rg [.ca 36 L.fAw [], .mv 10 (.t 36)]) .rt) (retQ 10 (fun e w' => e = .returned (.bool (judgeB size how n ok same)) ∧ Below w.heap.size w w'))) (retQ 10 (fun e w' => e = .returned (.bool (judgeB size how n ok same)) ∧ Below w.heap.size w w')))) ρ' w := by
        intro ρ' b hb2 h23 h3 h4
        refine RW.cd (b := b) h23 (fun e => ?_) (fun e => RW.sk ?_)
        · subst e
          have h2 : how = 0 ∧ size = n := by rw [hb2]
          refine RW.sq (RW.knows [(3, .bool ok), (4, .bool same)] (by simp [h3, h4]) (RW.gf (Below w.heap.size w) (Below.refl _ _) ?_))
          unfold jG4
          refine RG.q (fun _ _ => MR.mv (v := .bool ok) rfl) (RG.q (fun _ _ => MR.mv (v := .bool ok) rfl) ?_)
          cases ok
          · refine RG.no (d := 34) (by exact ⟨by decide, .inl rfl⟩) (RG.q (fun _ _ => MR.pk (b := false) (v := .bool false) rfl rfl) (RG.q (fun _ _ => MR.mv (v := .bool false) rfl) (RG.nil fun hS => RW.rt ?_)))
            exact ⟨by unfold judgeB; rw [if_neg hh, if_pos h2]; rfl, hS⟩
          · refine RG.q (fun _ _ => MR.mv (v := .bool same) rfl) (RG.q (fun _ _ => MR.pk (b := true) (v := .bool same) rfl rfl) (RG.q (fun _ _ => MR.mv (v := .bool same) rfl) (RG.nil fun hS => RW.rt ?_)))
            exact ⟨by unfold judgeB; rw [if_neg hh, if_pos h2]; rfl, hS⟩
        · subst e
          refine tail _ w (Below.refl _ _) ?_
          unfold judgeB
          rw [if_neg hh, if_neg (by rw [hb2]; simp)]
      refine RG.q (fun _ _ => MR.mv (v := .int .i64 how) rfl) (RG.q (v := .bool (how == 0)) (fun _ _ => MR.biE rfl) (RG.q (fun _ _ => MR.mv (v := .bool (how == 0)) rfl) ?_))
      by_cases h0 : how = 0
      · subst h0
        refine RG.q (fun _ _ => MR.mv (v := .int .i64 (size : Nat)) rfl) (RG.q (fun _ _ => MR.mv (v := .slice ad n c) rfl) (RG.q (fun _ _ => MR.ln tu.tk.u8s rfl) (RG.q (v := .bool (((size : Nat) : Int) == ((n : Nat) : Int))) (fun _ _ => MR.biE rfl) (RG.q (fun _ _ => MR.pk (b := true) (v := .bool (((size : Nat) : Int) == ((n : Nat) : Int))) rfl rfl) (RG.q (fun _ _ => MR.mv (v := .bool (((size : Nat) : Int) == ((n : Nat) : Int))) rfl) (RG.nil fun hS => ?_))))))
        refine b2 _ (((size : Nat) : Int) == ((n : Nat) : Int)) (by simp; omega) rfl rfl rfl
      · have e0 : (how == 0) = false := by simpa using h0
        rw [e0]
        refine (RG.no (d := 27) (by exact ⟨by decide, .inl rfl⟩) (RG.no (d := 28) (by exact ⟨by decide, .inl rfl⟩) (RG.no (d := 29) (by exact ⟨by decide, .inl rfl⟩) (RG.no (d := 30) (by exact ⟨by decide, .inl rfl⟩) (RG.q (fun _ _ => MR.pk (b := false) (v := .bool false) rfl rfl) (RG.q (fun _ _ => MR.mv (v := .bool false) rfl) (RG.nil fun hS => ?_)))))))
        refine b2 _ false (by simp [h0]) rfl rfl rfl
  refine RG.q (fun _ _ => MR.mv (v := .int .i64 how) rfl) (RG.q (v := .bool (how == 1)) (fun _ _ => MR.biE rfl) (RG.q (fun _ _ => MR.mv (v := .bool (how == 1)) rfl) ?_))
  by_cases h1 : how = 1
  · subst h1
    refine (RG.no (d := 15) (by exact ⟨by decide, .inl rfl⟩) (RG.no (d := 16) (by exact ⟨by decide, .inl rfl⟩) (RG.q (fun _ _ => MR.pk (b := true) (v := .bool true) rfl rfl) (RG.q (fun _ _ => MR.mv (v := .bool true) rfl) (RG.nil fun hS => ?_)))))
    exact b1 _ true (by simp) rfl rfl rfl rfl rfl rfl
  · have e1 : (how == 1) = false := by simpa using h1
    rw [e1]
    refine RG.q (fun _ _ => MR.mv (v := .int .i64 how) rfl) (RG.q (v := .bool (how == 2)) (fun _ _ => MR.biE rfl) (RG.q (fun _ _ => MR.pk (b := false) (v := .bool (how == 2)) rfl rfl) (RG.q (fun _ _ => MR.mv (v := .bool (how == 2)) rfl) (RG.nil fun hS => ?_))))
    exact b1 _ (how == 2) (by simp [h1]) rfl rfl rfl rfl rfl rfl
/-! ### The law -/
def cOldLaw (O : ON) (L : LN) : MCode :=
  .sq (.rg [.mv 4 (.c (.bool false))]) (.sq (.sq (.rg [.mv 12 (.t 0), .ln 13 O.T.u8s 12, .bi 14 .gtr O.T.int (.t 13) (.c (.int .i64 2147483647))]) (.cd 14 (.sq (.rg [.mv 4 (.c (.bool true))]) .rt) .sk))
  (.sq (.sq (.rg [.mv 15 (.t 0), .ln 16 O.T.u8s 15, .bi 17 .gtr O.T.int (.t 16) (.c (.int .i64 4096))]) (.cd 17 (.sq (.rg [.mv 4 (.c (.bool true))]) .rt) .sk))
  (.sq (.rg [.mv 5 (.c (.int .i64 0)), .mvf 6 L.fT0]) (.sq (.sq (.rg [.mv 18 (.t 1)]) (.cd 18 (.rg [.mv 5 (.c (.int .i64 1)), .mvf 6 L.fT1]) .sk))
  (.sq (.rg [.mv 20 (.t 5), .mv 21 (.t 0), .ca 22 L.fRO [.t 20, .t 21], .mv 19 (.t 22), .ext 23 19 0, .ext 24 19 1, .ext 25 19 2, .al 7 O.tOld, .st O.tOld 7 23, .mv 8 (.t 24), .mv 9 (.t 25)])
  (.sq (.rg [.mv 27 (.t 6), .mv 28 (.t 0), .cav 29 27 [.t 28], .mv 26 (.t 29), .ext 30 26 0, .ext 31 26 1, .al 10 O.tOld, .st O.tOld 10 30, .mv 11 (.t 31)])
  (.sq (.rg [.mv 32 (.t 8), .mv 33 (.t 9), .mv 34 (.t 0), .mv 35 (.t 11), .ld 36 O.tOld 10, .ld 37 O.tOld 7, .ca 38 L.fSO [.t 36, .t 37], .ca 39 L.fJ [.t 32, .t 33, .t 34, .t 35, .t 38], .mv 4 (.t 39)]) .rt)))))))
theorem law_old {R : RN} {f : Nat} (ok : OOK4 P O) (hz : zOld = zOld) (hRO : ReadOldC P L.fRO) (h0 : TellC P R false L.fT0) (h1 : TellC P R true L.fT1) (hS : SameOldC P L.fSO) (hJ : JudgedC P L.fJ) (hf : FnIs P f (cOldLaw O L) 40 4)
    (w : World) (ad : Option Addr) (l : List UInt8) (c : Nat) (one : Bool) (ev : Value) (had : okA l.length ad) (hlc : l.length ≤ c) (hby : BytesAt w (fun _ => True) ad l) (hev : w.cell? ⟨R.gErr, 0, none⟩ = some ev) (herr : isErr ev) :
    Calls P f #[.slice ad l.length c, .bool one] w (fun e w' => e = .returned (.bool true) ∧ Below w.heap.size w w') := by
  have tu := ok.ok.ok.ok
  refine hf.runs (args := [.slice ad l.length c, .bool one]) (by simp) (by omega) ?_
  refine RW.sq (RW.rg (RL.step (MR.mv (v := .bool false) rfl) (RL.nil ?_)))
  refine RW.sq (RW.sq (RW.rg (RL.step (MR.mv (v := .slice ad l.length c) rfl) (RL.step (MR.ln tu.tk.u8s rfl) (RL.step (MR.biE (v := .bool (decide ((2147483647 : Int) < (l.length : Nat)))) rfl) (RL.nil ?_))))))
  refine RW.cd rfl (fun e => RW.sq (RW.rg (RL.step MR.mv (RL.nil (RW.rt ⟨rfl, Below.refl _ _⟩))))) (fun e => RW.sk ?_)
  refine RW.sq (RW.sq (RW.rg (RL.step (MR.mv (v := .slice ad l.length c) rfl) (RL.step (MR.ln tu.tk.u8s rfl) (RL.step (MR.biE (v := .bool (decide ((4096 : Int) < (l.length : Nat)))) rfl) (RL.nil ?_))))))
  refine RW.cd rfl (fun e => RW.sq (RW.rg (RL.step MR.mv (RL.nil (RW.rt ⟨rfl, Below.refl _ _⟩))))) (fun e2 => RW.sk ?_)
  have hl : l.length ≤ 4096 := by have := of_decide_eq_false e2; omega
  refine RW.sq (RW.rg (RL.step (MR.mv (v := .int .i64 0) rfl) (RL.step MR.mvf (RL.nil ?_))))
  have rest : ∀ (ρ' : Nat → Value) (ft : Nat), TellC P R one ft → ρ' 0 = .slice ad l.length c → ρ' 5 = .int .i64 (if one then 1 else 0) → ρ' 6 = .func (.func ft) #[] #[] →
      RW P 40 (.sq (.rg [.mv 20 (.t 5), .mv 21 (.t 0), .ca 22 L.fRO [.t 20, .t 21], .mv 19 (.t 22), .ext 23 19 0, .ext 24 19 1, .ext 25 19 2, .al 7 O.tOld, .st O.tOld 7 23, .mv 8 (.t 24), .mv 9 (.t 25)])
        (.sq (.rg [.mv 27 (.t 6), .mv 28 (.t 0), .cav 29 27 [.t 28], .mv 26 (.t 29), .ext 30 26 0, .ext 31 26 1, .al 10 O.tOld, .st O.tOld 10 30, .mv 11 (.t 31)])
        (.sq (.rg [.mv 32 (.t 8), .mv 33 (.t 9), .mv 34 (.t 0), .mv 35 (.t 11), .ld 36 O.tOld 10, .ld 37 O.tOld 7, .ca 38 L.fSO [.t 36, .t 37], .ca 39 L.fJ [.t 32, .t 33, .t 34, .t 35, .t 38], .mv 4 (.t 39)]) .rt)))
        (retQ 4 (fun e w' => e = .returned (.bool true) ∧ Below w.heap.size w w')) ρ' w := by
    intro ρ' ft hT r0 r5 r6
    refine RW.knows [(0, .slice ad l.length c), (5, .int .i64 (if one then 1 else 0)), (6, .func (.func ft) #[] #[])] (by simp [r0, r5, r6]) ?_
    refine RW.sq (RW.rg (RL.step (MR.mv (v := .int .i64 (if one then 1 else 0)) rfl) (RL.step (MR.mv (v := .slice ad l.length c) rfl) ?_)))
    refine RL.ca (R := fun v w' => Below w.heap.size w w' ∧ ∃ cs, v = .tuple #[.agg cs.toArray, .int .i64 ((roM one l).2.1 : Nat), .int .i64 (roM one l).2.2] ∧ OldW w' (fun _ => True) (roM one l).1 cs) hRO.1 ?_ ?_
    · refine Calls.mono (hRO.2 w one (fun k => k < w.heap.size) ad l c had hlc (hby.bound.mono (fun b hb => hb.2) (fun _ _ => rfl)) (fun k hk => hk) (by omega)) ?_
      rintro e w' ⟨g1, cs, rfl, ks, vs, ⟨a1, c1, x1, x2, x3, x4⟩, ⟨a2, c2, y1, y2, y3, y4⟩, g3⟩
      exact ⟨_, rfl, g1, cs, rfl, ks, vs, ⟨a1, c1, x1, x2, x3, x4.any⟩, ⟨a2, c2, y1, y2, y3, y4.any⟩, g3⟩
    rintro v w1 ⟨B1, cs1, rfl, O1⟩
    have l1 := O1.len
    have s1 := B1.size
    have one1 : cs1.all (·.oneCell') = true := by
      obtain ⟨ks, vs, ⟨_, _, k1, _⟩, ⟨_, _, k2, _⟩, k3⟩ := O1
      subst k1 k2; rw [k3]; rfl
    refine RL.step (MR.mv (v := .tuple #[.agg cs1.toArray, .int .i64 ((roM one l).2.1 : Nat), .int .i64 (roM one l).2.2]) rfl) (RL.step (MR.ext (v := .agg cs1.toArray) rfl) (RL.step (MR.ext (v := .int .i64 ((roM one l).2.1 : Nat)) rfl) (RL.step (MR.ext (v := .int .i64 (roM one l).2.2) rfl) ?_)))
    refine RL.alst (n := 10) (z := zOld) (cs := cs1) ok.oz rfl (by omega) rfl l1 ok.ok.cells one1 (fun w2 B2 S2 R2 _ => ?_)
    refine RL.step (MR.mv (v := .int .i64 ((roM one l).2.1 : Nat)) rfl) (RL.step (MR.mv (v := .int .i64 (roM one l).2.2) rfl) (RL.nil ?_))
    have B02 : Below w.heap.size w w2 := B1.trans (B2.mono s1)
    have O2 : OldW w2 (fun _ => True) (roM one l).1 cs1 := O1.keep B2.kp
    have gR : R.gErr < w.heap.size := World.block_lt_of_cell? w _ hev
    refine RW.sq (RW.rg (RL.step (MR.mv (v := .func (.func ft) #[] #[]) rfl) (RL.step (MR.mv (v := .slice ad l.length c) rfl) ?_)))
    refine RL.cav (R := fun v w' => Below w2.heap.size w2 w' ∧ ∃ cs ds st o, GotM (ksOf one) (some l) ds st ∧ v = .tuple #[.agg cs.toArray, .bool st.isSome] ∧ OldW w' (fun k => w2.heap.size ≤ k) o cs ∧ (st ≠ none → ds = toDs one o ∧ (one = false → o.time = 0)) ∧ (o.key.getD []).length ≤ l.length ∧ (o.val.getD []).length ≤ l.length) (g := ft) (lb := []) hT.1 rfl ?_ ?_
    · refine Calls.mono (hT.2 w2 ad l c ev ((hby.bound.mono (F' := fun _ => True) (fun _ _ => trivial) (fun b hb => B02.block b hb.2))) (by omega) (by rw [cell_of_heap (w := w) (a := ⟨R.gErr, 0, none⟩) (B02.block R.gErr gR)]; exact hev) herr) ?_
      rintro e w' ⟨g1, cs, ds, st, o, g2, rfl, g3⟩
      exact ⟨_, rfl, g1, cs, ds, st, o, g2, rfl, g3⟩
    rintro v w3 ⟨B3, cs3, ds, st, o3, hg, rfl, O3, h3, hk3, hv3⟩
    have l3 := O3.len
    have s3 := B3.size
    have one3 : cs3.all (·.oneCell') = true := by
      obtain ⟨ks, vs, ⟨_, _, k1, _⟩, ⟨_, _, k2, _⟩, k3⟩ := O3
      subst k1 k2; rw [k3]; rfl
    refine RL.step (MR.mv (v := .tuple #[.agg cs3.toArray, .bool st.isSome]) rfl) (RL.step (MR.ext (v := .agg cs3.toArray) rfl) (RL.step (MR.ext (v := .bool st.isSome) rfl) ?_))
    refine RL.alst (n := 10) (z := zOld) (cs := cs3) ok.oz rfl (by omega) rfl l3 ok.ok.cells one3 (fun w4 B4 S4 R4 _ => ?_)
    refine RL.step (MR.mv (v := .bool st.isSome) rfl) (RL.nil ?_)
    have B04 : Below w.heap.size w w4 := B02.trans ((B3.mono (by have := B02.size; omega)).trans (B4.mono (by have := B02.size; omega)))
    have R2' : w4.rangeAt w1.heap.size 0 cs1 := range_keep (range_keep R2 (B3.block _ (by omega))) (B4.block _ (by omega))
    have O2' : OldW w4 (fun _ => True) (roM one l).1 cs1 := (O2.keep B3.kp).keep B4.kp
    have O3' : OldW w4 (fun _ => True) o3 cs3 := by
      obtain ⟨ks, vs, ⟨a1, c1, x1, x2, x3, x4⟩, ⟨a2, c2, y1, y2, y3, y4⟩, g3⟩ := O3
      exact ⟨ks, vs, ⟨a1, c1, x1, x2, x3, (x4.kp B4.kp).any⟩, ⟨a2, c2, y1, y2, y3, (y4.kp B4.kp).any⟩, g3⟩
    refine RW.sq (RW.rg (RL.step (MR.mv (v := .int .i64 ((roM one l).2.1 : Nat)) rfl) (RL.step (MR.mv (v := .int .i64 (roM one l).2.2) rfl) (RL.step (MR.mv (v := .slice ad l.length c) rfl) (RL.step (MR.mv (v := .bool st.isSome) rfl)
      (RL.step (MR.ldRow (cs := cs3) rfl ok.ok.row (by rw [l3]; exact ok.ok.cells) R4) (RL.step (MR.ldRow (cs := cs1) rfl ok.ok.row (by rw [l1]; exact ok.ok.cells) R2') ?_)))))))
    obtain ⟨hk1, hv1⟩ := roM_len one hl
    refine RL.ca (R := fun v w' => v = .bool (decide (oldB o3 = oldB (roM one l).1)) ∧ Below w4.heap.size w4 w') hS.1 ?_ ?_
    · refine Calls.mono (hS.2 w4 o3 (roM one l).1 cs3 cs1 O3' O2' (by omega) (by omega) (by omega) (by omega)) ?_
      rintro e w' ⟨rfl, g⟩
      exact ⟨_, rfl, rfl, g⟩
    rintro v w5 ⟨rfl, B5⟩
    refine RL.ca (R := fun v w' => v = .bool (judgeB (roM one l).2.1 (roM one l).2.2 l.length st.isSome (decide (oldB o3 = oldB (roM one l).1))) ∧ Below w5.heap.size w5 w') hJ.1 ?_ ?_
    · refine Calls.mono (hJ.2 w5 (roM one l).2.1 (roM one l).2.2 ad l.length c st.isSome (decide (oldB o3 = oldB (roM one l).1))) ?_
      rintro e w' ⟨rfl, g⟩
      exact ⟨_, rfl, rfl, g⟩
    rintro v w6 ⟨rfl, B6⟩
    refine RL.step (MR.mv (v := .bool (judgeB (roM one l).2.1 (roM one l).2.2 l.length st.isSome (decide (oldB o3 = oldB (roM one l).1)))) rfl) (RL.nil (RW.rt ?_))
    refine ⟨?_, B04.trans ((B5.mono B04.size).trans (B6.mono (by have := B04.size; have := B5.size; omega)))⟩
    show Ending.returned (.bool _) = _
    congr 2
    unfold judgeB
    rcases old_plain one hg with ⟨p1, p2, p3⟩ | ⟨p1, p2⟩ | p1
    · rw [p1]
      simp only [Int.reduceEq, false_or, if_false, true_and]
      split
      · obtain ⟨q1, q2⟩ := h3 p2
        have e : o3 = (roM one l).1 := toDs_inj one (q1.symm.trans p3) (fun e => by rw [q2 e]; subst e; rfl)
        rw [e]
        cases st with
        | none => exact absurd rfl p2
        | some r => simp
      · rfl
    · rw [p1, p2]
      simp
    · rw [p1]
      simp
  refine RW.sq (RW.sq (RW.rg (RL.step (MR.mv (v := .bool one) rfl) (RL.nil ?_))))
  cases one
  · refine RW.cd (b := false) rfl (fun e => by cases e) (fun _ => RW.sk ?_)
    exact rest _ L.fT0 h0 rfl rfl rfl
  · refine RW.cd (b := true) rfl (fun _ => ?_) (fun e => by cases e)
    refine RW.rg (RL.step (MR.mv (v := .int .i64 1) rfl) (RL.step MR.mvf (RL.nil ?_)))
    exact rest _ L.fT1 h1 rfl rfl rfl
end
end Go.Kx
namespace Go.Kx
open Go.RowKit Go.ChangeShapes Go.WideShapes Go.WideElems
set_option linter.unusedSimpArgs false
set_option linter.unusedVariables false
def isTrueR : Option (AV × List (Option Blk)) → Bool
  | some (.f (.m (.bool true)), _) => true
  | _ => false
theorem true_known {P : Program} {K : TK} {fs : List FE} (ok : TKK P K) (hmo : P.follows .mixedOrders = true) (hF : (fs.all (feB P)) = true) {n f : Nat} (h : isTrueR (callF K fs (evC K fs n) (fun _ => false) [] f []) = true) : TrueC P f := by
  have hall : ∀ e ∈ fs, feB P e = true := List.all_eq_true.1 hF
  cases hr : callF K fs (evC K fs n) (fun _ => false) [] f [] with
  | none => rw [hr] at h; cases h
  | some r =>
    obtain ⟨a, mem⟩ := r
    rw [hr] at h
    have ha : a = .f (.m (.bool true)) := by
      unfold isTrueR at h
      split at h
      · rename_i e
        simp only [Option.some.injEq, Prod.mk.injEq] at e
        exact e.1
      · cases h
    subst ha
    refine ⟨(call_known (w := default) ok hmo hall hr).1, fun w => Calls.mono (call_known (w := w) ok hmo hall hr).2 ?_⟩
    rintro e w' ⟨v, k, μ', rfl, h1, h2⟩
    have : v = .bool true := h1
    subst this
    exact ⟨rfl, h2⟩
section
variable {P : Program} {H : Type} {enc : TypeId × Value → H} {B : DataW H → Nat} {BA : List (DataW H) → Nat}
theorem old_row {f gE tB tu8 tu8s : Nat} (hlaw : ∀ (w : World) (ad : Option Addr) (l : List UInt8) (c : Nat) (one : Bool) (ev : Value), okA l.length ad → l.length ≤ c → BytesAt w (fun _ => True) ad l → w.cell? ⟨gE, 0, none⟩ = some ev → isErr ev →
      Calls P f #[.slice ad l.length c, .bool one] w (fun e w' => e = .returned (.bool true) ∧ Below w.heap.size w w'))
    (h8 : intTy P tu8 .u8 = true) (h8s : sliceOf P tu8s tu8 = true) (hc8 : P.cellsOf tu8 = 1) (hbo : boolB P tB = true)
    {fn : Func} {s : ChangeSpec} (hB : BulkOk B BA) (hp : fn.params = #[tu8s, tB]) (hr : fn.resultTypes = #[tB]) (hv : s.vars = []) (hl : laidOutB P = true) (hrd : fn.params.toList.all (fun t => P.readableRec t && decide (t < P.types.size)) = true)
    (hfn : ∀ d1 d2, s.fn H [d1, d2] = { results := [.lit (.bool true)], args := [d1, d2], vars := [] }) {W : World} {base : Nat} {args : Array Value} {ds gs : List (DataW H)} {before : List MemPlace}
    (hval : ∀ (j : Nat) t v, fn.params[j]? = some t → args[j]? = some v → Value.okWide P W .any base t v) (hW : DataW.Whole enc P fn.params.toList s.vars false W args.toList ds gs before) (hev : ∃ ev, W.cell? ⟨gE, 0, none⟩ = some ev ∧ isErr ev) :
    Calls P f args W fun e W' => ∃ v, e = .returned v ∧ s.post enc P fn false true false false W args v W' := by
  have hW' := hW
  obtain ⟨p, q, hA, hV, rfl, hfz, hnd⟩ := hW
  have hg0 : gs = [] := by
    rw [hv] at hV
    cases gs with
    | nil => rfl
    | cons g gs => simp [DataW.TrodVars] at hV
  subst hg0
  rw [hp] at hA hval
  obtain ⟨v0, vs0, d0, ds0, p0, q0, hargs, rfl, rfl, t0, r0⟩ := trodAll_cons hA
  obtain ⟨v1, vs1, d1, ds1, p1, q1, hargs1, rfl, rfl, t1, r1⟩ := trodAll_cons r0
  obtain ⟨rfl, rfl, rfl⟩ := trodAll_nil r1
  subst hargs1
  obtain rfl : args = #[v0, v1] := by cases args; simp_all
  obtain ⟨one, rfl⟩ := okWide_bool (boolB_eq hbo) (hval 1 tB v1 rfl rfl)
  obtain ⟨a, len, cap, rfl⟩ := okWide_slice (sliceOf_eq h8s) (hval 0 tu8s v0 rfl rfl)
  obtain ⟨fuel, ht⟩ := t0
  obtain ⟨ad, l, c, hcs, hoA, hlc, hby, _⟩ := open_u8s h8s h8 hc8 hB (cs := (Value.slice a len cap).cells.toList) (x := (d0, _)) ht
  have hcs' : Value.slice a len cap = .slice ad l.length c := by simpa [Value.cells] using hcs
  obtain ⟨ev, hc, hie⟩ := hev
  have hrun := hlaw W ad l c one ev hoA hlc hby hc hie
  rw [← hcs'] at hrun
  refine hrun.mono ?_
  rintro e W' ⟨rfl, hbel⟩
  exact ⟨_, rfl, row_post hl hrd hr (boolB_eq hbo) hv hW' hbel (by rw [List.append_nil]; exact hfn _ _)⟩
end
end Go.Kx
