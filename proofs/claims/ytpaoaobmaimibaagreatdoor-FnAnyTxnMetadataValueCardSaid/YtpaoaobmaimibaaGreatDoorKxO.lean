/- Messages that are kept within others: the version stands ahead of the fields, in the octets. NewX, readFrom, impl.AgainX. Conditions: the contracts of what they call.
   Messages that are kept: NewX, impl.AgainX of one argument. Conditions: the contracts of what they call.
   The laws of messages that are kept: spec.Kept; FnAgain's own code. Conditions: the contracts of what they call.
   Messages that are kept, the plain law: the version ahead of the fields, read and written again. Then the laws' tests and runs.
   Laws of messages that are kept: the tests, FnAgain's run, its row.
   The laws FnAny.. of messages that are kept: the law's own code, its row. Conditions: the contracts of what it calls; the program's tests, the row's closed facts.
   Numbers with a point: appended, read. Conditions: the program's tests; what its two functions of the library without a text answer (extern). -/
import Derived.Test.YtpaoaobmaimibaaGreatDoorKxN
namespace Go.Kx
open Go.RowKit
set_option linter.unusedSimpArgs false
set_option linter.unusedVariables false
def cRFK (R : RN) (G : TG) (p : Plan) (fDef L : Nat) : MCode × Nat :=
  let h := flexR R p (L + 13)
  let f := genRF R G p.sfR p.fs p.T p.vsR (h.2 + 1) (p.vsR + 1) 0
  let g := tagsR R G p.sfR p.T p.vsR p.tg f.2.1 f.2.2.1 f.2.2.2
  (rows ([.rg [.mv 6 (.c .niface)], .rg [.mv L (.t 0), .ca (L + 1) fDef [.t L]], .rg [.mv (L + 2) (.t 1), .bdl (L + 3) R.tR [(0, .t (L + 2))], .al 7 R.tR, .st R.tR 7 (L + 3)],
    .rg [.mv (L + 4) (.t 0), .ca (L + 5) R.i16 [.t 7], .nc (L + 6) (L + 4), .fa (L + 7) p.T (L + 6) 0, .st R.T.i16 (L + 7) (L + 5)],
    (loadA p.T 0 0 R.T.i16 8 (L + 8)).1, .rg [.mv (L + 12) (.t 8)]] ++ (h.1 ++ ([.rg [.mv h.2 (.t 0), .mv p.vsR (.t h.2)]] ++ (f.1 ++ (g.1 ++ [.rg [.ca g.2.1 R.compl [.t 7], .mv 6 (.t g.2.1)], .rt]))))), g.2.1 + 1)
def decK (p : Plan) : Dec (Int × List D × List (Nat × List UInt8)) := (dInt 2).bind fun ver => (decTop p ver).map fun x => (ver, x)
def encK (p : Plan) (ver : Int) (ds : List D) (ts : List (Nat × List UInt8)) : List UInt8 := fix ver 2 ++ encTop p ver ds ts
def rfkB (P : Program) (R : RN) (G : TG) (p : Plan) (fDef : Nat) (df : Dfs) (rest : List MVal) (L N : Nat) : List Bool :=
  [wfRF P R G p.sfR p.fs p.T (p.pre (rest.length + 1)) 1, fieldAtB P p.T 0 0, Nat.ble (cRFt R G p (L + 13)).2.2.1 L, Nat.ble (cRFK R G p fDef L).2 N, intTy P R.T.i16 .i16, plainTy P R.T.i16,
   zfB p.fs ((.int .i16 0 :: rest).take (p.pre (rest.length + 1))), geD df 0, eqMs (putM df 0 (.int .i16 0 :: rest)) (.int .i16 0 :: rest),
   isFn0 P fDef (rows (genD 0 df (defT0 df) 2).1) (genD 0 df (defT0 df) 2).2.1, okD P (rest.length + 1) df 0, Nat.ble (genD 0 df (defT0 df) 2).2.2 (defT0 df),
   zeroIs P R.tR [.nslice, .bool false], plcB P R.tR 2, cellsB P R.tR 2,
   tgB P R G p rest,
   !(Nat.beq R.i16 0), cellsB P R.T.i16 1]
def RFKC (P : Program) (f : Nat) (p : Plan) (gE : Nat) (rest : List MVal) : Prop := entersB P f = true ∧ ∀ (w : World) (b sb : Nat) (ad : Option Addr) (l : List UInt8) (c : Nat) (ev : Value), w.rangeAt b 0 (.int .i16 0 :: rest.map MVal.val) → w.there b 0 (rest.length + 1) → BytesAt w (· = sb) ad l → okAd ad → l.length ≤ c → sb < w.heap.size → sb ≠ b → w.cell? ⟨gE, 0, none⟩ = some ev → gE ≠ b → isErr ev →
  Calls P f #[.pointer (some ⟨b, 0, none⟩), .slice ad l.length c, .bool false] w (fun e w' => Fr (fun _ => False) b 0 (rest.length + 1) w w' ∧
    ((∃ ver ds tags r cs, decK p l = some ((ver, ds, tags), r) ∧ I16 ver ∧ e = .returned MVal.niface.val ∧ MsgAt w' (fun k => k = b ∨ k = sb ∨ (w.heap.size ≤ k ∧ k < w'.heap.size)) p ⟨b, 0, none⟩ ver ds tags cs) ∨ (decK p l = none ∧ e = .returned ev)))
theorem Got.unmap {α β : Type} {d : Dec α} {f : α → β} (hf : ∀ x y, f x = f y → x = y) {st st' : Option (List UInt8)} {x : α} (h : Got (d.map f) st (f x) st') : Got d st x st' := by
  cases st with
  | none => cases st' with
    | none => rfl
    | some r => simp [Got] at h
  | some l => cases st' with
    | none =>
      have h' : d.map f l = none := h
      unfold Dec.map at h'
      cases hd : d l with
      | none => exact hd
      | some p => rw [hd] at h'; simp at h'
    | some r =>
      have h' : d.map f l = some (f x, r) := h
      unfold Dec.map at h'
      cases hd : d l with
      | none => rw [hd] at h'; simp at h'
      | some p =>
        rw [hd] at h'
        simp only [Option.map_some, Option.some.injEq, Prod.mk.injEq] at h'
        show d l = _
        rw [hd, ← hf _ _ h'.1, ← h'.2]
section
variable {P : Program} {R : RN} {G : TG}
theorem rfk_of {f fDef L N : Nat} {p : Plan} {df : Dfs} {rest : List MVal} (kk : RKOK P R G) (h : (rfkB P R G p fDef df rest L N).all id = true) (hf : FnIs P f (cRFK R G p fDef L).1 N 6) : RFKC P f p R.gErr rest := by
  simp only [rfkB, List.all_cons, List.all_nil, id_eq, Bool.and_true, Bool.and_eq_true, Nat.ble_eq] at h
  obtain ⟨h1, h2, h3, h4, h5, h6, h7, h8, h9, h10, h11, h12, h13, h14, h15, h16, h17, h18⟩ := h
  have hdef : DefD P fDef (rest.length + 1) df := defD_of (FnIs0.of h10) h11 h12
  refine ⟨hf.ent, fun w b sb ad l c ev hr ht hb had hlc hsb hne hev hgb her => ?_⟩
  have hxx : 9 ≤ p.vsR := by unfold Plan.vsR; split <;> omega
  have hgl := genRF_le (R := R) (G := G) (sf := p.sfR) p.fs (T := p.T) (vs := p.vsR) (t := (flexR R p (L + 13)).2 + 1) (x := p.vsR + 1) (bk := 0)
  have hfl : L + 13 ≤ (flexR R p (L + 13)).2 := by unfold flexR; split <;> simp
  have hN : (tagsR R G p.sfR p.T p.vsR p.tg (genRF R G p.sfR p.fs p.T p.vsR ((flexR R p (L + 13)).2 + 1) (p.vsR + 1) 0).2.1 (genRF R G p.sfR p.fs p.T p.vsR ((flexR R p (L + 13)).2 + 1) (p.vsR + 1) 0).2.2.1 (genRF R G p.sfR p.fs p.T p.vsR ((flexR R p (L + 13)).2 + 1) (p.vsR + 1) 0).2.2.2).2.1 + 1 ≤ N := h4
  have htl' := @tagsR_le R G p.sfR p.T p.vsR (genRF R G p.sfR p.fs p.T p.vsR ((flexR R p (L + 13)).2 + 1) (p.vsR + 1) 0).2.1 (genRF R G p.sfR p.fs p.T p.vsR ((flexR R p (L + 13)).2 + 1) (p.vsR + 1) 0).2.2.1 (genRF R G p.sfR p.fs p.T p.vsR ((flexR R p (L + 13)).2 + 1) (p.vsR + 1) 0).2.2.2 p.tg
  have h3' := h3
  unfold cRFt at h3'
  have hL : p.vsR + 1 ≤ L := by omega
  have hbw : b < w.heap.size := World.block_lt_of_cell? w _ (hr 0 _ rfl)
  have hlenV : (Value.int .i16 0 :: rest.map MVal.val).length = rest.length + 1 := by simp
  have hput : putD df 0 (.int .i16 0 :: rest.map MVal.val) = .int .i16 0 :: rest.map MVal.val := by
    have e3 := eqMs_eq h9
    rw [putM_val] at e3
    simpa only [List.map_cons, MVal.val] using e3
  refine hf.runs (args := [.pointer (some ⟨b, 0, none⟩), .slice ad l.length c, .bool false]) (by simp; omega) (by omega) ?_
  simp only [cRFK]
  refine RWL.rows ?_
  simp only [List.cons_append, List.nil_append]
  refine mvc_ok (L := L) (by omega) (by omega) fun ρ1 a1 a2 => ?_
  have p0 : ρ1 0 = .pointer (some ⟨b, 0, none⟩) := by rw [a1 0 (by omega) (by omega)]; rfl
  have p1 : ρ1 1 = .slice ad l.length c := by rw [a1 1 (by omega) (by omega)]; rfl
  have p2 : ρ1 2 = .bool false := by rw [a1 2 (by omega) (by omega)]; rfl
  refine RW.rg (RL.step (MR.mv p0 (ltT (by omega))) (RL.ca (R := fun _ w' => w'.rangeAt b 0 (.int .i16 0 :: rest.map MVal.val) ∧ Fr (fun _ => False) b 0 (rest.length + 1) w w') hdef.1 ?_ ?_ (by omega) (by simp [MX.lt, Nat.blt_eq]; omega)) (by omega))
  · simp only [List.map_cons, List.map_nil, xof]
    rw [upd_same]
    refine Calls.mono (hdef.2 w b 0 _ hr ht hlenV) ?_
    rintro e w' ⟨rfl, g1, g2⟩
    exact ⟨_, rfl, by rw [hput] at g1; exact g1, g2⟩
  rintro v1 w1 ⟨hr1, F1⟩
  refine RL.nil ?_
  have hb1 : BytesAt w1 (· = sb) ad l := hb.mono (fun _ h => h) (fun k hk => by rw [hk]; exact F1.block sb hsb hne (fun x => x))
  have hz := zeroIs_of h13
  refine RW.rg (RL.step (MR.mv (v := .slice ad l.length c) (by show upd _ _ _ 1 = _; (repeat (first | rw [upd_same] | rw [upd_ne _ _ (by omega)])); exact p1) (ltT (by omega))) (RL.step (MR.bdl (w' := w1) (v := .agg #[.slice ad l.length c, .bool false]) ?_ (by simp [MX.lt, Nat.blt_eq]; omega)) (RL.alst (z := [.slice none 0 0, .bool false]) (cs := [.slice ad l.length c, .bool false]) (n := 2) hz (upd_same _ _ _) (by omega) rfl rfl h15 rfl ?_ (by omega) (by omega)) (by omega)) (by omega))
  · have hbd := built_of (z := [.slice none 0 0, .bool false]) (parts := [(0, .slice ad l.length c)]) (cells := [.slice ad l.length c, .bool false]) hz h14 (by simp [Value.cells]) rfl w1
    simp only [List.map_cons, List.map_nil, xof]
    rw [upd_same]
    exact hbd
  intro w2 b2 s2 r2 t2
  refine RL.nil ?_
  have hs1 := F1.size
  have R2 : RdAt w2 w1.heap.size sb (some l) := by
    refine ⟨ad, c, r2, t2, had, hlc, fun j y hj => ?_⟩
    obtain ⟨g, o, e1, e2, e3⟩ := hb1 j y hj
    exact ⟨g, o, e1, e2, b2.kp _ _ e3⟩
  have hr2 : w2.rangeAt b 0 (.int .i16 0 :: rest.map MVal.val) := range_keep hr1 (b2.block b (by omega))
  have ht2 : w2.there b 0 (rest.length + 1) := there_keep (F1.there _ _ ht) (b2.block b (by omega))
  have F2 : Fr (fun _ => False) b 0 (rest.length + 1) w w2 := F1.trans (Fr.ofBelow b2 (by omega))
  have hev2 : w2.cell? ⟨R.gErr, 0, none⟩ = some ev := b2.kp _ _ (by rw [cell_of_heap (F1.block _ (World.block_lt_of_cell? w _ hev) hgb (fun x => x))]; exact hev)
  refine RW.rg (RL.step (MR.mv (v := .pointer (some ⟨b, 0, none⟩)) (by show upd _ _ _ 0 = _; (repeat (first | rw [upd_same] | rw [upd_ne _ _ (by omega)])); exact p0) (ltT (by omega))) ?_ (by omega))
  refine RL.rd (kk.fn .i16 false (ne0 h17)) (by show upd _ _ _ 7 = _; (repeat (first | rw [upd_same] | rw [upd_ne _ _ (by omega)]))) R2 (by omega) (ltT (by omega)) (by omega) ?_
  rintro v d st4 w4 F4 G4 R4 ⟨cv, c1, c2, c3⟩
  obtain ⟨ver, e1, rfl, vr⟩ := c3
  have hv : v = .int .i16 ver := by
    have hcc : v.cells = #[.int .i16 ver] := by apply Array.toList_inj.1; rw [e1]
    have cv' : v.oneCell' = true := cv
    cases v <;> simp_all [Value.cells, Value.oneCell']
  subst hv
  have hG : Got (dInt 2) (some l) ver st4 := Got.unmap (f := D.n) (fun x y h => by injection h) G4
  have s4 := F4.size
  have F4b : Fr (fun k => k = w1.heap.size) b 0 (rest.length + 1) w2 w4 := F4.rd (b := b) (by omega) (by omega)
  have ht4 : w4.there b 0 (rest.length + 1) := F4b.there _ _ ht2
  have hr4 : w4.rangeAt b 0 (.int .i16 0 :: rest.map MVal.val) := range_keep hr2 (F4.block b (by omega) (by omega) (fun x => x))
  refine RL.step (MR.nc (p := ⟨b, 0, none⟩) (by (repeat (first | rw [upd_same] | rw [upd_ne _ _ (by omega)]))) (by omega)) (RL.step (MR.fa (upd_same _ _ _) h2 (by omega)) (RL.st1 (v := .int .i16 ver) (b := b) (o := 0 + 0) (upd_same _ _ _) (by (repeat (first | rw [upd_same] | rw [upd_ne _ _ (by omega)]))) rfl h18 (there_in ht4 (by omega)) (RL.nil ?_) (by omega) (by omega)) (by omega)) (by omega)
  have FP : Fr (fun _ => False) b 0 (rest.length + 1) w4 (w4.setCells b (0 + 0) [.int .i16 ver]) := Fr.put _ (by omega) (by simp)
  have R5 : RdAt (w4.setCells b (0 + 0) [.int .i16 ver]) w1.heap.size sb st4 := R4.keep (setCells_other b _ _ _ _ (by omega)) (setCells_other b _ _ _ sb hne)
  have hr5 : (w4.setCells b (0 + 0) [.int .i16 ver]).rangeAt b 0 (.int .i16 ver :: rest.map MVal.val) := by
    have := range_set (k := 0) (v := .int .i16 ver) hr4 (there_in (k := 0) (m := 1) ht4 (by omega))
    simpa using this
  have F5 : Fr (fun _ => False) b 0 (rest.length + 1) w (w4.setCells b (0 + 0) [.int .i16 ver]) := (((F2.wide (X' := (· = w1.heap.size)) (fun _ x => x.elim) (Nat.le_refl _) (Nat.le_refl _)).trans F4b).trans (FP.wide (fun _ x => x.elim) (Nat.le_refl _) (Nat.le_refl _))).drop (fun k hk => .inr (by omega))
  have ht5 := FP.there _ _ ht4
  have hev5 : (w4.setCells b (0 + 0) [.int .i16 ver]).cell? ⟨R.gErr, 0, none⟩ = some ev := by
    have hg2 := World.block_lt_of_cell? w2 _ hev2
    have hgw := World.block_lt_of_cell? w _ hev
    simp only at hg2 hgw
    rw [cell_of_heap (setCells_other b _ _ _ _ hgb), cell_of_heap (F4.block _ hg2 (by show R.gErr ≠ w1.heap.size; omega) (fun x => x))]
    exact hev2
  have sP := FP.size
  show RWL P N _ _ _ (w4.setCells b (0 + 0) [.int .i16 ver])
  refine loadR_ok (L := L) (b := b) (o := 0) (off := 0) (v := .int .i16 ver) h2 h6 (by (repeat (first | rw [upd_same] | rw [upd_ne _ _ (by omega)])); exact p0) (hr5 0 _ rfl) (by omega) (by omega) (by omega) (by omega) fun ρ3 k1 k2 => ?_
  have keep3 : ∀ s, s < 6 → ρ3 s = ρ1 s := fun s hs => by rw [k1 s (by omega) (by omega)]; (repeat (first | rw [upd_same] | rw [upd_ne _ _ (by omega)]))
  have k7 : ρ3 7 = .pointer (some ⟨w1.heap.size, 0, none⟩) := by rw [k1 7 (by omega) (by omega)]; (repeat (first | rw [upd_same] | rw [upd_ne _ _ (by omega)]))
  have hrun := rf_core (p := p) (L := L) (N := N) (t0 := L + 12) (rest := rest) (rb := w1.heap.size) (sb := sb) (b := b) (ver := ver) (ev := ev) (st := st4) (w0 := w) (w2 := w4.setCells b (0 + 0) [.int .i16 ver]) (ρ3 := ρ3) kk h5 h1 h3 (by omega) hN h7 h16 hs1 hbw
    ⟨R5, by omega, hne, by omega, by omega, Nat.le_refl _, by omega, by omega, ht5, her, hev5, hgb, by have := World.block_lt_of_cell? w _ hev; exact fun e => by simp only at this; omega⟩ hr5 ht5 F5 (by rw [keep3 0 (by omega)]; exact p0) k7 (by rw [keep3 2 (by omega)]; exact p2) k2
  refine RWL.mono hrun ?_
  intro e ρ' w' h
  cases e <;> first | exact h | skip
  obtain ⟨g1, ⟨ds, tags, r, cs, g2, g3, g4⟩ | ⟨g2, g3⟩⟩ := h
  · refine ⟨g1, .inl ⟨ver, ds, tags, r, cs, ?_, vr, g3, g4⟩⟩
    exact (hG.bind (k := fun ver => (decTop p ver).map fun x => (ver, x)) (g2.map (f := fun x => (ver, x))) : Got (decK p) (some l) (ver, ds, tags) (some r))
  · refine ⟨g1, .inr ⟨?_, g3⟩⟩
    exact (hG.bind (k := fun ver => (decTop p ver).map fun x => (ver, x)) ((g2 default).map (f := fun x => (ver, x))) : Got (decK p) (some l) (ver, default) none)
end
set_option linter.unusedVariables false
def cNewK (tm fDef : Nat) : MCode := .sq (.rg [.al 0 tm]) (.sq (.rg [.al 1 tm]) (.sq (.rg [.ca 2 fDef [.t 1]]) (.sq (.rg [.ld 3 tm 1, .st tm 0 3]) .rt)))
def cAgainK (T : IT) (tErr tm fNew fRd fAp : Nat) : MCode :=
  .sq (.rg [.mv 2 (.c .nslice), .mv 3 (.c (.bool false))]) (.sq (.rg [.ca 5 fNew [], .al 4 tm, .st tm 4 5])
    (.sq (.sq (.rg [.mv 6 (.t 0), .apk 7 T.u8s T.u8s 6, .ca 8 fRd [.t 4, .t 7], .bi 9 .neq tErr (.t 8) (.c .niface)]) (.cd 9 (.sq (.rg [.mv 2 (.c .nslice), .mv 3 (.c (.bool false))]) .rt) .sk))
      (.sq (.rg [.ca 10 fAp [.t 4, .c .nslice], .mv 2 (.t 10), .mv 3 (.c (.bool true))]) .rt)))
def NewKC (P : Program) (f : Nat) (cs : List Value) : Prop := entersB P f = true ∧ ∀ w : World, Calls P f #[] w (fun e w' => e = .returned (.agg cs.toArray) ∧ Below w.heap.size w w')
def Plan.kept (p : Plan) (t16 : Nat) : Plan := { p with fs := .cons .always 0 0 0 (.prim .i16 t16) p.fs }
theorem kept_enc (p : Plan) (t16 : Nat) (ver : Int) (ds : List D) (ts : List (Nat × List UInt8)) : encTop (p.kept t16) ver (.n ver :: ds) ts = encK p ver ds ts := by
  unfold encTop encK
  show encF ver (p.flex ver) (.cons .always 0 0 0 (.prim .i16 t16) p.fs) (.n ver :: ds) ++ _ = _
  rw [encF, enc]
  simp only [List.headD_cons, List.tail_cons, Cnd.ok, if_true, List.append_assoc]
  rfl
def AgainKC (P : Program) (U f gE : Nat) (p : Plan) : Prop := entersB P f = true ∧ ∀ (w : World) (ad : Option Addr) (l : List UInt8) (c : Nat) (ev : Value), BytesAt w (fun _ => True) ad l → l.length ≤ 274877906944 → w.cell? ⟨gE, 0, none⟩ = some ev → isErr ev →
  (∀ ver ds ts r, decK p l = some ((ver, ds, ts), r) → SmF okTags p.fs ds ∧ okTags ts ∧ (encK p ver ds ts).length ≤ 274877906944) →
  Calls P f #[.slice ad l.length c] w (fun e w' => Below w.heap.size w w' ∧
    ((∃ ver ds ts r sv, decK p l = some ((ver, ds, ts), r) ∧ e = .returned (.tuple #[sv, .bool true]) ∧ OwnB U w' w.heap.size sv (encK p ver ds ts)) ∨ (decK p l = none ∧ e = .returned (.tuple #[.slice none 0 0, .bool false]))))
theorem MsgAt.kept {w : World} {F : Nat → Prop} {p : Plan} {a : Addr} {ver : Int} {ds : List D} {tags : List (Nat × List UInt8)} {cs : List Value} {t16 : Nat} (h : MsgAt w F p a ver ds tags cs) (hv : I16 ver) : MsgAt w F (p.kept t16) a ver (.n ver :: ds) tags cs where
  spot := h.spot
  blk := h.blk
  at_ := h.at_
  v0 := h.v0
  flds := by
    show RepF w F (.cons .always 0 0 0 (.prim .i16 t16) p.fs) cs (.n ver :: ds)
    have h0 := h.v0
    unfold RepF
    refine ⟨?_, .n ver, ds, rfl, ?_, h.flds⟩
    · show 0 + 1 ≤ cs.length
      have := (List.getElem?_eq_some_iff.1 h0).1
      omega
    · unfold Rep
      refine ⟨ver, ?_, rfl, hv.1, hv.2⟩
      cases cs with
      | nil => simp at h0
      | cons x cs => simp at h0; subst h0; rfl
  tgs := h.tgs
section
variable {P : Program} {T : IT} {K : KB} {g : TN}
theorem newK_of {f fD tm n : Nat} {zs cs : List Value} (hf : FnIsC P f (cNewK tm fD) 4 0 tm) (hz : zeroAgg P tm zs) (hrow : rowTy P tm = true) (hn : cellsB P tm n = true) (hzl : zs.length = n) (hone : cs.all (·.oneCell') = true) (hd : DefC P fD zs cs) (hl : cs.length = zs.length) : NewKC P f cs := by
  refine ⟨hf.ent, fun w => ?_⟩
  obtain ⟨zi, hzi, hzv⟩ := hz
  refine hf.runs (args := []) (by simp) (by omega) ?_
  refine RW.sq (RW.rg (RL.step (MR.al ⟨zi, hzi, hzv⟩) (RL.nil ?_)))
  have b1 := below_box w (.cells zs.toArray tm)
  have s1 := size_box w (.cells zs.toArray tm)
  have t1 := there_box w zs tm
  change RW P 4 _ _ _ (w.alloc (.cells zs.toArray tm))
  revert b1 s1 t1
  generalize w.alloc (.cells zs.toArray tm) = w1
  intro b1 s1 t1
  refine RW.sq (RW.rg (RL.step (MR.al ⟨zi, hzi, hzv⟩) (RL.nil ?_)))
  have b2 := below_box w1 (.cells zs.toArray tm)
  have s2 := size_box w1 (.cells zs.toArray tm)
  have t2 := there_box w1 zs tm
  have r2 : (w1.alloc (.cells zs.toArray tm)).rangeAt w1.heap.size 0 zs := fun j v hj => cell_box w1 zs tm hj
  change RW P 4 _ _ _ (w1.alloc (.cells zs.toArray tm))
  revert b2 s2 t2 r2
  generalize w1.alloc (.cells zs.toArray tm) = w2
  intro b2 s2 t2 r2
  have B2 : Below w.heap.size w w2 := b1.trans (b2.mono b1.size)
  have t1' : w2.there w.heap.size 0 zs.length := there_keep t1 (b2.block _ (by omega))
  refine RW.sq (RW.rg (RL.ca (R := fun v w' => w'.rangeAt w1.heap.size 0 cs ∧ Below w1.heap.size w2 w') hd.1 ?_ ?_))
  · refine Calls.mono (hd.2 w2 w1.heap.size (by omega) r2 t2) ?_
    rintro e w' ⟨rfl, h1, h2, h3⟩
    exact ⟨_, rfl, h1, h3⟩
  rintro v w3 ⟨r3, b3⟩
  refine RL.nil (RW.sq (RW.rg ?_))
  have t3 : w3.there w.heap.size 0 cs.length := by rw [hl]; exact there_keep t1' (b3.block _ (by omega))
  refine RL.step (MR.ldRow (cs := cs) (b := w1.heap.size) (o := 0) rfl hrow (by rw [hl, hzl]; exact hn) r3) ?_
  refine RL.stA (cs := cs) (b := w.heap.size) (o := 0) rfl rfl (by rw [hl, hzl]; exact hn) t3 hone (RL.nil (RW.rt ?_))
  have e1 := World.rangeAt_setCells_same w3 w.heap.size 0 cs t3
  exact ⟨⟨w.heap.size, 0, none⟩, .agg cs.toArray, rfl, run_loadAt_row (cs := cs) hrow (by rw [hl, hzl]; exact hn) e1, rfl, below_setCells (Nat.le_refl _) _ _ (B2.trans (b3.mono (by omega)))⟩
theorem againK_ok {f fNew fRd fRF fAp gE tErr : Nat} {p : Plan} {L NA : Nat} {zs : List Value} {rest : List MVal} (kk : KOK P K) (ok : AOK P (K.ia g) okTags) (hte : ifaceTy P tErr = true)
    (hf : FnIs2 P f (cAgainK K.T tErr p.T fNew fRd fAp) 11 2 3) (hnew : NewKC P fNew (.int .i16 0 :: rest.map MVal.val)) (hz : zeroAgg P p.T zs) (hzl : zs.length = rest.length + 1) (hcn : cellsB P p.T (rest.length + 1) = true)
    (hrd : FnIs P fRd (cReadFrom fRF) 8 4) (hrf : RFKC P fRF p gE rest)
    (ha : FnIs P fAp (topA (K.ia g) (p.kept K.T.i16) L) NA 4) (hok : okTop P (K.ia g) (p.kept K.T.i16) L NA = true) : AgainKC P K.T.u8 f gE p := by
  refine ⟨hf.ent, fun w ad l c ev hby hl hev herr hdec => ?_⟩
  have tk := kk.tk
  have hgw := World.block_lt_of_cell? w _ hev
  simp only at hgw
  refine hf.runs (args := [.slice ad l.length c]) (by simp) (by omega) (by omega) ?_
  refine RW.sq (RW.rg (RL.step MR.mv (RL.step MR.mv (RL.nil (RW.sq (RW.rg (RL.ca (R := fun u w' => u = .agg (.int .i16 0 :: rest.map MVal.val).toArray ∧ Below w.heap.size w w') hnew.1 ?_ ?_)))))))
  · refine Calls.mono (hnew.2 w) ?_
    rintro e w' ⟨rfl, h⟩
    exact ⟨_, rfl, rfl, h⟩
  rintro u w1 ⟨rfl, bw1⟩
  have hone : (Value.int .i16 0 :: rest.map MVal.val).all (·.oneCell') = true := by
    simp only [List.all_cons, Bool.and_eq_true]
    refine ⟨rfl, ?_⟩
    rw [List.all_eq_true]
    intro v hv
    obtain ⟨m, _, rfl⟩ := List.mem_map.1 hv
    exact MVal.one1 m
  refine RL.alst (z := zs) (cs := .int .i16 0 :: rest.map MVal.val) (n := rest.length + 1) hz rfl (by decide) hzl (by simp) hcn hone ?_
  intro w2 b2 s2 hr2 ht2
  have bw2 : Below w.heap.size w w2 := bw1.trans (b2.mono bw1.size)
  have hbw : w.heap.size ≤ w1.heap.size := bw1.size
  have hby2 : BytesAt w2 (fun _ => True) ad l := hby.kp bw2.kp
  obtain ⟨sv, w3, a1, a2, a3, a4⟩ := run_apOwn (P := P) (w := w2) (T := K.T.u8s) (U := K.T.u8) (c := c) (B := w2.heap.size) tk.u8s tk.u8 (OwnB.nil _ _ _) rfl hby2 (Nat.le_refl _) (by simp only [List.length_nil]; have e : lim = 1099511627776 := rfl; omega)
  rw [List.nil_append] at a2
  obtain ⟨ad3, c3, hsv, had3, hlc3, hb3⟩ := a2.bytes
  subst hsv
  obtain ⟨sb, hsb, hsbb, hbs⟩ : ∃ sb, sb < w3.heap.size ∧ sb ≠ w1.heap.size ∧ BytesAt w3 (· = sb) ad3 l := by
    cases l with
    | nil => exact ⟨gE, by have := bw2.size; have := a3.size; omega, by omega, fun j y hj => by simp at hj⟩
    | cons y l =>
      obtain ⟨g0, o0, e1, _, e3⟩ := hb3 0 y rfl
      refine ⟨g0, World.block_lt_of_cell? w3 _ e3, ?_, fun j z hj => ?_⟩
      · have := (World.ownsRow.lt a2 g0 (by rw [e1]; rfl)).1
        omega
      · obtain ⟨g1, o1, f1, _, f3⟩ := hb3 j z hj
        rw [e1] at f1
        simp only [Option.some.injEq, Addr.mk.injEq, and_true] at f1
        exact ⟨g1, o1, by rw [e1, ← f1.1, ← f1.2], f1.1.symm, f3⟩
  have hr3 : w3.rangeAt w1.heap.size 0 (.int .i16 0 :: rest.map MVal.val) := range_keep hr2 (a3.block w1.heap.size (by omega))
  have ht3 : w3.there w1.heap.size 0 (rest.length + 1) := there_keep ht2 (a3.block w1.heap.size (by omega))
  have hev3 : w3.cell? ⟨gE, 0, none⟩ = some ev := a3.kp _ _ (bw2.kp _ _ hev)
  have bw3 : Below w.heap.size w w3 := bw2.trans (a3.mono bw2.size)
  refine RL.nil (RW.sq (RW.sq (RW.rg (RL.step (MR.mv (v := .slice ad l.length c) rfl) (RL.step (MR.apk (w' := w3) a1) ?_)))))
  refine RL.ca (R := fun ee w' => Fr (fun _ => False) w1.heap.size 0 (rest.length + 1) w3 w' ∧
    ((∃ ver ds tags r cs, decK p l = some ((ver, ds, tags), r) ∧ I16 ver ∧ ee = MVal.niface.val ∧ MsgAt w' (fun k => k = w1.heap.size ∨ k = sb ∨ (w3.heap.size ≤ k ∧ k < w'.heap.size)) p ⟨w1.heap.size, 0, none⟩ ver ds tags cs) ∨ (decK p l = none ∧ ee = ev))) hrd.ent ?_ ?_
  · show Calls P fRd #[.pointer (some ⟨w1.heap.size, 0, none⟩), .slice ad3 l.length c3] w3 _
    refine hrd.runs (args := [.pointer (some ⟨w1.heap.size, 0, none⟩), .slice ad3 l.length c3]) (by simp) (by omega) ?_
    refine RW.sq (RW.rg (RL.step MR.mv (RL.nil (RW.sq (RW.rg (RL.step (MR.mv (v := .pointer (some ⟨w1.heap.size, 0, none⟩)) rfl) (RL.step (MR.mv (v := .slice ad3 l.length c3) rfl) ?_)))))))
    refine RL.ca (R := fun ee w' => Fr (fun _ => False) w1.heap.size 0 (rest.length + 1) w3 w' ∧
      ((∃ ver ds tags r cs, decK p l = some ((ver, ds, tags), r) ∧ I16 ver ∧ ee = MVal.niface.val ∧ MsgAt w' (fun k => k = w1.heap.size ∨ k = sb ∨ (w3.heap.size ≤ k ∧ k < w'.heap.size)) p ⟨w1.heap.size, 0, none⟩ ver ds tags cs) ∨ (decK p l = none ∧ ee = ev))) hrf.1 ?_ ?_
    · show Calls P fRF #[.pointer (some ⟨w1.heap.size, 0, none⟩), .slice ad3 l.length c3, .bool false] w3 _
      refine Calls.mono (hrf.2 w3 w1.heap.size sb ad3 l c3 ev hr3 ht3 hbs had3 hlc3 hsb hsbb hev3 (by omega) herr) ?_
      rintro e w' ⟨hF', ⟨ver, ds, tags, r, cs, h1, hv, rfl, h2⟩ | ⟨h1, rfl⟩⟩
      · exact ⟨_, rfl, hF', .inl ⟨ver, ds, tags, r, cs, h1, hv, rfl, h2⟩⟩
      · exact ⟨_, rfl, hF', .inr ⟨h1, rfl⟩⟩
    rintro ee w' ⟨hF', h⟩
    refine RL.step MR.mv (RL.nil (RW.rt ?_))
    exact ⟨ee, rfl, hF', h⟩
  rintro ee w4 ⟨F4, h4⟩
  have b4 : Below w.heap.size w w4 := bw3.trans (F4.below hbw (fun _ h => h.elim) bw3.size)
  rcases h4 with ⟨ver, ds, tags, r, cs, k1, kv, rfl, k2⟩ | ⟨k1, rfl⟩
  · refine RL.step (MR.neqNilI (v := Value.nilIface) hte rfl (.inl rfl)) (RL.nil (RW.cd (b := false) rfl (fun e => by cases e) (fun _ => RW.sk ?_)))
    obtain ⟨x1, x2, x3⟩ := hdec ver ds tags r k1
    obtain ⟨fn, cc, e1, e2, e3, e4, e5⟩ := ha.ex
    have hs4 := F4.size
    have hs3 := a3.size
    have k3 := k2.mono (w' := w4) (F' := (· < w4.heap.size)) (fun k hk => by rcases hk with rfl | rfl | hk <;> omega) (fun _ _ => rfl)
    have hm : MsgAt w4 (· < w4.heap.size) (p.kept K.T.i16) ⟨w1.heap.size, 0, none⟩ ver (.n ver :: ds) tags cs := k3.kept kv
    have hcall := topA_calls ok e1 e2 e3 e5 e4 hok (w := w4) (B := w4.heap.size) (a := ⟨w1.heap.size, 0, none⟩) (ver := ver) (ds := .n ver :: ds) (tags := tags) (cs := cs) (sv := .slice none 0 0) (bs := []) (Nat.le_refl _)
      hm (by show SmF okTags (.cons .always 0 0 0 (.prim .i16 K.T.i16) p.fs) (.n ver :: ds); unfold SmF; exact ⟨by unfold Sm; trivial, x1⟩) x2 (OwnB.nil _ _ _) (by rw [kept_enc]; have e : lim = 1099511627776 := rfl; simp only [List.length_nil]; omega)
    rw [kept_enc] at hcall
    refine RW.sq (RW.rg ?_)
    refine RL.ca (R := fun sv w' => OwnB K.T.u8 w' w4.heap.size sv (encK p ver ds tags) ∧ Below w4.heap.size w4 w') ha.ent ?_ ?_
    · refine Calls.mono hcall ?_
      rintro e w' ⟨sv', rfl, h1, h2⟩
      exact ⟨_, rfl, by simpa [KB.ia] using h1, h2⟩
    rintro sv w5 ⟨o5, b5⟩
    refine RL.step MR.mv (RL.step MR.mv (RL.nil (RW.rt ?_)))
    exact ⟨b4.trans (b5.mono b4.size), .inl ⟨ver, ds, tags, r, sv, k1, rfl, o5.rebase b4.size⟩⟩
  · have hee : errB ee = true := by obtain ⟨t, x, rfl⟩ := herr; rfl
    refine RL.step (MR.neqNilI (v := ee) hte rfl (.inr herr)) (RL.nil (RW.cd (b := true) (by show Value.bool (errB ee) = _; rw [hee]) (fun _ => ?_) (fun e => by cases e)))
    refine RW.sq (RW.rg (RL.step MR.mv (RL.step MR.mv (RL.nil (RW.rt ?_)))))
    exact ⟨b4, .inr ⟨k1, rfl⟩⟩
end
set_option linter.unusedVariables false
def cKept (S : SN) : MCode :=
  .sq (.rg [.bx 3 S.msg 0, .bx 5 S.tr 2, .mv 6 (.c .nslice)])
  (.sq (.gr true [⟨0, none, .mv 7 (.t 1)⟩, ⟨2, none, .ld 9 S.msg 3⟩, ⟨3, none, .mv 10 (.t 1)⟩, ⟨4, none, .ld 11 S.tr 5⟩, ⟨1, none, .ca 8 S.fFixed [.t 7, .c (.int .i64 2)]⟩, ⟨5, none, .ca 12 S.fWrite [.t 9, .t 10, .t 11]⟩, ⟨6, none, .ap 13 S.T.u8s S.T.u8s 8 12⟩, ⟨7, none, .mv 6 (.t 13)⟩]) .rt)
def sKept (fs : Fds) (flex ver : Int) (t : Tr) : List UInt8 := fix ver 2 ++ kWrite fs flex ver t
def KeptC (P : Program) (S : SN) (SU : List (Nat × List UInt8) → Prop) (f : Nat) (fs : Fds) : Prop := entersB P f = true ∧ ∀ (w : World) (cm ct : List Value) (t : Tr) (ver flex : Int),
  RepMs w fs flex cm → RepTr w t ct → goodT SU t → (kWrite fs flex ver t).length ≤ 274877906944 → RetB P S.T.u8 f [.agg cm.toArray, .int .i64 ver, .agg ct.toArray] w (sKept fs flex ver t)
section
variable {P : Program} {S : SN} {w w' : World} {SU : List (Nat × List UInt8) → Prop}
theorem kept_of {f : Nat} {fs : Fds} (sp : SPC P S SU) (hw : WriteCK P S SU fs) (hwE : entersB P S.fWrite = true) (hf : FnIs P f (cKept S) 14 6) : KeptC P S SU f fs := by
  refine ⟨hf.ent, ?_⟩
  rintro w cm ct t ver flex hms hrep hgood hlen
  obtain ⟨ad, c, rfl, hrows⟩ := hms
  have ok := sp.ok
  obtain ⟨ot1, tl1⟩ := hrep.one
  have elim : lim = 1099511627776 := rfl
  refine hf.runs (args := [.agg _, .int .i64 ver, .agg ct.toArray]) (by simp) (by omega) ?_
  refine RW.sq (RW.rg (RL.bxA rfl (RL.bxA rfl (RL.step MR.mv (RL.nil ?_)))))
  have hb0 := below_box w (.cells [Value.slice ad fs.toList.length c, .int .i64 flex].toArray S.msg)
  have r3 : (w.alloc (.cells [Value.slice ad fs.toList.length c, .int .i64 flex].toArray S.msg)).rangeAt w.heap.size 0 [Value.slice ad fs.toList.length c, .int .i64 flex] := fun j v hj => cell_box w _ S.msg hj
  revert r3 hb0
  generalize w.alloc (.cells [Value.slice ad fs.toList.length c, .int .i64 flex].toArray S.msg) = w0
  intro hb0 r3
  have r5 : (w0.alloc (.cells ct.toArray S.tr)).rangeAt w0.heap.size 0 ct := fun j v hj => cell_box w0 _ S.tr hj
  have hb1 := below_box w0 (.cells ct.toArray S.tr)
  have r3' := rangeAt_kp r3 hb1.kp
  revert r5 hb1 r3'
  generalize w0.alloc (.cells ct.toArray S.tr) = w1
  intro r5 hb1 r3'
  have hb : Below w.heap.size w w1 := hb0.trans (hb1.mono hb0.size)
  refine RW.sq (RW.gd ok.mo (Below w1.heap.size w1) (below_drew1 _ _) ?_)
  refine RG.q (fun _ _ => MR.mv (v := .int .i64 ver) rfl) (RG.q (fun w' hS => MR.ldRow (b := w.heap.size) (o := 0) (cs := [Value.slice ad fs.toList.length c, .int .i64 flex]) rfl ok.msR ok.msN (rangeAt_kp r3' hS.kp)) ?_)
  refine RG.q (fun _ _ => MR.mv (v := .int .i64 ver) rfl) (RG.q (fun w' hS => MR.ldRow (b := w0.heap.size) (o := 0) (cs := ct) rfl ok.trR (by rw [tl1]; exact ok.trN) (rangeAt_kp r5 hS.kp)) ?_)
  refine RG.caB sp.fixed.1 (sp.fixed.2 (World.drew1 w1) ver 2 (by omega)) rfl (fun w' h' hS => hS.trans (h'.mono hS.size)) fun sv1 w2 o1 b1 => ?_
  have b12 : Below w1.heap.size w1 w2 := (below_drew1 w1 _).trans b1
  have b02 : Below w.heap.size w w2 := hb.trans (b12.mono hb.size)
  refine RG.caB hwE (hw w2 [Value.slice ad fs.toList.length c, .int .i64 flex] ct t ver flex ⟨ad, c, rfl, RowsF.kp b02.kp _ hrows⟩ (RepTr.kp b02.kp _ hrep) hgood (by omega)) rfl (fun w' h' hS => hS.trans (h'.mono hS.size)) fun sv2 w3 o2 b3 => ?_
  have hs12 := b12.size
  have hf2 : (fix ver 2).length ≤ 8 := by simp [fix, be]
  refine RG.apOO (B := w1.heap.size) (bs := fix ver 2) (l := kWrite fs flex ver t) ok.tk.u8s ok.tk.u8 rfl rfl (o1.keep b3) o2 (Nat.le_trans hs12 b3.size) (by omega) (fun w4 h4 _ hS => hS.trans h4) fun sv4 w4 o4 b4 => ?_
  refine RG.q (fun _ _ => MR.mv) (RG.nil fun h => RW.rt ⟨sv4, rfl, o4.rebase hb.size, hb.trans (h.mono hb.size)⟩)
end
end Go.Kx
namespace Go.Kx
open Go.RowKit
set_option linter.unusedSimpArgs false
set_option linter.unusedVariables false
/-! ### Plain -/
theorem dInt2_fix {v : Int} (hv : I16 v) (r : List UInt8) : dInt 2 (fix v 2 ++ r) = some (v, r) := by
  rw [dInt_fix]
  obtain ⟨a, b⟩ := hv
  congr 2
  unfold sgn
  have e : (256 ^ 2 : Int) = 65536 := rfl
  have e' : (256 ^ 2 : Nat) = 65536 := rfl
  rw [e, e']
  split <;> omega
theorem I16.nat {v most : Nat} (h : v ≤ most) (hm : most < 32768) : I16 (v : Int) := ⟨by omega, by omega⟩
theorem decK_of {p : Plan} {ver : Int} {l r : List UInt8} {ds : List D} {ts : List (Nat × List UInt8)} (hv : I16 ver) (h : decTop p ver l = some ((ds, ts), r)) : decK p (fix ver 2 ++ l) = some ((ver, ds, ts), r) := by
  unfold decK
  rw [Dec.bind_of (dInt2_fix hv l)]
  exact Dec.map_of (f := fun x => (ver, x)) h
theorem kept_again {p : Plan} {fs : Fds} {flex : Int} {most v : Nat} (h : mTopB p fs flex most = true) (hm : most < 32768) (hv : v ≤ most) {t : Tr} (hg : goodT keysOk t) :
    ∃ ds ts, decK p (sKept fs flex (v : Nat) t) = some ((((v : Nat) : Int), ds, ts), []) ∧ encK p (v : Nat) ds ts = sKept fs flex (v : Nat) t ∧ SmF okTags p.fs ds ∧ okTags ts := by
  obtain ⟨ds, ts, h1, h2, h3, h4⟩ := againTop h hv hg
  exact ⟨ds, ts, decK_of (I16.nat hv hm) h1, by unfold encK sKept; rw [h2], h3, h4⟩
def minS1 : Ty → Bool
  | .struct _ _ _ _ (.cons .always _ _ _ (.prim _ _) _) => true
  | .struct _ _ _ _ _ => false
  | _ => true
mutual
def minS : Ty → Bool
  | .arr _ _ _ el => minS1 el && minS el
  | .struct _ _ _ _ fs => minSF fs
  | _ => true
def minSF : Flds → Bool
  | .nil => true
  | .cons _ _ _ _ ty rest => minS ty && minSF rest
end
theorem minS1_ok {ver : Int} {flex : Bool} : ∀ {ty : Ty}, minS1 ty = true → min1 ver flex ty = true
  | .struct _ _ _ _ (.cons .always _ _ _ (.prim _ _) _), _ => by simp [min1, min1F, Cnd.ok]
  | .prim _ _, _ => by simp [min1]
  | .enum _ _ _, _ => by simp [min1]
  | .vstr _ _ _, _ => by simp [min1]
  | .arr _ _ _ _, _ => by simp [min1]
mutual
theorem minS_ok {ver : Int} {flex : Bool} : ∀ (ty : Ty), minS ty = true → minOk ver flex ty = true
  | .prim _ _, _ => by simp [minOk]
  | .enum _ _ _, _ => by simp [minOk]
  | .vstr _ _ _, _ => by simp [minOk]
  | .arr _ _ _ el, h => by
    simp only [minS, Bool.and_eq_true] at h
    simp only [minOk, Bool.and_eq_true]
    exact ⟨minS1_ok h.1, minS_ok el h.2⟩
  | .struct _ _ _ _ fs, h => by
    simp only [minS] at h
    simp only [minOk]
    exact minSF_ok fs h
theorem minSF_ok {ver : Int} {flex : Bool} : ∀ (fs : Flds), minSF fs = true → minOkF ver flex fs = true
  | .nil, _ => by simp [minOkF]
  | .cons c _ _ _ ty rest, h => by
    simp only [minSF, Bool.and_eq_true] at h
    simp only [minOkF, Bool.and_eq_true, Bool.or_eq_true]
    exact ⟨.inr (minS_ok ty h.1), minSF_ok rest h.2⟩
end

theorem dInt2_I16 {l r : List UInt8} {v : Int} (h : dInt 2 l = some (v, r)) : I16 v ∧ l.length = r.length + 2 := by
  unfold dInt at h
  obtain ⟨n, h1, rfl⟩ := Dec.map_some.1 h
  have hn : n < 65536 := dNat_lt h1
  unfold dNat at h1
  obtain ⟨xs, h2, _⟩ := Dec.map_some.1 h1
  unfold takeN at h2
  split at h2
  · simp only [Option.some.injEq, Prod.mk.injEq] at h2
    refine ⟨?_, ?_⟩
    · unfold sgn
      have e : (256 ^ 2 : Nat) = 65536 := rfl
      rw [e]
      constructor <;> (split <;> omega)
    · rw [← h2.2, List.length_drop]; omega
  · simp at h2
theorem kept_any {p : Plan} (hm : minSF p.fs = true) {l r : List UInt8} {ver : Int} {ds : List D} {ts : List (Nat × List UInt8)} (h : decK p l = some ((ver, ds, ts), r)) (hl : l.length ≤ 1000) :
    I16 ver ∧ SmF okTags p.fs ds ∧ okTags ts ∧ (encK p ver ds ts).length ≤ 1000 ∧ ∃ ds' ts', decK p (encK p ver ds ts) = some ((ver, ds', ts'), []) ∧ encK p ver ds' ts' = encK p ver ds ts ∧ SmF okTags p.fs ds' ∧ okTags ts' := by
  unfold decK at h
  obtain ⟨v, r1, h1, h2⟩ := Dec.bind_some.1 h
  obtain ⟨x, h3, h4⟩ := Dec.map_some.1 h2
  obtain ⟨x1, x2⟩ := x
  simp only [Prod.mk.injEq] at h4
  obtain ⟨rfl, rfl, rfl⟩ := h4
  obtain ⟨hv, hlen⟩ := dInt2_I16 h1
  have hmin := minSF_ok (ver := v) (flex := p.flex v) p.fs hm
  obtain ⟨a1, a2, a3, a4⟩ := decTop_some hmin h3 (by omega)
  obtain ⟨ds', ts', b1, b2⟩ := anyTop hmin h3 (by omega)
  have hle : (encTop p v x1 x2).length ≤ 32767 := by omega
  obtain ⟨c1, c2, c3, c4⟩ := decTop_some hmin b1 hle
  have hf : (fix v 2).length = 2 := by simp [fix_len]
  refine ⟨hv, a2, a3, ?_, ds', ts', decK_of hv b1, by unfold encK; rw [b2], c2, c3⟩
  unfold encK
  rw [List.length_append]; omega
end Go.Kx
namespace Go.Kx
open Go.RowKit Go.ChangeShapes Go.WideShapes Go.WideElems
set_option linter.unusedSimpArgs false
set_option linter.unusedVariables false
section
variable {P : Program} {K : KB} {g : TN} {S : SN} {R : RN} {G : TG} {E : EN} {Z : FTN}
def msgKB (P : Program) (K : KB) (g : TN) (S : SN) (R : RN) (G : TG) (n : RL0) : List Bool := [isFnC P n.fPtr (cNewK n.pl.T n.fDef) 4 0 n.pl.T, zeroIs P n.pl.T n.zs, rowTy P n.pl.T, cellsB P n.pl.T n.zs.length,
  isFn0 P n.fDef (rows (genD 0 n.df (defT0 n.df) 2).1) (genD 0 n.df (defT0 n.df) 2).2.1, okD P n.zs.length n.df 0, Nat.ble (genD 0 n.df (defT0 n.df) 2).2.2 (defT0 n.df), firstZero (putM n.df 0 n.zs),
  isFn2 P n.fAgain (cAgainK K.T n.tErr n.pl.T n.fPtr n.fRd n.fAp) 11 2 3, ifaceTy P n.tErr, isFn P n.fRd (cReadFrom n.fRF) 8 4, isFn P n.fRF (cRFK R G n.pl n.fDef n.LR).1 n.NR 6, (rfkB P R G n.pl n.fDef n.df (putM n.df 0 n.zs).tail n.LR n.NR).all id,
  isFn P n.fAp (topA (K.ia g) (n.pl.kept K.T.i16) n.L) n.N 4, okTop P (K.ia g) (n.pl.kept K.T.i16) n.L n.N, Nat.blt n.most 32768]
theorem msgK_of (se : SeatA P K g S R G) {n : RL0} (h : (msgKB P K g S R G n).all id = true) : AgainKC P S.T.u8 n.fAgain R.gErr n.pl ∧ n.most < 32768 := by
  simp only [msgKB, List.all_cons, List.all_nil, id_eq, Bool.and_true, Bool.and_eq_true] at h
  obtain ⟨h1, h2, h3, h4, h5, h6, h7, h8, h9, h10, h11, h12, h13, h14, h15, h16⟩ := h
  simp only [Nat.blt_eq, Nat.ble_eq] at h16 h7
  obtain ⟨rest, hrest⟩ : ∃ rest, putM n.df 0 n.zs = .int .i16 0 :: rest := by
    cases hq : putM n.df 0 n.zs with
    | nil => rw [hq] at h8; simp [firstZero] at h8
    | cons m r =>
      rw [hq] at h8
      cases m <;> try (simp [firstZero] at h8; done)
      rename_i kk nn
      cases kk <;> try (simp [firstZero] at h8; done)
      simp only [firstZero] at h8
      rw [sameInt_eq h8]; exact ⟨r, rfl⟩
  have hcs : putD n.df 0 (n.zs.map MVal.val) = .int .i16 0 :: rest.map MVal.val := by rw [← putM_val, hrest]; rfl
  have hdef : DefC P n.fDef (n.zs.map MVal.val) (.int .i16 0 :: rest.map MVal.val) := by
    rw [← hcs]
    exact defC_of (defD_of (n := n.zs.length) (FnIs0.of h5) h6 h7) (by simp)
  have hlen : (Value.int .i16 0 :: rest.map MVal.val).length = (n.zs.map MVal.val).length := by rw [← hcs, putD_len]
  have hone : (Value.int .i16 0 :: rest.map MVal.val).all (·.oneCell') = true := by
    simp only [List.all_cons, Bool.and_eq_true]
    refine ⟨rfl, ?_⟩
    rw [List.all_eq_true]
    intro v hv
    obtain ⟨m, _, rfl⟩ := List.mem_map.1 hv
    exact MVal.one1 m
  have hnew : NewKC P n.fPtr (.int .i16 0 :: rest.map MVal.val) := newK_of (n := n.zs.length) (FnIsC.of h1) (zeroIs_of h2) h3 h4 (by simp) hone hdef hlen
  have hzl : (n.zs.map MVal.val).length = rest.length + 1 := by rw [← hlen]; simp
  rw [hrest] at h13
  have hrf := rfk_of se.rk h13 (FnIs.of h12)
  refine ⟨?_, h16⟩
  rw [← se.u8]
  exact againK_ok se.kk se.ao h10 (FnIs2.of h9) hnew (zeroIs_of h2) hzl (by rw [← hzl, List.length_map]; exact h4) (FnIs.of h11) hrf (FnIs.of h14) h15
theorem keptC_of (se : Seat2 P K g S R G E Z) {n : RL0} (h : (specB P S n).all id = true) (hk : isFn P n.fMax (cKept S) 14 6 = true) : KeptC P S keysOk n.fMax (toFds n.sx) := by
  obtain ⟨hspec, hwr, hmt⟩ := spec2_of se h
  exact kept_of se.sp hwr se.se.wr.ent (FnIs.of hk)
theorem sKept_small {fs : Fds} (hc : Nat.ble (costs fs + 30) 200000 = true) (flex v : Int) {t : Tr} (ht : szT t ≤ 1100000) : (sKept fs flex v t).length ≤ 274877906944 := by
  have h := kWrite_le fs flex v t
  have h1 : costs fs + 30 ≤ 200000 := Nat.le_of_ble_eq_true hc
  have h2 := Nat.mul_le_mul h1 ht
  have hf : (fix v 2).length = 2 := by simp [fix_len]
  unfold sKept
  rw [List.length_append]
  omega
section
variable {H : Type} {B : DataW H → Nat} {BA : List (DataW H) → Nat} {enc : TypeId × Value → H}
end
end
set_option linter.unusedVariables false
def cLawAnyK (S : SN) (fSpec fKept fAgain : Nat) : MCode :=
  .sq (.rg [.mv 2 (.c (.bool false))])
  (.sq (.sq (.rg [.mv 9 (.t 0), .ln 10 S.T.u8s 9, .bi 11 .gtr S.T.int (.t 10) (.c (.int .i64 2147483647))]) (.cd 11 (.sq (.rg [.mv 2 (.c (.bool true))]) .rt) .sk))
  (.sq (.sq (.rg [.mv 12 (.t 0), .ln 13 S.T.u8s 12, .bi 14 .gtr S.T.int (.t 13) (.c (.int .i64 1000))]) (.cd 14 (.sq (.rg [.mv 2 (.c (.bool true))]) .rt) .sk))
  (.sq (.rg [.ca 16 fSpec [], .bdl 17 S.tr [], .ca 18 fKept [.t 16, .c (.int .i64 0), .t 17], .ca 19 fAgain [.t 18], .mv 15 (.t 19), .ext 20 15 0, .ext 21 15 1, .mv 3 (.t 20), .mv 4 (.t 21)])
  (.sq (.rg [.mv 23 (.t 0), .ca 24 fAgain [.t 23], .mv 22 (.t 24), .ext 25 22 0, .ext 26 22 1, .mv 5 (.t 25), .mv 6 (.t 26)])
  (.sq (.sq (.gr false [⟨0, none, .mv 27 (.t 4)⟩, ⟨1, none, .nt 28 27⟩, ⟨2, none, .mv 29 (.t 28)⟩, ⟨3, some (2, 29, false), .mv 30 (.t 6)⟩, ⟨4, some (2, 29, false), .nt 31 30⟩, ⟨5, none, .pk 32 (.t 29) (.c (.bool true)) (.t 31)⟩]) (.cd 32 (.sq (.rg [.mv 33 (.t 4), .mv 2 (.t 33)]) .rt) .sk))
  (.sq (.rg [.mv 35 (.t 5), .ca 36 fAgain [.t 35], .mv 34 (.t 36), .ext 37 34 0, .ext 38 34 1, .mv 7 (.t 37), .mv 8 (.t 38)])
  (.sq (.gr false [⟨0, none, .mv 39 (.t 8)⟩, ⟨1, none, .mv 40 (.t 39)⟩, ⟨2, some (1, 40, true), .mv 41 (.t 5)⟩, ⟨3, some (1, 40, true), .mv 42 (.t 7)⟩, ⟨4, some (1, 40, true), .ca 43 S.fSame [.t 41, .t 42]⟩, ⟨5, none, .pk 44 (.t 40) (.t 43) (.c (.bool false))⟩, ⟨6, none, .mv 2 (.t 44)⟩]) .rt)))))))
section
variable {P : Program} {S : SN} {w w' : World} {SU : List (Nat × List UInt8) → Prop}
theorem law_anyK {f fSpec fKept fAgain gE : Nat} {fs : Fds} {flex : Int} {p : Plan} (ok : SOK P S) (hf : FnIs P f (cLawAnyK S fSpec fKept fAgain) 45 2) (hk : KeptC P S SU fKept fs) (su0 : SU []) (hsame : SameC P S.fSame)
    (hspec : SpecC P fSpec fs flex) (hag : AgainKC P S.T.u8 fAgain gE p) (w : World) (ad : Option Addr) (l : List UInt8) (c : Nat) (hby : BytesAt w (fun _ => True) ad l) (ev : Value) (hev : w.cell? ⟨gE, 0, none⟩ = some ev) (herr : isErr ev)
    (h0 : (sKept fs flex 0 Tr.zero).length ≤ 274877906944 ∧ ∃ ds ts, decK p (sKept fs flex 0 Tr.zero) = some ((0, ds, ts), []) ∧ encK p 0 ds ts = sKept fs flex 0 Tr.zero ∧ SmF okTags p.fs ds ∧ okTags ts)
    (hany : l.length ≤ 1000 → ∀ ver ds ts r, decK p l = some ((ver, ds, ts), r) → SmF okTags p.fs ds ∧ okTags ts ∧ (encK p ver ds ts).length ≤ 274877906944 ∧
      ∃ ds' ts', decK p (encK p ver ds ts) = some ((ver, ds', ts'), []) ∧ encK p ver ds' ts' = encK p ver ds ts ∧ SmF okTags p.fs ds' ∧ okTags ts') :
    Calls P f #[.slice ad l.length c] w (fun e w' => e = .returned (.bool true) ∧ Below w.heap.size w w') := by
  refine hf.runs (args := [.slice ad l.length c]) (by simp) (by omega) ?_
  refine RW.sq (RW.rg (RL.step MR.mv (RL.nil ?_)))
  refine RW.sq (RW.sq (RW.rg (RL.step (MR.mv (v := .slice ad l.length c) rfl) (RL.step (MR.ln ok.tk.u8s rfl) (RL.step (MR.biE (v := .bool (decide ((2147483647 : Int) < (l.length : Nat)))) rfl) (RL.nil ?_))))))
  refine RW.cd rfl (fun e => RW.sq (RW.rg (RL.step MR.mv (RL.nil (RW.rt ⟨rfl, Below.refl _ _⟩))))) (fun e => RW.sk ?_)
  refine RW.sq (RW.sq (RW.rg (RL.step (MR.mv (v := .slice ad l.length c) rfl) (RL.step (MR.ln ok.tk.u8s rfl) (RL.step (MR.biE (v := .bool (decide ((1000 : Int) < (l.length : Nat)))) rfl) (RL.nil ?_))))))
  refine RW.cd rfl (fun e => RW.sq (RW.rg (RL.step MR.mv (RL.nil (RW.rt ⟨rfl, Below.refl _ _⟩))))) (fun e => RW.sk ?_)
  have hl : l.length ≤ 1000 := by have := of_decide_eq_false e; omega
  obtain ⟨hlen, ds0, ts0, hd1, hd2, hd3, hd4⟩ := h0
  have hlk : (sKept fs flex 0 Tr.zero).length = (fix 0 2).length + (kWrite fs flex 0 Tr.zero).length := List.length_append
  refine RW.sq (RW.rg (RL.ca (R := fun v w' => ∃ cm, v = .agg (List.toArray cm) ∧ RepMs w' fs flex cm ∧ Below w.heap.size w w') hspec.1 ?_ ?_))
  · refine Calls.mono (hspec.2 w) ?_
    rintro e w' ⟨cm, rfl, h1, h2⟩
    exact ⟨_, rfl, cm, rfl, h1, h2⟩
  rintro v w1 ⟨cm, rfl, hms, b1⟩
  refine RL.step (MR.bdl (v := .agg [Value.int .i64 0, .slice none 0 0, .bool false, .slice none 0 0, .slice none 0 0].toArray) (w' := w1) (build_zero ok.zTr ok.lTr)) ?_
  refine RL.caB hk.1 (hk.2 w1 cm _ Tr.zero 0 flex hms (RepTr.zero w1) (goodT.zero su0) (by omega)) rfl fun sv2 w2 o2 b2 => ?_
  have B2 : Below w.heap.size w w2 := b1.trans (b2.mono b1.size)
  obtain ⟨ad2, c2, rfl, had2, hc2, hby2⟩ := o2.bytes
  have hag0 := hag.2 w2 ad2 (sKept fs flex 0 Tr.zero) c2 ev hby2 hlen (B2.kp _ _ hev) herr (fun ver' ds' ts' r h => by
    rw [hd1] at h
    simp only [Option.some.injEq, Prod.mk.injEq] at h
    obtain ⟨⟨rfl, rfl, rfl⟩, rfl⟩ := h
    exact ⟨hd3, hd4, by rw [hd2]; exact hlen⟩)
  refine RL.ca (R := fun v w' => ∃ sv, v = .tuple #[sv, .bool true] ∧ Below w2.heap.size w2 w') hag.1 ?_ ?_
  · refine Calls.mono hag0 ?_
    rintro e w' ⟨hb', ⟨ver', ds', ts', r, sv, h, rfl, ho⟩ | ⟨h, _⟩⟩
    · exact ⟨_, rfl, sv, rfl, hb'⟩
    · rw [hd1] at h; cases h
  rintro v w3 ⟨sv3, rfl, b3⟩
  have B3 : Below w.heap.size w w3 := B2.trans (b3.mono B2.size)
  refine RL.step MR.mv (RL.step (MR.ext (v := sv3) rfl) (RL.step (MR.ext (v := .bool true) rfl) (RL.step MR.mv (RL.step MR.mv (RL.nil ?_)))))
  refine RW.sq (RW.rg (RL.step (MR.mv (v := .slice ad l.length c) rfl) ?_))
  have hag1 := hag.2 w3 ad l c ev (hby.kp B3.kp) (by omega) (B3.kp _ _ hev) herr (fun ver ds ts r h => by
    obtain ⟨a1, a2, a3, _⟩ := hany hl ver ds ts r h
    exact ⟨a1, a2, a3⟩)
  refine RL.ca (R := fun v w' => Below w3.heap.size w3 w' ∧ ((∃ ver ds ts r sv, decK p l = some ((ver, ds, ts), r) ∧ v = .tuple #[sv, .bool true] ∧ OwnB S.T.u8 w' w3.heap.size sv (encK p ver ds ts)) ∨ v = .tuple #[.slice none 0 0, .bool false])) hag.1 ?_ ?_
  · refine Calls.mono hag1 ?_
    rintro e w' ⟨hb', ⟨ver, ds', ts', r, sv, h, rfl, ho⟩ | ⟨h, rfl⟩⟩
    · exact ⟨_, rfl, hb', .inl ⟨ver, ds', ts', r, sv, h, rfl, ho⟩⟩
    · exact ⟨_, rfl, hb', .inr rfl⟩
  rintro v w4 ⟨b4, h4⟩
  have B4 : Below w.heap.size w w4 := B3.trans (b4.mono B3.size)
  rcases h4 with ⟨ver, ds, ts, r, sv, hd, rfl, ho⟩ | rfl
  · obtain ⟨a1, a2, a3, ds', ts', d1, d2, d3, d4⟩ := hany hl ver ds ts r hd
    obtain ⟨ad4, c4, rfl, _, _, hby4⟩ := ho.bytes
    refine RL.step MR.mv (RL.step (MR.ext (v := .slice ad4 (encK p ver ds ts).length c4) rfl) (RL.step (MR.ext (v := .bool true) rfl) (RL.step MR.mv (RL.step MR.mv (RL.nil ?_)))))
    refine RW.sq (RW.sq (RW.gf (Below w4.heap.size w4) (Below.refl _ _) ?_))
    refine RG.q (fun _ _ => MR.mv (v := .bool true) rfl) (RG.q (v := .bool false) (fun _ _ => MR.nt (b := true) rfl) (RG.q (fun _ _ => MR.mv (v := .bool false) rfl) (RG.q (fun _ _ => MR.mv (v := .bool true) rfl) (RG.q (v := .bool false) (fun _ _ => MR.nt (b := true) rfl) (RG.q (fun _ _ => MR.pk (b := false) (v := .bool false) rfl rfl) (RG.nil fun _ => ?_))))))
    refine RW.cd (b := false) rfl (fun e => by cases e) (fun _ => RW.sk ?_)
    refine RW.sq (RW.rg (RL.step (MR.mv (v := .slice ad4 (encK p ver ds ts).length c4) rfl) ?_))
    have hag2 := hag.2 w4 ad4 (encK p ver ds ts) c4 ev hby4 a3 (B4.kp _ _ hev) herr (fun ver2 ds2 ts2 r2 h => by
      rw [d1] at h
      simp only [Option.some.injEq, Prod.mk.injEq] at h
      obtain ⟨⟨rfl, rfl, rfl⟩, rfl⟩ := h
      exact ⟨d3, d4, by rw [d2]; exact a3⟩)
    refine RL.ca (R := fun v w' => ∃ sv, v = .tuple #[sv, .bool true] ∧ OwnB S.T.u8 w' w4.heap.size sv (encK p ver ds ts) ∧ Below w4.heap.size w4 w') hag.1 ?_ ?_
    · refine Calls.mono hag2 ?_
      rintro e w' ⟨hb', ⟨ver2, ds2, ts2, r2, sv, h, rfl, ho2⟩ | ⟨h, _⟩⟩
      · rw [d1] at h
        simp only [Option.some.injEq, Prod.mk.injEq] at h
        obtain ⟨⟨rfl, rfl, rfl⟩, rfl⟩ := h
        exact ⟨_, rfl, sv, rfl, by rw [← d2]; exact ho2, hb'⟩
      · rw [d1] at h; cases h
    rintro v w5 ⟨sv, rfl, o5, b5⟩
    have B5 : Below w.heap.size w w5 := B4.trans (b5.mono B4.size)
    obtain ⟨ad5, c5, rfl, _, _, hby5⟩ := o5.bytes
    refine RL.step MR.mv (RL.step (MR.ext (v := .slice ad5 (encK p ver ds ts).length c5) rfl) (RL.step (MR.ext (v := .bool true) rfl) (RL.step MR.mv (RL.step MR.mv (RL.nil ?_)))))
    refine RW.sq (RW.gf (Below w5.heap.size w5) (Below.refl _ _) ?_)
    refine RG.q (fun _ _ => MR.mv (v := .bool true) rfl) (RG.q (fun _ _ => MR.mv (v := .bool true) rfl) (RG.q (fun _ _ => MR.mv (v := .slice ad4 (encK p ver ds ts).length c4) rfl) (RG.q (fun _ _ => MR.mv (v := .slice ad5 (encK p ver ds ts).length c5) rfl) ?_)))
    refine RG.ca (R := fun v w' => v = .bool true ∧ Below w5.heap.size w5 w') hsame.1 (fun h0 => ?_) ?_
    · refine Calls.mono (hsame.2 w5 ad4 ad5 _ _ c4 c5 (hby4.kp b5.kp) hby5 (by omega) (by omega)) ?_
      rintro e w' ⟨rfl, h2⟩
      exact ⟨_, rfl, ⟨by simp, h2⟩, h2⟩
    rintro v w6 ⟨rfl, b6⟩
    refine RG.q (fun _ _ => MR.pk (b := true) (v := .bool true) rfl rfl) (RG.q (fun _ _ => MR.mv (v := .bool true) rfl) (RG.nil fun h => RW.rt ⟨rfl, B5.trans (h.mono B5.size)⟩))
  · refine RL.step MR.mv (RL.step (MR.ext (v := .slice none 0 0) rfl) (RL.step (MR.ext (v := .bool false) rfl) (RL.step MR.mv (RL.step MR.mv (RL.nil ?_)))))
    refine RW.sq (RW.sq (RW.gf (Below w4.heap.size w4) (Below.refl _ _) ?_))
    refine RG.q (fun _ _ => MR.mv (v := .bool true) rfl) (RG.q (v := .bool false) (fun _ _ => MR.nt (b := true) rfl) (RG.q (fun _ _ => MR.mv (v := .bool false) rfl) (RG.q (fun _ _ => MR.mv (v := .bool false) rfl) (RG.q (v := .bool true) (fun _ _ => MR.nt (b := false) rfl) (RG.q (fun _ _ => MR.pk (b := false) (v := .bool true) rfl rfl) (RG.nil fun _ => ?_))))))
    refine RW.cd (b := true) rfl (fun _ => ?_) (fun e => by cases e)
    exact RW.sq (RW.rg (RL.step (MR.mv (v := .bool true) rfl) (RL.step MR.mv (RL.nil (RW.rt ⟨rfl, B4⟩)))))
end
section
variable {P : Program} {K : KB} {g : TN} {S : SN} {R : RN} {G : TG} {E : EN} {Z : FTN} {H : Type} {B : DataW H → Nat} {BA : List (DataW H) → Nat} {enc : TypeId × Value → H}
theorem any_rowK (se : Seat2 P K g S R G E Z) (tb : ArgOk P S) (n : RL0) (h1 : (msgKB P K g S R G n).all id = true) (h2 : (specB P S n).all id = true) (hkk : isFn P n.fMax (cKept S) 14 6 = true) (hms : minSF n.pl.fs = true) (h3 : isFn P n.f (cLawAnyK S n.fSpec n.fMax n.fAgain) 45 2 = true) (hcost : Nat.ble (costs (toFds n.sx) + 30) 200000 = true)
    {fn : Func} {s : ChangeSpec} (hB : BulkOk B BA) (hp : fn.params = #[S.T.u8s]) (hr : fn.resultTypes = #[S.T.bool]) (hv : s.vars = []) (hl : laidOutB P = true) (hrd : fn.params.toList.all (fun t => P.readableRec t && decide (t < P.types.size)) = true)
    (hfn : ∀ d1, s.fn H [d1] = { results := [.lit (.bool true)], args := [d1], vars := [] }) {W : World} {base : Nat} {args : Array Value} {ds gs : List (DataW H)} {before : List MemPlace}
    (hval : ∀ (j : Nat) t v, fn.params[j]? = some t → args[j]? = some v → Value.okWide P W .any base t v) (hW : DataW.Whole enc P fn.params.toList s.vars false W args.toList ds gs before) (hev : ∃ ev, W.cell? ⟨R.gErr, 0, none⟩ = some ev ∧ isErr ev) :
    Calls P n.f args W fun e W' => ∃ v, e = .returned v ∧ s.post enc P fn false true false false W args v W' := by
  have hW' := hW
  obtain ⟨p, q, hA, hV, rfl, hfz, hnd⟩ := hW
  have hg0 : gs = [] := by
    rw [hv] at hV
    cases gs with
    | nil => rfl
    | cons g gs => simp [DataW.TrodVars] at hV
  subst hg0
  rw [hp] at hA hval
  obtain ⟨v1, vs1, d1, ds1, p1, q1, hargs, rfl, rfl, t1, r1⟩ := trodAll_cons hA
  obtain ⟨rfl, rfl, rfl⟩ := trodAll_nil r1
  obtain rfl : args = #[v1] := by cases args; simp_all
  obtain ⟨a, len, cap, rfl⟩ := okWide_slice (sliceOf_eq tb.u8s) (hval 0 S.T.u8s v1 rfl rfl)
  obtain ⟨fuel, ht⟩ := t1
  obtain ⟨ad, l, c, hcs, hoA, hlc, hby, _⟩ := open_u8s tb.u8s tb.u8 tb.cu8 hB (cs := (Value.slice a len cap).cells.toList) (x := (d1, _)) ht
  have hcs' : Value.slice a len cap = .slice ad l.length c := by simpa [Value.cells] using hcs
  obtain ⟨ev, hc, hie⟩ := hev
  obtain ⟨hag, hmost⟩ := msgK_of se.a h1
  obtain ⟨hspec, hwr, hmt⟩ := spec2_of se h2
  have hz : goodT keysOk Tr.zero := goodT.zero se.sp.su0
  have hzs : szT Tr.zero ≤ 1100000 := by decide
  have hrun := law_anyK se.se.ok (FnIs.of h3) (keptC_of se h2 hkk) se.sp.su0 se.se.same hspec hag W ad l c hby ev hc hie
    ⟨sKept_small hcost n.flex 0 hzs, kept_again hmt hmost (Nat.zero_le _) hz⟩ (fun hlen ver ds ts r hd => by
      obtain ⟨_, a2, a3, a4, ds', ts', b1, b2, b3, b4⟩ := kept_any hms hd hlen
      exact ⟨a2, a3, by omega, ds', ts', b1, b2, b3, b4⟩)
  rw [← hcs'] at hrun
  refine hrun.mono ?_
  rintro e W' ⟨rfl, hbel⟩
  exact ⟨_, rfl, row_post hl hrd hr (boolB_eq tb.bool) hv hW' hbel (by rw [List.append_nil]; exact hfn _)⟩
end
end Go.Kx
namespace Go.Kx
open Go.RowKit
set_option linter.unusedSimpArgs false
set_option linter.unusedVariables false
section
variable {P : Program} {N : Nat} {Q : Exit → (Nat → Value) → World → Prop} {ρ : Nat → Value} {w w' : World} {ms : List MOp} {d : Nat} {v : Value}
end
end Go.Kx
