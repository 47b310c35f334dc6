/- readFrom, whole: its contract (RFC) by tests (rfB). Conditions: the reader's contracts (RKOK).
   Rules: a range over a map (the iterator anywhere), calls of closures, an append to nil. No condition on the program beyond those that a rule names.
   Slices of one's own that lie in a variable; the closure of AppendEach. Conditions: the program's tables (TOK), AppendUvarint's contract.
   (*Tags).Each with AppendEach's closure, AppendEach whole. Conditions: the program's tables (TgE), sort.Slice's contract (SortC).
   (*Tags).Each with AppendEach's closure; AppendEach whole (TeachC of small tags). Conditions: the program's tables (TgE), sort.Slice's contract (SortC), the closure's (CbC).
   AppendEach of real tags (TeachC of small tags). Conditions: the program's tables (TgE), sort.Slice's contract (SortC), the closure's (CbC).
   impl.AgainX: a message is read and written again. Conditions: the contracts of its functions.
   spec.unknown, its parts: where a tag belongs, whether it is there. Conditions: the program's tables (SOK).
   spec.unknown, whole (UnkC of keys that fit). Conditions: the program's tables (SOK), known's contract. -/
import Derived.Test.YtpaoaobmaimibaaGreatDoorKxL
namespace Go.Kx
open Go.RowKit
set_option linter.unusedSimpArgs false
set_option linter.unusedVariables false
section
variable {P : Program} {R : RN} {G : TG}
theorem rf_core {p : Plan} {L N t0 : Nat} {rest : List MVal} {rb sb b : Nat} {ver : Int} {ev : Value} {st : Option (List UInt8)} {w0 w2 : World} {ρ3 : Nat → Value} (kk : RKOK P R G) (h5 : intTy P R.T.i16 .i16 = true) (h1 : wfRF P R G p.sfR p.fs p.T (p.pre (rest.length + 1)) 1 = true)
    (h3 : (cRFt R G p (t0 + 1)).2.2.1 ≤ L) (hLt : L ≤ t0) (hN : (tagsR R G p.sfR p.T p.vsR p.tg (genRF R G p.sfR p.fs p.T p.vsR ((flexR R p (t0 + 1)).2 + 1) (p.vsR + 1) 0).2.1 (genRF R G p.sfR p.fs p.T p.vsR ((flexR R p (t0 + 1)).2 + 1) (p.vsR + 1) 0).2.2.1 (genRF R G p.sfR p.fs p.T p.vsR ((flexR R p (t0 + 1)).2 + 1) (p.vsR + 1) 0).2.2.2).2.1 + 1 ≤ N)
    (h7 : zfB p.fs ((.int .i16 0 :: rest).take (p.pre (rest.length + 1))) = true) (h16 : tgB P R G p rest = true)
    (hrb : w0.heap.size ≤ rb) (hb0 : b < w0.heap.size) (hFH : FH P R rb sb rb b 0 (rest.length + 1) ev st w2) (hr2 : w2.rangeAt b 0 (.int .i16 ver :: rest.map MVal.val)) (ht2 : w2.there b 0 (rest.length + 1)) (F2 : Fr (fun _ => False) b 0 (rest.length + 1) w0 w2)
    (p0 : ρ3 0 = .pointer (some ⟨b, 0, none⟩)) (c7 : ρ3 7 = .pointer (some ⟨rb, 0, none⟩)) (p2 : ρ3 2 = .bool false) (c2 : ρ3 8 = .int .i16 ver) :
    RWL P N (.rg [.mv t0 (.t 8)] :: ((flexR R p (t0 + 1)).1 ++ (.rg [.mv (flexR R p (t0 + 1)).2 (.t 0), .mv p.vsR (.t (flexR R p (t0 + 1)).2)] :: ((genRF R G p.sfR p.fs p.T p.vsR ((flexR R p (t0 + 1)).2 + 1) (p.vsR + 1) 0).1 ++ ((tagsR R G p.sfR p.T p.vsR p.tg (genRF R G p.sfR p.fs p.T p.vsR ((flexR R p (t0 + 1)).2 + 1) (p.vsR + 1) 0).2.1 (genRF R G p.sfR p.fs p.T p.vsR ((flexR R p (t0 + 1)).2 + 1) (p.vsR + 1) 0).2.2.1 (genRF R G p.sfR p.fs p.T p.vsR ((flexR R p (t0 + 1)).2 + 1) (p.vsR + 1) 0).2.2.2).1 ++ [.rg [.ca (tagsR R G p.sfR p.T p.vsR p.tg (genRF R G p.sfR p.fs p.T p.vsR ((flexR R p (t0 + 1)).2 + 1) (p.vsR + 1) 0).2.1 (genRF R G p.sfR p.fs p.T p.vsR ((flexR R p (t0 + 1)).2 + 1) (p.vsR + 1) 0).2.2.1 (genRF R G p.sfR p.fs p.T p.vsR ((flexR R p (t0 + 1)).2 + 1) (p.vsR + 1) 0).2.2.2).2.1 R.compl [.t 7], .mv 6 (.t (tagsR R G p.sfR p.T p.vsR p.tg (genRF R G p.sfR p.fs p.T p.vsR ((flexR R p (t0 + 1)).2 + 1) (p.vsR + 1) 0).2.1 (genRF R G p.sfR p.fs p.T p.vsR ((flexR R p (t0 + 1)).2 + 1) (p.vsR + 1) 0).2.2.1 (genRF R G p.sfR p.fs p.T p.vsR ((flexR R p (t0 + 1)).2 + 1) (p.vsR + 1) 0).2.2.2).2.1)], .rt])))))
      (retQ 6 (fun e w' => Fr (fun _ => False) b 0 (rest.length + 1) w0 w' ∧ ((∃ ds tags r cs, Got (decTop p ver) st (ds, tags) (some r) ∧ e = .returned MVal.niface.val ∧ MsgAt w' (fun k => k = b ∨ k = sb ∨ (w0.heap.size ≤ k ∧ k < w'.heap.size)) p ⟨b, 0, none⟩ ver ds tags cs) ∨ ((∀ x, Got (decTop p ver) st x none) ∧ e = .returned ev)))) ρ3 w2 := by
  have hxx : 9 ≤ p.vsR := by unfold Plan.vsR; split <;> omega
  have hgl := genRF_le (R := R) (G := G) (sf := p.sfR) p.fs (T := p.T) (vs := p.vsR) (t := (flexR R p (t0 + 1)).2 + 1) (x := p.vsR + 1) (bk := 0)
  have hfl : t0 + 1 ≤ (flexR R p (t0 + 1)).2 := by unfold flexR; split <;> simp
  have htl' := @tagsR_le R G p.sfR p.T p.vsR (genRF R G p.sfR p.fs p.T p.vsR ((flexR R p (t0 + 1)).2 + 1) (p.vsR + 1) 0).2.1 (genRF R G p.sfR p.fs p.T p.vsR ((flexR R p (t0 + 1)).2 + 1) (p.vsR + 1) 0).2.2.1 (genRF R G p.sfR p.fs p.T p.vsR ((flexR R p (t0 + 1)).2 + 1) (p.vsR + 1) 0).2.2.2 p.tg
  unfold cRFt at h3
  have hL : p.vsR + 1 ≤ L := by omega
  have hlenV : (Value.int .i16 ver :: rest.map MVal.val).length = rest.length + 1 := by simp
  refine RW.rg (RL.step (MR.mv c2 (ltT (by omega))) (RL.nil ?_) (by omega))
  have fin : ∀ (ρ4 : Nat → Value) (t4 : Nat), (∀ s, s < 9 → ρ4 s = ρ3 s) → (∀ s, p.sfR = some s → ρ4 s = .bool (p.flex ver)) → (p.sfR = none → p.flex ver = false) → t4 = (flexR R p (t0 + 1)).2 →
      RWL P N (.rg [.mv t4 (.t 0), .mv p.vsR (.t t4)] :: ((genRF R G p.sfR p.fs p.T p.vsR (t4 + 1) (p.vsR + 1) 0).1 ++ ((tagsR R G p.sfR p.T p.vsR p.tg (genRF R G p.sfR p.fs p.T p.vsR (t4 + 1) (p.vsR + 1) 0).2.1 (genRF R G p.sfR p.fs p.T p.vsR (t4 + 1) (p.vsR + 1) 0).2.2.1 (genRF R G p.sfR p.fs p.T p.vsR (t4 + 1) (p.vsR + 1) 0).2.2.2).1 ++ [.rg [.ca (tagsR R G p.sfR p.T p.vsR p.tg (genRF R G p.sfR p.fs p.T p.vsR (t4 + 1) (p.vsR + 1) 0).2.1 (genRF R G p.sfR p.fs p.T p.vsR (t4 + 1) (p.vsR + 1) 0).2.2.1 (genRF R G p.sfR p.fs p.T p.vsR (t4 + 1) (p.vsR + 1) 0).2.2.2).2.1 R.compl [.t 7], .mv 6 (.t (tagsR R G p.sfR p.T p.vsR p.tg (genRF R G p.sfR p.fs p.T p.vsR (t4 + 1) (p.vsR + 1) 0).2.1 (genRF R G p.sfR p.fs p.T p.vsR (t4 + 1) (p.vsR + 1) 0).2.2.1 (genRF R G p.sfR p.fs p.T p.vsR (t4 + 1) (p.vsR + 1) 0).2.2.2).2.1)], .rt])))
        (retQ 6 (fun e w' => Fr (fun _ => False) b 0 (rest.length + 1) w0 w' ∧ ((∃ ds tags r cs, Got (decTop p ver) st (ds, tags) (some r) ∧ e = .returned MVal.niface.val ∧ MsgAt w' (fun k => k = b ∨ k = sb ∨ (w0.heap.size ≤ k ∧ k < w'.heap.size)) p ⟨b, 0, none⟩ ver ds tags cs) ∨ ((∀ x, Got (decTop p ver) st x none) ∧ e = .returned ev)))) ρ4 w2 := by
    intro ρ4 t4 d1 d2 d3 d4
    subst d4
    refine mv2_ok (L := L) (a := 0) (v := .pointer (some ⟨b, 0, none⟩)) (by rw [d1 0 (by omega)]; exact p0) (by omega) (by omega) (by omega) (by omega) fun ρ5 e1 e2 => ?_
    have cx5 : RCx p.sfR (p.flex ver) ver rb p.vsR b 0 ρ5 := by
      refine ⟨?_, ?_, ?_, fun s hs => ?_, d3, e2⟩
      · rw [e1 7 (by omega) (by omega), d1 7 (by omega)]; exact c7
      · rw [e1 2 (by omega) (by omega), d1 2 (by omega)]; exact p2
      · rw [e1 8 (by omega) (by omega), d1 8 (by omega)]; exact c2
      · have hs9 : s = 9 ∧ p.vsR = 10 := by
          unfold Plan.sfR at hs; unfold Plan.vsR
          cases hfl' : p.fl with
          | none => rw [hfl'] at hs; simp at hs
          | some k => rw [hfl'] at hs; simp only [Option.map_some, Option.some.injEq] at hs; exact ⟨hs.symm, rfl⟩
        rw [e1 s (by omega) (by omega)]; exact d2 s hs
    have hsx : ∀ s, p.sfR = some s → s < p.vsR + 1 := by
      intro s hs
      unfold Plan.sfR at hs; unfold Plan.vsR
      cases hfl' : p.fl with
      | none => rw [hfl'] at hs; simp at hs
      | some k => rw [hfl'] at hs; simp only [Option.map_some, Option.some.injEq] at hs; simp only; omega
    have hpre : p.pre (rest.length + 1) ≤ rest.length + 1 := by
      unfold Plan.pre
      cases htg : p.tg with
      | none => exact Nat.le_refl _
      | some q => unfold tgB at h16; rw [htg] at h16; simp only [Bool.and_eq_true, Nat.beq_eq] at h16; simp only; omega
    have hpre1 : 1 ≤ p.pre (rest.length + 1) := by
      unfold Plan.pre
      cases htg : p.tg with
      | none => simp only; omega
      | some q => unfold tgB at h16; rw [htg] at h16; simp only [tag1, Bool.and_eq_true, Nat.ble_eq] at h16; exact h16.2.1
    have hFHp : FH P R rb sb rb b 0 (p.pre (rest.length + 1)) ev st w2 := ⟨hFH.rd, hFH.ne, hFH.nb, hFH.rbb, hFH.hb, hFH.hr, hFH.hw, hFH.hs, there_in (k := 0) ht2 (by omega), hFH.er, hFH.ev, hFH.gb, hFH.gr⟩
    have hzf : ZF w2 p.fs ((Value.int .i16 ver :: rest.map MVal.val).take (p.pre (rest.length + 1))) := by
      have z0 := zf_of (w := w2) h7
      rw [List.map_take, List.map_cons] at z0
      obtain ⟨m, hm⟩ : ∃ m, p.pre (rest.length + 1) = m + 1 := ⟨p.pre (rest.length + 1) - 1, by omega⟩
      rw [hm] at z0 h1 ⊢
      refine ZF.keep (sf := p.sfR) (P := P) (R := R) (G := G) (k := 1) ?_ ?_ p.fs h1 z0
      · simp [List.take_succ_cons]
      · simp [List.take_succ_cons]
    refine RWL.append ?_
    refine genRF_ok (L := L) (k := 1) (b := b) (o := 0) (cs := (Value.int .i16 ver :: rest.map MVal.val).take (p.pre (rest.length + 1))) kk h5 p.fs h1 hFHp cx5 (by omega) hsx (by omega) (Nat.le_trans htl'.2 h3) (by omega) (by omega) ?_ ?_ hzf ?_ ?_
    · intro j v hj
      rw [List.getElem?_take] at hj
      split at hj
      · exact hr2 j v hj
      · simp at hj
    · rw [List.length_take, hlenV]; omega
    · intro ρ6 w6 ds st6 cs6 k1 k2 k3 k4 k5 k6 k7 k8 k9
      show RWL P N _ _ ρ6 w6
      have hh6 := hFHp.keep k2 k4
      have W6 : Fr (· = rb) b 0 (rest.length + 1) w2 w6 := k2.wide (fun _ h => h) (by omega) (by omega)
      have cx6 := cx5.keep k1 (by omega) hsx (by omega)
      refine RWL.tags (x := (genRF R G p.sfR p.fs p.T p.vsR ((flexR R p (t0 + 1)).2 + 1) (p.vsR + 1) 0).2.2.1) (L := L) (n := rest.length + 1) (m := p.pre (rest.length + 1)) (ds := ds) (cs := cs6) kk hh6 (Nat.lt_of_lt_of_le (Nat.lt_of_lt_of_le hb0 F2.size) W6.size) (W6.there _ _ ht2) cx6 (by omega) (fun s e => by have := hsx s e; omega) (by omega) h3 (by omega) (by omega) ?_ k5 k6 k8 ?_ ?_
      · unfold Plan.pre
        cases htg : p.tg with
        | none => exact (rfl : rest.length + 1 = rest.length + 1)
        | some q =>
          unfold tgB at h16
          rw [htg] at h16
          simp only [Bool.and_eq_true, Nat.beq_eq] at h16
          obtain ⟨⟨⟨⟨⟨q1, q2⟩, qk⟩, q3⟩, q4⟩, q5⟩ := h16
          have q3' : defTag (some q) (.int .i16 ver :: rest) = true := by rw [defTag_first (b := .int .i16 0) q5]; exact q3
          have hpq : p.pre (rest.length + 1) = q.2 := by unfold Plan.pre; rw [htg]
          have hcell : w2.cell? ⟨b, 0 + q.2, none⟩ = some (.map none) := by
            refine hr2 q.2 _ ?_
            simp only [defTag, Bool.and_eq_true] at q3'
            have q6 := q3'.1
            split at q6
            · rename_i heq
              have := congrArg (Option.map MVal.val) heq
              rw [← List.getElem?_map] at this
              exact this
            · simp at q6
          refine ⟨rfl, q1, q2, ne0 q4, ?_, qk, knAt_of qk (cs := (Value.int .i16 ver :: rest.map MVal.val)) (fun p' hp' h1' h2' => ?_) (knAt_def (knDef_cell (cs := .int .i16 ver :: rest) ?_))⟩
          · rw [k2.cell (0 + q.2) (.inr (by omega))]
            exact hcell
          · rw [k9 _ h2', List.getElem?_take, if_pos (by omega)]
          · simp only [defTag, Bool.and_eq_true] at q3'; exact q3'.2
      · intro ρ7 w7 tags st7 cs7 tl j1 j2 j3 j4 j5 j5' j6 j7 j8
        have hh7 := hh6.keep j2 j4
        have F7 : Fr (fun _ => False) b 0 (rest.length + 1) w0 w7 := ((F2.wide (X' := (· = rb)) (fun _ x => x.elim) (Nat.le_refl _) (Nat.le_refl _)).trans (W6.trans j2)).drop (fun k hk => .inr (by omega))
        have hgot : Got (decTop p ver) st (ds, tags) st7 := Got.top k3 j3
        refine RW.rg (RL.ca (R := fun v w' => v = complV ev st7 ∧ w7 = w') kk.compl.1 ?_ ?_ (by omega) (by simp [MX.lt, Nat.blt_eq]; omega))
        · simp only [List.map_cons, List.map_nil, xof]
          rw [j1 7 (by omega), cx6.r7]
          refine Calls.mono (kk.compl.2 w7 rb sb st7 ev j4 hh7.ev) ?_
          rintro e w' ⟨rfl, rfl⟩
          exact ⟨_, rfl, rfl, rfl⟩
        rintro v w8 ⟨rfl, rfl⟩
        refine RL.step (MR.mv (upd_same _ _ _) (ltT (by omega))) (RL.nil (RW.rt ⟨F7, ?_⟩)) (by omega)
        rw [upd_same]
        cases st7 with
        | none => exact .inr ⟨fun x => hgot, rfl⟩
        | some r =>
          refine .inl ⟨ds, tags, r, cs7 ++ tl, hgot, rfl, rfl, .inl rfl, j5, ?_, ?_, ?_⟩
          · have e0 : cs6[0]? = some (.int .i16 ver) := by
              have e3 : ∀ l : List Value, l[0]? = (l.take 1)[0]? := fun l => by rw [List.getElem?_take]; rfl
              rw [e3, k7, List.take_take, Nat.min_eq_left hpre1]
              rfl
            have e7 : cs7[0]? = cs6[0]? := j8 0 fun q hq => by
              cases htg : p.tg with
              | none => rw [htg] at hq; simp [knOf] at hq
              | some g =>
                unfold tgB at h16
                rw [htg] at h16 hq
                simp only [tag1, Bool.and_eq_true, List.all_eq_true, Nat.ble_eq] at h16
                have := h16.2.2 q hq
                omega
            have e8 : cs7[0]? = some (.int .i16 ver) := e7.trans e0
            rw [List.getElem?_append_left (List.getElem?_eq_some_iff.1 e8).1]; exact e8
          · refine RepF.more (RepF.mono (fun k hk => ?_) (fun k _ => rfl) _ j6)
            rcases hk with hk | ⟨hk, hk'⟩
            · exact .inr (.inl hk)
            · exact .inr (.inr ⟨by omega, hk'⟩)
          · refine j7.mono (fun k hk => ?_) (fun k _ => rfl)
            rcases hk with hk | ⟨hk, hk'⟩
            · exact .inr (.inl hk)
            · exact .inr (.inr ⟨by omega, hk'⟩)
      · intro ρ7 w7 j1 j2 j3
        have F7 : Fr (fun _ => False) b 0 (rest.length + 1) w0 w7 := ((F2.wide (X' := (· = rb)) (fun _ x => x.elim) (Nat.le_refl _) (Nat.le_refl _)).trans (W6.trans j2)).drop (fun k hk => .inr (by omega))
        show Fr _ b 0 _ w0 w7 ∧ _
        refine ⟨F7, .inr ⟨fun x => ?_, ?_⟩⟩
        · obtain ⟨ds', tags'⟩ := x
          unfold decTop
          refine k3.bind ?_
          exact j3 _
        show Ending.returned (ρ7 6) = _
        rw [j1]
    · intro ρ6 w6 k1 k2 k3
      show Fr _ b 0 _ w0 w6 ∧ _
      have W6 : Fr (· = rb) b 0 (rest.length + 1) w2 w6 := k2.wide (fun _ h => h) (by omega) (by omega)
      refine ⟨((F2.wide (X' := (· = rb)) (fun _ x => x.elim) (Nat.le_refl _) (Nat.le_refl _)).trans W6).drop (fun k hk => .inr (by omega)), .inr ⟨fun x => ?_, ?_⟩⟩
      · obtain ⟨ds, tags⟩ := x
        unfold decTop
        exact Got.bind (k := fun ds => if (p.tg.isSome && p.flex ver) = true then (dTagsK (knOf p.tg)).map (fun ts => (ds, ts)) else Dec.pure (ds, [])) (k3 []) (by exact rfl)
      show Ending.returned (ρ6 6) = _
      rw [k1]
  unfold flexR at fin ⊢
  cases hfl' : p.fl with
  | none =>
    rw [hfl'] at fin
    simp only [List.nil_append] at fin ⊢
    refine fin _ _ (fun s hs => by (repeat (first | rw [upd_same] | rw [upd_ne _ _ (by omega)]))) (fun s hs => ?_) (fun _ => by unfold Plan.flex; rw [hfl']) rfl
    unfold Plan.sfR at hs; rw [hfl'] at hs; simp at hs
  | some k =>
    have hfN : t0 + 1 + 3 ≤ N := by have := hfl; unfold flexR at hfl hgl hN htl'; rw [hfl'] at hgl htl' hN; simp only at hgl htl' hN; have := htl'.1; omega
    rw [hfl'] at fin
    simp only [List.cons_append, List.nil_append] at fin ⊢
    refine RW.rg (RL.step (MR.mv (v := .int .i16 ver) (by show upd _ _ _ 8 = _; (repeat (first | rw [upd_same] | rw [upd_ne _ _ (by omega)])); exact c2) (ltT (by omega))) (RL.step (MR.biE (v := .bool (decide ((k : Int) ≤ ver))) (by show evB .geq (upd _ _ _ _) (.int .i16 (k : Nat)) = _; rw [upd_same]; rfl) (ltT (by omega)) rfl) (RL.step (MR.mv (upd_same _ _ _) (ltT (by omega))) (RL.nil ?_) (by omega)) (by omega)) (by omega))
    refine RW.rg (RL.step (MR.mv (upd_same _ _ _) (ltT (by omega))) (RL.nil ?_) (by omega))
    refine fin _ _ (fun s hs => by (repeat (first | rw [upd_same] | rw [upd_ne _ _ (by omega)]))) (fun s hs => ?_) (fun hs => ?_) rfl
    · unfold Plan.sfR at hs; rw [hfl'] at hs
      simp only [Option.map_some, Option.some.injEq] at hs
      subst hs
      unfold Plan.flex; rw [hfl']
      (repeat (first | rw [upd_same] | rw [upd_ne _ _ (by omega)]))
    · unfold Plan.sfR at hs; rw [hfl'] at hs; simp at hs
end
section
variable {P : Program} {N : Nat} {Q : Exit → (Nat → Value) → World → Prop} {ρ : Nat → Value} {w w' : World} {ms : List MOp} {d : Nat} {v : Value}
theorem MR.nxt {it : Nat} (hr : ∀ ty, (Instr.next (ρ it) false ty).run P w = .ok v w') (hi : it < N := by decide) : MR P N (.nxt d it) ρ w d v w' := by
  intro a o hl hf
  generalize hop : o.op = op at hf
  unfold execOp
  cases op <;> try (simp only [fitOp, Bool.false_eq_true] at hf; done)
  rename_i x b
  cases b <;> simp only [fitOp, Bool.and_eq_true, Bool.false_eq_true] at hf
  exact ⟨dstIs_eq hf.1, by simp only [hop, Sem.run_bind, tmpL hl hi hf.2, hr, Result.andThen_ok, Sem.run_pure]⟩
theorem MR.ent {it : Nat} (hr : (Instr.entry (ρ it)).run P w = .ok v w') (hi : it < N := by decide) : MR P N (.ent d it) ρ w d v w' := by
  intro a o hl hf
  generalize hop : o.op = op at hf
  unfold execOp
  cases op <;> try (simp only [fitOp, Bool.false_eq_true] at hf; done)
  simp only [fitOp, Bool.and_eq_true, Bool.false_eq_true] at hf
  exact ⟨dstIs_eq hf.1, by simp only [hop, Sem.run_bind, tmpL hl hi hf.2, hr, Result.andThen_ok, Sem.run_pure]⟩
theorem MR.apk {T U y : Nat} (hr : ∀ ty, (Builtin.append_ #[T, U] ty #[.slice none 0 0, ρ y]).run P w = .ok v w') (hy : y < N := by decide) : MR P N (.apk d T U y) ρ w d v w' := by
  refine MR.builtin (b := .append) (T := [T, U]) (xs := [.c .nslice, .t y]) (fun o hf => ?_) (by simp [MX.lt, Nat.blt_eq, hy]) (fun ty cs => by
      show (Go.builtin Builtin.append #[T, U] ty cs #[.slice none 0 0, ρ y]).run P w = _
      simp only [Go.builtin, Sem.run_bind, hr ty, Result.andThen_ok, Sem.run_pure])
  generalize hop : o.op = op at hf
  cases op <;> try (simp only [fitOp, Bool.false_eq_true] at hf; done)
  rename_i c
  obtain ⟨callee, args, ats⟩ := c
  cases callee <;> try (simp only [fitOp, Bool.false_eq_true] at hf; done)
  case builtin b =>
    cases b <;> try (simp only [fitOp, Bool.false_eq_true] at hf; done)
    simp only [fitOp, Bool.and_eq_true] at hf
    obtain ⟨h1, h2⟩ := hf
    generalize hA : args.toList = A at h2
    generalize hB : ats.toList = B at h2
    match A, B, h2 with
    | [x, z], [t', u'], h2 =>
      simp only [Bool.and_eq_true, Nat.beq_eq] at h2
      obtain ⟨⟨⟨g1, g2⟩, g3⟩, g4⟩ := h2
      refine ⟨dstIs_eq h1, args, ats, rfl, .inl (by rw [hB, g3, g4]), ?_⟩
      rw [hA]
      simp only [allX, Bool.and_eq_true, and_true]
      refine ⟨g1, ?_⟩
      rw [tmpIs_eq g2]; simp [MX.is]
theorem RL.cav {f g : Nat} {lb : List Value} {xs : List MX} {R : Value → World → Prop} (he : entersB P g = true) (hfv : ρ f = .func (.func g) #[] lb.toArray)
    (hc : Calls P g (xs.map (xof ρ) ++ lb).toArray w (fun e w' => ∃ v, e = .returned v ∧ R v w'))
    (h : ∀ v w', R v w' → RL P N ms Q (upd ρ d v) w') (hd : d < N := by decide) (hfN : f < N := by decide) (hx : ∀ x ∈ xs, MX.lt N x = true := by simp [MX.lt, Nat.blt_eq]) : RL P N (.cav d f xs :: ms) Q ρ w := by
  intro a ha ops l hl
  cases l with
  | nil => simp [fitOps] at hl
  | cons o os =>
    simp only [fitOps, Bool.and_eq_true] at hl
    obtain ⟨ho, hs⟩ := hl
    have hgd : o.guard = none := by
      simp only [fitOper, Bool.and_eq_true, Option.isNone_iff_eq_none] at ho; exact ho.1
    refine wpList_plain hgd fun K hK => ?_
    have hf := fitOper_op ho
    obtain ⟨dst, op, type, pos, after, guard⟩ := o
    dsimp only at hf hgd
    cases op <;> try (simp only [fitOp, Bool.false_eq_true] at hf; done)
    rename_i c
    obtain ⟨callee, args, ats⟩ := c
    cases callee <;> try (simp only [fitOp, Bool.false_eq_true] at hf; done)
    case value x =>
      cases x <;> try (simp only [fitOp, Bool.false_eq_true] at hf; done)
      simp only [fitOp, Bool.and_eq_true, Nat.beq_eq] at hf
      obtain ⟨⟨h1, h2⟩, h3⟩ := hf
      subst h2
      have hdst := dstIs_eq h1
      subst hdst
      have hargs : args.map a.eval = (xs.map (xof ρ)).toArray := by
        apply Array.toList_inj.1
        rw [Array.toList_map, allX_evalL ha hx h3]
      have hfe : a.eval (.tmp f) = .func (.func g) #[] lb.toArray := by
        have := ha.get f hfN
        rw [hfv] at this
        exact this
      have hrun : (execOp a.eval ⟨some d, .call ⟨.value (.tmp f), args, ats⟩, type, pos, after, guard⟩).run P w = .ok (.enter g (xs.map (xof ρ) ++ lb).toArray) w := by
        simp only [execOp, resolve, hfe, Deferred.ofValue, Sem.run_bind, Sem.run_pure, Result.andThen_ok, invoke, Array.empty_append]
        rw [hargs]
        have e : (xs.map (xof ρ)).toArray ++ lb.toArray = (xs.map (xof ρ) ++ lb).toArray := by simp
        rw [e, run_callFunc_enter he]
      unfold Oper.wp
      rw [hrun, Oper.upon_enter]
      refine Calls.mono hc ?_
      rintro e w' ⟨v, rfl, hR⟩
      exact hK _ _ (h v w' hR _ (ha.put hd) ops os hs)
end
/-! ### A range over a map -/
section
variable {P : Program} {w : World}
def setHeap (w : World) (r : Nat) (o : Obj) : World := { w with heap := w.heap.setIfInBounds r o }
theorem run_nextG (it bm since c0 clock : Nat) (seen : Array Nat) (es : Array MapEntry) (hb : w.heap[bm]? = some (.map es clock)) (hi : w.heap[it]? = some (.mapIter (some bm) since seen c0)) (hold : ∀ x ∈ es.toList, x.born < since) (hsc : since ≤ c0) :
    ((leftOf es seen).size = 0 ∧ ∀ ty, (Instr.next (.pointer (some ⟨it, 0, none⟩)) false ty).run P w = .ok (.tuple #[.bool false]) w) ∨
    ∃ e ∈ (leftOf es seen).toList, ∃ w1 : World, w1.heap = w.heap ∧ w1.os = w.os ∧ w1.tape = w.tape ∧ w1.output = w.output ∧ ∀ ty, (Instr.next (.pointer (some ⟨it, 0, none⟩)) false ty).run P w = .ok (.tuple #[.bool true, e.key, e.val]) (setHeap w1 it (.mapIter (some bm) since (seen.push e.born) clock)) := by
  simp only [Instr.next, getObj, Sem.run_bind, Sem.run, hi, hb, Result.andThen, next_test_false seen es since c0 hold hsc, Bool.false_eq_true, if_false]
  unfold leftOf
  have hmem : ∀ x ∈ (Array.filter (fun e => !seen.contains e.born) es).toList, x.born < since := fun x hx => hold x (by simp at hx ⊢; exact hx.1)
  generalize Array.filter (fun e => !seen.contains e.born) es = L at hmem ⊢
  have e1 : L.filter (fun x => decide (x.born < since)) = L := Array.filter_eq_self.2 (fun x hx => by simpa using hmem x (by simpa using hx))
  have e2 : L.filter (fun x => decide (x.born ≥ since)) = #[] := by
    rw [Array.filter_eq_empty_iff]
    intro x hx
    have := hmem x (by simpa using hx)
    simp
    omega
  simp only [e1, e2, Array.append_empty]
  by_cases h0 : L.size = 0
  · left
    have : L = #[] := Array.eq_empty_of_size_eq_zero h0
    subst this
    refine ⟨rfl, fun ty => ?_⟩
    simp [choose, Sem.run, Question.forced]
  · right
    have hne : L.isEmpty = false := by simp [Array.isEmpty, h0]
    simp only [hne, Bool.false_eq_true, if_false, Array.empty_append, Array.size_map]
    have hch : ∃ (j : Nat) (w1 : World), j < L.size ∧ w1.heap = w.heap ∧ w1.os = w.os ∧ w1.tape = w.tape ∧ w1.output = w.output ∧ (choose (Question.mapNext L.size)).run P w = .ok j w1 := by
      by_cases hf : L.size ≤ 1
      · exact ⟨0, w, by omega, rfl, rfl, rfl, rfl, by simp [choose, Sem.run, Question.forced, hf]⟩
      · exact ⟨_, w.drew, Nat.mod_lt _ (by omega), rfl, rfl, rfl, rfl, by
          simp only [choose, Sem.run, Question.forced, decide_eq_true_eq, hf, if_false, Question.cut]
          rfl⟩
    obtain ⟨j, w1, hj, hh, ho, ht, hou, hrun⟩ := hch
    refine ⟨L[j], by simp, w1, hh, ho, ht, hou, fun ty => ?_⟩
    have hset : ∀ o' : Obj, (setObj it o').run P w1 = .ok () (setHeap w1 it o') := fun o' => by
      simp only [setObj, Sem.run, hh, hi]
      simp [setHeap, hh]
    simp only [hrun, Array.getElem?_map, Array.getElem?_eq_getElem hj, Option.map_some, Sem.run_bind, hset, Result.andThen]
    rfl
theorem run_entryG (it bm since clock : Nat) (seen : Array Nat) (es : Array MapEntry) (e : MapEntry) (hb : w.heap[bm]? = some (.map es clock)) (hi : w.heap[it]? = some (.mapIter (some bm) since (seen.push e.born) clock)) (he : e ∈ es.toList) (hn : (es.toList.map (·.born)).Nodup) :
    (Instr.entry (.pointer (some ⟨it, 0, none⟩))).run P w = .ok (.tuple #[e.key, e.val]) w := by
  have hf : es.find? (·.born == e.born) = some e := by rw [← Array.find?_toList]; exact find_born e es.toList hn he
  simp only [Instr.entry, getObj, Sem.run_bind, Sem.run, hi, hb, Result.andThen, Array.back?_push, bne_self_eq_false, Bool.false_eq_true, if_false, hf]
  rfl
end
set_option linter.unusedVariables false
def BoxR (U Ts : Nat) (w : World) (B db : Nat) (xs : List Value) : Prop := ∃ sv, w.heap[db]? = some (.cells #[sv] Ts (0, 0)) ∧ w.ownsRow B U 1 sv xs.length xs
section
variable {P : Program} {N : Nat} {Q : Exit → (Nat → Value) → World → Prop} {ρ : Nat → Value} {w w' : World} {ms : List MOp} {d U Ts db B : Nat} {v x : Value} {T : IT}
theorem box_set (h : w.heap[db]? = some (.cells #[x] Ts (0, 0))) : (w.setCells db 0 [v]).heap[db]? = some (.cells #[v] Ts (0, 0)) := by
  simp only [World.setCells, World.setCell]
  rw [Array.getElem?_modify, if_pos rfl, h]
  simp
theorem box_cell (h : w.heap[db]? = some (.cells #[x] Ts (0, 0))) : w.cell? ⟨db, 0, none⟩ = some x := by simp [World.cell?, h]
theorem box_there (h : w.heap[db]? = some (.cells #[x] Ts (0, 0))) : w.there db 0 1 := by
  intro j hj
  obtain rfl : j = 0 := by omega
  refine ⟨by rw [Nat.add_zero, box_cell h]; rfl, ?_⟩
  unfold World.frozen?
  simp [h]
theorem own_ne {n : Nat} {sv : Value} {xs : List Value} (h : w.ownsRow B U 1 sv n xs) (hb : w.heap[db]? = some (.cells #[x] Ts (0, 0))) (hne : U ≠ Ts) : ∀ g, sv.ownBlock = some g → g ≠ db := by
  rcases h.2 with ⟨rfl, _⟩ | ⟨g, cap, cur, rfl, h3, h4, h5⟩
  · intro g hg; cases hg
  · intro g' hg e
    simp only [Value.ownBlock, Option.some.injEq] at hg
    subst hg
    rw [e, hb] at h4
    simp only [Option.some.injEq, Obj.cells.injEq] at h4
    exact hne h4.2.1.symm
theorem BoxR.put {n : Nat} {sv : Value} {xs : List Value} (hb : w.heap[db]? = some (.cells #[x] Ts (0, 0))) (ho : w.ownsRow B U 1 sv n xs) (hn : n = xs.length) (hne : U ≠ Ts) : BoxR U Ts (w.setCells db 0 [sv]) B db xs := by
  subst hn
  exact ⟨sv, box_set hb, own_keep ho fun g hg => setCells_other db _ _ _ g (own_ne ho hb hne g hg)⟩
theorem BoxR.keep {xs : List Value} (h : BoxR U Ts w B db xs) (hb : Below w.heap.size w w') : BoxR U Ts w' B db xs := by
  obtain ⟨sv, h1, h2⟩ := h
  refine ⟨sv, by rw [hb.block _ (Array.getElem?_eq_some_iff.1 h1).1]; exact h1, own_keep h2 fun g hg => hb.block g ?_⟩
  rcases h2.2 with ⟨rfl, _⟩ | ⟨g', cap, cur, rfl, h3, h4, h5⟩
  · cases hg
  · simp only [Value.ownBlock, Option.some.injEq] at hg
    subst hg
    exact (Array.getElem?_eq_some_iff.1 h4).1
theorem box_grown {n : Nat} {sv : Value} {xs : List Value} (h : w.ownsRow B U 1 sv n xs) (hb : w.heap[db]? = some (.cells #[x] Ts (0, 0))) (hne : U ≠ Ts) (hg : w.grownBy w' sv.ownBlock) : w'.heap[db]? = some (.cells #[x] Ts (0, 0)) := by
  rw [hg.block db (Array.getElem?_eq_some_iff.1 hb).1 (fun e => own_ne h hb hne db e.symm rfl)]; exact hb
def cCb (T : IT) (fUv : Nat) : MCode :=
  .sq (.rg [.ld 5 T.u8s 2, .mv 6 (.t 0), .ca 7 fUv [.t 5, .t 6], .st T.u8s 2 7]) (.sq (.rg [.ld 8 T.u8s 2, .mv 9 (.t 1), .ln 10 T.u8s 9, .cv 11 T.int T.u32 10, .ca 12 fUv [.t 8, .t 11], .st T.u8s 2 12])
    (.rg [.ld 13 T.u8s 2, .mv 14 (.t 1), .ap 15 T.u8s T.u8s 13 14, .st T.u8s 2 15]))
def Nr (U db : Nat) (w w' : World) : Prop := ∀ k, k < w.heap.size → k ≠ db → (∀ cur, w.heap[k]? ≠ some (.cells cur U (0, 0))) → w'.heap[k]? = w.heap[k]?
theorem Nr.trans {w1 w2 w3 : World} (h : Nr U db w1 w2) (k : Nr U db w2 w3) (hs : w1.heap.size ≤ w2.heap.size) : Nr U db w1 w3 := fun i h1 h2 h3 => by
  have e := h i h1 h2 h3
  rw [k i (Nat.lt_of_lt_of_le h1 hs) h2 (fun cur => by rw [e]; exact h3 cur), e]
theorem RL.boxUv {fUv s p d n : Nat} {y : MX} {sv : Value} {bs : List UInt8} (hG : UvarG P T.u8 fUv) (hne : T.u8 ≠ T.u8s) (hc : cellsB P T.u8s 1 = true) (hs : ρ s = sv) (hb : w.heap[db]? = some (.cells #[sv] T.u8s (0, 0))) (ho : OwnB T.u8 w B sv bs) (hB : B ≤ w.heap.size) (hBd : B ≤ db)
    (hy : xof ρ y = .int .u32 (n : Nat)) (hn : n < 4294967296) (hlim : bs.length + (uv n).length ≤ lim) (hp : ρ p = .pointer (some ⟨db, 0, none⟩)) (hpd : p ≠ d)
    (h : ∀ sv' w', w'.heap[db]? = some (.cells #[sv'] T.u8s (0, 0)) → OwnB T.u8 w' B sv' (bs ++ uv n) → Below B w w' → Nr T.u8 db w w' → RL P N ms Q (upd ρ d sv') w') (hsN : s < N := by decide) (hyN : y.lt N = true := by rfl) (hd : d < N := by decide) (hpN : p < N := by decide) : RL P N (.ca d fUv [.t s, y] :: .st T.u8s p d :: ms) Q ρ w := by
  refine RL.ca (R := fun sv' w' => OwnB T.u8 w' B sv' (bs ++ uv n) ∧ Below B w w' ∧ Gr w w' sv) hG.1 ?_ ?_ hd (by intro z hz; simp only [List.mem_cons, List.not_mem_nil, or_false] at hz; rcases hz with rfl | rfl; exact ltT hsN; exact hyN)
  · simp only [List.map_cons, List.map_nil, hy]
    show Calls P fUv #[ρ s, _] w _
    rw [hs]
    refine (hG.2 w B sv _ bs (uv n) hB ho ⟨n, hn, rfl, rfl⟩ hlim).mono ?_
    rintro e w' ⟨sv', rfl, h2⟩
    exact ⟨sv', rfl, h2⟩
  rintro sv' w' ⟨h1, h2, h3⟩
  have hb' : w'.heap[db]? = some (.cells #[sv] T.u8s (0, 0)) := by
    rw [h3 db (Array.getElem?_eq_some_iff.1 hb).1 (fun e => own_ne ho hb hne db e.symm rfl)]; exact hb
  refine RL.st1 (v := sv') (b := db) (o := 0) (by rw [upd_ne _ _ hpd]; exact hp) (upd_same _ _ _) (own_one h1) hc (box_there hb') (h sv' _ (box_set hb') ?_ ?_ ?_) hpN hd
  · exact own_keep h1 fun g hg => setCells_other db _ _ _ g (own_ne h1 hb' hne g hg)
  · exact below_setCells hBd _ _ h2
  · exact fun k hk hne' hr => by rw [setCells_other db _ _ _ k hne', h3 k hk (own_nr ho hr)]
def CbC (P : Program) (T : IT) (f : Nat) : Prop := entersB P f = true ∧ ∀ (w : World) (B db : Nat) (bs : List UInt8) (k : Nat) (a : Option Addr) (l : List UInt8) (c : Nat), B ≤ w.heap.size → B ≤ db → BoxR T.u8 T.u8s w B db (bs.map byteV) → k < 4294967296 → l.length ≤ 32767 → BytesAt w (· < B) a l → bs.length + (encTag (k, l)).length ≤ lim →
  Calls P f #[.int .u32 (k : Nat), .slice a l.length c, .pointer (some ⟨db, 0, none⟩)] w (fun e w' => (∃ v, e = .returned v) ∧ BoxR T.u8 T.u8s w' B db ((bs ++ encTag (k, l)).map byteV) ∧ Below B w w' ∧ Nr T.u8 db w w')
theorem cb_ok {f fUv : Nat} (tk : TOK P T) (hne : T.u8 ≠ T.u8s) (hc : cellsB P T.u8s 1 = true) (hpl : plainTy P T.u8s = true) (h32 : T.u32 ≠ 0) (hG : UvarG P T.u8 fUv) (hf : FnIs0 P f (cCb T fUv) 16) : CbC P T f := by
  refine ⟨hf.ent, fun w B db bs k a l c hB hBd hbox hk hl hby hlim => ?_⟩
  obtain ⟨sv, hb, ho⟩ := hbox
  rw [List.length_map] at ho
  refine hf.runs (args := [.int .u32 (k : Nat), .slice a l.length c, .pointer (some ⟨db, 0, none⟩)]) (by simp) ?_
  have elen : (encTag (k, l)).length = (uv k).length + (uv l.length).length + l.length := by simp [encTag]; omega
  rw [elen] at hlim
  refine RW.sq (RW.rg (RL.step (MR.ld (p := ⟨db, 0, none⟩) rfl hpl (box_cell hb)) (RL.step (MR.mv (v := .int .u32 (k : Nat)) rfl) (RL.boxUv (T := T) (db := db) (B := B) (sv := sv) (bs := bs) (n := k) hG hne hc rfl hb ho hB hBd rfl hk (by omega) rfl (by decide) ?_))))
  intro sv1 w1 hb1 ho1 bl1 nr1
  refine RL.nil (RW.sq (RW.rg (RL.step (MR.ld (p := ⟨db, 0, none⟩) rfl hpl (box_cell hb1)) (RL.step (MR.mv (v := .slice a l.length c) rfl) (RL.step (MR.ln tk.u8s rfl) (RL.step (MR.cvI rfl tk.int (tk.u32 h32)) (RL.boxUv (T := T) (db := db) (B := B) (sv := sv1) (bs := bs ++ uv k) (n := l.length) hG hne hc rfl hb1 ho1 (Nat.le_trans hB bl1.size) hBd ?_ (by omega) (by rw [List.length_append]; omega) rfl (by decide) ?_)))))))
  · show Value.int .u32 (IntKind.u32.wrap (l.length : Int)) = _
    rw [wrap_u32n (by omega)]
  intro sv2 w2 hb2 ho2 bl2 nr2
  have bl : Below B w w2 := bl1.trans bl2
  have hby2 : BytesAt w2 (fun _ => True) a l := (hby.mono (F' := (· < B)) (fun _ h => h) (fun b hb => bl.block b hb)).any
  obtain ⟨sv3, w3, h1, h2, h3, h4⟩ := run_apOwn (P := P) (w := w2) (T := T.u8s) (U := T.u8) (c := c) tk.u8s tk.u8 ho2 rfl hby2 (Nat.le_trans hB bl.size) (by simp only [List.length_append]; omega)
  refine RL.nil (RW.rg (RL.step (MR.ld (p := ⟨db, 0, none⟩) rfl hpl (box_cell hb2)) (RL.step (MR.mv (v := .slice a l.length c) rfl) (RL.step (MR.apBy (h1 0) h1) ?_))))
  have hb3 : w3.heap[db]? = some (.cells #[sv2] T.u8s (0, 0)) := box_grown ho2 hb2 hne h4
  refine RL.st1 (v := sv3) (b := db) (o := 0) rfl rfl (own_one h2) hc (box_there hb3) (RL.nil ?_)
  refine ⟨⟨_, rfl⟩, ?_, bl.trans (below_setCells hBd _ _ h3), (nr1.trans nr2 bl1.size).trans (fun k hk hne' hr => by rw [setCells_other db _ _ _ k hne', h4.block k hk (own_nr ho2 hr)]) bl.size⟩
  refine BoxR.put hb3 (n := ((bs ++ encTag (k, l)).map byteV).length) ?_ rfl hne
  have e : bs ++ encTag (k, l) = bs ++ uv k ++ uv l.length ++ l := by simp [encTag]
  rw [e, List.length_map]
  exact h2
end
end Go.Kx
namespace Go.Kx
open Go.RowKit Go.MapKept Go.MapFrom
set_option linter.unusedSimpArgs false
set_option linter.unusedVariables false
def nilSB (P : Program) (T : Nat) : Bool := match P.info? T with
  | some i => (match i.zero with | some v => MVal.nslice.is v | none => false)
  | none => false
theorem nilSB_of {P : Program} {T : Nat} (h : nilSB P T = true) : ∃ i, P.info? T = some i ∧ i.zero = some (.slice none 0 0) := by
  unfold nilSB at h
  cases hi : P.info? T with
  | none => simp [hi] at h
  | some i =>
    simp only [hi] at h
    cases hz : i.zero with
    | none => simp [hz] at h
    | some v => simp only [hz] at h; exact ⟨i, rfl, by rw [hz, MVal.is_eq h]; rfl⟩
structure EN where
  tSt : Nat
  tMap : Nat
  tKs : Nat
  tU32 : Nat
  tInt : Nat
  fLess : Nat
  fSort : Nat
  fCb : Nat
def cEachF (K : EN) : MCode :=
  .sq (.sq (.rg [.mv 8 (.t 0), .nc 9 8, .fa 10 K.tSt 9 0, .ld 11 K.tMap 10, .ln 12 K.tMap 11, .bi 13 .eql K.tInt (.t 12) (.c (.int .i64 0))]) (.cd 13 .rt .sk))
  (.sq (.rg [.mv 14 (.t 0), .nc 15 14, .fa 16 K.tSt 15 0, .ld 17 K.tMap 16, .ln 18 K.tMap 17, .mk 19 K.tKs (.c (.int .i64 0)) (.t 18), .al 4 K.tKs, .st K.tKs 4 19])
  (.sq (.sq (.rg [.mv 20 (.t 0), .nc 21 20, .fa 22 K.tSt 21 0, .ld 23 K.tMap 22, .rng 24 K.tMap 23])
    (.bl 0 (.lp (.sq (.rg [.nxt 25 24, .ext 26 25 0]) (.sq (.cd 26 .sk (.ex 0)) (.bl 1 (.sq (.rg [.ent 27 24, .ext 28 27 0, .mv 5 (.t 28)]) (.rg [.ld 29 K.tKs 4, .mv 30 (.t 5), .bsl 31 K.tKs [.t 30], .ap 32 K.tKs K.tKs 29 31, .st K.tKs 4 32]))))))))
  (.sq (.rg [.ld 33 K.tKs 4, .mki 34 K.tKs 33, .mf 35 K.fLess 4, .ca 36 K.fSort [.t 34, .t 35]])
  (.sq (.rg [.ld 37 K.tKs 4, .ln 38 K.tKs 37, .mv 39 (.c (.int .i64 0))])
    (.bl 2 (.lp (.sq (.rg [.bi 40 .lss K.tInt (.t 39) (.t 38)]) (.sq (.cd 40 .sk (.ex 2)) (.sq (.bl 3 (.sq (.rg [.ia 41 K.tKs 37 39, .ld 42 K.tU32 41, .mv 7 (.t 42)]) (.rg [.mv 43 (.t 1), .mv 44 (.t 7), .mv 45 (.t 0), .nc 46 45, .fa 47 K.tSt 46 0, .ld 48 K.tMap 47, .mv 49 (.t 7), .lku 50 K.tMap 48 49, .cav 51 43 [.t 44, .t 50]])))
      (.rg [.bi 52 .add K.tInt (.t 39) (.c (.int .i64 1)), .mv 39 (.t 52)]))))))))))
def SortC (P : Program) (tS U f fLess : Nat) : Prop := entersB P f = true ∧ ∀ (w : World) (db g n c : Nat) (cur : Array Value) (ks : List Nat), w.heap[db]? = some (.cells #[.slice (some ⟨g, 0, none⟩) n c] tS (0, 0)) → w.heap[g]? = some (.cells cur U (0, 0)) → ks.length = n → n < 1000000 → (∀ k ∈ ks, k < 4294967296) → w.rangeAt g 0 (ks.map u32V) → w.there g 0 n → g ≠ db → g < w.heap.size →
  Calls P f #[.iface tS (.slice (some ⟨g, 0, none⟩) n c), .func (.func fLess) #[] #[.pointer (some ⟨db, 0, none⟩)]] w (fun e w' => e = .returned (.tuple #[]) ∧ ∃ ks' : List Nat, ks'.Perm ks ∧ ks'.Pairwise (fun x y => x ≤ y) ∧ w'.rangeAt g 0 (ks'.map u32V) ∧ (∃ cur', w'.heap[g]? = some (.cells cur' U (0, 0))) ∧ Fr (fun _ => False) g 0 n w w')
structure TgE (P : Program) (K : EN) (T : IT) : Prop where
  map : mapU P K.tMap = true
  mapT : mapTy P K.tMap = true
  pl : plainTy P K.tMap = true
  fld : fieldAtB P K.tSt 0 0 = true
  ks : sliceOf P K.tKs K.tU32 = true
  u : u32B P K.tU32 = true
  zk : nilSB P K.tKs = true
  ck : cellsB P K.tKs 1 = true
  pk : plainTy P K.tKs = true
  pu : plainTy P K.tU32 = true
  cu : cellsB P K.tU32 1 = true
  int : intTy P K.tInt .i64 = true
  ne : K.tU32 ≠ K.tKs
theorem sorted_eq : ∀ {l m : List Nat}, l.Pairwise (fun x y => x < y) → m.Pairwise (fun x y => x < y) → (∀ x, x ∈ l ↔ x ∈ m) → l = m
  | [], [], _, _, _ => rfl
  | [], y :: m, _, _, h => by have := (h y).2 List.mem_cons_self; simp at this
  | x :: l, [], _, _, h => by have := (h x).1 List.mem_cons_self; simp at this
  | x :: l, y :: m, h1, h2, h => by
    rw [List.pairwise_cons] at h1 h2
    have exy : x = y := by
      have a := (h x).1 List.mem_cons_self
      have b := (h y).2 List.mem_cons_self
      rw [List.mem_cons] at a b
      rcases a with a | a
      · exact a
      · rcases b with b | b
        · exact b.symm
        · have := h2.1 x a; have := h1.1 y b; omega
    subst exy
    congr 1
    refine sorted_eq h1.2 h2.2 fun z => ?_
    have hz := h z
    rw [List.mem_cons, List.mem_cons] at hz
    constructor
    · intro hl
      rcases hz.1 (.inr hl) with e | hm
      · subst e; have := h1.1 z hl; omega
      · exact hm
    · intro hm
      rcases hz.2 (.inr hm) with e | hl
      · subst e; have := h2.1 z hm; omega
      · exact hl
theorem run_lookupTag {P : Program} {w : World} {T r clock : Nat} {es : Array MapEntry} {e : MapEntry} {k : Nat} (hT : mapU P T = true) (hb : w.heap[r]? = some (.map es clock)) (hst : Stamped es clock) (hks : ∀ x ∈ es.toList, IsKey (.int .u32) x.key) (he : e ∈ es.toList) (hk : e.key = u32V k) :
    (Instr.lookup T (.map (some r)) (u32V k) false).run P w = .ok e.val w := by
  obtain ⟨kt, et, hm, hd⟩ := mapU_eq hT
  have hk' : IsKey (.int .u32) (u32V k) := rfl
  rcases findNow_spec hk' es.toList 0 hks with ⟨h1, h2⟩ | ⟨j, e', h1, h2, h3⟩
  · exact absurd hk (h2 e he)
  · have hem : e' ∈ es.toList := List.mem_of_getElem? h2
    have heq : e' = e := by
      have hn := ((stamped_iff es clock).1 hst).2.2
      obtain ⟨i1, hi1⟩ := List.getElem?_of_mem he
      rw [List.pairwise_iff_getElem] at hn
      rcases Nat.lt_trichotomy i1 j with hlt | heq | hgt
      · obtain ⟨a1, a2⟩ := List.getElem?_eq_some_iff.1 hi1
        obtain ⟨b1, b2⟩ := List.getElem?_eq_some_iff.1 h2
        exact absurd (by rw [a2, b2, hk, h3]) (hn i1 j a1 b1 hlt)
      · subst heq; rw [hi1] at h2; exact (Option.some.inj h2).symm
      · obtain ⟨a1, a2⟩ := List.getElem?_eq_some_iff.1 hi1
        obtain ⟨b1, b2⟩ := List.getElem?_eq_some_iff.1 h2
        exact absurd (by rw [a2, b2, hk, h3]) (hn j i1 b1 a1 hgt)
    subst heq
    cases hemp : es.isEmpty <;> simp [Instr.lookup, run_underlying hm, Go.MapKept.run_getObj_map hb, Go.MapKept.run_checkKey hd hk', Go.MapKept.run_findKey hd h1, Result.andThen]
set_option linter.unusedVariables false
theorem key_inj {es : Array MapEntry} {clock : Nat} (hst : Stamped es clock) {x e : MapEntry} (hx : x ∈ es.toList) (he : e ∈ es.toList) (hk : x.key = e.key) : x = e := by
  have hn := ((stamped_iff es clock).1 hst).2.2
  obtain ⟨i, hi⟩ := List.getElem?_of_mem hx
  obtain ⟨j, hj⟩ := List.getElem?_of_mem he
  rw [List.pairwise_iff_getElem] at hn
  obtain ⟨a1, a2⟩ := List.getElem?_eq_some_iff.1 hi
  obtain ⟨b1, b2⟩ := List.getElem?_eq_some_iff.1 hj
  rcases Nat.lt_trichotomy i j with hlt | heq | hgt
  · exact absurd (by rw [a2, b2, hk]) (hn i j a1 b1 hlt)
  · subst heq; rw [hi] at hj; exact Option.some.inj hj
  · exact absurd (by rw [a2, b2, hk]) (hn j i b1 a1 hgt)
theorem born_inj {es : Array MapEntry} {clock : Nat} (hst : Stamped es clock) {x e : MapEntry} (hx : x ∈ es.toList) (he : e ∈ es.toList) (hk : x.born = e.born) : x = e := by
  have hn := ((stamped_iff es clock).1 hst).2.1
  obtain ⟨i, hi⟩ := List.getElem?_of_mem hx
  obtain ⟨j, hj⟩ := List.getElem?_of_mem he
  rw [List.Nodup, List.pairwise_map, List.pairwise_iff_getElem] at hn
  obtain ⟨a1, a2⟩ := List.getElem?_eq_some_iff.1 hi
  obtain ⟨b1, b2⟩ := List.getElem?_eq_some_iff.1 hj
  rcases Nat.lt_trichotomy i j with hlt | heq | hgt
  · exact absurd (by rw [a2, b2, hk]) (hn i j a1 b1 hlt)
  · subst heq; rw [hi] at hj; exact Option.some.inj hj
  · exact absurd (by rw [a2, b2, hk]) (hn j i b1 a1 hgt)
theorem iterSeen_of {w : World} {it : Nat} {a : Option Nat} {b c : Nat} {s : Array Nat} (h : w.heap[it]? = some (.mapIter a b s c)) : w.iterSeen it = s := by unfold World.iterSeen; rw [h]
theorem setHeap_same {w : World} {r : Nat} {o o' : Obj} (h : w.heap[r]? = some o') : (setHeap w r o).heap[r]? = some o := (heap_set h).1
theorem setHeap_other {w : World} {r k : Nat} {o : Obj} (h : k ≠ r) : (setHeap w r o).heap[k]? = w.heap[k]? := by simp [setHeap, Ne.symm h]
section
variable {P : Program} {N : Nat} {Q : Exit → (Nat → Value) → World → Prop} {ρ : Nat → Value} {w w' : World} {ms : List MOp} {T : IT} {K : EN}
theorem each_tail {B db r clock g c : Nat} {p : Addr} {es : Array MapEntry} {bs : List UInt8} {tags : List Tg} {w0 : World} (te : TgE P K T) (hneU : K.tU32 ≠ T.u8) (hcb : CbC P T K.fCb) (hB : B ≤ w0.heap.size) (hBd : B ≤ db) (hp : p = ⟨p.block, p.off, none⟩)
    (hb : Below B w0 w) (hpB : p.block < B) (hrB : r < B) (hcell : w0.cell? p = some (.map (some r))) (hmap : w0.heap[r]? = some (.map es clock)) (hst : Stamped es clock) (hkeys : ∀ x ∈ es.toList, IsKey (.int .u32) x.key) (hsm : smallT tags)
    (hval : ∀ t ∈ tags, t.1 < 4294967296 ∧ ∃ e ∈ es.toList, e.key = .int .u32 t.1 ∧ ∃ a c, e.val = .slice a t.2.length c ∧ BytesAt w0 (· < B) a t.2) (hbox : BoxR T.u8 T.u8s w B db (bs.map byteV)) (hlim : bs.length + (tags.flatMap encTag).length ≤ lim)
    (hrow : w.rangeAt g 0 (tags.map fun t => u32V t.1)) (hgdb : g ≠ db) (hgn : ∀ cur, w.heap[g]? ≠ some (.cells cur T.u8 (0, 0))) (hg : g < w.heap.size)
    (r0 : ρ 0 = .pointer (some p)) (r1 : ρ 1 = .func (.func K.fCb) #[] #[.pointer (some ⟨db, 0, none⟩)]) (r37 : ρ 37 = .slice (some ⟨g, 0, none⟩) tags.length c) (r38 : ρ 38 = .int .i64 (tags.length : Nat)) (r39 : ρ 39 = .int .i64 0)
    (hQ : ∀ ρ' w', BoxR T.u8 T.u8s w' B db ((bs ++ tags.flatMap encTag).map byteV) → Below B w0 w' → Q .normal ρ' w') :
    RW P 53 (.bl 2 (.lp (.sq (.rg [.bi 40 .lss K.tInt (.t 39) (.t 38)]) (.sq (.cd 40 .sk (.ex 2)) (.sq (.bl 3 (.sq (.rg [.ia 41 K.tKs 37 39, .ld 42 K.tU32 41, .mv 7 (.t 42)]) (.rg [.mv 43 (.t 1), .mv 44 (.t 7), .mv 45 (.t 0), .nc 46 45, .fa 47 K.tSt 46 0, .ld 48 K.tMap 47, .mv 49 (.t 7), .lku 50 K.tMap 48 49, .cav 51 43 [.t 44, .t 50]])))
      (.rg [.bi 52 .add K.tInt (.t 39) (.c (.int .i64 1)), .mv 39 (.t 52)])))))) Q ρ w := by
  have hn : tags.length ≤ 40000 := hsm.1
  refine RW.bl (RW.lp (fun ρ' w' => ∃ i : Nat, i ≤ tags.length ∧ ρ' 0 = .pointer (some p) ∧ ρ' 1 = .func (.func K.fCb) #[] #[.pointer (some ⟨db, 0, none⟩)] ∧ ρ' 37 = .slice (some ⟨g, 0, none⟩) tags.length c ∧ ρ' 38 = .int .i64 (tags.length : Nat) ∧ ρ' 39 = .int .i64 (i : Nat) ∧
      Below B w0 w' ∧ BoxR T.u8 T.u8s w' B db ((bs ++ (tags.take i).flatMap encTag).map byteV) ∧ w'.rangeAt g 0 (tags.map fun t => u32V t.1) ∧ (∀ cur, w'.heap[g]? ≠ some (.cells cur T.u8 (0, 0))) ∧ g < w'.heap.size)
    (fun ρ' _ => tags.length - (intOf (ρ' 39)).toNat) ⟨0, Nat.zero_le _, r0, r1, r37, r38, r39, hb, by simpa using hbox, hrow, hgn, hg⟩ ?_ (fun ρ1 ρ2 w1 h => by rw [h 39 (by omega)]))
  rintro ρ1 w1 ⟨i, hi, q0, q1, q37, q38, q39, hb1, hbox1, hrow1, hgn1, hg1⟩
  refine RW.knows [(0, .pointer (some p)), (1, .func (.func K.fCb) #[] #[.pointer (some ⟨db, 0, none⟩)]), (37, .slice (some ⟨g, 0, none⟩) tags.length c), (38, .int .i64 (tags.length : Nat)), (39, .int .i64 (i : Nat))] (by simp [q0, q1, q37, q38, q39]) ?_
  refine RW.sq (RW.rg (RL.step (MR.biE (v := .bool (decide ((i : Int) < (tags.length : Nat)))) rfl) (RL.nil ?_)))
  by_cases hlt : i < tags.length
  · refine RW.sq (RW.cd (b := true) (by show Value.bool _ = _; rw [decide_eq_true (by omega)]) (fun _ => RW.sk ?_) (fun e => by cases e))
    obtain ⟨t, ht⟩ : ∃ t, tags[i]? = some t := ⟨_, List.getElem?_eq_getElem hlt⟩
    have htm : t ∈ tags := List.mem_of_getElem? ht
    obtain ⟨v1, e, v2, v3, a, cc, v4, v5⟩ := hval t htm
    have hmap1 : w1.heap[r]? = some (.map es clock) := by rw [hb1.block r hrB]; exact hmap
    have hcell1 : w1.cell? p = some (.map (some r)) := by rw [cell_of_heap (hb1.block p.block hpB)]; exact hcell
    rw [hp] at hcell1
    have hrowi : w1.cell? ⟨g, 0 + i * 1, none⟩ = some (u32V t.1) := by
      have := hrow1 i (u32V t.1) (by rw [List.getElem?_map, ht]; rfl)
      rwa [Nat.mul_one]
    refine RW.sq (RW.bl (RW.sq (RW.rg (RL.step (MR.ia (k := .i64) te.ks te.cu rfl rfl hlt) (RL.step (MR.ld rfl te.pu hrowi) (RL.step MR.mv (RL.nil ?_)))))))
    refine RW.rg (RL.step (MR.mv (v := .func (.func K.fCb) #[] #[.pointer (some ⟨db, 0, none⟩)]) rfl) (RL.step (MR.mv (v := u32V t.1) rfl) (RL.step (MR.mv (v := .pointer (some ⟨p.block, p.off, none⟩)) (by show Value.pointer (some p) = _; rw [← hp])) (RL.step (MR.nc rfl) (RL.step (MR.fa rfl te.fld)
      (RL.step (MR.ld (v := .map (some r)) rfl te.pl (by rw [Nat.add_zero]; exact hcell1)) (RL.step (MR.mv (v := u32V t.1) rfl) (RL.step (MR.lku (v := e.val) (run_lookupTag te.map hmap1 hst hkeys v2 (by rw [v3]; rfl))) ?_))))))))
    have elen : ((tags.take (i + 1)).flatMap encTag) = (tags.take i).flatMap encTag ++ encTag t := by
      rw [List.take_add_one, ht]; simp
    have hll : bs.length + ((tags.take i).flatMap encTag).length + (encTag t).length ≤ lim := by
      have e1 : tags.flatMap encTag = (tags.take (i + 1)).flatMap encTag ++ (tags.drop (i + 1)).flatMap encTag := by rw [← List.flatMap_append, List.take_append_drop]
      rw [e1, elen] at hlim
      simp only [List.length_append] at hlim; omega
    have hcbc := hcb.2 w1 B db (bs ++ (tags.take i).flatMap encTag) t.1 a t.2 cc (Nat.le_trans hB hb1.size) hBd hbox1 v1 (hsm.2 t htm) (v5.mono (fun _ h => h) (fun b hb => hb1.block b hb)) (by rw [List.length_append]; exact hll)
    refine RL.cav (g := K.fCb) (lb := [.pointer (some ⟨db, 0, none⟩)]) (R := fun _ w' => BoxR T.u8 T.u8s w' B db ((bs ++ (tags.take i).flatMap encTag ++ encTag t).map byteV) ∧ Below B w1 w' ∧ Nr T.u8 db w1 w') hcb.1 rfl ?_ ?_
    · show Calls P K.fCb #[u32V t.1, e.val, .pointer (some ⟨db, 0, none⟩)] w1 _
      rw [v4]
      refine Calls.mono hcbc ?_
      rintro e' w' ⟨⟨v, rfl⟩, h⟩
      exact ⟨v, rfl, h⟩
    rintro v w2 ⟨hbox2, hb2, hnr⟩
    have hg2 : w2.heap[g]? = w1.heap[g]? := hnr g hg1 hgdb hgn1
    refine RL.nil (RW.rg (RL.step (MR.biE (v := .int .i64 ((i + 1 : Nat) : Int)) (by show some (Value.int .i64 (IntKind.i64.wrap ((i : Int) + 1))) = _; rw [wrap_i64 (by omega) (by omega)]; rfl)) (RL.step MR.mv (RL.nil ?_))))
    refine ⟨⟨i + 1, hlt, rfl, rfl, rfl, rfl, rfl, hb1.trans hb2, ?_, range_keep hrow1 hg2, fun cur => by rw [hg2]; exact hgn1 cur, Nat.lt_of_lt_of_le hg1 hb2.size⟩, ?_⟩
    · rw [elen, ← List.append_assoc]; exact hbox2
    · show tags.length - ((i + 1 : Nat) : Int).toNat < tags.length - (intOf (ρ1 39)).toNat
      rw [q39]; simp only [intOf]; omega
  · refine RW.sq (RW.cd (b := false) (by show Value.bool _ = _; rw [decide_eq_false (by omega)]) (fun e => by cases e) (fun _ => RW.ex ?_))
    show inBlockR 2 Q (.exit 2) _ w1
    simp only [inBlockR, ↓reduceIte]
    have : i = tags.length := by omega
    subst this
    rw [List.take_length] at hbox1
    exact hQ _ w1 hbox1 hb1
theorem each_range {B0 it kb r clock : Nat} {es : Array MapEntry} {w0 : World} {p : Value} {fv : Value} {tags : List Tg} (te : TgE P K T) (hB : B0 ≤ w0.heap.size) (hst : Stamped es clock) (hback : ∀ x ∈ es.toList, ∃ t ∈ tags, x.key = .int .u32 t.1) (hes : es.size ≤ 40000)
    (hmap : w0.heap[r]? = some (.map es clock)) (hrB : r < B0) (hkb : B0 ≤ kb) (hit : B0 ≤ it) (hne : kb ≠ it) (hitw : w.heap[it]? = some (.mapIter (some r) clock #[] clock)) (hb : Below B0 w0 w) (hbox : BoxR K.tU32 K.tKs w B0 kb [])
    (r0 : ρ 0 = p) (r1 : ρ 1 = fv) (r4 : ρ 4 = .pointer (some ⟨kb, 0, none⟩)) (r24 : ρ 24 = .pointer (some ⟨it, 0, none⟩))
    (hQ : ∀ ρ' w' (ks : List Nat), ρ' 0 = p → ρ' 1 = fv → ρ' 4 = .pointer (some ⟨kb, 0, none⟩) → Below B0 w0 w' → BoxR K.tU32 K.tKs w' B0 kb (ks.map u32V) → ks.Nodup → (∀ x ∈ es.toList, ∃ k ∈ ks, x.key = u32V k) → (∀ k ∈ ks, ∃ x ∈ es.toList, x.key = u32V k) → ks.length ≤ es.size → Q .normal ρ' w') :
    RW P 53 (.bl 0 (.lp (.sq (.rg [.nxt 25 24, .ext 26 25 0]) (.sq (.cd 26 .sk (.ex 0)) (.bl 1 (.sq (.rg [.ent 27 24, .ext 28 27 0, .mv 5 (.t 28)]) (.rg [.ld 29 K.tKs 4, .mv 30 (.t 5), .bsl 31 K.tKs [.t 30], .ap 32 K.tKs K.tKs 29 31, .st K.tKs 4 32]))))))) Q ρ w := by
  refine RW.bl (RW.lp (fun ρ' w' => ∃ (seen : Array Nat) (ks : List Nat), ρ' 0 = p ∧ ρ' 1 = fv ∧ ρ' 4 = .pointer (some ⟨kb, 0, none⟩) ∧ ρ' 24 = .pointer (some ⟨it, 0, none⟩) ∧ w'.heap[it]? = some (.mapIter (some r) clock seen clock) ∧ BoxR K.tU32 K.tKs w' B0 kb (ks.map u32V) ∧ Below B0 w0 w' ∧
      ks.Nodup ∧ (∀ x ∈ es.toList, seen.contains x.born = true → ∃ k ∈ ks, x.key = u32V k) ∧ (∀ k ∈ ks, ∃ x ∈ es.toList, x.key = u32V k ∧ seen.contains x.born = true) ∧ ks.length + (leftOf es seen).size ≤ es.size)
    (fun _ w' => (leftOf es (w'.iterSeen it)).size) ⟨#[], [], r0, r1, r4, r24, hitw, hbox, hb, List.nodup_nil, fun x _ h => by simp at h, fun k h => by simp at h, by simpa [leftOf] using Array.size_filter_le⟩ ?_)
  rintro ρ1 w1 ⟨seen, ks, q0, q1, q4, q24, hit1, hbox1, hb1, hnd, hfw, hbk, hsz⟩
  have hmap1 : w1.heap[r]? = some (.map es clock) := by rw [hb1.block r hrB]; exact hmap
  refine RW.knows [(0, p), (1, fv), (4, .pointer (some ⟨kb, 0, none⟩)), (24, .pointer (some ⟨it, 0, none⟩))] (by simp [q0, q1, q4, q24]) ?_
  rcases run_nextG (P := P) (w := w1) it r clock clock clock seen es hmap1 hit1 hst.1 (Nat.le_refl _) with ⟨hz, hrun⟩ | ⟨e, he, w2, e1, e2, e3, e4, hrun⟩
  · refine RW.sq (RW.rg (RL.step (MR.nxt (v := .tuple #[.bool false]) hrun) (RL.step (MR.ext (v := .bool false) rfl) (RL.nil (RW.sq (RW.cd (b := false) rfl (fun e => by cases e) (fun _ => RW.ex ?_)))))))
    show inBlockR 0 Q (.exit 0) _ w1
    simp only [inBlockR, ↓reduceIte]
    refine hQ _ w1 ks rfl rfl rfl hb1 hbox1 hnd (fun x hx => hfw x hx ?_) (fun k hk => ?_) (by omega)
    · cases hc : seen.contains x.born with
      | true => rfl
      | false =>
        have : x ∈ leftOf es seen := by
          unfold leftOf
          rw [Array.mem_filter]
          exact ⟨by simpa using hx, by rw [hc]; rfl⟩
        have := Array.size_pos_of_mem this
        omega
    · obtain ⟨x, h1, h2, _⟩ := hbk k hk
      exact ⟨x, h1, h2⟩
  · obtain ⟨hem, hes0⟩ := mem_left he
    obtain ⟨t, htm, htk⟩ := hback e hem
    have s2 : w2.heap.size = w1.heap.size := by rw [e1]
    have hit2 : w2.heap[it]? = some (.mapIter (some r) clock seen clock) := by rw [e1]; exact hit1
    generalize hw3 : setHeap w2 it (.mapIter (some r) clock (seen.push e.born) clock) = w3 at hrun
    have i3 : w3.heap[it]? = some (.mapIter (some r) clock (seen.push e.born) clock) := by rw [← hw3]; exact setHeap_same hit2
    have o3 : ∀ k, k ≠ it → w3.heap[k]? = w1.heap[k]? := fun k hk => by rw [← hw3, setHeap_other hk, e1]
    have z3 : w3.heap.size = w1.heap.size := by rw [← hw3]; simp [setHeap, s2]
    have B3 : Below B0 w0 w3 := hb1.trans ⟨by rw [← hw3]; exact e2, by rw [← hw3]; exact e3, by rw [← hw3]; exact e4, by omega, fun k hk => o3 k (by omega)⟩
    have hmap3 : w3.heap[r]? = some (.map es clock) := by rw [o3 r (by omega)]; exact hmap1
    refine RW.sq (RW.rg (RL.step (MR.nxt (v := .tuple #[.bool true, e.key, e.val]) hrun) (RL.step (MR.ext (v := .bool true) rfl) (RL.nil (RW.sq (RW.cd (b := true) rfl (fun _ => RW.sk ?_) (fun e => by cases e)))))))
    refine RW.bl (RW.sq (RW.rg (RL.step (MR.ent (v := .tuple #[e.key, e.val]) (run_entryG it r clock clock seen es e hmap3 i3 hem hst.2.1)) (RL.step (MR.ext (v := e.key) rfl) (RL.step MR.mv (RL.nil ?_))))))
    obtain ⟨sv, c1, c2⟩ := hbox1
    rw [List.length_map] at c2
    have hlen : ks.length < 1000000 := by omega
    have c1' : w3.heap[kb]? = some (.cells #[sv] K.tKs (0, 0)) := by rw [o3 kb hne]; exact c1
    have c2' : w3.ownsRow B0 K.tU32 1 sv ks.length (ks.map u32V) := own_keep c2 fun g hg => o3 g (by
      rcases c2.2 with ⟨rfl, _⟩ | ⟨g', cap, cur, rfl, h3, h4, h5⟩
      · cases hg
      · simp only [Value.ownBlock, Option.some.injEq] at hg
        subst hg
        rintro rfl
        rw [hit1] at h4; cases h4)
    have hkey : e.key = u32V t.1 := htk
    have b4 := below_box w3 (.cells #[u32V t.1] K.tU32)
    have z4 := size_box w3 (.cells #[u32V t.1] K.tU32)
    have rg4 : (w3.alloc (.cells #[u32V t.1] K.tU32)).rangeAt w3.heap.size 0 [u32V t.1] := fun j v hj => cell_box w3 [u32V t.1] K.tU32 hj
    have c24 : (w3.alloc (.cells #[u32V t.1] K.tU32)).ownsRow B0 K.tU32 1 sv ks.length (ks.map u32V) := own_keep c2' fun g hg => b4.block g (by
      rcases c2'.2 with ⟨rfl, _⟩ | ⟨g', cap, cur, rfl, h3, h4, h5⟩
      · cases hg
      · simp only [Value.ownBlock, Option.some.injEq] at hg
        subst hg
        exact (Array.getElem?_eq_some_iff.1 h4).1)
    have c14 : (w3.alloc (.cells #[u32V t.1] K.tU32)).heap[kb]? = some (.cells #[sv] K.tKs (0, 0)) := by rw [b4.block kb (Array.getElem?_eq_some_iff.1 c1').1]; exact c1'
    obtain ⟨sv5, w5, a1, a2, a3⟩ := run_ap32 (P := P) (w := w3.alloc (.cells #[u32V t.1] K.tU32)) (T := K.tKs) (c := 1) te.ks te.u c24 rg4 hlen (Nat.le_trans hB (Nat.le_trans B3.size b4.size))
    have c15 : w5.heap[kb]? = some (.cells #[sv] K.tKs (0, 0)) := box_grown c24 c14 te.ne a3
    refine RW.rg (RL.step (MR.ld (p := ⟨kb, 0, none⟩) rfl te.pk (box_cell c1')) (RL.step (MR.mv (v := u32V t.1) (by show e.key = _; exact hkey)) (RL.step (MR.bslBy (v := .slice (some ⟨w3.heap.size, 0, none⟩) 1 1) (w' := w3.alloc (.cells #[u32V t.1] K.tU32)) (run_bsl1 te.ks te.u))
      (RL.step (MR.apBy (a1 0) a1) (RL.st1 (v := sv5) (b := kb) (o := 0) rfl rfl (own_one a2) te.ck (box_there c15) (RL.nil ?_))))))
    have B5 : Below B0 w0 w5 := (B3.trans (b4.mono (Nat.le_trans hB B3.size))).grown a3 (Nat.le_trans hB (Nat.le_trans B3.size b4.size)) (fun k hk => by
      have := (World.ownsRow.lt c24 k hk).1; exact this)
    have hit5 : w5.heap[it]? = some (.mapIter (some r) clock (seen.push e.born) clock) := by
      rw [a3.block it (by have := (Array.getElem?_eq_some_iff.1 i3).1; omega) (fun ee => by
        rcases c24.2 with ⟨rfl, _⟩ | ⟨g', cap, cur, rfl, h3, h4, h5⟩
        · cases ee
        · simp only [Value.ownBlock, Option.some.injEq] at ee
          subst ee
          rw [b4.block it (Array.getElem?_eq_some_iff.1 i3).1, i3] at h4; cases h4), b4.block it (Array.getElem?_eq_some_iff.1 i3).1]
      exact i3
    have hit6 : (w5.setCells kb 0 [sv5]).heap[it]? = some (.mapIter (some r) clock (seen.push e.born) clock) := by rw [setCells_other kb _ _ _ it (fun h => hne h.symm)]; exact hit5
    have hkn : t.1 ∉ ks := fun hin => by
      obtain ⟨x, x1, x2, x3⟩ := hbk _ hin
      have := key_inj hst x1 hem (by rw [x2, hkey])
      subst this
      rw [hes0] at x3; cases x3
    have hsh := left_shrinks es seen e he
    refine ⟨⟨seen.push e.born, ks ++ [t.1], rfl, rfl, rfl, rfl, hit6, ?_, below_setCells hkb _ _ B5, ?_, ?_, ?_, by simp only [List.length_append, List.length_cons, List.length_nil]; omega⟩, ?_⟩
    · refine BoxR.put c15 (n := ((ks ++ [t.1]).map u32V).length) ?_ rfl te.ne
      rw [List.length_map, List.length_append, List.map_append]
      exact a2
    · rw [List.nodup_append]
      exact ⟨hnd, by simp, fun a ha b hb => by simp only [List.mem_singleton] at hb; subst hb; rintro rfl; exact hkn ha⟩
    · intro x hx hc
      rw [contains_push, Bool.or_eq_true, beq_iff_eq] at hc
      rcases hc with hc | hc
      · obtain ⟨k, k1, k2⟩ := hfw x hx hc
        exact ⟨k, List.mem_append_left _ k1, k2⟩
      · have := born_inj hst hx hem hc
        subst this
        exact ⟨t.1, by simp, hkey⟩
    · intro k hk
      rw [List.mem_append] at hk
      rcases hk with hk | hk
      · obtain ⟨x, x1, x2, x3⟩ := hbk k hk
        exact ⟨x, x1, x2, by rw [contains_push, x3]; rfl⟩
      · simp only [List.mem_singleton] at hk
        subst hk
        exact ⟨e, hem, hkey, by rw [contains_push]; simp⟩
    · show (leftOf es ((w5.setCells kb 0 [sv5]).iterSeen it)).size < (leftOf es (w1.iterSeen it)).size
      rw [iterSeen_of hit6, iterSeen_of hit1]; exact hsh
end
end Go.Kx
namespace Go.Kx
open Go.RowKit Go.MapKept Go.MapFrom
set_option linter.unusedSimpArgs false
set_option linter.unusedVariables false
section
variable {P : Program} {N : Nat} {Q : Exit → (Nat → Value) → World → Prop} {ρ : Nat → Value} {w w' : World} {ms : List MOp} {T : IT} {K : EN}
theorem cells_there {g n e : Nat} {cur : Array Value} (h : w.heap[g]? = some (.cells cur e (0, 0))) (hn : n ≤ cur.size) : w.there g 0 n := by
  intro j hj
  refine ⟨?_, ?_⟩
  · rw [cell_of_row w g (0 + j) cur e (0, 0) h, Nat.zero_add]
    simp; omega
  · unfold World.frozen?
    simp [h]
theorem each_ok {f : Nat} (te : TgE P K T) (hneU : K.tU32 ≠ T.u8) (hcb : CbC P T K.fCb) (hso : SortC P K.tKs K.tU32 K.fSort K.fLess) (hf : FnIs0 P f (cEachF K) 53) (w : World) (B db : Nat) (p : Addr) (m : Value) (bs : List UInt8) (tags : List Tg) (hB : B ≤ w.heap.size) (hpB : p.block < B) (hBd : B ≤ db)
    (hm : RepT w (· < B) m tags) (hsm : smallT tags) (hc : w.cell? p = some m) (hbox : BoxR T.u8 T.u8s w B db (bs.map byteV)) (hlim : bs.length + (tags.flatMap encTag).length ≤ lim) :
    Calls P f #[.pointer (some p), .func (.func K.fCb) #[] #[.pointer (some ⟨db, 0, none⟩)]] w (fun e w' => (∃ v, e = .returned v) ∧ BoxR T.u8 T.u8s w' B db ((bs ++ tags.flatMap encTag).map byteV) ∧ Below B w w') := by
  have hp := cell_spot hc
  refine hf.runs (args := [.pointer (some p), .func (.func K.fCb) #[] #[.pointer (some ⟨db, 0, none⟩)]]) (by simp) ?_
  have hc' : w.cell? ⟨p.block, p.off + 0, none⟩ = some m := by rw [Nat.add_zero, ← hp]; exact hc
  have hp' : (Value.pointer (some p)) = .pointer (some ⟨p.block, p.off, none⟩) := by rw [← hp]
  refine RW.sq (RW.sq (RW.rg (RL.step (MR.mv (v := .pointer (some ⟨p.block, p.off, none⟩)) hp') (RL.step (MR.nc rfl) (RL.step (MR.fa rfl te.fld) (RL.step (MR.ld rfl te.pl hc') (RL.step (MR.lnM te.mapT hm rfl) (RL.step (MR.biE (v := .bool (((tags.length : Nat) : Int) == 0)) rfl) (RL.nil ?_)))))))))
  refine RW.cd rfl (fun e => RW.rt ?_) (fun e => RW.sk ?_)
  · have : tags = [] := by
      have := beq_iff_eq.1 e
      exact List.eq_nil_of_length_eq_zero (by omega)
    subst this
    exact ⟨⟨_, rfl⟩, by simpa using hbox, Below.refl _ _⟩
  have hne0 : 0 < tags.length := by have := beq_eq_false_iff_ne.1 e; omega
  rcases hm with ⟨rfl, rfl⟩ | ⟨r, es, clock, rfl, hrB, hmap, hsz, hsort, hval, hst, hback⟩
  · simp at hne0
  have hrB : r < B := hrB
  have hn32 : tags.length ≤ 40000 := hsm.1
  have hkeys : ∀ x ∈ es.toList, IsKey (.int .u32) x.key := fun x hx => by obtain ⟨t, _, e⟩ := hback x hx; rw [e]; rfl
  obtain ⟨i, hi, his, hib, hiz⟩ := u32B_of te.u
  obtain ⟨zi, hzi, hzz⟩ := nilSB_of te.zk
  obtain ⟨w1, m1, m2, m3⟩ := run_make_own (P := P) w w.heap.size K.tKs K.tU32 i (.int .u32 0) 1 (sliceOf_eq te.ks) hi hiz his .i64 .i64 tags.length (by have : i.bytes * tags.length ≤ 1000 * 40000 := Nat.mul_le_mul hib hn32; omega) (by simp only [maxLen]; omega) (Nat.le_refl _)
  refine RW.sq (RW.rg (RL.step (MR.mv (v := .pointer (some ⟨p.block, p.off, none⟩)) hp') (RL.step (MR.nc rfl) (RL.step (MR.fa rfl te.fld) (RL.step (MR.ld rfl te.pl hc') (RL.step (MR.lnM (F := (· < B)) (tags := tags) te.mapT (.inr ⟨r, es, clock, rfl, hrB, hmap, hsz, hsort, hval, hst, hback⟩) rfl)
    (RL.step (MR.mkBy m1) (RL.step (MR.al ⟨zi, hzi, hzz⟩) ?_))))))))
  have b1 : Below w.heap.size w w1 := (Below.refl _ _).grown m3 (Nat.le_refl _) (by intro k hk; cases hk)
  have b2 := below_box w1 (.cells #[.slice none 0 0] K.tKs)
  have hkb0 : (w1.alloc (.cells #[.slice none 0 0] K.tKs)).heap[w1.heap.size]? = some (.cells #[.slice none 0 0] K.tKs (0, 0)) := heap_alloc_new w1 _
  have o2 : (w1.alloc (.cells #[.slice none 0 0] K.tKs)).ownsRow w.heap.size K.tU32 1 (.slice (some ⟨w.heap.size, 0, none⟩) 0 tags.length) 0 [] := own_keep m2 fun g hg => b2.block g (by
    rcases m2.2 with ⟨h, _⟩ | ⟨g', cap, cur, h1, h3, h4, h5⟩
    · cases h
    · simp only [Value.ownBlock, Option.some.injEq] at hg
      subst hg
      simp only [Value.slice.injEq, Option.some.injEq, Addr.mk.injEq] at h1
      rw [h1.1.1]
      exact (Array.getElem?_eq_some_iff.1 h4).1)
  refine RL.st1 (v := .slice (some ⟨w.heap.size, 0, none⟩) 0 tags.length) (b := w1.heap.size) (o := 0) rfl rfl rfl te.ck (box_there hkb0) (RL.nil ?_)
  have hbx := BoxR.put (xs := []) (n := 0) hkb0 o2 rfl te.ne
  have B2 : Below w.heap.size w ((w1.alloc (.cells #[.slice none 0 0] K.tKs)).setCells w1.heap.size 0 [.slice (some ⟨w.heap.size, 0, none⟩) 0 tags.length]) := below_setCells b1.size _ _ (b1.trans (b2.mono b1.size))
  have z2 : w1.heap.size < ((w1.alloc (.cells #[.slice none 0 0] K.tKs)).setCells w1.heap.size 0 [.slice (some ⟨w.heap.size, 0, none⟩) 0 tags.length]).heap.size := by rw [size_setCells, size_box]; omega
  show RW P 53 _ _ _ ((w1.alloc (.cells #[.slice none 0 0] K.tKs)).setCells w1.heap.size 0 [.slice (some ⟨w.heap.size, 0, none⟩) 0 tags.length])
  revert hbx B2 z2
  generalize (w1.alloc (.cells #[.slice none 0 0] K.tKs)).setCells w1.heap.size 0 [.slice (some ⟨w.heap.size, 0, none⟩) 0 tags.length] = w2
  intro hbx B2 z2
  obtain ⟨kt, et, hum, hud⟩ := mapU_eq te.map
  have hmap2 : w2.heap[r]? = some (.map es clock) := by rw [B2.block r (by omega)]; exact hmap
  have hc2 : w2.cell? ⟨p.block, p.off + 0, none⟩ = some (.map (some r)) := B2.kp _ _ hc'
  have b3 := below_box w2 (.mapIter (some r) clock #[] clock)
  refine RW.sq (RW.sq (RW.rg (RL.step (MR.mv (v := .pointer (some ⟨p.block, p.off, none⟩)) hp') (RL.step (MR.nc rfl) (RL.step (MR.fa rfl te.fld) (RL.step (MR.ld rfl te.pl hc2) (RL.step (MR.rng (run_range_map w2 K.tMap kt et r es clock hum hmap2)) (RL.nil ?_))))))))
  refine each_range (B0 := w.heap.size) (it := w2.heap.size) (kb := w1.heap.size) (r := r) (clock := clock) (es := es) (w0 := w) (tags := tags) (p := .pointer (some p)) (fv := .func (.func K.fCb) #[] #[.pointer (some ⟨db, 0, none⟩)]) te (Nat.le_refl _) hst hback (by omega) hmap (by omega) b1.size B2.size (by omega) (heap_alloc_new w2 _) (B2.trans (b3.mono B2.size)) (hbx.keep b3) rfl rfl rfl rfl ?_
  intro ρ5 w5 ks q0 q1 q4 B5 hbox5 hnd hfw hbk hkl
  show RW P 53 _ _ ρ5 w5
  obtain ⟨sv, c1, c2⟩ := hbox5
  rw [List.length_map] at c2
  have keyOf : ∀ k ∈ ks, ∃ t ∈ tags, t.1 = k := fun k hk => by
    obtain ⟨x, x1, x2⟩ := hbk k hk
    obtain ⟨t, t1, t2⟩ := hback x x1
    refine ⟨t, t1, ?_⟩
    rw [t2] at x2
    simp only [u32V, Value.int.injEq, true_and] at x2; omega
  have hks0 : 0 < ks.length := by
    obtain ⟨t, ht⟩ : ∃ t, tags[0]? = some t := ⟨_, List.getElem?_eq_getElem hne0⟩
    obtain ⟨_, e', e1, e2, _⟩ := hval t (List.mem_of_getElem? ht)
    obtain ⟨k, k1, _⟩ := hfw e' e1
    exact List.length_pos_of_mem k1
  rcases c2.2 with ⟨_, h0⟩ | ⟨g, cap, cur, rfl, hgB, hgh, hncap, hcapm, hcs, htk⟩
  · omega
  have hgkb : g ≠ w1.heap.size := own_ne c2 c1 te.ne g rfl
  have hg5 : g < w5.heap.size := (Array.getElem?_eq_some_iff.1 hgh).1
  have hrow5 : w5.rangeAt g 0 (ks.map u32V) := by
    intro j v hj
    rw [← htk, List.getElem?_take] at hj
    split at hj
    · exact rangeAt_heap hgh j v hj
    · simp at hj
  have hsc := hso.2 w5 w1.heap.size g ks.length cap cur ks c1 hgh rfl (by omega) (fun k hk => by obtain ⟨t, t1, rfl⟩ := keyOf k hk; exact (hval t t1).1) hrow5 (cells_there hgh (by omega)) hgkb hg5
  refine RW.sq (RW.rg (RL.step (MR.ld (p := ⟨w1.heap.size, 0, none⟩) q4 te.pk (box_cell c1)) (RL.step (MR.mki (w' := w5) (v := .iface K.tKs (.slice (some ⟨g, 0, none⟩) ks.length cap)) (by
    show (Instr.makeInterface K.tKs (.slice (some ⟨g, 0, none⟩) ks.length cap)).run P w5 = _
    simp only [Instr.makeInterface, Sem.run_bind, run_underlying (sliceOf_eq te.ks), Result.andThen_ok, Sem.run_pure])) (RL.step MR.mf ?_))))
  refine RL.ca (R := fun _ w' => ∃ ks' : List Nat, ks'.Perm ks ∧ ks'.Pairwise (fun x y => x ≤ y) ∧ w'.rangeAt g 0 (ks'.map u32V) ∧ (∃ cur', w'.heap[g]? = some (.cells cur' K.tU32 (0, 0))) ∧ Fr (fun _ => False) g 0 ks.length w5 w') hso.1 ?_ ?_
  · show Calls P K.fSort #[.iface K.tKs (.slice (some ⟨g, 0, none⟩) ks.length cap), .func (.func K.fLess) #[] #[ρ5 4]] w5 _
    rw [q4]
    refine Calls.mono hsc ?_
    rintro e' w' ⟨rfl, h⟩
    exact ⟨_, rfl, h⟩
  rintro v w6 ⟨ks', p1, p2, p3, ⟨cur', p4⟩, F6⟩
  have B6 : Below w.heap.size w w6 := B5.trans (F6.below hgB (fun _ h => h.elim) B5.size)
  have hks' : ks' = tags.map (·.1) := by
    have hnd' : ks'.Nodup := p1.nodup_iff.2 hnd
    refine sorted_eq ((p2.and hnd').imp fun h => by omega) (List.pairwise_map.2 hsort) fun k => ?_
    rw [p1.mem_iff, List.mem_map]
    constructor
    · intro hk; obtain ⟨t, t1, t2⟩ := keyOf k hk; exact ⟨t, t1, t2⟩
    · rintro ⟨t, t1, rfl⟩
      obtain ⟨_, e', e1, e2, _⟩ := hval t t1
      obtain ⟨k, k1, k2⟩ := hfw e' e1
      rw [e2] at k2
      simp only [u32V, Value.int.injEq, true_and] at k2
      have : k = t.1 := by omega
      rw [← this]; exact k1
  have hlen : ks.length = tags.length := by rw [← p1.length_eq, hks', List.length_map]
  have c16 : w6.heap[w1.heap.size]? = some (.cells #[.slice (some ⟨g, 0, none⟩) ks.length cap] K.tKs (0, 0)) := by
    rw [F6.block _ (Array.getElem?_eq_some_iff.1 c1).1 (fun e => hgkb e.symm) (fun x => x)]; exact c1
  refine RL.nil (RW.sq (RW.rg (RL.step (MR.ld (p := ⟨w1.heap.size, 0, none⟩) q4 te.pk (box_cell c16)) (RL.step (MR.ln te.ks rfl) (RL.step MR.mv (RL.nil ?_))))))
  show RW P 53 _ _ _ w6
  refine each_tail (B := B) (db := db) (r := r) (clock := clock) (g := g) (c := cap) (p := p) (es := es) (bs := bs) (tags := tags) (w0 := w) te hneU hcb hB hBd hp (B6.mono hB) hpB hrB hc hmap hst hkeys hsm hval (hbox.keep B6) hlim ?_ ?_ ?_ ?_ q0 q1 (by show Value.slice _ ks.length _ = _; rw [hlen]) (by show Value.int .i64 (ks.length : Nat) = _; rw [hlen]) rfl ?_
  · rw [hks', List.map_map] at p3; exact p3
  · obtain ⟨sv0, d1, d2⟩ := hbox
    have := (Array.getElem?_eq_some_iff.1 d1).1
    omega
  · intro cur0 hcur
    rw [p4] at hcur
    simp only [Option.some.injEq, Obj.cells.injEq] at hcur
    exact hneU hcur.2.1
  · exact (Array.getElem?_eq_some_iff.1 p4).1
  · intro ρ7 w7 hb7 B7
    exact ⟨⟨_, rfl⟩, hb7, B7⟩
theorem teach_ok {f fEach : Nat} {K' : TN} (tk : TOK P T) (te : TgE P K T) (hne : T.u8 ≠ T.u8s) (hneU : K.tU32 ≠ T.u8) (hpl : plainTy P T.u8s = true) (hcb : CbC P T K.fCb) (hso : SortC P K.tKs K.tU32 K.fSort K.fLess) (hfe : FnIs0 P K'.fEach (cEachF K) 53) (hK : K'.fCb = K.fCb) (hf : FnIs P f (cTeach K' T) 9 4) : TeachC P T.u8 f smallT := by
  refine ⟨hf.ent, ?_⟩
  rintro w B p m sv tags bs hB hpB ho hm hsm hc hlim
  refine hf.runs (args := [.pointer (some p), sv]) (by simp) (by omega) ?_
  refine RW.sq (RW.rg (RL.step MR.bx (RL.step MR.mv (RL.nil (RW.sq (RW.rg (RL.step MR.mv (RL.step MR.mf ?_))))))))
  have hcells : sv.cells = #[sv] := by rcases ho.2 with ⟨rfl, _⟩ | ⟨g, cap, cur, rfl, _⟩ <;> rfl
  have e1 : (args0 [.pointer (some p), sv] 1).cells = #[sv] := hcells
  have hb := below_box w (.cells #[sv] T.u8s)
  have hheap : (w.alloc (.cells #[sv] T.u8s)).heap[w.heap.size]? = some (.cells #[sv] T.u8s (0, 0)) := heap_alloc_new w _
  have hm' : RepT (w.alloc (.cells #[sv] T.u8s)) (· < B) m tags := hm.mono (fun _ h => h) (fun b hbb => hb.block b (by omega))
  have hc' := hb.kp _ _ hc
  show RL P 9 _ _ _ (w.alloc (.cells (args0 [.pointer (some p), sv] 1).cells T.u8s))
  rw [e1]
  have ho' : OwnB T.u8 (w.alloc (.cells #[sv] T.u8s)) B sv bs := ho.alloc _
  refine RL.ca (R := fun v w' => BoxR T.u8 T.u8s w' B w.heap.size ((bs ++ tags.flatMap encTag).map byteV) ∧ Below B (w.alloc (.cells #[sv] T.u8s)) w') hfe.ent ?_ ?_
  · show Calls P K'.fEach #[.pointer (some p), .func (.func K'.fCb) #[] #[.pointer (some ⟨w.heap.size, 0, none⟩)]] _ _
    rw [hK]
    refine Calls.mono (each_ok te hneU hcb hso hfe _ B w.heap.size p m bs tags (Nat.le_trans hB hb.size) hpB hB hm' hsm hc' ⟨sv, hheap, by rw [List.length_map]; exact ho'⟩ hlim) ?_
    rintro e w' ⟨⟨v, rfl⟩, h⟩
    exact ⟨v, rfl, h⟩
  rintro v w' ⟨⟨sv', g1, g2⟩, g3⟩
  rw [List.length_map] at g2
  refine RL.nil (RW.sq (RW.rg (RL.step (MR.ld (p := ⟨w.heap.size, 0, none⟩) rfl hpl (box_cell g1)) ?_)))
  repeat first | refine RL.step MR.mv ?_ | refine RL.step (MR.biE rfl) ?_ | refine RL.step (MR.b2 rfl) ?_
  exact RL.nil (RW.rt ⟨sv', rfl, g2, ((Below.refl B w).alloc hB _).trans g3⟩)
end
end Go.Kx
namespace Go.Kx
open Go.RowKit
set_option linter.unusedSimpArgs false
set_option linter.unusedVariables false
theorem TeachC.sub {P : Program} {U f : Nat} {S S' : List (Nat × List UInt8) → Prop} (h : TeachC P U f S) (hs : ∀ t, S' t → S t) : TeachC P U f S' :=
  ⟨h.1, fun w B p m sv tags bs h1 h2 h3 h4 h5 h6 h7 => h.2 w B p m sv tags bs h1 h2 h3 h4 (hs _ h5) h6 h7⟩
theorem okTags.small {ts : List (Nat × List UInt8)} (h : okTags ts) : smallT ts := ⟨h.2.1, fun t ht => (h.2.2 t ht).2⟩
section
variable {P : Program} {N : Nat} {Q : Exit → (Nat → Value) → World → Prop} {ρ : Nat → Value} {w w' : World} {ms : List MOp} {d : Nat} {T : IT} {K : KB} {g : TN}
theorem aok_tags (kk : KOK P K) (tg : TgOK P g K.T) (hl : TlenC P g.fLen) (ht : TeachC P K.T.u8 g.fTeach smallT) : AOK P (K.ia g) okTags where
  small := fun tags h => h.small
  prim := aok_prim kk
  alen := kk.alen
  calen := kk.calen
  nalen := kk.nalen
  cnalen := kk.cnalen
  tlen := fun _ => hl
  teach := fun _ => ht.sub fun t h => h.small
  uvar := kk.uv
  suf := fun a b h => ⟨(List.pairwise_append.1 h.1).2.1, by have := h.2.1; rw [List.length_append] at this; omega, fun t ht => h.2.2 t (List.mem_append_right _ ht)⟩
  kt := fun h1 h2 => ktc_of kk tg h1 h2 hl (ht.sub fun t h => h.small)
def cReadFrom (fRF : Nat) : MCode := .sq (.rg [.mv 4 (.c .niface)]) (.sq (.rg [.mv 5 (.t 0), .mv 6 (.t 1), .ca 7 fRF [.t 5, .t 6, .c (.bool false)], .mv 4 (.t 7)]) .rt)
end
set_option linter.unusedVariables false
def unkG1 (S : SN) : List GOp := [⟨0, none, .mv 23 (.t 9)⟩, ⟨1, none, .mv 24 (.t 6)⟩, ⟨2, none, .ln 25 S.tgs 24⟩, ⟨3, none, .bi 26 .lss S.T.int (.t 23) (.t 25)⟩, ⟨4, none, .mv 27 (.t 26)⟩, ⟨5, some (4, 27, true), .mv 28 (.t 6)⟩, ⟨6, some (4, 27, true), .mv 29 (.t 9)⟩, ⟨7, some (4, 27, true), .ia 30 S.tgs 28 29⟩, ⟨8, some (4, 27, true), .fa 31 S.tg 30 0⟩, ⟨9, some (4, 27, true), .ld 32 S.T.u32 31⟩, ⟨10, some (4, 27, true), .fa 33 S.tg 8 0⟩, ⟨11, some (4, 27, true), .ld 34 S.T.u32 33⟩, ⟨12, some (4, 27, true), .bi 35 .lss S.T.u32 (.t 32) (.t 34)⟩, ⟨13, none, .pk 36 (.t 27) (.t 35) (.c (.bool false))⟩]
def unkG2 (S : SN) : List GOp := [⟨0, none, .fa 39 S.tg 8 0⟩, ⟨1, none, .ld 40 S.T.u32 39⟩, ⟨2, none, .mv 41 (.t 5)⟩, ⟨3, none, .bi 42 .lss S.T.u32 (.t 40) (.t 41)⟩, ⟨4, none, .mv 43 (.t 42)⟩, ⟨5, some (4, 43, false), .mv 44 (.t 9)⟩, ⟨6, some (4, 43, false), .mv 45 (.t 6)⟩, ⟨7, some (4, 43, false), .ln 46 S.tgs 45⟩, ⟨8, some (4, 43, false), .bi 47 .lss S.T.int (.t 44) (.t 46)⟩, ⟨9, some (4, 43, false), .mv 48 (.t 47)⟩, ⟨10, some (9, 48, true), .mv 49 (.t 6)⟩, ⟨11, some (9, 48, true), .mv 50 (.t 9)⟩, ⟨12, some (9, 48, true), .ia 51 S.tgs 49 50⟩, ⟨13, some (9, 48, true), .fa 52 S.tg 51 0⟩, ⟨14, some (9, 48, true), .ld 53 S.T.u32 52⟩, ⟨15, some (9, 48, true), .fa 54 S.tg 8 0⟩, ⟨16, some (9, 48, true), .ld 55 S.T.u32 54⟩, ⟨17, some (9, 48, true), .bi 56 .eql S.T.u32 (.t 53) (.t 55)⟩, ⟨18, some (4, 43, false), .pk 57 (.t 48) (.t 56) (.c (.bool false))⟩, ⟨19, none, .pk 58 (.t 43) (.c (.bool true)) (.t 57)⟩]
def posOf (k : Nat) : List Tg → Nat
  | [] => 0
  | x :: xs => if x.1 < k then posOf k xs + 1 else 0
theorem posOf_le (k : Nat) : ∀ l : List Tg, posOf k l ≤ l.length
  | [] => Nat.le_refl _
  | x :: xs => by unfold posOf; split <;> simp [posOf_le k xs]
theorem posOf_lt {k i : Nat} : ∀ {l : List Tg} {x : Tg}, i < posOf k l → l[i]? = some x → x.1 < k
  | [], _, h, _ => by simp [posOf] at h
  | y :: ys, x, h, hx => by
    unfold posOf at h
    split at h
    · rename_i hy
      cases i with
      | zero => simp only [List.getElem?_cons_zero, Option.some.injEq] at hx; subst hx; exact hy
      | succ i => rw [List.getElem?_cons_succ] at hx; exact posOf_lt (by omega) hx
    · omega
theorem posOf_at {k : Nat} : ∀ {l : List Tg} {x : Tg}, l[posOf k l]? = some x → ¬ x.1 < k
  | [], _, h => by simp at h
  | y :: ys, x, h => by
    unfold posOf at h
    split at h
    · rw [List.getElem?_cons_succ] at h; exact posOf_at h
    · rename_i hy
      simp only [List.getElem?_cons_zero, Option.some.injEq] at h; subst h; exact hy
def insAt (t : Tg) (l : List Tg) : List Tg :=
  match l[posOf t.1 l]? with
  | some x => if x.1 = t.1 then l else l.take (posOf t.1 l) ++ t :: l.drop (posOf t.1 l)
  | none => l.take (posOf t.1 l) ++ t :: l.drop (posOf t.1 l)
theorem insTag_pos {t : Tg} : ∀ l : List Tg, insTag t l = insAt t l
  | [] => by simp [insTag, insAt, posOf]
  | y :: ys => by
    have ih := insTag_pos (t := t) ys
    unfold insTag insAt posOf
    split
    · rename_i hy
      rw [List.getElem?_cons_succ, ih]
      unfold insAt
      cases ys[posOf t.1 ys]? with
      | none => rfl
      | some x => dsimp only; split <;> rfl
    · simp only [List.getElem?_cons_zero, List.take_zero, List.nil_append, List.drop_zero]
section
variable {P : Program} {S : SN} {w w' : World} {Q : Exit → (Nat → Value) → World → Prop} {ρ : Nat → Value}
theorem tag_key {g o i : Nat} {cs : List Value} {t : Tg} (hr : w.rangeAt g (o + i * 2) cs) (ht : TagRow w cs t) : w.cell? ⟨g, o + i * 2 + 0, none⟩ = some (u32V t.1) := by
  obtain ⟨_, ad, c, rfl, _⟩ := ht
  exact hr 0 _ rfl
theorem unk_g1 (ok : SOK P S) {sv : Value} {out : List Tg} {t : Tg} {i tb : Nat} (hout : TagsS w sv out) (htb : w.cell? ⟨tb, 0, none⟩ = some (u32V t.1)) (r6 : ρ 6 = sv) (r8 : ρ 8 = .pointer (some ⟨tb, 0, none⟩)) (r9 : ρ 9 = .int .i64 (i : Nat))
    (hQ : ∀ ρ', (∀ s, s < 23 → ρ' s = ρ s) → ρ' 36 = .bool (match out[i]? with | some x => decide (x.1 < t.1) | none => false) → Q .normal ρ' (World.drew1 w)) : RW P 85 (.gr true (unkG1 S)) Q ρ w := by
  obtain ⟨ad, c, rfl, had, hc, hrow⟩ := hout
  refine RW.knows [(6, .slice ad out.length c), (8, .pointer (some ⟨tb, 0, none⟩)), (9, .int .i64 (i : Nat))] (by simp [r6, r8, r9]) (RW.gd ok.mo (Kp w) (drew1_kp w) ?_)
  have pre : ∀ s, s < 23 → updL ρ [(6, .slice ad out.length c), (8, .pointer (some ⟨tb, 0, none⟩)), (9, .int .i64 (i : Nat))] s = ρ s := by
    intro s hs
    simp only [updL, List.foldl]
    by_cases h9 : s = 9
    · subst h9; rw [upd_same]; exact r9.symm
    · rw [upd_ne _ _ h9]
      by_cases h8 : s = 8
      · subst h8; rw [upd_same]; exact r8.symm
      · rw [upd_ne _ _ h8]
        by_cases h6 : s = 6
        · subst h6; rw [upd_same]; exact r6.symm
        · rw [upd_ne _ _ h6]
  have un23 : ∀ (ρ1 : Nat → Value), (∀ s, s < 23 → ρ1 s = updL ρ [(6, .slice ad out.length c), (8, .pointer (some ⟨tb, 0, none⟩)), (9, .int .i64 (i : Nat))] s) → ∀ s, s < 23 → ρ1 s = ρ s := fun ρ1 h s hs => (h s hs).trans (pre s hs)
  unfold unkG1
  refine RG.q (fun _ _ => MR.mv (v := .int .i64 (i : Nat)) rfl) (RG.q (fun _ _ => MR.mv (v := .slice ad out.length c) rfl) (RG.q (fun _ _ => MR.ln ok.tgs rfl) (RG.q (v := .bool (decide ((i : Int) < (out.length : Nat)))) (fun _ _ => MR.biE rfl) (RG.q (fun _ _ => MR.mv (v := .bool (decide ((i : Int) < (out.length : Nat)))) rfl) ?_))))
  by_cases hlt : i < out.length
  · obtain ⟨x, hx⟩ : ∃ x, out[i]? = some x := ⟨_, List.getElem?_eq_getElem hlt⟩
    obtain ⟨g, o, cs, rfl, hr, htr⟩ := hrow i x hx
    rw [decide_eq_true (show (i : Int) < (out.length : Nat) by omega)]
    have hkey := tag_key hr htr
    refine RG.q (fun _ _ => MR.mv (v := .slice (some ⟨g, o, none⟩) out.length c) rfl) (RG.q (fun _ _ => MR.mv (v := .int .i64 (i : Nat)) rfl) (RG.q (fun _ _ => MR.ia (k := .i64) ok.tgs ok.tgN rfl rfl hlt) (RG.q (fun _ _ => MR.fa rfl (ok.tgF 0 (by omega))) (RG.q (fun w' hS => MR.ld rfl ok.pU32 (hS _ _ hkey))
      (RG.q (fun _ _ => MR.fa (b := tb) (o := 0) (off := 0) rfl (ok.tgF 0 (by omega))) (RG.q (fun w' hS => MR.ld (p := ⟨tb, 0 + 0, none⟩) rfl ok.pU32 (hS _ _ htb)) (RG.q (v := .bool (decide ((x.1 : Int) < (t.1 : Nat)))) (fun _ _ => MR.biE rfl) (RG.q (fun _ _ => MR.pk (b := true) (v := .bool (decide ((x.1 : Int) < (t.1 : Nat)))) rfl rfl) (RG.nil fun _ => ?_)))))))))
    refine hQ _ (un23 _ fun s hs => by (repeat (first | rw [upd_same] | rw [upd_ne _ _ (by omega)]))) ?_
    rw [hx]
    show Value.bool _ = _
    congr 1
    by_cases h : x.1 < t.1
    · rw [decide_eq_true (show (x.1 : Int) < (t.1 : Nat) by omega)]; simp [h]
    · rw [decide_eq_false (show ¬ (x.1 : Int) < (t.1 : Nat) by omega)]; simp [h]
  · have hx : out[i]? = none := List.getElem?_eq_none (by omega)
    rw [decide_eq_false (show ¬ (i : Int) < (out.length : Nat) by omega)]
    refine RG.no (d := 28) (by exact ⟨by decide, .inl rfl⟩) (RG.no (d := 29) (by exact ⟨by decide, .inl rfl⟩) (RG.no (d := 30) (by exact ⟨by decide, .inl rfl⟩) (RG.no (d := 31) (by exact ⟨by decide, .inl rfl⟩) (RG.no (d := 32) (by exact ⟨by decide, .inl rfl⟩) (RG.no (d := 33) (by exact ⟨by decide, .inl rfl⟩) (RG.no (d := 34) (by exact ⟨by decide, .inl rfl⟩) (RG.no (d := 35) (by exact ⟨by decide, .inl rfl⟩) (RG.q (fun _ _ => MR.pk (b := false) (v := .bool false) rfl rfl) (RG.nil fun _ => ?_)))))))))
    refine hQ _ (un23 _ fun s hs => by (repeat (first | rw [upd_same] | rw [upd_ne _ _ (by omega)]))) ?_
    rw [hx]; rfl
theorem unk_find (ok : SOK P S) {sv : Value} {out : List Tg} {t : Tg} {tb : Nat} (hout : TagsS w sv out) (htb : w.cell? ⟨tb, 0, none⟩ = some (u32V t.1)) (hlen : out.length ≤ 1000000) (r6 : ρ 6 = sv) (r8 : ρ 8 = .pointer (some ⟨tb, 0, none⟩)) (r9 : ρ 9 = .int .i64 0)
    (hQ : ∀ ρ' w', (∀ s, s < 23 → s ≠ 9 → ρ' s = ρ s) → ρ' 9 = .int .i64 (posOf t.1 out : Nat) → w'.heap = w.heap → Below w.heap.size w w' → Q .normal ρ' w') :
    RW P 85 (.bl 2 (.lp (.sq (.sq (.gr true (unkG1 S)) (.cd 36 .sk (.ex 2))) (.bl 3 (.rg [.mv 37 (.t 9), .bi 38 .add S.T.int (.t 37) (.c (.int .i64 1)), .mv 9 (.t 38)]))))) Q ρ w := by
  refine RW.bl (RW.lp (fun ρ' w' => ∃ i : Nat, i ≤ posOf t.1 out ∧ (∀ s, s < 23 → s ≠ 9 → ρ' s = ρ s) ∧ ρ' 9 = .int .i64 (i : Nat) ∧ w'.heap = w.heap ∧ Below w.heap.size w w') (fun ρ' _ => posOf t.1 out + 1 - (intOf (ρ' 9)).toNat) ⟨0, Nat.zero_le _, fun _ _ _ => rfl, r9, rfl, Below.refl _ _⟩ ?_ (fun ρ1 ρ2 w1 h => by rw [h 9 (by omega)]))
  rintro ρ1 w1 ⟨i, hi, q, q9, hh, hb⟩
  have hpl := posOf_le t.1 out
  have hkp : Kp w w1 := hb.kp
  have hout1 : TagsS w1 sv out := by
    obtain ⟨ad, c, e, had, hc, hrow⟩ := hout
    refine ⟨ad, c, e, had, hc, fun j x hx => ?_⟩
    obtain ⟨g, o, cs, e1, e2, e3, ad', c', e4, e5, e6, e7⟩ := hrow j x hx
    exact ⟨g, o, cs, e1, fun k u hu => hkp _ _ (e2 k u hu), e3, ad', c', e4, e5, e6, e7.kp hkp⟩
  refine RW.sq (RW.sq (unk_g1 ok hout1 (hkp _ _ htb) (by rw [q 6 (by omega) (by omega)]; exact r6) (by rw [q 8 (by omega) (by omega)]; exact r8) q9 fun ρ2 g1 g2 => ?_))
  have hd : Below w1.heap.size w1 (World.drew1 w1) := below_drew1 w1 _
  have hb2 : Below w.heap.size w (World.drew1 w1) := hb.trans (hd.mono hb.size)
  cases hx : out[i]? with
  | none =>
    rw [hx] at g2
    refine RW.cd g2 (fun e => by cases e) (fun _ => RW.ex ?_)
    show inBlockR 2 Q (.exit 2) _ _
    simp only [inBlockR, ↓reduceIte]
    have hil : out.length ≤ i := List.getElem?_eq_none_iff.1 hx
    have : i = posOf t.1 out := by omega
    subst this
    exact hQ _ _ (fun s hs h9 => by rw [g1 s hs, q s hs h9]) (by rw [g1 9 (by omega)]; exact q9) hh hb2
  | some x =>
    rw [hx] at g2
    refine RW.cd g2 (fun e => RW.sk ?_) (fun e => RW.ex ?_)
    · have e : x.1 < t.1 := of_decide_eq_true e
      have hip : i < posOf t.1 out := by
        rcases Nat.lt_or_ge i (posOf t.1 out) with h | h
        · exact h
        · have : i = posOf t.1 out := by omega
          subst this
          exact absurd e (posOf_at hx)
      refine RW.bl (RW.rg (RL.step (MR.mv (v := .int .i64 (i : Nat)) (by show ρ2 9 = _; rw [g1 9 (by omega)]; exact q9)) (RL.step (MR.biE (v := .int .i64 ((i + 1 : Nat) : Int)) (by show some (Value.int .i64 (IntKind.i64.wrap ((i : Int) + 1))) = _; rw [wrap_i64 (by omega) (by omega)]; rfl)) (RL.step MR.mv (RL.nil ?_)))))
      refine ⟨⟨i + 1, hip, fun s hs h9 => by rw [upd_ne _ _ h9, upd_ne _ _ (by omega), upd_ne _ _ (by omega), g1 s hs, q s hs h9], rfl, hh, hb2⟩, ?_⟩
      show posOf t.1 out + 1 - ((i + 1 : Nat) : Int).toNat < posOf t.1 out + 1 - (intOf (ρ1 9)).toNat
      rw [q9]; simp only [intOf]; omega
    · have e : ¬ x.1 < t.1 := of_decide_eq_false e
      show inBlockR 2 Q (.exit 2) _ _
      simp only [inBlockR, ↓reduceIte]
      have : i = posOf t.1 out := by
        rcases Nat.lt_or_ge i (posOf t.1 out) with h | h
        · exact absurd (posOf_lt h hx) e
        · omega
      subst this
      exact hQ _ _ (fun s hs h9 => by rw [g1 s hs, q s hs h9]) (by rw [g1 9 (by omega)]; exact q9) hh hb2
theorem unk_g2 (ok : SOK P S) {sv : Value} {out : List Tg} {t : Tg} {i tb : Nat} (hout : TagsS w sv out) (htb : w.cell? ⟨tb, 0, none⟩ = some (u32V t.1)) {least : Nat} (r5 : ρ 5 = .int .u32 (least : Nat)) (r6 : ρ 6 = sv) (r8 : ρ 8 = .pointer (some ⟨tb, 0, none⟩)) (r9 : ρ 9 = .int .i64 (i : Nat))
    (hQ : ∀ ρ', (∀ s, s < 23 → ρ' s = ρ s) → ρ' 58 = .bool (decide (t.1 < least) || match out[i]? with | some x => decide (x.1 = t.1) | none => false) → Q .normal ρ' (World.drew1 w)) : RW P 85 (.gr true (unkG2 S)) Q ρ w := by
  obtain ⟨ad, c, rfl, had, hc, hrow⟩ := hout
  refine RW.knows [(5, .int .u32 (least : Nat)), (6, .slice ad out.length c), (8, .pointer (some ⟨tb, 0, none⟩)), (9, .int .i64 (i : Nat))] (by simp [r5, r6, r8, r9]) (RW.gd ok.mo (Kp w) (drew1_kp w) ?_)
  have pre : ∀ s, s < 23 → updL ρ [(5, .int .u32 (least : Nat)), (6, .slice ad out.length c), (8, .pointer (some ⟨tb, 0, none⟩)), (9, .int .i64 (i : Nat))] s = ρ s := by
    intro s hs
    simp only [updL, List.foldl]
    by_cases h9 : s = 9
    · subst h9; rw [upd_same]; exact r9.symm
    · rw [upd_ne _ _ h9]
      by_cases h8 : s = 8
      · subst h8; rw [upd_same]; exact r8.symm
      · rw [upd_ne _ _ h8]
        by_cases h6 : s = 6
        · subst h6; rw [upd_same]; exact r6.symm
        · rw [upd_ne _ _ h6]
          by_cases h5 : s = 5
          · subst h5; rw [upd_same]; exact r5.symm
          · rw [upd_ne _ _ h5]
  unfold unkG2
  refine RG.q (fun _ _ => MR.fa (b := tb) (o := 0) (off := 0) rfl (ok.tgF 0 (by omega))) (RG.q (fun w' hS => MR.ld (p := ⟨tb, 0 + 0, none⟩) rfl ok.pU32 (hS _ _ htb)) (RG.q (fun _ _ => MR.mv (v := .int .u32 (least : Nat)) rfl) (RG.q (v := .bool (decide ((t.1 : Int) < (least : Nat)))) (fun _ _ => MR.biE rfl) (RG.q (fun _ _ => MR.mv (v := .bool (decide ((t.1 : Int) < (least : Nat)))) rfl) ?_))))
  by_cases hle : t.1 < least
  · rw [decide_eq_true (show (t.1 : Int) < (least : Nat) by omega)]
    refine RG.no (d := 44) (h := RG.no (d := 45) (h := RG.no (d := 46) (h := RG.no (d := 47) (h := RG.no (d := 48) (h := RG.no (d := 49) (h := RG.no (d := 50) (h := RG.no (d := 51) (h := RG.no (d := 52) (h := RG.no (d := 53) (h := RG.no (d := 54) (h := RG.no (d := 55) (h := RG.no (d := 56) (h := RG.no (d := 57) (h := RG.q (fun _ _ => MR.pk (b := true) (v := .bool true) rfl rfl) (RG.nil fun _ => ?_)))))))))))))))
    refine hQ _ (fun s hs => (by (repeat (first | rw [upd_same] | rw [upd_ne _ _ (by omega)])) : _ = _).trans (pre s hs)) ?_
    rw [decide_eq_true hle]; rfl
  rw [decide_eq_false (show ¬ (t.1 : Int) < (least : Nat) by omega)]
  rw [decide_eq_false hle, Bool.false_or] at hQ
  refine RG.q (fun _ _ => MR.mv (v := .int .i64 (i : Nat)) rfl) (RG.q (fun _ _ => MR.mv (v := .slice ad out.length c) rfl) (RG.q (fun _ _ => MR.ln ok.tgs rfl) (RG.q (v := .bool (decide ((i : Int) < (out.length : Nat)))) (fun _ _ => MR.biE rfl) (RG.q (fun _ _ => MR.mv (v := .bool (decide ((i : Int) < (out.length : Nat)))) rfl) ?_))))
  by_cases hlt : i < out.length
  · obtain ⟨x, hx⟩ : ∃ x, out[i]? = some x := ⟨_, List.getElem?_eq_getElem hlt⟩
    obtain ⟨g, o, cs, rfl, hr, htr⟩ := hrow i x hx
    rw [decide_eq_true (show (i : Int) < (out.length : Nat) by omega)]
    have hkey := tag_key hr htr
    refine RG.q (fun _ _ => MR.mv (v := .slice (some ⟨g, o, none⟩) out.length c) rfl) (RG.q (fun _ _ => MR.mv (v := .int .i64 (i : Nat)) rfl) (RG.q (fun _ _ => MR.ia (k := .i64) ok.tgs ok.tgN rfl rfl hlt) (RG.q (fun _ _ => MR.fa rfl (ok.tgF 0 (by omega))) (RG.q (fun w' hS => MR.ld rfl ok.pU32 (hS _ _ hkey))
      (RG.q (fun _ _ => MR.fa (b := tb) (o := 0) (off := 0) rfl (ok.tgF 0 (by omega))) (RG.q (fun w' hS => MR.ld (p := ⟨tb, 0 + 0, none⟩) rfl ok.pU32 (hS _ _ htb)) (RG.q (v := .bool ((x.1 : Int) == (t.1 : Nat))) (fun _ _ => MR.biE rfl) (RG.q (fun _ _ => MR.pk (b := true) (v := .bool ((x.1 : Int) == (t.1 : Nat))) rfl rfl) (RG.q (fun _ _ => MR.pk (b := false) (v := .bool ((x.1 : Int) == (t.1 : Nat))) rfl rfl) (RG.nil fun _ => ?_))))))))))
    refine hQ _ (fun s hs => (by (repeat (first | rw [upd_same] | rw [upd_ne _ _ (by omega)])) : _ = _).trans (pre s hs)) ?_
    rw [hx]
    show Value.bool _ = _
    congr 1
    by_cases h : x.1 = t.1
    · simp [h]
    · have : ¬ (x.1 : Int) = (t.1 : Nat) := by omega
      simp [h]; exact this
  · have hx : out[i]? = none := List.getElem?_eq_none (by omega)
    rw [decide_eq_false (show ¬ (i : Int) < (out.length : Nat) by omega)]
    refine RG.no (d := 49) (by exact ⟨by decide, .inl rfl⟩) (RG.no (d := 50) (by exact ⟨by decide, .inl rfl⟩) (RG.no (d := 51) (by exact ⟨by decide, .inl rfl⟩) (RG.no (d := 52) (by exact ⟨by decide, .inl rfl⟩) (RG.no (d := 53) (by exact ⟨by decide, .inl rfl⟩) (RG.no (d := 54) (by exact ⟨by decide, .inl rfl⟩) (RG.no (d := 55) (by exact ⟨by decide, .inl rfl⟩) (RG.no (d := 56) (by exact ⟨by decide, .inl rfl⟩)
      (RG.q (fun _ _ => MR.pk (b := false) (v := .bool false) rfl rfl) (RG.q (fun _ _ => MR.pk (b := false) (v := .bool false) rfl rfl) (RG.nil fun _ => ?_))))))))))
    refine hQ _ (fun s hs => (by (repeat (first | rw [upd_same] | rw [upd_ne _ _ (by omega)])) : _ = _).trans (pre s hs)) ?_
    rw [hx]; rfl
end
end Go.Kx
namespace Go.Kx
open Go.RowKit
set_option linter.unusedSimpArgs false
set_option linter.unusedVariables false
section
variable {P : Program} {S : SN} {w w' w0 : World} {Q : Exit → (Nat → Value) → World → Prop} {ρ : Nat → Value}
theorem TagRow.keep {cs : List Value} {t : Tg} (h : TagRow w cs t) (hb : Below w.heap.size w w') : TagRow w' cs t := by
  obtain ⟨e3, ad', c', e4, e5, e6, e7⟩ := h
  exact ⟨e3, ad', c', e4, e5, e6, e7.kp hb.kp⟩
theorem TagRow.two {cs : List Value} {t : Tg} (h : TagRow w cs t) : cs.length = 2 ∧ cs.all (·.oneCell') = true := by
  obtain ⟨_, ad, c, rfl, _⟩ := h
  exact ⟨rfl, rfl⟩
theorem OutR.tags {T : List Value → Tg → Prop} (hT : ∀ cs t, T cs t → TagRow w0 cs t) {sv : Value} {out : List Tg} (h : OutR S T w0 w sv out) (hb : Below w0.heap.size w0 w) : TagsS w sv out := by
  rcases h with ⟨rfl, rfl⟩ | ⟨g, cap, cur, rfl, h1, h2, h0, h3, h4, h5, h6⟩
  · exact ⟨none, 0, rfl, .inl rfl, Nat.le_refl _, fun i t h => by simp at h⟩
  · refine ⟨_, cap, rfl, .inr (.inr ⟨g, 0, rfl⟩), h3, fun i t hi => ?_⟩
    obtain ⟨cs, a1, a2⟩ := h6 i t hi
    exact ⟨g, 0, cs, rfl, by rw [Nat.zero_add]; exact a1, (hT _ _ a2).keep hb⟩
theorem OutR.keep {T : List Value → Tg → Prop} {sv : Value} {out : List Tg} (h : OutR S T w0 w sv out) (hh : ∀ k, k < w.heap.size → w'.heap[k]? = w.heap[k]?) : OutR S T w0 w' sv out := by
  rcases h with h | ⟨g, cap, cur, rfl, h1, h2, h0, h3, h4, h5, h6⟩
  · exact .inl h
  · have hg : w'.heap[g]? = w.heap[g]? := hh g (Array.getElem?_eq_some_iff.1 h2).1
    refine .inr ⟨g, cap, cur, rfl, h1, by rw [hg]; exact h2, h0, h3, h4, h5, fun i t hi => ?_⟩
    obtain ⟨cs, a1, a2⟩ := h6 i t hi
    exact ⟨cs, range_keep a1 hg, a2⟩
theorem set_shape {g T : Nat} {fr : Nat × Nat} : ∀ (vs : List Value) (o : Nat) (w : World) (cur : Array Value), w.heap[g]? = some (.cells cur T fr) → ∃ cur', (w.setCells g o vs).heap[g]? = some (.cells cur' T fr) ∧ cur'.size = cur.size
  | [], o, w, cur, h => ⟨cur, h, rfl⟩
  | v :: vs, o, w, cur, h => by
    have h1 : (w.setCell ⟨g, o, none⟩ v).heap[g]? = some (.cells (cur.setIfInBounds o v) T fr) := by
      simp only [World.setCell]
      rw [Array.getElem?_modify, if_pos rfl, h]
      simp
    obtain ⟨cur', h2, h3⟩ := set_shape vs (o + 1) _ _ h1
    exact ⟨cur', h2, by rw [h3]; simp⟩
theorem run_bslTg (ok : SOK P S) {cs : List Value} (hl : cs.length = 2) : (Instr.buildSlice S.tgs 1 #[(0, .agg cs.toArray)]).run P w = .ok (.slice (some ⟨w.heap.size, 0, none⟩) 1 1) (w.alloc (.cells cs.toArray S.tg)) := by
  obtain ⟨i, hi, hz⟩ := ok.zTg
  have hsz : i.size = 2 := by have := ok.tgN; simp [cellsB, hi] at this; exact this
  refine run_buildSlice w S.tgs S.tg 1 _ _ i _ (sliceOf_eq ok.tgs) hi hz (by rw [hsz]; decide) (by rw [hsz]; decide) ?_
  match cs, hl with
  | [a, b], _ =>
    simp only [Instr.fill, hsz]
    rw [if_neg (by simp [Value.cells])]
    simp [Value.cells, Array.zipIdx, Array.range]
    rfl
theorem RL.rowTH {N d1 d2 d x i g o : Nat} {ms : List MOp} {n c : Nat} {cs : List Value} {t : Tg} {k : Nat} (ok : SOK P S) (hx : ρ x = .slice (some ⟨g, o, none⟩) n c) (hi : ρ i = .int .i64 (k : Nat)) (hk : k < n)
    (hr : w.rangeAt g (o + k * 2) cs) (hf : TagRow w cs t) (hd1 : d1 ≠ d2) (hd2 : d2 ≠ d)
    (h : ∀ p w', Below w.heap.size w w' → w'.heap.size = w.heap.size + 1 → w'.rangeAt w.heap.size 0 cs → (∃ ck, w'.heap[w.heap.size]? = some (.cells ck S.tg (0, 0)) ∧ ck.size = 2) → RL P N ms Q (upd (upd (upd ρ d1 p) d2 (.agg cs.toArray)) d (.pointer (some ⟨w.heap.size, 0, none⟩))) w')
    (hxN : x < N := by decide) (hiN : i < N := by decide) (h1N : d1 < N := by decide) (h2N : d2 < N := by decide) (hdN : d < N := by decide) : RL P N (.ia d1 S.tgs x i :: .ld d2 S.tg d1 :: .al d S.tg :: .st S.tg d d2 :: ms) Q ρ w := by
  obtain ⟨l1, o1⟩ := hf.two
  obtain ⟨zi, hzi, hzv⟩ := ok.zTg
  refine RL.step (MR.ia (k := .i64) ok.tgs ok.tgN hx hi hk hxN hiN) (RL.step (MR.ldRow (upd_same _ _ _) ok.tgR (by rw [l1]; exact ok.tgN) hr h1N) (RL.step (MR.al ⟨zi, hzi, hzv⟩) ?_ hdN) h2N) h1N
  have ht : (w.alloc (.cells [Value.int .u32 0, .slice none 0 0].toArray S.tg)).there w.heap.size 0 cs.length := by rw [l1]; exact there_box w [.int .u32 0, .slice none 0 0] S.tg
  refine RL.stA (cs := cs) (upd_same _ _ _) (by rw [upd_ne _ _ hd2, upd_same]) (by rw [l1]; exact ok.tgN) ht o1 ?_ hdN h2N
  refine h _ _ ?_ ?_ ?_ ?_
  · exact below_setCells (Nat.le_refl _) _ _ (below_box w _)
  · rw [size_setCells]; exact size_box w _
  · exact World.rangeAt_setCells_same _ _ _ _ ht
  · obtain ⟨ck, a1, a2⟩ := set_shape cs 0 (w.alloc (.cells [Value.int .u32 0, .slice none 0 0].toArray S.tg)) [Value.int .u32 0, .slice none 0 0].toArray (heap_alloc_new w _)
    exact ⟨ck, a1, by rw [a2]; rfl⟩
def zTagC : List Value := [.int .u32 0, .slice none 0 0]
theorem run_apTg {T : List Value → Tg → Prop} (hT : ∀ cs t, T cs t → TagRow w0 cs t) (ok : SOK P S) (hby : bytesLe P S.tg 1000 = true) {h c : Nat} {sv : Value} {out : List Tg} (ho : OutR S T w0 w sv out) (hc : w.rangeAt h 0 zTagC) (hn : out.length < 1000000) (hB : w0.heap.size ≤ w.heap.size) :
    ∃ g cap w' cur, (∀ ty, (Builtin.append_ #[S.tgs, S.tgs] ty #[sv, .slice (some ⟨h, 0, none⟩) 1 c]).run P w = .ok (.slice (some ⟨g, 0, none⟩) (out.length + 1) cap) w') ∧ w0.heap.size ≤ g ∧ w'.heap[g]? = some (.cells cur S.tg (0, 0)) ∧ out.length + 1 ≤ cap ∧ cap ≤ maxLen ∧ cur.size = cap * 2 ∧
      (∀ i t, out[i]? = some t → ∃ cs, w'.rangeAt g (i * 2) cs ∧ T cs t) ∧ Below w0.heap.size w w' ∧ w'.there g 0 ((out.length + 1) * 2) ∧ Gr w w' sv ∧ (∀ k ck, k < w.heap.size → some k ≠ sv.ownBlock → w.heap[k]? = some (.cells ck S.tg (0, 0)) → ck.size = 2 → k ≠ g) := by
  obtain ⟨i, hi, hz⟩ := ok.zTg
  have hsz : i.size = 2 := by have := ok.tgN; simp [cellsB, hi] at this; exact this
  have hbb : i.bytes ≤ 1000 := by simp [bytesLe, hi] at hby; exact hby
  have hb2 : (out.length + 1) * i.bytes ≤ 1000000 * 1000 := Nat.mul_le_mul (by omega) hbb
  obtain ⟨b0, xs, hown, hb0, hb1, hcase, hxs⟩ : ∃ b0 xs, w.ownsRow b0 S.tg 2 sv out.length xs ∧ w0.heap.size ≤ b0 ∧ b0 ≤ w.heap.size ∧ (w.heap.size ≤ b0 ∨ 1 ≤ out.length) ∧ ∀ j t, out[j]? = some t → ∃ cs, T cs t ∧ ∀ k u, cs[k]? = some u → xs[j * 2 + k]? = some u := by
    rcases ho with ⟨rfl, rfl⟩ | ⟨g, cap, cur, rfl, h1, h2, h0, h3, h4, h5, h6⟩
    · exact ⟨w.heap.size, [], World.ownsRow_nil _ _ _ _, hB, Nat.le_refl _, .inl (Nat.le_refl _), fun j t h => by simp at h⟩
    · refine ⟨w0.heap.size, cur.toList.take (out.length * 2), ⟨by rw [List.length_take, show cur.toList.length = cap * 2 from by rw [Array.length_toList]; exact h5]; omega, .inr ⟨g, cap, cur, rfl, h1, h2, h3, h4, h5, rfl⟩⟩, Nat.le_refl _, hB, .inr h0, fun j t hj => ?_⟩
      obtain ⟨cs, a1, a2⟩ := h6 j t hj
      refine ⟨cs, a2, fun k u hk => ?_⟩
      have hj' := (List.getElem?_eq_some_iff.1 hj).1
      have hk' := (List.getElem?_eq_some_iff.1 hk).1
      rw [(hT _ _ a2).two.1] at hk'
      have := a1 k u hk
      rw [cell_of_row w g (j * 2 + k) cur S.tg (0, 0) h2] at this
      rw [List.getElem?_take, if_pos (by omega)]
      simpa using this
  have hnews : ∀ j u, zTagC[j]? = some u → w.cell? ((⟨h, 0, none⟩ : Addr).add j) = some u := fun j u hu => by rw [Addr.add_mid]; exact hc j u hu
  obtain ⟨v', w', g1, g2, g3, g4⟩ := run_append_own (P := P) w b0 S.tgs 0 S.tg i _ 2 i.bytes (sliceOf_eq ok.tgs) hi hz hsz rfl rfl (by omega) sv out.length xs hown ⟨h, 0, none⟩ 1 c zTagC rfl
    hnews (by intro u hu; simp only [zTagC, List.mem_cons, List.not_mem_nil, or_false] at hu; rcases hu with rfl | rfl <;> rfl) (by simp only [maxLen]; omega) (by omega) hb1
  have hbase : ∀ k, sv.ownBlock = some k → w0.heap.size ≤ k := fun k hk => Nat.le_trans hb0 (World.ownsRow.lt hown k hk).1
  rcases g2.2 with ⟨_, h0⟩ | ⟨g, cap, cur, rfl, e1, e2, e3, e4, e5, e6⟩
  · omega
  refine ⟨g, cap, w', cur, fun ty => g1, Nat.le_trans hb0 e1, e2, e3, e4, e5, fun j t hj => ?_, (Below.refl _ _).grown g3 hB hbase, cells_there e2 (by rw [e5]; exact Nat.mul_le_mul_right _ e3), fun k hk hne => g3.block k hk hne, fun k ck hk hne hck h2 => ?_⟩
  rotate_left
  · rintro rfl
    rcases hcase with h | h
    · omega
    · have := g3.block k hk hne
      rw [e2, hck] at this
      simp only [Option.some.injEq, Obj.cells.injEq, and_true] at this
      rw [this, h2] at e5
      omega
  obtain ⟨cs, a1, a2⟩ := hxs j t hj
  refine ⟨cs, fun k u hk => ?_, a1⟩
  have hx := a2 k u hk
  have hxl := (List.getElem?_eq_some_iff.1 hx).1
  rw [cell_of_row w' g (j * 2 + k) cur S.tg (0, 0) e2]
  have e7 : (cur.toList.take ((out.length + 1) * 2))[j * 2 + k]? = some u := by rw [e6, List.getElem?_append_left hxl]; exact hx
  rw [List.getElem?_take] at e7
  split at e7
  · simpa using e7
  · simp at e7
theorem unk_put {T : List Value → Tg → Prop} (hT : ∀ cs t, T cs t → TagRow w0 cs t) (ok : SOK P S) {g cap i tb : Nat} {cur : Array Value} {cst : List Value} {out : List Tg} {t : Tg} (hi : i ≤ out.length) (hlen : out.length < 1000000) (hg : w0.heap.size ≤ g) (hsh : w.heap[g]? = some (.cells cur S.tg (0, 0))) (hcap : out.length + 1 ≤ cap) (hcm : cap ≤ maxLen) (hcs : cur.size = cap * 2)
    (hrows : ∀ i t, out[i]? = some t → ∃ cs, w.rangeAt g (i * 2) cs ∧ T cs t) (hth : w.there g 0 ((out.length + 1) * 2)) (htb : w.rangeAt tb 0 cst) (htr : T cst t) (hne : tb ≠ g) (hB : Below w0.heap.size w0 w)
    (r6 : ρ 6 = .slice (some ⟨g, 0, none⟩) (out.length + 1) cap) (r8 : ρ 8 = .pointer (some ⟨tb, 0, none⟩)) (r9 : ρ 9 = .int .i64 (i : Nat))
    (hQ : ∀ ρ' w', (∀ s, s < 23 → s ≠ 10 → ρ' s = ρ s) → OutR S T w0 w' (.slice (some ⟨g, 0, none⟩) (out.length + 1) cap) (out.take i ++ t :: out.drop i) → Below w0.heap.size w0 w' → Q .normal ρ' w') :
    RW P 85 (.sq (.sq (.rg [.mv 63 (.t 6), .ln 64 S.tgs 63, .bi 65 .sub S.T.int (.t 64) (.c (.int .i64 (1))), .mv 10 (.t 65)])
      (.bl 4 (.lp (.sq (.sq (.rg [.mv 66 (.t 10), .mv 67 (.t 9), .bi 68 .gtr S.T.int (.t 66) (.t 67)]) (.cd 68 (.sk) (.ex 4)))
        (.sq (.bl 5 (.rg [.mv 71 (.t 6), .mv 72 (.t 10), .mv 73 (.t 6), .mv 74 (.t 10), .bi 75 .sub S.T.int (.t 74) (.c (.int .i64 (1))), .ia 76 S.tgs 73 75, .ld 77 S.tg 76, .ia 78 S.tgs 71 72, .st S.tg 78 77]))
          (.rg [.mv 69 (.t 10), .bi 70 .sub S.T.int (.t 69) (.c (.int .i64 (1))), .mv 10 (.t 70)]))))))
      (.rg [.mv 79 (.t 6), .mv 80 (.t 9), .ld 81 S.tg 8, .ia 82 S.tgs 79 80, .st S.tg 82 81])) Q ρ w := by
  have hex : ∀ k, ∃ cs, ∀ x, out[k]? = some x → w.rangeAt g (k * 2) cs ∧ T cs x := fun k => by
    cases hk : out[k]? with
    | none => exact ⟨[], by simp⟩
    | some x =>
      obtain ⟨cs, h⟩ := hrows k x hk
      exact ⟨cs, fun y hy => by cases hy; exact h⟩
  obtain ⟨C, hC⟩ : ∃ C : Nat → List Value, ∀ k x, out[k]? = some x → w.rangeAt g (k * 2) (C k) ∧ T (C k) x := ⟨fun k => (hex k).choose, fun k x hx => (hex k).choose_spec x hx⟩
  have hrow : ∀ k, k < out.length → ∃ x, out[k]? = some x ∧ w.rangeAt g (k * 2) (C k) ∧ T (C k) x := fun k hk => ⟨_, List.getElem?_eq_getElem hk, hC k _ (List.getElem?_eq_getElem hk)⟩
  refine RW.sq (RW.sq (RW.rg (RL.step (MR.mv r6) (RL.step (MR.ln ok.tgs rfl) (RL.step (MR.biE (v := .int .i64 (out.length : Nat)) (by show some (Value.int .i64 (IntKind.i64.wrap (((out.length + 1 : Nat) : Int) - 1))) = _; rw [show (((out.length + 1 : Nat) : Int) - 1) = (out.length : Nat) from by omega, wrap_i64 (by omega) (by omega)])) (RL.step MR.mv (RL.nil (RW.bl ?_))))))))
  refine RW.lp (fun ρ' w' => ∃ j : Nat, i ≤ j ∧ j ≤ out.length ∧ (∀ s, s < 23 → s ≠ 10 → ρ' s = ρ s) ∧ ρ' 10 = .int .i64 (j : Nat) ∧ Fr (fun _ => False) g 0 ((out.length + 1) * 2) w w' ∧ (∃ cur', w'.heap[g]? = some (.cells cur' S.tg (0, 0)) ∧ cur'.size = cap * 2) ∧
      (∀ k, k < j → k < out.length → w'.rangeAt g (k * 2) (C k)) ∧ (∀ k, j ≤ k → k < out.length → w'.rangeAt g ((k + 1) * 2) (C k)))
    (fun ρ' _ => (intOf (ρ' 10)).toNat) ⟨out.length, hi, Nat.le_refl _, fun s hs h10 => by (repeat (first | rw [upd_same] | rw [upd_ne _ _ (by omega)])), rfl, Fr.refl _ _ _ _ _, ⟨cur, hsh, hcs⟩, fun k _ hk => (hrow k hk).elim fun x hx => hx.2.1, fun k h1 h2 => by omega⟩ ?_ (fun ρ1 ρ2 w1 h => by rw [h 10 (by omega)])
  rintro ρ1 w1 ⟨j, hij, hjn, q, q10, hF, ⟨cur1, hs1, hs2⟩, hlo, hhi⟩
  have q6 : ρ1 6 = .slice (some ⟨g, 0, none⟩) (out.length + 1) cap := by rw [q 6 (by omega) (by omega)]; exact r6
  have q8 : ρ1 8 = .pointer (some ⟨tb, 0, none⟩) := by rw [q 8 (by omega) (by omega)]; exact r8
  have q9 : ρ1 9 = .int .i64 (i : Nat) := by rw [q 9 (by omega) (by omega)]; exact r9
  have hth1 : w1.there g 0 ((out.length + 1) * 2) := hF.there _ _ hth
  refine RW.sq (RW.sq (RW.rg (RL.step (MR.mv q10) (RL.step (MR.mv (v := .int .i64 (i : Nat)) (by show upd _ _ _ 9 = _; (repeat (first | rw [upd_same] | rw [upd_ne _ _ (by omega)])); exact q9)) (RL.step (MR.biE (v := .bool (decide ((i : Int) < (j : Nat)))) rfl) (RL.nil ?_))))))
  refine RW.cd rfl (fun e => RW.sk ?_) (fun e => RW.ex ?_)
  · have e : i < j := by have := of_decide_eq_true e; omega
    obtain ⟨j, rfl⟩ : ∃ k, j = k + 1 := ⟨j - 1, by omega⟩
    obtain ⟨x, hx1, hx2, hx3⟩ := hrow j (by omega)
    have hrj := hlo j (by omega) (by omega)
    have l2 := (hT _ _ hx3).two
    have htj : w1.there g (0 + (j + 1) * 2) 2 := there_in hth1 (by omega)
    show RW P 85 _ _ _ w1
    refine RW.sq (RW.bl (RW.rg (RL.step (MR.mv (v := .slice (some ⟨g, 0, none⟩) (out.length + 1) cap) (by show upd _ _ _ 6 = _; (repeat (first | rw [upd_same] | rw [upd_ne _ _ (by omega)])); exact q6)) (RL.step (MR.mv (v := .int .i64 ((j + 1 : Nat) : Int)) (by show upd _ _ _ 10 = _; (repeat (first | rw [upd_same] | rw [upd_ne _ _ (by omega)])); exact q10)) (RL.step (MR.mv (v := .slice (some ⟨g, 0, none⟩) (out.length + 1) cap) (by show upd _ _ _ 6 = _; (repeat (first | rw [upd_same] | rw [upd_ne _ _ (by omega)])); exact q6)) (RL.step (MR.mv (v := .int .i64 ((j + 1 : Nat) : Int)) (by show upd _ _ _ 10 = _; (repeat (first | rw [upd_same] | rw [upd_ne _ _ (by omega)])); exact q10))
      (RL.step (MR.biE (v := .int .i64 (j : Nat)) (by show some (Value.int .i64 (IntKind.i64.wrap (((j + 1 : Nat) : Int) - 1))) = _; rw [show (((j + 1 : Nat) : Int) - 1) = (j : Nat) from by omega, wrap_i64 (by omega) (by omega)])) (RL.step (MR.ia (k := .i64) ok.tgs ok.tgN rfl rfl (show j < out.length + 1 by omega))
        (RL.step (MR.ldRow (cs := C j) rfl ok.tgR (by rw [l2.1]; exact ok.tgN) (by rw [Nat.zero_add]; exact hrj)) (RL.step (MR.ia (k := .i64) (j := j + 1) ok.tgs ok.tgN rfl rfl (show j + 1 < out.length + 1 by omega)) (RL.stA (cs := C j) (b := g) (o := 0 + (j + 1) * 2) rfl rfl (by rw [l2.1]; exact ok.tgN) (by rw [l2.1]; exact htj) l2.2 (RL.nil ?_))))))))))))
    have F2 : Fr (fun _ => False) g 0 ((out.length + 1) * 2) w1 (w1.setCells g (0 + (j + 1) * 2) (C j)) := Fr.put _ (by omega) (by rw [l2.1]; omega)
    have F2' : Fr (fun _ => False) g ((j + 1) * 2) 2 w1 (w1.setCells g (0 + (j + 1) * 2) (C j)) := Fr.put _ (by omega) (by rw [l2.1]; omega)
    obtain ⟨cur2, s1, s2⟩ := set_shape (C j) (0 + (j + 1) * 2) w1 cur1 hs1
    have keepRow : ∀ k cs, cs.length = 2 → k ≠ j + 1 → w1.rangeAt g (k * 2) cs → (w1.setCells g (0 + (j + 1) * 2) (C j)).rangeAt g (k * 2) cs := fun k cs hl hk hr m u hu => by
      have hm := (List.getElem?_eq_some_iff.1 hu).1
      rw [F2'.cell _ (by omega)]; exact hr m u hu
    refine RW.rg (RL.step (MR.mv (v := .int .i64 ((j + 1 : Nat) : Int)) (by show upd _ _ _ 10 = _; (repeat (first | rw [upd_same] | rw [upd_ne _ _ (by omega)])); exact q10)) (RL.step (MR.biE (v := .int .i64 (j : Nat)) (by show some (Value.int .i64 (IntKind.i64.wrap (((j + 1 : Nat) : Int) - 1))) = _; rw [show (((j + 1 : Nat) : Int) - 1) = (j : Nat) from by omega, wrap_i64 (by omega) (by omega)])) (RL.step MR.mv (RL.nil ?_))))
    refine ⟨⟨j, by omega, by omega, fun s hs h10 => by rw [upd_ne _ _ h10]; (repeat (first | rw [upd_same] | rw [upd_ne _ _ (by omega)])); exact q s hs h10, rfl, hF.trans F2, ⟨cur2, s1, by rw [s2, hs2]⟩, fun k h1 h2 => ?_, fun k h1 h2 => ?_⟩, ?_⟩
    · obtain ⟨y, _, _, hy⟩ := hrow k h2
      exact keepRow k _ (hT _ _ hy).two.1 (by omega) (hlo k (by omega) h2)
    · by_cases hk : k = j
      · subst hk
        have := World.rangeAt_setCells_same w1 g (0 + (k + 1) * 2) (C k) (by rw [l2.1]; exact htj)
        rwa [Nat.zero_add] at this ⊢
      · obtain ⟨y, _, _, hy⟩ := hrow k h2
        exact keepRow (k + 1) _ (hT _ _ hy).two.1 (by omega) (hhi k (by omega) h2)
    · show ((j : Nat) : Int).toNat < (intOf (ρ1 10)).toNat
      rw [q10]; simp only [intOf]; omega
  · have e : j = i := by have := of_decide_eq_false e; omega
    subst e
    have l2 := (hT _ _ htr).two
    have htb1 : w1.rangeAt tb 0 cst := range_keep htb (hF.block tb (by
      obtain ⟨_, ad, c, hc, _⟩ := hT _ _ htr
      exact World.block_lt_of_cell? w _ (htb 0 _ (by rw [hc]; rfl))) hne (fun x => x))
    have hti : w1.there g (0 + j * 2) 2 := there_in hth1 (by omega)
    show inBlockR 4 (thenR (fun ρ w => RW P 85 (.rg [.mv 79 (.t 6), .mv 80 (.t 9), .ld 81 S.tg 8, .ia 82 S.tgs 79 80, .st S.tg 82 81]) Q ρ w) Q) (.exit 4) _ w1
    simp only [inBlockR, ↓reduceIte]
    show RW P 85 _ _ _ w1
    refine RW.rg (RL.step (MR.mv (v := .slice (some ⟨g, 0, none⟩) (out.length + 1) cap) (by show upd _ _ _ 6 = _; (repeat (first | rw [upd_same] | rw [upd_ne _ _ (by omega)])); exact q6)) (RL.step (MR.mv (v := .int .i64 (j : Nat)) (by show upd _ _ _ 9 = _; (repeat (first | rw [upd_same] | rw [upd_ne _ _ (by omega)])); exact q9)) (RL.step (MR.ldRow (b := tb) (o := 0) (cs := cst) (by (repeat (first | rw [upd_same] | rw [upd_ne _ _ (by omega)])); exact q8) ok.tgR (by rw [l2.1]; exact ok.tgN) htb1)
      (RL.step (MR.ia (k := .i64) ok.tgs ok.tgN rfl rfl (show j < out.length + 1 by omega)) (RL.stA (cs := cst) (b := g) (o := 0 + j * 2) rfl rfl (by rw [l2.1]; exact ok.tgN) (by rw [l2.1]; exact hti) l2.2 (RL.nil ?_))))))
    have F2 : Fr (fun _ => False) g 0 ((out.length + 1) * 2) w1 (w1.setCells g (0 + j * 2) cst) := Fr.put _ (by omega) (by rw [l2.1]; omega)
    have F2' : Fr (fun _ => False) g (j * 2) 2 w1 (w1.setCells g (0 + j * 2) cst) := Fr.put _ (by omega) (by rw [l2.1]; omega)
    obtain ⟨cur2, s1, s2⟩ := set_shape cst (0 + j * 2) w1 cur1 hs1
    have keepRow : ∀ k cs, cs.length = 2 → k ≠ j → w1.rangeAt g (k * 2) cs → (w1.setCells g (0 + j * 2) cst).rangeAt g (k * 2) cs := fun k cs hl hk hr m u hu => by
      have hm := (List.getElem?_eq_some_iff.1 hu).1
      rw [F2'.cell _ (by omega)]; exact hr m u hu
    have hlen' : (out.take j ++ t :: out.drop j).length = out.length + 1 := by simp; omega
    refine hQ _ _ (fun s hs h10 => by (repeat (first | rw [upd_same] | rw [upd_ne _ _ (by omega)])); exact q s hs h10) (.inr ⟨g, cap, cur2, by rw [hlen'], hg, s1, by omega, by omega, hcm, by rw [s2, hs2], fun k x hx => ?_⟩) (hB.trans ((hF.trans F2).below hg (fun _ h => h.elim) hB.size))
    rcases Nat.lt_trichotomy k j with hk | hk | hk
    · rw [List.getElem?_append_left (by rw [List.length_take]; omega), List.getElem?_take, if_pos hk] at hx
      obtain ⟨h1, h2⟩ := hC k x hx
      exact ⟨C k, keepRow k _ (hT _ _ h2).two.1 (by omega) (hlo k hk (List.getElem?_eq_some_iff.1 hx).1), h2⟩
    · subst hk
      rw [List.getElem?_append_right (by rw [List.length_take]; omega), List.length_take, Nat.min_eq_left hi, Nat.sub_self] at hx
      simp only [List.getElem?_cons_zero, Option.some.injEq] at hx
      subst hx
      refine ⟨cst, ?_, htr⟩
      have := World.rangeAt_setCells_same w1 g (0 + k * 2) cst (by rw [l2.1]; exact hti)
      rwa [Nat.zero_add] at this ⊢
    · obtain ⟨k, rfl⟩ : ∃ m, k = m + 1 := ⟨k - 1, by omega⟩
      rw [List.getElem?_append_right (by rw [List.length_take]; omega), List.length_take, Nat.min_eq_left hi, show k + 1 - j = (k - j) + 1 from by omega, List.getElem?_cons_succ, List.getElem?_drop, show j + (k - j) = k from by omega] at hx
      obtain ⟨h1, h2⟩ := hC k x hx
      exact ⟨C k, keepRow (k + 1) _ (hT _ _ h2).two.1 (by omega) (hhi k (by omega) (List.getElem?_eq_some_iff.1 hx).1), h2⟩
end
end Go.Kx
