/- The struct of two numbers that is told as a tag, read. Conditions: the reader's contracts (RKOK), the plan's tests (Qq, s2RB).
   The tags of a part are read, its tagged field (a struct of two numbers) among them. Conditions: the reader's contracts (RKOK), the plan's tests (wfRF, tagE).
   readFrom's fields in a row; lists of structs. Conditions: the reader's contracts (RKOK), the plan's tests (wfRF), the default's cells (ZF).
   The tags of a message are read, a list told as a tag among them: the octets tell it at most once. Conditions: the reader's contracts (RKOK), the plan's tests (wfRF, tagTopB).
   readFrom, whole. Conditions: the reader's contracts (RKOK), the plan's tests, Default's contract (DefD).
   readFrom, whole: its contract (RFC) by tests (rfB). Conditions: the reader's contracts (RKOK).
   Rules: a range over a map (the iterator anywhere), calls of closures, an append to nil. No condition on the program beyond those that a rule names. -/
import Derived.Test.YtnodcmiaipbjiaaGreatDoorKxJ
namespace Go.Kx
open Go.RowKit
set_option linter.unusedSimpArgs false
set_option linter.unusedVariables false
section
variable {P : Program} {N : Nat} {Q : UE} {ρ : Nat → Value} {w w' : World} {ms : List MOp} {d : Nat} {R : RN} {G : TG} {rb sb h b o n : Nat} {ev : Value} {st st' : Option (List UInt8)} {sf : Option Nat} {flex : Bool} {ver : Int}
theorem s2RB_eq {ty : Ty} (h : s2RB ty = true) : ∃ T fDef i i1 d1 t1 i2 d2 t2, ty = .struct T 3 fDef (some ((i, []), 2)) (.cons .always i1 0 d1 (.prim .i32 t1) (.cons .always i2 1 d2 (.prim .i32 t2) .nil)) := by
 unfold s2RB at h
 split at h
 ·rename_i T n fDef q fs
  simp only [UA, Nat.beq_eq] at h
  obtain ⟨⟨⟨h1, h2⟩, h3⟩, h4⟩ := h
  obtain ⟨⟨i, kn⟩, m⟩ := q
  have hk : kn = [] := by cases kn with
   | nil => rfl
   | cons a r => simp at h3
  simp only at h2
  subst h1 h2 hk
  unfold s2RF at h4
  split at h4
  ·rename_i i1 o1 d1 t1 i2 o2 d2 t2
   simp only [UA, Nat.beq_eq] at h4
   obtain ⟨h5, h6⟩ := h4
   subst h5 h6
   exact ⟨_, _, _, _, _, _, _, _, _, rfl⟩
  ·cases h4
 ·cases h
theorem s2R_ok {ty : Ty} {T vs idx off t x bk L s : Nat} (kk : RKOK P R G) (hty : s2RB ty = true) (hwf : Qq P R G sf ty = true) (hF : Jd P T idx off = true) (hh : FH P R rb sb h b o n ev st w) (cx : RC0 R.rs sf flex ver rb ρ) (hv : ρ vs = .pointer (some ⟨b, o, none⟩)) (hrs7 : R.rs < x) (hx9 : 9 ≤ x) (hsf : sf = some s) (hfl : flex = true) (hsx : s < x) (hvx : vs < x)
  (hxL : (JQ R G sf ty T vs idx t x bk).2.2.1 ≤ L) (hL : L ≤ t) (hN : (JQ R G sf ty T vs idx t x bk).2.1 ≤ N) (hoff : off + ty.cells ≤ n) (hus : ∃ us, w.rangeAt b (o + off) us ∧ us.length = ty.cells) {rest : List Jc}
  (hQ : ∀ ρ' w' d st' us, (∀ s, s < x → ρ' s = ρ s) → Fr (· = rb) b (o + off) ty.cells w w' → Got (dec ver flex ty) st d st' → RdAt w' rb sb st' → w'.rangeAt b (o + off) us → us.length = ty.cells → Rep w' (FB sb h w') ty us d → RWL P N rest Q ρ' w') : RWL P N ((JQ R G sf ty T vs idx t x bk).1 ++ rest) Q ρ w := by
 obtain ⟨T', fDef, i, i1, d1, t1, i2, d2, t2, rfl⟩ := s2RB_eq hty
 simp only [Qq, wfRF, UA, Nat.ble_eq] at hwf
 obtain ⟨hsub, _, ⟨⟨_, hF1⟩, ⟨hk1, hc1⟩, hu1⟩, ⟨⟨_, hF2⟩, ⟨hk2, hc2⟩, hu2⟩, _⟩ := hwf
 unfold subB at hsub
 simp only [UA, Nat.beq_eq, Nat.ble_eq] at hsub
 obtain ⟨⟨⟨⟨⟨s1, s2⟩, s3⟩, s4⟩, s5⟩, s6⟩ := hsub
 have hnil : Qd T' (.cons .always i1 0 d1 (.prim .i32 t1) (.cons .always i2 1 d2 (.prim .i32 t2) .nil)) = .nil := by
  cases hd : Qd T' (.cons .always i1 0 d1 (.prim .i32 t1) (.cons .always i2 1 d2 (.prim .i32 t2) .nil)) with
  | nil => rfl
  | cons a r => rw [hd] at s1; simp [Dfs.isNil] at s1
 have hdef : DefD P fDef 3 (Qd T' (.cons .always i1 0 d1 (.prim .i32 t1) (.cons .always i2 1 d2 (.prim .i32 t2) .nil))) := defD_of (Qz.of s2) s3 s4
 obtain ⟨us, hrz, hlz⟩ := hus
 have hcl : (Ty.struct T' 3 fDef (some ((i, []), 2)) (.cons .always i1 0 d1 (.prim .i32 t1) (.cons .always i2 1 d2 (.prim .i32 t2) .nil))).cells = 3 := rfl
 rw [hcl] at hoff hlz
 have l1 := @primU_le R sf T' (x + 1) i1 (x + 2) (t + 6) .i32 t1
 have l2 := @primU_le R sf T' (x + 1) i2 (x + 3) (primU R sf T' (x + 1) i1 .i32 t1 (t + 6) (x + 2)).2 .i32 t2
 have l3 := @tagsR_le R G sf T' (x + 1) (primU R sf T' (x + 1) i2 .i32 t2 (primU R sf T' (x + 1) i1 .i32 t1 (t + 6) (x + 2)).2 (x + 3)).2 (x + 4) bk (some ((i, []), 2))
 have e : JQ R G sf (.struct T' 3 fDef (some ((i, []), 2)) (.cons .always i1 0 d1 (.prim .i32 t1) (.cons .always i2 1 d2 (.prim .i32 t2) .nil))) T vs idx t x bk =
   (subH T vs idx fDef t x ++ ([(primU R sf T' (x + 1) i1 .i32 t1 (t + 6) (x + 2)).1, (primU R sf T' (x + 1) i2 .i32 t2 (primU R sf T' (x + 1) i1 .i32 t1 (t + 6) (x + 2)).2 (x + 3)).1] ++
    (QN R G sf T' (x + 1) (some ((i, []), 2)) (primU R sf T' (x + 1) i2 .i32 t2 (primU R sf T' (x + 1) i1 .i32 t1 (t + 6) (x + 2)).2 (x + 3)).2 (x + 4) bk).1), (QN R G sf T' (x + 1) (some ((i, []), 2)) (primU R sf T' (x + 1) i2 .i32 t2 (primU R sf T' (x + 1) i1 .i32 t1 (t + 6) (x + 2)).2 (x + 3)).2 (x + 4) bk).2) := by
  simp [JQ, Jv, condR, JN, Cnd.isTag]
 rw [e] at hxL hN ⊢
 simp only at hxL hN ⊢
 generalize ha1 : primU R sf T' (x + 1) i1 .i32 t1 (t + 6) (x + 2) = a1 at l1 l2 l3 hxL hN ⊢
 generalize ha2 : primU R sf T' (x + 1) i2 .i32 t2 a1.2 (x + 3) = a2 at l2 l3 hxL hN ⊢
 have hbw : b < w.heap.size := Nat.lt_of_le_of_lt hh.hb hh.hw
 have hth : w.there b (o + off) 3 := JG hh.th hoff
 unfold subH
 simp only [List.cons_append, List.nil_append]
 refine RW.rg (RL.s (MR.mv hv (ltT (by omega))) (RL.s (MR.nc (p := ⟨b, o, none⟩) (Ja _ _ _) (by omega)) (RL.s (MR.fa (Ja _ _ _) hF (by omega)) (RL.s (MR.mv (v := .pointer (some ⟨b, o + off, none⟩)) (Ja _ _ _) (ltT (by omega))) (RL.nil ?_) (by omega)) (by omega)) (by omega)) (by omega))
 refine RW.rg (RL.s (MR.mv (v := .pointer (some ⟨b, o + off, none⟩)) (Ja _ _ _) (ltT (by omega))) (RL.ca (R := fun _ w' => w'.rangeAt b (o + off) us ∧ Fr (fun _ => False) b (o + off) 3 w w') hdef.1 ?_ ?_ (by omega) (by simp [MX.lt, Nat.blt_eq]; omega)) (by omega))
 ·simp only [List.map_cons, List.map_nil, xof]
  rw [Ja]
  refine Calls.mono (hdef.2 w b (o + off) us hrz hth hlz) ?_
  rintro e w' ⟨rfl, g1, g2⟩
  refine ⟨_, rfl, ?_, g2⟩
  rw [hnil] at g1
  exact g1
 rintro v1 w2 ⟨hr2, F2⟩
 refine RL.nil ?_
 have F2' : Fr (· = rb) b (o + off) 3 w w2 := F2.wide (fun _ h => h.elim) (Nat.le_refl _) (Nat.le_refl _)
 have hrd2 : RdAt w2 rb sb st := hh.rd.keep (F2.block rb hh.rd.lt (fun e => hh.rbb e.symm) (fun x => x)) (F2.block sb hh.hs hh.nb (fun x => x))
 have hh2 := hh.keep F2' hrd2
 refine RW.rg (RL.s (MR.mv (v := .pointer (some ⟨b, o + off, none⟩)) (by show upd _ _ _ x = _; (repeat first | rw [Ja] | rw [Jb _ _ (by omega)])) (ltT (by omega))) (RL.s (MR.mv (Ja _ _ _) (ltT (by omega))) (RL.nil ?_) (by omega)) (by omega))
 generalize hρ2 : upd (upd _ (t + 5) _) (x + 1) _ = ρ2
 have q2 : ∀ s, s < x → ρ2 s = ρ s := fun s hs => by rw [← hρ2]; (repeat first | rw [Ja] | rw [Jb _ _ (by omega)])
 have cx2 : RCx R.rs sf flex ver rb (x + 1) b (o + off) ρ2 := ⟨by rw [q2 R.rs (by omega)]; exact cx.r7, by rw [q2 2 (by omega)]; exact cx.r2, by rw [q2 8 (by omega)]; exact cx.r8, fun s' e' => by rw [q2 s' (by rw [hsf] at e'; cases e'; exact hsx)]; exact cx.rf s' e', cx.nf, by rw [← hρ2]; (repeat first | rw [Ja] | rw [Jb _ _ (by omega)]), by omega⟩
 have hs2 : ∀ k, s < x + 2 + k := fun k => by omega
 have hth2 : w2.there b (o + off) 3 := F2.there _ _ hth
 have hhE : FH P R rb sb h b (o + off) 2 ev st w2 :=
  ⟨hh2.rd, hh2.ne, hh2.nb, hh2.rbb, hh2.hb, hh2.hr, hh2.hw, hh2.hs, JG (k := 0) hth2 (by omega), hh2.er, hh2.ev, hh2.gb, hh2.gr⟩
 show RW P N a1.1 _ ρ2 w2
 rw [← ha1]
 refine primU_ok (L := L) kk hk1 hu1 hF1 hc1 hhE cx2 (by omega) (fun s' e' => by rw [hsf] at e'; cases e'; omega) (by omega) (by omega) (by omega) (by rw [ha1]; omega) (by show (0 : Nat) + 1 ≤ 2; omega) ?_
 intro ρ3 w3 e1 st3 us1 k1 k2 k3 k4 k5 k6 k7
 show RW P N a2.1 _ ρ3 w3
 have hh3 := hhE.keep k2 k4
 have cx3 := cx2.keep k1 (by omega) (fun s' e' => by rw [hsf] at e'; cases e'; omega) (by omega)
 rw [← ha2]
 refine primU_ok (L := L) kk hk2 hu2 hF2 hc2 hh3 cx3 (by omega) (fun s' e' => by rw [hsf] at e'; cases e'; omega) (by omega) (by omega) (by omega) (by rw [ha2]; omega) (by show (1 : Nat) + 1 ≤ 2; omega) ?_
 intro ρ4 w4 e2 st4 us2 j1 j2 j3 j4 j5 j6 j7
 rw [ha2]
 show RWL P N ((QN R G sf T' (x + 1) (some ((i, []), 2)) a2.2 (x + 4) bk).1 ++ rest) Q ρ4 w4
 have hcI : PK.i32.cells = 1 := rfl
 rw [hcI] at k2 k6 j2 j6
 have hh4 := hh3.keep j2 j4
 have cx4 := cx3.keep j1 (by omega) (fun s' e' => by rw [hsf] at e'; cases e'; omega) (by omega)
 obtain ⟨u1, hu1e⟩ : ∃ v, us1 = [v] := by match us1, k6 with | [v], _ => exact ⟨v, rfl⟩
 obtain ⟨u2, hu2e⟩ : ∃ v, us2 = [v] := by match us2, j6 with | [v], _ => exact ⟨v, rfl⟩
 subst hu1e hu2e
 have W3 : Fr (· = rb) b (o + off) 3 w2 w3 := k2.wide (fun _ h => h) (by omega) (by omega)
 have W4 : Fr (· = rb) b (o + off) 3 w3 w4 := j2.wide (fun _ h => h) (by omega) (by omega)
 have hr4 : w4.rangeAt b (o + off) [u1, u2] := by
  intro j v hj
  have hj2 := (List.getElem?_eq_some_iff.1 hj).1
  simp only [List.length_cons, List.length_nil] at hj2
  match j, hj2 with
  | 0, _ =>
   rw [j2.cell (o + off + 0) (.inl (by omega))]
   have := k5 0 v hj
   exact this
  | 1, _ => exact j5 0 v hj
 have cxx : x + 4 ≤ L := by omega
 refine RWL.tags0 (x := x + 4) (L := L) (m := 2) (s := s) kk hh4 (W4.there _ _ (W3.there _ _ hth2)) cx4 (by omega) hsf hfl (by omega) (by omega) (by omega) (by omega) ?_ ?_ ?_ hr4 rfl ?_
 ·subst hsf
  simp only [QN] at hN
  omega
 ·exact s6.1.1.2
 ·exact ne0 s6.2
 intro ρ5 w5 tags st5 m' g1 g2 g3 g4 g5 g6
 refine hQ ρ5 w5 (.r [e1, e2] tags) st5 _ (fun s' hs' => by rw [g1 s' (by omega), j1 s' (by omega), k1 s' (by omega), q2 s' hs']) (F2'.trans (W3.trans (W4.trans g2))) ?_ g4 g5 rfl ?_
 ·unfold dec
  have hD : Got (decF ver flex (.cons .always i1 0 d1 (.prim .i32 t1) (.cons .always i2 1 d2 (.prim .i32 t2) .nil))) st [e1, e2] st4 := by
   unfold decF
   simp only [Cnd.ok, if_true]
   refine Got.bind (x := e1) (by unfold dec; exact k3) (Got.map (f := fun ds => e1 :: ds) ?_)
   unfold decF
   simp only [Cnd.ok, if_true]
   refine Got.bind (x := e2) (by unfold dec; exact j3) (Got.map (f := fun ds => e2 :: ds) ?_)
   unfold decF
   exact Got.pure _
  refine hD.bind ?_
  rw [hfl]
  simp only [Option.isSome_some, Bool.and_self, if_true]
  rw [tagD_no ver true (fs := .cons .always i1 0 d1 (.prim .i32 t1) (.cons .always i2 1 d2 (.prim .i32 t2) .nil)) rfl]
  refine Got.map (f := fun p : List D × List (Nat × List UInt8) => D.r p.1 p.2) (x := ([e1, e2], tags)) ?_
  show Got ((dTagsK []).map _) st4 _ st5
  rw [dTagsK_nil]
  exact g3.map (f := fun ts => ([e1, e2], ts))
 ·unfold Rep
  refine ⟨[e1, e2], tags, rfl, rfl, ?_, m', [], tags, rfl, g6, rfl, rfl, by intro t _ q hq; simp at hq⟩
  unfold RepF
  refine ⟨by show (0 : Nat) + 1 ≤ 3; omega, e1, [e2], rfl, ?_, ?_⟩
  ·unfold Rep
   show RepP w5 _ .i32 [u1] e1
   simp only [RepP] at k7 ⊢; exact k7
  ·unfold RepF
   refine ⟨by show (1 : Nat) + 1 ≤ 3; omega, e2, [], rfl, ?_, by unfold RepF; rfl⟩
   unfold Rep
   show RepP w5 _ .i32 [u2] e2
   simp only [RepP] at j7 ⊢; exact j7
end
section
variable {P : Program} {N : Nat} {Q : UE} {ρ : Nat → Value} {w w' : World} {ms : List MOp} {d : Nat} {R : RN} {G : TG} {rb sb h b o n : Nat} {ev : Value} {st st' : Option (List UInt8)} {sf : Option Nat} {flex : Bool} {ver : Int}
theorem RKOK.slot (kk : RKOK P R G) (y : Nat) : RKOK P { R with rs := y } G := by
 obtain ⟨ok, tg, fn, al, cal, okf, compl, tag, uv, span, set⟩ := kk
 exact ⟨⟨ok.tk, ok.mo, ok.f0, ok.f1, ok.ps, ok.pb, ok.pu, ok.cs, ok.cb, ok.cu, ok.be, ok.bn, ok.pe⟩, tg, fn, al, cal, okf, compl, tag, uv, span, set⟩
mutual
theorem wfRFld_rs {y : Nat} : ∀ ty, Qq P { R with rs := y } G sf ty = Qq P R G sf ty
 | .prim k ty => by unfold Qq; rfl
 | .arr _ ty ety el => by unfold Qq; rw [wfEl_rs el]; rfl
 | .enum _ _ _ => by unfold Qq; rfl
 | .vstr _ _ _ => by unfold Qq; rfl
 | .struct T n fDef tg fs => by unfold Qq; rw [wfRF_rs fs]; rfl
theorem wfEl_rs {y : Nat} : ∀ el {ety : Nat}, wfEl P { R with rs := y } G sf el ety = wfEl P R G sf el ety
 | .prim k ty, _ => by unfold wfEl; rfl
 | .arr _ _ _ _, _ => by unfold wfEl; rfl
 | .enum _ _ _, _ => by unfold wfEl; rfl
 | .vstr _ _ _, _ => by unfold wfEl; rfl
 | .struct T n fDef tg fs, _ => by unfold wfEl; rw [wfRF_rs fs]; rfl
theorem wfRF_rs {y : Nat} : ∀ fs {T n k : Nat}, wfRF P { R with rs := y } G sf fs T n k = wfRF P R G sf fs T n k
 | .nil, _, _, _ => by unfold wfRF; rfl
 | .cons _ idx off _ ty rest, _, _, _ => by unfold wfRF; rw [wfRFld_rs ty, wfRF_rs rest]
end
theorem genRT_off {q : TgF} : ∀ {fs : Flds} {T vs t x b : Nat}, JO fs = true → J6 R G none (some q) fs T vs t x b = ([], t, x, b)
 | .nil, _, _, _, _, _, h => by simp [JO] at h
 | .cons c _ _ _ ty rest, _, _, _, _, _, h => by
  unfold J6
  cases hc : c.isTag with
  | true => rfl
  | false =>
   simp only [JO, hc, Bool.false_or] at h
   simp only [UB, if_false]
   exact genRT_off h
theorem range_snoc {m : Nat} {cs : List Value} {v : Value} (h1 : w.rangeAt b o cs) (h2 : cs.length = m) (h3 : w.cell? ⟨b, o + m, none⟩ = some v) : w.rangeAt b o (cs ++ [v]) := by
 intro j u hj
 by_cases h4 : j < cs.length
 ·rw [List.getElem?_append_left h4] at hj; exact h1 j u hj
 ·rw [List.getElem?_append_right (by omega)] at hj
  have hj0 : j - cs.length = 0 := by
   have := (List.getElem?_eq_some_iff.1 hj).1
   simp at this; omega
  rw [hj0] at hj
  simp only [List.getElem?_cons_zero, UC] at hj
  subst hj
  rw [show o + j = o + m from by omega]; exact h3
theorem tagCase_ok {ty : Ty} {fs : Flds} {T vs idx off t x bk L s mo j : Nat} {F : Nat → Prop} {ds : List D} {cs : List Value} (kk : RKOK P R G) (hty : s2RB ty = true) (hwf : Qq P R G sf ty = true) (hF : Jd P T idx off = true) (hif : ifaceTy P R.tErr = true) (hz0 : zeroIs P R.tR [.nslice, .bool false] = true) (hpl : plcB P R.tR 2 = true) (hcr : Jh P R.tR 2 = true) (hru : R.uv ≠ 0) (hrs : R.span ≠ 0) (h32 : R.T.u32 ≠ 0)
  (hh : FH P R rb sb h b o mo ev st w) (cx : RCx R.rs sf flex ver rb vs b o ρ) (hx9 : 9 ≤ x) (hsf : sf = some s) (hfl : flex = true) (hsx : s < x) (hvx : vs < x)
  (hxL : (JQ { R with rs := x + 2 } G sf ty T vs idx (t + 22) (x + 3) bk).2.2.1 < L) (hL : L ≤ t) (hN : (JQ { R with rs := x + 2 } G sf ty T vs idx (t + 22) (x + 3) bk).2.1 + 4 ≤ N) (hoff : off + ty.cells ≤ mo)
  (hr : w.rangeAt b o cs) (hl : cs.length = mo) (hd : RepF w F fs cs ds) (hFb : ∀ k, F k → k = sb ∨ (h < k ∧ k < w.heap.size))
  (hset : ∀ (w w' : World) (F F' : Nat → Prop) (cs cs' : List Value) (ds : List D) (d' : D), cs'.length = cs.length → (∀ i, (i < off ∨ off + ty.cells ≤ i) → cs'[i]? = cs[i]?) → (∀ b, F b → F' b) → (∀ b, F b → w'.heap[b]? = w.heap[b]?) → RepF w F fs cs ds → Rep w' F' ty ((cs'.drop off).take ty.cells) d' → RepF w' F' fs cs' (ds.set j d'))
  (hQ : ∀ ρ' w' l st' d r cs', (∀ s, s < x + 2 → ρ' s = ρ s) → Fr (fun k => k = rb ∨ w.heap.size ≤ k) b o mo w w' → Got dLV st l st' → dec ver flex ty l = some (d, r) → RdAt w' rb sb st' → w'.rangeAt b o cs' → cs'.length = mo → RepF w' (fun k => F k ∨ k = sb ∨ (w.heap.size ≤ k ∧ k < w'.heap.size)) fs cs' (ds.set j d) → (∀ j, j < off → cs'[j]? = cs[j]?) → Q .normal ρ' w')
  (hE : ∀ ρ' w' l st', ρ' 6 = ev → Fr (fun k => k = rb ∨ w.heap.size ≤ k) b o mo w w' → Got dLV st l st' → dec ver flex ty l = none → Q .ret ρ' w') :
  RW P N (rows (kpHead R t x :: ((JQ { R with rs := x + 2 } G sf ty T vs idx (t + 22) (x + 3) bk).1 ++ kpTail R x (JQ { R with rs := x + 2 } G sf ty T vs idx (t + 22) (x + 3) bk).2.1 (JQ { R with rs := x + 2 } G sf ty T vs idx (t + 22) (x + 3) bk).2.2.1))) Q ρ w := by
 have hrs7 := cx.hrs
 have hle := genRPay_le (R := { R with rs := x + 2 }) (G := G) (sf := sf) ty (T := T) (vs := vs) (idx := idx) (t := t + 22) (x := x + 3) (bk := bk)
 have hbw : b < w.heap.size := Nat.lt_of_le_of_lt hh.hb hh.hw
 refine RWL.rows ?_
 show RW P N (kpHead R t x) _ ρ w
 have hh0 : FH P R rb sb h b o 0 ev st w := ⟨hh.rd, hh.ne, hh.nb, hh.rbb, hh.hb, hh.hr, hh.hw, hh.hs, JG (k := 0) hh.th (by omega), hh.er, hh.ev, hh.gb, hh.gr⟩
 refine kpHead_ok (n := 0) kk hz0 hpl hcr hru hrs h32 hh0 cx hx9 (by omega) (by omega) (by omega) ?_
 intro ρ2 w2 l st2 ri h1 h2 h3 h4 h5 h6 h7 _
 have hh2 := hh.keep h4 h6
 have hsz2 := h4.size
 have hhb := hh.hb
 have hhw := hh.hw
 have hhs := hh.hs
 have hhr := hh.hr
 show RWL P N (_ ++ kpTail R x _ _) Q ρ2 w2
 have hge := World.block_lt_of_cell? w _ hh.ev
 simp only at hge
 have hhi : FH P { R with rs := x + 2 } ri sb ri b o mo ev (some l) w2 := ⟨h7, by omega, hh.nb, by omega, by omega, Nat.le_refl _, h7.lt, hh2.hs, hh2.th, hh.er, hh2.ev, hh.gb, by show R.gErr ≠ ri; omega⟩
 have cxi : RC0 ({ R with rs := x + 2 } : RN).rs sf flex ver ri ρ2 := ⟨h2, by rw [h1 2 (by omega)]; exact cx.r2, by rw [h1 8 (by omega)]; exact cx.r8, fun s' e => by rw [h1 s' (by rw [hsf] at e; cases e; omega)]; exact cx.rf s' e, cx.nf⟩
 have hr2 : w2.rangeAt b o cs := fun i v hi => by rw [h4.cell (o + i) (by omega)]; exact hr i v hi
 have hRi := h7.lt
 refine s2R_ok (R := { R with rs := x + 2 }) (L := L) (n := mo) (s := s) (kk.slot _) hty (by rw [wfRFld_rs]; exact hwf) hF hhi cxi (by rw [h1 vs (by omega)]; exact cx.rv) (by show x + 2 < x + 3; omega) (by omega) hsf hfl (by omega) (by omega) (by omega) (by omega) (by omega) hoff ⟨_, range_part (k := off) (m := ty.cells) hr2, by rw [List.length_take, List.length_drop]; omega⟩ ?_
 intro ρ3 w3 d st3 us i1 i2 i3 i4 i5 i6 i7
 have hhi3 := hhi.keep i2 i4
 have F4 : Fr (fun k => k = rb ∨ w.heap.size ≤ k) b o mo w w2 := h4.wide (fun _ h => .inl h) (Nat.le_refl _) (by omega)
 have F5 : Fr (fun k => k = rb ∨ w.heap.size ≤ k) b o mo w2 w3 := i2.wide (fun k h => .inr (by have h' : k = ri := h; omega)) (by omega) (by omega)
 have F45 := F4.trans F5
 have hsz3 := i2.size
 refine kpTail_ok (ri := ri) (st4 := st3) kk hif hh.er hhi3.ev (by rw [i1 (x + 2) (by omega)]; exact h2) i4 (by omega) (by omega) (by omega) (by omega) ?_ ?_
 ·intro ρ4 r e4 j1
  subst e4
  have hk : off + us.length ≤ cs.length := by omega
  refine hQ ρ4 w3 l st2 d r (Q9 off us cs) (fun s hs => by rw [j1 s (by omega), i1 s (by omega), h1 s hs]) F45 h5 i3 ?_ (range_splice hr2 (by rw [i6]; exact i2) i5 hk) (by rw [splice_len hk, hl]) ?_ (fun j hj => by
   have e : ∀ l : List Value, l[j]? = (l.take off)[j]? := fun l => by rw [List.getElem?_take, if_pos hj]
   rw [e, e cs, QZ hk])
  ·exact h6.keep (i2.block rb h6.lt (fun e => hh.rbb e.symm) (by show ¬ rb = ri; omega)) (i2.block sb (by omega) hh.nb (by show ¬ sb = ri; omega))
  ·refine hset w w3 F _ cs _ ds d (splice_len hk) (fun i hi => ?_) (fun _ h => .inl h) (fun k hk => ?_) hd ?_
   ·rcases hi with hi | hi
    ·have e : ∀ l : List Value, l[i]? = (l.take off)[i]? := fun l => by rw [List.getElem?_take, if_pos hi]
     rw [e, e cs, QZ hk]
    ·have e : ∀ l : List Value, l[i]? = (l.drop (off + us.length))[i - (off + us.length)]? := fun l => by rw [List.getElem?_drop]; congr 1; omega
     rw [e, e cs, splice_drop hk]
   ·have hk' := hFb k hk
    have hkw : k < w.heap.size := by rcases hk' with rfl | hk' <;> omega
    have hkb : k ≠ b := by rcases hk' with rfl | hk'; exact hh.nb; omega
    have hkr : k ≠ rb := by rcases hk' with rfl | hk'; exact hh.ne; omega
    exact F45.block k hkw hkb (by rintro (e | e); exact hkr e; omega)
   ·have hm := splice_mid hk
    rw [i6] at hm
    rw [hm]
    refine Rep.mono (fun k hk => ?_) (fun _ _ => rfl) ty i7
    rcases hk with hk | ⟨hk, hk'⟩
    ·exact .inr (.inl hk)
    ·exact .inr (.inr ⟨by omega, hk'⟩)
 ·intro ρ4 e4 j1
  subst e4
  exact hE ρ4 w3 l st2 j1 F45 h5 i3
theorem RWL.tagsT {T vs t x bl L m lo : Nat} {tg : Option TgF} {fs : Flds} {ds : List D} {cs : List Value} (kk : RKOK P R G) (hh : FH P R rb sb h b o m ev st w) (hne : b < w.heap.size) (hth : w.there b o n) (cx : RCx R.rs sf flex ver rb vs b o ρ) (hx9 : 9 ≤ x) (hs : ∀ s, sf = some s → s < x) (hvx : vs < x) (hxL : (J6 R G sf tg fs T vs t x bl).2.2.1 ≤ L) (hL : L ≤ t) (hN : (J6 R G sf tg fs T vs t x bl).2.1 ≤ N)
  (hwf : wfRF P R G sf fs T m lo = true) (htb : tagE P R G tg fs = true) (htg : TgP P R G w T b o n m fs cs tg) (hr : w.rangeAt b o cs) (hl : cs.length = m) (hrep : RepF w (FB sb h w) fs cs ds) {rest : List Jc}
  (hQ : ∀ ρ' w' ds' tags st' cs' tl, (∀ s, s < x → ρ' s = ρ s) → Fr (· = rb) b o n w w' → Got (if tg.isSome && flex then tgD (knOf tg) (tagD ver flex fs) ds else Dec.pure (ds, [])) st (ds', tags) st' → RdAt w' rb sb st' → w'.rangeAt b o (cs' ++ tl) → cs'.length + tl.length = n → RepF w' (FB sb h w') fs cs' ds' → TagsAt w' (FB sb h w') tg (cs' ++ tl) tags → (∀ j, j < lo → (∀ q ∈ knOf tg, q.off ≠ j) → cs'[j]? = cs[j]?) → RWL P N rest Q ρ' w')
  (hE : ∀ ρ' w', ρ' 6 = ev → Fr (· = rb) b o n w w' → (∀ y, Got (if tg.isSome && flex then tgD (knOf tg) (tagD ver flex fs) ds else Dec.pure (ds, [])) st y none) → Q .ret ρ' w') :
  RWL P N ((J6 R G sf tg fs T vs t x bl).1 ++ rest) Q ρ w := by
 cases ht : JO fs with
 | false =>
  rw [genRT_no ht] at hxL hN ⊢
  rw [tagD_no ver flex ht] at hQ hE
  refine RWL.tags (L := L) (n := n) (m := m) (ds := ds) (cs := cs) kk hh hne hth cx hx9 hs hvx hxL hL hN htg hr hl hrep ?_ hE
  intro ρ' w' tags st' cs' tl h1 h2 h3 h4 h5 h6 h7 h8 h9
  exact hQ ρ' w' ds tags st' cs' tl h1 h2 h3 h4 h5 h6 h7 h8 (fun j _ hq => h9 j hq)
 | true =>
  have hrs7 := cx.hrs
  unfold tagE tagB at htb
  cases hty : tagTy fs with
  | none => rw [tagTy_none hty] at ht; cases ht
  | some ty =>
   rw [hty] at htb
   simp only [UA] at htb
   obtain ⟨⟨⟨⟨⟨⟨⟨⟨⟨⟨t1, t2⟩, t3⟩, t4⟩, t5⟩, t6⟩, t7⟩, t8⟩, t9⟩, t10⟩, t11⟩ := htb
   cases htg' : tg with
   | none => rw [htg'] at t2; cases t2
   | some q =>
    rw [htg'] at t2
    obtain ⟨⟨idx', kn⟩, off'⟩ := q
    have hkn : kn = [] := by cases kn with
     | nil => rfl
     | cons a r => simp at t2
    subst hkn
    rw [htg'] at htg hQ hE hxL hN
    obtain ⟨g1, g2, g3, g4, g5, g6, g7⟩ := htg
    simp only at g1 g3
    subst g1
    have noTags : flex = false → ∀ ρ', (∀ s, s < x → ρ' s = ρ s) → RWL P N rest Q ρ' w := by
     intro hno ρ' hρ'
     refine hQ ρ' w ds [] st cs [.map none] hρ' (Fr.refl _ _ _ _ _) (by rw [hno]; exact Got.pure _) hh.rd (range_snoc hr hl g5) (by simp only [List.length_cons, List.length_nil]; omega) hrep ?_ (fun _ _ _ => rfl)
     refine ⟨.map none, [], [], ?_, .inl ⟨rfl, rfl⟩, rfl, rfl, by intro t _ q hq; simp at hq⟩
     show (cs ++ [Value.map none])[m]? = _
     rw [← hl, List.getElem?_append_right (Nat.le_refl _), Nat.sub_self]; rfl
    cases hsf : sf with
    | none =>
     rw [genRT_off ht]
     exact noTags (cx.nf hsf) ρ fun _ _ => rfl
    | some s =>
     obtain ⟨j, idx, off, ty', e0, _, _, e2, e3, e4, e5, e6, e7, e8, e9⟩ := tag_find ht t1 hwf
     rw [hty] at e0
     cases e0
     have hsx := hs s hsf
     rw [← hsf]
     rw [e7 R ((idx', []), m) s T vs t x bl hsf] at hxL hN ⊢
     unfold genTag at hxL hN ⊢
     simp only at hxL hN ⊢
     have hle := genRPay_le (R := { R with rs := x + 2 }) (G := G) (sf := sf) ty (T := T) (vs := vs) (idx := idx) (t := t + 22) (x := x + 3) (bk := bl + 3)
     simp only [List.cons_append, List.nil_append]
     refine RW.sq (RW.rg (RL.s (MR.mv (cx.rf s hsf) (ltT (by omega))) (RL.nil ?_) (by omega)))
     refine RW.cd (b := flex) (Ja _ _ _) (fun e => ?_) (fun e => RW.sk (noTags e _ fun s hs => by (repeat first | rw [Ja] | rw [Jb _ _ (by omega)]))) (by omega)
     generalize hρ0 : upd ρ t _ = ρ0
     have p0 : ∀ s, s < L → ρ0 s = ρ s := fun s hs => by rw [← hρ0]; (repeat first | rw [Ja] | rw [Jb _ _ (by omega)])
     have cx0 := cx.keep (x := x) (ρ' := ρ0) (fun s hs => p0 s (by omega)) hx9 hs hvx
     rw [g2] at hth hQ hE
     refine kpBody_ok (fun _ _ cs' => ∀ j, j < lo → cs'[j]? = cs[j]?) (fun _ _ _ _ _ => rfl) (fun _ _ _ _ _ _ h _ _ => h) (mo := m) (j := j) (f := dec ver flex ty) (fs := fs) (cs := cs) (ds := ds) kk g4 (ne0 t8) (ne0 t9) (ne0 t10) g3 hh hth cx0 hs hvx hx9 (by omega) (by omega) g5 hr hl hrep ?_ ?_ ?_
     ·intro Q' F ρ1 w1 st1 cs1 ds1 n0 st0 c0 _ c1 c2 c3 c4 c5 c6 c7 cN cR
      exact tagCase_ok (L := L) (s := s) kk t11 e5 e4 t4 t5 t6 t7 (ne0 t8) (ne0 t9) (ne0 t10) c2 (cx0.keep c1 hx9 hs hvx) hx9 hsf e hsx hvx (by omega) hL (by omega) e3 c4 c5 c7 c6 e9 (fun ρ' w' l st' d r cs' i1 i2 i3 i4 i5 i6 i7 i8 i9 => cN ρ' w' l st' d r cs' i1 i2 i3 i4 i5 i6 i7 i8 (fun j hj => (i9 j (by omega)).trans (c0 j hj))) cR
     ·intro ρ' w' ux st' cs' ds' mv h1 h2 h3 h4 h5 h6 h7 h8 h9 h10
      show RWL P N rest Q ρ' w'
      refine hQ ρ' w' ds' ux st' cs' [mv] (fun s hs => by rw [h1 s hs, p0 s (by omega)]) h2 ?_ h4 (range_snoc h5 h6 h7) (by simp only [List.length_cons, List.length_nil]; omega) h8 ?_ (fun j hj _ => h10 j hj)
      ·rw [if_pos (by rw [e]; rfl), e6]; exact h3
      ·refine ⟨mv, [], ux, ?_, h9, rfl, rfl, by intro t _ q hq; simp at hq⟩
       show (cs' ++ [mv])[m]? = _
       rw [← h6, List.getElem?_append_right (Nat.le_refl _), Nat.sub_self]; rfl
     ·intro ρ' w' h1 h2 h3
      show Q .ret ρ' w'
      refine hE ρ' w' h1 h2 fun y => ?_
      rw [if_pos (by rw [e]; rfl), e6]; exact h3 y
end
section
variable {P : Program} {N : Nat} {Q : UE} {ρ : Nat → Value} {w w' : World} {ms : List MOp} {R : RN} {G : TG} {rb sb h b o n : Nat} {ev : Value} {st st' : Option (List UInt8)} {sf : Option Nat} {flex : Bool} {ver : Int}
mutual
theorem genRFld_ok (kk : RKOK P R G) (h16 : JC P R.T.i16 .i16 = true) : ∀ (ty : Ty) {T vs idx off t x bk L b o n h : Nat} {ρ : Nat → Value} {w : World} {st : Option (List UInt8)} {Q : UE}, Qq P R G sf ty = true → Jd P T idx off = true → FH P R rb sb h b o n ev st w → RCx R.rs sf flex ver rb vs b o ρ → 9 ≤ x → (∀ s, sf = some s → s < x) → vs < x → (JN R G sf ty T vs idx t x bk).2.2.1 ≤ L → L ≤ t → (JN R G sf ty T vs idx t x bk).2.1 ≤ N → off + ty.cells ≤ n →
  ((∃ a b c d, ty = .arr a b c d) → w.cell? ⟨b, o + off, none⟩ = some (.slice none 0 0)) →
  (∃ us df, w.rangeAt b (o + off) us ∧ us.length = ty.cells ∧ Rep w (fun _ => False) ty us (dfl ty df)) →
  (∀ ρ' w' d st' vs, (∀ s, s < x → ρ' s = ρ s) → Fr (· = rb) b (o + off) ty.cells w w' → Got (dec ver flex ty) st d st' → RdAt w' rb sb st' → w'.rangeAt b (o + off) vs → vs.length = ty.cells → Rep w' (FB sb h w') ty vs d → Q .normal ρ' w') →
  (∀ ρ' w', ρ' 6 = ev → Fr (· = rb) b (o + off) ty.cells w w' → (∀ d, Got (dec ver flex ty) st d none) → Q .ret ρ' w') → RW P N (JN R G sf ty T vs idx t x bk).1 Q ρ w
 | .prim k ty, T, vs, idx, off, t, x, bk, L, b, o, n, h, ρ, w, st, Q, hwf, hF, hh, cx, hx9, hs, hvx, hxL, hL, hN, hoff, h0, hz0, hQ, hE => by
  simp only [Qq, UA] at hwf
  unfold JN at hN hxL ⊢
  refine primU_ok kk hwf.1.1 hwf.2 hF hwf.1.2 hh cx hx9 hs hvx (by simp only at hxL; omega) hL hN hoff ?_
  intro ρ' w' d st' us h1 h2 h3 h4 h5 h6 h7
  exact hQ ρ' w' d st' us h1 h2 (by unfold dec; exact h3) h4 h5 h6 (by unfold Rep; exact h7)
 | .arr nul ty ety el, T, vs, idx, off, t, x, bk, L, b, o, n, h, ρ, w, st, Q, hwf, hF, hh, cx, hx9, hs, hvx, hxL, hL, hN, hoff, h0, hz0, hQ, hE => by
  simp only [Qq, UA] at hwf
  obtain ⟨hnl, hwa, hwe⟩ := hwf
  unfold JN at hN hxL ⊢
  obtain ⟨zs, hz, hzl⟩ := ze_arr hwa
  have hze := ze_of hz
  rw [hzl] at hze
  have hx5 := (elR_le (R := R) (G := G) (sf := sf) el (ty := ty) (ety := ety) (t := (lenR R sf x (t + 5)).2 + nulT nul + 15) (x := x) (bk := bk)).2
  have hxL' : (elR R G sf el ty ety ((lenR R sf x (t + 5)).2 + nulT nul + 15) x bk).2.2.1 ≤ L := by simpa only [arrR, arrRL] using hxL
  have hsl : Jk P ty ety = true := by
   simp only [arrB, UA] at hwa
   exact hwa.1.1.1.1.1.1.2
  have hce : Jh P ety el.cells = true := by
   simp only [arrB, UA] at hwa
   exact hwa.1.1.1.1.1.2
  refine arrR_ok (el := el) (zs := zs.map MVal.val) kk (by cases nul <;> first | rfl | cases hnl) hwa hze hF hh cx hx9 hs hvx (by omega) hL (fun t => (elR_le el).1) hN hoff (h0 ⟨_, _, _, _, rfl⟩) ?_ ?_ hE
  ·exact elR_ok kk h16 el hwe hsl hce hz hx9 hs (fun t => by rw [elR_x el R ty ety t ((lenR R sf x (t + 5)).2 + nulT nul + 15) x bk]; rw [elR_x el R ty ety ((lenR R sf x (t + 5)).2 + nulT nul + 15) ((lenR R sf x (_ + 5)).2 + nulT nul + 15) x bk]; exact hxL')
  ·intro ρ' w' d st' v h1 h2 h3 h4 h5 h6
   exact hQ ρ' w' d st' [v] h1 h2 h3 h4 h5 rfl h6
 | .enum k ty cty, T, vs, idx, off, t, x, bk, L, b, o, n, h, ρ, w, st, Q, hwf, hF, hh, cx, hx9, hs, hvx, hxL, hL, hN, hoff, h0, hz0, hQ, hE => by simp [Qq] at hwf
 | .vstr lim ty base, T, vs, idx, off, t, x, bk, L, b, o, n, h, ρ, w, st, Q, hwf, hF, hh, cx, hx9, hs, hvx, hxL, hL, hN, hoff, h0, hz0, hQ, hE => by simp [Qq] at hwf
 | .struct T' n' fDef tg fs, T, vs, idx, off, t, x, bk, L, b, o, n, h, ρ, w, st, Q, hwf, hF, hh, cx, hx9, hs, hvx, hxL, hL, hN, hoff, h0, hz0, hQ, hE => by
  simp only [Qq, UA] at hwf
  obtain ⟨hsub, hte, hfs⟩ := hwf
  unfold subB at hsub
  simp only [UA, Nat.beq_eq, Nat.ble_eq] at hsub
  obtain ⟨⟨⟨⟨⟨s1, s2⟩, s3⟩, s4⟩, s5⟩, s6⟩ := hsub
  have hnil : Qd T' fs = .nil := by
   cases hd : Qd T' fs with
   | nil => rfl
   | cons a r => rw [hd] at s1; simp [Dfs.isNil] at s1
  have hdef : DefD P fDef n' (Qd T' fs) := defD_of (Qz.of s2) s3 s4
  obtain ⟨us, df, hrz, hlz, hrep⟩ := hz0
  have hcl : (Ty.struct T' n' fDef tg fs).cells = n' := rfl
  rw [hcl] at hoff hlz hQ hE
  unfold JN at hN hxL ⊢
  simp only at hN hxL ⊢
  have hgl := QS (R := R) (G := G) (sf := sf) fs (T := T') (vs := x + 1) (t := t + 6) (x := x + 2) (bk := bk)
  have htl := genRT_le (R := R) (G := G) (sf := sf) (tg := tg) fs (T := T') (vs := x + 1) (t := (Jv R G sf fs T' (x + 1) (t + 6) (x + 2) bk).2.1) (x := (Jv R G sf fs T' (x + 1) (t + 6) (x + 2) bk).2.2.1) (bk := (Jv R G sf fs T' (x + 1) (t + 6) (x + 2) bk).2.2.2)
  have hbw : b < w.heap.size := Nat.lt_of_le_of_lt hh.hb hh.hw
  have hth : w.there b (o + off) n' := JG hh.th hoff
  unfold Rep dfl at hrep
  obtain ⟨ds0, tags0, e1, e2, e3, e4⟩ := hrep
  injection e1 with e5 e6
  subst e5 e6
  refine RWL.rows ?_
  unfold subH
  simp only [List.cons_append, List.nil_append]
  refine RW.rg (RL.s (MR.mv cx.rv (ltT (by omega))) (RL.s (MR.nc (p := ⟨b, o, none⟩) (Ja _ _ _) (by omega)) (RL.s (MR.fa (Ja _ _ _) hF (by omega)) (RL.s (MR.mv (v := .pointer (some ⟨b, o + off, none⟩)) (Ja _ _ _) (ltT (by omega))) (RL.nil ?_) (by omega)) (by omega)) (by omega)) (by omega))
  refine RW.rg (RL.s (MR.mv (v := .pointer (some ⟨b, o + off, none⟩)) (Ja _ _ _) (ltT (by omega))) (RL.ca (R := fun _ w' => w'.rangeAt b (o + off) us ∧ Fr (fun _ => False) b (o + off) n' w w') hdef.1 ?_ ?_ (by omega) (by simp [MX.lt, Nat.blt_eq]; omega)) (by omega))
  ·simp only [List.map_cons, List.map_nil, xof]
   rw [Ja]
   refine Calls.mono (hdef.2 w b (o + off) us hrz hth hlz) ?_
   rintro e w' ⟨rfl, g1, g2⟩
   refine ⟨_, rfl, ?_, g2⟩
   rw [hnil] at g1
   exact g1
  rintro v1 w2 ⟨hr2, F2⟩
  refine RL.nil ?_
  have F2' : Fr (· = rb) b (o + off) n' w w2 := F2.wide (fun _ h => h.elim) (Nat.le_refl _) (Nat.le_refl _)
  have hrd2 : RdAt w2 rb sb st := hh.rd.keep (F2.block rb hh.rd.lt (fun e => hh.rbb e.symm) (fun x => x)) (F2.block sb hh.hs hh.nb (fun x => x))
  have hh2 := hh.keep F2' hrd2
  refine RW.rg (RL.s (MR.mv (v := .pointer (some ⟨b, o + off, none⟩)) (by show upd _ _ _ x = _; (repeat first | rw [Ja] | rw [Jb _ _ (by omega)])) (ltT (by omega))) (RL.s (MR.mv (Ja _ _ _) (ltT (by omega))) (RL.nil ?_) (by omega)) (by omega))
  generalize hρ2 : upd (upd _ (t + 5) _) (x + 1) _ = ρ2
  have q2 : ∀ s, s < x → ρ2 s = ρ s := fun s hs => by rw [← hρ2]; (repeat first | rw [Ja] | rw [Jb _ _ (by omega)])
  have cx2 : RCx R.rs sf flex ver rb (x + 1) b (o + off) ρ2 := ⟨by rw [q2 R.rs (by have := cx.hrs; omega)]; exact cx.r7, by rw [q2 2 (by omega)]; exact cx.r2, by rw [q2 8 (by omega)]; exact cx.r8, fun s e => by rw [q2 s (hs s e)]; exact cx.rf s e, cx.nf, by rw [← hρ2]; (repeat first | rw [Ja] | rw [Jb _ _ (by omega)]), by have := cx.hrs; omega⟩
  have hs2 : ∀ s, sf = some s → s < x + 2 := fun s e => by have := hs s e; omega
  have hth2 : w2.there b (o + off) n' := F2.there _ _ hth
  have hhE : FH P R rb sb h b (o + off) (preN tg n') ev st w2 :=
   ⟨hh2.rd, hh2.ne, hh2.nb, hh2.rbb, hh2.hb, hh2.hr, hh2.hw, hh2.hs, JG (k := 0) hth2 (by omega), hh2.er, hh2.ev, hh2.gb, hh2.gr⟩
  refine RWL.append ?_
  refine genRF_ok kk h16 fs (L := L) (k := 0) (b := b) (o := o + off) (h := h) (cs := us.take (preN tg n')) hfs hhE cx2 (by omega) hs2 (by omega) (Nat.le_trans htl.2 hxL) (by omega) (by omega) ?_ (by rw [List.length_take]; omega) (zf_rep fs hfs (by omega) e3) ?_ ?_
  ·intro j v hj
   rw [List.getElem?_take] at hj
   split at hj
   ·exact hr2 j v hj
   ·simp at hj
  ·intro ρ3 w3 ds st3 cs3 k1 k2 k3 k4 k5 k6 k7 k8 k9
   show RWL P N _ _ ρ3 w3
   have hh3 := hhE.keep k2 k4
   have W3 : Fr (· = rb) b (o + off) n' w2 w3 := k2.wide (fun _ h => h) (by omega) (by omega)
   have cx3' := cx2.keep k1 (by omega) hs2 (by omega)
   have hbw2 : b < w2.heap.size := Nat.lt_of_lt_of_le hbw F2.size
   refine (List.append_nil (J6 R G sf tg fs T' (x + 1) (Jv R G sf fs T' (x + 1) (t + 6) (x + 2) bk).2.1 (Jv R G sf fs T' (x + 1) (t + 6) (x + 2) bk).2.2.1 (Jv R G sf fs T' (x + 1) (t + 6) (x + 2) bk).2.2.2).1 ▸ (RWL.tagsT (fs := fs) (x := (Jv R G sf fs T' (x + 1) (t + 6) (x + 2) bk).2.2.1) (bl := (Jv R G sf fs T' (x + 1) (t + 6) (x + 2) bk).2.2.2) (L := L) (n := n') (m := preN tg n') (ds := ds) (cs := cs3) (rest := []) kk hh3 (Nat.lt_of_lt_of_le hbw2 W3.size) (W3.there _ _ hth2) cx3' (by omega) (fun s e => by have := hs s e; omega) (by omega) hxL (by omega) hN hfs hte ?_ k5 k6 k8 ?_ ?_) : RWL P N _ _ ρ3 w3)
   ·unfold preN
    cases htg : tg with
    | none => exact (rfl : n' = n')
    | some q =>
     rw [htg] at s6 e4
     simp only [UA, Nat.beq_eq] at s6
     obtain ⟨⟨⟨q1, q2'⟩, q3⟩, q4⟩ := s6
     have hpq : preN tg n' = q.2 := by unfold preN; rw [htg]
     obtain ⟨m, kb0, un0, hm, hmr, hkb, hku, _⟩ := e4
     have hm0 : m = .map none := by
      rcases hmr with ⟨e, _⟩ | ⟨r, es, clock, _, hf, _⟩
      ·exact e
      ·exact hf.elim
     subst hm0
     have hkb0 : kb0 = [] := (List.append_eq_nil_iff.1 hku.symm).1
     subst hkb0
     refine ⟨rfl, q1, q2', ne0 q4, ?_, q3, knAt_of q3 (cs := us) (fun p hp h1 h2 => ?_) hkb⟩
     ·have hcell : w2.cell? ⟨b, o + off + q.2, none⟩ = some (.map none) := hr2 q.2 _ hm
      rw [k2.cell (o + off + q.2) (.inr (by omega))]
      exact hcell
     ·rw [k9 _ (gapG_of h2), List.getElem?_take, if_pos (by omega)]
   ·intro ρ4 w4 ds4 tags st4 cs4 tl j1 j2 j3 j4 j5 j5' j6 j7 _
    show Q .normal ρ4 w4
    refine hQ ρ4 w4 (.r ds4 tags) st4 (cs4 ++ tl) (fun s hs => by rw [j1 s (by omega), k1 s (by omega), q2 s hs]) (F2'.trans (W3.trans j2)) ?_ j4 j5 (by rw [UD]; exact j5') ?_
    ·unfold dec
     refine k3.bind ?_
     cases hb : (tg.isSome && flex) with
     | true =>
      rw [hb] at j3
      simp only [if_true] at j3 ⊢
      exact j3.map (f := fun p : List D × List Tg => D.r p.1 p.2)
     | false =>
      rw [hb] at j3
      simp only [UB, if_false] at j3 ⊢
      have : (Dec.pure (D.r ds [])) = (Dec.pure (ds, ([] : List (Nat × List UInt8)))).map (fun p => D.r p.1 p.2) := by
       funext l; rfl
      rw [this]
      exact j3.map (f := fun p : List D × List Tg => D.r p.1 p.2)
    ·unfold Rep
     exact ⟨ds4, tags, rfl, by rw [UD]; exact j5', RepF.more j6, j7⟩
   ·intro ρ4 w4 j1 j2 j3
    refine hE ρ4 w4 j1 (F2'.trans (W3.trans j2)) fun d => ?_
    unfold dec
    refine k3.bind ?_
    cases hb : (tg.isSome && flex) with
    | true =>
     have j3' := j3 ([], [])
     rw [hb] at j3'
     simp only [if_true] at j3' ⊢
     exact Got.any (j3'.map (f := fun p : List D × List Tg => D.r p.1 p.2))
    | false =>
     have j3' := j3 ([], [])
     rw [hb] at j3'
     simp only [UB, if_false] at j3' ⊢
     exact Got.failed fun l hl' => by subst hl'; exact absurd (show (some _ : Option (_ × _)) = none from j3') (by simp)
  ·intro ρ3 w3 k1 k2 k3
   refine hE ρ3 w3 k1 (F2'.trans (k2.wide (fun _ h => h) (by omega) (by omega))) (fun d => ?_)
   unfold dec
   refine Got.bind (st2 := none) (k3 []) ?_
   exact rfl
theorem elR_ok (kk : RKOK P R G) (h16 : JC P R.T.i16 .i16 = true) : ∀ (el : Ty) {ty ety x bk L : Nat} {zs : List MVal}, wfEl P R G sf el ety = true → Jk P ty ety = true → Jh P ety el.cells = true → zeroM P ety = some zs → 9 ≤ x → (∀ s, sf = some s → s < x) → (∀ t, (elR R G sf el ty ety t x bk).2.2.1 ≤ L) →
  ElC P R N rb sb ev sf flex ver el x L (zs.map MVal.val) (fun t => elR R G sf el ty ety t x bk)
 | .prim k kty, ty, ety, x, bk, L, zs, hwf, hsl, hce, hz, hx9, hs, hxL => by
  simp only [wfEl, UA] at hwf
  have hx := hxL 0
  unfold elR at hx ⊢
  exact elC_prim kk hwf.1.1 hsl hwf.1.2 hwf.2 hx9 hs (by simp only at hx; omega)
 | .struct T n' fDef tg fs, ty, ety, x, bk, L, zs, hwf, hsl, hce, hz, hx9, hs, hxL => by
  simp only [wfEl, UA] at hwf
  obtain ⟨hel, hte, hfs⟩ := hwf
  unfold elB at hel
  rw [hz] at hel
  simp only [UA, Nat.beq_eq, Nat.ble_eq] at hel
  obtain ⟨⟨⟨⟨⟨⟨e1, e2⟩, e3⟩, e4⟩, e5⟩, e6⟩, e7⟩ := hel
  have hdef : DefD P fDef n' (Qd T fs) := defD_of (Qz.of e2) e3 e4
  have hpre : preN tg n' ≤ n' := by
   unfold preN
   cases htg : tg with
   | none => exact Nat.le_refl _
   | some q => rw [htg] at e7; simp only [UA, Nat.beq_eq] at e7; simp only; omega
  have hplen : (putM (Qd T fs) 0 zs).length = n' := by
   have := congrArg List.length (putM_val (Qd T fs) 0 zs)
   rw [putD_len, List.length_map, List.length_map] at this
   omega
  refine ⟨?_⟩
  intro t' ab l c i ρ ρ1 w1 st1 Q1 hL hN hh cx hrx q ra ri hi hrz hK hK2
  have hcl : (Ty.struct T n' fDef tg fs).cells = n' := rfl
  rw [hcl] at hh hrz hK hK2
  rw [hcl] at hce
  have hx0 := hxL t'
  unfold elR at hx0 hN ⊢
  simp only at hx0 hN ⊢
  have hgl := QS (R := R) (G := G) (sf := sf) fs (T := T) (vs := x + 5) (t := t' + 6) (x := x + 6) (bk := bk + 2)
  have htl := genRT_le (R := R) (G := G) (sf := sf) (tg := tg) fs (T := T) (vs := x + 5) (t := (Jv R G sf fs T (x + 5) (t' + 6) (x + 6) (bk + 2)).2.1) (x := (Jv R G sf fs T (x + 5) (t' + 6) (x + 6) (bk + 2)).2.2.1) (bk := (Jv R G sf fs T (x + 5) (t' + 6) (x + 6) (bk + 2)).2.2.2)
  have hmul : (i + 1) * n' ≤ l * n' := Nat.mul_le_mul_right _ hi
  have hmul' : (i + 1) * n' = i * n' + n' := Nat.succ_mul i n'
  have cx1 := cx.keep q hx9 hs hrx
  have hth1 : w1.there ab (i * n') n' := by
   have := JG (k := i * n') (m := n') hh.th (by omega)
   rwa [Nat.zero_add] at this
  refine RWL.rows ?_
  unfold elemH
  simp only [List.cons_append, List.nil_append]
  refine RW.rg (RL.s (MR.mv ra (ltT (by omega))) (RL.s (MR.mv (v := .int .i32 (i : Nat)) (by show upd _ _ _ (x + 3) = _; (repeat first | rw [Ja] | rw [Jb _ _ (by omega)]); exact ri) (ltT (by omega)))
   (RL.s (MR.ia (k := .i32) (b := ab) (o := 0) (len := l) (cap := c) (j := i) (sz := n') hsl hce (by (repeat first | rw [Ja] | rw [Jb _ _ (by omega)])) (by (repeat first | rw [Ja] | rw [Jb _ _ (by omega)])) hi (by omega) (by omega)) (RL.s (MR.mv (v := .pointer (some ⟨ab, i * n', none⟩)) (by show upd _ _ _ (t' + 2) = _; rw [Ja, Nat.zero_add]) (ltT (by omega))) (RL.nil ?_) (by omega)) (by omega)) (by omega)) (by omega))
  refine RW.rg (RL.s (MR.mv (v := .pointer (some ⟨ab, i * n', none⟩)) (Ja _ _ _) (ltT (by omega))) (RL.ca (R := fun _ w' => w'.rangeAt ab (i * n') ((putM (Qd T fs) 0 zs).map MVal.val) ∧ Fr (fun _ => False) ab (i * n') n' w1 w') hdef.1 ?_ ?_ (by omega) (by simp [MX.lt, Nat.blt_eq]; omega)) (by omega))
  ·simp only [List.map_cons, List.map_nil, xof]
   rw [Ja]
   refine Calls.mono (hdef.2 w1 ab (i * n') _ hrz hth1 (by simp [e1])) ?_
   rintro e w' ⟨rfl, g1, g2⟩
   exact ⟨_, rfl, by rw [putM_val]; exact g1, g2⟩
  rintro v1 w2 ⟨hr2, F2⟩
  refine RL.nil ?_
  have F2' : Fr (· = rb) ab (i * n') n' w1 w2 := F2.wide (fun _ h => h.elim) (Nat.le_refl _) (Nat.le_refl _)
  have hrd2 : RdAt w2 rb sb st1 := hh.rd.keep (F2.block rb hh.rd.lt (fun e => hh.rbb e.symm) (fun x => x)) (F2.block sb hh.hs hh.nb (fun x => x))
  have hh2 := hh.keep F2' hrd2
  refine RW.rg (RL.s (MR.mv (v := .pointer (some ⟨ab, i * n', none⟩)) (by show upd _ _ _ (x + 4) = _; (repeat first | rw [Ja] | rw [Jb _ _ (by omega)])) (ltT (by omega))) (RL.s (MR.mv (Ja _ _ _) (ltT (by omega))) (RL.nil ?_) (by omega)) (by omega))
  generalize hρ2 : upd (upd _ (t' + 5) _) (x + 5) _ = ρ2
  have q2 : ∀ s, s < x + 4 → ρ2 s = ρ1 s := fun s hs => by rw [← hρ2]; (repeat first | rw [Ja] | rw [Jb _ _ (by omega)])
  have cx2 : RCx R.rs sf flex ver rb (x + 5) ab (i * n') ρ2 := ⟨by rw [q2 R.rs (by omega)]; exact cx1.r7, by rw [q2 2 (by omega)]; exact cx1.r2, by rw [q2 8 (by omega)]; exact cx1.r8, fun s e => by rw [q2 s (by have := hs s e; omega)]; exact cx1.rf s e, cx1.nf, by rw [← hρ2]; (repeat first | rw [Ja] | rw [Jb _ _ (by omega)]), by omega⟩
  have hs6 : ∀ s, sf = some s → s < x + 6 := fun s e => by have := hs s e; omega
  have hth2 : w2.there ab (i * n') n' := F2.there _ _ hth1
  have hhE : FH P R rb sb ab ab (i * n') (preN tg n') ev st1 w2 :=
   ⟨hh2.rd, hh2.ne, hh2.nb, hh2.rbb, hh2.hb, hh2.hr, hh2.hw, hh2.hs, JG (k := 0) hth2 (by omega), hh2.er, hh2.ev, hh2.gb, hh2.gr⟩
  have hzf : ZF w2 fs (((putM (Qd T fs) 0 zs).map MVal.val).take (preN tg n')) := by
   have := zf_of (w := w2) e5
   rwa [List.map_take] at this
  refine RWL.append ?_
  refine genRF_ok kk h16 fs (L := L) (k := 0) (b := ab) (o := i * n') (h := ab) (cs := ((putM (Qd T fs) 0 zs).map MVal.val).take (preN tg n')) hfs hhE cx2 (by omega) hs6 (by omega) (by omega) (by omega) (by omega) ?_ (by rw [List.length_take, List.length_map]; omega) hzf ?_ ?_
  ·intro j v hj
   rw [List.getElem?_take] at hj
   split at hj
   ·exact hr2 j v hj
   ·simp at hj
  ·intro ρ3 w3 ds st3 cs3 k1 k2 k3 k4 k5 k6 k7 k8 k9
   show RWL P N _ _ ρ3 w3
   have hh3 := hhE.keep k2 k4
   have W3 : Fr (· = rb) ab (i * n') n' w2 w3 := k2.wide (fun _ h => h) (by omega) (by omega)
   have cx3' := cx2.keep k1 (by omega) hs6 (by omega)
   refine (List.append_nil (J6 R G sf tg fs T (x + 5) (Jv R G sf fs T (x + 5) (t' + 6) (x + 6) (bk + 2)).2.1 (Jv R G sf fs T (x + 5) (t' + 6) (x + 6) (bk + 2)).2.2.1 (Jv R G sf fs T (x + 5) (t' + 6) (x + 6) (bk + 2)).2.2.2).1 ▸ (RWL.tagsT (fs := fs) (x := (Jv R G sf fs T (x + 5) (t' + 6) (x + 6) (bk + 2)).2.2.1) (bl := (Jv R G sf fs T (x + 5) (t' + 6) (x + 6) (bk + 2)).2.2.2) (L := L) (n := n') (m := preN tg n') (ds := ds) (cs := cs3) (rest := []) kk hh3 (Nat.lt_of_lt_of_le hh2.hw W3.size) (W3.there _ _ hth2) cx3' (by omega) (fun s e => by have := hs s e; omega) (by omega) hx0 (by omega) hN hfs hte ?_ k5 k6 k8 ?_ ?_) : RWL P N _ _ ρ3 w3)
   ·unfold preN
    cases htg : tg with
    | none => exact (rfl : n' = n')
    | some q =>
     rw [htg] at e7
     simp only [UA, Nat.beq_eq] at e7
     obtain ⟨⟨⟨⟨q1, q2'⟩, q5⟩, q3⟩, q4⟩ := e7
     have hpq : preN tg n' = q.2 := by unfold preN; rw [htg]
     simp only [defTag, UA] at q3
     refine ⟨rfl, q1, q2', ne0 q4, ?_, q5, knAt_of q5 (cs := (putM (Qd T fs) 0 zs).map MVal.val) (fun p hp h1 h2 => ?_) (knAt_def (knDef_cell q3.2))⟩
     ·have hcell : w2.cell? ⟨ab, i * n' + q.2, none⟩ = some (.map none) := by
       refine hr2 q.2 _ ?_
       have q3' := q3.1
       rw [List.getElem?_map]
       split at q3'
       ·rename_i heq; rw [heq]; rfl
       ·simp at q3'
      rw [k2.cell (i * n' + q.2) (.inr (by omega))]
      exact hcell
     ·rw [k9 _ (gapG_of h2), List.getElem?_take, if_pos (by omega)]
   ·intro ρ4 w4 ds4 tags st4 cs4 tl j1 j2 j3 j4 j5 j5' j6 j7 _
    show Q1 .normal ρ4 w4
    refine hK ρ4 w4 (.r ds4 tags) st4 (cs4 ++ tl) (fun s hs => by rw [j1 s (by omega), k1 s (by omega), q2 s hs]) (F2'.trans (W3.trans j2)) ?_ j4 j5 (by rw [UD]; exact j5') ?_
    ·unfold dec
     refine k3.bind ?_
     cases hb : (tg.isSome && flex) with
     | true =>
      rw [hb] at j3
      simp only [if_true] at j3 ⊢
      exact j3.map (f := fun p : List D × List Tg => D.r p.1 p.2)
     | false =>
      rw [hb] at j3
      simp only [UB, if_false] at j3 ⊢
      have : (Dec.pure (D.r ds [])) = (Dec.pure (ds, ([] : List (Nat × List UInt8)))).map (fun p => D.r p.1 p.2) := by
       funext l; rfl
      rw [this]
      exact j3.map (f := fun p : List D × List Tg => D.r p.1 p.2)
    ·unfold Rep
     exact ⟨ds4, tags, rfl, by rw [UD]; exact j5', RepF.more j6, j7⟩
   ·intro ρ4 w4 j1 j2 j3
    refine hK2 ρ4 w4 j1 (F2'.trans (W3.trans j2)) fun d => ?_
    unfold dec
    refine k3.bind ?_
    cases hb : (tg.isSome && flex) with
    | true =>
     have j3' := j3 ([], [])
     rw [hb] at j3'
     simp only [if_true] at j3' ⊢
     exact Got.any (j3'.map (f := fun p : List D × List Tg => D.r p.1 p.2))
    | false =>
     have j3' := j3 ([], [])
     rw [hb] at j3'
     simp only [UB, if_false] at j3' ⊢
     exact Got.failed fun l hl' => by subst hl'; exact absurd (show (some _ : Option (_ × _)) = none from j3') (by simp)
  ·intro ρ3 w3 k1 k2 k3
   refine hK2 ρ3 w3 k1 (F2'.trans (k2.wide (fun _ h => h) (by omega) (by omega))) (fun d => ?_)
   unfold dec
   refine Got.bind (st2 := none) (k3 []) ?_
   exact rfl
 | .arr _ _ _ _, ty, ety, x, bk, L, zs, hwf, hsl, hce, hz, hx9, hs, hxL => by simp [wfEl] at hwf
 | .enum _ _ _, ty, ety, x, bk, L, zs, hwf, hsl, hce, hz, hx9, hs, hxL => by simp [wfEl] at hwf
 | .vstr _ _ _, ty, ety, x, bk, L, zs, hwf, hsl, hce, hz, hx9, hs, hxL => by simp [wfEl] at hwf
theorem genRF_ok (kk : RKOK P R G) (h16 : JC P R.T.i16 .i16 = true) : ∀ (fs : Flds) {T vs t x bk L k b o n h : Nat} {ρ : Nat → Value} {w : World} {st : Option (List UInt8)} {cs : List Value} {Q : UE}, wfRF P R G sf fs T n k = true → FH P R rb sb h b o n ev st w → RCx R.rs sf flex ver rb vs b o ρ → 9 ≤ x → (∀ s, sf = some s → s < x) → vs < x → (Jv R G sf fs T vs t x bk).2.2.1 ≤ L → L ≤ t → (Jv R G sf fs T vs t x bk).2.1 ≤ N →
  w.rangeAt b o cs → cs.length = n → ZF w fs cs →
  (∀ ρ' w' ds st' cs', (∀ s, s < x → ρ' s = ρ s) → Fr (· = rb) b (o + k) (n - k) w w' → Got (decF ver flex fs) st ds st' → RdAt w' rb sb st' → w'.rangeAt b o cs' → cs'.length = n → cs'.take k = cs.take k → RepF w' (FB sb h w') fs cs' ds → (∀ j, gapG fs j = true → cs'[j]? = cs[j]?) → Q .normal ρ' w') →
  (∀ ρ' w', ρ' 6 = ev → Fr (· = rb) b (o + k) (n - k) w w' → (∀ d, Got (decF ver flex fs) st d none) → Q .ret ρ' w') → RWL P N (Jv R G sf fs T vs t x bk).1 Q ρ w
 | .nil, T, vs, t, x, bk, L, k, b, o, n, h, ρ, w, st, cs, Q, hwf, hh, cx, hx9, hs, hvx, hxL, hL, hN, hr, hl, hz, hQ, hE => by
  unfold Jv
  exact hQ ρ w [] st cs (fun _ _ => rfl) (Fr.refl _ _ _ _ _) (by unfold decF; exact Got.pure _) hh.rd hr hl rfl (by unfold RepF; rfl) (fun _ _ => rfl)
 | .cons c idx off df ty rest, T, vs, t, x, bk, L, k, b, o, n, h, ρ, w, st, cs, Q, hwf, hh, cx, hx9, hs, hvx, hxL, hL, hN, hr, hl, hz, hQ, hE => by
  simp only [wfRF, UA, Nat.ble_eq] at hwf
  obtain ⟨⟨⟨g1, g2⟩, g3⟩, g4⟩ := hwf
  have hn : off + ty.cells ≤ n := wfRF_n rest g4
  unfold ZF at hz
  obtain ⟨z1, z2, z3, z4⟩ := hz
  have next : ∀ (t1 x1 b1 : Nat), x ≤ x1 → L ≤ t1 → (Jv R G sf rest T vs t1 x1 b1).2.2.1 ≤ L → (Jv R G sf rest T vs t1 x1 b1).2.1 ≤ N → ∀ (ρ1 : Nat → Value) (w1 : World) (d : D) (st1 : Option (List UInt8)) (cs1 : List Value), (∀ s, s < x → ρ1 s = ρ s) → Fr (· = rb) b (o + off) ty.cells w w1 → Got (if c.ok ver then dec ver flex ty else Dec.pure (dfl ty df)) st d st1 → RdAt w1 rb sb st1 → w1.rangeAt b o cs1 → cs1.length = n → cs1.take off = cs.take off → cs1.drop (off + ty.cells) = cs.drop (off + ty.cells) → Rep w1 (FB sb h w1) ty ((cs1.drop off).take ty.cells) d → (c.isTag = true → cs1 = cs) →
    RWL P N (Jv R G sf rest T vs t1 x1 b1).1 Q ρ1 w1 := by
   intro t1 x1 b1 hx1 hL1 hxL1 hN1 ρ1 w1 d st1 cs1 e1 e2 e3 e4 e5 e6 e7 e8 e9 e10
   have hh1 := hh.keep e2 e4
   have W : Fr (· = rb) b (o + k) (n - k) w w1 := e2.wide (fun _ h => h) (by omega) (by omega)
   have M : ∀ w2, Fr (· = rb) b (o + (off + ty.cells)) (n - (off + ty.cells)) w1 w2 → Fr (· = rb) b (o + k) (n - k) w w2 := fun w2 hf => W.trans (hf.wide (fun _ h => h) (by omega) (by omega))
   have cx1 : RCx R.rs sf flex ver rb vs b o ρ1 := cx.keep e1 hx9 hs hvx
   refine genRF_ok kk h16 rest (L := L) (k := off + ty.cells) (cs := cs1) g4 hh1 cx1 (by omega) (fun s e => by have := hs s e; omega) (by omega) hxL1 (by omega) hN1 e5 e6 (ZF.keep e8 (by rw [e6, hl]) rest g4 z4) ?_ ?_
   ·intro ρ2 w2 ds st2 cs2 k1 k2 k3 k4 k5 k6 k7 k8 k9
    refine hQ ρ2 w2 (d :: ds) st2 cs2 (fun s hs => by rw [k1 s (by omega), e1 s hs]) (M w2 k2) ?_ k4 k5 k6 ?_ ?_ ?_
    ·unfold decF
     exact e3.bind (k3.map (f := fun ds => d :: ds))
    ·have a1 : cs2.take k = (cs2.take (off + ty.cells)).take k := by rw [List.take_take, Nat.min_eq_left (by omega)]
     have a2 : cs1.take k = (cs1.take (off + ty.cells)).take k := by rw [List.take_take, Nat.min_eq_left (by omega)]
     have a3 : cs1.take k = (cs1.take off).take k := by rw [List.take_take, Nat.min_eq_left (by omega)]
     have a4 : cs.take k = (cs.take off).take k := by rw [List.take_take, Nat.min_eq_left (by omega)]
     rw [a1, k7, ← a2, a3, e7, ← a4]
    ·unfold RepF
     refine ⟨by omega, d, ds, rfl, ?_, k8⟩
     rw [part_of_take k7 (Nat.le_refl _)]
     exact hh1.rep k2 e9
    ·intro j hj
     simp only [gapG, UA, Bool.or_eq_true, Nat.blt_eq, Nat.ble_eq] at hj
     rw [k9 j hj.2]
     rcases hj.1 with hj | hj | hj
     ·rw [e10 hj]
     ·have e : ∀ l : List Value, l[j]? = (l.take off)[j]? := fun l => by rw [List.getElem?_take, if_pos hj]
      exact (e cs1).trans ((congrArg (fun l : List Value => l[j]?) e7).trans (e cs).symm)
     ·have e : ∀ l : List Value, l[j]? = (l.drop (off + ty.cells))[j - (off + ty.cells)]? := fun l => by rw [List.getElem?_drop]; congr 1; omega
      exact (e cs1).trans ((congrArg (fun l : List Value => l[j - (off + ty.cells)]?) e8).trans (e cs).symm)
   ·intro ρ2 w2 k1 k2 k3
    refine hE ρ2 w2 k1 (M w2 k2) (fun ds => ?_)
    unfold decF
    refine e3.bind (Got.bind (k := fun ds => Dec.pure (d :: ds)) (k3 []) ?_)
    exact rfl
  cases hct : c.isTag with
  | true =>
   simp only [Jv, hct, if_true] at hxL hN ⊢
   have hc : c.ok ver = false := by cases c <;> first | rfl | (cases hct)
   refine next t x bk (Nat.le_refl _) hL hxL hN ρ w (dfl ty df) st cs (fun _ _ => rfl) (Fr.refl _ _ _ _ _) (by rw [hc]; exact Got.pure _) hh.rd hr hl rfl rfl ?_ (fun _ => rfl)
   exact Rep.mono (fun _ h => h.elim) (fun _ h => h.elim) ty z2
  | false =>
  simp only [Jv, hct, UB, if_false] at hxL hN ⊢
  have le1 := @condR_le R c t x (fun t => JN R G sf ty T vs idx t x bk) (fun t => genRFld_le ty)
  have le2 := QS (R := R) (G := G) (sf := sf) rest (T := T) (vs := vs) (t := (condR R c t fun t => JN R G sf ty T vs idx t x bk).2.1) (x := (condR R c t fun t => JN R G sf ty T vs idx t x bk).2.2.1) (bk := (condR R c t fun t => JN R G sf ty T vs idx t x bk).2.2.2)
  have xeq : ∀ t', (JN R G sf ty T vs idx t' x bk).2.2.1 = (condR R c t fun t => JN R G sf ty T vs idx t x bk).2.2.1 := fun t' => by rw [condR_x (t2 := t') (fun a b => genRFld_x ty R T vs idx a b x bk)]
  show RW P N _ _ ρ w
  refine condR_ok (L := L) hct h16 cx.r8 (by omega) hL (fun t => (genRFld_le ty).1) (by omega) (fun hc ρ1 t1 a1 a2 a3 => ?_) (fun hc ρ1 a1 => ?_)
  ·refine genRFld_ok kk h16 (L := L) ty g3 g2 hh (cx.keep (fun s hs => a1 s (by omega)) hx9 hs hvx) hx9 hs hvx (by rw [xeq]; omega) a2 a3 hn (fun e => hr off _ (z3 e)) ⟨_, df, range_part (k := off) (m := ty.cells) hr, by rw [List.length_take, List.length_drop]; omega, z2⟩ ?_ ?_
   ·intro ρ2 w2 d st2 vs k1 k2 k3 k4 k5 k6 k7
    have hk : off + vs.length ≤ cs.length := by omega
    refine next _ _ _ le1.2 (by omega) hxL hN ρ2 w2 d st2 (Q9 off vs cs) (fun s hs => by rw [k1 s hs, a1 s (by omega)]) k2 (by rw [if_pos hc]; exact k3) k4 (range_splice hr (by rw [k6]; exact k2) k5 hk) (by rw [splice_len hk, hl]) (QZ hk) (by rw [← k6]; exact splice_drop hk) ?_ (fun e => by rw [hct] at e; cases e)
    have := splice_mid hk
    rw [k6] at this
    rw [this]; exact k7
   ·intro ρ2 w2 k1 k2 k3
    refine hE ρ2 w2 k1 (k2.wide (fun _ h => h) (by omega) (by omega)) (fun ds => ?_)
    unfold decF
    rw [if_pos hc]
    exact Got.bind (k := fun d => (decF ver flex rest).map (fun ds => d :: ds)) (k3 (.n 0)) (by exact rfl)
  ·refine next _ _ _ le1.2 (by omega) hxL hN ρ1 w (dfl ty df) st cs (fun s hs => a1 s (by omega)) (Fr.refl _ _ _ _ _) (by rw [hc]; exact Got.pure _) hh.rd hr hl rfl rfl ?_ (fun _ => rfl)
   exact Rep.mono (fun _ h => h.elim) (fun _ h => h.elim) ty z2
end
end
set_option linter.unusedVariables false
def czT : Nat → List UInt8 → Nat
 | 0, _ => 0
 | n + 1, l => match dTag l with
  | none => 0
  | some (t, r) => (if t.1 = 0 then 1 else 0) + czT n r
def czO (n : Nat) : Option (List UInt8) → Nat
 | none => 0
 | some l => czT n l
theorem czO_step {n k : Nat} {l r : List UInt8} {st : Option (List UInt8)} (h : Got dTag st (k, l) (some r)) : czO (n + 1) st = (if k = 0 then 1 else 0) + czT n r := by
 cases st with
 | none => simp [Got] at h
 | some l0 =>
  have h' : dTag l0 = some ((k, l), r) := h
  show czT (n + 1) l0 = _
  rw [czT, h']
theorem czO_mono {n k : Nat} {l : List UInt8} {st st' : Option (List UInt8)} (h : Got dTag st (k, l) st') : czO n st' ≤ czO (n + 1) st := by
 cases st' with
 | none => exact Nat.zero_le _
 | some r => rw [czO_step h]; show czT n r ≤ _; omega
def isArr : Ty → Bool
 | .arr none _ _ _ => true
 | _ => false
theorem isArr_eq {ty : Ty} (h : isArr ty = true) : ∃ t e el, ty = .arr none t e el := by
 unfold isArr at h
 split at h
 ·exact ⟨_, _, _, rfl⟩
 ·cases h
def tagTopB (P : Program) (R : RN) (G : TG) (tg : Option TgF) (fs : Flds) : Bool := tagB P R G tg fs && (match tagTy fs with | none => true | some ty => s2RB ty || isArr ty)
section
variable {P : Program} {N : Nat} {Q : UE} {ρ : Nat → Value} {w w' : World} {ms : List MOp} {d : Nat} {R : RN} {G : TG} {rb sb h b o n : Nat} {ev : Value} {st st' : Option (List UInt8)} {sf : Option Nat} {flex : Bool} {ver : Int}
theorem dALen_nil : dALen flex [] = none := by cases flex <;> rfl
theorem decArr_nil {ty ety : Nat} {el : Ty} {nul : Option Nat} : dec ver flex (.arr nul ty ety el) [] = none := by
 unfold dec Dec.bind
 rw [dALen_nil]
theorem zf_tag {ty ety : Nat} {nul : Option Nat} {el : Ty} : ∀ {fs : Flds} {cs : List Value}, ZF w fs cs → tagTy fs = some (.arr nul ty ety el) → cs[tagOff fs]? = some (.slice none 0 0)
 | .nil, _, _, h => by cases h
 | .cons c idx off df ty' rest, cs, hz, h => by
  unfold ZF at hz
  unfold tagTy at h
  unfold tagOff
  cases hc : c.isTag with
  | true =>
   rw [hc] at h
   simp only [if_true, UC] at h ⊢
   exact hz.2.2.1 ⟨_, _, _, _, h⟩
  | false =>
   rw [hc] at h
   simp only [UB, if_false] at h ⊢
   exact zf_tag hz.2.2.2 h
theorem arrRL0_ok {T vs idx off ty ety x t bk L : Nat} {el : Ty} {body : Nat → Jc × Nat × Nat × Nat} {v0 : Value} (kk : RKOK P R G) (hwf : arrB P R sf ty ety el.cells = true) (hF : Jd P T idx off = true) (hh : FH P R rb sb h b o n ev (some []) w) (cx : RC0 R.rs sf flex ver rb ρ) (hv : ρ vs = .pointer (some ⟨b, o, none⟩)) (hrx : R.rs < x)
  (hx9 : 9 ≤ x) (hs : ∀ s, sf = some s → s < x) (hvx : vs < x) (hxL : x + 4 < L) (hL : L ≤ t) (hb : ∀ t, t ≤ (body t).2.1) (hN : (arrRL R sf none T vs idx ty t x bk body).2.1 ≤ N) (h0 : w.cell? ⟨b, o + off, none⟩ = some v0)
  (hE : ∀ ρ' w', ρ' 6 = ev → Fr (· = rb) b (o + off) 1 w w' → Q .ret ρ' w') : RWL P N (arrRL R sf none T vs idx ty t x bk body).1 Q ρ w := by
 simp only [arrB, UA] at hwf
 obtain ⟨⟨⟨⟨⟨⟨⟨⟨f2, f3⟩, f4⟩, f5⟩, f6⟩, f7⟩, f10⟩, f8⟩, f9⟩ := hwf
 simp only [arrRL] at hN ⊢
 have hbw : b < w.heap.size := Nat.lt_of_le_of_lt hh.hb hh.hw
 have hle1 : t + 5 ≤ (lenR R sf x (t + 5)).2 := lenR_le
 have hle2 := hb ((lenR R sf x (t + 5)).2 + nulT none + 15)
 generalize hbody : body ((lenR R sf x (t + 5)).2 + nulT none + 15) = bd at hN hle2 ⊢
 simp only [List.cons_append, List.nil_append]
 refine loadR_ok (L := L) hF f3 hv h0 (by omega) (by omega) hL (by omega) fun ρ1 a1 a2 => ?_
 refine mv2_ok (L := L) a2 (by omega) (by omega) (by omega) (by omega) fun ρ2 b1 b2 => ?_
 refine mvc_ok (L := L) (by omega) (by omega) fun ρ3 c1 c2 => ?_
 have q3 : ∀ s, s < x → ρ3 s = ρ s := fun s hs => by rw [c1 s (by omega) (by omega), b1 s (by omega) (by omega), a1 s (by omega) (by omega)]
 have cx3 := cx.keep q3 hx9 hs hrx
 refine lenR_ok (L := L) kk (ne0 f7) (fun s e => by rw [e] at f8; exact ne0 f8) (by omega) (by omega) (fun s e => by have := hs s e; omega) (by omega) (by omega) hh.rd hh.ne (by omega) cx3.r7 cx3.rf cx3.nf ?_
 intro ρ4 w4 r st4 d1 d20 d3 d4 d5 d6
 have F4 : Fr (· = rb) b (o + off) 1 w w4 := d4.rd hh.rbb hbw
 have q4 : ∀ s, s < x → ρ4 s = ρ s := fun s hs => by rw [d1 s (by omega) (by omega), q3 s hs]
 have cx4 := cx.keep q4 hx9 hs hrx
 have e4 : st4 = none := by
  cases st4 with
  | none => rfl
  | some r' =>
   have : dALen flex [] = some (r, r') := d5
   rw [dALen_nil] at this; cases this
 subst e4
 have hev : w4.cell? ⟨R.gErr, 0, none⟩ = some ev := (hh.keep F4 d6).ev
 show RWL P N (makeR R ty x _ ++ _) Q ρ4 w4
 unfold makeR
 simp only [List.cons_append, List.nil_append]
 simp only [nulT] at hle2 hN ⊢
 refine RW.sq (RW.rg (RL.ca (R := fun v w' => v = .bool (!stB none) ∧ w4 = w') (kk.okf (ne0 f10)).1 ?_ ?_ (by omega) (by simp [MX.lt, Nat.blt_eq]; omega)))
 ·simp only [List.map_cons, List.map_nil, xof, cx4.r7]
  refine Calls.mono ((kk.okf (ne0 f10)).2 w4 rb sb none d6) ?_
  rintro e w' ⟨rfl, rfl⟩
  exact ⟨_, rfl, rfl, rfl⟩
 rintro v w' ⟨rfl, rfl⟩
 refine RL.s (MR.nt (Ja _ _ _) (by omega)) (RL.nil ?_) (by omega)
 refine RW.cd (b := true) (by rw [Ja]; rfl) (fun _ => ?_) (fun e => by cases e) (by omega)
 refine RW.sq (RW.rg (RL.ca (R := fun v w' => v = complV ev none ∧ w4 = w') kk.compl.1 ?_ ?_ (by omega) (by simp [MX.lt, Nat.blt_eq]; omega)))
 ·simp only [List.map_cons, List.map_nil, xof]
  rw [Jb _ _ (by omega), Jb _ _ (by omega), cx4.r7]
  refine Calls.mono (kk.compl.2 w4 rb sb none ev d6 hev) ?_
  rintro e w' ⟨rfl, rfl⟩
  exact ⟨_, rfl, rfl, rfl⟩
 rintro v w' ⟨rfl, rfl⟩
 refine RL.s (MR.mv (Ja _ _ _) (ltT (by omega))) (RL.nil (RW.rt (hE _ _ ?_ F4))) (by omega)
 rw [Ja]
theorem tagCaseL_ok {ty ety : Nat} {el : Ty} {fs : Flds} {T vs idx off t x bk L s mo j n0 : Nat} {F : Nat → Prop} {ds : List D} {cs : List Value} {st0 : Option (List UInt8)} (kk : RKOK P R G) (h16 : JC P R.T.i16 .i16 = true) (hwf : Qq P R G sf (.arr none ty ety el) = true) (hF : Jd P T idx off = true) (hif : ifaceTy P R.tErr = true) (hz0 : zeroIs P R.tR [.nslice, .bool false] = true) (hpl : plcB P R.tR 2 = true) (hcr : Jh P R.tR 2 = true) (hru : R.uv ≠ 0) (hrs : R.span ≠ 0) (h32 : R.T.u32 ≠ 0)
  (hh : FH P R rb sb h b o mo ev st w) (cx : RCx R.rs sf flex ver rb vs b o ρ) (hx9 : 9 ≤ x) (hsf : sf = some s) (hfl : flex = true) (hsx : s < x) (hvx : vs < x)
  (hxL : (JQ { R with rs := x + 2 } G sf (.arr none ty ety el) T vs idx (t + 22) (x + 3) bk).2.2.1 < L) (hL : L ≤ t) (hN : (JQ { R with rs := x + 2 } G sf (.arr none ty ety el) T vs idx (t + 22) (x + 3) bk).2.1 + 4 ≤ N) (hoff : off + 1 ≤ mo)
  (hr : w.rangeAt b o cs) (hl : cs.length = mo) (hd : RepF w F fs cs ds) (hFb : ∀ k, F k → k = sb ∨ (h < k ∧ k < w.heap.size))
  (hset : ∀ (w w' : World) (F F' : Nat → Prop) (cs cs' : List Value) (ds : List D) (d' : D), cs'.length = cs.length → (∀ i, (i < off ∨ off + 1 ≤ i) → cs'[i]? = cs[i]?) → (∀ b, F b → F' b) → (∀ b, F b → w'.heap[b]? = w.heap[b]?) → RepF w F fs cs ds → Rep w' F' (.arr none ty ety el) ((cs'.drop off).take 1) d' → RepF w' F' fs cs' (ds.set j d'))
  (hJ : (cs[off]? = some (.slice none 0 0) ∧ czO (n0 + 1) st0 ≤ 1) ∨ czO (n0 + 1) st0 = 0) (hst0 : Got dUv st0 0 st)
  (hQ : ∀ ρ' w' l st' d r cs', (∀ s, s < x + 2 → ρ' s = ρ s) → Fr (fun k => k = rb ∨ w.heap.size ≤ k) b o mo w w' → Got dLV st l st' → dec ver flex (.arr none ty ety el) l = some (d, r) → RdAt w' rb sb st' → w'.rangeAt b o cs' → cs'.length = mo → RepF w' (fun k => F k ∨ k = sb ∨ (w.heap.size ≤ k ∧ k < w'.heap.size)) fs cs' (ds.set j d) → (∀ j, j < off → cs'[j]? = cs[j]?) → czO n0 st' = 0 → Q .normal ρ' w')
  (hE : ∀ ρ' w' l st', ρ' 6 = ev → Fr (fun k => k = rb ∨ w.heap.size ≤ k) b o mo w w' → Got dLV st l st' → dec ver flex (.arr none ty ety el) l = none → Q .ret ρ' w') :
  RW P N (rows (kpHead R t x :: ((JQ { R with rs := x + 2 } G sf (.arr none ty ety el) T vs idx (t + 22) (x + 3) bk).1 ++ kpTail R x (JQ { R with rs := x + 2 } G sf (.arr none ty ety el) T vs idx (t + 22) (x + 3) bk).2.1 (JQ { R with rs := x + 2 } G sf (.arr none ty ety el) T vs idx (t + 22) (x + 3) bk).2.2.1))) Q ρ w := by
 have hrs7 := cx.hrs
 have hle := genRPay_le (R := { R with rs := x + 2 }) (G := G) (sf := sf) (.arr none ty ety el) (T := T) (vs := vs) (idx := idx) (t := t + 22) (x := x + 3) (bk := bk)
 have hbw : b < w.heap.size := Nat.lt_of_le_of_lt hh.hb hh.hw
 refine RWL.rows ?_
 show RW P N (kpHead R t x) _ ρ w
 have hh0 : FH P R rb sb h b o 0 ev st w := ⟨hh.rd, hh.ne, hh.nb, hh.rbb, hh.hb, hh.hr, hh.hw, hh.hs, JG (k := 0) hh.th (by omega), hh.er, hh.ev, hh.gb, hh.gr⟩
 refine kpHead_ok (n := 0) kk hz0 hpl hcr hru hrs h32 hh0 cx hx9 (by omega) (by omega) (by omega) ?_
 intro ρ2 w2 l st2 ri h1 h2 h3 h4 h5 h6 h7 hnl
 have hh2 := hh.keep h4 h6
 have hsz2 := h4.size
 have hhb := hh.hb
 have hhw := hh.hw
 have hhs := hh.hs
 have hhr := hh.hr
 show RWL P N (_ ++ kpTail R x _ _) Q ρ2 w2
 have hge := World.block_lt_of_cell? w _ hh.ev
 simp only at hge
 have hhi : FH P { R with rs := x + 2 } ri sb ri b o mo ev (some l) w2 := ⟨h7, by omega, hh.nb, by omega, by omega, Nat.le_refl _, h7.lt, hh2.hs, hh2.th, hh.er, hh2.ev, hh.gb, by show R.gErr ≠ ri; omega⟩
 have cxi : RC0 ({ R with rs := x + 2 } : RN).rs sf flex ver ri ρ2 := ⟨h2, by rw [h1 2 (by omega)]; exact cx.r2, by rw [h1 8 (by omega)]; exact cx.r8, fun s' e => by rw [h1 s' (by rw [hsf] at e; cases e; omega)]; exact cx.rf s' e, cx.nf⟩
 have hr2 : w2.rangeAt b o cs := fun i v hi => by rw [h4.cell (o + i) (by omega)]; exact hr i v hi
 have hRi := h7.lt
 have F4 : Fr (fun k => k = rb ∨ w.heap.size ≤ k) b o mo w w2 := h4.wide (fun _ h => .inl h) (Nat.le_refl _) (by omega)
 have hcz : ∀ r2, st2 = some r2 → czO (n0 + 1) st0 = 1 + czT n0 r2 := fun r2 e => by
  have hg := gotTag hst0 h5
  rw [e] at hg
  exact czO_step hg
 simp only [Qq, UA] at hwf
 obtain ⟨_, hwa, hwe⟩ := hwf
 obtain ⟨zs, hz, hzl⟩ := ze_arr hwa
 have hze := ze_of hz
 rw [hzl] at hze
 have hsl : Jk P ty ety = true := by
  simp only [arrB, UA] at hwa
  exact hwa.1.1.1.1.1.1.2
 have hce : Jh P ety el.cells = true := by
  simp only [arrB, UA] at hwa
  exact hwa.1.1.1.1.1.2
 have eP : JQ { R with rs := x + 2 } G sf (.arr none ty ety el) T vs idx (t + 22) (x + 3) bk = arrRL { R with rs := x + 2 } sf none T vs idx ty (t + 22) (x + 3) bk (fun t => elR { R with rs := x + 2 } G sf el ty ety t (x + 3) bk) := by rw [JQ]
 rw [eP] at hxL hN hle ⊢
 have hs3 : ∀ s', sf = some s' → s' < x + 3 := fun s' e => by rw [hsf] at e; cases e; omega
 have hx5 := fun t => (elR_le (R := { R with rs := x + 2 }) (G := G) (sf := sf) el (ty := ty) (ety := ety) (t := t) (x := x + 3) (bk := bk)).2
 have hxL' : (elR { R with rs := x + 2 } G sf el ty ety ((lenR { R with rs := x + 2 } sf (x + 3) (t + 22 + 5)).2 + nulT none + 15) (x + 3) bk).2.2.1 ≤ L := by
  have := hxL
  simp only [arrRL] at this
  omega
 have hx5' := hx5 ((lenR { R with rs := x + 2 } sf (x + 3) (t + 22 + 5)).2 + nulT none + 15)
 obtain ⟨v0, hv0⟩ : ∃ v, cs[off]? = some v := ⟨_, List.getElem?_eq_getElem (by omega)⟩
 refine RWL.append ?_
 by_cases hnil : v0 = .slice none 0 0
 ·subst hnil
  refine arrRL_ok (R := { R with rs := x + 2 }) (L := L) (el := el) (zs := zs.map MVal.val) (n := mo) (kk.slot _) rfl hwa hze hF hhi cxi (by rw [h1 vs (by omega)]; exact cx.rv) (by show x + 2 < x + 3; omega) (by omega) hs3 (by omega) (by omega) (by omega) (fun t => (elR_le el).1) (by omega) hoff (hr2 off _ hv0) ?_ ?_ ?_
  ·exact elR_ok (R := { R with rs := x + 2 }) (bk := bk) (L := L) (kk.slot _) h16 el (by rw [wfEl_rs]; exact hwe) hsl hce hz (by omega) hs3 (fun t' => by rw [elR_x el { R with rs := x + 2 } ty ety t' ((lenR { R with rs := x + 2 } sf (x + 3) (t + 22 + 5)).2 + nulT none + 15) (x + 3) bk]; exact hxL')
  ·intro ρ3 w3 d st3 v i1 i2 i3 i4 i5 i7
   show RWL P N (kpTail R x _ _) Q ρ3 w3
   have hhi3 := hhi.keep i2 i4
   have F5 : Fr (fun k => k = rb ∨ w.heap.size ≤ k) b o mo w2 w3 := i2.wide (fun k h => .inr (by have h' : k = ri := h; omega)) (by omega) (by omega)
   have F45 := F4.trans F5
   have hsz3 := i2.size
   refine kpTail_ok (ri := ri) (st4 := st3) kk hif hh.er hhi3.ev (by rw [i1 (x + 2) (by omega)]; exact h2) i4 (by omega) (by omega) (by omega) (by omega) ?_ ?_
   ·intro ρ4 r e4 j1
    subst e4
    have hk : off + [v].length ≤ cs.length := by simp only [List.length_cons, List.length_nil]; omega
    refine hQ ρ4 w3 l st2 d r (Q9 off [v] cs) (fun s hs => by rw [j1 s (by omega), i1 s (by omega), h1 s hs]) F45 h5 i3 ?_ (range_splice hr2 i2 i5 hk) (by rw [splice_len hk, hl]) ?_ (fun j hj => by
     have e : ∀ l : List Value, l[j]? = (l.take off)[j]? := fun l => by rw [List.getElem?_take, if_pos hj]
     rw [e, e cs, QZ hk]) ?_
    ·exact h6.keep (i2.block rb h6.lt (fun e => hh.rbb e.symm) (by show ¬ rb = ri; omega)) (i2.block sb (by omega) hh.nb (by show ¬ sb = ri; omega))
    ·refine hset w w3 F _ cs _ ds d (splice_len hk) (fun i hi => ?_) (fun _ h => .inl h) (fun k hk => ?_) hd ?_
     ·rcases hi with hi | hi
      ·have e : ∀ l : List Value, l[i]? = (l.take off)[i]? := fun l => by rw [List.getElem?_take, if_pos hi]
       rw [e, e cs, QZ hk]
      ·have e : ∀ l : List Value, l[i]? = (l.drop (off + [v].length))[i - (off + [v].length)]? := fun l => by rw [List.getElem?_drop]; congr 1; simp only [List.length_cons, List.length_nil]; omega
       rw [e, e cs, splice_drop hk]
     ·have hk' := hFb k hk
      have hkw : k < w.heap.size := by rcases hk' with rfl | hk' <;> omega
      have hkb : k ≠ b := by rcases hk' with rfl | hk'; exact hh.nb; omega
      have hkr : k ≠ rb := by rcases hk' with rfl | hk'; exact hh.ne; omega
      exact F45.block k hkw hkb (by rintro (e | e); exact hkr e; omega)
     ·have hm := splice_mid hk
      simp only [List.length_cons, List.length_nil, Nat.zero_add] at hm
      rw [hm]
      refine Rep.mono (fun k hk => ?_) (fun _ _ => rfl) (.arr none ty ety el) i7
      rcases hk with hk | ⟨hk, hk'⟩
      ·exact .inr (.inl hk)
      ·exact .inr (.inr ⟨by omega, hk'⟩)
    ·cases e2 : st2 with
     | none => rfl
     | some r2 =>
      have hc := hcz r2 e2
      show czT n0 r2 = 0
      rcases hJ with ⟨_, hJ⟩ | hJ <;> omega
   ·intro ρ4 e4 j1
    subst e4
    exact hE ρ4 w3 l st2 j1 F45 h5 i3
  ·intro ρ3 w3 i1 i2 i3
   show Q .ret ρ3 w3
   have F5 : Fr (fun k => k = rb ∨ w.heap.size ≤ k) b o mo w2 w3 := i2.wide (fun k h => .inr (by have h' : k = ri := h; omega)) (by omega) (by omega)
   exact hE ρ3 w3 l st2 i1 (F4.trans F5) h5 (i3 default)
 ·have hl0 : l = [] := by
   cases e2 : st2 with
   | none => exact hnl e2
   | some r2 =>
    have hc := hcz r2 e2
    rcases hJ with ⟨hJ, _⟩ | hJ
    ·rw [hv0] at hJ; cases hJ; exact absurd rfl hnil
    ·omega
  subst hl0
  refine arrRL0_ok (R := { R with rs := x + 2 }) (L := L) (el := el) (flex := flex) (ver := ver) (v0 := v0) (n := mo) (kk.slot _) hwa hF hhi cxi (by rw [h1 vs (by omega)]; exact cx.rv) (by show x + 2 < x + 3; omega) (by omega) hs3 (by omega) (by omega) (by omega) (fun t => (elR_le el).1) (by omega) (hr2 off _ hv0) ?_
  intro ρ3 w3 i1 i2
  show Q .ret ρ3 w3
  have F5 : Fr (fun k => k = rb ∨ w.heap.size ≤ k) b o mo w2 w3 := i2.wide (fun k h => .inr (by have h' : k = ri := h; omega)) (by omega) (by omega)
  exact hE ρ3 w3 [] st2 i1 (F4.trans F5) h5 decArr_nil
theorem RWL.tagsTop {T vs t x bl L m lo : Nat} {tg : Option TgF} {fs : Flds} {ds : List D} {cs cs0 : List Value} (kk : RKOK P R G) (h16 : JC P R.T.i16 .i16 = true) (hh : FH P R rb sb h b o m ev st w) (hne : b < w.heap.size) (hth : w.there b o n) (cx : RCx R.rs sf flex ver rb vs b o ρ) (hx9 : 9 ≤ x) (hs : ∀ s, sf = some s → s < x) (hvx : vs < x) (hxL : (J6 R G sf tg fs T vs t x bl).2.2.1 ≤ L) (hL : L ≤ t) (hN : (J6 R G sf tg fs T vs t x bl).2.1 ≤ N)
  (hwf : wfRF P R G sf fs T m lo = true) (htb : tagTopB P R G tg fs = true) (htg : TgP P R G w T b o n m fs cs tg) (hr : w.rangeAt b o cs) (hl : cs.length = m) (hrep : RepF w (FB sb h w) fs cs ds) (hzf : ZF w' fs cs0) (hgap : ∀ j, gapG fs j = true → cs[j]? = cs0[j]?) (hcz : JO fs = true → flex = true → ∀ l n l1, st = some l → dUv l = some (n, l1) → czT n l1 ≤ 1) {rest : List Jc}
  (hQ : ∀ ρ' w' ds' tags st' cs' tl, (∀ s, s < x → ρ' s = ρ s) → Fr (· = rb) b o n w w' → Got (if tg.isSome && flex then tgD (knOf tg) (tagD ver flex fs) ds else Dec.pure (ds, [])) st (ds', tags) st' → RdAt w' rb sb st' → w'.rangeAt b o (cs' ++ tl) → cs'.length + tl.length = n → RepF w' (FB sb h w') fs cs' ds' → TagsAt w' (FB sb h w') tg (cs' ++ tl) tags → (∀ j, j < lo → (∀ q ∈ knOf tg, q.off ≠ j) → cs'[j]? = cs[j]?) → RWL P N rest Q ρ' w')
  (hE : ∀ ρ' w', ρ' 6 = ev → Fr (· = rb) b o n w w' → (∀ y, Got (if tg.isSome && flex then tgD (knOf tg) (tagD ver flex fs) ds else Dec.pure (ds, [])) st y none) → Q .ret ρ' w') :
  RWL P N ((J6 R G sf tg fs T vs t x bl).1 ++ rest) Q ρ w := by
 have htb0 := htb
 unfold tagTopB at htb
 simp only [UA] at htb
 obtain ⟨htb1, htb2⟩ := htb
 have easy : tagE P R G tg fs = true → RWL P N ((J6 R G sf tg fs T vs t x bl).1 ++ rest) Q ρ w := fun he =>
  RWL.tagsT (L := L) (n := n) (m := m) (lo := lo) (ds := ds) (cs := cs) kk hh hne hth cx hx9 hs hvx hxL hL hN hwf he htg hr hl hrep hQ hE
 cases hty : tagTy fs with
 | none => exact easy (by unfold tagE; rw [htb1, hty]; rfl)
 | some ty =>
  rw [hty] at htb2
  cases hs2 : s2RB ty with
  | true => exact easy (by unfold tagE; rw [htb1, hty]; exact hs2)
  | false =>
   simp only [hs2, Bool.false_or] at htb2
   obtain ⟨aty, ety, el, rfl⟩ := isArr_eq htb2
   have ht : JO fs = true := by
    cases hc : JO fs with
    | true => rfl
    | false => rw [tagTy_no hc] at hty; cases hty
   have hrs7 := cx.hrs
   unfold tagB at htb1
   rw [hty] at htb1
   simp only [UA] at htb1
   obtain ⟨⟨⟨⟨⟨⟨⟨⟨⟨t1, t2⟩, t3⟩, t4⟩, t5⟩, t6⟩, t7⟩, t8⟩, t9⟩, t10⟩ := htb1
   cases htg' : tg with
   | none => rw [htg'] at t2; cases t2
   | some q =>
    rw [htg'] at t2
    obtain ⟨⟨idx', kn⟩, off'⟩ := q
    have hkn : kn = [] := by cases kn with
     | nil => rfl
     | cons a r => simp at t2
    subst hkn
    rw [htg'] at htg hQ hE hxL hN
    obtain ⟨g1, g2, g3, g4, g5, g6, g7⟩ := htg
    simp only at g1 g3
    subst g1
    have noTags : flex = false → ∀ ρ', (∀ s, s < x → ρ' s = ρ s) → RWL P N rest Q ρ' w := by
     intro hno ρ' hρ'
     refine hQ ρ' w ds [] st cs [.map none] hρ' (Fr.refl _ _ _ _ _) (by rw [hno]; exact Got.pure _) hh.rd (range_snoc hr hl g5) (by simp only [List.length_cons, List.length_nil]; omega) hrep ?_ (fun _ _ _ => rfl)
     refine ⟨.map none, [], [], ?_, .inl ⟨rfl, rfl⟩, rfl, rfl, by intro t _ q hq; simp at hq⟩
     show (cs ++ [Value.map none])[m]? = _
     rw [← hl, List.getElem?_append_right (Nat.le_refl _), Nat.sub_self]; rfl
    cases hsf : sf with
    | none =>
     rw [genRT_off ht]
     exact noTags (cx.nf hsf) ρ fun _ _ => rfl
    | some s =>
     obtain ⟨j, idx, off, ty', e0, eO, _, e2, e3, e4, e5, e6, e7, e8, e9⟩ := tag_find ht t1 hwf
     rw [hty] at e0
     cases e0
     have hc1 : (Ty.arr none aty ety el).cells = 1 := rfl
     rw [hc1] at e3 e9
     have hsx := hs s hsf
     rw [← hsf]
     rw [e7 R ((idx', []), m) s T vs t x bl hsf] at hxL hN ⊢
     unfold genTag at hxL hN ⊢
     simp only at hxL hN ⊢
     have hle := genRPay_le (R := { R with rs := x + 2 }) (G := G) (sf := sf) (.arr none aty ety el) (T := T) (vs := vs) (idx := idx) (t := t + 22) (x := x + 3) (bk := bl + 3)
     simp only [List.cons_append, List.nil_append]
     refine RW.sq (RW.rg (RL.s (MR.mv (cx.rf s hsf) (ltT (by omega))) (RL.nil ?_) (by omega)))
     refine RW.cd (b := flex) (Ja _ _ _) (fun e => ?_) (fun e => RW.sk (noTags e _ fun s hs => by (repeat first | rw [Ja] | rw [Jb _ _ (by omega)]))) (by omega)
     generalize hρ0 : upd ρ t _ = ρ0
     have p0 : ∀ s, s < L → ρ0 s = ρ s := fun s hs => by rw [← hρ0]; (repeat first | rw [Ja] | rw [Jb _ _ (by omega)])
     have cx0 := cx.keep (x := x) (ρ' := ρ0) (fun s hs => p0 s (by omega)) hx9 hs hvx
     rw [g2] at hth hQ hE
     have hn0 : cs[off]? = some (.slice none 0 0) := by
      have hg := (gapG_tag (i := 0) hwf hty (by omega)).2
      rw [Nat.add_zero] at hg
      rw [eO, hgap _ hg]
      exact zf_tag hzf hty
     refine kpBody_ok (fun n st' cs' => ((cs'[off]? = some (.slice none 0 0) ∧ czO n st' ≤ 1) ∨ czO n st' = 0) ∧ (∀ j, j < lo → cs'[j]? = cs[j]?)) ?_ ?_ (mo := m) (j := j) (f := dec ver flex (.arr none aty ety el)) (fs := fs) (cs := cs) (ds := ds) kk g4 (ne0 t8) (ne0 t9) (ne0 t10) g3 hh hth cx0 hs hvx hx9 (by omega) (by omega) g5 hr hl hrep ?_ ?_ ?_
     ·intro n st1 hn
      refine ⟨?_, fun _ _ => rfl⟩
      cases st1 with
      | none => exact .inr rfl
      | some l1 =>
       cases hst : st with
       | none => rw [hst] at hn; simp [Got] at hn
       | some l => rw [hst] at hn; exact .inl ⟨hn0, hcz ht e l n l1 hst hn⟩
     ·rintro n k l st2 st4 cs' ⟨h1, h2⟩ hk hg
      refine ⟨?_, h2⟩
      have hm := czO_mono (n := n) hg
      rcases h1 with ⟨h1, h3⟩ | h1
      ·exact .inl ⟨h1, by omega⟩
      ·exact .inr (by omega)
     ·intro Q' F ρ1 w1 st1 cs1 ds1 n0 st0 c0 c00 c1 c2 c3 c4 c5 c6 c7 cN cR
      exact tagCaseL_ok (L := L) (s := s) kk h16 e5 e4 t4 t5 t6 t7 (ne0 t8) (ne0 t9) (ne0 t10) c2 (cx0.keep c1 hx9 hs hvx) hx9 hsf e hsx hvx (by omega) hL (by omega) e3 c4 c5 c7 c6 e9 c0.1 c00 (fun ρ' w' l st' d r cs' i1 i2 i3 i4 i5 i6 i7 i8 i9 i10 => cN ρ' w' l st' d r cs' i1 i2 i3 i4 i5 i6 i7 i8 ⟨.inr i10, fun j hj => (i9 j (by omega)).trans (c0.2 j hj)⟩) cR
     ·intro ρ' w' ux st' cs' ds' mv h1 h2 h3 h4 h5 h6 h7 h8 h9 h10
      show RWL P N rest Q ρ' w'
      refine hQ ρ' w' ds' ux st' cs' [mv] (fun s hs => by rw [h1 s hs, p0 s (by omega)]) h2 ?_ h4 (range_snoc h5 h6 h7) (by simp only [List.length_cons, List.length_nil]; omega) h8 ?_ (fun j hj _ => h10.2 j hj)
      ·rw [if_pos (by rw [e]; rfl), e6]; exact h3
      ·refine ⟨mv, [], ux, ?_, h9, rfl, rfl, by intro t _ q hq; simp at hq⟩
       show (cs' ++ [mv])[m]? = _
       rw [← h6, List.getElem?_append_right (Nat.le_refl _), Nat.sub_self]; rfl
     ·intro ρ' w' h1 h2 h3
      show Q .ret ρ' w'
      refine hE ρ' w' h1 h2 fun y => ?_
      rw [if_pos (by rw [e]; rfl), e6]; exact h3 y
end
set_option linter.unusedVariables false
def Plan.sfR (p : Plan) : Option Nat := p.fl.map fun _ => 9
def Plan.vsR (p : Plan) : Nat := match p.fl with | none => 9 | some _ => 10
def J4 (R : RN) (p : Plan) (t : Nat) : List Jc × Nat :=
 match p.fl with
 | none => ([], t)
 | some k => ([.rg [.mv t (.t 8), .bi (t + 1) .geq R.T.i16 (.t t) (.c (.int .i16 k)), .mv 9 (.t (t + 1))], .rg [.mv (t + 2) (.t 9)]], t + 3)
def cRF (R : RN) (G : TG) (p : Plan) (fDef L : Nat) : Jc × Nat :=
 let h := J4 R p (L + 9)
 let f := Jv R G p.sfR p.fs p.T p.vsR (h.2 + 1) (p.vsR + 1) 0
 let g := J6 R G p.sfR p.tg p.fs p.T p.vsR f.2.1 f.2.2.1 f.2.2.2
 (rows ([.rg [.mv 6 (.c .niface)], .rg [.mv L (.t 0), .ca (L + 1) fDef [.t L]], .rg [.mv (L + 2) (.t 1), .bdl (L + 3) R.tR [(0, .t (L + 2))], .al 7 R.tR, .st R.tR 7 (L + 3)],
  (loadA p.T 0 0 R.T.i16 8 (L + 4)).1, .rg [.mv (L + 8) (.t 8)]] ++ (h.1 ++ ([.rg [.mv h.2 (.t 0), .mv p.vsR (.t h.2)]] ++ (f.1 ++ (g.1 ++ [.rg [.ca g.2.1 R.compl [.t 7], .mv 6 (.t g.2.1)], .rt]))))), g.2.1 + 1)
def Plan.pre (p : Plan) (n : Nat) : Nat := match p.tg with | none => n | some q => q.2
mutual
def ge1 : Df → Nat → Bool
 | .st _ _ off _ _, o => Nat.ble 1 (o + off)
 | .sub _ _ off l, o => geD l (o + off)
def geD : Dfs → Nat → Bool
 | .nil, _ => true
 | .cons d r, o => ge1 d o && geD r o
end
mutual
theorem put1_first {a b : Value} {cs : List Value} : ∀ (d : Df) (o : Nat), ge1 d o = true → ∃ cs', put1 d o (a :: cs) = a :: cs' ∧ put1 d o (b :: cs) = b :: cs'
 | .st _ _ off _ v, o, h => by
  simp only [ge1, Nat.ble_eq] at h
  obtain ⟨k, hk⟩ : ∃ k, o + off = k + 1 := ⟨o + off - 1, by omega⟩
  unfold put1
  rw [hk]
  exact ⟨_, rfl, rfl⟩
 | .sub _ _ off l, o, h => by
  unfold ge1 at h
  unfold put1
  exact putD_first l _ h
theorem putD_first {a b : Value} {cs : List Value} : ∀ (l : Dfs) (o : Nat), geD l o = true → ∃ cs', putD l o (a :: cs) = a :: cs' ∧ putD l o (b :: cs) = b :: cs'
 | .nil, o, h => by unfold putD; exact ⟨cs, rfl, rfl⟩
 | .cons d r, o, h => by
  simp only [geD, UA] at h
  obtain ⟨c1, e1, e2⟩ := put1_first (a := a) (b := b) (cs := cs) d o h.1
  unfold putD
  rw [e1, e2]
  exact putD_first r o h.2
end
def eqMs : List MVal → List MVal → Bool
 | [], [] => true
 | a :: as, b :: bs => a.is b.val && eqMs as bs
 | _, _ => false
theorem eqMs_eq : ∀ {a b : List MVal}, eqMs a b = true → a.map MVal.val = b.map MVal.val
 | [], [], _ => rfl
 | [], _ :: _, h => by simp [eqMs] at h
 | _ :: _, [], h => by simp [eqMs] at h
 | a :: as, b :: bs, h => by
  simp only [eqMs, UA] at h
  simp only [List.map_cons]
  rw [eqMs_eq h.2, MVal.is_eq h.1]
def cRFt (R : RN) (G : TG) (p : Plan) (L : Nat) : List Jc × Nat × Nat × Nat :=
 J6 R G p.sfR p.tg p.fs p.T p.vsR (Jv R G p.sfR p.fs p.T p.vsR ((J4 R p L).2 + 1) (p.vsR + 1) 0).2.1 (Jv R G p.sfR p.fs p.T p.vsR ((J4 R p L).2 + 1) (p.vsR + 1) 0).2.2.1 (Jv R G p.sfR p.fs p.T p.vsR ((J4 R p L).2 + 1) (p.vsR + 1) 0).2.2.2
def tgB (P : Program) (R : RN) (G : TG) (p : Plan) (rest : List MVal) : Bool := match p.tg with | none => true | some q => Nat.beq (rest.length + 1) (q.2 + 1) && Jd P p.T q.1.1 q.2 && krB P R G p.T q.2 p.fs q.1.2 && defTag p.tg (.int .i16 0 :: rest) && !(Nat.beq G.fRead 0) && tag1 p.tg
def rfB (P : Program) (R : RN) (G : TG) (p : Plan) (fDef : Nat) (df : Dfs) (rest : List MVal) (L N : Nat) : List Bool :=
 [wfRF P R G p.sfR p.fs p.T (p.pre (rest.length + 1)) 1, Jd P p.T 0 0, Nat.ble (cRFt R G p (L + 9)).2.2.1 L, Nat.ble (cRF R G p fDef L).2 N, JC P R.T.i16 .i16, Jm P R.T.i16,
  zfB p.fs ((.int .i16 0 :: rest).take (p.pre (rest.length + 1))), geD df 0, eqMs (putM df 0 (.int .i16 0 :: rest)) (.int .i16 0 :: rest),
  isFn0 P fDef (rows (genD 0 df (QK df) 2).1) (genD 0 df (QK df) 2).2.1, okD P (rest.length + 1) df 0, Nat.ble (genD 0 df (QK df) 2).2.2 (QK df),
  zeroIs P R.tR [.nslice, .bool false], plcB P R.tR 2, Jh P R.tR 2,
  tgB P R G p rest, Nat.beq R.rs 7, tagTopB P R G p.tg p.fs]
section
variable {P : Program} {N : Nat} {Q : UE} {ρ : Nat → Value} {w w' : World} {ms : List MOp} {R : RN} {G : TG} {rb sb h b o n : Nat} {ev : Value} {st st' : Option (List UInt8)} {sf : Option Nat} {flex : Bool} {ver : Int}
def oneTag (p : Plan) (ver : Int) (l : List UInt8) : Prop := JO p.fs = true → p.flex ver = true → ∀ ds l1 n l2, decF ver (p.flex ver) p.fs l = some (ds, l1) → dUv l1 = some (n, l2) → czT n l2 ≤ 1
def RFC (P : Program) (f : Nat) (p : Plan) (gE : Nat) (rest : List MVal) : Prop := Jo P f = true ∧ ∀ (w : World) (b sb : Nat) (ad : Option Addr) (l : List UInt8) (c : Nat) (ver : Int) (ev : Value), w.rangeAt b 0 (.int .i16 ver :: rest.map MVal.val) → w.there b 0 (rest.length + 1) → Jg w (· = sb) ad l → okAd ad → l.length ≤ c → sb < w.heap.size → sb ≠ b → w.cell? ⟨gE, 0, none⟩ = some ev → gE ≠ b → isErr ev → oneTag p ver l →
 Calls P f #[.pointer (some ⟨b, 0, none⟩), .slice ad l.length c, .bool false] w (fun e w' => Fr (fun _ => False) b 0 (rest.length + 1) w w' ∧
  ((∃ ds tags r cs, decTop p ver l = some ((ds, tags), r) ∧ e = .returned MVal.niface.val ∧ MsgAt w' (fun k => k = b ∨ k = sb ∨ (w.heap.size ≤ k ∧ k < w'.heap.size)) p ⟨b, 0, none⟩ ver ds tags cs) ∨ (decTop p ver l = none ∧ e = .returned ev)))
theorem Got.top {p : Plan} {ver : Int} {ds ds' : List D} {tags : List Tg} {st1 st2 : Option (List UInt8)} (h1 : Got (decF ver (p.flex ver) p.fs) st ds st1) (h2 : Got (if p.tg.isSome && p.flex ver then tgD (knOf p.tg) (tagD ver (p.flex ver) p.fs) ds else Dec.pure (ds, [])) st1 (ds', tags) st2) : Got (decTop p ver) st (ds', tags) st2 := by
 unfold decTop
 exact h1.bind h2
end
section
variable {P : Program} {R : RN} {G : TG}
theorem rf_core {p : Plan} {L N t0 : Nat} {rest : List MVal} {rb sb b : Nat} {ver : Int} {ev : Value} {st : Option (List UInt8)} {w0 w2 : World} {ρ3 : Nat → Value} (kk : RKOK P R G) (hr7 : R.rs = 7) (h5 : JC P R.T.i16 .i16 = true) (h1 : wfRF P R G p.sfR p.fs p.T (p.pre (rest.length + 1)) 1 = true)
  (h3 : (cRFt R G p (t0 + 1)).2.2.1 ≤ L) (hLt : L ≤ t0) (hN : (J6 R G p.sfR p.tg p.fs p.T p.vsR (Jv R G p.sfR p.fs p.T p.vsR ((J4 R p (t0 + 1)).2 + 1) (p.vsR + 1) 0).2.1 (Jv R G p.sfR p.fs p.T p.vsR ((J4 R p (t0 + 1)).2 + 1) (p.vsR + 1) 0).2.2.1 (Jv R G p.sfR p.fs p.T p.vsR ((J4 R p (t0 + 1)).2 + 1) (p.vsR + 1) 0).2.2.2).2.1 + 1 ≤ N)
  (h7 : zfB p.fs ((.int .i16 0 :: rest).take (p.pre (rest.length + 1))) = true) (h16 : tgB P R G p rest = true) (htt : tagTopB P R G p.tg p.fs = true) (hone : ∀ l, st = some l → oneTag p ver l)
  (hrb : w0.heap.size ≤ rb) (hb0 : b < w0.heap.size) (hFH : FH P R rb sb rb b 0 (rest.length + 1) ev st w2) (hr2 : w2.rangeAt b 0 (.int .i16 ver :: rest.map MVal.val)) (ht2 : w2.there b 0 (rest.length + 1)) (F2 : Fr (fun _ => False) b 0 (rest.length + 1) w0 w2)
  (p0 : ρ3 0 = .pointer (some ⟨b, 0, none⟩)) (c7 : ρ3 7 = .pointer (some ⟨rb, 0, none⟩)) (p2 : ρ3 2 = .bool false) (c2 : ρ3 8 = .int .i16 ver) :
  RWL P N (.rg [.mv t0 (.t 8)] :: ((J4 R p (t0 + 1)).1 ++ (.rg [.mv (J4 R p (t0 + 1)).2 (.t 0), .mv p.vsR (.t (J4 R p (t0 + 1)).2)] :: ((Jv R G p.sfR p.fs p.T p.vsR ((J4 R p (t0 + 1)).2 + 1) (p.vsR + 1) 0).1 ++ ((J6 R G p.sfR p.tg p.fs p.T p.vsR (Jv R G p.sfR p.fs p.T p.vsR ((J4 R p (t0 + 1)).2 + 1) (p.vsR + 1) 0).2.1 (Jv R G p.sfR p.fs p.T p.vsR ((J4 R p (t0 + 1)).2 + 1) (p.vsR + 1) 0).2.2.1 (Jv R G p.sfR p.fs p.T p.vsR ((J4 R p (t0 + 1)).2 + 1) (p.vsR + 1) 0).2.2.2).1 ++ [.rg [.ca (J6 R G p.sfR p.tg p.fs p.T p.vsR (Jv R G p.sfR p.fs p.T p.vsR ((J4 R p (t0 + 1)).2 + 1) (p.vsR + 1) 0).2.1 (Jv R G p.sfR p.fs p.T p.vsR ((J4 R p (t0 + 1)).2 + 1) (p.vsR + 1) 0).2.2.1 (Jv R G p.sfR p.fs p.T p.vsR ((J4 R p (t0 + 1)).2 + 1) (p.vsR + 1) 0).2.2.2).2.1 R.compl [.t 7], .mv 6 (.t (J6 R G p.sfR p.tg p.fs p.T p.vsR (Jv R G p.sfR p.fs p.T p.vsR ((J4 R p (t0 + 1)).2 + 1) (p.vsR + 1) 0).2.1 (Jv R G p.sfR p.fs p.T p.vsR ((J4 R p (t0 + 1)).2 + 1) (p.vsR + 1) 0).2.2.1 (Jv R G p.sfR p.fs p.T p.vsR ((J4 R p (t0 + 1)).2 + 1) (p.vsR + 1) 0).2.2.2).2.1)], .rt])))))
   (retQ 6 (fun e w' => Fr (fun _ => False) b 0 (rest.length + 1) w0 w' ∧ ((∃ ds tags r cs, Got (decTop p ver) st (ds, tags) (some r) ∧ e = .returned MVal.niface.val ∧ MsgAt w' (fun k => k = b ∨ k = sb ∨ (w0.heap.size ≤ k ∧ k < w'.heap.size)) p ⟨b, 0, none⟩ ver ds tags cs) ∨ ((∀ x, Got (decTop p ver) st x none) ∧ e = .returned ev)))) ρ3 w2 := by
 have hxx : 9 ≤ p.vsR := by unfold Plan.vsR; split <;> omega
 have hgl := QS (R := R) (G := G) (sf := p.sfR) p.fs (T := p.T) (vs := p.vsR) (t := (J4 R p (t0 + 1)).2 + 1) (x := p.vsR + 1) (bk := 0)
 have hfl : t0 + 1 ≤ (J4 R p (t0 + 1)).2 := by unfold J4; split <;> simp
 have htl' := genRT_le (R := R) (G := G) (sf := p.sfR) (tg := p.tg) p.fs (T := p.T) (vs := p.vsR) (t := (Jv R G p.sfR p.fs p.T p.vsR ((J4 R p (t0 + 1)).2 + 1) (p.vsR + 1) 0).2.1) (x := (Jv R G p.sfR p.fs p.T p.vsR ((J4 R p (t0 + 1)).2 + 1) (p.vsR + 1) 0).2.2.1) (bk := (Jv R G p.sfR p.fs p.T p.vsR ((J4 R p (t0 + 1)).2 + 1) (p.vsR + 1) 0).2.2.2)
 unfold cRFt at h3
 have hL : p.vsR + 1 ≤ L := by omega
 have hlenV : (Value.int .i16 ver :: rest.map MVal.val).length = rest.length + 1 := by simp
 refine RW.rg (RL.s (MR.mv c2 (ltT (by omega))) (RL.nil ?_) (by omega))
 have fin : ∀ (ρ4 : Nat → Value) (t4 : Nat), (∀ s, s < 9 → ρ4 s = ρ3 s) → (∀ s, p.sfR = some s → ρ4 s = .bool (p.flex ver)) → (p.sfR = none → p.flex ver = false) → t4 = (J4 R p (t0 + 1)).2 →
   RWL P N (.rg [.mv t4 (.t 0), .mv p.vsR (.t t4)] :: ((Jv R G p.sfR p.fs p.T p.vsR (t4 + 1) (p.vsR + 1) 0).1 ++ ((J6 R G p.sfR p.tg p.fs p.T p.vsR (Jv R G p.sfR p.fs p.T p.vsR (t4 + 1) (p.vsR + 1) 0).2.1 (Jv R G p.sfR p.fs p.T p.vsR (t4 + 1) (p.vsR + 1) 0).2.2.1 (Jv R G p.sfR p.fs p.T p.vsR (t4 + 1) (p.vsR + 1) 0).2.2.2).1 ++ [.rg [.ca (J6 R G p.sfR p.tg p.fs p.T p.vsR (Jv R G p.sfR p.fs p.T p.vsR (t4 + 1) (p.vsR + 1) 0).2.1 (Jv R G p.sfR p.fs p.T p.vsR (t4 + 1) (p.vsR + 1) 0).2.2.1 (Jv R G p.sfR p.fs p.T p.vsR (t4 + 1) (p.vsR + 1) 0).2.2.2).2.1 R.compl [.t 7], .mv 6 (.t (J6 R G p.sfR p.tg p.fs p.T p.vsR (Jv R G p.sfR p.fs p.T p.vsR (t4 + 1) (p.vsR + 1) 0).2.1 (Jv R G p.sfR p.fs p.T p.vsR (t4 + 1) (p.vsR + 1) 0).2.2.1 (Jv R G p.sfR p.fs p.T p.vsR (t4 + 1) (p.vsR + 1) 0).2.2.2).2.1)], .rt])))
    (retQ 6 (fun e w' => Fr (fun _ => False) b 0 (rest.length + 1) w0 w' ∧ ((∃ ds tags r cs, Got (decTop p ver) st (ds, tags) (some r) ∧ e = .returned MVal.niface.val ∧ MsgAt w' (fun k => k = b ∨ k = sb ∨ (w0.heap.size ≤ k ∧ k < w'.heap.size)) p ⟨b, 0, none⟩ ver ds tags cs) ∨ ((∀ x, Got (decTop p ver) st x none) ∧ e = .returned ev)))) ρ4 w2 := by
  intro ρ4 t4 d1 d2 d3 d4
  subst d4
  refine mv2_ok (L := L) (a := 0) (v := .pointer (some ⟨b, 0, none⟩)) (by rw [d1 0 (by omega)]; exact p0) (by omega) (by omega) (by omega) (by omega) fun ρ5 e1 e2 => ?_
  have cx5 : RCx R.rs p.sfR (p.flex ver) ver rb p.vsR b 0 ρ5 := by
   refine ⟨?_, ?_, ?_, fun s hs => ?_, d3, e2, by omega⟩
   ·rw [hr7, e1 7 (by omega) (by omega), d1 7 (by omega)]; exact c7
   ·rw [e1 2 (by omega) (by omega), d1 2 (by omega)]; exact p2
   ·rw [e1 8 (by omega) (by omega), d1 8 (by omega)]; exact c2
   ·have hs9 : s = 9 ∧ p.vsR = 10 := by
     unfold Plan.sfR at hs; unfold Plan.vsR
     cases hfl' : p.fl with
     | none => rw [hfl'] at hs; simp at hs
     | some k => rw [hfl'] at hs; simp only [Option.map_some, UC] at hs; exact ⟨hs.symm, rfl⟩
    rw [e1 s (by omega) (by omega)]; exact d2 s hs
  have hsx : ∀ s, p.sfR = some s → s < p.vsR + 1 := by
   intro s hs
   unfold Plan.sfR at hs; unfold Plan.vsR
   cases hfl' : p.fl with
   | none => rw [hfl'] at hs; simp at hs
   | some k => rw [hfl'] at hs; simp only [Option.map_some, UC] at hs; simp only; omega
  have hpre : p.pre (rest.length + 1) ≤ rest.length + 1 := by
   unfold Plan.pre
   cases htg : p.tg with
   | none => exact Nat.le_refl _
   | some q => unfold tgB at h16; rw [htg] at h16; simp only [UA, Nat.beq_eq] at h16; simp only; omega
  have hpre1 : 1 ≤ p.pre (rest.length + 1) := by
   unfold Plan.pre
   cases htg : p.tg with
   | none => simp only; omega
   | some q => unfold tgB at h16; rw [htg] at h16; simp only [tag1, UA, Nat.ble_eq] at h16; exact h16.2.1
  have hFHp : FH P R rb sb rb b 0 (p.pre (rest.length + 1)) ev st w2 := ⟨hFH.rd, hFH.ne, hFH.nb, hFH.rbb, hFH.hb, hFH.hr, hFH.hw, hFH.hs, JG (k := 0) ht2 (by omega), hFH.er, hFH.ev, hFH.gb, hFH.gr⟩
  have hzf : ZF w2 p.fs ((Value.int .i16 ver :: rest.map MVal.val).take (p.pre (rest.length + 1))) := by
   have z0 := zf_of (w := w2) h7
   rw [List.map_take, List.map_cons] at z0
   obtain ⟨m, hm⟩ : ∃ m, p.pre (rest.length + 1) = m + 1 := ⟨p.pre (rest.length + 1) - 1, by omega⟩
   rw [hm] at z0 h1 ⊢
   refine ZF.keep (sf := p.sfR) (P := P) (R := R) (G := G) (k := 1) ?_ ?_ p.fs h1 z0
   ·simp [List.take_succ_cons]
   ·simp [List.take_succ_cons]
  refine RWL.append ?_
  refine genRF_ok (L := L) (k := 1) (b := b) (o := 0) (cs := (Value.int .i16 ver :: rest.map MVal.val).take (p.pre (rest.length + 1))) kk h5 p.fs h1 hFHp cx5 (by omega) hsx (by omega) (Nat.le_trans htl'.2 h3) (by omega) (by omega) ?_ ?_ hzf ?_ ?_
  ·intro j v hj
   rw [List.getElem?_take] at hj
   split at hj
   ·exact hr2 j v hj
   ·simp at hj
  ·rw [List.length_take, hlenV]; omega
  ·intro ρ6 w6 ds st6 cs6 k1 k2 k3 k4 k5 k6 k7 k8 k9
   show RWL P N _ _ ρ6 w6
   have hh6 := hFHp.keep k2 k4
   have W6 : Fr (· = rb) b 0 (rest.length + 1) w2 w6 := k2.wide (fun _ h => h) (by omega) (by omega)
   have cx6 := cx5.keep k1 (by omega) hsx (by omega)
   refine RWL.tagsTop (lo := 1) (fs := p.fs) (x := (Jv R G p.sfR p.fs p.T p.vsR ((J4 R p (t0 + 1)).2 + 1) (p.vsR + 1) 0).2.2.1) (L := L) (n := rest.length + 1) (m := p.pre (rest.length + 1)) (ds := ds) (cs := cs6) kk h5 hh6 (Nat.lt_of_lt_of_le (Nat.lt_of_lt_of_le hb0 F2.size) W6.size) (W6.there _ _ ht2) cx6 (by omega) (fun s e => by have := hsx s e; omega) (by omega) h3 (by omega) (by omega) h1 htt ?_ k5 k6 k8 hzf k9 ?_ ?_ ?_
   ·unfold Plan.pre
    cases htg : p.tg with
    | none => exact (rfl : rest.length + 1 = rest.length + 1)
    | some q =>
     unfold tgB at h16
     rw [htg] at h16
     simp only [UA, Nat.beq_eq] at h16
     obtain ⟨⟨⟨⟨⟨q1, q2⟩, qk⟩, q3⟩, q4⟩, q5⟩ := h16
     have q3' : defTag (some q) (.int .i16 ver :: rest) = true := by rw [defTag_first (b := .int .i16 0) q5]; exact q3
     have hpq : p.pre (rest.length + 1) = q.2 := by unfold Plan.pre; rw [htg]
     have hcell : w2.cell? ⟨b, 0 + q.2, none⟩ = some (.map none) := by
      refine hr2 q.2 _ ?_
      simp only [defTag, UA] at q3'
      have q6 := q3'.1
      split at q6
      ·rename_i heq
       have := congrArg (Option.map MVal.val) heq
       rw [← List.getElem?_map] at this
       exact this
      ·simp at q6
     refine ⟨rfl, q1, q2, ne0 q4, ?_, qk, knAt_of qk (cs := (Value.int .i16 ver :: rest.map MVal.val)) (fun p' hp' h1' h2' => ?_) (knAt_def (knDef_cell (cs := .int .i16 ver :: rest) ?_))⟩
     ·rw [k2.cell (0 + q.2) (.inr (by omega))]
      exact hcell
     ·rw [k9 _ (gapG_of h2'), List.getElem?_take, if_pos (by omega)]
     ·simp only [defTag, UA] at q3'; exact q3'.2
   ·intro a1 a2 l6 n6 l7 a3 a4
    have hst : ∃ l, st = some l ∧ decF ver (p.flex ver) p.fs l = some (ds, l6) := by
     rw [a3] at k3
     cases hst : st with
     | none => rw [hst] at k3; simp [Got] at k3
     | some l => rw [hst] at k3; exact ⟨l, rfl, k3⟩
    obtain ⟨l, a5, a6⟩ := hst
    exact hone l a5 a1 a2 ds l6 n6 l7 a6 a4
   ·intro ρ7 w7 ds7 tags st7 cs7 tl j1 j2 j3 j4 j5 j5' j6 j7 j8
    have hh7 := hh6.keep j2 j4
    have F7 : Fr (fun _ => False) b 0 (rest.length + 1) w0 w7 := ((F2.wide (X' := (· = rb)) (fun _ x => x.elim) (Nat.le_refl _) (Nat.le_refl _)).trans (W6.trans j2)).drop (fun k hk => .inr (by omega))
    have hgot : Got (decTop p ver) st (ds7, tags) st7 := Got.top k3 j3
    refine RW.rg (RL.ca (R := fun v w' => v = complV ev st7 ∧ w7 = w') kk.compl.1 ?_ ?_ (by omega) (by simp [MX.lt, Nat.blt_eq]; omega))
    ·simp only [List.map_cons, List.map_nil, xof]
     have c67 := cx6.r7; rw [hr7] at c67; rw [j1 7 (by omega), c67]
     refine Calls.mono (kk.compl.2 w7 rb sb st7 ev j4 hh7.ev) ?_
     rintro e w' ⟨rfl, rfl⟩
     exact ⟨_, rfl, rfl, rfl⟩
    rintro v w8 ⟨rfl, rfl⟩
    refine RL.s (MR.mv (Ja _ _ _) (ltT (by omega))) (RL.nil (RW.rt ⟨F7, ?_⟩)) (by omega)
    rw [Ja]
    cases st7 with
    | none => exact .inr ⟨fun x => hgot, rfl⟩
    | some r =>
     refine .inl ⟨ds7, tags, r, cs7 ++ tl, hgot, rfl, rfl, .inl rfl, j5, ?_, ?_, ?_⟩
     ·have e0 : cs6[0]? = some (.int .i16 ver) := by
       have e3 : ∀ l : List Value, l[0]? = (l.take 1)[0]? := fun l => by rw [List.getElem?_take]; rfl
       rw [e3, k7, List.take_take, Nat.min_eq_left hpre1]
       rfl
      have e7 : cs7[0]? = cs6[0]? := j8 0 (by omega) fun q hq => by
       cases htg : p.tg with
       | none => rw [htg] at hq; simp [knOf] at hq
       | some g =>
        unfold tgB at h16
        rw [htg] at h16 hq
        simp only [tag1, UA, List.all_eq_true, Nat.ble_eq] at h16
        have := h16.2.2 q hq
        omega
      have e8 : cs7[0]? = some (.int .i16 ver) := e7.trans e0
      rw [List.getElem?_append_left (List.getElem?_eq_some_iff.1 e8).1]; exact e8
     ·refine RepF.more (RepF.mono (fun k hk => ?_) (fun k _ => rfl) _ j6)
      rcases hk with hk | ⟨hk, hk'⟩
      ·exact .inr (.inl hk)
      ·exact .inr (.inr ⟨by omega, hk'⟩)
     ·refine j7.mono (fun k hk => ?_) (fun k _ => rfl)
      rcases hk with hk | ⟨hk, hk'⟩
      ·exact .inr (.inl hk)
      ·exact .inr (.inr ⟨by omega, hk'⟩)
   ·intro ρ7 w7 j1 j2 j3
    have F7 : Fr (fun _ => False) b 0 (rest.length + 1) w0 w7 := ((F2.wide (X' := (· = rb)) (fun _ x => x.elim) (Nat.le_refl _) (Nat.le_refl _)).trans (W6.trans j2)).drop (fun k hk => .inr (by omega))
    show Fr _ b 0 _ w0 w7 ∧ _
    refine ⟨F7, .inr ⟨fun x => ?_, ?_⟩⟩
    ·obtain ⟨ds', tags'⟩ := x
     unfold decTop
     refine k3.bind ?_
     exact j3 _
    show Ending.returned (ρ7 6) = _
    rw [j1]
  ·intro ρ6 w6 k1 k2 k3
   show Fr _ b 0 _ w0 w6 ∧ _
   have W6 : Fr (· = rb) b 0 (rest.length + 1) w2 w6 := k2.wide (fun _ h => h) (by omega) (by omega)
   refine ⟨((F2.wide (X' := (· = rb)) (fun _ x => x.elim) (Nat.le_refl _) (Nat.le_refl _)).trans W6).drop (fun k hk => .inr (by omega)), .inr ⟨fun x => ?_, ?_⟩⟩
   ·obtain ⟨ds, tags⟩ := x
    unfold decTop
    refine Got.bind (st2 := none) (k3 []) ?_
    exact rfl
   show Ending.returned (ρ6 6) = _
   rw [k1]
 unfold J4 at fin ⊢
 cases hfl' : p.fl with
 | none =>
  rw [hfl'] at fin
  simp only [List.nil_append] at fin ⊢
  refine fin _ _ (fun s hs => by (repeat first | rw [Ja] | rw [Jb _ _ (by omega)])) (fun s hs => ?_) (fun _ => by unfold Plan.flex; rw [hfl']) rfl
  unfold Plan.sfR at hs; rw [hfl'] at hs; simp at hs
 | some k =>
  have hfN : t0 + 1 + 3 ≤ N := by have := hfl; unfold J4 at hfl hgl hN htl'; rw [hfl'] at hgl htl' hN; simp only at hgl htl' hN; have := htl'.1; omega
  rw [hfl'] at fin
  simp only [List.cons_append, List.nil_append] at fin ⊢
  refine RW.rg (RL.s (MR.mv (v := .int .i16 ver) (by show upd _ _ _ 8 = _; (repeat first | rw [Ja] | rw [Jb _ _ (by omega)]); exact c2) (ltT (by omega))) (RL.s (MR.biE (v := .bool (decide ((k : Int) ≤ ver))) (by show evB .geq (upd _ _ _ _) (.int .i16 (k : Nat)) = _; rw [Ja]; rfl) (ltT (by omega)) rfl) (RL.s (MR.mv (Ja _ _ _) (ltT (by omega))) (RL.nil ?_) (by omega)) (by omega)) (by omega))
  refine RW.rg (RL.s (MR.mv (Ja _ _ _) (ltT (by omega))) (RL.nil ?_) (by omega))
  refine fin _ _ (fun s hs => by (repeat first | rw [Ja] | rw [Jb _ _ (by omega)])) (fun s hs => ?_) (fun hs => ?_) rfl
  ·unfold Plan.sfR at hs; rw [hfl'] at hs
   simp only [Option.map_some, UC] at hs
   subst hs
   unfold Plan.flex; rw [hfl']
   (repeat first | rw [Ja] | rw [Jb _ _ (by omega)])
  ·unfold Plan.sfR at hs; rw [hfl'] at hs; simp at hs
theorem rf_of {f fDef L N : Nat} {p : Plan} {df : Dfs} {rest : List MVal} (kk : RKOK P R G) (h : (rfB P R G p fDef df rest L N).all id = true) (hf : FnIs P f (cRF R G p fDef L).1 N 6) : RFC P f p R.gErr rest := by
 simp only [rfB, List.all_cons, List.all_nil, id_eq, Bool.and_true, UA, Nat.ble_eq] at h
 obtain ⟨h1, h2, h3, h4, h5, h6, h7, h8, h9, h10, h11, h12, h13, h14, h15, h16, h17, h18⟩ := h
 have hdef : DefD P fDef (rest.length + 1) df := defD_of (Qz.of h10) h11 h12
 refine ⟨hf.ent, fun w b sb ad l c ver ev hr ht hb had hlc hsb hne hev hgb her hone => ?_⟩
 have hxx : 9 ≤ p.vsR := by unfold Plan.vsR; split <;> omega
 have hgl := QS (R := R) (G := G) (sf := p.sfR) p.fs (T := p.T) (vs := p.vsR) (t := (J4 R p (L + 9)).2 + 1) (x := p.vsR + 1) (bk := 0)
 have hfl : L + 9 ≤ (J4 R p (L + 9)).2 := by unfold J4; split <;> simp
 have hN : (J6 R G p.sfR p.tg p.fs p.T p.vsR (Jv R G p.sfR p.fs p.T p.vsR ((J4 R p (L + 9)).2 + 1) (p.vsR + 1) 0).2.1 (Jv R G p.sfR p.fs p.T p.vsR ((J4 R p (L + 9)).2 + 1) (p.vsR + 1) 0).2.2.1 (Jv R G p.sfR p.fs p.T p.vsR ((J4 R p (L + 9)).2 + 1) (p.vsR + 1) 0).2.2.2).2.1 + 1 ≤ N := h4
 have htl' := genRT_le (R := R) (G := G) (sf := p.sfR) (tg := p.tg) p.fs (T := p.T) (vs := p.vsR) (t := (Jv R G p.sfR p.fs p.T p.vsR ((J4 R p (L + 9)).2 + 1) (p.vsR + 1) 0).2.1) (x := (Jv R G p.sfR p.fs p.T p.vsR ((J4 R p (L + 9)).2 + 1) (p.vsR + 1) 0).2.2.1) (bk := (Jv R G p.sfR p.fs p.T p.vsR ((J4 R p (L + 9)).2 + 1) (p.vsR + 1) 0).2.2.2)
 have h3' := h3
 unfold cRFt at h3'
 have hL : p.vsR + 1 ≤ L := by omega
 have hbw : b < w.heap.size := World.block_lt_of_cell? w _ (hr 0 _ rfl)
 have hlenV : (Value.int .i16 ver :: rest.map MVal.val).length = rest.length + 1 := by simp
 have hput : putD df 0 (.int .i16 ver :: rest.map MVal.val) = .int .i16 ver :: rest.map MVal.val := by
  obtain ⟨cs', e1, e2⟩ := putD_first (a := Value.int .i16 0) (b := .int .i16 ver) (cs := rest.map MVal.val) df 0 h8
  have e3 := eqMs_eq h9
  rw [putM_val] at e3
  simp only [List.map_cons, MVal.val] at e3
  rw [e1] at e3
  rw [e2, (List.cons.inj e3).2]
 refine hf.runs (args := [.pointer (some ⟨b, 0, none⟩), .slice ad l.length c, .bool false]) (by simp; omega) (by omega) ?_
 simp only [cRF]
 refine RWL.rows ?_
 simp only [List.cons_append, List.nil_append]
 refine mvc_ok (L := L) (by omega) (by omega) fun ρ1 a1 a2 => ?_
 have p0 : ρ1 0 = .pointer (some ⟨b, 0, none⟩) := by rw [a1 0 (by omega) (by omega)]; rfl
 have p1 : ρ1 1 = .slice ad l.length c := by rw [a1 1 (by omega) (by omega)]; rfl
 have p2 : ρ1 2 = .bool false := by rw [a1 2 (by omega) (by omega)]; rfl
 refine RW.rg (RL.s (MR.mv p0 (ltT (by omega))) (RL.ca (R := fun _ w' => w'.rangeAt b 0 (.int .i16 ver :: rest.map MVal.val) ∧ Fr (fun _ => False) b 0 (rest.length + 1) w w') hdef.1 ?_ ?_ (by omega) (by simp [MX.lt, Nat.blt_eq]; omega)) (by omega))
 ·simp only [List.map_cons, List.map_nil, xof]
  rw [Ja]
  refine Calls.mono (hdef.2 w b 0 _ hr ht hlenV) ?_
  rintro e w' ⟨rfl, g1, g2⟩
  exact ⟨_, rfl, by rw [hput] at g1; exact g1, g2⟩
 rintro v1 w1 ⟨hr1, F1⟩
 refine RL.nil ?_
 have hb1 : Jg w1 (· = sb) ad l := hb.mono (fun _ h => h) (fun k hk => by rw [hk]; exact F1.block sb hsb hne (fun x => x))
 have hz := QX h13
 refine RW.rg (RL.s (MR.mv (v := .slice ad l.length c) (by show upd _ _ _ 1 = _; (repeat first | rw [Ja] | rw [Jb _ _ (by omega)]); exact p1) (ltT (by omega))) (RL.s (MR.bdl (w' := w1) (v := .agg #[.slice ad l.length c, .bool false]) ?_ (by simp [MX.lt, Nat.blt_eq]; omega)) (RL.alst (z := [.slice none 0 0, .bool false]) (cs := [.slice ad l.length c, .bool false]) (n := 2) hz (Ja _ _ _) (by omega) rfl rfl h15 rfl ?_ (by omega) (by omega)) (by omega)) (by omega))
 ·have hbd := built_of (z := [.slice none 0 0, .bool false]) (parts := [(0, .slice ad l.length c)]) (cells := [.slice ad l.length c, .bool false]) hz h14 (by simp [Value.cells]) rfl w1
  simp only [List.map_cons, List.map_nil, xof]
  rw [Ja]
  exact hbd
 intro w2 b2 s2 r2 t2
 refine RL.nil ?_
 have hs1 := F1.size
 have R2 : RdAt w2 w1.heap.size sb (some l) := by
  refine ⟨ad, c, r2, t2, had, hlc, fun j y hj => ?_⟩
  obtain ⟨g, o, e1, e2, e3⟩ := hb1 j y hj
  exact ⟨g, o, e1, e2, b2.kp _ _ e3⟩
 have hr2 : w2.rangeAt b 0 (.int .i16 ver :: rest.map MVal.val) := JV hr1 (b2.block b (by omega))
 have ht2 : w2.there b 0 (rest.length + 1) := JE (F1.there _ _ ht) (b2.block b (by omega))
 have F2 : Fr (fun _ => False) b 0 (rest.length + 1) w w2 := F1.trans (Fr.ofBelow b2 (by omega))
 refine loadR_ok (L := L) (b := b) (o := 0) (off := 0) (v := .int .i16 ver) h2 h6 (by (repeat first | rw [Ja] | rw [Jb _ _ (by omega)]); exact p0) (hr2 0 _ rfl) (by omega) (by omega) (by omega) (by omega) fun ρ3 c1 c2 => ?_
 have keep3 : ∀ s, s < 6 → ρ3 s = ρ1 s := fun s hs => by rw [c1 s (by omega) (by omega)]; (repeat first | rw [Ja] | rw [Jb _ _ (by omega)])
 have c7 : ρ3 7 = .pointer (some ⟨w1.heap.size, 0, none⟩) := by rw [c1 7 (by omega) (by omega)]; (repeat first | rw [Ja] | rw [Jb _ _ (by omega)])
 have hrun := rf_core (p := p) (L := L) (N := N) (t0 := L + 8) (rest := rest) (rb := w1.heap.size) (sb := sb) (b := b) (ver := ver) (ev := ev) (st := some l) (w0 := w) (w2 := w2) (ρ3 := ρ3) kk (by simpa using h17) h5 h1 h3 (by omega) hN h7 h16 h18 (fun l' e => by cases e; exact hone) hs1 hbw
  ⟨R2, by omega, hne, by omega, by omega, Nat.le_refl _, by omega, by omega, ht2, her, b2.kp _ _ (by rw [Ji (F1.block _ (World.block_lt_of_cell? w _ hev) hgb (fun x => x))]; exact hev), hgb, by have := World.block_lt_of_cell? w _ hev; exact fun e => by simp only at this; omega⟩ hr2 ht2 F2 (by rw [keep3 0 (by omega)]; exact p0) c7 (by rw [keep3 2 (by omega)]; exact p2) c2
 refine RWL.mono hrun ?_
 intro e ρ' w' h
 cases e <;> first | exact h | skip
 obtain ⟨h1, ⟨ds, tags, r, cs, h2, h3, h4⟩ | ⟨h2, h3⟩⟩ := h
 ·exact ⟨h1, .inl ⟨ds, tags, r, cs, h2, h3, h4⟩⟩
 ·exact ⟨h1, .inr ⟨h2 default, h3⟩⟩
end
section
variable {P : Program} {N : Nat} {Q : UE} {ρ : Nat → Value} {w w' : World} {ms : List MOp} {d : Nat} {v : Value}
theorem MR.nxt {it : Nat} (hr : ∀ ty, (Instr.next (ρ it) false ty).run P w = .ok v w') (hi : it < N := by decide) : MR P N (.nxt d it) ρ w d v w' := by
 intro a o hl hf
 generalize hop : o.op = op at hf
 unfold execOp
 cases op <;> try (simp only [Jf, UB] at hf; done)
 rename_i x b
 cases b <;> simp only [Jf, UA, UB] at hf
 exact ⟨Jl hf.1, by simp only [hop, Sem.run_bind, tmpL hl hi hf.2, hr, Result.andThen_ok, Sem.run_pure]⟩
theorem MR.ent {it : Nat} (hr : (Instr.entry (ρ it)).run P w = .ok v w') (hi : it < N := by decide) : MR P N (.ent d it) ρ w d v w' := by
 intro a o hl hf
 generalize hop : o.op = op at hf
 unfold execOp
 cases op <;> try (simp only [Jf, UB] at hf; done)
 simp only [Jf, UA, UB] at hf
 exact ⟨Jl hf.1, by simp only [hop, Sem.run_bind, tmpL hl hi hf.2, hr, Result.andThen_ok, Sem.run_pure]⟩
theorem MR.apk {T U y : Nat} (hr : ∀ ty, (Builtin.append_ #[T, U] ty #[.slice none 0 0, ρ y]).run P w = .ok v w') (hy : y < N := by decide) : MR P N (.apk d T U y) ρ w d v w' := by
 refine MR.builtin (b := .append) (T := [T, U]) (xs := [.c .nslice, .t y]) (fun o hf => ?_) (by simp [MX.lt, Nat.blt_eq, hy]) (fun ty cs => by
   show (Go.builtin Builtin.append #[T, U] ty cs #[.slice none 0 0, ρ y]).run P w = _
   simp only [Go.builtin, Sem.run_bind, hr ty, Result.andThen_ok, Sem.run_pure])
 generalize hop : o.op = op at hf
 cases op <;> try (simp only [Jf, UB] at hf; done)
 rename_i c
 obtain ⟨callee, args, ats⟩ := c
 cases callee <;> try (simp only [Jf, UB] at hf; done)
 case builtin b =>
  cases b <;> try (simp only [Jf, UB] at hf; done)
  simp only [Jf, UA] at hf
  obtain ⟨h1, h2⟩ := hf
  generalize hA : args.toList = A at h2
  generalize hB : ats.toList = B at h2
  match A, B, h2 with
  | [x, z], [t', u'], h2 =>
   simp only [UA, Nat.beq_eq] at h2
   obtain ⟨⟨⟨g1, g2⟩, g3⟩, g4⟩ := h2
   refine ⟨Jl h1, args, ats, rfl, .inl (by rw [hB, g3, g4]), ?_⟩
   rw [hA]
   simp only [allX, UA, and_true]
   refine ⟨g1, ?_⟩
   rw [J0 g2]; simp [MX.is]
theorem RL.cav {f g : Nat} {lb : List Value} {xs : List MX} {R : Value → World → Prop} (he : Jo P g = true) (hfv : ρ f = .func (.func g) #[] lb.toArray)
  (hc : Calls P g (xs.map (xof ρ) ++ lb).toArray w (fun e w' => ∃ v, e = .returned v ∧ R v w'))
  (h : ∀ v w', R v w' → RL P N ms Q (upd ρ d v) w') (hd : d < N := by decide) (hfN : f < N := by decide) (hx : ∀ x ∈ xs, MX.lt N x = true := by simp [MX.lt, Nat.blt_eq]) : RL P N (.cav d f xs :: ms) Q ρ w := by
 intro a ha ops l hl
 cases l with
 | nil => simp [fitOps] at hl
 | cons o os =>
  simp only [fitOps, UA] at hl
  obtain ⟨ho, hs⟩ := hl
  have hgd : o.guard = none := by
   simp only [Qs, UA, Option.isNone_iff_eq_none] at ho; exact ho.1
  refine wpList_plain hgd fun K hK => ?_
  have hf := JM ho
  obtain ⟨dst, op, type, pos, after, guard⟩ := o
  dsimp only at hf hgd
  cases op <;> try (simp only [Jf, UB] at hf; done)
  rename_i c
  obtain ⟨callee, args, ats⟩ := c
  cases callee <;> try (simp only [Jf, UB] at hf; done)
  case value x =>
   cases x <;> try (simp only [Jf, UB] at hf; done)
   simp only [Jf, UA, Nat.beq_eq] at hf
   obtain ⟨⟨h1, h2⟩, h3⟩ := hf
   subst h2
   have hdst := Jl h1
   subst hdst
   have hargs : args.map a.eval = (xs.map (xof ρ)).toArray := by
    apply Array.toList_inj.1
    rw [Array.toList_map, allX_evalL ha hx h3]
   have hfe : a.eval (.tmp f) = .func (.func g) #[] lb.toArray := by
    have := ha.get f hfN
    rw [hfv] at this
    exact this
   have hrun : (execOp a.eval ⟨some d, .call ⟨.value (.tmp f), args, ats⟩, type, pos, after, guard⟩).run P w = .ok (.enter g (xs.map (xof ρ) ++ lb).toArray) w := by
    simp only [execOp, resolve, hfe, Deferred.ofValue, Sem.run_bind, Sem.run_pure, Result.andThen_ok, invoke, Array.empty_append]
    rw [hargs]
    have e : (xs.map (xof ρ)).toArray ++ lb.toArray = (xs.map (xof ρ) ++ lb).toArray := by simp
    rw [e, QV he]
   unfold Oper.wp
   rw [hrun, Oper.upon_enter]
   refine Calls.mono hc ?_
   rintro e w' ⟨v, rfl, hR⟩
   exact hK _ _ (h v w' hR _ (ha.put hd) ops os hs)
end
/-! ### A range over a map -/
section
variable {P : Program} {w : World}
def setHeap (w : World) (r : Nat) (o : Obj) : World := { w with heap := w.heap.setIfInBounds r o }
theorem run_nextG (it bm since c0 clock : Nat) (seen : Array Nat) (es : Array MapEntry) (hb : w.heap[bm]? = some (.map es clock)) (hi : w.heap[it]? = some (.mapIter (some bm) since seen c0)) (hold : ∀ x ∈ es.toList, x.born < since) (hsc : since ≤ c0) :
  ((leftOf es seen).size = 0 ∧ ∀ ty, (Instr.next (.pointer (some ⟨it, 0, none⟩)) false ty).run P w = .ok (.tuple #[.bool false]) w) ∨
  ∃ e ∈ (leftOf es seen).toList, ∃ w1 : World, w1.heap = w.heap ∧ w1.os = w.os ∧ w1.tape = w.tape ∧ w1.output = w.output ∧ ∀ ty, (Instr.next (.pointer (some ⟨it, 0, none⟩)) false ty).run P w = .ok (.tuple #[.bool true, e.key, e.val]) (setHeap w1 it (.mapIter (some bm) since (seen.push e.born) clock)) := by
 simp only [Instr.next, getObj, Sem.run_bind, Sem.run, hi, hb, Result.andThen, next_test_false seen es since c0 hold hsc, UB, if_false]
 unfold leftOf
 have hmem : ∀ x ∈ (Array.filter (fun e => !seen.contains e.born) es).toList, x.born < since := fun x hx => hold x (by simp at hx ⊢; exact hx.1)
 generalize Array.filter (fun e => !seen.contains e.born) es = L at hmem ⊢
 have e1 : L.filter (fun x => decide (x.born < since)) = L := Array.filter_eq_self.2 (fun x hx => by simpa using hmem x (by simpa using hx))
 have e2 : L.filter (fun x => decide (x.born ≥ since)) = #[] := by
  rw [Array.filter_eq_empty_iff]
  intro x hx
  have := hmem x (by simpa using hx)
  simp
  omega
 simp only [e1, e2, Array.append_empty]
 by_cases h0 : L.size = 0
 ·left
  have : L = #[] := Array.eq_empty_of_size_eq_zero h0
  subst this
  refine ⟨rfl, fun ty => ?_⟩
  simp [choose, Sem.run, Question.forced]
 ·right
  have hne : L.isEmpty = false := by simp [Array.isEmpty, h0]
  simp only [hne, UB, if_false, Array.empty_append, Array.size_map]
  have hch : ∃ (j : Nat) (w1 : World), j < L.size ∧ w1.heap = w.heap ∧ w1.os = w.os ∧ w1.tape = w.tape ∧ w1.output = w.output ∧ (choose (Question.mapNext L.size)).run P w = .ok j w1 := by
   by_cases hf : L.size ≤ 1
   ·exact ⟨0, w, by omega, rfl, rfl, rfl, rfl, by simp [choose, Sem.run, Question.forced, hf]⟩
   ·exact ⟨_, w.drew, Nat.mod_lt _ (by omega), rfl, rfl, rfl, rfl, by
     simp only [choose, Sem.run, Question.forced, decide_eq_true_eq, hf, if_false, Question.cut]
     rfl⟩
  obtain ⟨j, w1, hj, hh, ho, ht, hou, hrun⟩ := hch
  refine ⟨L[j], by simp, w1, hh, ho, ht, hou, fun ty => ?_⟩
  have hset : ∀ o' : Obj, (setObj it o').run P w1 = .ok () (setHeap w1 it o') := fun o' => by
   simp only [setObj, Sem.run, hh, hi]
   simp [setHeap, hh]
  simp only [hrun, Array.getElem?_map, Array.getElem?_eq_getElem hj, Option.map_some, Sem.run_bind, hset, Result.andThen]
  rfl
theorem run_entryG (it bm since clock : Nat) (seen : Array Nat) (es : Array MapEntry) (e : MapEntry) (hb : w.heap[bm]? = some (.map es clock)) (hi : w.heap[it]? = some (.mapIter (some bm) since (seen.push e.born) clock)) (he : e ∈ es.toList) (hn : (es.toList.map (·.born)).Nodup) :
  (Instr.entry (.pointer (some ⟨it, 0, none⟩))).run P w = .ok (.tuple #[e.key, e.val]) w := by
 have hf : es.find? (·.born == e.born) = some e := by rw [← Array.find?_toList]; exact find_born e es.toList hn he
 simp only [Instr.entry, getObj, Sem.run_bind, Sem.run, hi, hb, Result.andThen, Array.back?_push, bne_self_eq_false, UB, if_false, hf]
 rfl
end
end Go.Kx
