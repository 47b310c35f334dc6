/- The laws FnNew.. of messages with a known tag: impl.NewX, the law as one test. Conditions: the program passes it. -/
import Derived.Test.YtffglmphlpofbaaKxK
namespace Go.Kx
open Go.RowKit
set_option linter.unusedSimpArgs false
set_option linter.unusedVariables false

/-- A known tag: its field, how it is held against its default; the tags' place, slots. -/
structure KTN where
  kc : KC
  idx : Nat
  off : Nat
  e : Nat
  tgi : Nat
  toff : Nat
  tks : Nat
  ek : Nat
  u : Nat
  b : Nat
  fD : Nat
  zs : List MVal
  df : Dfs
  fT : Nat
  tM : Nat
  tB : Nat
  tT : Nat

def tailK (I : IA) (p : Plan) (L : Nat) (k : KTN) : List MCode × Nat × Nat := ([tailN I p.T k.idx k.tgi k.tks (fldsA I p L).2.2.1 (fldsA I p L).2.1 k.u k.b k.kc], k.u + 5, L)

def is4 : List MVal → Bool
  | [.int .i32 _, .int .i32 _, .estr, .int .i32 _, .nmap] => true
  | _ => false
theorem is4_eq {l : List MVal} (h : is4 l = true) : ∃ a b c, l = [.int .i32 a, .int .i32 b, .estr, .int .i32 c, .nmap] := by
  unfold is4 at h
  split at h
  · exact ⟨_, _, _, rfl⟩
  · cases h

/-- The field is as by default, by tests of the program and of the new message's cells. -/
def condB (P : Program) (K : KB) (T : Nat) (k : KTN) (cs : List MVal) : List Bool := match k.kc with
  | .list ty => [fieldAtB P T k.idx k.off, sliceOf P ty k.e, plainTy P ty, (match cs[k.off]? with | some .nslice => true | _ => false), Nat.blt 0 k.off]
  | .same ty fC fS => [fieldAtB P T k.idx k.off, P.follows .mixedOrders, rowTy P ty, cellsB P ty 5, isFnC P fC (cClo ty k.fD) 4 0 ty, zeroIs P ty k.zs, Nat.beq k.zs.length 5, isFn0 P k.fD (rows (genD 0 k.df (defT0 k.df) 2).1) (genD 0 k.df (defT0 k.df) 2).2.1, okD P 5 k.df 0, Nat.ble (genD 0 k.df (defT0 k.df) 2).2.2 (defT0 k.df),
      is4 (putM k.df 0 k.zs), eqMs ((cs.drop k.off).take 5) (putM k.df 0 k.zs), isFn P fS (cSame4 ty K.T.i32 K.T.str k.tT k.fT) 38 4, (List.range 5).all (fun j => fieldAtB P ty j j), plainTy P K.T.i32, plainTy P K.T.str, rowTy P k.tT, cellsB P k.tT 1,
      isFn P k.fT (cTSame k.tT k.tM k.tB K.T.int) 56 4, mapU P k.tM, mapTy P k.tM, plainTy P k.tM, boolTy P k.tB, fieldAtB P k.tT 0 0, Nat.blt 0 k.off]

section
variable {P : Program} {w w' : World} {Q : Exit → (Nat → Value) → World → Prop} {ρ : Nat → Value}

theorem cond_of {K : KB} {I : IA} {T N t : Nat} {k : KTN} {rest : List MVal} (h : (condB P K T k (.int .i16 0 :: rest)).all id = true) (ht : 0 < t) (hN : t + 7 ≤ N) {w : World} {b B : Nat} {v : Value} (hbB : b < B) (hr : w.rangeAt b 0 (v :: rest.map MVal.val)) : CondC P N I T k.idx k.kc t b 0 B w := by
  unfold condB at h
  cases hk : k.kc with
  | list ty =>
    simp only [hk, List.all_cons, List.all_nil, id_eq, Bool.and_true, Bool.and_eq_true, Nat.blt_eq] at h
    obtain ⟨h1, h2, h3, h4, h5⟩ := h
    refine cond_list h1 h2 h3 ?_ hbB ht (by omega)
    obtain ⟨o, ho⟩ : ∃ o, k.off = o + 1 := ⟨k.off - 1, by omega⟩
    rw [ho] at h4 ⊢
    split at h4
    · rename_i hq
      simp only [List.getElem?_cons_succ] at hq
      have := hr (o + 1) (.slice none 0 0) (by simp only [List.getElem?_cons_succ, List.getElem?_map, hq]; rfl)
      exact this
    · cases h4
  | same ty fC fS =>
    simp only [hk, List.all_cons, List.all_nil, id_eq, Bool.and_true, Bool.and_eq_true, Nat.blt_eq, Nat.beq_eq, Nat.ble_eq] at h
    obtain ⟨h1, h2, h3, h4, h5, h6, h7, h8, h9, h10, h11, h12, h13, h14, h15, h16, h17, h18, h19, h20, h21, h22, h23, h24, h25⟩ := h
    obtain ⟨a, b', c, h4c⟩ := is4_eq h11
    have hcs : putD k.df 0 (k.zs.map MVal.val) = [.int .i32 a, .int .i32 b', .string ⟨#[]⟩, .int .i32 c, .map none] := by rw [← putM_val, h4c]; rfl
    have hdef : DefC P k.fD (k.zs.map MVal.val) [.int .i32 a, .int .i32 b', .string ⟨#[]⟩, .int .i32 c, .map none] := by
      rw [← hcs]
      exact defC_of (defD_of (n := 5) (FnIs0.of h8) h9 h10) (by simpa using h7)
    have hclo : CloC P fC [.int .i32 a, .int .i32 b', .string ⟨#[]⟩, .int .i32 c, .map none] := clo_of (n := 5) (FnIsC.of h5) (zeroIs_of h6) h3 h4 (by simpa using h7) rfl hdef (by simp [h7])
    have hsame : SameSC P fS [.int .i32 a, .int .i32 b', .string ⟨#[]⟩, .int .i32 c, .map none] :=
      same4_ok (fun j hj => List.all_eq_true.1 h14 j (List.mem_range.2 hj)) h15 h16 h17 h18 (tsame_ok h20 h21 h22 h23 h24 (FnIs.of h19)) (FnIs.of h13)
    refine cond_same (cs := [.int .i32 a, .int .i32 b', .string ⟨#[]⟩, .int .i32 c, .map none]) h2 h1 h3 h4 ?_ hbB ht hN hclo hsame
    obtain ⟨o, ho⟩ : ∃ o, k.off = o + 1 := ⟨k.off - 1, by omega⟩
    have e := eqMs_eq h12
    rw [h4c, ho] at e
    simp only [List.drop_succ_cons] at e
    rw [ho]
    intro j u hj
    have e2 : ((rest.drop o).take 5).map MVal.val = [.int .i32 a, .int .i32 b', .string ⟨#[]⟩, .int .i32 c, .map none] := e
    have hj' : (((rest.drop o).take 5).map MVal.val)[j]? = some u := by rw [e2]; exact hj
    rw [List.getElem?_map, List.getElem?_take] at hj'
    split at hj'
    · rw [List.getElem?_drop, ← List.getElem?_map] at hj'
      have := hr (o + j + 1) u (by rw [List.getElem?_cons_succ]; exact hj')
      rw [show 0 + (o + 1) + j = 0 + (o + j + 1) from by omega]
      exact this
    · cases hj'

theorem condN_le {I : IA} {T idx t : Nat} {k : KC} : t ≤ (condN I T idx k t).2.1 ∧ (condN I T idx k t).2.1 < (condN I T idx k t).2.2 ∧ (condN I T idx k t).2.2 ≤ t + 7 := by
  cases k <;> simp [condN]

theorem new_ofK {K : KB} {g : TN} {f fPtr fSet fAp most : Nat} {pl : Plan} {L N : Nat} {ds : List D} {rest : List MVal} {k : KTN} (kk : KOK P K) (tg : TgOK P g K.T) (h16 : K.T.i16 ≠ 0) (c16 : cellsB P K.T.i16 1 = true)
    (hf : FnIs P f (cNew K.T fPtr fSet fAp) 11 2) (hp : PtrC P fPtr (.int .i16 0 :: rest.map MVal.val)) (hs : FnIs0 P fSet (cSet K.T pl.T) 8) (hF : fieldAtB P pl.T 0 0 = true)
    (ha : FnIs P fAp (topG (K.ia g) pl L (tailK (K.ia g) pl L k)) N 4) (hok : okTop P (K.ia g) pl L N = true) (hm : most < 32768)
    (hpt : pl.tg = some (k.tgi, k.toff)) (hfl : pl.fl.isSome = true) (hks : sliceOf P k.tks k.ek = true) (hcb : (condB P K pl.T k (.int .i16 0 :: rest)).all id = true) (hu : (fldsA (K.ia g) pl L).2.1 + 25 ≤ k.u) (huN : k.u + 6 ≤ N) (hLt : L ≤ (fldsA (K.ia g) pl L).2.1) (hxL : (fldsA (K.ia g) pl L).2.2.1 < L) (hx6 : 6 < (fldsA (K.ia g) pl L).2.2.1) (hto : (match rest[k.toff - 1]? with | some .nmap => true | _ => false) = true) (hto0 : 0 < k.toff)
    (hrep : ∀ (w : World) (F : Nat → Prop) (v : Nat), RepF w F pl.fs (.int .i16 (v : Nat) :: rest.map MVal.val) ds) (htg : ∀ (w : World) (F : Nat → Prop) (v : Nat), TagsAt w F pl.tg (.int .i16 (v : Nat) :: rest.map MVal.val) []) (hsm : SmF (· = []) pl.fs ds)
    (hlen : ∀ v, v ≤ most → (encTop pl (v : Nat) ds []).length ≤ 1000000) : NewC P K.T.u8 f most (fun v => encTop pl (v : Nat) ds []) := by
  refine ⟨hf.ent, fun w v hv => ?_⟩
  have tk := kk.tk
  simp only [okTop, Bool.and_eq_true, decide_eq_true_eq] at hok
  obtain ⟨⟨⟨⟨⟨⟨o1, o2⟩, o3⟩, o4⟩, o5⟩, o6⟩, o7⟩ := hok
  rw [hpt] at o2
  simp only [wfT, Bool.and_eq_true] at o2
  obtain ⟨⟨⟨⟨⟨t1, t2⟩, t3⟩, t4⟩, t5⟩, t6⟩ := o2
  refine hf.runs (args := [.int .i64 (v : Nat)]) (by simp) (by omega) ?_
  refine RW.sq (RW.rg (RL.step MR.mv (RL.nil (RW.sq (RW.rg (RL.ca (R := fun u w' => ∃ b, u = .pointer (some ⟨b, 0, none⟩) ∧ w.heap.size ≤ b ∧ b < w'.heap.size ∧ w'.rangeAt b 0 (.int .i16 0 :: rest.map MVal.val) ∧ w'.there b 0 (Value.int .i16 0 :: rest.map MVal.val).length ∧ Below w.heap.size w w') hp.1 ?_ ?_))))))
  · refine Calls.mono (hp.2 w) ?_
    rintro e w' ⟨b, rfl, h⟩
    exact ⟨_, rfl, b, rfl, h⟩
  rintro u w1 ⟨b, rfl, hb0, hb1, hr1, ht1, bw1⟩
  repeat first | refine RL.step MR.mv ?_ | refine RL.step (MR.biE rfl) ?_ | refine RL.step (MR.b2 rfl) ?_
  refine RL.nil (RW.sq (RW.rg ?_))
  repeat first | refine RL.step MR.mv ?_ | refine RL.step (MR.biE rfl) ?_ | refine RL.step (MR.b2 rfl) ?_
  refine RL.step (MR.cvI rfl tk.int (tk.i16 h16)) ?_
  have hv16 : IntKind.i16.wrap (v : Int) = (v : Nat) := wrap_i16 (by omega) (by omega)
  refine RL.ca (R := fun u w' => w'.rangeAt b 0 (.int .i16 (v : Nat) :: rest.map MVal.val) ∧ Below b w1 w' ∧ w'.heap.size = w1.heap.size) hs.ent ?_ ?_
  · refine Calls.mono (set_of (T := K.T) (v := IntKind.i16.wrap (v : Int)) c16 hs hF hr1 ht1) ?_
    rintro e w' ⟨rfl, h1, h2, h3⟩
    exact ⟨_, rfl, by rw [hv16] at h1; exact h1, h2, h3⟩
  rintro u w2 ⟨hr2, b2, s2⟩
  refine RL.nil (RW.sq (RW.rg ?_))
  repeat first | refine RL.step MR.mv ?_ | refine RL.step (MR.biE rfl) ?_ | refine RL.step (MR.b2 rfl) ?_
  obtain ⟨fn, c, e1, e2, e3, e4, e5⟩ := ha.ex
  have hB2 : b < w2.heap.size := by omega
  have htb : encTop pl (v : Nat) ds [] = encF (v : Nat) (pl.flex (v : Nat)) pl.fs ds ++ (if pl.flex (v : Nat) then encTags [] else []) := by
    unfold encTop; rw [hpt]; simp
  have hcn := @condN_le (K.ia g) pl.T k.idx ((fldsA (K.ia g) pl L).2.1 + 1) k.kc
  have hcall := topG_calls (g := tailK (K.ia g) pl L k) (tb := if pl.flex (v : Nat) then encTags [] else []) (aok_none kk tg) e1 e2 e3 e5 e4 o1 o3 o4 (Nat.le_refl _) (show k.u + 5 + 1 ≤ N by omega) o7 (show (fldsA (K.ia g) pl L).2.1 ≤ k.u + 5 by omega) (show (fldsA (K.ia g) pl L).2.2.1 ≤ L by omega)
    (w := w2) (B := w2.heap.size) (a := ⟨b, 0, none⟩) (ver := (v : Nat)) (ds := ds) (tags := []) (cs := .int .i16 (v : Nat) :: rest.map MVal.val) (sv := .slice none 0 0) (bs := []) (Nat.le_refl _)
    ⟨rfl, hB2, hr2, rfl, hrep w2 _ v, htg w2 _ v⟩ hsm (OwnB.nil _ _ _) (by rw [← htb]; have := hlen v hv; have e : lim = 1099511627776 := rfl; simp only [List.length_nil]; omega) (by
      intro ρ w' h0 hctx hbl
      have hr' : w'.rangeAt b 0 (.int .i16 (v : Nat) :: rest.map MVal.val) := fun j u hj => by rw [cell_of_heap (hbl.block b hB2)]; exact hr2 j u hj
      have hc : w'.cell? ⟨b, 0 + k.toff, none⟩ = some (.map none) := by
        refine hr' k.toff (.map none) ?_
        obtain ⟨o, ho⟩ : ∃ o, k.toff = o + 1 := ⟨k.toff - 1, by omega⟩
        rw [ho] at hto ⊢
        simp only [Nat.add_sub_cancel] at hto
        split at hto
        · rename_i hq
          rw [List.getElem?_cons_succ, List.getElem?_map, hq]; rfl
        · cases hto
      have h6 : ρ 6 = .bool (pl.flex (v : Nat)) := by
        refine (hctx.f1 6 ?_).2.2
        unfold Plan.sf
        cases hq : pl.fl with
        | none => simp [hq] at hfl
        | some x => rfl
      exact tailN_ok (aok_none kk tg) rfl (ne0 t2) (ne0 t3) (ne0 t4) t5 t6 t1 hks (cond_of hcb (by omega) (by omega) hB2 hr') ⟨by omega, by omega⟩ hc hB2 hbl.size h0 h6 hx6 hxL hLt (by omega) (by omega))
  rw [← htb] at hcall
  refine RL.ca (R := fun sv w' => OwnB K.T.u8 w' w2.heap.size sv (encTop pl (v : Nat) ds []) ∧ Below w2.heap.size w2 w') ha.ent ?_ ?_
  · refine Calls.mono hcall ?_
    rintro e w' ⟨sv', rfl, h1, h2⟩
    exact ⟨_, rfl, by simpa [KB.ia] using h1, h2⟩
  rintro sv w3 ⟨o3, b3⟩
  repeat first | refine RL.step MR.mv ?_ | refine RL.step (MR.biE rfl) ?_ | refine RL.step (MR.b2 rfl) ?_
  have bw2 : Below w.heap.size w w2 := bw1.trans (b2.mono hb0)
  exact RL.nil (RW.rt ⟨sv, rfl, o3.rebase bw2.size, bw2.trans (b3.mono bw2.size)⟩)

/-- At every version what is written of the new message is what the reference writes, tags told. -/
def sayKB (n : NL) (ds : List D) : Bool := (List.range (n.most + 1)).all fun v => eqB (encTop n.pl (v : Nat) ds []) (kWrite (toFds n.sx) n.flex (v : Nat) (sDflt (toFds n.sx))) && Nat.ble (encTop n.pl (v : Nat) ds []).length 1000000

def nlKB (P : Program) (K : KB) (g : TN) (S : SN) (n : NL) (k : KTN) : List Bool := [isFn P n.f (cLawNew S n.fMax n.fSpec n.fNew) 22 2, isFn P n.fMax (cMax K.T n.fPtr n.fMv) 4 0, isFn P n.fMv (cMv n.most) 3 2, Nat.blt n.most 32768,
  isFn P n.fPtr (cPtr n.pl.T n.fDef) 3 0, zeroIs P n.pl.T n.zs, isFn0 P n.fDef (rows (genD 0 n.df (defT0 n.df) 2).1) (genD 0 n.df (defT0 n.df) 2).2.1, okD P n.zs.length n.df 0, Nat.ble (genD 0 n.df (defT0 n.df) 2).2.2 (defT0 n.df),
  isFn P n.fNew (cNew K.T n.fPtr n.fSet n.fAp) 11 2, isFn0 P n.fSet (cSet K.T n.pl.T) 8, fieldAtB P n.pl.T 0 0, isFn P n.fAp (topG (K.ia g) n.pl n.L (tailK (K.ia g) n.pl n.L k)) n.N 4, okTop P (K.ia g) n.pl n.L n.N,
  isFnC P n.fSpec (cSpec S (toSF n.sx) n.flex) ((genSF S.fd (toSF n.sx) 1).2.2 + 2) 0 S.msg, okS P S n.sx, !n.sx.isNil, Nat.ble (toFds n.sx).toList.length 1000, okFds (toFds n.sx), dfOk (toFds n.sx),
  firstZero (putM n.df 0 n.zs), offs1 n.pl.fs, tag1 n.pl.tg, defTag n.pl.tg (putM n.df 0 n.zs), (match defF n.pl.fs (putM n.df 0 n.zs) with | some ds => smDF n.pl.fs ds && sayKB n ds | none => false), yes S.fDflt, yes S.fVer, isFn P S.fUsual (cUsual S) 91 4,
  (match n.pl.tg with | some q => Nat.beq q.1 k.tgi && Nat.beq q.2 k.toff | none => false), n.pl.fl.isSome, sliceOf P k.tks k.ek, (condB P K n.pl.T k (putM n.df 0 n.zs)).all id, Nat.ble ((fldsA (K.ia g) n.pl n.L).2.1 + 25) k.u, Nat.ble (k.u + 6) n.N, Nat.ble n.L (fldsA (K.ia g) n.pl n.L).2.1, Nat.blt (fldsA (K.ia g) n.pl n.L).2.2.1 n.L, Nat.blt 6 (fldsA (K.ia g) n.pl n.L).2.2.1,
  (match (putM n.df 0 n.zs).tail[k.toff - 1]? with | some .nmap => true | _ => false), Nat.blt 0 k.toff]

theorem new_lawK {K : KB} {g : TN} {S : SN} (se : Seat P K g S) (n : NL) (k : KTN) (h : (nlKB P K g S n k).all id = true) (w : World) (i : Nat) (hi : i < 256) :
    Calls P n.f #[.int .u8 i] w (fun e w' => e = .returned (.bool true) ∧ Below w.heap.size w w') := by
  simp only [nlKB, List.all_cons, List.all_nil, id_eq, Bool.and_true, Bool.and_eq_true] at h
  obtain ⟨h1, h2, h3, h4, h5, h6, h7, h8, h9, h10, h11, h12, h13, h14, h15, h16, h17, h18, h19, h20, h21, h22, h23, h24, h25, h26, h27, h28, h29, h30, h31, h32, h33, h34, h35, h36, h37, h38, h39⟩ := h
  simp only [Nat.blt_eq, Nat.ble_eq] at h4 h9 h18 h33 h34 h35 h36 h37 h39
  have hm : n.most < 32768 := h4
  have hpt : n.pl.tg = some (k.tgi, k.toff) := by
    cases hq : n.pl.tg with
    | none => simp [hq] at h29
    | some q =>
      simp only [hq, Bool.and_eq_true, Nat.beq_eq] at h29
      rw [← h29.1, ← h29.2]
  cases hd : defF n.pl.fs (putM n.df 0 n.zs) with
  | none => simp [hd] at h25
  | some ds =>
    simp only [hd, Bool.and_eq_true] at h25
    obtain ⟨hsm, hsay⟩ := h25
    have hsay' : ∀ v, v ≤ n.most → encTop n.pl (v : Nat) ds [] = kWrite (toFds n.sx) n.flex (v : Nat) (sDflt (toFds n.sx)) ∧ (encTop n.pl (v : Nat) ds []).length ≤ 1000000 := by
      intro v hv
      have := List.all_eq_true.1 hsay v (List.mem_range.2 (by omega))
      simp only [Bool.and_eq_true, Nat.ble_eq] at this
      exact ⟨eqB_eq this.1, this.2⟩
    -- the cells
    obtain ⟨rest, hrest⟩ : ∃ rest, putM n.df 0 n.zs = .int .i16 0 :: rest := by
      cases hq : putM n.df 0 n.zs with
      | nil => rw [hq] at h21; simp [firstZero] at h21
      | cons m r =>
        rw [hq] at h21
        cases m <;> try (simp [firstZero] at h21; done)
        rename_i kk nn
        cases kk <;> try (simp [firstZero] at h21; done)
        simp only [firstZero] at h21
        rw [sameInt_eq h21]; exact ⟨r, rfl⟩
    have hcs : putD n.df 0 (n.zs.map MVal.val) = .int .i16 0 :: rest.map MVal.val := by rw [← putM_val, hrest]; rfl
    have hdef : DefC P n.fDef (n.zs.map MVal.val) (.int .i16 0 :: rest.map MVal.val) := by
      rw [← hcs]
      exact defC_of (defD_of (n := n.zs.length) (FnIs0.of h7) h8 h9) (by simp)
    have hlen : (Value.int .i16 0 :: rest.map MVal.val).length = (n.zs.map MVal.val).length := by rw [← hcs, putD_len]
    have hptr : PtrC P n.fPtr (.int .i16 0 :: rest.map MVal.val) := ptr_of (FnIs.of h5) (zeroIs_of h6) hdef hlen
    have hmax := max_of se.kk.tk se.h16 (FnIs.of h2) hptr (FnIs.of h3) hm
    have hF : ∀ v : Nat, defF n.pl.fs (.int .i16 (v : Nat) :: rest) = some ds := fun v => by rw [defF_first (b := .int .i16 0) h22, ← hrest]; exact hd
    have hT : ∀ v : Nat, defTag n.pl.tg (.int .i16 (v : Nat) :: rest) = true := fun v => by rw [defTag_first (b := .int .i16 0) h23, ← hrest]; exact h24
    rw [hrest] at h32 h38
    have hnew : NewC P K.T.u8 n.fNew n.most (fun v => encTop n.pl (v : Nat) ds []) :=
      new_ofK (k := k) se.kk se.tg se.h16 se.c16 (FnIs.of h10) hptr (FnIs0.of h11) h12 (FnIs.of h13) h14 hm hpt h30 h31 h32 h33 h34 h35 h36 h37 h38 h39
        (fun w F v => by have := defF_rep (w := w) (F := F) (hF v); simpa [MVal.val] using this) (fun w F v => by have := defTag_at (w := w) (F := F) (hT v); simpa [MVal.val] using this) (smDF_of _ _ hsm) (fun v hv => (hsay' v hv).2)
    have hne : toFds n.sx ≠ .nil := by
      intro e
      cases hx : n.sx with
      | nil => rw [hx] at h17; simp [SxL.isNil] at h17
      | cons x r => rw [hx] at e; unfold toFds at e; cases e
    have hspec := spec_of (flex := n.flex) se.ok (FnIsC.of h15) (okS_of se.ok n.sx h16) hne h18
    have hwr : WriteCK P S (· = []) (toFds n.sx) := write_ofK se.wr se.ok se.sp.part.ent (part_allK se.sp se.same (FnIs.of h28) h19 (by omega))
    have hdf := dflt_all se.ok se.fi se.c1 (se.df (yes_of h26)) (fs := toFds n.sx) h20 (by omega)
    rw [se.u8] at hnew
    exact law_new se.sp (FnIs.of h1) hwr se.wr.ent hdf (se.df (yes_of h26)).ent se.same (se.ver (yes_of h27)) hmax hspec hnew hm (fun v hv => hsay' v hv) w i hi
end
end Go.Kx
