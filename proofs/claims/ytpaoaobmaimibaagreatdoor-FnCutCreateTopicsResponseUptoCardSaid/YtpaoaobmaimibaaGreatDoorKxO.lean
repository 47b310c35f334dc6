/- The laws FnAgain.., FnCut.., FnAny..: all that the program must pass, as Boolean tests; from them the laws' runs.
   How much the reference writes of a tree: at most so often the tree's size. No condition.
   An argument's tree as it is read (DataW): it lies in memory as a tree, keys fit, its bulk is no less than its size. Conditions: the tables' facts (treeB), the bulk's equations (BulkOk).
   From the laws' runs to what a row says of them: arguments opened, read again behind the call. Conditions: the program's tests, the row's closed facts.
   Numbers with a point: appended, read. Conditions: the program's tests; what its two functions of the library without a text answer (extern). -/
import Derived.Test.YtpaoaobmaimibaaGreatDoorKxN
import Derived.ChangeSlices
import Derived.ChangeArms
import Derived.Carry
import Derived.OpenShut
import Derived.ChangeShapes
import Derived.FnData
namespace Go.Kx
open Go.RowKit
set_option linter.unusedSimpArgs false
set_option linter.unusedVariables false
structure FTN where
  f2 : Nat
  f3 : Nat
  f4 : Nat
def seat2B (P : Program) (K : KB) (g : TN) (S : SN) (R : RN) (G : TG) (E : EN) (Z : FTN) : List Bool := [(rkB P R G).all id, (rk2B P R G).all id, bytesLe P S.tg 1000,
  isFn0 P E.fCb (cCb K.T K.uv) 16, isFn0 P g.fEach (cEachF E) 53, Nat.beq g.fCb E.fCb, !(Nat.beq K.T.u8 K.T.u8s), !(Nat.beq E.tU32 K.T.u8), cellsB P K.T.u8s 1, yes K.T.u32, yes K.uv,
  mapU P E.tMap, mapTy P E.tMap, plainTy P E.tMap, fieldAtB P E.tSt 0 0, sliceOf P E.tKs E.tU32, u32B P E.tU32, nilSB P E.tKs, cellsB P E.tKs 1, plainTy P E.tKs, plainTy P E.tU32, cellsB P E.tU32 1, intTy P E.tInt .i64, !(Nat.beq E.tU32 E.tKs),
  isFn P Z.f4 (cFits4 S) 7 2, isFn P Z.f3 (cFits3 S Z.f4) 18 2, isFn P Z.f2 (cFits2 S Z.f3) 15 2]
def seatAB (P : Program) (K : KB) (g : TN) (S : SN) (R : RN) (G : TG) (E : EN) : List Bool := [(rkB P R G).all id, (rk2B P R G).all id, (kbOk P K).all id, tokB P S.T, P.follows .mixedOrders, plainTy P S.T.u8,
  isFn0 P E.fCb (cCb K.T K.uv) 16, isFn0 P g.fEach (cEachF E) 53, Nat.beq g.fCb E.fCb, !(Nat.beq K.T.u8 K.T.u8s), !(Nat.beq E.tU32 K.T.u8), cellsB P K.T.u8s 1, yes K.T.u32, yes K.uv,
  mapU P E.tMap, mapTy P E.tMap, plainTy P E.tMap, fieldAtB P E.tSt 0 0, sliceOf P E.tKs E.tU32, u32B P E.tU32, nilSB P E.tKs, cellsB P E.tKs 1, plainTy P E.tKs, plainTy P E.tU32, cellsB P E.tU32 1, intTy P E.tInt .i64, !(Nat.beq E.tU32 E.tKs),
  mapTy P g.tMap, plainTy P g.tMap, plainTy P K.T.u8s, fieldAtB P g.tSt 0 0, isFn P g.fLen (cTLen g) 8 2, isFn0 P g.fEach (cEach g K.T.int) 53, isFn P g.fTeach (cTeach g K.T) 9 4 && orNo g.tKs (ktTB P K.T g.tKs),
  isFn P S.fSame (cSame S) 26 4, orNo S.fVer (isFn P S.fVer (cVer S) 10 4), yes K.T.i16, cellsB P K.T.i16 1, Nat.beq K.T.u8 S.T.u8]
def FlOk (P : Program) (K : KB) (R : RN) : Prop := F64W P K ∧ F64R P R
theorem fl_none {P : Program} {K : KB} {R : RN} (h1 : K.f64 = 0) (h2 : R.f64 = 0) : FlOk P K R := ⟨f64w_none h1, f64r_none h2⟩
structure SeatA (P : Program) (K : KB) (g : TN) (S : SN) (R : RN) (G : TG) : Prop where
  kk : KOK P K
  ok : SOK0 P S
  same : SameC P S.fSame
  ver : S.fVer ≠ 0 → VerC P S.fVer
  h16 : K.T.i16 ≠ 0
  c16 : cellsB P K.T.i16 1 = true
  u8 : K.T.u8 = S.T.u8
  rk : RKOK P R G
  ao : AOK P (K.ia g) okTags
structure Seat2 (P : Program) (K : KB) (g : TN) (S : SN) (R : RN) (G : TG) (E : EN) (Z : FTN) : Prop where
  se : Seat P K g S
  rk : RKOK P R G
  sp : SPC P S keysOk
  ao : AOK P (K.ia g) okTags
  fits : FitsC P Z.f2
theorem tge_of {P : Program} {E : EN} {T : IT} (h1 : mapU P E.tMap = true) (h2 : mapTy P E.tMap = true) (h3 : plainTy P E.tMap = true) (h4 : fieldAtB P E.tSt 0 0 = true) (h5 : sliceOf P E.tKs E.tU32 = true) (h6 : u32B P E.tU32 = true) (h7 : nilSB P E.tKs = true)
    (h8 : cellsB P E.tKs 1 = true) (h9 : plainTy P E.tKs = true) (h10 : plainTy P E.tU32 = true) (h11 : cellsB P E.tU32 1 = true) (h12 : intTy P E.tInt .i64 = true) (h13 : E.tU32 ≠ E.tKs) : TgE P E T := ⟨h1, h2, h3, h4, h5, h6, h7, h8, h9, h10, h11, h12, h13⟩
theorem nbeq {a b : Nat} (h : (!(Nat.beq a b)) = true) : a ≠ b := fun e => by subst e; simp at h
section
variable {P : Program} {K : KB} {g : TN} {S : SN} {R : RN} {G : TG} {E : EN} {Z : FTN}
theorem seat2_of (h : (seatB P K g S).all id = true) (h2 : (seat2B P K g S R G E Z).all id = true) (hso : SortC P E.tKs E.tU32 E.fSort E.fLess) (hfl : FlOk P K R) : Seat2 P K g S R G E Z := by
  have se := seat_of h hfl.1
  simp only [seat2B, List.all_cons, List.all_nil, id_eq, Bool.and_true, Bool.and_eq_true] at h2
  obtain ⟨a1, a2, a3, a4, a5, a6, a7, a8, a9, a10, a11, b1, b2, b3, b4, b5, b6, b7, b8, b9, b10, b11, b12, b13, c1, c2, c3⟩ := h2
  have te : TgE P E K.T := tge_of b1 b2 b3 b4 b5 b6 b7 b8 b9 b10 b11 b12 (nbeq b13)
  have hcb : CbC P K.T E.fCb := cb_ok se.kk.tk (nbeq a7) a9 se.tg.plu (yes_of a10) (se.kk.uvg (yes_of a11)) (FnIs0.of a4)
  have hte : TeachC P K.T.u8 g.fTeach smallT := teach_ok (fEach := 0) se.kk.tk te (nbeq a7) (nbeq a8) se.tg.plu hcb hso (FnIs0.of a5) (by simpa using a6) se.tg.teach
  have hunk : FnIs P S.fUnk (cUnk S) 85 4 := by
    simp only [seatB, List.all_cons, List.all_nil, id_eq, Bool.and_true, Bool.and_eq_true] at h
    obtain ⟨h1, h2, h3, h4, h5, h6, h7, h8, h9, h10, h11, h12, h13, h14, h15, h16, h17, h18, h19, h20, h21, h22, h23, h24, h25, h26, h27, h28, h29, h30, h31, h32⟩ := h
    exact FnIs.of h20
  exact {
    se := se
    rk := rk_of a1 a2 hfl.2
    sp := sp_tags se.sp a3 hunk
    ao := aok_tags se.kk se.tg (tlen_ok se.tg) hte
    fits := ⟨(FnIs.of c3).ent, fun w cs t hr => fits2_ok se.ok (FnIs.of c1) (FnIs.of c2) (FnIs.of c3) w cs t hr⟩ }
theorem Seat2.a (se : Seat2 P K g S R G E Z) : SeatA P K g S R G := ⟨se.se.kk, se.se.ok.z, se.se.same, se.se.ver, se.se.h16, se.se.c16, se.se.u8, se.rk, se.ao⟩
theorem teA_of (h2 : (seatAB P K g S R G E).all id = true) : TgE P E K.T := by
  simp only [seatAB, List.all_cons, List.all_nil, id_eq, Bool.and_true, Bool.and_eq_true] at h2
  obtain ⟨a1, a2, a3, s1, s2, s3, a4, a5, a6, a7, a8, a9, a10, a11, b1, b2, b3, b4, b5, b6, b7, b8, b9, b10, b11, b12, b13, _⟩ := h2
  exact tge_of b1 b2 b3 b4 b5 b6 b7 b8 b9 b10 b11 b12 (nbeq b13)
theorem seatA_of (h2 : (seatAB P K g S R G E).all id = true) (hso : SortC P E.tKs E.tU32 E.fSort E.fLess) (hfl : FlOk P K R) : SeatA P K g S R G := by
  have te := teA_of h2
  simp only [seatAB, List.all_cons, List.all_nil, id_eq, Bool.and_true, Bool.and_eq_true] at h2
  obtain ⟨a1, a2, a3, s1, s2, s3, a4, a5, a6, a7, a8, a9, a10, a11, b1, b2, b3, b4, b5, b6, b7, b8, b9, b10, b11, b12, b13, c1, c2, c3, c4, c5, c6, c7, d1, d2, d3, d4, d5⟩ := h2
  have kk := kok_of a3 hfl.1
  have ok : SOK0 P S := ⟨tok_of s1, s2, s3⟩
  have tg : TgOK P g K.T := ⟨kk.tk, c1, c2, c3, c4, FnIs.of c5, FnIs0.of c6, FnIs.of c7.1, c7.2⟩
  have hcb : CbC P K.T E.fCb := cb_ok kk.tk (nbeq a7) a9 tg.plu (yes_of a10) (kk.uvg (yes_of a11)) (FnIs0.of a4)
  have hte : TeachC P K.T.u8 g.fTeach smallT := teach_ok (fEach := 0) kk.tk te (nbeq a7) (nbeq a8) tg.plu hcb hso (FnIs0.of a5) (by simpa using a6) tg.teach
  exact ⟨kk, ok, same_ok ok (FnIs.of d1), fun e => ver_ok ok (FnIs.of (orNo_of d2 e)), yes_of d3, d4, by simpa using d5, rk_of a1 a2 hfl.2, aok_tags kk tg (tlen_ok tg) hte⟩
structure RL0 where
  f : Nat
  fMax : Nat
  fSpec : Nat
  fAgain : Nat
  fPtr : Nat
  fDef : Nat
  fMv : Nat
  fSet : Nat
  fAp : Nat
  fRd : Nat
  fRF : Nat
  tErr : Nat
  most : Nat
  L : Nat
  N : Nat
  LR : Nat
  NR : Nat
  pl : Plan
  zs : List MVal
  df : Dfs
  sx : SxL
  flex : Int
def msgB (P : Program) (K : KB) (g : TN) (S : SN) (R : RN) (G : TG) (n : RL0) : List Bool := [isFn P n.fMax (cMax K.T n.fPtr n.fMv) 4 0, isFn P n.fMv (cMv n.most) 3 2, Nat.blt n.most 32768,
  isFn P n.fPtr (cPtr n.pl.T n.fDef) 3 0, zeroIs P n.pl.T n.zs, isFn0 P n.fDef (rows (genD 0 n.df (defT0 n.df) 2).1) (genD 0 n.df (defT0 n.df) 2).2.1, okD P n.zs.length n.df 0, Nat.ble (genD 0 n.df (defT0 n.df) 2).2.2 (defT0 n.df),
  isFn0 P n.fSet (cSet K.T n.pl.T) 8, fieldAtB P n.pl.T 0 0, isFn P n.fAp (topA (K.ia g) n.pl n.L) n.N 4, okTop P (K.ia g) n.pl n.L n.N, firstZero (putM n.df 0 n.zs),
  isFn2 P n.fAgain (cAgain K.T n.tErr n.fPtr n.fSet n.fRd n.fAp) 19 4 5, isFn P n.fRd (cReadFrom n.fRF) 8 4, isFn P n.fRF (cRF R G n.pl n.fDef n.LR).1 n.NR 6, (rfB P R G n.pl n.fDef n.df (putM n.df 0 n.zs).tail n.LR n.NR).all id, ifaceTy P n.tErr, yes S.fVer]
theorem msg_of (se : SeatA P K g S R G) {n : RL0} (h : (msgB P K g S R G n).all id = true) : MaxC P n.fMax n.most ∧ AgainC P S.T.u8 n.fAgain R.gErr n.most n.pl ∧ n.most < 32768 ∧ S.fVer ≠ 0 := by
  simp only [msgB, List.all_cons, List.all_nil, id_eq, Bool.and_true, Bool.and_eq_true] at h
  obtain ⟨h1, h2, h3, h4, h5, h6, h7, h8, h9, h10, h11, h12, h13, h14, h15, h16, h17, h18, h19⟩ := h
  simp only [Nat.blt_eq, Nat.ble_eq] at h3 h8
  have hm : n.most < 32768 := h3
  obtain ⟨rest, hrest⟩ : ∃ rest, putM n.df 0 n.zs = .int .i16 0 :: rest := by
    cases hq : putM n.df 0 n.zs with
    | nil => rw [hq] at h13; simp [firstZero] at h13
    | cons m r =>
      rw [hq] at h13
      cases m <;> try (simp [firstZero] at h13; done)
      rename_i kk nn
      cases kk <;> try (simp [firstZero] at h13; done)
      simp only [firstZero] at h13
      rw [sameInt_eq h13]; exact ⟨r, rfl⟩
  have hcs : putD n.df 0 (n.zs.map MVal.val) = .int .i16 0 :: rest.map MVal.val := by rw [← putM_val, hrest]; rfl
  have hdef : DefC P n.fDef (n.zs.map MVal.val) (.int .i16 0 :: rest.map MVal.val) := by
    rw [← hcs]
    exact defC_of (defD_of (n := n.zs.length) (FnIs0.of h6) h7 h8) (by simp)
  have hlen : (Value.int .i16 0 :: rest.map MVal.val).length = (n.zs.map MVal.val).length := by rw [← hcs, putD_len]
  have hptr : PtrC P n.fPtr (.int .i16 0 :: rest.map MVal.val) := ptr_of (FnIs.of h4) (zeroIs_of h5) hdef hlen
  rw [hrest] at h17
  have hrf := rf_of se.rk h17 (FnIs.of h16)
  refine ⟨max_of se.kk.tk se.h16 (FnIs.of h1) hptr (FnIs.of h2) hm, ?_, hm, yes_of h19⟩
  rw [← se.u8]
  exact again_ok se.kk se.ao se.h16 se.c16 h18 hm (FnIs2.of h14) hptr (FnIs0.of h9) h10 (FnIs.of h15) hrf (FnIs.of h11) h12
def specB (P : Program) (S : SN) (n : RL0) : List Bool := [isFnC P n.fSpec (cSpec S (toSF n.sx) n.flex) ((genSF S.fd (toSF n.sx) 1).2.2 + 2) 0 S.msg, okS P S n.sx, !n.sx.isNil, Nat.ble (toFds n.sx).toList.length 1000, okFds (toFds n.sx), mTopB n.pl (toFds n.sx) n.flex n.most, isFn P S.fUsual (cUsual S) 91 4]
theorem spec2_of (se : Seat2 P K g S R G E Z) {n : RL0} (h : (specB P S n).all id = true) : SpecC P n.fSpec (toFds n.sx) n.flex ∧ WriteCK P S keysOk (toFds n.sx) ∧ mTopB n.pl (toFds n.sx) n.flex n.most = true := by
  simp only [specB, List.all_cons, List.all_nil, id_eq, Bool.and_true, Bool.and_eq_true] at h
  obtain ⟨h15, h16, h17, h18, h19, h20, h21⟩ := h
  simp only [Nat.ble_eq] at h18
  have hne : toFds n.sx ≠ .nil := by
    intro e
    cases hx : n.sx with
    | nil => rw [hx] at h17; simp [SxL.isNil] at h17
    | cons x r => rw [hx] at e; unfold toFds at e; cases e
  exact ⟨spec_of (flex := n.flex) se.se.ok (FnIsC.of h15) (okS_of se.se.ok n.sx h16) hne h18, write_ofK se.se.wr (fs := toFds n.sx) se.sp.ok se.sp.part.ent (part_allK se.sp se.se.same (FnIs.of h21) h19 (by omega)), h20⟩
theorem cut_law (se : Seat2 P K g S R G E Z) (n : RL0) (h1 : (msgB P K g S R G n).all id = true) (h2 : (specB P S n).all id = true) (h3 : isFn P n.f (cLawCut S Z.f2 n.fMax n.fSpec n.fAgain) 56 6 = true) (h4 : yes S.T.u16 = true)
    (w : World) (k mc : Nat) (hk : k < 256) (hmc : mc < 65536) (ct : List Value) (t : Tr) (hrt : RepTr w t ct) (hg : goodT keysOk t) (ev : Value) (hev : w.cell? ⟨R.gErr, 0, none⟩ = some ev) (herr : isErr ev) (hlen : ∀ v, v ≤ n.most → (kWrite (toFds n.sx) n.flex (v : Nat) t).length ≤ 274877906944) :
    Calls P n.f #[.int .u8 k, .agg ct.toArray, .int .u16 (mc : Nat)] w (fun e w' => e = .returned (.bool true) ∧ Below w.heap.size w w') := by
  obtain ⟨hmax, hag, hm, hv0⟩ := msg_of se.a h1
  obtain ⟨hspec, hwr, hmt⟩ := spec2_of se h2
  refine law_cut se.sp (FnIs.of h3) (yes_of h4) se.fits hwr se.se.wr.ent se.se.same (se.se.ver hv0) hmax hspec hag hm w k mc hk hmc ct t hrt hg ev hev herr (fun v hv => ⟨hlen v hv, againTop hmt hv hg⟩) (fun v j hv hj => ?_)
  refine cut_plain hmt hv hg (m := (kWrite (toFds n.sx) n.flex (v : Nat) t).drop j) (List.take_append_drop _ _).symm ?_
  intro e
  have := congrArg List.length e
  simp at this
  omega
end
end Go.Kx
namespace Go.Kx
set_option linter.unusedVariables false
def szU : List (Nat × List UInt8) → Nat
  | [] => 0
  | x :: r => 1 + x.2.length + szU r
mutual
def szT : Tr → Nat
  | .mk _ s _ l u => 1 + s.length + szTs l + szU u
def szTs : Trs → Nat
  | .nil => 0
  | .cons t r => szT t + szTs r
end

theorem szT_pos : ∀ t : Tr, 1 ≤ szT t
  | .mk _ _ _ _ _ => by unfold szT; omega
theorem szTs_sum : ∀ l : Trs, szTs l = (l.toList.map szT).sum
  | .nil => by unfold szTs; rfl
  | .cons t r => by unfold szTs Trs.toList; rw [List.map_cons, List.sum_cons, szTs_sum r]
theorem szT_l (t : Tr) : (t.l.map szT).sum ≤ szT t := by
  cases t with
  | mk n s b l u =>
    show (l.toList.map szT).sum ≤ _
    unfold szT
    rw [← szTs_sum l]; omega
theorem szT_s (t : Tr) : 1 + t.s.length ≤ szT t := by
  cases t with
  | mk n s b l u => unfold szT; show 1 + s.length ≤ _; omega
theorem szT_u (t : Tr) : szU t.u ≤ szT t := by
  cases t with
  | mk n s b l u => unfold szT; show szU u ≤ _; omega
theorem mem_sum {l : List Tr} {x : Tr} (h : x ∈ l) : szT x ≤ (l.map szT).sum := by
  induction l with
  | nil => simp at h
  | cons y l ih =>
    rw [List.map_cons, List.sum_cons]
    simp only [List.mem_cons] at h
    rcases h with rfl | h
    · omega
    · have := ih h; omega
theorem take_sum (k : Nat) : ∀ (l : List Tr), ((l.take k).map szT).sum ≤ (l.map szT).sum := by
  induction k with
  | zero => intro l; simp
  | succ k ih =>
    intro l
    cases l with
    | nil => simp
    | cons y l => rw [List.take_succ_cons, List.map_cons, List.sum_cons, List.map_cons, List.sum_cons]; have := ih l; omega
theorem szT_at (t : Tr) (i : Nat) : szT (t.l.getD i .zero) ≤ szT t := by
  rw [List.getD_eq_getElem?_getD]
  cases h : t.l[i]? with
  | none => simp only [Option.getD_none]; have := szT_pos t; have : szT .zero = 1 := rfl; omega
  | some x => simp only [Option.getD_some]; exact Nat.le_trans (mem_sum (List.mem_of_getElem? h)) (szT_l t)
theorem uvb_le : ∀ (j n : Nat), (uvb j n).length ≤ j + 1
  | 0, n => by simp [uvb]
  | j + 1, n => by
    unfold uvb
    split
    · simp
    · rw [List.length_cons]; have := uvb_le j (n / 128); omega
theorem uv_le (n : Nat) : (uv n).length ≤ 10 := uvb_le 9 n
theorem cnt_le (flex : Bool) (k n : Nat) (hk : k ≤ 10) : (cnt flex k n).length ≤ 10 := by
  unfold cnt
  split
  · exact uv_le _
  · rw [fix_len]; exact hk
theorem sCnt_le (flex null : Bool) (n k : Nat) (hk : k ≤ 10) : (sCnt flex null n k).length ≤ 10 := by
  unfold sCnt
  split
  · rw [cntNull_len]; split <;> omega
  · exact cnt_le _ _ _ hk
theorem szU_ins (t : Nat × List UInt8) : ∀ (xs : List (Nat × List UInt8)), szU (insTag t xs) ≤ 1 + t.2.length + szU xs
  | [] => by simp [insTag, szU]
  | x :: xs => by
    have := szU_ins t xs
    unfold insTag
    split
    · simp only [szU]; omega
    · split
      · simp only [szU]; omega
      · simp only [szU]; omega
theorem szU_fold {least : Nat} : ∀ (l out : List (Nat × List UInt8)), szU (l.foldl (fun out t => if t.1 < least then out else insTag t out) out) ≤ szU out + szU l
  | [], out => by simp [szU]
  | t :: l, out => by
    rw [List.foldl_cons]
    refine Nat.le_trans (szU_fold l _) ?_
    simp only [szU]
    split
    · omega
    · have := szU_ins t out; omega
theorem szU_take : ∀ (k : Nat) (l : List (Nat × List UInt8)), szU (l.take k) ≤ szU l
  | 0, l => by simp [szU]
  | k + 1, [] => by simp
  | k + 1, x :: l => by rw [List.take_succ_cons]; simp only [szU]; have := szU_take k l; omega
theorem szU_unk (least : Nat) (l : List (Nat × List UInt8)) : szU (sUnk least l) ≤ szU l := by
  unfold sUnk
  refine Nat.le_trans (szU_fold _ _) ?_
  have := szU_take most l
  simp only [szU]; omega
theorem sTag_le (t : Nat × List UInt8) : (sTag t).length ≤ 20 * (1 + t.2.length) := by
  unfold sTag
  have h1 := uv_le t.1
  have h2 := uv_le (t.2.take most).length
  have h3 : (t.2.take most).length ≤ t.2.length := by rw [List.length_take]; omega
  simp only [List.length_append] at *
  omega
theorem flat_tags : ∀ (l : List (Nat × List UInt8)), (l.flatMap sTag).length ≤ 20 * szU l
  | [] => by simp
  | x :: l => by
    have h1 := flat_tags l
    have h2 := sTag_le x
    rw [List.flatMap_cons, List.length_append]
    simp only [szU]; omega
mutual
def costF : Fd → Nat
  | .mk _ _ _ _ _ _ _ sub => 60 + costs sub
def costs : Fds → Nat
  | .nil => 0
  | .cons f r => 2 * (20 + costF f) + costs r
end

theorem sWid_le (kind : Int) : sWid kind ≤ 8 := by unfold sWid; split <;> (try omega); split <;> (try omega); split <;> omega
theorem sVal_le {kind : Int} {part : Tr → List UInt8} {null flex : Bool} {t : Tr} {K : Nat} (h : (part t).length ≤ K * szT t) : (sVal kind part null flex t).length ≤ (16 + K) * szT t := by
  have h5 := szT_pos t
  have h6 := szT_s t
  have e : (16 + K) * szT t = 16 * szT t + K * szT t := Nat.add_mul _ _ _
  have h7 : (if null then [] else t.s.take most).length ≤ t.s.length := by
    split
    · simp
    · rw [List.length_take]; omega
  unfold sVal
  split
  · simp; omega
  · split
    · rw [List.length_take]; omega
    · split
      · rw [List.length_append]; have := sCnt_le flex null (if null then [] else t.s.take most).length 2 (by omega); omega
      · split
        · rw [List.length_append]; have := sCnt_le flex null (if null then [] else t.s.take most).length 4 (by omega); omega
        · split
          · omega
          · rw [fix_len]; have := sWid_le kind; omega
theorem flat_le {e : Tr → List UInt8} {K : Nat} : ∀ {l : List Tr}, (∀ x ∈ l, (e x).length ≤ K * szT x) → (l.flatMap e).length ≤ K * (l.map szT).sum
  | [], _ => by simp
  | x :: l, h => by
    rw [List.flatMap_cons, List.length_append, List.map_cons, List.sum_cons, Nat.mul_add]
    have h1 := h x List.mem_cons_self
    have h2 := flat_le (l := l) fun y hy => h y (List.mem_cons_of_mem _ hy)
    omega
theorem len_flat2 {F : Nat → List (Nat × List UInt8)} : ∀ (l : List Nat), ((l.flatMap F).flatMap encK1).length = (l.map fun g => ((F g).flatMap encK1).length).sum
  | [] => rfl
  | g :: l => by rw [List.flatMap_cons, List.flatMap_append, List.length_append, List.map_cons, List.sum_cons, len_flat2 l]
theorem sum_add {a b : Nat → Nat} : ∀ (l : List Nat), (l.map fun g => a g + b g).sum = (l.map a).sum + (l.map b).sum
  | [] => rfl
  | g :: l => by simp only [List.map_cons, List.sum_cons]; rw [sum_add l]; omega
theorem sum_le {a b : Nat → Nat} : ∀ (l : List Nat), (∀ g ∈ l, a g ≤ b g) → (l.map a).sum ≤ (l.map b).sum
  | [], _ => Nat.le_refl _
  | g :: l, h => by
    simp only [List.map_cons, List.sum_cons]
    have := h g List.mem_cons_self
    have := sum_le l fun x hx => h x (List.mem_cons_of_mem _ hx)
    omega
theorem sum_none {k : Int} {c : Nat} : ∀ (l : List Nat), (∀ g ∈ l, k ≠ (g : Int)) → (l.map fun g : Nat => if k = (g : Int) then c else 0).sum = 0
  | [], _ => rfl
  | g :: l, h => by
    simp only [List.map_cons, List.sum_cons]
    rw [if_neg (h g List.mem_cons_self), sum_none l fun x hx => h x (List.mem_cons_of_mem _ hx)]
theorem sum_one {k : Int} {c : Nat} : ∀ (l : List Nat), l.Nodup → (l.map fun g : Nat => if k = (g : Int) then c else 0).sum ≤ c
  | [], _ => Nat.zero_le _
  | g :: l, h => by
    simp only [List.map_cons, List.sum_cons]
    have hn := List.nodup_cons.1 h
    by_cases e : k = (g : Int)
    · rw [if_pos e, sum_none l fun x hx e2 => hn.1 (by have : x = g := by omega
                                                       rwa [this] at hx)]
      omega
    · rw [if_neg e]
      have := sum_one (k := k) (c := c) l hn.2
      omega
theorem encK1_le (x : Nat × List UInt8) : (encK1 x).length ≤ 20 + x.2.length := by
  unfold encK1
  have h1 := uv_le x.1
  have h2 := uv_le x.2.length
  simp only [List.length_append]; omega
section
variable (ver : Int) (flex : Bool)
theorem kTags_le {fs : Fds} {t : Tr} {W : Nat} (h : 2 * ((List.range (sKnown fs)).map fun g => ((kKn ver flex g fs 0 t).flatMap encK1).length).sum ≤ W) : 2 * (kTags ver flex fs t).length ≤ W + 60 * szT t := by
  unfold kTags
  split
  · unfold tagsOf kKns
    have h1 := uv_le (((List.range (sKnown fs)).flatMap fun g => kKn ver flex g fs 0 t).length + (sUnk (sKnown fs) t.u).length)
    have h2 := flat_tags (sUnk (sKnown fs) t.u)
    have h3 := szU_unk (sKnown fs) t.u
    have h4 := szT_u t
    have h5 := szT_pos t
    have h6 := len_flat2 (F := fun g => kKn ver flex g fs 0 t) (List.range (sKnown fs))
    rw [List.length_append, List.length_append, h6]
    omega
  · simp
mutual
theorem kField_le : ∀ (f : Fd) (t : Tr), (kField ver flex f t).length ≤ costF f * szT t
  | .mk kind fr to nul tag df of sub, t => by
    have hp : ∀ t : Tr, (kPlain ver flex sub 0 t ++ kTags ver flex sub t).length ≤ (costs sub + 30) * szT t := fun t => by
      rw [List.length_append, Nat.add_mul]
      have := kPlain_le sub 0 t
      have := kTags_le ver flex (kKn_le sub 0 t (sKnown sub))
      omega
    have h5 := szT_pos t
    have e1 : costF (.mk kind fr to nul tag df of sub) = 60 + costs sub := by unfold costF; rfl
    rw [e1, kField]
    have e2 : (60 + costs sub) * szT t = 60 * szT t + costs sub * szT t := Nat.add_mul _ _ _
    split
    · rw [List.length_append]
      have h1 := sCnt_le flex (sNull nul ver t.null) (if sNull nul ver t.null then [] else t.l.take most).length 4 (by omega)
      have h2 : ((if sNull nul ver t.null then [] else t.l.take most).flatMap (sVal of (fun t => kPlain ver flex sub 0 t ++ kTags ver flex sub t) false flex)).length ≤ (16 + (costs sub + 30)) * ((if sNull nul ver t.null then [] else t.l.take most).map szT).sum :=
        flat_le fun x _ => sVal_le (hp x)
      have h2' : ((if sNull nul ver t.null then [] else t.l.take most).flatMap (sVal of (fun t => kPlain ver flex sub 0 t ++ (if flex then tagsOf ((List.range (sKnown sub)).flatMap fun g => kKn ver flex g sub 0 t) (sUnk (sKnown sub) t.u) else [])) false flex)).length ≤ (16 + (costs sub + 30)) * ((if sNull nul ver t.null then [] else t.l.take most).map szT).sum := h2
      have h3 : ((if sNull nul ver t.null then [] else t.l.take most).map szT).sum ≤ szT t := by
        split
        · simp
        · exact Nat.le_trans (take_sum _ _) (szT_l t)
      have h4 := Nat.mul_le_mul_left (16 + (costs sub + 30)) h3
      have e3 : (16 + (costs sub + 30)) * szT t = 46 * szT t + costs sub * szT t := by rw [show 16 + (costs sub + 30) = 46 + costs sub from by omega, Nat.add_mul]
      omega
    · have h1 := hp t
      have h1' : (kPlain ver flex sub 0 t ++ (if flex then tagsOf ((List.range (sKnown sub)).flatMap fun g => kKn ver flex g sub 0 t) (sUnk (sKnown sub) t.u) else [])).length ≤ (costs sub + 30) * szT t := h1
      have e3 : (costs sub + 30) * szT t = costs sub * szT t + 30 * szT t := Nat.add_mul _ _ _
      split
      · split
        · rw [fix_len]; omega
        · rw [List.length_append, fix_len]; omega
      · have h9 := sVal_le (kind := kind) (part := fun t => kPlain ver flex sub 0 t ++ kTags ver flex sub t) (null := sNull nul ver t.null) (flex := flex) (hp t)
        have h9' : (sVal kind (fun t => kPlain ver flex sub 0 t ++ (if flex then tagsOf ((List.range (sKnown sub)).flatMap fun g => kKn ver flex g sub 0 t) (sUnk (sKnown sub) t.u) else [])) (sNull nul ver t.null) flex t).length ≤ (16 + (costs sub + 30)) * szT t := h9
        have e4 : (16 + (costs sub + 30)) * szT t = 46 * szT t + costs sub * szT t := by rw [show 16 + (costs sub + 30) = 46 + costs sub from by omega, Nat.add_mul]
        omega
theorem kPlain_le : ∀ (fs : Fds) (i : Nat) (t : Tr), 2 * (kPlain ver flex fs i t).length ≤ costs fs * szT t
  | .nil, i, t => by rw [kPlain]; simp
  | .cons f r, i, t => by
    rw [kPlain, List.length_append]
    have h1 := kPlain_le r (i + 1) t
    have h2 : (if decide (f.tag < 0) && sHas f.fr f.to ver then kField ver flex f (t.l.getD i .zero) else []).length ≤ costF f * szT t := by
      split
      · exact Nat.le_trans (kField_le f _) (Nat.mul_le_mul_left _ (szT_at t i))
      · simp
    have e : costs (.cons f r) * szT t = 40 * szT t + 2 * (costF f * szT t) + costs r * szT t := by rw [costs, Nat.add_mul, Nat.mul_assoc, Nat.add_mul]; omega
    omega
theorem kKn_le : ∀ (fs : Fds) (i : Nat) (t : Tr) (n : Nat), 2 * ((List.range n).map fun g => ((kKn ver flex g fs i t).flatMap encK1).length).sum ≤ costs fs * szT t
  | .nil, i, t, n => by
    have : ((List.range n).map fun g => ((kKn ver flex g .nil i t).flatMap encK1).length).sum ≤ ((List.range n).map fun _ => 0).sum := sum_le _ fun g _ => by rw [kKn]; simp
    have h0 : ∀ l : List Nat, (l.map fun _ => 0).sum = 0 := fun l => by induction l with | nil => rfl | cons a l ih => rw [List.map_cons, List.sum_cons, ih]
    rw [h0] at this
    omega
  | .cons f r, i, t, n => by
    have h1 := kKn_le r (i + 1) t n
    have h3 := Nat.le_trans (kField_le f (t.l.getD i .zero)) (Nat.mul_le_mul_left _ (szT_at t i))
    have hs := szT_pos t
    have e : costs (.cons f r) * szT t = 40 * szT t + 2 * (costF f * szT t) + costs r * szT t := by rw [costs, Nat.add_mul, Nat.mul_assoc, Nat.add_mul]; omega
    have h2 : ((List.range n).map fun g => ((kKn ver flex g (.cons f r) i t).flatMap encK1).length).sum ≤ ((List.range n).map fun g : Nat => (if f.tag = (g : Int) then 20 + costF f * szT t else 0) + ((kKn ver flex g r (i + 1) t).flatMap encK1).length).sum := by
      refine sum_le _ fun g _ => ?_
      rw [kKn, List.flatMap_append, List.length_append]
      refine Nat.add_le_add_right ?_ _
      by_cases hg : f.tag = (g : Int)
      · rw [if_pos hg]
        split
        · rw [List.flatMap_cons, List.flatMap_nil, List.append_nil]
          have : (encK1 (g, kField ver flex f (t.l.getD i .zero))).length ≤ 20 + (kField ver flex f (t.l.getD i .zero)).length := encK1_le (g, kField ver flex f (t.l.getD i .zero))
          omega
        · simp
      · rw [if_neg hg, decide_eq_false hg]; simp
    rw [sum_add] at h2
    have h4 := sum_one (k := f.tag) (c := 20 + costF f * szT t) (List.range n) List.nodup_range
    omega
end
end
theorem kWrite_le (fs : Fds) (flex v : Int) (t : Tr) : (kWrite fs flex v t).length ≤ (costs fs + 30) * szT t := by
  unfold kWrite kPart
  rw [List.length_append, Nat.add_mul]
  have := kPlain_le v (decide (0 ≤ flex) && decide (flex ≤ v)) fs 0 t
  have := kTags_le v (decide (0 ≤ flex) && decide (flex ≤ v)) (kKn_le v (decide (0 ≤ flex) && decide (flex ≤ v)) fs 0 t (sKnown fs))
  omega
theorem kWrite_small {fs : Fds} (hc : Nat.ble (costs fs + 30) 200000 = true) (flex v : Int) {t : Tr} (ht : szT t ≤ 1100000) : (kWrite fs flex v t).length ≤ 274877906944 := by
  have h := kWrite_le fs flex v t
  have h1 : costs fs + 30 ≤ 200000 := Nat.le_of_ble_eq_true hc
  have h2 := Nat.mul_le_mul h1 ht
  omega
end Go.Kx
namespace Go.Kx
open Go.RowKit Go.ChangeShapes Go.WideShapes
set_option linter.unusedVariables false
set_option linter.unusedSimpArgs false
def eqNN : List (Nat × Nat) → List (Nat × Nat) → Bool
  | [], [] => true
  | a :: xs, b :: ys => Nat.beq a.1 b.1 && Nat.beq a.2 b.2 && eqNN xs ys
  | _, _ => false
theorem eqNN_eq : ∀ {a b : List (Nat × Nat)}, eqNN a b = true → a = b
  | [], [], _ => rfl
  | [], _ :: _, h => by simp [eqNN] at h
  | _ :: _, [], h => by simp [eqNN] at h
  | (a1, a2) :: xs, (b1, b2) :: ys, h => by
    simp only [eqNN, Bool.and_eq_true, Nat.beq_eq] at h
    obtain ⟨⟨rfl, rfl⟩, h⟩ := h
    rw [eqNN_eq h]
def structB (P : Program) (t : Nat) (l : List (Nat × Nat)) : Bool := match P.underlying t with
  | some (.struct fs) => eqNN (fs.toList.map fun f => (f.offset, f.type)) l
  | _ => false
theorem structB_of {P : Program} {t : Nat} {l : List (Nat × Nat)} (h : structB P t l = true) : ∃ fs : Array Field, P.underlying t = some (.struct fs) ∧ fs.size = l.length ∧ ∀ (i : Nat) (q : Nat × Nat), l[i]? = some q → ∃ f : Field, fs[i]? = some f ∧ f.offset = q.1 ∧ f.type = q.2 := by
  unfold structB at h
  split at h
  · rename_i fs hu
    have e := eqNN_eq h
    subst e
    refine ⟨fs, hu, by simp, fun i q hi => ?_⟩
    rw [List.getElem?_map, Array.getElem?_toList] at hi
    cases hf : fs[i]? with
    | none => simp [hf] at hi
    | some f =>
      rw [hf] at hi
      simp only [Option.map_some, Option.some.injEq] at hi
      subst hi
      exact ⟨f, rfl, rfl, rfl⟩
  · simp at h
def boolB (P : Program) (t : Nat) : Bool := match P.underlying t with
  | some .bool => true
  | _ => false
theorem boolB_eq {P : Program} {t : Nat} (h : boolB P t = true) : P.underlying t = some .bool := by
  unfold boolB at h
  split at h
  · assumption
  · simp at h
def treeB (P : Program) (S : SN) : List Bool := [structB P S.tr [(0, S.T.i64), (1, S.T.u8s), (2, S.T.bool), (3, S.trs), (4, S.tgs)], structB P S.tg [(0, S.T.u32), (1, S.T.u8s)], intTy P S.T.i64 .i64, boolB P S.T.bool, intTy P S.T.u32 .u32, intTy P S.T.u8 .u8,
  sliceOf P S.T.u8s S.T.u8, sliceOf P S.trs S.tr, sliceOf P S.tgs S.tg, Nat.beq (P.cellsOf S.tr) 5, Nat.beq (P.cellsOf S.tg) 2, Nat.beq (P.cellsOf S.T.i64) 1, Nat.beq (P.cellsOf S.T.bool) 1, Nat.beq (P.cellsOf S.T.u8) 1, Nat.beq (P.cellsOf S.T.u8s) 1, Nat.beq (P.cellsOf S.trs) 1, Nat.beq (P.cellsOf S.tgs) 1, Nat.beq (P.cellsOf S.T.u32) 1]
structure BulkOk {H : Type} (B : DataW H → Nat) (BA : List (DataW H) → Nat) : Prop where
  one : ∀ d, 1 ≤ B d
  slice : ∀ e s, 1 + BA e ≤ B (.slice e s)
  agg : ∀ ps, 1 + BA ps ≤ B (.agg ps)
  cons : ∀ d l, B d + BA l ≤ BA (d :: l)
section
variable {H : Type} {B : DataW H → Nat} {BA : List (DataW H) → Nat} {enc : TypeId × Value → H} {P : Program} {S : SN} {w : World} {base : Nat} {held : Bool}
theorem BulkOk.len (hB : BulkOk B BA) : ∀ l : List (DataW H), l.length ≤ BA l
  | [] => Nat.zero_le _
  | d :: l => by have := hB.one d; have := hB.cons d l; have := hB.len l; rw [List.length_cons]; omega
theorem cell_at {a : Addr} {v : Value} {i : Nat} (h : w.cell? (a.add i) = some v) (h0 : a.spot = none) : w.cell? ⟨a.block, a.off + i, none⟩ = some v := by
  have e : a = ⟨a.block, a.off, none⟩ := by cases a; simp_all
  rw [e, Addr.add_mid] at h
  exact h
theorem open_u8s {U8 U8s : Nat} (h1 : sliceOf P U8s U8 = true) (h2 : intTy P U8 .u8 = true) (h3 : P.cellsOf U8 = 1) (hB : BulkOk B BA) {fuel : Nat} {cs : List Value} {x : DataW H × List MemPlace} (h : DataW.trod enc P w base (fun _ => true) held fuel U8s cs = some x) :
    ∃ ad l c, cs = [.slice ad (List.length l) c] ∧ okA l.length ad ∧ l.length ≤ c ∧ BytesAt w (fun _ => True) ad l ∧ 1 + l.length ≤ B x.1 := by
  rcases open_ints (sliceOf_eq h1) (intTy_eq h2) h3 h with ⟨rfl, rfl⟩ | ⟨a, len, cap, zs, rfl, hb, hl, hm, hz, rfl, hcell, hwz⟩
  · exact ⟨none, [], 0, rfl, .inl rfl, Nat.le_refl _, fun j b hj => by simp at hj, by have := hB.one (DataW.nil : DataW H); simpa using this⟩
  · simp only [if_true] at hz
    have hlen : ((zs.take len).map fun n => UInt8.ofNat n.toNat).length = len := by simp; omega
    have hspot : 0 < len → a.spot = none := fun h0 => by
      have := World.cell?_spot (hcell 0 (by omega))
      simpa [Addr.add] using this
    refine ⟨some a, (zs.take len).map fun n => UInt8.ofNat n.toNat, cap, by rw [hlen], ?_, by rw [hlen]; exact hl, fun j b hj => ?_, ?_⟩
    · rw [hlen]
      by_cases h0 : len = 0
      · exact .inl h0
      · right; right
        refine ⟨a.block, a.off, ?_⟩
        have := hspot (by omega)
        cases a; simp_all
    · have hj' : j < len := by
        have := (List.getElem?_eq_some_iff.1 hj).1
        rwa [hlen] at this
      have hs := hspot (by omega)
      refine ⟨a.block, a.off, by cases a; simp_all, trivial, ?_⟩
      rw [cell_at (hcell j (by omega)) hs]
      have hzj : zs.getD j 0 = zs[j]'(by omega) := by simp [List.getD, List.getElem?_eq_getElem (show j < zs.length by omega)]
      have hw := hwz (zs[j]'(by omega)) (List.getElem_mem _)
      rw [List.getElem?_map, List.getElem?_take, if_pos hj', List.getElem?_eq_getElem (show j < zs.length by omega)] at hj
      simp only [Option.map_some, Option.some.injEq] at hj
      subst hj
      rw [hzj]
      unfold byteV
      congr 2
      simp [Lit.wf, IntKind.min, IntKind.max, IntKind.bits, IntKind.signed] at hw
      simp only [UInt8.toNat_ofNat']
      omega
    · have h1 := hB.slice (lits .u8 (zs.take len)) (lits .u8 (zs.drop len))
      have h2 := hB.len (lits .u8 (zs.take len))
      have h3 : (lits (H := H) .u8 (zs.take len)).length = len := by simp [lits]; omega
      rw [hlen]
      show 1 + len ≤ B (.slice _ _)
      rw [h3] at h2
      omega
structure TreeOk (P : Program) (S : SN) : Prop where
  tr : structB P S.tr [(0, S.T.i64), (1, S.T.u8s), (2, S.T.bool), (3, S.trs), (4, S.tgs)] = true
  tg : structB P S.tg [(0, S.T.u32), (1, S.T.u8s)] = true
  i64 : intTy P S.T.i64 .i64 = true
  bool : boolB P S.T.bool = true
  u32 : intTy P S.T.u32 .u32 = true
  u8 : intTy P S.T.u8 .u8 = true
  u8s : sliceOf P S.T.u8s S.T.u8 = true
  trs : sliceOf P S.trs S.tr = true
  tgs : sliceOf P S.tgs S.tg = true
  ctr : P.cellsOf S.tr = 5
  ctg : P.cellsOf S.tg = 2
  ci64 : P.cellsOf S.T.i64 = 1
  cbool : P.cellsOf S.T.bool = 1
  cu8 : P.cellsOf S.T.u8 = 1
  cu8s : P.cellsOf S.T.u8s = 1
  ctrs : P.cellsOf S.trs = 1
  ctgs : P.cellsOf S.tgs = 1
  cu32 : P.cellsOf S.T.u32 = 1
theorem tree_of (h : (treeB P S).all id = true) : TreeOk P S := by
  simp only [treeB, List.all_cons, List.all_nil, id_eq, Bool.and_true, Bool.and_eq_true, Nat.beq_eq] at h
  obtain ⟨h1, h2, h3, h4, h5, h6, h7, h8, h9, h10, h11, h12, h13, h14, h15, h16, h17, h18⟩ := h
  exact ⟨h1, h2, h3, h4, h5, h6, h7, h8, h9, h10, h11, h12, h13, h14, h15, h16, h17, h18⟩
theorem open_tg (tb : TreeOk P S) (hB : BulkOk B BA) {fuel : Nat} {cs : List Value} {x : DataW H × List MemPlace} (h : DataW.trod enc P w base (fun _ => true) held fuel S.tg cs = some x) :
    ∃ t, TagRow w cs t ∧ t.1 < 4294967296 ∧ 1 + t.2.length ≤ B x.1 := by
  obtain ⟨fs, hu, hsz, hf⟩ := structB_of tb.tg
  obtain ⟨xs, n, rfl, rfl, hl, hxl, hx⟩ := DataW.trod_struct hu h
  rw [tb.ctg] at hl
  obtain ⟨c0, c1, rfl⟩ : ∃ c0 c1, cs = [c0, c1] := by
    match cs, hl with
    | [a, b], _ => exact ⟨a, b, rfl⟩
  obtain ⟨x0, x1, rfl⟩ : ∃ x0 x1, xs = [x0, x1] := by
    rw [hsz] at hxl
    match xs, hxl with
    | [a, b], _ => exact ⟨a, b, rfl⟩
  obtain ⟨f0, g0, o0, t0⟩ := hf 0 _ rfl
  obtain ⟨f1, g1, o1, t1⟩ := hf 1 _ rfl
  have e0 := hx 0 f0 g0
  have e1 := hx 1 f1 g1
  rw [o0, t0, tb.cu32] at e0
  rw [o1, t1, tb.cu8s] at e1
  obtain ⟨k, hk, hx0, hwf⟩ := DataW.trod_int (intTy_eq tb.u32) (show _ = some x0 from e0)
  obtain ⟨ad, l, c, hc, ha, hlc, hby, hb⟩ := open_u8s tb.u8s tb.u8 tb.cu8 hB (show _ = some x1 from e1)
  have hk' : c0 = .int .u32 k := by simpa using hk
  have hc' : c1 = .slice ad l.length c := by simpa using hc
  simp [Lit.wf, IntKind.min, IntKind.max, IntKind.bits, IntKind.signed] at hwf
  refine ⟨(k.toNat, l), ⟨by show k.toNat < _; omega, ad, c, ?_, ha, hlc, hby⟩, by show k.toNat < _; omega, ?_⟩
  · rw [hk', hc', show ((k.toNat : Nat) : Int) = k from by omega]
  · have h1 := hB.agg [x0.1, x1.1]
    have h2 := hB.cons x0.1 [x1.1]
    have h3 := hB.cons x1.1 []
    simp only [List.map_cons, List.map_nil]
    show 1 + l.length ≤ _
    omega
theorem el_at {e : Nat} {a : Addr} {len n k : Nat} {elems : List (DataW H × List MemPlace)} (hk : P.cellsOf e = k) (hk0 : 0 < k) (hel : ∀ i, i < len → (w.cells? base (a.add (i * P.cellsOf e)) (P.cellsOf e)).bind (DataW.trod enc P w base (fun _ => true) held n e) = elems[i]?) (hlen : elems.length = len) :
    (0 < len → a.spot = none) ∧ ∀ i, (hi : i < len) → ∃ cs, w.rangeAt a.block (a.off + i * k) cs ∧ DataW.trod enc P w base (fun _ => true) held n e cs = some (elems[i]'(by omega)) := by
  subst hk
  have hs : 0 < len → a.spot = none := fun h0 => by
    have h := hel 0 h0
    rw [List.getElem?_eq_getElem (by omega)] at h
    obtain ⟨cs, h1, h2⟩ := Option.bind_eq_some_iff.1 h
    obtain ⟨_, g1, g2⟩ := World.cells?_some h1
    have h3 := g2 0 hk0
    rw [List.getElem?_eq_getElem (by omega)] at h3
    have := World.cell?_spot h3
    simpa [Addr.add] using this
  refine ⟨hs, fun i hi => ?_⟩
  have h := hel i hi
  rw [List.getElem?_eq_getElem (by omega)] at h
  obtain ⟨cs, h1, h2⟩ := Option.bind_eq_some_iff.1 h
  refine ⟨cs, fun j v hj => ?_, h2⟩
  obtain ⟨_, g1, g2⟩ := World.cells?_some h1
  have hjl := (List.getElem?_eq_some_iff.1 hj).1
  have h3 := g2 j (by omega)
  rw [hj] at h3
  have e : a = ⟨a.block, a.off, none⟩ := by have := hs (by omega); cases a; simp_all
  rw [e, Addr.add_mid, Addr.add_mid] at h3
  exact h3
theorem okA_some {a : Addr} {n : Nat} (h : 0 < n → a.spot = none) : okA n (some a) := by
  by_cases h0 : n = 0
  · exact .inl h0
  · right; right
    have := h (by omega)
    exact ⟨a.block, a.off, by cases a; simp_all⟩
theorem utags_of (tb : TreeOk P S) (hB : BulkOk B BA) {a : Addr} {len n : Nat} {elems : List (DataW H × List MemPlace)} (hlen : elems.length = len) (hs : 0 < len → a.spot = none)
    (hel : ∀ i, (hi : i < len) → ∃ cs, w.rangeAt a.block (a.off + i * 2) cs ∧ DataW.trod enc P w base (fun _ => true) held n S.tg cs = some (elems[i]'(by omega))) : ∀ (k i : Nat), i + k = len →
    ∃ u : List (Nat × List UInt8), u.length = k ∧ (∀ j t, u[j]? = some t → ∃ g o cs, some a = some ⟨g, o, none⟩ ∧ w.rangeAt g (o + (i + j) * 2) cs ∧ TagRow w cs t) ∧ keysOk u ∧ szU u ≤ BA ((elems.drop i).map (·.1)) := by
  intro k
  induction k with
  | zero => intro i hi; exact ⟨[], rfl, fun j t h => by simp at h, fun x hx => by simp at hx, by simp [szU]⟩
  | succ k ih =>
    intro i hi
    obtain ⟨u, h1, h2, h3, h4⟩ := ih (i + 1) (by omega)
    obtain ⟨cs, g1, g2⟩ := hel i (by omega)
    obtain ⟨t, k1, k2, k3⟩ := open_tg tb hB g2
    have hsp := hs (by omega)
    refine ⟨t :: u, by simp [h1], fun j t' hj => ?_, fun x hx => ?_, ?_⟩
    · cases j with
      | zero =>
        simp only [List.getElem?_cons_zero, Option.some.injEq] at hj
        subst hj
        exact ⟨a.block, a.off, cs, by cases a; simp_all, g1, k1⟩
      | succ j =>
        rw [List.getElem?_cons_succ] at hj
        obtain ⟨g, o, cs', e1, e2, e3⟩ := h2 j t' hj
        exact ⟨g, o, cs', e1, by rw [show i + (j + 1) = i + 1 + j from by omega]; exact e2, e3⟩
    · simp only [List.mem_cons] at hx
      rcases hx with rfl | hx
      · exact k2
      · exact h3 x hx
    · rw [List.drop_eq_getElem_cons (by omega), List.map_cons]
      have := hB.cons (elems[i]'(by omega)).1 ((elems.drop (i + 1)).map (·.1))
      simp only [szU]; omega
theorem open_tgs (tb : TreeOk P S) (hB : BulkOk B BA) {fuel : Nat} {cs : List Value} {x : DataW H × List MemPlace} (h : DataW.trod enc P w base (fun _ => true) held fuel S.tgs cs = some x) :
    ∃ v u, cs = [v] ∧ TagsS w v u ∧ keysOk u ∧ szU u ≤ B x.1 := by
  rcases DataW.trod_slice (sliceOf_eq tb.tgs) h with ⟨rfl, rfl⟩ | ⟨a, len, cap, elems, rest, n, _, rfl, rfl, hb, hl, hm, hlen, hel, hsp, hns⟩
  · exact ⟨_, [], rfl, ⟨none, 0, rfl, .inl rfl, Nat.le_refl _, fun i t h => by simp at h⟩, fun x hx => by simp at hx, by simp [szU]⟩
  · obtain ⟨h1, h2⟩ := el_at tb.ctg (by omega) hel hlen
    obtain ⟨u, g1, g2, g3, g4⟩ := utags_of tb hB hlen h1 h2 len 0 (by omega)
    subst g1
    refine ⟨_, u, rfl, ⟨some a, cap, rfl, okA_some h1, hl, fun i t hi => ?_⟩, g3, ?_⟩
    · have := g2 i t hi
      rwa [Nat.zero_add] at this
    · have := hB.slice (elems.map (·.1)) (rest.map (·.1))
      rw [List.drop_zero] at g4
      show szU u ≤ B (.slice _ _)
      omega
theorem rows_of (hB : BulkOk B BA) {a : Addr} {len : Nat} {elems : List (DataW H × List MemPlace)} (hlen : elems.length = len) (hs : 0 < len → a.spot = none)
    (hel : ∀ i, (hi : i < len) → ∃ cs t, w.rangeAt a.block (a.off + i * 5) cs ∧ RepTr w t cs ∧ goodT keysOk t ∧ szT t ≤ B (elems[i]'(by omega)).1) : ∀ (k i : Nat), i + k = len →
    ∃ l : Trs, l.toList.length = k ∧ RowsT w (some a) i l ∧ goodTs keysOk l ∧ szTs l ≤ BA ((elems.drop i).map (·.1)) := by
  intro k
  induction k with
  | zero => intro i hi; exact ⟨.nil, rfl, by unfold RowsT; trivial, by unfold goodTs; trivial, by simp [szTs]⟩
  | succ k ih =>
    intro i hi
    obtain ⟨l, h1, h2, h3, h4⟩ := ih (i + 1) (by omega)
    obtain ⟨cs, t, g1, g2, g3, g4⟩ := hel i (by omega)
    have hsp := hs (by omega)
    refine ⟨.cons t l, by unfold Trs.toList; simp [h1], ?_, ?_, ?_⟩
    · unfold RowsT
      exact ⟨⟨a.block, a.off, cs, by cases a; simp_all, g1, g2⟩, h2⟩
    · unfold goodTs; exact ⟨g3, h3⟩
    · rw [List.drop_eq_getElem_cons (by omega), List.map_cons]
      have := hB.cons (elems[i]'(by omega)).1 ((elems.drop (i + 1)).map (·.1))
      unfold szTs; omega
theorem open_tr (tb : TreeOk P S) (hB : BulkOk B BA) : ∀ (fuel : Nat) {cs : List Value} {x : DataW H × List MemPlace}, DataW.trod enc P w base (fun _ => true) held fuel S.tr cs = some x → ∃ t, RepTr w t cs ∧ goodT keysOk t ∧ szT t ≤ B x.1 := by
  intro fuel
  induction fuel using Nat.strongRecOn with
  | _ fuel ih =>
    intro cs x h
    obtain ⟨fs, hu, hsz, hf⟩ := structB_of tb.tr
    obtain ⟨xs, n, rfl, rfl, hl, hxl, hx⟩ := DataW.trod_struct hu h
    rw [tb.ctr] at hl
    obtain ⟨c0, c1, c2, c3, c4, rfl⟩ : ∃ c0 c1 c2 c3 c4, cs = [c0, c1, c2, c3, c4] := by
      match cs, hl with
      | [a, b, c, d, e], _ => exact ⟨a, b, c, d, e, rfl⟩
    obtain ⟨x0, x1, x2, x3, x4, rfl⟩ : ∃ x0 x1 x2 x3 x4, xs = [x0, x1, x2, x3, x4] := by
      rw [hsz] at hxl
      match xs, hxl with
      | [a, b, c, d, e], _ => exact ⟨a, b, c, d, e, rfl⟩
    obtain ⟨f0, g0, o0, t0⟩ := hf 0 _ rfl
    obtain ⟨f1, g1, o1, t1⟩ := hf 1 _ rfl
    obtain ⟨f2, g2, o2, t2⟩ := hf 2 _ rfl
    obtain ⟨f3, g3, o3, t3⟩ := hf 3 _ rfl
    obtain ⟨f4, g4, o4, t4⟩ := hf 4 _ rfl
    have e0 := hx 0 f0 g0
    have e1 := hx 1 f1 g1
    have e2 := hx 2 f2 g2
    have e3 := hx 3 f3 g3
    have e4 := hx 4 f4 g4
    rw [o0, t0, tb.ci64] at e0
    rw [o1, t1, tb.cu8s] at e1
    rw [o2, t2, tb.cbool] at e2
    rw [o3, t3, tb.ctrs] at e3
    rw [o4, t4, tb.ctgs] at e4
    obtain ⟨k, hk, hx0, hwf⟩ := DataW.trod_int (intTy_eq tb.i64) (show _ = some x0 from e0)
    obtain ⟨ad, l, c, hc, ha, hlc, hby, hb⟩ := open_u8s tb.u8s tb.u8 tb.cu8 hB (show _ = some x1 from e1)
    obtain ⟨nu, hnu, hx2⟩ := DataW.trod_bool (boolB_eq tb.bool) (show _ = some x2 from e2)
    obtain ⟨vu, u, hvu, htg, hku, hszu⟩ := open_tgs tb hB (show _ = some x4 from e4)
    have hk' : c0 = .int .i64 k := by simpa using hk
    have hc' : c1 = .slice ad l.length c := by simpa using hc
    have hn' : c2 = .bool nu := by simpa using hnu
    have hv' : c4 = vu := by simpa using hvu
    simp [Lit.wf, IntKind.min, IntKind.max, IntKind.bits, IntKind.signed] at hwf
    have hL : ∃ lt : Trs, (∃ ad c, c3 = .slice ad lt.toList.length c ∧ okA lt.toList.length ad ∧ lt.toList.length ≤ c ∧ RowsT w ad 0 lt) ∧ goodTs keysOk lt ∧ szTs lt ≤ B x3.1 := by
      rcases DataW.trod_slice (sliceOf_eq tb.trs) (show _ = some x3 from e3) with ⟨hcs, rfl⟩ | ⟨a, len, cap, elems, rest, n', hn2, hcs, rfl, hb, hl, hm, hlen, hel, hsp, hns⟩
      · have hcs' : c3 = .slice none 0 0 := by simpa using hcs
        exact ⟨.nil, ⟨none, 0, hcs', .inl rfl, Nat.le_refl _, by unfold RowsT; trivial⟩, by unfold goodTs; trivial, by simp [szTs]⟩
      · have hcs' : c3 = .slice (some a) len cap := by simpa using hcs
        obtain ⟨h1, h2⟩ := el_at tb.ctr (by omega) hel hlen
        obtain ⟨lt, q1, q2, q3, q4⟩ := rows_of hB hlen h1 (fun i hi => by
          obtain ⟨cs, r1, r2⟩ := h2 i hi
          obtain ⟨t, s1, s2, s3⟩ := ih n' (by omega) r2
          exact ⟨cs, t, r1, s1, s2, s3⟩) len 0 (by omega)
        refine ⟨lt, ⟨some a, cap, by rw [q1]; exact hcs', by rw [q1]; exact okA_some h1, by rw [q1]; exact hl, q2⟩, q3, ?_⟩
        have := hB.slice (elems.map (·.1)) (rest.map (·.1))
        rw [List.drop_zero] at q4
        show szTs lt ≤ B (.slice _ _)
        omega
    obtain ⟨lt, hL1, hL2, hL3⟩ := hL
    refine ⟨.mk k l nu lt u, ?_, ?_, ?_⟩
    · unfold RepTr
      exact ⟨c1, c3, c4, by rw [hk', hn'], by omega, ⟨ad, c, hc', ha, hlc, hby⟩, hL1, by rw [hv']; exact htg⟩
    · unfold goodT; exact ⟨hku, hL2⟩
    · unfold szT
      have b0 := hB.agg [x0.1, x1.1, x2.1, x3.1, x4.1]
      have b1 := hB.cons x0.1 [x1.1, x2.1, x3.1, x4.1]
      have b2 := hB.cons x1.1 [x2.1, x3.1, x4.1]
      have b3 := hB.cons x2.1 [x3.1, x4.1]
      have b4 := hB.cons x3.1 [x4.1]
      have b5 := hB.cons x4.1 []
      show _ ≤ B (.agg [x0.1, x1.1, x2.1, x3.1, x4.1])
      omega
end
end Go.Kx
namespace Go.Kx
open Go.RowKit Go.ChangeShapes Go.WideShapes Go.WideElems
set_option linter.unusedVariables false
set_option linter.unusedSimpArgs false
section
variable {H : Type} {B : DataW H → Nat} {BA : List (DataW H) → Nat} {enc : TypeId × Value → H} {P : Program}
theorem keepAll {W W' : World} (hl : laidOutB P = true) (hb : Below W.heap.size W W') : ∀ {ts : List TypeId} {vs : List Value} {ds : List (DataW H)} {ps : List MemPlace}, ts.all (fun t => P.readableRec t && decide (t < P.types.size)) = true →
    DataW.TrodAll enc P W 0 (fun _ => true) true ts vs ds ps → (∀ x ∈ ps, x.block < W.heap.size) → DataW.TrodAll enc P W' 0 (fun b => decide (b < W.heap.size)) true ts vs ds ps
  | [], vs, ds, ps, _, h, _ => by
    obtain ⟨rfl, rfl, rfl⟩ := trodAll_nil h
    exact trodAll_mk0
  | t :: ts, vs, ds, ps, hr, h, hlt => by
    obtain ⟨v, vs', d, ds', p, q, rfl, rfl, rfl, h1, h2⟩ := trodAll_cons h
    simp only [List.all_cons, Bool.and_eq_true, decide_eq_true_eq] at hr
    exact trodAll_cons_mk (Below.trod hl hr.1.1 hr.1.2 h1 hb (fun x hx => hlt x (List.mem_append.2 (.inl hx)))) (keepAll hl hb (by simpa using hr.2) h2 (fun x hx => hlt x (List.mem_append.2 (.inr hx))))
theorem row_post {fn : Func} {s : ChangeSpec} {tb : TypeId} {W W' : World} {args : Array Value} {ds gs : List (DataW H)} {before : List MemPlace} (hl : laidOutB P = true) (hrd : fn.params.toList.all (fun t => P.readableRec t && decide (t < P.types.size)) = true) (hres : fn.resultTypes = #[tb]) (ht : P.underlying tb = some .bool)
    (hv : s.vars = []) (hW : DataW.Whole enc P fn.params.toList s.vars false W args.toList ds gs before) (hb : Below W.heap.size W W') (hfn : s.fn H (ds ++ gs) = { results := [.lit (.bool true)], args := ds, vars := [] }) : s.post enc P fn false true false false W args (.bool true) W' := by
  have hW' := hW
  obtain ⟨p, q, hA, hV, rfl, hfz, hnd⟩ := hW
  rw [hv] at hV
  have hq : gs = [] ∧ q = [] := by
    cases gs with
    | nil => exact ⟨rfl, hV⟩
    | cons g gs => simp [DataW.TrodVars] at hV
  obtain ⟨rfl, rfl⟩ := hq
  refine ⟨ds, [], _, [], p, [], hW', ?_, ?_, ?_, hb.frame _, fun h => by cases h⟩
  · rw [hfn, hres]
    exact trodAll_mk1 (shut_bool ht true)
  · rw [hfn]
    exact keepAll hl hb hrd hA (fun x hx => hW'.lt x (List.mem_append.2 (.inl hx)))
  · rw [hv, hfn]
    exact rfl
theorem laid_err {W : World} {name nm : String} {g t : Nat} {d : DataW Unit} (hg : P.globalNamed name = some g) (ht : (P.globals[g]?).map (·.type) = some t) (hi : ifaceTy P t = true) (h : laidMet P [(name, .iface nm d)] W) : ∃ ev, W.cell? ⟨g, 0, none⟩ = some ev ∧ isErr ev := by
  obtain ⟨ps, ⟨g', t', cs, fuel, p, q, hg', ht', hvar, hd, _, _⟩, _⟩ := h
  obtain rfl := Option.some.inj (hg.symm.trans hg')
  obtain rfl := Option.some.inj (ht.symm.trans ht')
  obtain ⟨ms, hu⟩ := ifaceTy_eq hi
  have hc := fun i => World.var?_cell hg hvar i
  obtain ⟨l⟩ := cs
  cases fuel with
  | zero => simp [DataW.trod] at hd
  | succ n =>
    unfold DataW.trod at hd
    rw [hu] at hd
    simp only at hd
    match l, hd with
    | [], hd => simp at hd
    | [v], hd =>
      cases v <;> simp at hd
      rename_i u x
      exact ⟨_, by rw [hc 0]; rfl, _, _, rfl⟩
    | v :: v2 :: r, hd => simp at hd
section
variable {K : KB} {g : TN} {S : SN} {R : RN} {G : TG} {E : EN} {Z : FTN}
theorem u8_range {a : Int} (w0 : (Lit.int .u8 a).wf = true) : ∃ k : Nat, a = (k : Int) ∧ k < 256 := by
  simp [Lit.wf, IntKind.min, IntKind.max, IntKind.bits, IntKind.signed] at w0
  exact ⟨a.toNat, by omega, by omega⟩
theorem u16_range {a : Int} (w0 : (Lit.int .u16 a).wf = true) : ∃ k : Nat, a = (k : Int) ∧ k < 65536 := by
  simp [Lit.wf, IntKind.min, IntKind.max, IntKind.bits, IntKind.signed] at w0
  exact ⟨a.toNat, by omega, by omega⟩
theorem agg_toList (cs : Array Value) : Value.agg cs = .agg cs.toList.toArray := by simp
theorem cut_row (se : Seat2 P K g S R G E Z) (tb : TreeOk P S) (n : RL0) (h1 : (msgB P K g S R G n).all id = true) (h2 : (specB P S n).all id = true) (h3 : isFn P n.f (cLawCut S Z.f2 n.fMax n.fSpec n.fAgain) 56 6 = true) (h4 : yes S.T.u16 = true) (hcost : Nat.ble (costs (toFds n.sx) + 30) 200000 = true)
    {fn : Func} {s : ChangeSpec} (hB : BulkOk B BA) (hu16 : intTy P S.T.u16 .u16 = true) (hp : fn.params = #[S.T.u8, S.tr, S.T.u16]) (hr : fn.resultTypes = #[S.T.bool]) (hv : s.vars = []) (hl : laidOutB P = true) (hrd : fn.params.toList.all (fun t => P.readableRec t && decide (t < P.types.size)) = true)
    (hfn : ∀ d1 d2 d3, s.fn H [d1, d2, d3] = { results := [.lit (.bool true)], args := [d1, d2, d3], vars := [] }) {W : World} {base : Nat} {args : Array Value} {ds gs : List (DataW H)} {before : List MemPlace}
    (hval : ∀ (j : Nat) t v, fn.params[j]? = some t → args[j]? = some v → Value.okWide P W .any base t v) (hW : DataW.Whole enc P fn.params.toList s.vars false W args.toList ds gs before) (hbulk : BA (ds ++ gs) ≤ 1048576) (hev : ∃ ev, W.cell? ⟨R.gErr, 0, none⟩ = some ev ∧ isErr ev) :
    Calls P n.f args W fun e W' => ∃ v, e = .returned v ∧ s.post enc P fn false true false false W args v W' := by
  have hW' := hW
  obtain ⟨p, q, hA, hV, rfl, hfz, hnd⟩ := hW
  have hg0 : gs = [] := by
    rw [hv] at hV
    cases gs with
    | nil => rfl
    | cons g gs => simp [DataW.TrodVars] at hV
  subst hg0
  rw [hp] at hA hval
  obtain ⟨v0, vs0, d0, ds0, p0, q0, hargs, rfl, rfl, t0, r0⟩ := trodAll_cons hA
  obtain ⟨v1, vs1, d1, ds1, p1, q1, hargs1, rfl, rfl, t1, r1⟩ := trodAll_cons r0
  obtain ⟨v2, vs2, d2, ds2, p2, q2, hargs2, rfl, rfl, t2, r2⟩ := trodAll_cons r1
  obtain ⟨rfl, rfl, rfl⟩ := trodAll_nil r2
  subst hargs2
  subst hargs1
  obtain rfl : args = #[v0, v1, v2] := by cases args; simp_all
  obtain ⟨a0, rfl, rfl, rfl, w0⟩ := open_int (intTy_eq tb.u8) (hval 0 S.T.u8 v0 rfl rfl) t0
  obtain ⟨k, rfl, hk⟩ := u8_range w0
  obtain ⟨a2, rfl, rfl, rfl, w2⟩ := open_int (intTy_eq hu16) (hval 2 S.T.u16 v2 rfl rfl) t2
  obtain ⟨m, rfl, hm⟩ := u16_range w2
  obtain ⟨fs, hu, _, _⟩ := structB_of tb.tr
  obtain ⟨cs, rfl, hcs⟩ := okWide_struct hu (hval 1 S.tr v1 rfl rfl)
  obtain ⟨fuel, ht⟩ := t1
  obtain ⟨t, hrep, hgood, hsz⟩ := open_tr tb hB fuel (cs := cs.toList) (x := (d1, _)) ht
  obtain ⟨ev, hc, hie⟩ := hev
  have b0 := hB.cons (.lit (.int .u8 (k : Int)) : DataW H) [d1, .lit (.int .u16 (m : Int))]
  have b1 := hB.cons d1 [.lit (.int .u16 (m : Int))]
  have hst : szT t ≤ 1100000 := by
    simp only [List.append_nil] at hbulk
    have : szT t ≤ B d1 := hsz
    omega
  have hrun := cut_law se n h1 h2 h3 h4 W k m hk hm cs.toList t hrep hgood ev hc hie (fun v hv => kWrite_small hcost n.flex (v : Nat) hst)
  rw [← agg_toList] at hrun
  refine hrun.mono ?_
  rintro e W' ⟨rfl, hbel⟩
  exact ⟨_, rfl, row_post hl hrd hr (boolB_eq tb.bool) hv hW' hbel (by rw [List.append_nil]; exact hfn _ _ _)⟩
structure ArgOk (P : Program) (S : SN) : Prop where
  u8 : intTy P S.T.u8 .u8 = true
  u8s : sliceOf P S.T.u8s S.T.u8 = true
  cu8 : P.cellsOf S.T.u8 = 1
  bool : boolB P S.T.bool = true
def argB (P : Program) (S : SN) : List Bool := [intTy P S.T.u8 .u8, sliceOf P S.T.u8s S.T.u8, Nat.beq (P.cellsOf S.T.u8) 1, boolB P S.T.bool]
theorem arg_of {P : Program} {S : SN} (h : (argB P S).all id = true) : ArgOk P S := by
  simp only [argB, List.all_cons, List.all_nil, id_eq, Bool.and_true, Bool.and_eq_true, Nat.beq_eq] at h
  exact ⟨h.1, h.2.1, h.2.2.1, h.2.2.2⟩
end
end
end Go.Kx
namespace Go.Kx
open Go.RowKit
set_option linter.unusedSimpArgs false
set_option linter.unusedVariables false
section
variable {P : Program} {N : Nat} {Q : Exit → (Nat → Value) → World → Prop} {ρ : Nat → Value} {w w' : World} {ms : List MOp} {d : Nat} {v : Value}
end
end Go.Kx
