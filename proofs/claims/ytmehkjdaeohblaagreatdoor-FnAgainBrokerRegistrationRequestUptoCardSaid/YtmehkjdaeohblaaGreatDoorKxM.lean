/- How much the reference writes of a tree: at most so often the tree's size. No condition.
   An argument's tree as it is read (DataW): it lies in memory as a tree, keys fit, its bulk is no less than its size. Conditions: the tables' facts (treeB), the bulk's equations (BulkOk).
   From the laws' runs to what a row says of them: arguments opened, read again behind the call. Conditions: the program's tests, the row's closed facts.
   Messages that are kept within others: the version stands ahead of the fields, in the octets. NewX, readFrom, impl.AgainX. Conditions: the contracts of what they call.
   Messages that are kept: NewX, impl.AgainX of one argument. Conditions: the contracts of what they call.
   The laws of messages that are kept: spec.Kept; FnAgain's own code. Conditions: the contracts of what they call.
   Messages that are kept, the plain law: the version ahead of the fields, read and written again. Then the laws' tests and runs.
   Laws of messages that are kept: the tests, FnAgain's run, its row.
   Numbers with a point: appended, read. Conditions: the program's tests; what its two functions of the library without a text answer (extern). -/
import Derived.Test.YtmehkjdaeohblaaGreatDoorKxL
import Derived.ChangeSlices
import Derived.ChangeArms
import Derived.Carry
import Derived.OpenShut
import Derived.ChangeShapes
import Derived.FnData
namespace Go.Kx
set_option linter.unusedVariables false

def szU : List (Nat × List UInt8) → Nat
  | [] => 0
  | x :: r => 1 + x.2.length + szU r
mutual
def szT : Tr → Nat
  | .mk _ s _ l u => 1 + s.length + szTs l + szU u
def szTs : Trs → Nat
  | .nil => 0
  | .cons t r => szT t + szTs r
end

theorem szT_pos : ∀ t : Tr, 1 ≤ szT t
  | .mk _ _ _ _ _ => by unfold szT; omega
theorem szTs_sum : ∀ l : Trs, szTs l = (l.toList.map szT).sum
  | .nil => by unfold szTs; rfl
  | .cons t r => by unfold szTs Trs.toList; rw [List.map_cons, List.sum_cons, szTs_sum r]
theorem szT_l (t : Tr) : (t.l.map szT).sum ≤ szT t := by
  cases t with
  | mk n s b l u =>
    show (l.toList.map szT).sum ≤ _
    unfold szT
    rw [← szTs_sum l]; omega
theorem szT_s (t : Tr) : 1 + t.s.length ≤ szT t := by
  cases t with
  | mk n s b l u => unfold szT; show 1 + s.length ≤ _; omega
theorem szT_u (t : Tr) : szU t.u ≤ szT t := by
  cases t with
  | mk n s b l u => unfold szT; show szU u ≤ _; omega
theorem mem_sum {l : List Tr} {x : Tr} (h : x ∈ l) : szT x ≤ (l.map szT).sum := by
  induction l with
  | nil => simp at h
  | cons y l ih =>
    rw [List.map_cons, List.sum_cons]
    simp only [List.mem_cons] at h
    rcases h with rfl | h
    · omega
    · have := ih h; omega
theorem take_sum (k : Nat) : ∀ (l : List Tr), ((l.take k).map szT).sum ≤ (l.map szT).sum := by
  induction k with
  | zero => intro l; simp
  | succ k ih =>
    intro l
    cases l with
    | nil => simp
    | cons y l => rw [List.take_succ_cons, List.map_cons, List.sum_cons, List.map_cons, List.sum_cons]; have := ih l; omega
theorem szT_at (t : Tr) (i : Nat) : szT (t.l.getD i .zero) ≤ szT t := by
  rw [List.getD_eq_getElem?_getD]
  cases h : t.l[i]? with
  | none => simp only [Option.getD_none]; have := szT_pos t; have : szT .zero = 1 := rfl; omega
  | some x => simp only [Option.getD_some]; exact Nat.le_trans (mem_sum (List.mem_of_getElem? h)) (szT_l t)

theorem uvb_le : ∀ (j n : Nat), (uvb j n).length ≤ j + 1
  | 0, n => by simp [uvb]
  | j + 1, n => by
    unfold uvb
    split
    · simp
    · rw [List.length_cons]; have := uvb_le j (n / 128); omega
theorem uv_le (n : Nat) : (uv n).length ≤ 10 := uvb_le 9 n
theorem cnt_le (flex : Bool) (k n : Nat) (hk : k ≤ 10) : (cnt flex k n).length ≤ 10 := by
  unfold cnt
  split
  · exact uv_le _
  · rw [fix_len]; exact hk
theorem sCnt_le (flex null : Bool) (n k : Nat) (hk : k ≤ 10) : (sCnt flex null n k).length ≤ 10 := by
  unfold sCnt
  split
  · rw [cntNull_len]; split <;> omega
  · exact cnt_le _ _ _ hk

theorem szU_ins (t : Nat × List UInt8) : ∀ (xs : List (Nat × List UInt8)), szU (insTag t xs) ≤ 1 + t.2.length + szU xs
  | [] => by simp [insTag, szU]
  | x :: xs => by
    have := szU_ins t xs
    unfold insTag
    split
    · simp only [szU]; omega
    · split
      · simp only [szU]; omega
      · simp only [szU]; omega
theorem szU_fold {least : Nat} : ∀ (l out : List (Nat × List UInt8)), szU (l.foldl (fun out t => if t.1 < least then out else insTag t out) out) ≤ szU out + szU l
  | [], out => by simp [szU]
  | t :: l, out => by
    rw [List.foldl_cons]
    refine Nat.le_trans (szU_fold l _) ?_
    simp only [szU]
    split
    · omega
    · have := szU_ins t out; omega
theorem szU_take : ∀ (k : Nat) (l : List (Nat × List UInt8)), szU (l.take k) ≤ szU l
  | 0, l => by simp [szU]
  | k + 1, [] => by simp
  | k + 1, x :: l => by rw [List.take_succ_cons]; simp only [szU]; have := szU_take k l; omega
theorem szU_unk (least : Nat) (l : List (Nat × List UInt8)) : szU (sUnk least l) ≤ szU l := by
  unfold sUnk
  refine Nat.le_trans (szU_fold _ _) ?_
  have := szU_take most l
  simp only [szU]; omega
theorem sTag_le (t : Nat × List UInt8) : (sTag t).length ≤ 20 * (1 + t.2.length) := by
  unfold sTag
  have h1 := uv_le t.1
  have h2 := uv_le (t.2.take most).length
  have h3 : (t.2.take most).length ≤ t.2.length := by rw [List.length_take]; omega
  simp only [List.length_append] at *
  omega
theorem flat_tags : ∀ (l : List (Nat × List UInt8)), (l.flatMap sTag).length ≤ 20 * szU l
  | [] => by simp
  | x :: l => by
    have h1 := flat_tags l
    have h2 := sTag_le x
    rw [List.flatMap_cons, List.length_append]
    simp only [szU]; omega
theorem sTags_le (flex : Bool) (t : Tr) : (sTags flex t).length ≤ 30 * szT t := by
  unfold sTags
  split
  · have h1 := uv_le (sUnk 0 t.u).length
    have h2 := flat_tags (sUnk 0 t.u)
    have h3 := szU_unk 0 t.u
    have h4 := szT_u t
    have h5 := szT_pos t
    rw [List.length_append]; omega
  · simp

mutual
def costF : Fd → Nat
  | .mk _ _ _ _ _ _ _ sub => 60 + costs sub
def costs : Fds → Nat
  | .nil => 0
  | .cons f r => costF f + costs r
end

theorem sWid_le (kind : Int) : sWid kind ≤ 8 := by unfold sWid; split <;> (try omega); split <;> (try omega); split <;> omega

theorem sVal_le {kind : Int} {part : Tr → List UInt8} {null flex : Bool} {t : Tr} {K : Nat} (h : (part t).length ≤ K * szT t) : (sVal kind part null flex t).length ≤ (16 + K) * szT t := by
  have h5 := szT_pos t
  have h6 := szT_s t
  have e : (16 + K) * szT t = 16 * szT t + K * szT t := Nat.add_mul _ _ _
  have h7 : (if null then [] else t.s.take most).length ≤ t.s.length := by
    split
    · simp
    · rw [List.length_take]; omega
  unfold sVal
  split
  · simp; omega
  · split
    · rw [List.length_take]; omega
    · split
      · rw [List.length_append]; have := sCnt_le flex null (if null then [] else t.s.take most).length 2 (by omega); omega
      · split
        · rw [List.length_append]; have := sCnt_le flex null (if null then [] else t.s.take most).length 4 (by omega); omega
        · split
          · omega
          · rw [fix_len]; have := sWid_le kind; omega

theorem flat_le {e : Tr → List UInt8} {K : Nat} : ∀ {l : List Tr}, (∀ x ∈ l, (e x).length ≤ K * szT x) → (l.flatMap e).length ≤ K * (l.map szT).sum
  | [], _ => by simp
  | x :: l, h => by
    rw [List.flatMap_cons, List.length_append, List.map_cons, List.sum_cons, Nat.mul_add]
    have h1 := h x List.mem_cons_self
    have h2 := flat_le (l := l) fun y hy => h y (List.mem_cons_of_mem _ hy)
    omega

section
variable (ver : Int) (flex : Bool)
mutual
theorem sField_le : ∀ (f : Fd) (t : Tr), (sField ver flex f t).length ≤ costF f * szT t
  | .mk kind fr to nul tag df of sub, t => by
    have hp : ∀ t : Tr, (sPlain ver flex sub 0 t ++ sTags flex t).length ≤ (costs sub + 30) * szT t := fun t => by
      rw [List.length_append, Nat.add_mul]
      have := sPlain_le sub 0 t
      have := sTags_le flex t
      omega
    have h5 := szT_pos t
    have e1 : costF (.mk kind fr to nul tag df of sub) = 60 + costs sub := by unfold costF; rfl
    rw [e1, sField]
    have e2 : (60 + costs sub) * szT t = 60 * szT t + costs sub * szT t := Nat.add_mul _ _ _
    split
    · rw [List.length_append]
      have h1 := sCnt_le flex (sNull nul ver t.null) (if sNull nul ver t.null then [] else t.l.take most).length 4 (by omega)
      have h2 : ((if sNull nul ver t.null then [] else t.l.take most).flatMap (sVal of (fun t => sPlain ver flex sub 0 t ++ sTags flex t) false flex)).length ≤ (16 + (costs sub + 30)) * ((if sNull nul ver t.null then [] else t.l.take most).map szT).sum :=
        flat_le fun x _ => sVal_le (hp x)
      have h3 : ((if sNull nul ver t.null then [] else t.l.take most).map szT).sum ≤ szT t := by
        split
        · simp
        · exact Nat.le_trans (take_sum _ _) (szT_l t)
      have h4 := Nat.mul_le_mul_left (16 + (costs sub + 30)) h3
      have e3 : (16 + (costs sub + 30)) * szT t = 46 * szT t + costs sub * szT t := by rw [show 16 + (costs sub + 30) = 46 + costs sub from by omega, Nat.add_mul]
      omega
    · have h1 := hp t
      have e3 : (costs sub + 30) * szT t = costs sub * szT t + 30 * szT t := Nat.add_mul _ _ _
      split
      · split
        · rw [fix_len]; omega
        · rw [List.length_append, fix_len]; omega
      · have := sVal_le (kind := kind) (part := fun t => sPlain ver flex sub 0 t ++ sTags flex t) (null := sNull nul ver t.null) (flex := flex) (hp t)
        have e4 : (16 + (costs sub + 30)) * szT t = 46 * szT t + costs sub * szT t := by rw [show 16 + (costs sub + 30) = 46 + costs sub from by omega, Nat.add_mul]
        omega
theorem sPlain_le : ∀ (fs : Fds) (i : Nat) (t : Tr), (sPlain ver flex fs i t).length ≤ costs fs * szT t
  | .nil, i, t => by rw [sPlain]; simp
  | .cons f r, i, t => by
    rw [sPlain, List.length_append]
    have h1 := sPlain_le r (i + 1) t
    have h2 : (if sHas f.fr f.to ver then sField ver flex f (t.l.getD i .zero) else []).length ≤ costF f * szT t := by
      split
      · exact Nat.le_trans (sField_le f _) (Nat.mul_le_mul_left _ (szT_at t i))
      · simp
    have e : costs (.cons f r) = costF f + costs r := by rw [costs]
    rw [e, Nat.add_mul]; omega
end
end

theorem sWrite_le (fs : Fds) (flex v : Int) (t : Tr) : (sWrite fs flex v t).length ≤ (costs fs + 30) * szT t := by
  unfold sWrite sPart
  rw [List.length_append, Nat.add_mul]
  have := sPlain_le v (decide (0 ≤ flex) && decide (flex ≤ v)) fs 0 t
  have := sTags_le (decide (0 ≤ flex) && decide (flex ≤ v)) t
  omega

/-- Of a tree of at most a million things at most 2^38 octets. -/
theorem sWrite_small {fs : Fds} (hc : Nat.ble (costs fs + 30) 200000 = true) (flex v : Int) {t : Tr} (ht : szT t ≤ 1100000) : (sWrite fs flex v t).length ≤ 274877906944 := by
  have h := sWrite_le fs flex v t
  have h1 : costs fs + 30 ≤ 200000 := Nat.le_of_ble_eq_true hc
  have h2 := Nat.mul_le_mul h1 ht
  omega
end Go.Kx
namespace Go.Kx
open Go.RowKit Go.ChangeShapes Go.WideShapes
set_option linter.unusedVariables false
set_option linter.unusedSimpArgs false

def eqNN : List (Nat × Nat) → List (Nat × Nat) → Bool
  | [], [] => true
  | a :: xs, b :: ys => Nat.beq a.1 b.1 && Nat.beq a.2 b.2 && eqNN xs ys
  | _, _ => false
theorem eqNN_eq : ∀ {a b : List (Nat × Nat)}, eqNN a b = true → a = b
  | [], [], _ => rfl
  | [], _ :: _, h => by simp [eqNN] at h
  | _ :: _, [], h => by simp [eqNN] at h
  | (a1, a2) :: xs, (b1, b2) :: ys, h => by
    simp only [eqNN, Bool.and_eq_true, Nat.beq_eq] at h
    obtain ⟨⟨rfl, rfl⟩, h⟩ := h
    rw [eqNN_eq h]

def structB (P : Program) (t : Nat) (l : List (Nat × Nat)) : Bool := match P.underlying t with
  | some (.struct fs) => eqNN (fs.toList.map fun f => (f.offset, f.type)) l
  | _ => false
theorem structB_of {P : Program} {t : Nat} {l : List (Nat × Nat)} (h : structB P t l = true) : ∃ fs : Array Field, P.underlying t = some (.struct fs) ∧ fs.size = l.length ∧ ∀ (i : Nat) (q : Nat × Nat), l[i]? = some q → ∃ f : Field, fs[i]? = some f ∧ f.offset = q.1 ∧ f.type = q.2 := by
  unfold structB at h
  split at h
  · rename_i fs hu
    have e := eqNN_eq h
    subst e
    refine ⟨fs, hu, by simp, fun i q hi => ?_⟩
    rw [List.getElem?_map, Array.getElem?_toList] at hi
    cases hf : fs[i]? with
    | none => simp [hf] at hi
    | some f =>
      rw [hf] at hi
      simp only [Option.map_some, Option.some.injEq] at hi
      subst hi
      exact ⟨f, rfl, rfl, rfl⟩
  · simp at h

def boolB (P : Program) (t : Nat) : Bool := match P.underlying t with
  | some .bool => true
  | _ => false
theorem boolB_eq {P : Program} {t : Nat} (h : boolB P t = true) : P.underlying t = some .bool := by
  unfold boolB at h
  split at h
  · assumption
  · simp at h

def treeB (P : Program) (S : SN) : List Bool := [structB P S.tr [(0, S.T.i64), (1, S.T.u8s), (2, S.T.bool), (3, S.trs), (4, S.tgs)], structB P S.tg [(0, S.T.u32), (1, S.T.u8s)], intTy P S.T.i64 .i64, boolB P S.T.bool, intTy P S.T.u32 .u32, intTy P S.T.u8 .u8,
  sliceOf P S.T.u8s S.T.u8, sliceOf P S.trs S.tr, sliceOf P S.tgs S.tg, Nat.beq (P.cellsOf S.tr) 5, Nat.beq (P.cellsOf S.tg) 2, Nat.beq (P.cellsOf S.T.i64) 1, Nat.beq (P.cellsOf S.T.bool) 1, Nat.beq (P.cellsOf S.T.u8) 1, Nat.beq (P.cellsOf S.T.u8s) 1, Nat.beq (P.cellsOf S.trs) 1, Nat.beq (P.cellsOf S.tgs) 1, Nat.beq (P.cellsOf S.T.u32) 1]

structure BulkOk {H : Type} (B : DataW H → Nat) (BA : List (DataW H) → Nat) : Prop where
  one : ∀ d, 1 ≤ B d
  slice : ∀ e s, 1 + BA e ≤ B (.slice e s)
  agg : ∀ ps, 1 + BA ps ≤ B (.agg ps)
  cons : ∀ d l, B d + BA l ≤ BA (d :: l)

section
variable {H : Type} {B : DataW H → Nat} {BA : List (DataW H) → Nat} {enc : TypeId × Value → H} {P : Program} {S : SN} {w : World} {base : Nat} {held : Bool}

theorem BulkOk.len (hB : BulkOk B BA) : ∀ l : List (DataW H), l.length ≤ BA l
  | [] => Nat.zero_le _
  | d :: l => by have := hB.one d; have := hB.cons d l; have := hB.len l; rw [List.length_cons]; omega

theorem cell_at {a : Addr} {v : Value} {i : Nat} (h : w.cell? (a.add i) = some v) (h0 : a.spot = none) : w.cell? ⟨a.block, a.off + i, none⟩ = some v := by
  have e : a = ⟨a.block, a.off, none⟩ := by cases a; simp_all
  rw [e, Addr.add_mid] at h
  exact h

theorem open_u8s {U8 U8s : Nat} (h1 : sliceOf P U8s U8 = true) (h2 : intTy P U8 .u8 = true) (h3 : P.cellsOf U8 = 1) (hB : BulkOk B BA) {fuel : Nat} {cs : List Value} {x : DataW H × List MemPlace} (h : DataW.trod enc P w base (fun _ => true) held fuel U8s cs = some x) :
    ∃ ad l c, cs = [.slice ad (List.length l) c] ∧ okA l.length ad ∧ l.length ≤ c ∧ BytesAt w (fun _ => True) ad l ∧ 1 + l.length ≤ B x.1 := by
  rcases open_ints (sliceOf_eq h1) (intTy_eq h2) h3 h with ⟨rfl, rfl⟩ | ⟨a, len, cap, zs, rfl, hb, hl, hm, hz, rfl, hcell, hwz⟩
  · exact ⟨none, [], 0, rfl, .inl rfl, Nat.le_refl _, fun j b hj => by simp at hj, by have := hB.one (DataW.nil : DataW H); simpa using this⟩
  · simp only [if_true] at hz
    have hlen : ((zs.take len).map fun n => UInt8.ofNat n.toNat).length = len := by simp; omega
    have hspot : 0 < len → a.spot = none := fun h0 => by
      have := World.cell?_spot (hcell 0 (by omega))
      simpa [Addr.add] using this
    refine ⟨some a, (zs.take len).map fun n => UInt8.ofNat n.toNat, cap, by rw [hlen], ?_, by rw [hlen]; exact hl, fun j b hj => ?_, ?_⟩
    · rw [hlen]
      by_cases h0 : len = 0
      · exact .inl h0
      · right; right
        refine ⟨a.block, a.off, ?_⟩
        have := hspot (by omega)
        cases a; simp_all
    · have hj' : j < len := by
        have := (List.getElem?_eq_some_iff.1 hj).1
        rwa [hlen] at this
      have hs := hspot (by omega)
      refine ⟨a.block, a.off, by cases a; simp_all, trivial, ?_⟩
      rw [cell_at (hcell j (by omega)) hs]
      have hzj : zs.getD j 0 = zs[j]'(by omega) := by simp [List.getD, List.getElem?_eq_getElem (show j < zs.length by omega)]
      have hw := hwz (zs[j]'(by omega)) (List.getElem_mem _)
      rw [List.getElem?_map, List.getElem?_take, if_pos hj', List.getElem?_eq_getElem (show j < zs.length by omega)] at hj
      simp only [Option.map_some, Option.some.injEq] at hj
      subst hj
      rw [hzj]
      unfold byteV
      congr 2
      simp [Lit.wf, IntKind.min, IntKind.max, IntKind.bits, IntKind.signed] at hw
      simp only [UInt8.toNat_ofNat']
      omega
    · have h1 := hB.slice (lits .u8 (zs.take len)) (lits .u8 (zs.drop len))
      have h2 := hB.len (lits .u8 (zs.take len))
      have h3 : (lits (H := H) .u8 (zs.take len)).length = len := by simp [lits]; omega
      rw [hlen]
      show 1 + len ≤ B (.slice _ _)
      rw [h3] at h2
      omega

structure TreeOk (P : Program) (S : SN) : Prop where
  tr : structB P S.tr [(0, S.T.i64), (1, S.T.u8s), (2, S.T.bool), (3, S.trs), (4, S.tgs)] = true
  tg : structB P S.tg [(0, S.T.u32), (1, S.T.u8s)] = true
  i64 : intTy P S.T.i64 .i64 = true
  bool : boolB P S.T.bool = true
  u32 : intTy P S.T.u32 .u32 = true
  u8 : intTy P S.T.u8 .u8 = true
  u8s : sliceOf P S.T.u8s S.T.u8 = true
  trs : sliceOf P S.trs S.tr = true
  tgs : sliceOf P S.tgs S.tg = true
  ctr : P.cellsOf S.tr = 5
  ctg : P.cellsOf S.tg = 2
  ci64 : P.cellsOf S.T.i64 = 1
  cbool : P.cellsOf S.T.bool = 1
  cu8 : P.cellsOf S.T.u8 = 1
  cu8s : P.cellsOf S.T.u8s = 1
  ctrs : P.cellsOf S.trs = 1
  ctgs : P.cellsOf S.tgs = 1
  cu32 : P.cellsOf S.T.u32 = 1
theorem tree_of (h : (treeB P S).all id = true) : TreeOk P S := by
  simp only [treeB, List.all_cons, List.all_nil, id_eq, Bool.and_true, Bool.and_eq_true, Nat.beq_eq] at h
  obtain ⟨h1, h2, h3, h4, h5, h6, h7, h8, h9, h10, h11, h12, h13, h14, h15, h16, h17, h18⟩ := h
  exact ⟨h1, h2, h3, h4, h5, h6, h7, h8, h9, h10, h11, h12, h13, h14, h15, h16, h17, h18⟩

theorem open_tg (tb : TreeOk P S) (hB : BulkOk B BA) {fuel : Nat} {cs : List Value} {x : DataW H × List MemPlace} (h : DataW.trod enc P w base (fun _ => true) held fuel S.tg cs = some x) :
    ∃ t, TagRow w cs t ∧ t.1 < 4294967296 ∧ 1 + t.2.length ≤ B x.1 := by
  obtain ⟨fs, hu, hsz, hf⟩ := structB_of tb.tg
  obtain ⟨xs, n, rfl, rfl, hl, hxl, hx⟩ := DataW.trod_struct hu h
  rw [tb.ctg] at hl
  obtain ⟨c0, c1, rfl⟩ : ∃ c0 c1, cs = [c0, c1] := by
    match cs, hl with
    | [a, b], _ => exact ⟨a, b, rfl⟩
  obtain ⟨x0, x1, rfl⟩ : ∃ x0 x1, xs = [x0, x1] := by
    rw [hsz] at hxl
    match xs, hxl with
    | [a, b], _ => exact ⟨a, b, rfl⟩
  obtain ⟨f0, g0, o0, t0⟩ := hf 0 _ rfl
  obtain ⟨f1, g1, o1, t1⟩ := hf 1 _ rfl
  have e0 := hx 0 f0 g0
  have e1 := hx 1 f1 g1
  rw [o0, t0, tb.cu32] at e0
  rw [o1, t1, tb.cu8s] at e1
  obtain ⟨k, hk, hx0, hwf⟩ := DataW.trod_int (intTy_eq tb.u32) (show _ = some x0 from e0)
  obtain ⟨ad, l, c, hc, ha, hlc, hby, hb⟩ := open_u8s tb.u8s tb.u8 tb.cu8 hB (show _ = some x1 from e1)
  have hk' : c0 = .int .u32 k := by simpa using hk
  have hc' : c1 = .slice ad l.length c := by simpa using hc
  simp [Lit.wf, IntKind.min, IntKind.max, IntKind.bits, IntKind.signed] at hwf
  refine ⟨(k.toNat, l), ⟨by show k.toNat < _; omega, ad, c, ?_, ha, hlc, hby⟩, by show k.toNat < _; omega, ?_⟩
  · rw [hk', hc', show ((k.toNat : Nat) : Int) = k from by omega]
  · have h1 := hB.agg [x0.1, x1.1]
    have h2 := hB.cons x0.1 [x1.1]
    have h3 := hB.cons x1.1 []
    simp only [List.map_cons, List.map_nil]
    show 1 + l.length ≤ _
    omega

/-- The rows of a slice, one by one. -/
theorem el_at {e : Nat} {a : Addr} {len n k : Nat} {elems : List (DataW H × List MemPlace)} (hk : P.cellsOf e = k) (hk0 : 0 < k) (hel : ∀ i, i < len → (w.cells? base (a.add (i * P.cellsOf e)) (P.cellsOf e)).bind (DataW.trod enc P w base (fun _ => true) held n e) = elems[i]?) (hlen : elems.length = len) :
    (0 < len → a.spot = none) ∧ ∀ i, (hi : i < len) → ∃ cs, w.rangeAt a.block (a.off + i * k) cs ∧ DataW.trod enc P w base (fun _ => true) held n e cs = some (elems[i]'(by omega)) := by
  subst hk
  have hs : 0 < len → a.spot = none := fun h0 => by
    have h := hel 0 h0
    rw [List.getElem?_eq_getElem (by omega)] at h
    obtain ⟨cs, h1, h2⟩ := Option.bind_eq_some_iff.1 h
    obtain ⟨_, g1, g2⟩ := World.cells?_some h1
    have h3 := g2 0 hk0
    rw [List.getElem?_eq_getElem (by omega)] at h3
    have := World.cell?_spot h3
    simpa [Addr.add] using this
  refine ⟨hs, fun i hi => ?_⟩
  have h := hel i hi
  rw [List.getElem?_eq_getElem (by omega)] at h
  obtain ⟨cs, h1, h2⟩ := Option.bind_eq_some_iff.1 h
  refine ⟨cs, fun j v hj => ?_, h2⟩
  obtain ⟨_, g1, g2⟩ := World.cells?_some h1
  have hjl := (List.getElem?_eq_some_iff.1 hj).1
  have h3 := g2 j (by omega)
  rw [hj] at h3
  have e : a = ⟨a.block, a.off, none⟩ := by have := hs (by omega); cases a; simp_all
  rw [e, Addr.add_mid, Addr.add_mid] at h3
  exact h3

theorem okA_some {a : Addr} {n : Nat} (h : 0 < n → a.spot = none) : okA n (some a) := by
  by_cases h0 : n = 0
  · exact .inl h0
  · right; right
    have := h (by omega)
    exact ⟨a.block, a.off, by cases a; simp_all⟩

theorem utags_of (tb : TreeOk P S) (hB : BulkOk B BA) {a : Addr} {len n : Nat} {elems : List (DataW H × List MemPlace)} (hlen : elems.length = len) (hs : 0 < len → a.spot = none)
    (hel : ∀ i, (hi : i < len) → ∃ cs, w.rangeAt a.block (a.off + i * 2) cs ∧ DataW.trod enc P w base (fun _ => true) held n S.tg cs = some (elems[i]'(by omega))) : ∀ (k i : Nat), i + k = len →
    ∃ u : List (Nat × List UInt8), u.length = k ∧ (∀ j t, u[j]? = some t → ∃ g o cs, some a = some ⟨g, o, none⟩ ∧ w.rangeAt g (o + (i + j) * 2) cs ∧ TagRow w cs t) ∧ keysOk u ∧ szU u ≤ BA ((elems.drop i).map (·.1)) := by
  intro k
  induction k with
  | zero => intro i hi; exact ⟨[], rfl, fun j t h => by simp at h, fun x hx => by simp at hx, by simp [szU]⟩
  | succ k ih =>
    intro i hi
    obtain ⟨u, h1, h2, h3, h4⟩ := ih (i + 1) (by omega)
    obtain ⟨cs, g1, g2⟩ := hel i (by omega)
    obtain ⟨t, k1, k2, k3⟩ := open_tg tb hB g2
    have hsp := hs (by omega)
    refine ⟨t :: u, by simp [h1], fun j t' hj => ?_, fun x hx => ?_, ?_⟩
    · cases j with
      | zero =>
        simp only [List.getElem?_cons_zero, Option.some.injEq] at hj
        subst hj
        exact ⟨a.block, a.off, cs, by cases a; simp_all, g1, k1⟩
      | succ j =>
        rw [List.getElem?_cons_succ] at hj
        obtain ⟨g, o, cs', e1, e2, e3⟩ := h2 j t' hj
        exact ⟨g, o, cs', e1, by rw [show i + (j + 1) = i + 1 + j from by omega]; exact e2, e3⟩
    · simp only [List.mem_cons] at hx
      rcases hx with rfl | hx
      · exact k2
      · exact h3 x hx
    · rw [List.drop_eq_getElem_cons (by omega), List.map_cons]
      have := hB.cons (elems[i]'(by omega)).1 ((elems.drop (i + 1)).map (·.1))
      simp only [szU]; omega

theorem open_tgs (tb : TreeOk P S) (hB : BulkOk B BA) {fuel : Nat} {cs : List Value} {x : DataW H × List MemPlace} (h : DataW.trod enc P w base (fun _ => true) held fuel S.tgs cs = some x) :
    ∃ v u, cs = [v] ∧ TagsS w v u ∧ keysOk u ∧ szU u ≤ B x.1 := by
  rcases DataW.trod_slice (sliceOf_eq tb.tgs) h with ⟨rfl, rfl⟩ | ⟨a, len, cap, elems, rest, n, _, rfl, rfl, hb, hl, hm, hlen, hel, hsp, hns⟩
  · exact ⟨_, [], rfl, ⟨none, 0, rfl, .inl rfl, Nat.le_refl _, fun i t h => by simp at h⟩, fun x hx => by simp at hx, by simp [szU]⟩
  · obtain ⟨h1, h2⟩ := el_at tb.ctg (by omega) hel hlen
    obtain ⟨u, g1, g2, g3, g4⟩ := utags_of tb hB hlen h1 h2 len 0 (by omega)
    subst g1
    refine ⟨_, u, rfl, ⟨some a, cap, rfl, okA_some h1, hl, fun i t hi => ?_⟩, g3, ?_⟩
    · have := g2 i t hi
      rwa [Nat.zero_add] at this
    · have := hB.slice (elems.map (·.1)) (rest.map (·.1))
      rw [List.drop_zero] at g4
      show szU u ≤ B (.slice _ _)
      omega

theorem rows_of (hB : BulkOk B BA) {a : Addr} {len : Nat} {elems : List (DataW H × List MemPlace)} (hlen : elems.length = len) (hs : 0 < len → a.spot = none)
    (hel : ∀ i, (hi : i < len) → ∃ cs t, w.rangeAt a.block (a.off + i * 5) cs ∧ RepTr w t cs ∧ goodT keysOk t ∧ szT t ≤ B (elems[i]'(by omega)).1) : ∀ (k i : Nat), i + k = len →
    ∃ l : Trs, l.toList.length = k ∧ RowsT w (some a) i l ∧ goodTs keysOk l ∧ szTs l ≤ BA ((elems.drop i).map (·.1)) := by
  intro k
  induction k with
  | zero => intro i hi; exact ⟨.nil, rfl, by unfold RowsT; trivial, by unfold goodTs; trivial, by simp [szTs]⟩
  | succ k ih =>
    intro i hi
    obtain ⟨l, h1, h2, h3, h4⟩ := ih (i + 1) (by omega)
    obtain ⟨cs, t, g1, g2, g3, g4⟩ := hel i (by omega)
    have hsp := hs (by omega)
    refine ⟨.cons t l, by unfold Trs.toList; simp [h1], ?_, ?_, ?_⟩
    · unfold RowsT
      exact ⟨⟨a.block, a.off, cs, by cases a; simp_all, g1, g2⟩, h2⟩
    · unfold goodTs; exact ⟨g3, h3⟩
    · rw [List.drop_eq_getElem_cons (by omega), List.map_cons]
      have := hB.cons (elems[i]'(by omega)).1 ((elems.drop (i + 1)).map (·.1))
      unfold szTs; omega

theorem open_tr (tb : TreeOk P S) (hB : BulkOk B BA) : ∀ (fuel : Nat) {cs : List Value} {x : DataW H × List MemPlace}, DataW.trod enc P w base (fun _ => true) held fuel S.tr cs = some x → ∃ t, RepTr w t cs ∧ goodT keysOk t ∧ szT t ≤ B x.1 := by
  intro fuel
  induction fuel using Nat.strongRecOn with
  | _ fuel ih =>
    intro cs x h
    obtain ⟨fs, hu, hsz, hf⟩ := structB_of tb.tr
    obtain ⟨xs, n, rfl, rfl, hl, hxl, hx⟩ := DataW.trod_struct hu h
    rw [tb.ctr] at hl
    obtain ⟨c0, c1, c2, c3, c4, rfl⟩ : ∃ c0 c1 c2 c3 c4, cs = [c0, c1, c2, c3, c4] := by
      match cs, hl with
      | [a, b, c, d, e], _ => exact ⟨a, b, c, d, e, rfl⟩
    obtain ⟨x0, x1, x2, x3, x4, rfl⟩ : ∃ x0 x1 x2 x3 x4, xs = [x0, x1, x2, x3, x4] := by
      rw [hsz] at hxl
      match xs, hxl with
      | [a, b, c, d, e], _ => exact ⟨a, b, c, d, e, rfl⟩
    obtain ⟨f0, g0, o0, t0⟩ := hf 0 _ rfl
    obtain ⟨f1, g1, o1, t1⟩ := hf 1 _ rfl
    obtain ⟨f2, g2, o2, t2⟩ := hf 2 _ rfl
    obtain ⟨f3, g3, o3, t3⟩ := hf 3 _ rfl
    obtain ⟨f4, g4, o4, t4⟩ := hf 4 _ rfl
    have e0 := hx 0 f0 g0
    have e1 := hx 1 f1 g1
    have e2 := hx 2 f2 g2
    have e3 := hx 3 f3 g3
    have e4 := hx 4 f4 g4
    rw [o0, t0, tb.ci64] at e0
    rw [o1, t1, tb.cu8s] at e1
    rw [o2, t2, tb.cbool] at e2
    rw [o3, t3, tb.ctrs] at e3
    rw [o4, t4, tb.ctgs] at e4
    obtain ⟨k, hk, hx0, hwf⟩ := DataW.trod_int (intTy_eq tb.i64) (show _ = some x0 from e0)
    obtain ⟨ad, l, c, hc, ha, hlc, hby, hb⟩ := open_u8s tb.u8s tb.u8 tb.cu8 hB (show _ = some x1 from e1)
    obtain ⟨nu, hnu, hx2⟩ := DataW.trod_bool (boolB_eq tb.bool) (show _ = some x2 from e2)
    obtain ⟨vu, u, hvu, htg, hku, hszu⟩ := open_tgs tb hB (show _ = some x4 from e4)
    have hk' : c0 = .int .i64 k := by simpa using hk
    have hc' : c1 = .slice ad l.length c := by simpa using hc
    have hn' : c2 = .bool nu := by simpa using hnu
    have hv' : c4 = vu := by simpa using hvu
    simp [Lit.wf, IntKind.min, IntKind.max, IntKind.bits, IntKind.signed] at hwf
    have hL : ∃ lt : Trs, (∃ ad c, c3 = .slice ad lt.toList.length c ∧ okA lt.toList.length ad ∧ lt.toList.length ≤ c ∧ RowsT w ad 0 lt) ∧ goodTs keysOk lt ∧ szTs lt ≤ B x3.1 := by
      rcases DataW.trod_slice (sliceOf_eq tb.trs) (show _ = some x3 from e3) with ⟨hcs, rfl⟩ | ⟨a, len, cap, elems, rest, n', hn2, hcs, rfl, hb, hl, hm, hlen, hel, hsp, hns⟩
      · have hcs' : c3 = .slice none 0 0 := by simpa using hcs
        exact ⟨.nil, ⟨none, 0, hcs', .inl rfl, Nat.le_refl _, by unfold RowsT; trivial⟩, by unfold goodTs; trivial, by simp [szTs]⟩
      · have hcs' : c3 = .slice (some a) len cap := by simpa using hcs
        obtain ⟨h1, h2⟩ := el_at tb.ctr (by omega) hel hlen
        obtain ⟨lt, q1, q2, q3, q4⟩ := rows_of hB hlen h1 (fun i hi => by
          obtain ⟨cs, r1, r2⟩ := h2 i hi
          obtain ⟨t, s1, s2, s3⟩ := ih n' (by omega) r2
          exact ⟨cs, t, r1, s1, s2, s3⟩) len 0 (by omega)
        refine ⟨lt, ⟨some a, cap, by rw [q1]; exact hcs', by rw [q1]; exact okA_some h1, by rw [q1]; exact hl, q2⟩, q3, ?_⟩
        have := hB.slice (elems.map (·.1)) (rest.map (·.1))
        rw [List.drop_zero] at q4
        show szTs lt ≤ B (.slice _ _)
        omega
    obtain ⟨lt, hL1, hL2, hL3⟩ := hL
    refine ⟨.mk k l nu lt u, ?_, ?_, ?_⟩
    · unfold RepTr
      exact ⟨c1, c3, c4, by rw [hk', hn'], by omega, ⟨ad, c, hc', ha, hlc, hby⟩, hL1, by rw [hv']; exact htg⟩
    · unfold goodT; exact ⟨hku, hL2⟩
    · unfold szT
      have b0 := hB.agg [x0.1, x1.1, x2.1, x3.1, x4.1]
      have b1 := hB.cons x0.1 [x1.1, x2.1, x3.1, x4.1]
      have b2 := hB.cons x1.1 [x2.1, x3.1, x4.1]
      have b3 := hB.cons x2.1 [x3.1, x4.1]
      have b4 := hB.cons x3.1 [x4.1]
      have b5 := hB.cons x4.1 []
      show _ ≤ B (.agg [x0.1, x1.1, x2.1, x3.1, x4.1])
      omega
end
end Go.Kx
namespace Go.Kx
open Go.RowKit Go.ChangeShapes Go.WideShapes Go.WideElems
set_option linter.unusedVariables false
set_option linter.unusedSimpArgs false

section
variable {H : Type} {B : DataW H → Nat} {BA : List (DataW H) → Nat} {enc : TypeId × Value → H} {P : Program}

theorem keepAll {W W' : World} (hl : laidOutB P = true) (hb : Below W.heap.size W W') : ∀ {ts : List TypeId} {vs : List Value} {ds : List (DataW H)} {ps : List MemPlace}, ts.all (fun t => P.readableRec t && decide (t < P.types.size)) = true →
    DataW.TrodAll enc P W 0 (fun _ => true) true ts vs ds ps → (∀ x ∈ ps, x.block < W.heap.size) → DataW.TrodAll enc P W' 0 (fun b => decide (b < W.heap.size)) true ts vs ds ps
  | [], vs, ds, ps, _, h, _ => by
    obtain ⟨rfl, rfl, rfl⟩ := trodAll_nil h
    exact trodAll_mk0
  | t :: ts, vs, ds, ps, hr, h, hlt => by
    obtain ⟨v, vs', d, ds', p, q, rfl, rfl, rfl, h1, h2⟩ := trodAll_cons h
    simp only [List.all_cons, Bool.and_eq_true, decide_eq_true_eq] at hr
    exact trodAll_cons_mk (Below.trod hl hr.1.1 hr.1.2 h1 hb (fun x hx => hlt x (List.mem_append.2 (.inl hx)))) (keepAll hl hb (by simpa using hr.2) h2 (fun x hx => hlt x (List.mem_append.2 (.inr hx))))

theorem row_post {fn : Func} {s : ChangeSpec} {tb : TypeId} {W W' : World} {args : Array Value} {ds gs : List (DataW H)} {before : List MemPlace} (hl : laidOutB P = true) (hrd : fn.params.toList.all (fun t => P.readableRec t && decide (t < P.types.size)) = true) (hres : fn.resultTypes = #[tb]) (ht : P.underlying tb = some .bool)
    (hv : s.vars = []) (hW : DataW.Whole enc P fn.params.toList s.vars false W args.toList ds gs before) (hb : Below W.heap.size W W') (hfn : s.fn H (ds ++ gs) = { results := [.lit (.bool true)], args := ds, vars := [] }) : s.post enc P fn false true false false W args (.bool true) W' := by
  have hW' := hW
  obtain ⟨p, q, hA, hV, rfl, hfz, hnd⟩ := hW
  rw [hv] at hV
  have hq : gs = [] ∧ q = [] := by
    cases gs with
    | nil => exact ⟨rfl, hV⟩
    | cons g gs => simp [DataW.TrodVars] at hV
  obtain ⟨rfl, rfl⟩ := hq
  refine ⟨ds, [], _, [], p, [], hW', ?_, ?_, ?_, hb.frame _, fun h => by cases h⟩
  · rw [hfn, hres]
    exact trodAll_mk1 (shut_bool ht true)
  · rw [hfn]
    exact keepAll hl hb hrd hA (fun x hx => hW'.lt x (List.mem_append.2 (.inl hx)))
  · rw [hv, hfn]
    exact rfl

/-- The listed error is laid: the variable holds an error that is not nil. -/
theorem laid_err {W : World} {name nm : String} {g t : Nat} {d : DataW Unit} (hg : P.globalNamed name = some g) (ht : (P.globals[g]?).map (·.type) = some t) (hi : ifaceTy P t = true) (h : laidMet P [(name, .iface nm d)] W) : ∃ ev, W.cell? ⟨g, 0, none⟩ = some ev ∧ isErr ev := by
  obtain ⟨ps, ⟨g', t', cs, fuel, p, q, hg', ht', hvar, hd, _, _⟩, _⟩ := h
  obtain rfl := Option.some.inj (hg.symm.trans hg')
  obtain rfl := Option.some.inj (ht.symm.trans ht')
  obtain ⟨ms, hu⟩ := ifaceTy_eq hi
  have hc := fun i => World.var?_cell hg hvar i
  obtain ⟨l⟩ := cs
  cases fuel with
  | zero => simp [DataW.trod] at hd
  | succ n =>
    unfold DataW.trod at hd
    rw [hu] at hd
    simp only at hd
    match l, hd with
    | [], hd => simp at hd
    | [v], hd =>
      cases v <;> simp at hd
      rename_i u x
      exact ⟨_, by rw [hc 0]; rfl, _, _, rfl⟩
    | v :: v2 :: r, hd => simp at hd

section
variable {K : KB} {g : TN} {S : SN} {R : RN} {G : TG} {E : EN} {Z : FTN}

theorem u8_range {a : Int} (w0 : (Lit.int .u8 a).wf = true) : ∃ k : Nat, a = (k : Int) ∧ k < 256 := by
  simp [Lit.wf, IntKind.min, IntKind.max, IntKind.bits, IntKind.signed] at w0
  exact ⟨a.toNat, by omega, by omega⟩
theorem u16_range {a : Int} (w0 : (Lit.int .u16 a).wf = true) : ∃ k : Nat, a = (k : Int) ∧ k < 65536 := by
  simp [Lit.wf, IntKind.min, IntKind.max, IntKind.bits, IntKind.signed] at w0
  exact ⟨a.toNat, by omega, by omega⟩

theorem agg_toList (cs : Array Value) : Value.agg cs = .agg cs.toList.toArray := by simp

theorem again_row (se : Seat2 P K g S R G E Z) (tb : TreeOk P S) (n : RL0) (h1 : (msgB P K g S R G n).all id = true) (h2 : (specB P S n).all id = true) (h3 : isFn P n.f (cLawAgain S Z.f2 n.fMax n.fSpec n.fAgain) 35 4 = true) (hcost : Nat.ble (costs (toFds n.sx) + 30) 200000 = true)
    {fn : Func} {s : ChangeSpec} (hB : BulkOk B BA) (hp : fn.params = #[S.T.u8, S.tr]) (hr : fn.resultTypes = #[S.T.bool]) (hv : s.vars = []) (hl : laidOutB P = true) (hrd : fn.params.toList.all (fun t => P.readableRec t && decide (t < P.types.size)) = true)
    (hfn : ∀ d1 d2, s.fn H [d1, d2] = { results := [.lit (.bool true)], args := [d1, d2], vars := [] }) {W : World} {base : Nat} {args : Array Value} {ds gs : List (DataW H)} {before : List MemPlace}
    (hval : ∀ (j : Nat) t v, fn.params[j]? = some t → args[j]? = some v → Value.okWide P W .any base t v) (hW : DataW.Whole enc P fn.params.toList s.vars false W args.toList ds gs before) (hbulk : BA (ds ++ gs) ≤ 1048576) (hev : ∃ ev, W.cell? ⟨R.gErr, 0, none⟩ = some ev ∧ isErr ev) :
    Calls P n.f args W fun e W' => ∃ v, e = .returned v ∧ s.post enc P fn false true false false W args v W' := by
  have hW' := hW
  obtain ⟨p, q, hA, hV, rfl, hfz, hnd⟩ := hW
  have hg0 : gs = [] := by
    rw [hv] at hV
    cases gs with
    | nil => rfl
    | cons g gs => simp [DataW.TrodVars] at hV
  subst hg0
  rw [hp] at hA hval
  obtain ⟨v0, vs0, d0, ds0, p0, q0, hargs, rfl, rfl, t0, r0⟩ := trodAll_cons hA
  obtain ⟨v1, vs1, d1, ds1, p1, q1, hargs1, rfl, rfl, t1, r1⟩ := trodAll_cons r0
  obtain ⟨rfl, rfl, rfl⟩ := trodAll_nil r1
  subst hargs1
  obtain rfl : args = #[v0, v1] := by cases args; simp_all
  obtain ⟨a0, rfl, rfl, rfl, w0⟩ := open_int (intTy_eq tb.u8) (hval 0 S.T.u8 v0 rfl rfl) t0
  obtain ⟨k, rfl, hk⟩ := u8_range w0
  obtain ⟨fs, hu, _, _⟩ := structB_of tb.tr
  obtain ⟨cs, rfl, hcs⟩ := okWide_struct hu (hval 1 S.tr v1 rfl rfl)
  obtain ⟨fuel, ht⟩ := t1
  obtain ⟨t, hrep, hgood, hsz⟩ := open_tr tb hB fuel (cs := cs.toList) (x := (d1, _)) ht
  obtain ⟨ev, hc, hie⟩ := hev
  have b0 := hB.cons (.lit (.int .u8 (k : Int)) : DataW H) [d1]
  have b1 := hB.cons d1 []
  have hst : szT t ≤ 1100000 := by
    simp only [List.append_nil] at hbulk
    have : szT t ≤ B d1 := hsz
    omega
  have hrun := again_law se n h1 h2 h3 W k hk cs.toList t hrep hgood ev hc hie (fun v hv => sWrite_small hcost n.flex (v : Nat) hst)
  rw [← agg_toList] at hrun
  refine hrun.mono ?_
  rintro e W' ⟨rfl, hbel⟩
  exact ⟨_, rfl, row_post hl hrd hr (boolB_eq tb.bool) hv hW' hbel (by rw [List.append_nil]; exact hfn _ _)⟩

theorem cut_row (se : Seat2 P K g S R G E Z) (tb : TreeOk P S) (n : RL0) (h1 : (msgB P K g S R G n).all id = true) (h2 : (specB P S n).all id = true) (h3 : isFn P n.f (cLawCut S Z.f2 n.fMax n.fSpec n.fAgain) 56 6 = true) (h4 : yes S.T.u16 = true) (hcost : Nat.ble (costs (toFds n.sx) + 30) 200000 = true)
    {fn : Func} {s : ChangeSpec} (hB : BulkOk B BA) (hu16 : intTy P S.T.u16 .u16 = true) (hp : fn.params = #[S.T.u8, S.tr, S.T.u16]) (hr : fn.resultTypes = #[S.T.bool]) (hv : s.vars = []) (hl : laidOutB P = true) (hrd : fn.params.toList.all (fun t => P.readableRec t && decide (t < P.types.size)) = true)
    (hfn : ∀ d1 d2 d3, s.fn H [d1, d2, d3] = { results := [.lit (.bool true)], args := [d1, d2, d3], vars := [] }) {W : World} {base : Nat} {args : Array Value} {ds gs : List (DataW H)} {before : List MemPlace}
    (hval : ∀ (j : Nat) t v, fn.params[j]? = some t → args[j]? = some v → Value.okWide P W .any base t v) (hW : DataW.Whole enc P fn.params.toList s.vars false W args.toList ds gs before) (hbulk : BA (ds ++ gs) ≤ 1048576) (hev : ∃ ev, W.cell? ⟨R.gErr, 0, none⟩ = some ev ∧ isErr ev) :
    Calls P n.f args W fun e W' => ∃ v, e = .returned v ∧ s.post enc P fn false true false false W args v W' := by
  have hW' := hW
  obtain ⟨p, q, hA, hV, rfl, hfz, hnd⟩ := hW
  have hg0 : gs = [] := by
    rw [hv] at hV
    cases gs with
    | nil => rfl
    | cons g gs => simp [DataW.TrodVars] at hV
  subst hg0
  rw [hp] at hA hval
  obtain ⟨v0, vs0, d0, ds0, p0, q0, hargs, rfl, rfl, t0, r0⟩ := trodAll_cons hA
  obtain ⟨v1, vs1, d1, ds1, p1, q1, hargs1, rfl, rfl, t1, r1⟩ := trodAll_cons r0
  obtain ⟨v2, vs2, d2, ds2, p2, q2, hargs2, rfl, rfl, t2, r2⟩ := trodAll_cons r1
  obtain ⟨rfl, rfl, rfl⟩ := trodAll_nil r2
  subst hargs2
  subst hargs1
  obtain rfl : args = #[v0, v1, v2] := by cases args; simp_all
  obtain ⟨a0, rfl, rfl, rfl, w0⟩ := open_int (intTy_eq tb.u8) (hval 0 S.T.u8 v0 rfl rfl) t0
  obtain ⟨k, rfl, hk⟩ := u8_range w0
  obtain ⟨a2, rfl, rfl, rfl, w2⟩ := open_int (intTy_eq hu16) (hval 2 S.T.u16 v2 rfl rfl) t2
  obtain ⟨m, rfl, hm⟩ := u16_range w2
  obtain ⟨fs, hu, _, _⟩ := structB_of tb.tr
  obtain ⟨cs, rfl, hcs⟩ := okWide_struct hu (hval 1 S.tr v1 rfl rfl)
  obtain ⟨fuel, ht⟩ := t1
  obtain ⟨t, hrep, hgood, hsz⟩ := open_tr tb hB fuel (cs := cs.toList) (x := (d1, _)) ht
  obtain ⟨ev, hc, hie⟩ := hev
  have b0 := hB.cons (.lit (.int .u8 (k : Int)) : DataW H) [d1, .lit (.int .u16 (m : Int))]
  have b1 := hB.cons d1 [.lit (.int .u16 (m : Int))]
  have hst : szT t ≤ 1100000 := by
    simp only [List.append_nil] at hbulk
    have : szT t ≤ B d1 := hsz
    omega
  have hrun := cut_law se n h1 h2 h3 h4 W k m hk hm cs.toList t hrep hgood ev hc hie (fun v hv => sWrite_small hcost n.flex (v : Nat) hst)
  rw [← agg_toList] at hrun
  refine hrun.mono ?_
  rintro e W' ⟨rfl, hbel⟩
  exact ⟨_, rfl, row_post hl hrd hr (boolB_eq tb.bool) hv hW' hbel (by rw [List.append_nil]; exact hfn _ _ _)⟩

/-- The types of a law's arguments that are octets. -/
structure ArgOk (P : Program) (S : SN) : Prop where
  u8 : intTy P S.T.u8 .u8 = true
  u8s : sliceOf P S.T.u8s S.T.u8 = true
  cu8 : P.cellsOf S.T.u8 = 1
  bool : boolB P S.T.bool = true
def argB (P : Program) (S : SN) : List Bool := [intTy P S.T.u8 .u8, sliceOf P S.T.u8s S.T.u8, Nat.beq (P.cellsOf S.T.u8) 1, boolB P S.T.bool]
theorem arg_of {P : Program} {S : SN} (h : (argB P S).all id = true) : ArgOk P S := by
  simp only [argB, List.all_cons, List.all_nil, id_eq, Bool.and_true, Bool.and_eq_true, Nat.beq_eq] at h
  exact ⟨h.1, h.2.1, h.2.2.1, h.2.2.2⟩

theorem any_row (se : SeatA P K g S R G) (tb : ArgOk P S) (n : RL0) (h1 : (msgB P K g S R G n).all id = true) (h2 : (List.range (n.most + 1)).all (fun v => minOkF (v : Nat) (n.pl.flex (v : Nat)) n.pl.fs) = true) (h3 : isFn P n.f (cLawAny S n.fMax n.fAgain) 43 4 = true)
    {fn : Func} {s : ChangeSpec} (hB : BulkOk B BA) (hp : fn.params = #[S.T.u8, S.T.u8s]) (hr : fn.resultTypes = #[S.T.bool]) (hv : s.vars = []) (hl : laidOutB P = true) (hrd : fn.params.toList.all (fun t => P.readableRec t && decide (t < P.types.size)) = true)
    (hfn : ∀ d1 d2, s.fn H [d1, d2] = { results := [.lit (.bool true)], args := [d1, d2], vars := [] }) {W : World} {base : Nat} {args : Array Value} {ds gs : List (DataW H)} {before : List MemPlace}
    (hval : ∀ (j : Nat) t v, fn.params[j]? = some t → args[j]? = some v → Value.okWide P W .any base t v) (hW : DataW.Whole enc P fn.params.toList s.vars false W args.toList ds gs before) (hev : ∃ ev, W.cell? ⟨R.gErr, 0, none⟩ = some ev ∧ isErr ev) :
    Calls P n.f args W fun e W' => ∃ v, e = .returned v ∧ s.post enc P fn false true false false W args v W' := by
  have hW' := hW
  obtain ⟨p, q, hA, hV, rfl, hfz, hnd⟩ := hW
  have hg0 : gs = [] := by
    rw [hv] at hV
    cases gs with
    | nil => rfl
    | cons g gs => simp [DataW.TrodVars] at hV
  subst hg0
  rw [hp] at hA hval
  obtain ⟨v0, vs0, d0, ds0, p0, q0, hargs, rfl, rfl, t0, r0⟩ := trodAll_cons hA
  obtain ⟨v1, vs1, d1, ds1, p1, q1, hargs1, rfl, rfl, t1, r1⟩ := trodAll_cons r0
  obtain ⟨rfl, rfl, rfl⟩ := trodAll_nil r1
  subst hargs1
  obtain rfl : args = #[v0, v1] := by cases args; simp_all
  obtain ⟨a0, rfl, rfl, rfl, w0⟩ := open_int (intTy_eq tb.u8) (hval 0 S.T.u8 v0 rfl rfl) t0
  obtain ⟨k, rfl, hk⟩ := u8_range w0
  obtain ⟨a, len, cap, rfl⟩ := okWide_slice (sliceOf_eq tb.u8s) (hval 1 S.T.u8s v1 rfl rfl)
  obtain ⟨fuel, ht⟩ := t1
  obtain ⟨ad, l, c, hcs, hoA, hlc, hby, _⟩ := open_u8s tb.u8s tb.u8 tb.cu8 hB (cs := (Value.slice a len cap).cells.toList) (x := (d1, _)) ht
  have hcs' : Value.slice a len cap = .slice ad l.length c := by simpa [Value.cells] using hcs
  obtain ⟨ev, hc, hie⟩ := hev
  have hrun := any_law se n h1 h2 h3 W k hk ad l c hby ev hc hie
  rw [← hcs'] at hrun
  refine hrun.mono ?_
  rintro e W' ⟨rfl, hbel⟩
  exact ⟨_, rfl, row_post hl hrd hr (boolB_eq tb.bool) hv hW' hbel (by rw [List.append_nil]; exact hfn _ _)⟩
end
end
end Go.Kx
namespace Go.Kx
open Go.RowKit
set_option linter.unusedSimpArgs false
set_option linter.unusedVariables false

def cRFK (R : RN) (G : TG) (p : Plan) (fDef L : Nat) : MCode × Nat :=
  let h := flexR R p (L + 13)
  let f := genRF R G p.sfR p.fs p.T p.vsR (h.2 + 1) (p.vsR + 1) 0
  let g := tagsR G p.sfR p.T p.vsR p.tg f.2.1
  (rows ([.rg [.mv 6 (.c .niface)], .rg [.mv L (.t 0), .ca (L + 1) fDef [.t L]], .rg [.mv (L + 2) (.t 1), .bdl (L + 3) R.tR [(0, .t (L + 2))], .al 7 R.tR, .st R.tR 7 (L + 3)],
    .rg [.mv (L + 4) (.t 0), .ca (L + 5) R.i16 [.t 7], .nc (L + 6) (L + 4), .fa (L + 7) p.T (L + 6) 0, .st R.T.i16 (L + 7) (L + 5)],
    (loadA p.T 0 0 R.T.i16 8 (L + 8)).1, .rg [.mv (L + 12) (.t 8)]] ++ (h.1 ++ ([.rg [.mv h.2 (.t 0), .mv p.vsR (.t h.2)]] ++ (f.1 ++ (g.1 ++ [.rg [.ca g.2 R.compl [.t 7], .mv 6 (.t g.2)], .rt]))))), g.2 + 1)

/-- The version, what it has. -/
def decK (p : Plan) : Dec (Int × List D × List (Nat × List UInt8)) := (dInt 2).bind fun ver => (decTop p ver).map fun x => (ver, x)
def encK (p : Plan) (ver : Int) (ds : List D) (ts : List (Nat × List UInt8)) : List UInt8 := fix ver 2 ++ encTop p ver ds ts

def rfkB (P : Program) (R : RN) (G : TG) (p : Plan) (fDef : Nat) (df : Dfs) (rest : List MVal) (L N : Nat) : List Bool :=
  [wfRF P R G p.sfR p.fs p.T (p.pre (rest.length + 1)) 1, fieldAtB P p.T 0 0, Nat.ble (genRF R G p.sfR p.fs p.T p.vsR ((flexR R p (L + 13)).2 + 1) (p.vsR + 1) 0).2.2.1 L, Nat.ble (cRFK R G p fDef L).2 N, intTy P R.T.i16 .i16, plainTy P R.T.i16,
   zfB p.fs ((.int .i16 0 :: rest).take (p.pre (rest.length + 1))), geD df 0, eqMs (putM df 0 (.int .i16 0 :: rest)) (.int .i16 0 :: rest),
   isFn0 P fDef (rows (genD 0 df (defT0 df) 2).1) (genD 0 df (defT0 df) 2).2.1, okD P (rest.length + 1) df 0, Nat.ble (genD 0 df (defT0 df) 2).2.2 (defT0 df),
   zeroIs P R.tR [.nslice, .bool false], plcB P R.tR 2, cellsB P R.tR 2,
   (match p.tg with | none => true | some q => Nat.beq (rest.length + 1) (q.2 + 1) && fieldAtB P p.T q.1 q.2 && defTag p.tg (.int .i16 0 :: rest) && !(Nat.beq G.fRead 0) && Nat.ble 1 q.2),
   !(Nat.beq R.i16 0), cellsB P R.T.i16 1]

/-- What readFrom does. -/
def RFKC (P : Program) (f : Nat) (p : Plan) (gE : Nat) (rest : List MVal) : Prop := entersB P f = true ∧ ∀ (w : World) (b sb : Nat) (ad : Option Addr) (l : List UInt8) (c : Nat) (ev : Value), w.rangeAt b 0 (.int .i16 0 :: rest.map MVal.val) → w.there b 0 (rest.length + 1) → BytesAt w (· = sb) ad l → okAd ad → l.length ≤ c → sb < w.heap.size → sb ≠ b → w.cell? ⟨gE, 0, none⟩ = some ev → gE ≠ b →
  Calls P f #[.pointer (some ⟨b, 0, none⟩), .slice ad l.length c, .bool false] w (fun e w' => Fr (fun _ => False) b 0 (rest.length + 1) w w' ∧
    ((∃ ver ds tags r cs, decK p l = some ((ver, ds, tags), r) ∧ I16 ver ∧ e = .returned MVal.niface.val ∧ MsgAt w' (fun k => k = b ∨ k = sb ∨ (w.heap.size ≤ k ∧ k < w'.heap.size)) p ⟨b, 0, none⟩ ver ds tags cs) ∨ (decK p l = none ∧ e = .returned ev)))

theorem Got.unmap {α β : Type} {d : Dec α} {f : α → β} (hf : ∀ x y, f x = f y → x = y) {st st' : Option (List UInt8)} {x : α} (h : Got (d.map f) st (f x) st') : Got d st x st' := by
  cases st with
  | none => cases st' with
    | none => rfl
    | some r => simp [Got] at h
  | some l => cases st' with
    | none =>
      have h' : d.map f l = none := h
      unfold Dec.map at h'
      cases hd : d l with
      | none => exact hd
      | some p => rw [hd] at h'; simp at h'
    | some r =>
      have h' : d.map f l = some (f x, r) := h
      unfold Dec.map at h'
      cases hd : d l with
      | none => rw [hd] at h'; simp at h'
      | some p =>
        rw [hd] at h'
        simp only [Option.map_some, Option.some.injEq, Prod.mk.injEq] at h'
        show d l = _
        rw [hd, ← hf _ _ h'.1, ← h'.2]

section
variable {P : Program} {R : RN} {G : TG}

theorem rfk_of {f fDef L N : Nat} {p : Plan} {df : Dfs} {rest : List MVal} (kk : RKOK P R G) (h : (rfkB P R G p fDef df rest L N).all id = true) (hf : FnIs P f (cRFK R G p fDef L).1 N 6) : RFKC P f p R.gErr rest := by
  simp only [rfkB, List.all_cons, List.all_nil, id_eq, Bool.and_true, Bool.and_eq_true, Nat.ble_eq] at h
  obtain ⟨h1, h2, h3, h4, h5, h6, h7, h8, h9, h10, h11, h12, h13, h14, h15, h16, h17, h18⟩ := h
  have hdef : DefD P fDef (rest.length + 1) df := defD_of (FnIs0.of h10) h11 h12
  refine ⟨hf.ent, fun w b sb ad l c ev hr ht hb had hlc hsb hne hev hgb => ?_⟩
  have hxx : 9 ≤ p.vsR := by unfold Plan.vsR; split <;> omega
  have hgl := genRF_le (R := R) (G := G) (sf := p.sfR) p.fs (T := p.T) (vs := p.vsR) (t := (flexR R p (L + 13)).2 + 1) (x := p.vsR + 1) (bk := 0)
  have hfl : L + 13 ≤ (flexR R p (L + 13)).2 := by unfold flexR; split <;> simp
  have htl : ∀ t, t ≤ (tagsR G p.sfR p.T p.vsR p.tg t).2 := by intro t; unfold tagsR; split <;> simp
  have hN : (tagsR G p.sfR p.T p.vsR p.tg (genRF R G p.sfR p.fs p.T p.vsR ((flexR R p (L + 13)).2 + 1) (p.vsR + 1) 0).2.1).2 + 1 ≤ N := h4
  have htl' := htl (genRF R G p.sfR p.fs p.T p.vsR ((flexR R p (L + 13)).2 + 1) (p.vsR + 1) 0).2.1
  have hL : p.vsR + 1 ≤ L := by omega
  have hbw : b < w.heap.size := World.block_lt_of_cell? w _ (hr 0 _ rfl)
  have hlenV : (Value.int .i16 0 :: rest.map MVal.val).length = rest.length + 1 := by simp
  have hput : putD df 0 (.int .i16 0 :: rest.map MVal.val) = .int .i16 0 :: rest.map MVal.val := by
    have e3 := eqMs_eq h9
    rw [putM_val] at e3
    simpa only [List.map_cons, MVal.val] using e3
  refine hf.runs (args := [.pointer (some ⟨b, 0, none⟩), .slice ad l.length c, .bool false]) (by simp; omega) (by omega) ?_
  simp only [cRFK]
  refine RWL.rows ?_
  simp only [List.cons_append, List.nil_append]
  refine mvc_ok (L := L) (by omega) (by omega) fun ρ1 a1 a2 => ?_
  have p0 : ρ1 0 = .pointer (some ⟨b, 0, none⟩) := by rw [a1 0 (by omega) (by omega)]; rfl
  have p1 : ρ1 1 = .slice ad l.length c := by rw [a1 1 (by omega) (by omega)]; rfl
  have p2 : ρ1 2 = .bool false := by rw [a1 2 (by omega) (by omega)]; rfl
  -- Default
  refine RW.rg (RL.step (MR.mv p0 (ltT (by omega))) (RL.ca (R := fun _ w' => w'.rangeAt b 0 (.int .i16 0 :: rest.map MVal.val) ∧ Fr (fun _ => False) b 0 (rest.length + 1) w w') hdef.1 ?_ ?_ (by omega) (by simp [MX.lt, Nat.blt_eq]; omega)) (by omega))
  · simp only [List.map_cons, List.map_nil, xof]
    rw [upd_same]
    refine Calls.mono (hdef.2 w b 0 _ hr ht hlenV) ?_
    rintro e w' ⟨rfl, g1, g2⟩
    exact ⟨_, rfl, by rw [hput] at g1; exact g1, g2⟩
  rintro v1 w1 ⟨hr1, F1⟩
  refine RL.nil ?_
  have hb1 : BytesAt w1 (· = sb) ad l := hb.mono (fun _ h => h) (fun k hk => by rw [hk]; exact F1.block sb hsb hne (fun x => x))
  -- the reader
  have hz := zeroIs_of h13
  refine RW.rg (RL.step (MR.mv (v := .slice ad l.length c) (by show upd _ _ _ 1 = _; (repeat (first | rw [upd_same] | rw [upd_ne _ _ (by omega)])); exact p1) (ltT (by omega))) (RL.step (MR.bdl (w' := w1) (v := .agg #[.slice ad l.length c, .bool false]) ?_ (by simp [MX.lt, Nat.blt_eq]; omega)) (RL.alst (z := [.slice none 0 0, .bool false]) (cs := [.slice ad l.length c, .bool false]) (n := 2) hz (upd_same _ _ _) (by omega) rfl rfl h15 rfl ?_ (by omega) (by omega)) (by omega)) (by omega))
  · have hbd := built_of (z := [.slice none 0 0, .bool false]) (parts := [(0, .slice ad l.length c)]) (cells := [.slice ad l.length c, .bool false]) hz h14 (by simp [Value.cells]) rfl w1
    simp only [List.map_cons, List.map_nil, xof]
    rw [upd_same]
    exact hbd
  intro w2 b2 s2 r2 t2
  refine RL.nil ?_
  have hs1 := F1.size
  have R2 : RdAt w2 w1.heap.size sb (some l) := by
    refine ⟨ad, c, r2, t2, had, hlc, fun j y hj => ?_⟩
    obtain ⟨g, o, e1, e2, e3⟩ := hb1 j y hj
    exact ⟨g, o, e1, e2, b2.kp _ _ e3⟩
  have hr2 : w2.rangeAt b 0 (.int .i16 0 :: rest.map MVal.val) := range_keep hr1 (b2.block b (by omega))
  have ht2 : w2.there b 0 (rest.length + 1) := there_keep (F1.there _ _ ht) (b2.block b (by omega))
  have F2 : Fr (fun _ => False) b 0 (rest.length + 1) w w2 := F1.trans (Fr.ofBelow b2 (by omega))
  have hev2 : w2.cell? ⟨R.gErr, 0, none⟩ = some ev := b2.kp _ _ (by rw [cell_of_heap (F1.block _ (World.block_lt_of_cell? w _ hev) hgb (fun x => x))]; exact hev)
  -- the version is read
  refine RW.rg (RL.step (MR.mv (v := .pointer (some ⟨b, 0, none⟩)) (by show upd _ _ _ 0 = _; (repeat (first | rw [upd_same] | rw [upd_ne _ _ (by omega)])); exact p0) (ltT (by omega))) ?_ (by omega))
  refine RL.rd (kk.fn .i16 false (ne0 h17)) (by show upd _ _ _ 7 = _; (repeat (first | rw [upd_same] | rw [upd_ne _ _ (by omega)]))) R2 (by omega) (ltT (by omega)) (by omega) ?_
  rintro v d st4 w4 F4 G4 R4 ⟨cv, c1, c2, c3⟩
  obtain ⟨ver, e1, rfl, vr⟩ := c3
  have hv : v = .int .i16 ver := by
    have hcc : v.cells = #[.int .i16 ver] := by apply Array.toList_inj.1; rw [e1]
    have cv' : v.oneCell' = true := cv
    cases v <;> simp_all [Value.cells, Value.oneCell']
  subst hv
  have hG : Got (dInt 2) (some l) ver st4 := Got.unmap (f := D.n) (fun x y h => by injection h) G4
  have s4 := F4.size
  have F4b : Fr (fun k => k = w1.heap.size) b 0 (rest.length + 1) w2 w4 := F4.rd (b := b) (by omega) (by omega)
  have ht4 : w4.there b 0 (rest.length + 1) := F4b.there _ _ ht2
  have hr4 : w4.rangeAt b 0 (.int .i16 0 :: rest.map MVal.val) := range_keep hr2 (F4.block b (by omega) (by omega) (fun x => x))
  refine RL.step (MR.nc (p := ⟨b, 0, none⟩) (by (repeat (first | rw [upd_same] | rw [upd_ne _ _ (by omega)]))) (by omega)) (RL.step (MR.fa (upd_same _ _ _) h2 (by omega)) (RL.st1 (v := .int .i16 ver) (b := b) (o := 0 + 0) (upd_same _ _ _) (by (repeat (first | rw [upd_same] | rw [upd_ne _ _ (by omega)]))) rfl h18 (there_in ht4 (by omega)) (RL.nil ?_) (by omega) (by omega)) (by omega)) (by omega)
  have FP : Fr (fun _ => False) b 0 (rest.length + 1) w4 (w4.setCells b (0 + 0) [.int .i16 ver]) := Fr.put _ (by omega) (by simp)
  have R5 : RdAt (w4.setCells b (0 + 0) [.int .i16 ver]) w1.heap.size sb st4 := R4.keep (setCells_other b _ _ _ _ (by omega)) (setCells_other b _ _ _ sb hne)
  have hr5 : (w4.setCells b (0 + 0) [.int .i16 ver]).rangeAt b 0 (.int .i16 ver :: rest.map MVal.val) := by
    have := range_set (k := 0) (v := .int .i16 ver) hr4 (there_in (k := 0) (m := 1) ht4 (by omega))
    simpa using this
  have F5 : Fr (fun _ => False) b 0 (rest.length + 1) w (w4.setCells b (0 + 0) [.int .i16 ver]) := (((F2.wide (X' := (· = w1.heap.size)) (fun _ x => x.elim) (Nat.le_refl _) (Nat.le_refl _)).trans F4b).trans (FP.wide (fun _ x => x.elim) (Nat.le_refl _) (Nat.le_refl _))).drop (fun k hk => .inr (by omega))
  have ht5 := FP.there _ _ ht4
  have hev5 : (w4.setCells b (0 + 0) [.int .i16 ver]).cell? ⟨R.gErr, 0, none⟩ = some ev := by
    have hg2 := World.block_lt_of_cell? w2 _ hev2
    have hgw := World.block_lt_of_cell? w _ hev
    simp only at hg2 hgw
    rw [cell_of_heap (setCells_other b _ _ _ _ hgb), cell_of_heap (F4.block _ hg2 (by show R.gErr ≠ w1.heap.size; omega) (fun x => x))]
    exact hev2
  have sP := FP.size
  show RWL P N _ _ _ (w4.setCells b (0 + 0) [.int .i16 ver])
  refine loadR_ok (L := L) (b := b) (o := 0) (off := 0) (v := .int .i16 ver) h2 h6 (by (repeat (first | rw [upd_same] | rw [upd_ne _ _ (by omega)])); exact p0) (hr5 0 _ rfl) (by omega) (by omega) (by omega) (by omega) fun ρ3 k1 k2 => ?_
  have keep3 : ∀ s, s < 6 → ρ3 s = ρ1 s := fun s hs => by rw [k1 s (by omega) (by omega)]; (repeat (first | rw [upd_same] | rw [upd_ne _ _ (by omega)]))
  have k7 : ρ3 7 = .pointer (some ⟨w1.heap.size, 0, none⟩) := by rw [k1 7 (by omega) (by omega)]; (repeat (first | rw [upd_same] | rw [upd_ne _ _ (by omega)]))
  have hrun := rf_core (p := p) (L := L) (N := N) (t0 := L + 12) (rest := rest) (rb := w1.heap.size) (sb := sb) (b := b) (ver := ver) (ev := ev) (st := st4) (w0 := w) (w2 := w4.setCells b (0 + 0) [.int .i16 ver]) (ρ3 := ρ3) kk h5 h1 h3 (by omega) hN h7 h16 hs1 hbw
    ⟨R5, by omega, hne, by omega, by omega, Nat.le_refl _, by omega, by omega, ht5, hev5, hgb, by have := World.block_lt_of_cell? w _ hev; exact fun e => by simp only at this; omega⟩ hr5 ht5 F5 (by rw [keep3 0 (by omega)]; exact p0) k7 (by rw [keep3 2 (by omega)]; exact p2) k2
  refine RWL.mono hrun ?_
  intro e ρ' w' h
  cases e <;> first | exact h | skip
  obtain ⟨g1, ⟨ds, tags, r, cs, g2, g3, g4⟩ | ⟨g2, g3⟩⟩ := h
  · refine ⟨g1, .inl ⟨ver, ds, tags, r, cs, ?_, vr, g3, g4⟩⟩
    exact (hG.bind (k := fun ver => (decTop p ver).map fun x => (ver, x)) (g2.map (f := fun x => (ver, x))) : Got (decK p) (some l) (ver, ds, tags) (some r))
  · refine ⟨g1, .inr ⟨?_, g3⟩⟩
    exact (hG.bind (k := fun ver => (decTop p ver).map fun x => (ver, x)) ((g2 default).map (f := fun x => (ver, x))) : Got (decK p) (some l) (ver, default) none)
end
end Go.Kx
namespace Go.Kx
open Go.RowKit
set_option linter.unusedSimpArgs false
set_option linter.unusedVariables false

def cNewK (tm fDef : Nat) : MCode := .sq (.rg [.al 0 tm]) (.sq (.rg [.al 1 tm]) (.sq (.rg [.ca 2 fDef [.t 1]]) (.sq (.rg [.ld 3 tm 1, .st tm 0 3]) .rt)))
def cAgainK (T : IT) (tErr tm fNew fRd fAp : Nat) : MCode :=
  .sq (.rg [.mv 2 (.c .nslice), .mv 3 (.c (.bool false))]) (.sq (.rg [.ca 5 fNew [], .al 4 tm, .st tm 4 5])
    (.sq (.sq (.rg [.mv 6 (.t 0), .apk 7 T.u8s T.u8s 6, .ca 8 fRd [.t 4, .t 7], .bi 9 .neq tErr (.t 8) (.c .niface)]) (.cd 9 (.sq (.rg [.mv 2 (.c .nslice), .mv 3 (.c (.bool false))]) .rt) .sk))
      (.sq (.rg [.ca 10 fAp [.t 4, .c .nslice], .mv 2 (.t 10), .mv 3 (.c (.bool true))]) .rt)))

def NewKC (P : Program) (f : Nat) (cs : List Value) : Prop := entersB P f = true ∧ ∀ w : World, Calls P f #[] w (fun e w' => e = .returned (.agg cs.toArray) ∧ Below w.heap.size w w')

/-- The plan with the version ahead of the fields: what AppendTo writes. -/
def Plan.kept (p : Plan) (t16 : Nat) : Plan := { p with fs := .cons .always 0 0 0 (.prim .i16 t16) p.fs }

theorem kept_enc (p : Plan) (t16 : Nat) (ver : Int) (ds : List D) (ts : List (Nat × List UInt8)) : encTop (p.kept t16) ver (.n ver :: ds) ts = encK p ver ds ts := by
  unfold encTop encK
  show encF ver (p.flex ver) (.cons .always 0 0 0 (.prim .i16 t16) p.fs) (.n ver :: ds) ++ _ = _
  rw [encF, enc]
  simp only [List.headD_cons, List.tail_cons, Cnd.ok, if_true, List.append_assoc]
  rfl

def AgainKC (P : Program) (U f gE : Nat) (p : Plan) : Prop := entersB P f = true ∧ ∀ (w : World) (ad : Option Addr) (l : List UInt8) (c : Nat) (ev : Value), BytesAt w (fun _ => True) ad l → l.length ≤ 274877906944 → w.cell? ⟨gE, 0, none⟩ = some ev → isErr ev →
  (∀ ver ds ts r, decK p l = some ((ver, ds, ts), r) → SmF okTags p.fs ds ∧ okTags ts ∧ (encK p ver ds ts).length ≤ 274877906944) →
  Calls P f #[.slice ad l.length c] w (fun e w' => Below w.heap.size w w' ∧
    ((∃ ver ds ts r sv, decK p l = some ((ver, ds, ts), r) ∧ e = .returned (.tuple #[sv, .bool true]) ∧ OwnB U w' w.heap.size sv (encK p ver ds ts)) ∨ (decK p l = none ∧ e = .returned (.tuple #[.slice none 0 0, .bool false]))))

theorem MsgAt.kept {w : World} {F : Nat → Prop} {p : Plan} {a : Addr} {ver : Int} {ds : List D} {tags : List (Nat × List UInt8)} {cs : List Value} {t16 : Nat} (h : MsgAt w F p a ver ds tags cs) (hv : I16 ver) : MsgAt w F (p.kept t16) a ver (.n ver :: ds) tags cs where
  spot := h.spot
  blk := h.blk
  at_ := h.at_
  v0 := h.v0
  flds := by
    show RepF w F (.cons .always 0 0 0 (.prim .i16 t16) p.fs) cs (.n ver :: ds)
    have h0 := h.v0
    unfold RepF
    refine ⟨?_, .n ver, ds, rfl, ?_, h.flds⟩
    · show 0 + 1 ≤ cs.length
      have := (List.getElem?_eq_some_iff.1 h0).1
      omega
    · unfold Rep
      refine ⟨ver, ?_, rfl, hv.1, hv.2⟩
      cases cs with
      | nil => simp at h0
      | cons x cs => simp at h0; subst h0; rfl
  tgs := h.tgs

section
variable {P : Program} {T : IT} {K : KB} {g : TN}

theorem newK_of {f fD tm n : Nat} {zs cs : List Value} (hf : FnIsC P f (cNewK tm fD) 4 0 tm) (hz : zeroAgg P tm zs) (hrow : rowTy P tm = true) (hn : cellsB P tm n = true) (hzl : zs.length = n) (hone : cs.all (·.oneCell') = true) (hd : DefC P fD zs cs) (hl : cs.length = zs.length) : NewKC P f cs := by
  refine ⟨hf.ent, fun w => ?_⟩
  obtain ⟨zi, hzi, hzv⟩ := hz
  refine hf.runs (args := []) (by simp) (by omega) ?_
  refine RW.sq (RW.rg (RL.step (MR.al ⟨zi, hzi, hzv⟩) (RL.nil ?_)))
  have b1 := below_box w (.cells zs.toArray tm)
  have s1 := size_box w (.cells zs.toArray tm)
  have t1 := there_box w zs tm
  change RW P 4 _ _ _ (w.alloc (.cells zs.toArray tm))
  revert b1 s1 t1
  generalize w.alloc (.cells zs.toArray tm) = w1
  intro b1 s1 t1
  refine RW.sq (RW.rg (RL.step (MR.al ⟨zi, hzi, hzv⟩) (RL.nil ?_)))
  have b2 := below_box w1 (.cells zs.toArray tm)
  have s2 := size_box w1 (.cells zs.toArray tm)
  have t2 := there_box w1 zs tm
  have r2 : (w1.alloc (.cells zs.toArray tm)).rangeAt w1.heap.size 0 zs := fun j v hj => cell_box w1 zs tm hj
  change RW P 4 _ _ _ (w1.alloc (.cells zs.toArray tm))
  revert b2 s2 t2 r2
  generalize w1.alloc (.cells zs.toArray tm) = w2
  intro b2 s2 t2 r2
  have B2 : Below w.heap.size w w2 := b1.trans (b2.mono b1.size)
  have t1' : w2.there w.heap.size 0 zs.length := there_keep t1 (b2.block _ (by omega))
  refine RW.sq (RW.rg (RL.ca (R := fun v w' => w'.rangeAt w1.heap.size 0 cs ∧ Below w1.heap.size w2 w') hd.1 ?_ ?_))
  · refine Calls.mono (hd.2 w2 w1.heap.size (by omega) r2 t2) ?_
    rintro e w' ⟨rfl, h1, h2, h3⟩
    exact ⟨_, rfl, h1, h3⟩
  rintro v w3 ⟨r3, b3⟩
  refine RL.nil (RW.sq (RW.rg ?_))
  have t3 : w3.there w.heap.size 0 cs.length := by rw [hl]; exact there_keep t1' (b3.block _ (by omega))
  refine RL.step (MR.ldRow (cs := cs) (b := w1.heap.size) (o := 0) rfl hrow (by rw [hl, hzl]; exact hn) r3) ?_
  refine RL.stA (cs := cs) (b := w.heap.size) (o := 0) rfl rfl (by rw [hl, hzl]; exact hn) t3 hone (RL.nil (RW.rt ?_))
  have e1 := World.rangeAt_setCells_same w3 w.heap.size 0 cs t3
  exact ⟨⟨w.heap.size, 0, none⟩, .agg cs.toArray, rfl, run_loadAt_row (cs := cs) hrow (by rw [hl, hzl]; exact hn) e1, rfl, below_setCells (Nat.le_refl _) _ _ (B2.trans (b3.mono (by omega)))⟩

theorem againK_ok {f fNew fRd fRF fAp gE tErr : Nat} {p : Plan} {L NA : Nat} {zs : List Value} {rest : List MVal} (kk : KOK P K) (ok : AOK P (K.ia g) okTags) (hte : ifaceTy P tErr = true)
    (hf : FnIs2 P f (cAgainK K.T tErr p.T fNew fRd fAp) 11 2 3) (hnew : NewKC P fNew (.int .i16 0 :: rest.map MVal.val)) (hz : zeroAgg P p.T zs) (hzl : zs.length = rest.length + 1) (hcn : cellsB P p.T (rest.length + 1) = true)
    (hrd : FnIs P fRd (cReadFrom fRF) 8 4) (hrf : RFKC P fRF p gE rest)
    (ha : FnIs P fAp (topA (K.ia g) (p.kept K.T.i16) L) NA 4) (hok : okTop P (K.ia g) (p.kept K.T.i16) L NA = true) : AgainKC P K.T.u8 f gE p := by
  refine ⟨hf.ent, fun w ad l c ev hby hl hev herr hdec => ?_⟩
  have tk := kk.tk
  have hgw := World.block_lt_of_cell? w _ hev
  simp only at hgw
  refine hf.runs (args := [.slice ad l.length c]) (by simp) (by omega) (by omega) ?_
  refine RW.sq (RW.rg (RL.step MR.mv (RL.step MR.mv (RL.nil (RW.sq (RW.rg (RL.ca (R := fun u w' => u = .agg (.int .i16 0 :: rest.map MVal.val).toArray ∧ Below w.heap.size w w') hnew.1 ?_ ?_)))))))
  · refine Calls.mono (hnew.2 w) ?_
    rintro e w' ⟨rfl, h⟩
    exact ⟨_, rfl, rfl, h⟩
  rintro u w1 ⟨rfl, bw1⟩
  have hone : (Value.int .i16 0 :: rest.map MVal.val).all (·.oneCell') = true := by
    simp only [List.all_cons, Bool.and_eq_true]
    refine ⟨rfl, ?_⟩
    rw [List.all_eq_true]
    intro v hv
    obtain ⟨m, _, rfl⟩ := List.mem_map.1 hv
    exact MVal.one1 m
  refine RL.alst (z := zs) (cs := .int .i16 0 :: rest.map MVal.val) (n := rest.length + 1) hz rfl (by decide) hzl (by simp) hcn hone ?_
  intro w2 b2 s2 hr2 ht2
  have bw2 : Below w.heap.size w w2 := bw1.trans (b2.mono bw1.size)
  have hbw : w.heap.size ≤ w1.heap.size := bw1.size
  -- the octets are copied
  have hby2 : BytesAt w2 (fun _ => True) ad l := hby.kp bw2.kp
  obtain ⟨sv, w3, a1, a2, a3, a4⟩ := run_apOwn (P := P) (w := w2) (T := K.T.u8s) (U := K.T.u8) (c := c) (B := w2.heap.size) tk.u8s tk.u8 (OwnB.nil _ _ _) rfl hby2 (Nat.le_refl _) (by simp only [List.length_nil]; have e : lim = 1099511627776 := rfl; omega)
  rw [List.nil_append] at a2
  obtain ⟨ad3, c3, hsv, had3, hlc3, hb3⟩ := a2.bytes
  subst hsv
  obtain ⟨sb, hsb, hsbb, hbs⟩ : ∃ sb, sb < w3.heap.size ∧ sb ≠ w1.heap.size ∧ BytesAt w3 (· = sb) ad3 l := by
    cases l with
    | nil => exact ⟨gE, by have := bw2.size; have := a3.size; omega, by omega, fun j y hj => by simp at hj⟩
    | cons y l =>
      obtain ⟨g0, o0, e1, _, e3⟩ := hb3 0 y rfl
      refine ⟨g0, World.block_lt_of_cell? w3 _ e3, ?_, fun j z hj => ?_⟩
      · have := (World.ownsRow.lt a2 g0 (by rw [e1]; rfl)).1
        omega
      · obtain ⟨g1, o1, f1, _, f3⟩ := hb3 j z hj
        rw [e1] at f1
        simp only [Option.some.injEq, Addr.mk.injEq, and_true] at f1
        exact ⟨g1, o1, by rw [e1, ← f1.1, ← f1.2], f1.1.symm, f3⟩
  have hr3 : w3.rangeAt w1.heap.size 0 (.int .i16 0 :: rest.map MVal.val) := range_keep hr2 (a3.block w1.heap.size (by omega))
  have ht3 : w3.there w1.heap.size 0 (rest.length + 1) := there_keep ht2 (a3.block w1.heap.size (by omega))
  have hev3 : w3.cell? ⟨gE, 0, none⟩ = some ev := a3.kp _ _ (bw2.kp _ _ hev)
  have bw3 : Below w.heap.size w w3 := bw2.trans (a3.mono bw2.size)
  refine RL.nil (RW.sq (RW.sq (RW.rg (RL.step (MR.mv (v := .slice ad l.length c) rfl) (RL.step (MR.apk (w' := w3) a1) ?_)))))
  refine RL.ca (R := fun ee w' => Fr (fun _ => False) w1.heap.size 0 (rest.length + 1) w3 w' ∧
    ((∃ ver ds tags r cs, decK p l = some ((ver, ds, tags), r) ∧ I16 ver ∧ ee = MVal.niface.val ∧ MsgAt w' (fun k => k = w1.heap.size ∨ k = sb ∨ (w3.heap.size ≤ k ∧ k < w'.heap.size)) p ⟨w1.heap.size, 0, none⟩ ver ds tags cs) ∨ (decK p l = none ∧ ee = ev))) hrd.ent ?_ ?_
  · show Calls P fRd #[.pointer (some ⟨w1.heap.size, 0, none⟩), .slice ad3 l.length c3] w3 _
    refine hrd.runs (args := [.pointer (some ⟨w1.heap.size, 0, none⟩), .slice ad3 l.length c3]) (by simp) (by omega) ?_
    refine RW.sq (RW.rg (RL.step MR.mv (RL.nil (RW.sq (RW.rg (RL.step (MR.mv (v := .pointer (some ⟨w1.heap.size, 0, none⟩)) rfl) (RL.step (MR.mv (v := .slice ad3 l.length c3) rfl) ?_)))))))
    refine RL.ca (R := fun ee w' => Fr (fun _ => False) w1.heap.size 0 (rest.length + 1) w3 w' ∧
      ((∃ ver ds tags r cs, decK p l = some ((ver, ds, tags), r) ∧ I16 ver ∧ ee = MVal.niface.val ∧ MsgAt w' (fun k => k = w1.heap.size ∨ k = sb ∨ (w3.heap.size ≤ k ∧ k < w'.heap.size)) p ⟨w1.heap.size, 0, none⟩ ver ds tags cs) ∨ (decK p l = none ∧ ee = ev))) hrf.1 ?_ ?_
    · show Calls P fRF #[.pointer (some ⟨w1.heap.size, 0, none⟩), .slice ad3 l.length c3, .bool false] w3 _
      refine Calls.mono (hrf.2 w3 w1.heap.size sb ad3 l c3 ev hr3 ht3 hbs had3 hlc3 hsb hsbb hev3 (by omega)) ?_
      rintro e w' ⟨hF', ⟨ver, ds, tags, r, cs, h1, hv, rfl, h2⟩ | ⟨h1, rfl⟩⟩
      · exact ⟨_, rfl, hF', .inl ⟨ver, ds, tags, r, cs, h1, hv, rfl, h2⟩⟩
      · exact ⟨_, rfl, hF', .inr ⟨h1, rfl⟩⟩
    rintro ee w' ⟨hF', h⟩
    refine RL.step MR.mv (RL.nil (RW.rt ?_))
    exact ⟨ee, rfl, hF', h⟩
  rintro ee w4 ⟨F4, h4⟩
  have b4 : Below w.heap.size w w4 := bw3.trans (F4.below hbw (fun _ h => h.elim) bw3.size)
  rcases h4 with ⟨ver, ds, tags, r, cs, k1, kv, rfl, k2⟩ | ⟨k1, rfl⟩
  · refine RL.step (MR.neqNilI (v := Value.nilIface) hte rfl (.inl rfl)) (RL.nil (RW.cd (b := false) rfl (fun e => by cases e) (fun _ => RW.sk ?_)))
    obtain ⟨x1, x2, x3⟩ := hdec ver ds tags r k1
    obtain ⟨fn, cc, e1, e2, e3, e4, e5⟩ := ha.ex
    have hs4 := F4.size
    have hs3 := a3.size
    have k3 := k2.mono (w' := w4) (F' := (· < w4.heap.size)) (fun k hk => by rcases hk with rfl | rfl | hk <;> omega) (fun _ _ => rfl)
    have hm : MsgAt w4 (· < w4.heap.size) (p.kept K.T.i16) ⟨w1.heap.size, 0, none⟩ ver (.n ver :: ds) tags cs := k3.kept kv
    have hcall := topA_calls ok e1 e2 e3 e5 e4 hok (w := w4) (B := w4.heap.size) (a := ⟨w1.heap.size, 0, none⟩) (ver := ver) (ds := .n ver :: ds) (tags := tags) (cs := cs) (sv := .slice none 0 0) (bs := []) (Nat.le_refl _)
      hm (by show SmF okTags (.cons .always 0 0 0 (.prim .i16 K.T.i16) p.fs) (.n ver :: ds); unfold SmF; exact ⟨by unfold Sm; trivial, x1⟩) x2 (OwnB.nil _ _ _) (by rw [kept_enc]; have e : lim = 1099511627776 := rfl; simp only [List.length_nil]; omega)
    rw [kept_enc] at hcall
    refine RW.sq (RW.rg ?_)
    refine RL.ca (R := fun sv w' => OwnB K.T.u8 w' w4.heap.size sv (encK p ver ds tags) ∧ Below w4.heap.size w4 w') ha.ent ?_ ?_
    · refine Calls.mono hcall ?_
      rintro e w' ⟨sv', rfl, h1, h2⟩
      exact ⟨_, rfl, by simpa [KB.ia] using h1, h2⟩
    rintro sv w5 ⟨o5, b5⟩
    refine RL.step MR.mv (RL.step MR.mv (RL.nil (RW.rt ?_)))
    exact ⟨b4.trans (b5.mono b4.size), .inl ⟨ver, ds, tags, r, sv, k1, rfl, o5.rebase b4.size⟩⟩
  · have hee : errB ee = true := by obtain ⟨t, x, rfl⟩ := herr; rfl
    refine RL.step (MR.neqNilI (v := ee) hte rfl (.inr herr)) (RL.nil (RW.cd (b := true) (by show Value.bool (errB ee) = _; rw [hee]) (fun _ => ?_) (fun e => by cases e)))
    refine RW.sq (RW.rg (RL.step MR.mv (RL.step MR.mv (RL.nil (RW.rt ?_)))))
    exact ⟨b4, .inr ⟨k1, rfl⟩⟩
end
end Go.Kx
namespace Go.Kx
open Go.RowKit
set_option linter.unusedSimpArgs false
set_option linter.unusedVariables false

def cKept (S : SN) : MCode :=
  .sq (.rg [.bx 3 S.msg 0, .bx 5 S.tr 2, .mv 6 (.c .nslice)])
  (.sq (.gr true [⟨0, none, .mv 7 (.t 1)⟩, ⟨2, none, .ld 9 S.msg 3⟩, ⟨3, none, .mv 10 (.t 1)⟩, ⟨4, none, .ld 11 S.tr 5⟩, ⟨1, none, .ca 8 S.fFixed [.t 7, .c (.int .i64 2)]⟩, ⟨5, none, .ca 12 S.fWrite [.t 9, .t 10, .t 11]⟩, ⟨6, none, .ap 13 S.T.u8s S.T.u8s 8 12⟩, ⟨7, none, .mv 6 (.t 13)⟩]) .rt)

/-- What is kept: the version, then the message. -/
def sKept (fs : Fds) (flex ver : Int) (t : Tr) : List UInt8 := fix ver 2 ++ sWrite fs flex ver t

def KeptC (P : Program) (S : SN) (SU : List (Nat × List UInt8) → Prop) (f : Nat) (fs : Fds) : Prop := entersB P f = true ∧ ∀ (w : World) (cm ct : List Value) (t : Tr) (ver flex : Int),
  RepMs w fs flex cm → RepTr w t ct → goodT SU t → (sWrite fs flex ver t).length ≤ 274877906944 → RetB P S.T.u8 f [.agg cm.toArray, .int .i64 ver, .agg ct.toArray] w (sKept fs flex ver t)

section
variable {P : Program} {S : SN} {w w' : World} {SU : List (Nat × List UInt8) → Prop}

theorem kept_of {f : Nat} {fs : Fds} (sp : SPC P S SU) (hw : WriteC P S SU fs) (hwE : entersB P S.fWrite = true) (hf : FnIs P f (cKept S) 14 6) : KeptC P S SU f fs := by
  refine ⟨hf.ent, ?_⟩
  rintro w cm ct t ver flex hms hrep hgood hlen
  obtain ⟨ad, c, rfl, hrows⟩ := hms
  have ok := sp.ok
  obtain ⟨ot1, tl1⟩ := hrep.one
  have elim : lim = 1099511627776 := rfl
  refine hf.runs (args := [.agg _, .int .i64 ver, .agg ct.toArray]) (by simp) (by omega) ?_
  refine RW.sq (RW.rg (RL.bxA rfl (RL.bxA rfl (RL.step MR.mv (RL.nil ?_)))))
  have hb0 := below_box w (.cells [Value.slice ad fs.toList.length c, .int .i64 flex].toArray S.msg)
  have r3 : (w.alloc (.cells [Value.slice ad fs.toList.length c, .int .i64 flex].toArray S.msg)).rangeAt w.heap.size 0 [Value.slice ad fs.toList.length c, .int .i64 flex] := fun j v hj => cell_box w _ S.msg hj
  revert r3 hb0
  generalize w.alloc (.cells [Value.slice ad fs.toList.length c, .int .i64 flex].toArray S.msg) = w0
  intro hb0 r3
  have r5 : (w0.alloc (.cells ct.toArray S.tr)).rangeAt w0.heap.size 0 ct := fun j v hj => cell_box w0 _ S.tr hj
  have hb1 := below_box w0 (.cells ct.toArray S.tr)
  have r3' := rangeAt_kp r3 hb1.kp
  revert r5 hb1 r3'
  generalize w0.alloc (.cells ct.toArray S.tr) = w1
  intro r5 hb1 r3'
  have hb : Below w.heap.size w w1 := hb0.trans (hb1.mono hb0.size)
  refine RW.sq (RW.gd ok.mo (Below w1.heap.size w1) (below_drew1 _ _) ?_)
  refine RG.q (fun _ _ => MR.mv (v := .int .i64 ver) rfl) (RG.q (fun w' hS => MR.ldRow (b := w.heap.size) (o := 0) (cs := [Value.slice ad fs.toList.length c, .int .i64 flex]) rfl ok.msR ok.msN (rangeAt_kp r3' hS.kp)) ?_)
  refine RG.q (fun _ _ => MR.mv (v := .int .i64 ver) rfl) (RG.q (fun w' hS => MR.ldRow (b := w0.heap.size) (o := 0) (cs := ct) rfl ok.trR (by rw [tl1]; exact ok.trN) (rangeAt_kp r5 hS.kp)) ?_)
  refine RG.caB sp.fixed.1 (sp.fixed.2 (World.drew1 w1) ver 2 (by omega)) rfl (fun w' h' hS => hS.trans (h'.mono hS.size)) fun sv1 w2 o1 b1 => ?_
  have b12 : Below w1.heap.size w1 w2 := (below_drew1 w1 _).trans b1
  have b02 : Below w.heap.size w w2 := hb.trans (b12.mono hb.size)
  refine RG.caB hwE (hw w2 [Value.slice ad fs.toList.length c, .int .i64 flex] ct t ver flex ⟨ad, c, rfl, RowsF.kp b02.kp _ hrows⟩ (RepTr.kp b02.kp _ hrep) hgood (by omega)) rfl (fun w' h' hS => hS.trans (h'.mono hS.size)) fun sv2 w3 o2 b3 => ?_
  have hs12 := b12.size
  have hf2 : (fix ver 2).length ≤ 8 := by simp [fix, be]
  refine RG.apOO (B := w1.heap.size) (bs := fix ver 2) (l := sWrite fs flex ver t) ok.tk.u8s ok.tk.u8 rfl rfl (o1.keep b3) o2 (Nat.le_trans hs12 b3.size) (by omega) (fun w4 h4 _ hS => hS.trans h4) fun sv4 w4 o4 b4 => ?_
  refine RG.q (fun _ _ => MR.mv) (RG.nil fun h => RW.rt ⟨sv4, rfl, o4.rebase hb.size, hb.trans (h.mono hb.size)⟩)

def cLawAgainK (S : SN) (fFits fSpec fKept fAgain : Nat) (most : Nat) : MCode :=
  .sq (.rg [.bx 3 S.tr 1, .mv 4 (.c (.bool false))])
  (.sq (.sq (.rg [.ld 8 S.tr 3, .ca 9 fFits [.t 8], .nt 10 9]) (.cd 10 (.sq (.rg [.mv 4 (.c (.bool true))]) .rt) .sk))
  (.sq (.gr true [⟨1, none, .mv 12 (.t 0)⟩, ⟨2, none, .cv 13 S.T.u8 S.T.int 12⟩, ⟨3, none, .bi 14 .rem S.T.int (.t 13) (.c (.int .i64 ((most + 1 : Nat) : Int)))⟩, ⟨4, none, .ld 15 S.tr 3⟩, ⟨0, none, .ca 11 fSpec []⟩, ⟨5, none, .ca 16 fKept [.t 11, .t 14, .t 15]⟩, ⟨6, none, .mv 5 (.t 16)⟩])
  (.sq (.rg [.mv 18 (.t 5), .ca 19 fAgain [.t 18], .mv 17 (.t 19), .ext 20 17 0, .ext 21 17 1, .mv 6 (.t 20), .mv 7 (.t 21)])
  (.sq (.gr false [⟨0, none, .mv 22 (.t 7)⟩, ⟨1, none, .mv 23 (.t 22)⟩, ⟨2, some (1, 23, true), .mv 24 (.t 6)⟩, ⟨3, some (1, 23, true), .mv 25 (.t 5)⟩, ⟨4, some (1, 23, true), .ca 26 S.fSame [.t 24, .t 25]⟩, ⟨5, none, .pk 27 (.t 23) (.t 26) (.c (.bool false))⟩, ⟨6, none, .mv 4 (.t 27)⟩]) .rt))))

theorem law_againK {f fFits fSpec fKept fAgain gE most : Nat} {fs : Fds} {flex : Int} {p : Plan} (sp : SPC P S SU) (hf : FnIs P f (cLawAgainK S fFits fSpec fKept fAgain most) 28 4) (hfits : FitsC P fFits)
    (hk : KeptC P S SU fKept fs) (hsame : SameC P S.fSame)
    (hspec : SpecC P fSpec fs flex) (hag : AgainKC P S.T.u8 fAgain gE p) (hm : most < 32768) (w : World) (n : Nat) (hn : n < 256) (ct : List Value) (t : Tr) (hrt : RepTr w t ct) (hg : goodT SU t) (ev : Value) (hev : w.cell? ⟨gE, 0, none⟩ = some ev) (herr : isErr ev)
    (hpl : ∀ v, v ≤ most → (sKept fs flex (v : Nat) t).length ≤ 274877906944 ∧ ∃ ds ts, decK p (sKept fs flex (v : Nat) t) = some ((((v : Nat) : Int), ds, ts), []) ∧ encK p (v : Nat) ds ts = sKept fs flex (v : Nat) t ∧ SmF okTags p.fs ds ∧ okTags ts) :
    Calls P f #[.int .u8 n, .agg ct.toArray] w (fun e w' => e = .returned (.bool true) ∧ Below w.heap.size w w') := by
  have ok := sp.ok
  obtain ⟨lct, oct⟩ : ct.length = 5 ∧ ct.all (·.oneCell') = true := ⟨hrt.one.2, hrt.one.1⟩
  refine hf.runs (args := [.int .u8 n, .agg ct.toArray]) (by simp) (by omega) ?_
  have b1 := below_box w (.cells ct.toArray S.tr)
  have r1 : (w.alloc (.cells ct.toArray S.tr)).rangeAt w.heap.size 0 ct := fun j v hj => cell_box w ct S.tr hj
  refine RW.sq (RW.rg (RL.bxA (cs := ct) rfl (RL.step MR.mv (RL.nil ?_))))
  have hrt1 : RepTr (w.alloc (.cells ct.toArray S.tr)) t ct := RepTr.kp b1.kp _ hrt
  revert b1 r1 hrt1
  generalize w.alloc (.cells ct.toArray S.tr) = w1
  intro b1 r1 hrt1
  refine RW.sq (RW.sq (RW.rg (RL.step (MR.ldRow (b := w.heap.size) (o := 0) (cs := ct) rfl ok.trR (by rw [lct]; exact ok.trN) r1) ?_)))
  refine RL.ca (R := fun v w' => (∃ b, v = .bool b) ∧ Below w1.heap.size w1 w') hfits.1 ?_ ?_
  · refine Calls.mono (hfits.2 w1 ct t hrt1) ?_
    rintro e w' ⟨⟨b, rfl⟩, h⟩
    exact ⟨_, rfl, ⟨b, rfl⟩, h⟩
  rintro v w3 ⟨⟨b, rfl⟩, b2⟩
  have B3 : Below w.heap.size w w3 := b1.trans (b2.mono b1.size)
  refine RL.step (MR.nt rfl) (RL.nil (RW.cd rfl (fun e => RW.sq (RW.rg (RL.step MR.mv (RL.nil (RW.rt ⟨rfl, B3⟩))))) (fun e => RW.sk ?_)))
  have r3 : w3.rangeAt w.heap.size 0 ct := fun j u hu => b2.kp _ _ (r1 j u hu)
  have hrt3 : RepTr w3 t ct := RepTr.kp (B3.kp) _ hrt
  refine RW.sq (RW.gd ok.mo (Below w3.heap.size w3) (below_drew1 _ _) ?_)
  have hS : ∀ {wa wb : World}, Below w3.heap.size w3 wa → Below wa.heap.size wa wb → Below w3.heap.size w3 wb := fun h k => h.trans (k.mono h.size)
  have hmod : n % (most + 1) ≤ most := Nat.lt_succ_iff.1 (Nat.mod_lt _ (by omega))
  refine RG.q (fun _ _ => MR.mv (v := .int .u8 n) rfl) (RG.q (fun _ _ => MR.cvI rfl ok.tk.u8i ok.tk.int) ?_)
  rw [wrap_i64 (show -9223372036854775808 ≤ (n : Int) by omega) (by omega)]
  refine RG.q (v := .int .i64 ((n % (most + 1) : Nat) : Int)) (fun _ _ => MR.biE ?_) ?_
  · show evB .rem (.int .i64 (n : Nat)) (.int .i64 ((most + 1 : Nat) : Int)) = _
    simp only [evB]
    rw [if_pos ⟨trivial, by omega⟩]
    rfl
  refine RG.q (fun w' hS => MR.ldRow (b := w.heap.size) (o := 0) (cs := ct) rfl ok.trR (by rw [lct]; exact ok.trN) (fun j u hu => hS.kp _ _ (r3 j u hu))) ?_
  refine RG.ca (R := fun v w' => ∃ cm, v = .agg (List.toArray cm) ∧ RepMs w' fs flex cm ∧ Below w3.heap.size w3 w') hspec.1 (fun h0 => ?_) ?_
  · refine Calls.mono (hspec.2 (World.drew1 w3)) ?_
    rintro e w' ⟨cm, rfl, h1, h2⟩
    exact ⟨_, rfl, ⟨cm, rfl, h1, hS h0 h2⟩, hS h0 h2⟩
  rintro v w4' ⟨cm, rfl, hms, b4⟩
  obtain ⟨hlen, ds, ts, hd1, hd2, hd3, hd4⟩ := hpl (n % (most + 1)) hmod
  have hlen2 : (sWrite fs flex ((n % (most + 1) : Nat) : Int) t).length ≤ 274877906944 := by
    have : (sKept fs flex ((n % (most + 1) : Nat) : Int) t).length = (fix ((n % (most + 1) : Nat) : Int) 2).length + (sWrite fs flex ((n % (most + 1) : Nat) : Int) t).length := List.length_append
    omega
  refine RG.caB hk.1 (hk.2 w4' cm ct t ((n % (most + 1) : Nat) : Int) flex hms (RepTr.kp b4.kp _ hrt3) hg hlen2) rfl (fun w' h' h => hS h h') fun sv w5 o5 b5 => ?_
  refine RG.q (fun _ _ => MR.mv) (RG.nil fun b05 => ?_)
  have B5 : Below w.heap.size w w5 := B3.trans (b05.mono B3.size)
  obtain ⟨ad5, c5, rfl, had5, hc5, hby5⟩ := o5.bytes
  -- AgainX
  refine RW.sq (RW.rg (RL.step MR.mv ?_))
  have hagc := hag.2 w5 ad5 (sKept fs flex ((n % (most + 1) : Nat) : Int) t) c5 ev hby5 hlen (B5.kp _ _ hev) herr (fun ver' ds' ts' r h => by
    rw [hd1] at h
    simp only [Option.some.injEq, Prod.mk.injEq] at h
    obtain ⟨⟨rfl, rfl, rfl⟩, rfl⟩ := h
    exact ⟨hd3, hd4, by rw [hd2]; exact hlen⟩)
  refine RL.ca (R := fun v w' => ∃ sv, v = .tuple #[sv, .bool true] ∧ OwnB S.T.u8 w' w5.heap.size sv (sKept fs flex ((n % (most + 1) : Nat) : Int) t) ∧ Below w5.heap.size w5 w') hag.1 ?_ ?_
  · refine Calls.mono hagc ?_
    rintro e w' ⟨hb', ⟨ver', ds', ts', r, sv, h, rfl, ho⟩ | ⟨h, _⟩⟩
    · rw [hd1] at h
      simp only [Option.some.injEq, Prod.mk.injEq] at h
      obtain ⟨⟨rfl, rfl, rfl⟩, rfl⟩ := h
      exact ⟨_, rfl, sv, rfl, by rw [← hd2]; exact ho, hb'⟩
    · rw [hd1] at h; cases h
  rintro v w7 ⟨sv, rfl, o7, b7⟩
  have B7 : Below w.heap.size w w7 := B5.trans (b7.mono B5.size)
  obtain ⟨ad7, c7, rfl, had7, hc7, hby7⟩ := o7.bytes
  refine RL.step MR.mv (RL.step (MR.ext (v := .slice ad7 (sKept fs flex ((n % (most + 1) : Nat) : Int) t).length c7) rfl) (RL.step (MR.ext (v := .bool true) rfl) (RL.step MR.mv (RL.step MR.mv (RL.nil ?_)))))
  refine RW.sq (RW.gf (Below w7.heap.size w7) (Below.refl _ _) ?_)
  refine RG.q (fun _ _ => MR.mv (v := .bool true) rfl) (RG.q (fun _ _ => MR.mv (v := .bool true) rfl) (RG.q (fun _ _ => MR.mv (v := .slice ad7 (sKept fs flex ((n % (most + 1) : Nat) : Int) t).length c7) rfl) (RG.q (fun _ _ => MR.mv (v := .slice ad5 (sKept fs flex ((n % (most + 1) : Nat) : Int) t).length c5) rfl) ?_)))
  refine RG.ca (R := fun v w' => v = .bool true ∧ Below w7.heap.size w7 w') hsame.1 (fun h0 => ?_) ?_
  · refine Calls.mono (hsame.2 w7 ad7 ad5 (sKept fs flex ((n % (most + 1) : Nat) : Int) t) (sKept fs flex ((n % (most + 1) : Nat) : Int) t) c7 c5 hby7 (hby5.kp b7.kp) (by omega) (by omega)) ?_
    rintro e w' ⟨rfl, h2⟩
    exact ⟨_, rfl, ⟨by simp, h2⟩, h2⟩
  rintro v w8 ⟨rfl, b8⟩
  refine RG.q (fun _ _ => MR.pk (b := true) (v := .bool true) rfl rfl) (RG.q (fun _ _ => MR.mv (v := .bool true) rfl) (RG.nil fun h => RW.rt ⟨rfl, B7.trans (h.mono B7.size)⟩))
end
end Go.Kx
namespace Go.Kx
open Go.RowKit
set_option linter.unusedSimpArgs false
set_option linter.unusedVariables false

/-! ### Plain -/
theorem dInt2_fix {v : Int} (hv : I16 v) (r : List UInt8) : dInt 2 (fix v 2 ++ r) = some (v, r) := by
  rw [dInt_fix]
  obtain ⟨a, b⟩ := hv
  congr 2
  unfold sgn
  have e : (256 ^ 2 : Int) = 65536 := rfl
  have e' : (256 ^ 2 : Nat) = 65536 := rfl
  rw [e, e']
  split <;> omega

theorem I16.nat {v most : Nat} (h : v ≤ most) (hm : most < 32768) : I16 (v : Int) := ⟨by omega, by omega⟩

theorem decK_of {p : Plan} {ver : Int} {l r : List UInt8} {ds : List D} {ts : List (Nat × List UInt8)} (hv : I16 ver) (h : decTop p ver l = some ((ds, ts), r)) : decK p (fix ver 2 ++ l) = some ((ver, ds, ts), r) := by
  unfold decK
  rw [Dec.bind_of (dInt2_fix hv l)]
  exact Dec.map_of (f := fun x => (ver, x)) h

theorem kept_again {p : Plan} {fs : Fds} {flex : Int} {most v : Nat} (h : mTopB p fs flex most = true) (hm : most < 32768) (hv : v ≤ most) {t : Tr} (hg : goodT keysOk t) :
    ∃ ds ts, decK p (sKept fs flex (v : Nat) t) = some ((((v : Nat) : Int), ds, ts), []) ∧ encK p (v : Nat) ds ts = sKept fs flex (v : Nat) t ∧ SmF okTags p.fs ds ∧ okTags ts := by
  obtain ⟨ds, ts, h1, h2, h3, h4⟩ := againTop h hv hg
  exact ⟨ds, ts, decK_of (I16.nat hv hm) h1, by unfold encK sKept; rw [h2], h3, h4⟩

theorem kept_cut {p : Plan} {fs : Fds} {flex : Int} {most v k : Nat} (h : mTopB p fs flex most = true) (hm : most < 32768) (hv : v ≤ most) {t : Tr} (hg : goodT keysOk t) (hk : k < (sKept fs flex (v : Nat) t).length) : decK p ((sKept fs flex (v : Nat) t).take k) = none := by
  have hf : (fix ((v : Nat) : Int) 2).length = 2 := by simp [fix_len]
  have hl : (sKept fs flex (v : Nat) t).length = 2 + (sWrite fs flex (v : Nat) t).length := by
    have : (sKept fs flex ((v : Nat) : Int) t).length = (fix ((v : Nat) : Int) 2).length + (sWrite fs flex ((v : Nat) : Int) t).length := List.length_append
    omega
  by_cases h2 : k < 2
  · unfold decK Dec.bind
    have : dInt 2 ((sKept fs flex (v : Nat) t).take k) = none := by
      unfold dInt dNat
      refine Dec.map_none (Dec.map_none (takeN_none ?_))
      rw [List.length_take]; omega
    rw [this]
  · have e : (sKept fs flex (v : Nat) t).take k = fix ((v : Nat) : Int) 2 ++ (sWrite fs flex (v : Nat) t).take (k - 2) := by
      unfold sKept
      rw [List.take_append, hf, List.take_of_length_le (by omega)]
    rw [e]
    have hnone : decTop p (v : Nat) ((sWrite fs flex (v : Nat) t).take (k - 2)) = none := by
      refine cut_plain h hv hg (m := (sWrite fs flex (v : Nat) t).drop (k - 2)) (List.take_append_drop _ _).symm ?_
      intro e
      have := congrArg List.length e
      simp at this
      omega
    unfold decK
    rw [Dec.bind_of (dInt2_fix (I16.nat hv hm) _)]
    exact Dec.map_none hnone

/-- A list's elements take room at every version. -/
def minS1 : Ty → Bool
  | .struct _ _ _ _ (.cons .always _ _ _ (.prim _ _) _) => true
  | .struct _ _ _ _ _ => false
  | _ => true
mutual
def minS : Ty → Bool
  | .arr _ _ _ el => minS1 el && minS el
  | .struct _ _ _ _ fs => minSF fs
  | _ => true
def minSF : Flds → Bool
  | .nil => true
  | .cons _ _ _ _ ty rest => minS ty && minSF rest
end
theorem minS1_ok {ver : Int} {flex : Bool} : ∀ {ty : Ty}, minS1 ty = true → min1 ver flex ty = true
  | .struct _ _ _ _ (.cons .always _ _ _ (.prim _ _) _), _ => by simp [min1, min1F, Cnd.ok]
  | .prim _ _, _ => by simp [min1]
  | .enum _ _ _, _ => by simp [min1]
  | .arr _ _ _ _, _ => by simp [min1]
mutual
theorem minS_ok {ver : Int} {flex : Bool} : ∀ (ty : Ty), minS ty = true → minOk ver flex ty = true
  | .prim _ _, _ => by simp [minOk]
  | .enum _ _ _, _ => by simp [minOk]
  | .arr _ _ _ el, h => by
    simp only [minS, Bool.and_eq_true] at h
    simp only [minOk, Bool.and_eq_true]
    exact ⟨minS1_ok h.1, minS_ok el h.2⟩
  | .struct _ _ _ _ fs, h => by
    simp only [minS] at h
    simp only [minOk]
    exact minSF_ok fs h
theorem minSF_ok {ver : Int} {flex : Bool} : ∀ (fs : Flds), minSF fs = true → minOkF ver flex fs = true
  | .nil, _ => by simp [minOkF]
  | .cons c _ _ _ ty rest, h => by
    simp only [minSF, Bool.and_eq_true] at h
    simp only [minOkF, Bool.and_eq_true, Bool.or_eq_true]
    exact ⟨.inr (minS_ok ty h.1), minSF_ok rest h.2⟩
end

theorem dInt2_I16 {l r : List UInt8} {v : Int} (h : dInt 2 l = some (v, r)) : I16 v ∧ l.length = r.length + 2 := by
  unfold dInt at h
  obtain ⟨n, h1, rfl⟩ := Dec.map_some.1 h
  have hn : n < 65536 := dNat_lt h1
  unfold dNat at h1
  obtain ⟨xs, h2, _⟩ := Dec.map_some.1 h1
  unfold takeN at h2
  split at h2
  · simp only [Option.some.injEq, Prod.mk.injEq] at h2
    refine ⟨?_, ?_⟩
    · unfold sgn
      have e : (256 ^ 2 : Nat) = 65536 := rfl
      rw [e]
      constructor <;> (split <;> omega)
    · rw [← h2.2, List.length_drop]; omega
  · simp at h2

theorem kept_any {p : Plan} (hm : minSF p.fs = true) {l r : List UInt8} {ver : Int} {ds : List D} {ts : List (Nat × List UInt8)} (h : decK p l = some ((ver, ds, ts), r)) (hl : l.length ≤ 1000) :
    I16 ver ∧ SmF okTags p.fs ds ∧ okTags ts ∧ (encK p ver ds ts).length ≤ 1000 ∧ ∃ ds' ts', decK p (encK p ver ds ts) = some ((ver, ds', ts'), []) ∧ encK p ver ds' ts' = encK p ver ds ts ∧ SmF okTags p.fs ds' ∧ okTags ts' := by
  unfold decK at h
  obtain ⟨v, r1, h1, h2⟩ := Dec.bind_some.1 h
  obtain ⟨x, h3, h4⟩ := Dec.map_some.1 h2
  obtain ⟨x1, x2⟩ := x
  simp only [Prod.mk.injEq] at h4
  obtain ⟨rfl, rfl, rfl⟩ := h4
  obtain ⟨hv, hlen⟩ := dInt2_I16 h1
  have hmin := minSF_ok (ver := v) (flex := p.flex v) p.fs hm
  obtain ⟨a1, a2, a3, a4⟩ := decTop_some hmin h3 (by omega)
  obtain ⟨ds', ts', b1, b2⟩ := anyTop hmin h3 (by omega)
  have hle : (encTop p v x1 x2).length ≤ 32767 := by omega
  obtain ⟨c1, c2, c3, c4⟩ := decTop_some hmin b1 hle
  have hf : (fix v 2).length = 2 := by simp [fix_len]
  refine ⟨hv, a2, a3, ?_, ds', ts', decK_of hv b1, by unfold encK; rw [b2], c2, c3⟩
  unfold encK
  rw [List.length_append]; omega
end Go.Kx
namespace Go.Kx
open Go.RowKit Go.ChangeShapes Go.WideShapes Go.WideElems
set_option linter.unusedSimpArgs false
set_option linter.unusedVariables false

section
variable {P : Program} {K : KB} {g : TN} {S : SN} {R : RN} {G : TG} {E : EN} {Z : FTN}

/-- The tests of a message that is kept (fPtr: NewX; fMax: spec.Kept). -/
def msgKB (P : Program) (K : KB) (g : TN) (S : SN) (R : RN) (G : TG) (n : RL0) : List Bool := [isFnC P n.fPtr (cNewK n.pl.T n.fDef) 4 0 n.pl.T, zeroIs P n.pl.T n.zs, rowTy P n.pl.T, cellsB P n.pl.T n.zs.length,
  isFn0 P n.fDef (rows (genD 0 n.df (defT0 n.df) 2).1) (genD 0 n.df (defT0 n.df) 2).2.1, okD P n.zs.length n.df 0, Nat.ble (genD 0 n.df (defT0 n.df) 2).2.2 (defT0 n.df), firstZero (putM n.df 0 n.zs),
  isFn2 P n.fAgain (cAgainK K.T n.tErr n.pl.T n.fPtr n.fRd n.fAp) 11 2 3, ifaceTy P n.tErr, isFn P n.fRd (cReadFrom n.fRF) 8 4, isFn P n.fRF (cRFK R G n.pl n.fDef n.LR).1 n.NR 6, (rfkB P R G n.pl n.fDef n.df (putM n.df 0 n.zs).tail n.LR n.NR).all id,
  isFn P n.fAp (topA (K.ia g) (n.pl.kept K.T.i16) n.L) n.N 4, okTop P (K.ia g) (n.pl.kept K.T.i16) n.L n.N, Nat.blt n.most 32768]

theorem msgK_of (se : SeatA P K g S R G) {n : RL0} (h : (msgKB P K g S R G n).all id = true) : AgainKC P S.T.u8 n.fAgain R.gErr n.pl ∧ n.most < 32768 := by
  simp only [msgKB, List.all_cons, List.all_nil, id_eq, Bool.and_true, Bool.and_eq_true] at h
  obtain ⟨h1, h2, h3, h4, h5, h6, h7, h8, h9, h10, h11, h12, h13, h14, h15, h16⟩ := h
  simp only [Nat.blt_eq, Nat.ble_eq] at h16 h7
  obtain ⟨rest, hrest⟩ : ∃ rest, putM n.df 0 n.zs = .int .i16 0 :: rest := by
    cases hq : putM n.df 0 n.zs with
    | nil => rw [hq] at h8; simp [firstZero] at h8
    | cons m r =>
      rw [hq] at h8
      cases m <;> try (simp [firstZero] at h8; done)
      rename_i kk nn
      cases kk <;> try (simp [firstZero] at h8; done)
      simp only [firstZero] at h8
      rw [sameInt_eq h8]; exact ⟨r, rfl⟩
  have hcs : putD n.df 0 (n.zs.map MVal.val) = .int .i16 0 :: rest.map MVal.val := by rw [← putM_val, hrest]; rfl
  have hdef : DefC P n.fDef (n.zs.map MVal.val) (.int .i16 0 :: rest.map MVal.val) := by
    rw [← hcs]
    exact defC_of (defD_of (n := n.zs.length) (FnIs0.of h5) h6 h7) (by simp)
  have hlen : (Value.int .i16 0 :: rest.map MVal.val).length = (n.zs.map MVal.val).length := by rw [← hcs, putD_len]
  have hone : (Value.int .i16 0 :: rest.map MVal.val).all (·.oneCell') = true := by
    simp only [List.all_cons, Bool.and_eq_true]
    refine ⟨rfl, ?_⟩
    rw [List.all_eq_true]
    intro v hv
    obtain ⟨m, _, rfl⟩ := List.mem_map.1 hv
    exact MVal.one1 m
  have hnew : NewKC P n.fPtr (.int .i16 0 :: rest.map MVal.val) := newK_of (n := n.zs.length) (FnIsC.of h1) (zeroIs_of h2) h3 h4 (by simp) hone hdef hlen
  have hzl : (n.zs.map MVal.val).length = rest.length + 1 := by rw [← hlen]; simp
  rw [hrest] at h13
  have hrf := rfk_of se.rk h13 (FnIs.of h12)
  refine ⟨?_, h16⟩
  rw [← se.u8]
  exact againK_ok se.kk se.ao h10 (FnIs2.of h9) hnew (zeroIs_of h2) hzl (by rw [← hzl, List.length_map]; exact h4) (FnIs.of h11) hrf (FnIs.of h14) h15

theorem keptC_of (se : Seat2 P K g S R G E Z) {n : RL0} (h : (specB P S n).all id = true) (hk : isFn P n.fMax (cKept S) 14 6 = true) : KeptC P S keysOk n.fMax (toFds n.sx) := by
  obtain ⟨hspec, hwr, hmt⟩ := spec2_of se h
  exact kept_of se.sp hwr se.se.wr.ent (FnIs.of hk)

theorem sKept_small {fs : Fds} (hc : Nat.ble (costs fs + 30) 200000 = true) (flex v : Int) {t : Tr} (ht : szT t ≤ 1100000) : (sKept fs flex v t).length ≤ 274877906944 := by
  have h := sWrite_le fs flex v t
  have h1 : costs fs + 30 ≤ 200000 := Nat.le_of_ble_eq_true hc
  have h2 := Nat.mul_le_mul h1 ht
  have hf : (fix v 2).length = 2 := by simp [fix_len]
  unfold sKept
  rw [List.length_append]
  omega

/-- A law FnAgain.. of a message that is kept. -/
theorem again_lawK (se : Seat2 P K g S R G E Z) (n : RL0) (h1 : (msgKB P K g S R G n).all id = true) (h2 : (specB P S n).all id = true) (hk : isFn P n.fMax (cKept S) 14 6 = true) (h3 : isFn P n.f (cLawAgainK S Z.f2 n.fSpec n.fMax n.fAgain n.most) 28 4 = true)
    (w : World) (k : Nat) (hk8 : k < 256) (ct : List Value) (t : Tr) (hrt : RepTr w t ct) (hg : goodT keysOk t) (ev : Value) (hev : w.cell? ⟨R.gErr, 0, none⟩ = some ev) (herr : isErr ev) (hlen : ∀ v, v ≤ n.most → (sKept (toFds n.sx) n.flex (v : Nat) t).length ≤ 274877906944) :
    Calls P n.f #[.int .u8 k, .agg ct.toArray] w (fun e w' => e = .returned (.bool true) ∧ Below w.heap.size w w') := by
  obtain ⟨hag, hm⟩ := msgK_of se.a h1
  obtain ⟨hspec, hwr, hmt⟩ := spec2_of se h2
  exact law_againK se.sp (FnIs.of h3) se.fits (keptC_of se h2 hk) se.se.same hspec hag hm w k hk8 ct t hrt hg ev hev herr (fun v hv => ⟨hlen v hv, kept_again hmt hm hv hg⟩)

section
variable {H : Type} {B : DataW H → Nat} {BA : List (DataW H) → Nat} {enc : TypeId × Value → H}

theorem again_rowK (se : Seat2 P K g S R G E Z) (tb : TreeOk P S) (n : RL0) (h1 : (msgKB P K g S R G n).all id = true) (h2 : (specB P S n).all id = true) (hkk : isFn P n.fMax (cKept S) 14 6 = true) (h3 : isFn P n.f (cLawAgainK S Z.f2 n.fSpec n.fMax n.fAgain n.most) 28 4 = true) (hcost : Nat.ble (costs (toFds n.sx) + 30) 200000 = true)
    {fn : Func} {s : ChangeSpec} (hB : BulkOk B BA) (hp : fn.params = #[S.T.u8, S.tr]) (hr : fn.resultTypes = #[S.T.bool]) (hv : s.vars = []) (hl : laidOutB P = true) (hrd : fn.params.toList.all (fun t => P.readableRec t && decide (t < P.types.size)) = true)
    (hfn : ∀ d1 d2, s.fn H [d1, d2] = { results := [.lit (.bool true)], args := [d1, d2], vars := [] }) {W : World} {base : Nat} {args : Array Value} {ds gs : List (DataW H)} {before : List MemPlace}
    (hval : ∀ (j : Nat) t v, fn.params[j]? = some t → args[j]? = some v → Value.okWide P W .any base t v) (hW : DataW.Whole enc P fn.params.toList s.vars false W args.toList ds gs before) (hbulk : BA (ds ++ gs) ≤ 1048576) (hev : ∃ ev, W.cell? ⟨R.gErr, 0, none⟩ = some ev ∧ isErr ev) :
    Calls P n.f args W fun e W' => ∃ v, e = .returned v ∧ s.post enc P fn false true false false W args v W' := by
  have hW' := hW
  obtain ⟨p, q, hA, hV, rfl, hfz, hnd⟩ := hW
  have hg0 : gs = [] := by
    rw [hv] at hV
    cases gs with
    | nil => rfl
    | cons g gs => simp [DataW.TrodVars] at hV
  subst hg0
  rw [hp] at hA hval
  obtain ⟨v0, vs0, d0, ds0, p0, q0, hargs, rfl, rfl, t0, r0⟩ := trodAll_cons hA
  obtain ⟨v1, vs1, d1, ds1, p1, q1, hargs1, rfl, rfl, t1, r1⟩ := trodAll_cons r0
  obtain ⟨rfl, rfl, rfl⟩ := trodAll_nil r1
  subst hargs1
  obtain rfl : args = #[v0, v1] := by cases args; simp_all
  obtain ⟨a0, rfl, rfl, rfl, w0⟩ := open_int (intTy_eq tb.u8) (hval 0 S.T.u8 v0 rfl rfl) t0
  obtain ⟨k, rfl, hk⟩ := u8_range w0
  obtain ⟨fs, hu, _, _⟩ := structB_of tb.tr
  obtain ⟨cs, rfl, hcs⟩ := okWide_struct hu (hval 1 S.tr v1 rfl rfl)
  obtain ⟨fuel, ht⟩ := t1
  obtain ⟨t, hrep, hgood, hsz⟩ := open_tr tb hB fuel (cs := cs.toList) (x := (d1, _)) ht
  obtain ⟨ev, hc, hie⟩ := hev
  have b0 := hB.cons (.lit (.int .u8 (k : Int)) : DataW H) [d1]
  have b1 := hB.cons d1 []
  have hst : szT t ≤ 1100000 := by
    simp only [List.append_nil] at hbulk
    have : szT t ≤ B d1 := hsz
    omega
  have hrun := again_lawK se n h1 h2 hkk h3 W k hk cs.toList t hrep hgood ev hc hie (fun v hv => sKept_small hcost n.flex (v : Nat) hst)
  rw [← agg_toList] at hrun
  refine hrun.mono ?_
  rintro e W' ⟨rfl, hbel⟩
  exact ⟨_, rfl, row_post hl hrd hr (boolB_eq tb.bool) hv hW' hbel (by rw [List.append_nil]; exact hfn _ _)⟩
end
end
end Go.Kx
namespace Go.Kx
open Go.RowKit
set_option linter.unusedSimpArgs false
set_option linter.unusedVariables false

section
variable {P : Program} {N : Nat} {Q : Exit → (Nat → Value) → World → Prop} {ρ : Nat → Value} {w w' : World} {ms : List MOp} {d : Nat} {v : Value}

/-- A call of a function without a text. -/
theorem MR.cax {f : Nat} {xs : List MX} (hr : (callFunc f (xs.map (xof ρ)).toArray).run P w = .ok (.value v) w) (hx : ∀ x ∈ xs, MX.lt N x = true) : MR P N (.ca d f xs) ρ w d v w := by
  intro a o hl hf
  obtain ⟨dst, op, type, pos, after, guard⟩ := o
  dsimp only at hf ⊢
  cases op <;> try (simp only [fitOp, Bool.false_eq_true] at hf; done)
  rename_i c
  obtain ⟨callee, args, ats⟩ := c
  cases callee <;> try (simp only [fitOp, Bool.false_eq_true] at hf; done)
  case value x =>
    cases x <;> try (simp only [fitOp, Bool.false_eq_true] at hf; done)
    simp only [fitOp, Bool.and_eq_true, Nat.beq_eq] at hf
    obtain ⟨⟨h1, h2⟩, h3⟩ := hf
    subst h2
    have hdst := dstIs_eq h1
    subst hdst
    have hargs : args.map a.eval = (xs.map (xof ρ)).toArray := by
      apply Array.toList_inj.1
      rw [Array.toList_map, allX_evalL hl hx h3]
    refine ⟨rfl, ?_⟩
    simp only [execOp, resolve, Act.eval, Deferred.ofValue, Sem.run_bind, Sem.run_pure, Result.andThen_ok, invoke, Array.append_empty, Array.empty_append]
    rw [hargs, hr]

def cApF (K : KB) : MCode := .sq (.rg [.mv 4 (.c .nslice)]) (.sq (.rg [.mv 5 (.t 0), .mv 6 (.t 1), .ca 7 K.ffb [.t 6], .ca 8 K.u64 [.t 5, .t 7], .mv 4 (.t 8)]) .rt)
def cRdF (R : RN) : MCode := .sq (.rg [.mv 2 (.c .flt)]) (.sq (.rg [.mv 3 (.t 0), .ca 4 R.r64 [.t 3], .ca 5 R.ffr [.t 4], .mv 2 (.t 5)]) .rt)

def flB (P : Program) (K : KB) (R : RN) : List Bool := [(kbOk P K).all id, isFn P K.f64 (cApF K) 9 4, yes K.u64, isFn P R.f64 (cRdF R) 6 2, yes R.r64]

theorem apF_ok {K : KB} (hf : FnIs P K.f64 (cApF K) 9 4) (hu : ApC P K.T.u8 K.u64 (fun _ _ x out => ∃ n : Nat, n < 18446744073709551616 ∧ x = .int .u64 n ∧ out = be n 8))
    (he : ∀ (n : Nat) (w : World), (callFunc K.ffb #[.float .f64 n]).run P w = .ok (.value (.int .u64 n)) w) : F64W P K := by
  intro _
  refine ⟨hf.ent, ?_⟩
  rintro w B sv x bs out hB ho ⟨n, hn, rfl, rfl⟩ hlim
  refine hf.runs (args := [sv, .float .f64 n]) (by simp) (by omega) ?_
  refine RW.sq (RW.rg (RL.step MR.mv (RL.nil (RW.sq (RW.rg (RL.step (MR.mv (v := sv) rfl) (RL.step (MR.mv (v := .float .f64 n) rfl) (RL.step (MR.cax (v := .int .u64 (n : Nat)) (he n w) (by simp [MX.lt])) ?_))))))))
  refine RL.caA (sv := sv) (bs := bs) (out := be n 8) hu rfl ho ⟨n, hn, rfl, rfl⟩ hB hlim ?_
  intro sv1 w1 o1 b1
  exact RL.step MR.mv (RL.nil (RW.rt (ret_ap (sv := sv1) rfl o1 b1)))

theorem rdF_ok {R : RN} (hf : FnIs P R.f64 (cRdF R) 6 2) (hr : RdC P R.r64 (dNat 8) (PlB (fun x => .int .u64 (x : Nat)) (· < 18446744073709551616)))
    (he : ∀ (n : Nat) (w : World), (callFunc R.ffr #[.int .u64 (n : Nat)]).run P w = .ok (.value (.float .f64 n)) w) : F64R P R := by
  intro _ flex
  refine ⟨hf.ent, fun w rb sb st h hne => ?_⟩
  refine hf.runs (args := [.pointer (some ⟨rb, 0, none⟩)]) (by simp) (by omega) ?_
  refine RW.sq (RW.rg (RL.step MR.mv (RL.nil (RW.sq (RW.rg (RL.step (MR.mv (v := .pointer (some ⟨rb, 0, none⟩)) rfl) (RL.rd hr rfl h hne (by rfl) (by decide) ?_)))))))
  rintro v x st1 w1 hF hG hR ⟨rfl, hx⟩
  refine RL.step (MR.cax (v := .float .f64 x) (he x w1) (by simp [MX.lt])) (RL.step MR.mv (RL.nil (RW.rt ?_)))
  exact ⟨_, .n (x : Nat), st1, rfl, hF, hG.map (f := fun n : Nat => D.n (n : Nat)), hR, rfl, rfl, rfl, x, rfl, rfl, hx⟩

theorem fl_of {K : KB} {R : RN} {G : TG} (h : (flB P K R).all id = true) (h2 : (rkB P R G).all id = true) (e1 : ∀ (n : Nat) (w : World), (callFunc K.ffb #[.float .f64 n]).run P w = .ok (.value (.int .u64 n)) w)
    (e2 : ∀ (n : Nat) (w : World), (callFunc R.ffr #[.int .u64 (n : Nat)]).run P w = .ok (.value (.float .f64 n)) w) : FlOk P K R := by
  simp only [flB, List.all_cons, List.all_nil, id_eq, Bool.and_true, Bool.and_eq_true] at h
  obtain ⟨h1, h3, h4, h5, h6⟩ := h
  exact ⟨apF_ok (FnIs.of h3) (u64_of h1 (yes_of h4)).2 e1, rdF_ok (FnIs.of h5) (rd_r64 h2 (yes_of h6)) e2⟩
end
end Go.Kx
