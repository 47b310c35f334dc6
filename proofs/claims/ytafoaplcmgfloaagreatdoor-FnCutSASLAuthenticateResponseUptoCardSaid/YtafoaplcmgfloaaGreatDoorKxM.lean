/- An argument's tree as it is read (DataW): it lies in memory as a tree, keys fit, its bulk is no less than its size. Conditions: the tables' facts (treeB), the bulk's equations (BulkOk).
   From the laws' runs to what a row says of them: arguments opened, read again behind the call. Conditions: the program's tests, the row's closed facts. -/
import Derived.Test.YtafoaplcmgfloaaGreatDoorKxL
import Derived.ChangeSlices
import Derived.ChangeArms
import Derived.Carry
import Derived.OpenShut
import Derived.ChangeShapes
import Derived.FnData
namespace Go.Kx
open Go.RowKit Go.ChangeShapes Go.WideShapes
set_option linter.unusedVariables false
set_option linter.unusedSimpArgs false

def eqNN : List (Nat × Nat) → List (Nat × Nat) → Bool
  | [], [] => true
  | a :: xs, b :: ys => Nat.beq a.1 b.1 && Nat.beq a.2 b.2 && eqNN xs ys
  | _, _ => false
theorem eqNN_eq : ∀ {a b : List (Nat × Nat)}, eqNN a b = true → a = b
  | [], [], _ => rfl
  | [], _ :: _, h => by simp [eqNN] at h
  | _ :: _, [], h => by simp [eqNN] at h
  | (a1, a2) :: xs, (b1, b2) :: ys, h => by
    simp only [eqNN, Bool.and_eq_true, Nat.beq_eq] at h
    obtain ⟨⟨rfl, rfl⟩, h⟩ := h
    rw [eqNN_eq h]

def structB (P : Program) (t : Nat) (l : List (Nat × Nat)) : Bool := match P.underlying t with
  | some (.struct fs) => eqNN (fs.toList.map fun f => (f.offset, f.type)) l
  | _ => false
theorem structB_of {P : Program} {t : Nat} {l : List (Nat × Nat)} (h : structB P t l = true) : ∃ fs : Array Field, P.underlying t = some (.struct fs) ∧ fs.size = l.length ∧ ∀ (i : Nat) (q : Nat × Nat), l[i]? = some q → ∃ f : Field, fs[i]? = some f ∧ f.offset = q.1 ∧ f.type = q.2 := by
  unfold structB at h
  split at h
  · rename_i fs hu
    have e := eqNN_eq h
    subst e
    refine ⟨fs, hu, by simp, fun i q hi => ?_⟩
    rw [List.getElem?_map, Array.getElem?_toList] at hi
    cases hf : fs[i]? with
    | none => simp [hf] at hi
    | some f =>
      rw [hf] at hi
      simp only [Option.map_some, Option.some.injEq] at hi
      subst hi
      exact ⟨f, rfl, rfl, rfl⟩
  · simp at h

def boolB (P : Program) (t : Nat) : Bool := match P.underlying t with
  | some .bool => true
  | _ => false
theorem boolB_eq {P : Program} {t : Nat} (h : boolB P t = true) : P.underlying t = some .bool := by
  unfold boolB at h
  split at h
  · assumption
  · simp at h

def treeB (P : Program) (S : SN) : List Bool := [structB P S.tr [(0, S.T.i64), (1, S.T.u8s), (2, S.T.bool), (3, S.trs), (4, S.tgs)], structB P S.tg [(0, S.T.u32), (1, S.T.u8s)], intTy P S.T.i64 .i64, boolB P S.T.bool, intTy P S.T.u32 .u32, intTy P S.T.u8 .u8,
  sliceOf P S.T.u8s S.T.u8, sliceOf P S.trs S.tr, sliceOf P S.tgs S.tg, Nat.beq (P.cellsOf S.tr) 5, Nat.beq (P.cellsOf S.tg) 2, Nat.beq (P.cellsOf S.T.i64) 1, Nat.beq (P.cellsOf S.T.bool) 1, Nat.beq (P.cellsOf S.T.u8) 1, Nat.beq (P.cellsOf S.T.u8s) 1, Nat.beq (P.cellsOf S.trs) 1, Nat.beq (P.cellsOf S.tgs) 1, Nat.beq (P.cellsOf S.T.u32) 1]

structure BulkOk {H : Type} (B : DataW H → Nat) (BA : List (DataW H) → Nat) : Prop where
  one : ∀ d, 1 ≤ B d
  slice : ∀ e s, 1 + BA e ≤ B (.slice e s)
  agg : ∀ ps, 1 + BA ps ≤ B (.agg ps)
  cons : ∀ d l, B d + BA l ≤ BA (d :: l)

section
variable {H : Type} {B : DataW H → Nat} {BA : List (DataW H) → Nat} {enc : TypeId × Value → H} {P : Program} {S : SN} {w : World} {base : Nat} {held : Bool}

theorem BulkOk.len (hB : BulkOk B BA) : ∀ l : List (DataW H), l.length ≤ BA l
  | [] => Nat.zero_le _
  | d :: l => by have := hB.one d; have := hB.cons d l; have := hB.len l; rw [List.length_cons]; omega

theorem cell_at {a : Addr} {v : Value} {i : Nat} (h : w.cell? (a.add i) = some v) (h0 : a.spot = none) : w.cell? ⟨a.block, a.off + i, none⟩ = some v := by
  have e : a = ⟨a.block, a.off, none⟩ := by cases a; simp_all
  rw [e, Addr.add_mid] at h
  exact h

theorem open_u8s {U8 U8s : Nat} (h1 : sliceOf P U8s U8 = true) (h2 : intTy P U8 .u8 = true) (h3 : P.cellsOf U8 = 1) (hB : BulkOk B BA) {fuel : Nat} {cs : List Value} {x : DataW H × List MemPlace} (h : DataW.trod enc P w base (fun _ => true) held fuel U8s cs = some x) :
    ∃ ad l c, cs = [.slice ad (List.length l) c] ∧ okA l.length ad ∧ l.length ≤ c ∧ BytesAt w (fun _ => True) ad l ∧ 1 + l.length ≤ B x.1 := by
  rcases open_ints (sliceOf_eq h1) (intTy_eq h2) h3 h with ⟨rfl, rfl⟩ | ⟨a, len, cap, zs, rfl, hb, hl, hm, hz, rfl, hcell, hwz⟩
  · exact ⟨none, [], 0, rfl, .inl rfl, Nat.le_refl _, fun j b hj => by simp at hj, by have := hB.one (DataW.nil : DataW H); simpa using this⟩
  · simp only [if_true] at hz
    have hlen : ((zs.take len).map fun n => UInt8.ofNat n.toNat).length = len := by simp; omega
    have hspot : 0 < len → a.spot = none := fun h0 => by
      have := World.cell?_spot (hcell 0 (by omega))
      simpa [Addr.add] using this
    refine ⟨some a, (zs.take len).map fun n => UInt8.ofNat n.toNat, cap, by rw [hlen], ?_, by rw [hlen]; exact hl, fun j b hj => ?_, ?_⟩
    · rw [hlen]
      by_cases h0 : len = 0
      · exact .inl h0
      · right; right
        refine ⟨a.block, a.off, ?_⟩
        have := hspot (by omega)
        cases a; simp_all
    · have hj' : j < len := by
        have := (List.getElem?_eq_some_iff.1 hj).1
        rwa [hlen] at this
      have hs := hspot (by omega)
      refine ⟨a.block, a.off, by cases a; simp_all, trivial, ?_⟩
      rw [cell_at (hcell j (by omega)) hs]
      have hzj : zs.getD j 0 = zs[j]'(by omega) := by simp [List.getD, List.getElem?_eq_getElem (show j < zs.length by omega)]
      have hw := hwz (zs[j]'(by omega)) (List.getElem_mem _)
      rw [List.getElem?_map, List.getElem?_take, if_pos hj', List.getElem?_eq_getElem (show j < zs.length by omega)] at hj
      simp only [Option.map_some, Option.some.injEq] at hj
      subst hj
      rw [hzj]
      unfold byteV
      congr 2
      simp [Lit.wf, IntKind.min, IntKind.max, IntKind.bits, IntKind.signed] at hw
      simp only [UInt8.toNat_ofNat']
      omega
    · have h1 := hB.slice (lits .u8 (zs.take len)) (lits .u8 (zs.drop len))
      have h2 := hB.len (lits .u8 (zs.take len))
      have h3 : (lits (H := H) .u8 (zs.take len)).length = len := by simp [lits]; omega
      rw [hlen]
      show 1 + len ≤ B (.slice _ _)
      rw [h3] at h2
      omega

structure TreeOk (P : Program) (S : SN) : Prop where
  tr : structB P S.tr [(0, S.T.i64), (1, S.T.u8s), (2, S.T.bool), (3, S.trs), (4, S.tgs)] = true
  tg : structB P S.tg [(0, S.T.u32), (1, S.T.u8s)] = true
  i64 : intTy P S.T.i64 .i64 = true
  bool : boolB P S.T.bool = true
  u32 : intTy P S.T.u32 .u32 = true
  u8 : intTy P S.T.u8 .u8 = true
  u8s : sliceOf P S.T.u8s S.T.u8 = true
  trs : sliceOf P S.trs S.tr = true
  tgs : sliceOf P S.tgs S.tg = true
  ctr : P.cellsOf S.tr = 5
  ctg : P.cellsOf S.tg = 2
  ci64 : P.cellsOf S.T.i64 = 1
  cbool : P.cellsOf S.T.bool = 1
  cu8 : P.cellsOf S.T.u8 = 1
  cu8s : P.cellsOf S.T.u8s = 1
  ctrs : P.cellsOf S.trs = 1
  ctgs : P.cellsOf S.tgs = 1
  cu32 : P.cellsOf S.T.u32 = 1
theorem tree_of (h : (treeB P S).all id = true) : TreeOk P S := by
  simp only [treeB, List.all_cons, List.all_nil, id_eq, Bool.and_true, Bool.and_eq_true, Nat.beq_eq] at h
  obtain ⟨h1, h2, h3, h4, h5, h6, h7, h8, h9, h10, h11, h12, h13, h14, h15, h16, h17, h18⟩ := h
  exact ⟨h1, h2, h3, h4, h5, h6, h7, h8, h9, h10, h11, h12, h13, h14, h15, h16, h17, h18⟩

theorem open_tg (tb : TreeOk P S) (hB : BulkOk B BA) {fuel : Nat} {cs : List Value} {x : DataW H × List MemPlace} (h : DataW.trod enc P w base (fun _ => true) held fuel S.tg cs = some x) :
    ∃ t, TagRow w cs t ∧ t.1 < 4294967296 ∧ 1 + t.2.length ≤ B x.1 := by
  obtain ⟨fs, hu, hsz, hf⟩ := structB_of tb.tg
  obtain ⟨xs, n, rfl, rfl, hl, hxl, hx⟩ := DataW.trod_struct hu h
  rw [tb.ctg] at hl
  obtain ⟨c0, c1, rfl⟩ : ∃ c0 c1, cs = [c0, c1] := by
    match cs, hl with
    | [a, b], _ => exact ⟨a, b, rfl⟩
  obtain ⟨x0, x1, rfl⟩ : ∃ x0 x1, xs = [x0, x1] := by
    rw [hsz] at hxl
    match xs, hxl with
    | [a, b], _ => exact ⟨a, b, rfl⟩
  obtain ⟨f0, g0, o0, t0⟩ := hf 0 _ rfl
  obtain ⟨f1, g1, o1, t1⟩ := hf 1 _ rfl
  have e0 := hx 0 f0 g0
  have e1 := hx 1 f1 g1
  rw [o0, t0, tb.cu32] at e0
  rw [o1, t1, tb.cu8s] at e1
  obtain ⟨k, hk, hx0, hwf⟩ := DataW.trod_int (intTy_eq tb.u32) (show _ = some x0 from e0)
  obtain ⟨ad, l, c, hc, ha, hlc, hby, hb⟩ := open_u8s tb.u8s tb.u8 tb.cu8 hB (show _ = some x1 from e1)
  have hk' : c0 = .int .u32 k := by simpa using hk
  have hc' : c1 = .slice ad l.length c := by simpa using hc
  simp [Lit.wf, IntKind.min, IntKind.max, IntKind.bits, IntKind.signed] at hwf
  refine ⟨(k.toNat, l), ⟨by show k.toNat < _; omega, ad, c, ?_, ha, hlc, hby⟩, by show k.toNat < _; omega, ?_⟩
  · rw [hk', hc', show ((k.toNat : Nat) : Int) = k from by omega]
  · have h1 := hB.agg [x0.1, x1.1]
    have h2 := hB.cons x0.1 [x1.1]
    have h3 := hB.cons x1.1 []
    simp only [List.map_cons, List.map_nil]
    show 1 + l.length ≤ _
    omega

/-- The rows of a slice, one by one. -/
theorem el_at {e : Nat} {a : Addr} {len n k : Nat} {elems : List (DataW H × List MemPlace)} (hk : P.cellsOf e = k) (hk0 : 0 < k) (hel : ∀ i, i < len → (w.cells? base (a.add (i * P.cellsOf e)) (P.cellsOf e)).bind (DataW.trod enc P w base (fun _ => true) held n e) = elems[i]?) (hlen : elems.length = len) :
    (0 < len → a.spot = none) ∧ ∀ i, (hi : i < len) → ∃ cs, w.rangeAt a.block (a.off + i * k) cs ∧ DataW.trod enc P w base (fun _ => true) held n e cs = some (elems[i]'(by omega)) := by
  subst hk
  have hs : 0 < len → a.spot = none := fun h0 => by
    have h := hel 0 h0
    rw [List.getElem?_eq_getElem (by omega)] at h
    obtain ⟨cs, h1, h2⟩ := Option.bind_eq_some_iff.1 h
    obtain ⟨_, g1, g2⟩ := World.cells?_some h1
    have h3 := g2 0 hk0
    rw [List.getElem?_eq_getElem (by omega)] at h3
    have := World.cell?_spot h3
    simpa [Addr.add] using this
  refine ⟨hs, fun i hi => ?_⟩
  have h := hel i hi
  rw [List.getElem?_eq_getElem (by omega)] at h
  obtain ⟨cs, h1, h2⟩ := Option.bind_eq_some_iff.1 h
  refine ⟨cs, fun j v hj => ?_, h2⟩
  obtain ⟨_, g1, g2⟩ := World.cells?_some h1
  have hjl := (List.getElem?_eq_some_iff.1 hj).1
  have h3 := g2 j (by omega)
  rw [hj] at h3
  have e : a = ⟨a.block, a.off, none⟩ := by have := hs (by omega); cases a; simp_all
  rw [e, Addr.add_mid, Addr.add_mid] at h3
  exact h3

theorem okA_some {a : Addr} {n : Nat} (h : 0 < n → a.spot = none) : okA n (some a) := by
  by_cases h0 : n = 0
  · exact .inl h0
  · right; right
    have := h (by omega)
    exact ⟨a.block, a.off, by cases a; simp_all⟩

theorem utags_of (tb : TreeOk P S) (hB : BulkOk B BA) {a : Addr} {len n : Nat} {elems : List (DataW H × List MemPlace)} (hlen : elems.length = len) (hs : 0 < len → a.spot = none)
    (hel : ∀ i, (hi : i < len) → ∃ cs, w.rangeAt a.block (a.off + i * 2) cs ∧ DataW.trod enc P w base (fun _ => true) held n S.tg cs = some (elems[i]'(by omega))) : ∀ (k i : Nat), i + k = len →
    ∃ u : List (Nat × List UInt8), u.length = k ∧ (∀ j t, u[j]? = some t → ∃ g o cs, some a = some ⟨g, o, none⟩ ∧ w.rangeAt g (o + (i + j) * 2) cs ∧ TagRow w cs t) ∧ keysOk u ∧ szU u ≤ BA ((elems.drop i).map (·.1)) := by
  intro k
  induction k with
  | zero => intro i hi; exact ⟨[], rfl, fun j t h => by simp at h, fun x hx => by simp at hx, by simp [szU]⟩
  | succ k ih =>
    intro i hi
    obtain ⟨u, h1, h2, h3, h4⟩ := ih (i + 1) (by omega)
    obtain ⟨cs, g1, g2⟩ := hel i (by omega)
    obtain ⟨t, k1, k2, k3⟩ := open_tg tb hB g2
    have hsp := hs (by omega)
    refine ⟨t :: u, by simp [h1], fun j t' hj => ?_, fun x hx => ?_, ?_⟩
    · cases j with
      | zero =>
        simp only [List.getElem?_cons_zero, Option.some.injEq] at hj
        subst hj
        exact ⟨a.block, a.off, cs, by cases a; simp_all, g1, k1⟩
      | succ j =>
        rw [List.getElem?_cons_succ] at hj
        obtain ⟨g, o, cs', e1, e2, e3⟩ := h2 j t' hj
        exact ⟨g, o, cs', e1, by rw [show i + (j + 1) = i + 1 + j from by omega]; exact e2, e3⟩
    · simp only [List.mem_cons] at hx
      rcases hx with rfl | hx
      · exact k2
      · exact h3 x hx
    · rw [List.drop_eq_getElem_cons (by omega), List.map_cons]
      have := hB.cons (elems[i]'(by omega)).1 ((elems.drop (i + 1)).map (·.1))
      simp only [szU]; omega

theorem open_tgs (tb : TreeOk P S) (hB : BulkOk B BA) {fuel : Nat} {cs : List Value} {x : DataW H × List MemPlace} (h : DataW.trod enc P w base (fun _ => true) held fuel S.tgs cs = some x) :
    ∃ v u, cs = [v] ∧ TagsS w v u ∧ keysOk u ∧ szU u ≤ B x.1 := by
  rcases DataW.trod_slice (sliceOf_eq tb.tgs) h with ⟨rfl, rfl⟩ | ⟨a, len, cap, elems, rest, n, _, rfl, rfl, hb, hl, hm, hlen, hel, hsp, hns⟩
  · exact ⟨_, [], rfl, ⟨none, 0, rfl, .inl rfl, Nat.le_refl _, fun i t h => by simp at h⟩, fun x hx => by simp at hx, by simp [szU]⟩
  · obtain ⟨h1, h2⟩ := el_at tb.ctg (by omega) hel hlen
    obtain ⟨u, g1, g2, g3, g4⟩ := utags_of tb hB hlen h1 h2 len 0 (by omega)
    subst g1
    refine ⟨_, u, rfl, ⟨some a, cap, rfl, okA_some h1, hl, fun i t hi => ?_⟩, g3, ?_⟩
    · have := g2 i t hi
      rwa [Nat.zero_add] at this
    · have := hB.slice (elems.map (·.1)) (rest.map (·.1))
      rw [List.drop_zero] at g4
      show szU u ≤ B (.slice _ _)
      omega

theorem rows_of (hB : BulkOk B BA) {a : Addr} {len : Nat} {elems : List (DataW H × List MemPlace)} (hlen : elems.length = len) (hs : 0 < len → a.spot = none)
    (hel : ∀ i, (hi : i < len) → ∃ cs t, w.rangeAt a.block (a.off + i * 5) cs ∧ RepTr w t cs ∧ goodT keysOk t ∧ szT t ≤ B (elems[i]'(by omega)).1) : ∀ (k i : Nat), i + k = len →
    ∃ l : Trs, l.toList.length = k ∧ RowsT w (some a) i l ∧ goodTs keysOk l ∧ szTs l ≤ BA ((elems.drop i).map (·.1)) := by
  intro k
  induction k with
  | zero => intro i hi; exact ⟨.nil, rfl, by unfold RowsT; trivial, by unfold goodTs; trivial, by simp [szTs]⟩
  | succ k ih =>
    intro i hi
    obtain ⟨l, h1, h2, h3, h4⟩ := ih (i + 1) (by omega)
    obtain ⟨cs, t, g1, g2, g3, g4⟩ := hel i (by omega)
    have hsp := hs (by omega)
    refine ⟨.cons t l, by unfold Trs.toList; simp [h1], ?_, ?_, ?_⟩
    · unfold RowsT
      exact ⟨⟨a.block, a.off, cs, by cases a; simp_all, g1, g2⟩, h2⟩
    · unfold goodTs; exact ⟨g3, h3⟩
    · rw [List.drop_eq_getElem_cons (by omega), List.map_cons]
      have := hB.cons (elems[i]'(by omega)).1 ((elems.drop (i + 1)).map (·.1))
      unfold szTs; omega

theorem open_tr (tb : TreeOk P S) (hB : BulkOk B BA) : ∀ (fuel : Nat) {cs : List Value} {x : DataW H × List MemPlace}, DataW.trod enc P w base (fun _ => true) held fuel S.tr cs = some x → ∃ t, RepTr w t cs ∧ goodT keysOk t ∧ szT t ≤ B x.1 := by
  intro fuel
  induction fuel using Nat.strongRecOn with
  | _ fuel ih =>
    intro cs x h
    obtain ⟨fs, hu, hsz, hf⟩ := structB_of tb.tr
    obtain ⟨xs, n, rfl, rfl, hl, hxl, hx⟩ := DataW.trod_struct hu h
    rw [tb.ctr] at hl
    obtain ⟨c0, c1, c2, c3, c4, rfl⟩ : ∃ c0 c1 c2 c3 c4, cs = [c0, c1, c2, c3, c4] := by
      match cs, hl with
      | [a, b, c, d, e], _ => exact ⟨a, b, c, d, e, rfl⟩
    obtain ⟨x0, x1, x2, x3, x4, rfl⟩ : ∃ x0 x1 x2 x3 x4, xs = [x0, x1, x2, x3, x4] := by
      rw [hsz] at hxl
      match xs, hxl with
      | [a, b, c, d, e], _ => exact ⟨a, b, c, d, e, rfl⟩
    obtain ⟨f0, g0, o0, t0⟩ := hf 0 _ rfl
    obtain ⟨f1, g1, o1, t1⟩ := hf 1 _ rfl
    obtain ⟨f2, g2, o2, t2⟩ := hf 2 _ rfl
    obtain ⟨f3, g3, o3, t3⟩ := hf 3 _ rfl
    obtain ⟨f4, g4, o4, t4⟩ := hf 4 _ rfl
    have e0 := hx 0 f0 g0
    have e1 := hx 1 f1 g1
    have e2 := hx 2 f2 g2
    have e3 := hx 3 f3 g3
    have e4 := hx 4 f4 g4
    rw [o0, t0, tb.ci64] at e0
    rw [o1, t1, tb.cu8s] at e1
    rw [o2, t2, tb.cbool] at e2
    rw [o3, t3, tb.ctrs] at e3
    rw [o4, t4, tb.ctgs] at e4
    obtain ⟨k, hk, hx0, hwf⟩ := DataW.trod_int (intTy_eq tb.i64) (show _ = some x0 from e0)
    obtain ⟨ad, l, c, hc, ha, hlc, hby, hb⟩ := open_u8s tb.u8s tb.u8 tb.cu8 hB (show _ = some x1 from e1)
    obtain ⟨nu, hnu, hx2⟩ := DataW.trod_bool (boolB_eq tb.bool) (show _ = some x2 from e2)
    obtain ⟨vu, u, hvu, htg, hku, hszu⟩ := open_tgs tb hB (show _ = some x4 from e4)
    have hk' : c0 = .int .i64 k := by simpa using hk
    have hc' : c1 = .slice ad l.length c := by simpa using hc
    have hn' : c2 = .bool nu := by simpa using hnu
    have hv' : c4 = vu := by simpa using hvu
    simp [Lit.wf, IntKind.min, IntKind.max, IntKind.bits, IntKind.signed] at hwf
    have hL : ∃ lt : Trs, (∃ ad c, c3 = .slice ad lt.toList.length c ∧ okA lt.toList.length ad ∧ lt.toList.length ≤ c ∧ RowsT w ad 0 lt) ∧ goodTs keysOk lt ∧ szTs lt ≤ B x3.1 := by
      rcases DataW.trod_slice (sliceOf_eq tb.trs) (show _ = some x3 from e3) with ⟨hcs, rfl⟩ | ⟨a, len, cap, elems, rest, n', hn2, hcs, rfl, hb, hl, hm, hlen, hel, hsp, hns⟩
      · have hcs' : c3 = .slice none 0 0 := by simpa using hcs
        exact ⟨.nil, ⟨none, 0, hcs', .inl rfl, Nat.le_refl _, by unfold RowsT; trivial⟩, by unfold goodTs; trivial, by simp [szTs]⟩
      · have hcs' : c3 = .slice (some a) len cap := by simpa using hcs
        obtain ⟨h1, h2⟩ := el_at tb.ctr (by omega) hel hlen
        obtain ⟨lt, q1, q2, q3, q4⟩ := rows_of hB hlen h1 (fun i hi => by
          obtain ⟨cs, r1, r2⟩ := h2 i hi
          obtain ⟨t, s1, s2, s3⟩ := ih n' (by omega) r2
          exact ⟨cs, t, r1, s1, s2, s3⟩) len 0 (by omega)
        refine ⟨lt, ⟨some a, cap, by rw [q1]; exact hcs', by rw [q1]; exact okA_some h1, by rw [q1]; exact hl, q2⟩, q3, ?_⟩
        have := hB.slice (elems.map (·.1)) (rest.map (·.1))
        rw [List.drop_zero] at q4
        show szTs lt ≤ B (.slice _ _)
        omega
    obtain ⟨lt, hL1, hL2, hL3⟩ := hL
    refine ⟨.mk k l nu lt u, ?_, ?_, ?_⟩
    · unfold RepTr
      exact ⟨c1, c3, c4, by rw [hk', hn'], by omega, ⟨ad, c, hc', ha, hlc, hby⟩, hL1, by rw [hv']; exact htg⟩
    · unfold goodT; exact ⟨hku, hL2⟩
    · unfold szT
      have b0 := hB.agg [x0.1, x1.1, x2.1, x3.1, x4.1]
      have b1 := hB.cons x0.1 [x1.1, x2.1, x3.1, x4.1]
      have b2 := hB.cons x1.1 [x2.1, x3.1, x4.1]
      have b3 := hB.cons x2.1 [x3.1, x4.1]
      have b4 := hB.cons x3.1 [x4.1]
      have b5 := hB.cons x4.1 []
      show _ ≤ B (.agg [x0.1, x1.1, x2.1, x3.1, x4.1])
      omega
end
end Go.Kx
namespace Go.Kx
open Go.RowKit Go.ChangeShapes Go.WideShapes Go.WideElems
set_option linter.unusedVariables false
set_option linter.unusedSimpArgs false

section
variable {H : Type} {B : DataW H → Nat} {BA : List (DataW H) → Nat} {enc : TypeId × Value → H} {P : Program}

theorem keepAll {W W' : World} (hl : laidOutB P = true) (hb : Below W.heap.size W W') : ∀ {ts : List TypeId} {vs : List Value} {ds : List (DataW H)} {ps : List MemPlace}, ts.all (fun t => P.readableRec t && decide (t < P.types.size)) = true →
    DataW.TrodAll enc P W 0 (fun _ => true) true ts vs ds ps → (∀ x ∈ ps, x.block < W.heap.size) → DataW.TrodAll enc P W' 0 (fun b => decide (b < W.heap.size)) true ts vs ds ps
  | [], vs, ds, ps, _, h, _ => by
    obtain ⟨rfl, rfl, rfl⟩ := trodAll_nil h
    exact trodAll_mk0
  | t :: ts, vs, ds, ps, hr, h, hlt => by
    obtain ⟨v, vs', d, ds', p, q, rfl, rfl, rfl, h1, h2⟩ := trodAll_cons h
    simp only [List.all_cons, Bool.and_eq_true, decide_eq_true_eq] at hr
    exact trodAll_cons_mk (Below.trod hl hr.1.1 hr.1.2 h1 hb (fun x hx => hlt x (List.mem_append.2 (.inl hx)))) (keepAll hl hb (by simpa using hr.2) h2 (fun x hx => hlt x (List.mem_append.2 (.inr hx))))

theorem row_post {fn : Func} {s : ChangeSpec} {tb : TypeId} {W W' : World} {args : Array Value} {ds gs : List (DataW H)} {before : List MemPlace} (hl : laidOutB P = true) (hrd : fn.params.toList.all (fun t => P.readableRec t && decide (t < P.types.size)) = true) (hres : fn.resultTypes = #[tb]) (ht : P.underlying tb = some .bool)
    (hv : s.vars = []) (hW : DataW.Whole enc P fn.params.toList s.vars false W args.toList ds gs before) (hb : Below W.heap.size W W') (hfn : s.fn H (ds ++ gs) = { results := [.lit (.bool true)], args := ds, vars := [] }) : s.post enc P fn false true false false W args (.bool true) W' := by
  have hW' := hW
  obtain ⟨p, q, hA, hV, rfl, hfz, hnd⟩ := hW
  rw [hv] at hV
  have hq : gs = [] ∧ q = [] := by
    cases gs with
    | nil => exact ⟨rfl, hV⟩
    | cons g gs => simp [DataW.TrodVars] at hV
  obtain ⟨rfl, rfl⟩ := hq
  refine ⟨ds, [], _, [], p, [], hW', ?_, ?_, ?_, hb.frame _, fun h => by cases h⟩
  · rw [hfn, hres]
    exact trodAll_mk1 (shut_bool ht true)
  · rw [hfn]
    exact keepAll hl hb hrd hA (fun x hx => hW'.lt x (List.mem_append.2 (.inl hx)))
  · rw [hv, hfn]
    exact rfl

/-- The listed error is laid: the variable holds an error that is not nil. -/
theorem laid_err {W : World} {name nm : String} {g t : Nat} {d : DataW Unit} (hg : P.globalNamed name = some g) (ht : (P.globals[g]?).map (·.type) = some t) (hi : ifaceTy P t = true) (h : laidMet P [(name, .iface nm d)] W) : ∃ ev, W.cell? ⟨g, 0, none⟩ = some ev ∧ isErr ev := by
  obtain ⟨ps, ⟨g', t', cs, fuel, p, q, hg', ht', hvar, hd, _, _⟩, _⟩ := h
  obtain rfl := Option.some.inj (hg.symm.trans hg')
  obtain rfl := Option.some.inj (ht.symm.trans ht')
  obtain ⟨ms, hu⟩ := ifaceTy_eq hi
  have hc := fun i => World.var?_cell hg hvar i
  obtain ⟨l⟩ := cs
  cases fuel with
  | zero => simp [DataW.trod] at hd
  | succ n =>
    unfold DataW.trod at hd
    rw [hu] at hd
    simp only at hd
    match l, hd with
    | [], hd => simp at hd
    | [v], hd =>
      cases v <;> simp at hd
      rename_i u x
      exact ⟨_, by rw [hc 0]; rfl, _, _, rfl⟩
    | v :: v2 :: r, hd => simp at hd

section
variable {K : KB} {g : TN} {S : SN} {R : RN} {G : TG} {E : EN} {Z : FTN}

theorem u8_range {a : Int} (w0 : (Lit.int .u8 a).wf = true) : ∃ k : Nat, a = (k : Int) ∧ k < 256 := by
  simp [Lit.wf, IntKind.min, IntKind.max, IntKind.bits, IntKind.signed] at w0
  exact ⟨a.toNat, by omega, by omega⟩
theorem u16_range {a : Int} (w0 : (Lit.int .u16 a).wf = true) : ∃ k : Nat, a = (k : Int) ∧ k < 65536 := by
  simp [Lit.wf, IntKind.min, IntKind.max, IntKind.bits, IntKind.signed] at w0
  exact ⟨a.toNat, by omega, by omega⟩

theorem agg_toList (cs : Array Value) : Value.agg cs = .agg cs.toList.toArray := by simp

theorem again_row (se : Seat2 P K g S R G E Z) (tb : TreeOk P S) (n : RL0) (h1 : (msgB P K g S R G n).all id = true) (h2 : (specB P S n).all id = true) (h3 : isFn P n.f (cLawAgain S Z.f2 n.fMax n.fSpec n.fAgain) 35 4 = true) (hcost : Nat.ble (costs (toFds n.sx) + 30) 200000 = true)
    {fn : Func} {s : ChangeSpec} (hB : BulkOk B BA) (hp : fn.params = #[S.T.u8, S.tr]) (hr : fn.resultTypes = #[S.T.bool]) (hv : s.vars = []) (hl : laidOutB P = true) (hrd : fn.params.toList.all (fun t => P.readableRec t && decide (t < P.types.size)) = true)
    (hfn : ∀ d1 d2, s.fn H [d1, d2] = { results := [.lit (.bool true)], args := [d1, d2], vars := [] }) {W : World} {base : Nat} {args : Array Value} {ds gs : List (DataW H)} {before : List MemPlace}
    (hval : ∀ (j : Nat) t v, fn.params[j]? = some t → args[j]? = some v → Value.okWide P W .any base t v) (hW : DataW.Whole enc P fn.params.toList s.vars false W args.toList ds gs before) (hbulk : BA (ds ++ gs) ≤ 1048576) (hev : ∃ ev, W.cell? ⟨R.gErr, 0, none⟩ = some ev ∧ isErr ev) :
    Calls P n.f args W fun e W' => ∃ v, e = .returned v ∧ s.post enc P fn false true false false W args v W' := by
  have hW' := hW
  obtain ⟨p, q, hA, hV, rfl, hfz, hnd⟩ := hW
  have hg0 : gs = [] := by
    rw [hv] at hV
    cases gs with
    | nil => rfl
    | cons g gs => simp [DataW.TrodVars] at hV
  subst hg0
  rw [hp] at hA hval
  obtain ⟨v0, vs0, d0, ds0, p0, q0, hargs, rfl, rfl, t0, r0⟩ := trodAll_cons hA
  obtain ⟨v1, vs1, d1, ds1, p1, q1, hargs1, rfl, rfl, t1, r1⟩ := trodAll_cons r0
  obtain ⟨rfl, rfl, rfl⟩ := trodAll_nil r1
  subst hargs1
  obtain rfl : args = #[v0, v1] := by cases args; simp_all
  obtain ⟨a0, rfl, rfl, rfl, w0⟩ := open_int (intTy_eq tb.u8) (hval 0 S.T.u8 v0 rfl rfl) t0
  obtain ⟨k, rfl, hk⟩ := u8_range w0
  obtain ⟨fs, hu, _, _⟩ := structB_of tb.tr
  obtain ⟨cs, rfl, hcs⟩ := okWide_struct hu (hval 1 S.tr v1 rfl rfl)
  obtain ⟨fuel, ht⟩ := t1
  obtain ⟨t, hrep, hgood, hsz⟩ := open_tr tb hB fuel (cs := cs.toList) (x := (d1, _)) ht
  obtain ⟨ev, hc, hie⟩ := hev
  have b0 := hB.cons (.lit (.int .u8 (k : Int)) : DataW H) [d1]
  have b1 := hB.cons d1 []
  have hst : szT t ≤ 1100000 := by
    simp only [List.append_nil] at hbulk
    have : szT t ≤ B d1 := hsz
    omega
  have hrun := again_law se n h1 h2 h3 W k hk cs.toList t hrep hgood ev hc hie (fun v hv => sWrite_small hcost n.flex (v : Nat) hst)
  rw [← agg_toList] at hrun
  refine hrun.mono ?_
  rintro e W' ⟨rfl, hbel⟩
  exact ⟨_, rfl, row_post hl hrd hr (boolB_eq tb.bool) hv hW' hbel (by rw [List.append_nil]; exact hfn _ _)⟩

theorem cut_row (se : Seat2 P K g S R G E Z) (tb : TreeOk P S) (n : RL0) (h1 : (msgB P K g S R G n).all id = true) (h2 : (specB P S n).all id = true) (h3 : isFn P n.f (cLawCut S Z.f2 n.fMax n.fSpec n.fAgain) 56 6 = true) (h4 : yes S.T.u16 = true) (hcost : Nat.ble (costs (toFds n.sx) + 30) 200000 = true)
    {fn : Func} {s : ChangeSpec} (hB : BulkOk B BA) (hu16 : intTy P S.T.u16 .u16 = true) (hp : fn.params = #[S.T.u8, S.tr, S.T.u16]) (hr : fn.resultTypes = #[S.T.bool]) (hv : s.vars = []) (hl : laidOutB P = true) (hrd : fn.params.toList.all (fun t => P.readableRec t && decide (t < P.types.size)) = true)
    (hfn : ∀ d1 d2 d3, s.fn H [d1, d2, d3] = { results := [.lit (.bool true)], args := [d1, d2, d3], vars := [] }) {W : World} {base : Nat} {args : Array Value} {ds gs : List (DataW H)} {before : List MemPlace}
    (hval : ∀ (j : Nat) t v, fn.params[j]? = some t → args[j]? = some v → Value.okWide P W .any base t v) (hW : DataW.Whole enc P fn.params.toList s.vars false W args.toList ds gs before) (hbulk : BA (ds ++ gs) ≤ 1048576) (hev : ∃ ev, W.cell? ⟨R.gErr, 0, none⟩ = some ev ∧ isErr ev) :
    Calls P n.f args W fun e W' => ∃ v, e = .returned v ∧ s.post enc P fn false true false false W args v W' := by
  have hW' := hW
  obtain ⟨p, q, hA, hV, rfl, hfz, hnd⟩ := hW
  have hg0 : gs = [] := by
    rw [hv] at hV
    cases gs with
    | nil => rfl
    | cons g gs => simp [DataW.TrodVars] at hV
  subst hg0
  rw [hp] at hA hval
  obtain ⟨v0, vs0, d0, ds0, p0, q0, hargs, rfl, rfl, t0, r0⟩ := trodAll_cons hA
  obtain ⟨v1, vs1, d1, ds1, p1, q1, hargs1, rfl, rfl, t1, r1⟩ := trodAll_cons r0
  obtain ⟨v2, vs2, d2, ds2, p2, q2, hargs2, rfl, rfl, t2, r2⟩ := trodAll_cons r1
  obtain ⟨rfl, rfl, rfl⟩ := trodAll_nil r2
  subst hargs2
  subst hargs1
  obtain rfl : args = #[v0, v1, v2] := by cases args; simp_all
  obtain ⟨a0, rfl, rfl, rfl, w0⟩ := open_int (intTy_eq tb.u8) (hval 0 S.T.u8 v0 rfl rfl) t0
  obtain ⟨k, rfl, hk⟩ := u8_range w0
  obtain ⟨a2, rfl, rfl, rfl, w2⟩ := open_int (intTy_eq hu16) (hval 2 S.T.u16 v2 rfl rfl) t2
  obtain ⟨m, rfl, hm⟩ := u16_range w2
  obtain ⟨fs, hu, _, _⟩ := structB_of tb.tr
  obtain ⟨cs, rfl, hcs⟩ := okWide_struct hu (hval 1 S.tr v1 rfl rfl)
  obtain ⟨fuel, ht⟩ := t1
  obtain ⟨t, hrep, hgood, hsz⟩ := open_tr tb hB fuel (cs := cs.toList) (x := (d1, _)) ht
  obtain ⟨ev, hc, hie⟩ := hev
  have b0 := hB.cons (.lit (.int .u8 (k : Int)) : DataW H) [d1, .lit (.int .u16 (m : Int))]
  have b1 := hB.cons d1 [.lit (.int .u16 (m : Int))]
  have hst : szT t ≤ 1100000 := by
    simp only [List.append_nil] at hbulk
    have : szT t ≤ B d1 := hsz
    omega
  have hrun := cut_law se n h1 h2 h3 h4 W k m hk hm cs.toList t hrep hgood ev hc hie (fun v hv => sWrite_small hcost n.flex (v : Nat) hst)
  rw [← agg_toList] at hrun
  refine hrun.mono ?_
  rintro e W' ⟨rfl, hbel⟩
  exact ⟨_, rfl, row_post hl hrd hr (boolB_eq tb.bool) hv hW' hbel (by rw [List.append_nil]; exact hfn _ _ _)⟩

/-- The types of a law's arguments that are octets. -/
structure ArgOk (P : Program) (S : SN) : Prop where
  u8 : intTy P S.T.u8 .u8 = true
  u8s : sliceOf P S.T.u8s S.T.u8 = true
  cu8 : P.cellsOf S.T.u8 = 1
  bool : boolB P S.T.bool = true
def argB (P : Program) (S : SN) : List Bool := [intTy P S.T.u8 .u8, sliceOf P S.T.u8s S.T.u8, Nat.beq (P.cellsOf S.T.u8) 1, boolB P S.T.bool]
theorem arg_of {P : Program} {S : SN} (h : (argB P S).all id = true) : ArgOk P S := by
  simp only [argB, List.all_cons, List.all_nil, id_eq, Bool.and_true, Bool.and_eq_true, Nat.beq_eq] at h
  exact ⟨h.1, h.2.1, h.2.2.1, h.2.2.2⟩

theorem any_row (se : SeatA P K g S R G) (tb : ArgOk P S) (n : RL0) (h1 : (msgB P K g S R G n).all id = true) (h2 : (List.range (n.most + 1)).all (fun v => minOkF (v : Nat) (n.pl.flex (v : Nat)) n.pl.fs) = true) (h3 : isFn P n.f (cLawAny S n.fMax n.fAgain) 43 4 = true)
    {fn : Func} {s : ChangeSpec} (hB : BulkOk B BA) (hp : fn.params = #[S.T.u8, S.T.u8s]) (hr : fn.resultTypes = #[S.T.bool]) (hv : s.vars = []) (hl : laidOutB P = true) (hrd : fn.params.toList.all (fun t => P.readableRec t && decide (t < P.types.size)) = true)
    (hfn : ∀ d1 d2, s.fn H [d1, d2] = { results := [.lit (.bool true)], args := [d1, d2], vars := [] }) {W : World} {base : Nat} {args : Array Value} {ds gs : List (DataW H)} {before : List MemPlace}
    (hval : ∀ (j : Nat) t v, fn.params[j]? = some t → args[j]? = some v → Value.okWide P W .any base t v) (hW : DataW.Whole enc P fn.params.toList s.vars false W args.toList ds gs before) (hev : ∃ ev, W.cell? ⟨R.gErr, 0, none⟩ = some ev ∧ isErr ev) :
    Calls P n.f args W fun e W' => ∃ v, e = .returned v ∧ s.post enc P fn false true false false W args v W' := by
  have hW' := hW
  obtain ⟨p, q, hA, hV, rfl, hfz, hnd⟩ := hW
  have hg0 : gs = [] := by
    rw [hv] at hV
    cases gs with
    | nil => rfl
    | cons g gs => simp [DataW.TrodVars] at hV
  subst hg0
  rw [hp] at hA hval
  obtain ⟨v0, vs0, d0, ds0, p0, q0, hargs, rfl, rfl, t0, r0⟩ := trodAll_cons hA
  obtain ⟨v1, vs1, d1, ds1, p1, q1, hargs1, rfl, rfl, t1, r1⟩ := trodAll_cons r0
  obtain ⟨rfl, rfl, rfl⟩ := trodAll_nil r1
  subst hargs1
  obtain rfl : args = #[v0, v1] := by cases args; simp_all
  obtain ⟨a0, rfl, rfl, rfl, w0⟩ := open_int (intTy_eq tb.u8) (hval 0 S.T.u8 v0 rfl rfl) t0
  obtain ⟨k, rfl, hk⟩ := u8_range w0
  obtain ⟨a, len, cap, rfl⟩ := okWide_slice (sliceOf_eq tb.u8s) (hval 1 S.T.u8s v1 rfl rfl)
  obtain ⟨fuel, ht⟩ := t1
  obtain ⟨ad, l, c, hcs, hoA, hlc, hby, _⟩ := open_u8s tb.u8s tb.u8 tb.cu8 hB (cs := (Value.slice a len cap).cells.toList) (x := (d1, _)) ht
  have hcs' : Value.slice a len cap = .slice ad l.length c := by simpa [Value.cells] using hcs
  obtain ⟨ev, hc, hie⟩ := hev
  have hrun := any_law se n h1 h2 h3 W k hk ad l c hby ev hc hie
  rw [← hcs'] at hrun
  refine hrun.mono ?_
  rintro e W' ⟨rfl, hbel⟩
  exact ⟨_, rfl, row_post hl hrd hr (boolB_eq tb.bool) hv hW' hbel (by rw [List.append_nil]; exact hfn _ _)⟩
end
end
end Go.Kx
