/- The reader's contracts, all of them, out of one test of the program.
   sort.Slice at a slice of keys, from the shelf's contracts (hbig, htiny: given where the shelf's text is laid), the closure's code.
   The laws FnAgain.., FnCut.., FnAny..: all that the program must pass, as Boolean tests; from them the laws' runs.
   How much the reference writes of a tree: at most so often the tree's size. No condition.
   An argument's tree as it is read (DataW): it lies in memory as a tree, keys fit, its bulk is no less than its size. Conditions: the tables' facts (treeB), the bulk's equations (BulkOk).
   From the laws' runs to what a row says of them: arguments opened, read again behind the call. Conditions: the program's tests, the row's closed facts.
   Numbers with a point: appended, read. Conditions: the program's tests; what its two functions of the library without a text answer (extern). -/
import Derived.Test.YtmehkjdaeohblaaDoorKxL
import Derived.Shelf.GgSortFunc.Whole
import Derived.Shelf.GgSortFunc.Tiny
import Derived.ChangeSlices
import Derived.ChangeArms
import Derived.Carry
import Derived.OpenShut
import Derived.ChangeShapes
import Derived.FnData
namespace Go.Kx
open Go.RowKit
set_option linter.unusedVariables false
set_option linter.unusedSimpArgs false

def cI8 (R : RN) : MCode :=
  .sq (.rg [.mv 2 (.c (.int .i8 0))]) (.sq (.sq (.rg (headR R 1 (.int .i8 0))) (.cd 9 (failM R (.int .i8 0) 2 10) .sk))
    (.sq (.rg [.mv 16 (.t 0), .nc 17 16, .fa 18 R.tR 17 0, .ld 19 R.T.u8s 18, .iak 20 R.T.u8s 19 0, .ld 21 R.T.u8 20, .mv 3 (.t 21)])
    (.sq (.rg (nextR R 1 22)) (.sq (.rg [.mv 30 (.t 3), .cv 31 R.T.u8 R.T.i8 30, .mv 2 (.t 31)]) .rt))))

theorem wrap_sgn8 {x : Nat} (h : x < 256) : IntKind.i8.wrap (x : Int) = sgn 1 x := by
  unfold sgn
  simp [IntKind.wrap, IntKind.signed, IntKind.bits]
  split <;> omega

theorem i8_ok {P : Program} {R : RN} {f : Nat} (ok : ROK P R) (h8 : R.T.i8 ≠ 0) (hf : FnIs P f (cI8 R) 32 2) : RdC P f (dInt 1) (PlB (fun x => .int .i8 x) (fun n => -128 ≤ n ∧ n ≤ 127)) := by
  refine ⟨hf.ent, fun w rb sb st h hne => ?_⟩
  refine hf.runs (args := [.pointer (some ⟨rb, 0, none⟩)]) (by simp) (by omega) ?_
  refine RW.sq (RW.rg (RL.step MR.mv (RL.nil (RW.sq (head_ok (n := 1) ok h rfl (by omega) (by omega) (fun hlt ρ' w' g1 g2 g3 => ?_) (fun l hl hnl ρ1 hρ => ?_))))))
  · refine ⟨_, 0, none, rfl, g3, Got.failed (fun l hl => ?_), g2, g1, by omega, by omega⟩
    subst hl; exact Dec.map_none (Dec.map_none (takeN_none hlt))
  · subst hl
    obtain ⟨y, hy⟩ : ∃ y, l[0]? = some y := ⟨_, List.getElem?_eq_getElem (by omega)⟩
    obtain ⟨ad, c, r1, r2, r3, r4, r5⟩ := h
    obtain ⟨g, o, rfl, hc, hlt⟩ := byte_at r5 hy
    show RW P 32 _ _ ρ1 w
    have q0 : ρ1 0 = .pointer (some ⟨rb, 0, none⟩) := by rw [hρ 0 (by omega)]; rfl
    refine RW.sq (RW.rg (RL.step (MR.mv q0) (RL.step (MR.nc rfl) (RL.step (MR.fa rfl ok.f0) (RL.step (MR.ld rfl ok.ps (r1 0 _ rfl)) (RL.step (MR.iak (sz := 1) ok.tk.u8s ok.cu rfl hlt) (RL.step (MR.ld rfl ok.pu hc)
      (RL.step MR.mv (RL.nil ?_)))))))))
    refine RW.sq (RW.rg (next_ok ok ⟨_, c, r1, r2, r3, r4, r5⟩ hne hnl q0 (by omega) (by omega) fun ρ2 w2 k1 k2 k3 => ?_))
    refine RW.sq (RW.rg (RL.step (MR.mv (v := .int .u8 (y.toNat : Int)) (by show ρ2 3 = _; rw [k1 3 (by omega)]; rfl)) (RL.step (MR.cvI rfl ok.tk.u8i (ok.tk.i8 h8)) (RL.step MR.mv (RL.nil (RW.rt ?_))))))
    have hbv : beVal (l.take 1) = y.toNat := by
      cases l with
      | nil => simp at hy
      | cons a l => simp at hy; subst hy; simp [beVal]
    have hy8 := y.toNat_lt
    refine ⟨_, sgn 1 y.toNat, some (l.drop 1), rfl, k3, ?_, k2, ?_, ?_, ?_⟩
    · show dInt 1 l = _
      have := Dec.map_of (f := sgn 1) (Dec.map_of (f := beVal) (takeN_yes hnl))
      rw [hbv] at this
      exact this
    · show Value.int .i8 (IntKind.i8.wrap (y.toNat : Int)) = _
      rw [wrap_sgn8 (by omega)]
    · show (-128 : Int) ≤ sgn 1 y.toNat; unfold sgn; split <;> omega
    · show sgn 1 y.toNat ≤ 127; unfold sgn; split <;> omega

/-- Texts, lengths, tags; what has no contract yet is not there. -/
def rk2B (P : Program) (R : RN) (G : TG) : List Bool := [
  orNo R.str (isFn P R.str (cStr R) 11 2 && yes R.T.str && yes R.T.i16 && yes R.i16 && yes R.span),
  orNo R.cstr (isFn P R.cstr (cCStr R) 12 2 && yes R.T.str && yes R.T.u32 && yes R.uv && yes R.span),
  orNo R.nstr (isFn P R.nstr (cNStr R) 14 2 && yes R.T.str && yes R.T.i16 && yes R.i16 && yes R.span && zOneB P R.T.str && cellsB P R.T.str 1),
  orNo R.cnstr (isFn P R.cnstr (cCNStr R) 15 2 && yes R.T.str && yes R.T.u32 && yes R.uv && yes R.span && zOneB P R.T.str && cellsB P R.T.str 1),
  orNo R.alen (isFn P R.alen (cALen R) 21 2 && yes R.T.i32 && yes R.i32),
  orNo R.calen (isFn P R.calen (cCALen R) 23 2 && yes R.T.i32 && yes R.T.u32 && yes R.uv),
  orNo R.okf (isFn P R.okf (cOk R) 8 2), isFn P R.compl (cCompl R) 8 2,
  orNo G.fRead (isFnC P G.fRead (cReadTags R G) 24 2 G.tSt && isFn0 P G.fSet (cTagSet G) 21 && yes R.T.u32 && yes R.uv && yes R.span),
  orNo R.u16 (isFn P R.u16 (cNumU R 2 R.be16 .u16) 31 2 && yes R.be16 && yes R.T.u16),
  orNo R.i8 (isFn P R.i8 (cI8 R) 32 2 && yes R.T.i8), orNo R.byt (isFn P R.byt (cByt R) 13 2 && yes R.T.i32 && yes R.i32 && yes R.span), orNo R.cbyt (isFn P R.cbyt (cCByt R) 14 2 && yes R.T.u32 && yes R.uv && yes R.span), orNo R.nbyt (isFn P R.nbyt (cNByt R) 14 2 && yes R.T.i32 && yes R.i32 && yes R.span), orNo R.cnbyt (isFn P R.cnbyt (cCNByt R) 15 2 && yes R.T.u32 && yes R.uv && yes R.span),
  orNo R.uuid (isFnC P R.uuid (cUuidR R) 9 2 R.tA && yes R.span && arrOf P R.tA 16 R.T.u8 && rowTy P R.tA && cellsB P R.tA 16 && zeroIs P R.tA (List.replicate 16 (.int .u8 0)))]

/-- What is asked of the function that reads a number with a point, if the program has it. -/
def F64R (P : Program) (R : RN) : Prop := R.f64 ≠ 0 → ∀ flex, RdC P R.f64 (dP .f64 flex) (PrC .f64)
theorem f64r_none {P : Program} {R : RN} (h : R.f64 = 0) : F64R P R := fun e => absurd h e

theorem rd_u16 {P : Program} {R : RN} {G : TG} (h : (rkB P R G).all id = true) (e : R.be16 ≠ 0) (h16 : R.T.u16 ≠ 0) (hf : FnIs P R.u16 (cNumU R 2 R.be16 .u16) 31 2) : RdC P R.u16 (dNat 2) (PlB (fun x => .int .u16 (x : Nat)) (· < 65536)) := by
  simp only [rkB, List.all_cons, List.all_nil, id_eq, Bool.and_true, Bool.and_eq_true] at h
  obtain ⟨h1, h2, h3, _⟩ := h
  have ok := rok_of h1
  have hb := orNo_of h3 e
  simp only [Bool.and_eq_true] at hb
  have hbe : BeC P R.be16 2 .u16 := be_ok ok ku16 (ok.tk.u16 h16) (by omega) (FnIs.of hb.1)
  exact (numU_ok ok hbe (by omega) hf).c (fun l x r hd => dNat_lt hd) (by decide)

theorem nbz {n : Nat} {p : Prop} (e : Nat.beq n 0 = true) (hn : n ≠ 0) : p := absurd (Nat.eq_of_beq_eq_true e) hn

theorem rk_of {P : Program} {R : RN} {G : TG} (h : (rkB P R G).all id = true) (h2 : (rk2B P R G).all id = true) (hfl : F64R P R) : RKOK P R G := by
  have hh := h
  simp only [rkB, List.all_cons, List.all_nil, id_eq, Bool.and_true, Bool.and_eq_true] at hh
  obtain ⟨k1, k2, _, _, _, _, _, _, _, k10, _⟩ := hh
  have ok := rok_of k1
  have tg := tgr_of k2
  simp only [rk2B, List.all_cons, List.all_nil, id_eq, Bool.and_true, Bool.and_eq_true] at h2
  obtain ⟨t1, t2, t3, t4, t5, t6, t7, t8, t9, t10, z1, z2, z3, z4, z5, z6⟩ := h2
  refine ⟨ok, tg, fun k flex e => ?_, fun e => ?_, fun e => ?_, fun e => okf_ok ok (FnIs.of (orNo_of t7 e)), compl_ok ok (FnIs.of t8), fun e => ?_⟩
  · cases k <;> simp only [RN.fn] at e ⊢
    case i8 =>
      have := orNo_of z1 e
      simp only [Bool.and_eq_true] at this
      refine (i8_ok ok (yes_of this.2) (FnIs.of this.1)).map fun w F v x hx => ?_
      obtain ⟨rfl, a, b⟩ := hx
      exact ⟨rfl, rfl, rfl, x, rfl, rfl, a, b⟩
    case i16 =>
      refine (rd_i16 h e).map fun w F v x hx => ?_
      obtain ⟨rfl, a, b⟩ := hx
      exact ⟨rfl, rfl, rfl, x, rfl, rfl, a, b⟩
    case u16 =>
      have := orNo_of t10 e
      simp only [Bool.and_eq_true] at this
      refine (rd_u16 h (yes_of this.1.2) (yes_of this.2) (FnIs.of this.1.1)).map fun w F v x hx => ?_
      obtain ⟨rfl, a⟩ := hx
      exact ⟨rfl, rfl, rfl, _, rfl, rfl, by omega, by omega⟩
    case i32 =>
      refine (rd_i32 h e).map fun w F v x hx => ?_
      obtain ⟨rfl, a, b⟩ := hx
      exact ⟨rfl, rfl, rfl, x, rfl, rfl, a, b⟩
    case i64 =>
      refine (rd_i64 h e).map fun w F v x hx => ?_
      obtain ⟨rfl, a, b⟩ := hx
      exact ⟨rfl, rfl, rfl, x, rfl, rfl, a, b⟩
    case uuid =>
      have := orNo_of z6 e
      simp only [Bool.and_eq_true] at this
      obtain ⟨⟨⟨⟨⟨a1, a2⟩, a3⟩, a4⟩, a5⟩, a6⟩ := this
      exact uuid_ok ok a3 a4 a5 a6 (rd_span h (yes_of a2)) (FnIsC.of a1)
    case bool =>
      exact bool_ok ok flex (FnIs.of (orNo_of k10 e))
    case f64 =>
      exact hfl e flex
    case str =>
      cases flex <;> simp only [if_true, if_false, Bool.false_eq_true] at e ⊢
      · have := orNo_of t1 e
        simp only [Bool.and_eq_true] at this
        obtain ⟨⟨⟨⟨a1, a2⟩, a3⟩, a4⟩, a5⟩ := this
        exact str_ok ok (yes_of a2) (yes_of a3) (rd_i16 h (yes_of a4)) (rd_span h (yes_of a5)) (FnIs.of a1)
      · have := orNo_of t2 e
        simp only [Bool.and_eq_true] at this
        obtain ⟨⟨⟨⟨a1, a2⟩, a3⟩, a4⟩, a5⟩ := this
        exact cstr_ok ok (yes_of a2) (yes_of a3) (rd_uv h (yes_of a4)) (rd_span h (yes_of a5)) (FnIs.of a1)
    case nstr =>
      cases flex <;> simp only [if_true, if_false, Bool.false_eq_true] at e ⊢
      · have := orNo_of t3 e
        simp only [Bool.and_eq_true] at this
        obtain ⟨⟨⟨⟨⟨⟨a1, a2⟩, a3⟩, a4⟩, a5⟩, a6⟩, a7⟩ := this
        exact nstr_ok ok (yes_of a2) (yes_of a3) a6 a7 (rd_i16 h (yes_of a4)) (rd_span h (yes_of a5)) (FnIs.of a1)
      · have := orNo_of t4 e
        simp only [Bool.and_eq_true] at this
        obtain ⟨⟨⟨⟨⟨⟨a1, a2⟩, a3⟩, a4⟩, a5⟩, a6⟩, a7⟩ := this
        exact cnstr_ok ok (yes_of a2) (yes_of a3) a6 a7 (rd_uv h (yes_of a4)) (rd_span h (yes_of a5)) (FnIs.of a1)
    case byt =>
      cases flex <;> simp only [if_true, if_false, Bool.false_eq_true] at e ⊢
      · have := orNo_of z2 e
        simp only [Bool.and_eq_true] at this
        obtain ⟨⟨⟨a1, a2⟩, a3⟩, a4⟩ := this
        exact byt_ok ok (yes_of a2) (rd_i32 h (yes_of a3)) (rd_span h (yes_of a4)) (FnIs.of a1)
      · have := orNo_of z3 e
        simp only [Bool.and_eq_true] at this
        obtain ⟨⟨⟨a1, a2⟩, a3⟩, a4⟩ := this
        exact cbyt_ok ok (yes_of a2) (rd_uv h (yes_of a3)) (rd_span h (yes_of a4)) (FnIs.of a1)
    case nbyt =>
      cases flex <;> simp only [if_true, if_false, Bool.false_eq_true] at e ⊢
      · have := orNo_of z4 e
        simp only [Bool.and_eq_true] at this
        obtain ⟨⟨⟨a1, a2⟩, a3⟩, a4⟩ := this
        exact nbyt_ok ok (yes_of a2) (rd_i32S h (yes_of a3)) (rd_spanS h (yes_of a4)) (FnIs.of a1)
      · have := orNo_of z5 e
        simp only [Bool.and_eq_true] at this
        obtain ⟨⟨⟨a1, a2⟩, a3⟩, a4⟩ := this
        exact cnbyt_ok ok (yes_of a2) (rd_uvS h (yes_of a3)) (rd_spanS h (yes_of a4)) (FnIs.of a1)
  · have := orNo_of t5 e
    simp only [Bool.and_eq_true] at this
    exact alen_ok ok (yes_of this.1.2) (rd_i32 h (yes_of this.2)) (FnIs.of this.1.1)
  · have := orNo_of t6 e
    simp only [Bool.and_eq_true] at this
    obtain ⟨⟨⟨a1, a2⟩, a3⟩, a4⟩ := this
    exact calen_ok ok (yes_of a2) (yes_of a3) (rd_uv h (yes_of a4)) (FnIs.of a1)
  · have := orNo_of t9 e
    simp only [Bool.and_eq_true] at this
    obtain ⟨⟨⟨⟨a1, a2⟩, a3⟩, a4⟩, a5⟩ := this
    exact readTags_ok ok tg (yes_of a3) (rd_uv h (yes_of a4)) (rd_span h (yes_of a5)) (set_ok tg (FnIs0.of a2)) (FnIsC.of a1)
end Go.Kx
namespace Go.Kx
open Go.RowKit Go.Proofs Go.Shelf Go.Sort Go.Lib
set_option linter.unusedVariables false

section
variable {P : Program} {w : World} {T : IT} {K : EN}

theorem swo_nat : SWO (fun a b : Nat => decide (a < b)) :=
  ⟨fun x => by simp, fun x y z h1 h2 => by simp only [decide_eq_true_eq] at *; omega, fun x y z h1 h2 => by simp only [decide_eq_false_iff_not] at *; omega⟩

theorem frozen_cells {g o : Nat} {cur : Array Value} {U : Nat} (h : w.heap[g]? = some (.cells cur U (0, 0))) : w.frozen? ⟨g, o, none⟩ = false := by
  simp [World.frozen?, h]

theorem sort_fin {U g n : Nat} {cur : Array Value} {ks : List Nat} (hg : w.heap[g]? = some (.cells cur U (0, 0))) (hl : ks.length = n) (hr : w.rangeAt g 0 (ks.map u32V)) (ht : w.there g 0 n) (hgs : g < w.heap.size)
    {d' : Array Nat} (hp : PermIn 0 ks.toArray.size ks.toArray d') (hs : SortedIn (fun a b : Nat => decide (a < b)) 0 ks.toArray.size d') {m : Nat} {os : Array Obj} :
    ∃ ks' : List Nat, ks'.Perm ks ∧ ks'.Pairwise (fun x y => x ≤ y) ∧ (grow (putRow u32V (Sort.ahead w m) g 0 d') os).rangeAt g 0 (ks'.map u32V) ∧ (∃ cur', (grow (putRow u32V (Sort.ahead w m) g 0 d') os).heap[g]? = some (.cells cur' U (0, 0))) ∧ Fr (fun _ => False) g 0 n w (grow (putRow u32V (Sort.ahead w m) g 0 d') os) := by
  have hsz : d'.size = n := by rw [hp.1]; simpa using hl
  have hH : Holds u32V (Sort.ahead w m) g 0 ks.toArray := fun j hj => by
    have hj' : j < ks.length := by simpa using hj
    refine ⟨?_, frozen_cells hg⟩
    have := hr j (u32V ks[j]) (by rw [List.getElem?_map, List.getElem?_eq_getElem hj']; rfl)
    rw [cell?_ahead, this, getElem!_pos _ j hj]
    simp
  have hgp : g < (putRow u32V (Sort.ahead w m) g 0 d').heap.size := by rw [Go.Sort.size_putRow]; exact hgs
  have hcell : ∀ j, j < n → (grow (putRow u32V (Sort.ahead w m) g 0 d') os).cell? ⟨g, 0 + j, none⟩ = some (u32V d'[j]!) := fun j hj => by
    rw [cell?_grow _ _ _ hgp, cell?_putRow u32V _ g 0 _ _ hH (by rw [hsz]; simpa using hl.symm) j (by omega)]
  have hblk : ∃ cur', (grow (putRow u32V (Sort.ahead w m) g 0 d') os).heap[g]? = some (.cells cur' U (0, 0)) := by
    refine ⟨putCells u32V 0 d' cur, ?_⟩
    rw [heap_grow_old _ _ hgp]
    simp only [putRow, mapBlock, Array.getElem?_modify, heap_ahead, hg, if_true, Option.map_some, onCells]
  refine ⟨d'.toList, ?_, ?_, ?_, hblk, ?_⟩
  · have := hp.2.2
    rw [← hp.1] at this
    simp only [Array.extract_size] at this
    rw [hp.1, Array.extract_size] at this
    simpa using this
  · rw [List.pairwise_iff_getElem]
    intro i j hi hj hij
    have hi' : i < d'.size := by simpa using hi
    have hj' : j < d'.size := by simpa using hj
    have := hs i j (Nat.zero_le _) hij (by rw [← hp.1]; exact hj')
    rw [getElem!_pos _ i hi', getElem!_pos _ j hj'] at this
    have := of_decide_eq_false this
    simp only [Array.getElem_toList]
    omega
  · intro j u hu
    rw [List.getElem?_map] at hu
    by_cases hj : j < d'.size
    · rw [hcell j (by omega), ← hu]
      rw [List.getElem?_eq_getElem (by simpa using hj), getElem!_pos _ j hj]
      simp
    · rw [List.getElem?_eq_none (by simpa using hj)] at hu; simp at hu
  · have hcell2 : ∀ j, (0 + n ≤ j) → (grow (putRow u32V (Sort.ahead w m) g 0 d') os).cell? ⟨g, j, none⟩ = w.cell? ⟨g, j, none⟩ := fun j hj => by
      rw [cell?_grow _ _ _ hgp, cell?_putRow_other _ _ _ _ _ _ (.inr (.inr (by show 0 + d'.size ≤ j; omega)))]; rfl
    refine ⟨rfl, rfl, rfl, ?_, fun k h1 h2 _ => ?_, fun j hj => hcell2 j (by omega), fun o' n' h j hj => ?_⟩
    · rw [size_grow, Go.Sort.size_putRow]; simp
    · rw [heap_grow_old _ _ (by rw [Go.Sort.size_putRow]; exact h1)]
      simp only [putRow, mapBlock, Array.getElem?_modify, heap_ahead]
      rw [if_neg (by omega)]
    · obtain ⟨h1, h2⟩ := h j hj
      obtain ⟨cur', hc'⟩ := hblk
      refine ⟨?_, frozen_cells hc'⟩
      by_cases hj2 : o' + j < n
      · rw [show o' + j = 0 + (o' + j) by omega, hcell _ hj2]; rfl
      · rw [hcell2 _ (by omega)]; exact h1

theorem sort_ok {fSort tS U fLess : Nat} (te : TgE P K T) (hK1 : K.tKs = tS) (hK2 : K.tU32 = U) (hmo : P.follows .mixedOrders = true) (hl : FnIs P fLess (cLess K) 15 5) (ent : entersB P fSort = true)
    (hbig : ∀ (lb : Array Value) (blk off c : Nat) (d : Array Nat), 2 ≤ d.size → d.size < 4611686018427387904 → ∀ w : World, LessReads P fLess lb u32V (fun a b : Nat => decide (a < b)) blk off d.size w → Holds u32V w blk off d → blk < w.heap.size →
      Calls P fSort #[.iface tS (.slice (some ⟨blk, off, none⟩) d.size c), .func (.func fLess) #[] lb] w (fun e w' => e = .returned (.tuple #[]) ∧ ∃ d' n os, PermIn 0 d.size d d' ∧ SortedIn (fun a b : Nat => decide (a < b)) 0 d.size d' ∧ w' = grow (putRow u32V (Sort.ahead w n) blk off d') os))
    (htiny : ∀ (p : Option Addr) (n c : Nat), n ≤ 1 → ∀ (lf : Fn) (la lb : Array Value) (w : World), Calls P fSort #[.iface tS (.slice p n c), .func lf la lb] w (fun e w' => e = .returned (.tuple #[]) ∧ ∃ os, w' = grow w os)) : SortC P tS U fSort fLess := by
  subst hK1 hK2
  refine ⟨ent, fun w db g n c cur ks hdb hg hlen hn hkb hr ht hne hgs => ?_⟩
  subst hlen
  by_cases h2 : 2 ≤ ks.length
  · have hd2 : ks.toArray.size = ks.length := by simp
    have hH : Holds u32V w g 0 ks.toArray := fun j hj => by
      have hj' : j < ks.length := by simpa using hj
      refine ⟨?_, frozen_cells hg⟩
      have := hr j (u32V ks[j]) (by rw [List.getElem?_map, List.getElem?_eq_getElem hj']; rfl)
      rw [this, getElem!_pos _ j hj]
      simp
    have hdbs : db < w.heap.size := (Array.getElem?_eq_some_iff.1 hdb).1
    have hless : LessReads P fLess #[.pointer (some ⟨db, 0, none⟩)] u32V (fun a b : Nat => decide (a < b)) g 0 ks.toArray.size w := by
      intro m os dk hs i j hi hj
      have hcd : (sortWorld u32V w g 0 m dk os).cell? ⟨db, 0, none⟩ = some (.slice (some ⟨g, 0, none⟩) ks.length c) := by
        unfold sortWorld
        rw [cell?_grow _ _ _ (by rw [Go.Sort.size_putRow]; exact hdbs), cell?_putRow_other _ _ _ _ _ _ (.inl (fun e => hne e.symm)), cell?_ahead]
        simp [World.cell?, hdb]
      have hc : ∀ t, t < ks.length → (sortWorld u32V w g 0 m dk os).cell? ⟨g, 0 + t, none⟩ = some (u32V dk[t]!) := fun t ht => by
        unfold sortWorld
        rw [cell?_grow _ _ _ (by rw [Go.Sort.size_putRow]; exact hgs), cell?_putRow u32V _ g 0 _ _ (holds_ahead _ _ m _ _ _ hH) hs t (by rw [hs, hd2]; exact ht)]
      exact (less_ok (i := i) (j := j) te hmo hl hcd (by simpa using hi) (by simpa using hj) (hc i (by simpa using hi)) (hc j (by simpa using hj))).mono fun e w' he => ⟨he.1, 1, he.2⟩
    have h := hbig #[.pointer (some ⟨db, 0, none⟩)] g 0 c ks.toArray (by simpa using h2) (by rw [hd2]; omega) w hless hH hgs
    rw [hd2] at h
    refine h.mono ?_
    rintro e w' ⟨he, d', m, os, hp, hso, rfl⟩
    exact ⟨he, sort_fin hg rfl hr ht hgs (by rw [hd2]; exact hp) (by rw [hd2]; exact hso)⟩
  · refine (htiny (some ⟨g, 0, none⟩) ks.length c (by omega) (.func fLess) #[] #[.pointer (some ⟨db, 0, none⟩)] w).mono ?_
    rintro e w' ⟨he, os, rfl⟩
    have hH : Holds u32V w g 0 ks.toArray := fun j hj => by
      have hj' : j < ks.length := by simpa using hj
      refine ⟨?_, frozen_cells hg⟩
      have := hr j (u32V ks[j]) (by rw [List.getElem?_map, List.getElem?_eq_getElem hj']; rfl)
      rw [this, getElem!_pos _ j hj]
      simp
    have e0 : grow w os = grow (putRow u32V (Sort.ahead w 0) g 0 ks.toArray) os := by rw [ahead_zero, putRow_self _ _ _ _ _ hH]
    refine ⟨he, ?_⟩
    rw [e0]
    refine sort_fin hg rfl hr ht hgs ⟨rfl, fun _ _ => rfl, List.Perm.refl _⟩ (fun i j _ h1 h2 => ?_)
    have : ks.toArray.size = ks.length := by simp
    omega
end
end Go.Kx
namespace Go.Kx
open Go.RowKit
set_option linter.unusedSimpArgs false
set_option linter.unusedVariables false

/-- The numbers of the functions that say whether a tree's sizes fit. -/
structure FTN where
  f2 : Nat
  f3 : Nat
  f4 : Nat

/-- Beside seatB: the reader's functions, the tags', the reference's over trees with tags. -/
def seat2B (P : Program) (K : KB) (g : TN) (S : SN) (R : RN) (G : TG) (E : EN) (Z : FTN) : List Bool := [(rkB P R G).all id, (rk2B P R G).all id, bytesLe P S.tg 1000,
  isFn0 P E.fCb (cCb K.T K.uv) 16, isFn0 P g.fEach (cEachF E) 53, Nat.beq g.fCb E.fCb, !(Nat.beq K.T.u8 K.T.u8s), !(Nat.beq E.tU32 K.T.u8), cellsB P K.T.u8s 1, yes K.T.u32, yes K.uv,
  mapU P E.tMap, mapTy P E.tMap, plainTy P E.tMap, fieldAtB P E.tSt 0 0, sliceOf P E.tKs E.tU32, u32B P E.tU32, nilSB P E.tKs, cellsB P E.tKs 1, plainTy P E.tKs, plainTy P E.tU32, cellsB P E.tU32 1, intTy P E.tInt .i64, !(Nat.beq E.tU32 E.tKs),
  isFn P Z.f4 (cFits4 S) 7 2, isFn P Z.f3 (cFits3 S Z.f4) 18 2, isFn P Z.f2 (cFits2 S Z.f3) 15 2]

/-- What the laws FnAny.. rest on: they reach less of the reference. -/
def seatAB (P : Program) (K : KB) (g : TN) (S : SN) (R : RN) (G : TG) (E : EN) : List Bool := [(rkB P R G).all id, (rk2B P R G).all id, (kbOk P K).all id, tokB P S.T, P.follows .mixedOrders, plainTy P S.T.u8,
  isFn0 P E.fCb (cCb K.T K.uv) 16, isFn0 P g.fEach (cEachF E) 53, Nat.beq g.fCb E.fCb, !(Nat.beq K.T.u8 K.T.u8s), !(Nat.beq E.tU32 K.T.u8), cellsB P K.T.u8s 1, yes K.T.u32, yes K.uv,
  mapU P E.tMap, mapTy P E.tMap, plainTy P E.tMap, fieldAtB P E.tSt 0 0, sliceOf P E.tKs E.tU32, u32B P E.tU32, nilSB P E.tKs, cellsB P E.tKs 1, plainTy P E.tKs, plainTy P E.tU32, cellsB P E.tU32 1, intTy P E.tInt .i64, !(Nat.beq E.tU32 E.tKs),
  mapTy P g.tMap, plainTy P g.tMap, plainTy P K.T.u8s, fieldAtB P g.tSt 0 0, isFn P g.fLen (cTLen g) 8 2, isFn0 P g.fEach (cEach g K.T.int) 53, isFn P g.fTeach (cTeach g K.T) 9 4,
  isFn P S.fSame (cSame S) 26 4, orNo S.fVer (isFn P S.fVer (cVer S) 10 4), yes K.T.i16, cellsB P K.T.i16 1, Nat.beq K.T.u8 S.T.u8]

/-- Numbers with a point: what is asked of their two functions. -/
def FlOk (P : Program) (K : KB) (R : RN) : Prop := F64W P K ∧ F64R P R
theorem fl_none {P : Program} {K : KB} {R : RN} (h1 : K.f64 = 0) (h2 : R.f64 = 0) : FlOk P K R := ⟨f64w_none h1, f64r_none h2⟩

structure SeatA (P : Program) (K : KB) (g : TN) (S : SN) (R : RN) (G : TG) : Prop where
  kk : KOK P K
  ok : SOK0 P S
  same : SameC P S.fSame
  ver : S.fVer ≠ 0 → VerC P S.fVer
  h16 : K.T.i16 ≠ 0
  c16 : cellsB P K.T.i16 1 = true
  u8 : K.T.u8 = S.T.u8
  rk : RKOK P R G
  ao : AOK P (K.ia g) okTags

structure Seat2 (P : Program) (K : KB) (g : TN) (S : SN) (R : RN) (G : TG) (E : EN) (Z : FTN) : Prop where
  se : Seat P K g S
  rk : RKOK P R G
  sp : SPC P S keysOk
  ao : AOK P (K.ia g) okTags
  fits : FitsC P Z.f2

theorem tge_of {P : Program} {E : EN} {T : IT} (h1 : mapU P E.tMap = true) (h2 : mapTy P E.tMap = true) (h3 : plainTy P E.tMap = true) (h4 : fieldAtB P E.tSt 0 0 = true) (h5 : sliceOf P E.tKs E.tU32 = true) (h6 : u32B P E.tU32 = true) (h7 : nilSB P E.tKs = true)
    (h8 : cellsB P E.tKs 1 = true) (h9 : plainTy P E.tKs = true) (h10 : plainTy P E.tU32 = true) (h11 : cellsB P E.tU32 1 = true) (h12 : intTy P E.tInt .i64 = true) (h13 : E.tU32 ≠ E.tKs) : TgE P E T := ⟨h1, h2, h3, h4, h5, h6, h7, h8, h9, h10, h11, h12, h13⟩

theorem nbeq {a b : Nat} (h : (!(Nat.beq a b)) = true) : a ≠ b := fun e => by subst e; simp at h

section
variable {P : Program} {K : KB} {g : TN} {S : SN} {R : RN} {G : TG} {E : EN} {Z : FTN}

theorem te_of (h2 : (seat2B P K g S R G E Z).all id = true) : TgE P E K.T := by
  simp only [seat2B, List.all_cons, List.all_nil, id_eq, Bool.and_true, Bool.and_eq_true] at h2
  obtain ⟨a1, a2, a3, a4, a5, a6, a7, a8, a9, a10, a11, b1, b2, b3, b4, b5, b6, b7, b8, b9, b10, b11, b12, b13, c1, c2, c3⟩ := h2
  exact tge_of b1 b2 b3 b4 b5 b6 b7 b8 b9 b10 b11 b12 (nbeq b13)

theorem seat2_of (h : (seatB P K g S).all id = true) (h2 : (seat2B P K g S R G E Z).all id = true) (hso : SortC P E.tKs E.tU32 E.fSort E.fLess) (hfl : FlOk P K R) : Seat2 P K g S R G E Z := by
  have se := seat_of h hfl.1
  simp only [seat2B, List.all_cons, List.all_nil, id_eq, Bool.and_true, Bool.and_eq_true] at h2
  obtain ⟨a1, a2, a3, a4, a5, a6, a7, a8, a9, a10, a11, b1, b2, b3, b4, b5, b6, b7, b8, b9, b10, b11, b12, b13, c1, c2, c3⟩ := h2
  have te : TgE P E K.T := tge_of b1 b2 b3 b4 b5 b6 b7 b8 b9 b10 b11 b12 (nbeq b13)
  have hcb : CbC P K.T E.fCb := cb_ok se.kk.tk (nbeq a7) a9 se.tg.plu (yes_of a10) (se.kk.uvg (yes_of a11)) (FnIs0.of a4)
  have hte : TeachC P K.T.u8 g.fTeach smallT := teach_ok (fEach := 0) se.kk.tk te (nbeq a7) (nbeq a8) se.tg.plu hcb hso (FnIs0.of a5) (by simpa using a6) se.tg.teach
  have hunk : FnIs P S.fUnk (cUnk S) 85 4 := by
    simp only [seatB, List.all_cons, List.all_nil, id_eq, Bool.and_true, Bool.and_eq_true] at h
    obtain ⟨h1, h2, h3, h4, h5, h6, h7, h8, h9, h10, h11, h12, h13, h14, h15, h16, h17, h18, h19, h20, h21, h22, h23, h24, h25, h26, h27, h28, h29, h30, h31, h32⟩ := h
    exact FnIs.of h20
  exact {
    se := se
    rk := rk_of a1 a2 hfl.2
    sp := sp_tags se.sp a3 hunk
    ao := aok_tags se.kk (tlen_ok se.tg) hte
    fits := ⟨(FnIs.of c3).ent, fun w cs t hr => fits2_ok se.ok (FnIs.of c1) (FnIs.of c2) (FnIs.of c3) w cs t hr⟩ }

theorem Seat2.a (se : Seat2 P K g S R G E Z) : SeatA P K g S R G := ⟨se.se.kk, se.se.ok.z, se.se.same, se.se.ver, se.se.h16, se.se.c16, se.se.u8, se.rk, se.ao⟩

theorem teA_of (h2 : (seatAB P K g S R G E).all id = true) : TgE P E K.T := by
  simp only [seatAB, List.all_cons, List.all_nil, id_eq, Bool.and_true, Bool.and_eq_true] at h2
  obtain ⟨a1, a2, a3, s1, s2, s3, a4, a5, a6, a7, a8, a9, a10, a11, b1, b2, b3, b4, b5, b6, b7, b8, b9, b10, b11, b12, b13, _⟩ := h2
  exact tge_of b1 b2 b3 b4 b5 b6 b7 b8 b9 b10 b11 b12 (nbeq b13)

theorem seatA_of (h2 : (seatAB P K g S R G E).all id = true) (hso : SortC P E.tKs E.tU32 E.fSort E.fLess) (hfl : FlOk P K R) : SeatA P K g S R G := by
  have te := teA_of h2
  simp only [seatAB, List.all_cons, List.all_nil, id_eq, Bool.and_true, Bool.and_eq_true] at h2
  obtain ⟨a1, a2, a3, s1, s2, s3, a4, a5, a6, a7, a8, a9, a10, a11, b1, b2, b3, b4, b5, b6, b7, b8, b9, b10, b11, b12, b13, c1, c2, c3, c4, c5, c6, c7, d1, d2, d3, d4, d5⟩ := h2
  have kk := kok_of a3 hfl.1
  have ok : SOK0 P S := ⟨tok_of s1, s2, s3⟩
  have tg : TgOK P g K.T := ⟨kk.tk, c1, c2, c3, c4, FnIs.of c5, FnIs0.of c6, FnIs.of c7⟩
  have hcb : CbC P K.T E.fCb := cb_ok kk.tk (nbeq a7) a9 tg.plu (yes_of a10) (kk.uvg (yes_of a11)) (FnIs0.of a4)
  have hte : TeachC P K.T.u8 g.fTeach smallT := teach_ok (fEach := 0) kk.tk te (nbeq a7) (nbeq a8) tg.plu hcb hso (FnIs0.of a5) (by simpa using a6) tg.teach
  exact ⟨kk, ok, same_ok ok (FnIs.of d1), fun e => ver_ok ok (FnIs.of (orNo_of d2 e)), yes_of d3, d4, by simpa using d5, rk_of a1 a2 hfl.2, aok_tags kk (tlen_ok tg) hte⟩

/-- A law that reads a message: its functions' numbers, the plan, a new message's cells. -/
structure RL0 where
  f : Nat
  fMax : Nat
  fSpec : Nat
  fAgain : Nat
  fPtr : Nat
  fDef : Nat
  fMv : Nat
  fSet : Nat
  fAp : Nat
  fRd : Nat
  fRF : Nat
  tErr : Nat
  most : Nat
  L : Nat
  N : Nat
  LR : Nat
  NR : Nat
  pl : Plan
  zs : List MVal
  df : Dfs
  sx : SxL
  flex : Int

def msgB (P : Program) (K : KB) (g : TN) (S : SN) (R : RN) (G : TG) (n : RL0) : List Bool := [isFn P n.fMax (cMax K.T n.fPtr n.fMv) 4 0, isFn P n.fMv (cMv n.most) 3 2, Nat.blt n.most 32768,
  isFn P n.fPtr (cPtr n.pl.T n.fDef) 3 0, zeroIs P n.pl.T n.zs, isFn0 P n.fDef (rows (genD 0 n.df (defT0 n.df) 2).1) (genD 0 n.df (defT0 n.df) 2).2.1, okD P n.zs.length n.df 0, Nat.ble (genD 0 n.df (defT0 n.df) 2).2.2 (defT0 n.df),
  isFn0 P n.fSet (cSet K.T n.pl.T) 8, fieldAtB P n.pl.T 0 0, isFn P n.fAp (topA (K.ia g) n.pl n.L) n.N 4, okTop P (K.ia g) n.pl n.L n.N, firstZero (putM n.df 0 n.zs),
  isFn2 P n.fAgain (cAgain K.T n.tErr n.fPtr n.fSet n.fRd n.fAp) 19 4 5, isFn P n.fRd (cReadFrom n.fRF) 8 4, isFn P n.fRF (cRF R G n.pl n.fDef n.LR).1 n.NR 6, (rfB P R G n.pl n.fDef n.df (putM n.df 0 n.zs).tail n.LR n.NR).all id, ifaceTy P n.tErr, yes S.fVer]

theorem msg_of (se : SeatA P K g S R G) {n : RL0} (h : (msgB P K g S R G n).all id = true) : MaxC P n.fMax n.most ∧ AgainC P S.T.u8 n.fAgain R.gErr n.most n.pl ∧ n.most < 32768 ∧ S.fVer ≠ 0 := by
  simp only [msgB, List.all_cons, List.all_nil, id_eq, Bool.and_true, Bool.and_eq_true] at h
  obtain ⟨h1, h2, h3, h4, h5, h6, h7, h8, h9, h10, h11, h12, h13, h14, h15, h16, h17, h18, h19⟩ := h
  simp only [Nat.blt_eq, Nat.ble_eq] at h3 h8
  have hm : n.most < 32768 := h3
  obtain ⟨rest, hrest⟩ : ∃ rest, putM n.df 0 n.zs = .int .i16 0 :: rest := by
    cases hq : putM n.df 0 n.zs with
    | nil => rw [hq] at h13; simp [firstZero] at h13
    | cons m r =>
      rw [hq] at h13
      cases m <;> try (simp [firstZero] at h13; done)
      rename_i kk nn
      cases kk <;> try (simp [firstZero] at h13; done)
      simp only [firstZero] at h13
      rw [sameInt_eq h13]; exact ⟨r, rfl⟩
  have hcs : putD n.df 0 (n.zs.map MVal.val) = .int .i16 0 :: rest.map MVal.val := by rw [← putM_val, hrest]; rfl
  have hdef : DefC P n.fDef (n.zs.map MVal.val) (.int .i16 0 :: rest.map MVal.val) := by
    rw [← hcs]
    exact defC_of (defD_of (n := n.zs.length) (FnIs0.of h6) h7 h8) (by simp)
  have hlen : (Value.int .i16 0 :: rest.map MVal.val).length = (n.zs.map MVal.val).length := by rw [← hcs, putD_len]
  have hptr : PtrC P n.fPtr (.int .i16 0 :: rest.map MVal.val) := ptr_of (FnIs.of h4) (zeroIs_of h5) hdef hlen
  rw [hrest] at h17
  have hrf := rf_of se.rk h17 (FnIs.of h16)
  refine ⟨max_of se.kk.tk se.h16 (FnIs.of h1) hptr (FnIs.of h2) hm, ?_, hm, yes_of h19⟩
  rw [← se.u8]
  exact again_ok se.kk se.ao se.h16 se.c16 h18 hm (FnIs2.of h14) hptr (FnIs0.of h9) h10 (FnIs.of h15) hrf (FnIs.of h11) h12

def specB (P : Program) (S : SN) (n : RL0) : List Bool := [isFnC P n.fSpec (cSpec S (toSF n.sx) n.flex) ((genSF S.fd (toSF n.sx) 1).2.2 + 2) 0 S.msg, okS P S n.sx, !n.sx.isNil, Nat.ble (toFds n.sx).toList.length 1000, plainFds (toFds n.sx), mTopB n.pl (toFds n.sx) n.flex n.most]

theorem spec2_of (se : Seat2 P K g S R G E Z) {n : RL0} (h : (specB P S n).all id = true) : SpecC P n.fSpec (toFds n.sx) n.flex ∧ WriteC P S keysOk (toFds n.sx) ∧ mTopB n.pl (toFds n.sx) n.flex n.most = true := by
  simp only [specB, List.all_cons, List.all_nil, id_eq, Bool.and_true, Bool.and_eq_true] at h
  obtain ⟨h15, h16, h17, h18, h19, h20⟩ := h
  simp only [Nat.ble_eq] at h18
  have hne : toFds n.sx ≠ .nil := by
    intro e
    cases hx : n.sx with
    | nil => rw [hx] at h17; simp [SxL.isNil] at h17
    | cons x r => rw [hx] at e; unfold toFds at e; cases e
  exact ⟨spec_of (flex := n.flex) se.se.ok (FnIsC.of h15) (okS_of se.se.ok n.sx h16) hne h18, write_of se.sp se.se.wr (fs := toFds n.sx) h19 (by omega), h20⟩

/-- A law FnAgain.. -/
theorem again_law (se : Seat2 P K g S R G E Z) (n : RL0) (h1 : (msgB P K g S R G n).all id = true) (h2 : (specB P S n).all id = true) (h3 : isFn P n.f (cLawAgain S Z.f2 n.fMax n.fSpec n.fAgain) 35 4 = true)
    (w : World) (k : Nat) (hk : k < 256) (ct : List Value) (t : Tr) (hrt : RepTr w t ct) (hg : goodT keysOk t) (ev : Value) (hev : w.cell? ⟨R.gErr, 0, none⟩ = some ev) (herr : isErr ev) (hlen : ∀ v, v ≤ n.most → (sWrite (toFds n.sx) n.flex (v : Nat) t).length ≤ 274877906944) :
    Calls P n.f #[.int .u8 k, .agg ct.toArray] w (fun e w' => e = .returned (.bool true) ∧ Below w.heap.size w w') := by
  obtain ⟨hmax, hag, hm, hv0⟩ := msg_of se.a h1
  obtain ⟨hspec, hwr, hmt⟩ := spec2_of se h2
  exact law_again se.sp (FnIs.of h3) se.fits hwr se.se.wr.ent se.se.same (se.se.ver hv0) hmax hspec hag hm w k hk ct t hrt hg ev hev herr (fun v hv => ⟨hlen v hv, againTop hmt hv hg⟩)

/-- A law FnCut.. -/
theorem cut_law (se : Seat2 P K g S R G E Z) (n : RL0) (h1 : (msgB P K g S R G n).all id = true) (h2 : (specB P S n).all id = true) (h3 : isFn P n.f (cLawCut S Z.f2 n.fMax n.fSpec n.fAgain) 56 6 = true) (h4 : yes S.T.u16 = true)
    (w : World) (k mc : Nat) (hk : k < 256) (hmc : mc < 65536) (ct : List Value) (t : Tr) (hrt : RepTr w t ct) (hg : goodT keysOk t) (ev : Value) (hev : w.cell? ⟨R.gErr, 0, none⟩ = some ev) (herr : isErr ev) (hlen : ∀ v, v ≤ n.most → (sWrite (toFds n.sx) n.flex (v : Nat) t).length ≤ 274877906944) :
    Calls P n.f #[.int .u8 k, .agg ct.toArray, .int .u16 (mc : Nat)] w (fun e w' => e = .returned (.bool true) ∧ Below w.heap.size w w') := by
  obtain ⟨hmax, hag, hm, hv0⟩ := msg_of se.a h1
  obtain ⟨hspec, hwr, hmt⟩ := spec2_of se h2
  refine law_cut se.sp (FnIs.of h3) (yes_of h4) se.fits hwr se.se.wr.ent se.se.same (se.se.ver hv0) hmax hspec hag hm w k mc hk hmc ct t hrt hg ev hev herr (fun v hv => ⟨hlen v hv, againTop hmt hv hg⟩) (fun v j hv hj => ?_)
  refine cut_plain hmt hv hg (m := (sWrite (toFds n.sx) n.flex (v : Nat) t).drop j) (List.take_append_drop _ _).symm ?_
  intro e
  have := congrArg List.length e
  simp at this
  omega

/-- A law FnAny.. -/
theorem any_law (se : SeatA P K g S R G) (n : RL0) (h1 : (msgB P K g S R G n).all id = true) (h2 : (List.range (n.most + 1)).all (fun v => minOkF (v : Nat) (n.pl.flex (v : Nat)) n.pl.fs) = true) (h3 : isFn P n.f (cLawAny S n.fMax n.fAgain) 43 4 = true)
    (w : World) (k : Nat) (hk : k < 256) (ad : Option Addr) (l : List UInt8) (c : Nat) (hby : BytesAt w (fun _ => True) ad l) (ev : Value) (hev : w.cell? ⟨R.gErr, 0, none⟩ = some ev) (herr : isErr ev) :
    Calls P n.f #[.int .u8 k, .slice ad l.length c] w (fun e w' => e = .returned (.bool true) ∧ Below w.heap.size w w') := by
  obtain ⟨hmax, hag, hm, hv0⟩ := msg_of se h1
  refine law_any se.ok (FnIs.of h3) se.same (se.ver hv0) hmax hag hm w k hk ad l c hby ev hev herr (fun v hv hl ds ts r hd => ?_)
  have hmin : minOkF (v : Nat) (n.pl.flex (v : Nat)) n.pl.fs = true := List.all_eq_true.1 h2 v (List.mem_range.2 (by omega))
  obtain ⟨a1, a2, a3, a4⟩ := decTop_some hmin hd (by omega)
  obtain ⟨ds', ts', b1, b2⟩ := anyTop hmin hd (by omega)
  have hle : (encTop n.pl (v : Nat) ds ts).length ≤ 32767 := by omega
  obtain ⟨c1, c2, c3, c4⟩ := decTop_some hmin b1 hle
  exact ⟨a2, a3, by omega, ds', ts', b1, b2, c2, c3⟩
end
end Go.Kx
namespace Go.Kx
set_option linter.unusedVariables false

def szU : List (Nat × List UInt8) → Nat
  | [] => 0
  | x :: r => 1 + x.2.length + szU r
mutual
def szT : Tr → Nat
  | .mk _ s _ l u => 1 + s.length + szTs l + szU u
def szTs : Trs → Nat
  | .nil => 0
  | .cons t r => szT t + szTs r
end

theorem szT_pos : ∀ t : Tr, 1 ≤ szT t
  | .mk _ _ _ _ _ => by unfold szT; omega
theorem szTs_sum : ∀ l : Trs, szTs l = (l.toList.map szT).sum
  | .nil => by unfold szTs; rfl
  | .cons t r => by unfold szTs Trs.toList; rw [List.map_cons, List.sum_cons, szTs_sum r]
theorem szT_l (t : Tr) : (t.l.map szT).sum ≤ szT t := by
  cases t with
  | mk n s b l u =>
    show (l.toList.map szT).sum ≤ _
    unfold szT
    rw [← szTs_sum l]; omega
theorem szT_s (t : Tr) : 1 + t.s.length ≤ szT t := by
  cases t with
  | mk n s b l u => unfold szT; show 1 + s.length ≤ _; omega
theorem szT_u (t : Tr) : szU t.u ≤ szT t := by
  cases t with
  | mk n s b l u => unfold szT; show szU u ≤ _; omega
theorem mem_sum {l : List Tr} {x : Tr} (h : x ∈ l) : szT x ≤ (l.map szT).sum := by
  induction l with
  | nil => simp at h
  | cons y l ih =>
    rw [List.map_cons, List.sum_cons]
    simp only [List.mem_cons] at h
    rcases h with rfl | h
    · omega
    · have := ih h; omega
theorem take_sum (k : Nat) : ∀ (l : List Tr), ((l.take k).map szT).sum ≤ (l.map szT).sum := by
  induction k with
  | zero => intro l; simp
  | succ k ih =>
    intro l
    cases l with
    | nil => simp
    | cons y l => rw [List.take_succ_cons, List.map_cons, List.sum_cons, List.map_cons, List.sum_cons]; have := ih l; omega
theorem szT_at (t : Tr) (i : Nat) : szT (t.l.getD i .zero) ≤ szT t := by
  rw [List.getD_eq_getElem?_getD]
  cases h : t.l[i]? with
  | none => simp only [Option.getD_none]; have := szT_pos t; have : szT .zero = 1 := rfl; omega
  | some x => simp only [Option.getD_some]; exact Nat.le_trans (mem_sum (List.mem_of_getElem? h)) (szT_l t)

theorem uvb_le : ∀ (j n : Nat), (uvb j n).length ≤ j + 1
  | 0, n => by simp [uvb]
  | j + 1, n => by
    unfold uvb
    split
    · simp
    · rw [List.length_cons]; have := uvb_le j (n / 128); omega
theorem uv_le (n : Nat) : (uv n).length ≤ 10 := uvb_le 9 n
theorem cnt_le (flex : Bool) (k n : Nat) (hk : k ≤ 10) : (cnt flex k n).length ≤ 10 := by
  unfold cnt
  split
  · exact uv_le _
  · rw [fix_len]; exact hk
theorem sCnt_le (flex null : Bool) (n k : Nat) (hk : k ≤ 10) : (sCnt flex null n k).length ≤ 10 := by
  unfold sCnt
  split
  · rw [cntNull_len]; split <;> omega
  · exact cnt_le _ _ _ hk

theorem szU_ins (t : Nat × List UInt8) : ∀ (xs : List (Nat × List UInt8)), szU (insTag t xs) ≤ 1 + t.2.length + szU xs
  | [] => by simp [insTag, szU]
  | x :: xs => by
    have := szU_ins t xs
    unfold insTag
    split
    · simp only [szU]; omega
    · split
      · simp only [szU]; omega
      · simp only [szU]; omega
theorem szU_fold {least : Nat} : ∀ (l out : List (Nat × List UInt8)), szU (l.foldl (fun out t => if t.1 < least then out else insTag t out) out) ≤ szU out + szU l
  | [], out => by simp [szU]
  | t :: l, out => by
    rw [List.foldl_cons]
    refine Nat.le_trans (szU_fold l _) ?_
    simp only [szU]
    split
    · omega
    · have := szU_ins t out; omega
theorem szU_take : ∀ (k : Nat) (l : List (Nat × List UInt8)), szU (l.take k) ≤ szU l
  | 0, l => by simp [szU]
  | k + 1, [] => by simp
  | k + 1, x :: l => by rw [List.take_succ_cons]; simp only [szU]; have := szU_take k l; omega
theorem szU_unk (least : Nat) (l : List (Nat × List UInt8)) : szU (sUnk least l) ≤ szU l := by
  unfold sUnk
  refine Nat.le_trans (szU_fold _ _) ?_
  have := szU_take most l
  simp only [szU]; omega
theorem sTag_le (t : Nat × List UInt8) : (sTag t).length ≤ 20 * (1 + t.2.length) := by
  unfold sTag
  have h1 := uv_le t.1
  have h2 := uv_le (t.2.take most).length
  have h3 : (t.2.take most).length ≤ t.2.length := by rw [List.length_take]; omega
  simp only [List.length_append] at *
  omega
theorem flat_tags : ∀ (l : List (Nat × List UInt8)), (l.flatMap sTag).length ≤ 20 * szU l
  | [] => by simp
  | x :: l => by
    have h1 := flat_tags l
    have h2 := sTag_le x
    rw [List.flatMap_cons, List.length_append]
    simp only [szU]; omega
theorem sTags_le (flex : Bool) (t : Tr) : (sTags flex t).length ≤ 30 * szT t := by
  unfold sTags
  split
  · have h1 := uv_le (sUnk 0 t.u).length
    have h2 := flat_tags (sUnk 0 t.u)
    have h3 := szU_unk 0 t.u
    have h4 := szT_u t
    have h5 := szT_pos t
    rw [List.length_append]; omega
  · simp

mutual
def costF : Fd → Nat
  | .mk _ _ _ _ _ _ _ sub => 60 + costs sub
def costs : Fds → Nat
  | .nil => 0
  | .cons f r => costF f + costs r
end

theorem sWid_le (kind : Int) : sWid kind ≤ 8 := by unfold sWid; split <;> (try omega); split <;> (try omega); split <;> omega

theorem sVal_le {kind : Int} {part : Tr → List UInt8} {null flex : Bool} {t : Tr} {K : Nat} (h : (part t).length ≤ K * szT t) : (sVal kind part null flex t).length ≤ (16 + K) * szT t := by
  have h5 := szT_pos t
  have h6 := szT_s t
  have e : (16 + K) * szT t = 16 * szT t + K * szT t := Nat.add_mul _ _ _
  have h7 : (if null then [] else t.s.take most).length ≤ t.s.length := by
    split
    · simp
    · rw [List.length_take]; omega
  unfold sVal
  split
  · simp; omega
  · split
    · rw [List.length_take]; omega
    · split
      · rw [List.length_append]; have := sCnt_le flex null (if null then [] else t.s.take most).length 2 (by omega); omega
      · split
        · rw [List.length_append]; have := sCnt_le flex null (if null then [] else t.s.take most).length 4 (by omega); omega
        · split
          · omega
          · rw [fix_len]; have := sWid_le kind; omega

theorem flat_le {e : Tr → List UInt8} {K : Nat} : ∀ {l : List Tr}, (∀ x ∈ l, (e x).length ≤ K * szT x) → (l.flatMap e).length ≤ K * (l.map szT).sum
  | [], _ => by simp
  | x :: l, h => by
    rw [List.flatMap_cons, List.length_append, List.map_cons, List.sum_cons, Nat.mul_add]
    have h1 := h x List.mem_cons_self
    have h2 := flat_le (l := l) fun y hy => h y (List.mem_cons_of_mem _ hy)
    omega

section
variable (ver : Int) (flex : Bool)
mutual
theorem sField_le : ∀ (f : Fd) (t : Tr), (sField ver flex f t).length ≤ costF f * szT t
  | .mk kind fr to nul tag df of sub, t => by
    have hp : ∀ t : Tr, (sPlain ver flex sub 0 t ++ sTags flex t).length ≤ (costs sub + 30) * szT t := fun t => by
      rw [List.length_append, Nat.add_mul]
      have := sPlain_le sub 0 t
      have := sTags_le flex t
      omega
    have h5 := szT_pos t
    have e1 : costF (.mk kind fr to nul tag df of sub) = 60 + costs sub := by unfold costF; rfl
    rw [e1, sField]
    have e2 : (60 + costs sub) * szT t = 60 * szT t + costs sub * szT t := Nat.add_mul _ _ _
    split
    · rw [List.length_append]
      have h1 := sCnt_le flex (sNull nul ver t.null) (if sNull nul ver t.null then [] else t.l.take most).length 4 (by omega)
      have h2 : ((if sNull nul ver t.null then [] else t.l.take most).flatMap (sVal of (fun t => sPlain ver flex sub 0 t ++ sTags flex t) false flex)).length ≤ (16 + (costs sub + 30)) * ((if sNull nul ver t.null then [] else t.l.take most).map szT).sum :=
        flat_le fun x _ => sVal_le (hp x)
      have h3 : ((if sNull nul ver t.null then [] else t.l.take most).map szT).sum ≤ szT t := by
        split
        · simp
        · exact Nat.le_trans (take_sum _ _) (szT_l t)
      have h4 := Nat.mul_le_mul_left (16 + (costs sub + 30)) h3
      have e3 : (16 + (costs sub + 30)) * szT t = 46 * szT t + costs sub * szT t := by rw [show 16 + (costs sub + 30) = 46 + costs sub from by omega, Nat.add_mul]
      omega
    · have h1 := hp t
      have e3 : (costs sub + 30) * szT t = costs sub * szT t + 30 * szT t := Nat.add_mul _ _ _
      split
      · split
        · rw [fix_len]; omega
        · rw [List.length_append, fix_len]; omega
      · have := sVal_le (kind := kind) (part := fun t => sPlain ver flex sub 0 t ++ sTags flex t) (null := sNull nul ver t.null) (flex := flex) (hp t)
        have e4 : (16 + (costs sub + 30)) * szT t = 46 * szT t + costs sub * szT t := by rw [show 16 + (costs sub + 30) = 46 + costs sub from by omega, Nat.add_mul]
        omega
theorem sPlain_le : ∀ (fs : Fds) (i : Nat) (t : Tr), (sPlain ver flex fs i t).length ≤ costs fs * szT t
  | .nil, i, t => by rw [sPlain]; simp
  | .cons f r, i, t => by
    rw [sPlain, List.length_append]
    have h1 := sPlain_le r (i + 1) t
    have h2 : (if sHas f.fr f.to ver then sField ver flex f (t.l.getD i .zero) else []).length ≤ costF f * szT t := by
      split
      · exact Nat.le_trans (sField_le f _) (Nat.mul_le_mul_left _ (szT_at t i))
      · simp
    have e : costs (.cons f r) = costF f + costs r := by rw [costs]
    rw [e, Nat.add_mul]; omega
end
end

theorem sWrite_le (fs : Fds) (flex v : Int) (t : Tr) : (sWrite fs flex v t).length ≤ (costs fs + 30) * szT t := by
  unfold sWrite sPart
  rw [List.length_append, Nat.add_mul]
  have := sPlain_le v (decide (0 ≤ flex) && decide (flex ≤ v)) fs 0 t
  have := sTags_le (decide (0 ≤ flex) && decide (flex ≤ v)) t
  omega

/-- Of a tree of at most a million things at most 2^38 octets. -/
theorem sWrite_small {fs : Fds} (hc : Nat.ble (costs fs + 30) 200000 = true) (flex v : Int) {t : Tr} (ht : szT t ≤ 1100000) : (sWrite fs flex v t).length ≤ 274877906944 := by
  have h := sWrite_le fs flex v t
  have h1 : costs fs + 30 ≤ 200000 := Nat.le_of_ble_eq_true hc
  have h2 := Nat.mul_le_mul h1 ht
  omega
end Go.Kx
namespace Go.Kx
open Go.RowKit Go.ChangeShapes Go.WideShapes
set_option linter.unusedVariables false
set_option linter.unusedSimpArgs false

def eqNN : List (Nat × Nat) → List (Nat × Nat) → Bool
  | [], [] => true
  | a :: xs, b :: ys => Nat.beq a.1 b.1 && Nat.beq a.2 b.2 && eqNN xs ys
  | _, _ => false
theorem eqNN_eq : ∀ {a b : List (Nat × Nat)}, eqNN a b = true → a = b
  | [], [], _ => rfl
  | [], _ :: _, h => by simp [eqNN] at h
  | _ :: _, [], h => by simp [eqNN] at h
  | (a1, a2) :: xs, (b1, b2) :: ys, h => by
    simp only [eqNN, Bool.and_eq_true, Nat.beq_eq] at h
    obtain ⟨⟨rfl, rfl⟩, h⟩ := h
    rw [eqNN_eq h]

def structB (P : Program) (t : Nat) (l : List (Nat × Nat)) : Bool := match P.underlying t with
  | some (.struct fs) => eqNN (fs.toList.map fun f => (f.offset, f.type)) l
  | _ => false
theorem structB_of {P : Program} {t : Nat} {l : List (Nat × Nat)} (h : structB P t l = true) : ∃ fs : Array Field, P.underlying t = some (.struct fs) ∧ fs.size = l.length ∧ ∀ (i : Nat) (q : Nat × Nat), l[i]? = some q → ∃ f : Field, fs[i]? = some f ∧ f.offset = q.1 ∧ f.type = q.2 := by
  unfold structB at h
  split at h
  · rename_i fs hu
    have e := eqNN_eq h
    subst e
    refine ⟨fs, hu, by simp, fun i q hi => ?_⟩
    rw [List.getElem?_map, Array.getElem?_toList] at hi
    cases hf : fs[i]? with
    | none => simp [hf] at hi
    | some f =>
      rw [hf] at hi
      simp only [Option.map_some, Option.some.injEq] at hi
      subst hi
      exact ⟨f, rfl, rfl, rfl⟩
  · simp at h

def boolB (P : Program) (t : Nat) : Bool := match P.underlying t with
  | some .bool => true
  | _ => false
theorem boolB_eq {P : Program} {t : Nat} (h : boolB P t = true) : P.underlying t = some .bool := by
  unfold boolB at h
  split at h
  · assumption
  · simp at h

def treeB (P : Program) (S : SN) : List Bool := [structB P S.tr [(0, S.T.i64), (1, S.T.u8s), (2, S.T.bool), (3, S.trs), (4, S.tgs)], structB P S.tg [(0, S.T.u32), (1, S.T.u8s)], intTy P S.T.i64 .i64, boolB P S.T.bool, intTy P S.T.u32 .u32, intTy P S.T.u8 .u8,
  sliceOf P S.T.u8s S.T.u8, sliceOf P S.trs S.tr, sliceOf P S.tgs S.tg, Nat.beq (P.cellsOf S.tr) 5, Nat.beq (P.cellsOf S.tg) 2, Nat.beq (P.cellsOf S.T.i64) 1, Nat.beq (P.cellsOf S.T.bool) 1, Nat.beq (P.cellsOf S.T.u8) 1, Nat.beq (P.cellsOf S.T.u8s) 1, Nat.beq (P.cellsOf S.trs) 1, Nat.beq (P.cellsOf S.tgs) 1, Nat.beq (P.cellsOf S.T.u32) 1]

structure BulkOk {H : Type} (B : DataW H → Nat) (BA : List (DataW H) → Nat) : Prop where
  one : ∀ d, 1 ≤ B d
  slice : ∀ e s, 1 + BA e ≤ B (.slice e s)
  agg : ∀ ps, 1 + BA ps ≤ B (.agg ps)
  cons : ∀ d l, B d + BA l ≤ BA (d :: l)

section
variable {H : Type} {B : DataW H → Nat} {BA : List (DataW H) → Nat} {enc : TypeId × Value → H} {P : Program} {S : SN} {w : World} {base : Nat} {held : Bool}

theorem BulkOk.len (hB : BulkOk B BA) : ∀ l : List (DataW H), l.length ≤ BA l
  | [] => Nat.zero_le _
  | d :: l => by have := hB.one d; have := hB.cons d l; have := hB.len l; rw [List.length_cons]; omega

theorem cell_at {a : Addr} {v : Value} {i : Nat} (h : w.cell? (a.add i) = some v) (h0 : a.spot = none) : w.cell? ⟨a.block, a.off + i, none⟩ = some v := by
  have e : a = ⟨a.block, a.off, none⟩ := by cases a; simp_all
  rw [e, Addr.add_mid] at h
  exact h

theorem open_u8s {U8 U8s : Nat} (h1 : sliceOf P U8s U8 = true) (h2 : intTy P U8 .u8 = true) (h3 : P.cellsOf U8 = 1) (hB : BulkOk B BA) {fuel : Nat} {cs : List Value} {x : DataW H × List MemPlace} (h : DataW.trod enc P w base (fun _ => true) held fuel U8s cs = some x) :
    ∃ ad l c, cs = [.slice ad (List.length l) c] ∧ okA l.length ad ∧ l.length ≤ c ∧ BytesAt w (fun _ => True) ad l ∧ 1 + l.length ≤ B x.1 := by
  rcases open_ints (sliceOf_eq h1) (intTy_eq h2) h3 h with ⟨rfl, rfl⟩ | ⟨a, len, cap, zs, rfl, hb, hl, hm, hz, rfl, hcell, hwz⟩
  · exact ⟨none, [], 0, rfl, .inl rfl, Nat.le_refl _, fun j b hj => by simp at hj, by have := hB.one (DataW.nil : DataW H); simpa using this⟩
  · simp only [if_true] at hz
    have hlen : ((zs.take len).map fun n => UInt8.ofNat n.toNat).length = len := by simp; omega
    have hspot : 0 < len → a.spot = none := fun h0 => by
      have := World.cell?_spot (hcell 0 (by omega))
      simpa [Addr.add] using this
    refine ⟨some a, (zs.take len).map fun n => UInt8.ofNat n.toNat, cap, by rw [hlen], ?_, by rw [hlen]; exact hl, fun j b hj => ?_, ?_⟩
    · rw [hlen]
      by_cases h0 : len = 0
      · exact .inl h0
      · right; right
        refine ⟨a.block, a.off, ?_⟩
        have := hspot (by omega)
        cases a; simp_all
    · have hj' : j < len := by
        have := (List.getElem?_eq_some_iff.1 hj).1
        rwa [hlen] at this
      have hs := hspot (by omega)
      refine ⟨a.block, a.off, by cases a; simp_all, trivial, ?_⟩
      rw [cell_at (hcell j (by omega)) hs]
      have hzj : zs.getD j 0 = zs[j]'(by omega) := by simp [List.getD, List.getElem?_eq_getElem (show j < zs.length by omega)]
      have hw := hwz (zs[j]'(by omega)) (List.getElem_mem _)
      rw [List.getElem?_map, List.getElem?_take, if_pos hj', List.getElem?_eq_getElem (show j < zs.length by omega)] at hj
      simp only [Option.map_some, Option.some.injEq] at hj
      subst hj
      rw [hzj]
      unfold byteV
      congr 2
      simp [Lit.wf, IntKind.min, IntKind.max, IntKind.bits, IntKind.signed] at hw
      simp only [UInt8.toNat_ofNat']
      omega
    · have h1 := hB.slice (lits .u8 (zs.take len)) (lits .u8 (zs.drop len))
      have h2 := hB.len (lits .u8 (zs.take len))
      have h3 : (lits (H := H) .u8 (zs.take len)).length = len := by simp [lits]; omega
      rw [hlen]
      show 1 + len ≤ B (.slice _ _)
      rw [h3] at h2
      omega

structure TreeOk (P : Program) (S : SN) : Prop where
  tr : structB P S.tr [(0, S.T.i64), (1, S.T.u8s), (2, S.T.bool), (3, S.trs), (4, S.tgs)] = true
  tg : structB P S.tg [(0, S.T.u32), (1, S.T.u8s)] = true
  i64 : intTy P S.T.i64 .i64 = true
  bool : boolB P S.T.bool = true
  u32 : intTy P S.T.u32 .u32 = true
  u8 : intTy P S.T.u8 .u8 = true
  u8s : sliceOf P S.T.u8s S.T.u8 = true
  trs : sliceOf P S.trs S.tr = true
  tgs : sliceOf P S.tgs S.tg = true
  ctr : P.cellsOf S.tr = 5
  ctg : P.cellsOf S.tg = 2
  ci64 : P.cellsOf S.T.i64 = 1
  cbool : P.cellsOf S.T.bool = 1
  cu8 : P.cellsOf S.T.u8 = 1
  cu8s : P.cellsOf S.T.u8s = 1
  ctrs : P.cellsOf S.trs = 1
  ctgs : P.cellsOf S.tgs = 1
  cu32 : P.cellsOf S.T.u32 = 1
theorem tree_of (h : (treeB P S).all id = true) : TreeOk P S := by
  simp only [treeB, List.all_cons, List.all_nil, id_eq, Bool.and_true, Bool.and_eq_true, Nat.beq_eq] at h
  obtain ⟨h1, h2, h3, h4, h5, h6, h7, h8, h9, h10, h11, h12, h13, h14, h15, h16, h17, h18⟩ := h
  exact ⟨h1, h2, h3, h4, h5, h6, h7, h8, h9, h10, h11, h12, h13, h14, h15, h16, h17, h18⟩

theorem open_tg (tb : TreeOk P S) (hB : BulkOk B BA) {fuel : Nat} {cs : List Value} {x : DataW H × List MemPlace} (h : DataW.trod enc P w base (fun _ => true) held fuel S.tg cs = some x) :
    ∃ t, TagRow w cs t ∧ t.1 < 4294967296 ∧ 1 + t.2.length ≤ B x.1 := by
  obtain ⟨fs, hu, hsz, hf⟩ := structB_of tb.tg
  obtain ⟨xs, n, rfl, rfl, hl, hxl, hx⟩ := DataW.trod_struct hu h
  rw [tb.ctg] at hl
  obtain ⟨c0, c1, rfl⟩ : ∃ c0 c1, cs = [c0, c1] := by
    match cs, hl with
    | [a, b], _ => exact ⟨a, b, rfl⟩
  obtain ⟨x0, x1, rfl⟩ : ∃ x0 x1, xs = [x0, x1] := by
    rw [hsz] at hxl
    match xs, hxl with
    | [a, b], _ => exact ⟨a, b, rfl⟩
  obtain ⟨f0, g0, o0, t0⟩ := hf 0 _ rfl
  obtain ⟨f1, g1, o1, t1⟩ := hf 1 _ rfl
  have e0 := hx 0 f0 g0
  have e1 := hx 1 f1 g1
  rw [o0, t0, tb.cu32] at e0
  rw [o1, t1, tb.cu8s] at e1
  obtain ⟨k, hk, hx0, hwf⟩ := DataW.trod_int (intTy_eq tb.u32) (show _ = some x0 from e0)
  obtain ⟨ad, l, c, hc, ha, hlc, hby, hb⟩ := open_u8s tb.u8s tb.u8 tb.cu8 hB (show _ = some x1 from e1)
  have hk' : c0 = .int .u32 k := by simpa using hk
  have hc' : c1 = .slice ad l.length c := by simpa using hc
  simp [Lit.wf, IntKind.min, IntKind.max, IntKind.bits, IntKind.signed] at hwf
  refine ⟨(k.toNat, l), ⟨by show k.toNat < _; omega, ad, c, ?_, ha, hlc, hby⟩, by show k.toNat < _; omega, ?_⟩
  · rw [hk', hc', show ((k.toNat : Nat) : Int) = k from by omega]
  · have h1 := hB.agg [x0.1, x1.1]
    have h2 := hB.cons x0.1 [x1.1]
    have h3 := hB.cons x1.1 []
    simp only [List.map_cons, List.map_nil]
    show 1 + l.length ≤ _
    omega

/-- The rows of a slice, one by one. -/
theorem el_at {e : Nat} {a : Addr} {len n k : Nat} {elems : List (DataW H × List MemPlace)} (hk : P.cellsOf e = k) (hk0 : 0 < k) (hel : ∀ i, i < len → (w.cells? base (a.add (i * P.cellsOf e)) (P.cellsOf e)).bind (DataW.trod enc P w base (fun _ => true) held n e) = elems[i]?) (hlen : elems.length = len) :
    (0 < len → a.spot = none) ∧ ∀ i, (hi : i < len) → ∃ cs, w.rangeAt a.block (a.off + i * k) cs ∧ DataW.trod enc P w base (fun _ => true) held n e cs = some (elems[i]'(by omega)) := by
  subst hk
  have hs : 0 < len → a.spot = none := fun h0 => by
    have h := hel 0 h0
    rw [List.getElem?_eq_getElem (by omega)] at h
    obtain ⟨cs, h1, h2⟩ := Option.bind_eq_some_iff.1 h
    obtain ⟨_, g1, g2⟩ := World.cells?_some h1
    have h3 := g2 0 hk0
    rw [List.getElem?_eq_getElem (by omega)] at h3
    have := World.cell?_spot h3
    simpa [Addr.add] using this
  refine ⟨hs, fun i hi => ?_⟩
  have h := hel i hi
  rw [List.getElem?_eq_getElem (by omega)] at h
  obtain ⟨cs, h1, h2⟩ := Option.bind_eq_some_iff.1 h
  refine ⟨cs, fun j v hj => ?_, h2⟩
  obtain ⟨_, g1, g2⟩ := World.cells?_some h1
  have hjl := (List.getElem?_eq_some_iff.1 hj).1
  have h3 := g2 j (by omega)
  rw [hj] at h3
  have e : a = ⟨a.block, a.off, none⟩ := by have := hs (by omega); cases a; simp_all
  rw [e, Addr.add_mid, Addr.add_mid] at h3
  exact h3

theorem okA_some {a : Addr} {n : Nat} (h : 0 < n → a.spot = none) : okA n (some a) := by
  by_cases h0 : n = 0
  · exact .inl h0
  · right; right
    have := h (by omega)
    exact ⟨a.block, a.off, by cases a; simp_all⟩

theorem utags_of (tb : TreeOk P S) (hB : BulkOk B BA) {a : Addr} {len n : Nat} {elems : List (DataW H × List MemPlace)} (hlen : elems.length = len) (hs : 0 < len → a.spot = none)
    (hel : ∀ i, (hi : i < len) → ∃ cs, w.rangeAt a.block (a.off + i * 2) cs ∧ DataW.trod enc P w base (fun _ => true) held n S.tg cs = some (elems[i]'(by omega))) : ∀ (k i : Nat), i + k = len →
    ∃ u : List (Nat × List UInt8), u.length = k ∧ (∀ j t, u[j]? = some t → ∃ g o cs, some a = some ⟨g, o, none⟩ ∧ w.rangeAt g (o + (i + j) * 2) cs ∧ TagRow w cs t) ∧ keysOk u ∧ szU u ≤ BA ((elems.drop i).map (·.1)) := by
  intro k
  induction k with
  | zero => intro i hi; exact ⟨[], rfl, fun j t h => by simp at h, fun x hx => by simp at hx, by simp [szU]⟩
  | succ k ih =>
    intro i hi
    obtain ⟨u, h1, h2, h3, h4⟩ := ih (i + 1) (by omega)
    obtain ⟨cs, g1, g2⟩ := hel i (by omega)
    obtain ⟨t, k1, k2, k3⟩ := open_tg tb hB g2
    have hsp := hs (by omega)
    refine ⟨t :: u, by simp [h1], fun j t' hj => ?_, fun x hx => ?_, ?_⟩
    · cases j with
      | zero =>
        simp only [List.getElem?_cons_zero, Option.some.injEq] at hj
        subst hj
        exact ⟨a.block, a.off, cs, by cases a; simp_all, g1, k1⟩
      | succ j =>
        rw [List.getElem?_cons_succ] at hj
        obtain ⟨g, o, cs', e1, e2, e3⟩ := h2 j t' hj
        exact ⟨g, o, cs', e1, by rw [show i + (j + 1) = i + 1 + j from by omega]; exact e2, e3⟩
    · simp only [List.mem_cons] at hx
      rcases hx with rfl | hx
      · exact k2
      · exact h3 x hx
    · rw [List.drop_eq_getElem_cons (by omega), List.map_cons]
      have := hB.cons (elems[i]'(by omega)).1 ((elems.drop (i + 1)).map (·.1))
      simp only [szU]; omega

theorem open_tgs (tb : TreeOk P S) (hB : BulkOk B BA) {fuel : Nat} {cs : List Value} {x : DataW H × List MemPlace} (h : DataW.trod enc P w base (fun _ => true) held fuel S.tgs cs = some x) :
    ∃ v u, cs = [v] ∧ TagsS w v u ∧ keysOk u ∧ szU u ≤ B x.1 := by
  rcases DataW.trod_slice (sliceOf_eq tb.tgs) h with ⟨rfl, rfl⟩ | ⟨a, len, cap, elems, rest, n, _, rfl, rfl, hb, hl, hm, hlen, hel, hsp, hns⟩
  · exact ⟨_, [], rfl, ⟨none, 0, rfl, .inl rfl, Nat.le_refl _, fun i t h => by simp at h⟩, fun x hx => by simp at hx, by simp [szU]⟩
  · obtain ⟨h1, h2⟩ := el_at tb.ctg (by omega) hel hlen
    obtain ⟨u, g1, g2, g3, g4⟩ := utags_of tb hB hlen h1 h2 len 0 (by omega)
    subst g1
    refine ⟨_, u, rfl, ⟨some a, cap, rfl, okA_some h1, hl, fun i t hi => ?_⟩, g3, ?_⟩
    · have := g2 i t hi
      rwa [Nat.zero_add] at this
    · have := hB.slice (elems.map (·.1)) (rest.map (·.1))
      rw [List.drop_zero] at g4
      show szU u ≤ B (.slice _ _)
      omega

theorem rows_of (hB : BulkOk B BA) {a : Addr} {len : Nat} {elems : List (DataW H × List MemPlace)} (hlen : elems.length = len) (hs : 0 < len → a.spot = none)
    (hel : ∀ i, (hi : i < len) → ∃ cs t, w.rangeAt a.block (a.off + i * 5) cs ∧ RepTr w t cs ∧ goodT keysOk t ∧ szT t ≤ B (elems[i]'(by omega)).1) : ∀ (k i : Nat), i + k = len →
    ∃ l : Trs, l.toList.length = k ∧ RowsT w (some a) i l ∧ goodTs keysOk l ∧ szTs l ≤ BA ((elems.drop i).map (·.1)) := by
  intro k
  induction k with
  | zero => intro i hi; exact ⟨.nil, rfl, by unfold RowsT; trivial, by unfold goodTs; trivial, by simp [szTs]⟩
  | succ k ih =>
    intro i hi
    obtain ⟨l, h1, h2, h3, h4⟩ := ih (i + 1) (by omega)
    obtain ⟨cs, t, g1, g2, g3, g4⟩ := hel i (by omega)
    have hsp := hs (by omega)
    refine ⟨.cons t l, by unfold Trs.toList; simp [h1], ?_, ?_, ?_⟩
    · unfold RowsT
      exact ⟨⟨a.block, a.off, cs, by cases a; simp_all, g1, g2⟩, h2⟩
    · unfold goodTs; exact ⟨g3, h3⟩
    · rw [List.drop_eq_getElem_cons (by omega), List.map_cons]
      have := hB.cons (elems[i]'(by omega)).1 ((elems.drop (i + 1)).map (·.1))
      unfold szTs; omega

theorem open_tr (tb : TreeOk P S) (hB : BulkOk B BA) : ∀ (fuel : Nat) {cs : List Value} {x : DataW H × List MemPlace}, DataW.trod enc P w base (fun _ => true) held fuel S.tr cs = some x → ∃ t, RepTr w t cs ∧ goodT keysOk t ∧ szT t ≤ B x.1 := by
  intro fuel
  induction fuel using Nat.strongRecOn with
  | _ fuel ih =>
    intro cs x h
    obtain ⟨fs, hu, hsz, hf⟩ := structB_of tb.tr
    obtain ⟨xs, n, rfl, rfl, hl, hxl, hx⟩ := DataW.trod_struct hu h
    rw [tb.ctr] at hl
    obtain ⟨c0, c1, c2, c3, c4, rfl⟩ : ∃ c0 c1 c2 c3 c4, cs = [c0, c1, c2, c3, c4] := by
      match cs, hl with
      | [a, b, c, d, e], _ => exact ⟨a, b, c, d, e, rfl⟩
    obtain ⟨x0, x1, x2, x3, x4, rfl⟩ : ∃ x0 x1 x2 x3 x4, xs = [x0, x1, x2, x3, x4] := by
      rw [hsz] at hxl
      match xs, hxl with
      | [a, b, c, d, e], _ => exact ⟨a, b, c, d, e, rfl⟩
    obtain ⟨f0, g0, o0, t0⟩ := hf 0 _ rfl
    obtain ⟨f1, g1, o1, t1⟩ := hf 1 _ rfl
    obtain ⟨f2, g2, o2, t2⟩ := hf 2 _ rfl
    obtain ⟨f3, g3, o3, t3⟩ := hf 3 _ rfl
    obtain ⟨f4, g4, o4, t4⟩ := hf 4 _ rfl
    have e0 := hx 0 f0 g0
    have e1 := hx 1 f1 g1
    have e2 := hx 2 f2 g2
    have e3 := hx 3 f3 g3
    have e4 := hx 4 f4 g4
    rw [o0, t0, tb.ci64] at e0
    rw [o1, t1, tb.cu8s] at e1
    rw [o2, t2, tb.cbool] at e2
    rw [o3, t3, tb.ctrs] at e3
    rw [o4, t4, tb.ctgs] at e4
    obtain ⟨k, hk, hx0, hwf⟩ := DataW.trod_int (intTy_eq tb.i64) (show _ = some x0 from e0)
    obtain ⟨ad, l, c, hc, ha, hlc, hby, hb⟩ := open_u8s tb.u8s tb.u8 tb.cu8 hB (show _ = some x1 from e1)
    obtain ⟨nu, hnu, hx2⟩ := DataW.trod_bool (boolB_eq tb.bool) (show _ = some x2 from e2)
    obtain ⟨vu, u, hvu, htg, hku, hszu⟩ := open_tgs tb hB (show _ = some x4 from e4)
    have hk' : c0 = .int .i64 k := by simpa using hk
    have hc' : c1 = .slice ad l.length c := by simpa using hc
    have hn' : c2 = .bool nu := by simpa using hnu
    have hv' : c4 = vu := by simpa using hvu
    simp [Lit.wf, IntKind.min, IntKind.max, IntKind.bits, IntKind.signed] at hwf
    have hL : ∃ lt : Trs, (∃ ad c, c3 = .slice ad lt.toList.length c ∧ okA lt.toList.length ad ∧ lt.toList.length ≤ c ∧ RowsT w ad 0 lt) ∧ goodTs keysOk lt ∧ szTs lt ≤ B x3.1 := by
      rcases DataW.trod_slice (sliceOf_eq tb.trs) (show _ = some x3 from e3) with ⟨hcs, rfl⟩ | ⟨a, len, cap, elems, rest, n', hn2, hcs, rfl, hb, hl, hm, hlen, hel, hsp, hns⟩
      · have hcs' : c3 = .slice none 0 0 := by simpa using hcs
        exact ⟨.nil, ⟨none, 0, hcs', .inl rfl, Nat.le_refl _, by unfold RowsT; trivial⟩, by unfold goodTs; trivial, by simp [szTs]⟩
      · have hcs' : c3 = .slice (some a) len cap := by simpa using hcs
        obtain ⟨h1, h2⟩ := el_at tb.ctr (by omega) hel hlen
        obtain ⟨lt, q1, q2, q3, q4⟩ := rows_of hB hlen h1 (fun i hi => by
          obtain ⟨cs, r1, r2⟩ := h2 i hi
          obtain ⟨t, s1, s2, s3⟩ := ih n' (by omega) r2
          exact ⟨cs, t, r1, s1, s2, s3⟩) len 0 (by omega)
        refine ⟨lt, ⟨some a, cap, by rw [q1]; exact hcs', by rw [q1]; exact okA_some h1, by rw [q1]; exact hl, q2⟩, q3, ?_⟩
        have := hB.slice (elems.map (·.1)) (rest.map (·.1))
        rw [List.drop_zero] at q4
        show szTs lt ≤ B (.slice _ _)
        omega
    obtain ⟨lt, hL1, hL2, hL3⟩ := hL
    refine ⟨.mk k l nu lt u, ?_, ?_, ?_⟩
    · unfold RepTr
      exact ⟨c1, c3, c4, by rw [hk', hn'], by omega, ⟨ad, c, hc', ha, hlc, hby⟩, hL1, by rw [hv']; exact htg⟩
    · unfold goodT; exact ⟨hku, hL2⟩
    · unfold szT
      have b0 := hB.agg [x0.1, x1.1, x2.1, x3.1, x4.1]
      have b1 := hB.cons x0.1 [x1.1, x2.1, x3.1, x4.1]
      have b2 := hB.cons x1.1 [x2.1, x3.1, x4.1]
      have b3 := hB.cons x2.1 [x3.1, x4.1]
      have b4 := hB.cons x3.1 [x4.1]
      have b5 := hB.cons x4.1 []
      show _ ≤ B (.agg [x0.1, x1.1, x2.1, x3.1, x4.1])
      omega
end
end Go.Kx
namespace Go.Kx
open Go.RowKit Go.ChangeShapes Go.WideShapes Go.WideElems
set_option linter.unusedVariables false
set_option linter.unusedSimpArgs false

section
variable {H : Type} {B : DataW H → Nat} {BA : List (DataW H) → Nat} {enc : TypeId × Value → H} {P : Program}

theorem keepAll {W W' : World} (hl : laidOutB P = true) (hb : Below W.heap.size W W') : ∀ {ts : List TypeId} {vs : List Value} {ds : List (DataW H)} {ps : List MemPlace}, ts.all (fun t => P.readableRec t && decide (t < P.types.size)) = true →
    DataW.TrodAll enc P W 0 (fun _ => true) true ts vs ds ps → (∀ x ∈ ps, x.block < W.heap.size) → DataW.TrodAll enc P W' 0 (fun b => decide (b < W.heap.size)) true ts vs ds ps
  | [], vs, ds, ps, _, h, _ => by
    obtain ⟨rfl, rfl, rfl⟩ := trodAll_nil h
    exact trodAll_mk0
  | t :: ts, vs, ds, ps, hr, h, hlt => by
    obtain ⟨v, vs', d, ds', p, q, rfl, rfl, rfl, h1, h2⟩ := trodAll_cons h
    simp only [List.all_cons, Bool.and_eq_true, decide_eq_true_eq] at hr
    exact trodAll_cons_mk (Below.trod hl hr.1.1 hr.1.2 h1 hb (fun x hx => hlt x (List.mem_append.2 (.inl hx)))) (keepAll hl hb (by simpa using hr.2) h2 (fun x hx => hlt x (List.mem_append.2 (.inr hx))))

theorem row_post {fn : Func} {s : ChangeSpec} {tb : TypeId} {W W' : World} {args : Array Value} {ds gs : List (DataW H)} {before : List MemPlace} (hl : laidOutB P = true) (hrd : fn.params.toList.all (fun t => P.readableRec t && decide (t < P.types.size)) = true) (hres : fn.resultTypes = #[tb]) (ht : P.underlying tb = some .bool)
    (hv : s.vars = []) (hW : DataW.Whole enc P fn.params.toList s.vars false W args.toList ds gs before) (hb : Below W.heap.size W W') (hfn : s.fn H (ds ++ gs) = { results := [.lit (.bool true)], args := ds, vars := [] }) : s.post enc P fn false true false false W args (.bool true) W' := by
  have hW' := hW
  obtain ⟨p, q, hA, hV, rfl, hfz, hnd⟩ := hW
  rw [hv] at hV
  have hq : gs = [] ∧ q = [] := by
    cases gs with
    | nil => exact ⟨rfl, hV⟩
    | cons g gs => simp [DataW.TrodVars] at hV
  obtain ⟨rfl, rfl⟩ := hq
  refine ⟨ds, [], _, [], p, [], hW', ?_, ?_, ?_, hb.frame _, fun h => by cases h⟩
  · rw [hfn, hres]
    exact trodAll_mk1 (shut_bool ht true)
  · rw [hfn]
    exact keepAll hl hb hrd hA (fun x hx => hW'.lt x (List.mem_append.2 (.inl hx)))
  · rw [hv, hfn]
    exact rfl

/-- The listed error is laid: the variable holds an error that is not nil. -/
theorem laid_err {W : World} {name nm : String} {g t : Nat} {d : DataW Unit} (hg : P.globalNamed name = some g) (ht : (P.globals[g]?).map (·.type) = some t) (hi : ifaceTy P t = true) (h : laidMet P [(name, .iface nm d)] W) : ∃ ev, W.cell? ⟨g, 0, none⟩ = some ev ∧ isErr ev := by
  obtain ⟨ps, ⟨g', t', cs, fuel, p, q, hg', ht', hvar, hd, _, _⟩, _⟩ := h
  obtain rfl := Option.some.inj (hg.symm.trans hg')
  obtain rfl := Option.some.inj (ht.symm.trans ht')
  obtain ⟨ms, hu⟩ := ifaceTy_eq hi
  have hc := fun i => World.var?_cell hg hvar i
  obtain ⟨l⟩ := cs
  cases fuel with
  | zero => simp [DataW.trod] at hd
  | succ n =>
    unfold DataW.trod at hd
    rw [hu] at hd
    simp only at hd
    match l, hd with
    | [], hd => simp at hd
    | [v], hd =>
      cases v <;> simp at hd
      rename_i u x
      exact ⟨_, by rw [hc 0]; rfl, _, _, rfl⟩
    | v :: v2 :: r, hd => simp at hd

section
variable {K : KB} {g : TN} {S : SN} {R : RN} {G : TG} {E : EN} {Z : FTN}

theorem u8_range {a : Int} (w0 : (Lit.int .u8 a).wf = true) : ∃ k : Nat, a = (k : Int) ∧ k < 256 := by
  simp [Lit.wf, IntKind.min, IntKind.max, IntKind.bits, IntKind.signed] at w0
  exact ⟨a.toNat, by omega, by omega⟩
theorem u16_range {a : Int} (w0 : (Lit.int .u16 a).wf = true) : ∃ k : Nat, a = (k : Int) ∧ k < 65536 := by
  simp [Lit.wf, IntKind.min, IntKind.max, IntKind.bits, IntKind.signed] at w0
  exact ⟨a.toNat, by omega, by omega⟩

theorem agg_toList (cs : Array Value) : Value.agg cs = .agg cs.toList.toArray := by simp

theorem again_row (se : Seat2 P K g S R G E Z) (tb : TreeOk P S) (n : RL0) (h1 : (msgB P K g S R G n).all id = true) (h2 : (specB P S n).all id = true) (h3 : isFn P n.f (cLawAgain S Z.f2 n.fMax n.fSpec n.fAgain) 35 4 = true) (hcost : Nat.ble (costs (toFds n.sx) + 30) 200000 = true)
    {fn : Func} {s : ChangeSpec} (hB : BulkOk B BA) (hp : fn.params = #[S.T.u8, S.tr]) (hr : fn.resultTypes = #[S.T.bool]) (hv : s.vars = []) (hl : laidOutB P = true) (hrd : fn.params.toList.all (fun t => P.readableRec t && decide (t < P.types.size)) = true)
    (hfn : ∀ d1 d2, s.fn H [d1, d2] = { results := [.lit (.bool true)], args := [d1, d2], vars := [] }) {W : World} {base : Nat} {args : Array Value} {ds gs : List (DataW H)} {before : List MemPlace}
    (hval : ∀ (j : Nat) t v, fn.params[j]? = some t → args[j]? = some v → Value.okWide P W .any base t v) (hW : DataW.Whole enc P fn.params.toList s.vars false W args.toList ds gs before) (hbulk : BA (ds ++ gs) ≤ 1048576) (hev : ∃ ev, W.cell? ⟨R.gErr, 0, none⟩ = some ev ∧ isErr ev) :
    Calls P n.f args W fun e W' => ∃ v, e = .returned v ∧ s.post enc P fn false true false false W args v W' := by
  have hW' := hW
  obtain ⟨p, q, hA, hV, rfl, hfz, hnd⟩ := hW
  have hg0 : gs = [] := by
    rw [hv] at hV
    cases gs with
    | nil => rfl
    | cons g gs => simp [DataW.TrodVars] at hV
  subst hg0
  rw [hp] at hA hval
  obtain ⟨v0, vs0, d0, ds0, p0, q0, hargs, rfl, rfl, t0, r0⟩ := trodAll_cons hA
  obtain ⟨v1, vs1, d1, ds1, p1, q1, hargs1, rfl, rfl, t1, r1⟩ := trodAll_cons r0
  obtain ⟨rfl, rfl, rfl⟩ := trodAll_nil r1
  subst hargs1
  obtain rfl : args = #[v0, v1] := by cases args; simp_all
  obtain ⟨a0, rfl, rfl, rfl, w0⟩ := open_int (intTy_eq tb.u8) (hval 0 S.T.u8 v0 rfl rfl) t0
  obtain ⟨k, rfl, hk⟩ := u8_range w0
  obtain ⟨fs, hu, _, _⟩ := structB_of tb.tr
  obtain ⟨cs, rfl, hcs⟩ := okWide_struct hu (hval 1 S.tr v1 rfl rfl)
  obtain ⟨fuel, ht⟩ := t1
  obtain ⟨t, hrep, hgood, hsz⟩ := open_tr tb hB fuel (cs := cs.toList) (x := (d1, _)) ht
  obtain ⟨ev, hc, hie⟩ := hev
  have b0 := hB.cons (.lit (.int .u8 (k : Int)) : DataW H) [d1]
  have b1 := hB.cons d1 []
  have hst : szT t ≤ 1100000 := by
    simp only [List.append_nil] at hbulk
    have : szT t ≤ B d1 := hsz
    omega
  have hrun := again_law se n h1 h2 h3 W k hk cs.toList t hrep hgood ev hc hie (fun v hv => sWrite_small hcost n.flex (v : Nat) hst)
  rw [← agg_toList] at hrun
  refine hrun.mono ?_
  rintro e W' ⟨rfl, hbel⟩
  exact ⟨_, rfl, row_post hl hrd hr (boolB_eq tb.bool) hv hW' hbel (by rw [List.append_nil]; exact hfn _ _)⟩

theorem cut_row (se : Seat2 P K g S R G E Z) (tb : TreeOk P S) (n : RL0) (h1 : (msgB P K g S R G n).all id = true) (h2 : (specB P S n).all id = true) (h3 : isFn P n.f (cLawCut S Z.f2 n.fMax n.fSpec n.fAgain) 56 6 = true) (h4 : yes S.T.u16 = true) (hcost : Nat.ble (costs (toFds n.sx) + 30) 200000 = true)
    {fn : Func} {s : ChangeSpec} (hB : BulkOk B BA) (hu16 : intTy P S.T.u16 .u16 = true) (hp : fn.params = #[S.T.u8, S.tr, S.T.u16]) (hr : fn.resultTypes = #[S.T.bool]) (hv : s.vars = []) (hl : laidOutB P = true) (hrd : fn.params.toList.all (fun t => P.readableRec t && decide (t < P.types.size)) = true)
    (hfn : ∀ d1 d2 d3, s.fn H [d1, d2, d3] = { results := [.lit (.bool true)], args := [d1, d2, d3], vars := [] }) {W : World} {base : Nat} {args : Array Value} {ds gs : List (DataW H)} {before : List MemPlace}
    (hval : ∀ (j : Nat) t v, fn.params[j]? = some t → args[j]? = some v → Value.okWide P W .any base t v) (hW : DataW.Whole enc P fn.params.toList s.vars false W args.toList ds gs before) (hbulk : BA (ds ++ gs) ≤ 1048576) (hev : ∃ ev, W.cell? ⟨R.gErr, 0, none⟩ = some ev ∧ isErr ev) :
    Calls P n.f args W fun e W' => ∃ v, e = .returned v ∧ s.post enc P fn false true false false W args v W' := by
  have hW' := hW
  obtain ⟨p, q, hA, hV, rfl, hfz, hnd⟩ := hW
  have hg0 : gs = [] := by
    rw [hv] at hV
    cases gs with
    | nil => rfl
    | cons g gs => simp [DataW.TrodVars] at hV
  subst hg0
  rw [hp] at hA hval
  obtain ⟨v0, vs0, d0, ds0, p0, q0, hargs, rfl, rfl, t0, r0⟩ := trodAll_cons hA
  obtain ⟨v1, vs1, d1, ds1, p1, q1, hargs1, rfl, rfl, t1, r1⟩ := trodAll_cons r0
  obtain ⟨v2, vs2, d2, ds2, p2, q2, hargs2, rfl, rfl, t2, r2⟩ := trodAll_cons r1
  obtain ⟨rfl, rfl, rfl⟩ := trodAll_nil r2
  subst hargs2
  subst hargs1
  obtain rfl : args = #[v0, v1, v2] := by cases args; simp_all
  obtain ⟨a0, rfl, rfl, rfl, w0⟩ := open_int (intTy_eq tb.u8) (hval 0 S.T.u8 v0 rfl rfl) t0
  obtain ⟨k, rfl, hk⟩ := u8_range w0
  obtain ⟨a2, rfl, rfl, rfl, w2⟩ := open_int (intTy_eq hu16) (hval 2 S.T.u16 v2 rfl rfl) t2
  obtain ⟨m, rfl, hm⟩ := u16_range w2
  obtain ⟨fs, hu, _, _⟩ := structB_of tb.tr
  obtain ⟨cs, rfl, hcs⟩ := okWide_struct hu (hval 1 S.tr v1 rfl rfl)
  obtain ⟨fuel, ht⟩ := t1
  obtain ⟨t, hrep, hgood, hsz⟩ := open_tr tb hB fuel (cs := cs.toList) (x := (d1, _)) ht
  obtain ⟨ev, hc, hie⟩ := hev
  have b0 := hB.cons (.lit (.int .u8 (k : Int)) : DataW H) [d1, .lit (.int .u16 (m : Int))]
  have b1 := hB.cons d1 [.lit (.int .u16 (m : Int))]
  have hst : szT t ≤ 1100000 := by
    simp only [List.append_nil] at hbulk
    have : szT t ≤ B d1 := hsz
    omega
  have hrun := cut_law se n h1 h2 h3 h4 W k m hk hm cs.toList t hrep hgood ev hc hie (fun v hv => sWrite_small hcost n.flex (v : Nat) hst)
  rw [← agg_toList] at hrun
  refine hrun.mono ?_
  rintro e W' ⟨rfl, hbel⟩
  exact ⟨_, rfl, row_post hl hrd hr (boolB_eq tb.bool) hv hW' hbel (by rw [List.append_nil]; exact hfn _ _ _)⟩

/-- The types of a law's arguments that are octets. -/
structure ArgOk (P : Program) (S : SN) : Prop where
  u8 : intTy P S.T.u8 .u8 = true
  u8s : sliceOf P S.T.u8s S.T.u8 = true
  cu8 : P.cellsOf S.T.u8 = 1
  bool : boolB P S.T.bool = true
def argB (P : Program) (S : SN) : List Bool := [intTy P S.T.u8 .u8, sliceOf P S.T.u8s S.T.u8, Nat.beq (P.cellsOf S.T.u8) 1, boolB P S.T.bool]
theorem arg_of {P : Program} {S : SN} (h : (argB P S).all id = true) : ArgOk P S := by
  simp only [argB, List.all_cons, List.all_nil, id_eq, Bool.and_true, Bool.and_eq_true, Nat.beq_eq] at h
  exact ⟨h.1, h.2.1, h.2.2.1, h.2.2.2⟩

theorem any_row (se : SeatA P K g S R G) (tb : ArgOk P S) (n : RL0) (h1 : (msgB P K g S R G n).all id = true) (h2 : (List.range (n.most + 1)).all (fun v => minOkF (v : Nat) (n.pl.flex (v : Nat)) n.pl.fs) = true) (h3 : isFn P n.f (cLawAny S n.fMax n.fAgain) 43 4 = true)
    {fn : Func} {s : ChangeSpec} (hB : BulkOk B BA) (hp : fn.params = #[S.T.u8, S.T.u8s]) (hr : fn.resultTypes = #[S.T.bool]) (hv : s.vars = []) (hl : laidOutB P = true) (hrd : fn.params.toList.all (fun t => P.readableRec t && decide (t < P.types.size)) = true)
    (hfn : ∀ d1 d2, s.fn H [d1, d2] = { results := [.lit (.bool true)], args := [d1, d2], vars := [] }) {W : World} {base : Nat} {args : Array Value} {ds gs : List (DataW H)} {before : List MemPlace}
    (hval : ∀ (j : Nat) t v, fn.params[j]? = some t → args[j]? = some v → Value.okWide P W .any base t v) (hW : DataW.Whole enc P fn.params.toList s.vars false W args.toList ds gs before) (hev : ∃ ev, W.cell? ⟨R.gErr, 0, none⟩ = some ev ∧ isErr ev) :
    Calls P n.f args W fun e W' => ∃ v, e = .returned v ∧ s.post enc P fn false true false false W args v W' := by
  have hW' := hW
  obtain ⟨p, q, hA, hV, rfl, hfz, hnd⟩ := hW
  have hg0 : gs = [] := by
    rw [hv] at hV
    cases gs with
    | nil => rfl
    | cons g gs => simp [DataW.TrodVars] at hV
  subst hg0
  rw [hp] at hA hval
  obtain ⟨v0, vs0, d0, ds0, p0, q0, hargs, rfl, rfl, t0, r0⟩ := trodAll_cons hA
  obtain ⟨v1, vs1, d1, ds1, p1, q1, hargs1, rfl, rfl, t1, r1⟩ := trodAll_cons r0
  obtain ⟨rfl, rfl, rfl⟩ := trodAll_nil r1
  subst hargs1
  obtain rfl : args = #[v0, v1] := by cases args; simp_all
  obtain ⟨a0, rfl, rfl, rfl, w0⟩ := open_int (intTy_eq tb.u8) (hval 0 S.T.u8 v0 rfl rfl) t0
  obtain ⟨k, rfl, hk⟩ := u8_range w0
  obtain ⟨a, len, cap, rfl⟩ := okWide_slice (sliceOf_eq tb.u8s) (hval 1 S.T.u8s v1 rfl rfl)
  obtain ⟨fuel, ht⟩ := t1
  obtain ⟨ad, l, c, hcs, hoA, hlc, hby, _⟩ := open_u8s tb.u8s tb.u8 tb.cu8 hB (cs := (Value.slice a len cap).cells.toList) (x := (d1, _)) ht
  have hcs' : Value.slice a len cap = .slice ad l.length c := by simpa [Value.cells] using hcs
  obtain ⟨ev, hc, hie⟩ := hev
  have hrun := any_law se n h1 h2 h3 W k hk ad l c hby ev hc hie
  rw [← hcs'] at hrun
  refine hrun.mono ?_
  rintro e W' ⟨rfl, hbel⟩
  exact ⟨_, rfl, row_post hl hrd hr (boolB_eq tb.bool) hv hW' hbel (by rw [List.append_nil]; exact hfn _ _)⟩
end
end
end Go.Kx
namespace Go.Kx
open Go.RowKit
set_option linter.unusedSimpArgs false
set_option linter.unusedVariables false

section
variable {P : Program} {N : Nat} {Q : Exit → (Nat → Value) → World → Prop} {ρ : Nat → Value} {w w' : World} {ms : List MOp} {d : Nat} {v : Value}

/-- A call of a function without a text. -/
theorem MR.cax {f : Nat} {xs : List MX} (hr : (callFunc f (xs.map (xof ρ)).toArray).run P w = .ok (.value v) w) (hx : ∀ x ∈ xs, MX.lt N x = true) : MR P N (.ca d f xs) ρ w d v w := by
  intro a o hl hf
  obtain ⟨dst, op, type, pos, after, guard⟩ := o
  dsimp only at hf ⊢
  cases op <;> try (simp only [fitOp, Bool.false_eq_true] at hf; done)
  rename_i c
  obtain ⟨callee, args, ats⟩ := c
  cases callee <;> try (simp only [fitOp, Bool.false_eq_true] at hf; done)
  case value x =>
    cases x <;> try (simp only [fitOp, Bool.false_eq_true] at hf; done)
    simp only [fitOp, Bool.and_eq_true, Nat.beq_eq] at hf
    obtain ⟨⟨h1, h2⟩, h3⟩ := hf
    subst h2
    have hdst := dstIs_eq h1
    subst hdst
    have hargs : args.map a.eval = (xs.map (xof ρ)).toArray := by
      apply Array.toList_inj.1
      rw [Array.toList_map, allX_evalL hl hx h3]
    refine ⟨rfl, ?_⟩
    simp only [execOp, resolve, Act.eval, Deferred.ofValue, Sem.run_bind, Sem.run_pure, Result.andThen_ok, invoke, Array.append_empty, Array.empty_append]
    rw [hargs, hr]

def cApF (K : KB) : MCode := .sq (.rg [.mv 4 (.c .nslice)]) (.sq (.rg [.mv 5 (.t 0), .mv 6 (.t 1), .ca 7 K.ffb [.t 6], .ca 8 K.u64 [.t 5, .t 7], .mv 4 (.t 8)]) .rt)
def cRdF (R : RN) : MCode := .sq (.rg [.mv 2 (.c .flt)]) (.sq (.rg [.mv 3 (.t 0), .ca 4 R.r64 [.t 3], .ca 5 R.ffr [.t 4], .mv 2 (.t 5)]) .rt)

def flB (P : Program) (K : KB) (R : RN) : List Bool := [(kbOk P K).all id, isFn P K.f64 (cApF K) 9 4, yes K.u64, isFn P R.f64 (cRdF R) 6 2, yes R.r64]

theorem apF_ok {K : KB} (hf : FnIs P K.f64 (cApF K) 9 4) (hu : ApC P K.T.u8 K.u64 (fun _ _ x out => ∃ n : Nat, n < 18446744073709551616 ∧ x = .int .u64 n ∧ out = be n 8))
    (he : ∀ (n : Nat) (w : World), (callFunc K.ffb #[.float .f64 n]).run P w = .ok (.value (.int .u64 n)) w) : F64W P K := by
  intro _
  refine ⟨hf.ent, ?_⟩
  rintro w B sv x bs out hB ho ⟨n, hn, rfl, rfl⟩ hlim
  refine hf.runs (args := [sv, .float .f64 n]) (by simp) (by omega) ?_
  refine RW.sq (RW.rg (RL.step MR.mv (RL.nil (RW.sq (RW.rg (RL.step (MR.mv (v := sv) rfl) (RL.step (MR.mv (v := .float .f64 n) rfl) (RL.step (MR.cax (v := .int .u64 (n : Nat)) (he n w) (by simp [MX.lt])) ?_))))))))
  refine RL.caA (sv := sv) (bs := bs) (out := be n 8) hu rfl ho ⟨n, hn, rfl, rfl⟩ hB hlim ?_
  intro sv1 w1 o1 b1
  exact RL.step MR.mv (RL.nil (RW.rt (ret_ap (sv := sv1) rfl o1 b1)))

theorem rdF_ok {R : RN} (hf : FnIs P R.f64 (cRdF R) 6 2) (hr : RdC P R.r64 (dNat 8) (PlB (fun x => .int .u64 (x : Nat)) (· < 18446744073709551616)))
    (he : ∀ (n : Nat) (w : World), (callFunc R.ffr #[.int .u64 (n : Nat)]).run P w = .ok (.value (.float .f64 n)) w) : F64R P R := by
  intro _ flex
  refine ⟨hf.ent, fun w rb sb st h hne => ?_⟩
  refine hf.runs (args := [.pointer (some ⟨rb, 0, none⟩)]) (by simp) (by omega) ?_
  refine RW.sq (RW.rg (RL.step MR.mv (RL.nil (RW.sq (RW.rg (RL.step (MR.mv (v := .pointer (some ⟨rb, 0, none⟩)) rfl) (RL.rd hr rfl h hne (by rfl) (by decide) ?_)))))))
  rintro v x st1 w1 hF hG hR ⟨rfl, hx⟩
  refine RL.step (MR.cax (v := .float .f64 x) (he x w1) (by simp [MX.lt])) (RL.step MR.mv (RL.nil (RW.rt ?_)))
  exact ⟨_, .n (x : Nat), st1, rfl, hF, hG.map (f := fun n : Nat => D.n (n : Nat)), hR, rfl, rfl, rfl, x, rfl, rfl, hx⟩

theorem fl_of {K : KB} {R : RN} {G : TG} (h : (flB P K R).all id = true) (h2 : (rkB P R G).all id = true) (e1 : ∀ (n : Nat) (w : World), (callFunc K.ffb #[.float .f64 n]).run P w = .ok (.value (.int .u64 n)) w)
    (e2 : ∀ (n : Nat) (w : World), (callFunc R.ffr #[.int .u64 (n : Nat)]).run P w = .ok (.value (.float .f64 n)) w) : FlOk P K R := by
  simp only [flB, List.all_cons, List.all_nil, id_eq, Bool.and_true, Bool.and_eq_true] at h
  obtain ⟨h1, h3, h4, h5, h6⟩ := h
  exact ⟨apF_ok (FnIs.of h3) (u64_of h1 (yes_of h4)).2 e1, rdF_ok (FnIs.of h5) (rd_r64 h2 (yes_of h6)) e2⟩
end
end Go.Kx
