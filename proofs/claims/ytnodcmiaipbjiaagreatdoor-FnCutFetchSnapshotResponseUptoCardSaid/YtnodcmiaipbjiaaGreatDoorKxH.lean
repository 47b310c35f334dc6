/- What a tree says, as a message's fields (toD): written alike by the reference (sField) and by the plan (enc); so the laws FnAgain and FnCut, the plain part. Conditions: the plan and the reference's fields match (mTopB, a test).
   Rules for scopes, constant indices, maps, globals, slicing of octets; the reader's memory (RdAt). No condition on the program beyond those that a rule names.
   encoding/binary's BigEndian numbers; the reader's numbers: Int16, Uint16, Int32, readUint64, Int64. Conditions: the program's tables (ROK).
   The reader's numbers: Int16, Uint16, Int32, readUint64, Int64, Bool. Conditions: the program's tables (ROK).
   The reader's calls, told once (RdC): what was read, by a decoder, or that the reader has run out; the span. Conditions: the program's tables (ROK). -/
import Derived.Test.YtnodcmiaipbjiaaGreatDoorKxG
import Derived.Laws.IdiomRangeMap
namespace Go.Kx
open Go.RowKit
set_option linter.unusedSimpArgs false
set_option linter.unusedVariables false
set_option linter.unusedSectionVars false
def QE (k : Nat) (n : Int) : Int := sgn k (n % (256 ^ k : Int)).toNat
theorem fix_wrapS {k : Nat} (hk : k = 1 ∨ k = 2 ∨ k = 4 ∨ k = 8) (n : Int) : fix (QE k n) k = fix n k := by
 unfold fix QE sgn
 congr 1
 rcases hk with rfl | rfl | rfl | rfl
 ·simp only [Nat.pow_one, Int.pow_one]; split <;> omega
 ·simp only [show (256 : Nat) ^ 2 = 65536 from rfl, show (256 : Int) ^ 2 = 65536 from rfl]; split <;> omega
 ·simp only [show (256 : Nat) ^ 4 = 4294967296 from rfl, show (256 : Int) ^ 4 = 4294967296 from rfl]; split <;> omega
 ·simp only [show (256 : Nat) ^ 8 = 18446744073709551616 from rfl, show (256 : Int) ^ 8 = 18446744073709551616 from rfl]; split <;> omega
theorem fix_mod (n : Int) (k : Nat) : fix (n % (256 ^ k : Int)) k = fix n k := by
 unfold fix; rw [Int.emod_emod]
def mP (k : PK) (kind nul : Int) : Bool :=
 match k with
 | .i8 => JP kind 1
 | .i16 => JP kind 2
 | .u16 => JP kind 5
 | .i32 => JP kind 3
 | .i64 => JP kind 4
 | .f64 => JP kind 6
 | .bool => JP kind 0
 | .uuid => JP kind 7
 | .str => JP kind 8 && decide (nul < 0)
 | .nstr => JP kind 8 && decide (0 ≤ nul)
 | .byt => JP kind 9 && decide (nul < 0)
 | .nbyt => JP kind 9 && decide (0 ≤ nul)
def toP (ver : Int) (k : PK) (nul : Int) (t : Tr) : D :=
 match k with
 | .i8 => .n (QE 1 t.n)
 | .i16 => .n (QE 2 t.n)
 | .u16 => .n (t.n % (256 ^ 2 : Int))
 | .i32 => .n (QE 4 t.n)
 | .i64 => .n (QE 8 t.n)
 | .f64 => .n (t.n % (256 ^ 8 : Int))
 | .bool => .n (t.n % 2)
 | .uuid => .s (some ((t.s ++ List.replicate 16 0).take 16))
 | .str | .byt => .s (some (t.s.take most))
 | .nstr | .nbyt => if JR nul ver t.null then .s none else .s (some (t.s.take most))
theorem sNull_neg {nul ver : Int} (h : nul < 0) (b : Bool) : JR nul ver b = false := by
 unfold JR
 rw [decide_eq_false (by omega)]; simp
theorem take_most (l : List UInt8) : (l.take most).length ≤ 32767 := by rw [List.length_take]; unfold most; omega
theorem toP_ok {ver : Int} {k : PK} {nul : Int} {t : Tr} : okP k (toP ver k nul t) := by
 cases k <;> simp only [okP, toP]
 ·refine ⟨_, rfl, ?_⟩; unfold QE sgn; simp only [Nat.pow_one, Int.pow_one]; split <;> omega
 ·refine ⟨_, rfl, ?_⟩; unfold QE sgn; simp only [show (256 : Nat) ^ 2 = 65536 from rfl, show (256 : Int) ^ 2 = 65536 from rfl]; split <;> omega
 ·refine ⟨_, rfl, ?_⟩; unfold QE sgn; simp only [show (256 : Nat) ^ 4 = 4294967296 from rfl, show (256 : Int) ^ 4 = 4294967296 from rfl]; split <;> omega
 ·refine ⟨_, rfl, ?_⟩; unfold QE sgn; simp only [show (256 : Nat) ^ 8 = 18446744073709551616 from rfl, show (256 : Int) ^ 8 = 18446744073709551616 from rfl]; split <;> omega
 ·refine ⟨_, rfl, ?_⟩; simp only [show (256 : Int) ^ 2 = 65536 from rfl]; omega
 ·rcases Int.emod_two_eq t.n with h | h <;> rw [h] <;> simp
 ·refine ⟨_, rfl, ?_⟩; simp only [show (256 : Int) ^ 8 = 18446744073709551616 from rfl]; omega
 ·exact ⟨_, rfl, by simp⟩
 ·exact ⟨_, rfl, take_most _⟩
 ·split
  ·exact .inl rfl
  ·exact .inr ⟨_, rfl, take_most _⟩
 ·exact ⟨_, rfl, take_most _⟩
 ·split
  ·exact .inl rfl
  ·exact .inr ⟨_, rfl, take_most _⟩
theorem toP_enc {ver : Int} {k : PK} {kind nul : Int} {t : Tr} {flex : Bool} {part : Tr → List UInt8} (h : mP k kind nul = true) : encP k flex (toP ver k nul t) = sVal kind part (JR nul ver t.null) flex t := by
 have fx : ∀ (n : Int) (k : Nat), (k = 1 ∨ k = 2 ∨ k = 4 ∨ k = 8) → fix (QE k n) k = fix n k := fun n k hk => fix_wrapS hk n
 cases k <;> simp only [mP, UA, decide_eq_true_eq] at h
 ·rw [Jw h]; show fix (QE 1 t.n) 1 = fix t.n 1; exact fx _ _ (by omega)
 ·rw [Jw h]; show fix (QE 2 t.n) 2 = fix t.n 2; exact fx _ _ (by omega)
 ·rw [Jw h]; show fix (QE 4 t.n) 4 = fix t.n 4; exact fx _ _ (by omega)
 ·rw [Jw h]; show fix (QE 8 t.n) 8 = fix t.n 8; exact fx _ _ (by omega)
 ·rw [Jw h]; show fix (t.n % (256 ^ 2 : Int)) 2 = fix t.n 2; exact fix_mod _ _
 ·rw [Jw h]
  show [if t.n % 2 = 0 then (0 : UInt8) else 1] = [UInt8.ofNat (t.n % 2).toNat]
  rcases Int.emod_two_eq t.n with h | h <;> rw [h] <;> rfl
 ·rw [Jw h]; show fix (t.n % (256 ^ 8 : Int)) 8 = fix t.n 8; exact fix_mod _ _
 ·rw [Jw h]; rfl
 ·rw [Jw h.1, sNull_neg h.2]; rfl
 ·rw [Jw h.1]
  cases hn : JR nul ver t.null
  ·simp only [toP, hn, UB, if_false]; rfl
  ·simp only [toP, hn, if_true]; simp [encP, sVal, sCnt]
 ·rw [Jw h.1, sNull_neg h.2]; rfl
 ·rw [Jw h.1]
  cases hn : JR nul ver t.null
  ·simp only [toP, hn, UB, if_false]; rfl
  ·simp only [toP, hn, if_true]; simp [encP, sVal, sCnt]
/-! ### Tags -/
def sTagU (least : Nat) (t : Tr) : List (Nat × List UInt8) := (sUnk least t.u).map fun x => (x.1, x.2.take most)
theorem insTag_mem {t x : Nat × List UInt8} : ∀ {ts : List (Nat × List UInt8)}, x ∈ Qf t ts → x = t ∨ x ∈ ts
 | [], h => by simp only [Qf, List.mem_singleton] at h; exact .inl h
 | y :: ys, h => by
  simp only [Qf] at h
  split at h
  ·simp only [List.mem_cons] at h
   rcases h with rfl | h
   ·exact .inr List.mem_cons_self
   ·rcases insTag_mem h with h | h
    ·exact .inl h
    ·exact .inr (List.mem_cons_of_mem _ h)
  ·split at h
   ·exact .inr h
   ·simp only [List.mem_cons] at h
    rcases h with rfl | rfl | h
    ·exact .inl rfl
    ·exact .inr List.mem_cons_self
    ·exact .inr (List.mem_cons_of_mem _ h)
theorem insTag_sorted {t : Nat × List UInt8} : ∀ {ts : List (Nat × List UInt8)}, ts.Pairwise (fun x y => x.1 < y.1) → (Qf t ts).Pairwise (fun x y => x.1 < y.1)
 | [], _ => by simp [Qf]
 | y :: ys, h => by
  have h0 := h
  rw [List.pairwise_cons] at h
  simp only [Qf]
  split
  ·rename_i h1
   rw [List.pairwise_cons]
   refine ⟨fun z hz => ?_, insTag_sorted h.2⟩
   rcases insTag_mem hz with rfl | hz
   ·exact h1
   ·exact h.1 z hz
  ·split
   ·exact h0
   ·rename_i h1 h2
    rw [List.pairwise_cons]
    refine ⟨fun z hz => ?_, h0⟩
    simp only [List.mem_cons] at hz
    rcases hz with rfl | hz
    ·omega
    ·have := h.1 z hz; omega
theorem insTag_len {t : Nat × List UInt8} : ∀ {ts : List (Nat × List UInt8)}, (Qf t ts).length ≤ ts.length + 1
 | [] => by simp [Qf]
 | y :: ys => by
  have := @insTag_len t ys
  simp only [Qf]
  split
  ·simp only [List.length_cons]; omega
  ·split <;> simp
theorem sUnk_fold {least : Nat} : ∀ (l out : List (Nat × List UInt8)), out.Pairwise (fun x y => x.1 < y.1) →
  (l.foldl (fun out t => if t.1 < least then out else Qf t out) out).Pairwise (fun x y => x.1 < y.1) ∧ (l.foldl (fun out t => if t.1 < least then out else Qf t out) out).length ≤ out.length + l.length ∧
  ∀ x ∈ l.foldl (fun out t => if t.1 < least then out else Qf t out) out, x ∈ out ∨ (x ∈ l ∧ least ≤ x.1)
 | [], out, h => ⟨h, by simp, fun x hx => .inl hx⟩
 | t :: l, out, h => by
  simp only [List.foldl_cons]
  split
  ·obtain ⟨h1, h2, h3⟩ := sUnk_fold (least := least) l out h
   exact ⟨h1, by simp only [List.length_cons]; omega, fun x hx => by rcases h3 x hx with h | h; exact .inl h; exact .inr ⟨List.mem_cons_of_mem _ h.1, h.2⟩⟩
  ·obtain ⟨h1, h2, h3⟩ := sUnk_fold (least := least) l (Qf t out) (insTag_sorted h)
   refine ⟨h1, by have := @insTag_len t out; simp only [List.length_cons]; omega, fun x hx => ?_⟩
   rcases h3 x hx with h | h
   ·rcases insTag_mem h with rfl | h
    ·exact .inr ⟨List.mem_cons_self, by omega⟩
    ·exact .inl h
   ·exact .inr ⟨List.mem_cons_of_mem _ h.1, h.2⟩
def Qt (u : List (Nat × List UInt8)) : Prop := ∀ x ∈ u, x.1 < 4294967296
theorem sTagU_ok {least : Nat} {t : Tr} (h : Qt t.u) : (sTagU least t).Pairwise (fun x y => x.1 < y.1) ∧ (sTagU least t).length ≤ 32767 ∧ ∀ x ∈ sTagU least t, x.1 < 4294967296 ∧ x.2.length ≤ 32767 ∧ least ≤ x.1 := by
 unfold sTagU sUnk
 obtain ⟨h1, h2, h3⟩ := sUnk_fold (least := least) (t.u.take most) [] List.Pairwise.nil
 refine ⟨?_, ?_, fun x hx => ?_⟩
 ·rw [List.pairwise_map]; exact h1
 ·rw [List.length_map]; simp only [List.length_nil, List.length_take] at h2; unfold most at h2 ⊢; omega
 ·simp only [List.mem_map] at hx
  obtain ⟨y, hy, rfl⟩ := hx
  rcases h3 y hy with h' | h'
  ·simp at h'
  ·exact ⟨h y (List.mem_of_mem_take h'.1), take_most _, h'.2⟩
/-! ### Known tags -/
def tgF : Fds → Nat → List (Nat × Fd)
 | .nil, _ => []
 | .cons f r, i => (if 0 ≤ f.tag then [(i, f)] else []) ++ tgF r (i + 1)
def knM1 (q : KT) (x : Nat × Fd) : Bool := Nat.beq q.pos x.1 && JP x.2.tag q.tag && mP q.k x.2.kind x.2.nul && JP x.2.df q.df && Ya q.k q.df && Nat.blt q.tag 1000
def knM2 : List KT → List (Nat × Fd) → Bool
 | [], [] => true
 | q :: r, x :: xs => knM1 q x && knM2 r xs
 | _, _ => false
def knM (kn : List KT) (sub : Fds) : Bool := knM2 kn (tgF sub 0) && ascT 0 kn && Nat.ble kn.length 1000
def numT (k : PK) (t : Tr) : Int := match toP 0 k (-1) t with | .n n => n | _ => 0
def sKn (kn : List KT) (t : Tr) : List (Nat × List UInt8) := kn.flatMap fun q => q.enc (numT q.k (t.l.getD q.pos .zero))
def sTagK (kn : List KT) (sub : Fds) (t : Tr) : List (Nat × List UInt8) := sKn kn t ++ sTagU (Jr sub) t
theorem rangeB_ok {k : PK} {n : Int} (h : Ya k n = true) : okP k (.n n) := by
 cases k <;> simp only [Ya, UA, decide_eq_true_eq, UB] at h <;> exact ⟨n, rfl, h.1, h.2⟩
theorem rangeB_numK {k : PK} {n : Int} (h : Ya k n = true) : k.isNum = true := by
 cases k <;> simp [Ya] at h <;> rfl
theorem toP_num {k : PK} (h : k.isNum = true) (ver nul : Int) (t : Tr) : toP ver k nul t = .n (numT k t) := by
 cases k <;> simp only [PK.isNum, UB] at h <;> rfl
theorem encP_num {k : PK} (h : k.isNum = true) (flex : Bool) (d : D) : encP k flex d = encP k false d := encP_two (by cases k <;> first | rfl | simp [PK.isNum] at h) flex d
theorem mP_kind {k : PK} {kind nul : Int} (h : mP k kind nul = true) (hk : k.isNum = true) : kind ≠ 0 ∧ kind ≠ 7 ∧ kind ≠ 8 ∧ kind ≠ 9 ∧ kind ≠ 10 ∧ kind ≠ 11 := by
 cases k <;> simp only [PK.isNum, UB] at hk <;> (have := Jw h; subst this; decide)
theorem kField_num {ver : Int} {flex : Bool} {k : PK} (hk : k.isNum = true) {f : Fd} (hm : mP k f.kind f.nul = true) (t : Tr) : JU ver flex f t = encP k false (.n (numT k t)) := by
 cases f with
 | mk kind fr to nul tag df of sub =>
  have hm' : mP k kind nul = true := hm
  obtain ⟨h0, h7, h8, h9, h10, h11⟩ := mP_kind hm' hk
  rw [JU, if_neg h11, if_neg (by rintro ⟨h, _⟩; exact h10 h), ← toP_enc (ver := ver) hm', toP_num hk, encP_num hk]
theorem sUsual_num {k : PK} (hk : k.isNum = true) {f : Fd} (hm : mP k f.kind f.nul = true) (hr : Ya k f.df = true) (t : Tr) : Qc f t = decide (numT k t = f.df) := by
 cases f with
 | mk kind fr to nul tag df of sub =>
  have hm' : mP k kind nul = true := hm
  obtain ⟨h0, h7, h8, h9, h10, h11⟩ := mP_kind hm' hk
  have hr' : Ya k df = true := hr
  rw [Qc, if_neg h0, if_neg h7, if_neg (by rintro (h | h); exact h8 h; exact h9 h), if_neg h11, if_neg h10]
  have e1 : ∀ t : Tr, fix t.n (sWid kind) = encP k false (.n (numT k t)) := fun t => by
   rw [← kField_num (ver := 0) (flex := false) (f := .mk kind fr to nul tag df of sub) hk hm t, JU, if_neg h11, if_neg (by rintro ⟨h, _⟩; exact h10 h)]
   simp [sVal, h0, h7, h8, h9, h10]
  have e2 : fix df (sWid kind) = encP k false (.n df) := by
   have := e1 (.mk df [] false .nil [])
   have h3 : okP k (.n (numT k (.mk df [] false .nil []))) := by rw [← toP_num hk 0 (-1)]; exact toP_ok
   rw [show (Tr.mk df [] false .nil []).n = df from rfl] at this
   rw [this]
   congr 2
   cases k <;> simp only [PK.isNum, UB] at hk <;> simp only [Ya, UA, decide_eq_true_eq] at hr'
   ·show QE 1 df = df; unfold QE sgn; simp only [Nat.pow_one, Int.pow_one]; split <;> omega
   ·show QE 2 df = df; unfold QE sgn; simp only [show (256 : Nat) ^ 2 = 65536 from rfl, show (256 : Int) ^ 2 = 65536 from rfl]; split <;> omega
   ·show QE 4 df = df; unfold QE sgn; simp only [show (256 : Nat) ^ 4 = 4294967296 from rfl, show (256 : Int) ^ 4 = 4294967296 from rfl]; split <;> omega
   ·show QE 8 df = df; unfold QE sgn; simp only [show (256 : Nat) ^ 8 = 18446744073709551616 from rfl, show (256 : Int) ^ 8 = 18446744073709551616 from rfl]; split <;> omega
   ·show df % (256 ^ 2 : Int) = df; simp only [show (256 : Int) ^ 2 = 65536 from rfl]; omega
  rw [e1, e2]
  have ok1 : okP k (.n (numT k t)) := by rw [← toP_num hk 0 (-1)]; exact toP_ok
  congr 1
  apply propext
  constructor
  ·intro h
   have r1 := rtP (flex := false) [] ok1
   have r2 := rtP (flex := false) [] (rangeB_ok hr')
   rw [h, r2] at r1
   simp only [UC, Prod.mk.injEq, D.n.injEq, and_true] at r1
   exact r1.symm
  ·intro h
   show encP k false (.n (numT k t)) = encP k false (.n df)
   have h' : numT k t = df := h
   rw [h']
theorem kKn_tgF {ver : Int} {flex : Bool} {g : Nat} {t : Tr} : ∀ (fs : Fds) (i : Nat), kKn ver flex g fs i t = (tgF fs i).flatMap fun x => if x.2.tag = (g : Int) then (if Qc x.2 (t.l.getD x.1 .zero) then [] else [(g, JU ver flex x.2 (t.l.getD x.1 .zero))]) else []
 | .nil, i => by rw [kKn]; rfl
 | .cons f r, i => by
  rw [kKn, tgF, List.flatMap_append, ← kKn_tgF r (i + 1)]
  congr 1
  by_cases h0 : 0 ≤ f.tag
  ·rw [if_pos h0]
   simp only [List.flatMap_cons, List.flatMap_nil, List.append_nil]
   by_cases h : f.tag = (g : Int)
   ·rw [if_pos h, decide_eq_true h]
    cases Qc f (t.l.getD i .zero) <;> simp
   ·rw [if_neg h, decide_eq_false h]; simp
  ·rw [if_neg h0, decide_eq_false (by omega)]; simp
theorem flat_asc {F : KT → List (Nat × List UInt8)} : ∀ (K : Nat) {kn : List KT} {lo : Nat}, ascT lo kn = true → ((List.range K).flatMap fun g => kn.flatMap fun q => if q.tag = g then F q else []) = (kn.filter fun q => decide (q.tag < K)).flatMap F
 | 0, kn, _, _ => by simp
 | K + 1, kn, lo, h => by
  rw [List.range_succ, List.flatMap_append, flat_asc K h]
  simp only [List.flatMap_cons, List.flatMap_nil, List.append_nil]
  have : ∀ {kn : List KT} {lo : Nat}, ascT lo kn = true → (kn.filter fun q => decide (q.tag < K)).flatMap F ++ (kn.flatMap fun q => if q.tag = K then F q else []) = (kn.filter fun q => decide (q.tag < K + 1)).flatMap F := by
   intro kn
   induction kn with
   | nil => intro _ _; rfl
   | cons q r ih =>
    intro lo h
    simp only [ascT, UA, Nat.ble_eq] at h
    have hlt := ascT_lt h.2
    by_cases h1 : q.tag < K
    ·rw [List.filter_cons_of_pos (by simpa using h1), List.filter_cons_of_pos (by simp; omega), List.flatMap_cons, List.flatMap_cons, List.flatMap_cons, if_neg (by omega), List.nil_append, List.append_assoc, ih h.2]
    ·have e1 : (r.filter fun q => decide (q.tag < K)) = [] := List.filter_eq_nil_iff.2 fun p hp => by have := hlt p hp; simp; omega
     have e2 : (r.filter fun q => decide (q.tag < K + 1)) = [] := List.filter_eq_nil_iff.2 fun p hp => by have := hlt p hp; simp; omega
     have e3 : (r.flatMap fun q => if q.tag = K then F q else []) = [] := by
      rw [List.flatMap_eq_nil_iff]
      intro p hp
      rw [if_neg (by have := hlt p hp; omega)]
     rw [List.filter_cons_of_neg (by simpa using h1), e1, List.flatMap_cons, e3]
     by_cases h2 : q.tag = K
     ·rw [if_pos h2, List.filter_cons_of_pos (by simp; omega), e2]; simp
     ·rw [if_neg h2, List.filter_cons_of_neg (by simp; omega), e2]; simp
  exact this h
theorem sKnown_fold : ∀ (l : List Fd) (n : Nat), n ≤ l.foldl (fun n f => if 0 ≤ f.tag then max n (f.tag.toNat + 1) else n) n ∧ ∀ f ∈ l, 0 ≤ f.tag → f.tag.toNat < l.foldl (fun n f => if 0 ≤ f.tag then max n (f.tag.toNat + 1) else n) n
 | [], n => ⟨Nat.le_refl _, by simp⟩
 | x :: xs, n => by
  rw [List.foldl_cons]
  obtain ⟨h1, h2⟩ := sKnown_fold xs (if 0 ≤ x.tag then max n (x.tag.toNat + 1) else n)
  refine ⟨Nat.le_trans ?_ h1, fun f hf h0 => ?_⟩
  ·split <;> omega
  ·rcases List.mem_cons.1 hf with rfl | hf
   ·rw [if_pos h0] at h1 ⊢; omega
   ·exact h2 f hf h0
theorem tgF_mem : ∀ {fs : Fds} {i : Nat} {x : Nat × Fd}, x ∈ tgF fs i → x.2 ∈ fs.toList ∧ 0 ≤ x.2.tag
 | .nil, _, x, h => by simp [tgF] at h
 | .cons f r, i, x, h => by
  rw [tgF, List.mem_append] at h
  rcases h with h | h
  ·split at h
   ·simp only [List.mem_singleton] at h; subst h; rename_i h0; exact ⟨by simp [Fds.toList], h0⟩
   ·simp at h
  ·have := tgF_mem h; exact ⟨by simp [Fds.toList, this.1], this.2⟩
theorem knM2_known {K : Nat} : ∀ {kn : List KT} {xs : List (Nat × Fd)}, knM2 kn xs = true → (∀ x ∈ xs, x.2.tag.toNat < K) → ∀ q ∈ kn, q.tag < K ∧ Ya q.k q.df = true ∧ q.tag < 1000
 | [], _, _, _, q, hq => by simp at hq
 | p :: r, [], h, _, q, hq => by simp [knM2] at h
 | p :: r, x :: xs, h, hx, q, hq => by
  simp only [knM2, knM1, UA, Nat.beq_eq, Nat.blt_eq] at h
  rcases List.mem_cons.1 hq with rfl | hq
  ·have h1 := Jw h.1.1.1.1.1.2
   have h2 := hx x List.mem_cons_self
   exact ⟨by omega, h.1.1.2, h.1.2⟩
  ·exact knM2_known h.2 (fun y hy => hx y (List.mem_cons_of_mem _ hy)) q hq
theorem knM_lt {kn : List KT} {sub : Fds} (h : knM kn sub = true) : ∀ q ∈ kn, q.tag < Jr sub ∧ Ya q.k q.df = true ∧ q.tag < 1000 := by
 simp only [knM, UA] at h
 exact knM2_known h.1.1 fun x hx => (sKnown_fold sub.toList 0).2 x.2 (tgF_mem hx).1 (tgF_mem hx).2
theorem kKns_eq {ver : Int} {flex : Bool} {kn : List KT} {sub : Fds} {t : Tr} (h : knM kn sub = true) : kKns ver flex sub t = sKn kn t := by
 have hlt := knM_lt h
 simp only [knM, UA] at h
 obtain ⟨⟨h1, h2⟩, _⟩ := h
 unfold kKns sKn
 have e : ∀ g : Nat, kKn ver flex g sub 0 t = kn.flatMap fun q => if q.tag = g then q.enc (numT q.k (t.l.getD q.pos .zero)) else [] := fun g => by
  rw [kKn_tgF]
  have : ∀ {kn : List KT} {xs : List (Nat × Fd)}, knM2 kn xs = true → (xs.flatMap fun x => if x.2.tag = (g : Int) then (if Qc x.2 (t.l.getD x.1 .zero) then [] else [(g, JU ver flex x.2 (t.l.getD x.1 .zero))]) else []) = kn.flatMap fun q => if q.tag = g then q.enc (numT q.k (t.l.getD q.pos .zero)) else [] := by
   intro kn
   induction kn with
   | nil => intro xs h; cases xs with
    | nil => rfl
    | cons x xs => simp [knM2] at h
   | cons q r ih =>
    intro xs h
    cases xs with
    | nil => simp [knM2] at h
    | cons x xs =>
     simp only [knM2, knM1, UA, Nat.beq_eq] at h
     obtain ⟨⟨⟨⟨⟨⟨k1, k2⟩, k3⟩, k4⟩, k5⟩, _⟩, k6⟩ := h
     have k2' := Jw k2
     have k4' := Jw k4
     have hk := rangeB_numK k5
     rw [List.flatMap_cons, List.flatMap_cons, ih k6]
     congr 1
     by_cases hg : q.tag = g
     ·rw [if_pos hg, if_pos (by omega), sUsual_num hk k3 (by rw [k4']; exact k5), kField_num hk k3, k4', ← k1]
      unfold KT.enc
      subst hg
      by_cases hd : numT q.k (t.l.getD q.pos .zero) = q.df
      ·rw [if_pos hd, decide_eq_true hd]; rfl
      ·rw [if_neg hd, decide_eq_false hd]; rfl
     ·rw [if_neg hg, if_neg (by omega)]
  exact this h1
 rw [show (fun g => kKn ver flex g sub 0 t) = fun g => kn.flatMap fun q => if q.tag = g then q.enc (numT q.k (t.l.getD q.pos .zero)) else [] from funext e, flat_asc _ h2, List.filter_eq_self.2 fun q hq => by simpa using (hlt q hq).1]
theorem sKn_tag {kn : List KT} {t : Tr} {x : Nat × List UInt8} (h : x ∈ sKn kn t) : ∃ q ∈ kn, ∃ n, n ≠ q.df ∧ x = (q.tag, encP q.k false (.n n)) ∧ n = numT q.k (t.l.getD q.pos .zero) := by
 unfold sKn at h
 rw [List.mem_flatMap] at h
 obtain ⟨q, hq, hx⟩ := h
 unfold KT.enc at hx
 split at hx
 ·simp at hx
 ·rename_i hn
  simp only [List.mem_singleton] at hx
  exact ⟨q, hq, _, hn, hx, rfl⟩
theorem sKn_pair {t : Tr} : ∀ {kn : List KT} {lo : Nat}, ascT lo kn = true → (sKn kn t).Pairwise (fun x y => x.1 < y.1) ∧ (sKn kn t).length ≤ kn.length
 | [], _, _ => by simp [sKn]
 | q :: r, lo, h => by
  simp only [ascT, UA] at h
  obtain ⟨i1, i2⟩ := sKn_pair (t := t) h.2
  have e : sKn (q :: r) t = q.enc (numT q.k (t.l.getD q.pos .zero)) ++ sKn r t := by unfold sKn; rw [List.flatMap_cons]
  rw [e]
  unfold KT.enc
  split
  ·exact ⟨i1, by simp only [List.nil_append, List.length_cons]; omega⟩
  ·refine ⟨?_, by simp only [UD, List.length_cons, List.length_nil]; omega⟩
   rw [List.singleton_append, List.pairwise_cons]
   refine ⟨fun y hy => ?_, i1⟩
   obtain ⟨p, hp, n, _, rfl, _⟩ := sKn_tag hy
   exact ascT_lt h.2 p hp
theorem find_asc : ∀ {kn : List KT} {lo : Nat}, ascT lo kn = true → ∀ q ∈ kn, kn.find? (fun p => decide (p.tag = q.tag)) = some q
 | [], _, _, q, hq => by simp at hq
 | p :: r, lo, h, q, hq => by
  simp only [ascT, UA] at h
  rcases List.mem_cons.1 hq with rfl | hq
  ·rw [List.find?_cons_of_pos (by simp)]
  ·have := ascT_lt h.2 q hq
   rw [List.find?_cons_of_neg (by simp; omega)]
   exact find_asc h.2 q hq
theorem sTagK_ok {kn : List KT} {sub : Fds} {t : Tr} (hm : knM kn sub = true) (h : Qt t.u) : okTagsK kn (sTagK kn sub t) := by
 have hlt := knM_lt hm
 obtain ⟨u1, u2, u3⟩ := sTagU_ok (least := Jr sub) h
 simp only [knM, UA, Nat.ble_eq] at hm
 obtain ⟨⟨h1, h2⟩, h3⟩ := hm
 obtain ⟨p1, p2⟩ := sKn_pair (t := t) h2
 have hex : ∀ q ∈ kn, ∀ n, okP q.k (.n (numT q.k n)) := fun q hq n => by
  have hk := rangeB_numK (hlt q hq).2.1
  rw [← toP_num hk 0 (-1)]; exact toP_ok
 have hsz : ∀ q ∈ kn, ∀ n, (encP q.k false (.n n)).length ≤ 32767 := fun q hq n => by
  rw [encP_oct (rangeB_numK (hlt q hq).2.1)]; cases q.k <;> simp [PK.oct]
 unfold sTagK
 refine ⟨⟨?_, ?_, ?_⟩, ?_⟩
 ·rw [List.pairwise_append]
  refine ⟨p1, u1, fun x hx y hy => ?_⟩
  obtain ⟨q, hq, n, _, rfl, _⟩ := sKn_tag hx
  have := (hlt q hq).1
  have := (u3 y hy).2.2
  show q.tag < y.1
  omega
 ·rw [UD]; omega
 ·intro x hx
  rw [List.mem_append] at hx
  rcases hx with hx | hx
  ·obtain ⟨q, hq, n, _, rfl, _⟩ := sKn_tag hx
   have := (hlt q hq).2.2
   exact ⟨by show q.tag < 4294967296; omega, hsz q hq n⟩
  ·exact ⟨(u3 x hx).1, (u3 x hx).2.1⟩
 ·intro x hx q' hf
  rw [List.mem_append] at hx
  rcases hx with hx | hx
  ·obtain ⟨q, hq, n, hn, rfl, hnn⟩ := sKn_tag hx
   dsimp only at hf
   rw [find_asc h2 q hq] at hf
   have hqq : q = q' := Option.some.inj hf
   rw [← hqq]
   exact ⟨n, hn, rfl, by rw [hnn]; exact hex q hq _⟩
  ·have hp := List.find?_some hf
   have hm' := List.mem_of_find?_eq_some hf
   have := (hlt q' hm').1
   have := (u3 x hx).2.2
   simp only [decide_eq_true_eq] at hp
   omega
def skipT : Fds → Nat → Fds × Nat
 | .nil, i => (.nil, i)
 | .cons f r, i => if 0 ≤ f.tag then skipT r (i + 1) else (.cons f r, i)
theorem skipT_fst : ∀ (fs : Fds) (i j : Nat), (skipT fs i).1 = (skipT fs j).1
 | .nil, _, _ => rfl
 | .cons f r, i, j => by
  unfold skipT
  split
  ·exact skipT_fst r _ _
  ·rfl
theorem kPlain_skip {ver : Int} {flex : Bool} {t : Tr} : ∀ (fs : Fds) (i : Nat), JT ver flex fs i t = JT ver flex (skipT fs i).1 (skipT fs i).2 t
 | .nil, _ => rfl
 | .cons f r, i => by
  unfold skipT
  split
  ·rename_i h
   rw [JT, decide_eq_false (by omega)]
   simp only [Bool.false_and, UB, if_false, List.nil_append]
   exact kPlain_skip r (i + 1)
  ·rfl
theorem skipT_tag : ∀ {fs : Fds} {i : Nat} {f : Fd} {r : Fds}, (skipT fs i).1 = .cons f r → f.tag < 0
 | .nil, _, f, r, h => by cases h
 | .cons f' r', i, f, r, h => by
  unfold skipT at h
  split at h
  ·exact skipT_tag h
  ·injection h with h1 h2; subst h1; omega
/-! ### All of it -/
def cM (mx : Nat) (c : Cnd) (fr to : Int) : Bool := (List.range (mx + 1)).all fun v => (c.ok (v : Nat)) == sHas fr to (v : Nat)
def nulM (nul : Option Nat) (fn : Int) : Bool :=
 match nul with
 | none => decide (fn < 0)
 | some nv => decide (fn < 0) || decide ((nv : Int) ≤ fn)
theorem skipT_id {f : Fd} {r : Fds} {i : Nat} (h : f.tag < 0) : skipT (.cons f r) i = (.cons f r, i) := by
 unfold skipT; rw [if_neg (by omega)]
def parT : Flds → Fds → Bool
 | .nil, .nil => true
 | .cons c _ _ _ _ r, .cons f r' => (if c.isTag then decide (f.tag = 0) else decide (f.tag < 0)) && parT r r'
 | _, _ => false
def kmT (kn : List KT) (fs : Flds) (sub : Fds) : Bool := (if JO fs then kn.isEmpty && parT fs sub else knM kn sub) && oneT fs && payF fs
def usMF : Flds → Fds → Bool
 | .nil, .nil => true
 | .cons c _ _ _ (.prim k _) r, .cons f r' => !c.isTag && decide (f.tag < 0) && k.isNum && mP k f.kind f.nul && JP f.df 0 && Ya k 0 && usMF r r'
 | _, _ => false
def usM : Ty → Fd → Bool
 | .arr .., _ => true
 | .struct _ _ _ tg fs, .mk _ _ _ _ _ _ _ sub => (knOf tg).isEmpty && usMF fs sub
 | _, _ => false
mutual
def mTy (mx : Nat) (fx : Bool) : Ty → Fd → Bool
 | .prim k _, .mk kind _ _ nul _ _ _ _ => mP k kind nul
 | .enum k _ _, .mk kind _ _ nul _ _ _ _ => mP k kind nul
 | .arr nul _ _ el, .mk kind _ _ fn _ _ of sub => JP kind 11 && nulM nul fn && mEl mx fx el of sub
 | .vstr _ _ _, _ => false
 | .struct _ _ _ tg fs, .mk kind _ _ nul _ _ _ sub => JP kind 10 && decide (nul < 0) && (tg.isSome || !fx) && kmT (knOf tg) fs sub && mF mx fx fs sub
def mEl (mx : Nat) (fx : Bool) : Ty → Int → Fds → Bool
 | .prim k _, of, _ => mP k of (-1)
 | .struct _ _ _ tg fs, of, sub => JP of 10 && (tg.isSome || !fx) && kmT (knOf tg) fs sub && mF mx fx fs sub
 | _, _, _ => false
def mF (mx : Nat) (fx : Bool) : Flds → Fds → Bool
 | .nil, fds => (match (skipT fds 0).1 with | .nil => true | .cons _ _ => false)
 | .cons c _ _ _ ty r, fds => if c.isTag then (match fds with | .cons f r' => decide (f.tag = 0) && decide (f.nul < 0) && usM ty f && mTy mx fx ty f && mF mx fx r r' | .nil => false) else (match (skipT fds 0).1 with | .cons f r' => cM mx c f.fr f.to && mTy mx fx ty f && mF mx fx r r' | .nil => false)
end
mutual
def toD (ver : Int) (flex : Bool) : Ty → Fd → Tr → D
 | .prim k _, f, t => toP ver k f.nul t
 | .enum k _ _, f, t => toP ver k f.nul t
 | .vstr _ _ _, _, _ => .n 0
 | .arr _ _ _ el, f, t => .l (JR f.nul ver t.null) ((if JR f.nul ver t.null then [] else t.l.take most).map (toE ver flex el f.sub))
 | .struct _ _ _ tg fs, f, t => .r (toF ver flex fs f.sub 0 t) (sTagK (knOf tg) f.sub t)
def toE (ver : Int) (flex : Bool) : Ty → Fds → Tr → D
 | .prim k _, _, t => toP ver k (-1) t
 | .struct _ _ _ tg fs, sub, t => .r (toF ver flex fs sub 0 t) (sTagK (knOf tg) sub t)
 | _, _, _ => .n 0
def toF (ver : Int) (flex : Bool) : Flds → Fds → Nat → Tr → List D
 | .nil, _, _, _ => []
 | .cons c _ _ _ ty r, fds, i, t => if c.isTag then (match fds with | .cons f r' => toD ver flex ty f (t.l.getD i .zero) :: toF ver flex r r' (i + 1) t | .nil => []) else (match skipT fds i with | (.cons f r', j) => toD ver flex ty f (t.l.getD j .zero) :: toF ver flex r r' (j + 1) t | (.nil, _) => [])
end
theorem cM_at {mx : Nat} {c : Cnd} {fr to : Int} {ver : Int} (h : cM mx c fr to = true) (h0 : 0 ≤ ver) (h1 : ver ≤ mx) : c.ok ver = sHas fr to ver := by
 have := List.all_eq_true.1 h ver.toNat (List.mem_range.2 (by omega))
 rw [beq_iff_eq] at this
 rwa [show ((ver.toNat : Nat) : Int) = ver from by omega] at this
theorem parT_known : ∀ {fs : Flds} {fds : Fds}, parT fs fds = true → (∀ f ∈ fds.toList, f.tag ≤ 0) ∧ (JO fs = true → ∃ f ∈ fds.toList, f.tag = 0)
 | .nil, .nil, _ => ⟨by simp [Fds.toList], by simp [JO]⟩
 | .nil, .cons _ _, h => by simp [parT] at h
 | .cons .., .nil, h => by simp [parT] at h
 | .cons c _ _ _ _ r, .cons f r', h => by
  simp only [parT, UA] at h
  obtain ⟨h1, h2⟩ := parT_known h.2
  simp only [Fds.toList]
  have h0 := h.1
  refine ⟨fun g hg => ?_, fun ht => ?_⟩
  ·rcases List.mem_cons.1 hg with rfl | hg
   ·split at h0 <;> simp at h0 <;> omega
   ·exact h1 g hg
  ·cases hc : c.isTag with
   | true => rw [hc] at h0; simp at h0; exact ⟨f, List.mem_cons_self, h0⟩
   | false =>
    rw [JO, hc, Bool.false_or] at ht
    obtain ⟨g, g1, g2⟩ := h2 ht
    exact ⟨g, List.mem_cons_of_mem _ g1, g2⟩
theorem fold_le1 : ∀ (l : List Fd) (n : Nat), (∀ f ∈ l, f.tag ≤ 0) → n ≤ 1 → l.foldl (fun n f => if 0 ≤ f.tag then max n (f.tag.toNat + 1) else n) n ≤ 1
 | [], n, _, h => h
 | x :: xs, n, h, hn => by
  rw [List.foldl_cons]
  refine fold_le1 xs _ (fun f hf => h f (List.mem_cons_of_mem _ hf)) ?_
  have := h x List.mem_cons_self
  split <;> omega
theorem sKnown_one {fs : Flds} {fds : Fds} (h : parT fs fds = true) (ht : JO fs = true) : Jr fds = 1 := by
 obtain ⟨h1, h2⟩ := parT_known h
 obtain ⟨f, f1, f2⟩ := h2 ht
 have a := fold_le1 fds.toList 0 h1 (by omega)
 have b := (sKnown_fold fds.toList 0).2 f f1 (by omega)
 unfold Jr; omega
theorem usualF_eq {ver : Int} {flex : Bool} : ∀ {fs : Flds} {fds : Fds} {i : Nat} {t : Tr}, usMF fs fds = true → sUsuals fds i t = Qw fs (toF ver flex fs fds i t)
 | .nil, .nil, i, t, _ => by rw [sUsuals, Qw]
 | .nil, .cons .., _, _, h => by simp [usMF] at h
 | .cons _ _ _ _ ty _, .nil, _, _, h => by cases ty <;> simp [usMF] at h
 | .cons c _ _ _ ty r, .cons f r', i, t, h => by
  cases ty <;> try (simp [usMF] at h; done)
  rename_i k ty
  simp only [usMF, UA, Bool.not_eq_true', decide_eq_true_eq] at h
  obtain ⟨⟨⟨⟨⟨⟨h0, h1⟩, h2⟩, h3⟩, h4⟩, h5⟩, h6⟩ := h
  have hdf := Jw h4
  rw [sUsuals, toF, h0]
  simp only [UB, if_false, skipT_id h1]
  rw [Qw]
  simp only [List.headD_cons, List.tail_cons]
  rw [← usualF_eq h6, sUsual_num h2 h3 (by rw [hdf]; exact h5), toD, toP_num h2, hdf]
  rfl
theorem usual_eq {mx : Nat} {fx : Bool} {ver : Int} {flex : Bool} {ty : Ty} {f : Fd} {t : Tr} (hu : usM ty f = true) (hn : f.nul < 0) (hm : mTy mx fx ty f = true) : Qc f t = QC ty (toD ver flex ty f t) := by
 cases f with
 | mk kind fr to nul tag df of sub =>
 cases ty <;> try (simp [usM] at hu; done)
 ·rename_i nl ty ety el
  simp only [mTy, UA] at hm
  have hk := Jw hm.1.1
  subst hk
  have hn' : JR nul ver t.null = false := sNull_neg hn _
  rw [Qc, toD]
  show _ = QC _ (D.l (JR nul ver t.null) _)
  simp only [show ¬ ((11 : Int) = 0) by omega, show ¬ ((11 : Int) = 7) by omega, show ¬ ((11 : Int) = 8 ∨ (11 : Int) = 9) by omega, if_false, if_true]
  show t.l.isEmpty = List.isEmpty (List.map _ (if JR nul ver t.null then [] else t.l.take most))
  rw [hn']
  cases t.l with
  | nil => rfl
  | cons x xs => simp [most]
 ·rename_i n1 n2 n3 tg fs
  simp only [usM, UA] at hu
  simp only [mTy, UA] at hm
  have hk := Jw hm.1.1.1.1
  subst hk
  rw [Qc, toD]
  simp only [show ¬ ((10 : Int) = 0) by omega, show ¬ ((10 : Int) = 7) by omega, show ¬ ((10 : Int) = 8 ∨ (10 : Int) = 9) by omega, show ¬ ((10 : Int) = 11) by omega, if_false, if_true]
  show _ = (Qw fs (toF ver flex fs sub 0 t) && (sTagK (knOf tg) sub t).isEmpty)
  rw [← usualF_eq hu.2]
  congr 1
  have hkn : knOf tg = [] := by cases h : knOf tg <;> simp_all
  rw [hkn]
  unfold sTagK sKn sTagU
  cases sUnk (Jr sub) t.u <;> rfl
theorem tags_match {fx flex : Bool} {tg : Option TgF} {fs : Flds} {ds : List D} {sub : Fds} {ver : Int} {t : Tr} (h : (tg.isSome || !fx) = true) (hf : flex = true → fx = true) (hk : kmT (knOf tg) fs sub = true) (hT : parT fs sub = true → tagF ver flex fs ds = kKn ver flex 0 sub 0 t) : (if tg.isSome && flex then Jz (tagF ver flex fs ds ++ sTagK (knOf tg) sub t) else []) = kTags ver flex sub t := by
 unfold kTags
 cases flex
 ·simp
 ·rw [hf rfl] at h
  simp only [Bool.not_true, Bool.or_false] at h
  simp only [h, Bool.and_self, if_true]
  simp only [kmT, UA] at hk
  have hk0 := hk.1.1
  cases ht : JO fs with
  | false =>
   rw [ht] at hk0
   simp only [UB, if_false] at hk0
   rw [tagF_no ver true ht, List.nil_append, kKns_eq hk0]
   unfold Jz sTagK Q8 sTagU
   rw [UD, List.length_map, List.flatMap_append, List.flatMap_map]
   rfl
  | true =>
   rw [ht] at hk0
   simp only [if_true, UA] at hk0
   have hkn : knOf tg = [] := by cases h : knOf tg <;> simp_all
   have e1 : kKns ver true sub t = kKn ver true 0 sub 0 t := by
    unfold kKns; rw [sKnown_one hk0.2 ht]; simp
   rw [hkn, hT hk0.2, e1]
   unfold Jz sTagK Q8 sTagU sKn
   simp only [List.flatMap_nil, List.nil_append]
   rw [UD, List.length_map, List.flatMap_append, List.flatMap_map]
   rfl
theorem sTagK_okT {kn : List KT} {fs : Flds} {sub : Fds} {t : Tr} (hm : kmT kn fs sub = true) (h : Qt t.u) : (okTagsK kn (sTagK kn sub t) ∧ (JO fs = true → ∀ x ∈ sTagK kn sub t, x.1 ≠ 0)) ∧ oneT fs = true ∧ payF fs = true := by
 simp only [kmT, UA] at hm
 refine ⟨?_, hm.1.2, hm.2⟩
 have hk0 := hm.1.1
 cases ht : JO fs with
 | false =>
  rw [ht] at hk0
  simp only [UB, if_false] at hk0
  exact ⟨sTagK_ok hk0 h, fun e => by cases e⟩
 | true =>
  rw [ht] at hk0
  simp only [if_true, UA] at hk0
  have hkn : kn = [] := by cases kn <;> simp_all
  subst hkn
  obtain ⟨u1, u2, u3⟩ := sTagU_ok (least := Jr sub) h
  have e : sTagK [] sub t = sTagU (Jr sub) t := by unfold sTagK sKn; simp
  rw [e]
  refine ⟨⟨⟨u1, by omega, fun x hx => ⟨(u3 x hx).1, (u3 x hx).2.1⟩⟩, fun x hx q hq => by simp at hq⟩, fun _ x hx => ?_⟩
  have := (u3 x hx).2.2
  rw [sKnown_one hk0.2 ht] at this
  omega
section
variable {mx : Nat} {fx : Bool} {ver : Int} {flex : Bool} (h0 : 0 ≤ ver) (h1 : ver ≤ mx) (hf : flex = true → fx = true)
include h0 h1 hf
mutual
theorem toD_enc : ∀ (ty : Ty) (f : Fd) (t : Tr), mTy mx fx ty f = true → enc ver flex ty (toD ver flex ty f t) = JU ver flex f t
 | .prim k _, .mk kind fr to nul tag df of sub, t, hm => by
  have hm' : mP k kind nul = true := hm
  rw [toD, enc]
  rw [show (Fd.mk kind fr to nul tag df of sub).nul = nul from rfl]
  have hk11 : kind ≠ 11 := by intro e; subst e; cases k <;> simp [mP, JP] at hm'
  have hk10 : ¬ (kind = 10 ∧ 0 ≤ nul) := by rintro ⟨e, _⟩; subst e; cases k <;> simp [mP, JP] at hm'
  rw [JU, if_neg hk11, if_neg hk10]
  exact toP_enc hm'
 | .enum k _ _, .mk kind fr to nul tag df of sub, t, hm => by
  have hm' : mP k kind nul = true := hm
  rw [toD, enc]
  rw [show (Fd.mk kind fr to nul tag df of sub).nul = nul from rfl]
  have hk11 : kind ≠ 11 := by intro e; subst e; cases k <;> simp [mP, JP] at hm'
  have hk10 : ¬ (kind = 10 ∧ 0 ≤ nul) := by rintro ⟨e, _⟩; subst e; cases k <;> simp [mP, JP] at hm'
  rw [JU, if_neg hk11, if_neg hk10]
  exact toP_enc hm'
 | .vstr .., f, t, hm => by simp [mTy] at hm
 | .arr nul _ _ el, .mk kind fr to fn tag df of sub, t, hm => by
  simp only [mTy, UA] at hm
  obtain ⟨⟨hm1, hm2⟩, hm3⟩ := hm
  have hk := Jw hm1
  subst hk
  rw [toD]
  show enc ver flex _ (D.l (JR fn ver t.null) ((if JR fn ver t.null then [] else t.l.take most).map (toE ver flex el sub))) = _
  rw [enc, JU, if_pos rfl]
  cases hn : JR fn ver t.null with
  | true =>
   have hv : vNul nul ver = true := by
    unfold JR at hn
    simp only [UA, decide_eq_true_eq] at hn
    cases nul with
    | none => rfl
    | some nv =>
     unfold nulM at hm2
     simp only [Bool.or_eq_true, decide_eq_true_eq] at hm2
     have := hm2.resolve_left (by omega)
     cases nv with
     | zero => rfl
     | succ k => unfold vNul; exact decide_eq_true (by omega)
   simp [sCnt, hv]
  | false =>
   simp only [Bool.false_and, UB, if_false, List.length_map, List.flatMap_map, sCnt]
   congr 1
   have : (fun a => enc ver flex el (toE ver flex el sub a)) = sVal of (fun t => JT ver flex sub 0 t ++ (if flex then Q8 ((List.range (Jr sub)).flatMap fun g => kKn ver flex g sub 0 t) (sUnk (Jr sub) t.u) else [])) false flex := funext fun a => toE_enc el of sub a hm3
   rw [this]
 | .struct _ _ _ tg fs, .mk kind fr to nul tag df of sub, t, hm => by
  simp only [mTy, UA, decide_eq_true_eq] at hm
  obtain ⟨⟨⟨⟨hm1, hm2⟩, hm3⟩, hmk⟩, hm4⟩ := hm
  have hk := Jw hm1
  subst hk
  rw [toD]
  show enc ver flex _ (D.r (toF ver flex fs sub 0 t) (sTagK (knOf tg) sub t)) = _
  rw [enc, toF_enc fs sub 0 t hm4, tags_match (ver := ver) hm3 hf hmk (fun hp => toT_enc fs sub 0 t hm4 hp), JU, if_neg (show ¬ (10 : Int) = 11 by omega), if_neg (by rintro ⟨_, h⟩; omega)]
  rfl
theorem toE_enc : ∀ (el : Ty) (of : Int) (sub : Fds) (t : Tr), mEl mx fx el of sub = true → enc ver flex el (toE ver flex el sub t) = sVal of (fun t => JT ver flex sub 0 t ++ (if flex then Q8 ((List.range (Jr sub)).flatMap fun g => kKn ver flex g sub 0 t) (sUnk (Jr sub) t.u) else [])) false flex t
 | .prim k _, of, sub, t, hm => by
  have hm' : mP k of (-1) = true := hm
  rw [toE, enc, toP_enc (ver := ver) (part := fun t => JT ver flex sub 0 t ++ (if flex then Q8 ((List.range (Jr sub)).flatMap fun g => kKn ver flex g sub 0 t) (sUnk (Jr sub) t.u) else [])) hm', sNull_neg (by omega)]
 | .struct _ _ _ tg fs, of, sub, t, hm => by
  simp only [mEl, UA] at hm
  obtain ⟨⟨⟨hm1, hm3⟩, hmk⟩, hm4⟩ := hm
  have hk := Jw hm1
  subst hk
  rw [toE, enc, toF_enc fs sub 0 t hm4, tags_match (ver := ver) hm3 hf hmk (fun hp => toT_enc fs sub 0 t hm4 hp)]
  rfl
 | .enum .., of, sub, t, hm => by simp [mEl] at hm
 | .vstr .., of, sub, t, hm => by simp [mEl] at hm
 | .arr .., of, sub, t, hm => by simp [mEl] at hm
theorem toF_enc : ∀ (fs : Flds) (fds : Fds) (i : Nat) (t : Tr), mF mx fx fs fds = true → encF ver flex fs (toF ver flex fs fds i t) = JT ver flex fds i t
 | .nil, fds, i, t, hm => by
  rw [mF, skipT_fst fds 0 i] at hm
  rw [toF, encF, kPlain_skip]
  split at hm
  ·rename_i h; rw [h, JT]
  ·cases hm
 | .cons c _ _ _ ty r, fds, i, t, hm => by
  cases hct : c.isTag with
  | true =>
   have hok : c.ok ver = false := by cases c <;> first | rfl | cases hct
   unfold mF at hm; rw [hct] at hm
   simp only [if_true] at hm
   cases fds with
   | nil => cases hm
   | cons f r' =>
    simp only [UA, decide_eq_true_eq] at hm
    obtain ⟨⟨⟨⟨k1, k2⟩, k3⟩, k4⟩, k5⟩ := hm
    rw [toF, hct]
    simp only [if_true]
    rw [encF, JT, hok, decide_eq_false (show ¬ f.tag < 0 by omega)]
    simp only [List.headD_cons, List.tail_cons, UB, if_false, Bool.false_and, List.nil_append]
    exact toF_enc r r' (i + 1) t k5
  | false =>
  unfold mF at hm; rw [hct, skipT_fst fds 0 i] at hm
  simp only [UB, if_false] at hm
  unfold toF; rw [hct, kPlain_skip]
  simp only [UB, if_false]
  cases hs : skipT fds i with
  | mk fd j =>
   rw [hs] at hm
   cases fd with
   | nil => cases hm
   | cons f r' =>
    simp only [UA] at hm
    obtain ⟨⟨hm1, hm2⟩, hm3⟩ := hm
    have ht : f.tag < 0 := skipT_tag (i := i) (by rw [hs])
    rw [encF, JT]
    simp only [List.headD_cons, List.tail_cons]
    rw [toF_enc r r' (j + 1) t hm3, toD_enc ty f _ hm2, cM_at hm1 h0 h1, decide_eq_true ht, Bool.true_and]
theorem toT_enc : ∀ (fs : Flds) (fds : Fds) (i : Nat) (t : Tr), mF mx fx fs fds = true → parT fs fds = true → tagF ver flex fs (toF ver flex fs fds i t) = kKn ver flex 0 fds i t
 | .nil, .nil, i, t, hm, hp => by rw [tagF, kKn]
 | .nil, .cons .., i, t, hm, hp => by simp [parT] at hp
 | .cons .., .nil, i, t, hm, hp => by simp [parT] at hp
 | .cons c _ _ _ ty r, .cons f r', i, t, hm, hp => by
  simp only [parT, UA] at hp
  have hp0 := hp.1
  cases hct : c.isTag with
  | true =>
   rw [hct] at hp0
   rw [mF, hct] at hm
   simp only [if_true, UA, decide_eq_true_eq] at hm hp0
   obtain ⟨⟨⟨⟨k1, k2⟩, k3⟩, k4⟩, k5⟩ := hm
   rw [toF, hct]
   simp only [if_true]
   rw [tagF, kKn, hct]
   simp only [List.headD_cons, List.tail_cons, Bool.true_and]
   rw [toT_enc r r' (i + 1) t k5 hp.2, toD_enc ty f _ k4, ← usual_eq (ver := ver) (flex := flex) (t := t.l.getD i .zero) k3 k2 k4, decide_eq_true (show f.tag = ((0 : Nat) : Int) by omega), Bool.true_and]
  | false =>
   rw [hct] at hp0
   simp only [UB, if_false, decide_eq_true_eq] at hp0
   have e0 : skipT (.cons f r') 0 = (.cons f r', 0) := skipT_id hp0
   rw [mF, hct, e0] at hm
   simp only [UB, if_false, UA] at hm
   rw [toF, hct, skipT_id hp0]
   simp only [UB, if_false]
   rw [tagF, kKn, hct, decide_eq_false (show ¬ f.tag = ((0 : Nat) : Int) by omega)]
   simp only [List.headD_cons, List.tail_cons, Bool.false_and, UB, if_false, List.nil_append]
   exact toT_enc r r' (i + 1) t hm.2 hp.2
end
mutual
theorem toD_ok : ∀ (ty : Ty) (f : Fd) (t : Tr), mTy mx fx ty f = true → minOk ver flex ty = true → Qb Qt t → Ok ver flex ty (toD ver flex ty f t)
 | .prim k _, f, t, hm, _, _ => by rw [toD, Ok]; exact toP_ok
 | .enum k _ _, f, t, hm, _, _ => by rw [toD, Ok]; exact toP_ok
 | .vstr .., f, t, hm, _, _ => by simp [mTy] at hm
 | .arr nul _ _ el, .mk kind fr to fn tag df of sub, t, hm, hmin, hg => by
  simp only [mTy, UA] at hm
  obtain ⟨⟨hm1, hm2⟩, hm3⟩ := hm
  simp only [minOk, UA] at hmin
  rw [toD, Ok]
  refine ⟨_, _, rfl, ?_, fun hb => ?_, fun x hx => ?_⟩
  ·rw [List.length_map]; split
   ·simp
   ·rw [List.length_take]; unfold most; omega
  ·have hb' : JR fn ver t.null = true := hb
   have : (Fd.mk kind fr to fn tag df of sub).nul = fn := rfl
   rw [this, hb']
   refine ⟨rfl, ?_⟩
   unfold JR at hb'
   simp only [UA, decide_eq_true_eq] at hb'
   unfold nulM at hm2
   cases nul with
   | none => simp at hm2; omega
   | some nv =>
    simp only [Bool.or_eq_true, decide_eq_true_eq] at hm2
    have := hm2.resolve_left (by omega)
    unfold nulOf
    simp; omega
  ·simp only [List.mem_map] at hx
   obtain ⟨y, hy, rfl⟩ := hx
   have hyl : y ∈ t.l := by
    split at hy
    ·simp at hy
    ·exact List.mem_of_mem_take hy
   have hok := toE_ok el of sub y hm3 hmin.2 (hg.mem hyl)
   exact ⟨hok, enc_pos ver flex el _ hmin.1 hok⟩
 | .struct _ _ _ tg fs, .mk kind fr to nul tag df of sub, t, hm, hmin, hg => by
  simp only [mTy, UA, decide_eq_true_eq] at hm
  obtain ⟨⟨⟨⟨hm1, hm2⟩, hm3⟩, hmk⟩, hm4⟩ := hm
  simp only [minOk] at hmin
  rw [toD, Ok]
  exact ⟨_, _, rfl, toF_ok fs sub 0 t hm4 hmin hg, fun _ => (sTagK_okT hmk hg.u).1, (sTagK_okT hmk hg.u).2⟩
theorem toE_ok : ∀ (el : Ty) (of : Int) (sub : Fds) (t : Tr), mEl mx fx el of sub = true → minOk ver flex el = true → Qb Qt t → Ok ver flex el (toE ver flex el sub t)
 | .prim k _, of, sub, t, hm, _, _ => by rw [toE, Ok]; exact toP_ok
 | .struct _ _ _ tg fs, of, sub, t, hm, hmin, hg => by
  simp only [mEl, UA] at hm
  obtain ⟨⟨⟨hm1, hm3⟩, hmk⟩, hm4⟩ := hm
  simp only [minOk] at hmin
  rw [toE, Ok]
  exact ⟨_, _, rfl, toF_ok fs sub 0 t hm4 hmin hg, fun _ => (sTagK_okT hmk hg.u).1, (sTagK_okT hmk hg.u).2⟩
 | .enum .., of, sub, t, hm, _, _ => by simp [mEl] at hm
 | .vstr .., of, sub, t, hm, _, _ => by simp [mEl] at hm
 | .arr .., of, sub, t, hm, _, _ => by simp [mEl] at hm
theorem toF_ok : ∀ (fs : Flds) (fds : Fds) (i : Nat) (t : Tr), mF mx fx fs fds = true → minOkF ver flex fs = true → Qb Qt t → OkF ver flex fs (toF ver flex fs fds i t)
 | .nil, _, i, t, _, _, _ => by rw [OkF]; trivial
 | .cons c _ _ _ ty r, fds, i, t, hm, hmin, hg => by
  simp only [minOkF, UA, Bool.or_eq_true, Bool.not_eq_true'] at hmin
  cases hct : c.isTag with
  | true =>
   unfold mF at hm; rw [hct] at hm
   simp only [if_true] at hm
   cases fds with
   | nil => cases hm
   | cons f r' =>
    simp only [UA, decide_eq_true_eq] at hm
    obtain ⟨⟨⟨⟨k1, k2⟩, k3⟩, k4⟩, k5⟩ := hm
    rw [toF, hct]
    simp only [if_true]
    rw [OkF]
    simp only [List.headD_cons, List.tail_cons]
    refine ⟨fun hc => ?_, toF_ok r r' (i + 1) t k5 hmin.2 hg⟩
    exact toD_ok ty f _ k4 (by rcases hmin.1 with h | h; rw [hct] at h; cases h.2; exact h) (hg.at (fun x hx => by cases hx) i)
  | false =>
  unfold mF at hm; rw [hct, skipT_fst fds 0 i] at hm
  simp only [UB, if_false] at hm
  unfold toF; rw [hct]
  simp only [UB, if_false]
  cases hs : skipT fds i with
  | mk fd j =>
   rw [hs] at hm
   cases fd with
   | nil => cases hm
   | cons f r' =>
    simp only [UA] at hm
    obtain ⟨⟨hm1, hm2⟩, hm3⟩ := hm
    rw [OkF]
    simp only [List.headD_cons, List.tail_cons]
    refine ⟨fun hc => ?_, toF_ok r r' (j + 1) t hm3 hmin.2 hg⟩
    exact toD_ok ty f _ hm2 (by rw [hct, Bool.or_false] at hc; rcases hmin.1 with h | h; rw [hc] at h; cases h.1; exact h) (hg.at (fun x hx => by cases hx) j)
end
end
def mTopB (p : Plan) (fs : Fds) (flex : Int) (mx : Nat) : Bool :=
 mF mx p.fl.isSome p.fs fs && kmT (knOf p.tg) p.fs fs && (p.tg.isSome || !p.fl.isSome) && (List.range (mx + 1)).all (fun v => (p.flex (v : Nat) == (decide (0 ≤ flex) && decide (flex ≤ (v : Nat)))) && minOkF (v : Nat) (p.flex (v : Nat)) p.fs)
theorem Plan.flex_some {p : Plan} {ver : Int} (h : p.flex ver = true) : p.fl.isSome = true := by
 unfold Plan.flex at h
 cases hp : p.fl with
 | none => rw [hp] at h; simp at h
 | some k => rfl
theorem saysTop {p : Plan} {fs : Fds} {flex : Int} {mx v : Nat} (h : mTopB p fs flex mx = true) (hv : v ≤ mx) {t : Tr} (hg : Qb Qt t) :
  JJ fs flex (v : Nat) t = Qj p (v : Nat) (toF (v : Nat) (p.flex (v : Nat)) p.fs fs 0 t) (sTagK (knOf p.tg) fs t) ∧ OkTop p (v : Nat) (toF (v : Nat) (p.flex (v : Nat)) p.fs fs 0 t) (sTagK (knOf p.tg) fs t) := by
 simp only [mTopB, UA] at h
 obtain ⟨⟨⟨h1, hk⟩, h2⟩, h3⟩ := h
 have h4 := List.all_eq_true.1 h3 v (List.mem_range.2 (by omega))
 simp only [UA, beq_iff_eq] at h4
 obtain ⟨h5, h6⟩ := h4
 refine ⟨?_, toF_ok (mx := mx) (by omega) (by omega) (fun e => Plan.flex_some e) p.fs fs 0 t h1 h6 hg, fun _ => (sTagK_okT hk hg.u).1, (sTagK_okT hk hg.u).2⟩
 unfold JJ Qj Qu
 rw [← h5, toF_enc (mx := mx) (fx := p.fl.isSome) (by omega) (by omega) (fun e => Plan.flex_some e) p.fs fs 0 t h1]
 congr 1
 exact (tags_match h2 (fun e => Plan.flex_some e) hk (fun hp => toT_enc (mx := mx) (fx := p.fl.isSome) (by omega) (by omega) (fun e => Plan.flex_some e) p.fs fs 0 t h1 hp)).symm
theorem againTop {p : Plan} {fs : Fds} {flex : Int} {mx v : Nat} (h : mTopB p fs flex mx = true) (hv : v ≤ mx) {t : Tr} (hg : Qb Qt t) (hlen : (JJ fs flex (v : Nat) t).length < 4294967296) :
  ∃ ds ts, decTop p (v : Nat) (JJ fs flex (v : Nat) t) = some ((ds, ts), []) ∧ Qj p (v : Nat) ds ts = JJ fs flex (v : Nat) t ∧ SmF Ql p.fs ds ∧ Ql ts := by
 obtain ⟨h1, h2⟩ := saysTop h hv hg
 have h3 := rtTop (r := []) h2 (by rw [← h1]; exact hlen)
 rw [List.append_nil, ← h1] at h3
 refine ⟨_, _, h3, (encTop_norm p _ _ _ h2).trans h1.symm, OkF.small _ _ _ _ _ h2.1, ?_⟩
 split
 ·exact (h2.2.1 (by assumption)).1.1
 ·exact ⟨List.Pairwise.nil, by simp, by simp⟩
theorem cut_plain {p : Plan} {fs : Fds} {flex : Int} {mx v : Nat} (h : mTopB p fs flex mx = true) (hv : v ≤ mx) {t : Tr} (hg : Qb Qt t) (hlen : (JJ fs flex (v : Nat) t).length < 4294967296) {l m : List UInt8} (hl : JJ fs flex (v : Nat) t = l ++ m) (hm : m ≠ []) : decTop p (v : Nat) l = none := by
 obtain ⟨h1, h2⟩ := saysTop h hv hg
 exact cutTop h2 (by rw [← h1]; exact hlen) (h1.symm.trans hl) hm
section
variable {P : Program} {N : Nat} {Q Q' : UE} {ρ : Nat → Value} {w w' : World} {ms : List MOp} {d : Nat} {v : Value}
theorem MR.iak {T x e b o len cap i sz : Nat} (ht : Jk P T e = true) (hn : Jh P e sz = true) (hx : ρ x = .slice (some ⟨b, o, none⟩) len cap) (hj : i < len) (hxN : x < N := by decide) :
  MR P N (.iak d T x i) ρ w d (.pointer (some ⟨b, o + i * sz, none⟩)) w := by
 intro a o' hl hf
 generalize hop : o'.op = op at hf
 unfold execOp
 cases op <;> try (simp only [Jf, UB] at hf; done)
 rename_i T' x' i'
 cases i' <;> simp only [Jf, UA, UB, Nat.beq_eq] at hf
 rename_i vi
 obtain ⟨⟨⟨h1, h2⟩, h3⟩, h4⟩ := hf
 subst h2
 have hv := MVal.is_eq h4
 subst hv
 refine ⟨Jl h1, ?_⟩
 have hn' := QW hn
 cases hie : P.info? e with
 | none => simp [hie] at hn'
 | some ie =>
  simp only [hie, Option.map_some, UC] at hn'
  have he2 : a.eval (.const (MVal.int .i64 i).val) = .int .i64 i := rfl
  simp only [hop, Sem.run_bind, tmpL hl hxN h3, he2, hx, Instr.indexAt]
  simp [asIntOf, run_underlying (Jq ht), sizeOf, typeInfo, hie, hn', Addr.add_mid, hj]
theorem MR.mkm {T : Nat} : MR P N (.mkm d T) ρ w d (.map (some w.heap.size)) (w.alloc (.map #[] 0)) := by
 intro a o hl hf
 generalize hop : o.op = op at hf
 unfold execOp
 cases op <;> try (simp only [Jf, UB] at hf; done)
 rename_i T' r
 cases r <;> simp only [Jf, UA, UB, Nat.beq_eq] at hf
 obtain ⟨h1, h2⟩ := hf
 refine ⟨Jl h1, ?_⟩
 simp only [hop, Instr.makeMap, Option.map, Sem.run_bind, Sem.run_pure, run_newObj, Result.andThen_ok]
 rfl
theorem RL.mpu {T m k x : Nat} (hr : (Instr.mapUpdate T (ρ m) (ρ k) (ρ x)).run P w = .ok () w') (h : RL P N ms Q ρ w') (hm : m < N := by decide) (hk : k < N := by decide) (hx : x < N := by decide) : RL P N (.mpu T m k x :: ms) Q ρ w := by
 intro a ha
 refine ML.step (d := none) (v := undef) (w' := w') (fun o ho => ?_) (h a ha)
 have hf := JM ho
 generalize hop : o.op = op at hf
 generalize hd : o.dst = dd at hf
 unfold execOp
 cases op <;> cases dd <;> try (simp only [Jf, UB] at hf; done)
 simp only [Jf, UA, Nat.beq_eq] at hf
 obtain ⟨⟨⟨h1, h2⟩, h3⟩, h4⟩ := hf
 subst h1
 exact ⟨rfl, .inr ⟨rfl, by simp only [hop, Sem.run_bind, tmpL ha hm h2, tmpL ha hk h3, tmpL ha hx h4, hr, Result.andThen_ok, Sem.run_pure]⟩⟩
theorem MR.rng {T x : Nat} (hr : (Instr.range T (ρ x)).run P w = .ok v w') (hx : x < N := by decide) : MR P N (.rng d T x) ρ w d v w' := by
 intro a o hl hf
 generalize hop : o.op = op at hf
 unfold execOp
 cases op <;> try (simp only [Jf, UB] at hf; done)
 simp only [Jf, UA, Nat.beq_eq] at hf
 obtain ⟨⟨h1, h2⟩, h3⟩ := hf
 subst h2
 exact ⟨Jl h1, by simp only [hop, Sem.run_bind, tmpL hl hx h3, hr, Result.andThen_ok, Sem.run_pure]⟩
theorem MR.lku {T m k : Nat} (hr : (Instr.lookup T (ρ m) (ρ k) false).run P w = .ok v w) (hm : m < N := by decide) (hk : k < N := by decide) : MR P N (.lku d T m k) ρ w d v w := by
 intro a o hl hf
 generalize hop : o.op = op at hf
 unfold execOp
 cases op <;> try (simp only [Jf, UB] at hf; done)
 rename_i T' x y c
 cases c <;> simp only [Jf, UA, UB, Nat.beq_eq] at hf
 obtain ⟨⟨⟨h1, h2⟩, h3⟩, h4⟩ := hf
 subst h2
 exact ⟨Jl h1, by simp only [hop, Sem.run_bind, tmpL hl hm h3, tmpL hl hk h4, hr, Result.andThen_ok, Sem.run_pure]⟩
theorem MR.mki {T x : Nat} (hr : (Instr.makeInterface T (ρ x)).run P w = .ok v w') (hx : x < N := by decide) : MR P N (.mki d T x) ρ w d v w' := by
 intro a o hl hf
 generalize hop : o.op = op at hf
 unfold execOp
 cases op <;> try (simp only [Jf, UB] at hf; done)
 simp only [Jf, UA, Nat.beq_eq] at hf
 obtain ⟨⟨h1, h2⟩, h3⟩ := hf
 subst h2
 exact ⟨Jl h1, by simp only [hop, Sem.run_bind, tmpL hl hx h3, hr, Result.andThen_ok, Sem.run_pure]⟩
theorem MR.lg {ty g : Nat} (hr : (Instr.loadAt ty (.pointer (some ⟨g, 0, none⟩))).run P w = .ok v w) : MR P N (.lg d ty g) ρ w d v w := by
 intro a o hl hf
 generalize hop : o.op = op at hf
 unfold execOp
 cases op <;> try (simp only [Jf, UB] at hf; done)
 rename_i ty' x
 cases x <;> simp only [Jf, UA, UB, Nat.beq_eq] at hf
 obtain ⟨⟨h1, h2⟩, h3⟩ := hf
 subst h2 h3
 have he : ∀ g : Nat, a.eval (.global g) = .pointer (some ⟨g, 0, none⟩) := fun g => rfl
 exact ⟨Jl h1, by simp only [hop, Sem.run_bind, he, hr, Result.andThen_ok, Sem.run_pure]⟩
/-! ### Slices of octets -/
theorem run_sliceFromS {T U n c l : Nat} {ad : Option Addr} (hT : Jk P T U = true) (hU : Jh P U 1 = true) (had : okAd ad) (h1 : l ≤ n) (h2 : n ≤ c) :
  ∃ ad', (Instr.sliceAt T (.slice ad n c) (some (.int .i64 (l : Nat))) none none).run P w = .ok (.slice ad' (n - l) (c - l)) w ∧ okAd ad' ∧ (∀ {F : Nat → Prop} {bs : List UInt8}, bs.length = n → Jg w F ad bs → Jg w F ad' (bs.drop l)) ∧ (ad = none → ad' = none) ∧ (∀ a, ad = some a → ∃ a', ad' = some a') := by
 have hn' := QW hU
 cases hie : P.info? U with
 | none => simp [hie] at hn'
 | some ie =>
  simp only [hie, Option.map_some, UC] at hn'
  refine ⟨if c = l then ad else ad.map (·.add (l * 1)), ?_, ?_, ?_, fun h => by subst h; split <;> rfl, fun a h => by subst h; split <;> exact ⟨_, rfl⟩⟩
  ·simp only [Instr.sliceAt, Sem.run_bind, run_underlying (Jq hT), Result.andThen_ok, Instr.slice, Instr.sliceBounds, Instr.sliceBound, asIntOf, Sem.run_pure, sizeOf, typeInfo, run_program, hie, hn']
   rw [if_pos ⟨by omega, by omega⟩]
   simp only [Sem.run_pure, Result.andThen_ok, Int.toNat_natCast]
  ·rcases had with rfl | ⟨g, o, rfl⟩
   ·split <;> exact .inl rfl
   ·split
    ·exact .inr ⟨g, o, rfl⟩
    ·exact .inr ⟨g, o + l * 1, by simp [Addr.add_mid]⟩
  ·intro F bs hl hb
   by_cases hc : c = l
   ·have : bs.drop l = [] := List.drop_eq_nil_of_le (by omega)
    rw [this]
    intro j b hj; simp at hj
   ·rw [if_neg hc]
    intro j b hj
    rw [List.getElem?_drop] at hj
    obtain ⟨g, o, rfl, h3, h4⟩ := hb (l + j) b hj
    exact ⟨g, o + l * 1, by simp [Addr.add_mid], h3, by rw [Nat.mul_one, Nat.add_assoc]; exact h4⟩
theorem run_sliceFrom {T U n c l : Nat} {ad : Option Addr} (hT : Jk P T U = true) (hU : Jh P U 1 = true) (had : okAd ad) (h1 : l ≤ n) (h2 : n ≤ c) :
  ∃ ad', (Instr.sliceAt T (.slice ad n c) (some (.int .i64 (l : Nat))) none none).run P w = .ok (.slice ad' (n - l) (c - l)) w ∧ okAd ad' ∧ (∀ {F : Nat → Prop} {bs : List UInt8}, bs.length = n → Jg w F ad bs → Jg w F ad' (bs.drop l)) ∧ (ad = none → ad' = none) := by
 obtain ⟨ad', g1, g2, g3, g4, _⟩ := run_sliceFromS (P := P) (w := w) hT hU had h1 h2
 exact ⟨ad', g1, g2, g3, g4⟩
theorem run_slice3 {T U n c l : Nat} {ad : Option Addr} (hT : Jk P T U = true) (hU : Jh P U 1 = true) (had : okAd ad) (h1 : l ≤ c) :
  (Instr.sliceAt T (.slice ad n c) none (some (.int .i64 (l : Nat))) (some (.int .i64 (l : Nat)))).run P w = .ok (.slice ad l l) w := by
 have hn' := QW hU
 cases hie : P.info? U with
 | none => simp [hie] at hn'
 | some ie =>
  simp only [hie, Option.map_some, UC] at hn'
  simp only [Instr.sliceAt, Sem.run_bind, run_underlying (Jq hT), Result.andThen_ok, Instr.slice, Instr.sliceBounds, Instr.sliceBound, asIntOf, Sem.run_pure, sizeOf, typeInfo, run_program, hie, hn']
  rw [if_pos ⟨by omega, by omega⟩]
  simp only [Sem.run_pure, Result.andThen_ok, Int.toNat_natCast]
  rw [if_pos ⟨by omega, by omega⟩]
  simp only [Sem.run_pure, Result.andThen_ok, Int.toNat_natCast, Nat.sub_zero]
  congr 2
  rcases had with rfl | ⟨g, o, rfl⟩
  ·split <;> rfl
  ·split
   ·rfl
   ·simp [Addr.add_mid]
/-! ### Numbers out of octets -/
theorem or_u16 {a b : Nat} (ha : a < 65536) (hb : b < 65536) : IntKind.u16.wrap ((BitVec.ofInt IntKind.u16.bits (a : Int) ||| BitVec.ofInt IntKind.u16.bits (b : Int)).toNat : Int) = ((a ||| b : Nat) : Int) := by
 have h : a ||| b < 2 ^ 16 := Nat.or_lt_two_pow (by omega) (by omega)
 have e1 : (BitVec.ofInt 16 (a : Int)).toNat = a := by rw [BitVec.toNat_ofInt]; omega
 have e2 : (BitVec.ofInt 16 (b : Int)).toNat = b := by rw [BitVec.toNat_ofInt]; omega
 show IntKind.u16.wrap ((BitVec.ofInt 16 (a : Int) ||| BitVec.ofInt 16 (b : Int)).toNat : Int) = _
 rw [BitVec.toNat_or, e1, e2]
 simp [IntKind.wrap, IntKind.signed, IntKind.bits]; omega
theorem or_u32 {a b : Nat} (ha : a < 4294967296) (hb : b < 4294967296) : IntKind.u32.wrap ((BitVec.ofInt IntKind.u32.bits (a : Int) ||| BitVec.ofInt IntKind.u32.bits (b : Int)).toNat : Int) = ((a ||| b : Nat) : Int) := by
 have h : a ||| b < 2 ^ 32 := Nat.or_lt_two_pow (by omega) (by omega)
 have e1 : (BitVec.ofInt 32 (a : Int)).toNat = a := by rw [BitVec.toNat_ofInt]; omega
 have e2 : (BitVec.ofInt 32 (b : Int)).toNat = b := by rw [BitVec.toNat_ofInt]; omega
 show IntKind.u32.wrap ((BitVec.ofInt 32 (a : Int) ||| BitVec.ofInt 32 (b : Int)).toNat : Int) = _
 rw [BitVec.toNat_or, e1, e2]
 simp [IntKind.wrap, IntKind.signed, IntKind.bits]; omega
theorem or_u64 {a b : Nat} (ha : a < 18446744073709551616) (hb : b < 18446744073709551616) : IntKind.u64.wrap ((BitVec.ofInt IntKind.u64.bits (a : Int) ||| BitVec.ofInt IntKind.u64.bits (b : Int)).toNat : Int) = ((a ||| b : Nat) : Int) := by
 have h : a ||| b < 2 ^ 64 := Nat.or_lt_two_pow (by omega) (by omega)
 have e1 : (BitVec.ofInt 64 (a : Int)).toNat = a := by rw [BitVec.toNat_ofInt]; omega
 have e2 : (BitVec.ofInt 64 (b : Int)).toNat = b := by rw [BitVec.toNat_ofInt]; omega
 show IntKind.u64.wrap ((BitVec.ofInt 64 (a : Int) ||| BitVec.ofInt 64 (b : Int)).toNat : Int) = _
 rw [BitVec.toNat_or, e1, e2]
 simp [IntKind.wrap, IntKind.signed, IntKind.bits]; omega
theorem or_add {x y s : Nat} (h : x < 2 ^ s) : x ||| (y * 2 ^ s) = x + y * 2 ^ s := by
 rw [Nat.or_comm, Nat.mul_comm, ← Nat.two_pow_add_eq_or_of_lt h]; omega
theorem wrap_u16n {n : Nat} (h : n < 65536) : IntKind.u16.wrap (n : Int) = n := by simp [IntKind.wrap, IntKind.signed, IntKind.bits]; omega
theorem QA {n : Nat} (h : n < 4294967296) : IntKind.u32.wrap (n : Int) = n := by simp [IntKind.wrap, IntKind.signed, IntKind.bits]; omega
theorem wrap_u64n {n : Nat} (h : n < 18446744073709551616) : IntKind.u64.wrap (n : Int) = n := by simp [IntKind.wrap, IntKind.signed, IntKind.bits]; omega
end
structure RN where
 T : IT
 tR : Nat
 tBE : Nat
 gBE : Nat
 gErr : Nat
 tErr : Nat
 be16 : Nat
 be32 : Nat
 be64 : Nat
 uvd : Nat
 span : Nat
 uv : Nat
 i8 : Nat
 i16 : Nat
 u16 : Nat
 i32 : Nat
 i64 : Nat
 r64 : Nat
 bool : Nat
 str : Nat
 cstr : Nat
 nstr : Nat
 cnstr : Nat
 byt : Nat
 cbyt : Nat
 nbyt : Nat
 cnbyt : Nat
 uuid : Nat
 alen : Nat
 calen : Nat
 compl : Nat
 okf : Nat
 rs : Nat := 7
 tA : Nat := 0
 f64 : Nat := 0
 ffr : Nat := 0
structure ROK (P : Program) (R : RN) : Prop where
 tk : TOK P R.T
 mo : P.follows .mixedOrders = true
 f0 : Jd P R.tR 0 0 = true
 f1 : Jd P R.tR 1 1 = true
 ps : Jm P R.T.u8s = true
 pb : Jm P R.T.bool = true
 pu : Jm P R.T.u8 = true
 cs : Jh P R.T.u8s 1 = true
 cb : Jh P R.T.bool 1 = true
 cu : Jh P R.T.u8 1 = true
 be : QH P R.tBE = true
 bn : Jh P R.tBE 0 = true
 pe : Jm P R.tErr = true
def rokB (P : Program) (R : RN) : List Bool := [tokB P R.T, P.follows .mixedOrders, Jd P R.tR 0 0, Jd P R.tR 1 1, Jm P R.T.u8s, Jm P R.T.bool, Jm P R.T.u8, Jh P R.T.u8s 1, Jh P R.T.bool 1, Jh P R.T.u8 1, QH P R.tBE, Jh P R.tBE 0, Jm P R.tErr]
theorem rok_of {P : Program} {R : RN} (h : (rokB P R).all id = true) : ROK P R := by
 simp only [rokB, List.all_cons, List.all_nil, id_eq, Bool.and_true, UA] at h
 obtain ⟨h1, h2, h3, h4, h5, h6, h7, h8, h9, h10, h11, h12, h13⟩ := h
 exact ⟨tok_of h1, h2, h3, h4, h5, h6, h7, h8, h9, h10, h11, h12, h13⟩
def RdAt (w : World) (rb sb : Nat) : Option (List UInt8) → Prop
 | some l => ∃ ad c, w.rangeAt rb 0 [.slice ad l.length c, .bool false] ∧ w.there rb 0 2 ∧ okAd ad ∧ l.length ≤ c ∧ Jg w (· = sb) ad l
 | none => w.rangeAt rb 0 [.slice none 0 0, .bool true] ∧ w.there rb 0 2
def AdS (w : World) (rb : Nat) : Prop := ∃ a n c, w.cell? ⟨rb, 0, none⟩ = some (.slice (some a) n c)
def stL : Option (List UInt8) → List UInt8
 | some l => l
 | none => []
def stB : Option (List UInt8) → Bool
 | some _ => false
 | none => true
section
variable {P : Program} {N : Nat} {Q : UE} {ρ : Nat → Value} {w w' : World} {ms : List MOp} {R : RN} {rb sb : Nat} {st : Option (List UInt8)}
theorem RdAt.all (h : RdAt w rb sb st) : ∃ ad c, w.rangeAt rb 0 [.slice ad (stL st).length c, .bool (stB st)] ∧ w.there rb 0 2 ∧ okAd ad ∧ (stL st).length ≤ c ∧ Jg w (· = sb) ad (stL st) := by
 cases st with
 | some l => exact h
 | none => exact ⟨none, 0, h.1, h.2, .inl rfl, Nat.le_refl _, fun j b hj => by simp [stL] at hj⟩
theorem RdAt.lt (h : RdAt w rb sb st) : rb < w.heap.size := by
 obtain ⟨ad, c, h1, _⟩ := h.all
 exact World.block_lt_of_cell? w _ (h1 0 _ rfl)
theorem RdAt.keep (h : RdAt w rb sb st) (h1 : w'.heap[rb]? = w.heap[rb]?) (h2 : w'.heap[sb]? = w.heap[sb]?) : RdAt w' rb sb st := by
 cases st with
 | some l =>
  obtain ⟨ad, c, g1, g2, g3, g4, g5⟩ := h
  exact ⟨ad, c, JV g1 h1, JE g2 h1, g3, g4, g5.mono (fun _ h => h) (fun b hb => by rw [hb]; exact h2)⟩
 | none => exact ⟨JV h.1 h1, JE h.2 h1⟩
theorem RdAt.put {l : List UInt8} {ad : Option Addr} {c : Nat} {u v : Value} (hr : w.rangeAt rb 0 [u, v]) (ht : w.there rb 0 2) (hv : v = .bool false) (h1 : okAd ad) (h2 : l.length ≤ c) (h3 : Jg w (· = sb) ad l) (hne : sb ≠ rb) :
  RdAt (w.setCells rb 0 [.slice ad l.length c]) rb sb (some l) := by
 subst hv
 refine ⟨ad, c, ?_, World.there_setCells ht _ _ _, h1, h2, h3.mono (fun _ h => h) (fun b hb => by rw [hb]; exact Jp rb _ _ _ sb hne)⟩
 have := range_set (b := rb) (o := 0) (k := 0) (cs := [u, .bool false]) (v := .slice ad l.length c) hr (JG ht (by omega))
 simpa using this
/-! ### Running out -/
def failM (R : RN) (z : MVal) (res t : Nat) : Jc :=
 .sq (.rg [.mv t (.t 0), .nc (t + 1) t, .fa (t + 2) R.tR (t + 1) 1, .stc R.T.bool (t + 2) (.bool true)])
  (.sq (.rg [.mv (t + 3) (.t 0), .nc (t + 4) (t + 3), .fa (t + 5) R.tR (t + 4) 0, .stc R.T.u8s (t + 5) .nslice]) (.sq (.rg [.mv res (.c z)]) .rt))
theorem fail_ok {z : MVal} {res t : Nat} (ok : ROK P R) (h : RdAt w rb sb st) (h0 : ρ 0 = .pointer (some ⟨rb, 0, none⟩)) (hres : res < t) (ht : 0 < t) (hN : t + 6 ≤ N)
  (hQ : ∀ ρ' w', ρ' res = z.val → RdAt w' rb sb none → Fr (fun _ => False) rb 0 2 w w' → Q .ret ρ' w') : RW P N (failM R z res t) Q ρ w := by
 obtain ⟨ad, c, h1, h2, _⟩ := h.all
 unfold failM
 refine RW.sq (RW.rg (RL.s (MR.mv h0 (ltT (by omega))) (RL.s (MR.nc (Ja _ _ _) (by omega)) (RL.s (MR.fa (Ja _ _ _) ok.f1 (by omega)) (RL.stc (b := rb) (o := 0 + 1) (Ja _ _ _) ok.cb (JG h2 (by omega)) (RL.nil ?_) (by omega)) (by omega)) (by omega)) (by omega)))
 have e1 := range_set (k := 1) (v := (MVal.bool true).val) h1 (JG h2 (by omega))
 have t1 : (w.setCells rb (0 + 1) [(MVal.bool true).val]).there rb 0 2 := World.there_setCells h2 _ _ _
 refine RW.sq (RW.rg (RL.s (MR.mv (v := .pointer (some ⟨rb, 0, none⟩)) (by show upd _ _ _ 0 = _; rw [Jb _ _ (by omega), Jb _ _ (by omega), Jb _ _ (by omega)]; exact h0) (ltT (by omega))) (RL.s (MR.nc (Ja _ _ _) (by omega)) (RL.s (MR.fa (Ja _ _ _) ok.f0 (by omega)) (RL.stc (b := rb) (o := 0 + 0) (Ja _ _ _) ok.cs (JG t1 (by omega)) (RL.nil ?_) (by omega)) (by omega)) (by omega)) (by omega)))
 have e2 := range_set (k := 0) (v := MVal.nslice.val) e1 (JG t1 (by omega))
 refine RW.sq (RW.rg (RL.s MR.mv (RL.nil (RW.rt ?_)) (by omega)))
 refine hQ _ _ (Ja _ _ _) ⟨?_, World.there_setCells t1 _ _ _⟩ ?_
 ·exact e2
 ·exact (Fr.put _ (by omega) (by simp)).trans (Fr.put _ (by omega) (by simp))
end
set_option linter.unusedVariables false
def beTail (R : RN) (tu kk : Nat) : (n j t i acc : Nat) → List GOp
 | 0, _, _, i, acc => [⟨i, none, .mv 4 (.t acc)⟩]
 | n + 1, j, t, i, acc => ⟨i, none, .mv t (.t 1)⟩ :: ⟨i + 1, none, .iak (t + 1) R.T.u8s t (kk - 1 - j)⟩ :: ⟨i + 2, none, .ld (t + 2) R.T.u8 (t + 1)⟩ :: ⟨i + 3, none, .cv (t + 3) R.T.u8 tu (t + 2)⟩ ::
   ⟨i + 4, none, .b2 (t + 4) .shl (.t (t + 3)) (.c (.int .u64 ((8 * j : Nat) : Int)))⟩ :: ⟨i + 5, none, .bi (t + 5) .or tu (.t acc) (.t (t + 4))⟩ :: beTail R tu kk n (j + 1) (t + 6) (i + 6) (t + 5)
def cBe (R : RN) (tu kk : Nat) (k : IntKind) : Jc :=
 .sq (.rg [.bx 2 R.tBE 0, .mv 4 (.c (.int k 0))]) (.sq (.rg [.mv 5 (.t 1), .iak 6 R.T.u8s 5 (kk - 1), .ld 7 R.T.u8 6])
  (.sq (.gr true (⟨0, none, .mv 8 (.t 1)⟩ :: ⟨1, none, .iak 9 R.T.u8s 8 (kk - 1)⟩ :: ⟨2, none, .ld 10 R.T.u8 9⟩ :: ⟨3, none, .cv 11 R.T.u8 tu 10⟩ :: beTail R tu kk (kk - 1) 1 12 4 11)) .rt))
structure KU (k : IntKind) (n : Nat) : Prop where
 bits : k.bits = 8 * n
 wr : ∀ x : Nat, x < 256 ^ n → k.wrap (x : Int) = x
 or_ : ∀ a b : Nat, a < 256 ^ n → b < 256 ^ n → k.wrap ((BitVec.ofInt k.bits (a : Int) ||| BitVec.ofInt k.bits (b : Int)).toNat : Int) = ((a ||| b : Nat) : Int)
theorem ku16 : KU .u16 2 := ⟨rfl, fun x h => wrap_u16n (by simpa using h), fun a b ha hb => or_u16 (by simpa using ha) (by simpa using hb)⟩
theorem ku32 : KU .u32 4 := ⟨rfl, fun x h => QA (by simpa using h), fun a b ha hb => or_u32 (by simpa using ha) (by simpa using hb)⟩
theorem ku64 : KU .u64 8 := ⟨rfl, fun x h => wrap_u64n (by simpa using h), fun a b ha hb => or_u64 (by simpa using ha) (by simpa using hb)⟩
theorem beVal_cons (b : UInt8) (l : List UInt8) : Qp (b :: l) = b.toNat * 256 ^ l.length + Qp l := by
 have h : ∀ (l : List UInt8) (a : Nat), l.foldl (fun a b => a * 256 + b.toNat) a = a * 256 ^ l.length + l.foldl (fun a b => a * 256 + b.toNat) 0 := by
  intro l
  induction l with
  | nil => intro a; simp
  | cons x l ih =>
   intro a
   simp only [List.foldl_cons, List.length_cons]
   rw [ih (a * 256 + x.toNat), ih (0 * 256 + x.toNat), Nat.pow_succ, Nat.add_mul, Nat.zero_mul, Nat.zero_add, Nat.mul_assoc, Nat.mul_comm 256 (256 ^ l.length)]
   omega
 show (b :: l).foldl (fun a b => a * 256 + b.toNat) 0 = _
 rw [List.foldl_cons, h]; simp [Qp]
section
variable {P : Program} {N : Nat} {Q : UE} {ρ : Nat → Value} {w w' : World} {R : RN}
theorem be_tail {tu kk : Nat} {k : IntKind} {S : World → Prop} {l : List UInt8} {g o c : Nat} (ok : ROK P R) (ku : KU k kk) (htu : JC P tu k = true) (hl : kk ≤ l.length)
  (hS : ∀ w', S w' → ∀ (j : Nat) (b : UInt8), l[j]? = some b → w'.cell? ⟨g, o + j, none⟩ = some (JF b)) :
  ∀ (n j t i acc : Nat) (ρ : Nat → Value), n + j = kk → 1 ≤ j → 4 < t → acc < t → 4 < acc → t + 6 * n ≤ N → ρ 1 = .slice (some ⟨g, o, none⟩) l.length c → ρ acc = .int k (Qp ((l.take kk).drop (kk - j)) : Nat) →
  (∀ ρ', ρ' 4 = .int k (Qp (l.take kk) : Nat) → S w → Q .normal ρ' w) → RG P N (beTail R tu kk n j t i acc) Q S ρ w
 | 0, j, t, i, acc, ρ, hn, hj, h4, ha, h4a, hN, h1, hacc, hQ => by
  unfold beTail
  refine RG.q (fun _ _ => MR.mv hacc (ltT (by omega))) (RG.nil fun h => hQ _ ?_ h) rfl rfl (by omega)
  rw [Ja, show kk - j = 0 from by omega, List.drop_zero]
 | n + 1, j, t, i, acc, ρ, hn, hj, h4, ha, h4a, hN, h1, hacc, hQ => by
  unfold beTail
  obtain ⟨y, hy⟩ : ∃ y, l[kk - 1 - j]? = some y := ⟨_, List.getElem?_eq_getElem (by omega)⟩
  have hlen : (l.take kk).length = kk := by rw [List.length_take]; omega
  have hstep : Qp ((l.take kk).drop (kk - (j + 1))) = y.toNat * 256 ^ j + Qp ((l.take kk).drop (kk - j)) := by
   have e1 : (l.take kk)[kk - (j + 1)]? = some y := by rw [List.getElem?_take, if_pos (by omega), show kk - (j + 1) = kk - 1 - j from by omega]; exact hy
   have e2 : (l.take kk).drop (kk - (j + 1)) = y :: (l.take kk).drop (kk - j) := by
    obtain ⟨hlt, e3⟩ := List.getElem?_eq_some_iff.1 e1
    rw [List.drop_eq_getElem_cons hlt, e3, show kk - (j + 1) + 1 = kk - j from by omega]
   rw [e2, beVal_cons, List.length_drop, hlen, show kk - (kk - j) = j from by omega]
  have hacc_lt : Qp ((l.take kk).drop (kk - j)) < 256 ^ j := by
   have := beVal_lt ((l.take kk).drop (kk - j))
   rwa [List.length_drop, hlen, show kk - (kk - j) = j from by omega] at this
  have hp : 256 ^ (j + 1) ≤ 256 ^ kk := Nat.pow_le_pow_right (by omega) (by omega)
  have hyl : y.toNat < 256 := y.toNat_lt
  have hsum : y.toNat * 256 ^ j + Qp ((l.take kk).drop (kk - j)) < 256 ^ (j + 1) := by rw [Nat.pow_succ]; have : (y.toNat + 1) * 256 ^ j ≤ 256 * 256 ^ j := Nat.mul_le_mul_right _ (by omega); rw [Nat.add_mul] at this; omega
  have hj1 : 256 ^ j ≤ 256 ^ kk := Nat.pow_le_pow_right (by omega) (by omega)
  have hk1 : 1 ≤ kk := by omega
  have h256 : 256 ≤ 256 ^ kk := by have := Nat.pow_le_pow_right (n := 256) (by omega) hk1; simpa using this
  refine RG.q (fun _ _ => MR.mv h1 (ltT (by omega))) ?_ rfl rfl (by omega)
  refine RG.q (fun _ _ => MR.iak (sz := 1) ok.tk.u8s ok.cu (Ja _ _ _) (by omega) (by omega)) ?_ rfl rfl (by omega)
  refine RG.q (fun w' h => MR.ld (Ja _ _ _) ok.pu (by rw [Nat.mul_one]; exact hS w' h _ y hy) (by omega)) ?_ rfl rfl (by omega)
  refine RG.q (fun _ _ => MR.cvI (Ja _ _ _) ok.tk.u8i htu (by omega)) ?_ rfl rfl (by omega)
  have ew : k.wrap (y.toNat : Int) = y.toNat := ku.wr _ (by omega)
  have esh : k.wrap ((y.toNat : Int) * 2 ^ (min (((8 * j : Nat) : Int)).toNat k.bits)) = ((y.toNat * 256 ^ j : Nat) : Int) := by
   rw [ku.bits, show ((8 * j : Nat) : Int).toNat = 8 * j from by omega, Nat.min_eq_left (by omega)]
   have e1 : ((y.toNat : Int) * 2 ^ (8 * j)) = ((y.toNat * 256 ^ j : Nat) : Int) := by
    rw [Nat.pow_mul' 2 8 j |>.symm |> fun _ => show (256 : Nat) ^ j = 2 ^ (8 * j) from by rw [Nat.pow_mul]]
    push_cast; rfl
   rw [e1]
   exact ku.wr _ (by omega)
  refine RG.q (v := .int k ((y.toNat * 256 ^ j : Nat) : Int)) (fun _ _ => MR.b2 (by
   show evB .shl (upd _ (t + 3) _ (t + 3)) (.int .u64 ((8 * j : Nat) : Int)) = _
   rw [Ja, ew]
   simp only [evB]
   rw [if_pos (by omega), esh]) (ltT (by omega)) rfl) ?_ rfl rfl (by omega)
  have hor : k.wrap ((BitVec.ofInt k.bits ((Qp ((l.take kk).drop (kk - j)) : Nat) : Int) ||| BitVec.ofInt k.bits ((y.toNat * 256 ^ j : Nat) : Int)).toNat : Int) = ((Qp ((l.take kk).drop (kk - (j + 1))) : Nat) : Int) := by
   rw [ku.or_ _ _ (by omega) (by omega), show (256 : Nat) ^ j = 2 ^ (8 * j) from by rw [Nat.pow_mul], or_add (by rw [show (2 : Nat) ^ (8 * j) = 256 ^ j from by rw [Nat.pow_mul]]; exact hacc_lt), hstep, Nat.add_comm, show (256 : Nat) ^ j = 2 ^ (8 * j) from by rw [Nat.pow_mul]]
  refine RG.q (v := .int k ((Qp ((l.take kk).drop (kk - (j + 1))) : Nat) : Int)) (fun _ _ => MR.biE (by
   show evB .or (upd _ (t + 4) _ acc) (upd _ (t + 4) _ (t + 4)) = _
   rw [Ja, Jb _ _ (by omega), Jb _ _ (by omega), Jb _ _ (by omega), Jb _ _ (by omega), Jb _ _ (by omega), hacc]
   simp only [evB, if_true]
   rw [hor]) (ltT (by omega)) (ltT (by omega))) ?_ rfl rfl (by omega)
  refine be_tail (c := c) ok ku htu hl hS n (j + 1) (t + 6) (i + 6) (t + 5) _ (by omega) (by omega) (by omega) (by omega) (by omega) (by omega) ?_ (Ja _ _ _) hQ
  rw [Jb _ _ (by omega), Jb _ _ (by omega), Jb _ _ (by omega), Jb _ _ (by omega), Jb _ _ (by omega), Jb _ _ (by omega)]; exact h1
def BeC (P : Program) (f kk : Nat) (k : IntKind) : Prop := Jo P f = true ∧ ∀ (w : World) (ad : Option Addr) (l : List UInt8) (c : Nat), Jg w (fun _ => True) ad l → kk ≤ l.length →
 Calls P f #[.agg #[], .slice ad l.length c] w (fun e w' => e = .returned (.int k (Qp (l.take kk) : Nat)) ∧ Below w.heap.size w w')
theorem be_ok {f tu kk : Nat} {k : IntKind} (ok : ROK P R) (ku : KU k kk) (htu : JC P tu k = true) (hk1 : 1 ≤ kk) (hf : FnIs P f (cBe R tu kk k) (6 * kk + 6) 4) : BeC P f kk k := by
 refine ⟨hf.ent, fun w ad l c hb hl => ?_⟩
 obtain ⟨y, hy⟩ : ∃ y, l[kk - 1]? = some y := ⟨_, List.getElem?_eq_getElem (by omega)⟩
 obtain ⟨g, o, rfl, _, hyc⟩ := hb _ y hy
 have hall : ∀ (j : Nat) (b : UInt8), l[j]? = some b → w.cell? ⟨g, o + j, none⟩ = some (JF b) := fun j b hj => by
  obtain ⟨g', o', e, _, hc⟩ := hb j b hj
  cases e; exact hc
 refine hf.runs (args := [.agg #[], .slice (some ⟨g, o, none⟩) l.length c]) (by simp) (by omega) ?_
 have b0 := Jn w (.cells #[] R.tBE)
 refine RW.sq (RW.rg (RL.s (MR.bx (by omega)) (RL.s MR.mv (RL.nil ?_) (by omega)) (by omega)))
 show RW P _ _ _ _ (w.alloc (.cells #[] R.tBE))
 refine RW.sq (RW.rg (RL.s (MR.mv (v := .slice (some ⟨g, o, none⟩) l.length c) rfl (ltT (by omega))) (RL.s (MR.iak (sz := 1) ok.tk.u8s ok.cu (Ja _ _ _) (by omega) (by omega)) (RL.s (MR.ld (v := JF y) (Ja _ _ _) ok.pu (by rw [Nat.mul_one]; exact b0.kp _ _ hyc) (by omega)) (RL.nil ?_) (by omega)) (by omega)) (by omega)))
 refine RW.sq (RW.gd ok.mo (Below w.heap.size w) (b0.trans ((JI _ _).mono b0.size)) ?_)
 have hSc : ∀ w', Below w.heap.size w w' → ∀ (j : Nat) (b : UInt8), l[j]? = some b → w'.cell? ⟨g, o + j, none⟩ = some (JF b) := fun w' h j b hj => h.kp _ _ (hall j b hj)
 refine RG.q (fun _ _ => MR.mv (v := .slice (some ⟨g, o, none⟩) l.length c) rfl (ltT (by omega))) ?_ rfl rfl (by omega)
 refine RG.q (fun _ _ => MR.iak (sz := 1) ok.tk.u8s ok.cu (Ja _ _ _) (by omega) (by omega)) ?_ rfl rfl (by omega)
 refine RG.q (fun w' h => MR.ld (Ja _ _ _) ok.pu (by rw [Nat.mul_one]; exact hSc w' h _ y hy) (by omega)) ?_ rfl rfl (by omega)
 refine RG.q (fun _ _ => MR.cvI (Ja _ _ _) ok.tk.u8i htu (by omega)) ?_ rfl rfl (by omega)
 refine be_tail (l := l) (g := g) (o := o) (c := c) ok ku htu hl hSc (kk - 1) 1 12 4 11 _ (by omega) (by omega) (by omega) (by omega) (by omega) (by omega) rfl ?_ fun ρ' h4 hS => ?_
 ·rw [Ja]
  have hlen : (l.take kk).length = kk := by rw [List.length_take]; omega
  have e1 : (l.take kk)[kk - 1]? = some y := by rw [List.getElem?_take, if_pos (by omega)]; exact hy
  obtain ⟨hlt, e3⟩ := List.getElem?_eq_some_iff.1 e1
  have h256 : 256 ≤ 256 ^ kk := by have := Nat.pow_le_pow_right (n := 256) (by omega) hk1; simpa using this
  have hyl : y.toNat < 256 := y.toNat_lt
  rw [List.drop_eq_getElem_cons hlt, e3, List.drop_eq_nil_of_le (by omega), beVal_cons]
  show Value.int k (k.wrap (y.toNat : Int)) = _
  rw [ku.wr _ (by omega)]
  simp [Qp]
 ·exact RW.rt ⟨by rw [h4], hS⟩
end
set_option linter.unusedVariables false
def RdN (P : Program) (f : Nat) {α : Type} [Inhabited α] (d : Dec α) (V : α → Value) : Prop := Jo P f = true ∧ ∀ (w : World) (rb sb : Nat) (st : Option (List UInt8)), RdAt w rb sb st → sb ≠ rb →
 Calls P f #[.pointer (some ⟨rb, 0, none⟩)] w (fun e w' => Fr (fun _ => False) rb 0 2 w w' ∧ ((∃ x r, st.bind d = some (x, r) ∧ e = .returned (V x) ∧ RdAt w' rb sb (some r)) ∨ (st.bind d = none ∧ e = .returned (V default) ∧ RdAt w' rb sb none)))
def RdNS (P : Program) (f : Nat) {α : Type} [Inhabited α] (d : Dec α) (V : α → Value) : Prop := Jo P f = true ∧ ∀ (w : World) (rb sb : Nat) (st : Option (List UInt8)), RdAt w rb sb st → sb ≠ rb →
 Calls P f #[.pointer (some ⟨rb, 0, none⟩)] w (fun e w' => Fr (fun _ => False) rb 0 2 w w' ∧ ((∃ x r, st.bind d = some (x, r) ∧ e = .returned (V x) ∧ RdAt w' rb sb (some r) ∧ AdS w' rb) ∨ (st.bind d = none ∧ e = .returned (V default) ∧ RdAt w' rb sb none)))
theorem RdNS.n {P : Program} {f : Nat} {α : Type} [Inhabited α] {d : Dec α} {V : α → Value} (h : RdNS P f d V) : RdN P f d V := by
 refine ⟨h.1, fun w rb sb st hr hne => Calls.mono (h.2 w rb sb st hr hne) ?_⟩
 rintro e w' ⟨hF, ⟨x, r, g1, g2, g3, _⟩ | g⟩
 ·exact ⟨hF, .inl ⟨x, r, g1, g2, g3⟩⟩
 ·exact ⟨hF, .inr g⟩
def headR (R : RN) (n : Nat) (z : MVal) : List MOp := [.mv 4 (.t 0), .nc 5 4, .fa 6 R.tR 5 0, .ld 7 R.T.u8s 6, .ln 8 R.T.u8s 7, .bi 9 .lss R.T.int (.t 8) (.c (.int .i64 n))]
def nextR (R : RN) (n t : Nat) : List MOp := [.mv t (.t 0), .mv (t + 1) (.t 0), .nc (t + 2) (t + 1), .fa (t + 3) R.tR (t + 2) 0, .ld (t + 4) R.T.u8s (t + 3), .sl (t + 5) R.T.u8s (t + 4) (some (.c (.int .i64 n))) none none, .nc (t + 6) t, .fa (t + 7) R.tR (t + 6) 0, .st R.T.u8s (t + 7) (t + 5)]
def cNumC (R : RN) (n be tu ts : Nat) (k : IntKind) : Jc :=
 .sq (.rg [.mv 2 (.c (.int k 0))]) (.sq (.sq (.rg (headR R n (.int k 0))) (.cd 9 (failM R (.int k 0) 2 10) .sk))
  (.sq (.gr true [⟨0, none, .lg 16 R.tBE R.gBE⟩, ⟨1, none, .mv 17 (.t 0)⟩, ⟨2, none, .nc 18 17⟩, ⟨3, none, .fa 19 R.tR 18 0⟩, ⟨4, none, .ld 20 R.T.u8s 19⟩, ⟨5, none, .ca 21 be [.t 16, .t 20]⟩, ⟨6, none, .cv 22 tu ts 21⟩, ⟨7, none, .mv 3 (.t 22)⟩])
  (.sq (.rg (nextR R n 23)) (.sq (.rg [.mv 31 (.t 3), .mv 2 (.t 31)]) .rt))))
def cNumU (R : RN) (n be : Nat) (k : IntKind) : Jc :=
 .sq (.rg [.mv 2 (.c (.int k 0))]) (.sq (.sq (.rg (headR R n (.int k 0))) (.cd 9 (failM R (.int k 0) 2 10) .sk))
  (.sq (.gr true [⟨0, none, .lg 16 R.tBE R.gBE⟩, ⟨1, none, .mv 17 (.t 0)⟩, ⟨2, none, .nc 18 17⟩, ⟨3, none, .fa 19 R.tR 18 0⟩, ⟨4, none, .ld 20 R.T.u8s 19⟩, ⟨5, none, .ca 21 be [.t 16, .t 20]⟩, ⟨6, none, .mv 3 (.t 21)⟩])
  (.sq (.rg (nextR R n 22)) (.sq (.rg [.mv 30 (.t 3), .mv 2 (.t 30)]) .rt))))
section
variable {P : Program} {N : Nat} {Q : UE} {ρ : Nat → Value} {w w' : World} {ms : List MOp} {R : RN} {rb sb : Nat} {st : Option (List UInt8)}
theorem next_okS {n t : Nat} {l : List UInt8} (ok : ROK P R) (h : RdAt w rb sb (some l)) (hne : sb ≠ rb) (hn : n ≤ l.length) (h0 : ρ 0 = .pointer (some ⟨rb, 0, none⟩)) (ht : 0 < t) (hN : t + 8 ≤ N)
  (hQ : ∀ ρ' w', (∀ s, s < t → ρ' s = ρ s) → RdAt w' rb sb (some (l.drop n)) → Fr (fun _ => False) rb 0 2 w w' → (1 ≤ n → AdS w' rb) → Q .normal ρ' w') : RL P N (nextR R n t) Q ρ w := by
 obtain ⟨ad, c, h1, h2, h3, h4, h5⟩ := h
 obtain ⟨ad', g1, g2, g3, _, g5⟩ := run_sliceFromS (P := P) (w := w) ok.tk.u8s ok.cu h3 hn h4
 unfold nextR
 refine RL.s (MR.mv h0 (ltT (by omega))) (RL.s (MR.mv (v := .pointer (some ⟨rb, 0, none⟩)) (by show upd _ _ _ 0 = _; rw [Jb _ _ (by omega)]; exact h0) (ltT (by omega))) (RL.s (MR.nc (Ja _ _ _) (by omega)) (RL.s (MR.fa (Ja _ _ _) ok.f0 (by omega))
  (RL.s (MR.ld (Ja _ _ _) ok.ps (h1 0 _ rfl) (by omega)) (RL.s (MR.sl (v := .slice ad' (l.length - n) (c - n)) (by rw [Ja]; exact g1) (by simp [MX.lt]) (by simp) (by simp) (by omega)) (RL.s (MR.nc (p := ⟨rb, 0, none⟩) ?_ (by omega)) (RL.s (MR.fa (Ja _ _ _) ok.f0 (by omega))
   (RL.st1 (v := .slice ad' (l.length - n) (c - n)) (b := rb) (o := 0 + 0) (Ja _ _ _) ?_ rfl ok.cs (JG h2 (by omega)) (RL.nil ?_) (by omega) (by omega)) (by omega)) (by omega)) (by omega)) (by omega)) (by omega)) (by omega)) (by omega)) (by omega)
 ·rw [Jb _ _ (by omega), Jb _ _ (by omega), Jb _ _ (by omega), Jb _ _ (by omega), Jb _ _ (by omega), Ja]
 ·rw [Jb _ _ (by omega), Jb _ _ (by omega), Ja]
 ·refine hQ _ _ (fun s hs => ?_) ?_ (Fr.put _ (by omega) (by simp)) (fun h1n => ?_)
  ·rw [Jb _ _ (by omega), Jb _ _ (by omega), Jb _ _ (by omega), Jb _ _ (by omega), Jb _ _ (by omega), Jb _ _ (by omega), Jb _ _ (by omega), Jb _ _ (by omega)]
  ·have := RdAt.put (l := l.drop n) (ad := ad') (c := c - n) h1 h2 rfl g2 (by rw [List.length_drop]; omega) (g3 rfl h5) hne
   rw [List.length_drop] at this
   exact this
  ·obtain ⟨x, hx⟩ : ∃ x, l[0]? = some x := ⟨_, List.getElem?_eq_getElem (by omega)⟩
   obtain ⟨g, o, e, _⟩ := h5 0 x hx
   obtain ⟨a', e'⟩ := g5 _ e
   subst e'
   have ht0 : w.there rb (0 + 0) 1 := JG h2 (by omega)
   exact ⟨a', _, _, World.rangeAt_setCells_same w rb (0 + 0) [.slice (some a') (l.length - n) (c - n)] ht0 0 _ rfl⟩
theorem next_ok {n t : Nat} {l : List UInt8} (ok : ROK P R) (h : RdAt w rb sb (some l)) (hne : sb ≠ rb) (hn : n ≤ l.length) (h0 : ρ 0 = .pointer (some ⟨rb, 0, none⟩)) (ht : 0 < t) (hN : t + 8 ≤ N)
  (hQ : ∀ ρ' w', (∀ s, s < t → ρ' s = ρ s) → RdAt w' rb sb (some (l.drop n)) → Fr (fun _ => False) rb 0 2 w w' → Q .normal ρ' w') : RL P N (nextR R n t) Q ρ w :=
 next_okS ok h hne hn h0 ht hN fun ρ' w' a b c _ => hQ ρ' w' a b c
theorem head_ok {n : Nat} {z : MVal} (ok : ROK P R) (h : RdAt w rb sb st) (h0 : ρ 0 = .pointer (some ⟨rb, 0, none⟩)) (hN : 16 ≤ N) (hn : 1 ≤ n)
  (hbad : (stL st).length < n → ∀ ρ' w', ρ' 2 = z.val → RdAt w' rb sb none → Fr (fun _ => False) rb 0 2 w w' → Q .ret ρ' w')
  (hgood : ∀ l, st = some l → n ≤ l.length → ∀ ρ', (∀ s, s < 4 → ρ' s = ρ s) → Q .normal ρ' w) : RW P N (.sq (.rg (headR R n z)) (.cd 9 (failM R z 2 10) .sk)) Q ρ w := by
 obtain ⟨ad, c, h1, h2, h3, h4, h5⟩ := h.all
 unfold headR
 refine RW.sq (RW.rg (RL.s (MR.mv h0 (ltT (by omega))) (RL.s (MR.nc (Ja _ _ _) (by omega)) (RL.s (MR.fa (Ja _ _ _) ok.f0 (by omega)) (RL.s (MR.ld (Ja _ _ _) ok.ps (h1 0 _ rfl) (by omega)) (RL.s (MR.ln ok.tk.u8s (Ja _ _ _) (by omega))
  (RL.s (MR.biE (v := .bool (decide (((stL st).length : Int) < (n : Int)))) rfl (ltT (by omega)) rfl) (RL.nil ?_) (by omega)) (by omega)) (by omega)) (by omega)) (by omega)) (by omega)))
 refine RW.cd (Ja _ _ _) (fun e => ?_) (fun e => RW.sk ?_) (by omega)
 ·have hlt : (stL st).length < n := by have := of_decide_eq_true e; omega
  exact fail_ok ok h (by rw [Jb _ _ (by omega), Jb _ _ (by omega), Jb _ _ (by omega), Jb _ _ (by omega), Jb _ _ (by omega), Jb _ _ (by omega)]; exact h0) (by omega) (by omega) (by omega) (hbad hlt)
 ·have hge : ¬ (stL st).length < n := by have := of_decide_eq_false e; omega
  cases st with
  | none => exact absurd (show (stL none).length < n from by simp [stL]; omega) hge
  | some l =>
   exact hgood l rfl (by simpa [stL] using hge) _ (fun s hs => by rw [Jb _ _ (by omega), Jb _ _ (by omega), Jb _ _ (by omega), Jb _ _ (by omega), Jb _ _ (by omega), Jb _ _ (by omega)])
theorem takeN_none {k : Nat} {l : List UInt8} (h : l.length < k) : takeN k l = none := by unfold takeN; rw [if_neg (by omega)]
theorem takeN_yes {k : Nat} {l : List UInt8} (h : k ≤ l.length) : takeN k l = some (l.take k, l.drop k) := by unfold takeN; rw [if_pos h]
theorem Dec.map_none {α β : Type} {d : Dec α} {f : α → β} {l : List UInt8} (h : d l = none) : d.map f l = none := by simp [Dec.map, h]
theorem Dec.bind_none {α β : Type} {d : Dec α} {f : α → Dec β} {l : List UInt8} (h : d l = none) : d.bind f l = none := by simp [Dec.bind, h]
theorem st_none {α : Type} {d : Dec α} {n : Nat} (hd : ∀ l, l.length < n → d l = none) (h : (stL st).length < n) : st.bind d = none := by
 cases st with
 | none => rfl
 | some l => exact hd l h
theorem numC_okS {f n tu ts : Nat} {be : Nat} {k0 k : IntKind} (ok : ROK P R) (hbe : BeC P be n k0) (hn : 1 ≤ n) (h1 : JC P tu k0 = true) (h2 : JC P ts k = true) (hk : ∀ x : Nat, x < 256 ^ n → k.wrap (x : Int) = sgn n x)
  (hf : FnIs P f (cNumC R n be tu ts k) 32 2) : RdNS P f (dInt n) (fun x => .int k x) := by
 refine ⟨hf.ent, fun w rb sb st h hne => ?_⟩
 refine hf.runs (args := [.pointer (some ⟨rb, 0, none⟩)]) (by simp) (by omega) ?_
 refine RW.sq (RW.rg (RL.s MR.mv (RL.nil (RW.sq (head_ok (n := n) ok h rfl (by omega) hn (fun hlt ρ' w' g1 g2 g3 => ?_) (fun l hl hnl ρ1 hρ => ?_))))))
 ·exact ⟨g3, .inr ⟨st_none (fun l hl => Dec.map_none (Dec.map_none (takeN_none hl))) hlt, by rw [g1]; rfl, g2⟩⟩
 ·subst hl
  obtain ⟨ad, c, r1, r2, r3, r4, r5⟩ := h
  show RW P 32 _ _ ρ1 w
  have q0 : ρ1 0 = .pointer (some ⟨rb, 0, none⟩) := by rw [hρ 0 (by omega)]; rfl
  refine RW.sq (RW.gd ok.mo (Below w.heap.size w) (JI _ _) ?_)
  refine RG.q (v := .agg #[]) (fun w' hS => MR.lg (J3 (cs := []) ok.be ok.bn (fun j v hj => by simp at hj))) ?_ rfl rfl (by decide)
  refine RG.q (fun _ _ => MR.mv (v := .pointer (some ⟨rb, 0, none⟩)) (by show upd _ _ _ 0 = _; rw [Jb _ _ (by omega)]; exact q0)) (RG.q (fun _ _ => MR.nc rfl) (RG.q (fun _ _ => MR.fa rfl ok.f0) (RG.q (fun w' hS => MR.ld rfl ok.ps (hS.kp _ _ (r1 0 _ rfl))) ?_)))
  refine RG.ca (R := fun v w' => v = .int k0 (Qp (l.take n) : Nat) ∧ Below w.heap.size w w') hbe.1 (fun h0 => ?_) ?_
  ·refine Calls.mono (hbe.2 (World.drew1 w) ad l c (r5.any.kp (Qy w)) hnl) ?_
   rintro e w' ⟨rfl, hb⟩
   exact ⟨_, rfl, ⟨rfl, h0.trans (hb.mono h0.size)⟩, h0.trans (hb.mono h0.size)⟩
  rintro v w1 ⟨rfl, b1⟩
  refine RG.q (fun _ _ => MR.cvI rfl h1 h2) (RG.q (fun _ _ => MR.mv) (RG.nil fun _ => ?_))
  have hrb : rb < w.heap.size := World.block_lt_of_cell? w _ (r1 0 _ rfl)
  have F1 : Fr (fun _ => False) rb 0 2 w w1 := Fr.ofBelow b1 hrb
  have h' : RdAt w1 rb sb (some l) := ⟨ad, c, JV r1 (b1.block _ hrb), JE r2 (b1.block _ hrb), r3, r4, by
   intro j b hj
   obtain ⟨g, o, e, hg, hc⟩ := r5 j b hj
   exact ⟨g, o, e, hg, b1.kp _ _ hc⟩⟩
  refine RW.sq (RW.rg (next_okS ok h' hne hnl (by rw [Jb _ _ (by omega), Jb _ _ (by omega), Jb _ _ (by omega), Jb _ _ (by omega), Jb _ _ (by omega), Jb _ _ (by omega), Jb _ _ (by omega), Jb _ _ (by omega)]; exact q0) (by omega) (by omega) fun ρ2 w2 k1 k2 k3 k4 => ?_))
  refine RW.sq (RW.rg (RL.s (MR.mv (v := .int k (sgn n (Qp (l.take n)))) ?_) (RL.s MR.mv (RL.nil (RW.rt ?_)))))
  ·show ρ2 3 = _
   rw [k1 3 (by omega)]
   show Value.int k (k.wrap ((Qp (l.take n) : Nat) : Int)) = _
   rw [hk _ (by have := beVal_lt (l.take n); rwa [List.length_take, Nat.min_eq_left hnl] at this)]
  ·refine ⟨F1.trans k3, .inl ⟨sgn n (Qp (l.take n)), l.drop n, ?_, rfl, k2, k4 hn⟩⟩
   exact Dec.map_of (Dec.map_of (takeN_yes hnl))
theorem numC_ok {f n tu ts : Nat} {be : Nat} {k0 k : IntKind} (ok : ROK P R) (hbe : BeC P be n k0) (hn : 1 ≤ n) (h1 : JC P tu k0 = true) (h2 : JC P ts k = true) (hk : ∀ x : Nat, x < 256 ^ n → k.wrap (x : Int) = sgn n x)
  (hf : FnIs P f (cNumC R n be tu ts k) 32 2) : RdN P f (dInt n) (fun x => .int k x) :=
 (numC_okS ok hbe hn h1 h2 hk hf).n
theorem numU_ok {f n : Nat} {be : Nat} {k : IntKind} (ok : ROK P R) (hbe : BeC P be n k) (hn : 1 ≤ n)
  (hf : FnIs P f (cNumU R n be k) 31 2) : RdN P f (dNat n) (fun x => .int k (x : Nat)) := by
 refine ⟨hf.ent, fun w rb sb st h hne => ?_⟩
 refine hf.runs (args := [.pointer (some ⟨rb, 0, none⟩)]) (by simp) (by omega) ?_
 refine RW.sq (RW.rg (RL.s MR.mv (RL.nil (RW.sq (head_ok (n := n) ok h rfl (by omega) hn (fun hlt ρ' w' g1 g2 g3 => ?_) (fun l hl hnl ρ1 hρ => ?_))))))
 ·exact ⟨g3, .inr ⟨st_none (fun l hl => Dec.map_none (takeN_none hl)) hlt, by rw [g1]; rfl, g2⟩⟩
 ·subst hl
  obtain ⟨ad, c, r1, r2, r3, r4, r5⟩ := h
  show RW P 31 _ _ ρ1 w
  have q0 : ρ1 0 = .pointer (some ⟨rb, 0, none⟩) := by rw [hρ 0 (by omega)]; rfl
  refine RW.sq (RW.gd ok.mo (Below w.heap.size w) (JI _ _) ?_)
  refine RG.q (v := .agg #[]) (fun w' hS => MR.lg (J3 (cs := []) ok.be ok.bn (fun j v hj => by simp at hj))) ?_ rfl rfl (by decide)
  refine RG.q (fun _ _ => MR.mv (v := .pointer (some ⟨rb, 0, none⟩)) (by show upd _ _ _ 0 = _; rw [Jb _ _ (by omega)]; exact q0)) (RG.q (fun _ _ => MR.nc rfl) (RG.q (fun _ _ => MR.fa rfl ok.f0) (RG.q (fun w' hS => MR.ld rfl ok.ps (hS.kp _ _ (r1 0 _ rfl))) ?_)))
  refine RG.ca (R := fun v w' => v = .int k (Qp (l.take n) : Nat) ∧ Below w.heap.size w w') hbe.1 (fun h0 => ?_) ?_
  ·refine Calls.mono (hbe.2 (World.drew1 w) ad l c (r5.any.kp (Qy w)) hnl) ?_
   rintro e w' ⟨rfl, hb⟩
   exact ⟨_, rfl, ⟨rfl, h0.trans (hb.mono h0.size)⟩, h0.trans (hb.mono h0.size)⟩
  rintro v w1 ⟨rfl, b1⟩
  refine RG.q (fun _ _ => MR.mv) (RG.nil fun _ => ?_)
  have hrb : rb < w.heap.size := World.block_lt_of_cell? w _ (r1 0 _ rfl)
  have F1 : Fr (fun _ => False) rb 0 2 w w1 := Fr.ofBelow b1 hrb
  have h' : RdAt w1 rb sb (some l) := ⟨ad, c, JV r1 (b1.block _ hrb), JE r2 (b1.block _ hrb), r3, r4, by
   intro j b hj
   obtain ⟨g, o, e, hg, hc⟩ := r5 j b hj
   exact ⟨g, o, e, hg, b1.kp _ _ hc⟩⟩
  refine RW.sq (RW.rg (next_ok ok h' hne hnl (by rw [Jb _ _ (by omega), Jb _ _ (by omega), Jb _ _ (by omega), Jb _ _ (by omega), Jb _ _ (by omega), Jb _ _ (by omega), Jb _ _ (by omega)]; exact q0) (by omega) (by omega) fun ρ2 w2 k1 k2 k3 => ?_))
  refine RW.sq (RW.rg (RL.s (MR.mv (v := .int k (Qp (l.take n) : Nat)) ?_) (RL.s MR.mv (RL.nil (RW.rt ?_)))))
  ·show ρ2 3 = _
   rw [k1 3 (by omega)]; rfl
  ·refine ⟨F1.trans k3, .inl ⟨Qp (l.take n), l.drop n, ?_, rfl, k2⟩⟩
   exact Dec.map_of (takeN_yes hnl)
theorem wrap_sgn16 {x : Nat} (h : x < 256 ^ 2) : IntKind.i16.wrap (x : Int) = sgn 2 x := by
 simp only [Nat.reducePow] at h
 unfold sgn; simp only [Nat.reducePow, Nat.reduceDiv]
 simp [IntKind.wrap, IntKind.signed, IntKind.bits]; split <;> omega
theorem wrap_sgn32 {x : Nat} (h : x < 256 ^ 4) : IntKind.i32.wrap (x : Int) = sgn 4 x := by
 simp only [Nat.reducePow] at h
 unfold sgn; simp only [Nat.reducePow, Nat.reduceDiv]
 simp [IntKind.wrap, IntKind.signed, IntKind.bits]; split <;> omega
theorem wrap_sgn64 {x : Nat} (h : x < 256 ^ 8) : IntKind.i64.wrap (x : Int) = sgn 8 x := by
 simp only [Nat.reducePow] at h
 unfold sgn; simp only [Nat.reducePow, Nat.reduceDiv]
 simp [IntKind.wrap, IntKind.signed, IntKind.bits]; split <;> omega
def cI64 (R : RN) : Jc := .sq (.rg [.mv 2 (.c (.int .i64 0))]) (.sq (.rg [.mv 3 (.t 0), .ca 4 R.r64 [.t 3], .cv 5 R.T.u64 R.T.i64 4, .mv 2 (.t 5)]) .rt)
theorem i64_ok {f : Nat} (ok : ROK P R) (h1 : R.T.u64 ≠ 0) (h2 : R.T.i64 ≠ 0) (hr : RdN P R.r64 (dNat 8) (fun x => .int .u64 (x : Nat))) (hf : FnIs P f (cI64 R) 6 2) : RdN P f (dInt 8) (fun x => .int .i64 x) := by
 refine ⟨hf.ent, fun w rb sb st h hne => ?_⟩
 refine hf.runs (args := [.pointer (some ⟨rb, 0, none⟩)]) (by simp) (by omega) ?_
 refine RW.sq (RW.rg (RL.s MR.mv (RL.nil (RW.sq (RW.rg (RL.s MR.mv (RL.ca (R := fun v w' => Fr (fun _ => False) rb 0 2 w w' ∧ ((∃ x r, st.bind (dNat 8) = some (x, r) ∧ v = .int .u64 (x : Nat) ∧ RdAt w' rb sb (some r)) ∨ (st.bind (dNat 8) = none ∧ v = .int .u64 ((0 : Nat) : Int) ∧ RdAt w' rb sb none))) hr.1 ?_ ?_)))))))
 ·refine Calls.mono (hr.2 w rb sb st h hne) ?_
  rintro e w' ⟨hF, ⟨x, r, g1, rfl, g2⟩ | ⟨g1, ⟨x, rfl⟩, g2⟩⟩
  ·exact ⟨_, rfl, hF, .inl ⟨x, r, g1, rfl, g2⟩⟩
  ·exact ⟨_, rfl, hF, .inr ⟨g1, rfl, g2⟩⟩
 rintro v w1 ⟨hF, ⟨x, r, g1, rfl, g2⟩ | ⟨g1, rfl, g2⟩⟩
 ·have hx : x < 256 ^ 8 := by
   cases st with
   | none => simp at g1
   | some l => exact (dNat_some g1).1
  refine RL.s (MR.cvI rfl (ok.tk.u64 h1) (ok.tk.i64 h2)) (RL.s MR.mv (RL.nil (RW.rt ⟨hF, .inl ⟨sgn 8 x, r, ?_, ?_, g2⟩⟩)))
  ·cases st with
   | none => simp at g1
   | some l => exact Dec.map_of g1
  ·show Ending.returned (Value.int .i64 (IntKind.i64.wrap (x : Int))) = _
   rw [wrap_sgn64 hx]
 ·refine RL.s (MR.cvI rfl (ok.tk.u64 h1) (ok.tk.i64 h2)) (RL.s MR.mv (RL.nil (RW.rt ⟨hF, .inr ⟨?_, rfl, g2⟩⟩)))
  cases st with
  | none => rfl
  | some l => exact Dec.map_none g1
end
set_option linter.unusedVariables false
def Got {α : Type} (d : Dec α) (st : Option (List UInt8)) (x : α) : Option (List UInt8) → Prop
 | some r => st.bind d = some (x, r)
 | none => st.bind d = none
section
variable {α β : Type} {d : Dec α} {st st1 st2 : Option (List UInt8)} {x : α} {y : β}
theorem Got.map {f : α → β} (h : Got d st x st1) : Got (d.map f) st (f x) st1 := by
 cases st1 with
 | none => cases st with
  | none => rfl
  | some l => exact Dec.map_none h
 | some r => cases st with
  | none => simp [Got] at h
  | some l => exact Dec.map_of h
theorem Got.bind {k : α → Dec β} (h : Got d st x st1) (h2 : Got (k x) st1 y st2) : Got (d.bind k) st y st2 := by
 cases st1 with
 | none =>
  cases st2 with
  | some r => simp [Got] at h2
  | none => cases st with
   | none => rfl
   | some l => exact Dec.bind_none h
 | some r =>
  cases st with
  | none => simp [Got] at h
  | some l =>
   have e : d.bind k l = k x r := Dec.bind_of h
   cases st2 with
   | some r2 => show d.bind k l = _; rw [e]; exact h2
   | none => show d.bind k l = _; rw [e]; exact h2
theorem Got.pure (x : α) : Got (Dec.pure x) st x st := by cases st <;> rfl
theorem Got.failed {y : α} (h : ∀ l, st = some l → d l = none) : Got d st y none := by
 cases st with
 | none => rfl
 | some l => exact h l rfl
end
def Rb (w : World) (sb : Nat) : Nat → Prop := fun b => b = sb ∨ w.heap.size ≤ b
def RdC (P : Program) (f : Nat) {α : Type} (d : Dec α) (R : World → (Nat → Prop) → Value → α → Prop) : Prop := Jo P f = true ∧ ∀ (w : World) (rb sb : Nat) (st : Option (List UInt8)), RdAt w rb sb st → sb ≠ rb →
 Calls P f #[.pointer (some ⟨rb, 0, none⟩)] w (fun e w' => ∃ v x st', e = .returned v ∧ Fr (fun _ => False) rb 0 2 w w' ∧ Got d st x st' ∧ RdAt w' rb sb st' ∧ R w' (Rb w sb) v x)
def PlB {α : Type} (V : α → Value) (B : α → Prop) : World → (Nat → Prop) → Value → α → Prop := fun _ _ v x => v = V x ∧ B x
theorem RdN.c {P : Program} {f : Nat} {α : Type} [Inhabited α] {d : Dec α} {V : α → Value} {B : α → Prop} (h : RdN P f d V) (hB : ∀ l x r, d l = some (x, r) → B x) (h0 : B default) : RdC P f d (PlB V B) := by
 refine ⟨h.1, fun w rb sb st hr hne => Calls.mono (h.2 w rb sb st hr hne) ?_⟩
 rintro e w' ⟨hF, ⟨x, r, g1, rfl, g2⟩ | ⟨g1, rfl, g2⟩⟩
 ·refine ⟨_, x, some r, rfl, hF, g1, g2, rfl, ?_⟩
  cases st with
  | none => simp at g1
  | some l => exact hB l x r g1
 ·exact ⟨_, default, none, rfl, hF, g1, g2, rfl, h0⟩
def RdCS (P : Program) (f : Nat) {α : Type} (d : Dec α) (R : World → (Nat → Prop) → Value → α → Prop) : Prop := Jo P f = true ∧ ∀ (w : World) (rb sb : Nat) (st : Option (List UInt8)), RdAt w rb sb st → sb ≠ rb →
 Calls P f #[.pointer (some ⟨rb, 0, none⟩)] w (fun e w' => ∃ v x st', e = .returned v ∧ Fr (fun _ => False) rb 0 2 w w' ∧ Got d st x st' ∧ RdAt w' rb sb st' ∧ R w' (Rb w sb) v x ∧ (st' ≠ none → AdS w' rb))
theorem RdCS.n {P : Program} {f : Nat} {α : Type} {d : Dec α} {R : World → (Nat → Prop) → Value → α → Prop} (h : RdCS P f d R) : RdC P f d R := by
 refine ⟨h.1, fun w rb sb st hr hne => Calls.mono (h.2 w rb sb st hr hne) ?_⟩
 rintro e w' ⟨v, x, st', g1, g2, g3, g4, g5, _⟩
 exact ⟨v, x, st', g1, g2, g3, g4, g5⟩
theorem RdNS.c {P : Program} {f : Nat} {α : Type} [Inhabited α] {d : Dec α} {V : α → Value} {B : α → Prop} (h : RdNS P f d V) (hB : ∀ l x r, d l = some (x, r) → B x) (h0 : B default) : RdCS P f d (PlB V B) := by
 refine ⟨h.1, fun w rb sb st hr hne => Calls.mono (h.2 w rb sb st hr hne) ?_⟩
 rintro e w' ⟨hF, ⟨x, r, g1, rfl, g2, g3⟩ | ⟨g1, rfl, g2⟩⟩
 ·refine ⟨_, x, some r, rfl, hF, g1, g2, ⟨rfl, ?_⟩, fun _ => g3⟩
  cases st with
  | none => simp at g1
  | some l => exact hB l x r g1
 ·exact ⟨_, default, none, rfl, hF, g1, g2, ⟨rfl, h0⟩, fun e => absurd rfl e⟩
def SpanC (P : Program) (f : Nat) : Prop := Jo P f = true ∧ ∀ (w : World) (rb sb : Nat) (st : Option (List UInt8)) (n : Int), RdAt w rb sb st → sb ≠ rb →
 Calls P f #[.pointer (some ⟨rb, 0, none⟩), .int .i64 n] w (fun e w' => ∃ ad l st', e = .returned (.slice ad l.length l.length) ∧ Fr (fun _ => False) rb 0 2 w w' ∧ Got (dSpan n) st l st' ∧ RdAt w' rb sb st' ∧ okAd ad ∧ Jg w' (· = sb) ad l)
def SpanCS (P : Program) (f : Nat) : Prop := Jo P f = true ∧ ∀ (w : World) (rb sb : Nat) (st : Option (List UInt8)) (n : Int), RdAt w rb sb st → sb ≠ rb →
 Calls P f #[.pointer (some ⟨rb, 0, none⟩), .int .i64 n] w (fun e w' => ∃ ad l st', e = .returned (.slice ad l.length l.length) ∧ Fr (fun _ => False) rb 0 2 w w' ∧ Got (dSpan n) st l st' ∧ RdAt w' rb sb st' ∧ okAd ad ∧ Jg w' (· = sb) ad l ∧ (AdS w rb → st' ≠ none → ad ≠ none) ∧ (st' = none → ad = none ∧ l = []))
theorem SpanCS.n {P : Program} {f : Nat} (h : SpanCS P f) : SpanC P f := by
 refine ⟨h.1, fun w rb sb st n hr hne => Calls.mono (h.2 w rb sb st n hr hne) ?_⟩
 rintro e w' ⟨ad, l, st', g1, g2, g3, g4, g5, g6, _⟩
 exact ⟨ad, l, st', g1, g2, g3, g4, g5, g6⟩
section
variable {P : Program} {N : Nat} {Q : UE} {ρ : Nat → Value} {w w' : World} {ms : List MOp} {R : RN} {rb sb : Nat} {st : Option (List UInt8)}
theorem RL.rd {α : Type} {dec : Dec α} {C : World → (Nat → Prop) → Value → α → Prop} {f d : Nat} {y : MX} (hc : RdC P f dec C) (hx : xof ρ y = .pointer (some ⟨rb, 0, none⟩)) (h : RdAt w rb sb st) (hne : sb ≠ rb) (hy : MX.lt N y = true) (hd : d < N)
  (k : ∀ v x st' w', Fr (fun _ => False) rb 0 2 w w' → Got dec st x st' → RdAt w' rb sb st' → C w' (Rb w sb) v x → RL P N ms Q (upd ρ d v) w') : RL P N (.ca d f [y] :: ms) Q ρ w := by
 refine RL.ca (R := fun v w' => ∃ x st', Fr (fun _ => False) rb 0 2 w w' ∧ Got dec st x st' ∧ RdAt w' rb sb st' ∧ C w' (Rb w sb) v x) hc.1 ?_ ?_ hd (by intro x hx; simp only [List.mem_singleton] at hx; subst hx; exact hy)
 ·simp only [List.map_cons, List.map_nil, hx]
  refine Calls.mono (hc.2 w rb sb st h hne) ?_
  rintro e w' ⟨v, x, st', rfl, h1, h2, h3, h4⟩
  exact ⟨v, rfl, x, st', h1, h2, h3, h4⟩
 ·rintro v w' ⟨x, st', h1, h2, h3, h4⟩
  exact k v x st' w' h1 h2 h3 h4
theorem RL.span {f d : Nat} {y z : MX} {n : Int} (hc : SpanC P f) (hx : xof ρ y = .pointer (some ⟨rb, 0, none⟩)) (hz : xof ρ z = .int .i64 n) (h : RdAt w rb sb st) (hne : sb ≠ rb) (hy : MX.lt N y = true) (hzN : MX.lt N z = true) (hd : d < N)
  (k : ∀ ad l st' w', Fr (fun _ => False) rb 0 2 w w' → Got (dSpan n) st l st' → RdAt w' rb sb st' → okAd ad → Jg w' (· = sb) ad l → RL P N ms Q (upd ρ d (.slice ad l.length l.length)) w') : RL P N (.ca d f [y, z] :: ms) Q ρ w := by
 refine RL.ca (R := fun v w' => ∃ ad l st', v = .slice ad (List.length l) (List.length l) ∧ Fr (fun _ => False) rb 0 2 w w' ∧ Got (dSpan n) st l st' ∧ RdAt w' rb sb st' ∧ okAd ad ∧ Jg w' (· = sb) ad l) hc.1 ?_ ?_ hd (by intro x hx; simp only [List.mem_cons, List.not_mem_nil, or_false] at hx; exact hx.elim (fun e => e ▸ hy) (fun e => e ▸ hzN))
 ·simp only [List.map_cons, List.map_nil, hx, hz]
  refine Calls.mono (hc.2 w rb sb st n h hne) ?_
  rintro e w' ⟨ad, l, st', rfl, h1⟩
  exact ⟨_, rfl, ad, l, st', rfl, h1⟩
 ·rintro v w' ⟨ad, l, st', rfl, h1, h2, h3, h4, h5⟩
  exact k ad l st' w' h1 h2 h3 h4 h5
theorem RL.spanS {f d : Nat} {y z : MX} {n : Int} (hc : SpanCS P f) (hx : xof ρ y = .pointer (some ⟨rb, 0, none⟩)) (hz : xof ρ z = .int .i64 n) (h : RdAt w rb sb st) (hne : sb ≠ rb) (hy : MX.lt N y = true) (hzN : MX.lt N z = true) (hd : d < N)
  (k : ∀ ad l st' w', Fr (fun _ => False) rb 0 2 w w' → Got (dSpan n) st l st' → RdAt w' rb sb st' → okAd ad → Jg w' (· = sb) ad l → (AdS w rb → st' ≠ none → ad ≠ none) → (st' = none → ad = none ∧ l = []) → RL P N ms Q (upd ρ d (.slice ad l.length l.length)) w') : RL P N (.ca d f [y, z] :: ms) Q ρ w := by
 refine RL.ca (R := fun v w' => ∃ ad l st', v = .slice ad (List.length l) (List.length l) ∧ Fr (fun _ => False) rb 0 2 w w' ∧ Got (dSpan n) st l st' ∧ RdAt w' rb sb st' ∧ okAd ad ∧ Jg w' (· = sb) ad l ∧ (AdS w rb → st' ≠ none → ad ≠ none) ∧ (st' = none → ad = none ∧ l = [])) hc.1 ?_ ?_ hd (by intro x hx; simp only [List.mem_cons, List.not_mem_nil, or_false] at hx; exact hx.elim (fun e => e ▸ hy) (fun e => e ▸ hzN))
 ·simp only [List.map_cons, List.map_nil, hx, hz]
  refine Calls.mono (hc.2 w rb sb st n h hne) ?_
  rintro e w' ⟨ad, l, st', rfl, h1⟩
  exact ⟨_, rfl, ad, l, st', rfl, h1⟩
 ·rintro v w' ⟨ad, l, st', rfl, h1, h2, h3, h4, h5, h6, h7⟩
  exact k ad l st' w' h1 h2 h3 h4 h5 h6 h7
def nextV (R : RN) (s t : Nat) : List MOp := [.mv t (.t 0), .mv (t + 1) (.t 0), .nc (t + 2) (t + 1), .fa (t + 3) R.tR (t + 2) 0, .ld (t + 4) R.T.u8s (t + 3), .mv (t + 5) (.t s), .sl (t + 6) R.T.u8s (t + 4) (some (.t (t + 5))) none none, .nc (t + 7) t, .fa (t + 8) R.tR (t + 7) 0, .st R.T.u8s (t + 8) (t + 6)]
theorem nextV_okS {n s t : Nat} {l : List UInt8} (ok : ROK P R) (h : RdAt w rb sb (some l)) (hne : sb ≠ rb) (hn : n ≤ l.length) (h0 : ρ 0 = .pointer (some ⟨rb, 0, none⟩)) (hs : ρ s = .int .i64 (n : Nat)) (hst : s < t) (ht : 0 < t) (hN : t + 9 ≤ N)
  (hQ : ∀ ρ' w', (∀ s, s < t → ρ' s = ρ s) → RdAt w' rb sb (some (l.drop n)) → Fr (fun _ => False) rb 0 2 w w' → (1 ≤ n → AdS w' rb) → Q .normal ρ' w') : RL P N (nextV R s t) Q ρ w := by
 obtain ⟨ad, c, h1, h2, h3, h4, h5⟩ := h
 obtain ⟨ad', g1, g2, g3, _, g5⟩ := run_sliceFromS (P := P) (w := w) ok.tk.u8s ok.cu h3 hn h4
 unfold nextV
 refine RL.s (MR.mv h0 (ltT (by omega))) (RL.s (MR.mv (v := .pointer (some ⟨rb, 0, none⟩)) (by show upd _ _ _ 0 = _; rw [Jb _ _ (by omega)]; exact h0) (ltT (by omega))) (RL.s (MR.nc (Ja _ _ _) (by omega)) (RL.s (MR.fa (Ja _ _ _) ok.f0 (by omega))
  (RL.s (MR.ld (Ja _ _ _) ok.ps (h1 0 _ rfl) (by omega)) (RL.s (MR.mv (v := .int .i64 (n : Nat)) (by show upd _ _ _ s = _; rw [Jb _ _ (by omega), Jb _ _ (by omega), Jb _ _ (by omega), Jb _ _ (by omega), Jb _ _ (by omega)]; exact hs) (ltT (by omega)))
   (RL.s (MR.sl (v := .slice ad' (l.length - n) (c - n)) (by rw [Jb _ _ (by omega), Ja]; simp only [Option.map, xof, Ja]; exact g1) (by intro z hz; cases hz; exact ltT (by omega)) (by simp) (by simp) (by omega)) (RL.s (MR.nc (p := ⟨rb, 0, none⟩) ?_ (by omega)) (RL.s (MR.fa (Ja _ _ _) ok.f0 (by omega))
   (RL.st1 (v := .slice ad' (l.length - n) (c - n)) (b := rb) (o := 0 + 0) (Ja _ _ _) ?_ rfl ok.cs (JG h2 (by omega)) (RL.nil ?_) (by omega) (by omega)) (by omega)) (by omega)) (by omega)) (by omega)) (by omega)) (by omega)) (by omega)) (by omega)) (by omega)
 ·rw [Jb _ _ (by omega), Jb _ _ (by omega), Jb _ _ (by omega), Jb _ _ (by omega), Jb _ _ (by omega), Jb _ _ (by omega), Ja]
 ·rw [Jb _ _ (by omega), Jb _ _ (by omega), Ja]
 ·refine hQ _ _ (fun s hs => ?_) ?_ (Fr.put _ (by omega) (by simp)) (fun h1n => ?_)
  ·rw [Jb _ _ (by omega), Jb _ _ (by omega), Jb _ _ (by omega), Jb _ _ (by omega), Jb _ _ (by omega), Jb _ _ (by omega), Jb _ _ (by omega), Jb _ _ (by omega), Jb _ _ (by omega)]
  ·have := RdAt.put (l := l.drop n) (ad := ad') (c := c - n) h1 h2 rfl g2 (by rw [List.length_drop]; omega) (g3 rfl h5) hne
   rw [List.length_drop] at this
   exact this
  ·obtain ⟨x, hx⟩ : ∃ x, l[0]? = some x := ⟨_, List.getElem?_eq_getElem (by omega)⟩
   obtain ⟨g, o, e, _⟩ := h5 0 x hx
   obtain ⟨a', e'⟩ := g5 _ e
   subst e'
   have ht0 : w.there rb (0 + 0) 1 := JG h2 (by omega)
   exact ⟨a', _, _, World.rangeAt_setCells_same w rb (0 + 0) [.slice (some a') (l.length - n) (c - n)] ht0 0 _ rfl⟩
theorem nextV_ok {n s t : Nat} {l : List UInt8} (ok : ROK P R) (h : RdAt w rb sb (some l)) (hne : sb ≠ rb) (hn : n ≤ l.length) (h0 : ρ 0 = .pointer (some ⟨rb, 0, none⟩)) (hs : ρ s = .int .i64 (n : Nat)) (hst : s < t) (ht : 0 < t) (hN : t + 9 ≤ N)
  (hQ : ∀ ρ' w', (∀ s, s < t → ρ' s = ρ s) → RdAt w' rb sb (some (l.drop n)) → Fr (fun _ => False) rb 0 2 w w' → Q .normal ρ' w') : RL P N (nextV R s t) Q ρ w :=
 nextV_okS ok h hne hn h0 hs hst ht hN fun ρ' w' a b c _ => hQ ρ' w' a b c
def spanG (R : RN) : List GOp := [⟨0, none, .mv 6 (.t 0)⟩, ⟨1, none, .nc 7 6⟩, ⟨2, none, .fa 8 R.tR 7 0⟩, ⟨3, none, .ld 9 R.T.u8s 8⟩, ⟨4, none, .ln 10 R.T.u8s 9⟩, ⟨5, none, .mv 11 (.t 1)⟩, ⟨6, none, .bi 12 .lss R.T.int (.t 10) (.t 11)⟩, ⟨7, none, .mv 13 (.t 12)⟩, ⟨8, some (7, 13, false), .mv 14 (.t 1)⟩, ⟨9, some (7, 13, false), .bi 15 .lss R.T.int (.t 14) (.c (.int .i64 0))⟩, ⟨10, none, .pk 16 (.t 13) (.c (.bool true)) (.t 15)⟩]
def cSpan (R : RN) : Jc :=
 .sq (.rg [.mv 4 (.c .nslice)]) (.sq (.sq (.gr false (spanG R)) (.cd 16 (failM R .nslice 4 17) .sk))
  (.sq (.rg [.mv 23 (.t 0), .nc 24 23, .fa 25 R.tR 24 0, .ld 26 R.T.u8s 25, .mv 27 (.t 1), .mv 28 (.t 1), .sl 29 R.T.u8s 26 none (some (.t 27)) (some (.t 28)), .mv 5 (.t 29)])
  (.sq (.rg (nextV R 1 30)) (.sq (.rg [.mv 39 (.t 5), .mv 4 (.t 39)]) .rt))))
theorem dSpan_none {n : Int} {l : List UInt8} (h : n < 0 ∨ (l.length : Int) < n) : dSpan n l = none := by
 unfold dSpan
 split
 ·rfl
 ·exact takeN_none (by omega)
theorem Jg.take {F : Nat → Prop} {ad : Option Addr} {l : List UInt8} (h : Jg w F ad l) (n : Nat) : Jg w F ad (l.take n) := by
 intro j b hj
 rw [List.getElem?_take] at hj
 split at hj
 ·exact h j b hj
 ·simp at hj
theorem span_okS {f : Nat} (ok : ROK P R) (hf : FnIs P f (cSpan R) 40 4) : SpanCS P f := by
 refine ⟨hf.ent, fun w rb sb st n h hne => ?_⟩
 refine hf.runs (args := [.pointer (some ⟨rb, 0, none⟩), .int .i64 n]) (by simp) (by omega) ?_
 obtain ⟨ad, c, r1, r2, r3, r4, r5⟩ := h.all
 have hbad : (n < 0 ∨ ((stL st).length : Int) < n) → ∀ l, st = some l → dSpan n l = none := by
  rintro hn l rfl; exact dSpan_none hn
 have fin : ∀ (ρ : Nat → Value) (c16 : Bool), (c16 = true ↔ (n < 0 ∨ ((stL st).length : Int) < n)) → ρ 0 = .pointer (some ⟨rb, 0, none⟩) → ρ 1 = .int .i64 n → ρ 16 = .bool c16 →
   RW P 40 (.cd 16 (failM R .nslice 4 17) .sk) (QP (RW P 40 (.sq (.rg [.mv 23 (.t 0), .nc 24 23, .fa 25 R.tR 24 0, .ld 26 R.T.u8s 25, .mv 27 (.t 1), .mv 28 (.t 1), .sl 29 R.T.u8s 26 none (some (.t 27)) (some (.t 28)), .mv 5 (.t 29)])
  (.sq (.rg (nextV R 1 30)) (.sq (.rg [.mv 39 (.t 5), .mv 4 (.t 39)]) .rt))) (retQ 4 (fun e w' => ∃ ad l st', e = .returned (.slice ad l.length l.length) ∧ Fr (fun _ => False) rb 0 2 w w' ∧ Got (dSpan n) st l st' ∧ RdAt w' rb sb st' ∧ okAd ad ∧ Jg w' (· = sb) ad l ∧ (AdS w rb → st' ≠ none → ad ≠ none) ∧ (st' = none → ad = none ∧ l = [])))) (retQ 4 (fun e w' => ∃ ad l st', e = .returned (.slice ad l.length l.length) ∧ Fr (fun _ => False) rb 0 2 w w' ∧ Got (dSpan n) st l st' ∧ RdAt w' rb sb st' ∧ okAd ad ∧ Jg w' (· = sb) ad l ∧ (AdS w rb → st' ≠ none → ad ≠ none) ∧ (st' = none → ad = none ∧ l = [])))) ρ w := by
  intro ρ c16 hc h0 h1 h16
  refine RW.cd h16 (fun e => ?_) (fun e => RW.sk ?_)
  ·refine fail_ok ok h h0 (by omega) (by omega) (by omega) fun ρ' w' g1 g2 g3 => ?_
   refine ⟨none, [], none, ?_, g3, Got.failed (hbad (hc.1 e)), g2, .inl rfl, (fun j b hj => by simp at hj), fun _ h => absurd rfl h, fun _ => ⟨rfl, rfl⟩⟩
   show Ending.returned (ρ' 4) = _
   rw [g1]; rfl
  ·have hge : ¬ (n < 0 ∨ ((stL st).length : Int) < n) := fun x => by have := hc.2 x; rw [e] at this; simp at this
   obtain ⟨m, rfl⟩ : ∃ m : Nat, n = (m : Nat) := ⟨n.toNat, by omega⟩
   have hm : m ≤ (stL st).length := by omega
   show RW P 40 _ _ _ _
   refine RW.sq (RW.rg (RL.s (MR.mv h0) (RL.s (MR.nc rfl) (RL.s (MR.fa rfl ok.f0) (RL.s (MR.ld rfl ok.ps (r1 0 _ rfl)) (RL.s (MR.mv (v := .int .i64 (m : Nat)) h1) (RL.s (MR.mv (v := .int .i64 (m : Nat)) h1)
    (RL.s (MR.sl (v := .slice ad m m) (run_slice3 (P := P) (w := w) ok.tk.u8s ok.cu r3 (by omega))) (RL.s MR.mv (RL.nil ?_))))))))))
   cases st with
   | none =>
    have hm0 : m = 0 := by simpa [stL] using hm
    subst hm0
    obtain ⟨b1, b2⟩ := h
    obtain ⟨ad', g1, g2, g3, g4⟩ := run_sliceFrom (P := P) (w := w) (l := 0) (n := 0) (c := 0) (ad := none) ok.tk.u8s ok.cu (.inl rfl) (by omega) (by omega)
    have ead : ad = none ∧ c = 0 := by have := r1 0 _ rfl; have h' := b1 0 _ rfl; rw [h'] at this; simp only [UC, Value.slice.injEq] at this; exact ⟨this.1.symm, this.2.2.symm⟩
    obtain ⟨rfl, rfl⟩ := ead
    have ead' : ad' = none := g4 rfl
    subst ead'
    unfold nextV
    refine RW.sq (RW.rg (RL.s (MR.mv (v := .pointer (some ⟨rb, 0, none⟩)) h0) (RL.s (MR.mv (v := .pointer (some ⟨rb, 0, none⟩)) h0) (RL.s (MR.nc rfl) (RL.s (MR.fa rfl ok.f0) (RL.s (MR.ld rfl ok.ps (b1 0 _ rfl)) (RL.s (MR.mv (v := .int .i64 (0 : Nat)) h1)
     (RL.s (MR.sl (v := .slice none 0 0) g1) (RL.s (MR.nc rfl) (RL.s (MR.fa rfl ok.f0) (RL.st1 (v := .slice none 0 0) (b := rb) (o := 0 + 0) rfl rfl rfl ok.cs (JG b2 (by omega)) (RL.nil ?_))))))))))))
    refine RW.sq (RW.rg (RL.s (MR.mv (v := .slice none 0 0) rfl) (RL.s MR.mv (RL.nil (RW.rt ?_)))))
    have e2 := range_set (k := 0) (v := .slice none 0 0) b1 (JG b2 (by omega))
    exact ⟨none, [], none, rfl, Fr.put _ (by omega) (by simp), rfl, ⟨e2, World.there_setCells b2 _ _ _⟩, .inl rfl, (fun j b hj => by simp at hj), fun _ h => absurd rfl h, fun _ => ⟨rfl, rfl⟩⟩
   | some l =>
    have hlen : (l.take m).length = m := by rw [List.length_take]; simp only [stL] at hm; omega
    refine RW.sq (RW.rg (nextV_ok (n := m) ok h hne hm h0 h1 (by omega) (by omega) (by omega) fun ρ2 w2 k1 k2 k3 => ?_))
    refine RW.sq (RW.rg (RL.s (MR.mv (v := .slice ad m m) ?_) (RL.s MR.mv (RL.nil (RW.rt ?_)))))
    ·show ρ2 5 = _
     rw [k1 5 (by omega)]; rfl
    ·refine ⟨ad, l.take m, some (l.drop m), ?_, k3, ?_, k2, r3, ?_, fun hA _ => ?_, fun h => by cases h⟩
     ·rw [hlen]; rfl
     ·show dSpan (m : Nat) l = _
      unfold dSpan
      rw [if_neg (by omega), Int.toNat_natCast]
      exact takeN_yes (by simpa [stL] using hm)
     ·intro j b hj
      obtain ⟨g, o, e1, e2, e3⟩ := r5.take m j b hj
      have hg := World.block_lt_of_cell? w _ e3
      exact ⟨g, o, e1, e2, by rw [Ji (k3.block g hg (by rw [e2]; exact hne) (fun x => x))]; exact e3⟩
     ·obtain ⟨a, n', c', hc⟩ := hA
      have h0' : w.cell? ⟨rb, 0, none⟩ = some (.slice ad (stL (some l)).length c) := r1 0 _ rfl
      rw [hc] at h0'
      intro e0
      rw [e0] at h0'
      simp at h0'
 refine RW.sq (RW.rg (RL.s MR.mv (RL.nil (RW.sq (RW.sq (RW.gf (fun w' => w' = w) rfl ?_))))))
 refine RG.q (fun _ _ => MR.mv (v := .pointer (some ⟨rb, 0, none⟩)) rfl) (RG.q (fun _ _ => MR.nc rfl) (RG.q (fun _ _ => MR.fa rfl ok.f0) (RG.q (fun w' hw => MR.ld rfl ok.ps (by rw [hw]; exact r1 0 _ rfl)) (RG.q (fun _ _ => MR.ln ok.tk.u8s rfl)
  (RG.q (fun _ _ => MR.mv (v := .int .i64 n) rfl) (RG.q (v := .bool (decide (((stL st).length : Int) < n))) (fun _ _ => MR.biE rfl) (RG.q (fun _ _ => MR.mv (v := .bool (decide (((stL st).length : Int) < n))) rfl) ?_)))))))
 by_cases e : ((stL st).length : Int) < n
 ·rw [decide_eq_true e]
  refine RG.no (d := 14) (by exact ⟨by decide, .inl rfl⟩) (RG.no (d := 15) (by exact ⟨by decide, .inl rfl⟩) (RG.q (fun _ _ => MR.pk (v := .bool true) rfl) (RG.nil fun _ => ?_)))
  exact fin _ true ⟨fun _ => .inr e, fun _ => rfl⟩ rfl rfl rfl
 ·rw [decide_eq_false e]
  refine RG.q (fun _ _ => MR.mv (v := .int .i64 n) rfl) (RG.q (v := .bool (decide (n < 0))) (fun _ _ => MR.biE rfl) (RG.q (fun _ _ => MR.pk (v := .bool (decide (n < 0))) rfl) (RG.nil fun _ => ?_)))
  refine fin _ (decide (n < 0)) ⟨fun x => .inl (of_decide_eq_true x), fun x => ?_⟩ rfl rfl rfl
  rcases x with x | x
  ·exact decide_eq_true x
  ·exact absurd x e
end
end Go.Kx
