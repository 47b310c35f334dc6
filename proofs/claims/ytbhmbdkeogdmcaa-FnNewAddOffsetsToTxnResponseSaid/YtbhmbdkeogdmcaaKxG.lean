/- Reading, the plain law: what is read of octets may be said (Ok), is small, and is written in no more octets; so what is read and written is read and written the same. Conditions: at most 32767 octets; every thing of a list is written in at least one octet (minOk).
   A row's closed facts, out of the program's own (each proved once) and the row's. No condition. -/
import Derived.Test.YtbhmbdkeogdmcaaKxF
import Derived.JoinedOf
namespace Go.Kx
open Go.RowKit
set_option linter.unusedSimpArgs false
set_option linter.unusedVariables false

theorem takeN_some {k : Nat} {l x r : List UInt8} (h : takeN k l = some (x, r)) : x.length = k ∧ x.length + r.length = l.length := by
  unfold takeN at h
  split at h
  · rename_i hk
    simp only [Option.some.injEq, Prod.mk.injEq] at h
    obtain ⟨rfl, rfl⟩ := h
    simp only [List.length_take, List.length_drop]; omega
  · simp at h

theorem beVal_lt : ∀ (l : List UInt8), beVal l < 256 ^ l.length := by
  intro l
  induction h : l.length generalizing l with
  | zero => have := List.eq_nil_of_length_eq_zero h; subst this; simp [beVal]
  | succ n ih =>
    have hne : l ≠ [] := by intro e; subst e; simp at h
    have e := List.dropLast_concat_getLast hne
    have h2 := ih l.dropLast (by rw [List.length_dropLast]; omega)
    have h3 : (l.getLast hne).toNat < 256 := (l.getLast hne).toNat_lt
    rw [← e, beVal_snoc, Nat.pow_succ]
    omega

theorem dNat_some {k n : Nat} {l r : List UInt8} (h : dNat k l = some (n, r)) : n < 256 ^ k ∧ k + r.length = l.length := by
  unfold dNat at h
  obtain ⟨x, h1, rfl⟩ := Dec.map_some.1 h
  obtain ⟨h2, h3⟩ := takeN_some h1
  have := beVal_lt x
  rw [h2] at this
  exact ⟨this, by omega⟩

theorem dInt_some {k : Nat} {n : Int} {l r : List UInt8} (hk : k = 1 ∨ k = 2 ∨ k = 4 ∨ k = 8) (h : dInt k l = some (n, r)) : -((256 ^ k / 2 : Nat) : Int) ≤ n ∧ n < ((256 ^ k / 2 : Nat) : Int) ∧ k + r.length = l.length := by
  unfold dInt at h
  obtain ⟨x, h1, rfl⟩ := Dec.map_some.1 h
  obtain ⟨h2, h3⟩ := dNat_some h1
  refine ⟨?_, ?_, h3⟩ <;> unfold sgn <;> rcases hk with rfl | rfl | rfl | rfl <;> simp only [Nat.reducePow, Nat.reduceDiv] at h2 ⊢ <;> split <;> omega

theorem uvb_len1 (j n : Nat) : 1 ≤ (uvb j n).length := by
  cases j <;> simp only [uvb] <;> (try split) <;> simp

theorem dUvb_some : ∀ (k : Nat) (l r : List UInt8) (n : Nat), dUvb k l = some (n, r) → n < 16 * 128 ^ k ∧ ∀ j, (uvb j n).length + r.length ≤ l.length
  | _, [], r, n, h => by simp [dUvb] at h
  | 0, b :: l, r, n, h => by
    simp only [dUvb] at h
    split at h
    · rename_i hb
      simp only [Option.some.injEq, Prod.mk.injEq] at h
      obtain ⟨rfl, rfl⟩ := h
      refine ⟨by simp; omega, fun j => ?_⟩
      have : (uvb j b.toNat).length = 1 := by
        cases j with
        | zero => rfl
        | succ j => rw [uvb, if_pos (by omega)]; rfl
      rw [this, List.length_cons]; omega
    · simp at h
  | k + 1, b :: l, r, n, h => by
    simp only [dUvb] at h
    split at h
    · rename_i hb
      simp only [Option.some.injEq, Prod.mk.injEq] at h
      obtain ⟨rfl, rfl⟩ := h
      refine ⟨?_, fun j => ?_⟩
      · have : 1 ≤ 128 ^ k := Nat.one_le_pow _ _ (by omega)
        rw [Nat.pow_succ]; omega
      · have : (uvb j b.toNat).length = 1 := by cases j <;> simp [uvb, hb]
        rw [this, List.length_cons]; omega
    · cases h1 : dUvb k l with
      | none => simp [h1] at h
      | some p =>
        obtain ⟨m, r'⟩ := p
        simp only [h1, Option.some.injEq, Prod.mk.injEq] at h
        obtain ⟨rfl, rfl⟩ := h
        obtain ⟨h2, h3⟩ := dUvb_some k l r' m h1
        refine ⟨by rw [Nat.pow_succ]; omega, fun j => ?_⟩
        cases j with
        | zero => have := h3 0; simp only [uvb, List.length_cons, List.length_nil] at this ⊢; omega
        | succ j =>
          by_cases hn : b.toNat % 128 + 128 * m < 128
          · have := h3 0
            simp only [uvb, if_pos hn, List.length_cons, List.length_nil] at this ⊢; omega
          · have := h3 j
            rw [uvb, if_neg hn, show (b.toNat % 128 + 128 * m) / 128 = m from by omega]
            simp only [List.length_cons]; omega

theorem dUv_some {l r : List UInt8} {n : Nat} (h : dUv l = some (n, r)) : n < 4294967296 ∧ (uv n).length + r.length ≤ l.length := by
  obtain ⟨h1, h2⟩ := dUvb_some 4 l r n h
  exact ⟨by simpa using h1, h2 9⟩

theorem dSpan_some {s : Int} {l x r : List UInt8} (h : dSpan s l = some (x, r)) : 0 ≤ s ∧ s = (x.length : Nat) ∧ x.length + r.length = l.length := by
  unfold dSpan at h
  split at h
  · simp at h
  · obtain ⟨h1, h2⟩ := takeN_some h
    exact ⟨by omega, by omega, h2⟩

theorem cntNull_len (flex : Bool) (k : Nat) : (cntNull flex k).length = if flex then 1 else k := by
  cases flex
  · simp [cntNull, fix_len]
  · rfl

theorem dLen_some {flex : Bool} {k : Nat} {l r : List UInt8} {x : Int} (hk : k = 2 ∨ k = 4) (h : dLen flex k l = some (x, r)) :
    (cntNull flex k).length + r.length ≤ l.length ∧ (0 ≤ x → (cnt flex k x.toNat).length + r.length ≤ l.length) := by
  cases flex
  · simp only [dLen, Bool.false_eq_true, if_false] at h
    obtain ⟨_, _, h3⟩ := dInt_some (by omega) h
    rw [cntNull_len]
    refine ⟨by simp only [Bool.false_eq_true, if_false]; omega, fun _ => ?_⟩
    simp only [cnt, Bool.false_eq_true, if_false, fix_len]; omega
  · simp only [dLen, if_true] at h
    obtain ⟨n, h1, rfl⟩ := Dec.map_some.1 h
    obtain ⟨h2, h3⟩ := dUv_some h1
    have hp := uv_pos n
    rw [cntNull_len]
    refine ⟨by simp only [if_true]; omega, fun h0 => ?_⟩
    simp only [cnt, if_true]
    rw [show ((n : Int) - 1).toNat + 1 = n from by omega]
    exact h3

theorem cnt_zero (flex : Bool) (k : Nat) : (cnt flex k 0).length = (cntNull flex k).length := by
  cases flex
  · simp [cnt, cntNull, fix_len]
  · rfl

theorem dP_some {k : PK} {flex : Bool} {l r : List UInt8} {d : D} (h : dP k flex l = some (d, r)) (hl : l.length ≤ 32767) : okP k d ∧ (encP k flex d).length + r.length ≤ l.length := by
  cases k <;> unfold dP at h <;> simp only [okP]
  · obtain ⟨i, h1, rfl⟩ := Dec.map_some.1 h
    obtain ⟨h2, h3, h4⟩ := dInt_some (by omega) h1
    simp only [Nat.reducePow, Nat.reduceDiv] at h2 h3
    exact ⟨⟨i, rfl, by omega, by omega⟩, by show (fix i 1).length + _ ≤ _; rw [fix_len]; omega⟩
  · obtain ⟨i, h1, rfl⟩ := Dec.map_some.1 h
    obtain ⟨h2, h3, h4⟩ := dInt_some (by omega) h1
    simp only [Nat.reducePow, Nat.reduceDiv] at h2 h3
    exact ⟨⟨i, rfl, by omega, by omega⟩, by show (fix i 2).length + _ ≤ _; rw [fix_len]; omega⟩
  · obtain ⟨i, h1, rfl⟩ := Dec.map_some.1 h
    obtain ⟨h2, h3, h4⟩ := dInt_some (by omega) h1
    simp only [Nat.reducePow, Nat.reduceDiv] at h2 h3
    exact ⟨⟨i, rfl, by omega, by omega⟩, by show (fix i 4).length + _ ≤ _; rw [fix_len]; omega⟩
  · obtain ⟨i, h1, rfl⟩ := Dec.map_some.1 h
    obtain ⟨h2, h3, h4⟩ := dInt_some (by omega) h1
    simp only [Nat.reducePow, Nat.reduceDiv] at h2 h3
    exact ⟨⟨i, rfl, by omega, by omega⟩, by show (fix i 8).length + _ ≤ _; rw [fix_len]; omega⟩
  · obtain ⟨i, h1, rfl⟩ := Dec.map_some.1 h
    obtain ⟨h2, h4⟩ := dNat_some h1
    simp only [Nat.reducePow] at h2
    exact ⟨⟨i, rfl, by omega, by omega⟩, by show (fix i 2).length + _ ≤ _; rw [fix_len]; omega⟩
  · obtain ⟨i, h1, rfl⟩ := Dec.map_some.1 h
    obtain ⟨h2, h4⟩ := dNat_some h1
    refine ⟨?_, by show 1 + _ ≤ _; omega⟩
    split
    · exact .inl rfl
    · exact .inr rfl
  · obtain ⟨i, h1, rfl⟩ := Dec.map_some.1 h
    obtain ⟨h2, h4⟩ := dNat_some h1
    simp only [Nat.reducePow] at h2
    exact ⟨⟨i, rfl, by omega, by omega⟩, by show (fix i 8).length + _ ≤ _; rw [fix_len]; omega⟩
  · obtain ⟨x, h1, rfl⟩ := Dec.map_some.1 h
    obtain ⟨h2, h3⟩ := takeN_some h1
    exact ⟨⟨x, rfl, h2⟩, by show x.length + _ ≤ _; omega⟩
  · obtain ⟨n, r', h1, h2⟩ := Dec.bind_some.1 h
    obtain ⟨x, h3, rfl⟩ := Dec.map_some.1 h2
    obtain ⟨g1, g2, g3⟩ := dSpan_some h3
    obtain ⟨g4, g5⟩ := dLen_some (.inl rfl) h1
    have g6 := g5 g1
    rw [show n.toNat = x.length from by omega] at g6
    exact ⟨⟨x, rfl, by omega⟩, by show (cnt flex 2 x.length ++ x).length + _ ≤ _; rw [List.length_append]; omega⟩
  · obtain ⟨n, r', h1, h2⟩ := Dec.bind_some.1 h
    obtain ⟨g4, g5⟩ := dLen_some (.inl rfl) h1
    split at h2
    · simp only [Dec.pure, Option.some.injEq, Prod.mk.injEq] at h2
      obtain ⟨rfl, rfl⟩ := h2
      exact ⟨.inl rfl, g4⟩
    · obtain ⟨x, h3, rfl⟩ := Dec.map_some.1 h2
      obtain ⟨g1, g2, g3⟩ := dSpan_some h3
      have g6 := g5 g1
      rw [show n.toNat = x.length from by omega] at g6
      exact ⟨.inr ⟨x, rfl, by omega⟩, by show (cnt flex 2 x.length ++ x).length + _ ≤ _; rw [List.length_append]; omega⟩
  · obtain ⟨n, r', h1, h2⟩ := Dec.bind_some.1 h
    obtain ⟨g4, g5⟩ := dLen_some (.inr rfl) h1
    split at h2
    · simp only [Dec.pure, Option.some.injEq, Prod.mk.injEq] at h2
      obtain ⟨rfl, rfl⟩ := h2
      refine ⟨⟨[], rfl, by simp⟩, ?_⟩
      show (cnt flex 4 0 ++ []).length + _ ≤ _
      rw [List.append_nil, cnt_zero]; exact g4
    · obtain ⟨x, h3, rfl⟩ := Dec.map_some.1 h2
      obtain ⟨g1, g2, g3⟩ := dSpan_some h3
      have g6 := g5 g1
      rw [show n.toNat = x.length from by omega] at g6
      exact ⟨⟨x, rfl, by omega⟩, by show (cnt flex 4 x.length ++ x).length + _ ≤ _; rw [List.length_append]; omega⟩
  · obtain ⟨n, r', h1, h2⟩ := Dec.bind_some.1 h
    obtain ⟨g4, g5⟩ := dLen_some (.inr rfl) h1
    split at h2
    · simp only [Dec.pure, Option.some.injEq, Prod.mk.injEq] at h2
      obtain ⟨rfl, rfl⟩ := h2
      exact ⟨.inl rfl, g4⟩
    · obtain ⟨x, h3, rfl⟩ := Dec.map_some.1 h2
      obtain ⟨g1, g2, g3⟩ := dSpan_some h3
      have g6 := g5 g1
      rw [show n.toNat = x.length from by omega] at g6
      exact ⟨.inr ⟨x, rfl, by omega⟩, by show (cnt flex 4 x.length ++ x).length + _ ≤ _; rw [List.length_append]; omega⟩

theorem okP_small {k : PK} {d : D} (h : okP k d) : smallP d := by
  cases k <;> simp only [okP] at h
  case bool => rcases h with rfl | rfl <;> trivial
  case uuid => obtain ⟨l, rfl, h1⟩ := h; show l.length ≤ 32767; omega
  case str => obtain ⟨l, rfl, h1⟩ := h; exact h1
  case byt => obtain ⟨l, rfl, h1⟩ := h; exact h1
  case nstr => rcases h with rfl | ⟨l, rfl, h1⟩ <;> first | trivial | exact h1
  case nbyt => rcases h with rfl | ⟨l, rfl, h1⟩ <;> first | trivial | exact h1
  all_goals (obtain ⟨i, rfl, _⟩ := h; trivial)

theorem encP_pos {k : PK} {flex : Bool} {d : D} (h : okP k d) : 1 ≤ (encP k flex d).length := by
  have hc : ∀ (k n : Nat), 1 ≤ k → 1 ≤ (cnt flex k n).length := by
    intro k n hk
    cases flex
    · simp only [cnt, Bool.false_eq_true, if_false, fix_len]; exact hk
    · simp only [cnt, if_true]; exact uv_pos _
  have hn : ∀ k : Nat, 1 ≤ k → 1 ≤ (cntNull flex k).length := by intro k hk; rw [cntNull_len]; split <;> omega
  cases k <;> simp only [okP] at h
  case bool => rcases h with rfl | rfl <;> exact Nat.le_refl 1
  case uuid => obtain ⟨l, rfl, h1⟩ := h; show 1 ≤ l.length; omega
  case str => obtain ⟨l, rfl, h1⟩ := h; show 1 ≤ (cnt flex 2 l.length ++ l).length; rw [List.length_append]; have := hc 2 l.length (by omega); omega
  case byt => obtain ⟨l, rfl, h1⟩ := h; show 1 ≤ (cnt flex 4 l.length ++ l).length; rw [List.length_append]; have := hc 4 l.length (by omega); omega
  case nstr =>
    rcases h with rfl | ⟨l, rfl, h1⟩
    · exact hn 2 (by omega)
    · show 1 ≤ (cnt flex 2 l.length ++ l).length; rw [List.length_append]; have := hc 2 l.length (by omega); omega
  case nbyt =>
    rcases h with rfl | ⟨l, rfl, h1⟩
    · exact hn 4 (by omega)
    · show 1 ≤ (cnt flex 4 l.length ++ l).length; rw [List.length_append]; have := hc 4 l.length (by omega); omega
  case i8 => obtain ⟨i, rfl, _⟩ := h; show 1 ≤ (fix i 1).length; rw [fix_len]; omega
  case i16 => obtain ⟨i, rfl, _⟩ := h; show 1 ≤ (fix i 2).length; rw [fix_len]; omega
  case u16 => obtain ⟨i, rfl, _⟩ := h; show 1 ≤ (fix i 2).length; rw [fix_len]; omega
  case i32 => obtain ⟨i, rfl, _⟩ := h; show 1 ≤ (fix i 4).length; rw [fix_len]; omega
  case i64 => obtain ⟨i, rfl, _⟩ := h; show 1 ≤ (fix i 8).length; rw [fix_len]; omega
  case f64 => obtain ⟨i, rfl, _⟩ := h; show 1 ≤ (fix i 8).length; rw [fix_len]; omega

/-! ### At least one octet -/
mutual
def min1 (ver : Int) (flex : Bool) : Ty → Bool
  | .struct _ _ _ tg fs => (tg.isSome && flex) || min1F ver flex fs
  | _ => true
def min1F (ver : Int) (flex : Bool) : Flds → Bool
  | .nil => false
  | .cons c _ _ _ ty rest => (c.ok ver && min1 ver flex ty) || min1F ver flex rest
end
mutual
def minOk (ver : Int) (flex : Bool) : Ty → Bool
  | .arr _ _ _ el => min1 ver flex el && minOk ver flex el
  | .struct _ _ _ _ fs => minOkF ver flex fs
  | _ => true
def minOkF (ver : Int) (flex : Bool) : Flds → Bool
  | .nil => true
  | .cons c _ _ _ ty rest => (!c.ok ver || minOk ver flex ty) && minOkF ver flex rest
end

theorem cnt_pos (flex : Bool) (n : Nat) : 1 ≤ (cnt flex 4 n).length := by
  cases flex
  · simp only [cnt, Bool.false_eq_true, if_false, fix_len]; omega
  · simp only [cnt, if_true]; exact uv_pos _

mutual
theorem enc_pos (ver : Int) (flex : Bool) : ∀ (ty : Ty) (d : D), min1 ver flex ty = true → Ok ver flex ty d → 1 ≤ (enc ver flex ty d).length
  | .prim k _, d, _, h => by unfold Ok at h; unfold enc; exact encP_pos h
  | .enum k _ _, d, _, h => by unfold Ok at h; unfold enc; exact encP_pos h
  | .arr nul _ _ el, d, _, h => by
    unfold Ok at h
    obtain ⟨b, xs, rfl, _⟩ := h
    unfold enc
    split
    · rw [cntNull_len]; split <;> omega
    · rw [List.length_append]; have := cnt_pos flex xs.length; omega
  | .struct _ _ _ tg fs, d, hm, h => by
    unfold Ok at h
    obtain ⟨ds, ts, rfl, h1, _⟩ := h
    unfold enc
    simp only [min1, Bool.or_eq_true] at hm
    rw [List.length_append]
    rcases hm with hm | hm
    · rw [hm]; simp only [if_true]
      unfold encTags; rw [List.length_append]; have := uv_pos ts.length; omega
    · have := encF_pos ver flex fs ds hm h1; omega
theorem encF_pos (ver : Int) (flex : Bool) : ∀ (fs : Flds) (ds : List D), min1F ver flex fs = true → OkF ver flex fs ds → 1 ≤ (encF ver flex fs ds).length
  | .nil, _, hm, _ => by simp [min1F] at hm
  | .cons c _ _ _ ty rest, ds, hm, h => by
    unfold OkF at h
    unfold encF
    simp only [min1F, Bool.or_eq_true, Bool.and_eq_true] at hm
    rw [List.length_append]
    rcases hm with hm | hm
    · rw [hm.1]; simp only [if_true]
      have := enc_pos ver flex ty _ hm.2 (h.1 hm.1); omega
    · have := encF_pos ver flex rest _ hm h.2; omega
end

/-! ### Tags that are read -/
theorem uvb_mono : ∀ (j a b : Nat), a ≤ b → (uvb j a).length ≤ (uvb j b).length
  | 0, _, _, _ => by simp [uvb]
  | j + 1, a, b, h => by
    simp only [uvb]
    by_cases hb : b < 128
    · rw [if_pos hb, if_pos (by omega)]; simp
    · rw [if_neg hb]
      by_cases ha : a < 128
      · rw [if_pos ha]; simp
      · rw [if_neg ha]
        have := uvb_mono j (a / 128) (b / 128) (Nat.div_le_div_right h)
        simp only [List.length_cons]; omega
theorem uv_mono {a b : Nat} (h : a ≤ b) : (uv a).length ≤ (uv b).length := uvb_mono 9 a b h

theorem setTag_mem {t x : Nat × List UInt8} : ∀ {ts : List (Nat × List UInt8)}, x ∈ setTag t ts → x = t ∨ x ∈ ts
  | [], h => by simp only [setTag, List.mem_singleton] at h; exact .inl h
  | y :: ys, h => by
    simp only [setTag] at h
    split at h
    · simp only [List.mem_cons] at h
      rcases h with rfl | h
      · exact .inr List.mem_cons_self
      · rcases setTag_mem h with h | h
        · exact .inl h
        · exact .inr (List.mem_cons_of_mem _ h)
    · split at h
      · simp only [List.mem_cons] at h
        rcases h with rfl | h
        · exact .inl rfl
        · exact .inr (List.mem_cons_of_mem _ h)
      · simp only [List.mem_cons] at h
        rcases h with rfl | rfl | h
        · exact .inl rfl
        · exact .inr List.mem_cons_self
        · exact .inr (List.mem_cons_of_mem _ h)

theorem setTag_sorted {t : Nat × List UInt8} : ∀ {ts : List (Nat × List UInt8)}, ts.Pairwise (fun x y => x.1 < y.1) → (setTag t ts).Pairwise (fun x y => x.1 < y.1)
  | [], _ => by simp [setTag]
  | y :: ys, h => by
    rw [List.pairwise_cons] at h
    simp only [setTag]
    split
    · rename_i h1
      rw [List.pairwise_cons]
      refine ⟨fun z hz => ?_, setTag_sorted h.2⟩
      rcases setTag_mem hz with rfl | hz
      · exact h1
      · exact h.1 z hz
    · split
      · rename_i h1 h2
        rw [List.pairwise_cons]
        exact ⟨fun z hz => by rw [← h2]; exact h.1 z hz, h.2⟩
      · rename_i h1 h2
        rw [List.pairwise_cons, List.pairwise_cons]
        refine ⟨fun z hz => ?_, h⟩
        simp only [List.mem_cons] at hz
        rcases hz with rfl | hz
        · omega
        · have := h.1 z hz; omega

theorem setTag_len {t : Nat × List UInt8} : ∀ {ts : List (Nat × List UInt8)}, (setTag t ts).length ≤ ts.length + 1 ∧ ((setTag t ts).flatMap encTag).length ≤ (ts.flatMap encTag).length + (encTag t).length
  | [] => by simp [setTag]
  | y :: ys => by
    have ih := @setTag_len t ys
    simp only [setTag]
    split
    · simp only [List.length_cons, List.flatMap_cons, List.length_append]; omega
    · split
      · simp only [List.length_cons, List.flatMap_cons, List.length_append]; omega
      · simp only [List.length_cons, List.flatMap_cons, List.length_append]; omega

theorem dTag_some {l r : List UInt8} {t : Nat × List UInt8} (h : dTag l = some (t, r)) (hl : l.length ≤ 32767) : t.1 < 4294967296 ∧ t.2.length ≤ 32767 ∧ (encTag t).length + r.length ≤ l.length ∧ r.length + 1 ≤ l.length := by
  unfold dTag at h
  obtain ⟨k, r1, h1, h⟩ := Dec.bind_some.1 h
  obtain ⟨s, r2, h2, h⟩ := Dec.bind_some.1 h
  obtain ⟨v, h3, rfl⟩ := Dec.map_some.1 h
  obtain ⟨a1, a2⟩ := dUv_some h1
  obtain ⟨b1, b2⟩ := dUv_some h2
  obtain ⟨c1, c2, c3⟩ := dSpan_some h3
  have := uv_pos k
  have e : s = v.length := by omega
  subst e
  refine ⟨a1, by dsimp only; omega, ?_, by omega⟩
  unfold encTag; simp only [List.length_append]; omega

theorem dTagN_some : ∀ (n : Nat) (acc : List (Nat × List UInt8)) (l r : List UInt8) (ts : List (Nat × List UInt8)), dTagN n acc l = some (ts, r) → l.length ≤ 32767 → acc.Pairwise (fun x y => x.1 < y.1) → (∀ t ∈ acc, t.1 < 4294967296 ∧ t.2.length ≤ 32767) →
    ts.Pairwise (fun x y => x.1 < y.1) ∧ (∀ t ∈ ts, t.1 < 4294967296 ∧ t.2.length ≤ 32767) ∧ ts.length ≤ acc.length + n ∧ ts.length + r.length ≤ acc.length + l.length ∧ (ts.flatMap encTag).length + r.length ≤ (acc.flatMap encTag).length + l.length
  | 0, acc, l, r, ts, h, hl, hs, hm => by
    simp only [dTagN, Dec.pure, Option.some.injEq, Prod.mk.injEq] at h
    obtain ⟨rfl, rfl⟩ := h
    exact ⟨hs, hm, by omega, by omega, by omega⟩
  | n + 1, acc, l, r, ts, h, hl, hs, hm => by
    unfold dTagN at h
    obtain ⟨t, r1, h1, h2⟩ := Dec.bind_some.1 h
    obtain ⟨a1, a2, a3, a4⟩ := dTag_some h1 hl
    obtain ⟨b1, b2, b3, b4, b5⟩ := dTagN_some n (setTag t acc) r1 r ts h2 (by omega) (setTag_sorted hs) (fun x hx => by
      rcases setTag_mem hx with rfl | hx
      · exact ⟨a1, a2⟩
      · exact hm x hx)
    have := @setTag_len t acc
    exact ⟨b1, b2, by omega, by omega, by omega⟩

theorem dTags_some {l r : List UInt8} {ts : List (Nat × List UInt8)} (h : dTags l = some (ts, r)) (hl : l.length ≤ 32767) : okTags ts ∧ (encTags ts).length + r.length ≤ l.length := by
  unfold dTags at h
  obtain ⟨n, r1, h1, h2⟩ := Dec.bind_some.1 h
  obtain ⟨a1, a2⟩ := dUv_some h1
  obtain ⟨b1, b2, b3, b4, b5⟩ := dTagN_some n [] r1 r ts h2 (by omega) List.Pairwise.nil (by simp)
  have hu := @uv_mono ts.length n (by simpa using b3)
  simp only [List.length_nil, List.flatMap_nil] at b4 b5
  exact ⟨⟨b1, by omega, b2⟩, by unfold encTags; rw [List.length_append]; omega⟩

/-! ### All of it -/
theorem dALen_some {flex : Bool} {l r : List UInt8} {x : Int} (hl : l.length ≤ 32767) (h : dALen flex l = some (x, r)) :
    x ≤ r.length ∧ (cntNull flex 4).length + r.length ≤ l.length ∧ (0 < x → (cnt flex 4 x.toNat).length + r.length ≤ l.length) := by
  cases flex
  · simp only [dALen, Bool.false_eq_true, if_false] at h
    obtain ⟨y, r', h1, h2⟩ := Dec.bind_some.1 h
    obtain ⟨_, _, h3⟩ := dInt_some (by omega) h1
    unfold atMost at h2
    split at h2
    · simp at h2
    · simp only [Option.some.injEq, Prod.mk.injEq] at h2
      obtain ⟨rfl, rfl⟩ := h2
      rw [cntNull_len]
      exact ⟨by omega, by simp only [Bool.false_eq_true, if_false]; omega, fun _ => by simp only [cnt, Bool.false_eq_true, if_false, fix_len]; omega⟩
  · simp only [dALen, if_true] at h
    obtain ⟨n, r', h1, h2⟩ := Dec.bind_some.1 h
    obtain ⟨a1, a2⟩ := dUv_some h1
    unfold atMost at h2
    split at h2
    · simp at h2
    · simp only [Option.some.injEq, Prod.mk.injEq] at h2
      obtain ⟨rfl, rfl⟩ := h2
      have hp := uv_pos n
      rw [cntNull_len]
      refine ⟨by omega, by simp only [if_true]; omega, fun h0 => ?_⟩
      simp only [cnt, if_true]
      have e : (aLen n).toNat + 1 = n := by
        rename_i hs
        revert h0 hs
        unfold aLen
        by_cases hn : n < 2147483648
        · by_cases h0 : n = 0
          · subst h0; intro _ h; exact absurd h (by decide)
          · rw [wrap_i32 (n := (n : Int)) (by omega) (by omega), wrap_i32 (by omega) (by omega)]; omega
        · have e1 : IntKind.i32.wrap (n : Int) = (n : Int) - 4294967296 := by simp [IntKind.wrap, IntKind.signed, IntKind.bits]; omega
          rw [e1]
          by_cases hm : n = 2147483648
          · subst hm
            have e2 : IntKind.i32.wrap (((2147483648 : Nat) : Int) - 4294967296 - 1) = 2147483647 := by decide
            rw [e2]; intro hs _; omega
          · rw [wrap_i32 (by omega) (by omega)]; omega
      rw [e]; exact a2

theorem rep_some {f : Dec D} {Pd : D → Prop} {e : D → List UInt8} (hf : ∀ l d r, f l = some (d, r) → l.length ≤ 32767 → Pd d ∧ (e d).length + r.length ≤ l.length) : ∀ (n : Nat) (l r : List UInt8) (xs : List D), rep f n l = some (xs, r) → l.length ≤ 32767 →
    (∀ x ∈ xs, Pd x) ∧ (xs.flatMap e).length + r.length ≤ l.length ∧ xs.length = n
  | 0, l, r, xs, h, hl => by
    simp only [rep, Dec.pure, Option.some.injEq, Prod.mk.injEq] at h
    obtain ⟨rfl, rfl⟩ := h
    simp
  | n + 1, l, r, xs, h, hl => by
    unfold rep at h
    obtain ⟨d, r1, h1, h2⟩ := Dec.bind_some.1 h
    obtain ⟨ys, h3, rfl⟩ := Dec.map_some.1 h2
    obtain ⟨a1, a2⟩ := hf _ _ _ h1 hl
    obtain ⟨b1, b2, b3⟩ := rep_some hf n r1 r ys h3 (by omega)
    refine ⟨fun x hx => ?_, by rw [List.flatMap_cons, List.length_append]; omega, by simp [b3]⟩
    simp only [List.mem_cons] at hx
    rcases hx with rfl | hx
    · exact a1
    · exact b1 x hx

theorem dfl_small : (∀ (ty : Ty) (df : Int), Sm okTags ty (dfl ty df)) := by
  intro ty
  refine Ty.rec (motive_1 := fun ty => ∀ df, Sm okTags ty (dfl ty df)) (motive_2 := fun fs => SmF okTags fs (dflF fs)) ?_ ?_ ?_ ?_ ?_ ?_ ty
  · intro k ty df
    unfold dfl Sm
    cases k <;> first | trivial | (show List.length _ ≤ 32767; simp)
  · intro k ty base df
    unfold dfl Sm; trivial
  · intro nul ty ety el _ df
    unfold dfl Sm
    exact ⟨by simp, by simp⟩
  · intro T n df' tg fs ih df
    unfold dfl Sm
    exact ⟨ih, ⟨List.Pairwise.nil, by simp, by simp⟩⟩
  · unfold dflF SmF; trivial
  · intro c i o df ty rest h1 h2
    unfold dflF SmF
    exact ⟨h1 df, h2⟩

mutual
theorem dec_some (ver : Int) (flex : Bool) : ∀ (ty : Ty) (l r : List UInt8) (d : D), minOk ver flex ty = true → dec ver flex ty l = some (d, r) → l.length ≤ 32767 → (Ok ver flex ty d ∧ Sm okTags ty d) ∧ (enc ver flex ty d).length + r.length ≤ l.length
  | .prim k _, l, r, d, _, h, hl => by
    unfold dec at h; unfold Ok enc Sm
    obtain ⟨h1, h2⟩ := dP_some h hl
    exact ⟨⟨h1, okP_small h1⟩, h2⟩
  | .enum k _ _, l, r, d, _, h, hl => by
    unfold dec at h; unfold Ok enc Sm
    obtain ⟨h1, h2⟩ := dP_some h hl
    exact ⟨⟨h1, okP_small h1⟩, h2⟩
  | .arr nul _ _ el, l, r, d, hm, h, hl => by
    simp only [minOk, Bool.and_eq_true] at hm
    unfold dec at h
    obtain ⟨x, r1, h1, h2⟩ := Dec.bind_some.1 h
    obtain ⟨a1, a2, a3⟩ := dALen_some hl h1
    split at h2
    · rename_i hx
      simp only [Dec.pure, Option.some.injEq, Prod.mk.injEq] at h2
      obtain ⟨rfl, rfl⟩ := h2
      unfold Ok enc Sm
      refine ⟨⟨⟨_, [], rfl, by simp, fun hb => ⟨rfl, ?_⟩, by simp⟩, by simp, by simp⟩, ?_⟩
      · revert hb
        unfold nulOf
        cases nul with
        | none => intro h; exact h
        | some nv =>
          simp only [Bool.not_eq_true', Bool.or_eq_false_iff]
          rintro ⟨g1, g2⟩
          exact ⟨g1, by decide⟩
      · split
        · exact a2
        · simp only [List.length_nil, List.flatMap_nil, List.append_nil]
          rw [cnt_zero]; exact a2
    · rename_i hx
      obtain ⟨xs, h3, rfl⟩ := Dec.map_some.1 h2
      obtain ⟨b1, b2, b3⟩ := rep_some (f := dec ver flex el) (Pd := fun d => Ok ver flex el d ∧ Sm okTags el d) (e := enc ver flex el) (fun l d r h hl => dec_some ver flex el l r d hm.2 h hl) _ r1 r xs h3 (by omega)
      have hxn : xs.length = x.toNat := b3
      refine ⟨⟨?_, ?_⟩, ?_⟩
      · rw [Ok]; exact ⟨_, xs, rfl, by omega, by simp, fun y hy => ⟨(b1 y hy).1, enc_pos ver flex el y hm.1 (b1 y hy).1⟩⟩
      · rw [Sm]; exact ⟨by omega, fun y hy => (b1 y hy).2⟩
      rw [enc]
      simp only [Bool.false_eq_true, if_false, List.length_append]
      have := a3 (by omega)
      rw [hxn]; omega
  | .struct _ _ _ tg fs, l, r, d, hm, h, hl => by
    simp only [minOk] at hm
    unfold dec at h
    obtain ⟨ds, r1, h1, h2⟩ := Dec.bind_some.1 h
    obtain ⟨⟨a1, a2⟩, a3⟩ := decF_some ver flex fs l r1 ds hm h1 hl
    split at h2
    · rename_i hf
      obtain ⟨ts, h3, rfl⟩ := Dec.map_some.1 h2
      obtain ⟨b1, b2⟩ := dTags_some h3 (by omega)
      unfold Ok enc Sm
      refine ⟨⟨⟨ds, ts, rfl, a1, fun _ => b1⟩, a2, b1⟩, ?_⟩
      rw [hf]; simp only [if_true, List.length_append]; omega
    · rename_i hf
      simp only [Dec.pure, Option.some.injEq, Prod.mk.injEq] at h2
      obtain ⟨rfl, rfl⟩ := h2
      unfold Ok enc Sm
      refine ⟨⟨⟨ds, [], rfl, a1, fun h => absurd h hf⟩, a2, ⟨List.Pairwise.nil, by simp, by simp⟩⟩, ?_⟩
      rw [if_neg hf, List.append_nil]; exact a3
theorem decF_some (ver : Int) (flex : Bool) : ∀ (fs : Flds) (l r : List UInt8) (ds : List D), minOkF ver flex fs = true → decF ver flex fs l = some (ds, r) → l.length ≤ 32767 → (OkF ver flex fs ds ∧ SmF okTags fs ds) ∧ (encF ver flex fs ds).length + r.length ≤ l.length
  | .nil, l, r, ds, _, h, hl => by
    unfold decF at h; rw [OkF, encF, SmF]
    simp only [Dec.pure, Option.some.injEq, Prod.mk.injEq] at h
    obtain ⟨rfl, rfl⟩ := h
    exact ⟨⟨trivial, trivial⟩, by simp⟩
  | .cons c _ _ df ty rest, l, r, ds, hm, h, hl => by
    simp only [minOkF, Bool.and_eq_true, Bool.or_eq_true, Bool.not_eq_true'] at hm
    unfold decF at h
    obtain ⟨d, r1, h1, h2⟩ := Dec.bind_some.1 h
    obtain ⟨ds', h3, rfl⟩ := Dec.map_some.1 h2
    rw [OkF, encF, SmF]
    simp only [List.headD_cons, List.tail_cons]
    cases hc : c.ok ver with
    | true =>
      rw [hc] at h1 hm
      simp only [if_true] at h1 ⊢
      obtain ⟨⟨a1, a2⟩, a3⟩ := dec_some ver flex ty l r1 d (by simpa using hm.1) h1 hl
      obtain ⟨⟨b1, b2⟩, b3⟩ := decF_some ver flex rest r1 r ds' hm.2 h3 (by omega)
      exact ⟨⟨⟨fun _ => a1, b1⟩, a2, b2⟩, by rw [List.length_append]; omega⟩
    | false =>
      rw [hc] at h1
      simp only [Bool.false_eq_true, if_false, Dec.pure, Option.some.injEq, Prod.mk.injEq] at h1 ⊢
      obtain ⟨rfl, rfl⟩ := h1
      obtain ⟨⟨b1, b2⟩, b3⟩ := decF_some ver flex rest l r ds' hm.2 h3 hl
      exact ⟨⟨⟨(fun h => by cases h), b1⟩, dfl_small ty df, b2⟩, by simpa using b3⟩
end

/-- What is said and small stays so. -/
theorem Ok.small (ver : Int) (flex : Bool) : (∀ (ty : Ty) (d : D), Ok ver flex ty d → Sm okTags ty (norm ver flex ty d)) := by
  intro ty
  refine Ty.rec (motive_1 := fun ty => ∀ d, Ok ver flex ty d → Sm okTags ty (norm ver flex ty d)) (motive_2 := fun fs => ∀ ds, OkF ver flex fs ds → SmF okTags fs (normF ver flex fs ds)) ?_ ?_ ?_ ?_ ?_ ?_ ty
  · intro k ty d h
    unfold Ok at h; unfold Sm norm; exact okP_small h
  · intro k ty base d h
    unfold Ok at h; unfold Sm norm; exact okP_small h
  · intro nul ty ety el ih d h
    unfold Ok at h
    obtain ⟨b, xs, rfl, h1, _, h2⟩ := h
    unfold norm Sm
    refine ⟨by simpa using h1, fun y hy => ?_⟩
    simp only [List.mem_map] at hy
    obtain ⟨x, hx, rfl⟩ := hy
    exact ih x (h2 x hx).1
  · intro T n df tg fs ih d h
    unfold Ok at h
    obtain ⟨ds, ts, rfl, h1, h2⟩ := h
    unfold norm Sm
    refine ⟨ih ds h1, ?_⟩
    split
    · rename_i hf; exact h2 hf
    · exact ⟨List.Pairwise.nil, by simp, by simp⟩
  · intro ds h
    unfold normF SmF; trivial
  · intro c i o df ty rest h1 h2 ds h
    unfold OkF at h
    unfold normF SmF
    simp only [List.headD_cons, List.tail_cons]
    refine ⟨?_, h2 _ h.2⟩
    split
    · rename_i hc; exact h1 _ (h.1 hc)
    · exact dfl_small ty df

theorem OkF.small (ver : Int) (flex : Bool) : ∀ (fs : Flds) (ds : List D), OkF ver flex fs ds → SmF okTags fs (normF ver flex fs ds)
  | .nil, ds, _ => by unfold normF SmF; trivial
  | .cons c _ _ df ty rest, ds, h => by
    unfold OkF at h
    unfold normF SmF
    simp only [List.headD_cons, List.tail_cons]
    refine ⟨?_, OkF.small ver flex rest _ h.2⟩
    split
    · rename_i hc; exact Ok.small ver flex ty _ (h.1 hc)
    · exact dfl_small ty df

/-- What is read of at most 32767 octets. -/
theorem decTop_some {p : Plan} {ver : Int} {l r : List UInt8} {ds : List D} {ts : List (Nat × List UInt8)} (hm : minOkF ver (p.flex ver) p.fs = true) (h : decTop p ver l = some ((ds, ts), r)) (hl : l.length ≤ 32767) :
    OkTop p ver ds ts ∧ SmF okTags p.fs ds ∧ okTags ts ∧ (encTop p ver ds ts).length ≤ l.length := by
  unfold decTop at h
  obtain ⟨ds', r1, h1, h2⟩ := Dec.bind_some.1 h
  obtain ⟨⟨a1, a2⟩, a3⟩ := decF_some ver _ p.fs l r1 ds' hm h1 hl
  split at h2
  · rename_i hf
    obtain ⟨ts', h3, h4⟩ := Dec.map_some.1 h2
    simp only [Prod.mk.injEq] at h4
    obtain ⟨rfl, rfl⟩ := h4
    obtain ⟨b1, b2⟩ := dTags_some h3 (by omega)
    refine ⟨⟨a1, fun _ => b1⟩, a2, b1, ?_⟩
    unfold encTop; rw [hf]; simp only [if_true, List.length_append]; omega
  · rename_i hf
    simp only [Dec.pure, Option.some.injEq, Prod.mk.injEq] at h2
    obtain ⟨⟨rfl, rfl⟩, rfl⟩ := h2
    refine ⟨⟨a1, fun h => absurd h hf⟩, a2, ⟨List.Pairwise.nil, by simp, by simp⟩, ?_⟩
    unfold encTop; rw [if_neg hf, List.append_nil]; omega

/-- What is read and written is read again, and written the same. -/
theorem anyTop {p : Plan} {ver : Int} {l r : List UInt8} {ds : List D} {ts : List (Nat × List UInt8)} (hm : minOkF ver (p.flex ver) p.fs = true) (h : decTop p ver l = some ((ds, ts), r)) (hl : l.length ≤ 32767) :
    ∃ ds' ts', decTop p ver (encTop p ver ds ts) = some ((ds', ts'), []) ∧ encTop p ver ds' ts' = encTop p ver ds ts := by
  obtain ⟨h1, _⟩ := decTop_some hm h hl
  have := rtTop (r := []) h1
  rw [List.append_nil] at this
  exact ⟨_, _, this, encTop_norm p ver ds ts⟩
end Go.Kx
namespace Go.Kx
open Go.RowKit
set_option linter.unusedSimpArgs false
set_option linter.unusedVariables false

/-- The closed facts but for those that speak of the whole program. -/
def rowFacts (P : Program) (f : FuncId) (fn : Func) (s : ChangeSpec) (c : OpenClaim) : Bool :=
  c.wf (OpenSpec.ofChange s) && true && true &&
  fn.params.all (P.readableRec ·) && namedTie P c.named s.vars &&
  (c.stops == []) && true && (c.knobs == []) && true &&
  (c.inPlace == P.inPlace f) && (c.unfollowed == P.unfollowed f) && (c.recurses == P.recurses f) && (c.named == P.varsNamed f) &&
  (c.maps == (fn.params.toList ++ s.plain.varTypes P).any (P.mapsRec ·)) && (c.ifaces == (fn.params.toList ++ s.plain.varTypes P).any (P.ifacesRec ·)) && (c.mapsOut == P.mapsAmong fn.resultTypes.toList) &&
  (c.loops == (fn.params.toList ++ s.plain.varTypes P).any (P.loopsFrom ·)) && (c.wideKeys == (fn.params.toList ++ s.plain.varTypes P ++ fn.resultTypes.toList).any (P.wideKeysFrom ·)) &&
  s.vars.all (P.varReadable ·) && fn.resultTypes.all (fun t => P.readableRec t && decide (t < P.types.size)) && (c.ifacesOut == fn.resultTypes.toList.any (P.ifacesRec ·)) && (c.loopsOut == fn.resultTypes.toList.any (P.loopsFrom ·)) && (c.plainKeys == P.plainKeys) && c.shortTexts.isNone && true && true && true && true && (c.kinds == (if c.domain.isEmpty then [] else fn.params.toList.map fun t => match P.underlying t with | some (.int k) => some k | _ => none)) && (c.pinned == c.pinnedBy) &&
  (c.veiled == (fn.params.toList ++ s.plain.varTypes P ++ fn.resultTypes.toList).any (P.veiledRec ·)) && c.veiledFits P fn.params.toList (fn.params.toList ++ s.plain.varTypes P ++ fn.resultTypes.toList)

theorem joined_of {P : Program} {f : FuncId} {fn : Func} {s : ChangeSpec} {c : OpenClaim} (h : rowFacts P f fn s c = true) (h1 : laidOutB P = true) (h2 : mapsRowed P = true) (h3 : (P.stops == []) = true) (h4 : (P.stopKnobs == []) = true)
    (h5 : P.stopsHeard = true) (h6 : P.mayEnter = true) (h7 : (c.lifted == P.liftsFinal) = true) (h8 : (P.make == some c.make) = true) : joinedFacts P f fn s c = true := by
  unfold joinedFacts
  rw [h1, h2, h3, h4, h5, h6, h7, h8]
  exact h
end Go.Kx
