/- The slots that the code of AppendTo takes rise. Plain facts on numbers.
   Functions whose frame is known whole: an evaluator of operations on numbers; making and appending small slices; entering and returning. No condition on the program beyond those named.
   Small slices that are made, and appended; a leaf's entry and return. No condition on the program beyond those named.
   kbin's functions that append a number: AppendInt8, Uint16, Int16, Uint32, Int32, Uint64, Int64, Bool. Each writes the number's octets, the highest first. Conditions: the program's tables (TOK), fewer than 2^40 octets.
   kbin's functions that append: the lengths, numbers in groups of seven bits, and what converts and calls. Conditions: the program's tables (TOK), fewer than 2^40 octets.
   kbin.UvarintLen and kbin.AppendUvarint: a number below 2^32 in groups of seven bits. Conditions: the program's tables (TOK), fewer than 2^40 octets.
   kbin's other functions that append: lengths, texts, octets, null or not; they call those of Kx15 and Kx17. Conditions: the program's tables (TOK), fewer than 2^40 octets, lengths of at most 32767.
   The walk told by what the slots hold (ρ), all of them: rules for each operation, each statement; regions that draw their order or have guards. No condition on the program beyond those that a rule names; a region that draws wants mixed orders allowed. -/
import Derived.Test.YtnodcmiaipbjiaaGreatDoorKxA
import Derived.Lib.AppendStr
import Derived.Laws.OwnMore
namespace Go.Kx
open Go.RowKit
set_option linter.unusedSimpArgs false
set_option linter.unusedVariables false
theorem ifFlex_le {sf : Option Nat} {t : Nat} {yes no : Nat → Jc × Nat} (h1 : ∀ t, t ≤ (yes t).2) (h2 : ∀ t, t ≤ (no t).2) : t ≤ (ifFlex sf t yes no).2 := by
 cases sf with
 | none => exact h2 t
 | some s => have a := h1 (t + 1); have b := h2 (yes (t + 1)).2; simp only [ifFlex]; omega
theorem callA_le {f v t : Nat} : t ≤ (callA f v t).2 := by simp [callA]
theorem lenA_le {f ty v t : Nat} : t ≤ (lenA f ty v t).2 := by simp [lenA]
theorem nlenA_le {f ty v t : Nat} : t ≤ (nlenA f ty v t).2 := by simp [nlenA]
theorem primA_le {I : IA} {sf : Option Nat} {k : PK} {v t : Nat} : t ≤ (primA I sf k v t).2 := by
 unfold primA
 split
 ·exact ifFlex_le (fun _ => callA_le) (fun _ => callA_le)
 ·exact callA_le
theorem primFldA_le {I : IA} {sf : Option Nat} {T vs idx : Nat} {k : PK} {ty x t : Nat} : t ≤ (primFldA I sf T vs idx k ty x t).2 := by
 unfold primFldA
 have := @primA_le I sf k x (t + 4)
 split
 ·simp
 ·simp only; omega
theorem tagsA_le {I : IA} {sf : Option Nat} {T vs : Nat} {tg : Option TgF} {t x b : Nat} : t ≤ (tagsA I sf T vs tg t x b).2.1 ∧ x ≤ (tagsA I sf T vs tg t x b).2.2.1 := by
 unfold tagsA
 split
 ·simp
 ·simp only [ktEnd]; omega
 ·simp
theorem tagsA_x {I : IA} {sf : Option Nat} {T vs : Nat} {tg : Option TgF} {t t2 x b b2 : Nat} : (tagsA I sf T vs tg t x b).2.2.1 = (tagsA I sf T vs tg t2 x b2).2.2.1 := by
 unfold tagsA
 split <;> rfl
theorem condA_le {I : IA} {sver t : Nat} {c : Cnd} {body : Nat → Jc × Nat × Nat × Nat} (h : ∀ t, t ≤ (body t).2.1) : t ≤ (condA I sver c t body).2.1 := by
 unfold condA
 split
 ·exact h t
 ·have := h (t + 2); dsimp only; omega
 ·have := h (t + 6); dsimp only; omega
 ·exact h t
theorem condA_x {I : IA} {sver t : Nat} {c : Cnd} {body : Nat → Jc × Nat × Nat × Nat} {x' : Nat} (h : ∀ t, (body t).2.2.1 = x') : (condA I sver c t body).2.2.1 = x' := by
 unfold condA
 split <;> exact h _
theorem alenA_le {I : IA} {sver : Nat} {sf nul : Option Nat} {ty v t : Nat} : t ≤ (alenA I sver sf nul ty v t).2 := by
 unfold alenA
 split
 ·exact ifFlex_le (fun _ => lenA_le) (fun _ => lenA_le)
 ·exact ifFlex_le (fun _ => nlenA_le) (fun _ => nlenA_le)
 ·have h1 := @ifFlex_le sf (t + 2) (nlenA I.cnalen ty v) (nlenA I.nalen ty v) (fun _ => nlenA_le) (fun _ => nlenA_le)
  have h2 := @ifFlex_le sf (ifFlex sf (t + 2) (nlenA I.cnalen ty v) (nlenA I.nalen ty v)).2 (lenA I.calen ty v) (lenA I.alen ty v) (fun _ => lenA_le) (fun _ => lenA_le)
  dsimp only; omega
theorem vstrA_le {I : IA} {sver : Nat} {sf : Option Nat} {lim ty base x t : Nat} : t + 8 ≤ (vstrA I sver sf lim ty base x t).2 := by
 have h1 := @primA_le I sf .str (x + 2) (t + 8)
 have h2 := @primA_le I sf .nstr x (primA I sf .str (x + 2) (t + 8)).2
 unfold vstrA
 dsimp only; omega
theorem boxF_le {I : IA} {T y : Nat} : ∀ (fs : Flds) {t x : Nat}, t ≤ (boxF I T y fs t x).2.1 ∧ x ≤ (boxF I T y fs t x).2.2
 | .nil, t, x => by simp [boxF]
 | .cons _ _ _ _ ty rest, t, x => by
  cases ty <;> simp only [boxF] <;> try simp
  have := @boxF_le I T y rest (t + 5) (x + 1)
  omega
theorem boxF_x {I : IA} {T y : Nat} : ∀ (fs : Flds) {t t2 x : Nat}, (boxF I T y fs t x).2.2 = (boxF I T y fs t2 x).2.2
 | .nil, t, t2, x => by simp [boxF]
 | .cons _ _ _ _ ty rest, t, t2, x => by
  cases ty <;> simp only [boxF]
  exact boxF_x rest
theorem payS_le {I : IA} {s T vs idx tidx lbl T' : Nat} {fs : Flds} {tidx' t x b : Nat} : t + 50 ≤ (payS I s T vs idx tidx lbl T' fs tidx' t x b).2.1 ∧ x + 6 ≤ (payS I s T vs idx tidx lbl T' fs tidx' t x b).2.2.1 := by
 have := @boxF_le I T' (x + 3) fs (t + 29 + 8) (x + 6)
 simp only [payS]; omega
section
variable {I : IA} {sver : Nat} {sf : Option Nat}
mutual
theorem genE_le {ty ety : Nat} : ∀ (el : Ty) {v x t x' b : Nat}, t ≤ (genE I sver sf ty ety el v x t x' b).2.1 ∧ x' ≤ (genE I sver sf ty ety el v x t x' b).2.2.1
 | .prim k _, v, x, t, x', b => by
  simp only [genE]
  have := @primA_le I sf k (x + 1) (t + 4)
  split
  ·exact ⟨by show t ≤ t + 7; omega, Nat.le_refl _⟩
  ·exact ⟨by show t ≤ (primA I sf k (x + 1) (t + 4)).2; omega, Nat.le_refl _⟩
 | .struct T _ _ tg fs, v, x, t, x', b => by
  simp only [genE]
  have h1 := @genF_le T (x + 1) fs (t + 3) x' b
  have h2 := @genT_le T (x + 1) tg fs (genF I sver sf T (x + 1) fs (t + 3) x' b).2.1 (genF I sver sf T (x + 1) fs (t + 3) x' b).2.2.1 (genF I sver sf T (x + 1) fs (t + 3) x' b).2.2.2
  omega
 | .enum .., v, x, t, x', b => by simp [genE]
 | .vstr .., v, x, t, x', b => by simp [genE]
 | .arr .., v, x, t, x', b => by simp [genE]
theorem genF_le {T vs : Nat} : ∀ (fs : Flds) {t x b : Nat}, t ≤ (genF I sver sf T vs fs t x b).2.1 ∧ x ≤ (genF I sver sf T vs fs t x b).2.2.1
 | .nil, t, x, b => by simp [genF]
 | .cons c idx off df ty rest, t, x, b => by
  simp only [genF]
  split
  ·exact genF_le rest
  have h1 : t ≤ (condA I sver c t (fun t => JS I sver sf T vs idx ty t x b)).2.1 := condA_le (fun t => (@Q3 T vs idx ty t x b).1)
  have h2 : x ≤ (condA I sver c t (fun t => JS I sver sf T vs idx ty t x b)).2.2.1 := by
   unfold condA
   split
   ·exact (@Q3 T vs idx ty t x b).2
   ·exact (@Q3 T vs idx ty (t + 2) x b).2
   ·exact (@Q3 T vs idx ty (t + 6) x b).2
   ·exact (@Q3 T vs idx ty t x b).2
  have h3 := @genF_le T vs rest (condA I sver c t (fun t => JS I sver sf T vs idx ty t x b)).2.1 (condA I sver c t (fun t => JS I sver sf T vs idx ty t x b)).2.2.1 (condA I sver c t (fun t => JS I sver sf T vs idx ty t x b)).2.2.2
  dsimp only
  omega
theorem genT_le {T vs : Nat} {tg : Option TgF} : ∀ (fs : Flds) {t x b : Nat}, t ≤ (genT I sver sf T vs tg fs t x b).2.1 ∧ x ≤ (genT I sver sf T vs tg fs t x b).2.2.1
 | .nil, t, x, b => by simp only [genT]; exact tagsA_le
 | .cons c idx off df ty rest, t, x, b => by
  simp only [genT]
  split
  ·have hp := fun (s : Nat) (q : TgF) => @genPay_le s T vs idx q.1.1 df.toNat ty (t + 1) x b
   split
   ·rename_i q s
    have := hp s q
    dsimp only; omega
   ·simp
  ·exact genT_le rest
theorem genPay_le {s T vs idx tidx lbl : Nat} : ∀ (ty : Ty) {t x b : Nat}, t ≤ (Qg I sver sf s T vs idx tidx lbl ty t x b).2.1 ∧ x ≤ (Qg I sver sf s T vs idx tidx lbl ty t x b).2.2.1
 | .prim .., t, x, b => by simp [Qg]
 | .enum .., t, x, b => by simp [Qg]
 | .vstr .., t, x, b => by simp [Qg]
 | .arr nul ty ety el, t, x, b => by
  simp only [Qg, loopA]
  have h0 : t + 28 + 8 ≤ (alenA I sver sf nul ty (x + 3) (t + 28 + 8)).2 := alenA_le
  have h1 := @genE_le ty ety el (x + 3) (x + 6) ((alenA I sver sf nul ty (x + 3) (t + 28 + 8)).2 + 5) (x + 8) (b + 3 + 2)
  omega
 | .struct T' _ _ tg fs, t, x, b => by
  cases tg with
  | none => simp [Qg]
  | some q =>
   simp only [Qg]
   have := @payS_le I s T vs idx tidx lbl T' fs q.1.1 t x b
   omega
theorem Q3 {T vs idx : Nat} : ∀ (ty : Ty) {t x b : Nat}, t ≤ (JS I sver sf T vs idx ty t x b).2.1 ∧ x ≤ (JS I sver sf T vs idx ty t x b).2.2.1
 | .prim k ty, t, x, b => by
  simp only [JS]
  have := @primFldA_le I sf T vs idx k ty x t
  omega
 | .enum k ty base, t, x, b => by
  simp only [JS, loadA, callA]
  omega
 | .vstr lim ty base, t, x, b => by
  simp only [JS, loadA]
  have := @vstrA_le I sver sf lim ty base x (t + 4)
  omega
 | .arr nul ty ety el, t, x, b => by
  simp only [JS, loadA, loopA]
  have h0 : t + 4 ≤ (alenA I sver sf nul ty x (t + 4)).2 := alenA_le
  have h1 := @genE_le ty ety el x (x + 1) ((alenA I sver sf nul ty x (t + 4)).2 + 5) (x + 3) (b + 2)
  omega
 | .struct T' _ _ tg fs, t, x, b => by
  simp only [JS]
  have h1 := @genF_le T' x fs (t + 3) (x + 1) b
  have h2 := @genT_le T' x tg fs (genF I sver sf T' x fs (t + 3) (x + 1) b).2.1 (genF I sver sf T' x fs (t + 3) (x + 1) b).2.2.1 (genF I sver sf T' x fs (t + 3) (x + 1) b).2.2.2
  omega
end
end
section
variable {I : IA} {sver : Nat} {sf : Option Nat}
mutual
theorem genE_x {ty ety : Nat} : ∀ (el : Ty) {v x t t2 x' b b2 : Nat}, (genE I sver sf ty ety el v x t x' b).2.2.1 = (genE I sver sf ty ety el v x t2 x' b2).2.2.1
 | .prim k _, v, x, t, t2, x', b, b2 => by simp only [genE]; split <;> rfl
 | .struct T _ _ tg fs, v, x, t, t2, x', b, b2 => by
  simp only [genE]
  rw [genF_x fs (t2 := t2 + 3) (b2 := b2)]
  exact genT_x fs
 | .enum .., v, x, t, t2, x', b, b2 => by simp [genE]
 | .vstr .., v, x, t, t2, x', b, b2 => by simp [genE]
 | .arr .., v, x, t, t2, x', b, b2 => by simp [genE]
theorem genF_x {T vs : Nat} : ∀ (fs : Flds) {t t2 x b b2 : Nat}, (genF I sver sf T vs fs t x b).2.2.1 = (genF I sver sf T vs fs t2 x b2).2.2.1
 | .nil, t, t2, x, b, b2 => by simp [genF]
 | .cons c idx off df ty rest, t, t2, x, b, b2 => by
  simp only [genF]
  split
  ·exact genF_x rest
  have h2 : (condA I sver c t (fun t => JS I sver sf T vs idx ty t x b)).2.2.1 = (condA I sver c t2 (fun t => JS I sver sf T vs idx ty t x b2)).2.2.1 := by
   unfold condA
   split <;> exact genFld_x ty
  rw [h2]
  exact genF_x rest
theorem genT_x {T vs : Nat} {tg : Option TgF} : ∀ (fs : Flds) {t t2 x b b2 : Nat}, (genT I sver sf T vs tg fs t x b).2.2.1 = (genT I sver sf T vs tg fs t2 x b2).2.2.1
 | .nil, t, t2, x, b, b2 => by simp only [genT]; exact tagsA_x
 | .cons c idx off df ty rest, t, t2, x, b, b2 => by
  simp only [genT]
  split
  ·have hp := fun (s : Nat) (q : TgF) => @genPay_x s T vs idx q.1.1 df.toNat ty (t + 1) (t2 + 1) x b b2
   split
   ·rename_i q s
    exact hp s q
   ·rfl
  ·exact genT_x rest
theorem genPay_x {s T vs idx tidx lbl : Nat} : ∀ (ty : Ty) {t t2 x b b2 : Nat}, (Qg I sver sf s T vs idx tidx lbl ty t x b).2.2.1 = (Qg I sver sf s T vs idx tidx lbl ty t2 x b2).2.2.1
 | .prim .., t, t2, x, b, b2 => by simp [Qg]
 | .enum .., t, t2, x, b, b2 => by simp [Qg]
 | .vstr .., t, t2, x, b, b2 => by simp [Qg]
 | .arr nul ty ety el, t, t2, x, b, b2 => by
  simp only [Qg, loopA]
  exact genE_x el
 | .struct T' _ _ tg fs, t, t2, x, b, b2 => by
  cases tg with
  | none => simp [Qg]
  | some q =>
   simp only [Qg, payS]
   exact boxF_x fs
theorem genFld_x {T vs idx : Nat} : ∀ (ty : Ty) {t t2 x b b2 : Nat}, (JS I sver sf T vs idx ty t x b).2.2.1 = (JS I sver sf T vs idx ty t2 x b2).2.2.1
 | .prim k ty, t, t2, x, b, b2 => by simp only [JS]
 | .enum k ty base, t, t2, x, b, b2 => by simp only [JS, loadA, callA]
 | .vstr .., t, t2, x, b, b2 => by simp only [JS, loadA]
 | .arr nul ty ety el, t, t2, x, b, b2 => by
  simp only [JS, loadA, loopA]
  exact genE_x el
 | .struct T' _ _ tg fs, t, t2, x, b, b2 => by
  simp only [JS]
  rw [genF_x fs (t2 := t2 + 3) (b2 := b2)]
  exact genT_x fs
end
end
set_option linter.unusedVariables false
def args0 (l : List Value) : Nat → Value := fun s => l.getD s undef
def xof (ρ : Nat → Value) : MX → Value
 | .t s => ρ s
 | .c m => m.val
def evB : BinOp → Value → Value → Option Value
 | .shr, .int k a, .int _ b => if 0 ≤ b then some (.int k (a.fdiv (2 ^ (min b.toNat k.bits)))) else none
 | .shl, .int k a, .int _ b => if 0 ≤ b then some (.int k (k.wrap (a * 2 ^ (min b.toNat k.bits)))) else none
 | .add, .int k a, .int k' b => if k = k' then some (.int k (k.wrap (a + b))) else none
 | .sub, .int k a, .int k' b => if k = k' then some (.int k (k.wrap (a - b))) else none
 | .mul, .int k a, .int k' b => if k = k' then some (.int k (k.wrap (a * b))) else none
 | .rem, .int k a, .int k' b => if k = k' ∧ b ≠ 0 then some (.int k (a.tmod b)) else none
 | .and, .int k a, .int k' b => if k = k' then some (.int k (k.wrap (BitVec.ofInt k.bits a &&& BitVec.ofInt k.bits b).toNat)) else none
 | .or, .int k a, .int k' b => if k = k' then some (.int k (k.wrap (BitVec.ofInt k.bits a ||| BitVec.ofInt k.bits b).toNat)) else none
 | .xor, .int k a, .int k' b => if k = k' then some (.int k (k.wrap (BitVec.ofInt k.bits a ^^^ BitVec.ofInt k.bits b).toNat)) else none
 | .lss, .int k a, .int k' b => if k = k' then some (.bool (decide (a < b))) else none
 | .leq, .int k a, .int k' b => if k = k' then some (.bool (decide (a ≤ b))) else none
 | .gtr, .int k a, .int k' b => if k = k' then some (.bool (decide (b < a))) else none
 | .geq, .int k a, .int k' b => if k = k' then some (.bool (decide (b ≤ a))) else none
 | .eql, .int k a, .int k' b => if k = k' then some (.bool (a == b)) else none
 | .neq, .int k a, .int k' b => if k = k' then some (.bool (!(a == b))) else none
 | _, _, _ => none
theorem evB_run {P : Program} {w : World} {op : BinOp} {x y v : Value} (ty : Nat) (h : evB op x y = some v) :
  (binOp op ty x y).run P w = .ok v w ∧ ∀ ox oy, (eqGuard op ty ox oy x y).run P w = .ok () w := by
 cases x <;> cases y <;> cases op <;> simp only [evB, reduceCtorEq] at h
 all_goals (rename_i k a k' b; refine ⟨?_, fun ox oy => eqGuard_num _ _ _ _ _ _ _ _⟩)
 all_goals (split at h <;> simp only [UC, reduceCtorEq] at h; subst h)
 case int.int.shl h1 =>
  have : ¬ b < 0 := by omega
  simp [binOp, Op.shift, this]
 case int.int.shr h1 =>
  have : ¬ b < 0 := by omega
  simp [binOp, Op.shift, this]
 case int.int.rem h1 => obtain ⟨rfl, h2⟩ := h1; simp [binOp, Op.intDiv, h2]
 all_goals (rename_i h1; subst h1; simp [binOp, Op.intArith, Op.intBits, Op.intCmp, bne])
def ev1 : List IntKind → MOp → (Nat → Value) → Option (Nat × Value × List IntKind)
 | ks, .mv d x, ρ => some (d, xof ρ x, ks)
 | ks, .b2 d op x y, ρ => (evB op (xof ρ x) (xof ρ y)).map fun v => (d, v, ks)
 | ks, .bi d op _ x y, ρ => (evB op (xof ρ x) (xof ρ y)).map fun v => (d, v, ks)
 | ks, .nt d s, ρ => match ρ s with | .bool b => some (d, .bool !b, ks) | _ => none
 | k :: ks, .cv d _ _ s, ρ => match ρ s with | .int _ n => some (d, .int k (k.wrap n), ks) | _ => none
 | ks, .mn d x y, ρ => match xof ρ x, xof ρ y with | .int k a, .int _ b => some (d, .int k (if b < a then b else a), ks) | _, _ => none
 | ks, .mxi d x y, ρ => match xof ρ x, xof ρ y with | .int k a, .int _ b => some (d, .int k (if b > a then b else a), ks) | _, _ => none
 | _, _, _ => none
def CvOk (P : Program) : List IntKind → List MOp → Prop
 | _, [] => True
 | k :: ks, .cv _ s t _ :: ms => (∃ k0, JC P s k0 = true) ∧ JC P t k = true ∧ CvOk P ks ms
 | ks, _ :: ms => CvOk P ks ms
def evs : List IntKind → List MOp → (Nat → Value) → Nat → Option (Nat → Value)
 | _, [], ρ, _ => some ρ
 | ks, m :: ms, ρ, N => match ev1 ks m ρ with
  | some (d, v, ks') => if d < N then evs ks' ms (upd ρ d v) N else none
  | none => none
def MX.slots : MX → List Nat
 | .t s => [s]
 | .c _ => []
def reads : MOp → List Nat
 | .mv _ x => x.slots
 | .b2 _ _ x y | .bi _ _ _ x y | .mn _ x y | .mxi _ x y => x.slots ++ y.slots
 | .nt _ s | .cv _ _ _ s => [s]
 | _ => []
section
variable {P : Program} {Q : Exit → Act → World → Prop} {a : Act} {w : World} {ms : List MOp}
theorem ML.b2 {d : Nat} {op : BinOp} {x y : MX} {v : Value} (h1 : evB op (x.of a) (y.of a) = some v) (h : ML P ms Q (wr a d v) w) : ML P (.b2 d op x y :: ms) Q a w := by
 refine ML.step (d := some d) (v := v) (w' := w) (fun o' ho => ?_) h
 have hf := JM ho
 generalize hop : o'.op = op' at hf
 unfold execOp
 cases op' <;> simp only [Jf, UA, UB, Nat.beq_eq] at hf
 obtain ⟨⟨⟨k1, k2⟩, k3⟩, k4⟩ := hf
 have k2' := sameOp_eq k2
 subst k2'
 rename_i ty _ _ _
 obtain ⟨r1, r2⟩ := evB_run (P := P) (w := w) ty h1
 exact ⟨Jl k1, .inl (by simp only [hop, MX.is_eval k3 a, MX.is_eval k4 a, Sem.run_bind, r2, r1, Result.andThen_ok, Sem.run_pure])⟩
theorem ML.mn {d : Nat} {x y : MX} {k k' : IntKind} {m n : Int} (hx : x.of a = .int k m) (hy : y.of a = .int k' n) (h : ML P ms Q (wr a d (.int k (if n < m then n else m))) w) : ML P (.mn d x y :: ms) Q a w := by
 refine ML.step (d := some d) (v := .int k (if n < m then n else m)) (w' := w) (fun o ho => ?_) h
 have hf := JM ho
 obtain ⟨dst, op, type, pos, after, guard⟩ := o
 dsimp only at hf ⊢
 cases op <;> try (simp only [Jf, UB] at hf; done)
 rename_i c
 obtain ⟨callee, args, ats⟩ := c
 cases callee <;> try (simp only [Jf, UB] at hf; done)
 rename_i b
 cases b <;> try (simp only [Jf, UB] at hf; done)
 simp only [Jf, UA] at hf
 obtain ⟨h1, h2⟩ := hf
 obtain ⟨args⟩ := args
 dsimp only at h2
 match args, h2 with
 | [x', y'], h2 =>
  simp only [UA] at h2
  refine ⟨Jl h1, .inl ?_⟩
  unfold execOp
  have e1 := MX.is_eval h2.1 a
  have e2 := MX.is_eval h2.2 a
  simp [resolve, invoke, Go.builtin, e1, e2, hx, hy, run_min_int2, run_max_int2]
theorem ML.mxi {d : Nat} {x y : MX} {k k' : IntKind} {m n : Int} (hx : x.of a = .int k m) (hy : y.of a = .int k' n) (h : ML P ms Q (wr a d (.int k (if n > m then n else m))) w) : ML P (.mxi d x y :: ms) Q a w := by
 refine ML.step (d := some d) (v := .int k (if n > m then n else m)) (w' := w) (fun o ho => ?_) h
 have hf := JM ho
 obtain ⟨dst, op, type, pos, after, guard⟩ := o
 dsimp only at hf ⊢
 cases op <;> try (simp only [Jf, UB] at hf; done)
 rename_i c
 obtain ⟨callee, args, ats⟩ := c
 cases callee <;> try (simp only [Jf, UB] at hf; done)
 rename_i b
 cases b <;> try (simp only [Jf, UB] at hf; done)
 simp only [Jf, UA] at hf
 obtain ⟨h1, h2⟩ := hf
 obtain ⟨args⟩ := args
 dsimp only at h2
 match args, h2 with
 | [x', y'], h2 =>
  simp only [UA] at h2
  refine ⟨Jl h1, .inl ?_⟩
  unfold execOp
  have e1 := MX.is_eval h2.1 a
  have e2 := MX.is_eval h2.2 a
  simp [resolve, invoke, Go.builtin, e1, e2, hx, hy, run_min_int2, run_max_int2]
theorem Loc.xof {N : Nat} {ρ : Nat → Value} (hl : Loc N N ρ a) {x : MX} (hx : ∀ s, x = .t s → s < N) : x.of a = xof ρ x := by
 cases x with
 | t s => exact hl.get s (hx s rfl)
 | c m => rfl
theorem Loc.put {N : Nat} {ρ : Nat → Value} (hl : Loc N N ρ a) {d : Nat} {v : Value} (hd : d < N) : Loc N N (upd ρ d v) (wr a d v) := hl.set v hd
theorem ML.evs {N : Nat} {rest : List MOp} : ∀ {ks : List IntKind} {ms : List MOp} {ρ ρ' : Nat → Value} {a : Act}, Loc N N ρ a → Kx.evs ks ms ρ N = some ρ' → CvOk P ks ms →
  (∀ m ∈ ms, ∀ s ∈ reads m, s < N) → (∀ a', Loc N N ρ' a' → ML P rest Q a' w) → ML P (ms ++ rest) Q a w
 | ks, [], ρ, ρ', a, hl, he, hc, hr, h => by
  simp only [Kx.evs, UC] at he
  subst he
  exact h a hl
 | ks, m :: ms, ρ, ρ', a, hl, he, hc, hr, h => by
  have hsz := hl.size
  have hr' : ∀ m ∈ ms, ∀ s ∈ reads m, s < N := fun m hm => hr m (List.mem_cons_of_mem _ hm)
  have hrm := hr m List.mem_cons_self
  simp only [Kx.evs] at he
  cases h1 : ev1 ks m ρ with
  | none => simp [h1] at he
  | some p =>
   obtain ⟨d, v, ks'⟩ := p
   simp only [h1] at he
   split at he
   ·rename_i hd
    have next : ∀ hc', ML P (ms ++ rest) Q (wr a d v) w := fun hc' => ML.evs (ks := ks') (hl.put hd) he hc' hr' h
    rw [List.cons_append]
    cases m <;> simp only [ev1, reduceCtorEq] at h1
    case mv d' x =>
     simp only [UC, Prod.mk.injEq] at h1
     obtain ⟨rfl, rfl, rfl⟩ := h1
     refine ML.mv ?_
     rw [hl.xof (x := x) (fun s hs => hrm s (by subst hs; simp [reads, MX.slots]))]
     exact next (by cases ks <;> exact hc)
    case b2 d' op x y =>
     simp only [Option.map_eq_some_iff, Prod.mk.injEq] at h1
     obtain ⟨v', h2, rfl, rfl, rfl⟩ := h1
     refine ML.b2 (v := v') ?_ (next (by cases ks <;> exact hc))
     rw [hl.xof (x := x) (fun s hs => hrm s (by subst hs; simp [reads, MX.slots])), hl.xof (x := y) (fun s hs => hrm s (by subst hs; simp [reads, MX.slots]))]
     exact h2
    case bi d' op ty x y =>
     simp only [Option.map_eq_some_iff, Prod.mk.injEq] at h1
     obtain ⟨v', h2, rfl, rfl, rfl⟩ := h1
     obtain ⟨r1, r2⟩ := evB_run (P := P) (w := w) ty h2
     have ex : x.of a = xof ρ x := hl.xof (fun s hs => hrm s (by subst hs; simp [reads, MX.slots]))
     have ey : y.of a = xof ρ y := hl.xof (fun s hs => hrm s (by subst hs; simp [reads, MX.slots]))
     exact ML.bi (v := v') (fun ox oy _ _ => by rw [ex, ey]; exact r2 ox oy) (by rw [ex, ey]; exact r1) (next (by cases ks <;> exact hc))
    case nt d' s =>
     cases hs : ρ s <;> simp only [hs, reduceCtorEq, UC, Prod.mk.injEq] at h1
     obtain ⟨rfl, rfl, rfl⟩ := h1
     exact ML.nt (by rw [hl.get s (hrm s (by simp [reads])), hs]) (next (by cases ks <;> exact hc))
    case cv d' s t y =>
     cases ks with
     | nil => simp [ev1] at h1
     | cons k ks =>
      simp only [ev1] at h1
      cases hs : ρ y <;> simp only [hs, reduceCtorEq, UC, Prod.mk.injEq] at h1
      obtain ⟨rfl, rfl, rfl⟩ := h1
      obtain ⟨⟨k0, c1⟩, c2, c3⟩ := hc
      refine ML.cv ?_ (next c3)
      rw [hl.get y (hrm y (by simp [reads])), hs]
      exact Qe c1 c2 _
    case mn d' x y =>
     cases hx : xof ρ x <;> cases hy : xof ρ y <;> simp only [hx, hy, reduceCtorEq, UC, Prod.mk.injEq] at h1
     obtain ⟨rfl, rfl, rfl⟩ := h1
     exact ML.mn ((hl.xof (x := x) (fun s hs => hrm s (by subst hs; simp [reads, MX.slots]))).trans hx) ((hl.xof (x := y) (fun s hs => hrm s (by subst hs; simp [reads, MX.slots]))).trans hy) (next (by cases ks <;> exact hc))
    case mxi d' x y =>
     cases hx : xof ρ x <;> cases hy : xof ρ y <;> simp only [hx, hy, reduceCtorEq, UC, Prod.mk.injEq] at h1
     obtain ⟨rfl, rfl, rfl⟩ := h1
     exact ML.mxi ((hl.xof (x := x) (fun s hs => hrm s (by subst hs; simp [reads, MX.slots]))).trans hx) ((hl.xof (x := y) (fun s hs => hrm s (by subst hs; simp [reads, MX.slots]))).trans hy) (next (by cases ks <;> exact hc))
   ·simp at he
end
set_option linter.unusedVariables false
def u8Ty (P : Program) (U : Nat) : Bool :=
 match P.info? U with
 | some i => Nat.beq i.size 1 && Nat.beq i.bytes 1 && (match i.zero with | some v => (MVal.int .u8 0).is v | none => false)
 | none => false
theorem QB {P : Program} {U : Nat} (h : u8Ty P U = true) : ∃ i, P.info? U = some i ∧ i.size = 1 ∧ i.bytes = 1 ∧ i.zero = some (.int .u8 0) := by
 unfold u8Ty at h
 cases hi : P.info? U with
 | none => simp [hi] at h
 | some i =>
  simp only [hi, UA, Nat.beq_eq] at h
  obtain ⟨⟨h1, h2⟩, h3⟩ := h
  cases hz : i.zero with
  | none => simp [hz] at h3
  | some v =>
   simp only [hz] at h3
   exact ⟨i, rfl, h1, h2, by rw [hz, MVal.is_eq h3]; rfl⟩
def strTy (P : Program) (T : Nat) : Bool :=
 match P.underlying T with
 | some .string => true
 | _ => false
theorem strTy_eq {P : Program} {T : Nat} (h : strTy P T = true) : P.underlying T = some .string := by
 unfold strTy at h
 cases hu : P.underlying T with
 | none => simp [hu] at h
 | some d => cases d <;> simp_all
theorem fill_ones : ∀ (vs : List Value) (pre : List Value) (post : List Value), (∀ v ∈ vs, v.cells = #[v]) → vs.length = post.length →
  Instr.fill (fun i => some (i * 1, 1)) (pre ++ post).toArray ((List.range' pre.length vs.length).zip vs) = some (pre ++ vs).toArray
 | [], pre, post, _, h => by
  have : post = [] := by cases post <;> simp_all
  simp [Instr.fill, this]
 | v :: vs, pre, post, hv, h => by
  cases post with
  | nil => simp at h
  | cons p post =>
   have hc := hv v List.mem_cons_self
   have ih := fill_ones vs (pre ++ [v]) post (fun u hu => hv u (List.mem_cons_of_mem _ hu)) (by simpa using h)
   simp only [List.length_cons, List.range'_succ, List.zip_cons_cons, Instr.fill, hc]
   simp only [UD, List.length_cons, List.length_nil, Nat.zero_add] at ih
   rw [if_neg (by simp)]
   have : ((#[v] : Array Value).zipIdx.foldl (fun cs (x : Value × Nat) => cs.setIfInBounds (pre.length * 1 + x.2) x.1) (pre ++ p :: post).toArray) = (pre ++ [v] ++ post).toArray := by
    simp
   rw [show (fun (cs : Array Value) (x : Value × Nat) => match x with | (c, j) => cs.setIfInBounds (pre.length * 1 + j) c) = (fun cs (x : Value × Nat) => cs.setIfInBounds (pre.length * 1 + x.2) x.1) from rfl, this]
   rw [ih]; simp
theorem fitParts_eval {a : Act} : ∀ {i : Nat} {xs : List MX} {ps : List (Nat × Operand)}, QT i xs ps = true → ps.map (fun (p : Nat × Operand) => (p.1, a.eval p.2)) = (List.range' i xs.length).zip (xs.map (MX.of a))
 | i, [], [], _ => rfl
 | i, [], _ :: _, h => by simp [QT] at h
 | i, _ :: _, [], h => by simp [QT] at h
 | i, x :: xs, (j, o) :: ps, h => by
  simp only [QT, UA, Nat.beq_eq] at h
  obtain ⟨⟨rfl, h2⟩, h3⟩ := h
  simp only [List.map_cons, List.length_cons, List.range'_succ, List.zip_cons_cons, MX.is_eval h2 a, fitParts_eval h3]
section
variable {P : Program} {Q : Exit → Act → World → Prop} {a : Act} {w : World} {ms : List MOp}
theorem ML.bsl {d T U : Nat} {xs : List MX} {bs : List UInt8} (hT : Jk P T U = true) (hU : u8Ty P U = true) (hx : xs.map (MX.of a) = bs.map JF) (hn : xs.length ≤ 16)
  (h : ML P ms Q (wr a d (.slice (some ⟨w.heap.size, 0, none⟩) bs.length bs.length)) (w.alloc (.cells (bs.map JF).toArray U))) : ML P (.bsl d T xs :: ms) Q a w := by
 have hlen : xs.length = bs.length := by have := congrArg List.length hx; simpa using this
 refine ML.step (d := some d) (v := .slice (some ⟨w.heap.size, 0, none⟩) bs.length bs.length) (w' := w.alloc (.cells (bs.map JF).toArray U)) (fun o ho => ?_) h
 have hf := JM ho
 generalize hop : o.op = op at hf
 unfold execOp
 cases op <;> simp only [Jf, UA, UB, Nat.beq_eq] at hf
 rename_i T' n ps
 obtain ⟨⟨⟨h1, h2⟩, h3⟩, h4⟩ := hf
 subst h2 h3
 obtain ⟨i, hi, hs, hb, hz⟩ := QB hU
 refine ⟨Jl h1, .inl ?_⟩
 have hps : (ps.map fun (p : Nat × Operand) => (p.1, a.eval p.2)).toList = (List.range' 0 xs.length).zip (xs.map (MX.of a)) := by
  rw [Array.toList_map]; exact fitParts_eval h4
 have hfill := fill_ones (bs.map JF) [] (List.replicate bs.length (.int .u8 0)) (by intro v hv; simp only [List.mem_map] at hv; obtain ⟨b, _, rfl⟩ := hv; rfl) (by simp)
 simp only [List.nil_append, List.length_nil, List.length_map, Nat.mul_one] at hfill
 simp only [hop, Sem.run_bind, Instr.buildSlice, run_underlying (Jq hT), Result.andThen_ok, sizeOf, typeInfo, run_program, hi, Sem.run_pure, hs]
 rw [if_neg (by omega)]
 have hps' : (ps.map fun (x : Nat × Operand) => match x with | (i, x) => (i, a.eval x)).toList = (List.range' 0 bs.length).zip (bs.map JF) := by
  rw [← hlen, ← hx]; exact hps
 have hzero : ∀ n : Nat, (Array.map (fun x => (Value.int IntKind.u8 0).cells[x % (Value.int IntKind.u8 0).cells.size]!) (Array.range n)) = (List.replicate n (Value.int IntKind.u8 0)).toArray := by
  intro n
  apply Array.toList_inj.1
  simp [Value.cells, Nat.mod_one]
  exact List.eq_replicate_iff.2 ⟨by simp, by simp⟩
 simp only [Nat.mul_one, hlen]
 by_cases h0 : bs.length = 0
 ·have hb0 : bs = [] := List.eq_nil_of_length_eq_zero h0
  subst hb0
  simp only [List.length_nil, if_true, Sem.run_pure, Result.andThen_ok, Sem.run_bind]
  have hps0 : (ps.map fun (x : Nat × Operand) => match x with | (i, x) => (i, a.eval x)).toList = [] := by simpa using hps'
  simp only [hps0, Instr.fill]
  simp only [newRow, Sem.run_bind, run_newObj, Result.andThen_ok, Sem.run_pure]
  rw [show (Array.map (fun x => (#[] : Array Value)[x % (#[] : Array Value).size]!) (Array.range 0)) = #[] from by simp]
  rfl
 ·rw [if_neg h0]
  simp only [zeroValue, typeInfo, Sem.run_bind, run_program, Result.andThen_ok, hi, Sem.run_pure, hz, hps', hzero, hfill, newRow, run_newObj]
  rfl
theorem ML.apOwn {d T U x y m c B : Nat} {ad : Option Addr} {bs l : List UInt8} {sv : Value} (hT : Jk P T U = true) (hU : u8Ty P U = true) (hx : rd a x = sv) (ho : OwnB U w B sv bs)
  (hy : rd a y = .slice ad m c) (hm : m = l.length) (hb : Jg w (fun _ => True) ad l) (hB : B ≤ w.heap.size) (hlim : bs.length + l.length ≤ lim)
  (h : ∀ sv' w', OwnB U w' B sv' (bs ++ l) → Below B w w' → w.grownBy w' sv.ownBlock → ML P ms Q (wr a d sv') w') : ML P (.ap d T T x y :: ms) Q a w := by
 obtain ⟨i, hi, hs, hby, hz⟩ := QB hU
 have hl1 : lim = 4294967295 := rfl
 have hbase : ∀ k, sv.ownBlock = some k → B ≤ k := fun k hk => (World.ownsRow.lt ho k hk).1
 cases ad with
 | some ad =>
  obtain ⟨v', w', h1, h2, h3, _⟩ := run_append_own (P := P) w B T 0 U i (.int .u8 0) 1 1 (Jq hT) hi hz hs hby rfl (by omega) sv bs.length (bs.map JF) ho ad m c (l.map JF) (by simp [hm])
   (fun j u hu => by
    simp only [List.getElem?_map, Option.map_eq_some_iff] at hu
    obtain ⟨b, hb1, rfl⟩ := hu
    obtain ⟨g, o, he, _, hc⟩ := hb j b hb1
    cases he
    rw [Addr.add_mid]; exact hc)
   (by intro u hu; simp only [List.mem_map] at hu; obtain ⟨b, _, rfl⟩ := hu; rfl) (by simp only [maxLen]; omega) (by omega) hB
  refine ML.ap (v := v') (w' := w') (fun ty => by rw [hx, hy]; exact h1) (h v' w' ?_ ((Below.refl _ _).grown h3 hB hbase) h3)
  unfold OwnB
  rw [UD, List.map_append, ← hm]
  exact h2
 | none =>
  have hl : l = [] := by
   cases l with
   | nil => rfl
   | cons b l =>
    obtain ⟨g, o, he, _⟩ := hb 0 b rfl
    simp at he
  subst hl
  simp only [List.length_nil] at hm
  subst hm
  have hrun : ∀ ty, (Builtin.append_ #[T, T] ty #[sv, .slice none 0 c]).run P w = .ok sv w := by
   intro ty
   rcases ho.2 with ⟨rfl, h0⟩ | ⟨g, cap, cur, rfl, _, _, hnc, _⟩
   ·simp [Builtin.append_, run_underlying (Jq hT), sizeOf, typeInfo, hi, Builtin.lenOf, Builtin.firstCells]
   ·simp [Builtin.append_, run_underlying (Jq hT), sizeOf, typeInfo, hi, Builtin.lenOf, Builtin.firstCells, hnc, storeCells]
  refine ML.ap (v := sv) (w' := w) (fun ty => by rw [hx, hy]; exact hrun ty) (h sv w ?_ (Below.refl _ _) ⟨rfl, rfl, rfl, Nat.le_refl _, fun _ _ _ => rfl⟩)
  rw [List.append_nil]; exact ho
theorem OwnB.nil (U : Nat) (w : World) (B : Nat) : OwnB U w B (.slice none 0 0) [] := World.ownsRow_nil w B U 1
theorem OwnB.alloc {U B : Nat} {sv : Value} {bs : List UInt8} (h : OwnB U w B sv bs) (o : Obj) : OwnB U (w.alloc o) B sv bs := World.ownsRow.alloc h o
theorem Jg.new {U : Nat} (l : List UInt8) : Jg (w.alloc (.cells (l.map JF).toArray U)) (fun _ => True) (some ⟨w.heap.size, 0, none⟩) l := by
 intro j b hj
 refine ⟨w.heap.size, 0, rfl, trivial, ?_⟩
 rw [Nat.zero_add, World.cell?_alloc_new]
 simp [hj]
end
theorem calls_leaf {P : Program} {f : Nat} {fn : Func} {c : Code} {m : Jc} {args : List Value} {N : Nat} {w : World} {R : Ending → World → Prop} (hf : P.funcs[f]? = some fn) (hb : fn.body = some c) (hfit : fits m c = true) (hN : fn.ntmps = N)
  (hle : args.length ≤ N) (h : ∀ a, Loc N N (args0 args) a → MW P m (bodyPost P fn R) a w) : Calls P f args.toArray w R := by
 refine calls_of_wp hf hb (h _ ?_ c hfit)
 refine ⟨by simp; omega, rfl, fun s hs => ?_⟩
 simp only [rd, args0]
 rw [Array.getD_eq_getD_getElem?, Array.getElem?_append]
 by_cases h1 : s < args.length
 ·simp [h1]
 ·have : args.toArray.size ≤ s := by simpa using Nat.le_of_not_lt h1
  rw [if_neg (by simpa using h1)]
  simp only [List.getD_eq_getElem?_getD]
  rw [List.getElem?_eq_none (Nat.le_of_not_lt h1), Array.getElem?_replicate]
  split <;> rfl
theorem MW.ret1 {P : Program} {fn : Func} {R : Ending → World → Prop} {a : Act} {w : World} {r N L : Nat} {ρ : Nat → Value} {v : Value} (hl : Loc N L ρ a) (hr : fn.results = #[.tmp r]) (hv : rd a r = v) (h : R (.returned v) w) : MW P .rt (bodyPost P fn R) a w := by
 refine MW.rt (bodyPost_ret (v := v) ?_ hl.defers h)
 rw [results_tmp hr, ← hv]; rfl
end Go.Kx
namespace Go.Kx
open Go.RowKit
set_option linter.unusedSimpArgs false
set_option linter.unusedVariables false
structure IT where
 u8 : Nat
 u8s : Nat
 i8 : Nat
 i16 : Nat
 u16 : Nat
 i32 : Nat
 u32 : Nat
 i64 : Nat
 u64 : Nat
 int : Nat
 str : Nat
 bool : Nat
structure TOK (P : Program) (T : IT) : Prop where
 u8 : u8Ty P T.u8 = true
 u8i : JC P T.u8 .u8 = true
 u8s : Jk P T.u8s T.u8 = true
 i8 : T.i8 ≠ 0 → JC P T.i8 .i8 = true
 i16 : T.i16 ≠ 0 → JC P T.i16 .i16 = true
 u16 : T.u16 ≠ 0 → JC P T.u16 .u16 = true
 i32 : T.i32 ≠ 0 → JC P T.i32 .i32 = true
 u32 : T.u32 ≠ 0 → JC P T.u32 .u32 = true
 i64 : T.i64 ≠ 0 → JC P T.i64 .i64 = true
 u64 : T.u64 ≠ 0 → JC P T.u64 .u64 = true
 int : JC P T.int .i64 = true
 str : T.str ≠ 0 → strTy P T.str = true
structure FnIs (P : Program) (f : Nat) (m : Jc) (N r : Nat) : Prop where
 ex : ∃ fn c, P.funcs[f]? = some fn ∧ fn.body = some c ∧ fits m c = true ∧ fn.ntmps = N ∧ fn.results = #[.tmp r]
 ent : Jo P f = true
theorem FnIs.calls {P : Program} {f N r : Nat} {m : Jc} (h : FnIs P f m N r) {args : List Value} {w : World} {R : Ending → World → Prop} (hle : args.length ≤ N)
  (hw : ∀ (a : Act) (fn : Func), fn.results = #[.tmp r] → Loc N N (args0 args) a → MW P m (bodyPost P fn R) a w) : Calls P f args.toArray w R := by
 obtain ⟨fn, c, h1, h2, h3, h4, h5⟩ := h.ex
 exact calls_leaf h1 h2 h3 h4 hle fun a hl => hw a fn h5 hl
section
variable {P : Program} {T : IT} {w : World}
theorem ML.octets {N B y d1 d2 r : Nat} {ks : List IntKind} {pre : List MOp} {xs : List MX} {ρ ρ' : Nat → Value} {a : Act} {bs l : List UInt8} {Q : Exit → Act → World → Prop} (tk : TOK P T)
  (hl : Loc N N ρ a) (he : Kx.evs ks pre ρ N = some ρ') (hc : CvOk P ks pre) (hr : ∀ m ∈ pre, ∀ s ∈ reads m, s < N) (hxs : xs.map (xof ρ') = l.map JF) (hxN : ∀ x ∈ xs, ∀ s, x = .t s → s < N) (hx16 : xs.length ≤ 16)
  (hy : y < N) (hd1 : d1 < N) (hd2 : d2 < N) (hrN : r < N) (hyd : y ≠ d1) (ho : OwnB T.u8 w B (ρ' y) bs) (hB : B ≤ w.heap.size) (hlim : bs.length + l.length ≤ lim)
  (h : ∀ a' w' sv' ρ'', Loc N N ρ'' a' → ρ'' r = sv' → OwnB T.u8 w' B sv' (bs ++ l) → Below B w w' → Gr w w' (ρ' y) → Q .normal a' w') :
  ML P (pre ++ [.bsl d1 T.u8s xs, .ap d2 T.u8s T.u8s y d1, .mv r (.t d2)]) Q a w := by
 refine ML.evs hl he hc hr fun a1 hl1 => ?_
 have hsz := hl1.size
 have hxs' : xs.map (MX.of a1) = l.map JF := by
  rw [← hxs]
  exact List.map_congr_left fun x hx => hl1.xof (hxN x hx)
 refine ML.bsl tk.u8s tk.u8 hxs' hx16 ?_
 have hl2 := hl1.put (v := .slice (some ⟨w.heap.size, 0, none⟩) l.length l.length) hd1
 refine ML.apOwn tk.u8s tk.u8 (bs := bs) (l := l) (B := B) (sv := ρ' y) (by rw [hl2.get y hy, Jb _ _ hyd]) (ho.alloc _) (hl2.get d1 hd1 |>.trans (Ja _ _ _)) rfl (Jg.new l) (by simp; omega) hlim ?_
 intro sv' w' h1 h2 h3g
 have hl3 := hl2.put (v := sv') hd2
 refine ML.mv (ML.nil ?_)
 have : (MX.t d2).of (wr (wr a1 d1 (.slice (some ⟨w.heap.size, 0, none⟩) l.length l.length)) d2 sv') = sv' := Je (by simp only [Jj]; omega)
 rw [this]
 refine h _ w' sv' _ (hl3.put hrN) (Ja _ _ _) h1 (((Below.refl B w).alloc hB _).trans h2) fun k hk hne => ?_
 have hb := Jn w (.cells (l.map JF).toArray T.u8)
 rw [h3g.block k (Nat.lt_of_lt_of_le hk hb.size) hne, hb.block k hk]
def octetsCode (T : IT) (pre : List MOp) (xs : List MX) (d1 d2 : Nat) : Jc :=
 rows [.rg [.mv 4 (.c .nslice)], .rg (pre ++ [.bsl d1 T.u8s xs, .ap d2 T.u8s T.u8s 5 d1, .mv 4 (.t d2)]), .rt]
theorem octets_calls {f N d1 d2 B : Nat} {ks : List IntKind} {pre : List MOp} {xs : List MX} {x sv : Value} {ρ' : Nat → Value} {bs l : List UInt8} (tk : TOK P T) (hf : FnIs P f (octetsCode T pre xs d1 d2) N 4)
  (he : Kx.evs ks pre (upd (args0 [sv, x]) 4 (.slice none 0 0)) N = some ρ') (hc : CvOk P ks pre) (hr : ∀ m ∈ pre, ∀ s ∈ reads m, s < N) (hxs : xs.map (xof ρ') = l.map JF) (hxN : ∀ x ∈ xs, ∀ s, x = .t s → s < N) (hx16 : xs.length ≤ 16)
  (h5 : ρ' 5 = sv) (hN : 5 < N) (hd1 : d1 < N) (hd2 : d2 < N) (h5d : 5 ≠ d1) (ho : OwnB T.u8 w B sv bs) (hB : B ≤ w.heap.size) (hlim : bs.length + l.length ≤ lim) :
  Calls P f #[sv, x] w (fun e w' => ∃ sv', e = .returned sv' ∧ OwnB T.u8 w' B sv' (bs ++ l) ∧ Below B w w' ∧ Gr w w' sv) := by
 refine hf.calls (args := [sv, x]) (by simp; omega) fun a fn hres hl => ?_
 refine MW.sq (MW.rg (ML.mv (ML.nil ?_)))
 have hl1 := hl.put (v := .slice none 0 0) (show 4 < N by omega)
 refine MW.sq (MW.rg (ML.octets tk hl1 he hc hr hxs hxN hx16 hN hd1 hd2 (by omega) h5d (by rw [h5]; exact ho) hB hlim ?_))
 intro a' w' sv' ρ'' g1 g2 g3 g4 g5
 exact MW.ret1 g1 hres ((g1.get 4 (by omega)).trans g2) ⟨sv', rfl, g3, g4, by rw [← h5]; exact g5⟩
/-! The octets of numbers. -/
theorem Yc {n : Int} {k : Nat} (h0 : 0 ≤ n) (h : n.toNat % 256 = k % 256) : Value.int .u8 (IntKind.u8.wrap n) = JF (UInt8.ofNat k) := by
 unfold JF
 rw [IntKind.wrap_u8]
 have : (UInt8.ofNat k).toNat = k % 256 := by simp
 rw [this]
 congr 1
 omega
theorem be_one (n : Nat) : be n 1 = [UInt8.ofNat (n % 256)] := rfl
theorem be_two (n : Nat) : be n 2 = [UInt8.ofNat (n / 256 % 256), UInt8.ofNat (n % 256)] := rfl
theorem be_four (n : Nat) : be n 4 = [UInt8.ofNat (n / 256 / 256 / 256 % 256), UInt8.ofNat (n / 256 / 256 % 256), UInt8.ofNat (n / 256 % 256), UInt8.ofNat (n % 256)] := rfl
theorem be_eight (n : Nat) : be n 8 = [UInt8.ofNat (n / 256 / 256 / 256 / 256 / 256 / 256 / 256 % 256), UInt8.ofNat (n / 256 / 256 / 256 / 256 / 256 / 256 % 256), UInt8.ofNat (n / 256 / 256 / 256 / 256 / 256 % 256), UInt8.ofNat (n / 256 / 256 / 256 / 256 % 256), UInt8.ofNat (n / 256 / 256 / 256 % 256), UInt8.ofNat (n / 256 / 256 % 256), UInt8.ofNat (n / 256 % 256), UInt8.ofNat (n % 256)] := rfl
def code16 (T : IT) : Jc := octetsCode T [.mv 5 (.t 0), .mv 6 (.t 1), .b2 7 .shr (.t 6) (.c (.int .u64 8)), .cv 8 T.u16 T.u8 7, .mv 9 (.t 1), .cv 10 T.u16 T.u8 9] [.t 8, .t 10] 11 12
theorem appU16 {f : Nat} (tk : TOK P T) (h16 : T.u16 ≠ 0) (hf : FnIs P f (code16 T) 13 4) : ApG P T.u8 f (fun _ _ x out => ∃ n : Nat, n < 65536 ∧ x = .int .u16 n ∧ out = be n 2) := by
 refine ⟨hf.ent, ?_⟩
 rintro w B sv x bs out hB ho ⟨n, hn, rfl, rfl⟩ hlim
 refine octets_calls (ks := [.u8, .u8]) (l := be n 2) tk hf rfl ⟨⟨_, tk.u16 h16⟩, tk.u8i, ⟨_, tk.u16 h16⟩, tk.u8i, trivial⟩ (by simp [reads, MX.slots]) ?_ (by simp) (by simp) rfl (by omega) (by omega) (by omega) (by omega) ho hB hlim
 simp only [List.map_cons, List.map_nil, be_two]
 show [Value.int .u8 (IntKind.u8.wrap (Int.fdiv n 256)), Value.int .u8 (IntKind.u8.wrap n)] = _
 rw [Yc (k := n / 256 % 256) (by rw [Int.fdiv_eq_ediv_of_nonneg _ (by omega)]; omega) (by rw [Int.fdiv_eq_ediv_of_nonneg _ (by omega)]; omega), Yc (k := n % 256) (by omega) (by omega)]
def code32 (T : IT) : Jc := octetsCode T [.mv 5 (.t 0), .mv 6 (.t 1), .b2 7 .shr (.t 6) (.c (.int .u64 24)), .cv 8 T.u32 T.u8 7, .mv 9 (.t 1), .b2 10 .shr (.t 9) (.c (.int .u64 16)), .cv 11 T.u32 T.u8 10, .mv 12 (.t 1), .b2 13 .shr (.t 12) (.c (.int .u64 8)), .cv 14 T.u32 T.u8 13, .mv 15 (.t 1), .cv 16 T.u32 T.u8 15] [.t 8, .t 11, .t 14, .t 16] 17 18
theorem appU32 {f : Nat} (tk : TOK P T) (h32 : T.u32 ≠ 0) (hf : FnIs P f (code32 T) 19 4) : ApG P T.u8 f (fun _ _ x out => ∃ n : Nat, n < 4294967296 ∧ x = .int .u32 n ∧ out = be n 4) := by
 refine ⟨hf.ent, ?_⟩
 rintro w B sv x bs out hB ho ⟨n, hn, rfl, rfl⟩ hlim
 have q := tk.u32 h32
 refine octets_calls (ks := [.u8, .u8, .u8, .u8]) (l := be n 4) tk hf rfl ⟨⟨_, q⟩, tk.u8i, ⟨_, q⟩, tk.u8i, ⟨_, q⟩, tk.u8i, ⟨_, q⟩, tk.u8i, trivial⟩ (by simp [reads, MX.slots]) ?_ (by simp) (by simp) rfl (by omega) (by omega) (by omega) (by omega) ho hB hlim
 simp only [List.map_cons, List.map_nil, be_four]
 show [Value.int .u8 (IntKind.u8.wrap (Int.fdiv n 16777216)), Value.int .u8 (IntKind.u8.wrap (Int.fdiv n 65536)), Value.int .u8 (IntKind.u8.wrap (Int.fdiv n 256)), Value.int .u8 (IntKind.u8.wrap n)] = _
 rw [Yc (k := n / 256 / 256 / 256 % 256) (by rw [Int.fdiv_eq_ediv_of_nonneg _ (by omega)]; omega) (by rw [Int.fdiv_eq_ediv_of_nonneg _ (by omega)]; omega),
  Yc (k := n / 256 / 256 % 256) (by rw [Int.fdiv_eq_ediv_of_nonneg _ (by omega)]; omega) (by rw [Int.fdiv_eq_ediv_of_nonneg _ (by omega)]; omega),
  Yc (k := n / 256 % 256) (by rw [Int.fdiv_eq_ediv_of_nonneg _ (by omega)]; omega) (by rw [Int.fdiv_eq_ediv_of_nonneg _ (by omega)]; omega), Yc (k := n % 256) (by omega) (by omega)]
def code64 (T : IT) : Jc := octetsCode T [.mv 5 (.t 0), .mv 6 (.t 1), .b2 7 .shr (.t 6) (.c (.int .u64 56)), .cv 8 T.u64 T.u8 7, .mv 9 (.t 1), .b2 10 .shr (.t 9) (.c (.int .u64 48)), .cv 11 T.u64 T.u8 10,
 .mv 12 (.t 1), .b2 13 .shr (.t 12) (.c (.int .u64 40)), .cv 14 T.u64 T.u8 13, .mv 15 (.t 1), .b2 16 .shr (.t 15) (.c (.int .u64 32)), .cv 17 T.u64 T.u8 16, .mv 18 (.t 1), .b2 19 .shr (.t 18) (.c (.int .u64 24)), .cv 20 T.u64 T.u8 19,
 .mv 21 (.t 1), .b2 22 .shr (.t 21) (.c (.int .u64 16)), .cv 23 T.u64 T.u8 22, .mv 24 (.t 1), .b2 25 .shr (.t 24) (.c (.int .u64 8)), .cv 26 T.u64 T.u8 25, .mv 27 (.t 1), .cv 28 T.u64 T.u8 27] [.t 8, .t 11, .t 14, .t 17, .t 20, .t 23, .t 26, .t 28] 29 30
theorem appU64 {f : Nat} (tk : TOK P T) (h64 : T.u64 ≠ 0) (hf : FnIs P f (code64 T) 31 4) : ApG P T.u8 f (fun _ _ x out => ∃ n : Nat, n < 18446744073709551616 ∧ x = .int .u64 n ∧ out = be n 8) := by
 refine ⟨hf.ent, ?_⟩
 rintro w B sv x bs out hB ho ⟨n, hn, rfl, rfl⟩ hlim
 have q := tk.u64 h64
 refine octets_calls (ks := [.u8, .u8, .u8, .u8, .u8, .u8, .u8, .u8]) (l := be n 8) tk hf rfl ⟨⟨_, q⟩, tk.u8i, ⟨_, q⟩, tk.u8i, ⟨_, q⟩, tk.u8i, ⟨_, q⟩, tk.u8i, ⟨_, q⟩, tk.u8i, ⟨_, q⟩, tk.u8i, ⟨_, q⟩, tk.u8i, ⟨_, q⟩, tk.u8i, trivial⟩ (by simp [reads, MX.slots]) ?_ (by simp) (by simp) rfl (by omega) (by omega) (by omega) (by omega) ho hB hlim
 simp only [List.map_cons, List.map_nil, be_eight]
 show [Value.int .u8 (IntKind.u8.wrap (Int.fdiv n 72057594037927936)), Value.int .u8 (IntKind.u8.wrap (Int.fdiv n 281474976710656)), Value.int .u8 (IntKind.u8.wrap (Int.fdiv n 1099511627776)), Value.int .u8 (IntKind.u8.wrap (Int.fdiv n 4294967296)),
  Value.int .u8 (IntKind.u8.wrap (Int.fdiv n 16777216)), Value.int .u8 (IntKind.u8.wrap (Int.fdiv n 65536)), Value.int .u8 (IntKind.u8.wrap (Int.fdiv n 256)), Value.int .u8 (IntKind.u8.wrap n)] = _
 have go : ∀ (m : Int) (k : Nat), 0 < m → (Int.toNat ((n : Int) / m)) % 256 = k % 256 → Value.int .u8 (IntKind.u8.wrap (Int.fdiv n m)) = JF (UInt8.ofNat k) := by
  intro m k hm hk
  rw [Int.fdiv_eq_ediv_of_nonneg _ (by omega)]
  exact Yc (Int.ediv_nonneg (by omega) (by omega)) hk
 rw [go 72057594037927936 (n / 256 / 256 / 256 / 256 / 256 / 256 / 256 % 256) (by omega) (by omega), go 281474976710656 (n / 256 / 256 / 256 / 256 / 256 / 256 % 256) (by omega) (by omega),
  go 1099511627776 (n / 256 / 256 / 256 / 256 / 256 % 256) (by omega) (by omega), go 4294967296 (n / 256 / 256 / 256 / 256 % 256) (by omega) (by omega), go 16777216 (n / 256 / 256 / 256 % 256) (by omega) (by omega),
  go 65536 (n / 256 / 256 % 256) (by omega) (by omega), go 256 (n / 256 % 256) (by omega) (by omega), Yc (k := n % 256) (by omega) (by omega)]
end
set_option linter.unusedVariables false
def uvTab : List Nat := [1, 1, 1, 1, 1, 1, 1, 1, 2, 2, 2, 2, 2, 2, 2, 3, 3, 3, 3, 3, 3, 3, 4, 4, 4, 4, 4, 4, 4, 5, 5, 5, 5, 5, 5, 5, 6, 6, 6, 6, 6, 6, 6, 7, 7, 7, 7, 7, 7, 7, 8, 8, 8, 8, 8, 8, 8, 9, 9, 9, 9, 9, 9, 9, 10, 0, 0, 0, 0, 0, 0, 0, 0, 0, 0, 0, 0, 0, 0, 0, 0, 0, 0, 0, 0, 0, 0, 0, 0, 0, 0, 0, 0, 0, 0, 0, 0, 0, 0, 0, 0, 0, 0, 0, 0, 0, 0, 0, 0, 0, 0, 0, 0, 0, 0, 0, 0, 0, 0, 0, 0, 0, 0, 0, 0, 0, 0, 0, 0, 0, 0, 0, 0, 0, 0, 0, 0, 0, 0, 0, 0, 0, 0, 0, 0, 0, 0, 0, 0, 0, 0, 0, 0, 0, 0, 0, 0, 0, 0, 0, 0, 0, 0, 0, 0, 0, 0, 0, 0, 0, 0, 0, 0, 0, 0, 0, 0, 0, 0, 0, 0, 0, 0, 0, 0, 0, 0, 0, 0, 0, 0, 0, 0, 0, 0, 0, 0, 0, 0, 0, 0, 0, 0, 0, 0, 0, 0, 0, 0, 0, 0, 0, 0, 0, 0, 0, 0, 0, 0, 0, 0, 0, 0, 0, 0, 0, 0, 0, 0, 0, 0, 0, 0, 0, 0, 0, 0, 0, 0, 0, 0, 0, 0, 0, 0, 0, 0, 0, 0, 0, 0, 0, 0, 0, 0, 0]
def len8 : List Nat := [0, 1, 2, 2, 3, 3, 3, 3, 4, 4, 4, 4, 4, 4, 4, 4, 5, 5, 5, 5, 5, 5, 5, 5, 5, 5, 5, 5, 5, 5, 5, 5, 6, 6, 6, 6, 6, 6, 6, 6, 6, 6, 6, 6, 6, 6, 6, 6, 6, 6, 6, 6, 6, 6, 6, 6, 6, 6, 6, 6, 6, 6, 6, 6, 7, 7, 7, 7, 7, 7, 7, 7, 7, 7, 7, 7, 7, 7, 7, 7, 7, 7, 7, 7, 7, 7, 7, 7, 7, 7, 7, 7, 7, 7, 7, 7, 7, 7, 7, 7, 7, 7, 7, 7, 7, 7, 7, 7, 7, 7, 7, 7, 7, 7, 7, 7, 7, 7, 7, 7, 7, 7, 7, 7, 7, 7, 7, 7, 8, 8, 8, 8, 8, 8, 8, 8, 8, 8, 8, 8, 8, 8, 8, 8, 8, 8, 8, 8, 8, 8, 8, 8, 8, 8, 8, 8, 8, 8, 8, 8, 8, 8, 8, 8, 8, 8, 8, 8, 8, 8, 8, 8, 8, 8, 8, 8, 8, 8, 8, 8, 8, 8, 8, 8, 8, 8, 8, 8, 8, 8, 8, 8, 8, 8, 8, 8, 8, 8, 8, 8, 8, 8, 8, 8, 8, 8, 8, 8, 8, 8, 8, 8, 8, 8, 8, 8, 8, 8, 8, 8, 8, 8, 8, 8, 8, 8, 8, 8, 8, 8, 8, 8, 8, 8, 8, 8, 8, 8, 8, 8, 8, 8, 8, 8, 8, 8, 8, 8, 8, 8, 8, 8, 8, 8, 8, 8]
section
variable {P : Program} {Q : Exit → Act → World → Prop} {a : Act} {w : World} {ms : List MOp} {T : IT}
theorem ML.ix {d V x i b : Nat} {k : IntKind} {s : List Nat} (hV : strTy P V = true) (hx : rd a x = .int k (i : Nat)) (hi : s[i]? = some b) (h : ML P ms Q (wr a d (.int .u8 (b : Nat))) w) : ML P (.ix d V s x :: ms) Q a w := by
 refine ML.step (d := some d) (v := .int .u8 (b : Nat)) (w' := w) (fun o ho => ?_) h
 have hf := JM ho
 generalize hop : o.op = op at hf
 unfold execOp
 cases op <;> simp only [Jf, UA, UB, Nat.beq_eq] at hf
 rename_i V' y x'
 obtain ⟨⟨⟨h1, h2⟩, h3⟩, h4⟩ := hf
 subst h2
 cases y <;> try (simp at h4; done)
 rename_i v
 cases v <;> try (simp at h4; done)
 rename_i B
 have hm := fitStr_eq h4
 have hb : ∃ u : UInt8, B.data.toList[i]? = some u ∧ u.toNat = b := by
  rw [← hm, List.getElem?_map, Option.map_eq_some_iff] at hi
  exact hi
 obtain ⟨u, hu, rfl⟩ := hb
 have hlt : i < B.data.toList.length := (List.getElem?_eq_some_iff.1 hu).1
 have hget : B[i]? = some u := by
  have h5 : i < B.size := by have h6 := hlt; rw [Array.length_toList] at h6; exact h6
  rw [getElem?_pos B i h5]
  have h7 := (List.getElem?_eq_some_iff.1 hu).2
  rw [Array.getElem_toList] at h7
  exact congrArg some h7
 have he : a.eval (.tmp x) = .int k (i : Nat) := hx
 have hec : a.eval (.const (.string B)) = .string B := rfl
 refine ⟨Jl h1, .inl ?_⟩
 simp only [hop, J0 h3, he, hec, Sem.run_bind, Instr.index, asIntOf, Sem.run_pure, Result.andThen_ok, run_underlying (strTy_eq hV)]
 rw [if_pos (by omega), Int.toNat_natCast, hget]
 rfl
def NumC (P : Program) (f : Nat) (k k' : IntKind) (dom : Nat → Prop) (g : Nat → Nat) : Prop :=
 Jo P f = true ∧ ∀ (w : World) (n : Nat), dom n → Calls P f #[.int k (n : Nat)] w (fun e w' => e = .returned (.int k' (g n : Nat)) ∧ w' = w)
def Yd (n : Nat) : Nat := if n < 256 then len8.getD n 0 else if n < 65536 then 8 + len8.getD (n / 256) 0 else if n < 16777216 then 16 + len8.getD (n / 65536) 0 else 24 + len8.getD (n / 16777216) 0
def codeLen32 (T : IT) : Jc := rows [.rg [.mv 2 (.c (.int .i64 0))],
 .sq (.rg [.mv 3 (.t 0), .b2 4 .geq (.t 3) (.c (.int .u32 65536))]) (.cd 4 (.sq (.rg [.mv 5 (.t 0), .b2 6 .shr (.t 5) (.c (.int .u64 16)), .mv 0 (.t 6)]) (.rg [.mv 2 (.c (.int .i64 16))])) .sk),
 .sq (.rg [.mv 7 (.t 0), .b2 8 .geq (.t 7) (.c (.int .u32 256))]) (.cd 8 (.sq (.rg [.mv 9 (.t 0), .b2 10 .shr (.t 9) (.c (.int .u64 8)), .mv 0 (.t 10)]) (.rg [.mv 11 (.t 2), .b2 12 .add (.t 11) (.c (.int .i64 8)), .mv 2 (.t 12)])) .sk),
 .rg [.mv 13 (.t 2), .mv 14 (.t 0), .cv 15 T.u32 T.u8 14, .ix 16 T.str len8 15, .cv 17 T.u8 T.int 16, .b2 18 .add (.t 13) (.t 17), .mv 2 (.t 18)], .rt]
theorem len8_le : ∀ x : Fin 256, len8.getD x.val 0 ≤ 8 ∧ len8[x.val]? = some (len8.getD x.val 0) := by decide +kernel
theorem lenTail {a : Act} {ρ : Nat → Value} {x m : Nat} {fn : Func} {R : Ending → World → Prop} (tk : TOK P T) (h32 : T.u32 ≠ 0) (hstr : T.str ≠ 0) (hres : fn.results = #[.tmp 2]) (hl : Loc 19 19 ρ a) (h0 : ρ 0 = .int .u32 (x : Nat)) (h2 : ρ 2 = .int .i64 (m : Nat)) (hx : x < 256) (hm : m ≤ 24)
  (h : R (.returned (.int .i64 ((m + len8.getD x 0 : Nat) : Int))) w) : MW P (rows [.rg [.mv 13 (.t 2), .mv 14 (.t 0), .cv 15 T.u32 T.u8 14, .ix 16 T.str len8 15, .cv 17 T.u8 T.int 16, .b2 18 .add (.t 13) (.t 17), .mv 2 (.t 18)], .rt]) (bodyPost P fn R) a w := by
 have hsz := hl.size
 obtain ⟨hle, hget⟩ := len8_le ⟨x, hx⟩
 dsimp only at hle hget
 have r0 : rd a 0 = .int .u32 (x : Nat) := by rw [hl.get 0 (by omega), h0]
 have r2 : rd a 2 = .int .i64 (m : Nat) := by rw [hl.get 2 (by omega), h2]
 refine MW.sq (MW.rg (ML.mv (ML.mv (ML.cv (v := .int .u8 (x : Nat)) ?_ (ML.ix (k := .u8) (i := x) (b := len8.getD x 0) (tk.str hstr) ?_ hget (ML.cv (v := .int .i64 ((len8.getD x 0 : Nat) : Int)) ?_ (ML.b2 (v := .int .i64 ((m + len8.getD x 0 : Nat) : Int)) ?_ (ML.mv (ML.nil ?_)))))))))
 ·simp (disch := (first | omega | (simp only [Jj]; omega))) only [Je, JH, MX.of]
  rw [r0, Qe (tk.u32 h32) tk.u8i, IntKind.wrap_u8]
  congr 2; omega
 ·simp (disch := (first | omega | (simp only [Jj]; omega))) only [Je, JH, MX.of]
 ·simp (disch := (first | omega | (simp only [Jj]; omega))) only [Je, JH, MX.of]
  rw [Qe tk.u8i tk.int, Ju (by omega) (by omega)]
 ·simp (disch := (first | omega | (simp only [Jj]; omega))) only [Je, JH, MX.of]
  rw [r2]
  simp only [evB, if_true]
  rw [Ju (by omega) (by omega)]; rfl
 ·simp (disch := (first | omega | (simp only [Jj]; omega))) only [Je, JH, MX.of]
  refine MW.ret1 (N := 19) (L := 0) (ρ := fun _ => undef) ⟨by simpa using hsz, by simpa using hl.defers, fun s hs => by omega⟩ hres (Je (by simp only [Jj]; omega)) h
theorem len32_num {f : Nat} (tk : TOK P T) (h32 : T.u32 ≠ 0) (hstr : T.str ≠ 0) (hf : FnIs P f (codeLen32 T) 19 2) : NumC P f .u32 .i64 (· < 4294967296) Yd := by
 refine ⟨hf.ent, fun w n hn => ?_⟩
 refine hf.calls (args := [.int .u32 (n : Nat)]) (by simp) fun a fn hres hl => ?_
 have hsz := hl.size
 refine MW.sq (MW.rg (ML.mv (ML.nil ?_)))
 have hl1 := hl.put (v := .int .i64 0) (show 2 < 19 by omega)
 generalize hA : wr a 2 (Value.int IntKind.i64 0) = a1 at hl1
 have hA' : wr a 2 ((MX.c (MVal.int IntKind.i64 0)).of a) = a1 := hA
 rw [hA']
 have hsz1 := hl1.size
 have q0 : rd a1 0 = .int .u32 (n : Nat) := by rw [hl1.get 0 (by omega)]; rfl
 have q2 : rd a1 2 = .int .i64 0 := by rw [hl1.get 2 (by omega)]; rfl
 have half : ∀ (a2 : Act) (ρ : Nat → Value) (x m : Nat), Loc 19 19 ρ a2 → ρ 0 = .int .u32 (x : Nat) → ρ 2 = .int .i64 (m : Nat) → x < 65536 → m ≤ 16 → Yd n = (if x < 256 then m + len8.getD x 0 else m + 8 + len8.getD (x / 256) 0) →
   MW P (rows [.sq (.rg [.mv 7 (.t 0), .b2 8 .geq (.t 7) (.c (.int .u32 256))]) (.cd 8 (.sq (.rg [.mv 9 (.t 0), .b2 10 .shr (.t 9) (.c (.int .u64 8)), .mv 0 (.t 10)]) (.rg [.mv 11 (.t 2), .b2 12 .add (.t 11) (.c (.int .i64 8)), .mv 2 (.t 12)])) .sk),
    .rg [.mv 13 (.t 2), .mv 14 (.t 0), .cv 15 T.u32 T.u8 14, .ix 16 T.str len8 15, .cv 17 T.u8 T.int 16, .b2 18 .add (.t 13) (.t 17), .mv 2 (.t 18)], .rt]) (bodyPost P fn fun e w' => e = .returned (.int .i64 (Yd n : Nat)) ∧ w' = w) a2 w := by
  intro a2 ρ x m hl2 h0 h2 hx hm hb
  have hsz2 := hl2.size
  have p0 : rd a2 0 = .int .u32 (x : Nat) := by rw [hl2.get 0 (by omega), h0]
  refine MW.sq (MW.sq (MW.rg (ML.mv (ML.b2 (v := .bool (decide ((256 : Int) ≤ x))) ?_ (ML.nil ?_)))))
  ·simp (disch := (first | omega | (simp only [Jj]; omega))) only [Je, JH, MX.of]
   rw [p0]; rfl
  have hl3 := (hl2.put (v := (MX.t 0).of a2) (show 7 < 19 by omega)).put (v := .bool (decide ((256 : Int) ≤ x))) (show 8 < 19 by omega)
  have hb8 : rd (wr (wr a2 7 ((MX.t 0).of a2)) 8 (.bool (decide ((256 : Int) ≤ x)))) 8 = .bool (decide ((256 : Int) ≤ x)) := Je (by simp only [Jj]; omega)
  revert hl3 hb8
  generalize wr (wr a2 7 ((MX.t 0).of a2)) 8 (.bool (decide ((256 : Int) ≤ x))) = a3
  intro hl3 hb8
  refine MW.cd (b := decide ((256 : Int) ≤ x)) hb8 (fun e => ?_) (fun e => ?_)
  ·have hge : 256 ≤ x := by have := of_decide_eq_true e; omega
   have hsz3 := hl3.size
   have p0' := (hl3.get 0 (by omega)).trans ((Jb _ _ (by omega)).trans ((Jb _ _ (by omega)).trans h0))
   refine MW.sq (MW.rg (ML.mv (ML.b2 (v := .int .u32 ((x / 256 : Nat) : Int)) ?_ (ML.mv (ML.nil ?_)))))
   ·simp (disch := (first | omega | (simp only [Jj]; omega))) only [Je, MX.of]
    rw [p0']
    show some (Value.int .u32 (Int.fdiv x 256)) = _
    rw [Int.fdiv_eq_ediv_of_nonneg _ (by omega)]; rfl
   have hl4 := ((hl3.put (v := (MX.t 0).of a3) (show 9 < 19 by omega)).put (v := .int .u32 ((x / 256 : Nat) : Int)) (show 10 < 19 by omega)).put (v := .int .u32 ((x / 256 : Nat) : Int)) (show 0 < 19 by omega)
   simp (disch := (first | omega | (simp only [Jj]; omega))) only [Je, JH, MX.of] at hl4 ⊢
   revert hl4
   generalize wr (wr (wr a3 9 (rd a3 0)) 10 (.int .u32 ((x / 256 : Nat) : Int))) 0 (.int .u32 ((x / 256 : Nat) : Int)) = a4
   intro hl4
   have hsz4 := hl4.size
   have p2' := hl4.get 2 (by omega)
   rw [Jb _ _ (by omega), Jb _ _ (by omega), Jb _ _ (by omega), Jb _ _ (by omega), Jb _ _ (by omega), h2] at p2'
   refine MW.rg (ML.mv (ML.b2 (v := .int .i64 ((m + 8 : Nat) : Int)) ?_ (ML.mv (ML.nil ?_))))
   ·simp (disch := (first | omega | (simp only [Jj]; omega))) only [Je, MX.of]
    rw [p2']
    show some (Value.int .i64 (IntKind.i64.wrap (m + 8))) = _
    rw [Ju (by omega) (by omega)]; rfl
   have hl5 := ((hl4.put (v := (.int .i64 (m : Nat) : Value)) (show 11 < 19 by omega)).put (v := .int .i64 ((m + 8 : Nat) : Int)) (show 12 < 19 by omega)).put (v := .int .i64 ((m + 8 : Nat) : Int)) (show 2 < 19 by omega)
   simp (disch := (first | omega | (simp only [Jj]; omega))) only [Je, MX.of]
   rw [p2']
   show MW P (rows [_, _]) _ _ w
   refine lenTail tk h32 hstr hres hl5 (x := x / 256) (m := m + 8) ?_ (Ja _ _ _) (by omega) (by omega) ⟨?_, rfl⟩
   ·rw [Jb _ _ (by omega), Jb _ _ (by omega), Jb _ _ (by omega), Ja]
   ·rw [hb, if_neg (by omega)]
  ·have hlt : x < 256 := by have := of_decide_eq_false e; omega
   refine MW.sk ?_
   show MW P (rows [_, _]) _ _ w
   refine lenTail tk h32 hstr hres hl3 (x := x) (m := m) ?_ ?_ hlt (by omega) ⟨?_, rfl⟩
   ·rw [Jb _ _ (by omega), Jb _ _ (by omega), h0]
   ·rw [Jb _ _ (by omega), Jb _ _ (by omega), h2]
   ·rw [hb, if_pos hlt]
 refine MW.sq (MW.sq (MW.rg (ML.mv (ML.b2 (v := .bool (decide ((65536 : Int) ≤ n))) ?_ (ML.nil ?_)))))
 ·simp (disch := (first | omega | (simp only [Jj]; omega))) only [Je, JH, MX.of]
  rw [q0]; rfl
 have hl3 := (hl1.put (v := (MX.t 0).of a1) (show 3 < 19 by omega)).put (v := .bool (decide ((65536 : Int) ≤ n))) (show 4 < 19 by omega)
 have hb4 : rd (wr (wr a1 3 ((MX.t 0).of a1)) 4 (.bool (decide ((65536 : Int) ≤ n)))) 4 = .bool (decide ((65536 : Int) ≤ n)) := Je (by simp only [Jj]; omega)
 revert hl3 hb4
 generalize wr (wr a1 3 ((MX.t 0).of a1)) 4 (.bool (decide ((65536 : Int) ≤ n))) = a3
 intro hl3 hb4
 refine MW.cd (b := decide ((65536 : Int) ≤ n)) hb4 (fun e => ?_) (fun e => ?_)
 ·have hge : 65536 ≤ n := by have := of_decide_eq_true e; omega
  have hsz3 := hl3.size
  have p0' := (hl3.get 0 (by omega)).trans ((Jb _ _ (by omega)).trans ((Jb _ _ (by omega)).trans ((hl1.get 0 (by omega)).symm.trans q0)))
  refine MW.sq (MW.rg (ML.mv (ML.b2 (v := .int .u32 ((n / 65536 : Nat) : Int)) ?_ (ML.mv (ML.nil ?_)))))
  ·simp (disch := (first | omega | (simp only [Jj]; omega))) only [Je, MX.of]
   rw [p0']
   show some (Value.int .u32 (Int.fdiv n 65536)) = _
   rw [Int.fdiv_eq_ediv_of_nonneg _ (by omega)]; rfl
  have hl4 := ((hl3.put (v := (MX.t 0).of a3) (show 5 < 19 by omega)).put (v := .int .u32 ((n / 65536 : Nat) : Int)) (show 6 < 19 by omega)).put (v := .int .u32 ((n / 65536 : Nat) : Int)) (show 0 < 19 by omega)
  simp (disch := (first | omega | (simp only [Jj]; omega))) only [Je, JH, MX.of] at hl4 ⊢
  refine MW.rg (ML.mv (ML.nil ?_))
  have hl5 := hl4.put (v := (.int .i64 16 : Value)) (show 2 < 19 by omega)
  refine half _ _ (n / 65536) 16 hl5 ?_ (Ja _ _ _) (by omega) (by omega) ?_
  ·rw [Jb _ _ (by omega), Ja]
  ·unfold Yd
   rw [if_neg (by omega), if_neg (by omega)]
   by_cases h6 : n < 16777216
   ·rw [if_pos h6, if_pos (by omega)]
   ·rw [if_neg h6, if_neg (by omega)]
    rw [show n / 65536 / 256 = n / 16777216 from by omega]
 ·have hlt : n < 65536 := by have := of_decide_eq_false e; omega
  refine MW.sk ?_
  refine half _ _ n 0 hl3 ?_ ?_ hlt (by omega) ?_
  ·rw [Jb _ _ (by omega), Jb _ _ (by omega)]; exact (hl1.get 0 (by omega)).symm.trans q0
  ·rw [Jb _ _ (by omega), Jb _ _ (by omega)]; exact (hl1.get 2 (by omega)).symm.trans q2
  ·unfold Yd
   by_cases h6 : n < 256
   ·rw [if_pos h6, if_pos h6, Nat.zero_add]
   ·rw [if_neg h6, if_pos hlt, if_neg h6]
end
set_option linter.unusedVariables false
def QM (n : Nat) : Nat := uvTab.getD (Yd n) 0
theorem tab1 : ∀ x : Fin 256, uvTab.getD (len8.getD x.val 0) 0 = if x.val < 128 then 1 else 2 := by decide +kernel
theorem tab2 : ∀ x : Fin 256, x.val ≠ 0 → uvTab.getD (8 + len8.getD x.val 0) 0 = if x.val < 64 then 2 else 3 := by decide +kernel
theorem tab3 : ∀ x : Fin 256, x.val ≠ 0 → uvTab.getD (16 + len8.getD x.val 0) 0 = if x.val < 32 then 3 else 4 := by decide +kernel
theorem tab4 : ∀ x : Fin 256, x.val ≠ 0 → uvTab.getD (24 + len8.getD x.val 0) 0 = if x.val < 16 then 4 else 5 := by decide +kernel
theorem tabIn : ∀ x : Fin 33, uvTab[x.val]? = some (uvTab.getD x.val 0) := by decide +kernel
theorem bitLen_le {n : Nat} (h : n < 4294967296) : Yd n ≤ 32 := by
 unfold Yd
 split
 ·have := (len8_le ⟨n, by assumption⟩).1; dsimp only at this; omega
 ·split
  ·have := (len8_le ⟨n / 256, by omega⟩).1; dsimp only at this; omega
  ·split
   ·have := (len8_le ⟨n / 65536, by omega⟩).1; dsimp only at this; omega
   ·have := (len8_le ⟨n / 16777216, by omega⟩).1; dsimp only at this; omega
theorem uvLen_eq {n : Nat} (h : n < 4294967296) : QM n = if n < 128 then 1 else if n < 16384 then 2 else if n < 2097152 then 3 else if n < 268435456 then 4 else 5 := by
 unfold QM Yd
 by_cases h1 : n < 256
 ·rw [if_pos h1, tab1 ⟨n, h1⟩]; dsimp only; repeat' split
  all_goals omega
 ·rw [if_neg h1]
  by_cases h2 : n < 65536
  ·rw [if_pos h2, tab2 ⟨n / 256, by omega⟩ (by dsimp only; omega)]; dsimp only; repeat' split
   all_goals omega
  ·rw [if_neg h2]
   by_cases h3 : n < 16777216
   ·rw [if_pos h3, tab3 ⟨n / 65536, by omega⟩ (by dsimp only; omega)]; dsimp only; repeat' split
    all_goals omega
   ·rw [if_neg h3, tab4 ⟨n / 16777216, by omega⟩ (by dsimp only; omega)]; dsimp only; repeat' split
    all_goals omega
section
variable {P : Program} {T : IT} {w : World}
def codeUvLen (T : IT) (fl : Nat) : Jc := rows [.rg [.mv 2 (.c (.int .i64 0))], .rg [.mv 3 (.t 0), .ca 4 fl [.t 3], .cv 5 T.int T.u8 4, .ix 6 T.str uvTab 5, .cv 7 T.u8 T.int 6, .mv 2 (.t 7)], .rt]
theorem uvLen_num {f fl : Nat} (tk : TOK P T) (hstr : T.str ≠ 0) (hf : FnIs P f (codeUvLen T fl) 8 2) (hl : NumC P fl .u32 .i64 (· < 4294967296) Yd) : NumC P f .u32 .i64 (· < 4294967296) QM := by
 refine ⟨hf.ent, fun w n hn => ?_⟩
 refine hf.calls (args := [.int .u32 (n : Nat)]) (by simp) fun a fn hres hl0 => ?_
 have hsz := hl0.size
 have hble := bitLen_le hn
 have hv5 : QM n ≤ 5 := by
  rw [uvLen_eq hn]
  repeat' split
  all_goals omega
 refine MW.sq (MW.rg (ML.mv (ML.nil ?_)))
 have hl1 := hl0.put (v := .int .i64 0) (show 2 < 8 by omega)
 have q0 : rd (wr a 2 (.int .i64 0)) 0 = .int .u32 (n : Nat) := by rw [hl1.get 0 (by omega)]; rfl
 show MW P _ _ (wr a 2 (.int .i64 0)) w
 revert hl1 q0
 generalize wr a 2 (.int .i64 0) = a1
 intro hl1 q0
 have hsz1 := hl1.size
 refine MW.sq (MW.rg (ML.mv (ML.ca (R := fun v w' => v = .int .i64 (Yd n : Nat) ∧ w' = w) hl.1 ?_ ?_)))
 ·simp (disch := (first | omega | (simp only [Jj]; omega))) only [Je, JH, MX.of, List.map_cons, List.map_nil]
  rw [q0]
  refine (hl.2 w n hn).mono ?_
  rintro e w' ⟨rfl, rfl⟩
  exact ⟨_, rfl, rfl, rfl⟩
 ·rintro v w' ⟨rfl, rfl⟩
  refine ML.cv (v := .int .u8 (Yd n : Nat)) ?_ (ML.ix (k := .u8) (i := Yd n) (b := QM n) (tk.str hstr) ?_ (tabIn ⟨Yd n, by omega⟩) (ML.cv (v := .int .i64 (QM n : Nat)) ?_ (ML.mv (ML.nil ?_))))
  ·simp (disch := (first | omega | (simp only [Jj]; omega))) only [Je, JH, MX.of]
   rw [Qe tk.int tk.u8i, IntKind.wrap_u8]
   congr 2; omega
  ·simp (disch := (first | omega | (simp only [Jj]; omega))) only [Je, JH, MX.of]
  ·simp (disch := (first | omega | (simp only [Jj]; omega))) only [Je, JH, MX.of]
   rw [Qe tk.u8i tk.int, Ju (by omega) (by omega)]
  ·simp (disch := (first | omega | (simp only [Jj]; omega))) only [Je, JH, MX.of]
   exact MW.ret1 (N := 8) (L := 0) (ρ := fun _ => undef) ⟨by simpa using hsz1, by simpa using hl1.defers, fun s hs => by omega⟩ hres (Je (by simp only [Jj]; omega)) ⟨rfl, rfl⟩
/-! Groups of seven bits. -/
theorem toNat_ofInt {n : Nat} (h : n < 4294967296) : (BitVec.ofInt 32 (n : Int)).toNat = n := by
 rw [BitVec.toNat_ofInt]; omega
theorem and127 {n : Nat} (h : n < 4294967296) : IntKind.u32.wrap ((BitVec.ofInt IntKind.u32.bits (n : Int) &&& BitVec.ofInt IntKind.u32.bits 127).toNat : Int) = ((n % 128 : Nat) : Int) := by
 show IntKind.u32.wrap ((BitVec.ofInt 32 (n : Int) &&& BitVec.ofInt 32 127).toNat : Int) = _
 rw [BitVec.toNat_and, toNat_ofInt h, show (BitVec.ofInt 32 127).toNat = 2 ^ 7 - 1 from rfl, Nat.and_two_pow_sub_one_eq_mod, Qx (by omega) (by omega)]
theorem or128 {n : Nat} (h : n < 128) : IntKind.u32.wrap ((BitVec.ofInt IntKind.u32.bits (n : Int) ||| BitVec.ofInt IntKind.u32.bits 128).toNat : Int) = ((n + 128 : Nat) : Int) := by
 show IntKind.u32.wrap ((BitVec.ofInt 32 (n : Int) ||| BitVec.ofInt 32 128).toNat : Int) = _
 rw [BitVec.toNat_or, toNat_ofInt (by omega), show (BitVec.ofInt 32 128).toNat = 2 ^ 7 from rfl]
 have := Nat.two_pow_add_eq_or_of_lt (show n < 2 ^ 7 from h) 1
 rw [Nat.or_comm, show 2 ^ 7 ||| n = n + 128 from by rw [show (2 : Nat) ^ 7 * 1 = 2 ^ 7 from rfl] at this; omega, Qx (by omega) (by omega)]
theorem grp {n : Nat} (h : n < 4294967296) : IntKind.u8.wrap (IntKind.u32.wrap ((BitVec.ofInt IntKind.u32.bits (IntKind.u32.wrap ((BitVec.ofInt IntKind.u32.bits (n : Int) &&& BitVec.ofInt IntKind.u32.bits 127).toNat : Int)) ||| BitVec.ofInt IntKind.u32.bits 128).toNat : Int)) = ((n % 128 + 128 : Nat) : Int) := by
 rw [and127 h, or128 (by omega), IntKind.wrap_u8]; omega
theorem shr_nat (n m : Nat) (hm : 0 < m) : Int.fdiv (n : Int) (m : Int) = ((n / m : Nat) : Int) := by
 rw [Int.fdiv_eq_ediv_of_nonneg _ (by omega)]; rfl
theorem byteV_nat {n : Nat} (h : n < 256) : Value.int .u8 ((n : Nat) : Int) = JF (UInt8.ofNat n) := by
 unfold JF
 have : (UInt8.ofNat n).toNat = n := by simp; omega
 rw [this]
theorem byteV_wrap {n : Nat} (h : n < 256) : Value.int .u8 (IntKind.u8.wrap ((n : Nat) : Int)) = JF (UInt8.ofNat n) := by
 rw [IntKind.wrap_u8, show ((n : Int) % 256) = ((n : Nat) : Int) from by omega]; exact byteV_nat h
def grpOps (T : IT) (t sh : Nat) : List MOp := [.mv t (.t 1), .b2 (t + 1) .shr (.t t) (.c (.int .u64 sh)), .b2 (t + 2) .and (.t (t + 1)) (.c (.int .u32 127)), .b2 (t + 3) .or (.t (t + 2)) (.c (.int .u32 128)), .cv (t + 4) T.u32 T.u8 (t + 3)]
def grpOp0 (T : IT) (t : Nat) : List MOp := [.mv t (.t 1), .b2 (t + 1) .and (.t t) (.c (.int .u32 127)), .b2 (t + 2) .or (.t (t + 1)) (.c (.int .u32 128)), .cv (t + 3) T.u32 T.u8 (t + 2)]
def lastOps (T : IT) (t sh : Nat) : List MOp := [.mv t (.t 1), .b2 (t + 1) .shr (.t t) (.c (.int .u64 sh)), .cv (t + 2) T.u32 T.u8 (t + 1)]
def case5 (T : IT) : List MOp := .mv 9 (.t 0) :: (grpOp0 T 10 ++ (grpOps T 14 7 ++ (grpOps T 19 14 ++ (grpOps T 24 21 ++ lastOps T 29 28))))
def case4 (T : IT) : List MOp := .mv 36 (.t 0) :: (grpOp0 T 37 ++ (grpOps T 41 7 ++ (grpOps T 46 14 ++ lastOps T 51 21)))
def case3 (T : IT) : List MOp := .mv 58 (.t 0) :: (grpOp0 T 59 ++ (grpOps T 63 7 ++ lastOps T 68 14))
def case2 (T : IT) : List MOp := .mv 75 (.t 0) :: (grpOp0 T 76 ++ lastOps T 80 7)
def case1 (T : IT) : List MOp := [.mv 87 (.t 0), .mv 88 (.t 1), .cv 89 T.u32 T.u8 88]
def tailU (T : IT) (pre : List MOp) (xs : List MX) (y d1 d2 : Nat) : Jc := .sq (.rg (pre ++ [.bsl d1 T.u8s xs, .ap d2 T.u8s T.u8s y d1, .mv 4 (.t d2)])) .rt
def codeUv (T : IT) (fl : Nat) : Jc := rows [.rg [.mv 4 (.c .nslice)], .sq (.rg [.mv 5 (.t 1), .ca 6 fl [.t 5]])
 (.bl 0 (.sq (.rg [.bi 8 .eql T.int (.t 6) (.c (.int .i64 5)), .mv 7 (.t 8)]) (.cd 7 (tailU T (case5 T) [.t 13, .t 18, .t 23, .t 28, .t 31] 9 32 33)
  (.sq (.rg [.bi 35 .eql T.int (.t 6) (.c (.int .i64 4)), .mv 34 (.t 35)]) (.cd 34 (tailU T (case4 T) [.t 40, .t 45, .t 50, .t 53] 36 54 55)
   (.sq (.rg [.bi 57 .eql T.int (.t 6) (.c (.int .i64 3)), .mv 56 (.t 57)]) (.cd 56 (tailU T (case3 T) [.t 62, .t 67, .t 70] 58 71 72)
    (.sq (.rg [.bi 74 .eql T.int (.t 6) (.c (.int .i64 2)), .mv 73 (.t 74)]) (.cd 73 (tailU T (case2 T) [.t 79, .t 82] 75 83 84)
     (.sq (.rg [.bi 86 .eql T.int (.t 6) (.c (.int .i64 1)), .mv 85 (.t 86)]) (.cd 85 (tailU T (case1 T) [.t 89] 87 90 91) .sk))))))))))),
 .rg [.mv 92 (.t 0), .mv 4 (.t 92)], .rt]
theorem uv1 {n : Nat} (h : n < 128) : uv n = [UInt8.ofNat n] := by simp [uv, uvb, h]
theorem uv2 {n : Nat} (h0 : 128 ≤ n) (h : n < 16384) : uv n = [UInt8.ofNat (n % 128 + 128), UInt8.ofNat (n / 128)] := by
 have h1 : ¬ n < 128 := by omega
 have h2 : n / 128 < 128 := by omega
 simp [uv, uvb, h1, h2]
theorem uv3 {n : Nat} (h0 : 16384 ≤ n) (h : n < 2097152) : uv n = [UInt8.ofNat (n % 128 + 128), UInt8.ofNat (n / 128 % 128 + 128), UInt8.ofNat (n / 128 / 128)] := by
 have h1 : ¬ n < 128 := by omega
 have h2 : ¬ n / 128 < 128 := by omega
 have h3 : n / 128 / 128 < 128 := by omega
 simp only [uv, uvb, h1, h2, h3, if_true, if_false]
theorem uv4 {n : Nat} (h0 : 2097152 ≤ n) (h : n < 268435456) : uv n = [UInt8.ofNat (n % 128 + 128), UInt8.ofNat (n / 128 % 128 + 128), UInt8.ofNat (n / 128 / 128 % 128 + 128), UInt8.ofNat (n / 128 / 128 / 128)] := by
 have h1 : ¬ n < 128 := by omega
 have h2 : ¬ n / 128 < 128 := by omega
 have h3 : ¬ n / 128 / 128 < 128 := by omega
 have h4 : n / 128 / 128 / 128 < 128 := by omega
 simp only [uv, uvb, h1, h2, h3, h4, if_true, if_false]
theorem uv5 {n : Nat} (h0 : 268435456 ≤ n) (h : n < 4294967296) : uv n = [UInt8.ofNat (n % 128 + 128), UInt8.ofNat (n / 128 % 128 + 128), UInt8.ofNat (n / 128 / 128 % 128 + 128), UInt8.ofNat (n / 128 / 128 / 128 % 128 + 128), UInt8.ofNat (n / 128 / 128 / 128 / 128)] := by
 have h1 : ¬ n < 128 := by omega
 have h2 : ¬ n / 128 < 128 := by omega
 have h3 : ¬ n / 128 / 128 < 128 := by omega
 have h4 : ¬ n / 128 / 128 / 128 < 128 := by omega
 have h5 : n / 128 / 128 / 128 / 128 < 128 := by omega
 simp only [uv, uvb, h1, h2, h3, h4, h5, if_true, if_false]
theorem tailU_ok {B : Nat} {ks : List IntKind} {pre : List MOp} {xs : List MX} {y d1 d2 : Nat} {ρ ρ' : Nat → Value} {a : Act} {sv : Value} {bs l : List UInt8} {fn : Func} {Q : Exit → Act → World → Prop} (tk : TOK P T)
  (hres : fn.results = #[.tmp 4]) (hl : Loc 93 93 ρ a) (he : Kx.evs ks pre ρ 93 = some ρ') (hc : CvOk P ks pre) (hr : ∀ m ∈ pre, ∀ s ∈ reads m, s < 93) (hxs : xs.map (xof ρ') = l.map JF) (hxN : ∀ x ∈ xs, ∀ s, x = .t s → s < 93) (hx16 : xs.length ≤ 16)
  (hy : y < 93) (hd1 : d1 < 93) (hd2 : d2 < 93) (hyd : y ≠ d1) (hsv : ρ' y = sv) (ho : OwnB T.u8 w B sv bs) (hB : B ≤ w.heap.size) (hlim : bs.length + l.length ≤ lim)
  (hQ : ∀ a' w', bodyPost P fn (fun e w' => ∃ sv', e = .returned sv' ∧ OwnB T.u8 w' B sv' (bs ++ l) ∧ Below B w w' ∧ Gr w w' sv) .ret a' w' → Q .ret a' w') : MW P (tailU T pre xs y d1 d2) Q a w := by
 refine MW.sq (MW.rg (ML.octets tk hl he hc hr hxs hxN hx16 hy hd1 hd2 (by omega) hyd (by rw [hsv]; exact ho) hB hlim ?_))
 intro a' w' sv' ρ'' g1 g2 g3 g4 g5
 refine MW.rt (hQ a' w' ?_)
 refine bodyPost_ret (v := sv') ?_ g1.defers ⟨sv', rfl, g3, g4, by rw [← hsv]; exact g5⟩
 rw [results_tmp hres]
 congr 1
 exact (g1.get 4 (by omega)).trans g2
abbrev gV (x : Int) : Value := .int .u8 (IntKind.u8.wrap (IntKind.u32.wrap ((BitVec.ofInt IntKind.u32.bits (IntKind.u32.wrap ((BitVec.ofInt IntKind.u32.bits x &&& BitVec.ofInt IntKind.u32.bits 127).toNat : Int)) ||| BitVec.ofInt IntKind.u32.bits 128).toNat : Int)))
abbrev lV (x : Int) : Value := .int .u8 (IntKind.u8.wrap x)
theorem gV_eq {n : Nat} (h : n < 4294967296) : gV (n : Int) = JF (UInt8.ofNat (n % 128 + 128)) := by
 unfold gV; rw [grp h]; exact byteV_nat (by omega)
theorem gV_div {n m : Nat} (h : n < 4294967296) (hm : 0 < m) : gV (Int.fdiv (n : Int) (m : Int)) = JF (UInt8.ofNat (n / m % 128 + 128)) := by
 rw [shr_nat n m hm]; exact gV_eq (Nat.lt_of_le_of_lt (Nat.div_le_self n m) h)
theorem lV_div {n m : Nat} (h : n / m < 256) (hm : 0 < m) : lV (Int.fdiv (n : Int) (m : Int)) = JF (UInt8.ofNat (n / m)) := by
 unfold lV; rw [shr_nat n m hm]; exact byteV_wrap h
def UvarG (P : Program) (U f : Nat) : Prop := ApG P U f (fun _ _ x out => ∃ n : Nat, n < 4294967296 ∧ x = .int .u32 n ∧ out = uv n)
set_option maxHeartbeats 1000000 in
theorem appUvG {f fl : Nat} (tk : TOK P T) (h32 : T.u32 ≠ 0) (hf : FnIs P f (codeUv T fl) 93 4) (hlen : NumC P fl .u32 .i64 (· < 4294967296) QM) : UvarG P T.u8 f := by
 refine ⟨hf.ent, ?_⟩
 rintro w B sv x bs out hB ho ⟨n, hn, rfl, rfl⟩ hlim
 have q := tk.u32 h32
 have hk := uvLen_eq hn
 refine hf.calls (args := [sv, .int .u32 (n : Nat)]) (by simp) fun a fn hres hl0 => ?_
 have hsz := hl0.size
 refine MW.sq (MW.rg (ML.mv (ML.nil ?_)))
 refine MW.sq (MW.sq (MW.rg (ML.mv (ML.ca (R := fun v w' => v = .int .i64 (QM n : Nat) ∧ w' = w) hlen.1 ?_ ?_))))
 ·simp (disch := (first | omega | (simp only [Jj]; omega))) only [Je, JH, MX.of, List.map_cons, List.map_nil]
  rw [hl0.get 1 (by omega)]
  refine (hlen.2 w n hn).mono ?_
  rintro e w' ⟨rfl, rfl⟩
  exact ⟨_, rfl, rfl, rfl⟩
 rintro v w' ⟨rfl, rfl⟩
 refine ML.nil ?_
 have hl1 := ((hl0.put (v := .slice none 0 0) (show 4 < 93 by omega)).put (v := .int .u32 (n : Nat)) (show 5 < 93 by omega)).put (v := .int .i64 (QM n : Nat)) (show 6 < 93 by omega)
 simp (disch := (first | omega | (simp only [Jj]; omega))) only [Je, JH, MX.of, MVal.val]
 rw [hl0.get 1 (by omega)]
 show MW P _ _ (wr (wr (wr a 4 (.slice none 0 0)) 5 (.int .u32 (n : Nat))) 6 (.int .i64 (QM n : Nat))) w'
 revert hl1
 generalize wr (wr (wr a 4 (.slice none 0 0)) 5 (.int .u32 (n : Nat))) 6 (.int .i64 (QM n : Nat)) = a1
 intro hl1
 have hsz1 := hl1.size
 have test : ∀ (ρ : Nat → Value) (a2 : Act) (d k : Nat) (x y : Jc) (Q : Exit → Act → World → Prop), Loc 93 93 ρ a2 → ρ 6 = .int .i64 (QM n : Nat) → d + 1 < 93 →
   (QM n = k → ∀ a3, Loc 93 93 (upd (upd ρ (d + 1) (.bool (((QM n : Nat) : Int) == (k : Int)))) d (.bool (((QM n : Nat) : Int) == (k : Int)))) a3 → MW P x Q a3 w') →
   (QM n ≠ k → ∀ a3, Loc 93 93 (upd (upd ρ (d + 1) (.bool (((QM n : Nat) : Int) == (k : Int)))) d (.bool (((QM n : Nat) : Int) == (k : Int)))) a3 → MW P y Q a3 w') →
   MW P (.sq (.rg [.bi (d + 1) .eql T.int (.t 6) (.c (.int .i64 k)), .mv d (.t (d + 1))]) (.cd d x y)) Q a2 w' := by
  intro ρ a2 d k x y Q hl2 h6 hd hyes hno
  have hsz2 := hl2.size
  refine MW.sq (MW.rg (ML.biInt (k := .i64) (m := (QM n : Nat)) (n := k) (v := .bool (((QM n : Nat) : Int) == (k : Int))) ?_ rfl (run_cmp_eql _ _ _ _) (ML.mv (ML.nil ?_))))
  ·simp only [MX.of]; rw [hl2.get 6 (by omega), h6]
  simp (disch := (first | omega | (simp only [Jj]; omega))) only [Je, JH, MX.of]
  have hl3 := (hl2.put (v := .bool (((QM n : Nat) : Int) == (k : Int))) hd).put (v := .bool (((QM n : Nat) : Int) == (k : Int))) (show d < 93 by omega)
  refine MW.cd (Je (by simp only [Jj]; omega)) (fun e => hyes ?_ _ hl3) (fun e => hno ?_ _ hl3)
  ·have := beq_iff_eq.1 e; omega
  ·have := beq_eq_false_iff_ne.1 e; omega
 have w127 : ∀ m : Nat, m < 4294967296 → IntKind.u8.wrap (IntKind.u32.wrap ((BitVec.ofInt IntKind.u32.bits (IntKind.u32.wrap ((BitVec.ofInt IntKind.u32.bits (m : Int) &&& BitVec.ofInt IntKind.u32.bits 127).toNat : Int)) ||| BitVec.ofInt IntKind.u32.bits 128).toNat : Int)) = ((m % 128 + 128 : Nat) : Int) := fun m hm => grp hm
 refine MW.bl ?_
 refine test _ a1 7 5 _ _ _ hl1 (Ja _ _ _) (by omega) (fun e a3 hl3 => ?_) (fun e5 a3 hl3 => ?_)
 ·have h0 : 268435456 ≤ n := by rw [hk] at e; revert e; (repeat' split) <;> omega
  refine tailU_ok (ks := [.u8, .u8, .u8, .u8, .u8]) (sv := sv) (bs := bs) (l := uv n) tk hres hl3 rfl ⟨⟨_, q⟩, tk.u8i, ⟨_, q⟩, tk.u8i, ⟨_, q⟩, tk.u8i, ⟨_, q⟩, tk.u8i, ⟨_, q⟩, tk.u8i, trivial⟩ (by simp [case5, grpOps, grpOp0, lastOps, reads, MX.slots]) ?_ (by simp) (by simp) (by omega) (by omega) (by omega) (by omega) rfl ho hB hlim (fun _ _ h => h)
  rw [uv5 h0 hn]
  simp only [List.map_cons, List.map_nil, Nat.div_div_eq_div_mul, Nat.reduceMul]
  show [gV (n : Int), gV (Int.fdiv (n : Int) ((128 : Nat) : Int)), gV (Int.fdiv (n : Int) ((16384 : Nat) : Int)), gV (Int.fdiv (n : Int) ((2097152 : Nat) : Int)), lV (Int.fdiv (n : Int) ((268435456 : Nat) : Int))] = _
  rw [gV_eq hn, gV_div hn (by omega), gV_div hn (by omega), gV_div hn (by omega), lV_div (by omega) (by omega)]
 ·refine test _ _ 34 4 _ _ _ hl3 rfl (by omega) (fun e a3 hl3 => ?_) (fun e4 a3 hl3 => ?_)
  ·have h0 : 2097152 ≤ n := by rw [hk] at e; revert e; (repeat' split) <;> omega
   have h2 : n < 268435456 := by rw [hk] at e; revert e; (repeat' split) <;> omega
   refine tailU_ok (ks := [.u8, .u8, .u8, .u8]) (sv := sv) (bs := bs) (l := uv n) tk hres hl3 rfl ⟨⟨_, q⟩, tk.u8i, ⟨_, q⟩, tk.u8i, ⟨_, q⟩, tk.u8i, ⟨_, q⟩, tk.u8i, trivial⟩ (by simp [case4, grpOps, grpOp0, lastOps, reads, MX.slots]) ?_ (by simp) (by simp) (by omega) (by omega) (by omega) (by omega) rfl ho hB hlim (fun _ _ h => h)
   rw [uv4 h0 h2]
   simp only [List.map_cons, List.map_nil, Nat.div_div_eq_div_mul, Nat.reduceMul]
   show [gV (n : Int), gV (Int.fdiv (n : Int) ((128 : Nat) : Int)), gV (Int.fdiv (n : Int) ((16384 : Nat) : Int)), lV (Int.fdiv (n : Int) ((2097152 : Nat) : Int))] = _
   rw [gV_eq hn, gV_div hn (by omega), gV_div hn (by omega), lV_div (by omega) (by omega)]
  ·refine test _ _ 56 3 _ _ _ hl3 rfl (by omega) (fun e a3 hl3 => ?_) (fun e3 a3 hl3 => ?_)
   ·have h0 : 16384 ≤ n := by rw [hk] at e; revert e; (repeat' split) <;> omega
    have h2 : n < 2097152 := by rw [hk] at e; revert e; (repeat' split) <;> omega
    refine tailU_ok (ks := [.u8, .u8, .u8]) (sv := sv) (bs := bs) (l := uv n) tk hres hl3 rfl ⟨⟨_, q⟩, tk.u8i, ⟨_, q⟩, tk.u8i, ⟨_, q⟩, tk.u8i, trivial⟩ (by simp [case3, grpOps, grpOp0, lastOps, reads, MX.slots]) ?_ (by simp) (by simp) (by omega) (by omega) (by omega) (by omega) rfl ho hB hlim (fun _ _ h => h)
    rw [uv3 h0 h2]
    simp only [List.map_cons, List.map_nil, Nat.div_div_eq_div_mul, Nat.reduceMul]
    show [gV (n : Int), gV (Int.fdiv (n : Int) ((128 : Nat) : Int)), lV (Int.fdiv (n : Int) ((16384 : Nat) : Int))] = _
    rw [gV_eq hn, gV_div hn (by omega), lV_div (by omega) (by omega)]
   ·refine test _ _ 73 2 _ _ _ hl3 rfl (by omega) (fun e a3 hl3 => ?_) (fun e2 a3 hl3 => ?_)
    ·have h0 : 128 ≤ n := by rw [hk] at e; revert e; (repeat' split) <;> omega
     have h2 : n < 16384 := by rw [hk] at e; revert e; (repeat' split) <;> omega
     refine tailU_ok (ks := [.u8, .u8]) (sv := sv) (bs := bs) (l := uv n) tk hres hl3 rfl ⟨⟨_, q⟩, tk.u8i, ⟨_, q⟩, tk.u8i, trivial⟩ (by simp [case2, grpOps, grpOp0, lastOps, reads, MX.slots]) ?_ (by simp) (by simp) (by omega) (by omega) (by omega) (by omega) rfl ho hB hlim (fun _ _ h => h)
     rw [uv2 h0 h2]
     simp only [List.map_cons, List.map_nil, Nat.div_div_eq_div_mul, Nat.reduceMul]
     show [gV (n : Int), lV (Int.fdiv (n : Int) ((128 : Nat) : Int))] = _
     rw [gV_eq hn, lV_div (by omega) (by omega)]
    ·refine test _ _ 85 1 _ _ _ hl3 rfl (by omega) (fun e a3 hl3 => ?_) (fun e1 a3 hl3 => ?_)
     ·have h0 : 0 ≤ n := Nat.zero_le n
      have h2 : n < 128 := by rw [hk] at e; revert e; (repeat' split) <;> omega
      refine tailU_ok (ks := [.u8]) (sv := sv) (bs := bs) (l := uv n) tk hres hl3 rfl ⟨⟨_, q⟩, tk.u8i, trivial⟩ (by simp [case1, grpOps, grpOp0, lastOps, reads, MX.slots]) ?_ (by simp) (by simp) (by omega) (by omega) (by omega) (by omega) rfl ho hB hlim (fun _ _ h => h)
      rw [uv1 h2]
      simp only [List.map_cons, List.map_nil]
      show [lV (n : Int)] = _
      unfold lV; rw [byteV_wrap (by omega)]
     ·exfalso; rw [hk] at e1 e2 e3 e4 e5; revert e1 e2 e3 e4 e5; (repeat' split) <;> omega
end
section
variable {P : Program} {Q : Exit → Act → World → Prop} {a : Act} {w : World} {ms : List MOp}
end
section
variable {P : Program} {T : IT} {w : World}
theorem MX.of_loc {N L : Nat} {ρ : Nat → Value} {a : Act} {x : MX} (hl : Loc N L ρ a) (h : ∀ s, x = .t s → s < L) : x.of a = xof ρ x := by
 cases x with
 | t s => exact hl.get s (h s rfl)
 | c m => rfl
theorem ML.callTo {U N B x d r f : Nat} {y : MX} {ks : List IntKind} {pre : List MOp} {ρ ρ' : Nat → Value} {a : Act} {bs out : List UInt8} {R : World → Nat → Value → List UInt8 → Prop} {Q : Exit → Act → World → Prop}
  (hc : ApC P U f R) (hl : Loc N N ρ a) (he : Kx.evs ks pre ρ N = some ρ') (hcv : CvOk P ks pre) (hr : ∀ m ∈ pre, ∀ s ∈ reads m, s < N) (hx : x < N) (hy : ∀ s, y = .t s → s < N) (hd : d < N) (hrN : r < N)
  (ho : OwnB U w B (ρ' x) bs) (hR : R w B (xof ρ' y) out) (hB : B ≤ w.heap.size) (hlim : bs.length + out.length ≤ lim)
  (h : ∀ a' w' sv', Loc N N (upd (upd ρ' d sv') r sv') a' → OwnB U w' B sv' (bs ++ out) → Below B w w' → Q .normal a' w') :
  ML P (pre ++ [.ca d f [.t x, y], .mv r (.t d)]) Q a w := by
 refine ML.evs hl he hcv hr fun a1 hl1 => ?_
 have hsz := hl1.size
 refine ML.ca (R := fun sv' w' => OwnB U w' B sv' (bs ++ out) ∧ Below B w w') hc.1 ?_ ?_
 ·have e1 : (MX.t x).of a1 = ρ' x := hl1.get x hx
  simp only [List.map_cons, List.map_nil, e1, MX.of_loc hl1 hy]
  refine (hc.2 w B (ρ' x) (xof ρ' y) bs out hB ho hR hlim).mono ?_
  rintro e w' ⟨sv', rfl, h2⟩
  exact ⟨sv', rfl, h2⟩
 ·rintro sv' w' ⟨h2, h3⟩
  refine ML.mv (ML.nil ?_)
  have : (MX.t d).of (wr a1 d sv') = sv' := Je (by omega)
  rw [this]
  exact h _ w' sv' ((hl1.put hd).put hrN) h2 h3
theorem ML.callToG {U N B x d r f : Nat} {y : MX} {ks : List IntKind} {pre : List MOp} {ρ ρ' : Nat → Value} {a : Act} {bs out : List UInt8} {R : World → Nat → Value → List UInt8 → Prop} {Q : Exit → Act → World → Prop}
  (hc : ApG P U f R) (hl : Loc N N ρ a) (he : Kx.evs ks pre ρ N = some ρ') (hcv : CvOk P ks pre) (hr : ∀ m ∈ pre, ∀ s ∈ reads m, s < N) (hx : x < N) (hy : ∀ s, y = .t s → s < N) (hd : d < N) (hrN : r < N)
  (ho : OwnB U w B (ρ' x) bs) (hR : R w B (xof ρ' y) out) (hB : B ≤ w.heap.size) (hlim : bs.length + out.length ≤ lim)
  (h : ∀ a' w' sv', Loc N N (upd (upd ρ' d sv') r sv') a' → OwnB U w' B sv' (bs ++ out) → Below B w w' → Gr w w' (ρ' x) → Q .normal a' w') :
  ML P (pre ++ [.ca d f [.t x, y], .mv r (.t d)]) Q a w := by
 refine ML.evs hl he hcv hr fun a1 hl1 => ?_
 have hsz := hl1.size
 refine ML.ca (R := fun sv' w' => OwnB U w' B sv' (bs ++ out) ∧ Below B w w' ∧ Gr w w' (ρ' x)) hc.1 ?_ ?_
 ·have e1 : (MX.t x).of a1 = ρ' x := hl1.get x hx
  simp only [List.map_cons, List.map_nil, e1, MX.of_loc hl1 hy]
  refine (hc.2 w B (ρ' x) (xof ρ' y) bs out hB ho hR hlim).mono ?_
  rintro e w' ⟨sv', rfl, h2⟩
  exact ⟨sv', rfl, h2⟩
 ·rintro sv' w' ⟨h2, h3, h4⟩
  refine ML.mv (ML.nil ?_)
  have : (MX.t d).of (wr a1 d sv') = sv' := Je (by omega)
  rw [this]
  exact h _ w' sv' ((hl1.put hd).put hrN) h2 h3 h4
def toCode (r : Nat) (pre : List MOp) (d f x : Nat) (y : MX) : Jc := .sq (.rg (pre ++ [.ca d f [.t x, y], .mv r (.t d)])) .rt
theorem toCode_ok {U N B x d r f : Nat} {y : MX} {ks : List IntKind} {pre : List MOp} {ρ ρ' : Nat → Value} {a : Act} {bs out : List UInt8} {R : World → Nat → Value → List UInt8 → Prop} {fn : Func} {Q : Exit → Act → World → Prop}
  (hc : ApC P U f R) (hres : fn.results = #[.tmp r]) (hl : Loc N N ρ a) (he : Kx.evs ks pre ρ N = some ρ') (hcv : CvOk P ks pre) (hr : ∀ m ∈ pre, ∀ s ∈ reads m, s < N) (hx : x < N) (hy : ∀ s, y = .t s → s < N) (hd : d < N) (hrN : r < N)
  (ho : OwnB U w B (ρ' x) bs) (hR : R w B (xof ρ' y) out) (hB : B ≤ w.heap.size) (hlim : bs.length + out.length ≤ lim)
  (hQ : ∀ a' w', bodyPost P fn (fun e w' => ∃ sv', e = .returned sv' ∧ OwnB U w' B sv' (bs ++ out) ∧ Below B w w') .ret a' w' → Q .ret a' w') : MW P (toCode r pre d f x y) Q a w := by
 refine MW.sq (MW.rg (ML.callTo hc hl he hcv hr hx hy hd hrN ho hR hB hlim ?_))
 intro a' w' sv' g1 g2 g3
 refine MW.rt (hQ a' w' (bodyPost_ret (v := sv') ?_ g1.defers ⟨sv', rfl, g2, g3⟩))
 rw [results_tmp hres]
 congr 1
 exact (g1.get r hrN).trans (Ja _ _ _)
theorem toCode_okG {U N B x d r f : Nat} {y : MX} {ks : List IntKind} {pre : List MOp} {ρ ρ' : Nat → Value} {a : Act} {bs out : List UInt8} {R : World → Nat → Value → List UInt8 → Prop} {fn : Func} {Q : Exit → Act → World → Prop}
  (hc : ApG P U f R) (hres : fn.results = #[.tmp r]) (hl : Loc N N ρ a) (he : Kx.evs ks pre ρ N = some ρ') (hcv : CvOk P ks pre) (hr : ∀ m ∈ pre, ∀ s ∈ reads m, s < N) (hx : x < N) (hy : ∀ s, y = .t s → s < N) (hd : d < N) (hrN : r < N)
  (ho : OwnB U w B (ρ' x) bs) (hR : R w B (xof ρ' y) out) (hB : B ≤ w.heap.size) (hlim : bs.length + out.length ≤ lim)
  (hQ : ∀ a' w', bodyPost P fn (fun e w' => ∃ sv', e = .returned sv' ∧ OwnB U w' B sv' (bs ++ out) ∧ Below B w w' ∧ Gr w w' (ρ' x)) .ret a' w' → Q .ret a' w') : MW P (toCode r pre d f x y) Q a w := by
 refine MW.sq (MW.rg (ML.callToG hc hl he hcv hr hx hy hd hrN ho hR hB hlim ?_))
 intro a' w' sv' g1 g2 g3 g4
 refine MW.rt (hQ a' w' (bodyPost_ret (v := sv') ?_ g1.defers ⟨sv', rfl, g2, g3, g4⟩))
 rw [results_tmp hres]
 congr 1
 exact (g1.get r hrN).trans (Ja _ _ _)
/-! ### Numbers with a sign -/
def QU (r : Nat) (s t f : Nat) : Jc := .sq (.rg [.mv r (.c .nslice)]) (toCode r [.mv (r + 1) (.t 0), .mv (r + 2) (.t 1), .cv (r + 3) s t (r + 2)] (r + 4) f (r + 1) (.t (r + 3)))
theorem conv_ok {U f g s t : Nat} {k0 k : IntKind} {R : World → Nat → Value → List UInt8 → Prop} (hf : FnIs P f (QU 4 s t g) 9 4) (hc : ApC P U g R) (hs : JC P s k0 = true) (ht : JC P t k = true) :
  ApC P U f (fun w B x out => ∃ n, x = .int k0 n ∧ R w B (.int k (k.wrap n)) out) := by
 refine ⟨hf.ent, ?_⟩
 rintro w B sv x bs out hB ho ⟨n, rfl, hR⟩ hlim
 refine hf.calls (args := [sv, .int k0 n]) (by simp) fun a fn hres hl => ?_
 refine MW.sq (MW.rg (ML.mv (ML.nil ?_)))
 exact toCode_ok (ks := [k]) hc hres (hl.put (v := .slice none 0 0) (show 4 < 9 by omega)) rfl ⟨⟨_, hs⟩, ht, trivial⟩ (by simp [reads, MX.slots]) (by omega) (by simp) (by omega) (by omega) ho hR hB hlim (fun _ _ h => h)
theorem conv_okG {U f g s t : Nat} {k0 k : IntKind} {R : World → Nat → Value → List UInt8 → Prop} (hf : FnIs P f (QU 4 s t g) 9 4) (hc : ApG P U g R) (hs : JC P s k0 = true) (ht : JC P t k = true) :
  ApG P U f (fun w B x out => ∃ n, x = .int k0 n ∧ R w B (.int k (k.wrap n)) out) := by
 refine ⟨hf.ent, ?_⟩
 rintro w B sv x bs out hB ho ⟨n, rfl, hR⟩ hlim
 refine hf.calls (args := [sv, .int k0 n]) (by simp) fun a fn hres hl => ?_
 refine MW.sq (MW.rg (ML.mv (ML.nil ?_)))
 exact toCode_okG (ks := [k]) hc hres (hl.put (v := .slice none 0 0) (show 4 < 9 by omega)) rfl ⟨⟨_, hs⟩, ht, trivial⟩ (by simp [reads, MX.slots]) (by omega) (by simp) (by omega) (by omega) ho hR hB hlim (fun _ _ h => h)
theorem QD {k : IntKind} {n : Int} {b : Nat} (hk : k = .u16 ∧ b = 65536 ∨ k = .u32 ∧ b = 4294967296 ∨ k = .u64 ∧ b = 18446744073709551616) : k.wrap n = ((n % (b : Int)).toNat : Int) := by
 rcases hk with ⟨rfl, rfl⟩ | ⟨rfl, rfl⟩ | ⟨rfl, rfl⟩
 ·rw [show IntKind.u16.wrap n = n % 65536 from by simp [IntKind.wrap, IntKind.signed, IntKind.bits]]; omega
 ·rw [show IntKind.u32.wrap n = n % 4294967296 from by simp [IntKind.wrap, IntKind.signed, IntKind.bits]]; omega
 ·rw [show IntKind.u64.wrap n = n % 18446744073709551616 from by simp [IntKind.wrap, IntKind.signed, IntKind.bits]]; omega
theorem appI16 {f g : Nat} (tk : TOK P T) (h1 : T.i16 ≠ 0) (h2 : T.u16 ≠ 0) (hf : FnIs P f (QU 4 T.i16 T.u16 g) 9 4) (hg : ApG P T.u8 g (fun _ _ x out => ∃ n : Nat, n < 65536 ∧ x = .int .u16 n ∧ out = be n 2)) :
  ApG P T.u8 f (fun _ _ x out => ∃ n : Int, x = .int .i16 n ∧ out = fix n 2) := by
 have h := conv_okG hf hg (tk.i16 h1) (tk.u16 h2)
 refine ⟨h.1, fun w B sv x bs out hB ho hx hlim => h.2 w B sv x bs out hB ho ?_ hlim⟩
 obtain ⟨n, rfl, rfl⟩ := hx
 refine ⟨n, rfl, (n % 65536).toNat, by omega, ?_, rfl⟩
 rw [QD (.inl ⟨rfl, rfl⟩)]; rfl
theorem appI32 {f g : Nat} (tk : TOK P T) (h1 : T.i32 ≠ 0) (h2 : T.u32 ≠ 0) (hf : FnIs P f (QU 4 T.i32 T.u32 g) 9 4) (hg : ApG P T.u8 g (fun _ _ x out => ∃ n : Nat, n < 4294967296 ∧ x = .int .u32 n ∧ out = be n 4)) :
  ApG P T.u8 f (fun _ _ x out => ∃ n : Int, x = .int .i32 n ∧ out = fix n 4) := by
 have h := conv_okG hf hg (tk.i32 h1) (tk.u32 h2)
 refine ⟨h.1, fun w B sv x bs out hB ho hx hlim => h.2 w B sv x bs out hB ho ?_ hlim⟩
 obtain ⟨n, rfl, rfl⟩ := hx
 refine ⟨n, rfl, (n % 4294967296).toNat, by omega, ?_, rfl⟩
 rw [QD (.inr (.inl ⟨rfl, rfl⟩))]; rfl
theorem appI64 {f g : Nat} (tk : TOK P T) (h1 : T.i64 ≠ 0) (h2 : T.u64 ≠ 0) (hf : FnIs P f (QU 4 T.i64 T.u64 g) 9 4) (hg : ApG P T.u8 g (fun _ _ x out => ∃ n : Nat, n < 18446744073709551616 ∧ x = .int .u64 n ∧ out = be n 8)) :
  ApG P T.u8 f (fun _ _ x out => ∃ n : Int, x = .int .i64 n ∧ out = fix n 8) := by
 have h := conv_okG hf hg (tk.i64 h1) (tk.u64 h2)
 refine ⟨h.1, fun w B sv x bs out hB ho hx hlim => h.2 w B sv x bs out hB ho ?_ hlim⟩
 obtain ⟨n, rfl, rfl⟩ := hx
 refine ⟨n, rfl, (n % 18446744073709551616).toNat, by omega, ?_, rfl⟩
 rw [QD (.inr (.inr ⟨rfl, rfl⟩))]; rfl
/-! ### Lengths -/
theorem wrap_i32 {n : Int} (h0 : -2147483648 ≤ n) (h : n ≤ 2147483647) : IntKind.i32.wrap n = n := by simp [IntKind.wrap, IntKind.signed, IntKind.bits]; omega
theorem wrap_i16 {n : Int} (h0 : -32768 ≤ n) (h : n ≤ 32767) : IntKind.i16.wrap n = n := by simp [IntKind.wrap, IntKind.signed, IntKind.bits]; omega
def I32C (P : Program) (U f : Nat) : Prop := ApC P U f (fun _ _ x out => ∃ n : Int, x = .int .i32 n ∧ out = fix n 4)
def I16C (P : Program) (U f : Nat) : Prop := ApC P U f (fun _ _ x out => ∃ n : Int, x = .int .i16 n ∧ out = fix n 2)
theorem appLen {f g : Nat} (tk : TOK P T) (h1 : T.i32 ≠ 0) (hf : FnIs P f (QU 4 T.int T.i32 g) 9 4) (hg : I32C P T.u8 g) : LenC P T.u8 f (fun n => fix n 4) := by
 have h := conv_ok hf hg tk.int (tk.i32 h1)
 refine ⟨h.1, fun w B sv x bs out hB ho hx hlim => h.2 w B sv x bs out hB ho ?_ hlim⟩
 obtain ⟨n, hn, rfl, rfl⟩ := hx
 exact ⟨n, rfl, n, by rw [wrap_i32 (by omega) (by omega)], rfl⟩
def codeCLen (T : IT) (g : Nat) : Jc := .sq (.rg [.mv 4 (.c .nslice)]) (toCode 4 [.mv 5 (.t 0), .mv 6 (.t 1), .cv 7 T.int T.u32 6, .b2 8 .add (.c (.int .u32 1)) (.t 7)] 9 g 5 (.t 8))
theorem one_add {n : Nat} (h : n < 4294967295) : IntKind.u32.wrap (1 + IntKind.u32.wrap (n : Int)) = ((n + 1 : Nat) : Int) := by
 rw [Qx (x := (n : Int)) (by omega) (by omega), Qx (by omega) (by omega)]; omega
theorem appCLen {f g : Nat} (tk : TOK P T) (h1 : T.u32 ≠ 0) (hf : FnIs P f (codeCLen T g) 10 4) (hg : UvarC P T.u8 g) : LenC P T.u8 f (fun n => uv (n + 1)) := by
 refine ⟨hf.ent, ?_⟩
 rintro w B sv x bs out hB ho ⟨n, hn, rfl, rfl⟩ hlim
 refine hf.calls (args := [sv, .int .i64 n]) (by simp) fun a fn hres hl => ?_
 refine MW.sq (MW.rg (ML.mv (ML.nil ?_)))
 refine toCode_ok (ks := [.u32]) hg hres (hl.put (v := .slice none 0 0) (show 4 < 10 by omega)) rfl ⟨⟨_, tk.int⟩, tk.u32 h1, trivial⟩ (by simp [reads, MX.slots]) (by omega) (by simp) (by omega) (by omega) ho ?_ hB hlim (fun _ _ h => h)
 exact ⟨n + 1, by omega, by show Value.int .u32 (IntKind.u32.wrap (1 + IntKind.u32.wrap (n : Int))) = _; rw [one_add (by omega)], rfl⟩
end
set_option linter.unusedVariables false
def up (N : Nat) (Q : UE) : Exit → Act → World → Prop
 | .panic _, _, _ => False
 | e, a, w => ∃ ρ, Loc N N ρ a ∧ Q e ρ w
def RL (P : Program) (N : Nat) (ms : List MOp) (Q : UE) (ρ : Nat → Value) (w : World) : Prop := ∀ a, Loc N N ρ a → ML P ms (up N Q) a w
def RW (P : Program) (N : Nat) (m : Jc) (Q : UE) (ρ : Nat → Value) (w : World) : Prop := ∀ a, Loc N N ρ a → MW P m (up N Q) a w
def QP (K : (Nat → Value) → World → Prop) (Q : UE) : UE
 | .normal, ρ, w => K ρ w
 | e, ρ, w => Q e ρ w
def J2 (id : Nat) (Q : UE) : UE
 | .exit id', ρ, w => if id' = id then Q .normal ρ w else Q (.exit id') ρ w
 | e, ρ, w => Q e ρ w
section
variable {P : Program} {N : Nat} {Q Q' : UE} {ρ : Nat → Value} {w : World} {ms : List MOp}
theorem up_mono (h : ∀ e ρ w, Q e ρ w → Q' e ρ w) {e : Exit} {a : Act} (hu : up N Q e a w) : up N Q' e a w := by
 cases e <;> simp only [up] at hu ⊢ <;> first | exact hu | (obtain ⟨ρ, h1, h2⟩ := hu; exact ⟨ρ, h1, h _ _ _ h2⟩)
theorem RW.mono {m : Jc} (h : RW P N m Q ρ w) (hq : ∀ e ρ w, Q e ρ w → Q' e ρ w) : RW P N m Q' ρ w := fun a ha => (h a ha).mono fun e a w hu => up_mono hq hu
theorem RW.sq {x y : Jc} (h : RW P N x (QP (RW P N y Q) Q) ρ w) : RW P N (.sq x y) Q ρ w := by
 intro a ha
 refine MW.sq ((h a ha).mono fun e a w hu => ?_)
 cases e <;> simp only [up, QP, Exit.then] at hu ⊢
 ·obtain ⟨ρ, h1, h2⟩ := hu; exact h2 a h1
 all_goals exact hu
theorem RW.rg (h : RL P N ms Q ρ w) : RW P N (.rg ms) Q ρ w := fun a ha => MW.rg (h a ha)
theorem RW.cd {t : Nat} {x y : Jc} {b : Bool} (ht : ρ t = .bool b) (h1 : b = true → RW P N x Q ρ w) (h2 : b = false → RW P N y Q ρ w) (hN : t < N := by decide) : RW P N (.cd t x y) Q ρ w :=
 fun a ha => MW.cd ((ha.get t hN).trans ht) (fun e => h1 e a ha) (fun e => h2 e a ha)
theorem RW.bl {id : Nat} {x : Jc} (h : RW P N x (J2 id Q) ρ w) : RW P N (.bl id x) Q ρ w := by
 intro a ha
 refine MW.bl ((h a ha).mono fun e a w hu => ?_)
 cases e <;> simp only [up, J2, Exit.inBlock] at hu ⊢
 all_goals try exact hu
 obtain ⟨ρ, h1, h2⟩ := hu
 split at h2
 ·rename_i e; rw [if_pos e]; exact ⟨ρ, h1, h2⟩
 ·rename_i e; rw [if_neg e]; exact ⟨ρ, h1, h2⟩
theorem RW.lp {x : Jc} (I : (Nat → Value) → World → Prop) (μ : (Nat → Value) → World → Nat) (h₀ : I ρ w)
  (round : ∀ ρ w, I ρ w → RW P N x (QP (fun ρ' w' => I ρ' w' ∧ μ ρ' w' < μ ρ w) Q) ρ w) (hμ : ∀ ρ ρ' w, (∀ s, s < N → ρ s = ρ' s) → μ ρ w = μ ρ' w := by intros; rfl) : RW P N (.lp x) Q ρ w := by
 intro a ha
 refine MW.lp (fun a w => ∃ ρ, Loc N N ρ a ∧ I ρ w) (fun a w => μ (rd a) w) ⟨ρ, ha, h₀⟩ ?_
 rintro a w ⟨ρ, hl, hi⟩
 refine (round ρ w hi a hl).mono fun e a' w' hu => ?_
 cases e <;> simp only [up, QP, Exit.then] at hu ⊢
 all_goals try exact hu
 obtain ⟨ρ', h1, h2, h3⟩ := hu
 refine ⟨⟨ρ', h1, h2⟩, ?_⟩
 rw [hμ (rd a') ρ' w' (fun s hs => h1.get s hs), hμ (rd a) ρ w (fun s hs => hl.get s hs)]
 exact h3
theorem RW.ex {id : Nat} (h : Q (.exit id) ρ w) : RW P N (.ex id) Q ρ w := fun a ha => MW.ex ⟨ρ, ha, h⟩
theorem RW.rt (h : Q .ret ρ w) : RW P N .rt Q ρ w := fun a ha => MW.rt ⟨ρ, ha, h⟩
theorem RW.sk (h : Q .normal ρ w) : RW P N .sk Q ρ w := fun a ha => MW.sk ⟨ρ, ha, h⟩
theorem RL.nil (h : Q .normal ρ w) : RL P N [] Q ρ w := fun a ha => ML.nil ⟨ρ, ha, h⟩
def retQ (r : Nat) (R : Ending → World → Prop) : UE
 | .ret, ρ, w => R (.returned (ρ r)) w
 | _, _, _ => False
theorem up_retQ {r : Nat} (hr : r < N) {R : Ending → World → Prop} {fn : Func} (hres : fn.results = #[.tmp r]) {e : Exit} {a : Act} (h : up N (retQ r R) e a w) : bodyPost P fn R e a w := by
 cases e <;> simp only [up, retQ] at h
 all_goals first | (obtain ⟨ρ, h1, h2⟩ := h; exact h2.elim) | skip
 ·obtain ⟨ρ, h1, h2⟩ := h
  refine bodyPost_ret (v := ρ r) ?_ h1.defers h2
  rw [results_tmp hres]
  congr 1
  exact h1.get r hr
 all_goals exact h.elim
theorem FnIs.runs {f r : Nat} {m : Jc} (h : FnIs P f m N r) {args : List Value} {R : Ending → World → Prop} (hle : args.length ≤ N) (hr : r < N)
  (hw : RW P N m (retQ r R) (args0 args) w) : Calls P f args.toArray w R :=
 h.calls hle fun a fn hres hl => (hw a hl).mono fun _ _ _ hu => up_retQ hr hres hu
/-! ### One operation's run -/
def MX.lt (N : Nat) : MX → Bool
 | .t s => Nat.blt s N
 | .c _ => true
def MR (P : Program) (N : Nat) (m : MOp) (ρ : Nat → Value) (w : World) (d : Nat) (v : Value) (w' : World) : Prop :=
 ∀ (a : Act) (o : Oper), Loc N N ρ a → Jf m o.dst o.op = true → o.dst = some d ∧ (execOp a.eval o).run P w = .ok (.value v) w'
theorem RL.s {m : MOp} {d : Nat} {v : Value} {w' : World} (hm : MR P N m ρ w d v w') (h : RL P N ms Q (upd ρ d v) w') (hd : d < N := by decide) : RL P N (m :: ms) Q ρ w := by
 intro a ha
 refine ML.step (d := some d) (v := v) (w' := w') (fun o ho => ?_) (h _ (ha.put hd))
 obtain ⟨h1, h2⟩ := hm a o ha (JM ho)
 exact ⟨h1, .inl h2⟩
theorem MX.evalL {a : Act} {x : MX} {y : Operand} (hl : Loc N N ρ a) (hx : x.lt N = true) (h : x.is y = true) : a.eval y = xof ρ x := by
 rw [MX.is_eval h a, MX.of_loc hl]
 rintro s rfl
 simpa [MX.lt, Nat.blt_eq] using hx
theorem tmpL {a : Act} {s : Nat} {y : Operand} (hl : Loc N N ρ a) (hs : s < N) (h : J5 s y = true) : a.eval y = ρ s := by
 rw [J0 h]; exact hl.get s hs
variable {d : Nat} {v : Value} {w' : World}
theorem MR.mv {x : MX} (hv : xof ρ x = v := by rfl) (hx : x.lt N = true := by rfl) : MR P N (.mv d x) ρ w d v w := by
 subst hv
 intro a o hl hf
 generalize hop : o.op = op at hf
 unfold execOp
 cases op <;> simp only [Jf, UA, UB] at hf
 all_goals exact ⟨Jl hf.1, by simp only [hop, MX.evalL hl hx hf.2]; rfl⟩
theorem MR.nc {s : Nat} {p : Addr} (hv : ρ s = .pointer (some p)) (hs : s < N := by decide) : MR P N (.nc d s) ρ w d (.pointer (some p)) w := by
 intro a o hl hf; generalize hop : o.op = op at hf; unfold execOp; cases op <;> simp only [Jf, UA, UB, Nat.beq_eq] at hf
 exact ⟨Jl hf.1, by simp only [hop, tmpL hl hs hf.2, hv]; rfl⟩
theorem MR.fa {T s f b o off : Nat} (hv : ρ s = .pointer (some ⟨b, o, none⟩)) (hF : Jd P T f off = true) (hs : s < N := by decide) : MR P N (.fa d T s f) ρ w d (.pointer (some ⟨b, o + off, none⟩)) w := by
 intro a o hl hf; generalize hop : o.op = op at hf; unfold execOp; cases op <;> simp only [Jf, UA, UB, Nat.beq_eq] at hf
 obtain ⟨⟨⟨h1, h2⟩, h3⟩, h4⟩ := hf
 subst h2 h4
 refine ⟨Jl h1, ?_⟩
 simp only [hop, Sem.run_bind, tmpL hl hs h3, hv, run_fieldAt hF, Result.andThen_ok, Sem.run_pure]
theorem MR.ldBy {ty s : Nat} (hr : (Instr.loadAt ty (ρ s)).run P w = .ok v w) (hs : s < N := by decide) : MR P N (.ld d ty s) ρ w d v w := by
 intro a o hl hf; generalize hop : o.op = op at hf; unfold execOp; cases op <;> simp only [Jf, UA, UB, Nat.beq_eq] at hf
 obtain ⟨⟨h1, h2⟩, h3⟩ := hf
 subst h2
 exact ⟨Jl h1, by simp only [hop, Sem.run_bind, tmpL hl hs h3, hr, Result.andThen_ok, Sem.run_pure]⟩
theorem MR.ld {ty s : Nat} {p : Addr} (hv : ρ s = .pointer (some p)) (hp : Jm P ty = true) (hc : w.cell? p = some v) (hs : s < N := by decide) : MR P N (.ld d ty s) ρ w d v w :=
 MR.ldBy (by rw [hv]; exact QG hp hc) hs
theorem MR.ldRow {ty s b o : Nat} {cs : List Value} (hv : ρ s = .pointer (some ⟨b, o, none⟩)) (hp : QH P ty = true) (hn : Jh P ty cs.length = true) (hc : w.rangeAt b o cs) (hs : s < N := by decide) :
  MR P N (.ld d ty s) ρ w d (.agg cs.toArray) w := MR.ldBy (by rw [hv]; exact J3 hp hn hc) hs
theorem MR.bi {ty : Nat} {op : BinOp} {x y : MX} (hg : ∀ (ox oy : Operand), (eqGuard op ty ox oy (xof ρ x) (xof ρ y)).run P w = .ok () w)
  (hv : (binOp op ty (xof ρ x) (xof ρ y)).run P w = .ok v w) (hx : x.lt N = true := by rfl) (hy : y.lt N = true := by rfl) : MR P N (.bi d op ty x y) ρ w d v w := by
 intro a o hl hf
 generalize hop : o.op = op' at hf
 unfold execOp
 cases op' <;> simp only [Jf, UA, UB, Nat.beq_eq] at hf
 obtain ⟨⟨⟨⟨⟨h1, h2⟩, h3⟩, h4⟩, h5⟩, _⟩ := hf
 have h2' := sameOp_eq h2
 subst h2' h3
 exact ⟨Jl h1, by simp only [hop, MX.evalL hl hx h4, MX.evalL hl hy h5, Sem.run_bind, hg, hv, Result.andThen_ok, Sem.run_pure]⟩
theorem MR.biE {ty : Nat} {op : BinOp} {x y : MX} (h : evB op (xof ρ x) (xof ρ y) = some v) (hx : x.lt N = true := by rfl) (hy : y.lt N = true := by rfl) : MR P N (.bi d op ty x y) ρ w d v w :=
 MR.bi (fun ox oy => (evB_run ty h).2 ox oy) (evB_run ty h).1 hx hy
theorem MR.b2 {op : BinOp} {x y : MX} (h : evB op (xof ρ x) (xof ρ y) = some v) (hx : x.lt N = true := by rfl) (hy : y.lt N = true := by rfl) : MR P N (.b2 d op x y) ρ w d v w := by
 intro a o hl hf
 generalize hop : o.op = op' at hf
 unfold execOp
 cases op' <;> simp only [Jf, UA, UB] at hf
 obtain ⟨⟨⟨h1, h2⟩, h4⟩, h5⟩ := hf
 have h2' := sameOp_eq h2
 subst h2'
 exact ⟨Jl h1, by simp only [hop, MX.evalL hl hx h4, MX.evalL hl hy h5, Sem.run_bind, (evB_run (P := P) (w := w) _ h).1, (evB_run (P := P) (w := w) _ h).2, Result.andThen_ok, Sem.run_pure]⟩
theorem MR.nt {s : Nat} {b : Bool} (hv : ρ s = .bool b) (hs : s < N := by decide) : MR P N (.nt d s) ρ w d (.bool !b) w := by
 intro a o hl hf
 generalize hop : o.op = op' at hf
 unfold execOp
 cases op' <;> try (simp only [Jf, UB] at hf; done)
 rename_i u ty x
 cases u <;> simp only [Jf, UA, UB] at hf
 exact ⟨Jl hf.1, by simp only [hop, Sem.run_bind, tmpL hl hs hf.2, hv, Op.unary]; rfl⟩
theorem MR.cv {src dst s : Nat} (hr : (convert src dst (ρ s)).run P w = .ok v w) (hs : s < N := by decide) : MR P N (.cv d src dst s) ρ w d v w := by
 intro a o hl hf; generalize hop : o.op = op at hf; unfold execOp; cases op <;> simp only [Jf, UA, UB, Nat.beq_eq] at hf
 obtain ⟨⟨⟨h1, h2⟩, h3⟩, h4⟩ := hf
 subst h2 h3
 exact ⟨Jl h1, by simp only [hop, Sem.run_bind, tmpL hl hs h4, hr, Result.andThen_ok, Sem.run_pure]⟩
theorem MR.cvI {src dst s : Nat} {k0 k : IntKind} {n : Int} (hv : ρ s = .int k0 n) (h1 : JC P src k0 = true) (h2 : JC P dst k = true) (hs : s < N := by decide) : MR P N (.cv d src dst s) ρ w d (.int k (k.wrap n)) w :=
 MR.cv (by rw [hv]; exact Qe h1 h2 n) hs
theorem MR.builtin {m : MOp} {b : Builtin} {T : List Nat} {xs : List MX}
  (hm : ∀ o : Oper, Jf m o.dst o.op = true → o.dst = some d ∧ ∃ args ats, o.op = .call { callee := .builtin b, args := args, argTypes := ats } ∧ (T = ats.toList ∨ ∀ T' ty cs, (Go.builtin b T' ty cs (xs.map (xof ρ)).toArray).run P w = .ok (.value v) w') ∧ allX xs args.toList = true)
  (hx : ∀ x ∈ xs, MX.lt N x = true) (hr : ∀ ty cs, (Go.builtin b T.toArray ty cs (xs.map (xof ρ)).toArray).run P w = .ok (.value v) w') : MR P N m ρ w d v w' := by
 intro a o hl hf
 obtain ⟨h1, args, ats, h2, h3, h4⟩ := hm o hf
 refine ⟨h1, ?_⟩
 have hargs : args.map a.eval = (xs.map (xof ρ)).toArray := by
  apply Array.toList_inj.1
  rw [Array.toList_map]
  generalize args.toList = l at h4
  clear h2 hr hm h3
  induction xs generalizing l with
  | nil => cases l <;> simp_all [allX]
  | cons x xs ih =>
   cases l with
   | nil => simp [allX] at h4
   | cons y l =>
    simp only [allX, UA] at h4
    simp only [List.map_cons]
    rw [MX.evalL hl (hx x List.mem_cons_self) h4.1, ih (fun x hx' => hx x (List.mem_cons_of_mem _ hx')) l h4.2]
 unfold execOp
 simp only [h2, resolve, Sem.run_bind, Sem.run_pure, Result.andThen_ok, invoke, hargs]
 rcases h3 with rfl | h3
 ·have hats : ats = ats.toList.toArray := by simp
  rw [hats]
  exact hr _ _
 ·exact h3 _ _ _
theorem MR.ln {ty s e : Nat} {p : Option Addr} {n c : Nat} (ht : Jk P ty e = true) (hv : ρ s = .slice p n c) (hs : s < N := by decide) : MR P N (.ln d ty s) ρ w d (.int .i64 n) w := by
 refine MR.builtin (b := .len) (T := [ty]) (xs := [.t s]) (fun o hf => ?_) (by simp [MX.lt, Nat.blt_eq, hs]) (fun t cs => ?_)
 ·generalize hop : o.op = op at hf
  cases op <;> try (simp only [Jf, UB] at hf; done)
  rename_i c
  obtain ⟨callee, args, ats⟩ := c
  cases callee <;> try (simp only [Jf, UB] at hf; done)
  case builtin b =>
   cases b <;> try (simp only [Jf, UB] at hf; done)
   simp only [Jf, UA] at hf
   obtain ⟨h1, h2⟩ := hf
   generalize hA : args.toList = A at h2
   generalize hB : ats.toList = B at h2
   match A, B, h2 with
   | [y], [t'], h2 =>
    simp only [UA, Nat.beq_eq] at h2
    exact ⟨Jl h1, args, ats, rfl, .inl (by rw [hB, h2.2]), by rw [hA, J0 h2.1]; simp [allX, MX.is]⟩
 ·simp [Go.builtin, Builtin.len_, xof, hv, run_underlying (Jq ht), goInt]
theorem MR.ia {T x i e b o len cap : Nat} {k : IntKind} {j : Nat} {sz : Nat} (ht : Jk P T e = true) (hn : Jh P e sz = true)
  (hx : ρ x = .slice (some ⟨b, o, none⟩) len cap) (hi : ρ i = .int k j) (hj : j < len) (hxN : x < N := by decide) (hiN : i < N := by decide) : MR P N (.ia d T x i) ρ w d (.pointer (some ⟨b, o + j * sz, none⟩)) w := by
 intro a o hl hf; generalize hop : o.op = op at hf; unfold execOp; cases op <;> simp only [Jf, UA, UB, Nat.beq_eq] at hf
 obtain ⟨⟨⟨h1, h2⟩, h3⟩, h4⟩ := hf
 subst h2
 refine ⟨Jl h1, ?_⟩
 have hn' := QW hn
 cases hie : P.info? e with
 | none => simp [hie] at hn'
 | some ie =>
  simp only [hie, Option.map_some, UC] at hn'
  simp only [hop, Sem.run_bind, tmpL hl hxN h3, tmpL hl hiN h4, hx, hi, Instr.indexAt]
  simp [asIntOf, run_underlying (Jq ht), sizeOf, typeInfo, hie, hn', Addr.add_mid, hj]
theorem MR.fl {T s f : Nat} (hr : (Instr.field T (ρ s) f).run P w = .ok v w) (hs : s < N := by decide) : MR P N (.fl d T s f) ρ w d v w := by
 intro a o hl hf; generalize hop : o.op = op at hf; unfold execOp; cases op <;> simp only [Jf, UA, UB, Nat.beq_eq] at hf
 obtain ⟨⟨⟨h1, h2⟩, h3⟩, h4⟩ := hf
 subst h2 h4
 exact ⟨Jl h1, by simp only [hop, Sem.run_bind, tmpL hl hs h3, hr, Result.andThen_ok, Sem.run_pure]⟩
theorem MR.pk {c x y : MX} {b : Bool} (hc : xof ρ c = .bool b) (hv : (if b then xof ρ x else xof ρ y) = v := by rfl) (hcN : c.lt N = true := by rfl) (hx : x.lt N = true := by rfl) (hy : y.lt N = true := by rfl) : MR P N (.pk d c x y) ρ w d v w := by
 subst hv
 intro a o hl hf; generalize hop : o.op = op at hf; unfold execOp; cases op <;> simp only [Jf, UA, UB, Nat.beq_eq] at hf
 obtain ⟨⟨⟨h1, h2⟩, h3⟩, h4⟩ := hf
 refine ⟨Jl h1, ?_⟩
 simp only [hop, Sem.run_bind, MX.evalL hl hcN h2, MX.evalL hl hx h3, MX.evalL hl hy h4, hc, asBool]
 cases b <;> rfl
theorem MR.ext {s i : Nat} (hr : (Instr.extract (ρ s) i).run P w = .ok v w) (hs : s < N := by decide) : MR P N (.ext d s i) ρ w d v w := by
 intro a o hl hf; generalize hop : o.op = op at hf; unfold execOp; cases op <;> simp only [Jf, UA, UB, Nat.beq_eq] at hf
 obtain ⟨⟨h1, h2⟩, h3⟩ := hf
 subst h3
 exact ⟨Jl h1, by simp only [hop, Sem.run_bind, tmpL hl hs h2, hr, Result.andThen_ok, Sem.run_pure]⟩
theorem fitOpt_map {a : Act} {x : Option MX} {y : Option Operand} (hl : Loc N N ρ a) (hx : ∀ z, x = some z → z.lt N = true) (h : fitOpt x y = true) : y.map a.eval = x.map (xof ρ) := by
 cases x <;> cases y <;> simp only [fitOpt, UB] at h
 ·rfl
 ·simp [MX.evalL hl (hx _ rfl) h]
theorem MR.sl {T x : Nat} {lo hi mx : Option MX} (hr : (Instr.sliceAt T (ρ x) (lo.map (xof ρ)) (hi.map (xof ρ)) (mx.map (xof ρ))).run P w = .ok v w)
  (h0 : ∀ z, lo = some z → z.lt N = true := by simp [MX.lt]) (h1 : ∀ z, hi = some z → z.lt N = true := by simp [MX.lt]) (h2 : ∀ z, mx = some z → z.lt N = true := by simp [MX.lt]) (hs : x < N := by decide) : MR P N (.sl d T x lo hi mx) ρ w d v w := by
 intro a o hl hf
 generalize hop : o.op = op at hf
 unfold execOp
 cases op <;> simp only [Jf, UA, UB, Nat.beq_eq] at hf
 obtain ⟨⟨⟨⟨⟨g1, g2⟩, g3⟩, g4⟩, g5⟩, g6⟩ := hf
 subst g2
 exact ⟨Jl g1, by simp only [hop, Sem.run_bind, tmpL hl hs g3, fitOpt_map hl h0 g4, fitOpt_map hl h1 g5, fitOpt_map hl h2 g6, hr, Result.andThen_ok, Sem.run_pure]⟩
/-! ### Operations that make or write -/
theorem MR.bx {T s : Nat} (hs : s < N := by decide) : MR P N (.bx d T s) ρ w d (.pointer (some ⟨w.heap.size, 0, none⟩)) (w.alloc (.cells (ρ s).cells T)) := by
 intro a o hl hf; generalize hop : o.op = op at hf; unfold execOp; cases op <;> simp only [Jf, UA, UB, Nat.beq_eq] at hf
 obtain ⟨⟨h1, h2⟩, h3⟩ := hf
 subst h2
 refine ⟨Jl h1, ?_⟩
 simp only [hop, Sem.run_bind, tmpL hl hs h3, Instr.box, newVar, newRow, run_newObj, Result.andThen_ok, Sem.run_pure]
 rfl
theorem MR.al {T : Nat} {z : Value} (hz : ∃ i, P.info? T = some i ∧ i.zero = some z) : MR P N (.al d T) ρ w d (.pointer (some ⟨w.heap.size, 0, none⟩)) (w.alloc (.cells z.cells T)) := by
 intro a o hl hf; generalize hop : o.op = op at hf; unfold execOp; cases op <;> simp only [Jf, UA, UB, Nat.beq_eq] at hf
 obtain ⟨i, hi, hz⟩ := hz
 obtain ⟨h1, h2⟩ := hf
 subst h2
 refine ⟨Jl h1, ?_⟩
 simp only [hop, Sem.run_bind, Instr.alloc, zeroValue, typeInfo, run_program, Result.andThen_ok, hi, Sem.run_pure, hz, newVar, newRow, run_newObj]
 rfl
theorem fitPairs_map {a : Act} : ∀ {ps : List (Nat × MX)} {qs : List (Nat × Operand)}, Loc N N ρ a → (∀ p ∈ ps, p.2.lt N = true) → fitPairs ps qs = true → qs.map (fun p => (p.1, a.eval p.2)) = ps.map (fun p => (p.1, xof ρ p.2))
 | [], [], _, _, _ => rfl
 | [], _ :: _, _, _, h => by simp [fitPairs] at h
 | _ :: _, [], _, _, h => by simp [fitPairs] at h
 | (i, x) :: ps, (j, y) :: qs, hl, hx, h => by
  simp only [fitPairs, UA, Nat.beq_eq] at h
  obtain ⟨⟨rfl, h2⟩, h3⟩ := h
  simp only [List.map_cons]
  rw [MX.evalL hl (hx _ List.mem_cons_self) h2, fitPairs_map hl (fun p hp => hx p (List.mem_cons_of_mem _ hp)) h3]
theorem MR.bdl {T : Nat} {ps : List (Nat × MX)} (hr : (Instr.build T (ps.map fun p => (p.1, xof ρ p.2)).toArray).run P w = .ok v w') (hx : ∀ p ∈ ps, p.2.lt N = true := by simp [MX.lt, Nat.blt_eq]) : MR P N (.bdl d T ps) ρ w d v w' := by
 intro a o hl hf; generalize hop : o.op = op at hf; unfold execOp; cases op <;> simp only [Jf, UA, UB, Nat.beq_eq] at hf
 rename_i T' qs
 obtain ⟨⟨h1, h2⟩, h3⟩ := hf
 subst h2
 refine ⟨Jl h1, ?_⟩
 have : (qs.map fun (x : Nat × Operand) => match x with | (i, x) => (i, a.eval x)) = (ps.map fun p => (p.1, xof ρ p.2)).toArray := by
  apply Array.toList_inj.1
  rw [Array.toList_map]
  exact fitPairs_map hl hx h3
 simp only [hop, Sem.run_bind, this, hr, Result.andThen_ok, Sem.run_pure]
theorem fitParts_map {a : Act} : ∀ {i : Nat} {xs : List MX} {ps : List (Nat × Operand)}, Loc N N ρ a → (∀ x ∈ xs, MX.lt N x = true) → QT i xs ps = true → ps.map (fun (p : Nat × Operand) => (p.1, a.eval p.2)) = (List.range' i xs.length).zip (xs.map (xof ρ))
 | i, [], [], _, _, _ => rfl
 | i, [], _ :: _, _, _, h => by simp [QT] at h
 | i, _ :: _, [], _, _, h => by simp [QT] at h
 | i, x :: xs, (j, o) :: ps, hl, hx, h => by
  simp only [QT, UA, Nat.beq_eq] at h
  obtain ⟨⟨rfl, h2⟩, h3⟩ := h
  simp only [List.map_cons, List.length_cons, List.range'_succ, List.zip_cons_cons]
  rw [MX.evalL hl (hx _ List.mem_cons_self) h2, fitParts_map hl (fun p hp => hx p (List.mem_cons_of_mem _ hp)) h3]
theorem MR.bslBy {T : Nat} {xs : List MX} (hr : (Instr.buildSlice T xs.length ((List.range' 0 xs.length).zip (xs.map (xof ρ))).toArray).run P w = .ok v w') (hx : ∀ x ∈ xs, MX.lt N x = true := by simp [MX.lt, Nat.blt_eq]) : MR P N (.bsl d T xs) ρ w d v w' := by
 intro a o hl hf; generalize hop : o.op = op at hf; unfold execOp; cases op <;> simp only [Jf, UA, UB, Nat.beq_eq] at hf
 rename_i T' n qs
 obtain ⟨⟨⟨h1, h2⟩, h3⟩, h4⟩ := hf
 subst h2 h3
 refine ⟨Jl h1, ?_⟩
 have : (qs.map fun (x : Nat × Operand) => match x with | (i, x) => (i, a.eval x)) = ((List.range' 0 xs.length).zip (xs.map (xof ρ))).toArray := by
  apply Array.toList_inj.1
  rw [Array.toList_map]
  exact fitParts_map hl hx h4
 simp only [hop, Sem.run_bind, this, hr, Result.andThen_ok, Sem.run_pure]
theorem MR.apBy {T U x y : Nat} (hr : (Builtin.append_ #[T, U] 0 #[ρ x, ρ y]).run P w = .ok v w') (hr' : ∀ ty, (Builtin.append_ #[T, U] ty #[ρ x, ρ y]).run P w = .ok v w') (hx : x < N := by decide) (hy : y < N := by decide) : MR P N (.ap d T U x y) ρ w d v w' := by
 refine MR.builtin (b := .append) (T := [T, U]) (xs := [.t x, .t y]) (fun o hf => ?_) (by simp [MX.lt, Nat.blt_eq, hx, hy]) (fun t cs => ?_)
 ·generalize hop : o.op = op at hf
  cases op <;> try (simp only [Jf, UB] at hf; done)
  rename_i c
  obtain ⟨callee, args, ats⟩ := c
  cases callee <;> try (simp only [Jf, UB] at hf; done)
  case builtin b =>
   cases b <;> try (simp only [Jf, UB] at hf; done)
   simp only [Jf, UA] at hf
   obtain ⟨h1, h2⟩ := hf
   generalize hA : args.toList = A at h2
   generalize hB : ats.toList = B at h2
   match A, B, h2 with
   | [x', y'], [t', u'], h2 =>
    simp only [UA, Nat.beq_eq] at h2
    obtain ⟨⟨⟨h3, h4⟩, h5⟩, h6⟩ := h2
    exact ⟨Jl h1, args, ats, rfl, .inl (by rw [hB, h5, h6]), by rw [hA, J0 h3, J0 h4]; simp [allX, MX.is]⟩
 ·simp only [Go.builtin, xof, List.map_cons, List.map_nil]
  rw [Sem.run_bind, hr' t]; rfl
end
end Go.Kx
