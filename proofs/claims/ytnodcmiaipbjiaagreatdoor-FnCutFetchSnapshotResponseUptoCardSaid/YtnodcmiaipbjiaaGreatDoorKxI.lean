/- Functions of two results; kbin.Uvarint, the reader's Uvarint. Conditions: the program's tables (ROK).
   The reader's lists' lengths, texts, Bool, Ok, Complete. Conditions: the program's tables (ROK), numbers that are not 0.
   Tags are read: Tags.Set, internalReadTags. Conditions: the program's tables (ROK, TGR).
   readFrom's code: plain fields, versions' tests, fields in a row. Conditions: the reader's contracts (RKOK), the message's plan (wfRF).
   readFrom's fields: plain ones, lists of plain ones; a field's versions; fields in a row. Conditions: the reader's contracts (RKOK), the plan's tests. -/
import Derived.Test.YtnodcmiaipbjiaaGreatDoorKxH
import Derived.Lib.AppendZeros
namespace Go.Kx
open Go.RowKit
set_option linter.unusedSimpArgs false
set_option linter.unusedVariables false
structure FnIs2 (P : Program) (f : Nat) (m : Jc) (N r1 r2 : Nat) : Prop where
 ex : ∃ fn c, P.funcs[f]? = some fn ∧ fn.body = some c ∧ fits m c = true ∧ fn.ntmps = N ∧ fn.results = #[.tmp r1, .tmp r2]
 ent : Jo P f = true
def isFn2 (P : Program) (f : Nat) (m : Jc) (N r1 r2 : Nat) : Bool :=
 Jo P f && (match P.funcs[f]? with
  | some fn => Nat.beq fn.ntmps N && (match fn.results.toList with | [.tmp s1, .tmp s2] => Nat.beq s1 r1 && Nat.beq s2 r2 | _ => false) && (match fn.body with | some c => fits m c | none => false)
  | none => false)
theorem FnIs2.of {P : Program} {f N r1 r2 : Nat} {m : Jc} (h : isFn2 P f m N r1 r2 = true) : FnIs2 P f m N r1 r2 := by
 simp only [isFn2, UA] at h
 obtain ⟨h1, h2⟩ := h
 refine ⟨?_, h1⟩
 cases hf : P.funcs[f]? with
 | none => simp [hf] at h2
 | some fn =>
  simp only [hf, UA, Nat.beq_eq] at h2
  obtain ⟨⟨g1, g2⟩, g3⟩ := h2
  cases hb : fn.body with
  | none => simp [hb] at g3
  | some c =>
   simp only [hb] at g3
   refine ⟨fn, c, rfl, hb, g3, g1, ?_⟩
   split at g2
   ·rename_i s1 s2 heq
    simp only [UA, Nat.beq_eq] at g2
    obtain ⟨rfl, rfl⟩ := g2
    exact Array.toList_inj.1 heq
   ·simp at g2
def retQ2 (r1 r2 : Nat) (R : Ending → World → Prop) : UE
 | .ret, ρ, w => R (.returned (.tuple #[ρ r1, ρ r2])) w
 | _, _, _ => False
section
variable {P : Program} {N : Nat} {Q : UE} {ρ : Nat → Value} {w w' : World} {ms : List MOp} {R : RN} {rb sb : Nat} {st : Option (List UInt8)}
theorem FnIs2.runs {f r1 r2 : Nat} {m : Jc} (h : FnIs2 P f m N r1 r2) {args : List Value} {R : Ending → World → Prop} (hle : args.length ≤ N) (h1 : r1 < N) (h2 : r2 < N)
  (hw : RW P N m (retQ2 r1 r2 R) (args0 args) w) : Calls P f args.toArray w R := by
 obtain ⟨fn, c, g1, g2, g3, g4, g5⟩ := h.ex
 refine calls_leaf g1 g2 g3 g4 hle fun a hl => (hw a hl).mono fun e a w hu => ?_
 cases e <;> simp only [up, retQ2] at hu
 all_goals first | (obtain ⟨ρ, h1, h2⟩ := hu; exact h2.elim) | skip
 ·obtain ⟨ρ, k1, k2⟩ := hu
  refine bodyPost_ret (v := .tuple #[ρ r1, ρ r2]) ?_ k1.defers k2
  rw [results_tmp2 g5]
  congr 2
  have e1 := k1.get r1 h1
  have e2 := k1.get r2 h2
  simp only [rd] at e1 e2
  rw [e1, e2]
 all_goals exact hu.elim
def uvA (R : RN) : Jc := .sq (.rg [.mv 6 (.t 0), .ln 7 R.T.u8s 6, .bi 8 .lss R.T.int (.t 7) (.c (.int .i64 1))]) (.cd 8 (.gt 0) .sk)
def uvB0 (R : RN) : List MOp := [.mv 9 (.t 0), .iak 10 R.T.u8s 9 0, .ld 11 R.T.u8 10, .bi 12 .and R.T.u8 (.t 11) (.c (.int .u8 127)), .cv 13 R.T.u8 R.T.u32 12, .mv 4 (.t 13)]
def uvB (R : RN) (k t : Nat) : List MOp := [.mv t (.t 4), .mv (t + 1) (.t 0), .iak (t + 2) R.T.u8s (t + 1) k, .ld (t + 3) R.T.u8 (t + 2), .bi (t + 4) .and R.T.u8 (.t (t + 3)) (.c (.int .u8 127)), .cv (t + 5) R.T.u8 R.T.u32 (t + 4), .b2 (t + 6) .shl (.t (t + 5)) (.c (.int .u64 ((7 * k : Nat) : Int))), .bi (t + 7) .or R.T.u32 (.t t) (.t (t + 6)), .mv 4 (.t (t + 7))]
def uvC (R : RN) (k t : Nat) : Jc :=
 .sq (.rg [.mv t (.t 0), .iak (t + 1) R.T.u8s t k, .ld (t + 2) R.T.u8 (t + 1), .bi (t + 3) .and R.T.u8 (.t (t + 2)) (.c (.int .u8 128)), .bi (t + 4) .eql R.T.u8 (.t (t + 3)) (.c (.int .u8 0))])
  (.cd (t + 4) (.sq (.rg [.mv (t + 5) (.t 4), .mv 2 (.t (t + 5)), .mv 3 (.c (.int .i64 ((k + 1 : Nat) : Int)))]) .rt)
   (.sq (.rg [.mv (t + 6) (.t 0), .ln (t + 7) R.T.u8s (t + 6), .bi (t + 8) .lss R.T.int (.t (t + 7)) (.c (.int .i64 ((k + 2 : Nat) : Int)))]) (.cd (t + 8) (.gt 0) .sk)))
def uvB4 (R : RN) : List MOp := [.mv 74 (.t 4), .mv 75 (.t 0), .iak 76 R.T.u8s 75 4, .ld 77 R.T.u8 76, .cv 78 R.T.u8 R.T.u32 77, .b2 79 .shl (.t 78) (.c (.int .u64 28)), .bi 80 .or R.T.u32 (.t 74) (.t 79), .mv 4 (.t 80)]
def uvC4 (R : RN) : Jc := .sq (.rg [.mv 81 (.t 0), .iak 82 R.T.u8s 81 4, .ld 83 R.T.u8 82, .bi 84 .leq R.T.u8 (.t 83) (.c (.int .u8 15))]) (.cd 84 (.sq (.rg [.mv 85 (.t 4), .mv 2 (.t 85), .mv 3 (.c (.int .i64 5))]) .rt) .sk)
def uvEnd : Jc := .sq (.rg [.mv 86 (.t 5), .mv 2 (.c (.int .u32 0)), .mv 3 (.t 86)]) .rt
def cUvd (R : RN) : Jc :=
 .sq (.rg [.mv 2 (.c (.int .u32 0)), .mv 3 (.c (.int .i64 0))]) (.sc (.sq (.rg [.mv 4 (.c (.int .u32 0))]) (.sq (.rg [.mv 5 (.c (.int .i64 0))])
  (.sq (uvA R) (.sq (.rg (uvB0 R)) (.sq (uvC R 0 14) (.sq (.rg (uvB R 1 23)) (.sq (uvC R 1 31) (.sq (.rg (uvB R 2 40)) (.sq (uvC R 2 48) (.sq (.rg (uvB R 3 57)) (.sq (uvC R 3 65)
   (.sq (.rg (uvB4 R)) (.sq (uvC4 R) (.sq (.rg [.mv 5 (.c (.int .i64 (-5)))]) (.sq (.lb 0) uvEnd))))))))))))))))
def UI (l : List UInt8) (k acc : Nat) : Prop := acc < 128 ^ k ∧ dUv l = match dUvb (4 - k) (l.drop k) with | some (n, r) => some (acc + 128 ^ k * n, r) | none => none
theorem UI.zero (l : List UInt8) : UI l 0 0 := by
 refine ⟨by simp, ?_⟩
 show dUvb 4 l = match dUvb 4 l with | some (n, r) => some (0 + 128 ^ 0 * n, r) | none => none
 cases dUvb 4 l with
 | none => rfl
 | some p => simp
theorem UI.short {l : List UInt8} {k acc : Nat} (h : UI l k acc) (hl : l.length ≤ k) : dUv l = none := by
 have := h.2
 rw [List.drop_eq_nil_of_le hl] at this
 rw [this]
 cases 4 - k <;> simp [dUvb]
theorem UI.last {l : List UInt8} {k acc : Nat} {b : UInt8} (h : UI l k acc) (hk : k < 4) (hb : l[k]? = some b) (h1 : b.toNat < 128) : dUv l = some (acc + 128 ^ k * (b.toNat % 128), l.drop (k + 1)) := by
 obtain ⟨hlt, e⟩ := List.getElem?_eq_some_iff.1 hb
 have := h.2
 rw [List.drop_eq_getElem_cons hlt, e, show 4 - k = (3 - k) + 1 from by omega] at this
 simp only [dUvb, if_pos h1] at this
 rw [this, Nat.mod_eq_of_lt h1]
theorem UI.next {l : List UInt8} {k acc : Nat} {b : UInt8} (h : UI l k acc) (hk : k < 4) (hb : l[k]? = some b) (h1 : ¬ b.toNat < 128) : UI l (k + 1) (acc + 128 ^ k * (b.toNat % 128)) := by
 obtain ⟨hlt, e⟩ := List.getElem?_eq_some_iff.1 hb
 have := h.2
 rw [List.drop_eq_getElem_cons hlt, e, show 4 - k = (3 - k) + 1 from by omega] at this
 simp only [dUvb, if_neg h1] at this
 refine ⟨?_, ?_⟩
 ·have h2 := h.1
  have h3 : b.toNat % 128 < 128 := Nat.mod_lt _ (by omega)
  have h4 : 128 ^ k * (b.toNat % 128) ≤ 128 ^ k * 127 := Nat.mul_le_mul_left _ (by omega)
  rw [Nat.pow_succ]; omega
 ·rw [this, show 4 - (k + 1) = 3 - k from by omega]
  cases dUvb (3 - k) (l.drop (k + 1)) with
  | none => rfl
  | some p =>
   obtain ⟨n, r⟩ := p
   simp only [UC, Prod.mk.injEq, and_true]
   rw [Nat.mul_add, Nat.pow_succ, Nat.mul_assoc]; omega
theorem UI.five {l : List UInt8} {acc : Nat} {b : UInt8} (h : UI l 4 acc) (hb : l[4]? = some b) : dUv l = if b.toNat ≤ 15 then some (acc + 128 ^ 4 * b.toNat, l.drop 5) else none := by
 obtain ⟨hlt, e⟩ := List.getElem?_eq_some_iff.1 hb
 have := h.2
 rw [List.drop_eq_getElem_cons hlt, e] at this
 rw [this]
 show (match (if b.toNat ≤ 15 then some (b.toNat, l.drop (4 + 1)) else none) with | some (n, r) => some (acc + 128 ^ 4 * n, r) | none => none) = _
 by_cases h15 : b.toNat ≤ 15
 ·rw [if_pos h15, if_pos h15]
 ·rw [if_neg h15, if_neg h15]
theorem andB127 (n : Nat) (h : n < 256) : IntKind.u8.wrap ((BitVec.ofInt IntKind.u8.bits (n : Int) &&& BitVec.ofInt IntKind.u8.bits 127).toNat : Int) = ((n % 128 : Nat) : Int) := by
 have : ∀ i : Fin 256, IntKind.u8.wrap ((BitVec.ofInt IntKind.u8.bits ((i.val : Nat) : Int) &&& BitVec.ofInt IntKind.u8.bits 127).toNat : Int) = ((i.val % 128 : Nat) : Int) := by decide +kernel
 exact this ⟨n, h⟩
theorem andB128 (n : Nat) (h : n < 256) : (IntKind.u8.wrap ((BitVec.ofInt IntKind.u8.bits (n : Int) &&& BitVec.ofInt IntKind.u8.bits 128).toNat : Int) == 0) = decide (n < 128) := by
 have : ∀ i : Fin 256, (IntKind.u8.wrap ((BitVec.ofInt IntKind.u8.bits ((i.val : Nat) : Int) &&& BitVec.ofInt IntKind.u8.bits 128).toNat : Int) == 0) = decide (i.val < 128) := by decide +kernel
 exact this ⟨n, h⟩
theorem byte_at {F : Nat → Prop} {ad : Option Addr} {l : List UInt8} {k : Nat} {b : UInt8} (h : Jg w F ad l) (hb : l[k]? = some b) : ∃ g o, ad = some ⟨g, o, none⟩ ∧ w.cell? ⟨g, o + k * 1, none⟩ = some (.int .u8 (b.toNat : Nat)) ∧ k < l.length := by
 obtain ⟨g, o, e, _, hc⟩ := h k b hb
 exact ⟨g, o, e, by rw [Nat.mul_one]; exact hc, (List.getElem?_eq_some_iff.1 hb).1⟩
theorem uvB_ok {F : Nat → Prop} {ad : Option Addr} {l : List UInt8} {c k t acc : Nat} {b : UInt8} (ok : ROK P R) (hu32 : JC P R.T.u32 .u32 = true) (hb : Jg w F ad l) (h0 : ρ 0 = .slice ad l.length c) (hbk : l[k]? = some b) (h4 : ρ 4 = .int .u32 (acc : Nat)) (hacc : acc < 128 ^ k) (hk : k < 4) (ht : 5 < t) (hN : t + 8 ≤ N)
  (hQ : ∀ ρ', ρ' 0 = ρ 0 → ρ' 5 = ρ 5 → ρ' 4 = .int .u32 ((acc + 128 ^ k * (b.toNat % 128) : Nat) : Int) → Q .normal ρ' w) : RL P N (uvB R k t) Q ρ w := by
 obtain ⟨g, o, rfl, hc, hlt⟩ := byte_at hb hbk
 have hy : b.toNat < 256 := b.toNat_lt
 have hp : (128 : Nat) ^ k = 2 ^ (7 * k) := by rw [Nat.pow_mul]
 have hm : b.toNat % 128 < 128 := Nat.mod_lt _ (by omega)
 have hP : 128 ^ k * (b.toNat % 128) + 128 ^ k ≤ 128 ^ (k + 1) := by
  rw [Nat.pow_succ, ← Nat.mul_succ]
  exact Nat.mul_le_mul_left _ (by omega)
 have hP2 : (128 : Nat) ^ (k + 1) ≤ 128 ^ 4 := Nat.pow_le_pow_right (by omega) (by omega)
 have hpow : (128 : Nat) ^ 4 = 268435456 := by decide
 unfold uvB
 refine RL.s (MR.mv h4 (ltT (by omega))) (RL.s (MR.mv (v := .slice (some ⟨g, o, none⟩) l.length c) (by show upd _ _ _ 0 = _; rw [Jb _ _ (by omega)]; exact h0) (ltT (by omega))) (RL.s (MR.iak (sz := 1) ok.tk.u8s ok.cu (Ja _ _ _) hlt (by omega)) (RL.s (MR.ld (Ja _ _ _) ok.pu hc (by omega))
  (RL.s (MR.biE (v := .int .u8 ((b.toNat % 128 : Nat) : Int)) (by show evB .and (upd _ _ _ _) (.int .u8 127) = _; rw [Ja]; simp only [evB, if_true]; rw [andB127 _ hy]) (ltT (by omega)) rfl)
  (RL.s (MR.cvI (Ja _ _ _) ok.tk.u8i hu32 (by omega)) (RL.s (MR.b2 (v := .int .u32 ((128 ^ k * (b.toNat % 128) : Nat) : Int)) ?_ (ltT (by omega)) rfl) (RL.s (MR.biE (v := .int .u32 ((acc + 128 ^ k * (b.toNat % 128) : Nat) : Int)) ?_ (ltT (by omega)) (ltT (by omega))) (RL.s (MR.mv (Ja _ _ _) (ltT (by omega))) (RL.nil ?_) (by omega)) (by omega)) (by omega)) (by omega)) (by omega)) (by omega)) (by omega)) (by omega)) (by omega)
 ·show evB .shl (upd _ _ _ _) (.int .u64 _) = _
  rw [Ja]
  simp only [evB]
  rw [if_pos (by omega), QA (by omega), show (((7 * k : Nat) : Int)).toNat = 7 * k from by omega, Nat.min_eq_left (by show 7 * k ≤ 32; omega)]
  have e1 : (((b.toNat % 128 : Nat) : Int) * 2 ^ (7 * k)) = ((128 ^ k * (b.toNat % 128) : Nat) : Int) := by
   rw [hp, Nat.mul_comm (2 ^ (7 * k))]; push_cast; rfl
  rw [e1, QA (by omega)]
 ·show evB .or (upd _ _ _ t) (upd _ _ _ (t + 6)) = _
  rw [Ja, Jb _ _ (by omega), Jb _ _ (by omega), Jb _ _ (by omega), Jb _ _ (by omega), Jb _ _ (by omega), Jb _ _ (by omega), Ja]
  simp only [evB, if_true]
  rw [or_u32 (by omega) (by omega), hp, Nat.mul_comm (2 ^ (7 * k)), or_add (by rw [← hp]; exact hacc)]
 ·refine hQ _ ?_ ?_ (Ja _ _ _)
  ·rw [Jb _ _ (by omega), Jb _ _ (by omega), Jb _ _ (by omega), Jb _ _ (by omega), Jb _ _ (by omega), Jb _ _ (by omega), Jb _ _ (by omega), Jb _ _ (by omega), Jb _ _ (by omega)]
  ·rw [Jb _ _ (by omega), Jb _ _ (by omega), Jb _ _ (by omega), Jb _ _ (by omega), Jb _ _ (by omega), Jb _ _ (by omega), Jb _ _ (by omega), Jb _ _ (by omega), Jb _ _ (by omega)]
structure UQ (l : List UInt8) (w : World) (Q : UE) : Prop where
 ret : ∀ ρ' x k, 0 < k → ρ' 2 = .int .u32 (x : Nat) → ρ' 3 = .int .i64 (k : Nat) → dUv l = some (x, l.drop k) → k ≤ l.length → Q .ret ρ' w
 out : ∀ ρ', ρ' 5 = .int .i64 0 → dUv l = none → Q (.goto 0) ρ' w
theorem uvC_ok {F : Nat → Prop} {ad : Option Addr} {l : List UInt8} {c k t acc : Nat} {b : UInt8} (ok : ROK P R) (hb : Jg w F ad l) (h0 : ρ 0 = .slice ad l.length c) (h5 : ρ 5 = .int .i64 0) (hbk : l[k]? = some b) (h4 : ρ 4 = .int .u32 ((acc + 128 ^ k * (b.toNat % 128) : Nat) : Int)) (hI : UI l k acc) (hk : k < 4) (ht : 5 < t) (hN : t + 9 ≤ N) (hU : UQ l w Q)
  (hQ : ∀ ρ', ρ' 0 = ρ 0 → ρ' 5 = ρ 5 → ρ' 4 = ρ 4 → UI l (k + 1) (acc + 128 ^ k * (b.toNat % 128)) → k + 1 < l.length → Q .normal ρ' w) : RW P N (uvC R k t) Q ρ w := by
 obtain ⟨g, o, rfl, hc, hlt⟩ := byte_at hb hbk
 have hy : b.toNat < 256 := b.toNat_lt
 unfold uvC
 refine RW.sq (RW.rg (RL.s (MR.mv h0 (ltT (by omega))) (RL.s (MR.iak (sz := 1) ok.tk.u8s ok.cu (Ja _ _ _) hlt (by omega)) (RL.s (MR.ld (Ja _ _ _) ok.pu hc (by omega))
  (RL.s (MR.biE (v := .int .u8 (IntKind.u8.wrap ((BitVec.ofInt IntKind.u8.bits (b.toNat : Int) &&& BitVec.ofInt IntKind.u8.bits 128).toNat : Int))) (by show evB .and (upd _ _ _ _) (.int .u8 128) = _; rw [Ja]; rfl) (ltT (by omega)) rfl)
  (RL.s (MR.biE (v := .bool (decide (b.toNat < 128))) (by show evB .eql (upd _ _ _ _) (.int .u8 0) = _; rw [Ja]; simp only [evB, if_true]; rw [andB128 _ hy]) (ltT (by omega)) rfl) (RL.nil ?_) (by omega)) (by omega)) (by omega)) (by omega)) (by omega)))
 refine RW.cd (Ja _ _ _) (fun e => ?_) (fun e => ?_) (by omega)
 ·have e := of_decide_eq_true e
  refine RW.sq (RW.rg (RL.s (MR.mv (v := .int .u32 ((acc + 128 ^ k * (b.toNat % 128) : Nat) : Int)) ?_ (ltT (by omega))) (RL.s (MR.mv (Ja _ _ _) (ltT (by omega))) (RL.s MR.mv (RL.nil (RW.rt ?_)) (by omega)) (by omega)) (by omega)))
  ·show upd _ _ _ 4 = _
   rw [Jb _ _ (by omega), Jb _ _ (by omega), Jb _ _ (by omega), Jb _ _ (by omega), Jb _ _ (by omega)]; exact h4
  ·exact hU.ret _ _ (k + 1) (by omega) (by rw [Jb _ _ (by omega), Ja]) (Ja _ _ _) (hI.last hk hbk e) (by omega)
 ·have e := of_decide_eq_false e
  have hI' := hI.next hk hbk e
  refine RW.sq (RW.rg (RL.s (MR.mv (v := .slice (some ⟨g, o, none⟩) l.length c) ?_ (ltT (by omega))) (RL.s (MR.ln ok.tk.u8s (Ja _ _ _) (by omega)) (RL.s (MR.biE (v := .bool (decide ((l.length : Int) < ((k + 2 : Nat) : Int)))) (by show evB .lss (upd _ _ _ _) (.int .i64 _) = _; rw [Ja]; rfl) (ltT (by omega)) rfl) (RL.nil ?_) (by omega)) (by omega)) (by omega)))
  ·show upd _ _ _ 0 = _
   rw [Jb _ _ (by omega), Jb _ _ (by omega), Jb _ _ (by omega), Jb _ _ (by omega), Jb _ _ (by omega)]; exact h0
  ·have keep : ∀ s, s < t → ∀ v1 v2 v3 v4 v5 v6 v7 v8, upd (upd (upd (upd (upd (upd (upd (upd ρ t v1) (t + 1) v2) (t + 2) v3) (t + 3) v4) (t + 4) v5) (t + 6) v6) (t + 7) v7) (t + 8) v8 s = ρ s := by
    intro s hs v1 v2 v3 v4 v5 v6 v7 v8
    rw [Jb _ _ (by omega), Jb _ _ (by omega), Jb _ _ (by omega), Jb _ _ (by omega), Jb _ _ (by omega), Jb _ _ (by omega), Jb _ _ (by omega), Jb _ _ (by omega)]
   refine RW.cd (Ja _ _ _) (fun e2 => RW.gt ?_) (fun e2 => RW.sk ?_) (by omega)
   ·have e2 := of_decide_eq_true e2
    exact hU.out _ (by rw [keep 5 (by omega)]; exact h5) (hI'.short (by omega))
   ·have e2 := of_decide_eq_false e2
    exact hQ _ (keep 0 (by omega) _ _ _ _ _ _ _ _) (keep 5 (by omega) _ _ _ _ _ _ _ _) (keep 4 (by omega) _ _ _ _ _ _ _ _) hI' (by omega)
def UvdC (P : Program) (f : Nat) : Prop := Jo P f = true ∧ ∀ (w : World) (F : Nat → Prop) (ad : Option Addr) (l : List UInt8) (c : Nat), Jg w F ad l →
 Calls P f #[.slice ad l.length c] w (fun e w' => w' = w ∧ ((∃ (x k : Nat), e = .returned (.tuple #[.int .u32 (x : Nat), .int .i64 (k : Nat)]) ∧ 0 < k ∧ k ≤ l.length ∧ dUv l = some (x, l.drop k)) ∨ (∃ n : Int, e = .returned (.tuple #[.int .u32 0, .int .i64 n]) ∧ n ≤ 0 ∧ dUv l = none)))
theorem uvd_ok {f : Nat} (ok : ROK P R) (h32 : R.T.u32 ≠ 0) (hf : FnIs2 P f (cUvd R) 87 2 3) : UvdC P f := by
 refine ⟨hf.ent, fun w F ad l c hb => ?_⟩
 have hu32 := ok.tk.u32 h32
 refine hf.runs (args := [.slice ad l.length c]) (by simp) (by omega) (by omega) ?_
 refine RW.sq (RW.rg (RL.s MR.mv (RL.s MR.mv (RL.nil ?_))))
 refine RW.sc (l := 0) (r := .sq .sk uvEnd) (fun ρ' w' => w' = w ∧ ∃ n : Int, ρ' 5 = .int .i64 n ∧ n ≤ 0 ∧ dUv l = none) rfl ?_ ?_
 ·refine RW.sq (RW.rg (RL.s MR.mv (RL.nil (RW.sq (RW.rg (RL.s MR.mv (RL.nil ?_)))))))
  have hU : ∀ {K : (Nat → Value) → World → Prop}, UQ l w (QP K (jumpR 0 (fun ρ' w' => w' = w ∧ ∃ n : Int, ρ' 5 = .int .i64 n ∧ n ≤ 0 ∧ dUv l = none) (retQ2 2 3 (fun e w' => w' = w ∧ ((∃ (x k : Nat), e = .returned (.tuple #[.int .u32 (x : Nat), .int .i64 (k : Nat)]) ∧ 0 < k ∧ k ≤ l.length ∧ dUv l = some (x, l.drop k)) ∨ (∃ n : Int, e = .returned (.tuple #[.int .u32 0, .int .i64 n]) ∧ n ≤ 0 ∧ dUv l = none)))))) := by
   intro K
   refine ⟨fun ρ' x k h1 h2 h3 h4 h5 => ?_, fun ρ' h1 h2 => ?_⟩
   ·exact ⟨rfl, .inl ⟨x, k, by rw [← h2, ← h3], h1, h5, h4⟩⟩
   ·exact ⟨rfl, rfl, 0, h1, Int.le_refl _, h2⟩
  have get : ∀ k, k < l.length → ∃ b, l[k]? = some b := fun k hk => ⟨_, List.getElem?_eq_getElem hk⟩
  unfold uvA
  refine RW.sq (RW.sq (RW.rg (RL.s (MR.mv (v := .slice ad l.length c) rfl) (RL.s (MR.ln ok.tk.u8s rfl) (RL.s (MR.biE (v := .bool (decide ((l.length : Int) < 1))) rfl) (RL.nil ?_))))))
  refine RW.cd rfl (fun e => RW.gt ?_) (fun e => RW.sk ?_)
  ·have e := of_decide_eq_true e
   exact hU.out _ rfl ((UI.zero l).short (by omega))
  have e := of_decide_eq_false e
  obtain ⟨b0, hb0⟩ := get 0 (by omega)
  have hy : b0.toNat < 256 := b0.toNat_lt
  obtain ⟨g, o, had, hc, hlt⟩ := byte_at hb hb0
  subst had
  unfold uvB0
  refine RW.sq (RW.rg (RL.s (MR.mv (v := .slice (some ⟨g, o, none⟩) l.length c) rfl) (RL.s (MR.iak (sz := 1) ok.tk.u8s ok.cu rfl hlt) (RL.s (MR.ld rfl ok.pu hc) (RL.s (MR.biE (v := .int .u8 ((b0.toNat % 128 : Nat) : Int)) (by show evB .and (.int .u8 (b0.toNat : Nat)) (.int .u8 127) = _; simp only [evB, if_true]; rw [andB127 _ hy])) (RL.s (MR.cvI rfl ok.tk.u8i hu32) (RL.s MR.mv (RL.nil ?_))))))))
  refine RW.sq (uvC_ok (c := c) (acc := 0) (k := 0) ok hb rfl rfl hb0 ?_ (UI.zero l) (by omega) (by omega) (by omega) hU fun ρ1 q0 q5 q4 hI1 hl1 => ?_)
  ·show Value.int .u32 (IntKind.u32.wrap ((b0.toNat % 128 : Nat) : Int)) = _
   rw [QA (by omega)]; simp
  have p4 : ρ1 4 = .int .u32 ((0 + 128 ^ 0 * (b0.toNat % 128) : Nat) : Int) := by
   rw [q4]
   show Value.int .u32 (IntKind.u32.wrap ((b0.toNat % 128 : Nat) : Int)) = _
   rw [QA (by omega)]; simp
  obtain ⟨b1, hb1⟩ := get 1 hl1
  refine RW.sq (RW.rg (uvB_ok (c := c) ok hu32 hb (by rw [q0]; rfl) hb1 p4 hI1.1 (by omega) (by omega) (by omega) fun ρ2 r0 r5 r4 => ?_))
  refine RW.sq (uvC_ok (c := c) ok hb (by rw [r0, q0]; rfl) (by rw [r5, q5]; rfl) hb1 r4 hI1 (by omega) (by omega) (by omega) hU fun ρ3 s0 s5 s4 hI2 hl2 => ?_)
  obtain ⟨b2, hb2⟩ := get 2 hl2
  refine RW.sq (RW.rg (uvB_ok (c := c) ok hu32 hb (by rw [s0, r0, q0]; rfl) hb2 (by rw [s4, r4]) hI2.1 (by omega) (by omega) (by omega) fun ρ4 t0 t5 t4 => ?_))
  refine RW.sq (uvC_ok (c := c) ok hb (by rw [t0, s0, r0, q0]; rfl) (by rw [t5, s5, r5, q5]; rfl) hb2 t4 hI2 (by omega) (by omega) (by omega) hU fun ρ5 u0 u5 u4 hI3 hl3 => ?_)
  obtain ⟨b3, hb3⟩ := get 3 hl3
  refine RW.sq (RW.rg (uvB_ok (c := c) ok hu32 hb (by rw [u0, t0, s0, r0, q0]; rfl) hb3 (by rw [u4, t4]) hI3.1 (by omega) (by omega) (by omega) fun ρ6 v0 v5 v4 => ?_))
  refine RW.sq (uvC_ok (c := c) ok hb (by rw [v0, u0, t0, s0, r0, q0]; rfl) (by rw [v5, u5, t5, s5, r5, q5]; rfl) hb3 v4 hI3 (by omega) (by omega) (by omega) hU fun ρ7 x0 x5 x4 hI4 hl4 => ?_)
  obtain ⟨b4, hb4⟩ := get 4 hl4
  have hy4 : b4.toNat < 256 := b4.toNat_lt
  obtain ⟨g', o', had', hc4, hlt4⟩ := byte_at hb hb4
  cases had'
  have z0 : ρ7 0 = .slice (some ⟨g, o, none⟩) l.length c := by rw [x0, v0, u0, t0, s0, r0, q0]; rfl
  generalize hacc : 0 + 128 ^ 0 * (b0.toNat % 128) + 128 ^ (0 + 1) * (b1.toNat % 128) + 128 ^ (0 + 1 + 1) * (b2.toNat % 128) + 128 ^ (0 + 1 + 1 + 1) * (b3.toNat % 128) = acc at *
  have z4 : ρ7 4 = .int .u32 (acc : Nat) := by rw [x4, v4]
  have ha : acc < 268435456 := hI4.1
  have hfive := UI.five (acc := acc) hI4 hb4
  have hor : b4.toNat ≤ 15 → evB .or (.int .u32 (acc : Nat)) (.int .u32 (IntKind.u32.wrap ((IntKind.u32.wrap ((b4.toNat : Nat) : Int)) * 2 ^ 28))) = some (.int .u32 ((acc + 128 ^ 4 * b4.toNat : Nat) : Int)) := by
   intro h15
   have e1 : IntKind.u32.wrap ((IntKind.u32.wrap ((b4.toNat : Nat) : Int)) * 2 ^ 28) = ((b4.toNat * 2 ^ 28 : Nat) : Int) := by
    rw [QA (by omega), show ((b4.toNat : Int) * 2 ^ 28) = ((b4.toNat * 2 ^ 28 : Nat) : Int) from by rw [Int.natCast_mul, Int.natCast_pow]; rfl, QA (by omega)]
   rw [e1]
   simp only [evB, if_true]
   rw [or_u32 (by omega) (by omega), or_add (by omega)]
   simp; omega
  unfold uvB4
  refine RW.sq (RW.rg (RL.s (MR.mv z4) (RL.s (MR.mv (v := .slice (some ⟨g, o, none⟩) l.length c) z0) (RL.s (MR.iak (sz := 1) ok.tk.u8s ok.cu rfl hlt4) (RL.s (MR.ld rfl ok.pu hc4) (RL.s (MR.cvI rfl ok.tk.u8i hu32)
   (RL.s (MR.b2 (v := .int .u32 (IntKind.u32.wrap ((IntKind.u32.wrap ((b4.toNat : Nat) : Int)) * 2 ^ 28))) rfl) (RL.s (MR.biE (op := .or) (x := .t 74) (y := .t 79) rfl) (RL.s MR.mv (RL.nil ?_))))))))))
  unfold uvC4
  refine RW.sq (RW.sq (RW.rg (RL.s (MR.mv (v := .slice (some ⟨g, o, none⟩) l.length c) z0) (RL.s (MR.iak (sz := 1) ok.tk.u8s ok.cu rfl hlt4) (RL.s (MR.ld rfl ok.pu hc4) (RL.s (MR.biE (v := .bool (decide ((b4.toNat : Int) ≤ 15))) rfl) (RL.nil ?_)))))))
  refine RW.cd rfl (fun e5 => ?_) (fun e5 => RW.sk ?_)
  ·have e5 : b4.toNat ≤ 15 := by have := of_decide_eq_true e5; omega
   rw [if_pos e5] at hfive
   refine RW.sq (RW.rg (RL.s MR.mv (RL.s MR.mv (RL.s MR.mv (RL.nil (RW.rt ?_))))))
   have := hor e5
   simp only [evB, if_true, UC] at this
   refine ⟨rfl, .inl ⟨acc + 128 ^ 4 * b4.toNat, 5, ?_, by omega, by omega, hfive⟩⟩
   rw [← this]; rfl
  ·have e5 : ¬ b4.toNat ≤ 15 := by have := of_decide_eq_false e5; omega
   rw [if_neg e5] at hfive
   refine RW.sq (RW.rg (RL.s MR.mv (RL.nil (RW.sq (RW.lb ?_)))))
   unfold uvEnd
   refine RW.sq (RW.rg (RL.s MR.mv (RL.s MR.mv (RL.s MR.mv (RL.nil (RW.rt ?_))))))
   exact ⟨rfl, .inr ⟨-5, rfl, by omega, hfive⟩⟩
 ·rintro ρ' w' ⟨rfl, n, h5, hn, hd⟩
  refine RW.sq (RW.sk ?_)
  unfold uvEnd
  refine RW.sq (RW.rg (RL.s (MR.mv h5) (RL.s MR.mv (RL.s (MR.mv (v := .int .i64 n) rfl) (RL.nil (RW.rt ?_))))))
  exact ⟨rfl, .inr ⟨n, rfl, hn, hd⟩⟩
/-! ### The reader's Uvarint -/
def cRUv (R : RN) : Jc :=
 .sq (.rg [.mv 2 (.c (.int .u32 0))]) (.sq (.rg [.mv 6 (.t 0), .nc 7 6, .fa 8 R.tR 7 0, .ld 9 R.T.u8s 8, .ca 10 R.uvd [.t 9], .mv 5 (.t 10), .ext 11 5 0, .ext 12 5 1, .mv 3 (.t 11), .mv 4 (.t 12)])
  (.sq (.sq (.rg [.mv 13 (.t 4), .bi 14 .leq R.T.int (.t 13) (.c (.int .i64 0))]) (.cd 14 (failM R (.int .u32 0) 2 15) .sk))
  (.sq (.rg (nextV R 4 21)) (.sq (.rg [.mv 30 (.t 3), .mv 2 (.t 30)]) .rt))))
theorem ruv_okS {f : Nat} (ok : ROK P R) (hu : UvdC P R.uvd) (hf : FnIs P f (cRUv R) 31 2) : RdCS P f dUv (PlB (fun x => .int .u32 (x : Nat)) (· < 4294967296)) := by
 refine ⟨hf.ent, fun w rb sb st h hne => ?_⟩
 refine hf.runs (args := [.pointer (some ⟨rb, 0, none⟩)]) (by simp) (by omega) ?_
 obtain ⟨ad, c, r1, r2, r3, r4, r5⟩ := h.all
 refine RW.sq (RW.rg (RL.s MR.mv (RL.nil (RW.sq (RW.rg (RL.s (MR.mv (v := .pointer (some ⟨rb, 0, none⟩)) rfl) (RL.s (MR.nc rfl) (RL.s (MR.fa rfl ok.f0) (RL.s (MR.ld rfl ok.ps (r1 0 _ rfl)) ?_)))))))))
 refine RL.ca (R := fun v w' => w' = w ∧ ((∃ (x k : Nat), v = .tuple #[.int .u32 (x : Nat), .int .i64 (k : Nat)] ∧ 0 < k ∧ k ≤ (stL st).length ∧ dUv (stL st) = some (x, (stL st).drop k)) ∨ (∃ n : Int, v = .tuple #[.int .u32 0, .int .i64 n] ∧ n ≤ 0 ∧ dUv (stL st) = none))) hu.1 ?_ ?_
 ·refine Calls.mono (hu.2 w _ ad (stL st) c r5) ?_
  rintro e w' ⟨rfl, ⟨x, k, rfl, h1⟩ | ⟨n, rfl, h1⟩⟩
  ·exact ⟨_, rfl, rfl, .inl ⟨x, k, rfl, h1⟩⟩
  ·exact ⟨_, rfl, rfl, .inr ⟨n, rfl, h1⟩⟩
 rintro v w' ⟨rfl, ⟨x, k, rfl, h1, h2, h3⟩ | ⟨n, rfl, h1, h2⟩⟩
 ·refine RL.s MR.mv (RL.s (MR.ext (v := .int .u32 (x : Nat)) rfl) (RL.s (MR.ext (v := .int .i64 (k : Nat)) rfl) (RL.s MR.mv (RL.s MR.mv (RL.nil ?_)))))
  refine RW.sq (RW.sq (RW.rg (RL.s (MR.mv (v := .int .i64 (k : Nat)) rfl) (RL.s (MR.biE (v := .bool (decide ((k : Int) ≤ 0))) rfl) (RL.nil ?_)))))
  refine RW.cd rfl (fun e => absurd (of_decide_eq_true e) (by omega)) (fun e => RW.sk ?_)
  cases st with
  | none => simp [stL, dUv, dUvb] at h3
  | some l =>
   refine RW.sq (RW.rg (nextV_okS (n := k) ok h hne h2 rfl rfl (by omega) (by omega) (by omega) fun ρ2 w2 k1 k2 k3 k4 => ?_))
   refine RW.sq (RW.rg (RL.s (MR.mv (v := .int .u32 (x : Nat)) (by show ρ2 3 = _; rw [k1 3 (by omega)]; rfl)) (RL.s MR.mv (RL.nil (RW.rt ?_)))))
   exact ⟨_, x, some (l.drop k), rfl, k3, h3, k2, ⟨rfl, (dUv_some h3).1⟩, fun _ => k4 h1⟩
 ·refine RL.s MR.mv (RL.s (MR.ext (v := .int .u32 0) rfl) (RL.s (MR.ext (v := .int .i64 n) rfl) (RL.s MR.mv (RL.s MR.mv (RL.nil ?_)))))
  refine RW.sq (RW.sq (RW.rg (RL.s (MR.mv (v := .int .i64 n) rfl) (RL.s (MR.biE (v := .bool (decide (n ≤ 0))) rfl) (RL.nil ?_)))))
  refine RW.cd rfl (fun e => ?_) (fun e => absurd h1 (of_decide_eq_false e))
  refine fail_ok ok h rfl (by omega) (by omega) (by omega) fun ρ' w' g1 g2 g3 => ?_
  refine ⟨_, 0, none, rfl, g3, Got.failed (fun l hl => by subst hl; exact h2), g2, ⟨?_, by omega⟩, fun e => absurd rfl e⟩
  show ρ' 2 = _
  rw [g1]; rfl
end
set_option linter.unusedVariables false
def VK (k : PK) (v : Value) : Prop := match k with | .uuid => v = .agg v.cells | _ => v.oneCell' = true
def PrC (k : PK) : World → (Nat → Prop) → Value → D → Prop := fun w F v d => VK k v ∧ v.cells.size = k.cells ∧ v.cells.toList.all (·.oneCell') = true ∧ RepP w F k v.cells.toList d
section
variable {P : Program} {N : Nat} {Q : UE} {ρ : Nat → Value} {w w' : World} {ms : List MOp} {R : RN} {rb sb : Nat} {st : Option (List UInt8)}
theorem RdC.map {α β : Type} {f : Nat} {d : Dec α} {C : World → (Nat → Prop) → Value → α → Prop} {C' : World → (Nat → Prop) → Value → β → Prop} {g : α → β} (h : RdC P f d C) (hg : ∀ w F v x, C w F v x → C' w F v (g x)) : RdC P f (d.map g) C' := by
 refine ⟨h.1, fun w rb sb st hr hne => Calls.mono (h.2 w rb sb st hr hne) ?_⟩
 rintro e w' ⟨v, x, st', rfl, h1, h2, h3, h4⟩
 exact ⟨v, g x, st', rfl, h1, h2.map, h3, hg _ _ _ _ h4⟩
theorem RdAt.below (h : RdAt w rb sb st) (hb : Below w.heap.size w w') : RdAt w' rb sb st := by
 have hrb := h.lt
 cases st with
 | none => exact ⟨JV h.1 (hb.block _ hrb), JE h.2 (hb.block _ hrb)⟩
 | some l =>
  obtain ⟨ad, c, g1, g2, g3, g4, g5⟩ := h
  refine ⟨ad, c, JV g1 (hb.block _ hrb), JE g2 (hb.block _ hrb), g3, g4, fun j b hj => ?_⟩
  obtain ⟨g, o, e1, e2, e3⟩ := g5 j b hj
  exact ⟨g, o, e1, e2, hb.kp _ _ e3⟩
/-! ### Lengths of lists -/
def lenT (R : RN) (t : Nat) : Jc :=
 .sq (.rg [.mv t (.t 0), .nc (t + 1) t, .fa (t + 2) R.tR (t + 1) 0, .ld (t + 3) R.T.u8s (t + 2), .ln (t + 4) R.T.u8s (t + 3), .mv (t + 5) (.t 3), .cv (t + 6) R.T.i32 R.T.int (t + 5), .bi (t + 7) .lss R.T.int (.t (t + 4)) (.t (t + 6))])
  (.cd (t + 7) (failM R (.int .i32 0) 2 (t + 8)) .sk)
def lenE (t : Nat) : Jc := .sq (.rg [.mv t (.t 3), .mv 2 (.t t)]) .rt
def cALen (R : RN) : Jc := .sq (.rg [.mv 2 (.c (.int .i32 0))]) (.sq (.rg [.mv 4 (.t 0), .ca 5 R.i32 [.t 4], .mv 3 (.t 5)]) (.sq (lenT R 6) (lenE 20)))
def cCALen (R : RN) : Jc := .sq (.rg [.mv 2 (.c (.int .i32 0))]) (.sq (.rg [.mv 4 (.t 0), .ca 5 R.uv [.t 4], .cv 6 R.T.u32 R.T.i32 5, .bi 7 .sub R.T.i32 (.t 6) (.c (.int .i32 1)), .mv 3 (.t 7)]) (.sq (lenT R 8) (lenE 22)))
def I32 (n : Int) : Prop := -2147483648 ≤ n ∧ n ≤ 2147483647
theorem lenT_ok {t : Nat} {r : Int} (ok : ROK P R) (h32 : JC P R.T.i32 .i32 = true) (h : RdAt w rb sb st) (h0 : ρ 0 = .pointer (some ⟨rb, 0, none⟩)) (h3 : ρ 3 = .int .i32 r) (hr : I32 r) (ht : 3 < t) (hN : t + 14 < N)
  {K : Ending → World → Prop} (hK : ∀ v st' w', I32 v → Got (atMost r) st v st' → RdAt w' rb sb st' → Fr (fun _ => False) rb 0 2 w w' → K (.returned (.int .i32 v)) w') : RW P N (.sq (lenT R t) (lenE (t + 14))) (retQ 2 K) ρ w := by
 obtain ⟨ad, c, r1, r2, r3, r4, r5⟩ := h.all
 have hw : IntKind.i64.wrap r = r := by obtain ⟨a1, a2⟩ := hr; simp [IntKind.wrap, IntKind.signed, IntKind.bits]; omega
 unfold lenT lenE
 refine RW.sq (RW.sq (RW.rg (RL.s (MR.mv h0 (ltT (by omega))) (RL.s (MR.nc (Ja _ _ _) (by omega)) (RL.s (MR.fa (Ja _ _ _) ok.f0 (by omega)) (RL.s (MR.ld (Ja _ _ _) ok.ps (r1 0 _ rfl) (by omega)) (RL.s (MR.ln ok.tk.u8s (Ja _ _ _) (by omega))
  (RL.s (MR.mv (v := .int .i32 r) ?_ (ltT (by omega))) (RL.s (MR.cvI (Ja _ _ _) h32 ok.tk.int (by omega)) (RL.s (MR.biE (v := .bool (decide (((stL st).length : Int) < r))) ?_ (ltT (by omega)) (ltT (by omega))) (RL.nil ?_) (by omega)) (by omega)) (by omega)) (by omega)) (by omega)) (by omega)) (by omega)) (by omega))))
 ·show upd _ _ _ 3 = _
  rw [Jb _ _ (by omega), Jb _ _ (by omega), Jb _ _ (by omega), Jb _ _ (by omega), Jb _ _ (by omega)]; exact h3
 ·show evB .lss (upd _ _ _ (t + 4)) (upd _ _ _ (t + 6)) = _
  rw [Ja, Jb _ _ (by omega), Jb _ _ (by omega), Ja, hw]; rfl
 ·refine RW.cd (Ja _ _ _) (fun e => ?_) (fun e => RW.sk ?_) (by omega)
  ·have e := of_decide_eq_true e
   refine fail_ok ok h (by rw [Jb _ _ (by omega), Jb _ _ (by omega), Jb _ _ (by omega), Jb _ _ (by omega), Jb _ _ (by omega), Jb _ _ (by omega), Jb _ _ (by omega), Jb _ _ (by omega)]; exact h0) (by omega) (by omega) (by omega) fun ρ' w' g1 g2 g3 => ?_
   show K (.returned (ρ' 2)) w'
   rw [g1]
   refine hK 0 none w' ⟨by omega, by omega⟩ (Got.failed fun l hl => ?_) g2 g3
   subst hl
   exact if_pos e
  ·have e := of_decide_eq_false e
   show RW P N _ _ _ _
   refine RW.sq (RW.rg (RL.s (MR.mv (v := .int .i32 r) ?_ (ltT (by omega))) (RL.s (MR.mv (Ja _ _ _) (ltT (by omega))) (RL.nil (RW.rt ?_)) (by omega)) (by omega)))
   ·show upd _ _ _ 3 = _
    rw [Jb _ _ (by omega), Jb _ _ (by omega), Jb _ _ (by omega), Jb _ _ (by omega), Jb _ _ (by omega), Jb _ _ (by omega), Jb _ _ (by omega), Jb _ _ (by omega)]; exact h3
   ·show K (.returned (upd _ 2 _ 2)) w
    rw [Ja]
    refine hK r st w hr ?_ h (Fr.refl _ _ _ _ _)
    cases st with
    | none => rfl
    | some l => exact if_neg e
theorem alen_ok {f : Nat} (ok : ROK P R) (h32 : R.T.i32 ≠ 0) (hi : RdC P R.i32 (dInt 4) (PlB (fun x => .int .i32 x) I32)) (hf : FnIs P f (cALen R) 21 2) : RdC P f (dALen false) (PlB (fun x => .int .i32 x) I32) := by
 refine ⟨hf.ent, fun w rb sb st h hne => ?_⟩
 refine hf.runs (args := [.pointer (some ⟨rb, 0, none⟩)]) (by simp) (by omega) ?_
 refine RW.sq (RW.rg (RL.s MR.mv (RL.nil (RW.sq (RW.rg (RL.s (MR.mv (v := .pointer (some ⟨rb, 0, none⟩)) rfl) (RL.rd hi rfl h hne (by rfl) (by decide) ?_)))))))
 rintro v x st1 w1 hF hG hR ⟨rfl, hx⟩
 refine RL.s MR.mv (RL.nil ?_)
 refine lenT_ok ok (ok.tk.i32 h32) hR rfl rfl hx (by omega) (by omega) fun v st' w' h1 h2 h3 h4 => ?_
 exact ⟨_, v, st', rfl, hF.trans h4, hG.bind h2, h3, rfl, h1⟩
theorem calen_ok {f : Nat} (ok : ROK P R) (h32 : R.T.i32 ≠ 0) (hu32 : R.T.u32 ≠ 0) (hi : RdC P R.uv dUv (PlB (fun x => .int .u32 (x : Nat)) (· < 4294967296))) (hf : FnIs P f (cCALen R) 23 2) : RdC P f (dALen true) (PlB (fun x => .int .i32 x) I32) := by
 refine ⟨hf.ent, fun w rb sb st h hne => ?_⟩
 refine hf.runs (args := [.pointer (some ⟨rb, 0, none⟩)]) (by simp) (by omega) ?_
 refine RW.sq (RW.rg (RL.s MR.mv (RL.nil (RW.sq (RW.rg (RL.s (MR.mv (v := .pointer (some ⟨rb, 0, none⟩)) rfl) (RL.rd hi rfl h hne (by rfl) (by decide) ?_)))))))
 rintro v x st1 w1 hF hG hR ⟨rfl, hx⟩
 refine RL.s (MR.cvI rfl (ok.tk.u32 hu32) (ok.tk.i32 h32)) (RL.s (MR.biE (v := .int .i32 (aLen x)) rfl) (RL.s MR.mv (RL.nil ?_)))
 have hr : I32 (aLen x) := by unfold aLen I32; simp [IntKind.wrap, IntKind.signed, IntKind.bits]; omega
 refine lenT_ok ok (ok.tk.i32 h32) hR rfl rfl hr (by omega) (by omega) fun v st' w' h1 h2 h3 h4 => ?_
 exact ⟨_, v, st', rfl, hF.trans h4, hG.bind h2, h3, rfl, h1⟩
/-! ### Texts -/
theorem conv_str {l : List UInt8} {c : Nat} {ad : Option Addr} {T U V : Nat} {F : Nat → Prop} (hT : Jk P T U = true) (hU : JC P U .u8 = true) (hV : strTy P V = true) (had : okAd ad) (hb : Jg w F ad l) : (convert T V (.slice ad l.length c)).run P w = .ok (.string ⟨l.toArray⟩) w := by
 have hU' : P.underlying U = some (.int .u8) := QR hU
 cases ad with
 | none =>
  have : l = [] := by
   cases l with
   | nil => rfl
   | cons b l => obtain ⟨g, o, e, _⟩ := hb 0 b rfl; cases e
  subst this
  rw [run_convert_bytes_string w T V U none _ c (Jq hT) hU' (strTy_eq hV)]
  simp [Conv.bytesToString]
  rfl
 | some a =>
  obtain ⟨g, o, e⟩ : ∃ g o, a = ⟨g, o, none⟩ := by
   rcases had with h | ⟨g, o, h⟩
   ·cases h
   ·exact ⟨g, o, by simpa using h⟩
  subst e
  refine run_convert_bytes_back w T V U ⟨g, o, none⟩ c l (Jq hT) hU' (strTy_eq hV) fun j hj => ?_
  obtain ⟨g', o', e, _, hc⟩ := hb j l[j] (List.getElem?_eq_getElem hj)
  cases e
  rw [Addr.add_mid]; exact hc
def cStr (R : RN) : Jc := .sq (.rg [.mv 2 (.c .estr)]) (.sq (.rg [.mv 4 (.t 0), .ca 5 R.i16 [.t 4], .mv 3 (.t 5)])
 (.sq (.rg [.mv 6 (.t 0), .mv 7 (.t 3), .cv 8 R.T.i16 R.T.int 7, .ca 9 R.span [.t 6, .t 8], .cv 10 R.T.u8s R.T.str 9, .mv 2 (.t 10)]) .rt))
def cCStr (R : RN) : Jc := .sq (.rg [.mv 2 (.c .estr)]) (.sq (.rg [.mv 4 (.t 0), .ca 5 R.uv [.t 4], .cv 6 R.T.u32 R.T.int 5, .bi 7 .sub R.T.int (.t 6) (.c (.int .i64 1)), .mv 3 (.t 7)])
 (.sq (.rg [.mv 8 (.t 0), .mv 9 (.t 3), .ca 10 R.span [.t 8, .t 9], .cv 11 R.T.u8s R.T.str 10, .mv 2 (.t 11)]) .rt))
def I16 (n : Int) : Prop := -32768 ≤ n ∧ n ≤ 32767
theorem I16.wr {n : Int} (h : I16 n) : IntKind.i64.wrap n = n := by obtain ⟨a1, a2⟩ := h; simp [IntKind.wrap, IntKind.signed, IntKind.bits]; omega
theorem u32_w {n : Nat} (h : n < 4294967296) : IntKind.i64.wrap (IntKind.i64.wrap (n : Int) - 1) = (n : Int) - 1 := by simp [IntKind.wrap, IntKind.signed, IntKind.bits]; omega
theorem PrC.str {F : Nat → Prop} (l : List UInt8) : PrC .str w F (.string ⟨l.toArray⟩) (.s (some l)) := ⟨rfl, rfl, rfl, ⟨_, rfl, rfl⟩⟩
theorem str_ok {f : Nat} (ok : ROK P R) (hs : R.T.str ≠ 0) (h16 : R.T.i16 ≠ 0) (hi : RdC P R.i16 (dInt 2) (PlB (fun x => .int .i16 x) I16)) (hsp : SpanC P R.span) (hf : FnIs P f (cStr R) 11 2) : RdC P f (dP .str false) (PrC .str) := by
 refine ⟨hf.ent, fun w rb sb st h hne => ?_⟩
 refine hf.runs (args := [.pointer (some ⟨rb, 0, none⟩)]) (by simp) (by omega) ?_
 refine RW.sq (RW.rg (RL.s MR.mv (RL.nil (RW.sq (RW.rg (RL.s (MR.mv (v := .pointer (some ⟨rb, 0, none⟩)) rfl) (RL.rd hi rfl h hne (by rfl) (by decide) ?_)))))))
 rintro v x st1 w1 hF hG hR ⟨rfl, hx⟩
 refine RL.s MR.mv (RL.nil (RW.sq (RW.rg (RL.s (MR.mv (v := .pointer (some ⟨rb, 0, none⟩)) rfl) (RL.s (MR.mv (v := .int .i16 x) rfl) (RL.s (MR.cvI rfl (ok.tk.i16 h16) ok.tk.int) (RL.span (n := x) hsp rfl (by show Value.int .i64 (IntKind.i64.wrap x) = _; rw [hx.wr]) hR hne (by rfl) (by rfl) (by decide) ?_)))))))
 intro ad l st2 w2 hF2 hG2 hR2 ha hb
 refine RL.s (MR.cv (conv_str ok.tk.u8s ok.tk.u8i (ok.tk.str hs) ha hb)) (RL.s MR.mv (RL.nil (RW.rt ?_)))
 exact ⟨_, .s (some l), st2, rfl, hF.trans hF2, hG.bind (hG2.map (f := fun l => D.s (some l))), hR2, PrC.str l⟩
theorem cstr_ok {f : Nat} (ok : ROK P R) (hs : R.T.str ≠ 0) (h32 : R.T.u32 ≠ 0) (hi : RdC P R.uv dUv (PlB (fun x => .int .u32 (x : Nat)) (· < 4294967296))) (hsp : SpanC P R.span) (hf : FnIs P f (cCStr R) 12 2) : RdC P f (dP .str true) (PrC .str) := by
 refine ⟨hf.ent, fun w rb sb st h hne => ?_⟩
 refine hf.runs (args := [.pointer (some ⟨rb, 0, none⟩)]) (by simp) (by omega) ?_
 refine RW.sq (RW.rg (RL.s MR.mv (RL.nil (RW.sq (RW.rg (RL.s (MR.mv (v := .pointer (some ⟨rb, 0, none⟩)) rfl) (RL.rd hi rfl h hne (by rfl) (by decide) ?_)))))))
 rintro v x st1 w1 hF hG hR ⟨rfl, hx⟩
 refine RL.s (MR.cvI rfl (ok.tk.u32 h32) ok.tk.int) (RL.s (MR.biE (v := .int .i64 ((x : Int) - 1)) (by show some (Value.int .i64 (IntKind.i64.wrap (IntKind.i64.wrap (x : Int) - 1))) = _; rw [u32_w hx])) (RL.s MR.mv (RL.nil (RW.sq (RW.rg (RL.s (MR.mv (v := .pointer (some ⟨rb, 0, none⟩)) rfl) (RL.s (MR.mv (v := .int .i64 ((x : Int) - 1)) rfl) (RL.span (n := (x : Int) - 1) hsp rfl rfl hR hne (by rfl) (by rfl) (by decide) ?_))))))))
 intro ad l st2 w2 hF2 hG2 hR2 ha hb
 refine RL.s (MR.cv (conv_str ok.tk.u8s ok.tk.u8i (ok.tk.str hs) ha hb)) (RL.s MR.mv (RL.nil (RW.rt ?_)))
 exact ⟨_, .s (some l), st2, rfl, hF.trans hF2, (hG.map (f := fun n : Nat => (n : Int) - 1)).bind (hG2.map (f := fun l => D.s (some l))), hR2, PrC.str l⟩
/-! ### Bool, Ok, Complete -/
def cOk (R : RN) : Jc := .sq (.rg [.mv 2 (.c (.bool false))]) (.sq (.rg [.mv 3 (.t 0), .nc 4 3, .fa 5 R.tR 4 1, .ld 6 R.T.bool 5, .nt 7 6, .mv 2 (.t 7)]) .rt)
def cCompl (R : RN) : Jc := .sq (.rg [.mv 2 (.c .niface)]) (.sq (.sq (.rg [.mv 3 (.t 0), .nc 4 3, .fa 5 R.tR 4 1, .ld 6 R.T.bool 5]) (.cd 6 (.sq (.rg [.lg 7 R.tErr R.gErr, .mv 2 (.t 7)]) .rt) .sk)) (.sq (.rg [.mv 2 (.c .niface)]) .rt))
def OkC (P : Program) (f : Nat) : Prop := Jo P f = true ∧ ∀ (w : World) (rb sb : Nat) (st : Option (List UInt8)), RdAt w rb sb st →
 Calls P f #[.pointer (some ⟨rb, 0, none⟩)] w (fun e w' => e = .returned (.bool (!stB st)) ∧ w' = w)
theorem okf_ok {f : Nat} (ok : ROK P R) (hf : FnIs P f (cOk R) 8 2) : OkC P f := by
 refine ⟨hf.ent, fun w rb sb st h => ?_⟩
 refine hf.runs (args := [.pointer (some ⟨rb, 0, none⟩)]) (by simp) (by omega) ?_
 obtain ⟨ad, c, r1, r2, r3, r4, r5⟩ := h.all
 refine RW.sq (RW.rg (RL.s MR.mv (RL.nil (RW.sq (RW.rg (RL.s (MR.mv (v := .pointer (some ⟨rb, 0, none⟩)) rfl) (RL.s (MR.nc rfl) (RL.s (MR.fa rfl ok.f1) (RL.s (MR.ld rfl ok.pb (r1 1 _ rfl)) (RL.s (MR.nt rfl) (RL.s MR.mv (RL.nil (RW.rt ?_)))))))))))))
 exact ⟨rfl, rfl⟩
def complV (ev : Value) (st : Option (List UInt8)) : Value := if stB st then ev else MVal.niface.val
def ComplC (P : Program) (f gE : Nat) : Prop := Jo P f = true ∧ ∀ (w : World) (rb sb : Nat) (st : Option (List UInt8)) (ev : Value), RdAt w rb sb st → w.cell? ⟨gE, 0, none⟩ = some ev →
 Calls P f #[.pointer (some ⟨rb, 0, none⟩)] w (fun e w' => e = .returned (complV ev st) ∧ w' = w)
theorem compl_ok {f : Nat} (ok : ROK P R) (hf : FnIs P f (cCompl R) 8 2) : ComplC P f R.gErr := by
 refine ⟨hf.ent, fun w rb sb st ev h hev => ?_⟩
 refine hf.runs (args := [.pointer (some ⟨rb, 0, none⟩)]) (by simp) (by omega) ?_
 obtain ⟨ad, c, r1, r2, r3, r4, r5⟩ := h.all
 refine RW.sq (RW.rg (RL.s MR.mv (RL.nil (RW.sq (RW.sq (RW.rg (RL.s (MR.mv (v := .pointer (some ⟨rb, 0, none⟩)) rfl) (RL.s (MR.nc rfl) (RL.s (MR.fa rfl ok.f1) (RL.s (MR.ld rfl ok.pb (r1 1 _ rfl)) (RL.nil ?_)))))))))))
 refine RW.cd rfl (fun e => ?_) (fun e => RW.sk ?_)
 ·refine RW.sq (RW.rg (RL.s (MR.lg (QG ok.pe hev)) (RL.s MR.mv (RL.nil (RW.rt ?_)))))
  exact ⟨by show Ending.returned ev = _; unfold complV; rw [e]; rfl, rfl⟩
 ·refine RW.sq (RW.rg (RL.s MR.mv (RL.nil (RW.rt ?_))))
  exact ⟨by show Ending.returned MVal.niface.val = _; unfold complV; rw [e]; rfl, rfl⟩
end
end Go.Kx
namespace Go.Kx
open Go.RowKit Go.MapKept Go.MapFrom
set_option linter.unusedSimpArgs false
set_option linter.unusedVariables false
abbrev Tg := Nat × List UInt8
theorem QF {t x : Tg} : ∀ {ts : List Tg}, ts.Pairwise (fun x y => x.1 < y.1) → (x ∈ JY t ts ↔ x = t ∨ (x ∈ ts ∧ x.1 ≠ t.1))
 | [], _ => by simp [JY]
 | y :: ys, hs => by
  rw [List.pairwise_cons] at hs
  simp only [JY]
  split
  ·rename_i h
   rw [List.mem_cons, QF hs.2, List.mem_cons]
   constructor
   ·rintro (rfl | rfl | ⟨h1, h2⟩)
    ·exact .inr ⟨.inl rfl, by omega⟩
    ·exact .inl rfl
    ·exact .inr ⟨.inr h1, h2⟩
   ·rintro (rfl | ⟨rfl | h1, h2⟩)
    ·exact .inr (.inl rfl)
    ·exact .inl rfl
    ·exact .inr (.inr ⟨h1, h2⟩)
  ·rename_i h
   split
   ·rename_i h'
    rw [List.mem_cons, List.mem_cons]
    constructor
    ·rintro (rfl | h1)
     ·exact .inl rfl
     ·have := hs.1 x h1; exact .inr ⟨.inr h1, by omega⟩
    ·rintro (rfl | ⟨rfl | h1, h2⟩)
     ·exact .inl rfl
     ·exact absurd h' h2
     ·exact .inr h1
   ·rename_i h'
    simp only [List.mem_cons]
    constructor
    ·rintro (rfl | rfl | h1)
     ·exact .inl rfl
     ·exact .inr ⟨.inl rfl, h'⟩
     ·have := hs.1 x h1; exact .inr ⟨.inr h1, by omega⟩
    ·rintro (rfl | ⟨rfl | h1, h2⟩)
     ·exact .inl rfl
     ·exact .inr (.inl rfl)
     ·exact .inr (.inr h1)
theorem setTag_length {t : Tg} : ∀ {ts : List Tg}, ts.Pairwise (fun x y => x.1 < y.1) → ((∃ x ∈ ts, x.1 = t.1) → (JY t ts).length = ts.length) ∧ ((∀ x ∈ ts, x.1 ≠ t.1) → (JY t ts).length = ts.length + 1)
 | [], _ => by simp [JY]
 | y :: ys, hs => by
  rw [List.pairwise_cons] at hs
  obtain ⟨i1, i2⟩ := @setTag_length t ys hs.2
  simp only [JY]
  split
  ·rename_i h
   refine ⟨?_, fun h1 => by rw [List.length_cons, List.length_cons, i2 fun x hx => h1 x (List.mem_cons_of_mem _ hx)]⟩
   rintro ⟨x, hx, e⟩
   rw [List.mem_cons] at hx
   rcases hx with rfl | hx
   ·omega
   ·rw [List.length_cons, List.length_cons, i1 ⟨x, hx, e⟩]
  ·rename_i h
   split
   ·rename_i h'
    exact ⟨fun _ => rfl, fun h1 => absurd h' (h1 y List.mem_cons_self)⟩
   ·rename_i h'
    refine ⟨?_, fun _ => rfl⟩
    rintro ⟨x, hx, e⟩
    rw [List.mem_cons] at hx
    rcases hx with rfl | hx
    ·exact absurd e h'
    ·have := hs.1 x hx; omega
structure RepM (w : World) (sb : Nat) (es : Array MapEntry) (clock : Nat) (tags : List Tg) : Prop where
 sz : es.size = tags.length
 so : tags.Pairwise (fun x y => x.1 < y.1)
 has : ∀ t ∈ tags, t.1 < 4294967296 ∧ ∃ e ∈ es.toList, e.key = .int .u32 t.1 ∧ ∃ a c, e.val = .slice a t.2.length c ∧ Jg w (· = sb) a t.2
 st : Stamped es clock
 back : ∀ x ∈ es.toList, ∃ t ∈ tags, x.key = .int .u32 t.1
theorem setTag_ne {t : Tg} {ts : List Tg} : JY t ts ≠ [] := by
 cases ts with
 | nil => simp [JY]
 | cons x xs => unfold JY; split <;> (try split) <;> simp
def TM (w : World) (lo sb : Nat) (m : Value) (tags : List Tg) : Prop :=
 (m = .map none ∧ tags = []) ∨ ∃ r es clock, m = .map (some r) ∧ lo ≤ r ∧ w.heap[r]? = some (.map es clock) ∧ RepM w sb es clock tags ∧ tags ≠ []
theorem RepM.nil (w : World) (sb : Nat) : RepM w sb #[] 0 [] := ⟨rfl, List.Pairwise.nil, by simp, stamped_empty 0, by simp⟩
theorem RepM.keep {w w' : World} {sb clock : Nat} {es : Array MapEntry} {tags : List Tg} (h : RepM w sb es clock tags) (hs : w'.heap[sb]? = w.heap[sb]?) : RepM w' sb es clock tags := by
 refine ⟨h.sz, h.so, fun t ht => ?_, h.st, h.back⟩
 obtain ⟨h1, e, h2, h3, a, c, h4, h5⟩ := h.has t ht
 exact ⟨h1, e, h2, h3, a, c, h4, h5.mono (fun _ h => h) (fun b hb => by rw [hb]; exact hs)⟩
theorem RepM.keys {w : World} {sb clock : Nat} {es : Array MapEntry} {tags : List Tg} (h : RepM w sb es clock tags) : ∀ x ∈ es.toList, IsKey (.int .u32) x.key := fun x hx => by
 obtain ⟨t, _, e⟩ := h.back x hx
 rw [e]; rfl
theorem TM.rep {w : World} {lo sb : Nat} {m : Value} {tags : List Tg} {F : Nat → Prop} (h : TM w lo sb m tags) (hF : ∀ b, lo ≤ b → F b) (hs : F sb) : RepT w F m tags := by
 rcases h with h | ⟨r, es, clock, h1, h2, h3, h4, h5⟩
 ·exact .inl h
 ·refine .inr ⟨r, es, clock, h1, hF r h2, h3, h4.sz, h4.so, fun t ht => ?_, h4.st, h4.back, h5⟩
  obtain ⟨g1, e, g2, g3, a, c, g4, g5⟩ := h4.has t ht
  exact ⟨g1, e, g2, g3, a, c, g4, g5.mono (fun b hb => by rw [hb]; exact hs) (fun b _ => rfl)⟩
def mapU (P : Program) (T : Nat) : Bool := match P.underlying T with
 | some (.map k _) => JC P k .u32
 | _ => false
theorem mapU_eq {P : Program} {T : Nat} (h : mapU P T = true) : ∃ k e, P.underlying T = some (.map k e) ∧ P.underlying k = some (.int .u32) := by
 unfold mapU at h
 cases hu : P.underlying T with
 | none => simp [hu] at h
 | some d =>
  cases d <;> simp only [hu, UB] at h
  exact ⟨_, _, rfl, QR h⟩
theorem run_setTag {P : Program} {w : World} {T r sb clock : Nat} {es : Array MapEntry} {tags : List Tg} {k : Nat} {l : List UInt8} {a : Option Addr} {c : Nat} (hT : mapU P T = true) (hb : w.heap[r]? = some (.map es clock)) (hM : RepM w sb es clock tags) (hk : k < 4294967296) (hv : Jg w (· = sb) a l) (hne : sb ≠ r) :
  ∃ es' clock', (Instr.mapUpdate T (.map (some r)) (.int .u32 (k : Nat)) (.slice a l.length c)).run P w = .ok () { w with heap := w.heap.setIfInBounds r (.map es' clock') } ∧ RepM { w with heap := w.heap.setIfInBounds r (.map es' clock') } sb es' clock' (JY (k, l) tags) := by
 obtain ⟨kt, et, hm, hd⟩ := mapU_eq hT
 have hk' : IsKey (.int .u32) (.int .u32 (k : Nat)) := rfl
 have keep : ∀ es' clock', ({ w with heap := w.heap.setIfInBounds r (.map es' clock') } : World).heap[sb]? = w.heap[sb]? := fun es' clock' => (heap_set hb).2 sb hne
 rcases findNow_spec hk' es.toList 0 hM.keys with ⟨h1, h2⟩ | ⟨j, e, h1, h2, h3⟩
 ·refine ⟨es.push { key := .int .u32 (k : Nat), val := .slice a l.length c, born := clock }, clock + 1, ?_, ?_⟩
  ·simp [Instr.mapUpdate, run_underlying hm, Go.MapKept.run_getObj_map hb, Go.MapKept.run_checkKey hd hk', Go.MapKept.run_findKey hd h1, Go.MapKept.run_setObj_map _ hb, Result.andThen]
  ·have hno : ∀ x ∈ tags, x.1 ≠ k := fun x hx e => by
    obtain ⟨_, e', g2, g3, _⟩ := hM.has x hx
    exact h2 e' g2 (by rw [g3, e])
   refine ⟨?_, setTag_sorted hM.so, fun t ht => ?_, stamped_push hM.st h2, fun x hx => ?_⟩
   ·rw [Array.size_push, hM.sz, (setTag_length (t := (k, l)) hM.so).2 hno]
   ·rw [QF hM.so] at ht
    rcases ht with rfl | ⟨ht, _⟩
    ·exact ⟨hk, { key := .int .u32 (k : Nat), val := .slice a l.length c, born := clock }, by simp, rfl, a, c, rfl, hv.mono (fun _ h => h) (fun b hb' => by rw [hb']; exact keep _ _)⟩
    ·obtain ⟨g1, e', g2, g3, a', c', g4, g5⟩ := hM.has t ht
     exact ⟨g1, e', by simp [Array.mem_toList_iff.1 g2], g3, a', c', g4, g5.mono (fun _ h => h) (fun b hb' => by rw [hb']; exact keep _ _)⟩
   ·simp only [Array.toList_push, List.mem_append, List.mem_singleton] at hx
    rcases hx with hx | rfl
    ·obtain ⟨t, g1, g2⟩ := hM.back x hx
     exact ⟨t, (QF hM.so).2 (.inr ⟨g1, hno t g1⟩), g2⟩
    ·exact ⟨(k, l), (QF hM.so).2 (.inl rfl), rfl⟩
 ·have hj : es[j]? = some e := by simpa using h2
  have hem : e ∈ es.toList := at_mem hj
  refine ⟨es.modify j fun e => { e with key := .int .u32 (k : Nat), val := .slice a l.length c }, clock, ?_, ?_⟩
  ·simp [Instr.mapUpdate, run_underlying hm, Go.MapKept.run_getObj_map hb, Go.MapKept.run_checkKey hd hk', Go.MapKept.run_findKey hd h1, hj, h3, Go.MapKept.run_keyThatStays hk', Go.MapKept.run_setObj_map _ hb, Result.andThen]
  ·obtain ⟨t0, q1, q2⟩ := hM.back e hem
   have q3 : t0.1 = k := by
    rw [h3] at q2
    simp only [Value.int.injEq, true_and] at q2; omega
   have hkey : ∀ e', es[j]? = some e' → ({ e' with key := .int .u32 (k : Nat), val := .slice a l.length c } : MapEntry).key = e'.key := fun e' he' => by rw [hj] at he'; cases he'; exact h3.symm
   refine ⟨?_, setTag_sorted hM.so, fun t ht => ?_, stamped_modify hM.st _ _ (fun _ _ => rfl) (fun e' _ he' => hkey e' he'), fun x hx => ?_⟩
   ·rw [Array.size_modify, hM.sz, (setTag_length (t := (k, l)) hM.so).1 ⟨t0, q1, q3⟩]
   ·rw [QF hM.so] at ht
    rcases ht with rfl | ⟨ht, hne'⟩
    ·refine ⟨hk, { e with key := .int .u32 (k : Nat), val := .slice a l.length c }, ?_, rfl, a, c, rfl, hv.mono (fun _ h => h) (fun b hb' => by rw [hb']; exact keep _ _)⟩
     rw [Array.mem_toList_iff, Array.mem_iff_getElem?]
     exact ⟨j, by rw [Array.getElem?_modify, if_pos rfl, hj]; rfl⟩
    ·obtain ⟨g1, e', g2, g3, a', c', g4, g5⟩ := hM.has t ht
     refine ⟨g1, e', ?_, g3, a', c', g4, g5.mono (fun _ h => h) (fun b hb' => by rw [hb']; exact keep _ _)⟩
     rw [Array.mem_toList_iff, Array.mem_iff_getElem?] at g2 ⊢
     obtain ⟨i, hi⟩ := g2
     refine ⟨i, ?_⟩
     rw [Array.getElem?_modify, if_neg, hi]
     rintro rfl
     rw [hj] at hi
     cases hi
     rw [h3] at g3
     simp only [Value.int.injEq, true_and] at g3
     exact hne' (by show t.1 = k; omega)
   ·rcases mem_modify hx with hx | ⟨e', he', rfl⟩
    ·obtain ⟨t, g1, g2⟩ := hM.back x hx
     by_cases hk2 : t.1 = k
     ·exact ⟨(k, l), (QF hM.so).2 (.inl rfl), by rw [g2, hk2]⟩
     ·exact ⟨t, (QF hM.so).2 (.inr ⟨g1, hk2⟩), g2⟩
    ·exact ⟨(k, l), (QF hM.so).2 (.inl rfl), rfl⟩
def zTagB (P : Program) (T : Nat) : Bool := match P.info? T with
 | some i => (match i.zero with | some (.agg a) => (match a.toList with | [.map none] => true | _ => false) | _ => false)
 | none => false
theorem zTag_of {P : Program} {T : Nat} (h : zTagB P T = true) : Q7 P T [.map none] := by
 unfold zTagB at h
 cases hi : P.info? T with
 | none => simp [hi] at h
 | some i =>
  simp only [hi] at h
  split at h
  ·rename_i a hz
   split at h
   ·rename_i hl
    refine ⟨i, hi, ?_⟩
    rw [hz]
    have : a = #[.map none] := Array.toList_inj.1 hl
    rw [this]
   ·simp at h
  ·simp at h
structure TG where
 tSt : Nat
 tMap : Nat
 fSet : Nat
 fRead : Nat
structure TGR (P : Program) (G : TG) : Prop where
 map : mapU P G.tMap = true
 pl : Jm P G.tMap = true
 mc : Jh P G.tMap 1 = true
 fld : Jd P G.tSt 0 0 = true
 row : QH P G.tSt = true
 sc : Jh P G.tSt 1 = true
 z : zTagB P G.tSt = true
def tgrB (P : Program) (G : TG) : List Bool := [mapU P G.tMap, Jm P G.tMap, Jh P G.tMap 1, Jd P G.tSt 0 0, QH P G.tSt, Jh P G.tSt 1, zTagB P G.tSt]
theorem tgr_of {P : Program} {G : TG} (h : (tgrB P G).all id = true) : TGR P G := by
 simp only [tgrB, List.all_cons, List.all_nil, id_eq, Bool.and_true, UA] at h
 obtain ⟨h1, h2, h3, h4, h5, h6, h7⟩ := h
 exact ⟨h1, h2, h3, h4, h5, h6, h7⟩
def cTagSet (G : TG) : Jc :=
 .sq (.sq (.rg [.mv 6 (.t 0), .nc 7 6, .fa 8 G.tSt 7 0, .ld 9 G.tMap 8, .bi 10 .eql G.tMap (.t 9) (.c .nmap)]) (.cd 10 (.rg [.mv 11 (.t 0), .mkm 12 G.tMap, .nc 13 11, .fa 14 G.tSt 13 0, .st G.tMap 14 12]) .sk))
  (.rg [.mv 15 (.t 0), .nc 16 15, .fa 17 G.tSt 16 0, .ld 18 G.tMap 17, .mv 19 (.t 1), .mv 20 (.t 2), .mpu G.tMap 18 19 20])
section
variable {P : Program} {N : Nat} {Q : UE} {ρ : Nat → Value} {w w' : World} {ms : List MOp} {R : RN} {G : TG} {rb sb : Nat} {st : Option (List UInt8)}
theorem MR.eqNilM {d ty x : Nat} {p : Option Nat} (hs : mapU P ty = true) (hx : ρ x = .map p) (hxN : x < N := by decide) : MR P N (.bi d .eql ty (.t x) (.c .nmap)) ρ w d (.bool p.isNone) w := by
 obtain ⟨k, e, hu, _⟩ := mapU_eq hs
 refine MR.bi (fun ox oy => ?_) ?_ (ltT hxN)
 ·simp only [xof, hx, MVal.val]; unfold eqGuard; rfl
 ·simp only [xof, hx, MVal.val]
  have h : ∀ d : Nat, (Op.equalIn (d + 1) ty (.map p) (.map none)).run P w = .ok p.isNone w := fun d => by
   cases p <;> simp [Op.equalIn, run_underlying hu]
  simp only [binOp]
  simp [Op.equal, Op.maxDepth, h 9999]
theorem cell_map {r : Nat} {es : Array MapEntry} {clock o : Nat} (h : w.heap[r]? = some (.map es clock)) : w.cell? ⟨r, o, none⟩ = none := by
 simp [World.cell?, h]
def SetC (P : Program) (f : Nat) : Prop := Jo P f = true ∧ ∀ (w : World) (tb to sb lo : Nat) (m : Value) (tags : List Tg) (k : Nat) (ad : Option Addr) (l : List UInt8) (c : Nat), TM w lo sb m tags → w.rangeAt tb to [m] → w.there tb to 1 → lo ≤ w.heap.size → sb < lo → sb ≠ tb → k < 4294967296 → Jg w (· = sb) ad l →
 Calls P f #[.pointer (some ⟨tb, to, none⟩), .int .u32 (k : Nat), .slice ad l.length c] w (fun e w' => (∃ v, e = .returned v) ∧ ∃ m', TM w' lo sb m' (JY (k, l) tags) ∧ w'.rangeAt tb to [m'] ∧ w'.there tb to 1 ∧ Fr (fun b => lo ≤ b ∧ (m = .map (some b) ∨ w.heap.size ≤ b)) tb to 1 w w' ∧ (∀ r, m' = .map (some r) → m = .map (some r) ∨ w.heap.size ≤ r))
theorem set_ok {f : Nat} (tg : TGR P G) (hf : Qz P f (cTagSet G) 21) : SetC P f := by
 refine ⟨hf.ent, fun w tb to sb lo m tags k ad l c hm hr ht hlo hsl hst hk hb => ?_⟩
 refine hf.runs (args := [.pointer (some ⟨tb, to, none⟩), .int .u32 (k : Nat), .slice ad l.length c]) (by simp) ?_
 have htb : tb < w.heap.size := World.block_lt_of_cell? w _ (hr 0 _ rfl)
 have half : ∀ (ρ : Nat → Value) (w1 : World) (r : Nat) (es : Array MapEntry) (clock : Nat), ρ 0 = .pointer (some ⟨tb, to, none⟩) → ρ 1 = .int .u32 (k : Nat) → ρ 2 = .slice ad l.length c → lo ≤ r → (m = .map (some r) ∨ w.heap.size ≤ r) → w1.heap[r]? = some (.map es clock) → RepM w1 sb es clock tags → w1.rangeAt tb to [.map (some r)] → w1.there tb to 1 → Jg w1 (· = sb) ad l → Fr (fun b => lo ≤ b ∧ (m = .map (some b) ∨ w.heap.size ≤ b)) tb to 1 w w1 →
   RW P 21 (.rg [.mv 15 (.t 0), .nc 16 15, .fa 17 G.tSt 16 0, .ld 18 G.tMap 17, .mv 19 (.t 1), .mv 20 (.t 2), .mpu G.tMap 18 19 20]) (ret0 (fun e w' => (∃ v, e = .returned v) ∧ ∃ m', TM w' lo sb m' (JY (k, l) tags) ∧ w'.rangeAt tb to [m'] ∧ w'.there tb to 1 ∧ Fr (fun b => lo ≤ b ∧ (m = .map (some b) ∨ w.heap.size ≤ b)) tb to 1 w w' ∧ (∀ r, m' = .map (some r) → m = .map (some r) ∨ w.heap.size ≤ r))) ρ w1 := by
  intro ρ w1 r es clock h0 h1 h2 hr1 hX hh hM hra hth hb1 hF
  have hsr : sb ≠ r := by omega
  have htr : tb ≠ r := by
   rintro rfl
   have := hra 0 _ rfl
   rw [cell_map hh] at this
   cases this
  obtain ⟨es', clock', g1, g2⟩ := run_setTag (P := P) (T := G.tMap) (c := c) tg.map hh hM hk hb1 hsr
  refine RW.rg (RL.s (MR.mv h0) (RL.s (MR.nc rfl) (RL.s (MR.fa rfl tg.fld) (RL.s (MR.ld rfl tg.pl (hra 0 _ rfl)) (RL.s (MR.mv h1) (RL.s (MR.mv h2) (RL.mpu g1 (RL.nil ?_))))))))
  have hhs := @heap_set w1 r _ (.map es' clock') hh
  refine ⟨⟨_, rfl⟩, .map (some r), .inr ⟨r, es', clock', rfl, hr1, hhs.1, g2, setTag_ne⟩, JV hra (hhs.2 tb htr), JE hth (hhs.2 tb htr), hF.trans ⟨rfl, rfl, rfl, by simp, fun b hb1 hb2 hb3 => hhs.2 b (fun e => hb3 (by subst e; exact ⟨hr1, hX⟩)), fun j _ => Ji (hhs.2 tb htr), fun o' n' h => JE h (hhs.2 tb htr)⟩, fun q e => by cases e; exact hX⟩
 refine RW.sq (RW.sq (RW.rg (RL.s (MR.mv (v := .pointer (some ⟨tb, to, none⟩)) rfl) (RL.s (MR.nc rfl) (RL.s (MR.fa rfl tg.fld) (RL.s (MR.ld rfl tg.pl (hr 0 _ rfl)) ?_))))))
 rcases hm with ⟨rfl, rfl⟩ | ⟨r, es, clock, rfl, h1, h2, h3, _⟩
 ·refine RL.s (MR.eqNilM (p := none) tg.map rfl) (RL.nil (RW.cd (b := true) rfl (fun _ => ?_) (fun e => by cases e)))
  refine RW.rg (RL.s (MR.mv (v := .pointer (some ⟨tb, to, none⟩)) rfl) (RL.s MR.mkm (RL.s (MR.nc rfl) (RL.s (MR.fa rfl tg.fld) ?_))))
  have ha := heap_alloc w (.map #[] 0)
  have ht1 : (w.alloc (.map #[] 0)).there tb to 1 := JE ht (ha.2 tb htb)
  refine RL.st1 (v := .map (some w.heap.size)) (b := tb) (o := to + 0) rfl rfl rfl tg.mc ht1 (RL.nil ?_)
  have hne : w.heap.size ≠ tb := by omega
  have e1 : ((w.alloc (.map #[] 0)).setCells tb (to + 0) [.map (some w.heap.size)]).heap[w.heap.size]? = some (.map #[] 0) := by
   rw [Jp tb _ _ _ _ hne]; exact ha.1
  have e2 : ((w.alloc (.map #[] 0)).setCells tb (to + 0) [.map (some w.heap.size)]).heap[sb]? = w.heap[sb]? := by
   rw [Jp tb _ _ _ _ hst]; exact ha.2 sb (by omega)
  refine half _ _ w.heap.size #[] 0 rfl rfl rfl hlo (.inr (Nat.le_refl _)) e1 (RepM.nil _ _) (World.rangeAt_setCells_same _ _ _ _ ht1) (World.there_setCells ht1 _ _ _) (hb.mono (fun _ h => h) (fun b hb' => by rw [hb']; exact e2)) ?_
  refine Fr.trans (w2 := w.alloc (.map #[] 0)) ?_ (Fr.put _ (by omega) (by simp))
  exact (Fr.ofBelow ((Below.refl _ w).alloc (Nat.le_refl _) _) htb).wide (fun _ h => ⟨Nat.le_trans hlo h, .inr h⟩) (Nat.le_refl _) (Nat.le_refl _)
 ·refine RL.s (MR.eqNilM (p := some r) tg.map rfl) (RL.nil (RW.cd (b := false) rfl (fun e => by cases e) (fun _ => RW.sk ?_)))
  exact half _ _ r es clock rfl rfl rfl h1 (.inl rfl) h2 h3 hr ht hb (Fr.refl _ _ _ _ _)
def cReadTags (R : RN) (G : TG) : Jc :=
 .sq (.rg [.al 2 G.tSt]) (.sq (.rg [.al 3 G.tSt]) (.sq (.sq (.rg [.mv 7 (.t 0), .ca 8 R.uv [.t 7], .mv 4 (.t 8)])
  (.bl 0 (.lp (.sq (.sq (.rg [.mv 9 (.t 4), .bi 10 .gtr R.T.u32 (.t 9) (.c (.int .u32 0))]) (.cd 10 .sk (.ex 0)))
   (.sq (.bl 1 (.sq (.rg [.mv 13 (.t 0), .ca 14 R.uv [.t 13], .mv 15 (.t 0), .ca 16 R.uv [.t 15], .mv 5 (.t 14), .mv 6 (.t 16)])
    (.rg [.mv 17 (.t 5), .mv 18 (.t 0), .mv 19 (.t 6), .cv 20 R.T.u32 R.T.int 19, .ca 21 R.span [.t 18, .t 20], .ca 22 G.fSet [.t 3, .t 17, .t 21]])))
    (.rg [.mv 11 (.t 4), .bi 12 .sub R.T.u32 (.t 11) (.c (.int .u32 1)), .mv 4 (.t 12)]))))))
  (.sq (.rg [.ld 23 G.tSt 3, .st G.tSt 2 23]) .rt)))
def TagC (P : Program) (f : Nat) : Prop := Jo P f = true ∧ ∀ (w : World) (rb sb : Nat) (st : Option (List UInt8)), RdAt w rb sb st → sb ≠ rb → sb < w.heap.size →
 Calls P f #[.pointer (some ⟨rb, 0, none⟩)] w (fun e w' => ∃ m tags st', e = .returned (.agg #[m]) ∧ m.oneCell' = true ∧ Fr (fun _ => False) rb 0 2 w w' ∧ Got dTags st tags st' ∧ RdAt w' rb sb st' ∧ RepT w' (Rb w sb) m tags)
theorem Fr.toNew {X : Nat → Prop} {b o n : Nat} {w w' : World} (h : Fr X b o n w w') (hX : ∀ k, X k → w.heap.size ≤ k) : Fr (fun _ => False) b o n w w' :=
 ⟨h.os, h.tape, h.output, h.size, fun k h1 h2 _ => h.block k h1 h2 (fun x => by have := hX k x; omega), h.cell, h.there⟩
theorem Fr.other {X : Nat → Prop} {b b' o n o' n' : Nat} {w w' : World} (h : Fr X b' o' n' w w') (hb' : X b') (hb : ¬ X b) (hbw : b < w.heap.size) : Fr X b o n w w' := by
 have hne : b ≠ b' := fun e => hb (e ▸ hb')
 have he := h.block b hbw hne hb
 exact ⟨h.os, h.tape, h.output, h.size, fun k h1 h2 h3 => h.block k h1 (fun e => h3 (e ▸ hb')) h3, fun j _ => Ji he, fun o' n' ht => JE ht he⟩
theorem readTags_ok {f : Nat} (ok : ROK P R) (tg : TGR P G) (h32 : R.T.u32 ≠ 0) (hu : RdC P R.uv dUv (PlB (fun x => .int .u32 (x : Nat)) (· < 4294967296))) (hsp : SpanC P R.span) (hset : SetC P G.fSet) (hf : FnIsC P f (cReadTags R G) 24 2 G.tSt) : TagC P f := by
 refine ⟨hf.ent, fun w rb sb st0 h hne hsb => ?_⟩
 refine hf.runs (args := [.pointer (some ⟨rb, 0, none⟩)]) (by simp) (by omega) ?_
 obtain ⟨zi, hzi, hzv⟩ := zTag_of tg.z
 have hrb := h.lt
 refine RW.sq (RW.rg (RL.s (MR.al ⟨zi, hzi, hzv⟩) (RL.nil ?_)))
 have b1 := Jn w (.cells #[.map none] G.tSt)
 have s1 := J1 w (.cells #[.map none] G.tSt)
 have t1 := Qm w [.map none] G.tSt
 change RW P 24 _ _ _ (w.alloc (.cells #[.map none] G.tSt))
 revert b1 s1 t1
 change _ → _ → (w.alloc (.cells #[.map none] G.tSt)).there w.heap.size 0 1 → _
 generalize w.alloc (.cells #[.map none] G.tSt) = w1
 intro b1 s1 t1
 refine RW.sq (RW.rg (RL.s (MR.al ⟨zi, hzi, hzv⟩) (RL.nil ?_)))
 have b2 := Jn w1 (.cells #[.map none] G.tSt)
 have s2 := J1 w1 (.cells #[.map none] G.tSt)
 have t2 := Qm w1 [.map none] G.tSt
 have r2 : (w1.alloc (.cells #[.map none] G.tSt)).rangeAt w1.heap.size 0 [.map none] := fun j v hj => JA w1 [.map none] G.tSt hj
 change RW P 24 _ _ _ (w1.alloc (.cells #[.map none] G.tSt))
 revert b2 s2 t2 r2
 change _ → _ → (w1.alloc (.cells #[.map none] G.tSt)).there w1.heap.size 0 1 → _ → _
 generalize w1.alloc (.cells #[.map none] G.tSt) = w2
 intro b2 s2 t2 r2
 have B2 : Below w.heap.size w w2 := b1.trans (b2.mono b1.size)
 have h2 : RdAt w2 rb sb st0 := h.below B2
 have F2 : Fr (fun b => w.heap.size ≤ b) rb 0 2 w w2 := Fr.ofBelow B2 hrb
 have t1' : w2.there w.heap.size 0 1 := JE t1 (b2.block _ (by omega))
 refine RW.sq (RW.sq (RW.rg (RL.s (MR.mv (v := .pointer (some ⟨rb, 0, none⟩)) rfl) (RL.rd hu rfl h2 hne (by rfl) (by decide) ?_))))
 rintro v n st1 w3 hF hG hR ⟨rfl, hn⟩
 refine RL.s MR.mv (RL.nil (RW.bl ?_))
 have s3 := hF.size
 have hlt1 : w1.heap.size < w2.heap.size := by omega
 have r3 : w3.rangeAt w1.heap.size 0 [.map none] := JV r2 (hF.block _ hlt1 (by omega) (fun x => x))
 have t3 : w3.there w1.heap.size 0 1 := JE t2 (hF.block _ hlt1 (by omega) (fun x => x))
 have t3' : w3.there w.heap.size 0 1 := JE t1' (hF.block _ (by omega) (by omega) (fun x => x))
 refine RW.lp (fun ρ w' => ∃ (n : Nat) (st : Option (List UInt8)) (ts : List Tg) (m : Value), ρ 0 = .pointer (some ⟨rb, 0, none⟩) ∧ ρ 2 = .pointer (some ⟨w.heap.size, 0, none⟩) ∧ ρ 3 = .pointer (some ⟨w1.heap.size, 0, none⟩) ∧ ρ 4 = .int .u32 (n : Nat) ∧ n < 4294967296 ∧
   (∀ x st', Got (dTagN n ts) st x st' → Got dTags st0 x st') ∧ RdAt w' rb sb st ∧ TM w' w2.heap.size sb m ts ∧ w'.rangeAt w1.heap.size 0 [m] ∧ w'.there w1.heap.size 0 1 ∧ w'.there w.heap.size 0 1 ∧ w2.heap.size ≤ w'.heap.size ∧ Fr (fun b => w.heap.size ≤ b) rb 0 2 w w')
  (fun ρ _ => (intOf (ρ 4)).toNat) ⟨n, st1, [], .map none, rfl, rfl, rfl, rfl, hn, fun x st' hx => hG.bind hx, hR, .inl ⟨rfl, rfl⟩, r3, t3, t3', s3, F2.trans (hF.wide (fun _ h => h.elim) (Nat.le_refl _) (Nat.le_refl _))⟩ ?_ (fun ρ ρ' w h => by rw [h 4 (by omega)])
 rintro ρ w4 ⟨n, st, ts, m, q0, q2, q3, q4, hn, hG4, h4, hm, hr4, ht4, ht4', hs4, F4⟩
 refine RW.knows [(0, .pointer (some ⟨rb, 0, none⟩)), (2, .pointer (some ⟨w.heap.size, 0, none⟩)), (3, .pointer (some ⟨w1.heap.size, 0, none⟩)), (4, .int .u32 (n : Nat))] (by simp [q0, q2, q3, q4]) ?_
 refine RW.sq (RW.sq (RW.rg (RL.s (MR.mv (v := .int .u32 (n : Nat)) rfl) (RL.s (MR.biE (v := .bool (decide ((0 : Int) < (n : Nat)))) rfl) (RL.nil ?_)))))
 refine RW.cd rfl (fun e => RW.sk ?_) (fun e => RW.ex ?_)
 ·have hn0 : 0 < n := by have := of_decide_eq_true e; omega
  obtain ⟨n, rfl⟩ : ∃ k, n = k + 1 := ⟨n - 1, by omega⟩
  show RW P 24 _ _ _ w4
  refine RW.sq (RW.bl (RW.sq (RW.rg (RL.s (MR.mv (v := .pointer (some ⟨rb, 0, none⟩)) rfl) (RL.rd hu rfl h4 hne (by rfl) (by decide) ?_)))))
  rintro v k st5 w5 hF5 hG5 hR5 ⟨rfl, hk⟩
  refine RL.s (MR.mv (v := .pointer (some ⟨rb, 0, none⟩)) rfl) (RL.rd hu rfl hR5 hne (by rfl) (by decide) ?_)
  rintro v s st6 w6 hF6 hG6 hR6 ⟨rfl, hs⟩
  refine RL.s MR.mv (RL.s MR.mv (RL.nil (RW.rg ?_)))
  refine RL.s MR.mv (RL.s (MR.mv (v := .pointer (some ⟨rb, 0, none⟩)) rfl) (RL.s MR.mv (RL.s (MR.cvI rfl (ok.tk.u32 h32) ok.tk.int) (RL.span (n := (s : Nat)) hsp rfl (by show Value.int .i64 (IntKind.i64.wrap (s : Int)) = _; rw [Ju (by omega) (by omega)]) hR6 hne (by rfl) (by rfl) (by decide) ?_))))
  intro ad l st7 w7 hF7 hG7 hR7 ha hb
  have F47 : Fr (fun _ => False) rb 0 2 w4 w7 := (hF5.trans hF6).trans hF7
  have hk7 : ∀ b, b < w4.heap.size → b ≠ rb → w7.heap[b]? = w4.heap[b]? := fun b h1 h2 => F47.block b h1 h2 (fun x => x)
  have hw4 : w.heap.size ≤ w4.heap.size := F4.size
  have hm7 : TM w7 w2.heap.size sb m ts := by
   rcases hm with hm | ⟨r, es, clock, g1, g2, g3, g4, g5⟩
   ·exact .inl hm
   ·have hr : r < w4.heap.size := (Array.getElem?_eq_some_iff.1 g3).1
    exact .inr ⟨r, es, clock, g1, g2, by rw [hk7 r hr (by omega)]; exact g3, g4.keep (hk7 sb (by omega) hne), g5⟩
  have hb1 : w1.heap.size < w4.heap.size := by omega
  have hr7 := JV hr4 (hk7 _ hb1 (by omega))
  have ht7 := JE ht4 (hk7 _ hb1 (by omega))
  refine RL.ca (R := fun _ w' => ∃ m', TM w' w2.heap.size sb m' (JY (k, l) ts) ∧ w'.rangeAt w1.heap.size 0 [m'] ∧ w'.there w1.heap.size 0 1 ∧ Fr (fun b => w2.heap.size ≤ b) w1.heap.size 0 1 w7 w') hset.1 ?_ ?_
  ·have := hset.2 w7 w1.heap.size 0 sb w2.heap.size m ts k ad l l.length hm7 hr7 ht7 (Nat.le_trans hs4 F47.size) (by omega) (by omega) hk hb
   refine Calls.mono this ?_
   rintro e w' ⟨⟨v, rfl⟩, m', q1, q2, q3, q4, q5⟩
   exact ⟨v, rfl, m', q1, q2, q3, q4.wide (fun _ h => h.1) (Nat.le_refl _) (Nat.le_refl _)⟩
  rintro v w8 ⟨m', hm8, hr8, ht8, hF8⟩
  have F8' : Fr (fun b => w.heap.size ≤ b) rb 0 2 w7 w8 := (hF8.wide (X' := fun b => w.heap.size ≤ b) (fun b hb => by show w.heap.size ≤ b; have : w2.heap.size ≤ b := hb; omega) (Nat.le_refl _) (Nat.le_refl _)).other (by show w.heap.size ≤ w1.heap.size; omega) (by show ¬ w.heap.size ≤ rb; omega) (Nat.lt_of_lt_of_le (by omega) (Nat.le_trans hw4 F47.size))
  have hrb7 : rb < w7.heap.size := hR7.lt
  have hkb : ∀ b, b < w.heap.size → w8.heap[b]? = w7.heap[b]? := fun b hb => hF8.block b (by have := F47.size; omega) (by omega) (by show ¬ w2.heap.size ≤ b; omega)
  refine RL.nil (RW.rg (RL.s (MR.mv (v := .int .u32 ((n + 1 : Nat) : Int)) rfl) (RL.s (MR.biE (v := .int .u32 (n : Nat)) ?_) (RL.s MR.mv (RL.nil ?_)))))
  ·show some (Value.int .u32 (IntKind.u32.wrap (((n + 1 : Nat) : Int) - 1))) = _
   rw [show (((n + 1 : Nat) : Int) - 1) = (n : Nat) from by omega, QA (by omega)]
  ·refine ⟨⟨n, st7, JY (k, l) ts, m', rfl, rfl, rfl, rfl, by omega, fun x st' hx => hG4 x st' ?_, hR7.keep (hkb rb hrb) (hkb sb hsb), hm8, hr8, ht8, ?_, ?_, F4.trans ((F47.wide (fun _ h => h.elim) (Nat.le_refl _) (Nat.le_refl _)).trans F8')⟩, ?_⟩
   ·exact (hG5.bind (hG6.bind (hG7.map (f := fun v => (k, v))))).bind hx
   ·have e1 := JE ht4' (hk7 w.heap.size (by omega) (by omega))
    exact JE e1 (hF8.block _ (by have := F47.size; omega) (by omega) (by show ¬ w2.heap.size ≤ w.heap.size; omega))
   ·have := F47.size; have := hF8.size; omega
   ·show (n : Int).toNat < (intOf (ρ 4)).toNat
    rw [q4]; simp only [intOf]; omega
 ·have hn0 : n = 0 := by have := of_decide_eq_false e; omega
  subst hn0
  show RW P 24 _ _ _ w4
  refine RW.sq (RW.rg (RL.s (MR.ldRow (cs := [m]) (b := w1.heap.size) (o := 0) rfl tg.row tg.sc hr4) ?_))
  have hm1 : m.oneCell' = true := by rcases hm with ⟨rfl, _⟩ | ⟨r, es, clock, rfl, _⟩ <;> rfl
  refine RL.stA (cs := [m]) (b := w.heap.size) (o := 0) rfl rfl tg.sc ht4' (by simp [hm1]) (RL.nil (RW.rt ?_))
  have e1 := World.rangeAt_setCells_same w4 w.heap.size 0 [m] ht4'
  have ho : ∀ b, b ≠ w.heap.size → (w4.setCells w.heap.size 0 [m]).heap[b]? = w4.heap[b]? := fun b hb => Jp _ _ _ _ b hb
  have FF : Fr (fun b => w.heap.size ≤ b) rb 0 2 w (w4.setCells w.heap.size 0 [m]) := F4.trans ((Fr.put (X := fun b => w.heap.size ≤ b) (b := w.heap.size) (o := 0) (n := 1) [m] (by omega) (by simp)).other (Nat.le_refl _) (by show ¬ w.heap.size ≤ rb; omega) (Nat.lt_of_lt_of_le hrb F4.size))
  have hmr : TM (w4.setCells w.heap.size 0 [m]) w2.heap.size sb m ts := by
   rcases hm with hm | ⟨r, es, clock, g1, g2, g3, g4, g5⟩
   ·exact .inl hm
   ·exact .inr ⟨r, es, clock, g1, g2, by rw [ho r (by omega)]; exact g3, g4.keep (ho sb (by omega)), g5⟩
  refine ⟨⟨w.heap.size, 0, none⟩, .agg #[m], rfl, J3 (cs := [m]) tg.row tg.sc e1, m, ts, st, rfl, hm1, FF.toNew (fun b hb => hb), hG4 ts st (Got.pure _), h4.keep (ho rb (by omega)) (ho sb (by omega)), hmr.rep (fun b hb => .inr (by omega)) (.inl rfl)⟩
end
end Go.Kx
namespace Go.Kx
open Go.RowKit
set_option linter.unusedSimpArgs false
set_option linter.unusedVariables false
def ifaceTy (P : Program) (T : Nat) : Bool := match P.underlying T with
 | some (.interface _) => true
 | _ => false
theorem ifaceTy_eq {P : Program} {T : Nat} (h : ifaceTy P T = true) : ∃ ms, P.underlying T = some (.interface ms) := by
 unfold ifaceTy at h
 cases hu : P.underlying T with
 | none => simp [hu] at h
 | some d => cases d <;> simp_all
def errB : Value → Bool
 | .nilIface => false
 | _ => true
def isErr (v : Value) : Prop := ∃ t x, v = .iface t x
def RN.fn (R : RN) (k : PK) (flex : Bool) : Nat :=
 match k with
 | .i8 => R.i8 | .i16 => R.i16 | .u16 => R.u16 | .i32 => R.i32 | .i64 => R.i64 | .bool => R.bool
 | .str => if flex then R.cstr else R.str
 | .nstr => if flex then R.cnstr else R.nstr
 | .byt => if flex then R.cbyt else R.byt
 | .nbyt => if flex then R.cnbyt else R.nbyt
 | .uuid => R.uuid | .f64 => R.f64
structure RKOK (P : Program) (R : RN) (G : TG) : Prop where
 ok : ROK P R
 tg : TGR P G
 fn : ∀ k flex, R.fn k flex ≠ 0 → RdC P (R.fn k flex) (dP k flex) (PrC k)
 al : R.alen ≠ 0 → RdC P R.alen (dALen false) (PlB (fun x => .int .i32 x) I32)
 cal : R.calen ≠ 0 → RdC P R.calen (dALen true) (PlB (fun x => .int .i32 x) I32)
 okf : R.okf ≠ 0 → OkC P R.okf
 compl : ComplC P R.compl R.gErr
 tag : G.fRead ≠ 0 → TagC P G.fRead
 uv : R.uv ≠ 0 → RdC P R.uv dUv (PlB (fun x => .int .u32 (x : Nat)) (· < 4294967296))
 span : R.span ≠ 0 → SpanCS P R.span
 set : G.fRead ≠ 0 → SetC P G.fSet
def PK.zr : PK → MVal
 | .str => .estr
 | .nstr => .nptr
 | _ => .nslice
def uOff : Option Nat → Nat
 | none => 2
 | some _ => 4
def Q5 (rs f x t : Nat) : Jc × Nat := (.rg [.ca t f [.t rs], .mv x (.t t)], t + 1)
def unsR (rs f x t : Nat) : Jc × Nat := (.sq (.rg [.mv t (.t 2)]) (.cd t .any (.rg [.ca (t + 2) f [.t rs], .mv x (.t (t + 2))])), t + 3)
def rdA (R : RN) (sf : Option Nat) (k : PK) (x t : Nat) : Jc × Nat :=
 match k with
 | .str =>
  let r := ifFlex sf (t + uOff sf) (Q5 R.rs (R.fn .str true) x) (Q5 R.rs (R.fn .str false) x)
  (.sq (.rg [.mv t (.t 2)]) (.cd t .any r.1), r.2)
 | .nstr => ifFlex sf t (unsR R.rs (R.fn .nstr true) x) (unsR R.rs (R.fn .nstr false) x)
 | .byt => ifFlex sf t (Q5 R.rs (R.fn .byt true) x) (Q5 R.rs (R.fn .byt false) x)
 | .nbyt => ifFlex sf t (Q5 R.rs (R.fn .nbyt true) x) (Q5 R.rs (R.fn .nbyt false) x)
 | k => Q5 R.rs (R.fn k false) x t
def storeR (T vs idx ty x t : Nat) : Jc × Nat := (.rg [.mv t (.t vs), .mv (t + 1) (.t x), .nc (t + 2) t, .fa (t + 3) T (t + 2) idx, .st ty (t + 3) (t + 1)], t + 4)
def rdOk (R : RN) (sf : Option Nat) (k : PK) : Bool :=
 !(Nat.beq (R.fn k false) 0) && (if k.two && sf.isSome then !(Nat.beq (R.fn k true) 0) else true)
structure RCx (rs : Nat) (sf : Option Nat) (flex : Bool) (ver : Int) (rb vs b o : Nat) (ρ : Nat → Value) : Prop where
 r7 : ρ rs = .pointer (some ⟨rb, 0, none⟩)
 r2 : ρ 2 = .bool false
 r8 : ρ 8 = .int .i16 ver
 rf : ∀ s, sf = some s → ρ s = .bool flex
 nf : sf = none → flex = false
 rv : ρ vs = .pointer (some ⟨b, o, none⟩)
 hrs : rs < vs
def FB (sb h : Nat) (w : World) : Nat → Prop := fun k => k = sb ∨ (h < k ∧ k < w.heap.size)
theorem Jg.bound {w : World} {F : Nat → Prop} {a : Option Addr} {l : List UInt8} (h : Jg w F a l) : Jg w (fun k => F k ∧ k < w.heap.size) a l := fun j b hj => by
 obtain ⟨g, o, e, h1, h2⟩ := h j b hj
 exact ⟨g, o, e, ⟨h1, World.block_lt_of_cell? w _ h2⟩, h2⟩
theorem RepP.bound {w : World} {F : Nat → Prop} {k : PK} {cs : List Value} {d : D} (h : RepP w F k cs d) : RepP w (fun k => F k ∧ k < w.heap.size) k cs d := by
 cases k <;> simp only [RepP] at h ⊢ <;> try exact h
 ·rcases h with h | ⟨b, s, h1, h2, h3, h4⟩
  ·exact .inl h
  ·exact .inr ⟨b, s, h1, ⟨h2, World.block_lt_of_cell? w _ h3⟩, h3, h4⟩
 ·obtain ⟨a, c, l, h1, h2, h3⟩ := h
  exact ⟨a, c, l, h1, h2.bound, h3⟩
 ·rcases h with h | ⟨ad, c, l, h1, h2, h3⟩
  ·exact .inl h
  ·exact .inr ⟨ad, c, l, h1, h2.bound, h3⟩
theorem RepT.bound {w : World} {F : Nat → Prop} {m : Value} {tags : List (Nat × List UInt8)} (h : RepT w F m tags) : RepT w (fun k => F k ∧ k < w.heap.size) m tags := by
 rcases h with h | ⟨r, es, clock, h1, h2, h3, h4, h5, h6, hs⟩
 ·exact .inl h
 ·refine .inr ⟨r, es, clock, h1, ⟨h2, (Array.getElem?_eq_some_iff.1 h3).1⟩, h3, h4, h5, fun t ht => ?_, hs⟩
  obtain ⟨g1, e, g2, g3, a, c, g4, g5⟩ := h6 t ht
  exact ⟨g1, e, g2, g3, a, c, g4, g5.bound⟩
section
variable {P : Program} {N : Nat} {Q : UE} {ρ : Nat → Value} {w w' : World} {ms : List MOp} {R : RN} {G : TG} {rb sb : Nat} {st : Option (List UInt8)} {sf : Option Nat} {flex : Bool} {ver : Int}
theorem RCx.keep {rs vs b o x : Nat} {ρ' : Nat → Value} (h : RCx rs sf flex ver rb vs b o ρ) (hk : ∀ s, s < x → ρ' s = ρ s) (hx : 9 ≤ x) (hs : ∀ s, sf = some s → s < x) (hv : vs < x) : RCx rs sf flex ver rb vs b o ρ' :=
 ⟨by rw [hk rs (by have := h.hrs; omega)]; exact h.r7, by rw [hk 2 (by omega)]; exact h.r2, by rw [hk 8 (by omega)]; exact h.r8, fun s e => by rw [hk s (hs s e)]; exact h.rf s e, h.nf, by rw [hk vs hv]; exact h.rv, h.hrs⟩
theorem callR_ok {k : PK} {rs f x t L : Nat} (hc : RdC P f (dP k flex) (PrC k)) (hx : x < L) (h7 : 7 < L) (ht : L ≤ t) (hN : t + 1 ≤ N) (h : RdAt w rb sb st) (hne : sb ≠ rb) (hrs : rs < L) (r7 : ρ rs = .pointer (some ⟨rb, 0, none⟩))
  (hQ : ∀ ρ' w' v d st', (∀ s, s < L → s ≠ x → ρ' s = ρ s) → ρ' x = v → Fr (fun _ => False) rb 0 2 w w' → Got (dP k flex) st d st' → RdAt w' rb sb st' → PrC k w' (Rb w sb) v d → Q .normal ρ' w') : RW P N (Q5 rs f x t).1 Q ρ w := by
 refine RW.rg (RL.rd hc r7 h hne (ltT (by omega)) (by omega) fun v d st' w' h1 h2 h3 h4 => RL.s (MR.mv (Ja _ _ _) (ltT (by omega))) (RL.nil ?_) (by omega))
 exact hQ _ w' v d st' (fun s hs hsx => by rw [Jb _ _ hsx, Jb _ _ (by omega)]) (Ja _ _ _) h1 h2 h3 h4
theorem unsR_ok {k : PK} {rs f x t L : Nat} (hc : RdC P f (dP k flex) (PrC k)) (hx : x < L) (h7 : 7 < L) (ht : L ≤ t) (hN : t + 3 ≤ N) (h : RdAt w rb sb st) (hne : sb ≠ rb) (hrs : rs < L) (r7 : ρ rs = .pointer (some ⟨rb, 0, none⟩)) (r2 : ρ 2 = .bool false)
  (hQ : ∀ ρ' w' v d st', (∀ s, s < L → s ≠ x → ρ' s = ρ s) → ρ' x = v → Fr (fun _ => False) rb 0 2 w w' → Got (dP k flex) st d st' → RdAt w' rb sb st' → PrC k w' (Rb w sb) v d → Q .normal ρ' w') : RW P N (unsR rs f x t).1 Q ρ w := by
 refine RW.sq (RW.rg (RL.s (MR.mv r2 (ltT (by omega))) (RL.nil (RW.cd (b := false) (Ja _ _ _) (fun e => by cases e) (fun _ => ?_) (by omega))) (by omega)))
 refine RW.rg (RL.rd hc (by show upd _ _ _ rs = _; rw [Jb _ _ (by omega)]; exact r7) h hne (ltT (by omega)) (by omega) fun v d st' w' h1 h2 h3 h4 => RL.s (MR.mv (Ja _ _ _) (ltT (by omega))) (RL.nil ?_) (by omega))
 exact hQ _ w' v d st' (fun s hs hsx => by rw [Jb _ _ hsx, Jb _ _ (by omega), Jb _ _ (by omega)]) (Ja _ _ _) h1 h2 h3 h4
theorem RW.ifF {t L : Nat} {yes no : Nat → Jc × Nat} (ht : L ≤ t) (hN : (ifFlex sf t yes no).2 ≤ N) (hy : ∀ t, t ≤ (yes t).2) (hn : ∀ t, t ≤ (no t).2) (hs : ∀ s, sf = some s → s < L) (hf : ∀ s, sf = some s → ρ s = .bool flex) (hnf : sf = none → flex = false)
  (h1 : flex = true → ∀ ρ' t', (∀ s, s < L → ρ' s = ρ s) → L ≤ t' → (yes t').2 ≤ N → RW P N (yes t').1 Q ρ' w) (h2 : flex = false → ∀ ρ' t', (∀ s, s < L → ρ' s = ρ s) → L ≤ t' → (no t').2 ≤ N → RW P N (no t').1 Q ρ' w) : RW P N (ifFlex sf t yes no).1 Q ρ w := by
 unfold ifFlex at hN ⊢
 cases sf with
 | none => exact h2 (hnf rfl) ρ t (fun _ _ => rfl) ht hN
 | some s =>
  simp only at hN ⊢
  have e1 := hy (t + 1)
  have e2 := hn (yes (t + 1)).2
  have hsl := hs s rfl
  refine RW.sq (RW.rg (RL.s (MR.mv (hf s rfl) (ltT (by omega))) (RL.nil ?_) (by omega)))
  exact RW.cd (Ja _ _ _) (fun e => h1 e _ _ (fun s hs => by rw [Jb _ _ (by omega)]) (by omega) (by omega)) (fun e => h2 e _ _ (fun s hs => by rw [Jb _ _ (by omega)]) (by omega) (by omega)) (by omega)
theorem ifFlex_le2 {t : Nat} {yes no : Nat → Jc × Nat} (h1 : ∀ t, t ≤ (yes t).2) (h2 : ∀ t, t ≤ (no t).2) : t ≤ (ifFlex sf t yes no).2 := by
 unfold ifFlex
 cases sf with
 | none => exact h2 t
 | some s => exact Nat.le_trans (Nat.le_succ t) (Nat.le_trans (h1 _) (h2 _))
theorem Qk {rs f x t : Nat} : t ≤ (Q5 rs f x t).2 := Nat.le_succ t
theorem unsR_le {rs f x t : Nat} : t ≤ (unsR rs f x t).2 := by simp [unsR]
theorem rdA_le {k : PK} {x t : Nat} : t ≤ (rdA R sf k x t).2 := by
 have hl : ∀ f, ∀ t, t ≤ (Q5 R.rs f x t).2 := fun f t => Qk
 cases k <;> simp only [rdA]
 all_goals first | exact Qk | (exact ifFlex_le2 (fun _ => Qk) (fun _ => Qk)) | (exact ifFlex_le2 (fun _ => unsR_le) (fun _ => unsR_le)) | skip
 exact Nat.le_trans (Nat.le_add_right _ _) (ifFlex_le2 (fun _ => Qk) (fun _ => Qk))
theorem rdA_ok {k : PK} {x t L : Nat} (kk : RKOK P R G) (hk : rdOk R sf k = true) (hx : x < L) (h7 : 8 < L) (hs : ∀ s, sf = some s → s < L) (ht : L ≤ t) (hN : (rdA R sf k x t).2 ≤ N) (h : RdAt w rb sb st) (hne : sb ≠ rb) (hrs : R.rs < L) (r7 : ρ R.rs = .pointer (some ⟨rb, 0, none⟩)) (r2 : ρ 2 = .bool false)
  (rf : ∀ s, sf = some s → ρ s = .bool flex) (nf : sf = none → flex = false)
  (hQ : ∀ ρ' w' v d st', (∀ s, s < L → s ≠ x → ρ' s = ρ s) → ρ' x = v → Fr (fun _ => False) rb 0 2 w w' → Got (dP k flex) st d st' → RdAt w' rb sb st' → PrC k w' (Rb w sb) v d → Q .normal ρ' w') : RW P N (rdA R sf k x t).1 Q ρ w := by
 simp only [rdOk, UA, Bool.not_eq_true', beq_eq_false_iff_ne] at hk
 obtain ⟨k3, k4⟩ := hk
 have f0 : R.fn k false ≠ 0 := fun e => by rw [e] at k3; simp at k3
 have f1 : k.two = true → flex = true → R.fn k true ≠ 0 := fun h2 hf e => by
  cases hsf : sf with
  | none => have := nf hsf; rw [this] at hf; cases hf
  | some s => rw [hsf, h2, e] at k4; simp at k4
 have one : ∀ (k : PK), k.two = false → dP k flex = dP k false := fun k hk => by cases k <;> simp [PK.two] at hk <;> rfl
 have plain : k.two = false → (rdA R sf k x t) = Q5 R.rs (R.fn k false) x t → RW P N (rdA R sf k x t).1 Q ρ w := fun h2 e => by
  rw [e] at hN ⊢
  exact callR_ok (flex := flex) (by rw [one k h2]; exact kk.fn k false f0) hx (by omega) ht hN h hne hrs r7 hQ
 have two : ∀ (k' : PK), k' = k → k.two = true → ∀ (g : Nat → Nat → Nat → Jc × Nat), (∀ f x t, t ≤ (g f x t).2) → (∀ {f t : Nat} {ρ' : Nat → Value}, (∀ s, s < L → ρ' s = ρ s) → L ≤ t → (g f x t).2 ≤ N → RdC P f (dP k flex) (PrC k) → RW P N (g f x t).1 Q ρ' w) → ∀ (t' : Nat) (ρ' : Nat → Value), L ≤ t' → (∀ s, s < L → ρ' s = ρ s) →
   (ifFlex sf t' (g (R.fn k true) x) (g (R.fn k false) x)).2 ≤ N → RW P N (ifFlex sf t' (g (R.fn k true) x) (g (R.fn k false) x)).1 Q ρ' w := by
  intro k' _ h2 g hg hgo t' ρ' ht' hρ' hN'
  refine RW.ifF (flex := flex) ht' hN' (hg _ _) (hg _ _) hs (fun s e => by rw [hρ' s (hs s e)]; exact rf s e) nf (fun e ρ2 t2 h1 h3 h4 => ?_) (fun e ρ2 t2 h1 h3 h4 => ?_)
  ·exact hgo (fun s hs => by rw [h1 s hs, hρ' s hs]) h3 h4 (by rw [e]; exact kk.fn k true (f1 h2 e))
  ·exact hgo (fun s hs => by rw [h1 s hs, hρ' s hs]) h3 h4 (by rw [e]; exact kk.fn k false f0)
 have goC : ∀ {f t : Nat} {ρ' : Nat → Value}, (∀ s, s < L → ρ' s = ρ s) → L ≤ t → (Q5 R.rs f x t).2 ≤ N → RdC P f (dP k flex) (PrC k) → RW P N (Q5 R.rs f x t).1 Q ρ' w := fun {f t ρ'} h1 h2 h3 h4 =>
  callR_ok h4 hx (by omega) h2 h3 h hne hrs (by rw [h1 R.rs hrs]; exact r7) fun ρ2 w' v d st' g1 g2 g3 g4 g5 g6 => hQ ρ2 w' v d st' (fun s hs hsx => by rw [g1 s hs hsx, h1 s hs]) g2 g3 g4 g5 g6
 have goU : ∀ {f t : Nat} {ρ' : Nat → Value}, (∀ s, s < L → ρ' s = ρ s) → L ≤ t → (unsR R.rs f x t).2 ≤ N → RdC P f (dP k flex) (PrC k) → RW P N (unsR R.rs f x t).1 Q ρ' w := fun {f t ρ'} h1 h2 h3 h4 =>
  unsR_ok h4 hx (by omega) h2 h3 h hne hrs (by rw [h1 R.rs hrs]; exact r7) (by rw [h1 2 (by omega)]; exact r2) fun ρ2 w' v d st' g1 g2 g3 g4 g5 g6 => hQ ρ2 w' v d st' (fun s hs hsx => by rw [g1 s hs hsx, h1 s hs]) g2 g3 g4 g5 g6
 have rr : ∀ s, s < L → ρ s = ρ s := fun _ _ => rfl
 cases k
 case i8 => exact plain rfl rfl
 case i16 => exact plain rfl rfl
 case i32 => exact plain rfl rfl
 case i64 => exact plain rfl rfl
 case u16 => exact plain rfl rfl
 case bool => exact plain rfl rfl
 case f64 => exact plain rfl rfl
 case uuid => exact plain rfl rfl
 case byt => exact two .byt rfl rfl (Q5 R.rs) (fun _ _ _ => Qk) goC t ρ ht rr hN
 case nbyt => exact two .nbyt rfl rfl (Q5 R.rs) (fun _ _ _ => Qk) goC t ρ ht rr hN
 case nstr => exact two .nstr rfl rfl (unsR R.rs) (fun _ _ _ => unsR_le) goU t ρ ht rr hN
 case str =>
  simp only [rdA] at hN ⊢
  have hle : t + uOff sf ≤ N := Nat.le_trans (ifFlex_le2 (fun _ => Qk) (fun _ => Qk)) hN
  have htN : t < N := by cases sf <;> simp only [uOff] at hle <;> omega
  refine RW.sq (RW.rg (RL.s (MR.mv r2 (ltT (by omega))) (RL.nil (RW.cd (b := false) (Ja _ _ _) (fun e => by cases e) (fun _ => ?_) htN)) htN))
  exact two .str rfl rfl (Q5 R.rs) (fun _ _ _ => Qk) goC _ _ (by omega) (fun s hs => by rw [Jb _ _ (by omega)]) hN
end
set_option linter.unusedVariables false
def primR (R : RN) (sf : Option Nat) (T vs idx : Nat) (k : PK) (ty t x : Nat) : Jc × Nat :=
 let r := rdA R sf k x t
 (rows ((if k.two then [.rg [.mv x (.c k.zr)]] else []) ++ [r.1, (storeR T vs idx ty x r.2).1]), r.2 + 4)
def elemR (R : RN) (sf : Option Nat) (k : PK) (ty ety x t : Nat) : Jc × Nat :=
 let e := rdA R sf k (x + 4) t
 (rows ((if k.two then [.rg [.mv (x + 4) (.c k.zr)]] else []) ++ [e.1, .rg [.mv e.2 (.t (x + 1)), .mv (e.2 + 1) (.t (x + 3)), .mv (e.2 + 2) (.t (x + 4)), .ia (e.2 + 3) ty e.2 (e.2 + 1), .st ety (e.2 + 3) (e.2 + 2)]]), e.2 + 4)
def elemRU (R : RN) (ty ety x t : Nat) : Jc × Nat :=
 (rows [.rg [.ca t R.uuid [.t R.rs], .al (x + 4) ety, .st ety (x + 4) t], .rg [.mv (t + 1) (.t (x + 1)), .mv (t + 2) (.t (x + 3)), .ld (t + 3) ety (x + 4), .ia (t + 4) ty (t + 1) (t + 2), .st ety (t + 4) (t + 3)]], t + 5)
def elemU (R : RN) (sf : Option Nat) (k : PK) (ty ety x t : Nat) : Jc × Nat := match k with
 | .uuid => elemRU R ty ety x t
 | k => elemR R sf k ty ety x t
def loopR (R : RN) (x u b : Nat) (body : Jc) : Jc :=
 .sq (.rg [.mv (x + 3) (.c (.int .i32 0))]) (.bl b (.lp (.sq (.sq (.rg [.mv (u + 10) (.t (x + 3)), .mv (u + 11) (.t (x + 2)), .bi (u + 12) .lss R.T.i32 (.t (u + 10)) (.t (u + 11))]) (.cd (u + 12) .sk (.ex b)))
  (.sq (.bl (b + 1) body) (.rg [.mv (u + 13) (.t (x + 3)), .bi (u + 14) .add R.T.i32 (.t (u + 13)) (.c (.int .i32 1)), .mv (x + 3) (.t (u + 14))])))))
def makeR (R : RN) (ty x u : Nat) : List Jc :=
 [.sq (.rg [.ca u R.okf [.t R.rs], .nt (u + 1) u]) (.cd (u + 1) (.sq (.rg [.ca (u + 2) R.compl [.t R.rs], .mv 6 (.t (u + 2))]) .rt) .sk),
  .rg [.mv (u + 3) (.t (x + 1)), .sl (u + 4) ty (u + 3) none (some (.c (.int .i64 0))) none, .mv (x + 1) (.t (u + 4))],
  .sq (.rg [.mv (u + 5) (.t (x + 2)), .bi (u + 6) .gtr R.T.i32 (.t (u + 5)) (.c (.int .i32 0))]) (.cd (u + 6) (.rg [.mv (u + 7) (.t (x + 1)), .mv (u + 8) (.t (x + 2)), .ap (u + 9) ty R.T.i32 (u + 7) (u + 8), .mv (x + 1) (.t (u + 9))]) .sk)]
def lenR (R : RN) (sf : Option Nat) (x t : Nat) : Jc × Nat := ifFlex sf t (Q5 R.rs R.calen (x + 2)) (Q5 R.rs R.alen (x + 2))
def uuidR (R : RN) (T vs idx ty t x : Nat) : Jc × Nat :=
 (rows [.rg [.ca t R.uuid [.t R.rs], .al x ty, .st ty x t], .rg [.mv (t + 1) (.t vs), .ld (t + 2) ty x, .nc (t + 3) (t + 1), .fa (t + 4) T (t + 3) idx, .st ty (t + 4) (t + 2)]], t + 5)
def enumR (R : RN) (T vs idx : Nat) (k : PK) (ty t x : Nat) : Jc × Nat :=
 (rows [.rg [.mv x (.c (.int k.ik 0))], .sq (.rg [.ca t (R.fn k false) [.t R.rs], .mv (x + 1) (.t t)]) (.rg [.mv (t + 1) (.t (x + 1)), .mv x (.t (t + 1))]), .rg [.mv (t + 2) (.t x), .mv (x + 2) (.t (t + 2))], (storeR T vs idx ty (x + 2) (t + 3)).1], t + 7)
def primU (R : RN) (sf : Option Nat) (T vs idx : Nat) (k : PK) (ty t x : Nat) : Jc × Nat := match k with
 | .uuid => uuidR R T vs idx ty t x
 | k => primR R sf T vs idx k ty t x
def unsB (rs f base x t : Nat) : Jc × Nat := (.sq (.rg [.mv t (.t 2)]) (.cd t .any (.rg [.ca (t + 2) f [.t rs], .st base x (t + 2)])), t + 3)
def vstrR (R : RN) (sf : Option Nat) (T vs idx lim ty base t x : Nat) : Jc × Nat :=
 let y := ifFlex sf (t + 2) (unsB R.rs (R.fn .str true) base (x + 1)) (unsB R.rs (R.fn .str false) base (x + 1))
 let n := rdA R sf .nstr x y.2
 (rows [.rg [.mv x (.c .nptr)], .sq (.rg [.mv t (.t 8), .bi (t + 1) .lss R.T.i16 (.t t) (.c (.int .i16 lim))]) (.cd (t + 1) (.sq (.rg [.al (x + 1) base]) (.sq y.1 (.rg [.mv x (.t (x + 1))]))) n.1), (storeR T vs idx ty x n.2).1], n.2 + 4)
def nulT : Option Nat → Nat
 | none => 0
 | some _ => 7
def nulC (R : RN) (nul : Option Nat) (ty x u : Nat) : List Jc := match nul with
 | none => []
 | some nv => [.sq (.gr false [⟨0, none, .mv u (.t 8)⟩, ⟨1, none, .bi (u + 1) .lss R.T.i16 (.t u) (.c (.int .i16 nv))⟩, ⟨2, none, .mv (u + 2) (.t (u + 1))⟩, ⟨3, some (2, u + 2, false), .mv (u + 3) (.t (x + 2))⟩, ⟨4, some (2, u + 2, false), .bi (u + 4) .eql R.T.i32 (.t (u + 3)) (.c (.int .i32 0))⟩, ⟨5, none, .pk (u + 5) (.t (u + 2)) (.c (.bool true)) (.t (u + 4))⟩])
   (.cd (u + 5) (.rg [.bsl (u + 6) ty [], .mv (x + 1) (.t (u + 6))]) .sk)]
def arrRL (R : RN) (sf : Option Nat) (nul : Option Nat) (T vs idx ty : Nat) (t x b : Nat) (body : Nat → Jc × Nat × Nat × Nat) : List Jc × Nat × Nat × Nat :=
 let a := lenR R sf x (t + 5)
 let u := a.2 + nulT nul
 let e := body (u + 15)
 ([(loadA T vs idx ty x t).1, .rg [.mv (t + 4) (.t x), .mv (x + 1) (.t (t + 4))], .rg [.mv (x + 2) (.c (.int .i32 0))], a.1] ++ (nulC R nul ty x a.2 ++ (makeR R ty x u ++
   [loopR R x u b e.1, .rg [.mv e.2.1 (.t (x + 1)), .mv x (.t e.2.1)], (storeR T vs idx ty x (e.2.1 + 1)).1])), e.2.1 + 5, e.2.2.1, e.2.2.2)
def arrR (R : RN) (sf : Option Nat) (nul : Option Nat) (T vs idx ty : Nat) (t x b : Nat) (body : Nat → Jc × Nat × Nat × Nat) : Jc × Nat × Nat × Nat :=
 let r := arrRL R sf nul T vs idx ty t x b body
 (rows r.1, r.2)
def condR (R : RN) (c : Cnd) (t : Nat) (body : Nat → Jc × Nat × Nat × Nat) : Jc × Nat × Nat × Nat :=
 match c with
 | .always => body t
 | .ge lo =>
  let r := body (t + 2)
  (.sq (.rg [.mv t (.t 8), .bi (t + 1) .geq R.T.i16 (.t t) (.c (.int .i16 lo))]) (.cd (t + 1) r.1 .sk), r.2)
 | .btw lo hi =>
  let r := body (t + 6)
  (.sq (.tw 8 R.T.i16 lo hi t) (.cd (t + 5) r.1 .sk), r.2)
 | .tag => body t
def krCase (R : RN) (T vs : Nat) (q : KT) (v c : Nat) : Jc :=
 rows [.rg [.ca (c + 2) R.uv [.t R.rs], .cv (c + 3) R.T.u32 R.T.int (c + 2), .ca (c + 4) R.span [.t R.rs, .t (c + 3)], .bdl (c + 5) R.tR [(0, .t (c + 4))], .al v R.tR, .st R.tR v (c + 5)],
  .rg [.ca (c + 6) (R.fn q.k false) [.t v], .mv (v + 1) (.t (c + 6))], (storeR T vs q.idx q.ty (v + 1) (c + 7)).1, .rg [.ca (c + 11) R.compl [.t v], .mv (v + 2) (.t (c + 11))],
  .sq (.rg [.mv (c + 12) (.t (v + 2)), .bi (c + 13) .neq R.tErr (.t (c + 12)) (.c .niface)]) (.cd (c + 13) (.sq (.rg [.mv (c + 14) (.t (v + 2)), .mv 6 (.t (c + 14))]) .rt) .sk)]
def krChain (R : RN) (T vs s : Nat) : List KT → (v c : Nat) → Jc → Jc
 | [], _, _, d => d
 | q :: r, v, c, d => .sq (.rg [.bi (c + 1) .eql R.T.u32 (.t s) (.c (.int .u32 q.tag)), .mv c (.t (c + 1))]) (.cd c (krCase R T vs q v c) (krChain R T vs s r (v + 3) (c + 15) d))
def krDflt (R : RN) (G : TG) (T vs idx x t : Nat) : Jc :=
 .gr true [⟨0, none, .mv (t + 8) (.t vs)⟩, ⟨1, none, .nc (t + 9) (t + 8)⟩, ⟨2, none, .fa (t + 10) T (t + 9) idx⟩, ⟨3, none, .mv (t + 11) (.t (x + 1))⟩, ⟨4, none, .ca (t + 12) R.uv [.t R.rs]⟩, ⟨5, none, .cv (t + 13) R.T.u32 R.T.int (t + 12)⟩,
  ⟨6, none, .ca (t + 14) R.span [.t R.rs, .t (t + 13)]⟩, ⟨7, none, .ca (t + 15) G.fSet [.t (t + 10), .t (t + 11), .t (t + 14)]⟩]
def krBody (R : RN) (G : TG) (T vs idx : Nat) (kn : List KT) (t x b : Nat) : Jc :=
 .sq (.rg [.ca (t + 1) R.uv [.t R.rs], .mv x (.t (t + 1))]) (.bl b (.lp (.sq (.sq (.rg [.mv (t + 2) (.t x), .bi (t + 3) .gtr R.T.u32 (.t (t + 2)) (.c (.int .u32 0))]) (.cd (t + 3) .sk (.ex b)))
  (.sq (.bl (b + 1) (.sq (.rg [.ca (t + 6) R.uv [.t R.rs], .mv (x + 1) (.t (t + 6))]) (.sq (.rg [.mv (t + 7) (.t (x + 1))]) (.bl (b + 2) (krChain R T vs (t + 7) kn (x + 2) (t + 16) (krDflt R G T vs idx x t))))))
   (.rg [.mv (t + 4) (.t x), .bi (t + 5) .sub R.T.u32 (.t (t + 4)) (.c (.int .u32 1)), .mv x (.t (t + 5))])))))
def QN (R : RN) (G : TG) (sf : Option Nat) (T vs : Nat) (tg : Option TgF) (t x b : Nat) : List Jc × Nat × Nat × Nat :=
 match tg, sf with
 | some ((idx, []), _), some s => ([.sq (.rg [.mv t (.t s)]) (.cd t (.rg [.mv (t + 1) (.t vs), .ca (t + 2) G.fRead [.t R.rs], .nc (t + 3) (t + 1), .fa (t + 4) T (t + 3) idx, .st G.tSt (t + 4) (t + 2)]) .sk)], t + 5, x, b)
 | some ((idx, q :: r), _), some s => ([.sq (.rg [.mv t (.t s)]) (.cd t (krBody R G T vs idx (q :: r) t x b) .sk)], t + 16 + 15 * (q :: r).length, x + 2 + 3 * (q :: r).length, b + 3)
 | _, _ => ([], t, x, b)
def elemH (ty fDef x t : Nat) : List Jc := [.rg [.mv t (.t (x + 1)), .mv (t + 1) (.t (x + 3)), .ia (t + 2) ty t (t + 1), .mv (x + 4) (.t (t + 2))], .rg [.mv (t + 3) (.t (x + 4)), .ca (t + 4) fDef [.t (t + 3)]], .rg [.mv (t + 5) (.t (x + 4)), .mv (x + 5) (.t (t + 5))]]
def subH (T vs idx fDef t x : Nat) : List Jc := [.rg [.mv t (.t vs), .nc (t + 1) t, .fa (t + 2) T (t + 1) idx, .mv x (.t (t + 2))], .rg [.mv (t + 3) (.t x), .ca (t + 4) fDef [.t (t + 3)]], .rg [.mv (t + 5) (.t x), .mv (x + 1) (.t (t + 5))]]
def kpBody (R : RN) (G : TG) (T vs idx : Nat) (case : Jc) (t x b : Nat) : Jc :=
 .sq (.rg [.ca (t + 1) R.uv [.t R.rs], .mv x (.t (t + 1))]) (.bl b (.lp (.sq (.sq (.rg [.mv (t + 2) (.t x), .bi (t + 3) .gtr R.T.u32 (.t (t + 2)) (.c (.int .u32 0))]) (.cd (t + 3) .sk (.ex b)))
  (.sq (.bl (b + 1) (.sq (.rg [.ca (t + 6) R.uv [.t R.rs], .mv (x + 1) (.t (t + 6))]) (.sq (.rg [.mv (t + 7) (.t (x + 1))]) (.bl (b + 2)
    (.sq (.rg [.bi (t + 17) .eql R.T.u32 (.t (t + 7)) (.c (.int .u32 0)), .mv (t + 16) (.t (t + 17))]) (.cd (t + 16) case (krDflt R G T vs idx x t)))))))
   (.rg [.mv (t + 4) (.t x), .bi (t + 5) .sub R.T.u32 (.t (t + 4)) (.c (.int .u32 1)), .mv x (.t (t + 5))])))))
def kpHead (R : RN) (t x : Nat) : Jc := .rg [.ca (t + 18) R.uv [.t R.rs], .cv (t + 19) R.T.u32 R.T.int (t + 18), .ca (t + 20) R.span [.t R.rs, .t (t + 19)], .bdl (t + 21) R.tR [(0, .t (t + 20))], .al (x + 2) R.tR, .st R.tR (x + 2) (t + 21)]
def kpTail (R : RN) (x p y : Nat) : List Jc :=
 [.rg [.ca p R.compl [.t (x + 2)], .mv y (.t p)], .sq (.rg [.mv (p + 1) (.t y), .bi (p + 2) .neq R.tErr (.t (p + 1)) (.c .niface)]) (.cd (p + 2) (.sq (.rg [.mv (p + 3) (.t y), .mv 6 (.t (p + 3))]) .rt) .sk)]
mutual
def JN (R : RN) (G : TG) (sf : Option Nat) : Ty → (T vs idx t x b : Nat) → Jc × Nat × Nat × Nat
 | .prim k ty, T, vs, idx, t, x, b => let r := primU R sf T vs idx k ty t x; (r.1, r.2, x + 1, b)
 | .arr nul ty ety el, T, vs, idx, t, x, b => arrR R sf nul T vs idx ty t x b (fun t => elR R G sf el ty ety t x b)
 | .enum k ty _, T, vs, idx, t, x, b => let r := enumR R T vs idx k ty t x; (r.1, r.2, x + 3, b)
 | .vstr lim ty base, T, vs, idx, t, x, b => let r := vstrR R sf T vs idx lim ty base t x; (r.1, r.2, x + 2, b)
 | .struct T' _ fDef tg fs, T, vs, idx, t, x, b =>
  let f := Jv R G sf fs T' (x + 1) (t + 6) (x + 2) b
  let g := J6 R G sf tg fs T' (x + 1) f.2.1 f.2.2.1 f.2.2.2
  (rows (subH T vs idx fDef t x ++ (f.1 ++ g.1)), g.2)
def elR (R : RN) (G : TG) (sf : Option Nat) : Ty → (ty ety t x b : Nat) → Jc × Nat × Nat × Nat
 | .prim k _, ty, ety, t, x, b => let e := elemU R sf k ty ety x t; (e.1, e.2, x + 5, b + 2)
 | .struct T _ fDef tg fs, ty, ety, t, x, b =>
  let f := Jv R G sf fs T (x + 5) (t + 6) (x + 6) (b + 2)
  let g := J6 R G sf tg fs T (x + 5) f.2.1 f.2.2.1 f.2.2.2
  (rows (elemH ty fDef x t ++ (f.1 ++ g.1)), g.2)
 | .arr _ _ _ _, ty, ety, t, x, b => (.any, t, x + 5, b + 2)
 | .enum _ _ _, ty, ety, t, x, b => (.any, t, x + 5, b + 2)
 | .vstr _ _ _, ty, ety, t, x, b => (.any, t, x + 5, b + 2)
def Jv (R : RN) (G : TG) (sf : Option Nat) : Flds → (T vs t x b : Nat) → List Jc × Nat × Nat × Nat
 | .nil, T, vs, t, x, b => ([], t, x, b)
 | .cons c idx _ _ ty rest, T, vs, t, x, b =>
  if c.isTag then Jv R G sf rest T vs t x b else
  let f := condR R c t (fun t => JN R G sf ty T vs idx t x b)
  let r := Jv R G sf rest T vs f.2.1 f.2.2.1 f.2.2.2
  (f.1 :: r.1, r.2)
def J6 (R : RN) (G : TG) (sf : Option Nat) (tg : Option TgF) : Flds → (T vs t x b : Nat) → List Jc × Nat × Nat × Nat
 | .nil, T, vs, t, x, b => QN R G sf T vs tg t x b
 | .cons c idx _ _ ty rest, T, vs, t, x, b =>
  if c.isTag then match tg, sf with
   | some q, some s =>
    let r := JQ { R with rs := x + 2 } G sf ty T vs idx (t + 22) (x + 3) (b + 3)
    ([.sq (.rg [.mv t (.t s)]) (.cd t (kpBody R G T vs q.1.1 (rows (kpHead R t x :: (r.1 ++ kpTail R x r.2.1 r.2.2.1))) t x b) .sk)], r.2.1 + 4, r.2.2.1 + 1, r.2.2.2)
   | _, _ => ([], t, x, b)
  else J6 R G sf tg rest T vs t x b
def JQ (R : RN) (G : TG) (sf : Option Nat) : Ty → (T vs idx t x b : Nat) → List Jc × Nat × Nat × Nat
 | .arr nul ty ety el, T, vs, idx, t, x, b => arrRL R sf nul T vs idx ty t x b (fun t => elR R G sf el ty ety t x b)
 | .struct T' _ fDef tg fs, T, vs, idx, t, x, b =>
  let f := Jv R G sf fs T' (x + 1) (t + 6) (x + 2) b
  let g := QN R G sf T' (x + 1) tg f.2.1 f.2.2.1 f.2.2.2
  (subH T vs idx fDef t x ++ (f.1 ++ g.1), g.2)
 | _, T, vs, idx, t, x, b => ([], t, x, b)
end
/-! ### A type's zero, the defaults of a struct -/
def toM : Value → Option MVal
 | .int k n => some (.int k n)
 | .bool b => some (.bool b)
 | v => [MVal.nslice, .estr, .niface, .nptr, .nmap, .flt].find? (fun m => m.is v)
theorem toM_eq {v : Value} {m : MVal} (h : toM v = some m) : v = m.val := by
 unfold toM at h
 split at h
 ·simp only [UC] at h; subst h; rfl
 ·simp only [UC] at h; subst h; rfl
 ·exact MVal.is_eq (by simpa using List.find?_some h)
def toMs : List Value → Option (List MVal)
 | [] => some []
 | v :: vs => match toM v, toMs vs with
  | some m, some ms => some (m :: ms)
  | _, _ => none
theorem toMs_eq : ∀ {vs : List Value} {ms : List MVal}, toMs vs = some ms → vs = ms.map MVal.val
 | [], ms, h => by simp only [toMs, UC] at h; subst h; rfl
 | v :: vs, ms, h => by
  unfold toMs at h
  split at h
  ·rename_i m ms' h1 h2
   simp only [UC] at h
   subst h
   rw [toM_eq h1, toMs_eq h2]; rfl
  ·cases h
def zeroM (P : Program) (ety : Nat) : Option (List MVal) := match P.info? ety with
 | some i => (match i.zero with
  | some z => (match toMs z.cells.toList with
   | some zs => if Nat.beq zs.length i.size && Nat.ble i.bytes 65536 && Nat.blt 0 i.size then some zs else none
   | none => none)
  | none => none)
 | none => none
def ZE (P : Program) (ety ec : Nat) (zs : List Value) : Prop := ∃ i z, P.info? ety = some i ∧ i.zero = some z ∧ z.cells.toList = zs ∧ zs.length = ec ∧ i.size = ec ∧ i.bytes ≤ 65536 ∧ 0 < ec
theorem ze_of {P : Program} {ety : Nat} {zs : List MVal} (h : zeroM P ety = some zs) : ZE P ety zs.length (zs.map MVal.val) := by
 unfold zeroM at h
 split at h
 ·rename_i i hi
  split at h
  ·rename_i z hz
   split at h
   ·rename_i ms hms
    split at h
    ·rename_i hc
     simp only [UC] at h
     subst h
     simp only [UA, Nat.beq_eq, Nat.ble_eq, Nat.blt_eq] at hc
     obtain ⟨⟨h1, h2⟩, h3⟩ := hc
     exact ⟨i, z, hi, hz, toMs_eq hms, by simp, h1.symm, h2, by omega⟩
    ·cases h
   ·cases h
  ·cases h
 ·cases h
mutual
def dfOf (T idx off : Nat) (df : Int) : Ty → Option Df
 | .prim k ty => if JP df 0 then none else match k with
  | .bool => some (.st T idx off ty (.bool true))
  | k => some (.st T idx off ty (.int k.ik df))
 | .enum k ty _ => if JP df 0 then none else some (.st T idx off ty (.int k.ik df))
 | .vstr _ _ _ => none
 | .arr _ _ _ _ => none
 | .struct T' _ _ _ fs => some (.sub T idx off (Qd T' fs))
def Qd (T : Nat) : Flds → Dfs
 | .nil => .nil
 | .cons _ idx off df ty rest => match dfOf T idx off df ty with
  | some d => .cons d (Qd T rest)
  | none => Qd T rest
end
def eqLs (f : D → D → Bool) : List D → List D → Bool
 | [], [] => true
 | a :: as, b :: bs => f a b && eqLs f as bs
 | _, _ => false
theorem eqLs_eq {f : D → D → Bool} (hf : ∀ a b, f a b = true → a = b) : ∀ {as bs : List D}, eqLs f as bs = true → as = bs
 | [], [], _ => rfl
 | a :: as, b :: bs, h => by
  simp only [eqLs, UA] at h
  rw [hf a b h.1, eqLs_eq hf h.2]
 | [], _ :: _, h => by simp [eqLs] at h
 | _ :: _, [], h => by simp [eqLs] at h
def eqDb : D → D → Bool
 | .n a, .n b => JP a b
 | .s none, .s none => true
 | .s (some a), .s (some b) => eqB a b
 | .l a [], .l b [] => a == b
 | _, _ => false
theorem eqDb_eq {a b : D} (h : eqDb a b = true) : a = b := by
 unfold eqDb at h
 split at h
 ·rw [Jw h]
 ·rfl
 ·rw [eqB_eq h]
 ·rw [beq_iff_eq] at h; rw [h]
 ·simp at h
def eqDn : Nat → D → D → Bool
 | 0 => eqDb
 | n + 1 => fun a b => match a, b with
  | .r a [], .r b [] => eqLs (eqDn n) a b
  | a, b => eqDb a b
theorem eqDn_eq : ∀ (n : Nat) (a b : D), eqDn n a b = true → a = b
 | 0, a, b, h => eqDb_eq h
 | n + 1, a, b, h => by
  unfold eqDn at h
  split at h
  ·rw [eqLs_eq (eqDn_eq n) h]
  ·exact eqDb_eq h
def eqD0 : D → D → Bool := eqDn 4
theorem eqD0_eq {a b : D} (h : eqD0 a b = true) : a = b := eqDn_eq 4 a b h
def zfB : Flds → List MVal → Bool
 | .nil, _ => true
 | .cons _ _ off df ty rest, cs => Nat.ble (off + ty.cells) cs.length && (match defT ty ((cs.drop off).take ty.cells) with | some d => eqD0 d (dfl ty df) | none => false) && zfB rest cs
def gapF : Flds → Nat → Bool
 | .nil, _ => true
 | .cons _ _ off _ ty r, j => (Nat.blt j off || Nat.ble (off + ty.cells) j) && gapF r j
def krB (P : Program) (R : RN) (G : TG) (T m : Nat) (fs : Flds) (kn : List KT) : Bool := kn.isEmpty
def preN (tg : Option TgF) (n : Nat) : Nat := match tg with | none => n | some q => q.2
def elB (P : Program) (R : RN) (G : TG) (ety T n fDef : Nat) (tg : Option TgF) (fs : Flds) : Bool := match zeroM P ety with
 | some zs => Nat.beq zs.length n && isFn0 P fDef (rows (genD 0 (Qd T fs) (QK (Qd T fs)) 2).1) (genD 0 (Qd T fs) (QK (Qd T fs)) 2).2.1 && okD P n (Qd T fs) 0 && Nat.ble (genD 0 (Qd T fs) (QK (Qd T fs)) 2).2.2 (QK (Qd T fs)) &&
   zfB fs ((putM (Qd T fs) 0 zs).take (preN tg n)) && Jh P ety n && (match tg with | none => true | some q => Nat.beq n (q.2 + 1) && Jd P T q.1.1 q.2 && krB P R G T q.2 fs q.1.2 && defTag tg (putM (Qd T fs) 0 zs) && !(Nat.beq G.fRead 0))
 | none => false
def Dfs.isNil : Dfs → Bool
 | .nil => true
 | _ => false
def subB (P : Program) (R : RN) (G : TG) (T n fDef : Nat) (tg : Option TgF) (fs : Flds) : Bool := (Qd T fs).isNil && isFn0 P fDef (rows (genD 0 (Qd T fs) (QK (Qd T fs)) 2).1) (genD 0 (Qd T fs) (QK (Qd T fs)) 2).2.1 && okD P n (Qd T fs) 0 && Nat.ble (genD 0 (Qd T fs) (QK (Qd T fs)) 2).2.2 (QK (Qd T fs)) &&
 Nat.ble (preN tg n) n && (match tg with | none => true | some q => Nat.beq n (q.2 + 1) && Jd P T q.1.1 q.2 && krB P R G T q.2 fs q.1.2 && !(Nat.beq G.fRead 0))
def arrB (P : Program) (R : RN) (sf : Option Nat) (ty ety ec : Nat) : Bool := Jh P ty 1 && Jm P ty && Jk P ty ety && Jh P ety ec && (match zeroM P ety with | some zs => Nat.beq zs.length ec | none => false) && !(Nat.beq R.alen 0) && !(Nat.beq R.okf 0) && (match sf with | none => true | some _ => !(Nat.beq R.calen 0)) && JC P R.T.i32 .i32
def tagTy : Flds → Option Ty
 | .nil => none
 | .cons c _ _ _ ty rest => if c.isTag then some ty else tagTy rest
def s2RF : Flds → Bool
 | .cons .always _ o1 _ (.prim .i32 _) (.cons .always _ o2 _ (.prim .i32 _) .nil) => Nat.beq o1 0 && Nat.beq o2 1
 | _ => false
def s2RB : Ty → Bool
 | .struct _ n _ (some q) fs => Nat.beq n 3 && Nat.beq q.2 2 && q.1.2.isEmpty && s2RF fs
 | _ => false
def tagB (P : Program) (R : RN) (G : TG) (tg : Option TgF) (fs : Flds) : Bool := match tagTy fs with
 | none => true
 | some _ => oneT fs && (match tg with | some q => q.1.2.isEmpty | none => false) && !(Nat.beq G.fRead 0) && ifaceTy P R.tErr && zeroIs P R.tR [.nslice, .bool false] && plcB P R.tR 2 && Jh P R.tR 2 && !(Nat.beq R.uv 0) && !(Nat.beq R.span 0) && !(Nat.beq R.T.u32 0)
def tagE (P : Program) (R : RN) (G : TG) (tg : Option TgF) (fs : Flds) : Bool := tagB P R G tg fs && (match tagTy fs with | none => true | some ty => s2RB ty)
def uuB (P : Program) (k : PK) (ty : Nat) : Bool := match k with | .uuid => false | _ => true
mutual
def Qq (P : Program) (R : RN) (G : TG) (sf : Option Nat) : Ty → Bool
 | .prim k ty => rdOk R sf k && Jh P ty k.cells && uuB P k ty
 | .arr nul ty ety el => nul.isNone && (arrB P R sf ty ety el.cells && wfEl P R G sf el ety)
 | .enum .. => false
 | .vstr .. => false
 | .struct T n fDef tg fs => subB P R G T n fDef tg fs && (tagE P R G tg fs && wfRF P R G sf fs T (preN tg n) 0)
def wfEl (P : Program) (R : RN) (G : TG) (sf : Option Nat) : Ty → (ety : Nat) → Bool
 | .prim k _, ety => rdOk R sf k && Jh P ety k.cells && uuB P k ety
 | .struct T n fDef tg fs, ety => elB P R G ety T n fDef tg fs && (tagE P R G tg fs && wfRF P R G sf fs T (preN tg n) 0)
 | .arr _ _ _ _, ety => false
 | .enum _ _ _, ety => false
 | .vstr _ _ _, ety => false
def wfRF (P : Program) (R : RN) (G : TG) (sf : Option Nat) : Flds → (T n k : Nat) → Bool
 | .nil, T, n, k => Nat.ble k n
 | .cons _ idx off _ ty rest, T, n, k => Nat.ble k off && Jd P T idx off && Qq P R G sf ty && wfRF P R G sf rest T n (off + ty.cells)
end
structure FH (P : Program) (R : RN) (rb sb h b o n : Nat) (ev : Value) (st : Option (List UInt8)) (w : World) : Prop where
 rd : RdAt w rb sb st
 ne : sb ≠ rb
 nb : sb ≠ b
 rbb : b ≠ rb
 hb : b ≤ h
 hr : rb ≤ h
 hw : h < w.heap.size
 hs : sb < w.heap.size
 th : w.there b o n
 er : isErr ev
 ev : w.cell? ⟨R.gErr, 0, none⟩ = some ev
 gb : R.gErr ≠ b
 gr : R.gErr ≠ rb
section
variable {P : Program} {N : Nat} {Q : UE} {ρ : Nat → Value} {w w' : World} {ms : List MOp} {R : RN} {G : TG} {rb sb h b o n : Nat} {ev : Value} {st st' : Option (List UInt8)} {sf : Option Nat} {flex : Bool} {ver : Int}
theorem Fr.rd {o n : Nat} (hf : Fr (fun _ => False) rb 0 2 w w') (hne : b ≠ rb) (hb : b < w.heap.size) : Fr (· = rb) b o n w w' :=
 (hf.wide (X' := (· = rb)) (fun _ x => x.elim) (Nat.le_refl _) (Nat.le_refl _)).other rfl hne hb
theorem FH.keep {o' n' : Nat} (hh : FH P R rb sb h b o n ev st w) (hf : Fr (· = rb) b o' n' w w') (hr : RdAt w' rb sb st') : FH P R rb sb h b o n ev st' w' :=
 ⟨hr, hh.ne, hh.nb, hh.rbb, hh.hb, hh.hr, Nat.lt_of_lt_of_le hh.hw hf.size, Nat.lt_of_lt_of_le hh.hs hf.size, hf.there _ _ hh.th, hh.er, by
  rw [Ji (hf.block _ (World.block_lt_of_cell? w _ hh.ev) hh.gb hh.gr)]; exact hh.ev, hh.gb, hh.gr⟩
theorem FH.fb {o' n' : Nat} (hh : FH P R rb sb h b o n ev st w) (hf : Fr (· = rb) b o' n' w w') : (∀ k, FB sb h w k → FB sb h w' k) ∧ ∀ k, FB sb h w k → w'.heap[k]? = w.heap[k]? := by
 obtain ⟨h1, h2, h3, h4, h5⟩ := And.intro hh.hb (And.intro hh.hr (And.intro hh.ne (And.intro hh.nb hh.hs)))
 refine ⟨fun k hk => hk.imp id fun hk => ⟨hk.1, Nat.lt_of_lt_of_le hk.2 hf.size⟩, fun k hk => ?_⟩
 rcases hk with rfl | ⟨hk, hk'⟩
 ·exact hf.block _ h5 h4 h3
 ·exact hf.block k hk' (by omega) (by show ¬ k = rb; omega)
theorem FH.rep {o' n' : Nat} {ty : Ty} {cs : List Value} {d : D} (hh : FH P R rb sb h b o n ev st w) (hf : Fr (· = rb) b o' n' w w') (hr : Rep w (FB sb h w) ty cs d) : Rep w' (FB sb h w') ty cs d := Rep.mono (hh.fb hf).1 (hh.fb hf).2 ty hr
theorem store_ok {T vs idx off ty x t L : Nat} {v : Value} (hF : Jd P T idx off = true) (hc : Jh P ty v.cells.size = true) (hv : ρ vs = .pointer (some ⟨b, o, none⟩)) (hx : ρ x = v) (h1 : v.cells.toList.all (·.oneCell') = true) (ht : w.there b (o + off) v.cells.size) (hvL : vs < L) (hxL : x < L) (hL : L ≤ t) (hN : t + 4 ≤ N)
  (hQ : ∀ ρ', (∀ s, s < L → ρ' s = ρ s) → Q .normal ρ' (w.setCells b (o + off) v.cells.toList)) : RW P N (storeR T vs idx ty x t).1 Q ρ w := by
 refine RW.rg (RL.s (MR.mv hv (ltT (by omega))) (RL.s (MR.mv (v := v) (by show upd _ _ _ x = _; rw [Jb _ _ (by omega)]; exact hx) (ltT (by omega))) (RL.s (MR.nc (p := ⟨b, o, none⟩) (by rw [Jb _ _ (by omega), Ja]) (by omega)) (RL.s (MR.fa (Ja _ _ _) hF (by omega)) ?_ (by omega)) (by omega)) (by omega)) (by omega))
 have e1 : ∀ (z : Value), (upd (upd (upd (upd ρ t (.pointer (some ⟨b, o, none⟩))) (t + 1) v) (t + 2) (.pointer (some ⟨b, o, none⟩))) (t + 3) z) (t + 1) = v := fun z => by rw [Jb _ _ (by omega), Jb _ _ (by omega), Ja]
 refine RL.st (b := b) (o := o + off) (Ja _ _ _) (by rw [e1]; exact hc) (by rw [e1]; exact ht) (by rw [e1, ← Array.all_toList]; exact h1) ?_ (by omega) (by omega)
 rw [e1]
 refine RL.nil (hQ _ fun s hs => ?_)
 rw [Jb _ _ (by omega), Jb _ _ (by omega), Jb _ _ (by omega), Jb _ _ (by omega)]
theorem primR_ok {T vs idx off ty x t L : Nat} {k : PK} (kk : RKOK P R G) (hk : rdOk R sf k = true) (hF : Jd P T idx off = true) (hc : Jh P ty k.cells = true) (hh : FH P R rb sb h b o n ev st w) (cx : RCx R.rs sf flex ver rb vs b o ρ)
  (hx9 : 9 ≤ x) (hs : ∀ s, sf = some s → s < x) (hvx : vs < x) (hxL : x < L) (hL : L ≤ t) (hN : (primR R sf T vs idx k ty t x).2 ≤ N) (hoff : off + k.cells ≤ n)
  (hQ : ∀ ρ' w' d st' us, (∀ s, s < x → ρ' s = ρ s) → Fr (· = rb) b (o + off) k.cells w w' → Got (dP k flex) st d st' → RdAt w' rb sb st' → w'.rangeAt b (o + off) us → us.length = k.cells → RepP w' (FB sb h w') k us d → Q .normal ρ' w') : RW P N (primR R sf T vs idx k ty t x).1 Q ρ w := by
 have hrs7 := cx.hrs
 simp only [primR] at hN ⊢
 have hle := @rdA_le R sf k x t
 have hbw : b < w.heap.size := Nat.lt_of_le_of_lt hh.hb hh.hw
 refine RWL.rows ?_
 have core : ∀ ρ1, (∀ s, s < x → ρ1 s = ρ s) → RWL P N [(rdA R sf k x t).1, (storeR T vs idx ty x (rdA R sf k x t).2).1] Q ρ1 w := by
  intro ρ1 h1
  have cx1 := cx.keep h1 hx9 hs hvx
  refine rdA_ok kk hk hxL (by omega) (fun s e => by have := hs s e; omega) hL (by omega) hh.rd hh.ne (by have := cx1.hrs; omega) cx1.r7 cx1.r2 cx1.rf cx1.nf ?_
  intro ρ2 w2 v d st2 g1 g2 g3 g4 g5 g6
  obtain ⟨_, g6a, g6b, g6c⟩ := g6
  have F1 : Fr (· = rb) b (o + off) k.cells w w2 := g3.rd hh.rbb hbw
  have cx2 := cx1.keep (ρ' := ρ2) (fun s hs => g1 s (by omega) (by omega)) hx9 hs hvx
  have ht2 : w2.there b (o + off) k.cells := JG (F1.there _ _ hh.th) hoff
  have hln : v.cells.toList.length = k.cells := by rw [Array.length_toList]; exact g6a
  refine RW.mono (store_ok (L := L) (v := v) hF (by rw [g6a]; exact hc) cx2.rv g2 g6b (by rw [g6a]; exact ht2) (by omega) hxL (by omega) (by omega) fun ρ3 h3 => ?_) (fun e ρ w h => h)
  have F2 : Fr (· = rb) b (o + off) k.cells w2 (w2.setCells b (o + off) v.cells.toList) := Fr.put _ (by omega) (by rw [hln]; omega)
  refine hQ ρ3 _ d st2 v.cells.toList (fun s hs => by rw [h3 s (by omega), g1 s (by omega) (by omega), h1 s hs]) (F1.trans F2) g4 ?_ (World.rangeAt_setCells_same _ _ _ _ (by rw [hln]; exact ht2)) hln ?_
  ·exact g5.keep (Jp b _ _ _ rb (fun e => hh.rbb e.symm)) (Jp b _ _ _ sb hh.nb)
  ·have hsz : w2.heap.size ≤ (w2.setCells b (o + off) v.cells.toList).heap.size := F2.size
   refine RepP.mono g6c.bound (fun k hk => ?_) (fun k hk => Jp b _ _ _ k ?_)
   ·rcases hk with ⟨hk | hk, hk'⟩
    ·exact .inl hk
    ·exact .inr ⟨Nat.lt_of_lt_of_le hh.hw hk, Nat.lt_of_lt_of_le hk' hsz⟩
   ·rcases hk with ⟨rfl | hk, _⟩
    ·exact hh.nb
    ·exact fun e => by omega
 cases h2 : k.two
 ·simp only [UB, if_false, List.nil_append]
  exact core ρ fun _ _ => rfl
 ·simp only [if_true, List.cons_append, List.nil_append]
  exact RW.rg (RL.s MR.mv (RL.nil (core _ fun s hs => by rw [Jb _ _ (by omega)])) (by omega))
theorem primU_ok {T vs idx off ty x t L : Nat} {k : PK} (kk : RKOK P R G) (hk : rdOk R sf k = true) (hu : uuB P k ty = true) (hF : Jd P T idx off = true) (hc : Jh P ty k.cells = true) (hh : FH P R rb sb h b o n ev st w) (cx : RCx R.rs sf flex ver rb vs b o ρ)
  (hx9 : 9 ≤ x) (hs : ∀ s, sf = some s → s < x) (hvx : vs < x) (hxL : x < L) (hL : L ≤ t) (hN : (primU R sf T vs idx k ty t x).2 ≤ N) (hoff : off + k.cells ≤ n)
  (hQ : ∀ ρ' w' d st' us, (∀ s, s < x → ρ' s = ρ s) → Fr (· = rb) b (o + off) k.cells w w' → Got (dP k flex) st d st' → RdAt w' rb sb st' → w'.rangeAt b (o + off) us → us.length = k.cells → RepP w' (FB sb h w') k us d → Q .normal ρ' w') : RW P N (primU R sf T vs idx k ty t x).1 Q ρ w := by
 have hrs7 := cx.hrs
 have e : k ≠ .uuid := fun e => by subst e; cases hu
 have e2 : primU R sf T vs idx k ty t x = primR R sf T vs idx k ty t x := by cases k <;> first | rfl | exact absurd rfl e
 rw [e2] at hN ⊢
 exact primR_ok kk hk hF hc hh cx hx9 hs hvx hxL hL hN hoff hQ
theorem elemU_le {ty ety x t : Nat} {k : PK} : t ≤ (elemU R sf k ty ety x t).2 := by
 have := @rdA_le R sf k (x + 4) t
 cases k <;> simp only [elemU, elemR, elemRU] <;> omega
theorem primU_le {T vs idx x t : Nat} {k : PK} {ty : Nat} : t ≤ (primU R sf T vs idx k ty t x).2 := by
 have := @rdA_le R sf k x t
 cases k <;> simp only [primU, primR, uuidR] <;> omega
theorem unsB_le {rs f base x t : Nat} : t ≤ (unsB rs f base x t).2 := by simp [unsB]
theorem vstrR_le {T vs idx lim ty base t x : Nat} : t ≤ (vstrR R sf T vs idx lim ty base t x).2 := by
 have h1 := @ifFlex_le2 sf (t + 2) (unsB R.rs (R.fn .str true) base (x + 1)) (unsB R.rs (R.fn .str false) base (x + 1)) (fun _ => unsB_le) (fun _ => unsB_le)
 have h2 := @rdA_le R sf .nstr x (ifFlex sf (t + 2) (unsB R.rs (R.fn .str true) base (x + 1)) (unsB R.rs (R.fn .str false) base (x + 1))).2
 unfold vstrR; dsimp only; omega
end
end Go.Kx
