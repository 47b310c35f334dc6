/- The slots that the code of AppendTo takes rise. Plain facts on numbers.
   The code of AppendTo writes what 'enc' says: by induction on the plan. Conditions: the plan fits the program's tables (wf), what is written is small (lists, texts and octets of at most 32767).
   The code of AppendTo writes what 'enc' says: the induction on the plan. Conditions: the plan fits the program's tables (wf), what is written is small (lists, texts and octets of at most 32767).
   AppendTo of a message, as a whole: what it returns. Conditions: the plan fits the program (okTop), what is written is small.
   Functions whose frame is known whole: an evaluator of operations on numbers; making and appending small slices; entering and returning. No condition on the program beyond those named.
   Small slices that are made, and appended; a leaf's entry and return. No condition on the program beyond those named.
   kbin's functions that append a number: AppendInt8, Uint16, Int16, Uint32, Int32, Uint64, Int64, Bool. Each writes the number's octets, the highest first. Conditions: the program's tables (TOK), fewer than 2^40 octets.
   kbin's functions that append: the lengths, numbers in groups of seven bits, and what converts and calls. Conditions: the program's tables (TOK), fewer than 2^40 octets. -/
import Derived.Test.YtffglmphlpofbaaDoorKxA
import Derived.Lib.AppendStr
import Derived.Laws.OwnMore
namespace Go.Kx
open Go.RowKit
set_option linter.unusedSimpArgs false
set_option linter.unusedVariables false

theorem ifFlex_le {sf : Option Nat} {t : Nat} {yes no : Nat → MCode × Nat} (h1 : ∀ t, t ≤ (yes t).2) (h2 : ∀ t, t ≤ (no t).2) : t ≤ (ifFlex sf t yes no).2 := by
  cases sf with
  | none => exact h2 t
  | some s => have a := h1 (t + 1); have b := h2 (yes (t + 1)).2; simp only [ifFlex]; omega

theorem callA_le {f v t : Nat} : t ≤ (callA f v t).2 := by simp [callA]
theorem lenA_le {f ty v t : Nat} : t ≤ (lenA f ty v t).2 := by simp [lenA]
theorem nlenA_le {f ty v t : Nat} : t ≤ (nlenA f ty v t).2 := by simp [nlenA]
theorem primA_le {I : IA} {sf : Option Nat} {k : PK} {v t : Nat} : t ≤ (primA I sf k v t).2 := by
  unfold primA
  split
  · exact ifFlex_le (fun _ => callA_le) (fun _ => callA_le)
  · exact callA_le
theorem primFldA_le {I : IA} {sf : Option Nat} {T vs idx : Nat} {k : PK} {ty x t : Nat} : t ≤ (primFldA I sf T vs idx k ty x t).2 := by
  unfold primFldA
  have := @primA_le I sf k x (t + 4)
  split
  · simp
  · simp only; omega
theorem tagsA_le {I : IA} {sf : Option Nat} {T vs : Nat} {tg : Option (Nat × Nat)} {t : Nat} : t ≤ (tagsA I sf T vs tg t).2 := by
  unfold tagsA
  split <;> simp
theorem condA_le {I : IA} {sver t : Nat} {c : Cnd} {body : Nat → MCode × Nat × Nat × Nat} (h : ∀ t, t ≤ (body t).2.1) : t ≤ (condA I sver c t body).2.1 := by
  unfold condA
  split
  · exact h t
  · have := h (t + 2); dsimp only; omega
  · have := h (t + 6); dsimp only; omega
theorem condA_x {I : IA} {sver t : Nat} {c : Cnd} {body : Nat → MCode × Nat × Nat × Nat} {x' : Nat} (h : ∀ t, (body t).2.2.1 = x') : (condA I sver c t body).2.2.1 = x' := by
  unfold condA
  split <;> exact h _
theorem alenA_le {I : IA} {sf nul : Option Nat} {ty v t : Nat} : t ≤ (alenA I sf nul ty v t).2 := by
  unfold alenA
  split
  · exact ifFlex_le (fun _ => lenA_le) (fun _ => lenA_le)
  · exact ifFlex_le (fun _ => nlenA_le) (fun _ => nlenA_le)

section
variable {I : IA} {sver : Nat} {sf : Option Nat}
mutual
theorem genE_le {ty ety : Nat} : ∀ (el : Ty) {v x t x' b : Nat}, t ≤ (genE I sver sf ty ety el v x t x' b).2.1 ∧ x' ≤ (genE I sver sf ty ety el v x t x' b).2.2.1
  | .prim k _, v, x, t, x', b => by
    simp only [genE]
    have := @primA_le I sf k (x + 1) (t + 4)
    omega
  | .struct T _ _ tg fs, v, x, t, x', b => by
    simp only [genE]
    have h1 := @genF_le T (x + 1) fs (t + 3) x' b
    have h2 := @tagsA_le I sf T (x + 1) tg (genF I sver sf T (x + 1) fs (t + 3) x' b).2.1
    omega
  | .enum .., v, x, t, x', b => by simp [genE]
  | .arr .., v, x, t, x', b => by simp [genE]
theorem genF_le {T vs : Nat} : ∀ (fs : Flds) {t x b : Nat}, t ≤ (genF I sver sf T vs fs t x b).2.1 ∧ x ≤ (genF I sver sf T vs fs t x b).2.2.1
  | .nil, t, x, b => by simp [genF]
  | .cons c idx off df ty rest, t, x, b => by
    simp only [genF]
    have h1 : t ≤ (condA I sver c t (fun t => genFld I sver sf T vs idx ty t x b)).2.1 := condA_le (fun t => (@genFld_le T vs idx ty t x b).1)
    have h2 : x ≤ (condA I sver c t (fun t => genFld I sver sf T vs idx ty t x b)).2.2.1 := by
      unfold condA
      split
      · exact (@genFld_le T vs idx ty t x b).2
      · exact (@genFld_le T vs idx ty (t + 2) x b).2
      · exact (@genFld_le T vs idx ty (t + 6) x b).2
    have h3 := @genF_le T vs rest (condA I sver c t (fun t => genFld I sver sf T vs idx ty t x b)).2.1 (condA I sver c t (fun t => genFld I sver sf T vs idx ty t x b)).2.2.1 (condA I sver c t (fun t => genFld I sver sf T vs idx ty t x b)).2.2.2
    omega
theorem genFld_le {T vs idx : Nat} : ∀ (ty : Ty) {t x b : Nat}, t ≤ (genFld I sver sf T vs idx ty t x b).2.1 ∧ x ≤ (genFld I sver sf T vs idx ty t x b).2.2.1
  | .prim k ty, t, x, b => by
    simp only [genFld]
    have := @primFldA_le I sf T vs idx k ty x t
    omega
  | .enum k ty base, t, x, b => by
    simp only [genFld, loadA, callA]
    omega
  | .arr nul ty ety el, t, x, b => by
    simp only [genFld, loadA, loopA]
    have h0 : t + 4 ≤ (alenA I sf nul ty x (t + 4)).2 := alenA_le
    have h1 := @genE_le ty ety el x (x + 1) ((alenA I sf nul ty x (t + 4)).2 + 5) (x + 3) (b + 2)
    omega
  | .struct T' _ _ tg fs, t, x, b => by
    simp only [genFld]
    have h1 := @genF_le T' x fs (t + 3) (x + 1) b
    have h2 := @tagsA_le I sf T' x tg (genF I sver sf T' x fs (t + 3) (x + 1) b).2.1
    omega
end
end

section
variable {I : IA} {sver : Nat} {sf : Option Nat}
mutual
/-- The slots of variables do not hang on where the temporaries begin. -/
theorem genE_x {ty ety : Nat} : ∀ (el : Ty) {v x t t2 x' b b2 : Nat}, (genE I sver sf ty ety el v x t x' b).2.2.1 = (genE I sver sf ty ety el v x t2 x' b2).2.2.1
  | .prim k _, v, x, t, t2, x', b, b2 => by simp only [genE]
  | .struct T _ _ tg fs, v, x, t, t2, x', b, b2 => by
    simp only [genE]
    exact genF_x fs
  | .enum .., v, x, t, t2, x', b, b2 => by simp [genE]
  | .arr .., v, x, t, t2, x', b, b2 => by simp [genE]
theorem genF_x {T vs : Nat} : ∀ (fs : Flds) {t t2 x b b2 : Nat}, (genF I sver sf T vs fs t x b).2.2.1 = (genF I sver sf T vs fs t2 x b2).2.2.1
  | .nil, t, t2, x, b, b2 => by simp [genF]
  | .cons c idx off df ty rest, t, t2, x, b, b2 => by
    simp only [genF]
    have h2 : (condA I sver c t (fun t => genFld I sver sf T vs idx ty t x b)).2.2.1 = (condA I sver c t2 (fun t => genFld I sver sf T vs idx ty t x b2)).2.2.1 := by
      unfold condA
      split <;> exact genFld_x ty
    rw [h2]
    exact genF_x rest
theorem genFld_x {T vs idx : Nat} : ∀ (ty : Ty) {t t2 x b b2 : Nat}, (genFld I sver sf T vs idx ty t x b).2.2.1 = (genFld I sver sf T vs idx ty t2 x b2).2.2.1
  | .prim k ty, t, t2, x, b, b2 => by simp only [genFld]
  | .enum k ty base, t, t2, x, b, b2 => by simp only [genFld, loadA, callA]
  | .arr nul ty ety el, t, t2, x, b, b2 => by
    simp only [genFld, loadA, loopA]
    exact genE_x el
  | .struct T' _ _ tg fs, t, t2, x, b, b2 => by
    simp only [genFld]
    exact genF_x fs
end
end
end Go.Kx
namespace Go.Kx
open Go.RowKit
set_option linter.unusedSimpArgs false
set_option linter.unusedVariables false

/-- The value of a kind whose cells are these. -/
def asV (k : PK) (cs : List Value) : Value :=
  match k with
  | .uuid => .agg cs.toArray
  | _ => cs.headD undef

def smallP : D → Prop
  | .s (some l) => l.length ≤ 32767
  | _ => True

section
variable (S : List (Nat × List UInt8) → Prop)
mutual
def Sm : Ty → D → Prop
  | .prim _ _, d => smallP d
  | .enum _ _ _, d => smallP d
  | .arr _ _ _ el, d => match d with
    | .l _ xs => xs.length ≤ 32767 ∧ ∀ d ∈ xs, Sm el d
    | _ => True
  | .struct _ _ _ tg fs, d => match d with
    | .r ds tags => SmF fs ds ∧ S tags
    | _ => True
def SmF : Flds → List D → Prop
  | .nil, _ => True
  | .cons _ _ _ _ ty rest, ds => Sm ty (ds.headD (.n 0)) ∧ SmF rest ds.tail
end
end

def PK.kind : PK → Option IntKind
  | .i8 => some .i8
  | .i16 => some .i16
  | .i32 => some .i32
  | .i64 => some .i64
  | .u16 => some .u16
  | _ => none

/-- The type of a plain field is of the kind's shape. -/
def primTy (P : Program) (k : PK) (ty : Nat) : Bool :=
  match k with
  | .uuid => rowTy P ty && cellsB P ty 16
  | _ => plainTy P ty

/-- The zero of an array of so many cells. -/
def zeroN (P : Program) (ty n : Nat) : Bool :=
  match P.info? ty with
  | some i => (match i.zero with | some (.agg cs) => Nat.beq cs.size n | _ => false)
  | none => false

/-- The contracts that AppendTo's code rests on; a function's number 0: there is none. -/
structure AOK (P : Program) (I : IA) (S : List (Nat × List UInt8) → Prop) : Prop where
  small : ∀ tags, S tags → smallT tags
  prim : ∀ k flex, I.fn k flex ≠ 0 → ApC P I.tU8 (I.fn k flex) (fun w B x out => ∃ cs d, x = asV k cs ∧ RepP w (· < B) k cs d ∧ smallP d ∧ out = encP k flex d)
  alen : I.alen ≠ 0 → LenC P I.tU8 I.alen (fun n => fix n 4)
  calen : I.calen ≠ 0 → LenC P I.tU8 I.calen (fun n => uv (n + 1))
  nalen : I.nalen ≠ 0 → NLenC P I.tU8 I.nalen false
  cnalen : I.cnalen ≠ 0 → NLenC P I.tU8 I.cnalen true
  tlen : I.tlen ≠ 0 → TlenC P I.tlen
  teach : I.teach ≠ 0 → TeachC P I.tU8 I.teach S
  uvar : I.uvar ≠ 0 → UvarC P I.tU8 I.uvar

def fnOk (I : IA) (sf : Option Nat) (k : PK) : Bool := !(Nat.beq (I.fn k false) 0) && (if k.two && sf.isSome then !(Nat.beq (I.fn k true) 0) else true)
def lnOk (I : IA) (sf nul : Option Nat) : Bool :=
  match nul with
  | none => !(Nat.beq I.alen 0) && (if sf.isSome then !(Nat.beq I.calen 0) else true)
  | some _ => !(Nat.beq I.nalen 0) && (if sf.isSome then !(Nat.beq I.cnalen 0) else true)

def wfT (P : Program) (I : IA) (sf : Option Nat) (T : Nat) (tg : Option (Nat × Nat)) : Bool :=
  match tg with
  | none => true
  | some (i, off) => fieldAtB P T i off && !(Nat.beq I.tlen 0) && !(Nat.beq I.teach 0) && !(Nat.beq I.uvar 0) && intTy P I.tInt .i64 && intTy P I.tU32 .u32

mutual
def wfE (P : Program) (I : IA) (sf : Option Nat) (ety : Nat) : Ty → Bool
  | .prim k _ => primTy P k ety && cellsB P ety k.cells && fnOk I sf k
  | .struct T n _ tg fs => cellsB P ety n && wfF P I sf T fs && wfT P I sf T tg
  | _ => false
def wfF (P : Program) (I : IA) (sf : Option Nat) (T : Nat) : Flds → Bool
  | .nil => true
  | .cons _ idx off _ ty rest => fieldAtB P T idx off && wfFld P I sf ty && wfF P I sf T rest
def wfFld (P : Program) (I : IA) (sf : Option Nat) : Ty → Bool
  | .prim k ty => primTy P k ty && fnOk I sf k && (!k.box || zeroN P ty 16)
  | .enum k ty base => (match k.kind with | some kk => intTy P ty kk && intTy P base kk | none => false) && plainTy P ty && !(Nat.beq (I.fn k false) 0)
  | .arr nul ty ety el => plainTy P ty && sliceOf P ty ety && cellsB P ety el.cells && wfE P I sf ety el && lnOk I sf nul
  | .struct T' n _ tg fs => wfF P I sf T' fs && wfT P I sf T' tg
end

theorem ne0 {n : Nat} (h : (!(Nat.beq n 0)) = true) : n ≠ 0 := by
  intro e; subst e; simp at h

theorem rangeAt_sub {w : World} {b o : Nat} {cs : List Value} (h : w.rangeAt b o cs) (off n : Nat) : w.rangeAt b (o + off) ((cs.drop off).take n) := by
  intro j v hv
  rw [List.getElem?_take] at hv
  split at hv
  · rw [List.getElem?_drop] at hv
    have := h (off + j) v hv
    rwa [show o + off + j = o + (off + j) from by omega]
  · simp at hv

theorem rangeAt_heap {w : World} {g : Nat} {arr : Array Value} {eT : Nat} {fr : Nat × Nat} (h : w.heap[g]? = some (.cells arr eT fr)) : w.rangeAt g 0 arr.toList := by
  intro j v hv
  rw [Nat.zero_add, cell_of_row w g j arr eT fr h]
  simpa using hv

theorem encP_two {k : PK} (h : k.two = false) (flex : Bool) (d : D) : encP k flex d = encP k false d := by
  cases k <;> first | (simp [PK.two] at h; done) | (cases d <;> first | rfl | (rename_i o; cases o <;> rfl))

section
variable {P : Program} {w : World} {F : Nat → Prop}

theorem load_prim {k : PK} {ty b o : Nat} {cs : List Value} {d : D} (hp : primTy P k ty = true) (hr : RepP w F k cs d) (hc : w.rangeAt b o cs) :
    (Instr.loadAt ty (.pointer (some ⟨b, o, none⟩))).run P w = .ok (asV k cs) w := by
  have one : ∀ u : Value, cs = [u] → asV k cs = cs.headD undef → plainTy P ty = true → (Instr.loadAt ty (.pointer (some ⟨b, o, none⟩))).run P w = .ok (asV k cs) w := by
    intro u hu h1 h2
    rw [h1, hu]
    refine run_loadAt_one h2 ?_
    have := hc 0 u (by rw [hu]; rfl)
    simpa using this
  cases k
  case uuid =>
    obtain ⟨l, h1, h2, h3⟩ := hr
    simp only [primTy, Bool.and_eq_true] at hp
    exact run_loadAt_row hp.1 (by rw [h2, List.length_map, h1]; exact hp.2) hc
  all_goals simp only [RepP] at hr
  case i8 => obtain ⟨n, h1, _⟩ := hr; exact one _ h1 rfl hp
  case i16 => obtain ⟨n, h1, _⟩ := hr; exact one _ h1 rfl hp
  case i32 => obtain ⟨n, h1, _⟩ := hr; exact one _ h1 rfl hp
  case i64 => obtain ⟨n, h1, _⟩ := hr; exact one _ h1 rfl hp
  case u16 => obtain ⟨n, h1, _⟩ := hr; exact one _ h1 rfl hp
  case bool => obtain ⟨n, h1, _⟩ := hr; exact one _ h1 rfl hp
  case f64 => obtain ⟨n, h1, _⟩ := hr; exact one _ h1 rfl hp
  case str => obtain ⟨n, h1, _⟩ := hr; exact one _ h1 rfl hp
  case nstr => rcases hr with ⟨h1, _⟩ | ⟨b', s, h1, _⟩ <;> exact one _ h1 rfl hp
  case byt => obtain ⟨a, c, l, h1, _⟩ := hr; exact one _ h1 rfl hp
  case nbyt => rcases hr with ⟨h1, _⟩ | ⟨a, c, l, h1, _⟩ <;> exact one _ h1 rfl hp
end

section
variable {P : Program} {B N L : Nat} {ρ : Nat → Value} {w : World} {x x' : Nat} {I : IA} {ver : Int} {flex : Bool} {sver : Nat} {sf : Option Nat} {S : List (Nat × List UInt8) → Prop}

/-- What stands in the frame wherever a field is written: the version, whether it is flexible. -/
structure Ctx (sver : Nat) (sf : Option Nat) (ver : Int) (flex : Bool) (x : Nat) (ρ : Nat → Value) : Prop where
  hx : 1 < x
  v1 : 1 < sver
  vx : sver < x
  ver : ρ sver = .int .i16 ver
  f1 : ∀ s, sf = some s → 1 < s ∧ s < x ∧ ρ s = .bool flex
  f0 : sf = none → flex = false

theorem Ctx.keep {y : Nat} {ρ' : Nat → Value} (h : Ctx sver sf ver flex x ρ) (hk : Keep L x y ρ ρ') (hL : x ≤ L) (hy : x ≤ y) : Ctx sver sf ver flex y ρ' where
  hx := by have := h.hx; omega
  v1 := h.v1
  vx := by have := h.vx; omega
  ver := by rw [hk _ (by have := h.vx; omega) (by have := h.v1; omega) (.inl h.vx)]; exact h.ver
  f1 := fun s hs => by
    obtain ⟨h1, h2, h3⟩ := h.f1 s hs
    exact ⟨h1, by omega, by rw [hk _ (by omega) (by omega) (.inl h2)]; exact h3⟩
  f0 := h.f0

theorem Ctx.upd {v : Value} (h : Ctx sver sf ver flex x ρ) : Ctx sver sf ver flex (x + 1) (upd ρ x v) where
  hx := by have := h.hx; omega
  v1 := h.v1
  vx := by have := h.vx; omega
  ver := by rw [upd_ne _ _ (by have := h.vx; omega)]; exact h.ver
  f1 := fun s hs => by
    obtain ⟨h1, h2, h3⟩ := h.f1 s hs
    exact ⟨h1, by omega, by rw [upd_ne _ _ (by omega)]; exact h3⟩
  f0 := h.f0

theorem Writes.primA {k : PK} {v t : Nat} {d : D} (ok : AOK P I S) (hctx : Ctx sver sf ver flex x ρ) (hxL : x ≤ L) (hv : v < L) (ht : L ≤ t) (hN : (Kx.primA I sf k v t).2 ≤ N) (hB : B ≤ w.heap.size)
    {cs : List Value} (hfn : fnOk I sf k = true) (hx : ρ v = asV k cs) (hr : RepP w (· < B) k cs d) (hs : smallP d) : Writes P I.tU8 B N L (Kx.primA I sf k v t).1 ρ w x' x' (encP k flex d) := by
  have h1L : 1 < L := by have := hctx.hx; omega
  simp only [fnOk, Bool.and_eq_true] at hfn
  obtain ⟨f1, f2⟩ := hfn
  have callN : ∀ t, L ≤ t → (Kx.callA (I.fn k false) v t).2 ≤ N → Writes P I.tU8 B N L (Kx.callA (I.fn k false) v t).1 ρ w x' x' (encP k false d) := by
    intro t ht hN
    exact Writes.callA (ok.prim k false (ne0 f1)) hB hv h1L ht (by simpa [Kx.callA] using hN) ⟨cs, d, hx, hr, hs, rfl⟩
  unfold Kx.primA at hN ⊢
  cases htwo : k.two
  · rw [encP_two htwo]
    rw [htwo] at hN
    simpa [htwo] using callN t ht (by simpa using hN)
  · rw [htwo] at hN f2
    simp only [if_true] at hN ⊢
    refine Writes.ifFlex (fun s hs => ?_) hctx.f0 ht hN (fun _ => callA_le) (fun _ => callA_le) (fun e t' ht' hN' => ?_) (fun e t' ht' hN' => ?_)
    · obtain ⟨h1, h2, h3⟩ := hctx.f1 s hs; exact ⟨by omega, h3⟩
    · subst e
      cases sf with
      | none => have := hctx.f0 rfl; simp at this
      | some s =>
        simp only [Option.isSome_some, Bool.and_true, if_true] at f2
        exact Writes.callA (ok.prim k true (ne0 f2)) hB hv h1L ht' (by simpa [Kx.callA] using hN') ⟨cs, d, hx, hr, hs, rfl⟩
    · subst e; exact callN t' ht' hN'

/-- The length of a list. -/
theorem Writes.alenA {nul : Option Nat} {ty ety v t n c : Nat} {p : Option Addr} (ok : AOK P I S) (hctx : Ctx sver sf ver flex x ρ) (hxL : x ≤ L) (hv : v < L) (hv1 : v ≠ 1) (ht : L ≤ t) (hN : (Kx.alenA I sf nul ty v t).2 ≤ N) (hB : B ≤ w.heap.size)
    (hln : lnOk I sf nul = true) (hsl : sliceOf P ty ety = true) (hρ : ρ v = .slice p n c) (hn : n ≤ 32767) :
    Writes P I.tU8 B N L (Kx.alenA I sf nul ty v t).1 ρ w x' x' (if nul.isSome && p.isNone then cntNull flex 4 else cnt flex 4 n) := by
  have h1L : 1 < L := by have := hctx.hx; omega
  have hs : ∀ s, sf = some s → s < L ∧ ρ s = .bool flex := fun s hs => by obtain ⟨h1, h2, h3⟩ := hctx.f1 s hs; exact ⟨by omega, h3⟩
  cases nul with
  | none =>
    simp only [lnOk, Bool.and_eq_true] at hln
    simp only [Kx.alenA, Option.isSome_none, Bool.false_and, Bool.false_eq_true, if_false] at hN ⊢
    refine Writes.ifFlex hs hctx.f0 ht hN (fun _ => lenA_le) (fun _ => lenA_le) (fun e t' ht' hN' => ?_) (fun e t' ht' hN' => ?_)
    · subst e
      cases sf with
      | none => have := hctx.f0 rfl; simp at this
      | some s =>
        have h2 := hln.2
        simp only [Option.isSome_some, if_true] at h2
        exact Writes.lenA (ok.calen (ne0 h2)) hB hv hv1 h1L ht' (by simpa [Kx.lenA] using hN') hsl hρ hn
    · subst e
      exact Writes.lenA (ok.alen (ne0 hln.1)) hB hv hv1 h1L ht' (by simpa [Kx.lenA] using hN') hsl hρ hn
  | some m =>
    simp only [lnOk, Bool.and_eq_true] at hln
    simp only [Kx.alenA, Option.isSome_some, Bool.true_and] at hN ⊢
    refine Writes.ifFlex hs hctx.f0 ht hN (fun _ => nlenA_le) (fun _ => nlenA_le) (fun e t' ht' hN' => ?_) (fun e t' ht' hN' => ?_)
    · subst e
      cases sf with
      | none => have := hctx.f0 rfl; simp at this
      | some s =>
        have h2 := hln.2
        simp only [Option.isSome_some, if_true] at h2
        exact Writes.nlenA (ok.cnalen (ne0 h2)) hB hv hv1 h1L ht' (by simpa [Kx.nlenA] using hN') hsl hρ hn
    · subst e
      exact Writes.nlenA (ok.nalen (ne0 hln.1)) hB hv hv1 h1L ht' (by simpa [Kx.nlenA] using hN') hsl hρ hn

theorem tags_of (ok : AOK P I S) {T vs t b o : Nat} {tg : Option (Nat × Nat)} {cs : List Value} {tags : List (Nat × List UInt8)}
    (hctx : Ctx sver sf ver flex x ρ) (hxL : x ≤ L) (hvs : vs < L) (hvs1 : vs ≠ 1) (ht : L ≤ t) (hN : (Kx.tagsA I sf T vs tg t).2 ≤ N) (hp : ρ vs = .pointer (some ⟨b, o, none⟩)) (hbB : b < B) (hB : B ≤ w.heap.size)
    (hwf : wfT P I sf T tg = true) (hc : w.rangeAt b o cs) (hm : TagsAt w (· < B) tg cs tags) (hsm : S tags) :
    WritesL P I.tU8 B N L (Kx.tagsA I sf T vs tg t).1 ρ w x' x' (if tg.isSome && flex then encTags tags else []) := by
  have hs : ∀ s, sf = some s → s < L ∧ ρ s = .bool flex := fun s hs => by obtain ⟨h1, h2, h3⟩ := hctx.f1 s hs; exact ⟨by omega, h3⟩
  cases tg with
  | none => exact ⟨rfl, rfl⟩
  | some p =>
    obtain ⟨i, off⟩ := p
    simp only [wfT, Bool.and_eq_true] at hwf
    obtain ⟨⟨⟨⟨⟨w1, w2⟩, w3⟩, w4⟩, w5⟩, w6⟩ := hwf
    obtain ⟨m, hm1, hm2⟩ := hm
    refine WritesL.tagsA (m := m) (tags := tags) hs hctx.f0 ht hN (by have := hctx.hx; omega) hvs hvs1 hp hbB hB (ok.tlen (ne0 w2)) (ok.teach (ne0 w3)) (ok.uvar (ne0 w4)) w5 w6 ?_
    intro i' off' he
    simp only [Option.some.injEq, Prod.mk.injEq] at he
    obtain ⟨rfl, rfl⟩ := he
    exact ⟨w1, hc off m hm1, hm2, ok.small _ hsm, hsm⟩

/-- Small, where a part says it. -/
theorem flds_ok_mono : True := trivial
end
end Go.Kx
namespace Go.Kx
open Go.RowKit
set_option linter.unusedSimpArgs false
set_option linter.unusedVariables false

theorem Ctx.le {x y : Nat} {ρ : Nat → Value} {ver : Int} {flex : Bool} {sver : Nat} {sf : Option Nat} (h : Ctx sver sf ver flex x ρ) (hxy : x ≤ y) : Ctx sver sf ver flex y ρ where
  hx := by have := h.hx; omega
  v1 := h.v1
  vx := by have := h.vx; omega
  ver := h.ver
  f1 := fun s hs => by obtain ⟨h1, h2, h3⟩ := h.f1 s hs; exact ⟨h1, by omega, h3⟩
  f0 := h.f0

section
variable {P : Program} {B N L : Nat} {ρ : Nat → Value} {w : World} {x x' : Nat} {I : IA} {ver : Int} {flex : Bool} {sver : Nat} {sf : Option Nat} {S : List (Nat × List UInt8) → Prop}

theorem Ctx.keep0 {y : Nat} {ρ' : Nat → Value} (h : Ctx sver sf ver flex x ρ) (hk : Keep L x y ρ ρ') (hL : x ≤ L) : Ctx sver sf ver flex x ρ' where
  hx := h.hx
  v1 := h.v1
  vx := h.vx
  ver := by rw [hk _ (by have := h.vx; omega) (by have := h.v1; omega) (.inl h.vx)]; exact h.ver
  f1 := fun s hs => by
    obtain ⟨h1, h2, h3⟩ := h.f1 s hs
    exact ⟨h1, h2, by rw [hk _ (by omega) (by omega) (.inl h2)]; exact h3⟩
  f0 := h.f0

/-- The place of an element. -/
theorem Sets.elemAddr {ty ety v t ab i len cap sz : Nat} (hv : v < L) (hx : x < L) (hxL : x + 1 < L) (ht : L ≤ t) (hN : t + 3 ≤ N) (hs : sliceOf P ty ety = true) (hc : cellsB P ety sz = true)
    (hρ : ρ v = .slice (some ⟨ab, 0, none⟩) len cap) (hi : ρ x = .int .i64 (i : Nat)) (hil : i < len) :
    Sets P N L (.rg [.mv t (.t v), .mv (t + 1) (.t x), .ia (t + 2) ty t (t + 1), .mv (x + 1) (.t (t + 2))]) ρ w (x + 1) (.pointer (some ⟨ab, i * sz, none⟩)) := by
  intro a Q hl hQ
  have hsz := hl.size
  refine MW.rg (ML.mv (ML.mv (ML.ia (b := ab) (o := 0) (len := len) (cap := cap) (k := .i64) (j := i) (sz := sz) hs hc ?_ ?_ hil (ML.mv (ML.nil ?_)))))
  · simp (disch := (first | omega | (simp only [size_wr]; omega))) only [rd_same, rd_ne, MX.of]
    rw [hl.get v hv, hρ]
  · simp (disch := (first | omega | (simp only [size_wr]; omega))) only [rd_same, rd_ne, MX.of]
    rw [hl.get x hx, hi]
  · simp (disch := (first | omega | (simp only [size_wr]; omega))) only [rd_same, rd_ne, MX.of]
    rw [Nat.zero_add]
    exact hQ _ (Loc.set (((hl.tmp _ (by omega) (by omega)).tmp _ (by omega) (by omega)).tmp _ (by omega) (by omega)) _ (by omega))

/-- An element, loaded. -/
theorem Sets.elemLoad {ty ety v t ab i len cap sz : Nat} {u : Value} (hv : v < L) (hx : x < L) (hxL : x + 1 < L) (ht : L ≤ t) (hN : t + 4 ≤ N) (hs : sliceOf P ty ety = true) (hc : cellsB P ety sz = true)
    (hρ : ρ v = .slice (some ⟨ab, 0, none⟩) len cap) (hi : ρ x = .int .i64 (i : Nat)) (hil : i < len) (hr : (Instr.loadAt ety (.pointer (some ⟨ab, i * sz, none⟩))).run P w = .ok u w) :
    Sets P N L (.rg [.mv t (.t v), .mv (t + 1) (.t x), .ia (t + 2) ty t (t + 1), .ld (t + 3) ety (t + 2), .mv (x + 1) (.t (t + 3))]) ρ w (x + 1) u := by
  intro a Q hl hQ
  have hsz := hl.size
  refine MW.rg (ML.mv (ML.mv (ML.ia (b := ab) (o := 0) (len := len) (cap := cap) (k := .i64) (j := i) (sz := sz) hs hc ?_ ?_ hil (ML.ldBy (v := u) ?_ (ML.mv (ML.nil ?_))))))
  · simp (disch := (first | omega | (simp only [size_wr]; omega))) only [rd_same, rd_ne, MX.of]
    rw [hl.get v hv, hρ]
  · simp (disch := (first | omega | (simp only [size_wr]; omega))) only [rd_same, rd_ne, MX.of]
    rw [hl.get x hx, hi]
  · simp (disch := (first | omega | (simp only [size_wr]; omega))) only [rd_same, rd_ne, MX.of]
    rw [Nat.zero_add]; exact hr
  · simp (disch := (first | omega | (simp only [size_wr]; omega))) only [rd_same, rd_ne, MX.of]
    exact hQ _ (Loc.set ((((hl.tmp _ (by omega) (by omega)).tmp _ (by omega) (by omega)).tmp _ (by omega) (by omega)).tmp _ (by omega) (by omega)) _ (by omega))

/-- The place of an embedded part. -/
theorem Sets.fldAddr {T vs idx t b o off : Nat} (hp : ρ vs = .pointer (some ⟨b, o, none⟩)) (hvs : vs < L) (hx : x < L) (ht : L ≤ t) (hN : t + 3 ≤ N) (hf : fieldAtB P T idx off = true) :
    Sets P N L (.rg [.mv t (.t vs), .nc (t + 1) t, .fa (t + 2) T (t + 1) idx, .mv x (.t (t + 2))]) ρ w x (.pointer (some ⟨b, o + off, none⟩)) := by
  intro a Q hl hQ
  have hsz := hl.size
  refine MW.rg (ML.mv (ML.nc (p := ⟨b, o, none⟩) ?_ (ML.fa (b := b) (o := o) (off := off) ?_ hf (ML.mv (ML.nil ?_)))))
  · simp (disch := (first | omega | (simp only [size_wr]; omega))) only [rd_same, rd_ne, MX.of]
    rw [hl.get vs hvs, hp]
  · simp (disch := (first | omega | (simp only [size_wr]; omega))) only [rd_same, rd_ne, MX.of]
  · simp (disch := (first | omega | (simp only [size_wr]; omega))) only [rd_same, rd_ne, MX.of]
    exact hQ _ (Loc.set (((hl.tmp _ (by omega) (by omega)).tmp _ (by omega) (by omega)).tmp _ (by omega) (by omega)) _ (by omega))

/-- The number of an enumeration, as its base type. -/
theorem Sets.conv {v t : Nat} {u : Value} (hv : v < L) (hx : x < L) (ht : L ≤ t) (hN : t + 1 ≤ N)
    (hρ : ρ v = u) : Sets P N L (.rg [.mv t (.t v), .mv x (.t t)]) ρ w x u := by
  intro a Q hl hQ
  have hsz := hl.size
  refine MW.rg (ML.mv (ML.mv (ML.nil ?_)))
  simp (disch := (first | omega | (simp only [size_wr]; omega))) only [rd_same, rd_ne, MX.of]
  rw [hl.get v hv, hρ]
  exact hQ _ (Loc.set (hl.tmp _ (by omega) (by omega)) _ (by omega))

theorem wrap_small {k : IntKind} {n : Int} (h0 : k.min ≤ n) (h1 : n ≤ k.max) : k.wrap n = n := by
  cases k <;> simp only [IntKind.min, IntKind.max, IntKind.bits, IntKind.signed, if_true, Bool.false_eq_true, if_false, show ((2 : Int) ^ (8 - 1)) = 128 from rfl, show ((2 : Int) ^ (16 - 1)) = 32768 from rfl, show ((2 : Int) ^ (32 - 1)) = 2147483648 from rfl, show ((2 : Int) ^ (64 - 1)) = 9223372036854775808 from rfl, show ((2 : Int) ^ 8) = 256 from rfl, show ((2 : Int) ^ 16) = 65536 from rfl, show ((2 : Int) ^ 32) = 4294967296 from rfl, show ((2 : Int) ^ 64) = 18446744073709551616 from rfl] at h0 h1 <;>
    simp only [IntKind.wrap, IntKind.bits, IntKind.signed, Bool.true_and, Bool.false_and, decide_eq_true_eq, Bool.false_eq_true, if_false, show ((2 : Int) ^ (8 - 1)) = 128 from rfl, show ((2 : Int) ^ (16 - 1)) = 32768 from rfl, show ((2 : Int) ^ (32 - 1)) = 2147483648 from rfl, show ((2 : Int) ^ (64 - 1)) = 9223372036854775808 from rfl, show ((2 : Int) ^ 8) = 256 from rfl, show ((2 : Int) ^ 16) = 65536 from rfl, show ((2 : Int) ^ 32) = 4294967296 from rfl, show ((2 : Int) ^ 64) = 18446744073709551616 from rfl] <;> (try split) <;> omega

/-- A number's kind. -/
theorem RepP.int {w : World} {F : Nat → Prop} {k : PK} {kk : IntKind} {cs : List Value} {d : D} (hk : k.kind = some kk) (h : RepP w F k cs d) : ∃ n, cs = [.int kk n] ∧ kk.wrap n = n := by
  cases k <;> simp only [PK.kind, Option.some.injEq, reduceCtorEq] at hk <;> subst hk <;> simp only [RepP] at h <;> obtain ⟨n, h1, _, h2, h3⟩ := h <;>
    exact ⟨n, h1, wrap_small (by simp [IntKind.min, IntKind.bits, IntKind.signed]; omega) (by simp [IntKind.max, IntKind.bits, IntKind.signed]; omega)⟩

/-- A field that is read through a variable of its own. -/
theorem Writes.box {T vs idx off t x ty pb po : Nat} {ρ : Nat → Value} {w : World} {L : Nat} {cs : List Value} {d : D} (ok : AOK P I S) (hctx : Ctx sver sf ver flex x ρ) (hf : fieldAtB P T idx off = true)
    (hrow : rowTy P ty = true) (hcs : cellsB P ty 16 = true) (hz : zeroN P ty 16 = true) (hfn : I.fn .uuid false ≠ 0) (hp : ρ vs = .pointer (some ⟨pb, po, none⟩)) (hvx : vs < x) (hL : x + 1 ≤ L) (ht : L ≤ t) (hN : t + 7 ≤ N)
    (hB : B ≤ w.heap.size) (hrep : RepP w (· < B) .uuid cs d) (hu1 : (Instr.loadAt ty (.pointer (some ⟨pb, po + off, none⟩))).run P w = .ok (asV .uuid cs) w) :
    Writes P I.tU8 B N L (.sq (.rg [.mv t (.t vs), .nc (t + 1) t, .fa (t + 2) T (t + 1) idx, .ld (t + 3) ty (t + 2), .al x ty, .st ty x (t + 3)])
      (.rg [.mv (t + 4) (.t 1), .ld (t + 5) ty x, .ca (t + 6) (I.fn .uuid false) [.t (t + 4), .t (t + 5)], .mv 1 (.t (t + 6))])) ρ w x (x + 1) (encP .uuid flex d) := by
  intro a bs Q hl ho hlim hQ
  have hsz := hl.size
  have h1x := hctx.hx
  have hrep0 := hrep
  obtain ⟨l, hl16, hcl, hd⟩ := hrep
  have hlen : cs.length = 16 := by rw [hcl, List.length_map, hl16]
  obtain ⟨z, iz, hzs⟩ : ∃ z : List Value, (∃ i, P.info? ty = some i ∧ i.zero = some (.agg z.toArray)) ∧ z.length = 16 := by
    unfold zeroN at hz
    cases hi : P.info? ty with
    | none => simp [hi] at hz
    | some i =>
      simp only [hi] at hz
      cases hzv : i.zero with
      | none => simp [hzv] at hz
      | some v =>
        cases v <;> simp only [hzv, Bool.false_eq_true, Nat.beq_eq] at hz
        rename_i cs
        exact ⟨cs.toList, ⟨i, rfl, by rw [hzv]⟩, by simpa using hz⟩
  have hone : cs.all (·.oneCell') = true := by rw [hcl]; simp [byteV, Value.oneCell']
  have hth : (w.alloc (.cells z.toArray ty)).there w.heap.size 0 cs.length := by rw [hlen, ← hzs]; exact there_box w z ty
  have hbw : Below w.heap.size w ((w.alloc (.cells z.toArray ty)).setCells w.heap.size 0 cs) := below_setCells (Nat.le_refl _) _ _ (below_box w _)
  have hsw : ((w.alloc (.cells z.toArray ty)).setCells w.heap.size 0 cs).heap.size = w.heap.size + 1 := by rw [size_setCells, size_box]
  have hrg : ((w.alloc (.cells z.toArray ty)).setCells w.heap.size 0 cs).rangeAt w.heap.size 0 cs := World.rangeAt_setCells_same _ _ _ _ hth
  refine MW.sq (MW.rg (ML.mv (ML.nc (p := ⟨pb, po, none⟩) ?_ (ML.fa (b := pb) (o := po) (off := off) ?_ hf (ML.ldBy (v := asV .uuid cs) ?_ (ML.al (z := .agg z.toArray) iz ?_))))))
  · simp (disch := (first | omega | (simp only [size_wr]; omega))) only [rd_same, rd_ne, MX.of]
    rw [hl.get vs (by omega), hp]
  · simp (disch := (first | omega | (simp only [size_wr]; omega))) only [rd_same, rd_ne, MX.of]
  · simp (disch := (first | omega | (simp only [size_wr]; omega))) only [rd_same, rd_ne, MX.of]
    exact hu1
  refine ML.st (b := w.heap.size) (o := 0) ?_ ?_ ?_ ?_ ?_
  · simp (disch := (first | omega | (simp only [size_wr]; omega))) only [rd_same, rd_ne, MX.of]
  · simp (disch := (first | omega | (simp only [size_wr]; omega))) only [rd_same, rd_ne, MX.of]
    simpa [asV, Value.cells, hlen] using hcs
  · simp (disch := (first | omega | (simp only [size_wr]; omega))) only [rd_same, rd_ne, MX.of]
    simpa [asV, Value.cells] using hth
  · simp (disch := (first | omega | (simp only [size_wr]; omega))) only [rd_same, rd_ne, MX.of]
    simpa [asV, Value.cells] using hone
  simp (disch := (first | omega | (simp only [size_wr]; omega))) only [rd_same, rd_ne, MX.of]
  refine ML.nil ?_
  show MW P _ Q _ _
  have ew : (w.alloc (.cells (Value.agg z.toArray).cells ty)).setCells w.heap.size 0 (asV .uuid cs).cells.toList = (w.alloc (.cells z.toArray ty)).setCells w.heap.size 0 cs := by simp [asV, Value.cells]
  rw [ew]
  have hl2 : Loc N L (upd ρ x (.pointer (some ⟨w.heap.size, 0, none⟩))) (wr (wr (wr (wr (wr a t (rd a vs)) (t + 1) (.pointer (some ⟨pb, po, none⟩))) (t + 2) (.pointer (some ⟨pb, po + off, none⟩))) (t + 3) (asV .uuid cs)) x (.pointer (some ⟨w.heap.size, 0, none⟩))) :=
    Loc.set ((((hl.tmp _ (by omega) (by omega)).tmp _ (by omega) (by omega)).tmp _ (by omega) (by omega)).tmp _ (by omega) (by omega)) _ (by omega)
  generalize (wr (wr (wr (wr (wr a t (rd a vs)) (t + 1) (.pointer (some ⟨pb, po, none⟩))) (t + 2) (.pointer (some ⟨pb, po + off, none⟩))) (t + 3) (asV .uuid cs)) x (.pointer (some ⟨w.heap.size, 0, none⟩))) = a2 at hl2 ⊢
  generalize (w.alloc (.cells z.toArray ty)).setCells w.heap.size 0 cs = w2 at hbw hsw hrg ⊢
  have hsz2 := hl2.size
  have ho2 : OwnB I.tU8 w2 B (ρ 1) bs := ho.keep hbw
  refine MW.rg (ML.mv (ML.ldRow (b := w.heap.size) (o := 0) (cs := cs) ?_ hrow (by rw [hlen]; exact hcs) hrg (ML.ca (R := fun sv' w' => OwnB I.tU8 w' B sv' (bs ++ encP .uuid flex d) ∧ Below B w2 w') (ok.prim .uuid false hfn).1 ?_ ?_)))
  · simp (disch := (first | omega | (simp only [size_wr]; omega))) only [rd_same, rd_ne, MX.of]
    rw [hl2.get x (by omega), upd_same]
  · simp (disch := (first | omega | (simp only [size_wr]; omega))) only [rd_same, rd_ne, MX.of, List.map_cons, List.map_nil]
    rw [hl2.get 1 (by omega), upd_ne _ _ (by omega)]
    refine ((ok.prim .uuid false hfn).2 w2 B (ρ 1) (.agg cs.toArray) bs (encP .uuid flex d) (by omega) ho2 ⟨cs, d, rfl, RepP.mono hrep0 (fun _ h => h) (fun b h => hbw.block b (by omega)), by rw [hd]; simp only [smallP]; omega, ?_⟩ hlim).mono ?_
    · cases flex <;> rw [hd] <;> rfl
    · rintro e w' ⟨sv', rfl, h2⟩
      exact ⟨sv', rfl, h2⟩
  · rintro sv' w' ⟨h2, h3⟩
    refine ML.mv (ML.nil ?_)
    simp (disch := (first | omega | (simp only [size_wr]; omega))) only [rd_same, rd_ne, MX.of]
    refine hQ _ w' (upd (upd ρ x (.pointer (some ⟨w.heap.size, 0, none⟩))) 1 sv') (Loc.set (((hl2.tmp _ (by omega) (by omega)).tmp _ (by omega) (by omega)).tmp _ (by omega) (by omega)) _ (by omega)) ?_ ?_ ((hbw.mono hB).trans h3)
    · intro s hs h0 h5; rw [upd_ne _ _ h0, upd_ne _ _ (by omega)]
    · rw [upd_same]; exact h2

mutual
theorem genE_ok (ok : AOK P I S) {ty ety : Nat} : ∀ (el : Ty) {ρ : Nat → Value} {w : World} {L v x t x' b ab i len cap : Nat} {arr : List Value} {d : D},
    wfE P I sf ety el = true → sliceOf P ty ety = true → Ctx sver sf ver flex x ρ → 1 < v → v < x → x' = x + 2 → (genE I sver sf ty ety el v x t x' b).2.2.1 ≤ L → L ≤ t → (genE I sver sf ty ety el v x t x' b).2.1 ≤ N →
    ρ v = .slice (some ⟨ab, 0, none⟩) len cap → ρ x = .int .i64 (i : Nat) → i < len → ab < B → B ≤ w.heap.size → w.rangeAt ab 0 arr →
    Rep w (· < B) el ((arr.drop (i * el.cells)).take el.cells) d → Sm S el d →
    WritesL P I.tU8 B N L (genE I sver sf ty ety el v x t x' b).1 ρ w (x + 1) (genE I sver sf ty ety el v x t x' b).2.2.1 (enc ver flex el d)
  | .prim k _, ρ, w, L, v, x, t, x', b, ab, i, len, cap, arr, d, hwf, hsl, hctx, hv1, hvx, hx', hL, ht, hN, hρ, hi, hil, hab, hB, hh, hrep, hsm => by
    subst hx'
    simp only [wfE, Bool.and_eq_true] at hwf
    obtain ⟨⟨w1, w2⟩, w3⟩ := hwf
    simp only [genE] at hL hN ⊢
    simp only [Ty.cells] at hrep
    unfold Rep at hrep
    unfold Sm at hsm
    have hpl := @primA_le I sf k (x + 1) (t + 4)
    have hrg := rangeAt_sub (hh) (i * k.cells) k.cells
    rw [Nat.zero_add] at hrg
    have hu1 := load_prim w1 hrep hrg
    refine .inr ⟨_, by omega, by omega, Sets.elemLoad (by omega) (by omega) (by omega) ht (by omega) hsl w2 hρ hi hil hu1, ?_⟩
    have hctx' : Ctx sver sf ver flex (x + 1 + 1) (upd ρ (x + 1) (asV k ((arr.drop (i * k.cells)).take k.cells))) := (hctx.le (Nat.le_succ x)).upd
    refine .inl ⟨_, [], x + 2, (List.append_nil _).symm, Nat.le_refl _, Nat.le_refl _, ?_, fun _ _ _ _ => ⟨rfl, rfl⟩⟩
    unfold enc
    exact Writes.primA ok hctx' (by omega) (by omega) (by omega) hN hB w3 (upd_same _ _ _) hrep hsm
  | .struct T n df tg fs, ρ, w, L, v, x, t, x', b, ab, i, len, cap, arr, d, hwf, hsl, hctx, hv1, hvx, hx', hL, ht, hN, hρ, hi, hil, hab, hB, hh, hrep, hsm => by
    subst hx'
    simp only [wfE, Bool.and_eq_true] at hwf
    obtain ⟨⟨w1, w2⟩, w3⟩ := hwf
    simp only [genE] at hL hN ⊢
    simp only [Ty.cells] at hrep
    unfold Rep at hrep
    obtain ⟨ds, tags, rfl, hcn, hrf, htg⟩ := hrep
    unfold Sm at hsm
    obtain ⟨hs1, hs2⟩ := hsm
    have hle := @genF_le I sver sf T (x + 1) fs (t + 3) (x + 2) b
    have hle2 := @tagsA_le I sf T (x + 1) tg (genF I sver sf T (x + 1) fs (t + 3) (x + 2) b).2.1
    have hrg := rangeAt_sub (hh) (i * n) n
    rw [Nat.zero_add] at hrg
    refine .inr ⟨_, by omega, by omega, Sets.elemAddr (by omega) (by omega) (by omega) ht (by omega) hsl w1 hρ hi hil, ?_⟩
    have hctx' : Ctx sver sf ver flex (x + 1 + 1) (upd ρ (x + 1) (.pointer (some ⟨ab, i * n, none⟩))) := (hctx.le (Nat.le_succ x)).upd
    unfold enc
    refine WritesL.append (y := (genF I sver sf T (x + 1) fs (t + 3) (x + 2) b).2.2.1)
      (genF_ok ok fs w2 hctx' (by omega) (by omega) hL (by omega) (by omega) (upd_same _ _ _) hab hB hrg hrf hs1) (Nat.le_refl _) ?_
    intro ρ' w' hk hb
    exact tags_of ok (hctx'.keep hk (by omega) hle.2) hL (by omega) (by omega) (by omega) hN (by rw [hk _ (by omega) (by omega) (.inl (by omega)), upd_same]) hab (Nat.le_trans hB hb.size) w3
      (fun j u hu => by rw [cell_of_heap (hb.block ab hab)]; exact hrg j u hu)
      (htg.mono (fun _ h => h) (fun b h => hb.block b h)) hs2
  | .enum .., ρ, w, L, v, x, t, x', b, ab, i, len, cap, arr, d, hwf, hsl, hctx, hv1, hvx, hx', hL, ht, hN, hρ, hi, hil, hab, hB, hh, hrep, hsm => by simp [wfE] at hwf
  | .arr .., ρ, w, L, v, x, t, x', b, ab, i, len, cap, arr, d, hwf, hsl, hctx, hv1, hvx, hx', hL, ht, hN, hρ, hi, hil, hab, hB, hh, hrep, hsm => by simp [wfE] at hwf
theorem genF_ok (ok : AOK P I S) {T vs : Nat} : ∀ (fs : Flds) {ρ : Nat → Value} {w : World} {L t x b pb po : Nat} {cs : List Value} {ds : List D},
    wfF P I sf T fs = true → Ctx sver sf ver flex x ρ → vs ≠ 1 → vs < x → (genF I sver sf T vs fs t x b).2.2.1 ≤ L → L ≤ t → (genF I sver sf T vs fs t x b).2.1 ≤ N →
    ρ vs = .pointer (some ⟨pb, po, none⟩) → pb < B → B ≤ w.heap.size → w.rangeAt pb po cs → RepF w (· < B) fs cs ds → SmF S fs ds →
    WritesL P I.tU8 B N L (genF I sver sf T vs fs t x b).1 ρ w x (genF I sver sf T vs fs t x b).2.2.1 (encF ver flex fs ds)
  | .nil, ρ, w, L, t, x, b, pb, po, cs, ds, hwf, hctx, hv1, hvx, hL, ht, hN, hp, hpb, hB, hc, hrep, hsm => by
    simp only [genF]
    unfold encF
    exact ⟨rfl, rfl⟩
  | .cons c idx off df ty rest, ρ, w, L, t, x, b, pb, po, cs, ds, hwf, hctx, hv1, hvx, hL, ht, hN, hp, hpb, hB, hc, hrep, hsm => by
    simp only [wfF, Bool.and_eq_true] at hwf
    obtain ⟨⟨w1, w2⟩, w3⟩ := hwf
    unfold RepF at hrep
    obtain ⟨h0, d, ds', rfl, hr1, hr2⟩ := hrep
    unfold SmF at hsm
    simp only [List.headD_cons, List.tail_cons] at hsm
    obtain ⟨s1, s2⟩ := hsm
    simp only [genF] at hL hN ⊢
    unfold encF
    simp only [List.headD_cons, List.tail_cons]
    have hfx : ∀ t', (genFld I sver sf T vs idx ty t' x b).2.2.1 = (genFld I sver sf T vs idx ty t x b).2.2.1 := fun t' => genFld_x ty
    have hcx : (condA I sver c t (fun t => genFld I sver sf T vs idx ty t x b)).2.2.1 = (genFld I sver sf T vs idx ty t x b).2.2.1 := condA_x hfx
    have hfl := @genFld_le I sver sf T vs idx ty t x b
    have hct : t ≤ (condA I sver c t (fun t => genFld I sver sf T vs idx ty t x b)).2.1 := condA_le (fun t => (@genFld_le I sver sf T vs idx ty t x b).1)
    have hrl := @genF_le I sver sf T vs rest (condA I sver c t (fun t => genFld I sver sf T vs idx ty t x b)).2.1 (condA I sver c t (fun t => genFld I sver sf T vs idx ty t x b)).2.2.1 (condA I sver c t (fun t => genFld I sver sf T vs idx ty t x b)).2.2.2
    refine .inl ⟨_, _, (condA I sver c t (fun t => genFld I sver sf T vs idx ty t x b)).2.2.1, rfl, by omega, hrl.2, ?_, ?_⟩
    · rw [hcx]
      refine Writes.condA (by have := hctx.vx; omega) hctx.ver ht hfx hfl.2 (fun t => (@genFld_le I sver sf T vs idx ty t x b).1) (by omega) ?_
      intro _ t' ht' hN'
      rw [← hfx t']
      exact genFld_ok ok ty w1 w2 hctx hv1 hvx (by rw [hfx t']; omega) ht' hN' hp hpb hB (rangeAt_sub hc off ty.cells) hr1 s1
    · intro ρ' w' hk hb
      exact genF_ok ok rest w3 (hctx.keep hk (by omega) (by omega)) hv1 (by omega) hL (by omega) hN
        (by rw [hk _ (by omega) (by omega) (.inl hvx)]; exact hp) hpb (Nat.le_trans hB hb.size)
        (fun j u hu => by rw [cell_of_heap (hb.block pb hpb)]; exact hc j u hu) (RepF.mono (fun _ h => h) (fun b h => hb.block b h) rest hr2) s2
theorem genFld_ok (ok : AOK P I S) {T vs idx off : Nat} : ∀ (ty : Ty) {ρ : Nat → Value} {w : World} {L t x b pb po : Nat} {cs : List Value} {d : D},
    fieldAtB P T idx off = true → wfFld P I sf ty = true → Ctx sver sf ver flex x ρ → vs ≠ 1 → vs < x → (genFld I sver sf T vs idx ty t x b).2.2.1 ≤ L → L ≤ t → (genFld I sver sf T vs idx ty t x b).2.1 ≤ N →
    ρ vs = .pointer (some ⟨pb, po, none⟩) → pb < B → B ≤ w.heap.size → w.rangeAt pb (po + off) cs → Rep w (· < B) ty cs d → Sm S ty d →
    Writes P I.tU8 B N L (genFld I sver sf T vs idx ty t x b).1 ρ w x (genFld I sver sf T vs idx ty t x b).2.2.1 (enc ver flex ty d)
  | .prim k ty, ρ, w, L, t, x, b, pb, po, cs, d, hf, hwf, hctx, hv1, hvx, hL, ht, hN, hp, hpb, hB, hc, hrep, hsm => by
    simp only [wfFld, Bool.and_eq_true] at hwf
    obtain ⟨⟨w1, w2⟩, w3⟩ := hwf
    simp only [genFld] at hL hN ⊢
    unfold Rep at hrep
    unfold Sm at hsm
    unfold enc
    have hpl := @primA_le I sf k x (t + 4)
    have hu1 := load_prim w1 hrep hc
    unfold primFldA at hN ⊢
    cases hbx : k.box with
    | true =>
      rw [hbx] at hN w3
      simp only [if_true] at hN ⊢
      cases k <;> simp only [PK.box, Bool.false_eq_true] at hbx
      simp only [primTy, Bool.and_eq_true] at w1
      simp only [Bool.not_true, Bool.false_or] at w3
      simp only [fnOk, Bool.and_eq_true] at w2
      exact Writes.box (hf := hf) (hctx := hctx) (ok := ok) w1.1 w1.2 w3 (ne0 w2.1) hp hvx hL ht hN hB hrep hu1
    | false =>
    rw [hbx] at hN
    simp only [Bool.false_eq_true, if_false, Kx.loadA] at hN ⊢
    refine Sets.then (Sets.loadA hp (by omega) (by omega) ht (by omega) hf hu1) (by have := hctx.hx; omega) ?_ (Nat.le_refl _)
    exact Writes.primA ok hctx.upd hL (by omega) (by omega) hN hB w2 (upd_same _ _ _) hrep hsm
  | .enum k ty base, ρ, w, L, t, x, b, pb, po, cs, d, hf, hwf, hctx, hv1, hvx, hL, ht, hN, hp, hpb, hB, hc, hrep, hsm => by
    simp only [wfFld, Bool.and_eq_true] at hwf
    obtain ⟨⟨w1, w2⟩, w3⟩ := hwf
    simp only [genFld, Kx.loadA] at hL hN ⊢
    unfold Rep at hrep
    unfold Sm at hsm
    unfold enc
    cases hk : k.kind with
    | none => simp [hk] at w1
    | some kk =>
      simp only [hk, Bool.and_eq_true] at w1
      obtain ⟨n, hcs, hwr⟩ := hrep.int hk
      have hnt : k.two = false := by cases k <;> simp [PK.kind] at hk <;> rfl
      have hu1 : (Instr.loadAt ty (.pointer (some ⟨pb, po + off, none⟩))).run P w = .ok (.int kk n) w := run_loadAt_one w2 (by have := hc 0 (.int kk n) (by rw [hcs]; rfl); simpa using this)
      simp only [Kx.callA] at hN
      have h1x := hctx.hx
      refine Sets.then (Sets.loadA hp (by omega) (by omega) ht (by omega) hf hu1) (by omega) ?_ (by omega)
      refine Sets.then (Sets.conv (by omega) (by omega) (by omega) (by omega) (upd_same _ _ _)) (by omega) ?_ (Nat.le_refl _)
      rw [encP_two hnt]
      exact Writes.callA (ok.prim k false (ne0 w3)) hB (by omega) (by omega) (by omega) (by omega) ⟨cs, d, by rw [upd_same, hcs]; cases k <;> simp [PK.kind] at hk <;> rfl, hrep, hsm, rfl⟩
  | .arr nul ty ety el, ρ, w, L, t, x, b, pb, po, cs, d, hf, hwf, hctx, hv1, hvx, hL, ht, hN, hp, hpb, hB, hc, hrep, hsm => by
    simp only [wfFld, Bool.and_eq_true] at hwf
    obtain ⟨⟨⟨⟨w1, w2⟩, w3⟩, w4⟩, w5⟩ := hwf
    simp only [genFld] at hL hN ⊢
    unfold Rep at hrep
    obtain ⟨isnul, xs, rfl, hrep⟩ := hrep
    unfold Sm at hsm
    obtain ⟨s1, s2⟩ := hsm
    have hl2 : (Kx.loadA T vs idx ty x t).2 = t + 4 := rfl
    rw [hl2] at hL hN ⊢
    have h0 : t + 4 ≤ (Kx.alenA I sf nul ty x (t + 4)).2 := alenA_le
    have h1 := @genE_le I sver sf ty ety el x (x + 1) ((Kx.alenA I sf nul ty x (t + 4)).2 + 5) (x + 3) (b + 2)
    have hlx : (Kx.loopA I.tInt ty x (x + 1) (Kx.alenA I sf nul ty x (t + 4)).2 b (fun t' b' => genE I sver sf ty ety el x (x + 1) t' (x + 3) b')).2.2.1 = (genE I sver sf ty ety el x (x + 1) ((Kx.alenA I sf nul ty x (t + 4)).2 + 5) (x + 3) (b + 2)).2.2.1 := rfl
    have hlt : (Kx.loopA I.tInt ty x (x + 1) (Kx.alenA I sf nul ty x (t + 4)).2 b (fun t' b' => genE I sver sf ty ety el x (x + 1) t' (x + 3) b')).2.1 = (genE I sver sf ty ety el x (x + 1) ((Kx.alenA I sf nul ty x (t + 4)).2 + 5) (x + 3) (b + 2)).2.1 + 1 := rfl
    have hxx := hctx.hx
    -- the slice's value
    obtain ⟨p, cap, hcs, hpn, hel⟩ : ∃ p cap, cs = [.slice p xs.length cap] ∧ (isnul = (nul.isSome && p.isNone)) ∧
        (xs = [] ∨ ∃ (ab : Nat) (arr : List Value), p = some ⟨ab, 0, none⟩ ∧ ab < B ∧ w.rangeAt ab 0 arr ∧ ∀ i d, xs[i]? = some d → Rep w (· < B) el ((arr.drop (i * el.cells)).take el.cells) d) := by
      rcases hrep with ⟨k1, k2, k3⟩ | ⟨k1, ab, arr, cap, k2, k3, k4, k5, k6⟩
      · exact ⟨none, 0, by rw [k1, k2]; rfl, by simp [k3], .inl k2⟩
      · exact ⟨some ⟨ab, 0, none⟩, cap, k2, by simp [k1], .inr ⟨ab, arr, rfl, k3, k4, k6⟩⟩
    have hu1 : (Instr.loadAt ty (.pointer (some ⟨pb, po + off, none⟩))).run P w = .ok (.slice p xs.length cap) w := run_loadAt_one w1 (by have := hc 0 (.slice p xs.length cap) (by rw [hcs]; rfl); simpa using this)
    refine Sets.then (Sets.loadA hp (by omega) (by omega) ht (by omega) hf hu1) (by omega) ?_ (by omega)
    refine WritesL.rows (cs := [(Kx.alenA I sf nul ty x (t + 4)).1, (Kx.loopA I.tInt ty x (x + 1) (Kx.alenA I sf nul ty x (t + 4)).2 b (fun t' b' => genE I sver sf ty ety el x (x + 1) t' (x + 3) b')).1]) ?_
    have hctx1 : Ctx sver sf ver flex (x + 1) (upd ρ x (.slice p xs.length cap)) := hctx.upd
    have hlen : Writes P I.tU8 B N L (Kx.alenA I sf nul ty x (t + 4)).1 (upd ρ x (.slice p xs.length cap)) w (x + 1) (x + 1) (if nul.isSome && p.isNone then cntNull flex 4 else cnt flex 4 xs.length) :=
      Writes.alenA ok hctx1 (by omega) (by omega) (by omega) (by omega) (by omega) hB w5 w2 (upd_same _ _ _) s1
    have hout : enc ver flex (.arr nul ty ety el) (.l isnul xs) = (if nul.isSome && p.isNone then cntNull flex 4 else cnt flex 4 xs.length) ++ xs.flatMap (enc ver flex el) := by
      unfold enc
      rw [← hpn]
      cases hnn : isnul
      · simp
      · have : xs = [] := by
          rcases hel with h | ⟨ab, arr, h, _⟩
          · exact h
          · rw [hnn, h] at hpn; simp at hpn
        simp [this]
    rw [hout]
    refine .inl ⟨_, _, x + 1, rfl, Nat.le_refl _, by omega, hlen, ?_⟩
    intro ρ' w' hk hb
    have hv' : ρ' x = .slice p xs.length cap := by rw [hk _ (by omega) (by omega) (.inl (by omega)), upd_same]
    have hctx2 : Ctx sver sf ver flex (x + 1) ρ' := hctx1.keep hk (by omega) (Nat.le_refl _)
    refine .inl ⟨_, [], _, (List.append_nil _).symm, by omega, Nat.le_refl _, ?_, fun _ _ _ _ => ⟨rfl, rfl⟩⟩
    refine Writes.loopA (v := x) (x := x + 1) (t := (Kx.alenA I sf nul ty x (t + 4)).2) xs (enc ver flex el) (by omega) (by omega) (by omega) (by omega) (by omega) (by omega) (by omega) hN h1.1 w2 hv' rfl (by omega) ?_
    intro i d hd ρ2 w2' hk2 hb2 hi2
    rcases hel with h | ⟨ab, arr, hpe, hab, hh, hall⟩
    · rw [h] at hd; simp at hd
    · have hb' := hb.trans hb2
      have hblk : w2'.heap[ab]? = w.heap[ab]? := hb'.block ab hab
      refine genE_ok ok el (len := xs.length) (cap := cap) (ab := ab) (i := i) (arr := arr) w4 w2 ?_ (by omega) (by omega) rfl (by omega) (by omega) (by omega) ?_ hi2 ?_ hab (Nat.le_trans hB hb'.size) (fun j u hu => by rw [cell_of_heap hblk]; exact hh j u hu) ?_ (s2 d (List.mem_of_getElem? hd))
      · exact hctx2.keep0 hk2 (by omega)
      · rw [hk2 x (by omega) (by omega) (by omega), hv', hpe]
      · exact (List.getElem?_eq_some_iff.1 hd).1
      · exact Rep.mono (fun _ h => h) (fun b h => hb'.block b h) el (hall i d hd)
  | .struct T' n df tg fs, ρ, w, L, t, x, b, pb, po, cs, d, hf, hwf, hctx, hv1, hvx, hL, ht, hN, hp, hpb, hB, hc, hrep, hsm => by
    simp only [wfFld, Bool.and_eq_true] at hwf
    obtain ⟨w1, w2⟩ := hwf
    simp only [genFld] at hL hN ⊢
    unfold Rep at hrep
    obtain ⟨ds, tags, rfl, hcn, hrf, htg⟩ := hrep
    unfold Sm at hsm
    obtain ⟨s1, s2⟩ := hsm
    unfold enc
    have hle := @genF_le I sver sf T' x fs (t + 3) (x + 1) b
    have hle2 := @tagsA_le I sf T' x tg (genF I sver sf T' x fs (t + 3) (x + 1) b).2.1
    have hxx := hctx.hx
    refine WritesL.rows (.inr ⟨_, by omega, by omega, Sets.fldAddr hp (by omega) (by omega) ht (by omega) hf, ?_⟩)
    have hctx' : Ctx sver sf ver flex (x + 1) (upd ρ x (.pointer (some ⟨pb, po + off, none⟩))) := hctx.upd
    refine WritesL.append (y := (genF I sver sf T' x fs (t + 3) (x + 1) b).2.2.1)
      (genF_ok ok fs w1 hctx' (by omega) (by omega) hL (by omega) (by omega) (upd_same _ _ _) hpb hB hc hrf s1) (Nat.le_refl _) ?_
    intro ρ' w' hk hb
    exact tags_of ok (hctx'.keep hk (by omega) hle.2) hL (by omega) (by omega) (by omega) hN (by rw [hk _ (by omega) (by omega) (.inl (by omega)), upd_same]) hpb (Nat.le_trans hB hb.size) w2
      (fun j u hu => by rw [cell_of_heap (hb.block pb hpb)]; exact hc j u hu)
      (htg.mono (fun _ h => h) (fun b h => hb.block b h)) s2
end
end
end Go.Kx
namespace Go.Kx
open Go.RowKit
set_option linter.unusedSimpArgs false
set_option linter.unusedVariables false

/-- A message: its type, from which version on it is flexible, its tags' place, its fields. -/
structure Plan where
  T : Nat
  fl : Option Nat
  tg : Option (Nat × Nat)
  fs : Flds

def Plan.sf (p : Plan) : Option Nat := p.fl.map fun _ => 6
def Plan.x0 (p : Plan) : Nat := match p.fl with | none => 6 | some _ => 7
def Plan.flex (p : Plan) (ver : Int) : Bool := match p.fl with | none => false | some k => decide ((k : Int) ≤ ver)

/-- The head: the result's slot, the version, whether it is flexible. -/
def headA (I : IA) (p : Plan) (t : Nat) : List MCode × Nat :=
  let h := [MCode.rg [.mv 4 (.c .nslice)], (loadA p.T 0 0 I.tI16 5 t).1, .rg [.mv (t + 4) (.t 5)]]
  match p.fl with
  | none => (h, t + 5)
  | some k => (h ++ [.rg [.mv (t + 5) (.t 5), .bi (t + 6) .geq I.tI16 (.t (t + 5)) (.c (.int .i16 k)), .mv 6 (.t (t + 6))], .rg [.mv (t + 7) (.t 6)]], t + 8)

def bodyA (I : IA) (p : Plan) (L : Nat) : List MCode × Nat × Nat :=
  let h := headA I p L
  let f := genF I 5 p.sf p.T 0 p.fs h.2 p.x0 0
  let g := tagsA I p.sf p.T 0 p.tg f.2.1
  (f.1 ++ g.1, g.2, f.2.2.1)

def topA (I : IA) (p : Plan) (L : Nat) : MCode :=
  let b := bodyA I p L
  rows ((headA I p L).1 ++ (b.1 ++ [.rg [.mv b.2.1 (.t 1), .mv 4 (.t b.2.1)], .rt]))

/-- The plan and the function's frame fit. -/
def okTop (P : Program) (I : IA) (p : Plan) (L N : Nat) : Bool :=
  wfF P I p.sf p.T p.fs && wfT P I p.sf p.T p.tg && fieldAtB P p.T 0 0 && plainTy P I.tI16 && decide ((bodyA I p L).2.2 ≤ L) && decide ((bodyA I p L).2.1 + 1 ≤ N) && decide (7 ≤ L)

def encTop (p : Plan) (ver : Int) (ds : List D) (tags : List (Nat × List UInt8)) : List UInt8 :=
  encF ver (p.flex ver) p.fs ds ++ (if p.tg.isSome && p.flex ver then encTags tags else [])

/-- A message in memory at p: its version, its fields, its tags. -/
structure MsgAt (w : World) (F : Nat → Prop) (p : Plan) (a : Addr) (ver : Int) (ds : List D) (tags : List (Nat × List UInt8)) (cs : List Value) : Prop where
  spot : a.spot = none
  blk : F a.block
  at_ : w.rangeAt a.block a.off cs
  v0 : cs[0]? = some (.int .i16 ver)
  flds : RepF w F p.fs cs ds
  tgs : TagsAt w F p.tg cs tags

theorem MsgAt.mono {w w' : World} {F F' : Nat → Prop} {p : Plan} {a : Addr} {ver : Int} {ds : List D} {tags : List (Nat × List UInt8)} {cs : List Value} (h : MsgAt w F p a ver ds tags cs)
    (hF : ∀ b, F b → F' b) (hw : ∀ b, F b → w'.heap[b]? = w.heap[b]?) : MsgAt w' F' p a ver ds tags cs where
  spot := h.spot
  blk := hF _ h.blk
  at_ := fun j u hu => by
    have := h.at_ j u hu
    rwa [← cell_of_heap (w := w) (w' := w') (a := ⟨a.block, a.off + j, none⟩) (hw _ h.blk)] at this
  v0 := h.v0
  flds := RepF.mono hF hw _ h.flds
  tgs := h.tgs.mono hF hw

section
variable {P : Program} {I : IA} {S : List (Nat × List UInt8) → Prop}

/-- Statements behind statements that write. -/
theorem rows_append {U B N L : Nat} : ∀ {cs ds : List MCode} {ρ : Nat → Value} {w : World} {x x' : Nat} {out : List UInt8} {a : Act} {bs : List UInt8} {Q : Exit → Act → World → Prop}, ds ≠ [] → WritesL P U B N L cs ρ w x x' out →
    Loc N L ρ a → OwnB U w B (ρ 1) bs → bs.length + out.length ≤ lim →
    (∀ a' w' ρ', Loc N L ρ' a' → Keep L x x' ρ ρ' → OwnB U w' B (ρ' 1) (bs ++ out) → Below B w w' → MW P (rows ds) Q a' w') → MW P (rows (cs ++ ds)) Q a w
  | [], ds, ρ, w, x, x', out, a, bs, Q, hds, h, hl, ho, hlim, hQ => by
    obtain ⟨rfl, rfl⟩ := h
    exact hQ a w ρ hl (Keep.refl _ _ _ _) (by simpa using ho) (Below.refl _ _)
  | c :: cs, ds, ρ, w, x, x', out, a, bs, Q, hds, h, hl, ho, hlim, hQ => by
    have hne : ∃ d ds', cs ++ ds = d :: ds' := by
      cases cs with
      | nil => cases ds with
        | nil => exact absurd rfl hds
        | cons d ds' => exact ⟨d, ds', rfl⟩
      | cons d cs' => exact ⟨d, cs' ++ ds, rfl⟩
    obtain ⟨d, ds', hd⟩ := hne
    have hrow : rows (c :: cs ++ ds) = .sq c (rows (cs ++ ds)) := by
      rw [List.cons_append, hd]; rfl
    rw [hrow]
    rcases h with ⟨o1, o2, y, rfl, h1, h2, h3, h4⟩ | ⟨v, h1, h2, h3, h4⟩
    · simp only [List.length_append] at hlim
      refine MW.sq (h3 a bs _ hl ho (by omega) ?_)
      intro a' w' ρ' g1 g2 g3 g4
      refine rows_append hds (h4 ρ' w' g2 g4) g1 g3 (by simp only [List.length_append]; omega) ?_
      intro a'' w'' ρ'' k1 k2 k3 k4
      exact hQ a'' w'' ρ'' k1 (g2.trans k2 h1 h2) (by simpa using k3) (g4.trans k4)
    · refine MW.sq (h3 a _ hl ?_)
      intro a1 hl1
      refine rows_append hds h4 hl1 (by rw [upd_ne _ _ (Ne.symm h1)]; exact ho) hlim ?_
      intro a' w' ρ' g1 g2 g3 g4
      exact hQ a' w' ρ' g1 (fun s hs h0 h5 => by rw [g2 s hs h0 (by omega), upd_ne _ _ (by omega)]) g3 g4

theorem topA_calls {f : Nat} {fn : Func} {c : Code} {p : Plan} {L N : Nat} (ok : AOK P I S) (hf : P.funcs[f]? = some fn) (hb : fn.body = some c) (hfit : fits (topA I p L) c = true)
    (hres : fn.results = #[.tmp 4]) (hN : fn.ntmps = N) (hok : okTop P I p L N = true)
    {w : World} {B : Nat} {a : Addr} {ver : Int} {ds : List D} {tags : List (Nat × List UInt8)} {cs : List Value} {sv : Value} {bs : List UInt8}
    (hB : B ≤ w.heap.size) (hm : MsgAt w (· < B) p a ver ds tags cs) (hs1 : SmF S p.fs ds) (hs2 : S tags) (ho : OwnB I.tU8 w B sv bs) (hlim : bs.length + (encTop p ver ds tags).length ≤ lim) :
    Calls P f #[.pointer (some a), sv] w (fun e w' => ∃ sv', e = .returned sv' ∧ OwnB I.tU8 w' B sv' (bs ++ encTop p ver ds tags) ∧ Below B w w') := by
  obtain ⟨ab, ao, asp⟩ := a
  have hsp := hm.spot
  dsimp only at hsp
  subst hsp
  simp only [okTop, Bool.and_eq_true, decide_eq_true_eq] at hok
  obtain ⟨⟨⟨⟨⟨⟨w1, w2⟩, w3⟩, w4⟩, w5⟩, w6⟩, w7⟩ := hok
  refine calls_of_wp hf hb (?_ : Code.wp P c _ _ w)
  refine (?_ : MW P (topA I p L) _ _ w) c hfit
  generalize ha0 : ({ tmps := #[.pointer (some ⟨ab, ao, none⟩), sv] ++ Array.replicate (fn.ntmps - #[(.pointer (some ⟨ab, ao, none⟩) : Value), sv].size) undef, defers := [] } : Act) = a0
  -- the bounds
  have hLb : (headA I p L).2 ≤ L + 8 := by unfold headA; cases p.fl <;> simp
  have hLh : L + 5 ≤ (headA I p L).2 := by unfold headA; cases p.fl <;> simp
  have hgl := @genF_le I 5 p.sf p.T 0 p.fs (headA I p L).2 p.x0 0
  have hgt := @tagsA_le I p.sf p.T 0 p.tg (genF I 5 p.sf p.T 0 p.fs (headA I p L).2 p.x0 0).2.1
  have hbt : (bodyA I p L).2.1 = (tagsA I p.sf p.T 0 p.tg (genF I 5 p.sf p.T 0 p.fs (headA I p L).2 p.x0 0).2.1).2 := rfl
  have hbx : (bodyA I p L).2.2 = (genF I 5 p.sf p.T 0 p.fs (headA I p L).2 p.x0 0).2.2.1 := rfl
  rw [hbt] at w6
  rw [hbx] at w5
  have hsz0 : a0.tmps.size = N := by rw [← ha0]; simp; omega
  have hd0 : a0.defers = [] := by rw [← ha0]
  have hr0 : rd a0 0 = .pointer (some ⟨ab, ao, none⟩) := by rw [← ha0]; simp [rd, Array.getElem?_append]
  have hr1 : rd a0 1 = sv := by rw [← ha0]; simp [rd, Array.getElem?_append]
  have hl0 : Loc N L (rd a0) a0 := ⟨hsz0, hd0, fun _ _ => rfl⟩
  have hload : (Instr.loadAt I.tI16 (.pointer (some ⟨ab, ao + 0, none⟩))).run P w = .ok (.int .i16 ver) w := run_loadAt_one w4 (by have := hm.at_ 0 _ hm.v0; simpa using this)
  -- the head's statements, then the rest
  have finish : ∀ (ρ : Nat → Value) (a1 : Act), Loc N L ρ a1 → ρ 0 = .pointer (some ⟨ab, ao, none⟩) → ρ 1 = sv → Ctx 5 p.sf ver (p.flex ver) p.x0 ρ →
      MW P (rows ((bodyA I p L).1 ++ [.rg [.mv (bodyA I p L).2.1 (.t 1), .mv 4 (.t (bodyA I p L).2.1)], .rt])) (bodyPost P fn (fun e w' => ∃ sv', e = .returned sv' ∧ OwnB I.tU8 w' B sv' (bs ++ encTop p ver ds tags) ∧ Below B w w')) a1 w := by
    intro ρ a1 hl1 h0 h1 hctx
    have hx0 : 6 ≤ p.x0 := by unfold Plan.x0; split <;> omega
    have hwl : WritesL P I.tU8 B N L (bodyA I p L).1 ρ w p.x0 (genF I 5 p.sf p.T 0 p.fs (headA I p L).2 p.x0 0).2.2.1 (encTop p ver ds tags) := by
      refine WritesL.append (y := (genF I 5 p.sf p.T 0 p.fs (headA I p L).2 p.x0 0).2.2.1) (genF_ok ok p.fs w1 hctx (by omega) (by omega) w5 (by omega) (by omega) h0 hm.blk hB hm.at_ hm.flds hs1) (Nat.le_refl _) ?_
      intro ρ' w' hk hbl
      exact tags_of ok (hctx.keep hk (by omega) hgl.2) w5 (by omega) (by omega) (by omega) (by omega) (by rw [hk _ (by omega) (by omega) (.inl (by omega))]; exact h0) hm.blk (Nat.le_trans hB hbl.size) w2
        (fun j u hu => by rw [cell_of_heap (hbl.block ab hm.blk)]; exact hm.at_ j u hu)
        (hm.tgs.mono (fun _ h => h) (fun b h => hbl.block b h)) hs2
    refine rows_append (by simp) hwl hl1 (by rw [h1]; exact ho) hlim ?_
    intro a' w' ρ' g1 g2 g3 g4
    have hsz' := g1.size
    rw [hbt]
    refine MW.sq (MW.rg (ML.mv (ML.mv (ML.nil ?_))))
    simp (disch := (first | omega | (simp only [size_wr]; omega))) only [rd_same, rd_ne, MX.of]
    refine MW.rt ?_
    refine bodyPost_ret (v := ρ' 1) ?_ (by simpa using g1.defers) ⟨_, rfl, g3, g4⟩
    rw [results_tmp hres]
    congr 1
    show rd _ 4 = _
    rw [rd_same (by simp only [size_wr]; omega), g1.get 1 (by omega)]
  have hx0 : 6 ≤ p.x0 := by unfold Plan.x0; split <;> omega
  -- slot 4
  have hl1 : Loc N L (upd (rd a0) 4 (.slice none 0 0)) (wr a0 4 (.slice none 0 0)) := Loc.set hl0 _ (by omega)
  unfold topA headA
  generalize hb1 : bodyA I p L = bb at finish ⊢
  cases hfl : p.fl with
  | none =>
    simp only []
    refine MW.sq (MW.rg (ML.mv (ML.nil ?_)))
    refine MW.sq (Sets.loadA (ρ := upd (rd a0) 4 (.slice none 0 0)) (b := ab) (o := ao) (off := 0) (v := .int .i16 ver) ?_ (by omega) (by omega) (Nat.le_refl _) (by omega) w3 hload _ _ hl1 ?_)
    · rw [upd_ne _ _ (by omega)]; exact hr0
    intro a2 hl2
    obtain ⟨c0, cs0, hne⟩ : ∃ c0 cs0, bb.1 ++ [.rg [.mv bb.2.1 (.t 1), .mv 4 (.t bb.2.1)], .rt] = c0 :: cs0 := by
      cases bb.1 with
      | nil => exact ⟨_, _, rfl⟩
      | cons c0 cs0 => exact ⟨_, _, rfl⟩
    show MW P (rows (_ :: (bb.1 ++ _))) _ a2 w
    rw [hne] at finish ⊢
    refine MW.sq (MW.rg (ML.mv (ML.nil ?_)))
    refine finish _ _ (hl2.tmp _ (by omega) (by omega)) ?_ ?_ ?_
    · rw [upd_ne _ _ (by omega), upd_ne _ _ (by omega)]; exact hr0
    · rw [upd_ne _ _ (by omega), upd_ne _ _ (by omega)]; exact hr1
    · refine ⟨by omega, by omega, by omega, upd_same _ _ _, ?_, ?_⟩
      · intro s hs; simp [Plan.sf, hfl] at hs
      · intro _; simp [Plan.flex, hfl]
  | some k =>
    simp only []
    refine MW.sq (MW.rg (ML.mv (ML.nil ?_)))
    refine MW.sq (Sets.loadA (ρ := upd (rd a0) 4 (.slice none 0 0)) (b := ab) (o := ao) (off := 0) (v := .int .i16 ver) ?_ (by omega) (by omega) (Nat.le_refl _) (by omega) w3 hload _ _ hl1 ?_)
    · rw [upd_ne _ _ (by omega)]; exact hr0
    intro a2 hl2
    have hh8 : (headA I p L).2 = L + 8 := by unfold headA; rw [hfl]
    have hsz2 := hl2.size
    have hv2 : rd a2 5 = .int .i16 ver := by rw [hl2.get 5 (by omega), upd_same]
    refine MW.sq (MW.rg (ML.mv (ML.nil ?_)))
    have hl3 := hl2.tmp ((MX.t 5).of a2) (show L ≤ L + 4 by omega) (by omega)
    refine MW.sq (MW.rg (ML.mv (ML.biInt (k := .i16) (m := ver) (n := k) (v := .bool (decide ((k : Int) ≤ ver))) ?_ rfl (run_cmp_geq _ _ _ _) (ML.mv (ML.nil ?_)))))
    · simp (disch := (first | omega | (simp only [size_wr]; omega))) only [rd_same, rd_ne, MX.of]
      exact hv2
    simp (disch := (first | omega | (simp only [size_wr]; omega))) only [rd_same, rd_ne, MX.of]
    obtain ⟨c0, cs0, hne⟩ : ∃ c0 cs0, bb.1 ++ [.rg [.mv bb.2.1 (.t 1), .mv 4 (.t bb.2.1)], .rt] = c0 :: cs0 := by
      cases bb.1 with
      | nil => exact ⟨_, _, rfl⟩
      | cons c0 cs0 => exact ⟨_, _, rfl⟩
    show MW P (rows (_ :: (bb.1 ++ _))) _ _ w
    rw [hne] at finish ⊢
    refine MW.sq (MW.rg (ML.mv (ML.nil ?_)))
    have hl4 : Loc N L (upd (upd (upd (rd a0) 4 (.slice none 0 0)) 5 (.int .i16 ver)) 6 (.bool (decide ((k : Int) ≤ ver)))) (wr (wr (wr (wr a2 (L + 4) (rd a2 5)) (L + 5) (rd a2 5)) (L + 6) (.bool (decide ((k : Int) ≤ ver)))) 6 (.bool (decide ((k : Int) ≤ ver)))) :=
      Loc.set (((hl2.tmp _ (by omega) (by omega)).tmp _ (by omega) (by omega)).tmp _ (by omega) (by omega)) _ (by omega)
    refine finish _ _ (hl4.tmp _ (by omega) (by omega)) ?_ ?_ ?_
    · rw [upd_ne _ _ (by omega), upd_ne _ _ (by omega), upd_ne _ _ (by omega)]; exact hr0
    · rw [upd_ne _ _ (by omega), upd_ne _ _ (by omega), upd_ne _ _ (by omega)]; exact hr1
    · refine ⟨by omega, by omega, by omega, ?_, ?_, ?_⟩
      · rw [upd_ne _ _ (by omega), upd_same]
      · intro s hs
        simp only [Plan.sf, hfl, Option.map_some, Option.some.injEq] at hs
        subst hs
        refine ⟨by omega, ?_, ?_⟩
        · simp [Plan.x0, hfl]
        · rw [upd_same]; simp [Plan.flex, hfl]
      · intro hn; simp [Plan.sf, hfl] at hn
end
end Go.Kx
namespace Go.Kx
open Go.RowKit
set_option linter.unusedSimpArgs false
set_option linter.unusedVariables false

/-- The frame at the call: the arguments, then nothing. -/
def args0 (l : List Value) : Nat → Value := fun s => l.getD s undef

def xof (ρ : Nat → Value) : MX → Value
  | .t s => ρ s
  | .c m => m.val

def evB : BinOp → Value → Value → Option Value
  | .shr, .int k a, .int _ b => if 0 ≤ b then some (.int k (a.fdiv (2 ^ (min b.toNat k.bits)))) else none
  | .shl, .int k a, .int _ b => if 0 ≤ b then some (.int k (k.wrap (a * 2 ^ (min b.toNat k.bits)))) else none
  | .add, .int k a, .int k' b => if k = k' then some (.int k (k.wrap (a + b))) else none
  | .sub, .int k a, .int k' b => if k = k' then some (.int k (k.wrap (a - b))) else none
  | .mul, .int k a, .int k' b => if k = k' then some (.int k (k.wrap (a * b))) else none
  | .rem, .int k a, .int k' b => if k = k' ∧ b ≠ 0 then some (.int k (a.tmod b)) else none
  | .and, .int k a, .int k' b => if k = k' then some (.int k (k.wrap (BitVec.ofInt k.bits a &&& BitVec.ofInt k.bits b).toNat)) else none
  | .or, .int k a, .int k' b => if k = k' then some (.int k (k.wrap (BitVec.ofInt k.bits a ||| BitVec.ofInt k.bits b).toNat)) else none
  | .xor, .int k a, .int k' b => if k = k' then some (.int k (k.wrap (BitVec.ofInt k.bits a ^^^ BitVec.ofInt k.bits b).toNat)) else none
  | .lss, .int k a, .int k' b => if k = k' then some (.bool (decide (a < b))) else none
  | .leq, .int k a, .int k' b => if k = k' then some (.bool (decide (a ≤ b))) else none
  | .gtr, .int k a, .int k' b => if k = k' then some (.bool (decide (b < a))) else none
  | .geq, .int k a, .int k' b => if k = k' then some (.bool (decide (b ≤ a))) else none
  | .eql, .int k a, .int k' b => if k = k' then some (.bool (a == b)) else none
  | .neq, .int k a, .int k' b => if k = k' then some (.bool (!(a == b))) else none
  | _, _, _ => none

theorem evB_run {P : Program} {w : World} {op : BinOp} {x y v : Value} (ty : Nat) (h : evB op x y = some v) :
    (binOp op ty x y).run P w = .ok v w ∧ ∀ ox oy, (eqGuard op ty ox oy x y).run P w = .ok () w := by
  cases x <;> cases y <;> cases op <;> simp only [evB, reduceCtorEq] at h
  all_goals (rename_i k a k' b; refine ⟨?_, fun ox oy => eqGuard_num _ _ _ _ _ _ _ _⟩)
  all_goals (split at h <;> simp only [Option.some.injEq, reduceCtorEq] at h; subst h)
  case int.int.shl h1 => have : ¬ b < 0 := by omega
                         simp [binOp, Op.shift, this]
  case int.int.shr h1 => have : ¬ b < 0 := by omega
                         simp [binOp, Op.shift, this]
  case int.int.rem h1 => obtain ⟨rfl, h2⟩ := h1; simp [binOp, Op.intDiv, h2]
  all_goals (rename_i h1; subst h1; simp [binOp, Op.intArith, Op.intBits, Op.intCmp, bne])

/-- One operation on numbers: the slot that it writes and what it writes; a conversion takes the kind that it converts to from the list. -/
def ev1 : List IntKind → MOp → (Nat → Value) → Option (Nat × Value × List IntKind)
  | ks, .mv d x, ρ => some (d, xof ρ x, ks)
  | ks, .b2 d op x y, ρ => (evB op (xof ρ x) (xof ρ y)).map fun v => (d, v, ks)
  | ks, .bi d op _ x y, ρ => (evB op (xof ρ x) (xof ρ y)).map fun v => (d, v, ks)
  | ks, .nt d s, ρ => match ρ s with | .bool b => some (d, .bool !b, ks) | _ => none
  | k :: ks, .cv d _ _ s, ρ => match ρ s with | .int _ n => some (d, .int k (k.wrap n), ks) | _ => none
  | ks, .mn d x y, ρ => match xof ρ x, xof ρ y with | .int k a, .int _ b => some (d, .int k (if b < a then b else a), ks) | _, _ => none
  | ks, .mxi d x y, ρ => match xof ρ x, xof ρ y with | .int k a, .int _ b => some (d, .int k (if b > a then b else a), ks) | _, _ => none
  | _, _, _ => none

/-- The conversions are from and to integer types of these kinds. -/
def CvOk (P : Program) : List IntKind → List MOp → Prop
  | _, [] => True
  | k :: ks, .cv _ s t _ :: ms => (∃ k0, intTy P s k0 = true) ∧ intTy P t k = true ∧ CvOk P ks ms
  | ks, _ :: ms => CvOk P ks ms

def evs : List IntKind → List MOp → (Nat → Value) → Nat → Option (Nat → Value)
  | _, [], ρ, _ => some ρ
  | ks, m :: ms, ρ, N => match ev1 ks m ρ with
    | some (d, v, ks') => if d < N then evs ks' ms (upd ρ d v) N else none
    | none => none

def MX.slots : MX → List Nat
  | .t s => [s]
  | .c _ => []

/-- The slots that an operation on numbers reads. -/
def reads : MOp → List Nat
  | .mv _ x => x.slots
  | .b2 _ _ x y | .bi _ _ _ x y | .mn _ x y | .mxi _ x y => x.slots ++ y.slots
  | .nt _ s | .cv _ _ _ s => [s]
  | _ => []

section
variable {P : Program} {Q : Exit → Act → World → Prop} {a : Act} {w : World} {ms : List MOp}

theorem ML.b2 {d : Nat} {op : BinOp} {x y : MX} {v : Value} (h1 : evB op (x.of a) (y.of a) = some v) (h : ML P ms Q (wr a d v) w) : ML P (.b2 d op x y :: ms) Q a w := by
  refine ML.step (d := some d) (v := v) (w' := w) (fun o' ho => ?_) h
  have hf := fitOper_op ho
  generalize hop : o'.op = op' at hf
  unfold execOp
  cases op' <;> simp only [fitOp, Bool.and_eq_true, Bool.false_eq_true, Nat.beq_eq] at hf
  obtain ⟨⟨⟨k1, k2⟩, k3⟩, k4⟩ := hf
  have k2' := sameOp_eq k2
  subst k2'
  rename_i ty _ _ _
  obtain ⟨r1, r2⟩ := evB_run (P := P) (w := w) ty h1
  exact ⟨dstIs_eq k1, .inl (by simp only [hop, MX.is_eval k3 a, MX.is_eval k4 a, Sem.run_bind, r2, r1, Result.andThen_ok, Sem.run_pure])⟩

theorem ML.mn {d : Nat} {x y : MX} {k k' : IntKind} {m n : Int} (hx : x.of a = .int k m) (hy : y.of a = .int k' n) (h : ML P ms Q (wr a d (.int k (if n < m then n else m))) w) : ML P (.mn d x y :: ms) Q a w := by
  refine ML.step (d := some d) (v := .int k (if n < m then n else m)) (w' := w) (fun o ho => ?_) h
  have hf := fitOper_op ho
  obtain ⟨dst, op, type, pos, after, guard⟩ := o
  dsimp only at hf ⊢
  cases op <;> try (simp only [fitOp, Bool.false_eq_true] at hf; done)
  rename_i c
  obtain ⟨callee, args, ats⟩ := c
  cases callee <;> try (simp only [fitOp, Bool.false_eq_true] at hf; done)
  rename_i b
  cases b <;> try (simp only [fitOp, Bool.false_eq_true] at hf; done)
  simp only [fitOp, Bool.and_eq_true] at hf
  obtain ⟨h1, h2⟩ := hf
  obtain ⟨args⟩ := args
  dsimp only at h2
  match args, h2 with
  | [x', y'], h2 =>
    simp only [Bool.and_eq_true] at h2
    refine ⟨dstIs_eq h1, .inl ?_⟩
    unfold execOp
    have e1 := MX.is_eval h2.1 a
    have e2 := MX.is_eval h2.2 a
    simp [resolve, invoke, Go.builtin, e1, e2, hx, hy, run_min_int2, run_max_int2]

theorem ML.mxi {d : Nat} {x y : MX} {k k' : IntKind} {m n : Int} (hx : x.of a = .int k m) (hy : y.of a = .int k' n) (h : ML P ms Q (wr a d (.int k (if n > m then n else m))) w) : ML P (.mxi d x y :: ms) Q a w := by
  refine ML.step (d := some d) (v := .int k (if n > m then n else m)) (w' := w) (fun o ho => ?_) h
  have hf := fitOper_op ho
  obtain ⟨dst, op, type, pos, after, guard⟩ := o
  dsimp only at hf ⊢
  cases op <;> try (simp only [fitOp, Bool.false_eq_true] at hf; done)
  rename_i c
  obtain ⟨callee, args, ats⟩ := c
  cases callee <;> try (simp only [fitOp, Bool.false_eq_true] at hf; done)
  rename_i b
  cases b <;> try (simp only [fitOp, Bool.false_eq_true] at hf; done)
  simp only [fitOp, Bool.and_eq_true] at hf
  obtain ⟨h1, h2⟩ := hf
  obtain ⟨args⟩ := args
  dsimp only at h2
  match args, h2 with
  | [x', y'], h2 =>
    simp only [Bool.and_eq_true] at h2
    refine ⟨dstIs_eq h1, .inl ?_⟩
    unfold execOp
    have e1 := MX.is_eval h2.1 a
    have e2 := MX.is_eval h2.2 a
    simp [resolve, invoke, Go.builtin, e1, e2, hx, hy, run_min_int2, run_max_int2]

theorem Loc.xof {N : Nat} {ρ : Nat → Value} (hl : Loc N N ρ a) {x : MX} (hx : ∀ s, x = .t s → s < N) : x.of a = xof ρ x := by
  cases x with
  | t s => exact hl.get s (hx s rfl)
  | c m => rfl

theorem Loc.put {N : Nat} {ρ : Nat → Value} (hl : Loc N N ρ a) {d : Nat} {v : Value} (hd : d < N) : Loc N N (upd ρ d v) (wr a d v) := hl.set v hd

/-- The evaluator tells what the operations do. -/
theorem ML.evs {N : Nat} {rest : List MOp} : ∀ {ks : List IntKind} {ms : List MOp} {ρ ρ' : Nat → Value} {a : Act}, Loc N N ρ a → Kx.evs ks ms ρ N = some ρ' → CvOk P ks ms →
    (∀ m ∈ ms, ∀ s ∈ reads m, s < N) → (∀ a', Loc N N ρ' a' → ML P rest Q a' w) → ML P (ms ++ rest) Q a w
  | ks, [], ρ, ρ', a, hl, he, hc, hr, h => by
    simp only [Kx.evs, Option.some.injEq] at he
    subst he
    exact h a hl
  | ks, m :: ms, ρ, ρ', a, hl, he, hc, hr, h => by
    have hsz := hl.size
    have hr' : ∀ m ∈ ms, ∀ s ∈ reads m, s < N := fun m hm => hr m (List.mem_cons_of_mem _ hm)
    have hrm := hr m List.mem_cons_self
    simp only [Kx.evs] at he
    cases h1 : ev1 ks m ρ with
    | none => simp [h1] at he
    | some p =>
      obtain ⟨d, v, ks'⟩ := p
      simp only [h1] at he
      split at he
      · rename_i hd
        have next : ∀ hc', ML P (ms ++ rest) Q (wr a d v) w := fun hc' => ML.evs (ks := ks') (hl.put hd) he hc' hr' h
        rw [List.cons_append]
        cases m <;> simp only [ev1, reduceCtorEq] at h1
        case mv d' x =>
          simp only [Option.some.injEq, Prod.mk.injEq] at h1
          obtain ⟨rfl, rfl, rfl⟩ := h1
          refine ML.mv ?_
          rw [hl.xof (x := x) (fun s hs => hrm s (by subst hs; simp [reads, MX.slots]))]
          exact next (by cases ks <;> exact hc)
        case b2 d' op x y =>
          simp only [Option.map_eq_some_iff, Prod.mk.injEq] at h1
          obtain ⟨v', h2, rfl, rfl, rfl⟩ := h1
          refine ML.b2 (v := v') ?_ (next (by cases ks <;> exact hc))
          rw [hl.xof (x := x) (fun s hs => hrm s (by subst hs; simp [reads, MX.slots])), hl.xof (x := y) (fun s hs => hrm s (by subst hs; simp [reads, MX.slots]))]
          exact h2
        case bi d' op ty x y =>
          simp only [Option.map_eq_some_iff, Prod.mk.injEq] at h1
          obtain ⟨v', h2, rfl, rfl, rfl⟩ := h1
          obtain ⟨r1, r2⟩ := evB_run (P := P) (w := w) ty h2
          have ex : x.of a = xof ρ x := hl.xof (fun s hs => hrm s (by subst hs; simp [reads, MX.slots]))
          have ey : y.of a = xof ρ y := hl.xof (fun s hs => hrm s (by subst hs; simp [reads, MX.slots]))
          exact ML.bi (v := v') (fun ox oy _ _ => by rw [ex, ey]; exact r2 ox oy) (by rw [ex, ey]; exact r1) (next (by cases ks <;> exact hc))
        case nt d' s =>
          cases hs : ρ s <;> simp only [hs, reduceCtorEq, Option.some.injEq, Prod.mk.injEq] at h1
          obtain ⟨rfl, rfl, rfl⟩ := h1
          exact ML.nt (by rw [hl.get s (hrm s (by simp [reads])), hs]) (next (by cases ks <;> exact hc))
        case cv d' s t y =>
          cases ks with
          | nil => simp [ev1] at h1
          | cons k ks =>
            simp only [ev1] at h1
            cases hs : ρ y <;> simp only [hs, reduceCtorEq, Option.some.injEq, Prod.mk.injEq] at h1
            obtain ⟨rfl, rfl, rfl⟩ := h1
            obtain ⟨⟨k0, c1⟩, c2, c3⟩ := hc
            refine ML.cv ?_ (next c3)
            rw [hl.get y (hrm y (by simp [reads])), hs]
            exact run_convert_int c1 c2 _
        case mn d' x y =>
          cases hx : xof ρ x <;> cases hy : xof ρ y <;> simp only [hx, hy, reduceCtorEq, Option.some.injEq, Prod.mk.injEq] at h1
          obtain ⟨rfl, rfl, rfl⟩ := h1
          exact ML.mn ((hl.xof (x := x) (fun s hs => hrm s (by subst hs; simp [reads, MX.slots]))).trans hx) ((hl.xof (x := y) (fun s hs => hrm s (by subst hs; simp [reads, MX.slots]))).trans hy) (next (by cases ks <;> exact hc))
        case mxi d' x y =>
          cases hx : xof ρ x <;> cases hy : xof ρ y <;> simp only [hx, hy, reduceCtorEq, Option.some.injEq, Prod.mk.injEq] at h1
          obtain ⟨rfl, rfl, rfl⟩ := h1
          exact ML.mxi ((hl.xof (x := x) (fun s hs => hrm s (by subst hs; simp [reads, MX.slots]))).trans hx) ((hl.xof (x := y) (fun s hs => hrm s (by subst hs; simp [reads, MX.slots]))).trans hy) (next (by cases ks <;> exact hc))
      · simp at he
end
end Go.Kx
namespace Go.Kx
open Go.RowKit
set_option linter.unusedSimpArgs false
set_option linter.unusedVariables false

/-- The type of octets. -/
def u8Ty (P : Program) (U : Nat) : Bool :=
  match P.info? U with
  | some i => Nat.beq i.size 1 && Nat.beq i.bytes 1 && (match i.zero with | some v => (MVal.int .u8 0).is v | none => false)
  | none => false

theorem u8Ty_info {P : Program} {U : Nat} (h : u8Ty P U = true) : ∃ i, P.info? U = some i ∧ i.size = 1 ∧ i.bytes = 1 ∧ i.zero = some (.int .u8 0) := by
  unfold u8Ty at h
  cases hi : P.info? U with
  | none => simp [hi] at h
  | some i =>
    simp only [hi, Bool.and_eq_true, Nat.beq_eq] at h
    obtain ⟨⟨h1, h2⟩, h3⟩ := h
    cases hz : i.zero with
    | none => simp [hz] at h3
    | some v =>
      simp only [hz] at h3
      exact ⟨i, rfl, h1, h2, by rw [hz, MVal.is_eq h3]; rfl⟩

def strTy (P : Program) (T : Nat) : Bool :=
  match P.underlying T with
  | some .string => true
  | _ => false

theorem strTy_eq {P : Program} {T : Nat} (h : strTy P T = true) : P.underlying T = some .string := by
  unfold strTy at h
  cases hu : P.underlying T with
  | none => simp [hu] at h
  | some d => cases d <;> simp_all

theorem fill_ones : ∀ (vs : List Value) (pre : List Value) (post : List Value), (∀ v ∈ vs, v.cells = #[v]) → vs.length = post.length →
    Instr.fill (fun i => some (i * 1, 1)) (pre ++ post).toArray ((List.range' pre.length vs.length).zip vs) = some (pre ++ vs).toArray
  | [], pre, post, _, h => by
    have : post = [] := by cases post <;> simp_all
    simp [Instr.fill, this]
  | v :: vs, pre, post, hv, h => by
    cases post with
    | nil => simp at h
    | cons p post =>
      have hc := hv v List.mem_cons_self
      have ih := fill_ones vs (pre ++ [v]) post (fun u hu => hv u (List.mem_cons_of_mem _ hu)) (by simpa using h)
      simp only [List.length_cons, List.range'_succ, List.zip_cons_cons, Instr.fill, hc]
      simp only [List.length_append, List.length_cons, List.length_nil, Nat.zero_add] at ih
      rw [if_neg (by simp)]
      have : ((#[v] : Array Value).zipIdx.foldl (fun cs (x : Value × Nat) => cs.setIfInBounds (pre.length * 1 + x.2) x.1) (pre ++ p :: post).toArray) = (pre ++ [v] ++ post).toArray := by
        simp
      rw [show (fun (cs : Array Value) (x : Value × Nat) => match x with | (c, j) => cs.setIfInBounds (pre.length * 1 + j) c) = (fun cs (x : Value × Nat) => cs.setIfInBounds (pre.length * 1 + x.2) x.1) from rfl, this]
      rw [ih]; simp

theorem fitParts_eval {a : Act} : ∀ {i : Nat} {xs : List MX} {ps : List (Nat × Operand)}, fitParts i xs ps = true → ps.map (fun (p : Nat × Operand) => (p.1, a.eval p.2)) = (List.range' i xs.length).zip (xs.map (MX.of a))
  | i, [], [], _ => rfl
  | i, [], _ :: _, h => by simp [fitParts] at h
  | i, _ :: _, [], h => by simp [fitParts] at h
  | i, x :: xs, (j, o) :: ps, h => by
    simp only [fitParts, Bool.and_eq_true, Nat.beq_eq] at h
    obtain ⟨⟨rfl, h2⟩, h3⟩ := h
    simp only [List.map_cons, List.length_cons, List.range'_succ, List.zip_cons_cons, MX.is_eval h2 a, fitParts_eval h3]

section
variable {P : Program} {Q : Exit → Act → World → Prop} {a : Act} {w : World} {ms : List MOp}

theorem ML.bsl {d T U : Nat} {xs : List MX} {bs : List UInt8} (hT : sliceOf P T U = true) (hU : u8Ty P U = true) (hx : xs.map (MX.of a) = bs.map byteV) (hn : xs.length ≤ 16)
    (h : ML P ms Q (wr a d (.slice (some ⟨w.heap.size, 0, none⟩) bs.length bs.length)) (w.alloc (.cells (bs.map byteV).toArray U))) : ML P (.bsl d T xs :: ms) Q a w := by
  have hlen : xs.length = bs.length := by have := congrArg List.length hx; simpa using this
  refine ML.step (d := some d) (v := .slice (some ⟨w.heap.size, 0, none⟩) bs.length bs.length) (w' := w.alloc (.cells (bs.map byteV).toArray U)) (fun o ho => ?_) h
  have hf := fitOper_op ho
  generalize hop : o.op = op at hf
  unfold execOp
  cases op <;> simp only [fitOp, Bool.and_eq_true, Bool.false_eq_true, Nat.beq_eq] at hf
  rename_i T' n ps
  obtain ⟨⟨⟨h1, h2⟩, h3⟩, h4⟩ := hf
  subst h2 h3
  obtain ⟨i, hi, hs, hb, hz⟩ := u8Ty_info hU
  refine ⟨dstIs_eq h1, .inl ?_⟩
  have hps : (ps.map fun (p : Nat × Operand) => (p.1, a.eval p.2)).toList = (List.range' 0 xs.length).zip (xs.map (MX.of a)) := by
    rw [Array.toList_map]; exact fitParts_eval h4
  have hfill := fill_ones (bs.map byteV) [] (List.replicate bs.length (.int .u8 0)) (by intro v hv; simp only [List.mem_map] at hv; obtain ⟨b, _, rfl⟩ := hv; rfl) (by simp)
  simp only [List.nil_append, List.length_nil, List.length_map, Nat.mul_one] at hfill
  simp only [hop, Sem.run_bind, Instr.buildSlice, run_underlying (sliceOf_eq hT), Result.andThen_ok, sizeOf, typeInfo, run_program, hi, Sem.run_pure, hs]
  rw [if_neg (by omega)]
  have hps' : (ps.map fun (x : Nat × Operand) => match x with | (i, x) => (i, a.eval x)).toList = (List.range' 0 bs.length).zip (bs.map byteV) := by
    rw [← hlen, ← hx]; exact hps
  have hzero : ∀ n : Nat, (Array.map (fun x => (Value.int IntKind.u8 0).cells[x % (Value.int IntKind.u8 0).cells.size]!) (Array.range n)) = (List.replicate n (Value.int IntKind.u8 0)).toArray := by
    intro n
    apply Array.toList_inj.1
    simp [Value.cells, Nat.mod_one]
    exact List.eq_replicate_iff.2 ⟨by simp, by simp⟩
  simp only [Nat.mul_one, hlen]
  by_cases h0 : bs.length = 0
  · have hb0 : bs = [] := List.eq_nil_of_length_eq_zero h0
    subst hb0
    simp only [List.length_nil, if_true, Sem.run_pure, Result.andThen_ok, Sem.run_bind]
    have hps0 : (ps.map fun (x : Nat × Operand) => match x with | (i, x) => (i, a.eval x)).toList = [] := by simpa using hps'
    simp only [hps0, Instr.fill]
    simp only [newRow, Sem.run_bind, run_newObj, Result.andThen_ok, Sem.run_pure]
    rw [show (Array.map (fun x => (#[] : Array Value)[x % (#[] : Array Value).size]!) (Array.range 0)) = #[] from by simp]
    rfl
  · rw [if_neg h0]
    simp only [zeroValue, typeInfo, Sem.run_bind, run_program, Result.andThen_ok, hi, Sem.run_pure, hz, hps', hzero, hfill, newRow, run_newObj]
    rfl

/-- Octets are appended to a slice of the call's own. -/
theorem ML.apOwn {d T U x y m c B : Nat} {ad : Option Addr} {bs l : List UInt8} {sv : Value} (hT : sliceOf P T U = true) (hU : u8Ty P U = true) (hx : rd a x = sv) (ho : OwnB U w B sv bs)
    (hy : rd a y = .slice ad m c) (hm : m = l.length) (hb : BytesAt w (fun _ => True) ad l) (hB : B ≤ w.heap.size) (hlim : bs.length + l.length ≤ lim)
    (h : ∀ sv' w', OwnB U w' B sv' (bs ++ l) → Below B w w' → w.grownBy w' sv.ownBlock → ML P ms Q (wr a d sv') w') : ML P (.ap d T T x y :: ms) Q a w := by
  obtain ⟨i, hi, hs, hby, hz⟩ := u8Ty_info hU
  have hl1 : lim = 1099511627776 := rfl
  have hbase : ∀ k, sv.ownBlock = some k → B ≤ k := fun k hk => (World.ownsRow.lt ho k hk).1
  cases ad with
  | some ad =>
    obtain ⟨v', w', h1, h2, h3, _⟩ := run_append_own (P := P) w B T 0 U i (.int .u8 0) 1 1 (sliceOf_eq hT) hi hz hs hby rfl (by omega) sv bs.length (bs.map byteV) ho ad m c (l.map byteV) (by simp [hm])
      (fun j u hu => by
        simp only [List.getElem?_map, Option.map_eq_some_iff] at hu
        obtain ⟨b, hb1, rfl⟩ := hu
        obtain ⟨g, o, he, _, hc⟩ := hb j b hb1
        cases he
        rw [Addr.add_mid]; exact hc)
      (by intro u hu; simp only [List.mem_map] at hu; obtain ⟨b, _, rfl⟩ := hu; rfl) (by simp only [maxLen]; omega) (by omega) hB
    refine ML.ap (v := v') (w' := w') (fun ty => by rw [hx, hy]; exact h1) (h v' w' ?_ ((Below.refl _ _).grown h3 hB hbase) h3)
    unfold OwnB
    rw [List.length_append, List.map_append, ← hm]
    exact h2
  | none =>
    have hl : l = [] := by
      cases l with
      | nil => rfl
      | cons b l =>
        obtain ⟨g, o, he, _⟩ := hb 0 b rfl
        simp at he
    subst hl
    simp only [List.length_nil] at hm
    subst hm
    have hrun : ∀ ty, (Builtin.append_ #[T, T] ty #[sv, .slice none 0 c]).run P w = .ok sv w := by
      intro ty
      rcases ho.2 with ⟨rfl, h0⟩ | ⟨g, cap, cur, rfl, _, _, hnc, _⟩
      · simp [Builtin.append_, run_underlying (sliceOf_eq hT), sizeOf, typeInfo, hi, Builtin.lenOf, Builtin.firstCells]
      · simp [Builtin.append_, run_underlying (sliceOf_eq hT), sizeOf, typeInfo, hi, Builtin.lenOf, Builtin.firstCells, hnc, storeCells]
    refine ML.ap (v := sv) (w' := w) (fun ty => by rw [hx, hy]; exact hrun ty) (h sv w ?_ (Below.refl _ _) ⟨rfl, rfl, rfl, Nat.le_refl _, fun _ _ _ => rfl⟩)
    rw [List.append_nil]; exact ho

/-- A text is appended. -/
theorem ML.apStr {d T U V x y B : Nat} {bs : List UInt8} {sv : Value} {s : ByteArray} (hT : sliceOf P T U = true) (hU : u8Ty P U = true) (hV : strTy P V = true) (hx : rd a x = sv) (ho : OwnB U w B sv bs)
    (hy : rd a y = .string s) (hB : B ≤ w.heap.size) (hlim : bs.length + s.data.toList.length ≤ lim)
    (h : ∀ sv' w', OwnB U w' B sv' (bs ++ s.data.toList) → Below B w w' → ML P ms Q (wr a d sv') w') : ML P (.ap d T V x y :: ms) Q a w := by
  obtain ⟨i, hi, hs, hby, hz⟩ := u8Ty_info hU
  have hl1 : lim = 1099511627776 := rfl
  have hsz : s.data.toList.length = s.size := Array.length_toList
  have hbase : ∀ k, sv.ownBlock = some k → B ≤ k := fun k hk => (World.ownsRow.lt ho k hk).1
  obtain ⟨v', w', h1, h2, h3, _⟩ := Lib.run_append_own_string (P := P) w B T V 0 U i (sliceOf_eq hT) (strTy_eq hV) hi hz hs hby sv bs.length (bs.map byteV) ho s (by simp only [maxLen]; omega) (by omega) hB
  refine ML.ap (v := v') (w' := w') (fun ty => by rw [hx, hy]; exact h1) (h v' w' ?_ ((Below.refl _ _).grown h3 hB hbase))
  unfold OwnB
  rw [List.length_append, List.map_append, hsz]
  have : s.data.toList.map byteV = Lib.strCells s := rfl
  rw [this]
  exact h2

theorem OwnB.nil (U : Nat) (w : World) (B : Nat) : OwnB U w B (.slice none 0 0) [] := World.ownsRow_nil w B U 1

theorem OwnB.alloc {U B : Nat} {sv : Value} {bs : List UInt8} (h : OwnB U w B sv bs) (o : Obj) : OwnB U (w.alloc o) B sv bs := World.ownsRow.alloc h o

/-- New octets: as a slice's octets. -/
theorem BytesAt.new {U : Nat} (l : List UInt8) : BytesAt (w.alloc (.cells (l.map byteV).toArray U)) (fun _ => True) (some ⟨w.heap.size, 0, none⟩) l := by
  intro j b hj
  refine ⟨w.heap.size, 0, rfl, trivial, ?_⟩
  rw [Nat.zero_add, World.cell?_alloc_new]
  simp [hj]

end

/-- The entry of a function whose frame is known whole. -/
theorem calls_leaf {P : Program} {f : Nat} {fn : Func} {c : Code} {m : MCode} {args : List Value} {N : Nat} {w : World} {R : Ending → World → Prop} (hf : P.funcs[f]? = some fn) (hb : fn.body = some c) (hfit : fits m c = true) (hN : fn.ntmps = N)
    (hle : args.length ≤ N) (h : ∀ a, Loc N N (args0 args) a → MW P m (bodyPost P fn R) a w) : Calls P f args.toArray w R := by
  refine calls_of_wp hf hb (h _ ?_ c hfit)
  refine ⟨by simp; omega, rfl, fun s hs => ?_⟩
  simp only [rd, args0]
  rw [Array.getD_eq_getD_getElem?, Array.getElem?_append]
  by_cases h1 : s < args.length
  · simp [h1]
  · have : args.toArray.size ≤ s := by simpa using Nat.le_of_not_lt h1
    rw [if_neg (by simpa using h1)]
    simp only [List.getD_eq_getElem?_getD]
    rw [List.getElem?_eq_none (Nat.le_of_not_lt h1), Array.getElem?_replicate]
    split <;> rfl

/-- 'return': one result, in a slot. -/
theorem MW.ret1 {P : Program} {fn : Func} {R : Ending → World → Prop} {a : Act} {w : World} {r N L : Nat} {ρ : Nat → Value} {v : Value} (hl : Loc N L ρ a) (hr : fn.results = #[.tmp r]) (hv : rd a r = v) (h : R (.returned v) w) : MW P .rt (bodyPost P fn R) a w := by
  refine MW.rt (bodyPost_ret (v := v) ?_ hl.defers h)
  rw [results_tmp hr, ← hv]; rfl
end Go.Kx
namespace Go.Kx
open Go.RowKit
set_option linter.unusedSimpArgs false
set_option linter.unusedVariables false

/-- The numbers of the types. -/
structure IT where
  u8 : Nat
  u8s : Nat
  i8 : Nat
  i16 : Nat
  u16 : Nat
  i32 : Nat
  u32 : Nat
  i64 : Nat
  u64 : Nat
  int : Nat
  str : Nat
  bool : Nat

/-- The tables say so. A number 0: the program lacks the type. -/
structure TOK (P : Program) (T : IT) : Prop where
  u8 : u8Ty P T.u8 = true
  u8i : intTy P T.u8 .u8 = true
  u8s : sliceOf P T.u8s T.u8 = true
  i8 : T.i8 ≠ 0 → intTy P T.i8 .i8 = true
  i16 : T.i16 ≠ 0 → intTy P T.i16 .i16 = true
  u16 : T.u16 ≠ 0 → intTy P T.u16 .u16 = true
  i32 : T.i32 ≠ 0 → intTy P T.i32 .i32 = true
  u32 : T.u32 ≠ 0 → intTy P T.u32 .u32 = true
  i64 : T.i64 ≠ 0 → intTy P T.i64 .i64 = true
  u64 : T.u64 ≠ 0 → intTy P T.u64 .u64 = true
  int : intTy P T.int .i64 = true
  str : T.str ≠ 0 → strTy P T.str = true

/-- A function of the program: its number, its code, its frame's size, its result's slot. -/
structure FnIs (P : Program) (f : Nat) (m : MCode) (N r : Nat) : Prop where
  ex : ∃ fn c, P.funcs[f]? = some fn ∧ fn.body = some c ∧ fits m c = true ∧ fn.ntmps = N ∧ fn.results = #[.tmp r]
  ent : entersB P f = true

theorem FnIs.calls {P : Program} {f N r : Nat} {m : MCode} (h : FnIs P f m N r) {args : List Value} {w : World} {R : Ending → World → Prop} (hle : args.length ≤ N)
    (hw : ∀ (a : Act) (fn : Func), fn.results = #[.tmp r] → Loc N N (args0 args) a → MW P m (bodyPost P fn R) a w) : Calls P f args.toArray w R := by
  obtain ⟨fn, c, h1, h2, h3, h4, h5⟩ := h.ex
  exact calls_leaf h1 h2 h3 h4 hle fun a hl => hw a fn h5 hl

section
variable {P : Program} {T : IT} {w : World}

/-- Numbers are reckoned, made to octets, and appended to the slice in slot y; the result in slot r. -/
theorem ML.octets {N B y d1 d2 r : Nat} {ks : List IntKind} {pre : List MOp} {xs : List MX} {ρ ρ' : Nat → Value} {a : Act} {bs l : List UInt8} {Q : Exit → Act → World → Prop} (tk : TOK P T)
    (hl : Loc N N ρ a) (he : Kx.evs ks pre ρ N = some ρ') (hc : CvOk P ks pre) (hr : ∀ m ∈ pre, ∀ s ∈ reads m, s < N) (hxs : xs.map (xof ρ') = l.map byteV) (hxN : ∀ x ∈ xs, ∀ s, x = .t s → s < N) (hx16 : xs.length ≤ 16)
    (hy : y < N) (hd1 : d1 < N) (hd2 : d2 < N) (hrN : r < N) (hyd : y ≠ d1) (ho : OwnB T.u8 w B (ρ' y) bs) (hB : B ≤ w.heap.size) (hlim : bs.length + l.length ≤ lim)
    (h : ∀ a' w' sv' ρ'', Loc N N ρ'' a' → ρ'' r = sv' → OwnB T.u8 w' B sv' (bs ++ l) → Below B w w' → Gr w w' (ρ' y) → Q .normal a' w') :
    ML P (pre ++ [.bsl d1 T.u8s xs, .ap d2 T.u8s T.u8s y d1, .mv r (.t d2)]) Q a w := by
  refine ML.evs hl he hc hr fun a1 hl1 => ?_
  have hsz := hl1.size
  have hxs' : xs.map (MX.of a1) = l.map byteV := by
    rw [← hxs]
    exact List.map_congr_left fun x hx => hl1.xof (hxN x hx)
  refine ML.bsl tk.u8s tk.u8 hxs' hx16 ?_
  have hl2 := hl1.put (v := .slice (some ⟨w.heap.size, 0, none⟩) l.length l.length) hd1
  refine ML.apOwn tk.u8s tk.u8 (bs := bs) (l := l) (B := B) (sv := ρ' y) (by rw [hl2.get y hy, upd_ne _ _ hyd]) (ho.alloc _) (hl2.get d1 hd1 |>.trans (upd_same _ _ _)) rfl (BytesAt.new l) (by simp; omega) hlim ?_
  intro sv' w' h1 h2 h3g
  have hl3 := hl2.put (v := sv') hd2
  refine ML.mv (ML.nil ?_)
  have : (MX.t d2).of (wr (wr a1 d1 (.slice (some ⟨w.heap.size, 0, none⟩) l.length l.length)) d2 sv') = sv' := rd_same (by simp only [size_wr]; omega)
  rw [this]
  refine h _ w' sv' _ (hl3.put hrN) (upd_same _ _ _) h1 (((Below.refl B w).alloc hB _).trans h2) fun k hk hne => ?_
  have hb := below_box w (.cells (l.map byteV).toArray T.u8)
  rw [h3g.block k (Nat.lt_of_lt_of_le hk hb.size) hne, hb.block k hk]

/-- 'return append(dst, ..)': the whole of such a function. -/
def octetsCode (T : IT) (pre : List MOp) (xs : List MX) (d1 d2 : Nat) : MCode :=
  rows [.rg [.mv 4 (.c .nslice)], .rg (pre ++ [.bsl d1 T.u8s xs, .ap d2 T.u8s T.u8s 5 d1, .mv 4 (.t d2)]), .rt]

theorem octets_calls {f N d1 d2 B : Nat} {ks : List IntKind} {pre : List MOp} {xs : List MX} {x sv : Value} {ρ' : Nat → Value} {bs l : List UInt8} (tk : TOK P T) (hf : FnIs P f (octetsCode T pre xs d1 d2) N 4)
    (he : Kx.evs ks pre (upd (args0 [sv, x]) 4 (.slice none 0 0)) N = some ρ') (hc : CvOk P ks pre) (hr : ∀ m ∈ pre, ∀ s ∈ reads m, s < N) (hxs : xs.map (xof ρ') = l.map byteV) (hxN : ∀ x ∈ xs, ∀ s, x = .t s → s < N) (hx16 : xs.length ≤ 16)
    (h5 : ρ' 5 = sv) (hN : 5 < N) (hd1 : d1 < N) (hd2 : d2 < N) (h5d : 5 ≠ d1) (ho : OwnB T.u8 w B sv bs) (hB : B ≤ w.heap.size) (hlim : bs.length + l.length ≤ lim) :
    Calls P f #[sv, x] w (fun e w' => ∃ sv', e = .returned sv' ∧ OwnB T.u8 w' B sv' (bs ++ l) ∧ Below B w w') := by
  refine hf.calls (args := [sv, x]) (by simp; omega) fun a fn hres hl => ?_
  refine MW.sq (MW.rg (ML.mv (ML.nil ?_)))
  have hl1 := hl.put (v := .slice none 0 0) (show 4 < N by omega)
  refine MW.sq (MW.rg (ML.octets tk hl1 he hc hr hxs hxN hx16 hN hd1 hd2 (by omega) h5d (by rw [h5]; exact ho) hB hlim ?_))
  intro a' w' sv' ρ'' g1 g2 g3 g4 _
  exact MW.ret1 g1 hres ((g1.get 4 (by omega)).trans g2) ⟨sv', rfl, g3, g4⟩

/-! The octets of numbers. -/
theorem byteV_of {n : Int} {k : Nat} (h0 : 0 ≤ n) (h : n.toNat % 256 = k % 256) : Value.int .u8 (IntKind.u8.wrap n) = byteV (UInt8.ofNat k) := by
  unfold byteV
  rw [IntKind.wrap_u8]
  have : (UInt8.ofNat k).toNat = k % 256 := by simp
  rw [this]
  congr 1
  omega

theorem be_one (n : Nat) : be n 1 = [UInt8.ofNat (n % 256)] := rfl
theorem be_two (n : Nat) : be n 2 = [UInt8.ofNat (n / 256 % 256), UInt8.ofNat (n % 256)] := rfl
theorem be_four (n : Nat) : be n 4 = [UInt8.ofNat (n / 256 / 256 / 256 % 256), UInt8.ofNat (n / 256 / 256 % 256), UInt8.ofNat (n / 256 % 256), UInt8.ofNat (n % 256)] := rfl
theorem be_eight (n : Nat) : be n 8 = [UInt8.ofNat (n / 256 / 256 / 256 / 256 / 256 / 256 / 256 % 256), UInt8.ofNat (n / 256 / 256 / 256 / 256 / 256 / 256 % 256), UInt8.ofNat (n / 256 / 256 / 256 / 256 / 256 % 256), UInt8.ofNat (n / 256 / 256 / 256 / 256 % 256), UInt8.ofNat (n / 256 / 256 / 256 % 256), UInt8.ofNat (n / 256 / 256 % 256), UInt8.ofNat (n / 256 % 256), UInt8.ofNat (n % 256)] := rfl

def code8 (T : IT) : MCode := octetsCode T [.mv 5 (.t 0), .mv 6 (.t 1), .cv 7 T.i8 T.u8 6] [.t 7] 8 9

theorem app8 {f : Nat} (tk : TOK P T) (h8 : T.i8 ≠ 0) (hf : FnIs P f (code8 T) 10 4) : ApC P T.u8 f (fun _ _ x out => ∃ n : Int, x = .int .i8 n ∧ out = fix n 1) := by
  refine ⟨hf.ent, ?_⟩
  rintro w B sv x bs out hB ho ⟨n, rfl, rfl⟩ hlim
  refine octets_calls (ks := [.u8]) (l := fix n 1) tk hf rfl ⟨⟨_, tk.i8 h8⟩, tk.u8i, trivial⟩ (by simp [reads, MX.slots]) ?_ (by simp) (by simp) rfl (by omega) (by omega) (by omega) (by omega) ho hB hlim
  simp only [List.map_cons, List.map_nil, fix, be_one]
  show [Value.int .u8 (IntKind.u8.wrap n)] = _
  congr 1
  rw [show IntKind.u8.wrap n = IntKind.u8.wrap (n % 256) from by rw [IntKind.wrap_u8, IntKind.wrap_u8]; omega]
  exact byteV_of (by omega) (by simp)

def code16 (T : IT) : MCode := octetsCode T [.mv 5 (.t 0), .mv 6 (.t 1), .b2 7 .shr (.t 6) (.c (.int .u64 8)), .cv 8 T.u16 T.u8 7, .mv 9 (.t 1), .cv 10 T.u16 T.u8 9] [.t 8, .t 10] 11 12

theorem appU16 {f : Nat} (tk : TOK P T) (h16 : T.u16 ≠ 0) (hf : FnIs P f (code16 T) 13 4) : ApC P T.u8 f (fun _ _ x out => ∃ n : Nat, n < 65536 ∧ x = .int .u16 n ∧ out = be n 2) := by
  refine ⟨hf.ent, ?_⟩
  rintro w B sv x bs out hB ho ⟨n, hn, rfl, rfl⟩ hlim
  refine octets_calls (ks := [.u8, .u8]) (l := be n 2) tk hf rfl ⟨⟨_, tk.u16 h16⟩, tk.u8i, ⟨_, tk.u16 h16⟩, tk.u8i, trivial⟩ (by simp [reads, MX.slots]) ?_ (by simp) (by simp) rfl (by omega) (by omega) (by omega) (by omega) ho hB hlim
  simp only [List.map_cons, List.map_nil, be_two]
  show [Value.int .u8 (IntKind.u8.wrap (Int.fdiv n 256)), Value.int .u8 (IntKind.u8.wrap n)] = _
  rw [byteV_of (k := n / 256 % 256) (by rw [Int.fdiv_eq_ediv_of_nonneg _ (by omega)]; omega) (by rw [Int.fdiv_eq_ediv_of_nonneg _ (by omega)]; omega), byteV_of (k := n % 256) (by omega) (by omega)]

def code32 (T : IT) : MCode := octetsCode T [.mv 5 (.t 0), .mv 6 (.t 1), .b2 7 .shr (.t 6) (.c (.int .u64 24)), .cv 8 T.u32 T.u8 7, .mv 9 (.t 1), .b2 10 .shr (.t 9) (.c (.int .u64 16)), .cv 11 T.u32 T.u8 10, .mv 12 (.t 1), .b2 13 .shr (.t 12) (.c (.int .u64 8)), .cv 14 T.u32 T.u8 13, .mv 15 (.t 1), .cv 16 T.u32 T.u8 15] [.t 8, .t 11, .t 14, .t 16] 17 18

theorem appU32 {f : Nat} (tk : TOK P T) (h32 : T.u32 ≠ 0) (hf : FnIs P f (code32 T) 19 4) : ApC P T.u8 f (fun _ _ x out => ∃ n : Nat, n < 4294967296 ∧ x = .int .u32 n ∧ out = be n 4) := by
  refine ⟨hf.ent, ?_⟩
  rintro w B sv x bs out hB ho ⟨n, hn, rfl, rfl⟩ hlim
  have q := tk.u32 h32
  refine octets_calls (ks := [.u8, .u8, .u8, .u8]) (l := be n 4) tk hf rfl ⟨⟨_, q⟩, tk.u8i, ⟨_, q⟩, tk.u8i, ⟨_, q⟩, tk.u8i, ⟨_, q⟩, tk.u8i, trivial⟩ (by simp [reads, MX.slots]) ?_ (by simp) (by simp) rfl (by omega) (by omega) (by omega) (by omega) ho hB hlim
  simp only [List.map_cons, List.map_nil, be_four]
  show [Value.int .u8 (IntKind.u8.wrap (Int.fdiv n 16777216)), Value.int .u8 (IntKind.u8.wrap (Int.fdiv n 65536)), Value.int .u8 (IntKind.u8.wrap (Int.fdiv n 256)), Value.int .u8 (IntKind.u8.wrap n)] = _
  rw [byteV_of (k := n / 256 / 256 / 256 % 256) (by rw [Int.fdiv_eq_ediv_of_nonneg _ (by omega)]; omega) (by rw [Int.fdiv_eq_ediv_of_nonneg _ (by omega)]; omega),
    byteV_of (k := n / 256 / 256 % 256) (by rw [Int.fdiv_eq_ediv_of_nonneg _ (by omega)]; omega) (by rw [Int.fdiv_eq_ediv_of_nonneg _ (by omega)]; omega),
    byteV_of (k := n / 256 % 256) (by rw [Int.fdiv_eq_ediv_of_nonneg _ (by omega)]; omega) (by rw [Int.fdiv_eq_ediv_of_nonneg _ (by omega)]; omega), byteV_of (k := n % 256) (by omega) (by omega)]

def code64 (T : IT) : MCode := octetsCode T [.mv 5 (.t 0), .mv 6 (.t 1), .b2 7 .shr (.t 6) (.c (.int .u64 56)), .cv 8 T.u64 T.u8 7, .mv 9 (.t 1), .b2 10 .shr (.t 9) (.c (.int .u64 48)), .cv 11 T.u64 T.u8 10,
  .mv 12 (.t 1), .b2 13 .shr (.t 12) (.c (.int .u64 40)), .cv 14 T.u64 T.u8 13, .mv 15 (.t 1), .b2 16 .shr (.t 15) (.c (.int .u64 32)), .cv 17 T.u64 T.u8 16, .mv 18 (.t 1), .b2 19 .shr (.t 18) (.c (.int .u64 24)), .cv 20 T.u64 T.u8 19,
  .mv 21 (.t 1), .b2 22 .shr (.t 21) (.c (.int .u64 16)), .cv 23 T.u64 T.u8 22, .mv 24 (.t 1), .b2 25 .shr (.t 24) (.c (.int .u64 8)), .cv 26 T.u64 T.u8 25, .mv 27 (.t 1), .cv 28 T.u64 T.u8 27] [.t 8, .t 11, .t 14, .t 17, .t 20, .t 23, .t 26, .t 28] 29 30

theorem appU64 {f : Nat} (tk : TOK P T) (h64 : T.u64 ≠ 0) (hf : FnIs P f (code64 T) 31 4) : ApC P T.u8 f (fun _ _ x out => ∃ n : Nat, n < 18446744073709551616 ∧ x = .int .u64 n ∧ out = be n 8) := by
  refine ⟨hf.ent, ?_⟩
  rintro w B sv x bs out hB ho ⟨n, hn, rfl, rfl⟩ hlim
  have q := tk.u64 h64
  refine octets_calls (ks := [.u8, .u8, .u8, .u8, .u8, .u8, .u8, .u8]) (l := be n 8) tk hf rfl ⟨⟨_, q⟩, tk.u8i, ⟨_, q⟩, tk.u8i, ⟨_, q⟩, tk.u8i, ⟨_, q⟩, tk.u8i, ⟨_, q⟩, tk.u8i, ⟨_, q⟩, tk.u8i, ⟨_, q⟩, tk.u8i, ⟨_, q⟩, tk.u8i, trivial⟩ (by simp [reads, MX.slots]) ?_ (by simp) (by simp) rfl (by omega) (by omega) (by omega) (by omega) ho hB hlim
  simp only [List.map_cons, List.map_nil, be_eight]
  show [Value.int .u8 (IntKind.u8.wrap (Int.fdiv n 72057594037927936)), Value.int .u8 (IntKind.u8.wrap (Int.fdiv n 281474976710656)), Value.int .u8 (IntKind.u8.wrap (Int.fdiv n 1099511627776)), Value.int .u8 (IntKind.u8.wrap (Int.fdiv n 4294967296)),
    Value.int .u8 (IntKind.u8.wrap (Int.fdiv n 16777216)), Value.int .u8 (IntKind.u8.wrap (Int.fdiv n 65536)), Value.int .u8 (IntKind.u8.wrap (Int.fdiv n 256)), Value.int .u8 (IntKind.u8.wrap n)] = _
  have go : ∀ (m : Int) (k : Nat), 0 < m → (Int.toNat ((n : Int) / m)) % 256 = k % 256 → Value.int .u8 (IntKind.u8.wrap (Int.fdiv n m)) = byteV (UInt8.ofNat k) := by
    intro m k hm hk
    rw [Int.fdiv_eq_ediv_of_nonneg _ (by omega)]
    exact byteV_of (Int.ediv_nonneg (by omega) (by omega)) hk
  rw [go 72057594037927936 (n / 256 / 256 / 256 / 256 / 256 / 256 / 256 % 256) (by omega) (by omega), go 281474976710656 (n / 256 / 256 / 256 / 256 / 256 / 256 % 256) (by omega) (by omega),
    go 1099511627776 (n / 256 / 256 / 256 / 256 / 256 % 256) (by omega) (by omega), go 4294967296 (n / 256 / 256 / 256 / 256 % 256) (by omega) (by omega), go 16777216 (n / 256 / 256 / 256 % 256) (by omega) (by omega),
    go 65536 (n / 256 / 256 % 256) (by omega) (by omega), go 256 (n / 256 % 256) (by omega) (by omega), byteV_of (k := n % 256) (by omega) (by omega)]
end
end Go.Kx
namespace Go.Kx
open Go.RowKit
set_option linter.unusedSimpArgs false
set_option linter.unusedVariables false

def uvTab : List Nat := [1, 1, 1, 1, 1, 1, 1, 1, 2, 2, 2, 2, 2, 2, 2, 3, 3, 3, 3, 3, 3, 3, 4, 4, 4, 4, 4, 4, 4, 5, 5, 5, 5, 5, 5, 5, 6, 6, 6, 6, 6, 6, 6, 7, 7, 7, 7, 7, 7, 7, 8, 8, 8, 8, 8, 8, 8, 9, 9, 9, 9, 9, 9, 9, 10, 0, 0, 0, 0, 0, 0, 0, 0, 0, 0, 0, 0, 0, 0, 0, 0, 0, 0, 0, 0, 0, 0, 0, 0, 0, 0, 0, 0, 0, 0, 0, 0, 0, 0, 0, 0, 0, 0, 0, 0, 0, 0, 0, 0, 0, 0, 0, 0, 0, 0, 0, 0, 0, 0, 0, 0, 0, 0, 0, 0, 0, 0, 0, 0, 0, 0, 0, 0, 0, 0, 0, 0, 0, 0, 0, 0, 0, 0, 0, 0, 0, 0, 0, 0, 0, 0, 0, 0, 0, 0, 0, 0, 0, 0, 0, 0, 0, 0, 0, 0, 0, 0, 0, 0, 0, 0, 0, 0, 0, 0, 0, 0, 0, 0, 0, 0, 0, 0, 0, 0, 0, 0, 0, 0, 0, 0, 0, 0, 0, 0, 0, 0, 0, 0, 0, 0, 0, 0, 0, 0, 0, 0, 0, 0, 0, 0, 0, 0, 0, 0, 0, 0, 0, 0, 0, 0, 0, 0, 0, 0, 0, 0, 0, 0, 0, 0, 0, 0, 0, 0, 0, 0, 0, 0, 0, 0, 0, 0, 0, 0, 0, 0, 0, 0, 0, 0, 0, 0, 0, 0, 0]
def len8 : List Nat := [0, 1, 2, 2, 3, 3, 3, 3, 4, 4, 4, 4, 4, 4, 4, 4, 5, 5, 5, 5, 5, 5, 5, 5, 5, 5, 5, 5, 5, 5, 5, 5, 6, 6, 6, 6, 6, 6, 6, 6, 6, 6, 6, 6, 6, 6, 6, 6, 6, 6, 6, 6, 6, 6, 6, 6, 6, 6, 6, 6, 6, 6, 6, 6, 7, 7, 7, 7, 7, 7, 7, 7, 7, 7, 7, 7, 7, 7, 7, 7, 7, 7, 7, 7, 7, 7, 7, 7, 7, 7, 7, 7, 7, 7, 7, 7, 7, 7, 7, 7, 7, 7, 7, 7, 7, 7, 7, 7, 7, 7, 7, 7, 7, 7, 7, 7, 7, 7, 7, 7, 7, 7, 7, 7, 7, 7, 7, 7, 8, 8, 8, 8, 8, 8, 8, 8, 8, 8, 8, 8, 8, 8, 8, 8, 8, 8, 8, 8, 8, 8, 8, 8, 8, 8, 8, 8, 8, 8, 8, 8, 8, 8, 8, 8, 8, 8, 8, 8, 8, 8, 8, 8, 8, 8, 8, 8, 8, 8, 8, 8, 8, 8, 8, 8, 8, 8, 8, 8, 8, 8, 8, 8, 8, 8, 8, 8, 8, 8, 8, 8, 8, 8, 8, 8, 8, 8, 8, 8, 8, 8, 8, 8, 8, 8, 8, 8, 8, 8, 8, 8, 8, 8, 8, 8, 8, 8, 8, 8, 8, 8, 8, 8, 8, 8, 8, 8, 8, 8, 8, 8, 8, 8, 8, 8, 8, 8, 8, 8, 8, 8, 8, 8, 8, 8, 8, 8]

section
variable {P : Program} {Q : Exit → Act → World → Prop} {a : Act} {w : World} {ms : List MOp} {T : IT}

theorem ML.ix {d V x i b : Nat} {k : IntKind} {s : List Nat} (hV : strTy P V = true) (hx : rd a x = .int k (i : Nat)) (hi : s[i]? = some b) (h : ML P ms Q (wr a d (.int .u8 (b : Nat))) w) : ML P (.ix d V s x :: ms) Q a w := by
  refine ML.step (d := some d) (v := .int .u8 (b : Nat)) (w' := w) (fun o ho => ?_) h
  have hf := fitOper_op ho
  generalize hop : o.op = op at hf
  unfold execOp
  cases op <;> simp only [fitOp, Bool.and_eq_true, Bool.false_eq_true, Nat.beq_eq] at hf
  rename_i V' y x'
  obtain ⟨⟨⟨h1, h2⟩, h3⟩, h4⟩ := hf
  subst h2
  cases y <;> try (simp at h4; done)
  rename_i v
  cases v <;> try (simp at h4; done)
  rename_i B
  have hm := fitStr_eq h4
  have hb : ∃ u : UInt8, B.data.toList[i]? = some u ∧ u.toNat = b := by
    rw [← hm, List.getElem?_map, Option.map_eq_some_iff] at hi
    exact hi
  obtain ⟨u, hu, rfl⟩ := hb
  have hlt : i < B.data.toList.length := (List.getElem?_eq_some_iff.1 hu).1
  have hget : B[i]? = some u := by
    have h5 : i < B.size := by have h6 := hlt; rw [Array.length_toList] at h6; exact h6
    rw [getElem?_pos B i h5]
    have h7 := (List.getElem?_eq_some_iff.1 hu).2
    rw [Array.getElem_toList] at h7
    exact congrArg some h7
  have he : a.eval (.tmp x) = .int k (i : Nat) := hx
  have hec : a.eval (.const (.string B)) = .string B := rfl
  refine ⟨dstIs_eq h1, .inl ?_⟩
  simp only [hop, tmpIs_eq h3, he, hec, Sem.run_bind, Instr.index, asIntOf, Sem.run_pure, Result.andThen_ok, run_underlying (strTy_eq hV)]
  rw [if_pos (by omega), Int.toNat_natCast, hget]
  rfl

/-- A call that reckons one number of one number, and leaves the world. -/
def NumC (P : Program) (f : Nat) (k k' : IntKind) (dom : Nat → Prop) (g : Nat → Nat) : Prop :=
  entersB P f = true ∧ ∀ (w : World) (n : Nat), dom n → Calls P f #[.int k (n : Nat)] w (fun e w' => e = .returned (.int k' (g n : Nat)) ∧ w' = w)

def bitLen (n : Nat) : Nat := if n < 256 then len8.getD n 0 else if n < 65536 then 8 + len8.getD (n / 256) 0 else if n < 16777216 then 16 + len8.getD (n / 65536) 0 else 24 + len8.getD (n / 16777216) 0

def codeLen32 (T : IT) : MCode := rows [.rg [.mv 2 (.c (.int .i64 0))],
  .sq (.rg [.mv 3 (.t 0), .b2 4 .geq (.t 3) (.c (.int .u32 65536))]) (.cd 4 (.sq (.rg [.mv 5 (.t 0), .b2 6 .shr (.t 5) (.c (.int .u64 16)), .mv 0 (.t 6)]) (.rg [.mv 2 (.c (.int .i64 16))])) .sk),
  .sq (.rg [.mv 7 (.t 0), .b2 8 .geq (.t 7) (.c (.int .u32 256))]) (.cd 8 (.sq (.rg [.mv 9 (.t 0), .b2 10 .shr (.t 9) (.c (.int .u64 8)), .mv 0 (.t 10)]) (.rg [.mv 11 (.t 2), .b2 12 .add (.t 11) (.c (.int .i64 8)), .mv 2 (.t 12)])) .sk),
  .rg [.mv 13 (.t 2), .mv 14 (.t 0), .cv 15 T.u32 T.u8 14, .ix 16 T.str len8 15, .cv 17 T.u8 T.int 16, .b2 18 .add (.t 13) (.t 17), .mv 2 (.t 18)], .rt]

theorem len8_le : ∀ x : Fin 256, len8.getD x.val 0 ≤ 8 ∧ len8[x.val]? = some (len8.getD x.val 0) := by decide +kernel

theorem lenTail {a : Act} {ρ : Nat → Value} {x m : Nat} {fn : Func} {R : Ending → World → Prop} (tk : TOK P T) (h32 : T.u32 ≠ 0) (hstr : T.str ≠ 0) (hres : fn.results = #[.tmp 2]) (hl : Loc 19 19 ρ a) (h0 : ρ 0 = .int .u32 (x : Nat)) (h2 : ρ 2 = .int .i64 (m : Nat)) (hx : x < 256) (hm : m ≤ 24)
    (h : R (.returned (.int .i64 ((m + len8.getD x 0 : Nat) : Int))) w) : MW P (rows [.rg [.mv 13 (.t 2), .mv 14 (.t 0), .cv 15 T.u32 T.u8 14, .ix 16 T.str len8 15, .cv 17 T.u8 T.int 16, .b2 18 .add (.t 13) (.t 17), .mv 2 (.t 18)], .rt]) (bodyPost P fn R) a w := by
  have hsz := hl.size
  obtain ⟨hle, hget⟩ := len8_le ⟨x, hx⟩
  dsimp only at hle hget
  have r0 : rd a 0 = .int .u32 (x : Nat) := by rw [hl.get 0 (by omega), h0]
  have r2 : rd a 2 = .int .i64 (m : Nat) := by rw [hl.get 2 (by omega), h2]
  refine MW.sq (MW.rg (ML.mv (ML.mv (ML.cv (v := .int .u8 (x : Nat)) ?_ (ML.ix (k := .u8) (i := x) (b := len8.getD x 0) (tk.str hstr) ?_ hget (ML.cv (v := .int .i64 ((len8.getD x 0 : Nat) : Int)) ?_ (ML.b2 (v := .int .i64 ((m + len8.getD x 0 : Nat) : Int)) ?_ (ML.mv (ML.nil ?_)))))))))
  · simp (disch := (first | omega | (simp only [size_wr]; omega))) only [rd_same, rd_ne, MX.of]
    rw [r0, run_convert_int (tk.u32 h32) tk.u8i, IntKind.wrap_u8]
    congr 2; omega
  · simp (disch := (first | omega | (simp only [size_wr]; omega))) only [rd_same, rd_ne, MX.of]
  · simp (disch := (first | omega | (simp only [size_wr]; omega))) only [rd_same, rd_ne, MX.of]
    rw [run_convert_int tk.u8i tk.int, wrap_i64 (by omega) (by omega)]
  · simp (disch := (first | omega | (simp only [size_wr]; omega))) only [rd_same, rd_ne, MX.of]
    rw [r2]
    simp only [evB, if_true]
    rw [wrap_i64 (by omega) (by omega)]; rfl
  · simp (disch := (first | omega | (simp only [size_wr]; omega))) only [rd_same, rd_ne, MX.of]
    refine MW.ret1 (N := 19) (L := 0) (ρ := fun _ => undef) ⟨by simpa using hsz, by simpa using hl.defers, fun s hs => by omega⟩ hres (rd_same (by simp only [size_wr]; omega)) h

theorem len32_num {f : Nat} (tk : TOK P T) (h32 : T.u32 ≠ 0) (hstr : T.str ≠ 0) (hf : FnIs P f (codeLen32 T) 19 2) : NumC P f .u32 .i64 (· < 4294967296) bitLen := by
  refine ⟨hf.ent, fun w n hn => ?_⟩
  refine hf.calls (args := [.int .u32 (n : Nat)]) (by simp) fun a fn hres hl => ?_
  have hsz := hl.size
  refine MW.sq (MW.rg (ML.mv (ML.nil ?_)))
  have hl1 := hl.put (v := .int .i64 0) (show 2 < 19 by omega)
  generalize hA : wr a 2 (Value.int IntKind.i64 0) = a1 at hl1
  have hA' : wr a 2 ((MX.c (MVal.int IntKind.i64 0)).of a) = a1 := hA
  rw [hA']
  have hsz1 := hl1.size
  have q0 : rd a1 0 = .int .u32 (n : Nat) := by rw [hl1.get 0 (by omega)]; rfl
  have q2 : rd a1 2 = .int .i64 0 := by rw [hl1.get 2 (by omega)]; rfl
  -- the second half, from whatever stands in slots 0 and 2
  have half : ∀ (a2 : Act) (ρ : Nat → Value) (x m : Nat), Loc 19 19 ρ a2 → ρ 0 = .int .u32 (x : Nat) → ρ 2 = .int .i64 (m : Nat) → x < 65536 → m ≤ 16 → bitLen n = (if x < 256 then m + len8.getD x 0 else m + 8 + len8.getD (x / 256) 0) →
      MW P (rows [.sq (.rg [.mv 7 (.t 0), .b2 8 .geq (.t 7) (.c (.int .u32 256))]) (.cd 8 (.sq (.rg [.mv 9 (.t 0), .b2 10 .shr (.t 9) (.c (.int .u64 8)), .mv 0 (.t 10)]) (.rg [.mv 11 (.t 2), .b2 12 .add (.t 11) (.c (.int .i64 8)), .mv 2 (.t 12)])) .sk),
        .rg [.mv 13 (.t 2), .mv 14 (.t 0), .cv 15 T.u32 T.u8 14, .ix 16 T.str len8 15, .cv 17 T.u8 T.int 16, .b2 18 .add (.t 13) (.t 17), .mv 2 (.t 18)], .rt]) (bodyPost P fn fun e w' => e = .returned (.int .i64 (bitLen n : Nat)) ∧ w' = w) a2 w := by
    intro a2 ρ x m hl2 h0 h2 hx hm hb
    have hsz2 := hl2.size
    have p0 : rd a2 0 = .int .u32 (x : Nat) := by rw [hl2.get 0 (by omega), h0]
    refine MW.sq (MW.sq (MW.rg (ML.mv (ML.b2 (v := .bool (decide ((256 : Int) ≤ x))) ?_ (ML.nil ?_)))))
    · simp (disch := (first | omega | (simp only [size_wr]; omega))) only [rd_same, rd_ne, MX.of]
      rw [p0]; rfl
    have hl3 := (hl2.put (v := (MX.t 0).of a2) (show 7 < 19 by omega)).put (v := .bool (decide ((256 : Int) ≤ x))) (show 8 < 19 by omega)
    have hb8 : rd (wr (wr a2 7 ((MX.t 0).of a2)) 8 (.bool (decide ((256 : Int) ≤ x)))) 8 = .bool (decide ((256 : Int) ≤ x)) := rd_same (by simp only [size_wr]; omega)
    revert hl3 hb8
    generalize wr (wr a2 7 ((MX.t 0).of a2)) 8 (.bool (decide ((256 : Int) ≤ x))) = a3
    intro hl3 hb8
    refine MW.cd (b := decide ((256 : Int) ≤ x)) hb8 (fun e => ?_) (fun e => ?_)
    · have hge : 256 ≤ x := by have := of_decide_eq_true e; omega
      have hsz3 := hl3.size
      have p0' := (hl3.get 0 (by omega)).trans ((upd_ne _ _ (by omega)).trans ((upd_ne _ _ (by omega)).trans h0))
      refine MW.sq (MW.rg (ML.mv (ML.b2 (v := .int .u32 ((x / 256 : Nat) : Int)) ?_ (ML.mv (ML.nil ?_)))))
      · simp (disch := (first | omega | (simp only [size_wr]; omega))) only [rd_same, MX.of]
        rw [p0']
        show some (Value.int .u32 (Int.fdiv x 256)) = _
        rw [Int.fdiv_eq_ediv_of_nonneg _ (by omega)]; rfl
      have hl4 := ((hl3.put (v := (MX.t 0).of a3) (show 9 < 19 by omega)).put (v := .int .u32 ((x / 256 : Nat) : Int)) (show 10 < 19 by omega)).put (v := .int .u32 ((x / 256 : Nat) : Int)) (show 0 < 19 by omega)
      simp (disch := (first | omega | (simp only [size_wr]; omega))) only [rd_same, rd_ne, MX.of] at hl4 ⊢
      revert hl4
      generalize wr (wr (wr a3 9 (rd a3 0)) 10 (.int .u32 ((x / 256 : Nat) : Int))) 0 (.int .u32 ((x / 256 : Nat) : Int)) = a4
      intro hl4
      have hsz4 := hl4.size
      have p2' := hl4.get 2 (by omega)
      rw [upd_ne _ _ (by omega), upd_ne _ _ (by omega), upd_ne _ _ (by omega), upd_ne _ _ (by omega), upd_ne _ _ (by omega), h2] at p2'
      refine MW.rg (ML.mv (ML.b2 (v := .int .i64 ((m + 8 : Nat) : Int)) ?_ (ML.mv (ML.nil ?_))))
      · simp (disch := (first | omega | (simp only [size_wr]; omega))) only [rd_same, MX.of]
        rw [p2']
        show some (Value.int .i64 (IntKind.i64.wrap (m + 8))) = _
        rw [wrap_i64 (by omega) (by omega)]; rfl
      have hl5 := ((hl4.put (v := (.int .i64 (m : Nat) : Value)) (show 11 < 19 by omega)).put (v := .int .i64 ((m + 8 : Nat) : Int)) (show 12 < 19 by omega)).put (v := .int .i64 ((m + 8 : Nat) : Int)) (show 2 < 19 by omega)
      simp (disch := (first | omega | (simp only [size_wr]; omega))) only [rd_same, MX.of]
      rw [p2']
      show MW P (rows [_, _]) _ _ w
      refine lenTail tk h32 hstr hres hl5 (x := x / 256) (m := m + 8) ?_ (upd_same _ _ _) (by omega) (by omega) ⟨?_, rfl⟩
      · rw [upd_ne _ _ (by omega), upd_ne _ _ (by omega), upd_ne _ _ (by omega), upd_same]
      · rw [hb, if_neg (by omega)]
    · have hlt : x < 256 := by have := of_decide_eq_false e; omega
      refine MW.sk ?_
      show MW P (rows [_, _]) _ _ w
      refine lenTail tk h32 hstr hres hl3 (x := x) (m := m) ?_ ?_ hlt (by omega) ⟨?_, rfl⟩
      · rw [upd_ne _ _ (by omega), upd_ne _ _ (by omega), h0]
      · rw [upd_ne _ _ (by omega), upd_ne _ _ (by omega), h2]
      · rw [hb, if_pos hlt]
  refine MW.sq (MW.sq (MW.rg (ML.mv (ML.b2 (v := .bool (decide ((65536 : Int) ≤ n))) ?_ (ML.nil ?_)))))
  · simp (disch := (first | omega | (simp only [size_wr]; omega))) only [rd_same, rd_ne, MX.of]
    rw [q0]; rfl
  have hl3 := (hl1.put (v := (MX.t 0).of a1) (show 3 < 19 by omega)).put (v := .bool (decide ((65536 : Int) ≤ n))) (show 4 < 19 by omega)
  have hb4 : rd (wr (wr a1 3 ((MX.t 0).of a1)) 4 (.bool (decide ((65536 : Int) ≤ n)))) 4 = .bool (decide ((65536 : Int) ≤ n)) := rd_same (by simp only [size_wr]; omega)
  revert hl3 hb4
  generalize wr (wr a1 3 ((MX.t 0).of a1)) 4 (.bool (decide ((65536 : Int) ≤ n))) = a3
  intro hl3 hb4
  refine MW.cd (b := decide ((65536 : Int) ≤ n)) hb4 (fun e => ?_) (fun e => ?_)
  · have hge : 65536 ≤ n := by have := of_decide_eq_true e; omega
    have hsz3 := hl3.size
    have p0' := (hl3.get 0 (by omega)).trans ((upd_ne _ _ (by omega)).trans ((upd_ne _ _ (by omega)).trans ((hl1.get 0 (by omega)).symm.trans q0)))
    refine MW.sq (MW.rg (ML.mv (ML.b2 (v := .int .u32 ((n / 65536 : Nat) : Int)) ?_ (ML.mv (ML.nil ?_)))))
    · simp (disch := (first | omega | (simp only [size_wr]; omega))) only [rd_same, MX.of]
      rw [p0']
      show some (Value.int .u32 (Int.fdiv n 65536)) = _
      rw [Int.fdiv_eq_ediv_of_nonneg _ (by omega)]; rfl
    have hl4 := ((hl3.put (v := (MX.t 0).of a3) (show 5 < 19 by omega)).put (v := .int .u32 ((n / 65536 : Nat) : Int)) (show 6 < 19 by omega)).put (v := .int .u32 ((n / 65536 : Nat) : Int)) (show 0 < 19 by omega)
    simp (disch := (first | omega | (simp only [size_wr]; omega))) only [rd_same, rd_ne, MX.of] at hl4 ⊢
    refine MW.rg (ML.mv (ML.nil ?_))
    have hl5 := hl4.put (v := (.int .i64 16 : Value)) (show 2 < 19 by omega)
    refine half _ _ (n / 65536) 16 hl5 ?_ (upd_same _ _ _) (by omega) (by omega) ?_
    · rw [upd_ne _ _ (by omega), upd_same]
    · unfold bitLen
      rw [if_neg (by omega), if_neg (by omega)]
      by_cases h6 : n < 16777216
      · rw [if_pos h6, if_pos (by omega)]
      · rw [if_neg h6, if_neg (by omega)]
        rw [show n / 65536 / 256 = n / 16777216 from by omega]
  · have hlt : n < 65536 := by have := of_decide_eq_false e; omega
    refine MW.sk ?_
    refine half _ _ n 0 hl3 ?_ ?_ hlt (by omega) ?_
    · rw [upd_ne _ _ (by omega), upd_ne _ _ (by omega)]; exact (hl1.get 0 (by omega)).symm.trans q0
    · rw [upd_ne _ _ (by omega), upd_ne _ _ (by omega)]; exact (hl1.get 2 (by omega)).symm.trans q2
    · unfold bitLen
      by_cases h6 : n < 256
      · rw [if_pos h6, if_pos h6, Nat.zero_add]
      · rw [if_neg h6, if_pos hlt, if_neg h6]
end
end Go.Kx
