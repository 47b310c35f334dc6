/- Rules for scopes, constant indices, maps, globals, slicing of octets; the reader's memory (RdAt). No condition on the program beyond those that a rule names.
   encoding/binary's BigEndian numbers; the reader's numbers: Int16, Uint16, Int32, readUint64, Int64. Conditions: the program's tables (ROK).
   The reader's numbers: Int16, Uint16, Int32, readUint64, Int64, Bool. Conditions: the program's tables (ROK).
   The reader's calls, told once (RdC): what was read, by a decoder, or that the reader has run out; the span. Conditions: the program's tables (ROK).
   Functions of two results; kbin.Uvarint, the reader's Uvarint. Conditions: the program's tables (ROK). -/
import Derived.Test.YtmehkjdaeohblaaDoorKxG
import Derived.Laws.IdiomRangeMap
namespace Go.Kx
open Go.RowKit
set_option linter.unusedSimpArgs false
set_option linter.unusedVariables false

/-- As Q; by a jump to label l: J. -/
def jumpR (l : Nat) (J : (Nat → Value) → World → Prop) (Q : Exit → (Nat → Value) → World → Prop) : Exit → (Nat → Value) → World → Prop
  | .goto l', ρ, w => l' = l ∧ J ρ w
  | e, ρ, w => Q e ρ w

section
variable {P : Program} {N : Nat} {Q Q' : Exit → (Nat → Value) → World → Prop} {ρ : Nat → Value} {w w' : World} {ms : List MOp} {d : Nat} {v : Value}

theorem RW.lb {l : Nat} (h : Q .normal ρ w) : RW P N (.lb l) Q ρ w := fun a ha => MW.lb ⟨ρ, ha, h⟩
theorem RW.gt {l : Nat} (h : Q (.goto l) ρ w) : RW P N (.gt l) Q ρ w := fun a ha => MW.gt ⟨ρ, ha, h⟩

theorem RW.sc {b r : MCode} {l : Nat} (J : (Nat → Value) → World → Prop) (hf : findM l b = some r) (h : RW P N b (jumpR l J Q) ρ w) (hr : ∀ ρ w, J ρ w → RW P N r (jumpR l (fun _ _ => False) Q) ρ w) : RW P N (.sc b) Q ρ w := by
  intro a ha
  refine MW.sc (l := l) (fun a w => ∃ ρ, Loc N N ρ a ∧ J ρ w) hf ((h a ha).mono fun e a w hu => ?_) fun a w hJ => ?_
  · cases e <;> simp only [up, jumpR, Exit.jump] at hu ⊢ <;> first | exact hu | (obtain ⟨ρ, h1, h2, h3⟩ := hu; exact ⟨h2, ρ, h1, h3⟩)
  · obtain ⟨ρ, h1, h2⟩ := hJ
    refine ((hr ρ w h2) a h1).mono fun e a w hu => ?_
    cases e <;> simp only [up, jumpR, Exit.jump] at hu ⊢ <;> first | exact hu | (obtain ⟨ρ, h1, h2, h3⟩ := hu; exact ⟨h2, h3⟩)

theorem MR.iak {T x e b o len cap i sz : Nat} (ht : sliceOf P T e = true) (hn : cellsB P e sz = true) (hx : ρ x = .slice (some ⟨b, o, none⟩) len cap) (hj : i < len) (hxN : x < N := by decide) :
    MR P N (.iak d T x i) ρ w d (.pointer (some ⟨b, o + i * sz, none⟩)) w := by
  intro a o' hl hf
  generalize hop : o'.op = op at hf
  unfold execOp
  cases op <;> try (simp only [fitOp, Bool.false_eq_true] at hf; done)
  rename_i T' x' i'
  cases i' <;> simp only [fitOp, Bool.and_eq_true, Bool.false_eq_true, Nat.beq_eq] at hf
  rename_i vi
  obtain ⟨⟨⟨h1, h2⟩, h3⟩, h4⟩ := hf
  subst h2
  have hv := MVal.is_eq h4
  subst hv
  refine ⟨dstIs_eq h1, ?_⟩
  have hn' := cellsB_map hn
  cases hie : P.info? e with
  | none => simp [hie] at hn'
  | some ie =>
    simp only [hie, Option.map_some, Option.some.injEq] at hn'
    have he2 : a.eval (.const (MVal.int .i64 i).val) = .int .i64 i := rfl
    simp only [hop, Sem.run_bind, tmpL hl hxN h3, he2, hx, Instr.indexAt]
    simp [asIntOf, run_underlying (sliceOf_eq ht), sizeOf, typeInfo, hie, hn', Addr.add_mid, hj]

theorem MR.mkm {T : Nat} : MR P N (.mkm d T) ρ w d (.map (some w.heap.size)) (w.alloc (.map #[] 0)) := by
  intro a o hl hf
  generalize hop : o.op = op at hf
  unfold execOp
  cases op <;> try (simp only [fitOp, Bool.false_eq_true] at hf; done)
  rename_i T' r
  cases r <;> simp only [fitOp, Bool.and_eq_true, Bool.false_eq_true, Nat.beq_eq] at hf
  obtain ⟨h1, h2⟩ := hf
  refine ⟨dstIs_eq h1, ?_⟩
  simp only [hop, Instr.makeMap, Option.map, Sem.run_bind, Sem.run_pure, run_newObj, Result.andThen_ok]
  rfl

theorem RL.mpu {T m k x : Nat} (hr : (Instr.mapUpdate T (ρ m) (ρ k) (ρ x)).run P w = .ok () w') (h : RL P N ms Q ρ w') (hm : m < N := by decide) (hk : k < N := by decide) (hx : x < N := by decide) : RL P N (.mpu T m k x :: ms) Q ρ w := by
  intro a ha
  refine ML.step (d := none) (v := undef) (w' := w') (fun o ho => ?_) (h a ha)
  have hf := fitOper_op ho
  generalize hop : o.op = op at hf
  generalize hd : o.dst = dd at hf
  unfold execOp
  cases op <;> cases dd <;> try (simp only [fitOp, Bool.false_eq_true] at hf; done)
  simp only [fitOp, Bool.and_eq_true, Nat.beq_eq] at hf
  obtain ⟨⟨⟨h1, h2⟩, h3⟩, h4⟩ := hf
  subst h1
  exact ⟨rfl, .inr ⟨rfl, by simp only [hop, Sem.run_bind, tmpL ha hm h2, tmpL ha hk h3, tmpL ha hx h4, hr, Result.andThen_ok, Sem.run_pure]⟩⟩

theorem MR.rng {T x : Nat} (hr : (Instr.range T (ρ x)).run P w = .ok v w') (hx : x < N := by decide) : MR P N (.rng d T x) ρ w d v w' := by
  intro a o hl hf
  generalize hop : o.op = op at hf
  unfold execOp
  cases op <;> try (simp only [fitOp, Bool.false_eq_true] at hf; done)
  simp only [fitOp, Bool.and_eq_true, Nat.beq_eq] at hf
  obtain ⟨⟨h1, h2⟩, h3⟩ := hf
  subst h2
  exact ⟨dstIs_eq h1, by simp only [hop, Sem.run_bind, tmpL hl hx h3, hr, Result.andThen_ok, Sem.run_pure]⟩

theorem MR.lku {T m k : Nat} (hr : (Instr.lookup T (ρ m) (ρ k) false).run P w = .ok v w) (hm : m < N := by decide) (hk : k < N := by decide) : MR P N (.lku d T m k) ρ w d v w := by
  intro a o hl hf
  generalize hop : o.op = op at hf
  unfold execOp
  cases op <;> try (simp only [fitOp, Bool.false_eq_true] at hf; done)
  rename_i T' x y c
  cases c <;> simp only [fitOp, Bool.and_eq_true, Bool.false_eq_true, Nat.beq_eq] at hf
  obtain ⟨⟨⟨h1, h2⟩, h3⟩, h4⟩ := hf
  subst h2
  exact ⟨dstIs_eq h1, by simp only [hop, Sem.run_bind, tmpL hl hm h3, tmpL hl hk h4, hr, Result.andThen_ok, Sem.run_pure]⟩

theorem MR.mki {T x : Nat} (hr : (Instr.makeInterface T (ρ x)).run P w = .ok v w') (hx : x < N := by decide) : MR P N (.mki d T x) ρ w d v w' := by
  intro a o hl hf
  generalize hop : o.op = op at hf
  unfold execOp
  cases op <;> try (simp only [fitOp, Bool.false_eq_true] at hf; done)
  simp only [fitOp, Bool.and_eq_true, Nat.beq_eq] at hf
  obtain ⟨⟨h1, h2⟩, h3⟩ := hf
  subst h2
  exact ⟨dstIs_eq h1, by simp only [hop, Sem.run_bind, tmpL hl hx h3, hr, Result.andThen_ok, Sem.run_pure]⟩

/-- A global variable is read. -/
theorem MR.lg {ty g : Nat} (hr : (Instr.loadAt ty (.pointer (some ⟨g, 0, none⟩))).run P w = .ok v w) : MR P N (.lg d ty g) ρ w d v w := by
  intro a o hl hf
  generalize hop : o.op = op at hf
  unfold execOp
  cases op <;> try (simp only [fitOp, Bool.false_eq_true] at hf; done)
  rename_i ty' x
  cases x <;> simp only [fitOp, Bool.and_eq_true, Bool.false_eq_true, Nat.beq_eq] at hf
  obtain ⟨⟨h1, h2⟩, h3⟩ := hf
  subst h2 h3
  have he : ∀ g : Nat, a.eval (.global g) = .pointer (some ⟨g, 0, none⟩) := fun g => rfl
  exact ⟨dstIs_eq h1, by simp only [hop, Sem.run_bind, he, hr, Result.andThen_ok, Sem.run_pure]⟩

/-! ### Slices of octets -/
theorem run_sliceFromS {T U n c l : Nat} {ad : Option Addr} (hT : sliceOf P T U = true) (hU : cellsB P U 1 = true) (had : okAd ad) (h1 : l ≤ n) (h2 : n ≤ c) :
    ∃ ad', (Instr.sliceAt T (.slice ad n c) (some (.int .i64 (l : Nat))) none none).run P w = .ok (.slice ad' (n - l) (c - l)) w ∧ okAd ad' ∧ (∀ {F : Nat → Prop} {bs : List UInt8}, bs.length = n → BytesAt w F ad bs → BytesAt w F ad' (bs.drop l)) ∧ (ad = none → ad' = none) ∧ (∀ a, ad = some a → ∃ a', ad' = some a') := by
  have hn' := cellsB_map hU
  cases hie : P.info? U with
  | none => simp [hie] at hn'
  | some ie =>
    simp only [hie, Option.map_some, Option.some.injEq] at hn'
    refine ⟨if c = l then ad else ad.map (·.add (l * 1)), ?_, ?_, ?_, fun h => by subst h; split <;> rfl, fun a h => by subst h; split <;> exact ⟨_, rfl⟩⟩
    · simp only [Instr.sliceAt, Sem.run_bind, run_underlying (sliceOf_eq hT), Result.andThen_ok, Instr.slice, Instr.sliceBounds, Instr.sliceBound, asIntOf, Sem.run_pure, sizeOf, typeInfo, run_program, hie, hn']
      rw [if_pos ⟨by omega, by omega⟩]
      simp only [Sem.run_pure, Result.andThen_ok, Int.toNat_natCast]
    · rcases had with rfl | ⟨g, o, rfl⟩
      · split <;> exact .inl rfl
      · split
        · exact .inr ⟨g, o, rfl⟩
        · exact .inr ⟨g, o + l * 1, by simp [Addr.add_mid]⟩
    · intro F bs hl hb
      by_cases hc : c = l
      · have : bs.drop l = [] := List.drop_eq_nil_of_le (by omega)
        rw [this]
        intro j b hj; simp at hj
      · rw [if_neg hc]
        intro j b hj
        rw [List.getElem?_drop] at hj
        obtain ⟨g, o, rfl, h3, h4⟩ := hb (l + j) b hj
        exact ⟨g, o + l * 1, by simp [Addr.add_mid], h3, by rw [Nat.mul_one, Nat.add_assoc]; exact h4⟩
theorem run_sliceFrom {T U n c l : Nat} {ad : Option Addr} (hT : sliceOf P T U = true) (hU : cellsB P U 1 = true) (had : okAd ad) (h1 : l ≤ n) (h2 : n ≤ c) :
    ∃ ad', (Instr.sliceAt T (.slice ad n c) (some (.int .i64 (l : Nat))) none none).run P w = .ok (.slice ad' (n - l) (c - l)) w ∧ okAd ad' ∧ (∀ {F : Nat → Prop} {bs : List UInt8}, bs.length = n → BytesAt w F ad bs → BytesAt w F ad' (bs.drop l)) ∧ (ad = none → ad' = none) := by
  obtain ⟨ad', g1, g2, g3, g4, _⟩ := run_sliceFromS (P := P) (w := w) hT hU had h1 h2
  exact ⟨ad', g1, g2, g3, g4⟩


theorem run_slice3 {T U n c l : Nat} {ad : Option Addr} (hT : sliceOf P T U = true) (hU : cellsB P U 1 = true) (had : okAd ad) (h1 : l ≤ c) :
    (Instr.sliceAt T (.slice ad n c) none (some (.int .i64 (l : Nat))) (some (.int .i64 (l : Nat)))).run P w = .ok (.slice ad l l) w := by
  have hn' := cellsB_map hU
  cases hie : P.info? U with
  | none => simp [hie] at hn'
  | some ie =>
    simp only [hie, Option.map_some, Option.some.injEq] at hn'
    simp only [Instr.sliceAt, Sem.run_bind, run_underlying (sliceOf_eq hT), Result.andThen_ok, Instr.slice, Instr.sliceBounds, Instr.sliceBound, asIntOf, Sem.run_pure, sizeOf, typeInfo, run_program, hie, hn']
    rw [if_pos ⟨by omega, by omega⟩]
    simp only [Sem.run_pure, Result.andThen_ok, Int.toNat_natCast]
    rw [if_pos ⟨by omega, by omega⟩]
    simp only [Sem.run_pure, Result.andThen_ok, Int.toNat_natCast, Nat.sub_zero]
    congr 2
    rcases had with rfl | ⟨g, o, rfl⟩
    · split <;> rfl
    · split
      · rfl
      · simp [Addr.add_mid]

/-! ### Numbers out of octets -/
theorem or_u16 {a b : Nat} (ha : a < 65536) (hb : b < 65536) : IntKind.u16.wrap ((BitVec.ofInt IntKind.u16.bits (a : Int) ||| BitVec.ofInt IntKind.u16.bits (b : Int)).toNat : Int) = ((a ||| b : Nat) : Int) := by
  have h : a ||| b < 2 ^ 16 := Nat.or_lt_two_pow (by omega) (by omega)
  have e1 : (BitVec.ofInt 16 (a : Int)).toNat = a := by rw [BitVec.toNat_ofInt]; omega
  have e2 : (BitVec.ofInt 16 (b : Int)).toNat = b := by rw [BitVec.toNat_ofInt]; omega
  show IntKind.u16.wrap ((BitVec.ofInt 16 (a : Int) ||| BitVec.ofInt 16 (b : Int)).toNat : Int) = _
  rw [BitVec.toNat_or, e1, e2]
  simp [IntKind.wrap, IntKind.signed, IntKind.bits]; omega
theorem or_u32 {a b : Nat} (ha : a < 4294967296) (hb : b < 4294967296) : IntKind.u32.wrap ((BitVec.ofInt IntKind.u32.bits (a : Int) ||| BitVec.ofInt IntKind.u32.bits (b : Int)).toNat : Int) = ((a ||| b : Nat) : Int) := by
  have h : a ||| b < 2 ^ 32 := Nat.or_lt_two_pow (by omega) (by omega)
  have e1 : (BitVec.ofInt 32 (a : Int)).toNat = a := by rw [BitVec.toNat_ofInt]; omega
  have e2 : (BitVec.ofInt 32 (b : Int)).toNat = b := by rw [BitVec.toNat_ofInt]; omega
  show IntKind.u32.wrap ((BitVec.ofInt 32 (a : Int) ||| BitVec.ofInt 32 (b : Int)).toNat : Int) = _
  rw [BitVec.toNat_or, e1, e2]
  simp [IntKind.wrap, IntKind.signed, IntKind.bits]; omega
theorem or_u64 {a b : Nat} (ha : a < 18446744073709551616) (hb : b < 18446744073709551616) : IntKind.u64.wrap ((BitVec.ofInt IntKind.u64.bits (a : Int) ||| BitVec.ofInt IntKind.u64.bits (b : Int)).toNat : Int) = ((a ||| b : Nat) : Int) := by
  have h : a ||| b < 2 ^ 64 := Nat.or_lt_two_pow (by omega) (by omega)
  have e1 : (BitVec.ofInt 64 (a : Int)).toNat = a := by rw [BitVec.toNat_ofInt]; omega
  have e2 : (BitVec.ofInt 64 (b : Int)).toNat = b := by rw [BitVec.toNat_ofInt]; omega
  show IntKind.u64.wrap ((BitVec.ofInt 64 (a : Int) ||| BitVec.ofInt 64 (b : Int)).toNat : Int) = _
  rw [BitVec.toNat_or, e1, e2]
  simp [IntKind.wrap, IntKind.signed, IntKind.bits]; omega

theorem or_add {x y s : Nat} (h : x < 2 ^ s) : x ||| (y * 2 ^ s) = x + y * 2 ^ s := by
  rw [Nat.or_comm, Nat.mul_comm, ← Nat.two_pow_add_eq_or_of_lt h]; omega

theorem wrap_u16n {n : Nat} (h : n < 65536) : IntKind.u16.wrap (n : Int) = n := by simp [IntKind.wrap, IntKind.signed, IntKind.bits]; omega
theorem wrap_u32n {n : Nat} (h : n < 4294967296) : IntKind.u32.wrap (n : Int) = n := by simp [IntKind.wrap, IntKind.signed, IntKind.bits]; omega
theorem wrap_u64n {n : Nat} (h : n < 18446744073709551616) : IntKind.u64.wrap (n : Int) = n := by simp [IntKind.wrap, IntKind.signed, IntKind.bits]; omega
end

/-- The numbers of the reader's types and functions; 0: the program lacks it. -/
structure RN where
  T : IT
  tR : Nat
  tBE : Nat
  gBE : Nat
  gErr : Nat
  tErr : Nat
  be16 : Nat
  be32 : Nat
  be64 : Nat
  uvd : Nat
  span : Nat
  uv : Nat
  i8 : Nat
  i16 : Nat
  u16 : Nat
  i32 : Nat
  i64 : Nat
  r64 : Nat
  bool : Nat
  str : Nat
  cstr : Nat
  nstr : Nat
  cnstr : Nat
  byt : Nat
  cbyt : Nat
  nbyt : Nat
  cnbyt : Nat
  uuid : Nat
  alen : Nat
  calen : Nat
  compl : Nat
  okf : Nat
  tA : Nat := 0
  f64 : Nat := 0
  ffr : Nat := 0

structure ROK (P : Program) (R : RN) : Prop where
  tk : TOK P R.T
  mo : P.follows .mixedOrders = true
  f0 : fieldAtB P R.tR 0 0 = true
  f1 : fieldAtB P R.tR 1 1 = true
  ps : plainTy P R.T.u8s = true
  pb : plainTy P R.T.bool = true
  pu : plainTy P R.T.u8 = true
  cs : cellsB P R.T.u8s 1 = true
  cb : cellsB P R.T.bool 1 = true
  cu : cellsB P R.T.u8 1 = true
  be : rowTy P R.tBE = true
  bn : cellsB P R.tBE 0 = true
  pe : plainTy P R.tErr = true

def rokB (P : Program) (R : RN) : List Bool := [tokB P R.T, P.follows .mixedOrders, fieldAtB P R.tR 0 0, fieldAtB P R.tR 1 1, plainTy P R.T.u8s, plainTy P R.T.bool, plainTy P R.T.u8, cellsB P R.T.u8s 1, cellsB P R.T.bool 1, cellsB P R.T.u8 1, rowTy P R.tBE, cellsB P R.tBE 0, plainTy P R.tErr]
theorem rok_of {P : Program} {R : RN} (h : (rokB P R).all id = true) : ROK P R := by
  simp only [rokB, List.all_cons, List.all_nil, id_eq, Bool.and_true, Bool.and_eq_true] at h
  obtain ⟨h1, h2, h3, h4, h5, h6, h7, h8, h9, h10, h11, h12, h13⟩ := h
  exact ⟨tok_of h1, h2, h3, h4, h5, h6, h7, h8, h9, h10, h11, h12, h13⟩

/-- The reader at block rb: the octets that are left, in block sb; none: it has run out. -/
def RdAt (w : World) (rb sb : Nat) : Option (List UInt8) → Prop
  | some l => ∃ ad c, w.rangeAt rb 0 [.slice ad l.length c, .bool false] ∧ w.there rb 0 2 ∧ okAd ad ∧ l.length ≤ c ∧ BytesAt w (· = sb) ad l
  | none => w.rangeAt rb 0 [.slice none 0 0, .bool true] ∧ w.there rb 0 2

/-- The reader's slice has a place. -/
def AdS (w : World) (rb : Nat) : Prop := ∃ a n c, w.cell? ⟨rb, 0, none⟩ = some (.slice (some a) n c)

def stL : Option (List UInt8) → List UInt8
  | some l => l
  | none => []
def stB : Option (List UInt8) → Bool
  | some _ => false
  | none => true

section
variable {P : Program} {N : Nat} {Q : Exit → (Nat → Value) → World → Prop} {ρ : Nat → Value} {w w' : World} {ms : List MOp} {R : RN} {rb sb : Nat} {st : Option (List UInt8)}

theorem RdAt.all (h : RdAt w rb sb st) : ∃ ad c, w.rangeAt rb 0 [.slice ad (stL st).length c, .bool (stB st)] ∧ w.there rb 0 2 ∧ okAd ad ∧ (stL st).length ≤ c ∧ BytesAt w (· = sb) ad (stL st) := by
  cases st with
  | some l => exact h
  | none => exact ⟨none, 0, h.1, h.2, .inl rfl, Nat.le_refl _, fun j b hj => by simp [stL] at hj⟩

theorem RdAt.lt (h : RdAt w rb sb st) : rb < w.heap.size := by
  obtain ⟨ad, c, h1, _⟩ := h.all
  exact World.block_lt_of_cell? w _ (h1 0 _ rfl)

/-- The reader is kept where its block and the source's are. -/
theorem RdAt.keep (h : RdAt w rb sb st) (h1 : w'.heap[rb]? = w.heap[rb]?) (h2 : w'.heap[sb]? = w.heap[sb]?) : RdAt w' rb sb st := by
  cases st with
  | some l =>
    obtain ⟨ad, c, g1, g2, g3, g4, g5⟩ := h
    exact ⟨ad, c, range_keep g1 h1, there_keep g2 h1, g3, g4, g5.mono (fun _ h => h) (fun b hb => by rw [hb]; exact h2)⟩
  | none => exact ⟨range_keep h.1 h1, there_keep h.2 h1⟩

/-- What is left of the source after a store into the reader: the octets further on. -/
theorem RdAt.put {l : List UInt8} {ad : Option Addr} {c : Nat} {u v : Value} (hr : w.rangeAt rb 0 [u, v]) (ht : w.there rb 0 2) (hv : v = .bool false) (h1 : okAd ad) (h2 : l.length ≤ c) (h3 : BytesAt w (· = sb) ad l) (hne : sb ≠ rb) :
    RdAt (w.setCells rb 0 [.slice ad l.length c]) rb sb (some l) := by
  subst hv
  refine ⟨ad, c, ?_, World.there_setCells ht _ _ _, h1, h2, h3.mono (fun _ h => h) (fun b hb => by rw [hb]; exact setCells_other rb _ _ _ sb hne)⟩
  have := range_set (b := rb) (o := 0) (k := 0) (cs := [u, .bool false]) (v := .slice ad l.length c) hr (there_in ht (by omega))
  simpa using this

/-! ### Running out -/
def failM (R : RN) (z : MVal) (res t : Nat) : MCode :=
  .sq (.rg [.mv t (.t 0), .nc (t + 1) t, .fa (t + 2) R.tR (t + 1) 1, .stc R.T.bool (t + 2) (.bool true)])
    (.sq (.rg [.mv (t + 3) (.t 0), .nc (t + 4) (t + 3), .fa (t + 5) R.tR (t + 4) 0, .stc R.T.u8s (t + 5) .nslice]) (.sq (.rg [.mv res (.c z)]) .rt))

theorem fail_ok {z : MVal} {res t : Nat} (ok : ROK P R) (h : RdAt w rb sb st) (h0 : ρ 0 = .pointer (some ⟨rb, 0, none⟩)) (hres : res < t) (ht : 0 < t) (hN : t + 6 ≤ N)
    (hQ : ∀ ρ' w', ρ' res = z.val → RdAt w' rb sb none → Fr (fun _ => False) rb 0 2 w w' → Q .ret ρ' w') : RW P N (failM R z res t) Q ρ w := by
  obtain ⟨ad, c, h1, h2, _⟩ := h.all
  unfold failM
  refine RW.sq (RW.rg (RL.step (MR.mv h0 (ltT (by omega))) (RL.step (MR.nc (upd_same _ _ _) (by omega)) (RL.step (MR.fa (upd_same _ _ _) ok.f1 (by omega)) (RL.stc (b := rb) (o := 0 + 1) (upd_same _ _ _) ok.cb (there_in h2 (by omega)) (RL.nil ?_) (by omega)) (by omega)) (by omega)) (by omega)))
  have e1 := range_set (k := 1) (v := (MVal.bool true).val) h1 (there_in h2 (by omega))
  have t1 : (w.setCells rb (0 + 1) [(MVal.bool true).val]).there rb 0 2 := World.there_setCells h2 _ _ _
  refine RW.sq (RW.rg (RL.step (MR.mv (v := .pointer (some ⟨rb, 0, none⟩)) (by show upd _ _ _ 0 = _; rw [upd_ne _ _ (by omega), upd_ne _ _ (by omega), upd_ne _ _ (by omega)]; exact h0) (ltT (by omega))) (RL.step (MR.nc (upd_same _ _ _) (by omega)) (RL.step (MR.fa (upd_same _ _ _) ok.f0 (by omega)) (RL.stc (b := rb) (o := 0 + 0) (upd_same _ _ _) ok.cs (there_in t1 (by omega)) (RL.nil ?_) (by omega)) (by omega)) (by omega)) (by omega)))
  have e2 := range_set (k := 0) (v := MVal.nslice.val) e1 (there_in t1 (by omega))
  refine RW.sq (RW.rg (RL.step MR.mv (RL.nil (RW.rt ?_)) (by omega)))
  refine hQ _ _ (upd_same _ _ _) ⟨?_, World.there_setCells t1 _ _ _⟩ ?_
  · exact e2
  · exact (Fr.put _ (by omega) (by simp)).trans (Fr.put _ (by omega) (by simp))
end
end Go.Kx
namespace Go.Kx
open Go.RowKit
set_option linter.unusedSimpArgs false
set_option linter.unusedVariables false

def beTail (R : RN) (tu kk : Nat) : (n j t i acc : Nat) → List GOp
  | 0, _, _, i, acc => [⟨i, none, .mv 4 (.t acc)⟩]
  | n + 1, j, t, i, acc => ⟨i, none, .mv t (.t 1)⟩ :: ⟨i + 1, none, .iak (t + 1) R.T.u8s t (kk - 1 - j)⟩ :: ⟨i + 2, none, .ld (t + 2) R.T.u8 (t + 1)⟩ :: ⟨i + 3, none, .cv (t + 3) R.T.u8 tu (t + 2)⟩ ::
      ⟨i + 4, none, .b2 (t + 4) .shl (.t (t + 3)) (.c (.int .u64 ((8 * j : Nat) : Int)))⟩ :: ⟨i + 5, none, .bi (t + 5) .or tu (.t acc) (.t (t + 4))⟩ :: beTail R tu kk n (j + 1) (t + 6) (i + 6) (t + 5)

def cBe (R : RN) (tu kk : Nat) (k : IntKind) : MCode :=
  .sq (.rg [.bx 2 R.tBE 0, .mv 4 (.c (.int k 0))]) (.sq (.rg [.mv 5 (.t 1), .iak 6 R.T.u8s 5 (kk - 1), .ld 7 R.T.u8 6])
    (.sq (.gr true (⟨0, none, .mv 8 (.t 1)⟩ :: ⟨1, none, .iak 9 R.T.u8s 8 (kk - 1)⟩ :: ⟨2, none, .ld 10 R.T.u8 9⟩ :: ⟨3, none, .cv 11 R.T.u8 tu 10⟩ :: beTail R tu kk (kk - 1) 1 12 4 11)) .rt))

/-- An unsigned kind of n octets. -/
structure KU (k : IntKind) (n : Nat) : Prop where
  bits : k.bits = 8 * n
  wr : ∀ x : Nat, x < 256 ^ n → k.wrap (x : Int) = x
  or_ : ∀ a b : Nat, a < 256 ^ n → b < 256 ^ n → k.wrap ((BitVec.ofInt k.bits (a : Int) ||| BitVec.ofInt k.bits (b : Int)).toNat : Int) = ((a ||| b : Nat) : Int)

theorem ku16 : KU .u16 2 := ⟨rfl, fun x h => wrap_u16n (by simpa using h), fun a b ha hb => or_u16 (by simpa using ha) (by simpa using hb)⟩
theorem ku32 : KU .u32 4 := ⟨rfl, fun x h => wrap_u32n (by simpa using h), fun a b ha hb => or_u32 (by simpa using ha) (by simpa using hb)⟩
theorem ku64 : KU .u64 8 := ⟨rfl, fun x h => wrap_u64n (by simpa using h), fun a b ha hb => or_u64 (by simpa using ha) (by simpa using hb)⟩

theorem beVal_cons (b : UInt8) (l : List UInt8) : beVal (b :: l) = b.toNat * 256 ^ l.length + beVal l := by
  have h : ∀ (l : List UInt8) (a : Nat), l.foldl (fun a b => a * 256 + b.toNat) a = a * 256 ^ l.length + l.foldl (fun a b => a * 256 + b.toNat) 0 := by
    intro l
    induction l with
    | nil => intro a; simp
    | cons x l ih =>
      intro a
      simp only [List.foldl_cons, List.length_cons]
      rw [ih (a * 256 + x.toNat), ih (0 * 256 + x.toNat), Nat.pow_succ, Nat.add_mul, Nat.zero_mul, Nat.zero_add, Nat.mul_assoc, Nat.mul_comm 256 (256 ^ l.length)]
      omega
  show (b :: l).foldl (fun a b => a * 256 + b.toNat) 0 = _
  rw [List.foldl_cons, h]; simp [beVal]

section
variable {P : Program} {N : Nat} {Q : Exit → (Nat → Value) → World → Prop} {ρ : Nat → Value} {w w' : World} {R : RN}

theorem be_tail {tu kk : Nat} {k : IntKind} {S : World → Prop} {l : List UInt8} {g o c : Nat} (ok : ROK P R) (ku : KU k kk) (htu : intTy P tu k = true) (hl : kk ≤ l.length)
    (hS : ∀ w', S w' → ∀ (j : Nat) (b : UInt8), l[j]? = some b → w'.cell? ⟨g, o + j, none⟩ = some (byteV b)) :
    ∀ (n j t i acc : Nat) (ρ : Nat → Value), n + j = kk → 1 ≤ j → 4 < t → acc < t → 4 < acc → t + 6 * n ≤ N → ρ 1 = .slice (some ⟨g, o, none⟩) l.length c → ρ acc = .int k (beVal ((l.take kk).drop (kk - j)) : Nat) →
    (∀ ρ', ρ' 4 = .int k (beVal (l.take kk) : Nat) → S w → Q .normal ρ' w) → RG P N (beTail R tu kk n j t i acc) Q S ρ w
  | 0, j, t, i, acc, ρ, hn, hj, h4, ha, h4a, hN, h1, hacc, hQ => by
    unfold beTail
    refine RG.q (fun _ _ => MR.mv hacc (ltT (by omega))) (RG.nil fun h => hQ _ ?_ h) rfl rfl (by omega)
    rw [upd_same, show kk - j = 0 from by omega, List.drop_zero]
  | n + 1, j, t, i, acc, ρ, hn, hj, h4, ha, h4a, hN, h1, hacc, hQ => by
    unfold beTail
    obtain ⟨y, hy⟩ : ∃ y, l[kk - 1 - j]? = some y := ⟨_, List.getElem?_eq_getElem (by omega)⟩
    have hlen : (l.take kk).length = kk := by rw [List.length_take]; omega
    have hstep : beVal ((l.take kk).drop (kk - (j + 1))) = y.toNat * 256 ^ j + beVal ((l.take kk).drop (kk - j)) := by
      have e1 : (l.take kk)[kk - (j + 1)]? = some y := by rw [List.getElem?_take, if_pos (by omega), show kk - (j + 1) = kk - 1 - j from by omega]; exact hy
      have e2 : (l.take kk).drop (kk - (j + 1)) = y :: (l.take kk).drop (kk - j) := by
        obtain ⟨hlt, e3⟩ := List.getElem?_eq_some_iff.1 e1
        rw [List.drop_eq_getElem_cons hlt, e3, show kk - (j + 1) + 1 = kk - j from by omega]
      rw [e2, beVal_cons, List.length_drop, hlen, show kk - (kk - j) = j from by omega]
    have hacc_lt : beVal ((l.take kk).drop (kk - j)) < 256 ^ j := by
      have := beVal_lt ((l.take kk).drop (kk - j))
      rwa [List.length_drop, hlen, show kk - (kk - j) = j from by omega] at this
    have hp : 256 ^ (j + 1) ≤ 256 ^ kk := Nat.pow_le_pow_right (by omega) (by omega)
    have hyl : y.toNat < 256 := y.toNat_lt
    have hsum : y.toNat * 256 ^ j + beVal ((l.take kk).drop (kk - j)) < 256 ^ (j + 1) := by rw [Nat.pow_succ]; have : (y.toNat + 1) * 256 ^ j ≤ 256 * 256 ^ j := Nat.mul_le_mul_right _ (by omega); rw [Nat.add_mul] at this; omega
    have hj1 : 256 ^ j ≤ 256 ^ kk := Nat.pow_le_pow_right (by omega) (by omega)
    have hk1 : 1 ≤ kk := by omega
    have h256 : 256 ≤ 256 ^ kk := by have := Nat.pow_le_pow_right (n := 256) (by omega) hk1; simpa using this
    refine RG.q (fun _ _ => MR.mv h1 (ltT (by omega))) ?_ rfl rfl (by omega)
    refine RG.q (fun _ _ => MR.iak (sz := 1) ok.tk.u8s ok.cu (upd_same _ _ _) (by omega) (by omega)) ?_ rfl rfl (by omega)
    refine RG.q (fun w' h => MR.ld (upd_same _ _ _) ok.pu (by rw [Nat.mul_one]; exact hS w' h _ y hy) (by omega)) ?_ rfl rfl (by omega)
    refine RG.q (fun _ _ => MR.cvI (upd_same _ _ _) ok.tk.u8i htu (by omega)) ?_ rfl rfl (by omega)
    have ew : k.wrap (y.toNat : Int) = y.toNat := ku.wr _ (by omega)
    have esh : k.wrap ((y.toNat : Int) * 2 ^ (min (((8 * j : Nat) : Int)).toNat k.bits)) = ((y.toNat * 256 ^ j : Nat) : Int) := by
      rw [ku.bits, show ((8 * j : Nat) : Int).toNat = 8 * j from by omega, Nat.min_eq_left (by omega)]
      have e1 : ((y.toNat : Int) * 2 ^ (8 * j)) = ((y.toNat * 256 ^ j : Nat) : Int) := by
        rw [Nat.pow_mul' 2 8 j |>.symm |> fun _ => show (256 : Nat) ^ j = 2 ^ (8 * j) from by rw [Nat.pow_mul]]
        push_cast; rfl
      rw [e1]
      exact ku.wr _ (by omega)
    refine RG.q (v := .int k ((y.toNat * 256 ^ j : Nat) : Int)) (fun _ _ => MR.b2 (by
      show evB .shl (upd _ (t + 3) _ (t + 3)) (.int .u64 ((8 * j : Nat) : Int)) = _
      rw [upd_same, ew]
      simp only [evB]
      rw [if_pos (by omega), esh]) (ltT (by omega)) rfl) ?_ rfl rfl (by omega)
    have hor : k.wrap ((BitVec.ofInt k.bits ((beVal ((l.take kk).drop (kk - j)) : Nat) : Int) ||| BitVec.ofInt k.bits ((y.toNat * 256 ^ j : Nat) : Int)).toNat : Int) = ((beVal ((l.take kk).drop (kk - (j + 1))) : Nat) : Int) := by
      rw [ku.or_ _ _ (by omega) (by omega), show (256 : Nat) ^ j = 2 ^ (8 * j) from by rw [Nat.pow_mul], or_add (by rw [show (2 : Nat) ^ (8 * j) = 256 ^ j from by rw [Nat.pow_mul]]; exact hacc_lt), hstep, Nat.add_comm, show (256 : Nat) ^ j = 2 ^ (8 * j) from by rw [Nat.pow_mul]]
    refine RG.q (v := .int k ((beVal ((l.take kk).drop (kk - (j + 1))) : Nat) : Int)) (fun _ _ => MR.biE (by
      show evB .or (upd _ (t + 4) _ acc) (upd _ (t + 4) _ (t + 4)) = _
      rw [upd_same, upd_ne _ _ (by omega), upd_ne _ _ (by omega), upd_ne _ _ (by omega), upd_ne _ _ (by omega), upd_ne _ _ (by omega), hacc]
      simp only [evB, if_true]
      rw [hor]) (ltT (by omega)) (ltT (by omega))) ?_ rfl rfl (by omega)
    refine be_tail (c := c) ok ku htu hl hS n (j + 1) (t + 6) (i + 6) (t + 5) _ (by omega) (by omega) (by omega) (by omega) (by omega) (by omega) ?_ (upd_same _ _ _) hQ
    rw [upd_ne _ _ (by omega), upd_ne _ _ (by omega), upd_ne _ _ (by omega), upd_ne _ _ (by omega), upd_ne _ _ (by omega), upd_ne _ _ (by omega)]; exact h1

def BeC (P : Program) (f kk : Nat) (k : IntKind) : Prop := entersB P f = true ∧ ∀ (w : World) (ad : Option Addr) (l : List UInt8) (c : Nat), BytesAt w (fun _ => True) ad l → kk ≤ l.length →
  Calls P f #[.agg #[], .slice ad l.length c] w (fun e w' => e = .returned (.int k (beVal (l.take kk) : Nat)) ∧ Below w.heap.size w w')

theorem be_ok {f tu kk : Nat} {k : IntKind} (ok : ROK P R) (ku : KU k kk) (htu : intTy P tu k = true) (hk1 : 1 ≤ kk) (hf : FnIs P f (cBe R tu kk k) (6 * kk + 6) 4) : BeC P f kk k := by
  refine ⟨hf.ent, fun w ad l c hb hl => ?_⟩
  obtain ⟨y, hy⟩ : ∃ y, l[kk - 1]? = some y := ⟨_, List.getElem?_eq_getElem (by omega)⟩
  obtain ⟨g, o, rfl, _, hyc⟩ := hb _ y hy
  have hall : ∀ (j : Nat) (b : UInt8), l[j]? = some b → w.cell? ⟨g, o + j, none⟩ = some (byteV b) := fun j b hj => by
    obtain ⟨g', o', e, _, hc⟩ := hb j b hj
    cases e; exact hc
  refine hf.runs (args := [.agg #[], .slice (some ⟨g, o, none⟩) l.length c]) (by simp) (by omega) ?_
  have b0 := below_box w (.cells #[] R.tBE)
  refine RW.sq (RW.rg (RL.step (MR.bx (by omega)) (RL.step MR.mv (RL.nil ?_) (by omega)) (by omega)))
  show RW P _ _ _ _ (w.alloc (.cells #[] R.tBE))
  refine RW.sq (RW.rg (RL.step (MR.mv (v := .slice (some ⟨g, o, none⟩) l.length c) rfl (ltT (by omega))) (RL.step (MR.iak (sz := 1) ok.tk.u8s ok.cu (upd_same _ _ _) (by omega) (by omega)) (RL.step (MR.ld (v := byteV y) (upd_same _ _ _) ok.pu (by rw [Nat.mul_one]; exact b0.kp _ _ hyc) (by omega)) (RL.nil ?_) (by omega)) (by omega)) (by omega)))
  refine RW.sq (RW.gd ok.mo (Below w.heap.size w) (b0.trans ((below_drew1 _ _).mono b0.size)) ?_)
  have hSc : ∀ w', Below w.heap.size w w' → ∀ (j : Nat) (b : UInt8), l[j]? = some b → w'.cell? ⟨g, o + j, none⟩ = some (byteV b) := fun w' h j b hj => h.kp _ _ (hall j b hj)
  refine RG.q (fun _ _ => MR.mv (v := .slice (some ⟨g, o, none⟩) l.length c) rfl (ltT (by omega))) ?_ rfl rfl (by omega)
  refine RG.q (fun _ _ => MR.iak (sz := 1) ok.tk.u8s ok.cu (upd_same _ _ _) (by omega) (by omega)) ?_ rfl rfl (by omega)
  refine RG.q (fun w' h => MR.ld (upd_same _ _ _) ok.pu (by rw [Nat.mul_one]; exact hSc w' h _ y hy) (by omega)) ?_ rfl rfl (by omega)
  refine RG.q (fun _ _ => MR.cvI (upd_same _ _ _) ok.tk.u8i htu (by omega)) ?_ rfl rfl (by omega)
  refine be_tail (l := l) (g := g) (o := o) (c := c) ok ku htu hl hSc (kk - 1) 1 12 4 11 _ (by omega) (by omega) (by omega) (by omega) (by omega) (by omega) rfl ?_ fun ρ' h4 hS => ?_
  · rw [upd_same]
    have hlen : (l.take kk).length = kk := by rw [List.length_take]; omega
    have e1 : (l.take kk)[kk - 1]? = some y := by rw [List.getElem?_take, if_pos (by omega)]; exact hy
    obtain ⟨hlt, e3⟩ := List.getElem?_eq_some_iff.1 e1
    have h256 : 256 ≤ 256 ^ kk := by have := Nat.pow_le_pow_right (n := 256) (by omega) hk1; simpa using this
    have hyl : y.toNat < 256 := y.toNat_lt
    rw [List.drop_eq_getElem_cons hlt, e3, List.drop_eq_nil_of_le (by omega), beVal_cons]
    show Value.int k (k.wrap (y.toNat : Int)) = _
    rw [ku.wr _ (by omega)]
    simp [beVal]
  · exact RW.rt ⟨by rw [h4], hS⟩
end
end Go.Kx
namespace Go.Kx
open Go.RowKit
set_option linter.unusedSimpArgs false
set_option linter.unusedVariables false

/-- What a function of the reader does: it reads as d says, yields V of it; where it cannot: some V, and the reader has run out. -/
def RdN (P : Program) (f : Nat) {α : Type} [Inhabited α] (d : Dec α) (V : α → Value) : Prop := entersB P f = true ∧ ∀ (w : World) (rb sb : Nat) (st : Option (List UInt8)), RdAt w rb sb st → sb ≠ rb →
  Calls P f #[.pointer (some ⟨rb, 0, none⟩)] w (fun e w' => Fr (fun _ => False) rb 0 2 w w' ∧ ((∃ x r, st.bind d = some (x, r) ∧ e = .returned (V x) ∧ RdAt w' rb sb (some r)) ∨ (st.bind d = none ∧ e = .returned (V default) ∧ RdAt w' rb sb none)))

/-- So too; where octets are left the slice has a place. -/
def RdNS (P : Program) (f : Nat) {α : Type} [Inhabited α] (d : Dec α) (V : α → Value) : Prop := entersB P f = true ∧ ∀ (w : World) (rb sb : Nat) (st : Option (List UInt8)), RdAt w rb sb st → sb ≠ rb →
  Calls P f #[.pointer (some ⟨rb, 0, none⟩)] w (fun e w' => Fr (fun _ => False) rb 0 2 w w' ∧ ((∃ x r, st.bind d = some (x, r) ∧ e = .returned (V x) ∧ RdAt w' rb sb (some r) ∧ AdS w' rb) ∨ (st.bind d = none ∧ e = .returned (V default) ∧ RdAt w' rb sb none)))
theorem RdNS.n {P : Program} {f : Nat} {α : Type} [Inhabited α] {d : Dec α} {V : α → Value} (h : RdNS P f d V) : RdN P f d V := by
  refine ⟨h.1, fun w rb sb st hr hne => Calls.mono (h.2 w rb sb st hr hne) ?_⟩
  rintro e w' ⟨hF, ⟨x, r, g1, g2, g3, _⟩ | g⟩
  · exact ⟨hF, .inl ⟨x, r, g1, g2, g3⟩⟩
  · exact ⟨hF, .inr g⟩

def headR (R : RN) (n : Nat) (z : MVal) : List MOp := [.mv 4 (.t 0), .nc 5 4, .fa 6 R.tR 5 0, .ld 7 R.T.u8s 6, .ln 8 R.T.u8s 7, .bi 9 .lss R.T.int (.t 8) (.c (.int .i64 n))]
def nextR (R : RN) (n t : Nat) : List MOp := [.mv t (.t 0), .mv (t + 1) (.t 0), .nc (t + 2) (t + 1), .fa (t + 3) R.tR (t + 2) 0, .ld (t + 4) R.T.u8s (t + 3), .sl (t + 5) R.T.u8s (t + 4) (some (.c (.int .i64 n))) none none, .nc (t + 6) t, .fa (t + 7) R.tR (t + 6) 0, .st R.T.u8s (t + 7) (t + 5)]

def cNumC (R : RN) (n be tu ts : Nat) (k : IntKind) : MCode :=
  .sq (.rg [.mv 2 (.c (.int k 0))]) (.sq (.sq (.rg (headR R n (.int k 0))) (.cd 9 (failM R (.int k 0) 2 10) .sk))
    (.sq (.gr true [⟨0, none, .lg 16 R.tBE R.gBE⟩, ⟨1, none, .mv 17 (.t 0)⟩, ⟨2, none, .nc 18 17⟩, ⟨3, none, .fa 19 R.tR 18 0⟩, ⟨4, none, .ld 20 R.T.u8s 19⟩, ⟨5, none, .ca 21 be [.t 16, .t 20]⟩, ⟨6, none, .cv 22 tu ts 21⟩, ⟨7, none, .mv 3 (.t 22)⟩])
    (.sq (.rg (nextR R n 23)) (.sq (.rg [.mv 31 (.t 3), .mv 2 (.t 31)]) .rt))))
def cNumU (R : RN) (n be : Nat) (k : IntKind) : MCode :=
  .sq (.rg [.mv 2 (.c (.int k 0))]) (.sq (.sq (.rg (headR R n (.int k 0))) (.cd 9 (failM R (.int k 0) 2 10) .sk))
    (.sq (.gr true [⟨0, none, .lg 16 R.tBE R.gBE⟩, ⟨1, none, .mv 17 (.t 0)⟩, ⟨2, none, .nc 18 17⟩, ⟨3, none, .fa 19 R.tR 18 0⟩, ⟨4, none, .ld 20 R.T.u8s 19⟩, ⟨5, none, .ca 21 be [.t 16, .t 20]⟩, ⟨6, none, .mv 3 (.t 21)⟩])
    (.sq (.rg (nextR R n 22)) (.sq (.rg [.mv 30 (.t 3), .mv 2 (.t 30)]) .rt))))

section
variable {P : Program} {N : Nat} {Q : Exit → (Nat → Value) → World → Prop} {ρ : Nat → Value} {w w' : World} {ms : List MOp} {R : RN} {rb sb : Nat} {st : Option (List UInt8)}

theorem next_okS {n t : Nat} {l : List UInt8} (ok : ROK P R) (h : RdAt w rb sb (some l)) (hne : sb ≠ rb) (hn : n ≤ l.length) (h0 : ρ 0 = .pointer (some ⟨rb, 0, none⟩)) (ht : 0 < t) (hN : t + 8 ≤ N)
    (hQ : ∀ ρ' w', (∀ s, s < t → ρ' s = ρ s) → RdAt w' rb sb (some (l.drop n)) → Fr (fun _ => False) rb 0 2 w w' → (1 ≤ n → AdS w' rb) → Q .normal ρ' w') : RL P N (nextR R n t) Q ρ w := by
  obtain ⟨ad, c, h1, h2, h3, h4, h5⟩ := h
  obtain ⟨ad', g1, g2, g3, _, g5⟩ := run_sliceFromS (P := P) (w := w) ok.tk.u8s ok.cu h3 hn h4
  unfold nextR
  refine RL.step (MR.mv h0 (ltT (by omega))) (RL.step (MR.mv (v := .pointer (some ⟨rb, 0, none⟩)) (by show upd _ _ _ 0 = _; rw [upd_ne _ _ (by omega)]; exact h0) (ltT (by omega))) (RL.step (MR.nc (upd_same _ _ _) (by omega)) (RL.step (MR.fa (upd_same _ _ _) ok.f0 (by omega))
    (RL.step (MR.ld (upd_same _ _ _) ok.ps (h1 0 _ rfl) (by omega)) (RL.step (MR.sl (v := .slice ad' (l.length - n) (c - n)) (by rw [upd_same]; exact g1) (by simp [MX.lt]) (by simp) (by simp) (by omega)) (RL.step (MR.nc (p := ⟨rb, 0, none⟩) ?_ (by omega)) (RL.step (MR.fa (upd_same _ _ _) ok.f0 (by omega))
      (RL.st1 (v := .slice ad' (l.length - n) (c - n)) (b := rb) (o := 0 + 0) (upd_same _ _ _) ?_ rfl ok.cs (there_in h2 (by omega)) (RL.nil ?_) (by omega) (by omega)) (by omega)) (by omega)) (by omega)) (by omega)) (by omega)) (by omega)) (by omega)) (by omega)
  · rw [upd_ne _ _ (by omega), upd_ne _ _ (by omega), upd_ne _ _ (by omega), upd_ne _ _ (by omega), upd_ne _ _ (by omega), upd_same]
  · rw [upd_ne _ _ (by omega), upd_ne _ _ (by omega), upd_same]
  · refine hQ _ _ (fun s hs => ?_) ?_ (Fr.put _ (by omega) (by simp)) (fun h1n => ?_)
    · rw [upd_ne _ _ (by omega), upd_ne _ _ (by omega), upd_ne _ _ (by omega), upd_ne _ _ (by omega), upd_ne _ _ (by omega), upd_ne _ _ (by omega), upd_ne _ _ (by omega), upd_ne _ _ (by omega)]
    · have := RdAt.put (l := l.drop n) (ad := ad') (c := c - n) h1 h2 rfl g2 (by rw [List.length_drop]; omega) (g3 rfl h5) hne
      rw [List.length_drop] at this
      exact this
    · obtain ⟨x, hx⟩ : ∃ x, l[0]? = some x := ⟨_, List.getElem?_eq_getElem (by omega)⟩
      obtain ⟨g, o, e, _⟩ := h5 0 x hx
      obtain ⟨a', e'⟩ := g5 _ e
      subst e'
      have ht0 : w.there rb (0 + 0) 1 := there_in h2 (by omega)
      exact ⟨a', _, _, World.rangeAt_setCells_same w rb (0 + 0) [.slice (some a') (l.length - n) (c - n)] ht0 0 _ rfl⟩

theorem next_ok {n t : Nat} {l : List UInt8} (ok : ROK P R) (h : RdAt w rb sb (some l)) (hne : sb ≠ rb) (hn : n ≤ l.length) (h0 : ρ 0 = .pointer (some ⟨rb, 0, none⟩)) (ht : 0 < t) (hN : t + 8 ≤ N)
    (hQ : ∀ ρ' w', (∀ s, s < t → ρ' s = ρ s) → RdAt w' rb sb (some (l.drop n)) → Fr (fun _ => False) rb 0 2 w w' → Q .normal ρ' w') : RL P N (nextR R n t) Q ρ w :=
  next_okS ok h hne hn h0 ht hN fun ρ' w' a b c _ => hQ ρ' w' a b c

theorem head_ok {n : Nat} {z : MVal} (ok : ROK P R) (h : RdAt w rb sb st) (h0 : ρ 0 = .pointer (some ⟨rb, 0, none⟩)) (hN : 16 ≤ N) (hn : 1 ≤ n)
    (hbad : (stL st).length < n → ∀ ρ' w', ρ' 2 = z.val → RdAt w' rb sb none → Fr (fun _ => False) rb 0 2 w w' → Q .ret ρ' w')
    (hgood : ∀ l, st = some l → n ≤ l.length → ∀ ρ', (∀ s, s < 4 → ρ' s = ρ s) → Q .normal ρ' w) : RW P N (.sq (.rg (headR R n z)) (.cd 9 (failM R z 2 10) .sk)) Q ρ w := by
  obtain ⟨ad, c, h1, h2, h3, h4, h5⟩ := h.all
  unfold headR
  refine RW.sq (RW.rg (RL.step (MR.mv h0 (ltT (by omega))) (RL.step (MR.nc (upd_same _ _ _) (by omega)) (RL.step (MR.fa (upd_same _ _ _) ok.f0 (by omega)) (RL.step (MR.ld (upd_same _ _ _) ok.ps (h1 0 _ rfl) (by omega)) (RL.step (MR.ln ok.tk.u8s (upd_same _ _ _) (by omega))
    (RL.step (MR.biE (v := .bool (decide (((stL st).length : Int) < (n : Int)))) rfl (ltT (by omega)) rfl) (RL.nil ?_) (by omega)) (by omega)) (by omega)) (by omega)) (by omega)) (by omega)))
  refine RW.cd (upd_same _ _ _) (fun e => ?_) (fun e => RW.sk ?_) (by omega)
  · have hlt : (stL st).length < n := by have := of_decide_eq_true e; omega
    exact fail_ok ok h (by rw [upd_ne _ _ (by omega), upd_ne _ _ (by omega), upd_ne _ _ (by omega), upd_ne _ _ (by omega), upd_ne _ _ (by omega), upd_ne _ _ (by omega)]; exact h0) (by omega) (by omega) (by omega) (hbad hlt)
  · have hge : ¬ (stL st).length < n := by have := of_decide_eq_false e; omega
    cases st with
    | none => exact absurd (show (stL none).length < n from by simp [stL]; omega) hge
    | some l =>
      exact hgood l rfl (by simpa [stL] using hge) _ (fun s hs => by rw [upd_ne _ _ (by omega), upd_ne _ _ (by omega), upd_ne _ _ (by omega), upd_ne _ _ (by omega), upd_ne _ _ (by omega), upd_ne _ _ (by omega)])

theorem takeN_none {k : Nat} {l : List UInt8} (h : l.length < k) : takeN k l = none := by unfold takeN; rw [if_neg (by omega)]
theorem takeN_yes {k : Nat} {l : List UInt8} (h : k ≤ l.length) : takeN k l = some (l.take k, l.drop k) := by unfold takeN; rw [if_pos h]
theorem Dec.map_none {α β : Type} {d : Dec α} {f : α → β} {l : List UInt8} (h : d l = none) : d.map f l = none := by simp [Dec.map, h]
theorem Dec.bind_none {α β : Type} {d : Dec α} {f : α → Dec β} {l : List UInt8} (h : d l = none) : d.bind f l = none := by simp [Dec.bind, h]

theorem st_none {α : Type} {d : Dec α} {n : Nat} (hd : ∀ l, l.length < n → d l = none) (h : (stL st).length < n) : st.bind d = none := by
  cases st with
  | none => rfl
  | some l => exact hd l h

/-- The drawn region's first part: the octets are handed to BigEndian's function. -/
theorem numC_okS {f n tu ts : Nat} {be : Nat} {k0 k : IntKind} (ok : ROK P R) (hbe : BeC P be n k0) (hn : 1 ≤ n) (h1 : intTy P tu k0 = true) (h2 : intTy P ts k = true) (hk : ∀ x : Nat, x < 256 ^ n → k.wrap (x : Int) = sgn n x)
    (hf : FnIs P f (cNumC R n be tu ts k) 32 2) : RdNS P f (dInt n) (fun x => .int k x) := by
  refine ⟨hf.ent, fun w rb sb st h hne => ?_⟩
  refine hf.runs (args := [.pointer (some ⟨rb, 0, none⟩)]) (by simp) (by omega) ?_
  refine RW.sq (RW.rg (RL.step MR.mv (RL.nil (RW.sq (head_ok (n := n) ok h rfl (by omega) hn (fun hlt ρ' w' g1 g2 g3 => ?_) (fun l hl hnl ρ1 hρ => ?_))))))
  · exact ⟨g3, .inr ⟨st_none (fun l hl => Dec.map_none (Dec.map_none (takeN_none hl))) hlt, by rw [g1]; rfl, g2⟩⟩
  · subst hl
    obtain ⟨ad, c, r1, r2, r3, r4, r5⟩ := h
    show RW P 32 _ _ ρ1 w
    have q0 : ρ1 0 = .pointer (some ⟨rb, 0, none⟩) := by rw [hρ 0 (by omega)]; rfl
    refine RW.sq (RW.gd ok.mo (Below w.heap.size w) (below_drew1 _ _) ?_)
    refine RG.q (v := .agg #[]) (fun w' hS => MR.lg (run_loadAt_row (cs := []) ok.be ok.bn (fun j v hj => by simp at hj))) ?_ rfl rfl (by decide)
    refine RG.q (fun _ _ => MR.mv (v := .pointer (some ⟨rb, 0, none⟩)) (by show upd _ _ _ 0 = _; rw [upd_ne _ _ (by omega)]; exact q0)) (RG.q (fun _ _ => MR.nc rfl) (RG.q (fun _ _ => MR.fa rfl ok.f0) (RG.q (fun w' hS => MR.ld rfl ok.ps (hS.kp _ _ (r1 0 _ rfl))) ?_)))
    refine RG.ca (R := fun v w' => v = .int k0 (beVal (l.take n) : Nat) ∧ Below w.heap.size w w') hbe.1 (fun h0 => ?_) ?_
    · refine Calls.mono (hbe.2 (World.drew1 w) ad l c (r5.any.kp (drew1_kp w)) hnl) ?_
      rintro e w' ⟨rfl, hb⟩
      exact ⟨_, rfl, ⟨rfl, h0.trans (hb.mono h0.size)⟩, h0.trans (hb.mono h0.size)⟩
    rintro v w1 ⟨rfl, b1⟩
    refine RG.q (fun _ _ => MR.cvI rfl h1 h2) (RG.q (fun _ _ => MR.mv) (RG.nil fun _ => ?_))
    have hrb : rb < w.heap.size := World.block_lt_of_cell? w _ (r1 0 _ rfl)
    have F1 : Fr (fun _ => False) rb 0 2 w w1 := Fr.ofBelow b1 hrb
    have h' : RdAt w1 rb sb (some l) := ⟨ad, c, range_keep r1 (b1.block _ hrb), there_keep r2 (b1.block _ hrb), r3, r4, by
      intro j b hj
      obtain ⟨g, o, e, hg, hc⟩ := r5 j b hj
      exact ⟨g, o, e, hg, b1.kp _ _ hc⟩⟩
    refine RW.sq (RW.rg (next_okS ok h' hne hnl (by rw [upd_ne _ _ (by omega), upd_ne _ _ (by omega), upd_ne _ _ (by omega), upd_ne _ _ (by omega), upd_ne _ _ (by omega), upd_ne _ _ (by omega), upd_ne _ _ (by omega), upd_ne _ _ (by omega)]; exact q0) (by omega) (by omega) fun ρ2 w2 k1 k2 k3 k4 => ?_))
    refine RW.sq (RW.rg (RL.step (MR.mv (v := .int k (sgn n (beVal (l.take n)))) ?_) (RL.step MR.mv (RL.nil (RW.rt ?_)))))
    · show ρ2 3 = _
      rw [k1 3 (by omega)]
      show Value.int k (k.wrap ((beVal (l.take n) : Nat) : Int)) = _
      rw [hk _ (by have := beVal_lt (l.take n); rwa [List.length_take, Nat.min_eq_left hnl] at this)]
    · refine ⟨F1.trans k3, .inl ⟨sgn n (beVal (l.take n)), l.drop n, ?_, rfl, k2, k4 hn⟩⟩
      exact Dec.map_of (Dec.map_of (takeN_yes hnl))

theorem numC_ok {f n tu ts : Nat} {be : Nat} {k0 k : IntKind} (ok : ROK P R) (hbe : BeC P be n k0) (hn : 1 ≤ n) (h1 : intTy P tu k0 = true) (h2 : intTy P ts k = true) (hk : ∀ x : Nat, x < 256 ^ n → k.wrap (x : Int) = sgn n x)
    (hf : FnIs P f (cNumC R n be tu ts k) 32 2) : RdN P f (dInt n) (fun x => .int k x) :=
  (numC_okS ok hbe hn h1 h2 hk hf).n

theorem numU_ok {f n : Nat} {be : Nat} {k : IntKind} (ok : ROK P R) (hbe : BeC P be n k) (hn : 1 ≤ n)
    (hf : FnIs P f (cNumU R n be k) 31 2) : RdN P f (dNat n) (fun x => .int k (x : Nat)) := by
  refine ⟨hf.ent, fun w rb sb st h hne => ?_⟩
  refine hf.runs (args := [.pointer (some ⟨rb, 0, none⟩)]) (by simp) (by omega) ?_
  refine RW.sq (RW.rg (RL.step MR.mv (RL.nil (RW.sq (head_ok (n := n) ok h rfl (by omega) hn (fun hlt ρ' w' g1 g2 g3 => ?_) (fun l hl hnl ρ1 hρ => ?_))))))
  · exact ⟨g3, .inr ⟨st_none (fun l hl => Dec.map_none (takeN_none hl)) hlt, by rw [g1]; rfl, g2⟩⟩
  · subst hl
    obtain ⟨ad, c, r1, r2, r3, r4, r5⟩ := h
    show RW P 31 _ _ ρ1 w
    have q0 : ρ1 0 = .pointer (some ⟨rb, 0, none⟩) := by rw [hρ 0 (by omega)]; rfl
    refine RW.sq (RW.gd ok.mo (Below w.heap.size w) (below_drew1 _ _) ?_)
    refine RG.q (v := .agg #[]) (fun w' hS => MR.lg (run_loadAt_row (cs := []) ok.be ok.bn (fun j v hj => by simp at hj))) ?_ rfl rfl (by decide)
    refine RG.q (fun _ _ => MR.mv (v := .pointer (some ⟨rb, 0, none⟩)) (by show upd _ _ _ 0 = _; rw [upd_ne _ _ (by omega)]; exact q0)) (RG.q (fun _ _ => MR.nc rfl) (RG.q (fun _ _ => MR.fa rfl ok.f0) (RG.q (fun w' hS => MR.ld rfl ok.ps (hS.kp _ _ (r1 0 _ rfl))) ?_)))
    refine RG.ca (R := fun v w' => v = .int k (beVal (l.take n) : Nat) ∧ Below w.heap.size w w') hbe.1 (fun h0 => ?_) ?_
    · refine Calls.mono (hbe.2 (World.drew1 w) ad l c (r5.any.kp (drew1_kp w)) hnl) ?_
      rintro e w' ⟨rfl, hb⟩
      exact ⟨_, rfl, ⟨rfl, h0.trans (hb.mono h0.size)⟩, h0.trans (hb.mono h0.size)⟩
    rintro v w1 ⟨rfl, b1⟩
    refine RG.q (fun _ _ => MR.mv) (RG.nil fun _ => ?_)
    have hrb : rb < w.heap.size := World.block_lt_of_cell? w _ (r1 0 _ rfl)
    have F1 : Fr (fun _ => False) rb 0 2 w w1 := Fr.ofBelow b1 hrb
    have h' : RdAt w1 rb sb (some l) := ⟨ad, c, range_keep r1 (b1.block _ hrb), there_keep r2 (b1.block _ hrb), r3, r4, by
      intro j b hj
      obtain ⟨g, o, e, hg, hc⟩ := r5 j b hj
      exact ⟨g, o, e, hg, b1.kp _ _ hc⟩⟩
    refine RW.sq (RW.rg (next_ok ok h' hne hnl (by rw [upd_ne _ _ (by omega), upd_ne _ _ (by omega), upd_ne _ _ (by omega), upd_ne _ _ (by omega), upd_ne _ _ (by omega), upd_ne _ _ (by omega), upd_ne _ _ (by omega)]; exact q0) (by omega) (by omega) fun ρ2 w2 k1 k2 k3 => ?_))
    refine RW.sq (RW.rg (RL.step (MR.mv (v := .int k (beVal (l.take n) : Nat)) ?_) (RL.step MR.mv (RL.nil (RW.rt ?_)))))
    · show ρ2 3 = _
      rw [k1 3 (by omega)]; rfl
    · refine ⟨F1.trans k3, .inl ⟨beVal (l.take n), l.drop n, ?_, rfl, k2⟩⟩
      exact Dec.map_of (takeN_yes hnl)

theorem wrap_sgn16 {x : Nat} (h : x < 256 ^ 2) : IntKind.i16.wrap (x : Int) = sgn 2 x := by
  simp only [Nat.reducePow] at h
  unfold sgn; simp only [Nat.reducePow, Nat.reduceDiv]
  simp [IntKind.wrap, IntKind.signed, IntKind.bits]; split <;> omega
theorem wrap_sgn32 {x : Nat} (h : x < 256 ^ 4) : IntKind.i32.wrap (x : Int) = sgn 4 x := by
  simp only [Nat.reducePow] at h
  unfold sgn; simp only [Nat.reducePow, Nat.reduceDiv]
  simp [IntKind.wrap, IntKind.signed, IntKind.bits]; split <;> omega
theorem wrap_sgn64 {x : Nat} (h : x < 256 ^ 8) : IntKind.i64.wrap (x : Int) = sgn 8 x := by
  simp only [Nat.reducePow] at h
  unfold sgn; simp only [Nat.reducePow, Nat.reduceDiv]
  simp [IntKind.wrap, IntKind.signed, IntKind.bits]; split <;> omega

/-- Int64: readUint64, as a signed number. -/
def cI64 (R : RN) : MCode := .sq (.rg [.mv 2 (.c (.int .i64 0))]) (.sq (.rg [.mv 3 (.t 0), .ca 4 R.r64 [.t 3], .cv 5 R.T.u64 R.T.i64 4, .mv 2 (.t 5)]) .rt)

theorem i64_ok {f : Nat} (ok : ROK P R) (h1 : R.T.u64 ≠ 0) (h2 : R.T.i64 ≠ 0) (hr : RdN P R.r64 (dNat 8) (fun x => .int .u64 (x : Nat))) (hf : FnIs P f (cI64 R) 6 2) : RdN P f (dInt 8) (fun x => .int .i64 x) := by
  refine ⟨hf.ent, fun w rb sb st h hne => ?_⟩
  refine hf.runs (args := [.pointer (some ⟨rb, 0, none⟩)]) (by simp) (by omega) ?_
  refine RW.sq (RW.rg (RL.step MR.mv (RL.nil (RW.sq (RW.rg (RL.step MR.mv (RL.ca (R := fun v w' => Fr (fun _ => False) rb 0 2 w w' ∧ ((∃ x r, st.bind (dNat 8) = some (x, r) ∧ v = .int .u64 (x : Nat) ∧ RdAt w' rb sb (some r)) ∨ (st.bind (dNat 8) = none ∧ v = .int .u64 ((0 : Nat) : Int) ∧ RdAt w' rb sb none))) hr.1 ?_ ?_)))))))
  · refine Calls.mono (hr.2 w rb sb st h hne) ?_
    rintro e w' ⟨hF, ⟨x, r, g1, rfl, g2⟩ | ⟨g1, ⟨x, rfl⟩, g2⟩⟩
    · exact ⟨_, rfl, hF, .inl ⟨x, r, g1, rfl, g2⟩⟩
    · exact ⟨_, rfl, hF, .inr ⟨g1, rfl, g2⟩⟩
  rintro v w1 ⟨hF, ⟨x, r, g1, rfl, g2⟩ | ⟨g1, rfl, g2⟩⟩
  · have hx : x < 256 ^ 8 := by
      cases st with
      | none => simp at g1
      | some l => exact (dNat_some g1).1
    refine RL.step (MR.cvI rfl (ok.tk.u64 h1) (ok.tk.i64 h2)) (RL.step MR.mv (RL.nil (RW.rt ⟨hF, .inl ⟨sgn 8 x, r, ?_, ?_, g2⟩⟩)))
    · cases st with
      | none => simp at g1
      | some l => exact Dec.map_of g1
    · show Ending.returned (Value.int .i64 (IntKind.i64.wrap (x : Int))) = _
      rw [wrap_sgn64 hx]
  · refine RL.step (MR.cvI rfl (ok.tk.u64 h1) (ok.tk.i64 h2)) (RL.step MR.mv (RL.nil (RW.rt ⟨hF, .inr ⟨?_, rfl, g2⟩⟩)))
    cases st with
    | none => rfl
    | some l => exact Dec.map_none g1
end
end Go.Kx
namespace Go.Kx
open Go.RowKit
set_option linter.unusedSimpArgs false
set_option linter.unusedVariables false

/-- A decoder's step, from st: x was read, st' is left; where it fails, nothing is left, x is any. -/
def Got {α : Type} (d : Dec α) (st : Option (List UInt8)) (x : α) : Option (List UInt8) → Prop
  | some r => st.bind d = some (x, r)
  | none => st.bind d = none

section
variable {α β : Type} {d : Dec α} {st st1 st2 : Option (List UInt8)} {x : α} {y : β}
theorem Got.map {f : α → β} (h : Got d st x st1) : Got (d.map f) st (f x) st1 := by
  cases st1 with
  | none => cases st with
    | none => rfl
    | some l => exact Dec.map_none h
  | some r => cases st with
    | none => simp [Got] at h
    | some l => exact Dec.map_of h
theorem Got.bind {k : α → Dec β} (h : Got d st x st1) (h2 : Got (k x) st1 y st2) : Got (d.bind k) st y st2 := by
  cases st1 with
  | none =>
    cases st2 with
    | some r => simp [Got] at h2
    | none => cases st with
      | none => rfl
      | some l => exact Dec.bind_none h
  | some r =>
    cases st with
    | none => simp [Got] at h
    | some l =>
      have e : d.bind k l = k x r := Dec.bind_of h
      cases st2 with
      | some r2 => show d.bind k l = _; rw [e]; exact h2
      | none => show d.bind k l = _; rw [e]; exact h2
theorem Got.pure (x : α) : Got (Dec.pure x) st x st := by cases st <;> rfl
theorem Got.out (h : Got d none x st1) : st1 = none := by cases st1 with | none => rfl | some r => simp [Got] at h
/-- What a failing test after a step makes. -/
theorem Got.bindFail {k : α → Dec β} {y : β} (h : Got d st x st1) (hk : ∀ l, st1 = some l → k x l = none) : Got (d.bind k) st y none := by
  refine Got.bind (st2 := none) h ?_
  cases st1 with
  | none => rfl
  | some l => exact hk l rfl
theorem Got.failed {y : α} (h : ∀ l, st = some l → d l = none) : Got d st y none := by
  cases st with
  | none => rfl
  | some l => exact h l rfl
end

/-- The blocks that what was read may name. -/
def Rb (w : World) (sb : Nat) : Nat → Prop := fun b => b = sb ∨ w.heap.size ≤ b

/-- A call of the reader at block rb. -/
def RdC (P : Program) (f : Nat) {α : Type} (d : Dec α) (R : World → (Nat → Prop) → Value → α → Prop) : Prop := entersB P f = true ∧ ∀ (w : World) (rb sb : Nat) (st : Option (List UInt8)), RdAt w rb sb st → sb ≠ rb →
  Calls P f #[.pointer (some ⟨rb, 0, none⟩)] w (fun e w' => ∃ v x st', e = .returned v ∧ Fr (fun _ => False) rb 0 2 w w' ∧ Got d st x st' ∧ RdAt w' rb sb st' ∧ R w' (Rb w sb) v x)

/-- A value that needs no block; what is known of the number. -/
def PlB {α : Type} (V : α → Value) (B : α → Prop) : World → (Nat → Prop) → Value → α → Prop := fun _ _ v x => v = V x ∧ B x

theorem RdN.c {P : Program} {f : Nat} {α : Type} [Inhabited α] {d : Dec α} {V : α → Value} {B : α → Prop} (h : RdN P f d V) (hB : ∀ l x r, d l = some (x, r) → B x) (h0 : B default) : RdC P f d (PlB V B) := by
  refine ⟨h.1, fun w rb sb st hr hne => Calls.mono (h.2 w rb sb st hr hne) ?_⟩
  rintro e w' ⟨hF, ⟨x, r, g1, rfl, g2⟩ | ⟨g1, rfl, g2⟩⟩
  · refine ⟨_, x, some r, rfl, hF, g1, g2, rfl, ?_⟩
    cases st with
    | none => simp at g1
    | some l => exact hB l x r g1
  · exact ⟨_, default, none, rfl, hF, g1, g2, rfl, h0⟩

/-- As RdC; where octets are left the slice has a place. -/
def RdCS (P : Program) (f : Nat) {α : Type} (d : Dec α) (R : World → (Nat → Prop) → Value → α → Prop) : Prop := entersB P f = true ∧ ∀ (w : World) (rb sb : Nat) (st : Option (List UInt8)), RdAt w rb sb st → sb ≠ rb →
  Calls P f #[.pointer (some ⟨rb, 0, none⟩)] w (fun e w' => ∃ v x st', e = .returned v ∧ Fr (fun _ => False) rb 0 2 w w' ∧ Got d st x st' ∧ RdAt w' rb sb st' ∧ R w' (Rb w sb) v x ∧ (st' ≠ none → AdS w' rb))
theorem RdCS.n {P : Program} {f : Nat} {α : Type} {d : Dec α} {R : World → (Nat → Prop) → Value → α → Prop} (h : RdCS P f d R) : RdC P f d R := by
  refine ⟨h.1, fun w rb sb st hr hne => Calls.mono (h.2 w rb sb st hr hne) ?_⟩
  rintro e w' ⟨v, x, st', g1, g2, g3, g4, g5, _⟩
  exact ⟨v, x, st', g1, g2, g3, g4, g5⟩
theorem RdNS.c {P : Program} {f : Nat} {α : Type} [Inhabited α] {d : Dec α} {V : α → Value} {B : α → Prop} (h : RdNS P f d V) (hB : ∀ l x r, d l = some (x, r) → B x) (h0 : B default) : RdCS P f d (PlB V B) := by
  refine ⟨h.1, fun w rb sb st hr hne => Calls.mono (h.2 w rb sb st hr hne) ?_⟩
  rintro e w' ⟨hF, ⟨x, r, g1, rfl, g2, g3⟩ | ⟨g1, rfl, g2⟩⟩
  · refine ⟨_, x, some r, rfl, hF, g1, g2, ⟨rfl, ?_⟩, fun _ => g3⟩
    cases st with
    | none => simp at g1
    | some l => exact hB l x r g1
  · exact ⟨_, default, none, rfl, hF, g1, g2, ⟨rfl, h0⟩, fun e => absurd rfl e⟩

/-- The span of n octets. -/
def SpanC (P : Program) (f : Nat) : Prop := entersB P f = true ∧ ∀ (w : World) (rb sb : Nat) (st : Option (List UInt8)) (n : Int), RdAt w rb sb st → sb ≠ rb →
  Calls P f #[.pointer (some ⟨rb, 0, none⟩), .int .i64 n] w (fun e w' => ∃ ad l st', e = .returned (.slice ad l.length l.length) ∧ Fr (fun _ => False) rb 0 2 w w' ∧ Got (dSpan n) st l st' ∧ RdAt w' rb sb st' ∧ okAd ad ∧ BytesAt w' (· = sb) ad l)

/-- So too: its place. -/
def SpanCS (P : Program) (f : Nat) : Prop := entersB P f = true ∧ ∀ (w : World) (rb sb : Nat) (st : Option (List UInt8)) (n : Int), RdAt w rb sb st → sb ≠ rb →
  Calls P f #[.pointer (some ⟨rb, 0, none⟩), .int .i64 n] w (fun e w' => ∃ ad l st', e = .returned (.slice ad l.length l.length) ∧ Fr (fun _ => False) rb 0 2 w w' ∧ Got (dSpan n) st l st' ∧ RdAt w' rb sb st' ∧ okAd ad ∧ BytesAt w' (· = sb) ad l ∧ (AdS w rb → st' ≠ none → ad ≠ none) ∧ (st' = none → ad = none ∧ l = []))
theorem SpanCS.n {P : Program} {f : Nat} (h : SpanCS P f) : SpanC P f := by
  refine ⟨h.1, fun w rb sb st n hr hne => Calls.mono (h.2 w rb sb st n hr hne) ?_⟩
  rintro e w' ⟨ad, l, st', g1, g2, g3, g4, g5, g6, _⟩
  exact ⟨ad, l, st', g1, g2, g3, g4, g5, g6⟩

section
variable {P : Program} {N : Nat} {Q : Exit → (Nat → Value) → World → Prop} {ρ : Nat → Value} {w w' : World} {ms : List MOp} {R : RN} {rb sb : Nat} {st : Option (List UInt8)}

theorem RL.rd {α : Type} {dec : Dec α} {C : World → (Nat → Prop) → Value → α → Prop} {f d : Nat} {y : MX} (hc : RdC P f dec C) (hx : xof ρ y = .pointer (some ⟨rb, 0, none⟩)) (h : RdAt w rb sb st) (hne : sb ≠ rb) (hy : MX.lt N y = true) (hd : d < N)
    (k : ∀ v x st' w', Fr (fun _ => False) rb 0 2 w w' → Got dec st x st' → RdAt w' rb sb st' → C w' (Rb w sb) v x → RL P N ms Q (upd ρ d v) w') : RL P N (.ca d f [y] :: ms) Q ρ w := by
  refine RL.ca (R := fun v w' => ∃ x st', Fr (fun _ => False) rb 0 2 w w' ∧ Got dec st x st' ∧ RdAt w' rb sb st' ∧ C w' (Rb w sb) v x) hc.1 ?_ ?_ hd (by intro x hx; simp only [List.mem_singleton] at hx; subst hx; exact hy)
  · simp only [List.map_cons, List.map_nil, hx]
    refine Calls.mono (hc.2 w rb sb st h hne) ?_
    rintro e w' ⟨v, x, st', rfl, h1, h2, h3, h4⟩
    exact ⟨v, rfl, x, st', h1, h2, h3, h4⟩
  · rintro v w' ⟨x, st', h1, h2, h3, h4⟩
    exact k v x st' w' h1 h2 h3 h4

theorem RL.rdS {α : Type} {dec : Dec α} {C : World → (Nat → Prop) → Value → α → Prop} {f d : Nat} {y : MX} (hc : RdCS P f dec C) (hx : xof ρ y = .pointer (some ⟨rb, 0, none⟩)) (h : RdAt w rb sb st) (hne : sb ≠ rb) (hy : MX.lt N y = true) (hd : d < N)
    (k : ∀ v x st' w', Fr (fun _ => False) rb 0 2 w w' → Got dec st x st' → RdAt w' rb sb st' → C w' (Rb w sb) v x → (st' ≠ none → AdS w' rb) → RL P N ms Q (upd ρ d v) w') : RL P N (.ca d f [y] :: ms) Q ρ w := by
  refine RL.ca (R := fun v w' => ∃ x st', Fr (fun _ => False) rb 0 2 w w' ∧ Got dec st x st' ∧ RdAt w' rb sb st' ∧ C w' (Rb w sb) v x ∧ (st' ≠ none → AdS w' rb)) hc.1 ?_ ?_ hd (by intro x hx; simp only [List.mem_singleton] at hx; subst hx; exact hy)
  · simp only [List.map_cons, List.map_nil, hx]
    refine Calls.mono (hc.2 w rb sb st h hne) ?_
    rintro e w' ⟨v, x, st', rfl, h1, h2, h3, h4, h5⟩
    exact ⟨v, rfl, x, st', h1, h2, h3, h4, h5⟩
  · rintro v w' ⟨x, st', h1, h2, h3, h4, h5⟩
    exact k v x st' w' h1 h2 h3 h4 h5

theorem RL.span {f d : Nat} {y z : MX} {n : Int} (hc : SpanC P f) (hx : xof ρ y = .pointer (some ⟨rb, 0, none⟩)) (hz : xof ρ z = .int .i64 n) (h : RdAt w rb sb st) (hne : sb ≠ rb) (hy : MX.lt N y = true) (hzN : MX.lt N z = true) (hd : d < N)
    (k : ∀ ad l st' w', Fr (fun _ => False) rb 0 2 w w' → Got (dSpan n) st l st' → RdAt w' rb sb st' → okAd ad → BytesAt w' (· = sb) ad l → RL P N ms Q (upd ρ d (.slice ad l.length l.length)) w') : RL P N (.ca d f [y, z] :: ms) Q ρ w := by
  refine RL.ca (R := fun v w' => ∃ ad l st', v = .slice ad (List.length l) (List.length l) ∧ Fr (fun _ => False) rb 0 2 w w' ∧ Got (dSpan n) st l st' ∧ RdAt w' rb sb st' ∧ okAd ad ∧ BytesAt w' (· = sb) ad l) hc.1 ?_ ?_ hd (by intro x hx; simp only [List.mem_cons, List.not_mem_nil, or_false] at hx; exact hx.elim (fun e => e ▸ hy) (fun e => e ▸ hzN))
  · simp only [List.map_cons, List.map_nil, hx, hz]
    refine Calls.mono (hc.2 w rb sb st n h hne) ?_
    rintro e w' ⟨ad, l, st', rfl, h1⟩
    exact ⟨_, rfl, ad, l, st', rfl, h1⟩
  · rintro v w' ⟨ad, l, st', rfl, h1, h2, h3, h4, h5⟩
    exact k ad l st' w' h1 h2 h3 h4 h5

theorem RL.spanS {f d : Nat} {y z : MX} {n : Int} (hc : SpanCS P f) (hx : xof ρ y = .pointer (some ⟨rb, 0, none⟩)) (hz : xof ρ z = .int .i64 n) (h : RdAt w rb sb st) (hne : sb ≠ rb) (hy : MX.lt N y = true) (hzN : MX.lt N z = true) (hd : d < N)
    (k : ∀ ad l st' w', Fr (fun _ => False) rb 0 2 w w' → Got (dSpan n) st l st' → RdAt w' rb sb st' → okAd ad → BytesAt w' (· = sb) ad l → (AdS w rb → st' ≠ none → ad ≠ none) → (st' = none → ad = none ∧ l = []) → RL P N ms Q (upd ρ d (.slice ad l.length l.length)) w') : RL P N (.ca d f [y, z] :: ms) Q ρ w := by
  refine RL.ca (R := fun v w' => ∃ ad l st', v = .slice ad (List.length l) (List.length l) ∧ Fr (fun _ => False) rb 0 2 w w' ∧ Got (dSpan n) st l st' ∧ RdAt w' rb sb st' ∧ okAd ad ∧ BytesAt w' (· = sb) ad l ∧ (AdS w rb → st' ≠ none → ad ≠ none) ∧ (st' = none → ad = none ∧ l = [])) hc.1 ?_ ?_ hd (by intro x hx; simp only [List.mem_cons, List.not_mem_nil, or_false] at hx; exact hx.elim (fun e => e ▸ hy) (fun e => e ▸ hzN))
  · simp only [List.map_cons, List.map_nil, hx, hz]
    refine Calls.mono (hc.2 w rb sb st n h hne) ?_
    rintro e w' ⟨ad, l, st', rfl, h1⟩
    exact ⟨_, rfl, ad, l, st', rfl, h1⟩
  · rintro v w' ⟨ad, l, st', rfl, h1, h2, h3, h4, h5, h6, h7⟩
    exact k ad l st' w' h1 h2 h3 h4 h5 h6 h7

/-- The reader goes on by as many octets as slot s says. -/
def nextV (R : RN) (s t : Nat) : List MOp := [.mv t (.t 0), .mv (t + 1) (.t 0), .nc (t + 2) (t + 1), .fa (t + 3) R.tR (t + 2) 0, .ld (t + 4) R.T.u8s (t + 3), .mv (t + 5) (.t s), .sl (t + 6) R.T.u8s (t + 4) (some (.t (t + 5))) none none, .nc (t + 7) t, .fa (t + 8) R.tR (t + 7) 0, .st R.T.u8s (t + 8) (t + 6)]

theorem nextV_okS {n s t : Nat} {l : List UInt8} (ok : ROK P R) (h : RdAt w rb sb (some l)) (hne : sb ≠ rb) (hn : n ≤ l.length) (h0 : ρ 0 = .pointer (some ⟨rb, 0, none⟩)) (hs : ρ s = .int .i64 (n : Nat)) (hst : s < t) (ht : 0 < t) (hN : t + 9 ≤ N)
    (hQ : ∀ ρ' w', (∀ s, s < t → ρ' s = ρ s) → RdAt w' rb sb (some (l.drop n)) → Fr (fun _ => False) rb 0 2 w w' → (1 ≤ n → AdS w' rb) → Q .normal ρ' w') : RL P N (nextV R s t) Q ρ w := by
  obtain ⟨ad, c, h1, h2, h3, h4, h5⟩ := h
  obtain ⟨ad', g1, g2, g3, _, g5⟩ := run_sliceFromS (P := P) (w := w) ok.tk.u8s ok.cu h3 hn h4
  unfold nextV
  refine RL.step (MR.mv h0 (ltT (by omega))) (RL.step (MR.mv (v := .pointer (some ⟨rb, 0, none⟩)) (by show upd _ _ _ 0 = _; rw [upd_ne _ _ (by omega)]; exact h0) (ltT (by omega))) (RL.step (MR.nc (upd_same _ _ _) (by omega)) (RL.step (MR.fa (upd_same _ _ _) ok.f0 (by omega))
    (RL.step (MR.ld (upd_same _ _ _) ok.ps (h1 0 _ rfl) (by omega)) (RL.step (MR.mv (v := .int .i64 (n : Nat)) (by show upd _ _ _ s = _; rw [upd_ne _ _ (by omega), upd_ne _ _ (by omega), upd_ne _ _ (by omega), upd_ne _ _ (by omega), upd_ne _ _ (by omega)]; exact hs) (ltT (by omega)))
      (RL.step (MR.sl (v := .slice ad' (l.length - n) (c - n)) (by rw [upd_ne _ _ (by omega), upd_same]; simp only [Option.map, xof, upd_same]; exact g1) (by intro z hz; cases hz; exact ltT (by omega)) (by simp) (by simp) (by omega)) (RL.step (MR.nc (p := ⟨rb, 0, none⟩) ?_ (by omega)) (RL.step (MR.fa (upd_same _ _ _) ok.f0 (by omega))
      (RL.st1 (v := .slice ad' (l.length - n) (c - n)) (b := rb) (o := 0 + 0) (upd_same _ _ _) ?_ rfl ok.cs (there_in h2 (by omega)) (RL.nil ?_) (by omega) (by omega)) (by omega)) (by omega)) (by omega)) (by omega)) (by omega)) (by omega)) (by omega)) (by omega)) (by omega)
  · rw [upd_ne _ _ (by omega), upd_ne _ _ (by omega), upd_ne _ _ (by omega), upd_ne _ _ (by omega), upd_ne _ _ (by omega), upd_ne _ _ (by omega), upd_same]
  · rw [upd_ne _ _ (by omega), upd_ne _ _ (by omega), upd_same]
  · refine hQ _ _ (fun s hs => ?_) ?_ (Fr.put _ (by omega) (by simp)) (fun h1n => ?_)
    · rw [upd_ne _ _ (by omega), upd_ne _ _ (by omega), upd_ne _ _ (by omega), upd_ne _ _ (by omega), upd_ne _ _ (by omega), upd_ne _ _ (by omega), upd_ne _ _ (by omega), upd_ne _ _ (by omega), upd_ne _ _ (by omega)]
    · have := RdAt.put (l := l.drop n) (ad := ad') (c := c - n) h1 h2 rfl g2 (by rw [List.length_drop]; omega) (g3 rfl h5) hne
      rw [List.length_drop] at this
      exact this
    · obtain ⟨x, hx⟩ : ∃ x, l[0]? = some x := ⟨_, List.getElem?_eq_getElem (by omega)⟩
      obtain ⟨g, o, e, _⟩ := h5 0 x hx
      obtain ⟨a', e'⟩ := g5 _ e
      subst e'
      have ht0 : w.there rb (0 + 0) 1 := there_in h2 (by omega)
      exact ⟨a', _, _, World.rangeAt_setCells_same w rb (0 + 0) [.slice (some a') (l.length - n) (c - n)] ht0 0 _ rfl⟩

theorem nextV_ok {n s t : Nat} {l : List UInt8} (ok : ROK P R) (h : RdAt w rb sb (some l)) (hne : sb ≠ rb) (hn : n ≤ l.length) (h0 : ρ 0 = .pointer (some ⟨rb, 0, none⟩)) (hs : ρ s = .int .i64 (n : Nat)) (hst : s < t) (ht : 0 < t) (hN : t + 9 ≤ N)
    (hQ : ∀ ρ' w', (∀ s, s < t → ρ' s = ρ s) → RdAt w' rb sb (some (l.drop n)) → Fr (fun _ => False) rb 0 2 w w' → Q .normal ρ' w') : RL P N (nextV R s t) Q ρ w :=
  nextV_okS ok h hne hn h0 hs hst ht hN fun ρ' w' a b c _ => hQ ρ' w' a b c

def spanG (R : RN) : List GOp := [⟨0, none, .mv 6 (.t 0)⟩, ⟨1, none, .nc 7 6⟩, ⟨2, none, .fa 8 R.tR 7 0⟩, ⟨3, none, .ld 9 R.T.u8s 8⟩, ⟨4, none, .ln 10 R.T.u8s 9⟩, ⟨5, none, .mv 11 (.t 1)⟩, ⟨6, none, .bi 12 .lss R.T.int (.t 10) (.t 11)⟩, ⟨7, none, .mv 13 (.t 12)⟩, ⟨8, some (7, 13, false), .mv 14 (.t 1)⟩, ⟨9, some (7, 13, false), .bi 15 .lss R.T.int (.t 14) (.c (.int .i64 0))⟩, ⟨10, none, .pk 16 (.t 13) (.c (.bool true)) (.t 15)⟩]
def cSpan (R : RN) : MCode :=
  .sq (.rg [.mv 4 (.c .nslice)]) (.sq (.sq (.gr false (spanG R)) (.cd 16 (failM R .nslice 4 17) .sk))
    (.sq (.rg [.mv 23 (.t 0), .nc 24 23, .fa 25 R.tR 24 0, .ld 26 R.T.u8s 25, .mv 27 (.t 1), .mv 28 (.t 1), .sl 29 R.T.u8s 26 none (some (.t 27)) (some (.t 28)), .mv 5 (.t 29)])
    (.sq (.rg (nextV R 1 30)) (.sq (.rg [.mv 39 (.t 5), .mv 4 (.t 39)]) .rt))))

theorem dSpan_none {n : Int} {l : List UInt8} (h : n < 0 ∨ (l.length : Int) < n) : dSpan n l = none := by
  unfold dSpan
  split
  · rfl
  · exact takeN_none (by omega)

theorem BytesAt.take {F : Nat → Prop} {ad : Option Addr} {l : List UInt8} (h : BytesAt w F ad l) (n : Nat) : BytesAt w F ad (l.take n) := by
  intro j b hj
  rw [List.getElem?_take] at hj
  split at hj
  · exact h j b hj
  · simp at hj

theorem span_okS {f : Nat} (ok : ROK P R) (hf : FnIs P f (cSpan R) 40 4) : SpanCS P f := by
  refine ⟨hf.ent, fun w rb sb st n h hne => ?_⟩
  refine hf.runs (args := [.pointer (some ⟨rb, 0, none⟩), .int .i64 n]) (by simp) (by omega) ?_
  obtain ⟨ad, c, r1, r2, r3, r4, r5⟩ := h.all
  have hbad : (n < 0 ∨ ((stL st).length : Int) < n) → ∀ l, st = some l → dSpan n l = none := by
    rintro hn l rfl; exact dSpan_none hn
  have fin : ∀ (ρ : Nat → Value) (c16 : Bool), (c16 = true ↔ (n < 0 ∨ ((stL st).length : Int) < n)) → ρ 0 = .pointer (some ⟨rb, 0, none⟩) → ρ 1 = .int .i64 n → ρ 16 = .bool c16 →
      RW P 40 (.cd 16 (failM R .nslice 4 17) .sk) (thenR (RW P 40 (.sq (.rg [.mv 23 (.t 0), .nc 24 23, .fa 25 R.tR 24 0, .ld 26 R.T.u8s 25, .mv 27 (.t 1), .mv 28 (.t 1), .sl 29 R.T.u8s 26 none (some (.t 27)) (some (.t 28)), .mv 5 (.t 29)])
    (.sq (.rg (nextV R 1 30)) (.sq (.rg [.mv 39 (.t 5), .mv 4 (.t 39)]) .rt))) (retQ 4 (fun e w' => ∃ ad l st', e = .returned (.slice ad l.length l.length) ∧ Fr (fun _ => False) rb 0 2 w w' ∧ Got (dSpan n) st l st' ∧ RdAt w' rb sb st' ∧ okAd ad ∧ BytesAt w' (· = sb) ad l ∧ (AdS w rb → st' ≠ none → ad ≠ none) ∧ (st' = none → ad = none ∧ l = [])))) (retQ 4 (fun e w' => ∃ ad l st', e = .returned (.slice ad l.length l.length) ∧ Fr (fun _ => False) rb 0 2 w w' ∧ Got (dSpan n) st l st' ∧ RdAt w' rb sb st' ∧ okAd ad ∧ BytesAt w' (· = sb) ad l ∧ (AdS w rb → st' ≠ none → ad ≠ none) ∧ (st' = none → ad = none ∧ l = [])))) ρ w := by
    intro ρ c16 hc h0 h1 h16
    refine RW.cd h16 (fun e => ?_) (fun e => RW.sk ?_)
    · refine fail_ok ok h h0 (by omega) (by omega) (by omega) fun ρ' w' g1 g2 g3 => ?_
      refine ⟨none, [], none, ?_, g3, Got.failed (hbad (hc.1 e)), g2, .inl rfl, (fun j b hj => by simp at hj), fun _ h => absurd rfl h, fun _ => ⟨rfl, rfl⟩⟩
      show Ending.returned (ρ' 4) = _
      rw [g1]; rfl
    · have hge : ¬ (n < 0 ∨ ((stL st).length : Int) < n) := fun x => by have := hc.2 x; rw [e] at this; simp at this
      obtain ⟨m, rfl⟩ : ∃ m : Nat, n = (m : Nat) := ⟨n.toNat, by omega⟩
      have hm : m ≤ (stL st).length := by omega
      show RW P 40 _ _ _ _
      refine RW.sq (RW.rg (RL.step (MR.mv h0) (RL.step (MR.nc rfl) (RL.step (MR.fa rfl ok.f0) (RL.step (MR.ld rfl ok.ps (r1 0 _ rfl)) (RL.step (MR.mv (v := .int .i64 (m : Nat)) h1) (RL.step (MR.mv (v := .int .i64 (m : Nat)) h1)
        (RL.step (MR.sl (v := .slice ad m m) (run_slice3 (P := P) (w := w) ok.tk.u8s ok.cu r3 (by omega))) (RL.step MR.mv (RL.nil ?_))))))))))
      cases st with
      | none =>
        -- the reader has run out: a span of nothing
        have hm0 : m = 0 := by simpa [stL] using hm
        subst hm0
        obtain ⟨b1, b2⟩ := h
        obtain ⟨ad', g1, g2, g3, g4⟩ := run_sliceFrom (P := P) (w := w) (l := 0) (n := 0) (c := 0) (ad := none) ok.tk.u8s ok.cu (.inl rfl) (by omega) (by omega)
        have ead : ad = none ∧ c = 0 := by have := r1 0 _ rfl; have h' := b1 0 _ rfl; rw [h'] at this; simp only [Option.some.injEq, Value.slice.injEq] at this; exact ⟨this.1.symm, this.2.2.symm⟩
        obtain ⟨rfl, rfl⟩ := ead
        have ead' : ad' = none := g4 rfl
        subst ead'
        unfold nextV
        refine RW.sq (RW.rg (RL.step (MR.mv (v := .pointer (some ⟨rb, 0, none⟩)) h0) (RL.step (MR.mv (v := .pointer (some ⟨rb, 0, none⟩)) h0) (RL.step (MR.nc rfl) (RL.step (MR.fa rfl ok.f0) (RL.step (MR.ld rfl ok.ps (b1 0 _ rfl)) (RL.step (MR.mv (v := .int .i64 (0 : Nat)) h1)
          (RL.step (MR.sl (v := .slice none 0 0) g1) (RL.step (MR.nc rfl) (RL.step (MR.fa rfl ok.f0) (RL.st1 (v := .slice none 0 0) (b := rb) (o := 0 + 0) rfl rfl rfl ok.cs (there_in b2 (by omega)) (RL.nil ?_))))))))))))
        refine RW.sq (RW.rg (RL.step (MR.mv (v := .slice none 0 0) rfl) (RL.step MR.mv (RL.nil (RW.rt ?_)))))
        have e2 := range_set (k := 0) (v := .slice none 0 0) b1 (there_in b2 (by omega))
        exact ⟨none, [], none, rfl, Fr.put _ (by omega) (by simp), rfl, ⟨e2, World.there_setCells b2 _ _ _⟩, .inl rfl, (fun j b hj => by simp at hj), fun _ h => absurd rfl h, fun _ => ⟨rfl, rfl⟩⟩
      | some l =>
        have hlen : (l.take m).length = m := by rw [List.length_take]; simp only [stL] at hm; omega
        refine RW.sq (RW.rg (nextV_ok (n := m) ok h hne hm h0 h1 (by omega) (by omega) (by omega) fun ρ2 w2 k1 k2 k3 => ?_))
        refine RW.sq (RW.rg (RL.step (MR.mv (v := .slice ad m m) ?_) (RL.step MR.mv (RL.nil (RW.rt ?_)))))
        · show ρ2 5 = _
          rw [k1 5 (by omega)]; rfl
        · refine ⟨ad, l.take m, some (l.drop m), ?_, k3, ?_, k2, r3, ?_, fun hA _ => ?_, fun h => by cases h⟩
          · rw [hlen]; rfl
          · show dSpan (m : Nat) l = _
            unfold dSpan
            rw [if_neg (by omega), Int.toNat_natCast]
            exact takeN_yes (by simpa [stL] using hm)
          · intro j b hj
            obtain ⟨g, o, e1, e2, e3⟩ := r5.take m j b hj
            have hg := World.block_lt_of_cell? w _ e3
            exact ⟨g, o, e1, e2, by rw [cell_of_heap (k3.block g hg (by rw [e2]; exact hne) (fun x => x))]; exact e3⟩
          · obtain ⟨a, n', c', hc⟩ := hA
            have h0' : w.cell? ⟨rb, 0, none⟩ = some (.slice ad (stL (some l)).length c) := r1 0 _ rfl
            rw [hc] at h0'
            intro e0
            rw [e0] at h0'
            simp at h0'
  refine RW.sq (RW.rg (RL.step MR.mv (RL.nil (RW.sq (RW.sq (RW.gf (fun w' => w' = w) rfl ?_))))))
  refine RG.q (fun _ _ => MR.mv (v := .pointer (some ⟨rb, 0, none⟩)) rfl) (RG.q (fun _ _ => MR.nc rfl) (RG.q (fun _ _ => MR.fa rfl ok.f0) (RG.q (fun w' hw => MR.ld rfl ok.ps (by rw [hw]; exact r1 0 _ rfl)) (RG.q (fun _ _ => MR.ln ok.tk.u8s rfl)
    (RG.q (fun _ _ => MR.mv (v := .int .i64 n) rfl) (RG.q (v := .bool (decide (((stL st).length : Int) < n))) (fun _ _ => MR.biE rfl) (RG.q (fun _ _ => MR.mv (v := .bool (decide (((stL st).length : Int) < n))) rfl) ?_)))))))
  by_cases e : ((stL st).length : Int) < n
  · rw [decide_eq_true e]
    refine RG.no (d := 14) (by exact ⟨by decide, .inl rfl⟩) (RG.no (d := 15) (by exact ⟨by decide, .inl rfl⟩) (RG.q (fun _ _ => MR.pk (v := .bool true) rfl) (RG.nil fun _ => ?_)))
    exact fin _ true ⟨fun _ => .inr e, fun _ => rfl⟩ rfl rfl rfl
  · rw [decide_eq_false e]
    refine RG.q (fun _ _ => MR.mv (v := .int .i64 n) rfl) (RG.q (v := .bool (decide (n < 0))) (fun _ _ => MR.biE rfl) (RG.q (fun _ _ => MR.pk (v := .bool (decide (n < 0))) rfl) (RG.nil fun _ => ?_)))
    refine fin _ (decide (n < 0)) ⟨fun x => .inl (of_decide_eq_true x), fun x => ?_⟩ rfl rfl rfl
    rcases x with x | x
    · exact decide_eq_true x
    · exact absurd x e
theorem span_ok {f : Nat} (ok : ROK P R) (hf : FnIs P f (cSpan R) 40 4) : SpanC P f := (span_okS ok hf).n
end
end Go.Kx
namespace Go.Kx
open Go.RowKit
set_option linter.unusedSimpArgs false
set_option linter.unusedVariables false

/-- A function of two results. -/
structure FnIs2 (P : Program) (f : Nat) (m : MCode) (N r1 r2 : Nat) : Prop where
  ex : ∃ fn c, P.funcs[f]? = some fn ∧ fn.body = some c ∧ fits m c = true ∧ fn.ntmps = N ∧ fn.results = #[.tmp r1, .tmp r2]
  ent : entersB P f = true

def isFn2 (P : Program) (f : Nat) (m : MCode) (N r1 r2 : Nat) : Bool :=
  entersB P f && (match P.funcs[f]? with
    | some fn => Nat.beq fn.ntmps N && (match fn.results.toList with | [.tmp s1, .tmp s2] => Nat.beq s1 r1 && Nat.beq s2 r2 | _ => false) && (match fn.body with | some c => fits m c | none => false)
    | none => false)

theorem FnIs2.of {P : Program} {f N r1 r2 : Nat} {m : MCode} (h : isFn2 P f m N r1 r2 = true) : FnIs2 P f m N r1 r2 := by
  simp only [isFn2, Bool.and_eq_true] at h
  obtain ⟨h1, h2⟩ := h
  refine ⟨?_, h1⟩
  cases hf : P.funcs[f]? with
  | none => simp [hf] at h2
  | some fn =>
    simp only [hf, Bool.and_eq_true, Nat.beq_eq] at h2
    obtain ⟨⟨g1, g2⟩, g3⟩ := h2
    cases hb : fn.body with
    | none => simp [hb] at g3
    | some c =>
      simp only [hb] at g3
      refine ⟨fn, c, rfl, hb, g3, g1, ?_⟩
      split at g2
      · rename_i s1 s2 heq
        simp only [Bool.and_eq_true, Nat.beq_eq] at g2
        obtain ⟨rfl, rfl⟩ := g2
        exact Array.toList_inj.1 heq
      · simp at g2

def retQ2 (r1 r2 : Nat) (R : Ending → World → Prop) : Exit → (Nat → Value) → World → Prop
  | .ret, ρ, w => R (.returned (.tuple #[ρ r1, ρ r2])) w
  | _, _, _ => False

section
variable {P : Program} {N : Nat} {Q : Exit → (Nat → Value) → World → Prop} {ρ : Nat → Value} {w w' : World} {ms : List MOp} {R : RN} {rb sb : Nat} {st : Option (List UInt8)}

theorem FnIs2.runs {f r1 r2 : Nat} {m : MCode} (h : FnIs2 P f m N r1 r2) {args : List Value} {R : Ending → World → Prop} (hle : args.length ≤ N) (h1 : r1 < N) (h2 : r2 < N)
    (hw : RW P N m (retQ2 r1 r2 R) (args0 args) w) : Calls P f args.toArray w R := by
  obtain ⟨fn, c, g1, g2, g3, g4, g5⟩ := h.ex
  refine calls_leaf g1 g2 g3 g4 hle fun a hl => (hw a hl).mono fun e a w hu => ?_
  cases e <;> simp only [up, retQ2] at hu
  all_goals first | (obtain ⟨ρ, h1, h2⟩ := hu; exact h2.elim) | skip
  · obtain ⟨ρ, k1, k2⟩ := hu
    refine bodyPost_ret (v := .tuple #[ρ r1, ρ r2]) ?_ k1.defers k2
    rw [results_tmp2 g5]
    congr 2
    have e1 := k1.get r1 h1
    have e2 := k1.get r2 h2
    simp only [rd] at e1 e2
    rw [e1, e2]
  all_goals exact hu.elim

def uvA (R : RN) : MCode := .sq (.rg [.mv 6 (.t 0), .ln 7 R.T.u8s 6, .bi 8 .lss R.T.int (.t 7) (.c (.int .i64 1))]) (.cd 8 (.gt 0) .sk)
def uvB0 (R : RN) : List MOp := [.mv 9 (.t 0), .iak 10 R.T.u8s 9 0, .ld 11 R.T.u8 10, .bi 12 .and R.T.u8 (.t 11) (.c (.int .u8 127)), .cv 13 R.T.u8 R.T.u32 12, .mv 4 (.t 13)]
def uvB (R : RN) (k t : Nat) : List MOp := [.mv t (.t 4), .mv (t + 1) (.t 0), .iak (t + 2) R.T.u8s (t + 1) k, .ld (t + 3) R.T.u8 (t + 2), .bi (t + 4) .and R.T.u8 (.t (t + 3)) (.c (.int .u8 127)), .cv (t + 5) R.T.u8 R.T.u32 (t + 4), .b2 (t + 6) .shl (.t (t + 5)) (.c (.int .u64 ((7 * k : Nat) : Int))), .bi (t + 7) .or R.T.u32 (.t t) (.t (t + 6)), .mv 4 (.t (t + 7))]
def uvC (R : RN) (k t : Nat) : MCode :=
  .sq (.rg [.mv t (.t 0), .iak (t + 1) R.T.u8s t k, .ld (t + 2) R.T.u8 (t + 1), .bi (t + 3) .and R.T.u8 (.t (t + 2)) (.c (.int .u8 128)), .bi (t + 4) .eql R.T.u8 (.t (t + 3)) (.c (.int .u8 0))])
    (.cd (t + 4) (.sq (.rg [.mv (t + 5) (.t 4), .mv 2 (.t (t + 5)), .mv 3 (.c (.int .i64 ((k + 1 : Nat) : Int)))]) .rt)
      (.sq (.rg [.mv (t + 6) (.t 0), .ln (t + 7) R.T.u8s (t + 6), .bi (t + 8) .lss R.T.int (.t (t + 7)) (.c (.int .i64 ((k + 2 : Nat) : Int)))]) (.cd (t + 8) (.gt 0) .sk)))
def uvB4 (R : RN) : List MOp := [.mv 74 (.t 4), .mv 75 (.t 0), .iak 76 R.T.u8s 75 4, .ld 77 R.T.u8 76, .cv 78 R.T.u8 R.T.u32 77, .b2 79 .shl (.t 78) (.c (.int .u64 28)), .bi 80 .or R.T.u32 (.t 74) (.t 79), .mv 4 (.t 80)]
def uvC4 (R : RN) : MCode := .sq (.rg [.mv 81 (.t 0), .iak 82 R.T.u8s 81 4, .ld 83 R.T.u8 82, .bi 84 .leq R.T.u8 (.t 83) (.c (.int .u8 15))]) (.cd 84 (.sq (.rg [.mv 85 (.t 4), .mv 2 (.t 85), .mv 3 (.c (.int .i64 5))]) .rt) .sk)
def uvEnd : MCode := .sq (.rg [.mv 86 (.t 5), .mv 2 (.c (.int .u32 0)), .mv 3 (.t 86)]) .rt
def cUvd (R : RN) : MCode :=
  .sq (.rg [.mv 2 (.c (.int .u32 0)), .mv 3 (.c (.int .i64 0))]) (.sc (.sq (.rg [.mv 4 (.c (.int .u32 0))]) (.sq (.rg [.mv 5 (.c (.int .i64 0))])
    (.sq (uvA R) (.sq (.rg (uvB0 R)) (.sq (uvC R 0 14) (.sq (.rg (uvB R 1 23)) (.sq (uvC R 1 31) (.sq (.rg (uvB R 2 40)) (.sq (uvC R 2 48) (.sq (.rg (uvB R 3 57)) (.sq (uvC R 3 65)
      (.sq (.rg (uvB4 R)) (.sq (uvC4 R) (.sq (.rg [.mv 5 (.c (.int .i64 (-5)))]) (.sq (.lb 0) uvEnd))))))))))))))))

/-- After k octets, of value acc. -/
def UI (l : List UInt8) (k acc : Nat) : Prop := acc < 128 ^ k ∧ dUv l = match dUvb (4 - k) (l.drop k) with | some (n, r) => some (acc + 128 ^ k * n, r) | none => none

theorem UI.zero (l : List UInt8) : UI l 0 0 := by
  refine ⟨by simp, ?_⟩
  show dUvb 4 l = match dUvb 4 l with | some (n, r) => some (0 + 128 ^ 0 * n, r) | none => none
  cases dUvb 4 l with
  | none => rfl
  | some p => simp

theorem UI.short {l : List UInt8} {k acc : Nat} (h : UI l k acc) (hl : l.length ≤ k) : dUv l = none := by
  have := h.2
  rw [List.drop_eq_nil_of_le hl] at this
  rw [this]
  cases 4 - k <;> simp [dUvb]

theorem UI.last {l : List UInt8} {k acc : Nat} {b : UInt8} (h : UI l k acc) (hk : k < 4) (hb : l[k]? = some b) (h1 : b.toNat < 128) : dUv l = some (acc + 128 ^ k * (b.toNat % 128), l.drop (k + 1)) := by
  obtain ⟨hlt, e⟩ := List.getElem?_eq_some_iff.1 hb
  have := h.2
  rw [List.drop_eq_getElem_cons hlt, e, show 4 - k = (3 - k) + 1 from by omega] at this
  simp only [dUvb, if_pos h1] at this
  rw [this, Nat.mod_eq_of_lt h1]

theorem UI.next {l : List UInt8} {k acc : Nat} {b : UInt8} (h : UI l k acc) (hk : k < 4) (hb : l[k]? = some b) (h1 : ¬ b.toNat < 128) : UI l (k + 1) (acc + 128 ^ k * (b.toNat % 128)) := by
  obtain ⟨hlt, e⟩ := List.getElem?_eq_some_iff.1 hb
  have := h.2
  rw [List.drop_eq_getElem_cons hlt, e, show 4 - k = (3 - k) + 1 from by omega] at this
  simp only [dUvb, if_neg h1] at this
  refine ⟨?_, ?_⟩
  · have h2 := h.1
    have h3 : b.toNat % 128 < 128 := Nat.mod_lt _ (by omega)
    have h4 : 128 ^ k * (b.toNat % 128) ≤ 128 ^ k * 127 := Nat.mul_le_mul_left _ (by omega)
    rw [Nat.pow_succ]; omega
  · rw [this, show 4 - (k + 1) = 3 - k from by omega]
    cases dUvb (3 - k) (l.drop (k + 1)) with
    | none => rfl
    | some p =>
      obtain ⟨n, r⟩ := p
      simp only [Option.some.injEq, Prod.mk.injEq, and_true]
      rw [Nat.mul_add, Nat.pow_succ, Nat.mul_assoc]; omega

theorem UI.five {l : List UInt8} {acc : Nat} {b : UInt8} (h : UI l 4 acc) (hb : l[4]? = some b) : dUv l = if b.toNat ≤ 15 then some (acc + 128 ^ 4 * b.toNat, l.drop 5) else none := by
  obtain ⟨hlt, e⟩ := List.getElem?_eq_some_iff.1 hb
  have := h.2
  rw [List.drop_eq_getElem_cons hlt, e] at this
  rw [this]
  show (match (if b.toNat ≤ 15 then some (b.toNat, l.drop (4 + 1)) else none) with | some (n, r) => some (acc + 128 ^ 4 * n, r) | none => none) = _
  by_cases h15 : b.toNat ≤ 15
  · rw [if_pos h15, if_pos h15]
  · rw [if_neg h15, if_neg h15]

theorem andB127 (n : Nat) (h : n < 256) : IntKind.u8.wrap ((BitVec.ofInt IntKind.u8.bits (n : Int) &&& BitVec.ofInt IntKind.u8.bits 127).toNat : Int) = ((n % 128 : Nat) : Int) := by
  have : ∀ i : Fin 256, IntKind.u8.wrap ((BitVec.ofInt IntKind.u8.bits ((i.val : Nat) : Int) &&& BitVec.ofInt IntKind.u8.bits 127).toNat : Int) = ((i.val % 128 : Nat) : Int) := by decide +kernel
  exact this ⟨n, h⟩
theorem andB128 (n : Nat) (h : n < 256) : (IntKind.u8.wrap ((BitVec.ofInt IntKind.u8.bits (n : Int) &&& BitVec.ofInt IntKind.u8.bits 128).toNat : Int) == 0) = decide (n < 128) := by
  have : ∀ i : Fin 256, (IntKind.u8.wrap ((BitVec.ofInt IntKind.u8.bits ((i.val : Nat) : Int) &&& BitVec.ofInt IntKind.u8.bits 128).toNat : Int) == 0) = decide (i.val < 128) := by decide +kernel
  exact this ⟨n, h⟩

theorem byte_at {F : Nat → Prop} {ad : Option Addr} {l : List UInt8} {k : Nat} {b : UInt8} (h : BytesAt w F ad l) (hb : l[k]? = some b) : ∃ g o, ad = some ⟨g, o, none⟩ ∧ w.cell? ⟨g, o + k * 1, none⟩ = some (.int .u8 (b.toNat : Nat)) ∧ k < l.length := by
  obtain ⟨g, o, e, _, hc⟩ := h k b hb
  exact ⟨g, o, e, by rw [Nat.mul_one]; exact hc, (List.getElem?_eq_some_iff.1 hb).1⟩

theorem uvB_ok {F : Nat → Prop} {ad : Option Addr} {l : List UInt8} {c k t acc : Nat} {b : UInt8} (ok : ROK P R) (hu32 : intTy P R.T.u32 .u32 = true) (hb : BytesAt w F ad l) (h0 : ρ 0 = .slice ad l.length c) (hbk : l[k]? = some b) (h4 : ρ 4 = .int .u32 (acc : Nat)) (hacc : acc < 128 ^ k) (hk : k < 4) (ht : 5 < t) (hN : t + 8 ≤ N)
    (hQ : ∀ ρ', ρ' 0 = ρ 0 → ρ' 5 = ρ 5 → ρ' 4 = .int .u32 ((acc + 128 ^ k * (b.toNat % 128) : Nat) : Int) → Q .normal ρ' w) : RL P N (uvB R k t) Q ρ w := by
  obtain ⟨g, o, rfl, hc, hlt⟩ := byte_at hb hbk
  have hy : b.toNat < 256 := b.toNat_lt
  have hp : (128 : Nat) ^ k = 2 ^ (7 * k) := by rw [Nat.pow_mul]
  have hm : b.toNat % 128 < 128 := Nat.mod_lt _ (by omega)
  have hP : 128 ^ k * (b.toNat % 128) + 128 ^ k ≤ 128 ^ (k + 1) := by
    rw [Nat.pow_succ, ← Nat.mul_succ]
    exact Nat.mul_le_mul_left _ (by omega)
  have hP2 : (128 : Nat) ^ (k + 1) ≤ 128 ^ 4 := Nat.pow_le_pow_right (by omega) (by omega)
  have hpow : (128 : Nat) ^ 4 = 268435456 := by decide
  unfold uvB
  refine RL.step (MR.mv h4 (ltT (by omega))) (RL.step (MR.mv (v := .slice (some ⟨g, o, none⟩) l.length c) (by show upd _ _ _ 0 = _; rw [upd_ne _ _ (by omega)]; exact h0) (ltT (by omega))) (RL.step (MR.iak (sz := 1) ok.tk.u8s ok.cu (upd_same _ _ _) hlt (by omega)) (RL.step (MR.ld (upd_same _ _ _) ok.pu hc (by omega))
    (RL.step (MR.biE (v := .int .u8 ((b.toNat % 128 : Nat) : Int)) (by show evB .and (upd _ _ _ _) (.int .u8 127) = _; rw [upd_same]; simp only [evB, if_true]; rw [andB127 _ hy]) (ltT (by omega)) rfl)
    (RL.step (MR.cvI (upd_same _ _ _) ok.tk.u8i hu32 (by omega)) (RL.step (MR.b2 (v := .int .u32 ((128 ^ k * (b.toNat % 128) : Nat) : Int)) ?_ (ltT (by omega)) rfl) (RL.step (MR.biE (v := .int .u32 ((acc + 128 ^ k * (b.toNat % 128) : Nat) : Int)) ?_ (ltT (by omega)) (ltT (by omega))) (RL.step (MR.mv (upd_same _ _ _) (ltT (by omega))) (RL.nil ?_) (by omega)) (by omega)) (by omega)) (by omega)) (by omega)) (by omega)) (by omega)) (by omega)) (by omega)
  · show evB .shl (upd _ _ _ _) (.int .u64 _) = _
    rw [upd_same]
    simp only [evB]
    rw [if_pos (by omega), wrap_u32n (by omega), show (((7 * k : Nat) : Int)).toNat = 7 * k from by omega, Nat.min_eq_left (by show 7 * k ≤ 32; omega)]
    have e1 : (((b.toNat % 128 : Nat) : Int) * 2 ^ (7 * k)) = ((128 ^ k * (b.toNat % 128) : Nat) : Int) := by
      rw [hp, Nat.mul_comm (2 ^ (7 * k))]; push_cast; rfl
    rw [e1, wrap_u32n (by omega)]
  · show evB .or (upd _ _ _ t) (upd _ _ _ (t + 6)) = _
    rw [upd_same, upd_ne _ _ (by omega), upd_ne _ _ (by omega), upd_ne _ _ (by omega), upd_ne _ _ (by omega), upd_ne _ _ (by omega), upd_ne _ _ (by omega), upd_same]
    simp only [evB, if_true]
    rw [or_u32 (by omega) (by omega), hp, Nat.mul_comm (2 ^ (7 * k)), or_add (by rw [← hp]; exact hacc)]
  · refine hQ _ ?_ ?_ (upd_same _ _ _)
    · rw [upd_ne _ _ (by omega), upd_ne _ _ (by omega), upd_ne _ _ (by omega), upd_ne _ _ (by omega), upd_ne _ _ (by omega), upd_ne _ _ (by omega), upd_ne _ _ (by omega), upd_ne _ _ (by omega), upd_ne _ _ (by omega)]
    · rw [upd_ne _ _ (by omega), upd_ne _ _ (by omega), upd_ne _ _ (by omega), upd_ne _ _ (by omega), upd_ne _ _ (by omega), upd_ne _ _ (by omega), upd_ne _ _ (by omega), upd_ne _ _ (by omega), upd_ne _ _ (by omega)]

/-- How kbin.Uvarint may go on. -/
structure UQ (l : List UInt8) (w : World) (Q : Exit → (Nat → Value) → World → Prop) : Prop where
  ret : ∀ ρ' x k, 0 < k → ρ' 2 = .int .u32 (x : Nat) → ρ' 3 = .int .i64 (k : Nat) → dUv l = some (x, l.drop k) → k ≤ l.length → Q .ret ρ' w
  out : ∀ ρ', ρ' 5 = .int .i64 0 → dUv l = none → Q (.goto 0) ρ' w

theorem uvC_ok {F : Nat → Prop} {ad : Option Addr} {l : List UInt8} {c k t acc : Nat} {b : UInt8} (ok : ROK P R) (hb : BytesAt w F ad l) (h0 : ρ 0 = .slice ad l.length c) (h5 : ρ 5 = .int .i64 0) (hbk : l[k]? = some b) (h4 : ρ 4 = .int .u32 ((acc + 128 ^ k * (b.toNat % 128) : Nat) : Int)) (hI : UI l k acc) (hk : k < 4) (ht : 5 < t) (hN : t + 9 ≤ N) (hU : UQ l w Q)
    (hQ : ∀ ρ', ρ' 0 = ρ 0 → ρ' 5 = ρ 5 → ρ' 4 = ρ 4 → UI l (k + 1) (acc + 128 ^ k * (b.toNat % 128)) → k + 1 < l.length → Q .normal ρ' w) : RW P N (uvC R k t) Q ρ w := by
  obtain ⟨g, o, rfl, hc, hlt⟩ := byte_at hb hbk
  have hy : b.toNat < 256 := b.toNat_lt
  unfold uvC
  refine RW.sq (RW.rg (RL.step (MR.mv h0 (ltT (by omega))) (RL.step (MR.iak (sz := 1) ok.tk.u8s ok.cu (upd_same _ _ _) hlt (by omega)) (RL.step (MR.ld (upd_same _ _ _) ok.pu hc (by omega))
    (RL.step (MR.biE (v := .int .u8 (IntKind.u8.wrap ((BitVec.ofInt IntKind.u8.bits (b.toNat : Int) &&& BitVec.ofInt IntKind.u8.bits 128).toNat : Int))) (by show evB .and (upd _ _ _ _) (.int .u8 128) = _; rw [upd_same]; rfl) (ltT (by omega)) rfl)
    (RL.step (MR.biE (v := .bool (decide (b.toNat < 128))) (by show evB .eql (upd _ _ _ _) (.int .u8 0) = _; rw [upd_same]; simp only [evB, if_true]; rw [andB128 _ hy]) (ltT (by omega)) rfl) (RL.nil ?_) (by omega)) (by omega)) (by omega)) (by omega)) (by omega)))
  refine RW.cd (upd_same _ _ _) (fun e => ?_) (fun e => ?_) (by omega)
  · have e := of_decide_eq_true e
    refine RW.sq (RW.rg (RL.step (MR.mv (v := .int .u32 ((acc + 128 ^ k * (b.toNat % 128) : Nat) : Int)) ?_ (ltT (by omega))) (RL.step (MR.mv (upd_same _ _ _) (ltT (by omega))) (RL.step MR.mv (RL.nil (RW.rt ?_)) (by omega)) (by omega)) (by omega)))
    · show upd _ _ _ 4 = _
      rw [upd_ne _ _ (by omega), upd_ne _ _ (by omega), upd_ne _ _ (by omega), upd_ne _ _ (by omega), upd_ne _ _ (by omega)]; exact h4
    · exact hU.ret _ _ (k + 1) (by omega) (by rw [upd_ne _ _ (by omega), upd_same]) (upd_same _ _ _) (hI.last hk hbk e) (by omega)
  · have e := of_decide_eq_false e
    have hI' := hI.next hk hbk e
    refine RW.sq (RW.rg (RL.step (MR.mv (v := .slice (some ⟨g, o, none⟩) l.length c) ?_ (ltT (by omega))) (RL.step (MR.ln ok.tk.u8s (upd_same _ _ _) (by omega)) (RL.step (MR.biE (v := .bool (decide ((l.length : Int) < ((k + 2 : Nat) : Int)))) (by show evB .lss (upd _ _ _ _) (.int .i64 _) = _; rw [upd_same]; rfl) (ltT (by omega)) rfl) (RL.nil ?_) (by omega)) (by omega)) (by omega)))
    · show upd _ _ _ 0 = _
      rw [upd_ne _ _ (by omega), upd_ne _ _ (by omega), upd_ne _ _ (by omega), upd_ne _ _ (by omega), upd_ne _ _ (by omega)]; exact h0
    · have keep : ∀ s, s < t → ∀ v1 v2 v3 v4 v5 v6 v7 v8, upd (upd (upd (upd (upd (upd (upd (upd ρ t v1) (t + 1) v2) (t + 2) v3) (t + 3) v4) (t + 4) v5) (t + 6) v6) (t + 7) v7) (t + 8) v8 s = ρ s := by
        intro s hs v1 v2 v3 v4 v5 v6 v7 v8
        rw [upd_ne _ _ (by omega), upd_ne _ _ (by omega), upd_ne _ _ (by omega), upd_ne _ _ (by omega), upd_ne _ _ (by omega), upd_ne _ _ (by omega), upd_ne _ _ (by omega), upd_ne _ _ (by omega)]
      refine RW.cd (upd_same _ _ _) (fun e2 => RW.gt ?_) (fun e2 => RW.sk ?_) (by omega)
      · have e2 := of_decide_eq_true e2
        exact hU.out _ (by rw [keep 5 (by omega)]; exact h5) (hI'.short (by omega))
      · have e2 := of_decide_eq_false e2
        exact hQ _ (keep 0 (by omega) _ _ _ _ _ _ _ _) (keep 5 (by omega) _ _ _ _ _ _ _ _) (keep 4 (by omega) _ _ _ _ _ _ _ _) hI' (by omega)

def UvdC (P : Program) (f : Nat) : Prop := entersB P f = true ∧ ∀ (w : World) (F : Nat → Prop) (ad : Option Addr) (l : List UInt8) (c : Nat), BytesAt w F ad l →
  Calls P f #[.slice ad l.length c] w (fun e w' => w' = w ∧ ((∃ (x k : Nat), e = .returned (.tuple #[.int .u32 (x : Nat), .int .i64 (k : Nat)]) ∧ 0 < k ∧ k ≤ l.length ∧ dUv l = some (x, l.drop k)) ∨ (∃ n : Int, e = .returned (.tuple #[.int .u32 0, .int .i64 n]) ∧ n ≤ 0 ∧ dUv l = none)))

theorem uvd_ok {f : Nat} (ok : ROK P R) (h32 : R.T.u32 ≠ 0) (hf : FnIs2 P f (cUvd R) 87 2 3) : UvdC P f := by
  refine ⟨hf.ent, fun w F ad l c hb => ?_⟩
  have hu32 := ok.tk.u32 h32
  refine hf.runs (args := [.slice ad l.length c]) (by simp) (by omega) (by omega) ?_
  refine RW.sq (RW.rg (RL.step MR.mv (RL.step MR.mv (RL.nil ?_))))
  refine RW.sc (l := 0) (r := .sq .sk uvEnd) (fun ρ' w' => w' = w ∧ ∃ n : Int, ρ' 5 = .int .i64 n ∧ n ≤ 0 ∧ dUv l = none) rfl ?_ ?_
  · refine RW.sq (RW.rg (RL.step MR.mv (RL.nil (RW.sq (RW.rg (RL.step MR.mv (RL.nil ?_)))))))
    have hU : ∀ {K : (Nat → Value) → World → Prop}, UQ l w (thenR K (jumpR 0 (fun ρ' w' => w' = w ∧ ∃ n : Int, ρ' 5 = .int .i64 n ∧ n ≤ 0 ∧ dUv l = none) (retQ2 2 3 (fun e w' => w' = w ∧ ((∃ (x k : Nat), e = .returned (.tuple #[.int .u32 (x : Nat), .int .i64 (k : Nat)]) ∧ 0 < k ∧ k ≤ l.length ∧ dUv l = some (x, l.drop k)) ∨ (∃ n : Int, e = .returned (.tuple #[.int .u32 0, .int .i64 n]) ∧ n ≤ 0 ∧ dUv l = none)))))) := by
      intro K
      refine ⟨fun ρ' x k h1 h2 h3 h4 h5 => ?_, fun ρ' h1 h2 => ?_⟩
      · exact ⟨rfl, .inl ⟨x, k, by rw [← h2, ← h3], h1, h5, h4⟩⟩
      · exact ⟨rfl, rfl, 0, h1, Int.le_refl _, h2⟩
    have get : ∀ k, k < l.length → ∃ b, l[k]? = some b := fun k hk => ⟨_, List.getElem?_eq_getElem hk⟩
    unfold uvA
    refine RW.sq (RW.sq (RW.rg (RL.step (MR.mv (v := .slice ad l.length c) rfl) (RL.step (MR.ln ok.tk.u8s rfl) (RL.step (MR.biE (v := .bool (decide ((l.length : Int) < 1))) rfl) (RL.nil ?_))))))
    refine RW.cd rfl (fun e => RW.gt ?_) (fun e => RW.sk ?_)
    · have e := of_decide_eq_true e
      exact hU.out _ rfl ((UI.zero l).short (by omega))
    have e := of_decide_eq_false e
    obtain ⟨b0, hb0⟩ := get 0 (by omega)
    have hy : b0.toNat < 256 := b0.toNat_lt
    obtain ⟨g, o, had, hc, hlt⟩ := byte_at hb hb0
    subst had
    unfold uvB0
    refine RW.sq (RW.rg (RL.step (MR.mv (v := .slice (some ⟨g, o, none⟩) l.length c) rfl) (RL.step (MR.iak (sz := 1) ok.tk.u8s ok.cu rfl hlt) (RL.step (MR.ld rfl ok.pu hc) (RL.step (MR.biE (v := .int .u8 ((b0.toNat % 128 : Nat) : Int)) (by show evB .and (.int .u8 (b0.toNat : Nat)) (.int .u8 127) = _; simp only [evB, if_true]; rw [andB127 _ hy])) (RL.step (MR.cvI rfl ok.tk.u8i hu32) (RL.step MR.mv (RL.nil ?_))))))))
    refine RW.sq (uvC_ok (c := c) (acc := 0) (k := 0) ok hb rfl rfl hb0 ?_ (UI.zero l) (by omega) (by omega) (by omega) hU fun ρ1 q0 q5 q4 hI1 hl1 => ?_)
    · show Value.int .u32 (IntKind.u32.wrap ((b0.toNat % 128 : Nat) : Int)) = _
      rw [wrap_u32n (by omega)]; simp
    have p4 : ρ1 4 = .int .u32 ((0 + 128 ^ 0 * (b0.toNat % 128) : Nat) : Int) := by
      rw [q4]
      show Value.int .u32 (IntKind.u32.wrap ((b0.toNat % 128 : Nat) : Int)) = _
      rw [wrap_u32n (by omega)]; simp
    obtain ⟨b1, hb1⟩ := get 1 hl1
    refine RW.sq (RW.rg (uvB_ok (c := c) ok hu32 hb (by rw [q0]; rfl) hb1 p4 hI1.1 (by omega) (by omega) (by omega) fun ρ2 r0 r5 r4 => ?_))
    refine RW.sq (uvC_ok (c := c) ok hb (by rw [r0, q0]; rfl) (by rw [r5, q5]; rfl) hb1 r4 hI1 (by omega) (by omega) (by omega) hU fun ρ3 s0 s5 s4 hI2 hl2 => ?_)
    obtain ⟨b2, hb2⟩ := get 2 hl2
    refine RW.sq (RW.rg (uvB_ok (c := c) ok hu32 hb (by rw [s0, r0, q0]; rfl) hb2 (by rw [s4, r4]) hI2.1 (by omega) (by omega) (by omega) fun ρ4 t0 t5 t4 => ?_))
    refine RW.sq (uvC_ok (c := c) ok hb (by rw [t0, s0, r0, q0]; rfl) (by rw [t5, s5, r5, q5]; rfl) hb2 t4 hI2 (by omega) (by omega) (by omega) hU fun ρ5 u0 u5 u4 hI3 hl3 => ?_)
    obtain ⟨b3, hb3⟩ := get 3 hl3
    refine RW.sq (RW.rg (uvB_ok (c := c) ok hu32 hb (by rw [u0, t0, s0, r0, q0]; rfl) hb3 (by rw [u4, t4]) hI3.1 (by omega) (by omega) (by omega) fun ρ6 v0 v5 v4 => ?_))
    refine RW.sq (uvC_ok (c := c) ok hb (by rw [v0, u0, t0, s0, r0, q0]; rfl) (by rw [v5, u5, t5, s5, r5, q5]; rfl) hb3 v4 hI3 (by omega) (by omega) (by omega) hU fun ρ7 x0 x5 x4 hI4 hl4 => ?_)
    obtain ⟨b4, hb4⟩ := get 4 hl4
    have hy4 : b4.toNat < 256 := b4.toNat_lt
    obtain ⟨g', o', had', hc4, hlt4⟩ := byte_at hb hb4
    cases had'
    have z0 : ρ7 0 = .slice (some ⟨g, o, none⟩) l.length c := by rw [x0, v0, u0, t0, s0, r0, q0]; rfl
    generalize hacc : 0 + 128 ^ 0 * (b0.toNat % 128) + 128 ^ (0 + 1) * (b1.toNat % 128) + 128 ^ (0 + 1 + 1) * (b2.toNat % 128) + 128 ^ (0 + 1 + 1 + 1) * (b3.toNat % 128) = acc at *
    have z4 : ρ7 4 = .int .u32 (acc : Nat) := by rw [x4, v4]
    have ha : acc < 268435456 := hI4.1
    have hfive := UI.five (acc := acc) hI4 hb4
    have hor : b4.toNat ≤ 15 → evB .or (.int .u32 (acc : Nat)) (.int .u32 (IntKind.u32.wrap ((IntKind.u32.wrap ((b4.toNat : Nat) : Int)) * 2 ^ 28))) = some (.int .u32 ((acc + 128 ^ 4 * b4.toNat : Nat) : Int)) := by
      intro h15
      have e1 : IntKind.u32.wrap ((IntKind.u32.wrap ((b4.toNat : Nat) : Int)) * 2 ^ 28) = ((b4.toNat * 2 ^ 28 : Nat) : Int) := by
        rw [wrap_u32n (by omega), show ((b4.toNat : Int) * 2 ^ 28) = ((b4.toNat * 2 ^ 28 : Nat) : Int) from by rw [Int.natCast_mul, Int.natCast_pow]; rfl, wrap_u32n (by omega)]
      rw [e1]
      simp only [evB, if_true]
      rw [or_u32 (by omega) (by omega), or_add (by omega)]
      simp; omega
    unfold uvB4
    refine RW.sq (RW.rg (RL.step (MR.mv z4) (RL.step (MR.mv (v := .slice (some ⟨g, o, none⟩) l.length c) z0) (RL.step (MR.iak (sz := 1) ok.tk.u8s ok.cu rfl hlt4) (RL.step (MR.ld rfl ok.pu hc4) (RL.step (MR.cvI rfl ok.tk.u8i hu32)
      (RL.step (MR.b2 (v := .int .u32 (IntKind.u32.wrap ((IntKind.u32.wrap ((b4.toNat : Nat) : Int)) * 2 ^ 28))) rfl) (RL.step (MR.biE (op := .or) (x := .t 74) (y := .t 79) rfl) (RL.step MR.mv (RL.nil ?_))))))))))
    unfold uvC4
    refine RW.sq (RW.sq (RW.rg (RL.step (MR.mv (v := .slice (some ⟨g, o, none⟩) l.length c) z0) (RL.step (MR.iak (sz := 1) ok.tk.u8s ok.cu rfl hlt4) (RL.step (MR.ld rfl ok.pu hc4) (RL.step (MR.biE (v := .bool (decide ((b4.toNat : Int) ≤ 15))) rfl) (RL.nil ?_)))))))
    refine RW.cd rfl (fun e5 => ?_) (fun e5 => RW.sk ?_)
    · have e5 : b4.toNat ≤ 15 := by have := of_decide_eq_true e5; omega
      rw [if_pos e5] at hfive
      refine RW.sq (RW.rg (RL.step MR.mv (RL.step MR.mv (RL.step MR.mv (RL.nil (RW.rt ?_))))))
      have := hor e5
      simp only [evB, if_true, Option.some.injEq] at this
      refine ⟨rfl, .inl ⟨acc + 128 ^ 4 * b4.toNat, 5, ?_, by omega, by omega, hfive⟩⟩
      rw [← this]; rfl
    · have e5 : ¬ b4.toNat ≤ 15 := by have := of_decide_eq_false e5; omega
      rw [if_neg e5] at hfive
      refine RW.sq (RW.rg (RL.step MR.mv (RL.nil (RW.sq (RW.lb ?_)))))
      unfold uvEnd
      refine RW.sq (RW.rg (RL.step MR.mv (RL.step MR.mv (RL.step MR.mv (RL.nil (RW.rt ?_))))))
      exact ⟨rfl, .inr ⟨-5, rfl, by omega, hfive⟩⟩
  · rintro ρ' w' ⟨rfl, n, h5, hn, hd⟩
    refine RW.sq (RW.sk ?_)
    unfold uvEnd
    refine RW.sq (RW.rg (RL.step (MR.mv h5) (RL.step MR.mv (RL.step (MR.mv (v := .int .i64 n) rfl) (RL.nil (RW.rt ?_))))))
    exact ⟨rfl, .inr ⟨n, rfl, hn, hd⟩⟩

/-! ### The reader's Uvarint -/
def cRUv (R : RN) : MCode :=
  .sq (.rg [.mv 2 (.c (.int .u32 0))]) (.sq (.rg [.mv 6 (.t 0), .nc 7 6, .fa 8 R.tR 7 0, .ld 9 R.T.u8s 8, .ca 10 R.uvd [.t 9], .mv 5 (.t 10), .ext 11 5 0, .ext 12 5 1, .mv 3 (.t 11), .mv 4 (.t 12)])
    (.sq (.sq (.rg [.mv 13 (.t 4), .bi 14 .leq R.T.int (.t 13) (.c (.int .i64 0))]) (.cd 14 (failM R (.int .u32 0) 2 15) .sk))
    (.sq (.rg (nextV R 4 21)) (.sq (.rg [.mv 30 (.t 3), .mv 2 (.t 30)]) .rt))))

theorem ruv_okS {f : Nat} (ok : ROK P R) (hu : UvdC P R.uvd) (hf : FnIs P f (cRUv R) 31 2) : RdCS P f dUv (PlB (fun x => .int .u32 (x : Nat)) (· < 4294967296)) := by
  refine ⟨hf.ent, fun w rb sb st h hne => ?_⟩
  refine hf.runs (args := [.pointer (some ⟨rb, 0, none⟩)]) (by simp) (by omega) ?_
  obtain ⟨ad, c, r1, r2, r3, r4, r5⟩ := h.all
  refine RW.sq (RW.rg (RL.step MR.mv (RL.nil (RW.sq (RW.rg (RL.step (MR.mv (v := .pointer (some ⟨rb, 0, none⟩)) rfl) (RL.step (MR.nc rfl) (RL.step (MR.fa rfl ok.f0) (RL.step (MR.ld rfl ok.ps (r1 0 _ rfl)) ?_)))))))))
  refine RL.ca (R := fun v w' => w' = w ∧ ((∃ (x k : Nat), v = .tuple #[.int .u32 (x : Nat), .int .i64 (k : Nat)] ∧ 0 < k ∧ k ≤ (stL st).length ∧ dUv (stL st) = some (x, (stL st).drop k)) ∨ (∃ n : Int, v = .tuple #[.int .u32 0, .int .i64 n] ∧ n ≤ 0 ∧ dUv (stL st) = none))) hu.1 ?_ ?_
  · refine Calls.mono (hu.2 w _ ad (stL st) c r5) ?_
    rintro e w' ⟨rfl, ⟨x, k, rfl, h1⟩ | ⟨n, rfl, h1⟩⟩
    · exact ⟨_, rfl, rfl, .inl ⟨x, k, rfl, h1⟩⟩
    · exact ⟨_, rfl, rfl, .inr ⟨n, rfl, h1⟩⟩
  rintro v w' ⟨rfl, ⟨x, k, rfl, h1, h2, h3⟩ | ⟨n, rfl, h1, h2⟩⟩
  · refine RL.step MR.mv (RL.step (MR.ext (v := .int .u32 (x : Nat)) rfl) (RL.step (MR.ext (v := .int .i64 (k : Nat)) rfl) (RL.step MR.mv (RL.step MR.mv (RL.nil ?_)))))
    refine RW.sq (RW.sq (RW.rg (RL.step (MR.mv (v := .int .i64 (k : Nat)) rfl) (RL.step (MR.biE (v := .bool (decide ((k : Int) ≤ 0))) rfl) (RL.nil ?_)))))
    refine RW.cd rfl (fun e => absurd (of_decide_eq_true e) (by omega)) (fun e => RW.sk ?_)
    cases st with
    | none => simp [stL, dUv, dUvb] at h3
    | some l =>
      refine RW.sq (RW.rg (nextV_okS (n := k) ok h hne h2 rfl rfl (by omega) (by omega) (by omega) fun ρ2 w2 k1 k2 k3 k4 => ?_))
      refine RW.sq (RW.rg (RL.step (MR.mv (v := .int .u32 (x : Nat)) (by show ρ2 3 = _; rw [k1 3 (by omega)]; rfl)) (RL.step MR.mv (RL.nil (RW.rt ?_)))))
      exact ⟨_, x, some (l.drop k), rfl, k3, h3, k2, ⟨rfl, (dUv_some h3).1⟩, fun _ => k4 h1⟩
  · refine RL.step MR.mv (RL.step (MR.ext (v := .int .u32 0) rfl) (RL.step (MR.ext (v := .int .i64 n) rfl) (RL.step MR.mv (RL.step MR.mv (RL.nil ?_)))))
    refine RW.sq (RW.sq (RW.rg (RL.step (MR.mv (v := .int .i64 n) rfl) (RL.step (MR.biE (v := .bool (decide (n ≤ 0))) rfl) (RL.nil ?_)))))
    refine RW.cd rfl (fun e => ?_) (fun e => absurd h1 (of_decide_eq_false e))
    refine fail_ok ok h rfl (by omega) (by omega) (by omega) fun ρ' w' g1 g2 g3 => ?_
    refine ⟨_, 0, none, rfl, g3, Got.failed (fun l hl => by subst hl; exact h2), g2, ⟨?_, by omega⟩, fun e => absurd rfl e⟩
    show ρ' 2 = _
    rw [g1]; rfl
theorem ruv_ok {f : Nat} (ok : ROK P R) (hu : UvdC P R.uvd) (hf : FnIs P f (cRUv R) 31 2) : RdC P f dUv (PlB (fun x => .int .u32 (x : Nat)) (· < 4294967296)) := (ruv_okS ok hu hf).n
end
end Go.Kx
