/- The code of AppendTo writes what 'enc' says: by induction on the plan. Conditions: the plan fits the program's tables (wf), what is written is small (lists, texts and octets of at most 32767).
   The tags of a part with a tagged field, as statements that write. Conditions: the plan fits the program's tables (wfS2, wfQ), what is written is small.
   The code of AppendTo writes what 'enc' says: the induction on the plan. Conditions: the plan fits the program's tables (wf), what is written is small (lists, texts and octets of at most 32767).
   AppendTo of a message, as a whole: what it returns. Conditions: the plan fits the program (okTop), what is written is small.
   A truth, sixteen octets; all of kbin's functions that append, as one test of the program (kbOk), and what AppendTo's code rests on (AOK) from it.
   The code of the reference's functions (package spec), in the small form; printed by wip/tools/gen23.py from the dump, with names for the numbers.
   The reference's small functions: numbers, lengths, versions. Conditions: the program's tables. -/
import Derived.Test.YtnodcmiaipbjiaaGreatDoorKxC
namespace Go.Kx
open Go.RowKit
set_option linter.unusedSimpArgs false
set_option linter.unusedVariables false
def asV (k : PK) (cs : List Value) : Value :=
 match k with
 | .uuid => .agg cs.toArray
 | _ => cs.headD undef
def smallP : D → Prop
 | .s (some l) => l.length ≤ 32767
 | _ => True
section
variable (S : List (Nat × List UInt8) → Prop)
mutual
def Sm : Ty → D → Prop
 | .prim _ _, d => smallP d
 | .enum _ _ _, d => smallP d
 | .vstr _ _ _, d => smallP d
 | .arr _ _ _ el, d => match d with
  | .l _ xs => xs.length ≤ 32767 ∧ ∀ d ∈ xs, Sm el d
  | _ => True
 | .struct _ _ _ tg fs, d => match d with
  | .r ds tags => SmF fs ds ∧ S tags
  | _ => True
def SmF : Flds → List D → Prop
 | .nil, _ => True
 | .cons _ _ _ _ ty rest, ds => Sm ty (ds.headD (.n 0)) ∧ SmF rest ds.tail
end
end
def PK.kind : PK → Option IntKind
 | .i8 => some .i8
 | .i16 => some .i16
 | .i32 => some .i32
 | .i64 => some .i64
 | .u16 => some .u16
 | _ => none
def primTy (P : Program) (k : PK) (ty : Nat) : Bool :=
 match k with
 | .uuid => QH P ty && Jh P ty 16
 | _ => Jm P ty
structure AOK (P : Program) (I : IA) (S : List (Nat × List UInt8) → Prop) : Prop where
 small : ∀ tags, S tags → smallT tags
 prim : ∀ k flex, I.fn k flex ≠ 0 → ApC P I.tU8 (I.fn k flex) (fun w B x out => ∃ cs d, x = asV k cs ∧ RepP w (· < B) k cs d ∧ smallP d ∧ out = encP k flex d)
 alen : I.alen ≠ 0 → LenC P I.tU8 I.alen (fun n => fix n 4)
 calen : I.calen ≠ 0 → LenC P I.tU8 I.calen (fun n => uv (n + 1))
 nalen : I.nalen ≠ 0 → NLenC P I.tU8 I.nalen false
 cnalen : I.cnalen ≠ 0 → NLenC P I.tU8 I.cnalen true
 tlen : I.tlen ≠ 0 → TlenC P I.tlen
 teach : I.teach ≠ 0 → TeachC P I.tU8 I.teach S
 uvar : I.uvar ≠ 0 → UvarC P I.tU8 I.uvar
 suf : ∀ a b, S (a ++ b) → S b
 kt : I.tU32s ≠ 0 → I.uvar ≠ 0 → KtC P I S
def fnOk (I : IA) (sf : Option Nat) (k : PK) : Bool := !(Nat.beq (I.fn k false) 0) && (if k.two && sf.isSome then !(Nat.beq (I.fn k true) 0) else true)
def lnOk1 (I : IA) (sf : Option Nat) : Bool := !(Nat.beq I.alen 0) && (if sf.isSome then !(Nat.beq I.calen 0) else true)
def lnOk2 (I : IA) (sf : Option Nat) : Bool := !(Nat.beq I.nalen 0) && (if sf.isSome then !(Nat.beq I.cnalen 0) else true)
def lnOk (I : IA) (sf nul : Option Nat) : Bool :=
 match nul with
 | none => lnOk1 I sf
 | some 0 => lnOk2 I sf
 | some (_ + 1) => lnOk1 I sf && lnOk2 I sf
def wfT (P : Program) (I : IA) (sf : Option Nat) (T : Nat) (tg : Option TgF) : Bool :=
 match tg with
 | none => true
 | some ((i, kn), off) => kn.isEmpty && Jd P T i off && !(Nat.beq I.tlen 0) && !(Nat.beq I.teach 0) && !(Nat.beq I.uvar 0) && JC P I.tInt .i64 && JC P I.tU32 .u32
def zero3 (P : Program) (T : Nat) : Bool := match P.info? T with
 | some i => (match i.zero with | some (.agg cs) => Nat.beq cs.size 3 | _ => false)
 | none => false
def s2F (P : Program) (T : Nat) : Flds → Bool
 | .cons .always i1 o1 _ (.prim .i32 t1) (.cons .always i2 o2 _ (.prim .i32 t2) .nil) => Nat.beq o1 0 && Nat.beq o2 1 && Jd P T i1 0 && Jd P T i2 1 && Jm P t1 && Jm P t2
 | _ => false
def wfS2 (P : Program) (I : IA) (T n : Nat) (q : TgF) (fs : Flds) : Bool :=
 Nat.beq n 3 && q.1.2.isEmpty && Nat.beq q.2 2 && s2F P T fs && Jd P T q.1.1 2 && QH P T && Jh P T 3 && zero3 P T && !(Nat.beq T I.tU8) && !(Nat.beq (I.fn .i32 false) 0) && !(Nat.beq I.zSame 0)
def wfQ (P : Program) (I : IA) (T : Nat) (q : TgF) (sf : Option Nat) (rest : Flds) : Bool :=
 sf.isSome && q.1.2.isEmpty && Jd P T q.1.1 q.2 && !(Nat.beq I.uvar 0) && !(Nat.beq I.tU32s 0) && !(JO rest)
mutual
def wfE (P : Program) (I : IA) (sf : Option Nat) (ety : Nat) : Ty → Bool
 | .prim k _ => primTy P k ety && Jh P ety k.cells && fnOk I sf k && !k.box
 | .struct T n _ tg fs => Jh P ety n && wfF P I sf T fs && wfG P I sf T tg fs
 | _ => false
def wfF (P : Program) (I : IA) (sf : Option Nat) (T : Nat) : Flds → Bool
 | .nil => true
 | .cons c idx off _ ty rest => Jd P T idx off && (c.isTag || wfFld P I sf ty) && wfF P I sf T rest
def wfG (P : Program) (I : IA) (sf : Option Nat) (T : Nat) (tg : Option TgF) : Flds → Bool
 | .nil => wfT P I sf T tg
 | .cons c idx off _ ty rest => if c.isTag then (match tg with | some q => wfQ P I T q sf rest && Jd P T idx off && wfPay P I sf ty | none => false) else wfG P I sf T tg rest
def wfPay (P : Program) (I : IA) (sf : Option Nat) : Ty → Bool
 | .arr nul ty ety el => nul.isNone && Jm P ty && Jk P ty ety && Jh P ety el.cells && wfE P I sf ety el && lnOk I sf nul
 | .struct T n _ (some q) fs => wfS2 P I T n q fs
 | _ => false
def wfFld (P : Program) (I : IA) (sf : Option Nat) : Ty → Bool
 | .prim k ty => primTy P k ty && fnOk I sf k && !k.box
 | .enum .. => false
 | .vstr .. => false
 | .arr nul ty ety el => Jm P ty && Jk P ty ety && Jh P ety el.cells && wfE P I sf ety el && (nul.isNone && lnOk I sf nul)
 | .struct T' n _ tg fs => wfF P I sf T' fs && wfG P I sf T' tg fs
end
theorem rangeAt_sub {w : World} {b o : Nat} {cs : List Value} (h : w.rangeAt b o cs) (off n : Nat) : w.rangeAt b (o + off) ((cs.drop off).take n) := by
 intro j v hv
 rw [List.getElem?_take] at hv
 split at hv
 ·rw [List.getElem?_drop] at hv
  have := h (off + j) v hv
  rwa [show o + off + j = o + (off + j) from by omega]
 ·simp at hv
theorem rangeAt_heap {w : World} {g : Nat} {arr : Array Value} {eT : Nat} {fr : Nat × Nat} (h : w.heap[g]? = some (.cells arr eT fr)) : w.rangeAt g 0 arr.toList := by
 intro j v hv
 rw [Nat.zero_add, cell_of_row w g j arr eT fr h]
 simpa using hv
theorem encP_two {k : PK} (h : k.two = false) (flex : Bool) (d : D) : encP k flex d = encP k false d := by
 cases k <;> first | (simp [PK.two] at h; done) | (cases d <;> first | rfl | (rename_i o; cases o <;> rfl))
section
variable {P : Program} {w : World} {F : Nat → Prop}
theorem load_prim {k : PK} {ty b o : Nat} {cs : List Value} {d : D} (hp : primTy P k ty = true) (hr : RepP w F k cs d) (hc : w.rangeAt b o cs) :
  (Instr.loadAt ty (.pointer (some ⟨b, o, none⟩))).run P w = .ok (asV k cs) w := by
 have one : ∀ u : Value, cs = [u] → asV k cs = cs.headD undef → Jm P ty = true → (Instr.loadAt ty (.pointer (some ⟨b, o, none⟩))).run P w = .ok (asV k cs) w := by
  intro u hu h1 h2
  rw [h1, hu]
  refine QG h2 ?_
  have := hc 0 u (by rw [hu]; rfl)
  simpa using this
 cases k
 case uuid =>
  obtain ⟨l, h1, h2, h3⟩ := hr
  simp only [primTy, UA] at hp
  exact J3 hp.1 (by rw [h2, List.length_map, h1]; exact hp.2) hc
 all_goals simp only [RepP] at hr
 case i8 => obtain ⟨n, h1, _⟩ := hr; exact one _ h1 rfl hp
 case i16 => obtain ⟨n, h1, _⟩ := hr; exact one _ h1 rfl hp
 case i32 => obtain ⟨n, h1, _⟩ := hr; exact one _ h1 rfl hp
 case i64 => obtain ⟨n, h1, _⟩ := hr; exact one _ h1 rfl hp
 case u16 => obtain ⟨n, h1, _⟩ := hr; exact one _ h1 rfl hp
 case bool => obtain ⟨n, h1, _⟩ := hr; exact one _ h1 rfl hp
 case f64 => obtain ⟨n, h1, _⟩ := hr; exact one _ h1 rfl hp
 case str => obtain ⟨n, h1, _⟩ := hr; exact one _ h1 rfl hp
 case nstr => rcases hr with ⟨h1, _⟩ | ⟨b', s, h1, _⟩ <;> exact one _ h1 rfl hp
 case byt => obtain ⟨a, c, l, h1, _⟩ := hr; exact one _ h1 rfl hp
 case nbyt => rcases hr with ⟨h1, _⟩ | ⟨a, c, l, h1, _⟩ <;> exact one _ h1 rfl hp
end
section
variable {P : Program} {B N L : Nat} {ρ : Nat → Value} {w : World} {x x' : Nat} {I : IA} {ver : Int} {flex : Bool} {sver : Nat} {sf : Option Nat} {S : List (Nat × List UInt8) → Prop}
structure Ctx (sver : Nat) (sf : Option Nat) (ver : Int) (flex : Bool) (x : Nat) (ρ : Nat → Value) : Prop where
 hx : 1 < x
 v1 : 1 < sver
 vx : sver < x
 ver : ρ sver = .int .i16 ver
 f1 : ∀ s, sf = some s → 1 < s ∧ s < x ∧ ρ s = .bool flex
 f0 : sf = none → flex = false
theorem Ctx.keep {y : Nat} {ρ' : Nat → Value} (h : Ctx sver sf ver flex x ρ) (hk : Keep L x y ρ ρ') (hL : x ≤ L) (hy : x ≤ y) : Ctx sver sf ver flex y ρ' where
 hx := by have := h.hx; omega
 v1 := h.v1
 vx := by have := h.vx; omega
 ver := by rw [hk _ (by have := h.vx; omega) (by have := h.v1; omega) (.inl h.vx)]; exact h.ver
 f1 := fun s hs => by
  obtain ⟨h1, h2, h3⟩ := h.f1 s hs
  exact ⟨h1, by omega, by rw [hk _ (by omega) (by omega) (.inl h2)]; exact h3⟩
 f0 := h.f0
theorem Ctx.upd {v : Value} (h : Ctx sver sf ver flex x ρ) : Ctx sver sf ver flex (x + 1) (upd ρ x v) where
 hx := by have := h.hx; omega
 v1 := h.v1
 vx := by have := h.vx; omega
 ver := by rw [Jb _ _ (by have := h.vx; omega)]; exact h.ver
 f1 := fun s hs => by
  obtain ⟨h1, h2, h3⟩ := h.f1 s hs
  exact ⟨h1, by omega, by rw [Jb _ _ (by omega)]; exact h3⟩
 f0 := h.f0
theorem JB.primA {k : PK} {v t : Nat} {d : D} (ok : AOK P I S) (hctx : Ctx sver sf ver flex x ρ) (hxL : x ≤ L) (hv : v < L) (ht : L ≤ t) (hN : (Kx.primA I sf k v t).2 ≤ N) (hB : B ≤ w.heap.size)
  {cs : List Value} (hfn : fnOk I sf k = true) (hx : ρ v = asV k cs) (hr : RepP w (· < B) k cs d) (hs : smallP d) : JB P I.tU8 B N L (Kx.primA I sf k v t).1 ρ w x' x' (encP k flex d) := by
 have h1L : 1 < L := by have := hctx.hx; omega
 simp only [fnOk, UA] at hfn
 obtain ⟨f1, f2⟩ := hfn
 have callN : ∀ t, L ≤ t → (Kx.callA (I.fn k false) v t).2 ≤ N → JB P I.tU8 B N L (Kx.callA (I.fn k false) v t).1 ρ w x' x' (encP k false d) := by
  intro t ht hN
  exact JB.callA (ok.prim k false (ne0 f1)) hB hv h1L ht (by simpa [Kx.callA] using hN) ⟨cs, d, hx, hr, hs, rfl⟩
 unfold Kx.primA at hN ⊢
 cases htwo : k.two
 ·rw [encP_two htwo]
  rw [htwo] at hN
  simpa [htwo] using callN t ht (by simpa using hN)
 ·rw [htwo] at hN f2
  simp only [if_true] at hN ⊢
  refine JB.ifFlex (fun s hs => ?_) hctx.f0 ht hN (fun _ => callA_le) (fun _ => callA_le) (fun e t' ht' hN' => ?_) (fun e t' ht' hN' => ?_)
  ·obtain ⟨h1, h2, h3⟩ := hctx.f1 s hs; exact ⟨by omega, h3⟩
  ·subst e
   cases sf with
   | none => have := hctx.f0 rfl; simp at this
   | some s =>
    simp only [Option.isSome_some, Bool.and_true, if_true] at f2
    exact JB.callA (ok.prim k true (ne0 f2)) hB hv h1L ht' (by simpa [Kx.callA] using hN') ⟨cs, d, hx, hr, hs, rfl⟩
  ·subst e; exact callN t' ht' hN'
theorem JB.alenA1 {ty ety v t n c : Nat} {p : Option Addr} (ok : AOK P I S) (hctx : Ctx sver sf ver flex x ρ) (hxL : x ≤ L) (hv : v < L) (hv1 : v ≠ 1) (ht : L ≤ t) (hN : (Kx.ifFlex sf t (Kx.lenA I.calen ty v) (Kx.lenA I.alen ty v)).2 ≤ N) (hB : B ≤ w.heap.size)
  (hln : lnOk1 I sf = true) (hsl : Jk P ty ety = true) (hρ : ρ v = .slice p n c) (hn : n ≤ 32767) :
  JB P I.tU8 B N L (Kx.ifFlex sf t (Kx.lenA I.calen ty v) (Kx.lenA I.alen ty v)).1 ρ w x' x' (cnt flex 4 n) := by
 have h1L : 1 < L := by have := hctx.hx; omega
 have hs : ∀ s, sf = some s → s < L ∧ ρ s = .bool flex := fun s hs => by obtain ⟨h1, h2, h3⟩ := hctx.f1 s hs; exact ⟨by omega, h3⟩
 simp only [lnOk1, UA] at hln
 refine JB.ifFlex hs hctx.f0 ht hN (fun _ => lenA_le) (fun _ => lenA_le) (fun e t' ht' hN' => ?_) (fun e t' ht' hN' => ?_)
 ·subst e
  cases sf with
  | none => have := hctx.f0 rfl; simp at this
  | some s =>
   have h2 := hln.2
   simp only [Option.isSome_some, if_true] at h2
   exact JB.lenA (ok.calen (ne0 h2)) hB hv hv1 h1L ht' (by simpa [Kx.lenA] using hN') hsl hρ hn
 ·subst e
  exact JB.lenA (ok.alen (ne0 hln.1)) hB hv hv1 h1L ht' (by simpa [Kx.lenA] using hN') hsl hρ hn
theorem JB.alenA {nul : Option Nat} {ty ety v t n c : Nat} {p : Option Addr} (ok : AOK P I S) (hctx : Ctx sver sf ver flex x ρ) (hxL : x ≤ L) (hv : v < L) (hv1 : v ≠ 1) (ht : L ≤ t) (hN : (Kx.alenA I sver sf nul ty v t).2 ≤ N) (hB : B ≤ w.heap.size)
  (hnul : nul = none) (hln : lnOk I sf nul = true) (hsl : Jk P ty ety = true) (hρ : ρ v = .slice p n c) (hn : n ≤ 32767) :
  JB P I.tU8 B N L (Kx.alenA I sver sf nul ty v t).1 ρ w x' x' (if nul.isSome && p.isNone && vNul nul ver then J9 flex 4 else cnt flex 4 n) := by
 cases hnul
 exact JB.alenA1 ok hctx hxL hv hv1 ht hN hB hln hsl hρ hn
theorem KnAt.nil {cs : List Value} {out : List (Nat × List UInt8)} (h : KnAt [] cs out) : out = [] := h
theorem tags_of (ok : AOK P I S) {T vs t b o bl : Nat} {tg : Option TgF} {cs : List Value} {tags : List (Nat × List UInt8)}
  (hctx : Ctx sver sf ver flex x ρ) (hxL : (Kx.tagsA I sf T vs tg t x bl).2.2.1 ≤ L) (hvs : vs < x) (hvs1 : vs ≠ 1) (ht : L ≤ t) (hN : (Kx.tagsA I sf T vs tg t x bl).2.1 ≤ N) (hp : ρ vs = .pointer (some ⟨b, o, none⟩)) (hbB : b < B) (hB : B ≤ w.heap.size)
  (hwf : wfT P I sf T tg = true) (hc : w.rangeAt b o cs) (hm : TagsAt w (· < B) tg cs tags) (hsm : S tags) :
  JK P I.tU8 B N L (Kx.tagsA I sf T vs tg t x bl).1 ρ w x (Kx.tagsA I sf T vs tg t x bl).2.2.1 (if tg.isSome && flex then Jz tags else []) := by
 have hxl := @tagsA_le I sf T vs tg t x bl
 have hs : ∀ s, sf = some s → s < L ∧ ρ s = .bool flex := fun s hs => by obtain ⟨h1, h2, h3⟩ := hctx.f1 s hs; exact ⟨by omega, h3⟩
 cases tg with
 | none => exact ⟨rfl, rfl⟩
 | some p =>
  obtain ⟨⟨i, kn⟩, off⟩ := p
  simp only [wfT, UA] at hwf
  obtain ⟨⟨⟨⟨⟨⟨w0, w1⟩, w2⟩, w3⟩, w4⟩, w5⟩, w6⟩ := hwf
  obtain ⟨m, kb, un, hm1, hm2, hm3, rfl, hm5⟩ := hm
  cases kn with
  | nil =>
   have hk : kb = [] := hm3
   subst hk
   have hx2 : (Kx.tagsA I sf T vs (some ((i, []), off)) t x bl).2.2.1 = x := by cases sf <;> rfl
   rw [hx2]
   refine JK.tagsA (m := m) (tags := un) (fun q hq => by cases hq; rfl) hs hctx.f0 ht hN (by have := hctx.hx; omega) (by omega) hvs1 hp hbB hB (ok.tlen (ne0 w2)) (ok.teach (ne0 w3)) (ok.uvar (ne0 w4)) w5 w6 ?_
   intro i' kn' off' he
   simp only [UC, Prod.mk.injEq] at he
   obtain ⟨⟨rfl, _⟩, rfl⟩ := he
   exact ⟨w1, hc off m hm1, hm2, ok.small _ hsm, hsm⟩
  | cons q r => simp at w0
end
set_option linter.unusedVariables false
theorem zero3_of {P : Program} {T : Nat} (h : zero3 P T = true) : ∃ z : List Value, (∃ i, P.info? T = some i ∧ i.zero = some (.agg z.toArray)) ∧ z.length = 3 := by
 unfold zero3 at h
 cases hi : P.info? T with
 | none => simp [hi] at h
 | some i =>
  simp only [hi] at h
  cases hzv : i.zero with
  | none => simp [hzv] at h
  | some v =>
   cases v <;> simp only [hzv, UB, Nat.beq_eq] at h
   rename_i cs
   exact ⟨cs.toList, ⟨i, rfl, by rw [hzv]⟩, by simpa using h⟩
theorem RepT.one {w : World} {F : Nat → Prop} {m : Value} {tags : List (Nat × List UInt8)} (h : RepT w F m tags) : m.oneCell' = true := by
 rcases h with ⟨rfl, _⟩ | ⟨r, _, _, rfl, _⟩ <;> rfl
section
variable {P : Program} {B N L : Nat} {ρ : Nat → Value} {w : World} {x x' : Nat} {I : IA} {ver : Int} {flex : Bool} {sver : Nat} {sf : Option Nat} {S : List (Nat × List UInt8) → Prop}
theorem JB.ifTag {U t s xe : Nat} {body : Jc} {out : List UInt8} (hsL : s < L) (hs : ρ s = .bool flex) (ht : L ≤ t) (hN : t + 1 ≤ N) (hx : x ≤ xe)
  (hb : flex = true → ∀ (r : Nat → Value) (bs : List UInt8), (∀ s, s < L → r s = ρ s) → OwnB U w B (r 1) bs → bs.length + out.length ≤ lim → RW P N body (fun e ρ' w' => e = .normal ∧ (∀ s, s < L → s ≠ 1 → (s < x ∨ xe ≤ s) → ρ' s = r s) ∧ OwnB U w' B (ρ' 1) (bs ++ out) ∧ Below B w w') r w) (h1 : 1 < L) :
  JB P U B N L (.sq (.rg [.mv t (.t s)]) (.cd t body .sk)) ρ w x xe (if flex then out else []) := by
 intro a bs Q hl ho hlim hQ
 have hsz := hl.size
 refine MW.sq (MW.rg (ML.mv (ML.nil ?_)))
 simp only [MX.of]
 rw [hl.get s hsL, hs]
 have hl0 : Loc N L ρ (wr a t (.bool flex)) := hl.tmp _ ht (by omega)
 refine MW.cd (b := flex) (Je (by omega)) (fun e => ?_) (fun e => ?_)
 ·subst e
  rw [if_pos rfl] at hlim hQ
  generalize wr a t (.bool true) = a0 at hl0
  have hrd : ∀ s, s < L → rd a0 s = ρ s := hl0.get
  refine (hb rfl (rd a0) bs hrd (by rw [hrd 1 h1]; exact ho) hlim a0 ⟨hl0.size, hl0.defers, fun _ _ => rfl⟩).mono fun e a' w' hu => ?_
  cases e with
  | normal =>
   obtain ⟨ρ', g1, _, g2, g3, g4⟩ := hu
   exact hQ a' w' ρ' (g1.less (by have := g1.size; omega)) (fun s h1 h2 h3 => by rw [g2 s h1 h2 h3, hrd s h1]) g3 g4
  | panic _ => exact hu.elim
  | _ => obtain ⟨ρ', g1, g2, _⟩ := hu; cases g2
 ·subst e
  rw [if_neg (by simp)] at hlim hQ
  exact JB.sk hx _ bs Q hl0 ho hlim hQ
theorem s2_rep {F : Nat → Prop} {T n dfn : Nat} {q : TgF} {fs : Flds} {cs : List Value} {d : D} (hw : wfS2 P I T n q fs = true) (hrep : Rep w F (.struct T n dfn (some q) fs) cs d) (hsm : Sm S (.struct T n dfn (some q) fs) d) (hsmall : ∀ tags, S tags → smallT tags) :
  ∃ i1 i2 o1 o2 t1 t2 d1 d2 n1 n2 m' ux', fs = .cons .always i1 o1 d1 (.prim .i32 t1) (.cons .always i2 o2 d2 (.prim .i32 t2) .nil) ∧ cs = [.int .i32 n1, .int .i32 n2, m'] ∧ RepT w F m' ux' ∧ S ux' ∧ NumP .i32 (.int .i32 n1) n1 ∧ NumP .i32 (.int .i32 n2) n2 ∧
   Jd P T i1 0 = true ∧ Jd P T i2 1 = true ∧ Jm P t1 = true ∧ Jm P t2 = true ∧ QC (.struct T n dfn (some q) fs) d = s2U n1 n2 ux' ∧ ∀ ver, enc ver true (.struct T n dfn (some q) fs) d = s2X n1 n2 ux' := by
 simp only [wfS2, UA, Nat.beq_eq] at hw
 obtain ⟨⟨⟨⟨⟨⟨⟨⟨⟨⟨a1, a2⟩, a3⟩, a4⟩, a5⟩, a6⟩, a7⟩, a8⟩, a9⟩, a10⟩, a11⟩ := hw
 subst a1
 unfold s2F at a4
 split at a4
 ·rename_i i1 o1 d1 t1 i2 o2 d2 t2
  simp only [UA, Nat.beq_eq] at a4
  obtain ⟨⟨⟨⟨⟨b1, b2⟩, b3⟩, b4⟩, b5⟩, b6⟩ := a4
  subst b1 b2
  unfold Rep at hrep
  obtain ⟨ds, tags, rfl, hl, hf, ht⟩ := hrep
  unfold Sm at hsm
  obtain ⟨⟨⟨ti, kn⟩, to⟩, a2', a3'⟩ : ∃ q' : TgF, q'.1.2.isEmpty = true ∧ q'.2 = 2 := ⟨q, a2, a3⟩
  obtain ⟨⟨ti, kn⟩, to⟩ := q
  simp only at a2 a3
  subst a3
  obtain rfl : kn = [] := by cases kn <;> simp_all
  obtain ⟨m', kb, ux', e1, e2, e3, rfl, e5⟩ := ht
  have e3' : kb = [] := e3
  subst e3'
  rw [RepF] at hf
  obtain ⟨h0, x1, ds1, rfl, r1, hf⟩ := hf
  rw [RepF] at hf
  obtain ⟨h0', x2, ds2, rfl, r2, hf⟩ := hf
  rw [RepF] at hf
  subst hf
  rw [Rep] at r1 r2
  simp only [RepP] at r1 r2
  obtain ⟨n1, g1, rfl, l1, l2⟩ := r1
  obtain ⟨n2, g2, rfl, l3, l4⟩ := r2
  have hcs : cs = [.int .i32 n1, .int .i32 n2, m'] := by
   match cs, hl, g1, g2, e1 with
   | [a, b, c], _, g1, g2, e1 =>
    simp [Ty.cells, PK.cells] at g1 g2
    simp at e1
    rw [g1, g2, e1]
  refine ⟨i1, i2, 0, 1, t1, t2, d1, d2, n1, n2, m', ux', rfl, hcs, e2, by simpa using hsm.2, ⟨rfl, l1, l2⟩, ⟨rfl, l3, l4⟩, b3, b4, b5, b6, ?_, fun ver => ?_⟩
  ·simp [QC, Qw, s2U, Bool.and_assoc]
  ·simp [enc, encF, tagF, Cnd.ok, Cnd.isTag, s2X, encP]
 ·simp at a4
end
set_option linter.unusedVariables false
theorem Ctx.le {x y : Nat} {ρ : Nat → Value} {ver : Int} {flex : Bool} {sver : Nat} {sf : Option Nat} (h : Ctx sver sf ver flex x ρ) (hxy : x ≤ y) : Ctx sver sf ver flex y ρ where
 hx := by have := h.hx; omega
 v1 := h.v1
 vx := by have := h.vx; omega
 ver := h.ver
 f1 := fun s hs => by obtain ⟨h1, h2, h3⟩ := h.f1 s hs; exact ⟨h1, by omega, h3⟩
 f0 := h.f0
section
variable {P : Program} {B N L : Nat} {ρ : Nat → Value} {w : World} {x x' : Nat} {I : IA} {ver : Int} {flex : Bool} {sver : Nat} {sf : Option Nat} {S : List (Nat × List UInt8) → Prop}
theorem Ctx.keep0 {y : Nat} {ρ' : Nat → Value} (h : Ctx sver sf ver flex x ρ) (hk : Keep L x y ρ ρ') (hL : x ≤ L) : Ctx sver sf ver flex x ρ' where
 hx := h.hx
 v1 := h.v1
 vx := h.vx
 ver := by rw [hk _ (by have := h.vx; omega) (by have := h.v1; omega) (.inl h.vx)]; exact h.ver
 f1 := fun s hs => by
  obtain ⟨h1, h2, h3⟩ := h.f1 s hs
  exact ⟨h1, h2, by rw [hk _ (by omega) (by omega) (.inl h2)]; exact h3⟩
 f0 := h.f0
theorem Sets.elemAddr {ty ety v t ab i len cap sz : Nat} (hv : v < L) (hx : x < L) (hxL : x + 1 < L) (ht : L ≤ t) (hN : t + 3 ≤ N) (hs : Jk P ty ety = true) (hc : Jh P ety sz = true)
  (hρ : ρ v = .slice (some ⟨ab, 0, none⟩) len cap) (hi : ρ x = .int .i64 (i : Nat)) (hil : i < len) :
  Sets P N L (.rg [.mv t (.t v), .mv (t + 1) (.t x), .ia (t + 2) ty t (t + 1), .mv (x + 1) (.t (t + 2))]) ρ w (x + 1) (.pointer (some ⟨ab, i * sz, none⟩)) := by
 intro a Q hl hQ
 have hsz := hl.size
 refine MW.rg (ML.mv (ML.mv (ML.ia (b := ab) (o := 0) (len := len) (cap := cap) (k := .i64) (j := i) (sz := sz) hs hc ?_ ?_ hil (ML.mv (ML.nil ?_)))))
 ·simp (disch := (first | omega | (simp only [Jj]; omega))) only [Je, JH, MX.of]
  rw [hl.get v hv, hρ]
 ·simp (disch := (first | omega | (simp only [Jj]; omega))) only [Je, JH, MX.of]
  rw [hl.get x hx, hi]
 ·simp (disch := (first | omega | (simp only [Jj]; omega))) only [Je, JH, MX.of]
  rw [Nat.zero_add]
  exact hQ _ (Loc.set (((hl.tmp _ (by omega) (by omega)).tmp _ (by omega) (by omega)).tmp _ (by omega) (by omega)) _ (by omega))
theorem Sets.elemLoad {ty ety v t ab i len cap sz : Nat} {u : Value} (hv : v < L) (hx : x < L) (hxL : x + 1 < L) (ht : L ≤ t) (hN : t + 4 ≤ N) (hs : Jk P ty ety = true) (hc : Jh P ety sz = true)
  (hρ : ρ v = .slice (some ⟨ab, 0, none⟩) len cap) (hi : ρ x = .int .i64 (i : Nat)) (hil : i < len) (hr : (Instr.loadAt ety (.pointer (some ⟨ab, i * sz, none⟩))).run P w = .ok u w) :
  Sets P N L (.rg [.mv t (.t v), .mv (t + 1) (.t x), .ia (t + 2) ty t (t + 1), .ld (t + 3) ety (t + 2), .mv (x + 1) (.t (t + 3))]) ρ w (x + 1) u := by
 intro a Q hl hQ
 have hsz := hl.size
 refine MW.rg (ML.mv (ML.mv (ML.ia (b := ab) (o := 0) (len := len) (cap := cap) (k := .i64) (j := i) (sz := sz) hs hc ?_ ?_ hil (ML.ldBy (v := u) ?_ (ML.mv (ML.nil ?_))))))
 ·simp (disch := (first | omega | (simp only [Jj]; omega))) only [Je, JH, MX.of]
  rw [hl.get v hv, hρ]
 ·simp (disch := (first | omega | (simp only [Jj]; omega))) only [Je, JH, MX.of]
  rw [hl.get x hx, hi]
 ·simp (disch := (first | omega | (simp only [Jj]; omega))) only [Je, JH, MX.of]
  rw [Nat.zero_add]; exact hr
 ·simp (disch := (first | omega | (simp only [Jj]; omega))) only [Je, JH, MX.of]
  exact hQ _ (Loc.set ((((hl.tmp _ (by omega) (by omega)).tmp _ (by omega) (by omega)).tmp _ (by omega) (by omega)).tmp _ (by omega) (by omega)) _ (by omega))
theorem Sets.fldAddr {T vs idx t b o off : Nat} (hp : ρ vs = .pointer (some ⟨b, o, none⟩)) (hvs : vs < L) (hx : x < L) (ht : L ≤ t) (hN : t + 3 ≤ N) (hf : Jd P T idx off = true) :
  Sets P N L (.rg [.mv t (.t vs), .nc (t + 1) t, .fa (t + 2) T (t + 1) idx, .mv x (.t (t + 2))]) ρ w x (.pointer (some ⟨b, o + off, none⟩)) := by
 intro a Q hl hQ
 have hsz := hl.size
 refine MW.rg (ML.mv (ML.nc (p := ⟨b, o, none⟩) ?_ (ML.fa (b := b) (o := o) (off := off) ?_ hf (ML.mv (ML.nil ?_)))))
 ·simp (disch := (first | omega | (simp only [Jj]; omega))) only [Je, JH, MX.of]
  rw [hl.get vs hvs, hp]
 ·simp (disch := (first | omega | (simp only [Jj]; omega))) only [Je, JH, MX.of]
 ·simp (disch := (first | omega | (simp only [Jj]; omega))) only [Je, JH, MX.of]
  exact hQ _ (Loc.set (((hl.tmp _ (by omega) (by omega)).tmp _ (by omega) (by omega)).tmp _ (by omega) (by omega)) _ (by omega))
theorem wrap_small {k : IntKind} {n : Int} (h0 : k.min ≤ n) (h1 : n ≤ k.max) : k.wrap n = n := by
 cases k <;> simp only [IntKind.min, IntKind.max, IntKind.bits, IntKind.signed, if_true, UB, if_false, show ((2 : Int) ^ (8 - 1)) = 128 from rfl, show ((2 : Int) ^ (16 - 1)) = 32768 from rfl, show ((2 : Int) ^ (32 - 1)) = 2147483648 from rfl, show ((2 : Int) ^ (64 - 1)) = 9223372036854775808 from rfl, show ((2 : Int) ^ 8) = 256 from rfl, show ((2 : Int) ^ 16) = 65536 from rfl, show ((2 : Int) ^ 32) = 4294967296 from rfl, show ((2 : Int) ^ 64) = 18446744073709551616 from rfl] at h0 h1 <;>
  simp only [IntKind.wrap, IntKind.bits, IntKind.signed, Bool.true_and, Bool.false_and, decide_eq_true_eq, UB, if_false, show ((2 : Int) ^ (8 - 1)) = 128 from rfl, show ((2 : Int) ^ (16 - 1)) = 32768 from rfl, show ((2 : Int) ^ (32 - 1)) = 2147483648 from rfl, show ((2 : Int) ^ (64 - 1)) = 9223372036854775808 from rfl, show ((2 : Int) ^ 8) = 256 from rfl, show ((2 : Int) ^ 16) = 65536 from rfl, show ((2 : Int) ^ 32) = 4294967296 from rfl, show ((2 : Int) ^ 64) = 18446744073709551616 from rfl] <;> (try split) <;> omega
theorem RepP.int {w : World} {F : Nat → Prop} {k : PK} {kk : IntKind} {cs : List Value} {d : D} (hk : k.kind = some kk) (h : RepP w F k cs d) : ∃ n, cs = [.int kk n] ∧ kk.wrap n = n := by
 cases k <;> simp only [PK.kind, UC, reduceCtorEq] at hk <;> subst hk <;> simp only [RepP] at h <;> obtain ⟨n, h1, _, h2, h3⟩ := h <;>
  exact ⟨n, h1, wrap_small (by simp [IntKind.min, IntKind.bits, IntKind.signed]; omega) (by simp [IntKind.max, IntKind.bits, IntKind.signed]; omega)⟩
theorem genT_tag {I : IA} {sver : Nat} {sf : Option Nat} {s T vs idx off : Nat} {q : TgF} {c : Cnd} {df : Int} {ty : Ty} {rest : Flds} {t x b : Nat} (hc : c.isTag = true) (hs : sf = some s) :
  genT I sver sf T vs (some q) (.cons c idx off df ty rest) t x b = ([.sq (.rg [.mv t (.t s)]) (.cd t (rows (Qg I sver sf s T vs idx q.1.1 df.toNat ty (t + 1) x b).1) .sk)], (Qg I sver sf s T vs idx q.1.1 df.toNat ty (t + 1) x b).2) := by
 subst hs
 simp only [genT, hc, if_true]
mutual
theorem genE_ok (ok : AOK P I S) {ty ety : Nat} : ∀ (el : Ty) {ρ : Nat → Value} {w : World} {L v x t x' b ab i len cap : Nat} {arr : List Value} {d : D},
  wfE P I sf ety el = true → Jk P ty ety = true → Ctx sver sf ver flex x ρ → 1 < v → v < x → x' = x + 2 → (genE I sver sf ty ety el v x t x' b).2.2.1 ≤ L → L ≤ t → (genE I sver sf ty ety el v x t x' b).2.1 ≤ N →
  ρ v = .slice (some ⟨ab, 0, none⟩) len cap → ρ x = .int .i64 (i : Nat) → i < len → ab < B → B ≤ w.heap.size → w.rangeAt ab 0 arr →
  Rep w (· < B) el ((arr.drop (i * el.cells)).take el.cells) d → Sm S el d →
  JK P I.tU8 B N L (genE I sver sf ty ety el v x t x' b).1 ρ w (x + 1) (genE I sver sf ty ety el v x t x' b).2.2.1 (enc ver flex el d)
 | .prim k _, ρ, w, L, v, x, t, x', b, ab, i, len, cap, arr, d, hwf, hsl, hctx, hv1, hvx, hx', hL, ht, hN, hρ, hi, hil, hab, hB, hh, hrep, hsm => by
  subst hx'
  simp only [wfE, UA] at hwf
  obtain ⟨⟨⟨w1, w2⟩, w3⟩, w4⟩ := hwf
  simp only [Ty.cells] at hrep
  unfold Rep at hrep
  unfold Sm at hsm
  have hpl := @primA_le I sf k (x + 1) (t + 4)
  have hrg := rangeAt_sub (hh) (i * k.cells) k.cells
  rw [Nat.zero_add] at hrg
  have hu1 := load_prim w1 hrep hrg
  cases hbx : k.box with
  | true => rw [hbx] at w4; cases w4
  | false =>
  simp only [genE, hbx, UB, if_false] at hL hN ⊢
  refine .inr ⟨_, by omega, by omega, Sets.elemLoad (by omega) (by omega) (by omega) ht (by omega) hsl w2 hρ hi hil hu1, ?_⟩
  have hctx' : Ctx sver sf ver flex (x + 1 + 1) (upd ρ (x + 1) (asV k ((arr.drop (i * k.cells)).take k.cells))) := (hctx.le (Nat.le_succ x)).upd
  refine .inl ⟨_, [], x + 2, (List.append_nil _).symm, Nat.le_refl _, Nat.le_refl _, ?_, fun _ _ _ _ => ⟨rfl, rfl⟩⟩
  unfold enc
  exact JB.primA ok hctx' (by omega) (by omega) (by omega) hN hB w3 (Ja _ _ _) hrep hsm
 | .struct T n df tg fs, ρ, w, L, v, x, t, x', b, ab, i, len, cap, arr, d, hwf, hsl, hctx, hv1, hvx, hx', hL, ht, hN, hρ, hi, hil, hab, hB, hh, hrep, hsm => by
  subst hx'
  simp only [wfE, UA] at hwf
  obtain ⟨⟨w1, w2⟩, w3⟩ := hwf
  simp only [genE] at hL hN ⊢
  simp only [Ty.cells] at hrep
  unfold Rep at hrep
  obtain ⟨ds, tags, rfl, hcn, hrf, htg⟩ := hrep
  unfold Sm at hsm
  obtain ⟨hs1, hs2⟩ := hsm
  have hle := @genF_le I sver sf T (x + 1) fs (t + 3) (x + 2) b
  have hle2 := @genT_le I sver sf T (x + 1) tg fs (genF I sver sf T (x + 1) fs (t + 3) (x + 2) b).2.1 (genF I sver sf T (x + 1) fs (t + 3) (x + 2) b).2.2.1 (genF I sver sf T (x + 1) fs (t + 3) (x + 2) b).2.2.2
  have hrg := rangeAt_sub (hh) (i * n) n
  rw [Nat.zero_add] at hrg
  refine .inr ⟨_, by omega, by omega, Sets.elemAddr (by omega) (by omega) (by omega) ht (by omega) hsl w1 hρ hi hil, ?_⟩
  have hctx' : Ctx sver sf ver flex (x + 1 + 1) (upd ρ (x + 1) (.pointer (some ⟨ab, i * n, none⟩))) := (hctx.le (Nat.le_succ x)).upd
  unfold enc
  refine JK.append (y := (genF I sver sf T (x + 1) fs (t + 3) (x + 2) b).2.2.1)
   (genF_ok ok fs w2 hctx' (by omega) (by omega) (Nat.le_trans hle2.2 hL) (by omega) (by omega) (Ja _ _ _) hab hB hrg hrf hs1) hle2.2 ?_
  intro ρ' w' hk hb
  exact genT_ok ok fs w3 (hctx'.keep hk (by omega) hle.2) hL (by omega) (by omega) (by omega) hN (by rw [hk _ (by omega) (by omega) (.inl (by omega)), Ja]) hab (Nat.le_trans hB hb.size)
   (fun j u hu => by rw [Ji (hb.block ab hab)]; exact hrg j u hu) (RepF.mono (fun _ h => h) (fun b h => hb.block b h) fs hrf) hs1
   (htg.mono (fun _ h => h) (fun b h => hb.block b h)) hs2
 | .enum .., ρ, w, L, v, x, t, x', b, ab, i, len, cap, arr, d, hwf, hsl, hctx, hv1, hvx, hx', hL, ht, hN, hρ, hi, hil, hab, hB, hh, hrep, hsm => by simp [wfE] at hwf
 | .vstr .., ρ, w, L, v, x, t, x', b, ab, i, len, cap, arr, d, hwf, hsl, hctx, hv1, hvx, hx', hL, ht, hN, hρ, hi, hil, hab, hB, hh, hrep, hsm => by simp [wfE] at hwf
 | .arr .., ρ, w, L, v, x, t, x', b, ab, i, len, cap, arr, d, hwf, hsl, hctx, hv1, hvx, hx', hL, ht, hN, hρ, hi, hil, hab, hB, hh, hrep, hsm => by simp [wfE] at hwf
theorem genF_ok (ok : AOK P I S) {T vs : Nat} : ∀ (fs : Flds) {ρ : Nat → Value} {w : World} {L t x b pb po : Nat} {cs : List Value} {ds : List D},
  wfF P I sf T fs = true → Ctx sver sf ver flex x ρ → vs ≠ 1 → vs < x → (genF I sver sf T vs fs t x b).2.2.1 ≤ L → L ≤ t → (genF I sver sf T vs fs t x b).2.1 ≤ N →
  ρ vs = .pointer (some ⟨pb, po, none⟩) → pb < B → B ≤ w.heap.size → w.rangeAt pb po cs → RepF w (· < B) fs cs ds → SmF S fs ds →
  JK P I.tU8 B N L (genF I sver sf T vs fs t x b).1 ρ w x (genF I sver sf T vs fs t x b).2.2.1 (encF ver flex fs ds)
 | .nil, ρ, w, L, t, x, b, pb, po, cs, ds, hwf, hctx, hv1, hvx, hL, ht, hN, hp, hpb, hB, hc, hrep, hsm => by
  simp only [genF]
  unfold encF
  exact ⟨rfl, rfl⟩
 | .cons c idx off df ty rest, ρ, w, L, t, x, b, pb, po, cs, ds, hwf, hctx, hv1, hvx, hL, ht, hN, hp, hpb, hB, hc, hrep, hsm => by
  simp only [wfF, UA] at hwf
  obtain ⟨⟨w1, w2⟩, w3⟩ := hwf
  unfold RepF at hrep
  obtain ⟨h0, d, ds', rfl, hr1, hr2⟩ := hrep
  unfold SmF at hsm
  simp only [List.headD_cons, List.tail_cons] at hsm
  obtain ⟨s1, s2⟩ := hsm
  simp only [genF] at hL hN ⊢
  unfold encF
  simp only [List.headD_cons, List.tail_cons]
  cases htg0 : c.isTag with
  | true =>
   have hok : c.ok ver = false := by cases c <;> first | rfl | cases htg0
   rw [htg0] at hL hN
   simp only [if_true] at hL hN
   simp only [hok, UB, if_false, if_true, List.nil_append]
   exact genF_ok ok rest w3 hctx hv1 hvx hL ht hN hp hpb hB hc hr2 s2
  | false =>
  rw [htg0] at hL hN w2
  simp only [UB, if_false, Bool.false_or] at hL hN w2 ⊢
  have hfx : ∀ t', (JS I sver sf T vs idx ty t' x b).2.2.1 = (JS I sver sf T vs idx ty t x b).2.2.1 := fun t' => genFld_x ty
  have hcx : (condA I sver c t (fun t => JS I sver sf T vs idx ty t x b)).2.2.1 = (JS I sver sf T vs idx ty t x b).2.2.1 := condA_x hfx
  have hfl := @Q3 I sver sf T vs idx ty t x b
  have hct : t ≤ (condA I sver c t (fun t => JS I sver sf T vs idx ty t x b)).2.1 := condA_le (fun t => (@Q3 I sver sf T vs idx ty t x b).1)
  have hrl := @genF_le I sver sf T vs rest (condA I sver c t (fun t => JS I sver sf T vs idx ty t x b)).2.1 (condA I sver c t (fun t => JS I sver sf T vs idx ty t x b)).2.2.1 (condA I sver c t (fun t => JS I sver sf T vs idx ty t x b)).2.2.2
  refine .inl ⟨_, _, (condA I sver c t (fun t => JS I sver sf T vs idx ty t x b)).2.2.1, rfl, by omega, hrl.2, ?_, ?_⟩
  ·rw [hcx]
   refine JB.condA htg0 (by have := hctx.vx; omega) hctx.ver ht hfx hfl.2 (fun t => (@Q3 I sver sf T vs idx ty t x b).1) (by omega) ?_
   intro _ t' ht' hN'
   rw [← hfx t']
   exact genFld_ok ok ty w1 w2 hctx hv1 hvx (by rw [hfx t']; omega) ht' hN' hp hpb hB (rangeAt_sub hc off ty.cells) hr1 s1
  ·intro ρ' w' hk hb
   exact genF_ok ok rest w3 (hctx.keep hk (by omega) (by omega)) hv1 (by omega) hL (by omega) hN
    (by rw [hk _ (by omega) (by omega) (.inl hvx)]; exact hp) hpb (Nat.le_trans hB hb.size)
    (fun j u hu => by rw [Ji (hb.block pb hpb)]; exact hc j u hu) (RepF.mono (fun _ h => h) (fun b h => hb.block b h) rest hr2) s2
theorem genT_ok (ok : AOK P I S) {T vs : Nat} {tg : Option TgF} : ∀ (fs : Flds) {ρ : Nat → Value} {w : World} {L t x b pb po : Nat} {cs : List Value} {ds : List D} {tags : List (Nat × List UInt8)},
  wfG P I sf T tg fs = true → Ctx sver sf ver flex x ρ → (genT I sver sf T vs tg fs t x b).2.2.1 ≤ L → vs < x → vs ≠ 1 → L ≤ t → (genT I sver sf T vs tg fs t x b).2.1 ≤ N →
  ρ vs = .pointer (some ⟨pb, po, none⟩) → pb < B → B ≤ w.heap.size → w.rangeAt pb po cs → RepF w (· < B) fs cs ds → SmF S fs ds → TagsAt w (· < B) tg cs tags → S tags →
  JK P I.tU8 B N L (genT I sver sf T vs tg fs t x b).1 ρ w x (genT I sver sf T vs tg fs t x b).2.2.1 (if tg.isSome && flex then Jz (tagF ver flex fs ds ++ tags) else [])
 | .nil, ρ, w, L, t, x, b, pb, po, cs, ds, tags, hwf, hctx, hL, hvx, hv1, ht, hN, hp, hpb, hB, hc, hrep, hsm, htg, hS => by
  simp only [genT] at hL hN ⊢
  simp only [wfG] at hwf
  rw [tagF, List.nil_append]
  exact tags_of ok hctx hL hvx hv1 ht hN hp hpb hB hwf hc htg hS
 | .cons c idx off df ty rest, ρ, w, L, t, x, b, pb, po, cs, ds, tags, hwf, hctx, hL, hvx, hv1, ht, hN, hp, hpb, hB, hc, hrep, hsm, htg, hS => by
  unfold RepF at hrep
  obtain ⟨h0, d, ds', rfl, hr1, hr2⟩ := hrep
  unfold SmF at hsm
  simp only [List.headD_cons, List.tail_cons] at hsm
  obtain ⟨s1, s2⟩ := hsm
  simp only [wfG] at hwf
  rw [tagF]
  simp only [List.headD_cons, List.tail_cons]
  cases hct : c.isTag with
  | false =>
   simp only [genT, hct, UB, if_false] at hL hN hwf ⊢
   simp only [Bool.false_and, UB, if_false, List.nil_append]
   exact genT_ok ok rest hwf hctx hL hvx hv1 ht hN hp hpb hB hc hr2 s2 htg hS
  | true =>
   rw [hct] at hwf
   simp only [if_true] at hwf
   simp only [Bool.true_and]
   cases tg with
   | none => cases hwf
   | some q =>
   simp only [UA] at hwf
   obtain ⟨⟨w1, w2⟩, w3⟩ := hwf
   simp only [wfQ, UA] at w1
   obtain ⟨⟨⟨⟨⟨v1, v2⟩, v3⟩, v4⟩, v5⟩, v6⟩ := w1
   have hnt : JO rest = false := by simpa using v6
   rw [tagF_no ver flex hnt, List.append_nil]
   obtain ⟨s, hsf⟩ := Option.isSome_iff_exists.1 v1
   rw [genT_tag hct hsf] at hL hN ⊢
   obtain ⟨f1, f2, f3⟩ := hctx.f1 s hsf
   have kc := ok.kt (ne0 v5) (ne0 v4)
   obtain ⟨⟨tidx, kn⟩, toff⟩ := q
   obtain rfl : kn = [] := by cases kn <;> simp_all
   simp only at hL hN ⊢
   obtain ⟨m, kb, un, e1, e2, e3, rfl, e5⟩ := htg
   have e3' : kb = [] := e3
   subst e3'
   simp only [List.nil_append] at hS ⊢
   have hsmall := ok.small _ hS
   have hx1 := hctx.hx
   have hle := @genPay_le I sver sf s T vs idx tidx df.toNat ty (t + 1) x b
   refine .inl ⟨_, [], _, (List.append_nil _).symm, hle.2, Nat.le_refl _, ?_, fun _ _ _ _ => ⟨rfl, rfl⟩⟩
   simp only [Option.isSome_some, Bool.true_and]
   refine JB.ifTag (by omega) f3 ht (by omega) hle.2 (fun hfx r bs hr ho hlim => ?_) (by omega)
   have hv : r vs = .pointer (some ⟨pb, po, none⟩) := by rw [hr vs (by omega)]; exact hp
   have hs : r s = .bool true := by rw [hr s (by omega), f3, hfx]
   exact genPay_ok ok kc hfx ty (cs' := (cs.drop off).take ty.cells) (r := r) (L := L) w3 w2 v3 rfl (fun s' h => by rw [hr s' (by omega)]) hctx hL hvx hv1 f2 (by omega) (by omega) hN hv hs hpb hB hc hr1 s1 e1 e2 hsmall.1 hS ho hlim
theorem genPay_ok (ok : AOK P I S) (kc : KtC P I S) (hfx : flex = true) {s T vs idx off tidx toff lbl : Nat} : ∀ (ty : Ty) {ρ r : Nat → Value} {w : World} {L t x b pb po : Nat} {cs cs' : List Value} {d : D} {m : Value} {un : List (Nat × List UInt8)} {bs : List UInt8},
  wfPay P I sf ty = true → Jd P T idx off = true → Jd P T tidx toff = true → cs' = (cs.drop off).take ty.cells → (∀ s, s < x → r s = ρ s) → Ctx sver sf ver flex x ρ → (Qg I sver sf s T vs idx tidx lbl ty t x b).2.2.1 ≤ L → vs < x → vs ≠ 1 → s < x → s ≠ 1 → L ≤ t → (Qg I sver sf s T vs idx tidx lbl ty t x b).2.1 ≤ N →
  r vs = .pointer (some ⟨pb, po, none⟩) → r s = .bool true → pb < B → B ≤ w.heap.size → w.rangeAt pb po cs → Rep w (· < B) ty cs' d → Sm S ty d → cs[toff]? = some m → RepT w (· < B) m un → un.length ≤ 40000 → S un → OwnB I.tU8 w B (r 1) bs →
  bs.length + (Jz ((if !QC ty d then [(0, enc ver flex ty d)] else []) ++ un)).length ≤ lim →
  RW P N (rows (Qg I sver sf s T vs idx tidx lbl ty t x b).1) (fun e ρ' w' => e = .normal ∧ (∀ s', s' < L → s' ≠ 1 → (s' < x ∨ (Qg I sver sf s T vs idx tidx lbl ty t x b).2.2.1 ≤ s') → ρ' s' = r s') ∧ OwnB I.tU8 w' B (ρ' 1) (bs ++ Jz ((if !QC ty d then [(0, enc ver flex ty d)] else []) ++ un)) ∧ Below B w w') r w
 | .prim .., ρ, r, w, L, t, x, b, pb, po, cs, cs', d, m, un, bs, hwf, _, _, _, _, _, _, _, _, _, _, _, _, _, _, _, _, _, _, _, _, _, _, _, _, _ => by simp [wfPay] at hwf
 | .enum .., ρ, r, w, L, t, x, b, pb, po, cs, cs', d, m, un, bs, hwf, _, _, _, _, _, _, _, _, _, _, _, _, _, _, _, _, _, _, _, _, _, _, _, _, _ => by simp [wfPay] at hwf
 | .vstr .., ρ, r, w, L, t, x, b, pb, po, cs, cs', d, m, un, bs, hwf, _, _, _, _, _, _, _, _, _, _, _, _, _, _, _, _, _, _, _, _, _, _, _, _, _ => by simp [wfPay] at hwf
 | .struct T' n dfn none fs, ρ, r, w, L, t, x, b, pb, po, cs, cs', d, m, un, bs, hwf, _, _, _, _, _, _, _, _, _, _, _, _, _, _, _, _, _, _, _, _, _, _, _, _, _ => by simp [wfPay] at hwf
 | .struct T' n dfn (some q) fs, ρ, r, w, L, t, x, b, pb, po, cs, cs', d, m, un, bs, hwf, hF, hFt, hcs', hr, hctx, hL, hvx, hv1, hsx, hs1, ht, hN, hv, hs, hpb, hB, hc, hrep, hsm, gt, hrt, hul, hS, ho, hlim => by
  simp only [wfPay] at hwf
  have hw0 := hwf
  obtain ⟨i1, i2, o1, o2, t1, t2, d1, d2, n1, n2, m', un', rfl, hcs3, hr', hS', k1, k2, f1, f2, p1, p2, hus, henc⟩ := s2_rep hw0 hrep hsm ok.small
  simp only [wfS2, UA, Nat.beq_eq] at hwf
  obtain ⟨⟨⟨⟨⟨⟨⟨⟨⟨⟨a1, a2⟩, a3⟩, a4⟩, a5⟩, a6⟩, a7⟩, a8⟩, a9⟩, a10⟩, a11⟩ := hwf
  obtain ⟨z, hz, hzn⟩ := zero3_of a8
  subst a1
  have hd : (cs.drop off).take 3 = [.int .i32 n1, .int .i32 n2, m'] := by rw [← hcs3, hcs']; rfl
  have at_ : ∀ j, j < 3 → cs[off + j]? = ([.int .i32 n1, .int .i32 n2, m'] : List Value)[j]? := fun j hj => by
   rw [← hd, List.getElem?_take, if_pos hj, List.getElem?_drop]
  have hout : (if !QC (.struct T' 3 dfn (some q) (.cons .always i1 o1 d1 (.prim .i32 t1) (.cons .always i2 o2 d2 (.prim .i32 t2) .nil))) d then [(0, enc ver flex (.struct T' 3 dfn (some q) (.cons .always i1 o1 d1 (.prim .i32 t1) (.cons .always i2 o2 d2 (.prim .i32 t2) .nil))) d)] else ([] : List (Nat × List UInt8))) = (if s2U n1 n2 un' then [] else [(0, s2X n1 n2 un')]) := by
   have henc' := henc ver
   rw [← hfx] at henc'
   rw [hus, henc']; cases s2U n1 n2 un' <;> rfl
  rw [hout] at hlim ⊢
  have hne : T' ≠ I.tU8 := fun e => by rw [e] at a9; simp at a9
  have hx1 := hctx.hx
  simp only [Qg] at hL hN ⊢
  have hxe : (payS I s T vs idx tidx lbl T' (.cons .always i1 o1 d1 (.prim .i32 t1) (.cons .always i2 o2 d2 (.prim .i32 t2) .nil)) q.1.1 t x b).2.2.1 = x + 8 := rfl
  have hte : (payS I s T vs idx tidx lbl T' (.cons .always i1 o1 d1 (.prim .i32 t1) (.cons .always i2 o2 d2 (.prim .i32 t2) .nil)) q.1.1 t x b).2.1 = t + 74 := by simp [payS, boxF]
  rw [hxe] at hL
  rw [hte] at hN
  rw [hxe]
  refine payS_ok kc (kc.zs (ne0 a11)) (L := L) (off := off) (toff := toff) (b := pb) (o := po) (B := B) (cs := cs) (m := m) (m' := m') (ux := un) (ux' := un') (bs := bs) (z := z) (ne0 a10) hF hFt f1 f2 a5 p1 p2 a6 a7 hz hzn hne hc (at_ 0 (by omega)) (at_ 1 (by omega)) (at_ 2 (by omega)) hr'.one k1 k2 hr' (ok.small _ hS').1 hS' gt hrt hul hS hpb hB hv hs ho hlim hvx hv1 hsx hs1 hx1 hL ht hN ?_
  intro ρ' w' h1 h2 h3
  exact ⟨rfl, h1, h2, h3⟩
 | .arr nul ty ety el, ρ, r, w, L, t, x, b, pb, po, cs, cs', d, m, un, bs, hwf, hF, hFt, hcs', hr, hctx, hL, hvx, hv1, hsx, hs1, ht, hN, hv, hs, hpb, hB, hc, hrep, hsm, gt, hrt, hul, hS, ho, hlim => by
  simp only [wfPay, UA] at hwf
  obtain ⟨⟨⟨⟨⟨w0, w1⟩, w2⟩, w3⟩, w4⟩, w5⟩ := hwf
  obtain rfl : nul = none := by cases nul <;> simp_all
  unfold Rep at hrep
  obtain ⟨isnul, xs, rfl, hrep⟩ := hrep
  unfold Sm at hsm
  obtain ⟨s1, s2⟩ := hsm
  have hxx := hctx.hx
  obtain ⟨p, cap, hcs, hnu, hel⟩ : ∃ p cap, cs' = [.slice p xs.length cap] ∧ isnul = false ∧
    (xs = [] ∨ ∃ (ab : Nat) (arr : List Value), p = some ⟨ab, 0, none⟩ ∧ ab < B ∧ w.rangeAt ab 0 arr ∧ ∀ i d, xs[i]? = some d → Rep w (· < B) el ((arr.drop (i * el.cells)).take el.cells) d) := by
   rcases hrep with ⟨k1, k2, k3⟩ | ⟨k1, ab, arr, cap, k2, k3, k4, k5, k6⟩
   ·exact ⟨none, 0, by rw [k1, k2]; rfl, by simpa using k3, .inl k2⟩
   ·exact ⟨some ⟨ab, 0, none⟩, cap, k2, k1, .inr ⟨ab, arr, rfl, k3, k4, k6⟩⟩
  subst hnu
  have g0 : cs[off]? = some (.slice p xs.length cap) := by
   have : ((cs.drop off).take 1)[0]? = some (.slice p xs.length cap) := by
    have e : (cs.drop off).take 1 = cs' := by rw [hcs']; rfl
    rw [e, hcs]; rfl
   rw [List.getElem?_take, if_pos (by omega), List.getElem?_drop] at this
   exact this
  have hout : (if !QC (.arr none ty ety el) (.l false xs) then [(0, enc ver flex (.arr none ty ety el) (.l false xs))] else ([] : List (Nat × List UInt8))) = (if xs.length = 0 then [] else [(0, cnt flex 4 xs.length ++ xs.flatMap (enc ver flex el))]) := by
   unfold QC enc
   cases xs <;> simp
  rw [hout] at hlim ⊢
  simp only [Qg] at hL hN ⊢
  have h0 : t + 28 + 8 ≤ (Kx.alenA I sver sf none ty (x + 3) (t + 28 + 8)).2 := alenA_le
  have h1 := @genE_le I sver sf ty ety el (x + 3) (x + 6) ((Kx.alenA I sver sf none ty (x + 3) (t + 28 + 8)).2 + 5) (x + 8) (b + 3 + 2)
  have hlx : (Kx.loopA I.tInt ty (x + 3) (x + 6) (Kx.alenA I sver sf none ty (x + 3) (t + 28 + 8)).2 (b + 3) (fun t' b' => genE I sver sf ty ety el (x + 3) (x + 6) t' (x + 8) b')).2.2.1 = (genE I sver sf ty ety el (x + 3) (x + 6) ((Kx.alenA I sver sf none ty (x + 3) (t + 28 + 8)).2 + 5) (x + 8) (b + 3 + 2)).2.2.1 := rfl
  have hlt : (Kx.loopA I.tInt ty (x + 3) (x + 6) (Kx.alenA I sver sf none ty (x + 3) (t + 28 + 8)).2 (b + 3) (fun t' b' => genE I sver sf ty ety el (x + 3) (x + 6) t' (x + 8) b')).2.1 = (genE I sver sf ty ety el (x + 3) (x + 6) ((Kx.alenA I sver sf none ty (x + 3) (t + 28 + 8)).2 + 5) (x + 8) (b + 3 + 2)).2.1 + 1 := rfl
  refine payL_ok kc (L := L) (xe := (genE I sver sf ty ety el (x + 3) (x + 6) ((Kx.alenA I sver sf none ty (x + 3) (t + 28 + 8)).2 + 5) (x + 8) (b + 3 + 2)).2.2.1) (off := off) (toff := toff) (b := pb) (o := po) (B := B) (cs := cs) (m := m) (ux := un) (bs := bs) (n := xs.length) (cap := cap) (p := p) (X := cnt flex 4 xs.length ++ xs.flatMap (enc ver flex el)) (ety := ety)
   (cc := [(Kx.alenA I sver sf none ty (x + 3) (t + 28 + 8)).1, (Kx.loopA I.tInt ty (x + 3) (x + 6) (Kx.alenA I sver sf none ty (x + 3) (t + 28 + 8)).2 (b + 3) (fun t' b' => genE I sver sf ty ety el (x + 3) (x + 6) t' (x + 8) b')).1])
   hF hFt w1 w2 hc g0 gt hrt hul hS hpb hB hv ho hlim hvx hv1 hxx (by omega) hL ht (by omega) (by omega) ?_ ?_
  ·intro ρ1 w1' q1 q2 b1
   have hctx0 : Ctx sver sf ver flex x ρ1 := {
    hx := hctx.hx
    v1 := hctx.v1
    vx := hctx.vx
    ver := by rw [q1 _ hctx.vx (by have := hctx.v1; omega), hr _ hctx.vx]; exact hctx.ver
    f1 := fun s hs => by
     obtain ⟨g1, g2, g3⟩ := hctx.f1 s hs
     exact ⟨g1, g2, by rw [q1 s g2 (by omega), hr s g2]; exact g3⟩
    f0 := hctx.f0 }
   have hctx1 : Ctx sver sf ver flex (x + 6) ρ1 := hctx0.le (by omega)
   have hB1 := Nat.le_trans hB b1.size
   refine .inl ⟨_, _, x + 6, rfl, Nat.le_refl _, by omega, JB.alenA (nul := none) ok hctx1 (by omega) (by omega) (by omega) (Nat.le_refl _) (by omega) hB1 rfl w5 w2 q2 s1, ?_⟩
   intro ρ' w' hk hb
   have hv' : ρ' (x + 3) = .slice p xs.length cap := by rw [hk _ (by omega) (by omega) (.inl (by omega))]; exact q2
   have hctx2 : Ctx sver sf ver flex (x + 6) ρ' := hctx1.keep hk (by omega) (Nat.le_refl _)
   refine .inl ⟨_, [], _, (List.append_nil _).symm, by omega, Nat.le_refl _, ?_, fun _ _ _ _ => ⟨rfl, rfl⟩⟩
   refine JB.loopA (v := x + 3) (x := x + 6) (t := (Kx.alenA I sver sf none ty (x + 3) (t + 28 + 8)).2) xs (enc ver flex el) (by omega) (by omega) (by omega) (by omega) (by omega) (by omega) (by omega) (by omega) h1.1 w2 hv' rfl (by omega) ?_
   intro i d hd ρ2 w2' hk2 hb2 hi2
   rcases hel with h | ⟨ab, arr, hpe, hab, hh, hall⟩
   ·rw [h] at hd; simp at hd
   ·have hb' := (b1.trans hb).trans hb2
    have hblk : w2'.heap[ab]? = w.heap[ab]? := hb'.block ab hab
    have hc3 : Ctx sver sf ver flex (x + 6) ρ2 := hctx2.keep0 (L := t + 28 + 8) (y := (genE I sver sf ty ety el (x + 3) (x + 6) ((Kx.alenA I sver sf none ty (x + 3) (t + 28 + 8)).2 + 5) (x + 8) (b + 3 + 2)).2.2.1) hk2 (by omega)
    refine genE_ok ok el (v := x + 3) (x := x + 6) (x' := x + 8) (L := (Kx.alenA I sver sf none ty (x + 3) (t + 28 + 8)).2 + 3) (t := (Kx.alenA I sver sf none ty (x + 3) (t + 28 + 8)).2 + 5) (b := b + 3 + 2) (len := xs.length) (cap := cap) (ab := ab) (i := i) (arr := arr) w4 w2 hc3 (by omega) (by omega) rfl (by omega) (by omega) (by omega) ?_ hi2 ?_ hab (Nat.le_trans hB hb'.size) (fun j u hu => by rw [Ji hblk]; exact hh j u hu) ?_ (s2 d (List.mem_of_getElem? hd))
    ·rw [hk2 (x + 3) (by omega) (by omega) (by omega), hv', hpe]
    ·exact (List.getElem?_eq_some_iff.1 hd).1
    ·exact Rep.mono (fun _ h => h) (fun b h => hb'.block b h) el (hall i d hd)
  ·intro ρ' w' h1 h2 h3
   exact ⟨rfl, h1, h2, h3⟩
theorem genFld_ok (ok : AOK P I S) {T vs idx off : Nat} : ∀ (ty : Ty) {ρ : Nat → Value} {w : World} {L t x b pb po : Nat} {cs : List Value} {d : D},
  Jd P T idx off = true → wfFld P I sf ty = true → Ctx sver sf ver flex x ρ → vs ≠ 1 → vs < x → (JS I sver sf T vs idx ty t x b).2.2.1 ≤ L → L ≤ t → (JS I sver sf T vs idx ty t x b).2.1 ≤ N →
  ρ vs = .pointer (some ⟨pb, po, none⟩) → pb < B → B ≤ w.heap.size → w.rangeAt pb (po + off) cs → Rep w (· < B) ty cs d → Sm S ty d →
  JB P I.tU8 B N L (JS I sver sf T vs idx ty t x b).1 ρ w x (JS I sver sf T vs idx ty t x b).2.2.1 (enc ver flex ty d)
 | .prim k ty, ρ, w, L, t, x, b, pb, po, cs, d, hf, hwf, hctx, hv1, hvx, hL, ht, hN, hp, hpb, hB, hc, hrep, hsm => by
  simp only [wfFld, UA] at hwf
  obtain ⟨⟨w1, w2⟩, w3⟩ := hwf
  simp only [JS] at hL hN ⊢
  unfold Rep at hrep
  unfold Sm at hsm
  unfold enc
  have hpl := @primA_le I sf k x (t + 4)
  have hu1 := load_prim w1 hrep hc
  unfold primFldA at hN ⊢
  cases hbx : k.box with
  | true => rw [hbx] at w3; cases w3
  | false =>
  rw [hbx] at hN
  simp only [UB, if_false, Kx.loadA] at hN ⊢
  refine Sets.then (Sets.loadA hp (by omega) (by omega) ht (by omega) hf hu1) (by have := hctx.hx; omega) ?_ (Nat.le_refl _)
  exact JB.primA ok hctx.upd hL (by omega) (by omega) hN hB w2 (Ja _ _ _) hrep hsm
 | .enum k ty base, ρ, w, L, t, x, b, pb, po, cs, d, hf, hwf, hctx, hv1, hvx, hL, ht, hN, hp, hpb, hB, hc, hrep, hsm => by simp [wfFld] at hwf
 | .vstr lim ty base, ρ, w, L, t, x, b, pb, po, cs, d, hf, hwf, hctx, hv1, hvx, hL, ht, hN, hp, hpb, hB, hc, hrep, hsm => by simp [wfFld] at hwf
 | .arr nul ty ety el, ρ, w, L, t, x, b, pb, po, cs, d, hf, hwf, hctx, hv1, hvx, hL, ht, hN, hp, hpb, hB, hc, hrep, hsm => by
  simp only [wfFld, UA] at hwf
  obtain ⟨⟨⟨⟨w1, w2⟩, w3⟩, w4⟩, w5n, w5⟩ := hwf
  have hnul : nul = none := by cases nul <;> first | rfl | cases w5n
  simp only [JS] at hL hN ⊢
  unfold Rep at hrep
  obtain ⟨isnul, xs, rfl, hrep⟩ := hrep
  unfold Sm at hsm
  obtain ⟨s1, s2⟩ := hsm
  have hl2 : (Kx.loadA T vs idx ty x t).2 = t + 4 := rfl
  rw [hl2] at hL hN ⊢
  have h0 : t + 4 ≤ (Kx.alenA I sver sf nul ty x (t + 4)).2 := alenA_le
  have h1 := @genE_le I sver sf ty ety el x (x + 1) ((Kx.alenA I sver sf nul ty x (t + 4)).2 + 5) (x + 3) (b + 2)
  have hlx : (Kx.loopA I.tInt ty x (x + 1) (Kx.alenA I sver sf nul ty x (t + 4)).2 b (fun t' b' => genE I sver sf ty ety el x (x + 1) t' (x + 3) b')).2.2.1 = (genE I sver sf ty ety el x (x + 1) ((Kx.alenA I sver sf nul ty x (t + 4)).2 + 5) (x + 3) (b + 2)).2.2.1 := rfl
  have hlt : (Kx.loopA I.tInt ty x (x + 1) (Kx.alenA I sver sf nul ty x (t + 4)).2 b (fun t' b' => genE I sver sf ty ety el x (x + 1) t' (x + 3) b')).2.1 = (genE I sver sf ty ety el x (x + 1) ((Kx.alenA I sver sf nul ty x (t + 4)).2 + 5) (x + 3) (b + 2)).2.1 + 1 := rfl
  have hxx := hctx.hx
  obtain ⟨p, cap, hcs, hpn, hel⟩ : ∃ p cap, cs = [.slice p xs.length cap] ∧ (isnul = (nul.isSome && p.isNone)) ∧
    (xs = [] ∨ ∃ (ab : Nat) (arr : List Value), p = some ⟨ab, 0, none⟩ ∧ ab < B ∧ w.rangeAt ab 0 arr ∧ ∀ i d, xs[i]? = some d → Rep w (· < B) el ((arr.drop (i * el.cells)).take el.cells) d) := by
   rcases hrep with ⟨k1, k2, k3⟩ | ⟨k1, ab, arr, cap, k2, k3, k4, k5, k6⟩
   ·exact ⟨none, 0, by rw [k1, k2]; rfl, by simp [k3], .inl k2⟩
   ·exact ⟨some ⟨ab, 0, none⟩, cap, k2, by simp [k1], .inr ⟨ab, arr, rfl, k3, k4, k6⟩⟩
  have hu1 : (Instr.loadAt ty (.pointer (some ⟨pb, po + off, none⟩))).run P w = .ok (.slice p xs.length cap) w := QG w1 (by have := hc 0 (.slice p xs.length cap) (by rw [hcs]; rfl); simpa using this)
  refine Sets.then (Sets.loadA hp (by omega) (by omega) ht (by omega) hf hu1) (by omega) ?_ (by omega)
  refine JK.rows (cs := [(Kx.alenA I sver sf nul ty x (t + 4)).1, (Kx.loopA I.tInt ty x (x + 1) (Kx.alenA I sver sf nul ty x (t + 4)).2 b (fun t' b' => genE I sver sf ty ety el x (x + 1) t' (x + 3) b')).1]) ?_
  have hctx1 : Ctx sver sf ver flex (x + 1) (upd ρ x (.slice p xs.length cap)) := hctx.upd
  have hlen : JB P I.tU8 B N L (Kx.alenA I sver sf nul ty x (t + 4)).1 (upd ρ x (.slice p xs.length cap)) w (x + 1) (x + 1) (if nul.isSome && p.isNone && vNul nul ver then J9 flex 4 else cnt flex 4 xs.length) :=
   JB.alenA ok hctx1 (by omega) (by omega) (by omega) (by omega) (by omega) hB hnul w5 w2 (Ja _ _ _) s1
  have hout : enc ver flex (.arr nul ty ety el) (.l isnul xs) = (if nul.isSome && p.isNone && vNul nul ver then J9 flex 4 else cnt flex 4 xs.length) ++ xs.flatMap (enc ver flex el) := by
   unfold enc
   rw [← hpn]
   cases hnn : isnul
   ·simp
   ·have : xs = [] := by
     rcases hel with h | ⟨ab, arr, h, _⟩
     ·exact h
     ·rw [hnn, h] at hpn; simp at hpn
    simp [this]
  rw [hout]
  refine .inl ⟨_, _, x + 1, rfl, Nat.le_refl _, by omega, hlen, ?_⟩
  intro ρ' w' hk hb
  have hv' : ρ' x = .slice p xs.length cap := by rw [hk _ (by omega) (by omega) (.inl (by omega)), Ja]
  have hctx2 : Ctx sver sf ver flex (x + 1) ρ' := hctx1.keep hk (by omega) (Nat.le_refl _)
  refine .inl ⟨_, [], _, (List.append_nil _).symm, by omega, Nat.le_refl _, ?_, fun _ _ _ _ => ⟨rfl, rfl⟩⟩
  refine JB.loopA (v := x) (x := x + 1) (t := (Kx.alenA I sver sf nul ty x (t + 4)).2) xs (enc ver flex el) (by omega) (by omega) (by omega) (by omega) (by omega) (by omega) (by omega) hN h1.1 w2 hv' rfl (by omega) ?_
  intro i d hd ρ2 w2' hk2 hb2 hi2
  rcases hel with h | ⟨ab, arr, hpe, hab, hh, hall⟩
  ·rw [h] at hd; simp at hd
  ·have hb' := hb.trans hb2
   have hblk : w2'.heap[ab]? = w.heap[ab]? := hb'.block ab hab
   refine genE_ok ok el (len := xs.length) (cap := cap) (ab := ab) (i := i) (arr := arr) w4 w2 ?_ (by omega) (by omega) rfl (by omega) (by omega) (by omega) ?_ hi2 ?_ hab (Nat.le_trans hB hb'.size) (fun j u hu => by rw [Ji hblk]; exact hh j u hu) ?_ (s2 d (List.mem_of_getElem? hd))
   ·exact hctx2.keep0 hk2 (by omega)
   ·rw [hk2 x (by omega) (by omega) (by omega), hv', hpe]
   ·exact (List.getElem?_eq_some_iff.1 hd).1
   ·exact Rep.mono (fun _ h => h) (fun b h => hb'.block b h) el (hall i d hd)
 | .struct T' n df tg fs, ρ, w, L, t, x, b, pb, po, cs, d, hf, hwf, hctx, hv1, hvx, hL, ht, hN, hp, hpb, hB, hc, hrep, hsm => by
  simp only [wfFld, UA] at hwf
  obtain ⟨w1, w2⟩ := hwf
  simp only [JS] at hL hN ⊢
  unfold Rep at hrep
  obtain ⟨ds, tags, rfl, hcn, hrf, htg⟩ := hrep
  unfold Sm at hsm
  obtain ⟨s1, s2⟩ := hsm
  unfold enc
  have hle := @genF_le I sver sf T' x fs (t + 3) (x + 1) b
  have hle2 := @genT_le I sver sf T' x tg fs (genF I sver sf T' x fs (t + 3) (x + 1) b).2.1 (genF I sver sf T' x fs (t + 3) (x + 1) b).2.2.1 (genF I sver sf T' x fs (t + 3) (x + 1) b).2.2.2
  have hxx := hctx.hx
  refine JK.rows (.inr ⟨_, by omega, by omega, Sets.fldAddr hp (by omega) (by omega) ht (by omega) hf, ?_⟩)
  have hctx' : Ctx sver sf ver flex (x + 1) (upd ρ x (.pointer (some ⟨pb, po + off, none⟩))) := hctx.upd
  refine JK.append (y := (genF I sver sf T' x fs (t + 3) (x + 1) b).2.2.1)
   (genF_ok ok fs w1 hctx' (by omega) (by omega) (Nat.le_trans hle2.2 hL) (by omega) (by omega) (Ja _ _ _) hpb hB hc hrf s1) hle2.2 ?_
  intro ρ' w' hk hb
  exact genT_ok ok fs w2 (hctx'.keep hk (by omega) hle.2) hL (by omega) (by omega) (by omega) hN (by rw [hk _ (by omega) (by omega) (.inl (by omega)), Ja]) hpb (Nat.le_trans hB hb.size)
   (fun j u hu => by rw [Ji (hb.block pb hpb)]; exact hc j u hu) (RepF.mono (fun _ h => h) (fun b h => hb.block b h) fs hrf) s1
   (htg.mono (fun _ h => h) (fun b h => hb.block b h)) s2
end
end
end Go.Kx
namespace Go.Kx
open Go.RowKit
set_option linter.unusedSimpArgs false
set_option linter.unusedVariables false
structure Plan where
 T : Nat
 fl : Option Nat
 tg : Option TgF
 fs : Flds
def Plan.sf (p : Plan) : Option Nat := p.fl.map fun _ => 6
def Plan.x0 (p : Plan) : Nat := match p.fl with | none => 6 | some _ => 7
def Plan.flex (p : Plan) (ver : Int) : Bool := match p.fl with | none => false | some k => decide ((k : Int) ≤ ver)
def QJ (I : IA) (p : Plan) (t : Nat) : List Jc × Nat :=
 let h := [Jc.rg [.mv 4 (.c .nslice)], (loadA p.T 0 0 I.tI16 5 t).1, .rg [.mv (t + 4) (.t 5)]]
 match p.fl with
 | none => (h, t + 5)
 | some k => (h ++ [.rg [.mv (t + 5) (.t 5), .bi (t + 6) .geq I.tI16 (.t (t + 5)) (.c (.int .i16 k)), .mv 6 (.t (t + 6))], .rg [.mv (t + 7) (.t 6)]], t + 8)
def bodyA (I : IA) (p : Plan) (L : Nat) : List Jc × Nat × Nat :=
 let h := QJ I p L
 let f := genF I 5 p.sf p.T 0 p.fs h.2 p.x0 0
 let g := genT I 5 p.sf p.T 0 p.tg p.fs f.2.1 f.2.2.1 f.2.2.2
 (f.1 ++ g.1, g.2.1, g.2.2.1)
def topA (I : IA) (p : Plan) (L : Nat) : Jc :=
 let b := bodyA I p L
 rows ((QJ I p L).1 ++ (b.1 ++ [.rg [.mv b.2.1 (.t 1), .mv 4 (.t b.2.1)], .rt]))
def okTop (P : Program) (I : IA) (p : Plan) (L N : Nat) : Bool :=
 wfF P I p.sf p.T p.fs && wfG P I p.sf p.T p.tg p.fs && Jd P p.T 0 0 && Jm P I.tI16 && decide ((bodyA I p L).2.2 ≤ L) && decide ((bodyA I p L).2.1 + 1 ≤ N) && decide (7 ≤ L)
def Qj (p : Plan) (ver : Int) (ds : List D) (tags : List (Nat × List UInt8)) : List UInt8 :=
 encF ver (p.flex ver) p.fs ds ++ (if p.tg.isSome && p.flex ver then Jz (tagF ver (p.flex ver) p.fs ds ++ tags) else [])
structure MsgAt (w : World) (F : Nat → Prop) (p : Plan) (a : Addr) (ver : Int) (ds : List D) (tags : List (Nat × List UInt8)) (cs : List Value) : Prop where
 spot : a.spot = none
 blk : F a.block
 at_ : w.rangeAt a.block a.off cs
 v0 : cs[0]? = some (.int .i16 ver)
 flds : RepF w F p.fs cs ds
 tgs : TagsAt w F p.tg cs tags
theorem MsgAt.mono {w w' : World} {F F' : Nat → Prop} {p : Plan} {a : Addr} {ver : Int} {ds : List D} {tags : List (Nat × List UInt8)} {cs : List Value} (h : MsgAt w F p a ver ds tags cs)
  (hF : ∀ b, F b → F' b) (hw : ∀ b, F b → w'.heap[b]? = w.heap[b]?) : MsgAt w' F' p a ver ds tags cs where
 spot := h.spot
 blk := hF _ h.blk
 at_ := fun j u hu => by
  have := h.at_ j u hu
  rwa [← Ji (w := w) (w' := w') (a := ⟨a.block, a.off + j, none⟩) (hw _ h.blk)] at this
 v0 := h.v0
 flds := RepF.mono hF hw _ h.flds
 tgs := h.tgs.mono hF hw
section
variable {P : Program} {I : IA} {S : List (Nat × List UInt8) → Prop}
theorem rows_append {U B N L : Nat} : ∀ {cs ds : List Jc} {ρ : Nat → Value} {w : World} {x x' : Nat} {out : List UInt8} {a : Act} {bs : List UInt8} {Q : Exit → Act → World → Prop}, ds ≠ [] → JK P U B N L cs ρ w x x' out →
  Loc N L ρ a → OwnB U w B (ρ 1) bs → bs.length + out.length ≤ lim →
  (∀ a' w' ρ', Loc N L ρ' a' → Keep L x x' ρ ρ' → OwnB U w' B (ρ' 1) (bs ++ out) → Below B w w' → MW P (rows ds) Q a' w') → MW P (rows (cs ++ ds)) Q a w
 | [], ds, ρ, w, x, x', out, a, bs, Q, hds, h, hl, ho, hlim, hQ => by
  obtain ⟨rfl, rfl⟩ := h
  exact hQ a w ρ hl (Keep.refl _ _ _ _) (by simpa using ho) (Below.refl _ _)
 | c :: cs, ds, ρ, w, x, x', out, a, bs, Q, hds, h, hl, ho, hlim, hQ => by
  have hne : ∃ d ds', cs ++ ds = d :: ds' := by
   cases cs with
   | nil => cases ds with
    | nil => exact absurd rfl hds
    | cons d ds' => exact ⟨d, ds', rfl⟩
   | cons d cs' => exact ⟨d, cs' ++ ds, rfl⟩
  obtain ⟨d, ds', hd⟩ := hne
  have hrow : rows (c :: cs ++ ds) = .sq c (rows (cs ++ ds)) := by
   rw [List.cons_append, hd]; rfl
  rw [hrow]
  rcases h with ⟨o1, o2, y, rfl, h1, h2, h3, h4⟩ | ⟨v, h1, h2, h3, h4⟩
  ·simp only [UD] at hlim
   refine MW.sq (h3 a bs _ hl ho (by omega) ?_)
   intro a' w' ρ' g1 g2 g3 g4
   refine rows_append hds (h4 ρ' w' g2 g4) g1 g3 (by simp only [UD]; omega) ?_
   intro a'' w'' ρ'' k1 k2 k3 k4
   exact hQ a'' w'' ρ'' k1 (g2.trans k2 h1 h2) (by simpa using k3) (g4.trans k4)
  ·refine MW.sq (h3 a _ hl ?_)
   intro a1 hl1
   refine rows_append hds h4 hl1 (by rw [Jb _ _ (Ne.symm h1)]; exact ho) hlim ?_
   intro a' w' ρ' g1 g2 g3 g4
   exact hQ a' w' ρ' g1 (fun s hs h0 h5 => by rw [g2 s hs h0 (by omega), Jb _ _ (by omega)]) g3 g4
theorem topA_calls {f : Nat} {fn : Func} {c : Code} {p : Plan} {L N : Nat} (ok : AOK P I S) (hf : P.funcs[f]? = some fn) (hb : fn.body = some c) (hfit : fits (topA I p L) c = true)
  (hres : fn.results = #[.tmp 4]) (hN : fn.ntmps = N) (hok : okTop P I p L N = true)
  {w : World} {B : Nat} {a : Addr} {ver : Int} {ds : List D} {tags : List (Nat × List UInt8)} {cs : List Value} {sv : Value} {bs : List UInt8}
  (hB : B ≤ w.heap.size) (hm : MsgAt w (· < B) p a ver ds tags cs) (hs1 : SmF S p.fs ds) (hs2 : S tags) (ho : OwnB I.tU8 w B sv bs) (hlim : bs.length + (Qj p ver ds tags).length ≤ lim) :
  Calls P f #[.pointer (some a), sv] w (fun e w' => ∃ sv', e = .returned sv' ∧ OwnB I.tU8 w' B sv' (bs ++ Qj p ver ds tags) ∧ Below B w w') := by
 obtain ⟨ab, ao, asp⟩ := a
 have hsp := hm.spot
 dsimp only at hsp
 subst hsp
 simp only [okTop, UA, decide_eq_true_eq] at hok
 obtain ⟨⟨⟨⟨⟨⟨w1, w2⟩, w3⟩, w4⟩, w5⟩, w6⟩, w7⟩ := hok
 refine calls_of_wp hf hb (?_ : Code.wp P c _ _ w)
 refine (?_ : MW P (topA I p L) _ _ w) c hfit
 generalize ha0 : ({ tmps := #[.pointer (some ⟨ab, ao, none⟩), sv] ++ Array.replicate (fn.ntmps - #[(.pointer (some ⟨ab, ao, none⟩) : Value), sv].size) undef, defers := [] } : Act) = a0
 have hLb : (QJ I p L).2 ≤ L + 8 := by unfold QJ; cases p.fl <;> simp
 have hLh : L + 5 ≤ (QJ I p L).2 := by unfold QJ; cases p.fl <;> simp
 have hgl := @genF_le I 5 p.sf p.T 0 p.fs (QJ I p L).2 p.x0 0
 have hgt := @genT_le I 5 p.sf p.T 0 p.tg p.fs (genF I 5 p.sf p.T 0 p.fs (QJ I p L).2 p.x0 0).2.1 (genF I 5 p.sf p.T 0 p.fs (QJ I p L).2 p.x0 0).2.2.1 (genF I 5 p.sf p.T 0 p.fs (QJ I p L).2 p.x0 0).2.2.2
 have hbt : (bodyA I p L).2.1 = (genT I 5 p.sf p.T 0 p.tg p.fs (genF I 5 p.sf p.T 0 p.fs (QJ I p L).2 p.x0 0).2.1 (genF I 5 p.sf p.T 0 p.fs (QJ I p L).2 p.x0 0).2.2.1 (genF I 5 p.sf p.T 0 p.fs (QJ I p L).2 p.x0 0).2.2.2).2.1 := rfl
 have hbx : (bodyA I p L).2.2 = (genT I 5 p.sf p.T 0 p.tg p.fs (genF I 5 p.sf p.T 0 p.fs (QJ I p L).2 p.x0 0).2.1 (genF I 5 p.sf p.T 0 p.fs (QJ I p L).2 p.x0 0).2.2.1 (genF I 5 p.sf p.T 0 p.fs (QJ I p L).2 p.x0 0).2.2.2).2.2.1 := rfl
 rw [hbt] at w6
 rw [hbx] at w5
 have hsz0 : a0.tmps.size = N := by rw [← ha0]; simp; omega
 have hd0 : a0.defers = [] := by rw [← ha0]
 have hr0 : rd a0 0 = .pointer (some ⟨ab, ao, none⟩) := by rw [← ha0]; simp [rd, Array.getElem?_append]
 have hr1 : rd a0 1 = sv := by rw [← ha0]; simp [rd, Array.getElem?_append]
 have hl0 : Loc N L (rd a0) a0 := ⟨hsz0, hd0, fun _ _ => rfl⟩
 have hload : (Instr.loadAt I.tI16 (.pointer (some ⟨ab, ao + 0, none⟩))).run P w = .ok (.int .i16 ver) w := QG w4 (by have := hm.at_ 0 _ hm.v0; simpa using this)
 have finish : ∀ (ρ : Nat → Value) (a1 : Act), Loc N L ρ a1 → ρ 0 = .pointer (some ⟨ab, ao, none⟩) → ρ 1 = sv → Ctx 5 p.sf ver (p.flex ver) p.x0 ρ →
   MW P (rows ((bodyA I p L).1 ++ [.rg [.mv (bodyA I p L).2.1 (.t 1), .mv 4 (.t (bodyA I p L).2.1)], .rt])) (bodyPost P fn (fun e w' => ∃ sv', e = .returned sv' ∧ OwnB I.tU8 w' B sv' (bs ++ Qj p ver ds tags) ∧ Below B w w')) a1 w := by
  intro ρ a1 hl1 h0 h1 hctx
  have hx0 : 6 ≤ p.x0 := by unfold Plan.x0; split <;> omega
  have hwl : JK P I.tU8 B N L (bodyA I p L).1 ρ w p.x0 (genT I 5 p.sf p.T 0 p.tg p.fs (genF I 5 p.sf p.T 0 p.fs (QJ I p L).2 p.x0 0).2.1 (genF I 5 p.sf p.T 0 p.fs (QJ I p L).2 p.x0 0).2.2.1 (genF I 5 p.sf p.T 0 p.fs (QJ I p L).2 p.x0 0).2.2.2).2.2.1 (Qj p ver ds tags) := by
   refine JK.append (y := (genF I 5 p.sf p.T 0 p.fs (QJ I p L).2 p.x0 0).2.2.1) (genF_ok ok p.fs w1 hctx (by omega) (by omega) (Nat.le_trans hgt.2 w5) (by omega) (by omega) h0 hm.blk hB hm.at_ hm.flds hs1) hgt.2 ?_
   intro ρ' w' hk hbl
   exact genT_ok ok p.fs w2 (hctx.keep hk (by omega) hgl.2) w5 (by omega) (by omega) (by omega) (by omega) (by rw [hk _ (by omega) (by omega) (.inl (by omega))]; exact h0) hm.blk (Nat.le_trans hB hbl.size)
    (fun j u hu => by rw [Ji (hbl.block ab hm.blk)]; exact hm.at_ j u hu) (RepF.mono (fun _ h => h) (fun b h => hbl.block b h) p.fs hm.flds) hs1
    (hm.tgs.mono (fun _ h => h) (fun b h => hbl.block b h)) hs2
  refine rows_append (by simp) hwl hl1 (by rw [h1]; exact ho) hlim ?_
  intro a' w' ρ' g1 g2 g3 g4
  have hsz' := g1.size
  rw [hbt]
  refine MW.sq (MW.rg (ML.mv (ML.mv (ML.nil ?_))))
  simp (disch := (first | omega | (simp only [Jj]; omega))) only [Je, JH, MX.of]
  refine MW.rt ?_
  refine bodyPost_ret (v := ρ' 1) ?_ (by simpa using g1.defers) ⟨_, rfl, g3, g4⟩
  rw [results_tmp hres]
  congr 1
  show rd _ 4 = _
  rw [Je (by simp only [Jj]; omega), g1.get 1 (by omega)]
 have hx0 : 6 ≤ p.x0 := by unfold Plan.x0; split <;> omega
 have hl1 : Loc N L (upd (rd a0) 4 (.slice none 0 0)) (wr a0 4 (.slice none 0 0)) := Loc.set hl0 _ (by omega)
 unfold topA QJ
 generalize hb1 : bodyA I p L = bb at finish ⊢
 cases hfl : p.fl with
 | none =>
  simp only []
  refine MW.sq (MW.rg (ML.mv (ML.nil ?_)))
  refine MW.sq (Sets.loadA (ρ := upd (rd a0) 4 (.slice none 0 0)) (b := ab) (o := ao) (off := 0) (v := .int .i16 ver) ?_ (by omega) (by omega) (Nat.le_refl _) (by omega) w3 hload _ _ hl1 ?_)
  ·rw [Jb _ _ (by omega)]; exact hr0
  intro a2 hl2
  obtain ⟨c0, cs0, hne⟩ : ∃ c0 cs0, bb.1 ++ [.rg [.mv bb.2.1 (.t 1), .mv 4 (.t bb.2.1)], .rt] = c0 :: cs0 := by
   cases bb.1 with
   | nil => exact ⟨_, _, rfl⟩
   | cons c0 cs0 => exact ⟨_, _, rfl⟩
  show MW P (rows (_ :: (bb.1 ++ _))) _ a2 w
  rw [hne] at finish ⊢
  refine MW.sq (MW.rg (ML.mv (ML.nil ?_)))
  refine finish _ _ (hl2.tmp _ (by omega) (by omega)) ?_ ?_ ?_
  ·rw [Jb _ _ (by omega), Jb _ _ (by omega)]; exact hr0
  ·rw [Jb _ _ (by omega), Jb _ _ (by omega)]; exact hr1
  ·refine ⟨by omega, by omega, by omega, Ja _ _ _, ?_, ?_⟩
   ·intro s hs; simp [Plan.sf, hfl] at hs
   ·intro _; simp [Plan.flex, hfl]
 | some k =>
  simp only []
  refine MW.sq (MW.rg (ML.mv (ML.nil ?_)))
  refine MW.sq (Sets.loadA (ρ := upd (rd a0) 4 (.slice none 0 0)) (b := ab) (o := ao) (off := 0) (v := .int .i16 ver) ?_ (by omega) (by omega) (Nat.le_refl _) (by omega) w3 hload _ _ hl1 ?_)
  ·rw [Jb _ _ (by omega)]; exact hr0
  intro a2 hl2
  have hh8 : (QJ I p L).2 = L + 8 := by unfold QJ; rw [hfl]
  have hsz2 := hl2.size
  have hv2 : rd a2 5 = .int .i16 ver := by rw [hl2.get 5 (by omega), Ja]
  refine MW.sq (MW.rg (ML.mv (ML.nil ?_)))
  have hl3 := hl2.tmp ((MX.t 5).of a2) (show L ≤ L + 4 by omega) (by omega)
  refine MW.sq (MW.rg (ML.mv (ML.biInt (k := .i16) (m := ver) (n := k) (v := .bool (decide ((k : Int) ≤ ver))) ?_ rfl (run_cmp_geq _ _ _ _) (ML.mv (ML.nil ?_)))))
  ·simp (disch := (first | omega | (simp only [Jj]; omega))) only [Je, JH, MX.of]
   exact hv2
  simp (disch := (first | omega | (simp only [Jj]; omega))) only [Je, JH, MX.of]
  obtain ⟨c0, cs0, hne⟩ : ∃ c0 cs0, bb.1 ++ [.rg [.mv bb.2.1 (.t 1), .mv 4 (.t bb.2.1)], .rt] = c0 :: cs0 := by
   cases bb.1 with
   | nil => exact ⟨_, _, rfl⟩
   | cons c0 cs0 => exact ⟨_, _, rfl⟩
  show MW P (rows (_ :: (bb.1 ++ _))) _ _ w
  rw [hne] at finish ⊢
  refine MW.sq (MW.rg (ML.mv (ML.nil ?_)))
  have hl4 : Loc N L (upd (upd (upd (rd a0) 4 (.slice none 0 0)) 5 (.int .i16 ver)) 6 (.bool (decide ((k : Int) ≤ ver)))) (wr (wr (wr (wr a2 (L + 4) (rd a2 5)) (L + 5) (rd a2 5)) (L + 6) (.bool (decide ((k : Int) ≤ ver)))) 6 (.bool (decide ((k : Int) ≤ ver)))) :=
   Loc.set (((hl2.tmp _ (by omega) (by omega)).tmp _ (by omega) (by omega)).tmp _ (by omega) (by omega)) _ (by omega)
  refine finish _ _ (hl4.tmp _ (by omega) (by omega)) ?_ ?_ ?_
  ·rw [Jb _ _ (by omega), Jb _ _ (by omega), Jb _ _ (by omega)]; exact hr0
  ·rw [Jb _ _ (by omega), Jb _ _ (by omega), Jb _ _ (by omega)]; exact hr1
  ·refine ⟨by omega, by omega, by omega, ?_, ?_, ?_⟩
   ·rw [Jb _ _ (by omega), Ja]
   ·intro s hs
    simp only [Plan.sf, hfl, Option.map_some, UC] at hs
    subst hs
    refine ⟨by omega, ?_, ?_⟩
    ·simp [Plan.x0, hfl]
    ·rw [Ja]; simp [Plan.flex, hfl]
   ·intro hn; simp [Plan.sf, hfl] at hn
end
section
variable {P : Program} {N : Nat} {Q : UE} {ρ : Nat → Value} {w : World} {ms : List MOp} {T : IT}
theorem RL.bsl8 {d T U : Nat} {xs : List MX} {bs : List UInt8} (hT : Jk P T U = true) (hU : u8Ty P U = true) (hx : xs.map (xof ρ) = bs.map JF) (hn : xs.length ≤ 16)
  (h : RL P N ms Q (upd ρ d (.slice (some ⟨w.heap.size, 0, none⟩) bs.length bs.length)) (w.alloc (.cells (bs.map JF).toArray U))) (hxN : ∀ x ∈ xs, MX.lt N x = true := by simp [MX.lt, Nat.blt_eq]) (hd : d < N := by decide) : RL P N (.bsl d T xs :: ms) Q ρ w := by
 intro a ha
 refine ML.bsl hT hU ?_ hn (h _ (ha.put hd))
 rw [← hx]
 exact List.map_congr_left fun x hxm => MX.of_loc ha (by rintro s rfl; simpa [MX.lt, Nat.blt_eq] using hxN _ hxm)
theorem RL.bslAp {d1 d T U x B : Nat} {xs : List MX} {bs l : List UInt8} {sv : Value} (hT : Jk P T U = true) (hU : u8Ty P U = true) (hx : xs.map (xof ρ) = l.map JF) (hn : xs.length ≤ 16) (hs : ρ x = sv) (hxd : x ≠ d1) (ho : OwnB U w B sv bs) (hB : B ≤ w.heap.size) (hlim : bs.length + l.length ≤ lim)
  (h : ∀ ρ1 sv' w', ρ1 = upd ρ d1 (.slice (some ⟨w.heap.size, 0, none⟩) l.length l.length) → OwnB U w' B sv' (bs ++ l) → Below B w w' → RL P N ms Q (upd ρ1 d sv') w')
  (hxN : ∀ x ∈ xs, MX.lt N x = true := by simp [MX.lt, Nat.blt_eq]) (hd1 : d1 < N := by decide) (hd : d < N := by decide) (hxN' : x < N := by decide) : RL P N (.bsl d1 T xs :: .ap d T T x d1 :: ms) Q ρ w := by
 refine RL.bsl8 hT hU hx hn ?_ hxN hd1
 refine RL.apOwn (bs := bs) (l := l) (sv := sv) (B := B) hT hU (by rw [Jb _ _ hxd]; exact hs) (ho.alloc _) (Ja _ _ _) rfl (Jg.new l) (by simp; omega) hlim ?_ hxN' hd1 hd
 intro sv' w' h1 h2
 exact h _ sv' w' rfl h1 (((Below.refl B w).alloc hB _).trans h2)
def BoolC (P : Program) (U f : Nat) : Prop := ApC P U f (fun _ _ x out => ∃ b : Bool, x = .bool b ∧ out = [if b then 1 else 0])
def UuidC (P : Program) (U f : Nat) : Prop := ApC P U f (fun _ _ x out => out.length = 16 ∧ x = .agg (out.map JF).toArray)
/-! ### The test of the program -/
def resIs (r : Nat) (l : List ResultVar) : Bool :=
 match l with
 | [.tmp r'] => Nat.beq r r'
 | _ => false
def isFn (P : Program) (f : Nat) (m : Jc) (N r : Nat) : Bool :=
 Jo P f && (match P.funcs[f]? with
  | some fn => Nat.beq fn.ntmps N && resIs r fn.results.toList && (match fn.body with | some c => fits m c | none => false)
  | none => false)
theorem FnIs.of {f N r : Nat} {m : Jc} (h : isFn P f m N r = true) : FnIs P f m N r := by
 simp only [isFn, UA] at h
 obtain ⟨h1, h2⟩ := h
 refine ⟨?_, h1⟩
 cases hf : P.funcs[f]? with
 | none => simp [hf] at h2
 | some fn =>
  simp only [hf, UA, Nat.beq_eq] at h2
  obtain ⟨⟨g1, g2⟩, g3⟩ := h2
  cases hb : fn.body with
  | none => simp [hb] at g3
  | some c =>
   simp only [hb] at g3
   refine ⟨fn, c, rfl, hb, g3, g1, ?_⟩
   apply Array.toList_inj.1
   generalize fn.results.toList = l at g2
   match l, g2 with
   | [.tmp r'], g2 => simp only [resIs, Nat.beq_eq] at g2; rw [g2]
structure KB where
 T : IT
 tP : Nat
 tA : Nat
 i8 : Nat
 u16 : Nat
 i16 : Nat
 u32 : Nat
 i32 : Nat
 u64 : Nat
 i64 : Nat
 bool : Nat
 uuid : Nat
 l32 : Nat
 uvl : Nat
 uv : Nat
 str : Nat
 cstr : Nat
 nstr : Nat
 cnstr : Nat
 byt : Nat
 cbyt : Nat
 nbyt : Nat
 cnbyt : Nat
 alen : Nat
 calen : Nat
 nalen : Nat
 cnalen : Nat
 f64 : Nat := 0
 ffb : Nat := 0
def orNo (f : Nat) (b : Bool) : Bool := if Nat.beq f 0 then true else b
def yes (f : Nat) : Bool := !(Nat.beq f 0)
theorem Jy {f : Nat} {b : Bool} (h : orNo f b = true) (hf : f ≠ 0) : b = true := by
 unfold orNo at h
 rw [if_neg (by simpa using hf)] at h
 exact h
def tokB (P : Program) (T : IT) : Bool :=
 u8Ty P T.u8 && JC P T.u8 .u8 && Jk P T.u8s T.u8 && orNo T.i8 (JC P T.i8 .i8) && orNo T.i16 (JC P T.i16 .i16) && orNo T.u16 (JC P T.u16 .u16) && orNo T.i32 (JC P T.i32 .i32) &&
 orNo T.u32 (JC P T.u32 .u32) && orNo T.i64 (JC P T.i64 .i64) && orNo T.u64 (JC P T.u64 .u64) && JC P T.int .i64 && orNo T.str (strTy P T.str)
theorem tok_of (h : tokB P T = true) : TOK P T := by
 simp only [tokB, UA] at h
 obtain ⟨⟨⟨⟨⟨⟨⟨⟨⟨⟨⟨h1, h2⟩, h3⟩, h4⟩, h5⟩, h6⟩, h7⟩, h8⟩, h9⟩, h10⟩, h11⟩, h12⟩ := h
 exact ⟨h1, h2, h3, Jy h4, Jy h5, Jy h6, Jy h7, Jy h8, Jy h9, Jy h10, h11, Jy h12⟩
def kbOk (P : Program) (K : KB) : List Bool := [
 tokB P K.T,
 Nat.beq K.i8 0,
 orNo K.u16 (isFn P K.u16 (code16 K.T) 13 4 && yes K.T.u16),
 orNo K.i16 (isFn P K.i16 (QU 4 K.T.i16 K.T.u16 K.u16) 9 4 && yes K.T.i16 && yes K.u16 && yes K.T.u16),
 orNo K.u32 (isFn P K.u32 (code32 K.T) 19 4 && yes K.T.u32),
 orNo K.i32 (isFn P K.i32 (QU 4 K.T.i32 K.T.u32 K.u32) 9 4 && yes K.T.i32 && yes K.u32 && yes K.T.u32),
 orNo K.u64 (isFn P K.u64 (code64 K.T) 31 4 && yes K.T.u64),
 orNo K.i64 (isFn P K.i64 (QU 4 K.T.i64 K.T.u64 K.u64) 9 4 && yes K.T.i64 && yes K.u64 && yes K.T.u64),
 Nat.beq K.bool 0,
 Nat.beq K.uuid 0,
 orNo K.uv (isFn P K.l32 (codeLen32 K.T) 19 2 && isFn P K.uvl (codeUvLen K.T K.l32) 8 2 && isFn P K.uv (codeUv K.T K.uvl) 93 4 && yes K.T.u32 && yes K.T.str),
 orNo K.str (isFn P K.str (codeStr K.T K.T.str K.T.i16 K.i16) 13 4 && yes K.T.str && yes K.T.i16 && yes K.i16),
 orNo K.cstr (isFn P K.cstr (codeCStr K.T K.T.str K.uv) 14 4 && yes K.T.str && yes K.T.u32 && yes K.uv),
 Nat.beq K.nstr 0,
 Nat.beq K.cnstr 0,
 orNo K.byt (isFn P K.byt (codeStr K.T K.T.u8s K.T.i32 K.i32) 13 4 && yes K.T.i32 && yes K.i32),
 orNo K.cbyt (isFn P K.cbyt (codeCStr K.T K.T.u8s K.uv) 14 4 && yes K.T.u32 && yes K.uv),
 Nat.beq K.nbyt 0,
 Nat.beq K.cnbyt 0,
 orNo K.alen (isFn P K.alen (QU 4 K.T.int K.T.i32 K.i32) 9 4 && yes K.T.i32 && yes K.i32),
 orNo K.calen (isFn P K.calen (codeCLen K.T K.uv) 10 4 && yes K.T.u32 && yes K.uv),
 Nat.beq K.nalen 0,
 Nat.beq K.cnalen 0]
def F64W (P : Program) (K : KB) : Prop := K.f64 ≠ 0 → ApC P K.T.u8 K.f64 (fun _ _ x out => ∃ n : Nat, n < 18446744073709551616 ∧ x = .float .f64 n ∧ out = be n 8)
theorem f64w_none {P : Program} {K : KB} (h : K.f64 = 0) : F64W P K := fun e => absurd h e
structure KOK (P : Program) (K : KB) : Prop where
 tk : TOK P K.T
 i8 : K.i8 ≠ 0 → ApG P K.T.u8 K.i8 (fun _ _ x out => ∃ n : Int, x = .int .i8 n ∧ out = fix n 1)
 u16 : K.u16 ≠ 0 → ApG P K.T.u8 K.u16 (fun _ _ x out => ∃ n : Nat, n < 65536 ∧ x = .int .u16 n ∧ out = be n 2)
 i16 : K.i16 ≠ 0 → ApG P K.T.u8 K.i16 (fun _ _ x out => ∃ n : Int, x = .int .i16 n ∧ out = fix n 2)
 i32 : K.i32 ≠ 0 → ApG P K.T.u8 K.i32 (fun _ _ x out => ∃ n : Int, x = .int .i32 n ∧ out = fix n 4)
 i64 : K.i64 ≠ 0 → ApG P K.T.u8 K.i64 (fun _ _ x out => ∃ n : Int, x = .int .i64 n ∧ out = fix n 8)
 bool : K.bool ≠ 0 → BoolC P K.T.u8 K.bool
 uuid : K.uuid ≠ 0 → UuidC P K.T.u8 K.uuid
 uv : K.uv ≠ 0 → UvarC P K.T.u8 K.uv
 str : K.str ≠ 0 → StrC P K.T.u8 K.str false
 cstr : K.cstr ≠ 0 → StrC P K.T.u8 K.cstr true
 nstr : K.nstr ≠ 0 → NStrC P K.T.u8 K.nstr false
 cnstr : K.cnstr ≠ 0 → NStrC P K.T.u8 K.cnstr true
 byt : K.byt ≠ 0 → BytC P K.T.u8 K.byt false
 cbyt : K.cbyt ≠ 0 → BytC P K.T.u8 K.cbyt true
 nbyt : K.nbyt ≠ 0 → NBytC P K.T.u8 K.nbyt false
 cnbyt : K.cnbyt ≠ 0 → NBytC P K.T.u8 K.cnbyt true
 alen : K.alen ≠ 0 → LenC P K.T.u8 K.alen (fun n => fix n 4)
 calen : K.calen ≠ 0 → LenC P K.T.u8 K.calen (fun n => Kx.uv (n + 1))
 nalen : K.nalen ≠ 0 → NLenC P K.T.u8 K.nalen false
 cnalen : K.cnalen ≠ 0 → NLenC P K.T.u8 K.cnalen true
 uvg : K.uv ≠ 0 → UvarG P K.T.u8 K.uv
 f64 : F64W P K
theorem nbz {n : Nat} {p : Prop} (e : Nat.beq n 0 = true) (hn : n ≠ 0) : p := absurd (Nat.eq_of_beq_eq_true e) hn
theorem Js {f : Nat} (h : yes f = true) : f ≠ 0 := ne0 h
theorem kok_of {K : KB} (h : (kbOk P K).all id = true) (hfl : F64W P K) : KOK P K := by
 simp only [kbOk, List.all_cons, List.all_nil, id_eq, Bool.and_true, UA] at h
 obtain ⟨ht, h8, hu16, hi16, hu32, hi32, hu64, hi64, hbool, huuid, huv, hstr, hcstr, hnstr, hcnstr, hbyt, hcbyt, hnbyt, hcnbyt, halen, hcalen, hnalen, hcnalen⟩ := h
 have tk := tok_of ht
 have U16 : K.u16 ≠ 0 → ApG P K.T.u8 K.u16 (fun _ _ x out => ∃ n : Nat, n < 65536 ∧ x = .int .u16 n ∧ out = be n 2) := fun e => by
  have := Jy hu16 e; simp only [UA] at this; exact appU16 tk (Js this.2) (FnIs.of this.1)
 have U32 : K.u32 ≠ 0 → ApG P K.T.u8 K.u32 (fun _ _ x out => ∃ n : Nat, n < 4294967296 ∧ x = .int .u32 n ∧ out = be n 4) := fun e => by
  have := Jy hu32 e; simp only [UA] at this; exact appU32 tk (Js this.2) (FnIs.of this.1)
 have U64 : K.u64 ≠ 0 → ApG P K.T.u8 K.u64 (fun _ _ x out => ∃ n : Nat, n < 18446744073709551616 ∧ x = .int .u64 n ∧ out = be n 8) := fun e => by
  have := Jy hu64 e; simp only [UA] at this; exact appU64 tk (Js this.2) (FnIs.of this.1)
 have I16G : K.i16 ≠ 0 → ApG P K.T.u8 K.i16 (fun _ _ x out => ∃ n : Int, x = .int .i16 n ∧ out = fix n 2) := fun e => by
  have := Jy hi16 e; simp only [UA] at this; exact appI16 tk (Js this.1.1.2) (Js this.2) (FnIs.of this.1.1.1) (U16 (Js this.1.2))
 have I32G : K.i32 ≠ 0 → ApG P K.T.u8 K.i32 (fun _ _ x out => ∃ n : Int, x = .int .i32 n ∧ out = fix n 4) := fun e => by
  have := Jy hi32 e; simp only [UA] at this; exact appI32 tk (Js this.1.1.2) (Js this.2) (FnIs.of this.1.1.1) (U32 (Js this.1.2))
 have I16 : K.i16 ≠ 0 → I16C P K.T.u8 K.i16 := fun e => (I16G e).c
 have I32 : K.i32 ≠ 0 → I32C P K.T.u8 K.i32 := fun e => (I32G e).c
 have UVG : K.uv ≠ 0 → UvarG P K.T.u8 K.uv := fun e => by
  have := Jy huv e; simp only [UA] at this
  obtain ⟨⟨⟨⟨g1, g2⟩, g3⟩, g4⟩, g5⟩ := this
  exact appUvG tk (Js g4) (FnIs.of g3) (uvLen_num tk (Js g5) (FnIs.of g2) (len32_num tk (Js g4) (Js g5) (FnIs.of g1)))
 have UV : K.uv ≠ 0 → UvarC P K.T.u8 K.uv := fun e => (UVG e).c
 have STR : K.str ≠ 0 → StrC P K.T.u8 K.str false := fun e => by
  have := Jy hstr e; simp only [UA] at this
  exact appStr tk (Js this.1.1.2) (Js this.1.2) (FnIs.of this.1.1.1) (I16 (Js this.2))
 have CSTR : K.cstr ≠ 0 → StrC P K.T.u8 K.cstr true := fun e => by
  have := Jy hcstr e; simp only [UA] at this
  exact appCStr tk (Js this.1.1.2) (Js this.1.2) (FnIs.of this.1.1.1) (UV (Js this.2))
 have BYT : K.byt ≠ 0 → BytC P K.T.u8 K.byt false := fun e => by
  have := Jy hbyt e; simp only [UA] at this
  exact appByt tk (Js this.1.2) (FnIs.of this.1.1) (I32 (Js this.2))
 have CBYT : K.cbyt ≠ 0 → BytC P K.T.u8 K.cbyt true := fun e => by
  have := Jy hcbyt e; simp only [UA] at this
  exact appCByt tk (Js this.1.2) (FnIs.of this.1.1) (UV (Js this.2))
 refine ⟨tk, ?_, U16, I16G, I32G, ?_, ?_, ?_, UV, STR, CSTR, ?_, ?_, BYT, CBYT, ?_, ?_, ?_, ?_, ?_, ?_, UVG, hfl⟩
 ·exact nbz h8
 ·intro e; have := Jy hi64 e; simp only [UA] at this; exact appI64 tk (Js this.1.1.2) (Js this.2) (FnIs.of this.1.1.1) (U64 (Js this.1.2))
 ·exact nbz hbool
 ·exact nbz huuid
 ·exact nbz hnstr
 ·exact nbz hcnstr
 ·exact nbz hnbyt
 ·exact nbz hcnbyt
 ·intro e; have := Jy halen e; simp only [UA] at this; exact appLen tk (Js this.1.2) (FnIs.of this.1.1) (I32 (Js this.2))
 ·intro e; have := Jy hcalen e; simp only [UA] at this; exact appCLen tk (Js this.1.2) (FnIs.of this.1.1) (UV (Js this.2))
 ·exact nbz hnalen
 ·exact nbz hcnalen
end
structure SN where
 T : IT
 fds : Nat
 fd : Nat
 trs : Nat
 tr : Nat
 tgs : Nat
 tg : Nat
 msg : Nat
 fSame : Nat
 fVer : Nat
 fWrite : Nat
 fDflt : Nat
 fPart : Nat
 fHas : Nat
 fField : Nat
 fAt : Nat
 fKnown : Nat
 fUsual : Nat
 fUvar : Nat
 fUnk : Nat
 fWhole : Nat
 fNull : Nat
 fThings : Nat
 fCounted : Nat
 fValue : Nat
 fFixed : Nat
 fWidth : Nat
def cSame (S : SN) : Jc :=
 .sq (.rg [.mv 4 (.c (.bool false))])
 (.sq (.sq (.rg [.mv 6 (.t 0), .ln 7 S.T.u8s 6, .mv 8 (.t 1), .ln 9 S.T.u8s 8, .bi 10 .neq S.T.int (.t 7) (.t 9)])
 (.cd 10 (.sq (.rg [.mv 4 (.c (.bool false))])
 (.rt)) (.sk)))
 (.sq (.sq (.rg [.mv 11 (.t 0), .ln 12 S.T.u8s 11, .mv 13 (.c (.int .i64 (0)))])
 (.bl 0 (.lp (.sq (.rg [.bi 14 .lss S.T.int (.t 13) (.t 12)])
 (.sq (.cd 14 (.sk) (.ex 0))
 (.sq (.bl 1 (.sq (.rg [.mv 15 (.t 13), .mv 5 (.t 15)])
 (.sq (.gr true [⟨0, none, .mv 16 (.t 0)⟩, ⟨1, none, .mv 17 (.t 5)⟩, ⟨2, none, .ia 18 S.T.u8s 16 17⟩, ⟨3, none, .ld 19 S.T.u8 18⟩, ⟨4, none, .mv 20 (.t 1)⟩, ⟨5, none, .mv 21 (.t 5)⟩, ⟨6, none, .ia 22 S.T.u8s 20 21⟩, ⟨7, none, .ld 23 S.T.u8 22⟩, ⟨8, none, .bi 24 .neq S.T.u8 (.t 19) (.t 23)⟩])
 (.cd 24 (.sq (.rg [.mv 4 (.c (.bool false))])
 (.rt)) (.sk)))))
 (.rg [.bi 25 .add S.T.int (.t 13) (.c (.int .i64 (1))), .mv 13 (.t 25)])))))))
 (.sq (.rg [.mv 4 (.c (.bool true))])
 (.rt))))
def cVer (S : SN) : Jc :=
 .sq (.rg [.mv 4 (.c (.int .i64 (0)))])
 (.sq (.rg [.mv 5 (.t 0), .cv 6 S.T.u8 S.T.int 5, .mv 7 (.t 1), .bi 8 .add S.T.int (.t 7) (.c (.int .i64 (1))), .bi 9 .rem S.T.int (.t 6) (.t 8), .mv 4 (.t 9)])
 (.rt))
def cWrite (S : SN) : Jc :=
 .sq (.rg [.bx 3 S.msg 0, .bx 5 S.tr 2, .mv 6 (.c .nslice)])
 (.sq (.gr false [⟨0, none, .fa 7 S.msg 3 0⟩, ⟨1, none, .ld 8 S.fds 7⟩, ⟨2, none, .mv 9 (.t 1)⟩, ⟨3, none, .fa 10 S.msg 3 1⟩, ⟨4, none, .ld 11 S.T.int 10⟩, ⟨5, none, .bi 12 .geq S.T.int (.t 11) (.c (.int .i64 (0)))⟩, ⟨6, none, .mv 13 (.t 12)⟩, ⟨7, some (6, 13, true), .mv 14 (.t 1)⟩, ⟨8, some (6, 13, true), .fa 15 S.msg 3 1⟩, ⟨9, some (6, 13, true), .ld 16 S.T.int 15⟩, ⟨10, some (6, 13, true), .bi 17 .geq S.T.int (.t 14) (.t 16)⟩, ⟨11, none, .pk 18 (.t 13) (.t 17) (.c (.bool false))⟩, ⟨12, none, .ld 19 S.tr 5⟩, ⟨13, none, .ca 20 S.fPart [.t 8, .t 9, .t 18, .t 19]⟩, ⟨14, none, .mv 6 (.t 20)⟩])
 (.rt))
def cDflt (S : SN) : Jc :=
 .sq (.rg [.al 2 S.tr])
 (.sq (.rg [.al 3 S.tr])
 (.sq (.sq (.rg [.mv 7 (.t 0), .ln 8 S.fds 7, .mv 9 (.c (.int .i64 (0)))])
 (.bl 0 (.lp (.sq (.rg [.bi 10 .lss S.T.int (.t 9) (.t 8)])
 (.sq (.cd 10 (.sk) (.ex 0))
 (.sq (.bl 1 (.sq (.rg [.ia 11 S.fds 7 9, .ld 12 S.fd 11, .al 5 S.fd, .st S.fd 5 12])
 (.sq (.rg [.fa 13 S.fd 5 5, .ld 14 S.T.i64 13, .fa 15 S.fd 5 3, .ld 16 S.T.int 15, .bi 17 .geq S.T.int (.t 16) (.c (.int .i64 (0))), .bdl 18 S.tr [(0, .t 14), (2, .t 17)], .al 6 S.tr, .st S.tr 6 18])
 (.sq (.sq (.rg [.fa 19 S.fd 5 0, .ld 20 S.T.int 19, .bi 21 .eql S.T.int (.t 20) (.c (.int .i64 (10)))])
 (.cd 21 (.rg [.fa 22 S.fd 5 7, .ld 23 S.fds 22, .ca 24 S.fDflt [.t 23], .fl 25 S.tr 24 3, .fa 26 S.tr 6 3, .st S.trs 26 25]) (.sk)))
 (.rg [.fa 27 S.tr 3 3, .ld 28 S.trs 27, .ld 29 S.tr 6, .bsl 30 S.trs [.t 29], .ap 31 S.trs S.trs 28 30, .fa 32 S.tr 3 3, .st S.trs 32 31])))))
 (.rg [.bi 33 .add S.T.int (.t 9) (.c (.int .i64 (1))), .mv 9 (.t 33)])))))))
 (.sq (.rg [.ld 34 S.tr 3, .st S.tr 2 34])
 (.rt))))
def cPart (S : SN) : Jc :=
 .sq (.rg [.bx 7 S.tr 3, .mv 8 (.c .nslice)])
 (.sq (.rg [.mv 9 (.c .nslice), .mv 10 (.c .nslice)])
 (.sq (.rg [.mv 11 (.c (.int .i64 (0)))])
 (.sq (.sq (.rg [.mv 21 (.t 0), .ln 22 S.fds 21, .mv 23 (.c (.int .i64 (0)))])
 (.bl 0 (.lp (.sq (.rg [.bi 24 .lss S.T.int (.t 23) (.t 22)])
 (.sq (.cd 24 (.sk) (.ex 0))
 (.sq (.bl 1 (.sq (.rg [.mv 25 (.t 23), .ia 26 S.fds 21 23, .ld 27 S.fd 26, .al 13 S.fd, .mv 12 (.t 25), .st S.fd 13 27])
 (.sq (.gr false [⟨0, none, .fa 28 S.fd 13 4⟩, ⟨1, none, .ld 29 S.T.int 28⟩, ⟨2, none, .bi 30 .lss S.T.int (.t 29) (.c (.int .i64 (0)))⟩, ⟨3, none, .mv 31 (.t 30)⟩, ⟨4, some (3, 31, true), .ld 32 S.fd 13⟩, ⟨5, some (3, 31, true), .mv 33 (.t 1)⟩, ⟨6, some (3, 31, true), .ca 34 S.fHas [.t 32, .t 33]⟩, ⟨7, none, .pk 35 (.t 31) (.t 34) (.c (.bool false))⟩])
 (.cd 35 (.gr true [⟨0, none, .mv 36 (.t 9)⟩, ⟨1, none, .ld 37 S.fd 13⟩, ⟨2, none, .mv 38 (.t 1)⟩, ⟨3, none, .mv 39 (.t 2)⟩, ⟨4, none, .ld 40 S.tr 7⟩, ⟨5, none, .mv 41 (.t 12)⟩, ⟨6, none, .ca 42 S.fAt [.t 40, .t 41]⟩, ⟨7, none, .ca 43 S.fField [.t 37, .t 38, .t 39, .t 42]⟩, ⟨8, none, .ap 44 S.T.u8s S.T.u8s 36 43⟩, ⟨9, none, .mv 9 (.t 44)⟩]) (.sk)))))
 (.rg [.bi 45 .add S.T.int (.t 23) (.c (.int .i64 (1))), .mv 23 (.t 45)])))))))
 (.sq (.sq (.rg [.mv 46 (.t 2), .nt 47 46])
 (.cd 47 (.sq (.rg [.mv 48 (.t 9), .mv 8 (.t 48)])
 (.rt)) (.sk)))
 (.sq (.sq (.rg [.mv 49 (.t 0), .ca 50 S.fKnown [.t 49], .cv 51 S.T.u32 S.T.int 50, .mv 52 (.c (.int .i64 (0)))])
 (.bl 2 (.lp (.sq (.rg [.bi 53 .lss S.T.int (.t 52) (.t 51)])
 (.sq (.cd 53 (.sk) (.ex 2))
 (.sq (.bl 3 (.sq (.rg [.mv 54 (.t 52), .mv 14 (.t 54)])
 (.sq (.rg [.mv 55 (.t 0), .ln 56 S.fds 55, .mv 57 (.c (.int .i64 (0)))])
 (.bl 4 (.lp (.sq (.rg [.bi 58 .lss S.T.int (.t 57) (.t 56)])
 (.sq (.cd 58 (.sk) (.ex 4))
 (.sq (.bl 5 (.sq (.rg [.mv 59 (.t 57), .ia 60 S.fds 55 57, .ld 61 S.fd 60, .al 16 S.fd, .mv 15 (.t 59), .st S.fd 16 61])
 (.sq (.gr true [⟨0, none, .fa 62 S.fd 16 4⟩, ⟨1, none, .ld 63 S.T.int 62⟩, ⟨2, none, .mv 64 (.t 14)⟩, ⟨3, none, .bi 65 .eql S.T.int (.t 63) (.t 64)⟩, ⟨4, none, .mv 66 (.t 65)⟩, ⟨5, some (4, 66, true), .ld 67 S.fd 16⟩, ⟨6, some (4, 66, true), .ld 68 S.tr 7⟩, ⟨7, some (4, 66, true), .mv 69 (.t 15)⟩, ⟨8, some (4, 66, true), .ca 70 S.fAt [.t 68, .t 69]⟩, ⟨9, some (4, 66, true), .ca 71 S.fUsual [.t 67, .t 70]⟩, ⟨10, some (4, 66, true), .nt 72 71⟩, ⟨11, none, .pk 73 (.t 66) (.t 72) (.c (.bool false))⟩])
 (.cd 73 (.sq (.gr true [⟨0, none, .ld 74 S.fd 16⟩, ⟨1, none, .mv 75 (.t 1)⟩, ⟨2, none, .mv 76 (.t 2)⟩, ⟨3, none, .ld 77 S.tr 7⟩, ⟨4, none, .mv 78 (.t 15)⟩, ⟨5, none, .ca 79 S.fAt [.t 77, .t 78]⟩, ⟨6, none, .ca 80 S.fField [.t 74, .t 75, .t 76, .t 79]⟩, ⟨7, none, .mv 17 (.t 80)⟩])
 (.sq (.rg [.mv 81 (.t 10), .mv 82 (.t 14), .cv 83 S.T.int S.T.u64 82, .ca 84 S.fUvar [.t 83], .ap 85 S.T.u8s S.T.u8s 81 84, .mv 86 (.t 17), .ln 87 S.T.u8s 86, .cv 88 S.T.int S.T.u64 87, .ca 89 S.fUvar [.t 88], .ap 90 S.T.u8s S.T.u8s 85 89, .mv 91 (.t 17), .ap 92 S.T.u8s S.T.u8s 90 91, .mv 10 (.t 92)])
 (.rg [.mv 93 (.t 11), .bi 94 .add S.T.int (.t 93) (.c (.int .i64 (1))), .mv 11 (.t 94)]))) (.sk)))))
 (.rg [.bi 95 .add S.T.int (.t 57) (.c (.int .i64 (1))), .mv 57 (.t 95)])))))))))
 (.rg [.bi 96 .add S.T.int (.t 52) (.c (.int .i64 (1))), .mv 52 (.t 96)])))))))
 (.sq (.sq (.rg [.mv 97 (.t 0), .fa 98 S.tr 7 4, .ld 99 S.tgs 98, .ca 100 S.fUnk [.t 97, .t 99], .ln 101 S.tgs 100, .mv 102 (.c (.int .i64 (0)))])
 (.bl 6 (.lp (.sq (.rg [.bi 103 .lss S.T.int (.t 102) (.t 101)])
 (.sq (.cd 103 (.sk) (.ex 6))
 (.sq (.bl 7 (.sq (.rg [.ia 104 S.tgs 100 102, .ld 105 S.tg 104, .al 19 S.tg, .st S.tg 19 105])
 (.sq (.rg [.fa 106 S.tg 19 1, .ld 107 S.T.u8s 106, .ca 108 S.fWhole [.t 107], .mv 20 (.t 108)])
 (.sq (.rg [.mv 109 (.t 10), .fa 110 S.tg 19 0, .ld 111 S.T.u32 110, .cv 112 S.T.u32 S.T.u64 111, .ca 113 S.fUvar [.t 112], .ap 114 S.T.u8s S.T.u8s 109 113, .mv 115 (.t 20), .ln 116 S.T.u8s 115, .cv 117 S.T.int S.T.u64 116, .ca 118 S.fUvar [.t 117], .ap 119 S.T.u8s S.T.u8s 114 118, .mv 120 (.t 20), .ap 121 S.T.u8s S.T.u8s 119 120, .mv 10 (.t 121)])
 (.rg [.mv 122 (.t 11), .bi 123 .add S.T.int (.t 122) (.c (.int .i64 (1))), .mv 11 (.t 123)])))))
 (.rg [.bi 124 .add S.T.int (.t 102) (.c (.int .i64 (1))), .mv 102 (.t 124)])))))))
 (.sq (.rg [.mv 125 (.t 9), .mv 126 (.t 11), .cv 127 S.T.int S.T.u64 126, .ca 128 S.fUvar [.t 127], .ap 129 S.T.u8s S.T.u8s 125 128, .mv 130 (.t 10), .ap 131 S.T.u8s S.T.u8s 129 130, .mv 8 (.t 131)])
 (.rt))))))))
def cHas (S : SN) : Jc :=
 .sq (.rg [.bx 2 S.fd 0, .mv 4 (.c (.bool false))])
 (.sq (.gr false [⟨0, none, .fa 5 S.fd 2 1⟩, ⟨1, none, .ld 6 S.T.int 5⟩, ⟨2, none, .mv 7 (.t 1)⟩, ⟨3, none, .bi 8 .leq S.T.int (.t 6) (.t 7)⟩, ⟨4, none, .mv 9 (.t 8)⟩, ⟨5, some (4, 9, true), .fa 10 S.fd 2 2⟩, ⟨6, some (4, 9, true), .ld 11 S.T.int 10⟩, ⟨7, some (4, 9, true), .bi 12 .lss S.T.int (.t 11) (.c (.int .i64 (0)))⟩, ⟨8, some (4, 9, true), .mv 13 (.t 12)⟩, ⟨9, some (8, 13, false), .mv 14 (.t 1)⟩, ⟨10, some (8, 13, false), .fa 15 S.fd 2 2⟩, ⟨11, some (8, 13, false), .ld 16 S.T.int 15⟩, ⟨12, some (8, 13, false), .bi 17 .leq S.T.int (.t 14) (.t 16)⟩, ⟨13, some (4, 9, true), .pk 18 (.t 13) (.c (.bool true)) (.t 17)⟩, ⟨14, none, .pk 19 (.t 9) (.t 18) (.c (.bool false))⟩, ⟨15, none, .mv 4 (.t 19)⟩])
 (.rt))
def cField (S : SN) : Jc :=
 .sq (.rg [.bx 4 S.fd 0, .bx 7 S.tr 3, .mv 8 (.c .nslice)])
 (.sq (.rg [.ld 13 S.fd 4, .mv 14 (.t 1), .ld 15 S.tr 7, .ca 16 S.fNull [.t 13, .t 14, .t 15], .mv 9 (.t 16)])
 (.sq (.sq (.rg [.fa 17 S.fd 4 0, .ld 18 S.T.int 17, .bi 19 .eql S.T.int (.t 18) (.c (.int .i64 (11)))])
 (.cd 19 (.sq (.rg [.fa 20 S.tr 7 3, .ld 21 S.trs 20, .ca 22 S.fThings [.t 21], .mv 10 (.t 22)])
 (.sq (.sq (.rg [.mv 23 (.t 9)])
 (.cd 23 (.rg [.mv 10 (.c .nslice)]) (.sk)))
 (.sq (.rg [.mv 24 (.t 2), .mv 25 (.t 9), .mv 26 (.t 10), .ln 27 S.trs 26, .ca 28 S.fCounted [.t 24, .t 25, .t 27, .c (.int .i64 (4))], .mv 11 (.t 28)])
 (.sq (.sq (.rg [.mv 29 (.t 10), .ln 30 S.trs 29, .mv 31 (.c (.int .i64 (0)))])
 (.bl 0 (.lp (.sq (.rg [.bi 32 .lss S.T.int (.t 31) (.t 30)])
 (.sq (.cd 32 (.sk) (.ex 0))
 (.sq (.bl 1 (.sq (.rg [.mv 33 (.t 31), .mv 12 (.t 33)])
 (.gr true [⟨0, none, .mv 34 (.t 11)⟩, ⟨1, none, .fa 35 S.fd 4 6⟩, ⟨2, none, .ld 36 S.T.int 35⟩, ⟨3, none, .fa 37 S.fd 4 7⟩, ⟨4, none, .ld 38 S.fds 37⟩, ⟨5, none, .mv 39 (.t 1)⟩, ⟨6, none, .mv 40 (.t 2)⟩, ⟨7, none, .mv 41 (.t 10)⟩, ⟨8, none, .mv 42 (.t 12)⟩, ⟨9, none, .ia 43 S.trs 41 42⟩, ⟨10, none, .ld 44 S.tr 43⟩, ⟨11, none, .ca 45 S.fValue [.t 36, .t 38, .c (.bool false), .t 39, .t 40, .t 44]⟩, ⟨12, none, .ap 46 S.T.u8s S.T.u8s 34 45⟩, ⟨13, none, .mv 11 (.t 46)⟩])))
 (.rg [.bi 47 .add S.T.int (.t 31) (.c (.int .i64 (1))), .mv 31 (.t 47)])))))))
 (.sq (.rg [.mv 48 (.t 11), .mv 8 (.t 48)])
 (.rt)))))) (.sk)))
 (.sq (.sq (.gr false [⟨0, none, .fa 49 S.fd 4 0⟩, ⟨1, none, .ld 50 S.T.int 49⟩, ⟨2, none, .bi 51 .eql S.T.int (.t 50) (.c (.int .i64 (10)))⟩, ⟨3, none, .mv 52 (.t 51)⟩, ⟨4, some (3, 52, true), .fa 53 S.fd 4 3⟩, ⟨5, some (3, 52, true), .ld 54 S.T.int 53⟩, ⟨6, some (3, 52, true), .bi 55 .geq S.T.int (.t 54) (.c (.int .i64 (0)))⟩, ⟨7, none, .pk 56 (.t 52) (.t 55) (.c (.bool false))⟩])
 (.cd 56 (.sq (.sq (.rg [.mv 57 (.t 9)])
 (.cd 57 (.sq (.rg [.ca 58 S.fFixed [.c (.int .i64 (-1)), .c (.int .i64 (1))], .mv 8 (.t 58)])
 (.rt)) (.sk)))
 (.sq (.gr true [⟨1, none, .fa 60 S.fd 4 7⟩, ⟨2, none, .ld 61 S.fds 60⟩, ⟨3, none, .mv 62 (.t 1)⟩, ⟨4, none, .mv 63 (.t 2)⟩, ⟨5, none, .ld 64 S.tr 7⟩, ⟨0, none, .ca 59 S.fFixed [.c (.int .i64 (1)), .c (.int .i64 (1))]⟩, ⟨6, none, .ca 65 S.fPart [.t 61, .t 62, .t 63, .t 64]⟩, ⟨7, none, .ap 66 S.T.u8s S.T.u8s 59 65⟩, ⟨8, none, .mv 8 (.t 66)⟩])
 (.rt))) (.sk)))
 (.sq (.rg [.fa 67 S.fd 4 0, .ld 68 S.T.int 67, .fa 69 S.fd 4 7, .ld 70 S.fds 69, .mv 71 (.t 9), .mv 72 (.t 1), .mv 73 (.t 2), .ld 74 S.tr 7, .ca 75 S.fValue [.t 68, .t 70, .t 71, .t 72, .t 73, .t 74], .mv 8 (.t 75)])
 (.rt)))))
def cAt (S : SN) : Jc :=
 .sq (.rg [.bx 2 S.tr 0, .al 4 S.tr])
 (.sq (.sq (.rg [.mv 5 (.t 1), .fa 6 S.tr 2 3, .ld 7 S.trs 6, .ln 8 S.trs 7, .bi 9 .lss S.T.int (.t 5) (.t 8)])
 (.cd 9 (.sq (.rg [.fa 10 S.tr 2 3, .ld 11 S.trs 10, .mv 12 (.t 1), .ia 13 S.trs 11 12, .ld 14 S.tr 13, .st S.tr 4 14])
 (.rt)) (.sk)))
 (.sq (.rg [.bdl 15 S.tr [], .st S.tr 4 15])
 (.rt)))
def cKnown (S : SN) : Jc :=
 .sq (.rg [.mv 2 (.c (.int .u32 (0)))])
 (.sq (.rg [.mv 3 (.c (.int .u32 (0)))])
 (.sq (.sq (.rg [.mv 6 (.t 0), .ln 7 S.fds 6, .mv 8 (.c (.int .i64 (0)))])
 (.bl 0 (.lp (.sq (.rg [.bi 9 .lss S.T.int (.t 8) (.t 7)])
 (.sq (.cd 9 (.sk) (.ex 0))
 (.sq (.bl 1 (.sq (.rg [.ia 10 S.fds 6 8, .ld 11 S.fd 10, .al 5 S.fd, .st S.fd 5 11])
 (.sq (.rg [.fa 12 S.fd 5 4, .ld 13 S.T.int 12, .bi 14 .geq S.T.int (.t 13) (.c (.int .i64 (0)))])
 (.cd 14 (.rg [.mv 15 (.t 3), .fa 16 S.fd 5 4, .ld 17 S.T.int 16, .cv 18 S.T.int S.T.u32 17, .bi 19 .add S.T.u32 (.t 18) (.c (.int .u32 (1))), .mxi 20 (.t 15) (.t 19), .mv 3 (.t 20)]) (.sk)))))
 (.rg [.bi 21 .add S.T.int (.t 8) (.c (.int .i64 (1))), .mv 8 (.t 21)])))))))
 (.sq (.rg [.mv 22 (.t 3), .mv 2 (.t 22)])
 (.rt))))
def cUvar (S : SN) : Jc :=
 .sq (.rg [.mv 2 (.c .nslice)])
 (.sq (.rg [.mv 3 (.c .nslice)])
 (.sq (.bl 0 (.lp (.sq (.sq (.rg [.mv 4 (.t 0), .bi 5 .gtr S.T.u64 (.t 4) (.c (.int .u64 (127)))])
 (.cd 5 (.sk) (.ex 0)))
 (.bl 1 (.sq (.rg [.mv 6 (.t 3), .mv 7 (.t 0), .bi 8 .and S.T.u64 (.t 7) (.c (.int .u64 (127))), .cv 9 S.T.u64 S.T.u8 8, .bi 10 .or S.T.u8 (.t 9) (.c (.int .u8 (128))), .bsl 11 S.T.u8s [.t 10], .ap 12 S.T.u8s S.T.u8s 6 11, .mv 3 (.t 12)])
 (.rg [.mv 13 (.t 0), .b2 14 .shr (.t 13) (.c (.int .u64 (7))), .mv 0 (.t 14)]))))))
 (.sq (.rg [.mv 15 (.t 3), .mv 16 (.t 0), .cv 17 S.T.u64 S.T.u8 16, .bsl 18 S.T.u8s [.t 17], .ap 19 S.T.u8s S.T.u8s 15 18, .mv 2 (.t 19)])
 (.rt))))
def cUnk (S : SN) : Jc :=
 .sq (.rg [.mv 4 (.c .nslice)])
 (.sq (.rg [.mv 11 (.t 0), .ca 12 S.fKnown [.t 11], .mv 5 (.t 12)])
 (.sq (.rg [.mv 6 (.c .nslice)])
 (.sq (.sq (.rg [.mv 13 (.t 1), .mv 14 (.t 1), .ln 15 S.tgs 14, .mn 16 (.t 15) (.c (.int .i64 (32767))), .sl 17 S.tgs 13 none (some (.t 16)) none, .ln 18 S.tgs 17, .mv 19 (.c (.int .i64 (0)))])
 (.bl 0 (.lp (.sq (.rg [.bi 20 .lss S.T.int (.t 19) (.t 18)])
 (.sq (.cd 20 (.sk) (.ex 0))
 (.sq (.bl 1 (.sq (.rg [.ia 21 S.tgs 17 19, .ld 22 S.tg 21, .al 8 S.tg, .st S.tg 8 22])
 (.sq (.rg [.mv 9 (.c (.int .i64 (0)))])
 (.sq (.bl 2 (.lp (.sq (.sq (.gr true [⟨0, none, .mv 23 (.t 9)⟩, ⟨1, none, .mv 24 (.t 6)⟩, ⟨2, none, .ln 25 S.tgs 24⟩, ⟨3, none, .bi 26 .lss S.T.int (.t 23) (.t 25)⟩, ⟨4, none, .mv 27 (.t 26)⟩, ⟨5, some (4, 27, true), .mv 28 (.t 6)⟩, ⟨6, some (4, 27, true), .mv 29 (.t 9)⟩, ⟨7, some (4, 27, true), .ia 30 S.tgs 28 29⟩, ⟨8, some (4, 27, true), .fa 31 S.tg 30 0⟩, ⟨9, some (4, 27, true), .ld 32 S.T.u32 31⟩, ⟨10, some (4, 27, true), .fa 33 S.tg 8 0⟩, ⟨11, some (4, 27, true), .ld 34 S.T.u32 33⟩, ⟨12, some (4, 27, true), .bi 35 .lss S.T.u32 (.t 32) (.t 34)⟩, ⟨13, none, .pk 36 (.t 27) (.t 35) (.c (.bool false))⟩])
 (.cd 36 (.sk) (.ex 2)))
 (.bl 3 (.rg [.mv 37 (.t 9), .bi 38 .add S.T.int (.t 37) (.c (.int .i64 (1))), .mv 9 (.t 38)])))))
 (.sq (.sq (.gr true [⟨0, none, .fa 39 S.tg 8 0⟩, ⟨1, none, .ld 40 S.T.u32 39⟩, ⟨2, none, .mv 41 (.t 5)⟩, ⟨3, none, .bi 42 .lss S.T.u32 (.t 40) (.t 41)⟩, ⟨4, none, .mv 43 (.t 42)⟩, ⟨5, some (4, 43, false), .mv 44 (.t 9)⟩, ⟨6, some (4, 43, false), .mv 45 (.t 6)⟩, ⟨7, some (4, 43, false), .ln 46 S.tgs 45⟩, ⟨8, some (4, 43, false), .bi 47 .lss S.T.int (.t 44) (.t 46)⟩, ⟨9, some (4, 43, false), .mv 48 (.t 47)⟩, ⟨10, some (9, 48, true), .mv 49 (.t 6)⟩, ⟨11, some (9, 48, true), .mv 50 (.t 9)⟩, ⟨12, some (9, 48, true), .ia 51 S.tgs 49 50⟩, ⟨13, some (9, 48, true), .fa 52 S.tg 51 0⟩, ⟨14, some (9, 48, true), .ld 53 S.T.u32 52⟩, ⟨15, some (9, 48, true), .fa 54 S.tg 8 0⟩, ⟨16, some (9, 48, true), .ld 55 S.T.u32 54⟩, ⟨17, some (9, 48, true), .bi 56 .eql S.T.u32 (.t 53) (.t 55)⟩, ⟨18, some (4, 43, false), .pk 57 (.t 48) (.t 56) (.c (.bool false))⟩, ⟨19, none, .pk 58 (.t 43) (.c (.bool true)) (.t 57)⟩])
 (.cd 58 (.ex 1) (.sk)))
 (.sq (.rg [.mv 59 (.t 6), .bdl 60 S.tg [], .bsl 61 S.tgs [.t 60], .ap 62 S.tgs S.tgs 59 61, .mv 6 (.t 62)])
 (.sq (.sq (.rg [.mv 63 (.t 6), .ln 64 S.tgs 63, .bi 65 .sub S.T.int (.t 64) (.c (.int .i64 (1))), .mv 10 (.t 65)])
 (.bl 4 (.lp (.sq (.sq (.rg [.mv 66 (.t 10), .mv 67 (.t 9), .bi 68 .gtr S.T.int (.t 66) (.t 67)])
 (.cd 68 (.sk) (.ex 4)))
 (.sq (.bl 5 (.rg [.mv 71 (.t 6), .mv 72 (.t 10), .mv 73 (.t 6), .mv 74 (.t 10), .bi 75 .sub S.T.int (.t 74) (.c (.int .i64 (1))), .ia 76 S.tgs 73 75, .ld 77 S.tg 76, .ia 78 S.tgs 71 72, .st S.tg 78 77]))
 (.rg [.mv 69 (.t 10), .bi 70 .sub S.T.int (.t 69) (.c (.int .i64 (1))), .mv 10 (.t 70)]))))))
 (.rg [.mv 79 (.t 6), .mv 80 (.t 9), .ld 81 S.tg 8, .ia 82 S.tgs 79 80, .st S.tg 82 81]))))))))
 (.rg [.bi 83 .add S.T.int (.t 19) (.c (.int .i64 (1))), .mv 19 (.t 83)])))))))
 (.sq (.rg [.mv 84 (.t 6), .mv 4 (.t 84)])
 (.rt)))))
def cWhole (S : SN) : Jc :=
 .sq (.rg [.mv 2 (.c .nslice)])
 (.sq (.rg [.mv 3 (.t 0), .mv 4 (.t 0), .ln 5 S.T.u8s 4, .mn 6 (.t 5) (.c (.int .i64 (32767))), .sl 7 S.T.u8s 3 none (some (.t 6)) none, .mv 2 (.t 7)])
 (.rt))
def cNull (S : SN) : Jc :=
 .sq (.rg [.bx 3 S.fd 0, .bx 5 S.tr 2, .mv 6 (.c (.bool false))])
 (.sq (.gr false [⟨0, none, .fa 7 S.tr 5 2⟩, ⟨1, none, .ld 8 S.T.bool 7⟩, ⟨2, none, .mv 9 (.t 8)⟩, ⟨3, some (2, 9, true), .fa 10 S.fd 3 3⟩, ⟨4, some (2, 9, true), .ld 11 S.T.int 10⟩, ⟨5, some (2, 9, true), .bi 12 .geq S.T.int (.t 11) (.c (.int .i64 (0)))⟩, ⟨6, none, .pk 13 (.t 9) (.t 12) (.c (.bool false))⟩, ⟨7, none, .mv 14 (.t 13)⟩, ⟨8, some (7, 14, true), .mv 15 (.t 1)⟩, ⟨9, some (7, 14, true), .fa 16 S.fd 3 3⟩, ⟨10, some (7, 14, true), .ld 17 S.T.int 16⟩, ⟨11, some (7, 14, true), .bi 18 .geq S.T.int (.t 15) (.t 17)⟩, ⟨12, none, .pk 19 (.t 14) (.t 18) (.c (.bool false))⟩, ⟨13, none, .mv 6 (.t 19)⟩])
 (.rt))
def cThings (S : SN) : Jc :=
 .sq (.rg [.mv 2 (.c .nslice)])
 (.sq (.rg [.mv 3 (.t 0), .mv 4 (.t 0), .ln 5 S.trs 4, .mn 6 (.t 5) (.c (.int .i64 (32767))), .sl 7 S.trs 3 none (some (.t 6)) none, .mv 2 (.t 7)])
 (.rt))
def cCounted (S : SN) : Jc :=
 .sq (.rg [.mv 8 (.c .nslice)])
 (.sq (.bl 0 (.sq (.gr false [⟨0, none, .mv 10 (.t 0)⟩, ⟨1, none, .mv 11 (.t 10)⟩, ⟨2, some (1, 11, true), .mv 12 (.t 1)⟩, ⟨3, none, .pk 13 (.t 11) (.t 12) (.c (.bool false))⟩, ⟨4, none, .mv 9 (.t 13)⟩])
 (.cd 9 (.sq (.rg [.bsl 14 S.T.u8s [.c (.int .u8 (0))], .mv 8 (.t 14)])
 (.rt)) (.sq (.rg [.mv 16 (.t 0), .mv 15 (.t 16)])
 (.cd 15 (.sq (.rg [.mv 17 (.t 2), .cv 18 S.T.int S.T.u64 17, .bi 19 .add S.T.u64 (.t 18) (.c (.int .u64 (1))), .ca 20 S.fUvar [.t 19], .mv 8 (.t 20)])
 (.rt)) (.sq (.rg [.mv 22 (.t 1), .mv 21 (.t 22)])
 (.cd 21 (.sq (.rg [.mv 23 (.t 3), .ca 24 S.fFixed [.c (.int .i64 (-1)), .t 23], .mv 8 (.t 24)])
 (.rt)) (.sk))))))))
 (.sq (.rg [.mv 25 (.t 2), .mv 26 (.t 3), .ca 27 S.fFixed [.t 25, .t 26], .mv 8 (.t 27)])
 (.rt)))
def cValue (S : SN) : Jc :=
 .sq (.rg [.bx 11 S.tr 5, .mv 12 (.c .nslice)])
 (.sq (.sq (.rg [.mv 16 (.t 0)])
 (.bl 0 (.sq (.rg [.bi 18 .eql S.T.int (.t 16) (.c (.int .i64 (0))), .mv 17 (.t 18)])
 (.cd 17 (.sq (.rg [.fa 19 S.tr 11 0, .ld 20 S.T.i64 19, .bi 21 .and S.T.i64 (.t 20) (.c (.int .i64 (1))), .cv 22 S.T.i64 S.T.u8 21, .bsl 23 S.T.u8s [.t 22], .mv 12 (.t 23)])
 (.rt)) (.sq (.rg [.bi 25 .eql S.T.int (.t 16) (.c (.int .i64 (7))), .mv 24 (.t 25)])
 (.cd 24 (.sq (.rg [.mk 26 S.T.u8s (.c (.int .i64 (16))) (.c (.int .i64 (16))), .mv 13 (.t 26)])
 (.sq (.rg [.mv 27 (.t 13), .fa 28 S.tr 11 1, .ld 29 S.T.u8s 28, .cp 30 S.T.u8s S.T.u8s 27 29])
 (.sq (.rg [.mv 31 (.t 13), .mv 12 (.t 31)])
 (.rt)))) (.sq (.rg [.bi 33 .eql S.T.int (.t 16) (.c (.int .i64 (8))), .mv 32 (.t 33)])
 (.cd 32 (.sq (.rg [.fa 34 S.tr 11 1, .ld 35 S.T.u8s 34, .ca 36 S.fWhole [.t 35], .mv 14 (.t 36)])
 (.sq (.sq (.rg [.mv 37 (.t 2)])
 (.cd 37 (.rg [.mv 14 (.c .nslice)]) (.sk)))
 (.sq (.rg [.mv 38 (.t 4), .mv 39 (.t 2), .mv 40 (.t 14), .ln 41 S.T.u8s 40, .ca 42 S.fCounted [.t 38, .t 39, .t 41, .c (.int .i64 (2))], .mv 43 (.t 14), .ap 44 S.T.u8s S.T.u8s 42 43, .mv 12 (.t 44)])
 (.rt)))) (.sq (.rg [.bi 46 .eql S.T.int (.t 16) (.c (.int .i64 (9))), .mv 45 (.t 46)])
 (.cd 45 (.sq (.rg [.fa 47 S.tr 11 1, .ld 48 S.T.u8s 47, .ca 49 S.fWhole [.t 48], .mv 15 (.t 49)])
 (.sq (.sq (.rg [.mv 50 (.t 2)])
 (.cd 50 (.rg [.mv 15 (.c .nslice)]) (.sk)))
 (.sq (.rg [.mv 51 (.t 4), .mv 52 (.t 2), .mv 53 (.t 15), .ln 54 S.T.u8s 53, .ca 55 S.fCounted [.t 51, .t 52, .t 54, .c (.int .i64 (4))], .mv 56 (.t 15), .ap 57 S.T.u8s S.T.u8s 55 56, .mv 12 (.t 57)])
 (.rt)))) (.sq (.rg [.bi 59 .eql S.T.int (.t 16) (.c (.int .i64 (10))), .mv 58 (.t 59)])
 (.cd 58 (.sq (.rg [.mv 60 (.t 1), .mv 61 (.t 3), .mv 62 (.t 4), .ld 63 S.tr 11, .ca 64 S.fPart [.t 60, .t 61, .t 62, .t 63], .mv 12 (.t 64)])
 (.rt)) (.sk)))))))))))))
 (.sq (.gr true [⟨0, none, .fa 65 S.tr 11 0⟩, ⟨1, none, .ld 66 S.T.i64 65⟩, ⟨2, none, .mv 67 (.t 0)⟩, ⟨3, none, .ca 68 S.fWidth [.t 67]⟩, ⟨4, none, .ca 69 S.fFixed [.t 66, .t 68]⟩, ⟨5, none, .mv 12 (.t 69)⟩])
 (.rt)))
def cFixed (S : SN) : Jc :=
 .sq (.rg [.mv 4 (.c .nslice)])
 (.sq (.rg [.mv 5 (.c .nslice)])
 (.sq (.sq (.rg [.mv 7 (.t 1), .bi 8 .sub S.T.int (.t 7) (.c (.int .i64 (1))), .mv 6 (.t 8)])
 (.bl 0 (.lp (.sq (.sq (.rg [.mv 9 (.t 6), .bi 10 .geq S.T.int (.t 9) (.c (.int .i64 (0)))])
 (.cd 10 (.sk) (.ex 0)))
 (.sq (.bl 1 (.rg [.mv 13 (.t 5), .mv 14 (.t 0), .mv 15 (.t 6), .bi 16 .mul S.T.int (.c (.int .i64 (8))) (.t 15), .b2 17 .shr (.t 14) (.t 16), .cv 18 S.T.i64 S.T.u8 17, .bsl 19 S.T.u8s [.t 18], .ap 20 S.T.u8s S.T.u8s 13 19, .mv 5 (.t 20)]))
 (.rg [.mv 11 (.t 6), .bi 12 .sub S.T.int (.t 11) (.c (.int .i64 (1))), .mv 6 (.t 12)]))))))
 (.sq (.rg [.mv 21 (.t 5), .mv 4 (.t 21)])
 (.rt))))
def cWidth (S : SN) : Jc :=
 .sq (.rg [.mv 2 (.c (.int .i64 (0)))])
 (.sq (.sq (.rg [.mv 3 (.t 0)])
 (.bl 0 (.sq (.rg [.bi 5 .eql S.T.int (.t 3) (.c (.int .i64 (1))), .mv 4 (.t 5)])
 (.cd 4 (.sq (.rg [.mv 2 (.c (.int .i64 (1)))])
 (.rt)) (.sq (.sq (.rg [.bi 7 .eql S.T.int (.t 3) (.c (.int .i64 (2))), .mv 6 (.t 7)])
 (.cd 6 (.sk) (.rg [.bi 8 .eql S.T.int (.t 3) (.c (.int .i64 (5))), .mv 6 (.t 8)])))
 (.cd 6 (.sq (.rg [.mv 2 (.c (.int .i64 (2)))])
 (.rt)) (.sq (.rg [.bi 10 .eql S.T.int (.t 3) (.c (.int .i64 (3))), .mv 9 (.t 10)])
 (.cd 9 (.sq (.rg [.mv 2 (.c (.int .i64 (4)))])
 (.rt)) (.sk)))))))))
 (.sq (.rg [.mv 2 (.c (.int .i64 (8)))])
 (.rt)))
set_option linter.unusedVariables false
def Kp (w w' : World) : Prop := ∀ p v, w.cell? p = some v → w'.cell? p = some v
theorem Kp.refl (w : World) : Kp w w := fun _ _ h => h
theorem Kp.trans {a b c : World} (h : Kp a b) (k : Kp b c) : Kp a c := fun p v hv => k p v (h p v hv)
theorem _root_.Go.RowKit.Below.kp {w w' : World} (h : Below w.heap.size w w') : Kp w w' := fun p v hv => by rw [Ji (h.block p.block (World.block_lt_of_cell? w p hv))]; exact hv
theorem kp_alloc (w : World) (o : Obj) : Kp w (w.alloc o) := Go.RowKit.Below.kp ((Below.refl _ w).alloc (Nat.le_refl _) o)
theorem Jg.kp {w w' : World} {F : Nat → Prop} {ad : Option Addr} {l : List UInt8} (h : Jg w F ad l) (k : Kp w w') : Jg w' F ad l := by
 intro j b hj
 obtain ⟨g, o, h1, h2, h3⟩ := h j b hj
 exact ⟨g, o, h1, h2, k _ _ h3⟩
theorem Jx {w w' : World} {b o : Nat} {cs : List Value} (h : w.rangeAt b o cs) (k : Kp w w') : w'.rangeAt b o cs := fun j v hv => k _ _ (h j v hv)
def updL (ρ : Nat → Value) : List (Nat × Value) → Nat → Value
 | [] => ρ
 | p :: l => updL (upd ρ p.1 p.2) l
theorem RW.knows {P : Program} {N : Nat} {m : Jc} {Q : UE} {ρ : Nat → Value} {w : World} (l : List (Nat × Value)) (h : ∀ p ∈ l, ρ p.1 = p.2) (k : RW P N m Q (updL ρ l) w) : RW P N m Q ρ w := by
 have : updL ρ l = ρ := by
  clear k
  induction l with
  | nil => rfl
  | cons p l ih =>
   have e : upd ρ p.1 p.2 = ρ := by
    funext x
    by_cases e : x = p.1
    ·subst e; rw [Ja, h p List.mem_cons_self]
    ·rw [Jb _ _ e]
   show updL (upd ρ p.1 p.2) l = ρ
   rw [e]
   exact ih fun q hq => h q (List.mem_cons_of_mem _ hq)
 rwa [this] at k
def RetB (P : Program) (U f : Nat) (args : List Value) (w : World) (out : List UInt8) : Prop :=
 Calls P f args.toArray w (fun e w' => ∃ sv, e = .returned sv ∧ OwnB U w' w.heap.size sv out ∧ Below w.heap.size w w')
section
variable {P : Program} {S : SN} {w : World}
/-! ### Fixed -/
def down (n : Int) : Nat → List UInt8
 | 0 => []
 | k + 1 => UInt8.ofNat ((n.fdiv (2 ^ (8 * k))) % 256).toNat :: down n k
theorem Qi (n : Int) (m : Int) (h : 0 ≤ m) : n.fdiv m = n / m := Int.fdiv_eq_ediv_of_nonneg _ h
theorem fix_down {k : Nat} (hk : k = 1 ∨ k = 2 ∨ k = 4 ∨ k = 8) (n : Int) : fix n k = down n k := by
 rcases hk with rfl | rfl | rfl | rfl
 ·simp only [fix, be_one, down, Nat.mul_zero, Int.pow_zero]
  rw [Qi _ _ (by omega)]
  congr 2; omega
 ·simp only [fix, be_two, down, Nat.mul_zero, Int.pow_zero]
  rw [Qi _ _ (by omega), Qi _ _ (by omega)]
  have e1 : ((n % 256 ^ 2).toNat / 256 % 256) = ((n / 2 ^ (8 * 1)) % 256).toNat := by omega
  have e0 : ((n % 256 ^ 2).toNat % 256) = ((n / 1) % 256).toNat := by omega
  rw [e1, e0]
 ·simp only [fix, be_four, down, Nat.mul_zero, Int.pow_zero]
  rw [Qi _ _ (by omega), Qi _ _ (by omega), Qi _ _ (by omega), Qi _ _ (by omega)]
  have e3 : ((n % 256 ^ 4).toNat / 256 / 256 / 256 % 256) = ((n / 2 ^ (8 * 3)) % 256).toNat := by omega
  have e2 : ((n % 256 ^ 4).toNat / 256 / 256 % 256) = ((n / 2 ^ (8 * 2)) % 256).toNat := by omega
  have e1 : ((n % 256 ^ 4).toNat / 256 % 256) = ((n / 2 ^ (8 * 1)) % 256).toNat := by omega
  have e0 : ((n % 256 ^ 4).toNat % 256) = ((n / 1) % 256).toNat := by omega
  rw [e3, e2, e1, e0]
 ·simp only [fix, be_eight, down, Nat.mul_zero, Int.pow_zero]
  rw [Qi _ _ (by omega), Qi _ _ (by omega), Qi _ _ (by omega), Qi _ _ (by omega), Qi _ _ (by omega), Qi _ _ (by omega), Qi _ _ (by omega), Qi _ _ (by omega)]
  have hm : (n % 256 ^ 8) = n % 18446744073709551616 := rfl
  rw [hm]
  obtain ⟨q, N, hN, hn⟩ : ∃ (q : Int) (N : Nat), N < 18446744073709551616 ∧ n = 18446744073709551616 * q + N := ⟨n / 18446744073709551616, (n % 18446744073709551616).toNat, by omega, by omega⟩
  have h0 : (n % 18446744073709551616).toNat = N := by omega
  rw [h0]
  subst hn
  clear hm h0
  have e : ∀ (a : Nat) (b : Int) (c : Nat), a = c → (c : Int) = b % 256 → UInt8.ofNat a = UInt8.ofNat (b % 256).toNat := fun a b c h1 h2 => by rw [h1, ← h2]; rfl
  congr 1
  ·exact e _ _ (N / 72057594037927936 % 256) (by omega) (by show _ = (18446744073709551616 * q + (N : Int)) / 72057594037927936 % 256; omega)
  congr 1
  ·exact e _ _ (N / 281474976710656 % 256) (by omega) (by show _ = (18446744073709551616 * q + (N : Int)) / 281474976710656 % 256; omega)
  congr 1
  ·exact e _ _ (N / 1099511627776 % 256) (by omega) (by show _ = (18446744073709551616 * q + (N : Int)) / 1099511627776 % 256; omega)
  congr 1
  ·exact e _ _ (N / 4294967296 % 256) (by omega) (by show _ = (18446744073709551616 * q + (N : Int)) / 4294967296 % 256; omega)
  congr 1
  ·exact e _ _ (N / 16777216 % 256) (by omega) (by show _ = (18446744073709551616 * q + (N : Int)) / 16777216 % 256; omega)
  congr 1
  ·exact e _ _ (N / 65536 % 256) (by omega) (by show _ = (18446744073709551616 * q + (N : Int)) / 65536 % 256; omega)
  congr 1
  ·exact e _ _ (N / 256 % 256) (by omega) (by show _ = (18446744073709551616 * q + (N : Int)) / 256 % 256; omega)
  congr 1
  ·exact e _ _ (N % 256) (by omega) (by show _ = (18446744073709551616 * q + (N : Int)) / 1 % 256; omega)
theorem byteV_mod (n : Int) : Value.int .u8 (IntKind.u8.wrap n) = JF (UInt8.ofNat (n % 256).toNat) := by
 rw [show IntKind.u8.wrap n = IntKind.u8.wrap (n % 256) from by rw [IntKind.wrap_u8, IntKind.wrap_u8]; omega]
 exact Yc (by omega) (by omega)
def FixedC (P : Program) (U f : Nat) : Prop := Jo P f = true ∧ ∀ (w : World) (n : Int) (k : Nat), (k = 1 ∨ k = 2 ∨ k = 4 ∨ k = 8) → RetB P U f [.int .i64 n, .int .i64 k] w (fix n k)
theorem fixed_ok {f : Nat} (tk : TOK P S.T) (h64 : S.T.i64 ≠ 0) (hf : FnIs P f (cFixed S) 22 4) : FixedC P S.T.u8 f := by
 refine ⟨hf.ent, fun w n k hk => ?_⟩
 have hk8 : 1 ≤ k ∧ k ≤ 8 := by omega
 rw [fix_down hk]
 refine hf.runs (by simp) (by omega) ?_
 refine RW.sq (RW.rg (RL.s MR.mv (RL.nil (RW.sq (RW.rg (RL.s MR.mv (RL.nil (RW.sq (RW.sq (RW.rg ?_))))))))))
 repeat first | refine RL.s MR.mv ?_ | refine RL.s (MR.biE rfl) ?_ | refine RL.s (MR.b2 rfl) ?_
 refine RL.nil (RW.bl (RW.lp (fun ρ w' => ∃ (i : Nat) (sv : Value) (bs : List UInt8), i ≤ 8 ∧ ρ 0 = .int .i64 n ∧ ρ 5 = sv ∧ ρ 6 = .int .i64 ((i : Int) - 1) ∧ OwnB S.T.u8 w' w.heap.size sv bs ∧ Below w.heap.size w w' ∧ bs ++ down n i = down n k ∧ bs.length + i ≤ 8)
  (fun ρ _ => (intOf (ρ 6) + 1).toNat) ⟨k, .slice none 0 0, [], hk8.2, rfl, rfl, ?_, OwnB.nil _ _ _, Below.refl _ _, rfl, by simpa using hk8.2⟩ ?_ ?_))
 ·show Value.int .i64 (IntKind.i64.wrap ((k : Int) - 1)) = _
  rw [Ju (by omega) (by omega)]
 ·rintro ρ w1 ⟨i, sv, bs, hi8, h0, h5, h6, ho, hb, hbs, hl⟩
  refine RW.knows [(0, .int .i64 n), (5, sv), (6, .int .i64 ((i : Int) - 1))] (by simp [h0, h5, h6]) (RW.sq (RW.sq (RW.rg ?_)))
  repeat first | refine RL.s MR.mv ?_ | refine RL.s (MR.biE rfl) ?_ | refine RL.s (MR.b2 rfl) ?_
  cases i with
  | zero =>
   refine RL.nil (RW.cd (b := false) (by show Value.bool (decide ((0 : Int) ≤ ((0 : Nat) : Int) - 1)) = _; rfl) (fun e => by cases e) (fun _ => RW.ex ?_))
   refine RW.sq (RW.rg ?_)
   repeat first | refine RL.s MR.mv ?_ | refine RL.s (MR.biE rfl) ?_ | refine RL.s (MR.b2 rfl) ?_
   refine RL.nil (RW.rt ⟨sv, rfl, ?_, hb⟩)
   have : bs = down n k := by simpa [down] using hbs
   rw [← this]; exact ho
  | succ i =>
   refine RL.nil (RW.cd (b := true) (by show Value.bool (decide ((0 : Int) ≤ ((i + 1 : Nat) : Int) - 1)) = _; simp) (fun _ => RW.sk ?_) (fun e => by cases e))
   refine RW.sq (RW.bl (RW.rg ?_))
   repeat first | refine RL.s MR.mv ?_ | refine RL.s (MR.biE rfl) ?_ | refine RL.s (MR.b2 rfl) ?_
   have hw : IntKind.i64.wrap (8 * (((i + 1 : Nat) : Int) - 1)) = ((8 * i : Nat) : Int) := by rw [Ju (by omega) (by omega)]; omega
   refine RL.s (MR.b2 (v := .int .i64 (n.fdiv (2 ^ (8 * i)))) ?_) (RL.s (MR.cvI rfl (tk.i64 h64) tk.u8i) ?_)
   ·show evB .shr (.int .i64 n) (.int .i64 (IntKind.i64.wrap (8 * (((i + 1 : Nat) : Int) - 1)))) = _
    rw [hw]
    simp only [evB, Int.toNat_natCast]
    rw [if_pos (by omega), show min (8 * i) IntKind.i64.bits = 8 * i from by simp only [IntKind.bits]; omega]
   refine RL.bslAp (l := [UInt8.ofNat ((n.fdiv (2 ^ (8 * i))) % 256).toNat]) (sv := sv) (bs := bs) tk.u8s tk.u8 ?_ (by simp) rfl (by omega) ho (Nat.le_trans (Nat.le_refl _) hb.size) (by simp [lim]; omega) ?_
   ·show [Value.int .u8 (IntKind.u8.wrap (n.fdiv (2 ^ (8 * i))))] = _
    rw [byteV_mod]; rfl
   rintro ρ1 sv1 w2 rfl o1 b1
   repeat first | refine RL.s MR.mv ?_ | refine RL.s (MR.biE rfl) ?_ | refine RL.s (MR.b2 rfl) ?_
   refine RL.nil (RW.rg ?_)
   repeat first | refine RL.s MR.mv ?_ | refine RL.s (MR.biE rfl) ?_ | refine RL.s (MR.b2 rfl) ?_
   refine RL.nil ⟨⟨i, sv1, bs ++ [UInt8.ofNat ((n.fdiv (2 ^ (8 * i))) % 256).toNat], by omega, rfl, rfl, ?_, o1, hb.trans b1, ?_, by simp; omega⟩, ?_⟩
   ·show Value.int .i64 (IntKind.i64.wrap (((i + 1 : Nat) : Int) - 1 - 1)) = _
    rw [Ju (by omega) (by omega)]; congr 1; omega
   ·rw [← hbs]; simp [down]
   ·show (IntKind.i64.wrap (((i + 1 : Nat) : Int) - 1 - 1) + 1).toNat < (intOf (ρ 6) + 1).toNat
    rw [h6, Ju (by omega) (by omega)]
    simp only [intOf]; omega
 ·intro ρ ρ' w h; rw [h 6 (by omega)]
/-! ### Uvarint -/
def UvC (P : Program) (U f : Nat) : Prop := Jo P f = true ∧ ∀ (w : World) (n : Nat), n < 18446744073709551616 → RetB P U f [.int .u64 (n : Nat)] w (uv n)
theorem and127q {n : Nat} (h : n < 18446744073709551616) : IntKind.u64.wrap ((BitVec.ofInt IntKind.u64.bits (n : Int) &&& BitVec.ofInt IntKind.u64.bits 127).toNat : Int) = ((n % 128 : Nat) : Int) := by
 show IntKind.u64.wrap ((BitVec.ofInt 64 (n : Int) &&& BitVec.ofInt 64 127).toNat : Int) = _
 have e : (BitVec.ofInt 64 (n : Int)).toNat = n := by rw [BitVec.toNat_ofInt]; omega
 rw [BitVec.toNat_and, e, show (BitVec.ofInt 64 127).toNat = 2 ^ 7 - 1 from rfl, Nat.and_two_pow_sub_one_eq_mod, QD (.inr (.inr ⟨rfl, rfl⟩))]
 omega
theorem or128b {n : Nat} (h : n < 128) : IntKind.u8.wrap ((BitVec.ofInt IntKind.u8.bits (n : Int) ||| BitVec.ofInt IntKind.u8.bits 128).toNat : Int) = ((n + 128 : Nat) : Int) := by
 show IntKind.u8.wrap ((BitVec.ofInt 8 (n : Int) ||| BitVec.ofInt 8 128).toNat : Int) = _
 have e : (BitVec.ofInt 8 (n : Int)).toNat = n := by rw [BitVec.toNat_ofInt]; omega
 rw [BitVec.toNat_or, e, show (BitVec.ofInt 8 128).toNat = 2 ^ 7 from rfl]
 have := Nat.two_pow_add_eq_or_of_lt (show n < 2 ^ 7 from h) 1
 rw [Nat.or_comm, show 2 ^ 7 ||| n = n + 128 from by rw [show (2 : Nat) ^ 7 * 1 = 2 ^ 7 from rfl] at this; omega, IntKind.wrap_u8]
 omega
theorem uvb_len : ∀ k n, (uvb k n).length ≤ k + 1
 | 0, n => by simp [uvb]
 | k + 1, n => by
  unfold uvb
  split
  ·simp
  ·have := uvb_len k (n / 128); simp; omega
theorem uvar_ok {f : Nat} (tk : TOK P S.T) (h64 : S.T.u64 ≠ 0) (hf : FnIs P f (cUvar S) 20 2) : UvC P S.T.u8 f := by
 refine ⟨hf.ent, fun w n0 hn0 => ?_⟩
 refine hf.runs (by simp) (by omega) ?_
 refine RW.sq (RW.rg (RL.s MR.mv (RL.nil (RW.sq (RW.rg (RL.s MR.mv (RL.nil (RW.sq (RW.bl ?_)))))))))
 refine RW.lp (fun ρ w' => ∃ (k n : Nat) (sv : Value) (bs : List UInt8), n < 2 ^ (7 * k + 1) ∧ k ≤ 9 ∧ ρ 0 = .int .u64 (n : Nat) ∧ ρ 3 = sv ∧ OwnB S.T.u8 w' w.heap.size sv bs ∧ Below w.heap.size w w' ∧ bs ++ uvb k n = uv n0)
  (fun ρ _ => (intOf (ρ 0)).toNat) ⟨9, n0, .slice none 0 0, [], hn0, by omega, rfl, rfl, OwnB.nil _ _ _, Below.refl _ _, rfl⟩ ?_ ?_
 ·rintro ρ w1 ⟨k, n, sv, bs, hnk, hk9, h0, h3, ho, hb, hbs⟩
  have hn : n < 18446744073709551616 := Nat.lt_of_lt_of_le hnk (Nat.pow_le_pow_right (by omega) (show 7 * k + 1 ≤ 64 by omega))
  have hlen : bs.length + (uvb k n).length ≤ 10 := by rw [← UD, hbs]; exact uvb_len 9 n0
  refine RW.knows [(0, .int .u64 (n : Nat)), (3, sv)] (by simp [h0, h3]) (RW.sq (RW.sq (RW.rg ?_)))
  repeat first | refine RL.s MR.mv ?_ | refine RL.s (MR.biE rfl) ?_ | refine RL.s (MR.b2 rfl) ?_
  by_cases hlt : n < 128
  ·have hq : uvb k n = [UInt8.ofNat n] := by cases k <;> simp [uvb, hlt]
   refine RL.nil (RW.cd (b := false) (by show Value.bool (decide ((127 : Int) < (n : Int))) = _; simp; omega) (fun e => by cases e) (fun _ => RW.ex ?_))
   refine RW.sq (RW.rg ?_)
   repeat first | refine RL.s MR.mv ?_ | refine RL.s (MR.biE rfl) ?_ | refine RL.s (MR.b2 rfl) ?_
   refine RL.s (MR.cvI rfl (tk.u64 h64) tk.u8i) ?_
   refine RL.bslAp (l := [UInt8.ofNat n]) (sv := sv) (bs := bs) tk.u8s tk.u8 ?_ (by simp) rfl (by omega) ho hb.size (by simp [lim]; omega) ?_
   ·show [Value.int .u8 (IntKind.u8.wrap (n : Int))] = _
    rw [byteV_wrap (by omega)]; rfl
   rintro ρ1 sv1 w2 rfl o1 b1
   repeat first | refine RL.s MR.mv ?_ | refine RL.s (MR.biE rfl) ?_ | refine RL.s (MR.b2 rfl) ?_
   refine RL.nil (RW.rt ⟨sv1, rfl, ?_, hb.trans b1⟩)
   rw [← hbs, hq]; exact o1
  ·cases k with
   | zero => simp at hnk; omega
   | succ k =>
    have hq : uvb (k + 1) n = UInt8.ofNat (n % 128 + 128) :: uvb k (n / 128) := by simp [uvb, hlt]
    refine RL.nil (RW.cd (b := true) (by show Value.bool (decide ((127 : Int) < (n : Int))) = _; simp; omega) (fun _ => RW.sk ?_) (fun e => by cases e))
    refine RW.bl (RW.sq (RW.rg ?_))
    repeat first | refine RL.s MR.mv ?_ | refine RL.s (MR.biE rfl) ?_ | refine RL.s (MR.b2 rfl) ?_
    refine RL.s (MR.cvI rfl (tk.u64 h64) tk.u8i) ?_
    repeat first | refine RL.s MR.mv ?_ | refine RL.s (MR.biE rfl) ?_ | refine RL.s (MR.b2 rfl) ?_
    refine RL.bslAp (l := [UInt8.ofNat (n % 128 + 128)]) (sv := sv) (bs := bs) tk.u8s tk.u8 ?_ (by simp) rfl (by omega) ho hb.size (by simp [lim]; omega) ?_
    ·show [Value.int .u8 (IntKind.u8.wrap ((BitVec.ofInt IntKind.u8.bits (IntKind.u8.wrap (IntKind.u64.wrap ((BitVec.ofInt IntKind.u64.bits (n : Int) &&& BitVec.ofInt IntKind.u64.bits 127).toNat : Int))) ||| BitVec.ofInt IntKind.u8.bits 128).toNat : Int))] = _
     rw [and127q hn, show IntKind.u8.wrap ((n % 128 : Nat) : Int) = ((n % 128 : Nat) : Int) from by rw [IntKind.wrap_u8]; omega, or128b (by omega), byteV_nat (by omega)]; rfl
    rintro ρ1 sv1 w2 rfl o1 b1
    repeat first | refine RL.s MR.mv ?_ | refine RL.s (MR.biE rfl) ?_ | refine RL.s (MR.b2 rfl) ?_
    refine RL.nil (RW.rg ?_)
    repeat first | refine RL.s MR.mv ?_ | refine RL.s (MR.biE rfl) ?_ | refine RL.s (MR.b2 rfl) ?_
    refine RL.nil ⟨⟨k, n / 128, sv1, bs ++ [UInt8.ofNat (n % 128 + 128)], ?_, by omega, ?_, rfl, o1, hb.trans b1, ?_⟩, ?_⟩
    ·have : 2 ^ (7 * (k + 1) + 1) = 128 * 2 ^ (7 * k + 1) := by rw [show 7 * (k + 1) + 1 = 7 + (7 * k + 1) from by omega, Nat.pow_add]
     omega
    ·show Value.int .u64 (Int.fdiv (n : Int) ((128 : Nat) : Int)) = _
     rw [shr_nat n 128 (by omega)]
    ·rw [← hbs, hq]; simp
    ·show (Int.fdiv (n : Int) ((128 : Nat) : Int)).toNat < (intOf (ρ 0)).toNat
     rw [h0, shr_nat n 128 (by omega)]
     simp only [intOf]; omega
 ·intro ρ ρ' w h; rw [h 0 (by omega)]
end
end Go.Kx
