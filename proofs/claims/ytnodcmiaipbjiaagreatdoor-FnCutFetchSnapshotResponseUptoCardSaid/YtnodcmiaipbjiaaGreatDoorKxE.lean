/- The reference's messages and trees (Fd, Tr), how they lie in memory, what is written of them (sPart ..); its small functions. Conditions: the program's tables (SOK).
   The reference's small functions: width, counted, whole, things, version, has, null, Same.
   Functions whose result is a variable, or that have none; the reference's has, null, at.
   The reference's at, Same.
   The reference's Same, known (no tags), unknown (none said), Write.
   The reference's known (no tags), unknown (none said), Write's choice; octets of one's own as octets that lie somewhere.
   The reference's value.
   The reference's field. -/
import Derived.Test.YtnodcmiaipbjiaaGreatDoorKxD
import Derived.Laws.Tables
import Derived.Laws.MakeOwn
import Derived.Laws.CopyOwn
namespace Go.Kx
open Go.RowKit
set_option linter.unusedSimpArgs false
set_option linter.unusedVariables false
mutual
inductive Fd where
 | mk (kind fr to nul tag df of : Int) (sub : Fds)
inductive Fds where
 | nil
 | cons (f : Fd) (r : Fds)
end
mutual
inductive Tr where
 | mk (n : Int) (s : List UInt8) (null : Bool) (l : Trs) (u : List (Nat × List UInt8))
inductive Trs where
 | nil
 | cons (t : Tr) (r : Trs)
end
def Fds.toList : Fds → List Fd
 | .nil => []
 | .cons f r => f :: r.toList
def Trs.toList : Trs → List Tr
 | .nil => []
 | .cons t r => t :: r.toList
def Fd.kind : Fd → Int | .mk k _ _ _ _ _ _ _ => k
def Fd.fr : Fd → Int | .mk _ k _ _ _ _ _ _ => k
def Fd.to : Fd → Int | .mk _ _ k _ _ _ _ _ => k
def Fd.nul : Fd → Int | .mk _ _ _ k _ _ _ _ => k
def Fd.tag : Fd → Int | .mk _ _ _ _ k _ _ _ => k
def Fd.df : Fd → Int | .mk _ _ _ _ _ k _ _ => k
def Fd.of : Fd → Int | .mk _ _ _ _ _ _ k _ => k
def Fd.sub : Fd → Fds | .mk _ _ _ _ _ _ _ k => k
def Tr.n : Tr → Int | .mk n _ _ _ _ => n
def Tr.s : Tr → List UInt8 | .mk _ s _ _ _ => s
def Tr.null : Tr → Bool | .mk _ _ b _ _ => b
def Tr.l : Tr → List Tr | .mk _ _ _ l _ => l.toList
def Tr.u : Tr → List (Nat × List UInt8) | .mk _ _ _ _ u => u
def Tr.zero : Tr := .mk 0 [] false .nil []
/-! ### What is written -/
def sHas (fr to v : Int) : Bool := decide (fr ≤ v) && (decide (to < 0) || decide (v ≤ to))
def JR (nul v : Int) (b : Bool) : Bool := b && decide (0 ≤ nul) && decide (nul ≤ v)
def sCnt (flex null : Bool) (n size : Nat) : List UInt8 := if null then J9 flex size else cnt flex size n
def sWid (kind : Int) : Nat := if kind = 1 then 1 else if kind = 2 ∨ kind = 5 then 2 else if kind = 3 then 4 else 8
def most : Nat := 32767
def sVal (kind : Int) (part : Tr → List UInt8) (null flex : Bool) (t : Tr) : List UInt8 :=
 if kind = 0 then [UInt8.ofNat (t.n % 2).toNat]
 else if kind = 7 then (t.s ++ List.replicate 16 0).take 16
 else if kind = 8 then sCnt flex null (if null then [] else t.s.take most).length 2 ++ (if null then [] else t.s.take most)
 else if kind = 9 then sCnt flex null (if null then [] else t.s.take most).length 4 ++ (if null then [] else t.s.take most)
 else if kind = 10 then part t
 else fix t.n (sWid kind)
def Qf (t : Nat × List UInt8) : List (Nat × List UInt8) → List (Nat × List UInt8)
 | [] => [t]
 | x :: xs => if x.1 < t.1 then x :: Qf t xs else if x.1 = t.1 then x :: xs else t :: x :: xs
def sUnk (least : Nat) (l : List (Nat × List UInt8)) : List (Nat × List UInt8) := (l.take most).foldl (fun out t => if t.1 < least then out else Qf t out) []
def sTag (t : Nat × List UInt8) : List UInt8 := uv t.1 ++ uv (t.2.take most).length ++ t.2.take most
def sTags (flex : Bool) (t : Tr) : List UInt8 := if flex then uv (sUnk 0 t.u).length ++ (sUnk 0 t.u).flatMap sTag else []
mutual
def sField (ver : Int) (flex : Bool) : Fd → Tr → List UInt8
 | .mk kind _ _ nul _ _ of sub, t =>
  if kind = 11 then sCnt flex (JR nul ver t.null) (if JR nul ver t.null then [] else t.l.take most).length 4 ++ (if JR nul ver t.null then [] else t.l.take most).flatMap (sVal of (fun t => sPlain ver flex sub 0 t ++ sTags flex t) false flex)
  else if kind = 10 ∧ 0 ≤ nul then if JR nul ver t.null then fix (-1) 1 else fix 1 1 ++ (sPlain ver flex sub 0 t ++ sTags flex t)
  else sVal kind (fun t => sPlain ver flex sub 0 t ++ sTags flex t) (JR nul ver t.null) flex t
def sPlain (ver : Int) (flex : Bool) : Fds → Nat → Tr → List UInt8
 | .nil, _, _ => []
 | .cons f r, i, t => (if sHas f.fr f.to ver then sField ver flex f (t.l.getD i .zero) else []) ++ sPlain ver flex r (i + 1) t
end
def sPart (ver : Int) (flex : Bool) (fs : Fds) (t : Tr) : List UInt8 := sPlain ver flex fs 0 t ++ sTags flex t
/-! ### .. of messages with known tags -/
def Jr (fs : Fds) : Nat := fs.toList.foldl (fun n f => if 0 ≤ f.tag then max n (f.tag.toNat + 1) else n) 0
mutual
def Qc : Fd → Tr → Bool
 | .mk kind _ _ nul _ df _ sub, t =>
  if kind = 0 then decide (t.n % 2 = df)
  else if kind = 7 then (t.s.take 16).all (fun b => decide (b.toNat = 0))
  else if kind = 8 ∨ kind = 9 then (if 0 ≤ nul then t.null else t.s.isEmpty)
  else if kind = 11 then t.l.isEmpty
  else if kind = 10 then sUsuals sub 0 t && (sUnk (Jr sub) t.u).isEmpty
  else decide (fix t.n (sWid kind) = fix df (sWid kind))
def sUsuals : Fds → Nat → Tr → Bool
 | .nil, _, _ => true
 | .cons f r, i, t => Qc f (t.l.getD i .zero) && sUsuals r (i + 1) t
end
def JW (x : Nat × List UInt8) : List UInt8 := uv x.1 ++ uv x.2.length ++ x.2
def Q8 (kn un : List (Nat × List UInt8)) : List UInt8 := uv (kn.length + un.length) ++ (kn.flatMap JW ++ un.flatMap sTag)
mutual
def JU (ver : Int) (flex : Bool) : Fd → Tr → List UInt8
 | .mk kind _ _ nul _ _ of sub, t =>
  if kind = 11 then sCnt flex (JR nul ver t.null) (if JR nul ver t.null then [] else t.l.take most).length 4 ++ (if JR nul ver t.null then [] else t.l.take most).flatMap (sVal of (fun t => JT ver flex sub 0 t ++ (if flex then Q8 ((List.range (Jr sub)).flatMap fun g => kKn ver flex g sub 0 t) (sUnk (Jr sub) t.u) else [])) false flex)
  else if kind = 10 ∧ 0 ≤ nul then if JR nul ver t.null then fix (-1) 1 else fix 1 1 ++ (JT ver flex sub 0 t ++ (if flex then Q8 ((List.range (Jr sub)).flatMap fun g => kKn ver flex g sub 0 t) (sUnk (Jr sub) t.u) else []))
  else sVal kind (fun t => JT ver flex sub 0 t ++ (if flex then Q8 ((List.range (Jr sub)).flatMap fun g => kKn ver flex g sub 0 t) (sUnk (Jr sub) t.u) else [])) (JR nul ver t.null) flex t
def JT (ver : Int) (flex : Bool) : Fds → Nat → Tr → List UInt8
 | .nil, _, _ => []
 | .cons f r, i, t => (if decide (f.tag < 0) && sHas f.fr f.to ver then JU ver flex f (t.l.getD i .zero) else []) ++ JT ver flex r (i + 1) t
def kKn (ver : Int) (flex : Bool) (g : Nat) : Fds → Nat → Tr → List (Nat × List UInt8)
 | .nil, _, _ => []
 | .cons f r, i, t => (if decide (f.tag = (g : Int)) && !Qc f (t.l.getD i .zero) then [(g, JU ver flex f (t.l.getD i .zero))] else []) ++ kKn ver flex g r (i + 1) t
end
def kKns (ver : Int) (flex : Bool) (fs : Fds) (t : Tr) : List (Nat × List UInt8) := (List.range (Jr fs)).flatMap fun g => kKn ver flex g fs 0 t
def kTags (ver : Int) (flex : Bool) (fs : Fds) (t : Tr) : List UInt8 := if flex then Q8 (kKns ver flex fs t) (sUnk (Jr fs) t.u) else []
def Qu (ver : Int) (flex : Bool) (fs : Fds) (t : Tr) : List UInt8 := JT ver flex fs 0 t ++ kTags ver flex fs t
mutual
def plainFd : Fd → Bool
 | .mk _ _ _ _ tag _ _ sub => decide (tag < 0) && decide (sub.toList.length < 1000000) && plainFds sub
def plainFds : Fds → Bool
 | .nil => true
 | .cons f r => plainFd f && plainFds r
end
theorem plainFds.tag : ∀ {fs : Fds}, plainFds fs = true → ∀ f ∈ fs.toList, f.tag < 0
 | .nil, _, f, h => by simp [Fds.toList] at h
 | .cons f r, h, f', hf => by
  simp only [plainFds, UA] at h
  simp only [Fds.toList, List.mem_cons] at hf
  rcases hf with rfl | hf
  ·have h1 := h.1
   cases f'
   simp only [plainFd, UA, decide_eq_true_eq] at h1
   exact h1.1.1
  ·exact plainFds.tag h.2 f' hf
/-! ### How it lies in memory -/
def okAd (ad : Option Addr) : Prop := ad = none ∨ ∃ g o, ad = some ⟨g, o, none⟩
def okA (n : Nat) (ad : Option Addr) : Prop := n = 0 ∨ okAd ad
mutual
def J7 (w : World) : Fd → List Value → Prop
 | .mk kind fr to nul tag df of sub, cs => ∃ sl, cs = [.int .i64 kind, .int .i64 fr, .int .i64 to, .int .i64 nul, .int .i64 tag, .int .i64 df, .int .i64 of, sl] ∧ ∃ ad c, sl = .slice ad sub.toList.length c ∧ JX w ad 0 sub
def JX (w : World) : Option Addr → Nat → Fds → Prop
 | _, _, .nil => True
 | ad, i, .cons f r => (∃ g o cs, ad = some ⟨g, o, none⟩ ∧ w.rangeAt g (o + i * 8) cs ∧ J7 w f cs) ∧ JX w ad (i + 1) r
end
def J8 (w : World) (cs : List Value) (t : Nat × List UInt8) : Prop := t.1 < 4294967296 ∧ ∃ ad c, cs = [.int .u32 (t.1 : Nat), .slice ad t.2.length c] ∧ okA t.2.length ad ∧ t.2.length ≤ c ∧ Jg w (fun _ => True) ad t.2
def TagsS (w : World) (v : Value) (u : List (Nat × List UInt8)) : Prop := ∃ ad c, v = .slice ad u.length c ∧ okA u.length ad ∧ u.length ≤ c ∧ ∀ i t, u[i]? = some t → ∃ g o cs, ad = some ⟨g, o, none⟩ ∧ w.rangeAt g (o + i * 2) cs ∧ J8 w cs t
mutual
def JL (w : World) : Tr → List Value → Prop
 | .mk n s null l u, cs => ∃ sS sL sU, cs = [.int .i64 n, sS, .bool null, sL, sU] ∧ (-9223372036854775808 ≤ n ∧ n ≤ 9223372036854775807) ∧ (∃ ad c, sS = .slice ad s.length c ∧ okA s.length ad ∧ s.length ≤ c ∧ Jg w (fun _ => True) ad s) ∧
   (∃ ad c, sL = .slice ad l.toList.length c ∧ okA l.toList.length ad ∧ l.toList.length ≤ c ∧ Ye w ad 0 l) ∧ TagsS w sU u
def Ye (w : World) : Option Addr → Nat → Trs → Prop
 | _, _, .nil => True
 | ad, i, .cons t r => (∃ g o cs, ad = some ⟨g, o, none⟩ ∧ w.rangeAt g (o + i * 5) cs ∧ JL w t cs) ∧ Ye w ad (i + 1) r
end
section
variable {w w' : World}
theorem J8.kp {cs : List Value} {t : Nat × List UInt8} (h : J8 w cs t) (k : Kp w w') : J8 w' cs t := by
 obtain ⟨h1, ad, c, h2, h3, h4, h5⟩ := h
 exact ⟨h1, ad, c, h2, h3, h4, h5.kp k⟩
theorem TagsS.kp {v : Value} {u : List (Nat × List UInt8)} (h : TagsS w v u) (k : Kp w w') : TagsS w' v u := by
 obtain ⟨ad, c, h1, h2, h3, h4⟩ := h
 refine ⟨ad, c, h1, h2, h3, fun i t hi => ?_⟩
 obtain ⟨g, o, cs, g1, g2, g3⟩ := h4 i t hi
 exact ⟨g, o, cs, g1, Jx g2 k, g3.kp k⟩
mutual
theorem J7.kp (k : Kp w w') : ∀ (f : Fd) {cs : List Value}, J7 w f cs → J7 w' f cs
 | .mk _ _ _ _ _ _ _ sub, cs, h => by
  unfold J7 at h ⊢
  obtain ⟨sl, h1, ad, c, h2, h3⟩ := h
  exact ⟨sl, h1, ad, c, h2, JX.kp k sub h3⟩
theorem JX.kp (k : Kp w w') : ∀ (fs : Fds) {ad : Option Addr} {i : Nat}, JX w ad i fs → JX w' ad i fs
 | .nil, _, _, _ => by unfold JX; trivial
 | .cons f r, ad, i, h => by
  unfold JX at h ⊢
  obtain ⟨⟨g, o, cs, h1, h2, h3⟩, h4⟩ := h
  exact ⟨⟨g, o, cs, h1, Jx h2 k, J7.kp k f h3⟩, JX.kp k r h4⟩
end
mutual
theorem JL.kp (k : Kp w w') : ∀ (t : Tr) {cs : List Value}, JL w t cs → JL w' t cs
 | .mk _ _ _ l _, cs, h => by
  unfold JL at h ⊢
  obtain ⟨sS, sL, sU, h1, hn, ⟨ad, c, h2, h3, h4, h5⟩, ⟨ad', c', h6, h7, h8, h9⟩, h10⟩ := h
  exact ⟨sS, sL, sU, h1, hn, ⟨ad, c, h2, h3, h4, h5.kp k⟩, ⟨ad', c', h6, h7, h8, Ye.kp k l h9⟩, h10.kp k⟩
theorem Ye.kp (k : Kp w w') : ∀ (l : Trs) {ad : Option Addr} {i : Nat}, Ye w ad i l → Ye w' ad i l
 | .nil, _, _, _ => by unfold Ye; trivial
 | .cons f r, ad, i, h => by
  unfold Ye at h ⊢
  obtain ⟨⟨g, o, cs, h1, h2, h3⟩, h4⟩ := h
  exact ⟨⟨g, o, cs, h1, Jx h2 k, JL.kp k f h3⟩, Ye.kp k r h4⟩
end
theorem Ye.at {ad : Option Addr} : ∀ {l : Trs} {i j : Nat} {t : Tr}, Ye w ad i l → l.toList[j]? = some t → ∃ g o cs, ad = some ⟨g, o, none⟩ ∧ w.rangeAt g (o + (i + j) * 5) cs ∧ JL w t cs
 | .nil, i, j, t, _, hj => by simp [Trs.toList] at hj
 | .cons t r, i, j, t', h, hj => by
  unfold Ye at h
  cases j with
  | zero => simp [Trs.toList] at hj; subst hj; exact h.1
  | succ j =>
   obtain ⟨g, o, cs, h1, h2, h3⟩ := Ye.at (j := j) h.2 (by simpa [Trs.toList] using hj)
   exact ⟨g, o, cs, h1, by rw [show i + (j + 1) = i + 1 + j from by omega]; exact h2, h3⟩
theorem JX.at {ad : Option Addr} : ∀ {l : Fds} {i j : Nat} {t : Fd}, JX w ad i l → l.toList[j]? = some t → ∃ g o cs, ad = some ⟨g, o, none⟩ ∧ w.rangeAt g (o + (i + j) * 8) cs ∧ J7 w t cs
 | .nil, i, j, t, _, hj => by simp [Fds.toList] at hj
 | .cons t r, i, j, t', h, hj => by
  unfold JX at h
  cases j with
  | zero => simp [Fds.toList] at hj; subst hj; exact h.1
  | succ j =>
   obtain ⟨g, o, cs, h1, h2, h3⟩ := JX.at (j := j) h.2 (by simpa [Fds.toList] using hj)
   exact ⟨g, o, cs, h1, by rw [show i + (j + 1) = i + 1 + j from by omega]; exact h2, h3⟩
end
/-! ### What the program's tables must say -/
def Q7 (P : Program) (T : Nat) (z : List Value) : Prop := ∃ i, P.info? T = some i ∧ i.zero = some (.agg z.toArray)
def allIs : List MVal → List Value → Bool
 | [], [] => true
 | m :: ms, v :: vs => m.is v && allIs ms vs
 | _, _ => false
theorem allIs_eq : ∀ {ms : List MVal} {vs : List Value}, allIs ms vs = true → vs = ms.map MVal.val
 | [], [], _ => rfl
 | [], _ :: _, h => by simp [allIs] at h
 | _ :: _, [], h => by simp [allIs] at h
 | m :: ms, v :: vs, h => by
  simp only [allIs, UA] at h
  rw [MVal.is_eq h.1, allIs_eq h.2]; rfl
def zeroIs (P : Program) (T : Nat) (z : List MVal) : Bool :=
 match P.info? T with
 | some i => (match i.zero with | some (.agg cs) => allIs z cs.toList | _ => false)
 | none => false
theorem QX {P : Program} {T : Nat} {z : List MVal} (h : zeroIs P T z = true) : Q7 P T (z.map MVal.val) := by
 unfold zeroIs at h
 cases hi : P.info? T with
 | none => simp [hi] at h
 | some i =>
  simp only [hi] at h
  refine ⟨i, hi, ?_⟩
  cases hz : i.zero with
  | none => simp [hz] at h
  | some v =>
   cases v <;> simp only [hz, UB] at h
   rw [← allIs_eq h]
def plcIs : Nat → List (Nat × Nat) → Bool
 | _, [] => true
 | k, p :: ps => Nat.beq p.1 k && Nat.beq p.2 1 && plcIs (k + 1) ps
def plcB (P : Program) (T n : Nat) : Bool :=
 match P.underlying T with
 | some (.struct fields) => (match fields.toList.mapM (fun f => (P.info? f.type).map fun i => (f.offset, i.size)) with | some ps => plcIs 0 ps && Nat.beq ps.length n | none => false)
 | _ => false
theorem plcIs_get : ∀ {ps : List (Nat × Nat)} {k i : Nat}, plcIs k ps = true → i < ps.length → ps[i]? = some (k + i, 1)
 | [], k, i, _, h => by simp at h
 | p :: ps, k, i, h, hi => by
  simp only [plcIs, UA, Nat.beq_eq] at h
  obtain ⟨⟨h1, h2⟩, h3⟩ := h
  cases i with
  | zero => simp only [List.getElem?_cons_zero, UC]; exact Prod.ext (by simpa using h1) h2
  | succ i => rw [List.getElem?_cons_succ, plcIs_get h3 (by simpa using hi)]; congr 2; omega
theorem fill_one {place : Nat → Option (Nat × Nat)} {n : Nat} (hp : ∀ i, i < n → place i = some (i, 1)) : ∀ (parts : List (Nat × Value)) (cells : Array Value), cells.size = n → (∀ p ∈ parts, p.1 < n ∧ p.2.cells = #[p.2]) →
  Instr.fill place cells parts = some (parts.foldl (fun cs p => cs.setIfInBounds p.1 p.2) cells)
 | [], cells, _, _ => rfl
 | (i, v) :: rest, cells, hc, h => by
  have h1 := h (i, v) List.mem_cons_self
  dsimp only at h1
  simp only [Instr.fill, hp i h1.1, h1.2]
  rw [if_neg (by simp; omega)]
  have e : ((#[v] : Array Value).zipIdx.foldl (fun (cs : Array Value) (x : Value × Nat) => match x with | (c, j) => cs.setIfInBounds (i + j) c) cells) = cells.setIfInBounds i v := by simp
  rw [e, fill_one hp rest _ (by simpa using hc) (fun p hp' => h p (List.mem_cons_of_mem _ hp'))]
  rfl
theorem built_of {P : Program} {T : Nat} {z : List Value} {parts : List (Nat × Value)} {cells : List Value} (hz : Q7 P T z) (hp : plcB P T z.length = true) (h : ∀ p ∈ parts, p.1 < z.length ∧ p.2.cells = #[p.2])
  (hc : parts.foldl (fun cs p => cs.setIfInBounds p.1 p.2) z.toArray = cells.toArray) (w : World) : (Instr.build T parts.toArray).run P w = .ok (.agg cells.toArray) w := by
 obtain ⟨it, hit, hzv⟩ := hz
 refine run_build w T _ _ ?_
 unfold plcB at hp
 cases hu : P.underlying T with
 | none => simp [hu] at hp
 | some d =>
  cases d <;> simp only [hu, UB] at hp
  rename_i fields
  cases hm : fields.toList.mapM (fun f => (P.info? f.type).map fun i => (f.offset, i.size)) with
  | none => simp [hm] at hp
  | some ps =>
   simp only [hm, UA, Nat.beq_eq] at hp
   unfold Program.built
   simp only [hit, hu, hzv, hm, Value.cells]
   rw [fill_one (n := z.length) (fun i hi => by
    rw [List.getElem?_toArray]
    have := plcIs_get (i := i) hp.1 (by omega)
    rw [this]; simp) parts z.toArray (by simp) h, hc]
def bytesLe (P : Program) (T n : Nat) : Bool :=
 match P.info? T with
 | some i => Nat.ble i.bytes n
 | none => false
structure SOK (P : Program) (S : SN) : Prop where
 tk : TOK P S.T
 hi64 : S.T.i64 ≠ 0
 hu64 : S.T.u64 ≠ 0
 hu32 : S.T.u32 ≠ 0
 mo : P.follows .mixedOrders = true
 fds : Jk P S.fds S.fd = true
 trs : Jk P S.trs S.tr = true
 tgs : Jk P S.tgs S.tg = true
 fdN : Jh P S.fd 8 = true
 trN : Jh P S.tr 5 = true
 tgN : Jh P S.tg 2 = true
 msN : Jh P S.msg 2 = true
 fdR : QH P S.fd = true
 trR : QH P S.tr = true
 tgR : QH P S.tg = true
 msR : QH P S.msg = true
 fdF : ∀ j, j < 8 → Jd P S.fd j j = true
 trF : ∀ j, j < 5 → Jd P S.tr j j = true
 tgF : ∀ j, j < 2 → Jd P S.tg j j = true
 msF : ∀ j, j < 2 → Jd P S.msg j j = true
 pInt : Jm P S.T.int = true
 pI64 : Jm P S.T.i64 = true
 pBool : Jm P S.T.bool = true
 pU8s : Jm P S.T.u8s = true
 pFds : Jm P S.fds = true
 pTrs : Jm P S.trs = true
 pTgs : Jm P S.tgs = true
 pU32 : Jm P S.T.u32 = true
 pU8 : Jm P S.T.u8 = true
 zTr : Q7 P S.tr [.int .i64 0, .slice none 0 0, .bool false, .slice none 0 0, .slice none 0 0]
 zFd : Q7 P S.fd [.int .i64 0, .int .i64 0, .int .i64 0, .int .i64 0, .int .i64 0, .int .i64 0, .int .i64 0, .slice none 0 0]
 zTg : Q7 P S.tg [.int .u32 0, .slice none 0 0]
 zMs : Q7 P S.msg [.slice none 0 0, .int .i64 0]
 byTr : bytesLe P S.tr 1000 = true
 lTr : plcB P S.tr 5 = true
 lFd : plcB P S.fd 8 = true
 lTg : plcB P S.tg 2 = true
 lMs : plcB P S.msg 2 = true
structure SOK0 (P : Program) (S : SN) : Prop where
 tk : TOK P S.T
 mo : P.follows .mixedOrders = true
 pU8 : Jm P S.T.u8 = true
theorem SOK.z {P : Program} {S : SN} (h : SOK P S) : SOK0 P S := ⟨h.tk, h.mo, h.pU8⟩
def sokB (P : Program) (S : SN) : List Bool := [tokB P S.T, yes S.T.i64, yes S.T.u64, yes S.T.u32, P.follows .mixedOrders, Jk P S.fds S.fd, Jk P S.trs S.tr, Jk P S.tgs S.tg, Jh P S.fd 8, Jh P S.tr 5, Jh P S.tg 2, Jh P S.msg 2,
 QH P S.fd, QH P S.tr, QH P S.tg, QH P S.msg, (List.range 8).all (fun j => Jd P S.fd j j), (List.range 5).all (fun j => Jd P S.tr j j), (List.range 2).all (fun j => Jd P S.tg j j), (List.range 2).all (fun j => Jd P S.msg j j),
 Jm P S.T.int, Jm P S.T.i64, Jm P S.T.bool, Jm P S.T.u8s, Jm P S.fds, Jm P S.trs, Jm P S.tgs, Jm P S.T.u32, Jm P S.T.u8,
 zeroIs P S.tr [.int .i64 0, .nslice, .bool false, .nslice, .nslice], zeroIs P S.fd [.int .i64 0, .int .i64 0, .int .i64 0, .int .i64 0, .int .i64 0, .int .i64 0, .int .i64 0, .nslice], zeroIs P S.tg [.int .u32 0, .nslice], zeroIs P S.msg [.nslice, .int .i64 0],
 bytesLe P S.tr 1000, plcB P S.tr 5, plcB P S.fd 8, plcB P S.tg 2, plcB P S.msg 2]
theorem sok_of {P : Program} {S : SN} (h : (sokB P S).all id = true) : SOK P S := by
 simp only [sokB, List.all_cons, List.all_nil, id_eq, Bool.and_true, UA] at h
 obtain ⟨h1, h2, h3, h4, h5, h6, h7, h8, h9, h10, h11, h12, h13, h14, h15, h16, h17, h18, h19, h20, h21, h22, h23, h24, h25, h26, h27, h28, h29, h30, h31, h32, h33, h34, h35, h36, h37, h38⟩ := h
 exact ⟨tok_of h1, Js h2, Js h3, Js h4, h5, h6, h7, h8, h9, h10, h11, h12, h13, h14, h15, h16,
  fun j hj => List.all_eq_true.1 h17 j (List.mem_range.2 hj), fun j hj => List.all_eq_true.1 h18 j (List.mem_range.2 hj), fun j hj => List.all_eq_true.1 h19 j (List.mem_range.2 hj), fun j hj => List.all_eq_true.1 h20 j (List.mem_range.2 hj),
  h21, h22, h23, h24, h25, h26, h27, h28, h29, QX h30, QX h31, QX h32, QX h33, h34, h35, h36, h37, h38⟩
section
variable {P : Program} {S : SN} {w : World} {N : Nat} {Q : UE} {ρ : Nat → Value} {ms : List MOp}
theorem RL.caB {U d f : Nat} {xs : List MX} {out : List UInt8} {args : List Value} (he : Jo P f = true) (hc : RetB P U f args w out) (ha : xs.map (xof ρ) = args)
  (h : ∀ sv w', OwnB U w' w.heap.size sv out → Below w.heap.size w w' → RL P N ms Q (upd ρ d sv) w') (hd : d < N := by decide) (hx : ∀ x ∈ xs, MX.lt N x = true := by simp [MX.lt, Nat.blt_eq]) : RL P N (.ca d f xs :: ms) Q ρ w := by
 refine RL.ca (R := fun sv w' => OwnB U w' w.heap.size sv out ∧ Below w.heap.size w w') he ?_ (fun v w' h' => h v w' h'.1 h'.2) hd hx
 rw [ha]
 refine Calls.mono hc ?_
 rintro e w' ⟨sv, rfl, h2⟩
 exact ⟨sv, rfl, h2⟩
/-! ### width -/
def WidC (P : Program) (f : Nat) : Prop := Jo P f = true ∧ ∀ (w : World) (k : Int), Calls P f #[.int .i64 k] w (fun e w' => e = .returned (.int .i64 (sWid k : Nat)) ∧ w' = w)
theorem width_ok {f : Nat} (hf : FnIs P f (cWidth S) 11 2) : WidC P f := by
 refine ⟨hf.ent, fun w k => ?_⟩
 refine hf.runs (args := [.int .i64 k]) (by simp) (by omega) ?_
 refine RW.sq (RW.rg (RL.s MR.mv (RL.nil (RW.sq (RW.sq (RW.rg (RL.s MR.mv (RL.nil (RW.bl (RW.sq (RW.rg ?_)))))))))))
 repeat first | refine RL.s MR.mv ?_ | refine RL.s (MR.biE rfl) ?_ | refine RL.s (MR.b2 rfl) ?_
 refine RL.nil (RW.cd (b := (k == 1)) rfl (fun e => ?_) (fun e1 => ?_))
 ·have hk : k = 1 := beq_iff_eq.1 e
  subst hk
  exact RW.sq (RW.rg (RL.s MR.mv (RL.nil (RW.rt ⟨rfl, rfl⟩))))
 have h1 : k ≠ 1 := beq_eq_false_iff_ne.1 e1
 refine RW.sq (RW.sq (RW.rg ?_))
 repeat first | refine RL.s MR.mv ?_ | refine RL.s (MR.biE rfl) ?_ | refine RL.s (MR.b2 rfl) ?_
 refine RL.nil (RW.cd (b := (k == 2)) rfl (fun e => RW.sk ?_) (fun e2 => RW.rg ?_))
 ·have hk : k = 2 := beq_iff_eq.1 e
  subst hk
  exact RW.cd (b := true) rfl (fun _ => RW.sq (RW.rg (RL.s MR.mv (RL.nil (RW.rt ⟨rfl, rfl⟩))))) (fun e => by cases e)
 have h2 : k ≠ 2 := beq_eq_false_iff_ne.1 e2
 repeat first | refine RL.s MR.mv ?_ | refine RL.s (MR.biE rfl) ?_ | refine RL.s (MR.b2 rfl) ?_
 refine RL.nil (RW.cd (b := (k == 5)) rfl (fun e => ?_) (fun e5 => RW.sq (RW.rg ?_)))
 ·have hk : k = 5 := beq_iff_eq.1 e
  subst hk
  exact RW.sq (RW.rg (RL.s MR.mv (RL.nil (RW.rt ⟨rfl, rfl⟩))))
 have h5 : k ≠ 5 := beq_eq_false_iff_ne.1 e5
 repeat first | refine RL.s MR.mv ?_ | refine RL.s (MR.biE rfl) ?_ | refine RL.s (MR.b2 rfl) ?_
 refine RL.nil (RW.cd (b := (k == 3)) rfl (fun e => ?_) (fun e3 => RW.sk ?_))
 ·have hk : k = 3 := beq_iff_eq.1 e
  subst hk
  exact RW.sq (RW.rg (RL.s MR.mv (RL.nil (RW.rt ⟨rfl, rfl⟩))))
 have h3 : k ≠ 3 := beq_eq_false_iff_ne.1 e3
 refine RW.sq (RW.rg (RL.s MR.mv (RL.nil (RW.rt ⟨?_, rfl⟩))))
 simp [sWid, h1, h2, h3, h5]
 rfl
/-! ### counted -/
def CntC (P : Program) (U f : Nat) : Prop := Jo P f = true ∧ ∀ (w : World) (flex null : Bool) (n k : Nat), n ≤ 1099511627776 → (k = 1 ∨ k = 2 ∨ k = 4 ∨ k = 8) → RetB P U f [.bool flex, .bool null, .int .i64 n, .int .i64 k] w (sCnt flex null n k)
theorem counted_ok {f : Nat} (ok : SOK P S) (hf : FnIs P f (cCounted S) 28 8) (hfix : FixedC P S.T.u8 S.fFixed) (huv : UvC P S.T.u8 S.fUvar) : CntC P S.T.u8 f := by
 refine ⟨hf.ent, fun w flex null n k hn hk => ?_⟩
 refine hf.runs (by simp) (by omega) ?_
 refine RW.sq (RW.rg (RL.s MR.mv (RL.nil (RW.sq (RW.bl (RW.sq (RW.gf (fun _ => True) trivial ?_)))))))
 cases flex <;> cases null
 ·repeat first | refine RG.q (fun _ _ => MR.mv) ?_ | refine RG.q (fun _ _ => MR.biE rfl) ?_ | refine RG.q (fun _ _ => MR.pk rfl) ?_ | refine RG.no (by first | exact ⟨by decide, .inl rfl⟩ | exact ⟨by decide, .inr ⟨rfl, rfl⟩⟩) ?_
  refine RG.nil fun _ => RW.cd (b := false) rfl (fun e => by cases e) (fun _ => RW.sq (RW.rg ?_))
  repeat first | refine RL.s MR.mv ?_ | refine RL.s (MR.biE rfl) ?_ | refine RL.s (MR.b2 rfl) ?_
  refine RL.nil (RW.cd (b := false) rfl (fun e => by cases e) (fun _ => RW.sq (RW.rg ?_)))
  repeat first | refine RL.s MR.mv ?_ | refine RL.s (MR.biE rfl) ?_ | refine RL.s (MR.b2 rfl) ?_
  refine RL.nil (RW.cd (b := false) rfl (fun e => by cases e) (fun _ => RW.sk ?_))
  refine RW.sq (RW.rg ?_)
  repeat first | refine RL.s MR.mv ?_ | refine RL.s (MR.biE rfl) ?_ | refine RL.s (MR.b2 rfl) ?_
  refine RL.caB hfix.1 (hfix.2 w n k hk) rfl fun sv w' o b => ?_
  repeat first | refine RL.s MR.mv ?_ | refine RL.s (MR.biE rfl) ?_ | refine RL.s (MR.b2 rfl) ?_
  exact RL.nil (RW.rt ⟨sv, rfl, o, b⟩)
 ·repeat first | refine RG.q (fun _ _ => MR.mv) ?_ | refine RG.q (fun _ _ => MR.biE rfl) ?_ | refine RG.q (fun _ _ => MR.pk rfl) ?_ | refine RG.no (by first | exact ⟨by decide, .inl rfl⟩ | exact ⟨by decide, .inr ⟨rfl, rfl⟩⟩) ?_
  refine RG.nil fun _ => RW.cd (b := false) rfl (fun e => by cases e) (fun _ => RW.sq (RW.rg ?_))
  repeat first | refine RL.s MR.mv ?_ | refine RL.s (MR.biE rfl) ?_ | refine RL.s (MR.b2 rfl) ?_
  refine RL.nil (RW.cd (b := false) rfl (fun e => by cases e) (fun _ => RW.sq (RW.rg ?_)))
  repeat first | refine RL.s MR.mv ?_ | refine RL.s (MR.biE rfl) ?_ | refine RL.s (MR.b2 rfl) ?_
  refine RL.nil (RW.cd (b := true) rfl (fun _ => RW.sq (RW.rg ?_)) (fun e => by cases e))
  repeat first | refine RL.s MR.mv ?_ | refine RL.s (MR.biE rfl) ?_ | refine RL.s (MR.b2 rfl) ?_
  refine RL.caB hfix.1 (hfix.2 w (-1) k hk) rfl fun sv w' o b => ?_
  repeat first | refine RL.s MR.mv ?_ | refine RL.s (MR.biE rfl) ?_ | refine RL.s (MR.b2 rfl) ?_
  exact RL.nil (RW.rt ⟨sv, rfl, o, b⟩)
 ·repeat first | refine RG.q (fun _ _ => MR.mv) ?_ | refine RG.q (fun _ _ => MR.biE rfl) ?_ | refine RG.q (fun _ _ => MR.pk rfl) ?_ | refine RG.no (by first | exact ⟨by decide, .inl rfl⟩ | exact ⟨by decide, .inr ⟨rfl, rfl⟩⟩) ?_
  refine RG.nil fun _ => RW.cd (b := false) rfl (fun e => by cases e) (fun _ => RW.sq (RW.rg ?_))
  repeat first | refine RL.s MR.mv ?_ | refine RL.s (MR.biE rfl) ?_ | refine RL.s (MR.b2 rfl) ?_
  refine RL.nil (RW.cd (b := true) rfl (fun _ => RW.sq (RW.rg ?_)) (fun e => by cases e))
  repeat first | refine RL.s MR.mv ?_ | refine RL.s (MR.biE rfl) ?_ | refine RL.s (MR.b2 rfl) ?_
  refine RL.s (MR.cvI rfl ok.tk.int (ok.tk.u64 ok.hu64)) ?_
  repeat first | refine RL.s MR.mv ?_ | refine RL.s (MR.biE rfl) ?_ | refine RL.s (MR.b2 rfl) ?_
  refine RL.caB huv.1 (huv.2 w (n + 1) (by omega)) ?_ fun sv w' o b => ?_
  ·show [Value.int .u64 (IntKind.u64.wrap (IntKind.u64.wrap (n : Int) + 1))] = _
   rw [show IntKind.u64.wrap (n : Int) = n from by rw [QD (.inr (.inr ⟨rfl, rfl⟩))]; omega, show IntKind.u64.wrap ((n : Int) + 1) = ((n + 1 : Nat) : Int) from by rw [QD (.inr (.inr ⟨rfl, rfl⟩))]; omega]
  repeat first | refine RL.s MR.mv ?_ | refine RL.s (MR.biE rfl) ?_ | refine RL.s (MR.b2 rfl) ?_
  exact RL.nil (RW.rt ⟨sv, rfl, o, b⟩)
 ·repeat first | refine RG.q (fun _ _ => MR.mv) ?_ | refine RG.q (fun _ _ => MR.biE rfl) ?_ | refine RG.q (fun _ _ => MR.pk rfl) ?_ | refine RG.no (by first | exact ⟨by decide, .inl rfl⟩ | exact ⟨by decide, .inr ⟨rfl, rfl⟩⟩) ?_
  refine RG.nil fun _ => RW.cd (b := true) rfl (fun _ => RW.sq (RW.rg ?_)) (fun e => by cases e)
  refine RL.bsl8 (bs := [0]) ok.tk.u8s ok.tk.u8 rfl (by simp) ?_
  repeat first | refine RL.s MR.mv ?_ | refine RL.s (MR.biE rfl) ?_ | refine RL.s (MR.b2 rfl) ?_
  refine RL.nil (RW.rt ⟨_, rfl, ?_, (Below.refl _ w).alloc (Nat.le_refl _) _⟩)
  exact World.ownsRow_lit (base := w.heap.size) (e := S.T.u8) (size := 1) w #[JF 0] 1 (Nat.le_refl _) (by decide) rfl
/-! ### whole, things -/
theorem run_sliceTo {T U n c h : Nat} {ad : Option Addr} {q : Prop} (hT : Jk P T U = true) (hU : (P.info? U).isSome = true) (had : q) (hc : h ≤ c) :
  (Instr.sliceAt T (.slice ad n c) none (some (.int .i64 (h : Nat))) none).run P w = .ok (.slice ad h c) w := by
 obtain ⟨i, hi⟩ := Option.isSome_iff_exists.1 hU
 simp only [Instr.sliceAt, Sem.run_bind, run_underlying (Jq hT), Result.andThen_ok, Instr.slice, Instr.sliceBounds, Instr.sliceBound, asIntOf, Sem.run_pure, sizeOf, typeInfo, run_program, hi]
 rw [if_pos ⟨by omega, by omega⟩]
 simp only [Sem.run_pure, Result.andThen_ok, Int.toNat_natCast, Nat.sub_zero]
 congr 2
 cases ad with
 | none => split <;> rfl
 | some a =>
  split
  ·rfl
  ·simp [Addr.add]
theorem cellsB_some {T n : Nat} (h : Jh P T n = true) : (P.info? T).isSome = true := by
 unfold Jh at h
 cases hi : P.info? T with
 | none => simp [hi] at h
 | some i => rfl
def CutC (P : Program) (f : Nat) : Prop := Jo P f = true ∧ ∀ (w : World) (ad : Option Addr) (n c : Nat), okA n ad → n ≤ c → Calls P f #[.slice ad n c] w (fun e w' => e = .returned (.slice ad (min n most) c) ∧ w' = w)
theorem min_most (n : Nat) : (if (32767 : Int) < (n : Int) then (32767 : Int) else (n : Int)) = ((min n most : Nat) : Int) := by
 unfold most
 split <;> omega
theorem whole_ok {f : Nat} (ok : SOK P S) (hf : FnIs P f (cWhole S) 8 2) : CutC P f := by
 refine ⟨hf.ent, fun w ad n c had hc => ?_⟩
 refine hf.runs (args := [.slice ad n c]) (by simp) (by omega) ?_
 obtain ⟨i, hi, _⟩ := QB ok.tk.u8
 refine RW.sq (RW.rg (RL.s MR.mv (RL.nil (RW.sq (RW.rg ?_)))))
 repeat first | refine RL.s MR.mv ?_ | refine RL.s (MR.biE rfl) ?_ | refine RL.s (MR.b2 rfl) ?_
 refine RL.s (MR.ln ok.tk.u8s (p := ad) (n := n) (c := c) rfl) (RL.s (MR.mn (m := n) (n := 32767) rfl rfl) (RL.s (MR.sl (v := .slice ad (min n most) c) ?_) ?_))
 ·show (Instr.sliceAt S.T.u8s (.slice ad n c) none (some (.int .i64 (if (32767 : Int) < (n : Int) then (32767 : Int) else (n : Int)))) none).run P w = _
  rw [min_most]
  exact run_sliceTo ok.tk.u8s (by rw [hi]; rfl) had (by omega)
 repeat first | refine RL.s MR.mv ?_ | refine RL.s (MR.biE rfl) ?_ | refine RL.s (MR.b2 rfl) ?_
 exact RL.nil (RW.rt ⟨rfl, rfl⟩)
theorem things_ok {f : Nat} (ok : SOK P S) (hf : FnIs P f (cThings S) 8 2) : CutC P f := by
 refine ⟨hf.ent, fun w ad n c had hc => ?_⟩
 refine hf.runs (args := [.slice ad n c]) (by simp) (by omega) ?_
 refine RW.sq (RW.rg (RL.s MR.mv (RL.nil (RW.sq (RW.rg ?_)))))
 repeat first | refine RL.s MR.mv ?_ | refine RL.s (MR.biE rfl) ?_ | refine RL.s (MR.b2 rfl) ?_
 refine RL.s (MR.ln ok.trs (p := ad) (n := n) (c := c) rfl) (RL.s (MR.mn (m := n) (n := 32767) rfl rfl) (RL.s (MR.sl (v := .slice ad (min n most) c) ?_) ?_))
 ·show (Instr.sliceAt S.trs (.slice ad n c) none (some (.int .i64 (if (32767 : Int) < (n : Int) then (32767 : Int) else (n : Int)))) none).run P w = _
  rw [min_most]
  exact run_sliceTo ok.trs (cellsB_some ok.trN) had (by omega)
 repeat first | refine RL.s MR.mv ?_ | refine RL.s (MR.biE rfl) ?_ | refine RL.s (MR.b2 rfl) ?_
 exact RL.nil (RW.rt ⟨rfl, rfl⟩)
/-! ### version -/
def VerC (P : Program) (f : Nat) : Prop := Jo P f = true ∧ ∀ (w : World) (n m : Nat), n < 256 → m < 32768 → Calls P f #[.int .u8 n, .int .i64 m] w (fun e w' => e = .returned (.int .i64 (n % (m + 1) : Nat)) ∧ w' = w)
theorem ver_ok {f : Nat} (ok : SOK0 P S) (hf : FnIs P f (cVer S) 10 4) : VerC P f := by
 refine ⟨hf.ent, fun w n m hn hm => ?_⟩
 refine hf.runs (args := [.int .u8 n, .int .i64 m]) (by simp) (by omega) ?_
 refine RW.sq (RW.rg (RL.s MR.mv (RL.nil (RW.sq (RW.rg (RL.s MR.mv (RL.s (MR.cvI rfl ok.tk.u8i ok.tk.int) ?_)))))))
 repeat first | refine RL.s MR.mv ?_ | refine RL.s (MR.biE rfl) ?_ | refine RL.s (MR.b2 rfl) ?_
 refine RL.s (MR.biE (v := .int .i64 (n % (m + 1) : Nat)) ?_) ?_
 ·show evB .rem (.int .i64 (IntKind.i64.wrap (n : Int))) (.int .i64 (IntKind.i64.wrap ((m : Int) + 1))) = _
  rw [Ju (by omega) (by omega), Ju (by omega) (by omega)]
  simp only [evB, true_and]
  rw [if_pos (by omega), Int.tmod_eq_emod_of_nonneg (by omega)]
  norm_cast
 repeat first | refine RL.s MR.mv ?_ | refine RL.s (MR.biE rfl) ?_ | refine RL.s (MR.b2 rfl) ?_
 exact RL.nil (RW.rt ⟨rfl, rfl⟩)
end
structure FnIsC (P : Program) (f : Nat) (m : Jc) (N s ty : Nat) : Prop where
 ex : ∃ fn c, P.funcs[f]? = some fn ∧ fn.body = some c ∧ fits m c = true ∧ fn.ntmps = N ∧ fn.results = #[.cell s ty]
 ent : Jo P f = true
structure Qz (P : Program) (f : Nat) (m : Jc) (N : Nat) : Prop where
 ex : ∃ fn c, P.funcs[f]? = some fn ∧ fn.body = some c ∧ fits m c = true ∧ fn.ntmps = N ∧ fn.results = #[]
 ent : Jo P f = true
def isFnC (P : Program) (f : Nat) (m : Jc) (N s ty : Nat) : Bool :=
 Jo P f && (match P.funcs[f]? with
  | some fn => Nat.beq fn.ntmps N && (match fn.results.toList with | [.cell s' t'] => Nat.beq s s' && Nat.beq ty t' | _ => false) && (match fn.body with | some c => fits m c | none => false)
  | none => false)
def isFn0 (P : Program) (f : Nat) (m : Jc) (N : Nat) : Bool :=
 Jo P f && (match P.funcs[f]? with
  | some fn => Nat.beq fn.ntmps N && fn.results.toList.isEmpty && (match fn.body with | some c => fits m c | none => false)
  | none => false)
theorem FnIsC.of {P : Program} {f N s ty : Nat} {m : Jc} (h : isFnC P f m N s ty = true) : FnIsC P f m N s ty := by
 simp only [isFnC, UA] at h
 obtain ⟨h1, h2⟩ := h
 refine ⟨?_, h1⟩
 cases hf : P.funcs[f]? with
 | none => simp [hf] at h2
 | some fn =>
  simp only [hf, UA, Nat.beq_eq] at h2
  obtain ⟨⟨g1, g2⟩, g3⟩ := h2
  cases hb : fn.body with
  | none => simp [hb] at g3
  | some c =>
   simp only [hb] at g3
   refine ⟨fn, c, rfl, hb, g3, g1, ?_⟩
   apply Array.toList_inj.1
   generalize fn.results.toList = l at g2
   match l, g2 with
   | [.cell s' t'], g2 => simp only [UA, Nat.beq_eq] at g2; rw [g2.1, g2.2]
theorem Qz.of {P : Program} {f N : Nat} {m : Jc} (h : isFn0 P f m N = true) : Qz P f m N := by
 simp only [isFn0, UA] at h
 obtain ⟨h1, h2⟩ := h
 refine ⟨?_, h1⟩
 cases hf : P.funcs[f]? with
 | none => simp [hf] at h2
 | some fn =>
  simp only [hf, UA, Nat.beq_eq] at h2
  obtain ⟨⟨g1, g2⟩, g3⟩ := h2
  cases hb : fn.body with
  | none => simp [hb] at g3
  | some c =>
   simp only [hb] at g3
   refine ⟨fn, c, rfl, hb, g3, g1, ?_⟩
   apply Array.toList_inj.1
   simpa using g2
section
variable {P : Program} {S : SN} {w : World} {N : Nat} {Q : UE} {ρ : Nat → Value} {ms : List MOp}
def retC (P : Program) (s ty : Nat) (R : Ending → World → Prop) : UE
 | .ret, ρ, w => ∃ p v, ρ s = .pointer (some p) ∧ (Instr.loadAt ty (.pointer (some p))).run P w = .ok v w ∧ R (.returned v) w
 | _, _, _ => False
def ret0 (R : Ending → World → Prop) : UE
 | .ret, ρ, w => R (.returned (.tuple #[])) w
 | .normal, ρ, w => R (.returned (.tuple #[])) w
 | _, _, _ => False
theorem FnIsC.runs {f s ty : Nat} {m : Jc} (h : FnIsC P f m N s ty) {args : List Value} {R : Ending → World → Prop} (hle : args.length ≤ N) (hs : s < N)
  (hw : RW P N m (retC P s ty R) (args0 args) w) : Calls P f args.toArray w R := by
 obtain ⟨fn, c, h1, h2, h3, h4, h5⟩ := h.ex
 refine calls_leaf h1 h2 h3 h4 hle fun a hl => (hw a hl).mono fun e a w hu => ?_
 cases e <;> simp only [up, retC] at hu
 all_goals first | (obtain ⟨ρ, h1, h2⟩ := hu; exact h2.elim) | skip
 ·obtain ⟨ρ, g1, p, v, g2, g3, g4⟩ := hu
  refine bodyPost_ret (v := v) ?_ g1.defers g4
  have e : a.tmps[s]?.getD undef = .pointer (some p) := by
   have := (g1.get s hs).trans g2
   unfold rd at this
   rwa [Array.getD_eq_getD_getElem?] at this
  have g3' : (loadVar ty p).run P w = .ok v w := by simpa [Instr.loadAt, Instr.sureAddr] using g3
  unfold results
  rw [h5]
  simp [e, asAddr, g3']
 all_goals exact hu.elim
theorem Qz.runs {f : Nat} {m : Jc} (h : Qz P f m N) {args : List Value} {R : Ending → World → Prop} (hle : args.length ≤ N)
  (hw : RW P N m (ret0 R) (args0 args) w) : Calls P f args.toArray w R := by
 obtain ⟨fn, c, h1, h2, h3, h4, h5⟩ := h.ex
 refine calls_leaf h1 h2 h3 h4 hle fun a hl => (hw a hl).mono fun e a w hu => ?_
 cases e <;> simp only [up, ret0] at hu
 all_goals first | (obtain ⟨ρ, h1, h2⟩ := hu; exact h2.elim) | skip
 ·obtain ⟨ρ, g1, g4⟩ := hu
  exact ⟨g1.defers, .tuple #[], results_none h5 _ _ _, g4⟩
 ·obtain ⟨ρ, g1, g4⟩ := hu
  exact ⟨g1.defers, .tuple #[], results_none h5 _ _ _, g4⟩
 all_goals exact hu.elim
theorem RL.bxA {d T s : Nat} {cs : List Value} (hv : ρ s = .agg cs.toArray) (h : RL P N ms Q (upd ρ d (.pointer (some ⟨w.heap.size, 0, none⟩))) (w.alloc (.cells cs.toArray T))) (hs : s < N := by decide) (hd : d < N := by decide) : RL P N (.bx d T s :: ms) Q ρ w := by
 refine RL.s (MR.bx hs) ?_ hd
 rw [hv]; exact h
theorem MR.biB {d ty : Nat} {op : BinOp} {x y : MX} {p : Prop} [Decidable p] {b : Bool} (h : evB op (xof ρ x) (xof ρ y) = some (.bool (decide p))) (hp : decide p = b) (hx : x.lt N = true := by rfl) (hy : y.lt N = true := by rfl) : MR P N (.bi d op ty x y) ρ w d (.bool b) w := by
 subst hp; exact MR.biE h hx hy
theorem J7.cells {f : Fd} {cs : List Value} (h : J7 w f cs) : ∃ sl, cs = [.int .i64 f.kind, .int .i64 f.fr, .int .i64 f.to, .int .i64 f.nul, .int .i64 f.tag, .int .i64 f.df, .int .i64 f.of, sl] ∧ ∃ ad c, sl = .slice ad f.sub.toList.length c ∧ JX w ad 0 f.sub := by
 cases f; unfold J7 at h; exact h
theorem JL.cells {t : Tr} {cs : List Value} (h : JL w t cs) : ∃ sS sL sU, cs = [.int .i64 t.n, sS, .bool t.null, sL, sU] ∧ (-9223372036854775808 ≤ t.n ∧ t.n ≤ 9223372036854775807) ∧ (∃ ad c, sS = .slice ad t.s.length c ∧ okA t.s.length ad ∧ t.s.length ≤ c ∧ Jg w (fun _ => True) ad t.s) ∧
   (∃ ad c, sL = .slice ad t.l.length c ∧ okA t.l.length ad ∧ t.l.length ≤ c ∧ ∀ i e, t.l[i]? = some e → ∃ g o cs', ad = some ⟨g, o, none⟩ ∧ w.rangeAt g (o + i * 5) cs' ∧ JL w e cs') ∧ TagsS w sU t.u := by
 cases t; unfold JL at h
 obtain ⟨sS, sL, sU, h1, hn, h2, ⟨ad, c, h3, h4, h5, h6⟩, h7⟩ := h
 exact ⟨sS, sL, sU, h1, hn, h2, ⟨ad, c, h3, h4, h5, fun i e hi => by have := h6.at hi; simpa using this⟩, h7⟩
/-! ### has, null -/
def HasC (P : Program) (f : Nat) : Prop := Jo P f = true ∧ ∀ (w : World) (fd : Fd) (cs : List Value) (v : Int), J7 w fd cs → Calls P f #[.agg cs.toArray, .int .i64 v] w (fun e w' => e = .returned (.bool (sHas fd.fr fd.to v)) ∧ Below w.heap.size w w')
theorem has_ok {f : Nat} (ok : SOK P S) (hf : FnIs P f (cHas S) 20 4) : HasC P f := by
 refine ⟨hf.ent, fun w fd cs v hrep => ?_⟩
 obtain ⟨sl, rfl, _⟩ := hrep.cells
 refine hf.runs (args := [.agg _, .int .i64 v]) (by simp) (by omega) ?_
 refine RW.sq (RW.rg (RL.bxA rfl (RL.s MR.mv (RL.nil ?_))))
 have hb := Jn w (.cells [Value.int .i64 fd.kind, .int .i64 fd.fr, .int .i64 fd.to, .int .i64 fd.nul, .int .i64 fd.tag, .int .i64 fd.df, .int .i64 fd.of, sl].toArray S.fd)
 have c1 := JA w [Value.int .i64 fd.kind, .int .i64 fd.fr, .int .i64 fd.to, .int .i64 fd.nul, .int .i64 fd.tag, .int .i64 fd.df, .int .i64 fd.of, sl] S.fd (j := 1) rfl
 have c2 := JA w [Value.int .i64 fd.kind, .int .i64 fd.fr, .int .i64 fd.to, .int .i64 fd.nul, .int .i64 fd.tag, .int .i64 fd.df, .int .i64 fd.of, sl] S.fd (j := 2) rfl
 refine RW.sq (RW.gf (Kp (w.alloc (.cells [Value.int .i64 fd.kind, .int .i64 fd.fr, .int .i64 fd.to, .int .i64 fd.nul, .int .i64 fd.tag, .int .i64 fd.df, .int .i64 fd.of, sl].toArray S.fd))) (Kp.refl _) ?_)
 refine RG.q (fun w' _ => MR.fa rfl (ok.fdF 1 (by omega))) (RG.q (fun w' hS => MR.ld rfl ok.pInt (hS _ _ c1)) (RG.q (fun _ _ => MR.mv) ?_))
 by_cases h1 : fd.fr ≤ v
 ·refine RG.q (fun _ _ => MR.biB (p := fd.fr ≤ v) rfl (decide_eq_true h1)) (RG.q (fun _ _ => MR.mv) ?_)
  refine RG.q (fun w' _ => MR.fa rfl (ok.fdF 2 (by omega))) (RG.q (fun w' hS => MR.ld rfl ok.pInt (hS _ _ c2)) ?_)
  by_cases h2 : fd.to < 0
  ·refine RG.q (fun _ _ => MR.biB (p := fd.to < 0) rfl (decide_eq_true h2)) ?_
   repeat first | refine RG.q (fun _ _ => MR.mv) ?_ | refine RG.q (fun _ _ => MR.biE rfl) ?_ | refine RG.q (fun _ _ => MR.pk rfl) ?_ | refine RG.no (by first | exact ⟨by decide, .inl rfl⟩ | exact ⟨by decide, .inr ⟨rfl, rfl⟩⟩) ?_
   exact RG.nil fun _ => RW.rt ⟨by show Ending.returned (.bool true) = _; simp [sHas, h1, h2], hb⟩
  ·refine RG.q (fun _ _ => MR.biB (p := fd.to < 0) rfl (decide_eq_false h2)) (RG.q (fun _ _ => MR.mv) (RG.q (fun _ _ => MR.mv) ?_))
   refine RG.q (fun w' _ => MR.fa rfl (ok.fdF 2 (by omega))) (RG.q (fun w' hS => MR.ld rfl ok.pInt (hS _ _ c2)) ?_)
   repeat first | refine RG.q (fun _ _ => MR.mv) ?_ | refine RG.q (fun _ _ => MR.biE rfl) ?_ | refine RG.q (fun _ _ => MR.pk rfl) ?_ | refine RG.no (by first | exact ⟨by decide, .inl rfl⟩ | exact ⟨by decide, .inr ⟨rfl, rfl⟩⟩) ?_
   exact RG.nil fun _ => RW.rt ⟨by show Ending.returned (.bool (decide (v ≤ fd.to))) = _; simp [sHas, h1, h2], hb⟩
 ·refine RG.q (fun _ _ => MR.biB (p := fd.fr ≤ v) rfl (decide_eq_false h1)) (RG.q (fun _ _ => MR.mv) ?_)
  repeat first | refine RG.q (fun _ _ => MR.mv) ?_ | refine RG.q (fun _ _ => MR.biE rfl) ?_ | refine RG.q (fun _ _ => MR.pk rfl) ?_ | refine RG.no (by first | exact ⟨by decide, .inl rfl⟩ | exact ⟨by decide, .inr ⟨rfl, rfl⟩⟩) ?_
  exact RG.nil fun _ => RW.rt ⟨by show Ending.returned (.bool false) = _; simp [sHas, h1], hb⟩
def NulC (P : Program) (f : Nat) : Prop := Jo P f = true ∧ ∀ (w : World) (fd : Fd) (t : Tr) (cs cs' : List Value) (v : Int), J7 w fd cs → JL w t cs' → Calls P f #[.agg cs.toArray, .int .i64 v, .agg cs'.toArray] w (fun e w' => e = .returned (.bool (JR fd.nul v t.null)) ∧ Below w.heap.size w w')
theorem null_ok {f : Nat} (ok : SOK P S) (hf : FnIs P f (cNull S) 20 6) : NulC P f := by
 refine ⟨hf.ent, fun w fd t cs cs' v hrep hrt => ?_⟩
 obtain ⟨sl, rfl, _⟩ := hrep.cells
 obtain ⟨sS, sL, sU, rfl, _⟩ := hrt.cells
 refine hf.runs (args := [.agg _, .int .i64 v, .agg _]) (by simp) (by omega) ?_
 refine RW.sq (RW.rg (RL.bxA rfl (RL.bxA rfl (RL.s MR.mv (RL.nil ?_)))))
 have hb := Jn w (.cells [Value.int .i64 fd.kind, .int .i64 fd.fr, .int .i64 fd.to, .int .i64 fd.nul, .int .i64 fd.tag, .int .i64 fd.df, .int .i64 fd.of, sl].toArray S.fd)
 have c1 := JA w [Value.int .i64 fd.kind, .int .i64 fd.fr, .int .i64 fd.to, .int .i64 fd.nul, .int .i64 fd.tag, .int .i64 fd.df, .int .i64 fd.of, sl] S.fd (j := 3) rfl
 revert hb c1
 generalize w.alloc (.cells [Value.int .i64 fd.kind, .int .i64 fd.fr, .int .i64 fd.to, .int .i64 fd.nul, .int .i64 fd.tag, .int .i64 fd.df, .int .i64 fd.of, sl].toArray S.fd) = w1
 intro hb c1
 have hb2 := Jn w1 (.cells [Value.int .i64 t.n, sS, .bool t.null, sL, sU].toArray S.tr)
 have d1 := JA w1 [Value.int .i64 t.n, sS, .bool t.null, sL, sU] S.tr (j := 2) rfl
 have c2 := kp_alloc w1 (.cells [Value.int .i64 t.n, sS, .bool t.null, sL, sU].toArray S.tr) _ _ c1
 have hB := hb.trans (hb2.mono hb.size)
 refine RW.sq (RW.gf (Kp (w1.alloc (.cells [Value.int .i64 t.n, sS, .bool t.null, sL, sU].toArray S.tr))) (Kp.refl _) ?_)
 refine RG.q (fun w' _ => MR.fa rfl (ok.trF 2 (by omega))) (RG.q (fun w' hS => MR.ld rfl ok.pBool (hS _ _ d1)) ?_)
 clear hrt
 generalize t.null = nb at d1 c2 hB hb2 ⊢
 cases nb
 ·repeat first | refine RG.q (fun _ _ => MR.mv) ?_ | refine RG.q (fun _ _ => MR.biE rfl) ?_ | refine RG.q (fun _ _ => MR.pk rfl) ?_ | refine RG.no (by first | exact ⟨by decide, .inl rfl⟩ | exact ⟨by decide, .inr ⟨rfl, rfl⟩⟩) ?_
  exact RG.nil fun _ => RW.rt ⟨by show Ending.returned (.bool false) = _; simp [JR], hB⟩
 ·refine RG.q (fun _ _ => MR.mv) ?_
  refine RG.q (fun w' _ => MR.fa rfl (ok.fdF 3 (by omega))) (RG.q (fun w' hS => MR.ld rfl ok.pInt (hS _ _ c2)) ?_)
  by_cases h1 : 0 ≤ fd.nul
  ·refine RG.q (fun _ _ => MR.biB (p := 0 ≤ fd.nul) rfl (decide_eq_true h1)) ?_
   repeat first | refine RG.q (fun _ _ => MR.mv) ?_ | refine RG.q (fun _ _ => MR.biE rfl) ?_ | refine RG.q (fun _ _ => MR.pk rfl) ?_ | refine RG.no (by first | exact ⟨by decide, .inl rfl⟩ | exact ⟨by decide, .inr ⟨rfl, rfl⟩⟩) ?_
   refine RG.q (fun w' _ => MR.fa rfl (ok.fdF 3 (by omega))) (RG.q (fun w' hS => MR.ld rfl ok.pInt (hS _ _ c2)) ?_)
   repeat first | refine RG.q (fun _ _ => MR.mv) ?_ | refine RG.q (fun _ _ => MR.biE rfl) ?_ | refine RG.q (fun _ _ => MR.pk rfl) ?_ | refine RG.no (by first | exact ⟨by decide, .inl rfl⟩ | exact ⟨by decide, .inr ⟨rfl, rfl⟩⟩) ?_
   exact RG.nil fun _ => RW.rt ⟨by show Ending.returned (.bool (decide (fd.nul ≤ v))) = _; simp [JR, h1], hB⟩
  ·refine RG.q (fun _ _ => MR.biB (p := 0 ≤ fd.nul) rfl (decide_eq_false h1)) ?_
   repeat first | refine RG.q (fun _ _ => MR.mv) ?_ | refine RG.q (fun _ _ => MR.biE rfl) ?_ | refine RG.q (fun _ _ => MR.pk rfl) ?_ | refine RG.no (by first | exact ⟨by decide, .inl rfl⟩ | exact ⟨by decide, .inr ⟨rfl, rfl⟩⟩) ?_
   exact RG.nil fun _ => RW.rt ⟨by show Ending.returned (.bool false) = _; simp [JR, h1], hB⟩
end
section
variable {P : Program} {S : SN} {w : World} {N : Nat} {Q : UE} {ρ : Nat → Value} {ms : List MOp}
theorem J7.one {f : Fd} {cs : List Value} (h : J7 w f cs) : cs.all (·.oneCell') = true ∧ cs.length = 8 := by
 obtain ⟨sl, rfl, ad, c, rfl, _⟩ := h.cells
 exact ⟨rfl, rfl⟩
theorem JL.one {t : Tr} {cs : List Value} (h : JL w t cs) : cs.all (·.oneCell') = true ∧ cs.length = 5 := by
 obtain ⟨sS, sL, sU, rfl, _, ⟨ad, c, rfl, _⟩, ⟨ad', c', rfl, _⟩, ad'', c'', rfl, _⟩ := h.cells
 exact ⟨rfl, rfl⟩
theorem RL.stA {ty p x b o : Nat} {cs : List Value} (hp : ρ p = .pointer (some ⟨b, o, none⟩)) (hx : ρ x = .agg cs.toArray) (hn : Jh P ty cs.length = true) (ht : w.there b o cs.length) (h1 : cs.all (·.oneCell') = true)
  (h : RL P N ms Q ρ (w.setCells b o cs)) (hpN : p < N := by decide) (hxN : x < N := by decide) : RL P N (.st ty p x :: ms) Q ρ w := by
 refine RL.st hp (by rw [hx]; simpa [Value.cells] using hn) (by rw [hx]; simpa [Value.cells] using ht) (by rw [hx]; simpa [Value.cells] using h1) ?_ hpN hxN
 rw [hx]; simpa [Value.cells] using h
theorem RL.alst {d T x n : Nat} {z cs : List Value} (hz : Q7 P T z) (hx : ρ x = .agg cs.toArray) (hxd : x ≠ d) (hzn : z.length = n) (hn : cs.length = n) (hT : Jh P T n = true) (h1 : cs.all (·.oneCell') = true)
  (h : ∀ w', Below w.heap.size w w' → w'.heap.size = w.heap.size + 1 → w'.rangeAt w.heap.size 0 cs → w'.there w.heap.size 0 n → RL P N ms Q (upd ρ d (.pointer (some ⟨w.heap.size, 0, none⟩))) w')
  (hd : d < N := by decide) (hxN : x < N := by decide) : RL P N (.al d T :: .st T d x :: ms) Q ρ w := by
 obtain ⟨i, hi, hzv⟩ := hz
 refine RL.s (MR.al ⟨i, hi, hzv⟩) ?_ hd
 have ht : (w.alloc (.cells z.toArray T)).there w.heap.size 0 cs.length := by rw [hn, ← hzn]; exact Qm w z T
 refine RL.stA (Ja _ _ _) (by rw [Jb _ _ hxd]; exact hx) (by rw [hn]; exact hT) ht h1 (h _ ?_ ?_ ?_ ?_) hd hxN
 ·exact JD (Nat.le_refl _) _ _ (Jn w _)
 ·rw [Qr, J1]
 ·exact World.rangeAt_setCells_same _ _ _ _ ht
 ·rw [← hn]; exact World.there_setCells ht _ _ _
theorem build_zero {T : Nat} {z : List Value} (hz : Q7 P T z) (hp : plcB P T z.length = true) : (Instr.build T #[]).run P w = .ok (.agg z.toArray) w :=
 built_of (parts := []) hz hp (by simp) rfl w
theorem JL.zero (w : World) : JL w .zero [.int .i64 0, .slice none 0 0, .bool false, .slice none 0 0, .slice none 0 0] := by
 unfold Tr.zero JL
 refine ⟨_, _, _, rfl, by omega, ⟨none, 0, rfl, .inl rfl, by simp, fun j b h => by simp at h⟩, ⟨none, 0, rfl, .inl rfl, by simp [Trs.toList], by unfold Ye; trivial⟩, none, 0, rfl, .inl rfl, by simp, fun i t h => by simp at h⟩
def AtC (P : Program) (f : Nat) : Prop := Jo P f = true ∧ ∀ (w : World) (t : Tr) (cs : List Value) (i : Nat), JL w t cs → i < 9223372036854775808 →
 Calls P f #[.agg cs.toArray, .int .i64 i] w (fun e w' => ∃ cs', e = .returned (.agg cs'.toArray) ∧ JL w' (t.l.getD i .zero) cs' ∧ Below w.heap.size w w')
theorem at_ok {f : Nat} (ok : SOK P S) (hf : FnIsC P f (cAt S) 16 4 S.tr) : AtC P f := by
 refine ⟨hf.ent, fun w t cs i hrep hi => ?_⟩
 obtain ⟨sS, sL, sU, rfl, _, _, ⟨ad, c, rfl, had, hlc, hrows⟩, _⟩ := hrep.cells
 obtain ⟨zi, hzi, hzv⟩ := ok.zTr
 refine hf.runs (args := [.agg _, .int .i64 i]) (by simp) (by omega) ?_
 refine RW.sq (RW.rg (RL.bxA rfl (RL.s (MR.al ⟨zi, hzi, hzv⟩) (RL.nil ?_))))
 have c3 := JA w [Value.int .i64 t.n, sS, .bool t.null, .slice ad t.l.length c, sU] S.tr (j := 3) rfl
 have hb := Jn w (.cells [Value.int .i64 t.n, sS, .bool t.null, .slice ad t.l.length c, sU].toArray S.tr)
 revert c3 hb
 generalize w.alloc (.cells [Value.int .i64 t.n, sS, .bool t.null, .slice ad t.l.length c, sU].toArray S.tr) = w1
 intro c3 hb
 have hb2 := Jn w1 (.cells (Value.agg [Value.int .i64 0, .slice none 0 0, .bool false, .slice none 0 0, .slice none 0 0].toArray).cells S.tr)
 have th := Qm w1 [Value.int .i64 0, .slice none 0 0, .bool false, .slice none 0 0, .slice none 0 0] S.tr
 have c3' := hb2.kp _ _ c3
 have hB := hb.trans (hb2.mono hb.size)
 change (w1.alloc (.cells (Value.agg [Value.int .i64 0, .slice none 0 0, .bool false, .slice none 0 0, .slice none 0 0].toArray).cells S.tr)).there _ _ _ at th
 revert hb2 th c3' hB
 generalize w1.alloc (.cells (Value.agg [Value.int .i64 0, .slice none 0 0, .bool false, .slice none 0 0, .slice none 0 0].toArray).cells S.tr) = w2
 intro hb2 c3' hB th
 refine RW.sq (RW.sq (RW.rg (RL.s MR.mv (RL.s (MR.fa rfl (ok.trF 3 (by omega))) (RL.s (MR.ld rfl ok.pTrs c3') (RL.s (MR.ln ok.trs rfl) ?_))))))
 by_cases h : i < t.l.length
 ·refine RL.s (MR.biB (p := (i : Int) < (t.l.length : Int)) rfl (decide_eq_true (by omega))) (RL.nil (RW.cd (b := true) rfl (fun _ => RW.sq (RW.rg ?_)) (fun e => by cases e)))
  obtain ⟨g, o, cs', rfl, hr, hrt⟩ := hrows i _ (List.getElem?_eq_getElem h)
  have hr2 := Jx hr (Kp.trans hb.kp hb2.kp)
  have hrt2 := JL.kp (Kp.trans hb.kp hb2.kp) _ hrt
  obtain ⟨o1, l1⟩ := hrt2.one
  refine RL.s (MR.fa rfl (ok.trF 3 (by omega))) (RL.s (MR.ld rfl ok.pTrs c3') (RL.s MR.mv (RL.s (MR.ia (k := .i64) ok.trs ok.trN rfl rfl h) (RL.s (MR.ldRow rfl ok.trR (by rw [l1]; exact ok.trN) hr2) ?_))))
  have ht : w2.there w1.heap.size 0 cs'.length := by rw [l1]; exact th
  refine RL.stA rfl rfl (by rw [l1]; exact ok.trN) ht o1 (RL.nil (RW.rt ⟨⟨w1.heap.size, 0, none⟩, .agg cs'.toArray, rfl, ?_, cs', rfl, ?_, JD hb.size _ _ hB⟩))
  ·exact J3 ok.trR (by rw [l1]; exact ok.trN) (World.rangeAt_setCells_same _ _ _ _ ht)
  ·rw [List.getD_eq_getElem?_getD, List.getElem?_eq_getElem h]
   refine JL.kp (fun p v hv => ?_) _ hrt
   have hlt := World.block_lt_of_cell? w p hv
   have := (JD hb.size cs' 0 hB).block p.block hlt
   rw [Ji this]; exact hv
 ·refine RL.s (MR.biB (p := (i : Int) < (t.l.length : Int)) rfl (decide_eq_false (by omega))) (RL.nil (RW.cd (b := false) rfl (fun e => by cases e) (fun _ => RW.sk (RW.sq (RW.rg ?_)))))
  refine RL.s (MR.bdl (build_zero ok.zTr ok.lTr)) (RL.stA rfl rfl ok.trN th rfl (RL.nil (RW.rt ⟨⟨w1.heap.size, 0, none⟩, _, rfl, J3 ok.trR (cs := [Value.int .i64 0, .slice none 0 0, .bool false, .slice none 0 0, .slice none 0 0]) ok.trN (World.rangeAt_setCells_same _ _ _ _ th), _, rfl, ?_, JD hb.size _ _ hB⟩)))
  rw [List.getD_eq_getElem?_getD, List.getElem?_eq_none (by omega)]
  exact JL.zero _
end
section
variable {P : Program} {S : SN} {w : World} {N : Nat} {Q : UE} {ρ : Nat → Value} {ms : List MOp}
theorem u8Ty_cells {U : Nat} (h : u8Ty P U = true) : Jh P U 1 = true := by
 obtain ⟨i, hi, hs, _⟩ := QB h
 simp [Jh, hi, hs]
theorem Qy (w : World) : Kp w (World.drew1 w) := fun p v h => h
theorem JI (w : World) (B : Nat) : Below B w (World.drew1 w) := ⟨rfl, rfl, rfl, Nat.le_refl _, fun _ _ => rfl⟩
def SameC (P : Program) (f : Nat) : Prop := Jo P f = true ∧ ∀ (w : World) (a b : Option Addr) (l m : List UInt8) (c d : Nat), Jg w (fun _ => True) a l → Jg w (fun _ => True) b m → l.length < 9223372036854775807 → m.length < 9223372036854775807 →
 Calls P f #[.slice a l.length c, .slice b m.length d] w (fun e w' => e = .returned (.bool (decide (l = m))) ∧ Below w.heap.size w w')
theorem same_ok {f : Nat} (ok : SOK0 P S) (hf : FnIs P f (cSame S) 26 4) : SameC P f := by
 refine ⟨hf.ent, fun w a b l m c d ha hb hl hm => ?_⟩
 refine hf.runs (args := [.slice a l.length c, .slice b m.length d]) (by simp) (by omega) ?_
 refine RW.sq (RW.rg (RL.s MR.mv (RL.nil (RW.sq (RW.sq (RW.rg (RL.s MR.mv (RL.s (MR.ln ok.tk.u8s rfl) (RL.s MR.mv (RL.s (MR.ln ok.tk.u8s rfl) ?_))))))))))
 by_cases hlen : l.length = m.length
 ·refine RL.s (MR.biE (v := .bool false) ?_) (RL.nil (RW.cd (b := false) rfl (fun e => by cases e) (fun _ => RW.sk ?_)))
  ·show some (Value.bool (!(((l.length : Nat) : Int) == ((m.length : Nat) : Int)))) = _
   rw [hlen]; simp
  refine RW.sq (RW.sq (RW.rg (RL.s MR.mv (RL.s (MR.ln ok.tk.u8s rfl) (RL.s MR.mv (RL.nil (RW.bl ?_)))))))
  refine RW.lp (fun ρ w' => ∃ i : Nat, i ≤ l.length ∧ ρ 0 = .slice a l.length c ∧ ρ 1 = .slice b m.length d ∧ ρ 12 = .int .i64 (l.length : Nat) ∧ ρ 13 = .int .i64 (i : Nat) ∧ Below w.heap.size w w' ∧ ∀ j, j < i → l[j]? = m[j]?)
   (fun ρ _ => l.length - (intOf (ρ 13)).toNat) ⟨0, by omega, rfl, rfl, rfl, rfl, Below.refl _ _, fun j h => by omega⟩ ?_ (fun ρ ρ' w h => by rw [h 13 (by omega)])
  rintro ρ w1 ⟨i, hi, h0, h1, h12, h13, hbl, heq⟩
  refine RW.knows [(0, .slice a l.length c), (1, .slice b m.length d), (12, .int .i64 (l.length : Nat)), (13, .int .i64 (i : Nat))] (by simp [h0, h1, h12, h13]) (RW.sq (RW.rg ?_))
  by_cases hlt : i < l.length
  ·refine RL.s (MR.biB (p := (i : Int) < (l.length : Int)) rfl (decide_eq_true (by omega))) (RL.nil (RW.sq (RW.cd (b := true) rfl (fun _ => RW.sk ?_) (fun e => by cases e))))
   refine RW.sq (RW.bl (RW.sq (RW.rg ?_)))
   repeat first | refine RL.s MR.mv ?_ | refine RL.s (MR.biE rfl) ?_ | refine RL.s (MR.b2 rfl) ?_
   refine RL.nil (RW.sq (RW.gd ok.mo (Kp w1) (Qy w1) ?_))
   obtain ⟨g, o, rfl, _, hc1⟩ := (ha.kp hbl.kp) i _ (List.getElem?_eq_getElem hlt)
   obtain ⟨g', o', rfl, _, hc2⟩ := (hb.kp hbl.kp) i _ (List.getElem?_eq_getElem (show i < m.length by omega))
   have c1 := u8Ty_cells ok.tk.u8
   repeat first | refine RG.q (fun _ _ => MR.mv) ?_ | refine RG.q (fun _ _ => MR.biE rfl) ?_ | refine RG.q (fun _ _ => MR.pk rfl) ?_ | refine RG.no (by first | exact ⟨by decide, .inl rfl⟩ | exact ⟨by decide, .inr ⟨rfl, rfl⟩⟩) ?_
   refine RG.q (fun _ _ => MR.ia (k := .i64) ok.tk.u8s c1 rfl rfl hlt) (RG.q (fun w' hS => MR.ld rfl ok.pU8 (by rw [Nat.mul_one]; exact hS _ _ hc1)) ?_)
   repeat first | refine RG.q (fun _ _ => MR.mv) ?_ | refine RG.q (fun _ _ => MR.biE rfl) ?_ | refine RG.q (fun _ _ => MR.pk rfl) ?_ | refine RG.no (by first | exact ⟨by decide, .inl rfl⟩ | exact ⟨by decide, .inr ⟨rfl, rfl⟩⟩) ?_
   refine RG.q (fun _ _ => MR.ia (k := .i64) ok.tk.u8s c1 rfl rfl (show i < m.length by omega)) (RG.q (fun w' hS => MR.ld rfl ok.pU8 (by rw [Nat.mul_one]; exact hS _ _ hc2)) ?_)
   by_cases hb : l[i] = m[i]
   ·refine RG.q (fun _ _ => MR.biE (v := .bool false) ?_) (RG.nil fun _ => RW.cd (b := false) rfl (fun e => by cases e) (fun _ => RW.sk ?_))
    ·show some (Value.bool (!(((l[i].toNat : Nat) : Int) == ((m[i].toNat : Nat) : Int)))) = _
     rw [hb]; simp
    refine RW.rg ?_
    repeat first | refine RL.s MR.mv ?_ | refine RL.s (MR.biE rfl) ?_ | refine RL.s (MR.b2 rfl) ?_
    refine RL.nil ⟨⟨i + 1, hlt, rfl, rfl, rfl, ?_, hbl.trans (JI _ _), fun j hj => ?_⟩, ?_⟩
    ·show Value.int .i64 (IntKind.i64.wrap ((i : Int) + 1)) = _
     rw [Ju (by omega) (by omega)]; rfl
    ·by_cases e : j = i
     ·subst e; rw [List.getElem?_eq_getElem hlt, List.getElem?_eq_getElem (show j < m.length by omega), hb]
     ·exact heq j (by omega)
    ·show l.length - (IntKind.i64.wrap ((i : Int) + 1)).toNat < l.length - (intOf (ρ 13)).toNat
     rw [h13, Ju (by omega) (by omega)]; simp only [intOf]; omega
   ·refine RG.q (fun _ _ => MR.biE (v := .bool true) ?_) (RG.nil fun _ => RW.cd (b := true) rfl (fun _ => ?_) (fun e => by cases e))
    ·show some (Value.bool (!(((l[i].toNat : Nat) : Int) == ((m[i].toNat : Nat) : Int)))) = _
     have : l[i].toNat ≠ m[i].toNat := fun e => hb (UInt8.toNat_inj.1 e)
     simp; omega
    refine RW.sq (RW.rg (RL.s MR.mv (RL.nil (RW.rt ⟨?_, hbl.trans (JI _ _)⟩))))
    have hne : l ≠ m := fun e => hb (by subst e; rfl)
    show Ending.returned (.bool false) = _
    simp [hne]
  ·refine RL.s (MR.biB (p := (i : Int) < (l.length : Int)) rfl (decide_eq_false (by omega))) (RL.nil (RW.sq (RW.cd (b := false) rfl (fun e => by cases e) (fun _ => RW.ex ?_))))
   refine RW.sq (RW.rg (RL.s MR.mv (RL.nil (RW.rt ⟨?_, hbl⟩))))
   have hlm : l = m := by
    apply List.ext_getElem?
    intro j
    by_cases hj : j < i
    ·exact heq j hj
    ·rw [List.getElem?_eq_none (by omega), List.getElem?_eq_none (by omega)]
   show Ending.returned (.bool true) = _
   simp [hlm]
 ·refine RL.s (MR.biE (v := .bool true) ?_) (RL.nil (RW.cd (b := true) rfl (fun _ => ?_) (fun e => by cases e)))
  ·show some (Value.bool (!(((l.length : Nat) : Int) == ((m.length : Nat) : Int)))) = _
   simp; omega
  refine RW.sq (RW.rg (RL.s MR.mv (RL.nil (RW.rt ⟨?_, Below.refl _ _⟩))))
  have hne : l ≠ m := fun e => hlen (by rw [e])
  show Ending.returned (.bool false) = _
  simp [hne]
end
mutual
def noTag : Fd → Prop
 | .mk _ _ _ _ tag _ _ sub => tag < 0 ∧ noTags sub
def noTags : Fds → Prop
 | .nil => True
 | .cons f r => noTag f ∧ noTags r
end
def OutR (S : SN) (T : List Value → Nat × List UInt8 → Prop) (w0 w : World) (sv : Value) (out : List (Nat × List UInt8)) : Prop := (sv = .slice none 0 0 ∧ out = []) ∨ ∃ g cap cur, sv = .slice (some ⟨g, 0, none⟩) out.length cap ∧ w0.heap.size ≤ g ∧ w.heap[g]? = some (.cells cur S.tg (0, 0)) ∧ 0 < out.length ∧ out.length ≤ cap ∧ cap ≤ maxLen ∧ cur.size = cap * 2 ∧
 ∀ i t, out[i]? = some t → ∃ cs, w.rangeAt g (i * 2) cs ∧ T cs t
section
variable {P : Program} {S : SN} {w w' : World} {N : Nat} {Q : UE} {ρ : Nat → Value} {ms : List MOp}
theorem OwnB.bytes {U B : Nat} {sv : Value} {bs : List UInt8} (h : OwnB U w B sv bs) : ∃ ad c, sv = .slice ad bs.length c ∧ okAd ad ∧ bs.length ≤ c ∧ Jg w (fun _ => True) ad bs := by
 obtain ⟨h1, h2⟩ := h
 rcases h2 with ⟨rfl, h0⟩ | ⟨g, cap, cur, rfl, hb, hh, hn, hc, hs, ht⟩
 ·have : bs = [] := List.eq_nil_of_length_eq_zero h0
  subst this
  exact ⟨none, 0, rfl, .inl rfl, by simp, fun j b hj => by simp at hj⟩
 ·refine ⟨some ⟨g, 0, none⟩, cap, rfl, .inr ⟨g, 0, rfl⟩, hn, fun j b hj => ⟨g, 0, rfl, trivial, ?_⟩⟩
  rw [cell_of_row w g (0 + j) cur U (0, 0) hh, Nat.zero_add]
  have hjl : j < bs.length := (List.getElem?_eq_some_iff.1 hj).1
  have e : (cur.toList.take (bs.length * 1))[j]? = (bs.map JF)[j]? := by rw [ht]
  rw [List.getElem?_take_of_lt (by omega)] at e
  rw [List.getElem?_map, hj] at e
  simpa using e
theorem RL.rowF {d1 d2 d x i : Nat} {ad : Option Addr} {n c : Nat} {f : Fd} {k : Nat} (ok : SOK P S) (hx : ρ x = .slice ad n c) (hi : ρ i = .int .i64 (k : Nat)) (hk : k < n)
  (hrow : ∃ g o cs, ad = some ⟨g, o, none⟩ ∧ w.rangeAt g (o + k * 8) cs ∧ J7 w f cs) (hd1 : d1 ≠ d2) (hd2 : d2 ≠ d)
  (h : ∀ p cs w', Below w.heap.size w w' → w'.heap.size = w.heap.size + 1 → J7 w' f cs → w'.rangeAt w.heap.size 0 cs → RL P N ms Q (upd (upd (upd ρ d1 p) d2 (.agg cs.toArray)) d (.pointer (some ⟨w.heap.size, 0, none⟩))) w')
  (hxN : x < N := by decide) (hiN : i < N := by decide) (h1N : d1 < N := by decide) (h2N : d2 < N := by decide) (hdN : d < N := by decide) : RL P N (.ia d1 S.fds x i :: .ld d2 S.fd d1 :: .al d S.fd :: .st S.fd d d2 :: ms) Q ρ w := by
 obtain ⟨g, o, cs, rfl, hr, hf⟩ := hrow
 obtain ⟨o1, l1⟩ := hf.one
 refine RL.s (MR.ia (k := .i64) ok.fds ok.fdN hx hi hk hxN hiN) (RL.s (MR.ldRow (Ja _ _ _) ok.fdR (by rw [l1]; exact ok.fdN) hr h1N) ?_ h2N) h1N
 refine RL.alst ok.zFd (Ja _ _ _) hd2 rfl l1 ok.fdN o1 (fun w' hb hs hrg _ => h _ cs w' hb hs (J7.kp hb.kp f hf) hrg) hdN h2N
def KnownC (P : Program) (f : Nat) : Prop := Jo P f = true ∧ ∀ (w : World) (ad : Option Addr) (c : Nat) (fs : Fds), JX w ad 0 fs → (∀ f ∈ fs.toList, f.tag < 1000000) → fs.toList.length < 9223372036854775807 →
 Calls P f #[.slice ad fs.toList.length c] w (fun e w' => e = .returned (.int .u32 (Jr fs : Nat)) ∧ Below w.heap.size w w')
theorem known_ok {f : Nat} (ok : SOK P S) (hf : FnIs P f (cKnown S) 23 2) : KnownC P f := by
 refine ⟨hf.ent, fun w ad c fs hrows htag hlen => ?_⟩
 refine hf.runs (args := [.slice ad fs.toList.length c]) (by simp) (by omega) ?_
 refine RW.sq (RW.rg ?_)
 repeat first | refine RL.s MR.mv ?_ | refine RL.s (MR.biE rfl) ?_ | refine RL.s (MR.b2 rfl) ?_
 refine RL.nil (RW.sq (RW.rg ?_))
 repeat first | refine RL.s MR.mv ?_ | refine RL.s (MR.biE rfl) ?_ | refine RL.s (MR.b2 rfl) ?_
 refine RL.nil (RW.sq (RW.sq (RW.rg ?_)))
 repeat first | refine RL.s MR.mv ?_ | refine RL.s (MR.biE rfl) ?_ | refine RL.s (MR.b2 rfl) ?_
 refine RL.s (MR.ln ok.fds rfl) ?_
 repeat first | refine RL.s MR.mv ?_ | refine RL.s (MR.biE rfl) ?_ | refine RL.s (MR.b2 rfl) ?_
 refine RL.nil (RW.bl ?_)
 refine RW.lp (fun ρ w' => ∃ (i acc : Nat) (rest : Fds), i + rest.toList.length = fs.toList.length ∧ JX w ad i rest ∧ (∀ f ∈ rest.toList, f.tag < 1000000) ∧ acc ≤ 1000000 ∧ rest.toList.foldl (fun n f => if 0 ≤ f.tag then max n (f.tag.toNat + 1) else n) acc = Jr fs ∧ ρ 3 = .int .u32 (acc : Nat) ∧ ρ 6 = .slice ad fs.toList.length c ∧ ρ 7 = .int .i64 (fs.toList.length : Nat) ∧ ρ 8 = .int .i64 (i : Nat) ∧ Below w.heap.size w w')
  (fun ρ _ => fs.toList.length - (intOf (ρ 8)).toNat) ⟨0, 0, fs, by omega, hrows, htag, by omega, rfl, rfl, rfl, rfl, rfl, Below.refl _ _⟩ ?_ (fun ρ ρ' w h => by rw [h 8 (by omega)])
 rintro ρ w1 ⟨i, acc, rest, hi, hr, ht, hacc, hfold, h3, h6, h7, h8, hbl⟩
 refine RW.knows [(3, .int .u32 (acc : Nat)), (6, .slice ad fs.toList.length c), (7, .int .i64 (fs.toList.length : Nat)), (8, .int .i64 (i : Nat))] (by simp [h3, h6, h7, h8]) (RW.sq (RW.rg ?_))
 cases rest with
 | nil =>
  simp only [Fds.toList, List.length_nil, Nat.add_zero] at hi
  simp only [Fds.toList, List.foldl_nil] at hfold
  refine RL.s (MR.biB (p := (i : Int) < (fs.toList.length : Int)) rfl (decide_eq_false (by omega))) (RL.nil (RW.sq (RW.cd (b := false) rfl (fun e => by cases e) (fun _ => RW.ex ?_))))
  refine RW.sq (RW.rg ?_)
  repeat first | refine RL.s MR.mv ?_ | refine RL.s (MR.biE rfl) ?_ | refine RL.s (MR.b2 rfl) ?_
  exact RL.nil (RW.rt ⟨by rw [← hfold]; rfl, hbl⟩)
 | cons fd rest =>
  simp only [Fds.toList, List.length_cons] at hi
  simp only [Fds.toList, List.foldl_cons] at hfold
  unfold JX at hr
  obtain ⟨hrow, hr'⟩ := hr
  refine RL.s (MR.biB (p := (i : Int) < (fs.toList.length : Int)) rfl (decide_eq_true (by omega))) (RL.nil (RW.sq (RW.cd (b := true) rfl (fun _ => RW.sk ?_) (fun e => by cases e))))
  obtain ⟨g, o, cs, h1, h2, h4⟩ := hrow
  refine RW.sq (RW.bl (RW.sq (RW.rg (RL.rowF (f := fd) (k := i) ok rfl rfl (by omega) ⟨g, o, cs, h1, Jx h2 hbl.kp, J7.kp hbl.kp _ h4⟩ (by omega) (by omega) ?_))))
  intro p cs2 w2 hb2 hs2 hf2 hrg2
  obtain ⟨sl, rfl, _⟩ := hf2.cells
  have c4 := hrg2 4 (.int .i64 fd.tag) rfl
  have htf : fd.tag < 1000000 := ht fd (by simp [Fds.toList])
  have next : ∀ (Qn : UE) (ρ' : Nat → Value) (acc' : Nat), acc' ≤ 1000000 → rest.toList.foldl (fun n f => if 0 ≤ f.tag then max n (f.tag.toNat + 1) else n) acc' = Jr fs → ρ' 3 = .int .u32 (acc' : Nat) → ρ' 6 = .slice ad fs.toList.length c → ρ' 7 = .int .i64 (fs.toList.length : Nat) → ρ' 8 = .int .i64 (i : Nat) →
    RW P 23 (.rg [.bi 21 .add S.T.int (.t 8) (.c (.int .i64 (1))), .mv 8 (.t 21)]) (QP (fun ρ' w' => (∃ (i acc : Nat) (rest : Fds), i + rest.toList.length = fs.toList.length ∧ JX w ad i rest ∧ (∀ f ∈ rest.toList, f.tag < 1000000) ∧ acc ≤ 1000000 ∧ rest.toList.foldl (fun n f => if 0 ≤ f.tag then max n (f.tag.toNat + 1) else n) acc = Jr fs ∧ ρ' 3 = .int .u32 (acc : Nat) ∧ ρ' 6 = .slice ad fs.toList.length c ∧ ρ' 7 = .int .i64 (fs.toList.length : Nat) ∧ ρ' 8 = .int .i64 (i : Nat) ∧ Below w.heap.size w w') ∧ fs.toList.length - (intOf (ρ' 8)).toNat < fs.toList.length - (intOf (ρ 8)).toNat) Qn) ρ' w2 := by
   intro Qn ρ' acc' ha hfo q3 q6 q7 q8
   refine RW.knows [(3, .int .u32 (acc' : Nat)), (6, .slice ad fs.toList.length c), (7, .int .i64 (fs.toList.length : Nat)), (8, .int .i64 (i : Nat))] (by simp [q3, q6, q7, q8]) (RW.rg ?_)
   repeat first | refine RL.s MR.mv ?_ | refine RL.s (MR.biE rfl) ?_ | refine RL.s (MR.b2 rfl) ?_
   refine RL.nil ⟨⟨i + 1, acc', rest, by omega, hr', fun f hf => ht f (by simp [Fds.toList, hf]), ha, hfo, rfl, rfl, rfl, ?_, hbl.trans (hb2.mono hbl.size)⟩, ?_⟩
   ·show Value.int .i64 (IntKind.i64.wrap ((i : Int) + 1)) = _
    rw [Ju (by omega) (by omega)]; rfl
   ·show fs.toList.length - (IntKind.i64.wrap ((i : Int) + 1)).toNat < fs.toList.length - (intOf (ρ 8)).toNat
    rw [h8, Ju (by omega) (by omega)]; simp only [intOf]; omega
  refine RL.nil (RW.sq (RW.rg (RL.s (MR.fa rfl (ok.fdF 4 (by omega))) (RL.s (MR.ld rfl ok.pInt c4) ?_))))
  by_cases h0 : 0 ≤ fd.tag
  ·rw [if_pos h0] at hfold
   refine RL.s (MR.biB (p := (0 : Int) ≤ fd.tag) rfl (decide_eq_true h0)) (RL.nil (RW.cd (b := true) rfl (fun _ => RW.rg ?_) (fun e => by cases e)))
   refine RL.s (MR.mv (v := .int .u32 (acc : Nat)) rfl) (RL.s (MR.fa rfl (ok.fdF 4 (by omega))) (RL.s (MR.ld rfl ok.pInt c4) (RL.s (MR.cvI rfl ok.tk.int (ok.tk.u32 ok.hu32)) ?_)))
   rw [Qx h0 (by omega)]
   refine RL.s (MR.biE (v := .int .u32 (fd.tag + 1)) (by show some (Value.int .u32 (IntKind.u32.wrap (fd.tag + 1))) = _; rw [Qx (by omega) (by omega)])) (RL.s (MR.mxi (k := .u32) (k' := .u32) (m := (acc : Nat)) (n := fd.tag + 1) rfl rfl) ?_)
   have em : (if fd.tag + 1 > ((acc : Nat) : Int) then fd.tag + 1 else ((acc : Nat) : Int)) = ((max acc (fd.tag.toNat + 1) : Nat) : Int) := by split <;> omega
   rw [em]
   refine RL.s MR.mv (RL.nil (next _ _ (max acc (fd.tag.toNat + 1)) (by omega) hfold rfl rfl rfl rfl))
  ·rw [if_neg h0] at hfold
   refine RL.s (MR.biB (p := (0 : Int) ≤ fd.tag) rfl (decide_eq_false h0)) (RL.nil (RW.cd (b := false) rfl (fun e => by cases e) (fun _ => RW.sk ?_)))
   exact next _ _ acc hacc hfold rfl rfl rfl rfl
def UnkC (P : Program) (S : SN) (f : Nat) (SU : List (Nat × List UInt8) → Prop) : Prop := Jo P f = true ∧ ∀ (w0 w : World) (ad : Option Addr) (c : Nat) (fs : Fds) (v : Value) (u : List (Nat × List UInt8)), JX w ad 0 fs → (∀ f ∈ fs.toList, f.tag < 1000000) → fs.toList.length < 9223372036854775807 → Below w0.heap.size w0 w → TagsS w0 v u → SU u →
 Calls P f #[.slice ad fs.toList.length c, v] w (fun e w' => ∃ sv, e = .returned sv ∧ OutR S (J8 w0) w w' sv (sUnk (Jr fs) u) ∧ Below w.heap.size w w')
theorem unk_none {f : Nat} (ok : SOK P S) (hf : FnIs P f (cUnk S) 85 4) (hk : KnownC P S.fKnown) : UnkC P S f (· = []) := by
 refine ⟨hf.ent, ?_⟩
 rintro w0 w ad c fs v u hrows htag hlen hB0 ⟨ad', c', rfl, had, hc, hrow⟩ rfl
 refine hf.runs (args := [.slice ad fs.toList.length c, .slice ad' 0 c']) (by simp) (by omega) ?_
 refine RW.sq (RW.rg (RL.s MR.mv (RL.nil (RW.sq (RW.rg (RL.s MR.mv (RL.ca (R := fun v w' => v = .int .u32 (Jr fs : Nat) ∧ Below w.heap.size w w') hk.1 ?_ ?_)))))))
 ·refine Calls.mono (hk.2 w ad c fs hrows htag hlen) ?_
  rintro e w' ⟨rfl, h⟩
  exact ⟨_, rfl, rfl, h⟩
 rintro v w1 ⟨rfl, hb⟩
 repeat first | refine RL.s MR.mv ?_ | refine RL.s (MR.biE rfl) ?_ | refine RL.s (MR.b2 rfl) ?_
 refine RL.nil (RW.sq (RW.rg (RL.s MR.mv (RL.nil (RW.sq (RW.sq (RW.rg ?_)))))))
 repeat first | refine RL.s MR.mv ?_ | refine RL.s (MR.biE rfl) ?_ | refine RL.s (MR.b2 rfl) ?_
 refine RL.s (MR.ln ok.tgs (p := ad') (n := 0) (c := c') rfl) (RL.s (MR.mn (m := 0) (n := 32767) rfl rfl) (RL.s (MR.sl (v := .slice ad' 0 c') (run_sliceTo (h := 0) ok.tgs (cellsB_some ok.tgN) had (by omega))) (RL.s (MR.ln ok.tgs (p := ad') (n := 0) (c := c') rfl) ?_)))
 repeat first | refine RL.s MR.mv ?_ | refine RL.s (MR.biE rfl) ?_ | refine RL.s (MR.b2 rfl) ?_
 refine RL.nil (RW.bl (RW.lp (fun ρ w' => ρ 6 = .slice none 0 0 ∧ ρ 18 = .int .i64 0 ∧ ρ 19 = .int .i64 0 ∧ w' = w1) (fun _ _ => 0) ⟨rfl, rfl, rfl, rfl⟩ ?_))
 rintro ρ w2 ⟨h6, h18, h19, rfl⟩
 refine RW.knows [(6, .slice none 0 0), (18, .int .i64 0), (19, .int .i64 0)] (by simp [h6, h18, h19]) (RW.sq (RW.rg ?_))
 refine RL.s (MR.biB (p := (0 : Int) < 0) rfl (decide_eq_false (by omega))) (RL.nil (RW.sq (RW.cd (b := false) rfl (fun e => by cases e) (fun _ => RW.ex ?_))))
 refine RW.sq (RW.rg ?_)
 repeat first | refine RL.s MR.mv ?_ | refine RL.s (MR.biE rfl) ?_ | refine RL.s (MR.b2 rfl) ?_
 exact RL.nil (RW.rt ⟨_, rfl, .inl ⟨rfl, by simp [sUnk]⟩, hb⟩)
end
mutual
def Qb (SU : List (Nat × List UInt8) → Prop) : Tr → Prop
 | .mk _ _ _ l u => SU u ∧ goodTs SU l
def goodTs (SU : List (Nat × List UInt8) → Prop) : Trs → Prop
 | .nil => True
 | .cons t r => Qb SU t ∧ goodTs SU r
end
theorem goodTs.mem {SU : List (Nat × List UInt8) → Prop} : ∀ {l : Trs} {t : Tr}, goodTs SU l → t ∈ l.toList → Qb SU t
 | .nil, t, _, h => by simp [Trs.toList] at h
 | .cons t r, t', h, hm => by
  unfold goodTs at h
  simp only [Trs.toList, List.mem_cons] at hm
  rcases hm with rfl | hm
  ·exact h.1
  ·exact goodTs.mem h.2 hm
theorem Qb.u {SU : List (Nat × List UInt8) → Prop} {t : Tr} (h : Qb SU t) : SU t.u := by cases t; unfold Qb at h; exact h.1
theorem Qb.mem {SU : List (Nat × List UInt8) → Prop} {t e : Tr} (h : Qb SU t) (he : e ∈ t.l) : Qb SU e := by cases t; unfold Qb at h; exact h.2.mem he
theorem Qb.zero {SU : List (Nat × List UInt8) → Prop} (h : SU []) : Qb SU .zero := by unfold Tr.zero Qb goodTs; exact ⟨h, trivial⟩
theorem Qb.at {SU : List (Nat × List UInt8) → Prop} {t : Tr} (h : Qb SU t) (h0 : SU []) (i : Nat) : Qb SU (t.l.getD i .zero) := by
 rw [List.getD_eq_getElem?_getD]
 cases hi : t.l[i]? with
 | none => exact Qb.zero h0
 | some e => exact h.mem (List.mem_of_getElem? hi)
structure SPC (P : Program) (S : SN) (SU : List (Nat × List UInt8) → Prop) : Prop where
 ok : SOK P S
 su0 : SU []
 fixed : FixedC P S.T.u8 S.fFixed
 uvar : UvC P S.T.u8 S.fUvar
 width : WidC P S.fWidth
 counted : CntC P S.T.u8 S.fCounted
 whole : CutC P S.fWhole
 things : CutC P S.fThings
 has : HasC P S.fHas
 null : NulC P S.fNull
 at_ : AtC P S.fAt
 known : KnownC P S.fKnown
 unk : UnkC P S S.fUnk SU
 value : FnIs P S.fValue (cValue S) 70 12
 field : FnIs P S.fField (cField S) 76 8
 part : FnIs P S.fPart (cPart S) 132 8
def PartC (P : Program) (S : SN) (SU : List (Nat × List UInt8) → Prop) (fs : Fds) : Prop := ∀ (w : World) (ad : Option Addr) (c : Nat) (t : Tr) (cs : List Value) (ver : Int) (flex : Bool),
 JX w ad 0 fs → JL w t cs → Qb SU t → (Qu ver flex fs t).length ≤ lim → RetB P S.T.u8 S.fPart [.slice ad fs.toList.length c, .int .i64 ver, .bool flex, .agg cs.toArray] w (Qu ver flex fs t)
def ValueC (P : Program) (S : SN) (SU : List (Nat × List UInt8) → Prop) (sub : Fds) : Prop := ∀ (w : World) (ad : Option Addr) (c : Nat) (t : Tr) (cs : List Value) (kind ver : Int) (null flex : Bool),
 JX w ad 0 sub → JL w t cs → Qb SU t → (sVal kind (Qu ver flex sub) null flex t).length ≤ lim →
 RetB P S.T.u8 S.fValue [.int .i64 kind, .slice ad sub.toList.length c, .bool null, .int .i64 ver, .bool flex, .agg cs.toArray] w (sVal kind (Qu ver flex sub) null flex t)
def FieldC (P : Program) (S : SN) (SU : List (Nat × List UInt8) → Prop) (fd : Fd) : Prop := ∀ (w : World) (cf ct : List Value) (t : Tr) (ver : Int) (flex : Bool),
 J7 w fd cf → JL w t ct → Qb SU t → (JU ver flex fd t).length ≤ lim → RetB P S.T.u8 S.fField [.agg cf.toArray, .int .i64 ver, .bool flex, .agg ct.toArray] w (JU ver flex fd t)
section
variable {P : Program} {S : SN} {w w' : World} {N : Nat} {Q : UE} {ρ : Nat → Value} {ms : List MOp} {SU : List (Nat × List UInt8) → Prop} {Q' : (Nat → Value) → World → Prop}
theorem OwnB.rebase {U B B' : Nat} {sv : Value} {bs : List UInt8} (h : OwnB U w B sv bs) (hB : B' ≤ B) : OwnB U w B' sv bs := by
 obtain ⟨h1, h2⟩ := h
 refine ⟨h1, ?_⟩
 rcases h2 with h2 | ⟨g, cap, cur, h2, h3, h4⟩
 ·exact .inl h2
 ·exact .inr ⟨g, cap, cur, h2, Nat.le_trans hB h3, h4⟩
theorem run_apOO {T U B B' : Nat} {sv sy : Value} {bs l : List UInt8} (hT : Jk P T U = true) (hU : u8Ty P U = true) (ho : OwnB U w B sv bs) (hy : OwnB U w B' sy l) (hB : B ≤ w.heap.size) (hlim : bs.length + l.length ≤ lim) :
  ∃ sv' w', (∀ ty, (Builtin.append_ #[T, T] ty #[sv, sy]).run P w = .ok sv' w') ∧ OwnB U w' B sv' (bs ++ l) ∧ Below B w w' ∧ w.grownBy w' sv.ownBlock := by
 obtain ⟨ad, c, rfl, _, _, hb⟩ := hy.bytes
 exact run_apOwn hT hU ho rfl hb hB hlim
theorem RL.apOO {d T U x y B B' : Nat} {sv sy : Value} {bs l : List UInt8} (hT : Jk P T U = true) (hU : u8Ty P U = true) (hx : ρ x = sv) (hy : ρ y = sy) (ho : OwnB U w B sv bs) (hoy : OwnB U w B' sy l) (hB : B ≤ w.heap.size) (hlim : bs.length + l.length ≤ lim)
  (h : ∀ sv' w', OwnB U w' B sv' (bs ++ l) → Below B w w' → RL P N ms Q (upd ρ d sv') w') (hxN : x < N := by decide) (hyN : y < N := by decide) (hd : d < N := by decide) : RL P N (.ap d T T x y :: ms) Q ρ w := by
 obtain ⟨sv', w', h1, h2, h3, _⟩ := run_apOO hT hU ho hoy hB hlim
 subst hx hy
 exact RL.s (MR.apBy (h1 0) h1 hxN hyN) (h sv' w' h2 h3) hd
theorem run_uuid {T U c : Nat} {ad : Option Addr} {l : List UInt8} (hT : Jk P T U = true) (hU : u8Ty P U = true) (hb : Jg w (fun _ => True) ad l) :
  ∃ w1, (Instr.makeSlice T (.int .i64 16) (.int .i64 16)).run P w = .ok (.slice (some ⟨w.heap.size, 0, none⟩) 16 16) w1 ∧ Below w.heap.size w w1 ∧
   ∃ v w2, (∀ ty, (Builtin.copy_ #[T, T] ty #[.slice (some ⟨w.heap.size, 0, none⟩) 16 16, .slice ad l.length c]).run P w1 = .ok v w2) ∧
    OwnB U w2 w.heap.size (.slice (some ⟨w.heap.size, 0, none⟩) 16 16) ((l ++ List.replicate 16 0).take 16) ∧ Below w.heap.size w w2 := by
 obtain ⟨i, hi, hs, hby, hz⟩ := QB hU
 have hm := run_makeSlice (P := P) (w := w) T U i (.int .u8 0) (Jq hT) hi hz .i64 .i64 16 16 (by omega) (by omega) (by rw [hs]; decide) (by rw [hby]; decide) (by omega)
 have hmade : madeCells (Value.int .u8 0).cells ((16 : Int).toNat * i.size) = (List.replicate 16 (Value.int .u8 0)).toArray := by
  rw [hs]
  apply Array.toList_inj.1
  refine List.eq_replicate_iff.2 ⟨by simp [madeCells], fun b hb => ?_⟩
  simp only [madeCells, Value.cells, Array.toList_map, List.mem_map] at hb
  obtain ⟨x, _, rfl⟩ := hb
  simp [Nat.mod_one]
 rw [hmade] at hm
 refine ⟨_, hm, Jn w _, ?_⟩
 have hh : (w.alloc (.cells (List.replicate 16 (Value.int .u8 0)).toArray U)).heap[w.heap.size]? = some (.cells (List.replicate 16 (Value.int .u8 0)).toArray U (0, 0)) := by
  show (w.heap.push _)[w.heap.size]? = _
  simp
 have hz0 : ∀ n, List.replicate n (Value.int .u8 0) = (List.replicate n (0 : UInt8)).map JF := fun n => by rw [List.map_replicate]; rfl
 have hlen : ((l ++ List.replicate 16 (0 : UInt8)).take 16).length = 16 := by simp
 have hsz : (P.info? U).map (·.size) = some 1 := by rw [hi]; simp [hs]
 by_cases hl : l.length = 0
 ·have : l = [] := List.eq_nil_of_length_eq_zero hl
  subst this
  refine ⟨_, _, fun ty => run_copy_none (P := P) _ T T ty U (some ⟨w.heap.size, 0, none⟩) ad 16 16 0 c (Jq hT) hsz (by simp), ?_, Jn w _⟩
  refine ⟨by simp, .inr ⟨w.heap.size, 16, _, rfl, Nat.le_refl _, hh, by simp, by decide, by simp, ?_⟩⟩
  simp [hz0]
 ·obtain ⟨b0, hb0⟩ : ∃ b, l[0]? = some b := ⟨l[0], List.getElem?_eq_getElem (by omega)⟩
  obtain ⟨g, o, rfl, _, _⟩ := hb 0 b0 hb0
  have hcopy := fun ty => run_copy_row (P := P) (w.alloc (.cells (List.replicate 16 (Value.int .u8 0)).toArray U)) T T ty U w.heap.size 0 16 16 ⟨g, o, none⟩ l.length c (List.replicate 16 (Value.int .u8 0)).toArray U ((l.take 16).map JF) (Jq hT) hsz hh
   (by simp [Nat.min_comm]) (fun j v hv => by
    rw [List.getElem?_map, Option.map_eq_some_iff] at hv
    obtain ⟨b, hb1, rfl⟩ := hv
    rw [List.getElem?_take] at hb1
    split at hb1
    ·obtain ⟨g', o', he, _, hc⟩ := (hb.kp (kp_alloc w _)) j b hb1
     cases he
     rw [Addr.add_mid]; exact hc
    ·simp at hb1) (by simp; omega) (by intro v hv; simp only [List.mem_map] at hv; obtain ⟨b, _, rfl⟩ := hv; rfl)
  refine ⟨_, _, hcopy, ?_, below_setRow (Jn w _) (Nat.le_refl _) _⟩
  refine ⟨by simp, .inr ⟨w.heap.size, 16, _, by rw [hlen], Nat.le_refl _, setRow_heap _ _ _ _ _ _ hh, by simp, by decide, ?_, ?_⟩⟩
  ·simp; omega
  ·rw [hlen]
   simp only [List.take_zero, List.nil_append, Nat.zero_add, List.length_map, List.length_take]
   rw [hz0, ← List.map_drop, ← List.map_append, Nat.mul_one, ← List.map_take]
   congr 1
   rw [List.drop_replicate, List.take_append, List.take_append]
   rw [List.take_take, List.take_replicate, List.take_replicate, List.length_take, Nat.min_self]
   congr 2; omega
theorem and1 {n : Int} (h0 : -9223372036854775808 ≤ n) (h1 : n ≤ 9223372036854775807) : IntKind.i64.wrap ((BitVec.ofInt IntKind.i64.bits n &&& BitVec.ofInt IntKind.i64.bits 1).toNat : Int) = n % 2 := by
 show IntKind.i64.wrap ((BitVec.ofInt 64 n &&& BitVec.ofInt 64 1).toNat : Int) = _
 rw [BitVec.toNat_and, show (BitVec.ofInt 64 1).toNat = 2 ^ 1 - 1 from rfl, Nat.and_two_pow_sub_one_eq_mod, BitVec.toNat_ofInt, Ju (by omega) (by omega)]
 omega
theorem lit_own {U : Nat} (bs : List UInt8) (h : bs.length ≤ 16) : OwnB U (w.alloc (.cells (bs.map JF).toArray U)) w.heap.size (.slice (some ⟨w.heap.size, 0, none⟩) bs.length bs.length) bs := by
 have := World.ownsRow_lit (base := w.heap.size) (e := U) (size := 1) w (bs.map JF).toArray bs.length (Nat.le_refl _) (by simp only [maxLen]; omega) (by simp)
 simpa [OwnB] using this
theorem rcd {t : Nat} {x y : Jc} {k k' : Int} (ht : ρ t = .bool (k == k')) (h1 : k = k' → RW P N x Q ρ w) (h2 : k ≠ k' → RW P N y Q ρ w) (hN : t < N := by decide) : RW P N (.cd t x y) Q ρ w :=
 RW.cd ht (fun e => h1 (beq_iff_eq.1 e)) (fun e => h2 (beq_eq_false_iff_ne.1 e)) hN
theorem cutBytes {ad : Option Addr} {l : List UInt8} (hb : Jg w (fun _ => True) ad l) : Jg w (fun _ => True) ad (l.take most) := by
 intro j b hj
 rw [List.getElem?_take] at hj
 split at hj
 ·exact hb j b hj
 ·simp at hj
theorem MR.cpBy {d T U x y : Nat} {v : Value} (hr : ∀ ty, (Builtin.copy_ #[T, U] ty #[ρ x, ρ y]).run P w = .ok v w') (hx : x < N := by decide) (hy : y < N := by decide) : MR P N (.cp d T U x y) ρ w d v w' := by
 refine MR.builtin (b := .copy) (T := [T, U]) (xs := [.t x, .t y]) (fun o hf => ?_) (by simp [MX.lt, Nat.blt_eq, hx, hy]) (fun t cs => ?_)
 ·generalize hop : o.op = op at hf
  cases op <;> try (simp only [Jf, UB] at hf; done)
  rename_i c
  obtain ⟨callee, args, ats⟩ := c
  cases callee <;> try (simp only [Jf, UB] at hf; done)
  case builtin b =>
   cases b <;> try (simp only [Jf, UB] at hf; done)
   simp only [Jf, UA] at hf
   obtain ⟨h1, h2⟩ := hf
   generalize hA : args.toList = A at h2
   generalize hB : ats.toList = B at h2
   match A, B, h2 with
   | [x', y'], [t', u'], h2 =>
    simp only [UA, Nat.beq_eq] at h2
    obtain ⟨⟨⟨h3, h4⟩, h5⟩, h6⟩ := h2
    exact ⟨Jl h1, args, ats, rfl, .inl (by rw [hB, h5, h6]), by rw [hA, J0 h3, J0 h4]; simp [allX, MX.is]⟩
 ·simp only [Go.builtin, xof, List.map_cons, List.map_nil]
  rw [Sem.run_bind, hr t]; rfl
theorem QQ (l : List UInt8) : min l.length most = (l.take most).length := by rw [List.length_take, Nat.min_comm]
set_option maxHeartbeats 1000000 in
theorem value_of (sp : SPC P S SU) {sub : Fds} (hp : PartC P S SU sub) : ValueC P S SU sub := by
 intro w ad c t cs kind ver null flex hrows hrep hgood hlim
 have ok := sp.ok
 have hrep0 := hrep
 obtain ⟨sS, sL, sU, rfl, hn, ⟨adS, cS, rfl, hadS, hlS, hbS⟩, ⟨adL, cL, rfl, _⟩, adU, cU, rfl, _⟩ := hrep.cells
 refine sp.value.runs (args := [.int .i64 kind, .slice ad sub.toList.length c, .bool null, .int .i64 ver, .bool flex, .agg _]) (by simp) (by omega) ?_
 refine RW.sq (RW.rg (RL.bxA rfl (RL.s MR.mv (RL.nil ?_))))
 have c0 := JA w [Value.int .i64 t.n, .slice adS t.s.length cS, .bool t.null, .slice adL t.l.length cL, .slice adU t.u.length cU] S.tr (j := 0) rfl
 have c1 := JA w [Value.int .i64 t.n, .slice adS t.s.length cS, .bool t.null, .slice adL t.l.length cL, .slice adU t.u.length cU] S.tr (j := 1) rfl
 have crow : (w.alloc (.cells [Value.int .i64 t.n, .slice adS t.s.length cS, .bool t.null, .slice adL t.l.length cL, .slice adU t.u.length cU].toArray S.tr)).rangeAt w.heap.size 0 [Value.int .i64 t.n, .slice adS t.s.length cS, .bool t.null, .slice adL t.l.length cL, .slice adU t.u.length cU] := fun j v hj => JA w _ S.tr hj
 have hb := Jn w (.cells [Value.int .i64 t.n, .slice adS t.s.length cS, .bool t.null, .slice adL t.l.length cL, .slice adU t.u.length cU].toArray S.tr)
 revert c0 c1 crow hb
 generalize w.alloc (.cells [Value.int .i64 t.n, .slice adS t.s.length cS, .bool t.null, .slice adL t.l.length cL, .slice adU t.u.length cU].toArray S.tr) = w1
 intro c0 c1 crow hb
 have hB : w.heap.size ≤ w1.heap.size := hb.size
 refine RW.sq (RW.sq (RW.rg ?_))
 repeat first | refine RL.s MR.mv ?_ | refine RL.s (MR.biE rfl) ?_ | refine RL.s (MR.b2 rfl) ?_
 refine RL.nil (RW.bl (RW.sq (RW.rg ?_)))
 repeat first | refine RL.s MR.mv ?_ | refine RL.s (MR.biE rfl) ?_ | refine RL.s (MR.b2 rfl) ?_
 refine RL.nil (rcd (k := kind) (k' := 0) rfl (fun e => ?_) (fun k0 => ?_))
 ·subst e
  refine RW.sq (RW.rg (RL.s (MR.fa rfl (ok.trF 0 (by omega))) (RL.s (MR.ld rfl ok.pI64 c0) ?_)))
  repeat first | refine RL.s MR.mv ?_ | refine RL.s (MR.biE rfl) ?_ | refine RL.s (MR.b2 rfl) ?_
  refine RL.s (MR.cvI rfl (ok.tk.i64 ok.hi64) ok.tk.u8i) ?_
  refine RL.bsl8 (bs := [UInt8.ofNat (t.n % 2).toNat]) ok.tk.u8s ok.tk.u8 ?_ (by simp) ?_
  ·show [Value.int .u8 (IntKind.u8.wrap (IntKind.i64.wrap ((BitVec.ofInt IntKind.i64.bits t.n &&& BitVec.ofInt IntKind.i64.bits 1).toNat : Int)))] = _
   rw [and1 hn.1 hn.2, byteV_mod]
   congr 3; omega
  repeat first | refine RL.s MR.mv ?_ | refine RL.s (MR.biE rfl) ?_ | refine RL.s (MR.b2 rfl) ?_
  refine RL.nil (RW.rt ⟨_, rfl, ?_, hb.trans ((Jn w1 _).mono hB)⟩)
  exact (lit_own (w := w1) [UInt8.ofNat (t.n % 2).toNat] (by simp)).rebase hB
 refine RW.sq (RW.rg ?_)
 repeat first | refine RL.s MR.mv ?_ | refine RL.s (MR.biE rfl) ?_ | refine RL.s (MR.b2 rfl) ?_
 refine RL.nil (rcd (k := kind) (k' := 7) rfl (fun e => ?_) (fun k7 => ?_))
 ·subst e
  obtain ⟨w2, m1, m2, v, w3, m3, m4, m5⟩ := run_uuid (c := cS) ok.tk.u8s ok.tk.u8 (hbS.kp hb.kp)
  refine RW.sq (RW.rg (RL.s (MR.mkBy m1) ?_))
  repeat first | refine RL.s MR.mv ?_ | refine RL.s (MR.biE rfl) ?_ | refine RL.s (MR.b2 rfl) ?_
  refine RL.nil (RW.sq (RW.rg ?_))
  repeat first | refine RL.s MR.mv ?_ | refine RL.s (MR.biE rfl) ?_ | refine RL.s (MR.b2 rfl) ?_
  refine RL.s (MR.fa rfl (ok.trF 1 (by omega))) (RL.s (MR.ld rfl ok.pU8s (m2.kp _ _ c1)) (RL.s (MR.cpBy m3) (RL.nil (RW.sq (RW.rg ?_)))))
  repeat first | refine RL.s MR.mv ?_ | refine RL.s (MR.biE rfl) ?_ | refine RL.s (MR.b2 rfl) ?_
  exact RL.nil (RW.rt ⟨_, rfl, m4.rebase hB, hb.trans (m5.mono hB)⟩)
 refine RW.sq (RW.rg ?_)
 repeat first | refine RL.s MR.mv ?_ | refine RL.s (MR.biE rfl) ?_ | refine RL.s (MR.b2 rfl) ?_
 refine RL.nil (rcd (k := kind) (k' := 8) rfl (fun e => ?_) (fun k8 => ?_))
 ·subst e
  have hval : sVal 8 (Qu ver flex sub) null flex t = sCnt flex null (if null then [] else t.s.take most).length 2 ++ (if null then [] else t.s.take most) := rfl
  rw [hval] at hlim ⊢
  refine RW.sq (RW.rg (RL.s (MR.fa rfl (ok.trF 1 (by omega))) (RL.s (MR.ld rfl ok.pU8s c1) (RL.ca (R := fun v w' => v = .slice adS (min t.s.length most) cS ∧ w' = w1) sp.whole.1 ?_ ?_))))
  ·refine Calls.mono (sp.whole.2 w1 adS t.s.length cS hadS hlS) ?_
   rintro e w' ⟨rfl, rfl⟩
   exact ⟨_, rfl, rfl, rfl⟩
  rintro v w' ⟨rfl, rfl⟩
  repeat first | refine RL.s MR.mv ?_ | refine RL.s (MR.biE rfl) ?_ | refine RL.s (MR.b2 rfl) ?_
  refine RL.nil (RW.sq (RW.sq (RW.rg ?_)))
  repeat first | refine RL.s MR.mv ?_ | refine RL.s (MR.biE rfl) ?_ | refine RL.s (MR.b2 rfl) ?_
  have fin : ∀ (Qn : (Nat → Value) → World → Prop) (ad' : Option Addr) (l : List UInt8) (c' : Nat) (ρ : Nat → Value), Jg w' (fun _ => True) ad' l → l.length ≤ most → ρ 14 = .slice ad' l.length c' → ρ 2 = .bool null → ρ 4 = .bool flex → (sCnt flex null l.length 2 ++ l).length ≤ lim →
    RW P 70 (.sq (.rg [.mv 38 (.t 4), .mv 39 (.t 2), .mv 40 (.t 14), .ln 41 S.T.u8s 40, .ca 42 S.fCounted [.t 38, .t 39, .t 41, .c (.int .i64 (2))], .mv 43 (.t 14), .ap 44 S.T.u8s S.T.u8s 42 43, .mv 12 (.t 44)]) .rt)
     (J2 0 (QP Qn (retQ 12 fun e w'' => ∃ sv, e = .returned sv ∧ OwnB S.T.u8 w'' w.heap.size sv (sCnt flex null l.length 2 ++ l) ∧ Below w.heap.size w w''))) ρ w' := by
   intro Qn ad' l c' ρ hbl hl hs h2 h4 hlm
   refine RW.knows [(14, .slice ad' l.length c'), (2, .bool null), (4, .bool flex)] (by simp [hs, h2, h4]) (RW.sq (RW.rg ?_))
   repeat first | refine RL.s MR.mv ?_ | refine RL.s (MR.biE rfl) ?_ | refine RL.s (MR.b2 rfl) ?_
   refine RL.s (MR.ln ok.tk.u8s (p := ad') (n := l.length) (c := c') rfl) ?_
   refine RL.caB sp.counted.1 (sp.counted.2 w' flex null l.length 2 (by simp only [most] at hl; omega) (by omega)) rfl fun sv w2 o b => ?_
   repeat first | refine RL.s MR.mv ?_ | refine RL.s (MR.biE rfl) ?_ | refine RL.s (MR.b2 rfl) ?_
   refine RL.apOwn (sv := sv) (bs := sCnt flex null l.length 2) (l := l) (ad := ad') (m := l.length) (c := c') ok.tk.u8s ok.tk.u8 rfl o rfl rfl (hbl.kp b.kp) b.size (by simpa using hlm) fun sv2 w3 o2 b2 => ?_
   repeat first | refine RL.s MR.mv ?_ | refine RL.s (MR.biE rfl) ?_ | refine RL.s (MR.b2 rfl) ?_
   exact RL.nil (RW.rt ⟨sv2, rfl, o2.rebase hB, hb.trans ((b.trans b2).mono hB)⟩)
  cases null
  ·refine RL.nil (RW.cd (b := false) rfl (fun e => by cases e) (fun _ => RW.sk ?_))
   exact fin _ adS (t.s.take most) cS _ (cutBytes (hbS.kp hb.kp)) (List.length_take_le _ _) (by show Value.slice adS (min t.s.length most) cS = _; rw [QQ]) rfl rfl hlim
  ·refine RL.nil (RW.cd (b := true) rfl (fun _ => RW.rg (RL.s MR.mv (RL.nil ?_))) (fun e => by cases e))
   exact fin _ none [] 0 _ (fun j b hj => by simp at hj) (by simp) rfl rfl rfl hlim
 refine RW.sq (RW.rg ?_)
 repeat first | refine RL.s MR.mv ?_ | refine RL.s (MR.biE rfl) ?_ | refine RL.s (MR.b2 rfl) ?_
 refine RL.nil (rcd (k := kind) (k' := 9) rfl (fun e => ?_) (fun k9 => ?_))
 ·subst e
  have hval : sVal 9 (Qu ver flex sub) null flex t = sCnt flex null (if null then [] else t.s.take most).length 4 ++ (if null then [] else t.s.take most) := rfl
  rw [hval] at hlim ⊢
  refine RW.sq (RW.rg (RL.s (MR.fa rfl (ok.trF 1 (by omega))) (RL.s (MR.ld rfl ok.pU8s c1) (RL.ca (R := fun v w' => v = .slice adS (min t.s.length most) cS ∧ w' = w1) sp.whole.1 ?_ ?_))))
  ·refine Calls.mono (sp.whole.2 w1 adS t.s.length cS hadS hlS) ?_
   rintro e w' ⟨rfl, rfl⟩
   exact ⟨_, rfl, rfl, rfl⟩
  rintro v w' ⟨rfl, rfl⟩
  repeat first | refine RL.s MR.mv ?_ | refine RL.s (MR.biE rfl) ?_ | refine RL.s (MR.b2 rfl) ?_
  refine RL.nil (RW.sq (RW.sq (RW.rg ?_)))
  repeat first | refine RL.s MR.mv ?_ | refine RL.s (MR.biE rfl) ?_ | refine RL.s (MR.b2 rfl) ?_
  have fin : ∀ (Qn : (Nat → Value) → World → Prop) (ad' : Option Addr) (l : List UInt8) (c' : Nat) (ρ : Nat → Value), Jg w' (fun _ => True) ad' l → l.length ≤ most → ρ 15 = .slice ad' l.length c' → ρ 2 = .bool null → ρ 4 = .bool flex → (sCnt flex null l.length 4 ++ l).length ≤ lim →
    RW P 70 (.sq (.rg [.mv 51 (.t 4), .mv 52 (.t 2), .mv 53 (.t 15), .ln 54 S.T.u8s 53, .ca 55 S.fCounted [.t 51, .t 52, .t 54, .c (.int .i64 (4))], .mv 56 (.t 15), .ap 57 S.T.u8s S.T.u8s 55 56, .mv 12 (.t 57)]) .rt)
     (J2 0 (QP Qn (retQ 12 fun e w'' => ∃ sv, e = .returned sv ∧ OwnB S.T.u8 w'' w.heap.size sv (sCnt flex null l.length 4 ++ l) ∧ Below w.heap.size w w''))) ρ w' := by
   intro Qn ad' l c' ρ hbl hl hs h2 h4 hlm
   refine RW.knows [(15, .slice ad' l.length c'), (2, .bool null), (4, .bool flex)] (by simp [hs, h2, h4]) (RW.sq (RW.rg ?_))
   repeat first | refine RL.s MR.mv ?_ | refine RL.s (MR.biE rfl) ?_ | refine RL.s (MR.b2 rfl) ?_
   refine RL.s (MR.ln ok.tk.u8s (p := ad') (n := l.length) (c := c') rfl) ?_
   refine RL.caB sp.counted.1 (sp.counted.2 w' flex null l.length 4 (by simp only [most] at hl; omega) (by omega)) rfl fun sv w2 o b => ?_
   repeat first | refine RL.s MR.mv ?_ | refine RL.s (MR.biE rfl) ?_ | refine RL.s (MR.b2 rfl) ?_
   refine RL.apOwn (sv := sv) (bs := sCnt flex null l.length 4) (l := l) (ad := ad') (m := l.length) (c := c') ok.tk.u8s ok.tk.u8 rfl o rfl rfl (hbl.kp b.kp) b.size (by simpa using hlm) fun sv2 w3 o2 b2 => ?_
   repeat first | refine RL.s MR.mv ?_ | refine RL.s (MR.biE rfl) ?_ | refine RL.s (MR.b2 rfl) ?_
   exact RL.nil (RW.rt ⟨sv2, rfl, o2.rebase hB, hb.trans ((b.trans b2).mono hB)⟩)
  cases null
  ·refine RL.nil (RW.cd (b := false) rfl (fun e => by cases e) (fun _ => RW.sk ?_))
   exact fin _ adS (t.s.take most) cS _ (cutBytes (hbS.kp hb.kp)) (List.length_take_le _ _) (by show Value.slice adS (min t.s.length most) cS = _; rw [QQ]) rfl rfl hlim
  ·refine RL.nil (RW.cd (b := true) rfl (fun _ => RW.rg (RL.s MR.mv (RL.nil ?_))) (fun e => by cases e))
   exact fin _ none [] 0 _ (fun j b hj => by simp at hj) (by simp) rfl rfl rfl hlim
 refine RW.sq (RW.rg ?_)
 repeat first | refine RL.s MR.mv ?_ | refine RL.s (MR.biE rfl) ?_ | refine RL.s (MR.b2 rfl) ?_
 refine RL.nil (rcd (k := kind) (k' := 10) rfl (fun e => ?_) (fun k10 => RW.sk ?_))
 ·subst e
  refine RW.sq (RW.rg ?_)
  repeat first | refine RL.s MR.mv ?_ | refine RL.s (MR.biE rfl) ?_ | refine RL.s (MR.b2 rfl) ?_
  refine RL.s (MR.ldRow (cs := [Value.int .i64 t.n, .slice adS t.s.length cS, .bool t.null, .slice adL t.l.length cL, .slice adU t.u.length cU]) rfl ok.trR ok.trN crow) ?_
  refine RL.caB sp.part.ent (hp w1 ad c t _ ver flex (JX.kp hb.kp _ hrows) (JL.kp hb.kp _ hrep0) hgood hlim) rfl fun sv w2 o b => ?_
  repeat first | refine RL.s MR.mv ?_ | refine RL.s (MR.biE rfl) ?_ | refine RL.s (MR.b2 rfl) ?_
  exact RL.nil (RW.rt ⟨sv, rfl, o.rebase hB, hb.trans (b.mono hB)⟩)
 have hval : sVal kind (Qu ver flex sub) null flex t = fix t.n (sWid kind) := by simp [sVal, k0, k7, k8, k9, k10]
 rw [hval]
 refine RW.sq (RW.gd ok.mo (Kp w1) (Qy w1) ?_)
 refine RG.q (fun _ _ => MR.fa rfl (ok.trF 0 (by omega))) (RG.q (fun w' hS => MR.ld rfl ok.pI64 (hS _ _ c0)) ?_)
 repeat first | refine RG.q (fun _ _ => MR.mv) ?_ | refine RG.q (fun _ _ => MR.biE rfl) ?_ | refine RG.q (fun _ _ => MR.pk rfl) ?_ | refine RG.no (by first | exact ⟨by decide, .inl rfl⟩ | exact ⟨by decide, .inr ⟨rfl, rfl⟩⟩) ?_
 have bd := hb.trans (JI w1 w.heap.size)
 refine RG.ca (R := fun v w' => v = .int .i64 (sWid kind : Nat) ∧ w' = World.drew1 w1) sp.width.1 (fun hS => ?_) ?_
 ·refine Calls.mono (sp.width.2 _ kind) ?_
  rintro e w' ⟨rfl, rfl⟩
  exact ⟨_, rfl, ⟨rfl, rfl⟩, hS⟩
 rintro v w' ⟨rfl, rfl⟩
 have hk : sWid kind = 1 ∨ sWid kind = 2 ∨ sWid kind = 4 ∨ sWid kind = 8 := by unfold sWid; (repeat' split) <;> simp
 refine RG.ca (R := fun v w' => OwnB S.T.u8 w' (World.drew1 w1).heap.size v (fix t.n (sWid kind)) ∧ Below (World.drew1 w1).heap.size (World.drew1 w1) w') sp.fixed.1 (fun hS => ?_) ?_
 ·refine Calls.mono (sp.fixed.2 (World.drew1 w1) t.n (sWid kind) hk) ?_
  rintro e w' ⟨sv, rfl, o, b⟩
  exact ⟨_, rfl, ⟨o, b⟩, hS.trans b.kp⟩
 rintro v w' ⟨o, b⟩
 repeat first | refine RG.q (fun _ _ => MR.mv) ?_ | refine RG.q (fun _ _ => MR.biE rfl) ?_ | refine RG.q (fun _ _ => MR.pk rfl) ?_ | refine RG.no (by first | exact ⟨by decide, .inl rfl⟩ | exact ⟨by decide, .inr ⟨rfl, rfl⟩⟩) ?_
 exact RG.nil fun _ => RW.rt ⟨v, rfl, o.rebase hB, bd.trans (b.mono hB)⟩
end
section
variable {P : Program} {S : SN} {w w' : World} {N : Nat} {Q : UE} {ρ : Nat → Value} {ms : List MOp} {SU : List (Nat × List UInt8) → Prop} {Q' : (Nat → Value) → World → Prop}
theorem RG.caB {i d f : Nat} {U : Nat} {g : Option (Nat × Nat × Bool)} {gs : List GOp} {xs : List MX} {out : List UInt8} {args : List Value} {S : World → Prop} (he : Jo P f = true) (hc : RetB P U f args w out) (ha : xs.map (xof ρ) = args)
  (hS : ∀ w', Below w.heap.size w w' → S w → S w') (h : ∀ sv w', OwnB U w' w.heap.size sv out → Below w.heap.size w w' → RG P N gs Q S (upd ρ d sv) w')
  (hg : passes N ρ true g := by first | exact rfl | exact ⟨by decide, .inl rfl⟩) (hd : d < N := by decide) (hx : ∀ x ∈ xs, MX.lt N x = true := by simp [MX.lt, Nat.blt_eq]) : RG P N (⟨i, g, .ca d f xs⟩ :: gs) Q S ρ w := by
 refine RG.ca (R := fun sv w' => OwnB U w' w.heap.size sv out ∧ Below w.heap.size w w') he (fun hs => ?_) (fun v w' h' => h v w' h'.1 h'.2) hg hd hx
 rw [ha]
 refine Calls.mono hc ?_
 rintro e w' ⟨sv, rfl, h1, h2⟩
 exact ⟨sv, rfl, ⟨h1, h2⟩, hS w' h2 hs⟩
theorem RG.apOO {i d T U x y B B' : Nat} {gs : List GOp} {sv sy : Value} {bs l : List UInt8} {S : World → Prop} (hT : Jk P T U = true) (hU : u8Ty P U = true) (hx : ρ x = sv) (hy : ρ y = sy) (ho : OwnB U w B sv bs) (hoy : OwnB U w B' sy l) (hB : B ≤ w.heap.size) (hlim : bs.length + l.length ≤ lim)
  (hS : ∀ w', Below B w w' → w.grownBy w' sv.ownBlock → S w → S w') (h : ∀ sv' w', OwnB U w' B sv' (bs ++ l) → Below B w w' → RG P N gs Q S (upd ρ d sv') w') (hxN : x < N := by decide) (hyN : y < N := by decide) (hd : d < N := by decide) : RG P N (⟨i, none, .ap d T T x y⟩ :: gs) Q S ρ w := by
 obtain ⟨sv', w', h1, h2, h3, h4⟩ := run_apOO hT hU ho hoy hB hlim
 subst hx hy
 exact RG.x (MR.apBy (h1 0) h1 hxN hyN) (hS w' h3 h4) (h sv' w' h2 h3) rfl rfl hd
theorem getElem?_take_some {α : Type} {l : List α} {n i : Nat} {x : α} (h : (l.take n)[i]? = some x) : l[i]? = some x := by
 rw [List.getElem?_take] at h
 split at h
 ·exact h
 ·simp at h
theorem sField_part {ver : Int} {flex : Bool} {t : Tr} {fd : Fd} (h1 : fd.kind = 10) (h2 : 0 ≤ fd.nul) : JU ver flex fd t = if JR fd.nul ver t.null then fix (-1) 1 else fix 1 1 ++ Qu ver flex fd.sub t := by
 obtain ⟨kind, fr, to, nul, tag, df, of, sub⟩ := fd
 change kind = 10 at h1
 change 0 ≤ nul at h2
 subst h1
 unfold JU
 rw [if_neg (by decide), if_pos ⟨rfl, h2⟩]; rfl
theorem sField_plain {ver : Int} {flex : Bool} {t : Tr} {fd : Fd} (h1 : fd.kind ≠ 11) (h2 : ¬ (fd.kind = 10 ∧ 0 ≤ fd.nul)) : JU ver flex fd t = sVal fd.kind (Qu ver flex fd.sub) (JR fd.nul ver t.null) flex t := by
 obtain ⟨kind, fr, to, nul, tag, df, of, sub⟩ := fd
 change kind ≠ 11 at h1
 change ¬ (kind = 10 ∧ 0 ≤ nul) at h2
 unfold JU
 rw [if_neg h1, if_neg h2]; rfl
set_option maxHeartbeats 1000000 in
theorem field_of (sp : SPC P S SU) {fd : Fd} (hp : PartC P S SU fd.sub) (hv : ValueC P S SU fd.sub) : FieldC P S SU fd := by
 intro w cf ct t ver flex hfd hrep hgood hlim
 have ok := sp.ok
 have hfd0 := hfd
 have hrep0 := hrep
 obtain ⟨of1, ol1⟩ := hfd.one
 obtain ⟨ot1, tl1⟩ := hrep.one
 obtain ⟨sl, hcf, adF, cF, rfl, hrows⟩ := hfd.cells
 obtain ⟨sS, sL, sU, hct, hn, _, ⟨adL, cL, rfl, hadL, hlL, hL⟩, _⟩ := hrep.cells
 refine sp.field.runs (args := [.agg cf.toArray, .int .i64 ver, .bool flex, .agg ct.toArray]) (by simp) (by omega) ?_
 refine RW.sq (RW.rg (RL.bxA rfl (RL.bxA rfl (RL.s MR.mv (RL.nil ?_)))))
 have r4 : (w.alloc (.cells cf.toArray S.fd)).rangeAt w.heap.size 0 cf := fun j v hj => JA w _ S.fd hj
 have hb0 := Jn w (.cells cf.toArray S.fd)
 have hs0 := J1 w (.cells cf.toArray S.fd)
 revert r4 hb0 hs0
 generalize w.alloc (.cells cf.toArray S.fd) = w0
 intro r4 hb0 hs0
 have r7 : (w0.alloc (.cells ct.toArray S.tr)).rangeAt w0.heap.size 0 ct := fun j v hj => JA w0 _ S.tr hj
 have hb1 := Jn w0 (.cells ct.toArray S.tr)
 have hs1 := J1 w0 (.cells ct.toArray S.tr)
 have r4' := Jx r4 hb1.kp
 revert r7 hb1 hs1 r4'
 generalize w0.alloc (.cells ct.toArray S.tr) = w1
 intro r7 hb1 hs1 r4'
 have hb : Below w.heap.size w w1 := hb0.trans (hb1.mono hb0.size)
 have hB : w.heap.size ≤ w1.heap.size := hb.size
 have f0 := r4' 0 (.int .i64 fd.kind) (by rw [hcf]; rfl)
 have f3 := r4' 3 (.int .i64 fd.nul) (by rw [hcf]; rfl)
 have f6 := r4' 6 (.int .i64 fd.of) (by rw [hcf]; rfl)
 have f7 := r4' 7 (.slice adF fd.sub.toList.length cF) (by rw [hcf]; rfl)
 have t3 := r7 3 (.slice adL t.l.length cL) (by rw [hct]; rfl)
 refine RW.sq (RW.rg (RL.s (MR.ldRow rfl ok.fdR (by rw [ol1]; exact ok.fdN) r4') (RL.s MR.mv (RL.s (MR.ldRow rfl ok.trR (by rw [tl1]; exact ok.trN) r7) ?_))))
 refine RL.ca (R := fun v w' => v = .bool (JR fd.nul ver t.null) ∧ Below w1.heap.size w1 w') sp.null.1 ?_ ?_
 ·refine Calls.mono (sp.null.2 w1 fd t cf ct ver (J7.kp hb.kp _ hfd0) (JL.kp hb.kp _ hrep0)) ?_
  rintro e w' ⟨rfl, h⟩
  exact ⟨_, rfl, rfl, h⟩
 rintro v w2 ⟨rfl, hb2⟩
 have f0' := hb2.kp _ _ f0
 have f3' := hb2.kp _ _ f3
 have f6' := hb2.kp _ _ f6
 have f7' := hb2.kp _ _ f7
 have t3' := hb2.kp _ _ t3
 have r7' := Jx r7 hb2.kp
 have hbw2 : Below w.heap.size w w2 := hb.trans (hb2.mono hB)
 have hrows2 := JX.kp hbw2.kp _ hrows
 have hrep2 := JL.kp hbw2.kp _ hrep0
 have hB2 : w.heap.size ≤ w2.heap.size := hbw2.size
 repeat first | refine RL.s MR.mv ?_ | refine RL.s (MR.biE rfl) ?_ | refine RL.s (MR.b2 rfl) ?_
 refine RL.nil (RW.sq (RW.sq (RW.rg (RL.s (MR.fa rfl (ok.fdF 0 (by omega))) (RL.s (MR.ld rfl ok.pInt f0') ?_)))))
 repeat first | refine RL.s MR.mv ?_ | refine RL.s (MR.biE rfl) ?_ | refine RL.s (MR.b2 rfl) ?_
 refine RL.nil (rcd (k := fd.kind) (k' := 11) rfl (fun hk => ?_) (fun k11 => RW.sk ?_))
 ·-- a list
  have hfld : JU ver flex fd t = sCnt flex (JR fd.nul ver t.null) (if JR fd.nul ver t.null then [] else t.l.take most).length 4 ++ (if JR fd.nul ver t.null then [] else t.l.take most).flatMap (sVal fd.of (Qu ver flex fd.sub) false flex) := by
   cases fd; simp only [Fd.kind] at hk; subst hk; rfl
  rw [hfld] at hlim ⊢
  refine RW.sq (RW.rg (RL.s (MR.fa rfl (ok.trF 3 (by omega))) (RL.s (MR.ld rfl ok.pTrs t3') (RL.ca (R := fun v w' => v = .slice adL (min t.l.length most) cL ∧ w' = w2) sp.things.1 ?_ ?_))))
  ·refine Calls.mono (sp.things.2 w2 adL t.l.length cL hadL hlL) ?_
   rintro e w' ⟨rfl, rfl⟩
   exact ⟨_, rfl, rfl, rfl⟩
  rintro v w' ⟨rfl, rfl⟩
  repeat first | refine RL.s MR.mv ?_ | refine RL.s (MR.biE rfl) ?_ | refine RL.s (MR.b2 rfl) ?_
  refine RL.nil (RW.sq (RW.sq (RW.rg ?_)))
  repeat first | refine RL.s MR.mv ?_ | refine RL.s (MR.biE rfl) ?_ | refine RL.s (MR.b2 rfl) ?_
  have fin : ∀ (l : List Tr) (ad' : Option Addr) (c' : Nat) (null : Bool) (ρ : Nat → Value) (Qn : (Nat → Value) → World → Prop), null = JR fd.nul ver t.null → (if null then [] else t.l.take most) = l → l.length ≤ most → (∀ e ∈ l, Qb SU e) →
    (∀ i e, l[i]? = some e → ∃ g o cs', ad' = some ⟨g, o, none⟩ ∧ w.rangeAt g (o + i * 5) cs' ∧ JL w e cs') →
    ρ 10 = .slice ad' l.length c' → ρ 9 = .bool null → ρ 1 = .int .i64 ver → ρ 2 = .bool flex → ρ 4 = .pointer (some ⟨w.heap.size, 0, none⟩) → (sCnt flex null l.length 4 ++ l.flatMap (sVal fd.of (Qu ver flex fd.sub) false flex)).length ≤ lim →
    RW P 76 (.sq (.rg [.mv 24 (.t 2), .mv 25 (.t 9), .mv 26 (.t 10), .ln 27 S.trs 26, .ca 28 S.fCounted [.t 24, .t 25, .t 27, .c (.int .i64 (4))], .mv 11 (.t 28)])
     (.sq (.sq (.rg [.mv 29 (.t 10), .ln 30 S.trs 29, .mv 31 (.c (.int .i64 (0)))])
     (.bl 0 (.lp (.sq (.rg [.bi 32 .lss S.T.int (.t 31) (.t 30)])
     (.sq (.cd 32 (.sk) (.ex 0))
     (.sq (.bl 1 (.sq (.rg [.mv 33 (.t 31), .mv 12 (.t 33)])
     (.gr true [⟨0, none, .mv 34 (.t 11)⟩, ⟨1, none, .fa 35 S.fd 4 6⟩, ⟨2, none, .ld 36 S.T.int 35⟩, ⟨3, none, .fa 37 S.fd 4 7⟩, ⟨4, none, .ld 38 S.fds 37⟩, ⟨5, none, .mv 39 (.t 1)⟩, ⟨6, none, .mv 40 (.t 2)⟩, ⟨7, none, .mv 41 (.t 10)⟩, ⟨8, none, .mv 42 (.t 12)⟩, ⟨9, none, .ia 43 S.trs 41 42⟩, ⟨10, none, .ld 44 S.tr 43⟩, ⟨11, none, .ca 45 S.fValue [.t 36, .t 38, .c (.bool false), .t 39, .t 40, .t 44]⟩, ⟨12, none, .ap 46 S.T.u8s S.T.u8s 34 45⟩, ⟨13, none, .mv 11 (.t 46)⟩])))
     (.rg [.bi 47 .add S.T.int (.t 31) (.c (.int .i64 (1))), .mv 31 (.t 47)])))))))
     (.sq (.rg [.mv 48 (.t 11), .mv 8 (.t 48)])
     (.rt)))) (QP Qn (retQ 8 fun e w'' => ∃ sv, e = .returned sv ∧ OwnB S.T.u8 w'' w.heap.size sv (sCnt flex null l.length 4 ++ l.flatMap (sVal fd.of (Qu ver flex fd.sub) false flex)) ∧ Below w.heap.size w w'')) ρ w' := by
   intro l ad' c' null ρ Qn hnull hl0 hl hgl hrl h10 h9 h1 h2 h4 hlm
   have hm : l.length ≤ 32767 := hl
   refine RW.knows [(10, .slice ad' l.length c'), (9, .bool null), (1, .int .i64 ver), (2, .bool flex), (4, .pointer (some ⟨w.heap.size, 0, none⟩))] (by simp [h10, h9, h1, h2, h4]) (RW.sq (RW.rg ?_))
   repeat first | refine RL.s MR.mv ?_ | refine RL.s (MR.biE rfl) ?_ | refine RL.s (MR.b2 rfl) ?_
   refine RL.s (MR.ln ok.trs (p := ad') (n := l.length) (c := c') rfl) ?_
   refine RL.caB sp.counted.1 (sp.counted.2 w' flex null l.length 4 (by simp only [most] at hl; omega) (by omega)) rfl fun sv0 w3 o3 b3 => ?_
   repeat first | refine RL.s MR.mv ?_ | refine RL.s (MR.biE rfl) ?_ | refine RL.s (MR.b2 rfl) ?_
   refine RL.nil (RW.sq (RW.sq (RW.rg ?_)))
   repeat first | refine RL.s MR.mv ?_ | refine RL.s (MR.biE rfl) ?_ | refine RL.s (MR.b2 rfl) ?_
   refine RL.s (MR.ln ok.trs (p := ad') (n := l.length) (c := c') rfl) ?_
   repeat first | refine RL.s MR.mv ?_ | refine RL.s (MR.biE rfl) ?_ | refine RL.s (MR.b2 rfl) ?_
   refine RL.nil (RW.bl ?_)
   refine RW.lp (fun ρ w4 => ∃ (i : Nat) (sv : Value) (bs : List UInt8), i ≤ l.length ∧ ρ 1 = .int .i64 ver ∧ ρ 2 = .bool flex ∧ ρ 4 = .pointer (some ⟨w.heap.size, 0, none⟩) ∧ ρ 10 = .slice ad' l.length c' ∧ ρ 11 = sv ∧ ρ 30 = .int .i64 (l.length : Nat) ∧ ρ 31 = .int .i64 (i : Nat) ∧
     OwnB S.T.u8 w4 w'.heap.size sv bs ∧ Below w'.heap.size w' w4 ∧ bs ++ (l.drop i).flatMap (sVal fd.of (Qu ver flex fd.sub) false flex) = sCnt flex null l.length 4 ++ l.flatMap (sVal fd.of (Qu ver flex fd.sub) false flex))
    (fun ρ _ => l.length - (intOf (ρ 31)).toNat) ⟨0, sv0, _, by omega, rfl, rfl, rfl, rfl, rfl, rfl, rfl, o3, b3, rfl⟩ ?_ (fun ρ ρ' w h => by rw [h 31 (by omega)])
   rintro ρ1 w4 ⟨i, sv, bs, hi, h1, h2, h4, h10, h11, h30, h31, ho, hb4, hbs⟩
   refine RW.knows [(1, .int .i64 ver), (2, .bool flex), (4, .pointer (some ⟨w.heap.size, 0, none⟩)), (10, .slice ad' l.length c'), (11, sv), (30, .int .i64 (l.length : Nat)), (31, .int .i64 (i : Nat))] (by simp [h1, h2, h4, h10, h11, h30, h31]) (RW.sq (RW.rg ?_))
   by_cases hlt : i < l.length
   ·refine RL.s (MR.biB (p := (i : Int) < (l.length : Int)) rfl (decide_eq_true (by omega))) (RL.nil (RW.sq (RW.cd (b := true) rfl (fun _ => RW.sk ?_) (fun e => by cases e))))
    have hdrop : l.drop i = l[i] :: l.drop (i + 1) := List.drop_eq_getElem_cons hlt
    rw [hdrop, List.flatMap_cons, ← List.append_assoc] at hbs
    have hlen2 := congrArg List.length hbs
    simp only [UD] at hlen2 hlm
    obtain ⟨g, o, cs', rfl, hr', hrt'⟩ := hrl i _ (List.getElem?_eq_getElem hlt)
    obtain ⟨oe1, le1⟩ := hrt'.one
    refine RW.sq (RW.bl (RW.sq (RW.rg ?_)))
    repeat first | refine RL.s MR.mv ?_ | refine RL.s (MR.biE rfl) ?_ | refine RL.s (MR.b2 rfl) ?_
    refine RL.nil (RW.gd ok.mo (Below w'.heap.size w4) (JI _ _) ?_)
    have b24 : ∀ {w5 : World}, Below w'.heap.size w4 w5 → Kp w' w5 := fun hS => (hb4.trans hS).kp
    repeat first | refine RG.q (fun _ _ => MR.mv) ?_ | refine RG.q (fun _ _ => MR.biE rfl) ?_ | refine RG.q (fun _ _ => MR.pk rfl) ?_ | refine RG.no (by first | exact ⟨by decide, .inl rfl⟩ | exact ⟨by decide, .inr ⟨rfl, rfl⟩⟩) ?_
    refine RG.q (fun _ _ => MR.fa rfl (ok.fdF 6 (by omega))) (RG.q (fun w5 hS => MR.ld rfl ok.pInt (b24 hS _ _ f6')) (RG.q (fun _ _ => MR.fa rfl (ok.fdF 7 (by omega))) (RG.q (fun w5 hS => MR.ld rfl ok.pFds (b24 hS _ _ f7')) ?_)))
    repeat first | refine RG.q (fun _ _ => MR.mv) ?_ | refine RG.q (fun _ _ => MR.biE rfl) ?_ | refine RG.q (fun _ _ => MR.pk rfl) ?_ | refine RG.no (by first | exact ⟨by decide, .inl rfl⟩ | exact ⟨by decide, .inr ⟨rfl, rfl⟩⟩) ?_
    refine RG.q (fun _ _ => MR.ia (k := .i64) ok.trs ok.trN rfl rfl hlt) (RG.q (fun w5 hS => MR.ldRow (cs := cs') rfl ok.trR (by rw [le1]; exact ok.trN) (Jx hr' (hbw2.kp.trans (b24 hS)))) ?_)
    have k4 : Kp w (World.drew1 w4) := hbw2.kp.trans (hb4.kp.trans (Qy w4))
    refine RG.caB sp.value.ent (hv (World.drew1 w4) adF cF l[i] cs' fd.of ver false flex (JX.kp k4 _ hrows) (JL.kp k4 _ hrt') (hgl _ (List.getElem_mem hlt)) (by omega)) rfl (fun w5 h5 hS => hS.trans (h5.mono hb4.size)) fun sv5 w5 o5 b5 => ?_
    have b45 : Below w4.heap.size w4 w5 := (JI w4 w4.heap.size).trans b5
    refine RG.apOO (B := w'.heap.size) (bs := bs) (l := sVal fd.of (Qu ver flex fd.sub) false flex l[i]) ok.tk.u8s ok.tk.u8 rfl rfl (ho.keep b45) o5 (Nat.le_trans hb4.size b45.size) (by omega) (fun w6 h6 _ hS => hS.trans h6) fun sv6 w6 o6 b6 => ?_
    repeat first | refine RG.q (fun _ _ => MR.mv) ?_ | refine RG.q (fun _ _ => MR.biE rfl) ?_ | refine RG.q (fun _ _ => MR.pk rfl) ?_ | refine RG.no (by first | exact ⟨by decide, .inl rfl⟩ | exact ⟨by decide, .inr ⟨rfl, rfl⟩⟩) ?_
    refine RG.nil fun hS => RW.rg ?_
    repeat first | refine RL.s MR.mv ?_ | refine RL.s (MR.biE rfl) ?_ | refine RL.s (MR.b2 rfl) ?_
    refine RL.nil ⟨⟨i + 1, sv6, _, hlt, rfl, rfl, rfl, rfl, rfl, rfl, ?_, o6, hb4.trans hS, hbs⟩, ?_⟩
    ·show Value.int .i64 (IntKind.i64.wrap ((i : Int) + 1)) = _
     rw [Ju (by omega) (by omega)]; rfl
    ·show l.length - (IntKind.i64.wrap ((i : Int) + 1)).toNat < l.length - (intOf (ρ1 31)).toNat
     rw [h31, Ju (by omega) (by omega)]; simp only [intOf]; omega
   ·refine RL.s (MR.biB (p := (i : Int) < (l.length : Int)) rfl (decide_eq_false (by omega))) (RL.nil (RW.sq (RW.cd (b := false) rfl (fun e => by cases e) (fun _ => RW.ex ?_))))
    refine RW.sq (RW.rg ?_)
    repeat first | refine RL.s MR.mv ?_ | refine RL.s (MR.biE rfl) ?_ | refine RL.s (MR.b2 rfl) ?_
    refine RL.nil (RW.rt ⟨sv, rfl, ?_, hbw2.trans (hb4.mono hB2)⟩)
    have : l.drop i = [] := List.drop_eq_nil_of_le (by omega)
    rw [this, List.flatMap_nil, List.append_nil] at hbs
    rw [← hbs]; exact ho.rebase hB2
  have hall : ∀ e ∈ t.l.take most, Qb SU e := fun e he => hgood.mem (List.mem_of_mem_take he)
  cases hnul : JR fd.nul ver t.null
  ·rw [hnul] at hlim
   refine RL.nil (RW.cd (b := false) rfl (fun e => by cases e) (fun _ => RW.sk ?_))
   exact fin (t.l.take most) adL cL false _ _ hnul.symm rfl (List.length_take_le _ _) hall (fun i e he => hL i e (getElem?_take_some he)) (by show Value.slice adL (min t.l.length most) cL = _; rw [List.length_take, Nat.min_comm]) rfl rfl rfl rfl hlim
  ·rw [hnul] at hlim
   refine RL.nil (RW.cd (b := true) rfl (fun _ => RW.rg (RL.s MR.mv (RL.nil ?_))) (fun e => by cases e))
   exact fin [] none 0 true _ _ hnul.symm rfl (by simp) (by simp) (fun i e he => by simp at he) rfl rfl rfl rfl rfl hlim
 ·-- a part that may be null, or a plain value
  have hpart : fd.kind = 10 ∧ 0 ≤ fd.nul → JU ver flex fd t = if JR fd.nul ver t.null then fix (-1) 1 else fix 1 1 ++ Qu ver flex fd.sub t := fun h => sField_part h.1 h.2
  have hplain : ¬ (fd.kind = 10 ∧ 0 ≤ fd.nul) → JU ver flex fd t = sVal fd.kind (Qu ver flex fd.sub) (JR fd.nul ver t.null) flex t := fun h => sField_plain k11 h
  have valArm : ∀ (ρ : Nat → Value), ¬ (fd.kind = 10 ∧ 0 ≤ fd.nul) → ρ 4 = .pointer (some ⟨w.heap.size, 0, none⟩) → ρ 7 = .pointer (some ⟨w0.heap.size, 0, none⟩) → ρ 9 = .bool (JR fd.nul ver t.null) → ρ 1 = .int .i64 ver → ρ 2 = .bool flex →
    RW P 76 (.sq (.rg [.fa 67 S.fd 4 0, .ld 68 S.T.int 67, .fa 69 S.fd 4 7, .ld 70 S.fds 69, .mv 71 (.t 9), .mv 72 (.t 1), .mv 73 (.t 2), .ld 74 S.tr 7, .ca 75 S.fValue [.t 68, .t 70, .t 71, .t 72, .t 73, .t 74], .mv 8 (.t 75)]) .rt)
     (retQ 8 fun e w'' => ∃ sv, e = .returned sv ∧ OwnB S.T.u8 w'' w.heap.size sv (JU ver flex fd t) ∧ Below w.heap.size w w'') ρ w2 := by
   intro ρ hne h4 h7 h9 h1 h2
   rw [hplain hne] at hlim ⊢
   refine RW.knows [(4, .pointer (some ⟨w.heap.size, 0, none⟩)), (7, .pointer (some ⟨w0.heap.size, 0, none⟩)), (9, .bool (JR fd.nul ver t.null)), (1, .int .i64 ver), (2, .bool flex)] (by simp [h4, h7, h9, h1, h2]) (RW.sq (RW.rg ?_))
   refine RL.s (MR.fa rfl (ok.fdF 0 (by omega))) (RL.s (MR.ld rfl ok.pInt f0') (RL.s (MR.fa rfl (ok.fdF 7 (by omega))) (RL.s (MR.ld rfl ok.pFds f7') ?_)))
   repeat first | refine RL.s MR.mv ?_ | refine RL.s (MR.biE rfl) ?_ | refine RL.s (MR.b2 rfl) ?_
   refine RL.s (MR.ldRow (cs := ct) rfl ok.trR (by rw [tl1]; exact ok.trN) r7') ?_
   refine RL.caB sp.value.ent (hv w2 adF cF t ct fd.kind ver (JR fd.nul ver t.null) flex hrows2 hrep2 hgood hlim) rfl fun sv w3 o b => ?_
   repeat first | refine RL.s MR.mv ?_ | refine RL.s (MR.biE rfl) ?_ | refine RL.s (MR.b2 rfl) ?_
   exact RL.nil (RW.rt ⟨sv, rfl, o.rebase hB2, hbw2.trans (b.mono hB2)⟩)
  refine RW.sq (RW.sq (RW.gf (Kp w2) (Kp.refl _) ?_))
  refine RG.q (fun _ _ => MR.fa rfl (ok.fdF 0 (by omega))) (RG.q (fun w' hS => MR.ld rfl ok.pInt (hS _ _ f0')) ?_)
  by_cases k10 : fd.kind = 10
  ·refine RG.q (fun _ _ => MR.biE (v := .bool true) (by show some (Value.bool (fd.kind == 10)) = _; rw [k10]; rfl)) (RG.q (fun _ _ => MR.mv) ?_)
   refine RG.q (fun _ _ => MR.fa rfl (ok.fdF 3 (by omega))) (RG.q (fun w' hS => MR.ld rfl ok.pInt (hS _ _ f3')) ?_)
   by_cases hn0 : 0 ≤ fd.nul
   ·refine RG.q (fun _ _ => MR.biB (p := 0 ≤ fd.nul) rfl (decide_eq_true hn0)) ?_
    repeat first | refine RG.q (fun _ _ => MR.mv) ?_ | refine RG.q (fun _ _ => MR.biE rfl) ?_ | refine RG.q (fun _ _ => MR.pk rfl) ?_ | refine RG.no (by first | exact ⟨by decide, .inl rfl⟩ | exact ⟨by decide, .inr ⟨rfl, rfl⟩⟩) ?_
    refine RG.nil fun _ => RW.cd (b := true) rfl (fun _ => ?_) (fun e => by cases e)
    rw [hpart ⟨k10, hn0⟩] at hlim ⊢
    refine RW.sq (RW.sq (RW.rg ?_))
    repeat first | refine RL.s MR.mv ?_ | refine RL.s (MR.biE rfl) ?_ | refine RL.s (MR.b2 rfl) ?_
    cases hnul : JR fd.nul ver t.null
    ·rw [hnul] at hlim
     simp only [UB, if_false, UD] at hlim ⊢
     refine RL.nil (RW.cd (b := false) rfl (fun e => by cases e) (fun _ => RW.sk ?_))
     refine RW.sq (RW.gd ok.mo (Below w2.heap.size w2) (JI _ _) ?_)
     refine RG.q (fun _ _ => MR.fa rfl (ok.fdF 7 (by omega))) (RG.q (fun w' hS => MR.ld rfl ok.pFds (hS.kp _ _ f7')) ?_)
     repeat first | refine RG.q (fun _ _ => MR.mv) ?_ | refine RG.q (fun _ _ => MR.biE rfl) ?_ | refine RG.q (fun _ _ => MR.pk rfl) ?_ | refine RG.no (by first | exact ⟨by decide, .inl rfl⟩ | exact ⟨by decide, .inr ⟨rfl, rfl⟩⟩) ?_
     refine RG.q (fun w' hS => MR.ldRow (cs := ct) rfl ok.trR (by rw [tl1]; exact ok.trN) (Jx r7' hS.kp)) ?_
     refine RG.caB sp.fixed.1 (sp.fixed.2 (World.drew1 w2) 1 1 (by omega)) rfl (fun w5 h5 hS => hS.trans h5) fun sv5 w5 o5 b5 => ?_
     have b25 : Below w2.heap.size w2 w5 := (JI w2 _).trans b5
     refine RG.caB sp.part.ent (hp w5 adF cF t ct ver flex (JX.kp b25.kp _ hrows2) (JL.kp b25.kp _ hrep2) hgood (by omega)) rfl (fun w6 h6 hS => hS.trans (h6.mono b25.size)) fun sv6 w6 o6 b6 => ?_
     refine RG.apOO (B := w2.heap.size) (bs := fix 1 1) (l := Qu ver flex fd.sub t) ok.tk.u8s ok.tk.u8 rfl rfl (o5.keep b6) o6 (Nat.le_trans b25.size b6.size) hlim (fun w7 h7 _ hS => hS.trans h7) fun sv7 w7 o7 b7 => ?_
     repeat first | refine RG.q (fun _ _ => MR.mv) ?_ | refine RG.q (fun _ _ => MR.biE rfl) ?_ | refine RG.q (fun _ _ => MR.pk rfl) ?_ | refine RG.no (by first | exact ⟨by decide, .inl rfl⟩ | exact ⟨by decide, .inr ⟨rfl, rfl⟩⟩) ?_
     exact RG.nil fun hS => RW.rt ⟨sv7, rfl, o7.rebase hB2, hbw2.trans (hS.mono hB2)⟩
    ·simp only [if_true]
     refine RL.nil (RW.cd (b := true) rfl (fun _ => RW.sq (RW.rg ?_)) (fun e => by cases e))
     refine RL.caB sp.fixed.1 (sp.fixed.2 w2 (-1) 1 (by omega)) rfl fun sv w3 o b => ?_
     repeat first | refine RL.s MR.mv ?_ | refine RL.s (MR.biE rfl) ?_ | refine RL.s (MR.b2 rfl) ?_
     exact RL.nil (RW.rt ⟨sv, rfl, o.rebase hB2, hbw2.trans (b.mono hB2)⟩)
   ·refine RG.q (fun _ _ => MR.biB (p := 0 ≤ fd.nul) rfl (decide_eq_false hn0)) ?_
    repeat first | refine RG.q (fun _ _ => MR.mv) ?_ | refine RG.q (fun _ _ => MR.biE rfl) ?_ | refine RG.q (fun _ _ => MR.pk rfl) ?_ | refine RG.no (by first | exact ⟨by decide, .inl rfl⟩ | exact ⟨by decide, .inr ⟨rfl, rfl⟩⟩) ?_
    exact RG.nil fun _ => RW.cd (b := false) rfl (fun e => by cases e) (fun _ => RW.sk (valArm _ (fun h => hn0 h.2) rfl rfl rfl rfl rfl))
  ·refine RG.q (fun _ _ => MR.biE (v := .bool false) (by show some (Value.bool (fd.kind == 10)) = _; rw [beq_eq_false_iff_ne.2 k10])) (RG.q (fun _ _ => MR.mv) ?_)
   repeat first | refine RG.q (fun _ _ => MR.mv) ?_ | refine RG.q (fun _ _ => MR.biE rfl) ?_ | refine RG.q (fun _ _ => MR.pk rfl) ?_ | refine RG.no (by first | exact ⟨by decide, .inl rfl⟩ | exact ⟨by decide, .inr ⟨rfl, rfl⟩⟩) ?_
   exact RG.nil fun _ => RW.cd (b := false) rfl (fun e => by cases e) (fun _ => RW.sk (valArm _ (fun h => k10 h.1) rfl rfl rfl rfl rfl))
end
end Go.Kx
