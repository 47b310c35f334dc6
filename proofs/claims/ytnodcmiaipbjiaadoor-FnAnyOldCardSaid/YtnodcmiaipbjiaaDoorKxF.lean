/- The small machine: its tables, the operations that only read. Conditions: the program's tables (tkB).
   The small machine: its reading operations are the program's. Conditions: the program's tables (TKK).
   The small machine: operations that make and write. Conditions: the program's tables (TKK); fewer than 2^40 octets.
   The small machine: what makes and writes is the program's. Conditions: the program's tables (TKK).
   The small machine whole: code, calls; what it reckons is what the program does. Conditions: the program's tables (TKK), its functions' codes (feB), mixed orders allowed. -/
import Derived.Test.YtnodcmiaipbjiaaDoorKxE
import Derived.Deep.LoopGhost
namespace Go.Kx
open Go.RowKit
set_option linter.unusedSimpArgs false
set_option linter.unusedVariables false
structure TK where
  u8 : Nat
  u8s : Nat
  str : Nat
  iface : Nat
  rows : List (Nat × List MVal × List (Nat × Nat))
  plain : List Nat
  ints : List (Nat × IntKind)
  sls : List (Nat × Nat × Nat)
def look {α : Type} : List (Nat × α) → Nat → Option α
  | [], _ => none
  | p :: r, i => bif Nat.beq p.1 i then some p.2 else look r i
theorem look_mem {α : Type} : ∀ {l : List (Nat × α)} {i : Nat} {a : α}, look l i = some a → (i, a) ∈ l
  | [], i, a, h => by simp [look] at h
  | (k, b) :: r, i, a, h => by
    simp only [look] at h
    cases hb : Nat.beq k i
    · rw [hb] at h; exact List.mem_cons_of_mem _ (look_mem h)
    · rw [hb] at h
      simp only [cond_true, Option.some.injEq] at h
      rw [Nat.beq_eq] at hb
      subst hb h
      exact List.mem_cons_self
def memN : List Nat → Nat → Bool
  | [], _ => false
  | k :: r, i => Nat.beq k i || memN r i
theorem memN_mem : ∀ {l : List Nat} {i : Nat}, memN l i = true → i ∈ l
  | [], i, h => by simp [memN] at h
  | k :: r, i, h => by
    simp only [memN, Bool.or_eq_true, Nat.beq_eq] at h
    rcases h with rfl | h
    · exact List.mem_cons_self
    · exact List.mem_cons_of_mem _ (memN_mem h)
def samePl : List (Nat × Nat) → List (Nat × Nat) → Bool
  | [], [] => true
  | a :: l, b :: r => Nat.beq a.1 b.1 && Nat.beq a.2 b.2 && samePl l r
  | _, _ => false
theorem samePl_eq : ∀ {l r : List (Nat × Nat)}, samePl l r = true → l = r
  | [], [], _ => rfl
  | (a, b) :: l, (c, d) :: r, h => by
    simp only [samePl, Bool.and_eq_true, Nat.beq_eq] at h
    obtain ⟨⟨rfl, rfl⟩, h3⟩ := h
    rw [samePl_eq h3]
  | [], _ :: _, h => by simp [samePl] at h
  | _ :: _, [], h => by simp [samePl] at h
def placesB (P : Program) (T : Nat) (ps : List (Nat × Nat)) : Bool :=
  match P.underlying T with
  | some (.struct fields) => (match fields.toList.mapM (fun f => (P.info? f.type).map fun i => (f.offset, i.size)) with | some q => samePl ps q | none => false)
  | _ => false
def fieldsB (P : Program) (T : Nat) : Nat → List (Nat × Nat) → Bool
  | _, [] => true
  | i, p :: r => (Nat.beq p.2 0 || fieldAtB P T i p.1) && fieldsB P T (i + 1) r
theorem fieldsB_at {P : Program} {T : Nat} : ∀ {ps : List (Nat × Nat)} {i f : Nat} {p : Nat × Nat}, fieldsB P T i ps = true → ps[f]? = some p → Nat.beq p.2 0 = false → fieldAtB P T (i + f) p.1 = true
  | [], i, f, p, _, h, _ => by simp at h
  | q :: r, i, 0, p, hb, h, h0 => by
    simp only [List.getElem?_cons_zero, Option.some.injEq] at h
    subst h
    simp only [fieldsB, Bool.and_eq_true, Bool.or_eq_true, h0, Bool.false_eq_true, false_or] at hb
    exact hb.1
  | q :: r, i, f + 1, p, hb, h, h0 => by
    simp only [fieldsB, Bool.and_eq_true] at hb
    rw [show i + (f + 1) = i + 1 + f from by omega]
    exact fieldsB_at hb.2 (by simpa using h) h0
def tkB (P : Program) (K : TK) : Bool :=
  u8Ty P K.u8 && sliceOf P K.u8s K.u8 && cellsB P K.u8 1 && plainTy P K.u8 && strTy P K.str && ifaceTy P K.iface && intTy P K.u8 .u8 &&
  K.rows.all (fun r => rowTy P r.1 && cellsB P r.1 r.2.1.length && zeroIs P r.1 r.2.1 && placesB P r.1 r.2.2 && fieldsB P r.1 0 r.2.2) &&
  K.plain.all (fun t => plainTy P t && cellsB P t 1) && K.ints.all (fun t => intTy P t.1 t.2) && K.sls.all (fun t => sliceOf P t.1 t.2.1 && cellsB P t.2.1 t.2.2)
structure TKK (P : Program) (K : TK) : Prop where
  u8 : u8Ty P K.u8 = true
  u8s : sliceOf P K.u8s K.u8 = true
  cu : cellsB P K.u8 1 = true
  pu : plainTy P K.u8 = true
  str : strTy P K.str = true
  ifc : ifaceTy P K.iface = true
  iu : intTy P K.u8 .u8 = true
  rows : ∀ {T : Nat} {z : List MVal} {ps : List (Nat × Nat)}, look K.rows T = some (z, ps) → rowTy P T = true ∧ cellsB P T z.length = true ∧ zeroAgg P T (z.map MVal.val) ∧ placesB P T ps = true ∧ fieldsB P T 0 ps = true
  plain : ∀ {T : Nat}, memN K.plain T = true → plainTy P T = true ∧ cellsB P T 1 = true
  ints : ∀ {T : Nat} {k : IntKind}, look K.ints T = some k → intTy P T k = true
  sls : ∀ {T : Nat} {e : Nat × Nat}, look K.sls T = some e → sliceOf P T e.1 = true ∧ cellsB P e.1 e.2 = true
theorem tkB_ok {P : Program} {K : TK} (h : tkB P K = true) : TKK P K := by
  simp only [tkB, Bool.and_eq_true, List.all_eq_true] at h
  obtain ⟨⟨⟨⟨⟨⟨⟨⟨⟨⟨h1, h2⟩, h3⟩, h4⟩, h5⟩, h6⟩, h7⟩, h8⟩, h9⟩, h10⟩, h11⟩ := h
  refine ⟨h1, h2, h3, h4, h5, h6, h7, fun hl => ?_, fun hl => h9 _ (memN_mem hl), fun hl => h10 _ (look_mem hl), fun hl => h11 _ (look_mem hl)⟩
  obtain ⟨⟨⟨⟨g1, g2⟩, g3⟩, g4⟩, g5⟩ := h8 _ (look_mem hl)
  exact ⟨g1, g2, zeroIs_of g3, g4, g5⟩
def ofV : Value → Option MVal
  | .int k n => some (.int k n)
  | .bool b => some (.bool b)
  | _ => none
theorem ofV_val {v : Value} {m : MVal} (h : ofV v = some m) : v = m.val := by
  cases v <;> simp only [ofV, Option.some.injEq, reduceCtorEq] at h <;> subst h <;> rfl
def evM (op : BinOp) : AV → AV → Option AV
  | .f (.m a), .f (.m b) => ((evB op a.val b.val).bind ofV).map fun v => .f (.m v)
  | _, _ => none
def TK.isSl (K : TK) (T : Nat) : Bool := Nat.beq T K.u8s || (look K.sls T).isSome
theorem TKK.isSl {P : Program} {K : TK} (ok : TKK P K) {T : Nat} (h : K.isSl T = true) : ∃ e sz, sliceOf P T e = true ∧ cellsB P e sz = true := by
  simp only [TK.isSl, Bool.or_eq_true, Nat.beq_eq, Option.isSome_iff_exists] at h
  rcases h with rfl | ⟨e, he⟩
  · exact ⟨_, _, ok.u8s, ok.cu⟩
  · exact ⟨_, _, ok.sls he⟩
def biV (K : TK) (s : St) (op : BinOp) (ty : Nat) (x : MX) : MX → Option AV
  | .c .nslice => (match op, x with
    | .eql, .t t => if K.isSl ty then (match s.slot t with | .f (.m .nslice) => some (.f (.m (.bool true))) | .f (.own _ _) => some (.f (.m (.bool false))) | .f (.sl _ _ _) => some (.f (.m (.bool false))) | .f .es => some (.f (.m (.bool false))) | _ => none) else none
    | _, _ => none)
  | .c .niface => (match op, x with
    | .neq, .t t => if Nat.beq ty K.iface then (match s.slot t with | .f (.m .niface) => some (.f (.m (.bool false))) | _ => none) else none
    | _, _ => none)
  | y => evM op (s.x x) (s.x y)
def lenV (K : TK) (ty : Nat) : AV → Option Nat
  | .f (.m .nslice) => if K.isSl ty then some 0 else none
  | .f .es => if K.isSl ty then some 0 else none
  | .f (.own _ n) => if K.isSl ty then some n else none
  | .f (.sl _ _ n) => if K.isSl ty then some n else none
  | .f (.m .estr) => if Nat.beq ty K.str then some 0 else none
  | _ => none
def natX : AV → Option Nat
  | .f (.m (.int .i64 (.ofNat n))) => some n
  | _ => none
def zeroX : AV → Bool
  | .f (.m (.int _ (.ofNat n))) => Nat.beq n 0
  | _ => false
def fromV (K : TK) (T l : Nat) : AV → Option AV
  | .f (.own b n) => if Nat.beq T K.u8s then (if Nat.blt l n then some (.f (.sl b l (n - l))) else if Nat.beq l n then some (.f .es) else none) else none
  | .f (.sl b o n) => if Nat.beq T K.u8s then (if Nat.blt l n then some (.f (.sl b (o + l) (n - l))) else if Nat.beq l n then some (.f .es) else none) else none
  | .f .es => if Nat.beq T K.u8s && Nat.beq l 0 then some (.f .es) else none
  | _ => none
def toV (K : TK) (T l : Nat) : AV → Option AV
  | .f (.own b n) => if Nat.beq T K.u8s && Nat.ble l n then (if Nat.beq l 0 then some (.f .es) else some (.f (.sl b 0 l))) else none
  | .f (.sl b o n) => if Nat.beq T K.u8s && Nat.ble l n then (if Nat.beq l 0 then some (.f .es) else some (.f (.sl b o l))) else none
  | .f .es => if Nat.beq T K.u8s && Nat.beq l 0 then some (.f .es) else none
  | _ => none
def slV (K : TK) (s : St) (T : Nat) (x : AV) (lo hi mx : Option MX) : Option AV :=
  match lo, hi, mx with
  | some l, none, none => (natX (s.x l)).bind fun l => fromV K T l x
  | none, some h, some m => (natX (s.x h)).bind fun h => (natX (s.x m)).bind fun m => if Nat.beq h m then toV K T h x else none
  | none, some h, none => (match x with | .f (.m .nslice) => if K.isSl T && zeroX (s.x h) then some (.f (.m .nslice)) else none | _ => none)
  | _, _, _ => none
def atV (K : TK) (T : Nat) (x : AV) (j : Nat) : Option AV :=
  if Nat.beq T K.u8s then (match x with
    | .f (.own b n) => if Nat.blt j n then some (.f (.ptr b (0 + j))) else none
    | .f (.sl b o n) => if Nat.blt j n then some (.f (.ptr b (o + j))) else none
    | _ => none) else none
def ldV (K : TK) (ty o : Nat) : Blk → Option AV
  | .var cs => (match look K.rows ty with
    | some (z, _) => if Nat.beq ((cs.drop o).take z.length).length z.length then some (.g ((cs.drop o).take z.length)) else none
    | none => if memN K.plain ty then cs[o]?.map .f else none)
  | .row bs => if Nat.beq ty K.u8 then (match bs[o]? with | some b => if Nat.blt b 256 then some (.f (.m (.int .u8 (Int.ofNat b)))) else none | none => none) else none
def cvV (K : TK) (src dst : Nat) : AV → Option AV
  | .f (.m (.int _ n)) => (match look K.ints src, look K.ints dst with | some _, some k => some (.f (.m (.int k (k.wrap n)))) | _, _ => none)
  | .f .es => if Nat.beq src K.u8s && Nat.beq dst K.str then some (.f (.m .estr)) else none
  | .f (.m .nslice) => if Nat.beq src K.u8s && Nat.beq dst K.str then some (.f (.m .estr)) else none
  | _ => none
def evQ (K : TK) (kp : Nat → Bool) (s : St) : MOp → Option (Nat × AV)
  | .mv d x => some (d, s.x x)
  | .nc d t => (match s.slot t with | .f (.ptr b o) => some (d, .f (.ptr b o)) | _ => none)
  | .fa d T t f => (match s.slot t with
    | .f (.ptr b o) => (match look K.rows T with
      | some (_, ps) => (match ps[f]? with | some p => bif Nat.beq p.2 0 then none else some (d, .f (.ptr b (o + p.1))) | none => none)
      | none => none)
    | _ => none)
  | .ld d ty t => (match s.slot t with
    | .f (.ptr b o) => if kp b then (match s.blk b with | some k => (ldV K ty o k).map fun v => (d, v) | none => none) else none
    | _ => none)
  | .bi d op ty x y => (biV K s op ty x y).map fun v => (d, v)
  | .b2 d op x y => (evM op (s.x x) (s.x y)).map fun v => (d, v)
  | .nt d t => (match s.slot t with | .f (.m (.bool b)) => some (d, .f (.m (.bool !b))) | _ => none)
  | .ng d t => (match s.slot t with | .f (.m (.int k n)) => some (d, .f (.m (.int k (k.wrap (-n))))) | _ => none)
  | .cv d src dst t => (cvV K src dst (s.slot t)).map fun v => (d, v)
  | .ln d ty t => (lenV K ty (s.slot t)).map fun (n : Nat) => (d, .f (.m (.int .i64 (Int.ofNat n))))
  | .cpl d ty t => (match s.slot t with | .f (.m .nslice) => if K.isSl ty then some (d, .f (.m (.int .i64 (Int.ofNat 0)))) else none | _ => none)
  | .ia d T x i => (natX (s.slot i)).bind fun j => (atV K T (s.slot x) j).map fun v => (d, v)
  | .iak d T x i => (atV K T (s.slot x) i).map fun v => (d, v)
  | .sl d T x lo hi mx => (slV K s T (s.slot x) lo hi mx).map fun v => (d, v)
  | .pk d c x y => (match s.x c with | .f (.m (.bool b)) => some (d, bif b then s.x x else s.x y) | _ => none)
  | .ext d t i => (match s.slot t, i with | .t2 x _, 0 => some (d, .f x) | .t2 _ y, 1 => some (d, .f y) | .tg l _, 0 => some (d, .g l) | .tg _ y, 1 => some (d, .f y) | _, _ => none)
  | .lg d ty _ => (match look K.rows ty with | some ([], _) => some (d, .g []) | _ => none)
  | _ => none
def optIn (N : Nat) : Option MX → Bool
  | some x => x.lt N
  | none => true
def MOp.inN (N : Nat) : MOp → Bool
  | .mv d x => Nat.blt d N && x.lt N
  | .nc d t | .nt d t | .ng d t | .ext d t _ | .ln d _ t | .cpl d _ t | .ld d _ t | .cv d _ _ t | .fa d _ t _ | .iak d _ t _ | .bx d _ t | .apk d _ _ t => Nat.blt d N && Nat.blt t N
  | .bi d _ _ x y | .b2 d _ x y => Nat.blt d N && x.lt N && y.lt N
  | .ia d _ x i => Nat.blt d N && Nat.blt x N && Nat.blt i N
  | .ap d _ _ x i => Nat.blt d N && Nat.blt x N && Nat.blt i N
  | .sl d _ x lo hi mx => Nat.blt d N && Nat.blt x N && optIn N lo && optIn N hi && optIn N mx
  | .pk d c x y => Nat.blt d N && c.lt N && x.lt N && y.lt N
  | .lg d _ _ | .al d _ => Nat.blt d N
  | .bdl d _ ps => Nat.blt d N && ps.all fun p => p.2.lt N
  | .bsl d _ xs | .ca d _ xs => Nat.blt d N && xs.all fun x => x.lt N
  | .st _ p x => Nat.blt p N && Nat.blt x N
  | .stc _ p _ => Nat.blt p N
  | _ => false
section
variable {P : Program} {K : TK} {N U B n : Nat} {μ : Nat → Nat × Nat} {ρ : Nat → Value} {w w' : World} {s : St} {d : Nat}
theorem RelS.slot (h : RelS n μ s.sl ρ) (i : Nat) : RelA n μ (s.slot i) (ρ i) := h i
theorem RelS.x (h : RelS n μ s.sl ρ) (y : MX) : RelA n μ (s.x y) (xof ρ y) := by
  cases y
  · exact h _
  · rfl
theorem natX_eq {a : AV} {v : Value} {k : Nat} (h : natX a = some k) (ha : RelA n μ a v) : v = .int .i64 (k : Nat) := by
  unfold natX at h
  split at h
  · simp only [Option.some.injEq] at h
    subst h
    exact ha
  · cases h
theorem run_fromG {T U n c l g o : Nat} (hT : sliceOf P T U = true) (hU : cellsB P U 1 = true) (h1 : l ≤ n) (h2 : n ≤ c) :
    (Instr.sliceAt T (.slice (some ⟨g, o, none⟩) n c) (some (.int .i64 (l : Nat))) none none).run P w = .ok (.slice (some ⟨g, if c = l then o else o + l, none⟩) (n - l) (c - l)) w := by
  have hn' := cellsB_map hU
  cases hie : P.info? U with
  | none => simp [hie] at hn'
  | some ie =>
    simp only [hie, Option.map_some, Option.some.injEq] at hn'
    simp only [Instr.sliceAt, Sem.run_bind, run_underlying (sliceOf_eq hT), Result.andThen_ok, Instr.slice, Instr.sliceBounds, Instr.sliceBound, asIntOf, Sem.run_pure, sizeOf, typeInfo, run_program, hie, hn']
    rw [if_pos ⟨by omega, by omega⟩]
    simp only [Sem.run_pure, Result.andThen_ok, Int.toNat_natCast]
    by_cases e : c = l
    · rw [if_pos e, if_pos e]
    · rw [if_neg e, if_neg e]; simp [Addr.add_mid]
theorem run_toNil {T U sz : Nat} {k : IntKind} (hT : sliceOf P T U = true) (hU : cellsB P U sz = true) :
    (Instr.sliceAt T (.slice none 0 0) none (some (.int k 0)) none).run P w = .ok (.slice none 0 0) w := by
  have hn' := cellsB_map hU
  cases hie : P.info? U with
  | none => simp [hie] at hn'
  | some ie =>
    simp only [hie, Option.map_some, Option.some.injEq] at hn'
    simp [Instr.sliceAt, Sem.run_bind, run_underlying (sliceOf_eq hT), Instr.slice, Instr.sliceBounds, Instr.sliceBound, asIntOf, sizeOf, typeInfo, run_program, hie, hn']
theorem from_part (ok : TKK P K) {T l b o m c : Nat} {y : AV} (hb : b < n) (hc : m ≤ c)
    (h : (if Nat.beq T K.u8s then (if Nat.blt l m then some (AV.f (.sl b (o + l) (m - l))) else if Nat.beq l m then some (.f .es) else none) else none) = some y) :
    ∃ u, RelA n μ y u ∧ ∀ w : World, (Instr.sliceAt T (.slice (some ⟨(μ b).1, o, none⟩) m c) (some (.int .i64 (l : Nat))) none none).run P w = .ok u w := by
  split at h <;> try (cases h; done)
  rename_i hT
  rw [Nat.beq_eq] at hT
  subst hT
  split at h
  · rename_i hl
    rw [Nat.blt_eq] at hl
    simp only [Option.some.injEq] at h
    subst h
    refine ⟨_, ⟨hb, c - l, by omega, rfl⟩, fun w => ?_⟩
    rw [run_fromG ok.u8s ok.cu (by omega) hc, if_neg (by omega)]
  · split at h <;> try (cases h; done)
    rename_i hl
    rw [Nat.beq_eq] at hl
    simp only [Option.some.injEq] at h
    subst h hl
    refine ⟨.slice (some ⟨(μ b).1, if c = l then o else o + l, none⟩) 0 (c - l), ⟨_, _, _, rfl⟩, fun w => ?_⟩
    rw [run_fromG ok.u8s ok.cu (Nat.le_refl _) hc, Nat.sub_self]
theorem fromV_ok (ok : TKK P K) {T l : Nat} {a y : AV} {v : Value} (h : fromV K T l a = some y) (ha : RelA n μ a v) :
    ∃ u, RelA n μ y u ∧ ∀ w : World, (Instr.sliceAt T v (some (.int .i64 (l : Nat))) none none).run P w = .ok u w := by
  unfold fromV at h
  split at h
  · obtain ⟨hb, rfl, hc⟩ := ha
    exact from_part ok (o := 0) hb hc (by simpa using h)
  · obtain ⟨hb, c, hc, rfl⟩ := ha
    exact from_part ok hb hc h
  · obtain ⟨g, o, c, rfl⟩ := ha
    split at h <;> try (cases h; done)
    rename_i hT
    simp only [Bool.and_eq_true, Nat.beq_eq] at hT
    obtain ⟨rfl, rfl⟩ := hT
    simp only [Option.some.injEq] at h
    subst h
    refine ⟨.slice (some ⟨g, if c = 0 then o else o + 0, none⟩) 0 c, ⟨_, _, _, rfl⟩, fun w => ?_⟩
    rw [run_fromG ok.u8s ok.cu (Nat.le_refl _) (Nat.zero_le _)]
    simp
  · cases h
theorem to_part (ok : TKK P K) {T l b o m c : Nat} {y : AV} (hb : b < n) (hc : m ≤ c)
    (h : (if Nat.beq T K.u8s && Nat.ble l m then (if Nat.beq l 0 then some (AV.f .es) else some (.f (.sl b o l))) else none) = some y) :
    ∃ u, RelA n μ y u ∧ ∀ w : World, (Instr.sliceAt T (.slice (some ⟨(μ b).1, o, none⟩) m c) none (some (.int .i64 (l : Nat))) (some (.int .i64 (l : Nat)))).run P w = .ok u w := by
  split at h <;> try (cases h; done)
  rename_i hT
  simp only [Bool.and_eq_true, Nat.beq_eq, Nat.ble_eq] at hT
  obtain ⟨rfl, hl⟩ := hT
  refine ⟨.slice (some ⟨(μ b).1, o, none⟩) l l, ?_, fun w => run_slice3 ok.u8s ok.cu (.inr ⟨_, _, rfl⟩) (by omega)⟩
  split at h
  · rename_i h0
    rw [Nat.beq_eq] at h0
    simp only [Option.some.injEq] at h
    subst h h0
    exact ⟨_, _, _, rfl⟩
  · simp only [Option.some.injEq] at h
    subst h
    exact ⟨hb, l, Nat.le_refl _, rfl⟩
theorem toV_ok (ok : TKK P K) {T l : Nat} {a y : AV} {v : Value} (h : toV K T l a = some y) (ha : RelA n μ a v) :
    ∃ u, RelA n μ y u ∧ ∀ w : World, (Instr.sliceAt T v none (some (.int .i64 (l : Nat))) (some (.int .i64 (l : Nat)))).run P w = .ok u w := by
  unfold toV at h
  split at h
  · obtain ⟨hb, rfl, hc⟩ := ha
    exact to_part ok hb hc h
  · obtain ⟨hb, c, hc, rfl⟩ := ha
    exact to_part ok hb hc h
  · obtain ⟨g, o, c, rfl⟩ := ha
    split at h <;> try (cases h; done)
    rename_i hT
    simp only [Bool.and_eq_true, Nat.beq_eq] at hT
    obtain ⟨rfl, rfl⟩ := hT
    simp only [Option.some.injEq] at h
    subst h
    exact ⟨_, ⟨g, o, 0, rfl⟩, fun w => run_slice3 ok.u8s ok.cu (.inr ⟨_, _, rfl⟩) (by omega)⟩
  · cases h
theorem slV_ok (ok : TKK P K) {T : Nat} {a y : AV} {v : Value} {lo hi mx : Option MX} (hs : RelS n μ s.sl ρ) (h : slV K s T a lo hi mx = some y) (ha : RelA n μ a v) :
    ∃ u, RelA n μ y u ∧ ∀ w : World, (Instr.sliceAt T v (lo.map (xof ρ)) (hi.map (xof ρ)) (mx.map (xof ρ))).run P w = .ok u w := by
  unfold slV at h
  split at h
  · rename_i l
    simp only [Option.bind_eq_some_iff] at h
    obtain ⟨k, h1, h2⟩ := h
    simp only [Option.map_some, Option.map_none, natX_eq h1 (hs.x l)]
    exact fromV_ok ok h2 ha
  · rename_i l m
    simp only [Option.bind_eq_some_iff] at h
    obtain ⟨k, h1, k2, h2, h3⟩ := h
    split at h3 <;> try (cases h3; done)
    rename_i e
    rw [Nat.beq_eq] at e
    subst e
    simp only [Option.map_some, Option.map_none, natX_eq h1 (hs.x l), natX_eq h2 (hs.x m)]
    exact toV_ok ok h3 ha
  · rename_i l
    split at h <;> try (cases h; done)
    split at h <;> try (cases h; done)
    rename_i e
    simp only [Bool.and_eq_true] at e
    obtain ⟨e1, e0⟩ := e
    simp only [Option.some.injEq] at h
    subst h
    have hz : ∃ k, xof ρ l = .int k 0 := by
      have hr := hs.x l
      unfold zeroX at e0
      split at e0 <;> try (cases e0; done)
      rename_i k q eq
      rw [Nat.beq_eq] at e0
      subst e0
      rw [eq] at hr
      exact ⟨_, hr⟩
    obtain ⟨k, hz⟩ := hz
    simp only [Option.map_some, Option.map_none, hz]
    obtain ⟨e, sz, g1, g2⟩ := ok.isSl e1
    have : v = .slice none 0 0 := ha
    subst this
    exact ⟨_, rfl, fun w => run_toNil g1 g2⟩
  · cases h
theorem evM_ok {op : BinOp} {a b y : AV} {u v : Value} (h : evM op a b = some y) (ha : RelA n μ a u) (hb : RelA n μ b v) : ∃ m : MVal, y = .f (.m m) ∧ evB op u v = some m.val := by
  unfold evM at h
  split at h
  · simp only [Option.map_eq_some_iff, Option.bind_eq_some_iff] at h
    obtain ⟨m, ⟨r, h1, h2⟩, rfl⟩ := h
    have e1 : u = _ := ha
    have e2 : v = _ := hb
    subst e1 e2
    exact ⟨m, rfl, by rw [h1, ofV_val h2]⟩
  · cases h
theorem lenV_ok (ok : TKK P K) {ty k : Nat} {a : AV} (h : lenV K ty a = some k) {t : Nat} (ha : RelA n μ a (ρ t)) (ht : t < N) (w : World) : MR P N (.ln d ty t) ρ w d (.int .i64 (k : Nat)) w := by
  unfold lenV at h
  split at h
  all_goals try (cases h; done)
  all_goals split at h <;> try (cases h; done)
  all_goals
    rename_i hT
    simp only [Option.some.injEq] at h
    subst h
  · obtain ⟨e, sz, g1, _⟩ := ok.isSl hT
    exact MR.ln g1 (show ρ t = .slice none 0 0 from ha) ht
  · obtain ⟨e, sz, g1, _⟩ := ok.isSl hT
    obtain ⟨g, o, c, e⟩ := ha
    exact MR.ln g1 e ht
  · obtain ⟨e, sz, g1, _⟩ := ok.isSl hT
    obtain ⟨_, e, _⟩ := ha
    exact MR.ln g1 e ht
  · obtain ⟨e, sz, g1, _⟩ := ok.isSl hT
    obtain ⟨_, c, _, e⟩ := ha
    exact MR.ln g1 e ht
  · rw [Nat.beq_eq] at hT
    subst hT
    exact MR.lnS ok.str (show ρ t = .string ⟨#[]⟩ from ha) ht
theorem atV_ok (ok : TKK P K) {T j : Nat} {a y : AV} {v : Value} (h : atV K T a j = some y) (ha : RelA n μ a v) :
    T = K.u8s ∧ ∃ b o m c, v = .slice (some ⟨b, o, none⟩) m c ∧ j < m ∧ RelA n μ y (.pointer (some ⟨b, o + j, none⟩)) := by
  unfold atV at h
  split at h <;> try (cases h; done)
  rename_i hT
  rw [Nat.beq_eq] at hT
  refine ⟨hT, ?_⟩
  split at h
  · obtain ⟨hb, rfl, _⟩ := ha
    split at h <;> try (cases h; done)
    rename_i hj
    rw [Nat.blt_eq] at hj
    simp only [Option.some.injEq] at h
    subst h
    exact ⟨_, _, _, _, rfl, hj, hb, rfl⟩
  · obtain ⟨hb, c, _, rfl⟩ := ha
    split at h <;> try (cases h; done)
    rename_i hj
    rw [Nat.blt_eq] at hj
    simp only [Option.some.injEq] at h
    subst h
    exact ⟨_, _, _, _, rfl, hj, hb, rfl⟩
  · cases h
theorem cvV_ok (ok : TKK P K) {src dst : Nat} {a y : AV} {v : Value} (h : cvV K src dst a = some y) (ha : RelA n μ a v) : ∃ u, RelA n μ y u ∧ ∀ w : World, (convert src dst v).run P w = .ok u w := by
  have str : ∀ {ad : Option Addr} {c : Nat}, (Nat.beq src K.u8s && Nat.beq dst K.str) = true → okAd ad → ∀ w : World, (convert src dst (.slice ad 0 c)).run P w = .ok (.string ⟨#[]⟩) w := by
    intro ad c hT had w
    simp only [Bool.and_eq_true, Nat.beq_eq] at hT
    obtain ⟨rfl, rfl⟩ := hT
    exact conv_str (l := []) (F := fun _ => True) ok.u8s ok.iu ok.str had (fun j b hj => by simp at hj)
  unfold cvV at h
  split at h
  · split at h <;> try (cases h; done)
    rename_i k1 k2 h1 h2
    simp only [Option.some.injEq] at h
    subst h
    have : v = .int _ _ := ha
    subst this
    exact ⟨_, rfl, fun w => run_convert_int (ok.ints h1) (ok.ints h2) _⟩
  · split at h <;> try (cases h; done)
    rename_i hT
    simp only [Option.some.injEq] at h
    subst h
    obtain ⟨g, o, c, rfl⟩ := ha
    exact ⟨_, rfl, str hT (.inr ⟨_, _, rfl⟩)⟩
  · split at h <;> try (cases h; done)
    rename_i hT
    simp only [Option.some.injEq] at h
    subst h
    have : v = .slice none 0 0 := ha
    subst this
    exact ⟨_, rfl, str hT (.inl rfl)⟩
  · cases h
theorem ldV_ok (ok : TKK P K) {ty o b : Nat} {k : Blk} {y : AV} (h : ldV K ty o k = some y) (hb : RelB U B n μ w b k) :
    ∃ u, RelA n μ y u ∧ ∀ w' : World, w'.heap[(μ b).1]? = w.heap[(μ b).1]? → (Instr.loadAt ty (.pointer (some ⟨(μ b).1, o, none⟩))).run P w' = .ok u w' := by
  unfold ldV at h
  split at h
  · rename_i cs
    obtain ⟨vs, h1, h2, h3⟩ := hb
    split at h
    · rename_i z ps hr
      split at h <;> try (cases h; done)
      rename_i hl
      rw [Nat.beq_eq] at hl
      simp only [Option.some.injEq] at h
      subst h
      obtain ⟨g1, g2, _⟩ := ok.rows hr
      refine ⟨_, ⟨_, (h1.drop o).take z.length, rfl⟩, fun w' hw => ?_⟩
      refine run_loadAt_row g1 ?_ ?_
      · rw [((h1.drop o).take z.length).len, hl]; exact g2
      · have := range_part (k := o) (m := z.length) (range_keep h2 hw)
        rwa [Nat.zero_add] at this
    · split at h <;> try (cases h; done)
      rename_i hp
      simp only [Option.map_eq_some_iff] at h
      obtain ⟨x, hx, rfl⟩ := h
      obtain ⟨v, hv, hr⟩ := h1.get hx
      refine ⟨v, hr, fun w' hw => run_loadAt_one (ok.plain hp).1 ?_⟩
      have := range_keep h2 hw o v hv
      rwa [Nat.zero_add] at this
  · rename_i bs
    split at h <;> try (cases h; done)
    rename_i hT
    rw [Nat.beq_eq] at hT
    subst hT
    split at h <;> try (cases h; done)
    rename_i b' hb'
    split at h <;> try (cases h; done)
    rename_i hlt
    rw [Nat.blt_eq] at hlt
    simp only [Option.some.injEq] at h
    subst h
    refine ⟨_, rfl, fun w' hw => run_loadAt_one ok.pu ?_⟩
    have hb2 : OwnB U w' B _ _ := OwnB.keepAt (w' := w') hb (fun k hk => by cases hk; exact hw)
    have hb3 : OwnB U w' B (.slice (some ⟨(μ b).1, 0, none⟩) (bs.map UInt8.ofNat).length (μ b).2) (bs.map UInt8.ofNat) := by rw [List.length_map]; exact hb2
    obtain ⟨ad, c, e, _, _, hby⟩ := OwnB.bytes hb3
    injection e with e _ _
    subst e
    obtain ⟨g', o', e, _, hc⟩ := hby o (UInt8.ofNat b') (by rw [List.getElem?_map, hb']; rfl)
    cases e
    rw [Nat.zero_add] at hc
    rw [hc]
    show some (Value.int .u8 _) = some (Value.int .u8 _)
    congr 2
    simp only [UInt8.toNat_ofNat']
    rw [Int.ofNat_eq_natCast]
    congr 1
    omega
end
section
variable {P : Program} {K : TK} {N U B n : Nat} {μ : Nat → Nat × Nat} {ρ : Nat → Value} {w w' : World} {s : St} {d : Nat}
theorem evM_step {op : BinOp} {ty : Nat} {x y : MX} {v : AV} (hs : RelS n μ s.sl ρ) (h : evM op (s.x x) (s.x y) = some v) (hx : x.lt N = true) (hy : y.lt N = true) :
    ∃ u, RelA n μ v u ∧ (∀ w, MR P N (.bi d op ty x y) ρ w d u w) ∧ ∀ w, MR P N (.b2 d op x y) ρ w d u w := by
  obtain ⟨m, rfl, h2⟩ := evM_ok h (hs.x x) (hs.x y)
  exact ⟨m.val, rfl, fun w => MR.biE h2 hx hy, fun w => MR.b2 h2 hx hy⟩
theorem biV_ok (ok : TKK P K) {op : BinOp} {ty : Nat} {x y : MX} {v : AV} (hs : RelS n μ s.sl ρ) (h : biV K s op ty x y = some v) (hx : x.lt N = true) (hy : y.lt N = true) :
    ∃ u, RelA n μ v u ∧ ∀ w, MR P N (.bi d op ty x y) ρ w d u w := by
  unfold biV at h
  split at h
  · split at h <;> try (cases h; done)
    rename_i t
    have ht : t < N := by simpa [MX.lt, Nat.blt_eq] using hx
    split at h <;> try (cases h; done)
    rename_i hT
    obtain ⟨e, sz, g1, _⟩ := ok.isSl hT
    have hr := hs.slot t
    split at h <;> try (cases h; done)
    all_goals
      rename_i hsl
      rw [hsl] at hr
      simp only [Option.some.injEq] at h
      subst h
    · exact ⟨_, rfl, fun w => MR.eqNilS (p := none) g1 (show ρ t = .slice none 0 0 from hr) ht⟩
    · obtain ⟨_, e, _⟩ := hr
      exact ⟨_, rfl, fun w => MR.eqNilS (p := some _) g1 e ht⟩
    · obtain ⟨_, c, _, e⟩ := hr
      exact ⟨_, rfl, fun w => MR.eqNilS (p := some _) g1 e ht⟩
    · obtain ⟨g, o, c, e⟩ := hr
      exact ⟨_, rfl, fun w => MR.eqNilS (p := some _) g1 e ht⟩
  · split at h <;> try (cases h; done)
    rename_i t
    have ht : t < N := by simpa [MX.lt, Nat.blt_eq] using hx
    split at h <;> try (cases h; done)
    rename_i hT
    rw [Nat.beq_eq] at hT
    subst hT
    have hr := hs.slot t
    split at h <;> try (cases h; done)
    rename_i hsl
    rw [hsl] at hr
    simp only [Option.some.injEq] at h
    subst h
    exact ⟨_, rfl, fun w => MR.neqNilI (v := .nilIface) ok.ifc (show ρ t = .nilIface from hr) (.inl rfl) ht⟩
  · obtain ⟨u, h1, h2, _⟩ := evM_step (P := P) (d := d) (ty := ty) hs h hx hy
    exact ⟨u, h1, h2⟩
theorem optIn_lt {o : Option MX} (h : optIn N o = true) : ∀ z, o = some z → z.lt N = true := by
  rintro z rfl; exact h
def SameAt (kp : Nat → Bool) (μ : Nat → Nat × Nat) (mem : List (Option Blk)) (w w' : World) : Prop := ∀ b k, kp b = true → mem[b]? = some (some k) → w'.heap[(μ b).1]? = w.heap[(μ b).1]?
theorem blk_mem {b : Nat} {k : Blk} (h : s.blk b = some k) : s.mem[b]? = some (some k) := by
  unfold St.blk at h
  rw [List.getD_eq_getElem?_getD] at h
  cases hm : s.mem[b]? with
  | none => simp [hm] at h
  | some x => simp only [hm, Option.getD_some] at h; rw [h]
theorem evQ_ok (ok : TKK P K) {kp : Nat → Bool} {m : MOp} {a : AV} (h : evQ K kp s m = some (d, a)) (hs : RelS s.mem.length μ s.sl ρ) (hm : RelM U B μ s.mem w) (hN : m.inN N = true) :
    d < N ∧ ∃ v, RelA s.mem.length μ a v ∧ ∀ w', SameAt kp μ s.mem w w' → MR P N m ρ w' d v w' := by
  cases m <;> simp only [evQ, reduceCtorEq] at h
  all_goals simp only [MOp.inN, Bool.and_eq_true, Nat.blt_eq] at hN
  case mv d' x =>
    simp only [Option.some.injEq, Prod.mk.injEq] at h
    obtain ⟨rfl, rfl⟩ := h
    exact ⟨hN.1, _, hs.x x, fun w' _ => MR.mv rfl hN.2⟩
  case nc d' t =>
    have hr := hs.slot t
    split at h <;> try (cases h; done)
    rename_i e
    rw [e] at hr
    simp only [Option.some.injEq, Prod.mk.injEq] at h
    obtain ⟨rfl, rfl⟩ := h
    exact ⟨hN.1, _, hr, fun w' _ => by rw [hr.2]; exact MR.nc hr.2 hN.2⟩
  case fa d' T t f =>
    have hr := hs.slot t
    split at h <;> try (cases h; done)
    rename_i e
    rw [e] at hr
    split at h <;> try (cases h; done)
    rename_i hrow
    split at h <;> try (cases h; done)
    rename_i p hp
    cases h0 : Nat.beq p.2 0
    · rw [h0] at h
      simp only [cond_false, Option.some.injEq, Prod.mk.injEq] at h
      obtain ⟨rfl, rfl⟩ := h
      have hf := fieldsB_at (ok.rows hrow).2.2.2.2 hp h0
      rw [Nat.zero_add] at hf
      exact ⟨hN.1, _, ⟨hr.1, rfl⟩, fun w' _ => MR.fa hr.2 hf hN.2⟩
    · rw [h0] at h; cases h
  case ld d' ty t =>
    have hr := hs.slot t
    split at h <;> try (cases h; done)
    rename_i b o e
    rw [e] at hr
    split at h <;> try (cases h; done)
    rename_i hk
    split at h <;> try (cases h; done)
    rename_i k hb
    simp only [Option.map_eq_some_iff, Prod.mk.injEq] at h
    obtain ⟨v, h1, rfl, rfl⟩ := h
    obtain ⟨u, g1, g2⟩ := ldV_ok ok h1 (hm.at_ _ _ (blk_mem hb)).2.2
    exact ⟨hN.1, u, g1, fun w' hw => MR.ldBy (by rw [hr.2]; exact g2 w' (hw b k hk (blk_mem hb))) hN.2⟩
  case bi d' op ty x y =>
    simp only [Option.map_eq_some_iff, Prod.mk.injEq] at h
    obtain ⟨v, h1, rfl, rfl⟩ := h
    obtain ⟨u, g1, g2⟩ := biV_ok (P := P) (N := N) (d := d') ok hs h1 hN.1.2 hN.2
    exact ⟨hN.1.1, u, g1, fun w' _ => g2 w'⟩
  case nt d' t =>
    have hr := hs.slot t
    split at h <;> try (cases h; done)
    rename_i b e
    rw [e] at hr
    simp only [Option.some.injEq, Prod.mk.injEq] at h
    obtain ⟨rfl, rfl⟩ := h
    exact ⟨hN.1, _, rfl, fun w' _ => MR.nt (show ρ t = .bool b from hr) hN.2⟩
  case cv d' src dst t =>
    simp only [Option.map_eq_some_iff, Prod.mk.injEq] at h
    obtain ⟨v, h1, rfl, rfl⟩ := h
    obtain ⟨u, g1, g2⟩ := cvV_ok ok h1 (hs.slot t)
    exact ⟨hN.1, u, g1, fun w' _ => MR.cv (g2 w') hN.2⟩
  case ln d' ty t =>
    simp only [Option.map_eq_some_iff, Prod.mk.injEq] at h
    obtain ⟨v, h1, rfl, rfl⟩ := h
    exact ⟨hN.1, _, rfl, fun w' _ => lenV_ok ok h1 (hs.slot t) hN.2 w'⟩
  case ia d' T x i =>
    simp only [Option.bind_eq_some_iff, Option.map_eq_some_iff, Prod.mk.injEq] at h
    obtain ⟨j, h1, v, h2, rfl, rfl⟩ := h
    obtain ⟨rfl, b, o, m, c, e1, hj, hr⟩ := atV_ok ok h2 (hs.slot x)
    refine ⟨hN.1.1, _, hr, fun w' _ => ?_⟩
    have := MR.ia (P := P) (N := N) (ρ := ρ) (w := w') (d := d') (k := .i64) ok.u8s ok.cu e1 (natX_eq h1 (hs.slot i)) hj hN.1.2 hN.2
    rwa [Nat.mul_one] at this
  case b2 d' op x y =>
    simp only [Option.map_eq_some_iff, Prod.mk.injEq] at h
    obtain ⟨v, h1, rfl, rfl⟩ := h
    obtain ⟨u, g1, _, g2⟩ := evM_step (P := P) (N := N) (d := d') (ty := 0) hs h1 hN.1.2 hN.2
    exact ⟨hN.1.1, u, g1, fun w' _ => g2 w'⟩
  case sl d' T x lo hi mx =>
    simp only [Option.map_eq_some_iff, Prod.mk.injEq] at h
    obtain ⟨v, h1, rfl, rfl⟩ := h
    obtain ⟨u, g1, g2⟩ := slV_ok ok hs h1 (hs.slot x)
    exact ⟨hN.1.1.1.1, u, g1, fun w' _ => MR.sl (g2 w') (optIn_lt hN.1.1.2) (optIn_lt hN.1.2) (optIn_lt hN.2) hN.1.1.1.2⟩
  case lg d' ty g =>
    split at h <;> try (cases h; done)
    rename_i ps hr
    simp only [Option.some.injEq, Prod.mk.injEq] at h
    obtain ⟨rfl, rfl⟩ := h
    obtain ⟨g1, g2, _⟩ := ok.rows hr
    exact ⟨hN, _, ⟨[], trivial, rfl⟩, fun w' _ => MR.lg (run_loadAt_row (cs := []) g1 g2 (fun j v hj => by simp at hj))⟩
  case ext d' t i =>
    have hr := hs.slot t
    split at h <;> try (cases h; done)
    all_goals
      rename_i e
      rw [e] at hr
      simp only [Option.some.injEq, Prod.mk.injEq] at h
      obtain ⟨rfl, rfl⟩ := h
    · obtain ⟨a, b, h1, h2, h3⟩ := hr
      exact ⟨hN.1, a, h1, fun w' _ => MR.ext (by rw [h3]; rfl) hN.2⟩
    · obtain ⟨a, b, h1, h2, h3⟩ := hr
      exact ⟨hN.1, b, h2, fun w' _ => MR.ext (by rw [h3]; rfl) hN.2⟩
    · obtain ⟨vs, b, h1, h2, h3⟩ := hr
      exact ⟨hN.1, _, ⟨vs, h1, rfl⟩, fun w' _ => MR.ext (by rw [h3]; rfl) hN.2⟩
    · obtain ⟨vs, b, h1, h2, h3⟩ := hr
      exact ⟨hN.1, b, h2, fun w' _ => MR.ext (by rw [h3]; rfl) hN.2⟩
  case pk d' c x y =>
    have hr := hs.x c
    split at h <;> try (cases h; done)
    rename_i b e
    rw [e] at hr
    simp only [Option.some.injEq, Prod.mk.injEq] at h
    obtain ⟨rfl, rfl⟩ := h
    refine ⟨hN.1.1.1, if b then xof ρ x else xof ρ y, ?_, fun w' _ => MR.pk (show xof ρ c = .bool b from hr) rfl hN.1.1.2 hN.1.2 hN.2⟩
    cases b
    · exact hs.x y
    · exact hs.x x
  case iak d' T x i =>
    simp only [Option.map_eq_some_iff, Prod.mk.injEq] at h
    obtain ⟨v, h2, rfl, rfl⟩ := h
    obtain ⟨rfl, b, o, m, c, e1, hj, hr⟩ := atV_ok ok h2 (hs.slot x)
    refine ⟨hN.1, _, hr, fun w' _ => ?_⟩
    have := MR.iak (P := P) (N := N) (ρ := ρ) (w := w') (d := d') ok.u8s ok.cu e1 hj hN.2
    rwa [Nat.mul_one] at this
  case cpl d' ty t =>
    have hr := hs.slot t
    split at h <;> try (cases h; done)
    rename_i e
    rw [e] at hr
    split at h <;> try (cases h; done)
    rename_i hT
    obtain ⟨e, sz, g1, _⟩ := ok.isSl hT
    simp only [Option.some.injEq, Prod.mk.injEq] at h
    obtain ⟨rfl, rfl⟩ := h
    exact ⟨hN.1, _, rfl, fun w' _ => MR.cpl g1 (show ρ t = .slice none 0 0 from hr) hN.2⟩
  case ng d' t =>
    have hr := hs.slot t
    split at h <;> try (cases h; done)
    rename_i k z e
    rw [e] at hr
    simp only [Option.some.injEq, Prod.mk.injEq] at h
    obtain ⟨rfl, rfl⟩ := h
    exact ⟨hN.1, _, rfl, fun w' _ => MR.ng (show ρ t = .int k z from hr) hN.2⟩
end
set_option linter.unusedVariables false
def octX (s : St) : List MX → Option (List Nat)
  | [] => some []
  | x :: r => (match s.x x with
    | .f (.m (.int .u8 (.ofNat b))) => if Nat.blt b 256 then (octX s r).map fun l => b :: l else none
    | _ => none)
def srcV (K : TK) (s : St) (U : Nat) : AV → Option (List Nat)
  | .f (.m .nslice) => if Nat.beq U K.u8s then some [] else none
  | .f .es => if Nat.beq U K.u8s then some [] else none
  | .f (.m .estr) => if Nat.beq U K.str then some [] else none
  | .f (.own b n) => if Nat.beq U K.u8s then (match s.blk b with | some (.row bs) => if Nat.beq bs.length n then some bs else none | _ => none) else none
  | .f (.sl b o n) => if Nat.beq U K.u8s then (match s.blk b with | some (.row bs) => if Nat.beq ((bs.drop o).take n).length n then some ((bs.drop o).take n) else none | _ => none) else none
  | _ => none
def isOct : AV → Bool
  | .f (.m .nslice) => true
  | .f .es => true
  | .f (.own _ _) => true
  | .f (.sl _ _ _) => true
  | _ => false
def apV (ro : Nat → Bool) (s : St) (x : AV) : List Nat → Option (AV × List (Option Blk))
  | [] => if isOct x then some (x, s.mem) else none
  | c :: l => (match x with
    | .f (.m .nslice) => if Nat.ble (c :: l).length 100000 then some (.f (.own s.mem.length (c :: l).length), s.mem ++ [some (.row (c :: l))]) else none
    | .f (.own b n) => if ro b then none else (match s.blk b with
      | some (.row bs) => if Nat.beq bs.length n && Nat.ble (bs ++ c :: l).length 100000 then some (.f (.own s.mem.length (bs ++ c :: l).length), s.mem.set b none ++ [some (.row (bs ++ c :: l))]) else none
      | _ => none)
    | _ => none)
def fillF (s : St) (ps : List (Nat × Nat)) : List FV → List (Nat × MX) → Option (List FV)
  | cs, [] => some cs
  | cs, (i, x) :: r => (match ps[i]? with
    | none => none
    | some p => (match s.x x with
      | .f v => if v.known && Nat.beq p.2 1 && Nat.blt p.1 cs.length then fillF s ps (cs.take p.1 ++ [v] ++ cs.drop (p.1 + 1)) r else none
      | .g l => if Nat.beq p.2 l.length && Nat.ble (p.1 + l.length) cs.length then fillF s ps (cs.take p.1 ++ l ++ cs.drop (p.1 + l.length)) r else none
      | _ => none))
def evX (K : TK) (ro : Nat → Bool) (s : St) : MOp → Option (Nat × AV × List (Option Blk))
  | .al d T => (look K.rows T).map fun r => (d, .f (.ptr s.mem.length 0), s.mem ++ [some (.var (r.1.map .m))])
  | .bx d _ t => (match s.slot t with
    | .g l => some (d, .f (.ptr s.mem.length 0), s.mem ++ [some (.var l)])
    | .f x => if x.known then some (d, .f (.ptr s.mem.length 0), s.mem ++ [some (.var [x])]) else none
    | _ => none)
  | .bdl d T ps => (match look K.rows T with
    | some (z, pl) => (fillF s pl (z.map .m) ps).map fun l => (d, .g l, s.mem)
    | none => none)
  | .bsl d T xs => if Nat.beq T K.u8s && Nat.ble xs.length 16 then (match octX s xs with
    | some [] => some (d, .f .es, s.mem)
    | some (b :: l) => some (d, .f (.own s.mem.length (b :: l).length), s.mem ++ [some (.row (b :: l))])
    | none => none) else none
  | .ap d T U x y => if Nat.beq T K.u8s then (srcV K s U (s.slot y)).bind fun l => (apV ro s (s.slot x) l).map fun r => (d, r) else none
  | .apk d T U y => if Nat.beq T K.u8s then (srcV K s U (s.slot y)).bind fun l => (apV ro s (.f (.m .nslice)) l).map fun r => (d, r) else none
  | _ => none
def evS (K : TK) (ro : Nat → Bool) (s : St) (ty p : Nat) (a : AV) : Option (List (Option Blk)) :=
  match s.slot p with
  | .f (.ptr b o) => if ro b then none else (match s.blk b with
    | some (.var cs) => (match a with
      | .f v => if v.known && memN K.plain ty && Nat.blt o cs.length then some (s.mem.set b (some (.var (cs.take o ++ [v] ++ cs.drop (o + 1))))) else none
      | .g l => (match look K.rows ty with
        | some (z, _) => if Nat.beq z.length l.length && l.all FV.known && Nat.ble (o + l.length) cs.length then some (s.mem.set b (some (.var (cs.take o ++ l ++ cs.drop (o + l.length))))) else none
        | none => none)
      | _ => none)
    | _ => none)
  | _ => none
theorem fold_splice (off : Nat) : ∀ (vs : List Value) (k : Nat) (cs : Array Value), off + k + vs.length ≤ cs.size →
    (vs.zipIdx k).foldl (fun (cs : Array Value) (x : Value × Nat) => match x with | (c, j) => cs.setIfInBounds (off + j) c) cs = (cs.toList.take (off + k) ++ vs ++ cs.toList.drop (off + k + vs.length)).toArray
  | [], k, cs, h => by
    simp
  | v :: vs, k, cs, h => by
    simp only [List.length_cons] at h
    simp only [List.zipIdx_cons, List.foldl_cons]
    rw [fold_splice off vs (k + 1) _ (by simp; omega)]
    congr 1
    have hl : off + k < cs.toList.length := by simp; omega
    rw [Array.toList_setIfInBounds]
    have e1 : (cs.toList.set (off + k) v).take (off + (k + 1)) = cs.toList.take (off + k) ++ [v] := by
      rw [show off + (k + 1) = off + k + 1 from by omega, List.take_add_one, List.take_set_of_le (Nat.le_refl _), List.getElem?_set_self hl]
      rfl
    have e2 : (cs.toList.set (off + k) v).drop (off + (k + 1) + vs.length) = cs.toList.drop (off + k + (vs.length + 1)) := by
      rw [List.drop_set_of_lt (by omega)]
      congr 1; omega
    rw [e1, e2]
    simp
section
variable {P : Program} {K : TK} {N B n : Nat} {μ : Nat → Nat × Nat} {ρ : Nat → Value} {w w' : World} {s : St} {d : Nat}
theorem octX_ok (hs : RelS n μ s.sl ρ) : ∀ {xs : List MX} {l : List Nat}, octX s xs = some l → xs.map (xof ρ) = (l.map UInt8.ofNat).map byteV ∧ l.length = xs.length
  | [], l, h => by
    simp only [octX, Option.some.injEq] at h
    subst h; exact ⟨rfl, rfl⟩
  | x :: r, l, h => by
    simp only [octX] at h
    have hr := hs.x x
    split at h <;> try (cases h; done)
    rename_i b e
    rw [e] at hr
    split at h <;> try (cases h; done)
    rename_i hb
    rw [Nat.blt_eq] at hb
    simp only [Option.map_eq_some_iff] at h
    obtain ⟨l', h1, rfl⟩ := h
    obtain ⟨g1, g2⟩ := octX_ok hs h1
    refine ⟨?_, by simp [g2]⟩
    have e2 : xof ρ x = .int .u8 (Int.ofNat b) := hr
    simp only [List.map_cons, g1, e2, byteV]
    congr 2
    rw [UInt8.toNat_ofNat', Int.ofNat_eq_natCast]
    congr 1
    omega
theorem srcV_ok (ok : TKK P K) {U : Nat} {a : AV} {v : Value} {l : List Nat} (h : srcV K s U a = some l) (hm : RelM K.u8 B μ s.mem w) (ha : RelA s.mem.length μ a v) :
    (l = [] ∧ ((U = K.u8s ∧ ∃ ad c, v = .slice ad 0 c) ∨ (U = K.str ∧ v = .string ⟨#[]⟩))) ∨ (U = K.u8s ∧ ∃ ad c, v = .slice (some ad) l.length c ∧ BytesAt w (fun _ => True) (some ad) (l.map UInt8.ofNat)) := by
  have row : ∀ {b : Nat} {bs : List Nat}, s.blk b = some (.row bs) → BytesAt w (fun _ => True) (some ⟨(μ b).1, 0, none⟩) (bs.map UInt8.ofNat) := by
    intro b bs hb
    have hb2 : OwnB K.u8 w B _ _ := (hm.at_ _ _ (blk_mem hb)).2.2
    have hb3 : OwnB K.u8 w B (.slice (some ⟨(μ b).1, 0, none⟩) (bs.map UInt8.ofNat).length (μ b).2) (bs.map UInt8.ofNat) := by rw [List.length_map]; exact hb2
    obtain ⟨ad, c, e, _, _, hby⟩ := OwnB.bytes hb3
    injection e with e _ _
    subst e
    exact hby
  unfold srcV at h
  split at h <;> try (cases h; done)
  all_goals split at h <;> try (cases h; done)
  all_goals
    rename_i hU
    rw [Nat.beq_eq] at hU
  · simp only [Option.some.injEq] at h
    subst h
    exact .inl ⟨rfl, .inl ⟨hU, none, 0, ha⟩⟩
  · simp only [Option.some.injEq] at h
    subst h
    obtain ⟨g, o, c, e⟩ := ha
    exact .inl ⟨rfl, .inl ⟨hU, _, c, e⟩⟩
  · simp only [Option.some.injEq] at h
    subst h
    exact .inl ⟨rfl, .inr ⟨hU, ha⟩⟩
  · split at h <;> try (cases h; done)
    rename_i bs hb
    split at h <;> try (cases h; done)
    rename_i hl
    rw [Nat.beq_eq] at hl
    simp only [Option.some.injEq] at h
    subst h
    obtain ⟨_, e, _⟩ := ha
    exact .inr ⟨hU, _, _, by rw [hl]; exact e, row hb⟩
  · split at h <;> try (cases h; done)
    rename_i bs hb
    split at h <;> try (cases h; done)
    rename_i hl
    rw [Nat.beq_eq] at hl
    simp only [Option.some.injEq] at h
    subst h
    obtain ⟨_, c, _, e⟩ := ha
    refine .inr ⟨hU, _, _, by rw [hl]; exact e, fun j y hj => ?_⟩
    rw [List.getElem?_map] at hj
    simp only [Option.map_eq_some_iff] at hj
    obtain ⟨q, hq, rfl⟩ := hj
    rw [List.getElem?_take] at hq
    split at hq <;> try (cases hq; done)
    rw [List.getElem?_drop] at hq
    obtain ⟨g', o', e', _, hc⟩ := row hb _ _ (by rw [List.getElem?_map, hq]; rfl)
    cases e'
    refine ⟨_, _, rfl, trivial, ?_⟩
    rw [Nat.zero_add] at hc
    exact hc
theorem run_ap0 {T U V : Nat} {ad : Option Addr} {k c : Nat} {x : Value} (hT : sliceOf P T U = true) (hU : u8Ty P U = true) (hx : (sliceOf P V U = true ∧ ∃ a2 c2, x = .slice a2 0 c2) ∨ (strTy P V = true ∧ x = .string ⟨#[]⟩)) (hk : k ≤ c) (ty : Nat) :
    (Builtin.append_ #[T, V] ty #[.slice ad k c, x]).run P w = .ok (.slice ad k c) w := by
  obtain ⟨i, hi, hs, hby, hz⟩ := u8Ty_info hU
  rcases hx with ⟨hV, a2, c2, rfl⟩ | ⟨hV, rfl⟩
  · cases a2 <;> cases ad <;> simp [Builtin.append_, run_underlying (sliceOf_eq hT), run_underlying (sliceOf_eq hV), sizeOf, typeInfo, hi, hs, Builtin.lenOf, Builtin.firstCells, hk, storeCells, loadCells, loadCellsFrom]
  · cases ad <;> simp [Builtin.append_, run_underlying (sliceOf_eq hT), run_underlying (strTy_eq hV), sizeOf, typeInfo, hi, hs, Builtin.lenOf, Builtin.firstCells, hk, storeCells, ByteArray.size]
theorem map_bytes (l : List Nat) : (l.map UInt8.ofNat).length = l.length := List.length_map _
theorem apNew (ok : TKK P K) {mem : List (Option Blk)} {sv : Value} {bs l : List Nat} {ad : Addr} {c : Nat} (hM : RelM K.u8 B μ mem w) (ho : OwnB K.u8 w B sv (bs.map UInt8.ofNat))
    (hne : ∀ i k, mem[i]? = some (some k) → sv.ownBlock ≠ some (μ i).1) (hby : BytesAt w (fun _ => True) (some ad) (l.map UInt8.ofNat)) (hl : l ≠ []) (hlim : (bs ++ l).length ≤ 100000) :
    ∃ sv' w' μ', (∀ ty, (Builtin.append_ #[K.u8s, K.u8s] ty #[sv, .slice (some ad) l.length c]).run P w = .ok sv' w') ∧ RelF (mem.length + 1) μ' (.own mem.length (bs ++ l).length) sv' ∧
      RelM K.u8 B μ' (mem ++ [some (.row (bs ++ l))]) w' ∧ ExtM mem.length μ μ' ∧ Below B w w' ∧ w.grownBy w' sv.ownBlock := by
  have hl1 : lim = 1099511627776 := rfl
  obtain ⟨sv', w', h1, h2, h3, h4, h5⟩ := run_apOwnX (P := P) (w := w) (T := K.u8s) (c := c) (B := B) ok.u8s ok.u8 ho (map_bytes l).symm hby hM.base (by rw [map_bytes, map_bytes]; rw [List.length_append] at hlim; omega)
  rw [← List.map_append] at h2
  have hlt := World.ownsRow.lt h2
  have h2' := h2
  obtain ⟨k1, k2⟩ := h2'
  rcases k2 with ⟨_, e⟩ | ⟨g, cap, cur, rfl, q1, q2, q3, q4⟩
  · rw [map_bytes, List.length_append] at e
    exact absurd (List.eq_nil_of_length_eq_zero (by omega : l.length = 0)) hl
  rw [map_bytes] at h2 q3
  refine ⟨_, w', updM μ mem.length (g, cap), h1, ⟨by omega, by rw [updM_same, map_bytes], by rw [updM_same]; exact q3⟩, ?_, updM_ext, h3, h4⟩
  have hkeep : ∀ i k, mem[i]? = some (some k) → w'.heap[(μ i).1]? = w.heap[(μ i).1]? := fun i k hi => h4.block _ (hM.at_ i k hi).2.1 (fun e => hne i k hi e.symm)
  refine hM.new h3.size hkeep q1 (hlt g rfl).2 (fun i k hi e => ?_) ?_
  · rcases h5 g rfl with h6 | h6
    · exact hne i k hi (by rw [h6, e])
    · have := (hM.at_ i k hi).2.1; omega
  · show OwnB _ _ _ _ _
    rw [updM_same]
    exact h2
theorem apV_ok (ok : TKK P K) {ro : Nat → Bool} {U : Nat} {a x : AV} {v y : Value} {l : List Nat} {mem' : List (Option Blk)} (h : apV ro s x l = some (a, mem')) (hm : RelM K.u8 B μ s.mem w) (hx : RelA s.mem.length μ x v)
    (hsrc : (l = [] ∧ ((U = K.u8s ∧ ∃ ad c, y = .slice ad 0 c) ∨ (U = K.str ∧ y = .string ⟨#[]⟩))) ∨ (U = K.u8s ∧ ∃ ad c, y = .slice (some ad) l.length c ∧ BytesAt w (fun _ => True) (some ad) (l.map UInt8.ofNat))) :
    ∃ sv w' μ', (∀ ty, (Builtin.append_ #[K.u8s, U] ty #[v, y]).run P w = .ok sv w') ∧ RelA mem'.length μ' a sv ∧ RelM K.u8 B μ' mem' w' ∧ ExtM s.mem.length μ μ' ∧ s.mem.length ≤ mem'.length ∧ Below B w w' ∧ SameAt ro μ s.mem w w' := by
  cases l with
  | nil =>
    have hy : (sliceOf P U K.u8 = true ∧ ∃ a2 c2, y = .slice a2 0 c2) ∨ (strTy P U = true ∧ y = .string ⟨#[]⟩) := by
      rcases hsrc with ⟨_, ⟨rfl, hq⟩ | ⟨rfl, hq⟩⟩ | ⟨rfl, ad, c, hq, _⟩
      · exact .inl ⟨ok.u8s, hq⟩
      · exact .inr ⟨ok.str, hq⟩
      · exact .inl ⟨ok.u8s, _, _, hq⟩
    simp only [apV] at h
    split at h <;> try (cases h; done)
    rename_i ho
    simp only [Option.some.injEq, Prod.mk.injEq] at h
    obtain ⟨rfl, rfl⟩ := h
    refine ⟨v, w, μ, fun ty => ?_, hx, hm, ExtM.refl, Nat.le_refl _, Below.refl _ _, fun _ _ _ _ => rfl⟩
    unfold isOct at ho
    split at ho <;> try (cases ho; done)
    · have : v = .slice none 0 0 := hx
      subst this
      exact run_ap0 ok.u8s ok.u8 hy (Nat.le_refl _) ty
    · obtain ⟨g, o, c, rfl⟩ := hx
      exact run_ap0 ok.u8s ok.u8 hy (Nat.zero_le _) ty
    · obtain ⟨_, rfl, hc⟩ := hx
      exact run_ap0 ok.u8s ok.u8 hy hc ty
    · obtain ⟨_, c, hc, rfl⟩ := hx
      exact run_ap0 ok.u8s ok.u8 hy hc ty
  | cons q l =>
    rcases hsrc with ⟨e, _⟩ | ⟨rfl, ad, c, rfl, hby⟩
    · cases e
    simp only [apV] at h
    split at h <;> try (cases h; done)
    · split at h <;> try (cases h; done)
      rename_i hle
      rw [Nat.ble_eq] at hle
      simp only [Option.some.injEq, Prod.mk.injEq] at h
      obtain ⟨rfl, rfl⟩ := h
      have : v = .slice none 0 0 := hx
      subst this
      obtain ⟨sv', w', μ', g1, g2, g3, g4, g5, g6⟩ := apNew (P := P) (bs := []) (l := q :: l) (c := c) ok hm (OwnB.nil _ _ _) (fun i k hi => by simp [Value.ownBlock]) hby (by simp) (by simpa using hle)
      refine ⟨sv', w', μ', g1, by rw [List.length_append, List.length_singleton]; exact g2, g3, g4, by simp, g5, fun b k _ hb => g6.block _ (hm.at_ b k hb).2.1 (by simp [Value.ownBlock])⟩
    · rename_i b n'
      split at h <;> try (cases h; done)
      rename_i hro
      split at h <;> try (cases h; done)
      rename_i bs hb
      split at h <;> try (cases h; done)
      rename_i hle
      simp only [Bool.and_eq_true, Nat.beq_eq, Nat.ble_eq] at hle
      simp only [Option.some.injEq, Prod.mk.injEq] at h
      obtain ⟨rfl, rfl⟩ := h
      obtain ⟨_, rfl, _⟩ := hx
      have hb' := blk_mem hb
      have ho : OwnB K.u8 w B _ _ := (hm.at_ _ _ hb').2.2
      rw [hle.1] at ho
      obtain ⟨sv', w', μ', g1, g2, g3, g4, g5, g6⟩ := apNew (P := P) (bs := bs) (l := q :: l) (c := c) ok (hm.kill b) ho (fun i k hi e => by
        simp only [Value.ownBlock, Option.some.injEq] at e
        have hib : i ≠ b := by
          rintro rfl
          rw [List.getElem?_set_self'] at hi
          cases hc : s.mem[i]? <;> simp [hc] at hi
        rw [List.getElem?_set_ne (fun x => hib x.symm)] at hi
        exact hm.inj i b k _ hi hb' hib e.symm) hby (by simp) hle.2
      rw [List.length_set] at g2 g4
      refine ⟨sv', w', μ', g1, by rw [List.length_append, List.length_singleton, List.length_set]; exact g2, g3, g4, by simp, g5, fun i k hr hi => g6.block _ (hm.at_ i k hi).2.1 (fun e => ?_)⟩
      simp only [Value.ownBlock, Option.some.injEq] at e
      have hib : i ≠ b := by rintro rfl; exact hro hr
      exact hm.inj i b k _ hi hb' hib e
theorem live_app {mem : List (Option Blk)} {b : Nat} {k : Blk} {r : List (Option Blk)} (h : mem[b]? = some (some k)) : (mem ++ r)[b]? = some (some k) := by
  rw [List.getElem?_append_left (List.getElem?_eq_some_iff.1 h).1]; exact h
theorem live_set {mem : List (Option Blk)} {b b' : Nat} {k : Blk} {v : Option Blk} (h : mem[b]? = some (some k)) (hne : b ≠ b') : (mem.set b' v)[b]? = some (some k) := by
  rw [List.getElem?_set_ne (fun e => hne e.symm)]; exact h
theorem apV_ro {ro : Nat → Bool} {a x : AV} {l : List Nat} {mem' : List (Option Blk)} (h : apV ro s x l = some (a, mem')) : ∀ b k, ro b = true → s.mem[b]? = some (some k) → mem'[b]? = some (some k) := by
  intro b k hr hb
  cases l with
  | nil =>
    simp only [apV] at h
    split at h <;> try (cases h; done)
    simp only [Option.some.injEq, Prod.mk.injEq] at h
    rw [← h.2]; exact hb
  | cons q l =>
    simp only [apV] at h
    split at h <;> try (cases h; done)
    · split at h <;> try (cases h; done)
      simp only [Option.some.injEq, Prod.mk.injEq] at h
      rw [← h.2]; exact live_app hb
    · rename_i b' n'
      split at h <;> try (cases h; done)
      rename_i hro
      split at h <;> try (cases h; done)
      split at h <;> try (cases h; done)
      simp only [Option.some.injEq, Prod.mk.injEq] at h
      rw [← h.2]; exact live_app (live_set hb (by rintro rfl; exact hro hr))
end
section
variable {P : Program} {K : TK} {N B n : Nat} {μ : Nat → Nat × Nat} {ρ : Nat → Value} {w w' : World} {s : St} {d : Nat} {ms : List MOp} {Q : Exit → (Nat → Value) → World → Prop}
theorem fillF_ok {pl : List (Nat × Nat)} (hs : RelS n μ s.sl ρ) : ∀ {ps : List (Nat × MX)} {cs r : List FV} {vs : List Value}, fillF s pl cs ps = some r → RelL n μ cs vs →
    ∃ us, RelL n μ r us ∧ Instr.fill (pl.toArray[·]?) vs.toArray (ps.map fun p => (p.1, xof ρ p.2)) = some us.toArray
  | [], cs, r, vs, h, hv => by
    simp only [fillF, Option.some.injEq] at h
    subst h
    exact ⟨vs, hv, rfl⟩
  | (i, x) :: ps, cs, r, vs, h, hv => by
    simp only [fillF] at h
    split at h <;> try (cases h; done)
    rename_i p hp
    have hr := hs.x x
    have hp' : pl.toArray[i]? = some (p.1, p.2) := by rw [List.getElem?_toArray, hp]
    split at h <;> try (cases h; done)
    · rename_i v e
      rw [e] at hr
      split at h <;> try (cases h; done)
      rename_i hc
      simp only [Bool.and_eq_true, Nat.beq_eq, Nat.blt_eq] at hc
      obtain ⟨⟨hk, h1⟩, h2⟩ := hc
      obtain ⟨hc1, _⟩ := RelF.one hr hk
      obtain ⟨us, g1, g2⟩ := fillF_ok hs h ((hv.splice (l2 := [v]) (vs2 := [xof ρ x]) ⟨hr, trivial⟩ p.1))
      refine ⟨us, g1, ?_⟩
      simp only [List.map_cons, Instr.fill, hp', hc1]
      have hl := hv.len
      rw [if_neg (by simp; omega)]
      have e2 : ((#[xof ρ x] : Array Value).zipIdx.foldl (fun (cs : Array Value) (x : Value × Nat) => match x with | (c, j) => cs.setIfInBounds (p.1 + j) c) vs.toArray) = (splice p.1 [xof ρ x] vs).toArray := by
        have := fold_splice p.1 [xof ρ x] 0 vs.toArray (by simp; omega)
        simpa [splice] using this
      rw [e2]
      exact g2
    · rename_i l e
      rw [e] at hr
      split at h <;> try (cases h; done)
      rename_i hc
      simp only [Bool.and_eq_true, Nat.beq_eq, Nat.ble_eq] at hc
      obtain ⟨h1, h2⟩ := hc
      obtain ⟨us0, hu, e0⟩ := hr
      obtain ⟨us, g1, g2⟩ := fillF_ok hs h (hv.splice hu p.1)
      refine ⟨us, g1, ?_⟩
      have hl := hv.len
      have hl2 := hu.len
      have ec : (xof ρ x).cells = us0.toArray := by rw [e0]; rfl
      simp only [List.map_cons, Instr.fill, hp', ec]
      rw [if_neg (by simp; omega)]
      have e2 : (us0.toArray.zipIdx.foldl (fun (cs : Array Value) (x : Value × Nat) => match x with | (c, j) => cs.setIfInBounds (p.1 + j) c) vs.toArray) = (splice p.1 us0 vs).toArray := by
        rw [← Array.foldl_toList, Array.toList_zipIdx]
        have := fold_splice p.1 us0 0 vs.toArray (by simp; omega)
        simpa [splice] using this
      rw [e2]
      exact g2
theorem built_any (ok : TKK P K) {T : Nat} {z : List MVal} {pl : List (Nat × Nat)} {parts : List (Nat × Value)} {us : List Value} (hr : look K.rows T = some (z, pl))
    (h : Instr.fill (pl.toArray[·]?) (z.map MVal.val).toArray parts = some us.toArray) (w : World) : (Instr.build T parts.toArray).run P w = .ok (.agg us.toArray) w := by
  obtain ⟨_, _, ⟨it, hit, hzv⟩, hpl, _⟩ := ok.rows hr
  refine run_build w T _ _ ?_
  unfold placesB at hpl
  cases hu : P.underlying T with
  | none => simp [hu] at hpl
  | some d =>
    cases d <;> simp only [hu, Bool.false_eq_true] at hpl
    rename_i fields
    cases hm : fields.toList.mapM (fun f => (P.info? f.type).map fun i => (f.offset, i.size)) with
    | none => simp [hm] at hpl
    | some q =>
      simp only [hm] at hpl
      have := samePl_eq hpl
      subst this
      unfold Program.built
      simp only [hit, hu, hzv, hm, Value.cells]
      exact h
theorem octs_run {T U : Nat} {xs : List MX} {bs : List UInt8} (hT : sliceOf P T U = true) (hU : u8Ty P U = true) (hx : xs.map (xof ρ) = bs.map byteV) (hn : xs.length ≤ 16) (hxN : ∀ x ∈ xs, MX.lt N x = true) :
    MR P N (.bsl d T xs) ρ w d (.slice (some ⟨w.heap.size, 0, none⟩) bs.length bs.length) (w.alloc (.cells (bs.map byteV).toArray U)) := by
  have hlen : xs.length = bs.length := by have := congrArg List.length hx; simpa using this
  refine MR.bslBy ?_ hxN
  obtain ⟨i, hi, hs, hb, hz⟩ := u8Ty_info hU
  have hfill := fill_ones (bs.map byteV) [] (List.replicate bs.length (.int .u8 0)) (by intro v hv; simp only [List.mem_map] at hv; obtain ⟨b, _, rfl⟩ := hv; rfl) (by simp)
  simp only [List.nil_append, List.length_nil, List.length_map, Nat.mul_one] at hfill
  rw [hx, hlen]
  simp only [Instr.buildSlice, Sem.run_bind, run_underlying (sliceOf_eq hT), Result.andThen_ok, sizeOf, typeInfo, run_program, hi, Sem.run_pure, hs]
  rw [if_neg (by omega)]
  have hzero : ∀ n : Nat, (Array.map (fun x => (Value.int IntKind.u8 0).cells[x % (Value.int IntKind.u8 0).cells.size]!) (Array.range n)) = (List.replicate n (Value.int IntKind.u8 0)).toArray := by
    intro n
    apply Array.toList_inj.1
    simp [Value.cells, Nat.mod_one]
    exact List.eq_replicate_iff.2 ⟨by simp, by simp⟩
  simp only [Nat.mul_one]
  by_cases h0 : bs.length = 0
  · have hb0 : bs = [] := List.eq_nil_of_length_eq_zero h0
    subst hb0
    simp only [List.length_nil, if_true, Sem.run_pure, Result.andThen_ok, Sem.run_bind]
    simp only [List.map_nil, List.zip_nil_right, Instr.fill]
    simp only [newRow, Sem.run_bind, run_newObj, Result.andThen_ok, Sem.run_pure]
    rw [show (Array.map (fun x => (#[] : Array Value)[x % (#[] : Array Value).size]!) (Array.range 0)) = #[] from by simp]
    rfl
  · simp only [if_neg h0, zeroValue, typeInfo, Sem.run_bind, run_program, Result.andThen_ok, hi, hz, Sem.run_pure, hzero, hfill, newRow, run_newObj]
    rfl
structure Left_ (K : TK) (B : Nat) (ro : Nat → Bool) (μ μ' : Nat → Nat × Nat) (mem mem' : List (Option Blk)) (w w' : World) : Prop where
  m : RelM K.u8 B μ' mem' w'
  e : ExtM mem.length μ μ'
  l : mem.length ≤ mem'.length
  b : Below B w w'
  sa : SameAt ro μ mem w w'
  rm : ∀ b k, ro b = true → mem[b]? = some (some k) → mem'[b]? = some (some k)
theorem Left_.refl {ro : Nat → Bool} {mem : List (Option Blk)} (h : RelM K.u8 B μ mem w) : Left_ K B ro μ μ mem mem w w := ⟨h, ExtM.refl, Nat.le_refl _, Below.refl _ _, fun _ _ _ _ => rfl, fun _ _ _ h => h⟩
theorem newVar_ok {ro : Nat → Bool} {T : Nat} {mem : List (Option Blk)} {cs : List FV} {vs : List Value} (hm : RelM K.u8 B μ mem w) (hv : RelL mem.length μ cs vs) :
    Left_ K B ro μ (updM μ mem.length (w.heap.size, 0)) mem (mem ++ [some (.var cs)]) w (w.alloc (.cells vs.toArray T)) ∧ RelF (mem.length + 1) (updM μ mem.length (w.heap.size, 0)) (.ptr mem.length 0) (.pointer (some ⟨w.heap.size, 0, none⟩)) := by
  have hb := below_box w (.cells vs.toArray T)
  have hs := size_box w (.cells vs.toArray T)
  refine ⟨⟨hm.new (by omega) (fun i k hi => hb.block _ (hm.at_ i k hi).2.1) hm.base (by show _ < (World.alloc w _).heap.size; omega) (fun i k hi e => ?_) ?_, updM_ext, by simp, hb.mono hm.base, fun b k _ hk => hb.block _ (hm.at_ b k hk).2.1, fun b k _ hk => live_app hk⟩, by omega, by rw [updM_same]⟩
  · have := (hm.at_ i k hi).2.1
    dsimp only at e
    omega
  · refine ⟨vs, hv.ext updM_ext (by omega), ?_, ?_⟩ <;> rw [updM_same]
    · exact fun j v hj => cell_box w vs T hj
    · exact there_box w vs T
theorem evX_ok (ok : TKK P K) {ro : Nat → Bool} {m : MOp} {a : AV} {mem' : List (Option Blk)} (h : evX K ro s m = some (d, a, mem')) (hs : RelS s.mem.length μ s.sl ρ) (hm : RelM K.u8 B μ s.mem w) (hN : m.inN N = true) :
    d < N ∧ ∃ v w' μ', MR P N m ρ w d v w' ∧ RelA mem'.length μ' a v ∧ Left_ K B ro μ μ' s.mem mem' w w' := by
  cases m <;> simp only [evX, reduceCtorEq] at h
  all_goals simp only [MOp.inN, Bool.and_eq_true, Nat.blt_eq] at hN
  case al d' T =>
    simp only [Option.map_eq_some_iff, Prod.mk.injEq] at h
    obtain ⟨⟨z, pl⟩, hr, rfl, rfl, rfl⟩ := h
    obtain ⟨_, _, hz, _⟩ := ok.rows hr
    obtain ⟨g1, g2⟩ := newVar_ok (K := K) (ro := ro) (T := T) hm (RelL.vals z)
    exact ⟨hN, _, _, _, MR.al (z := .agg (z.map MVal.val).toArray) hz, by rw [List.length_append, List.length_singleton]; exact g2, g1⟩
  case bx d' T t =>
    have hr := hs.slot t
    split at h <;> try (cases h; done)
    · rename_i l e
      rw [e] at hr
      simp only [Option.some.injEq, Prod.mk.injEq] at h
      obtain ⟨rfl, rfl, rfl⟩ := h
      obtain ⟨vs, hv, e2⟩ := hr
      obtain ⟨g1, g2⟩ := newVar_ok (K := K) (ro := ro) (T := T) hm hv
      have := MR.bx (P := P) (N := N) (ρ := ρ) (w := w) (d := d') (T := T) hN.2
      rw [e2] at this
      exact ⟨hN.1, _, _, _, this, by rw [List.length_append, List.length_singleton]; exact g2, g1⟩
    · rename_i x e
      rw [e] at hr
      split at h <;> try (cases h; done)
      rename_i hk
      simp only [Option.some.injEq, Prod.mk.injEq] at h
      obtain ⟨rfl, rfl, rfl⟩ := h
      obtain ⟨g1, g2⟩ := newVar_ok (K := K) (ro := ro) (T := T) (cs := [x]) (vs := [ρ t]) hm ⟨hr, trivial⟩
      have := MR.bx (P := P) (N := N) (ρ := ρ) (w := w) (d := d') (T := T) hN.2
      rw [(RelF.one hr hk).1] at this
      exact ⟨hN.1, _, _, _, this, by rw [List.length_append, List.length_singleton]; exact g2, g1⟩
  case bdl d' T ps =>
    split at h <;> try (cases h; done)
    rename_i z pl hr
    simp only [Option.map_eq_some_iff, Prod.mk.injEq] at h
    obtain ⟨l, h1, rfl, rfl, rfl⟩ := h
    obtain ⟨us, g1, g2⟩ := fillF_ok hs h1 (RelL.vals z)
    refine ⟨hN.1, _, w, μ, MR.bdl (built_any ok hr g2 w) (fun p hp => List.all_eq_true.1 hN.2 p hp), ⟨us, g1, rfl⟩, Left_.refl hm⟩
  case bsl d' T xs =>
    split at h <;> try (cases h; done)
    rename_i hT
    simp only [Bool.and_eq_true, Nat.beq_eq, Nat.ble_eq] at hT
    obtain ⟨rfl, hle⟩ := hT
    have gen : ∀ {l : List Nat}, octX s xs = some l → MR P N (.bsl d' K.u8s xs) ρ w d' (.slice (some ⟨w.heap.size, 0, none⟩) l.length l.length) (w.alloc (.cells ((l.map UInt8.ofNat).map byteV).toArray K.u8)) := by
      intro l hl
      obtain ⟨g1, g2⟩ := octX_ok hs hl
      have := octs_run (P := P) (N := N) (w := w) (ρ := ρ) (d := d') ok.u8s ok.u8 g1 hle (fun x hx => List.all_eq_true.1 hN.2 x hx)
      rw [map_bytes] at this
      exact this
    split at h <;> try (cases h; done)
    · rename_i hl
      simp only [Option.some.injEq, Prod.mk.injEq] at h
      obtain ⟨rfl, rfl, rfl⟩ := h
      have hb := below_box w (.cells (([].map UInt8.ofNat).map byteV).toArray K.u8)
      exact ⟨hN.1, _, _, μ, gen hl, ⟨w.heap.size, 0, _, rfl⟩, ⟨hm.keep hb.size (fun i k hi => hb.block _ (hm.at_ i k hi).2.1), ExtM.refl, Nat.le_refl _, hb.mono hm.base, fun b k _ hk => hb.block _ (hm.at_ b k hk).2.1, fun _ _ _ h => h⟩⟩
    · rename_i q l hl
      simp only [Option.some.injEq, Prod.mk.injEq] at h
      obtain ⟨rfl, rfl, rfl⟩ := h
      have hb := below_box w (.cells (((q :: l).map UInt8.ofNat).map byteV).toArray K.u8)
      have hsz := size_box w (.cells (((q :: l).map UInt8.ofNat).map byteV).toArray K.u8)
      have hll : (q :: l).length ≤ 16 := by rw [(octX_ok hs hl).2]; exact hle
      refine ⟨hN.1, _, _, updM μ s.mem.length (w.heap.size, (q :: l).length), gen hl, ⟨by simp, by rw [updM_same], by rw [updM_same]; exact Nat.le_refl _⟩, ⟨?_, updM_ext, by simp, hb.mono hm.base, fun b k _ hk => hb.block _ (hm.at_ b k hk).2.1, fun b k _ hk => live_app hk⟩⟩
      refine hm.new hb.size (fun i k hi => hb.block _ (hm.at_ i k hi).2.1) hm.base (by show _ < (World.alloc w _).heap.size; omega) (fun i k hi e => ?_) ?_
      · have := (hm.at_ i k hi).2.1
        dsimp only at e
        omega
      · show OwnB _ _ _ _ _
        rw [updM_same]
        refine ⟨by simp, .inr ⟨w.heap.size, (q :: l).length, (((q :: l).map UInt8.ofNat).map byteV).toArray, by rw [map_bytes], hm.base, ?_, by rw [map_bytes]; exact Nat.le_refl _, by simp only [maxLen]; omega, by simp, ?_⟩⟩
        rotate_left
        · rw [map_bytes, Nat.mul_one]
          exact List.take_of_length_le (by simp)
        show (w.heap.push _)[w.heap.size]? = _
        simp
  case ap d' T U x y =>
    split at h <;> try (cases h; done)
    rename_i hT
    rw [Nat.beq_eq] at hT
    subst hT
    simp only [Option.bind_eq_some_iff, Option.map_eq_some_iff, Prod.mk.injEq] at h
    obtain ⟨l, h1, ⟨a', m'⟩, h2, rfl, h3⟩ := h
    simp only [Prod.mk.injEq] at h3
    obtain ⟨rfl, rfl⟩ := h3
    obtain ⟨sv, w', μ', g1, g2, g3, g4, g5, g6, g7⟩ := apV_ok ok h2 hm (hs.slot x) (srcV_ok ok h1 hm (hs.slot y))
    exact ⟨hN.1.1, sv, w', μ', MR.apBy (g1 0) g1 hN.1.2 hN.2, g2, ⟨g3, g4, g5, g6, g7, apV_ro h2⟩⟩
  case apk d' T U y =>
    split at h <;> try (cases h; done)
    rename_i hT
    rw [Nat.beq_eq] at hT
    subst hT
    simp only [Option.bind_eq_some_iff, Option.map_eq_some_iff, Prod.mk.injEq] at h
    obtain ⟨l, h1, ⟨a', m'⟩, h2, rfl, h3⟩ := h
    simp only [Prod.mk.injEq] at h3
    obtain ⟨rfl, rfl⟩ := h3
    obtain ⟨sv, w', μ', g1, g2, g3, g4, g5, g6, g7⟩ := apV_ok (v := .slice none 0 0) ok h2 hm rfl (srcV_ok ok h1 hm (hs.slot y))
    exact ⟨hN.1, sv, w', μ', MR.apk g1 hN.2, g2, ⟨g3, g4, g5, g6, g7, apV_ro h2⟩⟩
theorem SameAt.trans {ro : Nat → Bool} {μ' : Nat → Nat × Nat} {mem mem' : List (Option Blk)} {w'' : World} (h : SameAt ro μ mem w w') (rm : ∀ b k, ro b = true → mem[b]? = some (some k) → mem'[b]? = some (some k)) (he : ExtM mem.length μ μ') (h2 : SameAt ro μ' mem' w' w'') : SameAt ro μ mem w w'' := by
  intro b k hr hb
  have e := he b (List.getElem?_eq_some_iff.1 hb).1
  have := h2 b k hr (rm b k hr hb)
  rw [e] at this
  rw [this, h b k hr hb]
theorem Left_.trans {ro : Nat → Bool} {μ1 μ2 : Nat → Nat × Nat} {mem mem1 mem2 : List (Option Blk)} {w1 w2 : World} (h : Left_ K B ro μ μ1 mem mem1 w w1) (k : Left_ K B ro μ1 μ2 mem1 mem2 w1 w2) : Left_ K B ro μ μ2 mem mem2 w w2 :=
  ⟨k.m, h.e.trans k.e h.l, Nat.le_trans h.l k.l, h.b.trans k.b, h.sa.trans h.rm h.e k.sa, fun b q hr hb => k.rm b q hr (h.rm b q hr hb)⟩
theorem Left_.mono {ro ro' : Nat → Bool} {μ1 : Nat → Nat × Nat} {mem mem1 : List (Option Blk)} {w1 : World} (h : Left_ K B ro μ μ1 mem mem1 w w1) (hr : ∀ b, ro' b = true → ro b = true) : Left_ K B ro' μ μ1 mem mem1 w w1 :=
  ⟨h.m, h.e, h.l, h.b, fun b k hb => h.sa b k (hr b hb), fun b k hb => h.rm b k (hr b hb)⟩
theorem RelM.store {b : Nat} {cs cs' : List FV} {vs' : List Value} {o : Nat} {us : List Value} {mem : List (Option Blk)} (hm : RelM K.u8 B μ mem w) (hb : mem[b]? = some (some (.var cs)))
    (hv' : RelL mem.length μ cs' vs') (hr : (w.setCells (μ b).1 o us).rangeAt (μ b).1 0 vs') (ht : (w.setCells (μ b).1 o us).there (μ b).1 0 vs'.length) : RelM K.u8 B μ (mem.set b (some (.var cs'))) (w.setCells (μ b).1 o us) := by
  have hsz := size_setCells (μ b).1 us o w
  have hcase : ∀ i l, (mem.set b (some (.var cs')))[i]? = some (some l) → (i = b ∧ l = .var cs') ∨ (i ≠ b ∧ mem[i]? = some (some l)) := by
    intro i l hi
    by_cases e : i = b
    · subst e
      rw [List.getElem?_set_self (List.getElem?_eq_some_iff.1 hb).1] at hi
      simp only [Option.some.injEq] at hi
      exact .inl ⟨rfl, hi.symm⟩
    · rw [List.getElem?_set_ne (fun x => e x.symm)] at hi
      exact .inr ⟨e, hi⟩
  obtain ⟨q1, q2, _⟩ := hm.at_ b _ hb
  refine ⟨by have := hm.base; omega, fun i l hi => ?_, fun i j l l' hi hj hij => ?_⟩
  · rw [List.length_set]
    rcases hcase i l hi with ⟨rfl, rfl⟩ | ⟨hne, h1⟩
    · exact ⟨q1, by omega, vs', hv', hr, ht⟩
    · obtain ⟨g1, g2, g3⟩ := hm.at_ i l h1
      exact ⟨g1, by omega, g3.keep ExtM.refl (Nat.le_refl _) (List.getElem?_eq_some_iff.1 h1).1 (setCells_other _ _ _ _ _ (hm.inj i b l _ h1 hb hne))⟩
  · have liv : ∀ i l, (mem.set b (some (.var cs')))[i]? = some (some l) → ∃ l0, mem[i]? = some (some l0) := fun i l hi => by
      rcases hcase i l hi with ⟨rfl, _⟩ | ⟨_, h1⟩
      · exact ⟨_, hb⟩
      · exact ⟨_, h1⟩
    obtain ⟨l0, h0⟩ := liv i l hi
    obtain ⟨l1, h1⟩ := liv j l' hj
    exact hm.inj i j l0 l1 h0 h1 hij
theorem range_spl {b o : Nat} {vs us : List Value} (h : w.rangeAt b 0 vs) (ht : w.there b 0 vs.length) (hk : o + us.length ≤ vs.length) : (w.setCells b o us).rangeAt b 0 (splice o us vs) := by
  have ht' : w.there b o us.length := by have := there_in (k := o) (m := us.length) ht hk; rwa [Nat.zero_add] at this
  have hs := World.rangeAt_setCells_same w b o us ht'
  intro j v hj
  unfold splice at hj
  by_cases h1 : j < o
  · rw [List.append_assoc, List.getElem?_append_left (by simp; omega), List.getElem?_take_of_lt h1] at hj
    rw [World.cell?_setCells_out b us o w ⟨b, 0 + j, none⟩ (fun _ _ => by simp only; omega)]
    exact h j v hj
  · by_cases h2 : j < o + us.length
    · rw [List.append_assoc, List.getElem?_append_right (by simp; omega), List.getElem?_append_left (by simp; omega)] at hj
      have := hs (j - o) v (by rw [← hj]; congr 1; simp; omega)
      rwa [show o + (j - o) = 0 + j from by omega] at this
    · rw [List.getElem?_append_right (by simp; omega), List.getElem?_drop] at hj
      rw [World.cell?_setCells_out b us o w ⟨b, 0 + j, none⟩ (fun _ _ => by simp only; omega)]
      refine h j v ?_
      rw [← hj]; congr 1; simp; omega
theorem evS_ok (ok : TKK P K) {ro : Nat → Bool} {ty p : Nat} {a : AV} {v : Value} {mem' : List (Option Blk)} (h : evS K ro s ty p a = some mem') (hs : RelS s.mem.length μ s.sl ρ) (hm : RelM K.u8 B μ s.mem w) (ha : RelA s.mem.length μ a v) :
    ∃ b o, ρ p = .pointer (some ⟨b, o, none⟩) ∧ cellsB P ty v.cells.size = true ∧ w.there b o v.cells.size ∧ v.cells.all (·.oneCell') = true ∧ Left_ K B ro μ μ s.mem mem' w (w.setCells b o v.cells.toList) := by
  unfold evS at h
  have hp := hs.slot p
  split at h <;> try (cases h; done)
  rename_i b o e
  rw [e] at hp
  obtain ⟨hbl, hp⟩ := hp
  split at h <;> try (cases h; done)
  rename_i hro
  split at h <;> try (cases h; done)
  rename_i cs hb
  have hb' := blk_mem hb
  obtain ⟨q1, q2, vs, hv, hr, ht⟩ := hm.at_ _ _ hb'
  have hlen := hv.len
  have fin : ∀ {us : List Value} {l : List FV} {mem' : List (Option Blk)}, v.cells = us.toArray → RelL s.mem.length μ l us → us.all (·.oneCell') = true → cellsB P ty us.length = true → o + us.length ≤ vs.length → s.mem.set b (some (.var (cs.take o ++ l ++ cs.drop (o + l.length)))) = mem' →
      ∃ b' o', ρ p = .pointer (some ⟨b', o', none⟩) ∧ cellsB P ty v.cells.size = true ∧ w.there b' o' v.cells.size ∧ v.cells.all (·.oneCell') = true ∧ Left_ K B ro μ μ s.mem mem' w (w.setCells b' o' v.cells.toList) := by
    rintro us l mem' hc hu h1 hn hle rfl
    have ht' : w.there (μ b).1 o us.length := by have := there_in (k := o) (m := us.length) ht hle; rwa [Nat.zero_add] at this
    refine ⟨(μ b).1, o, hp, by rw [hc]; simpa using hn, by rw [hc]; simpa using ht', by rw [hc]; simpa using h1, ?_⟩
    rw [hc]
    have hsp : (splice o us vs).length = vs.length := splice_len hle
    refine ⟨hm.store hb' (hv.splice hu o) (range_spl hr ht hle) (by rw [hsp]; exact World.there_setCells ht _ _ _), ExtM.refl, by simp, below_setCells q1 _ _ (Below.refl _ _), fun i k hi hk => ?_, fun i k hi hk => live_set hk (by rintro rfl; exact hro hi)⟩
    exact setCells_other _ _ _ _ _ (hm.inj i b k _ hk hb' (by rintro rfl; exact hro hi))
  split at h <;> try (cases h; done)
  · rename_i x
    split at h <;> try (cases h; done)
    rename_i hc
    simp only [Bool.and_eq_true, Nat.blt_eq] at hc
    obtain ⟨⟨h1, h2⟩, h3⟩ := hc
    simp only [Option.some.injEq] at h
    obtain ⟨k1, k2⟩ := RelF.one ha h1
    exact fin (us := [v]) (l := [x]) k1 ⟨ha, trivial⟩ (by simp [k2]) (ok.plain h2).2 (by simp; omega) h
  · rename_i l
    split at h <;> try (cases h; done)
    rename_i z pl hr'
    split at h <;> try (cases h; done)
    rename_i hc
    simp only [Bool.and_eq_true, Nat.beq_eq, Nat.ble_eq] at hc
    obtain ⟨⟨h1, h2⟩, h3⟩ := hc
    simp only [Option.some.injEq] at h
    obtain ⟨us, hu, e3⟩ := ha
    have hl := hu.len
    exact fin (us := us) (l := l) (by rw [e3]; rfl) hu (hu.one h2) (by rw [hl, ← h1]; exact (ok.rows hr').2.1) (by omega) h
end
inductive RK where
  | no
  | r1 (r : Nat)
  | r2 (a b : Nat)
  | c (s ty : Nat)
  | cr (s ty r : Nat)
structure FE where
  f : Nat
  N : Nat
  m : MCode
  k : RK
def feB (P : Program) (e : FE) : Bool :=
  match e.k with
  | .no => isFn0 P e.f e.m e.N
  | .r1 r => Nat.blt r e.N && isFn P e.f e.m e.N r
  | .r2 a b => Nat.blt a e.N && Nat.blt b e.N && isFn2 P e.f e.m e.N a b
  | .c s ty => Nat.blt s e.N && isFnC P e.f e.m e.N s ty
  | .cr s ty r => Nat.blt s e.N && Nat.blt r e.N && isFnM P e.f e.m e.N s ty [r]
inductive AX where
  | nm
  | ex (id : Nat)
  | rt
def AX.exit : AX → Exit
  | .nm => .normal
  | .ex id => .exit id
  | .rt => .ret
def lookF : List FE → Nat → Option FE
  | [], _ => none
  | e :: r, f => bif Nat.beq e.f f then some e else lookF r f
theorem lookF_mem : ∀ {l : List FE} {f : Nat} {e : FE}, lookF l f = some e → e ∈ l ∧ e.f = f
  | [], f, e, h => by simp [lookF] at h
  | q :: r, f, e, h => by
    simp only [lookF] at h
    cases hb : Nat.beq q.f f
    · rw [hb] at h; exact ⟨List.mem_cons_of_mem _ (lookF_mem h).1, (lookF_mem h).2⟩
    · rw [hb] at h
      simp only [cond_true, Option.some.injEq] at h
      rw [Nat.beq_eq] at hb
      subst h
      exact ⟨List.mem_cons_self, hb⟩
def resC (K : TK) (s : St) (st ty : Nat) : Option (List FV) :=
  match s.slot st with
  | .f (.ptr b o) => (match s.blk b with | some k => (match ldV K ty o k with | some (.g l) => some l | _ => none) | none => none)
  | _ => none
def outV (K : TK) (s : St) : RK → AX → Option AV
  | .no, .nm => some (.f .uk)
  | .no, .rt => some (.f .uk)
  | .r1 r, .rt => some (s.slot r)
  | .r2 a b, .rt => (match s.slot a, s.slot b with | .f x, .f y => some (.t2 x y) | _, _ => none)
  | .c st ty, .rt => (resC K s st ty).map .g
  | .cr st ty r, .rt => (match s.slot r with | .f y => (resC K s st ty).map fun l => .tg l y | _ => none)
  | _, _ => none
abbrev Rec := Nat → MCode → St → (Nat → Bool) → Option (AX × St)
def callF (K : TK) (fs : List FE) (rec : Rec) (ro : Nat → Bool) (mem : List (Option Blk)) (f : Nat) (args : List AV) : Option (AV × List (Option Blk)) :=
  (lookF fs f).bind fun e => if Nat.ble args.length e.N then (rec e.N e.m ⟨args, mem⟩ ro).bind fun r => (outV K r.2 e.k r.1).map fun v => (v, r.2.mem) else none
def evQX (K : TK) (kp ro : Nat → Bool) (s : St) (m : MOp) : Option St :=
  match evQ K kp s m with
  | some r => some (s.put r.1 r.2)
  | none => (evX K ro s m).map fun r => ⟨setD s.sl r.1 r.2.1, r.2.2⟩
def zOne (K : TK) (fs : List FE) (rec : Rec) (N : Nat) (kp ro : Nat → Bool) (s : St) (m : MOp) : Option St :=
  if m.inN N then (match m with
    | .ca d f xs => (callF K fs rec ro s.mem f (xs.map s.x)).map fun r => ⟨setD s.sl d r.1, r.2⟩
    | .st ty p x => (evS K ro s ty p (s.slot x)).map fun mem => ⟨s.sl, mem⟩
    | .stc ty p c => (evS K ro s ty p (.f (.m c))).map fun mem => ⟨s.sl, mem⟩
    | m => evQX K kp ro s m) else none
def evL (K : TK) (fs : List FE) (rec : Rec) (N : Nat) (ro : Nat → Bool) : List MOp → St → Option St
  | [], s => some s
  | m :: ms, s => (zOne K fs rec N (fun _ => true) ro s m).bind fun s => evL K fs rec N ro ms s
def MOp.isStc : MOp → Bool
  | .stc _ _ _ => true
  | _ => false
def gOn (N : Nat) (s : St) : Option (Nat × Nat × Bool) → Option Bool
  | none => some true
  | some (_, t, c) => if Nat.blt t N then (match s.slot t with | .f (.m (.bool b)) => some (b == c) | _ => none) else none
def evG (K : TK) (fs : List FE) (rec : Rec) (N : Nat) (kp ro : Nat → Bool) : List GOp → St → Option St
  | [], s => some s
  | x :: r, s => (match gOn N s x.g with
    | some true => (match x.m with
      | .stc _ _ _ => none
      | m => (zOne K fs rec N kp (fun b => ro b || kp b) s m).bind fun s => evG K fs rec N kp ro r s)
    | some false => (match x.m.d? with
      | some d => if Nat.blt d N then evG K fs rec N kp ro r (s.put d (.f .uk)) else none
      | none => none)
    | none => none)
def isApp : MOp → Bool
  | .ap _ _ _ _ _ => true
  | .apk _ _ _ _ => true
  | _ => false
def stTo (s : St) : MOp → Option Nat
  | .st _ p _ => (match s.slot p with | .f (.ptr b _) => some b | _ => none)
  | _ => none
def kpOf (gs : List GOp) (s : St) : Nat → Bool := fun i => match s.blk i with
  | some (.var _) => !memN (gs.filterMap fun x => stTo s x.m) i
  | some (.row _) => !gs.any fun x => isApp x.m
  | none => false
/-! ### Regions of several orders -/
def evT (K : TK) (fs : List FE) (rec : Rec) (N : Nat) (kp ro : Nat → Bool) : GT → St → Option (List St)
  | .nil, s => some [s]
  | .q x t, s => if x.g.isNone && x.m.inN N then (match evQ K kp s x.m with | some r => evT K fs rec N kp ro t (s.put r.1 r.2) | none => none) else none
  | .one x t, s => if x.g.isNone && !x.m.isStc then (zOne K fs rec N kp (fun b => ro b || kp b) s x.m).bind fun s1 => evT K fs rec N kp ro t s1 else none
  | .two x y tx ty, s => if x.g.isNone && !x.m.isStc && y.g.isNone && !y.m.isStc then
      (zOne K fs rec N kp (fun b => ro b || kp b) s x.m).bind fun s1 => (evT K fs rec N kp ro tx s1).bind fun l1 =>
      (zOne K fs rec N kp (fun b => ro b || kp b) s y.m).bind fun s2 => (evT K fs rec N kp ro ty s2).map fun l2 => l1 ++ l2 else none
def sameV : MVal → MVal → Bool
  | .int k n, .int k' n' => sameKind k k' && sameInt n n'
  | .bool b, .bool b' => b == b'
  | .nslice, .nslice => true
  | .estr, .estr => true
  | .niface, .niface => true
  | .nptr, .nptr => true
  | _, _ => false
def sameF : FV → FV → Bool
  | .m a, .m b => sameV a b
  | .ptr b o, .ptr b' o' => Nat.beq b b' && Nat.beq o o'
  | .own b n, .own b' n' => Nat.beq b b' && Nat.beq n n'
  | .sl b o n, .sl b' o' n' => Nat.beq b b' && Nat.beq o o' && Nat.beq n n'
  | .es, .es => true
  | _, _ => false
def sameFs : List FV → List FV → Bool
  | [], [] => true
  | a :: l, b :: r => sameF a b && sameFs l r
  | _, _ => false
def sameNs : List Nat → List Nat → Bool
  | [], [] => true
  | a :: l, b :: r => Nat.beq a b && sameNs l r
  | _, _ => false
def sameA : AV → AV → Bool
  | .f a, .f b => sameF a b
  | _, _ => false
theorem sameV_eq {a b : MVal} (h : sameV a b = true) : a = b := by
  cases a <;> cases b <;> simp only [sameV, Bool.false_eq_true, Bool.and_eq_true, beq_iff_eq] at h <;> try rfl
  · rw [sameKind_eq h.1, sameInt_eq h.2]
  · rw [h]
theorem sameF_eq {a b : FV} (h : sameF a b = true) : a = b := by
  cases a <;> cases b <;> simp only [sameF, Bool.false_eq_true, Bool.and_eq_true, Nat.beq_eq] at h <;> try rfl
  · rw [sameV_eq h]
  · rw [h.1, h.2]
  · rw [h.1, h.2]
  · rw [h.1.1, h.1.2, h.2]
theorem sameFs_eq : ∀ {l r : List FV}, sameFs l r = true → l = r
  | [], [], _ => rfl
  | a :: l, b :: r, h => by
    simp only [sameFs, Bool.and_eq_true] at h
    rw [sameF_eq h.1, sameFs_eq h.2]
  | [], _ :: _, h => by simp [sameFs] at h
  | _ :: _, [], h => by simp [sameFs] at h
theorem sameNs_eq : ∀ {l r : List Nat}, sameNs l r = true → l = r
  | [], [], _ => rfl
  | a :: l, b :: r, h => by
    simp only [sameNs, Bool.and_eq_true, Nat.beq_eq] at h
    rw [h.1, sameNs_eq h.2]
  | [], _ :: _, h => by simp [sameNs] at h
  | _ :: _, [], h => by simp [sameNs] at h
theorem sameA_eq {a b : AV} (h : sameA a b = true) : a = b := by
  cases a <;> cases b <;> simp only [sameA, Bool.false_eq_true] at h
  rw [sameF_eq h]
def FV.below (n : Nat) : FV → Bool
  | .ptr b _ => Nat.blt b n
  | .own b _ => Nat.blt b n
  | .sl b _ _ => Nat.blt b n
  | _ => true
def canonOf (n d : Nat) (s : St) : Option (FV × Blk) :=
  match s.slot d with
  | .f (.ptr b 0) => if Nat.ble n b then (match s.blk b with | some (.var l) => some (.ptr n 0, .var l) | _ => none) else none
  | .f (.own b _) => if Nat.ble n b then (match s.blk b with | some (.row l) => some (.own n l.length, .row l) | _ => none) else none
  | _ => none
def okLeaf (n d : Nat) (keep : List Nat) (s0 : St) (c : FV × Blk) (s : St) : Bool :=
  (match c, s.slot d with
  | (.ptr m 0, .var l), .f (.ptr b 0) => Nat.beq m n && Nat.ble n b && l.all (FV.below n) && (match s.blk b with | some (.var l') => sameFs l l' | _ => false)
  | (.own m q, .row l), .f (.own b q') => Nat.beq m n && Nat.ble n b && Nat.beq q l.length && Nat.beq q' l.length && (match s.blk b with | some (.row l') => sameNs l l' | _ => false)
  | _, _ => false) && keep.all fun i => sameA (s.slot i) (s0.slot i)
def keepOnly (keep : List Nat) (s : St) : List AV := keep.foldr (fun i l => setD l i (s.slot i)) []
def zBody (K : TK) (fs : List FE) (rec : Rec) (N : Nat) (m : MCode) (s : St) (ro : Nat → Bool) : Option (AX × St) :=
  match m with
  | .rg ms => (evL K fs rec N ro ms s).map fun s => (.nm, s)
  | .gr _ gs => (evG K fs rec N (kpOf gs s) ro gs s).map fun s => (.nm, s)
  | .sq a b => (rec N a s ro).bind fun r => (match r.1 with | .nm => rec N b r.2 ro | _ => some r)
  | .cd t a b => if Nat.blt t N then (match s.slot t with | .f (.m (.bool c)) => bif c then rec N a s ro else rec N b s ro | _ => none) else none
  | .bl id b => (rec N b s ro).map fun r => (match r.1 with | .ex i => (if Nat.beq i id then .nm else .ex i, r.2) | _ => r)
  | .lp b => (rec N b s ro).bind fun r => (match r.1 with | .nm => rec N (.lp b) r.2 ro | _ => some r)
  | .ex id => some (.ex id, s)
  | .rt => some (.rt, s)
  | .sk => some (.nm, s)
  | .sc b => (match findM 0 b with | some _ => (rec N b s ro).bind fun r => (match r.1 with | .rt => some r | _ => none) | none => none)
  | .gx d keep t => (evT K fs rec N (fun i => (s.blk i).isSome) ro t s).bind fun ls => (match ls with
    | [] => none
    | l0 :: _ => (canonOf s.mem.length d l0).bind fun c => if ls.all (okLeaf s.mem.length d keep s c) then some (.nm, ⟨setD (keepOnly keep s) d (.f c.1), s.mem ++ [some c.2]⟩) else none)
  | _ => none
noncomputable def evC (K : TK) (fs : List FE) (n : Nat) : Rec := Nat.rec (fun _ _ _ _ => none) (fun _ rec N m s ro => zBody K fs rec N m s ro) n
section
variable {P : Program} {K : TK} {N B n : Nat} {μ : Nat → Nat × Nat} {ρ : Nat → Value} {w w' : World} {s : St} {d : Nat} {ms : List MOp} {Q : Exit → (Nat → Value) → World → Prop} {fs : List FE} {ro : Nat → Bool}
def Post (K : TK) (B : Nat) (ro : Nat → Bool) (μ : Nat → Nat × Nat) (mem : List (Option Blk)) (w : World) (x : AX) (sf : St) : Exit → (Nat → Value) → World → Prop := fun e ρ' w' =>
  e = x.exit ∧ ∃ μ', RelS sf.mem.length μ' sf.sl ρ' ∧ Left_ K B ro μ μ' mem sf.mem w w'
def RecOk (P : Program) (K : TK) (rec : Rec) : Prop := ∀ {B N : Nat} {m : MCode} {s : St} {ro : Nat → Bool} {x : AX} {sf : St}, rec N m s ro = some (x, sf) → ∀ {ρ : Nat → Value} {w : World} {μ : Nat → Nat × Nat}, RelS s.mem.length μ s.sl ρ → RelM K.u8 B μ s.mem w →
  RW P N m (Post K B ro μ s.mem w x sf) ρ w
theorem args_rel {xs : List MX} (hs : RelS n μ s.sl ρ) : RelS n μ (xs.map s.x) (args0 (xs.map (xof ρ))) := by
  intro i
  unfold args0
  rw [List.getD_eq_getElem?_getD, List.getD_eq_getElem?_getD, List.getElem?_map, List.getElem?_map]
  cases xs[i]? with
  | none => exact trivial
  | some x => exact hs.x x
theorem resC_ok (ok : TKK P K) {st ty : Nat} {l : List FV} (h : resC K s st ty = some l) (hs : RelS s.mem.length μ s.sl ρ) (hm : RelM K.u8 B μ s.mem w) :
    ∃ p vs, ρ st = .pointer (some p) ∧ (Instr.loadAt ty (.pointer (some p))).run P w = .ok (.agg vs.toArray) w ∧ RelL s.mem.length μ l vs := by
  unfold resC at h
  have hp := hs.slot st
  split at h <;> try (cases h; done)
  rename_i b o e
  rw [e] at hp
  split at h <;> try (cases h; done)
  rename_i k hb
  split at h <;> try (cases h; done)
  rename_i l' hl
  simp only [Option.some.injEq] at h
  subst h
  obtain ⟨u, ⟨vs, g1, rfl⟩, g2⟩ := ldV_ok ok hl (hm.at_ _ _ (blk_mem hb)).2.2
  exact ⟨_, vs, hp.2, g2 w rfl, g1⟩
def CallPost (K : TK) (B : Nat) (ro : Nat → Bool) (μ : Nat → Nat × Nat) (mem mem' : List (Option Blk)) (w : World) (a : AV) : Ending → World → Prop := fun e w' =>
  ∃ v μ', e = .returned v ∧ RelA mem'.length μ' a v ∧ Left_ K B ro μ μ' mem mem' w w'
theorem callF_ok (ok : TKK P K) (hF : ∀ e ∈ fs, feB P e = true) {rec : Rec} (hrec : RecOk P K rec) {mem mem' : List (Option Blk)} {f : Nat} {args : List AV} {vals : List Value} {a : AV} (h : callF K fs rec ro mem f args = some (a, mem'))
    (hl : args.length = vals.length) (hs : RelS mem.length μ args (args0 vals)) (hm : RelM K.u8 B μ mem w) : entersB P f = true ∧ Calls P f vals.toArray w (CallPost K B ro μ mem mem' w a) := by
  unfold callF at h
  simp only [Option.bind_eq_some_iff] at h
  obtain ⟨e, he, h⟩ := h
  obtain ⟨ef, eN, em, ek⟩ := e
  obtain ⟨hmem, hf0⟩ := lookF_mem he
  dsimp only at h hf0
  subst hf0
  split at h <;> try (cases h; done)
  rename_i hN
  rw [Nat.ble_eq] at hN
  simp only [Option.bind_eq_some_iff, Option.map_eq_some_iff, Prod.mk.injEq] at h
  obtain ⟨⟨x, sf⟩, h1, v, h2, rfl, rfl⟩ := h
  dsimp only at h2 ⊢
  have hfe := hF _ hmem
  have hw := hrec (B := B) h1 hs hm
  unfold feB at hfe
  dsimp only at hfe
  cases ek <;> cases x <;> simp only [outV, reduceCtorEq] at h2
  · simp only [Option.some.injEq] at h2
    subst h2
    have hf := FnIs0.of hfe
    refine ⟨hf.ent, hf.runs (by omega) (hw.mono ?_)⟩
    rintro ex ρ' w' ⟨rfl, μ', g1, g2⟩
    exact ⟨_, μ', rfl, trivial, g2⟩
  · skip
    simp only [Option.some.injEq] at h2
    subst h2
    have hf := FnIs0.of hfe
    refine ⟨hf.ent, hf.runs (by omega) (hw.mono ?_)⟩
    rintro ex ρ' w' ⟨rfl, μ', g1, g2⟩
    exact ⟨_, μ', rfl, trivial, g2⟩
  · rename_i r
    simp only [Bool.and_eq_true, Nat.blt_eq] at hfe
    simp only [Option.some.injEq] at h2
    subst h2
    have hf := FnIs.of hfe.2
    refine ⟨hf.ent, hf.runs (by omega) hfe.1 (hw.mono ?_)⟩
    rintro ex ρ' w' ⟨rfl, μ', g1, g2⟩
    exact ⟨_, μ', rfl, g1 r, g2⟩
  · rename_i r1 r2
    simp only [Bool.and_eq_true, Nat.blt_eq] at hfe
    split at h2 <;> try (cases h2; done)
    rename_i a b e1 e2
    simp only [Option.some.injEq] at h2
    subst h2
    have hf := FnIs2.of hfe.2
    refine ⟨hf.ent, hf.runs (by omega) hfe.1.1 hfe.1.2 (hw.mono ?_)⟩
    rintro ex ρ' w' ⟨rfl, μ', g1, g2⟩
    have q1 := RelS.slot (s := sf) g1 r1
    have q2 := RelS.slot (s := sf) g1 r2
    rw [e1] at q1; rw [e2] at q2
    exact ⟨_, μ', rfl, ⟨_, _, q1, q2, rfl⟩, g2⟩
  · rename_i st ty
    simp only [Bool.and_eq_true, Nat.blt_eq] at hfe
    simp only [Option.map_eq_some_iff] at h2
    obtain ⟨l, h2, rfl⟩ := h2
    have hf := FnIsC.of hfe.2
    refine ⟨hf.ent, hf.runs (by omega) hfe.1 (hw.mono ?_)⟩
    rintro ex ρ' w' ⟨rfl, μ', g1, g2⟩
    obtain ⟨p, vs, k1, k2, k3⟩ := resC_ok ok h2 g1 g2.m
    exact ⟨p, _, k1, k2, _, μ', rfl, ⟨vs, k3, rfl⟩, g2⟩
  · rename_i st ty r
    simp only [Bool.and_eq_true, Nat.blt_eq] at hfe
    split at h2 <;> try (cases h2; done)
    rename_i y e1
    simp only [Option.map_eq_some_iff] at h2
    obtain ⟨l, h2, rfl⟩ := h2
    have hf := FnIsM.of hfe.2
    refine ⟨hf.ent, hf.runs1 (by omega) hfe.1.1 hfe.1.2 (hw.mono ?_)⟩
    rintro ex ρ' w' ⟨rfl, μ', g1, g2⟩
    obtain ⟨p, vs, k1, k2, k3⟩ := resC_ok ok h2 g1 g2.m
    have q1 := RelS.slot (s := sf) g1 r
    rw [e1] at q1
    exact ⟨p, _, k1, k2, _, μ', rfl, ⟨vs, _, k3, q1, rfl⟩, g2⟩
end
end Go.Kx
