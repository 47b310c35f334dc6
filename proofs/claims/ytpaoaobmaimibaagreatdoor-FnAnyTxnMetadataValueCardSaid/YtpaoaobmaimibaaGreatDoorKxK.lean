/- readFrom's fields: plain ones, lists of plain ones; a field's versions; fields in a row. Conditions: the reader's contracts (RKOK), the plan's tests.
   readFrom's lists. Conditions: the reader's contracts (RKOK), the plan's tests.
   readFrom's lists: the loop, the elements, the whole field. Conditions: the reader's contracts (RKOK), the plan's tests. -/
import Derived.Test.YtpaoaobmaimibaaGreatDoorKxJ
import Derived.Lib.AppendZeros
namespace Go.Kx
open Go.RowKit
set_option linter.unusedSimpArgs false
set_option linter.unusedVariables false
def primR (R : RN) (sf : Option Nat) (T vs idx : Nat) (k : PK) (ty t x : Nat) : MCode × Nat :=
  let r := rdA R sf k x t
  (rows ((if k.two then [.rg [.mv x (.c k.zr)]] else []) ++ [r.1, (storeR T vs idx ty x r.2).1]), r.2 + 4)
def elemR (R : RN) (sf : Option Nat) (k : PK) (ty ety x t : Nat) : MCode × Nat :=
  let e := rdA R sf k (x + 4) t
  (rows ((if k.two then [.rg [.mv (x + 4) (.c k.zr)]] else []) ++ [e.1, .rg [.mv e.2 (.t (x + 1)), .mv (e.2 + 1) (.t (x + 3)), .mv (e.2 + 2) (.t (x + 4)), .ia (e.2 + 3) ty e.2 (e.2 + 1), .st ety (e.2 + 3) (e.2 + 2)]]), e.2 + 4)
def elemRU (R : RN) (ty ety x t : Nat) : MCode × Nat :=
  (rows [.rg [.ca t R.uuid [.t 7], .al (x + 4) ety, .st ety (x + 4) t], .rg [.mv (t + 1) (.t (x + 1)), .mv (t + 2) (.t (x + 3)), .ld (t + 3) ety (x + 4), .ia (t + 4) ty (t + 1) (t + 2), .st ety (t + 4) (t + 3)]], t + 5)
def elemU (R : RN) (sf : Option Nat) (k : PK) (ty ety x t : Nat) : MCode × Nat := match k with
  | .uuid => elemRU R ty ety x t
  | k => elemR R sf k ty ety x t
def loopR (R : RN) (x u b : Nat) (body : MCode) : MCode :=
  .sq (.rg [.mv (x + 3) (.c (.int .i32 0))]) (.bl b (.lp (.sq (.sq (.rg [.mv (u + 10) (.t (x + 3)), .mv (u + 11) (.t (x + 2)), .bi (u + 12) .lss R.T.i32 (.t (u + 10)) (.t (u + 11))]) (.cd (u + 12) .sk (.ex b)))
    (.sq (.bl (b + 1) body) (.rg [.mv (u + 13) (.t (x + 3)), .bi (u + 14) .add R.T.i32 (.t (u + 13)) (.c (.int .i32 1)), .mv (x + 3) (.t (u + 14))])))))
def makeR (R : RN) (ty x u : Nat) : List MCode :=
  [.sq (.rg [.ca u R.okf [.t 7], .nt (u + 1) u]) (.cd (u + 1) (.sq (.rg [.ca (u + 2) R.compl [.t 7], .mv 6 (.t (u + 2))]) .rt) .sk),
   .rg [.mv (u + 3) (.t (x + 1)), .sl (u + 4) ty (u + 3) none (some (.c (.int .i64 0))) none, .mv (x + 1) (.t (u + 4))],
   .sq (.rg [.mv (u + 5) (.t (x + 2)), .bi (u + 6) .gtr R.T.i32 (.t (u + 5)) (.c (.int .i32 0))]) (.cd (u + 6) (.rg [.mv (u + 7) (.t (x + 1)), .mv (u + 8) (.t (x + 2)), .ap (u + 9) ty R.T.i32 (u + 7) (u + 8), .mv (x + 1) (.t (u + 9))]) .sk)]
def lenR (R : RN) (sf : Option Nat) (x t : Nat) : MCode × Nat := ifFlex sf t (callR R.calen (x + 2)) (callR R.alen (x + 2))
def uuidR (R : RN) (T vs idx ty t x : Nat) : MCode × Nat :=
  (rows [.rg [.ca t R.uuid [.t 7], .al x ty, .st ty x t], .rg [.mv (t + 1) (.t vs), .ld (t + 2) ty x, .nc (t + 3) (t + 1), .fa (t + 4) T (t + 3) idx, .st ty (t + 4) (t + 2)]], t + 5)
def enumR (R : RN) (T vs idx : Nat) (k : PK) (ty t x : Nat) : MCode × Nat :=
  (rows [.rg [.mv x (.c (.int k.ik 0))], .sq (.rg [.ca t (R.fn k false) [.t 7], .mv (x + 1) (.t t)]) (.rg [.mv (t + 1) (.t (x + 1)), .mv x (.t (t + 1))]), .rg [.mv (t + 2) (.t x), .mv (x + 2) (.t (t + 2))], (storeR T vs idx ty (x + 2) (t + 3)).1], t + 7)
def primU (R : RN) (sf : Option Nat) (T vs idx : Nat) (k : PK) (ty t x : Nat) : MCode × Nat := match k with
  | .uuid => uuidR R T vs idx ty t x
  | k => primR R sf T vs idx k ty t x
def unsB (f base x t : Nat) : MCode × Nat := (.sq (.rg [.mv t (.t 2)]) (.cd t .any (.rg [.ca (t + 2) f [.t 7], .st base x (t + 2)])), t + 3)
def vstrR (R : RN) (sf : Option Nat) (T vs idx lim ty base t x : Nat) : MCode × Nat :=
  let y := ifFlex sf (t + 2) (unsB (R.fn .str true) base (x + 1)) (unsB (R.fn .str false) base (x + 1))
  let n := rdA R sf .nstr x y.2
  (rows [.rg [.mv x (.c .nptr)], .sq (.rg [.mv t (.t 8), .bi (t + 1) .lss R.T.i16 (.t t) (.c (.int .i16 lim))]) (.cd (t + 1) (.sq (.rg [.al (x + 1) base]) (.sq y.1 (.rg [.mv x (.t (x + 1))]))) n.1), (storeR T vs idx ty x n.2).1], n.2 + 4)
def nulT : Option Nat → Nat
  | none => 0
  | some _ => 7
def nulC (R : RN) (nul : Option Nat) (ty x u : Nat) : List MCode := match nul with
  | none => []
  | some nv => [.sq (.gr false [⟨0, none, .mv u (.t 8)⟩, ⟨1, none, .bi (u + 1) .lss R.T.i16 (.t u) (.c (.int .i16 nv))⟩, ⟨2, none, .mv (u + 2) (.t (u + 1))⟩, ⟨3, some (2, u + 2, false), .mv (u + 3) (.t (x + 2))⟩, ⟨4, some (2, u + 2, false), .bi (u + 4) .eql R.T.i32 (.t (u + 3)) (.c (.int .i32 0))⟩, ⟨5, none, .pk (u + 5) (.t (u + 2)) (.c (.bool true)) (.t (u + 4))⟩])
      (.cd (u + 5) (.rg [.bsl (u + 6) ty [], .mv (x + 1) (.t (u + 6))]) .sk)]
def arrR (R : RN) (sf : Option Nat) (nul : Option Nat) (T vs idx ty : Nat) (t x b : Nat) (body : Nat → MCode × Nat × Nat × Nat) : MCode × Nat × Nat × Nat :=
  let a := lenR R sf x (t + 5)
  let u := a.2 + nulT nul
  let e := body (u + 15)
  (rows ([(loadA T vs idx ty x t).1, .rg [.mv (t + 4) (.t x), .mv (x + 1) (.t (t + 4))], .rg [.mv (x + 2) (.c (.int .i32 0))], a.1] ++ (nulC R nul ty x a.2 ++ (makeR R ty x u ++
     [loopR R x u b e.1, .rg [.mv e.2.1 (.t (x + 1)), .mv x (.t e.2.1)], (storeR T vs idx ty x (e.2.1 + 1)).1]))), e.2.1 + 5, e.2.2.1, e.2.2.2)
def condR (R : RN) (c : Cnd) (t : Nat) (body : Nat → MCode × Nat × Nat × Nat) : MCode × Nat × Nat × Nat :=
  match c with
  | .always => body t
  | .ge lo =>
    let r := body (t + 2)
    (.sq (.rg [.mv t (.t 8), .bi (t + 1) .geq R.T.i16 (.t t) (.c (.int .i16 lo))]) (.cd (t + 1) r.1 .sk), r.2)
  | .btw lo hi =>
    let r := body (t + 6)
    (.sq (.tw 8 R.T.i16 lo hi t) (.cd (t + 5) r.1 .sk), r.2)
def krCase (R : RN) (T vs : Nat) (q : KT) (v c : Nat) : MCode :=
  rows [.rg [.ca (c + 2) R.uv [.t 7], .cv (c + 3) R.T.u32 R.T.int (c + 2), .ca (c + 4) R.span [.t 7, .t (c + 3)], .bdl (c + 5) R.tR [(0, .t (c + 4))], .al v R.tR, .st R.tR v (c + 5)],
    .rg [.ca (c + 6) (R.fn q.k false) [.t v], .mv (v + 1) (.t (c + 6))], (storeR T vs q.idx q.ty (v + 1) (c + 7)).1, .rg [.ca (c + 11) R.compl [.t v], .mv (v + 2) (.t (c + 11))],
    .sq (.rg [.mv (c + 12) (.t (v + 2)), .bi (c + 13) .neq R.tErr (.t (c + 12)) (.c .niface)]) (.cd (c + 13) (.sq (.rg [.mv (c + 14) (.t (v + 2)), .mv 6 (.t (c + 14))]) .rt) .sk)]
def krChain (R : RN) (T vs s : Nat) : List KT → (v c : Nat) → MCode → MCode
  | [], _, _, d => d
  | q :: r, v, c, d => .sq (.rg [.bi (c + 1) .eql R.T.u32 (.t s) (.c (.int .u32 q.tag)), .mv c (.t (c + 1))]) (.cd c (krCase R T vs q v c) (krChain R T vs s r (v + 3) (c + 15) d))
def krDflt (R : RN) (G : TG) (T vs idx x t : Nat) : MCode :=
  .gr true [⟨0, none, .mv (t + 8) (.t vs)⟩, ⟨1, none, .nc (t + 9) (t + 8)⟩, ⟨2, none, .fa (t + 10) T (t + 9) idx⟩, ⟨3, none, .mv (t + 11) (.t (x + 1))⟩, ⟨4, none, .ca (t + 12) R.uv [.t 7]⟩, ⟨5, none, .cv (t + 13) R.T.u32 R.T.int (t + 12)⟩,
    ⟨6, none, .ca (t + 14) R.span [.t 7, .t (t + 13)]⟩, ⟨7, none, .ca (t + 15) G.fSet [.t (t + 10), .t (t + 11), .t (t + 14)]⟩]
def krBody (R : RN) (G : TG) (T vs idx : Nat) (kn : List KT) (t x b : Nat) : MCode :=
  .sq (.rg [.ca (t + 1) R.uv [.t 7], .mv x (.t (t + 1))]) (.bl b (.lp (.sq (.sq (.rg [.mv (t + 2) (.t x), .bi (t + 3) .gtr R.T.u32 (.t (t + 2)) (.c (.int .u32 0))]) (.cd (t + 3) .sk (.ex b)))
    (.sq (.bl (b + 1) (.sq (.rg [.ca (t + 6) R.uv [.t 7], .mv (x + 1) (.t (t + 6))]) (.sq (.rg [.mv (t + 7) (.t (x + 1))]) (.bl (b + 2) (krChain R T vs (t + 7) kn (x + 2) (t + 16) (krDflt R G T vs idx x t))))))
      (.rg [.mv (t + 4) (.t x), .bi (t + 5) .sub R.T.u32 (.t (t + 4)) (.c (.int .u32 1)), .mv x (.t (t + 5))])))))
def tagsR (R : RN) (G : TG) (sf : Option Nat) (T vs : Nat) (tg : Option TgF) (t x b : Nat) : List MCode × Nat × Nat × Nat :=
  match tg, sf with
  | some ((idx, []), _), some s => ([.sq (.rg [.mv t (.t s)]) (.cd t (.rg [.mv (t + 1) (.t vs), .ca (t + 2) G.fRead [.t 7], .nc (t + 3) (t + 1), .fa (t + 4) T (t + 3) idx, .st G.tSt (t + 4) (t + 2)]) .sk)], t + 5, x, b)
  | some ((idx, q :: r), _), some s => ([.sq (.rg [.mv t (.t s)]) (.cd t (krBody R G T vs idx (q :: r) t x b) .sk)], t + 16 + 15 * (q :: r).length, x + 2 + 3 * (q :: r).length, b + 3)
  | _, _ => ([], t, x, b)
def elemH (ty fDef x t : Nat) : List MCode := [.rg [.mv t (.t (x + 1)), .mv (t + 1) (.t (x + 3)), .ia (t + 2) ty t (t + 1), .mv (x + 4) (.t (t + 2))], .rg [.mv (t + 3) (.t (x + 4)), .ca (t + 4) fDef [.t (t + 3)]], .rg [.mv (t + 5) (.t (x + 4)), .mv (x + 5) (.t (t + 5))]]
def subH (T vs idx fDef t x : Nat) : List MCode := [.rg [.mv t (.t vs), .nc (t + 1) t, .fa (t + 2) T (t + 1) idx, .mv x (.t (t + 2))], .rg [.mv (t + 3) (.t x), .ca (t + 4) fDef [.t (t + 3)]], .rg [.mv (t + 5) (.t x), .mv (x + 1) (.t (t + 5))]]
mutual
def genRFld (R : RN) (G : TG) (sf : Option Nat) : Ty → (T vs idx t x b : Nat) → MCode × Nat × Nat × Nat
  | .prim k ty, T, vs, idx, t, x, b => let r := primU R sf T vs idx k ty t x; (r.1, r.2, x + 1, b)
  | .arr nul ty ety el, T, vs, idx, t, x, b => arrR R sf nul T vs idx ty t x b (fun t => elR R G sf el ty ety t x b)
  | .enum k ty _, T, vs, idx, t, x, b => let r := enumR R T vs idx k ty t x; (r.1, r.2, x + 3, b)
  | .vstr lim ty base, T, vs, idx, t, x, b => let r := vstrR R sf T vs idx lim ty base t x; (r.1, r.2, x + 2, b)
  | .struct T' _ fDef tg fs, T, vs, idx, t, x, b =>
    let f := genRF R G sf fs T' (x + 1) (t + 6) (x + 2) b
    let g := tagsR R G sf T' (x + 1) tg f.2.1 f.2.2.1 f.2.2.2
    (rows (subH T vs idx fDef t x ++ (f.1 ++ g.1)), g.2)
def elR (R : RN) (G : TG) (sf : Option Nat) : Ty → (ty ety t x b : Nat) → MCode × Nat × Nat × Nat
  | .prim k _, ty, ety, t, x, b => let e := elemU R sf k ty ety x t; (e.1, e.2, x + 5, b + 2)
  | .struct T _ fDef tg fs, ty, ety, t, x, b =>
    let f := genRF R G sf fs T (x + 5) (t + 6) (x + 6) (b + 2)
    let g := tagsR R G sf T (x + 5) tg f.2.1 f.2.2.1 f.2.2.2
    (rows (elemH ty fDef x t ++ (f.1 ++ g.1)), g.2)
  | .arr _ _ _ _, ty, ety, t, x, b => (.any, t, x + 5, b + 2)
  | .enum _ _ _, ty, ety, t, x, b => (.any, t, x + 5, b + 2)
  | .vstr _ _ _, ty, ety, t, x, b => (.any, t, x + 5, b + 2)
def genRF (R : RN) (G : TG) (sf : Option Nat) : Flds → (T vs t x b : Nat) → List MCode × Nat × Nat × Nat
  | .nil, T, vs, t, x, b => ([], t, x, b)
  | .cons c idx _ _ ty rest, T, vs, t, x, b =>
    let f := condR R c t (fun t => genRFld R G sf ty T vs idx t x b)
    let r := genRF R G sf rest T vs f.2.1 f.2.2.1 f.2.2.2
    (f.1 :: r.1, r.2)
end

/-! ### A type's zero, the defaults of a struct -/
def toM : Value → Option MVal
  | .int k n => some (.int k n)
  | .bool b => some (.bool b)
  | v => [MVal.nslice, .estr, .niface, .nptr, .nmap, .flt].find? (fun m => m.is v)
theorem toM_eq {v : Value} {m : MVal} (h : toM v = some m) : v = m.val := by
  unfold toM at h
  split at h
  · simp only [Option.some.injEq] at h; subst h; rfl
  · simp only [Option.some.injEq] at h; subst h; rfl
  · exact MVal.is_eq (by simpa using List.find?_some h)
def toMs : List Value → Option (List MVal)
  | [] => some []
  | v :: vs => match toM v, toMs vs with
    | some m, some ms => some (m :: ms)
    | _, _ => none
theorem toMs_eq : ∀ {vs : List Value} {ms : List MVal}, toMs vs = some ms → vs = ms.map MVal.val
  | [], ms, h => by simp only [toMs, Option.some.injEq] at h; subst h; rfl
  | v :: vs, ms, h => by
    unfold toMs at h
    split at h
    · rename_i m ms' h1 h2
      simp only [Option.some.injEq] at h
      subst h
      rw [toM_eq h1, toMs_eq h2]; rfl
    · cases h
def zeroM (P : Program) (ety : Nat) : Option (List MVal) := match P.info? ety with
  | some i => (match i.zero with
    | some z => (match toMs z.cells.toList with
      | some zs => if Nat.beq zs.length i.size && Nat.ble i.bytes 65536 && Nat.blt 0 i.size then some zs else none
      | none => none)
    | none => none)
  | none => none
def ZE (P : Program) (ety ec : Nat) (zs : List Value) : Prop := ∃ i z, P.info? ety = some i ∧ i.zero = some z ∧ z.cells.toList = zs ∧ zs.length = ec ∧ i.size = ec ∧ i.bytes ≤ 65536 ∧ 0 < ec
theorem ze_of {P : Program} {ety : Nat} {zs : List MVal} (h : zeroM P ety = some zs) : ZE P ety zs.length (zs.map MVal.val) := by
  unfold zeroM at h
  split at h
  · rename_i i hi
    split at h
    · rename_i z hz
      split at h
      · rename_i ms hms
        split at h
        · rename_i hc
          simp only [Option.some.injEq] at h
          subst h
          simp only [Bool.and_eq_true, Nat.beq_eq, Nat.ble_eq, Nat.blt_eq] at hc
          obtain ⟨⟨h1, h2⟩, h3⟩ := hc
          exact ⟨i, z, hi, hz, toMs_eq hms, by simp, h1.symm, h2, by omega⟩
        · cases h
      · cases h
    · cases h
  · cases h
mutual
def dfOf (T idx off : Nat) (df : Int) : Ty → Option Df
  | .prim k ty => if sameInt df 0 then none else match k with
    | .bool => some (.st T idx off ty (.bool true))
    | k => some (.st T idx off ty (.int k.ik df))
  | .enum k ty _ => if sameInt df 0 then none else some (.st T idx off ty (.int k.ik df))
  | .vstr _ _ _ => none
  | .arr _ _ _ _ => none
  | .struct T' _ _ _ fs => some (.sub T idx off (dfsOf T' fs))
def dfsOf (T : Nat) : Flds → Dfs
  | .nil => .nil
  | .cons _ idx off df ty rest => match dfOf T idx off df ty with
    | some d => .cons d (dfsOf T rest)
    | none => dfsOf T rest
end

def eqLs (f : D → D → Bool) : List D → List D → Bool
  | [], [] => true
  | a :: as, b :: bs => f a b && eqLs f as bs
  | _, _ => false
theorem eqLs_eq {f : D → D → Bool} (hf : ∀ a b, f a b = true → a = b) : ∀ {as bs : List D}, eqLs f as bs = true → as = bs
  | [], [], _ => rfl
  | a :: as, b :: bs, h => by
    simp only [eqLs, Bool.and_eq_true] at h
    rw [hf a b h.1, eqLs_eq hf h.2]
  | [], _ :: _, h => by simp [eqLs] at h
  | _ :: _, [], h => by simp [eqLs] at h
def eqDb : D → D → Bool
  | .n a, .n b => sameInt a b
  | .s none, .s none => true
  | .s (some a), .s (some b) => eqB a b
  | .l a [], .l b [] => a == b
  | _, _ => false
theorem eqDb_eq {a b : D} (h : eqDb a b = true) : a = b := by
  unfold eqDb at h
  split at h
  · rw [sameInt_eq h]
  · rfl
  · rw [eqB_eq h]
  · rw [beq_iff_eq] at h; rw [h]
  · simp at h
def eqDn : Nat → D → D → Bool
  | 0 => eqDb
  | n + 1 => fun a b => match a, b with
    | .r a [], .r b [] => eqLs (eqDn n) a b
    | a, b => eqDb a b
theorem eqDn_eq : ∀ (n : Nat) (a b : D), eqDn n a b = true → a = b
  | 0, a, b, h => eqDb_eq h
  | n + 1, a, b, h => by
    unfold eqDn at h
    split at h
    · rw [eqLs_eq (eqDn_eq n) h]
    · exact eqDb_eq h
def eqD0 : D → D → Bool := eqDn 4
theorem eqD0_eq {a b : D} (h : eqD0 a b = true) : a = b := eqDn_eq 4 a b h
def zfB : Flds → List MVal → Bool
  | .nil, _ => true
  | .cons _ _ off df ty rest, cs => Nat.ble (off + ty.cells) cs.length && (match defT ty ((cs.drop off).take ty.cells) with | some d => eqD0 d (dfl ty df) | none => false) && zfB rest cs
def gapF : Flds → Nat → Bool
  | .nil, _ => true
  | .cons _ _ off _ ty r, j => (Nat.blt j off || Nat.ble (off + ty.cells) j) && gapF r j
def conT : Nat → List KT → Bool
  | _, [] => true
  | lo, q :: r => Nat.beq q.tag lo && conT (lo + 1) r
def ascO : Nat → List KT → Bool
  | _, [] => true
  | lo, q :: r => Nat.ble lo q.off && ascO (q.off + 1) r
def krB (P : Program) (R : RN) (G : TG) (T m : Nat) (fs : Flds) (kn : List KT) : Bool :=
  kn.isEmpty || (kn.all (fun q => fieldAtB P T q.idx q.off && cellsB P q.ty 1 && q.k.isNum && !(Nat.beq (R.fn q.k false) 0) && Nat.blt q.off m && gapF fs q.off && Nat.blt q.tag 1000) && conT 0 kn && ascO 0 kn && Nat.blt kn.length 1000 &&
    !(Nat.beq G.fRead 0) && ifaceTy P R.tErr && zeroIs P R.tR [.nslice, .bool false] && plcB P R.tR 2 && cellsB P R.tR 2 && !(Nat.beq R.uv 0) && !(Nat.beq R.span 0) && !(Nat.beq R.T.u32 0))
def preN (tg : Option TgF) (n : Nat) : Nat := match tg with | none => n | some q => q.2
def elB (P : Program) (R : RN) (G : TG) (ety T n fDef : Nat) (tg : Option TgF) (fs : Flds) : Bool := match zeroM P ety with
  | some zs => Nat.beq zs.length n && isFn0 P fDef (rows (genD 0 (dfsOf T fs) (defT0 (dfsOf T fs)) 2).1) (genD 0 (dfsOf T fs) (defT0 (dfsOf T fs)) 2).2.1 && okD P n (dfsOf T fs) 0 && Nat.ble (genD 0 (dfsOf T fs) (defT0 (dfsOf T fs)) 2).2.2 (defT0 (dfsOf T fs)) &&
      zfB fs ((putM (dfsOf T fs) 0 zs).take (preN tg n)) && cellsB P ety n && (match tg with | none => true | some q => Nat.beq n (q.2 + 1) && fieldAtB P T q.1.1 q.2 && krB P R G T q.2 fs q.1.2 && defTag tg (putM (dfsOf T fs) 0 zs) && !(Nat.beq G.fRead 0))
  | none => false
def Dfs.isNil : Dfs → Bool
  | .nil => true
  | _ => false
def subB (P : Program) (R : RN) (G : TG) (T n fDef : Nat) (tg : Option TgF) (fs : Flds) : Bool := (dfsOf T fs).isNil && isFn0 P fDef (rows (genD 0 (dfsOf T fs) (defT0 (dfsOf T fs)) 2).1) (genD 0 (dfsOf T fs) (defT0 (dfsOf T fs)) 2).2.1 && okD P n (dfsOf T fs) 0 && Nat.ble (genD 0 (dfsOf T fs) (defT0 (dfsOf T fs)) 2).2.2 (defT0 (dfsOf T fs)) &&
  Nat.ble (preN tg n) n && (match tg with | none => true | some q => Nat.beq n (q.2 + 1) && fieldAtB P T q.1.1 q.2 && krB P R G T q.2 fs q.1.2 && !(Nat.beq G.fRead 0))
def arrB (P : Program) (R : RN) (sf : Option Nat) (ty ety ec : Nat) : Bool := cellsB P ty 1 && plainTy P ty && sliceOf P ty ety && cellsB P ety ec && (match zeroM P ety with | some zs => Nat.beq zs.length ec | none => false) && !(Nat.beq R.alen 0) && !(Nat.beq R.okf 0) && (match sf with | none => true | some _ => !(Nat.beq R.calen 0)) && intTy P R.T.i32 .i32
def uuB (P : Program) (k : PK) (ty : Nat) : Bool := match k with | .uuid => rowTy P ty && zeroIs P ty (List.replicate 16 (.int .u8 0)) | _ => true
def enumK (k : PK) : Bool := match k with | .i8 | .i16 | .i32 => true | _ => false
mutual
def wfRFld (P : Program) (R : RN) (G : TG) (sf : Option Nat) : Ty → Bool
  | .prim k ty => rdOk R sf k && cellsB P ty k.cells && uuB P k ty
  | .arr _ ty ety el => arrB P R sf ty ety el.cells && wfEl P R G sf el ety
  | .enum k ty _ => enumK k && !(Nat.beq (R.fn k false) 0) && cellsB P ty 1
  | .vstr _ ty base => rdOk R sf .str && rdOk R sf .nstr && cellsB P ty 1 && zOneB P base && cellsB P base 1
  | .struct T n fDef tg fs => subB P R G T n fDef tg fs && wfRF P R G sf fs T (preN tg n) 0
def wfEl (P : Program) (R : RN) (G : TG) (sf : Option Nat) : Ty → (ety : Nat) → Bool
  | .prim k _, ety => rdOk R sf k && cellsB P ety k.cells && uuB P k ety
  | .struct T n fDef tg fs, ety => elB P R G ety T n fDef tg fs && wfRF P R G sf fs T (preN tg n) 0
  | .arr _ _ _ _, ety => false
  | .enum _ _ _, ety => false
  | .vstr _ _ _, ety => false
def wfRF (P : Program) (R : RN) (G : TG) (sf : Option Nat) : Flds → (T n k : Nat) → Bool
  | .nil, T, n, k => Nat.ble k n
  | .cons _ idx off _ ty rest, T, n, k => Nat.ble k off && fieldAtB P T idx off && wfRFld P R G sf ty && wfRF P R G sf rest T n (off + ty.cells)
end

structure FH (P : Program) (R : RN) (rb sb h b o n : Nat) (ev : Value) (st : Option (List UInt8)) (w : World) : Prop where
  rd : RdAt w rb sb st
  ne : sb ≠ rb
  nb : sb ≠ b
  rbb : b ≠ rb
  hb : b ≤ h
  hr : rb ≤ h
  hw : h < w.heap.size
  hs : sb < w.heap.size
  th : w.there b o n
  er : isErr ev
  ev : w.cell? ⟨R.gErr, 0, none⟩ = some ev
  gb : R.gErr ≠ b
  gr : R.gErr ≠ rb
section
variable {P : Program} {N : Nat} {Q : Exit → (Nat → Value) → World → Prop} {ρ : Nat → Value} {w w' : World} {ms : List MOp} {R : RN} {G : TG} {rb sb h b o n : Nat} {ev : Value} {st st' : Option (List UInt8)} {sf : Option Nat} {flex : Bool} {ver : Int}
theorem Fr.rd {o n : Nat} (hf : Fr (fun _ => False) rb 0 2 w w') (hne : b ≠ rb) (hb : b < w.heap.size) : Fr (· = rb) b o n w w' :=
  (hf.wide (X' := (· = rb)) (fun _ x => x.elim) (Nat.le_refl _) (Nat.le_refl _)).other rfl hne hb
theorem FH.keep {o' n' : Nat} (hh : FH P R rb sb h b o n ev st w) (hf : Fr (· = rb) b o' n' w w') (hr : RdAt w' rb sb st') : FH P R rb sb h b o n ev st' w' :=
  ⟨hr, hh.ne, hh.nb, hh.rbb, hh.hb, hh.hr, Nat.lt_of_lt_of_le hh.hw hf.size, Nat.lt_of_lt_of_le hh.hs hf.size, hf.there _ _ hh.th, hh.er, by
    rw [cell_of_heap (hf.block _ (World.block_lt_of_cell? w _ hh.ev) hh.gb hh.gr)]; exact hh.ev, hh.gb, hh.gr⟩
theorem FH.fb {o' n' : Nat} (hh : FH P R rb sb h b o n ev st w) (hf : Fr (· = rb) b o' n' w w') : (∀ k, FB sb h w k → FB sb h w' k) ∧ ∀ k, FB sb h w k → w'.heap[k]? = w.heap[k]? := by
  obtain ⟨h1, h2, h3, h4, h5⟩ := And.intro hh.hb (And.intro hh.hr (And.intro hh.ne (And.intro hh.nb hh.hs)))
  refine ⟨fun k hk => hk.imp id fun hk => ⟨hk.1, Nat.lt_of_lt_of_le hk.2 hf.size⟩, fun k hk => ?_⟩
  rcases hk with rfl | ⟨hk, hk'⟩
  · exact hf.block _ h5 h4 h3
  · exact hf.block k hk' (by omega) (by show ¬ k = rb; omega)
theorem FH.rep {o' n' : Nat} {ty : Ty} {cs : List Value} {d : D} (hh : FH P R rb sb h b o n ev st w) (hf : Fr (· = rb) b o' n' w w') (hr : Rep w (FB sb h w) ty cs d) : Rep w' (FB sb h w') ty cs d := Rep.mono (hh.fb hf).1 (hh.fb hf).2 ty hr
theorem store_ok {T vs idx off ty x t L : Nat} {v : Value} (hF : fieldAtB P T idx off = true) (hc : cellsB P ty v.cells.size = true) (hv : ρ vs = .pointer (some ⟨b, o, none⟩)) (hx : ρ x = v) (h1 : v.cells.toList.all (·.oneCell') = true) (ht : w.there b (o + off) v.cells.size) (hvL : vs < L) (hxL : x < L) (hL : L ≤ t) (hN : t + 4 ≤ N)
    (hQ : ∀ ρ', (∀ s, s < L → ρ' s = ρ s) → Q .normal ρ' (w.setCells b (o + off) v.cells.toList)) : RW P N (storeR T vs idx ty x t).1 Q ρ w := by
  refine RW.rg (RL.step (MR.mv hv (ltT (by omega))) (RL.step (MR.mv (v := v) (by show upd _ _ _ x = _; rw [upd_ne _ _ (by omega)]; exact hx) (ltT (by omega))) (RL.step (MR.nc (p := ⟨b, o, none⟩) (by rw [upd_ne _ _ (by omega), upd_same]) (by omega)) (RL.step (MR.fa (upd_same _ _ _) hF (by omega)) ?_ (by omega)) (by omega)) (by omega)) (by omega))
  have e1 : ∀ (z : Value), (upd (upd (upd (upd ρ t (.pointer (some ⟨b, o, none⟩))) (t + 1) v) (t + 2) (.pointer (some ⟨b, o, none⟩))) (t + 3) z) (t + 1) = v := fun z => by rw [upd_ne _ _ (by omega), upd_ne _ _ (by omega), upd_same]
  refine RL.st (b := b) (o := o + off) (upd_same _ _ _) (by rw [e1]; exact hc) (by rw [e1]; exact ht) (by rw [e1, ← Array.all_toList]; exact h1) ?_ (by omega) (by omega)
  rw [e1]
  refine RL.nil (hQ _ fun s hs => ?_)
  rw [upd_ne _ _ (by omega), upd_ne _ _ (by omega), upd_ne _ _ (by omega), upd_ne _ _ (by omega)]
theorem primR_ok {T vs idx off ty x t L : Nat} {k : PK} (kk : RKOK P R G) (hk : rdOk R sf k = true) (hF : fieldAtB P T idx off = true) (hc : cellsB P ty k.cells = true) (hh : FH P R rb sb h b o n ev st w) (cx : RCx sf flex ver rb vs b o ρ)
    (hx9 : 9 ≤ x) (hs : ∀ s, sf = some s → s < x) (hvx : vs < x) (hxL : x < L) (hL : L ≤ t) (hN : (primR R sf T vs idx k ty t x).2 ≤ N) (hoff : off + k.cells ≤ n)
    (hQ : ∀ ρ' w' d st' us, (∀ s, s < x → ρ' s = ρ s) → Fr (· = rb) b (o + off) k.cells w w' → Got (dP k flex) st d st' → RdAt w' rb sb st' → w'.rangeAt b (o + off) us → us.length = k.cells → RepP w' (FB sb h w') k us d → Q .normal ρ' w') : RW P N (primR R sf T vs idx k ty t x).1 Q ρ w := by
  simp only [primR] at hN ⊢
  have hle := @rdA_le R sf k x t
  have hbw : b < w.heap.size := Nat.lt_of_le_of_lt hh.hb hh.hw
  refine RWL.rows ?_
  have core : ∀ ρ1, (∀ s, s < x → ρ1 s = ρ s) → RWL P N [(rdA R sf k x t).1, (storeR T vs idx ty x (rdA R sf k x t).2).1] Q ρ1 w := by
    intro ρ1 h1
    have cx1 := cx.keep h1 hx9 hs hvx
    refine rdA_ok kk hk hxL (by omega) (fun s e => by have := hs s e; omega) hL (by omega) hh.rd hh.ne cx1.r7 cx1.r2 cx1.rf cx1.nf ?_
    intro ρ2 w2 v d st2 g1 g2 g3 g4 g5 g6
    obtain ⟨_, g6a, g6b, g6c⟩ := g6
    have F1 : Fr (· = rb) b (o + off) k.cells w w2 := g3.rd hh.rbb hbw
    have cx2 := cx1.keep (ρ' := ρ2) (fun s hs => g1 s (by omega) (by omega)) hx9 hs hvx
    have ht2 : w2.there b (o + off) k.cells := there_in (F1.there _ _ hh.th) hoff
    have hln : v.cells.toList.length = k.cells := by rw [Array.length_toList]; exact g6a
    refine RW.mono (store_ok (L := L) (v := v) hF (by rw [g6a]; exact hc) cx2.rv g2 g6b (by rw [g6a]; exact ht2) (by omega) hxL (by omega) (by omega) fun ρ3 h3 => ?_) (fun e ρ w h => h)
    have F2 : Fr (· = rb) b (o + off) k.cells w2 (w2.setCells b (o + off) v.cells.toList) := Fr.put _ (by omega) (by rw [hln]; omega)
    refine hQ ρ3 _ d st2 v.cells.toList (fun s hs => by rw [h3 s (by omega), g1 s (by omega) (by omega), h1 s hs]) (F1.trans F2) g4 ?_ (World.rangeAt_setCells_same _ _ _ _ (by rw [hln]; exact ht2)) hln ?_
    · exact g5.keep (setCells_other b _ _ _ rb (fun e => hh.rbb e.symm)) (setCells_other b _ _ _ sb hh.nb)
    · have hsz : w2.heap.size ≤ (w2.setCells b (o + off) v.cells.toList).heap.size := F2.size
      refine RepP.mono g6c.bound (fun k hk => ?_) (fun k hk => setCells_other b _ _ _ k ?_)
      · rcases hk with ⟨hk | hk, hk'⟩
        · exact .inl hk
        · exact .inr ⟨Nat.lt_of_lt_of_le hh.hw hk, Nat.lt_of_lt_of_le hk' hsz⟩
      · rcases hk with ⟨rfl | hk, _⟩
        · exact hh.nb
        · exact fun e => by omega
  cases h2 : k.two
  · simp only [Bool.false_eq_true, if_false, List.nil_append]
    exact core ρ fun _ _ => rfl
  · simp only [if_true, List.cons_append, List.nil_append]
    exact RW.rg (RL.step MR.mv (RL.nil (core _ fun s hs => by rw [upd_ne _ _ (by omega)])) (by omega))
theorem uuidR_ok {T vs idx off ty x t L : Nat} (kk : RKOK P R G) (h0 : R.uuid ≠ 0) (hF : fieldAtB P T idx off = true) (hc : cellsB P ty 16 = true) (hrow : rowTy P ty = true) (hz : zeroIs P ty (List.replicate 16 (.int .u8 0)) = true) (hh : FH P R rb sb h b o n ev st w) (cx : RCx sf flex ver rb vs b o ρ)
    (hvx : vs < x) (hx9 : 9 ≤ x) (hxL : x < L) (hL : L ≤ t) (hN : t + 5 ≤ N) (hoff : off + 16 ≤ n)
    (hQ : ∀ ρ' w' d st' us, (∀ s, s < x → ρ' s = ρ s) → Fr (· = rb) b (o + off) 16 w w' → Got (dP .uuid flex) st d st' → RdAt w' rb sb st' → w'.rangeAt b (o + off) us → us.length = 16 → RepP w' (FB sb h w') .uuid us d → Q .normal ρ' w') : RW P N (uuidR R T vs idx ty t x).1 Q ρ w := by
  have hbw : b < w.heap.size := Nat.lt_of_le_of_lt hh.hb hh.hw
  have hzz := zeroIs_of hz
  unfold uuidR
  refine RWL.rows ?_
  refine RW.rg (RL.rd (kk.fn .uuid flex h0) cx.r7 hh.rd hh.ne (ltT (by omega)) (by omega) fun v d st2 w2 g3 g4 g5 g6 => ?_)
  obtain ⟨g6v, g6a, g6b, g6c⟩ := g6
  have hv : v = .agg v.cells := g6v
  have hl16 : v.cells.toList.length = 16 := by rw [Array.length_toList]; exact g6a
  have hrb2 := g5.lt
  have hsz2 := g3.size
  refine RL.alst (n := 16) (cs := v.cells.toList) hzz (by rw [upd_same, Array.toArray_toList]; exact hv) (by omega) (by simp) hl16 hc g6b ?_ (by omega) (by omega)
  intro w3 b3 s3 r3 t3
  refine RL.nil ?_
  show RWL P N _ _ _ w3
  have F1 : Fr (· = rb) b (o + off) 16 w w2 := g3.rd hh.rbb hbw
  have F3 : Fr (· = rb) b (o + off) 16 w2 w3 := Fr.ofBelow b3 (by omega)
  have R3 : RdAt w3 rb sb st2 := g5.below b3
  have ht3 : w3.there b (o + off) 16 := there_in ((F1.trans F3).there _ _ hh.th) hoff
  refine RW.rg (RL.step (MR.mv (v := .pointer (some ⟨b, o, none⟩)) (by show upd _ _ _ vs = _; rw [upd_ne _ _ (by omega), upd_ne _ _ (by omega)]; exact cx.rv) (ltT (by omega))) (RL.step (MR.ldRow (b := w2.heap.size) (o := 0) (cs := v.cells.toList) (by rw [upd_ne _ _ (by omega), upd_same]) hrow (by rw [hl16]; exact hc) r3 (by omega))
    (RL.step (MR.nc (p := ⟨b, o, none⟩) (by rw [upd_ne _ _ (by omega), upd_same]) (by omega)) (RL.step (MR.fa (upd_same _ _ _) hF (by omega)) (RL.stA (cs := v.cells.toList) (b := b) (o := o + off) (upd_same _ _ _) (by rw [upd_ne _ _ (by omega), upd_ne _ _ (by omega), upd_same]) (by rw [hl16]; exact hc) (by rw [hl16]; exact ht3) g6b (RL.nil ?_) (by omega) (by omega)) (by omega)) (by omega)) (by omega)) (by omega))
  have F2 : Fr (· = rb) b (o + off) 16 w3 (w3.setCells b (o + off) v.cells.toList) := Fr.put _ (by omega) (by rw [hl16]; omega)
  refine hQ _ _ d st2 v.cells.toList (fun s hs => by rw [upd_ne _ _ (by omega), upd_ne _ _ (by omega), upd_ne _ _ (by omega), upd_ne _ _ (by omega), upd_ne _ _ (by omega), upd_ne _ _ (by omega)]) ((F1.trans F3).trans F2) g4 ?_ (World.rangeAt_setCells_same _ _ _ _ (by rw [hl16]; exact ht3)) hl16 ?_
  · exact R3.keep (setCells_other b _ _ _ rb (fun e => hh.rbb e.symm)) (setCells_other b _ _ _ sb hh.nb)
  · simp only [RepP] at g6c ⊢; exact g6c
theorem enumR_ok {T vs idx off ty x t L : Nat} {k : PK} (kk : RKOK P R G) (hk : enumK k = true) (h0 : R.fn k false ≠ 0) (hF : fieldAtB P T idx off = true) (hc : cellsB P ty 1 = true) (hh : FH P R rb sb h b o n ev st w) (cx : RCx sf flex ver rb vs b o ρ)
    (hx9 : 9 ≤ x) (hvx : vs < x) (hs : ∀ s, sf = some s → s < x) (hxL : x + 2 < L) (hL : L ≤ t) (hN : t + 7 ≤ N) (hoff : off + 1 ≤ n)
    (hQ : ∀ ρ' w' d st' us, (∀ s, s < x → ρ' s = ρ s) → Fr (· = rb) b (o + off) 1 w w' → Got (dP k flex) st d st' → RdAt w' rb sb st' → w'.rangeAt b (o + off) us → us.length = 1 → RepP w' (FB sb h w') k us d → Q .normal ρ' w') : RW P N (enumR R T vs idx k ty t x).1 Q ρ w := by
  have hbw : b < w.heap.size := Nat.lt_of_le_of_lt hh.hb hh.hw
  have hdec : dP k flex = dP k false := by cases k <;> simp [enumK] at hk <;> rfl
  have hk1 : k.cells = 1 := by cases k <;> simp [enumK] at hk <;> rfl
  have hk2 : ∀ v, VK k v → v.oneCell' = true := by intro v hv; cases k <;> simp [enumK] at hk <;> exact hv
  unfold enumR
  refine RWL.rows ?_
  refine RW.rg (RL.step MR.mv (RL.nil ?_) (by omega))
  show RWL P N _ _ _ w
  refine RW.sq (RW.rg (RL.rd (kk.fn k false h0) (by show upd _ _ _ 7 = _; rw [upd_ne _ _ (by omega)]; exact cx.r7) hh.rd hh.ne (ltT (by omega)) (by omega) fun v d st2 w2 g3 g4 g5 g6 => ?_))
  obtain ⟨g6v, g6a, g6b, g6c⟩ := g6
  have hv1 := hk2 v g6v
  have hvc : v.cells = #[v] := by cases v <;> simp_all [Value.cells, Value.oneCell']
  refine RL.step (MR.mv (upd_same _ _ _) (ltT (by omega))) (RL.nil ?_) (by omega)
  show RW P N _ _ _ w2
  refine RW.rg (RL.step (MR.mv (v := v) (upd_same _ _ _) (ltT (by omega))) (RL.step (MR.mv (v := v) (upd_same _ _ _) (ltT (by omega))) (RL.nil ?_) (by omega)) (by omega))
  show RWL P N _ _ _ w2
  refine RW.rg (RL.step (MR.mv (v := v) (upd_same _ _ _) (ltT (by omega))) (RL.step (MR.mv (v := v) (upd_same _ _ _) (ltT (by omega))) (RL.nil ?_) (by omega)) (by omega))
  show RWL P N _ _ _ w2
  generalize hρ2 : upd (upd _ (t + 2) _) (x + 2) _ = ρ2
  have q2 : ∀ s, s < x → ρ2 s = ρ s := fun s hs => by rw [← hρ2]; repeat rw [upd_ne _ _ (by omega)]
  have q3 : ρ2 (x + 2) = v := by rw [← hρ2]; exact upd_same _ _ _
  have F1 : Fr (· = rb) b (o + off) 1 w w2 := g3.rd hh.rbb hbw
  have cx2 := cx.keep q2 hx9 hs hvx
  have ht2 : w2.there b (o + off) 1 := there_in (F1.there _ _ hh.th) hoff
  refine RW.mono (store_ok (L := L) (v := v) hF (by rw [hvc]; exact hc) cx2.rv q3 (by rw [hvc]; simp [hv1]) (by rw [hvc]; exact ht2) (by omega) hxL (by omega) (by omega) fun ρ3 h3 => ?_) (fun e ρ w h => h)
  rw [hvc]
  have F2 : Fr (· = rb) b (o + off) 1 w2 (w2.setCells b (o + off) [v]) := Fr.put _ (by omega) (by simp)
  refine hQ ρ3 _ d st2 [v] (fun s hs => by rw [h3 s (by omega), q2 s hs]) (F1.trans F2) (by rw [hdec]; exact g4) ?_ (World.rangeAt_setCells_same _ _ _ _ ht2) rfl ?_
  · exact g5.keep (setCells_other b _ _ _ rb (fun e => hh.rbb e.symm)) (setCells_other b _ _ _ sb hh.nb)
  · rw [hvc] at g6c
    cases k <;> simp [enumK] at hk <;> (simp only [RepP] at g6c ⊢; exact g6c)
theorem primU_ok {T vs idx off ty x t L : Nat} {k : PK} (kk : RKOK P R G) (hk : rdOk R sf k = true) (hu : uuB P k ty = true) (hF : fieldAtB P T idx off = true) (hc : cellsB P ty k.cells = true) (hh : FH P R rb sb h b o n ev st w) (cx : RCx sf flex ver rb vs b o ρ)
    (hx9 : 9 ≤ x) (hs : ∀ s, sf = some s → s < x) (hvx : vs < x) (hxL : x < L) (hL : L ≤ t) (hN : (primU R sf T vs idx k ty t x).2 ≤ N) (hoff : off + k.cells ≤ n)
    (hQ : ∀ ρ' w' d st' us, (∀ s, s < x → ρ' s = ρ s) → Fr (· = rb) b (o + off) k.cells w w' → Got (dP k flex) st d st' → RdAt w' rb sb st' → w'.rangeAt b (o + off) us → us.length = k.cells → RepP w' (FB sb h w') k us d → Q .normal ρ' w') : RW P N (primU R sf T vs idx k ty t x).1 Q ρ w := by
  by_cases e : k = .uuid
  · subst e
    simp only [uuB, Bool.and_eq_true] at hu
    have h0 : R.uuid ≠ 0 := by
      intro e
      have : rdOk R sf .uuid = false := by unfold rdOk RN.fn; simp [e]
      rw [this] at hk; cases hk
    exact uuidR_ok kk h0 hF hc hu.1 hu.2 hh cx hvx hx9 hxL hL hN hoff hQ
  · have e2 : primU R sf T vs idx k ty t x = primR R sf T vs idx k ty t x := by cases k <;> first | rfl | exact absurd rfl e
    rw [e2] at hN ⊢
    exact primR_ok kk hk hF hc hh cx hx9 hs hvx hxL hL hN hoff hQ
theorem elemU_le {ty ety x t : Nat} {k : PK} : t ≤ (elemU R sf k ty ety x t).2 := by
  have := @rdA_le R sf k (x + 4) t
  cases k <;> simp only [elemU, elemR, elemRU] <;> omega
theorem primU_le {T vs idx x t : Nat} {k : PK} {ty : Nat} : t ≤ (primU R sf T vs idx k ty t x).2 := by
  have := @rdA_le R sf k x t
  cases k <;> simp only [primU, primR, uuidR] <;> omega
theorem unsB_le {f base x t : Nat} : t ≤ (unsB f base x t).2 := by simp [unsB]
theorem vstrR_le {T vs idx lim ty base t x : Nat} : t ≤ (vstrR R sf T vs idx lim ty base t x).2 := by
  have h1 := @ifFlex_le2 sf (t + 2) (unsB (R.fn .str true) base (x + 1)) (unsB (R.fn .str false) base (x + 1)) (fun _ => unsB_le) (fun _ => unsB_le)
  have h2 := @rdA_le R sf .nstr x (ifFlex sf (t + 2) (unsB (R.fn .str true) base (x + 1)) (unsB (R.fn .str false) base (x + 1))).2
  unfold vstrR; dsimp only; omega
theorem zOne_info {T : Nat} (h : zOneB P T = true) : ∃ i z, P.info? T = some i ∧ i.zero = some z ∧ z.cells.size = 1 := by
  unfold zOneB at h
  cases hi : P.info? T with
  | none => simp [hi] at h
  | some i =>
    simp only [hi] at h
    cases hzv : i.zero with
    | none => simp [hzv] at h
    | some z => simp only [hzv, Nat.beq_eq] at h; exact ⟨i, z, rfl, hzv, h⟩
theorem unsB_ok {f base x t L q : Nat} (hc : RdC P f (dP .str flex) (PrC .str)) (hx : x < L) (h7 : 7 < L) (ht : L ≤ t) (hN : t + 3 ≤ N) (h : RdAt w rb sb st) (hne : sb ≠ rb) (r7 : ρ 7 = .pointer (some ⟨rb, 0, none⟩)) (r2 : ρ 2 = .bool false)
    (rx : ρ x = .pointer (some ⟨q, 0, none⟩)) (hT : cellsB P base 1 = true) (hq : w.there q 0 1) (hqw : q < w.heap.size) (hqr : q ≠ rb) (hqs : q ≠ sb)
    (hQ : ∀ ρ' w' (s : ByteArray) st', (∀ s, s < L → ρ' s = ρ s) → Fr (fun k => k = rb) q 0 1 w w' → Got (dP .str flex) st (.s (some s.data.toList)) st' → RdAt w' rb sb st' → w'.cell? ⟨q, 0, none⟩ = some (.string s) → Q .normal ρ' w') : RW P N (unsB f base x t).1 Q ρ w := by
  refine RW.sq (RW.rg (RL.step (MR.mv r2 (ltT (by omega))) (RL.nil (RW.cd (b := false) (upd_same _ _ _) (fun e => by cases e) (fun _ => ?_) (by omega))) (by omega)))
  refine RW.rg (RL.rd hc (by show upd _ _ _ 7 = _; rw [upd_ne _ _ (by omega)]; exact r7) h hne (ltT (by omega)) (by omega) fun v d st' w' h1 h2 h3 h4 => ?_)
  obtain ⟨g1, g2, g3, s, g4, rfl⟩ := h4
  have hv : v = .string s := by
    have g1' : v.oneCell' = true := g1
    cases v <;> simp_all [Value.cells, Value.oneCell']
  subst hv
  have F1 : Fr (fun k => k = rb) q 0 1 w w' := (h1.wide (X' := fun k => k = rb) (fun _ x => x.elim) (Nat.le_refl _) (Nat.le_refl _)).other rfl hqr hqw
  have hq' := F1.there _ _ hq
  refine RL.st1 (b := q) (o := 0) (v := .string s) (by rw [upd_ne _ _ (by omega), upd_ne _ _ (by omega)]; exact rx) (upd_same _ _ _) rfl hT hq' (RL.nil ?_) (by omega) (by omega)
  refine hQ _ _ s st' (fun s hs => by rw [upd_ne _ _ (by omega), upd_ne _ _ (by omega)]) (F1.trans (Fr.put _ (Nat.le_refl _) (by simp))) h2 ?_ ?_
  · exact h3.keep (setCells_other q _ _ _ rb (fun e => hqr e.symm)) (setCells_other q _ _ _ sb (fun e => hqs e.symm))
  · exact World.rangeAt_setCells_same _ _ _ [.string s] hq' 0 _ rfl
theorem vstrR_ok {T vs idx off lim ty base x t L : Nat} (kk : RKOK P R G) (hk1 : rdOk R sf .str = true) (hk2 : rdOk R sf .nstr = true) (hF : fieldAtB P T idx off = true) (hc : cellsB P ty 1 = true) (hz : zOneB P base = true) (hcb : cellsB P base 1 = true) (h16 : intTy P R.T.i16 .i16 = true) (hh : FH P R rb sb h b o n ev st w) (cx : RCx sf flex ver rb vs b o ρ)
    (hx9 : 9 ≤ x) (hs : ∀ s, sf = some s → s < x) (hvx : vs < x) (hxL : x + 1 < L) (hL : L ≤ t) (hN : (vstrR R sf T vs idx lim ty base t x).2 ≤ N) (hoff : off + 1 ≤ n)
    (hQ : ∀ ρ' w' d st' us, (∀ s, s < x → ρ' s = ρ s) → Fr (· = rb) b (o + off) 1 w w' → Got (dP (vK lim ver) flex) st d st' → RdAt w' rb sb st' → w'.rangeAt b (o + off) us → us.length = 1 → RepP w' (FB sb h w') .nstr us d → Q .normal ρ' w') : RW P N (vstrR R sf T vs idx lim ty base t x).1 Q ρ w := by
  have l1 := @ifFlex_le2 sf (t + 2) (unsB (R.fn .str true) base (x + 1)) (unsB (R.fn .str false) base (x + 1)) (fun _ => unsB_le) (fun _ => unsB_le)
  have l2 := @rdA_le R sf .nstr x (ifFlex sf (t + 2) (unsB (R.fn .str true) base (x + 1)) (unsB (R.fn .str false) base (x + 1))).2
  have hN' : (rdA R sf .nstr x (ifFlex sf (t + 2) (unsB (R.fn .str true) base (x + 1)) (unsB (R.fn .str false) base (x + 1))).2).2 + 4 ≤ N := hN
  have hbw : b < w.heap.size := Nat.lt_of_le_of_lt hh.hb hh.hw
  unfold vstrR
  dsimp only
  generalize hyc : ifFlex sf (t + 2) (unsB (R.fn .str true) base (x + 1)) (unsB (R.fn .str false) base (x + 1)) = yc at l1 l2 hN' ⊢
  generalize hnc : rdA R sf .nstr x yc.2 = nc at l2 hN' ⊢
  refine RWL.rows ?_
  refine RW.rg (RL.step MR.mv (RL.nil ?_) (by omega))
  show RWL P N [_, _] Q _ w
  have q1 : ∀ s, s < x → upd ρ x (xof ρ (.c .nptr)) s = ρ s := fun s hs => upd_ne _ _ (by omega)
  generalize upd ρ x (xof ρ (.c .nptr)) = ρ1 at q1
  have cx1 := cx.keep q1 hx9 hs hvx
  have fin : ∀ (ρ2 : Nat → Value) (w2 : World) (v : Value) (d : D) (st2 : Option (List UInt8)), (∀ s, s < x → ρ2 s = ρ s) → ρ2 x = v → Fr (· = rb) b (o + off) 1 w w2 → Got (dP (vK lim ver) flex) st d st2 → RdAt w2 rb sb st2 → v.oneCell' = true →
      RepP w2 (FB sb h w2) .nstr [v] d → RWL P N [(storeR T vs idx ty x nc.2).1] Q ρ2 w2 := by
    intro ρ2 w2 v d st2 h2 h3 F1 h5 h6 h7 h8
    have hvc : v.cells = #[v] := by cases v <;> simp_all [Value.cells, Value.oneCell']
    have cx2 := cx.keep (ρ' := ρ2) h2 hx9 hs hvx
    have ht2 : w2.there b (o + off) 1 := there_in (F1.there _ _ hh.th) hoff
    refine RW.mono (store_ok (L := L) (v := v) hF (by rw [hvc]; exact hc) cx2.rv h3 (by rw [hvc]; simp [h7]) (by rw [hvc]; exact ht2) (by omega) (by omega) (by omega) (by omega) fun ρ3 h3 => ?_) (fun e ρ w h => h)
    rw [hvc]
    have F2 : Fr (· = rb) b (o + off) 1 w2 (w2.setCells b (o + off) [v]) := Fr.put _ (by omega) (by simp)
    refine hQ ρ3 _ d st2 [v] (fun s hs => by rw [h3 s (by omega), h2 s hs]) (F1.trans F2) h5 ?_ (World.rangeAt_setCells_same _ _ _ _ ht2) rfl ?_
    · exact h6.keep (setCells_other b _ _ _ rb (fun e => hh.rbb e.symm)) (setCells_other b _ _ _ sb hh.nb)
    · have hsz : w2.heap.size ≤ (w2.setCells b (o + off) [v]).heap.size := F2.size
      refine RepP.mono h8.bound (fun k hk => ?_) (fun k hk => setCells_other b _ _ _ k ?_)
      · rcases hk with ⟨hk | hk, hk'⟩
        · exact .inl hk
        · exact .inr ⟨hk.1, Nat.lt_of_lt_of_le hk' hsz⟩
      · rcases hk with ⟨rfl | hk, _⟩
        · exact hh.nb
        · exact fun e => by have := hk.1; have := hh.hb; omega
  refine RW.sq (RW.rg (RL.step (MR.mv (v := .int .i16 ver) cx1.r8 (ltT (by omega))) (RL.step (MR.biE (v := .bool (decide (ver < (lim : Int)))) (by show evB .lss (upd _ _ _ t) _ = _; rw [upd_same]; rfl) (ltT (by omega)) rfl) (RL.nil ?_) (by omega)) (by omega)))
  have q2 : ∀ s, s < L → upd (upd ρ1 t (.int .i16 ver)) (t + 1) (.bool (decide (ver < (lim : Int)))) s = ρ1 s := fun s hs => by rw [upd_ne _ _ (by omega), upd_ne _ _ (by omega)]
  refine RW.cd (b := decide (ver < (lim : Int))) (upd_same _ _ _) (fun e => ?_) (fun e => ?_) (by omega)
  · have e' : ver < (lim : Int) := of_decide_eq_true e
    have hk : vK lim ver = .str := by unfold vK; rw [if_pos e']
    rw [hk] at fin
    generalize upd (upd ρ1 t (.int .i16 ver)) (t + 1) (.bool (decide (ver < (lim : Int)))) = ρ2 at q2
    obtain ⟨i, z, hi, hzv, hz1⟩ := zOne_info hz
    refine RW.sq (RW.rg (RL.step (MR.al ⟨i, hi, hzv⟩) (RL.nil ?_) (by omega)))
    show RW P N _ _ _ _
    have hbox := below_box w (.cells z.cells base)
    have hth : (w.alloc (.cells z.cells base)).there w.heap.size 0 1 := by
      have := there_box w z.cells.toList base
      simp only [Array.length_toList, hz1] at this
      exact this
    generalize hw1 : w.alloc (.cells z.cells base) = w1 at hbox hth
    have hw1s : w1.heap.size = w.heap.size + 1 := by rw [← hw1]; exact size_box w _
    have q3 : ∀ s, s < x → upd ρ2 (x + 1) (.pointer (some ⟨w.heap.size, 0, none⟩)) s = ρ s := fun s hs => by rw [upd_ne _ _ (by omega), q2 s (by omega), q1 s hs]
    have q3x : upd ρ2 (x + 1) (.pointer (some ⟨w.heap.size, 0, none⟩)) (x + 1) = .pointer (some ⟨w.heap.size, 0, none⟩) := upd_same _ _ _
    generalize upd ρ2 (x + 1) (.pointer (some ⟨w.heap.size, 0, none⟩)) = ρ3 at q3 q3x
    have cx3 := cx.keep (ρ' := ρ3) q3 hx9 hs hvx
    have R1 : RdAt w1 rb sb st := hh.rd.below hbox
    have hrw := hh.rd.lt
    have hsw := hh.hs
    have hhw := hh.hw
    have hhb := hh.hb
    simp only [rdOk, Bool.and_eq_true] at hk1
    refine RW.sq ?_
    have one : ∀ {f t' : Nat} {ρ' : Nat → Value}, RdC P f (dP .str flex) (PrC .str) → (∀ s, s < L → ρ' s = ρ3 s) → L ≤ t' → (unsB f base (x + 1) t').2 ≤ N → RW P N (unsB f base (x + 1) t').1 (thenR (RW P N (.rg [.mv x (.t (x + 1))]) (thenR (fun ρ w => RWL P N [(storeR T vs idx ty x nc.2).1] Q ρ w) Q)) (thenR (fun ρ w => RWL P N [(storeR T vs idx ty x nc.2).1] Q ρ w) Q)) ρ' w1 := by
      intro f t' ρ' hf h1 h2 h3
      refine unsB_ok (q := w.heap.size) hf (by omega) (by omega) h2 h3 R1 hh.ne (by rw [h1 7 (by omega)]; exact cx3.r7) (by rw [h1 2 (by omega)]; exact cx3.r2) (by rw [h1 _ (by omega)]; exact q3x) hcb hth (by omega) (by omega) (by omega) ?_
      intro ρ4 w4 s st4 g1 g2 g3 g4 g5
      show RW P N _ _ _ _
      refine RW.rg (RL.step (MR.mv (v := .pointer (some ⟨w.heap.size, 0, none⟩)) (by show ρ4 (x + 1) = _; rw [g1 _ (by omega), h1 _ (by omega), q3x]) (ltT (by omega))) (RL.nil ?_) (by omega))
      have F : Fr (· = rb) b (o + off) 1 w w4 := by
        have A : Fr (fun k => k = rb ∨ w.heap.size ≤ k) b (o + off) 1 w w1 := Fr.ofBelow hbox hbw
        have B' : Fr (fun k => k = rb ∨ w.heap.size ≤ k) b (o + off) 1 w1 w4 := (g2.wide (X' := fun k => k = rb ∨ w.heap.size ≤ k) (fun _ h => .inl h) (Nat.le_refl _) (Nat.le_refl _)).other (.inr (Nat.le_refl _)) (by
          rintro (e | e)
          · exact hh.rbb e
          · omega) (by omega)
        have C := A.trans B'
        exact ⟨C.os, C.tape, C.output, C.size, fun k h1 h2 h3 => C.block k h1 h2 (by rintro (e | e); exact h3 e; omega), C.cell, C.there⟩
      refine fin _ w4 _ _ st4 (fun s hs => by rw [upd_ne _ _ (by omega), g1 s (by omega), h1 s (by omega), q3 s hs]) (upd_same _ _ _) F g3 g4 rfl ?_
      refine .inr ⟨w.heap.size, s, rfl, .inr ⟨hhw, World.block_lt_of_cell? w4 _ g5⟩, g5, rfl⟩
    have hf0 : R.fn .str false ≠ 0 := ne0 hk1.1
    rw [← hyc]
    refine RW.ifF (flex := flex) (L := L) (by omega) (by rw [hyc]; omega) (fun _ => unsB_le) (fun _ => unsB_le) (fun s e => by have := hs s e; omega) cx3.rf cx3.nf (fun e ρ' t' h1 h2 h3 => ?_) (fun e ρ' t' h1 h2 h3 => ?_)
    · refine one ?_ h1 h2 h3
      rw [e]
      refine kk.fn .str true ?_
      cases hsf : sf with
      | none => have := cx.nf hsf; rw [this] at e; cases e
      | some s =>
        have := hk1.2
        rw [hsf] at this
        simp only [PK.two, Option.isSome_some, Bool.and_self, if_true] at this
        exact ne0 this
    · refine one ?_ h1 h2 h3
      rw [e]
      exact kk.fn .str false hf0
  · have e' : ¬ ver < (lim : Int) := of_decide_eq_false e
    have hk : vK lim ver = .nstr := by unfold vK; rw [if_neg e']
    rw [hk] at fin
    generalize upd (upd ρ1 t (.int .i16 ver)) (t + 1) (.bool (decide (ver < (lim : Int)))) = ρ2 at q2
    have q3 : ∀ s, s < x → ρ2 s = ρ s := fun s hs => by rw [q2 s (by omega), q1 s hs]
    have cx3 := cx.keep (ρ' := ρ2) q3 hx9 hs hvx
    have go : RW P N (rdA R sf .nstr x yc.2).1 (thenR (fun ρ w => RWL P N [(storeR T vs idx ty x nc.2).1] Q ρ w) Q) ρ2 w := by
      refine rdA_ok (L := L) kk hk2 (by omega) (by omega) (fun s e => by have := hs s e; omega) (by omega) (by rw [hnc]; omega) hh.rd hh.ne cx3.r7 cx3.r2 cx3.rf cx3.nf ?_
      intro ρ4 w4 v d st4 g1 g2 g3 g4 g5 g6
      obtain ⟨g6v, g6a, g6b, g6c⟩ := g6
      have g6v' : v.oneCell' = true := g6v
      have hvc : v.cells = #[v] := by cases v <;> simp_all [Value.cells, Value.oneCell']
      rw [hvc] at g6c
      refine fin ρ4 w4 v d st4 (fun s hs => by rw [g1 s (by omega) (by omega), q3 s hs]) g2 (g3.rd hh.rbb hbw) g4 g5 g6v' ?_
      refine RepP.mono g6c.bound (fun k hk => ?_) (fun k _ => rfl)
      rcases hk with ⟨hk | hk, hk'⟩
      · exact .inl hk
      · exact .inr ⟨Nat.lt_of_lt_of_le hh.hw hk, hk'⟩
    rw [hnc] at go
    exact go
end
end Go.Kx
namespace Go.Kx
open Go.RowKit
set_option linter.unusedSimpArgs false
set_option linter.unusedVariables false
section
variable {P : Program} {N : Nat} {Q : Exit → (Nat → Value) → World → Prop} {ρ : Nat → Value} {w w' : World} {ms : List MOp} {R : RN} {G : TG} {rb sb h b o n : Nat} {ev : Value} {st st' : Option (List UInt8)} {sf : Option Nat} {flex : Bool} {ver : Int}
theorem mv2_ok {a y t L : Nat} {v : Value} (ha : ρ a = v) (haL : a < L) (hy : y < L) (ht : L ≤ t) (hN : t < N) (hQ : ∀ ρ', (∀ s, s < L → s ≠ y → ρ' s = ρ s) → ρ' y = v → Q .normal ρ' w) : RW P N (.rg [.mv t (.t a), .mv y (.t t)]) Q ρ w :=
  RW.rg (RL.step (MR.mv ha (ltT (by omega))) (RL.step (MR.mv (upd_same _ _ _) (ltT hN)) (RL.nil (hQ _ (fun s hs hy => by (repeat (first | rw [upd_same] | rw [upd_ne _ _ (by omega)]))) (upd_same _ _ _))) (by omega)) hN)
theorem mvc_ok {y L : Nat} {m : MVal} (hy : y < L) (hN : y < N) (hQ : ∀ ρ', (∀ s, s < L → s ≠ y → ρ' s = ρ s) → ρ' y = m.val → Q .normal ρ' w) : RW P N (.rg [.mv y (.c m)]) Q ρ w :=
  RW.rg (RL.step MR.mv (RL.nil (hQ _ (fun s hs hy => by (repeat (first | rw [upd_same] | rw [upd_ne _ _ (by omega)]))) (upd_same _ _ _))) hN)
theorem loadR_ok {T vs idx off ty x t L : Nat} {v : Value} (hF : fieldAtB P T idx off = true) (hp : plainTy P ty = true) (hv : ρ vs = .pointer (some ⟨b, o, none⟩)) (hc : w.cell? ⟨b, o + off, none⟩ = some v) (hvL : vs < L) (hx : x < L) (ht : L ≤ t) (hN : t + 4 ≤ N)
    (hQ : ∀ ρ', (∀ s, s < L → s ≠ x → ρ' s = ρ s) → ρ' x = v → Q .normal ρ' w) : RW P N (loadA T vs idx ty x t).1 Q ρ w :=
  RW.rg (RL.step (MR.mv hv (ltT (by omega))) (RL.step (MR.nc (upd_same _ _ _) (by omega)) (RL.step (MR.fa (upd_same _ _ _) hF (by omega)) (RL.step (MR.ld (upd_same _ _ _) hp hc (by omega)) (RL.step (MR.mv (upd_same _ _ _) (ltT (by omega))) (RL.nil (hQ _ (fun s hs hy => by (repeat (first | rw [upd_same] | rw [upd_ne _ _ (by omega)]))) (upd_same _ _ _))) (by omega)) (by omega)) (by omega)) (by omega)) (by omega))
theorem lenR_ok {x t L : Nat} (kk : RKOK P R G) (ha : R.alen ≠ 0) (hca : ∀ s, sf = some s → R.calen ≠ 0) (hx : x + 2 < L) (h9 : 8 < x) (hs : ∀ s, sf = some s → s < L) (ht : L ≤ t) (hN : (lenR R sf x t).2 ≤ N) (h : RdAt w rb sb st) (hne : sb ≠ rb) (r7 : ρ 7 = .pointer (some ⟨rb, 0, none⟩))
    (rf : ∀ s, sf = some s → ρ s = .bool flex) (nf : sf = none → flex = false)
    (hQ : ∀ ρ' w' r st', (∀ s, s < L → s ≠ x + 2 → ρ' s = ρ s) → ρ' (x + 2) = .int .i32 r → I32 r → Fr (fun _ => False) rb 0 2 w w' → Got (dALen flex) st r st' → RdAt w' rb sb st' → Q .normal ρ' w') : RW P N (lenR R sf x t).1 Q ρ w := by
  have one : ∀ {f t : Nat} {ρ1 : Nat → Value}, (∀ s, s < L → ρ1 s = ρ s) → L ≤ t → (callR f (x + 2) t).2 ≤ N → RdC P f (dALen flex) (PlB (fun x => .int .i32 x) I32) → RW P N (callR f (x + 2) t).1 Q ρ1 w := fun {f t ρ1} h1 h2 h3 h4 => by
    have h3' : t + 1 ≤ N := h3
    refine RW.rg (RL.rd h4 (by show ρ1 7 = _; rw [h1 7 (by omega)]; exact r7) h hne (ltT (by omega)) (by omega) fun v r st' w' g1 g2 g3 g4 => RL.step (MR.mv (upd_same _ _ _) (ltT (by omega))) (RL.nil ?_) (by omega))
    exact hQ _ w' r st' (fun s hs hsx => by rw [upd_ne _ _ hsx, upd_ne _ _ (by omega), h1 s hs]) (by rw [upd_same]; exact g4.1) g4.2 g1 g2 g3
  refine RW.ifF (flex := flex) ht hN (fun _ => callR_le) (fun _ => callR_le) hs rf nf (fun e ρ2 t2 h1 h3 h4 => ?_) (fun e ρ2 t2 h1 h3 h4 => ?_)
  · have hc : R.calen ≠ 0 := by
      cases hsf : sf with
      | none => have := nf hsf; rw [this] at e; cases e
      | some s => exact hca s hsf
    exact one h1 h3 h4 (by rw [e]; exact kk.cal hc)
  · exact one h1 h3 h4 (by rw [e]; exact kk.al ha)
theorem zeroRow {z : Array Value} {ec : Nat} (hz : z.size = ec) (n m : Nat) : (Builtin.zeroCells z n ++ Builtin.zeroCells z m).size = n * ec + m * ec := by
  simp [Builtin.zeroCells, hz]
theorem zeroPart {z : Array Value} {ec n m j : Nat} (hz : z.size = ec) (hj : j < n) : (((Builtin.zeroCells z n ++ Builtin.zeroCells z m).toList.drop (j * ec)).take ec) = z.toList := by
  have h1 : (j + 1) * ec ≤ n * ec := Nat.mul_le_mul_right _ hj
  have h2 : (j + 1) * ec = j * ec + ec := Nat.succ_mul j ec
  apply List.ext_getElem?
  intro k
  rw [List.getElem?_take]
  by_cases hk : k < ec
  · rw [if_pos hk, List.getElem?_drop, Array.getElem?_toList, Array.getElem?_append_left (by simp [Builtin.zeroCells, hz]; omega)]
    rw [Array.getElem?_toList]
    have hlt : j * ec + k < n * z.size := by rw [hz]; omega
    simp only [Builtin.zeroCells]
    rw [Array.getElem?_map, Array.getElem?_range]
    rw [if_pos hlt, Option.map_some]
    have hm : (j * ec + k) % z.size = k := by rw [hz, Nat.add_comm, Nat.add_mul_mod_self_right, Nat.mod_eq_of_lt hk]
    rw [hm, getElem!_pos z k (by omega), Array.getElem?_eq_getElem (by omega)]
  · rw [if_neg hk, Array.getElem?_toList, Array.getElem?_eq_none (by omega)]
theorem run_append_zeros0 {av : Value} (w : World) (t tn ty e : TypeId) (i : TypeInfo) (z : Value) (k kn : IntKind) (ht : P.underlying t = some (.slice e)) (htn : P.underlying tn = some (.int kn)) (hi : P.info? e = some i) (hz : i.zero = some z)
    (n : Nat) (h0 : 0 < n) (hs : 0 < i.size) (h63 : (n : Int) ≤ 9223372036854775807) (h48 : n * i.bytes ≤ 281474976710656) (hav : av = .slice none 0 0 ∨ ∃ q, av = .slice (some q) 0 0) :
    (Builtin.append_ #[t, tn] ty #[av, .int k n]).run P w =
      .ok (.slice (some ⟨w.heap.size, 0, none⟩) n (grownCap w n 0 e)) (w.drew.alloc (.cells (Builtin.zeroCells z.cells n ++ Builtin.zeroCells z.cells (grownCap w n 0 e - n)) e)) := by
  rcases hav with rfl | ⟨q, rfl⟩
  · exact Lib.run_append_nil_zeros w t tn ty e i z k kn ht htn hi hz n h0 hs h63 h48
  have hn : n ≠ 0 := by omega
  have hw : IntKind.i64.wrap (n : Int) = n := by simp [IntKind.wrap, IntKind.signed, IntKind.bits]; omega
  have h63' : ¬ (9223372036854775807 < (n : Int)) := by omega
  have h48' : ¬ (281474976710656 < Builtin.nextslicecap n 0 * i.bytes) := by rw [nextslicecap_zero h0]; omega
  have h48i : ¬ (281474976710656 < (n : Int) * (i.bytes : Int)) := by
    rw [← Int.natCast_mul]
    omega
  have hneg : ¬ ((n : Int) < 0) := by omega
  have hns : ¬ (n * i.size = 0) := Nat.mul_ne_zero hn (by omega)
  have hfc : ∀ w : World, (Builtin.firstCells i.size 0 (.slice (some q) 0 0)).run P w = .ok #[] w := fun w => by
    have := run_firstCells_some (P := P) (w := w) i.size 0 q 0 0 [] (by simp) (by simp)
    simpa using this
  simp [Builtin.append_, run_underlying ht, run_underlying htn, sizeOf, typeInfo, zeroValue, hi, hz, asInt, asIntOf, hw, hn, hneg, hns, h63', h48', h48i, Question.forced, hfc, newRow, grownCap]
def NulV (nul : Option Nat) (ver r : Int) (lo hi : Nat) (av : Value) : Prop := (av = .slice none 0 0 ∧ nulOf nul ver r = nul.isSome) ∨ (nulOf nul ver r = false ∧ ∃ q, av = .slice (some ⟨q, 0, none⟩) 0 0 ∧ lo ≤ q ∧ q < hi)
theorem NulV.av {nul : Option Nat} {r : Int} {lo hi : Nat} {av : Value} (h : NulV nul ver r lo hi av) : av = .slice none 0 0 ∨ ∃ q, av = .slice (some q) 0 0 := h.imp (·.1) fun ⟨_, q, h, _⟩ => ⟨_, h⟩
theorem run_bsl0 {ty ety : Nat} (hsl : sliceOf P ty ety = true) (hz : (P.info? ety).isSome = true) : (Instr.buildSlice ty 0 #[]).run P w = .ok (.slice (some ⟨w.heap.size, 0, none⟩) 0 0) (w.alloc (.cells #[] ety)) := by
  obtain ⟨i, hi⟩ := Option.isSome_iff_exists.1 hz
  simp [Instr.buildSlice, run_underlying (sliceOf_eq hsl), sizeOf, typeInfo, hi, Instr.fill, newRow]
  have e : ∀ f : Nat → Value, Array.map f (Array.range 0) = #[] := fun f => by apply Array.toList_inj.1; simp
  rw [e]
theorem nul_ok {nul : Option Nat} {ty ety x u L : Nat} {r : Int} {rest : List MCode} (hsl : sliceOf P ty ety = true) (hi : (P.info? ety).isSome = true) (hx : x + 3 < L) (h9 : 8 < x) (ht : L ≤ u) (hN : u + nulT nul ≤ N) (r8 : ρ 8 = .int .i16 ver) (ra : ρ (x + 1) = .slice none 0 0) (rl : ρ (x + 2) = .int .i32 r)
    (hQ : ∀ ρ' w' av, (∀ s, s < L → s ≠ x + 1 → ρ' s = ρ s) → ρ' (x + 1) = av → Below w.heap.size w w' → NulV nul ver r w.heap.size w'.heap.size av → RWL P N rest Q ρ' w') : RWL P N (nulC R nul ty x u ++ rest) Q ρ w := by
  cases nul with
  | none => exact hQ ρ w _ (fun _ _ _ => rfl) ra ⟨rfl, rfl, rfl, Nat.le_refl _, fun _ _ => rfl⟩ (.inl ⟨rfl, rfl⟩)
  | some nv =>
    simp only [nulT] at hN
    simp only [nulC, List.cons_append, List.nil_append]
    have yes : ∀ ρ1 : Nat → Value, nulOf (some nv) ver r = false → (∀ s, s < L → ρ1 s = ρ s) → RWL P N (.rg [.bsl (u + 6) ty [], .mv (x + 1) (.t (u + 6))] :: rest) Q ρ1 w := by
      intro ρ1 hn h1
      refine RW.rg (RL.step (MR.bslBy (by exact run_bsl0 hsl hi) (by simp)) (RL.step (MR.mv (upd_same _ _ _) (ltT (by omega))) (RL.nil ?_) (by omega)) (by omega))
      have hb := below_box w (.cells #[] ety)
      have hs := size_box w (.cells #[] ety)
      exact hQ _ _ _ (fun s hs hne => by (repeat (first | rw [upd_same] | rw [upd_ne _ _ (by omega)])); exact h1 s hs) (upd_same _ _ _) hb (.inr ⟨hn, _, rfl, Nat.le_refl _, by omega⟩)
    refine RW.sq (RW.gf (S := fun _ => True) trivial ?_)
    refine RG.q (v := .int .i16 ver) (fun _ _ => MR.mv r8 (ltT (by omega))) ?_ rfl rfl (by omega)
    refine RG.q (v := .bool (decide (ver < (nv : Int)))) (fun _ _ => MR.biE (by show evB .lss (upd _ _ _ _) (.int .i16 (nv : Nat)) = _; rw [upd_same]; rfl) (ltT (by omega)) rfl) ?_ rfl rfl (by omega)
    refine RG.q (v := .bool (decide (ver < (nv : Int)))) (fun _ _ => MR.mv (upd_same _ _ _) (ltT (by omega))) ?_ rfl rfl (by omega)
    by_cases hA : ver < (nv : Int)
    · refine RG.no ⟨by omega, .inl (by show upd _ _ _ (u + 2) = _; rw [upd_same]; simp [hA])⟩ ?_ rfl (by omega)
      refine RG.no ⟨by omega, .inl (by show upd _ _ _ (u + 2) = _; (repeat (first | rw [upd_same] | rw [upd_ne _ _ (by omega)])); simp [hA])⟩ ?_ rfl (by omega)
      refine RG.q (v := .bool true) (fun _ _ => MR.pk (b := true) (by show upd _ _ _ (u + 2) = _; (repeat (first | rw [upd_same] | rw [upd_ne _ _ (by omega)])); simp [hA]) rfl (ltT (by omega)) rfl (ltT (by omega))) ?_ rfl rfl (by omega)
      refine RG.nil fun _ => ?_
      refine RW.cd (b := true) (upd_same _ _ _) (fun _ => yes _ (by simp [nulOf, hA]) (fun s hs => by (repeat (first | rw [upd_same] | rw [upd_ne _ _ (by omega)])))) (fun e => by cases e) (by omega)
    · refine RG.q (v := .int .i32 r) (fun _ _ => MR.mv (by show upd _ _ _ (x + 2) = _; (repeat (first | rw [upd_same] | rw [upd_ne _ _ (by omega)])); exact rl) (ltT (by omega))) ?_ rfl ⟨by omega, .inl (by show upd _ _ _ (u + 2) = _; rw [upd_same]; simp [hA])⟩ (by omega)
      refine RG.q (v := .bool (decide (r = 0))) (fun _ _ => MR.biE (by show evB .eql (upd _ _ _ _) (.int .i32 0) = _; rw [upd_same]; show some (Value.bool (r == 0)) = _; rw [show (r == 0) = decide (r = 0) from by by_cases h : r = 0 <;> simp [h]]) (ltT (by omega)) rfl) ?_ rfl ⟨by omega, .inl (by show upd _ _ _ (u + 2) = _; (repeat (first | rw [upd_same] | rw [upd_ne _ _ (by omega)])); simp [hA])⟩ (by omega)
      refine RG.q (v := .bool (decide (r = 0))) (fun _ _ => MR.pk (b := false) (by show upd _ _ _ (u + 2) = _; (repeat (first | rw [upd_same] | rw [upd_ne _ _ (by omega)])); simp [hA]) (by show upd _ _ _ (u + 4) = _; rw [upd_same]) (ltT (by omega)) rfl (ltT (by omega))) ?_ rfl rfl (by omega)
      refine RG.nil fun _ => ?_
      refine RW.cd (upd_same _ _ _) (fun e => yes _ (by have := of_decide_eq_true e; simp [nulOf, this]) (fun s hs => by (repeat (first | rw [upd_same] | rw [upd_ne _ _ (by omega)])))) (fun e => RW.sk ?_) (by omega)
      have e := of_decide_eq_false e
      exact hQ _ w _ (fun s hs hne => by (repeat (first | rw [upd_same] | rw [upd_ne _ _ (by omega)]))) (by (repeat (first | rw [upd_same] | rw [upd_ne _ _ (by omega)])); exact ra) ⟨rfl, rfl, rfl, Nat.le_refl _, fun _ _ => rfl⟩ (.inl ⟨rfl, by simp [nulOf, hA, e]⟩)
theorem make_ok {ty ety x u L ec : Nat} {zs : List Value} {r : Int} {rest : List MCode} (kk : RKOK P R G) (hok : R.okf ≠ 0) (hsl : sliceOf P ty ety = true) (hz : ZE P ety ec zs) (h32 : intTy P R.T.i32 .i32 = true) (hx : x + 3 < L) (h9 : 8 < x) (ht : L ≤ u) (hN : u + 10 ≤ N) (h : RdAt w rb sb st) (r7 : ρ 7 = .pointer (some ⟨rb, 0, none⟩)) (hev : w.cell? ⟨R.gErr, 0, none⟩ = some ev)
    {av : Value} (hav : av = .slice none 0 0 ∨ ∃ q, av = .slice (some q) 0 0) (ra : ρ (x + 1) = av) (rl : ρ (x + 2) = .int .i32 r) (hr : I32 r)
    (hE : stB st = true → ∀ ρ', ρ' 6 = ev → Q .ret ρ' w)
    (h0 : stB st = false → r ≤ 0 → ∀ ρ', (∀ s, s < L → s ≠ x + 1 → ρ' s = ρ s) → ρ' (x + 1) = av → RWL P N rest Q ρ' w)
    (h1 : stB st = false → 0 < r → ∀ ρ' w' c, (∀ s, s < L → s ≠ x + 1 → ρ' s = ρ s) → ρ' (x + 1) = .slice (some ⟨w.heap.size, 0, none⟩) r.toNat c → Below w.heap.size w w' → w'.heap.size = w.heap.size + 1 → (∃ cs : List Value, cs.length = r.toNat * ec ∧ w'.rangeAt w.heap.size 0 cs ∧ ∀ j, j < r.toNat → (cs.drop (j * ec)).take ec = zs) → w'.there w.heap.size 0 (r.toNat * ec) → RWL P N rest Q ρ' w') :
    RWL P N (makeR R ty x u ++ rest) Q ρ w := by
  unfold makeR
  simp only [List.cons_append, List.nil_append]
  refine RW.sq (RW.rg (RL.ca (R := fun v w' => v = .bool (!stB st) ∧ w = w') (kk.okf hok).1 ?_ ?_ (by omega) (by simp [MX.lt, Nat.blt_eq]; omega)))
  · simp only [List.map_cons, List.map_nil, xof, r7]
    refine Calls.mono ((kk.okf hok).2 w rb sb st h) ?_
    rintro e w' ⟨rfl, rfl⟩
    exact ⟨_, rfl, rfl, rfl⟩
  rintro v w' ⟨rfl, rfl⟩
  refine RL.step (MR.nt (upd_same _ _ _) (by omega)) (RL.nil ?_) (by omega)
  refine RW.cd (b := stB st) (by rw [upd_same, Bool.not_not]) (fun e => ?_) (fun e => RW.sk ?_) (by omega)
  · refine RW.sq (RW.rg (RL.ca (R := fun v w' => v = complV ev st ∧ w = w') kk.compl.1 ?_ ?_ (by omega) (by simp [MX.lt, Nat.blt_eq]; omega)))
    · simp only [List.map_cons, List.map_nil, xof]
      rw [upd_ne _ _ (by omega), upd_ne _ _ (by omega), r7]
      refine Calls.mono (kk.compl.2 w rb sb st ev h hev) ?_
      rintro e w' ⟨rfl, rfl⟩
      exact ⟨_, rfl, rfl, rfl⟩
    rintro v w' ⟨rfl, rfl⟩
    refine RL.step (MR.mv (upd_same _ _ _) (ltT (by omega))) (RL.nil (RW.rt (hE e _ ?_))) (by omega)
    rw [upd_same]; unfold complV; rw [e]; rfl
  show RWL P N _ _ _ w
  refine RW.rg (RL.step (MR.mv (v := av) (by show upd _ _ _ (x + 1) = _; (repeat (first | rw [upd_same] | rw [upd_ne _ _ (by omega)])); exact ra) (ltT (by omega))) (RL.step (MR.sl (v := av) ?_ (by simp) (by simp [MX.lt]) (by simp) (by omega)) (RL.step (MR.mv (upd_same _ _ _) (ltT (by omega))) (RL.nil ?_) (by omega)) (by omega)) (by omega))
  · rw [upd_same]
    obtain ⟨i, hi⟩ : ∃ i, P.info? ety = some i := by
      obtain ⟨i, z, hi, _⟩ := hz
      exact ⟨i, hi⟩
    rcases hav with rfl | ⟨q, rfl⟩ <;> simp [Instr.sliceAt, run_underlying (sliceOf_eq hsl), Instr.slice, Instr.sliceBounds, Instr.sliceBound, asIntOf, sizeOf, typeInfo, hi, xof, MVal.val]
  show RWL P N _ _ _ w
  refine RW.sq (RW.rg (RL.step (MR.mv (v := .int .i32 r) (by show upd _ _ _ (x + 2) = _; (repeat (first | rw [upd_same] | rw [upd_ne _ _ (by omega)])); exact rl) (ltT (by omega))) (RL.step (MR.biE (v := .bool (decide (0 < r))) (by show evB .gtr (upd _ _ _ _) (.int .i32 0) = _; rw [upd_same]; rfl) (ltT (by omega)) rfl) (RL.nil ?_) (by omega)) (by omega)))
  refine RW.cd (upd_same _ _ _) (fun e2 => ?_) (fun e2 => RW.sk ?_) (by omega)
  · have e2 := of_decide_eq_true e2
    obtain ⟨k, rfl⟩ : ∃ k : Nat, r = (k : Nat) := ⟨r.toNat, by omega⟩
    have hk : 0 < k := by omega
    have hk32 : k ≤ 2147483647 := by have := hr.2; omega
    obtain ⟨i, z, hi, hzv, hzc, hz1, hz2, hz3, hz0⟩ := hz
    have hzs : z.cells.size = ec := by rw [← Array.length_toList, hzc]; exact hz1
    have hap : ∀ ty', (Builtin.append_ #[ty, R.T.i32] ty' #[av, .int .i32 (k : Nat)]).run P w = _ := fun ty' =>
      run_append_zeros0 (P := P) w ty R.T.i32 ty' ety i z .i32 .i32 (sliceOf_eq hsl) (intTy_eq h32) hi hzv k hk (by omega) (by omega) (by have : k * i.bytes ≤ 2147483647 * 65536 := Nat.mul_le_mul hk32 hz3; omega) hav
    refine RW.rg (RL.step (MR.mv (v := av) (by show upd _ _ _ (x + 1) = _; (repeat (first | rw [upd_same] | rw [upd_ne _ _ (by omega)]))) (ltT (by omega))) (RL.step (MR.mv (v := .int .i32 (k : Nat)) (by show upd _ _ _ (x + 2) = _; (repeat (first | rw [upd_same] | rw [upd_ne _ _ (by omega)])); exact rl) (ltT (by omega)))
      (RL.step (MR.apBy (by rw [upd_ne _ _ (by omega), upd_same, upd_same]; exact hap 0) (fun ty' => by rw [upd_ne _ _ (by omega), upd_same, upd_same]; exact hap ty') (by omega) (by omega)) (RL.step (MR.mv (upd_same _ _ _) (ltT (by omega))) (RL.nil ?_) (by omega)) (by omega)) (by omega)) (by omega))
    have b0 : Below w.heap.size w w.drew := ⟨rfl, rfl, rfl, Nat.le_refl _, fun _ _ => rfl⟩
    have e0 : w.drew.heap.size = w.heap.size := rfl
    have bd := b0.trans (below_box w.drew (.cells (Builtin.zeroCells z.cells k ++ Builtin.zeroCells z.cells (grownCap w k 0 ety - k)) ety))
    have hsz := zeroRow hzs k (grownCap w k 0 ety - k)
    have hth := there_box w.drew (Builtin.zeroCells z.cells k ++ Builtin.zeroCells z.cells (grownCap w k 0 ety - k)).toList ety
    rw [Array.length_toList, hsz, Array.toArray_toList, e0] at hth
    refine h1 ?_ (by omega) _ _ (grownCap w k 0 ety) (fun s hs hsx => by (repeat (first | rw [upd_same] | rw [upd_ne _ _ (by omega)]))) (by rw [upd_same, Int.toNat_natCast]) bd (size_box _ _) ⟨((Builtin.zeroCells z.cells k ++ Builtin.zeroCells z.cells (grownCap w k 0 ety - k)).toList).take (k * ec), ?_, ?_, ?_⟩ ?_
    · cases hb : stB st <;> simp_all
    · rw [List.length_take, Array.length_toList, hsz, Int.toNat_natCast]; omega
    · intro j v hj
      rw [List.getElem?_take] at hj
      split at hj
      · have := cell_box w.drew _ ety hj
        rwa [Array.toArray_toList] at this
      · simp at hj
    · intro j hj
      rw [Int.toNat_natCast] at hj
      have h1 : (j + 1) * ec ≤ k * ec := Nat.mul_le_mul_right _ hj
      have h2 : (j + 1) * ec = j * ec + ec := Nat.succ_mul j ec
      rw [List.drop_take, List.take_take, Nat.min_eq_left (by omega), ← hzc]
      exact zeroPart hzs hj
    · rw [Int.toNat_natCast]
      have := there_in (k := 0) (m := k * ec) hth (by omega)
      exact this
  · have e2 := of_decide_eq_false e2
    refine h0 ?_ (by omega) _ (fun s hs hsx => by (repeat (first | rw [upd_same] | rw [upd_ne _ _ (by omega)]))) (by (repeat (first | rw [upd_same] | rw [upd_ne _ _ (by omega)])))
    cases hb : stB st <;> simp_all
end
set_option linter.unusedVariables false
def splice (k : Nat) (vs cs : List Value) : List Value := cs.take k ++ vs ++ cs.drop (k + vs.length)
theorem splice_len {k : Nat} {vs cs : List Value} (h : k + vs.length ≤ cs.length) : (splice k vs cs).length = cs.length := by
  simp only [splice, List.length_append, List.length_take, List.length_drop]; omega
theorem splice_take {k : Nat} {vs cs : List Value} (h : k + vs.length ≤ cs.length) : (splice k vs cs).take k = cs.take k := by
  unfold splice
  rw [List.append_assoc, List.take_append_of_le_length (by rw [List.length_take]; omega), List.take_take, Nat.min_self]
theorem splice_mid {k : Nat} {vs cs : List Value} (h : k + vs.length ≤ cs.length) : ((splice k vs cs).drop k).take vs.length = vs := by
  unfold splice
  have e : (cs.take k).length = k := by rw [List.length_take]; omega
  rw [List.append_assoc, List.drop_append_of_le_length (by omega), List.drop_eq_nil_of_le (by omega), List.nil_append, List.take_append_of_le_length (Nat.le_refl _), List.take_length]
theorem splice_drop {k : Nat} {vs cs : List Value} (h : k + vs.length ≤ cs.length) : (splice k vs cs).drop (k + vs.length) = cs.drop (k + vs.length) := by
  unfold splice
  have e : (cs.take k ++ vs).length = k + vs.length := by rw [List.length_append, List.length_take]; omega
  rw [List.drop_append_of_le_length (by omega), List.drop_eq_nil_of_le (by omega), List.nil_append]
theorem part_of_take {k a m : Nat} {l l' : List Value} (h : l.take k = l'.take k) (ha : a + m ≤ k) : (l.drop a).take m = (l'.drop a).take m := by
  have e : ∀ l : List Value, (l.drop a).take m = ((l.take k).drop a).take m := fun l => by rw [List.drop_take, List.take_take, Nat.min_eq_left (by omega)]
  rw [e l, e l', h]
theorem part_of_drop {k a m : Nat} {l l' : List Value} (h : l.drop k = l'.drop k) (ha : k ≤ a) : (l.drop a).take m = (l'.drop a).take m := by
  have e : ∀ l : List Value, l.drop a = (l.drop k).drop (a - k) := fun l => by rw [List.drop_drop]; congr 1; omega
  rw [e l, e l', h]
section
variable {P : Program} {N : Nat} {Q : Exit → (Nat → Value) → World → Prop} {ρ : Nat → Value} {w w' : World} {ms : List MOp} {R : RN} {G : TG} {rb sb h b o n : Nat} {ev : Value} {st st' : Option (List UInt8)} {sf : Option Nat} {flex : Bool} {ver : Int}
theorem range_splice {X : Nat → Prop} {k : Nat} {cs vs : List Value} (hr : w.rangeAt b o cs) (hf : Fr X b (o + k) vs.length w w') (hv : w'.rangeAt b (o + k) vs) (hk : k + vs.length ≤ cs.length) : w'.rangeAt b o (splice k vs cs) := by
  intro j v hj
  unfold splice at hj
  have e1 : (cs.take k).length = k := by rw [List.length_take]; omega
  by_cases h1 : j < k
  · rw [List.append_assoc, List.getElem?_append_left (by omega), List.getElem?_take, if_pos h1] at hj
    rw [hf.cell (o + j) (.inl (by omega))]
    exact hr j v hj
  · by_cases h2 : j < k + vs.length
    · rw [List.append_assoc, List.getElem?_append_right (by omega), List.getElem?_append_left (by omega), e1] at hj
      have := hv (j - k) v hj
      rwa [show o + k + (j - k) = o + j from by omega] at this
    · rw [List.getElem?_append_right (by rw [List.length_append]; omega), List.getElem?_drop, List.length_append, e1] at hj
      rw [hf.cell (o + j) (.inr (by omega))]
      exact hr j v (by rw [← hj]; congr 1; omega)
theorem Got.rep {α : Type} {de : Dec α} {k : Nat} {x : α} {xs : List α} {s1 s2 s3 : Option (List UInt8)} (h1 : Got de s1 x s2) (h2 : Got (Kx.rep de k) s2 xs s3) : Got (Kx.rep de (k + 1)) s1 (x :: xs) s3 :=
  Got.bind (k := fun d => (Kx.rep de k).map fun ds => d :: ds) h1 (h2.map (f := fun ds => x :: ds))
theorem range_part {k m : Nat} {cs : List Value} (h : w.rangeAt b o cs) : w.rangeAt b (o + k) ((cs.drop k).take m) := by
  intro j v hj
  rw [List.getElem?_take] at hj
  split at hj
  · rw [List.getElem?_drop] at hj
    have := h (k + j) v hj
    rwa [← Nat.add_assoc] at this
  · simp at hj
theorem Got.any {α : Type} {d : Dec α} {x y : α} (h : Got d st x none) : Got d st y none := h
theorem loop_ok {x u bk L ab l ec cap : Nat} {body : MCode} {el : Ty} {de : Dec D} {cs zs : List Value} (hh : FH P R rb sb ab ab 0 (l * ec) ev st w) (hl : l ≤ 2147483647) (hx : x + 4 < L) (hL : L ≤ u) (hN : u + 15 ≤ N)
    (ra : ρ (x + 1) = .slice (some ⟨ab, 0, none⟩) l cap) (rl : ρ (x + 2) = .int .i32 (l : Nat)) (hc : w.rangeAt ab 0 cs) (hcl : cs.length = l * ec) (hcz : ∀ j, j < l → (cs.drop (j * ec)).take ec = zs)
    (hB : ∀ (i : Nat) (ρ1 : Nat → Value) (w1 : World) (st1 : Option (List UInt8)) (Q1 : Exit → (Nat → Value) → World → Prop), i < l → (∀ s, s < x + 3 → ρ1 s = ρ s) → ρ1 (x + 3) = .int .i32 (i : Nat) → FH P R rb sb ab ab 0 (l * ec) ev st1 w1 → Fr (· = rb) ab 0 (l * ec) w w1 → w1.rangeAt ab (i * ec) zs →
      (∀ ρ2 w2 d st2 vs, (∀ s, s < x + 4 → ρ2 s = ρ1 s) → Fr (· = rb) ab (i * ec) ec w1 w2 → Got de st1 d st2 → RdAt w2 rb sb st2 → w2.rangeAt ab (i * ec) vs → vs.length = ec → Rep w2 (FB sb ab w2) el vs d → Q1 .normal ρ2 w2) →
      (∀ ρ2 w2, ρ2 6 = ev → Fr (· = rb) ab (i * ec) ec w1 w2 → (∀ d, Got de st1 d none) → Q1 .ret ρ2 w2) → RW P N body Q1 ρ1 w1)
    (hQ : ∀ ρ' w' xs st' cs', (∀ s, s < x + 3 → ρ' s = ρ s) → Fr (· = rb) ab 0 (l * ec) w w' → xs.length = l → Got (rep de l) st xs st' → RdAt w' rb sb st' → w'.rangeAt ab 0 cs' → cs'.length = l * ec → (∀ i d, xs[i]? = some d → Rep w' (FB sb ab w') el ((cs'.drop (i * ec)).take ec) d) → Q .normal ρ' w')
    (hE : ∀ ρ' w', ρ' 6 = ev → Fr (· = rb) ab 0 (l * ec) w w' → (∀ xs, Got (rep de l) st xs none) → Q .ret ρ' w') :
    RW P N (loopR R x u bk body) Q ρ w := by
  unfold loopR
  refine RW.sq (RW.rg (RL.step MR.mv (RL.nil (RW.bl ?_)) (by omega)))
  refine RW.lp (fun ρ' w' => ∃ (i : Nat) (sti : Option (List UInt8)) (xs : List D) (csi : List Value), i ≤ l ∧ xs.length = i ∧ (∀ s, s < x + 3 → ρ' s = ρ s) ∧ ρ' (x + 3) = .int .i32 (i : Nat) ∧ FH P R rb sb ab ab 0 (l * ec) ev sti w' ∧ Fr (· = rb) ab 0 (l * ec) w w' ∧ w'.rangeAt ab 0 csi ∧ csi.length = l * ec ∧
      (∀ ys st', Got (rep de (l - i)) sti ys st' → Got (rep de l) st (xs ++ ys) st') ∧ (∀ j d, xs[j]? = some d → Rep w' (FB sb ab w') el ((csi.drop (j * ec)).take ec) d) ∧ (∀ j, i ≤ j → j < l → (csi.drop (j * ec)).take ec = zs))
    (fun ρ' _ => l - (intOf (ρ' (x + 3))).toNat) ⟨0, st, [], cs, Nat.zero_le _, rfl, fun s hs => by (repeat (first | rw [upd_same] | rw [upd_ne _ _ (by omega)])), upd_same _ _ _, hh, Fr.refl _ _ _ _ _, hc, hcl, fun ys st' hg => hg, fun j d hj => by simp at hj, fun j _ hj => hcz j hj⟩ ?_ (fun ρ1 ρ2 w1 h => by rw [h (x + 3) (by omega)])
  rintro ρ1 w1 ⟨i, sti, xs, csi, hi, hxl, q, q3, hh1, hF1, hc1, hcl1, hG1, hR1, hZ1⟩
  refine RW.sq (RW.sq (RW.rg (RL.step (MR.mv q3 (ltT (by omega))) (RL.step (MR.mv (v := .int .i32 (l : Nat)) (by show upd _ _ _ (x + 2) = _; (repeat (first | rw [upd_same] | rw [upd_ne _ _ (by omega)])); rw [q _ (by omega)]; exact rl) (ltT (by omega))) (RL.step (MR.biE (v := .bool (decide ((i : Int) < (l : Nat)))) (by show evB .lss (upd _ _ _ (u + 10)) (upd _ _ _ (u + 11)) = _; (repeat (first | rw [upd_same] | rw [upd_ne _ _ (by omega)])); rfl) (ltT (by omega)) (ltT (by omega))) (RL.nil ?_) (by omega)) (by omega)) (by omega))))
  refine RW.cd (upd_same _ _ _) (fun e => RW.sk ?_) (fun e => RW.ex ?_) (by omega)
  · have e : i < l := by have := of_decide_eq_true e; omega
    have hmul : (i + 1) * ec ≤ l * ec := Nat.mul_le_mul_right _ e
    have hmul' : (i + 1) * ec = i * ec + ec := Nat.succ_mul i ec
    show RW P N _ _ _ w1
    refine RW.sq (RW.bl ?_)
    refine hB i _ w1 sti _ e (fun s hs => by (repeat (first | rw [upd_same] | rw [upd_ne _ _ (by omega)])); exact q s hs) (by (repeat (first | rw [upd_same] | rw [upd_ne _ _ (by omega)])); exact q3) hh1 hF1 ?_ ?_ ?_
    · have := range_part (k := i * ec) (m := ec) hc1
      rw [Nat.zero_add, hZ1 i (Nat.le_refl _) e] at this
      exact this
    · intro ρ2 w2 d st2 vs k1 k2 k3 k4 k5 k6 k7
      have hk : i * ec + vs.length ≤ csi.length := by rw [hcl1, k6]; omega
      have k2' : Fr (· = rb) ab (0 + i * ec) vs.length w1 w2 := by rw [Nat.zero_add, k6]; exact k2
      have F2 : Fr (· = rb) ab 0 (l * ec) w w2 := hF1.trans (k2.wide (fun _ h => h) (Nat.zero_le _) (by omega))
      have q3' : ρ2 (x + 3) = .int .i32 (i : Nat) := by rw [k1 _ (by omega)]; (repeat (first | rw [upd_same] | rw [upd_ne _ _ (by omega)])); exact q3
      show RW P N _ _ ρ2 w2
      have hwr : IntKind.i32.wrap ((i : Int) + 1) = ((i + 1 : Nat) : Int) := by simp [IntKind.wrap, IntKind.signed, IntKind.bits]; omega
      refine RW.rg (RL.step (MR.mv q3' (ltT (by omega))) (RL.step (MR.biE (v := .int .i32 ((i + 1 : Nat) : Int)) (by show evB .add (upd _ _ _ _) (.int .i32 1) = _; rw [upd_same]; show some (Value.int .i32 (IntKind.i32.wrap ((i : Int) + 1))) = _; rw [hwr]) (ltT (by omega)) rfl) (RL.step (MR.mv (upd_same _ _ _) (ltT (by omega))) (RL.nil ?_) (by omega)) (by omega)) (by omega))
      refine ⟨⟨i + 1, st2, xs ++ [d], splice (i * ec) vs csi, by omega, by simp [hxl], fun s hs => by (repeat (first | rw [upd_same] | rw [upd_ne _ _ (by omega)])); rw [k1 s (by omega)]; (repeat (first | rw [upd_same] | rw [upd_ne _ _ (by omega)])); exact q s hs, upd_same _ _ _, hh1.keep k2 k4, F2, ?_, ?_, ?_, ?_, ?_⟩, ?_⟩
      · exact range_splice hc1 k2' (by rw [Nat.zero_add]; exact k5) hk
      · rw [splice_len hk]; exact hcl1
      · intro ys st' hg
        rw [List.append_assoc]
        refine hG1 _ _ ?_
        have : l - i = (l - (i + 1)) + 1 := by omega
        rw [this]
        exact k3.rep hg
      · intro j d' hj
        rw [List.getElem?_append] at hj
        split at hj
        · rename_i hjl
          have hjl' : (j + 1) * ec ≤ i * ec := Nat.mul_le_mul_right _ (by omega)
          have hjl2 : (j + 1) * ec = j * ec + ec := Nat.succ_mul j ec
          rw [part_of_take (splice_take hk) (by omega)]
          exact hh1.rep k2 (hR1 j d' hj)
        · rename_i hjl
          have hj0 : j = i := by
            have := (List.getElem?_eq_some_iff.1 hj).1
            simp at this; omega
          subst hj0
          rw [hxl, Nat.sub_self] at hj
          simp only [List.getElem?_cons_zero, Option.some.injEq] at hj
          subst hj
          have e2 := splice_mid hk
          rw [k6] at e2
          rw [e2]; exact k7
      · intro j hj1 hj2
        have hj3 : (i + 1) * ec ≤ j * ec := Nat.mul_le_mul_right _ hj1
        rw [part_of_drop (splice_drop hk) (by rw [k6]; omega)]
        exact hZ1 j (by omega) hj2
      · show l - (intOf (upd _ _ _ (x + 3))).toNat < l - (intOf (ρ1 (x + 3))).toNat
        rw [upd_same, q3]; simp only [intOf]; omega
    · intro ρ2 w2 k1 k2 k3
      have F2 : Fr (· = rb) ab 0 (l * ec) w w2 := hF1.trans (k2.wide (fun _ h => h) (Nat.zero_le _) (by omega))
      refine hE ρ2 w2 k1 F2 (fun ys => Got.any (hG1 [] none ?_))
      have : l - i = (l - (i + 1)) + 1 := by omega
      rw [this]
      exact Got.bind (k := fun d => (Kx.rep de (l - (i + 1))).map fun ds => d :: ds) (k3 (.n 0)) (by exact rfl)
  · have e : i = l := by have := of_decide_eq_false e; omega
    subst e
    show (if bk = bk then Q .normal _ w1 else _)
    rw [if_pos rfl]
    refine hQ _ w1 xs sti csi (fun s hs => by (repeat (first | rw [upd_same] | rw [upd_ne _ _ (by omega)])); exact q s hs) hF1 hxl ?_ hh1.rd hc1 hcl1 hR1
    have := hG1 [] sti (by rw [Nat.sub_self]; exact Got.pure _)
    rwa [List.append_nil] at this
theorem loop0_ok {x u bk L : Nat} {r : Int} {body : MCode} (hr : r ≤ 0) (hx : x + 4 < L) (hL : L ≤ u) (hN : u + 15 ≤ N) (rl : ρ (x + 2) = .int .i32 r) (hQ : ∀ ρ', (∀ s, s < x + 3 → ρ' s = ρ s) → Q .normal ρ' w) : RW P N (loopR R x u bk body) Q ρ w := by
  unfold loopR
  refine RW.sq (RW.rg (RL.step MR.mv (RL.nil (RW.bl ?_)) (by omega)))
  refine RW.lp (fun ρ' w' => w' = w ∧ (∀ s, s < x + 3 → ρ' s = ρ s) ∧ ρ' (x + 3) = .int .i32 0) (fun _ _ => 0) ⟨rfl, fun s hs => by (repeat (first | rw [upd_same] | rw [upd_ne _ _ (by omega)])), upd_same _ _ _⟩ ?_
  rintro ρ1 w1 ⟨rfl, q, q3⟩
  refine RW.sq (RW.sq (RW.rg (RL.step (MR.mv q3 (ltT (by omega))) (RL.step (MR.mv (v := .int .i32 r) (by show upd _ _ _ (x + 2) = _; (repeat (first | rw [upd_same] | rw [upd_ne _ _ (by omega)])); rw [q _ (by omega)]; exact rl) (ltT (by omega))) (RL.step (MR.biE (v := .bool (decide ((0 : Int) < r))) (by show evB .lss (upd _ _ _ (u + 10)) (upd _ _ _ (u + 11)) = _; (repeat (first | rw [upd_same] | rw [upd_ne _ _ (by omega)])); rfl) (ltT (by omega)) (ltT (by omega))) (RL.nil ?_) (by omega)) (by omega)) (by omega))))
  refine RW.cd (upd_same _ _ _) (fun e => absurd (of_decide_eq_true e) (by omega)) (fun e => RW.ex ?_) (by omega)
  show (if bk = bk then Q .normal _ _ else _)
  rw [if_pos rfl]
  exact hQ _ (fun s hs => by (repeat (first | rw [upd_same] | rw [upd_ne _ _ (by omega)])); exact q s hs)
theorem Fr.drop {X X' : Nat → Prop} (h : Fr X b o n w w') (hX : ∀ k, X k → X' k ∨ w.heap.size ≤ k) : Fr X' b o n w w' :=
  ⟨h.os, h.tape, h.output, h.size, fun k h1 h2 h3 => h.block k h1 h2 (fun x => (hX k x).elim h3 (fun e => by omega)), h.cell, h.there⟩
theorem elemR_ok {ty ety x t L ab l cap i : Nat} {k : PK} (kk : RKOK P R G) (hk : rdOk R sf k = true) (hsl : sliceOf P ty ety = true) (hc : cellsB P ety k.cells = true) (hh : FH P R rb sb ab ab 0 (l * k.cells) ev st w) (r7 : ρ 7 = .pointer (some ⟨rb, 0, none⟩)) (r2 : ρ 2 = .bool false) (rf : ∀ s, sf = some s → ρ s = .bool flex) (nf : sf = none → flex = false)
    (h9 : 8 < x) (hs : ∀ s, sf = some s → s < x) (hx : x + 4 < L) (hL : L ≤ t) (hN : (elemR R sf k ty ety x t).2 ≤ N) (ra : ρ (x + 1) = .slice (some ⟨ab, 0, none⟩) l cap) (ri : ρ (x + 3) = .int .i32 (i : Nat)) (hi : i < l)
    (hQ : ∀ ρ2 w2 d st2 us, (∀ s, s < x + 4 → ρ2 s = ρ s) → Fr (· = rb) ab (i * k.cells) k.cells w w2 → Got (dP k flex) st d st2 → RdAt w2 rb sb st2 → w2.rangeAt ab (i * k.cells) us → us.length = k.cells → RepP w2 (FB sb ab w2) k us d → Q .normal ρ2 w2) : RW P N (elemR R sf k ty ety x t).1 Q ρ w := by
  simp only [elemR] at hN ⊢
  have hle := @rdA_le R sf k (x + 4) t
  have hmul : (i + 1) * k.cells ≤ l * k.cells := Nat.mul_le_mul_right _ hi
  have hmul' : (i + 1) * k.cells = i * k.cells + k.cells := Nat.succ_mul i k.cells
  refine RWL.rows ?_
  have core : ∀ ρ1, (∀ s, s < x + 4 → ρ1 s = ρ s) → RWL P N [(rdA R sf k (x + 4) t).1, .rg [.mv (rdA R sf k (x + 4) t).2 (.t (x + 1)), .mv ((rdA R sf k (x + 4) t).2 + 1) (.t (x + 3)), .mv ((rdA R sf k (x + 4) t).2 + 2) (.t (x + 4)), .ia ((rdA R sf k (x + 4) t).2 + 3) ty (rdA R sf k (x + 4) t).2 ((rdA R sf k (x + 4) t).2 + 1), .st ety ((rdA R sf k (x + 4) t).2 + 3) ((rdA R sf k (x + 4) t).2 + 2)]] Q ρ1 w := by
    intro ρ1 h1
    refine rdA_ok (L := L) kk hk hx (by omega) (fun s e => by have := hs s e; omega) hL (by omega) hh.rd hh.ne (by rw [h1 7 (by omega)]; exact r7) (by rw [h1 2 (by omega)]; exact r2) (fun s e => by rw [h1 s (by have := hs s e; omega)]; exact rf s e) nf ?_
    intro ρ2 w2 v d st2 g1 g2 g3 g4 g5 g6
    obtain ⟨_, g6a, g6b, g6c⟩ := g6
    have hln : v.cells.toList.length = k.cells := by rw [Array.length_toList]; exact g6a
    have F1 : Fr (· = rb) ab (i * k.cells) k.cells w w2 := g3.rd hh.rbb hh.hw
    have ht2 : w2.there ab (i * k.cells) k.cells := by
      have := there_in (k := i * k.cells) (m := k.cells) (F1.there _ _ hh.th) (by omega)
      rwa [Nat.zero_add] at this
    have ea : ρ2 (x + 1) = .slice (some ⟨ab, 0, none⟩) l cap := by rw [g1 _ (by omega) (by omega), h1 _ (by omega)]; exact ra
    have ei : ρ2 (x + 3) = .int .i32 (i : Nat) := by rw [g1 _ (by omega) (by omega), h1 _ (by omega)]; exact ri
    generalize (rdA R sf k (x + 4) t).2 = u at hN hle ⊢
    refine RW.rg (RL.step (MR.mv ea (ltT (by omega))) (RL.step (MR.mv (v := .int .i32 (i : Nat)) (by show upd _ _ _ (x + 3) = _; (repeat (first | rw [upd_same] | rw [upd_ne _ _ (by omega)])); exact ei) (ltT (by omega))) (RL.step (MR.mv (v := v) (by show upd _ _ _ (x + 4) = _; (repeat (first | rw [upd_same] | rw [upd_ne _ _ (by omega)])); exact g2) (ltT (by omega)))
      (RL.step (MR.ia (k := .i32) (b := ab) (o := 0) (len := l) (cap := cap) (j := i) (sz := k.cells) hsl hc (by (repeat (first | rw [upd_same] | rw [upd_ne _ _ (by omega)]))) (by (repeat (first | rw [upd_same] | rw [upd_ne _ _ (by omega)]))) hi (by omega) (by omega)) ?_ (by omega)) (by omega)) (by omega)) (by omega))
    rw [Nat.zero_add]
    have e1 : ∀ (z : Value), (upd (upd (upd (upd ρ2 u (.slice (some ⟨ab, 0, none⟩) l cap)) (u + 1) (.int .i32 (i : Nat))) (u + 2) v) (u + 3) z) (u + 2) = v := fun z => by (repeat (first | rw [upd_same] | rw [upd_ne _ _ (by omega)]))
    refine RL.st (b := ab) (o := i * k.cells) (upd_same _ _ _) (by rw [e1, g6a]; exact hc) (by rw [e1, g6a]; exact ht2) (by rw [e1]; exact (by rw [← Array.all_toList]; exact g6b)) ?_ (by omega) (by omega)
    rw [e1]
    refine RL.nil ?_
    have F2 : Fr (· = rb) ab (i * k.cells) k.cells w2 (w2.setCells ab (i * k.cells) v.cells.toList) := Fr.put _ (by omega) (by rw [hln]; omega)
    refine hQ _ _ d st2 v.cells.toList (fun s hs => by (repeat (first | rw [upd_same] | rw [upd_ne _ _ (by omega)])); rw [g1 s (by omega) (by omega), h1 s hs]) (F1.trans F2) g4 ?_ (World.rangeAt_setCells_same _ _ _ _ (by rw [hln]; exact ht2)) hln ?_
    · exact g5.keep (setCells_other ab _ _ _ rb (fun e => hh.rbb e.symm)) (setCells_other ab _ _ _ sb hh.nb)
    · have hsz : w2.heap.size ≤ (w2.setCells ab (i * k.cells) v.cells.toList).heap.size := F2.size
      have hw := hh.hw
      refine RepP.mono g6c.bound (fun k hk => ?_) (fun k hk => setCells_other ab _ _ _ k ?_)
      · rcases hk with ⟨hk | hk, hk'⟩
        · exact .inl hk
        · exact .inr ⟨Nat.lt_of_lt_of_le hw hk, Nat.lt_of_lt_of_le hk' hsz⟩
      · rcases hk with ⟨rfl | hk, _⟩
        · exact hh.nb
        · exact fun e => by omega
  cases h2 : k.two
  · simp only [Bool.false_eq_true, if_false, List.nil_append]
    exact core ρ fun _ _ => rfl
  · simp only [if_true, List.cons_append, List.nil_append]
    exact RW.rg (RL.step MR.mv (RL.nil (core _ fun s hs => by rw [upd_ne _ _ (by omega)])) (by omega))
theorem elemRU_ok {ty ety x t L ab l cap i : Nat} (kk : RKOK P R G) (h0 : R.uuid ≠ 0) (hsl : sliceOf P ty ety = true) (hc : cellsB P ety 16 = true) (hrow : rowTy P ety = true) (hz : zeroIs P ety (List.replicate 16 (.int .u8 0)) = true) (hh : FH P R rb sb ab ab 0 (l * 16) ev st w) (r7 : ρ 7 = .pointer (some ⟨rb, 0, none⟩))
    (h9 : 8 < x) (hx : x + 4 < L) (hL : L ≤ t) (hN : t + 5 ≤ N) (ra : ρ (x + 1) = .slice (some ⟨ab, 0, none⟩) l cap) (ri : ρ (x + 3) = .int .i32 (i : Nat)) (hi : i < l)
    (hQ : ∀ ρ2 w2 d st2 us, (∀ s, s < x + 4 → ρ2 s = ρ s) → Fr (· = rb) ab (i * 16) 16 w w2 → Got (dP .uuid flex) st d st2 → RdAt w2 rb sb st2 → w2.rangeAt ab (i * 16) us → us.length = 16 → RepP w2 (FB sb ab w2) .uuid us d → Q .normal ρ2 w2) : RW P N (elemRU R ty ety x t).1 Q ρ w := by
  have hmul : (i + 1) * 16 ≤ l * 16 := Nat.mul_le_mul_right _ hi
  have hzz := zeroIs_of hz
  unfold elemRU
  refine RWL.rows ?_
  refine RW.rg (RL.rd (kk.fn .uuid flex h0) r7 hh.rd hh.ne (ltT (by omega)) (by omega) fun v d st2 w2 g3 g4 g5 g6 => ?_)
  obtain ⟨g6v, g6a, g6b, g6c⟩ := g6
  have hv : v = .agg v.cells := g6v
  have hl16 : v.cells.toList.length = 16 := by rw [Array.length_toList]; exact g6a
  have hw := hh.hw
  have hsz2 := g3.size
  refine RL.alst (n := 16) (cs := v.cells.toList) hzz (by rw [upd_same, Array.toArray_toList]; exact hv) (by omega) (by simp) hl16 hc g6b ?_ (by omega) (by omega)
  intro w3 b3 s3 r3 t3
  refine RL.nil ?_
  show RWL P N _ _ _ w3
  have F1 : Fr (· = rb) ab (i * 16) 16 w w2 := g3.rd hh.rbb hh.hw
  have F3 : Fr (· = rb) ab (i * 16) 16 w2 w3 := Fr.ofBelow b3 (by omega)
  have R3 : RdAt w3 rb sb st2 := g5.below b3
  have ht3 : w3.there ab (i * 16) 16 := by
    have := there_in (k := i * 16) (m := 16) ((F1.trans F3).there _ _ hh.th) (by omega)
    rwa [Nat.zero_add] at this
  refine RW.rg (RL.step (MR.mv (v := .slice (some ⟨ab, 0, none⟩) l cap) (by show upd _ _ _ (x + 1) = _; (repeat (first | rw [upd_same] | rw [upd_ne _ _ (by omega)])); exact ra) (ltT (by omega))) (RL.step (MR.mv (v := .int .i32 (i : Nat)) (by show upd _ _ _ (x + 3) = _; (repeat (first | rw [upd_same] | rw [upd_ne _ _ (by omega)])); exact ri) (ltT (by omega))) (RL.step (MR.ldRow (b := w2.heap.size) (o := 0) (cs := v.cells.toList) (by (repeat (first | rw [upd_same] | rw [upd_ne _ _ (by omega)]))) hrow (by rw [hl16]; exact hc) r3 (by omega))
    (RL.step (MR.ia (k := .i32) (b := ab) (o := 0) (len := l) (cap := cap) (j := i) (sz := 16) hsl hc (by (repeat (first | rw [upd_same] | rw [upd_ne _ _ (by omega)]))) (by (repeat (first | rw [upd_same] | rw [upd_ne _ _ (by omega)]))) hi (by omega) (by omega)) (RL.stA (cs := v.cells.toList) (b := ab) (o := i * 16) (by rw [upd_same, Nat.zero_add]) (by (repeat (first | rw [upd_same] | rw [upd_ne _ _ (by omega)]))) (by rw [hl16]; exact hc) (by rw [hl16]; exact ht3) g6b (RL.nil ?_) (by omega) (by omega)) (by omega)) (by omega)) (by omega)) (by omega))
  have F2 : Fr (· = rb) ab (i * 16) 16 w3 (w3.setCells ab (i * 16) v.cells.toList) := Fr.put _ (by omega) (by rw [hl16]; omega)
  refine hQ _ _ d st2 v.cells.toList (fun s hs => by (repeat (first | rw [upd_same] | rw [upd_ne _ _ (by omega)]))) ((F1.trans F3).trans F2) g4 ?_ (World.rangeAt_setCells_same _ _ _ _ (by rw [hl16]; exact ht3)) hl16 ?_
  · exact R3.keep (setCells_other ab _ _ _ rb (fun e => hh.rbb e.symm)) (setCells_other ab _ _ _ sb hh.nb)
  · simp only [RepP] at g6c ⊢; exact g6c
theorem lenR_le {x t : Nat} : t ≤ (lenR R sf x t).2 := ifFlex_le2 (fun _ => callR_le) (fun _ => callR_le)
structure ElC (P : Program) (R : RN) (N : Nat) (rb sb : Nat) (ev : Value) (sf : Option Nat) (flex : Bool) (ver : Int) (el : Ty) (x L : Nat) (zs : List Value) (body : Nat → MCode × Nat × Nat × Nat) : Prop where
  go : ∀ {t' ab l c i vs b o : Nat} {ρ ρ1 : Nat → Value} {w1 : World} {st1 : Option (List UInt8)} {Q1 : Exit → (Nat → Value) → World → Prop}, L ≤ t' → (body t').2.1 ≤ N → FH P R rb sb ab ab 0 (l * el.cells) ev st1 w1 → RCx sf flex ver rb vs b o ρ → vs < x → (∀ s, s < x → ρ1 s = ρ s) →
    ρ1 (x + 1) = .slice (some ⟨ab, 0, none⟩) l c → ρ1 (x + 3) = .int .i32 (i : Nat) → i < l → w1.rangeAt ab (i * el.cells) zs →
    (∀ ρ2 w2 d st2 vs, (∀ s, s < x + 4 → ρ2 s = ρ1 s) → Fr (· = rb) ab (i * el.cells) el.cells w1 w2 → Got (dec ver flex el) st1 d st2 → RdAt w2 rb sb st2 → w2.rangeAt ab (i * el.cells) vs → vs.length = el.cells → Rep w2 (FB sb ab w2) el vs d → Q1 .normal ρ2 w2) →
    (∀ ρ2 w2, ρ2 6 = ev → Fr (· = rb) ab (i * el.cells) el.cells w1 w2 → (∀ d, Got (dec ver flex el) st1 d none) → Q1 .ret ρ2 w2) → RW P N (body t').1 Q1 ρ1 w1
theorem arrR_ok {T vs idx off ty ety x t bk L : Nat} {el : Ty} {zs : List Value} {nul : Option Nat} {body : Nat → MCode × Nat × Nat × Nat} (kk : RKOK P R G) (hwf : arrB P R sf ty ety el.cells = true) (hz : ZE P ety el.cells zs) (hF : fieldAtB P T idx off = true) (hh : FH P R rb sb h b o n ev st w) (cx : RCx sf flex ver rb vs b o ρ)
    (hx9 : 9 ≤ x) (hs : ∀ s, sf = some s → s < x) (hvx : vs < x) (hxL : x + 4 < L) (hL : L ≤ t) (hb : ∀ t, t ≤ (body t).2.1) (hN : (arrR R sf nul T vs idx ty t x bk body).2.1 ≤ N) (hoff : off + 1 ≤ n) (h0 : w.cell? ⟨b, o + off, none⟩ = some (.slice none 0 0))
    (hel : ElC P R N rb sb ev sf flex ver el x L zs body)
    (hQ : ∀ ρ' w' d st' v, (∀ s, s < x → ρ' s = ρ s) → Fr (· = rb) b (o + off) 1 w w' → Got (dec ver flex (.arr nul ty ety el)) st d st' → RdAt w' rb sb st' → w'.rangeAt b (o + off) [v] → Rep w' (FB sb h w') (.arr nul ty ety el) [v] d → Q .normal ρ' w')
    (hE : ∀ ρ' w', ρ' 6 = ev → Fr (· = rb) b (o + off) 1 w w' → (∀ d, Got (dec ver flex (.arr nul ty ety el)) st d none) → Q .ret ρ' w') : RW P N (arrR R sf nul T vs idx ty t x bk body).1 Q ρ w := by
  simp only [arrB, Bool.and_eq_true] at hwf
  obtain ⟨⟨⟨⟨⟨⟨⟨⟨f2, f3⟩, f4⟩, f5⟩, f6⟩, f7⟩, f10⟩, f8⟩, f9⟩ := hwf
  simp only [arrR] at hN ⊢
  have hbw : b < w.heap.size := Nat.lt_of_le_of_lt hh.hb hh.hw
  have hle1 : t + 5 ≤ (lenR R sf x (t + 5)).2 := lenR_le
  have hle2 := hb ((lenR R sf x (t + 5)).2 + nulT nul + 15)
  generalize hbody : body ((lenR R sf x (t + 5)).2 + nulT nul + 15) = bd at hN hle2 ⊢
  refine RWL.rows ?_
  simp only [List.cons_append, List.nil_append]
  refine loadR_ok (L := L) hF f3 cx.rv h0 (by omega) (by omega) hL (by omega) fun ρ1 a1 a2 => ?_
  refine mv2_ok (L := L) a2 (by omega) (by omega) (by omega) (by omega) fun ρ2 b1 b2 => ?_
  refine mvc_ok (L := L) (by omega) (by omega) fun ρ3 c1 c2 => ?_
  have q3 : ∀ s, s < x → ρ3 s = ρ s := fun s hs => by rw [c1 s (by omega) (by omega), b1 s (by omega) (by omega), a1 s (by omega) (by omega)]
  have cx3 := cx.keep q3 hx9 hs hvx
  refine lenR_ok (L := L) kk (ne0 f7) (fun s e => by rw [e] at f8; exact ne0 f8) (by omega) (by omega) (fun s e => by have := hs s e; omega) (by omega) (by omega) hh.rd hh.ne cx3.r7 cx3.rf cx3.nf ?_
  intro ρ40 w40 r st4 d1 d20 d3 d4 d5 d60
  have F40 : Fr (· = rb) b (o + off) 1 w w40 := d4.rd hh.rbb hbw
  have q40 : ∀ s, s < x → ρ40 s = ρ s := fun s hs => by rw [d1 s (by omega) (by omega), q3 s hs]
  have cx40 := cx.keep q40 hx9 hs hvx
  have hrb40 := d60.lt
  have hsz40 := F40.size
  show RWL P N _ Q ρ40 w40
  refine nul_ok (L := L) (nul := nul) (ver := ver) (r := r) f4 (by obtain ⟨i, z, hi, _⟩ := hz; rw [hi]; rfl) (by omega) (by omega) (by omega) (by omega) cx40.r8 (by rw [d1 _ (by omega) (by omega), c1 _ (by omega) (by omega), b2]) d20 ?_
  intro ρ4 w4 av n1 ra4 n3 n4
  have F4 : Fr (· = rb) b (o + off) 1 w w4 := F40.trans (Fr.ofBelow n3 (by omega))
  have d6 : RdAt w4 rb sb st4 := d60.below n3
  have hh4 := hh.keep F4 d6
  have q4 : ∀ s, s < x → ρ4 s = ρ s := fun s hs => by rw [n1 s (by omega) (by omega), q40 s hs]
  have cx4 := cx.keep q4 hx9 hs hvx
  have d2 : ρ4 (x + 2) = .int .i32 r := by rw [n1 _ (by omega) (by omega)]; exact d20
  have fin : ∀ (ρ6 : Nat → Value) (w6 : World) (v : Value) (d : D) (st6 : Option (List UInt8)), (∀ s, s < x → ρ6 s = ρ s) → ρ6 (x + 1) = v → v.oneCell' = true → Fr (· = rb) b (o + off) 1 w w6 → FH P R rb sb h b o n ev st6 w6 → Got (dec ver flex (.arr nul ty ety el)) st d st6 → Rep w6 (FB sb h w6) (.arr nul ty ety el) [v] d →
      RWL P N [.rg [.mv bd.2.1 (.t (x + 1)), .mv x (.t bd.2.1)], (storeR T vs idx ty x (bd.2.1 + 1)).1] Q ρ6 w6 := by
    intro ρ6 w6 v d st6 e1 e2 e3 e4 e5 e6 e7
    have e3'' : v.cells = #[v] := by cases v <;> simp_all [Value.cells, Value.oneCell']
    have e3' : v.cells.size = 1 := by rw [e3'']; rfl
    refine mv2_ok (L := L) e2 (by omega) (by omega) (by omega) (by omega) fun ρ7 g1 g2 => ?_
    have cx7 := cx.keep (ρ' := ρ7) (fun s hs => by rw [g1 s (by omega) (by omega), e1 s hs]) hx9 hs hvx
    have ht7 : w6.there b (o + off) 1 := there_in e5.th hoff
    refine RW.mono (store_ok (L := L) (v := v) hF (by rw [e3']; exact f2) cx7.rv g2 (by rw [e3'']; simp [e3]) (by rw [e3']; exact ht7) (by omega) (by omega) (by omega) (by omega) fun ρ8 h8 => ?_) (fun e ρ w h => h)
    rw [e3'']
    show Q .normal ρ8 (w6.setCells b (o + off) [v])
    have FP : Fr (· = rb) b (o + off) 1 w6 (w6.setCells b (o + off) [v]) := Fr.put _ (by omega) (by simp)
    refine hQ ρ8 _ d st6 v (fun s hs => by rw [h8 s (by omega), g1 s (by omega) (by omega), e1 s hs]) (e4.trans FP) e6 ?_ (World.rangeAt_setCells_same _ _ _ _ ht7) (e5.rep FP e7)
    exact e5.rd.keep (setCells_other b _ _ _ rb (fun e => e5.rbb e.symm)) (setCells_other b _ _ _ sb e5.nb)
  refine make_ok (L := L) (st := st4) kk (ne0 f10) f4 hz f9 (by omega) (by omega) (by omega) (by omega) d6 cx4.r7 hh4.ev n4.av ra4 d2 d3 ?_ ?_ ?_
  · intro hbad ρ5 h5
    have e4 : st4 = none := by cases st4 with | none => rfl | some l => simp [stB] at hbad
    subst e4
    refine hE ρ5 w4 h5 F4 (fun d => ?_)
    unfold dec
    exact Got.bind d5 (by exact rfl)
  · intro hgood hr ρ5 h5 h5a
    refine loop0_ok (L := L) hr hxL (by omega) (by omega) (by rw [h5 _ (by omega) (by omega)]; exact d2) fun ρ6 h6 => ?_
    refine fin ρ6 w4 av (.l (nulOf nul ver r) []) st4 (fun s hs => by rw [h6 s (by omega), h5 s (by omega) (by omega), q4 s hs]) (by rw [h6 _ (by omega)]; exact h5a) (by rcases n4.av with e | ⟨q, e⟩ <;> rw [e] <;> rfl) F4 hh4 ?_ ?_
    · unfold dec
      refine Got.bind d5 ?_
      show Got (if r ≤ 0 then _ else _) st4 _ st4
      rw [if_pos hr]
      exact Got.pure _
    · unfold Rep
      have hw0 := hh.hw
      rcases n4 with ⟨e1, e2⟩ | ⟨e1, q, e2, e3, e4⟩
      · exact ⟨_, _, rfl, .inl ⟨by rw [e1], rfl, e2⟩⟩
      · exact ⟨_, _, rfl, .inr ⟨e1, q, [], 0, by rw [e2]; rfl, .inr ⟨by omega, e4⟩, fun j v hj => by simp at hj, by simp, fun i d hd => by simp at hd⟩⟩
  · intro hgood hr ρ5 w5 c h5 h5a h5b h5c h5d h5e
    obtain ⟨l, rfl⟩ : ∃ l : Nat, r = (l : Nat) := ⟨r.toNat, by omega⟩
    have hl32 : l ≤ 2147483647 := by have := d3.2; omega
    rw [Int.toNat_natCast] at h5a h5d h5e
    obtain ⟨cs, hcsl, hcs, hcz⟩ := h5d
    have hrb4 := d6.lt
    have hsz4 := F4.size
    have F5 : Fr (· = rb) b (o + off) 1 w4 w5 := Fr.ofBelow h5b (Nat.lt_of_lt_of_le hbw hsz4)
    have R5 : RdAt w5 rb sb st4 := d6.below h5b
    have hh5 := hh4.keep F5 R5
    have hwl := hh4.hw
    have hha : FH P R rb sb w4.heap.size w4.heap.size 0 (l * el.cells) ev st4 w5 :=
      ⟨R5, hh.ne, by have := hh4.hs; omega, by omega, Nat.le_refl _, by omega, by omega, hh5.hs, h5e, hh.er, hh5.ev, by have := World.block_lt_of_cell? w4 _ hh4.ev; exact fun e => by simp only at this; omega, hh.gr⟩
    have q5 : ∀ s, s < x → ρ5 s = ρ s := fun s hs => by rw [h5 s (by omega) (by omega), q4 s hs]
    have rl5 : ρ5 (x + 2) = .int .i32 (l : Nat) := by rw [h5 _ (by omega) (by omega)]; exact d2
    have up : ∀ w6, Fr (· = rb) w4.heap.size 0 (l * el.cells) w5 w6 → Fr (· = rb) b (o + off) 1 w4 w6 := by
      intro w6 g2
      have hne4 : b ≠ w4.heap.size := by omega
      have F' : Fr (fun k => k = rb ∨ k = w4.heap.size) b (o + off) 1 w5 w6 := (g2.wide (X' := fun k => k = rb ∨ k = w4.heap.size) (fun _ h => .inl h) (Nat.le_refl _) (Nat.le_refl _)).other (.inr rfl) (by rintro (e | e); exact hh.rbb e; exact hne4 e) (by omega)
      exact ((F5.wide (X' := fun k => k = rb ∨ k = w4.heap.size) (fun _ h => .inl h) (Nat.le_refl _) (Nat.le_refl _)).trans F').drop (fun k hk => hk.imp id (fun e => by omega))
    refine loop_ok (L := L) (ec := el.cells) (el := el) (de := dec ver flex el) (zs := zs) hha hl32 hxL (by omega) (by omega) h5a rl5 hcs hcsl hcz ?_ ?_ ?_
    · intro i ρ6 w6 st6 Q6 hi g1 g2 hh6 hF6 hz6 hK hK2
      rw [← hbody] at hN ⊢
      exact hel.go (t' := (lenR R sf x (t + 5)).2 + nulT nul + 15) (l := l) (c := c) (i := i) (by omega) (by omega) hh6 cx hvx (fun s hs => by rw [g1 s (by omega), q5 s hs]) (by rw [g1 _ (by omega)]; exact h5a) g2 hi hz6 hK hK2
    · intro ρ6 w6 xs st6 cs' g1 g2 g3 g4 g5 g6 g7 g8
      have Fx := up w6 g2
      have hh6 := hh4.keep Fx g5
      have hs6 : w4.heap.size < w6.heap.size := Nat.lt_of_lt_of_le (by omega) g2.size
      refine fin ρ6 w6 (.slice (some ⟨w4.heap.size, 0, none⟩) l c) (.l false xs) st6 (fun s hs => by rw [g1 s (by omega), q5 s hs]) (by rw [g1 _ (by omega)]; exact h5a) rfl (F4.trans Fx) hh6 ?_ ?_
      · unfold dec
        refine Got.bind d5 ?_
        show Got (if ((l : Nat) : Int) ≤ 0 then _ else _) st4 _ st6
        rw [if_neg (by omega), Int.toNat_natCast]
        exact g4.map (f := fun xs => D.l false xs)
      · unfold Rep
        refine ⟨_, _, rfl, .inr ⟨rfl, w4.heap.size, cs', c, by rw [g3], .inr ⟨hwl, hs6⟩, g6, by rw [g3, g7]; exact Nat.le_refl _, fun i d hd => ?_⟩⟩
        refine Rep.mono (fun k hk => ?_) (fun k _ => rfl) el (g8 i d hd)
        rcases hk with hk | ⟨hk, hk'⟩
        · exact .inl hk
        · exact .inr ⟨by omega, hk'⟩
    · intro ρ6 w6 g1 g2 g3
      refine hE ρ6 w6 g1 (F4.trans (up w6 g2)) (fun d => ?_)
      unfold dec
      refine Got.bind d5 ?_
      show Got (if ((l : Nat) : Int) ≤ 0 then _ else _) st4 _ none
      rw [if_neg (by omega), Int.toNat_natCast]
      exact Got.any ((g3 []).map (f := fun xs => D.l false xs))
theorem elC_prim {ty ety x bk L : Nat} {k : PK} {kty : Nat} {zs : List Value} (kk : RKOK P R G) (hk : rdOk R sf k = true) (hsl : sliceOf P ty ety = true) (hc : cellsB P ety k.cells = true) (hu : uuB P k ety = true) (hx9 : 9 ≤ x) (hs : ∀ s, sf = some s → s < x) (hxL : x + 4 < L) :
    ElC P R N rb sb ev sf flex ver (.prim k kty) x L zs (fun t => ((elemU R sf k ty ety x t).1, (elemU R sf k ty ety x t).2, x + 5, bk + 2)) := by
  refine ⟨?_⟩
  intro t' ab l c i vs b o ρ ρ1 w1 st1 Q1 hL hN hh cx hvx q ra ri hi hz hK hK2
  have cx1 := cx.keep q hx9 hs hvx
  by_cases e : k = .uuid
  · subst e
    simp only [uuB, Bool.and_eq_true] at hu
    have h0 : R.uuid ≠ 0 := by
      intro e
      have : rdOk R sf .uuid = false := by unfold rdOk RN.fn; simp [e]
      rw [this] at hk; cases hk
    refine elemRU_ok (L := L) (flex := flex) (l := l) (cap := c) (i := i) kk h0 hsl hc hu.1 hu.2 hh cx1.r7 (by omega) hxL hL hN ra ri hi ?_
    intro ρ2 w2 d st2 us k1 k2 k3 k4 k5 k6 k7
    exact hK ρ2 w2 d st2 us k1 k2 (by unfold dec; exact k3) k4 k5 k6 (by unfold Rep; exact k7)
  · have e2 : elemU R sf k ty ety x t' = elemR R sf k ty ety x t' := by cases k <;> first | rfl | exact absurd rfl e
    simp only at hN ⊢
    rw [e2] at hN ⊢
    refine elemR_ok (L := L) (flex := flex) (l := l) (cap := c) (i := i) kk hk hsl hc hh cx1.r7 cx1.r2 cx1.rf cx1.nf (by omega) hs hxL hL hN ra ri hi ?_
    intro ρ2 w2 d st2 us k1 k2 k3 k4 k5 k6 k7
    exact hK ρ2 w2 d st2 us k1 k2 (by unfold dec; exact k3) k4 k5 k6 (by unfold Rep; exact k7)
end
end Go.Kx
