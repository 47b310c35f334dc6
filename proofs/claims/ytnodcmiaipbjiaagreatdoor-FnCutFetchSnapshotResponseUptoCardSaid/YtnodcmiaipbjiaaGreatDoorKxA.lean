/- A small form of code (operations without places, types and edges), a test that code of the program fits it, and the rules by which it is walked. No condition on the program.
   The rules of the small form, one for each operation. No condition on the program beyond those that a rule names.
   Code of the small form: sequences, tests, blocks, loops; its walk; the frame told slot by slot. No condition on the program.
   The plan of a message (fields in order, versions, places in memory), what it says (D), how that is written (enc), and how it lies in memory (Rep). Plain definitions, and that what lies in memory stays where memory stays.
   The code of AppendTo of a plan, in the small form; the contracts of what it calls. Definitions alone.
   Statements that write: what it means, and how they are put together. The bound on what is written: fewer than 2^32 octets.
   Statements that write: lengths, loops, tags, tests of versions. The bound on what is written: fewer than 2^40 octets.
   Statements that write: tags, tests of versions. The bound on what is written: fewer than 2^32 octets. -/
import Derived.WalkKit
import Derived.Below
import Derived.Deep.MidRow
import Derived.Laws.Slices
import Derived.WalkSpells
import Derived.Orders
import Derived.OrdersHeld
import Derived.ScopeJumps
import Derived.MapKept
import Derived.MapFrom
import Derived.KernelRfl
namespace Go.Kx
open Go.RowKit
theorem UA (a b : Bool) : ((a && b) = true) = (a = true ∧ b = true) := Bool.and_eq_true a b
theorem UB : (false = true) = False := Bool.false_eq_true
theorem UC {α : Type _} (a b : α) : (some a = some b) = (a = b) := Option.some.injEq a b
theorem UD {α : Type _} {a b : List α} : (a ++ b).length = a.length + b.length := List.length_append
abbrev UE := Exit → (Nat → Value) → World → Prop
inductive MVal where
 | int (k : IntKind) (n : Int)
 | bool (b : Bool)
 | nslice
 | estr
 | niface
 | nptr
 | nmap
 | flt
def MVal.val : MVal → Value
 | .int k n => .int k n
 | .bool b => .bool b
 | .nslice => .slice none 0 0
 | .estr => .string ⟨#[]⟩
 | .niface => .nilIface
 | .nptr => .pointer none
 | .nmap => .map none
 | .flt => .float .f64 0
def JP : Int → Int → Bool
 | .ofNat a, .ofNat b => Nat.beq a b
 | .negSucc a, .negSucc b => Nat.beq a b
 | _, _ => false
theorem Jw {a b : Int} (h : JP a b = true) : a = b := by
 cases a <;> cases b <;> simp_all [JP]
def sameKind : IntKind → IntKind → Bool
 | .i8, .i8 | .i16, .i16 | .i32, .i32 | .i64, .i64 | .u8, .u8 | .u16, .u16 | .u32, .u32 | .u64, .u64 => true
 | _, _ => false
theorem sameKind_eq {a b : IntKind} (h : sameKind a b = true) : a = b := by
 cases a <;> cases b <;> simp_all [sameKind]
def MVal.is : MVal → Value → Bool
 | .int k n, .int k' n' => sameKind k k' && JP n n'
 | .bool b, .bool b' => b == b'
 | .nslice, .slice none a b => Nat.beq a 0 && Nat.beq b 0
 | .estr, .string s => s.data.toList.isEmpty
 | .niface, .nilIface => true
 | .nptr, .pointer none => true
 | .nmap, .map none => true
 | .flt, .float .f64 n => Nat.beq n 0
 | _, _ => false
theorem MVal.is_eq {m : MVal} {v : Value} (h : m.is v = true) : v = m.val := by
 cases m with
 | int k n =>
  cases v <;> simp only [MVal.is, UA, UB] at h
  rw [sameKind_eq h.1, Jw h.2]; rfl
 | bool b => cases v <;> simp_all [MVal.is, MVal.val]
 | nslice =>
  cases v with
  | slice a n c => cases a <;> simp_all [MVal.is, MVal.val]
  | _ => simp [MVal.is] at h
 | estr =>
  cases v with
  | string s =>
   obtain ⟨d⟩ := s
   simp only [MVal.is, List.isEmpty_iff, Array.toList_eq_nil_iff] at h
   subst h; rfl
  | _ => simp [MVal.is] at h
 | niface => cases v <;> simp_all [MVal.is, MVal.val]
 | nptr =>
  cases v with
  | pointer a => cases a <;> simp_all [MVal.is, MVal.val]
  | _ => simp [MVal.is] at h
 | nmap =>
  cases v with
  | map r => cases r <;> simp_all [MVal.is, MVal.val]
  | _ => simp [MVal.is] at h
 | flt =>
  cases v with
  | float k n => cases k <;> simp_all [MVal.is, MVal.val]
  | _ => simp [MVal.is] at h
inductive MX where
 | t (s : Nat)
 | c (v : MVal)
def MX.is : MX → Operand → Bool
 | .t s, .tmp s' => Nat.beq s s'
 | .c m, .const v => m.is v
 | _, _ => false
def rd (a : Act) (s : Nat) : Value := a.tmps.getD s undef
def wr (a : Act) (d : Nat) (v : Value) : Act := { a with tmps := a.tmps.setIfInBounds d v }
def MX.of (a : Act) : MX → Value
 | .t s => rd a s
 | .c m => m.val
theorem MX.is_eval {x : MX} {o : Operand} (h : x.is o = true) (a : Act) : a.eval o = x.of a := by
 cases x <;> cases o <;> simp [MX.is] at h
 ·subst h; rfl
 ·rw [MVal.is_eq h]; rfl
def allX : List MX → List Operand → Bool
 | [], [] => true
 | x :: xs, o :: os => x.is o && allX xs os
 | _, _ => false
theorem allX_eval {xs : List MX} {os : List Operand} (h : allX xs os = true) (a : Act) : os.map a.eval = xs.map (MX.of a) := by
 induction xs generalizing os with
 | nil => cases os <;> simp_all [allX]
 | cons x xs ih =>
  cases os with
  | nil => simp [allX] at h
  | cons o os =>
   simp only [allX, UA] at h
   simp [MX.is_eval h.1 a, ih h.2]
def sameOp : BinOp → BinOp → Bool
 | .add, .add | .geq, .geq | .leq, .leq | .lss, .lss | .gtr, .gtr | .eql, .eql | .neq, .neq => true
 | .sub, .sub | .mul, .mul | .rem, .rem | .and, .and | .or, .or | .xor, .xor | .shl, .shl | .shr, .shr => true
 | _, _ => false
theorem sameOp_eq {a b : BinOp} (h : sameOp a b = true) : a = b := by
 cases a <;> cases b <;> first | rfl | simp [sameOp] at h
inductive MOp where
 | mv (d : Nat) (x : MX)
 | nc (d s : Nat)
 | fa (d T s f : Nat)
 | ld (d ty s : Nat)
 | st (ty p v : Nat)
 | bi (d : Nat) (op : BinOp) (ty : Nat) (x y : MX)
 | nt (d s : Nat)
 | cv (d src dst s : Nat)
 | ca (d f : Nat) (xs : List MX)
 | ln (d ty s : Nat)
 | ap (d T U x y : Nat)
 | ia (d T x i : Nat)
 | s0 (d T x : Nat)
 | al (d T : Nat)
 | bd (d T s : Nat)
 | bs (d T : Nat)
 | b2 (d : Nat) (op : BinOp) (x y : MX)
 | bsl (d T : Nat) (xs : List MX)
 | ix (d T : Nat) (s : List Nat) (x : Nat)
 | sl (d T x : Nat) (lo hi mx : Option MX)
 | lg (d ty g : Nat)
 | bx (d T s : Nat)
 | fl (d T s f : Nat)
 | mk (d T : Nat) (n c : MX)
 | cp (d T U x y : Nat)
 | mn (d : Nat) (x y : MX)
 | mxi (d : Nat) (x y : MX)
 | bdl (d T : Nat) (ps : List (Nat × MX))
 | ext (d s i : Nat)
 | pk (d : Nat) (c x y : MX)
 | mf (d f s : Nat)
 | stc (ty p : Nat) (v : MVal)
 | iak (d T x i : Nat)
 | mkm (d T : Nat)
 | mpu (T m k v : Nat)
 | rng (d T x : Nat)
 | nxt (d it : Nat)
 | ent (d it : Nat)
 | lku (d T m k : Nat)
 | mki (d T x : Nat)
 | cav (d f : Nat) (xs : List MX)
 | apk (d T U y : Nat)
def fitStr : List Nat → List UInt8 → Bool
 | [], [] => true
 | a :: as, b :: bs => Nat.beq a b.toNat && fitStr as bs
 | _, _ => false
theorem fitStr_eq {as : List Nat} {bs : List UInt8} (h : fitStr as bs = true) : bs.map (·.toNat) = as := by
 induction as generalizing bs with
 | nil => cases bs <;> simp_all [fitStr]
 | cons a as ih =>
  cases bs with
  | nil => simp [fitStr] at h
  | cons b bs =>
   simp only [fitStr, UA, Nat.beq_eq] at h
   simp [h.1, ih h.2]
def QT : Nat → List MX → List (Nat × Operand) → Bool
 | _, [], [] => true
 | i, x :: xs, (j, o) :: os => Nat.beq i j && x.is o && QT (i + 1) xs os
 | _, _, _ => false
def fitPairs : List (Nat × MX) → List (Nat × Operand) → Bool
 | [], [] => true
 | (i, x) :: xs, (j, o) :: os => Nat.beq i j && x.is o && fitPairs xs os
 | _, _ => false
def fitOpt : Option MX → Option Operand → Bool
 | none, none => true
 | some x, some o => x.is o
 | _, _ => false
def JZ (d : Nat) : Option Nat → Bool
 | some d' => Nat.beq d d'
 | none => false
theorem Jl {d : Nat} {o : Option Nat} (h : JZ d o = true) : o = some d := by
 cases o <;> simp_all [JZ]
def J5 (s : Nat) : Operand → Bool
 | .tmp s' => Nat.beq s s'
 | _ => false
theorem J0 {s : Nat} {o : Operand} (h : J5 s o = true) : o = .tmp s := by
 cases o <;> simp_all [J5]
def Jf : MOp → Option Nat → Op → Bool
 | .mv d x, o, .move y => JZ d o && x.is y
 | .mv d x, o, .assign y => JZ d o && x.is y
 | .nc d s, o, .nilCheck y => JZ d o && J5 s y
 | .fa d T s f, o, .fieldAddr T' y f' => JZ d o && Nat.beq T T' && J5 s y && Nat.beq f f'
 | .ld d ty s, o, .load ty' y => JZ d o && Nat.beq ty ty' && J5 s y
 | .st ty p v, none, .store ty' x y => Nat.beq ty ty' && J5 p x && J5 v y
 | .stc ty p m, none, .store ty' x (.const v) => Nat.beq ty ty' && J5 p x && m.is v
 | .bi d op ty x y, o, .binOp op' ty' x' y' ty2 => JZ d o && sameOp op op' && Nat.beq ty ty' && x.is x' && y.is y' && Nat.beq ty ty2
 | .nt d s, o, .unOp .not _ y => JZ d o && J5 s y
 | .cv d src dst s, o, .convert src' dst' y => JZ d o && Nat.beq src src' && Nat.beq dst dst' && J5 s y
 | .ca d f xs, o, .call { callee := .value (.func f'), args, .. } => JZ d o && Nat.beq f f' && allX xs args.toList
 | .ln d ty s, o, .call { callee := .builtin .len, args, argTypes } => JZ d o && (match args.toList, argTypes.toList with | [y], [ty'] => J5 s y && Nat.beq ty ty' | _, _ => false)
 | .ap d T U x y, o, .call { callee := .builtin .append, args, argTypes } => JZ d o && (match args.toList, argTypes.toList with | [x', y'], [T', U'] => J5 x x' && J5 y y' && Nat.beq T T' && Nat.beq U U' | _, _ => false)
 | .ia d T x i, o, .indexAddr T' x' i' => JZ d o && Nat.beq T T' && J5 x x' && J5 i i'
 | .s0 d T x, o, .slice T' x' none (some (.const v)) none => JZ d o && Nat.beq T T' && J5 x x' && (MVal.int .i64 0).is v
 | .al d T, o, .alloc T' => JZ d o && Nat.beq T T'
 | .bd d T s, o, .build T' ps => JZ d o && Nat.beq T T' && (match ps.toList with | [(i, x)] => Nat.beq i 0 && J5 s x | _ => false)
 | .bs d T, o, .buildSlice T' n ps => JZ d o && Nat.beq T T' && Nat.beq n 0 && ps.toList.isEmpty
 | .b2 d op x y, o, .binOp op' _ x' y' _ => JZ d o && sameOp op op' && x.is x' && y.is y'
 | .bsl d T xs, o, .buildSlice T' n ps => JZ d o && Nat.beq T T' && Nat.beq n xs.length && QT 0 xs ps.toList
 | .ix d T s x, o, .index T' y x' => JZ d o && Nat.beq T T' && J5 x x' && (match y with | .const (.string b) => fitStr s b.data.toList | _ => false)
 | .sl d T x lo hi mx, o, .slice T' x' lo' hi' mx' => JZ d o && Nat.beq T T' && J5 x x' && fitOpt lo lo' && fitOpt hi hi' && fitOpt mx mx'
 | .lg d ty g, o, .load ty' (.global g') => JZ d o && Nat.beq ty ty' && Nat.beq g g'
 | .bx d T s, o, .box T' s' => JZ d o && Nat.beq T T' && J5 s s'
 | .fl d T s f, o, .field T' s' f' => JZ d o && Nat.beq T T' && J5 s s' && Nat.beq f f'
 | .mk d T n c, o, .makeSlice T' n' c' => JZ d o && Nat.beq T T' && n.is n' && c.is c'
 | .cp d T U x y, o, .call { callee := .builtin .copy, args, argTypes } => JZ d o && (match args.toList, argTypes.toList with | [x', y'], [T', U'] => J5 x x' && J5 y y' && Nat.beq T T' && Nat.beq U U' | _, _ => false)
 | .mn d x y, o, .call { callee := .builtin .min, args, .. } => JZ d o && (match args.toList with | [x', y'] => x.is x' && y.is y' | _ => false)
 | .mxi d x y, o, .call { callee := .builtin .max, args, .. } => JZ d o && (match args.toList with | [x', y'] => x.is x' && y.is y' | _ => false)
 | .bdl d T ps, o, .build T' qs => JZ d o && Nat.beq T T' && fitPairs ps qs.toList
 | .ext d s i, o, .extract s' i' => JZ d o && J5 s s' && Nat.beq i i'
 | .mf d f s, o, .makeFunc (.func f') first captured => JZ d o && Nat.beq f f' && first.toList.isEmpty && (match captured.toList with | [x] => J5 s x | _ => false)
 | .pk d c x y, o, .pick c' x' y' => JZ d o && c.is c' && x.is x' && y.is y'
 | .iak d T x i, o, .indexAddr T' x' (.const v) => JZ d o && Nat.beq T T' && J5 x x' && (MVal.int .i64 i).is v
 | .mkm d T, o, .makeMap T' none => JZ d o && Nat.beq T T'
 | .mpu T m k v, none, .mapUpdate T' x y z => Nat.beq T T' && J5 m x && J5 k y && J5 v z
 | .rng d T x, o, .range T' x' => JZ d o && Nat.beq T T' && J5 x x'
 | .nxt d it, o, .next x false => JZ d o && J5 it x
 | .ent d it, o, .entry x => JZ d o && J5 it x
 | .lku d T m k, o, .lookup T' x y false => JZ d o && Nat.beq T T' && J5 m x && J5 k y
 | .mki d T x, o, .makeInterface T' x' => JZ d o && Nat.beq T T' && J5 x x'
 | .cav d f xs, o, .call { callee := .value (.tmp f'), args, .. } => JZ d o && Nat.beq f f' && allX xs args.toList
 | .apk d T U y, o, .call { callee := .builtin .append, args, argTypes } => JZ d o && (match args.toList, argTypes.toList with | [x', y'], [T', U'] => (MX.c .nslice).is x' && J5 y y' && Nat.beq T T' && Nat.beq U U' | _, _ => false)
 | _, _, _ => false
def Qs (m : MOp) (o : Oper) : Bool := o.guard.isNone && Jf m o.dst o.op
def fitOps : List MOp → List Oper → Bool
 | [], [] => true
 | m :: ms, o :: os => Qs m o && fitOps ms os
 | _, _ => false
def ML (P : Program) (ms : List MOp) (Q : Exit → Act → World → Prop) (a : Act) (w : World) : Prop :=
 ∀ (ops : Array Oper) (l : List Oper), fitOps ms l = true → wpList P ops Q l a w
section
variable {P : Program} {Q : Exit → Act → World → Prop} {a : Act} {w : World} {ms : List MOp}
theorem ML.nil (h : Q .normal a w) : ML P [] Q a w := by
 intro ops l hl
 cases l with
 | nil => exact h
 | cons => simp [fitOps] at hl
theorem ML.step {m : MOp} {d : Option Nat} {v : Value} {w' : World}
  (hrun : ∀ o : Oper, Qs m o = true → o.dst = d ∧ ((execOp a.eval o).run P w = .ok (.value v) w' ∨ (v = undef ∧ (execOp a.eval o).run P w = .ok .skip w')))
  (h : ML P ms Q (match d with | some d => wr a d v | none => a) w') : ML P (m :: ms) Q a w := by
 intro ops l hl
 cases l with
 | nil => simp [fitOps] at hl
 | cons o os =>
  simp only [fitOps, UA] at hl
  obtain ⟨ho, hs⟩ := hl
  obtain ⟨hd, hr⟩ := hrun o ho
  have hg : o.guard = none := by
   simp only [Qs, UA, Option.isNone_iff_eq_none] at ho; exact ho.1
  refine wpList_plain hg fun K hK => ?_
  have h1 := hK _ _ (h ops os hs)
  unfold Oper.wp
  rcases hr with hr | ⟨rfl, hr⟩
  ·rw [hr, Oper.upon_value, hd]
   cases d <;> exact h1
  ·rw [hr, Oper.upon_skip, hd]
   cases d <;> exact h1
theorem JM {m : MOp} {o : Oper} (h : Qs m o = true) : Jf m o.dst o.op = true := by
 simp only [Qs, UA] at h; exact h.2
end
end Go.Kx
namespace Go.Kx
open Go.RowKit
set_option linter.unusedSimpArgs false
set_option linter.unusedVariables false
def Jo (P : Program) (f : Nat) : Bool :=
 match P.funcs[f]? with
 | some fn => !(fn.name == "runtime.NumGoroutine") && !fn.body.isNone
 | none => false
theorem QV {P : Program} {f : Nat} (h : Jo P f = true) (args : Array Value) (w : World) :
  (callFunc f args).run P w = .ok (.enter f args) w := by
 unfold Jo at h
 cases hf : P.funcs[f]? with
 | none => simp [hf] at h
 | some fn =>
  simp only [hf, UA, Bool.not_eq_true'] at h
  have h1 : (fn.name == "runtime.NumGoroutine") = false := by simpa using h.1
  have h2 : fn.body.isNone = false := by simpa using h.2
  simp only [callFunc, Sem.run_bind, run_program, Result.andThen_ok, hf]
  simp [h1, h2]
def Jd (P : Program) (T f off : Nat) : Bool :=
 match P.underlying T with
 | some (.struct fs) => match fs[f]? with
  | some fl => Nat.beq fl.offset off && (match P.info? fl.type with | some i => !(Nat.beq i.size 0) | none => false)
  | none => false
 | _ => false
theorem run_fieldAt {P : Program} {T f off : Nat} (h : Jd P T f off = true) (b o : Nat) (w : World) :
  (Instr.fieldAt T (.pointer (some ⟨b, o, none⟩)) f).run P w = .ok (.pointer (some ⟨b, o + off, none⟩)) w := by
 unfold Jd at h
 cases hu : P.underlying T with
 | none => simp [hu] at h
 | some d =>
  cases d with
  | struct fs =>
   cases hf : fs[f]? with
   | none => simp [hu, hf] at h
   | some fl =>
    cases hi : P.info? fl.type with
    | none => simp [hu, hf, hi] at h
    | some i =>
     simp only [hu, hf, hi, UA, Nat.beq_eq, Bool.not_eq_true'] at h
     have h2 : i.size ≠ 0 := by
      intro e; have := h.2; simp [e] at this
     have hoff := h.1
     simp only [Instr.fieldAt, Sem.run_bind, run_underlying hu, Result.andThen_ok, hf, Instr.sureAddr, Sem.run_pure]
     simp only [fieldPlace, Sem.run_bind, sizeOf, typeInfo, run_program, Result.andThen_ok, hi, Sem.run_pure, if_neg h2, Addr.add_mid, hoff]
  | _ => simp [hu] at h
def Jm (P : Program) (ty : Nat) : Bool :=
 match P.underlying ty with
 | some (.struct _) | some (.array _ _) | none => false
 | _ => true
theorem QG {P : Program} {ty : Nat} (h : Jm P ty = true) {p : Addr} {v : Value} {w : World} (hc : w.cell? p = some v) :
  (Instr.loadAt ty (.pointer (some p))).run P w = .ok v w := by
 unfold Jm at h
 cases hu : P.underlying ty with
 | none => simp [hu] at h
 | some d =>
  have hagg : (isAgg ty).run P w = .ok false w := by
   unfold isAgg
   rw [Sem.run_bind, run_underlying hu w]
   cases d <;> simp_all
  simp only [Instr.loadAt, Instr.sureAddr, Sem.run_bind, Sem.run_pure, Result.andThen_ok, loadVar, hagg]
  simp [hc]
def Jh (P : Program) (ty n : Nat) : Bool :=
 match P.info? ty with
 | some i => Nat.beq i.size n
 | none => false
theorem QW {P : Program} {ty n : Nat} (h : Jh P ty n = true) : (P.info? ty).map (·.size) = some n := by
 unfold Jh at h
 cases hi : P.info? ty with
 | none => simp [hi] at h
 | some i => simp only [hi, Nat.beq_eq] at h; simp [h]
def QH (P : Program) (ty : Nat) : Bool :=
 match P.underlying ty with
 | some (.struct _) | some (.array _ _) => true
 | _ => false
theorem J3 {P : Program} {ty : Nat} (h : QH P ty = true) {b o : Nat} {cs : List Value} {w : World} (hn : Jh P ty cs.length = true) (hc : w.rangeAt b o cs) :
  (Instr.loadAt ty (.pointer (some ⟨b, o, none⟩))).run P w = .ok (.agg cs.toArray) w := by
 unfold QH at h
 cases hu : P.underlying ty with
 | none => simp [hu] at h
 | some d => exact run_loadAt_mid w b o ty cs d hc hu (by cases d <;> simp_all) (QW hn)
theorem run_storeAt_any {P : Program} {ty : Nat} {b o : Nat} {v : Value} {w : World} (hn : Jh P ty v.cells.size = true) (ht : w.there b o v.cells.size) (h1 : v.cells.all (·.oneCell') = true) :
  (Instr.storeAt ty (.pointer (some ⟨b, o, none⟩)) v).run P w = .ok () (w.setCells b o v.cells.toList) := by
 have := run_storeCells_cells (P := P) b o v.cells.toList 0 w (fun j hj => by simpa using (ht j (by simpa using hj)).1) (fun j hj => by simpa using (ht j (by simpa using hj)).2)
  (fun u hu => (Array.all_eq_true_iff_forall_mem.1 h1) u (by simpa using hu))
 have hq := QW hn
 cases hi : P.info? ty with
 | none => simp [hi] at hq
 | some i =>
  have hs : v.cells.size = i.size := by simp [hi] at hq; omega
  simp only [Nat.add_zero] at this
  simp only [Instr.storeAt, Instr.sureAddr, Sem.run_bind, Sem.run_pure, Result.andThen_ok]
  simp [storeVar, sizeOf, typeInfo, hi, hs, this]
def Jk (P : Program) (T e : Nat) : Bool :=
 match P.underlying T with
 | some (.slice e') => Nat.beq e e'
 | _ => false
theorem Jq {P : Program} {T e : Nat} (h : Jk P T e = true) : P.underlying T = some (.slice e) := by
 unfold Jk at h
 cases hu : P.underlying T with
 | none => simp [hu] at h
 | some d => cases d <;> simp_all
section
variable {P : Program} {Q : Exit → Act → World → Prop} {a : Act} {w : World} {ms : List MOp}
theorem ML.mv {d : Nat} {x : MX} (h : ML P ms Q (wr a d (x.of a)) w) : ML P (.mv d x :: ms) Q a w := by
 refine ML.step (d := some d) (v := x.of a) (w' := w) (fun o ho => ?_) h
 have hf := JM ho
 generalize hop : o.op = op at hf
 unfold execOp
 cases op <;> simp only [Jf, UA, UB] at hf
 all_goals exact ⟨Jl hf.1, .inl (by simp only [hop, MX.is_eval hf.2 a]; rfl)⟩
theorem ML.nc {d s : Nat} {p : Addr} (hs : rd a s = .pointer (some p)) (h : ML P ms Q (wr a d (.pointer (some p))) w) : ML P (.nc d s :: ms) Q a w := by
 refine ML.step (d := some d) (v := .pointer (some p)) (w' := w) (fun o ho => ?_) h
 have hf := JM ho
 generalize hop : o.op = op at hf
 unfold execOp
 cases op <;> simp only [Jf, UA, UB] at hf
 have he : a.eval (.tmp s) = .pointer (some p) := hs
 exact ⟨Jl hf.1, .inl (by simp only [hop, J0 hf.2, he]; rfl)⟩
theorem ML.fa {d T s f b o off : Nat} (hs : rd a s = .pointer (some ⟨b, o, none⟩)) (hF : Jd P T f off = true)
  (h : ML P ms Q (wr a d (.pointer (some ⟨b, o + off, none⟩))) w) : ML P (.fa d T s f :: ms) Q a w := by
 refine ML.step (d := some d) (v := .pointer (some ⟨b, o + off, none⟩)) (w' := w) (fun o' ho => ?_) h
 have hf := JM ho
 generalize hop : o'.op = op at hf
 unfold execOp
 cases op <;> simp only [Jf, UA, UB, Nat.beq_eq] at hf
 obtain ⟨⟨⟨h1, h2⟩, h3⟩, h4⟩ := hf
 have he : a.eval (.tmp s) = .pointer (some ⟨b, o, none⟩) := hs
 subst h2 h4
 exact ⟨Jl h1, .inl (by simp only [hop, J0 h3, he, Sem.run_bind, run_fieldAt hF, Result.andThen_ok, Sem.run_pure])⟩
theorem ML.ldBy {d ty s : Nat} {v : Value} (hr : (Instr.loadAt ty (rd a s)).run P w = .ok v w) (h : ML P ms Q (wr a d v) w) : ML P (.ld d ty s :: ms) Q a w := by
 refine ML.step (d := some d) (v := v) (w' := w) (fun o' ho => ?_) h
 have hf := JM ho
 generalize hop : o'.op = op at hf
 unfold execOp
 cases op <;> simp only [Jf, UA, UB, Nat.beq_eq] at hf
 obtain ⟨⟨h1, h2⟩, h3⟩ := hf
 subst h2
 have he : a.eval (.tmp s) = rd a s := rfl
 exact ⟨Jl h1, .inl (by simp only [hop, J0 h3, he, Sem.run_bind, hr, Result.andThen_ok, Sem.run_pure])⟩
theorem ML.bi {d ty : Nat} {op : BinOp} {x y : MX} {v : Value}
  (hr : ∀ (ox oy : Operand), x.is ox = true → y.is oy = true → (eqGuard op ty ox oy (x.of a) (y.of a)).run P w = .ok () w)
  (hv : (binOp op ty (x.of a) (y.of a)).run P w = .ok v w) (h : ML P ms Q (wr a d v) w) : ML P (.bi d op ty x y :: ms) Q a w := by
 refine ML.step (d := some d) (v := v) (w' := w) (fun o' ho => ?_) h
 have hf := JM ho
 generalize hop : o'.op = op' at hf
 unfold execOp
 cases op' <;> simp only [Jf, UA, UB, Nat.beq_eq] at hf
 obtain ⟨⟨⟨⟨⟨h1, h2⟩, h3⟩, h4⟩, h5⟩, _⟩ := hf
 have h2' := sameOp_eq h2
 subst h2' h3
 exact ⟨Jl h1, .inl (by simp only [hop, MX.is_eval h4 a, MX.is_eval h5 a, Sem.run_bind, hr _ _ h4 h5, hv, Result.andThen_ok, Sem.run_pure])⟩
theorem eqGuard_num (op : BinOp) (ty : Nat) (ox oy : Operand) (k k' : IntKind) (m n : Int) : (eqGuard op ty ox oy (.int k m) (.int k' n)).run P w = .ok () w := by
 unfold eqGuard
 split <;> rfl
theorem ML.biInt {d ty : Nat} {op : BinOp} {x y : MX} {v : Value} {k : IntKind} {m n : Int} (hx : x.of a = .int k m) (hy : y.of a = .int k n)
  (hv : (binOp op ty (.int k m) (.int k n)).run P w = .ok v w) (h : ML P ms Q (wr a d v) w) : ML P (.bi d op ty x y :: ms) Q a w :=
 ML.bi (fun ox oy _ _ => by rw [hx, hy]; exact eqGuard_num op ty ox oy k k m n) (by rw [hx, hy]; exact hv) h
theorem run_cmp_lss (ty : Nat) (k : IntKind) (m n : Int) : (binOp .lss ty (.int k m) (.int k n)).run P w = .ok (.bool (decide (m < n))) w := by simp [binOp, Op.intCmp]
theorem run_cmp_geq (ty : Nat) (k : IntKind) (m n : Int) : (binOp .geq ty (.int k m) (.int k n)).run P w = .ok (.bool (decide (n ≤ m))) w := by simp [binOp, Op.intCmp]
theorem run_cmp_leq (ty : Nat) (k : IntKind) (m n : Int) : (binOp .leq ty (.int k m) (.int k n)).run P w = .ok (.bool (decide (m ≤ n))) w := by simp [binOp, Op.intCmp]
theorem run_cmp_eql (ty : Nat) (k : IntKind) (m n : Int) : (binOp .eql ty (.int k m) (.int k n)).run P w = .ok (.bool (m == n)) w := by simp [binOp, Op.intCmp]
theorem run_sum (ty : Nat) (k : IntKind) (m n : Int) : (binOp .add ty (.int k m) (.int k n)).run P w = .ok (.int k (k.wrap (m + n))) w := by simp [binOp, Op.intArith]
theorem ML.nt {d s : Nat} {b : Bool} (hs : rd a s = .bool b) (h : ML P ms Q (wr a d (.bool !b)) w) : ML P (.nt d s :: ms) Q a w := by
 refine ML.step (d := some d) (v := .bool !b) (w' := w) (fun o ho => ?_) h
 have hf := JM ho
 generalize hop : o.op = op at hf
 unfold execOp
 cases op <;> simp only [Jf, UA, UB] at hf
 case unOp u t x =>
  cases u <;> simp only [Jf, UA, UB] at hf
  have he : a.eval (.tmp s) = .bool b := hs
  exact ⟨Jl hf.1, .inl (by simp only [hop, J0 hf.2, he]; simp [Op.unary])⟩
theorem ML.cv {d src dst s : Nat} {v : Value} (hv : (convert src dst (rd a s)).run P w = .ok v w) (h : ML P ms Q (wr a d v) w) : ML P (.cv d src dst s :: ms) Q a w := by
 refine ML.step (d := some d) (v := v) (w' := w) (fun o ho => ?_) h
 have hf := JM ho
 generalize hop : o.op = op at hf
 unfold execOp
 cases op <;> simp only [Jf, UA, UB, Nat.beq_eq] at hf
 obtain ⟨⟨⟨h1, h2⟩, h3⟩, h4⟩ := hf
 subst h2 h3
 have he : a.eval (.tmp s) = rd a s := rfl
 exact ⟨Jl h1, .inl (by simp only [hop, J0 h4, he, Sem.run_bind, hv, Result.andThen_ok, Sem.run_pure])⟩
def JC (P : Program) (ty : Nat) (k : IntKind) : Bool :=
 match P.underlying ty with
 | some (.int k') => sameKind k k'
 | _ => false
theorem QR {ty : Nat} {k : IntKind} (h : JC P ty k = true) : P.underlying ty = some (.int k) := by
 unfold JC at h
 cases hu : P.underlying ty with
 | none => simp [hu] at h
 | some d => cases d <;> simp_all; exact (sameKind_eq h).symm
theorem Qe {src dst : Nat} {k k' kv : IntKind} (hs : JC P src k = true) (hd : JC P dst k' = true) (n : Int) :
  (convert src dst (.int kv n)).run P w = .ok (.int k' (k'.wrap n)) w := by
 have h1 := QR hs
 have h2 := QR hd
 simp [convert, run_underlying h1, run_underlying h2, Conv.intToInt]
theorem ML.ca {d f : Nat} {xs : List MX} {R : Value → World → Prop} (he : Jo P f = true)
  (hc : Calls P f (xs.map (MX.of a)).toArray w (fun e w' => ∃ v, e = .returned v ∧ R v w'))
  (h : ∀ v w', R v w' → ML P ms Q (wr a d v) w') : ML P (.ca d f xs :: ms) Q a w := by
 intro ops l hl
 cases l with
 | nil => simp [fitOps] at hl
 | cons o os =>
  simp only [fitOps, UA] at hl
  obtain ⟨ho, hs⟩ := hl
  have hg : o.guard = none := by
   simp only [Qs, UA, Option.isNone_iff_eq_none] at ho; exact ho.1
  refine wpList_plain hg fun K hK => ?_
  have hf := JM ho
  obtain ⟨dst, op, type, pos, after, guard⟩ := o
  dsimp only at hf hg
  cases op <;> try (simp only [Jf, UB] at hf; done)
  rename_i c
  obtain ⟨callee, args, ats⟩ := c
  cases callee <;> try (simp only [Jf, UB] at hf; done)
  case value x =>
   cases x <;> try (simp only [Jf, UB] at hf; done)
   simp only [Jf, UA, Nat.beq_eq] at hf
   obtain ⟨⟨h1, h2⟩, h3⟩ := hf
   subst h2
   have hdst := Jl h1
   subst hdst
   have hargs : args.map a.eval = (xs.map (MX.of a)).toArray := by
    apply Array.toList_inj.1
    rw [Array.toList_map, allX_eval h3 a]
   have hrun : (execOp a.eval ⟨some d, .call ⟨.value (.func f), args, ats⟩, type, pos, after, guard⟩).run P w = .ok (.enter f (xs.map (MX.of a)).toArray) w := by
    simp only [execOp, resolve, Act.eval, Deferred.ofValue, Sem.run_bind, Sem.run_pure, Result.andThen_ok, invoke, Array.append_empty, Array.empty_append]
    rw [hargs, QV he]
   unfold Oper.wp
   rw [hrun, Oper.upon_enter]
   refine Calls.mono hc ?_
   rintro e w' ⟨v, rfl, hR⟩
   exact hK _ _ (h v w' hR ops os hs)
theorem ML.builtin {m : MOp} {d : Nat} {v : Value} {w' : World} {b : Builtin} {T : List Nat} {xs : List Nat}
  (hm : ∀ o : Oper, Qs m o = true → o.dst = some d ∧ ∃ args ats, o.op = .call { callee := .builtin b, args := args, argTypes := ats } ∧ ats.toList = T ∧ args.toList = xs.map Operand.tmp)
  (hr : ∀ ty cs, (builtin b T.toArray ty cs (xs.map (rd a)).toArray).run P w = .ok (.value v) w')
  (h : ML P ms Q (wr a d v) w') : ML P (m :: ms) Q a w := by
 refine ML.step (d := some d) (v := v) (w' := w') (fun o ho => ?_) h
 obtain ⟨h1, args, ats, h2, h3, h4⟩ := hm o ho
 refine ⟨h1, .inl ?_⟩
 have hats : ats = T.toArray := by apply Array.toList_inj.1; simpa using h3
 have hargs : args.map a.eval = (xs.map (rd a)).toArray := by
  apply Array.toList_inj.1
  rw [Array.toList_map, h4]
  simp [rd, Act.eval, Function.comp_def]
 unfold execOp
 simp only [h2, resolve, Sem.run_bind, Sem.run_pure, Result.andThen_ok, invoke, hargs, hats]
 exact hr _ _
theorem ML.ln {d ty s e : Nat} {p : Option Addr} {n c : Nat} (ht : Jk P ty e = true) (hs : rd a s = .slice p n c) (h : ML P ms Q (wr a d (.int .i64 n)) w) : ML P (.ln d ty s :: ms) Q a w := by
 refine ML.builtin (b := .len) (T := [ty]) (xs := [s]) (d := d) (v := .int .i64 n) (w' := w) (fun o ho => ?_) (fun t cs => ?_) h
 ·have hf := JM ho
  generalize hop : o.op = op at hf
  cases op <;> try (simp only [Jf, UB] at hf; done)
  rename_i c
  obtain ⟨callee, args, ats⟩ := c
  cases callee <;> try (simp only [Jf, UB] at hf; done)
  case builtin b =>
   cases b <;> try (simp only [Jf, UB] at hf; done)
   simp only [Jf, UA] at hf
   obtain ⟨h1, h2⟩ := hf
   generalize hA : args.toList = A at h2
   generalize hB : ats.toList = B at h2
   match A, B, h2 with
   | [y], [t'], h2 =>
    simp only [UA, Nat.beq_eq] at h2
    exact ⟨Jl h1, args, ats, rfl, by rw [hB, h2.2], by rw [hA, J0 h2.1]; rfl⟩
 ·simp [Go.builtin, Builtin.len_, hs, run_underlying (Jq ht), goInt]
theorem ML.ap {d T U x y : Nat} {v : Value} {w' : World} (hr : ∀ ty, (Builtin.append_ #[T, U] ty #[rd a x, rd a y]).run P w = .ok v w') (h : ML P ms Q (wr a d v) w') : ML P (.ap d T U x y :: ms) Q a w := by
 refine ML.builtin (b := .append) (T := [T, U]) (xs := [x, y]) (d := d) (v := v) (w' := w') (fun o ho => ?_) (fun t cs => ?_) h
 ·have hf := JM ho
  generalize hop : o.op = op at hf
  cases op <;> try (simp only [Jf, UB] at hf; done)
  rename_i c
  obtain ⟨callee, args, ats⟩ := c
  cases callee <;> try (simp only [Jf, UB] at hf; done)
  case builtin b =>
   cases b <;> try (simp only [Jf, UB] at hf; done)
   simp only [Jf, UA] at hf
   obtain ⟨h1, h2⟩ := hf
   generalize hA : args.toList = A at h2
   generalize hB : ats.toList = B at h2
   match A, B, h2 with
   | [x', y'], [t', u'], h2 =>
    simp only [UA, Nat.beq_eq] at h2
    obtain ⟨⟨⟨h3, h4⟩, h5⟩, h6⟩ := h2
    exact ⟨Jl h1, args, ats, rfl, by rw [hB, h5, h6], by rw [hA, J0 h3, J0 h4]; rfl⟩
 ·simp [Go.builtin, hr]
theorem ML.ia {d T x i e b o len cap : Nat} {k : IntKind} {j : Nat} {sz : Nat} (ht : Jk P T e = true) (hn : Jh P e sz = true)
  (hx : rd a x = .slice (some ⟨b, o, none⟩) len cap) (hi : rd a i = .int k j) (hj : j < len)
  (h : ML P ms Q (wr a d (.pointer (some ⟨b, o + j * sz, none⟩))) w) : ML P (.ia d T x i :: ms) Q a w := by
 refine ML.step (d := some d) (v := .pointer (some ⟨b, o + j * sz, none⟩)) (w' := w) (fun o' ho => ?_) h
 have hf := JM ho
 generalize hop : o'.op = op at hf
 unfold execOp
 cases op <;> simp only [Jf, UA, UB, Nat.beq_eq] at hf
 obtain ⟨⟨⟨h1, h2⟩, h3⟩, h4⟩ := hf
 subst h2
 have hq := QW hn
 cases hi' : P.info? e with
 | none => simp [hi'] at hq
 | some ii =>
  have hsz : ii.size = sz := by simpa [hi'] using hq
  have he : a.eval (.tmp x) = .slice (some ⟨b, o, none⟩) len cap := hx
  have he2 : a.eval (.tmp i) = .int k j := hi
  refine ⟨Jl h1, .inl ?_⟩
  simp only [hop, J0 h3, J0 h4, he, he2, Sem.run_bind, Instr.indexAt, asIntOf, Sem.run_pure, Result.andThen_ok, run_underlying (Jq ht)]
  rw [if_pos ⟨by omega, by omega⟩]
  simp [sizeOf, typeInfo, hi', hsz, Addr.add_mid]
end
end Go.Kx
namespace Go.Kx
open Go.RowKit
set_option linter.unusedSimpArgs false
set_option linter.unusedVariables false
structure GOp where
 i : Nat
 g : Option (Nat × Nat × Bool)
 m : MOp
inductive Jc where
 | rg (ms : List MOp)
 | gr (drawn : Bool) (gs : List GOp)
 | tw (s ty lo hi t : Nat)
 | sq (a b : Jc)
 | cd (t : Nat) (a b : Jc)
 | bl (id : Nat) (b : Jc)
 | lp (b : Jc)
 | ex (id : Nat)
 | rt
 | sk
 | any
 | sc (b : Jc)
 | lb (l : Nat)
 | gt (l : Nat)
def guardIs : Option (Nat × Bool) → Bool
 | some (j, b) => Nat.beq j 2 && b
 | none => false
theorem guardIs_eq {g : Option (Nat × Bool)} (h : guardIs g = true) : g = some (2, true) := by
 cases g with
 | none => simp [guardIs] at h
 | some p => obtain ⟨j, b⟩ := p; simp only [guardIs, UA, Nat.beq_eq] at h; rw [h.1, h.2]
def pickIs (c x y : MX) : Op → Bool
 | .pick c' x' y' => c.is c' && x.is x' && y.is y'
 | _ => false
theorem pickIs_eq {c x y : MX} {op : Op} (h : pickIs c x y op = true) : ∃ c' x' y', op = .pick c' x' y' ∧ c.is c' = true ∧ x.is x' = true ∧ y.is y' = true := by
 cases op <;> try (simp [pickIs] at h; done)
 rename_i c' x' y'
 simp only [pickIs, UA] at h
 exact ⟨c', x', y', rfl, h.1.1, h.1.2, h.2⟩
def take1 (p : Oper → Bool) : List Oper → Option (List Oper)
 | o :: os => if p o then some os else none
 | [] => none
theorem take1_eq {p : Oper → Bool} {l r : List Oper} (h : take1 p l = some r) : ∃ o, l = o :: r ∧ p o = true := by
 cases l with
 | nil => simp [take1] at h
 | cons o os =>
  simp only [take1] at h
  split at h
  ·rename_i hp; exact ⟨o, by simpa using h, hp⟩
  ·simp at h
def fitTw (s ty lo hi t : Nat) (l : List Oper) : Bool :=
 match ((((((take1 (Qs (.mv t (.t s))) l).bind (take1 (Qs (.bi (t + 1) .geq ty (.t t) (.c (.int .i16 lo)))))).bind (take1 (Qs (.mv (t + 2) (.t (t + 1)))))).bind
  (take1 fun o => guardIs o.guard && Jf (.mv (t + 3) (.t s)) o.dst o.op)).bind
  (take1 fun o => guardIs o.guard && Jf (.bi (t + 4) .leq ty (.t (t + 3)) (.c (.int .i16 hi))) o.dst o.op)).bind
  (take1 fun o => o.guard.isNone && JZ (t + 5) o.dst && pickIs (.t (t + 2)) (.t (t + 4)) (.c (.bool false)) o.op)) with
 | some [] => true
 | _ => false
theorem fitTw_inv {s ty lo hi t : Nat} {l : List Oper} (h : fitTw s ty lo hi t l = true) : ∃ o0 o1 o2 o3 o4 o5, l = [o0, o1, o2, o3, o4, o5] ∧
  Qs (.mv t (.t s)) o0 = true ∧ Qs (.bi (t + 1) .geq ty (.t t) (.c (.int .i16 lo))) o1 = true ∧ Qs (.mv (t + 2) (.t (t + 1))) o2 = true ∧
  (o3.guard = some (2, true) ∧ Jf (.mv (t + 3) (.t s)) o3.dst o3.op = true) ∧
  (o4.guard = some (2, true) ∧ Jf (.bi (t + 4) .leq ty (.t (t + 3)) (.c (.int .i16 hi))) o4.dst o4.op = true) ∧
  (o5.guard = none ∧ o5.dst = some (t + 5) ∧ pickIs (.t (t + 2)) (.t (t + 4)) (.c (.bool false)) o5.op = true) := by
 unfold fitTw at h
 split at h
 ·rename_i heq
  simp only [Option.bind_eq_some_iff] at heq
  obtain ⟨l5, ⟨l4, ⟨l3, ⟨l2, ⟨l1, h1, h2⟩, h3⟩, h4⟩, h5⟩, h6⟩ := heq
  obtain ⟨o0, rfl, g0⟩ := take1_eq h1
  obtain ⟨o1, rfl, g1⟩ := take1_eq h2
  obtain ⟨o2, rfl, g2⟩ := take1_eq h3
  obtain ⟨o3, rfl, g3⟩ := take1_eq h4
  obtain ⟨o4, rfl, g4⟩ := take1_eq h5
  obtain ⟨o5, rfl, g5⟩ := take1_eq h6
  simp only [UA, Option.isNone_iff_eq_none] at g3 g4 g5
  exact ⟨o0, o1, o2, o3, o4, o5, rfl, g0, g1, g2, ⟨guardIs_eq g3.1, g3.2⟩, ⟨guardIs_eq g4.1, g4.2⟩, ⟨g5.1.1, Jl g5.1.2, g5.2⟩⟩
 ·simp at h
def fitGuard (ops : Array Oper) : Option (Nat × Nat × Bool) → Option (Nat × Bool) → Bool
 | none, none => true
 | some (j, s, b), some (j', b') => Nat.beq j j' && (b == b') && (match ops[j]? with | some oj => JZ s oj.dst | none => false)
 | _, _ => false
def MOp.d? : MOp → Option Nat
 | .mv d _ | .nc d _ | .fa d _ _ _ | .ld d _ _ | .bi d _ _ _ _ | .nt d _ | .cv d _ _ _ | .ca d _ _ | .ln d _ _ | .ap d _ _ _ _ | .ia d _ _ _ | .s0 d _ _ | .al d _ | .bd d _ _ | .bs d _ | .b2 d _ _ _ | .bsl d _ _ | .ix d _ _ _ | .sl d _ _ _ _ _
 | .lg d _ _ | .bx d _ _ | .fl d _ _ _ | .mk d _ _ _ | .cp d _ _ _ _ | .mn d _ _ | .mxi d _ _ | .bdl d _ _ | .ext d _ _ | .pk d _ _ _ | .mf d _ _ => some d
 | .iak d _ _ _ | .mkm d _ | .rng d _ _ | .nxt d _ | .ent d _ | .lku d _ _ _ | .mki d _ _ | .cav d _ _ | .apk d _ _ _ => some d
 | .st _ _ _ | .stc _ _ _ | .mpu _ _ _ _ => none
def sameD : Option Nat → Option Nat → Bool
 | some d, some d' => Nat.beq d d'
 | none, none => true
 | _, _ => false
theorem sameD_eq {x y : Option Nat} (h : sameD x y = true) : x = y := by
 cases x <;> cases y <;> simp_all [sameD]
def fitG (ops : Array Oper) : List GOp → List Oper → Bool
 | [], [] => true
 | x :: xs, o :: os => fitGuard ops x.g o.guard && Jf x.m o.dst o.op && sameD x.m.d? o.dst && fitG ops xs os
 | _, _ => false
def MOp.quiet : MOp → Bool
 | .mv .. | .nc .. | .fa .. | .ld .. | .bi .. | .nt .. | .cv .. | .ln .. | .ia .. | .b2 .. | .ix .. | .fl .. | .mn .. | .mxi .. | .pk .. | .ext .. | .sl .. | .iak .. | .lg .. => true
 | _ => false
def fitAt (ops : Array Oper) (x : GOp) (o : Oper) : Bool := fitGuard ops x.g o.guard && Jf x.m o.dst o.op && sameD x.m.d? o.dst
def ordFrom (ops : Array Oper) : Array Bool → List GOp → Bool
 | lst, [] => (Region.ready .any ops lst).isEmpty
 | lst, x :: xs => (match ops[x.i]? with | some o => fitAt ops x o | none => false) && (if x.m.quiet then Region.free .any ops lst x.i && (Region.ready .any ops lst).contains x.i
   else (match Region.ready .any ops lst with | [i] => Nat.beq i x.i | _ => false)) && ordFrom ops (lst.setIfInBounds x.i true) xs
def ordOk (ops : Array Oper) (gs : List GOp) : Bool := Region.noSelect ops && Nat.ble gs.length ops.size && ordFrom ops (Array.replicate ops.size false) gs
def fits : Jc → Code → Bool
 | .gr dr gs, .region _ ops dr' => (dr == dr') && (if dr then ordOk ops gs else fitG ops gs ops.toList)
 | .rg ms, .region _ ops false => fitOps ms ops.toList
 | .tw s ty lo hi t, .region _ ops false => fitTw s ty lo hi t ops.toList
 | .sq a b, .seq x y => fits a x && fits b y
 | .cd t a b, .cond c x y => J5 t c && fits a x && fits b y
 | .bl id b, .block id' x => Nat.beq id id' && fits b x
 | .lp b, .loop x => fits b x
 | .ex id, .exit id' => Nat.beq id id'
 | .rt, .ret => true
 | .sk, .skip => true
 | .any, _ => true
 | .sc b, .scope x => fits b x
 | .lb l, .label l' => Nat.beq l l'
 | .gt l, .goto l' => Nat.beq l l'
 | _, _ => false
def noLb (l : Nat) : Jc → Bool
 | .sq a b => noLb l a && noLb l b
 | .lb l' => !(Nat.beq l' l)
 | .any => false
 | _ => true
def findM (l : Nat) : Jc → Option Jc
 | .sq a b => if noLb l a then findM l b else (findM l a).map (fun r => .sq r b)
 | .lb l' => if Nat.beq l' l then some .sk else none
 | _ => none
theorem noLb_find {l : Nat} : ∀ {m : Jc} {c : Code}, noLb l m = true → fits m c = true → findLabel c l = none := by
 intro m
 induction m with
 | sq a b iha ihb =>
  intro c hn hf
  cases c <;> simp only [fits, UB, UA] at hf
  simp only [noLb, UA] at hn
  simp only [findLabel, iha hn.1 hf.1, ihb hn.2 hf.2]
 | lb l' =>
  intro c hn hf
  cases c <;> simp only [fits, UB, Nat.beq_eq] at hf
  subst hf
  simp only [noLb, Bool.not_eq_true'] at hn
  simp only [findLabel]
  rw [if_neg (by
   intro h
   have h' : l' = l := by simpa using h
   rw [h'] at hn
   simp at hn)]
 | any => intro c hn; simp [noLb] at hn
 | rg ms =>
  intro c hn hf
  cases c <;> first | rfl | (simp [fits] at hf)
 | gr dr gs =>
  intro c hn hf
  cases c <;> first | rfl | (simp [fits] at hf)
 | tw s ty lo hi t =>
  intro c hn hf
  cases c <;> first | rfl | (simp [fits] at hf)
 | cd t a b _ _ =>
  intro c hn hf
  cases c <;> first | rfl | (simp [fits] at hf)
 | bl id b _ =>
  intro c hn hf
  cases c <;> first | rfl | (simp [fits] at hf)
 | lp b _ =>
  intro c hn hf
  cases c <;> first | rfl | (simp [fits] at hf)
 | ex id =>
  intro c hn hf
  cases c <;> first | rfl | (simp [fits] at hf)
 | rt =>
  intro c hn hf
  cases c <;> first | rfl | (simp [fits] at hf)
 | sk =>
  intro c hn hf
  cases c <;> first | rfl | (simp [fits] at hf)
 | sc b _ =>
  intro c hn hf
  cases c <;> first | rfl | (simp [fits] at hf)
 | gt l =>
  intro c hn hf
  cases c <;> first | rfl | (simp [fits] at hf)
theorem findM_find {l : Nat} : ∀ {m r : Jc} {c : Code}, findM l m = some r → fits m c = true → ∃ rest, findLabel c l = some rest ∧ fits r rest = true := by
 intro m
 induction m with
 | sq a b iha ihb =>
  intro r c hn hf
  cases c <;> simp only [fits, UB, UA] at hf
  rename_i cx cy
  simp only [findM] at hn
  split at hn
  ·rename_i h
   obtain ⟨rest, h1, h2⟩ := ihb hn hf.2
   exact ⟨rest, by simp only [findLabel, noLb_find h hf.1, h1], h2⟩
  ·simp only [Option.map_eq_some_iff] at hn
   obtain ⟨r', h1, rfl⟩ := hn
   obtain ⟨rest, h2, h3⟩ := iha h1 hf.1
   exact ⟨.seq rest cy, by simp only [findLabel, h2], by simp only [fits, UA]; exact ⟨h3, hf.2⟩⟩
 | lb l' =>
  intro r c hn hf
  cases c <;> simp only [fits, UB, Nat.beq_eq] at hf
  subst hf
  simp only [findM] at hn
  split at hn
  ·rename_i h
   simp only [UC] at hn
   subst hn
   refine ⟨.skip, ?_, rfl⟩
   simp only [findLabel]
   rw [if_pos (by simpa using h)]
  ·simp at hn
 | _ => intro r c hn; simp [findM] at hn
def MW (P : Program) (m : Jc) (Q : Exit → Act → World → Prop) (a : Act) (w : World) : Prop :=
 ∀ c : Code, fits m c = true → c.wp P Q a w
section
variable {P : Program} {Q Q' : Exit → Act → World → Prop} {a : Act} {w : World}
theorem MW.mono {m : Jc} (h : MW P m Q a w) (hq : ∀ e a w, Q e a w → Q' e a w) : MW P m Q' a w := fun c hc => wp_mono (h c hc) hq
theorem MW.rg {ms : List MOp} (h : ML P ms Q a w) : MW P (.rg ms) Q a w := by
 intro c hc
 cases c <;> try (simp only [fits, UB] at hc; done)
 rename_i id ops d
 cases d <;> simp only [fits, UB] at hc
 exact wp_region_list (h _ _ hc)
theorem MW.sq {x y : Jc} (h : MW P x (Exit.then (MW P y Q) Q) a w) : MW P (.sq x y) Q a w := by
 intro c hc
 cases c <;> simp only [fits, UB, UA] at hc
 refine wp_seq (wp_mono (h _ hc.1) ?_)
 intro e a w hq
 cases e <;> first | exact hq _ hc.2 | exact hq
theorem MW.cd {t : Nat} {x y : Jc} {b : Bool} (ht : rd a t = .bool b) (h1 : b = true → MW P x Q a w) (h2 : b = false → MW P y Q a w) : MW P (.cd t x y) Q a w := by
 intro c hc
 cases c <;> simp only [fits, UB, UA] at hc
 obtain ⟨⟨h3, h4⟩, h5⟩ := hc
 rw [J0 h3]
 exact wp_cond_split (t := b) ht (fun e => h1 e _ h4) (fun e => h2 e _ h5)
theorem MW.bl {id : Nat} {x : Jc} (h : MW P x (Exit.inBlock id Q) a w) : MW P (.bl id x) Q a w := by
 intro c hc
 cases c <;> simp only [fits, UB, UA, Nat.beq_eq] at hc
 obtain ⟨rfl, h1⟩ := hc
 exact wp_block (h _ h1)
theorem MW.lp {x : Jc} (I : Act → World → Prop) (μ : Act → World → Nat) (h₀ : I a w)
  (round : ∀ a w, I a w → MW P x (Exit.then (fun a' w' => I a' w' ∧ μ a' w' < μ a w) Q) a w) : MW P (.lp x) Q a w := by
 intro c hc
 cases c <;> simp only [fits, UB] at hc
 exact wp_loop I μ h₀ fun a w hi => round a w hi _ hc
theorem MW.ex {id : Nat} (h : Q (.exit id) a w) : MW P (.ex id) Q a w := by
 intro c hc
 cases c <;> simp only [fits, UB, Nat.beq_eq] at hc
 subst hc
 exact wp_exit h
theorem MW.rt (h : Q .ret a w) : MW P .rt Q a w := by
 intro c hc
 cases c <;> simp only [fits, UB] at hc
 exact wp_ret h
theorem MW.lb {l : Nat} (h : Q .normal a w) : MW P (.lb l) Q a w := by
 intro c hc
 cases c <;> simp only [fits, UB] at hc
 exact wp_label h
theorem MW.gt {l : Nat} (h : Q (.goto l) a w) : MW P (.gt l) Q a w := by
 intro c hc
 cases c <;> simp only [fits, UB, Nat.beq_eq] at hc
 subst hc
 exact wp_goto h
theorem MW.sc {b r : Jc} {l : Nat} (J : Act → World → Prop) (hf : findM l b = some r) (h : MW P b (Exit.jump l J Q) a w) (hr : ∀ a w, J a w → MW P r (Exit.jump l (fun _ _ => False) Q) a w) : MW P (.sc b) Q a w := by
 intro c hc
 cases c <;> simp only [fits, UB] at hc
 obtain ⟨rest, h1, h2⟩ := findM_find hf hc
 refine wp_scope_jumps l J (fun _ _ => 0) h1 (h _ hc) fun a w hJ => wp_mono (hr a w hJ rest h2) ?_
 intro e a w hq
 cases e <;> first | exact hq | (exact hq.2.elim)
theorem MW.sk (h : Q .normal a w) : MW P .sk Q a w := by
 intro c hc
 cases c <;> simp only [fits, UB] at hc
 exact wp_skip h
end
def rows : List Jc → Jc
 | [] => .sk
 | [c] => c
 | c :: cs => .sq c (rows cs)
/-! ### The frame, slot by slot -/
theorem rd_wr {a : Act} {d : Nat} {v : Value} (s : Nat) (h : d < a.tmps.size) : rd (wr a d v) s = if s = d then v else rd a s := by
 unfold rd wr
 by_cases e : s = d
 ·subst e; simp [Array.getElem?_setIfInBounds, h]
 ·have : ¬ d = s := fun x => e x.symm
  simp [Array.getElem?_setIfInBounds, e, this]
theorem Je {a : Act} {d : Nat} {v : Value} (h : d < a.tmps.size) : rd (wr a d v) d = v := by rw [rd_wr d h, if_pos rfl]
theorem JH {a : Act} {d s : Nat} {v : Value} (h : s ≠ d) : rd (wr a d v) s = rd a s := by
 unfold rd wr
 have : ¬ d = s := fun x => h x.symm
 simp [Array.getElem?_setIfInBounds, h, this]
@[simp] theorem Jj (a : Act) (d : Nat) (v : Value) : (wr a d v).tmps.size = a.tmps.size := by simp [wr]
@[simp] theorem defers_wr (a : Act) (d : Nat) (v : Value) : (wr a d v).defers = a.defers := rfl
structure Loc (N L : Nat) (ρ : Nat → Value) (a : Act) : Prop where
 size : a.tmps.size = N
 defers : a.defers = []
 get : ∀ s, s < L → rd a s = ρ s
def upd (ρ : Nat → Value) (x : Nat) (v : Value) : Nat → Value := fun s => if s = x then v else ρ s
theorem Ja (ρ : Nat → Value) (x : Nat) (v : Value) : upd ρ x v x = v := by simp [upd]
theorem Jb (ρ : Nat → Value) {x s : Nat} (v : Value) (h : s ≠ x) : upd ρ x v s = ρ s := by simp [upd, h]
theorem Loc.tmp {N L : Nat} {ρ : Nat → Value} {a : Act} (h : Loc N L ρ a) {d : Nat} (v : Value) (h1 : L ≤ d) (h2 : d < N) : Loc N L ρ (wr a d v) :=
 ⟨by simpa using h.size, by simpa using h.defers, fun s hs => by rw [rd_wr s (by rw [h.size]; exact h2), if_neg (by omega)]; exact h.get s hs⟩
theorem Loc.set {N L : Nat} {ρ : Nat → Value} {a : Act} (h : Loc N L ρ a) {d : Nat} (v : Value) (h2 : d < N) : Loc N L (upd ρ d v) (wr a d v) :=
 ⟨by simpa using h.size, by simpa using h.defers, fun s hs => by
  rw [rd_wr s (by rw [h.size]; exact h2)]
  by_cases e : s = d
  ·simp [e, upd]
  ·simp [e, upd]; exact h.get s hs⟩
theorem Loc.less {N L L' : Nat} {ρ : Nat → Value} {a : Act} (h : Loc N L ρ a) (hl : L' ≤ L) : Loc N L' ρ a :=
 ⟨h.size, h.defers, fun s hs => h.get s (by omega)⟩
inductive PK where
 | i8 | i16 | i32 | i64 | u16 | bool | f64 | uuid | str | nstr | byt | nbyt
 deriving DecidableEq
inductive Cnd where
 | always
 | ge (lo : Nat)
 | btw (lo hi : Nat)
 | tag
def Cnd.ok : Cnd → Int → Bool
 | .always, _ => true
 | .ge lo, v => decide ((lo : Int) ≤ v)
 | .btw lo hi, v => decide ((lo : Int) ≤ v) && decide (v ≤ hi)
 | .tag, _ => false
def Cnd.isTag : Cnd → Bool
 | .tag => true
 | _ => false
def PK.ik : PK → IntKind
 | .i8 => .i8 | .i16 => .i16 | .u16 => .u16 | .i32 => .i32 | _ => .i64
def PK.isNum : PK → Bool
 | .i8 | .i16 | .u16 | .i32 | .i64 => true
 | _ => false
def PK.oct : PK → Nat
 | .i8 => 1 | .i16 | .u16 => 2 | .i32 => 4 | _ => 8
structure KT where
 tag : Nat
 pos : Nat
 idx : Nat
 off : Nat
 df : Int
 k : PK
 ty : Nat
abbrev TgF := (Nat × List KT) × Nat
mutual
inductive Ty where
 | prim (k : PK) (ty : Nat)
 | enum (k : PK) (ty base : Nat)
 | vstr (lim ty base : Nat)
 | arr (nul : Option Nat) (ty ety : Nat) (el : Ty)
 | struct (T n dflt : Nat) (tg : Option TgF) (fs : Flds)
inductive Flds where
 | nil
 | cons (c : Cnd) (idx off : Nat) (df : Int) (ty : Ty) (rest : Flds)
end
inductive D where
 | n (i : Int)
 | s (o : Option (List UInt8))
 | l (nul : Bool) (xs : List D)
 | r (fs : List D) (tags : List (Nat × List UInt8))
 deriving Inhabited
def PK.cells : PK → Nat
 | .uuid => 16
 | _ => 1
def Ty.cells : Ty → Nat
 | .prim k _ => k.cells
 | .enum k _ _ => k.cells
 | .vstr .. => 1
 | .arr .. => 1
 | .struct _ n _ _ _ => n
/-! ### How it is written -/
def be (n : Nat) : Nat → List UInt8
 | 0 => []
 | k + 1 => be (n / 256) k ++ [UInt8.ofNat (n % 256)]
def fix (n : Int) (k : Nat) : List UInt8 := be (n % (256 ^ k : Int)).toNat k
def uvb : Nat → Nat → List UInt8
 | 0, n => [UInt8.ofNat n]
 | k + 1, n => if n < 128 then [UInt8.ofNat n] else UInt8.ofNat (n % 128 + 128) :: uvb k (n / 128)
def uv (n : Nat) : List UInt8 := uvb 9 n
def cnt (flex : Bool) (k n : Nat) : List UInt8 := if flex then uv (n + 1) else fix n k
def J9 (flex : Bool) (k : Nat) : List UInt8 := if flex then uv 0 else fix (-1) k
def encP (k : PK) (flex : Bool) (d : D) : List UInt8 :=
 match k, d with
 | .i8, .n i => fix i 1
 | .i16, .n i => fix i 2
 | .u16, .n i => fix i 2
 | .i32, .n i => fix i 4
 | .i64, .n i => fix i 8
 | .f64, .n i => fix i 8
 | .bool, .n i => [if i = 0 then 0 else 1]
 | .uuid, .s (some l) => l
 | .str, .s (some l) => cnt flex 2 l.length ++ l
 | .nstr, .s (some l) => cnt flex 2 l.length ++ l
 | .nstr, .s none => J9 flex 2
 | .byt, .s (some l) => cnt flex 4 l.length ++ l
 | .nbyt, .s (some l) => cnt flex 4 l.length ++ l
 | .nbyt, .s none => J9 flex 4
 | _, _ => []
def vK (lim : Nat) (ver : Int) : PK := if ver < (lim : Int) then .str else .nstr
def vD (lim : Nat) (ver : Int) (d : D) : D := if ver < (lim : Int) then (match d with | .s (some l) => .s (some l) | _ => .s (some [])) else d
def vNul (nul : Option Nat) (ver : Int) : Bool :=
 match nul with
 | none => true
 | some 0 => true
 | some (k + 1) => decide (((k + 1 : Nat) : Int) ≤ ver)
def Jt (t : Nat × List UInt8) : List UInt8 := uv t.1 ++ uv t.2.length ++ t.2
def Jz (l : List (Nat × List UInt8)) : List UInt8 := uv l.length ++ l.flatMap Jt
mutual
def QC : Ty → D → Bool
 | .prim _ _, d => match d with | .n i => decide (i = 0) | .s (some l) => l.isEmpty | _ => true
 | .arr .., d => match d with | .l _ xs => xs.isEmpty | _ => true
 | .struct _ _ _ _ fs, d => match d with | .r ds tags => Qw fs ds && tags.isEmpty | _ => true
 | _, _ => false
def Qw : Flds → List D → Bool
 | .nil, _ => true
 | .cons _ _ _ _ ty rest, ds => QC ty (ds.headD (.n 0)) && Qw rest ds.tail
end
mutual
def enc (ver : Int) (flex : Bool) : Ty → D → List UInt8
 | .prim k _, d => encP k flex d
 | .enum k _ _, d => encP k flex d
 | .vstr lim _ _, d => encP (vK lim ver) flex (vD lim ver d)
 | .arr nv _ _ el, .l nul xs => if nul && vNul nv ver then J9 flex 4 else cnt flex 4 xs.length ++ xs.flatMap (enc ver flex el)
 | .arr .., _ => []
 | .struct _ _ _ tg fs, .r ds tags => encF ver flex fs ds ++ (if tg.isSome && flex then Jz (tagF ver flex fs ds ++ tags) else [])
 | .struct .., _ => []
def encF (ver : Int) (flex : Bool) : Flds → List D → List UInt8
 | .nil, _ => []
 | .cons c _ _ _ ty rest, ds => (if c.ok ver then enc ver flex ty (ds.headD (.n 0)) else []) ++ encF ver flex rest ds.tail
def tagF (ver : Int) (flex : Bool) : Flds → List D → List (Nat × List UInt8)
 | .nil, _ => []
 | .cons c _ _ _ ty rest, ds => (if c.isTag && !QC ty (ds.headD (.n 0)) then [(0, enc ver flex ty (ds.headD (.n 0)))] else []) ++ tagF ver flex rest ds.tail
end
def JO : Flds → Bool
 | .nil => false
 | .cons c _ _ _ _ rest => c.isTag || JO rest
theorem tagF_no (ver : Int) (flex : Bool) : ∀ {fs : Flds} {ds : List D}, JO fs = false → tagF ver flex fs ds = []
 | .nil, _, _ => by rw [tagF]
 | .cons c _ _ _ ty rest, ds, h => by
  simp only [JO, Bool.or_eq_false_iff] at h
  rw [tagF, h.1, tagF_no ver flex h.2]; rfl
/-! ### How it lies in memory -/
def JF (b : UInt8) : Value := .int .u8 b.toNat
def Jg (w : World) (F : Nat → Prop) (a : Option Addr) (l : List UInt8) : Prop :=
 ∀ j b, l[j]? = some b → ∃ g o, a = some ⟨g, o, none⟩ ∧ F g ∧ w.cell? ⟨g, o + j, none⟩ = some (JF b)
def RepP (w : World) (F : Nat → Prop) (k : PK) (cs : List Value) (d : D) : Prop :=
 match k with
 | .i8 => ∃ n, cs = [.int .i8 n] ∧ d = .n n ∧ -128 ≤ n ∧ n ≤ 127
 | .i16 => ∃ n, cs = [.int .i16 n] ∧ d = .n n ∧ -32768 ≤ n ∧ n ≤ 32767
 | .u16 => ∃ n, cs = [.int .u16 n] ∧ d = .n n ∧ 0 ≤ n ∧ n ≤ 65535
 | .i32 => ∃ n, cs = [.int .i32 n] ∧ d = .n n ∧ -2147483648 ≤ n ∧ n ≤ 2147483647
 | .i64 => ∃ n, cs = [.int .i64 n] ∧ d = .n n ∧ -9223372036854775808 ≤ n ∧ n ≤ 9223372036854775807
 | .f64 => ∃ n : Nat, cs = [.float .f64 n] ∧ d = .n n ∧ n < 18446744073709551616
 | .bool => ∃ b : Bool, cs = [.bool b] ∧ d = .n (if b then 1 else 0)
 | .uuid => ∃ l : List UInt8, l.length = 16 ∧ cs = l.map JF ∧ d = .s (some l)
 | .str => ∃ s : ByteArray, cs = [.string s] ∧ d = .s (some s.data.toList)
 | .nstr => (cs = [.pointer none] ∧ d = .s none) ∨ ∃ b s, cs = [.pointer (some ⟨b, 0, none⟩)] ∧ F b ∧ w.cell? ⟨b, 0, none⟩ = some (.string s) ∧ d = .s (some s.data.toList)
 | .byt => ∃ a c l, cs = [.slice a (List.length l) c] ∧ Jg w F a l ∧ d = .s (some l)
 | .nbyt => (cs = [.slice none 0 0] ∧ d = .s none) ∨ ∃ ad c l, cs = [.slice (some ad) (List.length l) c] ∧ Jg w F (some ad) l ∧ d = .s (some l)
def RepT (w : World) (F : Nat → Prop) (m : Value) (tags : List (Nat × List UInt8)) : Prop :=
 (m = .map none ∧ tags = []) ∨
 ∃ r es clock, m = .map (some r) ∧ F r ∧ w.heap[r]? = some (.map es clock) ∧ es.size = tags.length ∧
  tags.Pairwise (fun x y => x.1 < y.1) ∧
  (∀ t ∈ tags, t.1 < 4294967296 ∧ ∃ e ∈ es.toList, e.key = .int .u32 t.1 ∧ ∃ a c, e.val = .slice a t.2.length c ∧ Jg w F a t.2) ∧
  Go.MapKept.Stamped es clock ∧ (∀ x ∈ es.toList, ∃ t ∈ tags, x.key = .int .u32 t.1) ∧ tags ≠ []
def NumP (k : PK) (v : Value) (n : Int) : Prop :=
 match k with
 | .i8 => v = .int .i8 n ∧ -128 ≤ n ∧ n ≤ 127
 | .i16 => v = .int .i16 n ∧ -32768 ≤ n ∧ n ≤ 32767
 | .u16 => v = .int .u16 n ∧ 0 ≤ n ∧ n ≤ 65535
 | .i32 => v = .int .i32 n ∧ -2147483648 ≤ n ∧ n ≤ 2147483647
 | .i64 => v = .int .i64 n ∧ -9223372036854775808 ≤ n ∧ n ≤ 9223372036854775807
 | _ => False
def KT.enc (q : KT) (n : Int) : List (Nat × List UInt8) := if n = q.df then [] else [(q.tag, encP q.k false (.n n))]
def KnAt : List KT → List Value → List (Nat × List UInt8) → Prop
 | [], _, out => out = []
 | q :: r, cs, out => ∃ v n out', cs[q.off]? = some v ∧ NumP q.k v n ∧ out = q.enc n ++ out' ∧ KnAt r cs out'
def unKn (kn : List KT) (un : List (Nat × List UInt8)) : Prop := ∀ t ∈ un, ∀ q ∈ kn, t.1 ≠ q.tag
def TagsAt (w : World) (F : Nat → Prop) (tg : Option TgF) (cs : List Value) (tags : List (Nat × List UInt8)) : Prop :=
 match tg with
 | none => tags = []
 | some q => ∃ m kn un, cs[q.2]? = some m ∧ RepT w F m un ∧ KnAt q.1.2 cs kn ∧ tags = kn ++ un ∧ unKn q.1.2 un
mutual
def Rep (w : World) (F : Nat → Prop) : Ty → List Value → D → Prop
 | .prim k _, cs, d => RepP w F k cs d
 | .enum k _ _, cs, d => RepP w F k cs d
 | .vstr _ _ _, cs, d => RepP w F .nstr cs d
 | .arr nul _ _ el, cs, d => ∃ isnul xs, d = .l isnul xs ∧
   ((cs = [.slice none 0 0] ∧ xs = [] ∧ isnul = nul.isSome) ∨
    (isnul = false ∧ ∃ (ab : Nat) (arr : List Value) (cap : Nat), cs = [.slice (some ⟨ab, 0, none⟩) xs.length cap] ∧ F ab ∧ w.rangeAt ab 0 arr ∧ xs.length * el.cells ≤ arr.length ∧
     ∀ i d, xs[i]? = some d → Rep w F el ((arr.drop (i * el.cells)).take el.cells) d))
 | .struct _ n _ tg fs, cs, d => ∃ ds tags, d = .r ds tags ∧ cs.length = n ∧ RepF w F fs cs ds ∧ TagsAt w F tg cs tags
def RepF (w : World) (F : Nat → Prop) : Flds → List Value → List D → Prop
 | .nil, _, ds => ds = []
 | .cons _ _ off _ ty rest, cs, ds => off + ty.cells ≤ cs.length ∧ ∃ d ds', ds = d :: ds' ∧ Rep w F ty ((cs.drop off).take ty.cells) d ∧ RepF w F rest cs ds'
end
section
variable {w w' : World} {F F' : Nat → Prop}
theorem Ji {a : Addr} (h : w'.heap[a.block]? = w.heap[a.block]?) : w'.cell? a = w.cell? a := World.cell?_of_block h
theorem Jg.mono {a : Option Addr} {l : List UInt8} (h : Jg w F a l) (hF : ∀ b, F b → F' b) (hw : ∀ b, F b → w'.heap[b]? = w.heap[b]?) : Jg w' F' a l := by
 intro j b hj
 obtain ⟨g, o, rfl, hg, hc⟩ := h j b hj
 exact ⟨g, o, rfl, hF g hg, by rw [Ji (hw g hg)]; exact hc⟩
theorem RepP.mono {k : PK} {cs : List Value} {d : D} (h : RepP w F k cs d) (hF : ∀ b, F b → F' b) (hw : ∀ b, F b → w'.heap[b]? = w.heap[b]?) : RepP w' F' k cs d := by
 cases k <;> simp only [RepP] at h ⊢ <;> try exact h
 ·rcases h with h | ⟨b, s, h1, h2, h3, h4⟩
  ·exact .inl h
  ·exact .inr ⟨b, s, h1, hF b h2, by rw [Ji (hw b h2)]; exact h3, h4⟩
 ·obtain ⟨a, c, l, h1, h2, h3⟩ := h
  exact ⟨a, c, l, h1, h2.mono hF hw, h3⟩
 ·rcases h with h | ⟨ad, c, l, h1, h2, h3⟩
  ·exact .inl h
  ·exact .inr ⟨ad, c, l, h1, h2.mono hF hw, h3⟩
theorem RepT.mono {m : Value} {tags : List (Nat × List UInt8)} (h : RepT w F m tags) (hF : ∀ b, F b → F' b) (hw : ∀ b, F b → w'.heap[b]? = w.heap[b]?) : RepT w' F' m tags := by
 rcases h with h | ⟨r, es, clock, h1, h2, h3, h4, h5, h6, hs⟩
 ·exact .inl h
 ·refine .inr ⟨r, es, clock, h1, hF r h2, by rw [hw r h2]; exact h3, h4, h5, fun t ht => ?_, hs⟩
  obtain ⟨h7, e, h8, h9, a, c, h10, h11⟩ := h6 t ht
  exact ⟨h7, e, h8, h9, a, c, h10, h11.mono hF hw⟩
theorem TagsAt.mono {tg : Option TgF} {cs : List Value} {tags : List (Nat × List UInt8)} (h : TagsAt w F tg cs tags) (hF : ∀ b, F b → F' b) (hw : ∀ b, F b → w'.heap[b]? = w.heap[b]?) : TagsAt w' F' tg cs tags := by
 cases tg with
 | none => exact h
 | some p => obtain ⟨m, kn, un, h5, h6, h7⟩ := h; exact ⟨m, kn, un, h5, h6.mono hF hw, h7⟩
mutual
theorem Rep.mono (hF : ∀ b, F b → F' b) (hw : ∀ b, F b → w'.heap[b]? = w.heap[b]?) : ∀ (ty : Ty) {cs : List Value} {d : D}, Rep w F ty cs d → Rep w' F' ty cs d
 | .prim k _, _, _, h => by unfold Rep at h ⊢; exact RepP.mono h hF hw
 | .enum k _ _, _, _, h => by unfold Rep at h ⊢; exact RepP.mono h hF hw
 | .vstr _ _ _, _, _, h => by unfold Rep at h ⊢; exact RepP.mono h hF hw
 | .arr nul _ _ el, cs, d, h => by
  unfold Rep at h ⊢
  obtain ⟨isnul, xs, h1, h2⟩ := h
  refine ⟨isnul, xs, h1, ?_⟩
  rcases h2 with h2 | ⟨h2, ab, arr, cap, h3, h4, h5, h6, h7⟩
  ·exact .inl h2
  ·exact .inr ⟨h2, ab, arr, cap, h3, hF ab h4, fun j u hu => by rw [Ji (hw ab h4)]; exact h5 j u hu, h6, fun i d hd => Rep.mono hF hw el (h7 i d hd)⟩
 | .struct _ n _ tg fs, cs, d, h => by
  unfold Rep at h ⊢
  obtain ⟨ds, tags, h1, h2, h3, h4⟩ := h
  exact ⟨ds, tags, h1, h2, RepF.mono hF hw fs h3, h4.mono hF hw⟩
theorem RepF.mono (hF : ∀ b, F b → F' b) (hw : ∀ b, F b → w'.heap[b]? = w.heap[b]?) : ∀ (fs : Flds) {cs : List Value} {ds : List D}, RepF w F fs cs ds → RepF w' F' fs cs ds
 | .nil, _, _, h => by unfold RepF at h ⊢; exact h
 | .cons _ _ off _ ty rest, cs, ds, h => by
  unfold RepF at h ⊢
  obtain ⟨h0, d, ds', h1, h2, h3⟩ := h
  exact ⟨h0, d, ds', h1, Rep.mono hF hw ty h2, RepF.mono hF hw rest h3⟩
end
end
structure IA where
 tU8 : Nat
 tI16 : Nat
 tInt : Nat
 tU32 : Nat
 tTags : Nat
 i8 : Nat
 i16 : Nat
 i32 : Nat
 i64 : Nat
 u16 : Nat
 bool : Nat
 f64 : Nat
 uuid : Nat
 str : Nat
 nstr : Nat
 byt : Nat
 nbyt : Nat
 cstr : Nat
 cnstr : Nat
 cbyt : Nat
 cnbyt : Nat
 alen : Nat
 calen : Nat
 nalen : Nat
 cnalen : Nat
 uvar : Nat
 tU32s : Nat := 0
 tlen : Nat
 teach : Nat
 tU8s : Nat := 0
 zNew : Nat := 0
 zSame : Nat := 0
def IA.fn (I : IA) (k : PK) (flex : Bool) : Nat :=
 match k with
 | .i8 => I.i8 | .i16 => I.i16 | .i32 => I.i32 | .i64 => I.i64 | .u16 => I.u16 | .bool => I.bool | .f64 => I.f64 | .uuid => I.uuid
 | .str => if flex then I.cstr else I.str
 | .nstr => if flex then I.cnstr else I.nstr
 | .byt => if flex then I.cbyt else I.byt
 | .nbyt => if flex then I.cnbyt else I.nbyt
def PK.two : PK → Bool
 | .str | .nstr | .byt | .nbyt => true
 | _ => false
def ifFlex (sf : Option Nat) (t : Nat) (yes no : Nat → Jc × Nat) : Jc × Nat :=
 match sf with
 | none => no t
 | some s =>
  let y := yes (t + 1)
  let n := no y.2
  (.sq (.rg [.mv t (.t s)]) (.cd t y.1 n.1), n.2)
def callA (f v t : Nat) : Jc × Nat := (.rg [.mv t (.t 1), .mv (t + 1) (.t v), .ca (t + 2) f [.t t, .t (t + 1)], .mv 1 (.t (t + 2))], t + 3)
def lenA (f ty v t : Nat) : Jc × Nat := (.rg [.mv t (.t 1), .mv (t + 1) (.t v), .ln (t + 2) ty (t + 1), .ca (t + 3) f [.t t, .t (t + 2)], .mv 1 (.t (t + 3))], t + 4)
def nlenA (f ty v t : Nat) : Jc × Nat :=
 (.rg [.mv t (.t 1), .mv (t + 1) (.t v), .ln (t + 2) ty (t + 1), .mv (t + 3) (.t v), .bi (t + 4) .eql ty (.t (t + 3)) (.c .nslice), .ca (t + 5) f [.t t, .t (t + 2), .t (t + 4)], .mv 1 (.t (t + 5))], t + 6)
def primA (I : IA) (sf : Option Nat) (k : PK) (v t : Nat) : Jc × Nat :=
 if k.two then ifFlex sf t (callA (I.fn k true) v) (callA (I.fn k false) v) else callA (I.fn k false) v t
def loadA (T vs idx ty x t : Nat) : Jc × Nat := (.rg [.mv t (.t vs), .nc (t + 1) t, .fa (t + 2) T (t + 1) idx, .ld (t + 3) ty (t + 2), .mv x (.t (t + 3))], t + 4)
def ktTests (I : IA) (T vs x : Nat) : List KT → Nat → List Jc × Nat
 | [], u => ([], u)
 | q :: r, u =>
  let n := ktTests I T vs x r (u + 8)
  (.sq (.rg [.mv u (.t vs), .nc (u + 1) u, .fa (u + 2) T (u + 1) q.idx, .ld (u + 3) q.ty (u + 2), .bi (u + 4) .neq q.ty (.t (u + 3)) (.c (.int q.k.ik q.df))])
   (.cd (u + 4) (.rg [.mv (u + 5) (.t x), .bsl (u + 6) I.tU32s [.c (.int .u32 q.tag)], .ap (u + 7) I.tU32s I.tU32s (u + 5) (u + 6), .mv x (.t (u + 7))]) .sk) :: n.1, n.2)
def ktChain (I : IA) (T vs s : Nat) : List KT → (y c : Nat) → Jc
 | [], _, _ => .sk
 | q :: r, y, c => .sq (.rg [.bi (c + 1) .eql I.tU32 (.t s) (.c (.int .u32 q.tag)), .mv c (.t (c + 1))]) (.cd c
   (rows [(loadA T vs q.idx q.ty y (c + 2)).1, .rg [.mv (c + 6) (.t 1), .ca (c + 7) I.uvar [.t (c + 6), .c (.int .u32 q.tag)], .mv 1 (.t (c + 7))],
    .rg [.mv (c + 8) (.t 1), .ca (c + 9) I.uvar [.t (c + 8), .c (.int .u32 q.k.oct)], .mv 1 (.t (c + 9))], (callA (I.fn q.k false) y (c + 10)).1])
   (ktChain I T vs s r (y + 1) (c + 13)))
def ktLoop (I : IA) (T vs x u b : Nat) (kn : List KT) (e : Nat) : Jc :=
 .sq (.rg [.mv u (.t x), .ln (u + 1) I.tU32s u, .mv (u + 2) (.c (.int .i64 0))])
  (.bl b (.lp (.sq (.rg [.bi (u + 3) .lss I.tInt (.t (u + 2)) (.t (u + 1))]) (.sq (.cd (u + 3) .sk (.ex b))
   (.sq (.bl (b + 1) (.sq (.rg [.ia (u + 4) I.tU32s u (u + 2), .ld (u + 5) I.tU32 (u + 4), .mv (x + 2) (.t (u + 5))]) (.sq (.rg [.mv (u + 6) (.t (x + 2))]) (.bl (b + 2) (ktChain I T vs (u + 6) kn (x + 3) (u + 7))))))
    (.rg [.bi e .add I.tInt (.t (u + 2)) (.c (.int .i64 1)), .mv (u + 2) (.t e)]))))))
def ktBody (I : IA) (T vs idx : Nat) (kn : List KT) (t x b : Nat) : List Jc :=
 let a := ktTests I T vs x kn t
 let u := a.2
 let e := u + 17 + 13 * kn.length
 .rg [.mv x (.c .nslice)] :: (a.1 ++ [
  .rg [.mv u (.t 1), .mv (u + 1) (.t x), .ln (u + 2) I.tU32s (u + 1), .mv (u + 3) (.t vs), .nc (u + 4) (u + 3), .fa (u + 5) T (u + 4) idx, .ca (u + 6) I.tlen [.t (u + 5)], .bi (u + 7) .add I.tInt (.t (u + 2)) (.t (u + 6)), .cv (u + 8) I.tInt I.tU32 (u + 7),
   .ca (u + 9) I.uvar [.t u, .t (u + 8)], .mv 1 (.t (u + 9))],
  ktLoop I T vs x (u + 10) b kn e,
  .rg [.mv (e + 1) (.t vs), .nc (e + 2) (e + 1), .fa (e + 3) T (e + 2) idx, .mv (e + 4) (.t 1), .ca (e + 5) I.teach [.t (e + 3), .t (e + 4)], .mv 1 (.t (e + 5))]])
def ktEnd (kn : List KT) (t : Nat) : Nat := t + 8 * kn.length + 17 + 13 * kn.length + 6
def tagsA (I : IA) (sf : Option Nat) (T vs : Nat) (tg : Option TgF) (t x b : Nat) : List Jc × Nat × Nat × Nat :=
 match tg, sf with
 | some ((idx, []), _), some s =>
  ([.sq (.rg [.mv t (.t s)]) (.cd t
   (.sq (.rg [.mv (t + 1) (.t 1), .mv (t + 2) (.t vs), .nc (t + 3) (t + 2), .fa (t + 4) T (t + 3) idx, .ca (t + 5) I.tlen [.t (t + 4)], .cv (t + 6) I.tInt I.tU32 (t + 5),
      .bi (t + 7) .add I.tU32 (.c (.int .u32 0)) (.t (t + 6)), .ca (t + 8) I.uvar [.t (t + 1), .t (t + 7)], .mv 1 (.t (t + 8))])
      (.rg [.mv (t + 9) (.t vs), .nc (t + 10) (t + 9), .fa (t + 11) T (t + 10) idx, .mv (t + 12) (.t 1), .ca (t + 13) I.teach [.t (t + 11), .t (t + 12)], .mv 1 (.t (t + 13))]))
   .sk)], t + 14, x, b)
 | some ((idx, q :: r), _), some s =>
  ([.sq (.rg [.mv t (.t s)]) (.cd t (rows (ktBody I T vs idx (q :: r) (t + 1) x b)) .sk)], ktEnd (q :: r) (t + 1), x + 3 + (q :: r).length, b + 3)
 | _, _ => ([], t, x, b)
def twiceA (I : IA) (z t lbl : Nat) : Jc :=
 .sq (.rg [.mv t (.t z), .nt (t + 1) t]) (.cd (t + 1) (.sq (.gr true [⟨0, none, .mv (t + 2) (.t 1)⟩, ⟨1, none, .mv (t + 3) (.t (z + 1))⟩, ⟨2, none, .sl (t + 4) I.tU8s (t + 2) none (some (.t (t + 3))) none⟩, ⟨3, none, .mv (t + 5) (.t 1)⟩, ⟨4, none, .mv (t + 6) (.t (z + 1))⟩,
  ⟨5, none, .sl (t + 7) I.tU8s (t + 5) (some (.t (t + 6))) none none⟩, ⟨6, none, .ln (t + 8) I.tU8s (t + 7)⟩, ⟨7, none, .cv (t + 9) I.tInt I.tU32 (t + 8)⟩, ⟨8, none, .ca (t + 10) I.uvar [.t (t + 4), .t (t + 9)]⟩, ⟨9, none, .mv 1 (.t (t + 10))⟩])
  (.sq (.rg [.mv z (.c (.bool true))]) (.gt lbl))) .sk)
def preA (I : IA) (z t lbl : Nat) : List Jc :=
 [.rg [.mv t (.t 1), .ca (t + 1) I.uvar [.t t, .c (.int .u32 0)], .mv 1 (.t (t + 1))], .rg [.mv z (.c (.bool false))], .rg [.mv (t + 2) (.t 1), .ln (t + 3) I.tU8s (t + 2), .mv (z + 1) (.t (t + 3))], .lb lbl]
def noteA (I : IA) (x n : Nat) : Jc := .rg [.mv n (.t x), .bsl (n + 1) I.tU32s [.c (.int .u32 0)], .ap (n + 2) I.tU32s I.tU32s n (n + 1), .mv x (.t (n + 2))]
def ptLoop (I : IA) (x u b : Nat) (body : Jc) (e : Nat) : Jc :=
 .sq (.rg [.mv u (.t x), .ln (u + 1) I.tU32s u, .mv (u + 2) (.c (.int .i64 0))])
  (.bl b (.lp (.sq (.rg [.bi (u + 3) .lss I.tInt (.t (u + 2)) (.t (u + 1))]) (.sq (.cd (u + 3) .sk (.ex b))
   (.sq (.bl (b + 1) (.sq (.rg [.ia (u + 4) I.tU32s u (u + 2), .ld (u + 5) I.tU32 (u + 4), .mv (x + 2) (.t (u + 5))]) (.sq (.rg [.mv (u + 6) (.t (x + 2))]) (.bl (b + 2)
     (.sq (.rg [.bi (u + 8) .eql I.tU32 (.t (u + 6)) (.c (.int .u32 0)), .mv (u + 7) (.t (u + 8))]) (.cd (u + 7) (.sc body) .sk))))))
    (.rg [.bi e .add I.tInt (.t (u + 2)) (.c (.int .i64 1)), .mv (u + 2) (.t e)]))))))
def ptCount (I : IA) (T vs tidx x u : Nat) : Jc :=
 .rg [.mv u (.t 1), .mv (u + 1) (.t x), .ln (u + 2) I.tU32s (u + 1), .mv (u + 3) (.t vs), .nc (u + 4) (u + 3), .fa (u + 5) T (u + 4) tidx, .ca (u + 6) I.tlen [.t (u + 5)], .bi (u + 7) .add I.tInt (.t (u + 2)) (.t (u + 6)), .cv (u + 8) I.tInt I.tU32 (u + 7),
   .ca (u + 9) I.uvar [.t u, .t (u + 8)], .mv 1 (.t (u + 9))]
def ptEach (I : IA) (T vs tidx e : Nat) : Jc := .rg [.mv e (.t vs), .nc (e + 1) e, .fa (e + 2) T (e + 1) tidx, .mv (e + 3) (.t 1), .ca (e + 4) I.teach [.t (e + 2), .t (e + 3)], .mv 1 (.t (e + 4))]
def ptBody (I : IA) (T vs tidx x b : Nat) (test : Jc) (u : Nat) (body : Jc) (e : Nat) : List Jc :=
 [.rg [.mv x (.c .nslice)], test, ptCount I T vs tidx x u, ptLoop I x (u + 10) b body e, ptEach I T vs tidx (e + 1)]
def boxF (I : IA) (T y : Nat) : Flds → (t x : Nat) → List Jc × Nat × Nat
 | .cons _ idx _ _ (.prim k ty) rest, t, x =>
  let r := boxF I T y rest (t + 5) (x + 1)
  (.sq (.rg [.fa t T y idx, .ld (t + 1) ty t, .mv x (.t (t + 1))]) (callA (I.fn k false) x (t + 2)).1 :: r.1, r.2)
 | _, t, x => ([], t, x)
def boxT (I : IA) (s T y tidx t : Nat) : Jc :=
 .sq (.rg [.mv t (.t s)]) (.cd t (.sq (.rg [.mv (t + 1) (.t 1), .fa (t + 2) T y tidx, .ca (t + 3) I.tlen [.t (t + 2)], .cv (t + 4) I.tInt I.tU32 (t + 3), .bi (t + 5) .add I.tU32 (.c (.int .u32 0)) (.t (t + 4)), .ca (t + 6) I.uvar [.t (t + 1), .t (t + 5)], .mv 1 (.t (t + 6))])
  (.rg [.fa (t + 7) T y tidx, .mv (t + 8) (.t 1), .ca (t + 9) I.teach [.t (t + 7), .t (t + 8)], .mv 1 (.t (t + 9))])) .sk)
def ptTestL (I : IA) (T vs idx ty x u : Nat) : Jc :=
 .sq (.rg [.mv u (.t vs), .nc (u + 1) u, .fa (u + 2) T (u + 1) idx, .ld (u + 3) ty (u + 2), .ln (u + 4) ty (u + 3), .bi (u + 5) .gtr I.tInt (.t (u + 4)) (.c (.int .i64 0))]) (.cd (u + 5) (noteA I x (u + 6)) .sk)
def ptTestS (I : IA) (T vs idx ty x u : Nat) : Jc :=
 .sq (.gr true [⟨0, none, .mv u (.t vs)⟩, ⟨1, none, .nc (u + 1) u⟩, ⟨2, none, .fa (u + 2) T (u + 1) idx⟩, ⟨3, none, .ld (u + 3) ty (u + 2)⟩, ⟨4, none, .ca (u + 4) I.zNew []⟩, ⟨5, none, .ca (u + 5) I.zSame [.t (u + 3), .t (u + 4)]⟩, ⟨6, none, .nt (u + 6) (u + 5)⟩]) (.cd (u + 6) (noteA I x (u + 7)) .sk)
def payS (I : IA) (s T vs idx tidx lbl T' : Nat) (fs : Flds) (tidx' t x b : Nat) : List Jc × Nat × Nat × Nat :=
 let c := t + 29
 let f := boxF I T' (x + 3) fs (c + 8) (x + 6)
 let e := f.2.1 + 21
 (ptBody I T vs tidx x b (ptTestS I T vs idx T' x t) (t + 10)
  (rows (.rg [.mv c (.t vs), .nc (c + 1) c, .fa (c + 2) T (c + 1) idx, .ld (c + 3) T' (c + 2), .al (x + 3) T', .st T' (x + 3) (c + 3)] :: (preA I (x + 4) (c + 4) lbl ++ (f.1 ++ [boxT I s T' (x + 3) tidx' f.2.1, twiceA I (x + 4) (f.2.1 + 10) lbl])))) e, e + 6, f.2.2, b + 3)
def condA (I : IA) (sver : Nat) (c : Cnd) (t : Nat) (body : Nat → Jc × Nat × Nat × Nat) : Jc × Nat × Nat × Nat :=
 match c with
 | .always => body t
 | .ge lo =>
  let r := body (t + 2)
  (.sq (.rg [.mv t (.t sver), .bi (t + 1) .geq I.tI16 (.t t) (.c (.int .i16 lo))]) (.cd (t + 1) r.1 .sk), r.2)
 | .btw lo hi =>
  let r := body (t + 6)
  (.sq (.tw sver I.tI16 lo hi t) (.cd (t + 5) r.1 .sk), r.2)
 | .tag => body t
def loopA (ti ty v x t b : Nat) (body : Nat → Nat → List Jc × Nat × Nat × Nat) : Jc × Nat × Nat × Nat :=
 let r := body (t + 5) (b + 2)
 (.sq (.rg [.mv t (.t v), .ln (t + 1) ty t, .mv (t + 2) (.c (.int .i64 0))])
  (.bl b (.lp (.sq (.rg [.bi (t + 3) .lss ti (.t (t + 2)) (.t (t + 1))]) (.sq (.cd (t + 3) .sk (.ex b))
   (.sq (.bl (b + 1) (rows (.rg [.mv (t + 4) (.t (t + 2)), .mv x (.t (t + 4))] :: r.1)))
    (.rg [.bi r.2.1 .add ti (.t (t + 2)) (.c (.int .i64 1)), .mv (t + 2) (.t r.2.1)])))))), r.2.1 + 1, r.2.2.1, r.2.2.2)
def alenA (I : IA) (sver : Nat) (sf : Option Nat) (nul : Option Nat) (ty v t : Nat) : Jc × Nat :=
 match nul with
 | none => ifFlex sf t (lenA I.calen ty v) (lenA I.alen ty v)
 | some 0 => ifFlex sf t (nlenA I.cnalen ty v) (nlenA I.nalen ty v)
 | some (k + 1) =>
  let y := ifFlex sf (t + 2) (nlenA I.cnalen ty v) (nlenA I.nalen ty v)
  let n := ifFlex sf y.2 (lenA I.calen ty v) (lenA I.alen ty v)
  (.sq (.rg [.mv t (.t sver), .bi (t + 1) .geq I.tI16 (.t t) (.c (.int .i16 ((k + 1 : Nat) : Int)))]) (.cd (t + 1) y.1 n.1), n.2)
def PK.box : PK → Bool
 | .uuid => true
 | _ => false
def primFldA (I : IA) (sf : Option Nat) (T vs idx : Nat) (k : PK) (ty x t : Nat) : Jc × Nat :=
 if k.box then (.sq (.rg [.mv t (.t vs), .nc (t + 1) t, .fa (t + 2) T (t + 1) idx, .ld (t + 3) ty (t + 2), .al x ty, .st ty x (t + 3)])
   (.rg [.mv (t + 4) (.t 1), .ld (t + 5) ty x, .ca (t + 6) (I.fn k false) [.t (t + 4), .t (t + 5)], .mv 1 (.t (t + 6))]), t + 7)
 else (rows [(loadA T vs idx ty x t).1, (primA I sf k x (t + 4)).1], (primA I sf k x (t + 4)).2)
def vstrA (I : IA) (sver : Nat) (sf : Option Nat) (lim ty base x t : Nat) : Jc × Nat :=
 let y := primA I sf .str (x + 2) (t + 8)
 let n := primA I sf .nstr x y.2
 (.sq (.rg [.mv t (.t sver), .bi (t + 1) .lss I.tI16 (.t t) (.c (.int .i16 lim))])
  (.cd (t + 1) (rows [.rg [.mv (x + 1) (.c .estr)], .sq (.rg [.mv (t + 2) (.t x), .bi (t + 3) .neq ty (.t (t + 2)) (.c .nptr)]) (.cd (t + 3) (.rg [.mv (t + 4) (.t x), .nc (t + 5) (t + 4), .ld (t + 6) base (t + 5), .mv (x + 1) (.t (t + 6))]) .sk),
   .rg [.mv (t + 7) (.t (x + 1)), .mv (x + 2) (.t (t + 7))], y.1]) n.1), n.2)
mutual
def genE (I : IA) (sver : Nat) (sf : Option Nat) (ty ety : Nat) : Ty → (v x t x' b : Nat) → List Jc × Nat × Nat × Nat
 | .prim k _, v, x, t, x', b =>
  if k.box then ([.sq (.rg [.mv t (.t v), .mv (t + 1) (.t x), .ia (t + 2) ty t (t + 1), .ld (t + 3) ety (t + 2), .al (x + 1) ety, .st ety (x + 1) (t + 3)])
   (.rg [.mv (t + 4) (.t 1), .ld (t + 5) ety (x + 1), .ca (t + 6) (I.fn k false) [.t (t + 4), .t (t + 5)], .mv 1 (.t (t + 6))])], t + 7, x', b)
  else
  let r := primA I sf k (x + 1) (t + 4)
  ([.rg [.mv t (.t v), .mv (t + 1) (.t x), .ia (t + 2) ty t (t + 1), .ld (t + 3) ety (t + 2), .mv (x + 1) (.t (t + 3))], r.1], r.2, x', b)
 | .struct T _ _ tg fs, v, x, t, x', b =>
  let r := genF I sver sf T (x + 1) fs (t + 3) x' b
  let g := genT I sver sf T (x + 1) tg fs r.2.1 r.2.2.1 r.2.2.2
  (.rg [.mv t (.t v), .mv (t + 1) (.t x), .ia (t + 2) ty t (t + 1), .mv (x + 1) (.t (t + 2))] :: (r.1 ++ g.1), g.2)
 | _, _, _, t, x', b => ([], t, x', b)
def genF (I : IA) (sver : Nat) (sf : Option Nat) (T vs : Nat) : Flds → (t x b : Nat) → List Jc × Nat × Nat × Nat
 | .nil, t, x, b => ([], t, x, b)
 | .cons c idx _ _ ty rest, t, x, b =>
  if c.isTag then genF I sver sf T vs rest t x b else
  let f := condA I sver c t (fun t => JS I sver sf T vs idx ty t x b)
  let r := genF I sver sf T vs rest f.2.1 f.2.2.1 f.2.2.2
  (f.1 :: r.1, r.2)
def genT (I : IA) (sver : Nat) (sf : Option Nat) (T vs : Nat) (tg : Option TgF) : Flds → (t x b : Nat) → List Jc × Nat × Nat × Nat
 | .nil, t, x, b => tagsA I sf T vs tg t x b
 | .cons c idx _ df ty rest, t, x, b =>
  if c.isTag then match tg, sf with
   | some q, some s =>
    let r := Qg I sver sf s T vs idx q.1.1 df.toNat ty (t + 1) x b
    ([.sq (.rg [.mv t (.t s)]) (.cd t (rows r.1) .sk)], r.2)
   | _, _ => ([], t, x, b)
  else genT I sver sf T vs tg rest t x b
def Qg (I : IA) (sver : Nat) (sf : Option Nat) (s T vs idx tidx lbl : Nat) : Ty → (t x b : Nat) → List Jc × Nat × Nat × Nat
 | .arr nul ty ety el, t, x, b =>
  let c := t + 28
  let h := alenA I sver sf nul ty (x + 3) (c + 8)
  let p := loopA I.tInt ty (x + 3) (x + 6) h.2 (b + 3) (fun t' b' => genE I sver sf ty ety el (x + 3) (x + 6) t' (x + 8) b')
  (ptBody I T vs tidx x b (ptTestL I T vs idx ty x t) (t + 9) (rows ((loadA T vs idx ty (x + 3) c).1 :: (preA I (x + 4) (c + 4) lbl ++ [h.1, p.1, twiceA I (x + 4) p.2.1 lbl]))) (p.2.1 + 11), p.2.1 + 17, p.2.2)
 | .struct T' _ _ (some q) fs, t, x, b => payS I s T vs idx tidx lbl T' fs q.1.1 t x b
 | _, t, x, b => ([], t, x, b)
def JS (I : IA) (sver : Nat) (sf : Option Nat) (T vs idx : Nat) : Ty → (t x b : Nat) → Jc × Nat × Nat × Nat
 | .prim k ty, t, x, b =>
  let r := primFldA I sf T vs idx k ty x t
  (r.1, r.2, x + 1, b)
 | .enum k ty base, t, x, b =>
  let l := loadA T vs idx ty x t
  let r := callA (I.fn k false) (x + 1) (l.2 + 1)
  (rows [l.1, .sq (.rg [.mv l.2 (.t x), .mv (x + 1) (.t l.2)]) r.1], r.2, x + 2, b)
 | .vstr lim ty base, t, x, b =>
  let l := loadA T vs idx ty x t
  let r := vstrA I sver sf lim ty base x l.2
  (rows [l.1, r.1], r.2, x + 3, b)
 | .arr nul ty ety el, t, x, b =>
  let l := loadA T vs idx ty x t
  let h := alenA I sver sf nul ty x l.2
  let p := loopA I.tInt ty x (x + 1) h.2 b (fun t' b' => genE I sver sf ty ety el x (x + 1) t' (x + 3) b')
  (rows [l.1, h.1, p.1], p.2)
 | .struct T' _ _ tg fs, t, x, b =>
  let r := genF I sver sf T' x fs (t + 3) (x + 1) b
  let g := genT I sver sf T' x tg fs r.2.1 r.2.2.1 r.2.2.2
  (rows (.rg [.mv t (.t vs), .nc (t + 1) t, .fa (t + 2) T (t + 1) idx, .mv x (.t (t + 2))] :: (r.1 ++ g.1)), g.2)
end
set_option linter.unusedVariables false
def lim : Nat := 4294967295
def OwnB (U : Nat) (w : World) (B : Nat) (sv : Value) (bs : List UInt8) : Prop := w.ownsRow B U 1 sv bs.length (bs.map JF)
def Gr (w w' : World) (sv : Value) : Prop := ∀ k, k < w.heap.size → some k ≠ sv.ownBlock → w'.heap[k]? = w.heap[k]?
def ApC (P : Program) (U f : Nat) (R : World → Nat → Value → List UInt8 → Prop) : Prop :=
 Jo P f = true ∧ ∀ (w : World) (B : Nat) (sv x : Value) (bs out : List UInt8), B ≤ w.heap.size → OwnB U w B sv bs → R w B x out → bs.length + out.length ≤ lim →
  Calls P f #[sv, x] w (fun e w' => ∃ sv', e = .returned sv' ∧ OwnB U w' B sv' (bs ++ out) ∧ Below B w w')
def ApG (P : Program) (U f : Nat) (R : World → Nat → Value → List UInt8 → Prop) : Prop :=
 Jo P f = true ∧ ∀ (w : World) (B : Nat) (sv x : Value) (bs out : List UInt8), B ≤ w.heap.size → OwnB U w B sv bs → R w B x out → bs.length + out.length ≤ lim →
  Calls P f #[sv, x] w (fun e w' => ∃ sv', e = .returned sv' ∧ OwnB U w' B sv' (bs ++ out) ∧ Below B w w' ∧ Gr w w' sv)
theorem ApG.c {P : Program} {U f : Nat} {R : World → Nat → Value → List UInt8 → Prop} (h : ApG P U f R) : ApC P U f R :=
 ⟨h.1, fun w B sv x bs out h1 h2 h3 h4 => Calls.mono (h.2 w B sv x bs out h1 h2 h3 h4) fun e w' ⟨sv', a, b, c, _⟩ => ⟨sv', a, b, c⟩⟩
def Keep (L x x' : Nat) (ρ ρ' : Nat → Value) : Prop := ∀ s, s < L → s ≠ 1 → (s < x ∨ x' ≤ s) → ρ' s = ρ s
theorem Keep.refl (L x x' : Nat) (ρ : Nat → Value) : Keep L x x' ρ ρ := fun _ _ _ _ => rfl
theorem Keep.trans {L x y z : Nat} {ρ ρ' ρ'' : Nat → Value} (h : Keep L x y ρ ρ') (k : Keep L y z ρ' ρ'') (h1 : x ≤ y) (h2 : y ≤ z) : Keep L x z ρ ρ'' :=
 fun s hs h0 h3 => (k s hs h0 (by omega)).trans (h s hs h0 (by omega))
section
variable (P : Program) (U B N L : Nat)
def JB (m : Jc) (ρ : Nat → Value) (w : World) (x x' : Nat) (out : List UInt8) : Prop :=
 ∀ (a : Act) (bs : List UInt8) (Q : Exit → Act → World → Prop), Loc N L ρ a → OwnB U w B (ρ 1) bs → bs.length + out.length ≤ lim →
  (∀ a' w' ρ', Loc N L ρ' a' → Keep L x x' ρ ρ' → OwnB U w' B (ρ' 1) (bs ++ out) → Below B w w' → Q .normal a' w') → MW P m Q a w
def Sets (m : Jc) (ρ : Nat → Value) (w : World) (x : Nat) (v : Value) : Prop :=
 ∀ (a : Act) (Q : Exit → Act → World → Prop), Loc N L ρ a → (∀ a', Loc N L (upd ρ x v) a' → Q .normal a' w) → MW P m Q a w
def JK : List Jc → (Nat → Value) → World → Nat → Nat → List UInt8 → Prop
 | [], _, _, x, x', out => out = [] ∧ x = x'
 | c :: cs, ρ, w, x, x', out =>
  (∃ o1 o2 y, out = o1 ++ o2 ∧ x ≤ y ∧ y ≤ x' ∧ JB P U B N L c ρ w x y o1 ∧
   ∀ ρ' w', Keep L x y ρ ρ' → Below B w w' → JK cs ρ' w' y x' o2) ∨
  (∃ v, x ≠ 1 ∧ x + 1 ≤ x' ∧ Sets P N L c ρ w x v ∧ JK cs (upd ρ x v) w (x + 1) x' out)
end
section
variable {P : Program} {U B N L : Nat} {ρ : Nat → Value} {w : World} {x x' : Nat} {out : List UInt8}
theorem JB.sk (h : x ≤ x') : JB P U B N L .sk ρ w x x' [] := by
 intro a bs Q hl ho hlim hQ
 exact MW.sk (hQ a w ρ hl (Keep.refl _ _ _ _) (by simpa using ho) (Below.refl _ _))
theorem JK.rows : ∀ {cs : List Jc} {ρ : Nat → Value} {w : World} {x x' : Nat} {out : List UInt8}, JK P U B N L cs ρ w x x' out → JB P U B N L (rows cs) ρ w x x' out
 | [], ρ, w, x, x', out, h => by
  obtain ⟨rfl, h1⟩ := h
  exact JB.sk (Nat.le_of_eq h1)
 | [c], ρ, w, x, x', out, h => by
  rcases h with ⟨o1, o2, y, rfl, h1, h2, h3, h4⟩ | ⟨v, h1, h2, h3, h4⟩
  ·obtain ⟨rfl, _⟩ := h4 ρ w (Keep.refl _ _ _ _) (Below.refl _ _)
   intro a bs Q hl ho hlim hQ
   simp only [List.append_nil] at hlim hQ
   refine h3 a bs Q hl ho hlim ?_
   intro a' w' ρ' g1 g2 g3 g4
   exact hQ a' w' ρ' g1 (fun s hs h0 h5 => g2 s hs h0 (by omega)) g3 g4
  ·obtain ⟨rfl, _⟩ := h4
   intro a bs Q hl ho hlim hQ
   refine h3 a Q hl ?_
   intro a1 hl1
   refine hQ a1 w _ hl1 (fun s hs h0 h5 => Jb _ _ (by omega)) ?_ (Below.refl _ _)
   rw [Jb _ _ (Ne.symm h1)]; simpa using ho
 | c :: c2 :: cs, ρ, w, x, x', out, h => by
  intro a bs Q hl ho hlim hQ
  show MW P (.sq c (Kx.rows (c2 :: cs))) Q a w
  rcases h with ⟨o1, o2, y, rfl, h1, h2, h3, h4⟩ | ⟨v, h1, h2, h3, h4⟩
  ·simp only [UD] at hlim
   refine MW.sq ?_
   refine h3 a bs _ hl ho (by omega) ?_
   intro a' w' ρ' g1 g2 g3 g4
   refine JK.rows (h4 ρ' w' g2 g4) a' (bs ++ o1) Q g1 g3 (by simp only [UD]; omega) ?_
   intro a'' w'' ρ'' k1 k2 k3 k4
   exact hQ a'' w'' ρ'' k1 (g2.trans k2 h1 h2) (by simpa using k3) (g4.trans k4)
  ·refine MW.sq (h3 a _ hl ?_)
   intro a1 hl1
   refine JK.rows h4 a1 bs Q hl1 (by rw [Jb _ _ (Ne.symm h1)]; exact ho) hlim ?_
   intro a' w' ρ' g1 g2 g3 g4
   refine hQ a' w' ρ' g1 (fun s hs h0 h5 => ?_) g3 g4
   rw [g2 s hs h0 (by omega), Jb _ _ (by omega)]
theorem JK.append : ∀ {cs ds : List Jc} {ρ : Nat → Value} {w : World} {x y x' : Nat} {o1 o2 : List UInt8}, JK P U B N L cs ρ w x y o1 → y ≤ x' →
  (∀ ρ' w', Keep L x y ρ ρ' → Below B w w' → JK P U B N L ds ρ' w' y x' o2) → JK P U B N L (cs ++ ds) ρ w x x' (o1 ++ o2)
 | [], ds, ρ, w, x, y, x', o1, o2, h, hy, hd => by
  obtain ⟨rfl, rfl⟩ := h
  exact hd ρ w (Keep.refl _ _ _ _) (Below.refl _ _)
 | c :: cs, ds, ρ, w, x, y, x', o1, o2, h, hy, hd => by
  rcases h with ⟨p1, p2, z, rfl, h1, h2, h3, h4⟩ | ⟨v, h1, h2, h3, h4⟩
  ·refine .inl ⟨p1, p2 ++ o2, z, by simp, h1, by omega, h3, ?_⟩
   intro ρ' w' g1 g2
   refine JK.append (h4 ρ' w' g1 g2) hy ?_
   intro ρ'' w'' k1 k2
   exact hd ρ'' w'' (g1.trans k1 h1 h2) (g2.trans k2)
  ·refine .inr ⟨v, h1, by omega, h3, ?_⟩
   refine JK.append h4 hy ?_
   intro ρ' w' k1 k2
   exact hd ρ' w' (fun s hs h0 h5 => by rw [k1 s hs h0 (by omega), Jb _ _ (by omega)]) k2
theorem JK.le : ∀ {cs : List Jc} {ρ : Nat → Value} {w : World} {x x' : Nat} {out : List UInt8}, JK P U B N L cs ρ w x x' out → x ≤ x'
 | [], _, _, _, _, _, h => Nat.le_of_eq h.2
 | _ :: _, _, _, _, _, _, .inl ⟨_, _, y, _, h1, h2, _, _⟩ => by omega
 | _ :: _, _, _, _, _, _, .inr ⟨_, _, h2, _, _⟩ => by omega
theorem Sets.then {m c : Jc} {x : Nat} {v : Value} (hs : Sets P N L m ρ w x v) (hx1 : x ≠ 1) (h : JB P U B N L c (upd ρ x v) w (x + 1) x' out) (hx : x + 1 ≤ x') :
  JB P U B N L (.sq m c) ρ w x x' out := by
 intro a bs Q hl ho hlim hQ
 refine MW.sq (hs a _ hl ?_)
 intro a1 hl1
 refine h a1 bs Q hl1 (by rw [Jb _ _ (Ne.symm hx1)]; exact ho) hlim ?_
 intro a' w' ρ' g1 g2 g3 g4
 refine hQ a' w' ρ' g1 (fun s hs h0 h5 => ?_) g3 g4
 have hsx : s ≠ x := by omega
 rw [g2 s hs h0 (by omega), Jb _ _ hsx]
theorem Sets.loadA {T vs idx ty t b o off : Nat} {v : Value} (hp : ρ vs = .pointer (some ⟨b, o, none⟩)) (hvs : vs < L) (hx : x < L) (ht : L ≤ t) (hN : t + 4 ≤ N)
  (hf : Jd P T idx off = true) (hr : (Instr.loadAt ty (.pointer (some ⟨b, o + off, none⟩))).run P w = .ok v w) : Sets P N L (loadA T vs idx ty x t).1 ρ w x v := by
 intro a Q hl hQ
 have hsz := hl.size
 refine MW.rg (ML.mv (ML.nc (p := ⟨b, o, none⟩) ?_ (ML.fa (b := b) (o := o) (off := off) ?_ hf (ML.ldBy (v := v) ?_ (ML.mv (ML.nil (hQ _ ?_)))))))
 ·simp (disch := (first | omega | (simp only [Jj]; omega))) only [Je, JH, MX.of]
  rw [hl.get vs hvs, hp]
 ·simp (disch := (first | omega | (simp only [Jj]; omega))) only [Je, JH, MX.of]
 ·simp (disch := (first | omega | (simp only [Jj]; omega))) only [Je, JH, MX.of]
  exact hr
 ·simp (disch := (first | omega | (simp only [Jj]; omega))) only [Je, JH, MX.of]
  exact Loc.set (((((hl.tmp _ (by omega) (by omega)).tmp _ (by omega) (by omega)).tmp _ (by omega) (by omega))).tmp _ (by omega) (by omega)) _ (by omega)
theorem JB.callA {f v t : Nat} {R : World → Nat → Value → List UInt8 → Prop} (hc : ApC P U f R) (hB : B ≤ w.heap.size) (hv : v < L) (h1L : 1 < L) (ht : L ≤ t) (hN : t + 3 ≤ N) (hR : R w B (ρ v) out) :
  JB P U B N L (callA f v t).1 ρ w x x out := by
 intro a bs Q hl ho hlim hQ
 have hsz := hl.size
 refine MW.rg (ML.mv (ML.mv (ML.ca (R := fun sv' w' => OwnB U w' B sv' (bs ++ out) ∧ Below B w w') hc.1 ?_ ?_)))
 ·simp (disch := (first | omega | (simp only [Jj]; omega))) only [Je, JH, MX.of, List.map_cons, List.map_nil]
  rw [hl.get 1 h1L, hl.get v hv]
  refine (hc.2 w B (ρ 1) (ρ v) bs out hB ho hR hlim).mono ?_
  rintro e w' ⟨sv', rfl, h2⟩
  exact ⟨sv', rfl, h2⟩
 ·rintro sv' w' ⟨h2, h3⟩
  refine ML.mv (ML.nil ?_)
  simp (disch := (first | omega | (simp only [Jj]; omega))) only [Je, JH, MX.of]
  refine hQ _ w' (upd ρ 1 sv') (Loc.set (((hl.tmp _ (by omega) (by omega)).tmp _ (by omega) (by omega)).tmp _ (by omega) (by omega)) _ (by omega)) ?_ ?_ h3
  ·intro s hs h0 _; exact Jb _ _ h0
  ·rw [Ja]; exact h2
theorem JB.ifFlex {sf : Option Nat} {t : Nat} {yes no : Nat → Jc × Nat} {flex : Bool}
  (hs : ∀ s, sf = some s → s < L ∧ ρ s = .bool flex) (hn : sf = none → flex = false) (ht : L ≤ t) (hN : (Kx.ifFlex sf t yes no).2 ≤ N)
  (mono1 : ∀ t, t ≤ (yes t).2) (mono2 : ∀ t, t ≤ (no t).2)
  (hy : flex = true → ∀ t, L ≤ t → (yes t).2 ≤ N → JB P U B N L (yes t).1 ρ w x x out)
  (hno : flex = false → ∀ t, L ≤ t → (no t).2 ≤ N → JB P U B N L (no t).1 ρ w x x out) :
  JB P U B N L (Kx.ifFlex sf t yes no).1 ρ w x x out := by
 cases sf with
 | none => exact hno (hn rfl) t ht hN
 | some s =>
  obtain ⟨h1, h2⟩ := hs s rfl
  simp only [Kx.ifFlex] at hN ⊢
  have m1 := mono1 (t + 1)
  have m2 := mono2 (yes (t + 1)).2
  intro a bs Q hl ho hlim hQ
  have hsz := hl.size
  refine MW.sq (MW.rg (ML.mv (ML.nil ?_)))
  simp only [MX.of]
  rw [hl.get s h1, h2]
  have hl' : Loc N L ρ (wr a t (.bool flex)) := hl.tmp _ ht (by omega)
  refine MW.cd (b := flex) (Je (by omega)) (fun e => ?_) (fun e => ?_)
  ·exact hy e (t + 1) (by omega) (by omega) _ bs Q hl' ho hlim hQ
  ·exact hno e _ (by omega) hN _ bs Q hl' ho hlim hQ
end
/-! ### New variables -/
theorem JA (w : World) (cs : List Value) (T : Nat) {j : Nat} {v : Value} (h : cs[j]? = some v) : (w.alloc (.cells cs.toArray T)).cell? ⟨w.heap.size, 0 + j, none⟩ = some v := by
 rw [Nat.zero_add, World.cell?_alloc_new]
 simpa using h
theorem J1 (w : World) (o : Obj) : (w.alloc o).heap.size = w.heap.size + 1 := by show (w.heap.push o).size = _; simp
theorem Jn (w : World) (o : Obj) : Below w.heap.size w (w.alloc o) := (Below.refl _ w).alloc (Nat.le_refl _) o
theorem Qm (w : World) (cs : List Value) (T : Nat) : (w.alloc (.cells cs.toArray T)).there w.heap.size 0 cs.length := by
 intro j hj
 refine ⟨?_, ?_⟩
 ·rw [JA w cs T (List.getElem?_eq_getElem hj)]; rfl
 ·rw [frozen?_alloc_cells]
  unfold World.frozen?
  simp
theorem JD {B b : Nat} (hB : B ≤ b) : ∀ (vs : List Value) (o : Nat) {w a : World}, Below B a w → Below B a (w.setCells b o vs)
 | [], _, _, _, h => h
 | v :: vs, o, w, a, h => JD hB vs (o + 1) (h.setCell (p := ⟨b, o, none⟩) hB v)
theorem Qr (b : Nat) : ∀ (vs : List Value) (o : Nat) (w : World), (w.setCells b o vs).heap.size = w.heap.size
 | [], _, _ => rfl
 | v :: vs, o, w => by
  show ((w.setCell ⟨b, o, none⟩ v).setCells b (o + 1) vs).heap.size = _
  rw [Qr b vs (o + 1)]; simp
theorem OwnB.keep {w w' : World} {U B : Nat} {sv : Value} {bs : List UInt8} (h : OwnB U w B sv bs) (hb : Below w.heap.size w w') : OwnB U w' B sv bs := by
 obtain ⟨h1, h2⟩ := h
 refine ⟨h1, ?_⟩
 rcases h2 with h2 | ⟨g, cap, cur, h2, h3, h4, h5⟩
 ·exact .inl h2
 ·exact .inr ⟨g, cap, cur, h2, h3, by rw [hb.block g (by have := (Array.getElem?_eq_some_iff.1 h4).1; exact this)]; exact h4, h5⟩
set_option linter.unusedVariables false
theorem Ju {x : Int} (h0 : -9223372036854775808 ≤ x) (h1 : x < 9223372036854775808) : IntKind.i64.wrap x = x := by
 unfold IntKind.wrap
 simp only [IntKind.bits, IntKind.signed, Bool.true_and, decide_eq_true_eq, show ((2 : Int) ^ 64) = 18446744073709551616 from rfl, show ((2 : Int) ^ (64 - 1)) = 9223372036854775808 from rfl]
 split <;> omega
theorem Qx {x : Int} (h0 : 0 ≤ x) (h1 : x < 4294967296) : IntKind.u32.wrap x = x := by
 unfold IntKind.wrap
 simp only [IntKind.bits, IntKind.signed, Bool.false_and, UB, if_false, show ((2 : Int) ^ 32) = 4294967296 from rfl]
 omega
section
variable {P : Program} {U B N L : Nat} {ρ : Nat → Value} {w : World} {x x' : Nat} {out : List UInt8}
theorem Loc.all {a : Act} (h : Loc N L ρ a) (M : Nat) : ∃ ρ', Loc N M ρ' a ∧ (∀ s, s < L → ρ' s = ρ s) ∧ (∀ s, ρ' s = rd a s) := by
 refine ⟨fun s => rd a s, ⟨h.size, h.defers, fun _ _ => rfl⟩, fun s hs => h.get s hs, fun _ => rfl⟩
def LenC (P : Program) (U f : Nat) (o : Nat → List UInt8) : Prop :=
 ApC P U f (fun _ _ x out => ∃ n : Nat, n ≤ 32767 ∧ x = .int .i64 n ∧ out = o n)
theorem JB.lenA {f ty e v t n c : Nat} {p : Option Addr} {o : Nat → List UInt8} (hc : LenC P U f o) (hB : B ≤ w.heap.size) (hv : v < L) (hv1 : v ≠ 1) (h1L : 1 < L) (ht : L ≤ t) (hN : t + 4 ≤ N)
  (hs : Jk P ty e = true) (hρ : ρ v = .slice p n c) (hn : n ≤ 32767) : JB P U B N L (lenA f ty v t).1 ρ w x x (o n) := by
 intro a bs Q hl ho hlim hQ
 have hsz := hl.size
 refine MW.rg (ML.mv (ML.mv (ML.ln hs (p := p) (n := n) (c := c) ?_ (ML.ca (R := fun sv' w' => OwnB U w' B sv' (bs ++ o n) ∧ Below B w w') hc.1 ?_ ?_))))
 ·simp (disch := (first | omega | (simp only [Jj]; omega))) only [Je, JH, MX.of]
  rw [hl.get v hv, hρ]
 ·simp (disch := (first | omega | (simp only [Jj]; omega))) only [Je, JH, MX.of, List.map_cons, List.map_nil]
  rw [hl.get 1 h1L]
  refine (hc.2 w B (ρ 1) _ bs (o n) hB ho ⟨n, hn, rfl, rfl⟩ hlim).mono ?_
  rintro e w' ⟨sv', rfl, h2⟩
  exact ⟨sv', rfl, h2⟩
 ·rintro sv' w' ⟨h2, h3⟩
  refine ML.mv (ML.nil ?_)
  simp (disch := (first | omega | (simp only [Jj]; omega))) only [Je, JH, MX.of]
  refine hQ _ w' (upd ρ 1 sv') (Loc.set ((((hl.tmp _ (by omega) (by omega)).tmp _ (by omega) (by omega)).tmp _ (by omega) (by omega)).tmp _ (by omega) (by omega)) _ (by omega)) ?_ ?_ h3
  ·intro s hs h0 _; exact Jb _ _ h0
  ·rw [Ja]; exact h2
theorem JB.loopA {α : Type} {ti ty e v t b n c : Nat} {p : Option Addr} {body : Nat → Nat → List Jc × Nat × Nat × Nat} (xs : List α) (f : α → List UInt8)
  (hv : v < L) (hv1 : v ≠ 1) (hx1 : 1 < x) (hxL : x < L) (hxx : x < x') (hxL' : x' ≤ L) (ht : L ≤ t) (hN : (Kx.loopA ti ty v x t b body).2.1 ≤ N) (hm : t + 5 ≤ (body (t + 5) (b + 2)).2.1)
  (hs : Jk P ty e = true) (hρ : ρ v = .slice p n c) (hn : n = xs.length) (hn2 : n < 9223372036854775807)
  (hb : ∀ (i : Nat) d, xs[i]? = some d → ∀ ρ' w', Keep L x x' ρ ρ' → Below B w w' → ρ' x = .int .i64 (i : Nat) → JK P U B N (t + 3) (body (t + 5) (b + 2)).1 ρ' w' (x + 1) x' (f d)) :
  JB P U B N L (Kx.loopA ti ty v x t b body).1 ρ w x x' (xs.flatMap f) := by
 simp only [Kx.loopA] at hN ⊢
 generalize hr : body (t + 5) (b + 2) = r at *
 intro a bs Q hl ho hlim hQ
 have hsz := hl.size
 refine MW.sq (MW.rg (ML.mv (ML.ln hs (p := p) (n := n) (c := c) ?_ (ML.mv (ML.nil ?_)))))
 ·simp (disch := (first | omega | (simp only [Jj]; omega))) only [Je, JH, MX.of]
  rw [hl.get v hv, hρ]
 have hl3 := ((hl.tmp ((MX.t v).of a) ht (by omega)).tmp (.int .i64 n) (show L ≤ t + 1 by omega) (by omega)).tmp ((MX.c (.int .i64 0)).of (wr (wr a t ((MX.t v).of a)) (t + 1) (.int .i64 n))) (show L ≤ t + 2 by omega) (by omega)
 obtain ⟨ρ0, hl0, he0, hr0⟩ := hl3.all (t + 3)
 refine MW.bl (MW.lp
  (fun a' w' => ∃ i ρ', i ≤ n ∧ Loc N (t + 3) ρ' a' ∧ Keep L x x' ρ ρ' ∧ ρ' (t + 1) = .int .i64 n ∧ ρ' (t + 2) = .int .i64 (i : Nat) ∧ OwnB U w' B (ρ' 1) (bs ++ (xs.take i).flatMap f) ∧ Below B w w')
  (fun a' _ => n - (intOf (rd a' (t + 2))).toNat) ?_ ?_)
 ·refine ⟨0, ρ0, by omega, hl0, fun s hs _ _ => he0 s hs, ?_, ?_, ?_, Below.refl _ _⟩
  ·rw [hr0]; simp (disch := (first | omega | (simp only [Jj]; omega))) only [Je, JH]
  ·rw [hr0]; simp (disch := (first | omega | (simp only [Jj]; omega))) only [Je, JH]; rfl
  ·rw [he0 1 (by omega)]; simpa using ho
 ·rintro a1 w1 ⟨i, ρ1, hi, h1, h2, h3, h4, h5, h6⟩
  have hsz1 := h1.size
  have g2 : rd a1 (t + 2) = .int .i64 (i : Nat) := by rw [h1.get _ (by omega), h4]
  have g1 : rd a1 (t + 1) = .int .i64 n := by rw [h1.get _ (by omega), h3]
  refine MW.sq (MW.rg (ML.biInt (k := .i64) (m := i) (n := n) (v := .bool (decide ((i : Int) < n))) g2 g1 (run_cmp_lss _ _ _ _) (ML.nil ?_)))
  have h1' : Loc N (t + 3) ρ1 (wr a1 (t + 3) (.bool (decide ((i : Int) < n)))) := h1.tmp _ (by omega) (by omega)
  refine MW.sq (MW.cd (b := decide ((i : Int) < n)) (Je (by omega)) (fun e => ?_) (fun e => ?_))
  ·have hlt : i < n := by simpa using e
   obtain ⟨d, hd⟩ : ∃ d, xs[i]? = some d := ⟨xs[i], by rw [List.getElem?_eq_getElem]⟩
   refine MW.sk ?_
   refine MW.sq (MW.bl ?_)
   have hset : Sets P N (t + 3) (.rg [.mv (t + 4) (.t (t + 2)), .mv x (.t (t + 4))]) ρ1 w1 x (.int .i64 (i : Nat)) := by
    intro a2 Q2 hl2 hQ2
    have hsz2 := hl2.size
    refine MW.rg (ML.mv (ML.mv (ML.nil ?_)))
    simp (disch := (first | omega | (simp only [Jj]; omega))) only [Je, JH, MX.of]
    rw [hl2.get (t + 2) (by omega), h4]
    exact hQ2 _ (Loc.set (hl2.tmp _ (by omega) (by omega)) _ (by omega))
   have hkeep : Keep L x x' ρ (upd ρ1 x (.int .i64 (i : Nat))) := by
    intro s hs h0 h7
    by_cases e : s = x
    ·omega
    ·rw [Jb _ _ e]; exact h2 s hs h0 h7
   have hbody := hb i d hd (upd ρ1 x (.int .i64 (i : Nat))) w1 hkeep h6 (Ja _ _ _)
   have hxs : (xs.take (i + 1)).flatMap f = (xs.take i).flatMap f ++ f d := by
    have : xs.take (i + 1) = xs.take i ++ [d] := by rw [List.take_add_one, hd]; rfl
    rw [this]; simp
   have hlen : ((xs.take (i + 1)).flatMap f).length ≤ (xs.flatMap f).length := by
    have hspl : xs.flatMap f = (xs.take (i + 1)).flatMap f ++ (xs.drop (i + 1)).flatMap f := by rw [← List.flatMap_append, List.take_append_drop]
    rw [hspl, UD]; omega
   have hw : JB P U B N (t + 3) (rows (.rg [.mv (t + 4) (.t (t + 2)), .mv x (.t (t + 4))] :: r.1)) ρ1 w1 x x' (f d) := by
    cases hr1 : r.1 with
    | nil =>
     rw [hr1] at hbody
     obtain ⟨hfd, hxe⟩ := hbody
     intro a2 bs2 Q2 hl2 ho2 hlim2 hQ2
     refine hset a2 Q2 hl2 ?_
     intro a3 hl3
     refine hQ2 a3 w1 _ hl3 ?_ ?_ (Below.refl _ _)
     ·intro s hs h0 h7; exact Jb _ _ (by omega)
     ·rw [Jb _ _ (by omega), hfd]; simpa using ho2
    | cons c1 cs1 =>
     rw [hr1] at hbody
     exact Sets.then hset (by omega) hbody.rows hbody.le
   rw [hxs] at hlen
   simp only [UD] at hlen
   refine hw _ (bs ++ (xs.take i).flatMap f) _ h1' h5 (by simp only [UD]; omega) ?_
   intro a2 w2 ρ2 k1 k2 k3 k4
   have hsz2 := k1.size
   have q2 : rd a2 (t + 2) = .int .i64 (i : Nat) := by rw [k1.get _ (by omega), k2 _ (by omega) (by omega) (by omega), h4]
   show MW P _ _ a2 w2
   refine MW.rg (ML.biInt (k := .i64) (m := i) (n := 1) (v := .int .i64 ((i + 1 : Nat) : Int)) q2 rfl ?_ (ML.mv (ML.nil ?_)))
   ·rw [run_sum, Ju (by omega) (by omega)]; rfl
   ·simp (disch := (first | omega | (simp only [Jj]; omega))) only [Je, JH, MX.of]
    refine ⟨⟨i + 1, upd ρ2 (t + 2) (.int .i64 ((i + 1 : Nat) : Int)), by omega, Loc.set (k1.tmp _ (by omega) (by omega)) _ (by omega), ?_, ?_, Ja _ _ _, ?_, h6.trans k4⟩, ?_⟩
    ·intro s hs h0 h7
     rw [Jb _ _ (by omega), k2 s (by omega) h0 h7, h2 s hs h0 h7]
    ·rw [Jb _ _ (by omega), k2 _ (by omega) (by omega) (by omega), h3]
    ·rw [Jb _ _ (by omega), hxs]; simpa using k3
    ·simp (disch := (first | omega | (simp only [Jj]; omega))) only [Je, JH, MX.of]
     rw [g2]
     simp [intOf]; omega
  ·have hge : i = n := by
    have : ¬ (i : Int) < n := by simpa using e
    omega
   refine MW.ex ?_
   show (if b = b then _ else _)
   rw [if_pos rfl]
   subst hge
   refine hQ _ w1 ρ1 (h1'.less (by omega)) h2 ?_ h6
   rw [show xs.take i = xs by rw [List.take_of_length_le (by omega)]] at h5
   exact h5
end
section
variable {P : Program} {Q : Exit → Act → World → Prop} {a : Act} {w : World}
theorem run_mv {d : Nat} {x : MX} {o : Oper} (h : Jf (.mv d x) o.dst o.op = true) : o.dst = some d ∧ (execOp a.eval o).run P w = .ok (.value (x.of a)) w := by
 generalize hop : o.op = op at h
 unfold execOp
 cases op <;> simp only [Jf, UA, UB] at h
 all_goals exact ⟨Jl h.1, by simp only [hop, MX.is_eval h.2 a]; rfl⟩
theorem run_biInt {d ty : Nat} {op : BinOp} {x y : MX} {k : IntKind} {m n : Int} {v : Value} {o : Oper} (h : Jf (.bi d op ty x y) o.dst o.op = true)
  (hx : x.of a = .int k m) (hy : y.of a = .int k n) (hv : (binOp op ty (.int k m) (.int k n)).run P w = .ok v w) :
  o.dst = some d ∧ (execOp a.eval o).run P w = .ok (.value v) w := by
 generalize hop : o.op = op' at h
 unfold execOp
 cases op' <;> simp only [Jf, UA, UB, Nat.beq_eq] at h
 obtain ⟨⟨⟨⟨⟨h1, h2⟩, h3⟩, h4⟩, h5⟩, _⟩ := h
 have h2' := sameOp_eq h2
 subst h2' h3
 exact ⟨Jl h1, by simp only [hop, MX.is_eval h4 a, MX.is_eval h5 a, hx, hy, Sem.run_bind, eqGuard_num, hv, Result.andThen_ok, Sem.run_pure]⟩
theorem Qv {ops : Array Oper} {o : Oper} {rest : List Oper} {d : Nat} {v : Value} (hw : Region.wanted o (yielded ops a.tmps) = true) (hd : o.dst = some d)
  (hr : (execOp a.eval o).run P w = .ok (.value v) w) (h : wpList P ops Q rest (wr a d v) w) : wpList P ops Q (o :: rest) a w := by
 unfold wpList
 rw [if_pos hw]
 refine .inl ?_
 unfold Oper.wp
 rw [hr, Oper.upon_value, hd]
 exact h
theorem wpList_passed {ops : Array Oper} {o : Oper} {rest : List Oper} {d : Nat} (hw : Region.wanted o (yielded ops a.tmps) = false) (hd : o.dst = some d)
  (h : wpList P ops Q rest (wr a d undef) w) : wpList P ops Q (o :: rest) a w := by
 unfold wpList
 rw [if_neg (by rw [hw]; exact Bool.false_ne_true), hd]
 exact h
theorem get_tmps {s : Nat} {v : Value} (h : rd a s = v) (hs : s < a.tmps.size) : a.tmps[s]? = some v := by
 unfold rd at h
 rw [Array.getElem?_eq_getElem hs]
 simp only [Array.getD, hs, dif_pos] at h
 rw [← h]; rfl
theorem MW.tw {N L s ty lo hi t : Nat} {ρ : Nat → Value} {v : Int} (hl : Loc N L ρ a) (hs : s < L) (hv : ρ s = .int .i16 v) (ht : L ≤ t) (hN : t + 6 ≤ N)
  (h : ∀ a', Loc N L ρ a' → rd a' (t + 5) = .bool (decide ((lo : Int) ≤ v) && decide (v ≤ hi)) → Q .normal a' w) : MW P (.tw s ty lo hi t) Q a w := by
 intro c hc
 cases c <;> try (simp only [fits, UB] at hc; done)
 rename_i id ops dr
 cases dr <;> simp only [fits, UB] at hc
 refine wp_region_list ?_
 obtain ⟨l⟩ := ops
 dsimp only at hc ⊢
 obtain ⟨o0, o1, o2, o3, o4, o5, rfl, h0', h1', h2', ⟨G3, h3⟩, ⟨G4, h4⟩, ⟨hg5, hd5, h5⟩⟩ := fitTw_inv hc
 clear hc
 have hsz := hl.size
 have hg : ∀ {m : MOp} {o : Oper}, Qs m o = true → o.guard = none ∧ Jf m o.dst o.op = true := by
  intro m o hh
  simpa only [Qs, UA, Option.isNone_iff_eq_none] using hh
 obtain ⟨hg0, h0⟩ := hg h0'
 obtain ⟨hg1, h1⟩ := hg h1'
 obtain ⟨hg2, h2⟩ := hg h2'
 have e0 := fun a => @run_mv P a w _ _ o0 h0
 have W0 : ∀ y, Region.wanted o0 y = true := fun y => by simp [Region.wanted, hg0]
 have W1 : ∀ y, Region.wanted o1 y = true := fun y => by simp [Region.wanted, hg1]
 have W2 : ∀ y, Region.wanted o2 y = true := fun y => by simp [Region.wanted, hg2]
 have W5 : ∀ y, Region.wanted o5 y = true := fun y => by simp [Region.wanted, hg5]
 refine Qv (W0 _) (e0 a).1 (e0 a).2 ?_
 have v0 : (MX.t s).of a = .int .i16 v := by simp only [MX.of]; rw [hl.get s hs, hv]
 rw [v0]
 obtain ⟨d1, r1⟩ := @run_biInt P (wr a t (.int .i16 v)) w (t + 1) ty .geq (.t t) (.c (.int .i16 lo)) .i16 v lo _ o1 h1 (Je (by omega)) rfl (run_cmp_geq _ _ _ _)
 refine Qv (W1 _) d1 r1 ?_
 obtain ⟨d2, r2⟩ := @run_mv P (wr (wr a t (.int .i16 v)) (t + 1) (.bool (decide ((lo : Int) ≤ v)))) w _ _ o2 h2
 refine Qv (W2 _) d2 r2 ?_
 rw [show (MX.t (t + 1)).of (wr (wr a t (.int .i16 v)) (t + 1) (.bool (decide ((lo : Int) ≤ v)))) = .bool (decide ((lo : Int) ≤ v)) from Je (by simp only [Jj]; omega)]
 generalize hA : wr (wr (wr a t (.int .i16 v)) (t + 1) (.bool (decide ((lo : Int) ≤ v)))) (t + 2) (.bool (decide ((lo : Int) ≤ v))) = A
 have hlA : Loc N L ρ A := by rw [← hA]; exact ((hl.tmp _ (by omega) (by omega)).tmp _ (by omega) (by omega)).tmp _ (by omega) (by omega)
 have hszA := hlA.size
 have hA2 : rd A (t + 2) = .bool (decide ((lo : Int) ≤ v)) := by
  rw [← hA]; simp (disch := (first | omega | (simp only [Jj]; omega))) only [Je, JH]
 have Y : ∀ A' : Act, rd A' (t + 2) = .bool (decide ((lo : Int) ≤ v)) → A'.tmps.size = N → yielded [o0, o1, o2, o3, o4, o5].toArray A'.tmps 2 = some (decide ((lo : Int) ≤ v)) := by
  intro A' h6 h7
  have := get_tmps h6 (by omega)
  simp [yielded, d2, this]
 have fin : ∀ A' : Act, Loc N L ρ A' → ∀ b, rd A' (t + 2) = .bool (decide ((lo : Int) ≤ v)) → (decide ((lo : Int) ≤ v) = true → rd A' (t + 4) = .bool b) → (b = decide (v ≤ hi)) → wpList P [o0, o1, o2, o3, o4, o5].toArray Q [o5] A' w := by
  intro A' hl' b h6 h7 hb
  have hsz' := hl'.size
  have hrun : (execOp A'.eval o5).run P w = .ok (.value (.bool (decide ((lo : Int) ≤ v) && decide (v ≤ hi)))) w := by
   obtain ⟨c', x', y', hop, k1, k2, k3⟩ := pickIs_eq h5
   unfold execOp
   have e1 : A'.eval c' = .bool (decide ((lo : Int) ≤ v)) := (MX.is_eval k1 A').trans h6
   simp only [hop, e1, asBool, Sem.run_bind, Sem.run_pure, Result.andThen_ok]
   cases hd : decide ((lo : Int) ≤ v)
   ·simp only [MX.is_eval k3 A', MX.of, MVal.val, UB, if_false, Bool.false_and]
   ·have e2 : A'.eval x' = .bool b := (MX.is_eval k2 A').trans (h7 hd)
    simp only [e2, hb, if_true, Bool.true_and]
  refine Qv (W5 _) hd5 hrun ?_
  exact h _ (hl'.tmp _ (by omega) (by omega)) (Je (by omega))
 have hd3 : o3.dst = some (t + 3) := (@run_mv P A w _ _ o3 h3).1
 have hd4 : o4.dst = some (t + 4) := by
  generalize hop : o4.op = op at h4
  cases op <;> simp only [Jf, UA, UB] at h4
  exact Jl h4.1.1.1.1.1
 cases hdec : decide ((lo : Int) ≤ v)
 ·rw [hdec] at hA2 Y
  refine wpList_passed ?_ hd3 (wpList_passed ?_ hd4 (fin _ ((hlA.tmp _ (by omega) (by omega)).tmp _ (by omega) (by omega)) _ ?_ ?_ rfl))
  ·simp only [Region.wanted, G3]; rw [Y A hA2 hszA]; rfl
  ·simp only [Region.wanted, G4]; rw [Y _ (by rw [JH (by omega)]; exact hA2) (by simpa using hszA)]; rfl
  ·simp (disch := (first | omega | (simp only [Jj]; omega))) only [Je, JH]; rw [hA2, hdec]
  ·rw [hdec]; intro hf; simp at hf
 ·rw [hdec] at hA2 Y
  have e3 := (@run_mv P A w _ _ o3 h3).2
  rw [show (MX.t s).of A = .int .i16 v from by simp only [MX.of]; rw [hlA.get s hs, hv]] at e3
  refine Qv ?_ hd3 e3 ?_
  ·simp only [Region.wanted, G3]; rw [Y A hA2 hszA]; rfl
  obtain ⟨_, e4⟩ := @run_biInt P (wr A (t + 3) (.int .i16 v)) w (t + 4) ty .leq (.t (t + 3)) (.c (.int .i16 hi)) .i16 v hi _ o4 h4 (Je (by omega)) rfl (run_cmp_leq _ _ _ _)
  refine Qv ?_ hd4 e4 (fin _ ((hlA.tmp _ (by omega) (by omega)).tmp _ (by omega) (by omega)) (decide (v ≤ (hi : Int))) ?_ ?_ rfl)
  ·simp only [Region.wanted, G4]; rw [Y _ (by rw [JH (by omega)]; exact hA2) (by simpa using hszA)]; rfl
  ·simp (disch := (first | omega | (simp only [Jj]; omega))) only [Je, JH]; rw [hA2, hdec]
  ·intro _; simp (disch := (first | omega | (simp only [Jj]; omega))) only [Je, JH]
end
section
variable {P : Program} {U B N L : Nat} {ρ : Nat → Value} {w : World} {x x' : Nat} {out : List UInt8}
theorem JB.condA {I : IA} {sver t : Nat} {c : Cnd} {body : Nat → Jc × Nat × Nat × Nat} {ver : Int} (hct : c.isTag = false) (hs : sver < L) (hv : ρ sver = .int .i16 ver) (ht : L ≤ t)
  (hx : ∀ t, (body t).2.2.1 = x') (hxx : x ≤ x') (hm : ∀ t, t ≤ (body t).2.1) (hN : (Kx.condA I sver c t body).2.1 ≤ N)
  (hb : c.ok ver = true → ∀ t, L ≤ t → (body t).2.1 ≤ N → JB P U B N L (body t).1 ρ w x x' out) :
  JB P U B N L (Kx.condA I sver c t body).1 ρ w x x' (if c.ok ver then out else []) := by
 cases c with
 | always => exact hb rfl t ht hN
 | ge lo =>
  simp only [Kx.condA] at hN ⊢
  have m1 := hm (t + 2)
  intro a bs Q hl ho hlim hQ
  have hsz := hl.size
  refine MW.sq (MW.rg (ML.mv (ML.biInt (k := .i16) (m := ver) (n := lo) (v := .bool (decide ((lo : Int) ≤ ver))) ?_ rfl (run_cmp_geq _ _ _ _) (ML.nil ?_))))
  ·simp (disch := (first | omega | (simp only [Jj]; omega))) only [Je, JH, MX.of]
   rw [hl.get sver hs, hv]
  have hl' := (hl.tmp ((MX.t sver).of a) ht (by omega)).tmp (.bool (decide ((lo : Int) ≤ ver))) (show L ≤ t + 1 by omega) (by omega)
  refine MW.cd (b := decide ((lo : Int) ≤ ver)) (Je (by simp only [Jj]; omega)) (fun e => ?_) (fun e => ?_)
  ·have hok : (Cnd.ge lo).ok ver = true := e
   rw [if_pos hok] at hlim hQ
   exact hb hok (t + 2) (by omega) hN _ bs Q hl' ho hlim hQ
  ·have hok : ¬ (Cnd.ge lo).ok ver = true := by simp [Cnd.ok, e]
   rw [if_neg hok] at hlim hQ
   exact JB.sk hxx _ bs Q hl' ho hlim hQ
 | btw lo hi =>
  simp only [Kx.condA] at hN ⊢
  have m1 := hm (t + 6)
  intro a bs Q hl ho hlim hQ
  refine MW.sq (MW.tw hl hs hv ht (by omega) ?_)
  intro a1 hl1 h5
  refine MW.cd (b := decide ((lo : Int) ≤ ver) && decide (ver ≤ hi)) h5 (fun e => ?_) (fun e => ?_)
  ·have hok : (Cnd.btw lo hi).ok ver = true := e
   rw [if_pos hok] at hlim hQ
   exact hb hok (t + 6) (by omega) hN _ bs Q hl1 ho hlim hQ
  ·have hok : ¬ (Cnd.btw lo hi).ok ver = true := by simp only [Cnd.ok, e]; simp
   rw [if_neg hok] at hlim hQ
   exact JB.sk hxx _ bs Q hl1 ho hlim hQ
 | tag => cases hct
def TlenC (P : Program) (f : Nat) : Prop :=
 Jo P f = true ∧ ∀ (w : World) (B : Nat) (p : Addr) (m : Value) (tags : List (Nat × List UInt8)), RepT w (· < B) m tags → w.cell? p = some m →
  Calls P f #[.pointer (some p)] w (fun e w' => e = .returned (.int .i64 tags.length) ∧ w' = w)
def smallT (tags : List (Nat × List UInt8)) : Prop := tags.length ≤ 40000 ∧ ∀ t ∈ tags, t.2.length ≤ 32767
def TeachC (P : Program) (U f : Nat) (S : List (Nat × List UInt8) → Prop) : Prop :=
 Jo P f = true ∧ ∀ (w : World) (B : Nat) (p : Addr) (m sv : Value) (tags : List (Nat × List UInt8)) (bs : List UInt8), B ≤ w.heap.size → p.block < B → OwnB U w B sv bs →
  RepT w (· < B) m tags → S tags → w.cell? p = some m → bs.length + (tags.flatMap Jt).length ≤ lim →
  Calls P f #[.pointer (some p), sv] w (fun e w' => ∃ sv', e = .returned sv' ∧ OwnB U w' B sv' (bs ++ tags.flatMap Jt) ∧ Below B w w')
def UvarC (P : Program) (U f : Nat) : Prop := ApC P U f (fun _ _ x out => ∃ n : Nat, n < 4294967296 ∧ x = .int .u32 n ∧ out = uv n)
theorem JK.tagsA {I : IA} {sf : Option Nat} {T vs t x0 b0 b o : Nat} {tg : Option TgF} (hkn : ∀ q, tg = some q → q.1.2 = []) {flex : Bool} {m : Value} {tags : List (Nat × List UInt8)} {S : List (Nat × List UInt8) → Prop}
  (hs : ∀ s, sf = some s → s < L ∧ ρ s = .bool flex) (hn : sf = none → flex = false) (ht : L ≤ t) (hN : (Kx.tagsA I sf T vs tg t x0 b0).2.1 ≤ N) (h1L : 1 < L) (hvs : vs < L) (hvs1 : vs ≠ 1)
  (hp : ρ vs = .pointer (some ⟨b, o, none⟩)) (hbB : b < B) (hB : B ≤ w.heap.size)
  (hlen : TlenC P I.tlen) (heach : TeachC P U I.teach S) (huv : UvarC P U I.uvar) (hi1 : JC P I.tInt .i64 = true) (hi2 : JC P I.tU32 .u32 = true)
  (htg : ∀ i kn off, tg = some ((i, kn), off) → Jd P T i off = true ∧ w.cell? ⟨b, o + off, none⟩ = some m ∧ RepT w (· < B) m tags ∧ smallT tags ∧ S tags) :
  JK P U B N L (Kx.tagsA I sf T vs tg t x0 b0).1 ρ w x x (if tg.isSome && flex then Jz tags else []) := by
 cases tg with
 | none => exact ⟨rfl, rfl⟩
 | some p =>
  obtain ⟨⟨i, kn⟩, off⟩ := p
  obtain rfl : kn = [] := hkn _ rfl
  cases sf with
  | none => simp only [Kx.tagsA, hn rfl]; exact ⟨rfl, rfl⟩
  | some s =>
   obtain ⟨hsL, hsv⟩ := hs s rfl
   obtain ⟨hf, hc, hrep, hsm, hS⟩ := htg i [] off rfl
   simp only [Kx.tagsA] at hN ⊢
   refine .inl ⟨_, [], x, (List.append_nil _).symm, Nat.le_refl _, Nat.le_refl _, ?_, fun _ _ _ _ => ⟨rfl, rfl⟩⟩
   intro a bs Q hl ho hlim hQ
   have hsz := hl.size
   simp only [Option.isSome_some, Bool.true_and] at hlim hQ
   refine MW.sq (MW.rg (ML.mv (ML.nil ?_)))
   simp only [MX.of]
   rw [hl.get s hsL, hsv]
   have hl0 : Loc N L ρ (wr a t (.bool flex)) := hl.tmp _ ht (by omega)
   refine MW.cd (b := flex) (Je (by omega)) (fun e => ?_) (fun e => ?_)
   ·subst e
    rw [if_pos rfl] at hlim hQ
    simp only [Jz, UD] at hlim
    generalize wr a t (.bool true) = a0 at hl0
    have hsz0 := hl0.size
    have hcount : tags.length ≤ 40000 := hsm.1
    refine MW.sq (MW.rg (ML.mv (ML.mv (ML.nc (p := ⟨b, o, none⟩) ?_ (ML.fa (b := b) (o := o) (off := off) ?_ hf (ML.ca (R := fun v w' => v = .int .i64 tags.length ∧ w' = w) hlen.1 ?_ ?_))))))
    ·simp (disch := (first | omega | (simp only [Jj]; omega))) only [Je, JH, MX.of]
     rw [hl0.get vs hvs, hp]
    ·simp (disch := (first | omega | (simp only [Jj]; omega))) only [Je, JH, MX.of]
    ·simp (disch := (first | omega | (simp only [Jj]; omega))) only [Je, JH, MX.of, List.map_cons, List.map_nil]
     refine (hlen.2 w B ⟨b, o + off, none⟩ m tags hrep hc).mono ?_
     rintro e w' ⟨rfl, rfl⟩
     exact ⟨_, rfl, rfl, rfl⟩
    ·rintro v w' ⟨rfl, rfl⟩
     refine ML.cv (v := .int .u32 tags.length) ?_ (ML.biInt (k := .u32) (m := 0) (n := tags.length) (v := .int .u32 tags.length) rfl ?_ ?_ (ML.ca (R := fun sv' w1 => OwnB U w1 B sv' (bs ++ uv tags.length) ∧ Below B w' w1) huv.1 ?_ ?_))
     ·simp (disch := (first | omega | (simp only [Jj]; omega))) only [Je, JH, MX.of]
      rw [Qe hi1 hi2, Qx (by omega) (by omega)]
     ·simp (disch := (first | omega | (simp only [Jj]; omega))) only [Je, JH, MX.of]
     ·rw [run_sum, Int.zero_add, Qx (by omega) (by omega)]
     ·simp (disch := (first | omega | (simp only [Jj]; omega))) only [Je, JH, MX.of, List.map_cons, List.map_nil]
      rw [hl0.get 1 h1L]
      refine (huv.2 w' B (ρ 1) _ bs (uv tags.length) hB ho ⟨tags.length, by omega, rfl, rfl⟩ (by omega)).mono ?_
      rintro e w1 ⟨sv', rfl, h2⟩
      exact ⟨sv', rfl, h2⟩
     ·rintro sv' w1 ⟨h2, h3⟩
      refine ML.mv (ML.nil ?_)
      simp (disch := (first | omega | (simp only [Jj]; omega))) only [Je, JH, MX.of]
      have hl1 : Loc N L (upd ρ 1 sv') (wr (wr (wr (wr (wr (wr (wr (wr (wr a0 (t + 1) (rd a0 1)) (t + 2) (rd a0 vs)) (t + 3) (Value.pointer (some { block := b, off := o }))) (t + 4) (Value.pointer (some { block := b, off := o + off }))) (t + 5) (Value.int IntKind.i64 ↑tags.length)) (t + 6) (Value.int IntKind.u32 ↑tags.length)) (t + 7) (Value.int IntKind.u32 ↑tags.length)) (t + 8) sv') 1 sv') :=
       Loc.set ((((((((hl0.tmp _ (by omega) (by omega)).tmp _ (by omega) (by omega)).tmp _ (by omega) (by omega)).tmp _ (by omega) (by omega)).tmp _ (by omega) (by omega)).tmp _ (by omega) (by omega)).tmp _ (by omega) (by omega)).tmp _ (by omega) (by omega)) _ (by omega)
      revert hl1
      generalize (wr (wr (wr (wr (wr (wr (wr (wr (wr a0 (t + 1) (rd a0 1)) (t + 2) (rd a0 vs)) (t + 3) (Value.pointer (some { block := b, off := o }))) (t + 4) (Value.pointer (some { block := b, off := o + off }))) (t + 5) (Value.int IntKind.i64 ↑tags.length)) (t + 6) (Value.int IntKind.u32 ↑tags.length)) (t + 7) (Value.int IntKind.u32 ↑tags.length)) (t + 8) sv') 1 sv') = a1
      intro hl1
      have hsz1 := hl1.size
      have hkeep : ∀ b, b < B → w1.heap[b]? = w'.heap[b]? := fun b hb => h3.block b hb
      show MW P _ Q a1 w1
      refine MW.rg (ML.mv (ML.nc (p := ⟨b, o, none⟩) ?_ (ML.fa (b := b) (o := o) (off := off) ?_ hf (ML.mv (ML.ca (R := fun sv2 w2 => OwnB U w2 B sv2 ((bs ++ uv tags.length) ++ tags.flatMap Jt) ∧ Below B w1 w2) heach.1 ?_ ?_)))))
      ·simp (disch := (first | omega | (simp only [Jj]; omega))) only [Je, JH, MX.of]
       rw [hl1.get vs hvs, Jb _ _ hvs1, hp]
      ·simp (disch := (first | omega | (simp only [Jj]; omega))) only [Je, JH, MX.of]
      ·simp (disch := (first | omega | (simp only [Jj]; omega))) only [Je, JH, MX.of, List.map_cons, List.map_nil]
       rw [hl1.get 1 h1L, Ja]
       refine (heach.2 w1 B ⟨b, o + off, none⟩ m sv' tags (bs ++ uv tags.length) (Nat.le_trans hB h3.size) hbB h2 (hrep.mono (fun _ h => h) hkeep) hS ?_ ?_).mono ?_
       ·rw [Ji (hkeep b hbB)]; exact hc
       ·simp only [UD]; omega
       ·rintro e w2 ⟨sv2, rfl, h4⟩
        exact ⟨sv2, rfl, h4⟩
      ·rintro sv2 w2 ⟨h4, h5⟩
       refine ML.mv (ML.nil ?_)
       simp (disch := (first | omega | (simp only [Jj]; omega))) only [Je, JH, MX.of]
       refine hQ _ w2 (upd (upd ρ 1 sv') 1 sv2) (Loc.set (((((hl1.tmp _ (by omega) (by omega)).tmp _ (by omega) (by omega)).tmp _ (by omega) (by omega)).tmp _ (by omega) (by omega)).tmp _ (by omega) (by omega)) _ (by omega)) ?_ ?_ (h3.trans h5)
       ·intro s hs h0 _
        rw [Jb _ _ h0, Jb _ _ h0]
       ·rw [Ja, Jz, ← List.append_assoc]; exact h4
   ·subst e
    rw [if_neg (by simp)] at hlim hQ
    exact JB.sk (Nat.le_refl _) _ bs Q hl0 ho hlim hQ
def NLenC (P : Program) (U f : Nat) (flex : Bool) : Prop :=
 Jo P f = true ∧ ∀ (w : World) (B : Nat) (sv : Value) (bs : List UInt8) (n : Nat) (isnil : Bool), B ≤ w.heap.size → OwnB U w B sv bs → n ≤ 32767 →
  bs.length + (if isnil then J9 flex 4 else cnt flex 4 n).length ≤ lim →
  Calls P f #[sv, .int .i64 n, .bool isnil] w (fun e w' => ∃ sv', e = .returned sv' ∧ OwnB U w' B sv' (bs ++ (if isnil then J9 flex 4 else cnt flex 4 n)) ∧ Below B w w')
end
end Go.Kx
