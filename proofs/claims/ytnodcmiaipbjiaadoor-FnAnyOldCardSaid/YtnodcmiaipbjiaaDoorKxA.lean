/- A small form of code (operations without places, types and edges), a test that code of the program fits it, and the rules by which it is walked. No condition on the program.
   The rules of the small form, one for each operation. No condition on the program beyond those that a rule names.
   Code of the small form: sequences, tests, blocks, loops; its walk; the frame told slot by slot. No condition on the program.
   The plan of a message (fields in order, versions, places in memory), what it says (D), how that is written (enc), and how it lies in memory (Rep). Plain definitions, and that what lies in memory stays where memory stays.
   The code of AppendTo of a plan, in the small form; the contracts of what it calls. Definitions alone.
   Statements that write: what it means, and how they are put together. The bound on what is written: fewer than 2^40 octets.
   Statements that write: lengths, loops, tags, tests of versions. The bound on what is written: fewer than 2^40 octets.
   Statements that write: tags, tests of versions. The bound on what is written: fewer than 2^40 octets.
   The slots that the code of AppendTo takes rise. Plain facts on numbers.
   Functions whose frame is known whole: an evaluator of operations on numbers; making and appending small slices; entering and returning. No condition on the program beyond those named.
   Small slices that are made, and appended; a leaf's entry and return. No condition on the program beyond those named.
   kbin's functions that append a number: AppendInt8, Uint16, Int16, Uint32, Int32, Uint64, Int64, Bool. Each writes the number's octets, the highest first. Conditions: the program's tables (TOK), fewer than 2^40 octets.
   kbin's functions that append: the lengths, numbers in groups of seven bits, and what converts and calls. Conditions: the program's tables (TOK), fewer than 2^40 octets.
   kbin.UvarintLen and kbin.AppendUvarint: a number below 2^32 in groups of seven bits. Conditions: the program's tables (TOK), fewer than 2^40 octets.
   kbin's other functions that append: lengths, texts, octets, null or not; they call those of Kx15 and Kx17. Conditions: the program's tables (TOK), fewer than 2^40 octets, lengths of at most 32767. -/
import Derived.WalkKit
import Derived.Below
import Derived.Deep.MidRow
import Derived.Laws.Slices
import Derived.WalkSpells
import Derived.Orders
import Derived.OrdersHeld
import Derived.ScopeJumps
import Derived.MapKept
import Derived.MapFrom
import Derived.Lib.AppendStr
import Derived.Laws.OwnMore
import Derived.KernelRfl
namespace Go.Kx
open Go.RowKit
inductive MVal where
  | int (k : IntKind) (n : Int)
  | bool (b : Bool)
  | nslice
  | estr
  | niface
  | nptr
  | nmap
  | flt
def MVal.val : MVal → Value
  | .int k n => .int k n
  | .bool b => .bool b
  | .nslice => .slice none 0 0
  | .estr => .string ⟨#[]⟩
  | .niface => .nilIface
  | .nptr => .pointer none
  | .nmap => .map none
  | .flt => .float .f64 0
def sameInt : Int → Int → Bool
  | .ofNat a, .ofNat b => Nat.beq a b
  | .negSucc a, .negSucc b => Nat.beq a b
  | _, _ => false
theorem sameInt_eq {a b : Int} (h : sameInt a b = true) : a = b := by
  cases a <;> cases b <;> simp_all [sameInt]
def sameKind : IntKind → IntKind → Bool
  | .i8, .i8 | .i16, .i16 | .i32, .i32 | .i64, .i64 | .u8, .u8 | .u16, .u16 | .u32, .u32 | .u64, .u64 => true
  | _, _ => false
theorem sameKind_eq {a b : IntKind} (h : sameKind a b = true) : a = b := by
  cases a <;> cases b <;> simp_all [sameKind]
def MVal.is : MVal → Value → Bool
  | .int k n, .int k' n' => sameKind k k' && sameInt n n'
  | .bool b, .bool b' => b == b'
  | .nslice, .slice none a b => Nat.beq a 0 && Nat.beq b 0
  | .estr, .string s => s.data.toList.isEmpty
  | .niface, .nilIface => true
  | .nptr, .pointer none => true
  | .nmap, .map none => true
  | .flt, .float .f64 n => Nat.beq n 0
  | _, _ => false
theorem MVal.is_eq {m : MVal} {v : Value} (h : m.is v = true) : v = m.val := by
  cases m with
  | int k n =>
    cases v <;> simp only [MVal.is, Bool.and_eq_true, Bool.false_eq_true] at h
    rw [sameKind_eq h.1, sameInt_eq h.2]; rfl
  | bool b => cases v <;> simp_all [MVal.is, MVal.val]
  | nslice =>
    cases v with
    | slice a n c => cases a <;> simp_all [MVal.is, MVal.val]
    | _ => simp [MVal.is] at h
  | estr =>
    cases v with
    | string s =>
      obtain ⟨d⟩ := s
      simp only [MVal.is, List.isEmpty_iff, Array.toList_eq_nil_iff] at h
      subst h; rfl
    | _ => simp [MVal.is] at h
  | niface => cases v <;> simp_all [MVal.is, MVal.val]
  | nptr =>
    cases v with
    | pointer a => cases a <;> simp_all [MVal.is, MVal.val]
    | _ => simp [MVal.is] at h
  | nmap =>
    cases v with
    | map r => cases r <;> simp_all [MVal.is, MVal.val]
    | _ => simp [MVal.is] at h
  | flt =>
    cases v with
    | float k n => cases k <;> simp_all [MVal.is, MVal.val]
    | _ => simp [MVal.is] at h
inductive MX where
  | t (s : Nat)
  | c (v : MVal)
def MX.is : MX → Operand → Bool
  | .t s, .tmp s' => Nat.beq s s'
  | .c m, .const v => m.is v
  | _, _ => false
def rd (a : Act) (s : Nat) : Value := a.tmps.getD s undef
def wr (a : Act) (d : Nat) (v : Value) : Act := { a with tmps := a.tmps.setIfInBounds d v }
def MX.of (a : Act) : MX → Value
  | .t s => rd a s
  | .c m => m.val
theorem MX.is_eval {x : MX} {o : Operand} (h : x.is o = true) (a : Act) : a.eval o = x.of a := by
  cases x <;> cases o <;> simp [MX.is] at h
  · subst h; rfl
  · rw [MVal.is_eq h]; rfl
def allX : List MX → List Operand → Bool
  | [], [] => true
  | x :: xs, o :: os => x.is o && allX xs os
  | _, _ => false
theorem allX_eval {xs : List MX} {os : List Operand} (h : allX xs os = true) (a : Act) : os.map a.eval = xs.map (MX.of a) := by
  induction xs generalizing os with
  | nil => cases os <;> simp_all [allX]
  | cons x xs ih =>
    cases os with
    | nil => simp [allX] at h
    | cons o os =>
      simp only [allX, Bool.and_eq_true] at h
      simp [MX.is_eval h.1 a, ih h.2]
def sameOp : BinOp → BinOp → Bool
  | .add, .add | .geq, .geq | .leq, .leq | .lss, .lss | .gtr, .gtr | .eql, .eql | .neq, .neq => true
  | .sub, .sub | .mul, .mul | .rem, .rem | .and, .and | .or, .or | .xor, .xor | .shl, .shl | .shr, .shr => true
  | _, _ => false
theorem sameOp_eq {a b : BinOp} (h : sameOp a b = true) : a = b := by
  cases a <;> cases b <;> first | rfl | simp [sameOp] at h
inductive MOp where
  | mv (d : Nat) (x : MX)
  | nc (d s : Nat)
  | fa (d T s f : Nat)
  | ld (d ty s : Nat)
  | st (ty p v : Nat)
  | bi (d : Nat) (op : BinOp) (ty : Nat) (x y : MX)
  | nt (d s : Nat)
  | cv (d src dst s : Nat)
  | ca (d f : Nat) (xs : List MX)
  | ln (d ty s : Nat)
  | ap (d T U x y : Nat)
  | ia (d T x i : Nat)
  | s0 (d T x : Nat)
  | al (d T : Nat)
  | bd (d T s : Nat)
  | bs (d T : Nat)
  | b2 (d : Nat) (op : BinOp) (x y : MX)
  | bsl (d T : Nat) (xs : List MX)
  | ix (d T : Nat) (s : List Nat) (x : Nat)
  | sl (d T x : Nat) (lo hi mx : Option MX)
  | lg (d ty g : Nat)
  | bx (d T s : Nat)
  | fl (d T s f : Nat)
  | mk (d T : Nat) (n c : MX)
  | cp (d T U x y : Nat)
  | mn (d : Nat) (x y : MX)
  | mxi (d : Nat) (x y : MX)
  | bdl (d T : Nat) (ps : List (Nat × MX))
  | ext (d s i : Nat)
  | pk (d : Nat) (c x y : MX)
  | mf (d f s : Nat)
  | stc (ty p : Nat) (v : MVal)
  | iak (d T x i : Nat)
  | mkm (d T : Nat)
  | mpu (T m k v : Nat)
  | rng (d T x : Nat)
  | nxt (d it : Nat)
  | ent (d it : Nat)
  | lku (d T m k : Nat)
  | mki (d T x : Nat)
  | cav (d f : Nat) (xs : List MX)
  | apk (d T U y : Nat)
  | mvf (d f : Nat)
  | cpl (d ty s : Nat)
  | ng (d s : Nat)
def fitStr : List Nat → List UInt8 → Bool
  | [], [] => true
  | a :: asx, b :: bs => Nat.beq a b.toNat && fitStr asx bs
  | _, _ => false
def fitParts : Nat → List MX → List (Nat × Operand) → Bool
  | _, [], [] => true
  | i, x :: xs, (j, o) :: os => Nat.beq i j && x.is o && fitParts (i + 1) xs os
  | _, _, _ => false
def fitPairs : List (Nat × MX) → List (Nat × Operand) → Bool
  | [], [] => true
  | (i, x) :: xs, (j, o) :: os => Nat.beq i j && x.is o && fitPairs xs os
  | _, _ => false
def fitOpt : Option MX → Option Operand → Bool
  | none, none => true
  | some x, some o => x.is o
  | _, _ => false
def dstIs (d : Nat) : Option Nat → Bool
  | some d' => Nat.beq d d'
  | none => false
theorem dstIs_eq {d : Nat} {o : Option Nat} (h : dstIs d o = true) : o = some d := by
  cases o <;> simp_all [dstIs]
def tmpIs (s : Nat) : Operand → Bool
  | .tmp s' => Nat.beq s s'
  | _ => false
theorem tmpIs_eq {s : Nat} {o : Operand} (h : tmpIs s o = true) : o = .tmp s := by
  cases o <;> simp_all [tmpIs]
def fitOp : MOp → Option Nat → Op → Bool
  | .mv d x, o, .move y => dstIs d o && x.is y
  | .mv d x, o, .assign y => dstIs d o && x.is y
  | .nc d s, o, .nilCheck y => dstIs d o && tmpIs s y
  | .fa d T s f, o, .fieldAddr T' y f' => dstIs d o && Nat.beq T T' && tmpIs s y && Nat.beq f f'
  | .ld d ty s, o, .load ty' y => dstIs d o && Nat.beq ty ty' && tmpIs s y
  | .st ty p v, none, .store ty' x y => Nat.beq ty ty' && tmpIs p x && tmpIs v y
  | .stc ty p m, none, .store ty' x (.const v) => Nat.beq ty ty' && tmpIs p x && m.is v
  | .bi d op ty x y, o, .binOp op' ty' x' y' ty2 => dstIs d o && sameOp op op' && Nat.beq ty ty' && x.is x' && y.is y' && Nat.beq ty ty2
  | .nt d s, o, .unOp .not _ y => dstIs d o && tmpIs s y
  | .cv d src dst s, o, .convert src' dst' y => dstIs d o && Nat.beq src src' && Nat.beq dst dst' && tmpIs s y
  | .ca d f xs, o, .call { callee := .value (.func f'), args, .. } => dstIs d o && Nat.beq f f' && allX xs args.toList
  | .ln d ty s, o, .call { callee := .builtin .len, args, argTypes } => dstIs d o && (match args.toList, argTypes.toList with | [y], [ty'] => tmpIs s y && Nat.beq ty ty' | _, _ => false)
  | .ap d T U x y, o, .call { callee := .builtin .append, args, argTypes } => dstIs d o && (match args.toList, argTypes.toList with | [x', y'], [T', U'] => tmpIs x x' && tmpIs y y' && Nat.beq T T' && Nat.beq U U' | _, _ => false)
  | .ia d T x i, o, .indexAddr T' x' i' => dstIs d o && Nat.beq T T' && tmpIs x x' && tmpIs i i'
  | .s0 d T x, o, .slice T' x' none (some (.const v)) none => dstIs d o && Nat.beq T T' && tmpIs x x' && (MVal.int .i64 0).is v
  | .al d T, o, .alloc T' => dstIs d o && Nat.beq T T'
  | .bd d T s, o, .build T' ps => dstIs d o && Nat.beq T T' && (match ps.toList with | [(i, x)] => Nat.beq i 0 && tmpIs s x | _ => false)
  | .bs d T, o, .buildSlice T' n ps => dstIs d o && Nat.beq T T' && Nat.beq n 0 && ps.toList.isEmpty
  | .b2 d op x y, o, .binOp op' _ x' y' _ => dstIs d o && sameOp op op' && x.is x' && y.is y'
  | .bsl d T xs, o, .buildSlice T' n ps => dstIs d o && Nat.beq T T' && Nat.beq n xs.length && fitParts 0 xs ps.toList
  | .ix d T s x, o, .index T' y x' => dstIs d o && Nat.beq T T' && tmpIs x x' && (match y with | .const (.string b) => fitStr s b.data.toList | _ => false)
  | .sl d T x lo hi mx, o, .slice T' x' lo' hi' mx' => dstIs d o && Nat.beq T T' && tmpIs x x' && fitOpt lo lo' && fitOpt hi hi' && fitOpt mx mx'
  | .lg d ty g, o, .load ty' (.global g') => dstIs d o && Nat.beq ty ty' && Nat.beq g g'
  | .bx d T s, o, .box T' s' => dstIs d o && Nat.beq T T' && tmpIs s s'
  | .fl d T s f, o, .field T' s' f' => dstIs d o && Nat.beq T T' && tmpIs s s' && Nat.beq f f'
  | .mk d T n c, o, .makeSlice T' n' c' => dstIs d o && Nat.beq T T' && n.is n' && c.is c'
  | .cp d T U x y, o, .call { callee := .builtin .copy, args, argTypes } => dstIs d o && (match args.toList, argTypes.toList with | [x', y'], [T', U'] => tmpIs x x' && tmpIs y y' && Nat.beq T T' && Nat.beq U U' | _, _ => false)
  | .mn d x y, o, .call { callee := .builtin .min, args, .. } => dstIs d o && (match args.toList with | [x', y'] => x.is x' && y.is y' | _ => false)
  | .mxi d x y, o, .call { callee := .builtin .max, args, .. } => dstIs d o && (match args.toList with | [x', y'] => x.is x' && y.is y' | _ => false)
  | .bdl d T ps, o, .build T' qs => dstIs d o && Nat.beq T T' && fitPairs ps qs.toList
  | .ext d s i, o, .extract s' i' => dstIs d o && tmpIs s s' && Nat.beq i i'
  | .mf d f s, o, .makeFunc (.func f') first captured => dstIs d o && Nat.beq f f' && first.toList.isEmpty && (match captured.toList with | [x] => tmpIs s x | _ => false)
  | .pk d c x y, o, .pick c' x' y' => dstIs d o && c.is c' && x.is x' && y.is y'
  | .iak d T x i, o, .indexAddr T' x' (.const v) => dstIs d o && Nat.beq T T' && tmpIs x x' && (MVal.int .i64 i).is v
  | .mkm d T, o, .makeMap T' none => dstIs d o && Nat.beq T T'
  | .mpu T m k v, none, .mapUpdate T' x y z => Nat.beq T T' && tmpIs m x && tmpIs k y && tmpIs v z
  | .rng d T x, o, .range T' x' => dstIs d o && Nat.beq T T' && tmpIs x x'
  | .nxt d it, o, .next x false => dstIs d o && tmpIs it x
  | .ent d it, o, .entry x => dstIs d o && tmpIs it x
  | .lku d T m k, o, .lookup T' x y false => dstIs d o && Nat.beq T T' && tmpIs m x && tmpIs k y
  | .mki d T x, o, .makeInterface T' x' => dstIs d o && Nat.beq T T' && tmpIs x x'
  | .cav d f xs, o, .call { callee := .value (.tmp f'), args, .. } => dstIs d o && Nat.beq f f' && allX xs args.toList
  | .apk d T U y, o, .call { callee := .builtin .append, args, argTypes } => dstIs d o && (match args.toList, argTypes.toList with | [x', y'], [T', U'] => (MX.c .nslice).is x' && tmpIs y y' && Nat.beq T T' && Nat.beq U U' | _, _ => false)
  | .mvf d f, o, .move (.func f') => dstIs d o && Nat.beq f f'
  | .mvf d f, o, .assign (.func f') => dstIs d o && Nat.beq f f'
  | .cpl d ty s, o, .call { callee := .builtin .cap, args, argTypes } => dstIs d o && (match args.toList, argTypes.toList with | [y], [ty'] => tmpIs s y && Nat.beq ty ty' | _, _ => false)
  | .ng d s, o, .unOp .neg _ y => dstIs d o && tmpIs s y
  | _, _, _ => false
def fitOper (m : MOp) (o : Oper) : Bool := o.guard.isNone && fitOp m o.dst o.op
def fitOps : List MOp → List Oper → Bool
  | [], [] => true
  | m :: ms, o :: os => fitOper m o && fitOps ms os
  | _, _ => false
def ML (P : Program) (ms : List MOp) (Q : Exit → Act → World → Prop) (a : Act) (w : World) : Prop :=
  ∀ (ops : Array Oper) (l : List Oper), fitOps ms l = true → wpList P ops Q l a w
section
variable {P : Program} {Q : Exit → Act → World → Prop} {a : Act} {w : World} {ms : List MOp}
theorem ML.nil (h : Q .normal a w) : ML P [] Q a w := by
  intro ops l hl
  cases l with
  | nil => exact h
  | cons => simp [fitOps] at hl
theorem ML.step {m : MOp} {d : Option Nat} {v : Value} {w' : World}
    (hrun : ∀ o : Oper, fitOper m o = true → o.dst = d ∧ ((execOp a.eval o).run P w = .ok (.value v) w' ∨ (v = undef ∧ (execOp a.eval o).run P w = .ok .skip w')))
    (h : ML P ms Q (match d with | some d => wr a d v | none => a) w') : ML P (m :: ms) Q a w := by
  intro ops l hl
  cases l with
  | nil => simp [fitOps] at hl
  | cons o os =>
    simp only [fitOps, Bool.and_eq_true] at hl
    obtain ⟨ho, hs⟩ := hl
    obtain ⟨hd, hr⟩ := hrun o ho
    have hg : o.guard = none := by
      simp only [fitOper, Bool.and_eq_true, Option.isNone_iff_eq_none] at ho; exact ho.1
    refine wpList_plain hg fun K hK => ?_
    have h1 := hK _ _ (h ops os hs)
    unfold Oper.wp
    rcases hr with hr | ⟨rfl, hr⟩
    · rw [hr, Oper.upon_value, hd]
      cases d <;> exact h1
    · rw [hr, Oper.upon_skip, hd]
      cases d <;> exact h1
theorem fitOper_op {m : MOp} {o : Oper} (h : fitOper m o = true) : fitOp m o.dst o.op = true := by
  simp only [fitOper, Bool.and_eq_true] at h; exact h.2
end
end Go.Kx
namespace Go.Kx
open Go.RowKit
set_option linter.unusedSimpArgs false
set_option linter.unusedVariables false
def entersB (P : Program) (f : Nat) : Bool :=
  match P.funcs[f]? with
  | some fn => !(fn.name == "runtime.NumGoroutine") && !fn.body.isNone
  | none => false
theorem run_callFunc_enter {P : Program} {f : Nat} (h : entersB P f = true) (args : Array Value) (w : World) :
    (callFunc f args).run P w = .ok (.enter f args) w := by
  unfold entersB at h
  cases hf : P.funcs[f]? with
  | none => simp [hf] at h
  | some fn =>
    simp only [hf, Bool.and_eq_true, Bool.not_eq_true'] at h
    have h1 : (fn.name == "runtime.NumGoroutine") = false := by simpa using h.1
    have h2 : fn.body.isNone = false := by simpa using h.2
    simp only [callFunc, Sem.run_bind, run_program, Result.andThen_ok, hf]
    simp [h1, h2]
def fieldAtB (P : Program) (T f off : Nat) : Bool :=
  match P.underlying T with
  | some (.struct fs) => match fs[f]? with
    | some fl => Nat.beq fl.offset off && (match P.info? fl.type with | some i => !(Nat.beq i.size 0) | none => false)
    | none => false
  | _ => false
theorem run_fieldAt {P : Program} {T f off : Nat} (h : fieldAtB P T f off = true) (b o : Nat) (w : World) :
    (Instr.fieldAt T (.pointer (some ⟨b, o, none⟩)) f).run P w = .ok (.pointer (some ⟨b, o + off, none⟩)) w := by
  unfold fieldAtB at h
  cases hu : P.underlying T with
  | none => simp [hu] at h
  | some d =>
    cases d with
    | struct fs =>
      cases hf : fs[f]? with
      | none => simp [hu, hf] at h
      | some fl =>
        cases hi : P.info? fl.type with
        | none => simp [hu, hf, hi] at h
        | some i =>
          simp only [hu, hf, hi, Bool.and_eq_true, Nat.beq_eq, Bool.not_eq_true'] at h
          have h2 : i.size ≠ 0 := by
            intro e; have := h.2; simp [e] at this
          have hoff := h.1
          simp only [Instr.fieldAt, Sem.run_bind, run_underlying hu, Result.andThen_ok, hf, Instr.sureAddr, Sem.run_pure]
          simp only [fieldPlace, Sem.run_bind, sizeOf, typeInfo, run_program, Result.andThen_ok, hi, Sem.run_pure, if_neg h2, Addr.add_mid, hoff]
    | _ => simp [hu] at h
def plainTy (P : Program) (ty : Nat) : Bool :=
  match P.underlying ty with
  | some (.struct _) | some (.array _ _) | none => false
  | _ => true
theorem run_loadAt_one {P : Program} {ty : Nat} (h : plainTy P ty = true) {p : Addr} {v : Value} {w : World} (hc : w.cell? p = some v) :
    (Instr.loadAt ty (.pointer (some p))).run P w = .ok v w := by
  unfold plainTy at h
  cases hu : P.underlying ty with
  | none => simp [hu] at h
  | some d =>
    have hagg : (isAgg ty).run P w = .ok false w := by
      unfold isAgg
      rw [Sem.run_bind, run_underlying hu w]
      cases d <;> simp_all
    simp only [Instr.loadAt, Instr.sureAddr, Sem.run_bind, Sem.run_pure, Result.andThen_ok, loadVar, hagg]
    simp [hc]
def cellsB (P : Program) (ty n : Nat) : Bool :=
  match P.info? ty with
  | some i => Nat.beq i.size n
  | none => false
theorem cellsB_map {P : Program} {ty n : Nat} (h : cellsB P ty n = true) : (P.info? ty).map (·.size) = some n := by
  unfold cellsB at h
  cases hi : P.info? ty with
  | none => simp [hi] at h
  | some i => simp only [hi, Nat.beq_eq] at h; simp [h]
def rowTy (P : Program) (ty : Nat) : Bool :=
  match P.underlying ty with
  | some (.struct _) | some (.array _ _) => true
  | _ => false
theorem run_loadAt_row {P : Program} {ty : Nat} (h : rowTy P ty = true) {b o : Nat} {cs : List Value} {w : World} (hn : cellsB P ty cs.length = true) (hc : w.rangeAt b o cs) :
    (Instr.loadAt ty (.pointer (some ⟨b, o, none⟩))).run P w = .ok (.agg cs.toArray) w := by
  unfold rowTy at h
  cases hu : P.underlying ty with
  | none => simp [hu] at h
  | some d => exact run_loadAt_mid w b o ty cs d hc hu (by cases d <;> simp_all) (cellsB_map hn)
theorem run_storeAt_any {P : Program} {ty : Nat} {b o : Nat} {v : Value} {w : World} (hn : cellsB P ty v.cells.size = true) (ht : w.there b o v.cells.size) (h1 : v.cells.all (·.oneCell') = true) :
    (Instr.storeAt ty (.pointer (some ⟨b, o, none⟩)) v).run P w = .ok () (w.setCells b o v.cells.toList) := by
  have := run_storeCells_cells (P := P) b o v.cells.toList 0 w (fun j hj => by simpa using (ht j (by simpa using hj)).1) (fun j hj => by simpa using (ht j (by simpa using hj)).2)
    (fun u hu => (Array.all_eq_true_iff_forall_mem.1 h1) u (by simpa using hu))
  have hq := cellsB_map hn
  cases hi : P.info? ty with
  | none => simp [hi] at hq
  | some i =>
    have hs : v.cells.size = i.size := by simp [hi] at hq; omega
    simp only [Nat.add_zero] at this
    simp only [Instr.storeAt, Instr.sureAddr, Sem.run_bind, Sem.run_pure, Result.andThen_ok]
    simp [storeVar, sizeOf, typeInfo, hi, hs, this]
def sliceOf (P : Program) (T e : Nat) : Bool :=
  match P.underlying T with
  | some (.slice e') => Nat.beq e e'
  | _ => false
theorem sliceOf_eq {P : Program} {T e : Nat} (h : sliceOf P T e = true) : P.underlying T = some (.slice e) := by
  unfold sliceOf at h
  cases hu : P.underlying T with
  | none => simp [hu] at h
  | some d => cases d <;> simp_all
section
variable {P : Program} {Q : Exit → Act → World → Prop} {a : Act} {w : World} {ms : List MOp}
theorem ML.mv {d : Nat} {x : MX} (h : ML P ms Q (wr a d (x.of a)) w) : ML P (.mv d x :: ms) Q a w := by
  refine ML.step (d := some d) (v := x.of a) (w' := w) (fun o ho => ?_) h
  have hf := fitOper_op ho
  generalize hop : o.op = op at hf
  unfold execOp
  cases op <;> simp only [fitOp, Bool.and_eq_true, Bool.false_eq_true] at hf
  all_goals exact ⟨dstIs_eq hf.1, .inl (by simp only [hop, MX.is_eval hf.2 a]; rfl)⟩
theorem ML.nc {d s : Nat} {p : Addr} (hs : rd a s = .pointer (some p)) (h : ML P ms Q (wr a d (.pointer (some p))) w) : ML P (.nc d s :: ms) Q a w := by
  refine ML.step (d := some d) (v := .pointer (some p)) (w' := w) (fun o ho => ?_) h
  have hf := fitOper_op ho
  generalize hop : o.op = op at hf
  unfold execOp
  cases op <;> simp only [fitOp, Bool.and_eq_true, Bool.false_eq_true] at hf
  have he : a.eval (.tmp s) = .pointer (some p) := hs
  exact ⟨dstIs_eq hf.1, .inl (by simp only [hop, tmpIs_eq hf.2, he]; rfl)⟩
theorem ML.fa {d T s f b o off : Nat} (hs : rd a s = .pointer (some ⟨b, o, none⟩)) (hF : fieldAtB P T f off = true)
    (h : ML P ms Q (wr a d (.pointer (some ⟨b, o + off, none⟩))) w) : ML P (.fa d T s f :: ms) Q a w := by
  refine ML.step (d := some d) (v := .pointer (some ⟨b, o + off, none⟩)) (w' := w) (fun o' ho => ?_) h
  have hf := fitOper_op ho
  generalize hop : o'.op = op at hf
  unfold execOp
  cases op <;> simp only [fitOp, Bool.and_eq_true, Bool.false_eq_true, Nat.beq_eq] at hf
  obtain ⟨⟨⟨h1, h2⟩, h3⟩, h4⟩ := hf
  have he : a.eval (.tmp s) = .pointer (some ⟨b, o, none⟩) := hs
  subst h2 h4
  exact ⟨dstIs_eq h1, .inl (by simp only [hop, tmpIs_eq h3, he, Sem.run_bind, run_fieldAt hF, Result.andThen_ok, Sem.run_pure])⟩
theorem ML.ldBy {d ty s : Nat} {v : Value} (hr : (Instr.loadAt ty (rd a s)).run P w = .ok v w) (h : ML P ms Q (wr a d v) w) : ML P (.ld d ty s :: ms) Q a w := by
  refine ML.step (d := some d) (v := v) (w' := w) (fun o' ho => ?_) h
  have hf := fitOper_op ho
  generalize hop : o'.op = op at hf
  unfold execOp
  cases op <;> simp only [fitOp, Bool.and_eq_true, Bool.false_eq_true, Nat.beq_eq] at hf
  obtain ⟨⟨h1, h2⟩, h3⟩ := hf
  subst h2
  have he : a.eval (.tmp s) = rd a s := rfl
  exact ⟨dstIs_eq h1, .inl (by simp only [hop, tmpIs_eq h3, he, Sem.run_bind, hr, Result.andThen_ok, Sem.run_pure])⟩
theorem ML.ld {d ty s : Nat} {p : Addr} {v : Value} (hs : rd a s = .pointer (some p)) (hp : plainTy P ty = true) (hc : w.cell? p = some v)
    (h : ML P ms Q (wr a d v) w) : ML P (.ld d ty s :: ms) Q a w := ML.ldBy (by rw [hs]; exact run_loadAt_one hp hc) h
theorem ML.st {ty p v b o : Nat} (hp : rd a p = .pointer (some ⟨b, o, none⟩)) (hn : cellsB P ty (rd a v).cells.size = true)
    (ht : w.there b o (rd a v).cells.size) (h1 : (rd a v).cells.all (·.oneCell') = true)
    (h : ML P ms Q a (w.setCells b o (rd a v).cells.toList)) : ML P (.st ty p v :: ms) Q a w := by
  refine ML.step (d := none) (v := undef) (w' := w.setCells b o (rd a v).cells.toList) (fun o' ho => ?_) h
  have hf := fitOper_op ho
  generalize hop : o'.op = op at hf
  generalize hd : o'.dst = dd at hf
  unfold execOp
  cases op <;> cases dd <;> simp only [fitOp, Bool.and_eq_true, Bool.false_eq_true, Nat.beq_eq] at hf
  obtain ⟨⟨h2, h3⟩, h4⟩ := hf
  subst h2
  have he : a.eval (.tmp p) = .pointer (some ⟨b, o, none⟩) := hp
  have he2 : a.eval (.tmp v) = rd a v := rfl
  exact ⟨rfl, .inr ⟨rfl, by simp only [hop, tmpIs_eq h3, tmpIs_eq h4, he, he2, Sem.run_bind, run_storeAt_any hn ht h1, Result.andThen_ok, Sem.run_pure]⟩⟩
theorem ML.bi {d ty : Nat} {op : BinOp} {x y : MX} {v : Value}
    (hr : ∀ (ox oy : Operand), x.is ox = true → y.is oy = true → (eqGuard op ty ox oy (x.of a) (y.of a)).run P w = .ok () w)
    (hv : (binOp op ty (x.of a) (y.of a)).run P w = .ok v w) (h : ML P ms Q (wr a d v) w) : ML P (.bi d op ty x y :: ms) Q a w := by
  refine ML.step (d := some d) (v := v) (w' := w) (fun o' ho => ?_) h
  have hf := fitOper_op ho
  generalize hop : o'.op = op' at hf
  unfold execOp
  cases op' <;> simp only [fitOp, Bool.and_eq_true, Bool.false_eq_true, Nat.beq_eq] at hf
  obtain ⟨⟨⟨⟨⟨h1, h2⟩, h3⟩, h4⟩, h5⟩, _⟩ := hf
  have h2' := sameOp_eq h2
  subst h2' h3
  exact ⟨dstIs_eq h1, .inl (by simp only [hop, MX.is_eval h4 a, MX.is_eval h5 a, Sem.run_bind, hr _ _ h4 h5, hv, Result.andThen_ok, Sem.run_pure])⟩
theorem eqGuard_num (op : BinOp) (ty : Nat) (ox oy : Operand) (k k' : IntKind) (m n : Int) : (eqGuard op ty ox oy (.int k m) (.int k' n)).run P w = .ok () w := by
  unfold eqGuard
  split <;> rfl
theorem ML.nt {d s : Nat} {b : Bool} (hs : rd a s = .bool b) (h : ML P ms Q (wr a d (.bool !b)) w) : ML P (.nt d s :: ms) Q a w := by
  refine ML.step (d := some d) (v := .bool !b) (w' := w) (fun o ho => ?_) h
  have hf := fitOper_op ho
  generalize hop : o.op = op at hf
  unfold execOp
  cases op <;> simp only [fitOp, Bool.and_eq_true, Bool.false_eq_true] at hf
  case unOp u t x =>
    cases u <;> simp only [fitOp, Bool.and_eq_true, Bool.false_eq_true] at hf
    have he : a.eval (.tmp s) = .bool b := hs
    exact ⟨dstIs_eq hf.1, .inl (by simp only [hop, tmpIs_eq hf.2, he]; simp [Op.unary])⟩
theorem ML.cv {d src dst s : Nat} {v : Value} (hv : (convert src dst (rd a s)).run P w = .ok v w) (h : ML P ms Q (wr a d v) w) : ML P (.cv d src dst s :: ms) Q a w := by
  refine ML.step (d := some d) (v := v) (w' := w) (fun o ho => ?_) h
  have hf := fitOper_op ho
  generalize hop : o.op = op at hf
  unfold execOp
  cases op <;> simp only [fitOp, Bool.and_eq_true, Bool.false_eq_true, Nat.beq_eq] at hf
  obtain ⟨⟨⟨h1, h2⟩, h3⟩, h4⟩ := hf
  subst h2 h3
  have he : a.eval (.tmp s) = rd a s := rfl
  exact ⟨dstIs_eq h1, .inl (by simp only [hop, tmpIs_eq h4, he, Sem.run_bind, hv, Result.andThen_ok, Sem.run_pure])⟩
def intTy (P : Program) (ty : Nat) (k : IntKind) : Bool :=
  match P.underlying ty with
  | some (.int k') => sameKind k k'
  | _ => false
theorem intTy_eq {ty : Nat} {k : IntKind} (h : intTy P ty k = true) : P.underlying ty = some (.int k) := by
  unfold intTy at h
  cases hu : P.underlying ty with
  | none => simp [hu] at h
  | some d => cases d <;> simp_all; exact (sameKind_eq h).symm
theorem run_convert_int {src dst : Nat} {k k' kv : IntKind} (hs : intTy P src k = true) (hd : intTy P dst k' = true) (n : Int) :
    (convert src dst (.int kv n)).run P w = .ok (.int k' (k'.wrap n)) w := by
  have h1 := intTy_eq hs
  have h2 := intTy_eq hd
  simp [convert, run_underlying h1, run_underlying h2, Conv.intToInt]
theorem ML.ca {d f : Nat} {xs : List MX} {R : Value → World → Prop} (he : entersB P f = true)
    (hc : Calls P f (xs.map (MX.of a)).toArray w (fun e w' => ∃ v, e = .returned v ∧ R v w'))
    (h : ∀ v w', R v w' → ML P ms Q (wr a d v) w') : ML P (.ca d f xs :: ms) Q a w := by
  intro ops l hl
  cases l with
  | nil => simp [fitOps] at hl
  | cons o os =>
    simp only [fitOps, Bool.and_eq_true] at hl
    obtain ⟨ho, hs⟩ := hl
    have hg : o.guard = none := by
      simp only [fitOper, Bool.and_eq_true, Option.isNone_iff_eq_none] at ho; exact ho.1
    refine wpList_plain hg fun K hK => ?_
    have hf := fitOper_op ho
    obtain ⟨dst, op, type, pos, after, guard⟩ := o
    dsimp only at hf hg
    cases op <;> try (simp only [fitOp, Bool.false_eq_true] at hf; done)
    rename_i c
    obtain ⟨callee, args, ats⟩ := c
    cases callee <;> try (simp only [fitOp, Bool.false_eq_true] at hf; done)
    case value x =>
      cases x <;> try (simp only [fitOp, Bool.false_eq_true] at hf; done)
      simp only [fitOp, Bool.and_eq_true, Nat.beq_eq] at hf
      obtain ⟨⟨h1, h2⟩, h3⟩ := hf
      subst h2
      have hdst := dstIs_eq h1
      subst hdst
      have hargs : args.map a.eval = (xs.map (MX.of a)).toArray := by
        apply Array.toList_inj.1
        rw [Array.toList_map, allX_eval h3 a]
      have hrun : (execOp a.eval ⟨some d, .call ⟨.value (.func f), args, ats⟩, type, pos, after, guard⟩).run P w = .ok (.enter f (xs.map (MX.of a)).toArray) w := by
        simp only [execOp, resolve, Act.eval, Deferred.ofValue, Sem.run_bind, Sem.run_pure, Result.andThen_ok, invoke, Array.append_empty, Array.empty_append]
        rw [hargs, run_callFunc_enter he]
      unfold Oper.wp
      rw [hrun, Oper.upon_enter]
      refine Calls.mono hc ?_
      rintro e w' ⟨v, rfl, hR⟩
      exact hK _ _ (h v w' hR ops os hs)
theorem ML.builtin {m : MOp} {d : Nat} {v : Value} {w' : World} {b : Builtin} {T : List Nat} {xs : List Nat}
    (hm : ∀ o : Oper, fitOper m o = true → o.dst = some d ∧ ∃ args ats, o.op = .call { callee := .builtin b, args := args, argTypes := ats } ∧ ats.toList = T ∧ args.toList = xs.map Operand.tmp)
    (hr : ∀ ty cs, (builtin b T.toArray ty cs (xs.map (rd a)).toArray).run P w = .ok (.value v) w')
    (h : ML P ms Q (wr a d v) w') : ML P (m :: ms) Q a w := by
  refine ML.step (d := some d) (v := v) (w' := w') (fun o ho => ?_) h
  obtain ⟨h1, args, ats, h2, h3, h4⟩ := hm o ho
  refine ⟨h1, .inl ?_⟩
  have hats : ats = T.toArray := by apply Array.toList_inj.1; simpa using h3
  have hargs : args.map a.eval = (xs.map (rd a)).toArray := by
    apply Array.toList_inj.1
    rw [Array.toList_map, h4]
    simp [rd, Act.eval, Function.comp_def]
  unfold execOp
  simp only [h2, resolve, Sem.run_bind, Sem.run_pure, Result.andThen_ok, invoke, hargs, hats]
  exact hr _ _
theorem ML.ln {d ty s e : Nat} {p : Option Addr} {n c : Nat} (ht : sliceOf P ty e = true) (hs : rd a s = .slice p n c) (h : ML P ms Q (wr a d (.int .i64 n)) w) : ML P (.ln d ty s :: ms) Q a w := by
  refine ML.builtin (b := .len) (T := [ty]) (xs := [s]) (d := d) (v := .int .i64 n) (w' := w) (fun o ho => ?_) (fun t cs => ?_) h
  · have hf := fitOper_op ho
    generalize hop : o.op = op at hf
    cases op <;> try (simp only [fitOp, Bool.false_eq_true] at hf; done)
    rename_i c
    obtain ⟨callee, args, ats⟩ := c
    cases callee <;> try (simp only [fitOp, Bool.false_eq_true] at hf; done)
    case builtin b =>
      cases b <;> try (simp only [fitOp, Bool.false_eq_true] at hf; done)
      simp only [fitOp, Bool.and_eq_true] at hf
      obtain ⟨h1, h2⟩ := hf
      generalize hA : args.toList = A at h2
      generalize hB : ats.toList = B at h2
      match A, B, h2 with
      | [y], [t'], h2 =>
        simp only [Bool.and_eq_true, Nat.beq_eq] at h2
        exact ⟨dstIs_eq h1, args, ats, rfl, by rw [hB, h2.2], by rw [hA, tmpIs_eq h2.1]; rfl⟩
  · simp [Go.builtin, Builtin.len_, hs, run_underlying (sliceOf_eq ht), goInt]
theorem ML.ap {d T U x y : Nat} {v : Value} {w' : World} (hr : ∀ ty, (Builtin.append_ #[T, U] ty #[rd a x, rd a y]).run P w = .ok v w') (h : ML P ms Q (wr a d v) w') : ML P (.ap d T U x y :: ms) Q a w := by
  refine ML.builtin (b := .append) (T := [T, U]) (xs := [x, y]) (d := d) (v := v) (w' := w') (fun o ho => ?_) (fun t cs => ?_) h
  · have hf := fitOper_op ho
    generalize hop : o.op = op at hf
    cases op <;> try (simp only [fitOp, Bool.false_eq_true] at hf; done)
    rename_i c
    obtain ⟨callee, args, ats⟩ := c
    cases callee <;> try (simp only [fitOp, Bool.false_eq_true] at hf; done)
    case builtin b =>
      cases b <;> try (simp only [fitOp, Bool.false_eq_true] at hf; done)
      simp only [fitOp, Bool.and_eq_true] at hf
      obtain ⟨h1, h2⟩ := hf
      generalize hA : args.toList = A at h2
      generalize hB : ats.toList = B at h2
      match A, B, h2 with
      | [x', y'], [t', u'], h2 =>
        simp only [Bool.and_eq_true, Nat.beq_eq] at h2
        obtain ⟨⟨⟨h3, h4⟩, h5⟩, h6⟩ := h2
        exact ⟨dstIs_eq h1, args, ats, rfl, by rw [hB, h5, h6], by rw [hA, tmpIs_eq h3, tmpIs_eq h4]; rfl⟩
  · simp [Go.builtin, hr]
theorem ML.ia {d T x i e b o len cap : Nat} {k : IntKind} {j : Nat} {sz : Nat} (ht : sliceOf P T e = true) (hn : cellsB P e sz = true)
    (hx : rd a x = .slice (some ⟨b, o, none⟩) len cap) (hi : rd a i = .int k j) (hj : j < len)
    (h : ML P ms Q (wr a d (.pointer (some ⟨b, o + j * sz, none⟩))) w) : ML P (.ia d T x i :: ms) Q a w := by
  refine ML.step (d := some d) (v := .pointer (some ⟨b, o + j * sz, none⟩)) (w' := w) (fun o' ho => ?_) h
  have hf := fitOper_op ho
  generalize hop : o'.op = op at hf
  unfold execOp
  cases op <;> simp only [fitOp, Bool.and_eq_true, Bool.false_eq_true, Nat.beq_eq] at hf
  obtain ⟨⟨⟨h1, h2⟩, h3⟩, h4⟩ := hf
  subst h2
  have hq := cellsB_map hn
  cases hi' : P.info? e with
  | none => simp [hi'] at hq
  | some ii =>
    have hsz : ii.size = sz := by simpa [hi'] using hq
    have he : a.eval (.tmp x) = .slice (some ⟨b, o, none⟩) len cap := hx
    have he2 : a.eval (.tmp i) = .int k j := hi
    refine ⟨dstIs_eq h1, .inl ?_⟩
    simp only [hop, tmpIs_eq h3, tmpIs_eq h4, he, he2, Sem.run_bind, Instr.indexAt, asIntOf, Sem.run_pure, Result.andThen_ok, run_underlying (sliceOf_eq ht)]
    rw [if_pos ⟨by omega, by omega⟩]
    simp [sizeOf, typeInfo, hi', hsz, Addr.add_mid]
theorem ML.al {d T : Nat} {z : Value} (hz : ∃ i, P.info? T = some i ∧ i.zero = some z) (h : ML P ms Q (wr a d (.pointer (some ⟨w.heap.size, 0, none⟩))) (w.alloc (.cells z.cells T))) : ML P (.al d T :: ms) Q a w := by
  refine ML.step (d := some d) (v := .pointer (some ⟨w.heap.size, 0, none⟩)) (w' := w.alloc (.cells z.cells T)) (fun o' ho => ?_) h
  have hf := fitOper_op ho
  generalize hop : o'.op = op at hf
  unfold execOp
  cases op <;> simp only [fitOp, Bool.and_eq_true, Bool.false_eq_true, Nat.beq_eq] at hf
  obtain ⟨i, hi, hz⟩ := hz
  obtain ⟨h1, h2⟩ := hf
  subst h2
  refine ⟨dstIs_eq h1, .inl ?_⟩
  simp only [hop, Sem.run_bind, Instr.alloc, zeroValue, typeInfo, run_program, Result.andThen_ok, hi, Sem.run_pure, hz, newVar, newRow, run_newObj]
  rfl
end
end Go.Kx
namespace Go.Kx
open Go.RowKit
set_option linter.unusedSimpArgs false
set_option linter.unusedVariables false
structure GOp where
  i : Nat
  g : Option (Nat × Nat × Bool)
  m : MOp
inductive GT where
  | nil
  | q (x : GOp) (t : GT)
  | one (x : GOp) (t : GT)
  | two (x y : GOp) (tx ty : GT)
def GT.depth : GT → Nat
  | .nil => 0
  | .q _ t => t.depth + 1
  | .one _ t => t.depth + 1
  | .two _ _ tx ty => max tx.depth ty.depth + 1
inductive MCode where
  | rg (ms : List MOp)
  | gr (drawn : Bool) (gs : List GOp)
  | tw (s ty lo hi t : Nat)
  | sq (a b : MCode)
  | cd (t : Nat) (a b : MCode)
  | bl (id : Nat) (b : MCode)
  | lp (b : MCode)
  | ex (id : Nat)
  | rt
  | sk
  | any
  | sc (b : MCode)
  | lb (l : Nat)
  | gt (l : Nat)
  | gx (d : Nat) (keep : List Nat) (t : GT)
def guardIs : Option (Nat × Bool) → Bool
  | some (j, b) => Nat.beq j 2 && b
  | none => false
def pickIs (c x y : MX) : Op → Bool
  | .pick c' x' y' => c.is c' && x.is x' && y.is y'
  | _ => false
def take1 (p : Oper → Bool) : List Oper → Option (List Oper)
  | o :: os => if p o then some os else none
  | [] => none
def fitTw (s ty lo hi t : Nat) (l : List Oper) : Bool :=
  match ((((((take1 (fitOper (.mv t (.t s))) l).bind (take1 (fitOper (.bi (t + 1) .geq ty (.t t) (.c (.int .i16 lo)))))).bind (take1 (fitOper (.mv (t + 2) (.t (t + 1)))))).bind
    (take1 fun o => guardIs o.guard && fitOp (.mv (t + 3) (.t s)) o.dst o.op)).bind
    (take1 fun o => guardIs o.guard && fitOp (.bi (t + 4) .leq ty (.t (t + 3)) (.c (.int .i16 hi))) o.dst o.op)).bind
    (take1 fun o => o.guard.isNone && dstIs (t + 5) o.dst && pickIs (.t (t + 2)) (.t (t + 4)) (.c (.bool false)) o.op)) with
  | some [] => true
  | _ => false
def fitGuard (ops : Array Oper) : Option (Nat × Nat × Bool) → Option (Nat × Bool) → Bool
  | none, none => true
  | some (j, s, b), some (j', b') => Nat.beq j j' && (b == b') && (match ops[j]? with | some oj => dstIs s oj.dst | none => false)
  | _, _ => false
def MOp.d? : MOp → Option Nat
  | .mv d _ | .nc d _ | .fa d _ _ _ | .ld d _ _ | .bi d _ _ _ _ | .nt d _ | .cv d _ _ _ | .ca d _ _ | .ln d _ _ | .ap d _ _ _ _ | .ia d _ _ _ | .s0 d _ _ | .al d _ | .bd d _ _ | .bs d _ | .b2 d _ _ _ | .bsl d _ _ | .ix d _ _ _ | .sl d _ _ _ _ _
  | .lg d _ _ | .bx d _ _ | .fl d _ _ _ | .mk d _ _ _ | .cp d _ _ _ _ | .mn d _ _ | .mxi d _ _ | .bdl d _ _ | .ext d _ _ | .pk d _ _ _ | .mf d _ _ => some d
  | .iak d _ _ _ | .mkm d _ | .rng d _ _ | .nxt d _ | .ent d _ | .lku d _ _ _ | .mki d _ _ | .cav d _ _ | .apk d _ _ _ | .mvf d _ | .cpl d _ _ | .ng d _ => some d
  | .st _ _ _ | .stc _ _ _ | .mpu _ _ _ _ => none
def sameD : Option Nat → Option Nat → Bool
  | some d, some d' => Nat.beq d d'
  | none, none => true
  | _, _ => false
theorem sameD_eq {x y : Option Nat} (h : sameD x y = true) : x = y := by
  cases x <;> cases y <;> simp_all [sameD]
def fitG (ops : Array Oper) : List GOp → List Oper → Bool
  | [], [] => true
  | x :: xs, o :: os => fitGuard ops x.g o.guard && fitOp x.m o.dst o.op && sameD x.m.d? o.dst && fitG ops xs os
  | _, _ => false
def MOp.quiet : MOp → Bool
  | .mv .. | .nc .. | .fa .. | .ld .. | .bi .. | .nt .. | .cv .. | .ln .. | .ia .. | .b2 .. | .ix .. | .fl .. | .mn .. | .mxi .. | .pk .. | .ext .. | .sl .. | .iak .. | .lg .. => true
  | _ => false
def fitAt (ops : Array Oper) (x : GOp) (o : Oper) : Bool := fitGuard ops x.g o.guard && fitOp x.m o.dst o.op && sameD x.m.d? o.dst
def ordFrom (ops : Array Oper) : Array Bool → List GOp → Bool
  | lst, [] => (Region.ready .any ops lst).isEmpty
  | lst, x :: xs => (match ops[x.i]? with | some o => fitAt ops x o | none => false) && (if x.m.quiet then Region.free .any ops lst x.i && (Region.ready .any ops lst).contains x.i
      else (match Region.ready .any ops lst with | [i] => Nat.beq i x.i | _ => false)) && ordFrom ops (lst.setIfInBounds x.i true) xs
def ordOk (ops : Array Oper) (gs : List GOp) : Bool := Region.noSelect ops && Nat.ble gs.length ops.size && ordFrom ops (Array.replicate ops.size false) gs
def ordT (ops : Array Oper) : Array Bool → GT → Bool
  | lst, .nil => (Region.ready .any ops lst).isEmpty
  | lst, .q x t => (match ops[x.i]? with | some o => fitAt ops x o | none => false) && x.m.quiet && Region.free .any ops lst x.i && (Region.ready .any ops lst).contains x.i && ordT ops (lst.setIfInBounds x.i true) t
  | lst, .one x t => (match ops[x.i]? with | some o => fitAt ops x o | none => false) && (match Region.ready .any ops lst with | [i] => Nat.beq i x.i | _ => false) && ordT ops (lst.setIfInBounds x.i true) t
  | lst, .two x y tx ty => (match ops[x.i]? with | some o => fitAt ops x o | none => false) && (match ops[y.i]? with | some o => fitAt ops y o | none => false) &&
      (match Region.ready .any ops lst with | [i, j] => Nat.beq i x.i && Nat.beq j y.i | _ => false) && ordT ops (lst.setIfInBounds x.i true) tx && ordT ops (lst.setIfInBounds y.i true) ty
def fits : MCode → Code → Bool
  | .gx _ _ t, .region _ ops true => Region.noSelect ops && Nat.ble t.depth ops.size && ordT ops (Array.replicate ops.size false) t
  | .gr dr gs, .region _ ops dr' => (dr == dr') && (if dr then ordOk ops gs else fitG ops gs ops.toList)
  | .rg ms, .region _ ops false => fitOps ms ops.toList
  | .tw s ty lo hi t, .region _ ops false => fitTw s ty lo hi t ops.toList
  | .sq a b, .seq x y => fits a x && fits b y
  | .cd t a b, .cond c x y => tmpIs t c && fits a x && fits b y
  | .bl id b, .block id' x => Nat.beq id id' && fits b x
  | .lp b, .loop x => fits b x
  | .ex id, .exit id' => Nat.beq id id'
  | .rt, .ret => true
  | .sk, .skip => true
  | .any, _ => true
  | .sc b, .scope x => fits b x
  | .lb l, .label l' => Nat.beq l l'
  | .gt l, .goto l' => Nat.beq l l'
  | _, _ => false
def noLb (l : Nat) : MCode → Bool
  | .sq a b => noLb l a && noLb l b
  | .lb l' => !(Nat.beq l' l)
  | .any => false
  | _ => true
def findM (l : Nat) : MCode → Option MCode
  | .sq a b => if noLb l a then findM l b else (findM l a).map (fun r => .sq r b)
  | .lb l' => if Nat.beq l' l then some .sk else none
  | _ => none
theorem noLb_find {l : Nat} : ∀ {m : MCode} {c : Code}, noLb l m = true → fits m c = true → findLabel c l = none := by
  intro m
  induction m with
  | sq a b iha ihb =>
    intro c hn hf
    cases c <;> simp only [fits, Bool.false_eq_true, Bool.and_eq_true] at hf
    simp only [noLb, Bool.and_eq_true] at hn
    simp only [findLabel, iha hn.1 hf.1, ihb hn.2 hf.2]
  | lb l' =>
    intro c hn hf
    cases c <;> simp only [fits, Bool.false_eq_true, Nat.beq_eq] at hf
    subst hf
    simp only [noLb, Bool.not_eq_true'] at hn
    simp only [findLabel]
    rw [if_neg (by intro h; have h' : l' = l := by simpa using h
                   rw [h'] at hn; simp at hn)]
  | any => intro c hn; simp [noLb] at hn
  | rg ms =>
    intro c hn hf
    cases c <;> first | rfl | (simp [fits] at hf)
  | gr dr gs =>
    intro c hn hf
    cases c <;> first | rfl | (simp [fits] at hf)
  | tw s ty lo hi t =>
    intro c hn hf
    cases c <;> first | rfl | (simp [fits] at hf)
  | cd t a b _ _ =>
    intro c hn hf
    cases c <;> first | rfl | (simp [fits] at hf)
  | bl id b _ =>
    intro c hn hf
    cases c <;> first | rfl | (simp [fits] at hf)
  | lp b _ =>
    intro c hn hf
    cases c <;> first | rfl | (simp [fits] at hf)
  | ex id =>
    intro c hn hf
    cases c <;> first | rfl | (simp [fits] at hf)
  | rt =>
    intro c hn hf
    cases c <;> first | rfl | (simp [fits] at hf)
  | sk =>
    intro c hn hf
    cases c <;> first | rfl | (simp [fits] at hf)
  | sc b _ =>
    intro c hn hf
    cases c <;> first | rfl | (simp [fits] at hf)
  | gt l =>
    intro c hn hf
    cases c <;> first | rfl | (simp [fits] at hf)
  | gx d k t =>
    intro c hn hf
    cases c <;> first | rfl | (simp [fits] at hf)
theorem findM_find {l : Nat} : ∀ {m r : MCode} {c : Code}, findM l m = some r → fits m c = true → ∃ rest, findLabel c l = some rest ∧ fits r rest = true := by
  intro m
  induction m with
  | sq a b iha ihb =>
    intro r c hn hf
    cases c <;> simp only [fits, Bool.false_eq_true, Bool.and_eq_true] at hf
    rename_i cx cy
    simp only [findM] at hn
    split at hn
    · rename_i h
      obtain ⟨rest, h1, h2⟩ := ihb hn hf.2
      exact ⟨rest, by simp only [findLabel, noLb_find h hf.1, h1], h2⟩
    · simp only [Option.map_eq_some_iff] at hn
      obtain ⟨r', h1, rfl⟩ := hn
      obtain ⟨rest, h2, h3⟩ := iha h1 hf.1
      exact ⟨.seq rest cy, by simp only [findLabel, h2], by simp only [fits, Bool.and_eq_true]; exact ⟨h3, hf.2⟩⟩
  | lb l' =>
    intro r c hn hf
    cases c <;> simp only [fits, Bool.false_eq_true, Nat.beq_eq] at hf
    subst hf
    simp only [findM] at hn
    split at hn
    · rename_i h
      simp only [Option.some.injEq] at hn
      subst hn
      refine ⟨.skip, ?_, rfl⟩
      simp only [findLabel]
      rw [if_pos (by simpa using h)]
    · simp at hn
  | _ => intro r c hn; simp [findM] at hn
def MW (P : Program) (m : MCode) (Q : Exit → Act → World → Prop) (a : Act) (w : World) : Prop :=
  ∀ c : Code, fits m c = true → c.wp P Q a w
section
variable {P : Program} {Q Q' : Exit → Act → World → Prop} {a : Act} {w : World}
theorem MW.mono {m : MCode} (h : MW P m Q a w) (hq : ∀ e a w, Q e a w → Q' e a w) : MW P m Q' a w := fun c hc => wp_mono (h c hc) hq
theorem MW.rg {ms : List MOp} (h : ML P ms Q a w) : MW P (.rg ms) Q a w := by
  intro c hc
  cases c <;> try (simp only [fits, Bool.false_eq_true] at hc; done)
  rename_i id ops d
  cases d <;> simp only [fits, Bool.false_eq_true] at hc
  exact wp_region_list (h _ _ hc)
theorem MW.sq {x y : MCode} (h : MW P x (Exit.then (MW P y Q) Q) a w) : MW P (.sq x y) Q a w := by
  intro c hc
  cases c <;> simp only [fits, Bool.false_eq_true, Bool.and_eq_true] at hc
  refine wp_seq (wp_mono (h _ hc.1) ?_)
  intro e a w hq
  cases e <;> first | exact hq _ hc.2 | exact hq
theorem MW.cd {t : Nat} {x y : MCode} {b : Bool} (ht : rd a t = .bool b) (h1 : b = true → MW P x Q a w) (h2 : b = false → MW P y Q a w) : MW P (.cd t x y) Q a w := by
  intro c hc
  cases c <;> simp only [fits, Bool.false_eq_true, Bool.and_eq_true] at hc
  obtain ⟨⟨h3, h4⟩, h5⟩ := hc
  rw [tmpIs_eq h3]
  exact wp_cond_split (t := b) ht (fun e => h1 e _ h4) (fun e => h2 e _ h5)
theorem MW.bl {id : Nat} {x : MCode} (h : MW P x (Exit.inBlock id Q) a w) : MW P (.bl id x) Q a w := by
  intro c hc
  cases c <;> simp only [fits, Bool.false_eq_true, Bool.and_eq_true, Nat.beq_eq] at hc
  obtain ⟨rfl, h1⟩ := hc
  exact wp_block (h _ h1)
theorem MW.lp {x : MCode} (I : Act → World → Prop) (μ : Act → World → Nat) (h₀ : I a w)
    (round : ∀ a w, I a w → MW P x (Exit.then (fun a' w' => I a' w' ∧ μ a' w' < μ a w) Q) a w) : MW P (.lp x) Q a w := by
  intro c hc
  cases c <;> simp only [fits, Bool.false_eq_true] at hc
  exact wp_loop I μ h₀ fun a w hi => round a w hi _ hc
theorem MW.ex {id : Nat} (h : Q (.exit id) a w) : MW P (.ex id) Q a w := by
  intro c hc
  cases c <;> simp only [fits, Bool.false_eq_true, Nat.beq_eq] at hc
  subst hc
  exact wp_exit h
theorem MW.rt (h : Q .ret a w) : MW P .rt Q a w := by
  intro c hc
  cases c <;> simp only [fits, Bool.false_eq_true] at hc
  exact wp_ret h
theorem MW.lb {l : Nat} (h : Q .normal a w) : MW P (.lb l) Q a w := by
  intro c hc
  cases c <;> simp only [fits, Bool.false_eq_true] at hc
  exact wp_label h
theorem MW.gt {l : Nat} (h : Q (.goto l) a w) : MW P (.gt l) Q a w := by
  intro c hc
  cases c <;> simp only [fits, Bool.false_eq_true, Nat.beq_eq] at hc
  subst hc
  exact wp_goto h
theorem MW.sc {b r : MCode} {l : Nat} (J : Act → World → Prop) (hf : findM l b = some r) (h : MW P b (Exit.jump l J Q) a w) (hr : ∀ a w, J a w → MW P r (Exit.jump l (fun _ _ => False) Q) a w) : MW P (.sc b) Q a w := by
  intro c hc
  cases c <;> simp only [fits, Bool.false_eq_true] at hc
  obtain ⟨rest, h1, h2⟩ := findM_find hf hc
  refine wp_scope_jumps l J (fun _ _ => 0) h1 (h _ hc) fun a w hJ => wp_mono (hr a w hJ rest h2) ?_
  intro e a w hq
  cases e <;> first | exact hq | (exact hq.2.elim)
theorem MW.sk (h : Q .normal a w) : MW P .sk Q a w := by
  intro c hc
  cases c <;> simp only [fits, Bool.false_eq_true] at hc
  exact wp_skip h
end
def rows : List MCode → MCode
  | [] => .sk
  | [c] => c
  | c :: cs => .sq c (rows cs)
/-! ### The frame, slot by slot -/
theorem rd_wr {a : Act} {d : Nat} {v : Value} (s : Nat) (h : d < a.tmps.size) : rd (wr a d v) s = if s = d then v else rd a s := by
  unfold rd wr
  by_cases e : s = d
  · subst e; simp [Array.getElem?_setIfInBounds, h]
  · have : ¬ d = s := fun x => e x.symm
    simp [Array.getElem?_setIfInBounds, e, this]
@[simp] theorem size_wr (a : Act) (d : Nat) (v : Value) : (wr a d v).tmps.size = a.tmps.size := by simp [wr]
@[simp] theorem defers_wr (a : Act) (d : Nat) (v : Value) : (wr a d v).defers = a.defers := rfl
structure Loc (N L : Nat) (ρ : Nat → Value) (a : Act) : Prop where
  size : a.tmps.size = N
  defers : a.defers = []
  get : ∀ s, s < L → rd a s = ρ s
def upd (ρ : Nat → Value) (x : Nat) (v : Value) : Nat → Value := fun s => if s = x then v else ρ s
theorem upd_same (ρ : Nat → Value) (x : Nat) (v : Value) : upd ρ x v x = v := by simp [upd]
theorem upd_ne (ρ : Nat → Value) {x s : Nat} (v : Value) (h : s ≠ x) : upd ρ x v s = ρ s := by simp [upd, h]
theorem Loc.set {N L : Nat} {ρ : Nat → Value} {a : Act} (h : Loc N L ρ a) {d : Nat} (v : Value) (h2 : d < N) : Loc N L (upd ρ d v) (wr a d v) :=
  ⟨by simpa using h.size, by simpa using h.defers, fun s hs => by
    rw [rd_wr s (by rw [h.size]; exact h2)]
    by_cases e : s = d
    · simp [e, upd]
    · simp [e, upd]; exact h.get s hs⟩
inductive PK where
  | i8 | i16 | i32 | i64 | u16 | bool | f64 | uuid | str | nstr | byt | nbyt
  deriving DecidableEq
inductive Cnd where
  | always
  | ge (lo : Nat)
  | btw (lo hi : Nat)
def Cnd.ok : Cnd → Int → Bool
  | .always, _ => true
  | .ge lo, v => decide ((lo : Int) ≤ v)
  | .btw lo hi, v => decide ((lo : Int) ≤ v) && decide (v ≤ hi)
def PK.ik : PK → IntKind
  | .i8 => .i8 | .i16 => .i16 | .u16 => .u16 | .i32 => .i32 | _ => .i64
def PK.isNum : PK → Bool
  | .i8 | .i16 | .u16 | .i32 | .i64 => true
  | _ => false
def PK.oct : PK → Nat
  | .i8 => 1 | .i16 | .u16 => 2 | .i32 => 4 | _ => 8
structure KT where
  tag : Nat
  pos : Nat
  idx : Nat
  off : Nat
  df : Int
  k : PK
  ty : Nat
abbrev TgF := (Nat × List KT) × Nat
mutual
inductive Ty where
  | prim (k : PK) (ty : Nat)
  | enum (k : PK) (ty base : Nat)
  | vstr (lim ty base : Nat)
  | arr (nul : Option Nat) (ty ety : Nat) (el : Ty)
  | struct (T n dflt : Nat) (tg : Option TgF) (fs : Flds)
inductive Flds where
  | nil
  | cons (c : Cnd) (idx off : Nat) (df : Int) (ty : Ty) (rest : Flds)
end

inductive D where
  | n (i : Int)
  | s (o : Option (List UInt8))
  | l (nul : Bool) (xs : List D)
  | r (fs : List D) (tags : List (Nat × List UInt8))
  deriving Inhabited
def PK.cells : PK → Nat
  | .uuid => 16
  | _ => 1
def Ty.cells : Ty → Nat
  | .prim k _ => k.cells
  | .enum k _ _ => k.cells
  | .vstr .. => 1
  | .arr .. => 1
  | .struct _ n _ _ _ => n
/-! ### How it is written -/
def be (n : Nat) : Nat → List UInt8
  | 0 => []
  | k + 1 => be (n / 256) k ++ [UInt8.ofNat (n % 256)]
def fix (n : Int) (k : Nat) : List UInt8 := be (n % (256 ^ k : Int)).toNat k
def uvb : Nat → Nat → List UInt8
  | 0, n => [UInt8.ofNat n]
  | k + 1, n => if n < 128 then [UInt8.ofNat n] else UInt8.ofNat (n % 128 + 128) :: uvb k (n / 128)
def uv (n : Nat) : List UInt8 := uvb 9 n
def cnt (flex : Bool) (k n : Nat) : List UInt8 := if flex then uv (n + 1) else fix n k
def cntNull (flex : Bool) (k : Nat) : List UInt8 := if flex then uv 0 else fix (-1) k
def encP (k : PK) (flex : Bool) (d : D) : List UInt8 :=
  match k, d with
  | .i8, .n i => fix i 1
  | .i16, .n i => fix i 2
  | .u16, .n i => fix i 2
  | .i32, .n i => fix i 4
  | .i64, .n i => fix i 8
  | .f64, .n i => fix i 8
  | .bool, .n i => [if i = 0 then 0 else 1]
  | .uuid, .s (some l) => l
  | .str, .s (some l) => cnt flex 2 l.length ++ l
  | .nstr, .s (some l) => cnt flex 2 l.length ++ l
  | .nstr, .s none => cntNull flex 2
  | .byt, .s (some l) => cnt flex 4 l.length ++ l
  | .nbyt, .s (some l) => cnt flex 4 l.length ++ l
  | .nbyt, .s none => cntNull flex 4
  | _, _ => []
def vK (lim : Nat) (ver : Int) : PK := if ver < (lim : Int) then .str else .nstr
def vD (lim : Nat) (ver : Int) (d : D) : D := if ver < (lim : Int) then (match d with | .s (some l) => .s (some l) | _ => .s (some [])) else d
def vNul (nul : Option Nat) (ver : Int) : Bool :=
  match nul with
  | none => true
  | some 0 => true
  | some (k + 1) => decide (((k + 1 : Nat) : Int) ≤ ver)
def encTag (t : Nat × List UInt8) : List UInt8 := uv t.1 ++ uv t.2.length ++ t.2
def encTags (l : List (Nat × List UInt8)) : List UInt8 := uv l.length ++ l.flatMap encTag
mutual
def enc (ver : Int) (flex : Bool) : Ty → D → List UInt8
  | .prim k _, d => encP k flex d
  | .enum k _ _, d => encP k flex d
  | .vstr lim _ _, d => encP (vK lim ver) flex (vD lim ver d)
  | .arr nv _ _ el, .l nul xs => if nul && vNul nv ver then cntNull flex 4 else cnt flex 4 xs.length ++ xs.flatMap (enc ver flex el)
  | .arr .., _ => []
  | .struct _ _ _ tg fs, .r ds tags => encF ver flex fs ds ++ (if tg.isSome && flex then encTags tags else [])
  | .struct .., _ => []
def encF (ver : Int) (flex : Bool) : Flds → List D → List UInt8
  | .nil, _ => []
  | .cons c _ _ _ ty rest, ds => (if c.ok ver then enc ver flex ty (ds.headD (.n 0)) else []) ++ encF ver flex rest ds.tail
end

/-! ### How it lies in memory -/
def byteV (b : UInt8) : Value := .int .u8 b.toNat
def BytesAt (w : World) (F : Nat → Prop) (a : Option Addr) (l : List UInt8) : Prop :=
  ∀ j b, l[j]? = some b → ∃ g o, a = some ⟨g, o, none⟩ ∧ F g ∧ w.cell? ⟨g, o + j, none⟩ = some (byteV b)
def RepP (w : World) (F : Nat → Prop) (k : PK) (cs : List Value) (d : D) : Prop :=
  match k with
  | .i8 => ∃ n, cs = [.int .i8 n] ∧ d = .n n ∧ -128 ≤ n ∧ n ≤ 127
  | .i16 => ∃ n, cs = [.int .i16 n] ∧ d = .n n ∧ -32768 ≤ n ∧ n ≤ 32767
  | .u16 => ∃ n, cs = [.int .u16 n] ∧ d = .n n ∧ 0 ≤ n ∧ n ≤ 65535
  | .i32 => ∃ n, cs = [.int .i32 n] ∧ d = .n n ∧ -2147483648 ≤ n ∧ n ≤ 2147483647
  | .i64 => ∃ n, cs = [.int .i64 n] ∧ d = .n n ∧ -9223372036854775808 ≤ n ∧ n ≤ 9223372036854775807
  | .f64 => ∃ n : Nat, cs = [.float .f64 n] ∧ d = .n n ∧ n < 18446744073709551616
  | .bool => ∃ b : Bool, cs = [.bool b] ∧ d = .n (if b then 1 else 0)
  | .uuid => ∃ l : List UInt8, l.length = 16 ∧ cs = l.map byteV ∧ d = .s (some l)
  | .str => ∃ s : ByteArray, cs = [.string s] ∧ d = .s (some s.data.toList)
  | .nstr => (cs = [.pointer none] ∧ d = .s none) ∨ ∃ b s, cs = [.pointer (some ⟨b, 0, none⟩)] ∧ F b ∧ w.cell? ⟨b, 0, none⟩ = some (.string s) ∧ d = .s (some s.data.toList)
  | .byt => ∃ a c l, cs = [.slice a (List.length l) c] ∧ BytesAt w F a l ∧ d = .s (some l)
  | .nbyt => (cs = [.slice none 0 0] ∧ d = .s none) ∨ ∃ ad c l, cs = [.slice (some ad) (List.length l) c] ∧ BytesAt w F (some ad) l ∧ d = .s (some l)
def RepT (w : World) (F : Nat → Prop) (m : Value) (tags : List (Nat × List UInt8)) : Prop :=
  (m = .map none ∧ tags = []) ∨
  ∃ r es clock, m = .map (some r) ∧ F r ∧ w.heap[r]? = some (.map es clock) ∧ es.size = tags.length ∧
    tags.Pairwise (fun x y => x.1 < y.1) ∧
    (∀ t ∈ tags, t.1 < 4294967296 ∧ ∃ e ∈ es.toList, e.key = .int .u32 t.1 ∧ ∃ a c, e.val = .slice a t.2.length c ∧ BytesAt w F a t.2) ∧
    Go.MapKept.Stamped es clock ∧ ∀ x ∈ es.toList, ∃ t ∈ tags, x.key = .int .u32 t.1
def NumP (k : PK) (v : Value) (n : Int) : Prop :=
  match k with
  | .i8 => v = .int .i8 n ∧ -128 ≤ n ∧ n ≤ 127
  | .i16 => v = .int .i16 n ∧ -32768 ≤ n ∧ n ≤ 32767
  | .u16 => v = .int .u16 n ∧ 0 ≤ n ∧ n ≤ 65535
  | .i32 => v = .int .i32 n ∧ -2147483648 ≤ n ∧ n ≤ 2147483647
  | .i64 => v = .int .i64 n ∧ -9223372036854775808 ≤ n ∧ n ≤ 9223372036854775807
  | _ => False
def KT.enc (q : KT) (n : Int) : List (Nat × List UInt8) := if n = q.df then [] else [(q.tag, encP q.k false (.n n))]
def KnAt : List KT → List Value → List (Nat × List UInt8) → Prop
  | [], _, out => out = []
  | q :: r, cs, out => ∃ v n out', cs[q.off]? = some v ∧ NumP q.k v n ∧ out = q.enc n ++ out' ∧ KnAt r cs out'
def unKn (kn : List KT) (un : List (Nat × List UInt8)) : Prop := ∀ t ∈ un, ∀ q ∈ kn, t.1 ≠ q.tag
def TagsAt (w : World) (F : Nat → Prop) (tg : Option TgF) (cs : List Value) (tags : List (Nat × List UInt8)) : Prop :=
  match tg with
  | none => tags = []
  | some q => ∃ m kn un, cs[q.2]? = some m ∧ RepT w F m un ∧ KnAt q.1.2 cs kn ∧ tags = kn ++ un ∧ unKn q.1.2 un
mutual
def Rep (w : World) (F : Nat → Prop) : Ty → List Value → D → Prop
  | .prim k _, cs, d => RepP w F k cs d
  | .enum k _ _, cs, d => RepP w F k cs d
  | .vstr _ _ _, cs, d => RepP w F .nstr cs d
  | .arr nul _ _ el, cs, d => ∃ isnul xs, d = .l isnul xs ∧
      ((cs = [.slice none 0 0] ∧ xs = [] ∧ isnul = nul.isSome) ∨
       (isnul = false ∧ ∃ (ab : Nat) (arr : List Value) (cap : Nat), cs = [.slice (some ⟨ab, 0, none⟩) xs.length cap] ∧ F ab ∧ w.rangeAt ab 0 arr ∧ xs.length * el.cells ≤ arr.length ∧
          ∀ i d, xs[i]? = some d → Rep w F el ((arr.drop (i * el.cells)).take el.cells) d))
  | .struct _ n _ tg fs, cs, d => ∃ ds tags, d = .r ds tags ∧ cs.length = n ∧ RepF w F fs cs ds ∧ TagsAt w F tg cs tags
def RepF (w : World) (F : Nat → Prop) : Flds → List Value → List D → Prop
  | .nil, _, ds => ds = []
  | .cons _ _ off _ ty rest, cs, ds => off + ty.cells ≤ cs.length ∧ ∃ d ds', ds = d :: ds' ∧ Rep w F ty ((cs.drop off).take ty.cells) d ∧ RepF w F rest cs ds'
end

section
variable {w w' : World} {F F' : Nat → Prop}
theorem cell_of_heap {a : Addr} (h : w'.heap[a.block]? = w.heap[a.block]?) : w'.cell? a = w.cell? a := World.cell?_of_block h
theorem BytesAt.mono {a : Option Addr} {l : List UInt8} (h : BytesAt w F a l) (hF : ∀ b, F b → F' b) (hw : ∀ b, F b → w'.heap[b]? = w.heap[b]?) : BytesAt w' F' a l := by
  intro j b hj
  obtain ⟨g, o, rfl, hg, hc⟩ := h j b hj
  exact ⟨g, o, rfl, hF g hg, by rw [cell_of_heap (hw g hg)]; exact hc⟩
theorem RepP.mono {k : PK} {cs : List Value} {d : D} (h : RepP w F k cs d) (hF : ∀ b, F b → F' b) (hw : ∀ b, F b → w'.heap[b]? = w.heap[b]?) : RepP w' F' k cs d := by
  cases k <;> simp only [RepP] at h ⊢ <;> try exact h
  · rcases h with h | ⟨b, s, h1, h2, h3, h4⟩
    · exact .inl h
    · exact .inr ⟨b, s, h1, hF b h2, by rw [cell_of_heap (hw b h2)]; exact h3, h4⟩
  · obtain ⟨a, c, l, h1, h2, h3⟩ := h
    exact ⟨a, c, l, h1, h2.mono hF hw, h3⟩
  · rcases h with h | ⟨ad, c, l, h1, h2, h3⟩
    · exact .inl h
    · exact .inr ⟨ad, c, l, h1, h2.mono hF hw, h3⟩
end
structure IA where
  tU8 : Nat
  tI16 : Nat
  tInt : Nat
  tU32 : Nat
  tTags : Nat
  i8 : Nat
  i16 : Nat
  i32 : Nat
  i64 : Nat
  u16 : Nat
  bool : Nat
  f64 : Nat
  uuid : Nat
  str : Nat
  nstr : Nat
  byt : Nat
  nbyt : Nat
  cstr : Nat
  cnstr : Nat
  cbyt : Nat
  cnbyt : Nat
  alen : Nat
  calen : Nat
  nalen : Nat
  cnalen : Nat
  uvar : Nat
  tU32s : Nat := 0
  tlen : Nat
  teach : Nat
def IA.fn (I : IA) (k : PK) (flex : Bool) : Nat :=
  match k with
  | .i8 => I.i8 | .i16 => I.i16 | .i32 => I.i32 | .i64 => I.i64 | .u16 => I.u16 | .bool => I.bool | .f64 => I.f64 | .uuid => I.uuid
  | .str => if flex then I.cstr else I.str
  | .nstr => if flex then I.cnstr else I.nstr
  | .byt => if flex then I.cbyt else I.byt
  | .nbyt => if flex then I.cnbyt else I.nbyt
def PK.two : PK → Bool
  | .str | .nstr | .byt | .nbyt => true
  | _ => false
def ifFlex (sf : Option Nat) (t : Nat) (yes no : Nat → MCode × Nat) : MCode × Nat :=
  match sf with
  | none => no t
  | some s =>
    let y := yes (t + 1)
    let n := no y.2
    (.sq (.rg [.mv t (.t s)]) (.cd t y.1 n.1), n.2)
def callA (f v t : Nat) : MCode × Nat := (.rg [.mv t (.t 1), .mv (t + 1) (.t v), .ca (t + 2) f [.t t, .t (t + 1)], .mv 1 (.t (t + 2))], t + 3)
def lenA (f ty v t : Nat) : MCode × Nat := (.rg [.mv t (.t 1), .mv (t + 1) (.t v), .ln (t + 2) ty (t + 1), .ca (t + 3) f [.t t, .t (t + 2)], .mv 1 (.t (t + 3))], t + 4)
def nlenA (f ty v t : Nat) : MCode × Nat :=
  (.rg [.mv t (.t 1), .mv (t + 1) (.t v), .ln (t + 2) ty (t + 1), .mv (t + 3) (.t v), .bi (t + 4) .eql ty (.t (t + 3)) (.c .nslice), .ca (t + 5) f [.t t, .t (t + 2), .t (t + 4)], .mv 1 (.t (t + 5))], t + 6)
def primA (I : IA) (sf : Option Nat) (k : PK) (v t : Nat) : MCode × Nat :=
  if k.two then ifFlex sf t (callA (I.fn k true) v) (callA (I.fn k false) v) else callA (I.fn k false) v t
def loadA (T vs idx ty x t : Nat) : MCode × Nat := (.rg [.mv t (.t vs), .nc (t + 1) t, .fa (t + 2) T (t + 1) idx, .ld (t + 3) ty (t + 2), .mv x (.t (t + 3))], t + 4)
def ktTests (I : IA) (T vs x : Nat) : List KT → Nat → List MCode × Nat
  | [], u => ([], u)
  | q :: r, u =>
    let n := ktTests I T vs x r (u + 8)
    (.sq (.rg [.mv u (.t vs), .nc (u + 1) u, .fa (u + 2) T (u + 1) q.idx, .ld (u + 3) q.ty (u + 2), .bi (u + 4) .neq q.ty (.t (u + 3)) (.c (.int q.k.ik q.df))])
      (.cd (u + 4) (.rg [.mv (u + 5) (.t x), .bsl (u + 6) I.tU32s [.c (.int .u32 q.tag)], .ap (u + 7) I.tU32s I.tU32s (u + 5) (u + 6), .mv x (.t (u + 7))]) .sk) :: n.1, n.2)
def ktChain (I : IA) (T vs s : Nat) : List KT → (y c : Nat) → MCode
  | [], _, _ => .sk
  | q :: r, y, c => .sq (.rg [.bi (c + 1) .eql I.tU32 (.t s) (.c (.int .u32 q.tag)), .mv c (.t (c + 1))]) (.cd c
      (rows [(loadA T vs q.idx q.ty y (c + 2)).1, .rg [.mv (c + 6) (.t 1), .ca (c + 7) I.uvar [.t (c + 6), .c (.int .u32 q.tag)], .mv 1 (.t (c + 7))],
        .rg [.mv (c + 8) (.t 1), .ca (c + 9) I.uvar [.t (c + 8), .c (.int .u32 q.k.oct)], .mv 1 (.t (c + 9))], (callA (I.fn q.k false) y (c + 10)).1])
      (ktChain I T vs s r (y + 1) (c + 13)))
def ktLoop (I : IA) (T vs x u b : Nat) (kn : List KT) (e : Nat) : MCode :=
  .sq (.rg [.mv u (.t x), .ln (u + 1) I.tU32s u, .mv (u + 2) (.c (.int .i64 0))])
    (.bl b (.lp (.sq (.rg [.bi (u + 3) .lss I.tInt (.t (u + 2)) (.t (u + 1))]) (.sq (.cd (u + 3) .sk (.ex b))
      (.sq (.bl (b + 1) (.sq (.rg [.ia (u + 4) I.tU32s u (u + 2), .ld (u + 5) I.tU32 (u + 4), .mv (x + 2) (.t (u + 5))]) (.sq (.rg [.mv (u + 6) (.t (x + 2))]) (.bl (b + 2) (ktChain I T vs (u + 6) kn (x + 3) (u + 7))))))
        (.rg [.bi e .add I.tInt (.t (u + 2)) (.c (.int .i64 1)), .mv (u + 2) (.t e)]))))))
def ktBody (I : IA) (T vs idx : Nat) (kn : List KT) (t x b : Nat) : List MCode :=
  let a := ktTests I T vs x kn t
  let u := a.2
  let e := u + 17 + 13 * kn.length
  .rg [.mv x (.c .nslice)] :: (a.1 ++ [
    .rg [.mv u (.t 1), .mv (u + 1) (.t x), .ln (u + 2) I.tU32s (u + 1), .mv (u + 3) (.t vs), .nc (u + 4) (u + 3), .fa (u + 5) T (u + 4) idx, .ca (u + 6) I.tlen [.t (u + 5)], .bi (u + 7) .add I.tInt (.t (u + 2)) (.t (u + 6)), .cv (u + 8) I.tInt I.tU32 (u + 7),
      .ca (u + 9) I.uvar [.t u, .t (u + 8)], .mv 1 (.t (u + 9))],
    ktLoop I T vs x (u + 10) b kn e,
    .rg [.mv (e + 1) (.t vs), .nc (e + 2) (e + 1), .fa (e + 3) T (e + 2) idx, .mv (e + 4) (.t 1), .ca (e + 5) I.teach [.t (e + 3), .t (e + 4)], .mv 1 (.t (e + 5))]])
def ktEnd (kn : List KT) (t : Nat) : Nat := t + 8 * kn.length + 17 + 13 * kn.length + 6
def tagsA (I : IA) (sf : Option Nat) (T vs : Nat) (tg : Option TgF) (t x b : Nat) : List MCode × Nat × Nat × Nat :=
  match tg, sf with
  | some ((idx, []), _), some s =>
    ([.sq (.rg [.mv t (.t s)]) (.cd t
      (.sq (.rg [.mv (t + 1) (.t 1), .mv (t + 2) (.t vs), .nc (t + 3) (t + 2), .fa (t + 4) T (t + 3) idx, .ca (t + 5) I.tlen [.t (t + 4)], .cv (t + 6) I.tInt I.tU32 (t + 5),
            .bi (t + 7) .add I.tU32 (.c (.int .u32 0)) (.t (t + 6)), .ca (t + 8) I.uvar [.t (t + 1), .t (t + 7)], .mv 1 (.t (t + 8))])
           (.rg [.mv (t + 9) (.t vs), .nc (t + 10) (t + 9), .fa (t + 11) T (t + 10) idx, .mv (t + 12) (.t 1), .ca (t + 13) I.teach [.t (t + 11), .t (t + 12)], .mv 1 (.t (t + 13))]))
      .sk)], t + 14, x, b)
  | some ((idx, q :: r), _), some s =>
    ([.sq (.rg [.mv t (.t s)]) (.cd t (rows (ktBody I T vs idx (q :: r) (t + 1) x b)) .sk)], ktEnd (q :: r) (t + 1), x + 3 + (q :: r).length, b + 3)
  | _, _ => ([], t, x, b)
def condA (I : IA) (sver : Nat) (c : Cnd) (t : Nat) (body : Nat → MCode × Nat × Nat × Nat) : MCode × Nat × Nat × Nat :=
  match c with
  | .always => body t
  | .ge lo =>
    let r := body (t + 2)
    (.sq (.rg [.mv t (.t sver), .bi (t + 1) .geq I.tI16 (.t t) (.c (.int .i16 lo))]) (.cd (t + 1) r.1 .sk), r.2)
  | .btw lo hi =>
    let r := body (t + 6)
    (.sq (.tw sver I.tI16 lo hi t) (.cd (t + 5) r.1 .sk), r.2)
def loopA (ti ty v x t b : Nat) (body : Nat → Nat → List MCode × Nat × Nat × Nat) : MCode × Nat × Nat × Nat :=
  let r := body (t + 5) (b + 2)
  (.sq (.rg [.mv t (.t v), .ln (t + 1) ty t, .mv (t + 2) (.c (.int .i64 0))])
    (.bl b (.lp (.sq (.rg [.bi (t + 3) .lss ti (.t (t + 2)) (.t (t + 1))]) (.sq (.cd (t + 3) .sk (.ex b))
      (.sq (.bl (b + 1) (rows (.rg [.mv (t + 4) (.t (t + 2)), .mv x (.t (t + 4))] :: r.1)))
        (.rg [.bi r.2.1 .add ti (.t (t + 2)) (.c (.int .i64 1)), .mv (t + 2) (.t r.2.1)])))))), r.2.1 + 1, r.2.2.1, r.2.2.2)
def alenA (I : IA) (sver : Nat) (sf : Option Nat) (nul : Option Nat) (ty v t : Nat) : MCode × Nat :=
  match nul with
  | none => ifFlex sf t (lenA I.calen ty v) (lenA I.alen ty v)
  | some 0 => ifFlex sf t (nlenA I.cnalen ty v) (nlenA I.nalen ty v)
  | some (k + 1) =>
    let y := ifFlex sf (t + 2) (nlenA I.cnalen ty v) (nlenA I.nalen ty v)
    let n := ifFlex sf y.2 (lenA I.calen ty v) (lenA I.alen ty v)
    (.sq (.rg [.mv t (.t sver), .bi (t + 1) .geq I.tI16 (.t t) (.c (.int .i16 ((k + 1 : Nat) : Int)))]) (.cd (t + 1) y.1 n.1), n.2)
def PK.box : PK → Bool
  | .uuid => true
  | _ => false
def primFldA (I : IA) (sf : Option Nat) (T vs idx : Nat) (k : PK) (ty x t : Nat) : MCode × Nat :=
  if k.box then (.sq (.rg [.mv t (.t vs), .nc (t + 1) t, .fa (t + 2) T (t + 1) idx, .ld (t + 3) ty (t + 2), .al x ty, .st ty x (t + 3)])
      (.rg [.mv (t + 4) (.t 1), .ld (t + 5) ty x, .ca (t + 6) (I.fn k false) [.t (t + 4), .t (t + 5)], .mv 1 (.t (t + 6))]), t + 7)
  else (rows [(loadA T vs idx ty x t).1, (primA I sf k x (t + 4)).1], (primA I sf k x (t + 4)).2)
def vstrA (I : IA) (sver : Nat) (sf : Option Nat) (lim ty base x t : Nat) : MCode × Nat :=
  let y := primA I sf .str (x + 2) (t + 8)
  let n := primA I sf .nstr x y.2
  (.sq (.rg [.mv t (.t sver), .bi (t + 1) .lss I.tI16 (.t t) (.c (.int .i16 lim))])
    (.cd (t + 1) (rows [.rg [.mv (x + 1) (.c .estr)], .sq (.rg [.mv (t + 2) (.t x), .bi (t + 3) .neq ty (.t (t + 2)) (.c .nptr)]) (.cd (t + 3) (.rg [.mv (t + 4) (.t x), .nc (t + 5) (t + 4), .ld (t + 6) base (t + 5), .mv (x + 1) (.t (t + 6))]) .sk),
      .rg [.mv (t + 7) (.t (x + 1)), .mv (x + 2) (.t (t + 7))], y.1]) n.1), n.2)
mutual
def genE (I : IA) (sver : Nat) (sf : Option Nat) (ty ety : Nat) : Ty → (v x t x' b : Nat) → List MCode × Nat × Nat × Nat
  | .prim k _, v, x, t, x', b =>
    if k.box then ([.sq (.rg [.mv t (.t v), .mv (t + 1) (.t x), .ia (t + 2) ty t (t + 1), .ld (t + 3) ety (t + 2), .al (x + 1) ety, .st ety (x + 1) (t + 3)])
      (.rg [.mv (t + 4) (.t 1), .ld (t + 5) ety (x + 1), .ca (t + 6) (I.fn k false) [.t (t + 4), .t (t + 5)], .mv 1 (.t (t + 6))])], t + 7, x', b)
    else
    let r := primA I sf k (x + 1) (t + 4)
    ([.rg [.mv t (.t v), .mv (t + 1) (.t x), .ia (t + 2) ty t (t + 1), .ld (t + 3) ety (t + 2), .mv (x + 1) (.t (t + 3))], r.1], r.2, x', b)
  | .struct T _ _ tg fs, v, x, t, x', b =>
    let r := genF I sver sf T (x + 1) fs (t + 3) x' b
    let g := tagsA I sf T (x + 1) tg r.2.1 r.2.2.1 r.2.2.2
    (.rg [.mv t (.t v), .mv (t + 1) (.t x), .ia (t + 2) ty t (t + 1), .mv (x + 1) (.t (t + 2))] :: (r.1 ++ g.1), g.2)
  | _, _, _, t, x', b => ([], t, x', b)
def genF (I : IA) (sver : Nat) (sf : Option Nat) (T vs : Nat) : Flds → (t x b : Nat) → List MCode × Nat × Nat × Nat
  | .nil, t, x, b => ([], t, x, b)
  | .cons c idx _ _ ty rest, t, x, b =>
    let f := condA I sver c t (fun t => genFld I sver sf T vs idx ty t x b)
    let r := genF I sver sf T vs rest f.2.1 f.2.2.1 f.2.2.2
    (f.1 :: r.1, r.2)
def genFld (I : IA) (sver : Nat) (sf : Option Nat) (T vs idx : Nat) : Ty → (t x b : Nat) → MCode × Nat × Nat × Nat
  | .prim k ty, t, x, b =>
    let r := primFldA I sf T vs idx k ty x t
    (r.1, r.2, x + 1, b)
  | .enum k ty base, t, x, b =>
    let l := loadA T vs idx ty x t
    let r := callA (I.fn k false) (x + 1) (l.2 + 1)
    (rows [l.1, .sq (.rg [.mv l.2 (.t x), .mv (x + 1) (.t l.2)]) r.1], r.2, x + 2, b)
  | .vstr lim ty base, t, x, b =>
    let l := loadA T vs idx ty x t
    let r := vstrA I sver sf lim ty base x l.2
    (rows [l.1, r.1], r.2, x + 3, b)
  | .arr nul ty ety el, t, x, b =>
    let l := loadA T vs idx ty x t
    let h := alenA I sver sf nul ty x l.2
    let p := loopA I.tInt ty x (x + 1) h.2 b (fun t' b' => genE I sver sf ty ety el x (x + 1) t' (x + 3) b')
    (rows [l.1, h.1, p.1], p.2)
  | .struct T' _ _ tg fs, t, x, b =>
    let r := genF I sver sf T' x fs (t + 3) (x + 1) b
    let g := tagsA I sf T' x tg r.2.1 r.2.2.1 r.2.2.2
    (rows (.rg [.mv t (.t vs), .nc (t + 1) t, .fa (t + 2) T (t + 1) idx, .mv x (.t (t + 2))] :: (r.1 ++ g.1)), g.2)
end
set_option linter.unusedVariables false
def lim : Nat := 1099511627776
def OwnB (U : Nat) (w : World) (B : Nat) (sv : Value) (bs : List UInt8) : Prop := w.ownsRow B U 1 sv bs.length (bs.map byteV)
def Gr (w w' : World) (sv : Value) : Prop := ∀ k, k < w.heap.size → some k ≠ sv.ownBlock → w'.heap[k]? = w.heap[k]?
def ApC (P : Program) (U f : Nat) (R : World → Nat → Value → List UInt8 → Prop) : Prop :=
  entersB P f = true ∧ ∀ (w : World) (B : Nat) (sv x : Value) (bs out : List UInt8), B ≤ w.heap.size → OwnB U w B sv bs → R w B x out → bs.length + out.length ≤ lim →
    Calls P f #[sv, x] w (fun e w' => ∃ sv', e = .returned sv' ∧ OwnB U w' B sv' (bs ++ out) ∧ Below B w w')
def ApG (P : Program) (U f : Nat) (R : World → Nat → Value → List UInt8 → Prop) : Prop :=
  entersB P f = true ∧ ∀ (w : World) (B : Nat) (sv x : Value) (bs out : List UInt8), B ≤ w.heap.size → OwnB U w B sv bs → R w B x out → bs.length + out.length ≤ lim →
    Calls P f #[sv, x] w (fun e w' => ∃ sv', e = .returned sv' ∧ OwnB U w' B sv' (bs ++ out) ∧ Below B w w' ∧ Gr w w' sv)
theorem ApG.c {P : Program} {U f : Nat} {R : World → Nat → Value → List UInt8 → Prop} (h : ApG P U f R) : ApC P U f R :=
  ⟨h.1, fun w B sv x bs out h1 h2 h3 h4 => Calls.mono (h.2 w B sv x bs out h1 h2 h3 h4) fun e w' ⟨sv', a, b, c, _⟩ => ⟨sv', a, b, c⟩⟩
def Keep (L x x' : Nat) (ρ ρ' : Nat → Value) : Prop := ∀ s, s < L → s ≠ 1 → (s < x ∨ x' ≤ s) → ρ' s = ρ s
theorem Keep.refl (L x x' : Nat) (ρ : Nat → Value) : Keep L x x' ρ ρ := fun _ _ _ _ => rfl
theorem Keep.trans {L x y z : Nat} {ρ ρ' ρ'' : Nat → Value} (h : Keep L x y ρ ρ') (k : Keep L y z ρ' ρ'') (h1 : x ≤ y) (h2 : y ≤ z) : Keep L x z ρ ρ'' :=
  fun s hs h0 h3 => (k s hs h0 (by omega)).trans (h s hs h0 (by omega))
section
variable (P : Program) (U B N L : Nat)
def Writes (m : MCode) (ρ : Nat → Value) (w : World) (x x' : Nat) (out : List UInt8) : Prop :=
  ∀ (a : Act) (bs : List UInt8) (Q : Exit → Act → World → Prop), Loc N L ρ a → OwnB U w B (ρ 1) bs → bs.length + out.length ≤ lim →
    (∀ a' w' ρ', Loc N L ρ' a' → Keep L x x' ρ ρ' → OwnB U w' B (ρ' 1) (bs ++ out) → Below B w w' → Q .normal a' w') → MW P m Q a w
end
section
variable {P : Program} {U B N L : Nat} {ρ : Nat → Value} {w : World} {x x' : Nat} {out : List UInt8}
theorem Writes.sk (h : x ≤ x') : Writes P U B N L .sk ρ w x x' [] := by
  intro a bs Q hl ho hlim hQ
  exact MW.sk (hQ a w ρ hl (Keep.refl _ _ _ _) (by simpa using ho) (Below.refl _ _))
end
/-! ### New variables -/
theorem cell_box (w : World) (cs : List Value) (T : Nat) {j : Nat} {v : Value} (h : cs[j]? = some v) : (w.alloc (.cells cs.toArray T)).cell? ⟨w.heap.size, 0 + j, none⟩ = some v := by
  rw [Nat.zero_add, World.cell?_alloc_new]
  simpa using h
theorem size_box (w : World) (o : Obj) : (w.alloc o).heap.size = w.heap.size + 1 := by show (w.heap.push o).size = _; simp
theorem below_box (w : World) (o : Obj) : Below w.heap.size w (w.alloc o) := (Below.refl _ w).alloc (Nat.le_refl _) o
theorem there_box (w : World) (cs : List Value) (T : Nat) : (w.alloc (.cells cs.toArray T)).there w.heap.size 0 cs.length := by
  intro j hj
  refine ⟨?_, ?_⟩
  · rw [cell_box w cs T (List.getElem?_eq_getElem hj)]; rfl
  · rw [frozen?_alloc_cells]
    unfold World.frozen?
    simp
theorem below_setCells {B b : Nat} (hB : B ≤ b) : ∀ (vs : List Value) (o : Nat) {w a : World}, Below B a w → Below B a (w.setCells b o vs)
  | [], _, _, _, h => h
  | v :: vs, o, w, a, h => below_setCells hB vs (o + 1) (h.setCell (p := ⟨b, o, none⟩) hB v)
theorem size_setCells (b : Nat) : ∀ (vs : List Value) (o : Nat) (w : World), (w.setCells b o vs).heap.size = w.heap.size
  | [], _, _ => rfl
  | v :: vs, o, w => by
    show ((w.setCell ⟨b, o, none⟩ v).setCells b (o + 1) vs).heap.size = _
    rw [size_setCells b vs (o + 1)]; simp
theorem OwnB.keep {w w' : World} {U B : Nat} {sv : Value} {bs : List UInt8} (h : OwnB U w B sv bs) (hb : Below w.heap.size w w') : OwnB U w' B sv bs := by
  obtain ⟨h1, h2⟩ := h
  refine ⟨h1, ?_⟩
  rcases h2 with h2 | ⟨g, cap, cur, h2, h3, h4, h5⟩
  · exact .inl h2
  · exact .inr ⟨g, cap, cur, h2, h3, by rw [hb.block g (by have := (Array.getElem?_eq_some_iff.1 h4).1; exact this)]; exact h4, h5⟩
set_option linter.unusedVariables false
theorem wrap_i64 {x : Int} (h0 : -9223372036854775808 ≤ x) (h1 : x < 9223372036854775808) : IntKind.i64.wrap x = x := by
  unfold IntKind.wrap
  simp only [IntKind.bits, IntKind.signed, Bool.true_and, decide_eq_true_eq, show ((2 : Int) ^ 64) = 18446744073709551616 from rfl, show ((2 : Int) ^ (64 - 1)) = 9223372036854775808 from rfl]
  split <;> omega
section
variable {P : Program} {U B N L : Nat} {ρ : Nat → Value} {w : World} {x x' : Nat} {out : List UInt8}
theorem Loc.all {a : Act} (h : Loc N L ρ a) (M : Nat) : ∃ ρ', Loc N M ρ' a ∧ (∀ s, s < L → ρ' s = ρ s) ∧ (∀ s, ρ' s = rd a s) := by
  refine ⟨fun s => rd a s, ⟨h.size, h.defers, fun _ _ => rfl⟩, fun s hs => h.get s hs, fun _ => rfl⟩
def LenC (P : Program) (U f : Nat) (o : Nat → List UInt8) : Prop :=
  ApC P U f (fun _ _ x out => ∃ n : Nat, n ≤ 32767 ∧ x = .int .i64 n ∧ out = o n)
end
section
variable {P : Program} {Q : Exit → Act → World → Prop} {a : Act} {w : World}
theorem wpList_value {ops : Array Oper} {o : Oper} {rest : List Oper} {d : Nat} {v : Value} (hw : Region.wanted o (yielded ops a.tmps) = true) (hd : o.dst = some d)
    (hr : (execOp a.eval o).run P w = .ok (.value v) w) (h : wpList P ops Q rest (wr a d v) w) : wpList P ops Q (o :: rest) a w := by
  unfold wpList
  rw [if_pos hw]
  refine .inl ?_
  unfold Oper.wp
  rw [hr, Oper.upon_value, hd]
  exact h
theorem wpList_passed {ops : Array Oper} {o : Oper} {rest : List Oper} {d : Nat} (hw : Region.wanted o (yielded ops a.tmps) = false) (hd : o.dst = some d)
    (h : wpList P ops Q rest (wr a d undef) w) : wpList P ops Q (o :: rest) a w := by
  unfold wpList
  rw [if_neg (by rw [hw]; exact Bool.false_ne_true), hd]
  exact h
theorem get_tmps {s : Nat} {v : Value} (h : rd a s = v) (hs : s < a.tmps.size) : a.tmps[s]? = some v := by
  unfold rd at h
  rw [Array.getElem?_eq_getElem hs]
  simp only [Array.getD, hs, dif_pos] at h
  rw [← h]; rfl
end
section
variable {P : Program} {U B N L : Nat} {ρ : Nat → Value} {w : World} {x x' : Nat} {out : List UInt8}
def TlenC (P : Program) (f : Nat) : Prop :=
  entersB P f = true ∧ ∀ (w : World) (B : Nat) (p : Addr) (m : Value) (tags : List (Nat × List UInt8)), RepT w (· < B) m tags → w.cell? p = some m →
    Calls P f #[.pointer (some p)] w (fun e w' => e = .returned (.int .i64 tags.length) ∧ w' = w)
def smallT (tags : List (Nat × List UInt8)) : Prop := tags.length ≤ 40000 ∧ ∀ t ∈ tags, t.2.length ≤ 32767
def TeachC (P : Program) (U f : Nat) (S : List (Nat × List UInt8) → Prop) : Prop :=
  entersB P f = true ∧ ∀ (w : World) (B : Nat) (p : Addr) (m sv : Value) (tags : List (Nat × List UInt8)) (bs : List UInt8), B ≤ w.heap.size → p.block < B → OwnB U w B sv bs →
    RepT w (· < B) m tags → S tags → w.cell? p = some m → bs.length + (tags.flatMap encTag).length ≤ lim →
    Calls P f #[.pointer (some p), sv] w (fun e w' => ∃ sv', e = .returned sv' ∧ OwnB U w' B sv' (bs ++ tags.flatMap encTag) ∧ Below B w w')
def UvarC (P : Program) (U f : Nat) : Prop := ApC P U f (fun _ _ x out => ∃ n : Nat, n < 4294967296 ∧ x = .int .u32 n ∧ out = uv n)
def NLenC (P : Program) (U f : Nat) (flex : Bool) : Prop :=
  entersB P f = true ∧ ∀ (w : World) (B : Nat) (sv : Value) (bs : List UInt8) (n : Nat) (isnil : Bool), B ≤ w.heap.size → OwnB U w B sv bs → n ≤ 32767 →
    bs.length + (if isnil then cntNull flex 4 else cnt flex 4 n).length ≤ lim →
    Calls P f #[sv, .int .i64 n, .bool isnil] w (fun e w' => ∃ sv', e = .returned sv' ∧ OwnB U w' B sv' (bs ++ (if isnil then cntNull flex 4 else cnt flex 4 n)) ∧ Below B w w')
end
section
variable {I : IA} {sver : Nat} {sf : Option Nat}
end
section
variable {I : IA} {sver : Nat} {sf : Option Nat}
end
set_option linter.unusedVariables false
def args0 (l : List Value) : Nat → Value := fun s => l.getD s undef
def xof (ρ : Nat → Value) : MX → Value
  | .t s => ρ s
  | .c m => m.val
def evB : BinOp → Value → Value → Option Value
  | .shr, .int k a, .int _ b => if 0 ≤ b then some (.int k (a.fdiv (2 ^ (min b.toNat k.bits)))) else none
  | .shl, .int k a, .int _ b => if 0 ≤ b then some (.int k (k.wrap (a * 2 ^ (min b.toNat k.bits)))) else none
  | .add, .int k a, .int k' b => if k = k' then some (.int k (k.wrap (a + b))) else none
  | .sub, .int k a, .int k' b => if k = k' then some (.int k (k.wrap (a - b))) else none
  | .mul, .int k a, .int k' b => if k = k' then some (.int k (k.wrap (a * b))) else none
  | .rem, .int k a, .int k' b => if k = k' ∧ b ≠ 0 then some (.int k (a.tmod b)) else none
  | .and, .int k a, .int k' b => if k = k' then some (.int k (k.wrap (BitVec.ofInt k.bits a &&& BitVec.ofInt k.bits b).toNat)) else none
  | .or, .int k a, .int k' b => if k = k' then some (.int k (k.wrap (BitVec.ofInt k.bits a ||| BitVec.ofInt k.bits b).toNat)) else none
  | .xor, .int k a, .int k' b => if k = k' then some (.int k (k.wrap (BitVec.ofInt k.bits a ^^^ BitVec.ofInt k.bits b).toNat)) else none
  | .lss, .int k a, .int k' b => if k = k' then some (.bool (decide (a < b))) else none
  | .leq, .int k a, .int k' b => if k = k' then some (.bool (decide (a ≤ b))) else none
  | .gtr, .int k a, .int k' b => if k = k' then some (.bool (decide (b < a))) else none
  | .geq, .int k a, .int k' b => if k = k' then some (.bool (decide (b ≤ a))) else none
  | .eql, .int k a, .int k' b => if k = k' then some (.bool (a == b)) else none
  | .neq, .int k a, .int k' b => if k = k' then some (.bool (!(a == b))) else none
  | _, _, _ => none
theorem evB_run {P : Program} {w : World} {op : BinOp} {x y v : Value} (ty : Nat) (h : evB op x y = some v) :
    (binOp op ty x y).run P w = .ok v w ∧ ∀ ox oy, (eqGuard op ty ox oy x y).run P w = .ok () w := by
  cases x <;> cases y <;> cases op <;> simp only [evB, reduceCtorEq] at h
  all_goals (rename_i k a k' b; refine ⟨?_, fun ox oy => eqGuard_num _ _ _ _ _ _ _ _⟩)
  all_goals (split at h <;> simp only [Option.some.injEq, reduceCtorEq] at h; subst h)
  case int.int.shl h1 => have : ¬ b < 0 := by omega
                         simp [binOp, Op.shift, this]
  case int.int.shr h1 => have : ¬ b < 0 := by omega
                         simp [binOp, Op.shift, this]
  case int.int.rem h1 => obtain ⟨rfl, h2⟩ := h1; simp [binOp, Op.intDiv, h2]
  all_goals (rename_i h1; subst h1; simp [binOp, Op.intArith, Op.intBits, Op.intCmp, bne])
def MX.slots : MX → List Nat
  | .t s => [s]
  | .c _ => []
def reads : MOp → List Nat
  | .mv _ x => x.slots
  | .b2 _ _ x y | .bi _ _ _ x y | .mn _ x y | .mxi _ x y => x.slots ++ y.slots
  | .nt _ s | .cv _ _ _ s => [s]
  | _ => []
section
variable {P : Program} {Q : Exit → Act → World → Prop} {a : Act} {w : World} {ms : List MOp}
theorem ML.b2 {d : Nat} {op : BinOp} {x y : MX} {v : Value} (h1 : evB op (x.of a) (y.of a) = some v) (h : ML P ms Q (wr a d v) w) : ML P (.b2 d op x y :: ms) Q a w := by
  refine ML.step (d := some d) (v := v) (w' := w) (fun o' ho => ?_) h
  have hf := fitOper_op ho
  generalize hop : o'.op = op' at hf
  unfold execOp
  cases op' <;> simp only [fitOp, Bool.and_eq_true, Bool.false_eq_true, Nat.beq_eq] at hf
  obtain ⟨⟨⟨k1, k2⟩, k3⟩, k4⟩ := hf
  have k2' := sameOp_eq k2
  subst k2'
  rename_i ty _ _ _
  obtain ⟨r1, r2⟩ := evB_run (P := P) (w := w) ty h1
  exact ⟨dstIs_eq k1, .inl (by simp only [hop, MX.is_eval k3 a, MX.is_eval k4 a, Sem.run_bind, r2, r1, Result.andThen_ok, Sem.run_pure])⟩
theorem Loc.put {N : Nat} {ρ : Nat → Value} (hl : Loc N N ρ a) {d : Nat} {v : Value} (hd : d < N) : Loc N N (upd ρ d v) (wr a d v) := hl.set v hd
end
set_option linter.unusedVariables false
def u8Ty (P : Program) (U : Nat) : Bool :=
  match P.info? U with
  | some i => Nat.beq i.size 1 && Nat.beq i.bytes 1 && (match i.zero with | some v => (MVal.int .u8 0).is v | none => false)
  | none => false
theorem u8Ty_info {P : Program} {U : Nat} (h : u8Ty P U = true) : ∃ i, P.info? U = some i ∧ i.size = 1 ∧ i.bytes = 1 ∧ i.zero = some (.int .u8 0) := by
  unfold u8Ty at h
  cases hi : P.info? U with
  | none => simp [hi] at h
  | some i =>
    simp only [hi, Bool.and_eq_true, Nat.beq_eq] at h
    obtain ⟨⟨h1, h2⟩, h3⟩ := h
    cases hz : i.zero with
    | none => simp [hz] at h3
    | some v =>
      simp only [hz] at h3
      exact ⟨i, rfl, h1, h2, by rw [hz, MVal.is_eq h3]; rfl⟩
def strTy (P : Program) (T : Nat) : Bool :=
  match P.underlying T with
  | some .string => true
  | _ => false
theorem strTy_eq {P : Program} {T : Nat} (h : strTy P T = true) : P.underlying T = some .string := by
  unfold strTy at h
  cases hu : P.underlying T with
  | none => simp [hu] at h
  | some d => cases d <;> simp_all
theorem fill_ones : ∀ (vs : List Value) (pre : List Value) (post : List Value), (∀ v ∈ vs, v.cells = #[v]) → vs.length = post.length →
    Instr.fill (fun i => some (i * 1, 1)) (pre ++ post).toArray ((List.range' pre.length vs.length).zip vs) = some (pre ++ vs).toArray
  | [], pre, post, _, h => by
    have : post = [] := by cases post <;> simp_all
    simp [Instr.fill, this]
  | v :: vs, pre, post, hv, h => by
    cases post with
    | nil => simp at h
    | cons p post =>
      have hc := hv v List.mem_cons_self
      have ih := fill_ones vs (pre ++ [v]) post (fun u hu => hv u (List.mem_cons_of_mem _ hu)) (by simpa using h)
      simp only [List.length_cons, List.range'_succ, List.zip_cons_cons, Instr.fill, hc]
      simp only [List.length_append, List.length_cons, List.length_nil, Nat.zero_add] at ih
      rw [if_neg (by simp)]
      have : ((#[v] : Array Value).zipIdx.foldl (fun cs (x : Value × Nat) => cs.setIfInBounds (pre.length * 1 + x.2) x.1) (pre ++ p :: post).toArray) = (pre ++ [v] ++ post).toArray := by
        simp
      rw [show (fun (cs : Array Value) (x : Value × Nat) => match x with | (c, j) => cs.setIfInBounds (pre.length * 1 + j) c) = (fun cs (x : Value × Nat) => cs.setIfInBounds (pre.length * 1 + x.2) x.1) from rfl, this]
      rw [ih]; simp
theorem fitParts_eval {a : Act} : ∀ {i : Nat} {xs : List MX} {ps : List (Nat × Operand)}, fitParts i xs ps = true → ps.map (fun (p : Nat × Operand) => (p.1, a.eval p.2)) = (List.range' i xs.length).zip (xs.map (MX.of a))
  | i, [], [], _ => rfl
  | i, [], _ :: _, h => by simp [fitParts] at h
  | i, _ :: _, [], h => by simp [fitParts] at h
  | i, x :: xs, (j, o) :: ps, h => by
    simp only [fitParts, Bool.and_eq_true, Nat.beq_eq] at h
    obtain ⟨⟨rfl, h2⟩, h3⟩ := h
    simp only [List.map_cons, List.length_cons, List.range'_succ, List.zip_cons_cons, MX.is_eval h2 a, fitParts_eval h3]
section
variable {P : Program} {Q : Exit → Act → World → Prop} {a : Act} {w : World} {ms : List MOp}
theorem ML.bsl {d T U : Nat} {xs : List MX} {bs : List UInt8} (hT : sliceOf P T U = true) (hU : u8Ty P U = true) (hx : xs.map (MX.of a) = bs.map byteV) (hn : xs.length ≤ 16)
    (h : ML P ms Q (wr a d (.slice (some ⟨w.heap.size, 0, none⟩) bs.length bs.length)) (w.alloc (.cells (bs.map byteV).toArray U))) : ML P (.bsl d T xs :: ms) Q a w := by
  have hlen : xs.length = bs.length := by have := congrArg List.length hx; simpa using this
  refine ML.step (d := some d) (v := .slice (some ⟨w.heap.size, 0, none⟩) bs.length bs.length) (w' := w.alloc (.cells (bs.map byteV).toArray U)) (fun o ho => ?_) h
  have hf := fitOper_op ho
  generalize hop : o.op = op at hf
  unfold execOp
  cases op <;> simp only [fitOp, Bool.and_eq_true, Bool.false_eq_true, Nat.beq_eq] at hf
  rename_i T' n ps
  obtain ⟨⟨⟨h1, h2⟩, h3⟩, h4⟩ := hf
  subst h2 h3
  obtain ⟨i, hi, hs, hb, hz⟩ := u8Ty_info hU
  refine ⟨dstIs_eq h1, .inl ?_⟩
  have hps : (ps.map fun (p : Nat × Operand) => (p.1, a.eval p.2)).toList = (List.range' 0 xs.length).zip (xs.map (MX.of a)) := by
    rw [Array.toList_map]; exact fitParts_eval h4
  have hfill := fill_ones (bs.map byteV) [] (List.replicate bs.length (.int .u8 0)) (by intro v hv; simp only [List.mem_map] at hv; obtain ⟨b, _, rfl⟩ := hv; rfl) (by simp)
  simp only [List.nil_append, List.length_nil, List.length_map, Nat.mul_one] at hfill
  simp only [hop, Sem.run_bind, Instr.buildSlice, run_underlying (sliceOf_eq hT), Result.andThen_ok, sizeOf, typeInfo, run_program, hi, Sem.run_pure, hs]
  rw [if_neg (by omega)]
  have hps' : (ps.map fun (x : Nat × Operand) => match x with | (i, x) => (i, a.eval x)).toList = (List.range' 0 bs.length).zip (bs.map byteV) := by
    rw [← hlen, ← hx]; exact hps
  have hzero : ∀ n : Nat, (Array.map (fun x => (Value.int IntKind.u8 0).cells[x % (Value.int IntKind.u8 0).cells.size]!) (Array.range n)) = (List.replicate n (Value.int IntKind.u8 0)).toArray := by
    intro n
    apply Array.toList_inj.1
    simp [Value.cells, Nat.mod_one]
    exact List.eq_replicate_iff.2 ⟨by simp, by simp⟩
  simp only [Nat.mul_one, hlen]
  by_cases h0 : bs.length = 0
  · have hb0 : bs = [] := List.eq_nil_of_length_eq_zero h0
    subst hb0
    simp only [List.length_nil, if_true, Sem.run_pure, Result.andThen_ok, Sem.run_bind]
    have hps0 : (ps.map fun (x : Nat × Operand) => match x with | (i, x) => (i, a.eval x)).toList = [] := by simpa using hps'
    simp only [hps0, Instr.fill]
    simp only [newRow, Sem.run_bind, run_newObj, Result.andThen_ok, Sem.run_pure]
    rw [show (Array.map (fun x => (#[] : Array Value)[x % (#[] : Array Value).size]!) (Array.range 0)) = #[] from by simp]
    rfl
  · rw [if_neg h0]
    simp only [zeroValue, typeInfo, Sem.run_bind, run_program, Result.andThen_ok, hi, Sem.run_pure, hz, hps', hzero, hfill, newRow, run_newObj]
    rfl
theorem OwnB.nil (U : Nat) (w : World) (B : Nat) : OwnB U w B (.slice none 0 0) [] := World.ownsRow_nil w B U 1
theorem OwnB.alloc {U B : Nat} {sv : Value} {bs : List UInt8} (h : OwnB U w B sv bs) (o : Obj) : OwnB U (w.alloc o) B sv bs := World.ownsRow.alloc h o
theorem BytesAt.new {U : Nat} (l : List UInt8) : BytesAt (w.alloc (.cells (l.map byteV).toArray U)) (fun _ => True) (some ⟨w.heap.size, 0, none⟩) l := by
  intro j b hj
  refine ⟨w.heap.size, 0, rfl, trivial, ?_⟩
  rw [Nat.zero_add, World.cell?_alloc_new]
  simp [hj]
end
theorem calls_leaf {P : Program} {f : Nat} {fn : Func} {c : Code} {m : MCode} {args : List Value} {N : Nat} {w : World} {R : Ending → World → Prop} (hf : P.funcs[f]? = some fn) (hb : fn.body = some c) (hfit : fits m c = true) (hN : fn.ntmps = N)
    (hle : args.length ≤ N) (h : ∀ a, Loc N N (args0 args) a → MW P m (bodyPost P fn R) a w) : Calls P f args.toArray w R := by
  refine calls_of_wp hf hb (h _ ?_ c hfit)
  refine ⟨by simp; omega, rfl, fun s hs => ?_⟩
  simp only [rd, args0]
  rw [Array.getD_eq_getD_getElem?, Array.getElem?_append]
  by_cases h1 : s < args.length
  · simp [h1]
  · have : args.toArray.size ≤ s := by simpa using Nat.le_of_not_lt h1
    rw [if_neg (by simpa using h1)]
    simp only [List.getD_eq_getElem?_getD]
    rw [List.getElem?_eq_none (Nat.le_of_not_lt h1), Array.getElem?_replicate]
    split <;> rfl
structure IT where
  u8 : Nat
  u8s : Nat
  i8 : Nat
  i16 : Nat
  u16 : Nat
  i32 : Nat
  u32 : Nat
  i64 : Nat
  u64 : Nat
  int : Nat
  str : Nat
  bool : Nat
structure TOK (P : Program) (T : IT) : Prop where
  u8 : u8Ty P T.u8 = true
  u8i : intTy P T.u8 .u8 = true
  u8s : sliceOf P T.u8s T.u8 = true
  i8 : T.i8 ≠ 0 → intTy P T.i8 .i8 = true
  i16 : T.i16 ≠ 0 → intTy P T.i16 .i16 = true
  u16 : T.u16 ≠ 0 → intTy P T.u16 .u16 = true
  i32 : T.i32 ≠ 0 → intTy P T.i32 .i32 = true
  u32 : T.u32 ≠ 0 → intTy P T.u32 .u32 = true
  i64 : T.i64 ≠ 0 → intTy P T.i64 .i64 = true
  u64 : T.u64 ≠ 0 → intTy P T.u64 .u64 = true
  int : intTy P T.int .i64 = true
  str : T.str ≠ 0 → strTy P T.str = true
structure FnIs (P : Program) (f : Nat) (m : MCode) (N r : Nat) : Prop where
  ex : ∃ fn c, P.funcs[f]? = some fn ∧ fn.body = some c ∧ fits m c = true ∧ fn.ntmps = N ∧ fn.results = #[.tmp r]
  ent : entersB P f = true
theorem FnIs.calls {P : Program} {f N r : Nat} {m : MCode} (h : FnIs P f m N r) {args : List Value} {w : World} {R : Ending → World → Prop} (hle : args.length ≤ N)
    (hw : ∀ (a : Act) (fn : Func), fn.results = #[.tmp r] → Loc N N (args0 args) a → MW P m (bodyPost P fn R) a w) : Calls P f args.toArray w R := by
  obtain ⟨fn, c, h1, h2, h3, h4, h5⟩ := h.ex
  exact calls_leaf h1 h2 h3 h4 hle fun a hl => hw a fn h5 hl
section
variable {P : Program} {T : IT} {w : World}
def octetsCode (T : IT) (pre : List MOp) (xs : List MX) (d1 d2 : Nat) : MCode :=
  rows [.rg [.mv 4 (.c .nslice)], .rg (pre ++ [.bsl d1 T.u8s xs, .ap d2 T.u8s T.u8s 5 d1, .mv 4 (.t d2)]), .rt]
/-! The octets of numbers. -/
theorem byteV_of {n : Int} {k : Nat} (h0 : 0 ≤ n) (h : n.toNat % 256 = k % 256) : Value.int .u8 (IntKind.u8.wrap n) = byteV (UInt8.ofNat k) := by
  unfold byteV
  rw [IntKind.wrap_u8]
  have : (UInt8.ofNat k).toNat = k % 256 := by simp
  rw [this]
  congr 1
  omega
theorem be_one (n : Nat) : be n 1 = [UInt8.ofNat (n % 256)] := rfl
theorem be_two (n : Nat) : be n 2 = [UInt8.ofNat (n / 256 % 256), UInt8.ofNat (n % 256)] := rfl
theorem be_four (n : Nat) : be n 4 = [UInt8.ofNat (n / 256 / 256 / 256 % 256), UInt8.ofNat (n / 256 / 256 % 256), UInt8.ofNat (n / 256 % 256), UInt8.ofNat (n % 256)] := rfl
theorem be_eight (n : Nat) : be n 8 = [UInt8.ofNat (n / 256 / 256 / 256 / 256 / 256 / 256 / 256 % 256), UInt8.ofNat (n / 256 / 256 / 256 / 256 / 256 / 256 % 256), UInt8.ofNat (n / 256 / 256 / 256 / 256 / 256 % 256), UInt8.ofNat (n / 256 / 256 / 256 / 256 % 256), UInt8.ofNat (n / 256 / 256 / 256 % 256), UInt8.ofNat (n / 256 / 256 % 256), UInt8.ofNat (n / 256 % 256), UInt8.ofNat (n % 256)] := rfl
def code8 (T : IT) : MCode := octetsCode T [.mv 5 (.t 0), .mv 6 (.t 1), .cv 7 T.i8 T.u8 6] [.t 7] 8 9
def code16 (T : IT) : MCode := octetsCode T [.mv 5 (.t 0), .mv 6 (.t 1), .b2 7 .shr (.t 6) (.c (.int .u64 8)), .cv 8 T.u16 T.u8 7, .mv 9 (.t 1), .cv 10 T.u16 T.u8 9] [.t 8, .t 10] 11 12
def code32 (T : IT) : MCode := octetsCode T [.mv 5 (.t 0), .mv 6 (.t 1), .b2 7 .shr (.t 6) (.c (.int .u64 24)), .cv 8 T.u32 T.u8 7, .mv 9 (.t 1), .b2 10 .shr (.t 9) (.c (.int .u64 16)), .cv 11 T.u32 T.u8 10, .mv 12 (.t 1), .b2 13 .shr (.t 12) (.c (.int .u64 8)), .cv 14 T.u32 T.u8 13, .mv 15 (.t 1), .cv 16 T.u32 T.u8 15] [.t 8, .t 11, .t 14, .t 16] 17 18
def code64 (T : IT) : MCode := octetsCode T [.mv 5 (.t 0), .mv 6 (.t 1), .b2 7 .shr (.t 6) (.c (.int .u64 56)), .cv 8 T.u64 T.u8 7, .mv 9 (.t 1), .b2 10 .shr (.t 9) (.c (.int .u64 48)), .cv 11 T.u64 T.u8 10,
  .mv 12 (.t 1), .b2 13 .shr (.t 12) (.c (.int .u64 40)), .cv 14 T.u64 T.u8 13, .mv 15 (.t 1), .b2 16 .shr (.t 15) (.c (.int .u64 32)), .cv 17 T.u64 T.u8 16, .mv 18 (.t 1), .b2 19 .shr (.t 18) (.c (.int .u64 24)), .cv 20 T.u64 T.u8 19,
  .mv 21 (.t 1), .b2 22 .shr (.t 21) (.c (.int .u64 16)), .cv 23 T.u64 T.u8 22, .mv 24 (.t 1), .b2 25 .shr (.t 24) (.c (.int .u64 8)), .cv 26 T.u64 T.u8 25, .mv 27 (.t 1), .cv 28 T.u64 T.u8 27] [.t 8, .t 11, .t 14, .t 17, .t 20, .t 23, .t 26, .t 28] 29 30
end
set_option linter.unusedVariables false
def uvTab : List Nat := [1, 1, 1, 1, 1, 1, 1, 1, 2, 2, 2, 2, 2, 2, 2, 3, 3, 3, 3, 3, 3, 3, 4, 4, 4, 4, 4, 4, 4, 5, 5, 5, 5, 5, 5, 5, 6, 6, 6, 6, 6, 6, 6, 7, 7, 7, 7, 7, 7, 7, 8, 8, 8, 8, 8, 8, 8, 9, 9, 9, 9, 9, 9, 9, 10, 0, 0, 0, 0, 0, 0, 0, 0, 0, 0, 0, 0, 0, 0, 0, 0, 0, 0, 0, 0, 0, 0, 0, 0, 0, 0, 0, 0, 0, 0, 0, 0, 0, 0, 0, 0, 0, 0, 0, 0, 0, 0, 0, 0, 0, 0, 0, 0, 0, 0, 0, 0, 0, 0, 0, 0, 0, 0, 0, 0, 0, 0, 0, 0, 0, 0, 0, 0, 0, 0, 0, 0, 0, 0, 0, 0, 0, 0, 0, 0, 0, 0, 0, 0, 0, 0, 0, 0, 0, 0, 0, 0, 0, 0, 0, 0, 0, 0, 0, 0, 0, 0, 0, 0, 0, 0, 0, 0, 0, 0, 0, 0, 0, 0, 0, 0, 0, 0, 0, 0, 0, 0, 0, 0, 0, 0, 0, 0, 0, 0, 0, 0, 0, 0, 0, 0, 0, 0, 0, 0, 0, 0, 0, 0, 0, 0, 0, 0, 0, 0, 0, 0, 0, 0, 0, 0, 0, 0, 0, 0, 0, 0, 0, 0, 0, 0, 0, 0, 0, 0, 0, 0, 0, 0, 0, 0, 0, 0, 0, 0, 0, 0, 0, 0, 0, 0, 0, 0, 0, 0, 0]
def len8 : List Nat := [0, 1, 2, 2, 3, 3, 3, 3, 4, 4, 4, 4, 4, 4, 4, 4, 5, 5, 5, 5, 5, 5, 5, 5, 5, 5, 5, 5, 5, 5, 5, 5, 6, 6, 6, 6, 6, 6, 6, 6, 6, 6, 6, 6, 6, 6, 6, 6, 6, 6, 6, 6, 6, 6, 6, 6, 6, 6, 6, 6, 6, 6, 6, 6, 7, 7, 7, 7, 7, 7, 7, 7, 7, 7, 7, 7, 7, 7, 7, 7, 7, 7, 7, 7, 7, 7, 7, 7, 7, 7, 7, 7, 7, 7, 7, 7, 7, 7, 7, 7, 7, 7, 7, 7, 7, 7, 7, 7, 7, 7, 7, 7, 7, 7, 7, 7, 7, 7, 7, 7, 7, 7, 7, 7, 7, 7, 7, 7, 8, 8, 8, 8, 8, 8, 8, 8, 8, 8, 8, 8, 8, 8, 8, 8, 8, 8, 8, 8, 8, 8, 8, 8, 8, 8, 8, 8, 8, 8, 8, 8, 8, 8, 8, 8, 8, 8, 8, 8, 8, 8, 8, 8, 8, 8, 8, 8, 8, 8, 8, 8, 8, 8, 8, 8, 8, 8, 8, 8, 8, 8, 8, 8, 8, 8, 8, 8, 8, 8, 8, 8, 8, 8, 8, 8, 8, 8, 8, 8, 8, 8, 8, 8, 8, 8, 8, 8, 8, 8, 8, 8, 8, 8, 8, 8, 8, 8, 8, 8, 8, 8, 8, 8, 8, 8, 8, 8, 8, 8, 8, 8, 8, 8, 8, 8, 8, 8, 8, 8, 8, 8, 8, 8, 8, 8, 8, 8]
section
variable {P : Program} {Q : Exit → Act → World → Prop} {a : Act} {w : World} {ms : List MOp} {T : IT}
def codeLen32 (T : IT) : MCode := rows [.rg [.mv 2 (.c (.int .i64 0))],
  .sq (.rg [.mv 3 (.t 0), .b2 4 .geq (.t 3) (.c (.int .u32 65536))]) (.cd 4 (.sq (.rg [.mv 5 (.t 0), .b2 6 .shr (.t 5) (.c (.int .u64 16)), .mv 0 (.t 6)]) (.rg [.mv 2 (.c (.int .i64 16))])) .sk),
  .sq (.rg [.mv 7 (.t 0), .b2 8 .geq (.t 7) (.c (.int .u32 256))]) (.cd 8 (.sq (.rg [.mv 9 (.t 0), .b2 10 .shr (.t 9) (.c (.int .u64 8)), .mv 0 (.t 10)]) (.rg [.mv 11 (.t 2), .b2 12 .add (.t 11) (.c (.int .i64 8)), .mv 2 (.t 12)])) .sk),
  .rg [.mv 13 (.t 2), .mv 14 (.t 0), .cv 15 T.u32 T.u8 14, .ix 16 T.str len8 15, .cv 17 T.u8 T.int 16, .b2 18 .add (.t 13) (.t 17), .mv 2 (.t 18)], .rt]
end
section
variable {P : Program} {T : IT} {w : World}
def codeUvLen (T : IT) (fl : Nat) : MCode := rows [.rg [.mv 2 (.c (.int .i64 0))], .rg [.mv 3 (.t 0), .ca 4 fl [.t 3], .cv 5 T.int T.u8 4, .ix 6 T.str uvTab 5, .cv 7 T.u8 T.int 6, .mv 2 (.t 7)], .rt]
/-! Groups of seven bits. -/
def grpOps (T : IT) (t sh : Nat) : List MOp := [.mv t (.t 1), .b2 (t + 1) .shr (.t t) (.c (.int .u64 sh)), .b2 (t + 2) .and (.t (t + 1)) (.c (.int .u32 127)), .b2 (t + 3) .or (.t (t + 2)) (.c (.int .u32 128)), .cv (t + 4) T.u32 T.u8 (t + 3)]
def grpOp0 (T : IT) (t : Nat) : List MOp := [.mv t (.t 1), .b2 (t + 1) .and (.t t) (.c (.int .u32 127)), .b2 (t + 2) .or (.t (t + 1)) (.c (.int .u32 128)), .cv (t + 3) T.u32 T.u8 (t + 2)]
def lastOps (T : IT) (t sh : Nat) : List MOp := [.mv t (.t 1), .b2 (t + 1) .shr (.t t) (.c (.int .u64 sh)), .cv (t + 2) T.u32 T.u8 (t + 1)]
def case5 (T : IT) : List MOp := .mv 9 (.t 0) :: (grpOp0 T 10 ++ (grpOps T 14 7 ++ (grpOps T 19 14 ++ (grpOps T 24 21 ++ lastOps T 29 28))))
def case4 (T : IT) : List MOp := .mv 36 (.t 0) :: (grpOp0 T 37 ++ (grpOps T 41 7 ++ (grpOps T 46 14 ++ lastOps T 51 21)))
def case3 (T : IT) : List MOp := .mv 58 (.t 0) :: (grpOp0 T 59 ++ (grpOps T 63 7 ++ lastOps T 68 14))
def case2 (T : IT) : List MOp := .mv 75 (.t 0) :: (grpOp0 T 76 ++ lastOps T 80 7)
def case1 (T : IT) : List MOp := [.mv 87 (.t 0), .mv 88 (.t 1), .cv 89 T.u32 T.u8 88]
def tailU (T : IT) (pre : List MOp) (xs : List MX) (y d1 d2 : Nat) : MCode := .sq (.rg (pre ++ [.bsl d1 T.u8s xs, .ap d2 T.u8s T.u8s y d1, .mv 4 (.t d2)])) .rt
def codeUv (T : IT) (fl : Nat) : MCode := rows [.rg [.mv 4 (.c .nslice)], .sq (.rg [.mv 5 (.t 1), .ca 6 fl [.t 5]])
  (.bl 0 (.sq (.rg [.bi 8 .eql T.int (.t 6) (.c (.int .i64 5)), .mv 7 (.t 8)]) (.cd 7 (tailU T (case5 T) [.t 13, .t 18, .t 23, .t 28, .t 31] 9 32 33)
    (.sq (.rg [.bi 35 .eql T.int (.t 6) (.c (.int .i64 4)), .mv 34 (.t 35)]) (.cd 34 (tailU T (case4 T) [.t 40, .t 45, .t 50, .t 53] 36 54 55)
      (.sq (.rg [.bi 57 .eql T.int (.t 6) (.c (.int .i64 3)), .mv 56 (.t 57)]) (.cd 56 (tailU T (case3 T) [.t 62, .t 67, .t 70] 58 71 72)
        (.sq (.rg [.bi 74 .eql T.int (.t 6) (.c (.int .i64 2)), .mv 73 (.t 74)]) (.cd 73 (tailU T (case2 T) [.t 79, .t 82] 75 83 84)
          (.sq (.rg [.bi 86 .eql T.int (.t 6) (.c (.int .i64 1)), .mv 85 (.t 86)]) (.cd 85 (tailU T (case1 T) [.t 89] 87 90 91) .sk))))))))))),
  .rg [.mv 92 (.t 0), .mv 4 (.t 92)], .rt]
def UvarG (P : Program) (U f : Nat) : Prop := ApG P U f (fun _ _ x out => ∃ n : Nat, n < 4294967296 ∧ x = .int .u32 n ∧ out = uv n)
end
section
variable {P : Program} {Q : Exit → Act → World → Prop} {a : Act} {w : World} {ms : List MOp}
theorem ML.bx {d T s : Nat} (h : ML P ms Q (wr a d (.pointer (some ⟨w.heap.size, 0, none⟩))) (w.alloc (.cells (rd a s).cells T))) : ML P (.bx d T s :: ms) Q a w := by
  refine ML.step (d := some d) (v := .pointer (some ⟨w.heap.size, 0, none⟩)) (w' := w.alloc (.cells (rd a s).cells T)) (fun o' ho => ?_) h
  have hf := fitOper_op ho
  generalize hop : o'.op = op at hf
  unfold execOp
  cases op <;> simp only [fitOp, Bool.and_eq_true, Bool.false_eq_true, Nat.beq_eq] at hf
  obtain ⟨⟨h1, h2⟩, h3⟩ := hf
  subst h2
  refine ⟨dstIs_eq h1, .inl ?_⟩
  have h3' := tmpIs_eq h3
  subst h3'
  simp only [hop, Sem.run_bind, Instr.box, newVar, newRow, run_newObj, Result.andThen_ok, Sem.run_pure]
  rfl
def arrOf (P : Program) (T n e : Nat) : Bool :=
  match P.underlying T with
  | some (.array n' e') => Nat.beq n n' && Nat.beq e e'
  | _ => false
def ptrOf (P : Program) (T e : Nat) : Bool :=
  match P.underlying T with
  | some (.pointer e') => Nat.beq e e'
  | _ => false
end
section
variable {P : Program} {T : IT} {w : World}
theorem MX.of_loc {N L : Nat} {ρ : Nat → Value} {a : Act} {x : MX} (hl : Loc N L ρ a) (h : ∀ s, x = .t s → s < L) : x.of a = xof ρ x := by
  cases x with
  | t s => exact hl.get s (h s rfl)
  | c m => rfl
def toCode (r : Nat) (pre : List MOp) (d f x : Nat) (y : MX) : MCode := .sq (.rg (pre ++ [.ca d f [.t x, y], .mv r (.t d)])) .rt
/-! ### Numbers with a sign -/
def codeConv (r : Nat) (s t f : Nat) : MCode := .sq (.rg [.mv r (.c .nslice)]) (toCode r [.mv (r + 1) (.t 0), .mv (r + 2) (.t 1), .cv (r + 3) s t (r + 2)] (r + 4) f (r + 1) (.t (r + 3)))
/-! ### Lengths -/
theorem wrap_i32 {n : Int} (h0 : -2147483648 ≤ n) (h : n ≤ 2147483647) : IntKind.i32.wrap n = n := by simp [IntKind.wrap, IntKind.signed, IntKind.bits]; omega
def codeCLen (T : IT) (g : Nat) : MCode := .sq (.rg [.mv 4 (.c .nslice)]) (toCode 4 [.mv 5 (.t 0), .mv 6 (.t 1), .cv 7 T.int T.u32 6, .b2 8 .add (.c (.int .u32 1)) (.t 7)] 9 g 5 (.t 8))
def codeNLen (T : IT) (g : Nat) : MCode := .sq (.rg [.mv 6 (.c .nslice)]) (.sq (.sq (.rg [.mv 7 (.t 2)]) (.cd 7 (toCode 6 [.mv 8 (.t 0)] 9 g 8 (.c (.int .i32 (-1)))) .sk))
  (toCode 6 [.mv 10 (.t 0), .mv 11 (.t 1), .cv 12 T.int T.i32 11] 13 g 10 (.t 12)))
def codeCNLen (T : IT) (g : Nat) : MCode := .sq (.rg [.mv 6 (.c .nslice)]) (.sq (.sq (.rg [.mv 7 (.t 2)]) (.cd 7 (toCode 6 [.mv 8 (.t 0)] 9 g 8 (.c (.int .u32 0))) .sk))
  (toCode 6 [.mv 10 (.t 0), .mv 11 (.t 1), .cv 12 T.int T.u32 11, .b2 13 .add (.c (.int .u32 1)) (.t 12)] 14 g 10 (.t 13)))
end
end Go.Kx
