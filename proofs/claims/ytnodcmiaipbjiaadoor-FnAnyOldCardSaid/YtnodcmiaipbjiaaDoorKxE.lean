/- Rules: a function's number is moved, cap, a number's negative; functions whose results are a variable and slots. No condition beyond those that a rule names.
   spec's reader of old messages: fail, take. Conditions: the program's tables (OOK).
   spec's reader of old messages: take, fixed. Conditions: the program's tables (OOK).
   spec's reader of old messages: fixed. Conditions: the program's tables (OOK), take's contract.
   spec's reader of old messages: fixed whole, octets. Conditions: the program's tables (OOK), the contracts of fail and take.
   spec's reader of old messages: octets. Conditions: the program's tables (OOK, OOK2), the contracts of fail and take.
   spec's reader of old messages: octets whole. Conditions: the program's tables (OOK2), the contracts of fail and take.
   Rules: a store within a group; fixed and octets as steps. Conditions: the contracts of fixed and octets.
   spec.ReadOld's rows: a number, two numbers, octets are read and kept. Conditions: the program's tables (OOK3), the contracts of fixed and octets.
   spec.ReadOld: octets' row; the model of what is read. Conditions: the program's tables (OOK3), the contracts of fixed and octets.
   spec.ReadOld. Conditions: the program's tables (OOK4), the contracts of fixed and octets.
   impl.own: octets are copied. Conditions: the program's tables (OOK).
   impl.octets: null, or octets copied. Conditions: the program's tables (OOK2).
   A small machine that reckons with whole calls whose arguments are known: what its memory and its slots say of the program's. Conditions: the program's tables (TK). -/
import Derived.Test.YtnodcmiaipbjiaaDoorKxD
namespace Go.Kx
open Go.RowKit
set_option linter.unusedSimpArgs false
set_option linter.unusedVariables false
section
variable {P : Program} {N : Nat} {Q : Exit → (Nat → Value) → World → Prop} {ρ : Nat → Value} {w w' : World} {ms : List MOp} {d : Nat}
theorem MR.mvf {f : Nat} : MR P N (.mvf d f) ρ w d (.func (.func f) #[] #[]) w := by
  intro a o hl hf
  generalize hop : o.op = op at hf
  unfold execOp
  cases op <;> try (simp only [fitOp, Bool.false_eq_true] at hf; done)
  all_goals
    rename_i y
    cases y <;> simp only [fitOp, Bool.and_eq_true, Bool.false_eq_true, Nat.beq_eq] at hf
    exact ⟨dstIs_eq hf.1, by rw [hf.2]; simp only [hop]; rfl⟩
theorem MR.ng {s : Nat} {k : IntKind} {n : Int} (hv : ρ s = .int k n) (hs : s < N := by decide) : MR P N (.ng d s) ρ w d (.int k (k.wrap (-n))) w := by
  intro a o hl hf
  generalize hop : o.op = op' at hf
  unfold execOp
  cases op' <;> try (simp only [fitOp, Bool.false_eq_true] at hf; done)
  rename_i u ty x
  cases u <;> simp only [fitOp, Bool.and_eq_true, Bool.false_eq_true] at hf
  exact ⟨dstIs_eq hf.1, by simp [hop, Sem.run_bind, tmpL hl hs hf.2, hv, Op.unary, Op.intArith]⟩
theorem MR.cpl {ty s e : Nat} {p : Option Addr} {n c : Nat} (ht : sliceOf P ty e = true) (hv : ρ s = .slice p n c) (hs : s < N := by decide) : MR P N (.cpl d ty s) ρ w d (.int .i64 c) w := by
  refine MR.builtin (b := .cap) (T := [ty]) (xs := [.t s]) (fun o hf => ?_) (by simp [MX.lt, Nat.blt_eq, hs]) (fun t cs => ?_)
  · generalize hop : o.op = op at hf
    cases op <;> try (simp only [fitOp, Bool.false_eq_true] at hf; done)
    rename_i c
    obtain ⟨callee, args, ats⟩ := c
    cases callee <;> try (simp only [fitOp, Bool.false_eq_true] at hf; done)
    case builtin b =>
      cases b <;> try (simp only [fitOp, Bool.false_eq_true] at hf; done)
      simp only [fitOp, Bool.and_eq_true] at hf
      obtain ⟨h1, h2⟩ := hf
      generalize hA : args.toList = A at h2
      generalize hB : ats.toList = B at h2
      match A, B, h2 with
      | [y], [t'], h2 =>
        simp only [Bool.and_eq_true, Nat.beq_eq] at h2
        refine ⟨dstIs_eq h1, args, ats, rfl, .inl (by rw [hB, h2.2]), ?_⟩
        rw [hA]
        simp only [allX, Bool.and_true]
        rw [tmpIs_eq h2.1]; simp [MX.is]
  · simp [Go.builtin, Builtin.cap_, xof, hv, run_underlying (sliceOf_eq ht), goInt]
end
structure FnIsM (P : Program) (f : Nat) (m : MCode) (N s ty : Nat) (rs : List Nat) : Prop where
  ex : ∃ fn c, P.funcs[f]? = some fn ∧ fn.body = some c ∧ fits m c = true ∧ fn.ntmps = N ∧ fn.results = (ResultVar.cell s ty :: rs.map ResultVar.tmp).toArray
  ent : entersB P f = true
def tmpsB : List Nat → List ResultVar → Bool
  | [], [] => true
  | r :: rs, .tmp t :: ts => Nat.beq r t && tmpsB rs ts
  | _, _ => false
theorem tmpsB_eq : ∀ {rs : List Nat} {ts : List ResultVar}, tmpsB rs ts = true → ts = rs.map ResultVar.tmp
  | [], [], _ => rfl
  | [], _ :: _, h => by simp [tmpsB] at h
  | _ :: _, [], h => by simp [tmpsB] at h
  | r :: rs, .tmp t :: ts, h => by
    simp only [tmpsB, Bool.and_eq_true, Nat.beq_eq] at h
    rw [List.map_cons, h.1, tmpsB_eq h.2]
  | r :: rs, .cell _ _ :: ts, h => by simp [tmpsB] at h
def isFnM (P : Program) (f : Nat) (m : MCode) (N s ty : Nat) (rs : List Nat) : Bool :=
  entersB P f && (match P.funcs[f]? with
    | some fn => Nat.beq fn.ntmps N && (match fn.results.toList with | .cell s' t' :: l => Nat.beq s s' && Nat.beq ty t' && tmpsB rs l | _ => false) && (match fn.body with | some c => fits m c | none => false)
    | none => false)
theorem FnIsM.of {P : Program} {f N s ty : Nat} {rs : List Nat} {m : MCode} (h : isFnM P f m N s ty rs = true) : FnIsM P f m N s ty rs := by
  simp only [isFnM, Bool.and_eq_true] at h
  obtain ⟨h1, h2⟩ := h
  refine ⟨?_, h1⟩
  cases hf : P.funcs[f]? with
  | none => simp [hf] at h2
  | some fn =>
    simp only [hf, Bool.and_eq_true, Nat.beq_eq] at h2
    obtain ⟨⟨g1, g2⟩, g3⟩ := h2
    cases hb : fn.body with
    | none => simp [hb] at g3
    | some c =>
      simp only [hb] at g3
      refine ⟨fn, c, rfl, hb, g3, g1, ?_⟩
      apply Array.toList_inj.1
      generalize fn.results.toList = l at g2
      match l, g2 with
      | .cell s' t' :: l, g2 =>
        simp only [Bool.and_eq_true, Nat.beq_eq] at g2
        rw [g2.1.1, g2.1.2, tmpsB_eq g2.2]
section
variable {P : Program} {N : Nat} {Q : Exit → (Nat → Value) → World → Prop} {ρ : Nat → Value} {w w' : World} {ms : List MOp} {d : Nat}
def retM (P : Program) (s ty : Nat) (rs : List Nat) (R : Ending → World → Prop) : Exit → (Nat → Value) → World → Prop
  | .ret, ρ, w => ∃ p v, ρ s = .pointer (some p) ∧ (Instr.loadAt ty (.pointer (some p))).run P w = .ok v w ∧ R (.returned (.tuple (v :: rs.map ρ).toArray)) w
  | _, _, _ => False
theorem FnIsM.runs1 {f s ty r : Nat} {m : MCode} (h : FnIsM P f m N s ty [r]) {args : List Value} {R : Ending → World → Prop} (hle : args.length ≤ N) (hs : s < N) (hr : r < N)
    (hw : RW P N m (retM P s ty [r] R) (args0 args) w) : Calls P f args.toArray w R := by
  obtain ⟨fn, c, h1, h2, h3, h4, h5⟩ := h.ex
  refine calls_leaf h1 h2 h3 h4 hle fun a hl => (hw a hl).mono fun e a w hu => ?_
  cases e <;> simp only [up, retM] at hu
  all_goals first | (obtain ⟨ρ, h1, h2⟩ := hu; exact h2.elim) | skip
  · obtain ⟨ρ, g1, p, v, g2, g3, g4⟩ := hu
    refine bodyPost_ret (v := .tuple #[v, ρ r]) ?_ g1.defers g4
    have e : a.tmps[s]?.getD undef = .pointer (some p) := by
      have := (g1.get s hs).trans g2
      unfold rd at this
      rwa [Array.getD_eq_getD_getElem?] at this
    have e2 : a.tmps[r]?.getD undef = ρ r := by
      have := g1.get r hr
      unfold rd at this
      rwa [Array.getD_eq_getD_getElem?] at this
    have g3' : (loadVar ty p).run P w = .ok v w := by simpa [Instr.loadAt, Instr.sureAddr] using g3
    unfold results
    rw [h5]
    simp [e, e2, asAddr, g3']
  all_goals exact hu.elim
theorem FnIsM.runs2 {f s ty r1 r2 : Nat} {m : MCode} (h : FnIsM P f m N s ty [r1, r2]) {args : List Value} {R : Ending → World → Prop} (hle : args.length ≤ N) (hs : s < N) (hr1 : r1 < N) (hr2 : r2 < N)
    (hw : RW P N m (retM P s ty [r1, r2] R) (args0 args) w) : Calls P f args.toArray w R := by
  obtain ⟨fn, c, h1, h2, h3, h4, h5⟩ := h.ex
  refine calls_leaf h1 h2 h3 h4 hle fun a hl => (hw a hl).mono fun e a w hu => ?_
  cases e <;> simp only [up, retM] at hu
  all_goals first | (obtain ⟨ρ, h1, h2⟩ := hu; exact h2.elim) | skip
  · obtain ⟨ρ, g1, p, v, g2, g3, g4⟩ := hu
    refine bodyPost_ret (v := .tuple #[v, ρ r1, ρ r2]) ?_ g1.defers g4
    have e : a.tmps[s]?.getD undef = .pointer (some p) := by
      have := (g1.get s hs).trans g2
      unfold rd at this
      rwa [Array.getD_eq_getD_getElem?] at this
    have e1 : a.tmps[r1]?.getD undef = ρ r1 := by
      have := g1.get r1 hr1
      unfold rd at this
      rwa [Array.getD_eq_getD_getElem?] at this
    have e2 : a.tmps[r2]?.getD undef = ρ r2 := by
      have := g1.get r2 hr2
      unfold rd at this
      rwa [Array.getD_eq_getD_getElem?] at this
    have g3' : (loadVar ty p).run P w = .ok v w := by simpa [Instr.loadAt, Instr.sureAddr] using g3
    unfold results
    rw [h5]
    simp [e, e1, e2, asAddr, g3']
  all_goals exact hu.elim
end
structure ON where
  T : IT
  tRd : Nat
  tOc : Nat
  tOld : Nat
  fFail : Nat
  fTake : Nat
  fFix : Nat
  fOct : Nat
  fFixed : Nat
  fFxO : Nat
  fOldB : Nat
  fSame : Nat
  fOwn : Nat
  fOcts : Nat
structure OOK (P : Program) (O : ON) : Prop where
  tk : TOK P O.T
  mo : P.follows .mixedOrders = true
  r0 : fieldAtB P O.tRd 0 0 = true
  r1 : fieldAtB P O.tRd 1 1 = true
  r2 : fieldAtB P O.tRd 2 2 = true
  ps : plainTy P O.T.u8s = true
  pi : plainTy P O.T.int = true
  ci : cellsB P O.T.int 1 = true
  cu : cellsB P O.T.u8 1 = true
  pu : plainTy P O.T.u8 = true
  i8 : intTy P O.T.i8 .i8 = true
  i64 : intTy P O.T.i64 .i64 = true
section
variable {P : Program} {w w' : World}
theorem run_sliceMid {T U n c lo hi : Nat} {ad : Option Addr} (hT : sliceOf P T U = true) (hU : cellsB P U 1 = true) (had : okA n ad) (h1 : lo ≤ hi) (h2 : hi ≤ c) (h3 : hi ≤ n) :
    ∃ ad', (∀ w : World, (Instr.sliceAt T (.slice ad n c) (some (.int .i64 (lo : Nat))) (some (.int .i64 (hi : Nat))) none).run P w = .ok (.slice ad' (hi - lo) (c - lo)) w) ∧ okA (hi - lo) ad' ∧ (∀ {w : World} {F : Nat → Prop} {bs : List UInt8}, BytesAt w F ad bs → BytesAt w F ad' ((bs.drop lo).take (hi - lo))) := by
  have hn' := cellsB_map hU
  cases hie : P.info? U with
  | none => simp [hie] at hn'
  | some ie =>
    simp only [hie, Option.map_some, Option.some.injEq] at hn'
    refine ⟨if c = lo then ad else ad.map (·.add (lo * 1)), ?_, ?_, ?_⟩
    · intro w
      simp only [Instr.sliceAt, Sem.run_bind, run_underlying (sliceOf_eq hT), Result.andThen_ok, Instr.slice, Instr.sliceBounds, Instr.sliceBound, asIntOf, Sem.run_pure, sizeOf, typeInfo, run_program, hie, hn']
      rw [if_pos ⟨by omega, by omega⟩]
      simp only [Sem.run_pure, Result.andThen_ok, Int.toNat_natCast]
      rw [if_pos ⟨by omega, by omega⟩]
      simp only [Sem.run_pure, Result.andThen_ok, Int.toNat_natCast]
    · rcases had with h0 | rfl | ⟨g, o, rfl⟩
      · exact .inl (by omega)
      · split <;> exact .inr (.inl rfl)
      · split
        · exact .inr (.inr ⟨g, o, rfl⟩)
        · exact .inr (.inr ⟨g, o + lo * 1, by simp [Addr.add_mid]⟩)
    · intro w F bs hb
      by_cases hc : c = lo
      · have : hi - lo = 0 := by omega
        rw [this]
        intro j b hj; simp at hj
      · rw [if_neg hc]
        intro j b hj
        rw [List.getElem?_take] at hj
        split at hj
        · rw [List.getElem?_drop] at hj
          obtain ⟨g, o, rfl, h3, h4⟩ := hb (lo + j) b hj
          exact ⟨g, o + lo * 1, by simp [Addr.add_mid], h3, by rw [Nat.mul_one, Nat.add_assoc]; exact h4⟩
        · simp at hj
end
def SpR (w : World) (b : Nat) (sv : Value) (a : Nat) (h : Int) : Prop := w.rangeAt b 0 [sv, .int .i64 (a : Nat), .int .i64 h] ∧ w.there b 0 3
section
variable {P : Program} {N : Nat} {Q : Exit → (Nat → Value) → World → Prop} {ρ : Nat → Value} {w w' : World} {ms : List MOp} {O : ON}
def cFail (O : ON) : MCode := .sq (.rg [.mv 4 (.t 0), .nc 5 4, .fa 6 O.tRd 5 2, .ld 7 O.T.int 6, .bi 8 .eql O.T.int (.t 7) (.c (.int .i64 0))]) (.cd 8 (.rg [.mv 9 (.t 0), .mv 10 (.t 1), .nc 11 9, .fa 12 O.tRd 11 2, .st O.T.int 12 10]) .sk)
def FailC (P : Program) (f : Nat) : Prop := entersB P f = true ∧ ∀ (w : World) (b : Nat) (sv : Value) (a : Nat) (h k : Int), SpR w b sv a h →
  Calls P f #[.pointer (some ⟨b, 0, none⟩), .int .i64 k] w (fun e w' => e = .returned (.tuple #[]) ∧ SpR w' b sv a (if h = 0 then k else h) ∧ Fr (fun _ => False) b 0 3 w w')
theorem SpR.setHow {b : Nat} {sv : Value} {a : Nat} {h k : Int} (hr : SpR w b sv a h) : SpR (w.setCells b 2 [.int .i64 k]) b sv a k ∧ Fr (fun _ => False) b 0 3 w (w.setCells b 2 [.int .i64 k]) := by
  have t1 : w.there b 2 1 := there_in (k := 0) (o := 2) (by simpa using there_in (k := 2) (m := 1) hr.2 (by omega)) (by omega)
  refine ⟨⟨?_, World.there_setCells hr.2 _ _ _⟩, Fr.put _ (by omega) (by simp)⟩
  have := range_set (k := 2) (v := .int .i64 k) hr.1 (by simpa using t1)
  simpa using this
theorem SpR.setAt {b : Nat} {sv : Value} {a a' : Nat} {h : Int} (hr : SpR w b sv a h) : SpR (w.setCells b 1 [.int .i64 (a' : Nat)]) b sv a' h ∧ Fr (fun _ => False) b 0 3 w (w.setCells b 1 [.int .i64 (a' : Nat)]) := by
  have t1 : w.there b 1 1 := by simpa using there_in (k := 1) (m := 1) hr.2 (by omega)
  refine ⟨⟨?_, World.there_setCells hr.2 _ _ _⟩, Fr.put _ (by omega) (by simp)⟩
  have := range_set (k := 1) (v := .int .i64 (a' : Nat)) hr.1 (by simpa using t1)
  simpa using this
theorem spFail_ok {f : Nat} (ok : OOK P O) (hf : FnIs0 P f (cFail O) 13) : FailC P f := by
  refine ⟨hf.ent, fun w b sv a h k hr => ?_⟩
  refine hf.runs (args := [.pointer (some ⟨b, 0, none⟩), .int .i64 k]) (by simp) ?_
  refine RW.sq (RW.rg (RL.step MR.mv (RL.step (MR.nc rfl) (RL.step (MR.fa rfl ok.r2) (RL.step (MR.ld rfl ok.pi (hr.1 2 _ rfl)) (RL.step (MR.biE (v := .bool (h == 0)) rfl) (RL.nil ?_)))))))
  refine RW.cd rfl (fun e => ?_) (fun e => RW.sk ?_)
  · have e : h = 0 := by simpa using e
    obtain ⟨g1, g2⟩ := hr.setHow (k := k)
    refine RW.rg (RL.step (MR.mv (v := .pointer (some ⟨b, 0, none⟩)) rfl) (RL.step (MR.mv (v := .int .i64 k) rfl) (RL.step (MR.nc rfl) (RL.step (MR.fa rfl ok.r2) (RL.st1 (v := .int .i64 k) (b := b) (o := 2) rfl rfl rfl ok.ci (by simpa using there_in (k := 2) (m := 1) hr.2 (by omega)) (RL.nil ?_))))))
    exact ⟨rfl, by rw [if_pos e]; exact g1, g2⟩
  · have e : ¬ h = 0 := by simpa using e
    exact ⟨rfl, by rw [if_neg e]; exact hr, Fr.refl _ _ _ _ _⟩
end
set_option linter.unusedVariables false
theorem fr_drew1 (X : Nat → Prop) (b o n : Nat) (w : World) : Fr X b o n w (World.drew1 w) :=
  let h := below_drew1 w w.heap.size
  ⟨h.os, h.tape, h.output, h.size, fun k hk _ _ => h.block k hk, fun _ _ => rfl, fun _ _ h => h⟩
section
variable {P : Program} {N : Nat} {Q : Exit → (Nat → Value) → World → Prop} {ρ : Nat → Value} {w w' : World} {ms : List MOp} {O : ON}
def takeG1 (O : ON) : List GOp := [⟨0, none, .mv 5 (.t 0)⟩, ⟨1, none, .nc 6 5⟩, ⟨2, none, .fa 7 O.tRd 6 2⟩, ⟨3, none, .ld 8 O.T.int 7⟩, ⟨4, none, .bi 9 .eql O.T.int (.t 8) (.c (.int .i64 0))⟩, ⟨5, none, .mv 10 (.t 9)⟩,
  ⟨6, some (5, 10, true), .mv 11 (.t 1)⟩, ⟨7, some (5, 10, true), .mv 12 (.t 0)⟩, ⟨8, some (5, 10, true), .nc 13 12⟩, ⟨9, some (5, 10, true), .fa 14 O.tRd 13 0⟩, ⟨10, some (5, 10, true), .ld 15 O.T.u8s 14⟩, ⟨11, some (5, 10, true), .ln 16 O.T.u8s 15⟩,
  ⟨12, some (5, 10, true), .mv 17 (.t 0)⟩, ⟨13, some (5, 10, true), .nc 18 17⟩, ⟨14, some (5, 10, true), .fa 19 O.tRd 18 1⟩, ⟨15, some (5, 10, true), .ld 20 O.T.int 19⟩, ⟨16, some (5, 10, true), .bi 21 .sub O.T.int (.t 16) (.t 20)⟩, ⟨17, some (5, 10, true), .bi 22 .gtr O.T.int (.t 11) (.t 21)⟩,
  ⟨18, none, .pk 23 (.t 10) (.t 22) (.c (.bool false))⟩]
def takeG2 (O : ON) : List GOp := [⟨0, none, .mv 39 (.t 0)⟩, ⟨1, none, .nc 40 39⟩, ⟨2, none, .fa 41 O.tRd 40 0⟩, ⟨3, none, .ld 42 O.T.u8s 41⟩, ⟨4, none, .mv 43 (.t 0)⟩, ⟨5, none, .nc 44 43⟩, ⟨6, none, .fa 45 O.tRd 44 1⟩, ⟨7, none, .ld 46 O.T.int 45⟩,
  ⟨8, none, .mv 47 (.t 1)⟩, ⟨9, none, .bi 48 .sub O.T.int (.t 46) (.t 47)⟩, ⟨10, none, .mv 49 (.t 0)⟩, ⟨11, none, .nc 50 49⟩, ⟨12, none, .fa 51 O.tRd 50 1⟩, ⟨13, none, .ld 52 O.T.int 51⟩, ⟨14, none, .sl 53 O.T.u8s 42 (some (.t 48)) (some (.t 52)) none⟩, ⟨15, none, .mv 4 (.t 53)⟩]
def cTake (O : ON) : MCode := .sq (.rg [.mv 4 (.c .nslice)])
  (.sq (.sq (.gr true (takeG1 O)) (.cd 23 (.rg [.mv 24 (.t 0), .ca 25 O.fFail [.t 24, .c (.int .i64 1)]]) .sk))
  (.sq (.sq (.rg [.mv 26 (.t 0), .nc 27 26, .fa 28 O.tRd 27 2, .ld 29 O.T.int 28, .bi 30 .neq O.T.int (.t 29) (.c (.int .i64 0))]) (.cd 30 (.sq (.rg [.mv 4 (.c .nslice)]) .rt) .sk))
  (.sq (.rg [.mv 31 (.t 0), .nc 32 31, .fa 33 O.tRd 32 1, .ld 34 O.T.int 33, .mv 35 (.t 1), .bi 36 .add O.T.int (.t 34) (.t 35), .nc 37 31, .fa 38 O.tRd 37 1, .st O.T.int 38 36])
  (.sq (.gr true (takeG2 O)) .rt))))
def TakeC (P : Program) (f : Nat) : Prop := entersB P f = true ∧ ∀ (w : World) (b : Nat) (F : Nat → Prop) (ad : Option Addr) (l : List UInt8) (c a : Nat) (h : Int) (n : Nat), SpR w b (.slice ad l.length c) a h → okA l.length ad → l.length ≤ c → BytesAt w F ad l → a ≤ l.length → l.length ≤ 1000000000 → n ≤ 1000000000 →
  Calls P f #[.pointer (some ⟨b, 0, none⟩), .int .i64 (n : Nat)] w (fun e w' => Fr (fun _ => False) b 0 3 w w' ∧
    (((h ≠ 0 ∨ l.length - a < n) ∧ e = .returned (.slice none 0 0) ∧ SpR w' b (.slice ad l.length c) a (if h = 0 then 1 else h)) ∨
     (h = 0 ∧ n ≤ l.length - a ∧ ∃ ad' c', e = .returned (.slice ad' n c') ∧ okA n ad' ∧ n ≤ c' ∧ BytesAt w F ad' ((l.drop a).take n) ∧ SpR w' b (.slice ad l.length c) (a + n) 0)))
theorem spTake_ok {f : Nat} (ok : OOK P O) (hfl : FailC P O.fFail) (hf : FnIs P f (cTake O) 54 4) : TakeC P f := by
  refine ⟨hf.ent, fun w b F ad l c a h n hr had hlc hby hal hl hn => ?_⟩
  refine hf.runs (args := [.pointer (some ⟨b, 0, none⟩), .int .i64 (n : Nat)]) (by simp) (by omega) ?_
  refine RW.sq (RW.rg (RL.step MR.mv (RL.nil (RW.sq (RW.sq (RW.gd ok.mo (Kp w) (drew1_kp w) ?_))))))
  have F1 := fr_drew1 (fun _ => False) b 0 3 w
  have hr1 : SpR (World.drew1 w) b (.slice ad l.length c) a h := hr
  have bad : ∀ (ρ' : Nat → Value) (w' : World), ρ' 0 = .pointer (some ⟨b, 0, none⟩) → (∃ h', h' ≠ 0 ∧ h' = (if h = 0 then 1 else h) ∧ SpR w' b (.slice ad l.length c) a h') → (h ≠ 0 ∨ l.length - a < n) → Fr (fun _ => False) b 0 3 w w' →
      RW P 54 (.sq (.sq (.rg [.mv 26 (.t 0), .nc 27 26, .fa 28 O.tRd 27 2, .ld 29 O.T.int 28, .bi 30 .neq O.T.int (.t 29) (.c (.int .i64 0))]) (.cd 30 (.sq (.rg [.mv 4 (.c .nslice)]) .rt) .sk))
        (.sq (.rg [.mv 31 (.t 0), .nc 32 31, .fa 33 O.tRd 32 1, .ld 34 O.T.int 33, .mv 35 (.t 1), .bi 36 .add O.T.int (.t 34) (.t 35), .nc 37 31, .fa 38 O.tRd 37 1, .st O.T.int 38 36])
        (.sq (.gr true (takeG2 O)) .rt))) (retQ 4 (fun e w' => Fr (fun _ => False) b 0 3 w w' ∧
    (((h ≠ 0 ∨ l.length - a < n) ∧ e = .returned (.slice none 0 0) ∧ SpR w' b (.slice ad l.length c) a (if h = 0 then 1 else h)) ∨
     (h = 0 ∧ n ≤ l.length - a ∧ ∃ ad' c', e = .returned (.slice ad' n c') ∧ okA n ad' ∧ n ≤ c' ∧ BytesAt w F ad' ((l.drop a).take n) ∧ SpR w' b (.slice ad l.length c) (a + n) 0)))) ρ' w' := by
    rintro ρ' w' p0 ⟨h', g1, g2, g3⟩ g4 g5
    refine RW.sq (RW.sq (RW.rg (RL.step (MR.mv p0) (RL.step (MR.nc (upd_same _ _ _)) (RL.step (MR.fa (upd_same _ _ _) ok.r2) (RL.step (MR.ld (upd_same _ _ _) ok.pi (g3.1 2 _ rfl)) (RL.step (MR.biE (v := .bool (!(h' == 0))) (by show evB .neq (upd _ _ _ 29) (.int .i64 0) = _; rw [upd_same]; rfl)) (RL.nil ?_))))))))
    refine RW.cd (b := true) (by rw [upd_same]; simp [g1]) (fun _ => RW.sq (RW.rg (RL.step MR.mv (RL.nil (RW.rt ?_))))) (fun e => by cases e)
    exact ⟨g5, .inl ⟨g4, rfl, by rw [← g2]; exact g3⟩⟩
  unfold takeG1
  by_cases hh : h = 0
  · subst hh
    refine RG.q (fun _ _ => MR.mv (v := .pointer (some ⟨b, 0, none⟩)) rfl) (RG.q (fun _ _ => MR.nc rfl) (RG.q (fun _ _ => MR.fa rfl ok.r2) (RG.q (fun w' hS => MR.ld rfl ok.pi (hS _ _ (hr.1 2 _ rfl))) (RG.q (v := .bool true) (fun _ _ => MR.biE rfl) (RG.q (fun _ _ => MR.mv (v := .bool true) rfl) ?_)))))
    refine RG.q (fun _ _ => MR.mv (v := .int .i64 (n : Nat)) rfl) (RG.q (fun _ _ => MR.mv (v := .pointer (some ⟨b, 0, none⟩)) rfl) (RG.q (fun _ _ => MR.nc rfl) (RG.q (fun _ _ => MR.fa rfl ok.r0) (RG.q (fun w' hS => MR.ld rfl ok.ps (hS _ _ (hr.1 0 _ rfl))) (RG.q (fun _ _ => MR.ln ok.tk.u8s rfl)
      (RG.q (fun _ _ => MR.mv (v := .pointer (some ⟨b, 0, none⟩)) rfl) (RG.q (fun _ _ => MR.nc rfl) (RG.q (fun _ _ => MR.fa rfl ok.r1) (RG.q (fun w' hS => MR.ld rfl ok.pi (hS _ _ (hr.1 1 _ rfl))) (RG.q (v := .int .i64 ((l.length - a : Nat) : Int)) (fun _ _ => MR.biE ?_) (RG.q (v := .bool (decide (((l.length - a : Nat) : Int) < (n : Nat)))) (fun _ _ => MR.biE rfl)
      (RG.q (fun _ _ => MR.pk (b := true) (v := .bool (decide (((l.length - a : Nat) : Int) < (n : Nat)))) rfl rfl) (RG.nil fun _ => ?_)))))))))))))
    · show some (Value.int .i64 (IntKind.i64.wrap ((l.length : Nat) - (a : Nat) : Int))) = _
      rw [wrap_i64 (by omega) (by omega)]
      congr 2; omega
    by_cases hlt : l.length - a < n
    · refine RW.cd (b := true) (by show Value.bool _ = _; rw [decide_eq_true (by omega)]) (fun _ => ?_) (fun e => by cases e)
      refine RW.rg (RL.step (MR.mv (v := .pointer (some ⟨b, 0, none⟩)) rfl) (RL.ca (R := fun _ w' => SpR w' b (.slice ad l.length c) a 1 ∧ Fr (fun _ => False) b 0 3 (World.drew1 w) w') hfl.1 ?_ ?_))
      · refine Calls.mono (hfl.2 (World.drew1 w) b _ a 0 1 hr1) ?_
        rintro e w' ⟨rfl, g1, g2⟩
        exact ⟨_, rfl, by simpa using g1, g2⟩
      rintro v w2 ⟨g1, g2⟩
      refine RL.nil ?_
      exact bad _ _ rfl ⟨1, by omega, by simp, g1⟩ (.inr hlt) (F1.trans g2)
    · refine RW.cd (b := false) (by show Value.bool _ = _; rw [decide_eq_false (by omega)]) (fun e => by cases e) (fun _ => RW.sk ?_)
      refine RW.sq (RW.sq (RW.rg (RL.step (MR.mv (v := .pointer (some ⟨b, 0, none⟩)) rfl) (RL.step (MR.nc rfl) (RL.step (MR.fa rfl ok.r2) (RL.step (MR.ld rfl ok.pi (hr1.1 2 _ rfl)) (RL.step (MR.biE (v := .bool false) rfl) (RL.nil ?_))))))))
      refine RW.cd (b := false) rfl (fun e => by cases e) (fun _ => RW.sk ?_)
      have t1 : (World.drew1 w).there b 1 1 := by simpa using there_in (k := 1) (m := 1) hr1.2 (by omega)
      refine RW.sq (RW.rg (RL.step (MR.mv (v := .pointer (some ⟨b, 0, none⟩)) rfl) (RL.step (MR.nc rfl) (RL.step (MR.fa rfl ok.r1) (RL.step (MR.ld rfl ok.pi (hr1.1 1 _ rfl)) (RL.step (MR.mv (v := .int .i64 (n : Nat)) rfl) (RL.step (MR.biE (v := .int .i64 ((a + n : Nat) : Int)) ?_) (RL.step (MR.nc rfl) (RL.step (MR.fa rfl ok.r1) (RL.st1 (v := .int .i64 ((a + n : Nat) : Int)) (b := b) (o := 1) rfl rfl rfl ok.ci t1 (RL.nil ?_)))))))))))
      · show some (Value.int .i64 (IntKind.i64.wrap ((a : Nat) + (n : Nat) : Int))) = _
        rw [wrap_i64 (by omega) (by omega)]
        rfl
      obtain ⟨g1, g2⟩ := hr1.setAt (a' := a + n)
      revert g1 g2
      generalize (World.drew1 w).setCells b 1 [Value.int .i64 ((a + n : Nat) : Int)] = w3
      intro g1 g2
      refine RW.sq (RW.gd ok.mo (Kp w3) (drew1_kp w3) ?_)
      unfold takeG2
      obtain ⟨ad', s1, s2, s3⟩ := run_sliceMid (P := P) (T := O.T.u8s) (U := O.T.u8) (n := l.length) (c := c) (lo := a) (hi := a + n) (ad := ad) ok.tk.u8s ok.cu had (by omega) (by omega) (by omega)
      refine RG.q (fun _ _ => MR.mv (v := .pointer (some ⟨b, 0, none⟩)) rfl) (RG.q (fun _ _ => MR.nc rfl) (RG.q (fun _ _ => MR.fa rfl ok.r0) (RG.q (fun w' hS => MR.ld rfl ok.ps (hS _ _ (g1.1 0 _ rfl))) (RG.q (fun _ _ => MR.mv (v := .pointer (some ⟨b, 0, none⟩)) rfl) (RG.q (fun _ _ => MR.nc rfl) (RG.q (fun _ _ => MR.fa rfl ok.r1) (RG.q (fun w' hS => MR.ld rfl ok.pi (hS _ _ (g1.1 1 _ rfl)))
        (RG.q (fun _ _ => MR.mv (v := .int .i64 (n : Nat)) rfl) (RG.q (v := .int .i64 (a : Nat)) (fun _ _ => MR.biE ?_) (RG.q (fun _ _ => MR.mv (v := .pointer (some ⟨b, 0, none⟩)) rfl) (RG.q (fun _ _ => MR.nc rfl) (RG.q (fun _ _ => MR.fa rfl ok.r1) (RG.q (fun w' hS => MR.ld rfl ok.pi (hS _ _ (g1.1 1 _ rfl)))
        (RG.q (fun w' _ => MR.sl (s1 w')) (RG.q (fun _ _ => MR.mv) (RG.nil fun _ => RW.rt ?_))))))))))))))))
      · show some (Value.int .i64 (IntKind.i64.wrap (((a + n : Nat) : Int) - (n : Nat)))) = _
        rw [wrap_i64 (by omega) (by omega)]
        congr 2; omega
      refine ⟨(F1.trans g2).trans (fr_drew1 _ _ _ _ _), .inr ⟨rfl, by omega, ad', c - a, ?_, by rw [Nat.add_sub_cancel_left] at s2; exact s2, by omega, ?_, g1⟩⟩
      · show Ending.returned (.slice ad' (a + n - a) (c - a)) = _
        rw [Nat.add_sub_cancel_left]
      · have := s3 (F := F) (bs := l) (w := w) hby
        rwa [Nat.add_sub_cancel_left] at this
  · have hb : (h == 0) = false := by simpa using hh
    refine RG.q (fun _ _ => MR.mv (v := .pointer (some ⟨b, 0, none⟩)) rfl) (RG.q (fun _ _ => MR.nc rfl) (RG.q (fun _ _ => MR.fa rfl ok.r2) (RG.q (fun w' hS => MR.ld rfl ok.pi (hS _ _ (hr.1 2 _ rfl))) (RG.q (v := .bool false) (fun _ _ => MR.biE (by show some (Value.bool (h == 0)) = _; rw [hb])) (RG.q (fun _ _ => MR.mv (v := .bool false) rfl) ?_)))))
    refine (RG.no (d := 11) (by exact ⟨by decide, .inl rfl⟩) (RG.no (d := 12) (by exact ⟨by decide, .inl rfl⟩) (RG.no (d := 13) (by exact ⟨by decide, .inl rfl⟩) (RG.no (d := 14) (by exact ⟨by decide, .inl rfl⟩) (RG.no (d := 15) (by exact ⟨by decide, .inl rfl⟩) (RG.no (d := 16) (by exact ⟨by decide, .inl rfl⟩) (RG.no (d := 17) (by exact ⟨by decide, .inl rfl⟩) (RG.no (d := 18) (by exact ⟨by decide, .inl rfl⟩) (RG.no (d := 19) (by exact ⟨by decide, .inl rfl⟩) (RG.no (d := 20) (by exact ⟨by decide, .inl rfl⟩) (RG.no (d := 21) (by exact ⟨by decide, .inl rfl⟩) (RG.no (d := 22) (by exact ⟨by decide, .inl rfl⟩) (RG.q (fun _ _ => MR.pk (b := false) (v := .bool false) rfl rfl) (RG.nil fun _ => ?_))))))))))))))
    refine RW.cd (b := false) rfl (fun e => by cases e) (fun _ => RW.sk ?_)
    exact bad _ _ rfl ⟨h, hh, by rw [if_neg hh], hr1⟩ (.inl hh) F1
end
set_option linter.unusedVariables false
theorem or_i64 {n : Int} {c : Nat} (hc : c < 256) (h1 : -36028797018963968 ≤ n) (h2 : n < 36028797018963968) : evB .or (.int .i64 (n * 256)) (.int .i64 (c : Nat)) = some (.int .i64 (n * 256 + c)) := by
  show some (Value.int .i64 (IntKind.i64.wrap (((BitVec.ofInt 64 (n * 256) ||| BitVec.ofInt 64 (c : Nat)).toNat : Nat) : Int))) = _
  rw [BitVec.toNat_or, BitVec.toNat_ofInt, BitVec.toNat_ofInt]
  have e1 : ((n * 256) % ((2 ^ 64 : Nat) : Int)).toNat = 2 ^ 8 * (n % 72057594037927936).toNat := by omega
  have e2 : ((c : Int) % ((2 ^ 64 : Nat) : Int)).toNat = c := by omega
  rw [e1, e2, ← Nat.two_pow_add_eq_or_of_lt (i := 8) (by omega)]
  have e3 : IntKind.i64.wrap (((2 ^ 8 * (n % 72057594037927936).toNat + c : Nat) : Nat) : Int) = n * 256 + c := by
    unfold IntKind.wrap
    simp only [IntKind.bits, IntKind.signed, Bool.true_and, decide_eq_true_eq, show ((2 : Int) ^ 64) = 18446744073709551616 from rfl, show ((2 : Int) ^ (64 - 1)) = 9223372036854775808 from rfl]
    split <;> omega
  rw [e3]
theorem sgn_bound {i B : Nat} (hi : 1 ≤ i) (hi7 : i ≤ 7) (hB : B < 256 ^ i) : -36028797018963968 ≤ sgn i B ∧ sgn i B < 36028797018963968 := by
  have h1 : 256 ^ i ≤ 256 ^ 7 := Nat.pow_le_pow_right (by omega) hi7
  have h2 : (256 : Nat) ^ 7 = 72057594037927936 := by decide
  unfold sgn
  split <;> omega
theorem sgn_step {i B y : Nat} (hi : 1 ≤ i) (hB : B < 256 ^ i) (hy : y < 256) : sgn (i + 1) (B * 256 + y) = sgn i B * 256 + y := by
  obtain ⟨k, rfl⟩ : ∃ k, i = k + 1 := ⟨i - 1, by omega⟩
  have e1 : (256 : Nat) ^ (k + 1) = 256 ^ k * 256 := Nat.pow_succ ..
  have e2 : (256 : Nat) ^ (k + 1 + 1) = 256 ^ (k + 1) * 256 := Nat.pow_succ ..
  unfold sgn
  generalize (256 : Nat) ^ (k + 1) = p at *
  generalize (256 : Nat) ^ k = q at *
  rw [e2]
  split <;> split <;> omega
theorem wrap_sg1 {y : Nat} (hy : y < 256) : IntKind.i64.wrap (IntKind.i8.wrap (y : Int)) = sgn 1 y := by
  unfold sgn
  simp [IntKind.wrap, IntKind.signed, IntKind.bits]
  split <;> split <;> omega
section
variable {P : Program} {N : Nat} {Q : Exit → (Nat → Value) → World → Prop} {ρ : Nat → Value} {w w' : World} {ms : List MOp} {O : ON}
def fixBody (O : ON) : MCode := .sq (.rg [.bi 13 .lss O.T.int (.t 12) (.t 11)]) (.sq (.cd 13 .sk (.ex 0))
  (.sq (.bl 1 (.sq (.rg [.mv 14 (.t 12), .ia 15 O.T.u8s 10 12, .ld 16 O.T.u8 15, .mv 6 (.t 14), .mv 7 (.t 16)])
    (.sq (.sq (.rg [.mv 17 (.t 6), .bi 18 .eql O.T.int (.t 17) (.c (.int .i64 0))]) (.cd 18 (.sq (.rg [.mv 19 (.t 7), .cv 20 O.T.u8 O.T.i8 19, .cv 21 O.T.i8 O.T.i64 20, .mv 5 (.t 21)]) (.ex 1)) .sk))
      (.rg [.mv 22 (.t 5), .b2 23 .shl (.t 22) (.c (.int .u64 8)), .mv 24 (.t 7), .cv 25 O.T.u8 O.T.i64 24, .bi 26 .or O.T.i64 (.t 23) (.t 25), .mv 5 (.t 26)]))))
    (.rg [.bi 27 .add O.T.int (.t 12) (.c (.int .i64 1)), .mv 12 (.t 27)])))
def cFix (O : ON) : MCode := .sq (.rg [.mv 4 (.c (.int .i64 0))]) (.sq (.rg [.mv 5 (.c (.int .i64 0))])
  (.sq (.sq (.rg [.mv 8 (.t 0), .mv 9 (.t 1), .ca 10 O.fTake [.t 8, .t 9], .ln 11 O.T.u8s 10, .mv 12 (.c (.int .i64 0))]) (.bl 0 (.lp (fixBody O))))
  (.sq (.rg [.mv 28 (.t 5), .mv 4 (.t 28)]) .rt)))
def fx (l : List UInt8) (n : Nat) (s : Nat × Int) : Int × Nat × Int :=
  if s.2 ≠ 0 then (0, s) else if l.length - s.1 < n then (0, s.1, 1) else (sgn n (beVal ((l.drop s.1).take n)), s.1 + n, 0)
def FixC (P : Program) (f : Nat) : Prop := entersB P f = true ∧ ∀ (w : World) (b : Nat) (F : Nat → Prop) (ad : Option Addr) (l : List UInt8) (c a : Nat) (h : Int) (n : Nat), SpR w b (.slice ad l.length c) a h → okA l.length ad → l.length ≤ c → BytesAt w F ad l → (∀ k, F k → k < w.heap.size ∧ k ≠ b) → a ≤ l.length → l.length ≤ 1000000000 → 1 ≤ n → n ≤ 8 →
  Calls P f #[.pointer (some ⟨b, 0, none⟩), .int .i64 (n : Nat)] w (fun e w' => Fr (fun _ => False) b 0 3 w w' ∧ e = .returned (.int .i64 (fx l n (a, h)).1) ∧ SpR w' b (.slice ad l.length c) (fx l n (a, h)).2.1 (fx l n (a, h)).2.2)
theorem fix_loop (ok : OOK P O) {F : Nat → Prop} {ad : Option Addr} {m : List UInt8} {c : Nat} (hm : 1 ≤ m.length) (hm8 : m.length ≤ 8) (hby : BytesAt w F ad m) (r10 : ρ 10 = .slice ad m.length c) (r11 : ρ 11 = .int .i64 (m.length : Nat)) (r12 : ρ 12 = .int .i64 0)
    (hQ : ∀ ρ', ρ' 5 = .int .i64 (sgn m.length (beVal m)) → Q .normal ρ' w) : RW P 29 (.bl 0 (.lp (fixBody O))) Q ρ w := by
  refine RW.bl (RW.lp (fun ρ' w' => w' = w ∧ ∃ i : Nat, i ≤ m.length ∧ ρ' 10 = .slice ad m.length c ∧ ρ' 11 = .int .i64 (m.length : Nat) ∧ ρ' 12 = .int .i64 (i : Nat) ∧ (1 ≤ i → ρ' 5 = .int .i64 (sgn i (beVal (m.take i))))) (fun ρ' _ => m.length + 1 - (intOf (ρ' 12)).toNat) ⟨rfl, 0, Nat.zero_le _, r10, r11, r12, fun h => by omega⟩ ?_ (fun ρ1 ρ2 w1 h => by rw [h 12 (by omega)]))
  rintro ρ1 w1 ⟨rfl, i, hi, q10, q11, q12, q5⟩
  unfold fixBody
  refine RW.sq (RW.rg (RL.step (MR.biE (v := .bool (decide ((i : Int) < (m.length : Nat)))) (by show evB .lss (ρ1 12) (ρ1 11) = _; rw [q12, q11]; rfl)) (RL.nil (RW.sq ?_))))
  by_cases hlt : i < m.length
  · refine RW.cd (b := true) (by rw [upd_same, decide_eq_true (by omega)]) (fun _ => RW.sk ?_) (fun e => by cases e)
    obtain ⟨y, hy⟩ : ∃ y, m[i]? = some y := ⟨_, List.getElem?_eq_getElem hlt⟩
    obtain ⟨g, o, rfl, hg, hcell⟩ := hby i y hy
    have hy8 := y.toNat_lt
    have next : ∀ (ρ2 : Nat → Value) (Q2 : Exit → (Nat → Value) → World → Prop), ρ2 10 = .slice (some ⟨g, o, none⟩) m.length c → ρ2 11 = .int .i64 (m.length : Nat) → ρ2 12 = .int .i64 (i : Nat) → ρ2 5 = .int .i64 (sgn (i + 1) (beVal (m.take (i + 1)))) →
        (∀ ρ', (w1 = w1 ∧ ∃ i : Nat, i ≤ m.length ∧ ρ' 10 = .slice (some ⟨g, o, none⟩) m.length c ∧ ρ' 11 = .int .i64 (m.length : Nat) ∧ ρ' 12 = .int .i64 (i : Nat) ∧ (1 ≤ i → ρ' 5 = .int .i64 (sgn i (beVal (m.take i))))) ∧ m.length + 1 - (intOf (ρ' 12)).toNat < m.length + 1 - (intOf (ρ1 12)).toNat → Q2 .normal ρ' w1) →
        RW P 29 (.rg [.bi 27 .add O.T.int (.t 12) (.c (.int .i64 1)), .mv 12 (.t 27)]) Q2 ρ2 w1 := by
      intro ρ2 Q2 p10 p11 p12 p5 hQ2
      refine RW.rg (RL.step (MR.biE (v := .int .i64 ((i + 1 : Nat) : Int)) (by show evB .add (ρ2 12) (.int .i64 1) = _; rw [p12]; show some (Value.int .i64 (IntKind.i64.wrap ((i : Int) + 1))) = _; rw [wrap_i64 (by omega) (by omega)]; rfl)) (RL.step (MR.mv (upd_same _ _ _)) (RL.nil ?_)))
      refine hQ2 _ ⟨⟨rfl, i + 1, hlt, by (repeat (first | rw [upd_same] | rw [upd_ne _ _ (by omega)])); exact p10, by (repeat (first | rw [upd_same] | rw [upd_ne _ _ (by omega)])); exact p11, upd_same _ _ _, fun _ => by (repeat (first | rw [upd_same] | rw [upd_ne _ _ (by omega)])); exact p5⟩, ?_⟩
      rw [upd_same, q12]; simp only [intOf]; omega
    refine RW.sq (RW.bl ?_)
    refine RW.sq (RW.rg (RL.step (MR.mv (v := .int .i64 (i : Nat)) (by show upd _ _ _ 12 = _; (repeat (first | rw [upd_same] | rw [upd_ne _ _ (by omega)])); exact q12)) (RL.step (MR.ia (k := .i64) (b := g) (o := o) (len := m.length) (cap := c) (j := i) (sz := 1) ok.tk.u8s ok.cu (by (repeat (first | rw [upd_same] | rw [upd_ne _ _ (by omega)])); exact q10) (by (repeat (first | rw [upd_same] | rw [upd_ne _ _ (by omega)])); exact q12) hlt) (RL.step (MR.ld (p := ⟨g, o + i * 1, none⟩) (upd_same _ _ _) ok.pu (by rw [Nat.mul_one]; exact hcell)) (RL.step (MR.mv (v := .int .i64 (i : Nat)) (by show upd _ _ _ 14 = _; (repeat (first | rw [upd_same] | rw [upd_ne _ _ (by omega)])))) (RL.step (MR.mv (v := byteV y) (by show upd _ _ _ 16 = _; (repeat (first | rw [upd_same] | rw [upd_ne _ _ (by omega)])))) (RL.nil ?_)))))))
    refine RW.sq (RW.sq (RW.rg (RL.step (MR.mv (v := .int .i64 (i : Nat)) (by show upd _ _ _ 6 = _; (repeat (first | rw [upd_same] | rw [upd_ne _ _ (by omega)])))) (RL.step (MR.biE (v := .bool ((i : Int) == 0)) (by show evB .eql (upd _ _ _ 17) _ = _; rw [upd_same]; rfl)) (RL.nil ?_)))))
    by_cases h0 : i = 0
    · subst h0
      refine RW.cd (b := true) (upd_same _ _ _) (fun _ => ?_) (fun e => by cases e)
      refine RW.sq (RW.rg (RL.step (MR.mv (v := .int .u8 (y.toNat : Nat)) (by show upd _ _ _ 7 = _; (repeat (first | rw [upd_same] | rw [upd_ne _ _ (by omega)])); rfl)) (RL.step (MR.cvI (upd_same _ _ _) ok.tk.u8i ok.i8) (RL.step (MR.cvI (upd_same _ _ _) ok.i8 ok.i64) (RL.step (MR.mv (upd_same _ _ _)) (RL.nil (RW.ex ?_)))))))
      show RW P 29 (.rg [.bi 27 .add O.T.int (.t 12) (.c (.int .i64 1)), .mv 12 (.t 27)]) _ _ _
      refine next _ _ (by (repeat (first | rw [upd_same] | rw [upd_ne _ _ (by omega)])); exact q10) (by (repeat (first | rw [upd_same] | rw [upd_ne _ _ (by omega)])); exact q11) (by (repeat (first | rw [upd_same] | rw [upd_ne _ _ (by omega)])); exact q12) ?_ (fun _ h => h)
      rw [upd_same, wrap_sg1 hy8]
      cases m with
      | nil => simp at hlt
      | cons a m => simp at hy; subst hy; simp [beVal]
    · refine RW.cd (b := false) (by rw [upd_same]; congr 1; simp; omega) (fun e => by cases e) (fun _ => RW.sk ?_)
      have hB : beVal (m.take i) < 256 ^ i := by
        have := beVal_lt (m.take i)
        rwa [List.length_take, Nat.min_eq_left (by omega)] at this
      obtain ⟨b1, b2⟩ := sgn_bound (by omega) (by omega) hB
      refine RW.rg (RL.step (MR.mv (v := .int .i64 (sgn i (beVal (m.take i)))) (by show upd _ _ _ 5 = _; (repeat (first | rw [upd_same] | rw [upd_ne _ _ (by omega)])); exact q5 (by omega))) (RL.step (MR.b2 (v := .int .i64 (sgn i (beVal (m.take i)) * 256)) (by show evB .shl (upd _ _ _ 22) _ = _; rw [upd_same]; show some (Value.int .i64 (IntKind.i64.wrap (_ * 2 ^ 8))) = _; rw [wrap_i64 (by omega) (by omega)]; rfl))
        (RL.step (MR.mv (v := .int .u8 (y.toNat : Nat)) (by show upd _ _ _ 7 = _; (repeat (first | rw [upd_same] | rw [upd_ne _ _ (by omega)])); rfl)) (RL.step (MR.cvI (upd_same _ _ _) ok.tk.u8i ok.i64) (RL.step (MR.biE (v := .int .i64 (sgn i (beVal (m.take i)) * 256 + (y.toNat : Nat))) ?_) (RL.step (MR.mv (upd_same _ _ _)) (RL.nil ?_)))))))
      · show evB .or (upd _ _ _ 23) (upd _ _ _ 25) = _
        rw [upd_same, upd_ne _ _ (by omega), upd_ne _ _ (by omega), upd_same, wrap_i64 (by omega) (by omega)]
        exact or_i64 hy8 b1 b2
      · show RW P 29 _ _ _ _
        refine next _ _ (by (repeat (first | rw [upd_same] | rw [upd_ne _ _ (by omega)])); exact q10) (by (repeat (first | rw [upd_same] | rw [upd_ne _ _ (by omega)])); exact q11) (by (repeat (first | rw [upd_same] | rw [upd_ne _ _ (by omega)])); exact q12) ?_ (fun _ h => h)
        rw [upd_same]
        have e : m.take (i + 1) = m.take i ++ [y] := by rw [List.take_add_one, hy]; rfl
        rw [e, beVal_snoc, sgn_step (by omega) hB hy8]
  · refine RW.cd (b := false) (by rw [upd_same, decide_eq_false (by omega)]) (fun e => by cases e) (fun _ => RW.ex ?_)
    show inBlockR 0 Q (.exit 0) _ _
    simp only [inBlockR, ↓reduceIte]
    have : i = m.length := by omega
    subst this
    refine hQ _ ?_
    rw [upd_ne _ _ (by omega)]
    have := q5 hm
    rwa [List.take_length] at this
end
section
variable {P : Program} {N : Nat} {Q : Exit → (Nat → Value) → World → Prop} {ρ : Nat → Value} {w w' : World} {ms : List MOp} {O : ON}
theorem fix_loop0 (r11 : ρ 11 = .int .i64 0) (r12 : ρ 12 = .int .i64 0) (hQ : ∀ ρ', ρ' 5 = ρ 5 → Q .normal ρ' w) : RW P 29 (.bl 0 (.lp (fixBody O))) Q ρ w := by
  refine RW.bl (RW.lp (fun ρ' w' => w' = w ∧ ρ' 11 = .int .i64 0 ∧ ρ' 12 = .int .i64 0 ∧ ρ' 5 = ρ 5) (fun _ _ => 0) ⟨rfl, r11, r12, rfl⟩ ?_ (fun _ _ _ _ => rfl))
  rintro ρ1 w1 ⟨rfl, q11, q12, q5⟩
  unfold fixBody
  refine RW.sq (RW.rg (RL.step (MR.biE (v := .bool false) (by show evB .lss (ρ1 12) (ρ1 11) = _; rw [q12, q11]; rfl)) (RL.nil (RW.sq ?_))))
  refine RW.cd (b := false) (upd_same _ _ _) (fun e => by cases e) (fun _ => RW.ex ?_)
  show inBlockR 0 Q (.exit 0) _ _
  simp only [inBlockR, ↓reduceIte]
  exact hQ _ (by rw [upd_ne _ _ (by omega)]; exact q5)
theorem spFix_ok {f : Nat} (ok : OOK P O) (htk : TakeC P O.fTake) (hf : FnIs P f (cFix O) 29 4) : FixC P f := by
  refine ⟨hf.ent, fun w b F ad l c a h n hr had hlc hby hF hal hl hn1 hn8 => ?_⟩
  refine hf.runs (args := [.pointer (some ⟨b, 0, none⟩), .int .i64 (n : Nat)]) (by simp) (by omega) ?_
  refine RW.sq (RW.rg (RL.step MR.mv (RL.nil (RW.sq (RW.rg (RL.step MR.mv (RL.nil (RW.sq (RW.sq (RW.rg (RL.step (MR.mv (v := .pointer (some ⟨b, 0, none⟩)) rfl) (RL.step (MR.mv (v := .int .i64 (n : Nat)) rfl) ?_))))))))))))
  refine RL.ca (R := fun v w' => Fr (fun _ => False) b 0 3 w w' ∧
    (((h ≠ 0 ∨ l.length - a < n) ∧ v = .slice none 0 0 ∧ SpR w' b (.slice ad l.length c) a (if h = 0 then 1 else h)) ∨
     (h = 0 ∧ n ≤ l.length - a ∧ ∃ ad' c', v = .slice ad' n c' ∧ okA n ad' ∧ n ≤ c' ∧ BytesAt w F ad' ((l.drop a).take n) ∧ SpR w' b (.slice ad l.length c) (a + n) 0))) htk.1 ?_ ?_
  · refine Calls.mono (htk.2 w b F ad l c a h n hr had hlc hby hal hl (by omega)) ?_
    rintro e w' ⟨g1, ⟨g2, rfl, g3⟩ | ⟨g2, g3, ad', c', rfl, g4⟩⟩
    · exact ⟨_, rfl, g1, .inl ⟨g2, rfl, g3⟩⟩
    · exact ⟨_, rfl, g1, .inr ⟨g2, g3, ad', c', rfl, g4⟩⟩
  rintro v w2 ⟨F2, ⟨g1, rfl, g2⟩ | ⟨rfl, g1, ad', c', rfl, g2, g3, g4, g5⟩⟩
  · refine RL.step (MR.ln (p := none) (n := 0) (c := 0) ok.tk.u8s (upd_same _ _ _)) (RL.step MR.mv (RL.nil ?_))
    refine fix_loop0 (by (repeat (first | rw [upd_same] | rw [upd_ne _ _ (by omega)])); rfl) (upd_same _ _ _) fun ρ' q5 => ?_
    have q5' : ρ' 5 = .int .i64 0 := by rw [q5]; rfl
    refine RW.sq (RW.rg (RL.step (MR.mv q5') (RL.step (MR.mv (upd_same _ _ _)) (RL.nil (RW.rt ?_)))))
    have e : fx l n (a, h) = (0, a, if h = 0 then 1 else h) := by
      unfold fx
      by_cases hh : h = 0
      · subst hh
        have : l.length - a < n := g1.resolve_left (by simp)
        simp [this]
      · simp [hh]
    rw [e]
    exact ⟨F2, by rw [upd_same], g2⟩
  · have hlen : ((l.drop a).take n).length = n := by rw [List.length_take, List.length_drop]; omega
    have hb2 : BytesAt w2 F ad' ((l.drop a).take n) := g4.mono (fun _ h => h) (fun k hk => F2.block k (hF k hk).1 (hF k hk).2 (fun x => x))
    refine RL.step (MR.ln (p := ad') (n := n) (c := c') ok.tk.u8s (upd_same _ _ _)) (RL.step MR.mv (RL.nil ?_))
    refine fix_loop (c := c') ok (m := (l.drop a).take n) (by omega) (by omega) hb2 (by rw [hlen]; (repeat (first | rw [upd_same] | rw [upd_ne _ _ (by omega)]))) (by rw [hlen]; (repeat (first | rw [upd_same] | rw [upd_ne _ _ (by omega)]))) (upd_same _ _ _) fun ρ' q5 => ?_
    rw [hlen] at q5
    refine RW.sq (RW.rg (RL.step (MR.mv q5) (RL.step (MR.mv (upd_same _ _ _)) (RL.nil (RW.rt ?_)))))
    have e : fx l n (a, 0) = (sgn n (beVal ((l.drop a).take n)), a + n, 0) := by
      unfold fx
      simp only [ne_eq, not_true_eq_false, if_false]
      rw [if_neg (by omega)]
    rw [e]
    exact ⟨F2, by rw [upd_same], g5⟩
end
set_option linter.unusedVariables false
def oc (l : List UInt8) (n : Int) (s : Nat × Int) : Option (List UInt8) × Nat × Int :=
  if n = -1 ∧ s.2 = 0 then (none, s)
  else if (if (l.length : Int) < n then (if (if n < 0 then (if s.2 = 0 then 3 else s.2) else s.2) = 0 then 1 else (if n < 0 then (if s.2 = 0 then 3 else s.2) else s.2)) else (if n < 0 then (if s.2 = 0 then 3 else s.2) else s.2)) ≠ (0 : Int) then
    (some [], s.1, (if (l.length : Int) < n then (if (if n < 0 then (if s.2 = 0 then 3 else s.2) else s.2) = 0 then 1 else (if n < 0 then (if s.2 = 0 then 3 else s.2) else s.2)) else (if n < 0 then (if s.2 = 0 then 3 else s.2) else s.2)))
  else if l.length - s.1 < n.toNat then (some [], s.1, 1) else (some ((l.drop s.1).take n.toNat), s.1 + n.toNat, 0)
def OctV (w : World) (F : Nat → Prop) (v : Value) (o : Option (List UInt8)) : Prop := ∃ ad c, v = .agg #[.bool o.isNone, .slice ad (o.getD []).length c] ∧ okA (o.getD []).length ad ∧ (o.getD []).length ≤ c ∧ BytesAt w F ad (o.getD [])
structure OOK2 (P : Program) (O : ON) : Prop where
  ok : OOK P O
  oz : zeroAgg P O.tOc [.bool false, .slice none 0 0]
  op : plcB P O.tOc 2 = true
  or_ : rowTy P O.tOc = true
  oc : cellsB P O.tOc 2 = true
section
variable {P : Program} {N : Nat} {Q : Exit → (Nat → Value) → World → Prop} {ρ : Nat → Value} {w w' : World} {ms : List MOp} {O : ON}
def octG (O : ON) : List GOp := [⟨0, none, .mv 5 (.t 1)⟩, ⟨1, none, .bi 6 .eql O.T.i64 (.t 5) (.c (.int .i64 (-1)))⟩, ⟨2, none, .mv 7 (.t 6)⟩, ⟨3, some (2, 7, true), .mv 8 (.t 0)⟩, ⟨4, some (2, 7, true), .nc 9 8⟩, ⟨5, some (2, 7, true), .fa 10 O.tRd 9 2⟩, ⟨6, some (2, 7, true), .ld 11 O.T.int 10⟩,
  ⟨7, some (2, 7, true), .bi 12 .eql O.T.int (.t 11) (.c (.int .i64 0))⟩, ⟨8, none, .pk 13 (.t 7) (.t 12) (.c (.bool false))⟩]
def octC (O : ON) : MCode := .sq (.sq (.rg [.mv 28 (.t 0), .nc 29 28, .fa 30 O.tRd 29 2, .ld 31 O.T.int 30, .bi 32 .neq O.T.int (.t 31) (.c (.int .i64 0))]) (.cd 32 (.sq (.rg [.bdl 33 O.tOc [], .st O.tOc 4 33]) .rt) .sk))
  (.sq (.rg [.mv 34 (.t 0), .mv 35 (.t 1), .ca 36 O.fTake [.t 34, .t 35], .bdl 37 O.tOc [(1, .t 36)], .st O.tOc 4 37]) .rt)
def octB (O : ON) : MCode := .sq (.sq (.rg [.mv 19 (.t 1), .mv 20 (.t 0), .nc 21 20, .fa 22 O.tRd 21 0, .ld 23 O.T.u8s 22, .ln 24 O.T.u8s 23, .bi 25 .gtr O.T.i64 (.t 19) (.t 24)]) (.cd 25 (.rg [.mv 26 (.t 0), .ca 27 O.fFail [.t 26, .c (.int .i64 1)]]) .sk)) (octC O)
def octA (O : ON) : MCode := .sq (.sq (.rg [.mv 15 (.t 1), .bi 16 .lss O.T.i64 (.t 15) (.c (.int .i64 0))]) (.cd 16 (.rg [.mv 17 (.t 0), .ca 18 O.fFail [.t 17, .c (.int .i64 3)]]) .sk)) (octB O)
def cOct (O : ON) : MCode := .sq (.rg [.al 4 O.tOc])
  (.sq (.sq (.gr false (octG O)) (.cd 13 (.sq (.rg [.bdl 14 O.tOc [(0, .c (.bool true))], .st O.tOc 4 14]) .rt) .sk)) (octA O))
def OctsC (P : Program) (f : Nat) : Prop := entersB P f = true ∧ ∀ (w : World) (b : Nat) (F : Nat → Prop) (ad : Option Addr) (l : List UInt8) (c a : Nat) (h n : Int), SpR w b (.slice ad l.length c) a h → okA l.length ad → l.length ≤ c → BytesAt w F ad l → (∀ k, F k → k < w.heap.size ∧ k ≠ b) → a ≤ l.length → l.length ≤ 1000000000 → -2147483648 ≤ n → n ≤ 2147483647 →
  Calls P f #[.pointer (some ⟨b, 0, none⟩), .int .i64 n] w (fun e w' => ∃ v, e = .returned v ∧ Fr (fun _ => False) b 0 3 w w' ∧ OctV w' F v (oc l n (a, h)).1 ∧ SpR w' b (.slice ad l.length c) (oc l n (a, h)).2.1 (oc l n (a, h)).2.2)
theorem oct_ret (ok : OOK2 P O) {R : Ending → World → Prop} {Q1 Q2 : Exit → (Nat → Value) → World → Prop} {q : Nat} {cs : List Value} {x : Nat} (hp : ρ 4 = .pointer (some ⟨q, 0, none⟩)) (hx : ρ x = .agg cs.toArray) (hl : cs.length = 2) (h1 : cs.all (·.oneCell') = true) (ht : w.there q 0 2) (hxN : x < 38)
    (hR : R (.returned (.agg cs.toArray)) (w.setCells q 0 cs)) (hQ : retC P 4 O.tOc R .ret ρ (w.setCells q 0 cs) → Q1 .ret ρ (w.setCells q 0 cs)) : RL P 38 [.st O.tOc 4 x] (thenR (RW P 38 .rt Q1) Q2) ρ w := by
  refine RL.stA (cs := cs) (b := q) (o := 0) hp hx (by rw [hl]; exact ok.oc) (by rw [hl]; exact ht) h1 (RL.nil (RW.rt (hQ ?_))) (by omega) hxN
  exact ⟨⟨q, 0, none⟩, .agg cs.toArray, hp, run_loadAt_row ok.or_ (by rw [hl]; exact ok.oc) (World.rangeAt_setCells_same w q 0 cs (by rw [hl]; exact ht)), hR⟩
theorem Fr.putQ {X : Nat → Prop} {b o n q : Nat} {w0 : World} (hF : Fr X b o n w0 w) (hq : w0.heap.size ≤ q) (hqb : b ≠ q) (cs : List Value) : Fr X b o n w0 (w.setCells q 0 cs) := by
  have p : Fr (fun k => X k ∨ k = q) b o n w (w.setCells q 0 cs) := by
    have h := below_setCells (B := q) (b := q) (Nat.le_refl _) cs 0 (Below.refl q w)
    exact ⟨h.os, h.tape, h.output, h.size, fun k hk h1 h2 => setCells_other q cs 0 _ k (fun e => h2 (.inr e)), fun j _ => by rw [cell_of_heap (setCells_other q cs 0 _ b hqb)], fun o' n' ht => World.there_setCells ht _ _ _⟩
  exact ((hF.wide (X' := fun k => X k ∨ k = q) (fun k h => .inl h) (Nat.le_refl _) (Nat.le_refl _)).trans p).drop (fun k hk => by rcases hk with h | h; exact .inl h; exact .inr (by omega))
theorem SpR.keep {b : Nat} {sv : Value} {a : Nat} {h : Int} (hr : SpR w b sv a h) (he : w'.heap[b]? = w.heap[b]?) : SpR w' b sv a h := ⟨range_keep hr.1 he, there_keep hr.2 he⟩
theorem OctV.keep {F : Nat → Prop} {v : Value} {o : Option (List UInt8)} (h : OctV w F v o) (he : ∀ k, F k → w'.heap[k]? = w.heap[k]?) : OctV w' F v o := by
  obtain ⟨ad, c, h1, h2, h3, h4⟩ := h
  exact ⟨ad, c, h1, h2, h3, h4.mono (fun _ h => h) he⟩
def oc2 (l : List UInt8) (n : Int) (s : Nat × Int) : Option (List UInt8) × Nat × Int :=
  if s.2 ≠ 0 then (some [], s.1, s.2) else if l.length - s.1 < n.toNat then (some [], s.1, 1) else (some ((l.drop s.1).take n.toNat), s.1 + n.toNat, 0)
def OctPost (b : Nat) (F : Nat → Prop) (sv : Value) (w0 : World) (o : Option (List UInt8) × Nat × Int) : Ending → World → Prop := fun e w' => ∃ v, e = .returned v ∧ Fr (fun _ => False) b 0 3 w0 w' ∧ OctV w' F v o.1 ∧ SpR w' b sv o.2.1 o.2.2
theorem octC_ok (ok : OOK2 P O) (htk : TakeC P O.fTake) {w0 : World} {b q : Nat} {F : Nat → Prop} {ad : Option Addr} {l : List UInt8} {c a : Nat} {h n : Int} (hr : SpR w b (.slice ad l.length c) a h) (had : okA l.length ad) (hlc : l.length ≤ c) (hby : BytesAt w F ad l) (hF : ∀ k, F k → k < w0.heap.size ∧ k ≠ b) (hal : a ≤ l.length) (hl : l.length ≤ 1000000000) (hn : h = 0 → 0 ≤ n ∧ n ≤ l.length)
    (h0 : Fr (fun _ => False) b 0 3 w0 w) (hq : w0.heap.size ≤ q) (hqw : q < w.heap.size) (hqb : b ≠ q) (ht : w.there q 0 2) (p0 : ρ 0 = .pointer (some ⟨b, 0, none⟩)) (p1 : ρ 1 = .int .i64 n) (p4 : ρ 4 = .pointer (some ⟨q, 0, none⟩)) :
    RW P 38 (octC O) (retC P 4 O.tOc (OctPost b F (.slice ad l.length c) w0 (oc2 l n (a, h)))) ρ w := by
  unfold octC
  have fin : ∀ {w1 : World} {cs : List Value} {o : Option (List UInt8)} {a' : Nat} {h' : Int}, cs.length = 2 → Fr (fun _ => False) b 0 3 w0 w1 → OctV w1 F (.agg cs.toArray) o → SpR w1 b (.slice ad l.length c) a' h' → (o, a', h') = oc2 l n (a, h) → OctPost b F (.slice ad l.length c) w0 (oc2 l n (a, h)) (.returned (.agg cs.toArray)) (w1.setCells q 0 cs) := by
    intro w1 cs o a' h' hl2 g1 g2 g3 g4
    rw [← g4]
    exact ⟨_, rfl, g1.putQ hq hqb cs, g2.keep (fun k hk => setCells_other q cs 0 _ k (by have := (hF k hk).1; omega)), g3.keep (setCells_other q cs 0 _ b hqb)⟩
  refine RW.sq (RW.sq (RW.rg (RL.step (MR.mv p0) (RL.step (MR.nc (upd_same _ _ _)) (RL.step (MR.fa (upd_same _ _ _) ok.ok.r2) (RL.step (MR.ld (upd_same _ _ _) ok.ok.pi (hr.1 2 _ rfl)) (RL.step (MR.biE (v := .bool (!(h == 0))) (by show evB .neq (upd _ _ _ 31) (.int .i64 0) = _; rw [upd_same]; rfl)) (RL.nil ?_))))))))
  by_cases hh : h = 0
  · subst hh
    obtain ⟨n0, n1⟩ := hn rfl
    obtain ⟨k, rfl⟩ : ∃ k : Nat, n = (k : Int) := ⟨n.toNat, by omega⟩
    refine RW.cd (b := false) (upd_same _ _ _) (fun e => by cases e) (fun _ => RW.sk ?_)
    refine RW.sq (RW.rg (RL.step (MR.mv (v := .pointer (some ⟨b, 0, none⟩)) (by show upd _ _ _ 0 = _; (repeat (first | rw [upd_same] | rw [upd_ne _ _ (by omega)])); exact p0)) (RL.step (MR.mv (v := .int .i64 (k : Nat)) (by show upd _ _ _ 1 = _; (repeat (first | rw [upd_same] | rw [upd_ne _ _ (by omega)])); exact p1)) ?_)))
    refine RL.ca (R := fun v w' => Fr (fun _ => False) b 0 3 w w' ∧
    ((l.length - a < k ∧ v = .slice none 0 0 ∧ SpR w' b (.slice ad l.length c) a 1) ∨
     (k ≤ l.length - a ∧ ∃ ad' c', v = .slice ad' k c' ∧ okA k ad' ∧ k ≤ c' ∧ BytesAt w F ad' ((l.drop a).take k) ∧ SpR w' b (.slice ad l.length c) (a + k) 0))) htk.1 ?_ ?_
    · simp only [List.map_cons, List.map_nil, xof]
      rw [upd_same, upd_ne _ _ (by omega), upd_same]
      refine Calls.mono (htk.2 w b F ad l c a 0 k hr had hlc hby hal hl (by omega)) ?_
      rintro e w' ⟨g1, ⟨g2, rfl, g3⟩ | ⟨g2, g3, ad', c', rfl, g4⟩⟩
      · exact ⟨_, rfl, g1, .inl ⟨g2.resolve_left (by simp), rfl, by simpa using g3⟩⟩
      · exact ⟨_, rfl, g1, .inr ⟨g3, ad', c', rfl, g4⟩⟩
    rintro v w2 ⟨F2, hv⟩
    have ht2 : w2.there q 0 2 := there_keep ht (F2.block q hqw (fun e => hqb e.symm) (fun x => x))
    obtain ⟨ad2, k2, c2, rfl, e1, e2, e3, e4, e5⟩ : ∃ ad2 m c2, v = .slice ad2 (List.length m) c2 ∧ okA m.length ad2 ∧ m.length ≤ c2 ∧ BytesAt w F ad2 m ∧ (oc2 l (k : Nat) (a, 0)).1 = some m ∧ SpR w2 b (.slice ad l.length c) (oc2 l (k : Nat) (a, 0)).2.1 (oc2 l (k : Nat) (a, 0)).2.2 := by
      rcases hv with ⟨g1, rfl, g2⟩ | ⟨g1, ad', c', rfl, g2, g3, g4, g5⟩
      · have e : oc2 l (k : Nat) (a, 0) = (some [], a, 1) := by unfold oc2; simp [g1]
        rw [e]
        exact ⟨none, [], 0, rfl, .inl rfl, Nat.le_refl _, fun j y hj => by simp at hj, rfl, g2⟩
      · have e : oc2 l (k : Nat) (a, 0) = (some ((l.drop a).take k), a + k, 0) := by unfold oc2; simp only [ne_eq, not_true_eq_false, if_false, Int.toNat_natCast]; rw [if_neg (by omega)]
        have hlen : ((l.drop a).take k).length = k := by rw [List.length_take, List.length_drop]; omega
        rw [e]
        exact ⟨ad', (l.drop a).take k, c', by rw [hlen], by rw [hlen]; exact g2, by rw [hlen]; exact g3, g4, rfl, g5⟩
    refine RL.step (MR.bdl (w' := w2) (v := .agg #[.bool false, .slice ad2 k2.length c2]) ?_) ?_
    · simp only [List.map_cons, List.map_nil, xof]
      rw [upd_same]
      exact built_of (z := [.bool false, .slice none 0 0]) (parts := [(1, .slice ad2 k2.length c2)]) (cells := [.bool false, .slice ad2 k2.length c2]) ok.oz ok.op (by simp [Value.cells]) rfl w2
    refine oct_ret (cs := [.bool false, .slice ad2 k2.length c2]) (q := q) ok (by (repeat (first | rw [upd_same] | rw [upd_ne _ _ (by omega)])); exact p4) (upd_same _ _ _) rfl rfl ht2 (by omega) ?_ (fun h => h)
    refine fin rfl (h0.trans F2) (o := (oc2 l (k : Nat) (a, 0)).1) ?_ e5 rfl
    rw [e4]
    exact ⟨ad2, c2, rfl, e1, e2, e3.mono (fun _ h => h) (fun j hj => F2.block j (Nat.lt_of_lt_of_le (hF j hj).1 h0.size) (hF j hj).2 (fun x => x))⟩
  · refine RW.cd (b := true) (by rw [upd_same]; simp [hh]) (fun _ => ?_) (fun e => by cases e)
    refine RW.sq (RW.rg (RL.step (MR.bdl (w' := w) (v := .agg #[.bool false, .slice none 0 0]) (built_of (z := [.bool false, .slice none 0 0]) (parts := []) (cells := [.bool false, .slice none 0 0]) ok.oz ok.op (by simp) rfl w)) ?_))
    refine oct_ret (cs := [.bool false, .slice none 0 0]) (q := q) (x := 33) ok (by show upd _ 33 _ 4 = _; (repeat (first | rw [upd_same] | rw [upd_ne _ _ (by omega)])); exact p4) (upd_same _ _ _) rfl rfl ht (by omega) ?_ (fun h => h)
    refine fin (o := some []) rfl h0 ⟨none, 0, rfl, .inl rfl, Nat.le_refl _, fun j y hj => by simp at hj⟩ hr ?_
    unfold oc2; simp [hh]
end
section
variable {P : Program} {N : Nat} {Q : Exit → (Nat → Value) → World → Prop} {ρ : Nat → Value} {w w' : World} {ms : List MOp} {O : ON}
theorem octG_ok (ok : OOK2 P O) {b a : Nat} {sv : Value} {h n : Int} (hr : SpR w b sv a h) (p0 : ρ 0 = .pointer (some ⟨b, 0, none⟩)) (p1 : ρ 1 = .int .i64 n)
    (hQ : ∀ ρ', (∀ s, s < 5 → ρ' s = ρ s) → ρ' 13 = .bool (decide (n = -1 ∧ h = 0)) → Q .normal ρ' w) : RW P 38 (.gr false (octG O)) Q ρ w := by
  refine RW.knows [(0, .pointer (some ⟨b, 0, none⟩)), (1, .int .i64 n)] (by simp [p0, p1]) (RW.gf (Below w.heap.size w) (Below.refl _ _) ?_)
  have pre : ∀ s, s < 5 → updL ρ [(0, .pointer (some ⟨b, 0, none⟩)), (1, .int .i64 n)] s = ρ s := by
    intro s hs
    simp only [updL, List.foldl]
    by_cases h1 : s = 1
    · subst h1; rw [upd_same]; exact p1.symm
    · rw [upd_ne _ _ h1]
      by_cases h0 : s = 0
      · subst h0; rw [upd_same]; exact p0.symm
      · rw [upd_ne _ _ h0]
  have un5 : ∀ (ρ1 : Nat → Value), (∀ s, s < 5 → ρ1 s = updL ρ [(0, .pointer (some ⟨b, 0, none⟩)), (1, .int .i64 n)] s) → ∀ s, s < 5 → ρ1 s = ρ s := fun ρ1 h s hs => (h s hs).trans (pre s hs)
  unfold octG
  by_cases hn : n = -1
  · subst hn
    refine RG.q (fun _ _ => MR.mv (v := .int .i64 (-1)) rfl) (RG.q (v := .bool true) (fun _ _ => MR.biE rfl) (RG.q (fun _ _ => MR.mv (v := .bool true) rfl) (RG.q (fun _ _ => MR.mv (v := .pointer (some ⟨b, 0, none⟩)) rfl) (RG.q (fun _ _ => MR.nc rfl) (RG.q (fun _ _ => MR.fa rfl ok.ok.r2) (RG.q (fun w' hS => MR.ld rfl ok.ok.pi (hS.kp _ _ (hr.1 2 _ rfl)))
      (RG.q (v := .bool (h == 0)) (fun _ _ => MR.biE rfl) (RG.q (fun _ _ => MR.pk (b := true) (v := .bool (h == 0)) rfl rfl) (RG.nil fun _ => ?_)))))))))
    refine hQ _ (un5 _ fun s hs => by (repeat (first | rw [upd_same] | rw [upd_ne _ _ (by omega)]))) ?_
    show Value.bool (h == 0) = _
    congr 1
    by_cases hh : h = 0
    · subst hh; rfl
    · simp [hh]
  · have hb : (n == -1) = false := by simpa using hn
    refine RG.q (fun _ _ => MR.mv (v := .int .i64 n) rfl) (RG.q (v := .bool false) (fun _ _ => MR.biE (by show some (Value.bool (n == -1)) = _; rw [hb])) (RG.q (fun _ _ => MR.mv (v := .bool false) rfl)
      (RG.no (d := 8) (by exact ⟨by decide, .inl rfl⟩) (RG.no (d := 9) (by exact ⟨by decide, .inl rfl⟩) (RG.no (d := 10) (by exact ⟨by decide, .inl rfl⟩) (RG.no (d := 11) (by exact ⟨by decide, .inl rfl⟩) (RG.no (d := 12) (by exact ⟨by decide, .inl rfl⟩)
      (RG.q (fun _ _ => MR.pk (b := false) (v := .bool false) rfl rfl) (RG.nil fun _ => ?_)))))))))
    refine hQ _ (un5 _ fun s hs => by (repeat (first | rw [upd_same] | rw [upd_ne _ _ (by omega)]))) ?_
    show Value.bool false = _
    congr 1
    simp [hn]
theorem octF_ok (hfl : FailC P O.fFail) {w0 : World} {b q a t : Nat} {sv : Value} {h k : Int} {m : MVal} (hm : m = .int .i64 k) (ht : 5 ≤ t) (htN : t + 1 < 38) (hr : SpR w b sv a h) (hqw : q < w.heap.size) (hqb : b ≠ q) (p0 : ρ 0 = .pointer (some ⟨b, 0, none⟩))
    (hQ : ∀ ρ' w', (∀ s, s < 5 → ρ' s = ρ s) → SpR w' b sv a (if h = 0 then k else h) → Fr (fun _ => False) b 0 3 w w' → Q .normal ρ' w') : RW P 38 (.rg [.mv t (.t 0), .ca (t + 1) O.fFail [.t t, .c m]]) Q ρ w := by
  subst hm
  refine RW.rg (RL.step (MR.mv p0 (ltT (by omega))) (RL.ca (R := fun _ w' => SpR w' b sv a (if h = 0 then k else h) ∧ Fr (fun _ => False) b 0 3 w w') hfl.1 ?_ ?_ (by omega) (by simp [MX.lt, Nat.blt_eq]; omega)) (by omega))
  · simp only [List.map_cons, List.map_nil, xof]
    rw [upd_same]
    refine Calls.mono (hfl.2 w b sv a h k hr) ?_
    rintro e w' ⟨rfl, g1, g2⟩
    exact ⟨_, rfl, g1, g2⟩
  rintro v w2 ⟨g1, g2⟩
  exact RL.nil (hQ _ w2 (fun s hs => by rw [upd_ne _ _ (by omega), upd_ne _ _ (by omega)]) g1 g2)
theorem octs_ok {f : Nat} (ok : OOK2 P O) (hfl : FailC P O.fFail) (htk : TakeC P O.fTake) (hf : FnIsC P f (cOct O) 38 4 O.tOc) : OctsC P f := by
  refine ⟨hf.ent, fun w b F ad l c a h n hr had hlc hby hF hal hl hn1 hn2 => ?_⟩
  have hbw : b < w.heap.size := World.block_lt_of_cell? w _ (hr.1 0 _ rfl)
  refine hf.runs (args := [.pointer (some ⟨b, 0, none⟩), .int .i64 n]) (by simp) (by omega) ?_
  show RW P 38 (cOct O) (retC P 4 O.tOc (OctPost b F (.slice ad l.length c) w (oc l n (a, h)))) _ w
  refine RW.sq (RW.rg (RL.step (MR.al ok.oz) (RL.nil ?_)))
  have B1 := below_box w (.cells (Value.agg [Value.bool false, .slice none 0 0].toArray).cells O.tOc)
  have T1 : (w.alloc (.cells (Value.agg [Value.bool false, .slice none 0 0].toArray).cells O.tOc)).there w.heap.size 0 2 := there_box w [Value.bool false, .slice none 0 0] O.tOc
  have S1 := size_box w (.cells (Value.agg [Value.bool false, .slice none 0 0].toArray).cells O.tOc)
  revert B1 T1 S1
  generalize w.alloc (.cells (Value.agg [Value.bool false, .slice none 0 0].toArray).cells O.tOc) = w1
  intro B1 T1 S1
  have F1 : Fr (fun _ => False) b 0 3 w w1 := Fr.ofBelow B1 hbw
  have hr1 : SpR w1 b (.slice ad l.length c) a h := hr.keep (B1.block b hbw)
  have hby1 : BytesAt w1 F ad l := hby.mono (fun _ h => h) (fun k hk => B1.block k (hF k hk).1)
  have hqb : b ≠ w.heap.size := by omega
  refine RW.sq (RW.sq (octG_ok ok hr1 rfl rfl fun ρ2 q2 q13 => ?_))
  have p0 : ρ2 0 = .pointer (some ⟨b, 0, none⟩) := by rw [q2 0 (by omega)]; rfl
  have p1 : ρ2 1 = .int .i64 n := by rw [q2 1 (by omega)]; rfl
  have p4 : ρ2 4 = .pointer (some ⟨w.heap.size, 0, none⟩) := by rw [q2 4 (by omega)]; rfl
  by_cases hnull : n = -1 ∧ h = 0
  · refine RW.cd (b := true) (by rw [q13, decide_eq_true hnull]) (fun _ => ?_) (fun e => by cases e)
    refine RW.sq (RW.rg (RL.step (MR.bdl (w' := w1) (v := .agg #[.bool true, .slice none 0 0]) (built_of (z := [.bool false, .slice none 0 0]) (parts := [(0, .bool true)]) (cells := [.bool true, .slice none 0 0]) ok.oz ok.op (by simp [Value.cells]) rfl w1)) ?_))
    have e : oc l n (a, h) = (none, a, h) := by unfold oc; rw [if_pos hnull]
    refine oct_ret (R := OctPost b F (.slice ad l.length c) w (oc l n (a, h))) (cs := [.bool true, .slice none 0 0]) (q := w.heap.size) (x := 14) ok (by rw [upd_ne _ _ (by omega)]; exact p4) (upd_same _ _ _) rfl rfl T1 (by omega) ?_ (fun h => h)
    rw [e]
    exact ⟨_, rfl, F1.putQ (Nat.le_refl _) hqb _, OctV.keep (w := w1) ⟨none, 0, rfl, .inl rfl, Nat.le_refl _, fun j y hj => by simp at hj⟩ (fun k hk => setCells_other _ _ _ _ k (by have := (hF k hk).1; omega)), hr1.keep (setCells_other _ _ _ _ b hqb)⟩
  refine RW.cd (b := false) (by rw [q13, decide_eq_false hnull]) (fun e => by cases e) (fun _ => RW.sk ?_)
  have goC : ∀ (ρ' : Nat → Value) (w' : World) (h' : Int), (∀ s, s < 5 → ρ' s = ρ2 s) → SpR w' b (.slice ad l.length c) a h' → Fr (fun _ => False) b 0 3 w1 w' → (h' = 0 → 0 ≤ n ∧ n ≤ l.length) → oc l n (a, h) = oc2 l n (a, h') → RW P 38 (octC O) (retC P 4 O.tOc (OctPost b F (.slice ad l.length c) w (oc l n (a, h)))) ρ' w' := by
    intro ρ' w' h' g1 g2 g3 g4 g5
    rw [g5]
    have hs := g3.size
    exact octC_ok (q := w.heap.size) ok htk g2 had hlc (hby1.mono (fun _ h => h) (fun k hk => g3.block k (by have := (hF k hk).1; omega) (hF k hk).2 (fun x => x))) hF hal hl g4 (F1.trans g3) (Nat.le_refl _) (by omega) hqb (there_keep T1 (g3.block _ (by omega) (fun e => hqb e.symm) (fun x => x))) (by rw [g1 0 (by omega)]; exact p0) (by rw [g1 1 (by omega)]; exact p1) (by rw [g1 4 (by omega)]; exact p4)
  have goB : ∀ (ρ' : Nat → Value) (w' : World) (h' : Int), (∀ s, s < 5 → ρ' s = ρ2 s) → SpR w' b (.slice ad l.length c) a h' → Fr (fun _ => False) b 0 3 w1 w' → h' = (if n < 0 then (if h = 0 then 3 else h) else h) → RW P 38 (octB O) (retC P 4 O.tOc (OctPost b F (.slice ad l.length c) w (oc l n (a, h)))) ρ' w' := by
    intro ρ' w' h' g1 g2 g3 g4
    have hs := g3.size
    have eoc : oc l n (a, h) = oc2 l n (a, if (l.length : Int) < n then (if h' = 0 then 1 else h') else h') := by
      unfold oc oc2
      simp only
      rw [if_neg hnull, ← g4]
    unfold octB
    refine RW.sq (RW.sq (RW.rg (RL.step (MR.mv (v := .int .i64 n) (by show ρ' 1 = _; rw [g1 1 (by omega)]; exact p1)) (RL.step (MR.mv (v := .pointer (some ⟨b, 0, none⟩)) (by show upd _ _ _ 0 = _; (repeat (first | rw [upd_same] | rw [upd_ne _ _ (by omega)])); rw [g1 0 (by omega)]; exact p0)) (RL.step (MR.nc (upd_same _ _ _)) (RL.step (MR.fa (upd_same _ _ _) ok.ok.r0) (RL.step (MR.ld (upd_same _ _ _) ok.ok.ps (g2.1 0 _ rfl)) (RL.step (MR.ln (p := ad) (n := l.length) (c := c) ok.ok.tk.u8s (upd_same _ _ _)) (RL.step (MR.biE (v := .bool (decide ((l.length : Int) < n))) (by show evB .gtr (upd _ _ _ 19) (upd _ _ _ 24) = _; rw [upd_same]; (repeat (first | rw [upd_same] | rw [upd_ne _ _ (by omega)])); rfl)) (RL.nil ?_))))))))))
    by_cases hlt : (l.length : Int) < n
    · refine RW.cd (b := true) (by rw [upd_same, decide_eq_true hlt]) (fun _ => ?_) (fun e => by cases e)
      refine octF_ok (w0 := w) (q := w.heap.size) hfl rfl (by omega) (by omega) g2 (by omega) hqb (by (repeat (first | rw [upd_same] | rw [upd_ne _ _ (by omega)])); rw [g1 0 (by omega)]; exact p0) fun ρ3 w3 k1 k2 k3 => ?_
      refine goC ρ3 w3 _ (fun s hs => by rw [k1 s hs]; (repeat (first | rw [upd_same] | rw [upd_ne _ _ (by omega)])); exact g1 s hs) k2 (g3.trans k3) (fun e => ?_) (by rw [eoc, if_pos hlt])
      by_cases h9 : h' = 0
      · rw [if_pos h9] at e; cases e
      · rw [if_neg h9] at e; exact absurd e h9
    · refine RW.cd (b := false) (by rw [upd_same, decide_eq_false hlt]) (fun e => by cases e) (fun _ => RW.sk ?_)
      refine goC _ w' h' (fun s hs => by (repeat (first | rw [upd_same] | rw [upd_ne _ _ (by omega)])); exact g1 s hs) g2 g3 (fun e => ?_) (by rw [eoc, if_neg hlt])
      refine ⟨?_, by omega⟩
      by_cases h9 : n < 0
      · rw [if_pos h9] at g4
        by_cases h8 : h = 0
        · rw [if_pos h8] at g4; omega
        · rw [if_neg h8] at g4; omega
      · omega
  unfold octA
  refine RW.sq (RW.sq (RW.rg (RL.step (MR.mv p1) (RL.step (MR.biE (v := .bool (decide (n < 0))) (by show evB .lss (upd _ _ _ 15) _ = _; rw [upd_same]; rfl)) (RL.nil ?_)))))
  by_cases hlt : n < 0
  · refine RW.cd (b := true) (by rw [upd_same, decide_eq_true hlt]) (fun _ => ?_) (fun e => by cases e)
    refine octF_ok (w0 := w) (q := w.heap.size) hfl rfl (by omega) (by omega) hr1 (by omega) hqb (by (repeat (first | rw [upd_same] | rw [upd_ne _ _ (by omega)])); exact p0) fun ρ3 w3 k1 k2 k3 => ?_
    exact goB ρ3 w3 _ (fun s hs => by rw [k1 s hs]; (repeat (first | rw [upd_same] | rw [upd_ne _ _ (by omega)]))) k2 k3 (by rw [if_pos hlt])
  · refine RW.cd (b := false) (by rw [upd_same, decide_eq_false hlt]) (fun e => by cases e) (fun _ => RW.sk ?_)
    exact goB _ w1 h (fun s hs => by (repeat (first | rw [upd_same] | rw [upd_ne _ _ (by omega)]))) hr1 (Fr.refl _ _ _ _ _) (by rw [if_neg hlt])
end
section
variable {P : Program} {N : Nat} {Q : Exit → (Nat → Value) → World → Prop} {ρ : Nat → Value} {w w' : World} {ms : List MOp} {gs : List GOp} {S : World → Prop} {O : ON}
theorem stRun {ty p s : Nat} {a : Act} {o : Oper} (hr : (Instr.storeAt ty (ρ p) (ρ s)).run P w = .ok () w') (ha : Loc N N ρ a) (hp : p < N) (hs : s < N) (hf : fitOp (.st ty p s) o.dst o.op = true) : o.dst = none ∧ (execOp a.eval o).run P w = .ok .skip w' := by
  generalize hop : o.op = op at hf
  generalize hd : o.dst = dd at hf
  unfold execOp
  cases op <;> cases dd <;> simp only [fitOp, Bool.and_eq_true, Bool.false_eq_true, Nat.beq_eq] at hf
  obtain ⟨⟨h1, h2⟩, h3⟩ := hf
  subst h1
  exact ⟨rfl, by simp only [hop, Sem.run_bind, tmpL ha hp h2, tmpL ha hs h3, hr, Result.andThen_ok, Sem.run_pure]⟩
theorem RG.st {i ty p s : Nat} {g : Option (Nat × Nat × Bool)} (hr : (Instr.storeAt ty (ρ p) (ρ s)).run P w = .ok () w') (hS' : S w → S w') (h : RG P N gs Q S ρ w') (hg : passes N ρ true g := by first | exact rfl | exact ⟨by decide, .inl rfl⟩) (hp : p < N := by decide) (hs : s < N := by decide) : RG P N (⟨i, g, .st ty p s⟩ :: gs) Q S ρ w := by
  refine ⟨fun ops l a ha hS hf => ?_, fun ops lst fuel a ha hS hns hor hfuel => ?_⟩
  · obtain ⟨o, os, rfl, h1, h2⟩ := fitG_cons hf
    obtain ⟨h4, h5, h6⟩ := fitAt_inv h1
    obtain ⟨hod, hrun⟩ := stRun hr ha hp hs h5
    have hput : a.put o.dst undef = a := by rw [hod]; rfl
    unfold wpList
    rw [if_pos (wanted_of ha h4 hg)]
    refine .inl ?_
    unfold Oper.wp
    rw [hrun, Oper.upon_skip, hput]
    exact h.1 ops os _ ha (hS' hS) h2
  · obtain ⟨o, h1, h2, h3, hor'⟩ := ord_cons hor
    obtain ⟨h4, h5, h6⟩ := fitAt_inv h2
    have hw := wanted_of ha h4 hg
    obtain ⟨hod, hrun⟩ := stRun hr ha hp hs h5
    have hput : a.put o.dst undef = a := by rw [hod]; rfl
    rcases hor' with ⟨hq', _⟩ | ⟨_, hr'⟩
    · simp [MOp.quiet] at hq'
    · cases fuel with
      | zero => simp at hfuel
      | succ fuel =>
        refine wpAnyH_all hr' (by simp) fun j hj => ?_
        have hik : j = i := by simpa using hj
        subst hik
        unfold wpOp
        simp only [h1, hw, if_true]
        refine .inl ?_
        unfold Oper.wp
        rw [hrun, Oper.upon_skip, hput]
        exact ⟨hS' hS, h.2 ops _ fuel _ ha (hS' hS) hns h3 (by simpa using hfuel)⟩
structure SpI (w : World) (b : Nat) (F : Nat → Prop) (ad : Option Addr) (l : List UInt8) (c : Nat) (s : Nat × Int) : Prop where
  r : SpR w b (.slice ad l.length c) s.1 s.2
  oa : okA l.length ad
  lc : l.length ≤ c
  by_ : BytesAt w F ad l
  F : ∀ k, F k → k < w.heap.size ∧ k ≠ b
  at_ : s.1 ≤ l.length
  l9 : l.length ≤ 1000000000
theorem fx_at {l : List UInt8} {n : Nat} {s : Nat × Int} (h : s.1 ≤ l.length) : (fx l n s).2.1 ≤ l.length := by
  unfold fx; split
  · exact h
  · split
    · exact h
    · simp only; omega
theorem oc_at {l : List UInt8} {n : Int} {s : Nat × Int} (h : s.1 ≤ l.length) : (oc l n s).2.1 ≤ l.length := by
  unfold oc
  by_cases h1 : n = -1 ∧ s.2 = 0
  · rw [if_pos h1]; exact h
  rw [if_neg h1]
  generalize (if (l.length : Int) < n then (if (if n < 0 then (if s.2 = 0 then 3 else s.2) else s.2) = 0 then 1 else (if n < 0 then (if s.2 = 0 then 3 else s.2) else s.2)) else (if n < 0 then (if s.2 = 0 then 3 else s.2) else s.2)) = k
  by_cases h2 : k ≠ 0
  · rw [if_pos h2]; exact h
  rw [if_neg h2]
  by_cases h3 : l.length - s.1 < n.toNat
  · rw [if_pos h3]; exact h
  · rw [if_neg h3]; simp only; omega
theorem SpI.keep {b : Nat} {F : Nat → Prop} {ad : Option Addr} {l : List UInt8} {c : Nat} {s s' : Nat × Int} (h : SpI w b F ad l c s) (hr : SpR w' b (.slice ad l.length c) s'.1 s'.2) (hs : s'.1 ≤ l.length) (hk : ∀ k, F k → w'.heap[k]? = w.heap[k]?) (hz : w.heap.size ≤ w'.heap.size) : SpI w' b F ad l c s' :=
  ⟨hr, h.oa, h.lc, h.by_.mono (fun _ h => h) hk, fun k hF => ⟨Nat.lt_of_lt_of_le (h.F k hF).1 hz, (h.F k hF).2⟩, hs, h.l9⟩
theorem RL.fx {d f t b : Nat} {F : Nat → Prop} {ad : Option Addr} {l : List UInt8} {c n : Nat} {s : Nat × Int} (hc : FixC P f) (h : SpI w b F ad l c s) (hn1 : 1 ≤ n) (hn8 : n ≤ 8) (ht : ρ t = .pointer (some ⟨b, 0, none⟩))
    (hQ : ∀ w', Fr (fun _ => False) b 0 3 w w' → SpI w' b F ad l c (fx l n s).2 → RL P N ms Q (upd ρ d (.int .i64 (fx l n s).1)) w') (htN : t < N) (hd : d < N) : RL P N (.ca d f [.t t, .c (.int .i64 (n : Nat))] :: ms) Q ρ w := by
  refine RL.ca (R := fun v w' => Fr (fun _ => False) b 0 3 w w' ∧ v = .int .i64 (Kx.fx l n s).1 ∧ SpR w' b (.slice ad l.length c) (Kx.fx l n s).2.1 (Kx.fx l n s).2.2) hc.1 ?_ ?_ hd (by simp [MX.lt, Nat.blt_eq]; omega)
  · simp only [List.map_cons, List.map_nil, xof, MVal.val]
    rw [ht]
    refine Calls.mono (hc.2 w b F ad l c s.1 s.2 n h.r h.oa h.lc h.by_ h.F h.at_ h.l9 hn1 hn8) ?_
    rintro e w' ⟨g1, rfl, g3⟩
    exact ⟨_, rfl, g1, rfl, g3⟩
  rintro v w2 ⟨g1, rfl, g3⟩
  exact hQ w2 g1 (h.keep g3 (fx_at h.at_) (fun k hk => g1.block k (h.F k hk).1 (h.F k hk).2 (fun x => x)) g1.size)
theorem RL.oc {d f t u b : Nat} {F : Nat → Prop} {ad : Option Addr} {l : List UInt8} {c : Nat} {n : Int} {s : Nat × Int} (hc : OctsC P f) (h : SpI w b F ad l c s) (hn1 : -2147483648 ≤ n) (hn2 : n ≤ 2147483647) (ht : ρ t = .pointer (some ⟨b, 0, none⟩)) (hu : ρ u = .int .i64 n)
    (hQ : ∀ v w', Fr (fun _ => False) b 0 3 w w' → SpI w' b F ad l c (oc l n s).2 → OctV w' F v (oc l n s).1 → RL P N ms Q (upd ρ d v) w') (htN : t < N) (huN : u < N) (hd : d < N) : RL P N (.ca d f [.t t, .t u] :: ms) Q ρ w := by
  refine RL.ca (R := fun v w' => Fr (fun _ => False) b 0 3 w w' ∧ OctV w' F v (Kx.oc l n s).1 ∧ SpR w' b (.slice ad l.length c) (Kx.oc l n s).2.1 (Kx.oc l n s).2.2) hc.1 ?_ ?_ hd (by simp [MX.lt, Nat.blt_eq]; omega)
  · simp only [List.map_cons, List.map_nil, xof]
    rw [ht, hu]
    refine Calls.mono (hc.2 w b F ad l c s.1 s.2 n h.r h.oa h.lc h.by_ h.F h.at_ h.l9 hn1 hn2) ?_
    rintro e w' ⟨v, rfl, g1, g2, g3⟩
    exact ⟨_, rfl, g1, g2, g3⟩
  rintro v w2 ⟨g1, g2, g3⟩
  exact hQ v w2 g1 (h.keep g3 (oc_at h.at_) (fun k hk => g1.block k (h.F k hk).1 (h.F k hk).2 (fun x => x)) g1.size) g2
end
structure OOK3 (P : Program) (O : ON) : Prop where
  ok : OOK2 P O
  i32 : intTy P O.T.i32 .i32 = true
  c64 : cellsB P O.T.i64 1 = true
  c32 : cellsB P O.T.i32 1 = true
  c8 : cellsB P O.T.i8 1 = true
  f : ∀ i, i ≤ 6 → fieldAtB P O.tOld i i = true
  f7 : fieldAtB P O.tOld 7 8 = true
  row : rowTy P O.tOld = true
  cells : cellsB P O.tOld 10 = true
structure RoS (w0 : World) (q b : Nat) (F : Nat → Prop) (ad : Option Addr) (l : List UInt8) (c : Nat) (s : Nat × Int) (cs : List Value) (w : World) : Prop where
  i : SpI w b F ad l c s
  r : w.rangeAt q 0 cs
  n : cs.length = 10
  t : w.there q 0 10
  B : Below w0.heap.size w0 w
  q0 : w0.heap.size ≤ q
  b0 : w0.heap.size ≤ b
  qb : q ≠ b
  qw : q < w.heap.size
  Fq : ∀ k, F k → k < w0.heap.size
section
variable {P : Program} {N : Nat} {Q : Exit → (Nat → Value) → World → Prop} {ρ : Nat → Value} {w0 w w' : World} {ms : List MOp} {O : ON} {q b : Nat} {F : Nat → Prop} {ad : Option Addr} {l : List UInt8} {c : Nat} {s s' : Nat × Int} {cs : List Value}
theorem RoS.step (h : RoS w0 q b F ad l c s cs w) (hF : Fr (fun _ => False) b 0 3 w w') (hi : SpI w' b F ad l c s') : RoS w0 q b F ad l c s' cs w' := by
  have e := hF.block q h.qw h.qb (fun x => x)
  exact ⟨hi, range_keep h.r e, h.n, there_keep h.t e, h.B.trans (hF.below h.b0 (fun _ x => x.elim) h.B.size), h.q0, h.b0, h.qb, Nat.lt_of_lt_of_le h.qw hF.size, h.Fq⟩
theorem RoS.put (h : RoS w0 q b F ad l c s cs w) {k : Nat} {vs : List Value} (hk : k + vs.length ≤ 10) : RoS w0 q b F ad l c s (splice k vs cs) (w.setCells q k vs) := by
  have ht : w.there q (0 + k) vs.length := there_in h.t hk
  have ht' : w.there q k vs.length := by rwa [Nat.zero_add] at ht
  have hf : Fr (fun _ => False) q k vs.length w (w.setCells q k vs) := Fr.put vs (Nat.le_refl _) (Nat.le_refl _)
  have hz : (w.setCells q k vs).heap.size = w.heap.size := size_setCells _ _ _ _
  refine ⟨h.i.keep (s' := s) (h.i.r.keep (setCells_other q vs k _ b (fun e => h.qb e.symm))) h.i.at_ (fun j hj => setCells_other q vs k _ j (by have := h.Fq j hj; have := h.q0; omega)) hf.size, ?_, ?_, World.there_setCells h.t _ _ _, h.B.trans (hf.below h.q0 (fun _ x => x.elim) h.B.size), h.q0, h.b0, h.qb, by rw [hz]; exact h.qw, h.Fq⟩
  · exact range_splice (X := fun _ => False) h.r (by rw [Nat.zero_add]; exact hf) (by rw [Nat.zero_add]; exact World.rangeAt_setCells_same w q k vs ht') (by rw [h.n]; exact hk)
  · rw [splice_len (by rw [h.n]; exact hk)]; exact h.n
theorem ro1_ok (ok : OOK3 P O) (hfx : FixC P O.fFix) {t i : Nat} (h : RoS w0 q b F ad l c s cs w) (hi : i ≤ 6) (ht : 8 ≤ t) (htN : t + 2 < N) (p7 : ρ 7 = .pointer (some ⟨b, 0, none⟩)) (p4 : ρ 4 = .pointer (some ⟨q, 0, none⟩))
    (hQ : ∀ ρ' w', (∀ s, s < t → ρ' s = ρ s) → RoS w0 q b F ad l c (fx l 8 s).2 (splice i [.int .i64 (fx l 8 s).1] cs) w' → Q .normal ρ' w') : RW P N (.rg [.mv t (.t 7), .ca (t + 1) O.fFix [.t t, .c (.int .i64 8)], .fa (t + 2) O.tOld 4 i, .st O.T.i64 (t + 2) (t + 1)]) Q ρ w := by
  refine RW.rg (RL.step (MR.mv p7 (ltT (by omega))) (RL.fx (n := 8) hfx h.i (by omega) (by omega) (upd_same _ _ _) (fun w2 F2 I2 => ?_) (by omega) (by omega)) (by omega))
  have h2 := h.step F2 I2
  have t1 : w2.there q i 1 := by have := there_in (k := i) (m := 1) h2.t (by omega); rwa [Nat.zero_add] at this
  refine RL.step (MR.fa (b := q) (o := 0) (by rw [upd_ne _ _ (by omega), upd_ne _ _ (by omega)]; exact p4) (ok.f i hi) (by omega)) (RL.st1 (v := .int .i64 (fx l 8 s).1) (b := q) (o := i) (by rw [upd_same, Nat.zero_add]) (by rw [upd_ne _ _ (by omega), upd_same]) rfl ok.c64 t1 (RL.nil ?_) (by omega) (by omega)) (by omega)
  exact hQ _ _ (fun s hs => by rw [upd_ne _ _ (by omega), upd_ne _ _ (by omega), upd_ne _ _ (by omega)]) (h2.put (vs := [.int .i64 (fx l 8 s).1]) (by simp; omega))
theorem ro2_ok (ok : OOK3 P O) (hfx : FixC P O.fFix) {t i n ty : Nat} {k : IntKind} (hty : intTy P ty k = true) (hct : cellsB P ty 1 = true) (hn1 : 1 ≤ n) (hn8 : n ≤ 8) (h : RoS w0 q b F ad l c s cs w) (hi : i + 1 ≤ 6) (ht : 8 ≤ t) (htN : t + 7 < N) (p7 : ρ 7 = .pointer (some ⟨b, 0, none⟩)) (p4 : ρ 4 = .pointer (some ⟨q, 0, none⟩))
    (hQ : ∀ ρ' w', (∀ s, s < t → ρ' s = ρ s) → RoS w0 q b F ad l c (fx l n (fx l n s).2).2 (splice (i + 1) [.int k (k.wrap (fx l n (fx l n s).2).1)] (splice i [.int k (k.wrap (fx l n s).1)] cs)) w' → Q .normal ρ' w') :
    RW P N (.rg [.mv t (.t 7), .ca (t + 1) O.fFix [.t t, .c (.int .i64 (n : Nat))], .cv (t + 2) O.T.i64 ty (t + 1), .mv (t + 3) (.t 7), .ca (t + 4) O.fFix [.t (t + 3), .c (.int .i64 (n : Nat))], .cv (t + 5) O.T.i64 ty (t + 4), .fa (t + 6) O.tOld 4 i, .st ty (t + 6) (t + 2), .fa (t + 7) O.tOld 4 (i + 1), .st ty (t + 7) (t + 5)]) Q ρ w := by
  refine RW.rg (RL.step (MR.mv p7 (ltT (by omega))) (RL.fx (n := n) hfx h.i hn1 hn8 (upd_same _ _ _) (fun w2 F2 I2 => ?_) (by omega) (by omega)) (by omega))
  have h2 := h.step F2 I2
  refine RL.step (MR.cvI (upd_same _ _ _) ok.ok.ok.i64 hty (by omega)) (RL.step (MR.mv (v := .pointer (some ⟨b, 0, none⟩)) (by show upd _ _ _ 7 = _; rw [upd_ne _ _ (by omega), upd_ne _ _ (by omega), upd_ne _ _ (by omega)]; exact p7) (ltT (by omega))) (RL.fx (n := n) hfx I2 hn1 hn8 (upd_same _ _ _) (fun w3 F3 I3 => ?_) (by omega) (by omega)) (by omega)) (by omega)
  have h3 := h2.step F3 I3
  have t1 : ∀ {w' : World} (j : Nat), j ≤ 6 → w'.there q 0 10 → w'.there q j 1 := fun j hj ht => by have := there_in (k := j) (m := 1) ht (by omega); rwa [Nat.zero_add] at this
  refine RL.step (MR.cvI (upd_same _ _ _) ok.ok.ok.i64 hty (by omega)) (RL.step (MR.fa (b := q) (o := 0) (by rw [upd_ne _ _ (by omega), upd_ne _ _ (by omega), upd_ne _ _ (by omega), upd_ne _ _ (by omega), upd_ne _ _ (by omega), upd_ne _ _ (by omega)]; exact p4) (ok.f i (by omega)) (by omega))
    (RL.st1 (v := .int k (k.wrap (fx l n s).1)) (b := q) (o := i) (by rw [upd_same, Nat.zero_add]) (by rw [upd_ne _ _ (by omega), upd_ne _ _ (by omega), upd_ne _ _ (by omega), upd_ne _ _ (by omega), upd_same]) rfl hct (t1 i (by omega) h3.t) ?_ (by omega) (by omega)) (by omega)) (by omega)
  have h4 := h3.put (k := i) (vs := [.int k (k.wrap (fx l n s).1)]) (by simp; omega)
  refine RL.step (MR.fa (b := q) (o := 0) (by rw [upd_ne _ _ (by omega), upd_ne _ _ (by omega), upd_ne _ _ (by omega), upd_ne _ _ (by omega), upd_ne _ _ (by omega), upd_ne _ _ (by omega), upd_ne _ _ (by omega)]; exact p4) (ok.f (i + 1) hi) (by omega))
    (RL.st1 (v := .int k (k.wrap (fx l n (fx l n s).2).1)) (b := q) (o := i + 1) (by rw [upd_same, Nat.zero_add]) (by rw [upd_ne _ _ (by omega), upd_ne _ _ (by omega), upd_same]) rfl hct (t1 (i + 1) hi h4.t) (RL.nil ?_) (by omega) (by omega)) (by omega)
  exact hQ _ _ (fun s hs => by rw [upd_ne _ _ (by omega), upd_ne _ _ (by omega), upd_ne _ _ (by omega), upd_ne _ _ (by omega), upd_ne _ _ (by omega), upd_ne _ _ (by omega), upd_ne _ _ (by omega), upd_ne _ _ (by omega)]) (h4.put (k := i + 1) (vs := [.int k (k.wrap (fx l n (fx l n s).2).1)]) (by simp; omega))
end
set_option linter.unusedVariables false
theorem fx4_range (l : List UInt8) (s : Nat × Int) : -2147483648 ≤ (fx l 4 s).1 ∧ (fx l 4 s).1 ≤ 2147483647 := by
  unfold fx
  split
  · simp
  · split
    · simp
    · simp only
      have h := beVal_lt ((l.drop s.1).take 4)
      have h2 : ((l.drop s.1).take 4).length ≤ 4 := by rw [List.length_take]; omega
      have h3 : 256 ^ ((l.drop s.1).take 4).length ≤ 256 ^ 4 := Nat.pow_le_pow_right (by omega) h2
      have h4 : (256 : Nat) ^ 4 = 4294967296 := by decide
      unfold sgn
      rw [h4] at *
      split <;> omega
def OcW (w : World) (F : Nat → Prop) (o : Option (List UInt8)) (vs : List Value) : Prop := ∃ ad c, vs = [.bool o.isNone, .slice ad (o.getD []).length c] ∧ okA (o.getD []).length ad ∧ (o.getD []).length ≤ c ∧ BytesAt w F ad (o.getD [])
theorem OcW.keep {w w' : World} {F : Nat → Prop} {o : Option (List UInt8)} {vs : List Value} (h : OcW w F o vs) (he : ∀ k, F k → w'.heap[k]? = w.heap[k]?) : OcW w' F o vs := by
  obtain ⟨ad, c, h1, h2, h3, h4⟩ := h
  exact ⟨ad, c, h1, h2, h3, h4.mono (fun _ h => h) he⟩
section
variable {P : Program} {N : Nat} {Q : Exit → (Nat → Value) → World → Prop} {ρ : Nat → Value} {w0 w w' : World} {ms : List MOp} {O : ON} {q b : Nat} {F : Nat → Prop} {ad : Option Addr} {l : List UInt8} {c : Nat} {s s' : Nat × Int} {cs : List Value}
theorem ro3_ok (ok : OOK3 P O) (hfx : FixC P O.fFix) (hoc : OctsC P O.fOct) {t i off : Nat} (hf : fieldAtB P O.tOld i off = true) (h : RoS w0 q b F ad l c s cs w) (hi : off + 2 ≤ 10) (ht : 8 ≤ t) (htN : t + 4 < N) (p7 : ρ 7 = .pointer (some ⟨b, 0, none⟩)) (p4 : ρ 4 = .pointer (some ⟨q, 0, none⟩))
    (hQ : ∀ ρ' w' vs, (∀ s, s < t → ρ' s = ρ s) → RoS w0 q b F ad l c (oc l (fx l 4 s).1 (fx l 4 s).2).2 (splice off vs cs) w' → OcW w' F (oc l (fx l 4 s).1 (fx l 4 s).2).1 vs → vs.length = 2 → (∀ k, F k → w'.heap[k]? = w.heap[k]?) → Q .normal ρ' w') :
    RW P N (.rg [.mv t (.t 7), .mv (t + 1) (.t 7), .ca (t + 2) O.fFix [.t (t + 1), .c (.int .i64 4)], .ca (t + 3) O.fOct [.t t, .t (t + 2)], .fa (t + 4) O.tOld 4 i, .st O.tOc (t + 4) (t + 3)]) Q ρ w := by
  refine RW.rg (RL.step (MR.mv p7 (ltT (by omega))) (RL.step (MR.mv (v := .pointer (some ⟨b, 0, none⟩)) (by show upd _ _ _ 7 = _; rw [upd_ne _ _ (by omega)]; exact p7) (ltT (by omega))) (RL.fx (n := 4) hfx h.i (by omega) (by omega) (upd_same _ _ _) (fun w2 F2 I2 => ?_) (by omega) (by omega)) (by omega)) (by omega))
  have h2 := h.step F2 I2
  obtain ⟨r1, r2⟩ := fx4_range l s
  refine RL.oc (n := (fx l 4 s).1) hoc I2 r1 r2 (by rw [upd_ne _ _ (by omega), upd_ne _ _ (by omega), upd_same]) (upd_same _ _ _) (fun v w3 F3 I3 O3 => ?_) (by omega) (by omega) (by omega)
  have h3 := h2.step F3 I3
  obtain ⟨ad', c', rfl, g1, g2, g3⟩ := O3
  have t1 : w3.there q off 2 := by have := there_in (k := off) (m := 2) h3.t hi; rwa [Nat.zero_add] at this
  refine RL.step (MR.fa (b := q) (o := 0) (by rw [upd_ne _ _ (by omega), upd_ne _ _ (by omega), upd_ne _ _ (by omega), upd_ne _ _ (by omega)]; exact p4) hf (by omega))
    (RL.stA (cs := [.bool (oc l (fx l 4 s).1 (fx l 4 s).2).1.isNone, .slice ad' ((oc l (fx l 4 s).1 (fx l 4 s).2).1.getD []).length c']) (b := q) (o := off) (by rw [upd_same, Nat.zero_add]) (by rw [upd_ne _ _ (by omega), upd_same]) ok.ok.oc t1 rfl (RL.nil ?_) (by omega) (by omega)) (by omega)
  have h4 := h3.put (k := off) (vs := [.bool (oc l (fx l 4 s).1 (fx l 4 s).2).1.isNone, .slice ad' ((oc l (fx l 4 s).1 (fx l 4 s).2).1.getD []).length c']) (by simpa using hi)
  have e4 : ∀ k, F k → (w3.setCells q off [.bool (oc l (fx l 4 s).1 (fx l 4 s).2).1.isNone, .slice ad' ((oc l (fx l 4 s).1 (fx l 4 s).2).1.getD []).length c']).heap[k]? = w3.heap[k]? := fun k hk => setCells_other q _ off _ k (by have := h.Fq k hk; have := h.q0; omega)
  refine hQ _ _ _ (fun s hs => by rw [upd_ne _ _ (by omega), upd_ne _ _ (by omega), upd_ne _ _ (by omega), upd_ne _ _ (by omega), upd_ne _ _ (by omega)]) h4 ⟨ad', c', rfl, g1, g2, g3.mono (fun _ h => h) e4⟩ rfl (fun k hk => ?_)
  rw [e4 k hk, F3.block k (I2.F k hk).1 (I2.F k hk).2 (fun x => x), F2.block k (h.i.F k hk).1 (h.i.F k hk).2 (fun x => x)]
end
structure OldD where
  off : Int
  size : Int
  crc : Int
  magic : Int
  attr : Int
  time : Int
  key : Option (List UInt8)
  val : Option (List UInt8)
def roM (v1 : Bool) (l : List UInt8) : OldD × Nat × Int :=
  let a := fx l 8 (0, 0)
  let b := fx l 4 a.2
  let c := fx l 4 b.2
  let d := fx l 1 c.2
  let e := fx l 1 d.2
  let t := if v1 then fx l 8 e.2 else (0, e.2)
  let n := fx l 4 t.2
  let k := oc l n.1 n.2
  let m := fx l 4 k.2
  let v := oc l m.1 m.2
  (⟨a.1, IntKind.i32.wrap b.1, IntKind.i32.wrap c.1, IntKind.i8.wrap d.1, IntKind.i8.wrap e.1, t.1, k.1, v.1⟩, v.2)
def OldW (w : World) (F : Nat → Prop) (o : OldD) (cs : List Value) : Prop := ∃ ks vs, OcW w F o.key ks ∧ OcW w F o.val vs ∧ cs = [.int .i64 o.off, .int .i32 o.size, .int .i32 o.crc, .int .i8 o.magic, .int .i8 o.attr, .int .i64 o.time] ++ ks ++ vs
set_option linter.unusedVariables false
def zOld : List Value := [.int .i64 0, .int .i32 0, .int .i32 0, .int .i8 0, .int .i8 0, .int .i64 0, .bool false, .slice none 0 0, .bool false, .slice none 0 0]
structure OOK4 (P : Program) (O : ON) : Prop where
  ok : OOK3 P O
  oz : zeroAgg P O.tOld zOld
  rz : zeroAgg P O.tRd [.slice none 0 0, .int .i64 0, .int .i64 0]
  rp : plcB P O.tRd 3 = true
section
variable {P : Program} {N : Nat} {Q : Exit → (Nat → Value) → World → Prop} {ρ : Nat → Value} {w0 w w' : World} {ms : List MOp} {O : ON} {q b : Nat} {F : Nat → Prop} {ad : Option Addr} {l : List UInt8} {c : Nat} {s s' : Nat × Int} {cs : List Value}
def ro1C (O : ON) (t i : Nat) : MCode := .rg [.mv t (.t 7), .ca (t + 1) O.fFix [.t t, .c (.int .i64 8)], .fa (t + 2) O.tOld 4 i, .st O.T.i64 (t + 2) (t + 1)]
def ro2C (O : ON) (t i n ty : Nat) : MCode := .rg [.mv t (.t 7), .ca (t + 1) O.fFix [.t t, .c (.int .i64 (n : Nat))], .cv (t + 2) O.T.i64 ty (t + 1), .mv (t + 3) (.t 7), .ca (t + 4) O.fFix [.t (t + 3), .c (.int .i64 (n : Nat))], .cv (t + 5) O.T.i64 ty (t + 4), .fa (t + 6) O.tOld 4 i, .st ty (t + 6) (t + 2), .fa (t + 7) O.tOld 4 (i + 1), .st ty (t + 7) (t + 5)]
def ro3C (O : ON) (t i : Nat) : MCode := .rg [.mv t (.t 7), .mv (t + 1) (.t 7), .ca (t + 2) O.fFix [.t (t + 1), .c (.int .i64 4)], .ca (t + 3) O.fOct [.t t, .t (t + 2)], .fa (t + 4) O.tOld 4 i, .st O.tOc (t + 4) (t + 3)]
def roG (O : ON) : List GOp := [⟨0, none, .ld 45 O.tOld 4⟩, ⟨1, none, .mv 46 (.t 7)⟩, ⟨2, none, .nc 47 46⟩, ⟨3, none, .fa 48 O.tRd 47 1⟩, ⟨4, none, .ld 49 O.T.int 48⟩, ⟨5, none, .mv 50 (.t 7)⟩, ⟨6, none, .nc 51 50⟩, ⟨7, none, .fa 52 O.tRd 51 2⟩, ⟨8, none, .ld 53 O.T.int 52⟩,
  ⟨9, none, .st O.tOld 4 45⟩, ⟨10, none, .mv 5 (.t 49)⟩, ⟨11, none, .mv 6 (.t 53)⟩]
def cReadOld (O : ON) : MCode := .sq (.rg [.al 4 O.tOld, .mv 5 (.c (.int .i64 0)), .mv 6 (.c (.int .i64 0))])
  (.sq (.rg [.mv 8 (.t 1), .bdl 9 O.tRd [(0, .t 8)], .bx 10 O.tRd 9, .mv 7 (.t 10)])
  (.sq (ro1C O 11 0) (.sq (ro2C O 14 1 4 O.T.i32) (.sq (ro2C O 22 3 1 O.T.i8)
  (.sq (.sq (.rg [.mv 30 (.t 0), .bi 31 .gtr O.T.int (.t 30) (.c (.int .i64 0))]) (.cd 31 (ro1C O 32 5) .sk))
  (.sq (ro3C O 35 6) (.sq (ro3C O 40 7) (.sq (.gr true (roG O)) .rt))))))))
def ReadOldC (P : Program) (f : Nat) : Prop := entersB P f = true ∧ ∀ (w : World) (v1 : Bool) (F : Nat → Prop) (ad : Option Addr) (l : List UInt8) (c : Nat), okA l.length ad → l.length ≤ c → BytesAt w F ad l → (∀ k, F k → k < w.heap.size) → l.length ≤ 1000000000 →
  Calls P f #[.int .i64 (if v1 then 1 else 0), .slice ad l.length c] w (fun e w' => Below w.heap.size w w' ∧ ∃ cs, e = .returned (.tuple #[.agg cs.toArray, .int .i64 ((roM v1 l).2.1 : Nat), .int .i64 (roM v1 l).2.2]) ∧ OldW w' F (roM v1 l).1 cs)
theorem roG_ok (ok : OOK4 P O) {o : OldD} (h : RoS w0 q b F ad l c s cs w) (ho : OldW w F o cs) (p7 : ρ 7 = .pointer (some ⟨b, 0, none⟩)) (p4 : ρ 4 = .pointer (some ⟨q, 0, none⟩))
    (hQ : ∀ ρ' w', ρ' 4 = .pointer (some ⟨q, 0, none⟩) → ρ' 5 = .int .i64 (s.1 : Nat) → ρ' 6 = .int .i64 s.2 → RoS w0 q b F ad l c s cs w' → OldW w' F o cs → Q .normal ρ' w') : RW P 54 (.gr true (roG O)) Q ρ w := by
  have d1 : (World.drew1 w).heap = w.heap := rfl
  have hd : ∀ {w1 w2 : World}, (∀ k : Nat, w2.heap[k]? = w1.heap[k]?) → w2.heap.size = w1.heap.size → Below w1.heap.size w1 w2 → RoS w0 q b F ad l c s cs w1 → OldW w1 F o cs → RoS w0 q b F ad l c s cs w2 ∧ OldW w2 F o cs := by
    intro w1 w2 e1 e2 e3 g1 g2
    refine ⟨⟨g1.i.keep (s' := s) (g1.i.r.keep (e1 b)) g1.i.at_ (fun k _ => e1 k) (by omega), range_keep g1.r (e1 q), g1.n, there_keep g1.t (e1 q), g1.B.trans (e3.mono g1.B.size), g1.q0, g1.b0, g1.qb, by rw [e2]; exact g1.qw, g1.Fq⟩, ?_⟩
    obtain ⟨ks, vs, k1, k2, k3⟩ := g2
    exact ⟨ks, vs, k1.keep (fun k _ => e1 k), k2.keep (fun k _ => e1 k), k3⟩
  obtain ⟨hD, oD⟩ := hd (w1 := w) (w2 := World.drew1 w) (fun k => rfl) rfl (below_drew1 w _) h ho
  have hall : cs.all (·.oneCell') = true := by
    obtain ⟨ks, vs, ⟨_, _, k1, _⟩, ⟨_, _, k2, _⟩, k3⟩ := ho
    subst k1 k2; rw [k3]; rfl
  refine RW.knows [(7, .pointer (some ⟨b, 0, none⟩)), (4, .pointer (some ⟨q, 0, none⟩))] (by simp [p7, p4]) (RW.gd ok.ok.ok.ok.mo (fun w' => RoS w0 q b F ad l c s cs w' ∧ OldW w' F o cs) ⟨hD, oD⟩ ?_)
  unfold roG
  refine RG.q (fun w' hS => MR.ldRow (b := q) (o := 0) (cs := cs) rfl ok.ok.row (by rw [h.n]; exact ok.ok.cells) hS.1.r) (RG.q (fun _ _ => MR.mv (v := .pointer (some ⟨b, 0, none⟩)) rfl) (RG.q (fun _ _ => MR.nc rfl) (RG.q (fun _ _ => MR.fa rfl ok.ok.ok.ok.r1) (RG.q (fun w' hS => MR.ld rfl ok.ok.ok.ok.pi (hS.1.i.r.1 1 _ rfl))
    (RG.q (fun _ _ => MR.mv (v := .pointer (some ⟨b, 0, none⟩)) rfl) (RG.q (fun _ _ => MR.nc rfl) (RG.q (fun _ _ => MR.fa rfl ok.ok.ok.ok.r2) (RG.q (fun w' hS => MR.ld rfl ok.ok.ok.ok.pi (hS.1.i.r.1 2 _ rfl)) ?_))))))))
  have put : ∀ {w1 : World}, RoS w0 q b F ad l c s cs w1 → OldW w1 F o cs → RoS w0 q b F ad l c s cs (w1.setCells q 0 cs) ∧ OldW (w1.setCells q 0 cs) F o cs := by
    intro w1 g1 g2
    have e : splice 0 cs cs = cs := by simp [splice]
    have g3 := g1.put (k := 0) (vs := cs) (by rw [g1.n]; omega)
    rw [e] at g3
    obtain ⟨ks, vs, k1, k2, k3⟩ := g2
    have e4 : ∀ k, F k → (w1.setCells q 0 cs).heap[k]? = w1.heap[k]? := fun k hk => setCells_other q cs 0 _ k (by have := g1.Fq k hk; have := g1.q0; omega)
    exact ⟨g3, ks, vs, k1.keep e4, k2.keep e4, k3⟩
  refine RG.st (w' := (World.drew1 w).setCells q 0 cs) ?_ (fun hS => put hS.1 hS.2) ?_
  · show (Instr.storeAt O.tOld (.pointer (some ⟨q, 0, none⟩)) (.agg cs.toArray)).run P (World.drew1 w) = _
    have := run_storeAt_any (P := P) (w := World.drew1 w) (ty := O.tOld) (b := q) (o := 0) (v := .agg cs.toArray) (by show cellsB P O.tOld cs.toArray.size = true; simpa [h.n] using ok.ok.cells) (by show (World.drew1 w).there q 0 cs.toArray.size; simpa [h.n] using hD.t) (by show cs.toArray.all _ = true; simpa using hall)
    simpa [Value.cells] using this
  refine RG.q (fun _ _ => MR.mv (v := .int .i64 (s.1 : Nat)) rfl) (RG.q (fun _ _ => MR.mv (v := .int .i64 s.2) rfl) (RG.nil fun hS => ?_))
  exact hQ _ _ rfl rfl rfl hS.1 hS.2
theorem splice_old (a b c d e t : Int) (x y x' y' : Value) : [.int .i64 a, .int .i32 b, .int .i32 c, .int .i8 d, .int .i8 e, .int .i64 t] ++ [x, y] ++ [x', y'] = splice 8 [x', y'] (splice 6 [x, y] (splice 5 [.int .i64 t] (splice 4 [.int .i8 e] (splice 3 [.int .i8 d] (splice 2 [.int .i32 c] (splice 1 [.int .i32 b] (splice 0 [.int .i64 a] zOld))))))) := by
  simp [splice, zOld]
set_option maxHeartbeats 1000000 in
theorem readOld_ok {f : Nat} (ok : OOK4 P O) (hfx : FixC P O.fFix) (hoc : OctsC P O.fOct) (hf : FnIsM P f (cReadOld O) 54 4 O.tOld [5, 6]) : ReadOldC P f := by
  refine ⟨hf.ent, fun w v1 F ad l c had hlc hby hF hl => ?_⟩
  refine hf.runs2 (args := [.int .i64 (if v1 then 1 else 0), .slice ad l.length c]) (by simp) (by omega) (by omega) (by omega) ?_
  refine RW.sq (RW.rg (RL.step (MR.al ok.oz) (RL.step MR.mv (RL.step MR.mv (RL.nil ?_)))))
  have B1 := below_box w (.cells (Value.agg zOld.toArray).cells O.tOld)
  have T1 : (w.alloc (.cells (Value.agg zOld.toArray).cells O.tOld)).there w.heap.size 0 10 := there_box w zOld O.tOld
  have R1 : (w.alloc (.cells (Value.agg zOld.toArray).cells O.tOld)).rangeAt w.heap.size 0 zOld := fun j v hj => cell_box w zOld O.tOld hj
  have S1 := size_box w (.cells (Value.agg zOld.toArray).cells O.tOld)
  revert B1 T1 R1 S1
  generalize w.alloc (.cells (Value.agg zOld.toArray).cells O.tOld) = w1
  intro B1 T1 R1 S1
  refine RW.sq (RW.rg (RL.step (MR.mv (v := .slice ad l.length c) rfl) (RL.step (MR.bdl (w' := w1) (v := .agg #[.slice ad l.length c, .int .i64 0, .int .i64 0]) (built_of (z := [.slice none 0 0, .int .i64 0, .int .i64 0]) (parts := [(0, .slice ad l.length c)]) (cells := [.slice ad l.length c, .int .i64 0, .int .i64 0]) ok.rz ok.rp (by simp [Value.cells]) rfl w1))
    (RL.bxA (cs := [.slice ad l.length c, .int .i64 0, .int .i64 0]) (upd_same _ _ _) (RL.step (MR.mv (upd_same _ _ _)) (RL.nil ?_))))))
  have B2 := below_box w1 (.cells [Value.slice ad l.length c, .int .i64 0, .int .i64 0].toArray O.tRd)
  have T2 : (w1.alloc (.cells [Value.slice ad l.length c, .int .i64 0, .int .i64 0].toArray O.tRd)).there w1.heap.size 0 3 := there_box w1 [Value.slice ad l.length c, .int .i64 0, .int .i64 0] O.tRd
  have R2 : (w1.alloc (.cells [Value.slice ad l.length c, .int .i64 0, .int .i64 0].toArray O.tRd)).rangeAt w1.heap.size 0 [Value.slice ad l.length c, .int .i64 0, .int .i64 0] := fun j v hj => cell_box w1 [Value.slice ad l.length c, .int .i64 0, .int .i64 0] O.tRd hj
  have S2 := size_box w1 (.cells [Value.slice ad l.length c, .int .i64 0, .int .i64 0].toArray O.tRd)
  revert B2 T2 R2 S2
  generalize w1.alloc (.cells [Value.slice ad l.length c, .int .i64 0, .int .i64 0].toArray O.tRd) = w2
  intro B2 T2 R2 S2
  have hk2 : ∀ k, k < w.heap.size → w2.heap[k]? = w.heap[k]? := fun k hk => by rw [B2.block k (by omega), B1.block k hk]
  have H2 : RoS w w.heap.size w1.heap.size F ad l c (0, 0) zOld w2 :=
    ⟨⟨⟨R2, T2⟩, had, hlc, hby.mono (fun _ h => h) (fun k hk => hk2 k (hF k hk)), fun k hk => ⟨by have := hF k hk; omega, by have := hF k hk; omega⟩, Nat.zero_le _, hl⟩,
      range_keep R1 (B2.block _ (by omega)), rfl, there_keep T1 (B2.block _ (by omega)), B1.trans (B2.mono (by omega)), Nat.le_refl _, by omega, by omega, by omega, hF⟩
  refine RW.sq (ro1_ok (t := 11) (i := 0) ok.ok hfx H2 (by omega) (by omega) (by omega) (by (repeat (first | rw [upd_same] | rw [upd_ne _ _ (by omega)]))) (by (repeat (first | rw [upd_same] | rw [upd_ne _ _ (by omega)]))) fun ρ3 w3 k3 H3 => ?_)
  have p7 : ρ3 7 = .pointer (some ⟨w1.heap.size, 0, none⟩) := by rw [k3 7 (by omega)]; (repeat (first | rw [upd_same] | rw [upd_ne _ _ (by omega)]))
  have p4 : ρ3 4 = .pointer (some ⟨w.heap.size, 0, none⟩) := by rw [k3 4 (by omega)]; (repeat (first | rw [upd_same] | rw [upd_ne _ _ (by omega)]))
  have p0 : ρ3 0 = .int .i64 (if v1 then 1 else 0) := by rw [k3 0 (by omega)]; (repeat (first | rw [upd_same] | rw [upd_ne _ _ (by omega)])); rfl
  refine RW.sq (ro2_ok (t := 14) (i := 1) (n := 4) ok.ok hfx ok.ok.i32 ok.ok.c32 (by omega) (by omega) H3 (by omega) (by omega) (by omega) p7 p4 fun ρ4 w4 k4 H4 => ?_)
  refine RW.sq (ro2_ok (t := 22) (i := 3) (n := 1) ok.ok hfx ok.ok.ok.ok.i8 ok.ok.c8 (by omega) (by omega) H4 (by omega) (by omega) (by omega) (by rw [k4 7 (by omega)]; exact p7) (by rw [k4 4 (by omega)]; exact p4) fun ρ5 w5 k5 H5 => ?_)
  have q7 : ρ5 7 = .pointer (some ⟨w1.heap.size, 0, none⟩) := by rw [k5 7 (by omega), k4 7 (by omega)]; exact p7
  have q4 : ρ5 4 = .pointer (some ⟨w.heap.size, 0, none⟩) := by rw [k5 4 (by omega), k4 4 (by omega)]; exact p4
  have q0 : ρ5 0 = .int .i64 (if v1 then 1 else 0) := by rw [k5 0 (by omega), k4 0 (by omega)]; exact p0
  have rest : ∀ (ρ' : Nat → Value) (w' : World), (∀ s, s < 30 → ρ' s = ρ5 s) → RoS w w.heap.size w1.heap.size F ad l c (if v1 then fx l 8 (fx l 1 (fx l 1 (fx l 4 (fx l 4 (fx l 8 (0, 0)).2).2).2).2).2 else (0, (fx l 1 (fx l 1 (fx l 4 (fx l 4 (fx l 8 (0, 0)).2).2).2).2).2)).2
        (splice 5 [.int .i64 (if v1 then fx l 8 (fx l 1 (fx l 1 (fx l 4 (fx l 4 (fx l 8 (0, 0)).2).2).2).2).2 else (0, (fx l 1 (fx l 1 (fx l 4 (fx l 4 (fx l 8 (0, 0)).2).2).2).2).2)).1] (splice 4 [.int .i8 (IntKind.i8.wrap (fx l 1 (fx l 1 (fx l 4 (fx l 4 (fx l 8 (0, 0)).2).2).2).2).1)] (splice 3 [.int .i8 (IntKind.i8.wrap (fx l 1 (fx l 4 (fx l 4 (fx l 8 (0, 0)).2).2).2).1)] (splice 2 [.int .i32 (IntKind.i32.wrap (fx l 4 (fx l 4 (fx l 8 (0, 0)).2).2).1)] (splice 1 [.int .i32 (IntKind.i32.wrap (fx l 4 (fx l 8 (0, 0)).2).1)] (splice 0 [.int .i64 (fx l 8 (0, 0)).1] zOld)))))) w' →
      RW P 54 (.sq (ro3C O 35 6) (.sq (ro3C O 40 7) (.sq (.gr true (roG O)) .rt))) (retM P 4 O.tOld [5, 6] (fun e w' => Below w.heap.size w w' ∧ ∃ cs, e = .returned (.tuple #[.agg cs.toArray, .int .i64 ((roM v1 l).2.1 : Nat), .int .i64 (roM v1 l).2.2]) ∧ OldW w' F (roM v1 l).1 cs)) ρ' w' := by
    intro ρ' w' k6 H6
    refine RW.sq (ro3_ok (t := 35) (i := 6) (off := 6) ok.ok hfx hoc (ok.ok.f 6 (by omega)) H6 (by omega) (by omega) (by omega) (by rw [k6 7 (by omega)]; exact q7) (by rw [k6 4 (by omega)]; exact q4) fun ρ7 w7 ks k7 H7 O7 l7 _ => ?_)
    refine RW.sq (ro3_ok (t := 40) (i := 7) (off := 8) ok.ok hfx hoc ok.ok.f7 H7 (by omega) (by omega) (by omega) (by rw [k7 7 (by omega), k6 7 (by omega)]; exact q7) (by rw [k7 4 (by omega), k6 4 (by omega)]; exact q4) fun ρ8 w8 vs k8 H8 O8 l8 e8 => ?_)
    have O7' := O7.keep e8
    have hold : OldW w8 F (roM v1 l).1 (splice 8 vs (splice 6 ks (splice 5 [.int .i64 (if v1 then fx l 8 (fx l 1 (fx l 1 (fx l 4 (fx l 4 (fx l 8 (0, 0)).2).2).2).2).2 else (0, (fx l 1 (fx l 1 (fx l 4 (fx l 4 (fx l 8 (0, 0)).2).2).2).2).2)).1] (splice 4 [.int .i8 (IntKind.i8.wrap (fx l 1 (fx l 1 (fx l 4 (fx l 4 (fx l 8 (0, 0)).2).2).2).2).1)] (splice 3 [.int .i8 (IntKind.i8.wrap (fx l 1 (fx l 4 (fx l 4 (fx l 8 (0, 0)).2).2).2).1)] (splice 2 [.int .i32 (IntKind.i32.wrap (fx l 4 (fx l 4 (fx l 8 (0, 0)).2).2).1)] (splice 1 [.int .i32 (IntKind.i32.wrap (fx l 4 (fx l 8 (0, 0)).2).1)] (splice 0 [.int .i64 (fx l 8 (0, 0)).1] zOld)))))))) := by
      refine ⟨ks, vs, O7', O8, ?_⟩
      match ks, vs, l7, l8 with
      | [x, y], [x', y'], _, _ => exact (splice_old _ _ _ _ _ _ x y x' y').symm
    refine RW.sq (roG_ok ok H8 hold (by rw [k8 7 (by omega), k7 7 (by omega), k6 7 (by omega)]; exact q7) (by rw [k8 4 (by omega), k7 4 (by omega), k6 4 (by omega)]; exact q4) fun ρ9 w9 r4 r5 r6 H9 O9 => RW.rt ?_)
    refine ⟨⟨w.heap.size, 0, none⟩, _, r4, run_loadAt_row ok.ok.row (by rw [H9.n]; exact ok.ok.cells) H9.r, H9.B, _, ?_, O9⟩
    simp only [List.map_cons, List.map_nil, r5, r6]
    rfl
  refine RW.sq (RW.sq (RW.rg (RL.step (MR.mv q0) (RL.step (MR.biE (v := .bool v1) (by show evB .gtr (upd _ _ _ 30) _ = _; rw [upd_same]; cases v1 <;> rfl)) (RL.nil ?_)))))
  refine RW.cd (b := v1) (upd_same _ _ _) (fun e => ?_) (fun e => RW.sk ?_)
  · subst e
    refine ro1_ok (t := 32) (i := 5) ok.ok hfx H5 (by omega) (by omega) (by omega) (by (repeat (first | rw [upd_same] | rw [upd_ne _ _ (by omega)])); exact q7) (by (repeat (first | rw [upd_same] | rw [upd_ne _ _ (by omega)])); exact q4) fun ρ6 w6 k6 H6 => ?_
    exact rest ρ6 w6 (fun s hs => by rw [k6 s (by omega)]; (repeat (first | rw [upd_same] | rw [upd_ne _ _ (by omega)]))) H6
  · subst e
    refine rest _ w5 (fun s hs => by (repeat (first | rw [upd_same] | rw [upd_ne _ _ (by omega)]))) ?_
    exact H5
end
section
variable {P : Program} {w w' : World} {O : ON}
def cOwn (O : ON) : MCode := .sq (.rg [.mv 2 (.c .nslice)]) (.sq (.rg [.mv 3 (.t 0), .apk 4 O.T.u8s O.T.u8s 3, .mv 2 (.t 4)]) .rt)
def OwnC (P : Program) (U f : Nat) : Prop := entersB P f = true ∧ ∀ (w : World) (ad : Option Addr) (l : List UInt8) (c : Nat), BytesAt w (fun _ => True) ad l → l.length ≤ 1000000000 → RetB P U f [.slice ad l.length c] w l
theorem own_ok {f : Nat} (ok : OOK P O) (hf : FnIs P f (cOwn O) 5 2) : OwnC P O.T.u8 f := by
  refine ⟨hf.ent, fun w ad l c hby hl => ?_⟩
  refine hf.runs (args := [.slice ad l.length c]) (by simp) (by omega) ?_
  obtain ⟨sv, w3, a1, a2, a3, a4⟩ := run_apOwn (P := P) (w := w) (T := O.T.u8s) (U := O.T.u8) (c := c) (B := w.heap.size) ok.tk.u8s ok.tk.u8 (OwnB.nil _ _ _) rfl hby (Nat.le_refl _) (by simp only [List.length_nil]; have e : lim = 1099511627776 := rfl; omega)
  rw [List.nil_append] at a2
  refine RW.sq (RW.rg (RL.step MR.mv (RL.nil (RW.sq (RW.rg (RL.step (MR.mv (v := .slice ad l.length c) rfl) (RL.step (MR.apk (w' := w3) a1) (RL.step (MR.mv (v := sv) rfl) (RL.nil (RW.rt ?_))))))))))
  exact ⟨sv, rfl, a2, a3⟩
end
set_option linter.unusedVariables false
theorem OwnB.new0 {U B : Nat} {w : World} (hB : B ≤ w.heap.size) : OwnB U (w.alloc (.cells #[] U)) B (.slice (some ⟨w.heap.size, 0, none⟩) 0 0) [] := by
  refine ⟨rfl, .inr ⟨w.heap.size, 0, #[], rfl, hB, ?_, Nat.le_refl _, Nat.zero_le _, rfl, rfl⟩⟩
  show (w.heap.push _)[w.heap.size]? = _
  simp
section
variable {P : Program} {w w' : World} {ρ : Nat → Value} {O : ON}
def cOctets (O : ON) : MCode := .sq (.rg [.al 2 O.tOc])
  (.sq (.sq (.rg [.mv 3 (.t 0), .bi 4 .eql O.T.u8s (.t 3) (.c .nslice)]) (.cd 4 (.sq (.rg [.bdl 5 O.tOc [(0, .c (.bool true))], .st O.tOc 2 5]) .rt) .sk))
  (.sq (.rg [.bsl 6 O.T.u8s [], .mv 7 (.t 0), .ap 8 O.T.u8s O.T.u8s 6 7, .bdl 9 O.tOc [(1, .t 8)], .st O.tOc 2 9]) .rt))
def OcsC (P : Program) (f : Nat) : Prop := entersB P f = true ∧ ∀ (w : World) (ad : Option Addr) (l : List UInt8) (c : Nat), BytesAt w (fun _ => True) ad l → l.length ≤ 1000000000 →
  Calls P f #[.slice ad l.length c] w (fun e w' => Below w.heap.size w w' ∧ ∃ v, e = .returned v ∧ OctV w' (fun k => w.heap.size ≤ k ∧ k < w'.heap.size) v (if ad.isNone then none else some l))
theorem octets_ok {f : Nat} (ok : OOK2 P O) (hf : FnIsC P f (cOctets O) 10 2 O.tOc) : OcsC P f := by
  refine ⟨hf.ent, fun w ad l c hby hl => ?_⟩
  refine hf.runs (args := [.slice ad l.length c]) (by simp) (by omega) ?_
  refine RW.sq (RW.rg (RL.step (MR.al ok.oz) (RL.nil ?_)))
  have B1 := below_box w (.cells (Value.agg [Value.bool false, .slice none 0 0].toArray).cells O.tOc)
  have T1 : (w.alloc (.cells (Value.agg [Value.bool false, .slice none 0 0].toArray).cells O.tOc)).there w.heap.size 0 2 := there_box w [Value.bool false, .slice none 0 0] O.tOc
  have S1 := size_box w (.cells (Value.agg [Value.bool false, .slice none 0 0].toArray).cells O.tOc)
  revert B1 T1 S1
  generalize w.alloc (.cells (Value.agg [Value.bool false, .slice none 0 0].toArray).cells O.tOc) = w1
  intro B1 T1 S1
  have fin : ∀ {w2 : World} {cs : List Value} {ρ' : Nat → Value}, cs.length = 2 → ρ' 2 = .pointer (some ⟨w.heap.size, 0, none⟩) → w2.there w.heap.size 0 2 → Below w.heap.size w w2 → OctV w2 (fun k => w.heap.size ≤ k ∧ k < w2.heap.size ∧ k ≠ w.heap.size) (.agg cs.toArray) (if ad.isNone then none else some l) →
      retC P 2 O.tOc (fun e w' => Below w.heap.size w w' ∧ ∃ v, e = .returned v ∧ OctV w' (fun k => w.heap.size ≤ k ∧ k < w'.heap.size) v (if ad.isNone then none else some l)) .ret ρ' (w2.setCells w.heap.size 0 cs) := by
    intro w2 cs ρ' hl2 hp ht hb ho
    refine ⟨⟨w.heap.size, 0, none⟩, .agg cs.toArray, hp, run_loadAt_row ok.or_ (by rw [hl2]; exact ok.oc) (World.rangeAt_setCells_same w2 w.heap.size 0 cs (by rw [hl2]; exact ht)), below_setCells (Nat.le_refl _) _ _ hb, _, rfl, ?_⟩
    obtain ⟨a2, c2, h1, h2, h3, h4⟩ := ho
    refine ⟨a2, c2, h1, h2, h3, fun j y hj => ?_⟩
    obtain ⟨g, o, g1, g2, g3⟩ := h4 j y hj
    exact ⟨g, o, g1, ⟨g2.1, by rw [size_setCells]; exact g2.2.1⟩, by rw [cell_of_heap (setCells_other w.heap.size cs 0 w2 g g2.2.2)]; exact g3⟩
  refine RW.sq (RW.sq (RW.rg (RL.step (MR.mv (v := .slice ad l.length c) rfl) (RL.step (MR.eqNilS ok.ok.tk.u8s (p := ad) (n := l.length) (c := c) (upd_same _ _ _)) (RL.nil ?_)))))
  cases ad with
  | none =>
    refine RW.cd (b := true) (upd_same _ _ _) (fun _ => ?_) (fun e => by cases e)
    refine RW.sq (RW.rg (RL.step (MR.bdl (w' := w1) (v := .agg #[.bool true, .slice none 0 0]) (built_of (z := [.bool false, .slice none 0 0]) (parts := [(0, .bool true)]) (cells := [.bool true, .slice none 0 0]) ok.oz ok.op (by simp [Value.cells]) rfl w1)) ?_))
    refine RL.stA (cs := [.bool true, .slice none 0 0]) (b := w.heap.size) (o := 0) (by (repeat (first | rw [upd_same] | rw [upd_ne _ _ (by omega)]))) (upd_same _ _ _) ok.oc T1 rfl (RL.nil (RW.rt ?_))
    exact fin rfl (by (repeat (first | rw [upd_same] | rw [upd_ne _ _ (by omega)]))) T1 B1 ⟨none, 0, rfl, .inl rfl, Nat.le_refl _, fun j y hj => by simp at hj⟩
  | some a =>
    refine RW.cd (b := false) (upd_same _ _ _) (fun e => by cases e) (fun _ => RW.sk ?_)
    refine RW.sq (RW.rg (RL.bsl8 (xs := []) (bs := []) ok.ok.tk.u8s ok.ok.tk.u8 rfl (by simp) ?_))
    have B2 := below_box w1 (.cells ([].map byteV).toArray O.T.u8)
    have O2 : OwnB O.T.u8 (w1.alloc (.cells ([].map byteV).toArray O.T.u8)) w1.heap.size (.slice (some ⟨w1.heap.size, 0, none⟩) 0 0) [] := OwnB.new0 (Nat.le_refl _)
    revert B2 O2
    generalize w1.alloc (.cells ([].map byteV).toArray O.T.u8) = w2
    intro B2 O2
    have hby2 : BytesAt w2 (fun _ => True) (some a) l := (hby.kp B1.kp).kp B2.kp
    refine RL.step (MR.mv (v := .slice (some a) l.length c) (by show upd _ _ _ 0 = _; (repeat (first | rw [upd_same] | rw [upd_ne _ _ (by omega)])); rfl)) (RL.apOwn (bs := []) (l := l) (B := w1.heap.size) (m := l.length) (c := c) (ad := some a) ok.ok.tk.u8s ok.ok.tk.u8 (by (repeat (first | rw [upd_same] | rw [upd_ne _ _ (by omega)])); rfl) O2 (upd_same _ _ _) rfl hby2 B2.size (by simp only [List.length_nil]; have e : lim = 1099511627776 := rfl; omega) ?_)
    intro sv w3 O3 B3
    rw [List.nil_append] at O3
    have hlt := World.ownsRow.lt O3
    obtain ⟨a3, c3, rfl, g1, g2, g3⟩ := O3.bytes
    have B13 : Below w1.heap.size w1 w3 := B2.trans B3
    refine RL.step (MR.bdl (w' := w3) (v := .agg #[.bool false, .slice a3 l.length c3]) ?_) ?_
    · simp only [List.map_cons, List.map_nil, xof]
      rw [upd_same]
      exact built_of (z := [.bool false, .slice none 0 0]) (parts := [(1, .slice a3 l.length c3)]) (cells := [.bool false, .slice a3 l.length c3]) ok.oz ok.op (by simp [Value.cells]) rfl w3
    have T3 : w3.there w.heap.size 0 2 := there_keep T1 (B13.block _ (by omega))
    refine RL.stA (cs := [.bool false, .slice a3 l.length c3]) (b := w.heap.size) (o := 0) (by (repeat (first | rw [upd_same] | rw [upd_ne _ _ (by omega)]))) (upd_same _ _ _) ok.oc T3 rfl (RL.nil (RW.rt ?_))
    refine fin rfl (by (repeat (first | rw [upd_same] | rw [upd_ne _ _ (by omega)]))) T3 (B1.trans (B13.mono (by omega))) ⟨a3, c3, rfl, .inr g1, g2, fun j y hj => ?_⟩
    obtain ⟨g, o, e1, _, e3⟩ := g3 j y hj
    have := hlt g (by rw [e1]; rfl)
    exact ⟨g, o, e1, ⟨by omega, this.2, by omega⟩, e3⟩
end
inductive FV where
  | uk
  | m (c : MVal)
  | ptr (b o : Nat)
  | own (b n : Nat)
  | sl (b o n : Nat)
  | es
inductive AV where
  | f (x : FV)
  | g (l : List FV)
  | t2 (x y : FV)
  | tg (l : List FV) (y : FV)
inductive Blk where
  | var (cs : List FV)
  | row (bs : List Nat)
def setD : List AV → Nat → AV → List AV
  | [], 0, v => [v]
  | [], n + 1, v => .f .uk :: setD [] n v
  | _ :: xs, 0, v => v :: xs
  | x :: xs, n + 1, v => x :: setD xs n v
theorem setD_get : ∀ (l : List AV) (d : Nat) (v : AV) (i : Nat), (setD l d v).getD i (.f .uk) = if i = d then v else l.getD i (.f .uk)
  | [], 0, v, 0 => rfl
  | [], 0, v, i + 1 => by simp [setD]
  | [], d + 1, v, 0 => by simp [setD]
  | [], d + 1, v, i + 1 => by
    have := setD_get [] d v i
    simp only [setD, List.getD_cons_succ, this]
    by_cases h : i = d <;> simp [h]
  | x :: xs, 0, v, 0 => rfl
  | x :: xs, 0, v, i + 1 => by simp [setD]
  | x :: xs, d + 1, v, 0 => by simp [setD]
  | x :: xs, d + 1, v, i + 1 => by
    have := setD_get xs d v i
    simp only [setD, List.getD_cons_succ, this]
    by_cases h : i = d <;> simp [h]
structure St where
  sl : List AV
  mem : List (Option Blk)
def St.slot (s : St) (i : Nat) : AV := s.sl.getD i (.f .uk)
def St.x (s : St) : MX → AV
  | .t i => s.slot i
  | .c m => .f (.m m)
def St.blk (s : St) (b : Nat) : Option Blk := s.mem.getD b none
def St.put (s : St) (d : Nat) (v : AV) : St := ⟨setD s.sl d v, s.mem⟩
/-! ### What it says -/
def RelF (n : Nat) (μ : Nat → Nat × Nat) : FV → Value → Prop
  | .uk, _ => True
  | .m c, v => v = c.val
  | .ptr b o, v => b < n ∧ v = .pointer (some ⟨(μ b).1, o, none⟩)
  | .own b k, v => b < n ∧ v = .slice (some ⟨(μ b).1, 0, none⟩) k (μ b).2 ∧ k ≤ (μ b).2
  | .sl b o k, v => b < n ∧ ∃ c, k ≤ c ∧ v = .slice (some ⟨(μ b).1, o, none⟩) k c
  | .es, v => ∃ g o c, v = .slice (some ⟨g, o, none⟩) 0 c
def RelL (n : Nat) (μ : Nat → Nat × Nat) : List FV → List Value → Prop
  | [], [] => True
  | x :: xs, v :: vs => RelF n μ x v ∧ RelL n μ xs vs
  | _, _ => False
def RelA (n : Nat) (μ : Nat → Nat × Nat) : AV → Value → Prop
  | .f x, v => RelF n μ x v
  | .g l, v => ∃ vs, RelL n μ l vs ∧ v = .agg vs.toArray
  | .t2 x y, v => ∃ a b, RelF n μ x a ∧ RelF n μ y b ∧ v = .tuple #[a, b]
  | .tg l y, v => ∃ vs b, RelL n μ l vs ∧ RelF n μ y b ∧ v = .tuple #[.agg vs.toArray, b]
def RelB (U B n : Nat) (μ : Nat → Nat × Nat) (w : World) (i : Nat) : Blk → Prop
  | .var cs => ∃ vs, RelL n μ cs vs ∧ w.rangeAt (μ i).1 0 vs ∧ w.there (μ i).1 0 vs.length
  | .row bs => OwnB U w B (.slice (some ⟨(μ i).1, 0, none⟩) bs.length (μ i).2) (bs.map UInt8.ofNat)
structure RelM (U B : Nat) (μ : Nat → Nat × Nat) (mem : List (Option Blk)) (w : World) : Prop where
  base : B ≤ w.heap.size
  at_ : ∀ i k, mem[i]? = some (some k) → B ≤ (μ i).1 ∧ (μ i).1 < w.heap.size ∧ RelB U B mem.length μ w i k
  inj : ∀ i j k l, mem[i]? = some (some k) → mem[j]? = some (some l) → i ≠ j → (μ i).1 ≠ (μ j).1
def RelS (n : Nat) (μ : Nat → Nat × Nat) (sl : List AV) (ρ : Nat → Value) : Prop := ∀ i, RelA n μ (sl.getD i (.f .uk)) (ρ i)
def ExtM (n : Nat) (μ μ' : Nat → Nat × Nat) : Prop := ∀ i, i < n → μ' i = μ i
section
variable {n n' : Nat} {μ μ' : Nat → Nat × Nat} {U B : Nat} {w w' : World}
theorem ExtM.refl : ExtM n μ μ := fun _ _ => rfl
theorem ExtM.trans {μ'' : Nat → Nat × Nat} (h : ExtM n μ μ') (k : ExtM n' μ' μ'') (hn : n ≤ n') : ExtM n μ μ'' := fun i hi => (k i (by omega)).trans (h i hi)
theorem RelF.ext {x : FV} {v : Value} (h : RelF n μ x v) (he : ExtM n μ μ') (hn : n ≤ n') : RelF n' μ' x v := by
  cases x <;> simp only [RelF] at h ⊢
  · exact h
  · exact ⟨by omega, by rw [he _ h.1]; exact h.2⟩
  · exact ⟨by omega, by rw [he _ h.1]; exact h.2⟩
  · obtain ⟨h1, c, h2, h3⟩ := h
    exact ⟨by omega, c, h2, by rw [he _ h1]; exact h3⟩
  · exact h
theorem RelL.ext : ∀ {l : List FV} {vs : List Value}, RelL n μ l vs → ExtM n μ μ' → n ≤ n' → RelL n' μ' l vs
  | [], [], _, _, _ => trivial
  | _ :: _, _ :: _, h, he, hn => ⟨h.1.ext he hn, RelL.ext h.2 he hn⟩
  | [], _ :: _, h, _, _ => h.elim
  | _ :: _, [], h, _, _ => h.elim
theorem RelL.len : ∀ {l : List FV} {vs : List Value}, RelL n μ l vs → vs.length = l.length
  | [], [], _ => rfl
  | _ :: _, _ :: _, h => by simp only [List.length_cons, RelL.len h.2]
  | [], _ :: _, h => h.elim
  | _ :: _, [], h => h.elim
theorem RelL.get : ∀ {l : List FV} {vs : List Value} {i : Nat} {x : FV}, RelL n μ l vs → l[i]? = some x → ∃ v, vs[i]? = some v ∧ RelF n μ x v
  | [], _, i, x, _, hi => by simp at hi
  | a :: l, v :: vs, 0, x, h, hi => by
    simp only [List.getElem?_cons_zero, Option.some.injEq] at hi
    subst hi; exact ⟨v, rfl, h.1⟩
  | a :: l, v :: vs, i + 1, x, h, hi => by
    simp only [List.getElem?_cons_succ] at hi ⊢
    exact RelL.get h.2 hi
  | a :: l, [], _, _, h, _ => h.elim
theorem RelL.drop : ∀ {l : List FV} {vs : List Value} (k : Nat), RelL n μ l vs → RelL n μ (l.drop k) (vs.drop k)
  | l, vs, 0, h => by simpa using h
  | [], [], k + 1, _ => by simp [RelL]
  | _ :: l, _ :: vs, k + 1, h => by simpa using RelL.drop k h.2
  | [], _ :: _, _ + 1, h => h.elim
  | _ :: _, [], _ + 1, h => h.elim
theorem RelL.take : ∀ {l : List FV} {vs : List Value} (k : Nat), RelL n μ l vs → RelL n μ (l.take k) (vs.take k)
  | l, vs, 0, h => by simp [RelL]
  | [], [], k + 1, _ => by simp [RelL]
  | _ :: l, _ :: vs, k + 1, h => by
    simp only [List.take_succ_cons, RelL]; exact ⟨h.1, RelL.take k h.2⟩
  | [], _ :: _, _ + 1, h => h.elim
  | _ :: _, [], _ + 1, h => h.elim
theorem RelL.append : ∀ {l l2 : List FV} {vs vs2 : List Value}, RelL n μ l vs → RelL n μ l2 vs2 → RelL n μ (l ++ l2) (vs ++ vs2)
  | [], l2, [], vs2, _, h2 => h2
  | _ :: l, l2, _ :: vs, vs2, h, h2 => ⟨h.1, RelL.append h.2 h2⟩
  | [], _, _ :: _, _, h, _ => h.elim
  | _ :: _, _, [], _, h, _ => h.elim
theorem RelL.splice {l l2 : List FV} {vs vs2 : List Value} (h : RelL n μ l vs) (h2 : RelL n μ l2 vs2) (k : Nat) : RelL n μ (l.take k ++ l2 ++ l.drop (k + l2.length)) (splice k vs2 vs) := by
  unfold Kx.splice
  rw [← h2.len, List.append_assoc, List.append_assoc]
  exact (h.take k).append (h2.append (h.drop _))
theorem RelL.vals (c : List MVal) : RelL n μ (c.map FV.m) (c.map MVal.val) := by
  induction c with
  | nil => trivial
  | cons x c ih => exact ⟨rfl, ih⟩
theorem RelA.ext {x : AV} {v : Value} (h : RelA n μ x v) (he : ExtM n μ μ') (hn : n ≤ n') : RelA n' μ' x v := by
  cases x <;> simp only [RelA] at h ⊢
  · exact h.ext he hn
  · obtain ⟨vs, h1, h2⟩ := h; exact ⟨vs, h1.ext he hn, h2⟩
  · obtain ⟨a, b, h1, h2, h3⟩ := h; exact ⟨a, b, h1.ext he hn, h2.ext he hn, h3⟩
  · obtain ⟨vs, b, h1, h2, h3⟩ := h; exact ⟨vs, b, h1.ext he hn, h2.ext he hn, h3⟩
theorem RelS.ext {sl : List AV} {ρ : Nat → Value} (h : RelS n μ sl ρ) (he : ExtM n μ μ') (hn : n ≤ n') : RelS n' μ' sl ρ := fun i => (h i).ext he hn
theorem RelS.put {sl : List AV} {ρ : Nat → Value} {x : AV} {v : Value} {d : Nat} (h : RelS n μ sl ρ) (hx : RelA n μ x v) : RelS n μ (setD sl d x) (upd ρ d v) := by
  intro i
  rw [setD_get]
  by_cases e : i = d
  · subst e; rw [if_pos rfl, upd_same]; exact hx
  · rw [if_neg e, upd_ne _ _ e]; exact h i
def FV.known : FV → Bool
  | .uk => false
  | _ => true
theorem RelF.one {x : FV} {v : Value} (h : RelF n μ x v) (hk : x.known = true) : v.cells = #[v] ∧ v.oneCell' = true := by
  cases x <;> simp only [RelF, FV.known, Bool.false_eq_true] at h hk
  · rename_i c; subst h; exact ⟨MVal.cells1 c, MVal.one1 c⟩
  · obtain ⟨_, rfl⟩ := h; exact ⟨rfl, rfl⟩
  · obtain ⟨_, rfl, _⟩ := h; exact ⟨rfl, rfl⟩
  · obtain ⟨_, c, _, rfl⟩ := h; exact ⟨rfl, rfl⟩
  · obtain ⟨g, o, c, rfl⟩ := h; exact ⟨rfl, rfl⟩
theorem RelL.one : ∀ {l : List FV} {vs : List Value}, RelL n μ l vs → l.all FV.known = true → vs.all (·.oneCell') = true
  | [], [], _, _ => rfl
  | _ :: _, _ :: _, h, hk => by
    simp only [List.all_cons, Bool.and_eq_true] at hk ⊢
    exact ⟨(h.1.one hk.1).2, RelL.one h.2 hk.2⟩
  | [], _ :: _, h, _ => h.elim
  | _ :: _, [], h, _ => h.elim
theorem OwnB.keepAt {sv : Value} {bs : List UInt8} (h : OwnB U w B sv bs) (hb : ∀ k, sv.ownBlock = some k → w'.heap[k]? = w.heap[k]?) : OwnB U w' B sv bs := by
  obtain ⟨h1, h2⟩ := h
  refine ⟨h1, ?_⟩
  rcases h2 with h2 | ⟨g, cap, cur, h2, h3, h4, h5⟩
  · exact .inl h2
  · exact .inr ⟨g, cap, cur, h2, h3, by rw [hb g (by rw [h2]; rfl)]; exact h4, h5⟩
theorem RelB.keep {i : Nat} {k : Blk} (h : RelB U B n μ w i k) (he : ExtM n μ μ') (hn : n ≤ n') (hi : i < n) (hw : w'.heap[(μ i).1]? = w.heap[(μ i).1]?) : RelB U B n' μ' w' i k := by
  cases k <;> simp only [RelB] at h ⊢
  · obtain ⟨vs, h1, h2, h3⟩ := h
    rw [he _ hi]
    exact ⟨vs, h1.ext he hn, range_keep h2 hw, there_keep h3 hw⟩
  · rw [he _ hi]
    exact h.keepAt fun k hk => by cases hk; exact hw
theorem RelM.keep {mem : List (Option Blk)} (h : RelM U B μ mem w) (hs : w.heap.size ≤ w'.heap.size) (hw : ∀ i k, mem[i]? = some (some k) → w'.heap[(μ i).1]? = w.heap[(μ i).1]?) : RelM U B μ mem w' :=
  ⟨by have := h.base; omega, fun i k hi => by
    obtain ⟨h1, h2, h3⟩ := h.at_ i k hi
    exact ⟨h1, by omega, h3.keep ExtM.refl (Nat.le_refl _) (List.getElem?_eq_some_iff.1 hi).1 (hw i k hi)⟩, h.inj⟩
def updM (μ : Nat → Nat × Nat) (i : Nat) (p : Nat × Nat) : Nat → Nat × Nat := fun j => if j = i then p else μ j
theorem updM_ext {p : Nat × Nat} : ExtM n μ (updM μ n p) := fun i hi => by unfold updM; rw [if_neg (by omega)]
theorem updM_same {p : Nat × Nat} {i : Nat} : updM μ i p i = p := by simp [updM]
theorem RelM.new {mem : List (Option Blk)} {p : Nat × Nat} {k : Blk} (h : RelM U B μ mem w) (hs : w.heap.size ≤ w'.heap.size) (hw : ∀ i k, mem[i]? = some (some k) → w'.heap[(μ i).1]? = w.heap[(μ i).1]?)
    (hp : B ≤ p.1) (hp2 : p.1 < w'.heap.size) (hne : ∀ i k, mem[i]? = some (some k) → (μ i).1 ≠ p.1) (hk : RelB U B (mem.length + 1) (updM μ mem.length p) w' mem.length k) :
    RelM U B (updM μ mem.length p) (mem ++ [some k]) w' := by
  have hcase : ∀ i l, (mem ++ [some k])[i]? = some (some l) → (mem[i]? = some (some l) ∧ i < mem.length) ∨ (i = mem.length ∧ l = k) := by
    intro i l hi
    by_cases h1 : i < mem.length
    · rw [List.getElem?_append_left h1] at hi; exact .inl ⟨hi, h1⟩
    · rw [List.getElem?_append_right (by omega)] at hi
      have h2 : i - mem.length = 0 := by
        rcases Nat.eq_zero_or_pos (i - mem.length) with e | e
        · exact e
        · rw [List.getElem?_eq_none (by simp only [List.length_singleton]; omega)] at hi; cases hi
      rw [h2] at hi
      simp only [List.getElem?_cons_zero, Option.some.injEq] at hi
      exact .inr ⟨by omega, hi.symm⟩
  refine ⟨by have := h.base; omega, fun i l hi => ?_, fun i j l l' hi hj hij => ?_⟩
  · rw [List.length_append, List.length_singleton]
    rcases hcase i l hi with ⟨h1, h2⟩ | ⟨rfl, rfl⟩
    · obtain ⟨g1, g2, g3⟩ := h.at_ i l h1
      rw [updM_ext i h2]
      exact ⟨g1, by omega, g3.keep updM_ext (by omega) h2 (hw i l h1)⟩
    · rw [updM_same]; exact ⟨hp, hp2, hk⟩
  · rcases hcase i l hi with ⟨h1, h2⟩ | ⟨rfl, rfl⟩ <;> rcases hcase j l' hj with ⟨h3, h4⟩ | ⟨rfl, rfl⟩
    · rw [updM_ext i h2, updM_ext j h4]; exact h.inj i j l l' h1 h3 hij
    · rw [updM_ext i h2, updM_same]; exact hne i l h1
    · rw [updM_ext j h4, updM_same]; exact fun e => hne j l' h3 e.symm
    · exact absurd rfl hij
theorem RelM.kill {mem : List (Option Blk)} (h : RelM U B μ mem w) (b : Nat) : RelM U B μ (mem.set b none) w := by
  have hcase : ∀ i l, (mem.set b none)[i]? = some (some l) → mem[i]? = some (some l) ∧ i ≠ b := by
    intro i l hi
    by_cases e : i = b
    · subst e
      rw [List.getElem?_set_self'] at hi
      cases hc : mem[i]? <;> simp [hc] at hi
    · rw [List.getElem?_set_ne (fun x => e x.symm)] at hi; exact ⟨hi, e⟩
  refine ⟨h.base, fun i l hi => ?_, fun i j l l' hi hj => h.inj i j l l' (hcase i l hi).1 (hcase j l' hj).1⟩
  rw [List.length_set]
  exact h.at_ i l (hcase i l hi).1
end
end Go.Kx
