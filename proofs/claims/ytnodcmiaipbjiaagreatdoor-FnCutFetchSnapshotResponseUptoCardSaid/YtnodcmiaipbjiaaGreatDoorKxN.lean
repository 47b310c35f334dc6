/- A struct of two numbers and tags: a new one; whether one is as a new one. Conditions: the program's tests (zsB). -/
import Derived.Test.YtnodcmiaipbjiaaGreatDoorKxM
namespace Go.Kx
open Go.RowKit
set_option linter.unusedSimpArgs false
set_option linter.unusedVariables false
def cNewK (tm fDef : Nat) : Jc := .sq (.rg [.al 0 tm]) (.sq (.rg [.al 1 tm]) (.sq (.rg [.ca 2 fDef [.t 1]]) (.sq (.rg [.ld 3 tm 1, .st tm 0 3]) .rt)))
def NewKC (P : Program) (f : Nat) (cs : List Value) : Prop := Jo P f = true ∧ ∀ w : World, Calls P f #[] w (fun e w' => e = .returned (.agg cs.toArray) ∧ Below w.heap.size w w')
def cSameT (tS tM tB tI : Nat) : Jc :=
 .sq (.rg [.bx 2 tS 0, .bx 3 tS 1, .mv 4 (.c (.bool false))])
 (.sq (.sq (.gr false [⟨0, none, .fa 9 tS 2 0⟩, ⟨1, none, .ld 10 tM 9⟩, ⟨2, none, .bi 11 .eql tM (.t 10) (.c .nmap)⟩, ⟨3, none, .fa 12 tS 3 0⟩, ⟨4, none, .ld 13 tM 12⟩, ⟨5, none, .bi 14 .eql tM (.t 13) (.c .nmap)⟩, ⟨6, none, .bi 15 .neq tB (.t 11) (.t 14)⟩, ⟨7, none, .mv 16 (.t 15)⟩,
   ⟨8, some (7, 16, false), .fa 17 tS 2 0⟩, ⟨9, some (7, 16, false), .ld 18 tM 17⟩, ⟨10, some (7, 16, false), .ln 19 tM 18⟩, ⟨11, some (7, 16, false), .fa 20 tS 3 0⟩, ⟨12, some (7, 16, false), .ld 21 tM 20⟩, ⟨13, some (7, 16, false), .ln 22 tM 21⟩, ⟨14, some (7, 16, false), .bi 23 .neq tI (.t 19) (.t 22)⟩, ⟨15, none, .pk 24 (.t 16) (.c (.bool true)) (.t 23)⟩])
  (.cd 24 (.sq (.rg [.mv 4 (.c (.bool false))]) .rt) .sk))
 (.sq (.sq (.rg [.fa 25 tS 2 0, .ld 26 tM 25, .rng 27 tM 26]) (.bl 0 (.lp (.sq (.rg [.nxt 28 27, .ext 29 28 0]) (.sq (.cd 29 .sk (.ex 0)) .any)))))
 (.sq (.rg [.mv 4 (.c (.bool true))]) .rt)))
def cSameZ (tZ t32 tS fS : Nat) : Jc :=
 .sq (.rg [.bx 2 tZ 0, .bx 3 tZ 1, .mv 4 (.c (.bool false))])
 (.sq (.gr false [⟨0, none, .fa 5 tZ 2 0⟩, ⟨1, none, .ld 6 t32 5⟩, ⟨2, none, .fa 7 tZ 3 0⟩, ⟨3, none, .ld 8 t32 7⟩, ⟨4, none, .bi 9 .eql t32 (.t 6) (.t 8)⟩, ⟨5, none, .mv 10 (.t 9)⟩,
   ⟨6, some (5, 10, true), .fa 11 tZ 2 1⟩, ⟨7, some (5, 10, true), .ld 12 t32 11⟩, ⟨8, some (5, 10, true), .fa 13 tZ 3 1⟩, ⟨9, some (5, 10, true), .ld 14 t32 13⟩, ⟨10, some (5, 10, true), .bi 15 .eql t32 (.t 12) (.t 14)⟩, ⟨11, none, .pk 16 (.t 10) (.t 15) (.c (.bool false))⟩, ⟨12, none, .mv 17 (.t 16)⟩,
   ⟨13, some (12, 17, true), .fa 18 tZ 2 2⟩, ⟨14, some (12, 17, true), .ld 19 tS 18⟩, ⟨15, some (12, 17, true), .fa 20 tZ 3 2⟩, ⟨16, some (12, 17, true), .ld 21 tS 20⟩, ⟨17, some (12, 17, true), .ca 22 fS [.t 19, .t 21]⟩, ⟨18, none, .pk 23 (.t 17) (.t 22) (.c (.bool false))⟩, ⟨19, none, .mv 4 (.t 23)⟩]) .rt)
section
variable {P : Program} {N : Nat} {Q : UE} {ρ : Nat → Value} {w w' : World}
theorem newK_of {f fD tm n : Nat} {zs cs : List Value} (hf : FnIsC P f (cNewK tm fD) 4 0 tm) (hz : Q7 P tm zs) (hrow : QH P tm = true) (hn : Jh P tm n = true) (hzl : zs.length = n) (hone : cs.all (·.oneCell') = true) (hd : DefC P fD zs cs) (hl : cs.length = zs.length) : NewKC P f cs := by
 refine ⟨hf.ent, fun w => ?_⟩
 obtain ⟨zi, hzi, hzv⟩ := hz
 refine hf.runs (args := []) (by simp) (by omega) ?_
 refine RW.sq (RW.rg (RL.s (MR.al ⟨zi, hzi, hzv⟩) (RL.nil ?_)))
 have b1 := Jn w (.cells zs.toArray tm)
 have s1 := J1 w (.cells zs.toArray tm)
 have t1 := Qm w zs tm
 change RW P 4 _ _ _ (w.alloc (.cells zs.toArray tm))
 revert b1 s1 t1
 generalize w.alloc (.cells zs.toArray tm) = w1
 intro b1 s1 t1
 refine RW.sq (RW.rg (RL.s (MR.al ⟨zi, hzi, hzv⟩) (RL.nil ?_)))
 have b2 := Jn w1 (.cells zs.toArray tm)
 have s2 := J1 w1 (.cells zs.toArray tm)
 have t2 := Qm w1 zs tm
 have r2 : (w1.alloc (.cells zs.toArray tm)).rangeAt w1.heap.size 0 zs := fun j v hj => JA w1 zs tm hj
 change RW P 4 _ _ _ (w1.alloc (.cells zs.toArray tm))
 revert b2 s2 t2 r2
 generalize w1.alloc (.cells zs.toArray tm) = w2
 intro b2 s2 t2 r2
 have B2 : Below w.heap.size w w2 := b1.trans (b2.mono b1.size)
 have t1' : w2.there w.heap.size 0 zs.length := JE t1 (b2.block _ (by omega))
 refine RW.sq (RW.rg (RL.ca (R := fun v w' => w'.rangeAt w1.heap.size 0 cs ∧ Below w1.heap.size w2 w') hd.1 ?_ ?_))
 ·refine Calls.mono (hd.2 w2 w1.heap.size (by omega) r2 t2) ?_
  rintro e w' ⟨rfl, h1, h2, h3⟩
  exact ⟨_, rfl, h1, h3⟩
 rintro v w3 ⟨r3, b3⟩
 refine RL.nil (RW.sq (RW.rg ?_))
 have t3 : w3.there w.heap.size 0 cs.length := by rw [hl]; exact JE t1' (b3.block _ (by omega))
 refine RL.s (MR.ldRow (cs := cs) (b := w1.heap.size) (o := 0) rfl hrow (by rw [hl, hzl]; exact hn) r3) ?_
 refine RL.stA (cs := cs) (b := w.heap.size) (o := 0) rfl rfl (by rw [hl, hzl]; exact hn) t3 hone (RL.nil (RW.rt ?_))
 have e1 := World.rangeAt_setCells_same w3 w.heap.size 0 cs t3
 exact ⟨⟨w.heap.size, 0, none⟩, .agg cs.toArray, rfl, J3 (cs := cs) hrow (by rw [hl, hzl]; exact hn) e1, rfl, JD (Nat.le_refl _) _ _ (B2.trans (b3.mono (by omega)))⟩
theorem MR.neqBB {d ty x y : Nat} {a b : Bool} (hs : P.underlying ty = some .bool) (hx : ρ x = .bool a) (hy : ρ y = .bool b) (hxN : x < N := by decide) (hyN : y < N := by decide) : MR P N (.bi d .neq ty (.t x) (.t y)) ρ w d (.bool (!(a == b))) w := by
 refine MR.bi (fun ox oy => ?_) ?_ (ltT hxN) (ltT hyN)
 ·simp only [xof, hx, hy]; unfold eqGuard; rfl
 ·simp only [xof, hx, hy]
  have h : ∀ d : Nat, (Op.equalIn (d + 1) ty (.bool a) (.bool b)).run P w = .ok (a == b) w := fun d => by
   simp [Op.equalIn, run_underlying hs]
  simp only [binOp]
  simp [Op.equal, Op.maxDepth, h 9999]
def SameTC (P : Program) (f : Nat) : Prop := Jo P f = true ∧ ∀ (w : World) (F : Nat → Prop) (m : Value) (ux : List (Nat × List UInt8)), RepT w F m ux → Calls P f #[.agg #[m], .agg #[.map none]] w (fun e w' => e = .returned (.bool ux.isEmpty) ∧ Below w.heap.size w w')
theorem sameT_ok {f tS tM tB tI : Nat} (hM : mapU P tM = true) (hMt : mapTy P tM = true) (hpl : Jm P tM = true) (hF : Jd P tS 0 0 = true) (hB : boolB P tB = true) (hf : FnIs P f (cSameT tS tM tB tI) 56 4) : SameTC P f := by
 refine ⟨hf.ent, fun w F m ux hm => ?_⟩
 refine hf.runs (args := [.agg #[m], .agg #[.map none]]) (by simp) (by omega) ?_
 obtain ⟨mk, me, hu, _⟩ := mapU_eq hM
 have b1 := Jn w (.cells #[m] tS)
 have s1 := J1 w (.cells #[m] tS)
 have r1 : (w.alloc (.cells #[m] tS)).rangeAt w.heap.size 0 [m] := fun j v hj => JA w [m] tS hj
 refine RW.sq (RW.rg (RL.bxA (cs := [m]) rfl ?_))
 change RL P 56 _ _ _ (w.alloc (.cells #[m] tS))
 revert b1 s1 r1
 generalize w.alloc (.cells #[m] tS) = w1
 intro b1 s1 r1
 have b2 := Jn w1 (.cells #[.map none] tS)
 have s2 := J1 w1 (.cells #[.map none] tS)
 have r2 : (w1.alloc (.cells #[.map none] tS)).rangeAt w1.heap.size 0 [.map none] := fun j v hj => JA w1 [.map none] tS hj
 refine RL.bxA (cs := [.map none]) rfl ?_
 change RL P 56 _ _ _ (w1.alloc (.cells #[.map none] tS))
 revert b2 s2 r2
 generalize w1.alloc (.cells #[.map none] tS) = w2
 intro b2 s2 r2
 have B2 : Below w.heap.size w w2 := b1.trans (b2.mono b1.size)
 have c1 : w2.cell? ⟨w.heap.size, 0, none⟩ = some m := b2.kp _ _ (r1 0 _ rfl)
 have c2 : w2.cell? ⟨w1.heap.size, 0, none⟩ = some (.map none) := r2 0 _ rfl
 refine RL.s MR.mv (RL.nil (RW.sq (RW.sq (RW.gf (Below w2.heap.size w2) (Below.refl _ _) ?_))))
 obtain ⟨p, hp⟩ : ∃ p, m = .map p := by
  rcases hm with ⟨e, _⟩ | ⟨r, _, _, e, _⟩
  ·exact ⟨_, e⟩
  ·exact ⟨_, e⟩
 subst hp
 refine RG.q (fun _ _ => MR.fa (b := w.heap.size) (o := 0) rfl hF) (RG.q (fun w' hS => MR.ld rfl hpl (hS.kp _ _ c1)) (RG.q (fun _ _ => MR.eqNilM hM rfl) (RG.q (fun _ _ => MR.fa (b := w1.heap.size) (o := 0) rfl hF) (RG.q (fun w' hS => MR.ld rfl hpl (hS.kp _ _ c2)) (RG.q (fun _ _ => MR.eqNilM (p := none) hM rfl)
  (RG.q (fun _ _ => MR.neqBB (a := p.isNone) (b := true) (boolB_eq hB) rfl rfl) (RG.q (v := .bool (!(p.isNone == true))) (fun _ _ => MR.mv rfl) ?_)))))))
 cases p with
 | some r =>
  have hun : ux.isEmpty = false := by
   rcases hm with ⟨e, _⟩ | ⟨r, _, _, _, _, _, _, _, _, _, _, h⟩
   ·cases e
   ·cases ux with
    | nil => exact absurd rfl h
    | cons a l => rfl
  refine RG.no (d := 17) (by exact ⟨by decide, .inl rfl⟩)  (RG.no (d := 18) (by exact ⟨by decide, .inl rfl⟩)  (RG.no (d := 19) (by exact ⟨by decide, .inl rfl⟩)  (RG.no (d := 20) (by exact ⟨by decide, .inl rfl⟩)  (RG.no (d := 21) (by exact ⟨by decide, .inl rfl⟩)  (RG.no (d := 22) (by exact ⟨by decide, .inl rfl⟩)  (RG.no (d := 23) (by exact ⟨by decide, .inl rfl⟩)  ?_))))))
  refine RG.q (fun _ _ => MR.pk (b := true) (v := .bool true) rfl rfl) (RG.nil fun b => ?_)
  refine RW.cd (b := true) rfl (fun _ => RW.sq (RW.rg (RL.s MR.mv (RL.nil (RW.rt ?_))))) (fun e => by cases e)
  rw [hun]
  exact ⟨rfl, B2⟩
 | none =>
  have hun : ux = [] := by
   rcases hm with ⟨_, e⟩ | ⟨r, _, _, e, _⟩
   ·exact e
   ·cases e
  subst hun
  have hm0 : ∀ w', RepT w' F (.map none) [] := fun w' => .inl ⟨rfl, rfl⟩
  refine RG.q (fun _ _ => MR.fa (b := w.heap.size) (o := 0) rfl hF) (RG.q (fun w' hS => MR.ld rfl hpl (hS.kp _ _ c1)) (RG.q (fun w' _ => MR.lnM hMt (hm0 w') rfl) (RG.q (fun _ _ => MR.fa (b := w1.heap.size) (o := 0) rfl hF) (RG.q (fun w' hS => MR.ld rfl hpl (hS.kp _ _ c2)) (RG.q (fun w' _ => MR.lnM hMt (hm0 w') rfl) (RG.q (v := .bool false) (fun _ _ => MR.biE rfl) ?_))))))
  refine RG.q (fun _ _ => MR.pk (b := false) (v := .bool false) rfl rfl) (RG.nil fun b => ?_)
  refine RW.cd (b := false) rfl (fun e => by cases e) (fun _ => RW.sk ?_)
  refine RW.sq (RW.sq (RW.rg (RL.s (MR.fa (b := w.heap.size) (o := 0) rfl hF) (RL.s (MR.ld rfl hpl c1) (RL.s (MR.rng (run_range_nilMap w2 tM mk me hu)) (RL.nil ?_))))))
  have b3 : Below w2.heap.size w2 (w2.alloc (.mapIter none 0 #[] 0)) := Jn w2 _
  refine RW.bl (RW.lp (fun ρ w' => ρ 27 = .pointer (some ⟨w2.heap.size, 0, none⟩) ∧ w' = w2.alloc (.mapIter none 0 #[] 0)) (fun _ _ => 0) ⟨rfl, rfl⟩ ?_)
  rintro ρ w' ⟨h27, rfl⟩
  refine RW.sq (RW.rg (RL.s (MR.nxt (fun ty => by rw [h27]; exact run_next_nilMap w2 ty 0 0 #[])) (RL.s (MR.ext (v := .bool false) rfl) (RL.nil ?_))))
  refine RW.sq (RW.cd (b := false) rfl (fun e => by cases e) (fun _ => RW.ex ?_))
  show RW P 56 _ _ _ _
  refine RW.sq (RW.rg (RL.s MR.mv (RL.nil (RW.rt ?_))))
  exact ⟨rfl, B2.trans (b3.mono B2.size)⟩
theorem sameZ_ok {f tZ t32 tS fS : Nat} (h32 : Jm P t32 = true) (hF0 : Jd P tZ 0 0 = true) (hF1 : Jd P tZ 1 1 = true) (hF2 : Jd P tZ 2 2 = true) (hrow : QH P tS = true) (hc : Jh P tS 1 = true) (hs : SameTC P fS) (hf : FnIs P f (cSameZ tZ t32 tS fS) 24 4) (w : World) (B : Nat) (a b : Int) (m : Value) (ux : List (Nat × List UInt8)) (hm : RepT w (· < B) m ux) :
  Calls P f #[.agg #[.int .i32 a, .int .i32 b, m], .agg #[.int .i32 0, .int .i32 0, .map none]] w (fun e w' => e = .returned (.bool (decide (a = 0) && decide (b = 0) && ux.isEmpty)) ∧ Below w.heap.size w w') := by
 refine hf.runs (args := [.agg #[.int .i32 a, .int .i32 b, m], .agg #[.int .i32 0, .int .i32 0, .map none]]) (by simp) (by omega) ?_
 have b1 := Jn w (.cells #[.int .i32 a, .int .i32 b, m] tZ)
 have s1 := J1 w (.cells #[.int .i32 a, .int .i32 b, m] tZ)
 have r1 : (w.alloc (.cells #[.int .i32 a, .int .i32 b, m] tZ)).rangeAt w.heap.size 0 [.int .i32 a, .int .i32 b, m] := fun j v hj => JA w [.int .i32 a, .int .i32 b, m] tZ hj
 refine RW.sq (RW.rg (RL.bxA (cs := [.int .i32 a, .int .i32 b, m]) rfl ?_))
 change RL P 24 _ _ _ (w.alloc (.cells #[.int .i32 a, .int .i32 b, m] tZ))
 revert b1 s1 r1
 generalize w.alloc (.cells #[.int .i32 a, .int .i32 b, m] tZ) = w1
 intro b1 s1 r1
 have b2 := Jn w1 (.cells #[.int .i32 0, .int .i32 0, .map none] tZ)
 have s2 := J1 w1 (.cells #[.int .i32 0, .int .i32 0, .map none] tZ)
 have r2 : (w1.alloc (.cells #[.int .i32 0, .int .i32 0, .map none] tZ)).rangeAt w1.heap.size 0 [.int .i32 0, .int .i32 0, .map none] := fun j v hj => JA w1 [.int .i32 0, .int .i32 0, .map none] tZ hj
 refine RL.bxA (cs := [.int .i32 0, .int .i32 0, .map none]) rfl ?_
 change RL P 24 _ _ _ (w1.alloc (.cells #[.int .i32 0, .int .i32 0, .map none] tZ))
 revert b2 s2 r2
 generalize w1.alloc (.cells #[.int .i32 0, .int .i32 0, .map none] tZ) = w2
 intro b2 s2 r2
 have B2 : Below w.heap.size w w2 := b1.trans (b2.mono b1.size)
 have c1 : ∀ j v, [.int .i32 a, .int .i32 b, m][j]? = some v → w2.cell? ⟨w.heap.size, 0 + j, none⟩ = some v := fun j v h => b2.kp _ _ (r1 j v h)
 refine RL.s MR.mv (RL.nil (RW.sq (RW.gf (Below w2.heap.size w2) (Below.refl _ _) ?_)))
 refine RG.q (fun _ _ => MR.fa (b := w.heap.size) (o := 0) rfl hF0) (RG.q (fun w' hS => MR.ld (v := .int .i32 a) rfl h32 (hS.kp _ _ (c1 0 _ rfl))) (RG.q (fun _ _ => MR.fa (b := w1.heap.size) (o := 0) rfl hF0) (RG.q (fun w' hS => MR.ld (v := .int .i32 0) rfl h32 (hS.kp _ _ (r2 0 _ rfl)))
  (RG.q (v := .bool (decide (a = 0))) (fun _ _ => MR.biE (by show some (Value.bool (a == 0)) = _; rw [show (a == 0) = decide (a = 0) from by by_cases h : a = 0 <;> simp [h]])) (RG.q (v := .bool (decide (a = 0))) (fun _ _ => MR.mv rfl) ?_)))))
 by_cases ha : a = 0
 ·subst ha
  refine RG.q (fun _ _ => MR.fa (b := w.heap.size) (o := 0) rfl hF1) (RG.q (fun w' hS => MR.ld (v := .int .i32 b) rfl h32 (hS.kp _ _ (c1 1 _ rfl))) (RG.q (fun _ _ => MR.fa (b := w1.heap.size) (o := 0) rfl hF1) (RG.q (fun w' hS => MR.ld (v := .int .i32 0) rfl h32 (hS.kp _ _ (r2 1 _ rfl)))
   (RG.q (v := .bool (decide (b = 0))) (fun _ _ => MR.biE (by show some (Value.bool (b == 0)) = _; rw [show (b == 0) = decide (b = 0) from by by_cases h : b = 0 <;> simp [h]])) (RG.q (v := .bool (decide (b = 0))) (fun _ _ => MR.pk (b := true) rfl rfl) (RG.q (v := .bool (decide (b = 0))) (fun _ _ => MR.mv rfl) ?_))))))
  by_cases hb : b = 0
  ·subst hb
   refine RG.q (fun _ _ => MR.fa (b := w.heap.size) (o := 0) rfl hF2) (RG.q (fun w' hS => MR.ldRow (b := w.heap.size) (o := 2) (cs := [m]) rfl hrow hc (fun j v hj => ?_)) (RG.q (fun _ _ => MR.fa (b := w1.heap.size) (o := 0) rfl hF2) (RG.q (fun w' hS => MR.ldRow (b := w1.heap.size) (o := 2) (cs := [.map none]) rfl hrow hc (fun j v hj => ?_)) ?_)))
   ·have hj0 : j = 0 := by have := (List.getElem?_eq_some_iff.1 hj).1; simp at this; omega
    subst hj0
    simp only [List.getElem?_cons_zero, UC] at hj
    subst hj
    exact hS.kp _ _ (c1 2 _ rfl)
   ·have hj0 : j = 0 := by have := (List.getElem?_eq_some_iff.1 hj).1; simp at this; omega
    subst hj0
    simp only [List.getElem?_cons_zero, UC] at hj
    subst hj
    exact hS.kp _ _ (r2 2 _ rfl)
   refine RG.ca (R := fun v w' => v = .bool ux.isEmpty ∧ Below w2.heap.size w2 w') hs.1 (fun h0 => ?_) ?_
   ·refine Calls.mono (hs.2 w2 (fun _ => True) m ux (RepT.mono hm.bound (fun _ _ => trivial) (fun k hk => B2.block k hk.2))) ?_
    rintro e w' ⟨rfl, h⟩
    exact ⟨_, rfl, ⟨rfl, h⟩, h⟩
   rintro v w3 ⟨rfl, b3⟩
   refine RG.q (v := .bool ux.isEmpty) (fun _ _ => MR.pk (b := true) rfl rfl) (RG.q (v := .bool ux.isEmpty) (fun _ _ => MR.mv rfl) (RG.nil fun _ => RW.rt ?_))
   exact ⟨by simp; rfl, B2.trans (b3.mono B2.size)⟩
  ·have hb' : decide (b = 0) = false := decide_eq_false hb
   rw [hb']
   refine RG.no (d := 18) (by exact ⟨by decide, .inl rfl⟩)  (RG.no (d := 19) (by exact ⟨by decide, .inl rfl⟩)  (RG.no (d := 20) (by exact ⟨by decide, .inl rfl⟩)  (RG.no (d := 21) (by exact ⟨by decide, .inl rfl⟩)  (RG.no (d := 22) (by exact ⟨by decide, .inl rfl⟩)  ?_))))
   refine RG.q (v := .bool false) (fun _ _ => MR.pk (b := false) rfl rfl) (RG.q (v := .bool false) (fun _ _ => MR.mv rfl) (RG.nil fun _ => RW.rt ?_))
   exact ⟨by simp; rfl, B2⟩
 ·have ha' : decide (a = 0) = false := decide_eq_false ha
  rw [ha']
  refine RG.no (d := 11) (by exact ⟨by decide, .inl rfl⟩)  (RG.no (d := 12) (by exact ⟨by decide, .inl rfl⟩)  (RG.no (d := 13) (by exact ⟨by decide, .inl rfl⟩)  (RG.no (d := 14) (by exact ⟨by decide, .inl rfl⟩)  (RG.no (d := 15) (by exact ⟨by decide, .inl rfl⟩)  ?_))))
  refine RG.q (v := .bool false) (fun _ _ => MR.pk (b := false) rfl rfl) (RG.q (v := .bool false) (fun _ _ => MR.mv rfl) ?_)
  refine RG.no (d := 18) (by exact ⟨by decide, .inl rfl⟩)  (RG.no (d := 19) (by exact ⟨by decide, .inl rfl⟩)  (RG.no (d := 20) (by exact ⟨by decide, .inl rfl⟩)  (RG.no (d := 21) (by exact ⟨by decide, .inl rfl⟩)  (RG.no (d := 22) (by exact ⟨by decide, .inl rfl⟩)  ?_))))
  refine RG.q (v := .bool false) (fun _ _ => MR.pk (b := false) rfl rfl) (RG.q (v := .bool false) (fun _ _ => MR.mv rfl) (RG.nil fun _ => RW.rt ?_))
  exact ⟨by simp; rfl, B2⟩
end
def zsB (P : Program) (g : TN) (T : IT) (tZ fD fS : Nat) : List Bool := [isFnC P g.zNew (cNewK tZ fD) 4 0 tZ, zeroIs P tZ [.int .i32 0, .int .i32 0, .nmap], QH P tZ, Jh P tZ 3, isFn0 P fD .sk 2, isFn P g.zSame (cSameZ tZ T.i32 g.tSt fS) 24 4, isFn P fS (cSameT g.tSt g.tMap T.bool T.int) 56 4,
 Jm P T.i32, Jd P tZ 0 0, Jd P tZ 1 1, Jd P tZ 2 2, QH P g.tSt, Jh P g.tSt 1, mapU P g.tMap, mapTy P g.tMap, Jm P g.tMap, Jd P g.tSt 0 0, boolB P T.bool]
theorem zs_of {P : Program} (g : TN) (T : IT) (tZ fD fS : Nat) (h : (zsB P g T tZ fD fS).all id = true) : ZsC P g.zNew g.zSame := by
 simp only [zsB, List.all_cons, List.all_nil, id_eq, Bool.and_true, UA] at h
 obtain ⟨h1, h2, h3, h4, h5, h6, h7, h8, h9, h10, h11, h12, h13, h14, h15, h16, h17, h18⟩ := h
 have hn := newK_of (n := 3) (cs := [.int .i32 0, .int .i32 0, .map none]) (FnIsC.of h1) (QX h2) h3 h4 rfl rfl (def_none (Qz.of h5)) rfl
 have hT := sameT_ok h14 h15 h16 h17 h18 (FnIs.of h7)
 exact ⟨hn.1, (FnIs.of h6).ent, hn.2, fun w B a b m ux hm => sameZ_ok h8 h9 h10 h11 h12 h13 hT (FnIs.of h6) w B a b m ux hm⟩
end Go.Kx
