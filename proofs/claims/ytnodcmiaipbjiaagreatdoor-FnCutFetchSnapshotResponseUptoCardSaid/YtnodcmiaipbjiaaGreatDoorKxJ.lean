/- readFrom's lists. Conditions: the reader's contracts (RKOK), the plan's tests.
   readFrom's lists: the loop, the elements, the whole field. Conditions: the reader's contracts (RKOK), the plan's tests.
   Known tags are read: each of a reader of its own; what is not known is kept. Conditions: the reader's contracts (RKOK), the tests krB.
   A part's tagged field, found: its code, how it is read, where it lies. No condition but the plan's tests (wfRF).
   The tags of a part with a tagged field are read: the case of the tag 0 is a hypothesis; what is not known is kept. Conditions: the reader's contracts (RKOK).
   The case of the tag 0: its head makes a reader of the tag's octets. Conditions: the reader's contracts (RKOK).
   readFrom's fields in a row; lists of structs. Conditions: the reader's contracts (RKOK), the plan's tests (wfRF), the default's cells (ZF).
   Tags without known ones are read over whatever lies there. Conditions: the reader's contracts (RKOK). -/
import Derived.Test.YtnodcmiaipbjiaaGreatDoorKxI
namespace Go.Kx
open Go.RowKit
set_option linter.unusedSimpArgs false
set_option linter.unusedVariables false
section
variable {P : Program} {N : Nat} {Q : UE} {ρ : Nat → Value} {w w' : World} {ms : List MOp} {R : RN} {G : TG} {rb sb h b o n : Nat} {ev : Value} {st st' : Option (List UInt8)} {sf : Option Nat} {flex : Bool} {ver : Int}
theorem mv2_ok {a y t L : Nat} {v : Value} (ha : ρ a = v) (haL : a < L) (hy : y < L) (ht : L ≤ t) (hN : t < N) (hQ : ∀ ρ', (∀ s, s < L → s ≠ y → ρ' s = ρ s) → ρ' y = v → Q .normal ρ' w) : RW P N (.rg [.mv t (.t a), .mv y (.t t)]) Q ρ w :=
 RW.rg (RL.s (MR.mv ha (ltT (by omega))) (RL.s (MR.mv (Ja _ _ _) (ltT hN)) (RL.nil (hQ _ (fun s hs hy => by (repeat first | rw [Ja] | rw [Jb _ _ (by omega)])) (Ja _ _ _))) (by omega)) hN)
theorem mvc_ok {y L : Nat} {m : MVal} (hy : y < L) (hN : y < N) (hQ : ∀ ρ', (∀ s, s < L → s ≠ y → ρ' s = ρ s) → ρ' y = m.val → Q .normal ρ' w) : RW P N (.rg [.mv y (.c m)]) Q ρ w :=
 RW.rg (RL.s MR.mv (RL.nil (hQ _ (fun s hs hy => by (repeat first | rw [Ja] | rw [Jb _ _ (by omega)])) (Ja _ _ _))) hN)
theorem loadR_ok {T vs idx off ty x t L : Nat} {v : Value} (hF : Jd P T idx off = true) (hp : Jm P ty = true) (hv : ρ vs = .pointer (some ⟨b, o, none⟩)) (hc : w.cell? ⟨b, o + off, none⟩ = some v) (hvL : vs < L) (hx : x < L) (ht : L ≤ t) (hN : t + 4 ≤ N)
  (hQ : ∀ ρ', (∀ s, s < L → s ≠ x → ρ' s = ρ s) → ρ' x = v → Q .normal ρ' w) : RW P N (loadA T vs idx ty x t).1 Q ρ w :=
 RW.rg (RL.s (MR.mv hv (ltT (by omega))) (RL.s (MR.nc (Ja _ _ _) (by omega)) (RL.s (MR.fa (Ja _ _ _) hF (by omega)) (RL.s (MR.ld (Ja _ _ _) hp hc (by omega)) (RL.s (MR.mv (Ja _ _ _) (ltT (by omega))) (RL.nil (hQ _ (fun s hs hy => by (repeat first | rw [Ja] | rw [Jb _ _ (by omega)])) (Ja _ _ _))) (by omega)) (by omega)) (by omega)) (by omega)) (by omega))
theorem lenR_ok {x t L : Nat} (kk : RKOK P R G) (ha : R.alen ≠ 0) (hca : ∀ s, sf = some s → R.calen ≠ 0) (hx : x + 2 < L) (h9 : 8 < x) (hs : ∀ s, sf = some s → s < L) (ht : L ≤ t) (hN : (lenR R sf x t).2 ≤ N) (h : RdAt w rb sb st) (hne : sb ≠ rb) (hrs : R.rs < L) (r7 : ρ R.rs = .pointer (some ⟨rb, 0, none⟩))
  (rf : ∀ s, sf = some s → ρ s = .bool flex) (nf : sf = none → flex = false)
  (hQ : ∀ ρ' w' r st', (∀ s, s < L → s ≠ x + 2 → ρ' s = ρ s) → ρ' (x + 2) = .int .i32 r → I32 r → Fr (fun _ => False) rb 0 2 w w' → Got (dALen flex) st r st' → RdAt w' rb sb st' → Q .normal ρ' w') : RW P N (lenR R sf x t).1 Q ρ w := by
 have one : ∀ {f t : Nat} {ρ1 : Nat → Value}, (∀ s, s < L → ρ1 s = ρ s) → L ≤ t → (Q5 R.rs f (x + 2) t).2 ≤ N → RdC P f (dALen flex) (PlB (fun x => .int .i32 x) I32) → RW P N (Q5 R.rs f (x + 2) t).1 Q ρ1 w := fun {f t ρ1} h1 h2 h3 h4 => by
  have h3' : t + 1 ≤ N := h3
  refine RW.rg (RL.rd h4 (by show ρ1 R.rs = _; rw [h1 R.rs (by omega)]; exact r7) h hne (ltT (by omega)) (by omega) fun v r st' w' g1 g2 g3 g4 => RL.s (MR.mv (Ja _ _ _) (ltT (by omega))) (RL.nil ?_) (by omega))
  exact hQ _ w' r st' (fun s hs hsx => by rw [Jb _ _ hsx, Jb _ _ (by omega), h1 s hs]) (by rw [Ja]; exact g4.1) g4.2 g1 g2 g3
 refine RW.ifF (flex := flex) ht hN (fun _ => Qk) (fun _ => Qk) hs rf nf (fun e ρ2 t2 h1 h3 h4 => ?_) (fun e ρ2 t2 h1 h3 h4 => ?_)
 ·have hc : R.calen ≠ 0 := by
   cases hsf : sf with
   | none => have := nf hsf; rw [this] at e; cases e
   | some s => exact hca s hsf
  exact one h1 h3 h4 (by rw [e]; exact kk.cal hc)
 ·exact one h1 h3 h4 (by rw [e]; exact kk.al ha)
theorem zeroRow {z : Array Value} {ec : Nat} (hz : z.size = ec) (n m : Nat) : (Builtin.zeroCells z n ++ Builtin.zeroCells z m).size = n * ec + m * ec := by
 simp [Builtin.zeroCells, hz]
theorem zeroPart {z : Array Value} {ec n m j : Nat} (hz : z.size = ec) (hj : j < n) : (((Builtin.zeroCells z n ++ Builtin.zeroCells z m).toList.drop (j * ec)).take ec) = z.toList := by
 have h1 : (j + 1) * ec ≤ n * ec := Nat.mul_le_mul_right _ hj
 have h2 : (j + 1) * ec = j * ec + ec := Nat.succ_mul j ec
 apply List.ext_getElem?
 intro k
 rw [List.getElem?_take]
 by_cases hk : k < ec
 ·rw [if_pos hk, List.getElem?_drop, Array.getElem?_toList, Array.getElem?_append_left (by simp [Builtin.zeroCells, hz]; omega)]
  rw [Array.getElem?_toList]
  have hlt : j * ec + k < n * z.size := by rw [hz]; omega
  simp only [Builtin.zeroCells]
  rw [Array.getElem?_map, Array.getElem?_range]
  rw [if_pos hlt, Option.map_some]
  have hm : (j * ec + k) % z.size = k := by rw [hz, Nat.add_comm, Nat.add_mul_mod_self_right, Nat.mod_eq_of_lt hk]
  rw [hm, getElem!_pos z k (by omega), Array.getElem?_eq_getElem (by omega)]
 ·rw [if_neg hk, Array.getElem?_toList, Array.getElem?_eq_none (by omega)]
theorem run_append_zeros0 {av : Value} (w : World) (t tn ty e : TypeId) (i : TypeInfo) (z : Value) (k kn : IntKind) (ht : P.underlying t = some (.slice e)) (htn : P.underlying tn = some (.int kn)) (hi : P.info? e = some i) (hz : i.zero = some z)
  (n : Nat) (h0 : 0 < n) (hs : 0 < i.size) (h63 : (n : Int) ≤ 9223372036854775807) (h48 : n * i.bytes ≤ 281474976710656) (hav : av = .slice none 0 0 ∨ ∃ q, av = .slice (some q) 0 0) :
  (Builtin.append_ #[t, tn] ty #[av, .int k n]).run P w =
   .ok (.slice (some ⟨w.heap.size, 0, none⟩) n (grownCap w n 0 e)) (w.drew.alloc (.cells (Builtin.zeroCells z.cells n ++ Builtin.zeroCells z.cells (grownCap w n 0 e - n)) e)) := by
 rcases hav with rfl | ⟨q, rfl⟩
 ·exact Lib.run_append_nil_zeros w t tn ty e i z k kn ht htn hi hz n h0 hs h63 h48
 have hn : n ≠ 0 := by omega
 have hw : IntKind.i64.wrap (n : Int) = n := by simp [IntKind.wrap, IntKind.signed, IntKind.bits]; omega
 have h63' : ¬ (9223372036854775807 < (n : Int)) := by omega
 have h48' : ¬ (281474976710656 < Builtin.nextslicecap n 0 * i.bytes) := by rw [nextslicecap_zero h0]; omega
 have h48i : ¬ (281474976710656 < (n : Int) * (i.bytes : Int)) := by
  rw [← Int.natCast_mul]
  omega
 have hneg : ¬ ((n : Int) < 0) := by omega
 have hns : ¬ (n * i.size = 0) := Nat.mul_ne_zero hn (by omega)
 have hfc : ∀ w : World, (Builtin.firstCells i.size 0 (.slice (some q) 0 0)).run P w = .ok #[] w := fun w => by
  have := run_firstCells_some (P := P) (w := w) i.size 0 q 0 0 [] (by simp) (by simp)
  simpa using this
 simp [Builtin.append_, run_underlying ht, run_underlying htn, sizeOf, typeInfo, zeroValue, hi, hz, asInt, asIntOf, hw, hn, hneg, hns, h63', h48', h48i, Question.forced, hfc, newRow, grownCap]
def NulV (nul : Option Nat) (ver r : Int) (lo hi : Nat) (av : Value) : Prop := (av = .slice none 0 0 ∧ nulOf nul ver r = nul.isSome) ∨ (nulOf nul ver r = false ∧ ∃ q, av = .slice (some ⟨q, 0, none⟩) 0 0 ∧ lo ≤ q ∧ q < hi)
theorem NulV.av {nul : Option Nat} {r : Int} {lo hi : Nat} {av : Value} (h : NulV nul ver r lo hi av) : av = .slice none 0 0 ∨ ∃ q, av = .slice (some q) 0 0 := h.imp (·.1) fun ⟨_, q, h, _⟩ => ⟨_, h⟩
theorem make_ok {ty ety x u L ec : Nat} {zs : List Value} {r : Int} {rest : List Jc} (kk : RKOK P R G) (hok : R.okf ≠ 0) (hsl : Jk P ty ety = true) (hz : ZE P ety ec zs) (h32 : JC P R.T.i32 .i32 = true) (hx : x + 3 < L) (h9 : 8 < x) (ht : L ≤ u) (hN : u + 10 ≤ N) (h : RdAt w rb sb st) (hrs : R.rs < L) (r7 : ρ R.rs = .pointer (some ⟨rb, 0, none⟩)) (hev : w.cell? ⟨R.gErr, 0, none⟩ = some ev)
  {av : Value} (hav : av = .slice none 0 0 ∨ ∃ q, av = .slice (some q) 0 0) (ra : ρ (x + 1) = av) (rl : ρ (x + 2) = .int .i32 r) (hr : I32 r)
  (hE : stB st = true → ∀ ρ', ρ' 6 = ev → Q .ret ρ' w)
  (h0 : stB st = false → r ≤ 0 → ∀ ρ', (∀ s, s < L → s ≠ x + 1 → ρ' s = ρ s) → ρ' (x + 1) = av → RWL P N rest Q ρ' w)
  (h1 : stB st = false → 0 < r → ∀ ρ' w' c, (∀ s, s < L → s ≠ x + 1 → ρ' s = ρ s) → ρ' (x + 1) = .slice (some ⟨w.heap.size, 0, none⟩) r.toNat c → Below w.heap.size w w' → w'.heap.size = w.heap.size + 1 → (∃ cs : List Value, cs.length = r.toNat * ec ∧ w'.rangeAt w.heap.size 0 cs ∧ ∀ j, j < r.toNat → (cs.drop (j * ec)).take ec = zs) → w'.there w.heap.size 0 (r.toNat * ec) → RWL P N rest Q ρ' w') :
  RWL P N (makeR R ty x u ++ rest) Q ρ w := by
 unfold makeR
 simp only [List.cons_append, List.nil_append]
 refine RW.sq (RW.rg (RL.ca (R := fun v w' => v = .bool (!stB st) ∧ w = w') (kk.okf hok).1 ?_ ?_ (by omega) (by simp [MX.lt, Nat.blt_eq]; omega)))
 ·simp only [List.map_cons, List.map_nil, xof, r7]
  refine Calls.mono ((kk.okf hok).2 w rb sb st h) ?_
  rintro e w' ⟨rfl, rfl⟩
  exact ⟨_, rfl, rfl, rfl⟩
 rintro v w' ⟨rfl, rfl⟩
 refine RL.s (MR.nt (Ja _ _ _) (by omega)) (RL.nil ?_) (by omega)
 refine RW.cd (b := stB st) (by rw [Ja, Bool.not_not]) (fun e => ?_) (fun e => RW.sk ?_) (by omega)
 ·refine RW.sq (RW.rg (RL.ca (R := fun v w' => v = complV ev st ∧ w = w') kk.compl.1 ?_ ?_ (by omega) (by simp [MX.lt, Nat.blt_eq]; omega)))
  ·simp only [List.map_cons, List.map_nil, xof]
   rw [Jb _ _ (by omega), Jb _ _ (by omega), r7]
   refine Calls.mono (kk.compl.2 w rb sb st ev h hev) ?_
   rintro e w' ⟨rfl, rfl⟩
   exact ⟨_, rfl, rfl, rfl⟩
  rintro v w' ⟨rfl, rfl⟩
  refine RL.s (MR.mv (Ja _ _ _) (ltT (by omega))) (RL.nil (RW.rt (hE e _ ?_))) (by omega)
  rw [Ja]; unfold complV; rw [e]; rfl
 show RWL P N _ _ _ w
 refine RW.rg (RL.s (MR.mv (v := av) (by show upd _ _ _ (x + 1) = _; (repeat first | rw [Ja] | rw [Jb _ _ (by omega)]); exact ra) (ltT (by omega))) (RL.s (MR.sl (v := av) ?_ (by simp) (by simp [MX.lt]) (by simp) (by omega)) (RL.s (MR.mv (Ja _ _ _) (ltT (by omega))) (RL.nil ?_) (by omega)) (by omega)) (by omega))
 ·rw [Ja]
  obtain ⟨i, hi⟩ : ∃ i, P.info? ety = some i := by
   obtain ⟨i, z, hi, _⟩ := hz
   exact ⟨i, hi⟩
  rcases hav with rfl | ⟨q, rfl⟩ <;> simp [Instr.sliceAt, run_underlying (Jq hsl), Instr.slice, Instr.sliceBounds, Instr.sliceBound, asIntOf, sizeOf, typeInfo, hi, xof, MVal.val]
 show RWL P N _ _ _ w
 refine RW.sq (RW.rg (RL.s (MR.mv (v := .int .i32 r) (by show upd _ _ _ (x + 2) = _; (repeat first | rw [Ja] | rw [Jb _ _ (by omega)]); exact rl) (ltT (by omega))) (RL.s (MR.biE (v := .bool (decide (0 < r))) (by show evB .gtr (upd _ _ _ _) (.int .i32 0) = _; rw [Ja]; rfl) (ltT (by omega)) rfl) (RL.nil ?_) (by omega)) (by omega)))
 refine RW.cd (Ja _ _ _) (fun e2 => ?_) (fun e2 => RW.sk ?_) (by omega)
 ·have e2 := of_decide_eq_true e2
  obtain ⟨k, rfl⟩ : ∃ k : Nat, r = (k : Nat) := ⟨r.toNat, by omega⟩
  have hk : 0 < k := by omega
  have hk32 : k ≤ 2147483647 := by have := hr.2; omega
  obtain ⟨i, z, hi, hzv, hzc, hz1, hz2, hz3, hz0⟩ := hz
  have hzs : z.cells.size = ec := by rw [← Array.length_toList, hzc]; exact hz1
  have hap : ∀ ty', (Builtin.append_ #[ty, R.T.i32] ty' #[av, .int .i32 (k : Nat)]).run P w = _ := fun ty' =>
   run_append_zeros0 (P := P) w ty R.T.i32 ty' ety i z .i32 .i32 (Jq hsl) (QR h32) hi hzv k hk (by omega) (by omega) (by have : k * i.bytes ≤ 2147483647 * 65536 := Nat.mul_le_mul hk32 hz3; omega) hav
  refine RW.rg (RL.s (MR.mv (v := av) (by show upd _ _ _ (x + 1) = _; (repeat first | rw [Ja] | rw [Jb _ _ (by omega)])) (ltT (by omega))) (RL.s (MR.mv (v := .int .i32 (k : Nat)) (by show upd _ _ _ (x + 2) = _; (repeat first | rw [Ja] | rw [Jb _ _ (by omega)]); exact rl) (ltT (by omega)))
   (RL.s (MR.apBy (by rw [Jb _ _ (by omega), Ja, Ja]; exact hap 0) (fun ty' => by rw [Jb _ _ (by omega), Ja, Ja]; exact hap ty') (by omega) (by omega)) (RL.s (MR.mv (Ja _ _ _) (ltT (by omega))) (RL.nil ?_) (by omega)) (by omega)) (by omega)) (by omega))
  have b0 : Below w.heap.size w w.drew := ⟨rfl, rfl, rfl, Nat.le_refl _, fun _ _ => rfl⟩
  have e0 : w.drew.heap.size = w.heap.size := rfl
  have bd := b0.trans (Jn w.drew (.cells (Builtin.zeroCells z.cells k ++ Builtin.zeroCells z.cells (grownCap w k 0 ety - k)) ety))
  have hsz := zeroRow hzs k (grownCap w k 0 ety - k)
  have hth := Qm w.drew (Builtin.zeroCells z.cells k ++ Builtin.zeroCells z.cells (grownCap w k 0 ety - k)).toList ety
  rw [Array.length_toList, hsz, Array.toArray_toList, e0] at hth
  refine h1 ?_ (by omega) _ _ (grownCap w k 0 ety) (fun s hs hsx => by (repeat first | rw [Ja] | rw [Jb _ _ (by omega)])) (by rw [Ja, Int.toNat_natCast]) bd (J1 _ _) ⟨((Builtin.zeroCells z.cells k ++ Builtin.zeroCells z.cells (grownCap w k 0 ety - k)).toList).take (k * ec), ?_, ?_, ?_⟩ ?_
  ·cases hb : stB st <;> simp_all
  ·rw [List.length_take, Array.length_toList, hsz, Int.toNat_natCast]; omega
  ·intro j v hj
   rw [List.getElem?_take] at hj
   split at hj
   ·have := JA w.drew _ ety hj
    rwa [Array.toArray_toList] at this
   ·simp at hj
  ·intro j hj
   rw [Int.toNat_natCast] at hj
   have h1 : (j + 1) * ec ≤ k * ec := Nat.mul_le_mul_right _ hj
   have h2 : (j + 1) * ec = j * ec + ec := Nat.succ_mul j ec
   rw [List.drop_take, List.take_take, Nat.min_eq_left (by omega), ← hzc]
   exact zeroPart hzs hj
  ·rw [Int.toNat_natCast]
   have := JG (k := 0) (m := k * ec) hth (by omega)
   exact this
 ·have e2 := of_decide_eq_false e2
  refine h0 ?_ (by omega) _ (fun s hs hsx => by (repeat first | rw [Ja] | rw [Jb _ _ (by omega)])) (by (repeat first | rw [Ja] | rw [Jb _ _ (by omega)]))
  cases hb : stB st <;> simp_all
end
set_option linter.unusedVariables false
def Q9 (k : Nat) (vs cs : List Value) : List Value := cs.take k ++ vs ++ cs.drop (k + vs.length)
theorem splice_len {k : Nat} {vs cs : List Value} (h : k + vs.length ≤ cs.length) : (Q9 k vs cs).length = cs.length := by
 simp only [Q9, UD, List.length_take, List.length_drop]; omega
theorem QZ {k : Nat} {vs cs : List Value} (h : k + vs.length ≤ cs.length) : (Q9 k vs cs).take k = cs.take k := by
 unfold Q9
 rw [List.append_assoc, List.take_append_of_le_length (by rw [List.length_take]; omega), List.take_take, Nat.min_self]
theorem splice_mid {k : Nat} {vs cs : List Value} (h : k + vs.length ≤ cs.length) : ((Q9 k vs cs).drop k).take vs.length = vs := by
 unfold Q9
 have e : (cs.take k).length = k := by rw [List.length_take]; omega
 rw [List.append_assoc, List.drop_append_of_le_length (by omega), List.drop_eq_nil_of_le (by omega), List.nil_append, List.take_append_of_le_length (Nat.le_refl _), List.take_length]
theorem splice_drop {k : Nat} {vs cs : List Value} (h : k + vs.length ≤ cs.length) : (Q9 k vs cs).drop (k + vs.length) = cs.drop (k + vs.length) := by
 unfold Q9
 have e : (cs.take k ++ vs).length = k + vs.length := by rw [UD, List.length_take]; omega
 rw [List.drop_append_of_le_length (by omega), List.drop_eq_nil_of_le (by omega), List.nil_append]
theorem part_of_take {k a m : Nat} {l l' : List Value} (h : l.take k = l'.take k) (ha : a + m ≤ k) : (l.drop a).take m = (l'.drop a).take m := by
 have e : ∀ l : List Value, (l.drop a).take m = ((l.take k).drop a).take m := fun l => by rw [List.drop_take, List.take_take, Nat.min_eq_left (by omega)]
 rw [e l, e l', h]
theorem part_of_drop {k a m : Nat} {l l' : List Value} (h : l.drop k = l'.drop k) (ha : k ≤ a) : (l.drop a).take m = (l'.drop a).take m := by
 have e : ∀ l : List Value, l.drop a = (l.drop k).drop (a - k) := fun l => by rw [List.drop_drop]; congr 1; omega
 rw [e l, e l', h]
section
variable {P : Program} {N : Nat} {Q : UE} {ρ : Nat → Value} {w w' : World} {ms : List MOp} {R : RN} {G : TG} {rb sb h b o n : Nat} {ev : Value} {st st' : Option (List UInt8)} {sf : Option Nat} {flex : Bool} {ver : Int}
theorem range_splice {X : Nat → Prop} {k : Nat} {cs vs : List Value} (hr : w.rangeAt b o cs) (hf : Fr X b (o + k) vs.length w w') (hv : w'.rangeAt b (o + k) vs) (hk : k + vs.length ≤ cs.length) : w'.rangeAt b o (Q9 k vs cs) := by
 intro j v hj
 unfold Q9 at hj
 have e1 : (cs.take k).length = k := by rw [List.length_take]; omega
 by_cases h1 : j < k
 ·rw [List.append_assoc, List.getElem?_append_left (by omega), List.getElem?_take, if_pos h1] at hj
  rw [hf.cell (o + j) (.inl (by omega))]
  exact hr j v hj
 ·by_cases h2 : j < k + vs.length
  ·rw [List.append_assoc, List.getElem?_append_right (by omega), List.getElem?_append_left (by omega), e1] at hj
   have := hv (j - k) v hj
   rwa [show o + k + (j - k) = o + j from by omega] at this
  ·rw [List.getElem?_append_right (by rw [UD]; omega), List.getElem?_drop, UD, e1] at hj
   rw [hf.cell (o + j) (.inr (by omega))]
   exact hr j v (by rw [← hj]; congr 1; omega)
theorem Got.rep {α : Type} {de : Dec α} {k : Nat} {x : α} {xs : List α} {s1 s2 s3 : Option (List UInt8)} (h1 : Got de s1 x s2) (h2 : Got (Kx.rep de k) s2 xs s3) : Got (Kx.rep de (k + 1)) s1 (x :: xs) s3 :=
 Got.bind (k := fun d => (Kx.rep de k).map fun ds => d :: ds) h1 (h2.map (f := fun ds => x :: ds))
theorem range_part {k m : Nat} {cs : List Value} (h : w.rangeAt b o cs) : w.rangeAt b (o + k) ((cs.drop k).take m) := by
 intro j v hj
 rw [List.getElem?_take] at hj
 split at hj
 ·rw [List.getElem?_drop] at hj
  have := h (k + j) v hj
  rwa [← Nat.add_assoc] at this
 ·simp at hj
theorem Got.any {α : Type} {d : Dec α} {x y : α} (h : Got d st x none) : Got d st y none := h
theorem loop_ok {x u bk L ab l ec cap : Nat} {body : Jc} {el : Ty} {de : Dec D} {cs zs : List Value} (hh : FH P R rb sb ab ab 0 (l * ec) ev st w) (hl : l ≤ 2147483647) (hx : x + 4 < L) (hL : L ≤ u) (hN : u + 15 ≤ N)
  (ra : ρ (x + 1) = .slice (some ⟨ab, 0, none⟩) l cap) (rl : ρ (x + 2) = .int .i32 (l : Nat)) (hc : w.rangeAt ab 0 cs) (hcl : cs.length = l * ec) (hcz : ∀ j, j < l → (cs.drop (j * ec)).take ec = zs)
  (hB : ∀ (i : Nat) (ρ1 : Nat → Value) (w1 : World) (st1 : Option (List UInt8)) (Q1 : UE), i < l → (∀ s, s < x + 3 → ρ1 s = ρ s) → ρ1 (x + 3) = .int .i32 (i : Nat) → FH P R rb sb ab ab 0 (l * ec) ev st1 w1 → Fr (· = rb) ab 0 (l * ec) w w1 → w1.rangeAt ab (i * ec) zs →
   (∀ ρ2 w2 d st2 vs, (∀ s, s < x + 4 → ρ2 s = ρ1 s) → Fr (· = rb) ab (i * ec) ec w1 w2 → Got de st1 d st2 → RdAt w2 rb sb st2 → w2.rangeAt ab (i * ec) vs → vs.length = ec → Rep w2 (FB sb ab w2) el vs d → Q1 .normal ρ2 w2) →
   (∀ ρ2 w2, ρ2 6 = ev → Fr (· = rb) ab (i * ec) ec w1 w2 → (∀ d, Got de st1 d none) → Q1 .ret ρ2 w2) → RW P N body Q1 ρ1 w1)
  (hQ : ∀ ρ' w' xs st' cs', (∀ s, s < x + 3 → ρ' s = ρ s) → Fr (· = rb) ab 0 (l * ec) w w' → xs.length = l → Got (rep de l) st xs st' → RdAt w' rb sb st' → w'.rangeAt ab 0 cs' → cs'.length = l * ec → (∀ i d, xs[i]? = some d → Rep w' (FB sb ab w') el ((cs'.drop (i * ec)).take ec) d) → Q .normal ρ' w')
  (hE : ∀ ρ' w', ρ' 6 = ev → Fr (· = rb) ab 0 (l * ec) w w' → (∀ xs, Got (rep de l) st xs none) → Q .ret ρ' w') :
  RW P N (loopR R x u bk body) Q ρ w := by
 unfold loopR
 refine RW.sq (RW.rg (RL.s MR.mv (RL.nil (RW.bl ?_)) (by omega)))
 refine RW.lp (fun ρ' w' => ∃ (i : Nat) (sti : Option (List UInt8)) (xs : List D) (csi : List Value), i ≤ l ∧ xs.length = i ∧ (∀ s, s < x + 3 → ρ' s = ρ s) ∧ ρ' (x + 3) = .int .i32 (i : Nat) ∧ FH P R rb sb ab ab 0 (l * ec) ev sti w' ∧ Fr (· = rb) ab 0 (l * ec) w w' ∧ w'.rangeAt ab 0 csi ∧ csi.length = l * ec ∧
   (∀ ys st', Got (rep de (l - i)) sti ys st' → Got (rep de l) st (xs ++ ys) st') ∧ (∀ j d, xs[j]? = some d → Rep w' (FB sb ab w') el ((csi.drop (j * ec)).take ec) d) ∧ (∀ j, i ≤ j → j < l → (csi.drop (j * ec)).take ec = zs))
  (fun ρ' _ => l - (intOf (ρ' (x + 3))).toNat) ⟨0, st, [], cs, Nat.zero_le _, rfl, fun s hs => by (repeat first | rw [Ja] | rw [Jb _ _ (by omega)]), Ja _ _ _, hh, Fr.refl _ _ _ _ _, hc, hcl, fun ys st' hg => hg, fun j d hj => by simp at hj, fun j _ hj => hcz j hj⟩ ?_ (fun ρ1 ρ2 w1 h => by rw [h (x + 3) (by omega)])
 rintro ρ1 w1 ⟨i, sti, xs, csi, hi, hxl, q, q3, hh1, hF1, hc1, hcl1, hG1, hR1, hZ1⟩
 refine RW.sq (RW.sq (RW.rg (RL.s (MR.mv q3 (ltT (by omega))) (RL.s (MR.mv (v := .int .i32 (l : Nat)) (by show upd _ _ _ (x + 2) = _; (repeat first | rw [Ja] | rw [Jb _ _ (by omega)]); rw [q _ (by omega)]; exact rl) (ltT (by omega))) (RL.s (MR.biE (v := .bool (decide ((i : Int) < (l : Nat)))) (by show evB .lss (upd _ _ _ (u + 10)) (upd _ _ _ (u + 11)) = _; (repeat first | rw [Ja] | rw [Jb _ _ (by omega)]); rfl) (ltT (by omega)) (ltT (by omega))) (RL.nil ?_) (by omega)) (by omega)) (by omega))))
 refine RW.cd (Ja _ _ _) (fun e => RW.sk ?_) (fun e => RW.ex ?_) (by omega)
 ·have e : i < l := by have := of_decide_eq_true e; omega
  have hmul : (i + 1) * ec ≤ l * ec := Nat.mul_le_mul_right _ e
  have hmul' : (i + 1) * ec = i * ec + ec := Nat.succ_mul i ec
  show RW P N _ _ _ w1
  refine RW.sq (RW.bl ?_)
  refine hB i _ w1 sti _ e (fun s hs => by (repeat first | rw [Ja] | rw [Jb _ _ (by omega)]); exact q s hs) (by (repeat first | rw [Ja] | rw [Jb _ _ (by omega)]); exact q3) hh1 hF1 ?_ ?_ ?_
  ·have := range_part (k := i * ec) (m := ec) hc1
   rw [Nat.zero_add, hZ1 i (Nat.le_refl _) e] at this
   exact this
  ·intro ρ2 w2 d st2 vs k1 k2 k3 k4 k5 k6 k7
   have hk : i * ec + vs.length ≤ csi.length := by rw [hcl1, k6]; omega
   have k2' : Fr (· = rb) ab (0 + i * ec) vs.length w1 w2 := by rw [Nat.zero_add, k6]; exact k2
   have F2 : Fr (· = rb) ab 0 (l * ec) w w2 := hF1.trans (k2.wide (fun _ h => h) (Nat.zero_le _) (by omega))
   have q3' : ρ2 (x + 3) = .int .i32 (i : Nat) := by rw [k1 _ (by omega)]; (repeat first | rw [Ja] | rw [Jb _ _ (by omega)]); exact q3
   show RW P N _ _ ρ2 w2
   have hwr : IntKind.i32.wrap ((i : Int) + 1) = ((i + 1 : Nat) : Int) := by simp [IntKind.wrap, IntKind.signed, IntKind.bits]; omega
   refine RW.rg (RL.s (MR.mv q3' (ltT (by omega))) (RL.s (MR.biE (v := .int .i32 ((i + 1 : Nat) : Int)) (by show evB .add (upd _ _ _ _) (.int .i32 1) = _; rw [Ja]; show some (Value.int .i32 (IntKind.i32.wrap ((i : Int) + 1))) = _; rw [hwr]) (ltT (by omega)) rfl) (RL.s (MR.mv (Ja _ _ _) (ltT (by omega))) (RL.nil ?_) (by omega)) (by omega)) (by omega))
   refine ⟨⟨i + 1, st2, xs ++ [d], Q9 (i * ec) vs csi, by omega, by simp [hxl], fun s hs => by (repeat first | rw [Ja] | rw [Jb _ _ (by omega)]); rw [k1 s (by omega)]; (repeat first | rw [Ja] | rw [Jb _ _ (by omega)]); exact q s hs, Ja _ _ _, hh1.keep k2 k4, F2, ?_, ?_, ?_, ?_, ?_⟩, ?_⟩
   ·exact range_splice hc1 k2' (by rw [Nat.zero_add]; exact k5) hk
   ·rw [splice_len hk]; exact hcl1
   ·intro ys st' hg
    rw [List.append_assoc]
    refine hG1 _ _ ?_
    have : l - i = (l - (i + 1)) + 1 := by omega
    rw [this]
    exact k3.rep hg
   ·intro j d' hj
    rw [List.getElem?_append] at hj
    split at hj
    ·rename_i hjl
     have hjl' : (j + 1) * ec ≤ i * ec := Nat.mul_le_mul_right _ (by omega)
     have hjl2 : (j + 1) * ec = j * ec + ec := Nat.succ_mul j ec
     rw [part_of_take (QZ hk) (by omega)]
     exact hh1.rep k2 (hR1 j d' hj)
    ·rename_i hjl
     have hj0 : j = i := by
      have := (List.getElem?_eq_some_iff.1 hj).1
      simp at this; omega
     subst hj0
     rw [hxl, Nat.sub_self] at hj
     simp only [List.getElem?_cons_zero, UC] at hj
     subst hj
     have e2 := splice_mid hk
     rw [k6] at e2
     rw [e2]; exact k7
   ·intro j hj1 hj2
    have hj3 : (i + 1) * ec ≤ j * ec := Nat.mul_le_mul_right _ hj1
    rw [part_of_drop (splice_drop hk) (by rw [k6]; omega)]
    exact hZ1 j (by omega) hj2
   ·show l - (intOf (upd _ _ _ (x + 3))).toNat < l - (intOf (ρ1 (x + 3))).toNat
    rw [Ja, q3]; simp only [intOf]; omega
  ·intro ρ2 w2 k1 k2 k3
   have F2 : Fr (· = rb) ab 0 (l * ec) w w2 := hF1.trans (k2.wide (fun _ h => h) (Nat.zero_le _) (by omega))
   refine hE ρ2 w2 k1 F2 (fun ys => Got.any (hG1 [] none ?_))
   have : l - i = (l - (i + 1)) + 1 := by omega
   rw [this]
   exact Got.bind (k := fun d => (Kx.rep de (l - (i + 1))).map fun ds => d :: ds) (k3 (.n 0)) (by exact rfl)
 ·have e : i = l := by have := of_decide_eq_false e; omega
  subst e
  show (if bk = bk then Q .normal _ w1 else _)
  rw [if_pos rfl]
  refine hQ _ w1 xs sti csi (fun s hs => by (repeat first | rw [Ja] | rw [Jb _ _ (by omega)]); exact q s hs) hF1 hxl ?_ hh1.rd hc1 hcl1 hR1
  have := hG1 [] sti (by rw [Nat.sub_self]; exact Got.pure _)
  rwa [List.append_nil] at this
theorem loop0_ok {x u bk L : Nat} {r : Int} {body : Jc} (hr : r ≤ 0) (hx : x + 4 < L) (hL : L ≤ u) (hN : u + 15 ≤ N) (rl : ρ (x + 2) = .int .i32 r) (hQ : ∀ ρ', (∀ s, s < x + 3 → ρ' s = ρ s) → Q .normal ρ' w) : RW P N (loopR R x u bk body) Q ρ w := by
 unfold loopR
 refine RW.sq (RW.rg (RL.s MR.mv (RL.nil (RW.bl ?_)) (by omega)))
 refine RW.lp (fun ρ' w' => w' = w ∧ (∀ s, s < x + 3 → ρ' s = ρ s) ∧ ρ' (x + 3) = .int .i32 0) (fun _ _ => 0) ⟨rfl, fun s hs => by (repeat first | rw [Ja] | rw [Jb _ _ (by omega)]), Ja _ _ _⟩ ?_
 rintro ρ1 w1 ⟨rfl, q, q3⟩
 refine RW.sq (RW.sq (RW.rg (RL.s (MR.mv q3 (ltT (by omega))) (RL.s (MR.mv (v := .int .i32 r) (by show upd _ _ _ (x + 2) = _; (repeat first | rw [Ja] | rw [Jb _ _ (by omega)]); rw [q _ (by omega)]; exact rl) (ltT (by omega))) (RL.s (MR.biE (v := .bool (decide ((0 : Int) < r))) (by show evB .lss (upd _ _ _ (u + 10)) (upd _ _ _ (u + 11)) = _; (repeat first | rw [Ja] | rw [Jb _ _ (by omega)]); rfl) (ltT (by omega)) (ltT (by omega))) (RL.nil ?_) (by omega)) (by omega)) (by omega))))
 refine RW.cd (Ja _ _ _) (fun e => absurd (of_decide_eq_true e) (by omega)) (fun e => RW.ex ?_) (by omega)
 show (if bk = bk then Q .normal _ _ else _)
 rw [if_pos rfl]
 exact hQ _ (fun s hs => by (repeat first | rw [Ja] | rw [Jb _ _ (by omega)]); exact q s hs)
theorem Fr.drop {X X' : Nat → Prop} (h : Fr X b o n w w') (hX : ∀ k, X k → X' k ∨ w.heap.size ≤ k) : Fr X' b o n w w' :=
 ⟨h.os, h.tape, h.output, h.size, fun k h1 h2 h3 => h.block k h1 h2 (fun x => (hX k x).elim h3 (fun e => by omega)), h.cell, h.there⟩
theorem elemR_ok {ty ety x t L ab l cap i : Nat} {k : PK} (kk : RKOK P R G) (hk : rdOk R sf k = true) (hsl : Jk P ty ety = true) (hc : Jh P ety k.cells = true) (hh : FH P R rb sb ab ab 0 (l * k.cells) ev st w) (hrs : R.rs < x) (r7 : ρ R.rs = .pointer (some ⟨rb, 0, none⟩)) (r2 : ρ 2 = .bool false) (rf : ∀ s, sf = some s → ρ s = .bool flex) (nf : sf = none → flex = false)
  (h9 : 8 < x) (hs : ∀ s, sf = some s → s < x) (hx : x + 4 < L) (hL : L ≤ t) (hN : (elemR R sf k ty ety x t).2 ≤ N) (ra : ρ (x + 1) = .slice (some ⟨ab, 0, none⟩) l cap) (ri : ρ (x + 3) = .int .i32 (i : Nat)) (hi : i < l)
  (hQ : ∀ ρ2 w2 d st2 us, (∀ s, s < x + 4 → ρ2 s = ρ s) → Fr (· = rb) ab (i * k.cells) k.cells w w2 → Got (dP k flex) st d st2 → RdAt w2 rb sb st2 → w2.rangeAt ab (i * k.cells) us → us.length = k.cells → RepP w2 (FB sb ab w2) k us d → Q .normal ρ2 w2) : RW P N (elemR R sf k ty ety x t).1 Q ρ w := by
 simp only [elemR] at hN ⊢
 have hle := @rdA_le R sf k (x + 4) t
 have hmul : (i + 1) * k.cells ≤ l * k.cells := Nat.mul_le_mul_right _ hi
 have hmul' : (i + 1) * k.cells = i * k.cells + k.cells := Nat.succ_mul i k.cells
 refine RWL.rows ?_
 have core : ∀ ρ1, (∀ s, s < x + 4 → ρ1 s = ρ s) → RWL P N [(rdA R sf k (x + 4) t).1, .rg [.mv (rdA R sf k (x + 4) t).2 (.t (x + 1)), .mv ((rdA R sf k (x + 4) t).2 + 1) (.t (x + 3)), .mv ((rdA R sf k (x + 4) t).2 + 2) (.t (x + 4)), .ia ((rdA R sf k (x + 4) t).2 + 3) ty (rdA R sf k (x + 4) t).2 ((rdA R sf k (x + 4) t).2 + 1), .st ety ((rdA R sf k (x + 4) t).2 + 3) ((rdA R sf k (x + 4) t).2 + 2)]] Q ρ1 w := by
  intro ρ1 h1
  refine rdA_ok (L := L) kk hk hx (by omega) (fun s e => by have := hs s e; omega) hL (by omega) hh.rd hh.ne (by omega) (by rw [h1 R.rs (by omega)]; exact r7) (by rw [h1 2 (by omega)]; exact r2) (fun s e => by rw [h1 s (by have := hs s e; omega)]; exact rf s e) nf ?_
  intro ρ2 w2 v d st2 g1 g2 g3 g4 g5 g6
  obtain ⟨_, g6a, g6b, g6c⟩ := g6
  have hln : v.cells.toList.length = k.cells := by rw [Array.length_toList]; exact g6a
  have F1 : Fr (· = rb) ab (i * k.cells) k.cells w w2 := g3.rd hh.rbb hh.hw
  have ht2 : w2.there ab (i * k.cells) k.cells := by
   have := JG (k := i * k.cells) (m := k.cells) (F1.there _ _ hh.th) (by omega)
   rwa [Nat.zero_add] at this
  have ea : ρ2 (x + 1) = .slice (some ⟨ab, 0, none⟩) l cap := by rw [g1 _ (by omega) (by omega), h1 _ (by omega)]; exact ra
  have ei : ρ2 (x + 3) = .int .i32 (i : Nat) := by rw [g1 _ (by omega) (by omega), h1 _ (by omega)]; exact ri
  generalize (rdA R sf k (x + 4) t).2 = u at hN hle ⊢
  refine RW.rg (RL.s (MR.mv ea (ltT (by omega))) (RL.s (MR.mv (v := .int .i32 (i : Nat)) (by show upd _ _ _ (x + 3) = _; (repeat first | rw [Ja] | rw [Jb _ _ (by omega)]); exact ei) (ltT (by omega))) (RL.s (MR.mv (v := v) (by show upd _ _ _ (x + 4) = _; (repeat first | rw [Ja] | rw [Jb _ _ (by omega)]); exact g2) (ltT (by omega)))
   (RL.s (MR.ia (k := .i32) (b := ab) (o := 0) (len := l) (cap := cap) (j := i) (sz := k.cells) hsl hc (by (repeat first | rw [Ja] | rw [Jb _ _ (by omega)])) (by (repeat first | rw [Ja] | rw [Jb _ _ (by omega)])) hi (by omega) (by omega)) ?_ (by omega)) (by omega)) (by omega)) (by omega))
  rw [Nat.zero_add]
  have e1 : ∀ (z : Value), (upd (upd (upd (upd ρ2 u (.slice (some ⟨ab, 0, none⟩) l cap)) (u + 1) (.int .i32 (i : Nat))) (u + 2) v) (u + 3) z) (u + 2) = v := fun z => by (repeat first | rw [Ja] | rw [Jb _ _ (by omega)])
  refine RL.st (b := ab) (o := i * k.cells) (Ja _ _ _) (by rw [e1, g6a]; exact hc) (by rw [e1, g6a]; exact ht2) (by rw [e1]; exact (by rw [← Array.all_toList]; exact g6b)) ?_ (by omega) (by omega)
  rw [e1]
  refine RL.nil ?_
  have F2 : Fr (· = rb) ab (i * k.cells) k.cells w2 (w2.setCells ab (i * k.cells) v.cells.toList) := Fr.put _ (by omega) (by rw [hln]; omega)
  refine hQ _ _ d st2 v.cells.toList (fun s hs => by (repeat first | rw [Ja] | rw [Jb _ _ (by omega)]); rw [g1 s (by omega) (by omega), h1 s hs]) (F1.trans F2) g4 ?_ (World.rangeAt_setCells_same _ _ _ _ (by rw [hln]; exact ht2)) hln ?_
  ·exact g5.keep (Jp ab _ _ _ rb (fun e => hh.rbb e.symm)) (Jp ab _ _ _ sb hh.nb)
  ·have hsz : w2.heap.size ≤ (w2.setCells ab (i * k.cells) v.cells.toList).heap.size := F2.size
   have hw := hh.hw
   refine RepP.mono g6c.bound (fun k hk => ?_) (fun k hk => Jp ab _ _ _ k ?_)
   ·rcases hk with ⟨hk | hk, hk'⟩
    ·exact .inl hk
    ·exact .inr ⟨Nat.lt_of_lt_of_le hw hk, Nat.lt_of_lt_of_le hk' hsz⟩
   ·rcases hk with ⟨rfl | hk, _⟩
    ·exact hh.nb
    ·exact fun e => by omega
 cases h2 : k.two
 ·simp only [UB, if_false, List.nil_append]
  exact core ρ fun _ _ => rfl
 ·simp only [if_true, List.cons_append, List.nil_append]
  exact RW.rg (RL.s MR.mv (RL.nil (core _ fun s hs => by rw [Jb _ _ (by omega)])) (by omega))
theorem lenR_le {x t : Nat} : t ≤ (lenR R sf x t).2 := ifFlex_le2 (fun _ => Qk) (fun _ => Qk)
structure RC0 (rs : Nat) (sf : Option Nat) (flex : Bool) (ver : Int) (rb : Nat) (ρ : Nat → Value) : Prop where
 r7 : ρ rs = .pointer (some ⟨rb, 0, none⟩)
 r2 : ρ 2 = .bool false
 r8 : ρ 8 = .int .i16 ver
 rf : ∀ s, sf = some s → ρ s = .bool flex
 nf : sf = none → flex = false
theorem RC0.keep {rs x : Nat} {ρ' : Nat → Value} (h : RC0 rs sf flex ver rb ρ) (hk : ∀ s, s < x → ρ' s = ρ s) (hx : 9 ≤ x) (hs : ∀ s, sf = some s → s < x) (hr : rs < x) : RC0 rs sf flex ver rb ρ' :=
 ⟨by rw [hk rs hr]; exact h.r7, by rw [hk 2 (by omega)]; exact h.r2, by rw [hk 8 (by omega)]; exact h.r8, fun s e => by rw [hk s (hs s e)]; exact h.rf s e, h.nf⟩
theorem RCx.zero {rs vs b o : Nat} (h : RCx rs sf flex ver rb vs b o ρ) : RC0 rs sf flex ver rb ρ := ⟨h.r7, h.r2, h.r8, h.rf, h.nf⟩
structure ElC (P : Program) (R : RN) (N : Nat) (rb sb : Nat) (ev : Value) (sf : Option Nat) (flex : Bool) (ver : Int) (el : Ty) (x L : Nat) (zs : List Value) (body : Nat → Jc × Nat × Nat × Nat) : Prop where
 go : ∀ {t' ab l c i : Nat} {ρ ρ1 : Nat → Value} {w1 : World} {st1 : Option (List UInt8)} {Q1 : UE}, L ≤ t' → (body t').2.1 ≤ N → FH P R rb sb ab ab 0 (l * el.cells) ev st1 w1 → RC0 R.rs sf flex ver rb ρ → R.rs < x → (∀ s, s < x → ρ1 s = ρ s) →
  ρ1 (x + 1) = .slice (some ⟨ab, 0, none⟩) l c → ρ1 (x + 3) = .int .i32 (i : Nat) → i < l → w1.rangeAt ab (i * el.cells) zs →
  (∀ ρ2 w2 d st2 vs, (∀ s, s < x + 4 → ρ2 s = ρ1 s) → Fr (· = rb) ab (i * el.cells) el.cells w1 w2 → Got (dec ver flex el) st1 d st2 → RdAt w2 rb sb st2 → w2.rangeAt ab (i * el.cells) vs → vs.length = el.cells → Rep w2 (FB sb ab w2) el vs d → Q1 .normal ρ2 w2) →
  (∀ ρ2 w2, ρ2 6 = ev → Fr (· = rb) ab (i * el.cells) el.cells w1 w2 → (∀ d, Got (dec ver flex el) st1 d none) → Q1 .ret ρ2 w2) → RW P N (body t').1 Q1 ρ1 w1
theorem arrRL_ok {T vs idx off ty ety x t bk L : Nat} {el : Ty} {zs : List Value} {nul : Option Nat} {body : Nat → Jc × Nat × Nat × Nat} (kk : RKOK P R G) (hnul : nul = none) (hwf : arrB P R sf ty ety el.cells = true) (hz : ZE P ety el.cells zs) (hF : Jd P T idx off = true) (hh : FH P R rb sb h b o n ev st w) (cx : RC0 R.rs sf flex ver rb ρ) (hv : ρ vs = .pointer (some ⟨b, o, none⟩)) (hrx : R.rs < x)
  (hx9 : 9 ≤ x) (hs : ∀ s, sf = some s → s < x) (hvx : vs < x) (hxL : x + 4 < L) (hL : L ≤ t) (hb : ∀ t, t ≤ (body t).2.1) (hN : (arrRL R sf nul T vs idx ty t x bk body).2.1 ≤ N) (hoff : off + 1 ≤ n) (h0 : w.cell? ⟨b, o + off, none⟩ = some (.slice none 0 0))
  (hel : ElC P R N rb sb ev sf flex ver el x L zs body)
  (hQ : ∀ ρ' w' d st' v, (∀ s, s < x → ρ' s = ρ s) → Fr (· = rb) b (o + off) 1 w w' → Got (dec ver flex (.arr nul ty ety el)) st d st' → RdAt w' rb sb st' → w'.rangeAt b (o + off) [v] → Rep w' (FB sb h w') (.arr nul ty ety el) [v] d → Q .normal ρ' w')
  (hE : ∀ ρ' w', ρ' 6 = ev → Fr (· = rb) b (o + off) 1 w w' → (∀ d, Got (dec ver flex (.arr nul ty ety el)) st d none) → Q .ret ρ' w') : RWL P N (arrRL R sf nul T vs idx ty t x bk body).1 Q ρ w := by
 simp only [arrB, UA] at hwf
 obtain ⟨⟨⟨⟨⟨⟨⟨⟨f2, f3⟩, f4⟩, f5⟩, f6⟩, f7⟩, f10⟩, f8⟩, f9⟩ := hwf
 simp only [arrRL] at hN ⊢
 have hbw : b < w.heap.size := Nat.lt_of_le_of_lt hh.hb hh.hw
 have hle1 : t + 5 ≤ (lenR R sf x (t + 5)).2 := lenR_le
 have hle2 := hb ((lenR R sf x (t + 5)).2 + nulT nul + 15)
 generalize hbody : body ((lenR R sf x (t + 5)).2 + nulT nul + 15) = bd at hN hle2 ⊢
 simp only [List.cons_append, List.nil_append]
 refine loadR_ok (L := L) hF f3 hv h0 (by omega) (by omega) hL (by omega) fun ρ1 a1 a2 => ?_
 refine mv2_ok (L := L) a2 (by omega) (by omega) (by omega) (by omega) fun ρ2 b1 b2 => ?_
 refine mvc_ok (L := L) (by omega) (by omega) fun ρ3 c1 c2 => ?_
 have q3 : ∀ s, s < x → ρ3 s = ρ s := fun s hs => by rw [c1 s (by omega) (by omega), b1 s (by omega) (by omega), a1 s (by omega) (by omega)]
 have cx3 := cx.keep q3 hx9 hs hrx
 refine lenR_ok (L := L) kk (ne0 f7) (fun s e => by rw [e] at f8; exact ne0 f8) (by omega) (by omega) (fun s e => by have := hs s e; omega) (by omega) (by omega) hh.rd hh.ne (by omega) cx3.r7 cx3.rf cx3.nf ?_
 intro ρ40 w40 r st4 d1 d20 d3 d4 d5 d60
 have F40 : Fr (· = rb) b (o + off) 1 w w40 := d4.rd hh.rbb hbw
 have q40 : ∀ s, s < x → ρ40 s = ρ s := fun s hs => by rw [d1 s (by omega) (by omega), q3 s hs]
 have cx40 := cx.keep q40 hx9 hs hrx
 have hrb40 := d60.lt
 have hsz40 := F40.size
 show RWL P N _ Q ρ40 w40
 subst hnul
 refine (?_ : ∀ (ρ' : Nat → Value) (w' : World) (av : Value), (∀ s, s < L → s ≠ x + 1 → ρ' s = ρ40 s) → ρ' (x + 1) = av → Below w40.heap.size w40 w' → NulV none ver r w40.heap.size w'.heap.size av → RWL P N _ Q ρ' w') ρ40 w40 (.slice none 0 0) (fun _ _ _ => rfl) (by rw [d1 _ (by omega) (by omega), c1 _ (by omega) (by omega), b2]) (Below.refl _ _) (.inl ⟨rfl, rfl⟩)
 intro ρ4 w4 av n1 ra4 n3 n4
 show RWL P N (makeR R ty x _ ++ _) Q ρ4 w4
 have F4 : Fr (· = rb) b (o + off) 1 w w4 := F40.trans (Fr.ofBelow n3 (by omega))
 have d6 : RdAt w4 rb sb st4 := d60.below n3
 have hh4 := hh.keep F4 d6
 have q4 : ∀ s, s < x → ρ4 s = ρ s := fun s hs => by rw [n1 s (by omega) (by omega), q40 s hs]
 have cx4 := cx.keep q4 hx9 hs hrx
 have d2 : ρ4 (x + 2) = .int .i32 r := by rw [n1 _ (by omega) (by omega)]; exact d20
 have fin : ∀ (ρ6 : Nat → Value) (w6 : World) (v : Value) (d : D) (st6 : Option (List UInt8)), (∀ s, s < x → ρ6 s = ρ s) → ρ6 (x + 1) = v → v.oneCell' = true → Fr (· = rb) b (o + off) 1 w w6 → FH P R rb sb h b o n ev st6 w6 → Got (dec ver flex (.arr none ty ety el)) st d st6 → Rep w6 (FB sb h w6) (.arr none ty ety el) [v] d →
   RWL P N [.rg [.mv bd.2.1 (.t (x + 1)), .mv x (.t bd.2.1)], (storeR T vs idx ty x (bd.2.1 + 1)).1] Q ρ6 w6 := by
  intro ρ6 w6 v d st6 e1 e2 e3 e4 e5 e6 e7
  have e3'' : v.cells = #[v] := by cases v <;> simp_all [Value.cells, Value.oneCell']
  have e3' : v.cells.size = 1 := by rw [e3'']; rfl
  refine mv2_ok (L := L) e2 (by omega) (by omega) (by omega) (by omega) fun ρ7 g1 g2 => ?_
  have hv7 : ρ7 vs = .pointer (some ⟨b, o, none⟩) := by rw [g1 vs (by omega) (by omega), e1 vs hvx]; exact hv
  have ht7 : w6.there b (o + off) 1 := JG e5.th hoff
  refine RW.mono (store_ok (L := L) (v := v) hF (by rw [e3']; exact f2) hv7 g2 (by rw [e3'']; simp [e3]) (by rw [e3']; exact ht7) (by omega) (by omega) (by omega) (by omega) fun ρ8 h8 => ?_) (fun e ρ w h => h)
  rw [e3'']
  show Q .normal ρ8 (w6.setCells b (o + off) [v])
  have FP : Fr (· = rb) b (o + off) 1 w6 (w6.setCells b (o + off) [v]) := Fr.put _ (by omega) (by simp)
  refine hQ ρ8 _ d st6 v (fun s hs => by rw [h8 s (by omega), g1 s (by omega) (by omega), e1 s hs]) (e4.trans FP) e6 ?_ (World.rangeAt_setCells_same _ _ _ _ ht7) (e5.rep FP e7)
  exact e5.rd.keep (Jp b _ _ _ rb (fun e => e5.rbb e.symm)) (Jp b _ _ _ sb e5.nb)
 refine make_ok (L := L) (st := st4) kk (ne0 f10) f4 hz f9 (by omega) (by omega) (by omega) (by omega) d6 (by omega) cx4.r7 hh4.ev n4.av ra4 d2 d3 ?_ ?_ ?_
 ·intro hbad ρ5 h5
  have e4 : st4 = none := by cases st4 with | none => rfl | some l => simp [stB] at hbad
  subst e4
  refine hE ρ5 w4 h5 F4 (fun d => ?_)
  unfold dec
  exact Got.bind d5 (by exact rfl)
 ·intro hgood hr ρ5 h5 h5a
  refine loop0_ok (L := L) hr hxL (by omega) (by omega) (by rw [h5 _ (by omega) (by omega)]; exact d2) fun ρ6 h6 => ?_
  refine fin ρ6 w4 av (.l (nulOf none ver r) []) st4 (fun s hs => by rw [h6 s (by omega), h5 s (by omega) (by omega), q4 s hs]) (by rw [h6 _ (by omega)]; exact h5a) (by rcases n4.av with e | ⟨q, e⟩ <;> rw [e] <;> rfl) F4 hh4 ?_ ?_
  ·unfold dec
   refine Got.bind d5 ?_
   show Got (if r ≤ 0 then _ else _) st4 _ st4
   rw [if_pos hr]
   exact Got.pure _
  ·unfold Rep
   have hw0 := hh.hw
   rcases n4 with ⟨e1, e2⟩ | ⟨e1, q, e2, e3, e4⟩
   ·exact ⟨_, _, rfl, .inl ⟨by rw [e1], rfl, e2⟩⟩
   ·exact ⟨_, _, rfl, .inr ⟨e1, q, [], 0, by rw [e2]; rfl, .inr ⟨by omega, e4⟩, fun j v hj => by simp at hj, by simp, fun i d hd => by simp at hd⟩⟩
 ·intro hgood hr ρ5 w5 c h5 h5a h5b h5c h5d h5e
  obtain ⟨l, rfl⟩ : ∃ l : Nat, r = (l : Nat) := ⟨r.toNat, by omega⟩
  have hl32 : l ≤ 2147483647 := by have := d3.2; omega
  rw [Int.toNat_natCast] at h5a h5d h5e
  obtain ⟨cs, hcsl, hcs, hcz⟩ := h5d
  have hrb4 := d6.lt
  have hsz4 := F4.size
  have F5 : Fr (· = rb) b (o + off) 1 w4 w5 := Fr.ofBelow h5b (Nat.lt_of_lt_of_le hbw hsz4)
  have R5 : RdAt w5 rb sb st4 := d6.below h5b
  have hh5 := hh4.keep F5 R5
  have hwl := hh4.hw
  have hha : FH P R rb sb w4.heap.size w4.heap.size 0 (l * el.cells) ev st4 w5 :=
   ⟨R5, hh.ne, by have := hh4.hs; omega, by omega, Nat.le_refl _, by omega, by omega, hh5.hs, h5e, hh.er, hh5.ev, by have := World.block_lt_of_cell? w4 _ hh4.ev; exact fun e => by simp only at this; omega, hh.gr⟩
  have q5 : ∀ s, s < x → ρ5 s = ρ s := fun s hs => by rw [h5 s (by omega) (by omega), q4 s hs]
  have rl5 : ρ5 (x + 2) = .int .i32 (l : Nat) := by rw [h5 _ (by omega) (by omega)]; exact d2
  have up : ∀ w6, Fr (· = rb) w4.heap.size 0 (l * el.cells) w5 w6 → Fr (· = rb) b (o + off) 1 w4 w6 := by
   intro w6 g2
   have hne4 : b ≠ w4.heap.size := by omega
   have F' : Fr (fun k => k = rb ∨ k = w4.heap.size) b (o + off) 1 w5 w6 := (g2.wide (X' := fun k => k = rb ∨ k = w4.heap.size) (fun _ h => .inl h) (Nat.le_refl _) (Nat.le_refl _)).other (.inr rfl) (by rintro (e | e); exact hh.rbb e; exact hne4 e) (by omega)
   exact ((F5.wide (X' := fun k => k = rb ∨ k = w4.heap.size) (fun _ h => .inl h) (Nat.le_refl _) (Nat.le_refl _)).trans F').drop (fun k hk => hk.imp id (fun e => by omega))
  refine loop_ok (L := L) (ec := el.cells) (el := el) (de := dec ver flex el) (zs := zs) hha hl32 hxL (by omega) (by omega) h5a rl5 hcs hcsl hcz ?_ ?_ ?_
  ·intro i ρ6 w6 st6 Q6 hi g1 g2 hh6 hF6 hz6 hK hK2
   rw [← hbody] at hN ⊢
   exact hel.go (t' := (lenR R sf x (t + 5)).2 + nulT none + 15) (l := l) (c := c) (i := i) (by omega) (by omega) hh6 cx hrx (fun s hs => by rw [g1 s (by omega), q5 s hs]) (by rw [g1 _ (by omega)]; exact h5a) g2 hi hz6 hK hK2
  ·intro ρ6 w6 xs st6 cs' g1 g2 g3 g4 g5 g6 g7 g8
   have Fx := up w6 g2
   have hh6 := hh4.keep Fx g5
   have hs6 : w4.heap.size < w6.heap.size := Nat.lt_of_lt_of_le (by omega) g2.size
   refine fin ρ6 w6 (.slice (some ⟨w4.heap.size, 0, none⟩) l c) (.l false xs) st6 (fun s hs => by rw [g1 s (by omega), q5 s hs]) (by rw [g1 _ (by omega)]; exact h5a) rfl (F4.trans Fx) hh6 ?_ ?_
   ·unfold dec
    refine Got.bind d5 ?_
    show Got (if ((l : Nat) : Int) ≤ 0 then _ else _) st4 _ st6
    rw [if_neg (by omega), Int.toNat_natCast]
    exact g4.map (f := fun xs => D.l false xs)
   ·unfold Rep
    refine ⟨_, _, rfl, .inr ⟨rfl, w4.heap.size, cs', c, by rw [g3], .inr ⟨hwl, hs6⟩, g6, by rw [g3, g7]; exact Nat.le_refl _, fun i d hd => ?_⟩⟩
    refine Rep.mono (fun k hk => ?_) (fun k _ => rfl) el (g8 i d hd)
    rcases hk with hk | ⟨hk, hk'⟩
    ·exact .inl hk
    ·exact .inr ⟨by omega, hk'⟩
  ·intro ρ6 w6 g1 g2 g3
   refine hE ρ6 w6 g1 (F4.trans (up w6 g2)) (fun d => ?_)
   unfold dec
   refine Got.bind d5 ?_
   show Got (if ((l : Nat) : Int) ≤ 0 then _ else _) st4 _ none
   rw [if_neg (by omega), Int.toNat_natCast]
   exact Got.any ((g3 []).map (f := fun xs => D.l false xs))
theorem arrR_ok {T vs idx off ty ety x t bk L : Nat} {el : Ty} {zs : List Value} {nul : Option Nat} {body : Nat → Jc × Nat × Nat × Nat} (kk : RKOK P R G) (hnul : nul = none) (hwf : arrB P R sf ty ety el.cells = true) (hz : ZE P ety el.cells zs) (hF : Jd P T idx off = true) (hh : FH P R rb sb h b o n ev st w) (cx : RCx R.rs sf flex ver rb vs b o ρ)
  (hx9 : 9 ≤ x) (hs : ∀ s, sf = some s → s < x) (hvx : vs < x) (hxL : x + 4 < L) (hL : L ≤ t) (hb : ∀ t, t ≤ (body t).2.1) (hN : (arrR R sf nul T vs idx ty t x bk body).2.1 ≤ N) (hoff : off + 1 ≤ n) (h0 : w.cell? ⟨b, o + off, none⟩ = some (.slice none 0 0))
  (hel : ElC P R N rb sb ev sf flex ver el x L zs body)
  (hQ : ∀ ρ' w' d st' v, (∀ s, s < x → ρ' s = ρ s) → Fr (· = rb) b (o + off) 1 w w' → Got (dec ver flex (.arr nul ty ety el)) st d st' → RdAt w' rb sb st' → w'.rangeAt b (o + off) [v] → Rep w' (FB sb h w') (.arr nul ty ety el) [v] d → Q .normal ρ' w')
  (hE : ∀ ρ' w', ρ' 6 = ev → Fr (· = rb) b (o + off) 1 w w' → (∀ d, Got (dec ver flex (.arr nul ty ety el)) st d none) → Q .ret ρ' w') : RW P N (arrR R sf nul T vs idx ty t x bk body).1 Q ρ w :=
 RWL.rows (arrRL_ok kk hnul hwf hz hF hh cx.zero cx.rv (by have := cx.hrs; omega) hx9 hs hvx hxL hL hb hN hoff h0 hel hQ hE)
theorem elC_prim {ty ety x bk L : Nat} {k : PK} {kty : Nat} {zs : List Value} (kk : RKOK P R G) (hk : rdOk R sf k = true) (hsl : Jk P ty ety = true) (hc : Jh P ety k.cells = true) (hu : uuB P k ety = true) (hx9 : 9 ≤ x) (hs : ∀ s, sf = some s → s < x) (hxL : x + 4 < L) :
  ElC P R N rb sb ev sf flex ver (.prim k kty) x L zs (fun t => ((elemU R sf k ty ety x t).1, (elemU R sf k ty ety x t).2, x + 5, bk + 2)) := by
 refine ⟨?_⟩
 intro t' ab l c i ρ ρ1 w1 st1 Q1 hL hN hh cx hrx q ra ri hi hz hK hK2
 have cx1 := cx.keep q hx9 hs hrx
 have e : k ≠ .uuid := fun e => by subst e; cases hu
 have e2 : elemU R sf k ty ety x t' = elemR R sf k ty ety x t' := by cases k <;> first | rfl | exact absurd rfl e
 simp only at hN ⊢
 rw [e2] at hN ⊢
 refine elemR_ok (L := L) (flex := flex) (l := l) (cap := c) (i := i) kk hk hsl hc hh (by omega) cx1.r7 cx1.r2 cx1.rf cx1.nf (by omega) hs hxL hL hN ra ri hi ?_
 intro ρ2 w2 d st2 us k1 k2 k3 k4 k5 k6 k7
 exact hK ρ2 w2 d st2 us k1 k2 (by unfold dec; exact k3) k4 k5 k6 (by unfold Rep; exact k7)
end
/-! ### Known tags and the others, in a row -/
section
variable {P : Program} {N : Nat} {Q : UE} {ρ : Nat → Value} {w w' : World} {ms : List MOp} {d : Nat} {R : RN} {G : TG} {rb sb h b o n : Nat} {ev : Value} {st st' : Option (List UInt8)} {sf : Option Nat} {flex : Bool} {ver : Int}
theorem MR.neqNilI {ty x : Nat} {v : Value} (hs : ifaceTy P ty = true) (hx : ρ x = v) (hv : v = Value.nilIface ∨ isErr v) (hxN : x < N := by decide) : MR P N (.bi d .neq ty (.t x) (.c .niface)) ρ w d (.bool (errB v)) w := by
 obtain ⟨mts, hu⟩ := ifaceTy_eq hs
 intro a o hl hf
 generalize hop : o.op = op' at hf
 unfold execOp
 cases op' <;> simp only [Jf, UA, UB, Nat.beq_eq] at hf
 rename_i bop ty' ox oy kq
 obtain ⟨⟨⟨⟨⟨h1, h2⟩, h3⟩, h4⟩, h5⟩, _⟩ := hf
 have h2' := sameOp_eq h2
 subst h2' h3
 cases oy <;> simp only [MX.is, UB] at h5
 rename_i c
 have hc : c = Value.nilIface := by cases c <;> simp_all [MVal.is]
 subst hc
 have e1 := MX.evalL hl (ltT hxN) h4
 have e2 : a.eval (Operand.const Value.nilIface) = Value.nilIface := rfl
 have hD : Op.maxDepth = 9999 + 1 := rfl
 refine ⟨Jl h1, ?_⟩
 have hg : ∀ u : Value, (u = Value.nilIface ∨ isErr u) → (eqGuard .neq ty ox (Operand.const Value.nilIface) u Value.nilIface).run P w = .ok () w := by
  rintro u (rfl | ⟨t, y, rfl⟩)
  ·unfold eqGuard; cases ox <;> rfl
  ·unfold eqGuard; cases ox <;> rfl
 have hq : ∀ u : Value, (u = Value.nilIface ∨ isErr u) → ∀ d : Nat, (Op.equalIn (d + 1) ty u Value.nilIface).run P w = .ok (!errB u) w := by
  rintro u (rfl | ⟨t, y, rfl⟩) d
  ·simp [Op.equalIn, run_underlying hu, errB]
  ·simp [Op.equalIn, run_underlying hu, errB]
 have hb : (binOp .neq ty v Value.nilIface).run P w = .ok (.bool (errB v)) w := by
  rcases hv with rfl | ⟨t, y, rfl⟩
  ·simp only [binOp]
   simp [Op.equal, Op.maxDepth, hq _ (.inl rfl) 9999]
  ·simp only [binOp]
   simp [Op.equal, Op.maxDepth, hq _ (.inr ⟨t, y, rfl⟩) 9999]
 simp only [hop, e1, e2, xof, hx, Sem.run_bind, hg v hv, hb, Result.andThen_ok, Sem.run_pure]
def dLV : Dec (List UInt8) := dUv.bind fun s => dSpan (s : Nat)
theorem TM.keep {lo : Nat} {m : Value} {tags : List Tg} (h : TM w lo sb m tags) (hh : ∀ k, k < w.heap.size → lo ≤ k → w'.heap[k]? = w.heap[k]?) (hs : w'.heap[sb]? = w.heap[sb]?) : TM w' lo sb m tags := by
 rcases h with h | ⟨r, es, clock, g1, g2, g3, g4, g5⟩
 ·exact .inl h
 ·exact .inr ⟨r, es, clock, g1, g2, by rw [hh r (Array.getElem?_eq_some_iff.1 g3).1 g2]; exact g3, g4.keep hs, g5⟩
theorem krDflt_ok {T vs idx x t mo lo k : Nat} {un : List Tg} {mv : Value} (kk : RKOK P R G) (hF : Jd P T idx mo = true) (hfr : G.fRead ≠ 0) (hru : R.uv ≠ 0) (hrs : R.span ≠ 0) (h32 : R.T.u32 ≠ 0)
  (hh : FH P R rb sb h b o n ev st w) (cx : RCx R.rs sf flex ver rb vs b o ρ) (hkey : ρ (x + 1) = .int .u32 (k : Nat)) (hk : k < 4294967296) (hT : TM w lo sb mv un) (hcell : w.cell? ⟨b, o + mo, none⟩ = some mv) (hth : w.there b (o + mo) 1) (hlo : lo ≤ w.heap.size) (hhl : h < lo) (hsl : sb < lo)
  (hvt : vs < t) (hxt : x + 1 < t) (h9 : 9 ≤ t) (hN : t + 16 ≤ N)
  (hQ : ∀ ρ' w' l st' m', (∀ s, s < t → ρ' s = ρ s) → Fr (fun k => k = rb ∨ (lo ≤ k ∧ (mv = .map (some k) ∨ w.heap.size ≤ k))) b (o + mo) 1 w w' → Got dLV st l st' → RdAt w' rb sb st' → TM w' lo sb m' (JY (k, l) un) → w'.cell? ⟨b, o + mo, none⟩ = some m' → (∀ r, m' = .map (some r) → mv = .map (some r) ∨ w.heap.size ≤ r) → Q .normal ρ' w') : RW P N (krDflt R G T vs idx x t) Q ρ w := by
 have hrs7 := cx.hrs
 have hbw : b < w.heap.size := Nat.lt_of_le_of_lt hh.hb hh.hw
 have hset := kk.set hfr
 unfold krDflt
 refine RW.gd kk.ok.mo (fun _ => True) trivial ?_
 have bd : Below w.heap.size w (World.drew1 w) := JI w _
 have rd : RdAt (World.drew1 w) rb sb st := hh.rd.below bd
 have Td : TM (World.drew1 w) lo sb mv un := hT.keep (fun _ _ _ => rfl) rfl
 have cd : (World.drew1 w).cell? ⟨b, o + mo, none⟩ = some mv := hcell
 have td : (World.drew1 w).there b (o + mo) 1 := hth
 have sd : (World.drew1 w).heap.size = w.heap.size := rfl
 have Fd : Fr (fun k => k = rb ∨ (lo ≤ k ∧ (mv = .map (some k) ∨ w.heap.size ≤ k))) b (o + mo) 1 w (World.drew1 w) := Fr.ofBelow bd hbw
 generalize World.drew1 w = wd at rd Td cd td sd Fd
 refine RG.q (fun _ _ => MR.mv cx.rv (ltT (by omega))) (RG.q (fun _ _ => MR.nc (p := ⟨b, o, none⟩) (Ja _ _ _) (by omega)) (RG.q (fun _ _ => MR.fa (Ja _ _ _) hF (by omega)) (RG.q (fun _ _ => MR.mv (v := .int .u32 (k : Nat)) (by show upd _ _ _ (x + 1) = _; (repeat first | rw [Ja] | rw [Jb _ _ (by omega)]); exact hkey) (ltT (by omega))) ?_ (hd := by omega)) (hd := by omega)) (hd := by omega)) (hd := by omega)
 refine RG.ca (R := fun v w' => ∃ (s : Nat) (st1 : Option (List UInt8)), v = .int .u32 (s : Nat) ∧ s < 4294967296 ∧ Fr (fun _ => False) rb 0 2 wd w' ∧ Got dUv st s st1 ∧ RdAt w' rb sb st1) (kk.uv hru).1 (fun _ => ?_) ?_ (hd := by omega) (hx := by simp [MX.lt, Nat.blt_eq]; omega)
 ·simp only [List.map_cons, List.map_nil, xof]
  (repeat first | rw [Ja] | rw [Jb _ _ (by omega)])
  rw [cx.r7]
  refine Calls.mono ((kk.uv hru).2 wd rb sb st rd hh.ne) ?_
  rintro e w' ⟨v, s, st1, rfl, g1, g2, g3, g4, g5⟩
  exact ⟨v, rfl, ⟨s, st1, g4, g5, g1, g2, g3⟩, trivial⟩
 rintro v w1 ⟨s, st1, rfl, hs, F1, G1, R1⟩
 refine RG.q (fun _ _ => MR.cvI (n := (s : Nat)) (Ja _ _ _) (kk.ok.tk.u32 h32) kk.ok.tk.int (by omega)) ?_ (hd := by omega)
 rw [show IntKind.i64.wrap ((s : Nat) : Int) = (s : Int) from Ju (by omega) (by omega)]
 refine RG.ca (R := fun v w' => ∃ ad l st2, v = .slice ad (List.length l) (List.length l) ∧ Fr (fun _ => False) rb 0 2 w1 w' ∧ Got (dSpan (s : Nat)) st1 l st2 ∧ RdAt w' rb sb st2 ∧ okAd ad ∧ Jg w' (· = sb) ad l) (kk.span hrs).n.1 (fun _ => ?_) ?_ (hd := by omega) (hx := by simp [MX.lt, Nat.blt_eq]; omega)
 ·simp only [List.map_cons, List.map_nil, xof]
  (repeat first | rw [Ja] | rw [Jb _ _ (by omega)])
  rw [cx.r7]
  refine Calls.mono ((kk.span hrs).n.2 w1 rb sb st1 (s : Nat) R1 hh.ne) ?_
  rintro e w' ⟨ad, l, st2, rfl, g1, g2, g3, g4, g5⟩
  exact ⟨_, rfl, ⟨ad, l, st2, rfl, g1, g2, g3, g4, g5⟩, trivial⟩
 rintro v w2 ⟨ad, l, st2, rfl, F2, G2, R2, had, hby⟩
 have F12 : Fr (fun _ => False) rb 0 2 wd w2 := F1.trans F2
 have hkb : ∀ k, k < wd.heap.size → k ≠ rb → w2.heap[k]? = wd.heap[k]? := fun k h1 h2 => F12.block k h1 h2 (fun x => x)
 have hhr := hh.hr
 have hhb := hh.hb
 have T2 : TM w2 lo sb mv un := Td.keep (fun k h1 h2 => hkb k h1 (by omega)) (hkb sb (by omega) hh.ne)
 have cell2 : w2.cell? ⟨b, o + mo, none⟩ = some mv := by rw [Ji (hkb b (by omega) hh.rbb)]; exact cd
 have th2 : w2.there b (o + mo) 1 := JE td (hkb b (by omega) hh.rbb)
 refine RG.ca (R := fun _ w' => ∃ m', TM w' lo sb m' (JY (k, l) un) ∧ w'.rangeAt b (o + mo) [m'] ∧ w'.there b (o + mo) 1 ∧ Fr (fun b => lo ≤ b ∧ (mv = .map (some b) ∨ w2.heap.size ≤ b)) b (o + mo) 1 w2 w' ∧ (∀ r, m' = .map (some r) → mv = .map (some r) ∨ w2.heap.size ≤ r)) hset.1 (fun _ => ?_) ?_ (hd := by omega) (hx := by simp [MX.lt, Nat.blt_eq]; omega)
 ·simp only [List.map_cons, List.map_nil, xof]
  (repeat first | rw [Ja] | rw [Jb _ _ (by omega)])
  refine Calls.mono (hset.2 w2 b (o + mo) sb lo mv un k ad l l.length T2 (fun j z hz => ?_) th2 (Nat.le_trans (by omega) F12.size) hsl hh.nb hk hby) ?_
  ·cases j with
   | zero => simp only [List.getElem?_cons_zero, UC] at hz; subst hz; exact cell2
   | succ j => simp at hz
  rintro e w' ⟨⟨v, rfl⟩, h⟩
  exact ⟨v, rfl, h, trivial⟩
 rintro v w3 ⟨m', T3, r3, t3, F3, M3⟩
 refine RG.nil fun _ => ?_
 have h2s := F12.size
 have F23 : Fr (fun k => k = rb ∨ (lo ≤ k ∧ (mv = .map (some k) ∨ w.heap.size ≤ k))) b (o + mo) 1 w2 w3 := F3.wide (fun _ h => .inr ⟨h.1, h.2.imp id fun h' => by omega⟩) (Nat.le_refl _) (Nat.le_refl _)
 have F02 : Fr (fun k => k = rb ∨ (lo ≤ k ∧ (mv = .map (some k) ∨ w.heap.size ≤ k))) b (o + mo) 1 wd w2 := (F12.rd hh.rbb (by omega)).wide (fun _ h => .inl h) (Nat.le_refl _) (Nat.le_refl _)
 refine hQ _ w3 l st2 m' (fun s hs => by (repeat first | rw [Ja] | rw [Jb _ _ (by omega)])) ((Fd.trans F02).trans F23) (G1.bind G2) (R2.keep (F3.block rb (Nat.lt_of_lt_of_le rd.lt h2s) (fun e => hh.rbb e.symm) (fun e => by have := e.1; omega)) (F3.block sb (by omega) hh.nb (fun e => by have := e.1; omega))) T3 ?_ (fun r e => (M3 r e).imp id fun h' => by omega)
 have := r3 0 m' rfl
 simpa using this
theorem gotTag {st1 st2 st3 : Option (List UInt8)} {k : Nat} {l : List UInt8} (h1 : Got dUv st1 k st2) (h2 : Got dLV st2 l st3) : Got dTag st1 (k, l) st3 := by
 unfold dTag
 refine h1.bind ?_
 have e : (dUv.bind fun s => (dSpan (s : Nat)).map fun v => (k, v)) = dLV.map fun v => (k, v) := by
  funext x
  unfold dLV Dec.map Dec.bind
  cases dUv x with
  | none => rfl
  | some p => rfl
 rw [e]
 exact h2.map
end
section
variable {P : Program} {R : RN} {G : TG} {sf : Option Nat}
theorem part_same {cs cs' : List Value} {a m : Nat} (h : ∀ i, a ≤ i → i < a + m → cs'[i]? = cs[i]?) : (cs'.drop a).take m = (cs.drop a).take m := by
 apply List.ext_getElem?
 intro i
 rw [List.getElem?_take, List.getElem?_take]
 split
 ·rw [List.getElem?_drop, List.getElem?_drop]; exact h _ (by omega) (by omega)
 ·rfl
theorem wfRF_le : ∀ (fs : Flds) {T n k : Nat}, wfRF P R G sf fs T n k = true → k ≤ n
 | .nil, T, n, k, h => by simpa [wfRF, Nat.ble_eq] using h
 | .cons _ idx off _ ty rest, T, n, k, h => by
  simp only [wfRF, UA, Nat.ble_eq] at h
  have := wfRF_le rest h.2
  omega
theorem RepF.above {w w' : World} {F F' : Nat → Prop} (hF : ∀ b, F b → F' b) (hw : ∀ b, F b → w'.heap[b]? = w.heap[b]?) : ∀ {fs : Flds} {T n k : Nat} {cs cs' : List Value} {ds : List D}, wfRF P R G sf fs T n k = true → cs'.length = cs.length → (∀ i, k ≤ i → cs'[i]? = cs[i]?) → RepF w F fs cs ds → RepF w' F' fs cs' ds
 | .nil, T, n, k, cs, cs', ds, _, _, _, h => by unfold RepF at h ⊢; exact h
 | .cons c idx off df ty rest, T, n, k, cs, cs', ds, hwf, hl, he, h => by
  simp only [wfRF, UA, Nat.ble_eq] at hwf
  unfold RepF at h ⊢
  obtain ⟨h0, d, ds', rfl, h1, h2⟩ := h
  refine ⟨by omega, d, ds', rfl, ?_, RepF.above hF hw hwf.2 hl (fun i hi => he i (by omega)) h2⟩
  rw [part_same fun i h3 h4 => he i (by omega)]
  exact Rep.mono hF hw ty h1
def tagOff : Flds → Nat
 | .nil => 0
 | .cons c _ off _ _ rest => if c.isTag then off else tagOff rest
def gapG : Flds → Nat → Bool
 | .nil, _ => true
 | .cons c _ off _ ty r, j => (c.isTag || (Nat.blt j off || Nat.ble (off + ty.cells) j)) && gapG r j
theorem gapG_of : ∀ {fs : Flds} {j : Nat}, gapF fs j = true → gapG fs j = true
 | .nil, _, _ => rfl
 | .cons c _ off _ ty r, j, h => by
  simp only [gapF, UA] at h
  simp only [gapG, UA]
  exact ⟨by rw [h.1]; simp, gapG_of h.2⟩
theorem gapG_lt : ∀ {fs : Flds} {T n k i : Nat}, wfRF P R G sf fs T n k = true → i < k → gapG fs i = true
 | .nil, _, _, _, _, _, _ => rfl
 | .cons c _ off _ ty r, T, n, k, i, h, hi => by
  simp only [wfRF, UA, Nat.ble_eq] at h
  simp only [gapG, UA]
  refine ⟨?_, gapG_lt h.2 (by omega)⟩
  have : Nat.blt i off = true := by rw [Nat.blt_eq]; omega
  rw [this]; simp
theorem gapG_tag : ∀ {fs : Flds} {T n k i : Nat} {ty : Ty}, wfRF P R G sf fs T n k = true → tagTy fs = some ty → i < ty.cells → k ≤ tagOff fs ∧ gapG fs (tagOff fs + i) = true
 | .nil, _, _, _, _, _, _, h, _ => by cases h
 | .cons c _ off _ ty r, T, n, k, i, ty', h, ht, hi => by
  simp only [wfRF, UA, Nat.ble_eq] at h
  unfold tagTy at ht
  unfold tagOff
  cases hc : c.isTag with
  | true =>
   rw [hc] at ht
   simp only [if_true, UC] at ht ⊢
   subst ht
   exact ⟨h.1.1.1, by simp only [gapG, hc, Bool.true_or, Bool.true_and]; exact gapG_lt h.2 (by omega)⟩
  | false =>
   rw [hc] at ht
   simp only [UB, if_false] at ht ⊢
   obtain ⟨h1, h2⟩ := gapG_tag h.2 ht hi
   refine ⟨by have := h.1.1.1; omega, ?_⟩
   simp only [gapG, hc, Bool.false_or, UA]
   refine ⟨?_, h2⟩
   have : Nat.ble (off + ty.cells) (tagOff r + i) = true := by rw [Nat.ble_eq]; omega
   rw [this]; simp
theorem tagTy_none : ∀ {fs : Flds}, tagTy fs = none → JO fs = false
 | .nil, _ => rfl
 | .cons c _ _ _ ty rest, h => by
  unfold tagTy at h
  cases hc : c.isTag with
  | true => rw [hc] at h; simp at h
  | false => rw [hc] at h; simp only [UB, if_false] at h; simp [JO, hc, tagTy_none h]
theorem tagTy_no : ∀ {fs : Flds}, JO fs = false → tagTy fs = none
 | .nil, _ => rfl
 | .cons c _ _ _ ty rest, h => by
  simp only [JO, Bool.or_eq_false_iff] at h
  unfold tagTy
  rw [h.1]
  exact tagTy_no h.2
theorem genRT_no {R : RN} {tg : Option TgF} : ∀ {fs : Flds} {T vs t x b : Nat}, JO fs = false → J6 R G sf tg fs T vs t x b = QN R G sf T vs tg t x b
 | .nil, _, _, _, _, _, _ => by rw [J6]
 | .cons c _ _ _ ty rest, _, _, _, _, _, h => by
  simp only [JO, Bool.or_eq_false_iff] at h
  unfold J6
  simp only [h.1, UB, if_false]
  exact genRT_no h.2
def genTag (R : RN) (G : TG) (sf : Option Nat) (q : TgF) (s : Nat) (ty : Ty) (idx T vs t x b : Nat) : List Jc × Nat × Nat × Nat :=
 let r := JQ { R with rs := x + 2 } G sf ty T vs idx (t + 22) (x + 3) (b + 3)
 ([.sq (.rg [.mv t (.t s)]) (.cd t (kpBody R G T vs q.1.1 (rows (kpHead R t x :: (r.1 ++ kpTail R x r.2.1 r.2.2.1))) t x b) .sk)], r.2.1 + 4, r.2.2.1 + 1, r.2.2.2)
theorem tag_find : ∀ {fs : Flds} {T n k : Nat}, JO fs = true → oneT fs = true → wfRF P R G sf fs T n k = true → ∃ j idx off ty, tagTy fs = some ty ∧ off = tagOff fs ∧ SizeOf.sizeOf ty < SizeOf.sizeOf fs ∧ k ≤ off ∧ off + ty.cells ≤ n ∧ Jd P T idx off = true ∧ Qq P R G sf ty = true ∧ (∀ ver flex, tagD ver flex fs = some (j, dec ver flex ty)) ∧
  (∀ (R' : RN) (q : TgF) (s T' vs t x b : Nat), sf = some s → J6 R' G sf (some q) fs T' vs t x b = genTag R' G sf q s ty idx T' vs t x b) ∧
  (∀ (w : World) (F : Nat → Prop) (cs : List Value) (ds : List D), RepF w F fs cs ds → ∃ d, ds[j]? = some d ∧ Rep w F ty ((cs.drop off).take ty.cells) d) ∧
  (∀ (w w' : World) (F F' : Nat → Prop) (cs cs' : List Value) (ds : List D) (d' : D), cs'.length = cs.length → (∀ i, (i < off ∨ off + ty.cells ≤ i) → cs'[i]? = cs[i]?) → (∀ b, F b → F' b) → (∀ b, F b → w'.heap[b]? = w.heap[b]?) → RepF w F fs cs ds → Rep w' F' ty ((cs'.drop off).take ty.cells) d' → RepF w' F' fs cs' (ds.set j d'))
 | .nil, T, n, k, h, _, _ => by simp [JO] at h
 | .cons c idx off df ty rest, T, n, k, h, h1, hwf => by
  simp only [wfRF, UA, Nat.ble_eq] at hwf
  obtain ⟨⟨⟨w1, w2⟩, w3⟩, w4⟩ := hwf
  have hn := wfRF_le rest w4
  cases hc : c.isTag with
  | true =>
   refine ⟨0, idx, off, ty, by simp [tagTy, hc], by simp [tagOff, hc], by simp; omega, w1, hn, w2, w3, fun ver flex => by rw [tagD, hc]; rfl, fun R' q s T' vs t x b hs => ?_, fun w F cs ds hr => ?_, fun w w' F F' cs cs' ds d' hl he hF hw hr hd => ?_⟩
   ·subst hs; simp only [J6, hc, if_true]; rfl
   ·unfold RepF at hr
    obtain ⟨h0, d, ds', rfl, r1, r2⟩ := hr
    exact ⟨d, rfl, r1⟩
   ·unfold RepF at hr ⊢
    obtain ⟨h0, d, ds', rfl, r1, r2⟩ := hr
    exact ⟨by omega, d', ds', rfl, hd, RepF.above hF hw w4 hl (fun i hi => he i (.inr hi)) r2⟩
  | false =>
   simp only [JO, hc, Bool.false_or] at h
   simp only [oneT, hc, UB, if_false] at h1
   obtain ⟨j, idx', off', ty', e0, e0', e1, e2, e3, e4, e5, e6, e7, e8, e9⟩ := tag_find h h1 w4
   refine ⟨j + 1, idx', off', ty', by simp [tagTy, hc, e0], by simp [tagOff, hc, e0'], by simp; omega, by omega, e3, e4, e5, fun ver flex => by rw [tagD, hc, e6]; rfl, fun R' q s T' vs t x b hs => ?_, fun w F cs ds hr => ?_, fun w w' F F' cs cs' ds d' hl he hF hw hr hd => ?_⟩
   ·have h7 := e7 R' q s T' vs t x b hs
    unfold J6
    simp only [hc, UB, if_false]
    exact h7
   ·unfold RepF at hr
    obtain ⟨h0, d, ds', rfl, r1, r2⟩ := hr
    exact e8 w F cs ds' r2
   ·unfold RepF at hr ⊢
    obtain ⟨h0, d, ds', rfl, r1, r2⟩ := hr
    refine ⟨by omega, d, ds'.set j d', rfl, ?_, e9 w w' F F' cs cs' ds' d' hl he hF hw r2 hd⟩
    rw [part_same fun i h3 h4 => he i (.inl (by omega))]
    exact Rep.mono hF hw ty r1
end
section
variable {P : Program} {N : Nat} {Q : UE} {ρ : Nat → Value} {w w' : World} {ms : List MOp} {d : Nat} {R : RN} {G : TG} {rb sb h b o n : Nat} {ev : Value} {st st' : Option (List UInt8)} {sf : Option Nat} {flex : Bool} {ver : Int}
def FM (sb h : Nat) (w : World) (m : Value) : Nat → Prop := fun k => FB sb h w k ∧ m ≠ .map (some k)
theorem kpBody_ok {T vs idx x t bl mo j : Nat} {f : Dec D} {fs : Flds} {cs : List Value} {ds : List D} {case : Jc} (J : Nat → Option (List UInt8) → List Value → Prop) (hJ0 : ∀ n st1, Got dUv st n st1 → J n st1 cs) (hJs : ∀ n k l st2 st4 cs, J (n + 1) st2 cs → k ≠ 0 → Got dTag st2 (k, l) st4 → J n st4 cs) (kk : RKOK P R G) (a5 : G.fRead ≠ 0) (hru : R.uv ≠ 0) (a11 : R.span ≠ 0) (a12 : R.T.u32 ≠ 0) (hF : Jd P T idx mo = true) (hh : FH P R rb sb h b o mo ev st w) (hth : w.there b o (mo + 1)) (cx : RCx R.rs sf flex ver rb vs b o ρ)
  (hsx : ∀ s, sf = some s → s < x) (hvx : vs < x) (h9 : 9 ≤ x) (hL : x + 3 ≤ t) (hN : t + 22 ≤ N) (hcell : w.cell? ⟨b, o + mo, none⟩ = some (.map none)) (hr : w.rangeAt b o cs) (hl : cs.length = mo) (hd : RepF w (FB sb h w) fs cs ds)
  (hC : ∀ (Q' : UE) (F : Nat → Prop) ρ1 w1 st1 cs1 ds1 n0 st0, J (n0 + 1) st0 cs1 → Got dUv st0 0 st1 → (∀ s, s < x → ρ1 s = ρ s) → FH P R rb sb h b o mo ev st1 w1 → Fr (fun k => k = rb ∨ w.heap.size ≤ k) b o (mo + 1) w w1 → w1.rangeAt b o cs1 → cs1.length = mo → (∀ k, F k → k = sb ∨ (h < k ∧ k < w1.heap.size)) → RepF w1 F fs cs1 ds1 →
   (∀ ρ' w' l st' d r cs', (∀ s, s < x + 2 → ρ' s = ρ1 s) → Fr (fun k => k = rb ∨ w1.heap.size ≤ k) b o mo w1 w' → Got dLV st1 l st' → f l = some (d, r) → RdAt w' rb sb st' → w'.rangeAt b o cs' → cs'.length = mo → RepF w' (fun k => F k ∨ k = sb ∨ (w1.heap.size ≤ k ∧ k < w'.heap.size)) fs cs' (ds1.set j d) → J n0 st' cs' → Q' .normal ρ' w') →
   (∀ ρ' w' l st', ρ' 6 = ev → Fr (fun k => k = rb ∨ w1.heap.size ≤ k) b o mo w1 w' → Got dLV st1 l st' → f l = none → Q' .ret ρ' w') → RW P N case Q' ρ1 w1)
  (hQ : ∀ ρ' w' ux st' cs' ds' mv, (∀ s, s < x → ρ' s = ρ s) → Fr (· = rb) b o (mo + 1) w w' → Got (dTagP j f ds) st (ds', ux) st' → RdAt w' rb sb st' → w'.rangeAt b o cs' → cs'.length = mo → w'.cell? ⟨b, o + mo, none⟩ = some mv → RepF w' (FB sb h w') fs cs' ds' → RepT w' (FB sb h w') mv ux → J 0 st' cs' → Q .normal ρ' w')
  (hE : ∀ ρ' w', ρ' 6 = ev → Fr (· = rb) b o (mo + 1) w w' → (∀ y, Got (dTagP j f ds) st y none) → Q .ret ρ' w') : RW P N (kpBody R G T vs idx case t x bl) Q ρ w := by
 have hrs7 := cx.hrs
 have hbw : b < w.heap.size := Nat.lt_of_le_of_lt hh.hb hh.hw
 have hlow : ∀ (w1 : World), Fr (fun k => k = rb ∨ w.heap.size ≤ k) b o (mo + 1) w w1 → Fr (· = rb) b o (mo + 1) w w1 := fun w1 hf => hf.drop fun k hk => hk
 unfold kpBody
 refine RW.sq (RW.rg (RL.rd (kk.uv hru) cx.r7 hh.rd hh.ne (ltT (by omega)) (by omega) ?_))
 rintro u n0 st1 w1 F1 G1 R1 ⟨rfl, hn0⟩
 refine RL.s (MR.mv (Ja _ _ _) (ltT (by omega))) (RL.nil (RW.bl ?_)) (by omega)
 have hk1 : ∀ k, k < w.heap.size → k ≠ rb → w1.heap[k]? = w.heap[k]? := fun k h1 h2 => F1.block k h1 h2 (fun x => x)
 have FX1 : Fr (fun k => k = rb ∨ w.heap.size ≤ k) b o (mo + 1) w w1 := (F1.rd hh.rbb hbw).wide (fun _ h => .inl h) (Nat.le_refl _) (Nat.le_refl _)
 have hhr0 := hh.hr
 have hhw0 := hh.hw
 have hhs0 := hh.hs
 have hlt : ∀ k, FB sb h w k → k < w.heap.size ∧ k ≠ rb := fun k hk => by
  rcases hk with rfl | ⟨h1, h2⟩
  ·exact ⟨hh.hs, hh.ne⟩
  ·exact ⟨h2, by omega⟩
 refine RW.lp (fun ρ' w' => ∃ (n : Nat) (st' : Option (List UInt8)) (ux : List Tg) (mv : Value) (cs' : List Value) (ds' : List D), ρ' x = .int .u32 (n : Nat) ∧ n < 4294967296 ∧ (∀ s, s < x → ρ' s = ρ s) ∧ (∀ y z, Got (dTagPN j f n ds' ux) st' y z → Got (dTagP j f ds) st y z) ∧ RdAt w' rb sb st' ∧ TM w' w.heap.size sb mv ux ∧
   w'.rangeAt b o cs' ∧ cs'.length = mo ∧ w'.cell? ⟨b, o + mo, none⟩ = some mv ∧ RepF w' (FM sb h w' mv) fs cs' ds' ∧ Fr (fun k => k = rb ∨ w.heap.size ≤ k) b o (mo + 1) w w' ∧ J n st' cs')
  (fun ρ _ => (intOf (ρ x)).toNat) ⟨n0, st1, [], .map none, cs, ds, Ja _ _ _, hn0, fun s hs => by (repeat first | rw [Ja] | rw [Jb _ _ (by omega)]), fun y z hy => G1.bind hy, R1, .inl ⟨rfl, rfl⟩, JV hr (hk1 b hbw hh.rbb), hl, by rw [Ji (hk1 b hbw hh.rbb)]; exact hcell, RepF.mono (fun k hk => ⟨hk.imp id fun h' => ⟨h'.1, by have := F1.size; omega⟩, fun e => by cases e⟩) (fun k hk => hk1 k (hlt k hk).1 (hlt k hk).2) fs hd, FX1, hJ0 _ _ G1⟩ ?_ (fun ρ ρ' w h => by rw [h x (by omega)])
 rintro ρ1 w2 ⟨n, st2, ux, mv, cs2, ds2, k0, hn, hk, hG2, R2, T2, r2, l2, c2, rp2, FX2, hJ2⟩
 have F2 := hlow w2 FX2
 have hh2 : FH P R rb sb h b o mo ev st2 w2 := hh.keep F2 R2
 have cx2 := cx.keep hk (by omega) hsx hvx
 have hs2 := FX2.size
 have hth2 : w2.there b o (mo + 1) := FX2.there _ _ hth
 refine RW.sq (RW.sq (RW.rg (RL.s (MR.mv (v := .int .u32 (n : Nat)) k0 (ltT (by omega))) (RL.s (MR.biE (v := .bool (decide ((0 : Int) < (n : Nat)))) (by show evB .gtr (upd _ _ _ _) _ = _; rw [Ja]; rfl) (ltT (by omega)) rfl) (RL.nil ?_) (by omega)) (by omega))))
 refine RW.cd (b := decide ((0 : Int) < (n : Nat))) (Ja _ _ _) (fun e => RW.sk ?_) (fun e => RW.ex ?_) (by omega)
 ·have hn1 : 0 < n := by have := of_decide_eq_true e; omega
  obtain ⟨n, rfl⟩ : ∃ k, n = k + 1 := ⟨n - 1, by omega⟩
  show RW P N _ _ _ w2
  generalize hρ2 : upd (upd ρ1 (t + 2) _) (t + 3) _ = ρ2
  have p2 : ∀ s, s < t → ρ2 s = ρ1 s := fun s hs => by rw [← hρ2]; (repeat first | rw [Ja] | rw [Jb _ _ (by omega)])
  have cx3 := cx2.keep (x := x) (ρ' := ρ2) (fun s hs => p2 s (by omega)) (by omega) hsx hvx
  refine RW.sq (RW.bl (RW.sq (RW.rg (RL.rd (kk.uv hru) cx3.r7 R2 hh.ne (ltT (by omega)) (by omega) ?_))))
  rintro u k st3 w3 F3 G3 R3 ⟨rfl, hk3⟩
  refine RL.s (MR.mv (Ja _ _ _) (ltT (by omega))) (RL.nil ?_) (by omega)
  show RW P N _ _ _ w3
  refine RW.sq (RW.rg (RL.s (MR.mv (v := .int .u32 (k : Nat)) (Ja _ _ _) (ltT (by omega))) (RL.nil (RW.bl ?_)) (by omega)))
  generalize hρ3 : upd (upd _ (x + 1) _) (t + 7) _ = ρ3
  have p3 : ∀ s, s < t → s ≠ x + 1 → ρ3 s = ρ1 s := fun s hs h1 => by rw [← hρ3]; (repeat first | rw [Ja] | rw [Jb _ _ (by omega)]); exact p2 s hs
  have p3k : ρ3 (x + 1) = .int .u32 (k : Nat) := by rw [← hρ3]; (repeat first | rw [Ja] | rw [Jb _ _ (by omega)])
  have p3t : ρ3 (t + 7) = .int .u32 (k : Nat) := by rw [← hρ3]; exact Ja _ _ _
  have hbw2 : b < w2.heap.size := by omega
  have hkp3 : ∀ k, k < w2.heap.size → k ≠ rb → w3.heap[k]? = w2.heap[k]? := fun k h1 h2 => F3.block k h1 h2 (fun x => x)
  have FX3 : Fr (fun k => k = rb ∨ w.heap.size ≤ k) b o (mo + 1) w w3 := FX2.trans ((F3.rd hh.rbb hbw2).wide (fun _ h => .inl h) (Nat.le_refl _) (Nat.le_refl _))
  have hh3 : FH P R rb sb h b o mo ev st3 w3 := hh.keep (hlow w3 FX3) R3
  have hhr := hh.hr
  have hhw := hh.hw
  have hhs := hh.hs
  have T3 : TM w3 w.heap.size sb mv ux := T2.keep (fun k h1 h2 => hkp3 k h1 (by omega)) (hkp3 sb (by omega) hh.ne)
  have r3 : w3.rangeAt b o cs2 := JV r2 (hkp3 b hbw2 hh.rbb)
  have c3 : w3.cell? ⟨b, o + mo, none⟩ = some mv := by rw [Ji (hkp3 b hbw2 hh.rbb)]; exact c2
  have hth3 : w3.there b o (mo + 1) := FX3.there _ _ hth
  have cxk : ∀ ρ', (∀ s, s < t + 16 → ρ' s = ρ3 s) → RCx R.rs sf flex ver rb vs b o ρ' := fun ρ' h1 => cx.keep (x := x) (fun s hs => by rw [h1 s (by omega), p3 s (by omega) (by omega), hk s hs]) (by omega) hsx hvx
  have next : ∀ (ρ' : Nat → Value) (w' : World) (l : List UInt8) (st4 : Option (List UInt8)) (ux' : List Tg) (mv' : Value) (cs' : List Value) (ds' : List D), (∀ s, s < x + 2 → ρ' s = ρ3 s) → Got dLV st3 l st4 → (∀ y z, Got (dTagPN j f n ds' ux') st4 y z → Got (dTagPN j f (n + 1) ds2 ux) st2 y z) → RdAt w' rb sb st4 → TM w' w.heap.size sb mv' ux' → w'.rangeAt b o cs' → cs'.length = mo → w'.cell? ⟨b, o + mo, none⟩ = some mv' →
    RepF w' (FM sb h w' mv') fs cs' ds' → Fr (fun k => k = rb ∨ w.heap.size ≤ k) b o (mo + 1) w w' → J n st4 cs' →
    RW P N (.rg [.mv (t + 4) (.t x), .bi (t + 5) .sub R.T.u32 (.t (t + 4)) (.c (.int .u32 1)), .mv x (.t (t + 5))]) (QP (fun ρ' w' => (∃ (n : Nat) (st' : Option (List UInt8)) (ux : List Tg) (mv : Value) (cs' : List Value) (ds' : List D), ρ' x = .int .u32 (n : Nat) ∧ n < 4294967296 ∧ (∀ s, s < x → ρ' s = ρ s) ∧ (∀ y z, Got (dTagPN j f n ds' ux) st' y z → Got (dTagP j f ds) st y z) ∧ RdAt w' rb sb st' ∧ TM w' w.heap.size sb mv ux ∧
     w'.rangeAt b o cs' ∧ cs'.length = mo ∧ w'.cell? ⟨b, o + mo, none⟩ = some mv ∧ RepF w' (FM sb h w' mv) fs cs' ds' ∧ Fr (fun k => k = rb ∨ w.heap.size ≤ k) b o (mo + 1) w w' ∧ J n st' cs') ∧ (intOf (ρ' x)).toNat < (intOf (ρ1 x)).toNat) (J2 bl Q)) ρ' w' := by
   intro ρ' w' l st4 ux' mv' cs' ds' g1 g2 g3 g4 g5 g6 g7 g8 g9 g12 g13
   have e0 : ρ' x = .int .u32 ((n + 1 : Nat) : Int) := by rw [g1 x (by omega), p3 x (by omega) (by omega)]; exact k0
   refine RW.rg (RL.s (MR.mv e0 (ltT (by omega))) (RL.s (MR.biE (v := .int .u32 (n : Nat)) ?_ (ltT (by omega)) rfl) (RL.s (MR.mv (v := .int .u32 (n : Nat)) (Ja _ _ _) (ltT (by omega))) (RL.nil ?_) (by omega)) (by omega)) (by omega))
   ·show evB .sub (upd _ _ _ _) _ = _
    rw [Ja]
    show some (Value.int .u32 (IntKind.u32.wrap (((n + 1 : Nat) : Int) - 1))) = _
    rw [show (((n + 1 : Nat) : Int) - 1) = (n : Nat) from by omega, QA (by omega)]
   refine ⟨⟨n, st4, ux', mv', cs', ds', Ja _ _ _, by omega, fun s hs => ?_, fun y z hy => hG2 y z (g3 y z hy), g4, g5, g6, g7, g8, g9, g12, g13⟩, ?_⟩
   ·(repeat first | rw [Ja] | rw [Jb _ _ (by omega)]); rw [g1 s (by omega), p3 s (by omega) (by omega), hk s hs]
   ·show (intOf (upd _ x _ x)).toNat < _
    rw [Ja, k0]; simp only [intOf]; omega
  have hlo : ∀ k, mv = .map (some k) → w.heap.size ≤ k ∧ k < w3.heap.size := fun q e => by
   rcases T3 with ⟨e', _⟩ | ⟨r, es, clock, e', q2, q3, _⟩
   ·rw [e] at e'; cases e'
   ·rw [e] at e'; cases e'; exact ⟨q2, (Array.getElem?_eq_some_iff.1 q3).1⟩
  have hs3 := FX3.size
  have hs23 := F3.size
  have rp3 : RepF w3 (FM sb h w3 mv) fs cs2 ds2 := RepF.mono (fun q hq => ⟨hq.1.imp id fun h' => ⟨h'.1, by omega⟩, hq.2⟩) (fun q hq => by
   rcases hq.1 with rfl | ⟨h1, h2⟩
   ·exact hkp3 q (by omega) hh.ne
   ·exact hkp3 q h2 (by omega)) fs rp2
  refine RW.sq (RW.rg (RL.s (MR.biE (v := .bool (decide ((k : Int) = 0))) (by show evB .eql (ρ3 (t + 7)) _ = _; rw [p3t]; rfl) (ltT (by omega)) rfl) (RL.s (MR.mv (v := .bool (decide ((k : Int) = 0))) (Ja _ _ _) (ltT (by omega))) (RL.nil ?_) (by omega)) (by omega)))
  generalize hρ4 : upd (upd ρ3 (t + 17) _) (t + 16) _ = ρ4
  have h5 : ∀ s, s < t + 16 → ρ4 s = ρ3 s := fun s hs => by rw [← hρ4]; (repeat first | rw [Ja] | rw [Jb _ _ (by omega)])
  refine RW.cd (b := decide ((k : Int) = 0)) (by rw [← hρ4]; exact Ja _ _ _) (fun e => ?_) (fun e => ?_) (by omega)
  ·-- the field's
   have hk0 : k = 0 := by have := of_decide_eq_true e; omega
   subst hk0
   refine hC _ (FM sb h w3 mv) ρ4 w3 st3 cs2 ds2 n st2 hJ2 G3 (fun s hs => by rw [h5 s (by omega), p3 s (by omega) (by omega), hk s hs]) hh3 FX3 r3 l2 (fun k hk => hk.1) rp3 ?_ ?_
   ·intro ρ' w' l st4 d r cs' g1 g2 g3 g4 g5 g6 g7 g8 g9
    show RW P N _ _ ρ' w'
    have hkp : ∀ j, j < w3.heap.size → j ≠ b → j ≠ rb → w'.heap[j]? = w3.heap[j]? := fun j h1 h2 h3 => g2.block j h1 h2 (fun e => e.elim h3 fun h' => by omega)
    have hz := g2.size
    refine next ρ' w' l st4 ux mv cs' (ds2.set j d) (fun s hs => by rw [g1 s hs, h5 s (by omega)]) g3 (fun y z hy => ?_) g5 (T3.keep (fun q h1 h2 => hkp q h1 (by have := hh.hb; omega) (by omega)) (hkp sb (by omega) hh.nb hh.ne)) g6 g7 (by rw [g2.cell (o + mo) (.inr (by omega))]; exact c3) (RepF.mono (fun q hq => ?_) (fun _ _ => rfl) fs g8) (FX3.trans (g2.wide (X' := fun k => k = rb ∨ w.heap.size ≤ k) (fun _ h => h.imp id fun h' => by omega) (by omega) (by omega))) g9
    ·unfold dTagPN
     refine (gotTag G3 g3).bind ?_
     show Got (if (0 : Nat) = 0 then (dOpt (f l)).bind _ else _) st4 y z
     rw [if_pos rfl, g4]
     exact hy
    ·rcases hq with hq | rfl | ⟨h1, h2⟩
     ·exact ⟨hq.1.imp id fun h' => ⟨h'.1, by omega⟩, hq.2⟩
     ·exact ⟨.inl rfl, fun e => by have := (hlo _ e).1; omega⟩
     ·exact ⟨.inr ⟨by omega, h2⟩, fun e => by have := (hlo _ e).2; omega⟩
   ·intro ρ' w' l st4 g1 g2 g3 g4
    show Q .ret ρ' w'
    refine hE ρ' w' g1 (hlow w' (FX3.trans (g2.wide (X' := fun k => k = rb ∨ w.heap.size ≤ k) (fun _ h => h.imp id fun h' => by omega) (by omega) (by omega)))) fun y => hG2 y none ?_
    unfold dTagPN
    refine (gotTag G3 g3).bind ?_
    show Got (if (0 : Nat) = 0 then (dOpt (f l)).bind _ else _) st4 y none
    rw [if_pos rfl, g4]
    cases st4 <;> rfl
  ·-- another
   have hk0 : k ≠ 0 := by have := of_decide_eq_false e; omega
   refine krDflt_ok (n := mo) (mo := mo) (lo := w.heap.size) (k := k) (mv := mv) kk hF a5 hru a11 a12 hh3 (cxk ρ4 h5) (by rw [h5 _ (by omega)]; exact p3k) hk3 T3 c3 (JG (k := mo) hth3 (by omega)) FX3.size hhw hhs (by omega) (by omega) (by omega) (by omega) ?_
   intro ρ' w' l st4 m' g1 g2 g3 g4 g5 g6 g7
   show RW P N _ _ ρ' w'
   have hz := g2.size
   refine next ρ' w' l st4 (JY (k, l) ux) m' cs2 ds2 (fun s hs => by rw [g1 s (by omega), h5 s (by omega)]) g3 (fun y z hy => ?_) g4 g5 (fun j z hz => ?_) l2 g6 (RepF.mono (fun q hq => ⟨hq.1.imp id fun h' => ⟨h'.1, by omega⟩, fun e => ?_⟩) (fun q hq => ?_) fs rp3) (FX3.trans (g2.wide (X' := fun k => k = rb ∨ w.heap.size ≤ k) (fun _ h => h.imp id And.left) (by omega) (by omega))) (hJs n k l st2 st4 cs2 hJ2 hk0 (gotTag G3 g3))
   ·unfold dTagPN
    refine (gotTag G3 g3).bind ?_
    show Got (if k = 0 then (dOpt (f l)).bind _ else _) st4 y z
    rw [if_neg hk0]
    exact hy
   ·have hj := (List.getElem?_eq_some_iff.1 hz).1
    rw [g2.cell (o + j) (.inl (by omega))]
    exact r3 j z hz
   ·have hb3 := hh.hb
    rcases hq.1 with rfl | ⟨h1, h2⟩
    ·exact g2.block q (by omega) hh.nb (fun e => e.elim hh.ne fun h' => by omega)
    ·exact g2.block q h2 (by omega) (fun e => e.elim (by omega) fun h' => h'.2.elim hq.2 (by omega))
   ·rcases g7 q e with e | e
    ·exact hq.2 e
    ·rcases hq.1 with rfl | ⟨h1, h2⟩ <;> omega
 ·have hn0' : n = 0 := by have := of_decide_eq_false e; omega
  subst hn0'
  show J2 bl Q (.exit bl) _ w2
  simp only [J2, if_pos]
  refine hQ _ w2 ux st2 cs2 ds2 mv (fun s hs => by (repeat first | rw [Ja] | rw [Jb _ _ (by omega)]); exact hk s hs) F2 (hG2 _ _ (Got.pure _)) R2 r2 l2 c2 (RepF.mono (fun q hq => hq.1) (fun _ _ => rfl) fs rp2) ?_ hJ2
  have hT := T2.rep (F := fun k => k = sb ∨ h < k) (fun k hk => .inr (by have := hh.hw; omega)) (.inl rfl)
  exact hT.bound.mono (fun k hk => by
   rcases hk with ⟨hk | hk, hk'⟩
   ·exact .inl hk
   ·exact .inr ⟨hk, hk'⟩) (fun _ _ => rfl)
end
section
variable {P : Program} {N : Nat} {Q : UE} {ρ : Nat → Value} {w w' : World} {ms : List MOp} {d : Nat} {R : RN} {G : TG} {rb sb h b o n : Nat} {ev : Value} {st st' : Option (List UInt8)} {sf : Option Nat} {flex : Bool} {ver : Int}
theorem kpHead_ok {vs x t : Nat} (kk : RKOK P R G) (hz0 : zeroIs P R.tR [.nslice, .bool false] = true) (hpl : plcB P R.tR 2 = true) (hcr : Jh P R.tR 2 = true) (hru : R.uv ≠ 0) (hrs : R.span ≠ 0) (h32 : R.T.u32 ≠ 0)
  (hh : FH P R rb sb h b o n ev st w) (cx : RCx R.rs sf flex ver rb vs b o ρ) (h9 : 9 ≤ x) (hrx : R.rs < x) (hxt : x + 3 ≤ t) (hN : t + 22 ≤ N)
  (hQ : ∀ ρ' w' l st' ri, (∀ s, s < x + 2 → ρ' s = ρ s) → ρ' (x + 2) = .pointer (some ⟨ri, 0, none⟩) → w.heap.size ≤ ri → Fr (· = rb) b o n w w' → Got dLV st l st' → RdAt w' rb sb st' → RdAt w' ri sb (some l) → (st' = none → l = []) → Q .normal ρ' w') : RW P N (kpHead R t x) Q ρ w := by
 have hrs7 := cx.hrs
 have hbw : b < w.heap.size := Nat.lt_of_le_of_lt hh.hb hh.hw
 have hz := QX hz0
 unfold kpHead
 refine RW.rg (RL.rd (kk.uv hru) cx.r7 hh.rd hh.ne (ltT (by omega)) (by omega) ?_)
 rintro u s st1 w1 F1 G1 R1 ⟨rfl, hs⟩
 refine RL.s (MR.cvI (n := (s : Nat)) (Ja _ _ _) (kk.ok.tk.u32 h32) kk.ok.tk.int (by omega)) (RL.spanS (n := (s : Nat)) (kk.span hrs) (by show upd _ _ _ R.rs = _; (repeat first | rw [Ja] | rw [Jb _ _ (by omega)]); exact cx.r7) (by show upd _ _ _ _ = _; rw [Ja]; show Value.int .i64 (IntKind.i64.wrap (s : Int)) = _; rw [Ju (by omega) (by omega)]) R1 hh.ne (ltT (by omega)) (ltT (by omega)) (by omega) ?_) (by omega)
 intro ad l st2 w2 F2 G2 R2 had hby _ hle
 have hrb2 := R2.lt
 have hs2 : w.heap.size ≤ w2.heap.size := Nat.le_trans F1.size F2.size
 refine RL.s (MR.bdl (w' := w2) (v := .agg #[.slice ad l.length l.length, .bool false]) ?_ (by simp [MX.lt, Nat.blt_eq]; omega)) (RL.alst (z := [.slice none 0 0, .bool false]) (cs := [.slice ad l.length l.length, .bool false]) (n := 2) hz (Ja _ _ _) (by omega) rfl rfl hcr rfl ?_ (by omega) (by omega)) (by omega)
 ·have hbd := built_of (z := [.slice none 0 0, .bool false]) (parts := [(0, .slice ad l.length l.length)]) (cells := [.slice ad l.length l.length, .bool false]) hz hpl (by simp [Value.cells]) rfl w2
  simp only [List.map_cons, List.map_nil, xof]
  rw [Ja]
  exact hbd
 intro w3 b3 s3 r3 t3
 refine RL.nil ?_
 show Q .normal _ w3
 have hsbw : sb < w2.heap.size := Nat.lt_of_lt_of_le hh.hs hs2
 have F12 : Fr (· = rb) b o n w w2 := (F1.trans F2).rd hh.rbb hbw
 exact hQ _ w3 l st2 w2.heap.size (fun s hs => by (repeat first | rw [Ja] | rw [Jb _ _ (by omega)])) (Ja _ _ _) hs2 (F12.trans (Fr.ofBelow b3 (by omega))) (G1.bind G2) (R2.below b3)
  ⟨ad, l.length, r3, t3, had, Nat.le_refl _, hby.mono (fun _ h => h) (fun k hk => by rw [hk]; exact b3.block sb hsbw)⟩ (fun e => (hle e).2)
theorem kpTail_ok {x p y ri : Nat} {st4 : Option (List UInt8)} (kk : RKOK P R G) (hif : ifaceTy P R.tErr = true) (her : isErr ev) (hev : w.cell? ⟨R.gErr, 0, none⟩ = some ev) (hx : ρ (x + 2) = .pointer (some ⟨ri, 0, none⟩)) (Ri : RdAt w ri sb st4) (h6 : 6 < x) (hxy : x + 2 < y) (hyp : y < p) (hN : p + 4 ≤ N)
  (hQ : ∀ ρ' r, st4 = some r → (∀ s, s < y → ρ' s = ρ s) → Q .normal ρ' w) (hE : ∀ ρ', st4 = none → ρ' 6 = ev → Q .ret ρ' w) : RWL P N (kpTail R x p y) Q ρ w := by
 unfold kpTail
 refine RW.rg (RL.ca (R := fun v w' => v = complV ev st4 ∧ w = w') kk.compl.1 ?_ ?_ (by omega) (by simp [MX.lt, Nat.blt_eq]; omega))
 ·simp only [List.map_cons, List.map_nil, xof, hx]
  refine Calls.mono (kk.compl.2 w ri sb st4 ev Ri hev) ?_
  rintro e w' ⟨rfl, rfl⟩
  exact ⟨_, rfl, rfl, rfl⟩
 rintro v' w' ⟨rfl, rfl⟩
 refine RL.s (MR.mv (Ja _ _ _) (ltT (by omega))) (RL.nil ?_) (by omega)
 show RWL P N _ _ _ w
 generalize hρ4 : upd (upd ρ p _) y _ = ρ4
 have p4 : ∀ s, s < y → ρ4 s = ρ s := fun s hs => by rw [← hρ4]; (repeat first | rw [Ja] | rw [Jb _ _ (by omega)])
 have p4v : ρ4 y = complV ev st4 := by rw [← hρ4]; exact Ja _ _ _
 refine RWL.one (RW.sq (RW.rg (RL.s (MR.mv (v := complV ev st4) p4v (ltT (by omega))) ?_ (by omega))))
 cases hst : st4 with
 | some r =>
  have e : complV ev (some r) = Value.nilIface := rfl
  rw [e]
  refine RL.s (MR.neqNilI (v := Value.nilIface) hif (Ja _ _ _) (.inl rfl) (by omega)) (RL.nil (RW.cd (b := false) (Ja _ _ _) (fun e => by cases e) (fun _ => RW.sk ?_) (by omega))) (by omega)
  exact hQ _ r hst fun s hs => by (repeat first | rw [Ja] | rw [Jb _ _ (by omega)]); exact p4 s hs
 | none =>
  have e : complV ev none = ev := rfl
  rw [e]
  have hb : errB ev = true := by obtain ⟨a1, a2, a3⟩ := her; rw [a3]; rfl
  refine RL.s (MR.neqNilI (v := ev) hif (Ja _ _ _) (.inr her) (by omega)) (RL.nil (RW.cd (b := true) (by rw [Ja, hb]) (fun _ => ?_) (fun e => by cases e) (by omega))) (by omega)
  refine RW.sq (RW.rg (RL.s (MR.mv (v := ev) (by show upd _ _ _ y = _; (repeat first | rw [Ja] | rw [Jb _ _ (by omega)]); rw [p4v, hst]; rfl) (ltT (by omega))) (RL.s (MR.mv (v := ev) (Ja _ _ _) (ltT (by omega))) (RL.nil ?_) (by omega)) (by omega)))
  exact RW.rt (hE _ hst (Ja _ _ _))
end
set_option linter.unusedVariables false
def ZF (w : World) : Flds → List Value → Prop
 | .nil, _ => True
 | .cons _ _ off df ty rest, cs => off + ty.cells ≤ cs.length ∧ Rep w (fun _ => False) ty ((cs.drop off).take ty.cells) (dfl ty df) ∧ ((∃ a b c d, ty = .arr a b c d) → cs[off]? = some (.slice none 0 0)) ∧ ZF w rest cs
theorem zf_of {w : World} : ∀ {fs : Flds} {cs : List MVal}, zfB fs cs = true → ZF w fs (cs.map MVal.val)
 | .nil, _, _ => trivial
 | .cons c idx off df ty rest, cs, h => by
  simp only [zfB, UA, Nat.ble_eq] at h
  obtain ⟨⟨h1, h2⟩, h3⟩ := h
  unfold ZF
  cases hd : defT ty ((cs.drop off).take ty.cells) with
  | none => simp [hd] at h2
  | some d =>
   simp only [hd] at h2
   have e := eqD0_eq h2
   subst e
   refine ⟨by rw [List.length_map]; exact h1, ?_, ?_, zf_of h3⟩
   ·have := defT_rep (w := w) (F := fun _ => False) hd
    rwa [List.map_take, List.map_drop] at this
   ·rintro ⟨a, b, c', d', rfl⟩
    unfold defT at hd
    split at hd
    ·rename_i heq
     have : cs[off]? = some .nslice := by
      have e2 : ((cs.drop off).take (Ty.arr a b c' d').cells)[0]? = some .nslice := by rw [heq]; rfl
      rw [List.getElem?_take] at e2
      split at e2
      ·rw [List.getElem?_drop] at e2; exact e2
      ·simp at e2
     rw [List.getElem?_map, this]; rfl
    ·simp at hd
section
variable {P : Program} {N : Nat} {Q : UE} {ρ : Nat → Value} {w w' : World} {ms : List MOp} {R : RN} {G : TG} {rb sb h b o n : Nat} {ev : Value} {st st' : Option (List UInt8)} {sf : Option Nat} {flex : Bool} {ver : Int}
theorem tagsR_le {T vs t x bl : Nat} {tg : Option TgF} : t ≤ (QN R G sf T vs tg t x bl).2.1 ∧ x ≤ (QN R G sf T vs tg t x bl).2.2.1 := by
 unfold QN
 split
 ·simp
 ·dsimp only; omega
 ·simp
theorem tagsR_x {T vs t t2 x bl : Nat} {tg : Option TgF} : (QN R G sf T vs tg t x bl).2.2 = (QN R G sf T vs tg t2 x bl).2.2 := by
 unfold QN
 split <;> rfl
theorem condR_le {c : Cnd} {t x : Nat} {body : Nat → Jc × Nat × Nat × Nat} (h : ∀ t, t ≤ (body t).2.1 ∧ x ≤ (body t).2.2.1) : t ≤ (condR R c t body).2.1 ∧ x ≤ (condR R c t body).2.2.1 := by
 unfold condR
 split
 ·exact h t
 ·have := h (t + 2); simp only; omega
 ·have := h (t + 6); simp only; omega
 ·exact h t
mutual
theorem genRFld_le : ∀ (ty : Ty) {R : RN} {T vs idx t x bk : Nat}, t ≤ (JN R G sf ty T vs idx t x bk).2.1 ∧ x ≤ (JN R G sf ty T vs idx t x bk).2.2.1
 | .prim k ty, R, T, vs, idx, t, x, bk => by
  have := @primU_le R sf T vs idx x t k ty
  unfold JN
  simp only; omega
 | .arr nul ty ety el, R, T, vs, idx, t, x, bk => by
  have h1 := @lenR_le R sf x (t + 5)
  have h2 := elR_le el (R := R) (ty := ty) (ety := ety) (t := (lenR R sf x (t + 5)).2 + nulT nul + 15) (x := x) (bk := bk)
  unfold JN
  simp only [arrR, arrRL]; omega
 | .enum _ _ _, R, T, vs, idx, t, x, bk => by unfold JN; simp only [enumR]; omega
 | .vstr lim ty base, R, T, vs, idx, t, x, bk => by
  have := @vstrR_le R sf T vs idx lim ty base t x
  unfold JN; simp only; omega
 | .struct T' _ fDef tg fs, R, T, vs, idx, t, x, bk => by
  have h1 := QS fs (R := R) (T := T') (vs := x + 1) (t := t + 6) (x := x + 2) (bk := bk)
  have h2 := genRT_le (R := R) (tg := tg) fs (T := T') (vs := x + 1) (t := (Jv R G sf fs T' (x + 1) (t + 6) (x + 2) bk).2.1) (x := (Jv R G sf fs T' (x + 1) (t + 6) (x + 2) bk).2.2.1) (bk := (Jv R G sf fs T' (x + 1) (t + 6) (x + 2) bk).2.2.2)
  unfold JN
  simp only; omega
theorem elR_le : ∀ (el : Ty) {R : RN} {ty ety t x bk : Nat}, t ≤ (elR R G sf el ty ety t x bk).2.1 ∧ x + 5 ≤ (elR R G sf el ty ety t x bk).2.2.1
 | .prim k _, R, ty, ety, t, x, bk => by
  have h2 := @elemU_le R sf ty ety x t k
  unfold elR
  simp only; omega
 | .struct T _ fDef tg fs, R, ty, ety, t, x, bk => by
  have h1 := QS fs (R := R) (T := T) (vs := x + 5) (t := t + 6) (x := x + 6) (bk := bk + 2)
  have h2 := genRT_le (R := R) (tg := tg) fs (T := T) (vs := x + 5) (t := (Jv R G sf fs T (x + 5) (t + 6) (x + 6) (bk + 2)).2.1) (x := (Jv R G sf fs T (x + 5) (t + 6) (x + 6) (bk + 2)).2.2.1) (bk := (Jv R G sf fs T (x + 5) (t + 6) (x + 6) (bk + 2)).2.2.2)
  unfold elR
  simp only; omega
 | .arr _ _ _ _, R, ty, ety, t, x, bk => by unfold elR; exact ⟨Nat.le_refl _, Nat.le_refl _⟩
 | .enum _ _ _, R, ty, ety, t, x, bk => by unfold elR; exact ⟨Nat.le_refl _, Nat.le_refl _⟩
 | .vstr _ _ _, R, ty, ety, t, x, bk => by unfold elR; exact ⟨Nat.le_refl _, Nat.le_refl _⟩
theorem QS : ∀ (fs : Flds) {R : RN} {T vs t x bk : Nat}, t ≤ (Jv R G sf fs T vs t x bk).2.1 ∧ x ≤ (Jv R G sf fs T vs t x bk).2.2.1
 | .nil, R, T, vs, t, x, bk => by simp [Jv]
 | .cons c idx off df ty rest, R, T, vs, t, x, bk => by
  have h0 := QS rest (R := R) (T := T) (vs := vs) (t := t) (x := x) (bk := bk)
  have h1 := @condR_le R c t x (fun t => JN R G sf ty T vs idx t x bk) (fun t => genRFld_le ty)
  have h2 := QS rest (R := R) (T := T) (vs := vs) (t := (condR R c t fun t => JN R G sf ty T vs idx t x bk).2.1) (x := (condR R c t fun t => JN R G sf ty T vs idx t x bk).2.2.1) (bk := (condR R c t fun t => JN R G sf ty T vs idx t x bk).2.2.2)
  simp only [Jv]
  split
  ·exact h0
  ·dsimp only; omega
theorem genRT_le {tg : Option TgF} : ∀ (fs : Flds) {R : RN} {T vs t x bk : Nat}, t ≤ (J6 R G sf tg fs T vs t x bk).2.1 ∧ x ≤ (J6 R G sf tg fs T vs t x bk).2.2.1
 | .nil, R, T, vs, t, x, bk => by simp only [J6]; exact tagsR_le
 | .cons c idx off df ty rest, R, T, vs, t, x, bk => by
  have hp := genRPay_le ty (R := { R with rs := x + 2 }) (T := T) (vs := vs) (idx := idx) (t := t + 22) (x := x + 3) (bk := bk + 3)
  have h0 := genRT_le (tg := tg) rest (R := R) (T := T) (vs := vs) (t := t) (x := x) (bk := bk)
  unfold J6
  cases hc : c.isTag with
  | false => simpa [hc] using h0
  | true =>
   simp only [if_true]
   cases tg with
   | none => simp
   | some q =>
    revert hp
    cases sf with
    | none => intro _; simp
    | some s => intro hp; dsimp only; omega
theorem genRPay_le : ∀ (ty : Ty) {R : RN} {T vs idx t x bk : Nat}, t ≤ (JQ R G sf ty T vs idx t x bk).2.1 ∧ x ≤ (JQ R G sf ty T vs idx t x bk).2.2.1
 | .prim .., R, T, vs, idx, t, x, bk => by simp [JQ]
 | .enum .., R, T, vs, idx, t, x, bk => by simp [JQ]
 | .vstr .., R, T, vs, idx, t, x, bk => by simp [JQ]
 | .arr nul ty ety el, R, T, vs, idx, t, x, bk => by
  have h1 := @lenR_le R sf x (t + 5)
  have h2 := elR_le el (R := R) (ty := ty) (ety := ety) (t := (lenR R sf x (t + 5)).2 + nulT nul + 15) (x := x) (bk := bk)
  unfold JQ
  simp only [arrRL]; omega
 | .struct T' _ fDef tg fs, R, T, vs, idx, t, x, bk => by
  have h1 := QS fs (R := R) (T := T') (vs := x + 1) (t := t + 6) (x := x + 2) (bk := bk)
  have h2 := tagsR_le (R := R) (G := G) (sf := sf) (T := T') (vs := x + 1) (t := (Jv R G sf fs T' (x + 1) (t + 6) (x + 2) bk).2.1) (x := (Jv R G sf fs T' (x + 1) (t + 6) (x + 2) bk).2.2.1) (bl := (Jv R G sf fs T' (x + 1) (t + 6) (x + 2) bk).2.2.2) (tg := tg)
  unfold JQ
  simp only; omega
end
theorem condR_x {c : Cnd} {t1 t2 : Nat} {body : Nat → Jc × Nat × Nat × Nat} (h : ∀ t1 t2, (body t1).2.2 = (body t2).2.2) : (condR R c t1 body).2.2 = (body t2).2.2 := by
 cases c <;> simp only [condR] <;> exact h _ _
mutual
theorem genRFld_x : ∀ (ty : Ty) (R : RN) (T vs idx t1 t2 x bk : Nat), (JN R G sf ty T vs idx t1 x bk).2.2 = (JN R G sf ty T vs idx t2 x bk).2.2
 | .prim k ty, R, T, vs, idx, t1, t2, x, bk => by unfold JN; rfl
 | .arr nul ty ety el, R, T, vs, idx, t1, t2, x, bk => by
  unfold JN
  simp only [arrR, arrRL]
  exact elR_x el _ _ _ _ _ _ _
 | .enum _ _ _, R, T, vs, idx, t1, t2, x, bk => by unfold JN; rfl
 | .vstr _ _ _, R, T, vs, idx, t1, t2, x, bk => by unfold JN; rfl
 | .struct T' _ fDef tg fs, R, T, vs, idx, t1, t2, x, bk => by
  unfold JN
  have := genRF_x fs R T' (x + 1) (t1 + 6) (t2 + 6) (x + 2) bk
  simp only [this]
  exact genRT_x fs _ _ _ _ _ _ _
theorem elR_x : ∀ (el : Ty) (R : RN) (ty ety t1 t2 x bk : Nat), (elR R G sf el ty ety t1 x bk).2.2 = (elR R G sf el ty ety t2 x bk).2.2
 | .prim k _, R, ty, ety, t1, t2, x, bk => by unfold elR; rfl
 | .struct T _ fDef tg fs, R, ty, ety, t1, t2, x, bk => by
  unfold elR
  have := genRF_x fs R T (x + 5) (t1 + 6) (t2 + 6) (x + 6) (bk + 2)
  simp only [this]
  exact genRT_x fs _ _ _ _ _ _ _
 | .arr _ _ _ _, R, ty, ety, t1, t2, x, bk => by unfold elR; rfl
 | .enum _ _ _, R, ty, ety, t1, t2, x, bk => by unfold elR; rfl
 | .vstr _ _ _, R, ty, ety, t1, t2, x, bk => by unfold elR; rfl
theorem genRF_x : ∀ (fs : Flds) (R : RN) (T vs t1 t2 x bk : Nat), (Jv R G sf fs T vs t1 x bk).2.2 = (Jv R G sf fs T vs t2 x bk).2.2
 | .nil, R, T, vs, t1, t2, x, bk => by simp [Jv]
 | .cons c idx off df ty rest, R, T, vs, t1, t2, x, bk => by
  have e : ∀ t, (condR R c t fun t => JN R G sf ty T vs idx t x bk).2.2 = (JN R G sf ty T vs idx 0 x bk).2.2 := fun t => condR_x (fun a b => genRFld_x ty R T vs idx a b x bk)
  have h0 := genRF_x rest R T vs t1 t2 x bk
  simp only [Jv]
  split
  ·exact h0
  ·rw [e t1, e t2]
   exact genRF_x rest _ _ _ _ _ _ _
theorem genRT_x {tg : Option TgF} : ∀ (fs : Flds) (R : RN) (T vs t1 t2 x bk : Nat), (J6 R G sf tg fs T vs t1 x bk).2.2 = (J6 R G sf tg fs T vs t2 x bk).2.2
 | .nil, R, T, vs, t1, t2, x, bk => by simp only [J6]; exact tagsR_x
 | .cons c idx off df ty rest, R, T, vs, t1, t2, x, bk => by
  have hp := genRPay_x ty { R with rs := x + 2 } T vs idx (t1 + 22) (t2 + 22) (x + 3) (bk + 3)
  have h0 := genRT_x (tg := tg) rest R T vs t1 t2 x bk
  unfold J6
  cases hc : c.isTag with
  | false => simpa [hc] using h0
  | true =>
   simp only [if_true]
   cases tg with
   | none => rfl
   | some q =>
    revert hp
    cases sf with
    | none => intro _; rfl
    | some s => intro hp; simp only [hp]
theorem genRPay_x : ∀ (ty : Ty) (R : RN) (T vs idx t1 t2 x bk : Nat), (JQ R G sf ty T vs idx t1 x bk).2.2 = (JQ R G sf ty T vs idx t2 x bk).2.2
 | .prim .., R, T, vs, idx, t1, t2, x, bk => by simp [JQ]
 | .enum .., R, T, vs, idx, t1, t2, x, bk => by simp [JQ]
 | .vstr .., R, T, vs, idx, t1, t2, x, bk => by simp [JQ]
 | .arr nul ty ety el, R, T, vs, idx, t1, t2, x, bk => by
  unfold JQ
  simp only [arrRL]
  exact elR_x el _ _ _ _ _ _ _
 | .struct T' _ fDef tg fs, R, T, vs, idx, t1, t2, x, bk => by
  unfold JQ
  have := genRF_x fs R T' (x + 1) (t1 + 6) (t2 + 6) (x + 2) bk
  simp only [this]
  exact tagsR_x
end
theorem RW.twS {s ty lo hi t L : Nat} {v : Int} (hs : s < L) (hv : ρ s = .int .i16 v) (ht : L ≤ t) (hN : t + 6 ≤ N)
  (h : ∀ ρ', (∀ s, s < L → ρ' s = ρ s) → ρ' (t + 5) = .bool (decide ((lo : Int) ≤ v) && decide (v ≤ hi)) → Q .normal ρ' w) : RW P N (.tw s ty lo hi t) Q ρ w := by
 intro a ha
 have hl : Loc N L ρ a := ⟨ha.size, ha.defers, fun s hs => ha.get s (by omega)⟩
 refine MW.tw (N := N) (L := L) hl hs hv ht hN fun a' hl' h5 => ?_
 exact ⟨rd a', ⟨hl'.size, hl'.defers, fun _ _ => rfl⟩, h _ (fun s hs => hl'.get s hs) h5⟩
theorem condR_ok {c : Cnd} {t L : Nat} {body : Nat → Jc × Nat × Nat × Nat} (hct : c.isTag = false) (h16 : JC P R.T.i16 .i16 = true) (r8 : ρ 8 = .int .i16 ver) (hL8 : 8 < L) (hL : L ≤ t) (hb : ∀ t, t ≤ (body t).2.1) (hN : (condR R c t body).2.1 ≤ N)
  (hyes : c.ok ver = true → ∀ ρ' t', (∀ s, s < L → ρ' s = ρ s) → L ≤ t' → (body t').2.1 ≤ N → RW P N (body t').1 Q ρ' w) (hno : c.ok ver = false → ∀ ρ', (∀ s, s < L → ρ' s = ρ s) → Q .normal ρ' w) : RW P N (condR R c t body).1 Q ρ w := by
 unfold condR at hN ⊢
 cases c with
 | always => exact hyes rfl ρ t (fun _ _ => rfl) hL hN
 | ge lo =>
  simp only at hN ⊢
  have := hb (t + 2)
  refine RW.sq (RW.rg (RL.s (MR.mv r8 (ltT (by omega))) (RL.s (MR.biE (v := .bool (decide ((lo : Int) ≤ ver))) (by show evB .geq (upd _ _ _ _) (.int .i16 (lo : Nat)) = _; rw [Ja]; rfl) (ltT (by omega)) rfl) (RL.nil ?_) (by omega)) (by omega)))
  refine RW.cd (Ja _ _ _) (fun e => hyes e _ _ (fun s hs => by (repeat first | rw [Ja] | rw [Jb _ _ (by omega)])) (by omega) hN) (fun e => RW.sk (hno e _ (fun s hs => by (repeat first | rw [Ja] | rw [Jb _ _ (by omega)])))) (by omega)
 | btw lo hi =>
  simp only at hN ⊢
  have := hb (t + 6)
  refine RW.sq (RW.twS (L := L) hL8 r8 hL (by omega) fun ρ' h1 h2 => ?_)
  refine RW.cd h2 (fun e => hyes e _ _ h1 (by omega) hN) (fun e => RW.sk (hno e _ h1)) (by omega)
 | tag => cases hct
theorem RepF.more {F : Nat → Prop} {tl : List Value} : ∀ {fs : Flds} {cs : List Value} {ds : List D}, RepF w F fs cs ds → RepF w F fs (cs ++ tl) ds
 | .nil, _, _, h => by unfold RepF at h ⊢; exact h
 | .cons c idx off df ty rest, cs, ds, h => by
  unfold RepF at h ⊢
  obtain ⟨h1, d, ds', h2, h3, h4⟩ := h
  refine ⟨by rw [UD]; omega, d, ds', h2, ?_, RepF.more h4⟩
  rw [List.drop_append_of_le_length (by omega), List.take_append_of_le_length (by rw [List.length_drop]; omega)]
  exact h3
theorem ZF.keep {cs cs' : List Value} {k : Nat} (hd : cs'.drop k = cs.drop k) (hl : cs'.length = cs.length) : ∀ (fs : Flds) {T n : Nat}, wfRF P R G sf fs T n k = true → ZF w fs cs → ZF w' fs cs'
 | .nil, _, _, _, _ => trivial
 | .cons c idx off df ty rest, T, n, hwf, h => by
  simp only [wfRF, UA, Nat.ble_eq] at hwf
  obtain ⟨⟨⟨g1, g2⟩, g3⟩, g4⟩ := hwf
  unfold ZF at h ⊢
  obtain ⟨h1, h2, h3, h4⟩ := h
  refine ⟨by omega, ?_, fun e => ?_, ?_⟩
  ·rw [part_of_drop hd g1]; exact Rep.mono (fun _ h => h) (fun b hb => hb.elim) ty h2
  ·have := h3 e
   have e2 : cs'[off]? = cs[off]? := by
    have e3 : ∀ l : List Value, l[off]? = (l.drop k)[off - k]? := fun l => by rw [List.getElem?_drop]; congr 1; omega
    rw [e3, e3, hd]
   rw [e2]; exact this
  ·have hd' : cs'.drop (off + ty.cells) = cs.drop (off + ty.cells) := by
    have e : ∀ l : List Value, l.drop (off + ty.cells) = (l.drop k).drop (off + ty.cells - k) := fun l => by rw [List.drop_drop]; congr 1; omega
    rw [e, e, hd]
   exact ZF.keep hd' hl rest g4 h4
theorem knAt_of {T m : Nat} {fs : Flds} {kn : List KT} {cs cs' : List Value} {out : List Tg} (hkr : krB P R G T m fs kn = true) (h : ∀ q ∈ kn, q.off < m → gapF fs q.off = true → cs'[q.off]? = cs[q.off]?) (hk : KnAt kn cs out) : KnAt kn cs' out := by
 cases kn with
 | nil => exact hk
 | cons p r => simp [krB] at hkr
def TgP (P : Program) (R : RN) (G : TG) (w : World) (T b o n m : Nat) (fs : Flds) (cs : List Value) : Option TgF → Prop
 | none => n = m
 | some q => m = q.2 ∧ n = m + 1 ∧ Jd P T q.1.1 q.2 = true ∧ G.fRead ≠ 0 ∧ w.cell? ⟨b, o + m, none⟩ = some (.map none) ∧ krB P R G T m fs q.1.2 = true ∧ KnAt q.1.2 cs []
theorem RWL.tags {T vs t x bl L m : Nat} {tg : Option TgF} {fs : Flds} {ds : List D} {cs : List Value} (kk : RKOK P R G) (hh : FH P R rb sb h b o m ev st w) (hne : b < w.heap.size) (hth : w.there b o n) (cx : RCx R.rs sf flex ver rb vs b o ρ) (hx9 : 9 ≤ x) (hs : ∀ s, sf = some s → s < x) (hvx : vs < x) (hxL : (QN R G sf T vs tg t x bl).2.2.1 ≤ L) (hL : L ≤ t) (hN : (QN R G sf T vs tg t x bl).2.1 ≤ N)
  (htg : TgP P R G w T b o n m fs cs tg) (hr : w.rangeAt b o cs) (hl : cs.length = m) (hrep : RepF w (FB sb h w) fs cs ds) {rest : List Jc}
  (hQ : ∀ ρ' w' tags st' cs' tl, (∀ s, s < x → ρ' s = ρ s) → Fr (· = rb) b o n w w' → Got (if tg.isSome && flex then (dTagsK (knOf tg)).map (fun ts => (ds, ts)) else Dec.pure (ds, [])) st (ds, tags) st' → RdAt w' rb sb st' → w'.rangeAt b o (cs' ++ tl) → cs'.length + tl.length = n → RepF w' (FB sb h w') fs cs' ds → TagsAt w' (FB sb h w') tg (cs' ++ tl) tags → (∀ j, (∀ q ∈ knOf tg, q.off ≠ j) → cs'[j]? = cs[j]?) → RWL P N rest Q ρ' w')
  (hE : ∀ ρ' w', ρ' 6 = ev → Fr (· = rb) b o n w w' → (∀ y, Got (if tg.isSome && flex then (dTagsK (knOf tg)).map (fun ts => (ds, ts)) else Dec.pure (ds, [])) st y none) → Q .ret ρ' w') :
  RWL P N ((QN R G sf T vs tg t x bl).1 ++ rest) Q ρ w := by
 have hrs7 := cx.hrs
 have hxl := @tagsR_le R G sf T vs t x bl tg
 have put1 : ∀ {w' : World} {cs' : List Value} {v : Value}, w'.rangeAt b o cs' → cs'.length = m → w'.cell? ⟨b, o + m, none⟩ = some v → w'.rangeAt b o (cs' ++ [v]) := by
  intro w' cs' v h1 h2 h3 j u hj
  by_cases h4 : j < cs'.length
  ·rw [List.getElem?_append_left h4] at hj; exact h1 j u hj
  ·rw [List.getElem?_append_right (by omega)] at hj
   have hj0 : j - cs'.length = 0 := by
    have := (List.getElem?_eq_some_iff.1 hj).1
    simp at this; omega
   rw [hj0] at hj
   simp only [List.getElem?_cons_zero, UC] at hj
   subst hj
   rw [show o + j = o + m from by omega]; exact h3
 have knT : ∀ {cs' : List Value} {kn : List KT} {out : List Tg} {v : Value}, KnAt kn cs' out → KnAt kn (cs' ++ [v]) out := by
  intro cs' kn
  induction kn with
  | nil => intro out v h; exact h
  | cons q r ih =>
   rintro out v ⟨u, n, out', h1, h2, h3, h4⟩
   exact ⟨u, n, out', by rw [List.getElem?_append_left (List.getElem?_eq_some_iff.1 h1).1]; exact h1, h2, h3, ih h4⟩
 have noTags : (tg.isSome && flex) = false → ∀ ρ', (∀ s, s < x → ρ' s = ρ s) → RWL P N rest Q ρ' w := by
  intro hno ρ' hρ'
  cases htg' : tg with
  | none =>
   refine hQ ρ' w [] st cs [] hρ' (Fr.refl _ _ _ _ _) ?_ hh.rd (by rw [List.append_nil]; exact hr) (by rw [htg'] at htg; have h0 : n = m := htg; simp only [List.length_nil]; omega) hrep ?_ (fun _ _ => rfl)
   ·rw [hno]; exact Got.pure _
   ·rw [htg']; rfl
  | some q =>
   rw [htg'] at htg
   obtain ⟨g1, g2, g3, g4, g5, g6, g7⟩ := htg
   refine hQ ρ' w [] st cs [.map none] hρ' (Fr.refl _ _ _ _ _) ?_ hh.rd (put1 hr hl g5) (by simp only [List.length_cons, List.length_nil]; omega) hrep ?_ (fun _ _ => rfl)
   ·rw [hno]; exact Got.pure _
   ·rw [htg']
    refine ⟨.map none, [], [], ?_, .inl ⟨rfl, rfl⟩, knT g7, rfl, by simp [unKn]⟩
    rw [← g1, ← hl, List.getElem?_append_right (Nat.le_refl _), Nat.sub_self]; rfl
 cases htg' : tg with
 | none =>
  unfold QN
  simp only [List.nil_append]
  exact noTags (by rw [htg']; rfl) ρ fun _ _ => rfl
 | some q =>
  obtain ⟨⟨idx, kn⟩, off⟩ := q
  cases hsf : sf with
  | none =>
   have e : (QN R G none T vs (some ((idx, kn), off)) t x bl).1 = [] := by unfold QN; cases kn <;> rfl
   rw [e, List.nil_append]
   exact noTags (by rw [cx.nf hsf]; simp) ρ fun _ _ => rfl
  | some s =>
   rw [htg', hsf] at hN hxL hxl
   rw [htg'] at htg
   obtain ⟨g1, g2, g3, g4, g5, g6, g7⟩ := htg
   have hsx := hs s hsf
   have goTags : ∀ (body : Jc) (hc : flex = true → ∀ ρ', (∀ s, s < L → ρ' s = ρ s) → RW P N body (QP (fun ρ w => RWL P N rest Q ρ w) Q) ρ' w), t < N → RW P N (.sq (.rg [.mv t (.t s)]) (.cd t body .sk)) (QP (fun ρ w => RWL P N rest Q ρ w) Q) ρ w := by
    intro body hc htN
    refine RW.sq (RW.rg (RL.s (MR.mv (cx.rf s hsf) (ltT (by omega))) (RL.nil ?_) (by omega)))
    exact RW.cd (Ja _ _ _) (fun e => hc e _ fun s hs => by (repeat first | rw [Ja] | rw [Jb _ _ (by omega)])) (fun e => RW.sk (noTags (by rw [e]; simp) _ fun s hs => by (repeat first | rw [Ja] | rw [Jb _ _ (by omega)]))) (by omega)
   cases kn with
   | nil =>
    simp only [QN] at hN hxL ⊢
    simp only [List.cons_append, List.nil_append]
    refine goTags _ (fun e ρ0 hρ0 => ?_) (by omega)
    have cx0 := cx.keep (x := x) (ρ' := ρ0) (fun s hs => hρ0 s (by omega)) (by omega) hs hvx
    refine RW.rg (RL.s (MR.mv (v := .pointer (some ⟨b, o, none⟩)) cx0.rv (ltT (by omega))) ?_ (by omega))
    refine RL.ca (R := fun v w' => ∃ m tags st', v = .agg #[m] ∧ m.oneCell' = true ∧ Fr (fun _ => False) rb 0 2 w w' ∧ Got dTags st tags st' ∧ RdAt w' rb sb st' ∧ RepT w' (Rb w sb) m tags) (kk.tag g4).1 ?_ ?_ (by omega) (by simp [MX.lt, Nat.blt_eq]; omega)
    ·simp only [List.map_cons, List.map_nil, xof]
     (repeat first | rw [Ja] | rw [Jb _ _ (by omega)])
     rw [cx0.r7]
     refine Calls.mono ((kk.tag g4).2 w rb sb st hh.rd hh.ne hh.hs) ?_
     rintro e w' ⟨m, tags, st', rfl, h⟩
     exact ⟨_, rfl, m, tags, st', rfl, h⟩
    rintro v w2 ⟨m', tags, st', rfl, k1, k2, k3, k4, k5⟩
    have F1 : Fr (· = rb) b o n w w2 := k2.rd hh.rbb hne
    have g1' : m = off := g1
    have ht2 : w2.there b (o + off) 1 := JG (F1.there _ _ hth) (by omega)
    refine RL.s (MR.nc (p := ⟨b, o, none⟩) (by (repeat first | rw [Ja] | rw [Jb _ _ (by omega)])) (by omega)) (RL.s (MR.fa (Ja _ _ _) g3 (by omega)) (RL.stA (cs := [m']) (b := b) (o := o + off) (Ja _ _ _) (by (repeat first | rw [Ja] | rw [Jb _ _ (by omega)])) kk.tg.sc ht2 (by simp [k1]) (RL.nil ?_) (by omega) (by omega)) (by omega)) (by omega)
    have F2 : Fr (· = rb) b o n w2 (w2.setCells b (o + off) [m']) := Fr.put _ (by omega) (by simp; omega)
    have F2' : Fr (· = rb) b (o + off) 1 w2 (w2.setCells b (o + off) [m']) := Fr.put _ (by omega) (by simp)
    have hh2 : FH P R rb sb h b o m ev st' w2 := hh.keep (o' := o) (n' := n) F1 k4
    have F1' : Fr (· = rb) b o 0 w w2 := k2.rd hh.rbb hne
    have hrng : (w2.setCells b (o + off) [m']).rangeAt b o (cs ++ [m']) := by
     refine put1 (fun j v hj => ?_) hl ?_
     ·have := (List.getElem?_eq_some_iff.1 hj).1
      rw [F2'.cell (o + j) (.inl (by omega)), F1'.cell (o + j) (.inr (by omega))]
      exact hr j v hj
     ·have := World.rangeAt_setCells_same w2 b (o + off) [m'] ht2 0 m' rfl
      rw [show o + m = o + off + 0 from by omega]; exact this
    have hsz : w2.heap.size ≤ (w2.setCells b (o + off) [m']).heap.size := F2.size
    show RWL P N rest Q _ _
    refine hQ _ _ tags st' cs [m'] (fun s hs => by (repeat first | rw [Ja] | rw [Jb _ _ (by omega)]); exact hρ0 s (by omega)) (F1.trans F2) ?_ ?_ hrng (by simp only [List.length_cons, List.length_nil]; omega) ?_ ?_ (fun _ _ => rfl)
    ·rw [htg', e]
     show Got ((dTagsK []).map _) st _ st'
     rw [dTagsK_nil]
     exact k3.map (f := fun ts => (ds, ts))
    ·exact k4.keep (Jp b _ _ _ rb (fun e => hh.rbb e.symm)) (Jp b _ _ _ sb hh.nb)
    ·exact RepF.mono (fun k hk => (hh2.fb F2).1 k ((hh.fb F1).1 k hk)) (fun k hk => by rw [(hh2.fb F2).2 k ((hh.fb F1).1 k hk), (hh.fb F1).2 k hk]) _ hrep
    ·rw [htg']
     refine ⟨m', [], tags, by rw [← g1, ← hl, List.getElem?_append_right (Nat.le_refl _), Nat.sub_self]; rfl, ?_, rfl, rfl, by intro t _ q hq; simp at hq⟩
     refine RepT.mono k5.bound (fun k hk => ?_) (fun k hk => Jp b _ _ _ k ?_)
     ·rcases hk with ⟨hk | hk, hk'⟩
      ·exact .inl hk
      ·exact .inr ⟨Nat.lt_of_lt_of_le hh.hw hk, Nat.lt_of_lt_of_le hk' hsz⟩
     ·rcases hk with ⟨rfl | hk, _⟩
      ·exact hh.nb
      ·exact fun e => by omega
   | cons q r => simp [krB] at g6
theorem wfRF_n : ∀ (fs : Flds) {T n k : Nat}, wfRF P R G sf fs T n k = true → k ≤ n
 | .nil, T, n, k, h => by simpa [wfRF] using h
 | .cons c idx off df ty rest, T, n, k, h => by
  simp only [wfRF, UA, Nat.ble_eq] at h
  obtain ⟨⟨⟨h1, _⟩, _⟩, h4⟩ := h
  have := wfRF_n rest h4
  omega
theorem ze_arr {ty ety ec : Nat} (h : arrB P R sf ty ety ec = true) : ∃ zs, zeroM P ety = some zs ∧ zs.length = ec := by
 simp only [arrB, UA] at h
 obtain ⟨⟨⟨⟨⟨⟨⟨⟨_, _⟩, _⟩, _⟩, f6⟩, _⟩, _⟩, _⟩, _⟩ := h
 cases hz : zeroM P ety with
 | none => simp [hz] at f6
 | some zs => simp only [hz, Nat.beq_eq] at f6; exact ⟨zs, rfl, f6⟩
theorem zf_rep {w' : World} : ∀ (fs : Flds) {T m k : Nat} {us : List Value}, wfRF P R G sf fs T m k = true → m ≤ us.length → RepF w (fun _ => False) fs us (dflF fs) → ZF w' fs (us.take m)
 | .nil, _, _, _, _, _, _, _ => trivial
 | .cons c idx off df ty rest, T, m, k, us, hwf, hl, h => by
  simp only [wfRF, UA, Nat.ble_eq] at hwf
  obtain ⟨⟨⟨g1, g2⟩, g3⟩, g4⟩ := hwf
  have hn : off + ty.cells ≤ m := wfRF_n rest g4
  unfold RepF dflF at h
  obtain ⟨h1, d, ds', h2, h3, h4⟩ := h
  injection h2 with h5 h6
  subst h5 h6
  unfold ZF
  have hp : ((us.take m).drop off).take ty.cells = (us.drop off).take ty.cells := by rw [List.drop_take, List.take_take, Nat.min_eq_left (by omega)]
  refine ⟨by rw [List.length_take]; omega, ?_, ?_, zf_rep rest g4 hl h4⟩
  ·rw [hp]; exact Rep.mono (fun _ h => h) (fun b hb => hb.elim) ty h3
  ·rintro ⟨a, b, c', d', rfl⟩
   unfold Rep at h3
   have hc1 : (Ty.arr a b c' d').cells = 1 := rfl
   rw [hc1] at h3 hn
   obtain ⟨isnul, xs, _, ⟨e2, _⟩ | ⟨_, ab, arr, cap, _, e3, _⟩⟩ := h3
   ·have e : ((us.drop off).take 1)[0]? = some (.slice none 0 0) := by rw [e2]; rfl
    rw [List.getElem?_take, if_pos (by omega), List.getElem?_drop] at e
    rw [List.getElem?_take, if_pos (by omega)]
    exact e
   ·exact e3.elim
end
section
variable {P : Program} {N : Nat} {Q : UE} {ρ : Nat → Value} {w w' : World} {ms : List MOp} {d : Nat} {R : RN} {G : TG} {rb sb h b o n : Nat} {ev : Value} {st st' : Option (List UInt8)} {sf : Option Nat} {flex : Bool} {ver : Int}
theorem RWL.tags0 {T vs t x bl L m s idx : Nat} {cs : List Value} (kk : RKOK P R G) (hh : FH P R rb sb h b o m ev st w) (hth : w.there b o (m + 1)) (cx : RCx R.rs sf flex ver rb vs b o ρ) (hx9 : 9 ≤ x) (hsf : sf = some s) (hfl : flex = true) (hsx : s < x) (hvx : vs < x) (hxL : x ≤ L) (hL : L ≤ t) (hN : t + 5 ≤ N)
  (hF : Jd P T idx m = true) (hfr : G.fRead ≠ 0) (hr : w.rangeAt b o cs) (hl : cs.length = m) {rest : List Jc}
  (hQ : ∀ ρ' w' tags st' m', (∀ s, s < x → ρ' s = ρ s) → Fr (· = rb) b o (m + 1) w w' → Got dTags st tags st' → RdAt w' rb sb st' → w'.rangeAt b o (cs ++ [m']) → RepT w' (FB sb h w') m' tags → RWL P N rest Q ρ' w') : RWL P N ((QN R G sf T vs (some ((idx, []), m)) t x bl).1 ++ rest) Q ρ w := by
 have hrs7 := cx.hrs
 have hne : b < w.heap.size := Nat.lt_of_le_of_lt hh.hb hh.hw
 subst hsf hfl
 simp only [QN, List.cons_append, List.nil_append]
 refine RW.sq (RW.rg (RL.s (MR.mv (cx.rf s rfl) (ltT (by omega))) (RL.nil ?_) (by omega)))
 refine RW.cd (b := true) (Ja _ _ _) (fun _ => ?_) (fun e => by cases e) (by omega)
 generalize hρ0 : upd ρ t _ = ρ0
 have p0 : ∀ s, s < t → ρ0 s = ρ s := fun s hs => by rw [← hρ0]; exact Jb _ _ (by omega)
 have cx0 := cx.keep (x := x) (ρ' := ρ0) (fun s hs => p0 s (by omega)) (by omega) (fun s' e => by cases e; exact hsx) hvx
 refine RW.rg (RL.s (MR.mv (v := .pointer (some ⟨b, o, none⟩)) cx0.rv (ltT (by omega))) ?_ (by omega))
 refine RL.ca (R := fun v w' => ∃ m tags st', v = .agg #[m] ∧ m.oneCell' = true ∧ Fr (fun _ => False) rb 0 2 w w' ∧ Got dTags st tags st' ∧ RdAt w' rb sb st' ∧ RepT w' (Rb w sb) m tags) (kk.tag hfr).1 ?_ ?_ (by omega) (by simp [MX.lt, Nat.blt_eq]; omega)
 ·simp only [List.map_cons, List.map_nil, xof]
  (repeat first | rw [Ja] | rw [Jb _ _ (by omega)])
  rw [cx0.r7]
  refine Calls.mono ((kk.tag hfr).2 w rb sb st hh.rd hh.ne hh.hs) ?_
  rintro e w' ⟨m, tags, st', rfl, h⟩
  exact ⟨_, rfl, m, tags, st', rfl, h⟩
 rintro v w2 ⟨m', tags, st', rfl, k1, k2, k3, k4, k5⟩
 have F1 : Fr (· = rb) b o (m + 1) w w2 := k2.rd hh.rbb hne
 have ht2 : w2.there b (o + m) 1 := JG (F1.there _ _ hth) (by omega)
 refine RL.s (MR.nc (p := ⟨b, o, none⟩) (by (repeat first | rw [Ja] | rw [Jb _ _ (by omega)])) (by omega)) (RL.s (MR.fa (Ja _ _ _) hF (by omega)) (RL.stA (cs := [m']) (b := b) (o := o + m) (Ja _ _ _) (by (repeat first | rw [Ja] | rw [Jb _ _ (by omega)])) kk.tg.sc ht2 (by simp [k1]) (RL.nil ?_) (by omega) (by omega)) (by omega)) (by omega)
 have F2 : Fr (· = rb) b o (m + 1) w2 (w2.setCells b (o + m) [m']) := Fr.put _ (by omega) (by simp; omega)
 have F2' : Fr (· = rb) b (o + m) 1 w2 (w2.setCells b (o + m) [m']) := Fr.put _ (by omega) (by simp)
 have F1' : Fr (· = rb) b o 0 w w2 := k2.rd hh.rbb hne
 have hsz : w2.heap.size ≤ (w2.setCells b (o + m) [m']).heap.size := F2.size
 show RWL P N rest Q _ _
 refine hQ _ _ tags st' m' (fun s hs => by (repeat first | rw [Ja] | rw [Jb _ _ (by omega)]); exact p0 s (by omega)) (F1.trans F2) k3 ?_ ?_ ?_
 ·exact k4.keep (Jp b _ _ _ rb (fun e => hh.rbb e.symm)) (Jp b _ _ _ sb hh.nb)
 ·intro j v hj
  by_cases h4 : j < cs.length
  ·rw [List.getElem?_append_left h4] at hj
   rw [F2'.cell (o + j) (.inl (by omega)), F1'.cell (o + j) (.inr (by omega))]
   exact hr j v hj
  ·rw [List.getElem?_append_right (by omega)] at hj
   have hj0 : j - cs.length = 0 := by
    have := (List.getElem?_eq_some_iff.1 hj).1
    simp at this; omega
   rw [hj0] at hj
   simp only [List.getElem?_cons_zero, UC] at hj
   subst hj
   have := World.rangeAt_setCells_same w2 b (o + m) [m'] ht2 0 m' rfl
   rw [show o + j = o + m + 0 from by omega]; exact this
 ·refine RepT.mono k5.bound (fun k hk => ?_) (fun k hk => Jp b _ _ _ k ?_)
  ·rcases hk with ⟨hk | hk, hk'⟩
   ·exact .inl hk
   ·exact .inr ⟨Nat.lt_of_lt_of_le hh.hw hk, Nat.lt_of_lt_of_le hk' hsz⟩
  ·rcases hk with ⟨rfl | hk, _⟩
   ·exact hh.nb
   ·exact fun e => by omega
end
end Go.Kx
