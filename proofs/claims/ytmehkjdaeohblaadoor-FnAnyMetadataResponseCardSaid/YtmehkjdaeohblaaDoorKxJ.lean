/- readFrom's lists. Conditions: the reader's contracts (RKOK), the plan's tests.
   readFrom's lists: the loop, the elements, the whole field. Conditions: the reader's contracts (RKOK), the plan's tests.
   readFrom's fields in a row; lists of structs. Conditions: the reader's contracts (RKOK), the plan's tests (wfRF), the default's cells (ZF).
   readFrom, whole. Conditions: the reader's contracts (RKOK), the plan's tests, Default's contract (DefD). -/
import Derived.Test.YtmehkjdaeohblaaDoorKxI
namespace Go.Kx
open Go.RowKit
set_option linter.unusedSimpArgs false
set_option linter.unusedVariables false


section
variable {P : Program} {N : Nat} {Q : Exit → (Nat → Value) → World → Prop} {ρ : Nat → Value} {w w' : World} {ms : List MOp} {R : RN} {G : TG} {rb sb h b o n : Nat} {ev : Value} {st st' : Option (List UInt8)} {sf : Option Nat} {flex : Bool} {ver : Int}

theorem mv2_ok {a y t L : Nat} {v : Value} (ha : ρ a = v) (haL : a < L) (hy : y < L) (ht : L ≤ t) (hN : t < N) (hQ : ∀ ρ', (∀ s, s < L → s ≠ y → ρ' s = ρ s) → ρ' y = v → Q .normal ρ' w) : RW P N (.rg [.mv t (.t a), .mv y (.t t)]) Q ρ w :=
  RW.rg (RL.step (MR.mv ha (ltT (by omega))) (RL.step (MR.mv (upd_same _ _ _) (ltT hN)) (RL.nil (hQ _ (fun s hs hy => by (repeat (first | rw [upd_same] | rw [upd_ne _ _ (by omega)]))) (upd_same _ _ _))) (by omega)) hN)
theorem mvc_ok {y L : Nat} {m : MVal} (hy : y < L) (hN : y < N) (hQ : ∀ ρ', (∀ s, s < L → s ≠ y → ρ' s = ρ s) → ρ' y = m.val → Q .normal ρ' w) : RW P N (.rg [.mv y (.c m)]) Q ρ w :=
  RW.rg (RL.step MR.mv (RL.nil (hQ _ (fun s hs hy => by (repeat (first | rw [upd_same] | rw [upd_ne _ _ (by omega)]))) (upd_same _ _ _))) hN)
theorem loadR_ok {T vs idx off ty x t L : Nat} {v : Value} (hF : fieldAtB P T idx off = true) (hp : plainTy P ty = true) (hv : ρ vs = .pointer (some ⟨b, o, none⟩)) (hc : w.cell? ⟨b, o + off, none⟩ = some v) (hvL : vs < L) (hx : x < L) (ht : L ≤ t) (hN : t + 4 ≤ N)
    (hQ : ∀ ρ', (∀ s, s < L → s ≠ x → ρ' s = ρ s) → ρ' x = v → Q .normal ρ' w) : RW P N (loadA T vs idx ty x t).1 Q ρ w :=
  RW.rg (RL.step (MR.mv hv (ltT (by omega))) (RL.step (MR.nc (upd_same _ _ _) (by omega)) (RL.step (MR.fa (upd_same _ _ _) hF (by omega)) (RL.step (MR.ld (upd_same _ _ _) hp hc (by omega)) (RL.step (MR.mv (upd_same _ _ _) (ltT (by omega))) (RL.nil (hQ _ (fun s hs hy => by (repeat (first | rw [upd_same] | rw [upd_ne _ _ (by omega)]))) (upd_same _ _ _))) (by omega)) (by omega)) (by omega)) (by omega)) (by omega))

theorem lenR_ok {x t L : Nat} (kk : RKOK P R G) (ha : R.alen ≠ 0) (hca : ∀ s, sf = some s → R.calen ≠ 0) (hx : x + 2 < L) (h9 : 8 < x) (hs : ∀ s, sf = some s → s < L) (ht : L ≤ t) (hN : (lenR R sf x t).2 ≤ N) (h : RdAt w rb sb st) (hne : sb ≠ rb) (r7 : ρ 7 = .pointer (some ⟨rb, 0, none⟩))
    (rf : ∀ s, sf = some s → ρ s = .bool flex) (nf : sf = none → flex = false)
    (hQ : ∀ ρ' w' r st', (∀ s, s < L → s ≠ x + 2 → ρ' s = ρ s) → ρ' (x + 2) = .int .i32 r → I32 r → Fr (fun _ => False) rb 0 2 w w' → Got (dALen flex) st r st' → RdAt w' rb sb st' → Q .normal ρ' w') : RW P N (lenR R sf x t).1 Q ρ w := by
  have one : ∀ {f t : Nat} {ρ1 : Nat → Value}, (∀ s, s < L → ρ1 s = ρ s) → L ≤ t → (callR f (x + 2) t).2 ≤ N → RdC P f (dALen flex) (PlB (fun x => .int .i32 x) I32) → RW P N (callR f (x + 2) t).1 Q ρ1 w := fun {f t ρ1} h1 h2 h3 h4 => by
    have h3' : t + 1 ≤ N := h3
    refine RW.rg (RL.rd h4 (by show ρ1 7 = _; rw [h1 7 (by omega)]; exact r7) h hne (ltT (by omega)) (by omega) fun v r st' w' g1 g2 g3 g4 => RL.step (MR.mv (upd_same _ _ _) (ltT (by omega))) (RL.nil ?_) (by omega))
    exact hQ _ w' r st' (fun s hs hsx => by rw [upd_ne _ _ hsx, upd_ne _ _ (by omega), h1 s hs]) (by rw [upd_same]; exact g4.1) g4.2 g1 g2 g3
  refine RW.ifF (flex := flex) ht hN (fun _ => callR_le) (fun _ => callR_le) hs rf nf (fun e ρ2 t2 h1 h3 h4 => ?_) (fun e ρ2 t2 h1 h3 h4 => ?_)
  · have hc : R.calen ≠ 0 := by
      cases hsf : sf with
      | none => have := nf hsf; rw [this] at e; cases e
      | some s => exact hca s hsf
    exact one h1 h3 h4 (by rw [e]; exact kk.cal hc)
  · exact one h1 h3 h4 (by rw [e]; exact kk.al ha)

theorem zeroRow {z : Array Value} {ec : Nat} (hz : z.size = ec) (n m : Nat) : (Builtin.zeroCells z n ++ Builtin.zeroCells z m).size = n * ec + m * ec := by
  simp [Builtin.zeroCells, hz]

theorem zeroPart {z : Array Value} {ec n m j : Nat} (hz : z.size = ec) (hj : j < n) : (((Builtin.zeroCells z n ++ Builtin.zeroCells z m).toList.drop (j * ec)).take ec) = z.toList := by
  have h1 : (j + 1) * ec ≤ n * ec := Nat.mul_le_mul_right _ hj
  have h2 : (j + 1) * ec = j * ec + ec := Nat.succ_mul j ec
  apply List.ext_getElem?
  intro k
  rw [List.getElem?_take]
  by_cases hk : k < ec
  · rw [if_pos hk, List.getElem?_drop, Array.getElem?_toList, Array.getElem?_append_left (by simp [Builtin.zeroCells, hz]; omega)]
    rw [Array.getElem?_toList]
    have hlt : j * ec + k < n * z.size := by rw [hz]; omega
    simp only [Builtin.zeroCells]
    rw [Array.getElem?_map, Array.getElem?_range]
    rw [if_pos hlt, Option.map_some]
    have hm : (j * ec + k) % z.size = k := by rw [hz, Nat.add_comm, Nat.add_mul_mod_self_right, Nat.mod_eq_of_lt hk]
    rw [hm, getElem!_pos z k (by omega), Array.getElem?_eq_getElem (by omega)]
  · rw [if_neg hk, Array.getElem?_toList, Array.getElem?_eq_none (by omega)]

/-- append(a, make([]T, n)...) where a has no room. -/
theorem run_append_zeros0 {av : Value} (w : World) (t tn ty e : TypeId) (i : TypeInfo) (z : Value) (k kn : IntKind) (ht : P.underlying t = some (.slice e)) (htn : P.underlying tn = some (.int kn)) (hi : P.info? e = some i) (hz : i.zero = some z)
    (n : Nat) (h0 : 0 < n) (hs : 0 < i.size) (h63 : (n : Int) ≤ 9223372036854775807) (h48 : n * i.bytes ≤ 281474976710656) (hav : av = .slice none 0 0 ∨ ∃ q, av = .slice (some q) 0 0) :
    (Builtin.append_ #[t, tn] ty #[av, .int k n]).run P w =
      .ok (.slice (some ⟨w.heap.size, 0, none⟩) n (grownCap w n 0 e)) (w.drew.alloc (.cells (Builtin.zeroCells z.cells n ++ Builtin.zeroCells z.cells (grownCap w n 0 e - n)) e)) := by
  rcases hav with rfl | ⟨q, rfl⟩
  · exact Lib.run_append_nil_zeros w t tn ty e i z k kn ht htn hi hz n h0 hs h63 h48
  have hn : n ≠ 0 := by omega
  have hw : IntKind.i64.wrap (n : Int) = n := by simp [IntKind.wrap, IntKind.signed, IntKind.bits]; omega
  have h63' : ¬ (9223372036854775807 < (n : Int)) := by omega
  have h48' : ¬ (281474976710656 < Builtin.nextslicecap n 0 * i.bytes) := by rw [nextslicecap_zero h0]; omega
  have h48i : ¬ (281474976710656 < (n : Int) * (i.bytes : Int)) := by
    rw [← Int.natCast_mul]
    omega
  have hneg : ¬ ((n : Int) < 0) := by omega
  have hns : ¬ (n * i.size = 0) := Nat.mul_ne_zero hn (by omega)
  have hfc : ∀ w : World, (Builtin.firstCells i.size 0 (.slice (some q) 0 0)).run P w = .ok #[] w := fun w => by
    have := run_firstCells_some (P := P) (w := w) i.size 0 q 0 0 [] (by simp) (by simp)
    simpa using this
  simp [Builtin.append_, run_underlying ht, run_underlying htn, sizeOf, typeInfo, zeroValue, hi, hz, asInt, asIntOf, hw, hn, hneg, hns, h63', h48', h48i, Question.forced, hfc, newRow, grownCap]

/-- What a list is before its elements are made: nil, or empty and new. -/
def NulV (nul : Option Nat) (ver r : Int) (lo hi : Nat) (av : Value) : Prop := (av = .slice none 0 0 ∧ nulOf nul ver r = nul.isSome) ∨ (nulOf nul ver r = false ∧ ∃ q, av = .slice (some ⟨q, 0, none⟩) 0 0 ∧ lo ≤ q ∧ q < hi)
theorem NulV.av {nul : Option Nat} {r : Int} {lo hi : Nat} {av : Value} (h : NulV nul ver r lo hi av) : av = .slice none 0 0 ∨ ∃ q, av = .slice (some q) 0 0 := h.imp (·.1) fun ⟨_, q, h, _⟩ => ⟨_, h⟩

/-- An empty slice literal. -/
theorem run_bsl0 {ty ety : Nat} (hsl : sliceOf P ty ety = true) (hz : (P.info? ety).isSome = true) : (Instr.buildSlice ty 0 #[]).run P w = .ok (.slice (some ⟨w.heap.size, 0, none⟩) 0 0) (w.alloc (.cells #[] ety)) := by
  obtain ⟨i, hi⟩ := Option.isSome_iff_exists.1 hz
  simp [Instr.buildSlice, run_underlying (sliceOf_eq hsl), sizeOf, typeInfo, hi, Instr.fill, newRow]
  have e : ∀ f : Nat → Value, Array.map f (Array.range 0) = #[] := fun f => by apply Array.toList_inj.1; simp
  rw [e]

theorem nul_ok {nul : Option Nat} {ty ety x u L : Nat} {r : Int} {rest : List MCode} (hsl : sliceOf P ty ety = true) (hi : (P.info? ety).isSome = true) (hx : x + 3 < L) (h9 : 8 < x) (ht : L ≤ u) (hN : u + nulT nul ≤ N) (r8 : ρ 8 = .int .i16 ver) (ra : ρ (x + 1) = .slice none 0 0) (rl : ρ (x + 2) = .int .i32 r)
    (hQ : ∀ ρ' w' av, (∀ s, s < L → s ≠ x + 1 → ρ' s = ρ s) → ρ' (x + 1) = av → Below w.heap.size w w' → NulV nul ver r w.heap.size w'.heap.size av → RWL P N rest Q ρ' w') : RWL P N (nulC R nul ty x u ++ rest) Q ρ w := by
  cases nul with
  | none => exact hQ ρ w _ (fun _ _ _ => rfl) ra ⟨rfl, rfl, rfl, Nat.le_refl _, fun _ _ => rfl⟩ (.inl ⟨rfl, rfl⟩)
  | some nv =>
    simp only [nulT] at hN
    simp only [nulC, List.cons_append, List.nil_append]
    have yes : ∀ ρ1 : Nat → Value, nulOf (some nv) ver r = false → (∀ s, s < L → ρ1 s = ρ s) → RWL P N (.rg [.bsl (u + 6) ty [], .mv (x + 1) (.t (u + 6))] :: rest) Q ρ1 w := by
      intro ρ1 hn h1
      refine RW.rg (RL.step (MR.bslBy (by exact run_bsl0 hsl hi) (by simp)) (RL.step (MR.mv (upd_same _ _ _) (ltT (by omega))) (RL.nil ?_) (by omega)) (by omega))
      have hb := below_box w (.cells #[] ety)
      have hs := size_box w (.cells #[] ety)
      exact hQ _ _ _ (fun s hs hne => by (repeat (first | rw [upd_same] | rw [upd_ne _ _ (by omega)])); exact h1 s hs) (upd_same _ _ _) hb (.inr ⟨hn, _, rfl, Nat.le_refl _, by omega⟩)
    refine RW.sq (RW.gf (S := fun _ => True) trivial ?_)
    refine RG.q (v := .int .i16 ver) (fun _ _ => MR.mv r8 (ltT (by omega))) ?_ rfl rfl (by omega)
    refine RG.q (v := .bool (decide (ver < (nv : Int)))) (fun _ _ => MR.biE (by show evB .lss (upd _ _ _ _) (.int .i16 (nv : Nat)) = _; rw [upd_same]; rfl) (ltT (by omega)) rfl) ?_ rfl rfl (by omega)
    refine RG.q (v := .bool (decide (ver < (nv : Int)))) (fun _ _ => MR.mv (upd_same _ _ _) (ltT (by omega))) ?_ rfl rfl (by omega)
    by_cases hA : ver < (nv : Int)
    · refine RG.no ⟨by omega, .inl (by show upd _ _ _ (u + 2) = _; rw [upd_same]; simp [hA])⟩ ?_ rfl (by omega)
      refine RG.no ⟨by omega, .inl (by show upd _ _ _ (u + 2) = _; (repeat (first | rw [upd_same] | rw [upd_ne _ _ (by omega)])); simp [hA])⟩ ?_ rfl (by omega)
      refine RG.q (v := .bool true) (fun _ _ => MR.pk (b := true) (by show upd _ _ _ (u + 2) = _; (repeat (first | rw [upd_same] | rw [upd_ne _ _ (by omega)])); simp [hA]) rfl (ltT (by omega)) rfl (ltT (by omega))) ?_ rfl rfl (by omega)
      refine RG.nil fun _ => ?_
      refine RW.cd (b := true) (upd_same _ _ _) (fun _ => yes _ (by simp [nulOf, hA]) (fun s hs => by (repeat (first | rw [upd_same] | rw [upd_ne _ _ (by omega)])))) (fun e => by cases e) (by omega)
    · refine RG.q (v := .int .i32 r) (fun _ _ => MR.mv (by show upd _ _ _ (x + 2) = _; (repeat (first | rw [upd_same] | rw [upd_ne _ _ (by omega)])); exact rl) (ltT (by omega))) ?_ rfl ⟨by omega, .inl (by show upd _ _ _ (u + 2) = _; rw [upd_same]; simp [hA])⟩ (by omega)
      refine RG.q (v := .bool (decide (r = 0))) (fun _ _ => MR.biE (by show evB .eql (upd _ _ _ _) (.int .i32 0) = _; rw [upd_same]; show some (Value.bool (r == 0)) = _; rw [show (r == 0) = decide (r = 0) from by by_cases h : r = 0 <;> simp [h]]) (ltT (by omega)) rfl) ?_ rfl ⟨by omega, .inl (by show upd _ _ _ (u + 2) = _; (repeat (first | rw [upd_same] | rw [upd_ne _ _ (by omega)])); simp [hA])⟩ (by omega)
      refine RG.q (v := .bool (decide (r = 0))) (fun _ _ => MR.pk (b := false) (by show upd _ _ _ (u + 2) = _; (repeat (first | rw [upd_same] | rw [upd_ne _ _ (by omega)])); simp [hA]) (by show upd _ _ _ (u + 4) = _; rw [upd_same]) (ltT (by omega)) rfl (ltT (by omega))) ?_ rfl rfl (by omega)
      refine RG.nil fun _ => ?_
      refine RW.cd (upd_same _ _ _) (fun e => yes _ (by have := of_decide_eq_true e; simp [nulOf, this]) (fun s hs => by (repeat (first | rw [upd_same] | rw [upd_ne _ _ (by omega)])))) (fun e => RW.sk ?_) (by omega)
      have e := of_decide_eq_false e
      exact hQ _ w _ (fun s hs hne => by (repeat (first | rw [upd_same] | rw [upd_ne _ _ (by omega)]))) (by (repeat (first | rw [upd_same] | rw [upd_ne _ _ (by omega)])); exact ra) ⟨rfl, rfl, rfl, Nat.le_refl _, fun _ _ => rfl⟩ (.inl ⟨rfl, by simp [nulOf, hA, e]⟩)

theorem make_ok {ty ety x u L ec : Nat} {zs : List Value} {r : Int} {rest : List MCode} (kk : RKOK P R G) (hok : R.okf ≠ 0) (hsl : sliceOf P ty ety = true) (hz : ZE P ety ec zs) (h32 : intTy P R.T.i32 .i32 = true) (hx : x + 3 < L) (h9 : 8 < x) (ht : L ≤ u) (hN : u + 10 ≤ N) (h : RdAt w rb sb st) (r7 : ρ 7 = .pointer (some ⟨rb, 0, none⟩)) (hev : w.cell? ⟨R.gErr, 0, none⟩ = some ev)
    {av : Value} (hav : av = .slice none 0 0 ∨ ∃ q, av = .slice (some q) 0 0) (ra : ρ (x + 1) = av) (rl : ρ (x + 2) = .int .i32 r) (hr : I32 r)
    (hE : stB st = true → ∀ ρ', ρ' 6 = ev → Q .ret ρ' w)
    (h0 : stB st = false → r ≤ 0 → ∀ ρ', (∀ s, s < L → s ≠ x + 1 → ρ' s = ρ s) → ρ' (x + 1) = av → RWL P N rest Q ρ' w)
    (h1 : stB st = false → 0 < r → ∀ ρ' w' c, (∀ s, s < L → s ≠ x + 1 → ρ' s = ρ s) → ρ' (x + 1) = .slice (some ⟨w.heap.size, 0, none⟩) r.toNat c → Below w.heap.size w w' → w'.heap.size = w.heap.size + 1 → (∃ cs : List Value, cs.length = r.toNat * ec ∧ w'.rangeAt w.heap.size 0 cs ∧ ∀ j, j < r.toNat → (cs.drop (j * ec)).take ec = zs) → w'.there w.heap.size 0 (r.toNat * ec) → RWL P N rest Q ρ' w') :
    RWL P N (makeR R ty x u ++ rest) Q ρ w := by
  unfold makeR
  simp only [List.cons_append, List.nil_append]
  refine RW.sq (RW.rg (RL.ca (R := fun v w' => v = .bool (!stB st) ∧ w = w') (kk.okf hok).1 ?_ ?_ (by omega) (by simp [MX.lt, Nat.blt_eq]; omega)))
  · simp only [List.map_cons, List.map_nil, xof, r7]
    refine Calls.mono ((kk.okf hok).2 w rb sb st h) ?_
    rintro e w' ⟨rfl, rfl⟩
    exact ⟨_, rfl, rfl, rfl⟩
  rintro v w' ⟨rfl, rfl⟩
  refine RL.step (MR.nt (upd_same _ _ _) (by omega)) (RL.nil ?_) (by omega)
  refine RW.cd (b := stB st) (by rw [upd_same, Bool.not_not]) (fun e => ?_) (fun e => RW.sk ?_) (by omega)
  · refine RW.sq (RW.rg (RL.ca (R := fun v w' => v = complV ev st ∧ w = w') kk.compl.1 ?_ ?_ (by omega) (by simp [MX.lt, Nat.blt_eq]; omega)))
    · simp only [List.map_cons, List.map_nil, xof]
      rw [upd_ne _ _ (by omega), upd_ne _ _ (by omega), r7]
      refine Calls.mono (kk.compl.2 w rb sb st ev h hev) ?_
      rintro e w' ⟨rfl, rfl⟩
      exact ⟨_, rfl, rfl, rfl⟩
    rintro v w' ⟨rfl, rfl⟩
    refine RL.step (MR.mv (upd_same _ _ _) (ltT (by omega))) (RL.nil (RW.rt (hE e _ ?_))) (by omega)
    rw [upd_same]; unfold complV; rw [e]; rfl
  show RWL P N _ _ _ w
  refine RW.rg (RL.step (MR.mv (v := av) (by show upd _ _ _ (x + 1) = _; (repeat (first | rw [upd_same] | rw [upd_ne _ _ (by omega)])); exact ra) (ltT (by omega))) (RL.step (MR.sl (v := av) ?_ (by simp) (by simp [MX.lt]) (by simp) (by omega)) (RL.step (MR.mv (upd_same _ _ _) (ltT (by omega))) (RL.nil ?_) (by omega)) (by omega)) (by omega))
  · rw [upd_same]
    obtain ⟨i, hi⟩ : ∃ i, P.info? ety = some i := by
      obtain ⟨i, z, hi, _⟩ := hz
      exact ⟨i, hi⟩
    rcases hav with rfl | ⟨q, rfl⟩ <;> simp [Instr.sliceAt, run_underlying (sliceOf_eq hsl), Instr.slice, Instr.sliceBounds, Instr.sliceBound, asIntOf, sizeOf, typeInfo, hi, xof, MVal.val]
  show RWL P N _ _ _ w
  refine RW.sq (RW.rg (RL.step (MR.mv (v := .int .i32 r) (by show upd _ _ _ (x + 2) = _; (repeat (first | rw [upd_same] | rw [upd_ne _ _ (by omega)])); exact rl) (ltT (by omega))) (RL.step (MR.biE (v := .bool (decide (0 < r))) (by show evB .gtr (upd _ _ _ _) (.int .i32 0) = _; rw [upd_same]; rfl) (ltT (by omega)) rfl) (RL.nil ?_) (by omega)) (by omega)))
  refine RW.cd (upd_same _ _ _) (fun e2 => ?_) (fun e2 => RW.sk ?_) (by omega)
  · have e2 := of_decide_eq_true e2
    obtain ⟨k, rfl⟩ : ∃ k : Nat, r = (k : Nat) := ⟨r.toNat, by omega⟩
    have hk : 0 < k := by omega
    have hk32 : k ≤ 2147483647 := by have := hr.2; omega
    obtain ⟨i, z, hi, hzv, hzc, hz1, hz2, hz3, hz0⟩ := hz
    have hzs : z.cells.size = ec := by rw [← Array.length_toList, hzc]; exact hz1
    have hap : ∀ ty', (Builtin.append_ #[ty, R.T.i32] ty' #[av, .int .i32 (k : Nat)]).run P w = _ := fun ty' =>
      run_append_zeros0 (P := P) w ty R.T.i32 ty' ety i z .i32 .i32 (sliceOf_eq hsl) (intTy_eq h32) hi hzv k hk (by omega) (by omega) (by have : k * i.bytes ≤ 2147483647 * 65536 := Nat.mul_le_mul hk32 hz3; omega) hav
    refine RW.rg (RL.step (MR.mv (v := av) (by show upd _ _ _ (x + 1) = _; (repeat (first | rw [upd_same] | rw [upd_ne _ _ (by omega)]))) (ltT (by omega))) (RL.step (MR.mv (v := .int .i32 (k : Nat)) (by show upd _ _ _ (x + 2) = _; (repeat (first | rw [upd_same] | rw [upd_ne _ _ (by omega)])); exact rl) (ltT (by omega)))
      (RL.step (MR.apBy (by rw [upd_ne _ _ (by omega), upd_same, upd_same]; exact hap 0) (fun ty' => by rw [upd_ne _ _ (by omega), upd_same, upd_same]; exact hap ty') (by omega) (by omega)) (RL.step (MR.mv (upd_same _ _ _) (ltT (by omega))) (RL.nil ?_) (by omega)) (by omega)) (by omega)) (by omega))
    have b0 : Below w.heap.size w w.drew := ⟨rfl, rfl, rfl, Nat.le_refl _, fun _ _ => rfl⟩
    have e0 : w.drew.heap.size = w.heap.size := rfl
    have bd := b0.trans (below_box w.drew (.cells (Builtin.zeroCells z.cells k ++ Builtin.zeroCells z.cells (grownCap w k 0 ety - k)) ety))
    have hsz := zeroRow hzs k (grownCap w k 0 ety - k)
    have hth := there_box w.drew (Builtin.zeroCells z.cells k ++ Builtin.zeroCells z.cells (grownCap w k 0 ety - k)).toList ety
    rw [Array.length_toList, hsz, Array.toArray_toList, e0] at hth
    refine h1 ?_ (by omega) _ _ (grownCap w k 0 ety) (fun s hs hsx => by (repeat (first | rw [upd_same] | rw [upd_ne _ _ (by omega)]))) (by rw [upd_same, Int.toNat_natCast]) bd (size_box _ _) ⟨((Builtin.zeroCells z.cells k ++ Builtin.zeroCells z.cells (grownCap w k 0 ety - k)).toList).take (k * ec), ?_, ?_, ?_⟩ ?_
    · cases hb : stB st <;> simp_all
    · rw [List.length_take, Array.length_toList, hsz, Int.toNat_natCast]; omega
    · intro j v hj
      rw [List.getElem?_take] at hj
      split at hj
      · have := cell_box w.drew _ ety hj
        rwa [Array.toArray_toList] at this
      · simp at hj
    · intro j hj
      rw [Int.toNat_natCast] at hj
      have h1 : (j + 1) * ec ≤ k * ec := Nat.mul_le_mul_right _ hj
      have h2 : (j + 1) * ec = j * ec + ec := Nat.succ_mul j ec
      rw [List.drop_take, List.take_take, Nat.min_eq_left (by omega), ← hzc]
      exact zeroPart hzs hj
    · rw [Int.toNat_natCast]
      have := there_in (k := 0) (m := k * ec) hth (by omega)
      exact this
  · have e2 := of_decide_eq_false e2
    refine h0 ?_ (by omega) _ (fun s hs hsx => by (repeat (first | rw [upd_same] | rw [upd_ne _ _ (by omega)]))) (by (repeat (first | rw [upd_same] | rw [upd_ne _ _ (by omega)])))
    cases hb : stB st <;> simp_all
end
end Go.Kx
namespace Go.Kx
open Go.RowKit
set_option linter.unusedSimpArgs false
set_option linter.unusedVariables false

def splice (k : Nat) (vs cs : List Value) : List Value := cs.take k ++ vs ++ cs.drop (k + vs.length)
theorem splice_len {k : Nat} {vs cs : List Value} (h : k + vs.length ≤ cs.length) : (splice k vs cs).length = cs.length := by
  simp only [splice, List.length_append, List.length_take, List.length_drop]; omega
theorem splice_take {k : Nat} {vs cs : List Value} (h : k + vs.length ≤ cs.length) : (splice k vs cs).take k = cs.take k := by
  unfold splice
  rw [List.append_assoc, List.take_append_of_le_length (by rw [List.length_take]; omega), List.take_take, Nat.min_self]
theorem splice_mid {k : Nat} {vs cs : List Value} (h : k + vs.length ≤ cs.length) : ((splice k vs cs).drop k).take vs.length = vs := by
  unfold splice
  have e : (cs.take k).length = k := by rw [List.length_take]; omega
  rw [List.append_assoc, List.drop_append_of_le_length (by omega), List.drop_eq_nil_of_le (by omega), List.nil_append, List.take_append_of_le_length (Nat.le_refl _), List.take_length]
theorem splice_drop {k : Nat} {vs cs : List Value} (h : k + vs.length ≤ cs.length) : (splice k vs cs).drop (k + vs.length) = cs.drop (k + vs.length) := by
  unfold splice
  have e : (cs.take k ++ vs).length = k + vs.length := by rw [List.length_append, List.length_take]; omega
  rw [List.drop_append_of_le_length (by omega), List.drop_eq_nil_of_le (by omega), List.nil_append]
theorem part_of_take {k a m : Nat} {l l' : List Value} (h : l.take k = l'.take k) (ha : a + m ≤ k) : (l.drop a).take m = (l'.drop a).take m := by
  have e : ∀ l : List Value, (l.drop a).take m = ((l.take k).drop a).take m := fun l => by rw [List.drop_take, List.take_take, Nat.min_eq_left (by omega)]
  rw [e l, e l', h]
theorem part_of_drop {k a m : Nat} {l l' : List Value} (h : l.drop k = l'.drop k) (ha : k ≤ a) : (l.drop a).take m = (l'.drop a).take m := by
  have e : ∀ l : List Value, l.drop a = (l.drop k).drop (a - k) := fun l => by rw [List.drop_drop]; congr 1; omega
  rw [e l, e l', h]

section
variable {P : Program} {N : Nat} {Q : Exit → (Nat → Value) → World → Prop} {ρ : Nat → Value} {w w' : World} {ms : List MOp} {R : RN} {G : TG} {rb sb h b o n : Nat} {ev : Value} {st st' : Option (List UInt8)} {sf : Option Nat} {flex : Bool} {ver : Int}

theorem range_splice {X : Nat → Prop} {k : Nat} {cs vs : List Value} (hr : w.rangeAt b o cs) (hf : Fr X b (o + k) vs.length w w') (hv : w'.rangeAt b (o + k) vs) (hk : k + vs.length ≤ cs.length) : w'.rangeAt b o (splice k vs cs) := by
  intro j v hj
  unfold splice at hj
  have e1 : (cs.take k).length = k := by rw [List.length_take]; omega
  by_cases h1 : j < k
  · rw [List.append_assoc, List.getElem?_append_left (by omega), List.getElem?_take, if_pos h1] at hj
    rw [hf.cell (o + j) (.inl (by omega))]
    exact hr j v hj
  · by_cases h2 : j < k + vs.length
    · rw [List.append_assoc, List.getElem?_append_right (by omega), List.getElem?_append_left (by omega), e1] at hj
      have := hv (j - k) v hj
      rwa [show o + k + (j - k) = o + j from by omega] at this
    · rw [List.getElem?_append_right (by rw [List.length_append]; omega), List.getElem?_drop, List.length_append, e1] at hj
      rw [hf.cell (o + j) (.inr (by omega))]
      exact hr j v (by rw [← hj]; congr 1; omega)

theorem Got.rep {α : Type} {de : Dec α} {k : Nat} {x : α} {xs : List α} {s1 s2 s3 : Option (List UInt8)} (h1 : Got de s1 x s2) (h2 : Got (Kx.rep de k) s2 xs s3) : Got (Kx.rep de (k + 1)) s1 (x :: xs) s3 :=
  Got.bind (k := fun d => (Kx.rep de k).map fun ds => d :: ds) h1 (h2.map (f := fun ds => x :: ds))

theorem range_part {k m : Nat} {cs : List Value} (h : w.rangeAt b o cs) : w.rangeAt b (o + k) ((cs.drop k).take m) := by
  intro j v hj
  rw [List.getElem?_take] at hj
  split at hj
  · rw [List.getElem?_drop] at hj
    have := h (k + j) v hj
    rwa [← Nat.add_assoc] at this
  · simp at hj

theorem Got.any {α : Type} {d : Dec α} {x y : α} (h : Got d st x none) : Got d st y none := h

theorem loop_ok {x u bk L ab l ec cap : Nat} {body : MCode} {el : Ty} {de : Dec D} {cs zs : List Value} (hh : FH P R rb sb ab ab 0 (l * ec) ev st w) (hl : l ≤ 2147483647) (hx : x + 4 < L) (hL : L ≤ u) (hN : u + 15 ≤ N)
    (ra : ρ (x + 1) = .slice (some ⟨ab, 0, none⟩) l cap) (rl : ρ (x + 2) = .int .i32 (l : Nat)) (hc : w.rangeAt ab 0 cs) (hcl : cs.length = l * ec) (hcz : ∀ j, j < l → (cs.drop (j * ec)).take ec = zs)
    (hB : ∀ (i : Nat) (ρ1 : Nat → Value) (w1 : World) (st1 : Option (List UInt8)) (Q1 : Exit → (Nat → Value) → World → Prop), i < l → (∀ s, s < x + 3 → ρ1 s = ρ s) → ρ1 (x + 3) = .int .i32 (i : Nat) → FH P R rb sb ab ab 0 (l * ec) ev st1 w1 → Fr (· = rb) ab 0 (l * ec) w w1 → w1.rangeAt ab (i * ec) zs →
      (∀ ρ2 w2 d st2 vs, (∀ s, s < x + 4 → ρ2 s = ρ1 s) → Fr (· = rb) ab (i * ec) ec w1 w2 → Got de st1 d st2 → RdAt w2 rb sb st2 → w2.rangeAt ab (i * ec) vs → vs.length = ec → Rep w2 (FB sb ab w2) el vs d → Q1 .normal ρ2 w2) →
      (∀ ρ2 w2, ρ2 6 = ev → Fr (· = rb) ab (i * ec) ec w1 w2 → (∀ d, Got de st1 d none) → RdAt w2 rb sb none → Q1 .ret ρ2 w2) → RW P N body Q1 ρ1 w1)
    (hQ : ∀ ρ' w' xs st' cs', (∀ s, s < x + 3 → ρ' s = ρ s) → Fr (· = rb) ab 0 (l * ec) w w' → xs.length = l → Got (rep de l) st xs st' → RdAt w' rb sb st' → w'.rangeAt ab 0 cs' → cs'.length = l * ec → (∀ i d, xs[i]? = some d → Rep w' (FB sb ab w') el ((cs'.drop (i * ec)).take ec) d) → Q .normal ρ' w')
    (hE : ∀ ρ' w', ρ' 6 = ev → Fr (· = rb) ab 0 (l * ec) w w' → (∀ xs, Got (rep de l) st xs none) → RdAt w' rb sb none → Q .ret ρ' w') :
    RW P N (loopR R x u bk body) Q ρ w := by
  unfold loopR
  refine RW.sq (RW.rg (RL.step MR.mv (RL.nil (RW.bl ?_)) (by omega)))
  refine RW.lp (fun ρ' w' => ∃ (i : Nat) (sti : Option (List UInt8)) (xs : List D) (csi : List Value), i ≤ l ∧ xs.length = i ∧ (∀ s, s < x + 3 → ρ' s = ρ s) ∧ ρ' (x + 3) = .int .i32 (i : Nat) ∧ FH P R rb sb ab ab 0 (l * ec) ev sti w' ∧ Fr (· = rb) ab 0 (l * ec) w w' ∧ w'.rangeAt ab 0 csi ∧ csi.length = l * ec ∧
      (∀ ys st', Got (rep de (l - i)) sti ys st' → Got (rep de l) st (xs ++ ys) st') ∧ (∀ j d, xs[j]? = some d → Rep w' (FB sb ab w') el ((csi.drop (j * ec)).take ec) d) ∧ (∀ j, i ≤ j → j < l → (csi.drop (j * ec)).take ec = zs))
    (fun ρ' _ => l - (intOf (ρ' (x + 3))).toNat) ⟨0, st, [], cs, Nat.zero_le _, rfl, fun s hs => by (repeat (first | rw [upd_same] | rw [upd_ne _ _ (by omega)])), upd_same _ _ _, hh, Fr.refl _ _ _ _ _, hc, hcl, fun ys st' hg => hg, fun j d hj => by simp at hj, fun j _ hj => hcz j hj⟩ ?_ (fun ρ1 ρ2 w1 h => by rw [h (x + 3) (by omega)])
  rintro ρ1 w1 ⟨i, sti, xs, csi, hi, hxl, q, q3, hh1, hF1, hc1, hcl1, hG1, hR1, hZ1⟩
  refine RW.sq (RW.sq (RW.rg (RL.step (MR.mv q3 (ltT (by omega))) (RL.step (MR.mv (v := .int .i32 (l : Nat)) (by show upd _ _ _ (x + 2) = _; (repeat (first | rw [upd_same] | rw [upd_ne _ _ (by omega)])); rw [q _ (by omega)]; exact rl) (ltT (by omega))) (RL.step (MR.biE (v := .bool (decide ((i : Int) < (l : Nat)))) (by show evB .lss (upd _ _ _ (u + 10)) (upd _ _ _ (u + 11)) = _; (repeat (first | rw [upd_same] | rw [upd_ne _ _ (by omega)])); rfl) (ltT (by omega)) (ltT (by omega))) (RL.nil ?_) (by omega)) (by omega)) (by omega))))
  refine RW.cd (upd_same _ _ _) (fun e => RW.sk ?_) (fun e => RW.ex ?_) (by omega)
  · have e : i < l := by have := of_decide_eq_true e; omega
    have hmul : (i + 1) * ec ≤ l * ec := Nat.mul_le_mul_right _ e
    have hmul' : (i + 1) * ec = i * ec + ec := Nat.succ_mul i ec
    show RW P N _ _ _ w1
    refine RW.sq (RW.bl ?_)
    refine hB i _ w1 sti _ e (fun s hs => by (repeat (first | rw [upd_same] | rw [upd_ne _ _ (by omega)])); exact q s hs) (by (repeat (first | rw [upd_same] | rw [upd_ne _ _ (by omega)])); exact q3) hh1 hF1 ?_ ?_ ?_
    · have := range_part (k := i * ec) (m := ec) hc1
      rw [Nat.zero_add, hZ1 i (Nat.le_refl _) e] at this
      exact this
    · intro ρ2 w2 d st2 vs k1 k2 k3 k4 k5 k6 k7
      have hk : i * ec + vs.length ≤ csi.length := by rw [hcl1, k6]; omega
      have k2' : Fr (· = rb) ab (0 + i * ec) vs.length w1 w2 := by rw [Nat.zero_add, k6]; exact k2
      have F2 : Fr (· = rb) ab 0 (l * ec) w w2 := hF1.trans (k2.wide (fun _ h => h) (Nat.zero_le _) (by omega))
      have q3' : ρ2 (x + 3) = .int .i32 (i : Nat) := by rw [k1 _ (by omega)]; (repeat (first | rw [upd_same] | rw [upd_ne _ _ (by omega)])); exact q3
      show RW P N _ _ ρ2 w2
      have hwr : IntKind.i32.wrap ((i : Int) + 1) = ((i + 1 : Nat) : Int) := by simp [IntKind.wrap, IntKind.signed, IntKind.bits]; omega
      refine RW.rg (RL.step (MR.mv q3' (ltT (by omega))) (RL.step (MR.biE (v := .int .i32 ((i + 1 : Nat) : Int)) (by show evB .add (upd _ _ _ _) (.int .i32 1) = _; rw [upd_same]; show some (Value.int .i32 (IntKind.i32.wrap ((i : Int) + 1))) = _; rw [hwr]) (ltT (by omega)) rfl) (RL.step (MR.mv (upd_same _ _ _) (ltT (by omega))) (RL.nil ?_) (by omega)) (by omega)) (by omega))
      refine ⟨⟨i + 1, st2, xs ++ [d], splice (i * ec) vs csi, by omega, by simp [hxl], fun s hs => by (repeat (first | rw [upd_same] | rw [upd_ne _ _ (by omega)])); rw [k1 s (by omega)]; (repeat (first | rw [upd_same] | rw [upd_ne _ _ (by omega)])); exact q s hs, upd_same _ _ _, hh1.keep k2 k4, F2, ?_, ?_, ?_, ?_, ?_⟩, ?_⟩
      · exact range_splice hc1 k2' (by rw [Nat.zero_add]; exact k5) hk
      · rw [splice_len hk]; exact hcl1
      · intro ys st' hg
        rw [List.append_assoc]
        refine hG1 _ _ ?_
        have : l - i = (l - (i + 1)) + 1 := by omega
        rw [this]
        exact k3.rep hg
      · intro j d' hj
        rw [List.getElem?_append] at hj
        split at hj
        · rename_i hjl
          have hjl' : (j + 1) * ec ≤ i * ec := Nat.mul_le_mul_right _ (by omega)
          have hjl2 : (j + 1) * ec = j * ec + ec := Nat.succ_mul j ec
          rw [part_of_take (splice_take hk) (by omega)]
          exact hh1.rep k2 (hR1 j d' hj)
        · rename_i hjl
          have hj0 : j = i := by
            have := (List.getElem?_eq_some_iff.1 hj).1
            simp at this; omega
          subst hj0
          rw [hxl, Nat.sub_self] at hj
          simp only [List.getElem?_cons_zero, Option.some.injEq] at hj
          subst hj
          have e2 := splice_mid hk
          rw [k6] at e2
          rw [e2]; exact k7
      · intro j hj1 hj2
        have hj3 : (i + 1) * ec ≤ j * ec := Nat.mul_le_mul_right _ hj1
        rw [part_of_drop (splice_drop hk) (by rw [k6]; omega)]
        exact hZ1 j (by omega) hj2
      · show l - (intOf (upd _ _ _ (x + 3))).toNat < l - (intOf (ρ1 (x + 3))).toNat
        rw [upd_same, q3]; simp only [intOf]; omega
    · intro ρ2 w2 k1 k2 k3 k4
      have F2 : Fr (· = rb) ab 0 (l * ec) w w2 := hF1.trans (k2.wide (fun _ h => h) (Nat.zero_le _) (by omega))
      refine hE ρ2 w2 k1 F2 (fun ys => Got.any (hG1 [] none ?_)) k4
      have : l - i = (l - (i + 1)) + 1 := by omega
      rw [this]
      exact Got.bind (k := fun d => (Kx.rep de (l - (i + 1))).map fun ds => d :: ds) (k3 (.n 0)) (by exact rfl)
  · have e : i = l := by have := of_decide_eq_false e; omega
    subst e
    show (if bk = bk then Q .normal _ w1 else _)
    rw [if_pos rfl]
    refine hQ _ w1 xs sti csi (fun s hs => by (repeat (first | rw [upd_same] | rw [upd_ne _ _ (by omega)])); exact q s hs) hF1 hxl ?_ hh1.rd hc1 hcl1 hR1
    have := hG1 [] sti (by rw [Nat.sub_self]; exact Got.pure _)
    rwa [List.append_nil] at this

/-- The loop over no elements. -/
theorem loop0_ok {x u bk L : Nat} {r : Int} {body : MCode} (hr : r ≤ 0) (hx : x + 4 < L) (hL : L ≤ u) (hN : u + 15 ≤ N) (rl : ρ (x + 2) = .int .i32 r) (hQ : ∀ ρ', (∀ s, s < x + 3 → ρ' s = ρ s) → Q .normal ρ' w) : RW P N (loopR R x u bk body) Q ρ w := by
  unfold loopR
  refine RW.sq (RW.rg (RL.step MR.mv (RL.nil (RW.bl ?_)) (by omega)))
  refine RW.lp (fun ρ' w' => w' = w ∧ (∀ s, s < x + 3 → ρ' s = ρ s) ∧ ρ' (x + 3) = .int .i32 0) (fun _ _ => 0) ⟨rfl, fun s hs => by (repeat (first | rw [upd_same] | rw [upd_ne _ _ (by omega)])), upd_same _ _ _⟩ ?_
  rintro ρ1 w1 ⟨rfl, q, q3⟩
  refine RW.sq (RW.sq (RW.rg (RL.step (MR.mv q3 (ltT (by omega))) (RL.step (MR.mv (v := .int .i32 r) (by show upd _ _ _ (x + 2) = _; (repeat (first | rw [upd_same] | rw [upd_ne _ _ (by omega)])); rw [q _ (by omega)]; exact rl) (ltT (by omega))) (RL.step (MR.biE (v := .bool (decide ((0 : Int) < r))) (by show evB .lss (upd _ _ _ (u + 10)) (upd _ _ _ (u + 11)) = _; (repeat (first | rw [upd_same] | rw [upd_ne _ _ (by omega)])); rfl) (ltT (by omega)) (ltT (by omega))) (RL.nil ?_) (by omega)) (by omega)) (by omega))))
  refine RW.cd (upd_same _ _ _) (fun e => absurd (of_decide_eq_true e) (by omega)) (fun e => RW.ex ?_) (by omega)
  show (if bk = bk then Q .normal _ _ else _)
  rw [if_pos rfl]
  exact hQ _ (fun s hs => by (repeat (first | rw [upd_same] | rw [upd_ne _ _ (by omega)])); exact q s hs)

/-- A frame may name new blocks, or not. -/
theorem Fr.drop {X X' : Nat → Prop} (h : Fr X b o n w w') (hX : ∀ k, X k → X' k ∨ w.heap.size ≤ k) : Fr X' b o n w w' :=
  ⟨h.os, h.tape, h.output, h.size, fun k h1 h2 h3 => h.block k h1 h2 (fun x => (hX k x).elim h3 (fun e => by omega)), h.cell, h.there⟩

/-- An element of a list of plain things. -/
theorem elemR_ok {ty ety x t L ab l cap i : Nat} {k : PK} (kk : RKOK P R G) (hk : rdOk R sf k = true) (hsl : sliceOf P ty ety = true) (hc : cellsB P ety k.cells = true) (hh : FH P R rb sb ab ab 0 (l * k.cells) ev st w) (r7 : ρ 7 = .pointer (some ⟨rb, 0, none⟩)) (r2 : ρ 2 = .bool false) (rf : ∀ s, sf = some s → ρ s = .bool flex) (nf : sf = none → flex = false)
    (h9 : 8 < x) (hs : ∀ s, sf = some s → s < x) (hx : x + 4 < L) (hL : L ≤ t) (hN : (elemR R sf k ty ety x t).2 ≤ N) (ra : ρ (x + 1) = .slice (some ⟨ab, 0, none⟩) l cap) (ri : ρ (x + 3) = .int .i32 (i : Nat)) (hi : i < l)
    (hQ : ∀ ρ2 w2 d st2 us, (∀ s, s < x + 4 → ρ2 s = ρ s) → Fr (· = rb) ab (i * k.cells) k.cells w w2 → Got (dP k flex) st d st2 → RdAt w2 rb sb st2 → w2.rangeAt ab (i * k.cells) us → us.length = k.cells → RepP w2 (FB sb ab w2) k us d → Q .normal ρ2 w2) : RW P N (elemR R sf k ty ety x t).1 Q ρ w := by
  simp only [elemR] at hN ⊢
  have hle := @rdA_le R sf k (x + 4) t
  have hmul : (i + 1) * k.cells ≤ l * k.cells := Nat.mul_le_mul_right _ hi
  have hmul' : (i + 1) * k.cells = i * k.cells + k.cells := Nat.succ_mul i k.cells
  refine RWL.rows ?_
  have core : ∀ ρ1, (∀ s, s < x + 4 → ρ1 s = ρ s) → RWL P N [(rdA R sf k (x + 4) t).1, .rg [.mv (rdA R sf k (x + 4) t).2 (.t (x + 1)), .mv ((rdA R sf k (x + 4) t).2 + 1) (.t (x + 3)), .mv ((rdA R sf k (x + 4) t).2 + 2) (.t (x + 4)), .ia ((rdA R sf k (x + 4) t).2 + 3) ty (rdA R sf k (x + 4) t).2 ((rdA R sf k (x + 4) t).2 + 1), .st ety ((rdA R sf k (x + 4) t).2 + 3) ((rdA R sf k (x + 4) t).2 + 2)]] Q ρ1 w := by
    intro ρ1 h1
    refine rdA_ok (L := L) kk hk hx (by omega) (fun s e => by have := hs s e; omega) hL (by omega) hh.rd hh.ne (by rw [h1 7 (by omega)]; exact r7) (by rw [h1 2 (by omega)]; exact r2) (fun s e => by rw [h1 s (by have := hs s e; omega)]; exact rf s e) nf ?_
    intro ρ2 w2 v d st2 g1 g2 g3 g4 g5 g6
    obtain ⟨_, g6a, g6b, g6c⟩ := g6
    have hln : v.cells.toList.length = k.cells := by rw [Array.length_toList]; exact g6a
    have F1 : Fr (· = rb) ab (i * k.cells) k.cells w w2 := g3.rd hh.rbb hh.hw
    have ht2 : w2.there ab (i * k.cells) k.cells := by
      have := there_in (k := i * k.cells) (m := k.cells) (F1.there _ _ hh.th) (by omega)
      rwa [Nat.zero_add] at this
    have ea : ρ2 (x + 1) = .slice (some ⟨ab, 0, none⟩) l cap := by rw [g1 _ (by omega) (by omega), h1 _ (by omega)]; exact ra
    have ei : ρ2 (x + 3) = .int .i32 (i : Nat) := by rw [g1 _ (by omega) (by omega), h1 _ (by omega)]; exact ri
    generalize (rdA R sf k (x + 4) t).2 = u at hN hle ⊢
    refine RW.rg (RL.step (MR.mv ea (ltT (by omega))) (RL.step (MR.mv (v := .int .i32 (i : Nat)) (by show upd _ _ _ (x + 3) = _; (repeat (first | rw [upd_same] | rw [upd_ne _ _ (by omega)])); exact ei) (ltT (by omega))) (RL.step (MR.mv (v := v) (by show upd _ _ _ (x + 4) = _; (repeat (first | rw [upd_same] | rw [upd_ne _ _ (by omega)])); exact g2) (ltT (by omega)))
      (RL.step (MR.ia (k := .i32) (b := ab) (o := 0) (len := l) (cap := cap) (j := i) (sz := k.cells) hsl hc (by (repeat (first | rw [upd_same] | rw [upd_ne _ _ (by omega)]))) (by (repeat (first | rw [upd_same] | rw [upd_ne _ _ (by omega)]))) hi (by omega) (by omega)) ?_ (by omega)) (by omega)) (by omega)) (by omega))
    rw [Nat.zero_add]
    have e1 : ∀ (z : Value), (upd (upd (upd (upd ρ2 u (.slice (some ⟨ab, 0, none⟩) l cap)) (u + 1) (.int .i32 (i : Nat))) (u + 2) v) (u + 3) z) (u + 2) = v := fun z => by (repeat (first | rw [upd_same] | rw [upd_ne _ _ (by omega)]))
    refine RL.st (b := ab) (o := i * k.cells) (upd_same _ _ _) (by rw [e1, g6a]; exact hc) (by rw [e1, g6a]; exact ht2) (by rw [e1]; exact (by rw [← Array.all_toList]; exact g6b)) ?_ (by omega) (by omega)
    rw [e1]
    refine RL.nil ?_
    have F2 : Fr (· = rb) ab (i * k.cells) k.cells w2 (w2.setCells ab (i * k.cells) v.cells.toList) := Fr.put _ (by omega) (by rw [hln]; omega)
    refine hQ _ _ d st2 v.cells.toList (fun s hs => by (repeat (first | rw [upd_same] | rw [upd_ne _ _ (by omega)])); rw [g1 s (by omega) (by omega), h1 s hs]) (F1.trans F2) g4 ?_ (World.rangeAt_setCells_same _ _ _ _ (by rw [hln]; exact ht2)) hln ?_
    · exact g5.keep (setCells_other ab _ _ _ rb (fun e => hh.rbb e.symm)) (setCells_other ab _ _ _ sb hh.nb)
    · have hsz : w2.heap.size ≤ (w2.setCells ab (i * k.cells) v.cells.toList).heap.size := F2.size
      have hw := hh.hw
      refine RepP.mono g6c.bound (fun k hk => ?_) (fun k hk => setCells_other ab _ _ _ k ?_)
      · rcases hk with ⟨hk | hk, hk'⟩
        · exact .inl hk
        · exact .inr ⟨Nat.lt_of_lt_of_le hw hk, Nat.lt_of_lt_of_le hk' hsz⟩
      · rcases hk with ⟨rfl | hk, _⟩
        · exact hh.nb
        · exact fun e => by omega
  cases h2 : k.two
  · simp only [Bool.false_eq_true, if_false, List.nil_append]
    exact core ρ fun _ _ => rfl
  · simp only [if_true, List.cons_append, List.nil_append]
    exact RW.rg (RL.step MR.mv (RL.nil (core _ fun s hs => by rw [upd_ne _ _ (by omega)])) (by omega))

/-- An element that is an array of sixteen octets. -/
theorem elemRU_ok {ty ety x t L ab l cap i : Nat} (kk : RKOK P R G) (h0 : R.uuid ≠ 0) (hsl : sliceOf P ty ety = true) (hc : cellsB P ety 16 = true) (hrow : rowTy P ety = true) (hz : zeroIs P ety (List.replicate 16 (.int .u8 0)) = true) (hh : FH P R rb sb ab ab 0 (l * 16) ev st w) (r7 : ρ 7 = .pointer (some ⟨rb, 0, none⟩))
    (h9 : 8 < x) (hx : x + 4 < L) (hL : L ≤ t) (hN : t + 5 ≤ N) (ra : ρ (x + 1) = .slice (some ⟨ab, 0, none⟩) l cap) (ri : ρ (x + 3) = .int .i32 (i : Nat)) (hi : i < l)
    (hQ : ∀ ρ2 w2 d st2 us, (∀ s, s < x + 4 → ρ2 s = ρ s) → Fr (· = rb) ab (i * 16) 16 w w2 → Got (dP .uuid flex) st d st2 → RdAt w2 rb sb st2 → w2.rangeAt ab (i * 16) us → us.length = 16 → RepP w2 (FB sb ab w2) .uuid us d → Q .normal ρ2 w2) : RW P N (elemRU R ty ety x t).1 Q ρ w := by
  have hmul : (i + 1) * 16 ≤ l * 16 := Nat.mul_le_mul_right _ hi
  have hzz := zeroIs_of hz
  unfold elemRU
  refine RWL.rows ?_
  refine RW.rg (RL.rd (kk.fn .uuid flex h0) r7 hh.rd hh.ne (ltT (by omega)) (by omega) fun v d st2 w2 g3 g4 g5 g6 => ?_)
  obtain ⟨g6v, g6a, g6b, g6c⟩ := g6
  have hv : v = .agg v.cells := g6v
  have hl16 : v.cells.toList.length = 16 := by rw [Array.length_toList]; exact g6a
  have hw := hh.hw
  have hsz2 := g3.size
  refine RL.alst (n := 16) (cs := v.cells.toList) hzz (by rw [upd_same, Array.toArray_toList]; exact hv) (by omega) (by simp) hl16 hc g6b ?_ (by omega) (by omega)
  intro w3 b3 s3 r3 t3
  refine RL.nil ?_
  show RWL P N _ _ _ w3
  have F1 : Fr (· = rb) ab (i * 16) 16 w w2 := g3.rd hh.rbb hh.hw
  have F3 : Fr (· = rb) ab (i * 16) 16 w2 w3 := Fr.ofBelow b3 (by omega)
  have R3 : RdAt w3 rb sb st2 := g5.below b3
  have ht3 : w3.there ab (i * 16) 16 := by
    have := there_in (k := i * 16) (m := 16) ((F1.trans F3).there _ _ hh.th) (by omega)
    rwa [Nat.zero_add] at this
  refine RW.rg (RL.step (MR.mv (v := .slice (some ⟨ab, 0, none⟩) l cap) (by show upd _ _ _ (x + 1) = _; (repeat (first | rw [upd_same] | rw [upd_ne _ _ (by omega)])); exact ra) (ltT (by omega))) (RL.step (MR.mv (v := .int .i32 (i : Nat)) (by show upd _ _ _ (x + 3) = _; (repeat (first | rw [upd_same] | rw [upd_ne _ _ (by omega)])); exact ri) (ltT (by omega))) (RL.step (MR.ldRow (b := w2.heap.size) (o := 0) (cs := v.cells.toList) (by (repeat (first | rw [upd_same] | rw [upd_ne _ _ (by omega)]))) hrow (by rw [hl16]; exact hc) r3 (by omega))
    (RL.step (MR.ia (k := .i32) (b := ab) (o := 0) (len := l) (cap := cap) (j := i) (sz := 16) hsl hc (by (repeat (first | rw [upd_same] | rw [upd_ne _ _ (by omega)]))) (by (repeat (first | rw [upd_same] | rw [upd_ne _ _ (by omega)]))) hi (by omega) (by omega)) (RL.stA (cs := v.cells.toList) (b := ab) (o := i * 16) (by rw [upd_same, Nat.zero_add]) (by (repeat (first | rw [upd_same] | rw [upd_ne _ _ (by omega)]))) (by rw [hl16]; exact hc) (by rw [hl16]; exact ht3) g6b (RL.nil ?_) (by omega) (by omega)) (by omega)) (by omega)) (by omega)) (by omega))
  have F2 : Fr (· = rb) ab (i * 16) 16 w3 (w3.setCells ab (i * 16) v.cells.toList) := Fr.put _ (by omega) (by rw [hl16]; omega)
  refine hQ _ _ d st2 v.cells.toList (fun s hs => by (repeat (first | rw [upd_same] | rw [upd_ne _ _ (by omega)]))) ((F1.trans F3).trans F2) g4 ?_ (World.rangeAt_setCells_same _ _ _ _ (by rw [hl16]; exact ht3)) hl16 ?_
  · exact R3.keep (setCells_other ab _ _ _ rb (fun e => hh.rbb e.symm)) (setCells_other ab _ _ _ sb hh.nb)
  · simp only [RepP] at g6c ⊢; exact g6c

theorem lenR_le {x t : Nat} : t ≤ (lenR R sf x t).2 := ifFlex_le2 (fun _ => callR_le) (fun _ => callR_le)

/-- What an element's code does, at slot level. -/
structure ElC (P : Program) (R : RN) (N : Nat) (rb sb : Nat) (ev : Value) (sf : Option Nat) (flex : Bool) (ver : Int) (el : Ty) (x L : Nat) (zs : List Value) (body : Nat → MCode × Nat × Nat × Nat) : Prop where
  go : ∀ {t' ab l c i vs b o : Nat} {ρ ρ1 : Nat → Value} {w1 : World} {st1 : Option (List UInt8)} {Q1 : Exit → (Nat → Value) → World → Prop}, L ≤ t' → (body t').2.1 ≤ N → FH P R rb sb ab ab 0 (l * el.cells) ev st1 w1 → RCx sf flex ver rb vs b o ρ → vs < x → (∀ s, s < x → ρ1 s = ρ s) →
    ρ1 (x + 1) = .slice (some ⟨ab, 0, none⟩) l c → ρ1 (x + 3) = .int .i32 (i : Nat) → i < l → w1.rangeAt ab (i * el.cells) zs →
    (∀ ρ2 w2 d st2 vs, (∀ s, s < x + 4 → ρ2 s = ρ1 s) → Fr (· = rb) ab (i * el.cells) el.cells w1 w2 → Got (dec ver flex el) st1 d st2 → RdAt w2 rb sb st2 → w2.rangeAt ab (i * el.cells) vs → vs.length = el.cells → Rep w2 (FB sb ab w2) el vs d → Q1 .normal ρ2 w2) →
    (∀ ρ2 w2, ρ2 6 = ev → Fr (· = rb) ab (i * el.cells) el.cells w1 w2 → (∀ d, Got (dec ver flex el) st1 d none) → RdAt w2 rb sb none → Q1 .ret ρ2 w2) → RW P N (body t').1 Q1 ρ1 w1

theorem arrR_ok {T vs idx off ty ety x t bk L : Nat} {el : Ty} {zs : List Value} {nul : Option Nat} {body : Nat → MCode × Nat × Nat × Nat} (kk : RKOK P R G) (hwf : arrB P R sf ty ety el.cells = true) (hz : ZE P ety el.cells zs) (hF : fieldAtB P T idx off = true) (hh : FH P R rb sb h b o n ev st w) (cx : RCx sf flex ver rb vs b o ρ)
    (hx9 : 9 ≤ x) (hs : ∀ s, sf = some s → s < x) (hvx : vs < x) (hxL : x + 4 < L) (hL : L ≤ t) (hb : ∀ t, t ≤ (body t).2.1) (hN : (arrR R sf nul T vs idx ty t x bk body).2.1 ≤ N) (hoff : off + 1 ≤ n) (h0 : w.cell? ⟨b, o + off, none⟩ = some (.slice none 0 0))
    (hel : ElC P R N rb sb ev sf flex ver el x L zs body)
    (hQ : ∀ ρ' w' d st' v, (∀ s, s < x → ρ' s = ρ s) → Fr (· = rb) b (o + off) 1 w w' → Got (dec ver flex (.arr nul ty ety el)) st d st' → RdAt w' rb sb st' → w'.rangeAt b (o + off) [v] → Rep w' (FB sb h w') (.arr nul ty ety el) [v] d → Q .normal ρ' w')
    (hE : ∀ ρ' w', ρ' 6 = ev → Fr (· = rb) b (o + off) 1 w w' → (∀ d, Got (dec ver flex (.arr nul ty ety el)) st d none) → RdAt w' rb sb none → Q .ret ρ' w') : RW P N (arrR R sf nul T vs idx ty t x bk body).1 Q ρ w := by
  simp only [arrB, Bool.and_eq_true] at hwf
  obtain ⟨⟨⟨⟨⟨⟨⟨⟨f2, f3⟩, f4⟩, f5⟩, f6⟩, f7⟩, f10⟩, f8⟩, f9⟩ := hwf
  simp only [arrR] at hN ⊢
  have hbw : b < w.heap.size := Nat.lt_of_le_of_lt hh.hb hh.hw
  have hle1 : t + 5 ≤ (lenR R sf x (t + 5)).2 := lenR_le
  have hle2 := hb ((lenR R sf x (t + 5)).2 + nulT nul + 15)
  generalize hbody : body ((lenR R sf x (t + 5)).2 + nulT nul + 15) = bd at hN hle2 ⊢
  refine RWL.rows ?_
  simp only [List.cons_append, List.nil_append]
  refine loadR_ok (L := L) hF f3 cx.rv h0 (by omega) (by omega) hL (by omega) fun ρ1 a1 a2 => ?_
  refine mv2_ok (L := L) a2 (by omega) (by omega) (by omega) (by omega) fun ρ2 b1 b2 => ?_
  refine mvc_ok (L := L) (by omega) (by omega) fun ρ3 c1 c2 => ?_
  have q3 : ∀ s, s < x → ρ3 s = ρ s := fun s hs => by rw [c1 s (by omega) (by omega), b1 s (by omega) (by omega), a1 s (by omega) (by omega)]
  have cx3 := cx.keep q3 hx9 hs hvx
  refine lenR_ok (L := L) kk (ne0 f7) (fun s e => by rw [e] at f8; exact ne0 f8) (by omega) (by omega) (fun s e => by have := hs s e; omega) (by omega) (by omega) hh.rd hh.ne cx3.r7 cx3.rf cx3.nf ?_
  intro ρ40 w40 r st4 d1 d20 d3 d4 d5 d60
  have F40 : Fr (· = rb) b (o + off) 1 w w40 := d4.rd hh.rbb hbw
  have q40 : ∀ s, s < x → ρ40 s = ρ s := fun s hs => by rw [d1 s (by omega) (by omega), q3 s hs]
  have cx40 := cx.keep q40 hx9 hs hvx
  have hrb40 := d60.lt
  have hsz40 := F40.size
  show RWL P N _ Q ρ40 w40
  refine nul_ok (L := L) (nul := nul) (ver := ver) (r := r) f4 (by obtain ⟨i, z, hi, _⟩ := hz; rw [hi]; rfl) (by omega) (by omega) (by omega) (by omega) cx40.r8 (by rw [d1 _ (by omega) (by omega), c1 _ (by omega) (by omega), b2]) d20 ?_
  intro ρ4 w4 av n1 ra4 n3 n4
  have F4 : Fr (· = rb) b (o + off) 1 w w4 := F40.trans (Fr.ofBelow n3 (by omega))
  have d6 : RdAt w4 rb sb st4 := d60.below n3
  have hh4 := hh.keep F4 d6
  have q4 : ∀ s, s < x → ρ4 s = ρ s := fun s hs => by rw [n1 s (by omega) (by omega), q40 s hs]
  have cx4 := cx.keep q4 hx9 hs hvx
  have d2 : ρ4 (x + 2) = .int .i32 r := by rw [n1 _ (by omega) (by omega)]; exact d20
  have fin : ∀ (ρ6 : Nat → Value) (w6 : World) (v : Value) (d : D) (st6 : Option (List UInt8)), (∀ s, s < x → ρ6 s = ρ s) → ρ6 (x + 1) = v → v.oneCell' = true → Fr (· = rb) b (o + off) 1 w w6 → FH P R rb sb h b o n ev st6 w6 → Got (dec ver flex (.arr nul ty ety el)) st d st6 → Rep w6 (FB sb h w6) (.arr nul ty ety el) [v] d →
      RWL P N [.rg [.mv bd.2.1 (.t (x + 1)), .mv x (.t bd.2.1)], (storeR T vs idx ty x (bd.2.1 + 1)).1] Q ρ6 w6 := by
    intro ρ6 w6 v d st6 e1 e2 e3 e4 e5 e6 e7
    have e3'' : v.cells = #[v] := by cases v <;> simp_all [Value.cells, Value.oneCell']
    have e3' : v.cells.size = 1 := by rw [e3'']; rfl
    refine mv2_ok (L := L) e2 (by omega) (by omega) (by omega) (by omega) fun ρ7 g1 g2 => ?_
    have cx7 := cx.keep (ρ' := ρ7) (fun s hs => by rw [g1 s (by omega) (by omega), e1 s hs]) hx9 hs hvx
    have ht7 : w6.there b (o + off) 1 := there_in e5.th hoff
    refine RW.mono (store_ok (L := L) (v := v) hF (by rw [e3']; exact f2) cx7.rv g2 (by rw [e3'']; simp [e3]) (by rw [e3']; exact ht7) (by omega) (by omega) (by omega) (by omega) fun ρ8 h8 => ?_) (fun e ρ w h => h)
    rw [e3'']
    show Q .normal ρ8 (w6.setCells b (o + off) [v])
    have FP : Fr (· = rb) b (o + off) 1 w6 (w6.setCells b (o + off) [v]) := Fr.put _ (by omega) (by simp)
    refine hQ ρ8 _ d st6 v (fun s hs => by rw [h8 s (by omega), g1 s (by omega) (by omega), e1 s hs]) (e4.trans FP) e6 ?_ (World.rangeAt_setCells_same _ _ _ _ ht7) (e5.rep FP e7)
    exact e5.rd.keep (setCells_other b _ _ _ rb (fun e => e5.rbb e.symm)) (setCells_other b _ _ _ sb e5.nb)
  refine make_ok (L := L) (st := st4) kk (ne0 f10) f4 hz f9 (by omega) (by omega) (by omega) (by omega) d6 cx4.r7 hh4.ev n4.av ra4 d2 d3 ?_ ?_ ?_
  · intro hbad ρ5 h5
    have e4 : st4 = none := by cases st4 with | none => rfl | some l => simp [stB] at hbad
    subst e4
    refine hE ρ5 w4 h5 F4 (fun d => ?_) d6
    unfold dec
    exact Got.bind d5 (by exact rfl)
  · intro hgood hr ρ5 h5 h5a
    refine loop0_ok (L := L) hr hxL (by omega) (by omega) (by rw [h5 _ (by omega) (by omega)]; exact d2) fun ρ6 h6 => ?_
    refine fin ρ6 w4 av (.l (nulOf nul ver r) []) st4 (fun s hs => by rw [h6 s (by omega), h5 s (by omega) (by omega), q4 s hs]) (by rw [h6 _ (by omega)]; exact h5a) (by rcases n4.av with e | ⟨q, e⟩ <;> rw [e] <;> rfl) F4 hh4 ?_ ?_
    · unfold dec
      refine Got.bind d5 ?_
      show Got (if r ≤ 0 then _ else _) st4 _ st4
      rw [if_pos hr]
      exact Got.pure _
    · unfold Rep
      have hw0 := hh.hw
      rcases n4 with ⟨e1, e2⟩ | ⟨e1, q, e2, e3, e4⟩
      · exact ⟨_, _, rfl, .inl ⟨by rw [e1], rfl, e2⟩⟩
      · exact ⟨_, _, rfl, .inr ⟨e1, q, [], 0, by rw [e2]; rfl, .inr ⟨by omega, e4⟩, fun j v hj => by simp at hj, by simp, fun i d hd => by simp at hd⟩⟩
  · intro hgood hr ρ5 w5 c h5 h5a h5b h5c h5d h5e
    obtain ⟨l, rfl⟩ : ∃ l : Nat, r = (l : Nat) := ⟨r.toNat, by omega⟩
    have hl32 : l ≤ 2147483647 := by have := d3.2; omega
    rw [Int.toNat_natCast] at h5a h5d h5e
    obtain ⟨cs, hcsl, hcs, hcz⟩ := h5d
    have hrb4 := d6.lt
    have hsz4 := F4.size
    have F5 : Fr (· = rb) b (o + off) 1 w4 w5 := Fr.ofBelow h5b (Nat.lt_of_lt_of_le hbw hsz4)
    have R5 : RdAt w5 rb sb st4 := d6.below h5b
    have hh5 := hh4.keep F5 R5
    have hwl := hh4.hw
    have hha : FH P R rb sb w4.heap.size w4.heap.size 0 (l * el.cells) ev st4 w5 :=
      ⟨R5, hh.ne, by have := hh4.hs; omega, by omega, Nat.le_refl _, by omega, by omega, hh5.hs, h5e, hh5.ev, by have := World.block_lt_of_cell? w4 _ hh4.ev; exact fun e => by simp only at this; omega, hh.gr⟩
    have q5 : ∀ s, s < x → ρ5 s = ρ s := fun s hs => by rw [h5 s (by omega) (by omega), q4 s hs]
    have rl5 : ρ5 (x + 2) = .int .i32 (l : Nat) := by rw [h5 _ (by omega) (by omega)]; exact d2
    have up : ∀ w6, Fr (· = rb) w4.heap.size 0 (l * el.cells) w5 w6 → Fr (· = rb) b (o + off) 1 w4 w6 := by
      intro w6 g2
      have hne4 : b ≠ w4.heap.size := by omega
      have F' : Fr (fun k => k = rb ∨ k = w4.heap.size) b (o + off) 1 w5 w6 := (g2.wide (X' := fun k => k = rb ∨ k = w4.heap.size) (fun _ h => .inl h) (Nat.le_refl _) (Nat.le_refl _)).other (.inr rfl) (by rintro (e | e); exact hh.rbb e; exact hne4 e) (by omega)
      exact ((F5.wide (X' := fun k => k = rb ∨ k = w4.heap.size) (fun _ h => .inl h) (Nat.le_refl _) (Nat.le_refl _)).trans F').drop (fun k hk => hk.imp id (fun e => by omega))
    refine loop_ok (L := L) (ec := el.cells) (el := el) (de := dec ver flex el) (zs := zs) hha hl32 hxL (by omega) (by omega) h5a rl5 hcs hcsl hcz ?_ ?_ ?_
    · intro i ρ6 w6 st6 Q6 hi g1 g2 hh6 hF6 hz6 hK hK2
      rw [← hbody] at hN ⊢
      exact hel.go (t' := (lenR R sf x (t + 5)).2 + nulT nul + 15) (l := l) (c := c) (i := i) (by omega) (by omega) hh6 cx hvx (fun s hs => by rw [g1 s (by omega), q5 s hs]) (by rw [g1 _ (by omega)]; exact h5a) g2 hi hz6 hK hK2
    · intro ρ6 w6 xs st6 cs' g1 g2 g3 g4 g5 g6 g7 g8
      have Fx := up w6 g2
      have hh6 := hh4.keep Fx g5
      have hs6 : w4.heap.size < w6.heap.size := Nat.lt_of_lt_of_le (by omega) g2.size
      refine fin ρ6 w6 (.slice (some ⟨w4.heap.size, 0, none⟩) l c) (.l false xs) st6 (fun s hs => by rw [g1 s (by omega), q5 s hs]) (by rw [g1 _ (by omega)]; exact h5a) rfl (F4.trans Fx) hh6 ?_ ?_
      · unfold dec
        refine Got.bind d5 ?_
        show Got (if ((l : Nat) : Int) ≤ 0 then _ else _) st4 _ st6
        rw [if_neg (by omega), Int.toNat_natCast]
        exact g4.map (f := fun xs => D.l false xs)
      · unfold Rep
        refine ⟨_, _, rfl, .inr ⟨rfl, w4.heap.size, cs', c, by rw [g3], .inr ⟨hwl, hs6⟩, g6, by rw [g3, g7]; exact Nat.le_refl _, fun i d hd => ?_⟩⟩
        refine Rep.mono (fun k hk => ?_) (fun k _ => rfl) el (g8 i d hd)
        rcases hk with hk | ⟨hk, hk'⟩
        · exact .inl hk
        · exact .inr ⟨by omega, hk'⟩
    · intro ρ6 w6 g1 g2 g3 g4
      refine hE ρ6 w6 g1 (F4.trans (up w6 g2)) (fun d => ?_) g4
      unfold dec
      refine Got.bind d5 ?_
      show Got (if ((l : Nat) : Int) ≤ 0 then _ else _) st4 _ none
      rw [if_neg (by omega), Int.toNat_natCast]
      exact Got.any ((g3 []).map (f := fun xs => D.l false xs))

/-- An element that is plain. -/
theorem elC_prim {ty ety x bk L : Nat} {k : PK} {kty : Nat} {zs : List Value} (kk : RKOK P R G) (hk : rdOk R sf k = true) (hsl : sliceOf P ty ety = true) (hc : cellsB P ety k.cells = true) (hu : uuB P k ety = true) (hx9 : 9 ≤ x) (hs : ∀ s, sf = some s → s < x) (hxL : x + 4 < L) :
    ElC P R N rb sb ev sf flex ver (.prim k kty) x L zs (fun t => ((elemU R sf k ty ety x t).1, (elemU R sf k ty ety x t).2, x + 5, bk + 2)) := by
  refine ⟨?_⟩
  intro t' ab l c i vs b o ρ ρ1 w1 st1 Q1 hL hN hh cx hvx q ra ri hi hz hK hK2
  have cx1 := cx.keep q hx9 hs hvx
  by_cases e : k = .uuid
  · subst e
    simp only [uuB, Bool.and_eq_true] at hu
    have h0 : R.uuid ≠ 0 := by
      intro e
      have : rdOk R sf .uuid = false := by unfold rdOk RN.fn; simp [e]
      rw [this] at hk; cases hk
    refine elemRU_ok (L := L) (flex := flex) (l := l) (cap := c) (i := i) kk h0 hsl hc hu.1 hu.2 hh cx1.r7 (by omega) hxL hL hN ra ri hi ?_
    intro ρ2 w2 d st2 us k1 k2 k3 k4 k5 k6 k7
    exact hK ρ2 w2 d st2 us k1 k2 (by unfold dec; exact k3) k4 k5 k6 (by unfold Rep; exact k7)
  · have e2 : elemU R sf k ty ety x t' = elemR R sf k ty ety x t' := by cases k <;> first | rfl | exact absurd rfl e
    simp only at hN ⊢
    rw [e2] at hN ⊢
    refine elemR_ok (L := L) (flex := flex) (l := l) (cap := c) (i := i) kk hk hsl hc hh cx1.r7 cx1.r2 cx1.rf cx1.nf (by omega) hs hxL hL hN ra ri hi ?_
    intro ρ2 w2 d st2 us k1 k2 k3 k4 k5 k6 k7
    exact hK ρ2 w2 d st2 us k1 k2 (by unfold dec; exact k3) k4 k5 k6 (by unfold Rep; exact k7)
end
end Go.Kx
namespace Go.Kx
open Go.RowKit
set_option linter.unusedSimpArgs false
set_option linter.unusedVariables false

/-- The cells of defaults: each says its default; a list is nil. -/
def ZF (w : World) : Flds → List Value → Prop
  | .nil, _ => True
  | .cons _ _ off df ty rest, cs => off + ty.cells ≤ cs.length ∧ Rep w (fun _ => False) ty ((cs.drop off).take ty.cells) (dfl ty df) ∧ ((∃ a b c d, ty = .arr a b c d) → cs[off]? = some (.slice none 0 0)) ∧ ZF w rest cs

theorem zf_of {w : World} : ∀ {fs : Flds} {cs : List MVal}, zfB fs cs = true → ZF w fs (cs.map MVal.val)
  | .nil, _, _ => trivial
  | .cons c idx off df ty rest, cs, h => by
    simp only [zfB, Bool.and_eq_true, Nat.ble_eq] at h
    obtain ⟨⟨h1, h2⟩, h3⟩ := h
    unfold ZF
    cases hd : defT ty ((cs.drop off).take ty.cells) with
    | none => simp [hd] at h2
    | some d =>
      simp only [hd] at h2
      have e := eqD0_eq h2
      subst e
      refine ⟨by rw [List.length_map]; exact h1, ?_, ?_, zf_of h3⟩
      · have := defT_rep (w := w) (F := fun _ => False) hd
        rwa [List.map_take, List.map_drop] at this
      · rintro ⟨a, b, c', d', rfl⟩
        unfold defT at hd
        split at hd
        · rename_i heq
          have : cs[off]? = some .nslice := by
            have e2 : ((cs.drop off).take (Ty.arr a b c' d').cells)[0]? = some .nslice := by rw [heq]; rfl
            rw [List.getElem?_take] at e2
            split at e2
            · rw [List.getElem?_drop] at e2; exact e2
            · simp at e2
          rw [List.getElem?_map, this]; rfl
        · simp at hd

section
variable {P : Program} {N : Nat} {Q : Exit → (Nat → Value) → World → Prop} {ρ : Nat → Value} {w w' : World} {ms : List MOp} {R : RN} {G : TG} {rb sb h b o n : Nat} {ev : Value} {st st' : Option (List UInt8)} {sf : Option Nat} {flex : Bool} {ver : Int}

theorem tagsR_le {T vs t : Nat} {tg : Option (Nat × Nat)} : t ≤ (tagsR G sf T vs tg t).2 := by unfold tagsR; split <;> simp

theorem condR_le {c : Cnd} {t x : Nat} {body : Nat → MCode × Nat × Nat × Nat} (h : ∀ t, t ≤ (body t).2.1 ∧ x ≤ (body t).2.2.1) : t ≤ (condR R c t body).2.1 ∧ x ≤ (condR R c t body).2.2.1 := by
  unfold condR
  split
  · exact h t
  · have := h (t + 2); simp only; omega
  · have := h (t + 6); simp only; omega

mutual
theorem genRFld_le : ∀ (ty : Ty) {T vs idx t x bk : Nat}, t ≤ (genRFld R G sf ty T vs idx t x bk).2.1 ∧ x ≤ (genRFld R G sf ty T vs idx t x bk).2.2.1
  | .prim k ty, T, vs, idx, t, x, bk => by
    have := @primU_le R sf T vs idx x t k ty
    unfold genRFld
    simp only; omega
  | .arr nul ty ety el, T, vs, idx, t, x, bk => by
    have h1 := @lenR_le R sf x (t + 5)
    have h2 := elR_le el (ty := ty) (ety := ety) (t := (lenR R sf x (t + 5)).2 + nulT nul + 15) (x := x) (bk := bk)
    unfold genRFld
    simp only [arrR]; omega
  | .enum _ _ _, T, vs, idx, t, x, bk => by unfold genRFld; simp only [enumR]; omega
  | .vstr lim ty base, T, vs, idx, t, x, bk => by
    have := @vstrR_le R sf T vs idx lim ty base t x
    unfold genRFld; simp only; omega
  | .struct T' _ fDef tg fs, T, vs, idx, t, x, bk => by
    have h1 := genRF_le fs (T := T') (vs := x + 1) (t := t + 6) (x := x + 2) (bk := bk)
    have h2 := tagsR_le (G := G) (sf := sf) (T := T') (vs := x + 1) (t := (genRF R G sf fs T' (x + 1) (t + 6) (x + 2) bk).2.1) (tg := tg)
    unfold genRFld
    simp only; omega
theorem elR_le : ∀ (el : Ty) {ty ety t x bk : Nat}, t ≤ (elR R G sf el ty ety t x bk).2.1 ∧ x + 5 ≤ (elR R G sf el ty ety t x bk).2.2.1
  | .prim k _, ty, ety, t, x, bk => by
    have h2 := @elemU_le R sf ty ety x t k
    unfold elR
    simp only; omega
  | .struct T _ fDef tg fs, ty, ety, t, x, bk => by
    have h1 := genRF_le fs (T := T) (vs := x + 5) (t := t + 6) (x := x + 6) (bk := bk + 2)
    have h2 := tagsR_le (G := G) (sf := sf) (T := T) (vs := x + 5) (t := (genRF R G sf fs T (x + 5) (t + 6) (x + 6) (bk + 2)).2.1) (tg := tg)
    unfold elR
    simp only; omega
  | .arr _ _ _ _, ty, ety, t, x, bk => by unfold elR; exact ⟨Nat.le_refl _, Nat.le_refl _⟩
  | .enum _ _ _, ty, ety, t, x, bk => by unfold elR; exact ⟨Nat.le_refl _, Nat.le_refl _⟩
  | .vstr _ _ _, ty, ety, t, x, bk => by unfold elR; exact ⟨Nat.le_refl _, Nat.le_refl _⟩
theorem genRF_le : ∀ (fs : Flds) {T vs t x bk : Nat}, t ≤ (genRF R G sf fs T vs t x bk).2.1 ∧ x ≤ (genRF R G sf fs T vs t x bk).2.2.1
  | .nil, T, vs, t, x, bk => by simp [genRF]
  | .cons c idx off df ty rest, T, vs, t, x, bk => by
    have h1 := @condR_le R c t x (fun t => genRFld R G sf ty T vs idx t x bk) (fun t => genRFld_le ty)
    have h2 := genRF_le rest (T := T) (vs := vs) (t := (condR R c t fun t => genRFld R G sf ty T vs idx t x bk).2.1) (x := (condR R c t fun t => genRFld R G sf ty T vs idx t x bk).2.2.1) (bk := (condR R c t fun t => genRFld R G sf ty T vs idx t x bk).2.2.2)
    simp only [genRF]
    omega
end

theorem condR_x {c : Cnd} {t1 t2 : Nat} {body : Nat → MCode × Nat × Nat × Nat} (h : ∀ t1 t2, (body t1).2.2 = (body t2).2.2) : (condR R c t1 body).2.2 = (body t2).2.2 := by
  cases c <;> simp only [condR] <;> exact h _ _

mutual
/-- Slots and labels do not hang on the temporaries. -/
theorem genRFld_x : ∀ (ty : Ty) (T vs idx t1 t2 x bk : Nat), (genRFld R G sf ty T vs idx t1 x bk).2.2 = (genRFld R G sf ty T vs idx t2 x bk).2.2
  | .prim k ty, T, vs, idx, t1, t2, x, bk => by unfold genRFld; rfl
  | .arr nul ty ety el, T, vs, idx, t1, t2, x, bk => by
    unfold genRFld
    simp only [arrR]
    exact elR_x el _ _ _ _ _ _
  | .enum _ _ _, T, vs, idx, t1, t2, x, bk => by unfold genRFld; rfl
  | .vstr _ _ _, T, vs, idx, t1, t2, x, bk => by unfold genRFld; rfl
  | .struct T' _ fDef tg fs, T, vs, idx, t1, t2, x, bk => by
    unfold genRFld
    have := genRF_x fs T' (x + 1) (t1 + 6) (t2 + 6) (x + 2) bk
    simp only [this]
theorem elR_x : ∀ (el : Ty) (ty ety t1 t2 x bk : Nat), (elR R G sf el ty ety t1 x bk).2.2 = (elR R G sf el ty ety t2 x bk).2.2
  | .prim k _, ty, ety, t1, t2, x, bk => by unfold elR; rfl
  | .struct T _ fDef tg fs, ty, ety, t1, t2, x, bk => by
    unfold elR
    have := genRF_x fs T (x + 5) (t1 + 6) (t2 + 6) (x + 6) (bk + 2)
    simp only [this]
  | .arr _ _ _ _, ty, ety, t1, t2, x, bk => by unfold elR; rfl
  | .enum _ _ _, ty, ety, t1, t2, x, bk => by unfold elR; rfl
  | .vstr _ _ _, ty, ety, t1, t2, x, bk => by unfold elR; rfl
theorem genRF_x : ∀ (fs : Flds) (T vs t1 t2 x bk : Nat), (genRF R G sf fs T vs t1 x bk).2.2 = (genRF R G sf fs T vs t2 x bk).2.2
  | .nil, T, vs, t1, t2, x, bk => by simp [genRF]
  | .cons c idx off df ty rest, T, vs, t1, t2, x, bk => by
    have e : ∀ t, (condR R c t fun t => genRFld R G sf ty T vs idx t x bk).2.2 = (genRFld R G sf ty T vs idx 0 x bk).2.2 := fun t => condR_x (fun a b => genRFld_x ty T vs idx a b x bk)
    simp only [genRF]
    rw [e t1, e t2]
    exact genRF_x rest _ _ _ _ _ _
end

/-- A version's test, at slot level. -/
theorem RW.twS {s ty lo hi t L : Nat} {v : Int} (hs : s < L) (hv : ρ s = .int .i16 v) (ht : L ≤ t) (hN : t + 6 ≤ N)
    (h : ∀ ρ', (∀ s, s < L → ρ' s = ρ s) → ρ' (t + 5) = .bool (decide ((lo : Int) ≤ v) && decide (v ≤ hi)) → Q .normal ρ' w) : RW P N (.tw s ty lo hi t) Q ρ w := by
  intro a ha
  have hl : Loc N L ρ a := ⟨ha.size, ha.defers, fun s hs => ha.get s (by omega)⟩
  refine MW.tw (N := N) (L := L) hl hs hv ht hN fun a' hl' h5 => ?_
  exact ⟨rd a', ⟨hl'.size, hl'.defers, fun _ _ => rfl⟩, h _ (fun s hs => hl'.get s hs) h5⟩

theorem condR_ok {c : Cnd} {t L : Nat} {body : Nat → MCode × Nat × Nat × Nat} (h16 : intTy P R.T.i16 .i16 = true) (r8 : ρ 8 = .int .i16 ver) (hL8 : 8 < L) (hL : L ≤ t) (hb : ∀ t, t ≤ (body t).2.1) (hN : (condR R c t body).2.1 ≤ N)
    (hyes : c.ok ver = true → ∀ ρ' t', (∀ s, s < L → ρ' s = ρ s) → L ≤ t' → (body t').2.1 ≤ N → RW P N (body t').1 Q ρ' w) (hno : c.ok ver = false → ∀ ρ', (∀ s, s < L → ρ' s = ρ s) → Q .normal ρ' w) : RW P N (condR R c t body).1 Q ρ w := by
  unfold condR at hN ⊢
  cases c with
  | always => exact hyes rfl ρ t (fun _ _ => rfl) hL hN
  | ge lo =>
    simp only at hN ⊢
    have := hb (t + 2)
    refine RW.sq (RW.rg (RL.step (MR.mv r8 (ltT (by omega))) (RL.step (MR.biE (v := .bool (decide ((lo : Int) ≤ ver))) (by show evB .geq (upd _ _ _ _) (.int .i16 (lo : Nat)) = _; rw [upd_same]; rfl) (ltT (by omega)) rfl) (RL.nil ?_) (by omega)) (by omega)))
    refine RW.cd (upd_same _ _ _) (fun e => hyes e _ _ (fun s hs => by (repeat (first | rw [upd_same] | rw [upd_ne _ _ (by omega)]))) (by omega) hN) (fun e => RW.sk (hno e _ (fun s hs => by (repeat (first | rw [upd_same] | rw [upd_ne _ _ (by omega)]))))) (by omega)
  | btw lo hi =>
    simp only at hN ⊢
    have := hb (t + 6)
    refine RW.sq (RW.twS (L := L) hL8 r8 hL (by omega) fun ρ' h1 h2 => ?_)
    refine RW.cd h2 (fun e => hyes e _ _ h1 (by omega) hN) (fun e => RW.sk (hno e _ h1)) (by omega)

theorem RepF.more {F : Nat → Prop} {tl : List Value} : ∀ {fs : Flds} {cs : List Value} {ds : List D}, RepF w F fs cs ds → RepF w F fs (cs ++ tl) ds
  | .nil, _, _, h => by unfold RepF at h ⊢; exact h
  | .cons c idx off df ty rest, cs, ds, h => by
    unfold RepF at h ⊢
    obtain ⟨h1, d, ds', h2, h3, h4⟩ := h
    refine ⟨by rw [List.length_append]; omega, d, ds', h2, ?_, RepF.more h4⟩
    rw [List.drop_append_of_le_length (by omega), List.take_append_of_le_length (by rw [List.length_drop]; omega)]
    exact h3

theorem ZF.keep {cs cs' : List Value} {k : Nat} (hd : cs'.drop k = cs.drop k) (hl : cs'.length = cs.length) : ∀ (fs : Flds) {T n : Nat}, wfRF P R G sf fs T n k = true → ZF w fs cs → ZF w' fs cs'
  | .nil, _, _, _, _ => trivial
  | .cons c idx off df ty rest, T, n, hwf, h => by
    simp only [wfRF, Bool.and_eq_true, Nat.ble_eq] at hwf
    obtain ⟨⟨⟨g1, g2⟩, g3⟩, g4⟩ := hwf
    unfold ZF at h ⊢
    obtain ⟨h1, h2, h3, h4⟩ := h
    refine ⟨by omega, ?_, fun e => ?_, ?_⟩
    · rw [part_of_drop hd g1]; exact Rep.mono (fun _ h => h) (fun b hb => hb.elim) ty h2
    · have := h3 e
      have e2 : cs'[off]? = cs[off]? := by
        have e3 : ∀ l : List Value, l[off]? = (l.drop k)[off - k]? := fun l => by rw [List.getElem?_drop]; congr 1; omega
        rw [e3, e3, hd]
      rw [e2]; exact this
    · have hd' : cs'.drop (off + ty.cells) = cs.drop (off + ty.cells) := by
        have e : ∀ l : List Value, l.drop (off + ty.cells) = (l.drop k).drop (off + ty.cells - k) := fun l => by rw [List.drop_drop]; congr 1; omega
        rw [e, e, hd]
      exact ZF.keep hd' hl rest g4 h4

/-- The tags' place: behind the fields, nil. -/
def TgP (P : Program) (G : TG) (w : World) (T b o n m : Nat) : Option (Nat × Nat) → Prop
  | none => n = m
  | some q => m = q.2 ∧ n = m + 1 ∧ fieldAtB P T q.1 q.2 = true ∧ G.fRead ≠ 0 ∧ w.cell? ⟨b, o + m, none⟩ = some (.map none)

theorem RWL.tags {T vs t x L m : Nat} {tg : Option (Nat × Nat)} {fs : Flds} {ds : List D} {cs : List Value} (kk : RKOK P R G) (hh : FH P R rb sb h b o m ev st w) (hne : b < w.heap.size) (hth : w.there b o n) (cx : RCx sf flex ver rb vs b o ρ) (hx9 : 9 ≤ x) (hs : ∀ s, sf = some s → s < x) (hvx : vs < x) (hxL : x ≤ L) (hL : L ≤ t) (hN : (tagsR G sf T vs tg t).2 ≤ N)
    (htg : TgP P G w T b o n m tg) (hr : w.rangeAt b o cs) (hl : cs.length = m) (hrep : RepF w (FB sb h w) fs cs ds) {rest : List MCode}
    (hQ : ∀ ρ' w' tags st' tl, (∀ s, s < x → ρ' s = ρ s) → Fr (· = rb) b o n w w' → Got (if tg.isSome && flex then dTags.map (fun ts => (ds, ts)) else Dec.pure (ds, [])) st (ds, tags) st' → RdAt w' rb sb st' → w'.rangeAt b o (cs ++ tl) → cs.length + tl.length = n → RepF w' (FB sb h w') fs cs ds → TagsAt w' (FB sb h w') tg (cs ++ tl) tags → RWL P N rest Q ρ' w') :
    RWL P N ((tagsR G sf T vs tg t).1 ++ rest) Q ρ w := by
  have noTags : (tg.isSome && flex) = false → ∀ ρ', (∀ s, s < x → ρ' s = ρ s) → RWL P N rest Q ρ' w := by
    intro hno ρ' hρ'
    cases htg' : tg with
    | none =>
      refine hQ ρ' w [] st [] hρ' (Fr.refl _ _ _ _ _) ?_ hh.rd (by rw [List.append_nil]; exact hr) (by rw [htg'] at htg; have h0 : n = m := htg; simp only [List.length_nil]; omega) hrep ?_
      · rw [hno]; exact Got.pure _
      · rw [htg']; rfl
    | some q =>
      rw [htg'] at htg
      obtain ⟨g1, g2, g3, g4, g5⟩ := htg
      refine hQ ρ' w [] st [.map none] hρ' (Fr.refl _ _ _ _ _) ?_ hh.rd ?_ (by simp only [List.length_cons, List.length_nil]; omega) hrep ?_
      · rw [hno]; exact Got.pure _
      · intro j v hj
        by_cases h1 : j < cs.length
        · rw [List.getElem?_append_left h1] at hj; exact hr j v hj
        · rw [List.getElem?_append_right (by omega)] at hj
          have hj0 : j - cs.length = 0 := by
            have := (List.getElem?_eq_some_iff.1 hj).1
            simp at this; omega
          rw [hj0] at hj
          simp only [List.getElem?_cons_zero, Option.some.injEq] at hj
          subst hj
          rw [show o + j = o + m from by omega]; exact g5
      · rw [htg']
        refine ⟨.map none, ?_, .inl ⟨rfl, rfl⟩⟩
        rw [← g1, ← hl, List.getElem?_append_right (Nat.le_refl _), Nat.sub_self]; rfl
  unfold tagsR at hN ⊢
  cases htg' : tg with
  | none =>
    simp only [List.nil_append]
    exact noTags (by rw [htg']; rfl) ρ fun _ _ => rfl
  | some q =>
    cases hsf : sf with
    | none =>
      simp only [List.nil_append]
      exact noTags (by rw [cx.nf hsf]; simp) ρ fun _ _ => rfl
    | some s =>
      rw [htg', hsf] at hN
      rw [htg'] at htg
      obtain ⟨g1, g2, g3, g4, g5⟩ := htg
      have hsx := hs s hsf
      simp only [List.cons_append, List.nil_append] at hN ⊢
      refine RW.sq (RW.rg (RL.step (MR.mv (cx.rf s hsf) (ltT (by omega))) (RL.nil ?_) (by omega)))
      refine RW.cd (upd_same _ _ _) (fun e => ?_) (fun e => RW.sk (noTags (by rw [e]; simp) _ fun s hs => by (repeat (first | rw [upd_same] | rw [upd_ne _ _ (by omega)])))) (by omega)
      refine RW.rg (RL.step (MR.mv (v := .pointer (some ⟨b, o, none⟩)) (by show upd _ _ _ vs = _; (repeat (first | rw [upd_same] | rw [upd_ne _ _ (by omega)])); exact cx.rv) (ltT (by omega))) ?_ (by omega))
      refine RL.ca (R := fun v w' => ∃ m tags st', v = .agg #[m] ∧ m.oneCell' = true ∧ Fr (fun _ => False) rb 0 2 w w' ∧ Got dTags st tags st' ∧ RdAt w' rb sb st' ∧ RepT w' (Rb w sb) m tags) (kk.tag g4).1 ?_ ?_ (by omega) (by simp [MX.lt, Nat.blt_eq]; omega)
      · simp only [List.map_cons, List.map_nil, xof]
        (repeat (first | rw [upd_same] | rw [upd_ne _ _ (by omega)]))
        rw [cx.r7]
        refine Calls.mono ((kk.tag g4).2 w rb sb st hh.rd hh.ne hh.hs) ?_
        rintro e w' ⟨m, tags, st', rfl, h⟩
        exact ⟨_, rfl, m, tags, st', rfl, h⟩
      rintro v w2 ⟨m', tags, st', rfl, k1, k2, k3, k4, k5⟩
      have F1 : Fr (· = rb) b o n w w2 := k2.rd hh.rbb hne
      have ht2 : w2.there b (o + q.2) 1 := there_in (F1.there _ _ hth) (by omega)
      refine RL.step (MR.nc (p := ⟨b, o, none⟩) (by (repeat (first | rw [upd_same] | rw [upd_ne _ _ (by omega)]))) (by omega)) (RL.step (MR.fa (upd_same _ _ _) g3 (by omega)) (RL.stA (cs := [m']) (b := b) (o := o + q.2) (upd_same _ _ _) (by (repeat (first | rw [upd_same] | rw [upd_ne _ _ (by omega)]))) kk.tg.sc ht2 (by simp [k1]) (RL.nil ?_) (by omega) (by omega)) (by omega)) (by omega)
      have F2 : Fr (· = rb) b o n w2 (w2.setCells b (o + q.2) [m']) := Fr.put _ (by omega) (by simp; omega)
      have F2' : Fr (· = rb) b (o + q.2) 1 w2 (w2.setCells b (o + q.2) [m']) := Fr.put _ (by omega) (by simp)
      have hh2 : FH P R rb sb h b o m ev st' w2 := hh.keep (o' := o) (n' := n) F1 k4
      have F1' : Fr (· = rb) b o 0 w w2 := k2.rd hh.rbb hne
      have hrng : (w2.setCells b (o + q.2) [m']).rangeAt b o (cs ++ [m']) := by
        intro j v hj
        by_cases h1 : j < cs.length
        · rw [List.getElem?_append_left h1] at hj
          rw [F2'.cell (o + j) (.inl (by omega)), F1'.cell (o + j) (.inr (by omega))]
          exact hr j v hj
        · rw [List.getElem?_append_right (by omega)] at hj
          have hj0 : j - cs.length = 0 := by
            have := (List.getElem?_eq_some_iff.1 hj).1
            simp at this; omega
          rw [hj0] at hj
          have := World.rangeAt_setCells_same w2 b (o + q.2) [m'] ht2 0 v hj
          rw [show o + j = o + q.2 + 0 from by omega]; exact this
      have hsz : w2.heap.size ≤ (w2.setCells b (o + q.2) [m']).heap.size := F2.size
      refine hQ _ _ tags st' [m'] (fun s hs => by (repeat (first | rw [upd_same] | rw [upd_ne _ _ (by omega)]))) (F1.trans F2) ?_ ?_ hrng (by simp only [List.length_cons, List.length_nil]; omega) ?_ ?_
      · rw [htg', e]
        exact k3.map (f := fun ts => (ds, ts))
      · exact k4.keep (setCells_other b _ _ _ rb (fun e => hh.rbb e.symm)) (setCells_other b _ _ _ sb hh.nb)
      · exact RepF.mono (fun k hk => (hh2.fb F2).1 k ((hh.fb F1).1 k hk)) (fun k hk => by rw [(hh2.fb F2).2 k ((hh.fb F1).1 k hk), (hh.fb F1).2 k hk]) _ hrep
      · rw [htg']
        refine ⟨m', by rw [← g1, ← hl, List.getElem?_append_right (Nat.le_refl _), Nat.sub_self]; rfl, ?_⟩
        refine RepT.mono k5.bound (fun k hk => ?_) (fun k hk => setCells_other b _ _ _ k ?_)
        · rcases hk with ⟨hk | hk, hk'⟩
          · exact .inl hk
          · exact .inr ⟨Nat.lt_of_lt_of_le hh.hw hk, Nat.lt_of_lt_of_le hk' hsz⟩
        · rcases hk with ⟨rfl | hk, _⟩
          · exact hh.nb
          · exact fun e => by omega

theorem wfRF_n : ∀ (fs : Flds) {T n k : Nat}, wfRF P R G sf fs T n k = true → k ≤ n
  | .nil, T, n, k, h => by simpa [wfRF] using h
  | .cons c idx off df ty rest, T, n, k, h => by
    simp only [wfRF, Bool.and_eq_true, Nat.ble_eq] at h
    obtain ⟨⟨⟨h1, _⟩, _⟩, h4⟩ := h
    have := wfRF_n rest h4
    omega

theorem ze_arr {ty ety ec : Nat} (h : arrB P R sf ty ety ec = true) : ∃ zs, zeroM P ety = some zs ∧ zs.length = ec := by
  simp only [arrB, Bool.and_eq_true] at h
  obtain ⟨⟨⟨⟨⟨⟨⟨⟨_, _⟩, _⟩, _⟩, f6⟩, _⟩, _⟩, _⟩, _⟩ := h
  cases hz : zeroM P ety with
  | none => simp [hz] at f6
  | some zs => simp only [hz, Nat.beq_eq] at f6; exact ⟨zs, rfl, f6⟩

/-- Cells that say the defaults, of a struct within a struct. -/
theorem zf_rep {w' : World} : ∀ (fs : Flds) {T m k : Nat} {us : List Value}, wfRF P R G sf fs T m k = true → m ≤ us.length → RepF w (fun _ => False) fs us (dflF fs) → ZF w' fs (us.take m)
  | .nil, _, _, _, _, _, _, _ => trivial
  | .cons c idx off df ty rest, T, m, k, us, hwf, hl, h => by
    simp only [wfRF, Bool.and_eq_true, Nat.ble_eq] at hwf
    obtain ⟨⟨⟨g1, g2⟩, g3⟩, g4⟩ := hwf
    have hn : off + ty.cells ≤ m := wfRF_n rest g4
    unfold RepF dflF at h
    obtain ⟨h1, d, ds', h2, h3, h4⟩ := h
    injection h2 with h5 h6
    subst h5 h6
    unfold ZF
    have hp : ((us.take m).drop off).take ty.cells = (us.drop off).take ty.cells := by rw [List.drop_take, List.take_take, Nat.min_eq_left (by omega)]
    refine ⟨by rw [List.length_take]; omega, ?_, ?_, zf_rep rest g4 hl h4⟩
    · rw [hp]; exact Rep.mono (fun _ h => h) (fun b hb => hb.elim) ty h3
    · rintro ⟨a, b, c', d', rfl⟩
      unfold Rep at h3
      have hc1 : (Ty.arr a b c' d').cells = 1 := rfl
      rw [hc1] at h3 hn
      obtain ⟨isnul, xs, _, ⟨e2, _⟩ | ⟨_, ab, arr, cap, _, e3, _⟩⟩ := h3
      · have e : ((us.drop off).take 1)[0]? = some (.slice none 0 0) := by rw [e2]; rfl
        rw [List.getElem?_take, if_pos (by omega), List.getElem?_drop] at e
        rw [List.getElem?_take, if_pos (by omega)]
        exact e
      · exact e3.elim

mutual
/-- One field. -/
theorem genRFld_ok (kk : RKOK P R G) (h16 : intTy P R.T.i16 .i16 = true) : ∀ (ty : Ty) {T vs idx off t x bk L b o n h : Nat} {ρ : Nat → Value} {w : World} {st : Option (List UInt8)} {Q : Exit → (Nat → Value) → World → Prop}, wfRFld P R G sf ty = true → fieldAtB P T idx off = true → FH P R rb sb h b o n ev st w → RCx sf flex ver rb vs b o ρ → 9 ≤ x → (∀ s, sf = some s → s < x) → vs < x → (genRFld R G sf ty T vs idx t x bk).2.2.1 ≤ L → L ≤ t → (genRFld R G sf ty T vs idx t x bk).2.1 ≤ N → off + ty.cells ≤ n →
    ((∃ a b c d, ty = .arr a b c d) → w.cell? ⟨b, o + off, none⟩ = some (.slice none 0 0)) →
    (∃ us df, w.rangeAt b (o + off) us ∧ us.length = ty.cells ∧ Rep w (fun _ => False) ty us (dfl ty df)) →
    (∀ ρ' w' d st' vs, (∀ s, s < x → ρ' s = ρ s) → Fr (· = rb) b (o + off) ty.cells w w' → Got (dec ver flex ty) st d st' → RdAt w' rb sb st' → w'.rangeAt b (o + off) vs → vs.length = ty.cells → Rep w' (FB sb h w') ty vs d → Q .normal ρ' w') →
    (∀ ρ' w', ρ' 6 = ev → Fr (· = rb) b (o + off) ty.cells w w' → (∀ d, Got (dec ver flex ty) st d none) → RdAt w' rb sb none → Q .ret ρ' w') → RW P N (genRFld R G sf ty T vs idx t x bk).1 Q ρ w
  | .prim k ty, T, vs, idx, off, t, x, bk, L, b, o, n, h, ρ, w, st, Q, hwf, hF, hh, cx, hx9, hs, hvx, hxL, hL, hN, hoff, h0, hz0, hQ, hE => by
    simp only [wfRFld, Bool.and_eq_true] at hwf
    unfold genRFld at hN hxL ⊢
    refine primU_ok kk hwf.1.1 hwf.2 hF hwf.1.2 hh cx hx9 hs hvx (by simp only at hxL; omega) hL hN hoff ?_
    intro ρ' w' d st' us h1 h2 h3 h4 h5 h6 h7
    exact hQ ρ' w' d st' us h1 h2 (by unfold dec; exact h3) h4 h5 h6 (by unfold Rep; exact h7)
  | .arr nul ty ety el, T, vs, idx, off, t, x, bk, L, b, o, n, h, ρ, w, st, Q, hwf, hF, hh, cx, hx9, hs, hvx, hxL, hL, hN, hoff, h0, hz0, hQ, hE => by
    simp only [wfRFld, Bool.and_eq_true] at hwf
    obtain ⟨hwa, hwe⟩ := hwf
    unfold genRFld at hN hxL ⊢
    obtain ⟨zs, hz, hzl⟩ := ze_arr hwa
    have hze := ze_of hz
    rw [hzl] at hze
    have hx5 := (elR_le (R := R) (G := G) (sf := sf) el (ty := ty) (ety := ety) (t := (lenR R sf x (t + 5)).2 + nulT nul + 15) (x := x) (bk := bk)).2
    have hxL' : (elR R G sf el ty ety ((lenR R sf x (t + 5)).2 + nulT nul + 15) x bk).2.2.1 ≤ L := by simpa only [arrR] using hxL
    have hsl : sliceOf P ty ety = true := by
      simp only [arrB, Bool.and_eq_true] at hwa
      exact hwa.1.1.1.1.1.1.2
    have hce : cellsB P ety el.cells = true := by
      simp only [arrB, Bool.and_eq_true] at hwa
      exact hwa.1.1.1.1.1.2
    refine arrR_ok (el := el) (zs := zs.map MVal.val) kk hwa hze hF hh cx hx9 hs hvx (by omega) hL (fun t => (elR_le el).1) hN hoff (h0 ⟨_, _, _, _, rfl⟩) ?_ ?_ hE
    · exact elR_ok kk h16 el hwe hsl hce hz hx9 hs (fun t => by rw [elR_x el ty ety t ((lenR R sf x (t + 5)).2 + nulT nul + 15) x bk]; rw [elR_x el ty ety ((lenR R sf x (t + 5)).2 + nulT nul + 15) ((lenR R sf x (_ + 5)).2 + nulT nul + 15) x bk]; exact hxL')
    · intro ρ' w' d st' v h1 h2 h3 h4 h5 h6
      exact hQ ρ' w' d st' [v] h1 h2 h3 h4 h5 rfl h6
  | .enum k ty cty, T, vs, idx, off, t, x, bk, L, b, o, n, h, ρ, w, st, Q, hwf, hF, hh, cx, hx9, hs, hvx, hxL, hL, hN, hoff, h0, hz0, hQ, hE => by
    simp only [wfRFld, Bool.and_eq_true] at hwf
    unfold genRFld at hN hxL ⊢
    have hk1 : k.cells = 1 := by
      have := hwf.1.1
      cases k <;> simp [enumK] at this <;> rfl
    have hcl : (Ty.enum k ty cty).cells = 1 := by simp only [Ty.cells, hk1]
    rw [hcl] at hoff hQ hE
    refine enumR_ok kk hwf.1.1 (ne0 hwf.1.2) hF hwf.2 hh cx hx9 hvx hs (by simp only at hxL; omega) hL hN hoff ?_
    intro ρ' w' d st' us h1 h2 h3 h4 h5 h6 h7
    exact hQ ρ' w' d st' us h1 h2 (by unfold dec; exact h3) h4 h5 h6 (by unfold Rep; exact h7)
  | .vstr lim ty base, T, vs, idx, off, t, x, bk, L, b, o, n, h, ρ, w, st, Q, hwf, hF, hh, cx, hx9, hs, hvx, hxL, hL, hN, hoff, h0, hz0, hQ, hE => by
    simp only [wfRFld, Bool.and_eq_true] at hwf
    unfold genRFld at hN hxL ⊢
    have hcl : (Ty.vstr lim ty base).cells = 1 := rfl
    rw [hcl] at hoff hQ hE
    refine vstrR_ok kk hwf.1.1.1.1 hwf.1.1.1.2 hF hwf.1.1.2 hwf.1.2 hwf.2 h16 hh cx hx9 hs hvx (by simp only at hxL; omega) hL hN hoff ?_
    intro ρ' w' d st' us h1 h2 h3 h4 h5 h6 h7
    exact hQ ρ' w' d st' us h1 h2 (by unfold dec; exact h3) h4 h5 h6 (by unfold Rep; exact h7)
  | .struct T' n' fDef tg fs, T, vs, idx, off, t, x, bk, L, b, o, n, h, ρ, w, st, Q, hwf, hF, hh, cx, hx9, hs, hvx, hxL, hL, hN, hoff, h0, hz0, hQ, hE => by
    simp only [wfRFld, Bool.and_eq_true] at hwf
    obtain ⟨hsub, hfs⟩ := hwf
    unfold subB at hsub
    simp only [Bool.and_eq_true, Nat.beq_eq, Nat.ble_eq] at hsub
    obtain ⟨⟨⟨⟨⟨s1, s2⟩, s3⟩, s4⟩, s5⟩, s6⟩ := hsub
    have hnil : dfsOf T' fs = .nil := by
      cases hd : dfsOf T' fs with
      | nil => rfl
      | cons a r => rw [hd] at s1; simp [Dfs.isNil] at s1
    have hdef : DefD P fDef n' (dfsOf T' fs) := defD_of (FnIs0.of s2) s3 s4
    obtain ⟨us, df, hrz, hlz, hrep⟩ := hz0
    have hcl : (Ty.struct T' n' fDef tg fs).cells = n' := rfl
    rw [hcl] at hoff hlz hQ hE
    unfold genRFld at hN hxL ⊢
    simp only at hN hxL ⊢
    have hgl := genRF_le (R := R) (G := G) (sf := sf) fs (T := T') (vs := x + 1) (t := t + 6) (x := x + 2) (bk := bk)
    have htl := tagsR_le (G := G) (sf := sf) (T := T') (vs := x + 1) (t := (genRF R G sf fs T' (x + 1) (t + 6) (x + 2) bk).2.1) (tg := tg)
    have hbw : b < w.heap.size := Nat.lt_of_le_of_lt hh.hb hh.hw
    have hth : w.there b (o + off) n' := there_in hh.th hoff
    unfold Rep dfl at hrep
    obtain ⟨ds0, tags0, e1, e2, e3, e4⟩ := hrep
    injection e1 with e5 e6
    subst e5 e6
    refine RWL.rows ?_
    unfold subH
    simp only [List.cons_append, List.nil_append]
    refine RW.rg (RL.step (MR.mv cx.rv (ltT (by omega))) (RL.step (MR.nc (p := ⟨b, o, none⟩) (upd_same _ _ _) (by omega)) (RL.step (MR.fa (upd_same _ _ _) hF (by omega)) (RL.step (MR.mv (v := .pointer (some ⟨b, o + off, none⟩)) (upd_same _ _ _) (ltT (by omega))) (RL.nil ?_) (by omega)) (by omega)) (by omega)) (by omega))
    -- Default
    refine RW.rg (RL.step (MR.mv (v := .pointer (some ⟨b, o + off, none⟩)) (upd_same _ _ _) (ltT (by omega))) (RL.ca (R := fun _ w' => w'.rangeAt b (o + off) us ∧ Fr (fun _ => False) b (o + off) n' w w') hdef.1 ?_ ?_ (by omega) (by simp [MX.lt, Nat.blt_eq]; omega)) (by omega))
    · simp only [List.map_cons, List.map_nil, xof]
      rw [upd_same]
      refine Calls.mono (hdef.2 w b (o + off) us hrz hth hlz) ?_
      rintro e w' ⟨rfl, g1, g2⟩
      refine ⟨_, rfl, ?_, g2⟩
      rw [hnil] at g1
      exact g1
    rintro v1 w2 ⟨hr2, F2⟩
    refine RL.nil ?_
    have F2' : Fr (· = rb) b (o + off) n' w w2 := F2.wide (fun _ h => h.elim) (Nat.le_refl _) (Nat.le_refl _)
    have hrd2 : RdAt w2 rb sb st := hh.rd.keep (F2.block rb hh.rd.lt (fun e => hh.rbb e.symm) (fun x => x)) (F2.block sb hh.hs hh.nb (fun x => x))
    have hh2 := hh.keep F2' hrd2
    refine RW.rg (RL.step (MR.mv (v := .pointer (some ⟨b, o + off, none⟩)) (by show upd _ _ _ x = _; (repeat (first | rw [upd_same] | rw [upd_ne _ _ (by omega)]))) (ltT (by omega))) (RL.step (MR.mv (upd_same _ _ _) (ltT (by omega))) (RL.nil ?_) (by omega)) (by omega))
    generalize hρ2 : upd (upd _ (t + 5) _) (x + 1) _ = ρ2
    have q2 : ∀ s, s < x → ρ2 s = ρ s := fun s hs => by rw [← hρ2]; (repeat (first | rw [upd_same] | rw [upd_ne _ _ (by omega)]))
    have cx2 : RCx sf flex ver rb (x + 1) b (o + off) ρ2 := ⟨by rw [q2 7 (by omega)]; exact cx.r7, by rw [q2 2 (by omega)]; exact cx.r2, by rw [q2 8 (by omega)]; exact cx.r8, fun s e => by rw [q2 s (hs s e)]; exact cx.rf s e, cx.nf, by rw [← hρ2]; (repeat (first | rw [upd_same] | rw [upd_ne _ _ (by omega)]))⟩
    have hs2 : ∀ s, sf = some s → s < x + 2 := fun s e => by have := hs s e; omega
    have hth2 : w2.there b (o + off) n' := F2.there _ _ hth
    have hhE : FH P R rb sb h b (o + off) (preN tg n') ev st w2 :=
      ⟨hh2.rd, hh2.ne, hh2.nb, hh2.rbb, hh2.hb, hh2.hr, hh2.hw, hh2.hs, there_in (k := 0) hth2 (by omega), hh2.ev, hh2.gb, hh2.gr⟩
    refine RWL.append ?_
    refine genRF_ok kk h16 fs (L := L) (k := 0) (b := b) (o := o + off) (h := h) (cs := us.take (preN tg n')) hfs hhE cx2 (by omega) hs2 (by omega) hxL (by omega) (by omega) ?_ (by rw [List.length_take]; omega) (zf_rep fs hfs (by omega) e3) ?_ ?_
    · intro j v hj
      rw [List.getElem?_take] at hj
      split at hj
      · exact hr2 j v hj
      · simp at hj
    · intro ρ3 w3 ds st3 cs3 k1 k2 k3 k4 k5 k6 k7 k8
      show RWL P N _ _ ρ3 w3
      have hh3 := hhE.keep k2 k4
      have W3 : Fr (· = rb) b (o + off) n' w2 w3 := k2.wide (fun _ h => h) (by omega) (by omega)
      have cx3 := cx2.keep k1 (by omega) hs2 (by omega)
      have hbw2 : b < w2.heap.size := Nat.lt_of_lt_of_le hbw F2.size
      refine (List.append_nil (tagsR G sf T' (x + 1) tg (genRF R G sf fs T' (x + 1) (t + 6) (x + 2) bk).2.1).1 ▸ (RWL.tags (x := x + 2) (L := L) (n := n') (m := preN tg n') (ds := ds) (cs := cs3) (rest := []) kk hh3 (Nat.lt_of_lt_of_le hbw2 W3.size) (W3.there _ _ hth2) cx3 (by omega) hs2 (by omega) (by omega) (by omega) (by omega) ?_ k5 k6 k8 ?_) : RWL P N _ _ ρ3 w3)
      · unfold preN
        cases htg : tg with
        | none => exact (rfl : n' = n')
        | some q =>
          rw [htg] at s6 e4
          simp only [Bool.and_eq_true, Nat.beq_eq] at s6
          obtain ⟨⟨q1, q2'⟩, q4⟩ := s6
          refine ⟨rfl, q1, q2', ne0 q4, ?_⟩
          have hpq : preN tg n' = q.2 := by unfold preN; rw [htg]
          obtain ⟨m, hm, hmr⟩ := e4
          have hm0 : m = .map none := by
            rcases hmr with ⟨e, _⟩ | ⟨r, es, clock, _, hf, _⟩
            · exact e
            · exact hf.elim
          subst hm0
          have hcell : w2.cell? ⟨b, o + off + q.2, none⟩ = some (.map none) := hr2 q.2 _ hm
          rw [k2.cell (o + off + q.2) (.inr (by omega))]
          exact hcell
      · intro ρ4 w4 tags st4 tl j1 j2 j3 j4 j5 j5' j6 j7
        show Q .normal ρ4 w4
        refine hQ ρ4 w4 (.r ds tags) st4 (cs3 ++ tl) (fun s hs => by rw [j1 s (by omega), k1 s (by omega), q2 s hs]) (F2'.trans (W3.trans j2)) ?_ j4 j5 (by rw [List.length_append]; exact j5') ?_
        · unfold dec
          refine k3.bind ?_
          cases hb : (tg.isSome && flex) with
          | true =>
            rw [hb] at j3
            simp only [if_true] at j3 ⊢
            have : (dTags.map fun ts => D.r ds ts) = (dTags.map (fun ts => (ds, ts))).map (fun p => D.r p.1 p.2) := by
              funext l; unfold Dec.map; cases dTags l <;> rfl
            rw [this]
            exact j3.map (f := fun p => D.r p.1 p.2)
          | false =>
            rw [hb] at j3
            simp only [Bool.false_eq_true, if_false] at j3 ⊢
            have : (Dec.pure (D.r ds [])) = (Dec.pure (ds, ([] : List (Nat × List UInt8)))).map (fun p => D.r p.1 p.2) := by
              funext l; rfl
            rw [this]
            exact j3.map (f := fun p => D.r p.1 p.2)
        · unfold Rep
          exact ⟨ds, tags, rfl, by rw [List.length_append]; exact j5', RepF.more j6, j7⟩
    · intro ρ3 w3 k1 k2 k3 k4
      refine hE ρ3 w3 k1 (F2'.trans (k2.wide (fun _ h => h) (by omega) (by omega))) (fun d => ?_) k4
      unfold dec
      exact Got.bind (k := fun ds => if (tg.isSome && flex) = true then dTags.map (fun ts => D.r ds ts) else Dec.pure (D.r ds [])) (k3 []) (by exact rfl)
/-- A list's element. -/
theorem elR_ok (kk : RKOK P R G) (h16 : intTy P R.T.i16 .i16 = true) : ∀ (el : Ty) {ty ety x bk L : Nat} {zs : List MVal}, wfEl P R G sf el ety = true → sliceOf P ty ety = true → cellsB P ety el.cells = true → zeroM P ety = some zs → 9 ≤ x → (∀ s, sf = some s → s < x) → (∀ t, (elR R G sf el ty ety t x bk).2.2.1 ≤ L) →
    ElC P R N rb sb ev sf flex ver el x L (zs.map MVal.val) (fun t => elR R G sf el ty ety t x bk)
  | .prim k kty, ty, ety, x, bk, L, zs, hwf, hsl, hce, hz, hx9, hs, hxL => by
    simp only [wfEl, Bool.and_eq_true] at hwf
    have hx := hxL 0
    unfold elR at hx ⊢
    exact elC_prim kk hwf.1.1 hsl hwf.1.2 hwf.2 hx9 hs (by simp only at hx; omega)
  | .struct T n' fDef tg fs, ty, ety, x, bk, L, zs, hwf, hsl, hce, hz, hx9, hs, hxL => by
    simp only [wfEl, Bool.and_eq_true] at hwf
    obtain ⟨hel, hfs⟩ := hwf
    unfold elB at hel
    rw [hz] at hel
    simp only [Bool.and_eq_true, Nat.beq_eq, Nat.ble_eq] at hel
    obtain ⟨⟨⟨⟨⟨⟨e1, e2⟩, e3⟩, e4⟩, e5⟩, e6⟩, e7⟩ := hel
    have hdef : DefD P fDef n' (dfsOf T fs) := defD_of (FnIs0.of e2) e3 e4
    have hpre : preN tg n' ≤ n' := by
      unfold preN
      cases htg : tg with
      | none => exact Nat.le_refl _
      | some q => rw [htg] at e7; simp only [Bool.and_eq_true, Nat.beq_eq] at e7; simp only; omega
    have hplen : (putM (dfsOf T fs) 0 zs).length = n' := by
      have := congrArg List.length (putM_val (dfsOf T fs) 0 zs)
      rw [putD_len, List.length_map, List.length_map] at this
      omega
    refine ⟨?_⟩
    intro t' ab l c i vs b o ρ ρ1 w1 st1 Q1 hL hN hh cx hvx q ra ri hi hrz hK hK2
    have hcl : (Ty.struct T n' fDef tg fs).cells = n' := rfl
    rw [hcl] at hh hrz hK hK2
    rw [hcl] at hce
    have hx0 := hxL t'
    unfold elR at hx0 hN ⊢
    simp only at hx0 hN ⊢
    have hgl := genRF_le (R := R) (G := G) (sf := sf) fs (T := T) (vs := x + 5) (t := t' + 6) (x := x + 6) (bk := bk + 2)
    have htl := tagsR_le (G := G) (sf := sf) (T := T) (vs := x + 5) (t := (genRF R G sf fs T (x + 5) (t' + 6) (x + 6) (bk + 2)).2.1) (tg := tg)
    have hmul : (i + 1) * n' ≤ l * n' := Nat.mul_le_mul_right _ hi
    have hmul' : (i + 1) * n' = i * n' + n' := Nat.succ_mul i n'
    have cx1 := cx.keep q hx9 hs hvx
    have hth1 : w1.there ab (i * n') n' := by
      have := there_in (k := i * n') (m := n') hh.th (by omega)
      rwa [Nat.zero_add] at this
    refine RWL.rows ?_
    unfold elemH
    simp only [List.cons_append, List.nil_append]
    refine RW.rg (RL.step (MR.mv ra (ltT (by omega))) (RL.step (MR.mv (v := .int .i32 (i : Nat)) (by show upd _ _ _ (x + 3) = _; (repeat (first | rw [upd_same] | rw [upd_ne _ _ (by omega)])); exact ri) (ltT (by omega)))
      (RL.step (MR.ia (k := .i32) (b := ab) (o := 0) (len := l) (cap := c) (j := i) (sz := n') hsl hce (by (repeat (first | rw [upd_same] | rw [upd_ne _ _ (by omega)]))) (by (repeat (first | rw [upd_same] | rw [upd_ne _ _ (by omega)]))) hi (by omega) (by omega)) (RL.step (MR.mv (v := .pointer (some ⟨ab, i * n', none⟩)) (by show upd _ _ _ (t' + 2) = _; rw [upd_same, Nat.zero_add]) (ltT (by omega))) (RL.nil ?_) (by omega)) (by omega)) (by omega)) (by omega))
    -- Default
    refine RW.rg (RL.step (MR.mv (v := .pointer (some ⟨ab, i * n', none⟩)) (upd_same _ _ _) (ltT (by omega))) (RL.ca (R := fun _ w' => w'.rangeAt ab (i * n') ((putM (dfsOf T fs) 0 zs).map MVal.val) ∧ Fr (fun _ => False) ab (i * n') n' w1 w') hdef.1 ?_ ?_ (by omega) (by simp [MX.lt, Nat.blt_eq]; omega)) (by omega))
    · simp only [List.map_cons, List.map_nil, xof]
      rw [upd_same]
      refine Calls.mono (hdef.2 w1 ab (i * n') _ hrz hth1 (by simp [e1])) ?_
      rintro e w' ⟨rfl, g1, g2⟩
      exact ⟨_, rfl, by rw [putM_val]; exact g1, g2⟩
    rintro v1 w2 ⟨hr2, F2⟩
    refine RL.nil ?_
    have F2' : Fr (· = rb) ab (i * n') n' w1 w2 := F2.wide (fun _ h => h.elim) (Nat.le_refl _) (Nat.le_refl _)
    have hrd2 : RdAt w2 rb sb st1 := hh.rd.keep (F2.block rb hh.rd.lt (fun e => hh.rbb e.symm) (fun x => x)) (F2.block sb hh.hs hh.nb (fun x => x))
    have hh2 := hh.keep F2' hrd2
    refine RW.rg (RL.step (MR.mv (v := .pointer (some ⟨ab, i * n', none⟩)) (by show upd _ _ _ (x + 4) = _; (repeat (first | rw [upd_same] | rw [upd_ne _ _ (by omega)]))) (ltT (by omega))) (RL.step (MR.mv (upd_same _ _ _) (ltT (by omega))) (RL.nil ?_) (by omega)) (by omega))
    generalize hρ2 : upd (upd _ (t' + 5) _) (x + 5) _ = ρ2
    have q2 : ∀ s, s < x + 4 → ρ2 s = ρ1 s := fun s hs => by rw [← hρ2]; (repeat (first | rw [upd_same] | rw [upd_ne _ _ (by omega)]))
    have cx2 : RCx sf flex ver rb (x + 5) ab (i * n') ρ2 := ⟨by rw [q2 7 (by omega)]; exact cx1.r7, by rw [q2 2 (by omega)]; exact cx1.r2, by rw [q2 8 (by omega)]; exact cx1.r8, fun s e => by rw [q2 s (by have := hs s e; omega)]; exact cx1.rf s e, cx1.nf, by rw [← hρ2]; (repeat (first | rw [upd_same] | rw [upd_ne _ _ (by omega)]))⟩
    have hs6 : ∀ s, sf = some s → s < x + 6 := fun s e => by have := hs s e; omega
    have hth2 : w2.there ab (i * n') n' := F2.there _ _ hth1
    have hhE : FH P R rb sb ab ab (i * n') (preN tg n') ev st1 w2 :=
      ⟨hh2.rd, hh2.ne, hh2.nb, hh2.rbb, hh2.hb, hh2.hr, hh2.hw, hh2.hs, there_in (k := 0) hth2 (by omega), hh2.ev, hh2.gb, hh2.gr⟩
    have hzf : ZF w2 fs (((putM (dfsOf T fs) 0 zs).map MVal.val).take (preN tg n')) := by
      have := zf_of (w := w2) e5
      rwa [List.map_take] at this
    refine RWL.append ?_
    refine genRF_ok kk h16 fs (L := L) (k := 0) (b := ab) (o := i * n') (h := ab) (cs := ((putM (dfsOf T fs) 0 zs).map MVal.val).take (preN tg n')) hfs hhE cx2 (by omega) hs6 (by omega) (by omega) (by omega) (by omega) ?_ (by rw [List.length_take, List.length_map]; omega) hzf ?_ ?_
    · intro j v hj
      rw [List.getElem?_take] at hj
      split at hj
      · exact hr2 j v hj
      · simp at hj
    · intro ρ3 w3 ds st3 cs3 k1 k2 k3 k4 k5 k6 k7 k8
      show RWL P N _ _ ρ3 w3
      have hh3 := hhE.keep k2 k4
      have W3 : Fr (· = rb) ab (i * n') n' w2 w3 := k2.wide (fun _ h => h) (by omega) (by omega)
      have cx3 := cx2.keep k1 (by omega) hs6 (by omega)
      refine (List.append_nil (tagsR G sf T (x + 5) tg (genRF R G sf fs T (x + 5) (t' + 6) (x + 6) (bk + 2)).2.1).1 ▸ (RWL.tags (x := x + 6) (L := L) (n := n') (m := preN tg n') (ds := ds) (cs := cs3) (rest := []) kk hh3 (Nat.lt_of_lt_of_le hh2.hw W3.size) (W3.there _ _ hth2) cx3 (by omega) hs6 (by omega) (by omega) (by omega) (by omega) ?_ k5 k6 k8 ?_) : RWL P N _ _ ρ3 w3)
      · unfold preN
        cases htg : tg with
        | none => exact (rfl : n' = n')
        | some q =>
          rw [htg] at e7
          simp only [Bool.and_eq_true, Nat.beq_eq] at e7
          obtain ⟨⟨⟨q1, q2'⟩, q3⟩, q4⟩ := e7
          refine ⟨rfl, q1, q2', ne0 q4, ?_⟩
          have hpq : preN tg n' = q.2 := by unfold preN; rw [htg]
          have hcell : w2.cell? ⟨ab, i * n' + q.2, none⟩ = some (.map none) := by
            refine hr2 q.2 _ ?_
            simp only [defTag] at q3
            rw [List.getElem?_map]
            split at q3
            · rename_i heq; rw [heq]; rfl
            · simp at q3
          rw [k2.cell (i * n' + q.2) (.inr (by omega))]
          exact hcell
      · intro ρ4 w4 tags st4 tl j1 j2 j3 j4 j5 j5' j6 j7
        show Q1 .normal ρ4 w4
        refine hK ρ4 w4 (.r ds tags) st4 (cs3 ++ tl) (fun s hs => by rw [j1 s (by omega), k1 s (by omega), q2 s hs]) (F2'.trans (W3.trans j2)) ?_ j4 j5 (by rw [List.length_append]; exact j5') ?_
        · unfold dec
          refine k3.bind ?_
          cases hb : (tg.isSome && flex) with
          | true =>
            rw [hb] at j3
            simp only [if_true] at j3 ⊢
            have : (dTags.map fun ts => D.r ds ts) = (dTags.map (fun ts => (ds, ts))).map (fun p => D.r p.1 p.2) := by
              funext l; unfold Dec.map; cases dTags l <;> rfl
            rw [this]
            exact j3.map (f := fun p => D.r p.1 p.2)
          | false =>
            rw [hb] at j3
            simp only [Bool.false_eq_true, if_false] at j3 ⊢
            have : (Dec.pure (D.r ds [])) = (Dec.pure (ds, ([] : List (Nat × List UInt8)))).map (fun p => D.r p.1 p.2) := by
              funext l; rfl
            rw [this]
            exact j3.map (f := fun p => D.r p.1 p.2)
        · unfold Rep
          exact ⟨ds, tags, rfl, by rw [List.length_append]; exact j5', RepF.more j6, j7⟩
    · intro ρ3 w3 k1 k2 k3 k4
      refine hK2 ρ3 w3 k1 (F2'.trans (k2.wide (fun _ h => h) (by omega) (by omega))) (fun d => ?_) k4
      unfold dec
      exact Got.bind (k := fun ds => if (tg.isSome && flex) = true then dTags.map (fun ts => D.r ds ts) else Dec.pure (D.r ds [])) (k3 []) (by exact rfl)
  | .arr _ _ _ _, ty, ety, x, bk, L, zs, hwf, hsl, hce, hz, hx9, hs, hxL => by simp [wfEl] at hwf
  | .enum _ _ _, ty, ety, x, bk, L, zs, hwf, hsl, hce, hz, hx9, hs, hxL => by simp [wfEl] at hwf
  | .vstr _ _ _, ty, ety, x, bk, L, zs, hwf, hsl, hce, hz, hx9, hs, hxL => by simp [wfEl] at hwf
theorem genRF_ok (kk : RKOK P R G) (h16 : intTy P R.T.i16 .i16 = true) : ∀ (fs : Flds) {T vs t x bk L k b o n h : Nat} {ρ : Nat → Value} {w : World} {st : Option (List UInt8)} {cs : List Value} {Q : Exit → (Nat → Value) → World → Prop}, wfRF P R G sf fs T n k = true → FH P R rb sb h b o n ev st w → RCx sf flex ver rb vs b o ρ → 9 ≤ x → (∀ s, sf = some s → s < x) → vs < x → (genRF R G sf fs T vs t x bk).2.2.1 ≤ L → L ≤ t → (genRF R G sf fs T vs t x bk).2.1 ≤ N →
    w.rangeAt b o cs → cs.length = n → ZF w fs cs →
    (∀ ρ' w' ds st' cs', (∀ s, s < x → ρ' s = ρ s) → Fr (· = rb) b (o + k) (n - k) w w' → Got (decF ver flex fs) st ds st' → RdAt w' rb sb st' → w'.rangeAt b o cs' → cs'.length = n → cs'.take k = cs.take k → RepF w' (FB sb h w') fs cs' ds → Q .normal ρ' w') →
    (∀ ρ' w', ρ' 6 = ev → Fr (· = rb) b (o + k) (n - k) w w' → (∀ d, Got (decF ver flex fs) st d none) → RdAt w' rb sb none → Q .ret ρ' w') → RWL P N (genRF R G sf fs T vs t x bk).1 Q ρ w
  | .nil, T, vs, t, x, bk, L, k, b, o, n, h, ρ, w, st, cs, Q, hwf, hh, cx, hx9, hs, hvx, hxL, hL, hN, hr, hl, hz, hQ, hE => by
    unfold genRF
    exact hQ ρ w [] st cs (fun _ _ => rfl) (Fr.refl _ _ _ _ _) (by unfold decF; exact Got.pure _) hh.rd hr hl rfl (by unfold RepF; rfl)
  | .cons c idx off df ty rest, T, vs, t, x, bk, L, k, b, o, n, h, ρ, w, st, cs, Q, hwf, hh, cx, hx9, hs, hvx, hxL, hL, hN, hr, hl, hz, hQ, hE => by
    simp only [wfRF, Bool.and_eq_true, Nat.ble_eq] at hwf
    obtain ⟨⟨⟨g1, g2⟩, g3⟩, g4⟩ := hwf
    have hn : off + ty.cells ≤ n := wfRF_n rest g4
    unfold ZF at hz
    obtain ⟨z1, z2, z3, z4⟩ := hz
    simp only [genRF] at hxL hN ⊢
    have le1 := @condR_le R c t x (fun t => genRFld R G sf ty T vs idx t x bk) (fun t => genRFld_le ty)
    have le2 := genRF_le (R := R) (G := G) (sf := sf) rest (T := T) (vs := vs) (t := (condR R c t fun t => genRFld R G sf ty T vs idx t x bk).2.1) (x := (condR R c t fun t => genRFld R G sf ty T vs idx t x bk).2.2.1) (bk := (condR R c t fun t => genRFld R G sf ty T vs idx t x bk).2.2.2)
    have xeq : ∀ t', (genRFld R G sf ty T vs idx t' x bk).2.2.1 = (condR R c t fun t => genRFld R G sf ty T vs idx t x bk).2.2.1 := fun t' => by rw [condR_x (t2 := t') (fun a b => genRFld_x ty T vs idx a b x bk)]
    -- behind the field
    have next : ∀ (ρ1 : Nat → Value) (w1 : World) (d : D) (st1 : Option (List UInt8)) (cs1 : List Value), (∀ s, s < x → ρ1 s = ρ s) → Fr (· = rb) b (o + off) ty.cells w w1 → Got (if c.ok ver then dec ver flex ty else Dec.pure (dfl ty df)) st d st1 → RdAt w1 rb sb st1 → w1.rangeAt b o cs1 → cs1.length = n → cs1.take off = cs.take off → cs1.drop (off + ty.cells) = cs.drop (off + ty.cells) → Rep w1 (FB sb h w1) ty ((cs1.drop off).take ty.cells) d →
        RWL P N (genRF R G sf rest T vs (condR R c t fun t => genRFld R G sf ty T vs idx t x bk).2.1 (condR R c t fun t => genRFld R G sf ty T vs idx t x bk).2.2.1 (condR R c t fun t => genRFld R G sf ty T vs idx t x bk).2.2.2).1 Q ρ1 w1 := by
      intro ρ1 w1 d st1 cs1 e1 e2 e3 e4 e5 e6 e7 e8 e9
      have hh1 := hh.keep e2 e4
      have W : Fr (· = rb) b (o + k) (n - k) w w1 := e2.wide (fun _ h => h) (by omega) (by omega)
      have M : ∀ w2, Fr (· = rb) b (o + (off + ty.cells)) (n - (off + ty.cells)) w1 w2 → Fr (· = rb) b (o + k) (n - k) w w2 := fun w2 hf => W.trans (hf.wide (fun _ h => h) (by omega) (by omega))
      have cx1 : RCx sf flex ver rb vs b o ρ1 := cx.keep e1 hx9 hs hvx
      refine genRF_ok kk h16 rest (L := L) (k := off + ty.cells) (cs := cs1) g4 hh1 cx1 (by omega) (fun s e => by have := hs s e; omega) (by omega) hxL (by omega) hN e5 e6 (ZF.keep e8 (by rw [e6, hl]) rest g4 z4) ?_ ?_
      · intro ρ2 w2 ds st2 cs2 k1 k2 k3 k4 k5 k6 k7 k8
        refine hQ ρ2 w2 (d :: ds) st2 cs2 (fun s hs => by rw [k1 s (by omega), e1 s hs]) (M w2 k2) ?_ k4 k5 k6 ?_ ?_
        · unfold decF
          exact e3.bind (k3.map (f := fun ds => d :: ds))
        · have a1 : cs2.take k = (cs2.take (off + ty.cells)).take k := by rw [List.take_take, Nat.min_eq_left (by omega)]
          have a2 : cs1.take k = (cs1.take (off + ty.cells)).take k := by rw [List.take_take, Nat.min_eq_left (by omega)]
          have a3 : cs1.take k = (cs1.take off).take k := by rw [List.take_take, Nat.min_eq_left (by omega)]
          have a4 : cs.take k = (cs.take off).take k := by rw [List.take_take, Nat.min_eq_left (by omega)]
          rw [a1, k7, ← a2, a3, e7, ← a4]
        · unfold RepF
          refine ⟨by omega, d, ds, rfl, ?_, k8⟩
          rw [part_of_take k7 (Nat.le_refl _)]
          exact hh1.rep k2 e9
      · intro ρ2 w2 k1 k2 k3 k4
        refine hE ρ2 w2 k1 (M w2 k2) (fun ds => ?_) k4
        unfold decF
        refine e3.bind (Got.bind (k := fun ds => Dec.pure (d :: ds)) (k3 []) ?_)
        exact rfl
    show RW P N _ _ ρ w
    refine condR_ok (L := L) h16 cx.r8 (by omega) hL (fun t => (genRFld_le ty).1) (by omega) (fun hc ρ1 t1 a1 a2 a3 => ?_) (fun hc ρ1 a1 => ?_)
    · refine genRFld_ok kk h16 (L := L) ty g3 g2 hh (cx.keep (fun s hs => a1 s (by omega)) hx9 hs hvx) hx9 hs hvx (by rw [xeq]; omega) a2 a3 hn (fun e => hr off _ (z3 e)) ⟨_, df, range_part (k := off) (m := ty.cells) hr, by rw [List.length_take, List.length_drop]; omega, z2⟩ ?_ ?_
      · intro ρ2 w2 d st2 vs k1 k2 k3 k4 k5 k6 k7
        have hk : off + vs.length ≤ cs.length := by omega
        refine next ρ2 w2 d st2 (splice off vs cs) (fun s hs => by rw [k1 s hs, a1 s (by omega)]) k2 (by rw [if_pos hc]; exact k3) k4 (range_splice hr (by rw [k6]; exact k2) k5 hk) (by rw [splice_len hk, hl]) (splice_take hk) (by rw [← k6]; exact splice_drop hk) ?_
        have := splice_mid hk
        rw [k6] at this
        rw [this]; exact k7
      · intro ρ2 w2 k1 k2 k3 k4
        refine hE ρ2 w2 k1 (k2.wide (fun _ h => h) (by omega) (by omega)) (fun ds => ?_) k4
        unfold decF
        rw [if_pos hc]
        exact Got.bind (k := fun d => (decF ver flex rest).map (fun ds => d :: ds)) (k3 (.n 0)) (by exact rfl)
    · refine next ρ1 w (dfl ty df) st cs (fun s hs => a1 s (by omega)) (Fr.refl _ _ _ _ _) (by rw [hc]; exact Got.pure _) hh.rd hr hl rfl rfl ?_
      exact Rep.mono (fun _ h => h.elim) (fun _ h => h.elim) ty z2
end
end
end Go.Kx
namespace Go.Kx
open Go.RowKit
set_option linter.unusedSimpArgs false
set_option linter.unusedVariables false

def Plan.sfR (p : Plan) : Option Nat := p.fl.map fun _ => 9
def Plan.vsR (p : Plan) : Nat := match p.fl with | none => 9 | some _ => 10

def flexR (R : RN) (p : Plan) (t : Nat) : List MCode × Nat :=
  match p.fl with
  | none => ([], t)
  | some k => ([.rg [.mv t (.t 8), .bi (t + 1) .geq R.T.i16 (.t t) (.c (.int .i16 k)), .mv 9 (.t (t + 1))], .rg [.mv (t + 2) (.t 9)]], t + 3)

def cRF (R : RN) (G : TG) (p : Plan) (fDef L : Nat) : MCode × Nat :=
  let h := flexR R p (L + 9)
  let f := genRF R G p.sfR p.fs p.T p.vsR (h.2 + 1) (p.vsR + 1) 0
  let g := tagsR G p.sfR p.T p.vsR p.tg f.2.1
  (rows ([.rg [.mv 6 (.c .niface)], .rg [.mv L (.t 0), .ca (L + 1) fDef [.t L]], .rg [.mv (L + 2) (.t 1), .bdl (L + 3) R.tR [(0, .t (L + 2))], .al 7 R.tR, .st R.tR 7 (L + 3)],
    (loadA p.T 0 0 R.T.i16 8 (L + 4)).1, .rg [.mv (L + 8) (.t 8)]] ++ (h.1 ++ ([.rg [.mv h.2 (.t 0), .mv p.vsR (.t h.2)]] ++ (f.1 ++ (g.1 ++ [.rg [.ca g.2 R.compl [.t 7], .mv 6 (.t g.2)], .rt]))))), g.2 + 1)

/-- How many cells lie before the tags; how many there are. -/
def Plan.pre (p : Plan) (n : Nat) : Nat := match p.tg with | none => n | some q => q.2

mutual
def ge1 : Df → Nat → Bool
  | .st _ _ off _ _, o => Nat.ble 1 (o + off)
  | .sub _ _ off l, o => geD l (o + off)
def geD : Dfs → Nat → Bool
  | .nil, _ => true
  | .cons d r, o => ge1 d o && geD r o
end
mutual
theorem put1_first {a b : Value} {cs : List Value} : ∀ (d : Df) (o : Nat), ge1 d o = true → ∃ cs', put1 d o (a :: cs) = a :: cs' ∧ put1 d o (b :: cs) = b :: cs'
  | .st _ _ off _ v, o, h => by
    simp only [ge1, Nat.ble_eq] at h
    obtain ⟨k, hk⟩ : ∃ k, o + off = k + 1 := ⟨o + off - 1, by omega⟩
    unfold put1
    rw [hk]
    exact ⟨_, rfl, rfl⟩
  | .sub _ _ off l, o, h => by
    unfold ge1 at h
    unfold put1
    exact putD_first l _ h
theorem putD_first {a b : Value} {cs : List Value} : ∀ (l : Dfs) (o : Nat), geD l o = true → ∃ cs', putD l o (a :: cs) = a :: cs' ∧ putD l o (b :: cs) = b :: cs'
  | .nil, o, h => by unfold putD; exact ⟨cs, rfl, rfl⟩
  | .cons d r, o, h => by
    simp only [geD, Bool.and_eq_true] at h
    obtain ⟨c1, e1, e2⟩ := put1_first (a := a) (b := b) (cs := cs) d o h.1
    unfold putD
    rw [e1, e2]
    exact putD_first r o h.2
end

def eqMs : List MVal → List MVal → Bool
  | [], [] => true
  | a :: as, b :: bs => a.is b.val && eqMs as bs
  | _, _ => false
theorem eqMs_eq : ∀ {a b : List MVal}, eqMs a b = true → a.map MVal.val = b.map MVal.val
  | [], [], _ => rfl
  | [], _ :: _, h => by simp [eqMs] at h
  | _ :: _, [], h => by simp [eqMs] at h
  | a :: as, b :: bs, h => by
    simp only [eqMs, Bool.and_eq_true] at h
    simp only [List.map_cons]
    rw [eqMs_eq h.2, MVal.is_eq h.1]

/-- readFrom's tests; rest: a new message's cells behind the version. -/
def rfB (P : Program) (R : RN) (G : TG) (p : Plan) (fDef : Nat) (df : Dfs) (rest : List MVal) (L N : Nat) : List Bool :=
  [wfRF P R G p.sfR p.fs p.T (p.pre (rest.length + 1)) 1, fieldAtB P p.T 0 0, Nat.ble (genRF R G p.sfR p.fs p.T p.vsR ((flexR R p (L + 9)).2 + 1) (p.vsR + 1) 0).2.2.1 L, Nat.ble (cRF R G p fDef L).2 N, intTy P R.T.i16 .i16, plainTy P R.T.i16,
   zfB p.fs ((.int .i16 0 :: rest).take (p.pre (rest.length + 1))), geD df 0, eqMs (putM df 0 (.int .i16 0 :: rest)) (.int .i16 0 :: rest),
   isFn0 P fDef (rows (genD 0 df (defT0 df) 2).1) (genD 0 df (defT0 df) 2).2.1, okD P (rest.length + 1) df 0, Nat.ble (genD 0 df (defT0 df) 2).2.2 (defT0 df),
   zeroIs P R.tR [.nslice, .bool false], plcB P R.tR 2, cellsB P R.tR 2,
   (match p.tg with | none => true | some q => Nat.beq (rest.length + 1) (q.2 + 1) && fieldAtB P p.T q.1 q.2 && defTag p.tg (.int .i16 0 :: rest) && !(Nat.beq G.fRead 0) && Nat.ble 1 q.2)]

section
variable {P : Program} {N : Nat} {Q : Exit → (Nat → Value) → World → Prop} {ρ : Nat → Value} {w w' : World} {ms : List MOp} {R : RN} {G : TG} {rb sb h b o n : Nat} {ev : Value} {st st' : Option (List UInt8)} {sf : Option Nat} {flex : Bool} {ver : Int}

/-- What readFrom does: the message at block b says what the octets say; or the reader's error. -/
def RFC (P : Program) (f : Nat) (p : Plan) (gE : Nat) (rest : List MVal) : Prop := entersB P f = true ∧ ∀ (w : World) (b sb : Nat) (ad : Option Addr) (l : List UInt8) (c : Nat) (ver : Int) (ev : Value), w.rangeAt b 0 (.int .i16 ver :: rest.map MVal.val) → w.there b 0 (rest.length + 1) → BytesAt w (· = sb) ad l → okAd ad → l.length ≤ c → sb < w.heap.size → sb ≠ b → w.cell? ⟨gE, 0, none⟩ = some ev → gE ≠ b →
  Calls P f #[.pointer (some ⟨b, 0, none⟩), .slice ad l.length c, .bool false] w (fun e w' => Fr (fun _ => False) b 0 (rest.length + 1) w w' ∧
    ((∃ ds tags r cs, decTop p ver l = some ((ds, tags), r) ∧ e = .returned MVal.niface.val ∧ MsgAt w' (fun k => k = b ∨ k = sb ∨ (w.heap.size ≤ k ∧ k < w'.heap.size)) p ⟨b, 0, none⟩ ver ds tags cs) ∨ (decTop p ver l = none ∧ e = .returned ev)))

theorem Got.top {p : Plan} {ver : Int} {ds : List D} {tags : List Tg} {st1 st2 : Option (List UInt8)} (h1 : Got (decF ver (p.flex ver) p.fs) st ds st1) (h2 : Got (if p.tg.isSome && p.flex ver then dTags.map (fun ts => (ds, ts)) else Dec.pure (ds, [])) st1 (ds, tags) st2) : Got (decTop p ver) st (ds, tags) st2 := by
  unfold decTop
  exact h1.bind h2

end
end Go.Kx
