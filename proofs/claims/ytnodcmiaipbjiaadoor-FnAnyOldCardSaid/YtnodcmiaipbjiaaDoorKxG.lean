/- The small machine is right: whatever it reckons, the program does. Conditions: the program's tables (TKK), its functions' codes (feB), mixed orders allowed.
   readFrom of old messages: the reader's contracts that it needs, its fields one by one. Conditions: the program's tables and functions (mnB).
   Old messages: what kmsg reads and what the reference reads. No program.
   readFrom and ReadFrom of old messages, whole. Conditions: the reader's contracts (MOK), the program's tables.
   TellV0, TellV1: octets are copied, read as an old message, put into the struct. Conditions: the contracts of own, octets, ReadFrom; the program's tables.
   TellV0, TellV1, whole. Conditions: the contracts of own, octets, ReadFrom; the program's tables (TLK).
   OldBytes, SameOld: an old message's octets. Conditions: the contracts of Fixed, Same; the program's tables. -/
import Derived.Test.YtnodcmiaipbjiaaDoorKxF
namespace Go.Kx
open Go.RowKit
set_option linter.unusedSimpArgs false
set_option linter.unusedVariables false
section
variable {P : Program} {K : TK} {N B n : Nat} {μ : Nat → Nat × Nat} {ρ : Nat → Value} {w w' : World} {s : St} {d : Nat} {ms : List MOp} {Q : Exit → (Nat → Value) → World → Prop} {fs : List FE} {ro : Nat → Bool}
theorem RW.lpG {x : MCode} (I : Nat → (Nat → Value) → World → Prop) (n₀ : Nat) (h₀ : I n₀ ρ w)
    (round : ∀ n ρ w, I n ρ w → RW P N x (thenR (fun ρ' w' => ∃ n', n' < n ∧ I n' ρ' w') Q) ρ w) : RW P N (.lp x) Q ρ w := by
  intro a ha c hc
  cases c <;> simp only [fits, Bool.false_eq_true] at hc
  refine wp_loop_ghost (fun n a w => ∃ ρ, Loc N N ρ a ∧ I n ρ w) n₀ ⟨ρ, ha, h₀⟩ ?_
  rintro n a w ⟨ρ, hl, hi⟩
  refine wp_mono (round n ρ w hi a hl _ hc) fun e a' w' hu => ?_
  cases e <;> simp only [up, thenR, Exit.then] at hu ⊢
  all_goals try exact hu
  obtain ⟨ρ', h1, n', h2, h3⟩ := hu
  exact ⟨n', h2, ρ', h1, h3⟩
theorem evQX_cases {kp : Nat → Bool} {m : MOp} {s' : St} (h : evQX K kp ro s m = some s') : (∃ d v, evQ K kp s m = some (d, v) ∧ s' = s.put d v) ∨ (∃ d v mem, evX K ro s m = some (d, v, mem) ∧ s' = ⟨setD s.sl d v, mem⟩) := by
  unfold evQX at h
  split at h
  · rename_i r hr
    simp only [Option.some.injEq] at h
    exact .inl ⟨r.1, r.2, hr, h.symm⟩
  · simp only [Option.map_eq_some_iff] at h
    obtain ⟨⟨d, v, mem⟩, h1, h2⟩ := h
    exact .inr ⟨d, v, mem, h1, h2.symm⟩
theorem zOne_rg (ok : TKK P K) (hF : ∀ e ∈ fs, feB P e = true) {rec : Rec} (hrec : RecOk P K rec) {m : MOp} {s' : St} (h : zOne K fs rec N (fun _ => true) ro s m = some s') (hs : RelS s.mem.length μ s.sl ρ) (hm : RelM K.u8 B μ s.mem w)
    (hQ : ∀ ρ' w' μ', RelS s'.mem.length μ' s'.sl ρ' → Left_ K B ro μ μ' s.mem s'.mem w w' → RL P N ms Q ρ' w') : RL P N (m :: ms) Q ρ w := by
  unfold zOne at h
  split at h <;> try (cases h; done)
  rename_i hN
  split at h
  · rename_i d f xs
    simp only [Option.map_eq_some_iff] at h
    obtain ⟨⟨v, mem⟩, h1, rfl⟩ := h
    simp only [MOp.inN, Bool.and_eq_true, Nat.blt_eq] at hN
    obtain ⟨g1, g2⟩ := callF_ok ok hF hrec h1 (by simp) (args_rel hs) hm
    refine RL.ca (R := fun u w' => ∃ μ', RelA mem.length μ' v u ∧ Left_ K B ro μ μ' s.mem mem w w') g1 (Calls.mono g2 ?_) ?_ hN.1 (fun x hx => List.all_eq_true.1 hN.2 x hx)
    · rintro e w' ⟨u, μ', rfl, k1, k2⟩
      exact ⟨u, rfl, μ', k1, k2⟩
    · rintro u w' ⟨μ', k1, k2⟩
      exact hQ _ w' μ' ((hs.ext k2.e k2.l).put k1) k2
  · rename_i ty p x
    simp only [Option.map_eq_some_iff] at h
    obtain ⟨mem, h1, rfl⟩ := h
    simp only [MOp.inN, Bool.and_eq_true, Nat.blt_eq] at hN
    obtain ⟨b, o, g1, g2, g3, g4, g5⟩ := evS_ok ok h1 hs hm (hs.slot x)
    exact RL.st g1 g2 g3 g4 (hQ ρ _ μ (hs.ext g5.e g5.l) g5) hN.1 hN.2
  · rename_i ty p c
    simp only [Option.map_eq_some_iff] at h
    obtain ⟨mem, h1, rfl⟩ := h
    simp only [MOp.inN, Nat.blt_eq] at hN
    obtain ⟨b, o, g1, g2, g3, g4, g5⟩ := evS_ok (v := c.val) ok h1 hs hm rfl
    rw [MVal.cells1] at g2 g3 g5
    exact RL.stc g1 g2 g3 (hQ ρ _ μ (hs.ext g5.e g5.l) g5) hN
  · rcases evQX_cases h with ⟨d, v, h1, rfl⟩ | ⟨d, v, mem, h1, rfl⟩
    · obtain ⟨hd, u, g1, g2⟩ := evQ_ok ok h1 hs hm hN
      exact RL.step (g2 w (fun _ _ _ _ => rfl)) (hQ _ w μ (hs.put g1) (Left_.refl hm)) hd
    · obtain ⟨hd, u, w', μ', g1, g2, g3⟩ := evX_ok ok h1 hs hm hN
      exact RL.step g1 (hQ _ w' μ' ((hs.ext g3.e g3.l).put g2) g3) hd
theorem evL_ok (ok : TKK P K) (hF : ∀ e ∈ fs, feB P e = true) {rec : Rec} (hrec : RecOk P K rec) : ∀ {ms : List MOp} {s sf : St} {μ : Nat → Nat × Nat} {ρ : Nat → Value} {w : World}, evL K fs rec N ro ms s = some sf → RelS s.mem.length μ s.sl ρ → RelM K.u8 B μ s.mem w →
    (∀ ρ' w' μ', RelS sf.mem.length μ' sf.sl ρ' → Left_ K B ro μ μ' s.mem sf.mem w w' → Q .normal ρ' w') → RL P N ms Q ρ w
  | [], s, sf, μ, ρ, w, h, hs, hm, hQ => by
    simp only [evL, Option.some.injEq] at h
    subst h
    exact RL.nil (hQ ρ w μ hs (Left_.refl hm))
  | m :: ms, s, sf, μ, ρ, w, h, hs, hm, hQ => by
    simp only [evL, Option.bind_eq_some_iff] at h
    obtain ⟨s1, h1, h2⟩ := h
    refine zOne_rg ok hF hrec h1 hs hm fun ρ' w' μ' g1 g2 => ?_
    exact evL_ok ok hF hrec h2 g1 g2.m fun ρ'' w'' μ'' k1 k2 => hQ ρ'' w'' μ'' k1 (g2.trans k2)
theorem gOn_pass {g : Option (Nat × Nat × Bool)} {b : Bool} (h : gOn N s g = some b) (hs : RelS n μ s.sl ρ) : passes N ρ b g := by
  unfold gOn at h
  split at h
  · simp only [Option.some.injEq] at h; subst h; rfl
  · rename_i i t c
    split at h <;> try (cases h; done)
    rename_i ht
    rw [Nat.blt_eq] at ht
    have hr := hs.slot t
    split at h <;> try (cases h; done)
    rename_i b' e
    rw [e] at hr
    simp only [Option.some.injEq] at h
    have e2 : ρ t = .bool b' := hr
    refine ⟨ht, .inl ?_⟩
    rw [e2, ← h]
    cases b' <;> cases c <;> rfl
theorem evX_quiet {m : MOp} {r : Nat × AV × List (Option Blk)} (h : evX K ro s m = some r) : m.quiet = false := by
  cases m <;> simp only [evX, reduceCtorEq] at h <;> rfl
theorem evG_ok (ok : TKK P K) (hF : ∀ e ∈ fs, feB P e = true) {rec : Rec} (hrec : RecOk P K rec) {kp : Nat → Bool} {μ0 : Nat → Nat × Nat} {mem0 : List (Option Blk)} {w0 : World} (hkp : ∀ b, kp b = true → ∃ k, mem0[b]? = some (some k)) :
    ∀ {gs : List GOp} {s sf : St} {μ : Nat → Nat × Nat} {ρ : Nat → Value} {w : World}, evG K fs rec N kp ro gs s = some sf → RelS s.mem.length μ s.sl ρ → RelM K.u8 B μ s.mem w → ExtM mem0.length μ0 μ → mem0.length ≤ s.mem.length → (∀ b k, kp b = true → mem0[b]? = some (some k) → s.mem[b]? = some (some k)) → SameAt kp μ0 mem0 w0 w →
    (∀ ρ' w' μ', RelS sf.mem.length μ' sf.sl ρ' → Left_ K B ro μ μ' s.mem sf.mem w w' → Q .normal ρ' w') → RG P N gs Q (SameAt kp μ0 mem0 w0) ρ w
  | [], s, sf, μ, ρ, w, h, hs, hm, hE, hl0, hrm, hS, hQ => by
    simp only [evG, Option.some.injEq] at h
    subst h
    exact RG.nil fun _ => hQ ρ w μ hs (Left_.refl hm)
  | ⟨i, g, m⟩ :: gs, s, sf, μ, ρ, w, h, hs, hm, hE, hl0, hrm, hS, hQ => by
    have next : ∀ {s1 : St} {ρ' : Nat → Value} {w' : World} {μ' : Nat → Nat × Nat}, evG K fs rec N kp ro gs s1 = some sf → RelS s1.mem.length μ' s1.sl ρ' → Left_ K B (fun b => ro b || kp b) μ μ' s.mem s1.mem w w' → RG P N gs Q (SameAt kp μ0 mem0 w0) ρ' w' := by
      intro s1 ρ' w' μ' h2 g1 g2
      have g3 := g2.mono (ro' := ro) (fun b hb => by simp [hb])
      have g4 := g2.mono (ro' := kp) (fun b hb => by simp [hb])
      have sa : SameAt kp μ s.mem w w' := g4.sa
      refine evG_ok ok hF hrec hkp h2 g1 g2.m (hE.trans g2.e hl0) (Nat.le_trans hl0 g2.l) (fun b k hb hk => g4.rm b k hb (hrm b k hb hk)) (hS.trans hrm hE g4.sa) fun ρ'' w'' μ'' k1 k2 => hQ ρ'' w'' μ'' k1 (g3.trans k2)
    have keepS : ∀ {s1 : St} {w' : World} {μ' : Nat → Nat × Nat}, Left_ K B (fun b => ro b || kp b) μ μ' s.mem s1.mem w w' → SameAt kp μ0 mem0 w0 w' := fun g2 => hS.trans hrm hE (g2.mono (ro' := kp) (fun b hb => by simp [hb])).sa
    simp only [evG] at h
    split at h <;> try (cases h; done)
    · rename_i hg
      have hpass := gOn_pass hg hs
      split at h <;> try (cases h; done)
      rename_i hnst
      simp only [Option.bind_eq_some_iff] at h
      obtain ⟨s1, h1, h2⟩ := h
      unfold zOne at h1
      split at h1 <;> try (cases h1; done)
      rename_i hN
      split at h1
      · rename_i d f xs
        simp only [Option.map_eq_some_iff] at h1
        obtain ⟨⟨v, mem⟩, h1, rfl⟩ := h1
        simp only [MOp.inN, Bool.and_eq_true, Nat.blt_eq] at hN
        obtain ⟨g1, g2⟩ := callF_ok ok hF hrec h1 (by simp) (args_rel hs) hm
        refine RG.ca (R := fun u w' => ∃ μ', RelA mem.length μ' v u ∧ Left_ K B (fun b => ro b || kp b) μ μ' s.mem mem w w') g1 (fun _ => Calls.mono g2 ?_) ?_ hpass hN.1 (fun x hx => List.all_eq_true.1 hN.2 x hx)
        · rintro e w' ⟨u, μ', rfl, k1, k2⟩
          exact ⟨u, rfl, ⟨μ', k1, k2⟩, keepS (s1 := ⟨[], mem⟩) k2⟩
        · rintro u w' ⟨μ', k1, k2⟩
          exact next h2 ((hs.ext k2.e k2.l).put k1) k2
      · rename_i ty p x
        simp only [Option.map_eq_some_iff] at h1
        obtain ⟨mem, h1, rfl⟩ := h1
        simp only [MOp.inN, Bool.and_eq_true, Nat.blt_eq] at hN
        obtain ⟨b, o, g1, g2, g3, g4, g5⟩ := evS_ok ok h1 hs hm (hs.slot x)
        exact RG.st (by rw [g1]; exact run_storeAt_any g2 g3 g4) (fun _ => keepS (s1 := ⟨[], mem⟩) g5) (next h2 (hs.ext g5.e g5.l) g5) hpass hN.1 hN.2
      · rename_i ty p c
        exact absurd rfl (hnst ty p c)
      · rcases evQX_cases h1 with ⟨d, v, hx, rfl⟩ | ⟨d, v, mem, hx, rfl⟩
        · obtain ⟨hd, u, g1, g2⟩ := evQ_ok ok hx hs hm hN
          have hall : ∀ w', SameAt kp μ0 mem0 w0 w' → MR P N m ρ w' d u w' := fun w' hS' => g2 w' fun b k hb hk => by
            obtain ⟨k0, hk0⟩ := hkp b hb
            have e := hE b (List.getElem?_eq_some_iff.1 hk0).1
            rw [e, hS' b k0 hb hk0, hS b k0 hb hk0]
          have nx := next (s1 := s.put d v) h2 (hs.put g1) (Left_.refl hm)
          cases hq : m.quiet
          · exact RG.x (hall w hS) (fun h => h) nx hq hpass hd
          · exact RG.q hall nx hq hpass hd
        · obtain ⟨hd, u, w', μ', g1, g2, g3⟩ := evX_ok ok hx hs hm hN
          exact RG.x g1 (fun _ => keepS (s1 := ⟨[], mem⟩) g3) (next h2 ((hs.ext g3.e g3.l).put g2) g3) (evX_quiet hx) hpass hd
    · rename_i hg
      have hpass := gOn_pass hg hs
      split at h <;> try (cases h; done)
      rename_i d hd
      split at h <;> try (cases h; done)
      rename_i hlt
      rw [Nat.blt_eq] at hlt
      exact RG.no hpass (next (s1 := s.put d (.f .uk)) h (hs.put (x := .f .uk) (v := undef) trivial) (Left_.refl hm)) hd hlt
theorem kpOf_live {gs : List GOp} {b : Nat} (h : kpOf gs s b = true) : ∃ k, s.mem[b]? = some (some k) := by
  unfold kpOf at h
  split at h
  · rename_i cs e; exact ⟨_, blk_mem e⟩
  · rename_i bs e; exact ⟨_, blk_mem e⟩
  · cases h
theorem Post.mono {x : AX} {sf : St} {μ1 : Nat → Nat × Nat} {mem1 : List (Option Blk)} {w1 : World} {e : Exit} {ρ' : Nat → Value} {w' : World} {mem : List (Option Blk)} (h : Left_ K B ro μ μ1 mem mem1 w w1) (k : Post K B ro μ1 mem1 w1 x sf e ρ' w') : Post K B ro μ mem w x sf e ρ' w' := by
  obtain ⟨h1, μ', h2, h3⟩ := k
  exact ⟨h1, μ', h2, h.trans h3⟩
theorem drew1_left {mem : List (Option Blk)} (hm : RelM K.u8 B μ mem w) : Left_ K B ro μ μ mem mem w (World.drew1 w) :=
  ⟨hm.keep (below_drew1 w w.heap.size).size (fun i k hi => (below_drew1 w w.heap.size).block _ (hm.at_ i k hi).2.1), ExtM.refl, Nat.le_refl _, (below_drew1 w w.heap.size).mono hm.base, fun b k _ hk => (below_drew1 w w.heap.size).block _ (hm.at_ b k hk).2.1, fun _ _ _ h => h⟩
theorem thenR_post {x : AX} {sf : St} (hx : x ≠ .nm) {e : Exit} {ρ' : Nat → Value} {w' : World} {mem : List (Option Blk)} {L : (Nat → Value) → World → Prop} {Q : Exit → (Nat → Value) → World → Prop} (k : Post K B ro μ mem w x sf e ρ' w') (h : Q e ρ' w') : thenR L Q e ρ' w' := by
  obtain ⟨rfl, _⟩ := k
  cases x
  · exact absurd rfl hx
  · exact h
  · exact h
/-! ### Regions of several orders -/
def RT (P : Program) (N : Nat) (t : GT) (Q : Exit → (Nat → Value) → World → Prop) (S : World → Prop) (ρ : Nat → Value) (w : World) : Prop :=
  ∀ (ops : Array Oper) (lst : Array Bool) (fuel : Nat) (a : Act), Loc N N ρ a → S w → Region.noSelect ops = true → ordT ops lst t = true → t.depth ≤ fuel → wpAnyH P .any ops (up N Q) S fuel lst a w
def OneX (P : Program) (N : Nat) (x : GOp) (S : World → Prop) (ρ : Nat → Value) (w : World) (L : (Nat → Value) → World → Prop) : Prop :=
  ∀ (ops : Array Oper) (a : Act) (o : Oper) (H : Act → World → Prop) (Q : Exit → (Nat → Value) → World → Prop), Loc N N ρ a → S w → ops[x.i]? = some o → fitAt ops x o = true → (∀ ρ' w' a', L ρ' w' → Loc N N ρ' a' → S w' → H a' w') →
    wpOp P ops (up N Q) x.i (fun a' w' => S w' ∧ H a' w') a w
theorem RT.nil {S : World → Prop} (h : Q .normal ρ w) : RT P N .nil Q S ρ w := by
  intro ops lst fuel a ha hS hns hor _
  have hr : Region.ready .any ops lst = [] := by simpa [ordT] using hor
  exact wpAnyH_done hr ⟨ρ, ha, h⟩ fuel
theorem RT.q {S : World → Prop} {x : GOp} {t : GT} {v : Value} (hm : ∀ w', S w' → MR P N x.m ρ w' d v w') (h : RT P N t Q S (upd ρ d v) w) (hg : x.g = none) (hd : d < N) : RT P N (.q x t) Q S ρ w := by
  intro ops lst fuel a ha hS hns hor hfuel
  simp only [ordT, Bool.and_eq_true] at hor
  obtain ⟨⟨⟨⟨h1, h2⟩, h3⟩, h4⟩, h5⟩ := hor
  cases ho : ops[x.i]? with
  | none => simp [ho] at h1
  | some o =>
    simp only [ho] at h1
    obtain ⟨k4, k5, k6⟩ := fitAt_inv h1
    have hw := wanted_of (b := true) ha k4 (by rw [hg]; rfl)
    have hod : o.dst = some d := (hm w hS a o ha k5).1
    have hput : a.put o.dst v = wr a d v := by rw [hod]; rfl
    cases fuel with
    | zero => simp [GT.depth] at hfuel
    | succ fuel =>
      refine wpAnyH_take ho hns h3 h4 upPanic (.inl ⟨hw, fun w' hS' => (hm w' hS' a o ha k5).2⟩) hS ?_
      rw [hput]
      exact h ops _ fuel _ (ha.put hd) hS hns h5 (by simpa [GT.depth] using hfuel)
theorem OneX.x {S : World → Prop} {x : GOp} {v : Value} {L : (Nat → Value) → World → Prop} (hm : MR P N x.m ρ w d v w') (hS' : S w → S w') (h : L (upd ρ d v) w') (hg : x.g = none) (hd : d < N) : OneX P N x S ρ w L := by
  intro ops a o H Q ha hS ho hf hH
  obtain ⟨k4, k5, k6⟩ := fitAt_inv hf
  have hw := wanted_of (b := true) ha k4 (by rw [hg]; rfl)
  obtain ⟨hod, hrun⟩ := hm a o ha k5
  have hput : a.put o.dst v = wr a d v := by rw [hod]; rfl
  unfold wpOp
  simp only [ho, hw, if_true]
  refine .inl ?_
  unfold Oper.wp
  rw [hrun, Oper.upon_value, hput]
  exact ⟨hS' hS, hH _ _ _ h (ha.put hd) (hS' hS)⟩
theorem OneX.ca {S : World → Prop} {i f : Nat} {xs : List MX} {R : Value → World → Prop} {L : (Nat → Value) → World → Prop} (he : entersB P f = true)
    (hc : S w → Calls P f (xs.map (xof ρ)).toArray w (fun e w' => ∃ v, e = .returned v ∧ R v w' ∧ S w'))
    (h : ∀ v w', R v w' → L (upd ρ d v) w') (hd : d < N) (hx : ∀ x ∈ xs, MX.lt N x = true) : OneX P N ⟨i, none, .ca d f xs⟩ S ρ w L := by
  intro ops a o H Q ha hS ho hf hH
  obtain ⟨k4, k5, k6⟩ := fitAt_inv hf
  have hw := wanted_of (b := true) ha k4 rfl
  obtain ⟨hod, hrun⟩ := callRun (d := d) (w := w) he hx ha k5
  have hput : ∀ v, a.put o.dst v = wr a d v := fun v => by rw [hod]; rfl
  unfold wpOp
  dsimp only at ho
  simp only [ho, hw, if_true]
  refine .inl ?_
  unfold Oper.wp
  rw [hrun, Oper.upon_enter]
  refine Calls.mono (hc hS) ?_
  rintro e w' ⟨v, rfl, hR, hS'⟩
  dsimp only
  rw [hput]
  exact ⟨hS', hH _ _ _ (h v w' hR) (ha.put hd) hS'⟩
theorem OneX.st {S : World → Prop} {i ty p q : Nat} {L : (Nat → Value) → World → Prop} (hr : (Instr.storeAt ty (ρ p) (ρ q)).run P w = .ok () w') (hS' : S w → S w') (h : L ρ w') (hp : p < N) (hq : q < N) : OneX P N ⟨i, none, .st ty p q⟩ S ρ w L := by
  intro ops a o H Q ha hS ho hf hH
  obtain ⟨k4, k5, k6⟩ := fitAt_inv hf
  have hw := wanted_of (b := true) ha k4 rfl
  obtain ⟨hod, hrun⟩ := stRun hr ha hp hq k5
  have hput : a.put o.dst undef = a := by rw [hod]; rfl
  unfold wpOp
  dsimp only at ho
  simp only [ho, hw, if_true]
  refine .inl ?_
  unfold Oper.wp
  rw [hrun, Oper.upon_skip, hput]
  exact ⟨hS' hS, hH _ _ _ h ha (hS' hS)⟩
theorem RT.one {S : World → Prop} {x : GOp} {t : GT} (h : OneX P N x S ρ w (fun ρ' w' => RT P N t Q S ρ' w')) : RT P N (.one x t) Q S ρ w := by
  intro ops lst fuel a ha hS hns hor hfuel
  simp only [ordT, Bool.and_eq_true] at hor
  obtain ⟨⟨h1, h2⟩, h5⟩ := hor
  cases ho : ops[x.i]? with
  | none => simp [ho] at h1
  | some o =>
    simp only [ho] at h1
    cases fuel with
    | zero => simp [GT.depth] at hfuel
    | succ fuel =>
      have hr : Region.ready .any ops lst = [x.i] := by
        split at h2
        · rename_i i hi; rw [hi, Nat.eq_of_beq_eq_true h2]
        · simp at h2
      refine wpAnyH_all hr (by simp) fun j hj => ?_
      have hjk : j = x.i := by simpa using hj
      subst hjk
      exact h ops a o _ Q ha hS ho h1 fun ρ' w' a' hL hl hS' => hL ops _ fuel a' hl hS' hns h5 (by simpa [GT.depth] using hfuel)
theorem RT.two {S : World → Prop} {x y : GOp} {tx ty : GT} (h : OneX P N x S ρ w (fun ρ' w' => RT P N tx Q S ρ' w')) (h' : OneX P N y S ρ w (fun ρ' w' => RT P N ty Q S ρ' w')) : RT P N (.two x y tx ty) Q S ρ w := by
  intro ops lst fuel a ha hS hns hor hfuel
  simp only [ordT, Bool.and_eq_true] at hor
  obtain ⟨⟨⟨⟨h1, h2⟩, h3⟩, h5⟩, h6⟩ := hor
  cases ho : ops[x.i]? with
  | none => simp [ho] at h1
  | some o =>
  cases ho' : ops[y.i]? with
  | none => simp [ho'] at h2
  | some o' =>
    simp only [ho] at h1
    simp only [ho'] at h2
    simp only [GT.depth] at hfuel
    cases fuel with
    | zero => omega
    | succ fuel =>
      have hr : Region.ready .any ops lst = [x.i, y.i] := by
        split at h3
        · rename_i i j hi
          simp only [Bool.and_eq_true] at h3
          rw [hi, Nat.eq_of_beq_eq_true h3.1, Nat.eq_of_beq_eq_true h3.2]
        · simp at h3
      refine wpAnyH_all hr (by simp) fun j hj => ?_
      simp only [List.mem_cons, List.not_mem_nil, or_false] at hj
      rcases hj with rfl | rfl
      · exact h ops a o _ Q ha hS ho h1 fun ρ' w' a' hL hl hS' => hL ops _ fuel a' hl hS' hns h5 (by omega)
      · exact h' ops a o' _ Q ha hS ho' h2 fun ρ' w' a' hL hl hS' => hL ops _ fuel a' hl hS' hns h6 (by omega)
theorem RW.gx {dd : Nat} {keep : List Nat} {t : GT} (hmo : P.follows .mixedOrders = true) (S : World → Prop) (hS : S (World.drew1 w)) (h : RT P N t Q S ρ (World.drew1 w)) : RW P N (.gx dd keep t) Q ρ w := by
  intro a ha c hc
  cases c <;> try (simp only [fits, Bool.false_eq_true] at hc; done)
  rename_i id ops dr
  cases dr <;> simp only [fits, Bool.false_eq_true, Bool.and_eq_true, Nat.ble_eq] at hc
  exact wp_region_any hmo (wpAny_of_held (S := S) _ _ _ _ (h ops _ _ a ha hS hc.1.1 hc.2 hc.1.2))
theorem zOne_x (ok : TKK P K) (hF : ∀ e ∈ fs, feB P e = true) {rec : Rec} (hrec : RecOk P K rec) {kp : Nat → Bool} {S : World → Prop} {i : Nat} {g : Option (Nat × Nat × Bool)} {m : MOp} {s' : St} {L : (Nat → Value) → World → Prop} (hg : g = none) (hst : m.isStc = false)
    (h : zOne K fs rec N kp (fun b => ro b || kp b) s m = some s') (hs : RelS s.mem.length μ s.sl ρ) (hm : RelM K.u8 B μ s.mem w)
    (hS' : ∀ {w' : World} {μ' : Nat → Nat × Nat}, Left_ K B (fun b => ro b || kp b) μ μ' s.mem s'.mem w w' → S w → S w')
    (hQ : ∀ ρ' w' μ', RelS s'.mem.length μ' s'.sl ρ' → Left_ K B (fun b => ro b || kp b) μ μ' s.mem s'.mem w w' → L ρ' w') : OneX P N ⟨i, g, m⟩ S ρ w L := by
  subst hg
  unfold zOne at h
  split at h <;> try (cases h; done)
  rename_i hN
  split at h
  · rename_i d f xs
    simp only [Option.map_eq_some_iff] at h
    obtain ⟨⟨v, mem⟩, h1, rfl⟩ := h
    simp only [MOp.inN, Bool.and_eq_true, Nat.blt_eq] at hN
    obtain ⟨g1, g2⟩ := callF_ok ok hF hrec h1 (by simp) (args_rel hs) hm
    refine OneX.ca (R := fun u w' => ∃ μ', RelA mem.length μ' v u ∧ Left_ K B (fun b => ro b || kp b) μ μ' s.mem mem w w') g1 (fun hS => Calls.mono g2 ?_) ?_ hN.1 (fun x hx => List.all_eq_true.1 hN.2 x hx)
    · rintro e w' ⟨u, μ', rfl, k1, k2⟩
      exact ⟨u, rfl, ⟨μ', k1, k2⟩, hS' k2 hS⟩
    · rintro u w' ⟨μ', k1, k2⟩
      exact hQ _ w' μ' ((hs.ext k2.e k2.l).put k1) k2
  · rename_i ty p x
    simp only [Option.map_eq_some_iff] at h
    obtain ⟨mem, h1, rfl⟩ := h
    simp only [MOp.inN, Bool.and_eq_true, Nat.blt_eq] at hN
    obtain ⟨b, o, g1, g2, g3, g4, g5⟩ := evS_ok ok h1 hs hm (hs.slot x)
    exact OneX.st (by rw [g1]; exact run_storeAt_any g2 g3 g4) (hS' g5) (hQ ρ _ μ (hs.ext g5.e g5.l) g5) hN.1 hN.2
  · cases hst
  · rcases evQX_cases h with ⟨d, v, hx, rfl⟩ | ⟨d, v, mem, hx, rfl⟩
    · obtain ⟨hd, u, g1, g2⟩ := evQ_ok ok hx hs hm hN
      exact OneX.x (g2 w (fun _ _ _ _ => rfl)) (fun h => h) (hQ _ w μ (hs.put g1) (Left_.refl hm)) rfl hd
    · obtain ⟨hd, u, w', μ', g1, g2, g3⟩ := evX_ok ok hx hs hm hN
      exact OneX.x g1 (hS' g3) (hQ _ w' μ' ((hs.ext g3.e g3.l).put g2) g3) rfl hd
theorem evT_ok (ok : TKK P K) (hF : ∀ e ∈ fs, feB P e = true) {rec : Rec} (hrec : RecOk P K rec) {kp : Nat → Bool} {μ0 : Nat → Nat × Nat} {mem0 : List (Option Blk)} {w0 : World} (hkp : ∀ b, kp b = true → ∃ k, mem0[b]? = some (some k)) :
    ∀ {t : GT} {s : St} {ls : List St} {μ : Nat → Nat × Nat} {ρ : Nat → Value} {w : World}, evT K fs rec N kp ro t s = some ls → RelS s.mem.length μ s.sl ρ → RelM K.u8 B μ s.mem w → ExtM mem0.length μ0 μ → mem0.length ≤ s.mem.length → (∀ b k, kp b = true → mem0[b]? = some (some k) → s.mem[b]? = some (some k)) → SameAt kp μ0 mem0 w0 w →
    (∀ sf ∈ ls, ∀ ρ' w' μ', RelS sf.mem.length μ' sf.sl ρ' → Left_ K B (fun b => ro b || kp b) μ μ' s.mem sf.mem w w' → Q .normal ρ' w') → RT P N t Q (SameAt kp μ0 mem0 w0) ρ w := by
  intro t
  have kS : ∀ {s s1 : St} {μ μ' : Nat → Nat × Nat} {w w' : World}, ExtM mem0.length μ0 μ → (∀ b k, kp b = true → mem0[b]? = some (some k) → s.mem[b]? = some (some k)) → Left_ K B (fun b => ro b || kp b) μ μ' s.mem s1.mem w w' → SameAt kp μ0 mem0 w0 w → SameAt kp μ0 mem0 w0 w' :=
    fun hE hrm g2 hS => hS.trans hrm hE (g2.mono (ro' := kp) (fun b hb => by simp [hb])).sa
  induction t with
  | nil =>
    intro s ls μ ρ w h hs hm hE hl0 hrm hS hQ
    simp only [evT, Option.some.injEq] at h
    subst h
    exact RT.nil (hQ s List.mem_cons_self ρ w μ hs (Left_.refl hm))
  | q x t iht =>
    intro s ls μ ρ w h hs hm hE hl0 hrm hS hQ
    simp only [evT] at h
    split at h <;> try (cases h; done)
    rename_i hc
    simp only [Bool.and_eq_true, Option.isNone_iff_eq_none] at hc
    split at h <;> try (cases h; done)
    rename_i r hr
    obtain ⟨d, v⟩ := r
    obtain ⟨hd, u, g1, g2⟩ := evQ_ok ok hr hs hm hc.2
    have hall : ∀ w', SameAt kp μ0 mem0 w0 w' → MR P N x.m ρ w' d u w' := fun w' hS' => g2 w' fun b k hb hk => by
      obtain ⟨k0, hk0⟩ := hkp b hb
      have e := hE b (List.getElem?_eq_some_iff.1 hk0).1
      rw [e, hS' b k0 hb hk0, hS b k0 hb hk0]
    exact RT.q hall (iht h (hs.put g1) hm hE hl0 hrm hS fun sf hsf ρ' w' μ' k1 k2 => hQ sf hsf ρ' w' μ' k1 k2) hc.1 hd
  | one x t iht =>
    intro s ls μ ρ w h hs hm hE hl0 hrm hS hQ
    simp only [evT] at h
    split at h <;> try (cases h; done)
    rename_i hc
    simp only [Bool.and_eq_true, Option.isNone_iff_eq_none, Bool.not_eq_true'] at hc
    simp only [Option.bind_eq_some_iff] at h
    obtain ⟨s1, h1, h2⟩ := h
    refine RT.one (zOne_x ok hF hrec hc.1 hc.2 h1 hs hm (fun g2 => kS (s := s) (s1 := s1) hE hrm g2) fun ρ' w' μ' g1 g2 => ?_)
    exact iht h2 g1 g2.m (hE.trans g2.e hl0) (Nat.le_trans hl0 g2.l) (fun b k hb hk => g2.rm b k (by simp [hb]) (hrm b k hb hk)) (kS (s := s) (s1 := s1) hE hrm g2 hS) fun sf hsf ρ'' w'' μ'' k1 k2 => hQ sf hsf ρ'' w'' μ'' k1 (g2.trans k2)
  | two x y tx ty ihx ihy =>
    intro s ls μ ρ w h hs hm hE hl0 hrm hS hQ
    simp only [evT] at h
    split at h <;> try (cases h; done)
    rename_i hc
    simp only [Bool.and_eq_true, Option.isNone_iff_eq_none, Bool.not_eq_true'] at hc
    simp only [Option.bind_eq_some_iff, Option.map_eq_some_iff] at h
    obtain ⟨s1, h1, l1, h2, s2, h3, l2, h4, rfl⟩ := h
    refine RT.two (zOne_x ok hF hrec hc.1.1.1 hc.1.1.2 h1 hs hm (fun g2 => kS (s := s) (s1 := s1) hE hrm g2) fun ρ' w' μ' g1 g2 => ?_) (zOne_x ok hF hrec hc.1.2 hc.2 h3 hs hm (fun g2 => kS (s := s) (s1 := s2) hE hrm g2) fun ρ' w' μ' g1 g2 => ?_)
    · exact ihx h2 g1 g2.m (hE.trans g2.e hl0) (Nat.le_trans hl0 g2.l) (fun b k hb hk => g2.rm b k (by simp [hb]) (hrm b k hb hk)) (kS (s := s) (s1 := s1) hE hrm g2 hS) fun sf hsf ρ'' w'' μ'' k1 k2 => hQ sf (List.mem_append_left _ hsf) ρ'' w'' μ'' k1 (g2.trans k2)
    · exact ihy h4 g1 g2.m (hE.trans g2.e hl0) (Nat.le_trans hl0 g2.l) (fun b k hb hk => g2.rm b k (by simp [hb]) (hrm b k hb hk)) (kS (s := s) (s1 := s2) hE hrm g2 hS) fun sf hsf ρ'' w'' μ'' k1 k2 => hQ sf (List.mem_append_right _ hsf) ρ'' w'' μ'' k1 (g2.trans k2)
theorem RelF.down {n' : Nat} {μ' : Nat → Nat × Nat} {x : FV} {v : Value} (h : RelF n' μ' x v) (hb : x.below n = true) (he : ExtM n μ μ') : RelF n μ x v := by
  cases x <;> simp only [RelF, FV.below, Nat.blt_eq] at h hb ⊢
  · exact h
  · exact ⟨hb, by rw [← he _ hb]; exact h.2⟩
  · exact ⟨hb, by rw [← he _ hb]; exact h.2⟩
  · obtain ⟨_, c, h2, h3⟩ := h
    exact ⟨hb, c, h2, by rw [← he _ hb]; exact h3⟩
  · exact h
theorem RelL.down {n' : Nat} {μ' : Nat → Nat × Nat} (he : ExtM n μ μ') : ∀ {l : List FV} {vs : List Value}, RelL n' μ' l vs → l.all (FV.below n) = true → RelL n μ l vs
  | [], [], _, _ => trivial
  | _ :: _, _ :: _, h, hb => by
    simp only [List.all_cons, Bool.and_eq_true] at hb
    exact ⟨h.1.down hb.1 he, RelL.down he h.2 hb.2⟩
  | [], _ :: _, h, _ => h.elim
  | _ :: _, [], h, _ => h.elim
theorem RelF.is_below {x : FV} {v : Value} (h : RelF n μ x v) : x.below n = true := by
  cases x <;> simp only [RelF, FV.below, Nat.blt_eq] at h ⊢
  · exact h.1
  · exact h.1
  · exact h.1
theorem keepOnly_ok {n' : Nat} {μ' : Nat → Nat × Nat} {ρ' : Nat → Value} {sf : St} {keep : List Nat} (hs : RelS n μ s.sl ρ) (hf : RelS n' μ' sf.sl ρ') (he : ExtM n μ μ') (hk : ∀ i ∈ keep, sameA (sf.slot i) (s.slot i) = true) : RelS n μ (keepOnly keep s) ρ' := by
  induction keep with
  | nil => intro i; show RelA n μ (List.getD [] i (.f .uk)) _; simp only [List.getD_nil]; trivial
  | cons j keep ih =>
    intro i
    show RelA n μ ((setD (keepOnly keep s) j (s.slot j)).getD i (.f .uk)) _
    rw [setD_get]
    by_cases e : i = j
    · subst e
      rw [if_pos rfl]
      have hj := hk i List.mem_cons_self
      have e2 := sameA_eq hj
      have q := RelS.slot (s := sf) hf i
      have q0 := RelS.slot (s := s) hs i
      rw [e2] at q hj
      cases hc : s.slot i <;> rw [hc] at hj q q0 <;> simp only [sameA, Bool.false_eq_true] at hj
      exact RelF.down q (RelF.is_below q0) he
    · rw [if_neg e]
      exact ih (fun i hi => hk i (List.mem_cons_of_mem _ hi)) i
theorem leaf_ok (ok : TKK P K) {dd : Nat} {keep : List Nat} {c : FV × Blk} {sf : St} {ρ' : Nat → Value} {μ' : Nat → Nat × Nat} (h : okLeaf s.mem.length dd keep s c sf = true) (hs : RelS s.mem.length μ s.sl ρ) (hm : RelM K.u8 B μ s.mem w) (hf : RelS sf.mem.length μ' sf.sl ρ')
    (hl : Left_ K B (fun b => ro b || (s.blk b).isSome) μ μ' s.mem sf.mem w w') : Post K B ro μ s.mem w .nm ⟨setD (keepOnly keep s) dd (.f c.1), s.mem ++ [some c.2]⟩ .normal ρ' w' := by
  have live : ∀ {i : Nat} {k : Blk}, s.mem[i]? = some (some k) → (s.blk i).isSome = true := fun {i k} hi => by unfold St.blk; rw [List.getD_eq_getElem?_getD, hi]; rfl
  have hw : ∀ i k, s.mem[i]? = some (some k) → w'.heap[(μ i).1]? = w.heap[(μ i).1]? := fun i k hi => hl.sa i k (by simp [live hi]) hi
  unfold okLeaf at h
  simp only [Bool.and_eq_true, List.all_eq_true] at h
  obtain ⟨h1, h2⟩ := h
  have hk := keepOnly_ok (n := s.mem.length) (μ := μ) hs hf hl.e h2
  have fin : ∀ {b : Nat} {fv : FV} {k kl : Blk}, sf.mem[b]? = some (some kl) → s.mem.length ≤ b → RelB K.u8 B (s.mem.length + 1) (updM μ s.mem.length (μ' b)) w' s.mem.length k → RelF (s.mem.length + 1) (updM μ s.mem.length (μ' b)) fv (ρ' dd) →
      Post K B ro μ s.mem w .nm ⟨setD (keepOnly keep s) dd (.f fv), s.mem ++ [some k]⟩ .normal ρ' w' := by
    intro b fv k kl hb hge hrb hrf
    obtain ⟨q1, q2, _⟩ := hl.m.at_ b kl hb
    refine ⟨rfl, updM μ s.mem.length (μ' b), ?_, hm.new hl.b.size hw q1 q2 (fun i k' hi e => ?_) hrb, updM_ext, by simp, hl.b, fun i k' hr hi => hl.sa i k' (by simp [hr]) hi, fun i k' hr hi => live_app hi⟩
    · dsimp only
      rw [List.length_append, List.length_singleton]
      intro i
      rw [setD_get]
      by_cases e : i = dd
      · subst e; rw [if_pos rfl]; exact hrf
      · rw [if_neg e]; exact (hk i).ext updM_ext (by omega)
    · have hi' := hl.rm i k' (by simp [live hi]) hi
      have hlt := (List.getElem?_eq_some_iff.1 hi).1
      have e2 := hl.e i hlt
      exact hl.m.inj i b k' kl hi' hb (by omega) (by rw [e2]; exact e)
  obtain ⟨fv, k⟩ := c
  have hd := RelS.slot (s := sf) hf dd
  split at h1 <;> try (cases h1; done)
  · rename_i heq hsl
    simp only [Bool.and_eq_true, Nat.beq_eq, Nat.ble_eq] at h1
    obtain ⟨⟨⟨k1, k2⟩, k3⟩, k4⟩ := h1
    split at k4 <;> try (cases k4; done)
    rename_i l' hb
    have e4 := sameFs_eq k4
    subst e4
    have hb' := blk_mem hb
    rw [hsl] at hd
    simp only [Prod.mk.injEq] at heq
    obtain ⟨rfl, rfl⟩ := heq
    subst k1
    obtain ⟨_, _, vs, g1, g2, g3⟩ := hl.m.at_ _ _ hb'
    refine fin hb' k2 ⟨vs, (RelL.down hl.e g1 k3).ext updM_ext (by omega), ?_, ?_⟩ ⟨by omega, ?_⟩
    · rw [updM_same]; exact g2
    · rw [updM_same]; exact g3
    · rw [updM_same]; exact hd.2
  · rename_i heq hsl
    simp only [Bool.and_eq_true, Nat.beq_eq, Nat.ble_eq] at h1
    obtain ⟨⟨⟨⟨k1, k2⟩, k5⟩, k6⟩, k4⟩ := h1
    split at k4 <;> try (cases k4; done)
    rename_i l' hb
    have e4 := sameNs_eq k4
    subst e4
    have hb' := blk_mem hb
    rw [hsl] at hd
    simp only [Prod.mk.injEq] at heq
    obtain ⟨rfl, rfl⟩ := heq
    subst k1 k5 k6
    refine fin hb' k2 ?_ ⟨by omega, ?_, ?_⟩
    · show OwnB _ _ _ _ _
      rw [updM_same]
      exact (hl.m.at_ _ _ hb').2.2
    · rw [updM_same]; exact hd.2.1
    · rw [updM_same]; exact hd.2.2
theorem evC_ok (ok : TKK P K) (hmo : P.follows .mixedOrders = true) (hF : ∀ e ∈ fs, feB P e = true) : ∀ n, RecOk P K (evC K fs n) := by
  intro n
  induction n using Nat.strongRecOn with
  | ind n ih =>
  intro B N m s ro x sf h ρ w μ hs hm
  cases n with
  | zero => cases h
  | succ n =>
  change zBody K fs (evC K fs n) N m s ro = some (x, sf) at h
  have hrec : RecOk P K (evC K fs n) := ih n (Nat.lt_succ_self n)
  unfold zBody at h
  split at h
  · rename_i ms
    simp only [Option.map_eq_some_iff, Prod.mk.injEq] at h
    obtain ⟨s1, h1, rfl, rfl⟩ := h
    exact RW.rg (evL_ok ok hF hrec h1 hs hm fun ρ' w' μ' g1 g2 => ⟨rfl, μ', g1, g2⟩)
  · rename_i dr gs
    simp only [Option.map_eq_some_iff, Prod.mk.injEq] at h
    obtain ⟨s1, h1, rfl, rfl⟩ := h
    cases dr
    · exact RW.gf (SameAt (kpOf gs s) μ s.mem w) (fun _ _ _ _ => rfl) (evG_ok ok hF hrec (fun b hb => kpOf_live hb) h1 hs hm ExtM.refl (Nat.le_refl _) (fun _ _ _ h => h) (fun _ _ _ _ => rfl) fun ρ' w' μ' g1 g2 => ⟨rfl, μ', g1, g2⟩)
    · have hl := drew1_left (ro := ro) hm
      exact RW.gd hmo (SameAt (kpOf gs s) μ s.mem w) (drew1_left (ro := kpOf gs s) hm).sa (evG_ok ok hF hrec (fun b hb => kpOf_live hb) h1 hs hl.m ExtM.refl (Nat.le_refl _) (fun _ _ _ h => h) (drew1_left (ro := kpOf gs s) hm).sa fun ρ' w' μ' g1 g2 => ⟨rfl, μ', g1, hl.trans g2⟩)
  · rename_i a b
    simp only [Option.bind_eq_some_iff] at h
    obtain ⟨⟨y, s1⟩, h1, h2⟩ := h
    refine RW.sq ((hrec (B := B) h1 hs hm).mono fun e ρ' w' hp => ?_)
    split at h2
    · rename_i hy
      dsimp only at hy
      subst hy
      obtain ⟨rfl, μ', g1, g2⟩ := hp
      exact (hrec (B := B) h2 g1 g2.m).mono fun e ρ'' w'' hp2 => hp2.mono g2
    · rename_i hy
      simp only [Option.some.injEq, Prod.mk.injEq] at h2
      obtain ⟨rfl, rfl⟩ := h2
      exact thenR_post (by rintro rfl; exact hy rfl) hp hp
  · rename_i t a b
    split at h <;> try (cases h; done)
    rename_i ht
    rw [Nat.blt_eq] at ht
    have hr := hs.slot t
    split at h <;> try (cases h; done)
    rename_i c e
    rw [e] at hr
    refine RW.cd (b := c) hr (fun e => ?_) (fun e => ?_) ht
    · subst e; exact hrec h hs hm
    · subst e; exact hrec h hs hm
  · rename_i id b
    simp only [Option.map_eq_some_iff] at h
    obtain ⟨⟨y, s1⟩, h1, h2⟩ := h
    refine RW.bl ((hrec (B := B) h1 hs hm).mono fun e ρ' w' hp => ?_)
    obtain ⟨rfl, μ', g1, g2⟩ := hp
    dsimp only at h2
    cases y
    · simp only [Prod.mk.injEq] at h2
      obtain ⟨rfl, rfl⟩ := h2
      exact ⟨rfl, μ', g1, g2⟩
    · rename_i i
      simp only [Prod.mk.injEq] at h2
      obtain ⟨rfl, rfl⟩ := h2
      show (if i = id then _ else _)
      by_cases e : i = id
      · rw [if_pos e, if_pos (by rw [e]; exact Nat.beq_refl id)]; exact ⟨rfl, μ', g1, g2⟩
      · rw [if_neg e, if_neg (by rw [Nat.beq_eq]; exact e)]; exact ⟨rfl, μ', g1, g2⟩
    · simp only [Prod.mk.injEq] at h2
      obtain ⟨rfl, rfl⟩ := h2
      exact ⟨rfl, μ', g1, g2⟩
  · rename_i b
    have hlp : evC K fs (n + 1) N (.lp b) s ro = some (x, sf) := h
    refine RW.lpG (fun k ρ1 w1 => k ≤ n + 1 ∧ ∃ s1 μ1, evC K fs k N (.lp b) s1 ro = some (x, sf) ∧ RelS s1.mem.length μ1 s1.sl ρ1 ∧ Left_ K B ro μ μ1 s.mem s1.mem w w1) (n + 1) ⟨Nat.le_refl _, s, μ, hlp, hs, Left_.refl hm⟩ ?_
    rintro k ρ1 w1 ⟨hk, s1, μ1, e1, r1, l1⟩
    cases k with
    | zero => cases e1
    | succ k =>
    change (evC K fs k N b s1 ro).bind _ = some (x, sf) at e1
    simp only [Option.bind_eq_some_iff] at e1
    obtain ⟨⟨y, s2⟩, h1, h2⟩ := e1
    have hk2 : RecOk P K (evC K fs k) := ih k (by omega)
    refine (hk2 (B := B) h1 r1 l1.m).mono fun e ρ' w' hp => ?_
    split at h2
    · rename_i hy
      dsimp only at hy
      subst hy
      obtain ⟨rfl, μ', g1, g2⟩ := hp
      exact ⟨k, Nat.lt_succ_self k, by omega, s2, μ', h2, g1, l1.trans g2⟩
    · rename_i hy
      simp only [Option.some.injEq, Prod.mk.injEq] at h2
      obtain ⟨rfl, rfl⟩ := h2
      exact thenR_post (by rintro rfl; exact hy rfl) hp (hp.mono l1)
  · simp only [Option.some.injEq, Prod.mk.injEq] at h
    obtain ⟨rfl, rfl⟩ := h
    exact RW.ex ⟨rfl, μ, hs, Left_.refl hm⟩
  · simp only [Option.some.injEq, Prod.mk.injEq] at h
    obtain ⟨rfl, rfl⟩ := h
    exact RW.rt ⟨rfl, μ, hs, Left_.refl hm⟩
  · simp only [Option.some.injEq, Prod.mk.injEq] at h
    obtain ⟨rfl, rfl⟩ := h
    exact RW.sk ⟨rfl, μ, hs, Left_.refl hm⟩
  · rename_i b
    split at h <;> try (cases h; done)
    rename_i r hf
    simp only [Option.bind_eq_some_iff] at h
    obtain ⟨⟨y, s1⟩, h1, h2⟩ := h
    split at h2 <;> try (cases h2; done)
    rename_i hy
    dsimp only at hy
    subst hy
    simp only [Option.some.injEq, Prod.mk.injEq] at h2
    obtain ⟨rfl, rfl⟩ := h2
    refine RW.sc (fun _ _ => False) hf ((hrec (B := B) h1 hs hm).mono fun e ρ' w' hp => ?_) (fun _ _ h => h.elim)
    obtain ⟨rfl, g⟩ := hp
    exact ⟨rfl, g⟩
  · rename_i dd keep t
    simp only [Option.bind_eq_some_iff] at h
    obtain ⟨ls, h1, h2⟩ := h
    split at h2 <;> try (cases h2; done)
    rename_i l0 lr
    simp only [Option.bind_eq_some_iff] at h2
    obtain ⟨c, h3, h4⟩ := h2
    split at h4 <;> try (cases h4; done)
    rename_i hall
    rw [List.all_eq_true] at hall
    simp only [Option.some.injEq, Prod.mk.injEq] at h4
    obtain ⟨rfl, rfl⟩ := h4
    have hl := drew1_left (ro := fun b => ro b || (s.blk b).isSome) hm
    have hlive : ∀ b, (s.blk b).isSome = true → ∃ k, s.mem[b]? = some (some k) := fun b hb => by
      rw [Option.isSome_iff_exists] at hb
      obtain ⟨k, hk⟩ := hb
      exact ⟨k, blk_mem hk⟩
    exact RW.gx hmo (SameAt (fun i => (s.blk i).isSome) μ s.mem w) (drew1_left (ro := fun i => (s.blk i).isSome) hm).sa (evT_ok ok hF hrec hlive h1 hs hl.m ExtM.refl (Nat.le_refl _) (fun _ _ _ h => h) (drew1_left (ro := fun i => (s.blk i).isSome) hm).sa fun sf hsf ρ' w' μ' g1 g2 => leaf_ok ok (hall sf hsf) hs hm g1 (hl.trans g2))
  · cases h
theorem call_known (ok : TKK P K) (hmo : P.follows .mixedOrders = true) (hF : ∀ e ∈ fs, feB P e = true) {n f : Nat} {a : AV} {mem' : List (Option Blk)} (h : callF K fs (evC K fs n) (fun _ => false) [] f [] = some (a, mem')) :
    entersB P f = true ∧ Calls P f #[] w (fun e w' => ∃ v k μ', e = .returned v ∧ RelA k μ' a v ∧ Below w.heap.size w w') := by
  obtain ⟨g1, g2⟩ := callF_ok (B := w.heap.size) (μ := fun _ => (0, 0)) (vals := []) ok hF (evC_ok ok hmo hF n) h rfl (fun i => by simp [args0]; exact trivial) ⟨Nat.le_refl _, fun i k hi => by simp at hi, fun i j k l hi => by simp at hi⟩
  refine ⟨g1, Calls.mono g2 ?_⟩
  rintro e w' ⟨v, μ', rfl, k1, k2⟩
  exact ⟨v, _, μ', rfl, k1, k2.b⟩
end
set_option linter.unusedVariables false
def msgK : PK → Bool
  | .i8 => true
  | .i32 => true
  | .i64 => true
  | .nbyt => true
  | _ => false
def mnB (P : Program) (R : RN) : List Bool := [(rokB P R).all id, isFn P R.be32 (cBe R R.T.u32 4 .u32) 30 4, isFn P R.be64 (cBe R R.T.u64 8 .u64) 54 4, isFn P R.i32 (cNumC R 4 R.be32 R.T.u32 R.T.i32 .i32) 32 2, isFn P R.r64 (cNumU R 8 R.be64 .u64) 31 2,
  isFn P R.i64 (cI64 R) 6 2, isFn P R.i8 (cI8 R) 32 2, isFn P R.span (cSpan R) 40 4, isFn P R.nbyt (cNByt R) 14 2, isFn P R.compl (cCompl R) 8 2, yes R.T.u32, yes R.T.i32, yes R.T.u64, yes R.T.i64, yes R.T.i8]
structure MOK (P : Program) (R : RN) : Prop where
  ok : ROK P R
  fn : ∀ k, msgK k = true → RdC P (R.fn k false) (dP k false) (PrC k)
  compl : ComplC P R.compl R.gErr
theorem mok_of {P : Program} {R : RN} (h : (mnB P R).all id = true) : MOK P R := by
  simp only [mnB, List.all_cons, List.all_nil, id_eq, Bool.and_true, Bool.and_eq_true] at h
  obtain ⟨h1, h2, h3, h4, h5, h6, h7, h8, h9, h10, h11, h12, h13, h14, h15⟩ := h
  have ok := rok_of h1
  have b32 : BeC P R.be32 4 .u32 := be_ok ok ku32 (ok.tk.u32 (yes_of h11)) (by omega) (FnIs.of h2)
  have b64 : BeC P R.be64 8 .u64 := be_ok ok ku64 (ok.tk.u64 (yes_of h13)) (by omega) (FnIs.of h3)
  have i32 : RdCS P R.i32 (dInt 4) (PlB (fun x => .int .i32 x) I32) := (numC_okS ok b32 (by omega) (ok.tk.u32 (yes_of h11)) (ok.tk.i32 (yes_of h12)) (fun x hx => wrap_sgn32 hx) (FnIs.of h4)).c (fun l x r hd => by
    have := dInt_some (by omega) hd
    simp only [Nat.reducePow, Nat.reduceDiv] at this
    exact ⟨by omega, by omega⟩) ⟨by show (-2147483648 : Int) ≤ 0; omega, by show (0 : Int) ≤ 2147483647; omega⟩
  have i64 : RdC P R.i64 (dInt 8) (PlB (fun x => .int .i64 x) (fun n => -9223372036854775808 ≤ n ∧ n ≤ 9223372036854775807)) := (i64_ok ok (yes_of h13) (yes_of h14) (numU_ok ok b64 (by omega) (FnIs.of h5)) (FnIs.of h6)).c (fun l x r hd => by
    have := dInt_some (by omega) hd
    simp only [Nat.reducePow, Nat.reduceDiv] at this
    exact ⟨by omega, by omega⟩) ⟨by show (-9223372036854775808 : Int) ≤ 0; omega, by show (0 : Int) ≤ 9223372036854775807; omega⟩
  refine ⟨ok, fun k hk => ?_, compl_ok ok (FnIs.of h10)⟩
  cases k <;> simp only [msgK, Bool.false_eq_true] at hk
  · refine RdC.map (g := D.n) (i8_ok ok (yes_of h15) (FnIs.of h7)) ?_
    rintro w F v x ⟨rfl, h1, h2⟩
    exact ⟨rfl, rfl, rfl, x, rfl, rfl, h1, h2⟩
  · refine RdC.map (g := D.n) i32.n ?_
    rintro w F v x ⟨rfl, h1, h2⟩
    exact ⟨rfl, rfl, rfl, x, rfl, rfl, h1, h2⟩
  · refine RdC.map (g := D.n) i64 ?_
    rintro w F v x ⟨rfl, h1, h2⟩
    exact ⟨rfl, rfl, rfl, x, rfl, rfl, h1, h2⟩
  · exact nbyt_ok ok (yes_of h12) i32 (span_okS ok (FnIs.of h8)) (FnIs.of h9)
def GotM : List PK → Option (List UInt8) → List D → Option (List UInt8) → Prop
  | [], st, ds, st' => ds = [] ∧ st' = st
  | k :: r, st, ds, st' => ∃ d ds' st1, ds = d :: ds' ∧ Got (dP k false) st d st1 ∧ GotM r st1 ds' st'
def RepOs (w : World) (F : Nat → Prop) : List PK → List Value → List D → Prop
  | [], [], [] => True
  | k :: ks, v :: vs, d :: ds => (v.oneCell' = true ∧ RepP w F k [v] d) ∧ RepOs w F ks vs ds
  | _, _, _ => False
def mfl (R : RN) (T : Nat) : List (PK × Nat) → (i t : Nat) → MCode → MCode
  | [], _, _, e => e
  | x :: r, i, t, e => .sq (.sq (.rg [.ca t (R.fn x.1 false) [.t 7], .mv (9 + i) (.t t)]) (.rg [.mv (t + 1) (.t 8), .mv (t + 2) (.t (9 + i)), .nc (t + 3) (t + 1), .fa (t + 4) T (t + 3) i, .st x.2 (t + 4) (t + 2)])) (mfl R T r (i + 1) (t + 5) e)
structure MsS (w0 w : World) (q rb sb n : Nat) (cs : List Value) (st : Option (List UInt8)) : Prop where
  r : w.rangeAt q 0 cs
  nn : cs.length = n
  t : w.there q 0 n
  rd : RdAt w rb sb st
  fr : Fr (fun _ => False) q 0 n w0 w
  q0 : q < w0.heap.size
  sb0 : sb < w0.heap.size
  rb0 : w0.heap.size ≤ rb
  sq : sb ≠ q
def FM (w0 : World) (q rb sb : Nat) : Nat → Prop := fun b => (b = sb ∨ w0.heap.size ≤ b) ∧ b ≠ rb ∧ b ≠ q
section
variable {P : Program} {N : Nat} {Q : Exit → (Nat → Value) → World → Prop} {ρ : Nat → Value} {w0 w w' : World} {ms : List MOp} {R : RN} {q rb sb n : Nat} {cs : List Value} {st : Option (List UInt8)}
theorem Fr.otherQ {q n rb : Nat} (h : Fr (fun _ => False) q 0 n w0 w) (k : Fr (fun _ => False) rb 0 2 w w') (hrb : w0.heap.size ≤ rb) (hq : q < w0.heap.size) : Fr (fun _ => False) q 0 n w0 w' := by
  have hqw : w'.heap[q]? = w.heap[q]? := k.block q (by have := h.size; omega) (by omega) (fun x => x)
  exact ⟨k.os.trans h.os, k.tape.trans h.tape, k.output.trans h.output, Nat.le_trans h.size k.size, fun i hi h1 h2 => (k.block i (Nat.lt_of_lt_of_le hi h.size) (by omega) h2).trans (h.block i hi h1 h2),
    fun j hj => (cell_of_heap (a := ⟨q, j, none⟩) hqw).trans (h.cell j hj), fun o' n' ht => there_keep (h.there _ _ ht) hqw⟩
theorem mfld_ok (ok : MOK P R) {k : PK} {ty T i t : Nat} (hk : msgK k = true) (hc : cellsB P ty 1 = true) (hf : fieldAtB P T i i = true) (h : MsS w0 w q rb sb n cs st) (hi : i < n) (ht : 9 + i < t) (hN : t + 5 ≤ N) (p7 : ρ 7 = .pointer (some ⟨rb, 0, none⟩)) (p8 : ρ 8 = .pointer (some ⟨q, 0, none⟩))
    (hQ : ∀ ρ' w' v d st', (∀ s, s < 9 → ρ' s = ρ s) → MsS w0 w' q rb sb n (cs.set i v) st' → Got (dP k false) st d st' → v.oneCell' = true → RepP w' (FM w0 q rb sb) k [v] d → (∀ b, b < w.heap.size → b ≠ q → b ≠ rb → w'.heap[b]? = w.heap[b]?) → w.heap.size ≤ w'.heap.size → Q .normal ρ' w') :
    RW P N (.sq (.rg [.ca t (R.fn k false) [.t 7], .mv (9 + i) (.t t)]) (.rg [.mv (t + 1) (.t 8), .mv (t + 2) (.t (9 + i)), .nc (t + 3) (t + 1), .fa (t + 4) T (t + 3) i, .st ty (t + 4) (t + 2)])) Q ρ w := by
  have hrbw := h.rd.lt
  have hne : sb ≠ rb := by have := h.sb0; have := h.rb0; omega
  have hqrb : q ≠ rb := by have := h.q0; have := h.rb0; omega
  refine RW.sq (RW.rg (RL.rd (ok.fn k hk) (y := .t 7) p7 h.rd hne (ltT (by omega)) (by omega) ?_))
  intro v d st' w1 hF hG hR hC
  obtain ⟨c1, c2, c3, c4⟩ := hC
  have one : v.oneCell' = true := by
    cases k <;> simp only [msgK, Bool.false_eq_true] at hk <;> exact c1
  have vc : v.cells = #[v] := by cases v <;> simp_all [Value.cells, Value.oneCell']
  have q1 : w1.heap[q]? = w.heap[q]? := hF.block q (by have := h.q0; have := h.fr.size; omega) hqrb (fun x => x)
  have fr1 := h.fr.otherQ hF h.rb0 h.q0
  have t1 : w1.there q 0 n := there_keep h.t q1
  have ti : w1.there q (0 + i) 1 := there_in t1 (by omega)
  refine RL.step (MR.mv (v := v) (upd_same _ _ _) (ltT (by omega))) (RL.nil (RW.rg ?_)) (by omega)
  refine RL.step (MR.mv (v := .pointer (some ⟨q, 0, none⟩)) (by show upd _ _ _ 8 = _; rw [upd_ne _ _ (by omega), upd_ne _ _ (by omega)]; exact p8) (ltT (by omega))) (RL.step (MR.mv (v := v) (by show upd _ _ _ (9 + i) = _; rw [upd_ne _ _ (by omega), upd_same]) (ltT (by omega)))
    (RL.step (MR.nc (p := ⟨q, 0, none⟩) (by rw [upd_ne _ _ (by omega), upd_same]) (by omega)) (RL.step (MR.fa (b := q) (o := 0) (upd_same _ _ _) hf (by omega)) (RL.st1 (v := v) (b := q) (o := 0 + i) (upd_same _ _ _) (by rw [upd_ne _ _ (by omega), upd_ne _ _ (by omega), upd_same]) one hc ti (RL.nil ?_) (by omega) (by omega)) (by omega)) (by omega)) (by omega)) (by omega)
  have hoth : ∀ b, b ≠ q → (w1.setCells q (0 + i) [v]).heap[b]? = w1.heap[b]? := fun b hb => setCells_other q _ _ _ b hb
  have hsz := size_setCells q [v] (0 + i) w1
  refine hQ _ _ v d st' (fun s hs => by rw [upd_ne _ _ (by omega), upd_ne _ _ (by omega), upd_ne _ _ (by omega), upd_ne _ _ (by omega), upd_ne _ _ (by omega), upd_ne _ _ (by omega)]) ⟨?_, ?_, ?_, ?_, ?_, h.q0, h.sb0, h.rb0, h.sq⟩ hG one ?_ (fun b hb h1 h2 => ?_) ?_
  · exact range_set (k := i) (o := 0) (range_keep h.r q1) ti
  · rw [List.length_set]; exact h.nn
  · exact World.there_setCells t1 _ _ _
  · exact hR.keep (hoth rb (fun e => hqrb e.symm)) (hoth sb h.sq)
  · exact fr1.trans (Fr.put _ (by omega) (by simp; omega))
  · rw [vc] at c4
    refine c4.bound.mono (F' := FM w0 q rb sb) (fun b hb => ?_) (fun b hb => ?_)
    · obtain ⟨hb, _⟩ := hb
      have hfs := h.fr.size
      have hq0 := h.q0
      rcases hb with rfl | hb
      · exact ⟨.inl rfl, hne, h.sq⟩
      · exact ⟨.inr (by omega), by omega, by omega⟩
    · obtain ⟨hb, _⟩ := hb
      have hfs := h.fr.size
      have hq0 := h.q0
      rcases hb with rfl | hb
      · exact hoth _ h.sq
      · exact hoth b (by omega)
  · rw [hoth b h1]
    exact hF.block b hb h2 (fun x => x)
  · rw [hsz]; exact hF.size
theorem mfl_ok (ok : MOK P R) {T : Nat} {e : MCode} : ∀ {fl : List (PK × Nat)} {i t : Nat} {cs : List Value} {st : Option (List UInt8)} {ρ : Nat → Value} {w : World}, (∀ x ∈ fl, msgK x.1 = true ∧ cellsB P x.2 1 = true) → (∀ j, i ≤ j → j < i + fl.length → fieldAtB P T j j = true) →
    MsS w0 w q rb sb n cs st → i + fl.length = n → 9 + n < t → t + 5 * fl.length ≤ N → ρ 7 = .pointer (some ⟨rb, 0, none⟩) → ρ 8 = .pointer (some ⟨q, 0, none⟩) →
    (∀ ρ' w' vs ds st', (∀ s, s < 9 → ρ' s = ρ s) → MsS w0 w' q rb sb n (cs.take i ++ vs) st' → GotM (fl.map (·.1)) st ds st' → RepOs w' (FM w0 q rb sb) (fl.map (·.1)) vs ds → (∀ b, b < w.heap.size → b ≠ q → b ≠ rb → w'.heap[b]? = w.heap[b]?) → w.heap.size ≤ w'.heap.size → RW P N e Q ρ' w') →
    RW P N (mfl R T fl i t e) Q ρ w
  | [], i, t, cs, st, ρ, w, ha, hf, h, hn, ht, hN, p7, p8, hQ => by
    have : cs.take i = cs := List.take_of_length_le (by rw [h.nn]; simpa using Nat.le_of_eq hn.symm)
    exact hQ ρ w [] [] st (fun _ _ => rfl) (by rw [List.append_nil, this]; exact h) ⟨rfl, rfl⟩ trivial (fun _ _ _ _ => rfl) (Nat.le_refl _)
  | x :: fl, i, t, cs, st, ρ, w, ha, hf, h, hn, ht, hN, p7, p8, hQ => by
    simp only [List.length_cons] at hn hN
    obtain ⟨g1, g2⟩ := ha x List.mem_cons_self
    refine RW.sq (mfld_ok ok g1 g2 (hf i (Nat.le_refl _) (by simp)) h (by omega) (by omega) (by omega) p7 p8 fun ρ1 w1 v d st1 k1 h1 G1 o1 r1 b1 s1 => ?_)
    refine mfl_ok (fl := fl) (i := i + 1) (t := t + 5) (cs := cs.set i v) ok (fun y hy => ha y (List.mem_cons_of_mem _ hy)) (fun j hj1 hj2 => hf j (by omega) (by simp only [List.length_cons]; omega)) h1 (by omega) (by omega) (by omega) (by rw [k1 7 (by omega)]; exact p7) (by rw [k1 8 (by omega)]; exact p8) ?_
    intro ρ2 w2 vs ds st2 k2 h2 G2 r2 b2 s2
    have e1 : (cs.set i v).take (i + 1) = cs.take i ++ [v] := by
      rw [List.take_add_one, List.take_set_of_le (Nat.le_refl _), List.getElem?_set_self (by rw [h.nn]; omega)]
      rfl
    rw [e1, List.append_assoc] at h2
    refine hQ ρ2 w2 (v :: vs) (d :: ds) st2 (fun s hs => (k2 s hs).trans (k1 s hs)) h2 ⟨d, ds, st1, rfl, G1, G2⟩ ⟨⟨o1, ?_⟩, r2⟩ (fun b hb h3 h4 => (b2 b (by omega) h3 h4).trans (b1 b hb h3 h4)) (by omega)
    exact r1.bound.mono (fun b hb => hb.1) (fun b hb => b2 b hb.2 hb.1.2.2 hb.1.2.1)
end
set_option linter.unusedVariables false
def JO (l : List UInt8) (s : Nat × Int) (st : Option (List UInt8)) : Prop := (s.2 = 0 ∧ s.1 ≤ l.length ∧ st = some (l.drop s.1)) ∨ (s.2 = 1 ∧ st = none) ∨ s.2 = 3
theorem Got.unmap {α β : Type} [Inhabited α] {d : Dec α} {f : α → β} {st st1 : Option (List UInt8)} {y : β} (h : Got (d.map f) st y st1) : ∃ x, Got d st x st1 ∧ (st1 ≠ none → y = f x) := by
  cases st1 with
  | none =>
    refine ⟨default, ?_, fun h => absurd rfl h⟩
    cases st with
    | none => rfl
    | some l =>
      have h' : d.map f l = none := h
      show d l = none
      unfold Dec.map at h'
      cases hd : d l with
      | none => rfl
      | some p => simp [hd] at h'
  | some r =>
    cases st with
    | none => simp [Got] at h
    | some l =>
      have h' : d.map f l = some (y, r) := h
      unfold Dec.map at h'
      cases hd : d l with
      | none => simp [hd] at h'
      | some p =>
        obtain ⟨x, r'⟩ := p
        simp only [hd, Option.map_some, Option.some.injEq, Prod.mk.injEq] at h'
        obtain ⟨rfl, rfl⟩ := h'
        exact ⟨x, hd, fun _ => rfl⟩
theorem dInt_eq {n : Nat} (l : List UInt8) : dInt n l = if n ≤ l.length then some (sgn n (beVal (l.take n)), l.drop n) else none := by
  unfold dInt dNat Dec.map takeN
  by_cases h : n ≤ l.length
  · simp only [if_pos h]
  · simp only [if_neg h]
theorem JO.fxx {l : List UInt8} {s : Nat × Int} {st st' : Option (List UInt8)} {n : Nat} {x : Int} (h : JO l s st) (hg : Got (dInt n) st x st') : JO l (fx l n s).2 st' ∧ ((fx l n s).2.2 = 0 → x = (fx l n s).1) := by
  unfold Kx.fx
  rcases h with ⟨h0, h1, rfl⟩ | ⟨h0, rfl⟩ | h0
  · rw [if_neg (by simp [h0])]
    have hd := dInt_eq (n := n) (l.drop s.1)
    rw [List.length_drop] at hd
    by_cases hlt : l.length - s.1 < n
    · rw [if_pos hlt]
      rw [if_neg (by omega)] at hd
      refine ⟨.inr (.inl ⟨rfl, ?_⟩), fun e => by simp at e⟩
      cases st' with
      | none => rfl
      | some r => have : dInt n (l.drop s.1) = some (x, r) := hg; rw [hd] at this; cases this
    · rw [if_neg hlt]
      rw [if_pos (by omega)] at hd
      cases st' with
      | none => have : dInt n (l.drop s.1) = none := hg; rw [hd] at this; cases this
      | some r =>
        have : dInt n (l.drop s.1) = some (x, r) := hg
        rw [hd] at this
        simp only [Option.some.injEq, Prod.mk.injEq] at this
        obtain ⟨rfl, rfl⟩ := this
        exact ⟨.inl ⟨rfl, by dsimp only; omega, by rw [List.drop_drop]⟩, fun _ => rfl⟩
  · rw [if_pos (by simp [h0])]
    exact ⟨.inr (.inl ⟨h0, hg.out⟩), fun e => by rw [h0] at e; cases e⟩
  · rw [if_pos (by simp [h0])]
    exact ⟨.inr (.inr h0), fun e => by rw [h0] at e; cases e⟩
theorem JO.nb {l : List UInt8} {s : Nat × Int} {st st' : Option (List UInt8)} {d : D} (h : JO l s st) (hg : Got (dP .nbyt false) st d st') :
    JO l (oc l (fx l 4 s).1 (fx l 4 s).2).2 st' ∧ ((oc l (fx l 4 s).1 (fx l 4 s).2).2.2 = 0 → d = .s (oc l (fx l 4 s).1 (fx l 4 s).2).1) := by
  have hb : ∃ x st1, Got (dInt 4) st x st1 ∧ Got (if x < 0 then Dec.pure (D.s none) else (dSpan x).map (fun l => D.s (some l))) st1 d st' := by
    cases st with
    | none => exact ⟨0, none, rfl, by rw [hg.out]; rfl⟩
    | some l0 =>
      cases hd : dInt 4 l0 with
      | none =>
        have : dP .nbyt false l0 = none := Dec.bind_none hd
        refine ⟨0, none, hd, ?_⟩
        cases st' with
        | none => rfl
        | some r => have h2 : dP .nbyt false l0 = some (d, r) := hg; rw [this] at h2; cases h2
      | some p =>
        obtain ⟨x, r⟩ := p
        have e : dP .nbyt false l0 = (if x < 0 then Dec.pure (D.s none) else (dSpan x).map (fun l => D.s (some l))) r := Dec.bind_of hd
        refine ⟨x, some r, hd, ?_⟩
        cases st' with
        | none => have h2 : dP .nbyt false l0 = none := hg; rw [e] at h2; exact h2
        | some r' => have h2 : dP .nbyt false l0 = some (d, r') := hg; rw [e] at h2; exact h2
  obtain ⟨x, st1, g1, g2⟩ := hb
  obtain ⟨j1, j2⟩ := h.fxx g1
  generalize fx l 4 s = y at j1 j2
  obtain ⟨v, a, hw⟩ := y
  dsimp only at j1 j2 ⊢
  rcases j1 with ⟨h0, h1, rfl⟩ | ⟨h0, rfl⟩ | h0
  · dsimp only at h0 h1
    subst h0
    have := j2 rfl
    subst this
    unfold oc
    by_cases hn : x = -1
    · rw [if_pos ⟨hn, rfl⟩]
      subst hn
      rw [if_pos (by omega)] at g2
      cases st' with
      | none => cases g2
      | some r =>
        have h2 : Dec.pure (D.s none) (l.drop a) = some (d, r) := g2
        simp only [Dec.pure, Option.some.injEq, Prod.mk.injEq] at h2
        obtain ⟨rfl, rfl⟩ := h2
        exact ⟨.inl ⟨rfl, h1, rfl⟩, fun _ => rfl⟩
    · rw [if_neg (fun e => hn e.1)]
      by_cases hneg : x < 0
      · rw [if_neg (by omega : ¬ (l.length : Int) < x)]
        simp only [if_pos hneg, if_true]
        refine ⟨.inr (.inr rfl), fun e => ?_⟩
        simp at e
      · simp only [if_neg hneg, if_true]
        rw [if_neg hneg] at g2
        obtain ⟨z, g3, g4⟩ := Got.unmap g2
        have hsp : dSpan x (l.drop a) = if x.toNat ≤ l.length - a then some ((l.drop a).take x.toNat, (l.drop a).drop x.toNat) else none := by
          unfold dSpan
          rw [if_neg hneg]
          unfold takeN
          rw [List.length_drop]
        by_cases hbig : (l.length : Int) < x
        · simp only [if_pos hbig]
          rw [if_pos (by omega)]
          rw [if_neg (by omega)] at hsp
          refine ⟨.inr (.inl ⟨rfl, ?_⟩), fun e => by simp at e⟩
          cases st' with
          | none => rfl
          | some r => have h2 : dSpan x (l.drop a) = some (z, r) := g3; rw [hsp] at h2; cases h2
        · simp only [if_neg hbig]
          rw [if_neg (by simp)]
          by_cases hsh : l.length - a < x.toNat
          · rw [if_pos hsh]
            rw [if_neg (by omega)] at hsp
            refine ⟨.inr (.inl ⟨rfl, ?_⟩), fun e => by simp at e⟩
            cases st' with
            | none => rfl
            | some r => have h2 : dSpan x (l.drop a) = some (z, r) := g3; rw [hsp] at h2; cases h2
          · rw [if_neg hsh]
            rw [if_pos (by omega)] at hsp
            cases st' with
            | none => have h2 : dSpan x (l.drop a) = none := g3; rw [hsp] at h2; cases h2
            | some r =>
              have h2 : dSpan x (l.drop a) = some (z, r) := g3
              rw [hsp] at h2
              simp only [Option.some.injEq, Prod.mk.injEq] at h2
              obtain ⟨rfl, rfl⟩ := h2
              refine ⟨.inl ⟨rfl, by dsimp only; omega, by rw [List.drop_drop]⟩, fun _ => ?_⟩
              exact g4 (by simp)
  · dsimp only at h0
    subst h0
    have e : st' = none := g2.out
    subst e
    refine ⟨?_, fun e => ?_⟩
    · refine .inr (.inl ⟨?_, rfl⟩)
      unfold oc
      simp
    · exfalso; revert e
      unfold oc
      simp
  · dsimp only at h0
    subst h0
    have e3 : (oc l v (a, 3)).2.2 = 3 := by
      unfold oc
      simp
    exact ⟨.inr (.inr e3), fun e => by rw [e3] at e; cases e⟩
def ksOf (v1 : Bool) : List PK := if v1 then [.i64, .i32, .i32, .i8, .i8, .i64, .nbyt, .nbyt] else [.i64, .i32, .i32, .i8, .i8, .nbyt, .nbyt]
def toDs (v1 : Bool) (o : OldD) : List D := [.n o.off, .n o.size, .n o.crc, .n o.magic, .n o.attr] ++ (if v1 then [.n o.time] else []) ++ [.s o.key, .s o.val]
theorem fx_range {l : List UInt8} {n : Nat} (hn : n = 1 ∨ n = 4) (s : Nat × Int) : -((256 ^ n / 2 : Nat) : Int) ≤ (fx l n s).1 ∧ (fx l n s).1 < ((256 ^ n / 2 : Nat) : Int) := by
  unfold fx
  split
  · rcases hn with rfl | rfl <;> simp
  · split
    · rcases hn with rfl | rfl <;> simp
    · simp only
      have h := beVal_lt ((l.drop s.1).take n)
      have h2 : ((l.drop s.1).take n).length ≤ n := by rw [List.length_take]; omega
      have h3 : 256 ^ ((l.drop s.1).take n).length ≤ 256 ^ n := Nat.pow_le_pow_right (by omega) h2
      unfold sgn
      rcases hn with rfl | rfl <;> simp only [Nat.reducePow, Nat.reduceDiv] at * <;> split <;> omega
theorem JO.int {l : List UInt8} {s : Nat × Int} {st st' : Option (List UInt8)} {n : Nat} {d : D} (h : JO l s st) (hg : Got ((dInt n).map D.n) st d st') : JO l (fx l n s).2 st' ∧ ((fx l n s).2.2 = 0 → d = .n (fx l n s).1) := by
  obtain ⟨x, h1, h2⟩ := Got.unmap hg
  obtain ⟨j1, j2⟩ := h.fxx h1
  refine ⟨j1, fun e => ?_⟩
  have hne : st' ≠ none := by
    rcases j1 with ⟨_, _, rfl⟩ | ⟨h0, _⟩ | h0
    · simp
    · rw [h0] at e; cases e
    · rw [h0] at e; cases e
  rw [h2 hne, j2 e]
theorem wrap_i32' {n : Int} (h1 : -2147483648 ≤ n) (h2 : n < 2147483648) : IntKind.i32.wrap n = n := by
  simp [IntKind.wrap, IntKind.signed, IntKind.bits]; omega
theorem wrap_i8' {n : Int} (h1 : -128 ≤ n) (h2 : n < 128) : IntKind.i8.wrap n = n := by
  simp [IntKind.wrap, IntKind.signed, IntKind.bits]; omega
theorem fx_bad {l : List UInt8} {n : Nat} {s : Nat × Int} (h : (fx l n s).2.2 = 0) : s.2 = 0 := by
  unfold fx at h
  split at h
  · exact h
  · rename_i e; simpa using e
theorem oc_bad {l : List UInt8} {n : Int} {s : Nat × Int} (h : (oc l n s).2.2 = 0) : s.2 = 0 := by
  unfold oc at h
  split at h
  · rename_i e; exact e.2
  · by_cases e : s.2 = 0
    · exact e
    · exfalso
      revert h
      simp [e]
theorem old_plain (v1 : Bool) {l : List UInt8} {ds : List D} {st : Option (List UInt8)} (h : GotM (ksOf v1) (some l) ds st) :
    ((roM v1 l).2.2 = 0 ∧ st ≠ none ∧ ds = toDs v1 (roM v1 l).1) ∨ ((roM v1 l).2.2 = 1 ∧ st = none) ∨ (roM v1 l).2.2 = 3 := by
  have j0 : JO l (0, 0) (some l) := .inl ⟨rfl, Nat.zero_le _, rfl⟩
  have fin : ∀ {s : Nat × Int} {p : Prop}, JO l s st → (s.2 = 0 → p) → (s.2 = 0 ∧ st ≠ none ∧ p) ∨ (s.2 = 1 ∧ st = none) ∨ s.2 = 3 := by
    intro s p hj hp
    rcases hj with ⟨h0, _, rfl⟩ | h1 | h3
    · exact .inl ⟨h0, by simp, hp h0⟩
    · exact .inr (.inl h1)
    · exact .inr (.inr h3)
  have r32 : ∀ s, IntKind.i32.wrap (fx l 4 s).1 = (fx l 4 s).1 := fun s => by
    have := fx_range (l := l) (n := 4) (.inr rfl) s
    simp only [Nat.reducePow, Nat.reduceDiv] at this
    exact wrap_i32' this.1 this.2
  have r8 : ∀ s, IntKind.i8.wrap (fx l 1 s).1 = (fx l 1 s).1 := fun s => by
    have := fx_range (l := l) (n := 1) (.inl rfl) s
    simp only [Nat.reducePow, Nat.reduceDiv] at this
    exact wrap_i8' this.1 this.2
  cases v1
  · simp only [ksOf, GotM, Bool.false_eq_true, if_false] at h
    obtain ⟨d1, _, s1, rfl, g1, d2, _, s2, rfl, g2, d3, _, s3, rfl, g3, d4, _, s4, rfl, g4, d5, _, s5, rfl, g5, d6, _, s6, rfl, g6, d7, _, s7, rfl, g7, rfl, rfl⟩ := h
    obtain ⟨j1, e1⟩ := j0.int (n := 8) g1
    obtain ⟨j2, e2⟩ := j1.int (n := 4) g2
    obtain ⟨j3, e3⟩ := j2.int (n := 4) g3
    obtain ⟨j4, e4⟩ := j3.int (n := 1) g4
    obtain ⟨j5, e5⟩ := j4.int (n := 1) g5
    obtain ⟨j6, e6⟩ := j5.nb g6
    obtain ⟨j7, e7⟩ := j6.nb g7
    refine fin j7 fun h7 => ?_
    have h6 := fx_bad (oc_bad h7)
    have h5 := fx_bad (oc_bad h6)
    have h4 := fx_bad h5
    have h3 := fx_bad h4
    have h2 := fx_bad h3
    have h1 := fx_bad h2
    rw [e1 h1, e2 h2, e3 h3, e4 h4, e5 h5, e6 h6, e7 h7]
    simp only [toDs, roM, Bool.false_eq_true, if_false, r32, r8, List.append_nil]
    rfl
  · simp only [ksOf, GotM, if_true] at h
    obtain ⟨d1, _, s1, rfl, g1, d2, _, s2, rfl, g2, d3, _, s3, rfl, g3, d4, _, s4, rfl, g4, d5, _, s5, rfl, g5, d8, _, s8, rfl, g8, d6, _, s6, rfl, g6, d7, _, s7, rfl, g7, rfl, rfl⟩ := h
    obtain ⟨j1, e1⟩ := j0.int (n := 8) g1
    obtain ⟨j2, e2⟩ := j1.int (n := 4) g2
    obtain ⟨j3, e3⟩ := j2.int (n := 4) g3
    obtain ⟨j4, e4⟩ := j3.int (n := 1) g4
    obtain ⟨j5, e5⟩ := j4.int (n := 1) g5
    obtain ⟨j8, e8⟩ := j5.int (n := 8) g8
    obtain ⟨j6, e6⟩ := j8.nb g6
    obtain ⟨j7, e7⟩ := j6.nb g7
    refine fin j7 fun h7 => ?_
    have h6 := fx_bad (oc_bad h7)
    have h8 := fx_bad (oc_bad h6)
    have h5 := fx_bad h8
    have h4 := fx_bad h5
    have h3 := fx_bad h4
    have h2 := fx_bad h3
    have h1 := fx_bad h2
    rw [e1 h1, e2 h2, e3 h3, e4 h4, e5 h5, e6 h6, e7 h7, e8 h8]
    simp only [toDs, roM, if_true, r32, r8]
    rfl
structure MN where
  T : Nat
  fl : List (PK × Nat)
  fDef : Nat
  fRd : Nat
  fRF : Nat
def cMRead (R : RN) (M : MN) : MCode :=
  let k := 9 + M.fl.length
  let e := k + 5 + 5 * M.fl.length
  .sq (.rg [.mv 6 (.c .niface)]) (.sq (.rg [.mv k (.t 0), .ca (k + 1) M.fDef [.t k]]) (.sq (.rg [.mv (k + 2) (.t 1), .bdl (k + 3) R.tR [(0, .t (k + 2))], .al 7 R.tR, .st R.tR 7 (k + 3)]) (.sq (.rg [.mv (k + 4) (.t 0), .mv 8 (.t (k + 4))])
    (mfl R M.T M.fl 0 (k + 5) (.sq (.rg [.ca e R.compl [.t 7], .mv 6 (.t e)]) .rt)))))
structure MMK (P : Program) (R : RN) (M : MN) : Prop where
  ok : MOK P R
  fl : ∀ x ∈ M.fl, msgK x.1 = true ∧ cellsB P x.2 1 = true
  at_ : ∀ j, j < M.fl.length → fieldAtB P M.T j j = true
  rz : zeroAgg P R.tR [.slice none 0 0, .bool false]
  rp : plcB P R.tR 2 = true
  rc : cellsB P R.tR 2 = true
  df : FnIs0 P M.fDef .sk 2
def MReadC (P : Program) (R : RN) (M : MN) (f : Nat) (more : List Value) : Prop := entersB P f = true ∧ ∀ (w : World) (q sb : Nat) (ad : Option Addr) (l : List UInt8) (c : Nat) (z : List Value) (ev : Value), q < w.heap.size → sb < w.heap.size → sb ≠ q → z.length = M.fl.length →
  w.rangeAt q 0 z → w.there q 0 M.fl.length → okAd ad → l.length ≤ c → BytesAt w (· = sb) ad l → w.cell? ⟨R.gErr, 0, none⟩ = some ev → R.gErr ≠ q →
  Calls P f (.pointer (some ⟨q, 0, none⟩) :: .slice ad l.length c :: more).toArray w (fun e w' => ∃ cs ds st, GotM (M.fl.map (·.1)) (some l) ds st ∧ e = .returned (complV ev st) ∧ Fr (fun _ => False) q 0 M.fl.length w w' ∧ w'.rangeAt q 0 cs ∧ RepOs w' (fun b => b = sb ∨ w.heap.size ≤ b) (M.fl.map (·.1)) cs ds)
section
variable {P : Program} {N : Nat} {Q : Exit → (Nat → Value) → World → Prop} {ρ : Nat → Value} {w0 w w' : World} {ms : List MOp} {R : RN} {M : MN}
theorem RepOs.wide {w : World} {F F' : Nat → Prop} (hF : ∀ b, F b → F' b) : ∀ {ks : List PK} {vs : List Value} {ds : List D}, RepOs w F ks vs ds → RepOs w F' ks vs ds
  | [], [], [], _ => trivial
  | k :: ks, v :: vs, d :: ds, h => ⟨⟨h.1.1, h.1.2.mono hF (fun _ _ => rfl)⟩, RepOs.wide hF h.2⟩
  | [], _ :: _, _, h => h.elim
  | [], [], _ :: _, h => h.elim
  | _ :: _, [], _, h => h.elim
  | _ :: _, _ :: _, [], h => h.elim
theorem mread_ok (ok : MMK P R M) (hf : FnIs P M.fRd (cMRead R M) (9 + M.fl.length + 5 + 5 * M.fl.length + 1) 6) : MReadC P R M M.fRd [.bool false] := by
  refine ⟨hf.ent, fun w q sb ad l c z ev hq hsb hne hz hr ht had hlc hby hev hgq => ?_⟩
  refine hf.runs (args := [.pointer (some ⟨q, 0, none⟩), .slice ad l.length c, .bool false]) (by simp; omega) (by omega) ?_
  generalize hn : M.fl.length = n at *
  generalize hNN : 9 + n + 5 + 5 * n + 1 = NN
  unfold cMRead
  simp only [hn]
  have gR : R.gErr < w.heap.size := World.block_lt_of_cell? w _ hev
  refine RW.sq (RW.rg (RL.step (MR.mv (v := .nilIface) rfl) (RL.nil ?_) (by omega)))
  refine RW.sq (RW.rg (RL.step (MR.mv (v := .pointer (some ⟨q, 0, none⟩)) (by show upd _ _ _ 0 = _; rw [upd_ne _ _ (by omega)]; rfl) (ltT (by omega))) (RL.ca (R := fun _ w' => w' = w) ok.df.ent ?_ ?_ (by omega) (by intro x hx; simp only [List.mem_singleton] at hx; subst hx; exact ltT (by omega))) (by omega)))
  · simp only [List.map_cons, List.map_nil, xof]
    exact ok.df.runs (by simp) (RW.sk ⟨_, rfl, rfl⟩)
  rintro v w1 rfl
  refine RL.nil ?_
  refine RW.sq (RW.rg (RL.step (MR.mv (v := .slice ad l.length c) (by show upd _ _ _ 1 = _; rw [upd_ne _ _ (by omega), upd_ne _ _ (by omega), upd_ne _ _ (by omega)]; rfl) (ltT (by omega)))
    (RL.step (MR.bdl (w' := w1) (v := .agg #[.slice ad l.length c, .bool false]) ?_ (by intro p hp; simp only [List.mem_singleton] at hp; subst hp; exact ltT (by omega))) ?_ (by omega)) (by omega)))
  · simp only [List.map_cons, List.map_nil, xof]
    rw [upd_same]
    exact built_of (z := [.slice none 0 0, .bool false]) (parts := [(0, .slice ad l.length c)]) (cells := [.slice ad l.length c, .bool false]) ok.rz ok.rp (by simp [Value.cells]) rfl w1
  refine RL.alst (n := 2) (z := [.slice none 0 0, .bool false]) (cs := [.slice ad l.length c, .bool false]) ok.rz (upd_same _ _ _) (by omega) rfl rfl ok.rc rfl (fun w2 B2 S2 R2 T2 => ?_) (by omega) (by omega)
  have hrd : RdAt w2 w1.heap.size sb (some l) := ⟨ad, c, R2, T2, had, hlc, hby.mono (fun _ h => h) (fun b hb => by rw [hb]; exact B2.block sb hsb)⟩
  have hq2 := B2.block q hq
  have hM : MsS w1 w2 q w1.heap.size sb n z (some l) := ⟨range_keep hr hq2, hz, there_keep ht hq2, hrd, Fr.ofBelow B2 hq, hq, hsb, Nat.le_refl _, hne⟩
  refine RL.nil (RW.sq (RW.rg (RL.step (MR.mv (v := .pointer (some ⟨q, 0, none⟩)) (by show upd _ _ _ 0 = _; rw [upd_ne _ _ (by omega), upd_ne _ _ (by omega), upd_ne _ _ (by omega), upd_ne _ _ (by omega), upd_ne _ _ (by omega), upd_ne _ _ (by omega)]; rfl) (ltT (by omega))) (RL.step (MR.mv (upd_same _ _ _) (ltT (by omega))) (RL.nil ?_) (by omega)) (by omega))))
  refine mfl_ok (fl := M.fl) (i := 0) (cs := z) ok.ok ok.fl (fun j _ hj => ok.at_ j (by omega)) hM (by omega) (by omega) (by omega) (by rw [upd_ne _ _ (by omega), upd_ne _ _ (by omega), upd_same]) (upd_same _ _ _) ?_
  intro ρ' w3 vs ds st' k3 h3 g3 r3 b3 s3
  rw [List.take_zero, List.nil_append] at h3
  have hev3 : w3.cell? ⟨R.gErr, 0, none⟩ = some ev := by
    rw [cell_of_heap (w := w1) (a := ⟨R.gErr, 0, none⟩) (h3.fr.block R.gErr gR hgq (fun x => x))]; exact hev
  have p7 : ρ' 7 = .pointer (some ⟨w1.heap.size, 0, none⟩) := by rw [k3 7 (by omega), upd_ne _ _ (by omega), upd_ne _ _ (by omega), upd_same]
  refine RW.sq (RW.rg (RL.ca (R := fun u w' => u = complV ev st' ∧ w' = w3) ok.ok.compl.1 ?_ ?_ (by omega) (by intro x hx; simp only [List.mem_singleton] at hx; subst hx; exact ltT (by omega))))
  · simp only [List.map_cons, List.map_nil, xof, p7]
    refine Calls.mono (ok.ok.compl.2 w3 _ _ _ ev h3.rd hev3) ?_
    rintro e w' ⟨rfl, rfl⟩
    exact ⟨_, rfl, rfl, rfl⟩
  rintro u w4 ⟨rfl, rfl⟩
  refine RL.step (MR.mv (upd_same _ _ _) (ltT (by omega))) (RL.nil (RW.rt ?_)) (by omega)
  refine ⟨vs, ds, st', g3, by show Ending.returned (upd _ 6 _ 6) = _; rw [upd_same], h3.fr, h3.r, r3.wide fun b hb => hb.1⟩
def cMRF (M : MN) : MCode := .sq (.rg [.mv 4 (.c .niface)]) (.sq (.rg [.mv 5 (.t 0), .mv 6 (.t 1), .ca 7 M.fRd [.t 5, .t 6, .c (.bool false)], .mv 4 (.t 7)]) .rt)
theorem mrf_ok (h : MReadC P R M M.fRd [.bool false]) (hf : FnIs P M.fRF (cMRF M) 8 4) : MReadC P R M M.fRF [] := by
  refine ⟨hf.ent, fun w q sb ad l c z ev hq hsb hne hz hr ht had hlc hby hev hgq => ?_⟩
  refine hf.runs (args := [.pointer (some ⟨q, 0, none⟩), .slice ad l.length c]) (by simp) (by omega) ?_
  refine RW.sq (RW.rg (RL.step MR.mv (RL.nil (RW.sq (RW.rg (RL.step (MR.mv (v := .pointer (some ⟨q, 0, none⟩)) rfl) (RL.step (MR.mv (v := .slice ad l.length c) rfl) (RL.ca (R := fun u w' => ∃ cs ds st, GotM (M.fl.map (·.1)) (some l) ds st ∧ u = complV ev st ∧ Fr (fun _ => False) q 0 M.fl.length w w' ∧ w'.rangeAt q 0 cs ∧ RepOs w' (fun b => b = sb ∨ w.heap.size ≤ b) (M.fl.map (·.1)) cs ds) h.1 ?_ ?_))))))))
  · refine Calls.mono (h.2 w q sb ad l c z ev hq hsb hne hz hr ht had hlc hby hev hgq) ?_
    rintro e w' ⟨cs, ds, st, g1, rfl, g2⟩
    exact ⟨_, rfl, cs, ds, st, g1, rfl, g2⟩
  rintro u w' ⟨cs, ds, st, g1, rfl, g2⟩
  refine RL.step MR.mv (RL.nil (RW.rt ?_))
  exact ⟨cs, ds, st, g1, rfl, g2⟩
end
set_option linter.unusedVariables false
def zOldM : List MVal := [.int .i64 0, .int .i32 0, .int .i32 0, .int .i8 0, .int .i8 0, .int .i64 0, .bool false, .nslice, .bool false, .nslice]
def plOld : List (Nat × Nat) := [(0, 1), (1, 1), (2, 1), (3, 1), (4, 1), (5, 1), (6, 2), (8, 2)]
structure TLK (P : Program) (K : TK) (R : RN) (O : ON) (M : MN) (z : List MVal) : Prop where
  tk : TKK P K
  row : look K.rows O.tOld = some (zOldM, plOld)
  m : MMK P R M
  rf : MReadC P R M M.fRF []
  own : OwnC P O.T.u8 O.fOwn
  oc : OcsC P O.fOcts
  mz : zeroAgg P M.T (z.map MVal.val)
  zl : z.length = M.fl.length
  mo : P.follows .mixedOrders = true
  ie : ifaceTy P R.tErr = true
  p64 : plainTy P O.T.i64 = true
  p32 : plainTy P O.T.i32 = true
  p8 : plainTy P O.T.i8 = true
  ps : plainTy P O.T.u8s = true
  n7 : M.fl.length ≤ 8
section
variable {P : Program} {N : Nat} {Q : Exit → (Nat → Value) → World → Prop} {ρ : Nat → Value} {w0 w w' : World} {ms : List MOp} {R : RN} {M : MN} {O : ON} {K : TK} {z : List MVal} {r q : Nat}
theorem oct_call {S : World → Prop} {gs : List GOp} {i d x : Nat} {ad : Option Addr} {l : List UInt8} {c : Nat} (hoc : OcsC P O.fOcts) (hb : BytesAt w (fun _ => True) ad l) (hl : l.length ≤ 1000000000) (hx : ρ x = .slice ad l.length c) (hxN : x < N) (hd : d < N) (hS : S w)
    (hSS : ∀ w', Below w.heap.size w w' → S w')
    (h : ∀ ad' c' w', Below w.heap.size w w' → okA (((if ad.isNone then none else some l) : Option (List UInt8)).getD []).length ad' → (((if ad.isNone then none else some l) : Option (List UInt8)).getD []).length ≤ c' → BytesAt w' (fun k => w.heap.size ≤ k ∧ k < w'.heap.size) ad' (((if ad.isNone then none else some l) : Option (List UInt8)).getD []) →
      RG P N gs Q S (upd ρ d (.agg #[.bool ((if ad.isNone then none else some l) : Option (List UInt8)).isNone, .slice ad' (((if ad.isNone then none else some l) : Option (List UInt8)).getD []).length c'])) w') : RG P N (⟨i, none, .ca d O.fOcts [.t x]⟩ :: gs) Q S ρ w := by
  refine RG.ca (R := fun v w' => Below w.heap.size w w' ∧ OctV w' (fun k => w.heap.size ≤ k ∧ k < w'.heap.size) v (if ad.isNone then none else some l)) hoc.1 (fun _ => ?_) ?_ rfl hd (by intro y hy; simp only [List.mem_singleton] at hy; subst hy; exact ltT hxN)
  · simp only [List.map_cons, List.map_nil, xof, hx]
    refine Calls.mono (hoc.2 w ad l c hb hl) ?_
    rintro e w' ⟨g1, v, rfl, g2⟩
    exact ⟨v, rfl, ⟨g1, g2⟩, hSS w' g1⟩
  · rintro v w' ⟨g1, ad', c', rfl, g2, g3, g4⟩
    exact h ad' c' w' g1 g2 g3 g4
theorem RepOs.uncons {w : World} {F : Nat → Prop} {k : PK} {ks : List PK} {cs : List Value} {ds : List D} (h : RepOs w F (k :: ks) cs ds) : ∃ v vs d ds', cs = v :: vs ∧ ds = d :: ds' ∧ RepP w F k [v] d ∧ RepOs w F ks vs ds' := by
  match cs, ds, h with
  | v :: vs, d :: ds, h => exact ⟨v, vs, d, ds, rfl, rfl, h.1.2, h.2⟩
theorem RepOs.none_ {w : World} {F : Nat → Prop} {cs : List Value} {ds : List D} (h : RepOs w F [] cs ds) : cs = [] ∧ ds = [] := by
  match cs, ds, h with
  | [], [], _ => exact ⟨rfl, rfl⟩
theorem fill0 (a0 a1 a2 a3 a4 : Int) (x y x' y' : Value) : Instr.fill (plOld.toArray[·]?) (zOldM.map MVal.val).toArray [(0, .int .i64 a0), (1, .int .i32 a1), (2, .int .i32 a2), (3, .int .i8 a3), (4, .int .i8 a4), (6, .agg #[x, y]), (7, .agg #[x', y'])] = some [.int .i64 a0, .int .i32 a1, .int .i32 a2, .int .i8 a3, .int .i8 a4, .int .i64 0, x, y, x', y'].toArray := by
  simp [Instr.fill, plOld, zOldM, Value.cells, MVal.val]
theorem fill1 (a0 a1 a2 a3 a4 a5 : Int) (x y x' y' : Value) : Instr.fill (plOld.toArray[·]?) (zOldM.map MVal.val).toArray [(0, .int .i64 a0), (1, .int .i32 a1), (2, .int .i32 a2), (3, .int .i8 a3), (4, .int .i8 a4), (5, .int .i64 a5), (6, .agg #[x, y]), (7, .agg #[x', y'])] = some [.int .i64 a0, .int .i32 a1, .int .i32 a2, .int .i8 a3, .int .i8 a4, .int .i64 a5, x, y, x', y'].toArray := by
  simp [Instr.fill, plOld, zOldM, Value.cells, MVal.val]
theorem nb_oct {w : World} {F : Nat → Prop} {v : Value} {d : D} (h : RepP w F .nbyt [v] d) : ∃ ad l c, v = .slice ad (List.length l) c ∧ BytesAt w F ad l ∧ d = .s (if ad.isNone then none else some l) := by
  rcases h with ⟨h1, rfl⟩ | ⟨ad, c, l, h1, h2, rfl⟩
  · simp only [List.cons.injEq, and_true] at h1
    exact ⟨none, [], 0, h1, fun j b hj => by simp at hj, rfl⟩
  · simp only [List.cons.injEq, and_true] at h1
    exact ⟨some ad, l, c, h1, h2, rfl⟩
def tellG0 (M : MN) (O : ON) : List GOp := [⟨0, none, .fa 10 M.T 4 0⟩, ⟨1, none, .ld 11 O.T.i64 10⟩, ⟨2, none, .fa 12 M.T 4 1⟩, ⟨3, none, .ld 13 O.T.i32 12⟩, ⟨4, none, .fa 14 M.T 4 2⟩, ⟨5, none, .ld 15 O.T.i32 14⟩, ⟨6, none, .fa 16 M.T 4 3⟩, ⟨7, none, .ld 17 O.T.i8 16⟩, ⟨8, none, .fa 18 M.T 4 4⟩, ⟨9, none, .ld 19 O.T.i8 18⟩, ⟨10, none, .fa 20 M.T 4 5⟩, ⟨11, none, .ld 21 O.T.u8s 20⟩, ⟨13, none, .fa 23 M.T 4 6⟩, ⟨14, none, .ld 24 O.T.u8s 23⟩, ⟨12, none, .ca 22 O.fOcts [.t 21]⟩, ⟨15, none, .ca 25 O.fOcts [.t 24]⟩, ⟨16, none, .bdl 26 O.tOld [(0, .t 11), (1, .t 13), (2, .t 15), (3, .t 17), (4, .t 19), (6, .t 22), (7, .t 25)]⟩, ⟨17, none, .st O.tOld 2 26⟩, ⟨18, none, .mv 3 (.c (.bool true))⟩]
theorem tellG0_ok (ok : TLK P K R O M z) {cs : List Value} {ds : List D} {st : Option (List UInt8)} {l : List UInt8} (hk : M.fl.map (·.1) = ksOf false) (hr : w.rangeAt q 0 cs) (hp : RepOs w (fun _ => True) (ksOf false) cs ds) (hbd : ∀ l', D.s (some l') ∈ ds → l'.length ≤ 1000000000)
    (ht : w.there r 0 10) (hrq : q ≠ r) (hqw : q < w.heap.size) (hrw : r < w.heap.size) (p2 : ρ 2 = .pointer (some ⟨r, 0, none⟩)) (p4 : ρ 4 = .pointer (some ⟨q, 0, none⟩))
    (hQ : ∀ ρ' w' cs' o, ρ' 2 = .pointer (some ⟨r, 0, none⟩) → ρ' 3 = .bool true → w'.rangeAt r 0 cs' → cs'.length = 10 → OldW w' (fun k => w.heap.size ≤ k) o cs' → ds = toDs false o → (false = false → o.time = 0) → Fr (fun _ => False) r 0 10 w w' → Q .normal ρ' w') : RW P 27 (.gr true (tellG0 M O)) Q ρ w := by
  have hfl : M.fl.length = 7 := by have := congrArg List.length hk; simpa [ksOf] using this
  have hf : ∀ j, j < 7 → fieldAtB P M.T j j = true := fun j hj => ok.m.at_ j (by omega)
  simp only [ksOf, Bool.false_eq_true, if_false, if_true] at hp
  obtain ⟨v0, cs, d0, ds, rfl, rfl, r0, hp⟩ := hp.uncons
  obtain ⟨v1, cs, d1, ds, rfl, rfl, r1, hp⟩ := hp.uncons
  obtain ⟨v2, cs, d2, ds, rfl, rfl, r2, hp⟩ := hp.uncons
  obtain ⟨v3, cs, d3, ds, rfl, rfl, r3, hp⟩ := hp.uncons
  obtain ⟨v4, cs, d4, ds, rfl, rfl, r4, hp⟩ := hp.uncons
  obtain ⟨v5, cs, d5, ds, rfl, rfl, r5, hp⟩ := hp.uncons
  obtain ⟨v6, cs, d6, ds, rfl, rfl, r6, hp⟩ := hp.uncons
  obtain ⟨rfl, rfl⟩ := hp.none_
  obtain ⟨a0, e0, rfl, _⟩ := r0
  simp only [List.cons.injEq, and_true] at e0
  subst e0
  obtain ⟨a1, e1, rfl, _⟩ := r1
  simp only [List.cons.injEq, and_true] at e1
  subst e1
  obtain ⟨a2, e2, rfl, _⟩ := r2
  simp only [List.cons.injEq, and_true] at e2
  subst e2
  obtain ⟨a3, e3, rfl, _⟩ := r3
  simp only [List.cons.injEq, and_true] at e3
  subst e3
  obtain ⟨a4, e4, rfl, _⟩ := r4
  simp only [List.cons.injEq, and_true] at e4
  subst e4
  obtain ⟨ad1, l1, c1, rfl, b1, rfl⟩ := nb_oct r5
  obtain ⟨ad2, l2, c2, rfl, b2, rfl⟩ := nb_oct r6
  have hl1 : ad1 = none ∧ l1 = [] ∨ l1.length ≤ 1000000000 := by
    cases ad1 with
    | none => exact .inl ⟨rfl, by cases l1 with | nil => rfl | cons y l1 => (obtain ⟨g, o, e, _⟩ := b1 0 y rfl; cases e)⟩
    | some a => exact .inr (hbd l1 (by simp))
  have hl2 : ad2 = none ∧ l2 = [] ∨ l2.length ≤ 1000000000 := by
    cases ad2 with
    | none => exact .inl ⟨rfl, by cases l2 with | nil => rfl | cons y l2 => (obtain ⟨g, o, e, _⟩ := b2 0 y rfl; cases e)⟩
    | some a => exact .inr (hbd l2 (by simp))
  have hl1' : l1.length ≤ 1000000000 := by rcases hl1 with ⟨_, rfl⟩ | h; exact Nat.zero_le _; exact h
  have hl2' : l2.length ≤ 1000000000 := by rcases hl2 with ⟨_, rfl⟩ | h; exact Nat.zero_le _; exact h
  have F0 : Fr (fun _ => False) r 0 10 w (World.drew1 w) := fr_drew1 _ _ _ _ _
  refine RW.knows [(2, .pointer (some ⟨r, 0, none⟩)), (4, .pointer (some ⟨q, 0, none⟩))] (by simp [p2, p4]) (RW.gd ok.mo (Fr (fun _ => False) r 0 10 w) F0 ?_)
  unfold tellG0
  have hld : ∀ {w' : World} {j : Nat} {v : Value}, Fr (fun _ => False) r 0 10 w w' → [Value.int .i64 a0, Value.int .i32 a1, Value.int .i32 a2, Value.int .i8 a3, Value.int .i8 a4, .slice ad1 l1.length c1, .slice ad2 l2.length c2][j]? = some v → w'.cell? ⟨q, 0 + j, none⟩ = some v := fun hS hj => by
    rw [cell_of_heap (w := w) (a := ⟨q, 0 + _, none⟩) (hS.block q hqw hrq (fun x => x))]; exact hr _ _ hj
  refine RG.q (fun w' hS => MR.fa (b := q) (o := 0) rfl (hf 0 (by omega))) ?_
  refine RG.q (fun w' hS => MR.ld rfl ok.p64 (hld (j := 0) hS rfl)) ?_
  refine RG.q (fun w' hS => MR.fa (b := q) (o := 0) rfl (hf 1 (by omega))) ?_
  refine RG.q (fun w' hS => MR.ld rfl ok.p32 (hld (j := 1) hS rfl)) ?_
  refine RG.q (fun w' hS => MR.fa (b := q) (o := 0) rfl (hf 2 (by omega))) ?_
  refine RG.q (fun w' hS => MR.ld rfl ok.p32 (hld (j := 2) hS rfl)) ?_
  refine RG.q (fun w' hS => MR.fa (b := q) (o := 0) rfl (hf 3 (by omega))) ?_
  refine RG.q (fun w' hS => MR.ld rfl ok.p8 (hld (j := 3) hS rfl)) ?_
  refine RG.q (fun w' hS => MR.fa (b := q) (o := 0) rfl (hf 4 (by omega))) ?_
  refine RG.q (fun w' hS => MR.ld rfl ok.p8 (hld (j := 4) hS rfl)) ?_
  refine RG.q (fun w' hS => MR.fa (b := q) (o := 0) rfl (hf 5 (by omega))) ?_
  refine RG.q (fun w' hS => MR.ld rfl ok.ps (hld (j := 5) hS rfl)) ?_
  refine RG.q (fun w' hS => MR.fa (b := q) (o := 0) rfl (hf 6 (by omega))) ?_
  refine RG.q (fun w' hS => MR.ld rfl ok.ps (hld (j := 6) hS rfl)) ?_
  refine oct_call (ad := ad1) (l := l1) (c := c1) ok.oc (b1.kp (fun p v h => h)) hl1' rfl (by omega) (by omega) F0 (fun w' hb => F0.trans (Fr.ofBelow hb hrw)) ?_
  intro ad1' c1' w1 B1 oa1 lc1 by1
  have F1 : Fr (fun _ => False) r 0 10 w w1 := F0.trans (Fr.ofBelow B1 hrw)
  have by2 : BytesAt w1 (fun _ => True) ad2 l2 := (b2.kp (w' := World.drew1 w) (fun p v h => h)).kp B1.kp
  have s1 := B1.size
  have hrw1 : r < w1.heap.size := by have : (World.drew1 w).heap.size = w.heap.size := rfl; omega
  refine oct_call (ad := ad2) (l := l2) (c := c2) ok.oc by2 hl2' rfl (by omega) (by omega) F1 (fun w' hb => F1.trans (Fr.ofBelow hb hrw1)) ?_
  intro ad2' c2' w2 B2 oa2 lc2 by3
  have F2 : Fr (fun _ => False) r 0 10 w w2 := F1.trans (Fr.ofBelow B2 hrw1)
  have s2 := B2.size
  generalize ho1 : ((if ad1.isNone then none else some l1) : Option (List UInt8)) = o1 at *
  generalize ho2 : ((if ad2.isNone then none else some l2) : Option (List UInt8)) = o2 at *
  refine RG.x (w' := w2) (v := .agg [.int .i64 a0, .int .i32 a1, .int .i32 a2, .int .i8 a3, .int .i8 a4, .int .i64 0, .bool o1.isNone, .slice ad1' (o1.getD []).length c1', .bool o2.isNone, .slice ad2' (o2.getD []).length c2'].toArray) (MR.bdl (by
    simp only [List.map_cons, List.map_nil, xof]
    (repeat (first | rw [upd_same] | rw [upd_ne _ _ (by omega)]))
    exact built_any (parts := [(0, .int .i64 a0), (1, .int .i32 a1), (2, .int .i32 a2), (3, .int .i8 a3), (4, .int .i8 a4), (6, .agg #[.bool o1.isNone, .slice ad1' (o1.getD []).length c1']), (7, .agg #[.bool o2.isNone, .slice ad2' (o2.getD []).length c2'])]) ok.tk ok.row (fill0 ..) w2)) (fun h => h) ?_
  have T2 : w2.there r 0 10 := F2.there _ _ ht
  have hst := run_storeAt_any (P := P) (w := w2) (ty := O.tOld) (b := r) (o := 0) (v := .agg [.int .i64 a0, .int .i32 a1, .int .i32 a2, .int .i8 a3, .int .i8 a4, .int .i64 0, .bool o1.isNone, .slice ad1' (o1.getD []).length c1', .bool o2.isNone, .slice ad2' (o2.getD []).length c2'].toArray) (ok.tk.rows ok.row).2.1 T2 (by simp [Value.cells, Value.oneCell'])
  refine RG.st hst (fun hS => F2.trans (Fr.put _ (Nat.le_refl _) (by simp [Value.cells]))) ?_
  refine RG.q (fun _ _ => MR.mv (v := .bool true) rfl) (RG.nil fun hS => ?_)
  refine hQ _ _ [.int .i64 a0, .int .i32 a1, .int .i32 a2, .int .i8 a3, .int .i8 a4, .int .i64 0, .bool o1.isNone, .slice ad1' (o1.getD []).length c1', .bool o2.isNone, .slice ad2' (o2.getD []).length c2'] ⟨a0, a1, a2, a3, a4, 0, o1, o2⟩ rfl rfl (World.rangeAt_setCells_same w2 r 0 _ T2) rfl ?_ rfl (fun _ => rfl) hS
  refine ⟨[.bool o1.isNone, .slice ad1' (o1.getD []).length c1'], [.bool o2.isNone, .slice ad2' (o2.getD []).length c2'], ⟨ad1', c1', rfl, oa1, lc1, ?_⟩, ⟨ad2', c2', rfl, oa2, lc2, ?_⟩, rfl⟩
  · refine by1.mono (F' := fun k => w.heap.size ≤ k) (fun k hk => hk.1) (fun k hk => ?_)
    rw [setCells_other r _ _ _ k (by have h1 : w.heap.size ≤ k := hk.1; omega), B2.block k hk.2]
  · refine by3.mono (F' := fun k => w.heap.size ≤ k) (fun k hk => by have h1 : w1.heap.size ≤ k := hk.1; have : (World.drew1 w).heap.size = w.heap.size := rfl; omega) (fun k hk => ?_)
    exact setCells_other r _ _ _ k (by have h1 : w1.heap.size ≤ k := hk.1; omega)
def tellG1 (M : MN) (O : ON) : List GOp := [⟨0, none, .fa 10 M.T 4 0⟩, ⟨1, none, .ld 11 O.T.i64 10⟩, ⟨2, none, .fa 12 M.T 4 1⟩, ⟨3, none, .ld 13 O.T.i32 12⟩, ⟨4, none, .fa 14 M.T 4 2⟩, ⟨5, none, .ld 15 O.T.i32 14⟩, ⟨6, none, .fa 16 M.T 4 3⟩, ⟨7, none, .ld 17 O.T.i8 16⟩, ⟨8, none, .fa 18 M.T 4 4⟩, ⟨9, none, .ld 19 O.T.i8 18⟩, ⟨10, none, .fa 20 M.T 4 5⟩, ⟨11, none, .ld 21 O.T.i64 20⟩, ⟨12, none, .fa 22 M.T 4 6⟩, ⟨13, none, .ld 23 O.T.u8s 22⟩, ⟨15, none, .fa 25 M.T 4 7⟩, ⟨16, none, .ld 26 O.T.u8s 25⟩, ⟨14, none, .ca 24 O.fOcts [.t 23]⟩, ⟨17, none, .ca 27 O.fOcts [.t 26]⟩, ⟨18, none, .bdl 28 O.tOld [(0, .t 11), (1, .t 13), (2, .t 15), (3, .t 17), (4, .t 19), (5, .t 21), (6, .t 24), (7, .t 27)]⟩, ⟨19, none, .st O.tOld 2 28⟩, ⟨20, none, .mv 3 (.c (.bool true))⟩]
theorem tellG1_ok (ok : TLK P K R O M z) {cs : List Value} {ds : List D} {st : Option (List UInt8)} {l : List UInt8} (hk : M.fl.map (·.1) = ksOf true) (hr : w.rangeAt q 0 cs) (hp : RepOs w (fun _ => True) (ksOf true) cs ds) (hbd : ∀ l', D.s (some l') ∈ ds → l'.length ≤ 1000000000)
    (ht : w.there r 0 10) (hrq : q ≠ r) (hqw : q < w.heap.size) (hrw : r < w.heap.size) (p2 : ρ 2 = .pointer (some ⟨r, 0, none⟩)) (p4 : ρ 4 = .pointer (some ⟨q, 0, none⟩))
    (hQ : ∀ ρ' w' cs' o, ρ' 2 = .pointer (some ⟨r, 0, none⟩) → ρ' 3 = .bool true → w'.rangeAt r 0 cs' → cs'.length = 10 → OldW w' (fun k => w.heap.size ≤ k) o cs' → ds = toDs true o → (true = false → o.time = 0) → Fr (fun _ => False) r 0 10 w w' → Q .normal ρ' w') : RW P 29 (.gr true (tellG1 M O)) Q ρ w := by
  have hfl : M.fl.length = 8 := by have := congrArg List.length hk; simpa [ksOf] using this
  have hf : ∀ j, j < 8 → fieldAtB P M.T j j = true := fun j hj => ok.m.at_ j (by omega)
  simp only [ksOf, Bool.false_eq_true, if_false, if_true] at hp
  obtain ⟨v0, cs, d0, ds, rfl, rfl, r0, hp⟩ := hp.uncons
  obtain ⟨v1, cs, d1, ds, rfl, rfl, r1, hp⟩ := hp.uncons
  obtain ⟨v2, cs, d2, ds, rfl, rfl, r2, hp⟩ := hp.uncons
  obtain ⟨v3, cs, d3, ds, rfl, rfl, r3, hp⟩ := hp.uncons
  obtain ⟨v4, cs, d4, ds, rfl, rfl, r4, hp⟩ := hp.uncons
  obtain ⟨v5, cs, d5, ds, rfl, rfl, r5, hp⟩ := hp.uncons
  obtain ⟨v6, cs, d6, ds, rfl, rfl, r6, hp⟩ := hp.uncons
  obtain ⟨v7, cs, d7, ds, rfl, rfl, r7, hp⟩ := hp.uncons
  obtain ⟨rfl, rfl⟩ := hp.none_
  obtain ⟨a0, e0, rfl, _⟩ := r0
  simp only [List.cons.injEq, and_true] at e0
  subst e0
  obtain ⟨a1, e1, rfl, _⟩ := r1
  simp only [List.cons.injEq, and_true] at e1
  subst e1
  obtain ⟨a2, e2, rfl, _⟩ := r2
  simp only [List.cons.injEq, and_true] at e2
  subst e2
  obtain ⟨a3, e3, rfl, _⟩ := r3
  simp only [List.cons.injEq, and_true] at e3
  subst e3
  obtain ⟨a4, e4, rfl, _⟩ := r4
  simp only [List.cons.injEq, and_true] at e4
  subst e4
  obtain ⟨a5, e5, rfl, _⟩ := r5
  simp only [List.cons.injEq, and_true] at e5
  subst e5
  obtain ⟨ad1, l1, c1, rfl, b1, rfl⟩ := nb_oct r6
  obtain ⟨ad2, l2, c2, rfl, b2, rfl⟩ := nb_oct r7
  have hl1 : ad1 = none ∧ l1 = [] ∨ l1.length ≤ 1000000000 := by
    cases ad1 with
    | none => exact .inl ⟨rfl, by cases l1 with | nil => rfl | cons y l1 => (obtain ⟨g, o, e, _⟩ := b1 0 y rfl; cases e)⟩
    | some a => exact .inr (hbd l1 (by simp))
  have hl2 : ad2 = none ∧ l2 = [] ∨ l2.length ≤ 1000000000 := by
    cases ad2 with
    | none => exact .inl ⟨rfl, by cases l2 with | nil => rfl | cons y l2 => (obtain ⟨g, o, e, _⟩ := b2 0 y rfl; cases e)⟩
    | some a => exact .inr (hbd l2 (by simp))
  have hl1' : l1.length ≤ 1000000000 := by rcases hl1 with ⟨_, rfl⟩ | h; exact Nat.zero_le _; exact h
  have hl2' : l2.length ≤ 1000000000 := by rcases hl2 with ⟨_, rfl⟩ | h; exact Nat.zero_le _; exact h
  have F0 : Fr (fun _ => False) r 0 10 w (World.drew1 w) := fr_drew1 _ _ _ _ _
  refine RW.knows [(2, .pointer (some ⟨r, 0, none⟩)), (4, .pointer (some ⟨q, 0, none⟩))] (by simp [p2, p4]) (RW.gd ok.mo (Fr (fun _ => False) r 0 10 w) F0 ?_)
  unfold tellG1
  have hld : ∀ {w' : World} {j : Nat} {v : Value}, Fr (fun _ => False) r 0 10 w w' → [Value.int .i64 a0, Value.int .i32 a1, Value.int .i32 a2, Value.int .i8 a3, Value.int .i8 a4, Value.int .i64 a5, .slice ad1 l1.length c1, .slice ad2 l2.length c2][j]? = some v → w'.cell? ⟨q, 0 + j, none⟩ = some v := fun hS hj => by
    rw [cell_of_heap (w := w) (a := ⟨q, 0 + _, none⟩) (hS.block q hqw hrq (fun x => x))]; exact hr _ _ hj
  refine RG.q (fun w' hS => MR.fa (b := q) (o := 0) rfl (hf 0 (by omega))) ?_
  refine RG.q (fun w' hS => MR.ld rfl ok.p64 (hld (j := 0) hS rfl)) ?_
  refine RG.q (fun w' hS => MR.fa (b := q) (o := 0) rfl (hf 1 (by omega))) ?_
  refine RG.q (fun w' hS => MR.ld rfl ok.p32 (hld (j := 1) hS rfl)) ?_
  refine RG.q (fun w' hS => MR.fa (b := q) (o := 0) rfl (hf 2 (by omega))) ?_
  refine RG.q (fun w' hS => MR.ld rfl ok.p32 (hld (j := 2) hS rfl)) ?_
  refine RG.q (fun w' hS => MR.fa (b := q) (o := 0) rfl (hf 3 (by omega))) ?_
  refine RG.q (fun w' hS => MR.ld rfl ok.p8 (hld (j := 3) hS rfl)) ?_
  refine RG.q (fun w' hS => MR.fa (b := q) (o := 0) rfl (hf 4 (by omega))) ?_
  refine RG.q (fun w' hS => MR.ld rfl ok.p8 (hld (j := 4) hS rfl)) ?_
  refine RG.q (fun w' hS => MR.fa (b := q) (o := 0) rfl (hf 5 (by omega))) ?_
  refine RG.q (fun w' hS => MR.ld rfl ok.p64 (hld (j := 5) hS rfl)) ?_
  refine RG.q (fun w' hS => MR.fa (b := q) (o := 0) rfl (hf 6 (by omega))) ?_
  refine RG.q (fun w' hS => MR.ld rfl ok.ps (hld (j := 6) hS rfl)) ?_
  refine RG.q (fun w' hS => MR.fa (b := q) (o := 0) rfl (hf 7 (by omega))) ?_
  refine RG.q (fun w' hS => MR.ld rfl ok.ps (hld (j := 7) hS rfl)) ?_
  refine oct_call (ad := ad1) (l := l1) (c := c1) ok.oc (b1.kp (fun p v h => h)) hl1' rfl (by omega) (by omega) F0 (fun w' hb => F0.trans (Fr.ofBelow hb hrw)) ?_
  intro ad1' c1' w1 B1 oa1 lc1 by1
  have F1 : Fr (fun _ => False) r 0 10 w w1 := F0.trans (Fr.ofBelow B1 hrw)
  have by2 : BytesAt w1 (fun _ => True) ad2 l2 := (b2.kp (w' := World.drew1 w) (fun p v h => h)).kp B1.kp
  have s1 := B1.size
  have hrw1 : r < w1.heap.size := by have : (World.drew1 w).heap.size = w.heap.size := rfl; omega
  refine oct_call (ad := ad2) (l := l2) (c := c2) ok.oc by2 hl2' rfl (by omega) (by omega) F1 (fun w' hb => F1.trans (Fr.ofBelow hb hrw1)) ?_
  intro ad2' c2' w2 B2 oa2 lc2 by3
  have F2 : Fr (fun _ => False) r 0 10 w w2 := F1.trans (Fr.ofBelow B2 hrw1)
  have s2 := B2.size
  generalize ho1 : ((if ad1.isNone then none else some l1) : Option (List UInt8)) = o1 at *
  generalize ho2 : ((if ad2.isNone then none else some l2) : Option (List UInt8)) = o2 at *
  refine RG.x (w' := w2) (v := .agg [.int .i64 a0, .int .i32 a1, .int .i32 a2, .int .i8 a3, .int .i8 a4, .int .i64 a5, .bool o1.isNone, .slice ad1' (o1.getD []).length c1', .bool o2.isNone, .slice ad2' (o2.getD []).length c2'].toArray) (MR.bdl (by
    simp only [List.map_cons, List.map_nil, xof]
    (repeat (first | rw [upd_same] | rw [upd_ne _ _ (by omega)]))
    exact built_any (parts := [(0, .int .i64 a0), (1, .int .i32 a1), (2, .int .i32 a2), (3, .int .i8 a3), (4, .int .i8 a4), (5, .int .i64 a5), (6, .agg #[.bool o1.isNone, .slice ad1' (o1.getD []).length c1']), (7, .agg #[.bool o2.isNone, .slice ad2' (o2.getD []).length c2'])]) ok.tk ok.row (fill1 ..) w2)) (fun h => h) ?_
  have T2 : w2.there r 0 10 := F2.there _ _ ht
  have hst := run_storeAt_any (P := P) (w := w2) (ty := O.tOld) (b := r) (o := 0) (v := .agg [.int .i64 a0, .int .i32 a1, .int .i32 a2, .int .i8 a3, .int .i8 a4, .int .i64 a5, .bool o1.isNone, .slice ad1' (o1.getD []).length c1', .bool o2.isNone, .slice ad2' (o2.getD []).length c2'].toArray) (ok.tk.rows ok.row).2.1 T2 (by simp [Value.cells, Value.oneCell'])
  refine RG.st hst (fun hS => F2.trans (Fr.put _ (Nat.le_refl _) (by simp [Value.cells]))) ?_
  refine RG.q (fun _ _ => MR.mv (v := .bool true) rfl) (RG.nil fun hS => ?_)
  refine hQ _ _ [.int .i64 a0, .int .i32 a1, .int .i32 a2, .int .i8 a3, .int .i8 a4, .int .i64 a5, .bool o1.isNone, .slice ad1' (o1.getD []).length c1', .bool o2.isNone, .slice ad2' (o2.getD []).length c2'] ⟨a0, a1, a2, a3, a4, a5, o1, o2⟩ rfl rfl (World.rangeAt_setCells_same w2 r 0 _ T2) rfl ?_ rfl (fun e => by cases e) hS
  refine ⟨[.bool o1.isNone, .slice ad1' (o1.getD []).length c1'], [.bool o2.isNone, .slice ad2' (o2.getD []).length c2'], ⟨ad1', c1', rfl, oa1, lc1, ?_⟩, ⟨ad2', c2', rfl, oa2, lc2, ?_⟩, rfl⟩
  · refine by1.mono (F' := fun k => w.heap.size ≤ k) (fun k hk => hk.1) (fun k hk => ?_)
    rw [setCells_other r _ _ _ k (by have h1 : w.heap.size ≤ k := hk.1; omega), B2.block k hk.2]
  · refine by3.mono (F' := fun k => w.heap.size ≤ k) (fun k hk => by have h1 : w1.heap.size ≤ k := hk.1; have : (World.drew1 w).heap.size = w.heap.size := rfl; omega) (fun k hk => ?_)
    exact setCells_other r _ _ _ k (by have h1 : w1.heap.size ≤ k := hk.1; omega)
end
set_option linter.unusedVariables false
theorem dP_small {k : PK} (hk : msgK k = true) {l r : List UInt8} {d : D} (h : dP k false l = some (d, r)) : r.length ≤ l.length ∧ ∀ x, d = .s (some x) → x.length ≤ l.length := by
  have int : ∀ {n : Nat}, (n = 1 ∨ n = 2 ∨ n = 4 ∨ n = 8) → (dInt n).map D.n l = some (d, r) → r.length ≤ l.length ∧ ∀ x, d = .s (some x) → x.length ≤ l.length := by
    intro n hn h
    unfold Dec.map at h
    cases hd : dInt n l with
    | none => simp [hd] at h
    | some p =>
      obtain ⟨y, r'⟩ := p
      simp only [hd, Option.some.injEq, Prod.mk.injEq] at h
      obtain ⟨rfl, rfl⟩ := h
      have := dInt_some hn hd
      exact ⟨by omega, fun x e => by cases e⟩
  cases k <;> simp only [msgK, Bool.false_eq_true] at hk
  · exact int (.inl rfl) h
  · exact int (.inr (.inr (.inl rfl))) h
  · exact int (.inr (.inr (.inr rfl))) h
  · have h' : (dInt 4).bind (fun n => if n < 0 then Dec.pure (.s none) else (dSpan n).map (fun l => D.s (some l))) l = some (d, r) := h
    unfold Dec.bind at h'
    cases hd : dInt 4 l with
    | none => simp [hd] at h'
    | some p =>
      obtain ⟨y, r'⟩ := p
      simp only [hd] at h'
      have h4 := dInt_some (.inr (.inr (.inl rfl))) hd
      split at h'
      · simp only [Dec.pure, Option.some.injEq, Prod.mk.injEq] at h'
        obtain ⟨rfl, rfl⟩ := h'
        exact ⟨by omega, fun x e => by cases e⟩
      · unfold Dec.map dSpan at h'
        rename_i hy
        rw [if_neg hy] at h'
        cases ht : takeN y.toNat r' with
        | none => simp [ht] at h'
        | some p2 =>
          obtain ⟨x2, r2⟩ := p2
          simp only [ht, Option.some.injEq, Prod.mk.injEq] at h'
          obtain ⟨rfl, rfl⟩ := h'
          have := takeN_some ht
          refine ⟨by omega, fun x e => ?_⟩
          injection e with e
          injection e with e
          subst e
          omega
theorem gotM_small : ∀ {ks : List PK} {l r : List UInt8} {ds : List D}, (∀ k ∈ ks, msgK k = true) → GotM ks (some l) ds (some r) → ∀ x, D.s (some x) ∈ ds → x.length ≤ l.length
  | [], l, r, ds, _, h, x, hx => by
    obtain ⟨rfl, _⟩ := h
    simp at hx
  | k :: ks, l, r, ds, hk, h, x, hx => by
    obtain ⟨d, ds', st1, rfl, g1, g2⟩ := h
    cases st1 with
    | none =>
      exfalso
      have : ∀ (ks : List PK) (ds : List D) (st' : Option (List UInt8)), GotM ks none ds st' → st' = none := by
        intro ks
        induction ks with
        | nil => intro ds st' h; exact h.2
        | cons k ks ih =>
          intro ds st' h
          obtain ⟨d, ds', st1, rfl, g1, g2⟩ := h
          have := g1.out
          subst this
          exact ih _ _ g2
      have := this _ _ _ g2
      cases this
    | some l1 =>
      obtain ⟨h1, h2⟩ := dP_small (hk k List.mem_cons_self) (show dP k false l = some (d, l1) from g1)
      simp only [List.mem_cons] at hx
      rcases hx with e | hx
      · exact h2 x e.symm
      · exact Nat.le_trans (gotM_small (fun k hk' => hk k (List.mem_cons_of_mem _ hk')) g2 x hx) h1
theorem ksOf_msg (v1 : Bool) : ∀ k ∈ ksOf v1, msgK k = true := by cases v1 <;> decide
def cTell (R : RN) (O : ON) (M : MN) (G : List GOp) : MCode :=
  .sq (.rg [.al 2 O.tOld, .mv 3 (.c (.bool false))]) (.sq (.rg [.al 4 M.T]) (.sq (.sq (.rg [.mv 5 (.t 0), .ca 6 O.fOwn [.t 5], .ca 7 M.fRF [.t 4, .t 6], .bi 8 .neq R.tErr (.t 7) (.c .niface)])
    (.cd 8 (.sq (.rg [.bdl 9 O.tOld [], .st O.tOld 2 9, .mv 3 (.c (.bool false))]) .rt) .sk)) (.sq (.gr true G) .rt)))
def TellC (P : Program) (R : RN) (v1 : Bool) (f : Nat) : Prop := entersB P f = true ∧ ∀ (w : World) (ad : Option Addr) (l : List UInt8) (c : Nat) (ev : Value), BytesAt w (fun _ => True) ad l → l.length ≤ 1000000000 → w.cell? ⟨R.gErr, 0, none⟩ = some ev → isErr ev →
  Calls P f #[.slice ad l.length c] w (fun e w' => Below w.heap.size w w' ∧ ∃ cs ds st o, GotM (ksOf v1) (some l) ds st ∧ e = .returned (.tuple #[.agg cs.toArray, .bool st.isSome]) ∧ OldW w' (fun k => w.heap.size ≤ k) o cs ∧
    (st ≠ none → ds = toDs v1 o ∧ (v1 = false → o.time = 0)) ∧ (o.key.getD []).length ≤ l.length ∧ (o.val.getD []).length ≤ l.length)
def TellG (P : Program) (K : TK) (R : RN) (O : ON) (M : MN) (z : List MVal) (N : Nat) (v1 : Bool) (G : List GOp) : Prop :=
  ∀ {Q : Exit → (Nat → Value) → World → Prop} {ρ : Nat → Value} {w : World} {q r : Nat} {cs : List Value} {ds : List D}, w.rangeAt q 0 cs → RepOs w (fun _ => True) (ksOf v1) cs ds → (∀ l', D.s (some l') ∈ ds → l'.length ≤ 1000000000) →
    w.there r 0 10 → q ≠ r → q < w.heap.size → r < w.heap.size → ρ 2 = .pointer (some ⟨r, 0, none⟩) → ρ 4 = .pointer (some ⟨q, 0, none⟩) →
    (∀ ρ' w' cs' o, ρ' 2 = .pointer (some ⟨r, 0, none⟩) → ρ' 3 = .bool true → w'.rangeAt r 0 cs' → cs'.length = 10 → OldW w' (fun k => w.heap.size ≤ k) o cs' → ds = toDs v1 o → (v1 = false → o.time = 0) → Fr (fun _ => False) r 0 10 w w' → Q .normal ρ' w') → RW P N (.gr true G) Q ρ w
section
variable {P : Program} {N : Nat} {w w' : World} {R : RN} {M : MN} {O : ON} {K : TK} {z : List MVal}
theorem tell_ok (ok : TLK P K R O M z) {v1 : Bool} {G : List GOp} (hk : M.fl.map (·.1) = ksOf v1) (hN : 20 ≤ N) (hG : TellG P K R O M z N v1 G) {f : Nat} (hf : FnIsM P f (cTell R O M G) N 2 O.tOld [3]) : TellC P R v1 f := by
  refine ⟨hf.ent, fun w ad l c ev hby hl hev herr => ?_⟩
  refine hf.runs1 (args := [.slice ad l.length c]) (by simp; omega) (by omega) (by omega) ?_
  obtain ⟨hro, hco, hzo, _⟩ := ok.tk.rows ok.row
  have gR : R.gErr < w.heap.size := World.block_lt_of_cell? w _ hev
  unfold cTell
  refine RW.sq (RW.rg (RL.step (MR.al (z := .agg (zOldM.map MVal.val).toArray) hzo) (RL.step (MR.mv (v := .bool false) rfl) (RL.nil ?_) (by omega)) (by omega)))
  have B1 := below_box w (.cells (Value.agg (zOldM.map MVal.val).toArray).cells O.tOld)
  have T1 : (w.alloc (.cells (Value.agg (zOldM.map MVal.val).toArray).cells O.tOld)).there w.heap.size 0 10 := there_box w (zOldM.map MVal.val) O.tOld
  have S1 := size_box w (.cells (Value.agg (zOldM.map MVal.val).toArray).cells O.tOld)
  revert B1 T1 S1
  generalize w.alloc (.cells (Value.agg (zOldM.map MVal.val).toArray).cells O.tOld) = w1
  intro B1 T1 S1
  refine RW.sq (RW.rg (RL.step (MR.al (z := .agg (z.map MVal.val).toArray) ok.mz) (RL.nil ?_) (by omega)))
  have B2 := below_box w1 (.cells (Value.agg (z.map MVal.val).toArray).cells M.T)
  have T2 : (w1.alloc (.cells (Value.agg (z.map MVal.val).toArray).cells M.T)).there w1.heap.size 0 (z.map MVal.val).length := there_box w1 (z.map MVal.val) M.T
  have R2 : (w1.alloc (.cells (Value.agg (z.map MVal.val).toArray).cells M.T)).rangeAt w1.heap.size 0 (z.map MVal.val) := fun j v hj => cell_box w1 (z.map MVal.val) M.T hj
  have S2 := size_box w1 (.cells (Value.agg (z.map MVal.val).toArray).cells M.T)
  revert B2 T2 R2 S2
  generalize w1.alloc (.cells (Value.agg (z.map MVal.val).toArray).cells M.T) = w2
  intro B2 T2 R2 S2
  rw [List.length_map, ok.zl] at T2
  have B12 : Below w.heap.size w w2 := B1.trans (B2.mono (by omega))
  have hby2 : BytesAt w2 (fun _ => True) ad l := (hby.kp B1.kp).kp B2.kp
  refine RW.sq (RW.sq (RW.rg (RL.step (MR.mv (v := .slice ad l.length c) (by show upd _ _ _ 0 = _; rw [upd_ne _ _ (by omega), upd_ne _ _ (by omega), upd_ne _ _ (by omega)]; rfl) (ltT (by omega))) (RL.ca (R := fun sv w' => OwnB O.T.u8 w' w2.heap.size sv l ∧ Below w2.heap.size w2 w') ok.own.1 ?_ ?_ (by omega) (by intro x hx; simp only [List.mem_singleton] at hx; subst hx; exact ltT (by omega))) (by omega))))
  · simp only [List.map_cons, List.map_nil, xof]
    rw [upd_same]
    refine Calls.mono (ok.own.2 w2 ad l c hby2 hl) ?_
    rintro e w' ⟨sv, rfl, g1, g2⟩
    exact ⟨sv, rfl, g1, g2⟩
  rintro sv w3 ⟨O3, B3⟩
  have s3 := B3.size
  obtain ⟨ad3, c3, rfl, oa3, lc3, by3⟩ := O3.bytes
  obtain ⟨sb, hsb, hsq, hbs⟩ : ∃ sb, sb < w3.heap.size ∧ sb ≠ w1.heap.size ∧ BytesAt w3 (· = sb) ad3 l := by
    rcases oa3 with rfl | ⟨g, o, rfl⟩
    · refine ⟨w.heap.size, by omega, by omega, fun j y hj => ?_⟩
      obtain ⟨g, o, e, _⟩ := by3 j y hj
      cases e
    · have hlt := World.ownsRow.lt O3 g rfl
      refine ⟨g, hlt.2, by omega, fun j y hj => ?_⟩
      obtain ⟨g', o', e, _, hc⟩ := by3 j y hj
      cases e
      exact ⟨g, o, rfl, rfl, hc⟩
  have hq3 : w3.heap[w1.heap.size]? = w2.heap[w1.heap.size]? := B3.block _ (by omega)
  have B13 : Below w.heap.size w w3 := B12.trans (B3.mono (by omega))
  have hev3 : w3.cell? ⟨R.gErr, 0, none⟩ = some ev := by
    rw [cell_of_heap (w := w) (a := ⟨R.gErr, 0, none⟩) (B13.block R.gErr gR)]; exact hev
  refine RL.ca (R := fun u w' => ∃ cs ds st, GotM (M.fl.map (·.1)) (some l) ds st ∧ u = complV ev st ∧ Fr (fun _ => False) w1.heap.size 0 M.fl.length w3 w' ∧ w'.rangeAt w1.heap.size 0 cs ∧ RepOs w' (fun b => b = sb ∨ w3.heap.size ≤ b) (M.fl.map (·.1)) cs ds) ok.rf.1 ?_ ?_ (by omega) (by intro x hx; simp only [List.mem_cons, List.not_mem_nil, or_false] at hx; rcases hx with rfl | rfl <;> exact ltT (by omega))
  · simp only [List.map_cons, List.map_nil, xof]
    rw [upd_same, upd_ne _ _ (by omega), upd_ne _ _ (by omega), upd_same]
    refine Calls.mono (ok.rf.2 w3 w1.heap.size sb ad3 l c3 (z.map MVal.val) ev (by omega) hsb hsq (by rw [List.length_map]; exact ok.zl) (range_keep R2 hq3) (there_keep T2 hq3) oa3 lc3 hbs hev3 (by omega)) ?_
    rintro e w' ⟨cs, ds, st, g1, rfl, g2⟩
    exact ⟨_, rfl, cs, ds, st, g1, rfl, g2⟩
  rintro u w4 ⟨cs, ds, st, g1, rfl, F4, R4, P4⟩
  have s4 := F4.size
  rw [hk] at g1 P4
  have hcv : complV ev st = .nilIface ∨ isErr (complV ev st) := by
    unfold complV
    split
    · exact .inr herr
    · exact .inl rfl
  have hcb : errB (complV ev st) = stB st := by
    cases st with
    | none => obtain ⟨t, y, rfl⟩ := herr; rfl
    | some l => rfl
  have B14 : Below w.heap.size w w4 := B13.trans (F4.below (by omega) (fun k h => h.elim) (by omega))
  have hr4 : w4.heap[w.heap.size]? = w1.heap[w.heap.size]? := by rw [F4.block w.heap.size (by omega) (by omega) (fun x => x), B3.block _ (by omega), B2.block _ (by omega)]
  have T4 : w4.there w.heap.size 0 10 := there_keep T1 hr4
  refine RL.step (MR.neqNilI (v := complV ev st) ok.ie (upd_same _ _ _) hcv (by omega)) (RL.nil ?_) (by omega)
  rw [hcb]
  cases st with
  | none =>
    refine RW.cd (b := true) (upd_same _ _ _) (fun _ => ?_) (fun e => by cases e) (by omega)
    refine RW.sq (RW.rg (RL.step (MR.bdl (w' := w4) (v := .agg (zOldM.map MVal.val).toArray) (built_any (parts := []) ok.tk ok.row rfl w4) (fun p hp => by simp at hp)) ?_ (by omega)))
    refine RL.stA (cs := zOldM.map MVal.val) (b := w.heap.size) (o := 0) (by rw [upd_ne _ _ (by omega), upd_ne _ _ (by omega), upd_ne _ _ (by omega), upd_ne _ _ (by omega), upd_ne _ _ (by omega), upd_ne _ _ (by omega), upd_ne _ _ (by omega), upd_same]) (upd_same _ _ _) (by rw [List.length_map]; exact hco) T4 rfl (RL.step (MR.mv (v := .bool false) rfl) (RL.nil (RW.rt ?_)) (by omega)) (by omega) (by omega)
    refine ⟨⟨w.heap.size, 0, none⟩, .agg (zOldM.map MVal.val).toArray, by rw [upd_ne _ _ (by omega), upd_ne _ _ (by omega), upd_ne _ _ (by omega), upd_ne _ _ (by omega), upd_ne _ _ (by omega), upd_ne _ _ (by omega), upd_ne _ _ (by omega), upd_ne _ _ (by omega), upd_same], run_loadAt_row hro (by rw [List.length_map]; exact hco) (World.rangeAt_setCells_same w4 _ 0 (zOldM.map MVal.val) T4), below_setCells (Nat.le_refl _) _ _ B14, ?_⟩
    refine ⟨zOldM.map MVal.val, ds, none, ⟨0, 0, 0, 0, 0, 0, some [], some []⟩, g1, by simp only [List.map_cons, List.map_nil]; rw [upd_same]; rfl, ⟨[.bool false, .slice none 0 0], [.bool false, .slice none 0 0], ⟨none, 0, rfl, .inl rfl, Nat.le_refl _, fun j y hj => by simp at hj⟩, ⟨none, 0, rfl, .inl rfl, Nat.le_refl _, fun j y hj => by simp at hj⟩, rfl⟩, fun h => absurd rfl h, by simp, by simp⟩
  | some rr =>
    refine RW.cd (b := false) (upd_same _ _ _) (fun e => by cases e) (fun _ => RW.sk ?_) (by omega)
    have hsm := gotM_small (ksOf_msg v1) g1
    refine RW.sq (hG (q := w1.heap.size) (r := w.heap.size) R4 (P4.wide fun _ _ => trivial) (fun x hx => Nat.le_trans (hsm x hx) hl) T4 (by omega) (by omega) (by omega) (by rw [upd_ne _ _ (by omega), upd_ne _ _ (by omega), upd_ne _ _ (by omega), upd_ne _ _ (by omega), upd_ne _ _ (by omega), upd_ne _ _ (by omega), upd_same]) (by rw [upd_ne _ _ (by omega), upd_ne _ _ (by omega), upd_ne _ _ (by omega), upd_ne _ _ (by omega), upd_same]) ?_)
    intro ρ' w5 cs' o q2 q3 R5 l5 O5 e5 t5 F5
    refine RW.rt ?_
    have B15 : Below w.heap.size w w5 := B14.trans (F5.below (Nat.le_refl _) (fun k h => h.elim) (by omega))
    have hin : ∀ {x : Option (List UInt8)}, D.s x ∈ ds → (x.getD []).length ≤ l.length := fun {x} hx => by
      cases x with
      | none => simp
      | some x => exact hsm x hx
    have m1 : D.s o.key ∈ ds := by rw [e5]; unfold toDs; simp
    have m2 : D.s o.val ∈ ds := by rw [e5]; unfold toDs; simp
    refine ⟨⟨w.heap.size, 0, none⟩, .agg cs'.toArray, q2, run_loadAt_row hro (by rw [l5]; exact hco) R5, B15, cs', ds, some rr, o, g1, by simp only [List.map_cons, List.map_nil, q3]; rfl, ?_, fun _ => ⟨e5, t5⟩, hin m1, hin m2⟩
    obtain ⟨ks, vs, k1, k2, k3⟩ := O5
    have wd : ∀ {o : Option (List UInt8)} {vs : List Value}, OcW w5 (fun k => w4.heap.size ≤ k) o vs → OcW w5 (fun k => w.heap.size ≤ k) o vs := fun h => by
      obtain ⟨a, c, h1, h2, h3, h4⟩ := h
      exact ⟨a, c, h1, h2, h3, h4.mono (fun k hk => by have : w4.heap.size ≤ k := hk; show w.heap.size ≤ k; omega) (fun _ _ => rfl)⟩
    exact ⟨ks, vs, wd k1, wd k2, k3⟩
end
set_option linter.unusedVariables false
def fxo : Option (List UInt8) → List UInt8
  | none => fix (-1) 4
  | some l => fix (l.length : Nat) 4 ++ l
def b8 (n : Int) : UInt8 := UInt8.ofNat (IntKind.u8.wrap n).toNat
theorem byteV_b8 (n : Int) : byteV (b8 n) = .int .u8 (IntKind.u8.wrap n) := by
  unfold byteV b8
  congr 1
  have h : 0 ≤ IntKind.u8.wrap n ∧ IntKind.u8.wrap n < 256 := by simp [IntKind.wrap, IntKind.signed, IntKind.bits]; omega
  rw [UInt8.toNat_ofNat']
  omega
def oldB (o : OldD) : List UInt8 :=
  fix o.off 8 ++ fix (IntKind.i64.wrap o.size) 4 ++ fix (IntKind.i64.wrap o.crc) 4 ++ [b8 o.magic, b8 o.attr] ++ fix o.time 8 ++ fxo o.key ++ fxo o.val
structure OBK (P : Program) (O : ON) : Prop where
  ok4 : OOK4 P O
  i32 : intTy P O.T.i32 .i32 = true
  fx : FixedC P O.T.u8 O.fFixed
  fo0 : fieldAtB P O.tOc 0 0 = true
  fo1 : fieldAtB P O.tOc 1 1 = true
  pb : plainTy P O.T.bool = true
  p64 : plainTy P O.T.i64 = true
  p32 : plainTy P O.T.i32 = true
  p8 : plainTy P O.T.i8 = true
  h8 : O.T.i8 ≠ 0
section
variable {P : Program} {N : Nat} {Q : Exit → (Nat → Value) → World → Prop} {ρ : Nat → Value} {w w' : World} {ms : List MOp} {gs : List GOp} {O : ON}
def cFxO (O : ON) : MCode :=
  .sq (.rg [.bx 1 O.tOc 0, .mv 2 (.c .nslice)]) (.sq (.sq (.rg [.fa 3 O.tOc 1 0, .ld 4 O.T.bool 3]) (.cd 4 (.sq (.rg [.ca 5 O.fFixed [.c (.int .i64 (-1)), .c (.int .i64 4)], .mv 2 (.t 5)]) .rt) .sk))
  (.sq (.gr true [⟨0, none, .fa 6 O.tOc 1 1⟩, ⟨1, none, .ld 7 O.T.u8s 6⟩, ⟨2, none, .ln 8 O.T.u8s 7⟩, ⟨4, none, .fa 10 O.tOc 1 1⟩, ⟨5, none, .ld 11 O.T.u8s 10⟩, ⟨3, none, .ca 9 O.fFixed [.t 8, .c (.int .i64 4)]⟩, ⟨6, none, .ap 12 O.T.u8s O.T.u8s 9 11⟩, ⟨7, none, .mv 2 (.t 12)⟩]) .rt))
def FxOC (P : Program) (U f : Nat) : Prop := entersB P f = true ∧ ∀ (w : World) (o : Option (List UInt8)) (vs : List Value), OcW w (fun _ => True) o vs → (o.getD []).length ≤ 1000000000 → RetB P U f [.agg vs.toArray] w (fxo o)
theorem fix_len4 (n : Int) : (fix n 4).length = 4 := fix_len n 4
theorem fxo_ok {f : Nat} (ok : OBK P O) (hf : FnIs P f (cFxO O) 13 2) : FxOC P O.T.u8 f := by
  refine ⟨hf.ent, fun w o vs ho hl => ?_⟩
  obtain ⟨ad, c, rfl, had, hlc, hby⟩ := ho
  refine hf.runs (args := [.agg [.bool o.isNone, .slice ad (o.getD []).length c].toArray]) (by simp) (by omega) ?_
  have hl1 : lim = 1099511627776 := rfl
  have tu := ok.ok4.ok.ok.ok
  refine RW.sq (RW.rg (RL.bxA (cs := [.bool o.isNone, .slice ad (o.getD []).length c]) rfl (RL.step (MR.mv (v := .slice none 0 0) rfl) (RL.nil ?_))))
  have B1 := below_box w (.cells [Value.bool o.isNone, .slice ad (o.getD []).length c].toArray O.tOc)
  have R1 : (w.alloc (.cells [Value.bool o.isNone, .slice ad (o.getD []).length c].toArray O.tOc)).rangeAt w.heap.size 0 [.bool o.isNone, .slice ad (o.getD []).length c] := fun j v hj => cell_box w [Value.bool o.isNone, .slice ad (o.getD []).length c] O.tOc hj
  have S1 := size_box w (.cells [Value.bool o.isNone, .slice ad (o.getD []).length c].toArray O.tOc)
  revert B1 R1 S1
  generalize w.alloc (.cells [Value.bool o.isNone, .slice ad (o.getD []).length c].toArray O.tOc) = w1
  intro B1 R1 S1
  refine RW.sq (RW.sq (RW.rg (RL.step (MR.fa rfl ok.fo0) (RL.step (MR.ld rfl ok.pb (R1 0 _ rfl)) (RL.nil ?_)))))
  cases o with
  | none =>
    refine RW.cd (b := true) rfl (fun _ => ?_) (fun e => by cases e)
    refine RW.sq (RW.rg (RL.caB (args := [.int .i64 (-1), .int .i64 4]) ok.fx.1 (ok.fx.2 w1 (-1) 4 (by omega)) rfl fun sv w2 O2 B2 => ?_))
    refine RL.step (MR.mv (v := sv) rfl) (RL.nil (RW.rt ?_))
    exact ⟨sv, rfl, O2.rebase (by omega), B1.trans (B2.mono (by omega))⟩
  | some l =>
    refine RW.cd (b := false) rfl (fun e => by cases e) (fun _ => RW.sk ?_)
    dsimp only [Option.getD] at hl hlc hby R1
    have hw0 : (World.drew1 w1).heap[w.heap.size]? = w1.heap[w.heap.size]? := rfl
    refine RW.sq (RW.gd ok.ok4.ok.ok.ok.mo (fun w' => w'.heap[w.heap.size]? = w1.heap[w.heap.size]?) hw0 ?_)
    have D1 := below_drew1 w1 w1.heap.size
    have ds : (World.drew1 w1).heap.size = w1.heap.size := rfl
    refine RG.q (fun _ _ => MR.fa rfl ok.fo1) (RG.q (fun w' hS => MR.ld rfl tu.ps (range_keep R1 hS 1 _ rfl)) (RG.q (fun _ _ => MR.ln tu.tk.u8s rfl) (RG.q (fun _ _ => MR.fa rfl ok.fo1) (RG.q (fun w' hS => MR.ld rfl tu.ps (range_keep R1 hS 1 _ rfl)) ?_))))
    refine RG.caB (args := [.int .i64 (l.length : Nat), .int .i64 4]) ok.fx.1 (ok.fx.2 (World.drew1 w1) (l.length : Nat) 4 (by omega)) rfl (fun w' hb hS => by rw [hb.block _ (by omega)]; exact hS) fun sv w2 O2 B2 => ?_
    have s2 := B2.size
    obtain ⟨sv', w3, a1, a2, a3, a4⟩ := run_apOwn (P := P) (w := w2) (T := O.T.u8s) (U := O.T.u8) (c := c) (B := w1.heap.size) tu.tk.u8s tu.tk.u8 (O2.rebase (Nat.le_of_eq ds.symm)) rfl ((hby.kp B1.kp).kp (D1.kp)|>.kp B2.kp) (by omega) (by rw [fix_len4]; omega)
    refine RG.x (w' := w3) (v := sv') (MR.apBy (a1 0) a1) (fun hS => by rw [a3.block _ (by omega)]; exact hS) ?_
    refine RG.q (fun _ _ => MR.mv (v := sv') rfl) (RG.nil fun _ => RW.rt ?_)
    refine ⟨sv', rfl, a2.rebase (by omega), B1.trans ((D1.mono (by omega)).trans ((B2.mono (by omega)).trans (a3.mono (by omega))))⟩
theorem RL.fixAp {B d1 d2 x t k : Nat} {n : Int} {sv : Value} {bs : List UInt8} (ok : OBK P O) (hk : k = 1 ∨ k = 2 ∨ k = 4 ∨ k = 8) (ht : ρ t = .int .i64 n) (hx : ρ x = sv) (hxd : x ≠ d1) (ho : OwnB O.T.u8 w B sv bs) (hB : B ≤ w.heap.size) (hlim : bs.length + k ≤ 2000000000)
    (h : ∀ s1 sv' w', OwnB O.T.u8 w' B sv' (bs ++ fix n k) → Below B w w' → RL P N ms Q (upd (upd (upd ρ d1 s1) d2 sv') 5 sv') w') (htN : t < N) (hxN : x < N) (h1N : d1 < N) (h2N : d2 < N) (h5 : 5 < N) :
    RL P N (.ca d1 O.fFixed [.t t, .c (.int .i64 (k : Nat))] :: .ap d2 O.T.u8s O.T.u8s x d1 :: .mv 5 (.t d2) :: ms) Q ρ w := by
  have hl1 : lim = 1099511627776 := rfl
  have tu := ok.ok4.ok.ok.ok
  refine RL.caB (args := [.int .i64 n, .int .i64 (k : Nat)]) ok.fx.1 (ok.fx.2 w n k hk) (by simp [xof, ht, MVal.val]) (fun s1 w2 O2 B2 => ?_) h1N (by intro y hy; simp only [List.mem_cons, List.not_mem_nil, or_false] at hy; rcases hy with rfl | rfl; exact ltT htN; rfl)
  refine RL.apOO (B := B) (B' := w.heap.size) (sv := sv) (sy := s1) (bs := bs) (l := fix n k) tu.tk.u8s tu.tk.u8 (by rw [upd_ne _ _ hxd]; exact hx) (upd_same _ _ _) (ho.keep B2) O2 (by have := B2.size; omega) (by rw [fix_len]; omega) (fun sv' w3 O3 B3 => ?_) hxN h1N h2N
  exact RL.step (MR.mv (upd_same _ _ _) (ltT h2N)) (h s1 sv' w3 O3 ((B2.mono hB).trans B3)) h5
end
end Go.Kx
