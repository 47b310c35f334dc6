/- The reader's numbers: Int16, Uint16, Int32, readUint64, Int64, Bool. Conditions: the program's tables (ROK).
   The reader's calls, told once (RdC): what was read, by a decoder, or that the reader has run out; the span. Conditions: the program's tables (ROK).
   Functions of two results; kbin.Uvarint, the reader's Uvarint. Conditions: the program's tables (ROK).
   The reader's lists' lengths, texts, Bool, Ok, Complete. Conditions: the program's tables (ROK), numbers that are not 0.
   Tags are read: Tags.Set, internalReadTags. Conditions: the program's tables (ROK, TGR).
   readFrom's code: plain fields, versions' tests, fields in a row. Conditions: the reader's contracts (RKOK), the message's plan (wfRF).
   readFrom's fields: plain ones, lists of plain ones; a field's versions; fields in a row. Conditions: the reader's contracts (RKOK), the plan's tests.
   readFrom's lists. Conditions: the reader's contracts (RKOK), the plan's tests.
   readFrom's lists: the loop, the elements, the whole field. Conditions: the reader's contracts (RKOK), the plan's tests.
   Known tags are read: each of a reader of its own; what is not known is kept. Conditions: the reader's contracts (RKOK), the tests krB.
   readFrom's fields in a row; lists of structs. Conditions: the reader's contracts (RKOK), the plan's tests (wfRF), the default's cells (ZF).
   readFrom, whole. Conditions: the reader's contracts (RKOK), the plan's tests, Default's contract (DefD).
   readFrom, whole: its contract (RFC) by tests (rfB). Conditions: the reader's contracts (RKOK).
   Rules: a range over a map (the iterator anywhere), calls of closures, an append to nil. No condition on the program beyond those that a rule names.
   Slices of one's own that lie in a variable; the closure of AppendEach. Conditions: the program's tables (TOK), AppendUvarint's contract.
   (*Tags).Each with AppendEach's closure, AppendEach whole. Conditions: the program's tables (TgE), sort.Slice's contract (SortC).
   (*Tags).Each with AppendEach's closure; AppendEach whole (TeachC of small tags). Conditions: the program's tables (TgE), sort.Slice's contract (SortC), the closure's (CbC).
   AppendEach of real tags (TeachC of small tags). Conditions: the program's tables (TgE), sort.Slice's contract (SortC), the closure's (CbC).
   impl.AgainX: a message is read and written again. Conditions: the contracts of its functions.
   spec.unknown, its parts: where a tag belongs, whether it is there. Conditions: the program's tables (SOK).
   spec.unknown, whole (UnkC of keys that fit). Conditions: the program's tables (SOK), known's contract.
   spec.unknown, whole (UnkC of whatever keys). Conditions: the program's tables (SOK), known's contract.
   The laws' zzFits2, zzFits3, zzFits4: they yield a truth value. Conditions: the program's tables (SOK).
   The laws FnAgain..: the law's own code.
   The laws FnCut..: the law's own code.
   Each's order: the closure that compares two keys. Conditions: the program's tables.
   The laws FnAny..: the law's own code.
   The reference's functions over trees with tags. The reader's octets: sixteen of them, texts of octets. Conditions: the program's tables (ROK).
   The reader's contracts, as one test of the program.
   The reader's contracts, all of them, out of one test of the program.
   The laws FnAgain.., FnCut.., FnAny..: all that the program must pass, as Boolean tests; from them the laws' runs.
   How much the reference writes of a tree: at most so often the tree's size. No condition.
   An argument's tree as it is read (DataW): it lies in memory as a tree, keys fit, its bulk is no less than its size. Conditions: the tables' facts (treeB), the bulk's equations (BulkOk).
   From the laws' runs to what a row says of them: arguments opened, read again behind the call. Conditions: the program's tests, the row's closed facts. -/
import Derived.Test.YtnodcmiaipbjiaaDoorKxC
import Derived.Lib.AppendZeros
import Derived.ChangeSlices
import Derived.ChangeArms
import Derived.Carry
import Derived.OpenShut
import Derived.ChangeShapes
import Derived.FnData
namespace Go.Kx
open Go.RowKit
set_option linter.unusedSimpArgs false
set_option linter.unusedVariables false
def RdN (P : Program) (f : Nat) {α : Type} [Inhabited α] (d : Dec α) (V : α → Value) : Prop := entersB P f = true ∧ ∀ (w : World) (rb sb : Nat) (st : Option (List UInt8)), RdAt w rb sb st → sb ≠ rb →
  Calls P f #[.pointer (some ⟨rb, 0, none⟩)] w (fun e w' => Fr (fun _ => False) rb 0 2 w w' ∧ ((∃ x r, st.bind d = some (x, r) ∧ e = .returned (V x) ∧ RdAt w' rb sb (some r)) ∨ (st.bind d = none ∧ e = .returned (V default) ∧ RdAt w' rb sb none)))
def RdNS (P : Program) (f : Nat) {α : Type} [Inhabited α] (d : Dec α) (V : α → Value) : Prop := entersB P f = true ∧ ∀ (w : World) (rb sb : Nat) (st : Option (List UInt8)), RdAt w rb sb st → sb ≠ rb →
  Calls P f #[.pointer (some ⟨rb, 0, none⟩)] w (fun e w' => Fr (fun _ => False) rb 0 2 w w' ∧ ((∃ x r, st.bind d = some (x, r) ∧ e = .returned (V x) ∧ RdAt w' rb sb (some r) ∧ AdS w' rb) ∨ (st.bind d = none ∧ e = .returned (V default) ∧ RdAt w' rb sb none)))
def headR (R : RN) (n : Nat) (z : MVal) : List MOp := [.mv 4 (.t 0), .nc 5 4, .fa 6 R.tR 5 0, .ld 7 R.T.u8s 6, .ln 8 R.T.u8s 7, .bi 9 .lss R.T.int (.t 8) (.c (.int .i64 n))]
def nextR (R : RN) (n t : Nat) : List MOp := [.mv t (.t 0), .mv (t + 1) (.t 0), .nc (t + 2) (t + 1), .fa (t + 3) R.tR (t + 2) 0, .ld (t + 4) R.T.u8s (t + 3), .sl (t + 5) R.T.u8s (t + 4) (some (.c (.int .i64 n))) none none, .nc (t + 6) t, .fa (t + 7) R.tR (t + 6) 0, .st R.T.u8s (t + 7) (t + 5)]
def cNumC (R : RN) (n be tu ts : Nat) (k : IntKind) : MCode :=
  .sq (.rg [.mv 2 (.c (.int k 0))]) (.sq (.sq (.rg (headR R n (.int k 0))) (.cd 9 (failM R (.int k 0) 2 10) .sk))
    (.sq (.gr true [⟨0, none, .lg 16 R.tBE R.gBE⟩, ⟨1, none, .mv 17 (.t 0)⟩, ⟨2, none, .nc 18 17⟩, ⟨3, none, .fa 19 R.tR 18 0⟩, ⟨4, none, .ld 20 R.T.u8s 19⟩, ⟨5, none, .ca 21 be [.t 16, .t 20]⟩, ⟨6, none, .cv 22 tu ts 21⟩, ⟨7, none, .mv 3 (.t 22)⟩])
    (.sq (.rg (nextR R n 23)) (.sq (.rg [.mv 31 (.t 3), .mv 2 (.t 31)]) .rt))))
def cNumU (R : RN) (n be : Nat) (k : IntKind) : MCode :=
  .sq (.rg [.mv 2 (.c (.int k 0))]) (.sq (.sq (.rg (headR R n (.int k 0))) (.cd 9 (failM R (.int k 0) 2 10) .sk))
    (.sq (.gr true [⟨0, none, .lg 16 R.tBE R.gBE⟩, ⟨1, none, .mv 17 (.t 0)⟩, ⟨2, none, .nc 18 17⟩, ⟨3, none, .fa 19 R.tR 18 0⟩, ⟨4, none, .ld 20 R.T.u8s 19⟩, ⟨5, none, .ca 21 be [.t 16, .t 20]⟩, ⟨6, none, .mv 3 (.t 21)⟩])
    (.sq (.rg (nextR R n 22)) (.sq (.rg [.mv 30 (.t 3), .mv 2 (.t 30)]) .rt))))
section
variable {P : Program} {N : Nat} {Q : Exit → (Nat → Value) → World → Prop} {ρ : Nat → Value} {w w' : World} {ms : List MOp} {R : RN} {rb sb : Nat} {st : Option (List UInt8)}
theorem next_okS {n t : Nat} {l : List UInt8} (ok : ROK P R) (h : RdAt w rb sb (some l)) (hne : sb ≠ rb) (hn : n ≤ l.length) (h0 : ρ 0 = .pointer (some ⟨rb, 0, none⟩)) (ht : 0 < t) (hN : t + 8 ≤ N)
    (hQ : ∀ ρ' w', (∀ s, s < t → ρ' s = ρ s) → RdAt w' rb sb (some (l.drop n)) → Fr (fun _ => False) rb 0 2 w w' → (1 ≤ n → AdS w' rb) → Q .normal ρ' w') : RL P N (nextR R n t) Q ρ w := by
  obtain ⟨ad, c, h1, h2, h3, h4, h5⟩ := h
  obtain ⟨ad', g1, g2, g3, _, g5⟩ := run_sliceFromS (P := P) (w := w) ok.tk.u8s ok.cu h3 hn h4
  unfold nextR
  refine RL.step (MR.mv h0 (ltT (by omega))) (RL.step (MR.mv (v := .pointer (some ⟨rb, 0, none⟩)) (by show upd _ _ _ 0 = _; rw [upd_ne _ _ (by omega)]; exact h0) (ltT (by omega))) (RL.step (MR.nc (upd_same _ _ _) (by omega)) (RL.step (MR.fa (upd_same _ _ _) ok.f0 (by omega))
    (RL.step (MR.ld (upd_same _ _ _) ok.ps (h1 0 _ rfl) (by omega)) (RL.step (MR.sl (v := .slice ad' (l.length - n) (c - n)) (by rw [upd_same]; exact g1) (by simp [MX.lt]) (by simp) (by simp) (by omega)) (RL.step (MR.nc (p := ⟨rb, 0, none⟩) ?_ (by omega)) (RL.step (MR.fa (upd_same _ _ _) ok.f0 (by omega))
      (RL.st1 (v := .slice ad' (l.length - n) (c - n)) (b := rb) (o := 0 + 0) (upd_same _ _ _) ?_ rfl ok.cs (there_in h2 (by omega)) (RL.nil ?_) (by omega) (by omega)) (by omega)) (by omega)) (by omega)) (by omega)) (by omega)) (by omega)) (by omega)) (by omega)
  · rw [upd_ne _ _ (by omega), upd_ne _ _ (by omega), upd_ne _ _ (by omega), upd_ne _ _ (by omega), upd_ne _ _ (by omega), upd_same]
  · rw [upd_ne _ _ (by omega), upd_ne _ _ (by omega), upd_same]
  · refine hQ _ _ (fun s hs => ?_) ?_ (Fr.put _ (by omega) (by simp)) (fun h1n => ?_)
    · rw [upd_ne _ _ (by omega), upd_ne _ _ (by omega), upd_ne _ _ (by omega), upd_ne _ _ (by omega), upd_ne _ _ (by omega), upd_ne _ _ (by omega), upd_ne _ _ (by omega), upd_ne _ _ (by omega)]
    · have := RdAt.put (l := l.drop n) (ad := ad') (c := c - n) h1 h2 rfl g2 (by rw [List.length_drop]; omega) (g3 rfl h5) hne
      rw [List.length_drop] at this
      exact this
    · obtain ⟨x, hx⟩ : ∃ x, l[0]? = some x := ⟨_, List.getElem?_eq_getElem (by omega)⟩
      obtain ⟨g, o, e, _⟩ := h5 0 x hx
      obtain ⟨a', e'⟩ := g5 _ e
      subst e'
      have ht0 : w.there rb (0 + 0) 1 := there_in h2 (by omega)
      exact ⟨a', _, _, World.rangeAt_setCells_same w rb (0 + 0) [.slice (some a') (l.length - n) (c - n)] ht0 0 _ rfl⟩
theorem next_ok {n t : Nat} {l : List UInt8} (ok : ROK P R) (h : RdAt w rb sb (some l)) (hne : sb ≠ rb) (hn : n ≤ l.length) (h0 : ρ 0 = .pointer (some ⟨rb, 0, none⟩)) (ht : 0 < t) (hN : t + 8 ≤ N)
    (hQ : ∀ ρ' w', (∀ s, s < t → ρ' s = ρ s) → RdAt w' rb sb (some (l.drop n)) → Fr (fun _ => False) rb 0 2 w w' → Q .normal ρ' w') : RL P N (nextR R n t) Q ρ w :=
  next_okS ok h hne hn h0 ht hN fun ρ' w' a b c _ => hQ ρ' w' a b c
theorem head_ok {n : Nat} {z : MVal} (ok : ROK P R) (h : RdAt w rb sb st) (h0 : ρ 0 = .pointer (some ⟨rb, 0, none⟩)) (hN : 16 ≤ N) (hn : 1 ≤ n)
    (hbad : (stL st).length < n → ∀ ρ' w', ρ' 2 = z.val → RdAt w' rb sb none → Fr (fun _ => False) rb 0 2 w w' → Q .ret ρ' w')
    (hgood : ∀ l, st = some l → n ≤ l.length → ∀ ρ', (∀ s, s < 4 → ρ' s = ρ s) → Q .normal ρ' w) : RW P N (.sq (.rg (headR R n z)) (.cd 9 (failM R z 2 10) .sk)) Q ρ w := by
  obtain ⟨ad, c, h1, h2, h3, h4, h5⟩ := h.all
  unfold headR
  refine RW.sq (RW.rg (RL.step (MR.mv h0 (ltT (by omega))) (RL.step (MR.nc (upd_same _ _ _) (by omega)) (RL.step (MR.fa (upd_same _ _ _) ok.f0 (by omega)) (RL.step (MR.ld (upd_same _ _ _) ok.ps (h1 0 _ rfl) (by omega)) (RL.step (MR.ln ok.tk.u8s (upd_same _ _ _) (by omega))
    (RL.step (MR.biE (v := .bool (decide (((stL st).length : Int) < (n : Int)))) rfl (ltT (by omega)) rfl) (RL.nil ?_) (by omega)) (by omega)) (by omega)) (by omega)) (by omega)) (by omega)))
  refine RW.cd (upd_same _ _ _) (fun e => ?_) (fun e => RW.sk ?_) (by omega)
  · have hlt : (stL st).length < n := by have := of_decide_eq_true e; omega
    exact fail_ok ok h (by rw [upd_ne _ _ (by omega), upd_ne _ _ (by omega), upd_ne _ _ (by omega), upd_ne _ _ (by omega), upd_ne _ _ (by omega), upd_ne _ _ (by omega)]; exact h0) (by omega) (by omega) (by omega) (hbad hlt)
  · have hge : ¬ (stL st).length < n := by have := of_decide_eq_false e; omega
    cases st with
    | none => exact absurd (show (stL none).length < n from by simp [stL]; omega) hge
    | some l =>
      exact hgood l rfl (by simpa [stL] using hge) _ (fun s hs => by rw [upd_ne _ _ (by omega), upd_ne _ _ (by omega), upd_ne _ _ (by omega), upd_ne _ _ (by omega), upd_ne _ _ (by omega), upd_ne _ _ (by omega)])
theorem takeN_none {k : Nat} {l : List UInt8} (h : l.length < k) : takeN k l = none := by unfold takeN; rw [if_neg (by omega)]
theorem takeN_yes {k : Nat} {l : List UInt8} (h : k ≤ l.length) : takeN k l = some (l.take k, l.drop k) := by unfold takeN; rw [if_pos h]
theorem Dec.map_none {α β : Type} {d : Dec α} {f : α → β} {l : List UInt8} (h : d l = none) : d.map f l = none := by simp [Dec.map, h]
theorem Dec.bind_none {α β : Type} {d : Dec α} {f : α → Dec β} {l : List UInt8} (h : d l = none) : d.bind f l = none := by simp [Dec.bind, h]
theorem st_none {α : Type} {d : Dec α} {n : Nat} (hd : ∀ l, l.length < n → d l = none) (h : (stL st).length < n) : st.bind d = none := by
  cases st with
  | none => rfl
  | some l => exact hd l h
theorem numC_okS {f n tu ts : Nat} {be : Nat} {k0 k : IntKind} (ok : ROK P R) (hbe : BeC P be n k0) (hn : 1 ≤ n) (h1 : intTy P tu k0 = true) (h2 : intTy P ts k = true) (hk : ∀ x : Nat, x < 256 ^ n → k.wrap (x : Int) = sgn n x)
    (hf : FnIs P f (cNumC R n be tu ts k) 32 2) : RdNS P f (dInt n) (fun x => .int k x) := by
  refine ⟨hf.ent, fun w rb sb st h hne => ?_⟩
  refine hf.runs (args := [.pointer (some ⟨rb, 0, none⟩)]) (by simp) (by omega) ?_
  refine RW.sq (RW.rg (RL.step MR.mv (RL.nil (RW.sq (head_ok (n := n) ok h rfl (by omega) hn (fun hlt ρ' w' g1 g2 g3 => ?_) (fun l hl hnl ρ1 hρ => ?_))))))
  · exact ⟨g3, .inr ⟨st_none (fun l hl => Dec.map_none (Dec.map_none (takeN_none hl))) hlt, by rw [g1]; rfl, g2⟩⟩
  · subst hl
    obtain ⟨ad, c, r1, r2, r3, r4, r5⟩ := h
    show RW P 32 _ _ ρ1 w
    have q0 : ρ1 0 = .pointer (some ⟨rb, 0, none⟩) := by rw [hρ 0 (by omega)]; rfl
    refine RW.sq (RW.gd ok.mo (Below w.heap.size w) (below_drew1 _ _) ?_)
    refine RG.q (v := .agg #[]) (fun w' hS => MR.lg (run_loadAt_row (cs := []) ok.be ok.bn (fun j v hj => by simp at hj))) ?_ rfl rfl (by decide)
    refine RG.q (fun _ _ => MR.mv (v := .pointer (some ⟨rb, 0, none⟩)) (by show upd _ _ _ 0 = _; rw [upd_ne _ _ (by omega)]; exact q0)) (RG.q (fun _ _ => MR.nc rfl) (RG.q (fun _ _ => MR.fa rfl ok.f0) (RG.q (fun w' hS => MR.ld rfl ok.ps (hS.kp _ _ (r1 0 _ rfl))) ?_)))
    refine RG.ca (R := fun v w' => v = .int k0 (beVal (l.take n) : Nat) ∧ Below w.heap.size w w') hbe.1 (fun h0 => ?_) ?_
    · refine Calls.mono (hbe.2 (World.drew1 w) ad l c (r5.any.kp (drew1_kp w)) hnl) ?_
      rintro e w' ⟨rfl, hb⟩
      exact ⟨_, rfl, ⟨rfl, h0.trans (hb.mono h0.size)⟩, h0.trans (hb.mono h0.size)⟩
    rintro v w1 ⟨rfl, b1⟩
    refine RG.q (fun _ _ => MR.cvI rfl h1 h2) (RG.q (fun _ _ => MR.mv) (RG.nil fun _ => ?_))
    have hrb : rb < w.heap.size := World.block_lt_of_cell? w _ (r1 0 _ rfl)
    have F1 : Fr (fun _ => False) rb 0 2 w w1 := Fr.ofBelow b1 hrb
    have h' : RdAt w1 rb sb (some l) := ⟨ad, c, range_keep r1 (b1.block _ hrb), there_keep r2 (b1.block _ hrb), r3, r4, by
      intro j b hj
      obtain ⟨g, o, e, hg, hc⟩ := r5 j b hj
      exact ⟨g, o, e, hg, b1.kp _ _ hc⟩⟩
    refine RW.sq (RW.rg (next_okS ok h' hne hnl (by rw [upd_ne _ _ (by omega), upd_ne _ _ (by omega), upd_ne _ _ (by omega), upd_ne _ _ (by omega), upd_ne _ _ (by omega), upd_ne _ _ (by omega), upd_ne _ _ (by omega), upd_ne _ _ (by omega)]; exact q0) (by omega) (by omega) fun ρ2 w2 k1 k2 k3 k4 => ?_))
    refine RW.sq (RW.rg (RL.step (MR.mv (v := .int k (sgn n (beVal (l.take n)))) ?_) (RL.step MR.mv (RL.nil (RW.rt ?_)))))
    · show ρ2 3 = _
      rw [k1 3 (by omega)]
      show Value.int k (k.wrap ((beVal (l.take n) : Nat) : Int)) = _
      rw [hk _ (by have := beVal_lt (l.take n); rwa [List.length_take, Nat.min_eq_left hnl] at this)]
    · refine ⟨F1.trans k3, .inl ⟨sgn n (beVal (l.take n)), l.drop n, ?_, rfl, k2, k4 hn⟩⟩
      exact Dec.map_of (Dec.map_of (takeN_yes hnl))
theorem numU_ok {f n : Nat} {be : Nat} {k : IntKind} (ok : ROK P R) (hbe : BeC P be n k) (hn : 1 ≤ n)
    (hf : FnIs P f (cNumU R n be k) 31 2) : RdN P f (dNat n) (fun x => .int k (x : Nat)) := by
  refine ⟨hf.ent, fun w rb sb st h hne => ?_⟩
  refine hf.runs (args := [.pointer (some ⟨rb, 0, none⟩)]) (by simp) (by omega) ?_
  refine RW.sq (RW.rg (RL.step MR.mv (RL.nil (RW.sq (head_ok (n := n) ok h rfl (by omega) hn (fun hlt ρ' w' g1 g2 g3 => ?_) (fun l hl hnl ρ1 hρ => ?_))))))
  · exact ⟨g3, .inr ⟨st_none (fun l hl => Dec.map_none (takeN_none hl)) hlt, by rw [g1]; rfl, g2⟩⟩
  · subst hl
    obtain ⟨ad, c, r1, r2, r3, r4, r5⟩ := h
    show RW P 31 _ _ ρ1 w
    have q0 : ρ1 0 = .pointer (some ⟨rb, 0, none⟩) := by rw [hρ 0 (by omega)]; rfl
    refine RW.sq (RW.gd ok.mo (Below w.heap.size w) (below_drew1 _ _) ?_)
    refine RG.q (v := .agg #[]) (fun w' hS => MR.lg (run_loadAt_row (cs := []) ok.be ok.bn (fun j v hj => by simp at hj))) ?_ rfl rfl (by decide)
    refine RG.q (fun _ _ => MR.mv (v := .pointer (some ⟨rb, 0, none⟩)) (by show upd _ _ _ 0 = _; rw [upd_ne _ _ (by omega)]; exact q0)) (RG.q (fun _ _ => MR.nc rfl) (RG.q (fun _ _ => MR.fa rfl ok.f0) (RG.q (fun w' hS => MR.ld rfl ok.ps (hS.kp _ _ (r1 0 _ rfl))) ?_)))
    refine RG.ca (R := fun v w' => v = .int k (beVal (l.take n) : Nat) ∧ Below w.heap.size w w') hbe.1 (fun h0 => ?_) ?_
    · refine Calls.mono (hbe.2 (World.drew1 w) ad l c (r5.any.kp (drew1_kp w)) hnl) ?_
      rintro e w' ⟨rfl, hb⟩
      exact ⟨_, rfl, ⟨rfl, h0.trans (hb.mono h0.size)⟩, h0.trans (hb.mono h0.size)⟩
    rintro v w1 ⟨rfl, b1⟩
    refine RG.q (fun _ _ => MR.mv) (RG.nil fun _ => ?_)
    have hrb : rb < w.heap.size := World.block_lt_of_cell? w _ (r1 0 _ rfl)
    have F1 : Fr (fun _ => False) rb 0 2 w w1 := Fr.ofBelow b1 hrb
    have h' : RdAt w1 rb sb (some l) := ⟨ad, c, range_keep r1 (b1.block _ hrb), there_keep r2 (b1.block _ hrb), r3, r4, by
      intro j b hj
      obtain ⟨g, o, e, hg, hc⟩ := r5 j b hj
      exact ⟨g, o, e, hg, b1.kp _ _ hc⟩⟩
    refine RW.sq (RW.rg (next_ok ok h' hne hnl (by rw [upd_ne _ _ (by omega), upd_ne _ _ (by omega), upd_ne _ _ (by omega), upd_ne _ _ (by omega), upd_ne _ _ (by omega), upd_ne _ _ (by omega), upd_ne _ _ (by omega)]; exact q0) (by omega) (by omega) fun ρ2 w2 k1 k2 k3 => ?_))
    refine RW.sq (RW.rg (RL.step (MR.mv (v := .int k (beVal (l.take n) : Nat)) ?_) (RL.step MR.mv (RL.nil (RW.rt ?_)))))
    · show ρ2 3 = _
      rw [k1 3 (by omega)]; rfl
    · refine ⟨F1.trans k3, .inl ⟨beVal (l.take n), l.drop n, ?_, rfl, k2⟩⟩
      exact Dec.map_of (takeN_yes hnl)
theorem wrap_sgn32 {x : Nat} (h : x < 256 ^ 4) : IntKind.i32.wrap (x : Int) = sgn 4 x := by
  simp only [Nat.reducePow] at h
  unfold sgn; simp only [Nat.reducePow, Nat.reduceDiv]
  simp [IntKind.wrap, IntKind.signed, IntKind.bits]; split <;> omega
theorem wrap_sgn64 {x : Nat} (h : x < 256 ^ 8) : IntKind.i64.wrap (x : Int) = sgn 8 x := by
  simp only [Nat.reducePow] at h
  unfold sgn; simp only [Nat.reducePow, Nat.reduceDiv]
  simp [IntKind.wrap, IntKind.signed, IntKind.bits]; split <;> omega
def cI64 (R : RN) : MCode := .sq (.rg [.mv 2 (.c (.int .i64 0))]) (.sq (.rg [.mv 3 (.t 0), .ca 4 R.r64 [.t 3], .cv 5 R.T.u64 R.T.i64 4, .mv 2 (.t 5)]) .rt)
theorem i64_ok {f : Nat} (ok : ROK P R) (h1 : R.T.u64 ≠ 0) (h2 : R.T.i64 ≠ 0) (hr : RdN P R.r64 (dNat 8) (fun x => .int .u64 (x : Nat))) (hf : FnIs P f (cI64 R) 6 2) : RdN P f (dInt 8) (fun x => .int .i64 x) := by
  refine ⟨hf.ent, fun w rb sb st h hne => ?_⟩
  refine hf.runs (args := [.pointer (some ⟨rb, 0, none⟩)]) (by simp) (by omega) ?_
  refine RW.sq (RW.rg (RL.step MR.mv (RL.nil (RW.sq (RW.rg (RL.step MR.mv (RL.ca (R := fun v w' => Fr (fun _ => False) rb 0 2 w w' ∧ ((∃ x r, st.bind (dNat 8) = some (x, r) ∧ v = .int .u64 (x : Nat) ∧ RdAt w' rb sb (some r)) ∨ (st.bind (dNat 8) = none ∧ v = .int .u64 ((0 : Nat) : Int) ∧ RdAt w' rb sb none))) hr.1 ?_ ?_)))))))
  · refine Calls.mono (hr.2 w rb sb st h hne) ?_
    rintro e w' ⟨hF, ⟨x, r, g1, rfl, g2⟩ | ⟨g1, ⟨x, rfl⟩, g2⟩⟩
    · exact ⟨_, rfl, hF, .inl ⟨x, r, g1, rfl, g2⟩⟩
    · exact ⟨_, rfl, hF, .inr ⟨g1, rfl, g2⟩⟩
  rintro v w1 ⟨hF, ⟨x, r, g1, rfl, g2⟩ | ⟨g1, rfl, g2⟩⟩
  · have hx : x < 256 ^ 8 := by
      cases st with
      | none => simp at g1
      | some l => exact (dNat_some g1).1
    refine RL.step (MR.cvI rfl (ok.tk.u64 h1) (ok.tk.i64 h2)) (RL.step MR.mv (RL.nil (RW.rt ⟨hF, .inl ⟨sgn 8 x, r, ?_, ?_, g2⟩⟩)))
    · cases st with
      | none => simp at g1
      | some l => exact Dec.map_of g1
    · show Ending.returned (Value.int .i64 (IntKind.i64.wrap (x : Int))) = _
      rw [wrap_sgn64 hx]
  · refine RL.step (MR.cvI rfl (ok.tk.u64 h1) (ok.tk.i64 h2)) (RL.step MR.mv (RL.nil (RW.rt ⟨hF, .inr ⟨?_, rfl, g2⟩⟩)))
    cases st with
    | none => rfl
    | some l => exact Dec.map_none g1
end
set_option linter.unusedVariables false
def Got {α : Type} (d : Dec α) (st : Option (List UInt8)) (x : α) : Option (List UInt8) → Prop
  | some r => st.bind d = some (x, r)
  | none => st.bind d = none
section
variable {α β : Type} {d : Dec α} {st st1 st2 : Option (List UInt8)} {x : α} {y : β}
theorem Got.map {f : α → β} (h : Got d st x st1) : Got (d.map f) st (f x) st1 := by
  cases st1 with
  | none => cases st with
    | none => rfl
    | some l => exact Dec.map_none h
  | some r => cases st with
    | none => simp [Got] at h
    | some l => exact Dec.map_of h
theorem Got.bind {k : α → Dec β} (h : Got d st x st1) (h2 : Got (k x) st1 y st2) : Got (d.bind k) st y st2 := by
  cases st1 with
  | none =>
    cases st2 with
    | some r => simp [Got] at h2
    | none => cases st with
      | none => rfl
      | some l => exact Dec.bind_none h
  | some r =>
    cases st with
    | none => simp [Got] at h
    | some l =>
      have e : d.bind k l = k x r := Dec.bind_of h
      cases st2 with
      | some r2 => show d.bind k l = _; rw [e]; exact h2
      | none => show d.bind k l = _; rw [e]; exact h2
theorem Got.pure (x : α) : Got (Dec.pure x) st x st := by cases st <;> rfl
theorem Got.out (h : Got d none x st1) : st1 = none := by cases st1 with | none => rfl | some r => simp [Got] at h
theorem Got.failed {y : α} (h : ∀ l, st = some l → d l = none) : Got d st y none := by
  cases st with
  | none => rfl
  | some l => exact h l rfl
end
def Rb (w : World) (sb : Nat) : Nat → Prop := fun b => b = sb ∨ w.heap.size ≤ b
def RdC (P : Program) (f : Nat) {α : Type} (d : Dec α) (R : World → (Nat → Prop) → Value → α → Prop) : Prop := entersB P f = true ∧ ∀ (w : World) (rb sb : Nat) (st : Option (List UInt8)), RdAt w rb sb st → sb ≠ rb →
  Calls P f #[.pointer (some ⟨rb, 0, none⟩)] w (fun e w' => ∃ v x st', e = .returned v ∧ Fr (fun _ => False) rb 0 2 w w' ∧ Got d st x st' ∧ RdAt w' rb sb st' ∧ R w' (Rb w sb) v x)
def PlB {α : Type} (V : α → Value) (B : α → Prop) : World → (Nat → Prop) → Value → α → Prop := fun _ _ v x => v = V x ∧ B x
theorem RdN.c {P : Program} {f : Nat} {α : Type} [Inhabited α] {d : Dec α} {V : α → Value} {B : α → Prop} (h : RdN P f d V) (hB : ∀ l x r, d l = some (x, r) → B x) (h0 : B default) : RdC P f d (PlB V B) := by
  refine ⟨h.1, fun w rb sb st hr hne => Calls.mono (h.2 w rb sb st hr hne) ?_⟩
  rintro e w' ⟨hF, ⟨x, r, g1, rfl, g2⟩ | ⟨g1, rfl, g2⟩⟩
  · refine ⟨_, x, some r, rfl, hF, g1, g2, rfl, ?_⟩
    cases st with
    | none => simp at g1
    | some l => exact hB l x r g1
  · exact ⟨_, default, none, rfl, hF, g1, g2, rfl, h0⟩
def RdCS (P : Program) (f : Nat) {α : Type} (d : Dec α) (R : World → (Nat → Prop) → Value → α → Prop) : Prop := entersB P f = true ∧ ∀ (w : World) (rb sb : Nat) (st : Option (List UInt8)), RdAt w rb sb st → sb ≠ rb →
  Calls P f #[.pointer (some ⟨rb, 0, none⟩)] w (fun e w' => ∃ v x st', e = .returned v ∧ Fr (fun _ => False) rb 0 2 w w' ∧ Got d st x st' ∧ RdAt w' rb sb st' ∧ R w' (Rb w sb) v x ∧ (st' ≠ none → AdS w' rb))
theorem RdCS.n {P : Program} {f : Nat} {α : Type} {d : Dec α} {R : World → (Nat → Prop) → Value → α → Prop} (h : RdCS P f d R) : RdC P f d R := by
  refine ⟨h.1, fun w rb sb st hr hne => Calls.mono (h.2 w rb sb st hr hne) ?_⟩
  rintro e w' ⟨v, x, st', g1, g2, g3, g4, g5, _⟩
  exact ⟨v, x, st', g1, g2, g3, g4, g5⟩
theorem RdNS.c {P : Program} {f : Nat} {α : Type} [Inhabited α] {d : Dec α} {V : α → Value} {B : α → Prop} (h : RdNS P f d V) (hB : ∀ l x r, d l = some (x, r) → B x) (h0 : B default) : RdCS P f d (PlB V B) := by
  refine ⟨h.1, fun w rb sb st hr hne => Calls.mono (h.2 w rb sb st hr hne) ?_⟩
  rintro e w' ⟨hF, ⟨x, r, g1, rfl, g2, g3⟩ | ⟨g1, rfl, g2⟩⟩
  · refine ⟨_, x, some r, rfl, hF, g1, g2, ⟨rfl, ?_⟩, fun _ => g3⟩
    cases st with
    | none => simp at g1
    | some l => exact hB l x r g1
  · exact ⟨_, default, none, rfl, hF, g1, g2, ⟨rfl, h0⟩, fun e => absurd rfl e⟩
def SpanC (P : Program) (f : Nat) : Prop := entersB P f = true ∧ ∀ (w : World) (rb sb : Nat) (st : Option (List UInt8)) (n : Int), RdAt w rb sb st → sb ≠ rb →
  Calls P f #[.pointer (some ⟨rb, 0, none⟩), .int .i64 n] w (fun e w' => ∃ ad l st', e = .returned (.slice ad l.length l.length) ∧ Fr (fun _ => False) rb 0 2 w w' ∧ Got (dSpan n) st l st' ∧ RdAt w' rb sb st' ∧ okAd ad ∧ BytesAt w' (· = sb) ad l)
def SpanCS (P : Program) (f : Nat) : Prop := entersB P f = true ∧ ∀ (w : World) (rb sb : Nat) (st : Option (List UInt8)) (n : Int), RdAt w rb sb st → sb ≠ rb →
  Calls P f #[.pointer (some ⟨rb, 0, none⟩), .int .i64 n] w (fun e w' => ∃ ad l st', e = .returned (.slice ad l.length l.length) ∧ Fr (fun _ => False) rb 0 2 w w' ∧ Got (dSpan n) st l st' ∧ RdAt w' rb sb st' ∧ okAd ad ∧ BytesAt w' (· = sb) ad l ∧ (AdS w rb → st' ≠ none → ad ≠ none) ∧ (st' = none → ad = none ∧ l = []))
section
variable {P : Program} {N : Nat} {Q : Exit → (Nat → Value) → World → Prop} {ρ : Nat → Value} {w w' : World} {ms : List MOp} {R : RN} {rb sb : Nat} {st : Option (List UInt8)}
theorem RL.rd {α : Type} {dec : Dec α} {C : World → (Nat → Prop) → Value → α → Prop} {f d : Nat} {y : MX} (hc : RdC P f dec C) (hx : xof ρ y = .pointer (some ⟨rb, 0, none⟩)) (h : RdAt w rb sb st) (hne : sb ≠ rb) (hy : MX.lt N y = true) (hd : d < N)
    (k : ∀ v x st' w', Fr (fun _ => False) rb 0 2 w w' → Got dec st x st' → RdAt w' rb sb st' → C w' (Rb w sb) v x → RL P N ms Q (upd ρ d v) w') : RL P N (.ca d f [y] :: ms) Q ρ w := by
  refine RL.ca (R := fun v w' => ∃ x st', Fr (fun _ => False) rb 0 2 w w' ∧ Got dec st x st' ∧ RdAt w' rb sb st' ∧ C w' (Rb w sb) v x) hc.1 ?_ ?_ hd (by intro x hx; simp only [List.mem_singleton] at hx; subst hx; exact hy)
  · simp only [List.map_cons, List.map_nil, hx]
    refine Calls.mono (hc.2 w rb sb st h hne) ?_
    rintro e w' ⟨v, x, st', rfl, h1, h2, h3, h4⟩
    exact ⟨v, rfl, x, st', h1, h2, h3, h4⟩
  · rintro v w' ⟨x, st', h1, h2, h3, h4⟩
    exact k v x st' w' h1 h2 h3 h4
theorem RL.rdS {α : Type} {dec : Dec α} {C : World → (Nat → Prop) → Value → α → Prop} {f d : Nat} {y : MX} (hc : RdCS P f dec C) (hx : xof ρ y = .pointer (some ⟨rb, 0, none⟩)) (h : RdAt w rb sb st) (hne : sb ≠ rb) (hy : MX.lt N y = true) (hd : d < N)
    (k : ∀ v x st' w', Fr (fun _ => False) rb 0 2 w w' → Got dec st x st' → RdAt w' rb sb st' → C w' (Rb w sb) v x → (st' ≠ none → AdS w' rb) → RL P N ms Q (upd ρ d v) w') : RL P N (.ca d f [y] :: ms) Q ρ w := by
  refine RL.ca (R := fun v w' => ∃ x st', Fr (fun _ => False) rb 0 2 w w' ∧ Got dec st x st' ∧ RdAt w' rb sb st' ∧ C w' (Rb w sb) v x ∧ (st' ≠ none → AdS w' rb)) hc.1 ?_ ?_ hd (by intro x hx; simp only [List.mem_singleton] at hx; subst hx; exact hy)
  · simp only [List.map_cons, List.map_nil, hx]
    refine Calls.mono (hc.2 w rb sb st h hne) ?_
    rintro e w' ⟨v, x, st', rfl, h1, h2, h3, h4, h5⟩
    exact ⟨v, rfl, x, st', h1, h2, h3, h4, h5⟩
  · rintro v w' ⟨x, st', h1, h2, h3, h4, h5⟩
    exact k v x st' w' h1 h2 h3 h4 h5
theorem RL.spanS {f d : Nat} {y z : MX} {n : Int} (hc : SpanCS P f) (hx : xof ρ y = .pointer (some ⟨rb, 0, none⟩)) (hz : xof ρ z = .int .i64 n) (h : RdAt w rb sb st) (hne : sb ≠ rb) (hy : MX.lt N y = true) (hzN : MX.lt N z = true) (hd : d < N)
    (k : ∀ ad l st' w', Fr (fun _ => False) rb 0 2 w w' → Got (dSpan n) st l st' → RdAt w' rb sb st' → okAd ad → BytesAt w' (· = sb) ad l → (AdS w rb → st' ≠ none → ad ≠ none) → (st' = none → ad = none ∧ l = []) → RL P N ms Q (upd ρ d (.slice ad l.length l.length)) w') : RL P N (.ca d f [y, z] :: ms) Q ρ w := by
  refine RL.ca (R := fun v w' => ∃ ad l st', v = .slice ad (List.length l) (List.length l) ∧ Fr (fun _ => False) rb 0 2 w w' ∧ Got (dSpan n) st l st' ∧ RdAt w' rb sb st' ∧ okAd ad ∧ BytesAt w' (· = sb) ad l ∧ (AdS w rb → st' ≠ none → ad ≠ none) ∧ (st' = none → ad = none ∧ l = [])) hc.1 ?_ ?_ hd (by intro x hx; simp only [List.mem_cons, List.not_mem_nil, or_false] at hx; exact hx.elim (fun e => e ▸ hy) (fun e => e ▸ hzN))
  · simp only [List.map_cons, List.map_nil, hx, hz]
    refine Calls.mono (hc.2 w rb sb st n h hne) ?_
    rintro e w' ⟨ad, l, st', rfl, h1⟩
    exact ⟨_, rfl, ad, l, st', rfl, h1⟩
  · rintro v w' ⟨ad, l, st', rfl, h1, h2, h3, h4, h5, h6, h7⟩
    exact k ad l st' w' h1 h2 h3 h4 h5 h6 h7
def nextV (R : RN) (s t : Nat) : List MOp := [.mv t (.t 0), .mv (t + 1) (.t 0), .nc (t + 2) (t + 1), .fa (t + 3) R.tR (t + 2) 0, .ld (t + 4) R.T.u8s (t + 3), .mv (t + 5) (.t s), .sl (t + 6) R.T.u8s (t + 4) (some (.t (t + 5))) none none, .nc (t + 7) t, .fa (t + 8) R.tR (t + 7) 0, .st R.T.u8s (t + 8) (t + 6)]
theorem nextV_okS {n s t : Nat} {l : List UInt8} (ok : ROK P R) (h : RdAt w rb sb (some l)) (hne : sb ≠ rb) (hn : n ≤ l.length) (h0 : ρ 0 = .pointer (some ⟨rb, 0, none⟩)) (hs : ρ s = .int .i64 (n : Nat)) (hst : s < t) (ht : 0 < t) (hN : t + 9 ≤ N)
    (hQ : ∀ ρ' w', (∀ s, s < t → ρ' s = ρ s) → RdAt w' rb sb (some (l.drop n)) → Fr (fun _ => False) rb 0 2 w w' → (1 ≤ n → AdS w' rb) → Q .normal ρ' w') : RL P N (nextV R s t) Q ρ w := by
  obtain ⟨ad, c, h1, h2, h3, h4, h5⟩ := h
  obtain ⟨ad', g1, g2, g3, _, g5⟩ := run_sliceFromS (P := P) (w := w) ok.tk.u8s ok.cu h3 hn h4
  unfold nextV
  refine RL.step (MR.mv h0 (ltT (by omega))) (RL.step (MR.mv (v := .pointer (some ⟨rb, 0, none⟩)) (by show upd _ _ _ 0 = _; rw [upd_ne _ _ (by omega)]; exact h0) (ltT (by omega))) (RL.step (MR.nc (upd_same _ _ _) (by omega)) (RL.step (MR.fa (upd_same _ _ _) ok.f0 (by omega))
    (RL.step (MR.ld (upd_same _ _ _) ok.ps (h1 0 _ rfl) (by omega)) (RL.step (MR.mv (v := .int .i64 (n : Nat)) (by show upd _ _ _ s = _; rw [upd_ne _ _ (by omega), upd_ne _ _ (by omega), upd_ne _ _ (by omega), upd_ne _ _ (by omega), upd_ne _ _ (by omega)]; exact hs) (ltT (by omega)))
      (RL.step (MR.sl (v := .slice ad' (l.length - n) (c - n)) (by rw [upd_ne _ _ (by omega), upd_same]; simp only [Option.map, xof, upd_same]; exact g1) (by intro z hz; cases hz; exact ltT (by omega)) (by simp) (by simp) (by omega)) (RL.step (MR.nc (p := ⟨rb, 0, none⟩) ?_ (by omega)) (RL.step (MR.fa (upd_same _ _ _) ok.f0 (by omega))
      (RL.st1 (v := .slice ad' (l.length - n) (c - n)) (b := rb) (o := 0 + 0) (upd_same _ _ _) ?_ rfl ok.cs (there_in h2 (by omega)) (RL.nil ?_) (by omega) (by omega)) (by omega)) (by omega)) (by omega)) (by omega)) (by omega)) (by omega)) (by omega)) (by omega)) (by omega)
  · rw [upd_ne _ _ (by omega), upd_ne _ _ (by omega), upd_ne _ _ (by omega), upd_ne _ _ (by omega), upd_ne _ _ (by omega), upd_ne _ _ (by omega), upd_same]
  · rw [upd_ne _ _ (by omega), upd_ne _ _ (by omega), upd_same]
  · refine hQ _ _ (fun s hs => ?_) ?_ (Fr.put _ (by omega) (by simp)) (fun h1n => ?_)
    · rw [upd_ne _ _ (by omega), upd_ne _ _ (by omega), upd_ne _ _ (by omega), upd_ne _ _ (by omega), upd_ne _ _ (by omega), upd_ne _ _ (by omega), upd_ne _ _ (by omega), upd_ne _ _ (by omega), upd_ne _ _ (by omega)]
    · have := RdAt.put (l := l.drop n) (ad := ad') (c := c - n) h1 h2 rfl g2 (by rw [List.length_drop]; omega) (g3 rfl h5) hne
      rw [List.length_drop] at this
      exact this
    · obtain ⟨x, hx⟩ : ∃ x, l[0]? = some x := ⟨_, List.getElem?_eq_getElem (by omega)⟩
      obtain ⟨g, o, e, _⟩ := h5 0 x hx
      obtain ⟨a', e'⟩ := g5 _ e
      subst e'
      have ht0 : w.there rb (0 + 0) 1 := there_in h2 (by omega)
      exact ⟨a', _, _, World.rangeAt_setCells_same w rb (0 + 0) [.slice (some a') (l.length - n) (c - n)] ht0 0 _ rfl⟩
theorem nextV_ok {n s t : Nat} {l : List UInt8} (ok : ROK P R) (h : RdAt w rb sb (some l)) (hne : sb ≠ rb) (hn : n ≤ l.length) (h0 : ρ 0 = .pointer (some ⟨rb, 0, none⟩)) (hs : ρ s = .int .i64 (n : Nat)) (hst : s < t) (ht : 0 < t) (hN : t + 9 ≤ N)
    (hQ : ∀ ρ' w', (∀ s, s < t → ρ' s = ρ s) → RdAt w' rb sb (some (l.drop n)) → Fr (fun _ => False) rb 0 2 w w' → Q .normal ρ' w') : RL P N (nextV R s t) Q ρ w :=
  nextV_okS ok h hne hn h0 hs hst ht hN fun ρ' w' a b c _ => hQ ρ' w' a b c
def spanG (R : RN) : List GOp := [⟨0, none, .mv 6 (.t 0)⟩, ⟨1, none, .nc 7 6⟩, ⟨2, none, .fa 8 R.tR 7 0⟩, ⟨3, none, .ld 9 R.T.u8s 8⟩, ⟨4, none, .ln 10 R.T.u8s 9⟩, ⟨5, none, .mv 11 (.t 1)⟩, ⟨6, none, .bi 12 .lss R.T.int (.t 10) (.t 11)⟩, ⟨7, none, .mv 13 (.t 12)⟩, ⟨8, some (7, 13, false), .mv 14 (.t 1)⟩, ⟨9, some (7, 13, false), .bi 15 .lss R.T.int (.t 14) (.c (.int .i64 0))⟩, ⟨10, none, .pk 16 (.t 13) (.c (.bool true)) (.t 15)⟩]
def cSpan (R : RN) : MCode :=
  .sq (.rg [.mv 4 (.c .nslice)]) (.sq (.sq (.gr false (spanG R)) (.cd 16 (failM R .nslice 4 17) .sk))
    (.sq (.rg [.mv 23 (.t 0), .nc 24 23, .fa 25 R.tR 24 0, .ld 26 R.T.u8s 25, .mv 27 (.t 1), .mv 28 (.t 1), .sl 29 R.T.u8s 26 none (some (.t 27)) (some (.t 28)), .mv 5 (.t 29)])
    (.sq (.rg (nextV R 1 30)) (.sq (.rg [.mv 39 (.t 5), .mv 4 (.t 39)]) .rt))))
theorem dSpan_none {n : Int} {l : List UInt8} (h : n < 0 ∨ (l.length : Int) < n) : dSpan n l = none := by
  unfold dSpan
  split
  · rfl
  · exact takeN_none (by omega)
theorem BytesAt.take {F : Nat → Prop} {ad : Option Addr} {l : List UInt8} (h : BytesAt w F ad l) (n : Nat) : BytesAt w F ad (l.take n) := by
  intro j b hj
  rw [List.getElem?_take] at hj
  split at hj
  · exact h j b hj
  · simp at hj
theorem span_okS {f : Nat} (ok : ROK P R) (hf : FnIs P f (cSpan R) 40 4) : SpanCS P f := by
  refine ⟨hf.ent, fun w rb sb st n h hne => ?_⟩
  refine hf.runs (args := [.pointer (some ⟨rb, 0, none⟩), .int .i64 n]) (by simp) (by omega) ?_
  obtain ⟨ad, c, r1, r2, r3, r4, r5⟩ := h.all
  have hbad : (n < 0 ∨ ((stL st).length : Int) < n) → ∀ l, st = some l → dSpan n l = none := by
    rintro hn l rfl; exact dSpan_none hn
  have fin : ∀ (ρ : Nat → Value) (c16 : Bool), (c16 = true ↔ (n < 0 ∨ ((stL st).length : Int) < n)) → ρ 0 = .pointer (some ⟨rb, 0, none⟩) → ρ 1 = .int .i64 n → ρ 16 = .bool c16 →
      RW P 40 (.cd 16 (failM R .nslice 4 17) .sk) (thenR (RW P 40 (.sq (.rg [.mv 23 (.t 0), .nc 24 23, .fa 25 R.tR 24 0, .ld 26 R.T.u8s 25, .mv 27 (.t 1), .mv 28 (.t 1), .sl 29 R.T.u8s 26 none (some (.t 27)) (some (.t 28)), .mv 5 (.t 29)])
    (.sq (.rg (nextV R 1 30)) (.sq (.rg [.mv 39 (.t 5), .mv 4 (.t 39)]) .rt))) (retQ 4 (fun e w' => ∃ ad l st', e = .returned (.slice ad l.length l.length) ∧ Fr (fun _ => False) rb 0 2 w w' ∧ Got (dSpan n) st l st' ∧ RdAt w' rb sb st' ∧ okAd ad ∧ BytesAt w' (· = sb) ad l ∧ (AdS w rb → st' ≠ none → ad ≠ none) ∧ (st' = none → ad = none ∧ l = [])))) (retQ 4 (fun e w' => ∃ ad l st', e = .returned (.slice ad l.length l.length) ∧ Fr (fun _ => False) rb 0 2 w w' ∧ Got (dSpan n) st l st' ∧ RdAt w' rb sb st' ∧ okAd ad ∧ BytesAt w' (· = sb) ad l ∧ (AdS w rb → st' ≠ none → ad ≠ none) ∧ (st' = none → ad = none ∧ l = [])))) ρ w := by
    intro ρ c16 hc h0 h1 h16
    refine RW.cd h16 (fun e => ?_) (fun e => RW.sk ?_)
    · refine fail_ok ok h h0 (by omega) (by omega) (by omega) fun ρ' w' g1 g2 g3 => ?_
      refine ⟨none, [], none, ?_, g3, Got.failed (hbad (hc.1 e)), g2, .inl rfl, (fun j b hj => by simp at hj), fun _ h => absurd rfl h, fun _ => ⟨rfl, rfl⟩⟩
      show Ending.returned (ρ' 4) = _
      rw [g1]; rfl
    · have hge : ¬ (n < 0 ∨ ((stL st).length : Int) < n) := fun x => by have := hc.2 x; rw [e] at this; simp at this
      obtain ⟨m, rfl⟩ : ∃ m : Nat, n = (m : Nat) := ⟨n.toNat, by omega⟩
      have hm : m ≤ (stL st).length := by omega
      show RW P 40 _ _ _ _
      refine RW.sq (RW.rg (RL.step (MR.mv h0) (RL.step (MR.nc rfl) (RL.step (MR.fa rfl ok.f0) (RL.step (MR.ld rfl ok.ps (r1 0 _ rfl)) (RL.step (MR.mv (v := .int .i64 (m : Nat)) h1) (RL.step (MR.mv (v := .int .i64 (m : Nat)) h1)
        (RL.step (MR.sl (v := .slice ad m m) (run_slice3 (P := P) (w := w) ok.tk.u8s ok.cu r3 (by omega))) (RL.step MR.mv (RL.nil ?_))))))))))
      cases st with
      | none =>
        have hm0 : m = 0 := by simpa [stL] using hm
        subst hm0
        obtain ⟨b1, b2⟩ := h
        obtain ⟨ad', g1, g2, g3, g4⟩ := run_sliceFrom (P := P) (w := w) (l := 0) (n := 0) (c := 0) (ad := none) ok.tk.u8s ok.cu (.inl rfl) (by omega) (by omega)
        have ead : ad = none ∧ c = 0 := by have := r1 0 _ rfl; have h' := b1 0 _ rfl; rw [h'] at this; simp only [Option.some.injEq, Value.slice.injEq] at this; exact ⟨this.1.symm, this.2.2.symm⟩
        obtain ⟨rfl, rfl⟩ := ead
        have ead' : ad' = none := g4 rfl
        subst ead'
        unfold nextV
        refine RW.sq (RW.rg (RL.step (MR.mv (v := .pointer (some ⟨rb, 0, none⟩)) h0) (RL.step (MR.mv (v := .pointer (some ⟨rb, 0, none⟩)) h0) (RL.step (MR.nc rfl) (RL.step (MR.fa rfl ok.f0) (RL.step (MR.ld rfl ok.ps (b1 0 _ rfl)) (RL.step (MR.mv (v := .int .i64 (0 : Nat)) h1)
          (RL.step (MR.sl (v := .slice none 0 0) g1) (RL.step (MR.nc rfl) (RL.step (MR.fa rfl ok.f0) (RL.st1 (v := .slice none 0 0) (b := rb) (o := 0 + 0) rfl rfl rfl ok.cs (there_in b2 (by omega)) (RL.nil ?_))))))))))))
        refine RW.sq (RW.rg (RL.step (MR.mv (v := .slice none 0 0) rfl) (RL.step MR.mv (RL.nil (RW.rt ?_)))))
        have e2 := range_set (k := 0) (v := .slice none 0 0) b1 (there_in b2 (by omega))
        exact ⟨none, [], none, rfl, Fr.put _ (by omega) (by simp), rfl, ⟨e2, World.there_setCells b2 _ _ _⟩, .inl rfl, (fun j b hj => by simp at hj), fun _ h => absurd rfl h, fun _ => ⟨rfl, rfl⟩⟩
      | some l =>
        have hlen : (l.take m).length = m := by rw [List.length_take]; simp only [stL] at hm; omega
        refine RW.sq (RW.rg (nextV_ok (n := m) ok h hne hm h0 h1 (by omega) (by omega) (by omega) fun ρ2 w2 k1 k2 k3 => ?_))
        refine RW.sq (RW.rg (RL.step (MR.mv (v := .slice ad m m) ?_) (RL.step MR.mv (RL.nil (RW.rt ?_)))))
        · show ρ2 5 = _
          rw [k1 5 (by omega)]; rfl
        · refine ⟨ad, l.take m, some (l.drop m), ?_, k3, ?_, k2, r3, ?_, fun hA _ => ?_, fun h => by cases h⟩
          · rw [hlen]; rfl
          · show dSpan (m : Nat) l = _
            unfold dSpan
            rw [if_neg (by omega), Int.toNat_natCast]
            exact takeN_yes (by simpa [stL] using hm)
          · intro j b hj
            obtain ⟨g, o, e1, e2, e3⟩ := r5.take m j b hj
            have hg := World.block_lt_of_cell? w _ e3
            exact ⟨g, o, e1, e2, by rw [cell_of_heap (k3.block g hg (by rw [e2]; exact hne) (fun x => x))]; exact e3⟩
          · obtain ⟨a, n', c', hc⟩ := hA
            have h0' : w.cell? ⟨rb, 0, none⟩ = some (.slice ad (stL (some l)).length c) := r1 0 _ rfl
            rw [hc] at h0'
            intro e0
            rw [e0] at h0'
            simp at h0'
  refine RW.sq (RW.rg (RL.step MR.mv (RL.nil (RW.sq (RW.sq (RW.gf (fun w' => w' = w) rfl ?_))))))
  refine RG.q (fun _ _ => MR.mv (v := .pointer (some ⟨rb, 0, none⟩)) rfl) (RG.q (fun _ _ => MR.nc rfl) (RG.q (fun _ _ => MR.fa rfl ok.f0) (RG.q (fun w' hw => MR.ld rfl ok.ps (by rw [hw]; exact r1 0 _ rfl)) (RG.q (fun _ _ => MR.ln ok.tk.u8s rfl)
    (RG.q (fun _ _ => MR.mv (v := .int .i64 n) rfl) (RG.q (v := .bool (decide (((stL st).length : Int) < n))) (fun _ _ => MR.biE rfl) (RG.q (fun _ _ => MR.mv (v := .bool (decide (((stL st).length : Int) < n))) rfl) ?_)))))))
  by_cases e : ((stL st).length : Int) < n
  · rw [decide_eq_true e]
    refine RG.no (d := 14) (by exact ⟨by decide, .inl rfl⟩) (RG.no (d := 15) (by exact ⟨by decide, .inl rfl⟩) (RG.q (fun _ _ => MR.pk (v := .bool true) rfl) (RG.nil fun _ => ?_)))
    exact fin _ true ⟨fun _ => .inr e, fun _ => rfl⟩ rfl rfl rfl
  · rw [decide_eq_false e]
    refine RG.q (fun _ _ => MR.mv (v := .int .i64 n) rfl) (RG.q (v := .bool (decide (n < 0))) (fun _ _ => MR.biE rfl) (RG.q (fun _ _ => MR.pk (v := .bool (decide (n < 0))) rfl) (RG.nil fun _ => ?_)))
    refine fin _ (decide (n < 0)) ⟨fun x => .inl (of_decide_eq_true x), fun x => ?_⟩ rfl rfl rfl
    rcases x with x | x
    · exact decide_eq_true x
    · exact absurd x e
end
end Go.Kx
namespace Go.Kx
open Go.RowKit
set_option linter.unusedSimpArgs false
set_option linter.unusedVariables false
structure FnIs2 (P : Program) (f : Nat) (m : MCode) (N r1 r2 : Nat) : Prop where
  ex : ∃ fn c, P.funcs[f]? = some fn ∧ fn.body = some c ∧ fits m c = true ∧ fn.ntmps = N ∧ fn.results = #[.tmp r1, .tmp r2]
  ent : entersB P f = true
def isFn2 (P : Program) (f : Nat) (m : MCode) (N r1 r2 : Nat) : Bool :=
  entersB P f && (match P.funcs[f]? with
    | some fn => Nat.beq fn.ntmps N && (match fn.results.toList with | [.tmp s1, .tmp s2] => Nat.beq s1 r1 && Nat.beq s2 r2 | _ => false) && (match fn.body with | some c => fits m c | none => false)
    | none => false)
theorem FnIs2.of {P : Program} {f N r1 r2 : Nat} {m : MCode} (h : isFn2 P f m N r1 r2 = true) : FnIs2 P f m N r1 r2 := by
  simp only [isFn2, Bool.and_eq_true] at h
  obtain ⟨h1, h2⟩ := h
  refine ⟨?_, h1⟩
  cases hf : P.funcs[f]? with
  | none => simp [hf] at h2
  | some fn =>
    simp only [hf, Bool.and_eq_true, Nat.beq_eq] at h2
    obtain ⟨⟨g1, g2⟩, g3⟩ := h2
    cases hb : fn.body with
    | none => simp [hb] at g3
    | some c =>
      simp only [hb] at g3
      refine ⟨fn, c, rfl, hb, g3, g1, ?_⟩
      split at g2
      · rename_i s1 s2 heq
        simp only [Bool.and_eq_true, Nat.beq_eq] at g2
        obtain ⟨rfl, rfl⟩ := g2
        exact Array.toList_inj.1 heq
      · simp at g2
def retQ2 (r1 r2 : Nat) (R : Ending → World → Prop) : Exit → (Nat → Value) → World → Prop
  | .ret, ρ, w => R (.returned (.tuple #[ρ r1, ρ r2])) w
  | _, _, _ => False
section
variable {P : Program} {N : Nat} {Q : Exit → (Nat → Value) → World → Prop} {ρ : Nat → Value} {w w' : World} {ms : List MOp} {R : RN} {rb sb : Nat} {st : Option (List UInt8)}
theorem FnIs2.runs {f r1 r2 : Nat} {m : MCode} (h : FnIs2 P f m N r1 r2) {args : List Value} {R : Ending → World → Prop} (hle : args.length ≤ N) (h1 : r1 < N) (h2 : r2 < N)
    (hw : RW P N m (retQ2 r1 r2 R) (args0 args) w) : Calls P f args.toArray w R := by
  obtain ⟨fn, c, g1, g2, g3, g4, g5⟩ := h.ex
  refine calls_leaf g1 g2 g3 g4 hle fun a hl => (hw a hl).mono fun e a w hu => ?_
  cases e <;> simp only [up, retQ2] at hu
  all_goals first | (obtain ⟨ρ, h1, h2⟩ := hu; exact h2.elim) | skip
  · obtain ⟨ρ, k1, k2⟩ := hu
    refine bodyPost_ret (v := .tuple #[ρ r1, ρ r2]) ?_ k1.defers k2
    rw [results_tmp2 g5]
    congr 2
    have e1 := k1.get r1 h1
    have e2 := k1.get r2 h2
    simp only [rd] at e1 e2
    rw [e1, e2]
  all_goals exact hu.elim
theorem byte_at {F : Nat → Prop} {ad : Option Addr} {l : List UInt8} {k : Nat} {b : UInt8} (h : BytesAt w F ad l) (hb : l[k]? = some b) : ∃ g o, ad = some ⟨g, o, none⟩ ∧ w.cell? ⟨g, o + k * 1, none⟩ = some (.int .u8 (b.toNat : Nat)) ∧ k < l.length := by
  obtain ⟨g, o, e, _, hc⟩ := h k b hb
  exact ⟨g, o, e, by rw [Nat.mul_one]; exact hc, (List.getElem?_eq_some_iff.1 hb).1⟩
/-! ### The reader's Uvarint -/
end
set_option linter.unusedVariables false
def VK (k : PK) (v : Value) : Prop := match k with | .uuid => v = .agg v.cells | _ => v.oneCell' = true
def PrC (k : PK) : World → (Nat → Prop) → Value → D → Prop := fun w F v d => VK k v ∧ v.cells.size = k.cells ∧ v.cells.toList.all (·.oneCell') = true ∧ RepP w F k v.cells.toList d
section
variable {P : Program} {N : Nat} {Q : Exit → (Nat → Value) → World → Prop} {ρ : Nat → Value} {w w' : World} {ms : List MOp} {R : RN} {rb sb : Nat} {st : Option (List UInt8)}
theorem RdC.map {α β : Type} {f : Nat} {d : Dec α} {C : World → (Nat → Prop) → Value → α → Prop} {C' : World → (Nat → Prop) → Value → β → Prop} {g : α → β} (h : RdC P f d C) (hg : ∀ w F v x, C w F v x → C' w F v (g x)) : RdC P f (d.map g) C' := by
  refine ⟨h.1, fun w rb sb st hr hne => Calls.mono (h.2 w rb sb st hr hne) ?_⟩
  rintro e w' ⟨v, x, st', rfl, h1, h2, h3, h4⟩
  exact ⟨v, g x, st', rfl, h1, h2.map, h3, hg _ _ _ _ h4⟩
/-! ### Lengths of lists -/
def I32 (n : Int) : Prop := -2147483648 ≤ n ∧ n ≤ 2147483647
/-! ### Texts -/
theorem conv_str {l : List UInt8} {c : Nat} {ad : Option Addr} {T U V : Nat} {F : Nat → Prop} (hT : sliceOf P T U = true) (hU : intTy P U .u8 = true) (hV : strTy P V = true) (had : okAd ad) (hb : BytesAt w F ad l) : (convert T V (.slice ad l.length c)).run P w = .ok (.string ⟨l.toArray⟩) w := by
  have hU' : P.underlying U = some (.int .u8) := intTy_eq hU
  cases ad with
  | none =>
    have : l = [] := by
      cases l with
      | nil => rfl
      | cons b l => obtain ⟨g, o, e, _⟩ := hb 0 b rfl; cases e
    subst this
    rw [run_convert_bytes_string w T V U none _ c (sliceOf_eq hT) hU' (strTy_eq hV)]
    simp [Conv.bytesToString]
    rfl
  | some a =>
    obtain ⟨g, o, e⟩ : ∃ g o, a = ⟨g, o, none⟩ := by
      rcases had with h | ⟨g, o, h⟩
      · cases h
      · exact ⟨g, o, by simpa using h⟩
    subst e
    refine run_convert_bytes_back w T V U ⟨g, o, none⟩ c l (sliceOf_eq hT) hU' (strTy_eq hV) fun j hj => ?_
    obtain ⟨g', o', e, _, hc⟩ := hb j l[j] (List.getElem?_eq_getElem hj)
    cases e
    rw [Addr.add_mid]; exact hc
def zOneB (P : Program) (T : Nat) : Bool := match P.info? T with
  | some i => (match i.zero with | some z => Nat.beq z.cells.size 1 | none => false)
  | none => false
/-! ### Bool, Ok, Complete -/
def cCompl (R : RN) : MCode := .sq (.rg [.mv 2 (.c .niface)]) (.sq (.sq (.rg [.mv 3 (.t 0), .nc 4 3, .fa 5 R.tR 4 1, .ld 6 R.T.bool 5]) (.cd 6 (.sq (.rg [.lg 7 R.tErr R.gErr, .mv 2 (.t 7)]) .rt) .sk)) (.sq (.rg [.mv 2 (.c .niface)]) .rt))
def OkC (P : Program) (f : Nat) : Prop := entersB P f = true ∧ ∀ (w : World) (rb sb : Nat) (st : Option (List UInt8)), RdAt w rb sb st →
  Calls P f #[.pointer (some ⟨rb, 0, none⟩)] w (fun e w' => e = .returned (.bool (!stB st)) ∧ w' = w)
def complV (ev : Value) (st : Option (List UInt8)) : Value := if stB st then ev else MVal.niface.val
def ComplC (P : Program) (f gE : Nat) : Prop := entersB P f = true ∧ ∀ (w : World) (rb sb : Nat) (st : Option (List UInt8)) (ev : Value), RdAt w rb sb st → w.cell? ⟨gE, 0, none⟩ = some ev →
  Calls P f #[.pointer (some ⟨rb, 0, none⟩)] w (fun e w' => e = .returned (complV ev st) ∧ w' = w)
theorem compl_ok {f : Nat} (ok : ROK P R) (hf : FnIs P f (cCompl R) 8 2) : ComplC P f R.gErr := by
  refine ⟨hf.ent, fun w rb sb st ev h hev => ?_⟩
  refine hf.runs (args := [.pointer (some ⟨rb, 0, none⟩)]) (by simp) (by omega) ?_
  obtain ⟨ad, c, r1, r2, r3, r4, r5⟩ := h.all
  refine RW.sq (RW.rg (RL.step MR.mv (RL.nil (RW.sq (RW.sq (RW.rg (RL.step (MR.mv (v := .pointer (some ⟨rb, 0, none⟩)) rfl) (RL.step (MR.nc rfl) (RL.step (MR.fa rfl ok.f1) (RL.step (MR.ld rfl ok.pb (r1 1 _ rfl)) (RL.nil ?_)))))))))))
  refine RW.cd rfl (fun e => ?_) (fun e => RW.sk ?_)
  · refine RW.sq (RW.rg (RL.step (MR.lg (run_loadAt_one ok.pe hev)) (RL.step MR.mv (RL.nil (RW.rt ?_)))))
    exact ⟨by show Ending.returned ev = _; unfold complV; rw [e]; rfl, rfl⟩
  · refine RW.sq (RW.rg (RL.step MR.mv (RL.nil (RW.rt ?_))))
    exact ⟨by show Ending.returned MVal.niface.val = _; unfold complV; rw [e]; rfl, rfl⟩
end
end Go.Kx
namespace Go.Kx
open Go.RowKit Go.MapKept Go.MapFrom
set_option linter.unusedSimpArgs false
set_option linter.unusedVariables false
abbrev Tg := Nat × List UInt8
structure RepM (w : World) (sb : Nat) (es : Array MapEntry) (clock : Nat) (tags : List Tg) : Prop where
  sz : es.size = tags.length
  so : tags.Pairwise (fun x y => x.1 < y.1)
  has : ∀ t ∈ tags, t.1 < 4294967296 ∧ ∃ e ∈ es.toList, e.key = .int .u32 t.1 ∧ ∃ a c, e.val = .slice a t.2.length c ∧ BytesAt w (· = sb) a t.2
  st : Stamped es clock
  back : ∀ x ∈ es.toList, ∃ t ∈ tags, x.key = .int .u32 t.1
def TM (w : World) (lo sb : Nat) (m : Value) (tags : List Tg) : Prop :=
  (m = .map none ∧ tags = []) ∨ ∃ r es clock, m = .map (some r) ∧ lo ≤ r ∧ w.heap[r]? = some (.map es clock) ∧ RepM w sb es clock tags
theorem RepM.nil (w : World) (sb : Nat) : RepM w sb #[] 0 [] := ⟨rfl, List.Pairwise.nil, by simp, stamped_empty 0, by simp⟩
def mapU (P : Program) (T : Nat) : Bool := match P.underlying T with
  | some (.map k _) => intTy P k .u32
  | _ => false
def zTagB (P : Program) (T : Nat) : Bool := match P.info? T with
  | some i => (match i.zero with | some (.agg a) => (match a.toList with | [.map none] => true | _ => false) | _ => false)
  | none => false
structure TG where
  tSt : Nat
  tMap : Nat
  fSet : Nat
  fRead : Nat
structure TGR (P : Program) (G : TG) : Prop where
  map : mapU P G.tMap = true
  pl : plainTy P G.tMap = true
  mc : cellsB P G.tMap 1 = true
  fld : fieldAtB P G.tSt 0 0 = true
  row : rowTy P G.tSt = true
  sc : cellsB P G.tSt 1 = true
  z : zTagB P G.tSt = true
section
variable {P : Program} {N : Nat} {Q : Exit → (Nat → Value) → World → Prop} {ρ : Nat → Value} {w w' : World} {ms : List MOp} {R : RN} {G : TG} {rb sb : Nat} {st : Option (List UInt8)}
def SetC (P : Program) (f : Nat) : Prop := entersB P f = true ∧ ∀ (w : World) (tb to sb lo : Nat) (m : Value) (tags : List Tg) (k : Nat) (ad : Option Addr) (l : List UInt8) (c : Nat), TM w lo sb m tags → w.rangeAt tb to [m] → w.there tb to 1 → lo ≤ w.heap.size → sb < lo → sb ≠ tb → k < 4294967296 → BytesAt w (· = sb) ad l →
  Calls P f #[.pointer (some ⟨tb, to, none⟩), .int .u32 (k : Nat), .slice ad l.length c] w (fun e w' => (∃ v, e = .returned v) ∧ ∃ m', TM w' lo sb m' (setTag (k, l) tags) ∧ w'.rangeAt tb to [m'] ∧ w'.there tb to 1 ∧ Fr (fun b => lo ≤ b) tb to 1 w w')
def TagC (P : Program) (f : Nat) : Prop := entersB P f = true ∧ ∀ (w : World) (rb sb : Nat) (st : Option (List UInt8)), RdAt w rb sb st → sb ≠ rb → sb < w.heap.size →
  Calls P f #[.pointer (some ⟨rb, 0, none⟩)] w (fun e w' => ∃ m tags st', e = .returned (.agg #[m]) ∧ m.oneCell' = true ∧ Fr (fun _ => False) rb 0 2 w w' ∧ Got dTags st tags st' ∧ RdAt w' rb sb st' ∧ RepT w' (Rb w sb) m tags)
end
end Go.Kx
namespace Go.Kx
open Go.RowKit
set_option linter.unusedSimpArgs false
set_option linter.unusedVariables false
def ifaceTy (P : Program) (T : Nat) : Bool := match P.underlying T with
  | some (.interface _) => true
  | _ => false
theorem ifaceTy_eq {P : Program} {T : Nat} (h : ifaceTy P T = true) : ∃ ms, P.underlying T = some (.interface ms) := by
  unfold ifaceTy at h
  cases hu : P.underlying T with
  | none => simp [hu] at h
  | some d => cases d <;> simp_all
def errB : Value → Bool
  | .nilIface => false
  | _ => true
def isErr (v : Value) : Prop := ∃ t x, v = .iface t x
def RN.fn (R : RN) (k : PK) (flex : Bool) : Nat :=
  match k with
  | .i8 => R.i8 | .i16 => R.i16 | .u16 => R.u16 | .i32 => R.i32 | .i64 => R.i64 | .bool => R.bool
  | .str => if flex then R.cstr else R.str
  | .nstr => if flex then R.cnstr else R.nstr
  | .byt => if flex then R.cbyt else R.byt
  | .nbyt => if flex then R.cnbyt else R.nbyt
  | .uuid => R.uuid | .f64 => R.f64
structure RKOK (P : Program) (R : RN) (G : TG) : Prop where
  ok : ROK P R
  tg : TGR P G
  fn : ∀ k flex, R.fn k flex ≠ 0 → RdC P (R.fn k flex) (dP k flex) (PrC k)
  al : R.alen ≠ 0 → RdC P R.alen (dALen false) (PlB (fun x => .int .i32 x) I32)
  cal : R.calen ≠ 0 → RdC P R.calen (dALen true) (PlB (fun x => .int .i32 x) I32)
  okf : R.okf ≠ 0 → OkC P R.okf
  compl : ComplC P R.compl R.gErr
  tag : G.fRead ≠ 0 → TagC P G.fRead
  uv : R.uv ≠ 0 → RdC P R.uv dUv (PlB (fun x => .int .u32 (x : Nat)) (· < 4294967296))
  span : R.span ≠ 0 → SpanC P R.span
  set : G.fRead ≠ 0 → SetC P G.fSet
def PK.zr : PK → MVal
  | .str => .estr
  | .nstr => .nptr
  | _ => .nslice
def uOff : Option Nat → Nat
  | none => 2
  | some _ => 4
def callR (f x t : Nat) : MCode × Nat := (.rg [.ca t f [.t 7], .mv x (.t t)], t + 1)
def unsR (f x t : Nat) : MCode × Nat := (.sq (.rg [.mv t (.t 2)]) (.cd t .any (.rg [.ca (t + 2) f [.t 7], .mv x (.t (t + 2))])), t + 3)
def rdA (R : RN) (sf : Option Nat) (k : PK) (x t : Nat) : MCode × Nat :=
  match k with
  | .str =>
    let r := ifFlex sf (t + uOff sf) (callR (R.fn .str true) x) (callR (R.fn .str false) x)
    (.sq (.rg [.mv t (.t 2)]) (.cd t .any r.1), r.2)
  | .nstr => ifFlex sf t (unsR (R.fn .nstr true) x) (unsR (R.fn .nstr false) x)
  | .byt => ifFlex sf t (callR (R.fn .byt true) x) (callR (R.fn .byt false) x)
  | .nbyt => ifFlex sf t (callR (R.fn .nbyt true) x) (callR (R.fn .nbyt false) x)
  | k => callR (R.fn k false) x t
def storeR (T vs idx ty x t : Nat) : MCode × Nat := (.rg [.mv t (.t vs), .mv (t + 1) (.t x), .nc (t + 2) t, .fa (t + 3) T (t + 2) idx, .st ty (t + 3) (t + 1)], t + 4)
def rdOk (R : RN) (sf : Option Nat) (k : PK) : Bool :=
  !(Nat.beq (R.fn k false) 0) && (if k.two && sf.isSome then !(Nat.beq (R.fn k true) 0) else true)
structure RCx (sf : Option Nat) (flex : Bool) (ver : Int) (rb vs b o : Nat) (ρ : Nat → Value) : Prop where
  r7 : ρ 7 = .pointer (some ⟨rb, 0, none⟩)
  r2 : ρ 2 = .bool false
  r8 : ρ 8 = .int .i16 ver
  rf : ∀ s, sf = some s → ρ s = .bool flex
  nf : sf = none → flex = false
  rv : ρ vs = .pointer (some ⟨b, o, none⟩)
theorem BytesAt.bound {w : World} {F : Nat → Prop} {a : Option Addr} {l : List UInt8} (h : BytesAt w F a l) : BytesAt w (fun k => F k ∧ k < w.heap.size) a l := fun j b hj => by
  obtain ⟨g, o, e, h1, h2⟩ := h j b hj
  exact ⟨g, o, e, ⟨h1, World.block_lt_of_cell? w _ h2⟩, h2⟩
theorem RepP.bound {w : World} {F : Nat → Prop} {k : PK} {cs : List Value} {d : D} (h : RepP w F k cs d) : RepP w (fun k => F k ∧ k < w.heap.size) k cs d := by
  cases k <;> simp only [RepP] at h ⊢ <;> try exact h
  · rcases h with h | ⟨b, s, h1, h2, h3, h4⟩
    · exact .inl h
    · exact .inr ⟨b, s, h1, ⟨h2, World.block_lt_of_cell? w _ h3⟩, h3, h4⟩
  · obtain ⟨a, c, l, h1, h2, h3⟩ := h
    exact ⟨a, c, l, h1, h2.bound, h3⟩
  · rcases h with h | ⟨ad, c, l, h1, h2, h3⟩
    · exact .inl h
    · exact .inr ⟨ad, c, l, h1, h2.bound, h3⟩
section
variable {P : Program} {N : Nat} {Q : Exit → (Nat → Value) → World → Prop} {ρ : Nat → Value} {w w' : World} {ms : List MOp} {R : RN} {G : TG} {rb sb : Nat} {st : Option (List UInt8)} {sf : Option Nat} {flex : Bool} {ver : Int}
end
set_option linter.unusedVariables false
def primR (R : RN) (sf : Option Nat) (T vs idx : Nat) (k : PK) (ty t x : Nat) : MCode × Nat :=
  let r := rdA R sf k x t
  (rows ((if k.two then [.rg [.mv x (.c k.zr)]] else []) ++ [r.1, (storeR T vs idx ty x r.2).1]), r.2 + 4)
def elemR (R : RN) (sf : Option Nat) (k : PK) (ty ety x t : Nat) : MCode × Nat :=
  let e := rdA R sf k (x + 4) t
  (rows ((if k.two then [.rg [.mv (x + 4) (.c k.zr)]] else []) ++ [e.1, .rg [.mv e.2 (.t (x + 1)), .mv (e.2 + 1) (.t (x + 3)), .mv (e.2 + 2) (.t (x + 4)), .ia (e.2 + 3) ty e.2 (e.2 + 1), .st ety (e.2 + 3) (e.2 + 2)]]), e.2 + 4)
def elemRU (R : RN) (ty ety x t : Nat) : MCode × Nat :=
  (rows [.rg [.ca t R.uuid [.t 7], .al (x + 4) ety, .st ety (x + 4) t], .rg [.mv (t + 1) (.t (x + 1)), .mv (t + 2) (.t (x + 3)), .ld (t + 3) ety (x + 4), .ia (t + 4) ty (t + 1) (t + 2), .st ety (t + 4) (t + 3)]], t + 5)
def elemU (R : RN) (sf : Option Nat) (k : PK) (ty ety x t : Nat) : MCode × Nat := match k with
  | .uuid => elemRU R ty ety x t
  | k => elemR R sf k ty ety x t
def loopR (R : RN) (x u b : Nat) (body : MCode) : MCode :=
  .sq (.rg [.mv (x + 3) (.c (.int .i32 0))]) (.bl b (.lp (.sq (.sq (.rg [.mv (u + 10) (.t (x + 3)), .mv (u + 11) (.t (x + 2)), .bi (u + 12) .lss R.T.i32 (.t (u + 10)) (.t (u + 11))]) (.cd (u + 12) .sk (.ex b)))
    (.sq (.bl (b + 1) body) (.rg [.mv (u + 13) (.t (x + 3)), .bi (u + 14) .add R.T.i32 (.t (u + 13)) (.c (.int .i32 1)), .mv (x + 3) (.t (u + 14))])))))
def makeR (R : RN) (ty x u : Nat) : List MCode :=
  [.sq (.rg [.ca u R.okf [.t 7], .nt (u + 1) u]) (.cd (u + 1) (.sq (.rg [.ca (u + 2) R.compl [.t 7], .mv 6 (.t (u + 2))]) .rt) .sk),
   .rg [.mv (u + 3) (.t (x + 1)), .sl (u + 4) ty (u + 3) none (some (.c (.int .i64 0))) none, .mv (x + 1) (.t (u + 4))],
   .sq (.rg [.mv (u + 5) (.t (x + 2)), .bi (u + 6) .gtr R.T.i32 (.t (u + 5)) (.c (.int .i32 0))]) (.cd (u + 6) (.rg [.mv (u + 7) (.t (x + 1)), .mv (u + 8) (.t (x + 2)), .ap (u + 9) ty R.T.i32 (u + 7) (u + 8), .mv (x + 1) (.t (u + 9))]) .sk)]
def lenR (R : RN) (sf : Option Nat) (x t : Nat) : MCode × Nat := ifFlex sf t (callR R.calen (x + 2)) (callR R.alen (x + 2))
def uuidR (R : RN) (T vs idx ty t x : Nat) : MCode × Nat :=
  (rows [.rg [.ca t R.uuid [.t 7], .al x ty, .st ty x t], .rg [.mv (t + 1) (.t vs), .ld (t + 2) ty x, .nc (t + 3) (t + 1), .fa (t + 4) T (t + 3) idx, .st ty (t + 4) (t + 2)]], t + 5)
def enumR (R : RN) (T vs idx : Nat) (k : PK) (ty t x : Nat) : MCode × Nat :=
  (rows [.rg [.mv x (.c (.int k.ik 0))], .sq (.rg [.ca t (R.fn k false) [.t 7], .mv (x + 1) (.t t)]) (.rg [.mv (t + 1) (.t (x + 1)), .mv x (.t (t + 1))]), .rg [.mv (t + 2) (.t x), .mv (x + 2) (.t (t + 2))], (storeR T vs idx ty (x + 2) (t + 3)).1], t + 7)
def primU (R : RN) (sf : Option Nat) (T vs idx : Nat) (k : PK) (ty t x : Nat) : MCode × Nat := match k with
  | .uuid => uuidR R T vs idx ty t x
  | k => primR R sf T vs idx k ty t x
def unsB (f base x t : Nat) : MCode × Nat := (.sq (.rg [.mv t (.t 2)]) (.cd t .any (.rg [.ca (t + 2) f [.t 7], .st base x (t + 2)])), t + 3)
def vstrR (R : RN) (sf : Option Nat) (T vs idx lim ty base t x : Nat) : MCode × Nat :=
  let y := ifFlex sf (t + 2) (unsB (R.fn .str true) base (x + 1)) (unsB (R.fn .str false) base (x + 1))
  let n := rdA R sf .nstr x y.2
  (rows [.rg [.mv x (.c .nptr)], .sq (.rg [.mv t (.t 8), .bi (t + 1) .lss R.T.i16 (.t t) (.c (.int .i16 lim))]) (.cd (t + 1) (.sq (.rg [.al (x + 1) base]) (.sq y.1 (.rg [.mv x (.t (x + 1))]))) n.1), (storeR T vs idx ty x n.2).1], n.2 + 4)
def nulT : Option Nat → Nat
  | none => 0
  | some _ => 7
def nulC (R : RN) (nul : Option Nat) (ty x u : Nat) : List MCode := match nul with
  | none => []
  | some nv => [.sq (.gr false [⟨0, none, .mv u (.t 8)⟩, ⟨1, none, .bi (u + 1) .lss R.T.i16 (.t u) (.c (.int .i16 nv))⟩, ⟨2, none, .mv (u + 2) (.t (u + 1))⟩, ⟨3, some (2, u + 2, false), .mv (u + 3) (.t (x + 2))⟩, ⟨4, some (2, u + 2, false), .bi (u + 4) .eql R.T.i32 (.t (u + 3)) (.c (.int .i32 0))⟩, ⟨5, none, .pk (u + 5) (.t (u + 2)) (.c (.bool true)) (.t (u + 4))⟩])
      (.cd (u + 5) (.rg [.bsl (u + 6) ty [], .mv (x + 1) (.t (u + 6))]) .sk)]
def arrR (R : RN) (sf : Option Nat) (nul : Option Nat) (T vs idx ty : Nat) (t x b : Nat) (body : Nat → MCode × Nat × Nat × Nat) : MCode × Nat × Nat × Nat :=
  let a := lenR R sf x (t + 5)
  let u := a.2 + nulT nul
  let e := body (u + 15)
  (rows ([(loadA T vs idx ty x t).1, .rg [.mv (t + 4) (.t x), .mv (x + 1) (.t (t + 4))], .rg [.mv (x + 2) (.c (.int .i32 0))], a.1] ++ (nulC R nul ty x a.2 ++ (makeR R ty x u ++
     [loopR R x u b e.1, .rg [.mv e.2.1 (.t (x + 1)), .mv x (.t e.2.1)], (storeR T vs idx ty x (e.2.1 + 1)).1]))), e.2.1 + 5, e.2.2.1, e.2.2.2)
def condR (R : RN) (c : Cnd) (t : Nat) (body : Nat → MCode × Nat × Nat × Nat) : MCode × Nat × Nat × Nat :=
  match c with
  | .always => body t
  | .ge lo =>
    let r := body (t + 2)
    (.sq (.rg [.mv t (.t 8), .bi (t + 1) .geq R.T.i16 (.t t) (.c (.int .i16 lo))]) (.cd (t + 1) r.1 .sk), r.2)
  | .btw lo hi =>
    let r := body (t + 6)
    (.sq (.tw 8 R.T.i16 lo hi t) (.cd (t + 5) r.1 .sk), r.2)
def krCase (R : RN) (T vs : Nat) (q : KT) (v c : Nat) : MCode :=
  rows [.rg [.ca (c + 2) R.uv [.t 7], .cv (c + 3) R.T.u32 R.T.int (c + 2), .ca (c + 4) R.span [.t 7, .t (c + 3)], .bdl (c + 5) R.tR [(0, .t (c + 4))], .al v R.tR, .st R.tR v (c + 5)],
    .rg [.ca (c + 6) (R.fn q.k false) [.t v], .mv (v + 1) (.t (c + 6))], (storeR T vs q.idx q.ty (v + 1) (c + 7)).1, .rg [.ca (c + 11) R.compl [.t v], .mv (v + 2) (.t (c + 11))],
    .sq (.rg [.mv (c + 12) (.t (v + 2)), .bi (c + 13) .neq R.tErr (.t (c + 12)) (.c .niface)]) (.cd (c + 13) (.sq (.rg [.mv (c + 14) (.t (v + 2)), .mv 6 (.t (c + 14))]) .rt) .sk)]
def krChain (R : RN) (T vs s : Nat) : List KT → (v c : Nat) → MCode → MCode
  | [], _, _, d => d
  | q :: r, v, c, d => .sq (.rg [.bi (c + 1) .eql R.T.u32 (.t s) (.c (.int .u32 q.tag)), .mv c (.t (c + 1))]) (.cd c (krCase R T vs q v c) (krChain R T vs s r (v + 3) (c + 15) d))
def krDflt (R : RN) (G : TG) (T vs idx x t : Nat) : MCode :=
  .gr true [⟨0, none, .mv (t + 8) (.t vs)⟩, ⟨1, none, .nc (t + 9) (t + 8)⟩, ⟨2, none, .fa (t + 10) T (t + 9) idx⟩, ⟨3, none, .mv (t + 11) (.t (x + 1))⟩, ⟨4, none, .ca (t + 12) R.uv [.t 7]⟩, ⟨5, none, .cv (t + 13) R.T.u32 R.T.int (t + 12)⟩,
    ⟨6, none, .ca (t + 14) R.span [.t 7, .t (t + 13)]⟩, ⟨7, none, .ca (t + 15) G.fSet [.t (t + 10), .t (t + 11), .t (t + 14)]⟩]
def krBody (R : RN) (G : TG) (T vs idx : Nat) (kn : List KT) (t x b : Nat) : MCode :=
  .sq (.rg [.ca (t + 1) R.uv [.t 7], .mv x (.t (t + 1))]) (.bl b (.lp (.sq (.sq (.rg [.mv (t + 2) (.t x), .bi (t + 3) .gtr R.T.u32 (.t (t + 2)) (.c (.int .u32 0))]) (.cd (t + 3) .sk (.ex b)))
    (.sq (.bl (b + 1) (.sq (.rg [.ca (t + 6) R.uv [.t 7], .mv (x + 1) (.t (t + 6))]) (.sq (.rg [.mv (t + 7) (.t (x + 1))]) (.bl (b + 2) (krChain R T vs (t + 7) kn (x + 2) (t + 16) (krDflt R G T vs idx x t))))))
      (.rg [.mv (t + 4) (.t x), .bi (t + 5) .sub R.T.u32 (.t (t + 4)) (.c (.int .u32 1)), .mv x (.t (t + 5))])))))
def tagsR (R : RN) (G : TG) (sf : Option Nat) (T vs : Nat) (tg : Option TgF) (t x b : Nat) : List MCode × Nat × Nat × Nat :=
  match tg, sf with
  | some ((idx, []), _), some s => ([.sq (.rg [.mv t (.t s)]) (.cd t (.rg [.mv (t + 1) (.t vs), .ca (t + 2) G.fRead [.t 7], .nc (t + 3) (t + 1), .fa (t + 4) T (t + 3) idx, .st G.tSt (t + 4) (t + 2)]) .sk)], t + 5, x, b)
  | some ((idx, q :: r), _), some s => ([.sq (.rg [.mv t (.t s)]) (.cd t (krBody R G T vs idx (q :: r) t x b) .sk)], t + 16 + 15 * (q :: r).length, x + 2 + 3 * (q :: r).length, b + 3)
  | _, _ => ([], t, x, b)
def elemH (ty fDef x t : Nat) : List MCode := [.rg [.mv t (.t (x + 1)), .mv (t + 1) (.t (x + 3)), .ia (t + 2) ty t (t + 1), .mv (x + 4) (.t (t + 2))], .rg [.mv (t + 3) (.t (x + 4)), .ca (t + 4) fDef [.t (t + 3)]], .rg [.mv (t + 5) (.t (x + 4)), .mv (x + 5) (.t (t + 5))]]
def subH (T vs idx fDef t x : Nat) : List MCode := [.rg [.mv t (.t vs), .nc (t + 1) t, .fa (t + 2) T (t + 1) idx, .mv x (.t (t + 2))], .rg [.mv (t + 3) (.t x), .ca (t + 4) fDef [.t (t + 3)]], .rg [.mv (t + 5) (.t x), .mv (x + 1) (.t (t + 5))]]
mutual
def genRFld (R : RN) (G : TG) (sf : Option Nat) : Ty → (T vs idx t x b : Nat) → MCode × Nat × Nat × Nat
  | .prim k ty, T, vs, idx, t, x, b => let r := primU R sf T vs idx k ty t x; (r.1, r.2, x + 1, b)
  | .arr nul ty ety el, T, vs, idx, t, x, b => arrR R sf nul T vs idx ty t x b (fun t => elR R G sf el ty ety t x b)
  | .enum k ty _, T, vs, idx, t, x, b => let r := enumR R T vs idx k ty t x; (r.1, r.2, x + 3, b)
  | .vstr lim ty base, T, vs, idx, t, x, b => let r := vstrR R sf T vs idx lim ty base t x; (r.1, r.2, x + 2, b)
  | .struct T' _ fDef tg fs, T, vs, idx, t, x, b =>
    let f := genRF R G sf fs T' (x + 1) (t + 6) (x + 2) b
    let g := tagsR R G sf T' (x + 1) tg f.2.1 f.2.2.1 f.2.2.2
    (rows (subH T vs idx fDef t x ++ (f.1 ++ g.1)), g.2)
def elR (R : RN) (G : TG) (sf : Option Nat) : Ty → (ty ety t x b : Nat) → MCode × Nat × Nat × Nat
  | .prim k _, ty, ety, t, x, b => let e := elemU R sf k ty ety x t; (e.1, e.2, x + 5, b + 2)
  | .struct T _ fDef tg fs, ty, ety, t, x, b =>
    let f := genRF R G sf fs T (x + 5) (t + 6) (x + 6) (b + 2)
    let g := tagsR R G sf T (x + 5) tg f.2.1 f.2.2.1 f.2.2.2
    (rows (elemH ty fDef x t ++ (f.1 ++ g.1)), g.2)
  | .arr _ _ _ _, ty, ety, t, x, b => (.any, t, x + 5, b + 2)
  | .enum _ _ _, ty, ety, t, x, b => (.any, t, x + 5, b + 2)
  | .vstr _ _ _, ty, ety, t, x, b => (.any, t, x + 5, b + 2)
def genRF (R : RN) (G : TG) (sf : Option Nat) : Flds → (T vs t x b : Nat) → List MCode × Nat × Nat × Nat
  | .nil, T, vs, t, x, b => ([], t, x, b)
  | .cons c idx _ _ ty rest, T, vs, t, x, b =>
    let f := condR R c t (fun t => genRFld R G sf ty T vs idx t x b)
    let r := genRF R G sf rest T vs f.2.1 f.2.2.1 f.2.2.2
    (f.1 :: r.1, r.2)
end

/-! ### A type's zero, the defaults of a struct -/
def toM : Value → Option MVal
  | .int k n => some (.int k n)
  | .bool b => some (.bool b)
  | v => [MVal.nslice, .estr, .niface, .nptr, .nmap, .flt].find? (fun m => m.is v)
def toMs : List Value → Option (List MVal)
  | [] => some []
  | v :: vs => match toM v, toMs vs with
    | some m, some ms => some (m :: ms)
    | _, _ => none
def zeroM (P : Program) (ety : Nat) : Option (List MVal) := match P.info? ety with
  | some i => (match i.zero with
    | some z => (match toMs z.cells.toList with
      | some zs => if Nat.beq zs.length i.size && Nat.ble i.bytes 65536 && Nat.blt 0 i.size then some zs else none
      | none => none)
    | none => none)
  | none => none
mutual
def dfOf (T idx off : Nat) (df : Int) : Ty → Option Df
  | .prim k ty => if sameInt df 0 then none else match k with
    | .bool => some (.st T idx off ty (.bool true))
    | k => some (.st T idx off ty (.int k.ik df))
  | .enum k ty _ => if sameInt df 0 then none else some (.st T idx off ty (.int k.ik df))
  | .vstr _ _ _ => none
  | .arr _ _ _ _ => none
  | .struct T' _ _ _ fs => some (.sub T idx off (dfsOf T' fs))
def dfsOf (T : Nat) : Flds → Dfs
  | .nil => .nil
  | .cons _ idx off df ty rest => match dfOf T idx off df ty with
    | some d => .cons d (dfsOf T rest)
    | none => dfsOf T rest
end

def eqLs (f : D → D → Bool) : List D → List D → Bool
  | [], [] => true
  | a :: asx, b :: bs => f a b && eqLs f asx bs
  | _, _ => false
def eqDb : D → D → Bool
  | .n a, .n b => sameInt a b
  | .s none, .s none => true
  | .s (some a), .s (some b) => eqB a b
  | .l a [], .l b [] => a == b
  | _, _ => false
def eqDn : Nat → D → D → Bool
  | 0 => eqDb
  | n + 1 => fun a b => match a, b with
    | .r a [], .r b [] => eqLs (eqDn n) a b
    | a, b => eqDb a b
def eqD0 : D → D → Bool := eqDn 4
def zfB : Flds → List MVal → Bool
  | .nil, _ => true
  | .cons _ _ off df ty rest, cs => Nat.ble (off + ty.cells) cs.length && (match defT ty ((cs.drop off).take ty.cells) with | some d => eqD0 d (dfl ty df) | none => false) && zfB rest cs
def gapF : Flds → Nat → Bool
  | .nil, _ => true
  | .cons _ _ off _ ty r, j => (Nat.blt j off || Nat.ble (off + ty.cells) j) && gapF r j
def conT : Nat → List KT → Bool
  | _, [] => true
  | lo, q :: r => Nat.beq q.tag lo && conT (lo + 1) r
def ascO : Nat → List KT → Bool
  | _, [] => true
  | lo, q :: r => Nat.ble lo q.off && ascO (q.off + 1) r
def krB (P : Program) (R : RN) (G : TG) (T m : Nat) (fs : Flds) (kn : List KT) : Bool :=
  kn.isEmpty || (kn.all (fun q => fieldAtB P T q.idx q.off && cellsB P q.ty 1 && q.k.isNum && !(Nat.beq (R.fn q.k false) 0) && Nat.blt q.off m && gapF fs q.off && Nat.blt q.tag 1000) && conT 0 kn && ascO 0 kn && Nat.blt kn.length 1000 &&
    !(Nat.beq G.fRead 0) && ifaceTy P R.tErr && zeroIs P R.tR [.nslice, .bool false] && plcB P R.tR 2 && cellsB P R.tR 2 && !(Nat.beq R.uv 0) && !(Nat.beq R.span 0) && !(Nat.beq R.T.u32 0))
def preN (tg : Option TgF) (n : Nat) : Nat := match tg with | none => n | some q => q.2
def elB (P : Program) (R : RN) (G : TG) (ety T n fDef : Nat) (tg : Option TgF) (fs : Flds) : Bool := match zeroM P ety with
  | some zs => Nat.beq zs.length n && isFn0 P fDef (rows (genD 0 (dfsOf T fs) (defT0 (dfsOf T fs)) 2).1) (genD 0 (dfsOf T fs) (defT0 (dfsOf T fs)) 2).2.1 && okD P n (dfsOf T fs) 0 && Nat.ble (genD 0 (dfsOf T fs) (defT0 (dfsOf T fs)) 2).2.2 (defT0 (dfsOf T fs)) &&
      zfB fs ((putM (dfsOf T fs) 0 zs).take (preN tg n)) && cellsB P ety n && (match tg with | none => true | some q => Nat.beq n (q.2 + 1) && fieldAtB P T q.1.1 q.2 && krB P R G T q.2 fs q.1.2 && defTag tg (putM (dfsOf T fs) 0 zs) && !(Nat.beq G.fRead 0))
  | none => false
def Dfs.isNil : Dfs → Bool
  | .nil => true
  | _ => false
def subB (P : Program) (R : RN) (G : TG) (T n fDef : Nat) (tg : Option TgF) (fs : Flds) : Bool := (dfsOf T fs).isNil && isFn0 P fDef (rows (genD 0 (dfsOf T fs) (defT0 (dfsOf T fs)) 2).1) (genD 0 (dfsOf T fs) (defT0 (dfsOf T fs)) 2).2.1 && okD P n (dfsOf T fs) 0 && Nat.ble (genD 0 (dfsOf T fs) (defT0 (dfsOf T fs)) 2).2.2 (defT0 (dfsOf T fs)) &&
  Nat.ble (preN tg n) n && (match tg with | none => true | some q => Nat.beq n (q.2 + 1) && fieldAtB P T q.1.1 q.2 && krB P R G T q.2 fs q.1.2 && !(Nat.beq G.fRead 0))
def arrB (P : Program) (R : RN) (sf : Option Nat) (ty ety ec : Nat) : Bool := cellsB P ty 1 && plainTy P ty && sliceOf P ty ety && cellsB P ety ec && (match zeroM P ety with | some zs => Nat.beq zs.length ec | none => false) && !(Nat.beq R.alen 0) && !(Nat.beq R.okf 0) && (match sf with | none => true | some _ => !(Nat.beq R.calen 0)) && intTy P R.T.i32 .i32
def uuB (P : Program) (k : PK) (ty : Nat) : Bool := match k with | .uuid => rowTy P ty && zeroIs P ty (List.replicate 16 (.int .u8 0)) | _ => true
def enumK (k : PK) : Bool := match k with | .i8 | .i16 | .i32 => true | _ => false
mutual
def wfRFld (P : Program) (R : RN) (G : TG) (sf : Option Nat) : Ty → Bool
  | .prim k ty => rdOk R sf k && cellsB P ty k.cells && uuB P k ty
  | .arr _ ty ety el => arrB P R sf ty ety el.cells && wfEl P R G sf el ety
  | .enum k ty _ => enumK k && !(Nat.beq (R.fn k false) 0) && cellsB P ty 1
  | .vstr _ ty base => rdOk R sf .str && rdOk R sf .nstr && cellsB P ty 1 && zOneB P base && cellsB P base 1
  | .struct T n fDef tg fs => subB P R G T n fDef tg fs && wfRF P R G sf fs T (preN tg n) 0
def wfEl (P : Program) (R : RN) (G : TG) (sf : Option Nat) : Ty → (ety : Nat) → Bool
  | .prim k _, ety => rdOk R sf k && cellsB P ety k.cells && uuB P k ety
  | .struct T n fDef tg fs, ety => elB P R G ety T n fDef tg fs && wfRF P R G sf fs T (preN tg n) 0
  | .arr _ _ _ _, ety => false
  | .enum _ _ _, ety => false
  | .vstr _ _ _, ety => false
def wfRF (P : Program) (R : RN) (G : TG) (sf : Option Nat) : Flds → (T n k : Nat) → Bool
  | .nil, T, n, k => Nat.ble k n
  | .cons _ idx off _ ty rest, T, n, k => Nat.ble k off && fieldAtB P T idx off && wfRFld P R G sf ty && wfRF P R G sf rest T n (off + ty.cells)
end

structure FH (P : Program) (R : RN) (rb sb h b o n : Nat) (ev : Value) (st : Option (List UInt8)) (w : World) : Prop where
  rd : RdAt w rb sb st
  ne : sb ≠ rb
  nb : sb ≠ b
  rbb : b ≠ rb
  hb : b ≤ h
  hr : rb ≤ h
  hw : h < w.heap.size
  hs : sb < w.heap.size
  th : w.there b o n
  er : isErr ev
  ev : w.cell? ⟨R.gErr, 0, none⟩ = some ev
  gb : R.gErr ≠ b
  gr : R.gErr ≠ rb
section
variable {P : Program} {N : Nat} {Q : Exit → (Nat → Value) → World → Prop} {ρ : Nat → Value} {w w' : World} {ms : List MOp} {R : RN} {G : TG} {rb sb h b o n : Nat} {ev : Value} {st st' : Option (List UInt8)} {sf : Option Nat} {flex : Bool} {ver : Int}
end
end Go.Kx
namespace Go.Kx
open Go.RowKit
set_option linter.unusedSimpArgs false
set_option linter.unusedVariables false
section
variable {P : Program} {N : Nat} {Q : Exit → (Nat → Value) → World → Prop} {ρ : Nat → Value} {w w' : World} {ms : List MOp} {R : RN} {G : TG} {rb sb h b o n : Nat} {ev : Value} {st st' : Option (List UInt8)} {sf : Option Nat} {flex : Bool} {ver : Int}
end
set_option linter.unusedVariables false
def splice (k : Nat) (vs cs : List Value) : List Value := cs.take k ++ vs ++ cs.drop (k + vs.length)
theorem splice_len {k : Nat} {vs cs : List Value} (h : k + vs.length ≤ cs.length) : (splice k vs cs).length = cs.length := by
  simp only [splice, List.length_append, List.length_take, List.length_drop]; omega
section
variable {P : Program} {N : Nat} {Q : Exit → (Nat → Value) → World → Prop} {ρ : Nat → Value} {w w' : World} {ms : List MOp} {R : RN} {G : TG} {rb sb h b o n : Nat} {ev : Value} {st st' : Option (List UInt8)} {sf : Option Nat} {flex : Bool} {ver : Int}
theorem range_splice {X : Nat → Prop} {k : Nat} {cs vs : List Value} (hr : w.rangeAt b o cs) (hf : Fr X b (o + k) vs.length w w') (hv : w'.rangeAt b (o + k) vs) (hk : k + vs.length ≤ cs.length) : w'.rangeAt b o (splice k vs cs) := by
  intro j v hj
  unfold splice at hj
  have e1 : (cs.take k).length = k := by rw [List.length_take]; omega
  by_cases h1 : j < k
  · rw [List.append_assoc, List.getElem?_append_left (by omega), List.getElem?_take, if_pos h1] at hj
    rw [hf.cell (o + j) (.inl (by omega))]
    exact hr j v hj
  · by_cases h2 : j < k + vs.length
    · rw [List.append_assoc, List.getElem?_append_right (by omega), List.getElem?_append_left (by omega), e1] at hj
      have := hv (j - k) v hj
      rwa [show o + k + (j - k) = o + j from by omega] at this
    · rw [List.getElem?_append_right (by rw [List.length_append]; omega), List.getElem?_drop, List.length_append, e1] at hj
      rw [hf.cell (o + j) (.inr (by omega))]
      exact hr j v (by rw [← hj]; congr 1; omega)
theorem range_part {k m : Nat} {cs : List Value} (h : w.rangeAt b o cs) : w.rangeAt b (o + k) ((cs.drop k).take m) := by
  intro j v hj
  rw [List.getElem?_take] at hj
  split at hj
  · rw [List.getElem?_drop] at hj
    have := h (k + j) v hj
    rwa [← Nat.add_assoc] at this
  · simp at hj
theorem Got.any {α : Type} {d : Dec α} {x y : α} (h : Got d st x none) : Got d st y none := h
theorem Fr.drop {X X' : Nat → Prop} (h : Fr X b o n w w') (hX : ∀ k, X k → X' k ∨ w.heap.size ≤ k) : Fr X' b o n w w' :=
  ⟨h.os, h.tape, h.output, h.size, fun k h1 h2 h3 => h.block k h1 h2 (fun x => (hX k x).elim h3 (fun e => by omega)), h.cell, h.there⟩
end
/-! ### Known tags and the others, in a row -/
section
variable {P : Program} {N : Nat} {Q : Exit → (Nat → Value) → World → Prop} {ρ : Nat → Value} {w w' : World} {ms : List MOp} {d : Nat} {R : RN} {G : TG} {rb sb h b o n : Nat} {ev : Value} {st st' : Option (List UInt8)} {sf : Option Nat} {flex : Bool} {ver : Int}
theorem MR.neqNilI {ty x : Nat} {v : Value} (hs : ifaceTy P ty = true) (hx : ρ x = v) (hv : v = Value.nilIface ∨ isErr v) (hxN : x < N := by decide) : MR P N (.bi d .neq ty (.t x) (.c .niface)) ρ w d (.bool (errB v)) w := by
  obtain ⟨mts, hu⟩ := ifaceTy_eq hs
  intro a o hl hf
  generalize hop : o.op = op' at hf
  unfold execOp
  cases op' <;> simp only [fitOp, Bool.and_eq_true, Bool.false_eq_true, Nat.beq_eq] at hf
  rename_i bop ty' ox oy kq
  obtain ⟨⟨⟨⟨⟨h1, h2⟩, h3⟩, h4⟩, h5⟩, _⟩ := hf
  have h2' := sameOp_eq h2
  subst h2' h3
  cases oy <;> simp only [MX.is, Bool.false_eq_true] at h5
  rename_i c
  have hc : c = Value.nilIface := by cases c <;> simp_all [MVal.is]
  subst hc
  have e1 := MX.evalL hl (ltT hxN) h4
  have e2 : a.eval (Operand.const Value.nilIface) = Value.nilIface := rfl
  have hD : Op.maxDepth = 9999 + 1 := rfl
  refine ⟨dstIs_eq h1, ?_⟩
  have hg : ∀ u : Value, (u = Value.nilIface ∨ isErr u) → (eqGuard .neq ty ox (Operand.const Value.nilIface) u Value.nilIface).run P w = .ok () w := by
    rintro u (rfl | ⟨t, y, rfl⟩)
    · unfold eqGuard; cases ox <;> rfl
    · unfold eqGuard; cases ox <;> rfl
  have hq : ∀ u : Value, (u = Value.nilIface ∨ isErr u) → ∀ d : Nat, (Op.equalIn (d + 1) ty u Value.nilIface).run P w = .ok (!errB u) w := by
    rintro u (rfl | ⟨t, y, rfl⟩) d
    · simp [Op.equalIn, run_underlying hu, errB]
    · simp [Op.equalIn, run_underlying hu, errB]
  have hb : (binOp .neq ty v Value.nilIface).run P w = .ok (.bool (errB v)) w := by
    rcases hv with rfl | ⟨t, y, rfl⟩
    · simp only [binOp]
      simp [Op.equal, Op.maxDepth, hq _ (.inl rfl) 9999]
    · simp only [binOp]
      simp [Op.equal, Op.maxDepth, hq _ (.inr ⟨t, y, rfl⟩) 9999]
  simp only [hop, e1, e2, xof, hx, Sem.run_bind, hg v hv, hb, Result.andThen_ok, Sem.run_pure]
end
set_option linter.unusedVariables false
def ZF (w : World) : Flds → List Value → Prop
  | .nil, _ => True
  | .cons _ _ off df ty rest, cs => off + ty.cells ≤ cs.length ∧ Rep w (fun _ => False) ty ((cs.drop off).take ty.cells) (dfl ty df) ∧ ((∃ a b c d, ty = .arr a b c d) → cs[off]? = some (.slice none 0 0)) ∧ ZF w rest cs
section
variable {P : Program} {N : Nat} {Q : Exit → (Nat → Value) → World → Prop} {ρ : Nat → Value} {w w' : World} {ms : List MOp} {R : RN} {G : TG} {rb sb h b o n : Nat} {ev : Value} {st st' : Option (List UInt8)} {sf : Option Nat} {flex : Bool} {ver : Int}


end
set_option linter.unusedVariables false
def Plan.sfR (p : Plan) : Option Nat := p.fl.map fun _ => 9
def Plan.vsR (p : Plan) : Nat := match p.fl with | none => 9 | some _ => 10
def flexR (R : RN) (p : Plan) (t : Nat) : List MCode × Nat :=
  match p.fl with
  | none => ([], t)
  | some k => ([.rg [.mv t (.t 8), .bi (t + 1) .geq R.T.i16 (.t t) (.c (.int .i16 k)), .mv 9 (.t (t + 1))], .rg [.mv (t + 2) (.t 9)]], t + 3)
def cRF (R : RN) (G : TG) (p : Plan) (fDef L : Nat) : MCode × Nat :=
  let h := flexR R p (L + 9)
  let f := genRF R G p.sfR p.fs p.T p.vsR (h.2 + 1) (p.vsR + 1) 0
  let g := tagsR R G p.sfR p.T p.vsR p.tg f.2.1 f.2.2.1 f.2.2.2
  (rows ([.rg [.mv 6 (.c .niface)], .rg [.mv L (.t 0), .ca (L + 1) fDef [.t L]], .rg [.mv (L + 2) (.t 1), .bdl (L + 3) R.tR [(0, .t (L + 2))], .al 7 R.tR, .st R.tR 7 (L + 3)],
    (loadA p.T 0 0 R.T.i16 8 (L + 4)).1, .rg [.mv (L + 8) (.t 8)]] ++ (h.1 ++ ([.rg [.mv h.2 (.t 0), .mv p.vsR (.t h.2)]] ++ (f.1 ++ (g.1 ++ [.rg [.ca g.2.1 R.compl [.t 7], .mv 6 (.t g.2.1)], .rt]))))), g.2.1 + 1)
def Plan.pre (p : Plan) (n : Nat) : Nat := match p.tg with | none => n | some q => q.2
mutual
def ge1 : Df → Nat → Bool
  | .st _ _ off _ _, o => Nat.ble 1 (o + off)
  | .sub _ _ off l, o => geD l (o + off)
def geD : Dfs → Nat → Bool
  | .nil, _ => true
  | .cons d r, o => ge1 d o && geD r o
end

def eqMs : List MVal → List MVal → Bool
  | [], [] => true
  | a :: asx, b :: bs => a.is b.val && eqMs asx bs
  | _, _ => false
def cRFt (R : RN) (G : TG) (p : Plan) (L : Nat) : List MCode × Nat × Nat × Nat :=
  tagsR R G p.sfR p.T p.vsR p.tg (genRF R G p.sfR p.fs p.T p.vsR ((flexR R p L).2 + 1) (p.vsR + 1) 0).2.1 (genRF R G p.sfR p.fs p.T p.vsR ((flexR R p L).2 + 1) (p.vsR + 1) 0).2.2.1 (genRF R G p.sfR p.fs p.T p.vsR ((flexR R p L).2 + 1) (p.vsR + 1) 0).2.2.2
def tgB (P : Program) (R : RN) (G : TG) (p : Plan) (rest : List MVal) : Bool := match p.tg with | none => true | some q => Nat.beq (rest.length + 1) (q.2 + 1) && fieldAtB P p.T q.1.1 q.2 && krB P R G p.T q.2 p.fs q.1.2 && defTag p.tg (.int .i16 0 :: rest) && !(Nat.beq G.fRead 0) && tag1 p.tg
def rfB (P : Program) (R : RN) (G : TG) (p : Plan) (fDef : Nat) (df : Dfs) (rest : List MVal) (L N : Nat) : List Bool :=
  [wfRF P R G p.sfR p.fs p.T (p.pre (rest.length + 1)) 1, fieldAtB P p.T 0 0, Nat.ble (cRFt R G p (L + 9)).2.2.1 L, Nat.ble (cRF R G p fDef L).2 N, intTy P R.T.i16 .i16, plainTy P R.T.i16,
   zfB p.fs ((.int .i16 0 :: rest).take (p.pre (rest.length + 1))), geD df 0, eqMs (putM df 0 (.int .i16 0 :: rest)) (.int .i16 0 :: rest),
   isFn0 P fDef (rows (genD 0 df (defT0 df) 2).1) (genD 0 df (defT0 df) 2).2.1, okD P (rest.length + 1) df 0, Nat.ble (genD 0 df (defT0 df) 2).2.2 (defT0 df),
   zeroIs P R.tR [.nslice, .bool false], plcB P R.tR 2, cellsB P R.tR 2,
   tgB P R G p rest]
section
variable {P : Program} {N : Nat} {Q : Exit → (Nat → Value) → World → Prop} {ρ : Nat → Value} {w w' : World} {ms : List MOp} {R : RN} {G : TG} {rb sb h b o n : Nat} {ev : Value} {st st' : Option (List UInt8)} {sf : Option Nat} {flex : Bool} {ver : Int}
def RFC (P : Program) (f : Nat) (p : Plan) (gE : Nat) (rest : List MVal) : Prop := entersB P f = true ∧ ∀ (w : World) (b sb : Nat) (ad : Option Addr) (l : List UInt8) (c : Nat) (ver : Int) (ev : Value), w.rangeAt b 0 (.int .i16 ver :: rest.map MVal.val) → w.there b 0 (rest.length + 1) → BytesAt w (· = sb) ad l → okAd ad → l.length ≤ c → sb < w.heap.size → sb ≠ b → w.cell? ⟨gE, 0, none⟩ = some ev → gE ≠ b → isErr ev →
  Calls P f #[.pointer (some ⟨b, 0, none⟩), .slice ad l.length c, .bool false] w (fun e w' => Fr (fun _ => False) b 0 (rest.length + 1) w w' ∧
    ((∃ ds tags r cs, decTop p ver l = some ((ds, tags), r) ∧ e = .returned MVal.niface.val ∧ MsgAt w' (fun k => k = b ∨ k = sb ∨ (w.heap.size ≤ k ∧ k < w'.heap.size)) p ⟨b, 0, none⟩ ver ds tags cs) ∨ (decTop p ver l = none ∧ e = .returned ev)))
end
section
variable {P : Program} {R : RN} {G : TG}
end
section
variable {P : Program} {N : Nat} {Q : Exit → (Nat → Value) → World → Prop} {ρ : Nat → Value} {w w' : World} {ms : List MOp} {d : Nat} {v : Value}
theorem MR.apk {T U y : Nat} (hr : ∀ ty, (Builtin.append_ #[T, U] ty #[.slice none 0 0, ρ y]).run P w = .ok v w') (hy : y < N := by decide) : MR P N (.apk d T U y) ρ w d v w' := by
  refine MR.builtin (b := .append) (T := [T, U]) (xs := [.c .nslice, .t y]) (fun o hf => ?_) (by simp [MX.lt, Nat.blt_eq, hy]) (fun ty cs => by
      show (Go.builtin Builtin.append #[T, U] ty cs #[.slice none 0 0, ρ y]).run P w = _
      simp only [Go.builtin, Sem.run_bind, hr ty, Result.andThen_ok, Sem.run_pure])
  generalize hop : o.op = op at hf
  cases op <;> try (simp only [fitOp, Bool.false_eq_true] at hf; done)
  rename_i c
  obtain ⟨callee, args, ats⟩ := c
  cases callee <;> try (simp only [fitOp, Bool.false_eq_true] at hf; done)
  case builtin b =>
    cases b <;> try (simp only [fitOp, Bool.false_eq_true] at hf; done)
    simp only [fitOp, Bool.and_eq_true] at hf
    obtain ⟨h1, h2⟩ := hf
    generalize hA : args.toList = A at h2
    generalize hB : ats.toList = B at h2
    match A, B, h2 with
    | [x, z], [t', u'], h2 =>
      simp only [Bool.and_eq_true, Nat.beq_eq] at h2
      obtain ⟨⟨⟨g1, g2⟩, g3⟩, g4⟩ := h2
      refine ⟨dstIs_eq h1, args, ats, rfl, .inl (by rw [hB, g3, g4]), ?_⟩
      rw [hA]
      simp only [allX, Bool.and_eq_true, and_true]
      refine ⟨g1, ?_⟩
      rw [tmpIs_eq g2]; simp [MX.is]
theorem RL.cav {f g : Nat} {lb : List Value} {xs : List MX} {R : Value → World → Prop} (he : entersB P g = true) (hfv : ρ f = .func (.func g) #[] lb.toArray)
    (hc : Calls P g (xs.map (xof ρ) ++ lb).toArray w (fun e w' => ∃ v, e = .returned v ∧ R v w'))
    (h : ∀ v w', R v w' → RL P N ms Q (upd ρ d v) w') (hd : d < N := by decide) (hfN : f < N := by decide) (hx : ∀ x ∈ xs, MX.lt N x = true := by simp [MX.lt, Nat.blt_eq]) : RL P N (.cav d f xs :: ms) Q ρ w := by
  intro a ha ops l hl
  cases l with
  | nil => simp [fitOps] at hl
  | cons o os =>
    simp only [fitOps, Bool.and_eq_true] at hl
    obtain ⟨ho, hs⟩ := hl
    have hgd : o.guard = none := by
      simp only [fitOper, Bool.and_eq_true, Option.isNone_iff_eq_none] at ho; exact ho.1
    refine wpList_plain hgd fun K hK => ?_
    have hf := fitOper_op ho
    obtain ⟨dst, op, type, pos, after, guard⟩ := o
    dsimp only at hf hgd
    cases op <;> try (simp only [fitOp, Bool.false_eq_true] at hf; done)
    rename_i c
    obtain ⟨callee, args, ats⟩ := c
    cases callee <;> try (simp only [fitOp, Bool.false_eq_true] at hf; done)
    case value x =>
      cases x <;> try (simp only [fitOp, Bool.false_eq_true] at hf; done)
      simp only [fitOp, Bool.and_eq_true, Nat.beq_eq] at hf
      obtain ⟨⟨h1, h2⟩, h3⟩ := hf
      subst h2
      have hdst := dstIs_eq h1
      subst hdst
      have hargs : args.map a.eval = (xs.map (xof ρ)).toArray := by
        apply Array.toList_inj.1
        rw [Array.toList_map, allX_evalL ha hx h3]
      have hfe : a.eval (.tmp f) = .func (.func g) #[] lb.toArray := by
        have := ha.get f hfN
        rw [hfv] at this
        exact this
      have hrun : (execOp a.eval ⟨some d, .call ⟨.value (.tmp f), args, ats⟩, type, pos, after, guard⟩).run P w = .ok (.enter g (xs.map (xof ρ) ++ lb).toArray) w := by
        simp only [execOp, resolve, hfe, Deferred.ofValue, Sem.run_bind, Sem.run_pure, Result.andThen_ok, invoke, Array.empty_append]
        rw [hargs]
        have e : (xs.map (xof ρ)).toArray ++ lb.toArray = (xs.map (xof ρ) ++ lb).toArray := by simp
        rw [e, run_callFunc_enter he]
      unfold Oper.wp
      rw [hrun, Oper.upon_enter]
      refine Calls.mono hc ?_
      rintro e w' ⟨v, rfl, hR⟩
      exact hK _ _ (h v w' hR _ (ha.put hd) ops os hs)
end
/-! ### A range over a map -/
section
variable {P : Program} {w : World}
end
set_option linter.unusedVariables false
def BoxR (U Ts : Nat) (w : World) (B db : Nat) (xs : List Value) : Prop := ∃ sv, w.heap[db]? = some (.cells #[sv] Ts (0, 0)) ∧ w.ownsRow B U 1 sv xs.length xs
section
variable {P : Program} {N : Nat} {Q : Exit → (Nat → Value) → World → Prop} {ρ : Nat → Value} {w w' : World} {ms : List MOp} {d U Ts db B : Nat} {v x : Value} {T : IT}
def Nr (U db : Nat) (w w' : World) : Prop := ∀ k, k < w.heap.size → k ≠ db → (∀ cur, w.heap[k]? ≠ some (.cells cur U (0, 0))) → w'.heap[k]? = w.heap[k]?
theorem Nr.trans {w1 w2 w3 : World} (h : Nr U db w1 w2) (k : Nr U db w2 w3) (hs : w1.heap.size ≤ w2.heap.size) : Nr U db w1 w3 := fun i h1 h2 h3 => by
  have e := h i h1 h2 h3
  rw [k i (Nat.lt_of_lt_of_le h1 hs) h2 (fun cur => by rw [e]; exact h3 cur), e]
def CbC (P : Program) (T : IT) (f : Nat) : Prop := entersB P f = true ∧ ∀ (w : World) (B db : Nat) (bs : List UInt8) (k : Nat) (a : Option Addr) (l : List UInt8) (c : Nat), B ≤ w.heap.size → B ≤ db → BoxR T.u8 T.u8s w B db (bs.map byteV) → k < 4294967296 → l.length ≤ 32767 → BytesAt w (· < B) a l → bs.length + (encTag (k, l)).length ≤ lim →
  Calls P f #[.int .u32 (k : Nat), .slice a l.length c, .pointer (some ⟨db, 0, none⟩)] w (fun e w' => (∃ v, e = .returned v) ∧ BoxR T.u8 T.u8s w' B db ((bs ++ encTag (k, l)).map byteV) ∧ Below B w w' ∧ Nr T.u8 db w w')
end
end Go.Kx
namespace Go.Kx
open Go.RowKit Go.MapKept Go.MapFrom
set_option linter.unusedSimpArgs false
set_option linter.unusedVariables false
def nilSB (P : Program) (T : Nat) : Bool := match P.info? T with
  | some i => (match i.zero with | some v => MVal.nslice.is v | none => false)
  | none => false
structure EN where
  tSt : Nat
  tMap : Nat
  tKs : Nat
  tU32 : Nat
  tInt : Nat
  fLess : Nat
  fSort : Nat
  fCb : Nat
def SortC (P : Program) (tS U f fLess : Nat) : Prop := entersB P f = true ∧ ∀ (w : World) (db g n c : Nat) (cur : Array Value) (ks : List Nat), w.heap[db]? = some (.cells #[.slice (some ⟨g, 0, none⟩) n c] tS (0, 0)) → w.heap[g]? = some (.cells cur U (0, 0)) → ks.length = n → n < 1000000 → (∀ k ∈ ks, k < 4294967296) → w.rangeAt g 0 (ks.map u32V) → w.there g 0 n → g ≠ db → g < w.heap.size →
  Calls P f #[.iface tS (.slice (some ⟨g, 0, none⟩) n c), .func (.func fLess) #[] #[.pointer (some ⟨db, 0, none⟩)]] w (fun e w' => e = .returned (.tuple #[]) ∧ ∃ ks' : List Nat, ks'.Perm ks ∧ ks'.Pairwise (fun x y => x ≤ y) ∧ w'.rangeAt g 0 (ks'.map u32V) ∧ (∃ cur', w'.heap[g]? = some (.cells cur' U (0, 0))) ∧ Fr (fun _ => False) g 0 n w w')
structure TgE (P : Program) (K : EN) (T : IT) : Prop where
  map : mapU P K.tMap = true
  mapT : mapTy P K.tMap = true
  pl : plainTy P K.tMap = true
  fld : fieldAtB P K.tSt 0 0 = true
  ks : sliceOf P K.tKs K.tU32 = true
  u : u32B P K.tU32 = true
  zk : nilSB P K.tKs = true
  ck : cellsB P K.tKs 1 = true
  pk : plainTy P K.tKs = true
  pu : plainTy P K.tU32 = true
  cu : cellsB P K.tU32 1 = true
  int : intTy P K.tInt .i64 = true
  ne : K.tU32 ≠ K.tKs
end Go.Kx
namespace Go.Kx
open Go.RowKit Go.MapKept Go.MapFrom
set_option linter.unusedSimpArgs false
set_option linter.unusedVariables false
section
variable {P : Program} {N : Nat} {Q : Exit → (Nat → Value) → World → Prop} {ρ : Nat → Value} {w w' : World} {ms : List MOp} {T : IT} {K : EN}
end
section
variable {P : Program} {N : Nat} {Q : Exit → (Nat → Value) → World → Prop} {ρ : Nat → Value} {w w' : World} {ms : List MOp} {T : IT} {K : EN}
end
end Go.Kx
namespace Go.Kx
open Go.RowKit
set_option linter.unusedSimpArgs false
set_option linter.unusedVariables false
theorem TeachC.sub {P : Program} {U f : Nat} {S S' : List (Nat × List UInt8) → Prop} (h : TeachC P U f S) (hs : ∀ t, S' t → S t) : TeachC P U f S' :=
  ⟨h.1, fun w B p m sv tags bs h1 h2 h3 h4 h5 h6 h7 => h.2 w B p m sv tags bs h1 h2 h3 h4 (hs _ h5) h6 h7⟩
section
variable {P : Program} {N : Nat} {Q : Exit → (Nat → Value) → World → Prop} {ρ : Nat → Value} {w w' : World} {ms : List MOp} {d : Nat} {T : IT} {K : KB} {g : TN}
end
end Go.Kx
namespace Go.Kx
open Go.RowKit
set_option linter.unusedSimpArgs false
set_option linter.unusedVariables false
section
variable {P : Program} {S : SN} {w w' : World} {Q : Exit → (Nat → Value) → World → Prop} {ρ : Nat → Value}
end
section
variable {P : Program} {S : SN} {w w' w0 : World} {Q : Exit → (Nat → Value) → World → Prop} {ρ : Nat → Value}
theorem TagRow.two {cs : List Value} {t : Tg} (h : TagRow w cs t) : cs.length = 2 ∧ cs.all (·.oneCell') = true := by
  obtain ⟨_, ad, c, rfl, _⟩ := h
  exact ⟨rfl, rfl⟩
end
section
variable {P : Program} {S : SN} {w w' w0 : World} {Q : Exit → (Nat → Value) → World → Prop} {ρ : Nat → Value}
end
section
variable {P : Program} {S : SN} {w w' : World} {Q : Exit → (Nat → Value) → World → Prop} {ρ : Nat → Value}
end
section
variable {P : Program} {S : SN} {w w' : World} {N : Nat} {Q : Exit → (Nat → Value) → World → Prop} {ρ : Nat → Value} {SU : List (Nat × List UInt8) → Prop}
end
section
variable {P : Program} {S : SN} {w w' : World} {N : Nat} {Q : Exit → (Nat → Value) → World → Prop} {ρ : Nat → Value} {SU : List (Nat × List UInt8) → Prop}
end
section
variable {P : Program} {w : World} {T : IT} {K : EN}
end
section
variable {P : Program} {S : SN} {w w' : World} {Q : Exit → (Nat → Value) → World → Prop} {ρ : Nat → Value}
end
/-! ### Sixteen octets, copied into an array -/
section
variable {P : Program} {w w' : World}
end
/-! ### Octets behind their length -/
theorem I32.wr {n : Int} (h : I32 n) : IntKind.i64.wrap n = n := by obtain ⟨a1, a2⟩ := h; simp [IntKind.wrap, IntKind.signed, IntKind.bits]; omega
section
variable {P : Program} {R : RN}
/-! ### Octets that may be null; numbers with a point -/
def cNByt (R : RN) : MCode := .sq (.rg [.mv 2 (.c .nslice)]) (.sq (.rg [.mv 5 (.t 0), .ca 6 R.i32 [.t 5], .mv 3 (.t 6)])
  (.sq (.sq (.rg [.mv 7 (.t 3), .bi 8 .lss R.T.i32 (.t 7) (.c (.int .i32 0))]) (.cd 8 (.sq (.rg [.mv 2 (.c .nslice)]) .rt) .sk))
  (.sq (.rg [.mv 9 (.t 0), .mv 10 (.t 3), .cv 11 R.T.i32 R.T.int 10, .ca 12 R.span [.t 9, .t 11], .mv 4 (.t 12)]) (.sq (.rg [.mv 13 (.t 4), .mv 2 (.t 13)]) .rt))))
theorem nbyt_fin {w : World} {sb : Nat} {ad : Option Addr} {l : List UInt8} {st2 : Option (List UInt8)} (ha : okAd ad) (hb : BytesAt w (· = sb) ad l) (h1 : st2 ≠ none → ad ≠ none) (h2 : st2 = none → ad = none ∧ l = []) : ∃ d, (st2 ≠ none → d = D.s (some l)) ∧ PrC .nbyt w (Rb w sb) (.slice ad l.length l.length) d := by
  cases st2 with
  | none =>
    obtain ⟨rfl, rfl⟩ := h2 rfl
    exact ⟨.s none, fun h => absurd rfl h, rfl, rfl, rfl, .inl ⟨rfl, rfl⟩⟩
  | some r =>
    cases ad with
    | none => exact absurd rfl (h1 (by simp))
    | some a => exact ⟨.s (some l), fun _ => rfl, rfl, rfl, rfl, .inr ⟨a, _, l, rfl, hb.mono (fun _ h => .inl h) (fun _ _ => rfl), rfl⟩⟩
theorem Got.chg {α : Type} {d : Dec α} {st st' : Option (List UInt8)} {x y : α} (h : Got d st x st') (hy : st' ≠ none → y = x) : Got d st y st' := by
  cases st' with
  | none => exact h
  | some r => rw [hy (by simp)]; exact h
theorem nbyt_ok {f : Nat} (ok : ROK P R) (h32 : R.T.i32 ≠ 0) (hi : RdCS P R.i32 (dInt 4) (PlB (fun x => .int .i32 x) I32)) (hsp : SpanCS P R.span) (hf : FnIs P f (cNByt R) 14 2) : RdC P f (dP .nbyt false) (PrC .nbyt) := by
  refine ⟨hf.ent, fun w rb sb st h hne => ?_⟩
  refine hf.runs (args := [.pointer (some ⟨rb, 0, none⟩)]) (by simp) (by omega) ?_
  refine RW.sq (RW.rg (RL.step MR.mv (RL.nil (RW.sq (RW.rg (RL.step (MR.mv (v := .pointer (some ⟨rb, 0, none⟩)) rfl) (RL.rdS hi rfl h hne (by rfl) (by decide) ?_)))))))
  rintro v x st1 w1 hF hG hR ⟨rfl, hx⟩ hA
  refine RL.step MR.mv (RL.nil (RW.sq (RW.sq (RW.rg (RL.step (MR.mv (v := .int .i32 x) rfl) (RL.step (MR.biE (v := .bool (decide (x < 0))) rfl) (RL.nil ?_)))))))
  refine RW.cd rfl (fun e => ?_) (fun e => RW.sk ?_)
  · have e := of_decide_eq_true e
    refine RW.sq (RW.rg (RL.step MR.mv (RL.nil (RW.rt ?_))))
    exact ⟨_, .s none, st1, rfl, hF, hG.bind (by rw [if_pos e]; exact Got.pure _), hR, rfl, rfl, rfl, .inl ⟨rfl, rfl⟩⟩
  have e := of_decide_eq_false e
  refine RW.sq (RW.rg (RL.step (MR.mv (v := .pointer (some ⟨rb, 0, none⟩)) rfl) (RL.step (MR.mv (v := .int .i32 x) rfl) (RL.step (MR.cvI rfl (ok.tk.i32 h32) ok.tk.int) (RL.spanS (n := x) hsp rfl (by show Value.int .i64 (IntKind.i64.wrap x) = _; rw [hx.wr]) hR hne (by rfl) (by rfl) (by decide) ?_)))))
  intro ad l st2 w2 hF2 hG2 hR2 ha hb hs1 hs2
  obtain ⟨d, hd1, hd2⟩ := nbyt_fin (st2 := st2) ha hb (fun hn => hs1 (hA (by rintro rfl; exact hn hG2.out)) hn) hs2
  refine RL.step MR.mv (RL.nil (RW.sq (RW.rg (RL.step (MR.mv (v := .slice ad l.length l.length) rfl) (RL.step MR.mv (RL.nil (RW.rt ?_)))))))
  have hd2' : PrC .nbyt w2 (Rb w sb) (.slice ad l.length l.length) d := by
    obtain ⟨a1, a2, a3, a4⟩ := hd2
    refine ⟨a1, a2, a3, RepP.mono a4 (fun b hb => hb.imp id (fun hb => ?_)) (fun _ _ => rfl)⟩
    exact Nat.le_trans (Nat.le_trans hF.size hF2.size) hb
  have hG3 : Got (dP .nbyt false) st (D.s (some l)) st2 := hG.bind (by rw [if_neg e]; exact hG2.map (f := fun l => D.s (some l)))
  exact ⟨_, d, st2, rfl, hF.trans hF2, hG3.chg hd1, hR2, hd2'⟩
end

set_option linter.unusedSimpArgs false
def cI8 (R : RN) : MCode :=
  .sq (.rg [.mv 2 (.c (.int .i8 0))]) (.sq (.sq (.rg (headR R 1 (.int .i8 0))) (.cd 9 (failM R (.int .i8 0) 2 10) .sk))
    (.sq (.rg [.mv 16 (.t 0), .nc 17 16, .fa 18 R.tR 17 0, .ld 19 R.T.u8s 18, .iak 20 R.T.u8s 19 0, .ld 21 R.T.u8 20, .mv 3 (.t 21)])
    (.sq (.rg (nextR R 1 22)) (.sq (.rg [.mv 30 (.t 3), .cv 31 R.T.u8 R.T.i8 30, .mv 2 (.t 31)]) .rt))))
theorem wrap_sgn8 {x : Nat} (h : x < 256) : IntKind.i8.wrap (x : Int) = sgn 1 x := by
  unfold sgn
  simp [IntKind.wrap, IntKind.signed, IntKind.bits]
  split <;> omega
theorem i8_ok {P : Program} {R : RN} {f : Nat} (ok : ROK P R) (h8 : R.T.i8 ≠ 0) (hf : FnIs P f (cI8 R) 32 2) : RdC P f (dInt 1) (PlB (fun x => .int .i8 x) (fun n => -128 ≤ n ∧ n ≤ 127)) := by
  refine ⟨hf.ent, fun w rb sb st h hne => ?_⟩
  refine hf.runs (args := [.pointer (some ⟨rb, 0, none⟩)]) (by simp) (by omega) ?_
  refine RW.sq (RW.rg (RL.step MR.mv (RL.nil (RW.sq (head_ok (n := 1) ok h rfl (by omega) (by omega) (fun hlt ρ' w' g1 g2 g3 => ?_) (fun l hl hnl ρ1 hρ => ?_))))))
  · refine ⟨_, 0, none, rfl, g3, Got.failed (fun l hl => ?_), g2, g1, by omega, by omega⟩
    subst hl; exact Dec.map_none (Dec.map_none (takeN_none hlt))
  · subst hl
    obtain ⟨y, hy⟩ : ∃ y, l[0]? = some y := ⟨_, List.getElem?_eq_getElem (by omega)⟩
    obtain ⟨ad, c, r1, r2, r3, r4, r5⟩ := h
    obtain ⟨g, o, rfl, hc, hlt⟩ := byte_at r5 hy
    show RW P 32 _ _ ρ1 w
    have q0 : ρ1 0 = .pointer (some ⟨rb, 0, none⟩) := by rw [hρ 0 (by omega)]; rfl
    refine RW.sq (RW.rg (RL.step (MR.mv q0) (RL.step (MR.nc rfl) (RL.step (MR.fa rfl ok.f0) (RL.step (MR.ld rfl ok.ps (r1 0 _ rfl)) (RL.step (MR.iak (sz := 1) ok.tk.u8s ok.cu rfl hlt) (RL.step (MR.ld rfl ok.pu hc)
      (RL.step MR.mv (RL.nil ?_)))))))))
    refine RW.sq (RW.rg (next_ok ok ⟨_, c, r1, r2, r3, r4, r5⟩ hne hnl q0 (by omega) (by omega) fun ρ2 w2 k1 k2 k3 => ?_))
    refine RW.sq (RW.rg (RL.step (MR.mv (v := .int .u8 (y.toNat : Int)) (by show ρ2 3 = _; rw [k1 3 (by omega)]; rfl)) (RL.step (MR.cvI rfl ok.tk.u8i (ok.tk.i8 h8)) (RL.step MR.mv (RL.nil (RW.rt ?_))))))
    have hbv : beVal (l.take 1) = y.toNat := by
      cases l with
      | nil => simp at hy
      | cons a l => simp at hy; subst hy; simp [beVal]
    have hy8 := y.toNat_lt
    refine ⟨_, sgn 1 y.toNat, some (l.drop 1), rfl, k3, ?_, k2, ?_, ?_, ?_⟩
    · show dInt 1 l = _
      have := Dec.map_of (f := sgn 1) (Dec.map_of (f := beVal) (takeN_yes hnl))
      rw [hbv] at this
      exact this
    · show Value.int .i8 (IntKind.i8.wrap (y.toNat : Int)) = _
      rw [wrap_sgn8 (by omega)]
    · show (-128 : Int) ≤ sgn 1 y.toNat; unfold sgn; split <;> omega
    · show sgn 1 y.toNat ≤ 127; unfold sgn; split <;> omega
structure FTN where
  f2 : Nat
  f3 : Nat
  f4 : Nat
structure SeatA (P : Program) (K : KB) (g : TN) (S : SN) (R : RN) (G : TG) : Prop where
  kk : KOK P K
  ok : SOK0 P S
  same : SameC P S.fSame
  ver : S.fVer ≠ 0 → VerC P S.fVer
  h16 : K.T.i16 ≠ 0
  c16 : cellsB P K.T.i16 1 = true
  u8 : K.T.u8 = S.T.u8
  rk : RKOK P R G
  ao : AOK P (K.ia g) okTags
section
variable {P : Program} {K : KB} {g : TN} {S : SN} {R : RN} {G : TG} {E : EN} {Z : FTN}
structure RL0 where
  f : Nat
  fMax : Nat
  fSpec : Nat
  fAgain : Nat
  fPtr : Nat
  fDef : Nat
  fMv : Nat
  fSet : Nat
  fAp : Nat
  fRd : Nat
  fRF : Nat
  tErr : Nat
  most : Nat
  L : Nat
  N : Nat
  LR : Nat
  NR : Nat
  pl : Plan
  zs : List MVal
  df : Dfs
  sx : SxL
  flex : Int
end
end Go.Kx
namespace Go.Kx
set_option linter.unusedVariables false


section
variable (ver : Int) (flex : Bool)
end
end Go.Kx
namespace Go.Kx
open Go.RowKit Go.ChangeShapes Go.WideShapes
set_option linter.unusedVariables false
set_option linter.unusedSimpArgs false
def eqNN : List (Nat × Nat) → List (Nat × Nat) → Bool
  | [], [] => true
  | a :: xs, b :: ys => Nat.beq a.1 b.1 && Nat.beq a.2 b.2 && eqNN xs ys
  | _, _ => false
def structB (P : Program) (t : Nat) (l : List (Nat × Nat)) : Bool := match P.underlying t with
  | some (.struct fs) => eqNN (fs.toList.map fun f => (f.offset, f.type)) l
  | _ => false
def boolB (P : Program) (t : Nat) : Bool := match P.underlying t with
  | some .bool => true
  | _ => false
theorem boolB_eq {P : Program} {t : Nat} (h : boolB P t = true) : P.underlying t = some .bool := by
  unfold boolB at h
  split at h
  · assumption
  · simp at h
def treeB (P : Program) (S : SN) : List Bool := [structB P S.tr [(0, S.T.i64), (1, S.T.u8s), (2, S.T.bool), (3, S.trs), (4, S.tgs)], structB P S.tg [(0, S.T.u32), (1, S.T.u8s)], intTy P S.T.i64 .i64, boolB P S.T.bool, intTy P S.T.u32 .u32, intTy P S.T.u8 .u8,
  sliceOf P S.T.u8s S.T.u8, sliceOf P S.trs S.tr, sliceOf P S.tgs S.tg, Nat.beq (P.cellsOf S.tr) 5, Nat.beq (P.cellsOf S.tg) 2, Nat.beq (P.cellsOf S.T.i64) 1, Nat.beq (P.cellsOf S.T.bool) 1, Nat.beq (P.cellsOf S.T.u8) 1, Nat.beq (P.cellsOf S.T.u8s) 1, Nat.beq (P.cellsOf S.trs) 1, Nat.beq (P.cellsOf S.tgs) 1, Nat.beq (P.cellsOf S.T.u32) 1]
structure BulkOk {H : Type} (B : DataW H → Nat) (BA : List (DataW H) → Nat) : Prop where
  one : ∀ d, 1 ≤ B d
  slice : ∀ e s, 1 + BA e ≤ B (.slice e s)
  agg : ∀ ps, 1 + BA ps ≤ B (.agg ps)
  cons : ∀ d l, B d + BA l ≤ BA (d :: l)
section
variable {H : Type} {B : DataW H → Nat} {BA : List (DataW H) → Nat} {enc : TypeId × Value → H} {P : Program} {S : SN} {w : World} {base : Nat} {held : Bool}
theorem BulkOk.len (hB : BulkOk B BA) : ∀ l : List (DataW H), l.length ≤ BA l
  | [] => Nat.zero_le _
  | d :: l => by have := hB.one d; have := hB.cons d l; have := hB.len l; rw [List.length_cons]; omega
theorem cell_at {a : Addr} {v : Value} {i : Nat} (h : w.cell? (a.add i) = some v) (h0 : a.spot = none) : w.cell? ⟨a.block, a.off + i, none⟩ = some v := by
  have e : a = ⟨a.block, a.off, none⟩ := by cases a; simp_all
  rw [e, Addr.add_mid] at h
  exact h
theorem open_u8s {U8 U8s : Nat} (h1 : sliceOf P U8s U8 = true) (h2 : intTy P U8 .u8 = true) (h3 : P.cellsOf U8 = 1) (hB : BulkOk B BA) {fuel : Nat} {cs : List Value} {x : DataW H × List MemPlace} (h : DataW.trod enc P w base (fun _ => true) held fuel U8s cs = some x) :
    ∃ ad l c, cs = [.slice ad (List.length l) c] ∧ okA l.length ad ∧ l.length ≤ c ∧ BytesAt w (fun _ => True) ad l ∧ 1 + l.length ≤ B x.1 := by
  rcases open_ints (sliceOf_eq h1) (intTy_eq h2) h3 h with ⟨rfl, rfl⟩ | ⟨a, len, cap, zs, rfl, hb, hl, hm, hz, rfl, hcell, hwz⟩
  · exact ⟨none, [], 0, rfl, .inl rfl, Nat.le_refl _, fun j b hj => by simp at hj, by have := hB.one (DataW.nil : DataW H); simpa using this⟩
  · simp only [if_true] at hz
    have hlen : ((zs.take len).map fun n => UInt8.ofNat n.toNat).length = len := by simp; omega
    have hspot : 0 < len → a.spot = none := fun h0 => by
      have := World.cell?_spot (hcell 0 (by omega))
      simpa [Addr.add] using this
    refine ⟨some a, (zs.take len).map fun n => UInt8.ofNat n.toNat, cap, by rw [hlen], ?_, by rw [hlen]; exact hl, fun j b hj => ?_, ?_⟩
    · rw [hlen]
      by_cases h0 : len = 0
      · exact .inl h0
      · right; right
        refine ⟨a.block, a.off, ?_⟩
        have := hspot (by omega)
        cases a; simp_all
    · have hj' : j < len := by
        have := (List.getElem?_eq_some_iff.1 hj).1
        rwa [hlen] at this
      have hs := hspot (by omega)
      refine ⟨a.block, a.off, by cases a; simp_all, trivial, ?_⟩
      rw [cell_at (hcell j (by omega)) hs]
      have hzj : zs.getD j 0 = zs[j]'(by omega) := by simp [List.getD, List.getElem?_eq_getElem (show j < zs.length by omega)]
      have hw := hwz (zs[j]'(by omega)) (List.getElem_mem _)
      rw [List.getElem?_map, List.getElem?_take, if_pos hj', List.getElem?_eq_getElem (show j < zs.length by omega)] at hj
      simp only [Option.map_some, Option.some.injEq] at hj
      subst hj
      rw [hzj]
      unfold byteV
      congr 2
      simp [Lit.wf, IntKind.min, IntKind.max, IntKind.bits, IntKind.signed] at hw
      simp only [UInt8.toNat_ofNat']
      omega
    · have h1 := hB.slice (lits .u8 (zs.take len)) (lits .u8 (zs.drop len))
      have h2 := hB.len (lits .u8 (zs.take len))
      have h3 : (lits (H := H) .u8 (zs.take len)).length = len := by simp [lits]; omega
      rw [hlen]
      show 1 + len ≤ B (.slice _ _)
      rw [h3] at h2
      omega
structure TreeOk (P : Program) (S : SN) : Prop where
  tr : structB P S.tr [(0, S.T.i64), (1, S.T.u8s), (2, S.T.bool), (3, S.trs), (4, S.tgs)] = true
  tg : structB P S.tg [(0, S.T.u32), (1, S.T.u8s)] = true
  i64 : intTy P S.T.i64 .i64 = true
  bool : boolB P S.T.bool = true
  u32 : intTy P S.T.u32 .u32 = true
  u8 : intTy P S.T.u8 .u8 = true
  u8s : sliceOf P S.T.u8s S.T.u8 = true
  trs : sliceOf P S.trs S.tr = true
  tgs : sliceOf P S.tgs S.tg = true
  ctr : P.cellsOf S.tr = 5
  ctg : P.cellsOf S.tg = 2
  ci64 : P.cellsOf S.T.i64 = 1
  cbool : P.cellsOf S.T.bool = 1
  cu8 : P.cellsOf S.T.u8 = 1
  cu8s : P.cellsOf S.T.u8s = 1
  ctrs : P.cellsOf S.trs = 1
  ctgs : P.cellsOf S.tgs = 1
  cu32 : P.cellsOf S.T.u32 = 1
end
end Go.Kx
namespace Go.Kx
open Go.RowKit Go.ChangeShapes Go.WideShapes Go.WideElems
set_option linter.unusedVariables false
set_option linter.unusedSimpArgs false
section
variable {H : Type} {B : DataW H → Nat} {BA : List (DataW H) → Nat} {enc : TypeId × Value → H} {P : Program}
theorem keepAll {W W' : World} (hl : laidOutB P = true) (hb : Below W.heap.size W W') : ∀ {ts : List TypeId} {vs : List Value} {ds : List (DataW H)} {ps : List MemPlace}, ts.all (fun t => P.readableRec t && decide (t < P.types.size)) = true →
    DataW.TrodAll enc P W 0 (fun _ => true) true ts vs ds ps → (∀ x ∈ ps, x.block < W.heap.size) → DataW.TrodAll enc P W' 0 (fun b => decide (b < W.heap.size)) true ts vs ds ps
  | [], vs, ds, ps, _, h, _ => by
    obtain ⟨rfl, rfl, rfl⟩ := trodAll_nil h
    exact trodAll_mk0
  | t :: ts, vs, ds, ps, hr, h, hlt => by
    obtain ⟨v, vs', d, ds', p, q, rfl, rfl, rfl, h1, h2⟩ := trodAll_cons h
    simp only [List.all_cons, Bool.and_eq_true, decide_eq_true_eq] at hr
    exact trodAll_cons_mk (Below.trod hl hr.1.1 hr.1.2 h1 hb (fun x hx => hlt x (List.mem_append.2 (.inl hx)))) (keepAll hl hb (by simpa using hr.2) h2 (fun x hx => hlt x (List.mem_append.2 (.inr hx))))
theorem row_post {fn : Func} {s : ChangeSpec} {tb : TypeId} {W W' : World} {args : Array Value} {ds gs : List (DataW H)} {before : List MemPlace} (hl : laidOutB P = true) (hrd : fn.params.toList.all (fun t => P.readableRec t && decide (t < P.types.size)) = true) (hres : fn.resultTypes = #[tb]) (ht : P.underlying tb = some .bool)
    (hv : s.vars = []) (hW : DataW.Whole enc P fn.params.toList s.vars false W args.toList ds gs before) (hb : Below W.heap.size W W') (hfn : s.fn H (ds ++ gs) = { results := [.lit (.bool true)], args := ds, vars := [] }) : s.post enc P fn false true false false W args (.bool true) W' := by
  have hW' := hW
  obtain ⟨p, q, hA, hV, rfl, hfz, hnd⟩ := hW
  rw [hv] at hV
  have hq : gs = [] ∧ q = [] := by
    cases gs with
    | nil => exact ⟨rfl, hV⟩
    | cons g gs => simp [DataW.TrodVars] at hV
  obtain ⟨rfl, rfl⟩ := hq
  refine ⟨ds, [], _, [], p, [], hW', ?_, ?_, ?_, hb.frame _, fun h => by cases h⟩
  · rw [hfn, hres]
    exact trodAll_mk1 (shut_bool ht true)
  · rw [hfn]
    exact keepAll hl hb hrd hA (fun x hx => hW'.lt x (List.mem_append.2 (.inl hx)))
  · rw [hv, hfn]
    exact rfl
theorem laid_err {W : World} {name nm : String} {g t : Nat} {d : DataW Unit} (hg : P.globalNamed name = some g) (ht : (P.globals[g]?).map (·.type) = some t) (hi : ifaceTy P t = true) (h : laidMet P [(name, .iface nm d)] W) : ∃ ev, W.cell? ⟨g, 0, none⟩ = some ev ∧ isErr ev := by
  obtain ⟨ps, ⟨g', t', cs, fuel, p, q, hg', ht', hvar, hd, _, _⟩, _⟩ := h
  obtain rfl := Option.some.inj (hg.symm.trans hg')
  obtain rfl := Option.some.inj (ht.symm.trans ht')
  obtain ⟨ms, hu⟩ := ifaceTy_eq hi
  have hc := fun i => World.var?_cell hg hvar i
  obtain ⟨l⟩ := cs
  cases fuel with
  | zero => simp [DataW.trod] at hd
  | succ n =>
    unfold DataW.trod at hd
    rw [hu] at hd
    simp only at hd
    match l, hd with
    | [], hd => simp at hd
    | [v], hd =>
      cases v <;> simp at hd
      rename_i u x
      exact ⟨_, by rw [hc 0]; rfl, _, _, rfl⟩
    | v :: v2 :: r, hd => simp at hd
section
variable {K : KB} {g : TN} {S : SN} {R : RN} {G : TG} {E : EN} {Z : FTN}
structure ArgOk (P : Program) (S : SN) : Prop where
  u8 : intTy P S.T.u8 .u8 = true
  u8s : sliceOf P S.T.u8s S.T.u8 = true
  cu8 : P.cellsOf S.T.u8 = 1
  bool : boolB P S.T.bool = true
end
end
end Go.Kx
