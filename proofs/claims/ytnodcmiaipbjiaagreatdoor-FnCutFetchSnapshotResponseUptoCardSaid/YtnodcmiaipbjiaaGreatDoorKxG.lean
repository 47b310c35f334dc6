/- The reference's constructors of messages and parts (SpecC): the code from a list, its walk.
   A new message's cells say its default: by a test.
   Reading, the plain law: what is read of octets (dec), that more octets behind change nothing (ext), that what is written is read as what was said (round trip), that what is read is written in no more octets. Plain definitions; no condition.
   Statements in a row at slot level (RWL); what a call may turn in one block (Fr); the code of Default: stores of constants, its walk. No condition on the program beyond the tests named.
   The laws FnNew..: all that the program must pass, as one Boolean test (nlOk); from it the law's run.
   Reading, the plain law: what is written of what may be said (Ok) is read as it was said (norm), and written again the same. No condition.
   Reading, the plain law: what is read of octets may be said (Ok), is small, and is written in no more octets; so what is read and written is read and written the same. Conditions: at most 32767 octets; every thing of a list is written in at least one octet (minOk).
   A row's closed facts, out of the program's own (each proved once) and the row's. No condition. -/
import Derived.Test.YtnodcmiaipbjiaaGreatDoorKxF
import Derived.JoinedOf
namespace Go.Kx
open Go.RowKit
set_option linter.unusedSimpArgs false
set_option linter.unusedVariables false
structure SF where
 ps : List (Nat × Int)
 sub : Option Nat
def Yb (fd : Nat) : List SF → Nat → List MOp × List Nat × Nat
 | [], t => ([], [], t)
 | s :: r, t =>
  match s.sub with
  | none =>
   let g := Yb fd r (t + 1)
   (.bdl t fd (s.ps.map fun p => (p.1, .c (.int .i64 p.2))) :: g.1, t :: g.2.1, g.2.2)
  | some f =>
   let g := Yb fd r (t + 2)
   (.ca t f [] :: .bdl (t + 1) fd ((s.ps.map fun p => (p.1, MX.c (.int .i64 p.2))) ++ [(7, .t t)]) :: g.1, (t + 1) :: g.2.1, g.2.2)
def QI (ps : List (Nat × Int)) : List Int := ps.foldl (fun l p => l.set p.1 p.2) (List.replicate 7 0)
def cFds (S : SN) (l : List SF) : Jc :=
 let g := Yb S.fd l 1
 .sq (.rg [.mv 0 (.c .nslice)]) (.sq (.rg (g.1 ++ [.bsl g.2.2 S.fds (g.2.1.map .t), .mv 0 (.t g.2.2)])) .rt)
def cSpec (S : SN) (l : List SF) (flex : Int) : Jc :=
 let g := Yb S.fd l 1
 .sq (.rg [.al 0 S.msg]) (.sq (.rg (g.1 ++ [.bsl g.2.2 S.fds (g.2.1.map .t), .bdl (g.2.2 + 1) S.msg [(1, .c (.int .i64 flex)), (0, .t g.2.2)], .st S.msg 0 (g.2.2 + 1)])) .rt)
section
variable {P : Program} {S : SN} {w w' : World} {N : Nat} {Q : UE} {ρ : Nat → Value} {ms : List MOp}
def FdsC (P : Program) (f : Nat) (fs : Fds) : Prop := Jo P f = true ∧ ∀ w : World, Calls P f #[] w (fun e w' => ∃ ad c, e = .returned (.slice ad fs.toList.length c) ∧ JX (restr w' (w.heap.size ≤ ·)) ad 0 fs ∧ Below w.heap.size w w')
def Al (w : World) : Fds → List (List Value) → Prop
 | .nil, css => css = []
 | .cons f r, css => ∃ cs css', css = cs :: css' ∧ J7 w f cs ∧ Al w r css'
theorem Al.kp (k : Kp w w') : ∀ {fs : Fds} {css : List (List Value)}, Al w fs css → Al w' fs css
 | .nil, _, h => h
 | .cons f r, _, ⟨cs, css', h1, h2, h3⟩ => ⟨cs, css', h1, J7.kp k f h2, Al.kp k h3⟩
theorem Al.len : ∀ {fs : Fds} {css : List (List Value)}, Al w fs css → css.length = fs.toList.length ∧ ∀ cs ∈ css, cs.length = 8
 | .nil, _, h => by subst h; exact ⟨rfl, by simp⟩
 | .cons f r, _, ⟨cs, css', h1, h2, h3⟩ => by
  subst h1
  have := Al.len h3
  exact ⟨by simp [Fds.toList, this.1], fun c hc => by
   simp only [List.mem_cons] at hc
   rcases hc with rfl | hc
   ·exact h2.one.2
   ·exact this.2 c hc⟩
theorem rowsF_flat {h : Nat} : ∀ {fs : Fds} {css : List (List Value)} {i : Nat}, Al w fs css → w.rangeAt h (i * 8) css.flatten → JX w (some ⟨h, 0, none⟩) i fs
 | .nil, _, _, _, _ => by unfold JX; trivial
 | .cons f r, _, i, ⟨cs, css', h1, h2, h3⟩, hr => by
  subst h1
  unfold JX
  have hl := h2.one.2
  refine ⟨⟨h, 0, cs, rfl, fun j v hj => ?_, h2⟩, rowsF_flat h3 (fun j v hj => ?_)⟩
  ·rw [Nat.zero_add]
   exact hr j v (by rw [List.flatten_cons, List.getElem?_append_left (List.getElem?_eq_some_iff.1 hj).1]; exact hj)
  ·have := hr (8 + j) v (by rw [List.flatten_cons, List.getElem?_append_right (by omega), show 8 + j - cs.length = j from by omega]; exact hj)
   rwa [show i * 8 + (8 + j) = (i + 1) * 8 + j from by omega] at this
def SFok (P : Program) : List SF → Fds → Prop
 | [], fs => fs = .nil
 | s :: r, fs => ∃ f fr, fs = .cons f fr ∧ QI s.ps = [f.kind, f.fr, f.to, f.nul, f.tag, f.df, f.of] ∧ (∀ p ∈ s.ps, p.1 < 7) ∧ (match s.sub with | none => f.sub = .nil | some fn => FdsC P fn f.sub) ∧ SFok P r fr
theorem fold_ints (x : Value) : ∀ (ps : List (Nat × Int)) (l : List Int), l.length = 7 → (∀ p ∈ ps, p.1 < 7) →
  (ps.map fun p => (p.1, Value.int .i64 p.2)).foldl (fun (cs : Array Value) p => cs.setIfInBounds p.1 p.2) (l.map (Value.int .i64) ++ [x]).toArray = ((ps.foldl (fun l p => l.set p.1 p.2) l).map (Value.int .i64) ++ [x]).toArray
 | [], l, _, _ => rfl
 | p :: ps, l, hl, h => by
  have hp := h p List.mem_cons_self
  simp only [List.map_cons, List.foldl_cons]
  rw [← fold_ints x ps (l.set p.1 p.2) (by simpa using hl) (fun q hq => h q (List.mem_cons_of_mem _ hq))]
  congr 1
  apply Array.toList_inj.1
  rw [Array.toList_setIfInBounds]
  simp only [List.map_set]
  rw [List.set_append_left _ _ (by simpa [hl] using hp)]
theorem genSF_le {fd : Nat} : ∀ (l : List SF) (t : Nat), t ≤ (Yb fd l t).2.2
 | [], t => Nat.le_refl _
 | ⟨ps, none⟩ :: r, t => by have := genSF_le (fd := fd) r (t + 1); simp only [Yb]; omega
 | ⟨ps, some f⟩ :: r, t => by have := genSF_le (fd := fd) r (t + 2); simp only [Yb]; omega
theorem genSF_ok (ok : SOK P S) : ∀ (l : List SF) (fs : Fds) (t : Nat) (ρ : Nat → Value) (w : World), SFok P l fs → (Yb S.fd l t).2.2 ≤ N →
  (∀ ρ' w' css, (Yb S.fd l t).2.1.map ρ' = css.map (fun cs => Value.agg (List.toArray cs)) → Al (restr w' (w.heap.size ≤ ·)) fs css → Below w.heap.size w w' → (∀ s, s < t → ρ' s = ρ s) → (∀ s ∈ (Yb S.fd l t).2.1, t ≤ s ∧ s < (Yb S.fd l t).2.2) → RL P N ms Q ρ' w') →
  RL P N ((Yb S.fd l t).1 ++ ms) Q ρ w
 | [], fs, t, ρ, w, hok, hN, h => by
  have e : fs = .nil := hok
  subst e
  exact h ρ w [] rfl rfl (Below.refl _ _) (fun _ _ => rfl) (by simp [Yb])
 | ⟨ps, sub⟩ :: r, fs, t, ρ, w, hok, hN, h => by
  obtain ⟨f, fr, rfl, hi, hps, hsub, hr⟩ := hok
  have hle1 := genSF_le (fd := S.fd) r (t + 1)
  have hle2 := genSF_le (fd := S.fd) r (t + 2)
  cases sub with
  | none =>
   simp only [Yb] at hN h ⊢
   have hfs : f.sub = .nil := hsub
   have hb := built_of (P := P) (T := S.fd) (parts := ps.map fun p => (p.1, Value.int .i64 p.2)) (cells := (QI ps).map (Value.int .i64) ++ [.slice none 0 0]) ok.zFd ok.lFd
    (by intro p hp; simp only [List.mem_map] at hp; obtain ⟨q, hq, rfl⟩ := hp; exact ⟨by have := hps q hq; simp; omega, rfl⟩) (by
     have := fold_ints (.slice none 0 0) ps (List.replicate 7 0) rfl hps
     have e0 : ([Value.int .i64 0, .int .i64 0, .int .i64 0, .int .i64 0, .int .i64 0, .int .i64 0, .int .i64 0, .slice none 0 0].toArray) = ((List.replicate 7 (0 : Int)).map (Value.int .i64) ++ [Value.slice none 0 0]).toArray := rfl
     rw [e0, this]; rfl) w
   have hrep : ∀ W : World, J7 W f ((QI ps).map (Value.int .i64) ++ [.slice none 0 0]) := by
    intro W
    obtain ⟨kind, fr', to, nul, tag, df, of, sub⟩ := f
    have e : sub = .nil := hfs
    subst e
    rw [hi]
    unfold J7
    exact ⟨_, rfl, none, 0, rfl, by unfold JX; trivial⟩
   rw [List.cons_append]
   refine RL.s (MR.bdl (v := .agg ((QI ps).map (Value.int .i64) ++ [Value.slice none 0 0]).toArray) (w' := w) (by rw [List.map_map]; exact hb) (by intro p hp; simp only [List.mem_map] at hp; obtain ⟨q, _, rfl⟩ := hp; rfl)) ?_ (by omega)
   refine genSF_ok ok r fr (t + 1) _ w hr hN fun ρ' w' css h1 h2 h3 h4 h5 => ?_
   refine h ρ' w' (_ :: css) ?_ ⟨_, css, rfl, hrep _, h2⟩ h3 (fun s hs => by rw [h4 s (by omega), Jb _ _ (by omega)]) (fun s hs => ?_)
   ·simp only [List.map_cons, h1]; rw [h4 t (by omega), Ja]
   ·simp only [List.mem_cons] at hs
    rcases hs with rfl | hs
    ·exact ⟨Nat.le_refl _, by omega⟩
    ·have := h5 s hs; omega
  | some fn =>
   simp only [Yb] at hN h ⊢
   have hfs : FdsC P fn f.sub := hsub
   rw [List.cons_append, List.cons_append]
   refine RL.ca (R := fun v w' => ∃ ad c, v = .slice ad f.sub.toList.length c ∧ JX (restr w' (w.heap.size ≤ ·)) ad 0 f.sub ∧ Below w.heap.size w w') hfs.1 ?_ ?_ (by omega) (by simp)
   ·refine Calls.mono (hfs.2 w) ?_
    rintro e w' ⟨ad, c, rfl, h1, h2⟩
    exact ⟨_, rfl, ad, c, rfl, h1, h2⟩
   rintro v w1 ⟨ad, c, rfl, hrow, b1⟩
   have hb := built_of (P := P) (T := S.fd) (parts := (ps.map fun p => (p.1, Value.int .i64 p.2)) ++ [(7, .slice ad f.sub.toList.length c)]) (cells := (QI ps).map (Value.int .i64) ++ [.slice ad f.sub.toList.length c]) ok.zFd ok.lFd
    (by
     intro p hp
     simp only [List.mem_append, List.mem_map, List.mem_singleton] at hp
     rcases hp with ⟨q, hq, rfl⟩ | rfl
     ·exact ⟨by have := hps q hq; simp; omega, rfl⟩
     ·exact ⟨by simp, rfl⟩) (by
     rw [List.foldl_append]
     have := fold_ints (.slice none 0 0) ps (List.replicate 7 0) rfl hps
     have e0 : ([Value.int .i64 0, .int .i64 0, .int .i64 0, .int .i64 0, .int .i64 0, .int .i64 0, .int .i64 0, .slice none 0 0].toArray) = ((List.replicate 7 (0 : Int)).map (Value.int .i64) ++ [Value.slice none 0 0]).toArray := rfl
     rw [e0, this]
     show ((QI ps).map (Value.int .i64) ++ [Value.slice none 0 0]).toArray.setIfInBounds 7 _ = _
     rw [hi]; rfl) w1
   have hrep : J7 (restr w1 (w.heap.size ≤ ·)) f ((QI ps).map (Value.int .i64) ++ [.slice ad f.sub.toList.length c]) := by
    obtain ⟨kind, fr', to, nul, tag, df, of, sub⟩ := f
    rw [hi]
    unfold J7
    exact ⟨_, rfl, ad, c, rfl, hrow⟩
   refine RL.s (MR.bdl (v := .agg ((QI ps).map (Value.int .i64) ++ [Value.slice ad f.sub.toList.length c]).toArray) (w' := w1) (by
     rw [List.map_append, List.map_map, List.map_cons, List.map_nil]
     have e7 : xof (upd ρ t (.slice ad f.sub.toList.length c)) (.t t) = .slice ad f.sub.toList.length c := Ja _ _ _
     rw [e7]; exact hb) (by
     intro p hp
     simp only [List.mem_append, List.mem_map, List.mem_singleton] at hp
     rcases hp with ⟨q, _, rfl⟩ | rfl
     ·rfl
     ·exact ltT (by omega))) ?_ (by omega)
   refine genSF_ok ok r fr (t + 2) _ w1 hr hN fun ρ' w' css h1 h2 h3 h4 h5 => ?_
   refine h ρ' w' (_ :: css) ?_ ⟨_, css, rfl, J7.kp (restr_kp fun p v hp hv => ⟨hp, h3.kp p v hv⟩) _ hrep, h2.kp (restr_kp fun p v hp hv => ⟨Nat.le_trans b1.size hp, hv⟩)⟩ (b1.trans (h3.mono b1.size)) (fun s hs => by rw [h4 s (by omega), Jb _ _ (by omega), Jb _ _ (by omega)]) (fun s hs => ?_)
   ·simp only [List.map_cons, h1]; rw [h4 (t + 1) (by omega), Ja]
   ·simp only [List.mem_cons] at hs
    rcases hs with rfl | hs
    ·exact ⟨by omega, by omega⟩
    ·have := h5 s hs; omega
theorem zip_slots {sl : List Nat} {css : List (List Value)} (h : sl.map ρ = css.map (fun cs => Value.agg (List.toArray cs))) : ((List.range' 0 (sl.map MX.t).length).zip ((sl.map MX.t).map (xof ρ))).toArray = ((List.range' 0 css.length).zip (css.map fun cs => Value.agg cs.toArray)).toArray ∧ (sl.map MX.t).length = css.length := by
 have hl : sl.length = css.length := by have := congrArg List.length h; simpa using this
 refine ⟨?_, by simpa using hl⟩
 rw [List.map_map, show (xof ρ ∘ MX.t) = ρ from rfl, h, List.length_map, hl]
theorem fds_of (ok : SOK P S) {l : List SF} {fs : Fds} {f : Nat} (hf : FnIs P f (cFds S l) ((Yb S.fd l 1).2.2 + 1) 0) (hok : SFok P l fs) (h0 : fs ≠ .nil) (hn : fs.toList.length ≤ 1000) : FdsC P f fs := by
 refine ⟨hf.ent, fun w => ?_⟩
 have hle := genSF_le (fd := S.fd) l 1
 refine hf.runs (args := []) (by simp) (by omega) ?_
 refine RW.sq (RW.rg (RL.s MR.mv (RL.nil (RW.sq (RW.rg ?_))) (by omega)))
 refine genSF_ok ok l fs 1 _ w hok (by omega) fun ρ' w' css h1 h2 h3 h4 h5 => ?_
 obtain ⟨z1, z2⟩ := zip_slots h1
 obtain ⟨a1, a2⟩ := h2.len
 have hne : css ≠ [] := fun e => by
  subst e
  cases fs with
  | nil => exact h0 rfl
  | cons f r => simp [Fds.toList] at a1
 refine RL.s (MR.bslBy (v := .slice (some ⟨w'.heap.size, 0, none⟩) css.length css.length) (w' := w'.alloc (.cells css.flatten.toArray S.fd)) (by rw [z1, z2]; exact run_bslFd ok a2 hne (by omega)) (by
  intro x hx; simp only [List.mem_map] at hx; obtain ⟨s, hs, rfl⟩ := hx; exact ltT (by have := h5 s hs; omega))) ?_ (by omega)
 refine RL.s (MR.mv (v := .slice (some ⟨w'.heap.size, 0, none⟩) css.length css.length) (Ja _ _ _) (ltT (by omega))) (RL.nil (RW.rt ⟨some ⟨w'.heap.size, 0, none⟩, css.length, ?_, ?_, h3.trans ((Jn w' _).mono h3.size)⟩)) (by omega)
 ·rw [Ja, a1]
 ·exact rowsF_flat (h2.kp (restr_kp fun p v hp hv => ⟨hp, kp_alloc w' _ p v hv⟩)) (fun j v hj => (restr_cell _ _ _ _).2 ⟨h3.size, by have := JA w' css.flatten S.fd hj; simpa using this⟩)
theorem spec_of (ok : SOK P S) {l : List SF} {fs : Fds} {f : Nat} {flex : Int} (hf : FnIsC P f (cSpec S l flex) ((Yb S.fd l 1).2.2 + 2) 0 S.msg) (hok : SFok P l fs) (h0 : fs ≠ .nil) (hn : fs.toList.length ≤ 1000) : SpecC P f fs flex := by
 refine ⟨hf.ent, fun w => ?_⟩
 have hle := genSF_le (fd := S.fd) l 1
 obtain ⟨i, hi, hzv⟩ := ok.zMs
 refine hf.runs (args := []) (by simp) (by omega) ?_
 refine RW.sq (RW.rg (RL.s (MR.al ⟨i, hi, hzv⟩) (RL.nil ?_) (by omega)))
 have b0 := Jn w (.cells [Value.slice none 0 0, .int .i64 0].toArray S.msg)
 have s0 := J1 w (.cells [Value.slice none 0 0, .int .i64 0].toArray S.msg)
 have t0 := Qm w [Value.slice none 0 0, .int .i64 0] S.msg
 change RW P _ _ _ _ (w.alloc (.cells [Value.slice none 0 0, .int .i64 0].toArray S.msg))
 revert b0 s0 t0
 generalize w.alloc (.cells [Value.slice none 0 0, .int .i64 0].toArray S.msg) = w0
 intro b0 s0 t0
 refine RW.sq (RW.rg ?_)
 refine genSF_ok ok l fs 1 _ w0 hok (by omega) fun ρ' w' css h1 h2 h3 h4 h5 => ?_
 obtain ⟨z1, z2⟩ := zip_slots h1
 obtain ⟨a1, a2⟩ := h2.len
 have hne : css ≠ [] := fun e => by
  subst e
  cases fs with
  | nil => exact h0 rfl
  | cons f r => simp [Fds.toList] at a1
 have hp0 : ρ' 0 = .pointer (some ⟨w.heap.size, 0, none⟩) := by rw [h4 0 (by omega), Ja]
 refine RL.s (MR.bslBy (v := .slice (some ⟨w'.heap.size, 0, none⟩) css.length css.length) (w' := w'.alloc (.cells css.flatten.toArray S.fd)) (by rw [z1, z2]; exact run_bslFd ok a2 hne (by omega)) (by
  intro x hx; simp only [List.mem_map] at hx; obtain ⟨s, hs, rfl⟩ := hx; exact ltT (by have := h5 s hs; omega))) ?_ (by omega)
 have hb := built_of (P := P) (T := S.msg) (parts := [(1, Value.int .i64 flex), (0, .slice (some ⟨w'.heap.size, 0, none⟩) css.length css.length)]) (cells := [.slice (some ⟨w'.heap.size, 0, none⟩) css.length css.length, .int .i64 flex]) ok.zMs ok.lMs (by simp [Value.cells]) rfl (w'.alloc (.cells css.flatten.toArray S.fd))
 have bw := Jn w' (.cells css.flatten.toArray S.fd)
 have hw0 : w.heap.size < w'.heap.size := by have := h3.size; omega
 have tmsg : (w'.alloc (.cells css.flatten.toArray S.fd)).there w.heap.size 0 2 := JE (JE t0 (h3.block _ (by omega))) (bw.block _ hw0)
 refine RL.s (MR.bdl (v := .agg [Value.slice (some ⟨w'.heap.size, 0, none⟩) css.length css.length, .int .i64 flex].toArray) (w' := w'.alloc (.cells css.flatten.toArray S.fd)) (by
   simp only [List.map_cons, List.map_nil, xof, MVal.val, Ja]; exact hb) (by
   intro p hp; simp only [List.mem_cons, List.not_mem_nil, or_false] at hp
   rcases hp with rfl | rfl
   ·rfl
   ·exact ltT (by omega))) ?_ (by omega)
 refine RL.stA (cs := [Value.slice (some ⟨w'.heap.size, 0, none⟩) css.length css.length, .int .i64 flex]) (b := w.heap.size) (o := 0) (by rw [Jb _ _ (by omega), Jb _ _ (by omega), hp0]) (Ja _ _ _) ok.msN tmsg rfl (RL.nil (RW.rt ⟨⟨w.heap.size, 0, none⟩, .agg [Value.slice (some ⟨w'.heap.size, 0, none⟩) css.length css.length, .int .i64 flex].toArray, ?_, ?_, _, rfl, ?_, ?_⟩)) (by omega) (by omega)
 ·rw [Jb _ _ (by omega), Jb _ _ (by omega), hp0]
 ·exact J3 ok.msR (cs := [Value.slice (some ⟨w'.heap.size, 0, none⟩) css.length css.length, .int .i64 flex]) ok.msN (World.rangeAt_setCells_same _ _ _ _ tmsg)
 ·refine ⟨some ⟨w'.heap.size, 0, none⟩, css.length, by rw [a1], ?_⟩
  refine rowsF_flat (i := 0) (css := css) ?_ ?_
  ·refine Al.kp (fun p v hv => ?_) h2
   obtain ⟨hp, hv⟩ := (restr_cell _ _ _ _).1 hv
   rw [Ji (Jp _ _ _ _ _ (by omega))]
   exact kp_alloc w' _ p v hv
  ·intro j v hj
   rw [Ji (a := ⟨w'.heap.size, 0 * 8 + j, none⟩) (Jp _ _ _ _ _ (show w'.heap.size ≠ w.heap.size by omega))]
   have := JA w' css.flatten S.fd hj; simpa using this
 ·exact JD (Nat.le_refl _) _ _ (b0.trans ((h3.mono b0.size).trans (bw.mono (by omega))))
end
set_option linter.unusedVariables false
def defP (k : PK) (cs : List MVal) : Option D :=
 match k, cs with
 | .i8, [.int .i8 n] => if -128 ≤ n ∧ n ≤ 127 then some (.n n) else none
 | .i16, [.int .i16 n] => if -32768 ≤ n ∧ n ≤ 32767 then some (.n n) else none
 | .u16, [.int .u16 n] => if 0 ≤ n ∧ n ≤ 65535 then some (.n n) else none
 | .i32, [.int .i32 n] => if -2147483648 ≤ n ∧ n ≤ 2147483647 then some (.n n) else none
 | .i64, [.int .i64 n] => if -9223372036854775808 ≤ n ∧ n ≤ 9223372036854775807 then some (.n n) else none
 | .bool, [.bool b] => some (.n (if b then 1 else 0))
 | .str, [.estr] => some (.s (some []))
 | .nstr, [.nptr] => some (.s none)
 | .byt, [.nslice] => some (.s (some []))
 | .nbyt, [.nslice] => some (.s none)
 | .uuid, cs => if cs.length = 16 ∧ cs.all (fun m => match m with | .int .u8 n => JP n 0 | _ => false) then some (.s (some (List.replicate 16 0))) else none
 | .f64, [.flt] => some (.n 0)
 | _, _ => none
def Ya : PK → Int → Bool
 | .i8, n => decide (-128 ≤ n) && decide (n ≤ 127)
 | .i16, n => decide (-32768 ≤ n) && decide (n ≤ 32767)
 | .u16, n => decide (0 ≤ n) && decide (n ≤ 65535)
 | .i32, n => decide (-2147483648 ≤ n) && decide (n ≤ 2147483647)
 | .i64, n => decide (-9223372036854775808 ≤ n) && decide (n ≤ 9223372036854775807)
 | _, _ => false
theorem rangeB_num {k : PK} {n : Int} (h : Ya k n = true) : NumP k (.int k.ik n) n := by
 cases k <;> simp only [Ya, UA, decide_eq_true_eq, UB] at h <;> exact ⟨rfl, h⟩
def knDef : List KT → List MVal → Bool
 | [], _ => true
 | q :: r, cs => (match cs[q.off]? with | some (.int k n) => sameKind k q.k.ik && JP n q.df | _ => false) && Ya q.k q.df && knDef r cs
def defTag (tg : Option TgF) (cs : List MVal) : Bool :=
 match tg with
 | none => true
 | some q => (match cs[q.2]? with | some .nmap => true | _ => false) && knDef q.1.2 cs
theorem knDef_cell : ∀ {kn : List KT} {cs : List MVal}, knDef kn cs = true → ∀ q ∈ kn, (cs.map MVal.val)[q.off]? = some (.int q.k.ik q.df) ∧ NumP q.k (.int q.k.ik q.df) q.df
 | [], _, _, q, hq => by simp at hq
 | p :: r, cs, h, q, hq => by
  simp only [knDef, UA] at h
  rcases List.mem_cons.1 hq with rfl | hq
  ·refine ⟨?_, rangeB_num h.1.2⟩
   have h1 := h.1.1
   split at h1
   ·rename_i k n he
    simp only [UA] at h1
    rw [List.getElem?_map, he, sameKind_eq h1.1, Jw h1.2]; rfl
   ·cases h1
  ·exact knDef_cell h.2 q hq
theorem knAt_def {cs : List Value} : ∀ {kn : List KT}, (∀ q ∈ kn, cs[q.off]? = some (.int q.k.ik q.df) ∧ NumP q.k (.int q.k.ik q.df) q.df) → KnAt kn cs []
 | [], _ => rfl
 | q :: r, h => by
  obtain ⟨h1, h2⟩ := h q List.mem_cons_self
  refine ⟨_, q.df, [], h1, h2, ?_, knAt_def fun p hp => h p (List.mem_cons_of_mem _ hp)⟩
  unfold KT.enc; rw [if_pos rfl]; rfl
mutual
def defT : Ty → List MVal → Option D
 | .prim k _, cs => defP k cs
 | .enum k _ _, cs => defP k cs
 | .vstr _ _ _, cs => defP .nstr cs
 | .arr nul _ _ _, cs => match cs with | [.nslice] => some (.l nul.isSome []) | _ => none
 | .struct _ n _ tg fs, cs => if cs.length = n ∧ defTag tg cs then (defF fs cs).map (fun ds => .r ds []) else none
def defF : Flds → List MVal → Option (List D)
 | .nil, _ => some []
 | .cons _ _ off _ ty rest, cs => if off + ty.cells ≤ cs.length then (defT ty ((cs.drop off).take ty.cells)).bind fun d => (defF rest cs).map (d :: ·) else none
end
section
variable {w : World} {F : Nat → Prop}
theorem defP_rep {k : PK} {cs : List MVal} {d : D} (h : defP k cs = some d) : RepP w F k (cs.map MVal.val) d := by
 unfold defP at h
 split at h
 case h_11 =>
  split at h
  ·rename_i hc
   simp only [UC] at h
   subst h
   refine ⟨List.replicate 16 0, by simp, ?_, rfl⟩
   obtain ⟨h1, h2⟩ := hc
   have : ∀ (l : List MVal), l.all (fun m => match m with | .int .u8 n => JP n 0 | _ => false) = true → l.map MVal.val = (List.replicate l.length (0 : UInt8)).map JF := by
    intro l
    induction l with
    | nil => intro _; rfl
    | cons m l ih =>
     intro hl
     simp only [List.all_cons, UA] at hl
     simp only [List.map_cons, List.length_cons, List.replicate_succ]
     rw [ih hl.2]
     congr 1
     have hm := hl.1
     split at hm
     ·rw [Jw hm]; rfl
     ·simp at hm
   rw [this cs h2, h1]
  ·simp at h
 all_goals first
  | (split at h <;> first | (rename_i hc; simp only [UC] at h; subst h; exact ⟨_, rfl, rfl, hc.1, hc.2⟩) | (simp at h; done))
  | (simp only [UC] at h; subst h; first | exact ⟨_, rfl, rfl⟩ | exact .inl ⟨rfl, rfl⟩ | exact ⟨0, rfl, rfl, by decide⟩ | exact ⟨none, 0, [], rfl, fun j b hj => by simp at hj, rfl⟩)
  | simp at h
mutual
theorem defT_rep : ∀ {ty : Ty} {cs : List MVal} {d : D}, defT ty cs = some d → Rep w F ty (cs.map MVal.val) d
 | .prim k _, cs, d, h => by unfold Rep; exact defP_rep h
 | .enum k _ _, cs, d, h => by unfold Rep; exact defP_rep h
 | .vstr _ _ _, cs, d, h => by unfold Rep; exact defP_rep h
 | .arr nul _ _ el, cs, d, h => by
  unfold defT at h
  split at h
  ·simp only [UC] at h
   subst h
   unfold Rep
   exact ⟨_, [], rfl, .inl ⟨rfl, rfl, rfl⟩⟩
  ·simp at h
 | .struct _ n _ tg fs, cs, d, h => by
  unfold defT at h
  split at h
  ·rename_i hc
   simp only [Option.map_eq_some_iff] at h
   obtain ⟨ds, h1, rfl⟩ := h
   unfold Rep
   exact ⟨ds, [], rfl, by simpa using hc.1, defF_rep h1, defTag_at hc.2⟩
  ·simp at h
theorem defF_rep : ∀ {fs : Flds} {cs : List MVal} {ds : List D}, defF fs cs = some ds → RepF w F fs (cs.map MVal.val) ds
 | .nil, cs, ds, h => by unfold defF at h; simp only [UC] at h; unfold RepF; exact h.symm
 | .cons _ _ off _ ty rest, cs, ds, h => by
  unfold defF at h
  split at h
  ·rename_i hc
   simp only [Option.bind_eq_some_iff, Option.map_eq_some_iff] at h
   obtain ⟨d, h1, ds', h2, rfl⟩ := h
   unfold RepF
   refine ⟨by simpa using hc, d, ds', rfl, ?_, defF_rep h2⟩
   rw [← List.map_drop, ← List.map_take]
   exact defT_rep h1
  ·simp at h
theorem defTag_at : ∀ {tg : Option TgF} {cs : List MVal}, defTag tg cs = true → TagsAt w F tg (cs.map MVal.val) []
 | none, _, _ => rfl
 | some q, cs, h => by
  unfold defTag at h
  simp only [UA] at h
  obtain ⟨h1, h2⟩ := h
  split at h1
  ·rename_i hq
   exact ⟨.map none, [], [], by rw [List.getElem?_map, hq]; rfl, .inl ⟨rfl, rfl⟩, knAt_def (knDef_cell h2), rfl, by simp [unKn]⟩
  ·simp at h1
end
end
abbrev Dec (α : Type) := List UInt8 → Option (α × List UInt8)
def Dec.map {α β : Type} (f : α → β) (d : Dec α) : Dec β := fun l => match d l with | some (x, r) => some (f x, r) | none => none
def Dec.bind {α β : Type} (d : Dec α) (k : α → Dec β) : Dec β := fun l => match d l with | some (x, r) => k x r | none => none
def Dec.pure {α : Type} (x : α) : Dec α := fun l => some (x, l)
def Qp (l : List UInt8) : Nat := l.foldl (fun a b => a * 256 + b.toNat) 0
def takeN (k : Nat) : Dec (List UInt8) := fun l => if k ≤ l.length then some (l.take k, l.drop k) else none
def dNat (k : Nat) : Dec Nat := (takeN k).map Qp
def sgn (k n : Nat) : Int := if n < 256 ^ k / 2 then n else (n : Int) - (256 ^ k : Nat)
def dInt (k : Nat) : Dec Int := (dNat k).map (sgn k)
def dUvb : Nat → Dec Nat
 | _, [] => none
 | 0, b :: l => if b.toNat ≤ 15 then some (b.toNat, l) else none
 | k + 1, b :: l => if b.toNat < 128 then some (b.toNat, l) else match dUvb k l with | some (n, r) => some (b.toNat % 128 + 128 * n, r) | none => none
def dUv : Dec Nat := dUvb 4
def dSpan (s : Int) : Dec (List UInt8) := fun l => if s < 0 then none else takeN s.toNat l
def dLen (flex : Bool) (k : Nat) : Dec Int := if flex then Dec.map (fun n : Nat => (n : Int) - 1) dUv else dInt k
def aLen (n : Nat) : Int := IntKind.i32.wrap (IntKind.i32.wrap (n : Int) - 1)
def atMost (r : Int) : Dec Int := fun l => if (l.length : Int) < r then none else some (r, l)
def dALen (flex : Bool) : Dec Int := if flex then dUv.bind (fun n => atMost (aLen n)) else (dInt 4).bind atMost
def dP (k : PK) (flex : Bool) : Dec D :=
 match k with
 | .i8 => (dInt 1).map .n
 | .i16 => (dInt 2).map .n
 | .u16 => (dNat 2).map (fun n => .n (n : Nat))
 | .i32 => (dInt 4).map .n
 | .i64 => (dInt 8).map .n
 | .f64 => (dNat 8).map (fun n => .n (n : Nat))
 | .bool => (dNat 1).map (fun n => .n (if n = 0 then 0 else 1))
 | .uuid => (takeN 16).map (fun l => .s (some l))
 | .str => (dLen flex 2).bind fun n => (dSpan n).map (fun l => .s (some l))
 | .nstr => (dLen flex 2).bind fun n => if n < 0 then Dec.pure (.s none) else (dSpan n).map (fun l => .s (some l))
 | .byt => (dLen flex 4).bind fun n => if n = -1 then Dec.pure (.s (some [])) else (dSpan n).map (fun l => .s (some l))
 | .nbyt => (dLen flex 4).bind fun n => if n < 0 then Dec.pure (.s none) else (dSpan n).map (fun l => .s (some l))
def JY (t : Nat × List UInt8) : List (Nat × List UInt8) → List (Nat × List UInt8)
 | [] => [t]
 | x :: xs => if x.1 < t.1 then x :: JY t xs else if x.1 = t.1 then t :: xs else t :: x :: xs
def dTag : Dec (Nat × List UInt8) := dUv.bind fun k => dUv.bind fun s => (dSpan (s : Nat)).map fun v => (k, v)
def dTagN : Nat → List (Nat × List UInt8) → Dec (List (Nat × List UInt8))
 | 0, ts => Dec.pure ts
 | n + 1, ts => dTag.bind fun t => dTagN n (JY t ts)
def dTags : Dec (List (Nat × List UInt8)) := dUv.bind fun n => dTagN n []
def KT.dec (q : KT) (v : List UInt8) : Option Int := match dP q.k false v with | some (.n n, _) => some n | _ => none
def eraseTag (k : Nat) (ts : List (Nat × List UInt8)) : List (Nat × List UInt8) := ts.filter fun x => !decide (x.1 = k)
def putK (kn : List KT) (t : Nat × List UInt8) (ts : List (Nat × List UInt8)) : Option (List (Nat × List UInt8)) :=
 match kn.find? fun q => decide (q.tag = t.1) with
 | none => some (JY t ts)
 | some q => match q.dec t.2 with
  | some n => some (if n = q.df then eraseTag t.1 ts else JY (t.1, encP q.k false (.n n)) ts)
  | none => none
def dOpt {α : Type} : Option α → Dec α
 | some x => Dec.pure x
 | none => fun _ => none
def dTagNK (kn : List KT) : Nat → List (Nat × List UInt8) → Dec (List (Nat × List UInt8))
 | 0, ts => Dec.pure ts
 | n + 1, ts => dTag.bind fun t => (dOpt (putK kn t ts)).bind fun ts' => dTagNK kn n ts'
def dTagsK (kn : List KT) : Dec (List (Nat × List UInt8)) := dUv.bind fun n => dTagNK kn n []
def knOf : Option TgF → List KT
 | none => []
 | some q => q.1.2
theorem dTagNK_nil : ∀ (n : Nat) (ts : List (Nat × List UInt8)), dTagNK [] n ts = dTagN n ts
 | 0, ts => rfl
 | n + 1, ts => by
  unfold dTagNK dTagN
  congr 1
  funext t
  show (Dec.pure (JY t ts)).bind _ = _
  funext l
  show dTagNK [] n (JY t ts) l = _
  rw [dTagNK_nil n]
theorem dTagsK_nil : dTagsK [] = dTags := by
 unfold dTagsK dTags
 congr 1
 funext n
 exact dTagNK_nil n []
def dTagPN (j : Nat) (f : Dec D) : Nat → List D → List (Nat × List UInt8) → Dec (List D × List (Nat × List UInt8))
 | 0, ds, ts => Dec.pure (ds, ts)
 | n + 1, ds, ts => dTag.bind fun t => if t.1 = 0 then (dOpt (f t.2)).bind fun x => dTagPN j f n (ds.set j x.1) ts else dTagPN j f n ds (JY t ts)
def dTagP (j : Nat) (f : Dec D) (ds : List D) : Dec (List D × List (Nat × List UInt8)) := dUv.bind fun n => dTagPN j f n ds []
def tgD (kn : List KT) (o : Option (Nat × Dec D)) (ds : List D) : Dec (List D × List (Nat × List UInt8)) := match o with
 | none => (dTagsK kn).map fun ts => (ds, ts)
 | some x => dTagP x.1 x.2 ds
def rep {α : Type} (f : Dec α) : Nat → Dec (List α)
 | 0 => Dec.pure []
 | n + 1 => f.bind fun d => (rep f n).map fun ds => d :: ds
def nulOf (nul : Option Nat) (ver : Int) (r : Int) : Bool :=
 match nul with
 | none => false
 | some nv => !(decide (ver < (nv : Int)) || decide (r = 0))
mutual
def dfl : Ty → Int → D
 | .prim k _, df => match k with | .uuid => .s (some (List.replicate 16 0)) | .str | .byt => .s (some []) | .nstr | .nbyt => .s none | _ => .n df
 | .enum _ _ _, df => .n df
 | .vstr _ _ _, _ => .s none
 | .arr nul _ _ _, _ => .l nul.isSome []
 | .struct _ _ _ _ fs, _ => .r (dflF fs) []
def dflF : Flds → List D
 | .nil => []
 | .cons _ _ _ df ty rest => dfl ty df :: dflF rest
end
mutual
def dec (ver : Int) (flex : Bool) : Ty → Dec D
 | .prim k _ => dP k flex
 | .enum k _ _ => dP k flex
 | .vstr lim _ _ => dP (vK lim ver) flex
 | .arr nul _ _ el => (dALen flex).bind fun r => if r ≤ 0 then Dec.pure (.l (nulOf nul ver r) []) else (rep (dec ver flex el) r.toNat).map (fun xs => .l false xs)
 | .struct _ _ _ tg fs => (decF ver flex fs).bind fun ds => if tg.isSome && flex then (tgD (knOf tg) (tagD ver flex fs) ds).map (fun p => .r p.1 p.2) else Dec.pure (.r ds [])
def decF (ver : Int) (flex : Bool) : Flds → Dec (List D)
 | .nil => Dec.pure []
 | .cons c _ _ df ty rest => (if c.ok ver then dec ver flex ty else Dec.pure (dfl ty df)).bind fun d => (decF ver flex rest).map (fun ds => d :: ds)
def tagD (ver : Int) (flex : Bool) : Flds → Option (Nat × Dec D)
 | .nil => none
 | .cons c _ _ _ ty rest => if c.isTag then some (0, dec ver flex ty) else (tagD ver flex rest).map fun p => (p.1 + 1, p.2)
end
theorem tagD_no (ver : Int) (flex : Bool) : ∀ {fs : Flds}, JO fs = false → tagD ver flex fs = none
 | .nil, _ => by rw [tagD]
 | .cons c _ _ _ ty rest, h => by
  simp only [JO, Bool.or_eq_false_iff] at h
  rw [tagD, h.1, tagD_no ver flex h.2]; rfl
def decTop (p : Plan) (ver : Int) : Dec (List D × List (Nat × List UInt8)) :=
 (decF ver (p.flex ver) p.fs).bind fun ds => if p.tg.isSome && p.flex ver then tgD (knOf p.tg) (tagD ver (p.flex ver) p.fs) ds else Dec.pure (ds, [])
/-! ### More octets behind -/
def Ext {α : Type} (f : Dec α) : Prop := ∀ l x r m, f l = some (x, r) → f (l ++ m) = some (x, r ++ m)
section
variable {α β : Type}
theorem Dec.bind_some {d : Dec α} {k : α → Dec β} {l r : List UInt8} {y : β} : d.bind k l = some (y, r) ↔ ∃ x r', d l = some (x, r') ∧ k x r' = some (y, r) := by
 unfold Dec.bind
 cases h : d l with
 | none => simp
 | some p =>
  obtain ⟨x, r'⟩ := p
  simp only [UC, Prod.mk.injEq]
  constructor
  ·intro hk; exact ⟨x, r', ⟨rfl, rfl⟩, hk⟩
  ·rintro ⟨x1, r1, ⟨rfl, rfl⟩, hk⟩; exact hk
theorem Dec.map_some {d : Dec α} {f : α → β} {l r : List UInt8} {y : β} : d.map f l = some (y, r) ↔ ∃ x, d l = some (x, r) ∧ f x = y := by
 unfold Dec.map
 cases h : d l with
 | none => simp
 | some p =>
  obtain ⟨x, r'⟩ := p
  simp only [UC, Prod.mk.injEq]
  constructor
  ·rintro ⟨rfl, rfl⟩; exact ⟨x, ⟨rfl, rfl⟩, rfl⟩
  ·rintro ⟨x1, ⟨rfl, rfl⟩, rfl⟩; exact ⟨rfl, rfl⟩
theorem Dec.bind_of {d : Dec α} {k : α → Dec β} {l r : List UInt8} {x : α} (h : d l = some (x, r)) : d.bind k l = k x r := by simp [Dec.bind, h]
theorem Dec.map_of {d : Dec α} {f : α → β} {l r : List UInt8} {x : α} (h : d l = some (x, r)) : d.map f l = some (f x, r) := by simp [Dec.map, h]
theorem Ext.bind {d : Dec α} {k : α → Dec β} (hd : Ext d) (hk : ∀ x, Ext (k x)) : Ext (d.bind k) := by
 intro l y r m h
 obtain ⟨x, r', h1, h2⟩ := Dec.bind_some.1 h
 rw [Dec.bind_of (hd _ _ _ m h1)]
 exact hk x _ _ _ m h2
theorem Ext.map {d : Dec α} {f : α → β} (hd : Ext d) : Ext (d.map f) := by
 intro l y r m h
 obtain ⟨x, h1, rfl⟩ := Dec.map_some.1 h
 exact Dec.map_of (hd _ _ _ m h1)
theorem Ext.pure (x : α) : Ext (Dec.pure x) := by
 intro l y r m h
 simp only [Dec.pure, UC, Prod.mk.injEq] at h ⊢
 obtain ⟨rfl, rfl⟩ := h
 exact ⟨rfl, rfl⟩
theorem Ext.ite {c : Prop} [Decidable c] {d e : Dec α} (hd : Ext d) (he : Ext e) : Ext (if c then d else e) := by split <;> assumption
theorem Ext.takeN (k : Nat) : Ext (takeN k) := by
 intro l x r m h
 unfold Kx.takeN at h ⊢
 split at h
 ·rename_i hk
  simp only [UC, Prod.mk.injEq] at h
  obtain ⟨rfl, rfl⟩ := h
  rw [if_pos (by rw [UD]; omega), List.take_append_of_le_length hk, List.drop_append_of_le_length hk]
 ·simp at h
theorem Ext.dNat (k : Nat) : Ext (dNat k) := (Ext.takeN k).map
theorem Ext.dInt (k : Nat) : Ext (dInt k) := (Ext.dNat k).map
theorem Ext.dUvb : ∀ k, Ext (dUvb k)
 | 0 => by
  intro l x r m h
  cases l with
  | nil => simp [Kx.dUvb] at h
  | cons b l =>
   simp only [Kx.dUvb] at h
   split at h
   ·rename_i hb; simp only [UC, Prod.mk.injEq] at h; obtain ⟨rfl, rfl⟩ := h
    simp [Kx.dUvb, hb]
   ·simp at h
 | k + 1 => by
  intro l x r m h
  cases l with
  | nil => simp [Kx.dUvb] at h
  | cons b l =>
   simp only [Kx.dUvb] at h
   split at h
   ·rename_i hb; simp only [UC, Prod.mk.injEq] at h; obtain ⟨rfl, rfl⟩ := h
    simp [Kx.dUvb, hb]
   ·rename_i hb
    cases h1 : Kx.dUvb k l with
    | none => simp [h1] at h
    | some p =>
     obtain ⟨n, r'⟩ := p
     simp only [h1, UC, Prod.mk.injEq] at h
     obtain ⟨rfl, rfl⟩ := h
     have := Ext.dUvb k l n r' m h1
     simp [Kx.dUvb, hb, this]
theorem Ext.dUv : Ext dUv := Ext.dUvb 4
theorem Ext.dSpan (s : Int) : Ext (dSpan s) := by
 intro l x r m h
 unfold Kx.dSpan at h ⊢
 split at h
 ·simp at h
 ·rename_i hs; rw [if_neg hs]; exact Ext.takeN _ _ _ _ _ h
theorem Ext.dLen (flex : Bool) (k : Nat) : Ext (dLen flex k) := by
 unfold Kx.dLen; cases flex
 ·exact Ext.dInt k
 ·exact Ext.dUv.map
theorem Ext.atMost (r : Int) : Ext (atMost r) := by
 intro l x r' m h
 unfold Kx.atMost at h ⊢
 split at h
 ·simp at h
 ·rename_i hs
  simp only [UC, Prod.mk.injEq] at h
  obtain ⟨rfl, rfl⟩ := h
  rw [if_neg (by rw [UD]; omega)]
theorem Ext.dALen (flex : Bool) : Ext (dALen flex) := by
 unfold Kx.dALen; cases flex
 ·exact (Ext.dInt 4).bind fun r => Ext.atMost r
 ·exact Ext.dUv.bind fun n => Ext.atMost _
theorem Ext.dP (k : PK) (flex : Bool) : Ext (dP k flex) := by
 cases k <;> unfold Kx.dP
 ·exact (Ext.dInt _).map
 ·exact (Ext.dInt _).map
 ·exact (Ext.dInt _).map
 ·exact (Ext.dInt _).map
 ·exact (Ext.dNat _).map
 ·exact (Ext.dNat _).map
 ·exact (Ext.dNat _).map
 ·exact (Ext.takeN _).map
 ·exact (Ext.dLen _ _).bind fun n => (Ext.dSpan n).map
 ·exact (Ext.dLen _ _).bind fun n => Ext.ite (Ext.pure _) (Ext.dSpan n).map
 ·exact (Ext.dLen _ _).bind fun n => Ext.ite (Ext.pure _) (Ext.dSpan n).map
 ·exact (Ext.dLen _ _).bind fun n => Ext.ite (Ext.pure _) (Ext.dSpan n).map
theorem Ext.dTag : Ext dTag := Ext.dUv.bind fun _ => Ext.dUv.bind fun _ => (Ext.dSpan _).map
theorem Ext.dOpt (o : Option α) : Ext (dOpt o) := by
 cases o with
 | none => intro l x r m h; simp [Kx.dOpt] at h
 | some x => exact Ext.pure x
theorem Ext.dTagNK (kn : List KT) : ∀ n ts, Ext (dTagNK kn n ts)
 | 0, ts => Ext.pure ts
 | n + 1, ts => Ext.dTag.bind fun t => (Ext.dOpt _).bind fun ts' => Ext.dTagNK kn n _
theorem Ext.dTagsK (kn : List KT) : Ext (dTagsK kn) := Ext.dUv.bind fun n => Ext.dTagNK kn n []
theorem Ext.dTagPN (j : Nat) (f : Dec D) : ∀ n ds ts, Ext (dTagPN j f n ds ts)
 | 0, ds, ts => Ext.pure _
 | n + 1, ds, ts => Ext.dTag.bind fun t => Ext.ite ((Ext.dOpt _).bind fun x => Ext.dTagPN j f n _ _) (Ext.dTagPN j f n _ _)
theorem Ext.tgD (kn : List KT) (o : Option (Nat × Dec D)) (ds : List D) : Ext (tgD kn o ds) := by
 cases o with
 | none => exact (Ext.dTagsK kn).map
 | some x => exact Ext.dUv.bind fun n => Ext.dTagPN _ _ n ds []
theorem Ext.rep {f : Dec α} (hf : Ext f) : ∀ n, Ext (rep f n)
 | 0 => Ext.pure _
 | n + 1 => hf.bind fun _ => (Ext.rep hf n).map
end
mutual
theorem Ext.dec (ver : Int) (flex : Bool) : ∀ ty, Ext (dec ver flex ty)
 | .prim k _ => by unfold Kx.dec; exact Ext.dP k flex
 | .enum k _ _ => by unfold Kx.dec; exact Ext.dP k flex
 | .vstr lim _ _ => by unfold Kx.dec; exact Ext.dP _ flex
 | .arr nul _ _ el => by
  unfold Kx.dec
  exact (Ext.dALen flex).bind fun r => Ext.ite (Ext.pure _) (Ext.rep (Ext.dec ver flex el) _).map
 | .struct _ _ _ tg fs => by
  unfold Kx.dec
  exact (Ext.decF ver flex fs).bind fun ds => Ext.ite (Ext.tgD _ _ _).map (Ext.pure _)
theorem Ext.decF (ver : Int) (flex : Bool) : ∀ fs, Ext (decF ver flex fs)
 | .nil => by unfold Kx.decF; exact Ext.pure _
 | .cons c _ _ df ty rest => by
  unfold Kx.decF
  exact (Ext.ite (Ext.dec ver flex ty) (Ext.pure _)).bind fun d => (Ext.decF ver flex rest).map
end
theorem Ext.decTop (p : Plan) (ver : Int) : Ext (decTop p ver) := by
 unfold Kx.decTop
 exact (Ext.decF _ _ _).bind fun ds => Ext.ite (Ext.tgD _ _ _) (Ext.pure _)
section
variable {P : Program} {N : Nat} {Q Q' : UE} {ρ : Nat → Value} {w : World} {ms : List MOp}
theorem MVal.cells1 (m : MVal) : m.val.cells = #[m.val] := by cases m <;> rfl
theorem MVal.one1 (m : MVal) : m.val.oneCell' = true := by cases m <;> rfl
theorem RL.stc {ty p b o : Nat} {m : MVal} (hp : ρ p = .pointer (some ⟨b, o, none⟩)) (hn : Jh P ty 1 = true) (ht : w.there b o 1) (h : RL P N ms Q ρ (w.setCells b o [m.val])) (hpN : p < N := by decide) : RL P N (.stc ty p m :: ms) Q ρ w := by
 intro a ha
 refine ML.step (d := none) (v := undef) (w' := w.setCells b o [m.val]) (fun o' ho => ?_) (h a ha)
 have hf := JM ho
 generalize hop : o'.op = op at hf
 generalize hd : o'.dst = dd at hf
 unfold execOp
 cases op <;> cases dd <;> try (simp only [Jf, UB] at hf; done)
 rename_i ty' x y
 cases y <;> simp only [Jf, UA, UB, Nat.beq_eq] at hf
 rename_i v
 obtain ⟨⟨h2, h3⟩, h4⟩ := hf
 subst h2
 have hv := MVal.is_eq h4
 subst hv
 have he2 : a.eval (.const m.val) = m.val := rfl
 have hrun : (Instr.storeAt ty (.pointer (some ⟨b, o, none⟩)) m.val).run P w = .ok () (w.setCells b o [m.val]) := by
  have := run_storeAt_any (P := P) (w := w) (ty := ty) (b := b) (o := o) (v := m.val) (by rw [MVal.cells1]; exact hn) (by rw [MVal.cells1]; exact ht) (by rw [MVal.cells1]; simp [MVal.one1])
  rw [MVal.cells1] at this
  exact this
 exact ⟨rfl, .inr ⟨rfl, by simp only [hop, tmpL ha hpN h3, hp, he2, Sem.run_bind, hrun, Result.andThen_ok, Sem.run_pure]⟩⟩
theorem range_set {b o k : Nat} {cs : List Value} {v : Value} (h : w.rangeAt b o cs) (ht : w.there b (o + k) 1) : (w.setCells b (o + k) [v]).rangeAt b o (cs.set k v) := by
 intro j u hj
 by_cases e : j = k
 ·subst e
  have hs := World.rangeAt_setCells_same w b (o + j) [v] ht 0 v rfl
  have : u = v := by
   rw [List.getElem?_set_self'] at hj
   cases hc : cs[j]? with
   | none => simp [hc] at hj
   | some x => simpa [hc] using hj.symm
  subst this
  exact hs
 ·rw [List.getElem?_set_ne (fun x => e x.symm)] at hj
  rw [World.cell?_setCells_out b [v] (o + k) w ⟨b, o + j, none⟩ (fun _ _ => by simp only [List.length_cons, List.length_nil]; show o + j < o + k ∨ o + k + (0 + 1) ≤ o + j; omega)]
  exact h j u hj
theorem JG {b o n k m : Nat} (h : w.there b o n) (hk : k + m ≤ n) : w.there b (o + k) m := fun j hj => by
 have := h (k + j) (by omega)
 rwa [show o + (k + j) = o + k + j from by omega] at this
structure Fr (X : Nat → Prop) (b o n : Nat) (w w' : World) : Prop where
 os : w'.os = w.os
 tape : w'.tape = w.tape
 output : w'.output = w.output
 size : w.heap.size ≤ w'.heap.size
 block : ∀ k, k < w.heap.size → k ≠ b → ¬ X k → w'.heap[k]? = w.heap[k]?
 cell : ∀ j, (j < o ∨ o + n ≤ j) → w'.cell? ⟨b, j, none⟩ = w.cell? ⟨b, j, none⟩
 there : ∀ o' n', w.there b o' n' → w'.there b o' n'
theorem Fr.refl (X : Nat → Prop) (b o n : Nat) (w : World) : Fr X b o n w w := ⟨rfl, rfl, rfl, Nat.le_refl _, fun _ _ _ _ => rfl, fun _ _ => rfl, fun _ _ h => h⟩
theorem Fr.trans {X : Nat → Prop} {b o n : Nat} {w1 w2 w3 : World} (h : Fr X b o n w1 w2) (k : Fr X b o n w2 w3) : Fr X b o n w1 w3 :=
 ⟨k.os.trans h.os, k.tape.trans h.tape, k.output.trans h.output, Nat.le_trans h.size k.size, fun i hi h1 h2 => (k.block i (Nat.lt_of_lt_of_le hi h.size) h1 h2).trans (h.block i hi h1 h2),
  fun j hj => (k.cell j hj).trans (h.cell j hj), fun o' n' ht => k.there _ _ (h.there _ _ ht)⟩
theorem Fr.wide {X X' : Nat → Prop} {b o n o' n' : Nat} {w w' : World} (h : Fr X b o n w w') (hX : ∀ k, X k → X' k) (h1 : o' ≤ o) (h2 : o + n ≤ o' + n') : Fr X' b o' n' w w' :=
 ⟨h.os, h.tape, h.output, h.size, fun k h1 h2 h3 => h.block k h1 h2 (fun x => h3 (hX k x)), fun j hj => h.cell j (by omega), h.there⟩
theorem Fr.below {X : Nat → Prop} {b o n B : Nat} {w w' : World} (h : Fr X b o n w w') (hb : B ≤ b) (hX : ∀ k, X k → B ≤ k) (hB : B ≤ w.heap.size) : Below B w w' :=
 ⟨h.os, h.tape, h.output, h.size, fun k hk => h.block k (by omega) (by omega) (fun x => by have := hX k x; omega)⟩
theorem Fr.ofBelow {X : Nat → Prop} {b o n : Nat} {w w' : World} (h : Below w.heap.size w w') (hb : b < w.heap.size) : Fr X b o n w w' :=
 ⟨h.os, h.tape, h.output, h.size, fun k hk _ _ => h.block k hk, fun j _ => Ji (h.block b hb), fun o' n' ht => JE ht (h.block b hb)⟩
theorem Fr.put {X : Nat → Prop} {b o n k : Nat} {w : World} (vs : List Value) (h1 : o ≤ k) (h2 : k + vs.length ≤ o + n) : Fr X b o n w (w.setCells b k vs) :=
 have hb := JD (B := 0) (b := b) (Nat.zero_le _) vs k (Below.refl 0 w)
 ⟨hb.os, hb.tape, hb.output, hb.size, fun i _ hi _ => Jp b vs k w i hi, fun j hj => World.cell?_setCells_out b vs k w ⟨b, j, none⟩ (fun _ _ => by show j < k ∨ k + vs.length ≤ j; omega), fun o' n' ht => World.there_setCells ht _ _ _⟩
/-! ### Default -/
mutual
inductive Df where
 | st (T idx off ty : Nat) (v : MVal)
 | sub (T idx off : Nat) (l : Dfs)
inductive Dfs where
 | nil
 | cons (d : Df) (r : Dfs)
end
mutual
def put1 : Df → Nat → List Value → List Value
 | .st _ _ off _ v, o, cs => cs.set (o + off) v.val
 | .sub _ _ off l, o, cs => putD l (o + off) cs
def putD : Dfs → Nat → List Value → List Value
 | .nil, _, cs => cs
 | .cons d r, o, cs => putD r o (put1 d o cs)
end
mutual
theorem put1_len : ∀ (d : Df) (o : Nat) (cs : List Value), (put1 d o cs).length = cs.length
 | .st _ _ _ _ _, _, _ => by unfold put1; simp
 | .sub _ _ _ l, o, cs => by unfold put1; exact putD_len l _ _
theorem putD_len : ∀ (l : Dfs) (o : Nat) (cs : List Value), (putD l o cs).length = cs.length
 | .nil, _, _ => by unfold putD; rfl
 | .cons d r, o, cs => by unfold putD; rw [putD_len r, put1_len d]
end
mutual
def gen1 (vs : Nat) : Df → (t x : Nat) → Jc × Nat × Nat
 | .st T idx _ ty v, t, x => (.rg [.mv t (.t vs), .nc (t + 1) t, .fa (t + 2) T (t + 1) idx, .stc ty (t + 2) v], t + 3, x)
 | .sub T idx _ l, t, x =>
  let i := genD x l (t + 4) (x + 1)
  (rows (.rg [.mv t (.t vs), .nc (t + 1) t, .fa (t + 2) T (t + 1) idx, .mv x (.t (t + 2))] :: .rg [.mv (t + 3) (.t x)] :: i.1), i.2)
def genD (vs : Nat) : Dfs → (t x : Nat) → List Jc × Nat × Nat
 | .nil, t, x => ([], t, x)
 | .cons d r, t, x =>
  let h := gen1 vs d t x
  let g := genD vs r h.2.1 h.2.2
  (h.1 :: g.1, g.2)
end
mutual
def ok1 (P : Program) (n : Nat) : Df → Nat → Bool
 | .st T idx off ty _, o => Jd P T idx off && Jh P ty 1 && Nat.blt (o + off) n
 | .sub T idx off l, o => Jd P T idx off && okD P n l (o + off)
def okD (P : Program) (n : Nat) : Dfs → Nat → Bool
 | .nil, _ => true
 | .cons d r, o => ok1 P n d o && okD P n r o
end
mutual
theorem gen1_le {vs : Nat} : ∀ (d : Df) (t x : Nat), t ≤ (gen1 vs d t x).2.1 ∧ x ≤ (gen1 vs d t x).2.2
 | .st _ _ _ _ _, t, x => by unfold gen1; exact ⟨by simp, Nat.le_refl _⟩
 | .sub _ _ _ l, t, x => by
  unfold gen1
  have := genD_le (vs := x) l (t + 4) (x + 1)
  exact ⟨by simp only; omega, by simp only; omega⟩
theorem genD_le {vs : Nat} : ∀ (l : Dfs) (t x : Nat), t ≤ (genD vs l t x).2.1 ∧ x ≤ (genD vs l t x).2.2
 | .nil, t, x => by unfold genD; exact ⟨Nat.le_refl _, Nat.le_refl _⟩
 | .cons d r, t, x => by
  unfold genD
  have h1 := gen1_le (vs := vs) d t x
  have h2 := genD_le (vs := vs) r (gen1 vs d t x).2.1 (gen1 vs d t x).2.2
  exact ⟨by simp only; omega, by simp only; omega⟩
end
mutual
theorem gen1_ok {n b ob : Nat} : ∀ (d : Df) (vs o t x t0 : Nat) (ρ : Nat → Value) (w : World) (cs : List Value) (Q : UE), ok1 P n d o = true → vs < x → (gen1 vs d t x).2.2 ≤ t0 → t0 ≤ t → (gen1 vs d t x).2.1 ≤ N →
  ρ vs = .pointer (some ⟨b, ob + o, none⟩) → w.rangeAt b ob cs → w.there b ob n → cs.length = n →
  (∀ ρ' w', (∀ s, s < x → ρ' s = ρ s) → w'.rangeAt b ob (put1 d o cs) → Fr (fun _ => False) b ob n w w' → Q .normal ρ' w') → RW P N (gen1 vs d t x).1 Q ρ w
 | .st T idx off ty v, vs, o, t, x, t0, ρ, w, cs, Q, hok, hvx, hx, ht, hN, hv, hr, hth, hl, hQ => by
  unfold gen1 at hx hN ⊢
  simp only [ok1, UA, Nat.blt_eq] at hok
  obtain ⟨⟨h1, h2⟩, h3⟩ := hok
  simp only at hx hN
  refine RW.rg (RL.s (MR.mv hv (ltT (by omega))) (RL.s (MR.nc (Ja _ _ _) (by omega)) (RL.s (MR.fa (Ja _ _ _) h1 (by omega)) (RL.stc (b := b) (o := ob + (o + off)) ?_ h2 (JG hth (by omega)) (RL.nil ?_) (by omega)) (by omega)) (by omega)) (by omega))
  ·rw [Ja, Nat.add_assoc]
  refine hQ _ _ (fun s hs => by rw [Jb _ _ (by omega), Jb _ _ (by omega), Jb _ _ (by omega)]) ?_ (Fr.put _ (by omega) (by simp; omega))
  unfold put1
  exact range_set hr (JG hth (by omega))
 | .sub T idx off l, vs, o, t, x, t0, ρ, w, cs, Q, hok, hvx, hx, ht, hN, hv, hr, hth, hl, hQ => by
  unfold gen1 at hx hN ⊢
  simp only [ok1, UA] at hok
  obtain ⟨h1, h2⟩ := hok
  simp only at hx hN
  have hle := genD_le (vs := x) l (t + 4) (x + 1)
  refine RWL.rows ?_
  unfold RWL
  refine RW.rg (RL.s (MR.mv hv (ltT (by omega))) (RL.s (MR.nc (Ja _ _ _) (by omega)) (RL.s (MR.fa (Ja _ _ _) h1 (by omega)) (RL.s (MR.mv (Ja _ _ _) (ltT (by omega))) (RL.nil ?_) (by omega)) (by omega)) (by omega)) (by omega))
  show RWL P N (_ :: _) Q _ _
  unfold RWL
  refine RW.rg (RL.s (MR.mv rfl (ltT (by omega))) (RL.nil ?_) (by omega))
  show RWL P N _ Q _ _
  refine genD_ok l x (o + off) (t + 4) (x + 1) t0 _ w cs Q h2 (by omega) hx (by omega) hN ?_ hr hth hl ?_
  ·rw [Jb _ _ (by omega), Ja, Nat.add_assoc]
  ·intro ρ' w' k1 k2 k3
   refine hQ ρ' w' (fun s hs => ?_) (by unfold put1; exact k2) k3
   rw [k1 s (by omega), Jb _ _ (by omega), Jb _ _ (by omega), Jb _ _ (by omega), Jb _ _ (by omega), Jb _ _ (by omega)]
theorem genD_ok {n b ob : Nat} : ∀ (l : Dfs) (vs o t x t0 : Nat) (ρ : Nat → Value) (w : World) (cs : List Value) (Q : UE), okD P n l o = true → vs < x → (genD vs l t x).2.2 ≤ t0 → t0 ≤ t → (genD vs l t x).2.1 ≤ N →
  ρ vs = .pointer (some ⟨b, ob + o, none⟩) → w.rangeAt b ob cs → w.there b ob n → cs.length = n →
  (∀ ρ' w', (∀ s, s < x → ρ' s = ρ s) → w'.rangeAt b ob (putD l o cs) → Fr (fun _ => False) b ob n w w' → Q .normal ρ' w') → RWL P N (genD vs l t x).1 Q ρ w
 | .nil, vs, o, t, x, t0, ρ, w, cs, Q, hok, hvx, hx, ht, hN, hv, hr, hth, hl, hQ => by
  unfold genD RWL
  exact hQ ρ w (fun _ _ => rfl) (by unfold putD; exact hr) (Fr.refl _ _ _ _ _)
 | .cons d r, vs, o, t, x, t0, ρ, w, cs, Q, hok, hvx, hx, ht, hN, hv, hr, hth, hl, hQ => by
  unfold genD at hx hN ⊢
  simp only [okD, UA] at hok
  simp only at hx hN
  have hle1 := gen1_le (vs := vs) d t x
  have hle2 := genD_le (vs := vs) r (gen1 vs d t x).2.1 (gen1 vs d t x).2.2
  simp only [RWL]
  refine gen1_ok d vs o t x t0 ρ w cs _ hok.1 hvx (by omega) ht (by omega) hv hr hth hl fun ρ1 w1 k1 k2 k3 => ?_
  show RWL P N _ Q ρ1 w1
  refine genD_ok r vs o _ _ t0 ρ1 w1 (put1 d o cs) Q hok.2 (by omega) hx (by omega) hN (by rw [k1 vs hvx]; exact hv) k2 (k3.there _ _ hth) (by rw [put1_len]; exact hl) fun ρ2 w2 g1 g2 g3 => ?_
  exact hQ ρ2 w2 (fun s hs => by rw [g1 s (by omega), k1 s hs]) (by unfold putD; exact g2) (k3.trans g3)
end
def DefD (P : Program) (f n : Nat) (l : Dfs) : Prop := Jo P f = true ∧ ∀ (w : World) (b o : Nat) (cs : List Value), w.rangeAt b o cs → w.there b o n → cs.length = n →
 Calls P f #[.pointer (some ⟨b, o, none⟩)] w (fun e w' => e = .returned (.tuple #[]) ∧ w'.rangeAt b o (putD l 0 cs) ∧ Fr (fun _ => False) b o n w w')
def QK : Dfs → Nat
 | .nil => 2
 | .cons d r => (genD 0 (.cons d r) 0 2).2.2
theorem defD_of {f n : Nat} {l : Dfs} (hf : Qz P f (rows (genD 0 l (QK l) 2).1) (genD 0 l (QK l) 2).2.1) (hok : okD P n l 0 = true) (hx : (genD 0 l (QK l) 2).2.2 ≤ QK l) : DefD P f n l := by
 refine ⟨hf.ent, fun w b o cs hr ht hl => ?_⟩
 have hle := genD_le (vs := 0) l (QK l) 2
 have h2 : 2 ≤ QK l := by omega
 refine hf.runs (args := [.pointer (some ⟨b, o, none⟩)]) (by simp; omega) ?_
 refine RWL.rows (genD_ok (b := b) (ob := o) (n := n) l 0 0 _ 2 (QK l) _ w cs _ hok (by omega) hx (Nat.le_refl _) (Nat.le_refl _) rfl hr ht hl fun ρ' w' _ k2 k3 => ?_)
 exact ⟨rfl, k2, k3⟩
end
mutual
inductive Sx where
 | mk (ps : List (Nat × Int)) (f : Nat) (sub : SxL)
inductive SxL where
 | nil
 | cons (x : Sx) (r : SxL)
end
def toSF : SxL → List SF
 | .nil => []
 | .cons (.mk ps f _) r => ⟨ps, if Nat.beq f 0 then none else some f⟩ :: toSF r
mutual
def toFd : Sx → Fd
 | .mk ps _ sub => .mk ((QI ps).getD 0 0) ((QI ps).getD 1 0) ((QI ps).getD 2 0) ((QI ps).getD 3 0) ((QI ps).getD 4 0) ((QI ps).getD 5 0) ((QI ps).getD 6 0) (QO sub)
def QO : SxL → Fds
 | .nil => .nil
 | .cons x r => .cons (toFd x) (QO r)
end
def SxL.isNil : SxL → Bool
 | .nil => true
 | _ => false
theorem intsOf_len (ps : List (Nat × Int)) : (QI ps).length = 7 := by
 unfold QI
 have : ∀ (ps : List (Nat × Int)) (l : List Int), (ps.foldl (fun l p => l.set p.1 p.2) l).length = l.length := by
  intro ps
  induction ps with
  | nil => intro l; rfl
  | cons p ps ih => intro l; rw [List.foldl_cons, ih]; simp
 rw [this]; rfl
theorem seven (l : List Int) (h : l.length = 7) : l = [l.getD 0 0, l.getD 1 0, l.getD 2 0, l.getD 3 0, l.getD 4 0, l.getD 5 0, l.getD 6 0] := by
 match l, h with
 | [a, b, c, d, e, f, g], _ => rfl
def okS (P : Program) (S : SN) : SxL → Bool
 | .nil => true
 | .cons (.mk ps f sub) r => ps.all (fun p => Nat.blt p.1 7) && (if Nat.beq f 0 then sub.isNil else
   isFn P f (cFds S (toSF sub)) ((Yb S.fd (toSF sub) 1).2.2 + 1) 0 && okS P S sub && !sub.isNil && Nat.ble (QO sub).toList.length 1000) && okS P S r
section
variable {P : Program} {S : SN} {K : KB} {g : TN}
theorem okS_of (ok : SOK P S) : ∀ (l : SxL), okS P S l = true → SFok P (toSF l) (QO l)
 | .nil, _ => by unfold toSF QO SFok; rfl
 | .cons (.mk ps f sub) r, h => by
  simp only [okS, UA, List.all_eq_true, Nat.blt_eq] at h
  obtain ⟨⟨h1, h2⟩, h3⟩ := h
  unfold toSF QO SFok
  refine ⟨_, _, rfl, ?_, h1, ?_, okS_of ok r h3⟩
  ·unfold toFd
   exact seven _ (intsOf_len ps)
  ·have e : (toFd (.mk ps f sub)).sub = QO sub := by unfold toFd; rfl
   rw [e]
   cases hf : Nat.beq f 0 with
   | true =>
    rw [hf] at h2
    simp only [if_true] at h2 ⊢
    cases sub with
    | nil => unfold QO; rfl
    | cons x r => simp [SxL.isNil] at h2
   | false =>
    rw [hf] at h2
    simp only [UB, if_false, UA, Bool.not_eq_true', Nat.ble_eq] at h2 ⊢
    obtain ⟨⟨⟨g1, g2⟩, g3⟩, g4⟩ := h2
    refine fds_of ok (FnIs.of g1) (okS_of ok sub g2) ?_ g4
    intro e
    cases sub with
    | nil => simp [SxL.isNil] at g3
    | cons x r => unfold QO at e; cases e
/-! ### A new message's cells -/
mutual
def putM1 : Df → Nat → List MVal → List MVal
 | .st _ _ off _ v, o, cs => cs.set (o + off) v
 | .sub _ _ off l, o, cs => putM l (o + off) cs
def putM : Dfs → Nat → List MVal → List MVal
 | .nil, _, cs => cs
 | .cons d r, o, cs => putM r o (putM1 d o cs)
end
mutual
theorem putM1_val : ∀ (d : Df) (o : Nat) (cs : List MVal), (putM1 d o cs).map MVal.val = put1 d o (cs.map MVal.val)
 | .st _ _ off _ v, o, cs => by unfold putM1 put1; rw [List.map_set]
 | .sub _ _ off l, o, cs => by unfold putM1 put1; exact putM_val l _ _
theorem putM_val : ∀ (l : Dfs) (o : Nat) (cs : List MVal), (putM l o cs).map MVal.val = putD l o (cs.map MVal.val)
 | .nil, o, cs => by unfold putM putD; rfl
 | .cons d r, o, cs => by unfold putM putD; rw [putM_val r, putM1_val d]
end
def tag1 : Option TgF → Bool
 | none => true
 | some q => Nat.ble 1 q.2 && q.1.2.all fun k => Nat.ble 1 k.off
theorem knDef_first {a b : MVal} {rest : List MVal} : ∀ {kn : List KT}, (kn.all fun k => Nat.ble 1 k.off) = true → knDef kn (a :: rest) = knDef kn (b :: rest)
 | [], _ => rfl
 | q :: r, h => by
  simp only [List.all_cons, UA, Nat.ble_eq] at h
  obtain ⟨k, hk⟩ : ∃ k, q.off = k + 1 := ⟨q.off - 1, by omega⟩
  unfold knDef
  rw [knDef_first h.2, hk, List.getElem?_cons_succ, List.getElem?_cons_succ]
theorem defTag_first {tg : Option TgF} {a b : MVal} {rest : List MVal} (h : tag1 tg = true) : defTag tg (a :: rest) = defTag tg (b :: rest) := by
 cases tg with
 | none => rfl
 | some q =>
  unfold defTag
  simp only [tag1, UA, Nat.ble_eq] at h
  dsimp only
  obtain ⟨k, hk⟩ : ∃ k, q.2 = k + 1 := ⟨q.2 - 1, by omega⟩
  rw [hk, List.getElem?_cons_succ, List.getElem?_cons_succ, knDef_first h.2]
def eqB : List UInt8 → List UInt8 → Bool
 | [], [] => true
 | a :: as, b :: bs => Nat.beq a.toNat b.toNat && eqB as bs
 | _, _ => false
theorem eqB_eq : ∀ {a b : List UInt8}, eqB a b = true → a = b
 | [], [], _ => rfl
 | [], _ :: _, h => by simp [eqB] at h
 | _ :: _, [], h => by simp [eqB] at h
 | a :: as, b :: bs, h => by
  simp only [eqB, UA, Nat.beq_eq] at h
  rw [eqB_eq h.2, UInt8.toNat_inj.1 h.1]
/-! ### What the seat's program has in common -/
def seatB (P : Program) (K : KB) (g : TN) (S : SN) : List Bool := [(kbOk P K).all id, (sokB P S).all id, mapTy P g.tMap, Jm P g.tMap, Jm P K.T.u8s, Jd P g.tSt 0 0, isFn P g.fLen (cTLen g) 8 2, isFn0 P g.fEach (cEach g K.T.int) 53, isFn P g.fTeach (cTeach g K.T) 9 4 && orNo g.tKs (ktTB P K.T g.tKs),
 isFn P S.fFixed (cFixed S) 22 4, isFn P S.fUvar (cUvar S) 20 2, isFn P S.fWidth (cWidth S) 11 2, isFn P S.fCounted (cCounted S) 28 8, isFn P S.fWhole (cWhole S) 8 2, isFn P S.fThings (cThings S) 8 2, isFn P S.fHas (cHas S) 20 4, isFn P S.fNull (cNull S) 20 6,
 isFnC P S.fAt (cAt S) 16 4 S.tr, isFn P S.fKnown (cKnown S) 23 2, isFn P S.fUnk (cUnk S) 85 4, isFn P S.fValue (cValue S) 70 12, isFn P S.fField (cField S) 76 8, isFn P S.fPart (cPart S) 132 8, isFn P S.fWrite (cWrite S) 21 6, orNo S.fDflt (isFnC P S.fDflt (cDflt S) 35 2 S.tr),
 isFn P S.fSame (cSame S) 26 4, orNo S.fVer (isFn P S.fVer (cVer S) 10 4), fieldIs P S.tr 3 S.trs 3, Jh P S.trs 1, yes K.T.i16, Jh P K.T.i16 1, Nat.beq K.T.u8 S.T.u8]
structure Seat (P : Program) (K : KB) (g : TN) (S : SN) : Prop where
 kk : KOK P K
 ok : SOK P S
 tg : TgOK P g K.T
 sp : SPC P S (· = [])
 wr : FnIs P S.fWrite (cWrite S) 21 6
 df : S.fDflt ≠ 0 → FnIsC P S.fDflt (cDflt S) 35 2 S.tr
 same : SameC P S.fSame
 ver : S.fVer ≠ 0 → VerC P S.fVer
 fi : fieldIs P S.tr 3 S.trs 3 = true
 c1 : Jh P S.trs 1 = true
 h16 : K.T.i16 ≠ 0
 c16 : Jh P K.T.i16 1 = true
 u8 : K.T.u8 = S.T.u8
theorem seat_of (h : (seatB P K g S).all id = true) (hfl : F64W P K) : Seat P K g S := by
 simp only [seatB, List.all_cons, List.all_nil, id_eq, Bool.and_true, UA] at h
 obtain ⟨h1, h2, h3, h4, h5, h6, h7, h8, h9, h10, h11, h12, h13, h14, h15, h16, h17, h18, h19, h20, h21, h22, h23, h24, h25, h26, h27, h28, h29, h30, h31, h32⟩ := h
 have kk := kok_of h1 hfl
 have ok := sok_of h2
 have hfix := fixed_ok ok.tk ok.hi64 (FnIs.of h10)
 have huv := uvar_ok ok.tk ok.hu64 (FnIs.of h11)
 have hkn := known_ok ok (FnIs.of h19)
 exact {
  kk := kk
  ok := ok
  tg := ⟨kk.tk, h3, h4, h5, h6, FnIs.of h7, Qz.of h8, FnIs.of h9.1, h9.2⟩
  sp := ⟨ok, rfl, hfix, huv, width_ok (FnIs.of h12), counted_ok ok (FnIs.of h13) hfix huv, whole_ok ok (FnIs.of h14), things_ok ok (FnIs.of h15), has_ok ok (FnIs.of h16), null_ok ok (FnIs.of h17), at_ok ok (FnIsC.of h18), hkn, unk_none ok (FnIs.of h20) hkn, FnIs.of h21, FnIs.of h22, FnIs.of h23⟩
  wr := FnIs.of h24
  df := fun e => FnIsC.of (Jy h25 e)
  same := same_ok ok.z (FnIs.of h26)
  ver := fun e => ver_ok ok.z (FnIs.of (Jy h27 e))
  fi := h28
  c1 := h29
  h16 := Js h30
  c16 := h31
  u8 := by simpa using h32 }
structure NL where
 f : Nat
 fMax : Nat
 fSpec : Nat
 fNew : Nat
 fPtr : Nat
 fDef : Nat
 fMv : Nat
 fSet : Nat
 fAp : Nat
 most : Nat
 L : Nat
 N : Nat
 pl : Plan
 zs : List MVal
 df : Dfs
 sx : SxL
 flex : Int
def firstZero : List MVal → Bool
 | .int .i16 n :: _ => JP n 0
 | _ => false
theorem defC_of {f n : Nat} {l : Dfs} {zs : List Value} (h : DefD P f n l) (hl : zs.length = n) : DefC P f zs (putD l 0 zs) := by
 refine ⟨h.1, fun w b hb hr ht => ?_⟩
 refine Calls.mono (h.2 w b 0 zs hr (by rw [← hl]; exact ht) hl) ?_
 rintro e w' ⟨rfl, h1, h2⟩
 exact ⟨rfl, h1, h2.there _ _ ht, h2.below (Nat.le_refl _) (fun _ x => x.elim) (by omega)⟩
end
set_option linter.unusedVariables false
theorem beVal_snoc (l : List UInt8) (b : UInt8) : Qp (l ++ [b]) = Qp l * 256 + b.toNat := by simp [Qp, List.foldl_append]
theorem be_len : ∀ (k n : Nat), (be n k).length = k
 | 0, _ => rfl
 | k + 1, n => by simp [be, be_len k]
theorem beVal_be : ∀ (k n : Nat), Qp (be n k) = n % 256 ^ k
 | 0, n => by simp [be, Qp, Nat.mod_one]
 | k + 1, n => by
  rw [be, beVal_snoc, beVal_be k]
  have : (UInt8.ofNat (n % 256)).toNat = n % 256 := by simp
  rw [this, Nat.pow_succ, Nat.mul_comm (256 ^ k) 256, Nat.mod_mul]
  omega
theorem takeN_app {k : Nat} {l : List UInt8} (r : List UInt8) (h : l.length = k) : takeN k (l ++ r) = some (l, r) := by
 unfold takeN
 rw [if_pos (by rw [UD]; omega), ← h, List.take_left, List.drop_left]
theorem dNat_be {k n : Nat} (r : List UInt8) : dNat k (be n k ++ r) = some (n % 256 ^ k, r) := by
 unfold dNat
 rw [Dec.map_of (takeN_app r (be_len k n)), beVal_be]
theorem dNat_fix {k : Nat} {i : Int} (r : List UInt8) : dNat k (fix i k ++ r) = some ((i % (256 ^ k : Int)).toNat % 256 ^ k, r) := dNat_be r
theorem dInt_fix {k : Nat} {i : Int} (r : List UInt8) : dInt k (fix i k ++ r) = some (sgn k ((i % (256 ^ k : Int)).toNat % 256 ^ k), r) := by
 unfold dInt
 rw [Dec.map_of (dNat_fix r)]
theorem QL (i : Int) (k : Nat) : (fix i k).length = k := be_len _ _
theorem sgn1 {i : Int} (h0 : -128 ≤ i) (h1 : i ≤ 127) : sgn 1 ((i % (256 ^ 1 : Int)).toNat % 256 ^ 1) = i := by
 unfold sgn; simp only [Nat.pow_one, Int.pow_one]; split <;> omega
theorem sgn2 {i : Int} (h0 : -32768 ≤ i) (h1 : i ≤ 32767) : sgn 2 ((i % (256 ^ 2 : Int)).toNat % 256 ^ 2) = i := by
 unfold sgn; simp only [show (256 : Nat) ^ 2 = 65536 from rfl, show (256 : Int) ^ 2 = 65536 from rfl]; split <;> omega
theorem sgn4 {i : Int} (h0 : -2147483648 ≤ i) (h1 : i ≤ 2147483647) : sgn 4 ((i % (256 ^ 4 : Int)).toNat % 256 ^ 4) = i := by
 unfold sgn; simp only [show (256 : Nat) ^ 4 = 4294967296 from rfl, show (256 : Int) ^ 4 = 4294967296 from rfl]; split <;> omega
theorem sgn8 {i : Int} (h0 : -9223372036854775808 ≤ i) (h1 : i ≤ 9223372036854775807) : sgn 8 ((i % (256 ^ 8 : Int)).toNat % 256 ^ 8) = i := by
 unfold sgn; simp only [show (256 : Nat) ^ 8 = 18446744073709551616 from rfl, show (256 : Int) ^ 8 = 18446744073709551616 from rfl]; split <;> omega
theorem uvb_rt : ∀ (k j n : Nat) (r : List UInt8), n < 16 * 128 ^ k → k ≤ j → dUvb k (uvb j n ++ r) = some (n, r)
 | 0, j, n, r, h, hj => by
  have h16 : n < 16 := by simpa using h
  have e : uvb j n = [UInt8.ofNat n] := by cases j <;> simp [uvb]; omega
  rw [e]
  show dUvb 0 (UInt8.ofNat n :: r) = _
  have e2 : (UInt8.ofNat n).toNat = n := by simp; omega
  simp only [dUvb, e2]
  rw [if_pos (by omega)]
 | k + 1, j, n, r, h, hj => by
  obtain ⟨j, rfl⟩ : ∃ j', j = j' + 1 := ⟨j - 1, by omega⟩
  by_cases hn : n < 128
  ·have e : uvb (j + 1) n = [UInt8.ofNat n] := by simp [uvb, hn]
   have e2 : (UInt8.ofNat n).toNat = n := by simp; omega
   rw [e]
   show dUvb (k + 1) (UInt8.ofNat n :: r) = _
   simp only [dUvb, e2]
   rw [if_pos hn]
  ·have e : uvb (j + 1) n = UInt8.ofNat (n % 128 + 128) :: uvb j (n / 128) := by simp [uvb, hn]
   have e2 : (UInt8.ofNat (n % 128 + 128)).toNat = n % 128 + 128 := by simp; omega
   rw [e]
   show dUvb (k + 1) (UInt8.ofNat (n % 128 + 128) :: (uvb j (n / 128) ++ r)) = _
   simp only [dUvb, e2]
   rw [if_neg (by omega), uvb_rt k j (n / 128) r (by rw [Nat.pow_succ] at h; omega) (by omega)]
   simp only [UC, Prod.mk.injEq, and_true]
   omega
theorem uv_rt {n : Nat} (r : List UInt8) (h : n < 4294967296) : dUv (uv n ++ r) = some (n, r) := uvb_rt 4 9 n r (by simpa using h) (by omega)
theorem uv_pos (n : Nat) : 1 ≤ (uv n).length := by
 unfold uv; simp only [uvb]; split <;> simp
theorem dLen_cnt {flex : Bool} {k n : Nat} (r : List UInt8) (hk : k = 2 ∨ k = 4) (h : n ≤ 32767) : dLen flex k (cnt flex k n ++ r) = some ((n : Int), r) := by
 cases flex
 ·simp only [dLen, cnt, UB, if_false]
  rw [dInt_fix]
  rcases hk with rfl | rfl
  ·rw [sgn2 (by omega) (by omega)]
  ·rw [sgn4 (by omega) (by omega)]
 ·simp only [dLen, cnt, if_true]
  rw [Dec.map_of (uv_rt r (by omega))]
  simp only [UC, Prod.mk.injEq, and_true]; omega
theorem dLen_null {flex : Bool} {k : Nat} (r : List UInt8) (hk : k = 2 ∨ k = 4) : dLen flex k (J9 flex k ++ r) = some (-1, r) := by
 cases flex
 ·simp only [dLen, J9, UB, if_false]
  rw [dInt_fix]
  rcases hk with rfl | rfl
  ·rw [sgn2 (by omega) (by omega)]
  ·rw [sgn4 (by omega) (by omega)]
 ·simp only [dLen, J9, if_true]
  rw [Dec.map_of (uv_rt r (by omega))]
  rfl
theorem dSpan_app {l : List UInt8} (r : List UInt8) : dSpan (l.length : Nat) (l ++ r) = some (l, r) := by
 unfold dSpan
 rw [if_neg (by omega)]
 exact takeN_app r (by simp)
theorem aLen_small {n : Nat} (h : n ≤ 32768) : aLen n = (n : Int) - 1 := by
 unfold aLen
 rw [wrap_i32 (n := (n : Int)) (by omega) (by omega), wrap_i32 (by omega) (by omega)]
theorem dALen_cnt {flex : Bool} {n : Nat} (r : List UInt8) (h : n ≤ 32767) (hr : n ≤ r.length) : dALen flex (cnt flex 4 n ++ r) = some ((n : Int), r) := by
 cases flex
 ·simp only [dALen, cnt, UB, if_false]
  rw [Dec.bind_of (dInt_fix r), sgn4 (by omega) (by omega)]
  unfold atMost; rw [if_neg (by omega)]
 ·simp only [dALen, cnt, if_true]
  rw [Dec.bind_of (uv_rt r (by omega)), aLen_small (by omega)]
  unfold atMost; rw [if_neg (by omega)]
  simp only [UC, Prod.mk.injEq, and_true]; omega
theorem dALen_null {flex : Bool} (r : List UInt8) : dALen flex (J9 flex 4 ++ r) = some (-1, r) := by
 cases flex
 ·simp only [dALen, J9, UB, if_false]
  rw [Dec.bind_of (dInt_fix r), sgn4 (by omega) (by omega)]
  unfold atMost; rw [if_neg (by omega)]
 ·simp only [dALen, J9, if_true]
  rw [Dec.bind_of (uv_rt r (by omega)), aLen_small (by omega)]
  unfold atMost; rw [if_neg (by omega)]
  rfl
def okP (k : PK) (d : D) : Prop :=
 match k with
 | .i8 => ∃ i, d = .n i ∧ -128 ≤ i ∧ i ≤ 127
 | .i16 => ∃ i, d = .n i ∧ -32768 ≤ i ∧ i ≤ 32767
 | .u16 => ∃ i, d = .n i ∧ 0 ≤ i ∧ i ≤ 65535
 | .i32 => ∃ i, d = .n i ∧ -2147483648 ≤ i ∧ i ≤ 2147483647
 | .i64 => ∃ i, d = .n i ∧ -9223372036854775808 ≤ i ∧ i ≤ 9223372036854775807
 | .f64 => ∃ i, d = .n i ∧ 0 ≤ i ∧ i < 18446744073709551616
 | .bool => d = .n 0 ∨ d = .n 1
 | .uuid => ∃ l, d = .s (some l) ∧ l.length = 16
 | .str | .byt => ∃ l, d = .s (some l) ∧ l.length ≤ 32767
 | .nstr | .nbyt => d = .s none ∨ ∃ l, d = .s (some l) ∧ l.length ≤ 32767
theorem rtP {k : PK} {d : D} {flex : Bool} (r : List UInt8) (h : okP k d) : dP k flex (encP k flex d ++ r) = some (d, r) := by
 cases k <;> simp only [okP] at h <;> unfold dP
 ·obtain ⟨i, rfl, h0, h1⟩ := h
  show (dInt 1).map D.n (fix i 1 ++ r) = _
  rw [Dec.map_of (dInt_fix r), sgn1 h0 h1]
 ·obtain ⟨i, rfl, h0, h1⟩ := h
  show (dInt 2).map D.n (fix i 2 ++ r) = _
  rw [Dec.map_of (dInt_fix r), sgn2 h0 h1]
 ·obtain ⟨i, rfl, h0, h1⟩ := h
  show (dInt 4).map D.n (fix i 4 ++ r) = _
  rw [Dec.map_of (dInt_fix r), sgn4 h0 h1]
 ·obtain ⟨i, rfl, h0, h1⟩ := h
  show (dInt 8).map D.n (fix i 8 ++ r) = _
  rw [Dec.map_of (dInt_fix r), sgn8 h0 h1]
 ·obtain ⟨i, rfl, h0, h1⟩ := h
  show (dNat 2).map (fun n => D.n (n : Nat)) (fix i 2 ++ r) = _
  rw [Dec.map_of (dNat_fix r)]
  simp only [show (256 : Nat) ^ 2 = 65536 from rfl, show (256 : Int) ^ 2 = 65536 from rfl]
  congr 3; omega
 ·rcases h with rfl | rfl <;> rfl
 ·obtain ⟨i, rfl, h0, h1⟩ := h
  show (dNat 8).map (fun n => D.n (n : Nat)) (fix i 8 ++ r) = _
  rw [Dec.map_of (dNat_fix r)]
  simp only [show (256 : Nat) ^ 8 = 18446744073709551616 from rfl, show (256 : Int) ^ 8 = 18446744073709551616 from rfl]
  congr 3; omega
 ·obtain ⟨l, rfl, hl⟩ := h
  exact Dec.map_of (takeN_app r hl)
 ·obtain ⟨l, rfl, hl⟩ := h
  show (dLen flex 2).bind _ ((cnt flex 2 l.length ++ l) ++ r) = _
  rw [List.append_assoc, Dec.bind_of (dLen_cnt _ (.inl rfl) hl), Dec.map_of (dSpan_app r)]
 ·rcases h with rfl | ⟨l, rfl, hl⟩
  ·show (dLen flex 2).bind _ (J9 flex 2 ++ r) = _
   rw [Dec.bind_of (dLen_null _ (.inl rfl)), if_pos (by omega)]; rfl
  ·show (dLen flex 2).bind _ ((cnt flex 2 l.length ++ l) ++ r) = _
   rw [List.append_assoc, Dec.bind_of (dLen_cnt _ (.inl rfl) hl), if_neg (by omega), Dec.map_of (dSpan_app r)]
 ·obtain ⟨l, rfl, hl⟩ := h
  show (dLen flex 4).bind _ ((cnt flex 4 l.length ++ l) ++ r) = _
  rw [List.append_assoc, Dec.bind_of (dLen_cnt _ (.inr rfl) hl), if_neg (by omega), Dec.map_of (dSpan_app r)]
 ·rcases h with rfl | ⟨l, rfl, hl⟩
  ·show (dLen flex 4).bind _ (J9 flex 4 ++ r) = _
   rw [Dec.bind_of (dLen_null _ (.inr rfl)), if_pos (by omega)]; rfl
  ·show (dLen flex 4).bind _ ((cnt flex 4 l.length ++ l) ++ r) = _
   rw [List.append_assoc, Dec.bind_of (dLen_cnt _ (.inr rfl) hl), if_neg (by omega), Dec.map_of (dSpan_app r)]
/-! ### Tags -/
def Ql (ts : List (Nat × List UInt8)) : Prop := ts.Pairwise (fun x y => x.1 < y.1) ∧ ts.length ≤ 40000 ∧ ∀ t ∈ ts, t.1 < 4294967296 ∧ t.2.length ≤ 32767
theorem setTag_snoc {t : Nat × List UInt8} : ∀ {ts : List (Nat × List UInt8)}, (∀ x ∈ ts, x.1 < t.1) → JY t ts = ts ++ [t]
 | [], _ => rfl
 | x :: xs, h => by
  rw [JY, if_pos (h x List.mem_cons_self), setTag_snoc (fun y hy => h y (List.mem_cons_of_mem _ hy))]; rfl
theorem dTag_enc {t : Nat × List UInt8} (r : List UInt8) (h1 : t.1 < 4294967296) (h2 : t.2.length < 4294967296) : dTag (Jt t ++ r) = some (t, r) := by
 unfold dTag Jt
 rw [List.append_assoc, List.append_assoc, Dec.bind_of (uv_rt _ h1), Dec.bind_of (uv_rt _ (by omega)), Dec.map_of (dSpan_app r)]
def okKn (kn : List KT) (t : Nat × List UInt8) : Prop := ∀ q, kn.find? (fun q => decide (q.tag = t.1)) = some q → ∃ n, n ≠ q.df ∧ t.2 = encP q.k false (.n n) ∧ okP q.k (.n n)
def okTagsK (kn : List KT) (ts : List (Nat × List UInt8)) : Prop := Ql ts ∧ ∀ t ∈ ts, okKn kn t
theorem KT.dec_enc {q : KT} {n : Int} (h : okP q.k (.n n)) : q.dec (encP q.k false (.n n)) = some n := by
 unfold KT.dec
 have := rtP (flex := false) [] h
 rw [List.append_nil] at this
 rw [this]
theorem putK_ok {kn : List KT} {t : Nat × List UInt8} (ts : List (Nat × List UInt8)) (h : okKn kn t) : putK kn t ts = some (JY t ts) := by
 unfold putK
 split
 ·rfl
 ·rename_i q hq
  obtain ⟨n, h1, h2, h3⟩ := h q hq
  rw [h2, KT.dec_enc h3]
  simp only
  rw [if_neg h1, ← h2]
theorem dTagNK_enc {kn : List KT} (r : List UInt8) : ∀ (ts acc : List (Nat × List UInt8)), (acc ++ ts).Pairwise (fun x y => x.1 < y.1) → (∀ t ∈ ts, t.1 < 4294967296 ∧ t.2.length ≤ 32767) → (∀ t ∈ ts, okKn kn t) →
  dTagNK kn ts.length acc (ts.flatMap Jt ++ r) = some (acc ++ ts, r)
 | [], acc, _, _, _ => by simp [dTagNK, Dec.pure]
 | t :: ts, acc, hp, h, hk => by
  have ht := h t List.mem_cons_self
  rw [List.flatMap_cons, List.append_assoc]
  show dTagNK kn (ts.length + 1) acc _ = _
  unfold dTagNK
  rw [Dec.bind_of (dTag_enc _ ht.1 (by have := ht.2; omega)), putK_ok _ (hk t List.mem_cons_self), setTag_snoc (fun x hx => (List.pairwise_append.1 hp).2.2 x hx t List.mem_cons_self)]
  rw [Dec.bind_of (show Kx.dOpt (some (acc ++ [t])) _ = some (acc ++ [t], _) from rfl)]
  rw [dTagNK_enc r ts (acc ++ [t]) (by rw [List.append_assoc]; exact hp) (fun x hx => h x (List.mem_cons_of_mem _ hx)) (fun x hx => hk x (List.mem_cons_of_mem _ hx))]
  simp
theorem dTagsK_enc {kn : List KT} {ts : List (Nat × List UInt8)} (r : List UInt8) (h : okTagsK kn ts) : dTagsK kn (Jz ts ++ r) = some (ts, r) := by
 obtain ⟨⟨h1, h2, h3⟩, h4⟩ := h
 unfold dTagsK Jz
 rw [List.append_assoc, Dec.bind_of (uv_rt _ (by omega)), dTagNK_enc r ts [] (by simpa using h1) h3 h4]
 rfl
theorem dTagPN_enc {j : Nat} {f : Dec D} (r : List UInt8) : ∀ (ts acc : List (Nat × List UInt8)) (ds : List D), (acc ++ ts).Pairwise (fun x y => x.1 < y.1) → (∀ t ∈ ts, t.1 < 4294967296 ∧ t.2.length ≤ 32767) → (∀ t ∈ ts, t.1 ≠ 0) →
  dTagPN j f ts.length ds acc (ts.flatMap Jt ++ r) = some ((ds, acc ++ ts), r)
 | [], acc, ds, _, _, _ => by simp [dTagPN, Dec.pure]
 | t :: ts, acc, ds, hp, h, hk => by
  have ht := h t List.mem_cons_self
  rw [List.flatMap_cons, List.append_assoc]
  show dTagPN j f (ts.length + 1) ds acc _ = _
  unfold dTagPN
  rw [Dec.bind_of (dTag_enc _ ht.1 (by have := ht.2; omega)), if_neg (hk t List.mem_cons_self), setTag_snoc (fun x hx => (List.pairwise_append.1 hp).2.2 x hx t List.mem_cons_self)]
  rw [dTagPN_enc r ts (acc ++ [t]) ds (by rw [List.append_assoc]; exact hp) (fun x hx => h x (List.mem_cons_of_mem _ hx)) (fun x hx => hk x (List.mem_cons_of_mem _ hx))]
  simp
theorem dTagP_enc {j : Nat} {f : Dec D} {ts : List (Nat × List UInt8)} {ds : List D} (r : List UInt8) (h : Ql ts) (hk : ∀ t ∈ ts, t.1 ≠ 0) : dTagP j f ds (Jz ts ++ r) = some ((ds, ts), r) := by
 obtain ⟨h1, h2, h3⟩ := h
 unfold dTagP Jz
 rw [List.append_assoc, Dec.bind_of (uv_rt _ (by omega)), dTagPN_enc r ts [] ds (by simpa using h1) h3 hk]
 rfl
theorem dTagP_told {j : Nat} {f : Dec D} {ts : List (Nat × List UInt8)} {ds : List D} {X r' : List UInt8} {d : D} (r : List UInt8) (h : Ql ts) (hk : ∀ t ∈ ts, t.1 ≠ 0) (hX : X.length < 4294967296) (hf : f X = some (d, r')) : dTagP j f ds (Jz ((0, X) :: ts) ++ r) = some ((ds.set j d, ts), r) := by
 obtain ⟨h1, h2, h3⟩ := h
 unfold dTagP Jz
 rw [List.append_assoc, Dec.bind_of (uv_rt _ (by simp only [List.length_cons]; omega)), List.flatMap_cons, List.append_assoc]
 show dTagPN j f (ts.length + 1) ds [] _ = _
 unfold dTagPN
 rw [Dec.bind_of (dTag_enc _ (by omega) hX), if_pos rfl]
 simp only [hf]
 rw [Dec.bind_of (show dOpt (some (d, r')) _ = some ((d, r'), _) from rfl), dTagPN_enc r ts [] _ (by simpa using h1) h3 hk]
 rfl
/-! ### All of it -/
def oneT : Flds → Bool
 | .nil => true
 | .cons c _ _ _ _ rest => if c.isTag then !(JO rest) else oneT rest
def numsF : Flds → Bool
 | .nil => true
 | .cons c _ _ df ty rest => (match c with | .always => true | _ => false) && (match ty with | .prim k _ => k.isNum | _ => false) && JP df 0 && numsF rest
def payT : Ty → Bool
 | .arr .. => true
 | .struct _ _ _ tg fs => tg.isSome && numsF fs
 | _ => false
def payF : Flds → Bool
 | .nil => true
 | .cons c _ _ _ ty rest => (!c.isTag || payT ty) && payF rest
mutual
def Ok (ver : Int) (flex : Bool) : Ty → D → Prop
 | .prim k _, d => okP k d
 | .enum k _ _, d => okP k d
 | .vstr _ _ _, d => okP .nstr d
 | .arr nul _ _ el, d => ∃ b xs, d = .l b xs ∧ xs.length ≤ 32767 ∧ (b = true → xs = [] ∧ nulOf nul ver (-1) = true) ∧ ∀ x ∈ xs, Ok ver flex el x ∧ 1 ≤ (enc ver flex el x).length
 | .struct _ _ _ tg fs, d => ∃ ds ts, d = .r ds ts ∧ OkF ver flex fs ds ∧ ((tg.isSome && flex) = true → okTagsK (knOf tg) ts ∧ (JO fs = true → ∀ t ∈ ts, t.1 ≠ 0)) ∧ oneT fs = true ∧ payF fs = true
def OkF (ver : Int) (flex : Bool) : Flds → List D → Prop
 | .nil, _ => True
 | .cons c _ _ _ ty rest, ds => ((c.ok ver || c.isTag) = true → Ok ver flex ty (ds.headD (.n 0))) ∧ OkF ver flex rest ds.tail
end
mutual
def norm (ver : Int) (flex : Bool) : Ty → D → D
 | .vstr lim _ _, d => vD lim ver d
 | .arr _ _ _ el, .l b xs => .l b (xs.map (norm ver flex el))
 | .struct _ _ _ tg fs, .r ds ts => .r (Qa ver flex (tg.isSome && flex) fs ds) (if tg.isSome && flex then ts else [])
 | _, d => d
def Qa (ver : Int) (flex tl : Bool) : Flds → List D → List D
 | .nil, _ => []
 | .cons c _ _ df ty rest, ds => (if c.ok ver || (c.isTag && tl && !QC ty (ds.headD (.n 0))) then norm ver flex ty (ds.headD (.n 0)) else dfl ty df) :: Qa ver flex tl rest ds.tail
end
theorem rep_enc {f : Dec D} {e : D → List UInt8} {g : D → D} (r : List UInt8) : ∀ (xs : List D), (∀ x ∈ xs, ∀ r, f (e x ++ r) = some (g x, r)) → rep f xs.length (xs.flatMap e ++ r) = some (xs.map g, r)
 | [], _ => rfl
 | x :: xs, h => by
  rw [List.flatMap_cons, List.append_assoc]
  show rep f (xs.length + 1) _ = _
  unfold rep
  rw [Dec.bind_of (h x List.mem_cons_self _), Dec.map_of (rep_enc r xs (fun y hy => h y (List.mem_cons_of_mem _ hy)))]
  rfl
theorem flat_len {e : D → List UInt8} : ∀ {xs : List D}, (∀ x ∈ xs, 1 ≤ (e x).length) → xs.length ≤ (xs.flatMap e).length
 | [], _ => by simp
 | x :: xs, h => by
  have h1 := h x List.mem_cons_self
  have h2 := flat_len (fun y hy => h y (List.mem_cons_of_mem _ hy))
  rw [List.flatMap_cons, UD, List.length_cons]; omega
theorem vD_ok {lim : Nat} {ver : Int} {d : D} (h : okP .nstr d) : okP (vK lim ver) (vD lim ver d) := by
 unfold vK vD
 split
 ·rcases h with rfl | ⟨l, rfl, h⟩
  ·exact ⟨[], rfl, Nat.zero_le _⟩
  ·exact ⟨l, rfl, h⟩
 ·exact h
theorem vNul_of {nul : Option Nat} {ver : Int} (h : nulOf nul ver (-1) = true) : vNul nul ver = true := by
 unfold nulOf at h
 cases nul with
 | none => rfl
 | some k =>
  simp only [Bool.not_eq_true', Bool.or_eq_false_iff, decide_eq_false_iff_not] at h
  cases k with
  | zero => rfl
  | succ k => unfold vNul; exact decide_eq_true (by have := h.1; omega)
theorem nulOf_zero (nul : Option Nat) (ver : Int) : nulOf nul ver 0 = false := by
 unfold nulOf; cases nul <;> simp
theorem mem_flat {e : D → List UInt8} {xs : List D} {x : D} (h : x ∈ xs) : (e x).length ≤ (xs.flatMap e).length := by
 induction xs with
 | nil => cases h
 | cons y ys ih =>
  rw [List.flatMap_cons, UD]
  rcases List.mem_cons.1 h with rfl | h
  ·omega
  ·have := ih h; omega
theorem normF_no (ver : Int) (flex : Bool) : ∀ {fs : Flds} {ds : List D}, JO fs = false → Qa ver flex true fs ds = Qa ver flex false fs ds
 | .nil, _, _ => by rw [Qa, Qa]
 | .cons c _ _ df ty rest, ds, h => by
  simp only [JO, Bool.or_eq_false_iff] at h
  rw [Qa, Qa, h.1, normF_no ver flex h.2]; rfl
theorem tag_one (ver : Int) (flex : Bool) : ∀ {fs : Flds} {ds : List D}, JO fs = true → oneT fs = true → OkF ver flex fs ds → ∃ j ty d, tagD ver flex fs = some (j, dec ver flex ty) ∧ Ok ver flex ty d ∧ tagF ver flex fs ds = (if QC ty d then [] else [(0, enc ver flex ty d)]) ∧ Qa ver flex true fs ds = (if QC ty d then Qa ver flex false fs ds else (Qa ver flex false fs ds).set j (norm ver flex ty d)) ∧ SizeOf.sizeOf ty < SizeOf.sizeOf fs
 | .nil, _, h, _, _ => by simp [JO] at h
 | .cons c idx off df ty rest, ds, h, h1, hok => by
  rw [OkF] at hok
  cases hc : c.isTag with
  | true =>
   have hokc : c.ok ver = false := by cases c <;> first | rfl | cases hc
   simp only [oneT, hc, if_true, Bool.not_eq_true'] at h1
   refine ⟨0, ty, ds.headD (.n 0), by rw [tagD, hc]; rfl, hok.1 (by rw [hc, Bool.or_true]), ?_, ?_, by simp; omega⟩
   ·rw [tagF, hc, tagF_no ver flex h1]
    cases QC ty (ds.headD (.n 0)) <;> simp
   ·rw [Qa, Qa, normF_no ver flex h1, hc, hokc]
    cases QC ty (ds.headD (.n 0)) <;> simp
  | false =>
   simp only [JO, hc, Bool.false_or] at h
   simp only [oneT, hc, UB, if_false] at h1
   obtain ⟨j, ty', d, e1, e2, e3, e4, e5⟩ := tag_one ver flex h h1 hok.2
   refine ⟨j + 1, ty', d, by rw [tagD, hc, e1]; rfl, e2, by rw [tagF, hc, e3]; simp, ?_, by simp; omega⟩
   rw [Qa, Qa, hc, e4]
   cases QC ty' d <;> simp
mutual
theorem rt (ver : Int) (flex : Bool) : ∀ (ty : Ty) (d : D) (r : List UInt8), Ok ver flex ty d → (enc ver flex ty d).length < 4294967296 → dec ver flex ty (enc ver flex ty d ++ r) = some (norm ver flex ty d, r)
 | .prim k _, d, r, h, _ => by unfold Ok at h; unfold dec enc norm; exact rtP r h
 | .enum k _ _, d, r, h, _ => by unfold Ok at h; unfold dec enc norm; exact rtP r h
 | .vstr _ _ _, d, r, h, _ => by unfold Ok at h; unfold dec enc norm; exact rtP r (vD_ok h)
 | .arr nul _ _ el, d, r, h, hlen => by
  unfold Ok at h
  obtain ⟨b, xs, rfl, hn, hb, hx⟩ := h
  unfold enc at hlen
  unfold dec enc norm
  cases b with
  | true =>
   obtain ⟨rfl, hnul⟩ := hb rfl
   simp only [vNul_of hnul, Bool.and_self, if_true]
   rw [Dec.bind_of (dALen_null r), if_pos (by omega), hnul]; rfl
  | false =>
   simp only [Bool.false_and, UB, if_false] at hlen ⊢
   rw [UD] at hlen
   rw [List.append_assoc, Dec.bind_of (dALen_cnt _ hn (by have := flat_len (fun x h => (hx x h).2); rw [UD]; omega))]
   by_cases h0 : xs.length = 0
   ·have e0 : xs = [] := List.eq_nil_of_length_eq_zero h0
    subst e0
    rw [if_pos (by simp)]
    simp [Dec.pure, nulOf_zero]
   ·rw [if_neg (by omega), show ((xs.length : Nat) : Int).toNat = xs.length from by omega]
    rw [Dec.map_of (rep_enc (f := dec ver flex el) (g := norm ver flex el) r xs (fun x h r => rt ver flex el x r (hx x h).1 (by have := mem_flat (e := enc ver flex el) h; omega)))]
 | .struct _ _ _ tg fs, d, r, h, hlen => by
  unfold Ok at h
  obtain ⟨ds, ts, rfl, h1, h2, h3, _⟩ := h
  unfold enc at hlen
  rw [UD] at hlen
  unfold dec enc norm
  rw [List.append_assoc, Dec.bind_of (rtF ver flex fs ds _ h1 (by omega))]
  cases hf : (tg.isSome && flex) with
  | true =>
   rw [hf] at hlen
   simp only [if_true] at hlen ⊢
   rw [Dec.map_of (rtT ver flex (kn := knOf tg) fs ds ts r h1 (h2 hf) h3 (by omega))]
  | false => simp only [UB, if_false, List.nil_append]; rfl
 termination_by ty => (SizeOf.sizeOf ty, 0)
theorem rtF (ver : Int) (flex : Bool) : ∀ (fs : Flds) (ds : List D) (r : List UInt8), OkF ver flex fs ds → (encF ver flex fs ds).length < 4294967296 → decF ver flex fs (encF ver flex fs ds ++ r) = some (Qa ver flex false fs ds, r)
 | .nil, ds, r, _, _ => by unfold decF encF Qa; rfl
 | .cons c _ _ df ty rest, ds, r, h, hlen => by
  unfold OkF at h
  unfold encF at hlen
  rw [UD] at hlen
  unfold decF encF Qa
  cases hc : c.ok ver with
  | true =>
   rw [hc] at hlen
   simp only [if_true, Bool.true_or] at hlen ⊢
   rw [List.append_assoc, Dec.bind_of (rt ver flex ty _ _ (h.1 (by rw [hc]; rfl)) (by omega)), Dec.map_of (rtF ver flex rest _ r h.2 (by omega))]
  | false =>
   simp only [UB, if_false, List.nil_append, Bool.false_or, Bool.and_false, Bool.false_and]
   rw [Dec.bind_of (show Dec.pure (dfl ty df) _ = some (dfl ty df, _) from rfl), Dec.map_of (rtF ver flex rest _ r h.2 (by omega))]
 termination_by fs => (SizeOf.sizeOf fs, 0)
theorem rtT (ver : Int) (flex : Bool) {kn : List KT} : ∀ (fs : Flds) (ds : List D) (ts : List (Nat × List UInt8)) (r : List UInt8), OkF ver flex fs ds → okTagsK kn ts ∧ (JO fs = true → ∀ t ∈ ts, t.1 ≠ 0) → oneT fs = true → (Jz (tagF ver flex fs ds ++ ts)).length < 4294967296 →
  tgD kn (tagD ver flex fs) (Qa ver flex false fs ds) (Jz (tagF ver flex fs ds ++ ts) ++ r) = some ((Qa ver flex true fs ds, ts), r)
 | fs, ds, ts, r, h, h2, h3, hlen => by
  cases ht : JO fs with
  | false =>
   rw [tagD_no ver flex ht, tagF_no ver flex ht, normF_no ver flex ht, List.nil_append]
   show (dTagsK kn).map _ _ = _
   rw [Dec.map_of (dTagsK_enc r h2.1)]
  | true =>
   obtain ⟨j, ty, d, e1, e2, e3, e4, e5⟩ := tag_one ver flex ht h3 h
   rw [e1, e3, e4]
   rw [e3] at hlen
   show dTagP j (dec ver flex ty) _ _ = _
   cases hu : QC ty d with
   | true => simp only [if_true, List.nil_append]; exact dTagP_enc r h2.1.1 (h2.2 ht)
   | false =>
    rw [hu] at hlen
    simp only [UB, if_false, List.cons_append, List.nil_append] at hlen ⊢
    have hX : (enc ver flex ty d).length < 4294967296 := by
     unfold Jz at hlen
     rw [UD, List.flatMap_cons, UD] at hlen
     unfold Jt at hlen
     simp only [UD] at hlen
     omega
    have := rt ver flex ty d [] e2 hX
    rw [List.append_nil] at this
    exact dTagP_told r h2.1.1 (h2.2 ht) hX this
 termination_by fs => (SizeOf.sizeOf fs, 1)
end
theorem usualF_num (ver : Int) (flex tl : Bool) : ∀ {fs : Flds} {ds : List D}, numsF fs = true → Qw fs (Qa ver flex tl fs ds) = Qw fs ds
 | .nil, _, _ => by rw [Qw, Qw]
 | .cons c _ _ df ty rest, ds, h => by
  simp only [numsF, UA] at h
  obtain ⟨⟨⟨h1, h2⟩, h3⟩, h4⟩ := h
  have hc : c.ok ver = true := by cases c <;> first | rfl | cases h1
  rw [Qa, Qw, Qw, hc]
  simp only [Bool.true_or, if_true, List.headD_cons, List.tail_cons]
  rw [usualF_num ver flex tl h4]
  cases ty <;> first | (simp at h2; done) | skip
  unfold norm
  rfl
theorem usual_norm (ver : Int) {ty : Ty} {d : D} (h : payT ty = true) : QC ty (norm ver true ty d) = QC ty d := by
 cases ty <;> simp only [payT, UB] at h
 ·cases d <;> unfold norm <;> try rfl
  rename_i b xs
  cases xs <;> rfl
 ·simp only [UA] at h
  cases d <;> unfold norm <;> try rfl
  rename_i n1 n2 n3 tg fs ds ts
  show (Qw fs (Qa ver true _ fs ds) && _) = (Qw fs ds && _)
  rw [usualF_num ver true _ h.2, h.1]; rfl
theorem usualF_dfl : ∀ {fs : Flds}, numsF fs = true → Qw fs (dflF fs) = true
 | .nil, _ => by rw [Qw]
 | .cons c _ _ df ty rest, h => by
  simp only [numsF, UA] at h
  obtain ⟨⟨⟨h1, h2⟩, h3⟩, h4⟩ := h
  rw [dflF, Qw]
  simp only [List.headD_cons, List.tail_cons]
  rw [usualF_dfl h4]
  cases ty <;> first | (simp at h2; done) | skip
  rename_i k t
  cases k <;> simp [PK.isNum] at h2 <;> simp [dfl, QC, Jw h3]
theorem usual_dfl {ty : Ty} {df : Int} (h : payT ty = true) : QC ty (dfl ty df) = true := by
 cases ty <;> simp only [payT, UB] at h
 ·rw [dfl]; rfl
 ·simp only [UA] at h
  rename_i n1 n2 n3 tg fs
  rw [dfl]
  show (Qw fs (dflF fs) && _) = true
  rw [usualF_dfl h.2]; rfl
mutual
theorem enc_norm (ver : Int) (flex : Bool) : ∀ (ty : Ty) (d : D), Ok ver flex ty d → enc ver flex ty (norm ver flex ty d) = enc ver flex ty d
 | .prim k _, d, _ => by unfold norm; rfl
 | .enum k _ _, d, _ => by unfold norm; rfl
 | .vstr lim _ _, d, _ => by
  unfold norm enc
  have : vD lim ver (vD lim ver d) = vD lim ver d := by
   unfold vD
   split
   ·cases d with
    | s o => cases o <;> rfl
    | _ => rfl
   ·rfl
  rw [this]
 | .arr nul _ _ el, d, h => by
  unfold Ok at h
  obtain ⟨b, xs, rfl, hn, hb, hx⟩ := h
  unfold norm enc
  rw [List.length_map, List.flatMap_map]
  have : xs.flatMap (fun a => enc ver flex el (norm ver flex el a)) = xs.flatMap (enc ver flex el) := by
   rw [List.flatMap_def, List.flatMap_def, List.map_congr_left fun a ha => enc_norm ver flex el a (hx a ha).1]
  rw [this]
 | .struct _ _ _ tg fs, d, h => by
  unfold Ok at h
  obtain ⟨ds, ts, rfl, h1, h2, h3, h4⟩ := h
  unfold norm enc
  rw [encF_norm ver flex _ fs ds h1]
  cases hf : (tg.isSome && flex) with
  | false => simp
  | true =>
   have hfl : flex = true := by simp only [UA] at hf; exact hf.2
   simp only [if_true]
   rw [tagF_norm ver flex fs ds hfl h4 h1]
theorem encF_norm (ver : Int) (flex tl : Bool) : ∀ (fs : Flds) (ds : List D), OkF ver flex fs ds → encF ver flex fs (Qa ver flex tl fs ds) = encF ver flex fs ds
 | .nil, ds, _ => by unfold Qa encF; rfl
 | .cons c _ _ df ty rest, ds, h => by
  unfold OkF at h
  unfold Qa encF
  simp only [List.headD_cons, List.tail_cons]
  rw [encF_norm ver flex tl rest ds.tail h.2]
  cases hc : c.ok ver with
  | true => simp only [if_true, Bool.true_or]; rw [enc_norm ver flex ty _ (h.1 (by rw [hc]; rfl))]
  | false => simp
theorem tagF_norm (ver : Int) (flex : Bool) : ∀ (fs : Flds) (ds : List D), flex = true → payF fs = true → OkF ver flex fs ds → tagF ver flex fs (Qa ver flex true fs ds) = tagF ver flex fs ds
 | .nil, ds, _, _, _ => by unfold Qa tagF; rfl
 | .cons c _ _ df ty rest, ds, hfl, hp, h => by
  unfold OkF at h
  simp only [payF, UA] at hp
  unfold Qa tagF
  simp only [List.headD_cons, List.tail_cons]
  rw [tagF_norm ver flex rest ds.tail hfl hp.2 h.2]
  cases hc : c.isTag with
  | false => simp
  | true =>
   have hok : c.ok ver = false := by cases c <;> first | rfl | cases hc
   have hpt : payT ty = true := by have := hp.1; rw [hc] at this; simpa using this
   rw [hok]
   cases hu : QC ty (ds.headD (.n 0)) with
   | true => simp [usual_dfl hpt]
   | false =>
    have hun := usual_norm ver (d := ds.headD (.n 0)) hpt
    rw [← hfl, hu] at hun
    simp only [Bool.false_or, Bool.and_self, Bool.not_false, if_true]
    rw [hun, enc_norm ver flex ty _ (h.1 (by rw [hc, Bool.or_true]))]
    rfl
end
def OkTop (p : Plan) (ver : Int) (ds : List D) (ts : List (Nat × List UInt8)) : Prop := OkF ver (p.flex ver) p.fs ds ∧ ((p.tg.isSome && p.flex ver) = true → okTagsK (knOf p.tg) ts ∧ (JO p.fs = true → ∀ t ∈ ts, t.1 ≠ 0)) ∧ oneT p.fs = true ∧ payF p.fs = true
theorem rtTop {p : Plan} {ver : Int} {ds : List D} {ts : List (Nat × List UInt8)} (r : List UInt8) (h : OkTop p ver ds ts) (hlen : (Qj p ver ds ts).length < 4294967296) :
  decTop p ver (Qj p ver ds ts ++ r) = some ((Qa ver (p.flex ver) (p.tg.isSome && p.flex ver) p.fs ds, if p.tg.isSome && p.flex ver then ts else []), r) := by
 unfold Qj at hlen
 rw [UD] at hlen
 unfold decTop Qj
 rw [List.append_assoc, Dec.bind_of (rtF ver _ p.fs ds _ h.1 (by omega))]
 cases hf : (p.tg.isSome && p.flex ver) with
 | true =>
  rw [hf] at hlen
  simp only [if_true] at hlen ⊢
  exact rtT ver _ p.fs ds ts r h.1 (h.2.1 hf) h.2.2.1 (by omega)
 | false => simp only [UB, if_false, List.nil_append]; rfl
theorem encTop_norm (p : Plan) (ver : Int) (ds : List D) (ts : List (Nat × List UInt8)) (h : OkTop p ver ds ts) :
  Qj p ver (Qa ver (p.flex ver) (p.tg.isSome && p.flex ver) p.fs ds) (if p.tg.isSome && p.flex ver then ts else []) = Qj p ver ds ts := by
 unfold Qj
 rw [encF_norm ver _ _ _ _ h.1]
 cases hf : (p.tg.isSome && p.flex ver) with
 | false => simp
 | true =>
  have hfl : p.flex ver = true := by simp only [UA] at hf; exact hf.2
  simp only [if_true]
  rw [tagF_norm ver _ p.fs ds hfl h.2.2.2 h.1]
theorem cutTop {p : Plan} {ver : Int} {ds : List D} {ts : List (Nat × List UInt8)} (h : OkTop p ver ds ts) (hlen : (Qj p ver ds ts).length < 4294967296) {l m : List UInt8} (hl : Qj p ver ds ts = l ++ m) (hm : m ≠ []) : decTop p ver l = none := by
 cases hd : decTop p ver l with
 | none => rfl
 | some q =>
  obtain ⟨x, r⟩ := q
  have h1 := Ext.decTop p ver l x r m hd
  have h2 := rtTop (r := []) h hlen
  rw [List.append_nil, hl, h1] at h2
  simp only [UC, Prod.mk.injEq] at h2
  have := (List.append_eq_nil_iff.1 h2.2).2
  exact absurd this hm
set_option linter.unusedVariables false
theorem takeN_some {k : Nat} {l x r : List UInt8} (h : takeN k l = some (x, r)) : x.length = k ∧ x.length + r.length = l.length := by
 unfold takeN at h
 split at h
 ·rename_i hk
  simp only [UC, Prod.mk.injEq] at h
  obtain ⟨rfl, rfl⟩ := h
  simp only [List.length_take, List.length_drop]; omega
 ·simp at h
theorem beVal_lt : ∀ (l : List UInt8), Qp l < 256 ^ l.length := by
 intro l
 induction h : l.length generalizing l with
 | zero => have := List.eq_nil_of_length_eq_zero h; subst this; simp [Qp]
 | succ n ih =>
  have hne : l ≠ [] := by intro e; subst e; simp at h
  have e := List.dropLast_concat_getLast hne
  have h2 := ih l.dropLast (by rw [List.length_dropLast]; omega)
  have h3 : (l.getLast hne).toNat < 256 := (l.getLast hne).toNat_lt
  rw [← e, beVal_snoc, Nat.pow_succ]
  omega
theorem dNat_some {k n : Nat} {l r : List UInt8} (h : dNat k l = some (n, r)) : n < 256 ^ k ∧ k + r.length = l.length := by
 unfold dNat at h
 obtain ⟨x, h1, rfl⟩ := Dec.map_some.1 h
 obtain ⟨h2, h3⟩ := takeN_some h1
 have := beVal_lt x
 rw [h2] at this
 exact ⟨this, by omega⟩
theorem dInt_some {k : Nat} {n : Int} {l r : List UInt8} (hk : k = 1 ∨ k = 2 ∨ k = 4 ∨ k = 8) (h : dInt k l = some (n, r)) : -((256 ^ k / 2 : Nat) : Int) ≤ n ∧ n < ((256 ^ k / 2 : Nat) : Int) ∧ k + r.length = l.length := by
 unfold dInt at h
 obtain ⟨x, h1, rfl⟩ := Dec.map_some.1 h
 obtain ⟨h2, h3⟩ := dNat_some h1
 refine ⟨?_, ?_, h3⟩ <;> unfold sgn <;> rcases hk with rfl | rfl | rfl | rfl <;> simp only [Nat.reducePow, Nat.reduceDiv] at h2 ⊢ <;> split <;> omega
theorem dUvb_some : ∀ (k : Nat) (l r : List UInt8) (n : Nat), dUvb k l = some (n, r) → n < 16 * 128 ^ k ∧ ∀ j, (uvb j n).length + r.length ≤ l.length
 | _, [], r, n, h => by simp [dUvb] at h
 | 0, b :: l, r, n, h => by
  simp only [dUvb] at h
  split at h
  ·rename_i hb
   simp only [UC, Prod.mk.injEq] at h
   obtain ⟨rfl, rfl⟩ := h
   refine ⟨by simp; omega, fun j => ?_⟩
   have : (uvb j b.toNat).length = 1 := by
    cases j with
    | zero => rfl
    | succ j => rw [uvb, if_pos (by omega)]; rfl
   rw [this, List.length_cons]; omega
  ·simp at h
 | k + 1, b :: l, r, n, h => by
  simp only [dUvb] at h
  split at h
  ·rename_i hb
   simp only [UC, Prod.mk.injEq] at h
   obtain ⟨rfl, rfl⟩ := h
   refine ⟨?_, fun j => ?_⟩
   ·have : 1 ≤ 128 ^ k := Nat.one_le_pow _ _ (by omega)
    rw [Nat.pow_succ]; omega
   ·have : (uvb j b.toNat).length = 1 := by cases j <;> simp [uvb, hb]
    rw [this, List.length_cons]; omega
  ·cases h1 : dUvb k l with
   | none => simp [h1] at h
   | some p =>
    obtain ⟨m, r'⟩ := p
    simp only [h1, UC, Prod.mk.injEq] at h
    obtain ⟨rfl, rfl⟩ := h
    obtain ⟨h2, h3⟩ := dUvb_some k l r' m h1
    refine ⟨by rw [Nat.pow_succ]; omega, fun j => ?_⟩
    cases j with
    | zero => have := h3 0; simp only [uvb, List.length_cons, List.length_nil] at this ⊢; omega
    | succ j =>
     by_cases hn : b.toNat % 128 + 128 * m < 128
     ·have := h3 0
      simp only [uvb, if_pos hn, List.length_cons, List.length_nil] at this ⊢; omega
     ·have := h3 j
      rw [uvb, if_neg hn, show (b.toNat % 128 + 128 * m) / 128 = m from by omega]
      simp only [List.length_cons]; omega
theorem dUv_some {l r : List UInt8} {n : Nat} (h : dUv l = some (n, r)) : n < 4294967296 ∧ (uv n).length + r.length ≤ l.length := by
 obtain ⟨h1, h2⟩ := dUvb_some 4 l r n h
 exact ⟨by simpa using h1, h2 9⟩
theorem cntNull_len (flex : Bool) (k : Nat) : (J9 flex k).length = if flex then 1 else k := by
 cases flex
 ·simp [J9, QL]
 ·rfl
theorem okP_small {k : PK} {d : D} (h : okP k d) : smallP d := by
 cases k <;> simp only [okP] at h
 case bool => rcases h with rfl | rfl <;> trivial
 case uuid => obtain ⟨l, rfl, h1⟩ := h; show l.length ≤ 32767; omega
 case str => obtain ⟨l, rfl, h1⟩ := h; exact h1
 case byt => obtain ⟨l, rfl, h1⟩ := h; exact h1
 case nstr => rcases h with rfl | ⟨l, rfl, h1⟩ <;> first | trivial | exact h1
 case nbyt => rcases h with rfl | ⟨l, rfl, h1⟩ <;> first | trivial | exact h1
 all_goals (obtain ⟨i, rfl, _⟩ := h; trivial)
theorem encP_pos {k : PK} {flex : Bool} {d : D} (h : okP k d) : 1 ≤ (encP k flex d).length := by
 have hc : ∀ (k n : Nat), 1 ≤ k → 1 ≤ (cnt flex k n).length := by
  intro k n hk
  cases flex
  ·simp only [cnt, UB, if_false, QL]; exact hk
  ·simp only [cnt, if_true]; exact uv_pos _
 have hn : ∀ k : Nat, 1 ≤ k → 1 ≤ (J9 flex k).length := by intro k hk; rw [cntNull_len]; split <;> omega
 cases k <;> simp only [okP] at h
 case bool => rcases h with rfl | rfl <;> exact Nat.le_refl 1
 case uuid => obtain ⟨l, rfl, h1⟩ := h; show 1 ≤ l.length; omega
 case str => obtain ⟨l, rfl, h1⟩ := h; show 1 ≤ (cnt flex 2 l.length ++ l).length; rw [UD]; have := hc 2 l.length (by omega); omega
 case byt => obtain ⟨l, rfl, h1⟩ := h; show 1 ≤ (cnt flex 4 l.length ++ l).length; rw [UD]; have := hc 4 l.length (by omega); omega
 case nstr =>
  rcases h with rfl | ⟨l, rfl, h1⟩
  ·exact hn 2 (by omega)
  ·show 1 ≤ (cnt flex 2 l.length ++ l).length; rw [UD]; have := hc 2 l.length (by omega); omega
 case nbyt =>
  rcases h with rfl | ⟨l, rfl, h1⟩
  ·exact hn 4 (by omega)
  ·show 1 ≤ (cnt flex 4 l.length ++ l).length; rw [UD]; have := hc 4 l.length (by omega); omega
 case i8 => obtain ⟨i, rfl, _⟩ := h; show 1 ≤ (fix i 1).length; rw [QL]; omega
 case i16 => obtain ⟨i, rfl, _⟩ := h; show 1 ≤ (fix i 2).length; rw [QL]; omega
 case u16 => obtain ⟨i, rfl, _⟩ := h; show 1 ≤ (fix i 2).length; rw [QL]; omega
 case i32 => obtain ⟨i, rfl, _⟩ := h; show 1 ≤ (fix i 4).length; rw [QL]; omega
 case i64 => obtain ⟨i, rfl, _⟩ := h; show 1 ≤ (fix i 8).length; rw [QL]; omega
 case f64 => obtain ⟨i, rfl, _⟩ := h; show 1 ≤ (fix i 8).length; rw [QL]; omega
/-! ### At least one octet -/
mutual
def min1 (ver : Int) (flex : Bool) : Ty → Bool
 | .struct _ _ _ tg fs => (tg.isSome && flex) || min1F ver flex fs
 | _ => true
def min1F (ver : Int) (flex : Bool) : Flds → Bool
 | .nil => false
 | .cons c _ _ _ ty rest => (c.ok ver && min1 ver flex ty) || min1F ver flex rest
end
mutual
def minOk (ver : Int) (flex : Bool) : Ty → Bool
 | .arr _ _ _ el => min1 ver flex el && minOk ver flex el
 | .struct _ _ _ _ fs => minOkF ver flex fs
 | _ => true
def minOkF (ver : Int) (flex : Bool) : Flds → Bool
 | .nil => true
 | .cons c _ _ _ ty rest => ((!c.ok ver && !c.isTag) || minOk ver flex ty) && minOkF ver flex rest
end
theorem cnt_pos (flex : Bool) (n : Nat) : 1 ≤ (cnt flex 4 n).length := by
 cases flex
 ·simp only [cnt, UB, if_false, QL]; omega
 ·simp only [cnt, if_true]; exact uv_pos _
mutual
theorem enc_pos (ver : Int) (flex : Bool) : ∀ (ty : Ty) (d : D), min1 ver flex ty = true → Ok ver flex ty d → 1 ≤ (enc ver flex ty d).length
 | .prim k _, d, _, h => by unfold Ok at h; unfold enc; exact encP_pos h
 | .enum k _ _, d, _, h => by unfold Ok at h; unfold enc; exact encP_pos h
 | .vstr _ _ _, d, _, h => by unfold Ok at h; unfold enc; exact encP_pos (vD_ok h)
 | .arr nul _ _ el, d, _, h => by
  unfold Ok at h
  obtain ⟨b, xs, rfl, _⟩ := h
  unfold enc
  split
  ·rw [cntNull_len]; split <;> omega
  ·rw [UD]; have := cnt_pos flex xs.length; omega
 | .struct _ _ _ tg fs, d, hm, h => by
  unfold Ok at h
  obtain ⟨ds, ts, rfl, h1, _⟩ := h
  unfold enc
  simp only [min1, Bool.or_eq_true] at hm
  rw [UD]
  rcases hm with hm | hm
  ·rw [hm]; simp only [if_true]
   unfold Jz; rw [UD]; have := uv_pos (tagF ver flex fs ds ++ ts).length; omega
  ·have := encF_pos ver flex fs ds hm h1; omega
theorem encF_pos (ver : Int) (flex : Bool) : ∀ (fs : Flds) (ds : List D), min1F ver flex fs = true → OkF ver flex fs ds → 1 ≤ (encF ver flex fs ds).length
 | .nil, _, hm, _ => by simp [min1F] at hm
 | .cons c _ _ _ ty rest, ds, hm, h => by
  unfold OkF at h
  unfold encF
  simp only [min1F, Bool.or_eq_true, UA] at hm
  rw [UD]
  rcases hm with hm | hm
  ·rw [hm.1]; simp only [if_true]
   have := enc_pos ver flex ty _ hm.2 (h.1 (by rw [hm.1]; rfl)); omega
  ·have := encF_pos ver flex rest _ hm h.2; omega
end
/-! ### Tags that are read -/
theorem setTag_mem {t x : Nat × List UInt8} : ∀ {ts : List (Nat × List UInt8)}, x ∈ JY t ts → x = t ∨ x ∈ ts
 | [], h => by simp only [JY, List.mem_singleton] at h; exact .inl h
 | y :: ys, h => by
  simp only [JY] at h
  split at h
  ·simp only [List.mem_cons] at h
   rcases h with rfl | h
   ·exact .inr List.mem_cons_self
   ·rcases setTag_mem h with h | h
    ·exact .inl h
    ·exact .inr (List.mem_cons_of_mem _ h)
  ·split at h
   ·simp only [List.mem_cons] at h
    rcases h with rfl | h
    ·exact .inl rfl
    ·exact .inr (List.mem_cons_of_mem _ h)
   ·simp only [List.mem_cons] at h
    rcases h with rfl | rfl | h
    ·exact .inl rfl
    ·exact .inr List.mem_cons_self
    ·exact .inr (List.mem_cons_of_mem _ h)
theorem setTag_sorted {t : Nat × List UInt8} : ∀ {ts : List (Nat × List UInt8)}, ts.Pairwise (fun x y => x.1 < y.1) → (JY t ts).Pairwise (fun x y => x.1 < y.1)
 | [], _ => by simp [JY]
 | y :: ys, h => by
  rw [List.pairwise_cons] at h
  simp only [JY]
  split
  ·rename_i h1
   rw [List.pairwise_cons]
   refine ⟨fun z hz => ?_, setTag_sorted h.2⟩
   rcases setTag_mem hz with rfl | hz
   ·exact h1
   ·exact h.1 z hz
  ·split
   ·rename_i h1 h2
    rw [List.pairwise_cons]
    exact ⟨fun z hz => by rw [← h2]; exact h.1 z hz, h.2⟩
   ·rename_i h1 h2
    rw [List.pairwise_cons, List.pairwise_cons]
    refine ⟨fun z hz => ?_, h⟩
    simp only [List.mem_cons] at hz
    rcases hz with rfl | hz
    ·omega
    ·have := h.1 z hz; omega
/-! ### All of it -/
theorem dfl_small : (∀ (ty : Ty) (df : Int), Sm Ql ty (dfl ty df)) := by
 intro ty
 refine Ty.rec (motive_1 := fun ty => ∀ df, Sm Ql ty (dfl ty df)) (motive_2 := fun fs => SmF Ql fs (dflF fs)) ?_ ?_ ?_ ?_ ?_ ?_ ?_ ty
 ·intro k ty df
  unfold dfl Sm
  cases k <;> first | trivial | (show List.length _ ≤ 32767; simp)
 ·intro k ty base df
  unfold dfl Sm; trivial
 ·intro lim ty base df
  unfold dfl Sm; trivial
 ·intro nul ty ety el _ df
  unfold dfl Sm
  exact ⟨by simp, by simp⟩
 ·intro T n df' tg fs ih df
  unfold dfl Sm
  exact ⟨ih, ⟨List.Pairwise.nil, by simp, by simp⟩⟩
 ·unfold dflF SmF; trivial
 ·intro c i o df ty rest h1 h2
  unfold dflF SmF
  exact ⟨h1 df, h2⟩
theorem okT {a b c d : Bool} (h : (a || (b && c && d)) = true) : (a || b) = true := by cases a <;> cases b <;> simp_all
theorem Ok.small (ver : Int) (flex : Bool) : (∀ (ty : Ty) (d : D), Ok ver flex ty d → Sm Ql ty (norm ver flex ty d)) := by
 intro ty
 refine Ty.rec (motive_1 := fun ty => ∀ d, Ok ver flex ty d → Sm Ql ty (norm ver flex ty d)) (motive_2 := fun fs => ∀ tl ds, OkF ver flex fs ds → SmF Ql fs (Qa ver flex tl fs ds)) ?_ ?_ ?_ ?_ ?_ ?_ ?_ ty
 ·intro k ty d h
  unfold Ok at h; unfold Sm norm; exact okP_small h
 ·intro k ty base d h
  unfold Ok at h; unfold Sm norm; exact okP_small h
 ·intro lim ty base d h
  unfold Ok at h; unfold Sm norm
  exact okP_small (vD_ok (lim := lim) (ver := ver) h)
 ·intro nul ty ety el ih d h
  unfold Ok at h
  obtain ⟨b, xs, rfl, h1, _, h2⟩ := h
  unfold norm Sm
  refine ⟨by simpa using h1, fun y hy => ?_⟩
  simp only [List.mem_map] at hy
  obtain ⟨x, hx, rfl⟩ := hy
  exact ih x (h2 x hx).1
 ·intro T n df tg fs ih d h
  unfold Ok at h
  obtain ⟨ds, ts, rfl, h1, h2, _⟩ := h
  unfold norm Sm
  refine ⟨ih _ ds h1, ?_⟩
  split
  ·rename_i hf; exact (h2 hf).1.1
  ·exact ⟨List.Pairwise.nil, by simp, by simp⟩
 ·intro tl ds h
  unfold Qa SmF; trivial
 ·intro c i o df ty rest h1 h2 tl ds h
  unfold OkF at h
  unfold Qa SmF
  simp only [List.headD_cons, List.tail_cons]
  refine ⟨?_, h2 tl _ h.2⟩
  split
  ·rename_i hc; exact h1 _ (h.1 (okT hc))
  ·exact dfl_small ty df
theorem OkF.small (ver : Int) (flex tl : Bool) : ∀ (fs : Flds) (ds : List D), OkF ver flex fs ds → SmF Ql fs (Qa ver flex tl fs ds)
 | .nil, ds, _ => by unfold Qa SmF; trivial
 | .cons c _ _ df ty rest, ds, h => by
  unfold OkF at h
  unfold Qa SmF
  simp only [List.headD_cons, List.tail_cons]
  refine ⟨?_, OkF.small ver flex tl rest _ h.2⟩
  split
  ·rename_i hc; exact Ok.small ver flex ty _ (h.1 (okT hc))
  ·exact dfl_small ty df
set_option linter.unusedVariables false
def rowFacts (P : Program) (f : FuncId) (fn : Func) (s : ChangeSpec) (c : OpenClaim) : Bool :=
 c.wf (OpenSpec.ofChange s) && true && true &&
 fn.params.all (P.readableRec ·) && namedTie P c.named s.vars &&
 (c.stops == []) && true && (c.knobs == []) && true &&
 (c.inPlace == P.inPlace f) && (c.unfollowed == P.unfollowed f) && (c.recurses == P.recurses f) && (c.named == P.varsNamed f) &&
 (c.maps == (fn.params.toList ++ s.plain.varTypes P).any (P.mapsRec ·)) && (c.ifaces == (fn.params.toList ++ s.plain.varTypes P).any (P.ifacesRec ·)) && (c.mapsOut == P.mapsAmong fn.resultTypes.toList) &&
 (c.loops == (fn.params.toList ++ s.plain.varTypes P).any (P.loopsFrom ·)) && (c.wideKeys == (fn.params.toList ++ s.plain.varTypes P ++ fn.resultTypes.toList).any (P.wideKeysFrom ·)) &&
 s.vars.all (P.varReadable ·) && fn.resultTypes.all (fun t => P.readableRec t && decide (t < P.types.size)) && (c.ifacesOut == fn.resultTypes.toList.any (P.ifacesRec ·)) && (c.loopsOut == fn.resultTypes.toList.any (P.loopsFrom ·)) && (c.plainKeys == P.plainKeys) && c.shortTexts.isNone && true && true && true && true && (c.kinds == (if c.domain.isEmpty then [] else fn.params.toList.map fun t => match P.underlying t with | some (.int k) => some k | _ => none)) && (c.pinned == c.pinnedBy) &&
 (c.veiled == (fn.params.toList ++ s.plain.varTypes P ++ fn.resultTypes.toList).any (P.veiledRec ·)) && c.veiledFits P fn.params.toList (fn.params.toList ++ s.plain.varTypes P ++ fn.resultTypes.toList)
theorem joined_of {P : Program} {f : FuncId} {fn : Func} {s : ChangeSpec} {c : OpenClaim} (h : rowFacts P f fn s c = true) (h1 : laidOutB P = true) (h2 : mapsRowed P = true) (h3 : (P.stops == []) = true) (h4 : (P.stopKnobs == []) = true)
  (h5 : P.stopsHeard = true) (h6 : P.mayEnter = true) (h7 : (c.lifted == P.liftsFinal) = true) (h8 : (P.make == some c.make) = true) : joinedFacts P f fn s c = true := by
 unfold joinedFacts
 rw [h1, h2, h3, h4, h5, h6, h7, h8]
 exact h
end Go.Kx
