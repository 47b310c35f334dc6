/- AppendTo of a message, as a whole: what it returns. Conditions: the plan fits the program (okTop), what is written is small.
   A truth, sixteen octets; all of kbin's functions that append, as one test of the program (kbOk), and what AppendTo's code rests on (AOK) from it.
   The code of the reference's functions (package spec), in the small form; printed by wip/tools/gen23.py from the dump, with names for the numbers.
   The reference's small functions: numbers, lengths, versions. Conditions: the program's tables.
   The reference's messages and trees (Fd, Tr), how they lie in memory, what is written of them (sPart ..); its small functions. Conditions: the program's tables (SOK).
   The reference's small functions: width, counted, whole, things, version, has, null, Same.
   Functions whose result is a variable, or that have none; the reference's has, null, at. -/
import Derived.Test.YtpaoaobmaimibaaGreatDoorKxD
import Derived.Laws.Tables
namespace Go.Kx
open Go.RowKit
set_option linter.unusedSimpArgs false
set_option linter.unusedVariables false
structure Plan where
  T : Nat
  fl : Option Nat
  tg : Option TgF
  fs : Flds
def Plan.sf (p : Plan) : Option Nat := p.fl.map fun _ => 6
def Plan.x0 (p : Plan) : Nat := match p.fl with | none => 6 | some _ => 7
def Plan.flex (p : Plan) (ver : Int) : Bool := match p.fl with | none => false | some k => decide ((k : Int) ≤ ver)
def headA (I : IA) (p : Plan) (t : Nat) : List MCode × Nat :=
  let h := [MCode.rg [.mv 4 (.c .nslice)], (loadA p.T 0 0 I.tI16 5 t).1, .rg [.mv (t + 4) (.t 5)]]
  match p.fl with
  | none => (h, t + 5)
  | some k => (h ++ [.rg [.mv (t + 5) (.t 5), .bi (t + 6) .geq I.tI16 (.t (t + 5)) (.c (.int .i16 k)), .mv 6 (.t (t + 6))], .rg [.mv (t + 7) (.t 6)]], t + 8)
def bodyA (I : IA) (p : Plan) (L : Nat) : List MCode × Nat × Nat :=
  let h := headA I p L
  let f := genF I 5 p.sf p.T 0 p.fs h.2 p.x0 0
  let g := tagsA I p.sf p.T 0 p.tg f.2.1 f.2.2.1 f.2.2.2
  (f.1 ++ g.1, g.2.1, g.2.2.1)
def topA (I : IA) (p : Plan) (L : Nat) : MCode :=
  let b := bodyA I p L
  rows ((headA I p L).1 ++ (b.1 ++ [.rg [.mv b.2.1 (.t 1), .mv 4 (.t b.2.1)], .rt]))
def okTop (P : Program) (I : IA) (p : Plan) (L N : Nat) : Bool :=
  wfF P I p.sf p.T p.fs && wfT P I p.sf p.T p.tg && fieldAtB P p.T 0 0 && plainTy P I.tI16 && decide ((bodyA I p L).2.2 ≤ L) && decide ((bodyA I p L).2.1 + 1 ≤ N) && decide (7 ≤ L)
def encTop (p : Plan) (ver : Int) (ds : List D) (tags : List (Nat × List UInt8)) : List UInt8 :=
  encF ver (p.flex ver) p.fs ds ++ (if p.tg.isSome && p.flex ver then encTags tags else [])
structure MsgAt (w : World) (F : Nat → Prop) (p : Plan) (a : Addr) (ver : Int) (ds : List D) (tags : List (Nat × List UInt8)) (cs : List Value) : Prop where
  spot : a.spot = none
  blk : F a.block
  at_ : w.rangeAt a.block a.off cs
  v0 : cs[0]? = some (.int .i16 ver)
  flds : RepF w F p.fs cs ds
  tgs : TagsAt w F p.tg cs tags
theorem MsgAt.mono {w w' : World} {F F' : Nat → Prop} {p : Plan} {a : Addr} {ver : Int} {ds : List D} {tags : List (Nat × List UInt8)} {cs : List Value} (h : MsgAt w F p a ver ds tags cs)
    (hF : ∀ b, F b → F' b) (hw : ∀ b, F b → w'.heap[b]? = w.heap[b]?) : MsgAt w' F' p a ver ds tags cs where
  spot := h.spot
  blk := hF _ h.blk
  at_ := fun j u hu => by
    have := h.at_ j u hu
    rwa [← cell_of_heap (w := w) (w' := w') (a := ⟨a.block, a.off + j, none⟩) (hw _ h.blk)] at this
  v0 := h.v0
  flds := RepF.mono hF hw _ h.flds
  tgs := h.tgs.mono hF hw
section
variable {P : Program} {I : IA} {S : List (Nat × List UInt8) → Prop}
theorem rows_append {U B N L : Nat} : ∀ {cs ds : List MCode} {ρ : Nat → Value} {w : World} {x x' : Nat} {out : List UInt8} {a : Act} {bs : List UInt8} {Q : Exit → Act → World → Prop}, ds ≠ [] → WritesL P U B N L cs ρ w x x' out →
    Loc N L ρ a → OwnB U w B (ρ 1) bs → bs.length + out.length ≤ lim →
    (∀ a' w' ρ', Loc N L ρ' a' → Keep L x x' ρ ρ' → OwnB U w' B (ρ' 1) (bs ++ out) → Below B w w' → MW P (rows ds) Q a' w') → MW P (rows (cs ++ ds)) Q a w
  | [], ds, ρ, w, x, x', out, a, bs, Q, hds, h, hl, ho, hlim, hQ => by
    obtain ⟨rfl, rfl⟩ := h
    exact hQ a w ρ hl (Keep.refl _ _ _ _) (by simpa using ho) (Below.refl _ _)
  | c :: cs, ds, ρ, w, x, x', out, a, bs, Q, hds, h, hl, ho, hlim, hQ => by
    have hne : ∃ d ds', cs ++ ds = d :: ds' := by
      cases cs with
      | nil => cases ds with
        | nil => exact absurd rfl hds
        | cons d ds' => exact ⟨d, ds', rfl⟩
      | cons d cs' => exact ⟨d, cs' ++ ds, rfl⟩
    obtain ⟨d, ds', hd⟩ := hne
    have hrow : rows (c :: cs ++ ds) = .sq c (rows (cs ++ ds)) := by
      rw [List.cons_append, hd]; rfl
    rw [hrow]
    rcases h with ⟨o1, o2, y, rfl, h1, h2, h3, h4⟩ | ⟨v, h1, h2, h3, h4⟩
    · simp only [List.length_append] at hlim
      refine MW.sq (h3 a bs _ hl ho (by omega) ?_)
      intro a' w' ρ' g1 g2 g3 g4
      refine rows_append hds (h4 ρ' w' g2 g4) g1 g3 (by simp only [List.length_append]; omega) ?_
      intro a'' w'' ρ'' k1 k2 k3 k4
      exact hQ a'' w'' ρ'' k1 (g2.trans k2 h1 h2) (by simpa using k3) (g4.trans k4)
    · refine MW.sq (h3 a _ hl ?_)
      intro a1 hl1
      refine rows_append hds h4 hl1 (by rw [upd_ne _ _ (Ne.symm h1)]; exact ho) hlim ?_
      intro a' w' ρ' g1 g2 g3 g4
      exact hQ a' w' ρ' g1 (fun s hs h0 h5 => by rw [g2 s hs h0 (by omega), upd_ne _ _ (by omega)]) g3 g4
theorem topA_calls {f : Nat} {fn : Func} {c : Code} {p : Plan} {L N : Nat} (ok : AOK P I S) (hf : P.funcs[f]? = some fn) (hb : fn.body = some c) (hfit : fits (topA I p L) c = true)
    (hres : fn.results = #[.tmp 4]) (hN : fn.ntmps = N) (hok : okTop P I p L N = true)
    {w : World} {B : Nat} {a : Addr} {ver : Int} {ds : List D} {tags : List (Nat × List UInt8)} {cs : List Value} {sv : Value} {bs : List UInt8}
    (hB : B ≤ w.heap.size) (hm : MsgAt w (· < B) p a ver ds tags cs) (hs1 : SmF S p.fs ds) (hs2 : S tags) (ho : OwnB I.tU8 w B sv bs) (hlim : bs.length + (encTop p ver ds tags).length ≤ lim) :
    Calls P f #[.pointer (some a), sv] w (fun e w' => ∃ sv', e = .returned sv' ∧ OwnB I.tU8 w' B sv' (bs ++ encTop p ver ds tags) ∧ Below B w w') := by
  obtain ⟨ab, ao, asp⟩ := a
  have hsp := hm.spot
  dsimp only at hsp
  subst hsp
  simp only [okTop, Bool.and_eq_true, decide_eq_true_eq] at hok
  obtain ⟨⟨⟨⟨⟨⟨w1, w2⟩, w3⟩, w4⟩, w5⟩, w6⟩, w7⟩ := hok
  refine calls_of_wp hf hb (?_ : Code.wp P c _ _ w)
  refine (?_ : MW P (topA I p L) _ _ w) c hfit
  generalize ha0 : ({ tmps := #[.pointer (some ⟨ab, ao, none⟩), sv] ++ Array.replicate (fn.ntmps - #[(.pointer (some ⟨ab, ao, none⟩) : Value), sv].size) undef, defers := [] } : Act) = a0
  have hLb : (headA I p L).2 ≤ L + 8 := by unfold headA; cases p.fl <;> simp
  have hLh : L + 5 ≤ (headA I p L).2 := by unfold headA; cases p.fl <;> simp
  have hgl := @genF_le I 5 p.sf p.T 0 p.fs (headA I p L).2 p.x0 0
  have hgt := @tagsA_le I p.sf p.T 0 p.tg (genF I 5 p.sf p.T 0 p.fs (headA I p L).2 p.x0 0).2.1 (genF I 5 p.sf p.T 0 p.fs (headA I p L).2 p.x0 0).2.2.1 (genF I 5 p.sf p.T 0 p.fs (headA I p L).2 p.x0 0).2.2.2
  have hbt : (bodyA I p L).2.1 = (tagsA I p.sf p.T 0 p.tg (genF I 5 p.sf p.T 0 p.fs (headA I p L).2 p.x0 0).2.1 (genF I 5 p.sf p.T 0 p.fs (headA I p L).2 p.x0 0).2.2.1 (genF I 5 p.sf p.T 0 p.fs (headA I p L).2 p.x0 0).2.2.2).2.1 := rfl
  have hbx : (bodyA I p L).2.2 = (tagsA I p.sf p.T 0 p.tg (genF I 5 p.sf p.T 0 p.fs (headA I p L).2 p.x0 0).2.1 (genF I 5 p.sf p.T 0 p.fs (headA I p L).2 p.x0 0).2.2.1 (genF I 5 p.sf p.T 0 p.fs (headA I p L).2 p.x0 0).2.2.2).2.2.1 := rfl
  rw [hbt] at w6
  rw [hbx] at w5
  have hsz0 : a0.tmps.size = N := by rw [← ha0]; simp; omega
  have hd0 : a0.defers = [] := by rw [← ha0]
  have hr0 : rd a0 0 = .pointer (some ⟨ab, ao, none⟩) := by rw [← ha0]; simp [rd, Array.getElem?_append]
  have hr1 : rd a0 1 = sv := by rw [← ha0]; simp [rd, Array.getElem?_append]
  have hl0 : Loc N L (rd a0) a0 := ⟨hsz0, hd0, fun _ _ => rfl⟩
  have hload : (Instr.loadAt I.tI16 (.pointer (some ⟨ab, ao + 0, none⟩))).run P w = .ok (.int .i16 ver) w := run_loadAt_one w4 (by have := hm.at_ 0 _ hm.v0; simpa using this)
  have finish : ∀ (ρ : Nat → Value) (a1 : Act), Loc N L ρ a1 → ρ 0 = .pointer (some ⟨ab, ao, none⟩) → ρ 1 = sv → Ctx 5 p.sf ver (p.flex ver) p.x0 ρ →
      MW P (rows ((bodyA I p L).1 ++ [.rg [.mv (bodyA I p L).2.1 (.t 1), .mv 4 (.t (bodyA I p L).2.1)], .rt])) (bodyPost P fn (fun e w' => ∃ sv', e = .returned sv' ∧ OwnB I.tU8 w' B sv' (bs ++ encTop p ver ds tags) ∧ Below B w w')) a1 w := by
    intro ρ a1 hl1 h0 h1 hctx
    have hx0 : 6 ≤ p.x0 := by unfold Plan.x0; split <;> omega
    have hwl : WritesL P I.tU8 B N L (bodyA I p L).1 ρ w p.x0 (tagsA I p.sf p.T 0 p.tg (genF I 5 p.sf p.T 0 p.fs (headA I p L).2 p.x0 0).2.1 (genF I 5 p.sf p.T 0 p.fs (headA I p L).2 p.x0 0).2.2.1 (genF I 5 p.sf p.T 0 p.fs (headA I p L).2 p.x0 0).2.2.2).2.2.1 (encTop p ver ds tags) := by
      refine WritesL.append (y := (genF I 5 p.sf p.T 0 p.fs (headA I p L).2 p.x0 0).2.2.1) (genF_ok ok p.fs w1 hctx (by omega) (by omega) (Nat.le_trans hgt.2 w5) (by omega) (by omega) h0 hm.blk hB hm.at_ hm.flds hs1) hgt.2 ?_
      intro ρ' w' hk hbl
      exact tags_of ok (hctx.keep hk (by omega) hgl.2) w5 (by omega) (by omega) (by omega) (by omega) (by rw [hk _ (by omega) (by omega) (.inl (by omega))]; exact h0) hm.blk (Nat.le_trans hB hbl.size) w2
        (fun j u hu => by rw [cell_of_heap (hbl.block ab hm.blk)]; exact hm.at_ j u hu)
        (hm.tgs.mono (fun _ h => h) (fun b h => hbl.block b h)) hs2
    refine rows_append (by simp) hwl hl1 (by rw [h1]; exact ho) hlim ?_
    intro a' w' ρ' g1 g2 g3 g4
    have hsz' := g1.size
    rw [hbt]
    refine MW.sq (MW.rg (ML.mv (ML.mv (ML.nil ?_))))
    simp (disch := (first | omega | (simp only [size_wr]; omega))) only [rd_same, rd_ne, MX.of]
    refine MW.rt ?_
    refine bodyPost_ret (v := ρ' 1) ?_ (by simpa using g1.defers) ⟨_, rfl, g3, g4⟩
    rw [results_tmp hres]
    congr 1
    show rd _ 4 = _
    rw [rd_same (by simp only [size_wr]; omega), g1.get 1 (by omega)]
  have hx0 : 6 ≤ p.x0 := by unfold Plan.x0; split <;> omega
  have hl1 : Loc N L (upd (rd a0) 4 (.slice none 0 0)) (wr a0 4 (.slice none 0 0)) := Loc.set hl0 _ (by omega)
  unfold topA headA
  generalize hb1 : bodyA I p L = bb at finish ⊢
  cases hfl : p.fl with
  | none =>
    simp only []
    refine MW.sq (MW.rg (ML.mv (ML.nil ?_)))
    refine MW.sq (Sets.loadA (ρ := upd (rd a0) 4 (.slice none 0 0)) (b := ab) (o := ao) (off := 0) (v := .int .i16 ver) ?_ (by omega) (by omega) (Nat.le_refl _) (by omega) w3 hload _ _ hl1 ?_)
    · rw [upd_ne _ _ (by omega)]; exact hr0
    intro a2 hl2
    obtain ⟨c0, cs0, hne⟩ : ∃ c0 cs0, bb.1 ++ [.rg [.mv bb.2.1 (.t 1), .mv 4 (.t bb.2.1)], .rt] = c0 :: cs0 := by
      cases bb.1 with
      | nil => exact ⟨_, _, rfl⟩
      | cons c0 cs0 => exact ⟨_, _, rfl⟩
    show MW P (rows (_ :: (bb.1 ++ _))) _ a2 w
    rw [hne] at finish ⊢
    refine MW.sq (MW.rg (ML.mv (ML.nil ?_)))
    refine finish _ _ (hl2.tmp _ (by omega) (by omega)) ?_ ?_ ?_
    · rw [upd_ne _ _ (by omega), upd_ne _ _ (by omega)]; exact hr0
    · rw [upd_ne _ _ (by omega), upd_ne _ _ (by omega)]; exact hr1
    · refine ⟨by omega, by omega, by omega, upd_same _ _ _, ?_, ?_⟩
      · intro s hs; simp [Plan.sf, hfl] at hs
      · intro _; simp [Plan.flex, hfl]
  | some k =>
    simp only []
    refine MW.sq (MW.rg (ML.mv (ML.nil ?_)))
    refine MW.sq (Sets.loadA (ρ := upd (rd a0) 4 (.slice none 0 0)) (b := ab) (o := ao) (off := 0) (v := .int .i16 ver) ?_ (by omega) (by omega) (Nat.le_refl _) (by omega) w3 hload _ _ hl1 ?_)
    · rw [upd_ne _ _ (by omega)]; exact hr0
    intro a2 hl2
    have hh8 : (headA I p L).2 = L + 8 := by unfold headA; rw [hfl]
    have hsz2 := hl2.size
    have hv2 : rd a2 5 = .int .i16 ver := by rw [hl2.get 5 (by omega), upd_same]
    refine MW.sq (MW.rg (ML.mv (ML.nil ?_)))
    have hl3 := hl2.tmp ((MX.t 5).of a2) (show L ≤ L + 4 by omega) (by omega)
    refine MW.sq (MW.rg (ML.mv (ML.biInt (k := .i16) (m := ver) (n := k) (v := .bool (decide ((k : Int) ≤ ver))) ?_ rfl (run_cmp_geq _ _ _ _) (ML.mv (ML.nil ?_)))))
    · simp (disch := (first | omega | (simp only [size_wr]; omega))) only [rd_same, rd_ne, MX.of]
      exact hv2
    simp (disch := (first | omega | (simp only [size_wr]; omega))) only [rd_same, rd_ne, MX.of]
    obtain ⟨c0, cs0, hne⟩ : ∃ c0 cs0, bb.1 ++ [.rg [.mv bb.2.1 (.t 1), .mv 4 (.t bb.2.1)], .rt] = c0 :: cs0 := by
      cases bb.1 with
      | nil => exact ⟨_, _, rfl⟩
      | cons c0 cs0 => exact ⟨_, _, rfl⟩
    show MW P (rows (_ :: (bb.1 ++ _))) _ _ w
    rw [hne] at finish ⊢
    refine MW.sq (MW.rg (ML.mv (ML.nil ?_)))
    have hl4 : Loc N L (upd (upd (upd (rd a0) 4 (.slice none 0 0)) 5 (.int .i16 ver)) 6 (.bool (decide ((k : Int) ≤ ver)))) (wr (wr (wr (wr a2 (L + 4) (rd a2 5)) (L + 5) (rd a2 5)) (L + 6) (.bool (decide ((k : Int) ≤ ver)))) 6 (.bool (decide ((k : Int) ≤ ver)))) :=
      Loc.set (((hl2.tmp _ (by omega) (by omega)).tmp _ (by omega) (by omega)).tmp _ (by omega) (by omega)) _ (by omega)
    refine finish _ _ (hl4.tmp _ (by omega) (by omega)) ?_ ?_ ?_
    · rw [upd_ne _ _ (by omega), upd_ne _ _ (by omega), upd_ne _ _ (by omega)]; exact hr0
    · rw [upd_ne _ _ (by omega), upd_ne _ _ (by omega), upd_ne _ _ (by omega)]; exact hr1
    · refine ⟨by omega, by omega, by omega, ?_, ?_, ?_⟩
      · rw [upd_ne _ _ (by omega), upd_same]
      · intro s hs
        simp only [Plan.sf, hfl, Option.map_some, Option.some.injEq] at hs
        subst hs
        refine ⟨by omega, ?_, ?_⟩
        · simp [Plan.x0, hfl]
        · rw [upd_same]; simp [Plan.flex, hfl]
      · intro hn; simp [Plan.sf, hfl] at hn
end
section
variable {P : Program} {N : Nat} {Q : Exit → (Nat → Value) → World → Prop} {ρ : Nat → Value} {w : World} {ms : List MOp} {T : IT}
theorem RL.bsl8 {d T U : Nat} {xs : List MX} {bs : List UInt8} (hT : sliceOf P T U = true) (hU : u8Ty P U = true) (hx : xs.map (xof ρ) = bs.map byteV) (hn : xs.length ≤ 16)
    (h : RL P N ms Q (upd ρ d (.slice (some ⟨w.heap.size, 0, none⟩) bs.length bs.length)) (w.alloc (.cells (bs.map byteV).toArray U))) (hxN : ∀ x ∈ xs, MX.lt N x = true := by simp [MX.lt, Nat.blt_eq]) (hd : d < N := by decide) : RL P N (.bsl d T xs :: ms) Q ρ w := by
  intro a ha
  refine ML.bsl hT hU ?_ hn (h _ (ha.put hd))
  rw [← hx]
  exact List.map_congr_left fun x hxm => MX.of_loc ha (by rintro s rfl; simpa [MX.lt, Nat.blt_eq] using hxN _ hxm)
theorem RL.bslAp {d1 d T U x B : Nat} {xs : List MX} {bs l : List UInt8} {sv : Value} (hT : sliceOf P T U = true) (hU : u8Ty P U = true) (hx : xs.map (xof ρ) = l.map byteV) (hn : xs.length ≤ 16) (hs : ρ x = sv) (hxd : x ≠ d1) (ho : OwnB U w B sv bs) (hB : B ≤ w.heap.size) (hlim : bs.length + l.length ≤ lim)
    (h : ∀ ρ1 sv' w', ρ1 = upd ρ d1 (.slice (some ⟨w.heap.size, 0, none⟩) l.length l.length) → OwnB U w' B sv' (bs ++ l) → Below B w w' → RL P N ms Q (upd ρ1 d sv') w')
    (hxN : ∀ x ∈ xs, MX.lt N x = true := by simp [MX.lt, Nat.blt_eq]) (hd1 : d1 < N := by decide) (hd : d < N := by decide) (hxN' : x < N := by decide) : RL P N (.bsl d1 T xs :: .ap d T T x d1 :: ms) Q ρ w := by
  refine RL.bsl8 hT hU hx hn ?_ hxN hd1
  refine RL.apOwn (bs := bs) (l := l) (sv := sv) (B := B) hT hU (by rw [upd_ne _ _ hxd]; exact hs) (ho.alloc _) (upd_same _ _ _) rfl (BytesAt.new l) (by simp; omega) hlim ?_ hxN' hd1 hd
  intro sv' w' h1 h2
  exact h _ sv' w' rfl h1 (((Below.refl B w).alloc hB _).trans h2)
def codeBool (T : IT) : MCode := rows [.rg [.mv 4 (.c .nslice)], .sq (.rg [.mv 5 (.t 1)]) (.cd 5 (.sq (.rg [.mv 6 (.t 0), .bsl 7 T.u8s [.c (.int .u8 1)], .ap 8 T.u8s T.u8s 6 7, .mv 4 (.t 8)]) .rt) .sk),
  .rg [.mv 9 (.t 0), .bsl 10 T.u8s [.c (.int .u8 0)], .ap 11 T.u8s T.u8s 9 10, .mv 4 (.t 11)], .rt]
def BoolC (P : Program) (U f : Nat) : Prop := ApC P U f (fun _ _ x out => ∃ b : Bool, x = .bool b ∧ out = [if b then 1 else 0])
theorem appBool {f : Nat} (tk : TOK P T) (hf : FnIs P f (codeBool T) 12 4) : BoolC P T.u8 f := by
  refine ⟨hf.ent, ?_⟩
  rintro w B sv x bs out hB ho ⟨b, rfl, rfl⟩ hlim
  refine hf.runs (args := [sv, .bool b]) (by simp) (by omega) ?_
  refine RW.sq (RW.rg (RL.step MR.mv (RL.nil (RW.sq (RW.sq (RW.rg (RL.step MR.mv (RL.nil (RW.cd (b := b) rfl (fun e => ?_) (fun e => RW.sk ?_))))))))))
  · subst e
    refine RW.sq (RW.rg (RL.step MR.mv (RL.bslAp (l := [1]) (sv := sv) (bs := bs) tk.u8s tk.u8 rfl (by simp) rfl (by omega) ho hB hlim ?_)))
    rintro ρ1 sv1 w1 - o1 b1
    exact RL.step MR.mv (RL.nil (RW.rt (ret_ap (sv := sv1) rfl o1 b1)))
  · subst e
    refine RW.sq (RW.rg (RL.step MR.mv (RL.bslAp (l := [0]) (sv := sv) (bs := bs) tk.u8s tk.u8 rfl (by simp) rfl (by omega) ho hB hlim ?_)))
    rintro ρ1 sv1 w1 - o1 b1
    exact RL.step MR.mv (RL.nil (RW.rt (ret_ap (sv := sv1) rfl o1 b1)))
theorem MR.slArr {d T x n e : Nat} {p : Addr} (hT : arrOf P T n e = true) (hU : (P.info? e).isSome = true) (hn : n ≠ 0) (hx : ρ x = .pointer (some p)) (hxN : x < N := by decide) : MR P N (.sl d T x none none none) ρ w d (.slice (some (p.add 0)) n n) w := by
  refine MR.sl ?_ (hs := hxN)
  obtain ⟨i, hi⟩ := Option.isSome_iff_exists.1 hU
  simp only [Instr.sliceAt, Sem.run_bind, run_underlying (arrOf_eq hT), Result.andThen_ok, hx, Instr.sureAddr, Sem.run_pure, Instr.sliceBounds, Option.map_none, sizeOf, typeInfo, run_program, hi, Nat.sub_zero]
  simp [hn]
def codeUuid (T : IT) (A : Nat) : MCode := rows [.rg [.bx 3 A 1, .mv 4 (.c .nslice)], .rg [.mv 5 (.t 0), .sl 6 A 3 none none none, .ap 7 T.u8s T.u8s 5 6, .mv 4 (.t 7)], .rt]
def UuidC (P : Program) (U f : Nat) : Prop := ApC P U f (fun _ _ x out => out.length = 16 ∧ x = .agg (out.map byteV).toArray)
theorem appUuid {f A : Nat} (tk : TOK P T) (hA : arrOf P A 16 T.u8 = true) (hf : FnIs P f (codeUuid T A) 8 4) : UuidC P T.u8 f := by
  refine ⟨hf.ent, ?_⟩
  rintro w B sv x bs l hB ho ⟨hn, rfl⟩ hlim
  obtain ⟨i, hi, _⟩ := u8Ty_info tk.u8
  refine hf.runs (args := [sv, .agg (l.map byteV).toArray]) (by simp) (by omega) ?_
  refine RW.sq (RW.rg (RL.step MR.bx (RL.step MR.mv (RL.nil (RW.sq (RW.rg (RL.step MR.mv (RL.step (MR.slArr (p := ⟨w.heap.size, 0, none⟩) hA (by rw [hi]; rfl) (by omega) rfl) ?_))))))))
  have hb : BytesAt (w.alloc (.cells (l.map byteV).toArray A)) (fun _ => True) (some (Addr.add ⟨w.heap.size, 0, none⟩ 0)) l := by
    rw [Addr.add_mid]
    intro j b hj
    refine ⟨w.heap.size, 0, rfl, trivial, ?_⟩
    rw [Nat.zero_add, World.cell?_alloc_new]
    simp [hj]
  refine RL.apOwn (sv := sv) (bs := bs) (l := l) (B := B) (m := 16) (c := 16) tk.u8s tk.u8 rfl (ho.alloc _) rfl hn.symm hb (by simp; omega) hlim ?_
  intro sv1 w1 o1 b1
  exact RL.step MR.mv (RL.nil (RW.rt (ret_ap (sv := sv1) rfl o1 (((Below.refl B w).alloc hB _).trans b1))))
/-! ### The test of the program -/
def resIs (r : Nat) (l : List ResultVar) : Bool :=
  match l with
  | [.tmp r'] => Nat.beq r r'
  | _ => false
def isFn (P : Program) (f : Nat) (m : MCode) (N r : Nat) : Bool :=
  entersB P f && (match P.funcs[f]? with
    | some fn => Nat.beq fn.ntmps N && resIs r fn.results.toList && (match fn.body with | some c => fits m c | none => false)
    | none => false)
theorem FnIs.of {f N r : Nat} {m : MCode} (h : isFn P f m N r = true) : FnIs P f m N r := by
  simp only [isFn, Bool.and_eq_true] at h
  obtain ⟨h1, h2⟩ := h
  refine ⟨?_, h1⟩
  cases hf : P.funcs[f]? with
  | none => simp [hf] at h2
  | some fn =>
    simp only [hf, Bool.and_eq_true, Nat.beq_eq] at h2
    obtain ⟨⟨g1, g2⟩, g3⟩ := h2
    cases hb : fn.body with
    | none => simp [hb] at g3
    | some c =>
      simp only [hb] at g3
      refine ⟨fn, c, rfl, hb, g3, g1, ?_⟩
      apply Array.toList_inj.1
      generalize fn.results.toList = l at g2
      match l, g2 with
      | [.tmp r'], g2 => simp only [resIs, Nat.beq_eq] at g2; rw [g2]
structure KB where
  T : IT
  tP : Nat
  tA : Nat
  i8 : Nat
  u16 : Nat
  i16 : Nat
  u32 : Nat
  i32 : Nat
  u64 : Nat
  i64 : Nat
  bool : Nat
  uuid : Nat
  l32 : Nat
  uvl : Nat
  uv : Nat
  str : Nat
  cstr : Nat
  nstr : Nat
  cnstr : Nat
  byt : Nat
  cbyt : Nat
  nbyt : Nat
  cnbyt : Nat
  alen : Nat
  calen : Nat
  nalen : Nat
  cnalen : Nat
  f64 : Nat := 0
  ffb : Nat := 0
def orNo (f : Nat) (b : Bool) : Bool := if Nat.beq f 0 then true else b
def yes (f : Nat) : Bool := !(Nat.beq f 0)
theorem orNo_of {f : Nat} {b : Bool} (h : orNo f b = true) (hf : f ≠ 0) : b = true := by
  unfold orNo at h
  rw [if_neg (by simpa using hf)] at h
  exact h
def tokB (P : Program) (T : IT) : Bool :=
  u8Ty P T.u8 && intTy P T.u8 .u8 && sliceOf P T.u8s T.u8 && orNo T.i8 (intTy P T.i8 .i8) && orNo T.i16 (intTy P T.i16 .i16) && orNo T.u16 (intTy P T.u16 .u16) && orNo T.i32 (intTy P T.i32 .i32) &&
  orNo T.u32 (intTy P T.u32 .u32) && orNo T.i64 (intTy P T.i64 .i64) && orNo T.u64 (intTy P T.u64 .u64) && intTy P T.int .i64 && orNo T.str (strTy P T.str)
theorem tok_of (h : tokB P T = true) : TOK P T := by
  simp only [tokB, Bool.and_eq_true] at h
  obtain ⟨⟨⟨⟨⟨⟨⟨⟨⟨⟨⟨h1, h2⟩, h3⟩, h4⟩, h5⟩, h6⟩, h7⟩, h8⟩, h9⟩, h10⟩, h11⟩, h12⟩ := h
  exact ⟨h1, h2, h3, orNo_of h4, orNo_of h5, orNo_of h6, orNo_of h7, orNo_of h8, orNo_of h9, orNo_of h10, h11, orNo_of h12⟩
def kbOk (P : Program) (K : KB) : List Bool := [
  tokB P K.T,
  orNo K.i8 (isFn P K.i8 (code8 K.T) 10 4 && yes K.T.i8),
  orNo K.u16 (isFn P K.u16 (code16 K.T) 13 4 && yes K.T.u16),
  orNo K.i16 (isFn P K.i16 (codeConv 4 K.T.i16 K.T.u16 K.u16) 9 4 && yes K.T.i16 && yes K.u16 && yes K.T.u16),
  orNo K.u32 (isFn P K.u32 (code32 K.T) 19 4 && yes K.T.u32),
  orNo K.i32 (isFn P K.i32 (codeConv 4 K.T.i32 K.T.u32 K.u32) 9 4 && yes K.T.i32 && yes K.u32 && yes K.T.u32),
  orNo K.u64 (isFn P K.u64 (code64 K.T) 31 4 && yes K.T.u64),
  orNo K.i64 (isFn P K.i64 (codeConv 4 K.T.i64 K.T.u64 K.u64) 9 4 && yes K.T.i64 && yes K.u64 && yes K.T.u64),
  orNo K.bool (isFn P K.bool (codeBool K.T) 12 4),
  orNo K.uuid (isFn P K.uuid (codeUuid K.T K.tA) 8 4 && arrOf P K.tA 16 K.T.u8),
  orNo K.uv (isFn P K.l32 (codeLen32 K.T) 19 2 && isFn P K.uvl (codeUvLen K.T K.l32) 8 2 && isFn P K.uv (codeUv K.T K.uvl) 93 4 && yes K.T.u32 && yes K.T.str),
  orNo K.str (isFn P K.str (codeStr K.T K.T.str K.T.i16 K.i16) 13 4 && yes K.T.str && yes K.T.i16 && yes K.i16),
  orNo K.cstr (isFn P K.cstr (codeCStr K.T K.T.str K.uv) 14 4 && yes K.T.str && yes K.T.u32 && yes K.uv),
  orNo K.nstr (isFn P K.nstr (codeNStr K.T K.tP K.i16 K.str .i16 (-1)) 14 4 && ptrOf P K.tP K.T.str && plainTy P K.T.str && yes K.T.str && yes K.i16 && yes K.str),
  orNo K.cnstr (isFn P K.cnstr (codeNStr K.T K.tP K.uv K.cstr .u32 0) 14 4 && ptrOf P K.tP K.T.str && plainTy P K.T.str && yes K.T.str && yes K.uv && yes K.cstr),
  orNo K.byt (isFn P K.byt (codeStr K.T K.T.u8s K.T.i32 K.i32) 13 4 && yes K.T.i32 && yes K.i32),
  orNo K.cbyt (isFn P K.cbyt (codeCStr K.T K.T.u8s K.uv) 14 4 && yes K.T.u32 && yes K.uv),
  orNo K.nbyt (isFn P K.nbyt (codeNByt K.T K.i32 K.byt .i32 (-1)) 12 4 && yes K.i32 && yes K.byt),
  orNo K.cnbyt (isFn P K.cnbyt (codeNByt K.T K.uv K.cbyt .u32 0) 12 4 && yes K.uv && yes K.cbyt),
  orNo K.alen (isFn P K.alen (codeConv 4 K.T.int K.T.i32 K.i32) 9 4 && yes K.T.i32 && yes K.i32),
  orNo K.calen (isFn P K.calen (codeCLen K.T K.uv) 10 4 && yes K.T.u32 && yes K.uv),
  orNo K.nalen (isFn P K.nalen (codeNLen K.T K.i32) 14 6 && yes K.T.i32 && yes K.i32),
  orNo K.cnalen (isFn P K.cnalen (codeCNLen K.T K.uv) 15 6 && yes K.T.u32 && yes K.uv)]
def F64W (P : Program) (K : KB) : Prop := K.f64 ≠ 0 → ApC P K.T.u8 K.f64 (fun _ _ x out => ∃ n : Nat, n < 18446744073709551616 ∧ x = .float .f64 n ∧ out = be n 8)
theorem f64w_none {P : Program} {K : KB} (h : K.f64 = 0) : F64W P K := fun e => absurd h e
structure KOK (P : Program) (K : KB) : Prop where
  tk : TOK P K.T
  i8 : K.i8 ≠ 0 → ApG P K.T.u8 K.i8 (fun _ _ x out => ∃ n : Int, x = .int .i8 n ∧ out = fix n 1)
  u16 : K.u16 ≠ 0 → ApG P K.T.u8 K.u16 (fun _ _ x out => ∃ n : Nat, n < 65536 ∧ x = .int .u16 n ∧ out = be n 2)
  i16 : K.i16 ≠ 0 → ApG P K.T.u8 K.i16 (fun _ _ x out => ∃ n : Int, x = .int .i16 n ∧ out = fix n 2)
  i32 : K.i32 ≠ 0 → ApG P K.T.u8 K.i32 (fun _ _ x out => ∃ n : Int, x = .int .i32 n ∧ out = fix n 4)
  i64 : K.i64 ≠ 0 → ApG P K.T.u8 K.i64 (fun _ _ x out => ∃ n : Int, x = .int .i64 n ∧ out = fix n 8)
  bool : K.bool ≠ 0 → BoolC P K.T.u8 K.bool
  uuid : K.uuid ≠ 0 → UuidC P K.T.u8 K.uuid
  uv : K.uv ≠ 0 → UvarC P K.T.u8 K.uv
  str : K.str ≠ 0 → StrC P K.T.u8 K.str false
  cstr : K.cstr ≠ 0 → StrC P K.T.u8 K.cstr true
  nstr : K.nstr ≠ 0 → NStrC P K.T.u8 K.nstr false
  cnstr : K.cnstr ≠ 0 → NStrC P K.T.u8 K.cnstr true
  byt : K.byt ≠ 0 → BytC P K.T.u8 K.byt false
  cbyt : K.cbyt ≠ 0 → BytC P K.T.u8 K.cbyt true
  nbyt : K.nbyt ≠ 0 → NBytC P K.T.u8 K.nbyt false
  cnbyt : K.cnbyt ≠ 0 → NBytC P K.T.u8 K.cnbyt true
  alen : K.alen ≠ 0 → LenC P K.T.u8 K.alen (fun n => fix n 4)
  calen : K.calen ≠ 0 → LenC P K.T.u8 K.calen (fun n => Kx.uv (n + 1))
  nalen : K.nalen ≠ 0 → NLenC P K.T.u8 K.nalen false
  cnalen : K.cnalen ≠ 0 → NLenC P K.T.u8 K.cnalen true
  uvg : K.uv ≠ 0 → UvarG P K.T.u8 K.uv
  f64 : F64W P K
theorem yes_of {f : Nat} (h : yes f = true) : f ≠ 0 := ne0 h
theorem kok_of {K : KB} (h : (kbOk P K).all id = true) (hfl : F64W P K) : KOK P K := by
  simp only [kbOk, List.all_cons, List.all_nil, id_eq, Bool.and_true, Bool.and_eq_true] at h
  obtain ⟨ht, h8, hu16, hi16, hu32, hi32, hu64, hi64, hbool, huuid, huv, hstr, hcstr, hnstr, hcnstr, hbyt, hcbyt, hnbyt, hcnbyt, halen, hcalen, hnalen, hcnalen⟩ := h
  have tk := tok_of ht
  have U16 : K.u16 ≠ 0 → ApG P K.T.u8 K.u16 (fun _ _ x out => ∃ n : Nat, n < 65536 ∧ x = .int .u16 n ∧ out = be n 2) := fun e => by
    have := orNo_of hu16 e; simp only [Bool.and_eq_true] at this; exact appU16 tk (yes_of this.2) (FnIs.of this.1)
  have U32 : K.u32 ≠ 0 → ApG P K.T.u8 K.u32 (fun _ _ x out => ∃ n : Nat, n < 4294967296 ∧ x = .int .u32 n ∧ out = be n 4) := fun e => by
    have := orNo_of hu32 e; simp only [Bool.and_eq_true] at this; exact appU32 tk (yes_of this.2) (FnIs.of this.1)
  have U64 : K.u64 ≠ 0 → ApG P K.T.u8 K.u64 (fun _ _ x out => ∃ n : Nat, n < 18446744073709551616 ∧ x = .int .u64 n ∧ out = be n 8) := fun e => by
    have := orNo_of hu64 e; simp only [Bool.and_eq_true] at this; exact appU64 tk (yes_of this.2) (FnIs.of this.1)
  have I16G : K.i16 ≠ 0 → ApG P K.T.u8 K.i16 (fun _ _ x out => ∃ n : Int, x = .int .i16 n ∧ out = fix n 2) := fun e => by
    have := orNo_of hi16 e; simp only [Bool.and_eq_true] at this; exact appI16 tk (yes_of this.1.1.2) (yes_of this.2) (FnIs.of this.1.1.1) (U16 (yes_of this.1.2))
  have I32G : K.i32 ≠ 0 → ApG P K.T.u8 K.i32 (fun _ _ x out => ∃ n : Int, x = .int .i32 n ∧ out = fix n 4) := fun e => by
    have := orNo_of hi32 e; simp only [Bool.and_eq_true] at this; exact appI32 tk (yes_of this.1.1.2) (yes_of this.2) (FnIs.of this.1.1.1) (U32 (yes_of this.1.2))
  have I16 : K.i16 ≠ 0 → I16C P K.T.u8 K.i16 := fun e => (I16G e).c
  have I32 : K.i32 ≠ 0 → I32C P K.T.u8 K.i32 := fun e => (I32G e).c
  have UVG : K.uv ≠ 0 → UvarG P K.T.u8 K.uv := fun e => by
    have := orNo_of huv e; simp only [Bool.and_eq_true] at this
    obtain ⟨⟨⟨⟨g1, g2⟩, g3⟩, g4⟩, g5⟩ := this
    exact appUvG tk (yes_of g4) (FnIs.of g3) (uvLen_num tk (yes_of g5) (FnIs.of g2) (len32_num tk (yes_of g4) (yes_of g5) (FnIs.of g1)))
  have UV : K.uv ≠ 0 → UvarC P K.T.u8 K.uv := fun e => (UVG e).c
  have STR : K.str ≠ 0 → StrC P K.T.u8 K.str false := fun e => by
    have := orNo_of hstr e; simp only [Bool.and_eq_true] at this
    exact appStr tk (yes_of this.1.1.2) (yes_of this.1.2) (FnIs.of this.1.1.1) (I16 (yes_of this.2))
  have CSTR : K.cstr ≠ 0 → StrC P K.T.u8 K.cstr true := fun e => by
    have := orNo_of hcstr e; simp only [Bool.and_eq_true] at this
    exact appCStr tk (yes_of this.1.1.2) (yes_of this.1.2) (FnIs.of this.1.1.1) (UV (yes_of this.2))
  have BYT : K.byt ≠ 0 → BytC P K.T.u8 K.byt false := fun e => by
    have := orNo_of hbyt e; simp only [Bool.and_eq_true] at this
    exact appByt tk (yes_of this.1.2) (FnIs.of this.1.1) (I32 (yes_of this.2))
  have CBYT : K.cbyt ≠ 0 → BytC P K.T.u8 K.cbyt true := fun e => by
    have := orNo_of hcbyt e; simp only [Bool.and_eq_true] at this
    exact appCByt tk (yes_of this.1.2) (FnIs.of this.1.1) (UV (yes_of this.2))
  refine ⟨tk, ?_, U16, I16G, I32G, ?_, ?_, ?_, UV, STR, CSTR, ?_, ?_, BYT, CBYT, ?_, ?_, ?_, ?_, ?_, ?_, UVG, hfl⟩
  · intro e; have := orNo_of h8 e; simp only [Bool.and_eq_true] at this; exact app8 tk (yes_of this.2) (FnIs.of this.1)
  · intro e; have := orNo_of hi64 e; simp only [Bool.and_eq_true] at this; exact appI64 tk (yes_of this.1.1.2) (yes_of this.2) (FnIs.of this.1.1.1) (U64 (yes_of this.1.2))
  · intro e; have := orNo_of hbool e; exact appBool tk (FnIs.of this)
  · intro e; have := orNo_of huuid e; simp only [Bool.and_eq_true] at this; exact appUuid tk this.2 (FnIs.of this.1)
  · intro e; have := orNo_of hnstr e; simp only [Bool.and_eq_true] at this
    obtain ⟨⟨⟨⟨⟨g1, g2⟩, g3⟩, g4⟩, g5⟩, g6⟩ := this
    exact appNStr tk (yes_of g4) g2 g3 (FnIs.of g1) (I16 (yes_of g5)) (fun w B => ⟨-1, rfl, rfl⟩) (STR (yes_of g6))
  · intro e; have := orNo_of hcnstr e; simp only [Bool.and_eq_true] at this
    obtain ⟨⟨⟨⟨⟨g1, g2⟩, g3⟩, g4⟩, g5⟩, g6⟩ := this
    exact appNStr tk (yes_of g4) g2 g3 (FnIs.of g1) (UV (yes_of g5)) (fun w B => ⟨0, by omega, rfl, rfl⟩) (CSTR (yes_of g6))
  · intro e; have := orNo_of hnbyt e; simp only [Bool.and_eq_true] at this
    exact appNByt tk (FnIs.of this.1.1) (I32 (yes_of this.1.2)) (fun w B => ⟨-1, rfl, rfl⟩) (BYT (yes_of this.2))
  · intro e; have := orNo_of hcnbyt e; simp only [Bool.and_eq_true] at this
    exact appNByt tk (FnIs.of this.1.1) (UV (yes_of this.1.2)) (fun w B => ⟨0, by omega, rfl, rfl⟩) (CBYT (yes_of this.2))
  · intro e; have := orNo_of halen e; simp only [Bool.and_eq_true] at this; exact appLen tk (yes_of this.1.2) (FnIs.of this.1.1) (I32 (yes_of this.2))
  · intro e; have := orNo_of hcalen e; simp only [Bool.and_eq_true] at this; exact appCLen tk (yes_of this.1.2) (FnIs.of this.1.1) (UV (yes_of this.2))
  · intro e; have := orNo_of hnalen e; simp only [Bool.and_eq_true] at this; exact appNLen tk (yes_of this.1.2) (FnIs.of this.1.1) (I32 (yes_of this.2))
  · intro e; have := orNo_of hcnalen e; simp only [Bool.and_eq_true] at this; exact appCNLen tk (yes_of this.1.2) (FnIs.of this.1.1) (UV (yes_of this.2))
end
structure SN where
  T : IT
  fds : Nat
  fd : Nat
  trs : Nat
  tr : Nat
  tgs : Nat
  tg : Nat
  msg : Nat
  fSame : Nat
  fVer : Nat
  fWrite : Nat
  fDflt : Nat
  fPart : Nat
  fHas : Nat
  fField : Nat
  fAt : Nat
  fKnown : Nat
  fUsual : Nat
  fUvar : Nat
  fUnk : Nat
  fWhole : Nat
  fNull : Nat
  fThings : Nat
  fCounted : Nat
  fValue : Nat
  fFixed : Nat
  fWidth : Nat
def cSame (S : SN) : MCode :=
 .sq (.rg [.mv 4 (.c (.bool false))])
  (.sq (.sq (.rg [.mv 6 (.t 0), .ln 7 S.T.u8s 6, .mv 8 (.t 1), .ln 9 S.T.u8s 8, .bi 10 .neq S.T.int (.t 7) (.t 9)])
  (.cd 10 (.sq (.rg [.mv 4 (.c (.bool false))])
  (.rt)) (.sk)))
  (.sq (.sq (.rg [.mv 11 (.t 0), .ln 12 S.T.u8s 11, .mv 13 (.c (.int .i64 (0)))])
  (.bl 0 (.lp (.sq (.rg [.bi 14 .lss S.T.int (.t 13) (.t 12)])
  (.sq (.cd 14 (.sk) (.ex 0))
  (.sq (.bl 1 (.sq (.rg [.mv 15 (.t 13), .mv 5 (.t 15)])
  (.sq (.gr true [⟨0, none, .mv 16 (.t 0)⟩, ⟨1, none, .mv 17 (.t 5)⟩, ⟨2, none, .ia 18 S.T.u8s 16 17⟩, ⟨3, none, .ld 19 S.T.u8 18⟩, ⟨4, none, .mv 20 (.t 1)⟩, ⟨5, none, .mv 21 (.t 5)⟩, ⟨6, none, .ia 22 S.T.u8s 20 21⟩, ⟨7, none, .ld 23 S.T.u8 22⟩, ⟨8, none, .bi 24 .neq S.T.u8 (.t 19) (.t 23)⟩])
  (.cd 24 (.sq (.rg [.mv 4 (.c (.bool false))])
  (.rt)) (.sk)))))
  (.rg [.bi 25 .add S.T.int (.t 13) (.c (.int .i64 (1))), .mv 13 (.t 25)])))))))
  (.sq (.rg [.mv 4 (.c (.bool true))])
  (.rt))))
def cVer (S : SN) : MCode :=
 .sq (.rg [.mv 4 (.c (.int .i64 (0)))])
  (.sq (.rg [.mv 5 (.t 0), .cv 6 S.T.u8 S.T.int 5, .mv 7 (.t 1), .bi 8 .add S.T.int (.t 7) (.c (.int .i64 (1))), .bi 9 .rem S.T.int (.t 6) (.t 8), .mv 4 (.t 9)])
  (.rt))
def cWrite (S : SN) : MCode :=
 .sq (.rg [.bx 3 S.msg 0, .bx 5 S.tr 2, .mv 6 (.c .nslice)])
  (.sq (.gr false [⟨0, none, .fa 7 S.msg 3 0⟩, ⟨1, none, .ld 8 S.fds 7⟩, ⟨2, none, .mv 9 (.t 1)⟩, ⟨3, none, .fa 10 S.msg 3 1⟩, ⟨4, none, .ld 11 S.T.int 10⟩, ⟨5, none, .bi 12 .geq S.T.int (.t 11) (.c (.int .i64 (0)))⟩, ⟨6, none, .mv 13 (.t 12)⟩, ⟨7, some (6, 13, true), .mv 14 (.t 1)⟩, ⟨8, some (6, 13, true), .fa 15 S.msg 3 1⟩, ⟨9, some (6, 13, true), .ld 16 S.T.int 15⟩, ⟨10, some (6, 13, true), .bi 17 .geq S.T.int (.t 14) (.t 16)⟩, ⟨11, none, .pk 18 (.t 13) (.t 17) (.c (.bool false))⟩, ⟨12, none, .ld 19 S.tr 5⟩, ⟨13, none, .ca 20 S.fPart [.t 8, .t 9, .t 18, .t 19]⟩, ⟨14, none, .mv 6 (.t 20)⟩])
  (.rt))
def cDflt (S : SN) : MCode :=
 .sq (.rg [.al 2 S.tr])
  (.sq (.rg [.al 3 S.tr])
  (.sq (.sq (.rg [.mv 7 (.t 0), .ln 8 S.fds 7, .mv 9 (.c (.int .i64 (0)))])
  (.bl 0 (.lp (.sq (.rg [.bi 10 .lss S.T.int (.t 9) (.t 8)])
  (.sq (.cd 10 (.sk) (.ex 0))
  (.sq (.bl 1 (.sq (.rg [.ia 11 S.fds 7 9, .ld 12 S.fd 11, .al 5 S.fd, .st S.fd 5 12])
  (.sq (.rg [.fa 13 S.fd 5 5, .ld 14 S.T.i64 13, .fa 15 S.fd 5 3, .ld 16 S.T.int 15, .bi 17 .geq S.T.int (.t 16) (.c (.int .i64 (0))), .bdl 18 S.tr [(0, .t 14), (2, .t 17)], .al 6 S.tr, .st S.tr 6 18])
  (.sq (.sq (.rg [.fa 19 S.fd 5 0, .ld 20 S.T.int 19, .bi 21 .eql S.T.int (.t 20) (.c (.int .i64 (10)))])
  (.cd 21 (.rg [.fa 22 S.fd 5 7, .ld 23 S.fds 22, .ca 24 S.fDflt [.t 23], .fl 25 S.tr 24 3, .fa 26 S.tr 6 3, .st S.trs 26 25]) (.sk)))
  (.rg [.fa 27 S.tr 3 3, .ld 28 S.trs 27, .ld 29 S.tr 6, .bsl 30 S.trs [.t 29], .ap 31 S.trs S.trs 28 30, .fa 32 S.tr 3 3, .st S.trs 32 31])))))
  (.rg [.bi 33 .add S.T.int (.t 9) (.c (.int .i64 (1))), .mv 9 (.t 33)])))))))
  (.sq (.rg [.ld 34 S.tr 3, .st S.tr 2 34])
  (.rt))))
def cPart (S : SN) : MCode :=
 .sq (.rg [.bx 7 S.tr 3, .mv 8 (.c .nslice)])
  (.sq (.rg [.mv 9 (.c .nslice), .mv 10 (.c .nslice)])
  (.sq (.rg [.mv 11 (.c (.int .i64 (0)))])
  (.sq (.sq (.rg [.mv 21 (.t 0), .ln 22 S.fds 21, .mv 23 (.c (.int .i64 (0)))])
  (.bl 0 (.lp (.sq (.rg [.bi 24 .lss S.T.int (.t 23) (.t 22)])
  (.sq (.cd 24 (.sk) (.ex 0))
  (.sq (.bl 1 (.sq (.rg [.mv 25 (.t 23), .ia 26 S.fds 21 23, .ld 27 S.fd 26, .al 13 S.fd, .mv 12 (.t 25), .st S.fd 13 27])
  (.sq (.gr false [⟨0, none, .fa 28 S.fd 13 4⟩, ⟨1, none, .ld 29 S.T.int 28⟩, ⟨2, none, .bi 30 .lss S.T.int (.t 29) (.c (.int .i64 (0)))⟩, ⟨3, none, .mv 31 (.t 30)⟩, ⟨4, some (3, 31, true), .ld 32 S.fd 13⟩, ⟨5, some (3, 31, true), .mv 33 (.t 1)⟩, ⟨6, some (3, 31, true), .ca 34 S.fHas [.t 32, .t 33]⟩, ⟨7, none, .pk 35 (.t 31) (.t 34) (.c (.bool false))⟩])
  (.cd 35 (.gr true [⟨0, none, .mv 36 (.t 9)⟩, ⟨1, none, .ld 37 S.fd 13⟩, ⟨2, none, .mv 38 (.t 1)⟩, ⟨3, none, .mv 39 (.t 2)⟩, ⟨4, none, .ld 40 S.tr 7⟩, ⟨5, none, .mv 41 (.t 12)⟩, ⟨6, none, .ca 42 S.fAt [.t 40, .t 41]⟩, ⟨7, none, .ca 43 S.fField [.t 37, .t 38, .t 39, .t 42]⟩, ⟨8, none, .ap 44 S.T.u8s S.T.u8s 36 43⟩, ⟨9, none, .mv 9 (.t 44)⟩]) (.sk)))))
  (.rg [.bi 45 .add S.T.int (.t 23) (.c (.int .i64 (1))), .mv 23 (.t 45)])))))))
  (.sq (.sq (.rg [.mv 46 (.t 2), .nt 47 46])
  (.cd 47 (.sq (.rg [.mv 48 (.t 9), .mv 8 (.t 48)])
  (.rt)) (.sk)))
  (.sq (.sq (.rg [.mv 49 (.t 0), .ca 50 S.fKnown [.t 49], .cv 51 S.T.u32 S.T.int 50, .mv 52 (.c (.int .i64 (0)))])
  (.bl 2 (.lp (.sq (.rg [.bi 53 .lss S.T.int (.t 52) (.t 51)])
  (.sq (.cd 53 (.sk) (.ex 2))
  (.sq (.bl 3 (.sq (.rg [.mv 54 (.t 52), .mv 14 (.t 54)])
  (.sq (.rg [.mv 55 (.t 0), .ln 56 S.fds 55, .mv 57 (.c (.int .i64 (0)))])
  (.bl 4 (.lp (.sq (.rg [.bi 58 .lss S.T.int (.t 57) (.t 56)])
  (.sq (.cd 58 (.sk) (.ex 4))
  (.sq (.bl 5 (.sq (.rg [.mv 59 (.t 57), .ia 60 S.fds 55 57, .ld 61 S.fd 60, .al 16 S.fd, .mv 15 (.t 59), .st S.fd 16 61])
  (.sq (.gr true [⟨0, none, .fa 62 S.fd 16 4⟩, ⟨1, none, .ld 63 S.T.int 62⟩, ⟨2, none, .mv 64 (.t 14)⟩, ⟨3, none, .bi 65 .eql S.T.int (.t 63) (.t 64)⟩, ⟨4, none, .mv 66 (.t 65)⟩, ⟨5, some (4, 66, true), .ld 67 S.fd 16⟩, ⟨6, some (4, 66, true), .ld 68 S.tr 7⟩, ⟨7, some (4, 66, true), .mv 69 (.t 15)⟩, ⟨8, some (4, 66, true), .ca 70 S.fAt [.t 68, .t 69]⟩, ⟨9, some (4, 66, true), .ca 71 S.fUsual [.t 67, .t 70]⟩, ⟨10, some (4, 66, true), .nt 72 71⟩, ⟨11, none, .pk 73 (.t 66) (.t 72) (.c (.bool false))⟩])
  (.cd 73 (.sq (.gr true [⟨0, none, .ld 74 S.fd 16⟩, ⟨1, none, .mv 75 (.t 1)⟩, ⟨2, none, .mv 76 (.t 2)⟩, ⟨3, none, .ld 77 S.tr 7⟩, ⟨4, none, .mv 78 (.t 15)⟩, ⟨5, none, .ca 79 S.fAt [.t 77, .t 78]⟩, ⟨6, none, .ca 80 S.fField [.t 74, .t 75, .t 76, .t 79]⟩, ⟨7, none, .mv 17 (.t 80)⟩])
  (.sq (.rg [.mv 81 (.t 10), .mv 82 (.t 14), .cv 83 S.T.int S.T.u64 82, .ca 84 S.fUvar [.t 83], .ap 85 S.T.u8s S.T.u8s 81 84, .mv 86 (.t 17), .ln 87 S.T.u8s 86, .cv 88 S.T.int S.T.u64 87, .ca 89 S.fUvar [.t 88], .ap 90 S.T.u8s S.T.u8s 85 89, .mv 91 (.t 17), .ap 92 S.T.u8s S.T.u8s 90 91, .mv 10 (.t 92)])
  (.rg [.mv 93 (.t 11), .bi 94 .add S.T.int (.t 93) (.c (.int .i64 (1))), .mv 11 (.t 94)]))) (.sk)))))
  (.rg [.bi 95 .add S.T.int (.t 57) (.c (.int .i64 (1))), .mv 57 (.t 95)])))))))))
  (.rg [.bi 96 .add S.T.int (.t 52) (.c (.int .i64 (1))), .mv 52 (.t 96)])))))))
  (.sq (.sq (.rg [.mv 97 (.t 0), .fa 98 S.tr 7 4, .ld 99 S.tgs 98, .ca 100 S.fUnk [.t 97, .t 99], .ln 101 S.tgs 100, .mv 102 (.c (.int .i64 (0)))])
  (.bl 6 (.lp (.sq (.rg [.bi 103 .lss S.T.int (.t 102) (.t 101)])
  (.sq (.cd 103 (.sk) (.ex 6))
  (.sq (.bl 7 (.sq (.rg [.ia 104 S.tgs 100 102, .ld 105 S.tg 104, .al 19 S.tg, .st S.tg 19 105])
  (.sq (.rg [.fa 106 S.tg 19 1, .ld 107 S.T.u8s 106, .ca 108 S.fWhole [.t 107], .mv 20 (.t 108)])
  (.sq (.rg [.mv 109 (.t 10), .fa 110 S.tg 19 0, .ld 111 S.T.u32 110, .cv 112 S.T.u32 S.T.u64 111, .ca 113 S.fUvar [.t 112], .ap 114 S.T.u8s S.T.u8s 109 113, .mv 115 (.t 20), .ln 116 S.T.u8s 115, .cv 117 S.T.int S.T.u64 116, .ca 118 S.fUvar [.t 117], .ap 119 S.T.u8s S.T.u8s 114 118, .mv 120 (.t 20), .ap 121 S.T.u8s S.T.u8s 119 120, .mv 10 (.t 121)])
  (.rg [.mv 122 (.t 11), .bi 123 .add S.T.int (.t 122) (.c (.int .i64 (1))), .mv 11 (.t 123)])))))
  (.rg [.bi 124 .add S.T.int (.t 102) (.c (.int .i64 (1))), .mv 102 (.t 124)])))))))
  (.sq (.rg [.mv 125 (.t 9), .mv 126 (.t 11), .cv 127 S.T.int S.T.u64 126, .ca 128 S.fUvar [.t 127], .ap 129 S.T.u8s S.T.u8s 125 128, .mv 130 (.t 10), .ap 131 S.T.u8s S.T.u8s 129 130, .mv 8 (.t 131)])
  (.rt))))))))
def cHas (S : SN) : MCode :=
 .sq (.rg [.bx 2 S.fd 0, .mv 4 (.c (.bool false))])
  (.sq (.gr false [⟨0, none, .fa 5 S.fd 2 1⟩, ⟨1, none, .ld 6 S.T.int 5⟩, ⟨2, none, .mv 7 (.t 1)⟩, ⟨3, none, .bi 8 .leq S.T.int (.t 6) (.t 7)⟩, ⟨4, none, .mv 9 (.t 8)⟩, ⟨5, some (4, 9, true), .fa 10 S.fd 2 2⟩, ⟨6, some (4, 9, true), .ld 11 S.T.int 10⟩, ⟨7, some (4, 9, true), .bi 12 .lss S.T.int (.t 11) (.c (.int .i64 (0)))⟩, ⟨8, some (4, 9, true), .mv 13 (.t 12)⟩, ⟨9, some (8, 13, false), .mv 14 (.t 1)⟩, ⟨10, some (8, 13, false), .fa 15 S.fd 2 2⟩, ⟨11, some (8, 13, false), .ld 16 S.T.int 15⟩, ⟨12, some (8, 13, false), .bi 17 .leq S.T.int (.t 14) (.t 16)⟩, ⟨13, some (4, 9, true), .pk 18 (.t 13) (.c (.bool true)) (.t 17)⟩, ⟨14, none, .pk 19 (.t 9) (.t 18) (.c (.bool false))⟩, ⟨15, none, .mv 4 (.t 19)⟩])
  (.rt))
def cField (S : SN) : MCode :=
 .sq (.rg [.bx 4 S.fd 0, .bx 7 S.tr 3, .mv 8 (.c .nslice)])
  (.sq (.rg [.ld 13 S.fd 4, .mv 14 (.t 1), .ld 15 S.tr 7, .ca 16 S.fNull [.t 13, .t 14, .t 15], .mv 9 (.t 16)])
  (.sq (.sq (.rg [.fa 17 S.fd 4 0, .ld 18 S.T.int 17, .bi 19 .eql S.T.int (.t 18) (.c (.int .i64 (11)))])
  (.cd 19 (.sq (.rg [.fa 20 S.tr 7 3, .ld 21 S.trs 20, .ca 22 S.fThings [.t 21], .mv 10 (.t 22)])
  (.sq (.sq (.rg [.mv 23 (.t 9)])
  (.cd 23 (.rg [.mv 10 (.c .nslice)]) (.sk)))
  (.sq (.rg [.mv 24 (.t 2), .mv 25 (.t 9), .mv 26 (.t 10), .ln 27 S.trs 26, .ca 28 S.fCounted [.t 24, .t 25, .t 27, .c (.int .i64 (4))], .mv 11 (.t 28)])
  (.sq (.sq (.rg [.mv 29 (.t 10), .ln 30 S.trs 29, .mv 31 (.c (.int .i64 (0)))])
  (.bl 0 (.lp (.sq (.rg [.bi 32 .lss S.T.int (.t 31) (.t 30)])
  (.sq (.cd 32 (.sk) (.ex 0))
  (.sq (.bl 1 (.sq (.rg [.mv 33 (.t 31), .mv 12 (.t 33)])
  (.gr true [⟨0, none, .mv 34 (.t 11)⟩, ⟨1, none, .fa 35 S.fd 4 6⟩, ⟨2, none, .ld 36 S.T.int 35⟩, ⟨3, none, .fa 37 S.fd 4 7⟩, ⟨4, none, .ld 38 S.fds 37⟩, ⟨5, none, .mv 39 (.t 1)⟩, ⟨6, none, .mv 40 (.t 2)⟩, ⟨7, none, .mv 41 (.t 10)⟩, ⟨8, none, .mv 42 (.t 12)⟩, ⟨9, none, .ia 43 S.trs 41 42⟩, ⟨10, none, .ld 44 S.tr 43⟩, ⟨11, none, .ca 45 S.fValue [.t 36, .t 38, .c (.bool false), .t 39, .t 40, .t 44]⟩, ⟨12, none, .ap 46 S.T.u8s S.T.u8s 34 45⟩, ⟨13, none, .mv 11 (.t 46)⟩])))
  (.rg [.bi 47 .add S.T.int (.t 31) (.c (.int .i64 (1))), .mv 31 (.t 47)])))))))
  (.sq (.rg [.mv 48 (.t 11), .mv 8 (.t 48)])
  (.rt)))))) (.sk)))
  (.sq (.sq (.gr false [⟨0, none, .fa 49 S.fd 4 0⟩, ⟨1, none, .ld 50 S.T.int 49⟩, ⟨2, none, .bi 51 .eql S.T.int (.t 50) (.c (.int .i64 (10)))⟩, ⟨3, none, .mv 52 (.t 51)⟩, ⟨4, some (3, 52, true), .fa 53 S.fd 4 3⟩, ⟨5, some (3, 52, true), .ld 54 S.T.int 53⟩, ⟨6, some (3, 52, true), .bi 55 .geq S.T.int (.t 54) (.c (.int .i64 (0)))⟩, ⟨7, none, .pk 56 (.t 52) (.t 55) (.c (.bool false))⟩])
  (.cd 56 (.sq (.sq (.rg [.mv 57 (.t 9)])
  (.cd 57 (.sq (.rg [.ca 58 S.fFixed [.c (.int .i64 (-1)), .c (.int .i64 (1))], .mv 8 (.t 58)])
  (.rt)) (.sk)))
  (.sq (.gr true [⟨1, none, .fa 60 S.fd 4 7⟩, ⟨2, none, .ld 61 S.fds 60⟩, ⟨3, none, .mv 62 (.t 1)⟩, ⟨4, none, .mv 63 (.t 2)⟩, ⟨5, none, .ld 64 S.tr 7⟩, ⟨0, none, .ca 59 S.fFixed [.c (.int .i64 (1)), .c (.int .i64 (1))]⟩, ⟨6, none, .ca 65 S.fPart [.t 61, .t 62, .t 63, .t 64]⟩, ⟨7, none, .ap 66 S.T.u8s S.T.u8s 59 65⟩, ⟨8, none, .mv 8 (.t 66)⟩])
  (.rt))) (.sk)))
  (.sq (.rg [.fa 67 S.fd 4 0, .ld 68 S.T.int 67, .fa 69 S.fd 4 7, .ld 70 S.fds 69, .mv 71 (.t 9), .mv 72 (.t 1), .mv 73 (.t 2), .ld 74 S.tr 7, .ca 75 S.fValue [.t 68, .t 70, .t 71, .t 72, .t 73, .t 74], .mv 8 (.t 75)])
  (.rt)))))
def cAt (S : SN) : MCode :=
 .sq (.rg [.bx 2 S.tr 0, .al 4 S.tr])
  (.sq (.sq (.rg [.mv 5 (.t 1), .fa 6 S.tr 2 3, .ld 7 S.trs 6, .ln 8 S.trs 7, .bi 9 .lss S.T.int (.t 5) (.t 8)])
  (.cd 9 (.sq (.rg [.fa 10 S.tr 2 3, .ld 11 S.trs 10, .mv 12 (.t 1), .ia 13 S.trs 11 12, .ld 14 S.tr 13, .st S.tr 4 14])
  (.rt)) (.sk)))
  (.sq (.rg [.bdl 15 S.tr [], .st S.tr 4 15])
  (.rt)))
def cKnown (S : SN) : MCode :=
 .sq (.rg [.mv 2 (.c (.int .u32 (0)))])
  (.sq (.rg [.mv 3 (.c (.int .u32 (0)))])
  (.sq (.sq (.rg [.mv 6 (.t 0), .ln 7 S.fds 6, .mv 8 (.c (.int .i64 (0)))])
  (.bl 0 (.lp (.sq (.rg [.bi 9 .lss S.T.int (.t 8) (.t 7)])
  (.sq (.cd 9 (.sk) (.ex 0))
  (.sq (.bl 1 (.sq (.rg [.ia 10 S.fds 6 8, .ld 11 S.fd 10, .al 5 S.fd, .st S.fd 5 11])
  (.sq (.rg [.fa 12 S.fd 5 4, .ld 13 S.T.int 12, .bi 14 .geq S.T.int (.t 13) (.c (.int .i64 (0)))])
  (.cd 14 (.rg [.mv 15 (.t 3), .fa 16 S.fd 5 4, .ld 17 S.T.int 16, .cv 18 S.T.int S.T.u32 17, .bi 19 .add S.T.u32 (.t 18) (.c (.int .u32 (1))), .mxi 20 (.t 15) (.t 19), .mv 3 (.t 20)]) (.sk)))))
  (.rg [.bi 21 .add S.T.int (.t 8) (.c (.int .i64 (1))), .mv 8 (.t 21)])))))))
  (.sq (.rg [.mv 22 (.t 3), .mv 2 (.t 22)])
  (.rt))))
def cUvar (S : SN) : MCode :=
 .sq (.rg [.mv 2 (.c .nslice)])
  (.sq (.rg [.mv 3 (.c .nslice)])
  (.sq (.bl 0 (.lp (.sq (.sq (.rg [.mv 4 (.t 0), .bi 5 .gtr S.T.u64 (.t 4) (.c (.int .u64 (127)))])
  (.cd 5 (.sk) (.ex 0)))
  (.bl 1 (.sq (.rg [.mv 6 (.t 3), .mv 7 (.t 0), .bi 8 .and S.T.u64 (.t 7) (.c (.int .u64 (127))), .cv 9 S.T.u64 S.T.u8 8, .bi 10 .or S.T.u8 (.t 9) (.c (.int .u8 (128))), .bsl 11 S.T.u8s [.t 10], .ap 12 S.T.u8s S.T.u8s 6 11, .mv 3 (.t 12)])
  (.rg [.mv 13 (.t 0), .b2 14 .shr (.t 13) (.c (.int .u64 (7))), .mv 0 (.t 14)]))))))
  (.sq (.rg [.mv 15 (.t 3), .mv 16 (.t 0), .cv 17 S.T.u64 S.T.u8 16, .bsl 18 S.T.u8s [.t 17], .ap 19 S.T.u8s S.T.u8s 15 18, .mv 2 (.t 19)])
  (.rt))))
def cUnk (S : SN) : MCode :=
 .sq (.rg [.mv 4 (.c .nslice)])
  (.sq (.rg [.mv 11 (.t 0), .ca 12 S.fKnown [.t 11], .mv 5 (.t 12)])
  (.sq (.rg [.mv 6 (.c .nslice)])
  (.sq (.sq (.rg [.mv 13 (.t 1), .mv 14 (.t 1), .ln 15 S.tgs 14, .mn 16 (.t 15) (.c (.int .i64 (32767))), .sl 17 S.tgs 13 none (some (.t 16)) none, .ln 18 S.tgs 17, .mv 19 (.c (.int .i64 (0)))])
  (.bl 0 (.lp (.sq (.rg [.bi 20 .lss S.T.int (.t 19) (.t 18)])
  (.sq (.cd 20 (.sk) (.ex 0))
  (.sq (.bl 1 (.sq (.rg [.ia 21 S.tgs 17 19, .ld 22 S.tg 21, .al 8 S.tg, .st S.tg 8 22])
  (.sq (.rg [.mv 9 (.c (.int .i64 (0)))])
  (.sq (.bl 2 (.lp (.sq (.sq (.gr true [⟨0, none, .mv 23 (.t 9)⟩, ⟨1, none, .mv 24 (.t 6)⟩, ⟨2, none, .ln 25 S.tgs 24⟩, ⟨3, none, .bi 26 .lss S.T.int (.t 23) (.t 25)⟩, ⟨4, none, .mv 27 (.t 26)⟩, ⟨5, some (4, 27, true), .mv 28 (.t 6)⟩, ⟨6, some (4, 27, true), .mv 29 (.t 9)⟩, ⟨7, some (4, 27, true), .ia 30 S.tgs 28 29⟩, ⟨8, some (4, 27, true), .fa 31 S.tg 30 0⟩, ⟨9, some (4, 27, true), .ld 32 S.T.u32 31⟩, ⟨10, some (4, 27, true), .fa 33 S.tg 8 0⟩, ⟨11, some (4, 27, true), .ld 34 S.T.u32 33⟩, ⟨12, some (4, 27, true), .bi 35 .lss S.T.u32 (.t 32) (.t 34)⟩, ⟨13, none, .pk 36 (.t 27) (.t 35) (.c (.bool false))⟩])
  (.cd 36 (.sk) (.ex 2)))
  (.bl 3 (.rg [.mv 37 (.t 9), .bi 38 .add S.T.int (.t 37) (.c (.int .i64 (1))), .mv 9 (.t 38)])))))
  (.sq (.sq (.gr true [⟨0, none, .fa 39 S.tg 8 0⟩, ⟨1, none, .ld 40 S.T.u32 39⟩, ⟨2, none, .mv 41 (.t 5)⟩, ⟨3, none, .bi 42 .lss S.T.u32 (.t 40) (.t 41)⟩, ⟨4, none, .mv 43 (.t 42)⟩, ⟨5, some (4, 43, false), .mv 44 (.t 9)⟩, ⟨6, some (4, 43, false), .mv 45 (.t 6)⟩, ⟨7, some (4, 43, false), .ln 46 S.tgs 45⟩, ⟨8, some (4, 43, false), .bi 47 .lss S.T.int (.t 44) (.t 46)⟩, ⟨9, some (4, 43, false), .mv 48 (.t 47)⟩, ⟨10, some (9, 48, true), .mv 49 (.t 6)⟩, ⟨11, some (9, 48, true), .mv 50 (.t 9)⟩, ⟨12, some (9, 48, true), .ia 51 S.tgs 49 50⟩, ⟨13, some (9, 48, true), .fa 52 S.tg 51 0⟩, ⟨14, some (9, 48, true), .ld 53 S.T.u32 52⟩, ⟨15, some (9, 48, true), .fa 54 S.tg 8 0⟩, ⟨16, some (9, 48, true), .ld 55 S.T.u32 54⟩, ⟨17, some (9, 48, true), .bi 56 .eql S.T.u32 (.t 53) (.t 55)⟩, ⟨18, some (4, 43, false), .pk 57 (.t 48) (.t 56) (.c (.bool false))⟩, ⟨19, none, .pk 58 (.t 43) (.c (.bool true)) (.t 57)⟩])
  (.cd 58 (.ex 1) (.sk)))
  (.sq (.rg [.mv 59 (.t 6), .bdl 60 S.tg [], .bsl 61 S.tgs [.t 60], .ap 62 S.tgs S.tgs 59 61, .mv 6 (.t 62)])
  (.sq (.sq (.rg [.mv 63 (.t 6), .ln 64 S.tgs 63, .bi 65 .sub S.T.int (.t 64) (.c (.int .i64 (1))), .mv 10 (.t 65)])
  (.bl 4 (.lp (.sq (.sq (.rg [.mv 66 (.t 10), .mv 67 (.t 9), .bi 68 .gtr S.T.int (.t 66) (.t 67)])
  (.cd 68 (.sk) (.ex 4)))
  (.sq (.bl 5 (.rg [.mv 71 (.t 6), .mv 72 (.t 10), .mv 73 (.t 6), .mv 74 (.t 10), .bi 75 .sub S.T.int (.t 74) (.c (.int .i64 (1))), .ia 76 S.tgs 73 75, .ld 77 S.tg 76, .ia 78 S.tgs 71 72, .st S.tg 78 77]))
  (.rg [.mv 69 (.t 10), .bi 70 .sub S.T.int (.t 69) (.c (.int .i64 (1))), .mv 10 (.t 70)]))))))
  (.rg [.mv 79 (.t 6), .mv 80 (.t 9), .ld 81 S.tg 8, .ia 82 S.tgs 79 80, .st S.tg 82 81]))))))))
  (.rg [.bi 83 .add S.T.int (.t 19) (.c (.int .i64 (1))), .mv 19 (.t 83)])))))))
  (.sq (.rg [.mv 84 (.t 6), .mv 4 (.t 84)])
  (.rt)))))
def cWhole (S : SN) : MCode :=
 .sq (.rg [.mv 2 (.c .nslice)])
  (.sq (.rg [.mv 3 (.t 0), .mv 4 (.t 0), .ln 5 S.T.u8s 4, .mn 6 (.t 5) (.c (.int .i64 (32767))), .sl 7 S.T.u8s 3 none (some (.t 6)) none, .mv 2 (.t 7)])
  (.rt))
def cNull (S : SN) : MCode :=
 .sq (.rg [.bx 3 S.fd 0, .bx 5 S.tr 2, .mv 6 (.c (.bool false))])
  (.sq (.gr false [⟨0, none, .fa 7 S.tr 5 2⟩, ⟨1, none, .ld 8 S.T.bool 7⟩, ⟨2, none, .mv 9 (.t 8)⟩, ⟨3, some (2, 9, true), .fa 10 S.fd 3 3⟩, ⟨4, some (2, 9, true), .ld 11 S.T.int 10⟩, ⟨5, some (2, 9, true), .bi 12 .geq S.T.int (.t 11) (.c (.int .i64 (0)))⟩, ⟨6, none, .pk 13 (.t 9) (.t 12) (.c (.bool false))⟩, ⟨7, none, .mv 14 (.t 13)⟩, ⟨8, some (7, 14, true), .mv 15 (.t 1)⟩, ⟨9, some (7, 14, true), .fa 16 S.fd 3 3⟩, ⟨10, some (7, 14, true), .ld 17 S.T.int 16⟩, ⟨11, some (7, 14, true), .bi 18 .geq S.T.int (.t 15) (.t 17)⟩, ⟨12, none, .pk 19 (.t 14) (.t 18) (.c (.bool false))⟩, ⟨13, none, .mv 6 (.t 19)⟩])
  (.rt))
def cThings (S : SN) : MCode :=
 .sq (.rg [.mv 2 (.c .nslice)])
  (.sq (.rg [.mv 3 (.t 0), .mv 4 (.t 0), .ln 5 S.trs 4, .mn 6 (.t 5) (.c (.int .i64 (32767))), .sl 7 S.trs 3 none (some (.t 6)) none, .mv 2 (.t 7)])
  (.rt))
def cCounted (S : SN) : MCode :=
 .sq (.rg [.mv 8 (.c .nslice)])
  (.sq (.bl 0 (.sq (.gr false [⟨0, none, .mv 10 (.t 0)⟩, ⟨1, none, .mv 11 (.t 10)⟩, ⟨2, some (1, 11, true), .mv 12 (.t 1)⟩, ⟨3, none, .pk 13 (.t 11) (.t 12) (.c (.bool false))⟩, ⟨4, none, .mv 9 (.t 13)⟩])
  (.cd 9 (.sq (.rg [.bsl 14 S.T.u8s [.c (.int .u8 (0))], .mv 8 (.t 14)])
  (.rt)) (.sq (.rg [.mv 16 (.t 0), .mv 15 (.t 16)])
  (.cd 15 (.sq (.rg [.mv 17 (.t 2), .cv 18 S.T.int S.T.u64 17, .bi 19 .add S.T.u64 (.t 18) (.c (.int .u64 (1))), .ca 20 S.fUvar [.t 19], .mv 8 (.t 20)])
  (.rt)) (.sq (.rg [.mv 22 (.t 1), .mv 21 (.t 22)])
  (.cd 21 (.sq (.rg [.mv 23 (.t 3), .ca 24 S.fFixed [.c (.int .i64 (-1)), .t 23], .mv 8 (.t 24)])
  (.rt)) (.sk))))))))
  (.sq (.rg [.mv 25 (.t 2), .mv 26 (.t 3), .ca 27 S.fFixed [.t 25, .t 26], .mv 8 (.t 27)])
  (.rt)))
def cValue (S : SN) : MCode :=
 .sq (.rg [.bx 11 S.tr 5, .mv 12 (.c .nslice)])
  (.sq (.sq (.rg [.mv 16 (.t 0)])
  (.bl 0 (.sq (.rg [.bi 18 .eql S.T.int (.t 16) (.c (.int .i64 (0))), .mv 17 (.t 18)])
  (.cd 17 (.sq (.rg [.fa 19 S.tr 11 0, .ld 20 S.T.i64 19, .bi 21 .and S.T.i64 (.t 20) (.c (.int .i64 (1))), .cv 22 S.T.i64 S.T.u8 21, .bsl 23 S.T.u8s [.t 22], .mv 12 (.t 23)])
  (.rt)) (.sq (.rg [.bi 25 .eql S.T.int (.t 16) (.c (.int .i64 (7))), .mv 24 (.t 25)])
  (.cd 24 (.sq (.rg [.mk 26 S.T.u8s (.c (.int .i64 (16))) (.c (.int .i64 (16))), .mv 13 (.t 26)])
  (.sq (.rg [.mv 27 (.t 13), .fa 28 S.tr 11 1, .ld 29 S.T.u8s 28, .cp 30 S.T.u8s S.T.u8s 27 29])
  (.sq (.rg [.mv 31 (.t 13), .mv 12 (.t 31)])
  (.rt)))) (.sq (.rg [.bi 33 .eql S.T.int (.t 16) (.c (.int .i64 (8))), .mv 32 (.t 33)])
  (.cd 32 (.sq (.rg [.fa 34 S.tr 11 1, .ld 35 S.T.u8s 34, .ca 36 S.fWhole [.t 35], .mv 14 (.t 36)])
  (.sq (.sq (.rg [.mv 37 (.t 2)])
  (.cd 37 (.rg [.mv 14 (.c .nslice)]) (.sk)))
  (.sq (.rg [.mv 38 (.t 4), .mv 39 (.t 2), .mv 40 (.t 14), .ln 41 S.T.u8s 40, .ca 42 S.fCounted [.t 38, .t 39, .t 41, .c (.int .i64 (2))], .mv 43 (.t 14), .ap 44 S.T.u8s S.T.u8s 42 43, .mv 12 (.t 44)])
  (.rt)))) (.sq (.rg [.bi 46 .eql S.T.int (.t 16) (.c (.int .i64 (9))), .mv 45 (.t 46)])
  (.cd 45 (.sq (.rg [.fa 47 S.tr 11 1, .ld 48 S.T.u8s 47, .ca 49 S.fWhole [.t 48], .mv 15 (.t 49)])
  (.sq (.sq (.rg [.mv 50 (.t 2)])
  (.cd 50 (.rg [.mv 15 (.c .nslice)]) (.sk)))
  (.sq (.rg [.mv 51 (.t 4), .mv 52 (.t 2), .mv 53 (.t 15), .ln 54 S.T.u8s 53, .ca 55 S.fCounted [.t 51, .t 52, .t 54, .c (.int .i64 (4))], .mv 56 (.t 15), .ap 57 S.T.u8s S.T.u8s 55 56, .mv 12 (.t 57)])
  (.rt)))) (.sq (.rg [.bi 59 .eql S.T.int (.t 16) (.c (.int .i64 (10))), .mv 58 (.t 59)])
  (.cd 58 (.sq (.rg [.mv 60 (.t 1), .mv 61 (.t 3), .mv 62 (.t 4), .ld 63 S.tr 11, .ca 64 S.fPart [.t 60, .t 61, .t 62, .t 63], .mv 12 (.t 64)])
  (.rt)) (.sk)))))))))))))
  (.sq (.gr true [⟨0, none, .fa 65 S.tr 11 0⟩, ⟨1, none, .ld 66 S.T.i64 65⟩, ⟨2, none, .mv 67 (.t 0)⟩, ⟨3, none, .ca 68 S.fWidth [.t 67]⟩, ⟨4, none, .ca 69 S.fFixed [.t 66, .t 68]⟩, ⟨5, none, .mv 12 (.t 69)⟩])
  (.rt)))
def cFixed (S : SN) : MCode :=
 .sq (.rg [.mv 4 (.c .nslice)])
  (.sq (.rg [.mv 5 (.c .nslice)])
  (.sq (.sq (.rg [.mv 7 (.t 1), .bi 8 .sub S.T.int (.t 7) (.c (.int .i64 (1))), .mv 6 (.t 8)])
  (.bl 0 (.lp (.sq (.sq (.rg [.mv 9 (.t 6), .bi 10 .geq S.T.int (.t 9) (.c (.int .i64 (0)))])
  (.cd 10 (.sk) (.ex 0)))
  (.sq (.bl 1 (.rg [.mv 13 (.t 5), .mv 14 (.t 0), .mv 15 (.t 6), .bi 16 .mul S.T.int (.c (.int .i64 (8))) (.t 15), .b2 17 .shr (.t 14) (.t 16), .cv 18 S.T.i64 S.T.u8 17, .bsl 19 S.T.u8s [.t 18], .ap 20 S.T.u8s S.T.u8s 13 19, .mv 5 (.t 20)]))
  (.rg [.mv 11 (.t 6), .bi 12 .sub S.T.int (.t 11) (.c (.int .i64 (1))), .mv 6 (.t 12)]))))))
  (.sq (.rg [.mv 21 (.t 5), .mv 4 (.t 21)])
  (.rt))))
def cWidth (S : SN) : MCode :=
 .sq (.rg [.mv 2 (.c (.int .i64 (0)))])
  (.sq (.sq (.rg [.mv 3 (.t 0)])
  (.bl 0 (.sq (.rg [.bi 5 .eql S.T.int (.t 3) (.c (.int .i64 (1))), .mv 4 (.t 5)])
  (.cd 4 (.sq (.rg [.mv 2 (.c (.int .i64 (1)))])
  (.rt)) (.sq (.sq (.rg [.bi 7 .eql S.T.int (.t 3) (.c (.int .i64 (2))), .mv 6 (.t 7)])
  (.cd 6 (.sk) (.rg [.bi 8 .eql S.T.int (.t 3) (.c (.int .i64 (5))), .mv 6 (.t 8)])))
  (.cd 6 (.sq (.rg [.mv 2 (.c (.int .i64 (2)))])
  (.rt)) (.sq (.rg [.bi 10 .eql S.T.int (.t 3) (.c (.int .i64 (3))), .mv 9 (.t 10)])
  (.cd 9 (.sq (.rg [.mv 2 (.c (.int .i64 (4)))])
  (.rt)) (.sk)))))))))
  (.sq (.rg [.mv 2 (.c (.int .i64 (8)))])
  (.rt)))
set_option linter.unusedVariables false
def Kp (w w' : World) : Prop := ∀ p v, w.cell? p = some v → w'.cell? p = some v
theorem Kp.refl (w : World) : Kp w w := fun _ _ h => h
theorem Kp.trans {a b c : World} (h : Kp a b) (k : Kp b c) : Kp a c := fun p v hv => k p v (h p v hv)
theorem _root_.Go.RowKit.Below.kp {w w' : World} (h : Below w.heap.size w w') : Kp w w' := fun p v hv => by rw [cell_of_heap (h.block p.block (World.block_lt_of_cell? w p hv))]; exact hv
theorem kp_alloc (w : World) (o : Obj) : Kp w (w.alloc o) := Go.RowKit.Below.kp ((Below.refl _ w).alloc (Nat.le_refl _) o)
theorem BytesAt.kp {w w' : World} {F : Nat → Prop} {ad : Option Addr} {l : List UInt8} (h : BytesAt w F ad l) (k : Kp w w') : BytesAt w' F ad l := by
  intro j b hj
  obtain ⟨g, o, h1, h2, h3⟩ := h j b hj
  exact ⟨g, o, h1, h2, k _ _ h3⟩
theorem rangeAt_kp {w w' : World} {b o : Nat} {cs : List Value} (h : w.rangeAt b o cs) (k : Kp w w') : w'.rangeAt b o cs := fun j v hv => k _ _ (h j v hv)
def updL (ρ : Nat → Value) : List (Nat × Value) → Nat → Value
  | [] => ρ
  | p :: l => updL (upd ρ p.1 p.2) l
theorem RW.knows {P : Program} {N : Nat} {m : MCode} {Q : Exit → (Nat → Value) → World → Prop} {ρ : Nat → Value} {w : World} (l : List (Nat × Value)) (h : ∀ p ∈ l, ρ p.1 = p.2) (k : RW P N m Q (updL ρ l) w) : RW P N m Q ρ w := by
  have : updL ρ l = ρ := by
    clear k
    induction l with
    | nil => rfl
    | cons p l ih =>
      have e : upd ρ p.1 p.2 = ρ := by
        funext x
        by_cases e : x = p.1
        · subst e; rw [upd_same, h p List.mem_cons_self]
        · rw [upd_ne _ _ e]
      show updL (upd ρ p.1 p.2) l = ρ
      rw [e]
      exact ih fun q hq => h q (List.mem_cons_of_mem _ hq)
  rwa [this] at k
def RetB (P : Program) (U f : Nat) (args : List Value) (w : World) (out : List UInt8) : Prop :=
  Calls P f args.toArray w (fun e w' => ∃ sv, e = .returned sv ∧ OwnB U w' w.heap.size sv out ∧ Below w.heap.size w w')
section
variable {P : Program} {S : SN} {w : World}
/-! ### Fixed -/
def down (n : Int) : Nat → List UInt8
  | 0 => []
  | k + 1 => UInt8.ofNat ((n.fdiv (2 ^ (8 * k))) % 256).toNat :: down n k
theorem fdiv_lit (n : Int) (m : Int) (h : 0 ≤ m) : n.fdiv m = n / m := Int.fdiv_eq_ediv_of_nonneg _ h
theorem fix_down {k : Nat} (hk : k = 1 ∨ k = 2 ∨ k = 4 ∨ k = 8) (n : Int) : fix n k = down n k := by
  rcases hk with rfl | rfl | rfl | rfl
  · simp only [fix, be_one, down, Nat.mul_zero, Int.pow_zero]
    rw [fdiv_lit _ _ (by omega)]
    congr 2; omega
  · simp only [fix, be_two, down, Nat.mul_zero, Int.pow_zero]
    rw [fdiv_lit _ _ (by omega), fdiv_lit _ _ (by omega)]
    have e1 : ((n % 256 ^ 2).toNat / 256 % 256) = ((n / 2 ^ (8 * 1)) % 256).toNat := by omega
    have e0 : ((n % 256 ^ 2).toNat % 256) = ((n / 1) % 256).toNat := by omega
    rw [e1, e0]
  · simp only [fix, be_four, down, Nat.mul_zero, Int.pow_zero]
    rw [fdiv_lit _ _ (by omega), fdiv_lit _ _ (by omega), fdiv_lit _ _ (by omega), fdiv_lit _ _ (by omega)]
    have e3 : ((n % 256 ^ 4).toNat / 256 / 256 / 256 % 256) = ((n / 2 ^ (8 * 3)) % 256).toNat := by omega
    have e2 : ((n % 256 ^ 4).toNat / 256 / 256 % 256) = ((n / 2 ^ (8 * 2)) % 256).toNat := by omega
    have e1 : ((n % 256 ^ 4).toNat / 256 % 256) = ((n / 2 ^ (8 * 1)) % 256).toNat := by omega
    have e0 : ((n % 256 ^ 4).toNat % 256) = ((n / 1) % 256).toNat := by omega
    rw [e3, e2, e1, e0]
  · simp only [fix, be_eight, down, Nat.mul_zero, Int.pow_zero]
    rw [fdiv_lit _ _ (by omega), fdiv_lit _ _ (by omega), fdiv_lit _ _ (by omega), fdiv_lit _ _ (by omega), fdiv_lit _ _ (by omega), fdiv_lit _ _ (by omega), fdiv_lit _ _ (by omega), fdiv_lit _ _ (by omega)]
    have hm : (n % 256 ^ 8) = n % 18446744073709551616 := rfl
    rw [hm]
    obtain ⟨q, N, hN, hn⟩ : ∃ (q : Int) (N : Nat), N < 18446744073709551616 ∧ n = 18446744073709551616 * q + N := ⟨n / 18446744073709551616, (n % 18446744073709551616).toNat, by omega, by omega⟩
    have h0 : (n % 18446744073709551616).toNat = N := by omega
    rw [h0]
    subst hn
    clear hm h0
    have e : ∀ (a : Nat) (b : Int) (c : Nat), a = c → (c : Int) = b % 256 → UInt8.ofNat a = UInt8.ofNat (b % 256).toNat := fun a b c h1 h2 => by rw [h1, ← h2]; rfl
    congr 1
    · exact e _ _ (N / 72057594037927936 % 256) (by omega) (by show _ = (18446744073709551616 * q + (N : Int)) / 72057594037927936 % 256; omega)
    congr 1
    · exact e _ _ (N / 281474976710656 % 256) (by omega) (by show _ = (18446744073709551616 * q + (N : Int)) / 281474976710656 % 256; omega)
    congr 1
    · exact e _ _ (N / 1099511627776 % 256) (by omega) (by show _ = (18446744073709551616 * q + (N : Int)) / 1099511627776 % 256; omega)
    congr 1
    · exact e _ _ (N / 4294967296 % 256) (by omega) (by show _ = (18446744073709551616 * q + (N : Int)) / 4294967296 % 256; omega)
    congr 1
    · exact e _ _ (N / 16777216 % 256) (by omega) (by show _ = (18446744073709551616 * q + (N : Int)) / 16777216 % 256; omega)
    congr 1
    · exact e _ _ (N / 65536 % 256) (by omega) (by show _ = (18446744073709551616 * q + (N : Int)) / 65536 % 256; omega)
    congr 1
    · exact e _ _ (N / 256 % 256) (by omega) (by show _ = (18446744073709551616 * q + (N : Int)) / 256 % 256; omega)
    congr 1
    · exact e _ _ (N % 256) (by omega) (by show _ = (18446744073709551616 * q + (N : Int)) / 1 % 256; omega)
theorem byteV_mod (n : Int) : Value.int .u8 (IntKind.u8.wrap n) = byteV (UInt8.ofNat (n % 256).toNat) := by
  rw [show IntKind.u8.wrap n = IntKind.u8.wrap (n % 256) from by rw [IntKind.wrap_u8, IntKind.wrap_u8]; omega]
  exact byteV_of (by omega) (by omega)
def FixedC (P : Program) (U f : Nat) : Prop := entersB P f = true ∧ ∀ (w : World) (n : Int) (k : Nat), (k = 1 ∨ k = 2 ∨ k = 4 ∨ k = 8) → RetB P U f [.int .i64 n, .int .i64 k] w (fix n k)
theorem fixed_ok {f : Nat} (tk : TOK P S.T) (h64 : S.T.i64 ≠ 0) (hf : FnIs P f (cFixed S) 22 4) : FixedC P S.T.u8 f := by
  refine ⟨hf.ent, fun w n k hk => ?_⟩
  have hk8 : 1 ≤ k ∧ k ≤ 8 := by omega
  rw [fix_down hk]
  refine hf.runs (by simp) (by omega) ?_
  refine RW.sq (RW.rg (RL.step MR.mv (RL.nil (RW.sq (RW.rg (RL.step MR.mv (RL.nil (RW.sq (RW.sq (RW.rg ?_)))))))))) 
  repeat first | refine RL.step MR.mv ?_ | refine RL.step (MR.biE rfl) ?_ | refine RL.step (MR.b2 rfl) ?_
  refine RL.nil (RW.bl (RW.lp (fun ρ w' => ∃ (i : Nat) (sv : Value) (bs : List UInt8), i ≤ 8 ∧ ρ 0 = .int .i64 n ∧ ρ 5 = sv ∧ ρ 6 = .int .i64 ((i : Int) - 1) ∧ OwnB S.T.u8 w' w.heap.size sv bs ∧ Below w.heap.size w w' ∧ bs ++ down n i = down n k ∧ bs.length + i ≤ 8)
    (fun ρ _ => (intOf (ρ 6) + 1).toNat) ⟨k, .slice none 0 0, [], hk8.2, rfl, rfl, ?_, OwnB.nil _ _ _, Below.refl _ _, rfl, by simpa using hk8.2⟩ ?_ ?_))
  · show Value.int .i64 (IntKind.i64.wrap ((k : Int) - 1)) = _
    rw [wrap_i64 (by omega) (by omega)]
  · rintro ρ w1 ⟨i, sv, bs, hi8, h0, h5, h6, ho, hb, hbs, hl⟩
    refine RW.knows [(0, .int .i64 n), (5, sv), (6, .int .i64 ((i : Int) - 1))] (by simp [h0, h5, h6]) (RW.sq (RW.sq (RW.rg ?_)))
    repeat first | refine RL.step MR.mv ?_ | refine RL.step (MR.biE rfl) ?_ | refine RL.step (MR.b2 rfl) ?_
    cases i with
    | zero =>
      refine RL.nil (RW.cd (b := false) (by show Value.bool (decide ((0 : Int) ≤ ((0 : Nat) : Int) - 1)) = _; rfl) (fun e => by cases e) (fun _ => RW.ex ?_))
      refine RW.sq (RW.rg ?_)
      repeat first | refine RL.step MR.mv ?_ | refine RL.step (MR.biE rfl) ?_ | refine RL.step (MR.b2 rfl) ?_
      refine RL.nil (RW.rt ⟨sv, rfl, ?_, hb⟩)
      have : bs = down n k := by simpa [down] using hbs
      rw [← this]; exact ho
    | succ i =>
      refine RL.nil (RW.cd (b := true) (by show Value.bool (decide ((0 : Int) ≤ ((i + 1 : Nat) : Int) - 1)) = _; simp) (fun _ => RW.sk ?_) (fun e => by cases e))
      refine RW.sq (RW.bl (RW.rg ?_))
      repeat first | refine RL.step MR.mv ?_ | refine RL.step (MR.biE rfl) ?_ | refine RL.step (MR.b2 rfl) ?_
      have hw : IntKind.i64.wrap (8 * (((i + 1 : Nat) : Int) - 1)) = ((8 * i : Nat) : Int) := by rw [wrap_i64 (by omega) (by omega)]; omega
      refine RL.step (MR.b2 (v := .int .i64 (n.fdiv (2 ^ (8 * i)))) ?_) (RL.step (MR.cvI rfl (tk.i64 h64) tk.u8i) ?_)
      · show evB .shr (.int .i64 n) (.int .i64 (IntKind.i64.wrap (8 * (((i + 1 : Nat) : Int) - 1)))) = _
        rw [hw]
        simp only [evB, Int.toNat_natCast]
        rw [if_pos (by omega), show min (8 * i) IntKind.i64.bits = 8 * i from by simp only [IntKind.bits]; omega]
      refine RL.bslAp (l := [UInt8.ofNat ((n.fdiv (2 ^ (8 * i))) % 256).toNat]) (sv := sv) (bs := bs) tk.u8s tk.u8 ?_ (by simp) rfl (by omega) ho (Nat.le_trans (Nat.le_refl _) hb.size) (by simp [lim]; omega) ?_
      · show [Value.int .u8 (IntKind.u8.wrap (n.fdiv (2 ^ (8 * i))))] = _
        rw [byteV_mod]; rfl
      rintro ρ1 sv1 w2 rfl o1 b1
      repeat first | refine RL.step MR.mv ?_ | refine RL.step (MR.biE rfl) ?_ | refine RL.step (MR.b2 rfl) ?_
      refine RL.nil (RW.rg ?_)
      repeat first | refine RL.step MR.mv ?_ | refine RL.step (MR.biE rfl) ?_ | refine RL.step (MR.b2 rfl) ?_
      refine RL.nil ⟨⟨i, sv1, bs ++ [UInt8.ofNat ((n.fdiv (2 ^ (8 * i))) % 256).toNat], by omega, rfl, rfl, ?_, o1, hb.trans b1, ?_, by simp; omega⟩, ?_⟩
      · show Value.int .i64 (IntKind.i64.wrap (((i + 1 : Nat) : Int) - 1 - 1)) = _
        rw [wrap_i64 (by omega) (by omega)]; congr 1; omega
      · rw [← hbs]; simp [down]
      · show (IntKind.i64.wrap (((i + 1 : Nat) : Int) - 1 - 1) + 1).toNat < (intOf (ρ 6) + 1).toNat
        rw [h6, wrap_i64 (by omega) (by omega)]
        simp only [intOf]; omega
  · intro ρ ρ' w h; rw [h 6 (by omega)]
/-! ### Uvarint -/
def UvC (P : Program) (U f : Nat) : Prop := entersB P f = true ∧ ∀ (w : World) (n : Nat), n < 18446744073709551616 → RetB P U f [.int .u64 (n : Nat)] w (uv n)
theorem and127q {n : Nat} (h : n < 18446744073709551616) : IntKind.u64.wrap ((BitVec.ofInt IntKind.u64.bits (n : Int) &&& BitVec.ofInt IntKind.u64.bits 127).toNat : Int) = ((n % 128 : Nat) : Int) := by
  show IntKind.u64.wrap ((BitVec.ofInt 64 (n : Int) &&& BitVec.ofInt 64 127).toNat : Int) = _
  have e : (BitVec.ofInt 64 (n : Int)).toNat = n := by rw [BitVec.toNat_ofInt]; omega
  rw [BitVec.toNat_and, e, show (BitVec.ofInt 64 127).toNat = 2 ^ 7 - 1 from rfl, Nat.and_two_pow_sub_one_eq_mod, wrap_mod (.inr (.inr ⟨rfl, rfl⟩))]
  omega
theorem or128b {n : Nat} (h : n < 128) : IntKind.u8.wrap ((BitVec.ofInt IntKind.u8.bits (n : Int) ||| BitVec.ofInt IntKind.u8.bits 128).toNat : Int) = ((n + 128 : Nat) : Int) := by
  show IntKind.u8.wrap ((BitVec.ofInt 8 (n : Int) ||| BitVec.ofInt 8 128).toNat : Int) = _
  have e : (BitVec.ofInt 8 (n : Int)).toNat = n := by rw [BitVec.toNat_ofInt]; omega
  rw [BitVec.toNat_or, e, show (BitVec.ofInt 8 128).toNat = 2 ^ 7 from rfl]
  have := Nat.two_pow_add_eq_or_of_lt (show n < 2 ^ 7 from h) 1
  rw [Nat.or_comm, show 2 ^ 7 ||| n = n + 128 from by rw [show (2 : Nat) ^ 7 * 1 = 2 ^ 7 from rfl] at this; omega, IntKind.wrap_u8]
  omega
theorem uvb_len : ∀ k n, (uvb k n).length ≤ k + 1
  | 0, n => by simp [uvb]
  | k + 1, n => by
    unfold uvb
    split
    · simp
    · have := uvb_len k (n / 128); simp; omega
theorem uvar_ok {f : Nat} (tk : TOK P S.T) (h64 : S.T.u64 ≠ 0) (hf : FnIs P f (cUvar S) 20 2) : UvC P S.T.u8 f := by
  refine ⟨hf.ent, fun w n0 hn0 => ?_⟩
  refine hf.runs (by simp) (by omega) ?_
  refine RW.sq (RW.rg (RL.step MR.mv (RL.nil (RW.sq (RW.rg (RL.step MR.mv (RL.nil (RW.sq (RW.bl ?_)))))))))
  refine RW.lp (fun ρ w' => ∃ (k n : Nat) (sv : Value) (bs : List UInt8), n < 2 ^ (7 * k + 1) ∧ k ≤ 9 ∧ ρ 0 = .int .u64 (n : Nat) ∧ ρ 3 = sv ∧ OwnB S.T.u8 w' w.heap.size sv bs ∧ Below w.heap.size w w' ∧ bs ++ uvb k n = uv n0)
    (fun ρ _ => (intOf (ρ 0)).toNat) ⟨9, n0, .slice none 0 0, [], hn0, by omega, rfl, rfl, OwnB.nil _ _ _, Below.refl _ _, rfl⟩ ?_ ?_
  · rintro ρ w1 ⟨k, n, sv, bs, hnk, hk9, h0, h3, ho, hb, hbs⟩
    have hn : n < 18446744073709551616 := Nat.lt_of_lt_of_le hnk (Nat.pow_le_pow_right (by omega) (show 7 * k + 1 ≤ 64 by omega))
    have hlen : bs.length + (uvb k n).length ≤ 10 := by rw [← List.length_append, hbs]; exact uvb_len 9 n0
    refine RW.knows [(0, .int .u64 (n : Nat)), (3, sv)] (by simp [h0, h3]) (RW.sq (RW.sq (RW.rg ?_)))
    repeat first | refine RL.step MR.mv ?_ | refine RL.step (MR.biE rfl) ?_ | refine RL.step (MR.b2 rfl) ?_
    by_cases hlt : n < 128
    · have hq : uvb k n = [UInt8.ofNat n] := by cases k <;> simp [uvb, hlt]
      refine RL.nil (RW.cd (b := false) (by show Value.bool (decide ((127 : Int) < (n : Int))) = _; simp; omega) (fun e => by cases e) (fun _ => RW.ex ?_))
      refine RW.sq (RW.rg ?_)
      repeat first | refine RL.step MR.mv ?_ | refine RL.step (MR.biE rfl) ?_ | refine RL.step (MR.b2 rfl) ?_
      refine RL.step (MR.cvI rfl (tk.u64 h64) tk.u8i) ?_
      refine RL.bslAp (l := [UInt8.ofNat n]) (sv := sv) (bs := bs) tk.u8s tk.u8 ?_ (by simp) rfl (by omega) ho hb.size (by simp [lim]; omega) ?_
      · show [Value.int .u8 (IntKind.u8.wrap (n : Int))] = _
        rw [byteV_wrap (by omega)]; rfl
      rintro ρ1 sv1 w2 rfl o1 b1
      repeat first | refine RL.step MR.mv ?_ | refine RL.step (MR.biE rfl) ?_ | refine RL.step (MR.b2 rfl) ?_
      refine RL.nil (RW.rt ⟨sv1, rfl, ?_, hb.trans b1⟩)
      rw [← hbs, hq]; exact o1
    · cases k with
      | zero => simp at hnk; omega
      | succ k =>
        have hq : uvb (k + 1) n = UInt8.ofNat (n % 128 + 128) :: uvb k (n / 128) := by simp [uvb, hlt]
        refine RL.nil (RW.cd (b := true) (by show Value.bool (decide ((127 : Int) < (n : Int))) = _; simp; omega) (fun _ => RW.sk ?_) (fun e => by cases e))
        refine RW.bl (RW.sq (RW.rg ?_))
        repeat first | refine RL.step MR.mv ?_ | refine RL.step (MR.biE rfl) ?_ | refine RL.step (MR.b2 rfl) ?_
        refine RL.step (MR.cvI rfl (tk.u64 h64) tk.u8i) ?_
        repeat first | refine RL.step MR.mv ?_ | refine RL.step (MR.biE rfl) ?_ | refine RL.step (MR.b2 rfl) ?_
        refine RL.bslAp (l := [UInt8.ofNat (n % 128 + 128)]) (sv := sv) (bs := bs) tk.u8s tk.u8 ?_ (by simp) rfl (by omega) ho hb.size (by simp [lim]; omega) ?_
        · show [Value.int .u8 (IntKind.u8.wrap ((BitVec.ofInt IntKind.u8.bits (IntKind.u8.wrap (IntKind.u64.wrap ((BitVec.ofInt IntKind.u64.bits (n : Int) &&& BitVec.ofInt IntKind.u64.bits 127).toNat : Int))) ||| BitVec.ofInt IntKind.u8.bits 128).toNat : Int))] = _
          rw [and127q hn, show IntKind.u8.wrap ((n % 128 : Nat) : Int) = ((n % 128 : Nat) : Int) from by rw [IntKind.wrap_u8]; omega, or128b (by omega), byteV_nat (by omega)]; rfl
        rintro ρ1 sv1 w2 rfl o1 b1
        repeat first | refine RL.step MR.mv ?_ | refine RL.step (MR.biE rfl) ?_ | refine RL.step (MR.b2 rfl) ?_
        refine RL.nil (RW.rg ?_)
        repeat first | refine RL.step MR.mv ?_ | refine RL.step (MR.biE rfl) ?_ | refine RL.step (MR.b2 rfl) ?_
        refine RL.nil ⟨⟨k, n / 128, sv1, bs ++ [UInt8.ofNat (n % 128 + 128)], ?_, by omega, ?_, rfl, o1, hb.trans b1, ?_⟩, ?_⟩
        · have : 2 ^ (7 * (k + 1) + 1) = 128 * 2 ^ (7 * k + 1) := by rw [show 7 * (k + 1) + 1 = 7 + (7 * k + 1) from by omega, Nat.pow_add]
          omega
        · show Value.int .u64 (Int.fdiv (n : Int) ((128 : Nat) : Int)) = _
          rw [shr_nat n 128 (by omega)]
        · rw [← hbs, hq]; simp
        · show (Int.fdiv (n : Int) ((128 : Nat) : Int)).toNat < (intOf (ρ 0)).toNat
          rw [h0, shr_nat n 128 (by omega)]
          simp only [intOf]; omega
  · intro ρ ρ' w h; rw [h 0 (by omega)]
end
mutual
inductive Fd where
  | mk (kind fr to nul tag df of : Int) (sub : Fds)
inductive Fds where
  | nil
  | cons (f : Fd) (r : Fds)
end

mutual
inductive Tr where
  | mk (n : Int) (s : List UInt8) (null : Bool) (l : Trs) (u : List (Nat × List UInt8))
inductive Trs where
  | nil
  | cons (t : Tr) (r : Trs)
end

def Fds.toList : Fds → List Fd
  | .nil => []
  | .cons f r => f :: r.toList
def Trs.toList : Trs → List Tr
  | .nil => []
  | .cons t r => t :: r.toList
def Fd.kind : Fd → Int | .mk k _ _ _ _ _ _ _ => k
def Fd.fr : Fd → Int | .mk _ k _ _ _ _ _ _ => k
def Fd.to : Fd → Int | .mk _ _ k _ _ _ _ _ => k
def Fd.nul : Fd → Int | .mk _ _ _ k _ _ _ _ => k
def Fd.tag : Fd → Int | .mk _ _ _ _ k _ _ _ => k
def Fd.df : Fd → Int | .mk _ _ _ _ _ k _ _ => k
def Fd.of : Fd → Int | .mk _ _ _ _ _ _ k _ => k
def Fd.sub : Fd → Fds | .mk _ _ _ _ _ _ _ k => k
def Tr.n : Tr → Int | .mk n _ _ _ _ => n
def Tr.s : Tr → List UInt8 | .mk _ s _ _ _ => s
def Tr.null : Tr → Bool | .mk _ _ b _ _ => b
def Tr.l : Tr → List Tr | .mk _ _ _ l _ => l.toList
def Tr.u : Tr → List (Nat × List UInt8) | .mk _ _ _ _ u => u
def Tr.zero : Tr := .mk 0 [] false .nil []
/-! ### What is written -/
def sHas (fr to v : Int) : Bool := decide (fr ≤ v) && (decide (to < 0) || decide (v ≤ to))
def sNull (nul v : Int) (b : Bool) : Bool := b && decide (0 ≤ nul) && decide (nul ≤ v)
def sCnt (flex null : Bool) (n size : Nat) : List UInt8 := if null then cntNull flex size else cnt flex size n
def sWid (kind : Int) : Nat := if kind = 1 then 1 else if kind = 2 ∨ kind = 5 then 2 else if kind = 3 then 4 else 8
def most : Nat := 32767
def sVal (kind : Int) (part : Tr → List UInt8) (null flex : Bool) (t : Tr) : List UInt8 :=
  if kind = 0 then [UInt8.ofNat (t.n % 2).toNat]
  else if kind = 7 then (t.s ++ List.replicate 16 0).take 16
  else if kind = 8 then sCnt flex null (if null then [] else t.s.take most).length 2 ++ (if null then [] else t.s.take most)
  else if kind = 9 then sCnt flex null (if null then [] else t.s.take most).length 4 ++ (if null then [] else t.s.take most)
  else if kind = 10 then part t
  else fix t.n (sWid kind)
def insTag (t : Nat × List UInt8) : List (Nat × List UInt8) → List (Nat × List UInt8)
  | [] => [t]
  | x :: xs => if x.1 < t.1 then x :: insTag t xs else if x.1 = t.1 then x :: xs else t :: x :: xs
def sUnk (least : Nat) (l : List (Nat × List UInt8)) : List (Nat × List UInt8) := (l.take most).foldl (fun out t => if t.1 < least then out else insTag t out) []
def sTag (t : Nat × List UInt8) : List UInt8 := uv t.1 ++ uv (t.2.take most).length ++ t.2.take most
def sTags (flex : Bool) (t : Tr) : List UInt8 := if flex then uv (sUnk 0 t.u).length ++ (sUnk 0 t.u).flatMap sTag else []
mutual
def sField (ver : Int) (flex : Bool) : Fd → Tr → List UInt8
  | .mk kind _ _ nul _ _ of sub, t =>
    if kind = 11 then sCnt flex (sNull nul ver t.null) (if sNull nul ver t.null then [] else t.l.take most).length 4 ++ (if sNull nul ver t.null then [] else t.l.take most).flatMap (sVal of (fun t => sPlain ver flex sub 0 t ++ sTags flex t) false flex)
    else if kind = 10 ∧ 0 ≤ nul then if sNull nul ver t.null then fix (-1) 1 else fix 1 1 ++ (sPlain ver flex sub 0 t ++ sTags flex t)
    else sVal kind (fun t => sPlain ver flex sub 0 t ++ sTags flex t) (sNull nul ver t.null) flex t
def sPlain (ver : Int) (flex : Bool) : Fds → Nat → Tr → List UInt8
  | .nil, _, _ => []
  | .cons f r, i, t => (if sHas f.fr f.to ver then sField ver flex f (t.l.getD i .zero) else []) ++ sPlain ver flex r (i + 1) t
end
def sPart (ver : Int) (flex : Bool) (fs : Fds) (t : Tr) : List UInt8 := sPlain ver flex fs 0 t ++ sTags flex t
/-! ### .. of messages with known tags -/
def sKnown (fs : Fds) : Nat := fs.toList.foldl (fun n f => if 0 ≤ f.tag then max n (f.tag.toNat + 1) else n) 0
mutual
def sUsual : Fd → Tr → Bool
  | .mk kind _ _ nul _ df _ sub, t =>
    if kind = 0 then decide (t.n % 2 = df)
    else if kind = 7 then (t.s.take 16).all (fun b => decide (b.toNat = 0))
    else if kind = 8 ∨ kind = 9 then (if 0 ≤ nul then t.null else t.s.isEmpty)
    else if kind = 11 then t.l.isEmpty
    else if kind = 10 then sUsuals sub 0 t && (sUnk (sKnown sub) t.u).isEmpty
    else decide (fix t.n (sWid kind) = fix df (sWid kind))
def sUsuals : Fds → Nat → Tr → Bool
  | .nil, _, _ => true
  | .cons f r, i, t => sUsual f (t.l.getD i .zero) && sUsuals r (i + 1) t
end

def encK1 (x : Nat × List UInt8) : List UInt8 := uv x.1 ++ uv x.2.length ++ x.2
def tagsOf (kn un : List (Nat × List UInt8)) : List UInt8 := uv (kn.length + un.length) ++ (kn.flatMap encK1 ++ un.flatMap sTag)
mutual
def kField (ver : Int) (flex : Bool) : Fd → Tr → List UInt8
  | .mk kind _ _ nul _ _ of sub, t =>
    if kind = 11 then sCnt flex (sNull nul ver t.null) (if sNull nul ver t.null then [] else t.l.take most).length 4 ++ (if sNull nul ver t.null then [] else t.l.take most).flatMap (sVal of (fun t => kPlain ver flex sub 0 t ++ (if flex then tagsOf ((List.range (sKnown sub)).flatMap fun g => kKn ver flex g sub 0 t) (sUnk (sKnown sub) t.u) else [])) false flex)
    else if kind = 10 ∧ 0 ≤ nul then if sNull nul ver t.null then fix (-1) 1 else fix 1 1 ++ (kPlain ver flex sub 0 t ++ (if flex then tagsOf ((List.range (sKnown sub)).flatMap fun g => kKn ver flex g sub 0 t) (sUnk (sKnown sub) t.u) else []))
    else sVal kind (fun t => kPlain ver flex sub 0 t ++ (if flex then tagsOf ((List.range (sKnown sub)).flatMap fun g => kKn ver flex g sub 0 t) (sUnk (sKnown sub) t.u) else [])) (sNull nul ver t.null) flex t
def kPlain (ver : Int) (flex : Bool) : Fds → Nat → Tr → List UInt8
  | .nil, _, _ => []
  | .cons f r, i, t => (if decide (f.tag < 0) && sHas f.fr f.to ver then kField ver flex f (t.l.getD i .zero) else []) ++ kPlain ver flex r (i + 1) t
def kKn (ver : Int) (flex : Bool) (g : Nat) : Fds → Nat → Tr → List (Nat × List UInt8)
  | .nil, _, _ => []
  | .cons f r, i, t => (if decide (f.tag = (g : Int)) && !sUsual f (t.l.getD i .zero) then [(g, kField ver flex f (t.l.getD i .zero))] else []) ++ kKn ver flex g r (i + 1) t
end
def kKns (ver : Int) (flex : Bool) (fs : Fds) (t : Tr) : List (Nat × List UInt8) := (List.range (sKnown fs)).flatMap fun g => kKn ver flex g fs 0 t
def kTags (ver : Int) (flex : Bool) (fs : Fds) (t : Tr) : List UInt8 := if flex then tagsOf (kKns ver flex fs t) (sUnk (sKnown fs) t.u) else []
def kPart (ver : Int) (flex : Bool) (fs : Fds) (t : Tr) : List UInt8 := kPlain ver flex fs 0 t ++ kTags ver flex fs t
/-! ### How it lies in memory -/
def okAd (ad : Option Addr) : Prop := ad = none ∨ ∃ g o, ad = some ⟨g, o, none⟩
def okA (n : Nat) (ad : Option Addr) : Prop := n = 0 ∨ okAd ad
mutual
def RepFd (w : World) : Fd → List Value → Prop
  | .mk kind fr to nul tag df of sub, cs => ∃ sl, cs = [.int .i64 kind, .int .i64 fr, .int .i64 to, .int .i64 nul, .int .i64 tag, .int .i64 df, .int .i64 of, sl] ∧ ∃ ad c, sl = .slice ad sub.toList.length c ∧ RowsF w ad 0 sub
def RowsF (w : World) : Option Addr → Nat → Fds → Prop
  | _, _, .nil => True
  | ad, i, .cons f r => (∃ g o cs, ad = some ⟨g, o, none⟩ ∧ w.rangeAt g (o + i * 8) cs ∧ RepFd w f cs) ∧ RowsF w ad (i + 1) r
end

def TagRow (w : World) (cs : List Value) (t : Nat × List UInt8) : Prop := t.1 < 4294967296 ∧ ∃ ad c, cs = [.int .u32 (t.1 : Nat), .slice ad t.2.length c] ∧ okA t.2.length ad ∧ t.2.length ≤ c ∧ BytesAt w (fun _ => True) ad t.2
def TagsS (w : World) (v : Value) (u : List (Nat × List UInt8)) : Prop := ∃ ad c, v = .slice ad u.length c ∧ okA u.length ad ∧ u.length ≤ c ∧ ∀ i t, u[i]? = some t → ∃ g o cs, ad = some ⟨g, o, none⟩ ∧ w.rangeAt g (o + i * 2) cs ∧ TagRow w cs t
mutual
def RepTr (w : World) : Tr → List Value → Prop
  | .mk n s null l u, cs => ∃ sS sL sU, cs = [.int .i64 n, sS, .bool null, sL, sU] ∧ (-9223372036854775808 ≤ n ∧ n ≤ 9223372036854775807) ∧ (∃ ad c, sS = .slice ad s.length c ∧ okA s.length ad ∧ s.length ≤ c ∧ BytesAt w (fun _ => True) ad s) ∧
      (∃ ad c, sL = .slice ad l.toList.length c ∧ okA l.toList.length ad ∧ l.toList.length ≤ c ∧ RowsT w ad 0 l) ∧ TagsS w sU u
def RowsT (w : World) : Option Addr → Nat → Trs → Prop
  | _, _, .nil => True
  | ad, i, .cons t r => (∃ g o cs, ad = some ⟨g, o, none⟩ ∧ w.rangeAt g (o + i * 5) cs ∧ RepTr w t cs) ∧ RowsT w ad (i + 1) r
end

section
variable {w w' : World}
theorem TagRow.kp {cs : List Value} {t : Nat × List UInt8} (h : TagRow w cs t) (k : Kp w w') : TagRow w' cs t := by
  obtain ⟨h1, ad, c, h2, h3, h4, h5⟩ := h
  exact ⟨h1, ad, c, h2, h3, h4, h5.kp k⟩
theorem TagsS.kp {v : Value} {u : List (Nat × List UInt8)} (h : TagsS w v u) (k : Kp w w') : TagsS w' v u := by
  obtain ⟨ad, c, h1, h2, h3, h4⟩ := h
  refine ⟨ad, c, h1, h2, h3, fun i t hi => ?_⟩
  obtain ⟨g, o, cs, g1, g2, g3⟩ := h4 i t hi
  exact ⟨g, o, cs, g1, rangeAt_kp g2 k, g3.kp k⟩
mutual
theorem RepFd.kp (k : Kp w w') : ∀ (f : Fd) {cs : List Value}, RepFd w f cs → RepFd w' f cs
  | .mk _ _ _ _ _ _ _ sub, cs, h => by
    unfold RepFd at h ⊢
    obtain ⟨sl, h1, ad, c, h2, h3⟩ := h
    exact ⟨sl, h1, ad, c, h2, RowsF.kp k sub h3⟩
theorem RowsF.kp (k : Kp w w') : ∀ (fs : Fds) {ad : Option Addr} {i : Nat}, RowsF w ad i fs → RowsF w' ad i fs
  | .nil, _, _, _ => by unfold RowsF; trivial
  | .cons f r, ad, i, h => by
    unfold RowsF at h ⊢
    obtain ⟨⟨g, o, cs, h1, h2, h3⟩, h4⟩ := h
    exact ⟨⟨g, o, cs, h1, rangeAt_kp h2 k, RepFd.kp k f h3⟩, RowsF.kp k r h4⟩
end
mutual
theorem RepTr.kp (k : Kp w w') : ∀ (t : Tr) {cs : List Value}, RepTr w t cs → RepTr w' t cs
  | .mk _ _ _ l _, cs, h => by
    unfold RepTr at h ⊢
    obtain ⟨sS, sL, sU, h1, hn, ⟨ad, c, h2, h3, h4, h5⟩, ⟨ad', c', h6, h7, h8, h9⟩, h10⟩ := h
    exact ⟨sS, sL, sU, h1, hn, ⟨ad, c, h2, h3, h4, h5.kp k⟩, ⟨ad', c', h6, h7, h8, RowsT.kp k l h9⟩, h10.kp k⟩
theorem RowsT.kp (k : Kp w w') : ∀ (l : Trs) {ad : Option Addr} {i : Nat}, RowsT w ad i l → RowsT w' ad i l
  | .nil, _, _, _ => by unfold RowsT; trivial
  | .cons f r, ad, i, h => by
    unfold RowsT at h ⊢
    obtain ⟨⟨g, o, cs, h1, h2, h3⟩, h4⟩ := h
    exact ⟨⟨g, o, cs, h1, rangeAt_kp h2 k, RepTr.kp k f h3⟩, RowsT.kp k r h4⟩
end

theorem RowsT.at {ad : Option Addr} : ∀ {l : Trs} {i j : Nat} {t : Tr}, RowsT w ad i l → l.toList[j]? = some t → ∃ g o cs, ad = some ⟨g, o, none⟩ ∧ w.rangeAt g (o + (i + j) * 5) cs ∧ RepTr w t cs
  | .nil, i, j, t, _, hj => by simp [Trs.toList] at hj
  | .cons t r, i, j, t', h, hj => by
    unfold RowsT at h
    cases j with
    | zero => simp [Trs.toList] at hj; subst hj; exact h.1
    | succ j =>
      obtain ⟨g, o, cs, h1, h2, h3⟩ := RowsT.at (j := j) h.2 (by simpa [Trs.toList] using hj)
      exact ⟨g, o, cs, h1, by rw [show i + (j + 1) = i + 1 + j from by omega]; exact h2, h3⟩
theorem RowsF.at {ad : Option Addr} : ∀ {l : Fds} {i j : Nat} {t : Fd}, RowsF w ad i l → l.toList[j]? = some t → ∃ g o cs, ad = some ⟨g, o, none⟩ ∧ w.rangeAt g (o + (i + j) * 8) cs ∧ RepFd w t cs
  | .nil, i, j, t, _, hj => by simp [Fds.toList] at hj
  | .cons t r, i, j, t', h, hj => by
    unfold RowsF at h
    cases j with
    | zero => simp [Fds.toList] at hj; subst hj; exact h.1
    | succ j =>
      obtain ⟨g, o, cs, h1, h2, h3⟩ := RowsF.at (j := j) h.2 (by simpa [Fds.toList] using hj)
      exact ⟨g, o, cs, h1, by rw [show i + (j + 1) = i + 1 + j from by omega]; exact h2, h3⟩
end
/-! ### What the program's tables must say -/
def zeroAgg (P : Program) (T : Nat) (z : List Value) : Prop := ∃ i, P.info? T = some i ∧ i.zero = some (.agg z.toArray)
def allIs : List MVal → List Value → Bool
  | [], [] => true
  | m :: ms, v :: vs => m.is v && allIs ms vs
  | _, _ => false
theorem allIs_eq : ∀ {ms : List MVal} {vs : List Value}, allIs ms vs = true → vs = ms.map MVal.val
  | [], [], _ => rfl
  | [], _ :: _, h => by simp [allIs] at h
  | _ :: _, [], h => by simp [allIs] at h
  | m :: ms, v :: vs, h => by
    simp only [allIs, Bool.and_eq_true] at h
    rw [MVal.is_eq h.1, allIs_eq h.2]; rfl
def zeroIs (P : Program) (T : Nat) (z : List MVal) : Bool :=
  match P.info? T with
  | some i => (match i.zero with | some (.agg cs) => allIs z cs.toList | _ => false)
  | none => false
theorem zeroIs_of {P : Program} {T : Nat} {z : List MVal} (h : zeroIs P T z = true) : zeroAgg P T (z.map MVal.val) := by
  unfold zeroIs at h
  cases hi : P.info? T with
  | none => simp [hi] at h
  | some i =>
    simp only [hi] at h
    refine ⟨i, hi, ?_⟩
    cases hz : i.zero with
    | none => simp [hz] at h
    | some v =>
      cases v <;> simp only [hz, Bool.false_eq_true] at h
      rw [← allIs_eq h]
def plcIs : Nat → List (Nat × Nat) → Bool
  | _, [] => true
  | k, p :: ps => Nat.beq p.1 k && Nat.beq p.2 1 && plcIs (k + 1) ps
def plcB (P : Program) (T n : Nat) : Bool :=
  match P.underlying T with
  | some (.struct fields) => (match fields.toList.mapM (fun f => (P.info? f.type).map fun i => (f.offset, i.size)) with | some ps => plcIs 0 ps && Nat.beq ps.length n | none => false)
  | _ => false
theorem plcIs_get : ∀ {ps : List (Nat × Nat)} {k i : Nat}, plcIs k ps = true → i < ps.length → ps[i]? = some (k + i, 1)
  | [], k, i, _, h => by simp at h
  | p :: ps, k, i, h, hi => by
    simp only [plcIs, Bool.and_eq_true, Nat.beq_eq] at h
    obtain ⟨⟨h1, h2⟩, h3⟩ := h
    cases i with
    | zero => simp only [List.getElem?_cons_zero, Option.some.injEq]; exact Prod.ext (by simpa using h1) h2
    | succ i => rw [List.getElem?_cons_succ, plcIs_get h3 (by simpa using hi)]; congr 2; omega
theorem fill_one {place : Nat → Option (Nat × Nat)} {n : Nat} (hp : ∀ i, i < n → place i = some (i, 1)) : ∀ (parts : List (Nat × Value)) (cells : Array Value), cells.size = n → (∀ p ∈ parts, p.1 < n ∧ p.2.cells = #[p.2]) →
    Instr.fill place cells parts = some (parts.foldl (fun cs p => cs.setIfInBounds p.1 p.2) cells)
  | [], cells, _, _ => rfl
  | (i, v) :: rest, cells, hc, h => by
    have h1 := h (i, v) List.mem_cons_self
    dsimp only at h1
    simp only [Instr.fill, hp i h1.1, h1.2]
    rw [if_neg (by simp; omega)]
    have e : ((#[v] : Array Value).zipIdx.foldl (fun (cs : Array Value) (x : Value × Nat) => match x with | (c, j) => cs.setIfInBounds (i + j) c) cells) = cells.setIfInBounds i v := by simp
    rw [e, fill_one hp rest _ (by simpa using hc) (fun p hp' => h p (List.mem_cons_of_mem _ hp'))]
    rfl
theorem built_of {P : Program} {T : Nat} {z : List Value} {parts : List (Nat × Value)} {cells : List Value} (hz : zeroAgg P T z) (hp : plcB P T z.length = true) (h : ∀ p ∈ parts, p.1 < z.length ∧ p.2.cells = #[p.2])
    (hc : parts.foldl (fun cs p => cs.setIfInBounds p.1 p.2) z.toArray = cells.toArray) (w : World) : (Instr.build T parts.toArray).run P w = .ok (.agg cells.toArray) w := by
  obtain ⟨it, hit, hzv⟩ := hz
  refine run_build w T _ _ ?_
  unfold plcB at hp
  cases hu : P.underlying T with
  | none => simp [hu] at hp
  | some d =>
    cases d <;> simp only [hu, Bool.false_eq_true] at hp
    rename_i fields
    cases hm : fields.toList.mapM (fun f => (P.info? f.type).map fun i => (f.offset, i.size)) with
    | none => simp [hm] at hp
    | some ps =>
      simp only [hm, Bool.and_eq_true, Nat.beq_eq] at hp
      unfold Program.built
      simp only [hit, hu, hzv, hm, Value.cells]
      rw [fill_one (n := z.length) (fun i hi => by
        rw [List.getElem?_toArray]
        have := plcIs_get (i := i) hp.1 (by omega)
        rw [this]; simp) parts z.toArray (by simp) h, hc]
def bytesLe (P : Program) (T n : Nat) : Bool :=
  match P.info? T with
  | some i => Nat.ble i.bytes n
  | none => false
structure SOK (P : Program) (S : SN) : Prop where
  tk : TOK P S.T
  hi64 : S.T.i64 ≠ 0
  hu64 : S.T.u64 ≠ 0
  hu32 : S.T.u32 ≠ 0
  mo : P.follows .mixedOrders = true
  fds : sliceOf P S.fds S.fd = true
  trs : sliceOf P S.trs S.tr = true
  tgs : sliceOf P S.tgs S.tg = true
  fdN : cellsB P S.fd 8 = true
  trN : cellsB P S.tr 5 = true
  tgN : cellsB P S.tg 2 = true
  msN : cellsB P S.msg 2 = true
  fdR : rowTy P S.fd = true
  trR : rowTy P S.tr = true
  tgR : rowTy P S.tg = true
  msR : rowTy P S.msg = true
  fdF : ∀ j, j < 8 → fieldAtB P S.fd j j = true
  trF : ∀ j, j < 5 → fieldAtB P S.tr j j = true
  tgF : ∀ j, j < 2 → fieldAtB P S.tg j j = true
  msF : ∀ j, j < 2 → fieldAtB P S.msg j j = true
  pInt : plainTy P S.T.int = true
  pI64 : plainTy P S.T.i64 = true
  pBool : plainTy P S.T.bool = true
  pU8s : plainTy P S.T.u8s = true
  pFds : plainTy P S.fds = true
  pTrs : plainTy P S.trs = true
  pTgs : plainTy P S.tgs = true
  pU32 : plainTy P S.T.u32 = true
  pU8 : plainTy P S.T.u8 = true
  zTr : zeroAgg P S.tr [.int .i64 0, .slice none 0 0, .bool false, .slice none 0 0, .slice none 0 0]
  zFd : zeroAgg P S.fd [.int .i64 0, .int .i64 0, .int .i64 0, .int .i64 0, .int .i64 0, .int .i64 0, .int .i64 0, .slice none 0 0]
  zTg : zeroAgg P S.tg [.int .u32 0, .slice none 0 0]
  zMs : zeroAgg P S.msg [.slice none 0 0, .int .i64 0]
  byTr : bytesLe P S.tr 1000 = true
  lTr : plcB P S.tr 5 = true
  lFd : plcB P S.fd 8 = true
  lTg : plcB P S.tg 2 = true
  lMs : plcB P S.msg 2 = true
structure SOK0 (P : Program) (S : SN) : Prop where
  tk : TOK P S.T
  mo : P.follows .mixedOrders = true
  pU8 : plainTy P S.T.u8 = true
theorem SOK.z {P : Program} {S : SN} (h : SOK P S) : SOK0 P S := ⟨h.tk, h.mo, h.pU8⟩
def sokB (P : Program) (S : SN) : List Bool := [tokB P S.T, yes S.T.i64, yes S.T.u64, yes S.T.u32, P.follows .mixedOrders, sliceOf P S.fds S.fd, sliceOf P S.trs S.tr, sliceOf P S.tgs S.tg, cellsB P S.fd 8, cellsB P S.tr 5, cellsB P S.tg 2, cellsB P S.msg 2,
  rowTy P S.fd, rowTy P S.tr, rowTy P S.tg, rowTy P S.msg, (List.range 8).all (fun j => fieldAtB P S.fd j j), (List.range 5).all (fun j => fieldAtB P S.tr j j), (List.range 2).all (fun j => fieldAtB P S.tg j j), (List.range 2).all (fun j => fieldAtB P S.msg j j),
  plainTy P S.T.int, plainTy P S.T.i64, plainTy P S.T.bool, plainTy P S.T.u8s, plainTy P S.fds, plainTy P S.trs, plainTy P S.tgs, plainTy P S.T.u32, plainTy P S.T.u8,
  zeroIs P S.tr [.int .i64 0, .nslice, .bool false, .nslice, .nslice], zeroIs P S.fd [.int .i64 0, .int .i64 0, .int .i64 0, .int .i64 0, .int .i64 0, .int .i64 0, .int .i64 0, .nslice], zeroIs P S.tg [.int .u32 0, .nslice], zeroIs P S.msg [.nslice, .int .i64 0],
  bytesLe P S.tr 1000, plcB P S.tr 5, plcB P S.fd 8, plcB P S.tg 2, plcB P S.msg 2]
theorem sok_of {P : Program} {S : SN} (h : (sokB P S).all id = true) : SOK P S := by
  simp only [sokB, List.all_cons, List.all_nil, id_eq, Bool.and_true, Bool.and_eq_true] at h
  obtain ⟨h1, h2, h3, h4, h5, h6, h7, h8, h9, h10, h11, h12, h13, h14, h15, h16, h17, h18, h19, h20, h21, h22, h23, h24, h25, h26, h27, h28, h29, h30, h31, h32, h33, h34, h35, h36, h37, h38⟩ := h
  exact ⟨tok_of h1, yes_of h2, yes_of h3, yes_of h4, h5, h6, h7, h8, h9, h10, h11, h12, h13, h14, h15, h16,
    fun j hj => List.all_eq_true.1 h17 j (List.mem_range.2 hj), fun j hj => List.all_eq_true.1 h18 j (List.mem_range.2 hj), fun j hj => List.all_eq_true.1 h19 j (List.mem_range.2 hj), fun j hj => List.all_eq_true.1 h20 j (List.mem_range.2 hj),
    h21, h22, h23, h24, h25, h26, h27, h28, h29, zeroIs_of h30, zeroIs_of h31, zeroIs_of h32, zeroIs_of h33, h34, h35, h36, h37, h38⟩
section
variable {P : Program} {S : SN} {w : World} {N : Nat} {Q : Exit → (Nat → Value) → World → Prop} {ρ : Nat → Value} {ms : List MOp}
theorem RL.caB {U d f : Nat} {xs : List MX} {out : List UInt8} {args : List Value} (he : entersB P f = true) (hc : RetB P U f args w out) (ha : xs.map (xof ρ) = args)
    (h : ∀ sv w', OwnB U w' w.heap.size sv out → Below w.heap.size w w' → RL P N ms Q (upd ρ d sv) w') (hd : d < N := by decide) (hx : ∀ x ∈ xs, MX.lt N x = true := by simp [MX.lt, Nat.blt_eq]) : RL P N (.ca d f xs :: ms) Q ρ w := by
  refine RL.ca (R := fun sv w' => OwnB U w' w.heap.size sv out ∧ Below w.heap.size w w') he ?_ (fun v w' h' => h v w' h'.1 h'.2) hd hx
  rw [ha]
  refine Calls.mono hc ?_
  rintro e w' ⟨sv, rfl, h2⟩
  exact ⟨sv, rfl, h2⟩
/-! ### width -/
def WidC (P : Program) (f : Nat) : Prop := entersB P f = true ∧ ∀ (w : World) (k : Int), Calls P f #[.int .i64 k] w (fun e w' => e = .returned (.int .i64 (sWid k : Nat)) ∧ w' = w)
theorem width_ok {f : Nat} (hf : FnIs P f (cWidth S) 11 2) : WidC P f := by
  refine ⟨hf.ent, fun w k => ?_⟩
  refine hf.runs (args := [.int .i64 k]) (by simp) (by omega) ?_
  refine RW.sq (RW.rg (RL.step MR.mv (RL.nil (RW.sq (RW.sq (RW.rg (RL.step MR.mv (RL.nil (RW.bl (RW.sq (RW.rg ?_))))))))))) 
  repeat first | refine RL.step MR.mv ?_ | refine RL.step (MR.biE rfl) ?_ | refine RL.step (MR.b2 rfl) ?_
  refine RL.nil (RW.cd (b := (k == 1)) rfl (fun e => ?_) (fun e1 => ?_))
  · have hk : k = 1 := beq_iff_eq.1 e
    subst hk
    exact RW.sq (RW.rg (RL.step MR.mv (RL.nil (RW.rt ⟨rfl, rfl⟩))))
  have h1 : k ≠ 1 := beq_eq_false_iff_ne.1 e1
  refine RW.sq (RW.sq (RW.rg ?_))
  repeat first | refine RL.step MR.mv ?_ | refine RL.step (MR.biE rfl) ?_ | refine RL.step (MR.b2 rfl) ?_
  refine RL.nil (RW.cd (b := (k == 2)) rfl (fun e => RW.sk ?_) (fun e2 => RW.rg ?_))
  · have hk : k = 2 := beq_iff_eq.1 e
    subst hk
    exact RW.cd (b := true) rfl (fun _ => RW.sq (RW.rg (RL.step MR.mv (RL.nil (RW.rt ⟨rfl, rfl⟩))))) (fun e => by cases e)
  have h2 : k ≠ 2 := beq_eq_false_iff_ne.1 e2
  repeat first | refine RL.step MR.mv ?_ | refine RL.step (MR.biE rfl) ?_ | refine RL.step (MR.b2 rfl) ?_
  refine RL.nil (RW.cd (b := (k == 5)) rfl (fun e => ?_) (fun e5 => RW.sq (RW.rg ?_)))
  · have hk : k = 5 := beq_iff_eq.1 e
    subst hk
    exact RW.sq (RW.rg (RL.step MR.mv (RL.nil (RW.rt ⟨rfl, rfl⟩))))
  have h5 : k ≠ 5 := beq_eq_false_iff_ne.1 e5
  repeat first | refine RL.step MR.mv ?_ | refine RL.step (MR.biE rfl) ?_ | refine RL.step (MR.b2 rfl) ?_
  refine RL.nil (RW.cd (b := (k == 3)) rfl (fun e => ?_) (fun e3 => RW.sk ?_))
  · have hk : k = 3 := beq_iff_eq.1 e
    subst hk
    exact RW.sq (RW.rg (RL.step MR.mv (RL.nil (RW.rt ⟨rfl, rfl⟩))))
  have h3 : k ≠ 3 := beq_eq_false_iff_ne.1 e3
  refine RW.sq (RW.rg (RL.step MR.mv (RL.nil (RW.rt ⟨?_, rfl⟩))))
  simp [sWid, h1, h2, h3, h5]
  rfl
/-! ### counted -/
def CntC (P : Program) (U f : Nat) : Prop := entersB P f = true ∧ ∀ (w : World) (flex null : Bool) (n k : Nat), n ≤ 1099511627776 → (k = 1 ∨ k = 2 ∨ k = 4 ∨ k = 8) → RetB P U f [.bool flex, .bool null, .int .i64 n, .int .i64 k] w (sCnt flex null n k)
theorem counted_ok {f : Nat} (ok : SOK P S) (hf : FnIs P f (cCounted S) 28 8) (hfix : FixedC P S.T.u8 S.fFixed) (huv : UvC P S.T.u8 S.fUvar) : CntC P S.T.u8 f := by
  refine ⟨hf.ent, fun w flex null n k hn hk => ?_⟩
  refine hf.runs (by simp) (by omega) ?_
  refine RW.sq (RW.rg (RL.step MR.mv (RL.nil (RW.sq (RW.bl (RW.sq (RW.gf (fun _ => True) trivial ?_)))))))
  cases flex <;> cases null
  · repeat first | refine RG.q (fun _ _ => MR.mv) ?_ | refine RG.q (fun _ _ => MR.biE rfl) ?_ | refine RG.q (fun _ _ => MR.pk rfl) ?_ | refine RG.no (by first | exact ⟨by decide, .inl rfl⟩ | exact ⟨by decide, .inr ⟨rfl, rfl⟩⟩) ?_
    refine RG.nil fun _ => RW.cd (b := false) rfl (fun e => by cases e) (fun _ => RW.sq (RW.rg ?_))
    repeat first | refine RL.step MR.mv ?_ | refine RL.step (MR.biE rfl) ?_ | refine RL.step (MR.b2 rfl) ?_
    refine RL.nil (RW.cd (b := false) rfl (fun e => by cases e) (fun _ => RW.sq (RW.rg ?_)))
    repeat first | refine RL.step MR.mv ?_ | refine RL.step (MR.biE rfl) ?_ | refine RL.step (MR.b2 rfl) ?_
    refine RL.nil (RW.cd (b := false) rfl (fun e => by cases e) (fun _ => RW.sk ?_))
    refine RW.sq (RW.rg ?_)
    repeat first | refine RL.step MR.mv ?_ | refine RL.step (MR.biE rfl) ?_ | refine RL.step (MR.b2 rfl) ?_
    refine RL.caB hfix.1 (hfix.2 w n k hk) rfl fun sv w' o b => ?_
    repeat first | refine RL.step MR.mv ?_ | refine RL.step (MR.biE rfl) ?_ | refine RL.step (MR.b2 rfl) ?_
    exact RL.nil (RW.rt ⟨sv, rfl, o, b⟩)
  · repeat first | refine RG.q (fun _ _ => MR.mv) ?_ | refine RG.q (fun _ _ => MR.biE rfl) ?_ | refine RG.q (fun _ _ => MR.pk rfl) ?_ | refine RG.no (by first | exact ⟨by decide, .inl rfl⟩ | exact ⟨by decide, .inr ⟨rfl, rfl⟩⟩) ?_
    refine RG.nil fun _ => RW.cd (b := false) rfl (fun e => by cases e) (fun _ => RW.sq (RW.rg ?_))
    repeat first | refine RL.step MR.mv ?_ | refine RL.step (MR.biE rfl) ?_ | refine RL.step (MR.b2 rfl) ?_
    refine RL.nil (RW.cd (b := false) rfl (fun e => by cases e) (fun _ => RW.sq (RW.rg ?_)))
    repeat first | refine RL.step MR.mv ?_ | refine RL.step (MR.biE rfl) ?_ | refine RL.step (MR.b2 rfl) ?_
    refine RL.nil (RW.cd (b := true) rfl (fun _ => RW.sq (RW.rg ?_)) (fun e => by cases e))
    repeat first | refine RL.step MR.mv ?_ | refine RL.step (MR.biE rfl) ?_ | refine RL.step (MR.b2 rfl) ?_
    refine RL.caB hfix.1 (hfix.2 w (-1) k hk) rfl fun sv w' o b => ?_
    repeat first | refine RL.step MR.mv ?_ | refine RL.step (MR.biE rfl) ?_ | refine RL.step (MR.b2 rfl) ?_
    exact RL.nil (RW.rt ⟨sv, rfl, o, b⟩)
  · repeat first | refine RG.q (fun _ _ => MR.mv) ?_ | refine RG.q (fun _ _ => MR.biE rfl) ?_ | refine RG.q (fun _ _ => MR.pk rfl) ?_ | refine RG.no (by first | exact ⟨by decide, .inl rfl⟩ | exact ⟨by decide, .inr ⟨rfl, rfl⟩⟩) ?_
    refine RG.nil fun _ => RW.cd (b := false) rfl (fun e => by cases e) (fun _ => RW.sq (RW.rg ?_))
    repeat first | refine RL.step MR.mv ?_ | refine RL.step (MR.biE rfl) ?_ | refine RL.step (MR.b2 rfl) ?_
    refine RL.nil (RW.cd (b := true) rfl (fun _ => RW.sq (RW.rg ?_)) (fun e => by cases e))
    repeat first | refine RL.step MR.mv ?_ | refine RL.step (MR.biE rfl) ?_ | refine RL.step (MR.b2 rfl) ?_
    refine RL.step (MR.cvI rfl ok.tk.int (ok.tk.u64 ok.hu64)) ?_
    repeat first | refine RL.step MR.mv ?_ | refine RL.step (MR.biE rfl) ?_ | refine RL.step (MR.b2 rfl) ?_
    refine RL.caB huv.1 (huv.2 w (n + 1) (by omega)) ?_ fun sv w' o b => ?_
    · show [Value.int .u64 (IntKind.u64.wrap (IntKind.u64.wrap (n : Int) + 1))] = _
      rw [show IntKind.u64.wrap (n : Int) = n from by rw [wrap_mod (.inr (.inr ⟨rfl, rfl⟩))]; omega, show IntKind.u64.wrap ((n : Int) + 1) = ((n + 1 : Nat) : Int) from by rw [wrap_mod (.inr (.inr ⟨rfl, rfl⟩))]; omega]
    repeat first | refine RL.step MR.mv ?_ | refine RL.step (MR.biE rfl) ?_ | refine RL.step (MR.b2 rfl) ?_
    exact RL.nil (RW.rt ⟨sv, rfl, o, b⟩)
  · repeat first | refine RG.q (fun _ _ => MR.mv) ?_ | refine RG.q (fun _ _ => MR.biE rfl) ?_ | refine RG.q (fun _ _ => MR.pk rfl) ?_ | refine RG.no (by first | exact ⟨by decide, .inl rfl⟩ | exact ⟨by decide, .inr ⟨rfl, rfl⟩⟩) ?_
    refine RG.nil fun _ => RW.cd (b := true) rfl (fun _ => RW.sq (RW.rg ?_)) (fun e => by cases e)
    refine RL.bsl8 (bs := [0]) ok.tk.u8s ok.tk.u8 rfl (by simp) ?_
    repeat first | refine RL.step MR.mv ?_ | refine RL.step (MR.biE rfl) ?_ | refine RL.step (MR.b2 rfl) ?_
    refine RL.nil (RW.rt ⟨_, rfl, ?_, (Below.refl _ w).alloc (Nat.le_refl _) _⟩)
    exact World.ownsRow_lit (base := w.heap.size) (e := S.T.u8) (size := 1) w #[byteV 0] 1 (Nat.le_refl _) (by decide) rfl
/-! ### whole, things -/
theorem run_sliceTo {T U n c h : Nat} {ad : Option Addr} {q : Prop} (hT : sliceOf P T U = true) (hU : (P.info? U).isSome = true) (had : q) (hc : h ≤ c) :
    (Instr.sliceAt T (.slice ad n c) none (some (.int .i64 (h : Nat))) none).run P w = .ok (.slice ad h c) w := by
  obtain ⟨i, hi⟩ := Option.isSome_iff_exists.1 hU
  simp only [Instr.sliceAt, Sem.run_bind, run_underlying (sliceOf_eq hT), Result.andThen_ok, Instr.slice, Instr.sliceBounds, Instr.sliceBound, asIntOf, Sem.run_pure, sizeOf, typeInfo, run_program, hi]
  rw [if_pos ⟨by omega, by omega⟩]
  simp only [Sem.run_pure, Result.andThen_ok, Int.toNat_natCast, Nat.sub_zero]
  congr 2
  cases ad with
  | none => split <;> rfl
  | some a =>
    split
    · rfl
    · simp [Addr.add]
theorem cellsB_some {T n : Nat} (h : cellsB P T n = true) : (P.info? T).isSome = true := by
  unfold cellsB at h
  cases hi : P.info? T with
  | none => simp [hi] at h
  | some i => rfl
def CutC (P : Program) (f : Nat) : Prop := entersB P f = true ∧ ∀ (w : World) (ad : Option Addr) (n c : Nat), okA n ad → n ≤ c → Calls P f #[.slice ad n c] w (fun e w' => e = .returned (.slice ad (min n most) c) ∧ w' = w)
theorem min_most (n : Nat) : (if (32767 : Int) < (n : Int) then (32767 : Int) else (n : Int)) = ((min n most : Nat) : Int) := by
  unfold most
  split <;> omega
theorem whole_ok {f : Nat} (ok : SOK P S) (hf : FnIs P f (cWhole S) 8 2) : CutC P f := by
  refine ⟨hf.ent, fun w ad n c had hc => ?_⟩
  refine hf.runs (args := [.slice ad n c]) (by simp) (by omega) ?_
  obtain ⟨i, hi, _⟩ := u8Ty_info ok.tk.u8
  refine RW.sq (RW.rg (RL.step MR.mv (RL.nil (RW.sq (RW.rg ?_)))))
  repeat first | refine RL.step MR.mv ?_ | refine RL.step (MR.biE rfl) ?_ | refine RL.step (MR.b2 rfl) ?_
  refine RL.step (MR.ln ok.tk.u8s (p := ad) (n := n) (c := c) rfl) (RL.step (MR.mn (m := n) (n := 32767) rfl rfl) (RL.step (MR.sl (v := .slice ad (min n most) c) ?_) ?_))
  · show (Instr.sliceAt S.T.u8s (.slice ad n c) none (some (.int .i64 (if (32767 : Int) < (n : Int) then (32767 : Int) else (n : Int)))) none).run P w = _
    rw [min_most]
    exact run_sliceTo ok.tk.u8s (by rw [hi]; rfl) had (by omega)
  repeat first | refine RL.step MR.mv ?_ | refine RL.step (MR.biE rfl) ?_ | refine RL.step (MR.b2 rfl) ?_
  exact RL.nil (RW.rt ⟨rfl, rfl⟩)
theorem things_ok {f : Nat} (ok : SOK P S) (hf : FnIs P f (cThings S) 8 2) : CutC P f := by
  refine ⟨hf.ent, fun w ad n c had hc => ?_⟩
  refine hf.runs (args := [.slice ad n c]) (by simp) (by omega) ?_
  refine RW.sq (RW.rg (RL.step MR.mv (RL.nil (RW.sq (RW.rg ?_)))))
  repeat first | refine RL.step MR.mv ?_ | refine RL.step (MR.biE rfl) ?_ | refine RL.step (MR.b2 rfl) ?_
  refine RL.step (MR.ln ok.trs (p := ad) (n := n) (c := c) rfl) (RL.step (MR.mn (m := n) (n := 32767) rfl rfl) (RL.step (MR.sl (v := .slice ad (min n most) c) ?_) ?_))
  · show (Instr.sliceAt S.trs (.slice ad n c) none (some (.int .i64 (if (32767 : Int) < (n : Int) then (32767 : Int) else (n : Int)))) none).run P w = _
    rw [min_most]
    exact run_sliceTo ok.trs (cellsB_some ok.trN) had (by omega)
  repeat first | refine RL.step MR.mv ?_ | refine RL.step (MR.biE rfl) ?_ | refine RL.step (MR.b2 rfl) ?_
  exact RL.nil (RW.rt ⟨rfl, rfl⟩)
/-! ### version -/
def VerC (P : Program) (f : Nat) : Prop := entersB P f = true ∧ ∀ (w : World) (n m : Nat), n < 256 → m < 32768 → Calls P f #[.int .u8 n, .int .i64 m] w (fun e w' => e = .returned (.int .i64 (n % (m + 1) : Nat)) ∧ w' = w)
theorem ver_ok {f : Nat} (ok : SOK0 P S) (hf : FnIs P f (cVer S) 10 4) : VerC P f := by
  refine ⟨hf.ent, fun w n m hn hm => ?_⟩
  refine hf.runs (args := [.int .u8 n, .int .i64 m]) (by simp) (by omega) ?_
  refine RW.sq (RW.rg (RL.step MR.mv (RL.nil (RW.sq (RW.rg (RL.step MR.mv (RL.step (MR.cvI rfl ok.tk.u8i ok.tk.int) ?_)))))))
  repeat first | refine RL.step MR.mv ?_ | refine RL.step (MR.biE rfl) ?_ | refine RL.step (MR.b2 rfl) ?_
  refine RL.step (MR.biE (v := .int .i64 (n % (m + 1) : Nat)) ?_) ?_
  · show evB .rem (.int .i64 (IntKind.i64.wrap (n : Int))) (.int .i64 (IntKind.i64.wrap ((m : Int) + 1))) = _
    rw [wrap_i64 (by omega) (by omega), wrap_i64 (by omega) (by omega)]
    simp only [evB, true_and]
    rw [if_pos (by omega), Int.tmod_eq_emod_of_nonneg (by omega)]
    norm_cast
  repeat first | refine RL.step MR.mv ?_ | refine RL.step (MR.biE rfl) ?_ | refine RL.step (MR.b2 rfl) ?_
  exact RL.nil (RW.rt ⟨rfl, rfl⟩)
end
structure FnIsC (P : Program) (f : Nat) (m : MCode) (N s ty : Nat) : Prop where
  ex : ∃ fn c, P.funcs[f]? = some fn ∧ fn.body = some c ∧ fits m c = true ∧ fn.ntmps = N ∧ fn.results = #[.cell s ty]
  ent : entersB P f = true
structure FnIs0 (P : Program) (f : Nat) (m : MCode) (N : Nat) : Prop where
  ex : ∃ fn c, P.funcs[f]? = some fn ∧ fn.body = some c ∧ fits m c = true ∧ fn.ntmps = N ∧ fn.results = #[]
  ent : entersB P f = true
def isFnC (P : Program) (f : Nat) (m : MCode) (N s ty : Nat) : Bool :=
  entersB P f && (match P.funcs[f]? with
    | some fn => Nat.beq fn.ntmps N && (match fn.results.toList with | [.cell s' t'] => Nat.beq s s' && Nat.beq ty t' | _ => false) && (match fn.body with | some c => fits m c | none => false)
    | none => false)
def isFn0 (P : Program) (f : Nat) (m : MCode) (N : Nat) : Bool :=
  entersB P f && (match P.funcs[f]? with
    | some fn => Nat.beq fn.ntmps N && fn.results.toList.isEmpty && (match fn.body with | some c => fits m c | none => false)
    | none => false)
theorem FnIsC.of {P : Program} {f N s ty : Nat} {m : MCode} (h : isFnC P f m N s ty = true) : FnIsC P f m N s ty := by
  simp only [isFnC, Bool.and_eq_true] at h
  obtain ⟨h1, h2⟩ := h
  refine ⟨?_, h1⟩
  cases hf : P.funcs[f]? with
  | none => simp [hf] at h2
  | some fn =>
    simp only [hf, Bool.and_eq_true, Nat.beq_eq] at h2
    obtain ⟨⟨g1, g2⟩, g3⟩ := h2
    cases hb : fn.body with
    | none => simp [hb] at g3
    | some c =>
      simp only [hb] at g3
      refine ⟨fn, c, rfl, hb, g3, g1, ?_⟩
      apply Array.toList_inj.1
      generalize fn.results.toList = l at g2
      match l, g2 with
      | [.cell s' t'], g2 => simp only [Bool.and_eq_true, Nat.beq_eq] at g2; rw [g2.1, g2.2]
theorem FnIs0.of {P : Program} {f N : Nat} {m : MCode} (h : isFn0 P f m N = true) : FnIs0 P f m N := by
  simp only [isFn0, Bool.and_eq_true] at h
  obtain ⟨h1, h2⟩ := h
  refine ⟨?_, h1⟩
  cases hf : P.funcs[f]? with
  | none => simp [hf] at h2
  | some fn =>
    simp only [hf, Bool.and_eq_true, Nat.beq_eq] at h2
    obtain ⟨⟨g1, g2⟩, g3⟩ := h2
    cases hb : fn.body with
    | none => simp [hb] at g3
    | some c =>
      simp only [hb] at g3
      refine ⟨fn, c, rfl, hb, g3, g1, ?_⟩
      apply Array.toList_inj.1
      simpa using g2
section
variable {P : Program} {S : SN} {w : World} {N : Nat} {Q : Exit → (Nat → Value) → World → Prop} {ρ : Nat → Value} {ms : List MOp}
def retC (P : Program) (s ty : Nat) (R : Ending → World → Prop) : Exit → (Nat → Value) → World → Prop
  | .ret, ρ, w => ∃ p v, ρ s = .pointer (some p) ∧ (Instr.loadAt ty (.pointer (some p))).run P w = .ok v w ∧ R (.returned v) w
  | _, _, _ => False
def ret0 (R : Ending → World → Prop) : Exit → (Nat → Value) → World → Prop
  | .ret, ρ, w => R (.returned (.tuple #[])) w
  | .normal, ρ, w => R (.returned (.tuple #[])) w
  | _, _, _ => False
theorem FnIsC.runs {f s ty : Nat} {m : MCode} (h : FnIsC P f m N s ty) {args : List Value} {R : Ending → World → Prop} (hle : args.length ≤ N) (hs : s < N)
    (hw : RW P N m (retC P s ty R) (args0 args) w) : Calls P f args.toArray w R := by
  obtain ⟨fn, c, h1, h2, h3, h4, h5⟩ := h.ex
  refine calls_leaf h1 h2 h3 h4 hle fun a hl => (hw a hl).mono fun e a w hu => ?_
  cases e <;> simp only [up, retC] at hu
  all_goals first | (obtain ⟨ρ, h1, h2⟩ := hu; exact h2.elim) | skip
  · obtain ⟨ρ, g1, p, v, g2, g3, g4⟩ := hu
    refine bodyPost_ret (v := v) ?_ g1.defers g4
    have e : a.tmps[s]?.getD undef = .pointer (some p) := by
      have := (g1.get s hs).trans g2
      unfold rd at this
      rwa [Array.getD_eq_getD_getElem?] at this
    have g3' : (loadVar ty p).run P w = .ok v w := by simpa [Instr.loadAt, Instr.sureAddr] using g3
    unfold results
    rw [h5]
    simp [e, asAddr, g3']
  all_goals exact hu.elim
theorem FnIs0.runs {f : Nat} {m : MCode} (h : FnIs0 P f m N) {args : List Value} {R : Ending → World → Prop} (hle : args.length ≤ N)
    (hw : RW P N m (ret0 R) (args0 args) w) : Calls P f args.toArray w R := by
  obtain ⟨fn, c, h1, h2, h3, h4, h5⟩ := h.ex
  refine calls_leaf h1 h2 h3 h4 hle fun a hl => (hw a hl).mono fun e a w hu => ?_
  cases e <;> simp only [up, ret0] at hu
  all_goals first | (obtain ⟨ρ, h1, h2⟩ := hu; exact h2.elim) | skip
  · obtain ⟨ρ, g1, g4⟩ := hu
    exact ⟨g1.defers, .tuple #[], results_none h5 _ _ _, g4⟩
  · obtain ⟨ρ, g1, g4⟩ := hu
    exact ⟨g1.defers, .tuple #[], results_none h5 _ _ _, g4⟩
  all_goals exact hu.elim
theorem RL.bxA {d T s : Nat} {cs : List Value} (hv : ρ s = .agg cs.toArray) (h : RL P N ms Q (upd ρ d (.pointer (some ⟨w.heap.size, 0, none⟩))) (w.alloc (.cells cs.toArray T))) (hs : s < N := by decide) (hd : d < N := by decide) : RL P N (.bx d T s :: ms) Q ρ w := by
  refine RL.step (MR.bx hs) ?_ hd
  rw [hv]; exact h
theorem MR.biB {d ty : Nat} {op : BinOp} {x y : MX} {p : Prop} [Decidable p] {b : Bool} (h : evB op (xof ρ x) (xof ρ y) = some (.bool (decide p))) (hp : decide p = b) (hx : x.lt N = true := by rfl) (hy : y.lt N = true := by rfl) : MR P N (.bi d op ty x y) ρ w d (.bool b) w := by
  subst hp; exact MR.biE h hx hy
theorem RepFd.cells {f : Fd} {cs : List Value} (h : RepFd w f cs) : ∃ sl, cs = [.int .i64 f.kind, .int .i64 f.fr, .int .i64 f.to, .int .i64 f.nul, .int .i64 f.tag, .int .i64 f.df, .int .i64 f.of, sl] ∧ ∃ ad c, sl = .slice ad f.sub.toList.length c ∧ RowsF w ad 0 f.sub := by
  cases f; unfold RepFd at h; exact h
theorem RepTr.cells {t : Tr} {cs : List Value} (h : RepTr w t cs) : ∃ sS sL sU, cs = [.int .i64 t.n, sS, .bool t.null, sL, sU] ∧ (-9223372036854775808 ≤ t.n ∧ t.n ≤ 9223372036854775807) ∧ (∃ ad c, sS = .slice ad t.s.length c ∧ okA t.s.length ad ∧ t.s.length ≤ c ∧ BytesAt w (fun _ => True) ad t.s) ∧
      (∃ ad c, sL = .slice ad t.l.length c ∧ okA t.l.length ad ∧ t.l.length ≤ c ∧ ∀ i e, t.l[i]? = some e → ∃ g o cs', ad = some ⟨g, o, none⟩ ∧ w.rangeAt g (o + i * 5) cs' ∧ RepTr w e cs') ∧ TagsS w sU t.u := by
  cases t; unfold RepTr at h
  obtain ⟨sS, sL, sU, h1, hn, h2, ⟨ad, c, h3, h4, h5, h6⟩, h7⟩ := h
  exact ⟨sS, sL, sU, h1, hn, h2, ⟨ad, c, h3, h4, h5, fun i e hi => by have := h6.at hi; simpa using this⟩, h7⟩
/-! ### has, null -/
def HasC (P : Program) (f : Nat) : Prop := entersB P f = true ∧ ∀ (w : World) (fd : Fd) (cs : List Value) (v : Int), RepFd w fd cs → Calls P f #[.agg cs.toArray, .int .i64 v] w (fun e w' => e = .returned (.bool (sHas fd.fr fd.to v)) ∧ Below w.heap.size w w')
theorem has_ok {f : Nat} (ok : SOK P S) (hf : FnIs P f (cHas S) 20 4) : HasC P f := by
  refine ⟨hf.ent, fun w fd cs v hrep => ?_⟩
  obtain ⟨sl, rfl, _⟩ := hrep.cells
  refine hf.runs (args := [.agg _, .int .i64 v]) (by simp) (by omega) ?_
  refine RW.sq (RW.rg (RL.bxA rfl (RL.step MR.mv (RL.nil ?_))))
  have hb := below_box w (.cells [Value.int .i64 fd.kind, .int .i64 fd.fr, .int .i64 fd.to, .int .i64 fd.nul, .int .i64 fd.tag, .int .i64 fd.df, .int .i64 fd.of, sl].toArray S.fd)
  have c1 := cell_box w [Value.int .i64 fd.kind, .int .i64 fd.fr, .int .i64 fd.to, .int .i64 fd.nul, .int .i64 fd.tag, .int .i64 fd.df, .int .i64 fd.of, sl] S.fd (j := 1) rfl
  have c2 := cell_box w [Value.int .i64 fd.kind, .int .i64 fd.fr, .int .i64 fd.to, .int .i64 fd.nul, .int .i64 fd.tag, .int .i64 fd.df, .int .i64 fd.of, sl] S.fd (j := 2) rfl
  refine RW.sq (RW.gf (Kp (w.alloc (.cells [Value.int .i64 fd.kind, .int .i64 fd.fr, .int .i64 fd.to, .int .i64 fd.nul, .int .i64 fd.tag, .int .i64 fd.df, .int .i64 fd.of, sl].toArray S.fd))) (Kp.refl _) ?_)
  refine RG.q (fun w' _ => MR.fa rfl (ok.fdF 1 (by omega))) (RG.q (fun w' hS => MR.ld rfl ok.pInt (hS _ _ c1)) (RG.q (fun _ _ => MR.mv) ?_))
  by_cases h1 : fd.fr ≤ v
  · refine RG.q (fun _ _ => MR.biB (p := fd.fr ≤ v) rfl (decide_eq_true h1)) (RG.q (fun _ _ => MR.mv) ?_)
    refine RG.q (fun w' _ => MR.fa rfl (ok.fdF 2 (by omega))) (RG.q (fun w' hS => MR.ld rfl ok.pInt (hS _ _ c2)) ?_)
    by_cases h2 : fd.to < 0
    · refine RG.q (fun _ _ => MR.biB (p := fd.to < 0) rfl (decide_eq_true h2)) ?_
      repeat first | refine RG.q (fun _ _ => MR.mv) ?_ | refine RG.q (fun _ _ => MR.biE rfl) ?_ | refine RG.q (fun _ _ => MR.pk rfl) ?_ | refine RG.no (by first | exact ⟨by decide, .inl rfl⟩ | exact ⟨by decide, .inr ⟨rfl, rfl⟩⟩) ?_
      exact RG.nil fun _ => RW.rt ⟨by show Ending.returned (.bool true) = _; simp [sHas, h1, h2], hb⟩
    · refine RG.q (fun _ _ => MR.biB (p := fd.to < 0) rfl (decide_eq_false h2)) (RG.q (fun _ _ => MR.mv) (RG.q (fun _ _ => MR.mv) ?_))
      refine RG.q (fun w' _ => MR.fa rfl (ok.fdF 2 (by omega))) (RG.q (fun w' hS => MR.ld rfl ok.pInt (hS _ _ c2)) ?_)
      repeat first | refine RG.q (fun _ _ => MR.mv) ?_ | refine RG.q (fun _ _ => MR.biE rfl) ?_ | refine RG.q (fun _ _ => MR.pk rfl) ?_ | refine RG.no (by first | exact ⟨by decide, .inl rfl⟩ | exact ⟨by decide, .inr ⟨rfl, rfl⟩⟩) ?_
      exact RG.nil fun _ => RW.rt ⟨by show Ending.returned (.bool (decide (v ≤ fd.to))) = _; simp [sHas, h1, h2], hb⟩
  · refine RG.q (fun _ _ => MR.biB (p := fd.fr ≤ v) rfl (decide_eq_false h1)) (RG.q (fun _ _ => MR.mv) ?_)
    repeat first | refine RG.q (fun _ _ => MR.mv) ?_ | refine RG.q (fun _ _ => MR.biE rfl) ?_ | refine RG.q (fun _ _ => MR.pk rfl) ?_ | refine RG.no (by first | exact ⟨by decide, .inl rfl⟩ | exact ⟨by decide, .inr ⟨rfl, rfl⟩⟩) ?_
    exact RG.nil fun _ => RW.rt ⟨by show Ending.returned (.bool false) = _; simp [sHas, h1], hb⟩
def NulC (P : Program) (f : Nat) : Prop := entersB P f = true ∧ ∀ (w : World) (fd : Fd) (t : Tr) (cs cs' : List Value) (v : Int), RepFd w fd cs → RepTr w t cs' → Calls P f #[.agg cs.toArray, .int .i64 v, .agg cs'.toArray] w (fun e w' => e = .returned (.bool (sNull fd.nul v t.null)) ∧ Below w.heap.size w w')
theorem null_ok {f : Nat} (ok : SOK P S) (hf : FnIs P f (cNull S) 20 6) : NulC P f := by
  refine ⟨hf.ent, fun w fd t cs cs' v hrep hrt => ?_⟩
  obtain ⟨sl, rfl, _⟩ := hrep.cells
  obtain ⟨sS, sL, sU, rfl, _⟩ := hrt.cells
  refine hf.runs (args := [.agg _, .int .i64 v, .agg _]) (by simp) (by omega) ?_
  refine RW.sq (RW.rg (RL.bxA rfl (RL.bxA rfl (RL.step MR.mv (RL.nil ?_)))))
  have hb := below_box w (.cells [Value.int .i64 fd.kind, .int .i64 fd.fr, .int .i64 fd.to, .int .i64 fd.nul, .int .i64 fd.tag, .int .i64 fd.df, .int .i64 fd.of, sl].toArray S.fd)
  have c1 := cell_box w [Value.int .i64 fd.kind, .int .i64 fd.fr, .int .i64 fd.to, .int .i64 fd.nul, .int .i64 fd.tag, .int .i64 fd.df, .int .i64 fd.of, sl] S.fd (j := 3) rfl
  revert hb c1
  generalize w.alloc (.cells [Value.int .i64 fd.kind, .int .i64 fd.fr, .int .i64 fd.to, .int .i64 fd.nul, .int .i64 fd.tag, .int .i64 fd.df, .int .i64 fd.of, sl].toArray S.fd) = w1
  intro hb c1
  have hb2 := below_box w1 (.cells [Value.int .i64 t.n, sS, .bool t.null, sL, sU].toArray S.tr)
  have d1 := cell_box w1 [Value.int .i64 t.n, sS, .bool t.null, sL, sU] S.tr (j := 2) rfl
  have c2 := kp_alloc w1 (.cells [Value.int .i64 t.n, sS, .bool t.null, sL, sU].toArray S.tr) _ _ c1
  have hB := hb.trans (hb2.mono hb.size)
  refine RW.sq (RW.gf (Kp (w1.alloc (.cells [Value.int .i64 t.n, sS, .bool t.null, sL, sU].toArray S.tr))) (Kp.refl _) ?_)
  refine RG.q (fun w' _ => MR.fa rfl (ok.trF 2 (by omega))) (RG.q (fun w' hS => MR.ld rfl ok.pBool (hS _ _ d1)) ?_)
  clear hrt
  generalize t.null = nb at d1 c2 hB hb2 ⊢
  cases nb
  · repeat first | refine RG.q (fun _ _ => MR.mv) ?_ | refine RG.q (fun _ _ => MR.biE rfl) ?_ | refine RG.q (fun _ _ => MR.pk rfl) ?_ | refine RG.no (by first | exact ⟨by decide, .inl rfl⟩ | exact ⟨by decide, .inr ⟨rfl, rfl⟩⟩) ?_
    exact RG.nil fun _ => RW.rt ⟨by show Ending.returned (.bool false) = _; simp [sNull], hB⟩
  · refine RG.q (fun _ _ => MR.mv) ?_
    refine RG.q (fun w' _ => MR.fa rfl (ok.fdF 3 (by omega))) (RG.q (fun w' hS => MR.ld rfl ok.pInt (hS _ _ c2)) ?_)
    by_cases h1 : 0 ≤ fd.nul
    · refine RG.q (fun _ _ => MR.biB (p := 0 ≤ fd.nul) rfl (decide_eq_true h1)) ?_
      repeat first | refine RG.q (fun _ _ => MR.mv) ?_ | refine RG.q (fun _ _ => MR.biE rfl) ?_ | refine RG.q (fun _ _ => MR.pk rfl) ?_ | refine RG.no (by first | exact ⟨by decide, .inl rfl⟩ | exact ⟨by decide, .inr ⟨rfl, rfl⟩⟩) ?_
      refine RG.q (fun w' _ => MR.fa rfl (ok.fdF 3 (by omega))) (RG.q (fun w' hS => MR.ld rfl ok.pInt (hS _ _ c2)) ?_)
      repeat first | refine RG.q (fun _ _ => MR.mv) ?_ | refine RG.q (fun _ _ => MR.biE rfl) ?_ | refine RG.q (fun _ _ => MR.pk rfl) ?_ | refine RG.no (by first | exact ⟨by decide, .inl rfl⟩ | exact ⟨by decide, .inr ⟨rfl, rfl⟩⟩) ?_
      exact RG.nil fun _ => RW.rt ⟨by show Ending.returned (.bool (decide (fd.nul ≤ v))) = _; simp [sNull, h1], hB⟩
    · refine RG.q (fun _ _ => MR.biB (p := 0 ≤ fd.nul) rfl (decide_eq_false h1)) ?_
      repeat first | refine RG.q (fun _ _ => MR.mv) ?_ | refine RG.q (fun _ _ => MR.biE rfl) ?_ | refine RG.q (fun _ _ => MR.pk rfl) ?_ | refine RG.no (by first | exact ⟨by decide, .inl rfl⟩ | exact ⟨by decide, .inr ⟨rfl, rfl⟩⟩) ?_
      exact RG.nil fun _ => RW.rt ⟨by show Ending.returned (.bool false) = _; simp [sNull, h1], hB⟩
end
end Go.Kx
