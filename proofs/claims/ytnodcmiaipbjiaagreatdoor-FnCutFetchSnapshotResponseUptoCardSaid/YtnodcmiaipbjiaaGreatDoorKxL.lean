/- Slices of one's own that lie in a variable; the closure of AppendEach. Conditions: the program's tables (TOK), AppendUvarint's contract.
   (*Tags).Each with AppendEach's closure, AppendEach whole. Conditions: the program's tables (TgE), sort.Slice's contract (SortC).
   (*Tags).Each with AppendEach's closure; AppendEach whole (TeachC of small tags). Conditions: the program's tables (TgE), sort.Slice's contract (SortC), the closure's (CbC).
   AppendEach of real tags (TeachC of small tags). Conditions: the program's tables (TgE), sort.Slice's contract (SortC), the closure's (CbC).
   What the reference writes, and what is left of it when it is cut, tells the tagged field at most once. No condition but the plan's tests (mTopB).
   impl.AgainX: a message is read and written again. Conditions: the contracts of its functions.
   spec.unknown, its parts: where a tag belongs, whether it is there. Conditions: the program's tables (SOK).
   spec.unknown, whole (UnkC of keys that fit). Conditions: the program's tables (SOK), known's contract.
   spec.unknown, whole (UnkC of whatever keys). Conditions: the program's tables (SOK), known's contract. -/
import Derived.Test.YtnodcmiaipbjiaaGreatDoorKxK
namespace Go.Kx
open Go.RowKit
set_option linter.unusedSimpArgs false
set_option linter.unusedVariables false
def BoxR (U Ts : Nat) (w : World) (B db : Nat) (xs : List Value) : Prop := ∃ sv, w.heap[db]? = some (.cells #[sv] Ts (0, 0)) ∧ w.ownsRow B U 1 sv xs.length xs
section
variable {P : Program} {N : Nat} {Q : UE} {ρ : Nat → Value} {w w' : World} {ms : List MOp} {d U Ts db B : Nat} {v x : Value} {T : IT}
theorem box_set (h : w.heap[db]? = some (.cells #[x] Ts (0, 0))) : (w.setCells db 0 [v]).heap[db]? = some (.cells #[v] Ts (0, 0)) := by
 simp only [World.setCells, World.setCell]
 rw [Array.getElem?_modify, if_pos rfl, h]
 simp
theorem box_cell (h : w.heap[db]? = some (.cells #[x] Ts (0, 0))) : w.cell? ⟨db, 0, none⟩ = some x := by simp [World.cell?, h]
theorem box_there (h : w.heap[db]? = some (.cells #[x] Ts (0, 0))) : w.there db 0 1 := by
 intro j hj
 obtain rfl : j = 0 := by omega
 refine ⟨by rw [Nat.add_zero, box_cell h]; rfl, ?_⟩
 unfold World.frozen?
 simp [h]
theorem own_ne {n : Nat} {sv : Value} {xs : List Value} (h : w.ownsRow B U 1 sv n xs) (hb : w.heap[db]? = some (.cells #[x] Ts (0, 0))) (hne : U ≠ Ts) : ∀ g, sv.ownBlock = some g → g ≠ db := by
 rcases h.2 with ⟨rfl, _⟩ | ⟨g, cap, cur, rfl, h3, h4, h5⟩
 ·intro g hg; cases hg
 ·intro g' hg e
  simp only [Value.ownBlock, UC] at hg
  subst hg
  rw [e, hb] at h4
  simp only [UC, Obj.cells.injEq] at h4
  exact hne h4.2.1.symm
theorem BoxR.put {n : Nat} {sv : Value} {xs : List Value} (hb : w.heap[db]? = some (.cells #[x] Ts (0, 0))) (ho : w.ownsRow B U 1 sv n xs) (hn : n = xs.length) (hne : U ≠ Ts) : BoxR U Ts (w.setCells db 0 [sv]) B db xs := by
 subst hn
 exact ⟨sv, box_set hb, own_keep ho fun g hg => Jp db _ _ _ g (own_ne ho hb hne g hg)⟩
theorem BoxR.keep {xs : List Value} (h : BoxR U Ts w B db xs) (hb : Below w.heap.size w w') : BoxR U Ts w' B db xs := by
 obtain ⟨sv, h1, h2⟩ := h
 refine ⟨sv, by rw [hb.block _ (Array.getElem?_eq_some_iff.1 h1).1]; exact h1, own_keep h2 fun g hg => hb.block g ?_⟩
 rcases h2.2 with ⟨rfl, _⟩ | ⟨g', cap, cur, rfl, h3, h4, h5⟩
 ·cases hg
 ·simp only [Value.ownBlock, UC] at hg
  subst hg
  exact (Array.getElem?_eq_some_iff.1 h4).1
theorem box_grown {n : Nat} {sv : Value} {xs : List Value} (h : w.ownsRow B U 1 sv n xs) (hb : w.heap[db]? = some (.cells #[x] Ts (0, 0))) (hne : U ≠ Ts) (hg : w.grownBy w' sv.ownBlock) : w'.heap[db]? = some (.cells #[x] Ts (0, 0)) := by
 rw [hg.block db (Array.getElem?_eq_some_iff.1 hb).1 (fun e => own_ne h hb hne db e.symm rfl)]; exact hb
def cCb (T : IT) (fUv : Nat) : Jc :=
 .sq (.rg [.ld 5 T.u8s 2, .mv 6 (.t 0), .ca 7 fUv [.t 5, .t 6], .st T.u8s 2 7]) (.sq (.rg [.ld 8 T.u8s 2, .mv 9 (.t 1), .ln 10 T.u8s 9, .cv 11 T.int T.u32 10, .ca 12 fUv [.t 8, .t 11], .st T.u8s 2 12])
  (.rg [.ld 13 T.u8s 2, .mv 14 (.t 1), .ap 15 T.u8s T.u8s 13 14, .st T.u8s 2 15]))
def Nr (U db : Nat) (w w' : World) : Prop := ∀ k, k < w.heap.size → k ≠ db → (∀ cur, w.heap[k]? ≠ some (.cells cur U (0, 0))) → w'.heap[k]? = w.heap[k]?
theorem Nr.trans {w1 w2 w3 : World} (h : Nr U db w1 w2) (k : Nr U db w2 w3) (hs : w1.heap.size ≤ w2.heap.size) : Nr U db w1 w3 := fun i h1 h2 h3 => by
 have e := h i h1 h2 h3
 rw [k i (Nat.lt_of_lt_of_le h1 hs) h2 (fun cur => by rw [e]; exact h3 cur), e]
theorem RL.boxUv {fUv s p d n : Nat} {y : MX} {sv : Value} {bs : List UInt8} (hG : UvarG P T.u8 fUv) (hne : T.u8 ≠ T.u8s) (hc : Jh P T.u8s 1 = true) (hs : ρ s = sv) (hb : w.heap[db]? = some (.cells #[sv] T.u8s (0, 0))) (ho : OwnB T.u8 w B sv bs) (hB : B ≤ w.heap.size) (hBd : B ≤ db)
  (hy : xof ρ y = .int .u32 (n : Nat)) (hn : n < 4294967296) (hlim : bs.length + (uv n).length ≤ lim) (hp : ρ p = .pointer (some ⟨db, 0, none⟩)) (hpd : p ≠ d)
  (h : ∀ sv' w', w'.heap[db]? = some (.cells #[sv'] T.u8s (0, 0)) → OwnB T.u8 w' B sv' (bs ++ uv n) → Below B w w' → Nr T.u8 db w w' → RL P N ms Q (upd ρ d sv') w') (hsN : s < N := by decide) (hyN : y.lt N = true := by rfl) (hd : d < N := by decide) (hpN : p < N := by decide) : RL P N (.ca d fUv [.t s, y] :: .st T.u8s p d :: ms) Q ρ w := by
 refine RL.ca (R := fun sv' w' => OwnB T.u8 w' B sv' (bs ++ uv n) ∧ Below B w w' ∧ Gr w w' sv) hG.1 ?_ ?_ hd (by intro z hz; simp only [List.mem_cons, List.not_mem_nil, or_false] at hz; rcases hz with rfl | rfl; exact ltT hsN; exact hyN)
 ·simp only [List.map_cons, List.map_nil, hy]
  show Calls P fUv #[ρ s, _] w _
  rw [hs]
  refine (hG.2 w B sv _ bs (uv n) hB ho ⟨n, hn, rfl, rfl⟩ hlim).mono ?_
  rintro e w' ⟨sv', rfl, h2⟩
  exact ⟨sv', rfl, h2⟩
 rintro sv' w' ⟨h1, h2, h3⟩
 have hb' : w'.heap[db]? = some (.cells #[sv] T.u8s (0, 0)) := by
  rw [h3 db (Array.getElem?_eq_some_iff.1 hb).1 (fun e => own_ne ho hb hne db e.symm rfl)]; exact hb
 refine RL.st1 (v := sv') (b := db) (o := 0) (by rw [Jb _ _ hpd]; exact hp) (Ja _ _ _) (own_one h1) hc (box_there hb') (h sv' _ (box_set hb') ?_ ?_ ?_) hpN hd
 ·exact own_keep h1 fun g hg => Jp db _ _ _ g (own_ne h1 hb' hne g hg)
 ·exact JD hBd _ _ h2
 ·exact fun k hk hne' hr => by rw [Jp db _ _ _ k hne', h3 k hk (own_nr ho hr)]
def CbC (P : Program) (T : IT) (f : Nat) : Prop := Jo P f = true ∧ ∀ (w : World) (B db : Nat) (bs : List UInt8) (k : Nat) (a : Option Addr) (l : List UInt8) (c : Nat), B ≤ w.heap.size → B ≤ db → BoxR T.u8 T.u8s w B db (bs.map JF) → k < 4294967296 → l.length ≤ 32767 → Jg w (· < B) a l → bs.length + (Jt (k, l)).length ≤ lim →
 Calls P f #[.int .u32 (k : Nat), .slice a l.length c, .pointer (some ⟨db, 0, none⟩)] w (fun e w' => (∃ v, e = .returned v) ∧ BoxR T.u8 T.u8s w' B db ((bs ++ Jt (k, l)).map JF) ∧ Below B w w' ∧ Nr T.u8 db w w')
theorem cb_ok {f fUv : Nat} (tk : TOK P T) (hne : T.u8 ≠ T.u8s) (hc : Jh P T.u8s 1 = true) (hpl : Jm P T.u8s = true) (h32 : T.u32 ≠ 0) (hG : UvarG P T.u8 fUv) (hf : Qz P f (cCb T fUv) 16) : CbC P T f := by
 refine ⟨hf.ent, fun w B db bs k a l c hB hBd hbox hk hl hby hlim => ?_⟩
 obtain ⟨sv, hb, ho⟩ := hbox
 rw [List.length_map] at ho
 refine hf.runs (args := [.int .u32 (k : Nat), .slice a l.length c, .pointer (some ⟨db, 0, none⟩)]) (by simp) ?_
 have elen : (Jt (k, l)).length = (uv k).length + (uv l.length).length + l.length := by simp [Jt]; omega
 rw [elen] at hlim
 refine RW.sq (RW.rg (RL.s (MR.ld (p := ⟨db, 0, none⟩) rfl hpl (box_cell hb)) (RL.s (MR.mv (v := .int .u32 (k : Nat)) rfl) (RL.boxUv (T := T) (db := db) (B := B) (sv := sv) (bs := bs) (n := k) hG hne hc rfl hb ho hB hBd rfl hk (by omega) rfl (by decide) ?_))))
 intro sv1 w1 hb1 ho1 bl1 nr1
 refine RL.nil (RW.sq (RW.rg (RL.s (MR.ld (p := ⟨db, 0, none⟩) rfl hpl (box_cell hb1)) (RL.s (MR.mv (v := .slice a l.length c) rfl) (RL.s (MR.ln tk.u8s rfl) (RL.s (MR.cvI rfl tk.int (tk.u32 h32)) (RL.boxUv (T := T) (db := db) (B := B) (sv := sv1) (bs := bs ++ uv k) (n := l.length) hG hne hc rfl hb1 ho1 (Nat.le_trans hB bl1.size) hBd ?_ (by omega) (by rw [UD]; omega) rfl (by decide) ?_)))))))
 ·show Value.int .u32 (IntKind.u32.wrap (l.length : Int)) = _
  rw [QA (by omega)]
 intro sv2 w2 hb2 ho2 bl2 nr2
 have bl : Below B w w2 := bl1.trans bl2
 have hby2 : Jg w2 (fun _ => True) a l := (hby.mono (F' := (· < B)) (fun _ h => h) (fun b hb => bl.block b hb)).any
 obtain ⟨sv3, w3, h1, h2, h3, h4⟩ := run_apOwn (P := P) (w := w2) (T := T.u8s) (U := T.u8) (c := c) tk.u8s tk.u8 ho2 rfl hby2 (Nat.le_trans hB bl.size) (by simp only [UD]; omega)
 refine RL.nil (RW.rg (RL.s (MR.ld (p := ⟨db, 0, none⟩) rfl hpl (box_cell hb2)) (RL.s (MR.mv (v := .slice a l.length c) rfl) (RL.s (MR.apBy (h1 0) h1) ?_))))
 have hb3 : w3.heap[db]? = some (.cells #[sv2] T.u8s (0, 0)) := box_grown ho2 hb2 hne h4
 refine RL.st1 (v := sv3) (b := db) (o := 0) rfl rfl (own_one h2) hc (box_there hb3) (RL.nil ?_)
 refine ⟨⟨_, rfl⟩, ?_, bl.trans (JD hBd _ _ h3), (nr1.trans nr2 bl1.size).trans (fun k hk hne' hr => by rw [Jp db _ _ _ k hne', h4.block k hk (own_nr ho2 hr)]) bl.size⟩
 refine BoxR.put hb3 (n := ((bs ++ Jt (k, l)).map JF).length) ?_ rfl hne
 have e : bs ++ Jt (k, l) = bs ++ uv k ++ uv l.length ++ l := by simp [Jt]
 rw [e, List.length_map]
 exact h2
end
end Go.Kx
namespace Go.Kx
open Go.RowKit Go.MapKept Go.MapFrom
set_option linter.unusedSimpArgs false
set_option linter.unusedVariables false
def nilSB (P : Program) (T : Nat) : Bool := match P.info? T with
 | some i => (match i.zero with | some v => MVal.nslice.is v | none => false)
 | none => false
theorem nilSB_of {P : Program} {T : Nat} (h : nilSB P T = true) : ∃ i, P.info? T = some i ∧ i.zero = some (.slice none 0 0) := by
 unfold nilSB at h
 cases hi : P.info? T with
 | none => simp [hi] at h
 | some i =>
  simp only [hi] at h
  cases hz : i.zero with
  | none => simp [hz] at h
  | some v => simp only [hz] at h; exact ⟨i, rfl, by rw [hz, MVal.is_eq h]; rfl⟩
structure EN where
 tSt : Nat
 tMap : Nat
 tKs : Nat
 tU32 : Nat
 tInt : Nat
 fLess : Nat
 fSort : Nat
 fCb : Nat
def cEachF (K : EN) : Jc :=
 .sq (.sq (.rg [.mv 8 (.t 0), .nc 9 8, .fa 10 K.tSt 9 0, .ld 11 K.tMap 10, .ln 12 K.tMap 11, .bi 13 .eql K.tInt (.t 12) (.c (.int .i64 0))]) (.cd 13 .rt .sk))
 (.sq (.rg [.mv 14 (.t 0), .nc 15 14, .fa 16 K.tSt 15 0, .ld 17 K.tMap 16, .ln 18 K.tMap 17, .mk 19 K.tKs (.c (.int .i64 0)) (.t 18), .al 4 K.tKs, .st K.tKs 4 19])
 (.sq (.sq (.rg [.mv 20 (.t 0), .nc 21 20, .fa 22 K.tSt 21 0, .ld 23 K.tMap 22, .rng 24 K.tMap 23])
  (.bl 0 (.lp (.sq (.rg [.nxt 25 24, .ext 26 25 0]) (.sq (.cd 26 .sk (.ex 0)) (.bl 1 (.sq (.rg [.ent 27 24, .ext 28 27 0, .mv 5 (.t 28)]) (.rg [.ld 29 K.tKs 4, .mv 30 (.t 5), .bsl 31 K.tKs [.t 30], .ap 32 K.tKs K.tKs 29 31, .st K.tKs 4 32]))))))))
 (.sq (.rg [.ld 33 K.tKs 4, .mki 34 K.tKs 33, .mf 35 K.fLess 4, .ca 36 K.fSort [.t 34, .t 35]])
 (.sq (.rg [.ld 37 K.tKs 4, .ln 38 K.tKs 37, .mv 39 (.c (.int .i64 0))])
  (.bl 2 (.lp (.sq (.rg [.bi 40 .lss K.tInt (.t 39) (.t 38)]) (.sq (.cd 40 .sk (.ex 2)) (.sq (.bl 3 (.sq (.rg [.ia 41 K.tKs 37 39, .ld 42 K.tU32 41, .mv 7 (.t 42)]) (.rg [.mv 43 (.t 1), .mv 44 (.t 7), .mv 45 (.t 0), .nc 46 45, .fa 47 K.tSt 46 0, .ld 48 K.tMap 47, .mv 49 (.t 7), .lku 50 K.tMap 48 49, .cav 51 43 [.t 44, .t 50]])))
   (.rg [.bi 52 .add K.tInt (.t 39) (.c (.int .i64 1)), .mv 39 (.t 52)]))))))))))
def SortC (P : Program) (tS U f fLess : Nat) : Prop := Jo P f = true ∧ ∀ (w : World) (db g n c : Nat) (cur : Array Value) (ks : List Nat), w.heap[db]? = some (.cells #[.slice (some ⟨g, 0, none⟩) n c] tS (0, 0)) → w.heap[g]? = some (.cells cur U (0, 0)) → ks.length = n → n < 1000000 → (∀ k ∈ ks, k < 4294967296) → w.rangeAt g 0 (ks.map u32V) → w.there g 0 n → g ≠ db → g < w.heap.size →
 Calls P f #[.iface tS (.slice (some ⟨g, 0, none⟩) n c), .func (.func fLess) #[] #[.pointer (some ⟨db, 0, none⟩)]] w (fun e w' => e = .returned (.tuple #[]) ∧ ∃ ks' : List Nat, ks'.Perm ks ∧ ks'.Pairwise (fun x y => x ≤ y) ∧ w'.rangeAt g 0 (ks'.map u32V) ∧ (∃ cur', w'.heap[g]? = some (.cells cur' U (0, 0))) ∧ Fr (fun _ => False) g 0 n w w')
structure TgE (P : Program) (K : EN) (T : IT) : Prop where
 map : mapU P K.tMap = true
 mapT : mapTy P K.tMap = true
 pl : Jm P K.tMap = true
 fld : Jd P K.tSt 0 0 = true
 ks : Jk P K.tKs K.tU32 = true
 u : u32B P K.tU32 = true
 zk : nilSB P K.tKs = true
 ck : Jh P K.tKs 1 = true
 pk : Jm P K.tKs = true
 pu : Jm P K.tU32 = true
 cu : Jh P K.tU32 1 = true
 int : JC P K.tInt .i64 = true
 ne : K.tU32 ≠ K.tKs
theorem sorted_eq : ∀ {l m : List Nat}, l.Pairwise (fun x y => x < y) → m.Pairwise (fun x y => x < y) → (∀ x, x ∈ l ↔ x ∈ m) → l = m
 | [], [], _, _, _ => rfl
 | [], y :: m, _, _, h => by have := (h y).2 List.mem_cons_self; simp at this
 | x :: l, [], _, _, h => by have := (h x).1 List.mem_cons_self; simp at this
 | x :: l, y :: m, h1, h2, h => by
  rw [List.pairwise_cons] at h1 h2
  have exy : x = y := by
   have a := (h x).1 List.mem_cons_self
   have b := (h y).2 List.mem_cons_self
   rw [List.mem_cons] at a b
   rcases a with a | a
   ·exact a
   ·rcases b with b | b
    ·exact b.symm
    ·have := h2.1 x a; have := h1.1 y b; omega
  subst exy
  congr 1
  refine sorted_eq h1.2 h2.2 fun z => ?_
  have hz := h z
  rw [List.mem_cons, List.mem_cons] at hz
  constructor
  ·intro hl
   rcases hz.1 (.inr hl) with e | hm
   ·subst e; have := h1.1 z hl; omega
   ·exact hm
  ·intro hm
   rcases hz.2 (.inr hm) with e | hl
   ·subst e; have := h2.1 z hm; omega
   ·exact hl
theorem run_lookupTag {P : Program} {w : World} {T r clock : Nat} {es : Array MapEntry} {e : MapEntry} {k : Nat} (hT : mapU P T = true) (hb : w.heap[r]? = some (.map es clock)) (hst : Stamped es clock) (hks : ∀ x ∈ es.toList, IsKey (.int .u32) x.key) (he : e ∈ es.toList) (hk : e.key = u32V k) :
  (Instr.lookup T (.map (some r)) (u32V k) false).run P w = .ok e.val w := by
 obtain ⟨kt, et, hm, hd⟩ := mapU_eq hT
 have hk' : IsKey (.int .u32) (u32V k) := rfl
 rcases findNow_spec hk' es.toList 0 hks with ⟨h1, h2⟩ | ⟨j, e', h1, h2, h3⟩
 ·exact absurd hk (h2 e he)
 ·have hem : e' ∈ es.toList := List.mem_of_getElem? h2
  have heq : e' = e := by
   have hn := ((stamped_iff es clock).1 hst).2.2
   obtain ⟨i1, hi1⟩ := List.getElem?_of_mem he
   rw [List.pairwise_iff_getElem] at hn
   rcases Nat.lt_trichotomy i1 j with hlt | heq | hgt
   ·obtain ⟨a1, a2⟩ := List.getElem?_eq_some_iff.1 hi1
    obtain ⟨b1, b2⟩ := List.getElem?_eq_some_iff.1 h2
    exact absurd (by rw [a2, b2, hk, h3]) (hn i1 j a1 b1 hlt)
   ·subst heq; rw [hi1] at h2; exact (Option.some.inj h2).symm
   ·obtain ⟨a1, a2⟩ := List.getElem?_eq_some_iff.1 hi1
    obtain ⟨b1, b2⟩ := List.getElem?_eq_some_iff.1 h2
    exact absurd (by rw [a2, b2, hk, h3]) (hn j i1 b1 a1 hgt)
  subst heq
  cases hemp : es.isEmpty <;> simp [Instr.lookup, run_underlying hm, Go.MapKept.run_getObj_map hb, Go.MapKept.run_checkKey hd hk', Go.MapKept.run_findKey hd h1, Result.andThen]
set_option linter.unusedVariables false
theorem key_inj {es : Array MapEntry} {clock : Nat} (hst : Stamped es clock) {x e : MapEntry} (hx : x ∈ es.toList) (he : e ∈ es.toList) (hk : x.key = e.key) : x = e := by
 have hn := ((stamped_iff es clock).1 hst).2.2
 obtain ⟨i, hi⟩ := List.getElem?_of_mem hx
 obtain ⟨j, hj⟩ := List.getElem?_of_mem he
 rw [List.pairwise_iff_getElem] at hn
 obtain ⟨a1, a2⟩ := List.getElem?_eq_some_iff.1 hi
 obtain ⟨b1, b2⟩ := List.getElem?_eq_some_iff.1 hj
 rcases Nat.lt_trichotomy i j with hlt | heq | hgt
 ·exact absurd (by rw [a2, b2, hk]) (hn i j a1 b1 hlt)
 ·subst heq; rw [hi] at hj; exact Option.some.inj hj
 ·exact absurd (by rw [a2, b2, hk]) (hn j i b1 a1 hgt)
theorem born_inj {es : Array MapEntry} {clock : Nat} (hst : Stamped es clock) {x e : MapEntry} (hx : x ∈ es.toList) (he : e ∈ es.toList) (hk : x.born = e.born) : x = e := by
 have hn := ((stamped_iff es clock).1 hst).2.1
 obtain ⟨i, hi⟩ := List.getElem?_of_mem hx
 obtain ⟨j, hj⟩ := List.getElem?_of_mem he
 rw [List.Nodup, List.pairwise_map, List.pairwise_iff_getElem] at hn
 obtain ⟨a1, a2⟩ := List.getElem?_eq_some_iff.1 hi
 obtain ⟨b1, b2⟩ := List.getElem?_eq_some_iff.1 hj
 rcases Nat.lt_trichotomy i j with hlt | heq | hgt
 ·exact absurd (by rw [a2, b2, hk]) (hn i j a1 b1 hlt)
 ·subst heq; rw [hi] at hj; exact Option.some.inj hj
 ·exact absurd (by rw [a2, b2, hk]) (hn j i b1 a1 hgt)
theorem iterSeen_of {w : World} {it : Nat} {a : Option Nat} {b c : Nat} {s : Array Nat} (h : w.heap[it]? = some (.mapIter a b s c)) : w.iterSeen it = s := by unfold World.iterSeen; rw [h]
theorem setHeap_same {w : World} {r : Nat} {o o' : Obj} (h : w.heap[r]? = some o') : (setHeap w r o).heap[r]? = some o := (heap_set h).1
theorem setHeap_other {w : World} {r k : Nat} {o : Obj} (h : k ≠ r) : (setHeap w r o).heap[k]? = w.heap[k]? := by simp [setHeap, Ne.symm h]
section
variable {P : Program} {N : Nat} {Q : UE} {ρ : Nat → Value} {w w' : World} {ms : List MOp} {T : IT} {K : EN}
theorem each_tail {B db r clock g c : Nat} {p : Addr} {es : Array MapEntry} {bs : List UInt8} {tags : List Tg} {w0 : World} (te : TgE P K T) (hneU : K.tU32 ≠ T.u8) (hcb : CbC P T K.fCb) (hB : B ≤ w0.heap.size) (hBd : B ≤ db) (hp : p = ⟨p.block, p.off, none⟩)
  (hb : Below B w0 w) (hn0 : Nr T.u8 db w0 w) (hpB : p.block < B ∨ p.block ≠ db ∧ ∀ cur, w0.heap[p.block]? ≠ some (.cells cur T.u8 (0, 0))) (hrB : r < B) (hcell : w0.cell? p = some (.map (some r))) (hmap : w0.heap[r]? = some (.map es clock)) (hst : Stamped es clock) (hkeys : ∀ x ∈ es.toList, IsKey (.int .u32) x.key) (hsm : smallT tags)
  (hval : ∀ t ∈ tags, t.1 < 4294967296 ∧ ∃ e ∈ es.toList, e.key = .int .u32 t.1 ∧ ∃ a c, e.val = .slice a t.2.length c ∧ Jg w0 (· < B) a t.2) (hbox : BoxR T.u8 T.u8s w B db (bs.map JF)) (hlim : bs.length + (tags.flatMap Jt).length ≤ lim)
  (hrow : w.rangeAt g 0 (tags.map fun t => u32V t.1)) (hgdb : g ≠ db) (hgn : ∀ cur, w.heap[g]? ≠ some (.cells cur T.u8 (0, 0))) (hg : g < w.heap.size)
  (r0 : ρ 0 = .pointer (some p)) (r1 : ρ 1 = .func (.func K.fCb) #[] #[.pointer (some ⟨db, 0, none⟩)]) (r37 : ρ 37 = .slice (some ⟨g, 0, none⟩) tags.length c) (r38 : ρ 38 = .int .i64 (tags.length : Nat)) (r39 : ρ 39 = .int .i64 0)
  (hQ : ∀ ρ' w', BoxR T.u8 T.u8s w' B db ((bs ++ tags.flatMap Jt).map JF) → Below B w0 w' → Nr T.u8 db w0 w' → Q .normal ρ' w') :
  RW P 53 (.bl 2 (.lp (.sq (.rg [.bi 40 .lss K.tInt (.t 39) (.t 38)]) (.sq (.cd 40 .sk (.ex 2)) (.sq (.bl 3 (.sq (.rg [.ia 41 K.tKs 37 39, .ld 42 K.tU32 41, .mv 7 (.t 42)]) (.rg [.mv 43 (.t 1), .mv 44 (.t 7), .mv 45 (.t 0), .nc 46 45, .fa 47 K.tSt 46 0, .ld 48 K.tMap 47, .mv 49 (.t 7), .lku 50 K.tMap 48 49, .cav 51 43 [.t 44, .t 50]])))
   (.rg [.bi 52 .add K.tInt (.t 39) (.c (.int .i64 1)), .mv 39 (.t 52)])))))) Q ρ w := by
 have hn : tags.length ≤ 40000 := hsm.1
 refine RW.bl (RW.lp (fun ρ' w' => ∃ i : Nat, i ≤ tags.length ∧ ρ' 0 = .pointer (some p) ∧ ρ' 1 = .func (.func K.fCb) #[] #[.pointer (some ⟨db, 0, none⟩)] ∧ ρ' 37 = .slice (some ⟨g, 0, none⟩) tags.length c ∧ ρ' 38 = .int .i64 (tags.length : Nat) ∧ ρ' 39 = .int .i64 (i : Nat) ∧
   Below B w0 w' ∧ BoxR T.u8 T.u8s w' B db ((bs ++ (tags.take i).flatMap Jt).map JF) ∧ w'.rangeAt g 0 (tags.map fun t => u32V t.1) ∧ (∀ cur, w'.heap[g]? ≠ some (.cells cur T.u8 (0, 0))) ∧ g < w'.heap.size ∧ Nr T.u8 db w0 w')
  (fun ρ' _ => tags.length - (intOf (ρ' 39)).toNat) ⟨0, Nat.zero_le _, r0, r1, r37, r38, r39, hb, by simpa using hbox, hrow, hgn, hg, hn0⟩ ?_ (fun ρ1 ρ2 w1 h => by rw [h 39 (by omega)]))
 rintro ρ1 w1 ⟨i, hi, q0, q1, q37, q38, q39, hb1, hbox1, hrow1, hgn1, hg1, hnr1⟩
 refine RW.knows [(0, .pointer (some p)), (1, .func (.func K.fCb) #[] #[.pointer (some ⟨db, 0, none⟩)]), (37, .slice (some ⟨g, 0, none⟩) tags.length c), (38, .int .i64 (tags.length : Nat)), (39, .int .i64 (i : Nat))] (by simp [q0, q1, q37, q38, q39]) ?_
 refine RW.sq (RW.rg (RL.s (MR.biE (v := .bool (decide ((i : Int) < (tags.length : Nat)))) rfl) (RL.nil ?_)))
 by_cases hlt : i < tags.length
 ·refine RW.sq (RW.cd (b := true) (by show Value.bool _ = _; rw [decide_eq_true (by omega)]) (fun _ => RW.sk ?_) (fun e => by cases e))
  obtain ⟨t, ht⟩ : ∃ t, tags[i]? = some t := ⟨_, List.getElem?_eq_getElem hlt⟩
  have htm : t ∈ tags := List.mem_of_getElem? ht
  obtain ⟨v1, e, v2, v3, a, cc, v4, v5⟩ := hval t htm
  have hmap1 : w1.heap[r]? = some (.map es clock) := by rw [hb1.block r hrB]; exact hmap
  have hcell1 : w1.cell? p = some (.map (some r)) := by
   rw [Ji (w := w0) (by
    rcases hpB with h | h
    ·exact hb1.block p.block h
    ·exact hnr1 p.block (World.block_lt_of_cell? w0 _ hcell) h.1 h.2)]; exact hcell
  rw [hp] at hcell1
  have hrowi : w1.cell? ⟨g, 0 + i * 1, none⟩ = some (u32V t.1) := by
   have := hrow1 i (u32V t.1) (by rw [List.getElem?_map, ht]; rfl)
   rwa [Nat.mul_one]
  refine RW.sq (RW.bl (RW.sq (RW.rg (RL.s (MR.ia (k := .i64) te.ks te.cu rfl rfl hlt) (RL.s (MR.ld rfl te.pu hrowi) (RL.s MR.mv (RL.nil ?_)))))))
  refine RW.rg (RL.s (MR.mv (v := .func (.func K.fCb) #[] #[.pointer (some ⟨db, 0, none⟩)]) rfl) (RL.s (MR.mv (v := u32V t.1) rfl) (RL.s (MR.mv (v := .pointer (some ⟨p.block, p.off, none⟩)) (by show Value.pointer (some p) = _; rw [← hp])) (RL.s (MR.nc rfl) (RL.s (MR.fa rfl te.fld)
   (RL.s (MR.ld (v := .map (some r)) rfl te.pl (by rw [Nat.add_zero]; exact hcell1)) (RL.s (MR.mv (v := u32V t.1) rfl) (RL.s (MR.lku (v := e.val) (run_lookupTag te.map hmap1 hst hkeys v2 (by rw [v3]; rfl))) ?_))))))))
  have elen : ((tags.take (i + 1)).flatMap Jt) = (tags.take i).flatMap Jt ++ Jt t := by
   rw [List.take_add_one, ht]; simp
  have hll : bs.length + ((tags.take i).flatMap Jt).length + (Jt t).length ≤ lim := by
   have e1 : tags.flatMap Jt = (tags.take (i + 1)).flatMap Jt ++ (tags.drop (i + 1)).flatMap Jt := by rw [← List.flatMap_append, List.take_append_drop]
   rw [e1, elen] at hlim
   simp only [UD] at hlim; omega
  have hcbc := hcb.2 w1 B db (bs ++ (tags.take i).flatMap Jt) t.1 a t.2 cc (Nat.le_trans hB hb1.size) hBd hbox1 v1 (hsm.2 t htm) (v5.mono (fun _ h => h) (fun b hb => hb1.block b hb)) (by rw [UD]; exact hll)
  refine RL.cav (g := K.fCb) (lb := [.pointer (some ⟨db, 0, none⟩)]) (R := fun _ w' => BoxR T.u8 T.u8s w' B db ((bs ++ (tags.take i).flatMap Jt ++ Jt t).map JF) ∧ Below B w1 w' ∧ Nr T.u8 db w1 w') hcb.1 rfl ?_ ?_
  ·show Calls P K.fCb #[u32V t.1, e.val, .pointer (some ⟨db, 0, none⟩)] w1 _
   rw [v4]
   refine Calls.mono hcbc ?_
   rintro e' w' ⟨⟨v, rfl⟩, h⟩
   exact ⟨v, rfl, h⟩
  rintro v w2 ⟨hbox2, hb2, hnr⟩
  have hg2 : w2.heap[g]? = w1.heap[g]? := hnr g hg1 hgdb hgn1
  refine RL.nil (RW.rg (RL.s (MR.biE (v := .int .i64 ((i + 1 : Nat) : Int)) (by show some (Value.int .i64 (IntKind.i64.wrap ((i : Int) + 1))) = _; rw [Ju (by omega) (by omega)]; rfl)) (RL.s MR.mv (RL.nil ?_))))
  refine ⟨⟨i + 1, hlt, rfl, rfl, rfl, rfl, rfl, hb1.trans hb2, ?_, JV hrow1 hg2, fun cur => by rw [hg2]; exact hgn1 cur, Nat.lt_of_lt_of_le hg1 hb2.size, hnr1.trans hnr hb1.size⟩, ?_⟩
  ·rw [elen, ← List.append_assoc]; exact hbox2
  ·show tags.length - ((i + 1 : Nat) : Int).toNat < tags.length - (intOf (ρ1 39)).toNat
   rw [q39]; simp only [intOf]; omega
 ·refine RW.sq (RW.cd (b := false) (by show Value.bool _ = _; rw [decide_eq_false (by omega)]) (fun e => by cases e) (fun _ => RW.ex ?_))
  show J2 2 Q (.exit 2) _ w1
  simp only [J2, ↓reduceIte]
  have : i = tags.length := by omega
  subst this
  rw [List.take_length] at hbox1
  exact hQ _ w1 hbox1 hb1 hnr1
theorem each_range {B0 it kb r clock : Nat} {es : Array MapEntry} {w0 : World} {p : Value} {fv : Value} {tags : List Tg} (te : TgE P K T) (hB : B0 ≤ w0.heap.size) (hst : Stamped es clock) (hback : ∀ x ∈ es.toList, ∃ t ∈ tags, x.key = .int .u32 t.1) (hes : es.size ≤ 40000)
  (hmap : w0.heap[r]? = some (.map es clock)) (hrB : r < B0) (hkb : B0 ≤ kb) (hit : B0 ≤ it) (hne : kb ≠ it) (hitw : w.heap[it]? = some (.mapIter (some r) clock #[] clock)) (hb : Below B0 w0 w) (hbox : BoxR K.tU32 K.tKs w B0 kb [])
  (r0 : ρ 0 = p) (r1 : ρ 1 = fv) (r4 : ρ 4 = .pointer (some ⟨kb, 0, none⟩)) (r24 : ρ 24 = .pointer (some ⟨it, 0, none⟩))
  (hQ : ∀ ρ' w' (ks : List Nat), ρ' 0 = p → ρ' 1 = fv → ρ' 4 = .pointer (some ⟨kb, 0, none⟩) → Below B0 w0 w' → BoxR K.tU32 K.tKs w' B0 kb (ks.map u32V) → ks.Nodup → (∀ x ∈ es.toList, ∃ k ∈ ks, x.key = u32V k) → (∀ k ∈ ks, ∃ x ∈ es.toList, x.key = u32V k) → ks.length ≤ es.size → Q .normal ρ' w') :
  RW P 53 (.bl 0 (.lp (.sq (.rg [.nxt 25 24, .ext 26 25 0]) (.sq (.cd 26 .sk (.ex 0)) (.bl 1 (.sq (.rg [.ent 27 24, .ext 28 27 0, .mv 5 (.t 28)]) (.rg [.ld 29 K.tKs 4, .mv 30 (.t 5), .bsl 31 K.tKs [.t 30], .ap 32 K.tKs K.tKs 29 31, .st K.tKs 4 32]))))))) Q ρ w := by
 refine RW.bl (RW.lp (fun ρ' w' => ∃ (seen : Array Nat) (ks : List Nat), ρ' 0 = p ∧ ρ' 1 = fv ∧ ρ' 4 = .pointer (some ⟨kb, 0, none⟩) ∧ ρ' 24 = .pointer (some ⟨it, 0, none⟩) ∧ w'.heap[it]? = some (.mapIter (some r) clock seen clock) ∧ BoxR K.tU32 K.tKs w' B0 kb (ks.map u32V) ∧ Below B0 w0 w' ∧
   ks.Nodup ∧ (∀ x ∈ es.toList, seen.contains x.born = true → ∃ k ∈ ks, x.key = u32V k) ∧ (∀ k ∈ ks, ∃ x ∈ es.toList, x.key = u32V k ∧ seen.contains x.born = true) ∧ ks.length + (leftOf es seen).size ≤ es.size)
  (fun _ w' => (leftOf es (w'.iterSeen it)).size) ⟨#[], [], r0, r1, r4, r24, hitw, hbox, hb, List.nodup_nil, fun x _ h => by simp at h, fun k h => by simp at h, by simpa [leftOf] using Array.size_filter_le⟩ ?_)
 rintro ρ1 w1 ⟨seen, ks, q0, q1, q4, q24, hit1, hbox1, hb1, hnd, hfw, hbk, hsz⟩
 have hmap1 : w1.heap[r]? = some (.map es clock) := by rw [hb1.block r hrB]; exact hmap
 refine RW.knows [(0, p), (1, fv), (4, .pointer (some ⟨kb, 0, none⟩)), (24, .pointer (some ⟨it, 0, none⟩))] (by simp [q0, q1, q4, q24]) ?_
 rcases run_nextG (P := P) (w := w1) it r clock clock clock seen es hmap1 hit1 hst.1 (Nat.le_refl _) with ⟨hz, hrun⟩ | ⟨e, he, w2, e1, e2, e3, e4, hrun⟩
 ·refine RW.sq (RW.rg (RL.s (MR.nxt (v := .tuple #[.bool false]) hrun) (RL.s (MR.ext (v := .bool false) rfl) (RL.nil (RW.sq (RW.cd (b := false) rfl (fun e => by cases e) (fun _ => RW.ex ?_)))))))
  show J2 0 Q (.exit 0) _ w1
  simp only [J2, ↓reduceIte]
  refine hQ _ w1 ks rfl rfl rfl hb1 hbox1 hnd (fun x hx => hfw x hx ?_) (fun k hk => ?_) (by omega)
  ·cases hc : seen.contains x.born with
   | true => rfl
   | false =>
    have : x ∈ leftOf es seen := by
     unfold leftOf
     rw [Array.mem_filter]
     exact ⟨by simpa using hx, by rw [hc]; rfl⟩
    have := Array.size_pos_of_mem this
    omega
  ·obtain ⟨x, h1, h2, _⟩ := hbk k hk
   exact ⟨x, h1, h2⟩
 ·obtain ⟨hem, hes0⟩ := mem_left he
  obtain ⟨t, htm, htk⟩ := hback e hem
  have s2 : w2.heap.size = w1.heap.size := by rw [e1]
  have hit2 : w2.heap[it]? = some (.mapIter (some r) clock seen clock) := by rw [e1]; exact hit1
  generalize hw3 : setHeap w2 it (.mapIter (some r) clock (seen.push e.born) clock) = w3 at hrun
  have i3 : w3.heap[it]? = some (.mapIter (some r) clock (seen.push e.born) clock) := by rw [← hw3]; exact setHeap_same hit2
  have o3 : ∀ k, k ≠ it → w3.heap[k]? = w1.heap[k]? := fun k hk => by rw [← hw3, setHeap_other hk, e1]
  have z3 : w3.heap.size = w1.heap.size := by rw [← hw3]; simp [setHeap, s2]
  have B3 : Below B0 w0 w3 := hb1.trans ⟨by rw [← hw3]; exact e2, by rw [← hw3]; exact e3, by rw [← hw3]; exact e4, by omega, fun k hk => o3 k (by omega)⟩
  have hmap3 : w3.heap[r]? = some (.map es clock) := by rw [o3 r (by omega)]; exact hmap1
  refine RW.sq (RW.rg (RL.s (MR.nxt (v := .tuple #[.bool true, e.key, e.val]) hrun) (RL.s (MR.ext (v := .bool true) rfl) (RL.nil (RW.sq (RW.cd (b := true) rfl (fun _ => RW.sk ?_) (fun e => by cases e)))))))
  refine RW.bl (RW.sq (RW.rg (RL.s (MR.ent (v := .tuple #[e.key, e.val]) (run_entryG it r clock clock seen es e hmap3 i3 hem hst.2.1)) (RL.s (MR.ext (v := e.key) rfl) (RL.s MR.mv (RL.nil ?_))))))
  obtain ⟨sv, c1, c2⟩ := hbox1
  rw [List.length_map] at c2
  have hlen : ks.length < 1000000 := by omega
  have c1' : w3.heap[kb]? = some (.cells #[sv] K.tKs (0, 0)) := by rw [o3 kb hne]; exact c1
  have c2' : w3.ownsRow B0 K.tU32 1 sv ks.length (ks.map u32V) := own_keep c2 fun g hg => o3 g (by
   rcases c2.2 with ⟨rfl, _⟩ | ⟨g', cap, cur, rfl, h3, h4, h5⟩
   ·cases hg
   ·simp only [Value.ownBlock, UC] at hg
    subst hg
    rintro rfl
    rw [hit1] at h4; cases h4)
  have hkey : e.key = u32V t.1 := htk
  have b4 := Jn w3 (.cells #[u32V t.1] K.tU32)
  have z4 := J1 w3 (.cells #[u32V t.1] K.tU32)
  have rg4 : (w3.alloc (.cells #[u32V t.1] K.tU32)).rangeAt w3.heap.size 0 [u32V t.1] := fun j v hj => JA w3 [u32V t.1] K.tU32 hj
  have c24 : (w3.alloc (.cells #[u32V t.1] K.tU32)).ownsRow B0 K.tU32 1 sv ks.length (ks.map u32V) := own_keep c2' fun g hg => b4.block g (by
   rcases c2'.2 with ⟨rfl, _⟩ | ⟨g', cap, cur, rfl, h3, h4, h5⟩
   ·cases hg
   ·simp only [Value.ownBlock, UC] at hg
    subst hg
    exact (Array.getElem?_eq_some_iff.1 h4).1)
  have c14 : (w3.alloc (.cells #[u32V t.1] K.tU32)).heap[kb]? = some (.cells #[sv] K.tKs (0, 0)) := by rw [b4.block kb (Array.getElem?_eq_some_iff.1 c1').1]; exact c1'
  obtain ⟨sv5, w5, a1, a2, a3⟩ := run_ap32 (P := P) (w := w3.alloc (.cells #[u32V t.1] K.tU32)) (T := K.tKs) (c := 1) te.ks te.u c24 rg4 hlen (Nat.le_trans hB (Nat.le_trans B3.size b4.size))
  have c15 : w5.heap[kb]? = some (.cells #[sv] K.tKs (0, 0)) := box_grown c24 c14 te.ne a3
  refine RW.rg (RL.s (MR.ld (p := ⟨kb, 0, none⟩) rfl te.pk (box_cell c1')) (RL.s (MR.mv (v := u32V t.1) (by show e.key = _; exact hkey)) (RL.s (MR.bslBy (v := .slice (some ⟨w3.heap.size, 0, none⟩) 1 1) (w' := w3.alloc (.cells #[u32V t.1] K.tU32)) (run_bsl1 te.ks te.u))
   (RL.s (MR.apBy (a1 0) a1) (RL.st1 (v := sv5) (b := kb) (o := 0) rfl rfl (own_one a2) te.ck (box_there c15) (RL.nil ?_))))))
  have B5 : Below B0 w0 w5 := (B3.trans (b4.mono (Nat.le_trans hB B3.size))).grown a3 (Nat.le_trans hB (Nat.le_trans B3.size b4.size)) (fun k hk => by
   have := (World.ownsRow.lt c24 k hk).1; exact this)
  have hit5 : w5.heap[it]? = some (.mapIter (some r) clock (seen.push e.born) clock) := by
   rw [a3.block it (by have := (Array.getElem?_eq_some_iff.1 i3).1; omega) (fun ee => by
    rcases c24.2 with ⟨rfl, _⟩ | ⟨g', cap, cur, rfl, h3, h4, h5⟩
    ·cases ee
    ·simp only [Value.ownBlock, UC] at ee
     subst ee
     rw [b4.block it (Array.getElem?_eq_some_iff.1 i3).1, i3] at h4; cases h4), b4.block it (Array.getElem?_eq_some_iff.1 i3).1]
   exact i3
  have hit6 : (w5.setCells kb 0 [sv5]).heap[it]? = some (.mapIter (some r) clock (seen.push e.born) clock) := by rw [Jp kb _ _ _ it (fun h => hne h.symm)]; exact hit5
  have hkn : t.1 ∉ ks := fun hin => by
   obtain ⟨x, x1, x2, x3⟩ := hbk _ hin
   have := key_inj hst x1 hem (by rw [x2, hkey])
   subst this
   rw [hes0] at x3; cases x3
  have hsh := left_shrinks es seen e he
  refine ⟨⟨seen.push e.born, ks ++ [t.1], rfl, rfl, rfl, rfl, hit6, ?_, JD hkb _ _ B5, ?_, ?_, ?_, by simp only [UD, List.length_cons, List.length_nil]; omega⟩, ?_⟩
  ·refine BoxR.put c15 (n := ((ks ++ [t.1]).map u32V).length) ?_ rfl te.ne
   rw [List.length_map, UD, List.map_append]
   exact a2
  ·rw [List.nodup_append]
   exact ⟨hnd, by simp, fun a ha b hb => by simp only [List.mem_singleton] at hb; subst hb; rintro rfl; exact hkn ha⟩
  ·intro x hx hc
   rw [contains_push, Bool.or_eq_true, beq_iff_eq] at hc
   rcases hc with hc | hc
   ·obtain ⟨k, k1, k2⟩ := hfw x hx hc
    exact ⟨k, List.mem_append_left _ k1, k2⟩
   ·have := born_inj hst hx hem hc
    subst this
    exact ⟨t.1, by simp, hkey⟩
  ·intro k hk
   rw [List.mem_append] at hk
   rcases hk with hk | hk
   ·obtain ⟨x, x1, x2, x3⟩ := hbk k hk
    exact ⟨x, x1, x2, by rw [contains_push, x3]; rfl⟩
   ·simp only [List.mem_singleton] at hk
    subst hk
    exact ⟨e, hem, hkey, by rw [contains_push]; simp⟩
  ·show (leftOf es ((w5.setCells kb 0 [sv5]).iterSeen it)).size < (leftOf es (w1.iterSeen it)).size
   rw [iterSeen_of hit6, iterSeen_of hit1]; exact hsh
end
end Go.Kx
namespace Go.Kx
open Go.RowKit Go.MapKept Go.MapFrom
set_option linter.unusedSimpArgs false
set_option linter.unusedVariables false
section
variable {P : Program} {N : Nat} {Q : UE} {ρ : Nat → Value} {w w' : World} {ms : List MOp} {T : IT} {K : EN}
theorem cells_there {g n e : Nat} {cur : Array Value} (h : w.heap[g]? = some (.cells cur e (0, 0))) (hn : n ≤ cur.size) : w.there g 0 n := by
 intro j hj
 refine ⟨?_, ?_⟩
 ·rw [cell_of_row w g (0 + j) cur e (0, 0) h, Nat.zero_add]
  simp; omega
 ·unfold World.frozen?
  simp [h]
theorem each_ok {f : Nat} (te : TgE P K T) (hneU : K.tU32 ≠ T.u8) (hcb : CbC P T K.fCb) (hso : SortC P K.tKs K.tU32 K.fSort K.fLess) (hf : Qz P f (cEachF K) 53) (w : World) (B db : Nat) (p : Addr) (m : Value) (bs : List UInt8) (tags : List Tg) (hB : B ≤ w.heap.size) (hpB : p.block < B ∨ p.block ≠ db ∧ ∀ cur, w.heap[p.block]? ≠ some (.cells cur T.u8 (0, 0))) (hBd : B ≤ db)
  (hm : RepT w (· < B) m tags) (hsm : smallT tags) (hc : w.cell? p = some m) (hbox : BoxR T.u8 T.u8s w B db (bs.map JF)) (hlim : bs.length + (tags.flatMap Jt).length ≤ lim) :
  Calls P f #[.pointer (some p), .func (.func K.fCb) #[] #[.pointer (some ⟨db, 0, none⟩)]] w (fun e w' => (∃ v, e = .returned v) ∧ BoxR T.u8 T.u8s w' B db ((bs ++ tags.flatMap Jt).map JF) ∧ Below B w w' ∧ Nr T.u8 db w w') := by
 have hp := cell_spot hc
 refine hf.runs (args := [.pointer (some p), .func (.func K.fCb) #[] #[.pointer (some ⟨db, 0, none⟩)]]) (by simp) ?_
 have hc' : w.cell? ⟨p.block, p.off + 0, none⟩ = some m := by rw [Nat.add_zero, ← hp]; exact hc
 have hp' : (Value.pointer (some p)) = .pointer (some ⟨p.block, p.off, none⟩) := by rw [← hp]
 refine RW.sq (RW.sq (RW.rg (RL.s (MR.mv (v := .pointer (some ⟨p.block, p.off, none⟩)) hp') (RL.s (MR.nc rfl) (RL.s (MR.fa rfl te.fld) (RL.s (MR.ld rfl te.pl hc') (RL.s (MR.lnM te.mapT hm rfl) (RL.s (MR.biE (v := .bool (((tags.length : Nat) : Int) == 0)) rfl) (RL.nil ?_)))))))))
 refine RW.cd rfl (fun e => RW.rt ?_) (fun e => RW.sk ?_)
 ·have : tags = [] := by
   have := beq_iff_eq.1 e
   exact List.eq_nil_of_length_eq_zero (by omega)
  subst this
  exact ⟨⟨_, rfl⟩, by simpa using hbox, Below.refl _ _, fun _ _ _ _ => rfl⟩
 have hne0 : 0 < tags.length := by have := beq_eq_false_iff_ne.1 e; omega
 rcases hm with ⟨rfl, rfl⟩ | ⟨r, es, clock, rfl, hrB, hmap, hsz, hsort, hval, hst, hback, hnE⟩
 ·simp at hne0
 have hrB : r < B := hrB
 have hn32 : tags.length ≤ 40000 := hsm.1
 have hkeys : ∀ x ∈ es.toList, IsKey (.int .u32) x.key := fun x hx => by obtain ⟨t, _, e⟩ := hback x hx; rw [e]; rfl
 obtain ⟨i, hi, his, hib, hiz⟩ := u32B_of te.u
 obtain ⟨zi, hzi, hzz⟩ := nilSB_of te.zk
 obtain ⟨w1, m1, m2, m3⟩ := run_make_own (P := P) w w.heap.size K.tKs K.tU32 i (.int .u32 0) 1 (Jq te.ks) hi hiz his .i64 .i64 tags.length (by have : i.bytes * tags.length ≤ 1000 * 40000 := Nat.mul_le_mul hib hn32; omega) (by simp only [maxLen]; omega) (Nat.le_refl _)
 refine RW.sq (RW.rg (RL.s (MR.mv (v := .pointer (some ⟨p.block, p.off, none⟩)) hp') (RL.s (MR.nc rfl) (RL.s (MR.fa rfl te.fld) (RL.s (MR.ld rfl te.pl hc') (RL.s (MR.lnM (F := (· < B)) (tags := tags) te.mapT (.inr ⟨r, es, clock, rfl, hrB, hmap, hsz, hsort, hval, hst, hback, hnE⟩) rfl)
  (RL.s (MR.mkBy m1) (RL.s (MR.al ⟨zi, hzi, hzz⟩) ?_))))))))
 have b1 : Below w.heap.size w w1 := (Below.refl _ _).grown m3 (Nat.le_refl _) (by intro k hk; cases hk)
 have b2 := Jn w1 (.cells #[.slice none 0 0] K.tKs)
 have hkb0 : (w1.alloc (.cells #[.slice none 0 0] K.tKs)).heap[w1.heap.size]? = some (.cells #[.slice none 0 0] K.tKs (0, 0)) := heap_alloc_new w1 _
 have o2 : (w1.alloc (.cells #[.slice none 0 0] K.tKs)).ownsRow w.heap.size K.tU32 1 (.slice (some ⟨w.heap.size, 0, none⟩) 0 tags.length) 0 [] := own_keep m2 fun g hg => b2.block g (by
  rcases m2.2 with ⟨h, _⟩ | ⟨g', cap, cur, h1, h3, h4, h5⟩
  ·cases h
  ·simp only [Value.ownBlock, UC] at hg
   subst hg
   simp only [Value.slice.injEq, UC, Addr.mk.injEq] at h1
   rw [h1.1.1]
   exact (Array.getElem?_eq_some_iff.1 h4).1)
 refine RL.st1 (v := .slice (some ⟨w.heap.size, 0, none⟩) 0 tags.length) (b := w1.heap.size) (o := 0) rfl rfl rfl te.ck (box_there hkb0) (RL.nil ?_)
 have hbx := BoxR.put (xs := []) (n := 0) hkb0 o2 rfl te.ne
 have B2 : Below w.heap.size w ((w1.alloc (.cells #[.slice none 0 0] K.tKs)).setCells w1.heap.size 0 [.slice (some ⟨w.heap.size, 0, none⟩) 0 tags.length]) := JD b1.size _ _ (b1.trans (b2.mono b1.size))
 have z2 : w1.heap.size < ((w1.alloc (.cells #[.slice none 0 0] K.tKs)).setCells w1.heap.size 0 [.slice (some ⟨w.heap.size, 0, none⟩) 0 tags.length]).heap.size := by rw [Qr, J1]; omega
 show RW P 53 _ _ _ ((w1.alloc (.cells #[.slice none 0 0] K.tKs)).setCells w1.heap.size 0 [.slice (some ⟨w.heap.size, 0, none⟩) 0 tags.length])
 revert hbx B2 z2
 generalize (w1.alloc (.cells #[.slice none 0 0] K.tKs)).setCells w1.heap.size 0 [.slice (some ⟨w.heap.size, 0, none⟩) 0 tags.length] = w2
 intro hbx B2 z2
 obtain ⟨kt, et, hum, hud⟩ := mapU_eq te.map
 have hmap2 : w2.heap[r]? = some (.map es clock) := by rw [B2.block r (by omega)]; exact hmap
 have hc2 : w2.cell? ⟨p.block, p.off + 0, none⟩ = some (.map (some r)) := B2.kp _ _ hc'
 have b3 := Jn w2 (.mapIter (some r) clock #[] clock)
 refine RW.sq (RW.sq (RW.rg (RL.s (MR.mv (v := .pointer (some ⟨p.block, p.off, none⟩)) hp') (RL.s (MR.nc rfl) (RL.s (MR.fa rfl te.fld) (RL.s (MR.ld rfl te.pl hc2) (RL.s (MR.rng (run_range_map w2 K.tMap kt et r es clock hum hmap2)) (RL.nil ?_))))))))
 refine each_range (B0 := w.heap.size) (it := w2.heap.size) (kb := w1.heap.size) (r := r) (clock := clock) (es := es) (w0 := w) (tags := tags) (p := .pointer (some p)) (fv := .func (.func K.fCb) #[] #[.pointer (some ⟨db, 0, none⟩)]) te (Nat.le_refl _) hst hback (by omega) hmap (by omega) b1.size B2.size (by omega) (heap_alloc_new w2 _) (B2.trans (b3.mono B2.size)) (hbx.keep b3) rfl rfl rfl rfl ?_
 intro ρ5 w5 ks q0 q1 q4 B5 hbox5 hnd hfw hbk hkl
 show RW P 53 _ _ ρ5 w5
 obtain ⟨sv, c1, c2⟩ := hbox5
 rw [List.length_map] at c2
 have keyOf : ∀ k ∈ ks, ∃ t ∈ tags, t.1 = k := fun k hk => by
  obtain ⟨x, x1, x2⟩ := hbk k hk
  obtain ⟨t, t1, t2⟩ := hback x x1
  refine ⟨t, t1, ?_⟩
  rw [t2] at x2
  simp only [u32V, Value.int.injEq, true_and] at x2; omega
 have hks0 : 0 < ks.length := by
  obtain ⟨t, ht⟩ : ∃ t, tags[0]? = some t := ⟨_, List.getElem?_eq_getElem hne0⟩
  obtain ⟨_, e', e1, e2, _⟩ := hval t (List.mem_of_getElem? ht)
  obtain ⟨k, k1, _⟩ := hfw e' e1
  exact List.length_pos_of_mem k1
 rcases c2.2 with ⟨_, h0⟩ | ⟨g, cap, cur, rfl, hgB, hgh, hncap, hcapm, hcs, htk⟩
 ·omega
 have hgkb : g ≠ w1.heap.size := own_ne c2 c1 te.ne g rfl
 have hg5 : g < w5.heap.size := (Array.getElem?_eq_some_iff.1 hgh).1
 have hrow5 : w5.rangeAt g 0 (ks.map u32V) := by
  intro j v hj
  rw [← htk, List.getElem?_take] at hj
  split at hj
  ·exact rangeAt_heap hgh j v hj
  ·simp at hj
 have hsc := hso.2 w5 w1.heap.size g ks.length cap cur ks c1 hgh rfl (by omega) (fun k hk => by obtain ⟨t, t1, rfl⟩ := keyOf k hk; exact (hval t t1).1) hrow5 (cells_there hgh (by omega)) hgkb hg5
 refine RW.sq (RW.rg (RL.s (MR.ld (p := ⟨w1.heap.size, 0, none⟩) q4 te.pk (box_cell c1)) (RL.s (MR.mki (w' := w5) (v := .iface K.tKs (.slice (some ⟨g, 0, none⟩) ks.length cap)) (by
  show (Instr.makeInterface K.tKs (.slice (some ⟨g, 0, none⟩) ks.length cap)).run P w5 = _
  simp only [Instr.makeInterface, Sem.run_bind, run_underlying (Jq te.ks), Result.andThen_ok, Sem.run_pure])) (RL.s MR.mf ?_))))
 refine RL.ca (R := fun _ w' => ∃ ks' : List Nat, ks'.Perm ks ∧ ks'.Pairwise (fun x y => x ≤ y) ∧ w'.rangeAt g 0 (ks'.map u32V) ∧ (∃ cur', w'.heap[g]? = some (.cells cur' K.tU32 (0, 0))) ∧ Fr (fun _ => False) g 0 ks.length w5 w') hso.1 ?_ ?_
 ·show Calls P K.fSort #[.iface K.tKs (.slice (some ⟨g, 0, none⟩) ks.length cap), .func (.func K.fLess) #[] #[ρ5 4]] w5 _
  rw [q4]
  refine Calls.mono hsc ?_
  rintro e' w' ⟨rfl, h⟩
  exact ⟨_, rfl, h⟩
 rintro v w6 ⟨ks', p1, p2, p3, ⟨cur', p4⟩, F6⟩
 have B6 : Below w.heap.size w w6 := B5.trans (F6.below hgB (fun _ h => h.elim) B5.size)
 have hks' : ks' = tags.map (·.1) := by
  have hnd' : ks'.Nodup := p1.nodup_iff.2 hnd
  refine sorted_eq ((p2.and hnd').imp fun h => by omega) (List.pairwise_map.2 hsort) fun k => ?_
  rw [p1.mem_iff, List.mem_map]
  constructor
  ·intro hk; obtain ⟨t, t1, t2⟩ := keyOf k hk; exact ⟨t, t1, t2⟩
  ·rintro ⟨t, t1, rfl⟩
   obtain ⟨_, e', e1, e2, _⟩ := hval t t1
   obtain ⟨k, k1, k2⟩ := hfw e' e1
   rw [e2] at k2
   simp only [u32V, Value.int.injEq, true_and] at k2
   have : k = t.1 := by omega
   rw [← this]; exact k1
 have hlen : ks.length = tags.length := by rw [← p1.length_eq, hks', List.length_map]
 have c16 : w6.heap[w1.heap.size]? = some (.cells #[.slice (some ⟨g, 0, none⟩) ks.length cap] K.tKs (0, 0)) := by
  rw [F6.block _ (Array.getElem?_eq_some_iff.1 c1).1 (fun e => hgkb e.symm) (fun x => x)]; exact c1
 refine RL.nil (RW.sq (RW.rg (RL.s (MR.ld (p := ⟨w1.heap.size, 0, none⟩) q4 te.pk (box_cell c16)) (RL.s (MR.ln te.ks rfl) (RL.s MR.mv (RL.nil ?_))))))
 show RW P 53 _ _ _ w6
 refine each_tail (B := B) (db := db) (r := r) (clock := clock) (g := g) (c := cap) (p := p) (es := es) (bs := bs) (tags := tags) (w0 := w) te hneU hcb hB hBd hp (B6.mono hB) (fun k hk _ _ => B6.block k hk) hpB hrB hc hmap hst hkeys hsm hval (hbox.keep B6) hlim ?_ ?_ ?_ ?_ q0 q1 (by show Value.slice _ ks.length _ = _; rw [hlen]) (by show Value.int .i64 (ks.length : Nat) = _; rw [hlen]) rfl ?_
 ·rw [hks', List.map_map] at p3; exact p3
 ·obtain ⟨sv0, d1, d2⟩ := hbox
  have := (Array.getElem?_eq_some_iff.1 d1).1
  omega
 ·intro cur0 hcur
  rw [p4] at hcur
  simp only [UC, Obj.cells.injEq] at hcur
  exact hneU hcur.2.1
 ·exact (Array.getElem?_eq_some_iff.1 p4).1
 ·intro ρ7 w7 hb7 B7 n7
  exact ⟨⟨_, rfl⟩, hb7, B7, n7⟩
theorem teach_ok {f fEach : Nat} {K' : TN} (tk : TOK P T) (te : TgE P K T) (hne : T.u8 ≠ T.u8s) (hneU : K.tU32 ≠ T.u8) (hpl : Jm P T.u8s = true) (hcb : CbC P T K.fCb) (hso : SortC P K.tKs K.tU32 K.fSort K.fLess) (hfe : Qz P K'.fEach (cEachF K) 53) (hK : K'.fCb = K.fCb) (hf : FnIs P f (cTeach K' T) 9 4) : TeachG P T.u8 f smallT := by
 refine ⟨hf.ent, ?_⟩
 rintro w B p m sv tags bs hB hpB ho hm hsm hc hlim
 refine hf.runs (args := [.pointer (some p), sv]) (by simp) (by omega) ?_
 refine RW.sq (RW.rg (RL.s MR.bx (RL.s MR.mv (RL.nil (RW.sq (RW.rg (RL.s MR.mv (RL.s MR.mf ?_))))))))
 have hcells : sv.cells = #[sv] := by rcases ho.2 with ⟨rfl, _⟩ | ⟨g, cap, cur, rfl, _⟩ <;> rfl
 have e1 : (args0 [.pointer (some p), sv] 1).cells = #[sv] := hcells
 have hb := Jn w (.cells #[sv] T.u8s)
 have hheap : (w.alloc (.cells #[sv] T.u8s)).heap[w.heap.size]? = some (.cells #[sv] T.u8s (0, 0)) := heap_alloc_new w _
 have hm' : RepT (w.alloc (.cells #[sv] T.u8s)) (· < B) m tags := hm.mono (fun _ h => h) (fun b hbb => hb.block b (by omega))
 have hc' := hb.kp _ _ hc
 show RL P 9 _ _ _ (w.alloc (.cells (args0 [.pointer (some p), sv] 1).cells T.u8s))
 rw [e1]
 have ho' : OwnB T.u8 (w.alloc (.cells #[sv] T.u8s)) B sv bs := ho.alloc _
 refine RL.ca (R := fun v w' => BoxR T.u8 T.u8s w' B w.heap.size ((bs ++ tags.flatMap Jt).map JF) ∧ Below B (w.alloc (.cells #[sv] T.u8s)) w' ∧ Nr T.u8 w.heap.size (w.alloc (.cells #[sv] T.u8s)) w') hfe.ent ?_ ?_
 ·show Calls P K'.fEach #[.pointer (some p), .func (.func K'.fCb) #[] #[.pointer (some ⟨w.heap.size, 0, none⟩)]] _ _
  rw [hK]
  refine Calls.mono (each_ok te hneU hcb hso hfe _ B w.heap.size p m bs tags (Nat.le_trans hB hb.size) (hpB.imp id fun h => ⟨by have := World.block_lt_of_cell? w _ hc; omega, fun cur => by rw [hb.block _ (World.block_lt_of_cell? w _ hc)]; exact h cur⟩) hB hm' hsm hc' ⟨sv, hheap, by rw [List.length_map]; exact ho'⟩ hlim) ?_
  rintro e w' ⟨⟨v, rfl⟩, h⟩
  exact ⟨v, rfl, h⟩
 rintro v w' ⟨⟨sv', g1, g2⟩, g3, g4⟩
 rw [List.length_map] at g2
 refine RL.nil (RW.sq (RW.rg (RL.s (MR.ld (p := ⟨w.heap.size, 0, none⟩) rfl hpl (box_cell g1)) ?_)))
 repeat first | refine RL.s MR.mv ?_ | refine RL.s (MR.biE rfl) ?_ | refine RL.s (MR.b2 rfl) ?_
 exact RL.nil (RW.rt ⟨sv', rfl, g2, ((Below.refl B w).alloc hB _).trans g3, Nat.le_trans hb.size g3.size, fun k hk hr => by
  rw [g4 k (Nat.lt_of_lt_of_le hk hb.size) (by omega) (fun cur => by rw [hb.block k hk]; exact hr cur), hb.block k hk]⟩)
end
end Go.Kx
namespace Go.Kx
open Go.RowKit
set_option linter.unusedSimpArgs false
set_option linter.unusedVariables false
theorem czT_ext : ∀ (n : Nat) (l m : List UInt8), czT n l ≤ czT n (l ++ m)
 | 0, _, _ => Nat.le_refl _
 | n + 1, l, m => by
  cases hd : dTag l with
  | none => rw [czT, hd]; exact Nat.zero_le _
  | some p =>
   obtain ⟨t, r⟩ := p
   have e := Ext.dTag l t r m hd
   have := czT_ext n r m
   rw [czT, czT, hd, e]
   simp only
   omega
theorem oneTag.take {p : Plan} {ver : Int} {l m : List UInt8} (h : oneTag p ver (l ++ m)) : oneTag p ver l := by
 intro ht hf ds l1 n l2 h1 h2
 have e1 := Ext.decF ver (p.flex ver) p.fs l ds l1 m h1
 have e2 := Ext.dUv l1 n l2 m h2
 have := h ht hf ds _ n _ e1 e2
 have := czT_ext n l2 m
 omega
theorem czT_none (r : List UInt8) : ∀ (L : List (Nat × List UInt8)), (∀ t ∈ L, t.1 < 4294967296 ∧ t.2.length < 4294967296 ∧ t.1 ≠ 0) → czT L.length (L.flatMap Jt ++ r) = 0
 | [], _ => rfl
 | t :: L, h => by
  obtain ⟨h1, h2, h3⟩ := h t List.mem_cons_self
  rw [List.flatMap_cons, List.append_assoc, List.length_cons, czT, dTag_enc _ h1 h2]
  simp only [h3, if_false, Nat.zero_add]
  exact czT_none r L fun t ht => h t (List.mem_cons_of_mem _ ht)
theorem oneTag_enc {p : Plan} {ver : Int} {ds : List D} {ts : List (Nat × List UInt8)} (h : OkTop p ver ds ts) (hlen : (Qj p ver ds ts).length < 4294967296) : oneTag p ver (Qj p ver ds ts) := by
 obtain ⟨h1, h2, h3, h4⟩ := h
 intro ht hf ds' l1 n l2 e1 e2
 unfold Qj at hlen e1
 rw [UD] at hlen
 rw [rtF ver _ p.fs ds _ h1 (by omega)] at e1
 simp only [UC, Prod.mk.injEq] at e1
 obtain ⟨_, rfl⟩ := e1
 cases hb : (p.tg.isSome && p.flex ver) with
 | false =>
  rw [hb] at e2
  simp only [UB, if_false] at e2
  exact absurd e2 (by intro e; cases e)
 | true =>
  rw [hb] at e2 hlen
  simp only [if_true] at e2 hlen
  obtain ⟨⟨⟨g1, g2, g3⟩, _⟩, g4⟩ := h2 hb
  have g4 := g4 ht
  obtain ⟨j, ty, d, f1, f2, f3, f4, f5⟩ := tag_one ver (p.flex ver) ht h3 h1
  have hts : ∀ t ∈ ts, t.1 < 4294967296 ∧ t.2.length < 4294967296 ∧ t.1 ≠ 0 := fun t h => ⟨(g3 t h).1, by have := (g3 t h).2; omega, g4 t h⟩
  rw [f3] at e2 hlen
  cases hu : QC ty d with
  | true =>
   rw [hu] at e2
   simp only [if_true, List.nil_append] at e2
   unfold Jz at e2
   rw [uv_rt _ (by omega)] at e2
   simp only [UC, Prod.mk.injEq] at e2
   obtain ⟨rfl, rfl⟩ := e2
   have := czT_none [] ts hts
   rw [List.append_nil] at this
   omega
  | false =>
   rw [hu] at e2 hlen
   simp only [UB, if_false, List.cons_append, List.nil_append] at e2 hlen
   have hX : (enc ver (p.flex ver) ty d).length < 4294967296 := by
    unfold Jz at hlen
    rw [UD, List.flatMap_cons, UD] at hlen
    unfold Jt at hlen
    simp only [UD] at hlen
    omega
   unfold Jz at e2
   rw [uv_rt _ (by simp only [List.length_cons]; omega)] at e2
   simp only [UC, Prod.mk.injEq] at e2
   obtain ⟨rfl, rfl⟩ := e2
   have := czT_none [] ts hts
   rw [List.append_nil] at this
   rw [List.length_cons, czT, List.flatMap_cons, dTag_enc _ (by omega) hX]
   simp only [if_true]
   omega
theorem one_plain {p : Plan} {fs : Fds} {flex : Int} {mx v : Nat} (h : mTopB p fs flex mx = true) (hv : v ≤ mx) {t : Tr} (hg : Qb Qt t) (hlen : (JJ fs flex (v : Nat) t).length < 4294967296) : oneTag p (v : Nat) (JJ fs flex (v : Nat) t) := by
 obtain ⟨h1, h2⟩ := saysTop h hv hg
 rw [h1] at hlen ⊢
 exact oneTag_enc h2 hlen
set_option linter.unusedVariables false
theorem Ql.small {ts : List (Nat × List UInt8)} (h : Ql ts) : smallT ts := ⟨h.2.1, fun t ht => (h.2.2 t ht).2⟩
section
variable {P : Program} {N : Nat} {Q : UE} {ρ : Nat → Value} {w w' : World} {ms : List MOp} {d : Nat} {T : IT} {K : KB} {g : TN}
theorem aok_tags (kk : KOK P K) (tg : TgOK P g K.T) (hl : TlenC P g.fLen) (hmo : P.follows .mixedOrders = true) (hzs : g.zSame ≠ 0 → ZsC P g.zNew g.zSame) (ht : TeachG P K.T.u8 g.fTeach smallT) : AOK P (K.ia g) Ql where
 small := fun tags h => h.small
 prim := aok_prim kk
 alen := kk.alen
 calen := kk.calen
 nalen := kk.nalen
 cnalen := kk.cnalen
 tlen := fun _ => hl
 teach := fun _ => (ht.sub fun t h => h.small).c
 uvar := kk.uv
 suf := fun a b h => ⟨(List.pairwise_append.1 h.1).2.1, by have := h.2.1; rw [UD] at this; omega, fun t ht => h.2.2 t (List.mem_append_right _ ht)⟩
 kt := fun h1 h2 => ktc_of kk tg h1 h2 hl hmo hzs (ht.sub fun t h => h.small)
theorem set_of2 {f tm b : Nat} {v0 : Value} {v : Int} {rest : List Value} (h16 : Jh P T.i16 1 = true) (hf : Qz P f (cSet T tm) 8) (hF : Jd P tm 0 0 = true) (hr : w.rangeAt b 0 (v0 :: rest)) (ht : w.there b 0 (v0 :: rest).length) :
  Calls P f #[.pointer (some ⟨b, 0, none⟩), .int .i16 v] w (fun e w' => e = .returned (.tuple #[]) ∧ w'.rangeAt b 0 (.int .i16 v :: rest) ∧ Below b w w' ∧ w'.heap.size = w.heap.size ∧ w'.there b 0 (v0 :: rest).length) := by
 refine hf.runs (args := [.pointer (some ⟨b, 0, none⟩), .int .i16 v]) (by simp) ?_
 have tsub := there_sub (k := 0) (m := 1) ht (by simp)
 refine RW.rg (RL.s MR.mv (RL.s MR.mv (RL.s (MR.nc rfl) (RL.s (MR.fa rfl hF) (RL.st1 (v := .int .i16 v) rfl rfl rfl h16 tsub (RL.nil ?_))))))
 exact ⟨rfl, range_put0 hr tsub, JD (Nat.le_refl _) _ _ (Below.refl _ _), Qr _ _ _ _, World.there_setCells ht _ _ _⟩
def cReadFrom (fRF : Nat) : Jc := .sq (.rg [.mv 4 (.c .niface)]) (.sq (.rg [.mv 5 (.t 0), .mv 6 (.t 1), .ca 7 fRF [.t 5, .t 6, .c (.bool false)], .mv 4 (.t 7)]) .rt)
def cAgain (T : IT) (tErr fPtr fSet fRd fAp : Nat) : Jc :=
 .sq (.rg [.mv 4 (.c .nslice), .mv 5 (.c (.bool false))]) (.sq (.rg [.ca 7 fPtr [], .mv 6 (.t 7)]) (.sq (.rg [.mv 8 (.t 6), .mv 9 (.t 0), .cv 10 T.int T.i16 9, .ca 11 fSet [.t 8, .t 10]])
  (.sq (.sq (.rg [.mv 12 (.t 6), .mv 13 (.t 1), .apk 14 T.u8s T.u8s 13, .ca 15 fRd [.t 12, .t 14], .bi 16 .neq tErr (.t 15) (.c .niface)]) (.cd 16 (.sq (.rg [.mv 4 (.c .nslice), .mv 5 (.c (.bool false))]) .rt) .sk))
   (.sq (.rg [.mv 17 (.t 6), .ca 18 fAp [.t 17, .c .nslice], .mv 4 (.t 18), .mv 5 (.c (.bool true))]) .rt))))
def AgainC (P : Program) (U f gE most : Nat) (p : Plan) : Prop := Jo P f = true ∧ ∀ (w : World) (v : Nat) (ad : Option Addr) (l : List UInt8) (c : Nat) (ev : Value), v ≤ most → Jg w (fun _ => True) ad l → l.length ≤ 2147483648 → w.cell? ⟨gE, 0, none⟩ = some ev → isErr ev → oneTag p (v : Nat) l →
 (∀ ds ts r, decTop p (v : Nat) l = some ((ds, ts), r) → SmF Ql p.fs ds ∧ Ql ts ∧ (Qj p (v : Nat) ds ts).length ≤ 2147483648) →
 Calls P f #[.int .i64 (v : Nat), .slice ad l.length c] w (fun e w' => Below w.heap.size w w' ∧
  ((∃ ds ts r sv, decTop p (v : Nat) l = some ((ds, ts), r) ∧ e = .returned (.tuple #[sv, .bool true]) ∧ OwnB U w' w.heap.size sv (Qj p (v : Nat) ds ts)) ∨ (decTop p (v : Nat) l = none ∧ e = .returned (.tuple #[.slice none 0 0, .bool false]))))
theorem again_ok {f fPtr fSet fRd fRF fAp gE tErr most : Nat} {p : Plan} {L NA : Nat} {rest : List MVal} (kk : KOK P K) (ok : AOK P (K.ia g) Ql) (h16 : K.T.i16 ≠ 0) (c16 : Jh P K.T.i16 1 = true) (hte : ifaceTy P tErr = true) (hm : most < 32768)
  (hf : FnIs2 P f (cAgain K.T tErr fPtr fSet fRd fAp) 19 4 5) (hp : PtrC P fPtr (.int .i16 0 :: rest.map MVal.val)) (hs : Qz P fSet (cSet K.T p.T) 8) (hF : Jd P p.T 0 0 = true) (hrd : FnIs P fRd (cReadFrom fRF) 8 4) (hrf : RFC P fRF p gE rest)
  (ha : FnIs P fAp (topA (K.ia g) p L) NA 4) (hok : okTop P (K.ia g) p L NA = true) : AgainC P K.T.u8 f gE most p := by
 refine ⟨hf.ent, fun w v ad l c ev hv hby hl hev herr hone hdec => ?_⟩
 have tk := kk.tk
 have hgw := World.block_lt_of_cell? w _ hev
 simp only at hgw
 refine hf.runs (args := [.int .i64 (v : Nat), .slice ad l.length c]) (by simp) (by omega) (by omega) ?_
 refine RW.sq (RW.rg (RL.s MR.mv (RL.s MR.mv (RL.nil (RW.sq (RW.rg (RL.ca (R := fun u w' => ∃ b, u = .pointer (some ⟨b, 0, none⟩) ∧ w.heap.size ≤ b ∧ b < w'.heap.size ∧ w'.rangeAt b 0 (.int .i16 0 :: rest.map MVal.val) ∧ w'.there b 0 (Value.int .i16 0 :: rest.map MVal.val).length ∧ Below w.heap.size w w') hp.1 ?_ ?_)))))))
 ·refine Calls.mono (hp.2 w) ?_
  rintro e w' ⟨b, rfl, h⟩
  exact ⟨_, rfl, b, rfl, h⟩
 rintro u w1 ⟨b, rfl, hb0, hb1, hr1, ht1, bw1⟩
 refine RL.s MR.mv (RL.nil (RW.sq (RW.rg (RL.s (MR.mv (v := .pointer (some ⟨b, 0, none⟩)) rfl) (RL.s (MR.mv (v := .int .i64 (v : Nat)) rfl) (RL.s (MR.cvI rfl tk.int (tk.i16 h16)) ?_))))))
 have hv16 : IntKind.i16.wrap (v : Int) = (v : Nat) := wrap_i16 (by omega) (by omega)
 refine RL.ca (R := fun u w' => w'.rangeAt b 0 (.int .i16 (v : Nat) :: rest.map MVal.val) ∧ Below b w1 w' ∧ w'.heap.size = w1.heap.size ∧ w'.there b 0 (rest.length + 1)) hs.ent ?_ ?_
 ·have hset := set_of2 (T := K.T) (v := IntKind.i16.wrap (v : Int)) c16 hs hF hr1 ht1
  refine Calls.mono hset ?_
  rintro e w' ⟨rfl, h1, h2, h3, h4⟩
  exact ⟨_, rfl, by rw [hv16] at h1; exact h1, h2, h3, by simpa using h4⟩
 rintro u w2 ⟨hr2, b2, s2, ht2⟩
 have bw2 : Below w.heap.size w w2 := bw1.trans (b2.mono hb0)
 have hby2 : Jg w2 (fun _ => True) ad l := hby.kp bw2.kp
 obtain ⟨sv, w3, a1, a2, a3, a4⟩ := run_apOwn (P := P) (w := w2) (T := K.T.u8s) (U := K.T.u8) (c := c) (B := w2.heap.size) tk.u8s tk.u8 (OwnB.nil _ _ _) rfl hby2 (Nat.le_refl _) (by simp only [List.length_nil]; have e : lim = 4294967295 := rfl; omega)
 rw [List.nil_append] at a2
 have hbw2 : b < w2.heap.size := by omega
 obtain ⟨ad3, c3, hsv, had3, hlc3, hb3⟩ := a2.bytes
 subst hsv
 obtain ⟨sb, hsb, hsbb, hbs⟩ : ∃ sb, sb < w3.heap.size ∧ sb ≠ b ∧ Jg w3 (· = sb) ad3 l := by
  cases l with
  | nil => exact ⟨gE, by have := bw2.size; have := a3.size; omega, by omega, fun j y hj => by simp at hj⟩
  | cons y l =>
   obtain ⟨g0, o0, e1, _, e3⟩ := hb3 0 y rfl
   refine ⟨g0, World.block_lt_of_cell? w3 _ e3, ?_, fun j z hj => ?_⟩
   ·have := (World.ownsRow.lt a2 g0 (by rw [e1]; rfl)).1
    omega
   ·obtain ⟨g1, o1, f1, _, f3⟩ := hb3 j z hj
    rw [e1] at f1
    simp only [UC, Addr.mk.injEq, and_true] at f1
    exact ⟨g1, o1, by rw [e1, ← f1.1, ← f1.2], f1.1.symm, f3⟩
 have hr3 : w3.rangeAt b 0 (.int .i16 (v : Nat) :: rest.map MVal.val) := JV hr2 (a3.block b hbw2)
 have ht3 : w3.there b 0 (rest.length + 1) := JE ht2 (a3.block b hbw2)
 have hev3 : w3.cell? ⟨gE, 0, none⟩ = some ev := a3.kp _ _ (bw2.kp _ _ hev)
 have bw3 : Below w.heap.size w w3 := bw2.trans (a3.mono bw2.size)
 refine RL.nil (RW.sq (RW.sq (RW.rg (RL.s (MR.mv (v := .pointer (some ⟨b, 0, none⟩)) rfl) (RL.s (MR.mv (v := .slice ad l.length c) rfl) (RL.s (MR.apk (w' := w3) a1) ?_))))))
 refine RL.ca (R := fun ee w' => Fr (fun _ => False) b 0 (rest.length + 1) w3 w' ∧
  ((∃ ds tags r cs, decTop p (v : Nat) l = some ((ds, tags), r) ∧ ee = MVal.niface.val ∧ MsgAt w' (fun k => k = b ∨ k = sb ∨ (w3.heap.size ≤ k ∧ k < w'.heap.size)) p ⟨b, 0, none⟩ (v : Nat) ds tags cs) ∨ (decTop p (v : Nat) l = none ∧ ee = ev))) hrd.ent ?_ ?_
 ·show Calls P fRd #[.pointer (some ⟨b, 0, none⟩), .slice ad3 l.length c3] w3 _
  refine hrd.runs (args := [.pointer (some ⟨b, 0, none⟩), .slice ad3 l.length c3]) (by simp) (by omega) ?_
  refine RW.sq (RW.rg (RL.s MR.mv (RL.nil (RW.sq (RW.rg (RL.s (MR.mv (v := .pointer (some ⟨b, 0, none⟩)) rfl) (RL.s (MR.mv (v := .slice ad3 l.length c3) rfl) ?_)))))))
  refine RL.ca (R := fun ee w' => Fr (fun _ => False) b 0 (rest.length + 1) w3 w' ∧
   ((∃ ds tags r cs, decTop p (v : Nat) l = some ((ds, tags), r) ∧ ee = MVal.niface.val ∧ MsgAt w' (fun k => k = b ∨ k = sb ∨ (w3.heap.size ≤ k ∧ k < w'.heap.size)) p ⟨b, 0, none⟩ (v : Nat) ds tags cs) ∨ (decTop p (v : Nat) l = none ∧ ee = ev))) hrf.1 ?_ ?_
  ·show Calls P fRF #[.pointer (some ⟨b, 0, none⟩), .slice ad3 l.length c3, .bool false] w3 _
   refine Calls.mono (hrf.2 w3 b sb ad3 l c3 (v : Nat) ev hr3 ht3 hbs had3 hlc3 hsb hsbb hev3 (by omega) herr hone) ?_
   rintro e w' ⟨hF', ⟨ds, tags, r, cs, h1, rfl, h2⟩ | ⟨h1, rfl⟩⟩
   ·exact ⟨_, rfl, hF', .inl ⟨ds, tags, r, cs, h1, rfl, h2⟩⟩
   ·exact ⟨_, rfl, hF', .inr ⟨h1, rfl⟩⟩
  rintro ee w' ⟨hF', h⟩
  refine RL.s MR.mv (RL.nil (RW.rt ?_))
  exact ⟨ee, rfl, hF', h⟩
 rintro ee w4 ⟨F4, h4⟩
 have b4 : Below w.heap.size w w4 := bw3.trans (F4.below hb0 (fun _ h => h.elim) bw3.size)
 rcases h4 with ⟨ds, tags, r, cs, k1, rfl, k2⟩ | ⟨k1, rfl⟩
 ·refine RL.s (MR.neqNilI (v := Value.nilIface) hte rfl (.inl rfl)) (RL.nil (RW.cd (b := false) rfl (fun e => by cases e) (fun _ => RW.sk ?_)))
  obtain ⟨x1, x2, x3⟩ := hdec ds tags r k1
  obtain ⟨fn, cc, e1, e2, e3, e4, e5⟩ := ha.ex
  have hs4 := F4.size
  have hs3 := a3.size
  have hcall := topA_calls ok e1 e2 e3 e5 e4 hok (w := w4) (B := w4.heap.size) (a := ⟨b, 0, none⟩) (ver := (v : Nat)) (ds := ds) (tags := tags) (cs := cs) (sv := .slice none 0 0) (bs := []) (Nat.le_refl _)
   (k2.mono (fun k hk => by rcases hk with rfl | rfl | hk <;> omega) (fun _ _ => rfl)) x1 x2 (OwnB.nil _ _ _) (by have e : lim = 4294967295 := rfl; simp only [List.length_nil]; omega)
  refine RW.sq (RW.rg (RL.s (MR.mv (v := .pointer (some ⟨b, 0, none⟩)) rfl) ?_))
  refine RL.ca (R := fun sv w' => OwnB K.T.u8 w' w4.heap.size sv (Qj p (v : Nat) ds tags) ∧ Below w4.heap.size w4 w') ha.ent ?_ ?_
  ·refine Calls.mono hcall ?_
   rintro e w' ⟨sv', rfl, h1, h2⟩
   exact ⟨_, rfl, by simpa [KB.ia] using h1, h2⟩
  rintro sv w5 ⟨o5, b5⟩
  refine RL.s MR.mv (RL.s MR.mv (RL.nil (RW.rt ?_)))
  exact ⟨b4.trans (b5.mono b4.size), .inl ⟨ds, tags, r, sv, k1, rfl, o5.rebase b4.size⟩⟩
 ·have hee : errB ee = true := by obtain ⟨t, x, rfl⟩ := herr; rfl
  refine RL.s (MR.neqNilI (v := ee) hte rfl (.inr herr)) (RL.nil (RW.cd (b := true) (by show Value.bool (errB ee) = _; rw [hee]) (fun _ => ?_) (fun e => by cases e)))
  refine RW.sq (RW.rg (RL.s MR.mv (RL.s MR.mv (RL.nil (RW.rt ?_)))))
  exact ⟨b4, .inr ⟨k1, rfl⟩⟩
end
set_option linter.unusedVariables false
def unkG1 (S : SN) : List GOp := [⟨0, none, .mv 23 (.t 9)⟩, ⟨1, none, .mv 24 (.t 6)⟩, ⟨2, none, .ln 25 S.tgs 24⟩, ⟨3, none, .bi 26 .lss S.T.int (.t 23) (.t 25)⟩, ⟨4, none, .mv 27 (.t 26)⟩, ⟨5, some (4, 27, true), .mv 28 (.t 6)⟩, ⟨6, some (4, 27, true), .mv 29 (.t 9)⟩, ⟨7, some (4, 27, true), .ia 30 S.tgs 28 29⟩, ⟨8, some (4, 27, true), .fa 31 S.tg 30 0⟩, ⟨9, some (4, 27, true), .ld 32 S.T.u32 31⟩, ⟨10, some (4, 27, true), .fa 33 S.tg 8 0⟩, ⟨11, some (4, 27, true), .ld 34 S.T.u32 33⟩, ⟨12, some (4, 27, true), .bi 35 .lss S.T.u32 (.t 32) (.t 34)⟩, ⟨13, none, .pk 36 (.t 27) (.t 35) (.c (.bool false))⟩]
def unkG2 (S : SN) : List GOp := [⟨0, none, .fa 39 S.tg 8 0⟩, ⟨1, none, .ld 40 S.T.u32 39⟩, ⟨2, none, .mv 41 (.t 5)⟩, ⟨3, none, .bi 42 .lss S.T.u32 (.t 40) (.t 41)⟩, ⟨4, none, .mv 43 (.t 42)⟩, ⟨5, some (4, 43, false), .mv 44 (.t 9)⟩, ⟨6, some (4, 43, false), .mv 45 (.t 6)⟩, ⟨7, some (4, 43, false), .ln 46 S.tgs 45⟩, ⟨8, some (4, 43, false), .bi 47 .lss S.T.int (.t 44) (.t 46)⟩, ⟨9, some (4, 43, false), .mv 48 (.t 47)⟩, ⟨10, some (9, 48, true), .mv 49 (.t 6)⟩, ⟨11, some (9, 48, true), .mv 50 (.t 9)⟩, ⟨12, some (9, 48, true), .ia 51 S.tgs 49 50⟩, ⟨13, some (9, 48, true), .fa 52 S.tg 51 0⟩, ⟨14, some (9, 48, true), .ld 53 S.T.u32 52⟩, ⟨15, some (9, 48, true), .fa 54 S.tg 8 0⟩, ⟨16, some (9, 48, true), .ld 55 S.T.u32 54⟩, ⟨17, some (9, 48, true), .bi 56 .eql S.T.u32 (.t 53) (.t 55)⟩, ⟨18, some (4, 43, false), .pk 57 (.t 48) (.t 56) (.c (.bool false))⟩, ⟨19, none, .pk 58 (.t 43) (.c (.bool true)) (.t 57)⟩]
def Qh (k : Nat) : List Tg → Nat
 | [] => 0
 | x :: xs => if x.1 < k then Qh k xs + 1 else 0
theorem posOf_le (k : Nat) : ∀ l : List Tg, Qh k l ≤ l.length
 | [] => Nat.le_refl _
 | x :: xs => by unfold Qh; split <;> simp [posOf_le k xs]
theorem posOf_lt {k i : Nat} : ∀ {l : List Tg} {x : Tg}, i < Qh k l → l[i]? = some x → x.1 < k
 | [], _, h, _ => by simp [Qh] at h
 | y :: ys, x, h, hx => by
  unfold Qh at h
  split at h
  ·rename_i hy
   cases i with
   | zero => simp only [List.getElem?_cons_zero, UC] at hx; subst hx; exact hy
   | succ i => rw [List.getElem?_cons_succ] at hx; exact posOf_lt (by omega) hx
  ·omega
theorem posOf_at {k : Nat} : ∀ {l : List Tg} {x : Tg}, l[Qh k l]? = some x → ¬ x.1 < k
 | [], _, h => by simp at h
 | y :: ys, x, h => by
  unfold Qh at h
  split at h
  ·rw [List.getElem?_cons_succ] at h; exact posOf_at h
  ·rename_i hy
   simp only [List.getElem?_cons_zero, UC] at h; subst h; exact hy
def insAt (t : Tg) (l : List Tg) : List Tg :=
 match l[Qh t.1 l]? with
 | some x => if x.1 = t.1 then l else l.take (Qh t.1 l) ++ t :: l.drop (Qh t.1 l)
 | none => l.take (Qh t.1 l) ++ t :: l.drop (Qh t.1 l)
theorem insTag_pos {t : Tg} : ∀ l : List Tg, Qf t l = insAt t l
 | [] => by simp [Qf, insAt, Qh]
 | y :: ys => by
  have ih := insTag_pos (t := t) ys
  unfold Qf insAt Qh
  split
  ·rename_i hy
   rw [List.getElem?_cons_succ, ih]
   unfold insAt
   cases ys[Qh t.1 ys]? with
   | none => rfl
   | some x => dsimp only; split <;> rfl
  ·simp only [List.getElem?_cons_zero, List.take_zero, List.nil_append, List.drop_zero]
section
variable {P : Program} {S : SN} {w w' : World} {Q : UE} {ρ : Nat → Value}
theorem tag_key {g o i : Nat} {cs : List Value} {t : Tg} (hr : w.rangeAt g (o + i * 2) cs) (ht : J8 w cs t) : w.cell? ⟨g, o + i * 2 + 0, none⟩ = some (u32V t.1) := by
 obtain ⟨_, ad, c, rfl, _⟩ := ht
 exact hr 0 _ rfl
theorem unk_g1 (ok : SOK P S) {sv : Value} {out : List Tg} {t : Tg} {i tb : Nat} (hout : TagsS w sv out) (htb : w.cell? ⟨tb, 0, none⟩ = some (u32V t.1)) (r6 : ρ 6 = sv) (r8 : ρ 8 = .pointer (some ⟨tb, 0, none⟩)) (r9 : ρ 9 = .int .i64 (i : Nat))
  (hQ : ∀ ρ', (∀ s, s < 23 → ρ' s = ρ s) → ρ' 36 = .bool (match out[i]? with | some x => decide (x.1 < t.1) | none => false) → Q .normal ρ' (World.drew1 w)) : RW P 85 (.gr true (unkG1 S)) Q ρ w := by
 obtain ⟨ad, c, rfl, had, hc, hrow⟩ := hout
 refine RW.knows [(6, .slice ad out.length c), (8, .pointer (some ⟨tb, 0, none⟩)), (9, .int .i64 (i : Nat))] (by simp [r6, r8, r9]) (RW.gd ok.mo (Kp w) (Qy w) ?_)
 have pre : ∀ s, s < 23 → updL ρ [(6, .slice ad out.length c), (8, .pointer (some ⟨tb, 0, none⟩)), (9, .int .i64 (i : Nat))] s = ρ s := by
  intro s hs
  simp only [updL, List.foldl]
  by_cases h9 : s = 9
  ·subst h9; rw [Ja]; exact r9.symm
  ·rw [Jb _ _ h9]
   by_cases h8 : s = 8
   ·subst h8; rw [Ja]; exact r8.symm
   ·rw [Jb _ _ h8]
    by_cases h6 : s = 6
    ·subst h6; rw [Ja]; exact r6.symm
    ·rw [Jb _ _ h6]
 have un23 : ∀ (ρ1 : Nat → Value), (∀ s, s < 23 → ρ1 s = updL ρ [(6, .slice ad out.length c), (8, .pointer (some ⟨tb, 0, none⟩)), (9, .int .i64 (i : Nat))] s) → ∀ s, s < 23 → ρ1 s = ρ s := fun ρ1 h s hs => (h s hs).trans (pre s hs)
 unfold unkG1
 refine RG.q (fun _ _ => MR.mv (v := .int .i64 (i : Nat)) rfl) (RG.q (fun _ _ => MR.mv (v := .slice ad out.length c) rfl) (RG.q (fun _ _ => MR.ln ok.tgs rfl) (RG.q (v := .bool (decide ((i : Int) < (out.length : Nat)))) (fun _ _ => MR.biE rfl) (RG.q (fun _ _ => MR.mv (v := .bool (decide ((i : Int) < (out.length : Nat)))) rfl) ?_))))
 by_cases hlt : i < out.length
 ·obtain ⟨x, hx⟩ : ∃ x, out[i]? = some x := ⟨_, List.getElem?_eq_getElem hlt⟩
  obtain ⟨g, o, cs, rfl, hr, htr⟩ := hrow i x hx
  rw [decide_eq_true (show (i : Int) < (out.length : Nat) by omega)]
  have hkey := tag_key hr htr
  refine RG.q (fun _ _ => MR.mv (v := .slice (some ⟨g, o, none⟩) out.length c) rfl) (RG.q (fun _ _ => MR.mv (v := .int .i64 (i : Nat)) rfl) (RG.q (fun _ _ => MR.ia (k := .i64) ok.tgs ok.tgN rfl rfl hlt) (RG.q (fun _ _ => MR.fa rfl (ok.tgF 0 (by omega))) (RG.q (fun w' hS => MR.ld rfl ok.pU32 (hS _ _ hkey))
   (RG.q (fun _ _ => MR.fa (b := tb) (o := 0) (off := 0) rfl (ok.tgF 0 (by omega))) (RG.q (fun w' hS => MR.ld (p := ⟨tb, 0 + 0, none⟩) rfl ok.pU32 (hS _ _ htb)) (RG.q (v := .bool (decide ((x.1 : Int) < (t.1 : Nat)))) (fun _ _ => MR.biE rfl) (RG.q (fun _ _ => MR.pk (b := true) (v := .bool (decide ((x.1 : Int) < (t.1 : Nat)))) rfl rfl) (RG.nil fun _ => ?_)))))))))
  refine hQ _ (un23 _ fun s hs => by (repeat first | rw [Ja] | rw [Jb _ _ (by omega)])) ?_
  rw [hx]
  show Value.bool _ = _
  congr 1
  by_cases h : x.1 < t.1
  ·rw [decide_eq_true (show (x.1 : Int) < (t.1 : Nat) by omega)]; simp [h]
  ·rw [decide_eq_false (show ¬ (x.1 : Int) < (t.1 : Nat) by omega)]; simp [h]
 ·have hx : out[i]? = none := List.getElem?_eq_none (by omega)
  rw [decide_eq_false (show ¬ (i : Int) < (out.length : Nat) by omega)]
  refine RG.no (d := 28) (by exact ⟨by decide, .inl rfl⟩) (RG.no (d := 29) (by exact ⟨by decide, .inl rfl⟩) (RG.no (d := 30) (by exact ⟨by decide, .inl rfl⟩) (RG.no (d := 31) (by exact ⟨by decide, .inl rfl⟩) (RG.no (d := 32) (by exact ⟨by decide, .inl rfl⟩) (RG.no (d := 33) (by exact ⟨by decide, .inl rfl⟩) (RG.no (d := 34) (by exact ⟨by decide, .inl rfl⟩) (RG.no (d := 35) (by exact ⟨by decide, .inl rfl⟩) (RG.q (fun _ _ => MR.pk (b := false) (v := .bool false) rfl rfl) (RG.nil fun _ => ?_)))))))))
  refine hQ _ (un23 _ fun s hs => by (repeat first | rw [Ja] | rw [Jb _ _ (by omega)])) ?_
  rw [hx]; rfl
theorem unk_find (ok : SOK P S) {sv : Value} {out : List Tg} {t : Tg} {tb : Nat} (hout : TagsS w sv out) (htb : w.cell? ⟨tb, 0, none⟩ = some (u32V t.1)) (hlen : out.length ≤ 1000000) (r6 : ρ 6 = sv) (r8 : ρ 8 = .pointer (some ⟨tb, 0, none⟩)) (r9 : ρ 9 = .int .i64 0)
  (hQ : ∀ ρ' w', (∀ s, s < 23 → s ≠ 9 → ρ' s = ρ s) → ρ' 9 = .int .i64 (Qh t.1 out : Nat) → w'.heap = w.heap → Below w.heap.size w w' → Q .normal ρ' w') :
  RW P 85 (.bl 2 (.lp (.sq (.sq (.gr true (unkG1 S)) (.cd 36 .sk (.ex 2))) (.bl 3 (.rg [.mv 37 (.t 9), .bi 38 .add S.T.int (.t 37) (.c (.int .i64 1)), .mv 9 (.t 38)]))))) Q ρ w := by
 refine RW.bl (RW.lp (fun ρ' w' => ∃ i : Nat, i ≤ Qh t.1 out ∧ (∀ s, s < 23 → s ≠ 9 → ρ' s = ρ s) ∧ ρ' 9 = .int .i64 (i : Nat) ∧ w'.heap = w.heap ∧ Below w.heap.size w w') (fun ρ' _ => Qh t.1 out + 1 - (intOf (ρ' 9)).toNat) ⟨0, Nat.zero_le _, fun _ _ _ => rfl, r9, rfl, Below.refl _ _⟩ ?_ (fun ρ1 ρ2 w1 h => by rw [h 9 (by omega)]))
 rintro ρ1 w1 ⟨i, hi, q, q9, hh, hb⟩
 have hpl := posOf_le t.1 out
 have hkp : Kp w w1 := hb.kp
 have hout1 : TagsS w1 sv out := by
  obtain ⟨ad, c, e, had, hc, hrow⟩ := hout
  refine ⟨ad, c, e, had, hc, fun j x hx => ?_⟩
  obtain ⟨g, o, cs, e1, e2, e3, ad', c', e4, e5, e6, e7⟩ := hrow j x hx
  exact ⟨g, o, cs, e1, fun k u hu => hkp _ _ (e2 k u hu), e3, ad', c', e4, e5, e6, e7.kp hkp⟩
 refine RW.sq (RW.sq (unk_g1 ok hout1 (hkp _ _ htb) (by rw [q 6 (by omega) (by omega)]; exact r6) (by rw [q 8 (by omega) (by omega)]; exact r8) q9 fun ρ2 g1 g2 => ?_))
 have hd : Below w1.heap.size w1 (World.drew1 w1) := JI w1 _
 have hb2 : Below w.heap.size w (World.drew1 w1) := hb.trans (hd.mono hb.size)
 cases hx : out[i]? with
 | none =>
  rw [hx] at g2
  refine RW.cd g2 (fun e => by cases e) (fun _ => RW.ex ?_)
  show J2 2 Q (.exit 2) _ _
  simp only [J2, ↓reduceIte]
  have hil : out.length ≤ i := List.getElem?_eq_none_iff.1 hx
  have : i = Qh t.1 out := by omega
  subst this
  exact hQ _ _ (fun s hs h9 => by rw [g1 s hs, q s hs h9]) (by rw [g1 9 (by omega)]; exact q9) hh hb2
 | some x =>
  rw [hx] at g2
  refine RW.cd g2 (fun e => RW.sk ?_) (fun e => RW.ex ?_)
  ·have e : x.1 < t.1 := of_decide_eq_true e
   have hip : i < Qh t.1 out := by
    rcases Nat.lt_or_ge i (Qh t.1 out) with h | h
    ·exact h
    ·have : i = Qh t.1 out := by omega
     subst this
     exact absurd e (posOf_at hx)
   refine RW.bl (RW.rg (RL.s (MR.mv (v := .int .i64 (i : Nat)) (by show ρ2 9 = _; rw [g1 9 (by omega)]; exact q9)) (RL.s (MR.biE (v := .int .i64 ((i + 1 : Nat) : Int)) (by show some (Value.int .i64 (IntKind.i64.wrap ((i : Int) + 1))) = _; rw [Ju (by omega) (by omega)]; rfl)) (RL.s MR.mv (RL.nil ?_)))))
   refine ⟨⟨i + 1, hip, fun s hs h9 => by rw [Jb _ _ h9, Jb _ _ (by omega), Jb _ _ (by omega), g1 s hs, q s hs h9], rfl, hh, hb2⟩, ?_⟩
   show Qh t.1 out + 1 - ((i + 1 : Nat) : Int).toNat < Qh t.1 out + 1 - (intOf (ρ1 9)).toNat
   rw [q9]; simp only [intOf]; omega
  ·have e : ¬ x.1 < t.1 := of_decide_eq_false e
   show J2 2 Q (.exit 2) _ _
   simp only [J2, ↓reduceIte]
   have : i = Qh t.1 out := by
    rcases Nat.lt_or_ge i (Qh t.1 out) with h | h
    ·exact absurd (posOf_lt h hx) e
    ·omega
   subst this
   exact hQ _ _ (fun s hs h9 => by rw [g1 s hs, q s hs h9]) (by rw [g1 9 (by omega)]; exact q9) hh hb2
theorem unk_g2 (ok : SOK P S) {sv : Value} {out : List Tg} {t : Tg} {i tb : Nat} (hout : TagsS w sv out) (htb : w.cell? ⟨tb, 0, none⟩ = some (u32V t.1)) {least : Nat} (r5 : ρ 5 = .int .u32 (least : Nat)) (r6 : ρ 6 = sv) (r8 : ρ 8 = .pointer (some ⟨tb, 0, none⟩)) (r9 : ρ 9 = .int .i64 (i : Nat))
  (hQ : ∀ ρ', (∀ s, s < 23 → ρ' s = ρ s) → ρ' 58 = .bool (decide (t.1 < least) || match out[i]? with | some x => decide (x.1 = t.1) | none => false) → Q .normal ρ' (World.drew1 w)) : RW P 85 (.gr true (unkG2 S)) Q ρ w := by
 obtain ⟨ad, c, rfl, had, hc, hrow⟩ := hout
 refine RW.knows [(5, .int .u32 (least : Nat)), (6, .slice ad out.length c), (8, .pointer (some ⟨tb, 0, none⟩)), (9, .int .i64 (i : Nat))] (by simp [r5, r6, r8, r9]) (RW.gd ok.mo (Kp w) (Qy w) ?_)
 have pre : ∀ s, s < 23 → updL ρ [(5, .int .u32 (least : Nat)), (6, .slice ad out.length c), (8, .pointer (some ⟨tb, 0, none⟩)), (9, .int .i64 (i : Nat))] s = ρ s := by
  intro s hs
  simp only [updL, List.foldl]
  by_cases h9 : s = 9
  ·subst h9; rw [Ja]; exact r9.symm
  ·rw [Jb _ _ h9]
   by_cases h8 : s = 8
   ·subst h8; rw [Ja]; exact r8.symm
   ·rw [Jb _ _ h8]
    by_cases h6 : s = 6
    ·subst h6; rw [Ja]; exact r6.symm
    ·rw [Jb _ _ h6]
     by_cases h5 : s = 5
     ·subst h5; rw [Ja]; exact r5.symm
     ·rw [Jb _ _ h5]
 unfold unkG2
 refine RG.q (fun _ _ => MR.fa (b := tb) (o := 0) (off := 0) rfl (ok.tgF 0 (by omega))) (RG.q (fun w' hS => MR.ld (p := ⟨tb, 0 + 0, none⟩) rfl ok.pU32 (hS _ _ htb)) (RG.q (fun _ _ => MR.mv (v := .int .u32 (least : Nat)) rfl) (RG.q (v := .bool (decide ((t.1 : Int) < (least : Nat)))) (fun _ _ => MR.biE rfl) (RG.q (fun _ _ => MR.mv (v := .bool (decide ((t.1 : Int) < (least : Nat)))) rfl) ?_))))
 by_cases hle : t.1 < least
 ·rw [decide_eq_true (show (t.1 : Int) < (least : Nat) by omega)]
  refine RG.no (d := 44) (h := RG.no (d := 45) (h := RG.no (d := 46) (h := RG.no (d := 47) (h := RG.no (d := 48) (h := RG.no (d := 49) (h := RG.no (d := 50) (h := RG.no (d := 51) (h := RG.no (d := 52) (h := RG.no (d := 53) (h := RG.no (d := 54) (h := RG.no (d := 55) (h := RG.no (d := 56) (h := RG.no (d := 57) (h := RG.q (fun _ _ => MR.pk (b := true) (v := .bool true) rfl rfl) (RG.nil fun _ => ?_)))))))))))))))
  refine hQ _ (fun s hs => (by (repeat first | rw [Ja] | rw [Jb _ _ (by omega)]) : _ = _).trans (pre s hs)) ?_
  rw [decide_eq_true hle]; rfl
 rw [decide_eq_false (show ¬ (t.1 : Int) < (least : Nat) by omega)]
 rw [decide_eq_false hle, Bool.false_or] at hQ
 refine RG.q (fun _ _ => MR.mv (v := .int .i64 (i : Nat)) rfl) (RG.q (fun _ _ => MR.mv (v := .slice ad out.length c) rfl) (RG.q (fun _ _ => MR.ln ok.tgs rfl) (RG.q (v := .bool (decide ((i : Int) < (out.length : Nat)))) (fun _ _ => MR.biE rfl) (RG.q (fun _ _ => MR.mv (v := .bool (decide ((i : Int) < (out.length : Nat)))) rfl) ?_))))
 by_cases hlt : i < out.length
 ·obtain ⟨x, hx⟩ : ∃ x, out[i]? = some x := ⟨_, List.getElem?_eq_getElem hlt⟩
  obtain ⟨g, o, cs, rfl, hr, htr⟩ := hrow i x hx
  rw [decide_eq_true (show (i : Int) < (out.length : Nat) by omega)]
  have hkey := tag_key hr htr
  refine RG.q (fun _ _ => MR.mv (v := .slice (some ⟨g, o, none⟩) out.length c) rfl) (RG.q (fun _ _ => MR.mv (v := .int .i64 (i : Nat)) rfl) (RG.q (fun _ _ => MR.ia (k := .i64) ok.tgs ok.tgN rfl rfl hlt) (RG.q (fun _ _ => MR.fa rfl (ok.tgF 0 (by omega))) (RG.q (fun w' hS => MR.ld rfl ok.pU32 (hS _ _ hkey))
   (RG.q (fun _ _ => MR.fa (b := tb) (o := 0) (off := 0) rfl (ok.tgF 0 (by omega))) (RG.q (fun w' hS => MR.ld (p := ⟨tb, 0 + 0, none⟩) rfl ok.pU32 (hS _ _ htb)) (RG.q (v := .bool ((x.1 : Int) == (t.1 : Nat))) (fun _ _ => MR.biE rfl) (RG.q (fun _ _ => MR.pk (b := true) (v := .bool ((x.1 : Int) == (t.1 : Nat))) rfl rfl) (RG.q (fun _ _ => MR.pk (b := false) (v := .bool ((x.1 : Int) == (t.1 : Nat))) rfl rfl) (RG.nil fun _ => ?_))))))))))
  refine hQ _ (fun s hs => (by (repeat first | rw [Ja] | rw [Jb _ _ (by omega)]) : _ = _).trans (pre s hs)) ?_
  rw [hx]
  show Value.bool _ = _
  congr 1
  by_cases h : x.1 = t.1
  ·simp [h]
  ·have : ¬ (x.1 : Int) = (t.1 : Nat) := by omega
   simp [h]; exact this
 ·have hx : out[i]? = none := List.getElem?_eq_none (by omega)
  rw [decide_eq_false (show ¬ (i : Int) < (out.length : Nat) by omega)]
  refine RG.no (d := 49) (by exact ⟨by decide, .inl rfl⟩) (RG.no (d := 50) (by exact ⟨by decide, .inl rfl⟩) (RG.no (d := 51) (by exact ⟨by decide, .inl rfl⟩) (RG.no (d := 52) (by exact ⟨by decide, .inl rfl⟩) (RG.no (d := 53) (by exact ⟨by decide, .inl rfl⟩) (RG.no (d := 54) (by exact ⟨by decide, .inl rfl⟩) (RG.no (d := 55) (by exact ⟨by decide, .inl rfl⟩) (RG.no (d := 56) (by exact ⟨by decide, .inl rfl⟩)
   (RG.q (fun _ _ => MR.pk (b := false) (v := .bool false) rfl rfl) (RG.q (fun _ _ => MR.pk (b := false) (v := .bool false) rfl rfl) (RG.nil fun _ => ?_))))))))))
  refine hQ _ (fun s hs => (by (repeat first | rw [Ja] | rw [Jb _ _ (by omega)]) : _ = _).trans (pre s hs)) ?_
  rw [hx]; rfl
end
end Go.Kx
namespace Go.Kx
open Go.RowKit
set_option linter.unusedSimpArgs false
set_option linter.unusedVariables false
section
variable {P : Program} {S : SN} {w w' w0 : World} {Q : UE} {ρ : Nat → Value}
theorem J8.keep {cs : List Value} {t : Tg} (h : J8 w cs t) (hb : Below w.heap.size w w') : J8 w' cs t := by
 obtain ⟨e3, ad', c', e4, e5, e6, e7⟩ := h
 exact ⟨e3, ad', c', e4, e5, e6, e7.kp hb.kp⟩
theorem J8.two {cs : List Value} {t : Tg} (h : J8 w cs t) : cs.length = 2 ∧ cs.all (·.oneCell') = true := by
 obtain ⟨_, ad, c, rfl, _⟩ := h
 exact ⟨rfl, rfl⟩
theorem OutR.tags {T : List Value → Tg → Prop} (hT : ∀ cs t, T cs t → J8 w0 cs t) {sv : Value} {out : List Tg} (h : OutR S T w0 w sv out) (hb : Below w0.heap.size w0 w) : TagsS w sv out := by
 rcases h with ⟨rfl, rfl⟩ | ⟨g, cap, cur, rfl, h1, h2, h0, h3, h4, h5, h6⟩
 ·exact ⟨none, 0, rfl, .inl rfl, Nat.le_refl _, fun i t h => by simp at h⟩
 ·refine ⟨_, cap, rfl, .inr (.inr ⟨g, 0, rfl⟩), h3, fun i t hi => ?_⟩
  obtain ⟨cs, a1, a2⟩ := h6 i t hi
  exact ⟨g, 0, cs, rfl, by rw [Nat.zero_add]; exact a1, (hT _ _ a2).keep hb⟩
theorem OutR.keep {T : List Value → Tg → Prop} {sv : Value} {out : List Tg} (h : OutR S T w0 w sv out) (hh : ∀ k, k < w.heap.size → w'.heap[k]? = w.heap[k]?) : OutR S T w0 w' sv out := by
 rcases h with h | ⟨g, cap, cur, rfl, h1, h2, h0, h3, h4, h5, h6⟩
 ·exact .inl h
 ·have hg : w'.heap[g]? = w.heap[g]? := hh g (Array.getElem?_eq_some_iff.1 h2).1
  refine .inr ⟨g, cap, cur, rfl, h1, by rw [hg]; exact h2, h0, h3, h4, h5, fun i t hi => ?_⟩
  obtain ⟨cs, a1, a2⟩ := h6 i t hi
  exact ⟨cs, JV a1 hg, a2⟩
theorem set_shape {g T : Nat} {fr : Nat × Nat} : ∀ (vs : List Value) (o : Nat) (w : World) (cur : Array Value), w.heap[g]? = some (.cells cur T fr) → ∃ cur', (w.setCells g o vs).heap[g]? = some (.cells cur' T fr) ∧ cur'.size = cur.size
 | [], o, w, cur, h => ⟨cur, h, rfl⟩
 | v :: vs, o, w, cur, h => by
  have h1 : (w.setCell ⟨g, o, none⟩ v).heap[g]? = some (.cells (cur.setIfInBounds o v) T fr) := by
   simp only [World.setCell]
   rw [Array.getElem?_modify, if_pos rfl, h]
   simp
  obtain ⟨cur', h2, h3⟩ := set_shape vs (o + 1) _ _ h1
  exact ⟨cur', h2, by rw [h3]; simp⟩
theorem run_bslTg (ok : SOK P S) {cs : List Value} (hl : cs.length = 2) : (Instr.buildSlice S.tgs 1 #[(0, .agg cs.toArray)]).run P w = .ok (.slice (some ⟨w.heap.size, 0, none⟩) 1 1) (w.alloc (.cells cs.toArray S.tg)) := by
 obtain ⟨i, hi, hz⟩ := ok.zTg
 have hsz : i.size = 2 := by have := ok.tgN; simp [Jh, hi] at this; exact this
 refine run_buildSlice w S.tgs S.tg 1 _ _ i _ (Jq ok.tgs) hi hz (by rw [hsz]; decide) (by rw [hsz]; decide) ?_
 match cs, hl with
 | [a, b], _ =>
  simp only [Instr.fill, hsz]
  rw [if_neg (by simp [Value.cells])]
  simp [Value.cells, Array.zipIdx, Array.range]
  rfl
theorem RL.rowTH {N d1 d2 d x i g o : Nat} {ms : List MOp} {n c : Nat} {cs : List Value} {t : Tg} {k : Nat} (ok : SOK P S) (hx : ρ x = .slice (some ⟨g, o, none⟩) n c) (hi : ρ i = .int .i64 (k : Nat)) (hk : k < n)
  (hr : w.rangeAt g (o + k * 2) cs) (hf : J8 w cs t) (hd1 : d1 ≠ d2) (hd2 : d2 ≠ d)
  (h : ∀ p w', Below w.heap.size w w' → w'.heap.size = w.heap.size + 1 → w'.rangeAt w.heap.size 0 cs → (∃ ck, w'.heap[w.heap.size]? = some (.cells ck S.tg (0, 0)) ∧ ck.size = 2) → RL P N ms Q (upd (upd (upd ρ d1 p) d2 (.agg cs.toArray)) d (.pointer (some ⟨w.heap.size, 0, none⟩))) w')
  (hxN : x < N := by decide) (hiN : i < N := by decide) (h1N : d1 < N := by decide) (h2N : d2 < N := by decide) (hdN : d < N := by decide) : RL P N (.ia d1 S.tgs x i :: .ld d2 S.tg d1 :: .al d S.tg :: .st S.tg d d2 :: ms) Q ρ w := by
 obtain ⟨l1, o1⟩ := hf.two
 obtain ⟨zi, hzi, hzv⟩ := ok.zTg
 refine RL.s (MR.ia (k := .i64) ok.tgs ok.tgN hx hi hk hxN hiN) (RL.s (MR.ldRow (Ja _ _ _) ok.tgR (by rw [l1]; exact ok.tgN) hr h1N) (RL.s (MR.al ⟨zi, hzi, hzv⟩) ?_ hdN) h2N) h1N
 have ht : (w.alloc (.cells [Value.int .u32 0, .slice none 0 0].toArray S.tg)).there w.heap.size 0 cs.length := by rw [l1]; exact Qm w [.int .u32 0, .slice none 0 0] S.tg
 refine RL.stA (cs := cs) (Ja _ _ _) (by rw [Jb _ _ hd2, Ja]) (by rw [l1]; exact ok.tgN) ht o1 ?_ hdN h2N
 refine h _ _ ?_ ?_ ?_ ?_
 ·exact JD (Nat.le_refl _) _ _ (Jn w _)
 ·rw [Qr]; exact J1 w _
 ·exact World.rangeAt_setCells_same _ _ _ _ ht
 ·obtain ⟨ck, a1, a2⟩ := set_shape cs 0 (w.alloc (.cells [Value.int .u32 0, .slice none 0 0].toArray S.tg)) [Value.int .u32 0, .slice none 0 0].toArray (heap_alloc_new w _)
  exact ⟨ck, a1, by rw [a2]; rfl⟩
def zTagC : List Value := [.int .u32 0, .slice none 0 0]
theorem run_apTg {T : List Value → Tg → Prop} (hT : ∀ cs t, T cs t → J8 w0 cs t) (ok : SOK P S) (hby : bytesLe P S.tg 1000 = true) {h c : Nat} {sv : Value} {out : List Tg} (ho : OutR S T w0 w sv out) (hc : w.rangeAt h 0 zTagC) (hn : out.length < 1000000) (hB : w0.heap.size ≤ w.heap.size) :
  ∃ g cap w' cur, (∀ ty, (Builtin.append_ #[S.tgs, S.tgs] ty #[sv, .slice (some ⟨h, 0, none⟩) 1 c]).run P w = .ok (.slice (some ⟨g, 0, none⟩) (out.length + 1) cap) w') ∧ w0.heap.size ≤ g ∧ w'.heap[g]? = some (.cells cur S.tg (0, 0)) ∧ out.length + 1 ≤ cap ∧ cap ≤ maxLen ∧ cur.size = cap * 2 ∧
   (∀ i t, out[i]? = some t → ∃ cs, w'.rangeAt g (i * 2) cs ∧ T cs t) ∧ Below w0.heap.size w w' ∧ w'.there g 0 ((out.length + 1) * 2) ∧ Gr w w' sv ∧ (∀ k ck, k < w.heap.size → some k ≠ sv.ownBlock → w.heap[k]? = some (.cells ck S.tg (0, 0)) → ck.size = 2 → k ≠ g) := by
 obtain ⟨i, hi, hz⟩ := ok.zTg
 have hsz : i.size = 2 := by have := ok.tgN; simp [Jh, hi] at this; exact this
 have hbb : i.bytes ≤ 1000 := by simp [bytesLe, hi] at hby; exact hby
 have hb2 : (out.length + 1) * i.bytes ≤ 1000000 * 1000 := Nat.mul_le_mul (by omega) hbb
 obtain ⟨b0, xs, hown, hb0, hb1, hcase, hxs⟩ : ∃ b0 xs, w.ownsRow b0 S.tg 2 sv out.length xs ∧ w0.heap.size ≤ b0 ∧ b0 ≤ w.heap.size ∧ (w.heap.size ≤ b0 ∨ 1 ≤ out.length) ∧ ∀ j t, out[j]? = some t → ∃ cs, T cs t ∧ ∀ k u, cs[k]? = some u → xs[j * 2 + k]? = some u := by
  rcases ho with ⟨rfl, rfl⟩ | ⟨g, cap, cur, rfl, h1, h2, h0, h3, h4, h5, h6⟩
  ·exact ⟨w.heap.size, [], World.ownsRow_nil _ _ _ _, hB, Nat.le_refl _, .inl (Nat.le_refl _), fun j t h => by simp at h⟩
  ·refine ⟨w0.heap.size, cur.toList.take (out.length * 2), ⟨by rw [List.length_take, show cur.toList.length = cap * 2 from by rw [Array.length_toList]; exact h5]; omega, .inr ⟨g, cap, cur, rfl, h1, h2, h3, h4, h5, rfl⟩⟩, Nat.le_refl _, hB, .inr h0, fun j t hj => ?_⟩
   obtain ⟨cs, a1, a2⟩ := h6 j t hj
   refine ⟨cs, a2, fun k u hk => ?_⟩
   have hj' := (List.getElem?_eq_some_iff.1 hj).1
   have hk' := (List.getElem?_eq_some_iff.1 hk).1
   rw [(hT _ _ a2).two.1] at hk'
   have := a1 k u hk
   rw [cell_of_row w g (j * 2 + k) cur S.tg (0, 0) h2] at this
   rw [List.getElem?_take, if_pos (by omega)]
   simpa using this
 have hnews : ∀ j u, zTagC[j]? = some u → w.cell? ((⟨h, 0, none⟩ : Addr).add j) = some u := fun j u hu => by rw [Addr.add_mid]; exact hc j u hu
 obtain ⟨v', w', g1, g2, g3, g4⟩ := run_append_own (P := P) w b0 S.tgs 0 S.tg i _ 2 i.bytes (Jq ok.tgs) hi hz hsz rfl rfl (by omega) sv out.length xs hown ⟨h, 0, none⟩ 1 c zTagC rfl
  hnews (by intro u hu; simp only [zTagC, List.mem_cons, List.not_mem_nil, or_false] at hu; rcases hu with rfl | rfl <;> rfl) (by simp only [maxLen]; omega) (by omega) hb1
 have hbase : ∀ k, sv.ownBlock = some k → w0.heap.size ≤ k := fun k hk => Nat.le_trans hb0 (World.ownsRow.lt hown k hk).1
 rcases g2.2 with ⟨_, h0⟩ | ⟨g, cap, cur, rfl, e1, e2, e3, e4, e5, e6⟩
 ·omega
 refine ⟨g, cap, w', cur, fun ty => g1, Nat.le_trans hb0 e1, e2, e3, e4, e5, fun j t hj => ?_, (Below.refl _ _).grown g3 hB hbase, cells_there e2 (by rw [e5]; exact Nat.mul_le_mul_right _ e3), fun k hk hne => g3.block k hk hne, fun k ck hk hne hck h2 => ?_⟩
 rotate_left
 ·rintro rfl
  rcases hcase with h | h
  ·omega
  ·have := g3.block k hk hne
   rw [e2, hck] at this
   simp only [UC, Obj.cells.injEq, and_true] at this
   rw [this, h2] at e5
   omega
 obtain ⟨cs, a1, a2⟩ := hxs j t hj
 refine ⟨cs, fun k u hk => ?_, a1⟩
 have hx := a2 k u hk
 have hxl := (List.getElem?_eq_some_iff.1 hx).1
 rw [cell_of_row w' g (j * 2 + k) cur S.tg (0, 0) e2]
 have e7 : (cur.toList.take ((out.length + 1) * 2))[j * 2 + k]? = some u := by rw [e6, List.getElem?_append_left hxl]; exact hx
 rw [List.getElem?_take] at e7
 split at e7
 ·simpa using e7
 ·simp at e7
theorem unk_put {T : List Value → Tg → Prop} (hT : ∀ cs t, T cs t → J8 w0 cs t) (ok : SOK P S) {g cap i tb : Nat} {cur : Array Value} {cst : List Value} {out : List Tg} {t : Tg} (hi : i ≤ out.length) (hlen : out.length < 1000000) (hg : w0.heap.size ≤ g) (hsh : w.heap[g]? = some (.cells cur S.tg (0, 0))) (hcap : out.length + 1 ≤ cap) (hcm : cap ≤ maxLen) (hcs : cur.size = cap * 2)
  (hrows : ∀ i t, out[i]? = some t → ∃ cs, w.rangeAt g (i * 2) cs ∧ T cs t) (hth : w.there g 0 ((out.length + 1) * 2)) (htb : w.rangeAt tb 0 cst) (htr : T cst t) (hne : tb ≠ g) (hB : Below w0.heap.size w0 w)
  (r6 : ρ 6 = .slice (some ⟨g, 0, none⟩) (out.length + 1) cap) (r8 : ρ 8 = .pointer (some ⟨tb, 0, none⟩)) (r9 : ρ 9 = .int .i64 (i : Nat))
  (hQ : ∀ ρ' w', (∀ s, s < 23 → s ≠ 10 → ρ' s = ρ s) → OutR S T w0 w' (.slice (some ⟨g, 0, none⟩) (out.length + 1) cap) (out.take i ++ t :: out.drop i) → Below w0.heap.size w0 w' → Q .normal ρ' w') :
  RW P 85 (.sq (.sq (.rg [.mv 63 (.t 6), .ln 64 S.tgs 63, .bi 65 .sub S.T.int (.t 64) (.c (.int .i64 (1))), .mv 10 (.t 65)])
   (.bl 4 (.lp (.sq (.sq (.rg [.mv 66 (.t 10), .mv 67 (.t 9), .bi 68 .gtr S.T.int (.t 66) (.t 67)]) (.cd 68 (.sk) (.ex 4)))
    (.sq (.bl 5 (.rg [.mv 71 (.t 6), .mv 72 (.t 10), .mv 73 (.t 6), .mv 74 (.t 10), .bi 75 .sub S.T.int (.t 74) (.c (.int .i64 (1))), .ia 76 S.tgs 73 75, .ld 77 S.tg 76, .ia 78 S.tgs 71 72, .st S.tg 78 77]))
     (.rg [.mv 69 (.t 10), .bi 70 .sub S.T.int (.t 69) (.c (.int .i64 (1))), .mv 10 (.t 70)]))))))
   (.rg [.mv 79 (.t 6), .mv 80 (.t 9), .ld 81 S.tg 8, .ia 82 S.tgs 79 80, .st S.tg 82 81])) Q ρ w := by
 have hex : ∀ k, ∃ cs, ∀ x, out[k]? = some x → w.rangeAt g (k * 2) cs ∧ T cs x := fun k => by
  cases hk : out[k]? with
  | none => exact ⟨[], by simp⟩
  | some x =>
   obtain ⟨cs, h⟩ := hrows k x hk
   exact ⟨cs, fun y hy => by cases hy; exact h⟩
 obtain ⟨C, hC⟩ : ∃ C : Nat → List Value, ∀ k x, out[k]? = some x → w.rangeAt g (k * 2) (C k) ∧ T (C k) x := ⟨fun k => (hex k).choose, fun k x hx => (hex k).choose_spec x hx⟩
 have hrow : ∀ k, k < out.length → ∃ x, out[k]? = some x ∧ w.rangeAt g (k * 2) (C k) ∧ T (C k) x := fun k hk => ⟨_, List.getElem?_eq_getElem hk, hC k _ (List.getElem?_eq_getElem hk)⟩
 refine RW.sq (RW.sq (RW.rg (RL.s (MR.mv r6) (RL.s (MR.ln ok.tgs rfl) (RL.s (MR.biE (v := .int .i64 (out.length : Nat)) (by show some (Value.int .i64 (IntKind.i64.wrap (((out.length + 1 : Nat) : Int) - 1))) = _; rw [show (((out.length + 1 : Nat) : Int) - 1) = (out.length : Nat) from by omega, Ju (by omega) (by omega)])) (RL.s MR.mv (RL.nil (RW.bl ?_))))))))
 refine RW.lp (fun ρ' w' => ∃ j : Nat, i ≤ j ∧ j ≤ out.length ∧ (∀ s, s < 23 → s ≠ 10 → ρ' s = ρ s) ∧ ρ' 10 = .int .i64 (j : Nat) ∧ Fr (fun _ => False) g 0 ((out.length + 1) * 2) w w' ∧ (∃ cur', w'.heap[g]? = some (.cells cur' S.tg (0, 0)) ∧ cur'.size = cap * 2) ∧
   (∀ k, k < j → k < out.length → w'.rangeAt g (k * 2) (C k)) ∧ (∀ k, j ≤ k → k < out.length → w'.rangeAt g ((k + 1) * 2) (C k)))
  (fun ρ' _ => (intOf (ρ' 10)).toNat) ⟨out.length, hi, Nat.le_refl _, fun s hs h10 => by (repeat first | rw [Ja] | rw [Jb _ _ (by omega)]), rfl, Fr.refl _ _ _ _ _, ⟨cur, hsh, hcs⟩, fun k _ hk => (hrow k hk).elim fun x hx => hx.2.1, fun k h1 h2 => by omega⟩ ?_ (fun ρ1 ρ2 w1 h => by rw [h 10 (by omega)])
 rintro ρ1 w1 ⟨j, hij, hjn, q, q10, hF, ⟨cur1, hs1, hs2⟩, hlo, hhi⟩
 have q6 : ρ1 6 = .slice (some ⟨g, 0, none⟩) (out.length + 1) cap := by rw [q 6 (by omega) (by omega)]; exact r6
 have q8 : ρ1 8 = .pointer (some ⟨tb, 0, none⟩) := by rw [q 8 (by omega) (by omega)]; exact r8
 have q9 : ρ1 9 = .int .i64 (i : Nat) := by rw [q 9 (by omega) (by omega)]; exact r9
 have hth1 : w1.there g 0 ((out.length + 1) * 2) := hF.there _ _ hth
 refine RW.sq (RW.sq (RW.rg (RL.s (MR.mv q10) (RL.s (MR.mv (v := .int .i64 (i : Nat)) (by show upd _ _ _ 9 = _; (repeat first | rw [Ja] | rw [Jb _ _ (by omega)]); exact q9)) (RL.s (MR.biE (v := .bool (decide ((i : Int) < (j : Nat)))) rfl) (RL.nil ?_))))))
 refine RW.cd rfl (fun e => RW.sk ?_) (fun e => RW.ex ?_)
 ·have e : i < j := by have := of_decide_eq_true e; omega
  obtain ⟨j, rfl⟩ : ∃ k, j = k + 1 := ⟨j - 1, by omega⟩
  obtain ⟨x, hx1, hx2, hx3⟩ := hrow j (by omega)
  have hrj := hlo j (by omega) (by omega)
  have l2 := (hT _ _ hx3).two
  have htj : w1.there g (0 + (j + 1) * 2) 2 := JG hth1 (by omega)
  show RW P 85 _ _ _ w1
  refine RW.sq (RW.bl (RW.rg (RL.s (MR.mv (v := .slice (some ⟨g, 0, none⟩) (out.length + 1) cap) (by show upd _ _ _ 6 = _; (repeat first | rw [Ja] | rw [Jb _ _ (by omega)]); exact q6)) (RL.s (MR.mv (v := .int .i64 ((j + 1 : Nat) : Int)) (by show upd _ _ _ 10 = _; (repeat first | rw [Ja] | rw [Jb _ _ (by omega)]); exact q10)) (RL.s (MR.mv (v := .slice (some ⟨g, 0, none⟩) (out.length + 1) cap) (by show upd _ _ _ 6 = _; (repeat first | rw [Ja] | rw [Jb _ _ (by omega)]); exact q6)) (RL.s (MR.mv (v := .int .i64 ((j + 1 : Nat) : Int)) (by show upd _ _ _ 10 = _; (repeat first | rw [Ja] | rw [Jb _ _ (by omega)]); exact q10))
   (RL.s (MR.biE (v := .int .i64 (j : Nat)) (by show some (Value.int .i64 (IntKind.i64.wrap (((j + 1 : Nat) : Int) - 1))) = _; rw [show (((j + 1 : Nat) : Int) - 1) = (j : Nat) from by omega, Ju (by omega) (by omega)])) (RL.s (MR.ia (k := .i64) ok.tgs ok.tgN rfl rfl (show j < out.length + 1 by omega))
    (RL.s (MR.ldRow (cs := C j) rfl ok.tgR (by rw [l2.1]; exact ok.tgN) (by rw [Nat.zero_add]; exact hrj)) (RL.s (MR.ia (k := .i64) (j := j + 1) ok.tgs ok.tgN rfl rfl (show j + 1 < out.length + 1 by omega)) (RL.stA (cs := C j) (b := g) (o := 0 + (j + 1) * 2) rfl rfl (by rw [l2.1]; exact ok.tgN) (by rw [l2.1]; exact htj) l2.2 (RL.nil ?_))))))))))))
  have F2 : Fr (fun _ => False) g 0 ((out.length + 1) * 2) w1 (w1.setCells g (0 + (j + 1) * 2) (C j)) := Fr.put _ (by omega) (by rw [l2.1]; omega)
  have F2' : Fr (fun _ => False) g ((j + 1) * 2) 2 w1 (w1.setCells g (0 + (j + 1) * 2) (C j)) := Fr.put _ (by omega) (by rw [l2.1]; omega)
  obtain ⟨cur2, s1, s2⟩ := set_shape (C j) (0 + (j + 1) * 2) w1 cur1 hs1
  have keepRow : ∀ k cs, cs.length = 2 → k ≠ j + 1 → w1.rangeAt g (k * 2) cs → (w1.setCells g (0 + (j + 1) * 2) (C j)).rangeAt g (k * 2) cs := fun k cs hl hk hr m u hu => by
   have hm := (List.getElem?_eq_some_iff.1 hu).1
   rw [F2'.cell _ (by omega)]; exact hr m u hu
  refine RW.rg (RL.s (MR.mv (v := .int .i64 ((j + 1 : Nat) : Int)) (by show upd _ _ _ 10 = _; (repeat first | rw [Ja] | rw [Jb _ _ (by omega)]); exact q10)) (RL.s (MR.biE (v := .int .i64 (j : Nat)) (by show some (Value.int .i64 (IntKind.i64.wrap (((j + 1 : Nat) : Int) - 1))) = _; rw [show (((j + 1 : Nat) : Int) - 1) = (j : Nat) from by omega, Ju (by omega) (by omega)])) (RL.s MR.mv (RL.nil ?_))))
  refine ⟨⟨j, by omega, by omega, fun s hs h10 => by rw [Jb _ _ h10]; (repeat first | rw [Ja] | rw [Jb _ _ (by omega)]); exact q s hs h10, rfl, hF.trans F2, ⟨cur2, s1, by rw [s2, hs2]⟩, fun k h1 h2 => ?_, fun k h1 h2 => ?_⟩, ?_⟩
  ·obtain ⟨y, _, _, hy⟩ := hrow k h2
   exact keepRow k _ (hT _ _ hy).two.1 (by omega) (hlo k (by omega) h2)
  ·by_cases hk : k = j
   ·subst hk
    have := World.rangeAt_setCells_same w1 g (0 + (k + 1) * 2) (C k) (by rw [l2.1]; exact htj)
    rwa [Nat.zero_add] at this ⊢
   ·obtain ⟨y, _, _, hy⟩ := hrow k h2
    exact keepRow (k + 1) _ (hT _ _ hy).two.1 (by omega) (hhi k (by omega) h2)
  ·show ((j : Nat) : Int).toNat < (intOf (ρ1 10)).toNat
   rw [q10]; simp only [intOf]; omega
 ·have e : j = i := by have := of_decide_eq_false e; omega
  subst e
  have l2 := (hT _ _ htr).two
  have htb1 : w1.rangeAt tb 0 cst := JV htb (hF.block tb (by
   obtain ⟨_, ad, c, hc, _⟩ := hT _ _ htr
   exact World.block_lt_of_cell? w _ (htb 0 _ (by rw [hc]; rfl))) hne (fun x => x))
  have hti : w1.there g (0 + j * 2) 2 := JG hth1 (by omega)
  show J2 4 (QP (fun ρ w => RW P 85 (.rg [.mv 79 (.t 6), .mv 80 (.t 9), .ld 81 S.tg 8, .ia 82 S.tgs 79 80, .st S.tg 82 81]) Q ρ w) Q) (.exit 4) _ w1
  simp only [J2, ↓reduceIte]
  show RW P 85 _ _ _ w1
  refine RW.rg (RL.s (MR.mv (v := .slice (some ⟨g, 0, none⟩) (out.length + 1) cap) (by show upd _ _ _ 6 = _; (repeat first | rw [Ja] | rw [Jb _ _ (by omega)]); exact q6)) (RL.s (MR.mv (v := .int .i64 (j : Nat)) (by show upd _ _ _ 9 = _; (repeat first | rw [Ja] | rw [Jb _ _ (by omega)]); exact q9)) (RL.s (MR.ldRow (b := tb) (o := 0) (cs := cst) (by (repeat first | rw [Ja] | rw [Jb _ _ (by omega)]); exact q8) ok.tgR (by rw [l2.1]; exact ok.tgN) htb1)
   (RL.s (MR.ia (k := .i64) ok.tgs ok.tgN rfl rfl (show j < out.length + 1 by omega)) (RL.stA (cs := cst) (b := g) (o := 0 + j * 2) rfl rfl (by rw [l2.1]; exact ok.tgN) (by rw [l2.1]; exact hti) l2.2 (RL.nil ?_))))))
  have F2 : Fr (fun _ => False) g 0 ((out.length + 1) * 2) w1 (w1.setCells g (0 + j * 2) cst) := Fr.put _ (by omega) (by rw [l2.1]; omega)
  have F2' : Fr (fun _ => False) g (j * 2) 2 w1 (w1.setCells g (0 + j * 2) cst) := Fr.put _ (by omega) (by rw [l2.1]; omega)
  obtain ⟨cur2, s1, s2⟩ := set_shape cst (0 + j * 2) w1 cur1 hs1
  have keepRow : ∀ k cs, cs.length = 2 → k ≠ j → w1.rangeAt g (k * 2) cs → (w1.setCells g (0 + j * 2) cst).rangeAt g (k * 2) cs := fun k cs hl hk hr m u hu => by
   have hm := (List.getElem?_eq_some_iff.1 hu).1
   rw [F2'.cell _ (by omega)]; exact hr m u hu
  have hlen' : (out.take j ++ t :: out.drop j).length = out.length + 1 := by simp; omega
  refine hQ _ _ (fun s hs h10 => by (repeat first | rw [Ja] | rw [Jb _ _ (by omega)]); exact q s hs h10) (.inr ⟨g, cap, cur2, by rw [hlen'], hg, s1, by omega, by omega, hcm, by rw [s2, hs2], fun k x hx => ?_⟩) (hB.trans ((hF.trans F2).below hg (fun _ h => h.elim) hB.size))
  rcases Nat.lt_trichotomy k j with hk | hk | hk
  ·rw [List.getElem?_append_left (by rw [List.length_take]; omega), List.getElem?_take, if_pos hk] at hx
   obtain ⟨h1, h2⟩ := hC k x hx
   exact ⟨C k, keepRow k _ (hT _ _ h2).two.1 (by omega) (hlo k hk (List.getElem?_eq_some_iff.1 hx).1), h2⟩
  ·subst hk
   rw [List.getElem?_append_right (by rw [List.length_take]; omega), List.length_take, Nat.min_eq_left hi, Nat.sub_self] at hx
   simp only [List.getElem?_cons_zero, UC] at hx
   subst hx
   refine ⟨cst, ?_, htr⟩
   have := World.rangeAt_setCells_same w1 g (0 + k * 2) cst (by rw [l2.1]; exact hti)
   rwa [Nat.zero_add] at this ⊢
  ·obtain ⟨k, rfl⟩ : ∃ m, k = m + 1 := ⟨k - 1, by omega⟩
   rw [List.getElem?_append_right (by rw [List.length_take]; omega), List.length_take, Nat.min_eq_left hi, show k + 1 - j = (k - j) + 1 from by omega, List.getElem?_cons_succ, List.getElem?_drop, show j + (k - j) = k from by omega] at hx
   obtain ⟨h1, h2⟩ := hC k x hx
   exact ⟨C k, keepRow (k + 1) _ (hT _ _ h2).two.1 (by omega) (hhi k (by omega) (List.getElem?_eq_some_iff.1 hx).1), h2⟩
end
section
variable {P : Program} {S : SN} {w w' w0 : World} {Q : UE} {ρ : Nat → Value}
def insF (least : Nat) (out : List Tg) (t : Tg) : List Tg := if t.1 < least then out else Qf t out
theorem unk_elem {T : List Value → Tg → Prop} (hT : ∀ cs t, T cs t → J8 w0 cs t) {least : Nat} (ok : SOK P S) (hby : bytesLe P S.tg 1000 = true) {sv : Value} {out : List Tg} {t : Tg} {g o i n c : Nat} {cs : List Value} (hB : Below w0.heap.size w0 w) (hout : OutR S T w0 w sv out) (hlen : out.length < 1000000) (hr : w.rangeAt g (o + i * 2) cs) (htr' : T cs t) (hin : i < n)
  (r5 : ρ 5 = .int .u32 (least : Nat)) (r6 : ρ 6 = sv) (r17 : ρ 17 = .slice (some ⟨g, o, none⟩) n c) (r19 : ρ 19 = .int .i64 (i : Nat))
  (hQ : ∀ ρ' w' sv', (∀ s, s = 5 ∨ s = 17 ∨ s = 18 ∨ s = 19 → ρ' s = ρ s) → ρ' 6 = sv' → OutR S T w0 w' sv' (insF least out t) → Below w0.heap.size w0 w' → Q .normal ρ' w') :
  RW P 85 (.bl 1 (.sq (.rg [.ia 21 S.tgs 17 19, .ld 22 S.tg 21, .al 8 S.tg, .st S.tg 8 22]) (.sq (.rg [.mv 9 (.c (.int .i64 (0)))])
   (.sq (.bl 2 (.lp (.sq (.sq (.gr true (unkG1 S)) (.cd 36 .sk (.ex 2))) (.bl 3 (.rg [.mv 37 (.t 9), .bi 38 .add S.T.int (.t 37) (.c (.int .i64 1)), .mv 9 (.t 38)])))))
   (.sq (.sq (.gr true (unkG2 S)) (.cd 58 (.ex 1) .sk))
   (.sq (.rg [.mv 59 (.t 6), .bdl 60 S.tg [], .bsl 61 S.tgs [.t 60], .ap 62 S.tgs S.tgs 59 61, .mv 6 (.t 62)])
   (.sq (.sq (.rg [.mv 63 (.t 6), .ln 64 S.tgs 63, .bi 65 .sub S.T.int (.t 64) (.c (.int .i64 (1))), .mv 10 (.t 65)])
   (.bl 4 (.lp (.sq (.sq (.rg [.mv 66 (.t 10), .mv 67 (.t 9), .bi 68 .gtr S.T.int (.t 66) (.t 67)]) (.cd 68 (.sk) (.ex 4)))
    (.sq (.bl 5 (.rg [.mv 71 (.t 6), .mv 72 (.t 10), .mv 73 (.t 6), .mv 74 (.t 10), .bi 75 .sub S.T.int (.t 74) (.c (.int .i64 (1))), .ia 76 S.tgs 73 75, .ld 77 S.tg 76, .ia 78 S.tgs 71 72, .st S.tg 78 77]))
     (.rg [.mv 69 (.t 10), .bi 70 .sub S.T.int (.t 69) (.c (.int .i64 (1))), .mv 10 (.t 70)]))))))
   (.rg [.mv 79 (.t 6), .mv 80 (.t 9), .ld 81 S.tg 8, .ia 82 S.tgs 79 80, .st S.tg 82 81])))))))) Q ρ w := by
 have htr : J8 w0 cs t := hT _ _ htr'
 refine RW.bl (RW.sq (RW.rg (RL.rowTH (t := t) (cs := cs) ok r17 r19 hin hr (htr.keep hB) (by decide) (by decide) ?_)))
 rintro p w1 b1 s1 rg1 ⟨ck, hck, hck2⟩
 refine RL.nil (RW.sq (RW.rg (RL.s MR.mv (RL.nil ?_))))
 have B1 : Below w0.heap.size w0 w1 := hB.trans (b1.mono hB.size)
 have out1 : OutR S T w0 w1 sv out := hout.keep fun k hk => b1.block k hk
 have htb1 : w1.cell? ⟨w.heap.size, 0, none⟩ = some (u32V t.1) := by
  obtain ⟨_, ad, c', rfl, _⟩ := htr
  exact rg1 0 _ rfl
 refine RW.sq (unk_find ok (sv := sv) (out := out) (t := t) (tb := w.heap.size) (out1.tags hT B1) htb1 (by omega) (by (repeat first | rw [Ja] | rw [Jb _ _ (by omega)]); exact r6) (by (repeat first | rw [Ja] | rw [Jb _ _ (by omega)])) rfl ?_)
 intro ρ2 w2 q2 q29 hh2 b2
 have B2 : Below w0.heap.size w0 w2 := B1.trans (b2.mono B1.size)
 have out2 : OutR S T w0 w2 sv out := out1.keep fun k hk => by rw [hh2]
 have e6 : ρ2 6 = sv := by rw [q2 6 (by omega) (by omega)]; (repeat first | rw [Ja] | rw [Jb _ _ (by omega)]); exact r6
 have e8 : ρ2 8 = .pointer (some ⟨w.heap.size, 0, none⟩) := by rw [q2 8 (by omega) (by omega)]; (repeat first | rw [Ja] | rw [Jb _ _ (by omega)])
 have e5 : ρ2 5 = .int .u32 (least : Nat) := by rw [q2 5 (by omega) (by omega)]; (repeat first | rw [Ja] | rw [Jb _ _ (by omega)]); exact r5
 have eo : ∀ s, s = 5 ∨ s = 17 ∨ s = 18 ∨ s = 19 → ρ2 s = ρ s := fun s hs => by rw [q2 s (by omega) (by omega)]; (repeat first | rw [Ja] | rw [Jb _ _ (by omega)])
 refine RW.sq (RW.sq (unk_g2 ok (out2.tags hT B2) (b2.kp _ _ htb1) e5 e6 e8 q29 fun ρ3 q3 q358 => ?_))
 have b3 : Below w2.heap.size w2 (World.drew1 w2) := JI w2 _
 have B3 : Below w0.heap.size w0 (World.drew1 w2) := B2.trans (b3.mono B2.size)
 have out3 : OutR S T w0 (World.drew1 w2) sv out := out2.keep fun k hk => rfl
 have rg3 : (World.drew1 w2).rangeAt w.heap.size 0 cs := fun j u hu => b3.kp _ _ (b2.kp _ _ (rg1 j u hu))
 have ins : ∀ b, q358 = q358 → (match out[Qh t.1 out]? with | some x => decide (x.1 = t.1) | none => false) = b → Qf t out = if b then out else out.take (Qh t.1 out) ++ t :: out.drop (Qh t.1 out) := by
  intro b _ hb
  rw [insTag_pos]
  unfold insAt
  cases hx : out[Qh t.1 out]? with
  | none => rw [hx] at hb; subst hb; rfl
  | some x =>
   rw [hx] at hb
   simp only at hb ⊢
   subst hb
   by_cases h : x.1 = t.1 <;> simp [h]
 refine RW.cd q358 (fun e => RW.ex ?_) (fun e => RW.sk ?_)
 ·show J2 1 Q (.exit 1) _ _
  simp only [J2, ↓reduceIte]
  have hi : insF least out t = out := by
   unfold insF
   by_cases hl : t.1 < least
   ·rw [if_pos hl]
   ·rw [if_neg hl]
    rw [decide_eq_false hl, Bool.false_or] at e
    have := ins true rfl e
    rw [if_pos rfl] at this
    exact this
  exact hQ _ _ sv (fun s hs => by rw [q3 s (by omega)]; exact eo s hs) (by rw [q3 6 (by omega)]; exact e6) (by rw [hi]; exact out3) B3
 ·rw [Bool.or_eq_false_iff] at e
  have hl : ¬ t.1 < least := of_decide_eq_false e.1
  have hi : insF least out t = Qf t out := if_neg hl
  have hins := ins false rfl e.2
  simp only [UB, if_false] at hins
  show RW P 85 _ _ ρ3 (World.drew1 w2)
  have f6 : ρ3 6 = sv := by rw [q3 6 (by omega)]; exact e6
  have b4 := Jn (World.drew1 w2) (.cells zTagC.toArray S.tg)
  have out4 : OutR S T w0 ((World.drew1 w2).alloc (.cells zTagC.toArray S.tg)) sv out := out3.keep fun k hk => b4.block k hk
  have hz4 : ((World.drew1 w2).alloc (.cells zTagC.toArray S.tg)).rangeAt (World.drew1 w2).heap.size 0 zTagC := fun j v hj => JA _ zTagC S.tg hj
  obtain ⟨g5, cap, w5, cur, a1, a2, a3, a4, a5, a6, a7, a8, a9, a10, a11⟩ := run_apTg (P := P) (c := 1) hT ok hby out4 hz4 hlen (Nat.le_trans B3.size b4.size)
  refine RW.sq (RW.rg (RL.s (MR.mv f6) (RL.s (MR.bdl (v := .agg zTagC.toArray) (w' := World.drew1 w2) (build_zero (z := zTagC) ok.zTg ok.lTg)) (RL.s (MR.bslBy (v := .slice (some ⟨(World.drew1 w2).heap.size, 0, none⟩) 1 1) (w' := (World.drew1 w2).alloc (.cells zTagC.toArray S.tg)) (run_bslTg (cs := zTagC) ok rfl))
   (RL.s (MR.apBy (a1 0) a1) (RL.s MR.mv (RL.nil ?_)))))))
  have B5 : Below w0.heap.size w0 w5 := (B3.trans (b4.mono B3.size)).trans a8
  have hown : some w.heap.size ≠ sv.ownBlock := by
   rcases hout with ⟨rfl, _⟩ | ⟨g', cap', cur', rfl, _, h2, _⟩
   ·intro e; cases e
   ·intro e
    simp only [Value.ownBlock, UC] at e
    have := (Array.getElem?_eq_some_iff.1 h2).1
    omega
  have hck4 : ((World.drew1 w2).alloc (.cells zTagC.toArray S.tg)).heap[w.heap.size]? = some (.cells ck S.tg (0, 0)) := by
   have e2 : (World.drew1 w2).heap[w.heap.size]? = some (.cells ck S.tg (0, 0)) := by show w2.heap[w.heap.size]? = _; rw [hh2]; exact hck
   rw [b4.block _ (Array.getElem?_eq_some_iff.1 e2).1]; exact e2
  have htb4 := (Array.getElem?_eq_some_iff.1 hck4).1
  have rg5 : w5.rangeAt w.heap.size 0 cs := JV (fun j u hu => b4.kp _ _ (rg3 j u hu)) (a10 w.heap.size htb4 hown)
  show RW P 85 _ _ _ w5
  refine unk_put hT ok (posOf_le t.1 out) hlen a2 a3 a4 a5 a6 a7 a9 rg5 htr' ?_ B5 rfl (by show ρ3 8 = _; rw [q3 8 (by omega)]; exact e8) (by show ρ3 9 = _; rw [q3 9 (by omega)]; exact q29) ?_
  ·exact a11 w.heap.size ck htb4 hown hck4 hck2
  ·intro ρ6 w6 h1 h2 h3
   show Q .normal ρ6 w6
   refine hQ ρ6 w6 _ (fun s hs => by rw [h1 s (by omega) (by omega)]; (repeat first | rw [Ja] | rw [Jb _ _ (by omega)]); rw [q3 s (by omega)]; exact eo s hs) (h1 6 (by omega) (by omega)) (by rw [hi, hins]; exact h2) h3
theorem insF_len {least : Nat} {out : List Tg} {t : Tg} : (insF least out t).length ≤ out.length + 1 := by
 unfold insF
 split
 ·omega
 ·exact insTag_len
theorem unk_ok {f : Nat} (ok : SOK P S) (hby : bytesLe P S.tg 1000 = true) (hf : FnIs P f (cUnk S) 85 4) (hk : KnownC P S.fKnown) : UnkC P S f (fun _ => True) := by
 refine ⟨hf.ent, ?_⟩
 rintro w0 w ad c fs v u hrows htag hlen hB0 ⟨ad', c', rfl, had, hc, hrow⟩ -
 have hT : ∀ cs t, J8 w0 cs t → J8 w cs t := fun cs t h => h.kp hB0.kp
 refine hf.runs (args := [.slice ad fs.toList.length c, .slice ad' u.length c']) (by simp) (by omega) ?_
 refine RW.sq (RW.rg (RL.s MR.mv (RL.nil (RW.sq (RW.rg (RL.s MR.mv (RL.ca (R := fun v w' => v = .int .u32 (Jr fs : Nat) ∧ Below w.heap.size w w') hk.1 ?_ ?_)))))))
 ·refine Calls.mono (hk.2 w ad c fs hrows htag hlen) ?_
  rintro e w' ⟨rfl, h⟩
  exact ⟨_, rfl, rfl, h⟩
 rintro v w1 ⟨rfl, hb⟩
 repeat first | refine RL.s MR.mv ?_ | refine RL.s (MR.biE rfl) ?_ | refine RL.s (MR.b2 rfl) ?_
 refine RL.nil (RW.sq (RW.rg (RL.s MR.mv (RL.nil (RW.sq (RW.sq (RW.rg ?_)))))))
 repeat first | refine RL.s MR.mv ?_ | refine RL.s (MR.biE rfl) ?_ | refine RL.s (MR.b2 rfl) ?_
 have hm : (if (32767 : Int) < (u.length : Nat) then (32767 : Int) else (u.length : Nat)) = ((u.take most).length : Nat) := by
  rw [List.length_take]; unfold most; split <;> omega
 have hml : (u.take most).length ≤ c' := by rw [List.length_take]; omega
 refine RL.s (MR.ln ok.tgs (p := ad') (n := u.length) (c := c') rfl) (RL.s (MR.mn (k := .i64) (k' := .i64) (m := (u.length : Nat)) (n := 32767) rfl rfl) ?_)
 rw [hm]
 refine RL.s (MR.sl (v := .slice ad' (u.take most).length c') (run_sliceTo (h := (u.take most).length) ok.tgs (cellsB_some ok.tgN) had hml)) (RL.s (MR.ln ok.tgs (p := ad') (n := (u.take most).length) (c := c') rfl) ?_)
 repeat first | refine RL.s MR.mv ?_ | refine RL.s (MR.biE rfl) ?_ | refine RL.s (MR.b2 rfl) ?_
 refine RL.nil (RW.bl (RW.lp (fun ρ w' => ∃ (k : Nat) (sv : Value), k ≤ (u.take most).length ∧ ρ 5 = .int .u32 (Jr fs : Nat) ∧ ρ 6 = sv ∧ ρ 17 = .slice ad' (u.take most).length c' ∧ ρ 18 = .int .i64 ((u.take most).length : Nat) ∧ ρ 19 = .int .i64 (k : Nat) ∧ OutR S (J8 w0) w w' sv (((u.take most).take k).foldl (insF (Jr fs)) []) ∧ Below w.heap.size w w' ∧ (((u.take most).take k).foldl (insF (Jr fs)) []).length ≤ k)
  (fun ρ' _ => (u.take most).length - (intOf (ρ' 19)).toNat) ⟨0, .slice none 0 0, Nat.zero_le _, rfl, rfl, rfl, rfl, rfl, .inl ⟨rfl, rfl⟩, hb, Nat.le_refl _⟩ ?_ (fun ρ1 ρ2 w1 h => by rw [h 19 (by omega)])))
 rintro ρ2 w2 ⟨k, sv, hkm, h5, h6, h17, h18, h19, hout, hb2, hlk⟩
 have hm32 : (u.take most).length ≤ 32767 := by rw [List.length_take]; unfold most; omega
 refine RW.knows [(5, .int .u32 (Jr fs : Nat)), (6, sv), (17, .slice ad' (u.take most).length c'), (18, .int .i64 ((u.take most).length : Nat)), (19, .int .i64 (k : Nat))] (by simp [h5, h6, h17, h18, h19]) (RW.sq (RW.rg ?_))
 by_cases hlt : k < (u.take most).length
 ·refine RL.s (MR.biB (p := (k : Int) < ((u.take most).length : Nat)) rfl (decide_eq_true (by omega))) (RL.nil (RW.sq (RW.cd (b := true) rfl (fun _ => RW.sk ?_) (fun e => by cases e))))
  obtain ⟨t, ht⟩ : ∃ t, (u.take most)[k]? = some t := ⟨_, List.getElem?_eq_getElem hlt⟩
  have htu : u[k]? = some t := by
   rw [List.getElem?_take] at ht
   split at ht
   ·exact ht
   ·cases ht
  obtain ⟨g, o, cs, rfl, hr, htr⟩ := hrow k t htu
  have est : ((u.take most).take (k + 1)).foldl (insF (Jr fs)) [] = insF (Jr fs) (((u.take most).take k).foldl (insF (Jr fs)) []) t := by
   rw [List.take_add_one, ht, List.foldl_append]
   rfl
  refine RW.sq (unk_elem (w0 := w) (T := J8 w0) hT (least := Jr fs) (t := t) (i := k) (n := (u.take most).length) (c := c') (g := g) (o := o) (cs := cs) (sv := sv) ok hby hb2 hout (by omega) (fun j x hx => (hB0.trans (hb2.mono hB0.size)).kp _ _ (hr j x hx)) htr hlt rfl rfl rfl rfl ?_)
  intro ρ3 w3 sv3 e1 e2 e3 e4
  have q5 := e1 5 (.inl rfl)
  have q17 := e1 17 (.inr (.inl rfl))
  have q18 := e1 18 (.inr (.inr (.inl rfl)))
  have q19 := e1 19 (.inr (.inr (.inr rfl)))
  refine RW.rg (RL.s (MR.biE (v := .int .i64 ((k + 1 : Nat) : Int)) (by show evB .add (ρ3 19) (.int .i64 1) = _; rw [q19]; show some (Value.int .i64 (IntKind.i64.wrap ((k : Int) + 1))) = _; rw [Ju (by omega) (by omega)]; rfl)) (RL.s MR.mv (RL.nil ?_)))
  refine ⟨⟨k + 1, sv3, hlt, by (repeat first | rw [Ja] | rw [Jb _ _ (by omega)]); rw [q5]; rfl, by (repeat first | rw [Ja] | rw [Jb _ _ (by omega)]); exact e2, by (repeat first | rw [Ja] | rw [Jb _ _ (by omega)]); rw [q17]; rfl, by (repeat first | rw [Ja] | rw [Jb _ _ (by omega)]); rw [q18]; rfl, rfl, by rw [est]; exact e3, e4, by rw [est]; have := @insF_len (Jr fs) (((u.take most).take k).foldl (insF (Jr fs)) []) t; omega⟩, ?_⟩
  show (u.take most).length - ((k + 1 : Nat) : Int).toNat < (u.take most).length - (intOf (ρ2 19)).toNat
  rw [h19]; simp only [intOf]; omega
 ·refine RL.s (MR.biB (p := (k : Int) < ((u.take most).length : Nat)) rfl (decide_eq_false (by omega))) (RL.nil (RW.sq (RW.cd (b := false) rfl (fun e => by cases e) (fun _ => RW.ex ?_))))
  have : k = (u.take most).length := by omega
  subst this
  rw [List.take_length] at hout
  refine RW.sq (RW.rg ?_)
  repeat first | refine RL.s MR.mv ?_ | refine RL.s (MR.biE rfl) ?_ | refine RL.s (MR.b2 rfl) ?_
  refine RL.nil (RW.rt ⟨sv, rfl, ?_, hb2⟩)
  exact hout
end
end Go.Kx
