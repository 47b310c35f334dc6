/- Slices of one's own that lie in a variable; the closure of AppendEach. Conditions: the program's tables (TOK), AppendUvarint's contract.
   (*Tags).Each with AppendEach's closure, AppendEach whole. Conditions: the program's tables (TgE), sort.Slice's contract (SortC).
   (*Tags).Each with AppendEach's closure; AppendEach whole (TeachC of small tags). Conditions: the program's tables (TgE), sort.Slice's contract (SortC), the closure's (CbC).
   AppendEach of real tags (TeachC of small tags). Conditions: the program's tables (TgE), sort.Slice's contract (SortC), the closure's (CbC).
   impl.AgainX: a message is read and written again. Conditions: the contracts of its functions.
   The package's plain loops on texts: zzIndex of a text of one octet; zzReplaceAll of such a one by none. Conditions: the program's tables; fewer than 2^20 octets.
   zzReplaceAll of a text of one octet by none; strnorm on texts of octets below 128. Conditions: the program's tables; the contracts of strings.TrimSpace and strings.ToLower; at most 10^6 octets.
   errors.New; the package's Parse of a kind of names, its UnmarshalText, and the readers of both. Conditions: the program's tables; strnorm's contract; texts of at most 10^6 octets, all below 128.
   UnmarshalText of a kind of names, and its reader. Conditions: the program's tables; Parse's contract; texts of at most 10^6 octets, all below 128. -/
import Derived.Test.YtffglmphlpofbaaDoorKxJ
import Derived.Laws.DeepStrings4
import Derived.Lib.Strings
import Derived.Lib.Space
import Derived.Lib.Case
namespace Go.Kx
open Go.RowKit
set_option linter.unusedSimpArgs false
set_option linter.unusedVariables false

/-- A variable at block db holds a slice of one's own, of one cell each. -/
def BoxR (U Ts : Nat) (w : World) (B db : Nat) (xs : List Value) : Prop := ∃ sv, w.heap[db]? = some (.cells #[sv] Ts (0, 0)) ∧ w.ownsRow B U 1 sv xs.length xs

section
variable {P : Program} {N : Nat} {Q : Exit → (Nat → Value) → World → Prop} {ρ : Nat → Value} {w w' : World} {ms : List MOp} {d U Ts db B : Nat} {v x : Value} {T : IT}

theorem box_set (h : w.heap[db]? = some (.cells #[x] Ts (0, 0))) : (w.setCells db 0 [v]).heap[db]? = some (.cells #[v] Ts (0, 0)) := by
  simp only [World.setCells, World.setCell]
  rw [Array.getElem?_modify, if_pos rfl, h]
  simp

theorem box_cell (h : w.heap[db]? = some (.cells #[x] Ts (0, 0))) : w.cell? ⟨db, 0, none⟩ = some x := by simp [World.cell?, h]
theorem box_there (h : w.heap[db]? = some (.cells #[x] Ts (0, 0))) : w.there db 0 1 := by
  intro j hj
  obtain rfl : j = 0 := by omega
  refine ⟨by rw [Nat.add_zero, box_cell h]; rfl, ?_⟩
  unfold World.frozen?
  simp [h]

theorem own_one {n : Nat} {sv : Value} {xs : List Value} (h : w.ownsRow B U 1 sv n xs) : sv.oneCell' = true := by
  rcases h.2 with ⟨rfl, _⟩ | ⟨g, cap, cur, rfl, _⟩ <;> rfl

/-- What is one's own is kept where its block is. -/
theorem own_keep {n : Nat} {sv : Value} {xs : List Value} (h : w.ownsRow B U 1 sv n xs) (hk : ∀ g, sv.ownBlock = some g → w'.heap[g]? = w.heap[g]?) : w'.ownsRow B U 1 sv n xs := by
  obtain ⟨h1, h2⟩ := h
  refine ⟨h1, ?_⟩
  rcases h2 with h2 | ⟨g, cap, cur, rfl, h3, h4, h5⟩
  · exact .inl h2
  · exact .inr ⟨g, cap, cur, rfl, h3, by rw [hk g rfl]; exact h4, h5⟩

theorem own_ne {n : Nat} {sv : Value} {xs : List Value} (h : w.ownsRow B U 1 sv n xs) (hb : w.heap[db]? = some (.cells #[x] Ts (0, 0))) (hne : U ≠ Ts) : ∀ g, sv.ownBlock = some g → g ≠ db := by
  rcases h.2 with ⟨rfl, _⟩ | ⟨g, cap, cur, rfl, h3, h4, h5⟩
  · intro g hg; cases hg
  · intro g' hg e
    simp only [Value.ownBlock, Option.some.injEq] at hg
    subst hg
    rw [e, hb] at h4
    simp only [Option.some.injEq, Obj.cells.injEq] at h4
    exact hne h4.2.1.symm

/-- The variable is written. -/
theorem BoxR.put {n : Nat} {sv : Value} {xs : List Value} (hb : w.heap[db]? = some (.cells #[x] Ts (0, 0))) (ho : w.ownsRow B U 1 sv n xs) (hn : n = xs.length) (hne : U ≠ Ts) : BoxR U Ts (w.setCells db 0 [sv]) B db xs := by
  subst hn
  exact ⟨sv, box_set hb, own_keep ho fun g hg => setCells_other db _ _ _ g (own_ne ho hb hne g hg)⟩

theorem BoxR.keep {xs : List Value} (h : BoxR U Ts w B db xs) (hb : Below w.heap.size w w') : BoxR U Ts w' B db xs := by
  obtain ⟨sv, h1, h2⟩ := h
  refine ⟨sv, by rw [hb.block _ (Array.getElem?_eq_some_iff.1 h1).1]; exact h1, own_keep h2 fun g hg => hb.block g ?_⟩
  rcases h2.2 with ⟨rfl, _⟩ | ⟨g', cap, cur, rfl, h3, h4, h5⟩
  · cases hg
  · simp only [Value.ownBlock, Option.some.injEq] at hg
    subst hg
    exact (Array.getElem?_eq_some_iff.1 h4).1

/-- What grows one's own leaves the variable alone. -/
theorem box_grown {n : Nat} {sv : Value} {xs : List Value} (h : w.ownsRow B U 1 sv n xs) (hb : w.heap[db]? = some (.cells #[x] Ts (0, 0))) (hne : U ≠ Ts) (hg : w.grownBy w' sv.ownBlock) : w'.heap[db]? = some (.cells #[x] Ts (0, 0)) := by
  rw [hg.block db (Array.getElem?_eq_some_iff.1 hb).1 (fun e => own_ne h hb hne db e.symm rfl)]; exact hb

def cCb (T : IT) (fUv : Nat) : MCode :=
  .sq (.rg [.ld 5 T.u8s 2, .mv 6 (.t 0), .ca 7 fUv [.t 5, .t 6], .st T.u8s 2 7]) (.sq (.rg [.ld 8 T.u8s 2, .mv 9 (.t 1), .ln 10 T.u8s 9, .cv 11 T.int T.u32 10, .ca 12 fUv [.t 8, .t 11], .st T.u8s 2 12])
    (.rg [.ld 13 T.u8s 2, .mv 14 (.t 1), .ap 15 T.u8s T.u8s 13 14, .st T.u8s 2 15]))

/-- Blocks that are no rows of octets stay, but db. -/
def Nr (U db : Nat) (w w' : World) : Prop := ∀ k, k < w.heap.size → k ≠ db → (∀ cur, w.heap[k]? ≠ some (.cells cur U (0, 0))) → w'.heap[k]? = w.heap[k]?
theorem Nr.trans {w1 w2 w3 : World} (h : Nr U db w1 w2) (k : Nr U db w2 w3) (hs : w1.heap.size ≤ w2.heap.size) : Nr U db w1 w3 := fun i h1 h2 h3 => by
  have e := h i h1 h2 h3
  rw [k i (Nat.lt_of_lt_of_le h1 hs) h2 (fun cur => by rw [e]; exact h3 cur), e]
theorem own_nr {n : Nat} {sv : Value} {xs : List Value} (h : w.ownsRow B U 1 sv n xs) {k : Nat} (hk : ∀ cur, w.heap[k]? ≠ some (.cells cur U (0, 0))) : some k ≠ sv.ownBlock := by
  rcases h.2 with ⟨rfl, _⟩ | ⟨g, cap, cur, rfl, h3, h4, h5⟩
  · intro e; cases e
  · intro e
    simp only [Value.ownBlock, Option.some.injEq] at e
    subst e
    exact hk cur h4

theorem RL.boxUv {fUv s p d n : Nat} {y : MX} {sv : Value} {bs : List UInt8} (hG : UvarG P T.u8 fUv) (hne : T.u8 ≠ T.u8s) (hc : cellsB P T.u8s 1 = true) (hs : ρ s = sv) (hb : w.heap[db]? = some (.cells #[sv] T.u8s (0, 0))) (ho : OwnB T.u8 w B sv bs) (hB : B ≤ w.heap.size) (hBd : B ≤ db)
    (hy : xof ρ y = .int .u32 (n : Nat)) (hn : n < 4294967296) (hlim : bs.length + (uv n).length ≤ lim) (hp : ρ p = .pointer (some ⟨db, 0, none⟩)) (hpd : p ≠ d)
    (h : ∀ sv' w', w'.heap[db]? = some (.cells #[sv'] T.u8s (0, 0)) → OwnB T.u8 w' B sv' (bs ++ uv n) → Below B w w' → Nr T.u8 db w w' → RL P N ms Q (upd ρ d sv') w') (hsN : s < N := by decide) (hyN : y.lt N = true := by rfl) (hd : d < N := by decide) (hpN : p < N := by decide) : RL P N (.ca d fUv [.t s, y] :: .st T.u8s p d :: ms) Q ρ w := by
  refine RL.ca (R := fun sv' w' => OwnB T.u8 w' B sv' (bs ++ uv n) ∧ Below B w w' ∧ Gr w w' sv) hG.1 ?_ ?_ hd (by intro z hz; simp only [List.mem_cons, List.not_mem_nil, or_false] at hz; rcases hz with rfl | rfl; exact ltT hsN; exact hyN)
  · simp only [List.map_cons, List.map_nil, hy]
    show Calls P fUv #[ρ s, _] w _
    rw [hs]
    refine (hG.2 w B sv _ bs (uv n) hB ho ⟨n, hn, rfl, rfl⟩ hlim).mono ?_
    rintro e w' ⟨sv', rfl, h2⟩
    exact ⟨sv', rfl, h2⟩
  rintro sv' w' ⟨h1, h2, h3⟩
  have hb' : w'.heap[db]? = some (.cells #[sv] T.u8s (0, 0)) := by
    rw [h3 db (Array.getElem?_eq_some_iff.1 hb).1 (fun e => own_ne ho hb hne db e.symm rfl)]; exact hb
  refine RL.st1 (v := sv') (b := db) (o := 0) (by rw [upd_ne _ _ hpd]; exact hp) (upd_same _ _ _) (own_one h1) hc (box_there hb') (h sv' _ (box_set hb') ?_ ?_ ?_) hpN hd
  · exact own_keep h1 fun g hg => setCells_other db _ _ _ g (own_ne h1 hb' hne g hg)
  · exact below_setCells hBd _ _ h2
  · exact fun k hk hne' hr => by rw [setCells_other db _ _ _ k hne', h3 k hk (own_nr ho hr)]

def CbC (P : Program) (T : IT) (f : Nat) : Prop := entersB P f = true ∧ ∀ (w : World) (B db : Nat) (bs : List UInt8) (k : Nat) (a : Option Addr) (l : List UInt8) (c : Nat), B ≤ w.heap.size → B ≤ db → BoxR T.u8 T.u8s w B db (bs.map byteV) → k < 4294967296 → l.length ≤ 32767 → BytesAt w (· < B) a l → bs.length + (encTag (k, l)).length ≤ lim →
  Calls P f #[.int .u32 (k : Nat), .slice a l.length c, .pointer (some ⟨db, 0, none⟩)] w (fun e w' => (∃ v, e = .returned v) ∧ BoxR T.u8 T.u8s w' B db ((bs ++ encTag (k, l)).map byteV) ∧ Below B w w' ∧ Nr T.u8 db w w')

theorem cb_ok {f fUv : Nat} (tk : TOK P T) (hne : T.u8 ≠ T.u8s) (hc : cellsB P T.u8s 1 = true) (hpl : plainTy P T.u8s = true) (h32 : T.u32 ≠ 0) (hG : UvarG P T.u8 fUv) (hf : FnIs0 P f (cCb T fUv) 16) : CbC P T f := by
  refine ⟨hf.ent, fun w B db bs k a l c hB hBd hbox hk hl hby hlim => ?_⟩
  obtain ⟨sv, hb, ho⟩ := hbox
  rw [List.length_map] at ho
  refine hf.runs (args := [.int .u32 (k : Nat), .slice a l.length c, .pointer (some ⟨db, 0, none⟩)]) (by simp) ?_
  have elen : (encTag (k, l)).length = (uv k).length + (uv l.length).length + l.length := by simp [encTag]; omega
  rw [elen] at hlim
  refine RW.sq (RW.rg (RL.step (MR.ld (p := ⟨db, 0, none⟩) rfl hpl (box_cell hb)) (RL.step (MR.mv (v := .int .u32 (k : Nat)) rfl) (RL.boxUv (T := T) (db := db) (B := B) (sv := sv) (bs := bs) (n := k) hG hne hc rfl hb ho hB hBd rfl hk (by omega) rfl (by decide) ?_))))
  intro sv1 w1 hb1 ho1 bl1 nr1
  refine RL.nil (RW.sq (RW.rg (RL.step (MR.ld (p := ⟨db, 0, none⟩) rfl hpl (box_cell hb1)) (RL.step (MR.mv (v := .slice a l.length c) rfl) (RL.step (MR.ln tk.u8s rfl) (RL.step (MR.cvI rfl tk.int (tk.u32 h32)) (RL.boxUv (T := T) (db := db) (B := B) (sv := sv1) (bs := bs ++ uv k) (n := l.length) hG hne hc rfl hb1 ho1 (Nat.le_trans hB bl1.size) hBd ?_ (by omega) (by rw [List.length_append]; omega) rfl (by decide) ?_)))))))
  · show Value.int .u32 (IntKind.u32.wrap (l.length : Int)) = _
    rw [wrap_u32n (by omega)]
  intro sv2 w2 hb2 ho2 bl2 nr2
  have bl : Below B w w2 := bl1.trans bl2
  have hby2 : BytesAt w2 (fun _ => True) a l := (hby.mono (F' := (· < B)) (fun _ h => h) (fun b hb => bl.block b hb)).any
  obtain ⟨sv3, w3, h1, h2, h3, h4⟩ := run_apOwn (P := P) (w := w2) (T := T.u8s) (U := T.u8) (c := c) tk.u8s tk.u8 ho2 rfl hby2 (Nat.le_trans hB bl.size) (by simp only [List.length_append]; omega)
  refine RL.nil (RW.rg (RL.step (MR.ld (p := ⟨db, 0, none⟩) rfl hpl (box_cell hb2)) (RL.step (MR.mv (v := .slice a l.length c) rfl) (RL.step (MR.apBy (h1 0) h1) ?_))))
  have hb3 : w3.heap[db]? = some (.cells #[sv2] T.u8s (0, 0)) := box_grown ho2 hb2 hne h4
  refine RL.st1 (v := sv3) (b := db) (o := 0) rfl rfl (own_one h2) hc (box_there hb3) (RL.nil ?_)
  refine ⟨⟨_, rfl⟩, ?_, bl.trans (below_setCells hBd _ _ h3), (nr1.trans nr2 bl1.size).trans (fun k hk hne' hr => by rw [setCells_other db _ _ _ k hne', h4.block k hk (own_nr ho2 hr)]) bl.size⟩
  refine BoxR.put hb3 (n := ((bs ++ encTag (k, l)).map byteV).length) ?_ rfl hne
  have e : bs ++ encTag (k, l) = bs ++ uv k ++ uv l.length ++ l := by simp [encTag]
  rw [e, List.length_map]
  exact h2
end
end Go.Kx
namespace Go.Kx
open Go.RowKit Go.MapKept Go.MapFrom
set_option linter.unusedSimpArgs false
set_option linter.unusedVariables false

def u32V (n : Nat) : Value := .int .u32 (n : Nat)

def u32B (P : Program) (U : Nat) : Bool := match P.info? U with
  | some i => Nat.beq i.size 1 && Nat.ble i.bytes 1000 && (match i.zero with | some v => (MVal.int .u32 0).is v | none => false)
  | none => false
theorem u32B_of {P : Program} {U : Nat} (h : u32B P U = true) : ∃ i, P.info? U = some i ∧ i.size = 1 ∧ i.bytes ≤ 1000 ∧ i.zero = some (.int .u32 0) := by
  unfold u32B at h
  cases hi : P.info? U with
  | none => simp [hi] at h
  | some i =>
    simp only [hi, Bool.and_eq_true, Nat.beq_eq, Nat.ble_eq] at h
    obtain ⟨⟨h1, h2⟩, h3⟩ := h
    cases hz : i.zero with
    | none => simp [hz] at h3
    | some v => simp only [hz] at h3; exact ⟨i, rfl, h1, h2, by rw [hz, MVal.is_eq h3]; rfl⟩
def nilSB (P : Program) (T : Nat) : Bool := match P.info? T with
  | some i => (match i.zero with | some v => MVal.nslice.is v | none => false)
  | none => false
theorem nilSB_of {P : Program} {T : Nat} (h : nilSB P T = true) : ∃ i, P.info? T = some i ∧ i.zero = some (.slice none 0 0) := by
  unfold nilSB at h
  cases hi : P.info? T with
  | none => simp [hi] at h
  | some i =>
    simp only [hi] at h
    cases hz : i.zero with
    | none => simp [hz] at h
    | some v => simp only [hz] at h; exact ⟨i, rfl, by rw [hz, MVal.is_eq h]; rfl⟩

theorem run_bsl1 {P : Program} {w : World} {T U : Nat} {n : Nat} (hT : sliceOf P T U = true) (hU : u32B P U = true) :
    (Instr.buildSlice T 1 ((List.range' 0 1).zip [u32V n]).toArray).run P w = .ok (.slice (some ⟨w.heap.size, 0, none⟩) 1 1) (w.alloc (.cells #[u32V n] U)) := by
  obtain ⟨i, hi, hs, hb, hz⟩ := u32B_of hU
  have hfill := fill_ones [u32V n] [] [.int .u32 0] (by intro v hv; simp only [List.mem_singleton] at hv; subst hv; rfl) rfl
  simp only [List.nil_append, List.length_nil, List.length_cons, Nat.zero_add] at hfill
  simp only [Sem.run_bind, Instr.buildSlice, run_underlying (sliceOf_eq hT), Result.andThen_ok, sizeOf, typeInfo, run_program, hi, Sem.run_pure, hs]
  rw [if_neg (by omega)]
  have hzero : (Array.map (fun x => (Value.int IntKind.u32 0).cells[x % (Value.int IntKind.u32 0).cells.size]!) (Array.range 1)) = [Value.int IntKind.u32 0].toArray := by
    apply Array.toList_inj.1
    simp [Value.cells, List.range_succ]
  simp only [Nat.mul_one]
  rw [if_neg (by omega)]
  simp only [zeroValue, typeInfo, Sem.run_bind, run_program, Result.andThen_ok, hi, Sem.run_pure, hz, hzero, hfill, newRow, run_newObj]
  rfl

theorem run_ap32 {P : Program} {w : World} {T U B n h c : Nat} {sv : Value} {xs : List Value} {k : Nat} (hT : sliceOf P T U = true) (hU : u32B P U = true) (ho : w.ownsRow B U 1 sv n xs) (hc : w.rangeAt h 0 [u32V k]) (hn : n < 1000000) (hB : B ≤ w.heap.size) :
    ∃ sv' w', (∀ ty, (Builtin.append_ #[T, T] ty #[sv, .slice (some ⟨h, 0, none⟩) 1 c]).run P w = .ok sv' w') ∧ w'.ownsRow B U 1 sv' (n + 1) (xs ++ [u32V k]) ∧ w.grownBy w' sv.ownBlock := by
  obtain ⟨i, hi, hs, hby, hz⟩ := u32B_of hU
  have hbb : (n + 1) * i.bytes ≤ 1000000 * 1000 := Nat.mul_le_mul (by omega) hby
  obtain ⟨v', w', g1, g2, g3, _⟩ := run_append_own (P := P) w B T 0 U i _ 1 i.bytes (sliceOf_eq hT) hi hz hs rfl rfl (by omega) sv n xs ho ⟨h, 0, none⟩ 1 c [u32V k] rfl
    (fun j u hu => by rw [Addr.add_mid]; exact hc j u hu) (by intro u hu; simp only [List.mem_singleton] at hu; subst hu; rfl) (by simp only [maxLen]; omega) (by omega) hB
  exact ⟨v', w', fun ty => g1, g2, g3⟩

/-- The numbers of Each's types and functions. -/
structure EN where
  tSt : Nat
  tMap : Nat
  tKs : Nat
  tU32 : Nat
  tInt : Nat
  fLess : Nat
  fSort : Nat
  fCb : Nat

def cEachF (K : EN) : MCode :=
  .sq (.sq (.rg [.mv 8 (.t 0), .nc 9 8, .fa 10 K.tSt 9 0, .ld 11 K.tMap 10, .ln 12 K.tMap 11, .bi 13 .eql K.tInt (.t 12) (.c (.int .i64 0))]) (.cd 13 .rt .sk))
  (.sq (.rg [.mv 14 (.t 0), .nc 15 14, .fa 16 K.tSt 15 0, .ld 17 K.tMap 16, .ln 18 K.tMap 17, .mk 19 K.tKs (.c (.int .i64 0)) (.t 18), .al 4 K.tKs, .st K.tKs 4 19])
  (.sq (.sq (.rg [.mv 20 (.t 0), .nc 21 20, .fa 22 K.tSt 21 0, .ld 23 K.tMap 22, .rng 24 K.tMap 23])
    (.bl 0 (.lp (.sq (.rg [.nxt 25 24, .ext 26 25 0]) (.sq (.cd 26 .sk (.ex 0)) (.bl 1 (.sq (.rg [.ent 27 24, .ext 28 27 0, .mv 5 (.t 28)]) (.rg [.ld 29 K.tKs 4, .mv 30 (.t 5), .bsl 31 K.tKs [.t 30], .ap 32 K.tKs K.tKs 29 31, .st K.tKs 4 32]))))))))
  (.sq (.rg [.ld 33 K.tKs 4, .mki 34 K.tKs 33, .mf 35 K.fLess 4, .ca 36 K.fSort [.t 34, .t 35]])
  (.sq (.rg [.ld 37 K.tKs 4, .ln 38 K.tKs 37, .mv 39 (.c (.int .i64 0))])
    (.bl 2 (.lp (.sq (.rg [.bi 40 .lss K.tInt (.t 39) (.t 38)]) (.sq (.cd 40 .sk (.ex 2)) (.sq (.bl 3 (.sq (.rg [.ia 41 K.tKs 37 39, .ld 42 K.tU32 41, .mv 7 (.t 42)]) (.rg [.mv 43 (.t 1), .mv 44 (.t 7), .mv 45 (.t 0), .nc 46 45, .fa 47 K.tSt 46 0, .ld 48 K.tMap 47, .mv 49 (.t 7), .lku 50 K.tMap 48 49, .cav 51 43 [.t 44, .t 50]])))
      (.rg [.bi 52 .add K.tInt (.t 39) (.c (.int .i64 1)), .mv 39 (.t 52)]))))))))))

def SortC (P : Program) (tS U f fLess : Nat) : Prop := entersB P f = true ∧ ∀ (w : World) (db g n c : Nat) (cur : Array Value) (ks : List Nat), w.heap[db]? = some (.cells #[.slice (some ⟨g, 0, none⟩) n c] tS (0, 0)) → w.heap[g]? = some (.cells cur U (0, 0)) → ks.length = n → n < 1000000 → (∀ k ∈ ks, k < 4294967296) → w.rangeAt g 0 (ks.map u32V) → w.there g 0 n → g ≠ db → g < w.heap.size →
  Calls P f #[.iface tS (.slice (some ⟨g, 0, none⟩) n c), .func (.func fLess) #[] #[.pointer (some ⟨db, 0, none⟩)]] w (fun e w' => e = .returned (.tuple #[]) ∧ ∃ ks' : List Nat, ks'.Perm ks ∧ ks'.Pairwise (fun x y => x ≤ y) ∧ w'.rangeAt g 0 (ks'.map u32V) ∧ (∃ cur', w'.heap[g]? = some (.cells cur' U (0, 0))) ∧ Fr (fun _ => False) g 0 n w w')

structure TgE (P : Program) (K : EN) (T : IT) : Prop where
  map : mapU P K.tMap = true
  mapT : mapTy P K.tMap = true
  pl : plainTy P K.tMap = true
  fld : fieldAtB P K.tSt 0 0 = true
  ks : sliceOf P K.tKs K.tU32 = true
  u : u32B P K.tU32 = true
  zk : nilSB P K.tKs = true
  ck : cellsB P K.tKs 1 = true
  pk : plainTy P K.tKs = true
  pu : plainTy P K.tU32 = true
  cu : cellsB P K.tU32 1 = true
  int : intTy P K.tInt .i64 = true
  ne : K.tU32 ≠ K.tKs

theorem sorted_eq : ∀ {l m : List Nat}, l.Pairwise (fun x y => x < y) → m.Pairwise (fun x y => x < y) → (∀ x, x ∈ l ↔ x ∈ m) → l = m
  | [], [], _, _, _ => rfl
  | [], y :: m, _, _, h => by have := (h y).2 List.mem_cons_self; simp at this
  | x :: l, [], _, _, h => by have := (h x).1 List.mem_cons_self; simp at this
  | x :: l, y :: m, h1, h2, h => by
    rw [List.pairwise_cons] at h1 h2
    have exy : x = y := by
      have a := (h x).1 List.mem_cons_self
      have b := (h y).2 List.mem_cons_self
      rw [List.mem_cons] at a b
      rcases a with a | a
      · exact a
      · rcases b with b | b
        · exact b.symm
        · have := h2.1 x a; have := h1.1 y b; omega
    subst exy
    congr 1
    refine sorted_eq h1.2 h2.2 fun z => ?_
    have hz := h z
    rw [List.mem_cons, List.mem_cons] at hz
    constructor
    · intro hl
      rcases hz.1 (.inr hl) with e | hm
      · subst e; have := h1.1 z hl; omega
      · exact hm
    · intro hm
      rcases hz.2 (.inr hm) with e | hl
      · subst e; have := h2.1 z hm; omega
      · exact hl

theorem run_lookupTag {P : Program} {w : World} {T r clock : Nat} {es : Array MapEntry} {e : MapEntry} {k : Nat} (hT : mapU P T = true) (hb : w.heap[r]? = some (.map es clock)) (hst : Stamped es clock) (hks : ∀ x ∈ es.toList, IsKey (.int .u32) x.key) (he : e ∈ es.toList) (hk : e.key = u32V k) :
    (Instr.lookup T (.map (some r)) (u32V k) false).run P w = .ok e.val w := by
  obtain ⟨kt, et, hm, hd⟩ := mapU_eq hT
  have hk' : IsKey (.int .u32) (u32V k) := rfl
  rcases findNow_spec hk' es.toList 0 hks with ⟨h1, h2⟩ | ⟨j, e', h1, h2, h3⟩
  · exact absurd hk (h2 e he)
  · have hem : e' ∈ es.toList := List.mem_of_getElem? h2
    have heq : e' = e := by
      have hn := ((stamped_iff es clock).1 hst).2.2
      obtain ⟨i1, hi1⟩ := List.getElem?_of_mem he
      rw [List.pairwise_iff_getElem] at hn
      rcases Nat.lt_trichotomy i1 j with hlt | heq | hgt
      · obtain ⟨a1, a2⟩ := List.getElem?_eq_some_iff.1 hi1
        obtain ⟨b1, b2⟩ := List.getElem?_eq_some_iff.1 h2
        exact absurd (by rw [a2, b2, hk, h3]) (hn i1 j a1 b1 hlt)
      · subst heq; rw [hi1] at h2; exact (Option.some.inj h2).symm
      · obtain ⟨a1, a2⟩ := List.getElem?_eq_some_iff.1 hi1
        obtain ⟨b1, b2⟩ := List.getElem?_eq_some_iff.1 h2
        exact absurd (by rw [a2, b2, hk, h3]) (hn j i1 b1 a1 hgt)
    subst heq
    cases hemp : es.isEmpty <;> simp [Instr.lookup, run_underlying hm, Go.MapKept.run_getObj_map hb, Go.MapKept.run_checkKey hd hk', Go.MapKept.run_findKey hd h1, Result.andThen]
end Go.Kx
namespace Go.Kx
open Go.RowKit Go.MapKept Go.MapFrom
set_option linter.unusedSimpArgs false
set_option linter.unusedVariables false

theorem key_inj {es : Array MapEntry} {clock : Nat} (hst : Stamped es clock) {x e : MapEntry} (hx : x ∈ es.toList) (he : e ∈ es.toList) (hk : x.key = e.key) : x = e := by
  have hn := ((stamped_iff es clock).1 hst).2.2
  obtain ⟨i, hi⟩ := List.getElem?_of_mem hx
  obtain ⟨j, hj⟩ := List.getElem?_of_mem he
  rw [List.pairwise_iff_getElem] at hn
  obtain ⟨a1, a2⟩ := List.getElem?_eq_some_iff.1 hi
  obtain ⟨b1, b2⟩ := List.getElem?_eq_some_iff.1 hj
  rcases Nat.lt_trichotomy i j with hlt | heq | hgt
  · exact absurd (by rw [a2, b2, hk]) (hn i j a1 b1 hlt)
  · subst heq; rw [hi] at hj; exact Option.some.inj hj
  · exact absurd (by rw [a2, b2, hk]) (hn j i b1 a1 hgt)
theorem born_inj {es : Array MapEntry} {clock : Nat} (hst : Stamped es clock) {x e : MapEntry} (hx : x ∈ es.toList) (he : e ∈ es.toList) (hk : x.born = e.born) : x = e := by
  have hn := ((stamped_iff es clock).1 hst).2.1
  obtain ⟨i, hi⟩ := List.getElem?_of_mem hx
  obtain ⟨j, hj⟩ := List.getElem?_of_mem he
  rw [List.Nodup, List.pairwise_map, List.pairwise_iff_getElem] at hn
  obtain ⟨a1, a2⟩ := List.getElem?_eq_some_iff.1 hi
  obtain ⟨b1, b2⟩ := List.getElem?_eq_some_iff.1 hj
  rcases Nat.lt_trichotomy i j with hlt | heq | hgt
  · exact absurd (by rw [a2, b2, hk]) (hn i j a1 b1 hlt)
  · subst heq; rw [hi] at hj; exact Option.some.inj hj
  · exact absurd (by rw [a2, b2, hk]) (hn j i b1 a1 hgt)

theorem iterSeen_of {w : World} {it : Nat} {a : Option Nat} {b c : Nat} {s : Array Nat} (h : w.heap[it]? = some (.mapIter a b s c)) : w.iterSeen it = s := by unfold World.iterSeen; rw [h]
theorem setHeap_same {w : World} {r : Nat} {o o' : Obj} (h : w.heap[r]? = some o') : (setHeap w r o).heap[r]? = some o := (heap_set h).1
theorem setHeap_other {w : World} {r k : Nat} {o : Obj} (h : k ≠ r) : (setHeap w r o).heap[k]? = w.heap[k]? := by simp [setHeap, Ne.symm h]

section
variable {P : Program} {N : Nat} {Q : Exit → (Nat → Value) → World → Prop} {ρ : Nat → Value} {w w' : World} {ms : List MOp} {T : IT} {K : EN}

/-- The last loop: the tags in the order of the keys, each to the closure. -/
theorem each_tail {B db r clock g c : Nat} {p : Addr} {es : Array MapEntry} {bs : List UInt8} {tags : List Tg} {w0 : World} (te : TgE P K T) (hneU : K.tU32 ≠ T.u8) (hcb : CbC P T K.fCb) (hB : B ≤ w0.heap.size) (hBd : B ≤ db) (hp : p = ⟨p.block, p.off, none⟩)
    (hb : Below B w0 w) (hpB : p.block < B) (hrB : r < B) (hcell : w0.cell? p = some (.map (some r))) (hmap : w0.heap[r]? = some (.map es clock)) (hst : Stamped es clock) (hkeys : ∀ x ∈ es.toList, IsKey (.int .u32) x.key) (hsm : smallT tags)
    (hval : ∀ t ∈ tags, t.1 < 4294967296 ∧ ∃ e ∈ es.toList, e.key = .int .u32 t.1 ∧ ∃ a c, e.val = .slice a t.2.length c ∧ BytesAt w0 (· < B) a t.2) (hbox : BoxR T.u8 T.u8s w B db (bs.map byteV)) (hlim : bs.length + (tags.flatMap encTag).length ≤ lim)
    (hrow : w.rangeAt g 0 (tags.map fun t => u32V t.1)) (hgdb : g ≠ db) (hgn : ∀ cur, w.heap[g]? ≠ some (.cells cur T.u8 (0, 0))) (hg : g < w.heap.size)
    (r0 : ρ 0 = .pointer (some p)) (r1 : ρ 1 = .func (.func K.fCb) #[] #[.pointer (some ⟨db, 0, none⟩)]) (r37 : ρ 37 = .slice (some ⟨g, 0, none⟩) tags.length c) (r38 : ρ 38 = .int .i64 (tags.length : Nat)) (r39 : ρ 39 = .int .i64 0)
    (hQ : ∀ ρ' w', BoxR T.u8 T.u8s w' B db ((bs ++ tags.flatMap encTag).map byteV) → Below B w0 w' → Q .normal ρ' w') :
    RW P 53 (.bl 2 (.lp (.sq (.rg [.bi 40 .lss K.tInt (.t 39) (.t 38)]) (.sq (.cd 40 .sk (.ex 2)) (.sq (.bl 3 (.sq (.rg [.ia 41 K.tKs 37 39, .ld 42 K.tU32 41, .mv 7 (.t 42)]) (.rg [.mv 43 (.t 1), .mv 44 (.t 7), .mv 45 (.t 0), .nc 46 45, .fa 47 K.tSt 46 0, .ld 48 K.tMap 47, .mv 49 (.t 7), .lku 50 K.tMap 48 49, .cav 51 43 [.t 44, .t 50]])))
      (.rg [.bi 52 .add K.tInt (.t 39) (.c (.int .i64 1)), .mv 39 (.t 52)])))))) Q ρ w := by
  have hn : tags.length ≤ 32767 := hsm.1
  refine RW.bl (RW.lp (fun ρ' w' => ∃ i : Nat, i ≤ tags.length ∧ ρ' 0 = .pointer (some p) ∧ ρ' 1 = .func (.func K.fCb) #[] #[.pointer (some ⟨db, 0, none⟩)] ∧ ρ' 37 = .slice (some ⟨g, 0, none⟩) tags.length c ∧ ρ' 38 = .int .i64 (tags.length : Nat) ∧ ρ' 39 = .int .i64 (i : Nat) ∧
      Below B w0 w' ∧ BoxR T.u8 T.u8s w' B db ((bs ++ (tags.take i).flatMap encTag).map byteV) ∧ w'.rangeAt g 0 (tags.map fun t => u32V t.1) ∧ (∀ cur, w'.heap[g]? ≠ some (.cells cur T.u8 (0, 0))) ∧ g < w'.heap.size)
    (fun ρ' _ => tags.length - (intOf (ρ' 39)).toNat) ⟨0, Nat.zero_le _, r0, r1, r37, r38, r39, hb, by simpa using hbox, hrow, hgn, hg⟩ ?_ (fun ρ1 ρ2 w1 h => by rw [h 39 (by omega)]))
  rintro ρ1 w1 ⟨i, hi, q0, q1, q37, q38, q39, hb1, hbox1, hrow1, hgn1, hg1⟩
  refine RW.knows [(0, .pointer (some p)), (1, .func (.func K.fCb) #[] #[.pointer (some ⟨db, 0, none⟩)]), (37, .slice (some ⟨g, 0, none⟩) tags.length c), (38, .int .i64 (tags.length : Nat)), (39, .int .i64 (i : Nat))] (by simp [q0, q1, q37, q38, q39]) ?_
  refine RW.sq (RW.rg (RL.step (MR.biE (v := .bool (decide ((i : Int) < (tags.length : Nat)))) rfl) (RL.nil ?_)))
  by_cases hlt : i < tags.length
  · refine RW.sq (RW.cd (b := true) (by show Value.bool _ = _; rw [decide_eq_true (by omega)]) (fun _ => RW.sk ?_) (fun e => by cases e))
    obtain ⟨t, ht⟩ : ∃ t, tags[i]? = some t := ⟨_, List.getElem?_eq_getElem hlt⟩
    have htm : t ∈ tags := List.mem_of_getElem? ht
    obtain ⟨v1, e, v2, v3, a, cc, v4, v5⟩ := hval t htm
    have hmap1 : w1.heap[r]? = some (.map es clock) := by rw [hb1.block r hrB]; exact hmap
    have hcell1 : w1.cell? p = some (.map (some r)) := by rw [cell_of_heap (hb1.block p.block hpB)]; exact hcell
    rw [hp] at hcell1
    have hrowi : w1.cell? ⟨g, 0 + i * 1, none⟩ = some (u32V t.1) := by
      have := hrow1 i (u32V t.1) (by rw [List.getElem?_map, ht]; rfl)
      rwa [Nat.mul_one]
    refine RW.sq (RW.bl (RW.sq (RW.rg (RL.step (MR.ia (k := .i64) te.ks te.cu rfl rfl hlt) (RL.step (MR.ld rfl te.pu hrowi) (RL.step MR.mv (RL.nil ?_)))))))
    refine RW.rg (RL.step (MR.mv (v := .func (.func K.fCb) #[] #[.pointer (some ⟨db, 0, none⟩)]) rfl) (RL.step (MR.mv (v := u32V t.1) rfl) (RL.step (MR.mv (v := .pointer (some ⟨p.block, p.off, none⟩)) (by show Value.pointer (some p) = _; rw [← hp])) (RL.step (MR.nc rfl) (RL.step (MR.fa rfl te.fld)
      (RL.step (MR.ld (v := .map (some r)) rfl te.pl (by rw [Nat.add_zero]; exact hcell1)) (RL.step (MR.mv (v := u32V t.1) rfl) (RL.step (MR.lku (v := e.val) (run_lookupTag te.map hmap1 hst hkeys v2 (by rw [v3]; rfl))) ?_))))))))
    have elen : ((tags.take (i + 1)).flatMap encTag) = (tags.take i).flatMap encTag ++ encTag t := by
      rw [List.take_add_one, ht]; simp
    have hll : bs.length + ((tags.take i).flatMap encTag).length + (encTag t).length ≤ lim := by
      have e1 : tags.flatMap encTag = (tags.take (i + 1)).flatMap encTag ++ (tags.drop (i + 1)).flatMap encTag := by rw [← List.flatMap_append, List.take_append_drop]
      rw [e1, elen] at hlim
      simp only [List.length_append] at hlim; omega
    have hcbc := hcb.2 w1 B db (bs ++ (tags.take i).flatMap encTag) t.1 a t.2 cc (Nat.le_trans hB hb1.size) hBd hbox1 v1 (hsm.2 t htm) (v5.mono (fun _ h => h) (fun b hb => hb1.block b hb)) (by rw [List.length_append]; exact hll)
    refine RL.cav (g := K.fCb) (lb := [.pointer (some ⟨db, 0, none⟩)]) (R := fun _ w' => BoxR T.u8 T.u8s w' B db ((bs ++ (tags.take i).flatMap encTag ++ encTag t).map byteV) ∧ Below B w1 w' ∧ Nr T.u8 db w1 w') hcb.1 rfl ?_ ?_
    · show Calls P K.fCb #[u32V t.1, e.val, .pointer (some ⟨db, 0, none⟩)] w1 _
      rw [v4]
      refine Calls.mono hcbc ?_
      rintro e' w' ⟨⟨v, rfl⟩, h⟩
      exact ⟨v, rfl, h⟩
    rintro v w2 ⟨hbox2, hb2, hnr⟩
    have hg2 : w2.heap[g]? = w1.heap[g]? := hnr g hg1 hgdb hgn1
    refine RL.nil (RW.rg (RL.step (MR.biE (v := .int .i64 ((i + 1 : Nat) : Int)) (by show some (Value.int .i64 (IntKind.i64.wrap ((i : Int) + 1))) = _; rw [wrap_i64 (by omega) (by omega)]; rfl)) (RL.step MR.mv (RL.nil ?_))))
    refine ⟨⟨i + 1, hlt, rfl, rfl, rfl, rfl, rfl, hb1.trans hb2, ?_, range_keep hrow1 hg2, fun cur => by rw [hg2]; exact hgn1 cur, Nat.lt_of_lt_of_le hg1 hb2.size⟩, ?_⟩
    · rw [elen, ← List.append_assoc]; exact hbox2
    · show tags.length - ((i + 1 : Nat) : Int).toNat < tags.length - (intOf (ρ1 39)).toNat
      rw [q39]; simp only [intOf]; omega
  · refine RW.sq (RW.cd (b := false) (by show Value.bool _ = _; rw [decide_eq_false (by omega)]) (fun e => by cases e) (fun _ => RW.ex ?_))
    show inBlockR 2 Q (.exit 2) _ w1
    simp only [inBlockR, ↓reduceIte]
    have : i = tags.length := by omega
    subst this
    rw [List.take_length] at hbox1
    exact hQ _ w1 hbox1 hb1

/-- The keys of the map, in a variable: as the range hands them out. -/
theorem each_range {B0 it kb r clock : Nat} {es : Array MapEntry} {w0 : World} {p : Value} {fv : Value} {tags : List Tg} (te : TgE P K T) (hB : B0 ≤ w0.heap.size) (hst : Stamped es clock) (hback : ∀ x ∈ es.toList, ∃ t ∈ tags, x.key = .int .u32 t.1) (hes : es.size ≤ 32767)
    (hmap : w0.heap[r]? = some (.map es clock)) (hrB : r < B0) (hkb : B0 ≤ kb) (hit : B0 ≤ it) (hne : kb ≠ it) (hitw : w.heap[it]? = some (.mapIter (some r) clock #[] clock)) (hb : Below B0 w0 w) (hbox : BoxR K.tU32 K.tKs w B0 kb [])
    (r0 : ρ 0 = p) (r1 : ρ 1 = fv) (r4 : ρ 4 = .pointer (some ⟨kb, 0, none⟩)) (r24 : ρ 24 = .pointer (some ⟨it, 0, none⟩))
    (hQ : ∀ ρ' w' (ks : List Nat), ρ' 0 = p → ρ' 1 = fv → ρ' 4 = .pointer (some ⟨kb, 0, none⟩) → Below B0 w0 w' → BoxR K.tU32 K.tKs w' B0 kb (ks.map u32V) → ks.Nodup → (∀ x ∈ es.toList, ∃ k ∈ ks, x.key = u32V k) → (∀ k ∈ ks, ∃ x ∈ es.toList, x.key = u32V k) → ks.length ≤ es.size → Q .normal ρ' w') :
    RW P 53 (.bl 0 (.lp (.sq (.rg [.nxt 25 24, .ext 26 25 0]) (.sq (.cd 26 .sk (.ex 0)) (.bl 1 (.sq (.rg [.ent 27 24, .ext 28 27 0, .mv 5 (.t 28)]) (.rg [.ld 29 K.tKs 4, .mv 30 (.t 5), .bsl 31 K.tKs [.t 30], .ap 32 K.tKs K.tKs 29 31, .st K.tKs 4 32]))))))) Q ρ w := by
  refine RW.bl (RW.lp (fun ρ' w' => ∃ (seen : Array Nat) (ks : List Nat), ρ' 0 = p ∧ ρ' 1 = fv ∧ ρ' 4 = .pointer (some ⟨kb, 0, none⟩) ∧ ρ' 24 = .pointer (some ⟨it, 0, none⟩) ∧ w'.heap[it]? = some (.mapIter (some r) clock seen clock) ∧ BoxR K.tU32 K.tKs w' B0 kb (ks.map u32V) ∧ Below B0 w0 w' ∧
      ks.Nodup ∧ (∀ x ∈ es.toList, seen.contains x.born = true → ∃ k ∈ ks, x.key = u32V k) ∧ (∀ k ∈ ks, ∃ x ∈ es.toList, x.key = u32V k ∧ seen.contains x.born = true) ∧ ks.length + (leftOf es seen).size ≤ es.size)
    (fun _ w' => (leftOf es (w'.iterSeen it)).size) ⟨#[], [], r0, r1, r4, r24, hitw, hbox, hb, List.nodup_nil, fun x _ h => by simp at h, fun k h => by simp at h, by simpa [leftOf] using Array.size_filter_le⟩ ?_)
  rintro ρ1 w1 ⟨seen, ks, q0, q1, q4, q24, hit1, hbox1, hb1, hnd, hfw, hbk, hsz⟩
  have hmap1 : w1.heap[r]? = some (.map es clock) := by rw [hb1.block r hrB]; exact hmap
  refine RW.knows [(0, p), (1, fv), (4, .pointer (some ⟨kb, 0, none⟩)), (24, .pointer (some ⟨it, 0, none⟩))] (by simp [q0, q1, q4, q24]) ?_
  rcases run_nextG (P := P) (w := w1) it r clock clock clock seen es hmap1 hit1 hst.1 (Nat.le_refl _) with ⟨hz, hrun⟩ | ⟨e, he, w2, e1, e2, e3, e4, hrun⟩
  · refine RW.sq (RW.rg (RL.step (MR.nxt (v := .tuple #[.bool false]) hrun) (RL.step (MR.ext (v := .bool false) rfl) (RL.nil (RW.sq (RW.cd (b := false) rfl (fun e => by cases e) (fun _ => RW.ex ?_)))))))
    show inBlockR 0 Q (.exit 0) _ w1
    simp only [inBlockR, ↓reduceIte]
    refine hQ _ w1 ks rfl rfl rfl hb1 hbox1 hnd (fun x hx => hfw x hx ?_) (fun k hk => ?_) (by omega)
    · cases hc : seen.contains x.born with
      | true => rfl
      | false =>
        have : x ∈ leftOf es seen := by
          unfold leftOf
          rw [Array.mem_filter]
          exact ⟨by simpa using hx, by rw [hc]; rfl⟩
        have := Array.size_pos_of_mem this
        omega
    · obtain ⟨x, h1, h2, _⟩ := hbk k hk
      exact ⟨x, h1, h2⟩
  · obtain ⟨hem, hes0⟩ := mem_left he
    obtain ⟨t, htm, htk⟩ := hback e hem
    have s2 : w2.heap.size = w1.heap.size := by rw [e1]
    have hit2 : w2.heap[it]? = some (.mapIter (some r) clock seen clock) := by rw [e1]; exact hit1
    generalize hw3 : setHeap w2 it (.mapIter (some r) clock (seen.push e.born) clock) = w3 at hrun
    have i3 : w3.heap[it]? = some (.mapIter (some r) clock (seen.push e.born) clock) := by rw [← hw3]; exact setHeap_same hit2
    have o3 : ∀ k, k ≠ it → w3.heap[k]? = w1.heap[k]? := fun k hk => by rw [← hw3, setHeap_other hk, e1]
    have z3 : w3.heap.size = w1.heap.size := by rw [← hw3]; simp [setHeap, s2]
    have B3 : Below B0 w0 w3 := hb1.trans ⟨by rw [← hw3]; exact e2, by rw [← hw3]; exact e3, by rw [← hw3]; exact e4, by omega, fun k hk => o3 k (by omega)⟩
    have hmap3 : w3.heap[r]? = some (.map es clock) := by rw [o3 r (by omega)]; exact hmap1
    refine RW.sq (RW.rg (RL.step (MR.nxt (v := .tuple #[.bool true, e.key, e.val]) hrun) (RL.step (MR.ext (v := .bool true) rfl) (RL.nil (RW.sq (RW.cd (b := true) rfl (fun _ => RW.sk ?_) (fun e => by cases e)))))))
    refine RW.bl (RW.sq (RW.rg (RL.step (MR.ent (v := .tuple #[e.key, e.val]) (run_entryG it r clock clock seen es e hmap3 i3 hem hst.2.1)) (RL.step (MR.ext (v := e.key) rfl) (RL.step MR.mv (RL.nil ?_))))))
    obtain ⟨sv, c1, c2⟩ := hbox1
    rw [List.length_map] at c2
    have hlen : ks.length < 1000000 := by omega
    have c1' : w3.heap[kb]? = some (.cells #[sv] K.tKs (0, 0)) := by rw [o3 kb hne]; exact c1
    have c2' : w3.ownsRow B0 K.tU32 1 sv ks.length (ks.map u32V) := own_keep c2 fun g hg => o3 g (by
      rcases c2.2 with ⟨rfl, _⟩ | ⟨g', cap, cur, rfl, h3, h4, h5⟩
      · cases hg
      · simp only [Value.ownBlock, Option.some.injEq] at hg
        subst hg
        rintro rfl
        rw [hit1] at h4; cases h4)
    have hkey : e.key = u32V t.1 := htk
    have b4 := below_box w3 (.cells #[u32V t.1] K.tU32)
    have z4 := size_box w3 (.cells #[u32V t.1] K.tU32)
    have rg4 : (w3.alloc (.cells #[u32V t.1] K.tU32)).rangeAt w3.heap.size 0 [u32V t.1] := fun j v hj => cell_box w3 [u32V t.1] K.tU32 hj
    have c24 : (w3.alloc (.cells #[u32V t.1] K.tU32)).ownsRow B0 K.tU32 1 sv ks.length (ks.map u32V) := own_keep c2' fun g hg => b4.block g (by
      rcases c2'.2 with ⟨rfl, _⟩ | ⟨g', cap, cur, rfl, h3, h4, h5⟩
      · cases hg
      · simp only [Value.ownBlock, Option.some.injEq] at hg
        subst hg
        exact (Array.getElem?_eq_some_iff.1 h4).1)
    have c14 : (w3.alloc (.cells #[u32V t.1] K.tU32)).heap[kb]? = some (.cells #[sv] K.tKs (0, 0)) := by rw [b4.block kb (Array.getElem?_eq_some_iff.1 c1').1]; exact c1'
    obtain ⟨sv5, w5, a1, a2, a3⟩ := run_ap32 (P := P) (w := w3.alloc (.cells #[u32V t.1] K.tU32)) (T := K.tKs) (c := 1) te.ks te.u c24 rg4 hlen (Nat.le_trans hB (Nat.le_trans B3.size b4.size))
    have c15 : w5.heap[kb]? = some (.cells #[sv] K.tKs (0, 0)) := box_grown c24 c14 te.ne a3
    refine RW.rg (RL.step (MR.ld (p := ⟨kb, 0, none⟩) rfl te.pk (box_cell c1')) (RL.step (MR.mv (v := u32V t.1) (by show e.key = _; exact hkey)) (RL.step (MR.bslBy (v := .slice (some ⟨w3.heap.size, 0, none⟩) 1 1) (w' := w3.alloc (.cells #[u32V t.1] K.tU32)) (run_bsl1 te.ks te.u))
      (RL.step (MR.apBy (a1 0) a1) (RL.st1 (v := sv5) (b := kb) (o := 0) rfl rfl (own_one a2) te.ck (box_there c15) (RL.nil ?_))))))
    have B5 : Below B0 w0 w5 := (B3.trans (b4.mono (Nat.le_trans hB B3.size))).grown a3 (Nat.le_trans hB (Nat.le_trans B3.size b4.size)) (fun k hk => by
      have := (World.ownsRow.lt c24 k hk).1; exact this)
    have hit5 : w5.heap[it]? = some (.mapIter (some r) clock (seen.push e.born) clock) := by
      rw [a3.block it (by have := (Array.getElem?_eq_some_iff.1 i3).1; omega) (fun ee => by
        rcases c24.2 with ⟨rfl, _⟩ | ⟨g', cap, cur, rfl, h3, h4, h5⟩
        · cases ee
        · simp only [Value.ownBlock, Option.some.injEq] at ee
          subst ee
          rw [b4.block it (Array.getElem?_eq_some_iff.1 i3).1, i3] at h4; cases h4), b4.block it (Array.getElem?_eq_some_iff.1 i3).1]
      exact i3
    have hit6 : (w5.setCells kb 0 [sv5]).heap[it]? = some (.mapIter (some r) clock (seen.push e.born) clock) := by rw [setCells_other kb _ _ _ it (fun h => hne h.symm)]; exact hit5
    have hkn : t.1 ∉ ks := fun hin => by
      obtain ⟨x, x1, x2, x3⟩ := hbk _ hin
      have := key_inj hst x1 hem (by rw [x2, hkey])
      subst this
      rw [hes0] at x3; cases x3
    have hsh := left_shrinks es seen e he
    refine ⟨⟨seen.push e.born, ks ++ [t.1], rfl, rfl, rfl, rfl, hit6, ?_, below_setCells hkb _ _ B5, ?_, ?_, ?_, by simp only [List.length_append, List.length_cons, List.length_nil]; omega⟩, ?_⟩
    · refine BoxR.put c15 (n := ((ks ++ [t.1]).map u32V).length) ?_ rfl te.ne
      rw [List.length_map, List.length_append, List.map_append]
      exact a2
    · rw [List.nodup_append]
      exact ⟨hnd, by simp, fun a ha b hb => by simp only [List.mem_singleton] at hb; subst hb; rintro rfl; exact hkn ha⟩
    · intro x hx hc
      rw [contains_push, Bool.or_eq_true, beq_iff_eq] at hc
      rcases hc with hc | hc
      · obtain ⟨k, k1, k2⟩ := hfw x hx hc
        exact ⟨k, List.mem_append_left _ k1, k2⟩
      · have := born_inj hst hx hem hc
        subst this
        exact ⟨t.1, by simp, hkey⟩
    · intro k hk
      rw [List.mem_append] at hk
      rcases hk with hk | hk
      · obtain ⟨x, x1, x2, x3⟩ := hbk k hk
        exact ⟨x, x1, x2, by rw [contains_push, x3]; rfl⟩
      · simp only [List.mem_singleton] at hk
        subst hk
        exact ⟨e, hem, hkey, by rw [contains_push]; simp⟩
    · show (leftOf es ((w5.setCells kb 0 [sv5]).iterSeen it)).size < (leftOf es (w1.iterSeen it)).size
      rw [iterSeen_of hit6, iterSeen_of hit1]; exact hsh
end
end Go.Kx
namespace Go.Kx
open Go.RowKit Go.MapKept Go.MapFrom
set_option linter.unusedSimpArgs false
set_option linter.unusedVariables false

section
variable {P : Program} {N : Nat} {Q : Exit → (Nat → Value) → World → Prop} {ρ : Nat → Value} {w w' : World} {ms : List MOp} {T : IT} {K : EN}

theorem cells_there {g n e : Nat} {cur : Array Value} (h : w.heap[g]? = some (.cells cur e (0, 0))) (hn : n ≤ cur.size) : w.there g 0 n := by
  intro j hj
  refine ⟨?_, ?_⟩
  · rw [cell_of_row w g (0 + j) cur e (0, 0) h, Nat.zero_add]
    simp; omega
  · unfold World.frozen?
    simp [h]

theorem each_ok {f : Nat} (te : TgE P K T) (hneU : K.tU32 ≠ T.u8) (hcb : CbC P T K.fCb) (hso : SortC P K.tKs K.tU32 K.fSort K.fLess) (hf : FnIs0 P f (cEachF K) 53) (w : World) (B db : Nat) (p : Addr) (m : Value) (bs : List UInt8) (tags : List Tg) (hB : B ≤ w.heap.size) (hpB : p.block < B) (hBd : B ≤ db)
    (hm : RepT w (· < B) m tags) (hsm : smallT tags) (hc : w.cell? p = some m) (hbox : BoxR T.u8 T.u8s w B db (bs.map byteV)) (hlim : bs.length + (tags.flatMap encTag).length ≤ lim) :
    Calls P f #[.pointer (some p), .func (.func K.fCb) #[] #[.pointer (some ⟨db, 0, none⟩)]] w (fun e w' => (∃ v, e = .returned v) ∧ BoxR T.u8 T.u8s w' B db ((bs ++ tags.flatMap encTag).map byteV) ∧ Below B w w') := by
  have hp := cell_spot hc
  refine hf.runs (args := [.pointer (some p), .func (.func K.fCb) #[] #[.pointer (some ⟨db, 0, none⟩)]]) (by simp) ?_
  have hc' : w.cell? ⟨p.block, p.off + 0, none⟩ = some m := by rw [Nat.add_zero, ← hp]; exact hc
  have hp' : (Value.pointer (some p)) = .pointer (some ⟨p.block, p.off, none⟩) := by rw [← hp]
  refine RW.sq (RW.sq (RW.rg (RL.step (MR.mv (v := .pointer (some ⟨p.block, p.off, none⟩)) hp') (RL.step (MR.nc rfl) (RL.step (MR.fa rfl te.fld) (RL.step (MR.ld rfl te.pl hc') (RL.step (MR.lnM te.mapT hm rfl) (RL.step (MR.biE (v := .bool (((tags.length : Nat) : Int) == 0)) rfl) (RL.nil ?_)))))))))
  refine RW.cd rfl (fun e => RW.rt ?_) (fun e => RW.sk ?_)
  · have : tags = [] := by
      have := beq_iff_eq.1 e
      exact List.eq_nil_of_length_eq_zero (by omega)
    subst this
    exact ⟨⟨_, rfl⟩, by simpa using hbox, Below.refl _ _⟩
  have hne0 : 0 < tags.length := by have := beq_eq_false_iff_ne.1 e; omega
  rcases hm with ⟨rfl, rfl⟩ | ⟨r, es, clock, rfl, hrB, hmap, hsz, hsort, hval, hst, hback⟩
  · simp at hne0
  have hrB : r < B := hrB
  have hn32 : tags.length ≤ 32767 := hsm.1
  have hkeys : ∀ x ∈ es.toList, IsKey (.int .u32) x.key := fun x hx => by obtain ⟨t, _, e⟩ := hback x hx; rw [e]; rfl
  obtain ⟨i, hi, his, hib, hiz⟩ := u32B_of te.u
  obtain ⟨zi, hzi, hzz⟩ := nilSB_of te.zk
  obtain ⟨w1, m1, m2, m3⟩ := run_make_own (P := P) w w.heap.size K.tKs K.tU32 i (.int .u32 0) 1 (sliceOf_eq te.ks) hi hiz his .i64 .i64 tags.length (by have : i.bytes * tags.length ≤ 1000 * 32767 := Nat.mul_le_mul hib hn32; omega) (by simp only [maxLen]; omega) (Nat.le_refl _)
  refine RW.sq (RW.rg (RL.step (MR.mv (v := .pointer (some ⟨p.block, p.off, none⟩)) hp') (RL.step (MR.nc rfl) (RL.step (MR.fa rfl te.fld) (RL.step (MR.ld rfl te.pl hc') (RL.step (MR.lnM (F := (· < B)) (tags := tags) te.mapT (.inr ⟨r, es, clock, rfl, hrB, hmap, hsz, hsort, hval, hst, hback⟩) rfl)
    (RL.step (MR.mkBy m1) (RL.step (MR.al ⟨zi, hzi, hzz⟩) ?_))))))))
  have b1 : Below w.heap.size w w1 := (Below.refl _ _).grown m3 (Nat.le_refl _) (by intro k hk; cases hk)
  have b2 := below_box w1 (.cells #[.slice none 0 0] K.tKs)
  have hkb0 : (w1.alloc (.cells #[.slice none 0 0] K.tKs)).heap[w1.heap.size]? = some (.cells #[.slice none 0 0] K.tKs (0, 0)) := heap_alloc_new w1 _
  have o2 : (w1.alloc (.cells #[.slice none 0 0] K.tKs)).ownsRow w.heap.size K.tU32 1 (.slice (some ⟨w.heap.size, 0, none⟩) 0 tags.length) 0 [] := own_keep m2 fun g hg => b2.block g (by
    rcases m2.2 with ⟨h, _⟩ | ⟨g', cap, cur, h1, h3, h4, h5⟩
    · cases h
    · simp only [Value.ownBlock, Option.some.injEq] at hg
      subst hg
      simp only [Value.slice.injEq, Option.some.injEq, Addr.mk.injEq] at h1
      rw [h1.1.1]
      exact (Array.getElem?_eq_some_iff.1 h4).1)
  refine RL.st1 (v := .slice (some ⟨w.heap.size, 0, none⟩) 0 tags.length) (b := w1.heap.size) (o := 0) rfl rfl rfl te.ck (box_there hkb0) (RL.nil ?_)
  have hbx := BoxR.put (xs := []) (n := 0) hkb0 o2 rfl te.ne
  have B2 : Below w.heap.size w ((w1.alloc (.cells #[.slice none 0 0] K.tKs)).setCells w1.heap.size 0 [.slice (some ⟨w.heap.size, 0, none⟩) 0 tags.length]) := below_setCells b1.size _ _ (b1.trans (b2.mono b1.size))
  have z2 : w1.heap.size < ((w1.alloc (.cells #[.slice none 0 0] K.tKs)).setCells w1.heap.size 0 [.slice (some ⟨w.heap.size, 0, none⟩) 0 tags.length]).heap.size := by rw [size_setCells, size_box]; omega
  show RW P 53 _ _ _ ((w1.alloc (.cells #[.slice none 0 0] K.tKs)).setCells w1.heap.size 0 [.slice (some ⟨w.heap.size, 0, none⟩) 0 tags.length])
  revert hbx B2 z2
  generalize (w1.alloc (.cells #[.slice none 0 0] K.tKs)).setCells w1.heap.size 0 [.slice (some ⟨w.heap.size, 0, none⟩) 0 tags.length] = w2
  intro hbx B2 z2
  obtain ⟨kt, et, hum, hud⟩ := mapU_eq te.map
  have hmap2 : w2.heap[r]? = some (.map es clock) := by rw [B2.block r (by omega)]; exact hmap
  have hc2 : w2.cell? ⟨p.block, p.off + 0, none⟩ = some (.map (some r)) := B2.kp _ _ hc'
  have b3 := below_box w2 (.mapIter (some r) clock #[] clock)
  refine RW.sq (RW.sq (RW.rg (RL.step (MR.mv (v := .pointer (some ⟨p.block, p.off, none⟩)) hp') (RL.step (MR.nc rfl) (RL.step (MR.fa rfl te.fld) (RL.step (MR.ld rfl te.pl hc2) (RL.step (MR.rng (run_range_map w2 K.tMap kt et r es clock hum hmap2)) (RL.nil ?_))))))))
  refine each_range (B0 := w.heap.size) (it := w2.heap.size) (kb := w1.heap.size) (r := r) (clock := clock) (es := es) (w0 := w) (tags := tags) (p := .pointer (some p)) (fv := .func (.func K.fCb) #[] #[.pointer (some ⟨db, 0, none⟩)]) te (Nat.le_refl _) hst hback (by omega) hmap (by omega) b1.size B2.size (by omega) (heap_alloc_new w2 _) (B2.trans (b3.mono B2.size)) (hbx.keep b3) rfl rfl rfl rfl ?_
  intro ρ5 w5 ks q0 q1 q4 B5 hbox5 hnd hfw hbk hkl
  show RW P 53 _ _ ρ5 w5
  obtain ⟨sv, c1, c2⟩ := hbox5
  rw [List.length_map] at c2
  have keyOf : ∀ k ∈ ks, ∃ t ∈ tags, t.1 = k := fun k hk => by
    obtain ⟨x, x1, x2⟩ := hbk k hk
    obtain ⟨t, t1, t2⟩ := hback x x1
    refine ⟨t, t1, ?_⟩
    rw [t2] at x2
    simp only [u32V, Value.int.injEq, true_and] at x2; omega
  have hks0 : 0 < ks.length := by
    obtain ⟨t, ht⟩ : ∃ t, tags[0]? = some t := ⟨_, List.getElem?_eq_getElem hne0⟩
    obtain ⟨_, e', e1, e2, _⟩ := hval t (List.mem_of_getElem? ht)
    obtain ⟨k, k1, _⟩ := hfw e' e1
    exact List.length_pos_of_mem k1
  rcases c2.2 with ⟨_, h0⟩ | ⟨g, cap, cur, rfl, hgB, hgh, hncap, hcapm, hcs, htk⟩
  · omega
  have hgkb : g ≠ w1.heap.size := own_ne c2 c1 te.ne g rfl
  have hg5 : g < w5.heap.size := (Array.getElem?_eq_some_iff.1 hgh).1
  have hrow5 : w5.rangeAt g 0 (ks.map u32V) := by
    intro j v hj
    rw [← htk, List.getElem?_take] at hj
    split at hj
    · exact rangeAt_heap hgh j v hj
    · simp at hj
  have hsc := hso.2 w5 w1.heap.size g ks.length cap cur ks c1 hgh rfl (by omega) (fun k hk => by obtain ⟨t, t1, rfl⟩ := keyOf k hk; exact (hval t t1).1) hrow5 (cells_there hgh (by omega)) hgkb hg5
  refine RW.sq (RW.rg (RL.step (MR.ld (p := ⟨w1.heap.size, 0, none⟩) q4 te.pk (box_cell c1)) (RL.step (MR.mki (w' := w5) (v := .iface K.tKs (.slice (some ⟨g, 0, none⟩) ks.length cap)) (by
    show (Instr.makeInterface K.tKs (.slice (some ⟨g, 0, none⟩) ks.length cap)).run P w5 = _
    simp only [Instr.makeInterface, Sem.run_bind, run_underlying (sliceOf_eq te.ks), Result.andThen_ok, Sem.run_pure])) (RL.step MR.mf ?_))))
  refine RL.ca (R := fun _ w' => ∃ ks' : List Nat, ks'.Perm ks ∧ ks'.Pairwise (fun x y => x ≤ y) ∧ w'.rangeAt g 0 (ks'.map u32V) ∧ (∃ cur', w'.heap[g]? = some (.cells cur' K.tU32 (0, 0))) ∧ Fr (fun _ => False) g 0 ks.length w5 w') hso.1 ?_ ?_
  · show Calls P K.fSort #[.iface K.tKs (.slice (some ⟨g, 0, none⟩) ks.length cap), .func (.func K.fLess) #[] #[ρ5 4]] w5 _
    rw [q4]
    refine Calls.mono hsc ?_
    rintro e' w' ⟨rfl, h⟩
    exact ⟨_, rfl, h⟩
  rintro v w6 ⟨ks', p1, p2, p3, ⟨cur', p4⟩, F6⟩
  have B6 : Below w.heap.size w w6 := B5.trans (F6.below hgB (fun _ h => h.elim) B5.size)
  have hks' : ks' = tags.map (·.1) := by
    have hnd' : ks'.Nodup := p1.nodup_iff.2 hnd
    refine sorted_eq ((p2.and hnd').imp fun h => by omega) (List.pairwise_map.2 hsort) fun k => ?_
    rw [p1.mem_iff, List.mem_map]
    constructor
    · intro hk; obtain ⟨t, t1, t2⟩ := keyOf k hk; exact ⟨t, t1, t2⟩
    · rintro ⟨t, t1, rfl⟩
      obtain ⟨_, e', e1, e2, _⟩ := hval t t1
      obtain ⟨k, k1, k2⟩ := hfw e' e1
      rw [e2] at k2
      simp only [u32V, Value.int.injEq, true_and] at k2
      have : k = t.1 := by omega
      rw [← this]; exact k1
  have hlen : ks.length = tags.length := by rw [← p1.length_eq, hks', List.length_map]
  have c16 : w6.heap[w1.heap.size]? = some (.cells #[.slice (some ⟨g, 0, none⟩) ks.length cap] K.tKs (0, 0)) := by
    rw [F6.block _ (Array.getElem?_eq_some_iff.1 c1).1 (fun e => hgkb e.symm) (fun x => x)]; exact c1
  refine RL.nil (RW.sq (RW.rg (RL.step (MR.ld (p := ⟨w1.heap.size, 0, none⟩) q4 te.pk (box_cell c16)) (RL.step (MR.ln te.ks rfl) (RL.step MR.mv (RL.nil ?_))))))
  show RW P 53 _ _ _ w6
  refine each_tail (B := B) (db := db) (r := r) (clock := clock) (g := g) (c := cap) (p := p) (es := es) (bs := bs) (tags := tags) (w0 := w) te hneU hcb hB hBd hp (B6.mono hB) hpB hrB hc hmap hst hkeys hsm hval (hbox.keep B6) hlim ?_ ?_ ?_ ?_ q0 q1 (by show Value.slice _ ks.length _ = _; rw [hlen]) (by show Value.int .i64 (ks.length : Nat) = _; rw [hlen]) rfl ?_
  · rw [hks', List.map_map] at p3; exact p3
  · obtain ⟨sv0, d1, d2⟩ := hbox
    have := (Array.getElem?_eq_some_iff.1 d1).1
    omega
  · intro cur0 hcur
    rw [p4] at hcur
    simp only [Option.some.injEq, Obj.cells.injEq] at hcur
    exact hneU hcur.2.1
  · exact (Array.getElem?_eq_some_iff.1 p4).1
  · intro ρ7 w7 hb7 B7
    exact ⟨⟨_, rfl⟩, hb7, B7⟩

theorem teach_ok {f fEach : Nat} {K' : TN} (tk : TOK P T) (te : TgE P K T) (hne : T.u8 ≠ T.u8s) (hneU : K.tU32 ≠ T.u8) (hpl : plainTy P T.u8s = true) (hcb : CbC P T K.fCb) (hso : SortC P K.tKs K.tU32 K.fSort K.fLess) (hfe : FnIs0 P K'.fEach (cEachF K) 53) (hK : K'.fCb = K.fCb) (hf : FnIs P f (cTeach K' T) 9 4) : TeachC P T.u8 f smallT := by
  refine ⟨hf.ent, ?_⟩
  rintro w B p m sv tags bs hB hpB ho hm hsm hc hlim
  refine hf.runs (args := [.pointer (some p), sv]) (by simp) (by omega) ?_
  refine RW.sq (RW.rg (RL.step MR.bx (RL.step MR.mv (RL.nil (RW.sq (RW.rg (RL.step MR.mv (RL.step MR.mf ?_))))))))
  have hcells : sv.cells = #[sv] := by rcases ho.2 with ⟨rfl, _⟩ | ⟨g, cap, cur, rfl, _⟩ <;> rfl
  have e1 : (args0 [.pointer (some p), sv] 1).cells = #[sv] := hcells
  have hb := below_box w (.cells #[sv] T.u8s)
  have hheap : (w.alloc (.cells #[sv] T.u8s)).heap[w.heap.size]? = some (.cells #[sv] T.u8s (0, 0)) := heap_alloc_new w _
  have hm' : RepT (w.alloc (.cells #[sv] T.u8s)) (· < B) m tags := hm.mono (fun _ h => h) (fun b hbb => hb.block b (by omega))
  have hc' := hb.kp _ _ hc
  show RL P 9 _ _ _ (w.alloc (.cells (args0 [.pointer (some p), sv] 1).cells T.u8s))
  rw [e1]
  have ho' : OwnB T.u8 (w.alloc (.cells #[sv] T.u8s)) B sv bs := ho.alloc _
  refine RL.ca (R := fun v w' => BoxR T.u8 T.u8s w' B w.heap.size ((bs ++ tags.flatMap encTag).map byteV) ∧ Below B (w.alloc (.cells #[sv] T.u8s)) w') hfe.ent ?_ ?_
  · show Calls P K'.fEach #[.pointer (some p), .func (.func K'.fCb) #[] #[.pointer (some ⟨w.heap.size, 0, none⟩)]] _ _
    rw [hK]
    refine Calls.mono (each_ok te hneU hcb hso hfe _ B w.heap.size p m bs tags (Nat.le_trans hB hb.size) hpB hB hm' hsm hc' ⟨sv, hheap, by rw [List.length_map]; exact ho'⟩ hlim) ?_
    rintro e w' ⟨⟨v, rfl⟩, h⟩
    exact ⟨v, rfl, h⟩
  rintro v w' ⟨⟨sv', g1, g2⟩, g3⟩
  rw [List.length_map] at g2
  refine RL.nil (RW.sq (RW.rg (RL.step (MR.ld (p := ⟨w.heap.size, 0, none⟩) rfl hpl (box_cell g1)) ?_)))
  repeat first | refine RL.step MR.mv ?_ | refine RL.step (MR.biE rfl) ?_ | refine RL.step (MR.b2 rfl) ?_
  exact RL.nil (RW.rt ⟨sv', rfl, g2, ((Below.refl B w).alloc hB _).trans g3⟩)
end
end Go.Kx
namespace Go.Kx
open Go.RowKit
set_option linter.unusedSimpArgs false
set_option linter.unusedVariables false

def ifaceTy (P : Program) (T : Nat) : Bool := match P.underlying T with
  | some (.interface _) => true
  | _ => false
theorem ifaceTy_eq {P : Program} {T : Nat} (h : ifaceTy P T = true) : ∃ ms, P.underlying T = some (.interface ms) := by
  unfold ifaceTy at h
  cases hu : P.underlying T with
  | none => simp [hu] at h
  | some d => cases d <;> simp_all

def errB : Value → Bool
  | .nilIface => false
  | _ => true
/-- An error's value: not nil. -/
def isErr (v : Value) : Prop := ∃ t x, v = .iface t x

theorem TeachC.sub {P : Program} {U f : Nat} {S S' : List (Nat × List UInt8) → Prop} (h : TeachC P U f S) (hs : ∀ t, S' t → S t) : TeachC P U f S' :=
  ⟨h.1, fun w B p m sv tags bs h1 h2 h3 h4 h5 h6 h7 => h.2 w B p m sv tags bs h1 h2 h3 h4 (hs _ h5) h6 h7⟩

theorem okTags.small {ts : List (Nat × List UInt8)} (h : okTags ts) : smallT ts := ⟨h.2.1, fun t ht => (h.2.2 t ht).2⟩

section
variable {P : Program} {N : Nat} {Q : Exit → (Nat → Value) → World → Prop} {ρ : Nat → Value} {w w' : World} {ms : List MOp} {d : Nat} {T : IT} {K : KB} {g : TN}

theorem aok_tags (kk : KOK P K) (hl : TlenC P g.fLen) (ht : TeachC P K.T.u8 g.fTeach smallT) : AOK P (K.ia g) okTags where
  small := fun tags h => h.small
  prim := aok_prim kk
  alen := kk.alen
  calen := kk.calen
  nalen := kk.nalen
  cnalen := kk.cnalen
  tlen := fun _ => hl
  teach := fun _ => ht.sub fun t h => h.small
  uvar := kk.uv

theorem MR.neqNilI {ty x : Nat} {v : Value} (hs : ifaceTy P ty = true) (hx : ρ x = v) (hv : v = Value.nilIface ∨ isErr v) (hxN : x < N := by decide) : MR P N (.bi d .neq ty (.t x) (.c .niface)) ρ w d (.bool (errB v)) w := by
  obtain ⟨mts, hu⟩ := ifaceTy_eq hs
  intro a o hl hf
  generalize hop : o.op = op' at hf
  unfold execOp
  cases op' <;> simp only [fitOp, Bool.and_eq_true, Bool.false_eq_true, Nat.beq_eq] at hf
  rename_i bop ty' ox oy kq
  obtain ⟨⟨⟨⟨⟨h1, h2⟩, h3⟩, h4⟩, h5⟩, _⟩ := hf
  have h2' := sameOp_eq h2
  subst h2' h3
  cases oy <;> simp only [MX.is, Bool.false_eq_true] at h5
  rename_i c
  have hc : c = Value.nilIface := by cases c <;> simp_all [MVal.is]
  subst hc
  have e1 := MX.evalL hl (ltT hxN) h4
  have e2 : a.eval (Operand.const Value.nilIface) = Value.nilIface := rfl
  have hD : Op.maxDepth = 9999 + 1 := rfl
  refine ⟨dstIs_eq h1, ?_⟩
  have hg : ∀ u : Value, (u = Value.nilIface ∨ isErr u) → (eqGuard .neq ty ox (Operand.const Value.nilIface) u Value.nilIface).run P w = .ok () w := by
    rintro u (rfl | ⟨t, y, rfl⟩)
    · unfold eqGuard; cases ox <;> rfl
    · unfold eqGuard; cases ox <;> rfl
  have hq : ∀ u : Value, (u = Value.nilIface ∨ isErr u) → ∀ d : Nat, (Op.equalIn (d + 1) ty u Value.nilIface).run P w = .ok (!errB u) w := by
    rintro u (rfl | ⟨t, y, rfl⟩) d
    · simp [Op.equalIn, run_underlying hu, errB]
    · simp [Op.equalIn, run_underlying hu, errB]
  have hb : (binOp .neq ty v Value.nilIface).run P w = .ok (.bool (errB v)) w := by
    rcases hv with rfl | ⟨t, y, rfl⟩
    · simp only [binOp]
      simp [Op.equal, Op.maxDepth, hq _ (.inl rfl) 9999]
    · simp only [binOp]
      simp [Op.equal, Op.maxDepth, hq _ (.inr ⟨t, y, rfl⟩) 9999]
  simp only [hop, e1, e2, xof, hx, Sem.run_bind, hg v hv, hb, Result.andThen_ok, Sem.run_pure]

theorem set_of2 {f tm b : Nat} {v0 : Value} {v : Int} {rest : List Value} (h16 : cellsB P T.i16 1 = true) (hf : FnIs0 P f (cSet T tm) 8) (hF : fieldAtB P tm 0 0 = true) (hr : w.rangeAt b 0 (v0 :: rest)) (ht : w.there b 0 (v0 :: rest).length) :
    Calls P f #[.pointer (some ⟨b, 0, none⟩), .int .i16 v] w (fun e w' => e = .returned (.tuple #[]) ∧ w'.rangeAt b 0 (.int .i16 v :: rest) ∧ Below b w w' ∧ w'.heap.size = w.heap.size ∧ w'.there b 0 (v0 :: rest).length) := by
  refine hf.runs (args := [.pointer (some ⟨b, 0, none⟩), .int .i16 v]) (by simp) ?_
  have tsub := there_sub (k := 0) (m := 1) ht (by simp)
  refine RW.rg (RL.step MR.mv (RL.step MR.mv (RL.step (MR.nc rfl) (RL.step (MR.fa rfl hF) (RL.st1 (v := .int .i16 v) rfl rfl rfl h16 tsub (RL.nil ?_))))))
  exact ⟨rfl, range_put0 hr tsub, below_setCells (Nat.le_refl _) _ _ (Below.refl _ _), size_setCells _ _ _ _, World.there_setCells ht _ _ _⟩

def cReadFrom (fRF : Nat) : MCode := .sq (.rg [.mv 4 (.c .niface)]) (.sq (.rg [.mv 5 (.t 0), .mv 6 (.t 1), .ca 7 fRF [.t 5, .t 6, .c (.bool false)], .mv 4 (.t 7)]) .rt)
def cAgain (T : IT) (tErr fPtr fSet fRd fAp : Nat) : MCode :=
  .sq (.rg [.mv 4 (.c .nslice), .mv 5 (.c (.bool false))]) (.sq (.rg [.ca 7 fPtr [], .mv 6 (.t 7)]) (.sq (.rg [.mv 8 (.t 6), .mv 9 (.t 0), .cv 10 T.int T.i16 9, .ca 11 fSet [.t 8, .t 10]])
    (.sq (.sq (.rg [.mv 12 (.t 6), .mv 13 (.t 1), .apk 14 T.u8s T.u8s 13, .ca 15 fRd [.t 12, .t 14], .bi 16 .neq tErr (.t 15) (.c .niface)]) (.cd 16 (.sq (.rg [.mv 4 (.c .nslice), .mv 5 (.c (.bool false))]) .rt) .sk))
      (.sq (.rg [.mv 17 (.t 6), .ca 18 fAp [.t 17, .c .nslice], .mv 4 (.t 18), .mv 5 (.c (.bool true))]) .rt))))

/-- What AgainX does. -/
def AgainC (P : Program) (U f gE most : Nat) (p : Plan) : Prop := entersB P f = true ∧ ∀ (w : World) (v : Nat) (ad : Option Addr) (l : List UInt8) (c : Nat) (ev : Value), v ≤ most → BytesAt w (fun _ => True) ad l → l.length ≤ 274877906944 → w.cell? ⟨gE, 0, none⟩ = some ev → isErr ev →
  (∀ ds ts r, decTop p (v : Nat) l = some ((ds, ts), r) → SmF okTags p.fs ds ∧ okTags ts ∧ (encTop p (v : Nat) ds ts).length ≤ 274877906944) →
  Calls P f #[.int .i64 (v : Nat), .slice ad l.length c] w (fun e w' => Below w.heap.size w w' ∧
    ((∃ ds ts r sv, decTop p (v : Nat) l = some ((ds, ts), r) ∧ e = .returned (.tuple #[sv, .bool true]) ∧ OwnB U w' w.heap.size sv (encTop p (v : Nat) ds ts)) ∨ (decTop p (v : Nat) l = none ∧ e = .returned (.tuple #[.slice none 0 0, .bool false]))))

theorem again_ok {f fPtr fSet fRd fRF fAp gE tErr most : Nat} {p : Plan} {L NA : Nat} {rest : List MVal} (kk : KOK P K) (ok : AOK P (K.ia g) okTags) (h16 : K.T.i16 ≠ 0) (c16 : cellsB P K.T.i16 1 = true) (hte : ifaceTy P tErr = true) (hm : most < 32768)
    (hf : FnIs2 P f (cAgain K.T tErr fPtr fSet fRd fAp) 19 4 5) (hp : PtrC P fPtr (.int .i16 0 :: rest.map MVal.val)) (hs : FnIs0 P fSet (cSet K.T p.T) 8) (hF : fieldAtB P p.T 0 0 = true) (hrd : FnIs P fRd (cReadFrom fRF) 8 4) (hrf : RFC P fRF p gE rest)
    (ha : FnIs P fAp (topA (K.ia g) p L) NA 4) (hok : okTop P (K.ia g) p L NA = true) : AgainC P K.T.u8 f gE most p := by
  refine ⟨hf.ent, fun w v ad l c ev hv hby hl hev herr hdec => ?_⟩
  have tk := kk.tk
  have hgw := World.block_lt_of_cell? w _ hev
  simp only at hgw
  refine hf.runs (args := [.int .i64 (v : Nat), .slice ad l.length c]) (by simp) (by omega) (by omega) ?_
  refine RW.sq (RW.rg (RL.step MR.mv (RL.step MR.mv (RL.nil (RW.sq (RW.rg (RL.ca (R := fun u w' => ∃ b, u = .pointer (some ⟨b, 0, none⟩) ∧ w.heap.size ≤ b ∧ b < w'.heap.size ∧ w'.rangeAt b 0 (.int .i16 0 :: rest.map MVal.val) ∧ w'.there b 0 (Value.int .i16 0 :: rest.map MVal.val).length ∧ Below w.heap.size w w') hp.1 ?_ ?_)))))))
  · refine Calls.mono (hp.2 w) ?_
    rintro e w' ⟨b, rfl, h⟩
    exact ⟨_, rfl, b, rfl, h⟩
  rintro u w1 ⟨b, rfl, hb0, hb1, hr1, ht1, bw1⟩
  refine RL.step MR.mv (RL.nil (RW.sq (RW.rg (RL.step (MR.mv (v := .pointer (some ⟨b, 0, none⟩)) rfl) (RL.step (MR.mv (v := .int .i64 (v : Nat)) rfl) (RL.step (MR.cvI rfl tk.int (tk.i16 h16)) ?_))))))
  have hv16 : IntKind.i16.wrap (v : Int) = (v : Nat) := wrap_i16 (by omega) (by omega)
  refine RL.ca (R := fun u w' => w'.rangeAt b 0 (.int .i16 (v : Nat) :: rest.map MVal.val) ∧ Below b w1 w' ∧ w'.heap.size = w1.heap.size ∧ w'.there b 0 (rest.length + 1)) hs.ent ?_ ?_
  · have hset := set_of2 (T := K.T) (v := IntKind.i16.wrap (v : Int)) c16 hs hF hr1 ht1
    refine Calls.mono hset ?_
    rintro e w' ⟨rfl, h1, h2, h3, h4⟩
    exact ⟨_, rfl, by rw [hv16] at h1; exact h1, h2, h3, by simpa using h4⟩
  rintro u w2 ⟨hr2, b2, s2, ht2⟩
  have bw2 : Below w.heap.size w w2 := bw1.trans (b2.mono hb0)
  -- the octets are copied
  have hby2 : BytesAt w2 (fun _ => True) ad l := hby.kp bw2.kp
  obtain ⟨sv, w3, a1, a2, a3, a4⟩ := run_apOwn (P := P) (w := w2) (T := K.T.u8s) (U := K.T.u8) (c := c) (B := w2.heap.size) tk.u8s tk.u8 (OwnB.nil _ _ _) rfl hby2 (Nat.le_refl _) (by simp only [List.length_nil]; have e : lim = 1099511627776 := rfl; omega)
  rw [List.nil_append] at a2
  have hbw2 : b < w2.heap.size := by omega
  obtain ⟨ad3, c3, hsv, had3, hlc3, hb3⟩ := a2.bytes
  subst hsv
  -- the block of the copy
  obtain ⟨sb, hsb, hsbb, hbs⟩ : ∃ sb, sb < w3.heap.size ∧ sb ≠ b ∧ BytesAt w3 (· = sb) ad3 l := by
    cases l with
    | nil => exact ⟨gE, by have := bw2.size; have := a3.size; omega, by omega, fun j y hj => by simp at hj⟩
    | cons y l =>
      obtain ⟨g0, o0, e1, _, e3⟩ := hb3 0 y rfl
      refine ⟨g0, World.block_lt_of_cell? w3 _ e3, ?_, fun j z hj => ?_⟩
      · have := (World.ownsRow.lt a2 g0 (by rw [e1]; rfl)).1
        omega
      · obtain ⟨g1, o1, f1, _, f3⟩ := hb3 j z hj
        rw [e1] at f1
        simp only [Option.some.injEq, Addr.mk.injEq, and_true] at f1
        exact ⟨g1, o1, by rw [e1, ← f1.1, ← f1.2], f1.1.symm, f3⟩
  have hr3 : w3.rangeAt b 0 (.int .i16 (v : Nat) :: rest.map MVal.val) := range_keep hr2 (a3.block b hbw2)
  have ht3 : w3.there b 0 (rest.length + 1) := there_keep ht2 (a3.block b hbw2)
  have hev3 : w3.cell? ⟨gE, 0, none⟩ = some ev := a3.kp _ _ (bw2.kp _ _ hev)
  have bw3 : Below w.heap.size w w3 := bw2.trans (a3.mono bw2.size)
  refine RL.nil (RW.sq (RW.sq (RW.rg (RL.step (MR.mv (v := .pointer (some ⟨b, 0, none⟩)) rfl) (RL.step (MR.mv (v := .slice ad l.length c) rfl) (RL.step (MR.apk (w' := w3) a1) ?_))))))
  refine RL.ca (R := fun ee w' => Fr (fun _ => False) b 0 (rest.length + 1) w3 w' ∧
    ((∃ ds tags r cs, decTop p (v : Nat) l = some ((ds, tags), r) ∧ ee = MVal.niface.val ∧ MsgAt w' (fun k => k = b ∨ k = sb ∨ (w3.heap.size ≤ k ∧ k < w'.heap.size)) p ⟨b, 0, none⟩ (v : Nat) ds tags cs) ∨ (decTop p (v : Nat) l = none ∧ ee = ev))) hrd.ent ?_ ?_
  · show Calls P fRd #[.pointer (some ⟨b, 0, none⟩), .slice ad3 l.length c3] w3 _
    refine hrd.runs (args := [.pointer (some ⟨b, 0, none⟩), .slice ad3 l.length c3]) (by simp) (by omega) ?_
    refine RW.sq (RW.rg (RL.step MR.mv (RL.nil (RW.sq (RW.rg (RL.step (MR.mv (v := .pointer (some ⟨b, 0, none⟩)) rfl) (RL.step (MR.mv (v := .slice ad3 l.length c3) rfl) ?_)))))))
    refine RL.ca (R := fun ee w' => Fr (fun _ => False) b 0 (rest.length + 1) w3 w' ∧
      ((∃ ds tags r cs, decTop p (v : Nat) l = some ((ds, tags), r) ∧ ee = MVal.niface.val ∧ MsgAt w' (fun k => k = b ∨ k = sb ∨ (w3.heap.size ≤ k ∧ k < w'.heap.size)) p ⟨b, 0, none⟩ (v : Nat) ds tags cs) ∨ (decTop p (v : Nat) l = none ∧ ee = ev))) hrf.1 ?_ ?_
    · show Calls P fRF #[.pointer (some ⟨b, 0, none⟩), .slice ad3 l.length c3, .bool false] w3 _
      refine Calls.mono (hrf.2 w3 b sb ad3 l c3 (v : Nat) ev hr3 ht3 hbs had3 hlc3 hsb hsbb hev3 (by omega)) ?_
      rintro e w' ⟨hF', ⟨ds, tags, r, cs, h1, rfl, h2⟩ | ⟨h1, rfl⟩⟩
      · exact ⟨_, rfl, hF', .inl ⟨ds, tags, r, cs, h1, rfl, h2⟩⟩
      · exact ⟨_, rfl, hF', .inr ⟨h1, rfl⟩⟩
    rintro ee w' ⟨hF', h⟩
    refine RL.step MR.mv (RL.nil (RW.rt ?_))
    exact ⟨ee, rfl, hF', h⟩
  rintro ee w4 ⟨F4, h4⟩
  have b4 : Below w.heap.size w w4 := bw3.trans (F4.below hb0 (fun _ h => h.elim) bw3.size)
  rcases h4 with ⟨ds, tags, r, cs, k1, rfl, k2⟩ | ⟨k1, rfl⟩
  · refine RL.step (MR.neqNilI (v := Value.nilIface) hte rfl (.inl rfl)) (RL.nil (RW.cd (b := false) rfl (fun e => by cases e) (fun _ => RW.sk ?_)))
    obtain ⟨x1, x2, x3⟩ := hdec ds tags r k1
    obtain ⟨fn, cc, e1, e2, e3, e4, e5⟩ := ha.ex
    have hs4 := F4.size
    have hs3 := a3.size
    have hcall := topA_calls ok e1 e2 e3 e5 e4 hok (w := w4) (B := w4.heap.size) (a := ⟨b, 0, none⟩) (ver := (v : Nat)) (ds := ds) (tags := tags) (cs := cs) (sv := .slice none 0 0) (bs := []) (Nat.le_refl _)
      (k2.mono (fun k hk => by rcases hk with rfl | rfl | hk <;> omega) (fun _ _ => rfl)) x1 x2 (OwnB.nil _ _ _) (by have e : lim = 1099511627776 := rfl; simp only [List.length_nil]; omega)
    refine RW.sq (RW.rg (RL.step (MR.mv (v := .pointer (some ⟨b, 0, none⟩)) rfl) ?_))
    refine RL.ca (R := fun sv w' => OwnB K.T.u8 w' w4.heap.size sv (encTop p (v : Nat) ds tags) ∧ Below w4.heap.size w4 w') ha.ent ?_ ?_
    · refine Calls.mono hcall ?_
      rintro e w' ⟨sv', rfl, h1, h2⟩
      exact ⟨_, rfl, by simpa [KB.ia] using h1, h2⟩
    rintro sv w5 ⟨o5, b5⟩
    refine RL.step MR.mv (RL.step MR.mv (RL.nil (RW.rt ?_)))
    exact ⟨b4.trans (b5.mono b4.size), .inl ⟨ds, tags, r, sv, k1, rfl, o5.rebase b4.size⟩⟩
  · have hee : errB ee = true := by obtain ⟨t, x, rfl⟩ := herr; rfl
    refine RL.step (MR.neqNilI (v := ee) hte rfl (.inr herr)) (RL.nil (RW.cd (b := true) (by show Value.bool (errB ee) = _; rw [hee]) (fun _ => ?_) (fun e => by cases e)))
    refine RW.sq (RW.rg (RL.step MR.mv (RL.step MR.mv (RL.nil (RW.rt ?_)))))
    exact ⟨b4, .inr ⟨k1, rfl⟩⟩
end
end Go.Kx
namespace Go.Kx
open Go.RowKit
set_option linter.unusedSimpArgs false
set_option linter.unusedVariables false

def cIdx (tS tI : Nat) : MCode :=
  .sq (.rg [.mv 4 (.c (.int .i64 0))])
  (.sq (.sq (.rg [.mv 5 (.c (.int .i64 0))])
    (.bl 0 (.lp (.sq (.sq (.rg [.mv 6 (.t 5), .mv 7 (.t 1), .ln 8 tS 7, .bi 9 .add tI (.t 6) (.t 8), .mv 10 (.t 0), .ln 11 tS 10, .bi 12 .leq tI (.t 9) (.t 11)])
      (.cd 12 .sk (.ex 0)))
      (.sq (.bl 1 (.sq (.rg [.mv 15 (.t 0), .mv 16 (.t 5), .mv 17 (.t 5), .mv 18 (.t 1), .ln 19 tS 18, .bi 20 .add tI (.t 17) (.t 19), .sl 21 tS 15 (some (.t 16)) (some (.t 20)) none, .mv 22 (.t 1), .bi 23 .eql tS (.t 21) (.t 22)])
        (.cd 23 (.sq (.rg [.mv 24 (.t 5), .mv 4 (.t 24)]) .rt) .sk)))
        (.rg [.mv 13 (.t 5), .bi 14 .add tI (.t 13) (.c (.int .i64 1)), .mv 5 (.t 14)]))))))
  (.sq (.rg [.mv 4 (.c (.int .i64 (-1)))]) .rt))

section
variable {P : Program} {N : Nat} {Q : Exit → (Nat → Value) → World → Prop} {ρ : Nat → Value} {w w' : World} {ms : List MOp} {d : Nat}

/-- Texts compared. -/
theorem eqT (a b : ByteArray) : (a.toList == b.toList) = decide (a.data.toList = b.data.toList) := by
  rw [Lib.toList_data, Lib.toList_data]
  by_cases h : a.data.toList = b.data.toList
  · rw [decide_eq_true h, h]; simp
  · rw [decide_eq_false h]; exact beq_eq_false_iff_ne.2 h
theorem MR.eqSS {ty : Nat} {x y : Nat} {a b : ByteArray} (hx : ρ x = .string a) (hy : ρ y = .string b) (hxN : x < N := by decide) (hyN : y < N := by decide) : MR P N (.bi d .eql ty (.t x) (.t y)) ρ w d (.bool (decide (a.data.toList = b.data.toList))) w := by
  refine MR.bi (fun ox oy => ?_) ?_ (ltT hxN) (ltT hyN)
  · simp only [xof, hx, hy]; unfold eqGuard; rfl
  · simp only [xof, hx, hy]; rw [← eqT]; simp [binOp, Op.stringOp]
theorem MR.neSS {ty : Nat} {x y : Nat} {a b : ByteArray} (hx : ρ x = .string a) (hy : ρ y = .string b) (hxN : x < N := by decide) (hyN : y < N := by decide) : MR P N (.bi d .neq ty (.t x) (.t y)) ρ w d (.bool (!decide (a.data.toList = b.data.toList))) w := by
  refine MR.bi (fun ox oy => ?_) ?_ (ltT hxN) (ltT hyN)
  · simp only [xof, hx, hy]; unfold eqGuard; rfl
  · simp only [xof, hx, hy]; rw [← eqT]; simp [binOp, Op.stringOp, bne]
theorem MR.eqSC {ty : Nat} {x : Nat} {a : ByteArray} {l : List Nat} (hx : ρ x = .string a) (hxN : x < N := by decide) : MR P N (.bi d .eql ty (.t x) (.c (.str l))) ρ w d (.bool (decide (a.data.toList = l.map UInt8.ofNat))) w := by
  have e : (⟨(l.map UInt8.ofNat).toArray⟩ : ByteArray).data.toList = l.map UInt8.ofNat := by simp
  refine MR.bi (fun ox oy => ?_) ?_ (ltT hxN) rfl
  · simp only [xof, hx, MVal.val]; unfold eqGuard; rfl
  · simp only [xof, hx, MVal.val]
    have h2 := eqT a ⟨(l.map UInt8.ofNat).toArray⟩
    rw [e] at h2
    rw [← h2]
    show (binOp .eql ty (.string a) (.string ⟨(l.map UInt8.ofNat).toArray⟩)).run P w = _
    generalize (⟨(l.map UInt8.ofNat).toArray⟩ : ByteArray) = b
    simp [binOp, Op.stringOp]

/-- A text cut. -/
theorem run_cut {T : Nat} {s : ByteArray} {i j : Nat} (hT : strTy P T = true) (hij : i ≤ j) (hj : j ≤ s.size) :
    (Instr.sliceAt T (.string s) (some (.int .i64 (i : Nat))) (some (.int .i64 (j : Nat))) none).run P w = .ok (.string (s.extract i j)) w := by
  have := run_slice_string_if (P := P) w T s .i64 .i64 (i : Int) (j : Int) (strTy_eq hT)
  rw [if_pos ⟨by omega, by omega⟩, if_pos ⟨by omega, by omega⟩] at this
  simpa [Instr.sliceAt, run_underlying (strTy_eq hT)] using this
theorem run_cutFrom {T : Nat} {s : ByteArray} {i : Nat} (hT : strTy P T = true) (hi : i ≤ s.size) :
    (Instr.sliceAt T (.string s) (some (.int .i64 (i : Nat))) none none).run P w = .ok (.string (s.extract i s.size)) w := by
  have := run_slice_string_from_if (P := P) w T s .i64 (i : Int) (strTy_eq hT)
  rw [if_pos ⟨by omega, by omega⟩] at this
  simpa [Instr.sliceAt, run_underlying (strTy_eq hT)] using this
theorem run_cutTo {T : Nat} {s : ByteArray} {j : Nat} (hT : strTy P T = true) (hj : j ≤ s.size) :
    (Instr.sliceAt T (.string s) none (some (.int .i64 (j : Nat))) none).run P w = .ok (.string (s.extract 0 j)) w := by
  have := run_slice_string_to_if (P := P) w T s .i64 (j : Int) (strTy_eq hT)
  rw [if_pos ⟨by omega, by omega⟩] at this
  simpa [Instr.sliceAt, run_underlying (strTy_eq hT)] using this

theorem ext_list (s : ByteArray) (i j : Nat) : (s.extract i j).data.toList = (s.data.toList.drop i).take (j - i) := by
  simp [ByteArray.data_extract, Array.toList_extract, List.extract]
theorem size_list (s : ByteArray) : s.data.toList.length = s.size := Array.length_toList

/-- Where an octet stands first; -1 if nowhere. -/
def IdxC (P : Program) (f : Nat) : Prop := entersB P f = true ∧ ∀ (s : ByteArray) (c : UInt8) (w : World), s.size ≤ 1000000 → Calls P f #[.string s, .string ⟨#[c]⟩] w (fun e w' => w' = w ∧
  ((e = .returned (.int .i64 (-1)) ∧ ∀ j : Nat, s.data.toList[j]? ≠ some c) ∨ ∃ i : Nat, e = .returned (.int .i64 (i : Nat)) ∧ s.data.toList[i]? = some c ∧ ∀ j : Nat, j < i → s.data.toList[j]? ≠ some c))

theorem idx_ok {f tS tI : Nat} (hS : strTy P tS = true) (hf : FnIs P f (cIdx tS tI) 25 4) : IdxC P f := by
  refine ⟨hf.ent, fun s c w hs => ?_⟩
  refine hf.runs (args := [.string s, .string ⟨#[c]⟩]) (by simp) (by omega) ?_
  refine RW.sq (RW.rg (RL.step MR.mv (RL.nil (RW.sq (RW.sq (RW.rg (RL.step MR.mv (RL.nil (RW.bl ?_)))))))))
  refine RW.lp (fun ρ w' => w' = w ∧ ∃ i : Nat, i ≤ s.size ∧ ρ 0 = .string s ∧ ρ 1 = .string ⟨#[c]⟩ ∧ ρ 5 = .int .i64 (i : Nat) ∧ ∀ j : Nat, j < i → s.data.toList[j]? ≠ some c) (fun ρ _ => s.size - (intOf (ρ 5)).toNat)
    ⟨rfl, 0, by omega, rfl, rfl, rfl, fun j hj => absurd hj (by omega)⟩ ?_ (fun ρ ρ' w h => by rw [h 5 (by omega)])
  rintro ρ1 w1 ⟨rfl, i, hi, q0, q1, q5, hno⟩
  have hm1 : s.size - (intOf (ρ1 5)).toNat = s.size - i := by rw [q5]; simp [intOf]
  rw [hm1]
  refine RW.knows [(0, .string s), (1, .string ⟨#[c]⟩), (5, .int .i64 (i : Nat))] (by simp [q0, q1, q5]) (RW.sq (RW.sq (RW.rg ?_)))
  have hsz1 : (⟨#[c]⟩ : ByteArray).size = 1 := rfl
  have hadd : IntKind.i64.wrap ((i : Int) + ((1 : Nat) : Int)) = ((i + 1 : Nat) : Int) := by rw [wrap_i64 (by omega) (by omega)]; omega
  have hadd' : IntKind.i64.wrap ((i : Int) + 1) = ((i + 1 : Nat) : Int) := by rw [wrap_i64 (by omega) (by omega)]; omega
  refine RL.step (MR.mv (v := .int .i64 (i : Nat)) rfl) (RL.step (MR.mv (v := .string ⟨#[c]⟩) rfl) (RL.step (MR.lnS (b := ⟨#[c]⟩) hS rfl) (RL.step (MR.biE (v := .int .i64 ((i + 1 : Nat) : Int)) (by show evB .add (.int .i64 (i : Nat)) (.int .i64 ((1 : Nat) : Int)) = _; simp only [evB, if_true, hadd])) (RL.step (MR.mv (v := .string s) rfl) (RL.step (MR.lnS (b := s) hS rfl) ?_)))))
  refine RL.step (MR.biE (v := .bool (decide (((i + 1 : Nat) : Int) ≤ (s.size : Int)))) rfl) (RL.nil ?_)
  by_cases hlt : i + 1 ≤ s.size
  · refine RW.cd (b := true) (by show Value.bool _ = _; rw [decide_eq_true (by omega)]) (fun _ => RW.sk ?_) (fun e => by cases e)
    refine RW.sq (RW.bl (RW.sq (RW.rg ?_)))
    refine RL.step (MR.mv (v := .string s) rfl) (RL.step (MR.mv (v := .int .i64 (i : Nat)) rfl) (RL.step (MR.mv (v := .int .i64 (i : Nat)) rfl) (RL.step (MR.mv (v := .string ⟨#[c]⟩) rfl) (RL.step (MR.lnS (b := ⟨#[c]⟩) hS rfl) (RL.step (MR.biE (v := .int .i64 ((i + 1 : Nat) : Int)) (by show evB .add (.int .i64 (i : Nat)) (.int .i64 ((1 : Nat) : Int)) = _; simp only [evB, if_true, hadd])) (RL.step (MR.sl (v := .string (s.extract i (i + 1))) (run_cut hS (by omega) (by omega))) (RL.step (MR.mv (v := .string ⟨#[c]⟩) rfl) (RL.step (MR.eqSS (a := s.extract i (i + 1)) (b := ⟨#[c]⟩) rfl rfl) (RL.nil ?_)))))))))
    have hone : (s.extract i (i + 1)).data.toList = [s.data.toList[i]'(by rw [size_list]; omega)] := by
      rw [ext_list]
      rw [show i + 1 - i = 1 from by omega, List.drop_eq_getElem_cons (by rw [size_list]; omega)]
      rfl
    have hget : s.data.toList[i]? = some (s.data.toList[i]'(by rw [size_list]; omega)) := List.getElem?_eq_getElem _
    have hbq : decide ((s.extract i (i + 1)).data.toList = (⟨#[c]⟩ : ByteArray).data.toList) = decide (s.data.toList[i]? = some c) := by
      rw [hone, hget]
      congr 1
      simp
    by_cases hc : s.data.toList[i]? = some c
    · refine RW.cd (b := true) (by show Value.bool _ = _; rw [hbq, decide_eq_true hc]) (fun _ => RW.sq (RW.rg (RL.step (MR.mv (v := .int .i64 (i : Nat)) rfl) (RL.step (MR.mv (v := .int .i64 (i : Nat)) rfl) (RL.nil (RW.rt ⟨rfl, .inr ⟨i, rfl, hc, hno⟩⟩)))))) (fun e => by cases e)
    · refine RW.cd (b := false) (by show Value.bool _ = _; rw [hbq, decide_eq_false hc]) (fun e => by cases e) (fun _ => RW.sk ?_)
      refine RW.rg (RL.step (MR.mv (v := .int .i64 (i : Nat)) rfl) (RL.step (MR.biE (v := .int .i64 ((i + 1 : Nat) : Int)) (by show evB .add (.int .i64 (i : Nat)) (.int .i64 1) = _; simp only [evB, if_true, hadd'])) (RL.step (MR.mv (v := .int .i64 ((i + 1 : Nat) : Int)) rfl) (RL.nil ?_))))
      refine ⟨⟨rfl, i + 1, hlt, rfl, rfl, rfl, fun j hj => ?_⟩, ?_⟩
      · by_cases e : j = i
        · rw [e]; exact hc
        · exact hno j (by omega)
      · show s.size - (intOf (.int .i64 ((i + 1 : Nat) : Int))).toNat < s.size - i
        simp only [intOf]; omega
  · refine RW.cd (b := false) (by show Value.bool _ = _; rw [decide_eq_false (by omega)]) (fun e => by cases e) (fun _ => RW.ex ?_)
    show RW P 25 _ _ _ _
    refine RW.sq (RW.rg (RL.step MR.mv (RL.nil (RW.rt ⟨rfl, .inl ⟨rfl, fun j hj => ?_⟩⟩))))
    have hjl : j < s.data.toList.length := (List.getElem?_eq_some_iff.1 hj).1
    rw [size_list] at hjl
    exact hno j (by omega) hj
end
end Go.Kx
namespace Go.Kx
open Go.RowKit
set_option linter.unusedSimpArgs false
set_option linter.unusedVariables false

def cRep (tS tI tB fIdx : Nat) : MCode :=
  .sq (.rg [.mv 6 (.c .estr)]) (.sq (.rg [.mv 7 (.c .nslice)])
  (.sq (.sq (.rg [.mv 11 (.t 1), .ln 12 tS 11, .bi 13 .eql tI (.t 12) (.c (.int .i64 0))]) (.cd 13 .any .sk))
  (.bl 2 (.lp (.bl 3 (.sq (.rg [.mv 45 (.t 0), .mv 46 (.t 1), .ca 47 fIdx [.t 45, .t 46], .mv 10 (.t 47)])
    (.sq (.sq (.rg [.mv 48 (.t 10), .bi 49 .lss tI (.t 48) (.c (.int .i64 0))])
      (.cd 49 (.sq (.rg [.mv 50 (.t 7), .mv 51 (.t 0), .ap 52 tB tS 50 51, .cv 53 tB tS 52, .mv 6 (.t 53)]) .rt) .sk))
    (.sq (.rg [.mv 54 (.t 7), .mv 55 (.t 0), .mv 56 (.t 10), .sl 57 tS 55 none (some (.t 56)) none, .ap 58 tB tS 54 57, .mv 59 (.t 2), .ap 60 tB tS 58 59, .mv 7 (.t 60)])
      (.rg [.mv 61 (.t 0), .mv 62 (.t 10), .mv 63 (.t 1), .ln 64 tS 63, .bi 65 .add tI (.t 62) (.t 64), .sl 66 tS 61 (some (.t 65)) none none, .mv 0 (.t 66)])))))))))

def strLen : Value → Nat
  | .string s => s.size
  | _ => 0

def noB (c : UInt8) (l : List UInt8) : List UInt8 := l.filter (fun b => b != c)

theorem noB_none {c : UInt8} {l : List UInt8} (h : ∀ j : Nat, l[j]? ≠ some c) : noB c l = l := by
  unfold noB
  rw [List.filter_eq_self]
  intro b hb
  obtain ⟨j, hj⟩ := List.mem_iff_getElem?.1 hb
  have : b ≠ c := fun e => h j (by rw [hj, e])
  simpa using this
theorem noB_at {c : UInt8} {l : List UInt8} {i : Nat} (hi : l[i]? = some c) (h : ∀ j : Nat, j < i → l[j]? ≠ some c) : noB c l = l.take i ++ noB c (l.drop (i + 1)) := by
  have hil : i < l.length := (List.getElem?_eq_some_iff.1 hi).1
  have e : l = l.take i ++ c :: l.drop (i + 1) := by
    have h1 : l.drop i = c :: l.drop (i + 1) := by
      rw [List.drop_eq_getElem_cons hil]
      congr 1
      have := List.getElem?_eq_getElem hil
      rw [this] at hi
      exact Option.some.inj hi
    rw [← h1, List.take_append_drop]
  have ht : noB c (l.take i) = l.take i := noB_none fun j hj => by
    rw [List.getElem?_take] at hj
    split at hj
    · rename_i hlt; exact h j hlt hj
    · cases hj
  have : noB c (l.take i ++ c :: l.drop (i + 1)) = l.take i ++ noB c (l.drop (i + 1)) := by
    have h2 : noB c (l.take i ++ c :: l.drop (i + 1)) = noB c (l.take i) ++ noB c (c :: l.drop (i + 1)) := by unfold noB; rw [List.filter_append]
    rw [h2, ht]
    unfold noB
    simp
  rw [← e] at this
  exact this

def RepC (P : Program) (f : Nat) : Prop := entersB P f = true ∧ ∀ (s : ByteArray) (c : UInt8) (w : World), s.size ≤ 1000000 →
  Calls P f #[.string s, .string ⟨#[c]⟩, .string ⟨#[]⟩] w (fun e w' => e = .returned (.string ⟨(noB c s.data.toList).toArray⟩) ∧ Below w.heap.size w w')

section
variable {P : Program} {N : Nat} {Q : Exit → (Nat → Value) → World → Prop} {ρ : Nat → Value} {w w' : World} {ms : List MOp} {d : Nat}

theorem rep_ok {f fIdx tS tI tB tU : Nat} (hS : strTy P tS = true) (hB : sliceOf P tB tU = true) (hU : u8Ty P tU = true) (hU8 : intTy P tU .u8 = true) (hi : IdxC P fIdx) (hf : FnIs P f (cRep tS tI tB fIdx) 67 6) : RepC P f := by
  refine ⟨hf.ent, fun s c w hs => ?_⟩
  refine hf.runs (args := [.string s, .string ⟨#[c]⟩, .string ⟨#[]⟩]) (by simp) (by omega) ?_
  have elim : lim = 1099511627776 := rfl
  refine RW.sq (RW.rg (RL.step MR.mv (RL.nil (RW.sq (RW.rg (RL.step MR.mv (RL.nil (RW.sq (RW.sq (RW.rg (RL.step (MR.mv (v := .string ⟨#[c]⟩) rfl) (RL.step (MR.lnS (b := ⟨#[c]⟩) hS rfl) (RL.step (MR.biE (v := .bool false) rfl) (RL.nil ?_))))))))))))))
  refine RW.cd (b := false) rfl (fun e => by cases e) (fun _ => RW.sk (RW.bl ?_))
  refine RW.lp (fun ρ w' => ∃ (r : ByteArray) (sv : Value) (bs : List UInt8), ρ 0 = .string r ∧ ρ 1 = .string ⟨#[c]⟩ ∧ ρ 2 = .string ⟨#[]⟩ ∧ ρ 7 = sv ∧ OwnB tU w' w.heap.size sv bs ∧ Below w.heap.size w w' ∧ bs ++ noB c r.data.toList = noB c s.data.toList ∧ bs.length + r.size ≤ s.size)
    (fun ρ _ => strLen (ρ 0)) ⟨s, .slice none 0 0, [], rfl, rfl, rfl, rfl, OwnB.nil _ _ _, Below.refl _ _, rfl, by simp⟩ ?_ (fun ρ ρ' w h => by rw [h 0 (by omega)])
  rintro ρ1 w1 ⟨r, sv, bs, q0, q1, q2, q7, ho, hbw, hfil, hsz⟩
  have hm1 : strLen (ρ1 0) = r.size := by rw [q0]; rfl
  rw [hm1]
  refine RW.knows [(0, .string r), (1, .string ⟨#[c]⟩), (2, .string ⟨#[]⟩), (7, sv)] (by simp [q0, q1, q2, q7]) (RW.bl (RW.sq (RW.rg ?_)))
  have hrl := size_list r
  refine RL.step (MR.mv (v := .string r) rfl) (RL.step (MR.mv (v := .string ⟨#[c]⟩) rfl) ?_)
  refine RL.ca (R := fun v w' => w' = w1 ∧ ((v = .int .i64 (-1) ∧ ∀ j : Nat, r.data.toList[j]? ≠ some c) ∨ ∃ i : Nat, v = .int .i64 (i : Nat) ∧ r.data.toList[i]? = some c ∧ ∀ j : Nat, j < i → r.data.toList[j]? ≠ some c)) hi.1 ?_ ?_
  · refine Calls.mono (hi.2 r c w1 (by omega)) ?_
    rintro e w' ⟨rfl, h⟩
    rcases h with ⟨rfl, h⟩ | ⟨i, rfl, h1, h2⟩
    · exact ⟨_, rfl, rfl, .inl ⟨rfl, h⟩⟩
    · exact ⟨_, rfl, rfl, .inr ⟨i, rfl, h1, h2⟩⟩
  rintro v w2 ⟨rfl, hv⟩
  rcases hv with ⟨rfl, hno⟩ | ⟨i, rfl, hat, hbef⟩
  · -- nowhere
    refine RL.step MR.mv (RL.nil (RW.sq (RW.sq (RW.rg (RL.step MR.mv (RL.step (MR.biE (v := .bool true) rfl) (RL.nil ?_)))))))
    refine RW.cd (b := true) rfl (fun _ => ?_) (fun e => by cases e)
    refine RW.sq (RW.rg (RL.step (MR.mv (v := sv) rfl) (RL.step (MR.mv (v := .string r) rfl) ?_)))
    refine RL.apStr hB hU hS rfl ho rfl hbw.size (by omega) fun sv' w3 ho3 hb3 => ?_
    obtain ⟨ad, cp, rfl, had, _, hba⟩ := ho3.bytes
    refine RL.step (MR.cv (conv_str hB hU8 hS had hba)) (RL.step MR.mv (RL.nil (RW.rt ⟨?_, hbw.trans (hb3.mono (Nat.le_refl _))⟩)))
    show Ending.returned (Value.string ⟨(bs ++ r.data.toList).toArray⟩) = _
    rw [← hfil, noB_none hno]
  · -- at i
    have hil : i < r.data.toList.length := (List.getElem?_eq_some_iff.1 hat).1
    have hneg : ¬ ((i : Int) < 0) := by omega
    refine RL.step MR.mv (RL.nil (RW.sq (RW.sq (RW.rg (RL.step (MR.mv (v := .int .i64 (i : Nat)) rfl) (RL.step (MR.biE (v := .bool (decide ((i : Int) < 0))) rfl) (RL.nil ?_)))))))
    refine RW.cd (b := false) (by show Value.bool _ = _; rw [decide_eq_false hneg]) (fun e => by cases e) (fun _ => RW.sk ?_)
    refine RW.sq (RW.rg (RL.step (MR.mv (v := sv) rfl) (RL.step (MR.mv (v := .string r) rfl) (RL.step (MR.mv (v := .int .i64 (i : Nat)) rfl) (RL.step (MR.sl (v := .string (r.extract 0 i)) (run_cutTo hS (by omega))) ?_)))))
    have hx1 : (r.extract 0 i).data.toList = r.data.toList.take i := by rw [ext_list]; simp
    refine RL.apStr hB hU hS rfl ho rfl hbw.size (by rw [hx1, List.length_take]; omega) fun sv' w3 ho3 hb3 => ?_
    rw [hx1] at ho3
    have hbw3 : Below w.heap.size w w3 := hbw.trans hb3
    refine RL.step (MR.mv (v := .string ⟨#[]⟩) rfl) ?_
    refine RL.apStr hB hU hS rfl ho3 rfl hbw3.size (by rw [List.length_append, List.length_take]; simp; omega) fun sv'' w4 ho4 hb4 => ?_
    have hbw4 : Below w.heap.size w w4 := hbw3.trans hb4
    refine RL.step MR.mv (RL.nil ?_)
    have hadd : IntKind.i64.wrap ((i : Int) + ((1 : Nat) : Int)) = ((i + 1 : Nat) : Int) := by rw [wrap_i64 (by omega) (by omega)]; omega
    refine RW.rg (RL.step (MR.mv (v := .string r) rfl) (RL.step (MR.mv (v := .int .i64 (i : Nat)) rfl) (RL.step (MR.mv (v := .string ⟨#[c]⟩) rfl) (RL.step (MR.lnS (b := ⟨#[c]⟩) hS rfl) (RL.step (MR.biE (v := .int .i64 ((i + 1 : Nat) : Int)) (by show evB .add (.int .i64 (i : Nat)) (.int .i64 ((1 : Nat) : Int)) = _; simp only [evB, if_true, hadd])) (RL.step (MR.sl (v := .string (r.extract (i + 1) r.size)) (run_cutFrom hS (by omega))) (RL.step MR.mv (RL.nil ?_))))))))
    have hx2 : (r.extract (i + 1) r.size).data.toList = r.data.toList.drop (i + 1) := by
      rw [ext_list, List.take_of_length_le]; rw [List.length_drop]; omega
    have hsz2 : (r.extract (i + 1) r.size).size = r.size - (i + 1) := by rw [← size_list, hx2, List.length_drop]; omega
    refine ⟨⟨r.extract (i + 1) r.size, sv'', bs ++ r.data.toList.take i, rfl, rfl, rfl, rfl, ?_, hbw4, ?_, ?_⟩, ?_⟩
    · have e : bs ++ r.data.toList.take i ++ (⟨#[]⟩ : ByteArray).data.toList = bs ++ r.data.toList.take i := by simp
      rw [e] at ho4; exact ho4
    · rw [hx2, List.append_assoc, ← noB_at hat hbef]; exact hfil
    · rw [hsz2, List.length_append, List.length_take]; omega
    · show strLen (.string (r.extract (i + 1) r.size)) < r.size
      show (r.extract (i + 1) r.size).size < r.size
      omega

/-! ### strnorm -/
def cNorm (fRep fTrim fLow : Nat) : MCode :=
  .sq (.rg [.mv 2 (.c .estr)])
  (.sq (.rg [.mv 3 (.t 0), .ca 4 fRep [.t 3, .c (.str [46]), .c .estr], .mv 0 (.t 4)])
  (.sq (.rg [.mv 5 (.t 0), .ca 6 fRep [.t 5, .c (.str [95]), .c .estr], .mv 0 (.t 6)])
  (.sq (.rg [.mv 7 (.t 0), .ca 8 fRep [.t 7, .c (.str [45]), .c .estr], .mv 0 (.t 8)])
  (.sq (.rg [.mv 9 (.t 0), .ca 10 fTrim [.t 9], .mv 0 (.t 10)])
  (.sq (.rg [.mv 11 (.t 0), .ca 12 fLow [.t 11], .mv 0 (.t 12)])
  (.sq (.rg [.mv 13 (.t 0), .mv 2 (.t 13)]) .rt))))))

def normS (l : List UInt8) : List UInt8 := Lib.toLowerA (Lib.trimSpace (noB 45 (noB 95 (noB 46 l))))

def asciiL (l : List UInt8) : Prop := ∀ b ∈ l, b.toNat < 128
theorem asciiL.noB {l : List UInt8} (h : asciiL l) (c : UInt8) : asciiL (noB c l) := fun b hb => h b (List.mem_filter.1 hb).1
theorem noB_le (c : UInt8) (l : List UInt8) : (noB c l).length ≤ l.length := List.length_filter_le _ _

/-- strings.TrimSpace, strings.ToLower: on texts of octets below 128, while W holds of the world. -/
def TrimC (P : Program) (W : World → Prop) (f : Nat) : Prop := entersB P f = true ∧ ∀ (s : ByteArray) (w : World), s.size ≤ 1000000 → asciiL s.data.toList → W w → Calls P f #[.string s] w (fun e w' => e = .returned (.string ⟨(Lib.trimSpace s.data.toList).toArray⟩) ∧ Below w.heap.size w w')
def LowC (P : Program) (f : Nat) : Prop := entersB P f = true ∧ ∀ (s : ByteArray) (w : World), s.size ≤ 1000000 → asciiL s.data.toList → Calls P f #[.string s] w (fun e w' => e = .returned (.string ⟨(Lib.toLowerA s.data.toList).toArray⟩) ∧ Below w.heap.size w w')
def NormC (P : Program) (W : World → Prop) (f : Nat) : Prop := entersB P f = true ∧ ∀ (s : ByteArray) (w : World), s.size ≤ 1000000 → asciiL s.data.toList → W w → Calls P f #[.string s] w (fun e w' => e = .returned (.string ⟨(normS s.data.toList).toArray⟩) ∧ Below w.heap.size w w')

theorem trim_sub (l : List UInt8) : ∀ b ∈ Lib.trimSpace l, b ∈ l := by
  intro b hb
  unfold Lib.trimSpace at hb
  rw [List.mem_reverse] at hb
  have h1 := (List.dropWhile_sublist _).subset hb
  rw [List.mem_reverse] at h1
  exact (List.dropWhile_sublist _).subset h1
theorem trim_len (l : List UInt8) : (Lib.trimSpace l).length ≤ l.length := by
  unfold Lib.trimSpace
  rw [List.length_reverse]
  refine Nat.le_trans (List.dropWhile_sublist _).length_le ?_
  rw [List.length_reverse]
  exact (List.dropWhile_sublist _).length_le

theorem ba_size (l : List UInt8) : (⟨l.toArray⟩ : ByteArray).size = l.length := by show l.toArray.size = _; simp
theorem ba_list (l : List UInt8) : (⟨l.toArray⟩ : ByteArray).data.toList = l := by simp

theorem norm_ok {W : World → Prop} (hW : ∀ w w' : World, W w → Below w.heap.size w w' → W w') {f fRep fTrim fLow : Nat} (hr : RepC P fRep) (ht : TrimC P W fTrim) (hl : LowC P fLow) (hf : FnIs P f (cNorm fRep fTrim fLow) 14 2) : NormC P W f := by
  refine ⟨hf.ent, fun s w hs ha hw => ?_⟩
  refine hf.runs (args := [.string s]) (by simp) (by omega) ?_
  refine RW.sq (RW.rg (RL.step MR.mv (RL.nil ?_)))
  -- the three
  have one : ∀ {r : ByteArray} {w1 : World} (c : UInt8), r.size ≤ 1000000 → Calls P fRep #[.string r, .string ⟨#[c]⟩, .string ⟨#[]⟩] w1 (fun e w' => ∃ v, e = .returned v ∧ (v = .string ⟨(noB c r.data.toList).toArray⟩ ∧ Below w1.heap.size w1 w')) := fun {r w1} c hr1 =>
    Calls.mono (hr.2 r c w1 hr1) fun e w' h => ⟨_, h.1, rfl, h.2⟩
  have l1 := size_list s
  have n1 := noB_le 46 s.data.toList
  have n2 := noB_le 95 (noB 46 s.data.toList)
  have n3 := noB_le 45 (noB 95 (noB 46 s.data.toList))
  have a1 := ha.noB 46
  have a2 := a1.noB 95
  have a3 := a2.noB 45
  refine RW.sq (RW.rg (RL.step (MR.mv (v := .string s) rfl) (RL.ca (R := fun v w' => v = .string ⟨(noB 46 s.data.toList).toArray⟩ ∧ Below w.heap.size w w') hr.1 (one 46 hs) ?_)))
  rintro v w1 ⟨rfl, b1⟩
  refine RL.step MR.mv (RL.nil (RW.sq (RW.rg (RL.step (MR.mv (v := .string ⟨(noB 46 s.data.toList).toArray⟩) rfl) (RL.ca (R := fun v w' => v = .string ⟨(noB 95 (noB 46 s.data.toList)).toArray⟩ ∧ Below w1.heap.size w1 w') hr.1 ?_ ?_)))))
  · have := one (r := ⟨(noB 46 s.data.toList).toArray⟩) (w1 := w1) 95 (by rw [ba_size]; omega)
    rw [ba_list] at this
    exact this
  rintro v w2 ⟨rfl, b2⟩
  refine RL.step MR.mv (RL.nil (RW.sq (RW.rg (RL.step (MR.mv (v := .string ⟨(noB 95 (noB 46 s.data.toList)).toArray⟩) rfl) (RL.ca (R := fun v w' => v = .string ⟨(noB 45 (noB 95 (noB 46 s.data.toList))).toArray⟩ ∧ Below w2.heap.size w2 w') hr.1 ?_ ?_)))))
  · have := one (r := ⟨(noB 95 (noB 46 s.data.toList)).toArray⟩) (w1 := w2) 45 (by rw [ba_size]; omega)
    rw [ba_list] at this
    exact this
  rintro v w3 ⟨rfl, b3⟩
  have b13 : Below w.heap.size w w3 := b1.trans ((b2.trans (b3.mono b2.size)).mono b1.size)
  generalize hq : noB 45 (noB 95 (noB 46 s.data.toList)) = q at n3 a3 ⊢
  refine RL.step MR.mv (RL.nil (RW.sq (RW.rg (RL.step (MR.mv (v := .string ⟨q.toArray⟩) rfl) (RL.ca (R := fun v w' => v = .string ⟨(Lib.trimSpace q).toArray⟩ ∧ Below w3.heap.size w3 w') ht.1 ?_ ?_)))))
  · refine Calls.mono (ht.2 ⟨q.toArray⟩ w3 (by rw [ba_size]; omega) (by rw [ba_list]; exact a3) (hW _ _ hw b13)) fun e w' h => ⟨_, h.1, by rw [ba_list], h.2⟩
  rintro v w4 ⟨rfl, b4⟩
  refine RL.step MR.mv (RL.nil (RW.sq (RW.rg (RL.step (MR.mv (v := .string ⟨(Lib.trimSpace q).toArray⟩) rfl) (RL.ca (R := fun v w' => v = .string ⟨(Lib.toLowerA (Lib.trimSpace q)).toArray⟩ ∧ Below w4.heap.size w4 w') hl.1 ?_ ?_)))))
  · refine Calls.mono (hl.2 ⟨(Lib.trimSpace q).toArray⟩ w4 (by have := trim_len q; rw [ba_size]; omega) (by rw [ba_list]; exact fun b hb => a3 b (trim_sub q b hb))) fun e w' h => ⟨_, h.1, by rw [ba_list], h.2⟩
  rintro v w5 ⟨rfl, b5⟩
  refine RL.step MR.mv (RL.nil (RW.sq (RW.rg (RL.step MR.mv (RL.step MR.mv (RL.nil (RW.rt ⟨?_, b13.trans ((b4.trans (b5.mono b4.size)).mono b13.size)⟩)))))))
  show Ending.returned (Value.string ⟨(Lib.toLowerA (Lib.trimSpace q)).toArray⟩) = _
  rw [← hq]; rfl
end
end Go.Kx
namespace Go.Kx
open Go.RowKit
set_option linter.unusedSimpArgs false
set_option linter.unusedVariables false

def zValB (P : Program) (T : Nat) (m : MVal) : Bool := match P.info? T with
  | some i => (match i.zero with | some v => m.is v | none => false)
  | none => false
theorem zVal_of {P : Program} {T : Nat} {m : MVal} (h : zValB P T m = true) : ∃ i, P.info? T = some i ∧ i.zero = some m.val := by
  unfold zValB at h
  cases hi : P.info? T with
  | none => simp [hi] at h
  | some i =>
    cases hz : i.zero with
    | none => simp [hi, hz] at h
    | some v => simp only [hi, hz] at h; exact ⟨i, rfl, by rw [hz, MVal.is_eq h]⟩

def cErrNew (tE tP : Nat) : MCode := .sq (.rg [.mv 2 (.c .niface)]) (.sq (.rg [.mv 3 (.t 0), .bdl 4 tE [(0, .t 3)], .bx 5 tE 4, .mki 6 tP 5, .mv 2 (.t 6)]) .rt)
def ErrNewC (P : Program) (f : Nat) : Prop := entersB P f = true ∧ ∀ (s : ByteArray) (w : World), Calls P f #[.string s] w (fun e w' => (∃ v, e = .returned v ∧ isErr v) ∧ Below w.heap.size w w')

section
variable {P : Program} {N : Nat} {Q : Exit → (Nat → Value) → World → Prop} {ρ : Nat → Value} {w w' : World} {ms : List MOp} {d : Nat}

theorem errNew_ok {f tE tP : Nat} (hz : zeroIs P tE [.estr] = true) (hp : plcB P tE 1 = true) (hc : P.concrete tP = true) (hf : FnIs P f (cErrNew tE tP) 7 2) : ErrNewC P f := by
  refine ⟨hf.ent, fun s w => ?_⟩
  refine hf.runs (args := [.string s]) (by simp) (by omega) ?_
  refine RW.sq (RW.rg (RL.step MR.mv (RL.nil (RW.sq (RW.rg (RL.step (MR.mv (v := .string s) rfl) ?_))))))
  refine RL.step (MR.bdl (v := .agg [Value.string s].toArray) (built_of (z := [Value.string ⟨#[]⟩]) (parts := [(0, .string s)]) (zeroIs_of hz) hp (by simp [Value.cells]) rfl _)) ?_
  refine RL.step MR.bx (RL.step (MR.mki (v := .iface tP (.pointer (some ⟨w.heap.size, 0, none⟩))) (run_makeInterface (w := _) tP _ hc)) (RL.step MR.mv (RL.nil (RW.rt ⟨⟨_, rfl, _, _, rfl⟩, below_box w _⟩))))

/-! ### Parse -/
def chainP (tS fNew t : Nat) (msg : List Nat) : List (List Nat × Int) → MCode
  | [] => .sq (.rg [.ca 6 fNew [.c (.str msg)], .mv 2 (.c (.int .i8 0)), .mv 3 (.t 6)]) .rt
  | (x, n) :: r => .sq (.rg [.bi (t + 1) .eql tS (.t 5) (.c (.str x)), .mv t (.t (t + 1))]) (.cd t (.sq (.rg [.mv 2 (.c (.int .i8 n)), .mv 3 (.c .niface)]) .rt) (chainP tS fNew (t + 2) msg r))
def cParse (tS fNorm fNew : Nat) (msg : List Nat) (ws : List (List Nat × Int)) : MCode :=
  .sq (.rg [.mv 2 (.c (.int .i8 0)), .mv 3 (.c .niface)]) (.sq (.rg [.mv 4 (.t 0), .ca 5 fNorm [.t 4]]) (.bl 0 (chainP tS fNew 7 msg ws)))

def bytesN (l : List Nat) : List UInt8 := l.map UInt8.ofNat
/-- The number of the first word that is the text. -/
def lookW (x : List UInt8) : List (List Nat × Int) → Option Int
  | [] => none
  | (y, n) :: r => if x = bytesN y then some n else lookW x r

/-- What Parse yields. -/
def parseOut (k : IntKind) (o : Option Int) (v : Value) : Prop := match o with
  | some n => v = .tuple #[.int k n, .nilIface]
  | none => ∃ x, isErr x ∧ v = .tuple #[.int k 0, x]
def ParseC (P : Program) (W : World → Prop) (ws : List (List Nat × Int)) (f : Nat) : Prop := entersB P f = true ∧ ∀ (s : ByteArray) (w : World), s.size ≤ 1000000 → asciiL s.data.toList → W w →
  Calls P f #[.string s] w (fun e w' => ∃ v, e = .returned v ∧ parseOut .i8 (lookW (normS s.data.toList) ws) v ∧ Below w.heap.size w w')

theorem chain_ok {fNew tS : Nat} {msg : List Nat} {R : Ending → World → Prop} (he : ErrNewC P fNew) (x : List UInt8) : ∀ (ws : List (List Nat × Int)) (t : Nat) (ρ : Nat → Value), t + 2 * ws.length ≤ N → 6 < t → ρ 5 = .string ⟨x.toArray⟩ →
    (∀ v w', parseOut .i8 (lookW x ws) v → Below w.heap.size w w' → R (.returned v) w') → RW P N (chainP tS fNew t msg ws) (inBlockR 0 (retQ2 2 3 R)) ρ w
  | [], t, ρ, hN, ht, h5, hR => by
    unfold chainP
    refine RW.sq (RW.rg (RL.ca (R := fun v w' => isErr v ∧ Below w.heap.size w w') he.1 ?_ ?_ (by omega) (by simp [MX.lt])))
    · refine Calls.mono (he.2 _ w) ?_
      rintro e w' ⟨⟨v, rfl, h⟩, hb⟩
      exact ⟨v, rfl, h, hb⟩
    rintro v w1 ⟨hv, hb⟩
    refine RL.step MR.mv (RL.step (MR.mv (v := v) rfl (ltT (by omega))) (RL.nil (RW.rt ?_)) (by omega)) (by omega)
    exact hR _ w1 ⟨v, hv, rfl⟩ hb
  | (y, n) :: r, t, ρ, hN, ht, h5, hR => by
    unfold chainP
    simp only [List.length_cons] at hN
    refine RW.sq (RW.rg (RL.step (MR.eqSC (a := ⟨x.toArray⟩) h5 (by omega)) (RL.step (MR.mv rfl (ltT (by omega))) (RL.nil ?_) (by omega)) (by omega)))
    have hb : decide ((⟨x.toArray⟩ : ByteArray).data.toList = y.map UInt8.ofNat) = decide (x = bytesN y) := decide_eq_decide.2 (by simp [bytesN])
    by_cases hx : x = bytesN y
    · refine RW.cd (b := true) (by rw [upd_same]; show xof _ (.t (t + 1)) = _; simp only [xof]; rw [upd_same, hb, decide_eq_true hx]) (fun _ => ?_) (fun e => by cases e) (by omega)
      refine RW.sq (RW.rg (RL.step MR.mv (RL.step MR.mv (RL.nil (RW.rt ?_)) (by omega)) (by omega)))
      refine hR _ w ?_ (Below.refl _ _)
      unfold lookW
      rw [if_pos hx]
      rfl
    · refine RW.cd (b := false) (by rw [upd_same]; show xof _ (.t (t + 1)) = _; simp only [xof]; rw [upd_same, hb, decide_eq_false hx]) (fun e => by cases e) (fun _ => ?_) (by omega)
      refine chain_ok he x r (t + 2) _ (by omega) (by omega) (by rw [upd_ne _ _ (by omega), upd_ne _ _ (by omega)]; exact h5) fun v w' h1 h2 => hR v w' ?_ h2
      unfold lookW
      rw [if_neg hx]
      exact h1

theorem parse_ok {W : World → Prop} {f fNorm fNew tS : Nat} {msg : List Nat} {ws : List (List Nat × Int)} (hn : NormC P W fNorm) (he : ErrNewC P fNew) (hN : 7 + 2 * ws.length ≤ N) (hf : FnIs2 P f (cParse tS fNorm fNew msg ws) N 2 3) : ParseC P W ws f := by
  refine ⟨hf.ent, fun s w hs ha hw => ?_⟩
  refine hf.runs (args := [.string s]) (by simp; omega) (by omega) (by omega) ?_
  refine RW.sq (RW.rg (RL.step MR.mv (RL.step MR.mv (RL.nil (RW.sq (RW.rg (RL.step (MR.mv (v := .string s) rfl (ltT (by omega))) ?_ (by omega))))) (by omega)) (by omega)))
  refine RL.ca (R := fun v w' => v = .string ⟨(normS s.data.toList).toArray⟩ ∧ Below w.heap.size w w') hn.1 ?_ ?_ (by omega) (by simp [MX.lt, Nat.blt_eq]; omega)
  · exact Calls.mono (hn.2 s w hs ha hw) fun e w' h => ⟨_, h.1, rfl, h.2⟩
  rintro v w1 ⟨rfl, b1⟩
  refine RL.nil (RW.bl ?_)
  refine chain_ok he (normS s.data.toList) ws 7 _ (by omega) (by omega) (upd_same _ _ _) fun v w' h1 h2 => ⟨v, rfl, h1, b1.trans (h2.mono b1.size)⟩

/-! ### The reader of a text -/
def cImplP (fParse tErr tK tI : Nat) : MCode :=
  .sq (.rg [.mv 2 (.c (.int .i64 0)), .mv 3 (.c (.bool false))])
  (.sq (.rg [.mv 7 (.t 0), .ca 8 fParse [.t 7], .mv 6 (.t 8), .ext 9 6 0, .ext 10 6 1, .mv 4 (.t 9), .mv 5 (.t 10)])
  (.sq (.sq (.rg [.mv 11 (.t 5), .bi 12 .neq tErr (.t 11) (.c .niface)]) (.cd 12 (.sq (.rg [.mv 2 (.c (.int .i64 0)), .mv 3 (.c (.bool false))]) .rt) .sk))
  (.sq (.rg [.mv 13 (.t 4), .cv 14 tK tI 13, .mv 2 (.t 14), .mv 3 (.c (.bool true))]) .rt)))

/-- What the readers yield. -/
def readOut (o : Option Int) (v : Value) : Prop := v = match o with
  | some n => .tuple #[.int .i64 n, .bool true]
  | none => .tuple #[.int .i64 0, .bool false]
def smallW (ws : List (List Nat × Int)) : Bool := ws.all fun p => decide (-128 ≤ p.2) && decide (p.2 ≤ 127)
theorem look_small {ws : List (List Nat × Int)} (h : smallW ws = true) {x : List UInt8} {n : Int} (hl : lookW x ws = some n) : -128 ≤ n ∧ n ≤ 127 := by
  induction ws with
  | nil => simp [lookW] at hl
  | cons p r ih =>
    obtain ⟨y, m⟩ := p
    simp only [smallW, List.all_cons, Bool.and_eq_true, decide_eq_true_eq] at h
    unfold lookW at hl
    split at hl
    · cases hl; exact h.1
    · exact ih h.2 hl
def ReadC (P : Program) (W : World → Prop) (ws : List (List Nat × Int)) (f : Nat) : Prop := entersB P f = true ∧ ∀ (s : ByteArray) (w : World), s.size ≤ 1000000 → asciiL s.data.toList → W w →
  Calls P f #[.string s] w (fun e w' => ∃ v, e = .returned v ∧ readOut (lookW (normS s.data.toList) ws) v ∧ Below w.heap.size w w')

theorem implP_ok {W : World → Prop} {f fParse tErr tK tI : Nat} {ws : List (List Nat × Int)} (hp : ParseC P W ws fParse) (hI : ifaceTy P tErr = true) (hK : intTy P tK .i8 = true) (hi : intTy P tI .i64 = true) (hsm : smallW ws = true) (hf : FnIs2 P f (cImplP fParse tErr tK tI) 15 2 3) : ReadC P W ws f := by
  refine ⟨hf.ent, fun s w hs ha hw => ?_⟩
  refine hf.runs (args := [.string s]) (by simp) (by omega) (by omega) ?_
  refine RW.sq (RW.rg (RL.step MR.mv (RL.step MR.mv (RL.nil (RW.sq (RW.rg (RL.step (MR.mv (v := .string s) rfl) ?_)))))))
  refine RL.ca (R := fun v w' => parseOut .i8 (lookW (normS s.data.toList) ws) v ∧ Below w.heap.size w w') hp.1 (Calls.mono (hp.2 s w hs ha hw) fun e w' ⟨v, h1, h2, h3⟩ => ⟨v, h1, h2, h3⟩) ?_
  rintro v w1 ⟨hv, b1⟩
  cases hl : lookW (normS s.data.toList) ws with
  | none =>
    rw [hl] at hv
    obtain ⟨x, hx, rfl⟩ := hv
    refine RL.step MR.mv (RL.step (MR.ext (v := .int .i8 0) rfl) (RL.step (MR.ext (v := x) rfl) (RL.step MR.mv (RL.step MR.mv (RL.nil ?_)))))
    refine RW.sq (RW.sq (RW.rg (RL.step (MR.mv (v := x) rfl) (RL.step (MR.neqNilI (v := x) hI rfl (.inr hx)) (RL.nil ?_)))))
    have e : errB x = true := by obtain ⟨t, y, rfl⟩ := hx; rfl
    refine RW.cd (b := true) (by show Value.bool _ = _; rw [e]) (fun _ => RW.sq (RW.rg (RL.step MR.mv (RL.step MR.mv (RL.nil (RW.rt ⟨_, rfl, rfl, b1⟩)))))) (fun e => by cases e)
  | some n =>
    rw [hl] at hv
    simp only [parseOut] at hv
    subst hv
    have hn := look_small hsm hl
    refine RL.step MR.mv (RL.step (MR.ext (v := .int .i8 n) rfl) (RL.step (MR.ext (v := .nilIface) rfl) (RL.step MR.mv (RL.step MR.mv (RL.nil ?_)))))
    refine RW.sq (RW.sq (RW.rg (RL.step (MR.mv (v := .nilIface) rfl) (RL.step (MR.neqNilI (v := .nilIface) hI rfl (.inl rfl)) (RL.nil ?_)))))
    refine RW.cd (b := false) rfl (fun e => by cases e) (fun _ => RW.sk ?_)
    refine RW.sq (RW.rg (RL.step (MR.mv (v := .int .i8 n) rfl) (RL.step (MR.cvI rfl hK hi) (RL.step MR.mv (RL.step MR.mv (RL.nil (RW.rt ⟨_, rfl, ?_, b1⟩)))))))
    show Value.tuple #[.int .i64 (IntKind.i64.wrap n), .bool true] = _
    rw [wrap_i64 (by omega) (by omega)]
end
end Go.Kx
namespace Go.Kx
open Go.RowKit
set_option linter.unusedSimpArgs false
set_option linter.unusedVariables false

def cUnm (fParse tB tS tK : Nat) : MCode :=
  .sq (.rg [.mv 4 (.c .niface)])
  (.sq (.rg [.mv 8 (.t 1), .cv 9 tB tS 8, .ca 10 fParse [.t 9], .mv 7 (.t 10), .ext 11 7 0, .ext 12 7 1, .mv 5 (.t 11), .mv 6 (.t 12)])
  (.sq (.rg [.mv 13 (.t 0), .mv 14 (.t 5), .nc 15 13, .st tK 15 14])
  (.sq (.rg [.mv 16 (.t 6), .mv 4 (.t 16)]) .rt)))
def cOfText (fUnm tB tErr tK tI : Nat) : MCode :=
  .sq (.rg [.mv 2 (.c (.int .i64 0)), .mv 3 (.c (.bool false))])
  (.sq (.rg [.al 4 tK])
  (.sq (.rg [.mv 6 (.t 0), .apk 7 tB tB 6, .ca 8 fUnm [.t 4, .t 7], .mv 5 (.t 8)])
  (.sq (.sq (.rg [.mv 9 (.t 5), .bi 10 .neq tErr (.t 9) (.c .niface)]) (.cd 10 (.sq (.rg [.mv 2 (.c (.int .i64 0)), .mv 3 (.c (.bool false))]) .rt) .sk))
  (.sq (.rg [.ld 11 tK 4, .cv 12 tK tI 11, .mv 2 (.t 12), .mv 3 (.c (.bool true))]) .rt))))

/-- An error or none, and the number put where it is to be. -/
def unmOut (o : Option Int) (v : Value) (w' : World) (b : Nat) : Prop := match o with
  | some n => v = .nilIface ∧ w'.cell? ⟨b, 0, none⟩ = some (.int .i8 n)
  | none => isErr v
def UnmC (P : Program) (W : World → Prop) (ws : List (List Nat × Int)) (f : Nat) : Prop := entersB P f = true ∧ ∀ (b c : Nat) (ad : Option Addr) (l : List UInt8) (w : World), l.length ≤ 1000000 → asciiL l → W w → w.there b 0 1 → b < w.heap.size → okAd ad → BytesAt w (fun _ => True) ad l →
  Calls P f #[.pointer (some ⟨b, 0, none⟩), .slice ad l.length c] w (fun e w' => ∃ v, e = .returned v ∧ unmOut (lookW (normS l) ws) v w' b ∧ Below b w w')
def ReadTC (P : Program) (W : World → Prop) (ws : List (List Nat × Int)) (f : Nat) : Prop := entersB P f = true ∧ ∀ (c : Nat) (ad : Option Addr) (l : List UInt8) (w : World), l.length ≤ 1000000 → asciiL l → W w → okAd ad → BytesAt w (· < w.heap.size) ad l →
  Calls P f #[.slice ad l.length c] w (fun e w' => ∃ v, e = .returned v ∧ readOut (lookW (normS l) ws) v ∧ Below w.heap.size w w')

section
variable {P : Program} {N : Nat} {Q : Exit → (Nat → Value) → World → Prop} {ρ : Nat → Value} {w w' : World} {ms : List MOp} {d : Nat}

theorem unm_ok {W : World → Prop} {f fParse tB tU tS tK : Nat} {ws : List (List Nat × Int)} (hp : ParseC P W ws fParse) (hB : sliceOf P tB tU = true) (hU8 : intTy P tU .u8 = true) (hS : strTy P tS = true) (hK1 : cellsB P tK 1 = true) (hf : FnIs P f (cUnm fParse tB tS tK) 17 4) : UnmC P W ws f := by
  refine ⟨hf.ent, fun b c ad l w hs ha hw ht hb had hba => ?_⟩
  refine hf.runs (args := [.pointer (some ⟨b, 0, none⟩), .slice ad l.length c]) (by simp) (by omega) ?_
  refine RW.sq (RW.rg (RL.step MR.mv (RL.nil (RW.sq (RW.rg (RL.step (MR.mv (v := .slice ad l.length c) rfl) (RL.step (MR.cv (conv_str hB hU8 hS had hba)) ?_)))))))
  refine RL.ca (R := fun v w' => parseOut .i8 (lookW (normS l) ws) v ∧ Below w.heap.size w w') hp.1 (Calls.mono (hp.2 ⟨l.toArray⟩ w (by rw [ba_size]; exact hs) (by rw [ba_list]; exact ha) hw) fun e w' ⟨v, h1, h2, h3⟩ => ⟨v, h1, by rw [ba_list] at h2; exact h2, h3⟩) ?_
  rintro v w1 ⟨hv, b1⟩
  have ht1 : w1.there b 0 1 := there_keep ht (b1.block b hb)
  have fin : ∀ (m : Int) (x : Value), v = .tuple #[.int .i8 m, x] → (∀ w', w'.cell? ⟨b, 0, none⟩ = some (.int .i8 m) → unmOut (lookW (normS l) ws) x w' b) →
      RL P 17 [.mv 7 (.t 10), .ext 11 7 0, .ext 12 7 1, .mv 5 (.t 11), .mv 6 (.t 12)] (thenR (RW P 17 (.sq (.rg [.mv 13 (.t 0), .mv 14 (.t 5), .nc 15 13, .st tK 15 14]) (.sq (.rg [.mv 16 (.t 6), .mv 4 (.t 16)]) .rt)) (retQ 4 (fun e w' => ∃ v, e = .returned v ∧ unmOut (lookW (normS l) ws) v w' b ∧ Below b w w')))
        (retQ 4 (fun e w' => ∃ v, e = .returned v ∧ unmOut (lookW (normS l) ws) v w' b ∧ Below b w w'))) (upd (upd (upd (upd (args0 [.pointer (some ⟨b, 0, none⟩), .slice ad l.length c]) 4 .nilIface) 8 (.slice ad l.length c)) 9 (.string ⟨l.toArray⟩)) 10 v) w1 := by
    rintro m x rfl hx
    refine RL.step MR.mv (RL.step (MR.ext (v := .int .i8 m) rfl) (RL.step (MR.ext (v := x) rfl) (RL.step MR.mv (RL.step MR.mv (RL.nil ?_)))))
    refine RW.sq (RW.rg (RL.step (MR.mv (v := .pointer (some ⟨b, 0, none⟩)) rfl) (RL.step (MR.mv (v := .int .i8 m) rfl) (RL.step (MR.nc (p := ⟨b, 0, none⟩) rfl) ?_))))
    refine RL.st1 (b := b) (o := 0) (v := .int .i8 m) rfl rfl rfl hK1 ht1 (RL.nil (RW.sq (RW.rg (RL.step (MR.mv (v := x) rfl) (RL.step MR.mv (RL.nil (RW.rt ⟨x, rfl, hx _ ?_, ?_⟩)))))))
    · exact (World.rangeAt_setCells_same w1 b 0 [Value.int .i8 m] ht1) 0 _ rfl
    · exact below_setCells (Nat.le_refl _) _ _ (b1.mono (by omega))
  generalize hl : lookW (normS l) ws = o at hv fin ⊢
  cases o with
  | none =>
    obtain ⟨x, hx, e⟩ := hv
    exact fin 0 x e fun w' _ => hx
  | some n => exact fin n _ hv fun w' h => ⟨rfl, h⟩

theorem ofText_ok {W : World → Prop} (hW : ∀ w w' : World, W w → Below w.heap.size w w' → W w') {f fUnm tB tU tErr tK tI : Nat} {ws : List (List Nat × Int)} (hp : UnmC P W ws fUnm) (hB : sliceOf P tB tU = true) (hU : u8Ty P tU = true) (hI : ifaceTy P tErr = true) (hz : zValB P tK (.int .i8 0) = true) (hpl : plainTy P tK = true) (hK : intTy P tK .i8 = true)
    (hi : intTy P tI .i64 = true) (hsm : smallW ws = true) (hf : FnIs2 P f (cOfText fUnm tB tErr tK tI) 13 2 3) : ReadTC P W ws f := by
  refine ⟨hf.ent, fun c ad l w hs ha hw had hba => ?_⟩
  refine hf.runs (args := [.slice ad l.length c]) (by simp) (by omega) (by omega) ?_
  have elim : lim = 1099511627776 := rfl
  refine RW.sq (RW.rg (RL.step MR.mv (RL.step MR.mv (RL.nil (RW.sq (RW.rg (RL.step (MR.al (zVal_of hz)) (RL.nil ?_))))))))
  have b1 := below_box w (.cells (MVal.int .i8 0).val.cells tK)
  have s1 := size_box w (.cells (MVal.int .i8 0).val.cells tK)
  have t1 : (w.alloc (.cells (MVal.int .i8 0).val.cells tK)).there w.heap.size 0 1 := there_box w [Value.int .i8 0] tK
  change RW P 13 _ _ _ (w.alloc (.cells (MVal.int .i8 0).val.cells tK))
  revert b1 s1 t1
  generalize w.alloc (.cells (MVal.int .i8 0).val.cells tK) = w1
  intro b1 s1 t1
  have hba1 : BytesAt w1 (· < w.heap.size) ad l := hba.below b1
  obtain ⟨sv, w2, r1, r2, r3, r4⟩ := run_apOwn (c := c) hB hU (OwnB.nil tU w1 w1.heap.size) rfl hba1.any (Nat.le_refl _) (by simp only [List.length_nil]; omega)
  rw [List.nil_append] at r2
  obtain ⟨ad2, c2, rfl, had2, _, hba2⟩ := r2.bytes
  refine RW.sq (RW.rg (RL.step (MR.mv (v := .slice ad l.length c) rfl) (RL.step (MR.apk r1) ?_)))
  have b2 : Below w.heap.size w w2 := b1.trans (r3.mono b1.size)
  refine RL.ca (R := fun v w' => unmOut (lookW (normS l) ws) v w' w.heap.size ∧ Below w.heap.size w2 w') hp.1 (Calls.mono (hp.2 w.heap.size c2 ad2 l w2 hs ha (hW _ _ hw b2) (there_keep t1 (r3.block _ (by omega))) (by have := r3.size; omega) had2 hba2) fun e w' ⟨v, h1, h2, h3⟩ => ⟨v, h1, h2, h3⟩) ?_
  rintro v w3 ⟨hv, b3⟩
  have bw3 : Below w.heap.size w w3 := b2.trans b3
  cases hl : lookW (normS l) ws with
  | none =>
    rw [hl] at hv
    have hx : isErr v := hv
    refine RL.step (MR.mv (v := v) rfl) (RL.nil (RW.sq (RW.sq (RW.rg (RL.step (MR.mv (v := v) rfl) (RL.step (MR.neqNilI (v := v) hI rfl (.inr hx)) (RL.nil ?_)))))))
    have e : errB v = true := by obtain ⟨t, y, rfl⟩ := hx; rfl
    refine RW.cd (b := true) (by show Value.bool _ = _; rw [e]) (fun _ => RW.sq (RW.rg (RL.step MR.mv (RL.step MR.mv (RL.nil (RW.rt ⟨_, rfl, rfl, bw3⟩)))))) (fun e => by cases e)
  | some n =>
    rw [hl] at hv
    obtain ⟨rfl, hc⟩ := hv
    have hn := look_small hsm hl
    refine RL.step (MR.mv (v := .nilIface) rfl) (RL.nil (RW.sq (RW.sq (RW.rg (RL.step (MR.mv (v := .nilIface) rfl) (RL.step (MR.neqNilI (v := .nilIface) hI rfl (.inl rfl)) (RL.nil ?_)))))))
    refine RW.cd (b := false) rfl (fun e => by cases e) (fun _ => RW.sk ?_)
    refine RW.sq (RW.rg (RL.step (MR.ld (p := ⟨w.heap.size, 0, none⟩) rfl hpl hc) (RL.step (MR.cvI rfl hK hi) (RL.step MR.mv (RL.step MR.mv (RL.nil (RW.rt ⟨_, rfl, ?_, bw3⟩)))))))
    show Value.tuple #[.int .i64 (IntKind.i64.wrap n), .bool true] = _
    rw [wrap_i64 (by omega) (by omega)]
end
end Go.Kx
