/- kbin's other functions that append: lengths, texts, octets, null or not; they call those of Kx15 and Kx17. Conditions: the program's tables (TOK), fewer than 2^40 octets, lengths of at most 32767.
   The walk told by what the slots hold (ρ), all of them: rules for each operation, each statement; regions that draw their order or have guards. No condition on the program beyond those that a rule names; a region that draws wants mixed orders allowed.
   Regions that draw their order, or have guards, told by the slots; calls; the rest of the operations.
   Appending octets and texts, told by the slots; kbin's functions that append texts, octets, a truth, sixteen octets. Conditions: the program's tables (TOK), fewer than 2^40 octets. -/
import Derived.Test.YtpaoaobmaimibaaGreatDoorKxB
namespace Go.Kx
open Go.RowKit
set_option linter.unusedSimpArgs false
set_option linter.unusedVariables false
section
variable {P : Program} {Q : Exit → Act → World → Prop} {a : Act} {w : World} {ms : List MOp}
def arrOf (P : Program) (T n e : Nat) : Bool :=
  match P.underlying T with
  | some (.array n' e') => Nat.beq n n' && Nat.beq e e'
  | _ => false
theorem arrOf_eq {T n e : Nat} (h : arrOf P T n e = true) : P.underlying T = some (.array n e) := by
  unfold arrOf at h
  cases hu : P.underlying T with
  | none => simp [hu] at h
  | some d => cases d <;> simp_all
def ptrOf (P : Program) (T e : Nat) : Bool :=
  match P.underlying T with
  | some (.pointer e') => Nat.beq e e'
  | _ => false
theorem ptrOf_eq {P : Program} {T e : Nat} (h : ptrOf P T e = true) : P.underlying T = some (.pointer e) := by
  unfold ptrOf at h
  cases hu : P.underlying T with
  | none => simp [hu] at h
  | some d => cases d <;> simp_all
end
section
variable {P : Program} {T : IT} {w : World}
theorem MX.of_loc {N L : Nat} {ρ : Nat → Value} {a : Act} {x : MX} (hl : Loc N L ρ a) (h : ∀ s, x = .t s → s < L) : x.of a = xof ρ x := by
  cases x with
  | t s => exact hl.get s (h s rfl)
  | c m => rfl
theorem ML.callTo {U N B x d r f : Nat} {y : MX} {ks : List IntKind} {pre : List MOp} {ρ ρ' : Nat → Value} {a : Act} {bs out : List UInt8} {R : World → Nat → Value → List UInt8 → Prop} {Q : Exit → Act → World → Prop}
    (hc : ApC P U f R) (hl : Loc N N ρ a) (he : Kx.evs ks pre ρ N = some ρ') (hcv : CvOk P ks pre) (hr : ∀ m ∈ pre, ∀ s ∈ reads m, s < N) (hx : x < N) (hy : ∀ s, y = .t s → s < N) (hd : d < N) (hrN : r < N)
    (ho : OwnB U w B (ρ' x) bs) (hR : R w B (xof ρ' y) out) (hB : B ≤ w.heap.size) (hlim : bs.length + out.length ≤ lim)
    (h : ∀ a' w' sv', Loc N N (upd (upd ρ' d sv') r sv') a' → OwnB U w' B sv' (bs ++ out) → Below B w w' → Q .normal a' w') :
    ML P (pre ++ [.ca d f [.t x, y], .mv r (.t d)]) Q a w := by
  refine ML.evs hl he hcv hr fun a1 hl1 => ?_
  have hsz := hl1.size
  refine ML.ca (R := fun sv' w' => OwnB U w' B sv' (bs ++ out) ∧ Below B w w') hc.1 ?_ ?_
  · have e1 : (MX.t x).of a1 = ρ' x := hl1.get x hx
    simp only [List.map_cons, List.map_nil, e1, MX.of_loc hl1 hy]
    refine (hc.2 w B (ρ' x) (xof ρ' y) bs out hB ho hR hlim).mono ?_
    rintro e w' ⟨sv', rfl, h2⟩
    exact ⟨sv', rfl, h2⟩
  · rintro sv' w' ⟨h2, h3⟩
    refine ML.mv (ML.nil ?_)
    have : (MX.t d).of (wr a1 d sv') = sv' := rd_same (by omega)
    rw [this]
    exact h _ w' sv' ((hl1.put hd).put hrN) h2 h3
theorem ML.callToG {U N B x d r f : Nat} {y : MX} {ks : List IntKind} {pre : List MOp} {ρ ρ' : Nat → Value} {a : Act} {bs out : List UInt8} {R : World → Nat → Value → List UInt8 → Prop} {Q : Exit → Act → World → Prop}
    (hc : ApG P U f R) (hl : Loc N N ρ a) (he : Kx.evs ks pre ρ N = some ρ') (hcv : CvOk P ks pre) (hr : ∀ m ∈ pre, ∀ s ∈ reads m, s < N) (hx : x < N) (hy : ∀ s, y = .t s → s < N) (hd : d < N) (hrN : r < N)
    (ho : OwnB U w B (ρ' x) bs) (hR : R w B (xof ρ' y) out) (hB : B ≤ w.heap.size) (hlim : bs.length + out.length ≤ lim)
    (h : ∀ a' w' sv', Loc N N (upd (upd ρ' d sv') r sv') a' → OwnB U w' B sv' (bs ++ out) → Below B w w' → Gr w w' (ρ' x) → Q .normal a' w') :
    ML P (pre ++ [.ca d f [.t x, y], .mv r (.t d)]) Q a w := by
  refine ML.evs hl he hcv hr fun a1 hl1 => ?_
  have hsz := hl1.size
  refine ML.ca (R := fun sv' w' => OwnB U w' B sv' (bs ++ out) ∧ Below B w w' ∧ Gr w w' (ρ' x)) hc.1 ?_ ?_
  · have e1 : (MX.t x).of a1 = ρ' x := hl1.get x hx
    simp only [List.map_cons, List.map_nil, e1, MX.of_loc hl1 hy]
    refine (hc.2 w B (ρ' x) (xof ρ' y) bs out hB ho hR hlim).mono ?_
    rintro e w' ⟨sv', rfl, h2⟩
    exact ⟨sv', rfl, h2⟩
  · rintro sv' w' ⟨h2, h3, h4⟩
    refine ML.mv (ML.nil ?_)
    have : (MX.t d).of (wr a1 d sv') = sv' := rd_same (by omega)
    rw [this]
    exact h _ w' sv' ((hl1.put hd).put hrN) h2 h3 h4
def toCode (r : Nat) (pre : List MOp) (d f x : Nat) (y : MX) : MCode := .sq (.rg (pre ++ [.ca d f [.t x, y], .mv r (.t d)])) .rt
theorem toCode_ok {U N B x d r f : Nat} {y : MX} {ks : List IntKind} {pre : List MOp} {ρ ρ' : Nat → Value} {a : Act} {bs out : List UInt8} {R : World → Nat → Value → List UInt8 → Prop} {fn : Func} {Q : Exit → Act → World → Prop}
    (hc : ApC P U f R) (hres : fn.results = #[.tmp r]) (hl : Loc N N ρ a) (he : Kx.evs ks pre ρ N = some ρ') (hcv : CvOk P ks pre) (hr : ∀ m ∈ pre, ∀ s ∈ reads m, s < N) (hx : x < N) (hy : ∀ s, y = .t s → s < N) (hd : d < N) (hrN : r < N)
    (ho : OwnB U w B (ρ' x) bs) (hR : R w B (xof ρ' y) out) (hB : B ≤ w.heap.size) (hlim : bs.length + out.length ≤ lim)
    (hQ : ∀ a' w', bodyPost P fn (fun e w' => ∃ sv', e = .returned sv' ∧ OwnB U w' B sv' (bs ++ out) ∧ Below B w w') .ret a' w' → Q .ret a' w') : MW P (toCode r pre d f x y) Q a w := by
  refine MW.sq (MW.rg (ML.callTo hc hl he hcv hr hx hy hd hrN ho hR hB hlim ?_))
  intro a' w' sv' g1 g2 g3
  refine MW.rt (hQ a' w' (bodyPost_ret (v := sv') ?_ g1.defers ⟨sv', rfl, g2, g3⟩))
  rw [results_tmp hres]
  congr 1
  exact (g1.get r hrN).trans (upd_same _ _ _)
theorem toCode_okG {U N B x d r f : Nat} {y : MX} {ks : List IntKind} {pre : List MOp} {ρ ρ' : Nat → Value} {a : Act} {bs out : List UInt8} {R : World → Nat → Value → List UInt8 → Prop} {fn : Func} {Q : Exit → Act → World → Prop}
    (hc : ApG P U f R) (hres : fn.results = #[.tmp r]) (hl : Loc N N ρ a) (he : Kx.evs ks pre ρ N = some ρ') (hcv : CvOk P ks pre) (hr : ∀ m ∈ pre, ∀ s ∈ reads m, s < N) (hx : x < N) (hy : ∀ s, y = .t s → s < N) (hd : d < N) (hrN : r < N)
    (ho : OwnB U w B (ρ' x) bs) (hR : R w B (xof ρ' y) out) (hB : B ≤ w.heap.size) (hlim : bs.length + out.length ≤ lim)
    (hQ : ∀ a' w', bodyPost P fn (fun e w' => ∃ sv', e = .returned sv' ∧ OwnB U w' B sv' (bs ++ out) ∧ Below B w w' ∧ Gr w w' (ρ' x)) .ret a' w' → Q .ret a' w') : MW P (toCode r pre d f x y) Q a w := by
  refine MW.sq (MW.rg (ML.callToG hc hl he hcv hr hx hy hd hrN ho hR hB hlim ?_))
  intro a' w' sv' g1 g2 g3 g4
  refine MW.rt (hQ a' w' (bodyPost_ret (v := sv') ?_ g1.defers ⟨sv', rfl, g2, g3, g4⟩))
  rw [results_tmp hres]
  congr 1
  exact (g1.get r hrN).trans (upd_same _ _ _)
/-! ### Numbers with a sign -/
def codeConv (r : Nat) (s t f : Nat) : MCode := .sq (.rg [.mv r (.c .nslice)]) (toCode r [.mv (r + 1) (.t 0), .mv (r + 2) (.t 1), .cv (r + 3) s t (r + 2)] (r + 4) f (r + 1) (.t (r + 3)))
theorem conv_ok {U f g s t : Nat} {k0 k : IntKind} {R : World → Nat → Value → List UInt8 → Prop} (hf : FnIs P f (codeConv 4 s t g) 9 4) (hc : ApC P U g R) (hs : intTy P s k0 = true) (ht : intTy P t k = true) :
    ApC P U f (fun w B x out => ∃ n, x = .int k0 n ∧ R w B (.int k (k.wrap n)) out) := by
  refine ⟨hf.ent, ?_⟩
  rintro w B sv x bs out hB ho ⟨n, rfl, hR⟩ hlim
  refine hf.calls (args := [sv, .int k0 n]) (by simp) fun a fn hres hl => ?_
  refine MW.sq (MW.rg (ML.mv (ML.nil ?_)))
  exact toCode_ok (ks := [k]) hc hres (hl.put (v := .slice none 0 0) (show 4 < 9 by omega)) rfl ⟨⟨_, hs⟩, ht, trivial⟩ (by simp [reads, MX.slots]) (by omega) (by simp) (by omega) (by omega) ho hR hB hlim (fun _ _ h => h)
theorem conv_okG {U f g s t : Nat} {k0 k : IntKind} {R : World → Nat → Value → List UInt8 → Prop} (hf : FnIs P f (codeConv 4 s t g) 9 4) (hc : ApG P U g R) (hs : intTy P s k0 = true) (ht : intTy P t k = true) :
    ApG P U f (fun w B x out => ∃ n, x = .int k0 n ∧ R w B (.int k (k.wrap n)) out) := by
  refine ⟨hf.ent, ?_⟩
  rintro w B sv x bs out hB ho ⟨n, rfl, hR⟩ hlim
  refine hf.calls (args := [sv, .int k0 n]) (by simp) fun a fn hres hl => ?_
  refine MW.sq (MW.rg (ML.mv (ML.nil ?_)))
  exact toCode_okG (ks := [k]) hc hres (hl.put (v := .slice none 0 0) (show 4 < 9 by omega)) rfl ⟨⟨_, hs⟩, ht, trivial⟩ (by simp [reads, MX.slots]) (by omega) (by simp) (by omega) (by omega) ho hR hB hlim (fun _ _ h => h)
theorem wrap_mod {k : IntKind} {n : Int} {b : Nat} (hk : k = .u16 ∧ b = 65536 ∨ k = .u32 ∧ b = 4294967296 ∨ k = .u64 ∧ b = 18446744073709551616) : k.wrap n = ((n % (b : Int)).toNat : Int) := by
  rcases hk with ⟨rfl, rfl⟩ | ⟨rfl, rfl⟩ | ⟨rfl, rfl⟩
  · rw [show IntKind.u16.wrap n = n % 65536 from by simp [IntKind.wrap, IntKind.signed, IntKind.bits]]; omega
  · rw [show IntKind.u32.wrap n = n % 4294967296 from by simp [IntKind.wrap, IntKind.signed, IntKind.bits]]; omega
  · rw [show IntKind.u64.wrap n = n % 18446744073709551616 from by simp [IntKind.wrap, IntKind.signed, IntKind.bits]]; omega
theorem appI16 {f g : Nat} (tk : TOK P T) (h1 : T.i16 ≠ 0) (h2 : T.u16 ≠ 0) (hf : FnIs P f (codeConv 4 T.i16 T.u16 g) 9 4) (hg : ApG P T.u8 g (fun _ _ x out => ∃ n : Nat, n < 65536 ∧ x = .int .u16 n ∧ out = be n 2)) :
    ApG P T.u8 f (fun _ _ x out => ∃ n : Int, x = .int .i16 n ∧ out = fix n 2) := by
  have h := conv_okG hf hg (tk.i16 h1) (tk.u16 h2)
  refine ⟨h.1, fun w B sv x bs out hB ho hx hlim => h.2 w B sv x bs out hB ho ?_ hlim⟩
  obtain ⟨n, rfl, rfl⟩ := hx
  refine ⟨n, rfl, (n % 65536).toNat, by omega, ?_, rfl⟩
  rw [wrap_mod (.inl ⟨rfl, rfl⟩)]; rfl
theorem appI32 {f g : Nat} (tk : TOK P T) (h1 : T.i32 ≠ 0) (h2 : T.u32 ≠ 0) (hf : FnIs P f (codeConv 4 T.i32 T.u32 g) 9 4) (hg : ApG P T.u8 g (fun _ _ x out => ∃ n : Nat, n < 4294967296 ∧ x = .int .u32 n ∧ out = be n 4)) :
    ApG P T.u8 f (fun _ _ x out => ∃ n : Int, x = .int .i32 n ∧ out = fix n 4) := by
  have h := conv_okG hf hg (tk.i32 h1) (tk.u32 h2)
  refine ⟨h.1, fun w B sv x bs out hB ho hx hlim => h.2 w B sv x bs out hB ho ?_ hlim⟩
  obtain ⟨n, rfl, rfl⟩ := hx
  refine ⟨n, rfl, (n % 4294967296).toNat, by omega, ?_, rfl⟩
  rw [wrap_mod (.inr (.inl ⟨rfl, rfl⟩))]; rfl
theorem appI64 {f g : Nat} (tk : TOK P T) (h1 : T.i64 ≠ 0) (h2 : T.u64 ≠ 0) (hf : FnIs P f (codeConv 4 T.i64 T.u64 g) 9 4) (hg : ApG P T.u8 g (fun _ _ x out => ∃ n : Nat, n < 18446744073709551616 ∧ x = .int .u64 n ∧ out = be n 8)) :
    ApG P T.u8 f (fun _ _ x out => ∃ n : Int, x = .int .i64 n ∧ out = fix n 8) := by
  have h := conv_okG hf hg (tk.i64 h1) (tk.u64 h2)
  refine ⟨h.1, fun w B sv x bs out hB ho hx hlim => h.2 w B sv x bs out hB ho ?_ hlim⟩
  obtain ⟨n, rfl, rfl⟩ := hx
  refine ⟨n, rfl, (n % 18446744073709551616).toNat, by omega, ?_, rfl⟩
  rw [wrap_mod (.inr (.inr ⟨rfl, rfl⟩))]; rfl
/-! ### Lengths -/
theorem wrap_i32 {n : Int} (h0 : -2147483648 ≤ n) (h : n ≤ 2147483647) : IntKind.i32.wrap n = n := by simp [IntKind.wrap, IntKind.signed, IntKind.bits]; omega
theorem wrap_i16 {n : Int} (h0 : -32768 ≤ n) (h : n ≤ 32767) : IntKind.i16.wrap n = n := by simp [IntKind.wrap, IntKind.signed, IntKind.bits]; omega
def I32C (P : Program) (U f : Nat) : Prop := ApC P U f (fun _ _ x out => ∃ n : Int, x = .int .i32 n ∧ out = fix n 4)
def I16C (P : Program) (U f : Nat) : Prop := ApC P U f (fun _ _ x out => ∃ n : Int, x = .int .i16 n ∧ out = fix n 2)
theorem appLen {f g : Nat} (tk : TOK P T) (h1 : T.i32 ≠ 0) (hf : FnIs P f (codeConv 4 T.int T.i32 g) 9 4) (hg : I32C P T.u8 g) : LenC P T.u8 f (fun n => fix n 4) := by
  have h := conv_ok hf hg tk.int (tk.i32 h1)
  refine ⟨h.1, fun w B sv x bs out hB ho hx hlim => h.2 w B sv x bs out hB ho ?_ hlim⟩
  obtain ⟨n, hn, rfl, rfl⟩ := hx
  exact ⟨n, rfl, n, by rw [wrap_i32 (by omega) (by omega)], rfl⟩
def codeCLen (T : IT) (g : Nat) : MCode := .sq (.rg [.mv 4 (.c .nslice)]) (toCode 4 [.mv 5 (.t 0), .mv 6 (.t 1), .cv 7 T.int T.u32 6, .b2 8 .add (.c (.int .u32 1)) (.t 7)] 9 g 5 (.t 8))
theorem one_add {n : Nat} (h : n < 4294967295) : IntKind.u32.wrap (1 + IntKind.u32.wrap (n : Int)) = ((n + 1 : Nat) : Int) := by
  rw [wrap_u32 (x := (n : Int)) (by omega) (by omega), wrap_u32 (by omega) (by omega)]; omega
theorem appCLen {f g : Nat} (tk : TOK P T) (h1 : T.u32 ≠ 0) (hf : FnIs P f (codeCLen T g) 10 4) (hg : UvarC P T.u8 g) : LenC P T.u8 f (fun n => uv (n + 1)) := by
  refine ⟨hf.ent, ?_⟩
  rintro w B sv x bs out hB ho ⟨n, hn, rfl, rfl⟩ hlim
  refine hf.calls (args := [sv, .int .i64 n]) (by simp) fun a fn hres hl => ?_
  refine MW.sq (MW.rg (ML.mv (ML.nil ?_)))
  refine toCode_ok (ks := [.u32]) hg hres (hl.put (v := .slice none 0 0) (show 4 < 10 by omega)) rfl ⟨⟨_, tk.int⟩, tk.u32 h1, trivial⟩ (by simp [reads, MX.slots]) (by omega) (by simp) (by omega) (by omega) ho ?_ hB hlim (fun _ _ h => h)
  exact ⟨n + 1, by omega, by show Value.int .u32 (IntKind.u32.wrap (1 + IntKind.u32.wrap (n : Int))) = _; rw [one_add (by omega)], rfl⟩
def codeNLen (T : IT) (g : Nat) : MCode := .sq (.rg [.mv 6 (.c .nslice)]) (.sq (.sq (.rg [.mv 7 (.t 2)]) (.cd 7 (toCode 6 [.mv 8 (.t 0)] 9 g 8 (.c (.int .i32 (-1)))) .sk))
  (toCode 6 [.mv 10 (.t 0), .mv 11 (.t 1), .cv 12 T.int T.i32 11] 13 g 10 (.t 12)))
def codeCNLen (T : IT) (g : Nat) : MCode := .sq (.rg [.mv 6 (.c .nslice)]) (.sq (.sq (.rg [.mv 7 (.t 2)]) (.cd 7 (toCode 6 [.mv 8 (.t 0)] 9 g 8 (.c (.int .u32 0))) .sk))
  (toCode 6 [.mv 10 (.t 0), .mv 11 (.t 1), .cv 12 T.int T.u32 11, .b2 13 .add (.c (.int .u32 1)) (.t 12)] 14 g 10 (.t 13)))
theorem appNLen {f g : Nat} (tk : TOK P T) (h1 : T.i32 ≠ 0) (hf : FnIs P f (codeNLen T g) 14 6) (hg : I32C P T.u8 g) : NLenC P T.u8 f false := by
  refine ⟨hf.ent, ?_⟩
  intro w B sv bs n isnil hB ho hn hlim
  refine hf.calls (args := [sv, .int .i64 n, .bool isnil]) (by simp) fun a fn hres hl => ?_
  have hsz := hl.size
  refine MW.sq (MW.rg (ML.mv (ML.nil (MW.sq (MW.sq (MW.rg (ML.mv (ML.nil ?_))))))))
  have hl1 := (hl.put (v := .slice none 0 0) (show 6 < 14 by omega)).put (v := .bool isnil) (show 7 < 14 by omega)
  have e2 : (MX.t 2).of (wr a 6 (MX.of a (.c .nslice))) = .bool isnil := by
    show rd (wr a 6 _) 2 = _
    rw [rd_ne (by omega)]; exact hl.get 2 (by omega)
  rw [e2]
  refine MW.cd (rd_same (by simp only [size_wr]; omega)) (fun e => ?_) (fun e => MW.sk ?_)
  · subst e
    exact toCode_ok (ks := []) hg hres hl1 rfl trivial (by simp [reads, MX.slots]) (by omega) (by simp) (by omega) (by omega) ho ⟨-1, rfl, rfl⟩ hB hlim (fun _ _ h => h)
  · subst e
    exact toCode_ok (ks := [.i32]) hg hres hl1 rfl ⟨⟨_, tk.int⟩, tk.i32 h1, trivial⟩ (by simp [reads, MX.slots]) (by omega) (by simp) (by omega) (by omega) ho ⟨n, by show Value.int .i32 (IntKind.i32.wrap (n : Int)) = _; rw [wrap_i32 (by omega) (by omega)], rfl⟩ hB hlim (fun _ _ h => h)
theorem appCNLen {f g : Nat} (tk : TOK P T) (h1 : T.u32 ≠ 0) (hf : FnIs P f (codeCNLen T g) 15 6) (hg : UvarC P T.u8 g) : NLenC P T.u8 f true := by
  refine ⟨hf.ent, ?_⟩
  intro w B sv bs n isnil hB ho hn hlim
  refine hf.calls (args := [sv, .int .i64 n, .bool isnil]) (by simp) fun a fn hres hl => ?_
  have hsz := hl.size
  refine MW.sq (MW.rg (ML.mv (ML.nil (MW.sq (MW.sq (MW.rg (ML.mv (ML.nil ?_))))))))
  have hl1 := (hl.put (v := .slice none 0 0) (show 6 < 15 by omega)).put (v := .bool isnil) (show 7 < 15 by omega)
  have e2 : (MX.t 2).of (wr a 6 (MX.of a (.c .nslice))) = .bool isnil := by
    show rd (wr a 6 _) 2 = _
    rw [rd_ne (by omega)]; exact hl.get 2 (by omega)
  rw [e2]
  refine MW.cd (rd_same (by simp only [size_wr]; omega)) (fun e => ?_) (fun e => MW.sk ?_)
  · subst e
    exact toCode_ok (ks := []) hg hres hl1 rfl trivial (by simp [reads, MX.slots]) (by omega) (by simp) (by omega) (by omega) ho ⟨0, by omega, rfl, rfl⟩ hB hlim (fun _ _ h => h)
  · subst e
    exact toCode_ok (ks := [.u32]) hg hres hl1 rfl ⟨⟨_, tk.int⟩, tk.u32 h1, trivial⟩ (by simp [reads, MX.slots]) (by omega) (by simp) (by omega) (by omega) ho
      ⟨n + 1, by omega, by show Value.int .u32 (IntKind.u32.wrap (1 + IntKind.u32.wrap (n : Int))) = _; rw [one_add (by omega)], rfl⟩ hB hlim (fun _ _ h => h)
end
set_option linter.unusedVariables false
def up (N : Nat) (Q : Exit → (Nat → Value) → World → Prop) : Exit → Act → World → Prop
  | .panic _, _, _ => False
  | e, a, w => ∃ ρ, Loc N N ρ a ∧ Q e ρ w
def RL (P : Program) (N : Nat) (ms : List MOp) (Q : Exit → (Nat → Value) → World → Prop) (ρ : Nat → Value) (w : World) : Prop := ∀ a, Loc N N ρ a → ML P ms (up N Q) a w
def RW (P : Program) (N : Nat) (m : MCode) (Q : Exit → (Nat → Value) → World → Prop) (ρ : Nat → Value) (w : World) : Prop := ∀ a, Loc N N ρ a → MW P m (up N Q) a w
def thenR (K : (Nat → Value) → World → Prop) (Q : Exit → (Nat → Value) → World → Prop) : Exit → (Nat → Value) → World → Prop
  | .normal, ρ, w => K ρ w
  | e, ρ, w => Q e ρ w
def inBlockR (id : Nat) (Q : Exit → (Nat → Value) → World → Prop) : Exit → (Nat → Value) → World → Prop
  | .exit id', ρ, w => if id' = id then Q .normal ρ w else Q (.exit id') ρ w
  | e, ρ, w => Q e ρ w
section
variable {P : Program} {N : Nat} {Q Q' : Exit → (Nat → Value) → World → Prop} {ρ : Nat → Value} {w : World} {ms : List MOp}
theorem up_mono (h : ∀ e ρ w, Q e ρ w → Q' e ρ w) {e : Exit} {a : Act} (hu : up N Q e a w) : up N Q' e a w := by
  cases e <;> simp only [up] at hu ⊢ <;> first | exact hu | (obtain ⟨ρ, h1, h2⟩ := hu; exact ⟨ρ, h1, h _ _ _ h2⟩)
theorem RW.mono {m : MCode} (h : RW P N m Q ρ w) (hq : ∀ e ρ w, Q e ρ w → Q' e ρ w) : RW P N m Q' ρ w := fun a ha => (h a ha).mono fun e a w hu => up_mono hq hu
theorem RW.sq {x y : MCode} (h : RW P N x (thenR (RW P N y Q) Q) ρ w) : RW P N (.sq x y) Q ρ w := by
  intro a ha
  refine MW.sq ((h a ha).mono fun e a w hu => ?_)
  cases e <;> simp only [up, thenR, Exit.then] at hu ⊢
  · obtain ⟨ρ, h1, h2⟩ := hu; exact h2 a h1
  all_goals exact hu
theorem RW.rg (h : RL P N ms Q ρ w) : RW P N (.rg ms) Q ρ w := fun a ha => MW.rg (h a ha)
theorem RW.cd {t : Nat} {x y : MCode} {b : Bool} (ht : ρ t = .bool b) (h1 : b = true → RW P N x Q ρ w) (h2 : b = false → RW P N y Q ρ w) (hN : t < N := by decide) : RW P N (.cd t x y) Q ρ w :=
  fun a ha => MW.cd ((ha.get t hN).trans ht) (fun e => h1 e a ha) (fun e => h2 e a ha)
theorem RW.bl {id : Nat} {x : MCode} (h : RW P N x (inBlockR id Q) ρ w) : RW P N (.bl id x) Q ρ w := by
  intro a ha
  refine MW.bl ((h a ha).mono fun e a w hu => ?_)
  cases e <;> simp only [up, inBlockR, Exit.inBlock] at hu ⊢
  all_goals try exact hu
  obtain ⟨ρ, h1, h2⟩ := hu
  split at h2
  · rename_i e; rw [if_pos e]; exact ⟨ρ, h1, h2⟩
  · rename_i e; rw [if_neg e]; exact ⟨ρ, h1, h2⟩
theorem RW.lp {x : MCode} (I : (Nat → Value) → World → Prop) (μ : (Nat → Value) → World → Nat) (h₀ : I ρ w)
    (round : ∀ ρ w, I ρ w → RW P N x (thenR (fun ρ' w' => I ρ' w' ∧ μ ρ' w' < μ ρ w) Q) ρ w) (hμ : ∀ ρ ρ' w, (∀ s, s < N → ρ s = ρ' s) → μ ρ w = μ ρ' w := by intros; rfl) : RW P N (.lp x) Q ρ w := by
  intro a ha
  refine MW.lp (fun a w => ∃ ρ, Loc N N ρ a ∧ I ρ w) (fun a w => μ (rd a) w) ⟨ρ, ha, h₀⟩ ?_
  rintro a w ⟨ρ, hl, hi⟩
  refine (round ρ w hi a hl).mono fun e a' w' hu => ?_
  cases e <;> simp only [up, thenR, Exit.then] at hu ⊢
  all_goals try exact hu
  obtain ⟨ρ', h1, h2, h3⟩ := hu
  refine ⟨⟨ρ', h1, h2⟩, ?_⟩
  rw [hμ (rd a') ρ' w' (fun s hs => h1.get s hs), hμ (rd a) ρ w (fun s hs => hl.get s hs)]
  exact h3
theorem RW.ex {id : Nat} (h : Q (.exit id) ρ w) : RW P N (.ex id) Q ρ w := fun a ha => MW.ex ⟨ρ, ha, h⟩
theorem RW.rt (h : Q .ret ρ w) : RW P N .rt Q ρ w := fun a ha => MW.rt ⟨ρ, ha, h⟩
theorem RW.sk (h : Q .normal ρ w) : RW P N .sk Q ρ w := fun a ha => MW.sk ⟨ρ, ha, h⟩
theorem RL.nil (h : Q .normal ρ w) : RL P N [] Q ρ w := fun a ha => ML.nil ⟨ρ, ha, h⟩
def retQ (r : Nat) (R : Ending → World → Prop) : Exit → (Nat → Value) → World → Prop
  | .ret, ρ, w => R (.returned (ρ r)) w
  | _, _, _ => False
theorem up_retQ {r : Nat} (hr : r < N) {R : Ending → World → Prop} {fn : Func} (hres : fn.results = #[.tmp r]) {e : Exit} {a : Act} (h : up N (retQ r R) e a w) : bodyPost P fn R e a w := by
  cases e <;> simp only [up, retQ] at h
  all_goals first | (obtain ⟨ρ, h1, h2⟩ := h; exact h2.elim) | skip
  · obtain ⟨ρ, h1, h2⟩ := h
    refine bodyPost_ret (v := ρ r) ?_ h1.defers h2
    rw [results_tmp hres]
    congr 1
    exact h1.get r hr
  all_goals exact h.elim
theorem FnIs.runs {f r : Nat} {m : MCode} (h : FnIs P f m N r) {args : List Value} {R : Ending → World → Prop} (hle : args.length ≤ N) (hr : r < N)
    (hw : RW P N m (retQ r R) (args0 args) w) : Calls P f args.toArray w R :=
  h.calls hle fun a fn hres hl => (hw a hl).mono fun _ _ _ hu => up_retQ hr hres hu
/-! ### One operation's run -/
def MX.lt (N : Nat) : MX → Bool
  | .t s => Nat.blt s N
  | .c _ => true
def MR (P : Program) (N : Nat) (m : MOp) (ρ : Nat → Value) (w : World) (d : Nat) (v : Value) (w' : World) : Prop :=
  ∀ (a : Act) (o : Oper), Loc N N ρ a → fitOp m o.dst o.op = true → o.dst = some d ∧ (execOp a.eval o).run P w = .ok (.value v) w'
theorem RL.step {m : MOp} {d : Nat} {v : Value} {w' : World} (hm : MR P N m ρ w d v w') (h : RL P N ms Q (upd ρ d v) w') (hd : d < N := by decide) : RL P N (m :: ms) Q ρ w := by
  intro a ha
  refine ML.step (d := some d) (v := v) (w' := w') (fun o ho => ?_) (h _ (ha.put hd))
  obtain ⟨h1, h2⟩ := hm a o ha (fitOper_op ho)
  exact ⟨h1, .inl h2⟩
theorem MX.evalL {a : Act} {x : MX} {y : Operand} (hl : Loc N N ρ a) (hx : x.lt N = true) (h : x.is y = true) : a.eval y = xof ρ x := by
  rw [MX.is_eval h a, MX.of_loc hl]
  rintro s rfl
  simpa [MX.lt, Nat.blt_eq] using hx
theorem tmpL {a : Act} {s : Nat} {y : Operand} (hl : Loc N N ρ a) (hs : s < N) (h : tmpIs s y = true) : a.eval y = ρ s := by
  rw [tmpIs_eq h]; exact hl.get s hs
variable {d : Nat} {v : Value} {w' : World}
theorem MR.mv {x : MX} (hv : xof ρ x = v := by rfl) (hx : x.lt N = true := by rfl) : MR P N (.mv d x) ρ w d v w := by
  subst hv
  intro a o hl hf
  generalize hop : o.op = op at hf
  unfold execOp
  cases op <;> simp only [fitOp, Bool.and_eq_true, Bool.false_eq_true] at hf
  all_goals exact ⟨dstIs_eq hf.1, by simp only [hop, MX.evalL hl hx hf.2]; rfl⟩
theorem MR.nc {s : Nat} {p : Addr} (hv : ρ s = .pointer (some p)) (hs : s < N := by decide) : MR P N (.nc d s) ρ w d (.pointer (some p)) w := by
  intro a o hl hf; generalize hop : o.op = op at hf; unfold execOp; cases op <;> simp only [fitOp, Bool.and_eq_true, Bool.false_eq_true, Nat.beq_eq] at hf
  exact ⟨dstIs_eq hf.1, by simp only [hop, tmpL hl hs hf.2, hv]; rfl⟩
theorem MR.fa {T s f b o off : Nat} (hv : ρ s = .pointer (some ⟨b, o, none⟩)) (hF : fieldAtB P T f off = true) (hs : s < N := by decide) : MR P N (.fa d T s f) ρ w d (.pointer (some ⟨b, o + off, none⟩)) w := by
  intro a o hl hf; generalize hop : o.op = op at hf; unfold execOp; cases op <;> simp only [fitOp, Bool.and_eq_true, Bool.false_eq_true, Nat.beq_eq] at hf
  obtain ⟨⟨⟨h1, h2⟩, h3⟩, h4⟩ := hf
  subst h2 h4
  refine ⟨dstIs_eq h1, ?_⟩
  simp only [hop, Sem.run_bind, tmpL hl hs h3, hv, run_fieldAt hF, Result.andThen_ok, Sem.run_pure]
theorem MR.ldBy {ty s : Nat} (hr : (Instr.loadAt ty (ρ s)).run P w = .ok v w) (hs : s < N := by decide) : MR P N (.ld d ty s) ρ w d v w := by
  intro a o hl hf; generalize hop : o.op = op at hf; unfold execOp; cases op <;> simp only [fitOp, Bool.and_eq_true, Bool.false_eq_true, Nat.beq_eq] at hf
  obtain ⟨⟨h1, h2⟩, h3⟩ := hf
  subst h2
  exact ⟨dstIs_eq h1, by simp only [hop, Sem.run_bind, tmpL hl hs h3, hr, Result.andThen_ok, Sem.run_pure]⟩
theorem MR.ld {ty s : Nat} {p : Addr} (hv : ρ s = .pointer (some p)) (hp : plainTy P ty = true) (hc : w.cell? p = some v) (hs : s < N := by decide) : MR P N (.ld d ty s) ρ w d v w :=
  MR.ldBy (by rw [hv]; exact run_loadAt_one hp hc) hs
theorem MR.ldRow {ty s b o : Nat} {cs : List Value} (hv : ρ s = .pointer (some ⟨b, o, none⟩)) (hp : rowTy P ty = true) (hn : cellsB P ty cs.length = true) (hc : w.rangeAt b o cs) (hs : s < N := by decide) :
    MR P N (.ld d ty s) ρ w d (.agg cs.toArray) w := MR.ldBy (by rw [hv]; exact run_loadAt_row hp hn hc) hs
theorem MR.bi {ty : Nat} {op : BinOp} {x y : MX} (hg : ∀ (ox oy : Operand), (eqGuard op ty ox oy (xof ρ x) (xof ρ y)).run P w = .ok () w)
    (hv : (binOp op ty (xof ρ x) (xof ρ y)).run P w = .ok v w) (hx : x.lt N = true := by rfl) (hy : y.lt N = true := by rfl) : MR P N (.bi d op ty x y) ρ w d v w := by
  intro a o hl hf
  generalize hop : o.op = op' at hf
  unfold execOp
  cases op' <;> simp only [fitOp, Bool.and_eq_true, Bool.false_eq_true, Nat.beq_eq] at hf
  obtain ⟨⟨⟨⟨⟨h1, h2⟩, h3⟩, h4⟩, h5⟩, _⟩ := hf
  have h2' := sameOp_eq h2
  subst h2' h3
  exact ⟨dstIs_eq h1, by simp only [hop, MX.evalL hl hx h4, MX.evalL hl hy h5, Sem.run_bind, hg, hv, Result.andThen_ok, Sem.run_pure]⟩
theorem MR.biE {ty : Nat} {op : BinOp} {x y : MX} (h : evB op (xof ρ x) (xof ρ y) = some v) (hx : x.lt N = true := by rfl) (hy : y.lt N = true := by rfl) : MR P N (.bi d op ty x y) ρ w d v w :=
  MR.bi (fun ox oy => (evB_run ty h).2 ox oy) (evB_run ty h).1 hx hy
theorem MR.b2 {op : BinOp} {x y : MX} (h : evB op (xof ρ x) (xof ρ y) = some v) (hx : x.lt N = true := by rfl) (hy : y.lt N = true := by rfl) : MR P N (.b2 d op x y) ρ w d v w := by
  intro a o hl hf
  generalize hop : o.op = op' at hf
  unfold execOp
  cases op' <;> simp only [fitOp, Bool.and_eq_true, Bool.false_eq_true] at hf
  obtain ⟨⟨⟨h1, h2⟩, h4⟩, h5⟩ := hf
  have h2' := sameOp_eq h2
  subst h2'
  exact ⟨dstIs_eq h1, by simp only [hop, MX.evalL hl hx h4, MX.evalL hl hy h5, Sem.run_bind, (evB_run (P := P) (w := w) _ h).1, (evB_run (P := P) (w := w) _ h).2, Result.andThen_ok, Sem.run_pure]⟩
theorem MR.nt {s : Nat} {b : Bool} (hv : ρ s = .bool b) (hs : s < N := by decide) : MR P N (.nt d s) ρ w d (.bool !b) w := by
  intro a o hl hf
  generalize hop : o.op = op' at hf
  unfold execOp
  cases op' <;> try (simp only [fitOp, Bool.false_eq_true] at hf; done)
  rename_i u ty x
  cases u <;> simp only [fitOp, Bool.and_eq_true, Bool.false_eq_true] at hf
  exact ⟨dstIs_eq hf.1, by simp only [hop, Sem.run_bind, tmpL hl hs hf.2, hv, Op.unary]; rfl⟩
theorem MR.cv {src dst s : Nat} (hr : (convert src dst (ρ s)).run P w = .ok v w) (hs : s < N := by decide) : MR P N (.cv d src dst s) ρ w d v w := by
  intro a o hl hf; generalize hop : o.op = op at hf; unfold execOp; cases op <;> simp only [fitOp, Bool.and_eq_true, Bool.false_eq_true, Nat.beq_eq] at hf
  obtain ⟨⟨⟨h1, h2⟩, h3⟩, h4⟩ := hf
  subst h2 h3
  exact ⟨dstIs_eq h1, by simp only [hop, Sem.run_bind, tmpL hl hs h4, hr, Result.andThen_ok, Sem.run_pure]⟩
theorem MR.cvI {src dst s : Nat} {k0 k : IntKind} {n : Int} (hv : ρ s = .int k0 n) (h1 : intTy P src k0 = true) (h2 : intTy P dst k = true) (hs : s < N := by decide) : MR P N (.cv d src dst s) ρ w d (.int k (k.wrap n)) w :=
  MR.cv (by rw [hv]; exact run_convert_int h1 h2 n) hs
theorem MR.builtin {m : MOp} {b : Builtin} {T : List Nat} {xs : List MX}
    (hm : ∀ o : Oper, fitOp m o.dst o.op = true → o.dst = some d ∧ ∃ args ats, o.op = .call { callee := .builtin b, args := args, argTypes := ats } ∧ (T = ats.toList ∨ ∀ T' ty cs, (Go.builtin b T' ty cs (xs.map (xof ρ)).toArray).run P w = .ok (.value v) w') ∧ allX xs args.toList = true)
    (hx : ∀ x ∈ xs, MX.lt N x = true) (hr : ∀ ty cs, (Go.builtin b T.toArray ty cs (xs.map (xof ρ)).toArray).run P w = .ok (.value v) w') : MR P N m ρ w d v w' := by
  intro a o hl hf
  obtain ⟨h1, args, ats, h2, h3, h4⟩ := hm o hf
  refine ⟨h1, ?_⟩
  have hargs : args.map a.eval = (xs.map (xof ρ)).toArray := by
    apply Array.toList_inj.1
    rw [Array.toList_map]
    generalize args.toList = l at h4
    clear h2 hr hm h3
    induction xs generalizing l with
    | nil => cases l <;> simp_all [allX]
    | cons x xs ih =>
      cases l with
      | nil => simp [allX] at h4
      | cons y l =>
        simp only [allX, Bool.and_eq_true] at h4
        simp only [List.map_cons]
        rw [MX.evalL hl (hx x List.mem_cons_self) h4.1, ih (fun x hx' => hx x (List.mem_cons_of_mem _ hx')) l h4.2]
  unfold execOp
  simp only [h2, resolve, Sem.run_bind, Sem.run_pure, Result.andThen_ok, invoke, hargs]
  rcases h3 with rfl | h3
  · have hats : ats = ats.toList.toArray := by simp
    rw [hats]
    exact hr _ _
  · exact h3 _ _ _
theorem MR.ln {ty s e : Nat} {p : Option Addr} {n c : Nat} (ht : sliceOf P ty e = true) (hv : ρ s = .slice p n c) (hs : s < N := by decide) : MR P N (.ln d ty s) ρ w d (.int .i64 n) w := by
  refine MR.builtin (b := .len) (T := [ty]) (xs := [.t s]) (fun o hf => ?_) (by simp [MX.lt, Nat.blt_eq, hs]) (fun t cs => ?_)
  · generalize hop : o.op = op at hf
    cases op <;> try (simp only [fitOp, Bool.false_eq_true] at hf; done)
    rename_i c
    obtain ⟨callee, args, ats⟩ := c
    cases callee <;> try (simp only [fitOp, Bool.false_eq_true] at hf; done)
    case builtin b =>
      cases b <;> try (simp only [fitOp, Bool.false_eq_true] at hf; done)
      simp only [fitOp, Bool.and_eq_true] at hf
      obtain ⟨h1, h2⟩ := hf
      generalize hA : args.toList = A at h2
      generalize hB : ats.toList = B at h2
      match A, B, h2 with
      | [y], [t'], h2 =>
        simp only [Bool.and_eq_true, Nat.beq_eq] at h2
        exact ⟨dstIs_eq h1, args, ats, rfl, .inl (by rw [hB, h2.2]), by rw [hA, tmpIs_eq h2.1]; simp [allX, MX.is]⟩
  · simp [Go.builtin, Builtin.len_, xof, hv, run_underlying (sliceOf_eq ht), goInt]
theorem MR.ia {T x i e b o len cap : Nat} {k : IntKind} {j : Nat} {sz : Nat} (ht : sliceOf P T e = true) (hn : cellsB P e sz = true)
    (hx : ρ x = .slice (some ⟨b, o, none⟩) len cap) (hi : ρ i = .int k j) (hj : j < len) (hxN : x < N := by decide) (hiN : i < N := by decide) : MR P N (.ia d T x i) ρ w d (.pointer (some ⟨b, o + j * sz, none⟩)) w := by
  intro a o hl hf; generalize hop : o.op = op at hf; unfold execOp; cases op <;> simp only [fitOp, Bool.and_eq_true, Bool.false_eq_true, Nat.beq_eq] at hf
  obtain ⟨⟨⟨h1, h2⟩, h3⟩, h4⟩ := hf
  subst h2
  refine ⟨dstIs_eq h1, ?_⟩
  have hn' := cellsB_map hn
  cases hie : P.info? e with
  | none => simp [hie] at hn'
  | some ie =>
    simp only [hie, Option.map_some, Option.some.injEq] at hn'
    simp only [hop, Sem.run_bind, tmpL hl hxN h3, tmpL hl hiN h4, hx, hi, Instr.indexAt]
    simp [asIntOf, run_underlying (sliceOf_eq ht), sizeOf, typeInfo, hie, hn', Addr.add_mid, hj]
theorem MR.pk {c x y : MX} {b : Bool} (hc : xof ρ c = .bool b) (hv : (if b then xof ρ x else xof ρ y) = v := by rfl) (hcN : c.lt N = true := by rfl) (hx : x.lt N = true := by rfl) (hy : y.lt N = true := by rfl) : MR P N (.pk d c x y) ρ w d v w := by
  subst hv
  intro a o hl hf; generalize hop : o.op = op at hf; unfold execOp; cases op <;> simp only [fitOp, Bool.and_eq_true, Bool.false_eq_true, Nat.beq_eq] at hf
  obtain ⟨⟨⟨h1, h2⟩, h3⟩, h4⟩ := hf
  refine ⟨dstIs_eq h1, ?_⟩
  simp only [hop, Sem.run_bind, MX.evalL hl hcN h2, MX.evalL hl hx h3, MX.evalL hl hy h4, hc, asBool]
  cases b <;> rfl
theorem MR.ext {s i : Nat} (hr : (Instr.extract (ρ s) i).run P w = .ok v w) (hs : s < N := by decide) : MR P N (.ext d s i) ρ w d v w := by
  intro a o hl hf; generalize hop : o.op = op at hf; unfold execOp; cases op <;> simp only [fitOp, Bool.and_eq_true, Bool.false_eq_true, Nat.beq_eq] at hf
  obtain ⟨⟨h1, h2⟩, h3⟩ := hf
  subst h3
  exact ⟨dstIs_eq h1, by simp only [hop, Sem.run_bind, tmpL hl hs h2, hr, Result.andThen_ok, Sem.run_pure]⟩
theorem fitOpt_map {a : Act} {x : Option MX} {y : Option Operand} (hl : Loc N N ρ a) (hx : ∀ z, x = some z → z.lt N = true) (h : fitOpt x y = true) : y.map a.eval = x.map (xof ρ) := by
  cases x <;> cases y <;> simp only [fitOpt, Bool.false_eq_true] at h
  · rfl
  · simp [MX.evalL hl (hx _ rfl) h]
theorem MR.sl {T x : Nat} {lo hi mx : Option MX} (hr : (Instr.sliceAt T (ρ x) (lo.map (xof ρ)) (hi.map (xof ρ)) (mx.map (xof ρ))).run P w = .ok v w)
    (h0 : ∀ z, lo = some z → z.lt N = true := by simp [MX.lt]) (h1 : ∀ z, hi = some z → z.lt N = true := by simp [MX.lt]) (h2 : ∀ z, mx = some z → z.lt N = true := by simp [MX.lt]) (hs : x < N := by decide) : MR P N (.sl d T x lo hi mx) ρ w d v w := by
  intro a o hl hf
  generalize hop : o.op = op at hf
  unfold execOp
  cases op <;> simp only [fitOp, Bool.and_eq_true, Bool.false_eq_true, Nat.beq_eq] at hf
  obtain ⟨⟨⟨⟨⟨g1, g2⟩, g3⟩, g4⟩, g5⟩, g6⟩ := hf
  subst g2
  exact ⟨dstIs_eq g1, by simp only [hop, Sem.run_bind, tmpL hl hs g3, fitOpt_map hl h0 g4, fitOpt_map hl h1 g5, fitOpt_map hl h2 g6, hr, Result.andThen_ok, Sem.run_pure]⟩
/-! ### Operations that make or write -/
theorem MR.bx {T s : Nat} (hs : s < N := by decide) : MR P N (.bx d T s) ρ w d (.pointer (some ⟨w.heap.size, 0, none⟩)) (w.alloc (.cells (ρ s).cells T)) := by
  intro a o hl hf; generalize hop : o.op = op at hf; unfold execOp; cases op <;> simp only [fitOp, Bool.and_eq_true, Bool.false_eq_true, Nat.beq_eq] at hf
  obtain ⟨⟨h1, h2⟩, h3⟩ := hf
  subst h2
  refine ⟨dstIs_eq h1, ?_⟩
  simp only [hop, Sem.run_bind, tmpL hl hs h3, Instr.box, newVar, newRow, run_newObj, Result.andThen_ok, Sem.run_pure]
  rfl
theorem MR.al {T : Nat} {z : Value} (hz : ∃ i, P.info? T = some i ∧ i.zero = some z) : MR P N (.al d T) ρ w d (.pointer (some ⟨w.heap.size, 0, none⟩)) (w.alloc (.cells z.cells T)) := by
  intro a o hl hf; generalize hop : o.op = op at hf; unfold execOp; cases op <;> simp only [fitOp, Bool.and_eq_true, Bool.false_eq_true, Nat.beq_eq] at hf
  obtain ⟨i, hi, hz⟩ := hz
  obtain ⟨h1, h2⟩ := hf
  subst h2
  refine ⟨dstIs_eq h1, ?_⟩
  simp only [hop, Sem.run_bind, Instr.alloc, zeroValue, typeInfo, run_program, Result.andThen_ok, hi, Sem.run_pure, hz, newVar, newRow, run_newObj]
  rfl
theorem fitPairs_map {a : Act} : ∀ {ps : List (Nat × MX)} {qs : List (Nat × Operand)}, Loc N N ρ a → (∀ p ∈ ps, p.2.lt N = true) → fitPairs ps qs = true → qs.map (fun p => (p.1, a.eval p.2)) = ps.map (fun p => (p.1, xof ρ p.2))
  | [], [], _, _, _ => rfl
  | [], _ :: _, _, _, h => by simp [fitPairs] at h
  | _ :: _, [], _, _, h => by simp [fitPairs] at h
  | (i, x) :: ps, (j, y) :: qs, hl, hx, h => by
    simp only [fitPairs, Bool.and_eq_true, Nat.beq_eq] at h
    obtain ⟨⟨rfl, h2⟩, h3⟩ := h
    simp only [List.map_cons]
    rw [MX.evalL hl (hx _ List.mem_cons_self) h2, fitPairs_map hl (fun p hp => hx p (List.mem_cons_of_mem _ hp)) h3]
theorem MR.bdl {T : Nat} {ps : List (Nat × MX)} (hr : (Instr.build T (ps.map fun p => (p.1, xof ρ p.2)).toArray).run P w = .ok v w') (hx : ∀ p ∈ ps, p.2.lt N = true := by simp [MX.lt, Nat.blt_eq]) : MR P N (.bdl d T ps) ρ w d v w' := by
  intro a o hl hf; generalize hop : o.op = op at hf; unfold execOp; cases op <;> simp only [fitOp, Bool.and_eq_true, Bool.false_eq_true, Nat.beq_eq] at hf
  rename_i T' qs
  obtain ⟨⟨h1, h2⟩, h3⟩ := hf
  subst h2
  refine ⟨dstIs_eq h1, ?_⟩
  have : (qs.map fun (x : Nat × Operand) => match x with | (i, x) => (i, a.eval x)) = (ps.map fun p => (p.1, xof ρ p.2)).toArray := by
    apply Array.toList_inj.1
    rw [Array.toList_map]
    exact fitPairs_map hl hx h3
  simp only [hop, Sem.run_bind, this, hr, Result.andThen_ok, Sem.run_pure]
theorem fitParts_map {a : Act} : ∀ {i : Nat} {xs : List MX} {ps : List (Nat × Operand)}, Loc N N ρ a → (∀ x ∈ xs, MX.lt N x = true) → fitParts i xs ps = true → ps.map (fun (p : Nat × Operand) => (p.1, a.eval p.2)) = (List.range' i xs.length).zip (xs.map (xof ρ))
  | i, [], [], _, _, _ => rfl
  | i, [], _ :: _, _, _, h => by simp [fitParts] at h
  | i, _ :: _, [], _, _, h => by simp [fitParts] at h
  | i, x :: xs, (j, o) :: ps, hl, hx, h => by
    simp only [fitParts, Bool.and_eq_true, Nat.beq_eq] at h
    obtain ⟨⟨rfl, h2⟩, h3⟩ := h
    simp only [List.map_cons, List.length_cons, List.range'_succ, List.zip_cons_cons]
    rw [MX.evalL hl (hx _ List.mem_cons_self) h2, fitParts_map hl (fun p hp => hx p (List.mem_cons_of_mem _ hp)) h3]
theorem MR.bslBy {T : Nat} {xs : List MX} (hr : (Instr.buildSlice T xs.length ((List.range' 0 xs.length).zip (xs.map (xof ρ))).toArray).run P w = .ok v w') (hx : ∀ x ∈ xs, MX.lt N x = true := by simp [MX.lt, Nat.blt_eq]) : MR P N (.bsl d T xs) ρ w d v w' := by
  intro a o hl hf; generalize hop : o.op = op at hf; unfold execOp; cases op <;> simp only [fitOp, Bool.and_eq_true, Bool.false_eq_true, Nat.beq_eq] at hf
  rename_i T' n qs
  obtain ⟨⟨⟨h1, h2⟩, h3⟩, h4⟩ := hf
  subst h2 h3
  refine ⟨dstIs_eq h1, ?_⟩
  have : (qs.map fun (x : Nat × Operand) => match x with | (i, x) => (i, a.eval x)) = ((List.range' 0 xs.length).zip (xs.map (xof ρ))).toArray := by
    apply Array.toList_inj.1
    rw [Array.toList_map]
    exact fitParts_map hl hx h4
  simp only [hop, Sem.run_bind, this, hr, Result.andThen_ok, Sem.run_pure]
theorem MR.apBy {T U x y : Nat} (hr : (Builtin.append_ #[T, U] 0 #[ρ x, ρ y]).run P w = .ok v w') (hr' : ∀ ty, (Builtin.append_ #[T, U] ty #[ρ x, ρ y]).run P w = .ok v w') (hx : x < N := by decide) (hy : y < N := by decide) : MR P N (.ap d T U x y) ρ w d v w' := by
  refine MR.builtin (b := .append) (T := [T, U]) (xs := [.t x, .t y]) (fun o hf => ?_) (by simp [MX.lt, Nat.blt_eq, hx, hy]) (fun t cs => ?_)
  · generalize hop : o.op = op at hf
    cases op <;> try (simp only [fitOp, Bool.false_eq_true] at hf; done)
    rename_i c
    obtain ⟨callee, args, ats⟩ := c
    cases callee <;> try (simp only [fitOp, Bool.false_eq_true] at hf; done)
    case builtin b =>
      cases b <;> try (simp only [fitOp, Bool.false_eq_true] at hf; done)
      simp only [fitOp, Bool.and_eq_true] at hf
      obtain ⟨h1, h2⟩ := hf
      generalize hA : args.toList = A at h2
      generalize hB : ats.toList = B at h2
      match A, B, h2 with
      | [x', y'], [t', u'], h2 =>
        simp only [Bool.and_eq_true, Nat.beq_eq] at h2
        obtain ⟨⟨⟨h3, h4⟩, h5⟩, h6⟩ := h2
        exact ⟨dstIs_eq h1, args, ats, rfl, .inl (by rw [hB, h5, h6]), by rw [hA, tmpIs_eq h3, tmpIs_eq h4]; simp [allX, MX.is]⟩
  · simp only [Go.builtin, xof, List.map_cons, List.map_nil]
    rw [Sem.run_bind, hr' t]; rfl
end
section
variable {P : Program} {N : Nat} {Q Q' : Exit → (Nat → Value) → World → Prop} {ρ : Nat → Value} {w w' : World} {ms : List MOp} {d : Nat} {v : Value} {S : World → Prop} {gs : List GOp}
theorem MR.lnS {ty s : Nat} {b : ByteArray} (ht : strTy P ty = true) (hv : ρ s = .string b) (hs : s < N := by decide) : MR P N (.ln d ty s) ρ w d (.int .i64 b.size) w := by
  refine MR.builtin (b := .len) (T := [ty]) (xs := [.t s]) (fun o hf => ?_) (by simp [MX.lt, Nat.blt_eq, hs]) (fun t cs => ?_)
  · generalize hop : o.op = op at hf
    cases op <;> try (simp only [fitOp, Bool.false_eq_true] at hf; done)
    rename_i c
    obtain ⟨callee, args, ats⟩ := c
    cases callee <;> try (simp only [fitOp, Bool.false_eq_true] at hf; done)
    case builtin b =>
      cases b <;> try (simp only [fitOp, Bool.false_eq_true] at hf; done)
      simp only [fitOp, Bool.and_eq_true] at hf
      obtain ⟨h1, h2⟩ := hf
      generalize hA : args.toList = A at h2
      generalize hB : ats.toList = B at h2
      match A, B, h2 with
      | [y], [t'], h2 =>
        simp only [Bool.and_eq_true, Nat.beq_eq] at h2
        exact ⟨dstIs_eq h1, args, ats, rfl, .inl (by rw [hB, h2.2]), by rw [hA, tmpIs_eq h2.1]; simp [allX, MX.is]⟩
  · simp [Go.builtin, Builtin.len_, xof, hv, run_underlying (strTy_eq ht), goInt]
theorem MR.mn {x y : MX} {k k' : IntKind} {m n : Int} (hx : xof ρ x = .int k m) (hy : xof ρ y = .int k' n) (hxN : x.lt N = true := by rfl) (hyN : y.lt N = true := by rfl) : MR P N (.mn d x y) ρ w d (.int k (if n < m then n else m)) w := by
  refine MR.builtin (b := .min) (T := []) (xs := [x, y]) (fun o hf => ?_) (by simp [hxN, hyN]) (fun t cs => by simp [Go.builtin, hx, hy, run_min_int2])
  generalize hop : o.op = op at hf
  cases op <;> try (simp only [fitOp, Bool.false_eq_true] at hf; done)
  rename_i c
  obtain ⟨callee, args, ats⟩ := c
  cases callee <;> try (simp only [fitOp, Bool.false_eq_true] at hf; done)
  case builtin b =>
    cases b <;> try (simp only [fitOp, Bool.false_eq_true] at hf; done)
    simp only [fitOp, Bool.and_eq_true] at hf
    obtain ⟨h1, h2⟩ := hf
    generalize hA : args.toList = A at h2
    match A, h2 with
    | [x', y'], h2 =>
      simp only [Bool.and_eq_true] at h2
      exact ⟨dstIs_eq h1, args, ats, rfl, .inr (fun T' ty cs => by simp [Go.builtin, hx, hy, run_min_int2]), by rw [hA]; simp [allX, h2.1, h2.2]⟩
theorem MR.mxi {x y : MX} {k k' : IntKind} {m n : Int} (hx : xof ρ x = .int k m) (hy : xof ρ y = .int k' n) (hxN : x.lt N = true := by rfl) (hyN : y.lt N = true := by rfl) : MR P N (.mxi d x y) ρ w d (.int k (if n > m then n else m)) w := by
  refine MR.builtin (b := .max) (T := []) (xs := [x, y]) (fun o hf => ?_) (by simp [hxN, hyN]) (fun t cs => by simp [Go.builtin, hx, hy, run_max_int2])
  generalize hop : o.op = op at hf
  cases op <;> try (simp only [fitOp, Bool.false_eq_true] at hf; done)
  rename_i c
  obtain ⟨callee, args, ats⟩ := c
  cases callee <;> try (simp only [fitOp, Bool.false_eq_true] at hf; done)
  case builtin b =>
    cases b <;> try (simp only [fitOp, Bool.false_eq_true] at hf; done)
    simp only [fitOp, Bool.and_eq_true] at hf
    obtain ⟨h1, h2⟩ := hf
    generalize hA : args.toList = A at h2
    match A, h2 with
    | [x', y'], h2 =>
      simp only [Bool.and_eq_true] at h2
      exact ⟨dstIs_eq h1, args, ats, rfl, .inr (fun T' ty cs => by simp [Go.builtin, hx, hy, run_max_int2]), by rw [hA]; simp [allX, h2.1, h2.2]⟩
theorem MR.mkBy {T : Nat} {n c : MX} (hr : (Instr.makeSlice T (xof ρ n) (xof ρ c)).run P w = .ok v w') (hn : n.lt N = true := by rfl) (hc : c.lt N = true := by rfl) : MR P N (.mk d T n c) ρ w d v w' := by
  intro a o hl hf; generalize hop : o.op = op at hf; unfold execOp; cases op <;> simp only [fitOp, Bool.and_eq_true, Bool.false_eq_true, Nat.beq_eq] at hf
  obtain ⟨⟨⟨h1, h2⟩, h3⟩, h4⟩ := hf
  subst h2
  exact ⟨dstIs_eq h1, by simp only [hop, Sem.run_bind, MX.evalL hl hn h3, MX.evalL hl hc h4, hr, Result.andThen_ok, Sem.run_pure]⟩
theorem RL.stBy {ty p x : Nat} (hr : (Instr.storeAt ty (ρ p) (ρ x)).run P w = .ok () w') (h : RL P N ms Q ρ w') (hp : p < N := by decide) (hx : x < N := by decide) : RL P N (.st ty p x :: ms) Q ρ w := by
  intro a ha
  refine ML.step (d := none) (v := undef) (w' := w') (fun o' ho => ?_) (h a ha)
  have hf := fitOper_op ho
  generalize hop : o'.op = op at hf
  generalize hd : o'.dst = dd at hf
  unfold execOp
  cases op <;> cases dd <;> simp only [fitOp, Bool.and_eq_true, Bool.false_eq_true, Nat.beq_eq] at hf
  obtain ⟨⟨h1, h2⟩, h3⟩ := hf
  subst h1
  exact ⟨rfl, .inr ⟨rfl, by simp only [hop, Sem.run_bind, tmpL ha hp h2, tmpL ha hx h3, hr, Result.andThen_ok, Sem.run_pure]⟩⟩
theorem RL.st {ty p x b o : Nat} (hp : ρ p = .pointer (some ⟨b, o, none⟩)) (hn : cellsB P ty (ρ x).cells.size = true)
    (ht : w.there b o (ρ x).cells.size) (h1 : (ρ x).cells.all (·.oneCell') = true) (h : RL P N ms Q ρ (w.setCells b o (ρ x).cells.toList)) (hpN : p < N := by decide) (hx : x < N := by decide) : RL P N (.st ty p x :: ms) Q ρ w :=
  RL.stBy (by rw [hp]; exact run_storeAt_any hn ht h1) h hpN hx
theorem allX_evalL {a : Act} : ∀ {xs : List MX} {l : List Operand}, Loc N N ρ a → (∀ x ∈ xs, MX.lt N x = true) → allX xs l = true → l.map a.eval = xs.map (xof ρ)
  | [], [], _, _, _ => rfl
  | [], _ :: _, _, _, h => by simp [allX] at h
  | _ :: _, [], _, _, h => by simp [allX] at h
  | x :: xs, y :: l, hl, hx, h => by
    simp only [allX, Bool.and_eq_true] at h
    simp only [List.map_cons]
    rw [MX.evalL hl (hx x List.mem_cons_self) h.1, allX_evalL hl (fun x hx' => hx x (List.mem_cons_of_mem _ hx')) h.2]
theorem callRun {f : Nat} {xs : List MX} {a : Act} {o : Oper} (he : entersB P f = true) (hx : ∀ x ∈ xs, MX.lt N x = true) (hl : Loc N N ρ a) (hf : fitOp (.ca d f xs) o.dst o.op = true) :
    o.dst = some d ∧ (execOp a.eval o).run P w = .ok (.enter f (xs.map (xof ρ)).toArray) w := by
  obtain ⟨dst, op, type, pos, after, guard⟩ := o
  dsimp only at hf ⊢
  cases op <;> try (simp only [fitOp, Bool.false_eq_true] at hf; done)
  rename_i c
  obtain ⟨callee, args, ats⟩ := c
  cases callee <;> try (simp only [fitOp, Bool.false_eq_true] at hf; done)
  case value x =>
    cases x <;> try (simp only [fitOp, Bool.false_eq_true] at hf; done)
    simp only [fitOp, Bool.and_eq_true, Nat.beq_eq] at hf
    obtain ⟨⟨h1, h2⟩, h3⟩ := hf
    subst h2
    have hdst := dstIs_eq h1
    subst hdst
    have hargs : args.map a.eval = (xs.map (xof ρ)).toArray := by
      apply Array.toList_inj.1
      rw [Array.toList_map, allX_evalL hl hx h3]
    refine ⟨rfl, ?_⟩
    simp only [execOp, resolve, Act.eval, Deferred.ofValue, Sem.run_bind, Sem.run_pure, Result.andThen_ok, invoke, Array.append_empty, Array.empty_append]
    rw [hargs, run_callFunc_enter he]
theorem RL.ca {f : Nat} {xs : List MX} {R : Value → World → Prop} (he : entersB P f = true)
    (hc : Calls P f (xs.map (xof ρ)).toArray w (fun e w' => ∃ v, e = .returned v ∧ R v w'))
    (h : ∀ v w', R v w' → RL P N ms Q (upd ρ d v) w') (hd : d < N := by decide) (hx : ∀ x ∈ xs, MX.lt N x = true := by simp [MX.lt, Nat.blt_eq]) : RL P N (.ca d f xs :: ms) Q ρ w := by
  intro a ha
  have e : xs.map (MX.of a) = xs.map (xof ρ) := List.map_congr_left fun x hxm => MX.of_loc ha (by rintro s rfl; simpa [MX.lt, Nat.blt_eq] using hx _ hxm)
  exact ML.ca (R := R) he (by rw [e]; exact hc) fun v w' hR => h v w' hR _ (ha.put hd)
/-! ### Regions -/
theorem wpList_value' {Q : Exit → Act → World → Prop} {a : Act} {ops : Array Oper} {o : Oper} {rest : List Oper} {d : Nat} {v : Value} (hw : Region.wanted o (yielded ops a.tmps) = true) (hd : o.dst = some d)
    (hr : (execOp a.eval o).run P w = .ok (.value v) w') (h : wpList P ops Q rest (wr a d v) w') : wpList P ops Q (o :: rest) a w := by
  unfold wpList
  rw [if_pos hw]
  refine .inl ?_
  unfold Oper.wp
  rw [hr, Oper.upon_value, hd]
  exact h
def RG (P : Program) (N : Nat) (gs : List GOp) (Q : Exit → (Nat → Value) → World → Prop) (S : World → Prop) (ρ : Nat → Value) (w : World) : Prop :=
  (∀ (ops : Array Oper) (l : List Oper) (a : Act), Loc N N ρ a → S w → fitG ops gs l = true → wpList P ops (up N Q) l a w) ∧
  (∀ (ops : Array Oper) (lst : Array Bool) (fuel : Nat) (a : Act), Loc N N ρ a → S w → Region.noSelect ops = true → ordFrom ops lst gs = true → gs.length ≤ fuel → wpAnyH P .any ops (up N Q) S fuel lst a w)
theorem RG.nil (h : S w → Q .normal ρ w) : RG P N [] Q S ρ w := by
  refine ⟨fun ops l a ha hS hf => ?_, fun ops lst fuel a ha hS hns hor _ => ?_⟩
  · cases l with
    | nil => exact ⟨ρ, ha, h hS⟩
    | cons o os => simp [fitG] at hf
  · have hr : Region.ready .any ops lst = [] := by simpa [ordFrom] using hor
    cases fuel with
    | zero => exact ⟨hr, ⟨ρ, ha, h hS⟩⟩
    | succ fuel => exact ⟨fun _ => ⟨ρ, ha, h hS⟩, by rw [hr]; simp⟩
theorem fitG_cons {ops : Array Oper} {x : GOp} {xs : List GOp} {l : List Oper} (h : fitG ops (x :: xs) l = true) :
    ∃ o os, l = o :: os ∧ fitAt ops x o = true ∧ fitG ops xs os = true := by
  cases l with
  | nil => simp [fitG] at h
  | cons o os =>
    simp only [fitG, Bool.and_eq_true] at h
    exact ⟨o, os, rfl, by simp only [fitAt, Bool.and_eq_true]; exact h.1, h.2⟩
theorem ord_cons {ops : Array Oper} {x : GOp} {xs : List GOp} {lst : Array Bool} (h : ordFrom ops lst (x :: xs) = true) :
    ∃ o, ops[x.i]? = some o ∧ fitAt ops x o = true ∧ ordFrom ops (lst.setIfInBounds x.i true) xs = true ∧
      ((x.m.quiet = true ∧ Region.free .any ops lst x.i = true ∧ (Region.ready .any ops lst).contains x.i = true) ∨ (x.m.quiet = false ∧ Region.ready .any ops lst = [x.i])) := by
  simp only [ordFrom, Bool.and_eq_true] at h
  obtain ⟨⟨h1, h2⟩, h3⟩ := h
  cases ho : ops[x.i]? with
  | none => simp [ho] at h1
  | some o =>
    simp only [ho] at h1
    refine ⟨o, rfl, h1, h3, ?_⟩
    cases hq : x.m.quiet
    · rw [hq] at h2
      simp only [Bool.false_eq_true, if_false] at h2
      refine .inr ⟨rfl, ?_⟩
      split at h2
      · rename_i i hr; rw [hr, Nat.eq_of_beq_eq_true h2]
      · simp at h2
    · rw [hq] at h2
      simp only [if_true, Bool.and_eq_true] at h2
      exact .inl ⟨rfl, h2⟩
def passes (N : Nat) (ρ : Nat → Value) (b : Bool) : Option (Nat × Nat × Bool) → Prop
  | none => b = true
  | some (_, s, c) => s < N ∧ (ρ s = .bool (if b then c else !c) ∨ (b = false ∧ ρ s = undef))
theorem wanted_of {ops : Array Oper} {g : Option (Nat × Nat × Bool)} {o : Oper} {a : Act} {b : Bool} (ha : Loc N N ρ a) (hg : fitGuard ops g o.guard = true) (hp : passes N ρ b g) : Region.wanted o (yielded ops a.tmps) = b := by
  unfold Region.wanted
  cases g with
  | none =>
    cases hgo : o.guard with
    | none => simp only [passes] at hp; rw [hp]
    | some q => rw [hgo] at hg; simp [fitGuard] at hg
  | some p =>
    obtain ⟨j, s, c⟩ := p
    cases hgo : o.guard with
    | none => rw [hgo] at hg; simp [fitGuard] at hg
    | some q =>
      obtain ⟨j', c'⟩ := q
      rw [hgo] at hg
      simp only [fitGuard, Bool.and_eq_true, Nat.beq_eq, beq_iff_eq] at hg
      obtain ⟨⟨rfl, rfl⟩, h3⟩ := hg
      obtain ⟨hs, hv⟩ := hp
      cases hoj : ops[j]? with
      | none => rw [hoj] at h3; simp at h3
      | some oj =>
        rw [hoj] at h3
        have hd := dstIs_eq h3
        have ht : a.tmps[s]? = some (ρ s) := by rw [← ha.get s hs]; exact get_tmps rfl (by rw [ha.size]; exact hs)
        rcases hv with hv | ⟨rfl, hv⟩
        · have hy : yielded ops a.tmps j = some (if b then c else !c) := by
            unfold yielded
            simp only [hoj, Option.bind_some, hd, ht, hv]
          simp only [hy]
          cases b <;> cases c <;> rfl
        · have hy : yielded ops a.tmps j = none := by
            unfold yielded
            simp only [hoj, Option.bind_some, hd, ht, hv]
            rfl
          simp only [hy]
          cases c <;> rfl
theorem upPanic {o : Option Tmp} : ∀ c (a : Act) w, up N Q (.panic c) (a.put o v) w → up N Q (.panic c) a w := fun c a w h => h.elim
theorem fitAt_inv {ops : Array Oper} {x : GOp} {o : Oper} (h : fitAt ops x o = true) : fitGuard ops x.g o.guard = true ∧ fitOp x.m o.dst o.op = true ∧ x.m.d? = o.dst := by
  simp only [fitAt, Bool.and_eq_true] at h
  exact ⟨h.1.1, h.1.2, sameD_eq h.2⟩
theorem RG.q {x : GOp} (hm : ∀ w', S w' → MR P N x.m ρ w' d v w') (h : RG P N gs Q S (upd ρ d v) w) (hq : x.m.quiet = true := by rfl) (hg : passes N ρ true x.g := by first | exact rfl | exact ⟨by decide, .inl rfl⟩) (hd : d < N := by decide) : RG P N (x :: gs) Q S ρ w := by
  refine ⟨fun ops l a ha hS hf => ?_, fun ops lst fuel a ha hS hns hor hfuel => ?_⟩
  · obtain ⟨o, os, rfl, h1, h2⟩ := fitG_cons hf
    obtain ⟨h4, h5, h6⟩ := fitAt_inv h1
    obtain ⟨hod, hrun⟩ := hm w hS a o ha h5
    exact wpList_value (wanted_of ha h4 hg) hod hrun (h.1 ops os _ (ha.put hd) hS h2)
  · obtain ⟨o, h1, h2, h3, hor'⟩ := ord_cons hor
    obtain ⟨h4, h5, h6⟩ := fitAt_inv h2
    have hw := wanted_of ha h4 hg
    have hod : o.dst = some d := (hm w hS a o ha h5).1
    have hput : a.put o.dst v = wr a d v := by rw [hod]; rfl
    rcases hor' with ⟨_, hfree, hrdy⟩ | ⟨hq', _⟩
    · cases fuel with
      | zero => simp at hfuel
      | succ fuel =>
        refine wpAnyH_take h1 hns hfree hrdy upPanic (.inl ⟨hw, fun w' hS' => (hm w' hS' a o ha h5).2⟩) hS ?_
        rw [hput]
        exact h.2 ops _ fuel _ (ha.put hd) hS hns h3 (by simpa using hfuel)
    · rw [hq] at hq'; simp at hq'
theorem RG.no {x : GOp} (hg : passes N ρ false x.g := by first | exact ⟨by decide, .inl rfl⟩ | exact ⟨by decide, .inr ⟨rfl, rfl⟩⟩) (h : RG P N gs Q S (upd ρ d undef) w) (hd0 : x.m.d? = some d := by rfl) (hd : d < N := by decide) : RG P N (x :: gs) Q S ρ w := by
  refine ⟨fun ops l a ha hS hf => ?_, fun ops lst fuel a ha hS hns hor hfuel => ?_⟩
  · obtain ⟨o, os, rfl, h1, h2⟩ := fitG_cons hf
    obtain ⟨h4, h5, h6⟩ := fitAt_inv h1
    exact wpList_passed (wanted_of ha h4 hg) (by rw [← h6]; exact hd0) (h.1 ops os _ (ha.put hd) hS h2)
  · obtain ⟨o, h1, h2, h3, hor'⟩ := ord_cons hor
    obtain ⟨h4, h5, h6⟩ := fitAt_inv h2
    have hw := wanted_of ha h4 hg
    have hod : o.dst = some d := by rw [← h6]; exact hd0
    have hput : a.put o.dst undef = wr a d undef := by rw [hod]; rfl
    have hy : YieldsIf P ops S o undef a := .inr ⟨hw, rfl⟩
    cases fuel with
    | zero => simp at hfuel
    | succ fuel =>
      have hnext := h.2 ops _ fuel _ (ha.put hd) hS hns h3 (by simpa using hfuel)
      rcases hor' with ⟨_, hfree, hrdy⟩ | ⟨_, hr⟩
      · refine wpAnyH_take h1 hns hfree hrdy upPanic hy hS ?_
        rw [hput]; exact hnext
      · refine wpAnyH_all hr (by simp) fun i hi => ?_
        have hik : i = x.i := by simpa using hi
        subst hik
        exact hy.wpOp h1 hS ⟨hS, by rw [hput]; exact hnext⟩
theorem RG.x {x : GOp} (hm : MR P N x.m ρ w d v w') (hS' : S w → S w') (h : RG P N gs Q S (upd ρ d v) w') (hq : x.m.quiet = false := by rfl) (hg : passes N ρ true x.g := by first | exact rfl | exact ⟨by decide, .inl rfl⟩) (hd : d < N := by decide) : RG P N (x :: gs) Q S ρ w := by
  refine ⟨fun ops l a ha hS hf => ?_, fun ops lst fuel a ha hS hns hor hfuel => ?_⟩
  · obtain ⟨o, os, rfl, h1, h2⟩ := fitG_cons hf
    obtain ⟨h4, h5, h6⟩ := fitAt_inv h1
    obtain ⟨hod, hrun⟩ := hm a o ha h5
    exact wpList_value' (wanted_of ha h4 hg) hod hrun (h.1 ops os _ (ha.put hd) (hS' hS) h2)
  · obtain ⟨o, h1, h2, h3, hor'⟩ := ord_cons hor
    obtain ⟨h4, h5, h6⟩ := fitAt_inv h2
    have hw := wanted_of ha h4 hg
    obtain ⟨hod, hrun⟩ := hm a o ha h5
    have hput : a.put o.dst v = wr a d v := by rw [hod]; rfl
    rcases hor' with ⟨hq', _⟩ | ⟨_, hr⟩
    · rw [hq] at hq'; simp at hq'
    · cases fuel with
      | zero => simp at hfuel
      | succ fuel =>
        refine wpAnyH_all hr (by simp) fun i hi => ?_
        have hik : i = x.i := by simpa using hi
        subst hik
        unfold wpOp
        simp only [h1, hw, if_true]
        refine .inl ?_
        unfold Oper.wp
        rw [hrun, Oper.upon_value, hput]
        exact ⟨hS' hS, h.2 ops _ fuel _ (ha.put hd) (hS' hS) hns h3 (by simpa using hfuel)⟩
theorem RG.ca {i : Nat} {g : Option (Nat × Nat × Bool)} {f : Nat} {xs : List MX} {R : Value → World → Prop} (he : entersB P f = true)
    (hc : S w → Calls P f (xs.map (xof ρ)).toArray w (fun e w' => ∃ v, e = .returned v ∧ R v w' ∧ S w'))
    (h : ∀ v w', R v w' → RG P N gs Q S (upd ρ d v) w') (hg : passes N ρ true g := by first | exact rfl | exact ⟨by decide, .inl rfl⟩) (hd : d < N := by decide) (hx : ∀ x ∈ xs, MX.lt N x = true := by simp [MX.lt, Nat.blt_eq]) : RG P N (⟨i, g, .ca d f xs⟩ :: gs) Q S ρ w := by
  refine ⟨fun ops l a ha hS hf => ?_, fun ops lst fuel a ha hS hns hor hfuel => ?_⟩
  · obtain ⟨o, os, rfl, h1, h2⟩ := fitG_cons hf
    obtain ⟨h4, h5, h6⟩ := fitAt_inv h1
    obtain ⟨hod, hrun⟩ := callRun (d := d) (w := w) he hx ha h5
    have hput : ∀ v, a.put o.dst v = wr a d v := fun v => by rw [hod]; rfl
    unfold wpList
    rw [if_pos (wanted_of ha h4 hg)]
    refine .inl ?_
    unfold Oper.wp
    rw [hrun, Oper.upon_enter]
    refine Calls.mono (hc hS) ?_
    rintro e w' ⟨v, rfl, hR, hS'⟩
    dsimp only
    rw [hput]
    exact (h v w' hR).1 ops os _ (ha.put hd) hS' h2
  · obtain ⟨o, h1, h2, h3, hor'⟩ := ord_cons hor
    obtain ⟨h4, h5, h6⟩ := fitAt_inv h2
    have hw := wanted_of ha h4 hg
    obtain ⟨hod, hrun⟩ := callRun (d := d) (w := w) he hx ha h5
    have hput : ∀ v, a.put o.dst v = wr a d v := fun v => by rw [hod]; rfl
    rcases hor' with ⟨hq', _⟩ | ⟨_, hr⟩
    · simp [MOp.quiet] at hq'
    · cases fuel with
      | zero => simp at hfuel
      | succ fuel =>
        refine wpAnyH_all hr (by simp) fun j hj => ?_
        have hik : j = i := by simpa using hj
        subst hik
        unfold wpOp
        dsimp only at h1
        simp only [h1, hw, if_true]
        refine .inl ?_
        unfold Oper.wp
        rw [hrun, Oper.upon_enter]
        refine Calls.mono (hc hS) ?_
        rintro e w' ⟨v, rfl, hR, hS'⟩
        dsimp only
        rw [hput]
        exact ⟨hS', (h v w' hR).2 ops _ fuel _ (ha.put hd) hS' hns h3 (by simpa using hfuel)⟩
def World.drew1 (w : World) : World := { w with drawn := w.drawn + 1 }
theorem RW.gf {gs : List GOp} (S : World → Prop) (hS : S w) (h : RG P N gs Q S ρ w) : RW P N (.gr false gs) Q ρ w := by
  intro a ha c hc
  cases c <;> try (simp only [fits, Bool.false_eq_true] at hc; done)
  rename_i id ops dr
  simp only [fits, Bool.and_eq_true, beq_iff_eq] at hc
  obtain ⟨rfl, h2⟩ := hc
  exact wp_region_list (h.1 ops _ a ha hS (by simpa using h2))
theorem RW.gd {gs : List GOp} (hmo : P.follows .mixedOrders = true) (S : World → Prop) (hS : S (World.drew1 w)) (h : RG P N gs Q S ρ (World.drew1 w)) : RW P N (.gr true gs) Q ρ w := by
  intro a ha c hc
  cases c <;> try (simp only [fits, Bool.false_eq_true] at hc; done)
  rename_i id ops dr
  simp only [fits, Bool.and_eq_true, beq_iff_eq, if_true] at hc
  obtain ⟨rfl, h3⟩ := hc
  simp only [if_true, ordOk, Bool.and_eq_true, Nat.ble_eq] at h3
  exact wp_region_any hmo (wpAny_of_held (S := S) _ _ _ _ (h.2 ops _ _ a ha hS h3.1.1 h3.2 h3.1.2))
end
section
variable {P : Program} {N : Nat} {Q : Exit → (Nat → Value) → World → Prop} {ρ : Nat → Value} {w : World} {ms : List MOp} {T : IT}
theorem ltT {x : Nat} (h : x < N) : MX.lt N (.t x) = true := by simp [MX.lt, Nat.blt_eq, h]
theorem run_apOwn {T U m c B : Nat} {ad : Option Addr} {bs l : List UInt8} {sv : Value} (hT : sliceOf P T U = true) (hU : u8Ty P U = true) (ho : OwnB U w B sv bs)
    (hm : m = l.length) (hb : BytesAt w (fun _ => True) ad l) (hB : B ≤ w.heap.size) (hlim : bs.length + l.length ≤ lim) :
    ∃ sv' w', (∀ ty, (Builtin.append_ #[T, T] ty #[sv, .slice ad m c]).run P w = .ok sv' w') ∧ OwnB U w' B sv' (bs ++ l) ∧ Below B w w' ∧ w.grownBy w' sv.ownBlock := by
  obtain ⟨i, hi, hs, hby, hz⟩ := u8Ty_info hU
  have hl1 : lim = 1099511627776 := rfl
  have hbase : ∀ k, sv.ownBlock = some k → B ≤ k := fun k hk => (World.ownsRow.lt ho k hk).1
  cases ad with
  | some ad =>
    obtain ⟨v', w', h1, h2, h3, _⟩ := run_append_own (P := P) w B T 0 U i (.int .u8 0) 1 1 (sliceOf_eq hT) hi hz hs hby rfl (by omega) sv bs.length (bs.map byteV) ho ad m c (l.map byteV) (by simp [hm])
      (fun j u hu => by
        simp only [List.getElem?_map, Option.map_eq_some_iff] at hu
        obtain ⟨b, hb1, rfl⟩ := hu
        obtain ⟨g, o, he, _, hc⟩ := hb j b hb1
        cases he
        rw [Addr.add_mid]; exact hc)
      (by intro u hu; simp only [List.mem_map] at hu; obtain ⟨b, _, rfl⟩ := hu; rfl) (by simp only [maxLen]; omega) (by omega) hB
    refine ⟨v', w', fun ty => h1, ?_, (Below.refl _ _).grown h3 hB hbase, h3⟩
    unfold OwnB
    rw [List.length_append, List.map_append, ← hm]
    exact h2
  | none =>
    have hl : l = [] := by
      cases l with
      | nil => rfl
      | cons b l =>
        obtain ⟨g, o, he, _⟩ := hb 0 b rfl
        simp at he
    subst hl
    simp only [List.length_nil] at hm
    subst hm
    have hrun : ∀ ty, (Builtin.append_ #[T, T] ty #[sv, .slice none 0 c]).run P w = .ok sv w := by
      intro ty
      rcases ho.2 with ⟨rfl, h0⟩ | ⟨g, cap, cur, rfl, _, _, hnc, _⟩
      · simp [Builtin.append_, run_underlying (sliceOf_eq hT), sizeOf, typeInfo, hi, Builtin.lenOf, Builtin.firstCells]
      · simp [Builtin.append_, run_underlying (sliceOf_eq hT), sizeOf, typeInfo, hi, Builtin.lenOf, Builtin.firstCells, hnc, storeCells]
    exact ⟨sv, w, hrun, by rw [List.append_nil]; exact ho, Below.refl _ _, ⟨rfl, rfl, rfl, Nat.le_refl _, fun _ _ _ => rfl⟩⟩
theorem run_apStr {T U V B : Nat} {bs : List UInt8} {sv : Value} {s : ByteArray} (hT : sliceOf P T U = true) (hU : u8Ty P U = true) (hV : strTy P V = true) (ho : OwnB U w B sv bs)
    (hB : B ≤ w.heap.size) (hlim : bs.length + s.data.toList.length ≤ lim) :
    ∃ sv' w', (∀ ty, (Builtin.append_ #[T, V] ty #[sv, .string s]).run P w = .ok sv' w') ∧ OwnB U w' B sv' (bs ++ s.data.toList) ∧ Below B w w' := by
  obtain ⟨i, hi, hs, hby, hz⟩ := u8Ty_info hU
  have hl1 : lim = 1099511627776 := rfl
  have hsz : s.data.toList.length = s.size := Array.length_toList
  have hbase : ∀ k, sv.ownBlock = some k → B ≤ k := fun k hk => (World.ownsRow.lt ho k hk).1
  obtain ⟨v', w', h1, h2, h3, _⟩ := Lib.run_append_own_string (P := P) w B T V 0 U i (sliceOf_eq hT) (strTy_eq hV) hi hz hs hby sv bs.length (bs.map byteV) ho s (by simp only [maxLen]; omega) (by omega) hB
  refine ⟨v', w', fun ty => h1, ?_, (Below.refl _ _).grown h3 hB hbase⟩
  unfold OwnB
  rw [List.length_append, List.map_append, hsz]
  have : s.data.toList.map byteV = Lib.strCells s := rfl
  rw [this]
  exact h2
theorem RL.apOwn {d T U x y m c B : Nat} {ad : Option Addr} {bs l : List UInt8} {sv : Value} (hT : sliceOf P T U = true) (hU : u8Ty P U = true) (hx : ρ x = sv) (ho : OwnB U w B sv bs)
    (hy : ρ y = .slice ad m c) (hm : m = l.length) (hb : BytesAt w (fun _ => True) ad l) (hB : B ≤ w.heap.size) (hlim : bs.length + l.length ≤ lim)
    (h : ∀ sv' w', OwnB U w' B sv' (bs ++ l) → Below B w w' → RL P N ms Q (upd ρ d sv') w') (hxN : x < N := by decide) (hyN : y < N := by decide) (hd : d < N := by decide) : RL P N (.ap d T T x y :: ms) Q ρ w := by
  obtain ⟨sv', w', h1, h2, h3, _⟩ := run_apOwn (c := c) hT hU ho hm hb hB hlim
  subst hx
  exact RL.step (MR.apBy (by rw [hy]; exact h1 0) (fun ty => by rw [hy]; exact h1 ty) hxN hyN) (h sv' w' h2 h3) hd
theorem RL.apStr {d T U V x y B : Nat} {bs : List UInt8} {sv : Value} {s : ByteArray} (hT : sliceOf P T U = true) (hU : u8Ty P U = true) (hV : strTy P V = true) (hx : ρ x = sv) (ho : OwnB U w B sv bs)
    (hy : ρ y = .string s) (hB : B ≤ w.heap.size) (hlim : bs.length + s.data.toList.length ≤ lim)
    (h : ∀ sv' w', OwnB U w' B sv' (bs ++ s.data.toList) → Below B w w' → RL P N ms Q (upd ρ d sv') w') (hxN : x < N := by decide) (hyN : y < N := by decide) (hd : d < N := by decide) : RL P N (.ap d T V x y :: ms) Q ρ w := by
  obtain ⟨sv', w', h1, h2, h3⟩ := run_apStr hT hU hV ho hB hlim
  subst hx
  exact RL.step (MR.apBy (by rw [hy]; exact h1 0) (fun ty => by rw [hy]; exact h1 ty) hxN hyN) (h sv' w' h2 h3) hd
theorem RL.caA {U d f x B : Nat} {y : MX} {bs out : List UInt8} {sv : Value} {R : World → Nat → Value → List UInt8 → Prop} (hc : ApC P U f R) (hx : ρ x = sv) (ho : OwnB U w B sv bs) (hR : R w B (xof ρ y) out) (hB : B ≤ w.heap.size) (hlim : bs.length + out.length ≤ lim)
    (h : ∀ sv' w', OwnB U w' B sv' (bs ++ out) → Below B w w' → RL P N ms Q (upd ρ d sv') w') (hxN : x < N := by decide) (hyN : y.lt N = true := by rfl) (hd : d < N := by decide) : RL P N (.ca d f [.t x, y] :: ms) Q ρ w := by
  subst hx
  refine RL.ca (R := fun sv' w' => OwnB U w' B sv' (bs ++ out) ∧ Below B w w') hc.1 ?_ (fun v w' h' => h v w' h'.1 h'.2) hd (by intro z hz; simp only [List.mem_cons, List.not_mem_nil, or_false] at hz; rcases hz with rfl | rfl; exact ltT hxN; exact hyN)
  refine (hc.2 w B (ρ x) (xof ρ y) bs out hB ho hR hlim).mono ?_
  rintro e w' ⟨sv', rfl, h2⟩
  exact ⟨sv', rfl, h2⟩
theorem ret_ap {B r : Nat} {w' : World} {U : Nat} {out : List UInt8} {sv : Value} (hr : ρ r = sv) (h : OwnB U w' B sv out) (hb : Below B w w') :
    retQ r (fun e w' => ∃ sv', e = .returned sv' ∧ OwnB U w' B sv' out ∧ Below B w w') .ret ρ w' := ⟨ρ r, rfl, hr ▸ h, hb⟩
theorem BytesAt.below {w w' : World} {B : Nat} {ad : Option Addr} {l : List UInt8} (h : BytesAt w (· < B) ad l) (hb : Below B w w') : BytesAt w' (· < B) ad l :=
  h.mono (fun _ h => h) (fun b hb' => hb.block b hb')
theorem BytesAt.any {w : World} {F : Nat → Prop} {ad : Option Addr} {l : List UInt8} (h : BytesAt w F ad l) : BytesAt w (fun _ => True) ad l := h.mono (fun _ _ => trivial) (fun _ _ => rfl)
def StrC (P : Program) (U f : Nat) (flex : Bool) : Prop := ApC P U f (fun _ _ x out => ∃ s : ByteArray, s.data.toList.length ≤ 32767 ∧ x = .string s ∧ out = cnt flex 2 s.data.toList.length ++ s.data.toList)
def BytC (P : Program) (U f : Nat) (flex : Bool) : Prop := ApC P U f (fun w B x out => ∃ ad c l, List.length l ≤ 32767 ∧ x = .slice ad (List.length l) c ∧ BytesAt w (· < B) ad l ∧ out = cnt flex 4 l.length ++ l)
def codeStr (T : IT) (V t g : Nat) : MCode := rows [.rg [.mv 4 (.c .nslice)], .rg [.mv 5 (.t 0), .mv 6 (.t 1), .ln 7 V 6, .cv 8 T.int t 7, .ca 9 g [.t 5, .t 8], .mv 0 (.t 9)],
  .rg [.mv 10 (.t 0), .mv 11 (.t 1), .ap 12 T.u8s V 10 11, .mv 4 (.t 12)], .rt]
def codeCStr (T : IT) (V g : Nat) : MCode := rows [.rg [.mv 4 (.c .nslice)], .rg [.mv 5 (.t 0), .mv 6 (.t 1), .ln 7 V 6, .cv 8 T.int T.u32 7, .b2 9 .add (.c (.int .u32 1)) (.t 8), .ca 10 g [.t 5, .t 9], .mv 0 (.t 10)],
  .rg [.mv 11 (.t 0), .mv 12 (.t 1), .ap 13 T.u8s V 11 12, .mv 4 (.t 13)], .rt]
theorem appStr {f g : Nat} (tk : TOK P T) (hs : T.str ≠ 0) (h : T.i16 ≠ 0) (hf : FnIs P f (codeStr T T.str T.i16 g) 13 4) (hg : I16C P T.u8 g) : StrC P T.u8 f false := by
  refine ⟨hf.ent, ?_⟩
  rintro w B sv x bs out hB ho ⟨s, hn, rfl, rfl⟩ hlim
  have hsz2 : s.data.toList.length = s.size := Array.length_toList
  rw [hsz2] at hlim hn ⊢
  rw [List.length_append, hsz2] at hlim
  change bs.length + ((fix s.size 2).length + s.size) ≤ lim at hlim
  refine hf.runs (args := [sv, .string s]) (by simp) (by omega) ?_
  refine RW.sq (RW.rg (RL.step MR.mv (RL.nil (RW.sq (RW.rg (RL.step MR.mv (RL.step MR.mv (RL.step (MR.lnS (tk.str hs) (b := s) rfl) (RL.step (MR.cvI rfl tk.int (tk.i16 h)) ?_)))))))))
  refine RL.caA (sv := sv) (bs := bs) (out := fix s.size 2) hg rfl ho ⟨s.size, by show Value.int .i16 (IntKind.i16.wrap (s.size : Int)) = _; rw [wrap_i16 (by omega) (by omega)], rfl⟩ hB (by omega) ?_
  intro sv1 w1 o1 b1
  refine RL.step MR.mv (RL.nil (RW.sq (RW.rg (RL.step MR.mv (RL.step MR.mv (RL.apStr (sv := sv1) (s := s) tk.u8s tk.u8 (tk.str hs) rfl o1 rfl (Nat.le_trans hB b1.size) ?_ ?_))))))
  · rw [List.length_append, hsz2]; omega
  intro sv2 w2 o2 b2
  refine RL.step MR.mv (RL.nil (RW.rt (ret_ap (sv := sv2) rfl ?_ (b1.trans b2))))
  rw [List.append_assoc] at o2; exact o2
theorem appCStr {f g : Nat} (tk : TOK P T) (hs : T.str ≠ 0) (h : T.u32 ≠ 0) (hf : FnIs P f (codeCStr T T.str g) 14 4) (hg : UvarC P T.u8 g) : StrC P T.u8 f true := by
  refine ⟨hf.ent, ?_⟩
  rintro w B sv x bs out hB ho ⟨s, hn, rfl, rfl⟩ hlim
  have hsz2 : s.data.toList.length = s.size := Array.length_toList
  rw [hsz2] at hlim hn ⊢
  rw [List.length_append, hsz2] at hlim
  change bs.length + ((uv (s.size + 1)).length + s.size) ≤ lim at hlim
  refine hf.runs (args := [sv, .string s]) (by simp) (by omega) ?_
  refine RW.sq (RW.rg (RL.step MR.mv (RL.nil (RW.sq (RW.rg (RL.step MR.mv (RL.step MR.mv (RL.step (MR.lnS (tk.str hs) (b := s) rfl) (RL.step (MR.cvI rfl tk.int (tk.u32 h)) (RL.step (MR.b2 (v := .int .u32 ((s.size + 1 : Nat) : Int)) ?_) ?_))))))))))
  · show evB .add (.int .u32 1) (.int .u32 (IntKind.u32.wrap (s.size : Int))) = _
    simp only [evB, if_true, one_add (show s.size < 4294967295 by omega)]
  refine RL.caA (sv := sv) (bs := bs) (out := uv (s.size + 1)) hg rfl ho ⟨s.size + 1, by omega, rfl, rfl⟩ hB (by omega) ?_
  intro sv1 w1 o1 b1
  refine RL.step MR.mv (RL.nil (RW.sq (RW.rg (RL.step MR.mv (RL.step MR.mv (RL.apStr (sv := sv1) (s := s) tk.u8s tk.u8 (tk.str hs) rfl o1 rfl (Nat.le_trans hB b1.size) ?_ ?_))))))
  · rw [List.length_append, hsz2]; omega
  intro sv2 w2 o2 b2
  refine RL.step MR.mv (RL.nil (RW.rt (ret_ap (sv := sv2) rfl ?_ (b1.trans b2))))
  rw [List.append_assoc] at o2; exact o2
theorem appByt {f g : Nat} (tk : TOK P T) (h : T.i32 ≠ 0) (hf : FnIs P f (codeStr T T.u8s T.i32 g) 13 4) (hg : I32C P T.u8 g) : BytC P T.u8 f false := by
  refine ⟨hf.ent, ?_⟩
  rintro w B sv x bs out hB ho ⟨ad, c, l, hn, rfl, hb, rfl⟩ hlim
  rw [List.length_append] at hlim
  change bs.length + ((fix l.length 4).length + l.length) ≤ lim at hlim
  refine hf.runs (args := [sv, .slice ad l.length c]) (by simp) (by omega) ?_
  refine RW.sq (RW.rg (RL.step MR.mv (RL.nil (RW.sq (RW.rg (RL.step MR.mv (RL.step MR.mv (RL.step (MR.ln tk.u8s (p := ad) (n := l.length) (c := c) rfl) (RL.step (MR.cvI rfl tk.int (tk.i32 h)) ?_)))))))))
  refine RL.caA (sv := sv) (bs := bs) (out := fix l.length 4) hg rfl ho ⟨l.length, by show Value.int .i32 (IntKind.i32.wrap (l.length : Int)) = _; rw [wrap_i32 (by omega) (by omega)], rfl⟩ hB (by omega) ?_
  intro sv1 w1 o1 b1
  refine RL.step MR.mv (RL.nil (RW.sq (RW.rg (RL.step MR.mv (RL.step MR.mv (RL.apOwn (sv := sv1) (l := l) (ad := ad) (m := l.length) (c := c) tk.u8s tk.u8 rfl o1 rfl rfl (hb.below b1).any (Nat.le_trans hB b1.size) ?_ ?_))))))
  · rw [List.length_append]; omega
  intro sv2 w2 o2 b2
  refine RL.step MR.mv (RL.nil (RW.rt (ret_ap (sv := sv2) rfl ?_ (b1.trans b2))))
  rw [List.append_assoc] at o2; exact o2
theorem appCByt {f g : Nat} (tk : TOK P T) (h : T.u32 ≠ 0) (hf : FnIs P f (codeCStr T T.u8s g) 14 4) (hg : UvarC P T.u8 g) : BytC P T.u8 f true := by
  refine ⟨hf.ent, ?_⟩
  rintro w B sv x bs out hB ho ⟨ad, c, l, hn, rfl, hb, rfl⟩ hlim
  rw [List.length_append] at hlim
  change bs.length + ((uv (l.length + 1)).length + l.length) ≤ lim at hlim
  refine hf.runs (args := [sv, .slice ad l.length c]) (by simp) (by omega) ?_
  refine RW.sq (RW.rg (RL.step MR.mv (RL.nil (RW.sq (RW.rg (RL.step MR.mv (RL.step MR.mv (RL.step (MR.ln tk.u8s (p := ad) (n := l.length) (c := c) rfl) (RL.step (MR.cvI rfl tk.int (tk.u32 h)) (RL.step (MR.b2 (v := .int .u32 ((l.length + 1 : Nat) : Int)) ?_) ?_))))))))))
  · show evB .add (.int .u32 1) (.int .u32 (IntKind.u32.wrap (l.length : Int))) = _
    simp only [evB, if_true, one_add (show l.length < 4294967295 by omega)]
  refine RL.caA (sv := sv) (bs := bs) (out := uv (l.length + 1)) hg rfl ho ⟨l.length + 1, by omega, rfl, rfl⟩ hB (by omega) ?_
  intro sv1 w1 o1 b1
  refine RL.step MR.mv (RL.nil (RW.sq (RW.rg (RL.step MR.mv (RL.step MR.mv (RL.apOwn (sv := sv1) (l := l) (ad := ad) (m := l.length) (c := c) tk.u8s tk.u8 rfl o1 rfl rfl (hb.below b1).any (Nat.le_trans hB b1.size) ?_ ?_))))))
  · rw [List.length_append]; omega
  intro sv2 w2 o2 b2
  refine RL.step MR.mv (RL.nil (RW.rt (ret_ap (sv := sv2) rfl ?_ (b1.trans b2))))
  rw [List.append_assoc] at o2; exact o2
/-! ### Null or not -/
def NStrC (P : Program) (U f : Nat) (flex : Bool) : Prop := ApC P U f (fun w B x out => (x = .pointer none ∧ out = cntNull flex 2) ∨ ∃ b, ∃ s : ByteArray, b < B ∧ x = .pointer (some ⟨b, 0, none⟩) ∧ w.cell? ⟨b, 0, none⟩ = some (.string s) ∧ s.data.toList.length ≤ 32767 ∧ out = cnt flex 2 s.data.toList.length ++ s.data.toList)
def NBytC (P : Program) (U f : Nat) (flex : Bool) : Prop := ApC P U f (fun w B x out => (∃ c, x = .slice none 0 c ∧ out = cntNull flex 4) ∨ ∃ ad c l, List.length l ≤ 32767 ∧ x = .slice (some ad) (List.length l) c ∧ BytesAt w (· < B) (some ad) l ∧ out = cnt flex 4 l.length ++ l)
def codeNStr (T : IT) (Tp g h : Nat) (k : IntKind) (z : Int) : MCode := rows [.rg [.mv 4 (.c .nslice)], .sq (.rg [.mv 5 (.t 1), .bi 6 .eql Tp (.t 5) (.c .nptr)])
  (.cd 6 (.sq (.rg [.mv 7 (.t 0), .ca 8 g [.t 7, .c (.int k z)], .mv 4 (.t 8)]) .rt) .sk), .rg [.mv 9 (.t 0), .mv 10 (.t 1), .nc 11 10, .ld 12 T.str 11, .ca 13 h [.t 9, .t 12], .mv 4 (.t 13)], .rt]
def codeNByt (T : IT) (g h : Nat) (k : IntKind) (z : Int) : MCode := rows [.rg [.mv 4 (.c .nslice)], .sq (.rg [.mv 5 (.t 1), .bi 6 .eql T.u8s (.t 5) (.c .nslice)])
  (.cd 6 (.sq (.rg [.mv 7 (.t 0), .ca 8 g [.t 7, .c (.int k z)], .mv 4 (.t 8)]) .rt) .sk), .rg [.mv 9 (.t 0), .mv 10 (.t 1), .ca 11 h [.t 9, .t 10], .mv 4 (.t 11)], .rt]
theorem MR.eqNilS {d ty e x : Nat} {p : Option Addr} {n c : Nat} (hs : sliceOf P ty e = true) (hx : ρ x = .slice p n c) (hxN : x < N := by decide) : MR P N (.bi d .eql ty (.t x) (.c .nslice)) ρ w d (.bool p.isNone) w := by
  refine MR.bi (fun ox oy => ?_) ?_ (ltT hxN)
  · simp only [xof, hx, MVal.val]; unfold eqGuard; rfl
  · simp only [xof, hx, MVal.val]
    exact Lib.run_eql_slice_nil w ty e p n c 0 0 (sliceOf_eq hs)
theorem MR.eqNilP {d ty e x : Nat} {p : Option Addr} (hs : ptrOf P ty e = true) (hx : ρ x = .pointer p) (hxN : x < N := by decide) : MR P N (.bi d .eql ty (.t x) (.c .nptr)) ρ w d (.bool p.isNone) w := by
  refine MR.bi (fun ox oy => ?_) ?_ (ltT hxN)
  · simp only [xof, hx, MVal.val]; unfold eqGuard; rfl
  · simp only [xof, hx, MVal.val]
    have h : ∀ d : Nat, (Op.equalIn (d + 1) ty (.pointer p) (.pointer none)).run P w = .ok p.isNone w := fun d => by
      cases p <;> simp [Op.equalIn, run_underlying (ptrOf_eq hs)]
    simp only [binOp]
    simp [Op.equal, Op.maxDepth, h 9999]
theorem appNStr {f g h Tp e : Nat} {k : IntKind} {z : Int} {flex : Bool} {R : World → Nat → Value → List UInt8 → Prop} (tk : TOK P T) (hs : T.str ≠ 0) (hp : ptrOf P Tp e = true) (hpl : plainTy P T.str = true) (hf : FnIs P f (codeNStr T Tp g h k z) 14 4)
    (hg : ApC P T.u8 g R) (hz : ∀ w B, R w B (.int k z) (cntNull flex 2)) (hh : StrC P T.u8 h flex) : NStrC P T.u8 f flex := by
  refine ⟨hf.ent, ?_⟩
  rintro w B sv x bs out hB ho hx hlim
  rcases hx with ⟨rfl, rfl⟩ | ⟨b, s, hb, rfl, hc, hn, rfl⟩
  · refine hf.runs (args := [sv, .pointer none]) (by simp) (by omega) ?_
    refine RW.sq (RW.rg (RL.step MR.mv (RL.nil (RW.sq (RW.sq (RW.rg (RL.step MR.mv (RL.step (MR.eqNilP (p := none) hp rfl) (RL.nil (RW.cd (b := true) rfl (fun _ => ?_) (fun e => by cases e)))))))))))
    refine RW.sq (RW.rg (RL.step MR.mv (RL.caA (sv := sv) (bs := bs) hg rfl ho (hz w B) hB hlim ?_)))
    intro sv1 w1 o1 b1
    exact RL.step MR.mv (RL.nil (RW.rt (ret_ap (sv := sv1) rfl o1 b1)))
  · refine hf.runs (args := [sv, .pointer (some ⟨b, 0, none⟩)]) (by simp) (by omega) ?_
    refine RW.sq (RW.rg (RL.step MR.mv (RL.nil (RW.sq (RW.sq (RW.rg (RL.step MR.mv (RL.step (MR.eqNilP (p := some ⟨b, 0, none⟩) hp rfl) (RL.nil (RW.cd (b := false) rfl (fun e => by cases e) (fun _ => RW.sk ?_)))))))))))
    refine RW.sq (RW.rg (RL.step MR.mv (RL.step MR.mv (RL.step (MR.nc (p := ⟨b, 0, none⟩) rfl) (RL.step (MR.ld (p := ⟨b, 0, none⟩) rfl hpl hc) (RL.caA (sv := sv) (bs := bs) hh rfl ho ⟨s, hn, rfl, rfl⟩ hB hlim ?_))))))
    intro sv1 w1 o1 b1
    exact RL.step MR.mv (RL.nil (RW.rt (ret_ap (sv := sv1) rfl o1 b1)))
theorem appNByt {f g h : Nat} {k : IntKind} {z : Int} {flex : Bool} {R : World → Nat → Value → List UInt8 → Prop} (tk : TOK P T) (hf : FnIs P f (codeNByt T g h k z) 12 4)
    (hg : ApC P T.u8 g R) (hz : ∀ w B, R w B (.int k z) (cntNull flex 4)) (hh : BytC P T.u8 h flex) : NBytC P T.u8 f flex := by
  refine ⟨hf.ent, ?_⟩
  rintro w B sv x bs out hB ho hx hlim
  rcases hx with ⟨c, rfl, rfl⟩ | ⟨ad, c, l, hn, rfl, hb, rfl⟩
  · refine hf.runs (args := [sv, .slice none 0 c]) (by simp) (by omega) ?_
    refine RW.sq (RW.rg (RL.step MR.mv (RL.nil (RW.sq (RW.sq (RW.rg (RL.step MR.mv (RL.step (MR.eqNilS (p := none) (n := 0) (c := c) tk.u8s rfl) (RL.nil (RW.cd (b := true) rfl (fun _ => ?_) (fun e => by cases e)))))))))))
    refine RW.sq (RW.rg (RL.step MR.mv (RL.caA (sv := sv) (bs := bs) hg rfl ho (hz w B) hB hlim ?_)))
    intro sv1 w1 o1 b1
    exact RL.step MR.mv (RL.nil (RW.rt (ret_ap (sv := sv1) rfl o1 b1)))
  · refine hf.runs (args := [sv, .slice (some ad) l.length c]) (by simp) (by omega) ?_
    refine RW.sq (RW.rg (RL.step MR.mv (RL.nil (RW.sq (RW.sq (RW.rg (RL.step MR.mv (RL.step (MR.eqNilS (p := some ad) (n := l.length) (c := c) tk.u8s rfl) (RL.nil (RW.cd (b := false) rfl (fun e => by cases e) (fun _ => RW.sk ?_)))))))))))
    refine RW.sq (RW.rg (RL.step MR.mv (RL.step MR.mv (RL.caA (sv := sv) (bs := bs) hh rfl ho ⟨some ad, c, l, hn, rfl, hb, rfl⟩ hB hlim ?_))))
    intro sv1 w1 o1 b1
    exact RL.step MR.mv (RL.nil (RW.rt (ret_ap (sv := sv1) rfl o1 b1)))
end
end Go.Kx
