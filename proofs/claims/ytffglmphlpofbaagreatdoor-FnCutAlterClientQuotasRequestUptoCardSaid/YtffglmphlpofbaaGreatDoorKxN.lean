/- The laws FnAny.. of messages that are kept: the law's own code, its row. Conditions: the contracts of what it calls; the program's tests, the row's closed facts.
   Numbers with a point: appended, read. Conditions: the program's tests; what its two functions of the library without a text answer (extern). -/
import Derived.Test.YtffglmphlpofbaaGreatDoorKxM
namespace Go.Kx
open Go.RowKit Go.ChangeShapes Go.WideShapes Go.WideElems
set_option linter.unusedSimpArgs false
set_option linter.unusedVariables false

def cLawAnyK (S : SN) (fSpec fKept fAgain : Nat) : MCode :=
  .sq (.rg [.mv 2 (.c (.bool false))])
  (.sq (.sq (.rg [.mv 9 (.t 0), .ln 10 S.T.u8s 9, .bi 11 .gtr S.T.int (.t 10) (.c (.int .i64 2147483647))]) (.cd 11 (.sq (.rg [.mv 2 (.c (.bool true))]) .rt) .sk))
  (.sq (.sq (.rg [.mv 12 (.t 0), .ln 13 S.T.u8s 12, .bi 14 .gtr S.T.int (.t 13) (.c (.int .i64 1000))]) (.cd 14 (.sq (.rg [.mv 2 (.c (.bool true))]) .rt) .sk))
  (.sq (.rg [.ca 16 fSpec [], .bdl 17 S.tr [], .ca 18 fKept [.t 16, .c (.int .i64 0), .t 17], .ca 19 fAgain [.t 18], .mv 15 (.t 19), .ext 20 15 0, .ext 21 15 1, .mv 3 (.t 20), .mv 4 (.t 21)])
  (.sq (.rg [.mv 23 (.t 0), .ca 24 fAgain [.t 23], .mv 22 (.t 24), .ext 25 22 0, .ext 26 22 1, .mv 5 (.t 25), .mv 6 (.t 26)])
  (.sq (.sq (.gr false [⟨0, none, .mv 27 (.t 4)⟩, ⟨1, none, .nt 28 27⟩, ⟨2, none, .mv 29 (.t 28)⟩, ⟨3, some (2, 29, false), .mv 30 (.t 6)⟩, ⟨4, some (2, 29, false), .nt 31 30⟩, ⟨5, none, .pk 32 (.t 29) (.c (.bool true)) (.t 31)⟩]) (.cd 32 (.sq (.rg [.mv 33 (.t 4), .mv 2 (.t 33)]) .rt) .sk))
  (.sq (.rg [.mv 35 (.t 5), .ca 36 fAgain [.t 35], .mv 34 (.t 36), .ext 37 34 0, .ext 38 34 1, .mv 7 (.t 37), .mv 8 (.t 38)])
  (.sq (.gr false [⟨0, none, .mv 39 (.t 8)⟩, ⟨1, none, .mv 40 (.t 39)⟩, ⟨2, some (1, 40, true), .mv 41 (.t 5)⟩, ⟨3, some (1, 40, true), .mv 42 (.t 7)⟩, ⟨4, some (1, 40, true), .ca 43 S.fSame [.t 41, .t 42]⟩, ⟨5, none, .pk 44 (.t 40) (.t 43) (.c (.bool false))⟩, ⟨6, none, .mv 2 (.t 44)⟩]) .rt)))))))

section
variable {P : Program} {S : SN} {w w' : World} {SU : List (Nat × List UInt8) → Prop}

theorem law_anyK {f fSpec fKept fAgain gE : Nat} {fs : Fds} {flex : Int} {p : Plan} (ok : SOK P S) (hf : FnIs P f (cLawAnyK S fSpec fKept fAgain) 45 2) (hk : KeptC P S SU fKept fs) (su0 : SU []) (hsame : SameC P S.fSame)
    (hspec : SpecC P fSpec fs flex) (hag : AgainKC P S.T.u8 fAgain gE p) (w : World) (ad : Option Addr) (l : List UInt8) (c : Nat) (hby : BytesAt w (fun _ => True) ad l) (ev : Value) (hev : w.cell? ⟨gE, 0, none⟩ = some ev) (herr : isErr ev)
    (h0 : (sKept fs flex 0 Tr.zero).length ≤ 274877906944 ∧ ∃ ds ts, decK p (sKept fs flex 0 Tr.zero) = some ((0, ds, ts), []) ∧ encK p 0 ds ts = sKept fs flex 0 Tr.zero ∧ SmF okTags p.fs ds ∧ okTags ts)
    (hany : l.length ≤ 1000 → ∀ ver ds ts r, decK p l = some ((ver, ds, ts), r) → SmF okTags p.fs ds ∧ okTags ts ∧ (encK p ver ds ts).length ≤ 274877906944 ∧
      ∃ ds' ts', decK p (encK p ver ds ts) = some ((ver, ds', ts'), []) ∧ encK p ver ds' ts' = encK p ver ds ts ∧ SmF okTags p.fs ds' ∧ okTags ts') :
    Calls P f #[.slice ad l.length c] w (fun e w' => e = .returned (.bool true) ∧ Below w.heap.size w w') := by
  refine hf.runs (args := [.slice ad l.length c]) (by simp) (by omega) ?_
  refine RW.sq (RW.rg (RL.step MR.mv (RL.nil ?_)))
  refine RW.sq (RW.sq (RW.rg (RL.step (MR.mv (v := .slice ad l.length c) rfl) (RL.step (MR.ln ok.tk.u8s rfl) (RL.step (MR.biE (v := .bool (decide ((2147483647 : Int) < (l.length : Nat)))) rfl) (RL.nil ?_))))))
  refine RW.cd rfl (fun e => RW.sq (RW.rg (RL.step MR.mv (RL.nil (RW.rt ⟨rfl, Below.refl _ _⟩))))) (fun e => RW.sk ?_)
  refine RW.sq (RW.sq (RW.rg (RL.step (MR.mv (v := .slice ad l.length c) rfl) (RL.step (MR.ln ok.tk.u8s rfl) (RL.step (MR.biE (v := .bool (decide ((1000 : Int) < (l.length : Nat)))) rfl) (RL.nil ?_))))))
  refine RW.cd rfl (fun e => RW.sq (RW.rg (RL.step MR.mv (RL.nil (RW.rt ⟨rfl, Below.refl _ _⟩))))) (fun e => RW.sk ?_)
  have hl : l.length ≤ 1000 := by have := of_decide_eq_false e; omega
  -- the message of nothing is read
  obtain ⟨hlen, ds0, ts0, hd1, hd2, hd3, hd4⟩ := h0
  have hlk : (sKept fs flex 0 Tr.zero).length = (fix 0 2).length + (sWrite fs flex 0 Tr.zero).length := List.length_append
  refine RW.sq (RW.rg (RL.ca (R := fun v w' => ∃ cm, v = .agg (List.toArray cm) ∧ RepMs w' fs flex cm ∧ Below w.heap.size w w') hspec.1 ?_ ?_))
  · refine Calls.mono (hspec.2 w) ?_
    rintro e w' ⟨cm, rfl, h1, h2⟩
    exact ⟨_, rfl, cm, rfl, h1, h2⟩
  rintro v w1 ⟨cm, rfl, hms, b1⟩
  refine RL.step (MR.bdl (v := .agg [Value.int .i64 0, .slice none 0 0, .bool false, .slice none 0 0, .slice none 0 0].toArray) (w' := w1) (build_zero ok.zTr ok.lTr)) ?_
  refine RL.caB hk.1 (hk.2 w1 cm _ Tr.zero 0 flex hms (RepTr.zero w1) (goodT.zero su0) (by omega)) rfl fun sv2 w2 o2 b2 => ?_
  have B2 : Below w.heap.size w w2 := b1.trans (b2.mono b1.size)
  obtain ⟨ad2, c2, rfl, had2, hc2, hby2⟩ := o2.bytes
  have hag0 := hag.2 w2 ad2 (sKept fs flex 0 Tr.zero) c2 ev hby2 hlen (B2.kp _ _ hev) herr (fun ver' ds' ts' r h => by
    rw [hd1] at h
    simp only [Option.some.injEq, Prod.mk.injEq] at h
    obtain ⟨⟨rfl, rfl, rfl⟩, rfl⟩ := h
    exact ⟨hd3, hd4, by rw [hd2]; exact hlen⟩)
  refine RL.ca (R := fun v w' => ∃ sv, v = .tuple #[sv, .bool true] ∧ Below w2.heap.size w2 w') hag.1 ?_ ?_
  · refine Calls.mono hag0 ?_
    rintro e w' ⟨hb', ⟨ver', ds', ts', r, sv, h, rfl, ho⟩ | ⟨h, _⟩⟩
    · exact ⟨_, rfl, sv, rfl, hb'⟩
    · rw [hd1] at h; cases h
  rintro v w3 ⟨sv3, rfl, b3⟩
  have B3 : Below w.heap.size w w3 := B2.trans (b3.mono B2.size)
  refine RL.step MR.mv (RL.step (MR.ext (v := sv3) rfl) (RL.step (MR.ext (v := .bool true) rfl) (RL.step MR.mv (RL.step MR.mv (RL.nil ?_)))))
  -- the octets are read
  refine RW.sq (RW.rg (RL.step (MR.mv (v := .slice ad l.length c) rfl) ?_))
  have hag1 := hag.2 w3 ad l c ev (hby.kp B3.kp) (by omega) (B3.kp _ _ hev) herr (fun ver ds ts r h => by
    obtain ⟨a1, a2, a3, _⟩ := hany hl ver ds ts r h
    exact ⟨a1, a2, a3⟩)
  refine RL.ca (R := fun v w' => Below w3.heap.size w3 w' ∧ ((∃ ver ds ts r sv, decK p l = some ((ver, ds, ts), r) ∧ v = .tuple #[sv, .bool true] ∧ OwnB S.T.u8 w' w3.heap.size sv (encK p ver ds ts)) ∨ v = .tuple #[.slice none 0 0, .bool false])) hag.1 ?_ ?_
  · refine Calls.mono hag1 ?_
    rintro e w' ⟨hb', ⟨ver, ds', ts', r, sv, h, rfl, ho⟩ | ⟨h, rfl⟩⟩
    · exact ⟨_, rfl, hb', .inl ⟨ver, ds', ts', r, sv, h, rfl, ho⟩⟩
    · exact ⟨_, rfl, hb', .inr rfl⟩
  rintro v w4 ⟨b4, h4⟩
  have B4 : Below w.heap.size w w4 := B3.trans (b4.mono B3.size)
  rcases h4 with ⟨ver, ds, ts, r, sv, hd, rfl, ho⟩ | rfl
  · obtain ⟨a1, a2, a3, ds', ts', d1, d2, d3, d4⟩ := hany hl ver ds ts r hd
    obtain ⟨ad4, c4, rfl, _, _, hby4⟩ := ho.bytes
    refine RL.step MR.mv (RL.step (MR.ext (v := .slice ad4 (encK p ver ds ts).length c4) rfl) (RL.step (MR.ext (v := .bool true) rfl) (RL.step MR.mv (RL.step MR.mv (RL.nil ?_)))))
    refine RW.sq (RW.sq (RW.gf (Below w4.heap.size w4) (Below.refl _ _) ?_))
    refine RG.q (fun _ _ => MR.mv (v := .bool true) rfl) (RG.q (v := .bool false) (fun _ _ => MR.nt (b := true) rfl) (RG.q (fun _ _ => MR.mv (v := .bool false) rfl) (RG.q (fun _ _ => MR.mv (v := .bool true) rfl) (RG.q (v := .bool false) (fun _ _ => MR.nt (b := true) rfl) (RG.q (fun _ _ => MR.pk (b := false) (v := .bool false) rfl rfl) (RG.nil fun _ => ?_))))))
    refine RW.cd (b := false) rfl (fun e => by cases e) (fun _ => RW.sk ?_)
    refine RW.sq (RW.rg (RL.step (MR.mv (v := .slice ad4 (encK p ver ds ts).length c4) rfl) ?_))
    have hag2 := hag.2 w4 ad4 (encK p ver ds ts) c4 ev hby4 a3 (B4.kp _ _ hev) herr (fun ver2 ds2 ts2 r2 h => by
      rw [d1] at h
      simp only [Option.some.injEq, Prod.mk.injEq] at h
      obtain ⟨⟨rfl, rfl, rfl⟩, rfl⟩ := h
      exact ⟨d3, d4, by rw [d2]; exact a3⟩)
    refine RL.ca (R := fun v w' => ∃ sv, v = .tuple #[sv, .bool true] ∧ OwnB S.T.u8 w' w4.heap.size sv (encK p ver ds ts) ∧ Below w4.heap.size w4 w') hag.1 ?_ ?_
    · refine Calls.mono hag2 ?_
      rintro e w' ⟨hb', ⟨ver2, ds2, ts2, r2, sv, h, rfl, ho2⟩ | ⟨h, _⟩⟩
      · rw [d1] at h
        simp only [Option.some.injEq, Prod.mk.injEq] at h
        obtain ⟨⟨rfl, rfl, rfl⟩, rfl⟩ := h
        exact ⟨_, rfl, sv, rfl, by rw [← d2]; exact ho2, hb'⟩
      · rw [d1] at h; cases h
    rintro v w5 ⟨sv, rfl, o5, b5⟩
    have B5 : Below w.heap.size w w5 := B4.trans (b5.mono B4.size)
    obtain ⟨ad5, c5, rfl, _, _, hby5⟩ := o5.bytes
    refine RL.step MR.mv (RL.step (MR.ext (v := .slice ad5 (encK p ver ds ts).length c5) rfl) (RL.step (MR.ext (v := .bool true) rfl) (RL.step MR.mv (RL.step MR.mv (RL.nil ?_)))))
    refine RW.sq (RW.gf (Below w5.heap.size w5) (Below.refl _ _) ?_)
    refine RG.q (fun _ _ => MR.mv (v := .bool true) rfl) (RG.q (fun _ _ => MR.mv (v := .bool true) rfl) (RG.q (fun _ _ => MR.mv (v := .slice ad4 (encK p ver ds ts).length c4) rfl) (RG.q (fun _ _ => MR.mv (v := .slice ad5 (encK p ver ds ts).length c5) rfl) ?_)))
    refine RG.ca (R := fun v w' => v = .bool true ∧ Below w5.heap.size w5 w') hsame.1 (fun h0 => ?_) ?_
    · refine Calls.mono (hsame.2 w5 ad4 ad5 _ _ c4 c5 (hby4.kp b5.kp) hby5 (by omega) (by omega)) ?_
      rintro e w' ⟨rfl, h2⟩
      exact ⟨_, rfl, ⟨by simp, h2⟩, h2⟩
    rintro v w6 ⟨rfl, b6⟩
    refine RG.q (fun _ _ => MR.pk (b := true) (v := .bool true) rfl rfl) (RG.q (fun _ _ => MR.mv (v := .bool true) rfl) (RG.nil fun h => RW.rt ⟨rfl, B5.trans (h.mono B5.size)⟩))
  · refine RL.step MR.mv (RL.step (MR.ext (v := .slice none 0 0) rfl) (RL.step (MR.ext (v := .bool false) rfl) (RL.step MR.mv (RL.step MR.mv (RL.nil ?_)))))
    refine RW.sq (RW.sq (RW.gf (Below w4.heap.size w4) (Below.refl _ _) ?_))
    refine RG.q (fun _ _ => MR.mv (v := .bool true) rfl) (RG.q (v := .bool false) (fun _ _ => MR.nt (b := true) rfl) (RG.q (fun _ _ => MR.mv (v := .bool false) rfl) (RG.q (fun _ _ => MR.mv (v := .bool false) rfl) (RG.q (v := .bool true) (fun _ _ => MR.nt (b := false) rfl) (RG.q (fun _ _ => MR.pk (b := false) (v := .bool true) rfl rfl) (RG.nil fun _ => ?_))))))
    refine RW.cd (b := true) rfl (fun _ => ?_) (fun e => by cases e)
    exact RW.sq (RW.rg (RL.step (MR.mv (v := .bool true) rfl) (RL.step MR.mv (RL.nil (RW.rt ⟨rfl, B4⟩)))))
end

section
variable {P : Program} {K : KB} {g : TN} {S : SN} {R : RN} {G : TG} {E : EN} {Z : FTN} {H : Type} {B : DataW H → Nat} {BA : List (DataW H) → Nat} {enc : TypeId × Value → H}

theorem any_rowK (se : Seat2 P K g S R G E Z) (tb : ArgOk P S) (n : RL0) (h1 : (msgKB P K g S R G n).all id = true) (h2 : (specB P S n).all id = true) (hkk : isFn P n.fMax (cKept S) 14 6 = true) (hms : minSF n.pl.fs = true) (h3 : isFn P n.f (cLawAnyK S n.fSpec n.fMax n.fAgain) 45 2 = true) (hcost : Nat.ble (costs (toFds n.sx) + 30) 200000 = true)
    {fn : Func} {s : ChangeSpec} (hB : BulkOk B BA) (hp : fn.params = #[S.T.u8s]) (hr : fn.resultTypes = #[S.T.bool]) (hv : s.vars = []) (hl : laidOutB P = true) (hrd : fn.params.toList.all (fun t => P.readableRec t && decide (t < P.types.size)) = true)
    (hfn : ∀ d1, s.fn H [d1] = { results := [.lit (.bool true)], args := [d1], vars := [] }) {W : World} {base : Nat} {args : Array Value} {ds gs : List (DataW H)} {before : List MemPlace}
    (hval : ∀ (j : Nat) t v, fn.params[j]? = some t → args[j]? = some v → Value.okWide P W .any base t v) (hW : DataW.Whole enc P fn.params.toList s.vars false W args.toList ds gs before) (hev : ∃ ev, W.cell? ⟨R.gErr, 0, none⟩ = some ev ∧ isErr ev) :
    Calls P n.f args W fun e W' => ∃ v, e = .returned v ∧ s.post enc P fn false true false false W args v W' := by
  have hW' := hW
  obtain ⟨p, q, hA, hV, rfl, hfz, hnd⟩ := hW
  have hg0 : gs = [] := by
    rw [hv] at hV
    cases gs with
    | nil => rfl
    | cons g gs => simp [DataW.TrodVars] at hV
  subst hg0
  rw [hp] at hA hval
  obtain ⟨v1, vs1, d1, ds1, p1, q1, hargs, rfl, rfl, t1, r1⟩ := trodAll_cons hA
  obtain ⟨rfl, rfl, rfl⟩ := trodAll_nil r1
  obtain rfl : args = #[v1] := by cases args; simp_all
  obtain ⟨a, len, cap, rfl⟩ := okWide_slice (sliceOf_eq tb.u8s) (hval 0 S.T.u8s v1 rfl rfl)
  obtain ⟨fuel, ht⟩ := t1
  obtain ⟨ad, l, c, hcs, hoA, hlc, hby, _⟩ := open_u8s tb.u8s tb.u8 tb.cu8 hB (cs := (Value.slice a len cap).cells.toList) (x := (d1, _)) ht
  have hcs' : Value.slice a len cap = .slice ad l.length c := by simpa [Value.cells] using hcs
  obtain ⟨ev, hc, hie⟩ := hev
  obtain ⟨hag, hmost⟩ := msgK_of se.a h1
  obtain ⟨hspec, hwr, hmt⟩ := spec2_of se h2
  have hz : goodT keysOk Tr.zero := goodT.zero se.sp.su0
  have hzs : szT Tr.zero ≤ 1100000 := by decide
  have hrun := law_anyK se.se.ok (FnIs.of h3) (keptC_of se h2 hkk) se.sp.su0 se.se.same hspec hag W ad l c hby ev hc hie
    ⟨sKept_small hcost n.flex 0 hzs, kept_again hmt hmost (Nat.zero_le _) hz⟩ (fun hlen ver ds ts r hd => by
      obtain ⟨_, a2, a3, a4, ds', ts', b1, b2, b3, b4⟩ := kept_any hms hd hlen
      exact ⟨a2, a3, by omega, ds', ts', b1, b2, b3, b4⟩)
  rw [← hcs'] at hrun
  refine hrun.mono ?_
  rintro e W' ⟨rfl, hbel⟩
  exact ⟨_, rfl, row_post hl hrd hr (boolB_eq tb.bool) hv hW' hbel (by rw [List.append_nil]; exact hfn _)⟩
end
end Go.Kx
namespace Go.Kx
open Go.RowKit
set_option linter.unusedSimpArgs false
set_option linter.unusedVariables false

section
variable {P : Program} {N : Nat} {Q : Exit → (Nat → Value) → World → Prop} {ρ : Nat → Value} {w w' : World} {ms : List MOp} {d : Nat} {v : Value}

/-- A call of a function without a text. -/
theorem MR.cax {f : Nat} {xs : List MX} (hr : (callFunc f (xs.map (xof ρ)).toArray).run P w = .ok (.value v) w) (hx : ∀ x ∈ xs, MX.lt N x = true) : MR P N (.ca d f xs) ρ w d v w := by
  intro a o hl hf
  obtain ⟨dst, op, type, pos, after, guard⟩ := o
  dsimp only at hf ⊢
  cases op <;> try (simp only [fitOp, Bool.false_eq_true] at hf; done)
  rename_i c
  obtain ⟨callee, args, ats⟩ := c
  cases callee <;> try (simp only [fitOp, Bool.false_eq_true] at hf; done)
  case value x =>
    cases x <;> try (simp only [fitOp, Bool.false_eq_true] at hf; done)
    simp only [fitOp, Bool.and_eq_true, Nat.beq_eq] at hf
    obtain ⟨⟨h1, h2⟩, h3⟩ := hf
    subst h2
    have hdst := dstIs_eq h1
    subst hdst
    have hargs : args.map a.eval = (xs.map (xof ρ)).toArray := by
      apply Array.toList_inj.1
      rw [Array.toList_map, allX_evalL hl hx h3]
    refine ⟨rfl, ?_⟩
    simp only [execOp, resolve, Act.eval, Deferred.ofValue, Sem.run_bind, Sem.run_pure, Result.andThen_ok, invoke, Array.append_empty, Array.empty_append]
    rw [hargs, hr]

def cApF (K : KB) : MCode := .sq (.rg [.mv 4 (.c .nslice)]) (.sq (.rg [.mv 5 (.t 0), .mv 6 (.t 1), .ca 7 K.ffb [.t 6], .ca 8 K.u64 [.t 5, .t 7], .mv 4 (.t 8)]) .rt)
def cRdF (R : RN) : MCode := .sq (.rg [.mv 2 (.c .flt)]) (.sq (.rg [.mv 3 (.t 0), .ca 4 R.r64 [.t 3], .ca 5 R.ffr [.t 4], .mv 2 (.t 5)]) .rt)

def flB (P : Program) (K : KB) (R : RN) : List Bool := [(kbOk P K).all id, isFn P K.f64 (cApF K) 9 4, yes K.u64, isFn P R.f64 (cRdF R) 6 2, yes R.r64]

theorem apF_ok {K : KB} (hf : FnIs P K.f64 (cApF K) 9 4) (hu : ApC P K.T.u8 K.u64 (fun _ _ x out => ∃ n : Nat, n < 18446744073709551616 ∧ x = .int .u64 n ∧ out = be n 8))
    (he : ∀ (n : Nat) (w : World), (callFunc K.ffb #[.float .f64 n]).run P w = .ok (.value (.int .u64 n)) w) : F64W P K := by
  intro _
  refine ⟨hf.ent, ?_⟩
  rintro w B sv x bs out hB ho ⟨n, hn, rfl, rfl⟩ hlim
  refine hf.runs (args := [sv, .float .f64 n]) (by simp) (by omega) ?_
  refine RW.sq (RW.rg (RL.step MR.mv (RL.nil (RW.sq (RW.rg (RL.step (MR.mv (v := sv) rfl) (RL.step (MR.mv (v := .float .f64 n) rfl) (RL.step (MR.cax (v := .int .u64 (n : Nat)) (he n w) (by simp [MX.lt])) ?_))))))))
  refine RL.caA (sv := sv) (bs := bs) (out := be n 8) hu rfl ho ⟨n, hn, rfl, rfl⟩ hB hlim ?_
  intro sv1 w1 o1 b1
  exact RL.step MR.mv (RL.nil (RW.rt (ret_ap (sv := sv1) rfl o1 b1)))

theorem rdF_ok {R : RN} (hf : FnIs P R.f64 (cRdF R) 6 2) (hr : RdC P R.r64 (dNat 8) (PlB (fun x => .int .u64 (x : Nat)) (· < 18446744073709551616)))
    (he : ∀ (n : Nat) (w : World), (callFunc R.ffr #[.int .u64 (n : Nat)]).run P w = .ok (.value (.float .f64 n)) w) : F64R P R := by
  intro _ flex
  refine ⟨hf.ent, fun w rb sb st h hne => ?_⟩
  refine hf.runs (args := [.pointer (some ⟨rb, 0, none⟩)]) (by simp) (by omega) ?_
  refine RW.sq (RW.rg (RL.step MR.mv (RL.nil (RW.sq (RW.rg (RL.step (MR.mv (v := .pointer (some ⟨rb, 0, none⟩)) rfl) (RL.rd hr rfl h hne (by rfl) (by decide) ?_)))))))
  rintro v x st1 w1 hF hG hR ⟨rfl, hx⟩
  refine RL.step (MR.cax (v := .float .f64 x) (he x w1) (by simp [MX.lt])) (RL.step MR.mv (RL.nil (RW.rt ?_)))
  exact ⟨_, .n (x : Nat), st1, rfl, hF, hG.map (f := fun n : Nat => D.n (n : Nat)), hR, rfl, rfl, rfl, x, rfl, rfl, hx⟩

theorem fl_of {K : KB} {R : RN} {G : TG} (h : (flB P K R).all id = true) (h2 : (rkB P R G).all id = true) (e1 : ∀ (n : Nat) (w : World), (callFunc K.ffb #[.float .f64 n]).run P w = .ok (.value (.int .u64 n)) w)
    (e2 : ∀ (n : Nat) (w : World), (callFunc R.ffr #[.int .u64 (n : Nat)]).run P w = .ok (.value (.float .f64 n)) w) : FlOk P K R := by
  simp only [flB, List.all_cons, List.all_nil, id_eq, Bool.and_true, Bool.and_eq_true] at h
  obtain ⟨h1, h3, h4, h5, h6⟩ := h
  exact ⟨apF_ok (FnIs.of h3) (u64_of h1 (yes_of h4)).2 e1, rdF_ok (FnIs.of h5) (rd_r64 h2 (yes_of h6)) e2⟩
end
end Go.Kx
