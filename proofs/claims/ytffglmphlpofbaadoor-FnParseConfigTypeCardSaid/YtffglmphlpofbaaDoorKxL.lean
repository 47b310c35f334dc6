/- The reference's Normal, and whether an octet is a blank. Conditions: the program's tables; texts of at most 10^6 octets.
   The reference's Normal walked: small letters, without dots, underscores, dashes, without blanks at the ends. Conditions: the program's tables; texts of at most 10^6 octets.
   The reference's lists of names, and Parsed and Word over them. Conditions: the program's tables; Normal's contract; texts of at most 10^6 octets.
   plain, parsed, and the law FnParse.. of a kind of names, walked. Conditions: the program's tables; the contracts of what is called; that what is looked up in the package's list and in the reference's is the same.
   The law Fn..Text of a kind of names, walked: String, MarshalText, their readers, Word. Conditions: the program's tables; the contracts of what is called; the lists agree.
   The law Fn..Text of a kind of names, put together. Conditions: the program's tables; the contracts of what is called; every word is read as its number. -/
import Derived.Test.YtffglmphlpofbaaDoorKxK
import Derived.Lib.ConvBytes
namespace Go.Kx
open Go.RowKit
set_option linter.unusedSimpArgs false
set_option linter.unusedVariables false

def cBlank (u8 : Nat) : MCode :=
  .sq (.rg [.mv 2 (.c (.bool false))])
  (.sq (.gr false [⟨0, none, .mv 3 (.t 0)⟩, ⟨1, none, .bi 4 .eql u8 (.t 3) (.c (.int .u8 32))⟩, ⟨2, none, .mv 5 (.t 4)⟩, ⟨3, some (2, 5, false), .mv 6 (.t 0)⟩, ⟨4, some (2, 5, false), .bi 7 .geq u8 (.t 6) (.c (.int .u8 9))⟩, ⟨5, some (2, 5, false), .mv 8 (.t 7)⟩,
    ⟨6, some (5, 8, true), .mv 9 (.t 0)⟩, ⟨7, some (5, 8, true), .bi 10 .leq u8 (.t 9) (.c (.int .u8 13))⟩, ⟨8, some (2, 5, false), .pk 11 (.t 8) (.t 10) (.c (.bool false))⟩, ⟨9, none, .pk 12 (.t 5) (.c (.bool true)) (.t 11)⟩, ⟨10, none, .mv 2 (.t 12)⟩]) .rt)

def BlankC (P : Program) (f : Nat) : Prop := entersB P f = true ∧ ∀ (b : UInt8) (w : World), Calls P f #[byteV b] w (fun e w' => e = .returned (.bool (Lib.isSp b)) ∧ w' = w)

section
variable {P : Program} {N : Nat} {Q : Exit → (Nat → Value) → World → Prop} {ρ : Nat → Value} {w w' : World} {ms : List MOp} {d : Nat}

theorem sp_of (b : UInt8) : Lib.isSp b = (decide ((b.toNat : Int) = 32) || (decide ((9 : Int) ≤ (b.toNat : Int)) && decide ((b.toNat : Int) ≤ 13))) := by
  have h : ∀ i : Fin 256, Lib.isSp (UInt8.ofNat i.val) = (decide (((i.val : Nat) : Int) = 32) || (decide ((9 : Int) ≤ ((i.val : Nat) : Int)) && decide (((i.val : Nat) : Int) ≤ 13))) := by decide +kernel
  have := h ⟨b.toNat, b.toNat_lt⟩
  simpa using this

theorem blank_ok {f u8 : Nat} (hf : FnIs P f (cBlank u8) 13 2) : BlankC P f := by
  refine ⟨hf.ent, fun b w => ?_⟩
  refine hf.runs (args := [byteV b]) (by simp) (by omega) ?_
  refine RW.sq (RW.rg (RL.step MR.mv (RL.nil (RW.sq (RW.gf (fun w' => w' = w) rfl ?_)))))
  rw [sp_of]
  refine RG.q (v := .int .u8 b.toNat) (fun _ _ => MR.mv rfl) (RG.q (v := .bool ((b.toNat : Int) == 32)) (fun _ _ => MR.biE rfl) (RG.q (v := .bool ((b.toNat : Int) == 32)) (fun _ _ => MR.mv rfl) ?_))
  by_cases h1 : (b.toNat : Int) = 32
  · have e1 : ((b.toNat : Int) == 32) = true := by simpa using h1
    rw [e1, decide_eq_true h1]
    repeat first | refine RG.q (fun _ _ => MR.mv) ?_ | refine RG.q (fun _ _ => MR.biE rfl) ?_ | refine RG.q (fun _ _ => MR.pk rfl) ?_ | refine RG.no (by first | exact ⟨by decide, .inl rfl⟩ | exact ⟨by decide, .inr ⟨rfl, rfl⟩⟩) ?_
    exact RG.nil fun h => RW.rt ⟨rfl, h⟩
  · have e1 : ((b.toNat : Int) == 32) = false := by simpa using h1
    rw [e1, decide_eq_false h1]
    refine RG.q (v := .int .u8 b.toNat) (fun _ _ => MR.mv rfl) (RG.q (v := .bool (decide ((9 : Int) ≤ (b.toNat : Int)))) (fun _ _ => MR.biE rfl) (RG.q (v := .bool (decide ((9 : Int) ≤ (b.toNat : Int)))) (fun _ _ => MR.mv rfl) ?_))
    by_cases h2 : (9 : Int) ≤ (b.toNat : Int)
    · rw [decide_eq_true h2]
      refine RG.q (v := .int .u8 b.toNat) (fun _ _ => MR.mv rfl) (RG.q (v := .bool (decide ((b.toNat : Int) ≤ 13))) (fun _ _ => MR.biE rfl) (RG.q (v := .bool (decide ((b.toNat : Int) ≤ 13))) (fun _ _ => MR.pk (b := true) rfl) ?_))
      refine RG.q (v := .bool (decide ((b.toNat : Int) ≤ 13))) (fun _ _ => MR.pk (b := false) rfl) (RG.q (v := .bool (decide ((b.toNat : Int) ≤ 13))) (fun _ _ => MR.mv rfl) (RG.nil fun h => RW.rt ⟨?_, h⟩))
      show Ending.returned (Value.bool (decide ((b.toNat : Int) ≤ 13))) = _
      simp
    · rw [decide_eq_false h2]
      refine RG.no (by exact ⟨by decide, .inl rfl⟩) ?_
      refine RG.no (by exact ⟨by decide, .inl rfl⟩) ?_
      refine RG.q (v := .bool false) (fun _ _ => MR.pk (b := false) rfl) ?_
      exact RG.q (v := .bool false) (fun _ _ => MR.pk (b := false) rfl) (RG.q (v := .bool false) (fun _ _ => MR.mv rfl) (RG.nil fun h => RW.rt ⟨rfl, h⟩))

/-- An octet of a text. -/
theorem MR.ixt {V x i j : Nat} {k : IntKind} {s : ByteArray} {b : UInt8} (hV : strTy P V = true) (hx : ρ x = .string s) (hi : ρ i = .int k (j : Nat)) (hb : s.data.toList[j]? = some b) (hxN : x < N := by decide) (hiN : i < N := by decide) : MR P N (.ixt d V x i) ρ w d (byteV b) w := by
  intro a o hl hf
  generalize hop : o.op = op at hf
  unfold execOp
  cases op <;> try (simp only [fitOp, Bool.false_eq_true] at hf; done)
  simp only [fitOp, Bool.and_eq_true, Nat.beq_eq] at hf
  obtain ⟨⟨⟨h1, h2⟩, h3⟩, h4⟩ := hf
  subst h2
  have hlt : j < s.data.toList.length := (List.getElem?_eq_some_iff.1 hb).1
  have hget : s[j]? = some b := by
    have h5 : j < s.size := by have h6 := hlt; rw [Array.length_toList] at h6; exact h6
    rw [getElem?_pos s j h5]
    have h7 := (List.getElem?_eq_some_iff.1 hb).2
    rw [Array.getElem_toList] at h7
    exact congrArg some h7
  refine ⟨dstIs_eq h1, ?_⟩
  simp only [hop, Sem.run_bind, tmpL hl hxN h3, tmpL hl hiN h4, hx, hi, Instr.index, asIntOf, Sem.run_pure, Result.andThen_ok, run_underlying (strTy_eq hV)]
  rw [if_pos (by omega), Int.toNat_natCast, hget]
  rfl
end

/-! ### Normal -/
def cNormal (tS tB tI u8 fBlank : Nat) : MCode :=
  .sq (.rg [.mv 2 (.c .estr)]) (.sq (.rg [.mv 3 (.c .nslice)])
  (.sq (.sq (.rg [.mv 4 (.c (.int .i64 0))])
    (.bl 0 (.lp (.sq (.sq (.rg [.mv 6 (.t 4), .mv 7 (.t 0), .ln 8 tS 7, .bi 9 .lss tI (.t 6) (.t 8)]) (.cd 9 .sk (.ex 0)))
      (.sq (.bl 1 (.sq (.rg [.mv 12 (.t 0), .mv 13 (.t 4), .ixt 14 tS 12 13, .mv 5 (.t 14)])
        (.sq (.sq (.gr false [⟨0, none, .mv 15 (.t 5)⟩, ⟨1, none, .bi 16 .geq u8 (.t 15) (.c (.int .u8 65))⟩, ⟨2, none, .mv 17 (.t 16)⟩, ⟨3, some (2, 17, true), .mv 18 (.t 5)⟩, ⟨4, some (2, 17, true), .bi 19 .leq u8 (.t 18) (.c (.int .u8 90))⟩, ⟨5, none, .pk 20 (.t 17) (.t 19) (.c (.bool false))⟩])
          (.cd 20 (.rg [.mv 21 (.t 5), .bi 22 .add u8 (.t 21) (.c (.int .u8 32)), .mv 5 (.t 22)]) .sk))
        (.sq (.gr false [⟨0, none, .mv 23 (.t 5)⟩, ⟨1, none, .bi 24 .neq u8 (.t 23) (.c (.int .u8 46))⟩, ⟨2, none, .mv 25 (.t 24)⟩, ⟨3, some (2, 25, true), .mv 26 (.t 5)⟩, ⟨4, some (2, 25, true), .bi 27 .neq u8 (.t 26) (.c (.int .u8 95))⟩, ⟨5, none, .pk 28 (.t 25) (.t 27) (.c (.bool false))⟩, ⟨6, none, .mv 29 (.t 28)⟩,
            ⟨7, some (6, 29, true), .mv 30 (.t 5)⟩, ⟨8, some (6, 29, true), .bi 31 .neq u8 (.t 30) (.c (.int .u8 45))⟩, ⟨9, none, .pk 32 (.t 29) (.t 31) (.c (.bool false))⟩])
          (.cd 32 (.rg [.mv 33 (.t 3), .mv 34 (.t 5), .bsl 35 tB [.t 34], .ap 36 tB tB 33 35, .mv 3 (.t 36)]) .sk)))))
      (.rg [.mv 10 (.t 4), .bi 11 .add tI (.t 10) (.c (.int .i64 1)), .mv 4 (.t 11)]))))))
  (.sq (.bl 2 (.lp (.sq (.sq (.gr false [⟨0, none, .mv 37 (.t 3)⟩, ⟨1, none, .ln 38 tB 37⟩, ⟨2, none, .bi 39 .gtr tI (.t 38) (.c (.int .i64 0))⟩, ⟨3, none, .mv 40 (.t 39)⟩, ⟨4, some (3, 40, true), .mv 41 (.t 3)⟩, ⟨5, some (3, 40, true), .iak 42 tB 41 0⟩, ⟨6, some (3, 40, true), .ld 43 u8 42⟩, ⟨7, some (3, 40, true), .ca 44 fBlank [.t 43]⟩, ⟨8, none, .pk 45 (.t 40) (.t 44) (.c (.bool false))⟩])
      (.cd 45 .sk (.ex 2))) (.bl 3 (.rg [.mv 46 (.t 3), .sl 47 tB 46 (some (.c (.int .i64 1))) none none, .mv 3 (.t 47)])))))
  (.sq (.bl 4 (.lp (.sq (.sq (.gr false [⟨0, none, .mv 48 (.t 3)⟩, ⟨1, none, .ln 49 tB 48⟩, ⟨2, none, .bi 50 .gtr tI (.t 49) (.c (.int .i64 0))⟩, ⟨3, none, .mv 51 (.t 50)⟩, ⟨4, some (3, 51, true), .mv 52 (.t 3)⟩, ⟨5, some (3, 51, true), .mv 53 (.t 3)⟩, ⟨6, some (3, 51, true), .ln 54 tB 53⟩, ⟨7, some (3, 51, true), .bi 55 .sub tI (.t 54) (.c (.int .i64 1))⟩, ⟨8, some (3, 51, true), .ia 56 tB 52 55⟩, ⟨9, some (3, 51, true), .ld 57 u8 56⟩, ⟨10, some (3, 51, true), .ca 58 fBlank [.t 57]⟩, ⟨11, none, .pk 59 (.t 51) (.t 58) (.c (.bool false))⟩])
      (.cd 59 .sk (.ex 4))) (.bl 5 (.rg [.mv 60 (.t 3), .mv 61 (.t 3), .ln 62 tB 61, .bi 63 .sub tI (.t 62) (.c (.int .i64 1)), .sl 64 tB 60 none (some (.t 63)) none, .mv 3 (.t 64)])))))
  (.sq (.rg [.mv 65 (.t 3), .cv 66 tB tS 65, .mv 2 (.t 66)]) .rt)))))

def keepN (b : UInt8) : Bool := b != 46 && (b != 95 && b != 45)
/-- Small letters, without dots, underscores, dashes. -/
def mapN (l : List UInt8) : List UInt8 := (l.map Lib.lowerB).filter keepN
def normL (l : List UInt8) : List UInt8 := ((mapN l).dropWhile Lib.isSp).reverse.dropWhile Lib.isSp |>.reverse
def NormalC (P : Program) (f : Nat) : Prop := entersB P f = true ∧ ∀ (s : ByteArray) (w : World), s.size ≤ 1000000 → Calls P f #[.string s] w (fun e w' => e = .returned (.string ⟨(normL s.data.toList).toArray⟩) ∧ Below w.heap.size w w')

theorem low_case (b : UInt8) : Lib.lowerB b = if (65 : Int) ≤ (b.toNat : Int) ∧ (b.toNat : Int) ≤ 90 then UInt8.ofNat (b.toNat + 32) else b := by
  have h : ∀ i : Fin 256, Lib.lowerB (UInt8.ofNat i.val) = if (65 : Int) ≤ ((i.val : Nat) : Int) ∧ ((i.val : Nat) : Int) ≤ 90 then UInt8.ofNat (i.val + 32) else UInt8.ofNat i.val := by decide +kernel
  have := h ⟨b.toNat, b.toNat_lt⟩
  simpa using this
theorem keep_case (b : UInt8) : keepN b = (!((b.toNat : Int) == 46) && (!((b.toNat : Int) == 95) && !((b.toNat : Int) == 45))) := by
  have h : ∀ i : Fin 256, keepN (UInt8.ofNat i.val) = (!(((i.val : Nat) : Int) == 46) && (!(((i.val : Nat) : Int) == 95) && !(((i.val : Nat) : Int) == 45))) := by decide +kernel
  have := h ⟨b.toNat, b.toNat_lt⟩
  simpa using this
end Go.Kx
namespace Go.Kx
open Go.RowKit
set_option linter.unusedSimpArgs false
set_option linter.unusedVariables false

def sliceLen : Value → Nat
  | .slice _ n _ => n
  | _ => 0

section
variable {P : Program} {N : Nat} {Q : Exit → (Nat → Value) → World → Prop} {ρ : Nat → Value} {w w' : World} {ms : List MOp} {d : Nat}

theorem wrap_u8n {n : Nat} (h : n < 256) : IntKind.u8.wrap (n : Int) = (n : Int) := by rw [IntKind.wrap_u8]; omega

theorem lowR {b : UInt8} {u8 : Nat} (h5 : ρ 5 = byteV b) (hQ : ∀ ρ', (∀ s, s < 15 → s ≠ 5 → ρ' s = ρ s) → ρ' 5 = byteV (Lib.lowerB b) → Q .normal ρ' w) :
    RW P 67 (.sq (.gr false [⟨0, none, .mv 15 (.t 5)⟩, ⟨1, none, .bi 16 .geq u8 (.t 15) (.c (.int .u8 65))⟩, ⟨2, none, .mv 17 (.t 16)⟩, ⟨3, some (2, 17, true), .mv 18 (.t 5)⟩, ⟨4, some (2, 17, true), .bi 19 .leq u8 (.t 18) (.c (.int .u8 90))⟩, ⟨5, none, .pk 20 (.t 17) (.t 19) (.c (.bool false))⟩])
      (.cd 20 (.rg [.mv 21 (.t 5), .bi 22 .add u8 (.t 21) (.c (.int .u8 32)), .mv 5 (.t 22)]) .sk)) Q ρ w := by
  refine RW.sq (RW.gf (fun w' => w' = w) rfl ?_)
  have hlc := low_case b
  refine RG.q (v := byteV b) (fun _ _ => MR.mv h5) (RG.q (v := .bool (decide ((65 : Int) ≤ (b.toNat : Int)))) (fun _ _ => MR.biE rfl) (RG.q (v := .bool (decide ((65 : Int) ≤ (b.toNat : Int)))) (fun _ _ => MR.mv rfl) ?_))
  by_cases h1 : (65 : Int) ≤ (b.toNat : Int)
  · rw [decide_eq_true h1]
    refine RG.q (v := byteV b) (fun _ _ => MR.mv (by show upd _ _ _ 5 = _; (repeat (first | rw [upd_same] | rw [upd_ne _ _ (by omega)])); exact h5)) (RG.q (v := .bool (decide ((b.toNat : Int) ≤ 90))) (fun _ _ => MR.biE rfl) (RG.q (v := .bool (decide ((b.toNat : Int) ≤ 90))) (fun _ _ => MR.pk (b := true) rfl) (RG.nil fun hw => ?_)))
    by_cases h2 : (b.toNat : Int) ≤ 90
    · rw [decide_eq_true h2]
      refine RW.cd (b := true) rfl (fun _ => ?_) (fun e => by cases e)
      refine RW.rg (RL.step (MR.mv (v := byteV b) (by show upd _ _ _ 5 = _; (repeat (first | rw [upd_same] | rw [upd_ne _ _ (by omega)])); exact h5)) (RL.step (MR.biE (v := byteV (Lib.lowerB b)) ?_) (RL.step MR.mv (RL.nil ?_))))
      · show evB .add (.int .u8 b.toNat) (.int .u8 32) = some (byteV (Lib.lowerB b))
        simp only [evB, if_true]
        rw [hlc, if_pos ⟨h1, h2⟩]
        have e : (UInt8.ofNat (b.toNat + 32)).toNat = b.toNat + 32 := by rw [UInt8.toNat_ofNat']; omega
        unfold byteV
        rw [e, show ((b.toNat : Int) + 32) = ((b.toNat + 32 : Nat) : Int) from by omega, wrap_u8n (by omega)]
      · rw [hw]
        refine hQ _ (fun s hs hs5 => by (repeat (first | rw [upd_same] | rw [upd_ne _ _ (by omega)]))) ?_
        show upd _ _ _ 5 = _
        (repeat (first | rw [upd_same] | rw [upd_ne _ _ (by omega)]))
        show upd _ _ _ 22 = _
        (repeat (first | rw [upd_same] | rw [upd_ne _ _ (by omega)]))
    · rw [decide_eq_false h2]
      refine RW.cd (b := false) rfl (fun e => by cases e) (fun _ => RW.sk ?_)
      rw [hw]
      refine hQ _ (fun s hs hs5 => by (repeat (first | rw [upd_same] | rw [upd_ne _ _ (by omega)]))) ?_
      (repeat (first | rw [upd_same] | rw [upd_ne _ _ (by omega)]))
      rw [h5, hlc, if_neg (by omega)]
  · rw [decide_eq_false h1]
    refine RG.no (by exact ⟨by decide, .inl rfl⟩) ?_
    refine RG.no (by exact ⟨by decide, .inl rfl⟩) ?_
    refine RG.q (v := .bool false) (fun _ _ => MR.pk (b := false) rfl) ?_
    refine RG.nil fun hw => ?_
    refine RW.cd (b := false) rfl (fun e => by cases e) (fun _ => RW.sk ?_)
    rw [hw]
    refine hQ _ (fun s hs hs5 => by (repeat (first | rw [upd_same] | rw [upd_ne _ _ (by omega)]))) ?_
    (repeat (first | rw [upd_same] | rw [upd_ne _ _ (by omega)]))
    rw [h5, hlc, if_neg (by omega)]

theorem keepR {c : UInt8} {u8 : Nat} {body : MCode} (h5 : ρ 5 = byteV c) (h1 : keepN c = true → ∀ ρ', (∀ s, s < 23 → ρ' s = ρ s) → RW P 67 body Q ρ' w) (h2 : keepN c = false → ∀ ρ', (∀ s, s < 23 → ρ' s = ρ s) → Q .normal ρ' w) :
    RW P 67 (.sq (.gr false [⟨0, none, .mv 23 (.t 5)⟩, ⟨1, none, .bi 24 .neq u8 (.t 23) (.c (.int .u8 46))⟩, ⟨2, none, .mv 25 (.t 24)⟩, ⟨3, some (2, 25, true), .mv 26 (.t 5)⟩, ⟨4, some (2, 25, true), .bi 27 .neq u8 (.t 26) (.c (.int .u8 95))⟩, ⟨5, none, .pk 28 (.t 25) (.t 27) (.c (.bool false))⟩, ⟨6, none, .mv 29 (.t 28)⟩,
            ⟨7, some (6, 29, true), .mv 30 (.t 5)⟩, ⟨8, some (6, 29, true), .bi 31 .neq u8 (.t 30) (.c (.int .u8 45))⟩, ⟨9, none, .pk 32 (.t 29) (.t 31) (.c (.bool false))⟩])
      (.cd 32 body .sk)) Q ρ w := by
  refine RW.sq (RW.gf (fun w' => w' = w) rfl ?_)
  have hk := keep_case c
  have no : ∀ ρ' w', w' = w → ρ' 32 = .bool false → keepN c = false → (∀ s, s < 23 → ρ' s = ρ s) → RW P 67 (.cd 32 body .sk) Q ρ' w' := by
    rintro ρ' _ rfl h e hs
    exact RW.cd (b := false) h (fun e => by cases e) (fun _ => RW.sk (h2 e ρ' hs))
  refine RG.q (v := byteV c) (fun _ _ => MR.mv h5) (RG.q (v := .bool (!((c.toNat : Int) == 46))) (fun _ _ => MR.biE rfl) (RG.q (v := .bool (!((c.toNat : Int) == 46))) (fun _ _ => MR.mv rfl) ?_))
  cases e1 : ((c.toNat : Int) == 46) with
  | true =>
    refine RG.no (by exact ⟨by decide, .inl rfl⟩) ?_
    refine RG.no (by exact ⟨by decide, .inl rfl⟩) ?_
    refine RG.q (v := .bool false) (fun _ _ => MR.pk (b := false) rfl) ?_
    refine RG.q (v := .bool false) (fun _ _ => MR.mv rfl) ?_
    refine RG.no (by exact ⟨by decide, .inl rfl⟩) ?_
    refine RG.no (by exact ⟨by decide, .inl rfl⟩) ?_
    refine RG.q (v := .bool false) (fun _ _ => MR.pk (b := false) rfl) ?_
    refine RG.nil fun hw => ?_
    exact no _ _ hw (upd_same _ _ _) (by rw [hk, e1]; rfl) (fun s hs => by (repeat (first | rw [upd_same] | rw [upd_ne _ _ (by omega)])))
  | false =>
    refine RG.q (v := byteV c) (fun _ _ => MR.mv (by show upd _ _ _ 5 = _; (repeat (first | rw [upd_same] | rw [upd_ne _ _ (by omega)])); exact h5)) (RG.q (v := .bool (!((c.toNat : Int) == 95))) (fun _ _ => MR.biE rfl) (RG.q (v := .bool (!((c.toNat : Int) == 95))) (fun _ _ => MR.pk (b := true) rfl) (RG.q (v := .bool (!((c.toNat : Int) == 95))) (fun _ _ => MR.mv rfl) ?_)))
    cases e2 : ((c.toNat : Int) == 95) with
    | true =>
      refine RG.no (by exact ⟨by decide, .inl rfl⟩) ?_
      refine RG.no (by exact ⟨by decide, .inl rfl⟩) ?_
      refine RG.q (v := .bool false) (fun _ _ => MR.pk (b := false) rfl) ?_
      refine RG.nil fun hw => ?_
      exact no _ _ hw (upd_same _ _ _) (by rw [hk, e1, e2]; rfl) (fun s hs => by (repeat (first | rw [upd_same] | rw [upd_ne _ _ (by omega)])))
    | false =>
      refine RG.q (v := byteV c) (fun _ _ => MR.mv (by show upd _ _ _ 5 = _; (repeat (first | rw [upd_same] | rw [upd_ne _ _ (by omega)])); exact h5)) (RG.q (v := .bool (!((c.toNat : Int) == 45))) (fun _ _ => MR.biE rfl) (RG.q (v := .bool (!((c.toNat : Int) == 45))) (fun _ _ => MR.pk (b := true) rfl) (RG.nil fun hw => ?_)))
      cases e3 : ((c.toNat : Int) == 45) with
      | true => exact no _ _ hw (by rw [upd_same]; rfl) (by rw [hk, e1, e2, e3]; rfl) (fun s hs => by (repeat (first | rw [upd_same] | rw [upd_ne _ _ (by omega)])))
      | false =>
        have hs : ∀ s, s < 23 → (upd (upd (upd (upd (upd (upd (upd (upd (upd (upd ρ 23 (byteV c)) 24 (.bool (!false))) 25 (.bool (!false))) 26 (byteV c)) 27 (.bool (!false))) 28 (.bool (!false))) 29 (.bool (!false))) 30 (byteV c)) 31 (.bool (!false))) 32 (.bool (!false))) s = ρ s := fun s hs => by (repeat (first | rw [upd_same] | rw [upd_ne _ _ (by omega)]))
        refine RW.cd (b := true) rfl (fun _ => ?_) (fun e => by cases e)
        rw [hw]
        exact h1 (by rw [hk, e1, e2, e3]; rfl) _ hs

theorem mapN_cons {l : List UInt8} {i : Nat} {b : UInt8} (hb : l[i]? = some b) : mapN (l.drop i) = (if keepN (Lib.lowerB b) then [Lib.lowerB b] else []) ++ mapN (l.drop (i + 1)) := by
  have hil : i < l.length := (List.getElem?_eq_some_iff.1 hb).1
  have : l.drop i = b :: l.drop (i + 1) := by
    rw [List.drop_eq_getElem_cons hil]
    congr 1
    exact (List.getElem?_eq_some_iff.1 hb).2
  rw [this]
  unfold mapN
  rw [List.map_cons, List.filter_cons]
  split <;> rfl

theorem normal_ok {f tS tB tU tI u8 fBlank : Nat} (hS : strTy P tS = true) (hB : sliceOf P tB tU = true) (hU : u8Ty P tU = true) (hU1 : cellsB P tU 1 = true) (hU8 : intTy P tU .u8 = true) (hp : plainTy P u8 = true) (hb : BlankC P fBlank) (hf : FnIs P f (cNormal tS tB tI u8 fBlank) 67 2) : NormalC P f := by
  refine ⟨hf.ent, fun s w hs => ?_⟩
  refine hf.runs (args := [.string s]) (by simp) (by omega) ?_
  have elim : lim = 1099511627776 := rfl
  have hsl := size_list s
  refine RW.sq (RW.rg (RL.step MR.mv (RL.nil (RW.sq (RW.rg (RL.step MR.mv (RL.nil (RW.sq (RW.sq (RW.rg (RL.step MR.mv (RL.nil (RW.bl ?_)))))))))))))
  refine RW.lp (fun ρ w' => ∃ (i : Nat) (sv : Value) (bs : List UInt8), i ≤ s.size ∧ ρ 0 = .string s ∧ ρ 3 = sv ∧ ρ 4 = .int .i64 (i : Nat) ∧ OwnB tU w' w.heap.size sv bs ∧ Below w.heap.size w w' ∧ bs ++ mapN (s.data.toList.drop i) = mapN s.data.toList ∧ bs.length ≤ i)
    (fun ρ _ => s.size - (intOf (ρ 4)).toNat) ⟨0, .slice none 0 0, [], by omega, rfl, rfl, rfl, OwnB.nil _ _ _, Below.refl _ _, by simp, by simp⟩ ?_ (fun ρ ρ' w h => by rw [h 4 (by omega)])
  rintro ρ1 w1 ⟨i, sv, bs, hi, q0, q3, q4, ho, hbw, hmap, hbl⟩
  have hm1 : s.size - (intOf (ρ1 4)).toNat = s.size - i := by rw [q4]; simp [intOf]
  rw [hm1]
  refine RW.knows [(0, .string s), (3, sv), (4, .int .i64 (i : Nat))] (by simp [q0, q3, q4]) (RW.sq (RW.sq (RW.rg ?_)))
  refine RL.step (MR.mv (v := .int .i64 (i : Nat)) rfl) (RL.step (MR.mv (v := .string s) rfl) (RL.step (MR.lnS (b := s) hS rfl) (RL.step (MR.biE (v := .bool (decide ((i : Int) < (s.size : Int)))) rfl) (RL.nil ?_))))
  by_cases hlt : i < s.size
  · refine RW.cd (b := true) (by show Value.bool _ = _; rw [decide_eq_true (by omega)]) (fun _ => RW.sk ?_) (fun e => by cases e)
    obtain ⟨b, hgb⟩ : ∃ b, s.data.toList[i]? = some b := ⟨_, List.getElem?_eq_getElem (by omega)⟩
    refine RW.sq (RW.bl (RW.sq (RW.rg (RL.step (MR.mv (v := .string s) rfl) (RL.step (MR.mv (v := .int .i64 (i : Nat)) rfl) (RL.step (MR.ixt (s := s) (b := b) (j := i) hS rfl rfl hgb) (RL.step (MR.mv (v := byteV b) rfl) (RL.nil ?_))))))))
    have hadd' : IntKind.i64.wrap ((i : Int) + 1) = ((i + 1 : Nat) : Int) := by rw [wrap_i64 (by omega) (by omega)]; omega
    have hcons := mapN_cons hgb
    -- the step
    have step : ∀ (ρ' : Nat → Value) (w2 : World) (sv2 : Value) (bs2 : List UInt8) (QR : Exit → (Nat → Value) → World → Prop), ρ' 0 = .string s → ρ' 3 = sv2 → ρ' 4 = .int .i64 (i : Nat) → OwnB tU w2 w.heap.size sv2 bs2 → Below w.heap.size w w2 → bs2 ++ mapN (s.data.toList.drop (i + 1)) = mapN s.data.toList → bs2.length ≤ i + 1 →
        RW P 67 (.rg [.mv 10 (.t 4), .bi 11 .add tI (.t 10) (.c (.int .i64 1)), .mv 4 (.t 11)]) (thenR (fun ρ' w' => (∃ (i : Nat) (sv : Value) (bs : List UInt8), i ≤ s.size ∧ ρ' 0 = .string s ∧ ρ' 3 = sv ∧ ρ' 4 = .int .i64 (i : Nat) ∧ OwnB tU w' w.heap.size sv bs ∧ Below w.heap.size w w' ∧ bs ++ mapN (s.data.toList.drop i) = mapN s.data.toList ∧ bs.length ≤ i) ∧ s.size - (intOf (ρ' 4)).toNat < s.size - i) QR) ρ' w2 := by
      intro ρ' w2 sv2 bs2 QR z0 z3 z4 o2 bw2 hm2 hl2
      refine RW.knows [(0, .string s), (3, sv2), (4, .int .i64 (i : Nat))] (by simp [z0, z3, z4]) (RW.rg (RL.step (MR.mv (v := .int .i64 (i : Nat)) rfl) (RL.step (MR.biE (v := .int .i64 ((i + 1 : Nat) : Int)) (by show evB .add (.int .i64 (i : Nat)) (.int .i64 1) = _; simp only [evB, if_true, hadd'])) (RL.step (MR.mv (v := .int .i64 ((i + 1 : Nat) : Int)) rfl) (RL.nil ?_)))))
      refine ⟨⟨i + 1, sv2, bs2, by omega, rfl, rfl, rfl, o2, bw2, hm2, hl2⟩, ?_⟩
      show s.size - (intOf (.int .i64 ((i + 1 : Nat) : Int))).toNat < _
      simp only [intOf]; omega
    refine RW.sq (lowR (b := b) rfl fun ρ2 hρ2 h5 => ?_)
    have z0 : ρ2 0 = .string s := (hρ2 0 (by omega) (by omega)).trans rfl
    have z3 : ρ2 3 = sv := (hρ2 3 (by omega) (by omega)).trans rfl
    have z4 : ρ2 4 = .int .i64 (i : Nat) := (hρ2 4 (by omega) (by omega)).trans rfl
    refine keepR h5 (fun hk ρ3 hρ3 => ?_) (fun hk ρ3 hρ3 => ?_)
    · have y0 : ρ3 0 = .string s := (hρ3 0 (by omega)).trans z0
      have y3 : ρ3 3 = sv := (hρ3 3 (by omega)).trans z3
      have y4 : ρ3 4 = .int .i64 (i : Nat) := (hρ3 4 (by omega)).trans z4
      have y5 : ρ3 5 = byteV (Lib.lowerB b) := (hρ3 5 (by omega)).trans h5
      refine RW.rg (RL.step (MR.mv (v := sv) y3) (RL.step (MR.mv (v := byteV (Lib.lowerB b)) (by show upd _ _ _ 5 = _; (repeat (first | rw [upd_same] | rw [upd_ne _ _ (by omega)])); exact y5)) ?_))
      refine RL.bslAp (l := [Lib.lowerB b]) (sv := sv) (bs := bs) hB hU rfl (by simp) rfl (by omega) ho hbw.size (by simp only [List.length_cons, List.length_nil]; omega) ?_
      rintro ρ4 sv' w2 rfl o2 b2
      refine RL.step (MR.mv (v := sv') rfl) (RL.nil ?_)
      refine step _ w2 sv' (bs ++ [Lib.lowerB b]) _ (by (repeat (first | rw [upd_same] | rw [upd_ne _ _ (by omega)])); exact y0) (by (repeat (first | rw [upd_same] | rw [upd_ne _ _ (by omega)]))) (by (repeat (first | rw [upd_same] | rw [upd_ne _ _ (by omega)])); exact y4) o2 (hbw.trans b2) ?_ (by simp only [List.length_append, List.length_cons, List.length_nil]; omega)
      rw [← hmap, hcons, hk, List.append_assoc]; rfl
    · refine step ρ3 w1 sv bs _ ((hρ3 0 (by omega)).trans z0) ((hρ3 3 (by omega)).trans z3) ((hρ3 4 (by omega)).trans z4) ho hbw ?_ (by omega)
      rw [← hmap, hcons, hk]; rfl
  · refine RW.cd (b := false) (by show Value.bool _ = _; rw [decide_eq_false (by omega)]) (fun e => by cases e) (fun _ => RW.ex ?_)
    have hbs : bs = mapN s.data.toList := by
      have e : s.data.toList.drop i = [] := List.drop_eq_nil_of_le (by omega)
      rw [e] at hmap
      simpa [mapN] using hmap
    obtain ⟨ad0, c0, rfl, had0, hc0, hba0⟩ := ho.bytes
    rw [hbs] at hba0 hc0
    have hbsl : bs.length = (mapN s.data.toList).length := by rw [hbs]
    rw [hbsl] at *
    have hml : (mapN s.data.toList).length ≤ 1000000 := by
      have h1 : (mapN s.data.toList).length ≤ (s.data.toList.map Lib.lowerB).length := List.length_filter_le _ _
      rw [List.length_map] at h1
      omega
    show RW P 67 _ _ _ _
    -- blanks in front
    refine RW.sq (RW.bl ?_)
    refine RW.lp (fun ρ w' => w' = w1 ∧ ∃ (ad : Option Addr) (c : Nat) (l : List UInt8), ρ 3 = .slice ad l.length c ∧ okAd ad ∧ l.length ≤ c ∧ BytesAt w1 (fun _ => True) ad l ∧ l.dropWhile Lib.isSp = (mapN s.data.toList).dropWhile Lib.isSp ∧ l.length ≤ 1000000) (fun ρ _ => sliceLen (ρ 3))
      ⟨rfl, ad0, c0, _, rfl, had0, hc0, hba0, rfl, hml⟩ ?_ (fun ρ ρ' w h => by rw [h 3 (by omega)])
    rintro ρ2 w1 ⟨rfl, ad, c, l, q3, had, hlc, hba, hdw, hl6⟩
    have hm2 : sliceLen (ρ2 3) = l.length := by rw [q3]; rfl
    rw [hm2]
    -- the end of this loop
    have behind : ∀ (ρ' : Nat → Value), ρ' 3 = .slice ad l.length c → l = (mapN s.data.toList).dropWhile Lib.isSp →
        RW P 67 (.sq (.bl 4 (.lp (.sq (.sq (.gr false [⟨0, none, .mv 48 (.t 3)⟩, ⟨1, none, .ln 49 tB 48⟩, ⟨2, none, .bi 50 .gtr tI (.t 49) (.c (.int .i64 0))⟩, ⟨3, none, .mv 51 (.t 50)⟩, ⟨4, some (3, 51, true), .mv 52 (.t 3)⟩, ⟨5, some (3, 51, true), .mv 53 (.t 3)⟩, ⟨6, some (3, 51, true), .ln 54 tB 53⟩, ⟨7, some (3, 51, true), .bi 55 .sub tI (.t 54) (.c (.int .i64 1))⟩, ⟨8, some (3, 51, true), .ia 56 tB 52 55⟩, ⟨9, some (3, 51, true), .ld 57 u8 56⟩, ⟨10, some (3, 51, true), .ca 58 fBlank [.t 57]⟩, ⟨11, none, .pk 59 (.t 51) (.t 58) (.c (.bool false))⟩])
            (.cd 59 .sk (.ex 4))) (.bl 5 (.rg [.mv 60 (.t 3), .mv 61 (.t 3), .ln 62 tB 61, .bi 63 .sub tI (.t 62) (.c (.int .i64 1)), .sl 64 tB 60 none (some (.t 63)) none, .mv 3 (.t 64)])))))
          (.sq (.rg [.mv 65 (.t 3), .cv 66 tB tS 65, .mv 2 (.t 66)]) .rt)) (retQ 2 (fun e w' => e = .returned (.string ⟨(normL s.data.toList).toArray⟩) ∧ Below w.heap.size w w')) ρ' w1 := by
      intro ρ' q3' hl
      refine RW.sq (RW.bl ?_)
      refine RW.lp (fun ρ w' => w' = w1 ∧ ∃ (m : List UInt8), ρ 3 = .slice ad m.length c ∧ m.length ≤ c ∧ BytesAt w1 (fun _ => True) ad m ∧ m.reverse.dropWhile Lib.isSp = l.reverse.dropWhile Lib.isSp ∧ m.length ≤ 1000000) (fun ρ _ => sliceLen (ρ 3))
        ⟨rfl, l, q3', hlc, hba, rfl, hl6⟩ ?_ (fun ρ ρ' w h => by rw [h 3 (by omega)])
      rintro ρ4 w1 ⟨rfl, m, q3, hmc, hbm, hdm, hm6⟩
      have hm3 : sliceLen (ρ4 3) = m.length := by rw [q3]; rfl
      rw [hm3]
      have fin : ∀ (ρ' : Nat → Value), ρ' 3 = .slice ad m.length c → m = (l.reverse.dropWhile Lib.isSp).reverse → RW P 67 (.sq (.rg [.mv 65 (.t 3), .cv 66 tB tS 65, .mv 2 (.t 66)]) .rt) (retQ 2 (fun e w' => e = .returned (.string ⟨(normL s.data.toList).toArray⟩) ∧ Below w.heap.size w w')) ρ' w1 := by
        intro ρ' h3 hmm
        refine RW.sq (RW.rg (RL.step (MR.mv (v := .slice ad m.length c) h3) (RL.step (MR.cv (conv_str hB hU8 hS had hbm)) (RL.step MR.mv (RL.nil (RW.rt ⟨?_, hbw⟩))))))
        show Ending.returned (Value.string ⟨m.toArray⟩) = _
        rw [hmm, hl]; rfl
      refine RW.knows [(3, .slice ad m.length c)] (by simp [q3]) (RW.sq (RW.sq (RW.gf (fun w' => w' = w1) rfl ?_)))
      refine RG.q (v := .slice ad m.length c) (fun _ _ => MR.mv rfl) (RG.q (v := .int .i64 (m.length : Nat)) (fun _ _ => MR.ln hB rfl) (RG.q (v := .bool (decide ((0 : Int) < (m.length : Int)))) (fun _ _ => MR.biE rfl) (RG.q (v := .bool (decide ((0 : Int) < (m.length : Int)))) (fun _ _ => MR.mv rfl) ?_)))
      by_cases hm0 : m = []
      · rw [decide_eq_false (by rw [hm0]; simp)]
        refine RG.no (by exact ⟨by decide, .inl rfl⟩) ?_
        refine RG.no (by exact ⟨by decide, .inl rfl⟩) ?_
        refine RG.no (by exact ⟨by decide, .inl rfl⟩) ?_
        refine RG.no (by exact ⟨by decide, .inl rfl⟩) ?_
        refine RG.no (by exact ⟨by decide, .inl rfl⟩) ?_
        refine RG.no (by exact ⟨by decide, .inl rfl⟩) ?_
        refine RG.no (by exact ⟨by decide, .inl rfl⟩) ?_
        refine RG.q (v := .bool false) (fun _ _ => MR.pk (b := false) rfl) ?_
        refine RG.nil fun hw => ?_
        refine RW.cd (b := false) rfl (fun e => by cases e) (fun _ => RW.ex ?_)
        refine fin _ rfl ?_
        rw [← hdm, hm0]; rfl
      · have hpos : 0 < m.length := List.length_pos_iff.2 hm0
        obtain ⟨z, hz⟩ : ∃ z, m[m.length - 1]? = some z := ⟨_, List.getElem?_eq_getElem (by omega)⟩
        obtain ⟨g, o, rfl, _, hcz⟩ := hbm (m.length - 1) z hz
        have hsplit : m = m.take (m.length - 1) ++ [z] := by
          have h1 : m.drop (m.length - 1) = [z] := by
            rw [List.drop_eq_getElem_cons (by omega), show m.length - 1 + 1 = m.length from by omega, List.drop_length]
            rw [List.getElem?_eq_getElem (by omega)] at hz
            rw [Option.some.inj hz]
          rw [← h1, List.take_append_drop]
        have hrev : m.reverse = z :: (m.take (m.length - 1)).reverse := by
          conv => lhs; rw [hsplit]
          simp
        have hsub : IntKind.i64.wrap ((m.length : Int) - 1) = ((m.length - 1 : Nat) : Int) := by
          rw [wrap_i64 (by omega) (by omega)]; omega
        rw [decide_eq_true (by omega)]
        refine RG.q (v := .slice (some ⟨g, o, none⟩) m.length c) (fun _ _ => MR.mv rfl) (RG.q (v := .slice (some ⟨g, o, none⟩) m.length c) (fun _ _ => MR.mv rfl) (RG.q (v := .int .i64 (m.length : Nat)) (fun _ _ => MR.ln hB rfl) (RG.q (v := .int .i64 ((m.length - 1 : Nat) : Int)) (fun _ _ => MR.biE (by show evB .sub (.int .i64 (m.length : Nat)) (.int .i64 1) = _; simp only [evB, if_true, hsub])) (RG.q (v := .pointer (some ⟨g, o + (m.length - 1) * 1, none⟩)) (fun _ _ => MR.ia (j := m.length - 1) hB hU1 rfl rfl (by omega)) (RG.q (v := byteV z) (fun w' hS => MR.ld rfl hp (by rw [hS, Nat.mul_one]; exact hcz)) ?_)))))
        refine RG.ca (R := fun v w' => v = .bool (Lib.isSp z) ∧ w' = w1) hb.1 (fun hw => ?_) ?_
        · exact Calls.mono (hb.2 z w1) fun e w' ⟨h1, h2⟩ => ⟨_, h1, ⟨rfl, h2⟩, h2⟩
        rintro v w1 ⟨rfl, rfl⟩
        refine RG.q (v := .bool (Lib.isSp z)) (fun _ _ => MR.pk (b := true) rfl) (RG.nil fun hw => ?_)
        cases hsp : Lib.isSp z with
        | false =>
          refine RW.cd (b := false) rfl (fun e => by cases e) (fun _ => RW.ex ?_)
          refine fin _ rfl ?_
          rw [← hdm, hrev, List.dropWhile_cons, if_neg (by simp [hsp])]
          rw [← hrev]; simp
        | true =>
          refine RW.cd (b := true) rfl (fun _ => RW.sk ?_) (fun e => by cases e)
          refine RW.bl (RW.rg (RL.step (MR.mv (v := .slice (some ⟨g, o, none⟩) m.length c) rfl) (RL.step (MR.mv (v := .slice (some ⟨g, o, none⟩) m.length c) rfl) (RL.step (MR.ln (p := some ⟨g, o, none⟩) (n := m.length) (c := c) hB rfl) (RL.step (MR.biE (v := .int .i64 ((m.length - 1 : Nat) : Int)) (by show evB .sub (.int .i64 (m.length : Nat)) (.int .i64 1) = _; simp only [evB, if_true, hsub])) ?_)))))
          obtain ⟨iu, hiu, _⟩ := u8Ty_info hU
          refine RL.step (MR.sl (v := .slice (some ⟨g, o, none⟩) (m.length - 1) c) (run_sliceTo (q := True) hB (by rw [hiu]; rfl) trivial (by omega))) (RL.step (MR.mv (v := .slice (some ⟨g, o, none⟩) (m.length - 1) c) rfl) (RL.nil ?_))
          have hlen : (m.take (m.length - 1)).length = m.length - 1 := by rw [List.length_take]; omega
          refine ⟨⟨rfl, m.take (m.length - 1), ?_, by omega, hbm.take _, ?_, by omega⟩, ?_⟩
          · rw [hlen]; rfl
          · rw [← hdm, hrev, List.dropWhile_cons, if_pos (by simp [hsp])]
          · show m.length - 1 < m.length; omega
    refine RW.knows [(3, .slice ad l.length c)] (by simp [q3]) (RW.sq (RW.sq (RW.gf (fun w' => w' = w1) rfl ?_)))
    refine RG.q (v := .slice ad l.length c) (fun _ _ => MR.mv rfl) (RG.q (v := .int .i64 (l.length : Nat)) (fun _ _ => MR.ln hB rfl) (RG.q (v := .bool (decide ((0 : Int) < (l.length : Int)))) (fun _ _ => MR.biE rfl) (RG.q (v := .bool (decide ((0 : Int) < (l.length : Int)))) (fun _ _ => MR.mv rfl) ?_)))
    cases hl : l with
    | nil =>
      subst hl
      refine RG.no (by exact ⟨by decide, .inl rfl⟩) ?_
      refine RG.no (by exact ⟨by decide, .inl rfl⟩) ?_
      refine RG.no (by exact ⟨by decide, .inl rfl⟩) ?_
      refine RG.no (by exact ⟨by decide, .inl rfl⟩) ?_
      refine RG.q (v := .bool false) (fun _ _ => MR.pk (b := false) rfl) ?_
      refine RG.nil fun hw => ?_
      refine RW.cd (b := false) rfl (fun e => by cases e) (fun _ => RW.ex ?_)
      exact behind _ rfl hdw
    | cons y r =>
      subst hl
      obtain ⟨g, o, rfl, _, hcy⟩ := hba 0 y rfl
      rw [decide_eq_true (by simp only [List.length_cons]; omega)]
      refine RG.q (v := .slice (some ⟨g, o, none⟩) (y :: r).length c) (fun _ _ => MR.mv rfl) (RG.q (v := .pointer (some ⟨g, o + 0 * 1, none⟩)) (fun _ _ => MR.iak hB hU1 rfl (by simp)) (RG.q (v := byteV y) (fun w' hS => MR.ld rfl hp (by rw [hS]; exact hcy)) ?_))
      refine RG.ca (R := fun v w' => v = .bool (Lib.isSp y) ∧ w' = w1) hb.1 (fun hw => ?_) ?_
      · exact Calls.mono (hb.2 y w1) fun e w' ⟨h1, h2⟩ => ⟨_, h1, ⟨rfl, h2⟩, h2⟩
      rintro v w1 ⟨rfl, rfl⟩
      refine RG.q (v := .bool (Lib.isSp y)) (fun _ _ => MR.pk (b := true) rfl) (RG.nil fun hw => ?_)
      cases hsp : Lib.isSp y with
      | false =>
        refine RW.cd (b := false) rfl (fun e => by cases e) (fun _ => RW.ex ?_)
        refine behind _ rfl ?_
        rw [← hdw, List.dropWhile_cons, if_neg (by simp [hsp])]
      | true =>
        refine RW.cd (b := true) rfl (fun _ => RW.sk ?_) (fun e => by cases e)
        obtain ⟨ad', r1, r2, r3, _⟩ := run_sliceFrom (P := P) (w := w1) (T := tB) (U := tU) (n := (y :: r).length) (c := c) (l := 1) hB hU1 had (by simp) hlc
        refine RW.bl (RW.rg (RL.step (MR.mv (v := .slice (some ⟨g, o, none⟩) (y :: r).length c) rfl) (RL.step (MR.sl r1) (RL.step MR.mv (RL.nil ?_)))))
        refine ⟨⟨rfl, ad', c - 1, r, rfl, r2, by simp only [List.length_cons] at hlc; omega, r3 rfl hba, ?_, by simp only [List.length_cons] at hl6; omega⟩, ?_⟩
        · rw [← hdw, List.dropWhile_cons, if_pos (by simp [hsp])]
        · show (y :: r).length - 1 < (y :: r).length; simp
end
end Go.Kx
namespace Go.Kx
open Go.RowKit
set_option linter.unusedSimpArgs false
set_option linter.unusedVariables false

def baN (x : List Nat) : ByteArray := ⟨(x.map UInt8.ofNat).toArray⟩
theorem baN_list (x : List Nat) : (baN x).data.toList = bytesN x := by simp [baN, bytesN]
def nmCells (p : Int × List Nat) : List Value := [.int .i64 p.1, .string (baN p.2)]

def genNm (tN : Nat) : List (Int × List Nat) → Nat → List MOp
  | [], _ => []
  | p :: r, t => .bdl t tN [(0, .c (.int .i64 p.1)), (1, .c (.str p.2))] :: genNm tN r (t + 1)
def cNames (tNs tN : Nat) (l : List (Int × List Nat)) : MCode :=
  .sq (.rg [.mv 0 (.c .nslice)]) (.sq (.rg (genNm tN l 1 ++ [.bsl (l.length + 1) tNs ((List.range' 1 l.length).map .t), .mv 0 (.t (l.length + 1))])) .rt)

def NamesC (P : Program) (l : List (Int × List Nat)) (f : Nat) : Prop := entersB P f = true ∧ ∀ w : World, Calls P f #[] w (fun e w' => ∃ g, e = .returned (.slice (some ⟨g, 0, none⟩) l.length l.length) ∧ g < w'.heap.size ∧ w'.rangeAt g 0 (l.flatMap nmCells) ∧ Below w.heap.size w w')

section
variable {P : Program} {N : Nat} {Q : Exit → (Nat → Value) → World → Prop} {ρ : Nat → Value} {w w' : World} {ms : List MOp} {d : Nat}

theorem run_bslRows {T U k : Nat} {z : List Value} {css : List (List Value)} (hT : sliceOf P T U = true) (hz : zeroAgg P U z) (hk : cellsB P U k = true) (hk0 : 0 < k) (hk1 : k ≤ 1000) (hl : ∀ cs ∈ css, cs.length = k) (h0 : css ≠ []) (hn : css.length ≤ 1000) :
    (Instr.buildSlice T css.length ((List.range' 0 css.length).zip (css.map fun cs => Value.agg cs.toArray)).toArray).run P w = .ok (.slice (some ⟨w.heap.size, 0, none⟩) css.length css.length) (w.alloc (.cells css.flatten.toArray U)) := by
  obtain ⟨i, hi, hzv⟩ := hz
  have hsz : i.size = k := by have := hk; simp [cellsB, hi] at this; exact this
  have hpos : 0 < css.length := List.length_pos_iff.2 h0
  have hmul : css.length * k ≤ 1000 * 1000 := Nat.mul_le_mul hn hk1
  have hmul0 : 0 < css.length * k := Nat.mul_pos hpos hk0
  refine run_buildSlice w T U css.length _ _ i _ (sliceOf_eq hT) hi hzv (by rw [hsz]; omega) (by rw [hsz]; omega) ?_
  rw [hsz]
  have hfill := fill_rows (k := k) hk0 (css.map fun cs => Value.agg cs.toArray) [] ((Array.range (css.length * k)).map ((Value.agg z.toArray).cells[· % (Value.agg z.toArray).cells.size]!)).toList 0 (by simp)
    (by intro v hv; simp only [List.mem_map] at hv; obtain ⟨cs, hcs, rfl⟩ := hv; simpa [Value.cells] using hl cs hcs) (by simp)
  simp only [List.nil_append, List.length_map, Array.toArray_toList] at hfill
  rw [hfill]
  congr 1
  apply Array.toList_inj.1
  show (css.map fun cs => Value.agg cs.toArray).flatMap (fun v => v.cells.toList) = css.flatten
  rw [List.flatMap_map, List.flatten_eq_flatMap]
  rfl

theorem genNm_ok {tN : Nat} (hz : zeroIs P tN [.int .i64 0, .estr] = true) (hp : plcB P tN 2 = true) : ∀ (l : List (Int × List Nat)) (t : Nat) (ρ : Nat → Value), t + l.length ≤ N →
    (∀ ρ', (List.range' t l.length).map ρ' = l.map (fun p => Value.agg (nmCells p).toArray) → (∀ s, s < t → ρ' s = ρ s) → RL P N ms Q ρ' w) → RL P N (genNm tN l t ++ ms) Q ρ w
  | [], t, ρ, hN, h => h ρ rfl (fun _ _ => rfl)
  | p :: r, t, ρ, hN, h => by
    simp only [List.length_cons] at hN
    simp only [genNm, List.cons_append]
    refine RL.step (MR.bdl (v := .agg (nmCells p).toArray) (built_of (z := [Value.int .i64 0, .string ⟨#[]⟩]) (parts := [(0, .int .i64 p.1), (1, .string (baN p.2))]) (zeroIs_of hz) hp (by simp [Value.cells]) rfl _) (by simp [MX.lt])) ?_ (by omega)
    refine genNm_ok hz hp r (t + 1) _ (by omega) fun ρ' h1 h2 => ?_
    refine h ρ' ?_ (fun s hs => by rw [h2 s (by omega), upd_ne _ _ (by omega)])
    rw [List.length_cons, List.range'_succ, List.map_cons, List.map_cons, h1, h2 t (by omega), upd_same]

theorem names_ok {f tNs tN : Nat} {l : List (Int × List Nat)} (hT : sliceOf P tNs tN = true) (hz : zeroIs P tN [.int .i64 0, .estr] = true) (hp : plcB P tN 2 = true) (hk : cellsB P tN 2 = true) (h0 : l ≠ []) (hl : l.length ≤ 1000) (hf : FnIs P f (cNames tNs tN l) (l.length + 2) 0) : NamesC P l f := by
  refine ⟨hf.ent, fun w => ?_⟩
  refine hf.runs (args := []) (by simp) (by omega) ?_
  refine RW.sq (RW.rg (RL.step MR.mv (RL.nil (RW.sq (RW.rg (genNm_ok hz hp l 1 _ (by omega) fun ρ' h1 h2 => ?_)))) (by omega)))
  have hlen : (l.map nmCells).length = l.length := List.length_map ..
  have hrun := run_bslRows (P := P) (w := w) (css := l.map nmCells) hT (zeroIs_of hz) hk (by omega) (by omega) (by intro cs hcs; simp only [List.mem_map] at hcs; obtain ⟨p, _, rfl⟩ := hcs; rfl) (by simpa using h0) (by rw [hlen]; exact hl)
  rw [hlen] at hrun
  refine RL.step (MR.bslBy (v := .slice (some ⟨w.heap.size, 0, none⟩) l.length l.length) (w' := w.alloc (.cells (l.map nmCells).flatten.toArray tN)) ?_ ?_) ?_ (by omega)
  · have e : ((List.range' 1 l.length).map MX.t).map (xof ρ') = (l.map nmCells).map fun cs => Value.agg cs.toArray := by
      rw [List.map_map, List.map_map]
      exact h1
    rw [e, List.length_map, List.length_range']
    exact hrun
  · intro x hx
    simp only [List.mem_map] at hx
    obtain ⟨s, hs, rfl⟩ := hx
    have := List.mem_range'_1.1 hs
    exact ltT (by omega)
  · refine RL.step (MR.mv (v := .slice (some ⟨w.heap.size, 0, none⟩) l.length l.length) (upd_same _ _ _) (ltT (by omega))) (RL.nil (RW.rt ⟨w.heap.size, rfl, ?_, ?_, below_box w _⟩)) (by omega)
    · have := size_box w (.cells (l.map nmCells).flatten.toArray tN); omega
    · intro j v hj
      rw [List.flatMap_def] at hj
      exact cell_box w _ tN hj

/-! ### Parsed -/
def cParsed (tNs tN tS tI fN : Nat) : MCode :=
  .sq (.rg [.mv 4 (.c (.int .i64 0)), .mv 5 (.c (.bool false))])
  (.sq (.sq (.rg [.mv 8 (.t 0), .ln 9 tNs 8, .mv 10 (.c (.int .i64 0))])
    (.bl 0 (.lp (.sq (.rg [.bi 11 .lss tI (.t 10) (.t 9)])
      (.sq (.cd 11 .sk (.ex 0))
      (.sq (.bl 1 (.sq (.rg [.ia 12 tNs 8 10, .ld 13 tN 12, .al 7 tN, .st tN 7 13])
        (.sq (.rg [.fa 14 tN 7 1, .ld 15 tS 14, .ca 16 fN [.t 15], .mv 17 (.t 1), .ca 18 fN [.t 17], .bi 19 .eql tS (.t 16) (.t 18)])
          (.cd 19 (.sq (.rg [.fa 20 tN 7 0, .ld 21 tI 20, .mv 4 (.t 21), .mv 5 (.c (.bool true))]) .rt) .sk))))
        (.rg [.bi 22 .add tI (.t 10) (.c (.int .i64 1)), .mv 10 (.t 22)])))))))
  (.sq (.rg [.mv 4 (.c (.int .i64 0)), .mv 5 (.c (.bool false))]) .rt))

def lookN (x : List UInt8) : List (Int × List Nat) → Option Int
  | [] => none
  | p :: r => if normL (bytesN p.2) = x then some p.1 else lookN x r

theorem lookN_not {x : List UInt8} : ∀ {l : List (Int × List Nat)} {i : Nat}, (∀ j p, j < i → l[j]? = some p → normL (bytesN p.2) ≠ x) → lookN x l = lookN x (l.drop i)
  | l, 0, _ => rfl
  | [], i + 1, _ => by simp
  | p :: r, i + 1, h => by
    have h0 := h 0 p (by omega) rfl
    rw [List.drop_succ_cons, ← lookN_not (l := r) (i := i) fun j q hj hq => h (j + 1) q (by omega) (by simpa using hq)]
    conv => lhs; unfold lookN
    rw [if_neg h0]

def shortN (l : List (Int × List Nat)) : Bool := l.all fun p => Nat.ble p.2.length 1000000

def ParsedC (P : Program) (l : List (Int × List Nat)) (f : Nat) : Prop := entersB P f = true ∧ ∀ (g : Nat) (s : ByteArray) (w : World), s.size ≤ 1000000 → g < w.heap.size → w.rangeAt g 0 (l.flatMap nmCells) →
  Calls P f #[.slice (some ⟨g, 0, none⟩) l.length l.length, .string s] w (fun e w' => ∃ v, e = .returned v ∧ readOut (lookN (normL s.data.toList) l) v ∧ Below w.heap.size w w')

theorem flat2 {l : List (Int × List Nat)} {i : Nat} {p : Int × List Nat} (h : l[i]? = some p) (j : Nat) (hj : j < 2) : (l.flatMap nmCells)[i * 2 + j]? = (nmCells p)[j]? := by
  induction l generalizing i with
  | nil => simp at h
  | cons q r ih =>
    cases i with
    | zero =>
      simp only [List.getElem?_cons_zero, Option.some.injEq] at h
      subst h
      rw [List.flatMap_cons, List.getElem?_append_left (by simp [nmCells]; omega)]
      simp
    | succ i =>
      rw [List.flatMap_cons, List.getElem?_append_right (by simp [nmCells]; omega), show (i + 1) * 2 + j - (nmCells q).length = i * 2 + j from by simp [nmCells]; omega]
      exact ih (by simpa using h)

theorem parsed_ok {f tNs tN tS tI fN : Nat} {l : List (Int × List Nat)} (hT : sliceOf P tNs tN = true) (hz : zeroIs P tN [.int .i64 0, .estr] = true) (hk : cellsB P tN 2 = true) (hrow : rowTy P tN = true) (hF0 : fieldAtB P tN 0 0 = true) (hF1 : fieldAtB P tN 1 1 = true) (hpS : plainTy P tS = true) (hpI : plainTy P tI = true) (hsh : shortN l = true) (hll : l.length ≤ 1000)
    (hn : NormalC P fN) (hf : FnIs2 P f (cParsed tNs tN tS tI fN) 23 4 5) : ParsedC P l f := by
  refine ⟨hf.ent, fun g s w hs hg hr => ?_⟩
  refine hf.runs (args := [.slice (some ⟨g, 0, none⟩) l.length l.length, .string s]) (by simp) (by omega) (by omega) ?_
  refine RW.sq (RW.rg (RL.step MR.mv (RL.step MR.mv (RL.nil (RW.sq (RW.sq (RW.rg (RL.step (MR.mv (v := .slice (some ⟨g, 0, none⟩) l.length l.length) rfl) (RL.step (MR.ln (p := some ⟨g, 0, none⟩) (n := l.length) (c := l.length) hT rfl) (RL.step MR.mv (RL.nil (RW.bl ?_))))))))))))
  refine RW.lp (fun ρ w' => ∃ i : Nat, i ≤ l.length ∧ ρ 1 = .string s ∧ ρ 8 = .slice (some ⟨g, 0, none⟩) l.length l.length ∧ ρ 9 = .int .i64 (l.length : Nat) ∧ ρ 10 = .int .i64 (i : Nat) ∧ Below w.heap.size w w' ∧ ∀ j p, j < i → l[j]? = some p → normL (bytesN p.2) ≠ normL s.data.toList)
    (fun ρ _ => l.length - (intOf (ρ 10)).toNat) ⟨0, by omega, rfl, rfl, rfl, rfl, Below.refl _ _, fun j p hj => absurd hj (by omega)⟩ ?_ (fun ρ ρ' w h => by rw [h 10 (by omega)])
  rintro ρ1 w1 ⟨i, hi, q1, q8, q9, q10, bw, hno⟩
  have hm1 : l.length - (intOf (ρ1 10)).toNat = l.length - i := by rw [q10]; simp [intOf]
  rw [hm1]
  refine RW.knows [(1, .string s), (8, .slice (some ⟨g, 0, none⟩) l.length l.length), (9, .int .i64 (l.length : Nat)), (10, .int .i64 (i : Nat))] (by simp [q1, q8, q9, q10]) (RW.sq (RW.rg (RL.step (MR.biE (v := .bool (decide ((i : Int) < (l.length : Int)))) rfl) (RL.nil ?_))))
  by_cases hlt : i < l.length
  · refine RW.sq (RW.cd (b := true) (by show Value.bool _ = _; rw [decide_eq_true (by omega)]) (fun _ => RW.sk ?_) (fun e => by cases e))
    obtain ⟨p, hp⟩ : ∃ p, l[i]? = some p := ⟨_, List.getElem?_eq_getElem hlt⟩
    have hpl : p.2.length ≤ 1000000 := by have := List.all_eq_true.1 hsh p (List.mem_of_getElem? hp); simpa using this
    have hr1 : w1.rangeAt g (0 + i * 2) (nmCells p) := fun j v hj => by
      have hj2 : j < 2 := by have := (List.getElem?_eq_some_iff.1 hj).1; simpa [nmCells] using this
      have := range_keep hr (bw.block g hg) (i * 2 + j) v (by rw [flat2 hp j hj2]; exact hj)
      rw [show 0 + i * 2 + j = 0 + (i * 2 + j) from by omega]; exact this
    refine RW.sq (RW.bl (RW.sq (RW.rg (RL.step (MR.ia (k := .i64) (j := i) hT hk rfl rfl hlt) (RL.step (MR.ldRow (cs := nmCells p) rfl hrow hk hr1) ?_)))))
    refine RL.alst (z := [Value.int .i64 0, .string ⟨#[]⟩]) (cs := nmCells p) (n := 2) (zeroIs_of hz) rfl (by decide) rfl rfl hk rfl ?_
    intro w2 b2 s2 hr2 ht2
    have bw2 : Below w.heap.size w w2 := bw.trans (b2.mono bw.size)
    have hb : w1.heap.size < w2.heap.size := by omega
    refine RL.nil (RW.sq (RW.rg (RL.step (MR.fa (b := w1.heap.size) (o := 0) rfl hF1) (RL.step (MR.ld (v := .string (baN p.2)) rfl hpS (hr2 1 _ rfl)) ?_))))
    have hbs : (baN p.2).size = p.2.length := by rw [← size_list, baN_list]; simp [bytesN]
    refine RL.ca (R := fun v w' => v = .string ⟨(normL (bytesN p.2)).toArray⟩ ∧ Below w2.heap.size w2 w') hn.1 ?_ ?_
    · refine Calls.mono (hn.2 (baN p.2) w2 (by omega)) fun e w' h => ⟨_, h.1, by rw [baN_list], h.2⟩
    rintro v w3 ⟨rfl, b3⟩
    refine RL.step (MR.mv (v := .string s) rfl) ?_
    refine RL.ca (R := fun v w' => v = .string ⟨(normL s.data.toList).toArray⟩ ∧ Below w3.heap.size w3 w') hn.1 (Calls.mono (hn.2 s w3 hs) fun e w' h => ⟨_, h.1, rfl, h.2⟩) ?_
    rintro v w4 ⟨rfl, b4⟩
    have b24 : Below w2.heap.size w2 w4 := b3.trans (b4.mono b3.size)
    have bw4 : Below w.heap.size w w4 := bw2.trans (b24.mono bw2.size)
    refine RL.step (MR.eqSS (a := ⟨(normL (bytesN p.2)).toArray⟩) (b := ⟨(normL s.data.toList).toArray⟩) rfl rfl) (RL.nil ?_)
    have hbq : decide ((⟨(normL (bytesN p.2)).toArray⟩ : ByteArray).data.toList = (⟨(normL s.data.toList).toArray⟩ : ByteArray).data.toList) = decide (normL (bytesN p.2) = normL s.data.toList) := decide_eq_decide.2 (by simp)
    by_cases hx : normL (bytesN p.2) = normL s.data.toList
    · refine RW.cd (b := true) (by show Value.bool _ = _; rw [hbq, decide_eq_true hx]) (fun _ => ?_) (fun e => by cases e)
      have hc : w4.cell? ⟨w1.heap.size, 0 + 0, none⟩ = some (.int .i64 p.1) := range_keep hr2 (b24.block _ hb) 0 _ rfl
      refine RW.sq (RW.rg (RL.step (MR.fa (b := w1.heap.size) (o := 0) rfl hF0) (RL.step (MR.ld (v := .int .i64 p.1) rfl hpI hc) (RL.step MR.mv (RL.step MR.mv (RL.nil (RW.rt ⟨_, rfl, ?_, bw4⟩)))))))
      have hlook : lookN (normL s.data.toList) l = some p.1 := by
        rw [lookN_not hno, List.drop_eq_getElem_cons hlt]
        unfold lookN
        have e : l[i] = p := (List.getElem?_eq_some_iff.1 hp).2
        rw [e, if_pos hx]
      rw [hlook]; rfl
    · refine RW.cd (b := false) (by show Value.bool _ = _; rw [hbq, decide_eq_false hx]) (fun e => by cases e) (fun _ => RW.sk ?_)
      have hadd' : IntKind.i64.wrap ((i : Int) + 1) = ((i + 1 : Nat) : Int) := by rw [wrap_i64 (by omega) (by omega)]; omega
      refine RW.rg (RL.step (MR.biE (v := .int .i64 ((i + 1 : Nat) : Int)) (by show evB .add (.int .i64 (i : Nat)) (.int .i64 1) = _; simp only [evB, if_true, hadd'])) (RL.step (MR.mv (v := .int .i64 ((i + 1 : Nat) : Int)) rfl) (RL.nil ?_)))
      refine ⟨⟨i + 1, by omega, rfl, rfl, rfl, rfl, bw4, fun j q hj hq => ?_⟩, ?_⟩
      · by_cases e : j = i
        · subst e
          rw [hp] at hq
          cases hq
          exact hx
        · exact hno j q (by omega) hq
      · show l.length - (intOf (.int .i64 ((i + 1 : Nat) : Int))).toNat < _
        simp only [intOf]; omega
  · refine RW.sq (RW.cd (b := false) (by show Value.bool _ = _; rw [decide_eq_false (by omega)]) (fun e => by cases e) (fun _ => RW.ex ?_))
    show RW P 23 _ _ _ _
    refine RW.sq (RW.rg (RL.step MR.mv (RL.step MR.mv (RL.nil (RW.rt ⟨_, rfl, ?_, bw⟩)))))
    have : lookN (normL s.data.toList) l = none := by
      rw [lookN_not hno, List.drop_eq_nil_of_le (by omega)]; rfl
    rw [this]; rfl
end
end Go.Kx
namespace Go.Kx
open Go.RowKit
set_option linter.unusedSimpArgs false
set_option linter.unusedVariables false

def boolTy2 (P : Program) (T : Nat) : Bool := match P.underlying T with | some .bool => true | _ => false
theorem boolTy2_eq {P : Program} {T : Nat} (h : boolTy2 P T = true) : P.underlying T = some .bool := by
  unfold boolTy2 at h
  cases hu : P.underlying T with
  | none => simp [hu] at h
  | some d => cases d <;> simp_all

def cPlain (tS tI u8 fN : Nat) (unk : List Nat) : MCode :=
  .sq (.rg [.mv 2 (.c (.bool false))])
  (.sq (.sq (.gr false [⟨0, none, .mv 4 (.t 0)⟩, ⟨1, none, .ln 5 tS 4⟩, ⟨2, none, .bi 6 .gtr tI (.t 5) (.c (.int .i64 200))⟩, ⟨3, none, .mv 7 (.t 6)⟩, ⟨4, some (3, 7, false), .mv 8 (.t 0)⟩, ⟨5, some (3, 7, false), .ca 9 fN [.t 8]⟩, ⟨6, some (3, 7, false), .bi 10 .eql tS (.t 9) (.c (.str unk))⟩, ⟨7, none, .pk 11 (.t 7) (.c (.bool true)) (.t 10)⟩])
    (.cd 11 (.sq (.rg [.mv 2 (.c (.bool false))]) .rt) .sk))
  (.sq (.sq (.rg [.mv 3 (.c (.int .i64 0))])
    (.bl 0 (.lp (.sq (.sq (.rg [.mv 12 (.t 3), .mv 13 (.t 0), .ln 14 tS 13, .bi 15 .lss tI (.t 12) (.t 14)]) (.cd 15 .sk (.ex 0)))
      (.sq (.bl 1 (.sq (.rg [.mv 18 (.t 0), .mv 19 (.t 3), .ixt 20 tS 18 19, .bi 21 .gtr u8 (.t 20) (.c (.int .u8 127))]) (.cd 21 (.sq (.rg [.mv 2 (.c (.bool false))]) .rt) .sk)))
        (.rg [.mv 16 (.t 3), .bi 17 .add tI (.t 16) (.c (.int .i64 1)), .mv 3 (.t 17)]))))))
  (.sq (.rg [.mv 2 (.c (.bool true))]) .rt)))
def PlainC (P : Program) (f : Nat) : Prop := entersB P f = true ∧ ∀ (s : ByteArray) (w : World), Calls P f #[.string s] w (fun e w' => (∃ b, e = .returned (.bool b) ∧ (b = true → s.size ≤ 200 ∧ asciiL s.data.toList)) ∧ Below w.heap.size w w')

def cJudge (tB tI fP : Nat) : MCode :=
  .sq (.rg [.mv 8 (.c (.bool false))])
  (.sq (.rg [.mv 12 (.t 0), .mv 13 (.t 1), .ca 14 fP [.t 12, .t 13], .mv 11 (.t 14), .ext 15 11 0, .ext 16 11 1, .mv 9 (.t 15), .mv 10 (.t 16)])
  (.sq (.gr false [⟨0, none, .mv 17 (.t 3)⟩, ⟨1, none, .mv 18 (.t 10)⟩, ⟨2, none, .bi 19 .eql tB (.t 17) (.t 18)⟩, ⟨3, none, .mv 20 (.t 19)⟩, ⟨4, some (3, 20, true), .mv 21 (.t 3)⟩, ⟨5, some (3, 20, true), .nt 22 21⟩, ⟨6, some (3, 20, true), .mv 23 (.t 22)⟩, ⟨7, some (6, 23, false), .mv 24 (.t 2)⟩, ⟨8, some (6, 23, false), .mv 25 (.t 9)⟩, ⟨9, some (6, 23, false), .bi 26 .eql tI (.t 24) (.t 25)⟩, ⟨10, some (3, 20, true), .pk 27 (.t 23) (.c (.bool true)) (.t 26)⟩, ⟨11, none, .pk 28 (.t 20) (.t 27) (.c (.bool false))⟩, ⟨12, none, .mv 8 (.t 28)⟩]) .rt))
def outN : Option Int → Int
  | some n => n
  | none => 0
def JudgeC (P : Program) (l : List (Int × List Nat)) (f : Nat) : Prop := entersB P f = true ∧ ∀ (g : Nat) (s : ByteArray) (w : World), s.size ≤ 1000000 → g < w.heap.size → w.rangeAt g 0 (l.flatMap nmCells) →
  Calls P f #[.slice (some ⟨g, 0, none⟩) l.length l.length, .string s, .int .i64 (outN (lookN (normL s.data.toList) l)), .bool (lookN (normL s.data.toList) l).isSome] w (fun e w' => e = .returned (.bool true) ∧ Below w.heap.size w w')

section
variable {P : Program} {N : Nat} {Q : Exit → (Nat → Value) → World → Prop} {ρ : Nat → Value} {w w' : World} {ms : List MOp} {d : Nat}

theorem MR.eqBB {ty : Nat} {x y : Nat} {a b : Bool} (ht : boolTy2 P ty = true) (hx : ρ x = .bool a) (hy : ρ y = .bool b) (hxN : x < N := by decide) (hyN : y < N := by decide) : MR P N (.bi d .eql ty (.t x) (.t y)) ρ w d (.bool (a == b)) w := by
  have hu := boolTy2_eq ht
  refine MR.bi (fun ox oy => ?_) ?_ (ltT hxN) (ltT hyN)
  · simp only [xof, hx, hy]; unfold eqGuard; rfl
  · simp only [xof, hx, hy]
    have h : ∀ d : Nat, (Op.equalIn (d + 1) ty (.bool a) (.bool b)).run P w = .ok (a == b) w := fun d => by simp [Op.equalIn, run_underlying hu]
    simp only [binOp]
    simp [Op.equal, Op.maxDepth, h 9999]

theorem MR.eqBBt {ty : Nat} {x y : Nat} {a : Bool} (ht : boolTy2 P ty = true) (hx : ρ x = .bool a) (hy : ρ y = .bool a) (hxN : x < N := by decide) (hyN : y < N := by decide) : MR P N (.bi d .eql ty (.t x) (.t y)) ρ w d (.bool true) w := by
  have := MR.eqBB (P := P) (N := N) (w := w) (d := d) ht hx hy hxN hyN
  rwa [beq_self_eq_true] at this

theorem plain_ok {f tS tI u8 fN : Nat} {unk : List Nat} (hS : strTy P tS = true) (hn : NormalC P fN) (hf : FnIs P f (cPlain tS tI u8 fN unk) 22 2) : PlainC P f := by
  refine ⟨hf.ent, fun s w => ?_⟩
  refine hf.runs (args := [.string s]) (by simp) (by omega) ?_
  have hsl := size_list s
  refine RW.sq (RW.rg (RL.step MR.mv (RL.nil (RW.sq (RW.sq (RW.gf (fun w' => Below w.heap.size w w') (Below.refl _ _) ?_))))))
  refine RG.q (v := .string s) (fun _ _ => MR.mv rfl) (RG.q (v := .int .i64 s.size) (fun _ _ => MR.lnS hS rfl) (RG.q (v := .bool (decide ((200 : Int) < (s.size : Int)))) (fun _ _ => MR.biE rfl) (RG.q (v := .bool (decide ((200 : Int) < (s.size : Int)))) (fun _ _ => MR.mv rfl) ?_)))
  by_cases hbig : (200 : Int) < (s.size : Int)
  · rw [decide_eq_true hbig]
    refine RG.no (by exact ⟨by decide, .inl rfl⟩) ?_
    refine RG.no (by exact ⟨by decide, .inl rfl⟩) ?_
    refine RG.no (by exact ⟨by decide, .inl rfl⟩) ?_
    refine RG.q (v := .bool true) (fun _ _ => MR.pk (b := true) rfl) ?_
    refine RG.nil fun hw => ?_
    exact RW.cd (b := true) rfl (fun _ => RW.sq (RW.rg (RL.step MR.mv (RL.nil (RW.rt ⟨⟨false, rfl, fun e => by cases e⟩, hw⟩))))) (fun e => by cases e)
  · rw [decide_eq_false hbig]
    refine RG.q (v := .string s) (fun _ _ => MR.mv rfl) (RG.ca (R := fun v w' => v = .string ⟨(normL s.data.toList).toArray⟩) hn.1 (fun hw => ?_) ?_)
    · refine Calls.mono (hn.2 s w (by omega)) ?_
      rintro e w' ⟨rfl, h⟩
      exact ⟨_, rfl, rfl, h⟩
    rintro v w1 rfl
    refine RG.q (v := .bool (decide ((⟨(normL s.data.toList).toArray⟩ : ByteArray).data.toList = unk.map UInt8.ofNat))) (fun _ _ => MR.eqSC rfl) (RG.q (v := .bool (decide ((⟨(normL s.data.toList).toArray⟩ : ByteArray).data.toList = unk.map UInt8.ofNat))) (fun _ _ => MR.pk (b := false) rfl) (RG.nil fun hw => ?_))
    cases hu : decide ((⟨(normL s.data.toList).toArray⟩ : ByteArray).data.toList = unk.map UInt8.ofNat) with
    | true => exact RW.cd (b := true) rfl (fun _ => RW.sq (RW.rg (RL.step MR.mv (RL.nil (RW.rt ⟨⟨false, rfl, fun e => by cases e⟩, hw⟩))))) (fun e => by cases e)
    | false =>
      refine RW.cd (b := false) rfl (fun e => by cases e) (fun _ => RW.sk ?_)
      refine RW.sq (RW.sq (RW.rg (RL.step MR.mv (RL.nil (RW.bl ?_)))))
      refine RW.lp (fun ρ w' => w' = w1 ∧ ∃ i : Nat, i ≤ s.size ∧ ρ 0 = .string s ∧ ρ 3 = .int .i64 (i : Nat) ∧ ∀ j b, j < i → s.data.toList[j]? = some b → b.toNat < 128) (fun ρ _ => s.size - (intOf (ρ 3)).toNat)
        ⟨rfl, 0, by omega, rfl, rfl, fun j b hj => absurd hj (by omega)⟩ ?_ (fun ρ ρ' w h => by rw [h 3 (by omega)])
      rintro ρ1 w1 ⟨rfl, i, hi, q0, q3, hall⟩
      have hm1 : s.size - (intOf (ρ1 3)).toNat = s.size - i := by rw [q3]; simp [intOf]
      rw [hm1]
      refine RW.knows [(0, .string s), (3, .int .i64 (i : Nat))] (by simp [q0, q3]) (RW.sq (RW.sq (RW.rg ?_)))
      refine RL.step (MR.mv (v := .int .i64 (i : Nat)) rfl) (RL.step (MR.mv (v := .string s) rfl) (RL.step (MR.lnS (b := s) hS rfl) (RL.step (MR.biE (v := .bool (decide ((i : Int) < (s.size : Int)))) rfl) (RL.nil ?_))))
      by_cases hlt : i < s.size
      · refine RW.cd (b := true) (by show Value.bool _ = _; rw [decide_eq_true (by omega)]) (fun _ => RW.sk ?_) (fun e => by cases e)
        obtain ⟨b, hgb⟩ : ∃ b, s.data.toList[i]? = some b := ⟨_, List.getElem?_eq_getElem (by omega)⟩
        refine RW.sq (RW.bl (RW.sq (RW.rg (RL.step (MR.mv (v := .string s) rfl) (RL.step (MR.mv (v := .int .i64 (i : Nat)) rfl) (RL.step (MR.ixt (s := s) (b := b) (j := i) hS rfl rfl hgb) (RL.step (MR.biE (v := .bool (decide ((127 : Int) < (b.toNat : Int)))) rfl) (RL.nil ?_))))))))
        by_cases h127 : (127 : Int) < (b.toNat : Int)
        · exact RW.cd (b := true) (by show Value.bool _ = _; rw [decide_eq_true h127]) (fun _ => RW.sq (RW.rg (RL.step MR.mv (RL.nil (RW.rt ⟨⟨false, rfl, fun e => by cases e⟩, hw⟩))))) (fun e => by cases e)
        · refine RW.cd (b := false) (by show Value.bool _ = _; rw [decide_eq_false h127]) (fun e => by cases e) (fun _ => RW.sk ?_)
          have hadd' : IntKind.i64.wrap ((i : Int) + 1) = ((i + 1 : Nat) : Int) := by rw [wrap_i64 (by omega) (by omega)]; omega
          refine RW.rg (RL.step (MR.mv (v := .int .i64 (i : Nat)) rfl) (RL.step (MR.biE (v := .int .i64 ((i + 1 : Nat) : Int)) (by show evB .add (.int .i64 (i : Nat)) (.int .i64 1) = _; simp only [evB, if_true, hadd'])) (RL.step (MR.mv (v := .int .i64 ((i + 1 : Nat) : Int)) rfl) (RL.nil ?_))))
          refine ⟨⟨rfl, i + 1, by omega, rfl, rfl, fun j c hj hc => ?_⟩, ?_⟩
          · by_cases e : j = i
            · subst e
              rw [hgb] at hc
              cases hc
              omega
            · exact hall j c (by omega) hc
          · show s.size - (intOf (.int .i64 ((i + 1 : Nat) : Int))).toNat < _
            simp only [intOf]; omega
      · refine RW.cd (b := false) (by show Value.bool _ = _; rw [decide_eq_false (by omega)]) (fun e => by cases e) (fun _ => RW.ex ?_)
        show RW P 22 _ _ _ _
        refine RW.sq (RW.rg (RL.step MR.mv (RL.nil (RW.rt ⟨⟨true, rfl, fun _ => ⟨by omega, fun c hc => ?_⟩⟩, hw⟩))))
        obtain ⟨j, hj⟩ := List.mem_iff_getElem?.1 hc
        have hjl : j < s.data.toList.length := (List.getElem?_eq_some_iff.1 hj).1
        exact hall j c (by omega) hj

theorem judge_ok {f tB tI fP : Nat} {l : List (Int × List Nat)} (hB : boolTy2 P tB = true) (hp : ParsedC P l fP) (hf : FnIs P f (cJudge tB tI fP) 29 8) : JudgeC P l f := by
  refine ⟨hf.ent, fun g s w hs hg hr => ?_⟩
  have hp2 := hp.2 g s w hs hg hr
  generalize lookN (normL s.data.toList) l = o at hp2 ⊢
  refine hf.runs (args := [.slice (some ⟨g, 0, none⟩) l.length l.length, .string s, .int .i64 (outN o), .bool o.isSome]) (by simp) (by omega) ?_
  refine RW.sq (RW.rg (RL.step MR.mv (RL.nil (RW.sq (RW.rg (RL.step (MR.mv (v := .slice (some ⟨g, 0, none⟩) l.length l.length) rfl) (RL.step (MR.mv (v := .string s) rfl) ?_)))))))
  refine RL.ca (R := fun v w' => readOut o v ∧ Below w.heap.size w w') hp.1 (Calls.mono hp2 fun e w' ⟨v, h1, h2, h3⟩ => ⟨v, h1, h2, h3⟩) ?_
  rintro v w1 ⟨hv, b1⟩
  have hv' : v = .tuple #[.int .i64 (outN o), .bool o.isSome] := by cases o <;> exact hv
  subst hv'
  refine RL.step MR.mv (RL.step (MR.ext (v := .int .i64 (outN o)) rfl) (RL.step (MR.ext (v := .bool o.isSome) rfl) (RL.step MR.mv (RL.step MR.mv (RL.nil ?_)))))
  refine RW.sq (RW.gf (fun w' => Below w.heap.size w w') b1 ?_)
  refine RG.q (v := .bool o.isSome) (fun _ _ => MR.mv rfl) (RG.q (v := .bool o.isSome) (fun _ _ => MR.mv rfl) (RG.q (v := .bool true) (fun _ _ => MR.eqBBt (a := o.isSome) hB rfl rfl) (RG.q (v := .bool true) (fun _ _ => MR.mv rfl) ?_)))
  refine RG.q (v := .bool o.isSome) (fun _ _ => MR.mv rfl) (RG.q (v := .bool (!o.isSome)) (fun _ _ => MR.nt rfl) (RG.q (v := .bool (!o.isSome)) (fun _ _ => MR.mv rfl) ?_))
  cases ho : o.isSome with
  | true =>
    refine RG.q (v := .int .i64 (outN o)) (fun _ _ => MR.mv rfl) (RG.q (v := .int .i64 (outN o)) (fun _ _ => MR.mv rfl) (RG.q (v := .bool true) (fun _ _ => MR.biE (by show evB .eql (.int .i64 (outN o)) (.int .i64 (outN o)) = _; simp [evB])) (RG.q (v := .bool true) (fun _ _ => MR.pk (b := false) rfl) (RG.q (v := .bool true) (fun _ _ => MR.pk (b := true) rfl) (RG.q (v := .bool true) (fun _ _ => MR.mv rfl) (RG.nil fun h => RW.rt ⟨rfl, h⟩))))))
  | false =>
    refine RG.no (by exact ⟨by decide, .inl rfl⟩) ?_
    refine RG.no (by exact ⟨by decide, .inl rfl⟩) ?_
    refine RG.no (by exact ⟨by decide, .inl rfl⟩) ?_
    refine RG.q (v := .bool true) (fun _ _ => MR.pk (b := true) rfl) ?_
    refine RG.q (v := .bool true) (fun _ _ => MR.pk (b := true) rfl) ?_
    refine RG.q (v := .bool true) (fun _ _ => MR.mv rfl) ?_
    refine RG.nil fun h => RW.rt ⟨rfl, h⟩

/-! ### The law -/
def cLawParse (tS tB tI fPlain fP fT fL fJ : Nat) (most : Int) : MCode :=
  .sq (.rg [.mv 2 (.c (.bool false))])
  (.sq (.sq (.rg [.mv 7 (.t 0), .ln 8 tS 7, .bi 9 .gtr tI (.t 8) (.c (.int .i64 most))]) (.cd 9 (.sq (.rg [.mv 2 (.c (.bool true))]) .rt) .sk))
  (.sq (.sq (.rg [.mv 10 (.t 0), .ca 11 fPlain [.t 10], .nt 12 11]) (.cd 12 (.sq (.rg [.mv 2 (.c (.bool true))]) .rt) .sk))
  (.sq (.rg [.mv 14 (.t 0), .ca 15 fP [.t 14], .mv 13 (.t 15), .ext 16 13 0, .ext 17 13 1, .mv 3 (.t 16), .mv 4 (.t 17)])
  (.sq (.rg [.mv 19 (.t 0), .cv 20 tS tB 19, .ca 21 fT [.t 20], .mv 18 (.t 21), .ext 22 18 0, .ext 23 18 1, .mv 5 (.t 22), .mv 6 (.t 23)])
  (.sq (.gr false [⟨0, none, .ca 24 fL []⟩, ⟨1, none, .mv 25 (.t 0)⟩, ⟨2, none, .mv 26 (.t 3)⟩, ⟨3, none, .mv 27 (.t 4)⟩, ⟨4, none, .ca 28 fJ [.t 24, .t 25, .t 26, .t 27]⟩, ⟨5, none, .mv 29 (.t 28)⟩, ⟨6, some (5, 29, true), .ca 30 fL []⟩, ⟨7, some (5, 29, true), .mv 31 (.t 0)⟩, ⟨8, some (5, 29, true), .mv 32 (.t 5)⟩, ⟨9, some (5, 29, true), .mv 33 (.t 6)⟩, ⟨10, some (5, 29, true), .ca 34 fJ [.t 30, .t 31, .t 32, .t 33]⟩, ⟨11, none, .pk 35 (.t 29) (.t 34) (.c (.bool false))⟩, ⟨12, none, .mv 2 (.t 35)⟩]) .rt)))))

/-- A conversion that makes. -/
theorem MR.cvW {src dst s : Nat} {v : Value} (hr : (convert src dst (ρ s)).run P w = .ok v w') (hs : s < N := by decide) : MR P N (.cv d src dst s) ρ w d v w' := by
  intro a o hl hf; generalize hop : o.op = op at hf; unfold execOp; cases op <;> simp only [fitOp, Bool.and_eq_true, Bool.false_eq_true, Nat.beq_eq] at hf
  obtain ⟨⟨⟨h1, h2⟩, h3⟩, h4⟩ := hf
  subst h2 h3
  exact ⟨dstIs_eq h1, by simp only [hop, Sem.run_bind, tmpL hl hs h4, hr, Result.andThen_ok, Sem.run_pure]⟩

theorem string_bytes {tS tB tU : Nat} (hS : strTy P tS = true) (hB : sliceOf P tB tU = true) (hU8 : intTy P tU .u8 = true) (s : ByteArray) (w : World) :
    (convert tS tB (.string s)).run P w = .ok (.slice (some ⟨w.heap.size, 0, none⟩) s.data.toList.length (grownCap w s.size 0 tU)) (Lib.bytesWorld w tU s) ∧ Below w.heap.size w (Lib.bytesWorld w tU s) ∧ BytesAt (Lib.bytesWorld w tU s) (· < (Lib.bytesWorld w tU s).heap.size) (some ⟨w.heap.size, 0, none⟩) s.data.toList := by
  have hsz := Lib.bytesWorld_size w tU s
  refine ⟨?_, ⟨rfl, rfl, rfl, by omega, fun j hj => Lib.bytesWorld_at_old w tU s j hj⟩, fun j b hj => ⟨w.heap.size, 0, rfl, by show _ < _; omega, ?_⟩⟩
  · rw [size_list]
    exact Lib.run_convert_string_bytes w tS tB tU s (strTy_eq hS) (sliceOf_eq hB) (intTy_eq hU8)
  · have hjl : j < s.data.toList.length := (List.getElem?_eq_some_iff.1 hj).1
    rw [size_list] at hjl
    rw [Nat.zero_add, Lib.bytesWorld_cell w tU s j hjl]
    simp only [List.getD, hj, Option.getD_some]
    rfl

theorem law_parse {W : World → Prop} (hW : ∀ w w' : World, W w → Below w.heap.size w w' → W w') {f tS tB tU tI fPlain fP fT fL fJ : Nat} {most : Int} {ws : List (List Nat × Int)} {l : List (Int × List Nat)} (hS : strTy P tS = true) (hB : sliceOf P tB tU = true) (hU8 : intTy P tU .u8 = true)
    (hpl : PlainC P fPlain) (hp : ReadC P W ws fP) (ht : ReadTC P W ws fT) (hl : NamesC P l fL) (hj : JudgeC P l fJ) (hsame : ∀ x, asciiL x → lookW (normS x) ws = lookN (normL x) l) (hf : FnIs P f (cLawParse tS tB tI fPlain fP fT fL fJ most) 36 2) (w : World) (hw : W w) (s : ByteArray) :
    Calls P f #[.string s] w (fun e w' => e = .returned (.bool true) ∧ Below w.heap.size w w') := by
  refine hf.runs (args := [.string s]) (by simp) (by omega) ?_
  have hsl := size_list s
  refine RW.sq (RW.rg (RL.step MR.mv (RL.nil (RW.sq (RW.sq (RW.rg (RL.step (MR.mv (v := .string s) rfl) (RL.step (MR.lnS (b := s) hS rfl) (RL.step (MR.biE (v := .bool (decide (most < (s.size : Int)))) rfl) (RL.nil ?_)))))))))) 
  by_cases hbig : most < (s.size : Int)
  · exact RW.cd (b := true) (by show Value.bool _ = _; rw [decide_eq_true hbig]) (fun _ => RW.sq (RW.rg (RL.step MR.mv (RL.nil (RW.rt ⟨rfl, Below.refl _ _⟩))))) (fun e => by cases e)
  refine RW.cd (b := false) (by show Value.bool _ = _; rw [decide_eq_false hbig]) (fun e => by cases e) (fun _ => RW.sk ?_)
  refine RW.sq (RW.sq (RW.rg (RL.step (MR.mv (v := .string s) rfl) ?_)))
  refine RL.ca (R := fun v w' => (∃ b, v = .bool b ∧ (b = true → s.size ≤ 200 ∧ asciiL s.data.toList)) ∧ Below w.heap.size w w') hpl.1 ?_ ?_
  · refine Calls.mono (hpl.2 s w) ?_
    rintro e w' ⟨⟨b, rfl, h⟩, hb⟩
    exact ⟨_, rfl, ⟨b, rfl, h⟩, hb⟩
  rintro v w1 ⟨⟨b, rfl, hb⟩, b1⟩
  refine RL.step (MR.nt rfl) (RL.nil ?_)
  cases b with
  | false => exact RW.cd (b := true) rfl (fun _ => RW.sq (RW.rg (RL.step MR.mv (RL.nil (RW.rt ⟨rfl, b1⟩))))) (fun e => by cases e)
  | true =>
  obtain ⟨h200, ha⟩ := hb rfl
  refine RW.cd (b := false) rfl (fun e => by cases e) (fun _ => RW.sk ?_)
  have hs6 : s.size ≤ 1000000 := by omega
  have hlk := hsame s.data.toList ha
  -- the text is read
  refine RW.sq (RW.rg (RL.step (MR.mv (v := .string s) rfl) (RL.ca (R := fun v w' => readOut (lookN (normL s.data.toList) l) v ∧ Below w1.heap.size w1 w') hp.1 ?_ ?_)))
  · refine Calls.mono (hp.2 s w1 hs6 ha (hW _ _ hw b1)) ?_
    rintro e w' ⟨v, rfl, h1, h2⟩
    exact ⟨v, rfl, by rw [← hlk]; exact h1, h2⟩
  rintro v w2 ⟨hv, b2⟩
  have bw2 : Below w.heap.size w w2 := b1.trans (b2.mono b1.size)
  have hv' : v = .tuple #[.int .i64 (outN (lookN (normL s.data.toList) l)), .bool (lookN (normL s.data.toList) l).isSome] := by
    revert hv; cases lookN (normL s.data.toList) l <;> exact fun hv => hv
  subst hv'
  have hjj := hj.2
  generalize ho : lookN (normL s.data.toList) l = o at *
  refine RL.step MR.mv (RL.step (MR.ext (v := .int .i64 (outN o)) rfl) (RL.step (MR.ext (v := .bool o.isSome) rfl) (RL.step MR.mv (RL.step MR.mv (RL.nil ?_)))))
  -- its octets are read
  obtain ⟨c1, c2, c3⟩ := string_bytes (P := P) hS hB hU8 s w2
  refine RW.sq (RW.rg (RL.step (MR.mv (v := .string s) rfl) (RL.step (MR.cvW (w' := Lib.bytesWorld w2 tU s) c1) ?_)))
  revert c2 c3
  generalize Lib.bytesWorld w2 tU s = w3
  intro c2 c3
  have bw3 : Below w.heap.size w w3 := bw2.trans (c2.mono bw2.size)
  refine RL.ca (R := fun v w' => readOut o v ∧ Below w3.heap.size w3 w') ht.1 ?_ ?_
  · refine Calls.mono (ht.2 _ (some ⟨w2.heap.size, 0, none⟩) s.data.toList w3 (by omega) ha (hW _ _ hw bw3) (.inr ⟨w2.heap.size, 0, rfl⟩) c3) ?_
    rintro e w' ⟨v, rfl, h1, h2⟩
    exact ⟨v, rfl, by rw [hlk] at h1; exact h1, h2⟩
  rintro v w4 ⟨hv, b4⟩
  have bw4 : Below w.heap.size w w4 := bw3.trans (b4.mono bw3.size)
  have hv' : v = .tuple #[.int .i64 (outN o), .bool o.isSome] := by
    revert hv; cases o <;> exact fun hv => hv
  subst hv'
  refine RL.step MR.mv (RL.step (MR.ext (v := .int .i64 (outN o)) rfl) (RL.step (MR.ext (v := .bool o.isSome) rfl) (RL.step MR.mv (RL.step MR.mv (RL.nil ?_)))))
  -- judged
  refine RW.sq (RW.gf (fun w' => Below w.heap.size w w') bw4 ?_)
  refine RG.ca (R := fun v w' => ∃ g, v = .slice (some ⟨g, 0, none⟩) l.length l.length ∧ g < w'.heap.size ∧ w'.rangeAt g 0 (l.flatMap nmCells)) hl.1 (fun hw => ?_) ?_
  · refine Calls.mono (hl.2 w4) ?_
    rintro e w' ⟨g, rfl, h1, h2, h3⟩
    exact ⟨_, rfl, ⟨g, rfl, h1, h2⟩, hw.trans (h3.mono hw.size)⟩
  rintro v w5 ⟨g, rfl, hg, hr⟩
  refine RG.q (v := .string s) (fun _ _ => MR.mv rfl) (RG.q (v := .int .i64 (outN o)) (fun _ _ => MR.mv rfl) (RG.q (v := .bool o.isSome) (fun _ _ => MR.mv rfl) ?_))
  have hj5 := hjj g s w5 hs6 hg hr
  rw [ho] at hj5
  refine RG.ca (R := fun v w' => v = .bool true) hj.1 (fun hw => ?_) ?_
  · refine Calls.mono hj5 ?_
    rintro e w' ⟨rfl, h⟩
    exact ⟨_, rfl, rfl, hw.trans (h.mono hw.size)⟩
  rintro v w6 rfl
  refine RG.q (v := .bool true) (fun _ _ => MR.mv rfl) ?_
  refine RG.ca (R := fun v w' => ∃ g, v = .slice (some ⟨g, 0, none⟩) l.length l.length ∧ g < w'.heap.size ∧ w'.rangeAt g 0 (l.flatMap nmCells)) hl.1 (fun hw => ?_) ?_
  · refine Calls.mono (hl.2 w6) ?_
    rintro e w' ⟨g, rfl, h1, h2, h3⟩
    exact ⟨_, rfl, ⟨g, rfl, h1, h2⟩, hw.trans (h3.mono hw.size)⟩
  rintro v w7 ⟨g', rfl, hg', hr'⟩
  refine RG.q (v := .string s) (fun _ _ => MR.mv rfl) (RG.q (v := .int .i64 (outN o)) (fun _ _ => MR.mv rfl) (RG.q (v := .bool o.isSome) (fun _ _ => MR.mv rfl) ?_))
  have hj7 := hjj g' s w7 hs6 hg' hr'
  rw [ho] at hj7
  refine RG.ca (R := fun v w' => v = .bool true) hj.1 (fun hw => ?_) ?_
  · refine Calls.mono hj7 ?_
    rintro e w' ⟨rfl, h⟩
    exact ⟨_, rfl, rfl, hw.trans (h.mono hw.size)⟩
  rintro v w8 rfl
  exact RG.q (v := .bool true) (fun _ _ => MR.pk (b := true) rfl) (RG.q (v := .bool true) (fun _ _ => MR.mv rfl) (RG.nil fun h => RW.rt ⟨rfl, h⟩))
end

/-! ### The package's normal text is the reference's -/
theorem low_sp : ∀ b : UInt8, Lib.isSp (Lib.lowerB b) = Lib.isSp b := by
  intro b
  have h : ∀ i : Fin 256, Lib.isSp (Lib.lowerB (UInt8.ofNat i.val)) = Lib.isSp (UInt8.ofNat i.val) := by decide +kernel
  have := h ⟨b.toNat, b.toNat_lt⟩
  simpa using this
theorem low_keep : ∀ b : UInt8, keepN (Lib.lowerB b) = keepN b := by
  intro b
  have h : ∀ i : Fin 256, keepN (Lib.lowerB (UInt8.ofNat i.val)) = keepN (UInt8.ofNat i.val) := by decide +kernel
  have := h ⟨b.toNat, b.toNat_lt⟩
  simpa using this
theorem dropW_map (l : List UInt8) : (l.map Lib.lowerB).dropWhile Lib.isSp = (l.dropWhile Lib.isSp).map Lib.lowerB := by
  induction l with
  | nil => rfl
  | cons b l ih =>
    simp only [List.map_cons, List.dropWhile_cons, low_sp]
    split
    · exact ih
    · rfl
theorem normS_normL (l : List UInt8) : normS l = normL l := by
  unfold normS normL Lib.toLowerA Lib.trimSpace
  have e : mapN l = (noB 45 (noB 95 (noB 46 l))).map Lib.lowerB := by
    unfold mapN noB
    rw [List.filter_filter, List.filter_filter, List.filter_map]
    congr 1
    apply List.filter_congr
    intro b _
    show keepN (Lib.lowerB b) = _
    rw [low_keep]
    unfold keepN
    cases b != 46 <;> cases b != 95 <;> cases b != 45 <;> rfl
  rw [e, dropW_map, ← List.map_reverse, dropW_map, List.map_reverse]
theorem look_same {ws : List (List Nat × Int)} {l : List (Int × List Nat)} (h : ws.map (fun p => (bytesN p.1, p.2)) = l.map (fun p => (normL (bytesN p.2), p.1))) (x : List UInt8) : lookW x ws = lookN x l := by
  induction ws generalizing l with
  | nil =>
    cases l with
    | nil => rfl
    | cons => simp at h
  | cons p ws ih =>
    cases l with
    | nil => simp at h
    | cons q l =>
      simp only [List.map_cons, List.cons.injEq, Prod.mk.injEq] at h
      obtain ⟨⟨h1, h2⟩, h3⟩ := h
      obtain ⟨y, n⟩ := p
      simp only at h1 h2
      unfold lookW lookN
      rw [ih h3, h1, h2]
      by_cases e : x = normL (bytesN q.2)
      · rw [if_pos e, if_pos e.symm]
      · rw [if_neg e, if_neg (fun h => e h.symm)]
end Go.Kx
namespace Go.Kx
open Go.RowKit
set_option linter.unusedSimpArgs false
set_option linter.unusedVariables false

def chainS (tK t : Nat) (dflt : List Nat) : List (Int × List Nat) → MCode
  | [] => .sq (.rg [.mv 2 (.c (.str dflt))]) .rt
  | (n, x) :: r => .sq (.rg [.bi (t + 1) .eql tK (.t 3) (.c (.int .i8 n)), .mv t (.t (t + 1))]) (.cd t (.sq (.rg [.mv 2 (.c (.str x))]) .rt) (chainS tK (t + 2) dflt r))
def cString (tK : Nat) (dflt : List Nat) (l : List (Int × List Nat)) : MCode := .sq (.rg [.mv 2 (.c .estr)]) (.sq (.rg [.mv 3 (.t 0)]) (.bl 0 (chainS tK 4 dflt l)))

def lookI (n : Int) : List (Int × List Nat) → Option (List Nat)
  | [] => none
  | (m, x) :: r => if m = n then some x else lookI n r

def StringC (P : Program) (l : List (Int × List Nat)) (f : Nat) : Prop := entersB P f = true ∧ ∀ (n : Int) (x : List Nat) (w : World), lookI n l = some x → Calls P f #[.int .i8 n] w (fun e w' => e = .returned (.string (baN x)) ∧ w' = w)

def cImplS (fS : Nat) : MCode := .sq (.rg [.mv 2 (.c .estr)]) (.sq (.rg [.mv 3 (.t 0), .ca 4 fS [.t 3], .mv 2 (.t 4)]) .rt)
def cMarsh (fS tS tB : Nat) : MCode := .sq (.rg [.mv 2 (.c .nslice), .mv 3 (.c .niface)]) (.sq (.rg [.mv 4 (.t 0), .ca 5 fS [.t 4], .cv 6 tS tB 5, .mv 2 (.t 6), .mv 3 (.c .niface)]) .rt)
def cImplT (fM tB tErr : Nat) : MCode :=
  .sq (.rg [.mv 2 (.c .nslice), .mv 3 (.c (.bool false))])
  (.sq (.rg [.mv 7 (.t 0), .ca 8 fM [.t 7], .mv 6 (.t 8), .ext 9 6 0, .ext 10 6 1, .mv 4 (.t 9), .mv 5 (.t 10)])
  (.sq (.gr true [⟨0, none, .mv 11 (.t 4)⟩, ⟨2, none, .mv 13 (.t 5)⟩, ⟨3, none, .bi 14 .eql tErr (.t 13) (.c .niface)⟩, ⟨1, none, .apk 12 tB tB 11⟩, ⟨4, none, .mv 2 (.t 12)⟩, ⟨5, none, .mv 3 (.t 14)⟩]) .rt))

/-- The octets of the word, in a slice of the call's own, and what stands beside it. -/
def TextC (P : Program) (l : List (Int × List Nat)) (u : Value) (f : Nat) : Prop := entersB P f = true ∧ ∀ (n : Int) (x : List Nat) (w : World), lookI n l = some x → Calls P f #[.int .i8 n] w (fun e w' =>
  (∃ ad c, e = .returned (.tuple #[.slice ad (bytesN x).length c, u]) ∧ okAd ad ∧ BytesAt w' (· < w'.heap.size) ad (bytesN x)) ∧ Below w.heap.size w w')

def cWord (tNs tN tS tI : Nat) : MCode :=
  .sq (.rg [.mv 4 (.c .estr), .mv 5 (.c (.bool false))])
  (.sq (.sq (.rg [.mv 8 (.t 0), .ln 9 tNs 8, .mv 10 (.c (.int .i64 0))])
    (.bl 0 (.lp (.sq (.rg [.bi 11 .lss tI (.t 10) (.t 9)])
      (.sq (.cd 11 .sk (.ex 0))
      (.sq (.bl 1 (.sq (.rg [.ia 12 tNs 8 10, .ld 13 tN 12, .al 7 tN, .st tN 7 13])
        (.sq (.rg [.fa 14 tN 7 0, .ld 15 tI 14, .mv 16 (.t 1), .bi 17 .eql tI (.t 15) (.t 16)])
          (.cd 17 (.sq (.rg [.fa 18 tN 7 1, .ld 19 tS 18, .mv 4 (.t 19), .mv 5 (.c (.bool true))]) .rt) .sk))))
        (.rg [.bi 20 .add tI (.t 10) (.c (.int .i64 1)), .mv 10 (.t 20)])))))))
  (.sq (.rg [.mv 4 (.c .estr), .mv 5 (.c (.bool false))]) .rt))
def wordOut (o : Option (List Nat)) (v : Value) : Prop := v = match o with
  | some x => .tuple #[.string (baN x), .bool true]
  | none => .tuple #[.string ⟨#[]⟩, .bool false]
def WordC (P : Program) (l : List (Int × List Nat)) (f : Nat) : Prop := entersB P f = true ∧ ∀ (g : Nat) (n : Int) (w : World), g < w.heap.size → w.rangeAt g 0 (l.flatMap nmCells) →
  Calls P f #[.slice (some ⟨g, 0, none⟩) l.length l.length, .int .i64 n] w (fun e w' => ∃ v, e = .returned v ∧ wordOut (lookI n l) v ∧ Below w.heap.size w w')

section
variable {P : Program} {N : Nat} {Q : Exit → (Nat → Value) → World → Prop} {ρ : Nat → Value} {w w' : World} {ms : List MOp} {d : Nat}

theorem chainS_ok {tK : Nat} {dflt : List Nat} {n : Int} {x : List Nat} {R : Ending → World → Prop} (hR : R (.returned (.string (baN x))) w) : ∀ (l : List (Int × List Nat)) (t : Nat) (ρ : Nat → Value), t + 2 * l.length ≤ N → 3 < t → ρ 3 = .int .i8 n → lookI n l = some x → RW P N (chainS tK t dflt l) (inBlockR 0 (retQ 2 R)) ρ w
  | [], t, ρ, hN, ht, h3, hl => by simp [lookI] at hl
  | (m, y) :: r, t, ρ, hN, ht, h3, hl => by
    unfold chainS
    simp only [List.length_cons] at hN
    refine RW.sq (RW.rg (RL.step (MR.biE (v := .bool (n == m)) (by show evB .eql (ρ 3) (.int .i8 m) = _; rw [h3]; simp [evB]) (ltT (by omega))) (RL.step (MR.mv rfl (ltT (by omega))) (RL.nil ?_) (by omega)) (by omega)))
    unfold lookI at hl
    by_cases hm : m = n
    · rw [if_pos hm] at hl
      cases hl
      refine RW.cd (b := true) (by rw [upd_same]; show xof _ (.t (t + 1)) = _; simp only [xof]; rw [upd_same]; simp [hm]) (fun _ => ?_) (fun e => by cases e) (by omega)
      exact RW.sq (RW.rg (RL.step MR.mv (RL.nil (RW.rt hR)) (by omega)))
    · rw [if_neg hm] at hl
      refine RW.cd (b := false) (by rw [upd_same]; show xof _ (.t (t + 1)) = _; simp only [xof]; rw [upd_same]; simp only [Value.bool.injEq, beq_eq_false_iff_ne, ne_eq]; exact fun e => hm e.symm) (fun e => by cases e) (fun _ => ?_) (by omega)
      exact chainS_ok hR r (t + 2) _ (by omega) (by omega) (by rw [upd_ne _ _ (by omega), upd_ne _ _ (by omega)]; exact h3) hl

theorem string_ok {f tK : Nat} {dflt : List Nat} {l : List (Int × List Nat)} (hN : 4 + 2 * l.length ≤ N) (hf : FnIs P f (cString tK dflt l) N 2) : StringC P l f := by
  refine ⟨hf.ent, fun n x w hl => ?_⟩
  refine hf.runs (args := [.int .i8 n]) (by simp; omega) (by omega) ?_
  refine RW.sq (RW.rg (RL.step MR.mv (RL.nil (RW.sq (RW.rg (RL.step (MR.mv (v := .int .i8 n) rfl (ltT (by omega))) (RL.nil (RW.bl ?_)) (by omega))))) (by omega)))
  exact chainS_ok ⟨rfl, rfl⟩ l 4 _ (by omega) (by omega) (upd_same _ _ _) hl

theorem implS_ok {f fS : Nat} {l : List (Int × List Nat)} (hs : StringC P l fS) (hf : FnIs P f (cImplS fS) 5 2) : StringC P l f := by
  refine ⟨hf.ent, fun n x w hl => ?_⟩
  refine hf.runs (args := [.int .i8 n]) (by simp) (by omega) ?_
  refine RW.sq (RW.rg (RL.step MR.mv (RL.nil (RW.sq (RW.rg (RL.step (MR.mv (v := .int .i8 n) rfl) (RL.ca (R := fun v w' => v = .string (baN x) ∧ w' = w) hs.1 ?_ ?_)))))))
  · exact Calls.mono (hs.2 n x w hl) fun e w' h => ⟨_, h.1, rfl, h.2⟩
  rintro v w1 ⟨rfl, rfl⟩
  exact RL.step MR.mv (RL.nil (RW.rt ⟨rfl, rfl⟩))

theorem bytesAt_lt {ad : Option Addr} {l : List UInt8} (h : BytesAt w (fun _ => True) ad l) : BytesAt w (· < w.heap.size) ad l := fun j b hj => by
  obtain ⟨g, o, e, _, hc⟩ := h j b hj
  exact ⟨g, o, e, World.block_lt_of_cell? w _ hc, hc⟩

theorem marsh_ok {f fS tS tB tU : Nat} {l : List (Int × List Nat)} (hS : strTy P tS = true) (hB : sliceOf P tB tU = true) (hU8 : intTy P tU .u8 = true) (hs : StringC P l fS) (hf : FnIs2 P f (cMarsh fS tS tB) 7 2 3) : TextC P l .nilIface f := by
  refine ⟨hf.ent, fun n x w hl => ?_⟩
  refine hf.runs (args := [.int .i8 n]) (by simp) (by omega) (by omega) ?_
  refine RW.sq (RW.rg (RL.step MR.mv (RL.step MR.mv (RL.nil (RW.sq (RW.rg (RL.step (MR.mv (v := .int .i8 n) rfl) (RL.ca (R := fun v w' => v = .string (baN x) ∧ w' = w) hs.1 ?_ ?_))))))))
  · exact Calls.mono (hs.2 n x w hl) fun e w' h => ⟨_, h.1, rfl, h.2⟩
  rintro v w1 ⟨rfl, rfl⟩
  obtain ⟨c1, c2, c3⟩ := string_bytes (P := P) hS hB hU8 (baN x) w1
  rw [baN_list] at c1 c3
  exact RL.step (MR.cvW (w' := Lib.bytesWorld w1 tU (baN x)) c1) (RL.step MR.mv (RL.step MR.mv (RL.nil (RW.rt ⟨⟨_, _, rfl, .inr ⟨_, 0, rfl⟩, c3⟩, c2⟩))))

theorem MR.eqNilI {ty x : Nat} {v : Value} (hs : ifaceTy P ty = true) (hx : ρ x = v) (hv : v = Value.nilIface ∨ isErr v) (hxN : x < N := by decide) : MR P N (.bi d .eql ty (.t x) (.c .niface)) ρ w d (.bool (!errB v)) w := by
  obtain ⟨mts, hu⟩ := ifaceTy_eq hs
  intro a o hl hf
  generalize hop : o.op = op' at hf
  unfold execOp
  cases op' <;> simp only [fitOp, Bool.and_eq_true, Bool.false_eq_true, Nat.beq_eq] at hf
  rename_i bop ty' ox oy kq
  obtain ⟨⟨⟨⟨⟨h1, h2⟩, h3⟩, h4⟩, h5⟩, _⟩ := hf
  have h2' := sameOp_eq h2
  subst h2' h3
  cases oy <;> simp only [MX.is, Bool.false_eq_true] at h5
  rename_i c
  have hc : c = Value.nilIface := by cases c <;> simp_all [MVal.is]
  subst hc
  have e1 := MX.evalL hl (ltT hxN) h4
  have e2 : a.eval (Operand.const Value.nilIface) = Value.nilIface := rfl
  have hD : Op.maxDepth = 9999 + 1 := rfl
  refine ⟨dstIs_eq h1, ?_⟩
  have hg : ∀ u : Value, (u = Value.nilIface ∨ isErr u) → (eqGuard .eql ty ox (Operand.const Value.nilIface) u Value.nilIface).run P w = .ok () w := by
    rintro u (rfl | ⟨t, y, rfl⟩)
    · unfold eqGuard; cases ox <;> rfl
    · unfold eqGuard; cases ox <;> rfl
  have hq : ∀ u : Value, (u = Value.nilIface ∨ isErr u) → ∀ d : Nat, (Op.equalIn (d + 1) ty u Value.nilIface).run P w = .ok (!errB u) w := by
    rintro u (rfl | ⟨t, y, rfl⟩) d
    · simp [Op.equalIn, run_underlying hu, errB]
    · simp [Op.equalIn, run_underlying hu, errB]
  have hb : (binOp .eql ty v Value.nilIface).run P w = .ok (.bool (!errB v)) w := by
    rcases hv with rfl | ⟨t, y, rfl⟩
    · simp only [binOp]
      simp [Op.equal, Op.maxDepth, hq _ (.inl rfl) 9999]
    · simp only [binOp]
      simp [Op.equal, Op.maxDepth, hq _ (.inr ⟨t, y, rfl⟩) 9999]
  simp only [hop, e1, e2, xof, hx, Sem.run_bind, hg v hv, hb, Result.andThen_ok, Sem.run_pure]

theorem implT_ok {f fM tB tU tErr : Nat} {l : List (Int × List Nat)} (hmo : P.follows .mixedOrders = true) (hB : sliceOf P tB tU = true) (hU : u8Ty P tU = true) (hI : ifaceTy P tErr = true) (hsh : l.all (fun p => Nat.ble p.2.length 1000000) = true) (hm : TextC P l .nilIface fM) (hf : FnIs2 P f (cImplT fM tB tErr) 15 2 3) : TextC P l (.bool true) f := by
  refine ⟨hf.ent, fun n x w hl => ?_⟩
  have elim : lim = 1099511627776 := rfl
  have hxl : x.length ≤ 1000000 := by
    clear hf hm
    induction l with
    | nil => simp [lookI] at hl
    | cons p r ih =>
      obtain ⟨m, y⟩ := p
      simp only [List.all_cons, Bool.and_eq_true, Nat.ble_eq] at hsh
      unfold lookI at hl
      split at hl
      · cases hl; exact hsh.1
      · exact ih (by simpa using hsh.2) hl
  have hbl : (bytesN x).length = x.length := by simp [bytesN]
  refine hf.runs (args := [.int .i8 n]) (by simp) (by omega) (by omega) ?_
  refine RW.sq (RW.rg (RL.step MR.mv (RL.step MR.mv (RL.nil (RW.sq (RW.rg (RL.step (MR.mv (v := .int .i8 n) rfl) ?_)))))))
  refine RL.ca (R := fun v w' => (∃ ad c, v = .tuple #[.slice ad (bytesN x).length c, .nilIface] ∧ okAd ad ∧ BytesAt w' (· < w'.heap.size) ad (bytesN x)) ∧ Below w.heap.size w w') hm.1 ?_ ?_
  · refine Calls.mono (hm.2 n x w hl) ?_
    rintro e w' ⟨⟨ad, c, rfl, h1, h2⟩, hb⟩
    exact ⟨_, rfl, ⟨ad, c, rfl, h1, h2⟩, hb⟩
  rintro v w1 ⟨⟨ad, c, rfl, had, hba⟩, b1⟩
  refine RL.step MR.mv (RL.step (MR.ext (v := .slice ad (bytesN x).length c) rfl) (RL.step (MR.ext (v := .nilIface) rfl) (RL.step MR.mv (RL.step MR.mv (RL.nil ?_)))))
  have bd : Below w.heap.size w (World.drew1 w1) := b1.trans ((below_drew1 _ _).mono b1.size)
  have hbd : BytesAt (World.drew1 w1) (fun _ => True) ad (bytesN x) := hba.any
  obtain ⟨sv, w2, r1, r2, r3, r4⟩ := run_apOwn (P := P) (w := World.drew1 w1) (T := tB) (U := tU) (c := c) (B := (World.drew1 w1).heap.size) hB hU (OwnB.nil tU _ _) rfl hbd (Nat.le_refl _) (by simp only [List.length_nil]; omega)
  rw [List.nil_append] at r2
  obtain ⟨ad2, c2, rfl, had2, _, hba2⟩ := r2.bytes
  have bw2 : Below w.heap.size w w2 := bd.trans (r3.mono bd.size)
  refine RW.sq (RW.gd hmo (fun w' => w' = World.drew1 w1 ∨ w' = w2) (.inl rfl) ?_)
  refine RG.q (v := .slice ad (bytesN x).length c) (fun _ _ => MR.mv rfl) (RG.q (v := .nilIface) (fun _ _ => MR.mv rfl) (RG.q (v := .bool true) (fun _ _ => MR.eqNilI (v := .nilIface) hI rfl (.inl rfl)) (RG.x (MR.apk r1) (fun _ => .inr rfl) (RG.q (v := .slice ad2 (bytesN x).length c2) (fun _ _ => MR.mv rfl) (RG.q (v := .bool true) (fun _ _ => MR.mv rfl) (RG.nil fun h => RW.rt ?_))))))
  exact ⟨⟨ad2, c2, rfl, had2, bytesAt_lt hba2⟩, bw2⟩

theorem lookI_not {n : Int} : ∀ {l : List (Int × List Nat)} {i : Nat}, (∀ j p, j < i → l[j]? = some p → p.1 ≠ n) → lookI n l = lookI n (l.drop i)
  | l, 0, _ => rfl
  | [], i + 1, _ => by simp
  | (m, y) :: r, i + 1, h => by
    have h0 : m ≠ n := h 0 (m, y) (by omega) rfl
    rw [List.drop_succ_cons, ← lookI_not (l := r) (i := i) fun j q hj hq => h (j + 1) q (by omega) (by simpa using hq)]
    conv => lhs; unfold lookI
    rw [if_neg h0]

theorem word_ok {f tNs tN tS tI : Nat} {l : List (Int × List Nat)} (hT : sliceOf P tNs tN = true) (hz : zeroIs P tN [.int .i64 0, .estr] = true) (hk : cellsB P tN 2 = true) (hrow : rowTy P tN = true) (hF0 : fieldAtB P tN 0 0 = true) (hF1 : fieldAtB P tN 1 1 = true) (hpS : plainTy P tS = true) (hpI : plainTy P tI = true) (hll : l.length ≤ 1000)
    (hf : FnIs2 P f (cWord tNs tN tS tI) 21 4 5) : WordC P l f := by
  refine ⟨hf.ent, fun g n w hg hr => ?_⟩
  refine hf.runs (args := [.slice (some ⟨g, 0, none⟩) l.length l.length, .int .i64 n]) (by simp) (by omega) (by omega) ?_
  refine RW.sq (RW.rg (RL.step MR.mv (RL.step MR.mv (RL.nil (RW.sq (RW.sq (RW.rg (RL.step (MR.mv (v := .slice (some ⟨g, 0, none⟩) l.length l.length) rfl) (RL.step (MR.ln (p := some ⟨g, 0, none⟩) (n := l.length) (c := l.length) hT rfl) (RL.step MR.mv (RL.nil (RW.bl ?_))))))))))))
  refine RW.lp (fun ρ w' => ∃ i : Nat, i ≤ l.length ∧ ρ 1 = .int .i64 n ∧ ρ 8 = .slice (some ⟨g, 0, none⟩) l.length l.length ∧ ρ 9 = .int .i64 (l.length : Nat) ∧ ρ 10 = .int .i64 (i : Nat) ∧ Below w.heap.size w w' ∧ ∀ j p, j < i → l[j]? = some p → p.1 ≠ n)
    (fun ρ _ => l.length - (intOf (ρ 10)).toNat) ⟨0, by omega, rfl, rfl, rfl, rfl, Below.refl _ _, fun j p hj => absurd hj (by omega)⟩ ?_ (fun ρ ρ' w h => by rw [h 10 (by omega)])
  rintro ρ1 w1 ⟨i, hi, q1, q8, q9, q10, bw, hno⟩
  have hm1 : l.length - (intOf (ρ1 10)).toNat = l.length - i := by rw [q10]; simp [intOf]
  rw [hm1]
  refine RW.knows [(1, .int .i64 n), (8, .slice (some ⟨g, 0, none⟩) l.length l.length), (9, .int .i64 (l.length : Nat)), (10, .int .i64 (i : Nat))] (by simp [q1, q8, q9, q10]) (RW.sq (RW.rg (RL.step (MR.biE (v := .bool (decide ((i : Int) < (l.length : Int)))) rfl) (RL.nil ?_))))
  by_cases hlt : i < l.length
  · refine RW.sq (RW.cd (b := true) (by show Value.bool _ = _; rw [decide_eq_true (by omega)]) (fun _ => RW.sk ?_) (fun e => by cases e))
    obtain ⟨p, hp⟩ : ∃ p, l[i]? = some p := ⟨_, List.getElem?_eq_getElem hlt⟩
    have hr1 : w1.rangeAt g (0 + i * 2) (nmCells p) := fun j v hj => by
      have hj2 : j < 2 := by have := (List.getElem?_eq_some_iff.1 hj).1; simpa [nmCells] using this
      have := range_keep hr (bw.block g hg) (i * 2 + j) v (by rw [flat2 hp j hj2]; exact hj)
      rw [show 0 + i * 2 + j = 0 + (i * 2 + j) from by omega]; exact this
    refine RW.sq (RW.bl (RW.sq (RW.rg (RL.step (MR.ia (k := .i64) (j := i) hT hk rfl rfl hlt) (RL.step (MR.ldRow (cs := nmCells p) rfl hrow hk hr1) ?_)))))
    refine RL.alst (z := [Value.int .i64 0, .string ⟨#[]⟩]) (cs := nmCells p) (n := 2) (zeroIs_of hz) rfl (by decide) rfl rfl hk rfl ?_
    intro w2 b2 s2 hr2 ht2
    have bw2 : Below w.heap.size w w2 := bw.trans (b2.mono bw.size)
    refine RL.nil (RW.sq (RW.rg (RL.step (MR.fa (b := w1.heap.size) (o := 0) rfl hF0) (RL.step (MR.ld (v := .int .i64 p.1) rfl hpI (hr2 0 _ rfl)) (RL.step (MR.mv (v := .int .i64 n) rfl) (RL.step (MR.biE (v := .bool (p.1 == n)) (by show evB .eql (.int .i64 p.1) (.int .i64 n) = _; simp [evB])) (RL.nil ?_)))))))
    by_cases hx : p.1 = n
    · refine RW.cd (b := true) (by show Value.bool _ = _; simp [hx]) (fun _ => ?_) (fun e => by cases e)
      refine RW.sq (RW.rg (RL.step (MR.fa (b := w1.heap.size) (o := 0) rfl hF1) (RL.step (MR.ld (v := .string (baN p.2)) rfl hpS (hr2 1 _ rfl)) (RL.step MR.mv (RL.step MR.mv (RL.nil (RW.rt ⟨_, rfl, ?_, bw2⟩)))))))
      have hlook : lookI n l = some p.2 := by
        rw [lookI_not hno, List.drop_eq_getElem_cons hlt]
        have e : l[i] = p := (List.getElem?_eq_some_iff.1 hp).2
        obtain ⟨m, y⟩ := p
        rw [e]
        unfold lookI
        rw [if_pos hx]
      rw [hlook]; rfl
    · refine RW.cd (b := false) (by show Value.bool _ = _; simp [hx]) (fun e => by cases e) (fun _ => RW.sk ?_)
      have hadd' : IntKind.i64.wrap ((i : Int) + 1) = ((i + 1 : Nat) : Int) := by rw [wrap_i64 (by omega) (by omega)]; omega
      refine RW.rg (RL.step (MR.biE (v := .int .i64 ((i + 1 : Nat) : Int)) (by show evB .add (.int .i64 (i : Nat)) (.int .i64 1) = _; simp only [evB, if_true, hadd'])) (RL.step (MR.mv (v := .int .i64 ((i + 1 : Nat) : Int)) rfl) (RL.nil ?_)))
      refine ⟨⟨i + 1, by omega, rfl, rfl, rfl, rfl, bw2, fun j q hj hq => ?_⟩, ?_⟩
      · by_cases e : j = i
        · subst e
          rw [hp] at hq
          cases hq
          exact hx
        · exact hno j q (by omega) hq
      · show l.length - (intOf (.int .i64 ((i + 1 : Nat) : Int))).toNat < _
        simp only [intOf]; omega
  · refine RW.sq (RW.cd (b := false) (by show Value.bool _ = _; rw [decide_eq_false (by omega)]) (fun e => by cases e) (fun _ => RW.ex ?_))
    show RW P 21 _ _ _ _
    refine RW.sq (RW.rg (RL.step MR.mv (RL.step MR.mv (RL.nil (RW.rt ⟨_, rfl, ?_, bw⟩)))))
    have : lookI n l = none := by
      rw [lookI_not hno, List.drop_eq_nil_of_le (by omega)]; rfl
    rw [this]; rfl
end
end Go.Kx
namespace Go.Kx
open Go.RowKit
set_option linter.unusedSimpArgs false
set_option linter.unusedVariables false

def cLawText (tS tB tI t8 fL fW fT fS fP fO : Nat) : MCode :=
  .sq (.rg [.mv 2 (.c (.bool false))])
  (.sq (.rg [.ca 12 fL [], .mv 13 (.t 0), .cv 14 t8 tI 13, .ca 15 fW [.t 12, .t 14], .mv 11 (.t 15), .ext 16 11 0, .ext 17 11 1, .mv 3 (.t 16), .mv 4 (.t 17)])
  (.sq (.sq (.rg [.mv 18 (.t 4), .nt 19 18]) (.cd 19 (.sq (.rg [.mv 2 (.c (.bool true))]) .rt) .sk))
  (.sq (.rg [.mv 21 (.t 0), .ca 22 fT [.t 21], .mv 20 (.t 22), .ext 23 20 0, .ext 24 20 1, .mv 5 (.t 23), .mv 6 (.t 24)])
  (.sq (.sq (.gr false [⟨0, none, .mv 25 (.t 6)⟩, ⟨1, none, .nt 26 25⟩, ⟨2, none, .mv 27 (.t 26)⟩, ⟨3, some (2, 27, false), .mv 28 (.t 0)⟩, ⟨4, some (2, 27, false), .ca 29 fS [.t 28]⟩, ⟨5, some (2, 27, false), .mv 30 (.t 3)⟩, ⟨6, some (2, 27, false), .bi 31 .neq tS (.t 29) (.t 30)⟩, ⟨7, none, .pk 32 (.t 27) (.c (.bool true)) (.t 31)⟩, ⟨8, none, .mv 33 (.t 32)⟩,
      ⟨9, some (8, 33, false), .mv 34 (.t 5)⟩, ⟨10, some (8, 33, false), .cv 35 tB tS 34⟩, ⟨11, some (8, 33, false), .mv 36 (.t 3)⟩, ⟨12, some (8, 33, false), .bi 37 .neq tS (.t 35) (.t 36)⟩, ⟨13, none, .pk 38 (.t 33) (.c (.bool true)) (.t 37)⟩]) (.cd 38 (.sq (.rg [.mv 2 (.c (.bool false))]) .rt) .sk))
  (.sq (.rg [.mv 40 (.t 3), .ca 41 fP [.t 40], .mv 39 (.t 41), .ext 42 39 0, .ext 43 39 1, .mv 7 (.t 42), .mv 8 (.t 43)])
  (.sq (.rg [.mv 45 (.t 5), .ca 46 fO [.t 45], .mv 44 (.t 46), .ext 47 44 0, .ext 48 44 1, .mv 9 (.t 47), .mv 10 (.t 48)])
  (.sq (.gr false [⟨0, none, .mv 49 (.t 8)⟩, ⟨1, none, .mv 50 (.t 49)⟩, ⟨2, some (1, 50, true), .mv 51 (.t 10)⟩, ⟨3, none, .pk 52 (.t 50) (.t 51) (.c (.bool false))⟩, ⟨4, none, .mv 53 (.t 52)⟩, ⟨5, some (4, 53, true), .mv 54 (.t 7)⟩, ⟨6, some (4, 53, true), .mv 55 (.t 0)⟩, ⟨7, some (4, 53, true), .cv 56 t8 tI 55⟩, ⟨8, some (4, 53, true), .bi 57 .eql tI (.t 54) (.t 56)⟩, ⟨9, none, .pk 58 (.t 53) (.t 57) (.c (.bool false))⟩, ⟨10, none, .mv 59 (.t 58)⟩,
      ⟨11, some (10, 59, true), .mv 60 (.t 9)⟩, ⟨12, some (10, 59, true), .mv 61 (.t 0)⟩, ⟨13, some (10, 59, true), .cv 62 t8 tI 61⟩, ⟨14, some (10, 59, true), .bi 63 .eql tI (.t 60) (.t 62)⟩, ⟨15, none, .pk 64 (.t 59) (.t 63) (.c (.bool false))⟩, ⟨16, none, .mv 2 (.t 64)⟩]) .rt)))))))

section
variable {P : Program}

theorem law_text {W : World → Prop} (hW : ∀ w w' : World, W w → Below w.heap.size w w' → W w') {f tS tB tU tI t8 fL fW fT fS fP fO : Nat} {ws : List (List Nat × Int)} {l : List (Int × List Nat)} (hB : sliceOf P tB tU = true) (hU8 : intTy P tU .u8 = true) (hS : strTy P tS = true) (h8 : intTy P t8 .i8 = true) (hi : intTy P tI .i64 = true)
    (hl : NamesC P l fL) (hw : WordC P l fW) (ht : TextC P l (.bool true) fT) (hs : StringC P l fS) (hp : ReadC P W ws fP) (ho : ReadTC P W ws fO) (hwords : ∀ n x, lookI n l = some x → asciiL (bytesN x) ∧ x.length ≤ 1000000 ∧ lookW (normS (bytesN x)) ws = some n) (hf : FnIs P f (cLawText tS tB tI t8 fL fW fT fS fP fO) 65 2)
    (w : World) (hww : W w) (n : Int) (hn0 : -128 ≤ n) (hn1 : n ≤ 127) : Calls P f #[.int .i8 n] w (fun e w' => e = .returned (.bool true) ∧ Below w.heap.size w w') := by
  refine hf.runs (args := [.int .i8 n]) (by simp) (by omega) ?_
  have hwr : IntKind.i64.wrap n = n := wrap_i64 (by omega) (by omega)
  refine RW.sq (RW.rg (RL.step MR.mv (RL.nil (RW.sq (RW.rg ?_)))))
  refine RL.ca (R := fun v w' => (∃ g, v = .slice (some ⟨g, 0, none⟩) l.length l.length ∧ g < w'.heap.size ∧ w'.rangeAt g 0 (l.flatMap nmCells)) ∧ Below w.heap.size w w') hl.1 ?_ ?_
  · refine Calls.mono (hl.2 w) ?_
    rintro e w' ⟨g, rfl, h1, h2, h3⟩
    exact ⟨_, rfl, ⟨g, rfl, h1, h2⟩, h3⟩
  rintro v w1 ⟨⟨g, rfl, hg, hr⟩, b1⟩
  refine RL.step (MR.mv (v := .int .i8 n) rfl) ?_
  refine RL.step (MR.cvI (n := n) rfl h8 hi) ?_
  rw [hwr]
  refine RL.ca (R := fun v w' => wordOut (lookI n l) v ∧ Below w1.heap.size w1 w') hw.1 (Calls.mono (hw.2 g n w1 hg hr) fun e w' ⟨v, h1, h2, h3⟩ => ⟨v, h1, h2, h3⟩) ?_
  rintro v w2 ⟨hv, b2⟩
  have bw2 : Below w.heap.size w w2 := b1.trans (b2.mono b1.size)
  cases hx : lookI n l with
  | none =>
    rw [hx] at hv
    simp only [wordOut] at hv
    subst hv
    refine RL.step MR.mv (RL.step (MR.ext (v := .string ⟨#[]⟩) rfl) (RL.step (MR.ext (v := .bool false) rfl) (RL.step MR.mv (RL.step MR.mv (RL.nil ?_)))))
    refine RW.sq (RW.sq (RW.rg (RL.step (MR.mv (v := .bool false) rfl) (RL.step (MR.nt rfl) (RL.nil ?_)))))
    exact RW.cd (b := true) rfl (fun _ => RW.sq (RW.rg (RL.step MR.mv (RL.nil (RW.rt ⟨rfl, bw2⟩))))) (fun e => by cases e)
  | some x =>
  rw [hx] at hv
  simp only [wordOut] at hv
  subst hv
  obtain ⟨hxa, hxl, hxw⟩ := hwords n x hx
  have hbl : (bytesN x).length = x.length := by simp [bytesN]
  have hbs : (baN x).size = x.length := by rw [← size_list, baN_list, hbl]
  refine RL.step MR.mv (RL.step (MR.ext (v := .string (baN x)) rfl) (RL.step (MR.ext (v := .bool true) rfl) (RL.step MR.mv (RL.step MR.mv (RL.nil ?_)))))
  refine RW.sq (RW.sq (RW.rg (RL.step (MR.mv (v := .bool true) rfl) (RL.step (MR.nt rfl) (RL.nil ?_)))))
  refine RW.cd (b := false) rfl (fun e => by cases e) (fun _ => RW.sk ?_)
  -- its text
  refine RW.sq (RW.rg (RL.step (MR.mv (v := .int .i8 n) rfl) ?_))
  refine RL.ca (R := fun v w' => (∃ ad c, v = .tuple #[.slice ad (bytesN x).length c, .bool true] ∧ okAd ad ∧ BytesAt w' (· < w'.heap.size) ad (bytesN x)) ∧ Below w2.heap.size w2 w') ht.1 ?_ ?_
  · refine Calls.mono (ht.2 n x w2 hx) ?_
    rintro e w' ⟨⟨ad, c, rfl, h1, h2⟩, hb⟩
    exact ⟨_, rfl, ⟨ad, c, rfl, h1, h2⟩, hb⟩
  rintro v w3 ⟨⟨ad, c, rfl, had, hba⟩, b3⟩
  have bw3 : Below w.heap.size w w3 := bw2.trans (b3.mono bw2.size)
  refine RL.step MR.mv (RL.step (MR.ext (v := .slice ad (bytesN x).length c) rfl) (RL.step (MR.ext (v := .bool true) rfl) (RL.step MR.mv (RL.step MR.mv (RL.nil ?_)))))
  refine RW.sq (RW.sq (RW.gf (fun w' => w' = w3) rfl ?_))
  refine RG.q (v := .bool true) (fun _ _ => MR.mv rfl) ?_
  refine RG.q (v := .bool false) (fun _ _ => MR.nt (b := true) rfl) ?_
  refine RG.q (v := .bool false) (fun _ _ => MR.mv rfl) ?_
  refine RG.q (v := .int .i8 n) (fun _ _ => MR.mv rfl) ?_
  refine RG.ca (R := fun v w' => v = .string (baN x) ∧ w' = w3) hs.1 (fun hw => ?_) ?_
  · exact Calls.mono (hs.2 n x w3 hx) fun e w' h => ⟨_, h.1, ⟨rfl, h.2⟩, h.2⟩
  rintro v w3 ⟨rfl, rfl⟩
  refine RG.q (v := .string (baN x)) (fun _ _ => MR.mv rfl) ?_
  refine RG.q (v := .bool (!decide ((baN x).data.toList = (baN x).data.toList))) (fun _ _ => MR.neSS rfl rfl) ?_
  rw [decide_eq_true rfl]
  refine RG.q (v := .bool false) (fun _ _ => MR.pk (b := false) rfl) ?_
  refine RG.q (v := .bool false) (fun _ _ => MR.mv rfl) ?_
  refine RG.q (v := .slice ad (bytesN x).length c) (fun _ _ => MR.mv rfl) ?_
  refine RG.q (v := .string ⟨(bytesN x).toArray⟩) (fun w' hS' => MR.cv (by rw [hS']; exact conv_str hB hU8 hS had hba)) ?_
  refine RG.q (v := .string (baN x)) (fun _ _ => MR.mv rfl) ?_
  refine RG.q (v := .bool (!decide ((⟨(bytesN x).toArray⟩ : ByteArray).data.toList = (baN x).data.toList))) (fun _ _ => MR.neSS rfl rfl) ?_
  rw [decide_eq_true (by rw [baN_list])]
  refine RG.q (v := .bool false) (fun _ _ => MR.pk (b := false) rfl) (RG.nil fun hw => ?_)
  refine RW.cd (b := false) rfl (fun e => by cases e) (fun _ => RW.sk ?_)
  -- both are read
  refine RW.sq (RW.rg (RL.step (MR.mv (v := .string (baN x)) rfl) (RL.ca (R := fun v w' => v = .tuple #[.int .i64 n, .bool true] ∧ Below w3.heap.size w3 w') hp.1 ?_ ?_)))
  · refine Calls.mono (hp.2 (baN x) w3 (by omega) (by rw [baN_list]; exact hxa) (hW _ _ hww bw3)) ?_
    rintro e w' ⟨v, rfl, h1, h2⟩
    rw [baN_list, hxw] at h1
    exact ⟨v, rfl, h1, h2⟩
  rintro v w4 ⟨rfl, b4⟩
  have bw4 : Below w.heap.size w w4 := bw3.trans (b4.mono bw3.size)
  refine RL.step MR.mv (RL.step (MR.ext (v := .int .i64 n) rfl) (RL.step (MR.ext (v := .bool true) rfl) (RL.step MR.mv (RL.step MR.mv (RL.nil ?_)))))
  have hba4 : BytesAt w4 (· < w4.heap.size) ad (bytesN x) := bytesAt_lt (hba.below b4).any
  refine RW.sq (RW.rg (RL.step (MR.mv (v := .slice ad (bytesN x).length c) rfl) (RL.ca (R := fun v w' => v = .tuple #[.int .i64 n, .bool true] ∧ Below w4.heap.size w4 w') ho.1 ?_ ?_)))
  · refine Calls.mono (ho.2 c ad (bytesN x) w4 (by omega) hxa (hW _ _ hww bw4) had hba4) ?_
    rintro e w' ⟨v, rfl, h1, h2⟩
    rw [hxw] at h1
    exact ⟨v, rfl, h1, h2⟩
  rintro v w5 ⟨rfl, b5⟩
  have bw5 : Below w.heap.size w w5 := bw4.trans (b5.mono bw4.size)
  refine RL.step MR.mv (RL.step (MR.ext (v := .int .i64 n) rfl) (RL.step (MR.ext (v := .bool true) rfl) (RL.step MR.mv (RL.step MR.mv (RL.nil ?_)))))
  have he : evB .eql (.int .i64 n) (.int .i64 (IntKind.i64.wrap n)) = some (.bool true) := by rw [hwr]; simp [evB]
  refine RW.sq (RW.gf (fun w' => w' = w5) rfl ?_)
  refine RG.q (v := .bool true) (fun _ _ => MR.mv rfl) ?_
  refine RG.q (v := .bool true) (fun _ _ => MR.mv rfl) ?_
  refine RG.q (v := .bool true) (fun _ _ => MR.mv rfl) ?_
  refine RG.q (v := .bool true) (fun _ _ => MR.pk (b := true) rfl) ?_
  refine RG.q (v := .bool true) (fun _ _ => MR.mv rfl) ?_
  refine RG.q (v := .int .i64 n) (fun _ _ => MR.mv rfl) ?_
  refine RG.q (v := .int .i8 n) (fun _ _ => MR.mv rfl) ?_
  refine RG.q (v := .int .i64 (IntKind.i64.wrap n)) (fun _ _ => MR.cvI rfl h8 hi) ?_
  refine RG.q (v := .bool true) (fun _ _ => MR.biE he) ?_
  refine RG.q (v := .bool true) (fun _ _ => MR.pk (b := true) rfl) ?_
  refine RG.q (v := .bool true) (fun _ _ => MR.mv rfl) ?_
  refine RG.q (v := .int .i64 n) (fun _ _ => MR.mv rfl) ?_
  refine RG.q (v := .int .i8 n) (fun _ _ => MR.mv rfl) ?_
  refine RG.q (v := .int .i64 (IntKind.i64.wrap n)) (fun _ _ => MR.cvI rfl h8 hi) ?_
  refine RG.q (v := .bool true) (fun _ _ => MR.biE he) ?_
  refine RG.q (v := .bool true) (fun _ _ => MR.pk (b := true) rfl) ?_
  exact RG.q (v := .bool true) (fun _ _ => MR.mv rfl) (RG.nil fun hw => RW.rt ⟨rfl, by rw [hw]; exact bw5⟩)
end
theorem lookI_mem {n : Int} {x : List Nat} : ∀ {l : List (Int × List Nat)}, lookI n l = some x → ∃ p ∈ l, p.1 = n ∧ p.2 = x
  | [], h => by simp [lookI] at h
  | (m, y) :: r, h => by
    unfold lookI at h
    split at h
    · cases h; exact ⟨(m, x), List.mem_cons_self, by assumption, rfl⟩
    · obtain ⟨p, h1, h2⟩ := lookI_mem h
      exact ⟨p, List.mem_cons_of_mem _ h1, h2⟩
end Go.Kx
