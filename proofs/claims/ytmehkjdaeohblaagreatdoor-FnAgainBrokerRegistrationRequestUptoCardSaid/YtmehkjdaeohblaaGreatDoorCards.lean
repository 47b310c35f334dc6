/-
  DERIVED. GIVEN WITH THE SEED: THE CARDS: each row of YtmehkjdaeohblaaGreatDoorRows.lean that lists a variable, with what it lists TIED to the program's text (the seventh form; the later family's looks); each row that meets fmt, with fmt's text TOLD by the authors' own Lean function (tested against real Go, not proved from fmt's source: count such statements apart). THE CARD IS WHAT COUNTS. Prove the row's statement (the work); the ties are given (YtmehkjdaeohblaaGreatDoorTie.lean); close each card by the builder's one call (the guide's Derived/Test/ToyasCard.lean, 'card_holds'). Laid BY PROGRAM, IN A SANDBOX (cutbox-door.mjs). By AI agents, Wed Nov 11 2026. No macro, syntax, notation, axiom, sorry.
-/
import Derived.Test.YtmehkjdaeohblaaGreatDoorRows
import GoSem.ClaimSeven
namespace Go.Proofs.YtmehkjdaeohblaaGreatDoor
namespace Rows

/-- THE TIED CARD OF 'laws.FnAgainBrokerRegistrationRequest'. -/
def fnAgainBrokerRegistrationRequestCard : Claim7 := { stood := { row := fnAgainBrokerRegistrationRequestRow, standIns := [], harness := (true, "9443a6243c8890278e8a8498e9802a250d14ac50c239e3572d04906ed64b2ed7"), looks := false }, kinds := [], alts := [], laidByText := true, laidKinds := [.sentinel], laidTests := true, laidLooks := .later }
def FnAgainBrokerRegistrationRequestCardSaid : Prop := Claim7.holds Tryz.pinned (.plain (OpenSpec.ofChange fnAgainBrokerRegistrationRequestSpec)) fnAgainBrokerRegistrationRequestCard

/-- THE TIED CARD OF 'laws.FnAgainOffsetFetchRequest'. -/
def fnAgainOffsetFetchRequestCard : Claim7 := { stood := { row := fnAgainOffsetFetchRequestRow, standIns := [], harness := (true, "9443a6243c8890278e8a8498e9802a250d14ac50c239e3572d04906ed64b2ed7"), looks := false }, kinds := [], alts := [], laidByText := true, laidKinds := [.sentinel], laidTests := true, laidLooks := .later }
def FnAgainOffsetFetchRequestCardSaid : Prop := Claim7.holds Tryz.pinned (.plain (OpenSpec.ofChange fnAgainOffsetFetchRequestSpec)) fnAgainOffsetFetchRequestCard

/-- THE SECOND FORM's CARD OF 'laws.FnAgainBrokerRegistrationRequest'. -/
def fnAgainBrokerRegistrationRequestUptoCard : Claim7 := { stood := { row := fnAgainBrokerRegistrationRequestUptoRow, standIns := [], harness := (true, "9443a6243c8890278e8a8498e9802a250d14ac50c239e3572d04906ed64b2ed7"), looks := false }, kinds := [], alts := [], laidByText := true, laidKinds := [.sentinel], laidTests := true, laidLooks := .later }
def FnAgainBrokerRegistrationRequestUptoCardSaid : Prop := Claim7.holds Tryz.pinned (.plain (OpenSpec.upto fnAgainBrokerRegistrationRequestSpec)) fnAgainBrokerRegistrationRequestUptoCard

/-- THE SECOND FORM's CARD OF 'laws.FnAgainOffsetFetchRequest'. -/
def fnAgainOffsetFetchRequestUptoCard : Claim7 := { stood := { row := fnAgainOffsetFetchRequestUptoRow, standIns := [], harness := (true, "9443a6243c8890278e8a8498e9802a250d14ac50c239e3572d04906ed64b2ed7"), looks := false }, kinds := [], alts := [], laidByText := true, laidKinds := [.sentinel], laidTests := true, laidLooks := .later }
def FnAgainOffsetFetchRequestUptoCardSaid : Prop := Claim7.holds Tryz.pinned (.plain (OpenSpec.upto fnAgainOffsetFetchRequestSpec)) fnAgainOffsetFetchRequestUptoCard
end Rows
end Go.Proofs.YtmehkjdaeohblaaGreatDoor
