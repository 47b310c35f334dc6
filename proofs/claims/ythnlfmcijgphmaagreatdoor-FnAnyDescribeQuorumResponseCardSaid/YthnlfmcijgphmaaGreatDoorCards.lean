/-
  DERIVED. GIVEN WITH THE SEED: THE CARDS: each row of YthnlfmcijgphmaaGreatDoorRows.lean that lists a variable, with what it lists TIED to the program's text (the seventh form; the later family's looks); each row that meets fmt, with fmt's text TOLD by the authors' own Lean function (tested against real Go, not proved from fmt's source: count such statements apart). THE CARD IS WHAT COUNTS. Prove the row's statement (the work); the ties are given (YthnlfmcijgphmaaGreatDoorTie.lean); close each card by the builder's one call (the guide's Derived/Test/ToyasCard.lean, 'card_holds'). Laid BY PROGRAM, IN A SANDBOX (cutbox-door.mjs). By AI agents, Wed Nov 11 2026. No macro, syntax, notation, axiom, sorry.
-/
import Derived.Test.YthnlfmcijgphmaaGreatDoorRows
import GoSem.ClaimSeven
namespace Go.Proofs.YthnlfmcijgphmaaGreatDoor
namespace Rows

/-- THE TIED CARD OF 'laws.FnAnyDescribeQuorumResponse'. -/
def fnAnyDescribeQuorumResponseCard : Claim7 := { stood := { row := fnAnyDescribeQuorumResponseRow, standIns := [], harness := (true, "a2eeefde847bc9447553848a17c5e8ef56b1b38b167e4ffb6bee96010550d575"), looks := false }, kinds := [], alts := [], laidByText := true, laidKinds := [.sentinel], laidTests := true, laidLooks := .later }
def FnAnyDescribeQuorumResponseCardSaid : Prop := Claim7.holds Tryz.pinned (.plain (OpenSpec.ofChange fnAnyDescribeQuorumResponseSpec)) fnAnyDescribeQuorumResponseCard

/-- THE SECOND FORM's CARD OF 'laws.FnAnyDescribeQuorumResponse'. -/
def fnAnyDescribeQuorumResponseUptoCard : Claim7 := { stood := { row := fnAnyDescribeQuorumResponseUptoRow, standIns := [], harness := (true, "a2eeefde847bc9447553848a17c5e8ef56b1b38b167e4ffb6bee96010550d575"), looks := false }, kinds := [], alts := [], laidByText := true, laidKinds := [.sentinel], laidTests := true, laidLooks := .later }
def FnAnyDescribeQuorumResponseUptoCardSaid : Prop := Claim7.holds Tryz.pinned (.plain (OpenSpec.upto fnAnyDescribeQuorumResponseSpec)) fnAnyDescribeQuorumResponseUptoCard
end Rows
end Go.Proofs.YthnlfmcijgphmaaGreatDoor
