/-
  DERIVED. GIVEN WITH THE SEED: THE CARDS: each row of YtafoaplcmgfloaaDoorRows.lean that lists a variable, with what it lists TIED to the program's text (the seventh form; the later family's looks); each row that meets fmt, with fmt's text TOLD by the authors' own Lean function (tested against real Go, not proved from fmt's source: count such statements apart). THE CARD IS WHAT COUNTS. Prove the row's statement (the work); the ties are given (YtafoaplcmgfloaaDoorTie.lean); close each card by the builder's one call (the guide's Derived/Test/ToyasCard.lean, 'card_holds'). Laid BY PROGRAM, IN A SANDBOX (cutbox-door.mjs). By AI agents, Wed Nov 11 2026. No macro, syntax, notation, axiom, sorry.
-/
import Derived.Test.YtafoaplcmgfloaaDoorRows
import GoSem.ClaimSeven
namespace Go.Proofs.YtafoaplcmgfloaaDoor
namespace Rows

/-- THE TIED CARD OF 'laws.FnAnyUpdateMetadataResponse'. -/
def fnAnyUpdateMetadataResponseCard : Claim7 := { stood := { row := fnAnyUpdateMetadataResponseRow, standIns := [], harness := (true, "61b645786bd3cace6bd91dbdffc4db822713c0184e80f6e6bbe734f9ee4d0d95"), looks := false }, kinds := [], alts := [], laidByText := true, laidKinds := [.sentinel], laidTests := true, laidLooks := .later }
def FnAnyUpdateMetadataResponseCardSaid : Prop := Claim7.holds Tryd.pinned (.plain (OpenSpec.ofChange fnAnyUpdateMetadataResponseSpec)) fnAnyUpdateMetadataResponseCard

/-- THE TIED CARD OF 'laws.FnAnyReadShareGroupStateRequest'. -/
def fnAnyReadShareGroupStateRequestCard : Claim7 := { stood := { row := fnAnyReadShareGroupStateRequestRow, standIns := [], harness := (true, "61b645786bd3cace6bd91dbdffc4db822713c0184e80f6e6bbe734f9ee4d0d95"), looks := false }, kinds := [], alts := [], laidByText := true, laidKinds := [.sentinel], laidTests := true, laidLooks := .later }
def FnAnyReadShareGroupStateRequestCardSaid : Prop := Claim7.holds Tryd.pinned (.plain (OpenSpec.ofChange fnAnyReadShareGroupStateRequestSpec)) fnAnyReadShareGroupStateRequestCard

/-- THE TIED CARD OF 'laws.FnAnyDeleteGroupsResponse'. -/
def fnAnyDeleteGroupsResponseCard : Claim7 := { stood := { row := fnAnyDeleteGroupsResponseRow, standIns := [], harness := (true, "61b645786bd3cace6bd91dbdffc4db822713c0184e80f6e6bbe734f9ee4d0d95"), looks := false }, kinds := [], alts := [], laidByText := true, laidKinds := [.sentinel], laidTests := true, laidLooks := .later }
def FnAnyDeleteGroupsResponseCardSaid : Prop := Claim7.holds Tryd.pinned (.plain (OpenSpec.ofChange fnAnyDeleteGroupsResponseSpec)) fnAnyDeleteGroupsResponseCard

/-- THE SECOND FORM's CARD OF 'laws.FnAnyUpdateMetadataResponse'. -/
def fnAnyUpdateMetadataResponseUptoCard : Claim7 := { stood := { row := fnAnyUpdateMetadataResponseUptoRow, standIns := [], harness := (true, "61b645786bd3cace6bd91dbdffc4db822713c0184e80f6e6bbe734f9ee4d0d95"), looks := false }, kinds := [], alts := [], laidByText := true, laidKinds := [.sentinel], laidTests := true, laidLooks := .later }
def FnAnyUpdateMetadataResponseUptoCardSaid : Prop := Claim7.holds Tryd.pinned (.plain (OpenSpec.upto fnAnyUpdateMetadataResponseSpec)) fnAnyUpdateMetadataResponseUptoCard

/-- THE SECOND FORM's CARD OF 'laws.FnAnyReadShareGroupStateRequest'. -/
def fnAnyReadShareGroupStateRequestUptoCard : Claim7 := { stood := { row := fnAnyReadShareGroupStateRequestUptoRow, standIns := [], harness := (true, "61b645786bd3cace6bd91dbdffc4db822713c0184e80f6e6bbe734f9ee4d0d95"), looks := false }, kinds := [], alts := [], laidByText := true, laidKinds := [.sentinel], laidTests := true, laidLooks := .later }
def FnAnyReadShareGroupStateRequestUptoCardSaid : Prop := Claim7.holds Tryd.pinned (.plain (OpenSpec.upto fnAnyReadShareGroupStateRequestSpec)) fnAnyReadShareGroupStateRequestUptoCard

/-- THE SECOND FORM's CARD OF 'laws.FnAnyDeleteGroupsResponse'. -/
def fnAnyDeleteGroupsResponseUptoCard : Claim7 := { stood := { row := fnAnyDeleteGroupsResponseUptoRow, standIns := [], harness := (true, "61b645786bd3cace6bd91dbdffc4db822713c0184e80f6e6bbe734f9ee4d0d95"), looks := false }, kinds := [], alts := [], laidByText := true, laidKinds := [.sentinel], laidTests := true, laidLooks := .later }
def FnAnyDeleteGroupsResponseUptoCardSaid : Prop := Claim7.holds Tryd.pinned (.plain (OpenSpec.upto fnAnyDeleteGroupsResponseSpec)) fnAnyDeleteGroupsResponseUptoCard
end Rows
end Go.Proofs.YtafoaplcmgfloaaDoor
