/-
  DERIVED. GIVEN WITH THE SEED: THE CARDS: each row of YtmehkjdaeohblaaDoorRows.lean that lists a variable, with what it lists TIED to the program's text (the seventh form; the later family's looks); each row that meets fmt, with fmt's text TOLD by the authors' own Lean function (tested against real Go, not proved from fmt's source: count such statements apart). THE CARD IS WHAT COUNTS. Prove the row's statement (the work); the ties are given (YtmehkjdaeohblaaDoorTie.lean); close each card by the builder's one call (the guide's Derived/Test/ToyasCard.lean, 'card_holds'). Laid BY PROGRAM, IN A SANDBOX (cutbox-door.mjs). By AI agents, Wed Nov 11 2026. No macro, syntax, notation, axiom, sorry.
-/
import Derived.Test.YtmehkjdaeohblaaDoorRows
import GoSem.ClaimSeven
namespace Go.Proofs.YtmehkjdaeohblaaDoor
namespace Rows

/-- THE TIED CARD OF 'laws.FnAnyMetadataResponse'. -/
def fnAnyMetadataResponseCard : Claim7 := { stood := { row := fnAnyMetadataResponseRow, standIns := [], harness := (true, "38c143591d3ef99820c3d93df8eb3aa0312101e0352106b24e5c7c8d1f984824"), looks := false }, kinds := [], alts := [], laidByText := true, laidKinds := [.sentinel], laidTests := true, laidLooks := .later }
def FnAnyMetadataResponseCardSaid : Prop := Claim7.holds Tryd.pinned (.plain (OpenSpec.ofChange fnAnyMetadataResponseSpec)) fnAnyMetadataResponseCard

/-- THE SECOND FORM's CARD OF 'laws.FnAnyMetadataResponse'. -/
def fnAnyMetadataResponseUptoCard : Claim7 := { stood := { row := fnAnyMetadataResponseUptoRow, standIns := [], harness := (true, "38c143591d3ef99820c3d93df8eb3aa0312101e0352106b24e5c7c8d1f984824"), looks := false }, kinds := [], alts := [], laidByText := true, laidKinds := [.sentinel], laidTests := true, laidLooks := .later }
def FnAnyMetadataResponseUptoCardSaid : Prop := Claim7.holds Tryd.pinned (.plain (OpenSpec.upto fnAnyMetadataResponseSpec)) fnAnyMetadataResponseUptoCard
end Rows
end Go.Proofs.YtmehkjdaeohblaaDoor
