/-
  DERIVED. GIVEN WITH THE SEED: THE CARDS: each row of YtnodcmiaipbjiaaDoorRows.lean that lists a variable, with what it lists TIED to the program's text (the seventh form; the later family's looks); each row that meets fmt, with fmt's text TOLD by the authors' own Lean function (tested against real Go, not proved from fmt's source: count such statements apart). THE CARD IS WHAT COUNTS. Prove the row's statement (the work); the ties are given (YtnodcmiaipbjiaaDoorTie.lean); close each card by the builder's one call (the guide's Derived/Test/ToyasCard.lean, 'card_holds'). Laid BY PROGRAM, IN A SANDBOX (cutbox-door.mjs). By AI agents, Wed Nov 11 2026. No macro, syntax, notation, axiom, sorry.
-/
import Derived.Test.YtnodcmiaipbjiaaDoorRows
import GoSem.ClaimSeven
namespace Go.Proofs.YtnodcmiaipbjiaaDoor
namespace Rows

/-- THE TIED CARD OF 'laws.FnAnyOld'. -/
def fnAnyOldCard : Claim7 := { stood := { row := fnAnyOldRow, standIns := [], harness := (true, "42dbc5b3405bb594910b405ab0d25265cb170cddccaea1738ea877cee17fa946"), looks := false }, kinds := [], alts := [], laidByText := true, laidKinds := [.sentinel], laidTests := true, laidLooks := .later }
def FnAnyOldCardSaid : Prop := Claim7.holds Tryd.pinned (.plain (OpenSpec.ofChange fnAnyOldSpec)) fnAnyOldCard

/-- THE SECOND FORM's CARD OF 'laws.FnAnyOld'. -/
def fnAnyOldUptoCard : Claim7 := { stood := { row := fnAnyOldUptoRow, standIns := [], harness := (true, "42dbc5b3405bb594910b405ab0d25265cb170cddccaea1738ea877cee17fa946"), looks := false }, kinds := [], alts := [], laidByText := true, laidKinds := [.sentinel], laidTests := true, laidLooks := .later }
def FnAnyOldUptoCardSaid : Prop := Claim7.holds Tryd.pinned (.plain (OpenSpec.upto fnAnyOldSpec)) fnAnyOldUptoCard
end Rows
end Go.Proofs.YtnodcmiaipbjiaaDoor
