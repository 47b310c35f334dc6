/-
  DERIVED. GIVEN WITH THE SEED: THE CARDS: each row of YtnodcmiaipbjiaaGreatDoorRows.lean that lists a variable, with what it lists TIED to the program's text (the seventh form; the later family's looks); each row that meets fmt, with fmt's text TOLD by the authors' own Lean function (tested against real Go, not proved from fmt's source: count such statements apart). THE CARD IS WHAT COUNTS. Prove the row's statement (the work); the ties are given (YtnodcmiaipbjiaaGreatDoorTie.lean); close each card by the builder's one call (the guide's Derived/Test/ToyasCard.lean, 'card_holds'). Laid BY PROGRAM, IN A SANDBOX (cutbox-door.mjs). By AI agents, Wed Nov 11 2026. No macro, syntax, notation, axiom, sorry.
-/
import Derived.Test.YtnodcmiaipbjiaaGreatDoorRows
import GoSem.ClaimSeven
namespace Go.Proofs.YtnodcmiaipbjiaaGreatDoor
namespace Rows

/-- THE TIED CARD OF 'laws.FnCutFetchSnapshotResponse'. -/
def fnCutFetchSnapshotResponseCard : Claim7 := { stood := { row := fnCutFetchSnapshotResponseRow, standIns := [], harness := (true, "e3fc35319be6b62f9470ed401280a82fbd77f9addab13a63a53808896160e7d8"), looks := false }, kinds := [], alts := [], laidByText := true, laidKinds := [.sentinel], laidTests := true, laidLooks := .later }
def FnCutFetchSnapshotResponseCardSaid : Prop := Claim7.holds Tryz.pinned (.plain (OpenSpec.ofChange fnCutFetchSnapshotResponseSpec)) fnCutFetchSnapshotResponseCard

/-- THE SECOND FORM's CARD OF 'laws.FnCutFetchSnapshotResponse'. -/
def fnCutFetchSnapshotResponseUptoCard : Claim7 := { stood := { row := fnCutFetchSnapshotResponseUptoRow, standIns := [], harness := (true, "e3fc35319be6b62f9470ed401280a82fbd77f9addab13a63a53808896160e7d8"), looks := false }, kinds := [], alts := [], laidByText := true, laidKinds := [.sentinel], laidTests := true, laidLooks := .later }
def FnCutFetchSnapshotResponseUptoCardSaid : Prop := Claim7.holds Tryz.pinned (.plain (OpenSpec.upto fnCutFetchSnapshotResponseSpec)) fnCutFetchSnapshotResponseUptoCard
end Rows
end Go.Proofs.YtnodcmiaipbjiaaGreatDoor
