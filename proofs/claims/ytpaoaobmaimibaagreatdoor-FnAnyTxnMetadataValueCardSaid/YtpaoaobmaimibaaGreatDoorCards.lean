/-
  DERIVED. GIVEN WITH THE SEED: THE CARDS: each row of YtpaoaobmaimibaaGreatDoorRows.lean that lists a variable, with what it lists TIED to the program's text (the seventh form; the later family's looks); each row that meets fmt, with fmt's text TOLD by the authors' own Lean function (tested against real Go, not proved from fmt's source: count such statements apart). THE CARD IS WHAT COUNTS. Prove the row's statement (the work); the ties are given (YtpaoaobmaimibaaGreatDoorTie.lean); close each card by the builder's one call (the guide's Derived/Test/ToyasCard.lean, 'card_holds'). Laid BY PROGRAM, IN A SANDBOX (cutbox-door.mjs). By AI agents, Wed Nov 11 2026. No macro, syntax, notation, axiom, sorry.
-/
import Derived.Test.YtpaoaobmaimibaaGreatDoorRows
import GoSem.ClaimSeven
namespace Go.Proofs.YtpaoaobmaimibaaGreatDoor
namespace Rows

/-- THE TIED CARD OF 'laws.FnAnyTxnMetadataValue'. -/
def fnAnyTxnMetadataValueCard : Claim7 := { stood := { row := fnAnyTxnMetadataValueRow, standIns := [], harness := (true, "7879eae55947b3d1adc66aa720448eaea1db72014f03df91074a5c3a98636263"), looks := false }, kinds := [], alts := [], laidByText := true, laidKinds := [.sentinel], laidTests := true, laidLooks := .later }
def FnAnyTxnMetadataValueCardSaid : Prop := Claim7.holds Tryz.pinned (.plain (OpenSpec.ofChange fnAnyTxnMetadataValueSpec)) fnAnyTxnMetadataValueCard

/-- THE TIED CARD OF 'laws.FnCutFetchSnapshotResponse'. -/
def fnCutFetchSnapshotResponseCard : Claim7 := { stood := { row := fnCutFetchSnapshotResponseRow, standIns := [], harness := (true, "7879eae55947b3d1adc66aa720448eaea1db72014f03df91074a5c3a98636263"), looks := false }, kinds := [], alts := [], laidByText := true, laidKinds := [.sentinel], laidTests := true, laidLooks := .later }
def FnCutFetchSnapshotResponseCardSaid : Prop := Claim7.holds Tryz.pinned (.plain (OpenSpec.ofChange fnCutFetchSnapshotResponseSpec)) fnCutFetchSnapshotResponseCard

/-- THE TIED CARD OF 'laws.FnCutCreateTopicsResponse'. -/
def fnCutCreateTopicsResponseCard : Claim7 := { stood := { row := fnCutCreateTopicsResponseRow, standIns := [], harness := (true, "7879eae55947b3d1adc66aa720448eaea1db72014f03df91074a5c3a98636263"), looks := false }, kinds := [], alts := [], laidByText := true, laidKinds := [.sentinel], laidTests := true, laidLooks := .later }
def FnCutCreateTopicsResponseCardSaid : Prop := Claim7.holds Tryz.pinned (.plain (OpenSpec.ofChange fnCutCreateTopicsResponseSpec)) fnCutCreateTopicsResponseCard

/-- THE SECOND FORM's CARD OF 'laws.FnAnyTxnMetadataValue'. -/
def fnAnyTxnMetadataValueUptoCard : Claim7 := { stood := { row := fnAnyTxnMetadataValueUptoRow, standIns := [], harness := (true, "7879eae55947b3d1adc66aa720448eaea1db72014f03df91074a5c3a98636263"), looks := false }, kinds := [], alts := [], laidByText := true, laidKinds := [.sentinel], laidTests := true, laidLooks := .later }
def FnAnyTxnMetadataValueUptoCardSaid : Prop := Claim7.holds Tryz.pinned (.plain (OpenSpec.upto fnAnyTxnMetadataValueSpec)) fnAnyTxnMetadataValueUptoCard

/-- THE SECOND FORM's CARD OF 'laws.FnCutFetchSnapshotResponse'. -/
def fnCutFetchSnapshotResponseUptoCard : Claim7 := { stood := { row := fnCutFetchSnapshotResponseUptoRow, standIns := [], harness := (true, "7879eae55947b3d1adc66aa720448eaea1db72014f03df91074a5c3a98636263"), looks := false }, kinds := [], alts := [], laidByText := true, laidKinds := [.sentinel], laidTests := true, laidLooks := .later }
def FnCutFetchSnapshotResponseUptoCardSaid : Prop := Claim7.holds Tryz.pinned (.plain (OpenSpec.upto fnCutFetchSnapshotResponseSpec)) fnCutFetchSnapshotResponseUptoCard

/-- THE SECOND FORM's CARD OF 'laws.FnCutCreateTopicsResponse'. -/
def fnCutCreateTopicsResponseUptoCard : Claim7 := { stood := { row := fnCutCreateTopicsResponseUptoRow, standIns := [], harness := (true, "7879eae55947b3d1adc66aa720448eaea1db72014f03df91074a5c3a98636263"), looks := false }, kinds := [], alts := [], laidByText := true, laidKinds := [.sentinel], laidTests := true, laidLooks := .later }
def FnCutCreateTopicsResponseUptoCardSaid : Prop := Claim7.holds Tryz.pinned (.plain (OpenSpec.upto fnCutCreateTopicsResponseSpec)) fnCutCreateTopicsResponseUptoCard
end Rows
end Go.Proofs.YtpaoaobmaimibaaGreatDoor
