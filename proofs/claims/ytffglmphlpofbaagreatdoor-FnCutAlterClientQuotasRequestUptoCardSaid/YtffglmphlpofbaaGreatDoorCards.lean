/-
  DERIVED. GIVEN WITH THE SEED: THE CARDS: each row of YtffglmphlpofbaaGreatDoorRows.lean that lists a variable, with what it lists TIED to the program's text (the seventh form; the later family's looks); each row that meets fmt, with fmt's text TOLD by the authors' own Lean function (tested against real Go, not proved from fmt's source: count such statements apart). THE CARD IS WHAT COUNTS. Prove the row's statement (the work); the ties are given (YtffglmphlpofbaaGreatDoorTie.lean); close each card by the builder's one call (the guide's Derived/Test/ToyasCard.lean, 'card_holds'). Laid BY PROGRAM, IN A SANDBOX (cutbox-door.mjs). By AI agents, Wed Nov 11 2026. No macro, syntax, notation, axiom, sorry.
-/
import Derived.Test.YtffglmphlpofbaaGreatDoorRows
import GoSem.ClaimSeven
namespace Go.Proofs.YtffglmphlpofbaaGreatDoor
namespace Rows

/-- THE TIED CARD OF 'laws.FnCutAlterClientQuotasRequest'. -/
def fnCutAlterClientQuotasRequestCard : Claim7 := { stood := { row := fnCutAlterClientQuotasRequestRow, standIns := [], harness := (true, "0084a6b9bbd7712a41faa214101889ddca39aba2c78fe8f4912f156401099c4b"), looks := false }, kinds := [], alts := [], laidByText := true, laidKinds := [.sentinel], laidTests := true, laidLooks := .later }
def FnCutAlterClientQuotasRequestCardSaid : Prop := Claim7.holds Tryz.pinned (.plain (OpenSpec.ofChange fnCutAlterClientQuotasRequestSpec)) fnCutAlterClientQuotasRequestCard

/-- THE TIED CARD OF 'laws.FnAnyTxnMetadataValue'. -/
def fnAnyTxnMetadataValueCard : Claim7 := { stood := { row := fnAnyTxnMetadataValueRow, standIns := [], harness := (true, "0084a6b9bbd7712a41faa214101889ddca39aba2c78fe8f4912f156401099c4b"), looks := false }, kinds := [], alts := [], laidByText := true, laidKinds := [.sentinel], laidTests := true, laidLooks := .later }
def FnAnyTxnMetadataValueCardSaid : Prop := Claim7.holds Tryz.pinned (.plain (OpenSpec.ofChange fnAnyTxnMetadataValueSpec)) fnAnyTxnMetadataValueCard

/-- THE TIED CARD OF 'laws.FnCutFetchSnapshotResponse'. -/
def fnCutFetchSnapshotResponseCard : Claim7 := { stood := { row := fnCutFetchSnapshotResponseRow, standIns := [], harness := (true, "0084a6b9bbd7712a41faa214101889ddca39aba2c78fe8f4912f156401099c4b"), looks := false }, kinds := [], alts := [], laidByText := true, laidKinds := [.sentinel], laidTests := true, laidLooks := .later }
def FnCutFetchSnapshotResponseCardSaid : Prop := Claim7.holds Tryz.pinned (.plain (OpenSpec.ofChange fnCutFetchSnapshotResponseSpec)) fnCutFetchSnapshotResponseCard

/-- THE TIED CARD OF 'laws.FnCutCreateTopicsResponse'. -/
def fnCutCreateTopicsResponseCard : Claim7 := { stood := { row := fnCutCreateTopicsResponseRow, standIns := [], harness := (true, "0084a6b9bbd7712a41faa214101889ddca39aba2c78fe8f4912f156401099c4b"), looks := false }, kinds := [], alts := [], laidByText := true, laidKinds := [.sentinel], laidTests := true, laidLooks := .later }
def FnCutCreateTopicsResponseCardSaid : Prop := Claim7.holds Tryz.pinned (.plain (OpenSpec.ofChange fnCutCreateTopicsResponseSpec)) fnCutCreateTopicsResponseCard

/-- THE SECOND FORM's CARD OF 'laws.FnCutAlterClientQuotasRequest'. -/
def fnCutAlterClientQuotasRequestUptoCard : Claim7 := { stood := { row := fnCutAlterClientQuotasRequestUptoRow, standIns := [], harness := (true, "0084a6b9bbd7712a41faa214101889ddca39aba2c78fe8f4912f156401099c4b"), looks := false }, kinds := [], alts := [], laidByText := true, laidKinds := [.sentinel], laidTests := true, laidLooks := .later }
def FnCutAlterClientQuotasRequestUptoCardSaid : Prop := Claim7.holds Tryz.pinned (.plain (OpenSpec.upto fnCutAlterClientQuotasRequestSpec)) fnCutAlterClientQuotasRequestUptoCard

/-- THE SECOND FORM's CARD OF 'laws.FnAnyTxnMetadataValue'. -/
def fnAnyTxnMetadataValueUptoCard : Claim7 := { stood := { row := fnAnyTxnMetadataValueUptoRow, standIns := [], harness := (true, "0084a6b9bbd7712a41faa214101889ddca39aba2c78fe8f4912f156401099c4b"), looks := false }, kinds := [], alts := [], laidByText := true, laidKinds := [.sentinel], laidTests := true, laidLooks := .later }
def FnAnyTxnMetadataValueUptoCardSaid : Prop := Claim7.holds Tryz.pinned (.plain (OpenSpec.upto fnAnyTxnMetadataValueSpec)) fnAnyTxnMetadataValueUptoCard

/-- THE SECOND FORM's CARD OF 'laws.FnCutFetchSnapshotResponse'. -/
def fnCutFetchSnapshotResponseUptoCard : Claim7 := { stood := { row := fnCutFetchSnapshotResponseUptoRow, standIns := [], harness := (true, "0084a6b9bbd7712a41faa214101889ddca39aba2c78fe8f4912f156401099c4b"), looks := false }, kinds := [], alts := [], laidByText := true, laidKinds := [.sentinel], laidTests := true, laidLooks := .later }
def FnCutFetchSnapshotResponseUptoCardSaid : Prop := Claim7.holds Tryz.pinned (.plain (OpenSpec.upto fnCutFetchSnapshotResponseSpec)) fnCutFetchSnapshotResponseUptoCard

/-- THE SECOND FORM's CARD OF 'laws.FnCutCreateTopicsResponse'. -/
def fnCutCreateTopicsResponseUptoCard : Claim7 := { stood := { row := fnCutCreateTopicsResponseUptoRow, standIns := [], harness := (true, "0084a6b9bbd7712a41faa214101889ddca39aba2c78fe8f4912f156401099c4b"), looks := false }, kinds := [], alts := [], laidByText := true, laidKinds := [.sentinel], laidTests := true, laidLooks := .later }
def FnCutCreateTopicsResponseUptoCardSaid : Prop := Claim7.holds Tryz.pinned (.plain (OpenSpec.upto fnCutCreateTopicsResponseSpec)) fnCutCreateTopicsResponseUptoCard
end Rows
end Go.Proofs.YtffglmphlpofbaaGreatDoor
