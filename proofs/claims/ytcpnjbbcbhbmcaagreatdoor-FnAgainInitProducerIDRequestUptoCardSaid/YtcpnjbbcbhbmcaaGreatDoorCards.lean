/-
  DERIVED. GIVEN WITH THE SEED: THE CARDS: each row of YtcpnjbbcbhbmcaaGreatDoorRows.lean that lists a variable, with what it lists TIED to the program's text (the seventh form; the later family's looks); each row that meets fmt, with fmt's text TOLD by the authors' own Lean function (tested against real Go, not proved from fmt's source: count such statements apart). THE CARD IS WHAT COUNTS. Prove the row's statement (the work); the ties are given (YtcpnjbbcbhbmcaaGreatDoorTie.lean); close each card by the builder's one call (the guide's Derived/Test/ToyasCard.lean, 'card_holds'). Laid BY PROGRAM, IN A SANDBOX (cutbox-door.mjs). By AI agents, Wed Nov 11 2026. No macro, syntax, notation, axiom, sorry.
-/
import Derived.Test.YtcpnjbbcbhbmcaaGreatDoorRows
import GoSem.ClaimSeven
namespace Go.Proofs.YtcpnjbbcbhbmcaaGreatDoor
namespace Rows

/-- THE TIED CARD OF 'laws.FnAgainRemoveRaftVoterResponse'. -/
def fnAgainRemoveRaftVoterResponseCard : Claim7 := { stood := { row := fnAgainRemoveRaftVoterResponseRow, standIns := [], harness := (true, "c9943504219722fea669f80770a63288e44a40b1e0262367760f7e64974ba949"), looks := false }, kinds := [], alts := [], laidByText := true, laidKinds := [.sentinel], laidTests := true, laidLooks := .later }
def FnAgainRemoveRaftVoterResponseCardSaid : Prop := Claim7.holds Tryz.pinned (.plain (OpenSpec.ofChange fnAgainRemoveRaftVoterResponseSpec)) fnAgainRemoveRaftVoterResponseCard

/-- THE TIED CARD OF 'laws.FnCutUnregisterControllerResponse'. -/
def fnCutUnregisterControllerResponseCard : Claim7 := { stood := { row := fnCutUnregisterControllerResponseRow, standIns := [], harness := (true, "c9943504219722fea669f80770a63288e44a40b1e0262367760f7e64974ba949"), looks := false }, kinds := [], alts := [], laidByText := true, laidKinds := [.sentinel], laidTests := true, laidLooks := .later }
def FnCutUnregisterControllerResponseCardSaid : Prop := Claim7.holds Tryz.pinned (.plain (OpenSpec.ofChange fnCutUnregisterControllerResponseSpec)) fnCutUnregisterControllerResponseCard

/-- THE TIED CARD OF 'laws.FnAgainDescribeTransactionsRequest'. -/
def fnAgainDescribeTransactionsRequestCard : Claim7 := { stood := { row := fnAgainDescribeTransactionsRequestRow, standIns := [], harness := (true, "c9943504219722fea669f80770a63288e44a40b1e0262367760f7e64974ba949"), looks := false }, kinds := [], alts := [], laidByText := true, laidKinds := [.sentinel], laidTests := true, laidLooks := .later }
def FnAgainDescribeTransactionsRequestCardSaid : Prop := Claim7.holds Tryz.pinned (.plain (OpenSpec.ofChange fnAgainDescribeTransactionsRequestSpec)) fnAgainDescribeTransactionsRequestCard

/-- THE TIED CARD OF 'laws.FnAgainInitProducerIDRequest'. -/
def fnAgainInitProducerIDRequestCard : Claim7 := { stood := { row := fnAgainInitProducerIDRequestRow, standIns := [], harness := (true, "c9943504219722fea669f80770a63288e44a40b1e0262367760f7e64974ba949"), looks := false }, kinds := [], alts := [], laidByText := true, laidKinds := [.sentinel], laidTests := true, laidLooks := .later }
def FnAgainInitProducerIDRequestCardSaid : Prop := Claim7.holds Tryz.pinned (.plain (OpenSpec.ofChange fnAgainInitProducerIDRequestSpec)) fnAgainInitProducerIDRequestCard

/-- THE TIED CARD OF 'laws.FnCutStreamsGroupDescribeRequest'. -/
def fnCutStreamsGroupDescribeRequestCard : Claim7 := { stood := { row := fnCutStreamsGroupDescribeRequestRow, standIns := [], harness := (true, "c9943504219722fea669f80770a63288e44a40b1e0262367760f7e64974ba949"), looks := false }, kinds := [], alts := [], laidByText := true, laidKinds := [.sentinel], laidTests := true, laidLooks := .later }
def FnCutStreamsGroupDescribeRequestCardSaid : Prop := Claim7.holds Tryz.pinned (.plain (OpenSpec.ofChange fnCutStreamsGroupDescribeRequestSpec)) fnCutStreamsGroupDescribeRequestCard

/-- THE SECOND FORM's CARD OF 'laws.FnAgainRemoveRaftVoterResponse'. -/
def fnAgainRemoveRaftVoterResponseUptoCard : Claim7 := { stood := { row := fnAgainRemoveRaftVoterResponseUptoRow, standIns := [], harness := (true, "c9943504219722fea669f80770a63288e44a40b1e0262367760f7e64974ba949"), looks := false }, kinds := [], alts := [], laidByText := true, laidKinds := [.sentinel], laidTests := true, laidLooks := .later }
def FnAgainRemoveRaftVoterResponseUptoCardSaid : Prop := Claim7.holds Tryz.pinned (.plain (OpenSpec.upto fnAgainRemoveRaftVoterResponseSpec)) fnAgainRemoveRaftVoterResponseUptoCard

/-- THE SECOND FORM's CARD OF 'laws.FnCutUnregisterControllerResponse'. -/
def fnCutUnregisterControllerResponseUptoCard : Claim7 := { stood := { row := fnCutUnregisterControllerResponseUptoRow, standIns := [], harness := (true, "c9943504219722fea669f80770a63288e44a40b1e0262367760f7e64974ba949"), looks := false }, kinds := [], alts := [], laidByText := true, laidKinds := [.sentinel], laidTests := true, laidLooks := .later }
def FnCutUnregisterControllerResponseUptoCardSaid : Prop := Claim7.holds Tryz.pinned (.plain (OpenSpec.upto fnCutUnregisterControllerResponseSpec)) fnCutUnregisterControllerResponseUptoCard

/-- THE SECOND FORM's CARD OF 'laws.FnAgainDescribeTransactionsRequest'. -/
def fnAgainDescribeTransactionsRequestUptoCard : Claim7 := { stood := { row := fnAgainDescribeTransactionsRequestUptoRow, standIns := [], harness := (true, "c9943504219722fea669f80770a63288e44a40b1e0262367760f7e64974ba949"), looks := false }, kinds := [], alts := [], laidByText := true, laidKinds := [.sentinel], laidTests := true, laidLooks := .later }
def FnAgainDescribeTransactionsRequestUptoCardSaid : Prop := Claim7.holds Tryz.pinned (.plain (OpenSpec.upto fnAgainDescribeTransactionsRequestSpec)) fnAgainDescribeTransactionsRequestUptoCard

/-- THE SECOND FORM's CARD OF 'laws.FnAgainInitProducerIDRequest'. -/
def fnAgainInitProducerIDRequestUptoCard : Claim7 := { stood := { row := fnAgainInitProducerIDRequestUptoRow, standIns := [], harness := (true, "c9943504219722fea669f80770a63288e44a40b1e0262367760f7e64974ba949"), looks := false }, kinds := [], alts := [], laidByText := true, laidKinds := [.sentinel], laidTests := true, laidLooks := .later }
def FnAgainInitProducerIDRequestUptoCardSaid : Prop := Claim7.holds Tryz.pinned (.plain (OpenSpec.upto fnAgainInitProducerIDRequestSpec)) fnAgainInitProducerIDRequestUptoCard

/-- THE SECOND FORM's CARD OF 'laws.FnCutStreamsGroupDescribeRequest'. -/
def fnCutStreamsGroupDescribeRequestUptoCard : Claim7 := { stood := { row := fnCutStreamsGroupDescribeRequestUptoRow, standIns := [], harness := (true, "c9943504219722fea669f80770a63288e44a40b1e0262367760f7e64974ba949"), looks := false }, kinds := [], alts := [], laidByText := true, laidKinds := [.sentinel], laidTests := true, laidLooks := .later }
def FnCutStreamsGroupDescribeRequestUptoCardSaid : Prop := Claim7.holds Tryz.pinned (.plain (OpenSpec.upto fnCutStreamsGroupDescribeRequestSpec)) fnCutStreamsGroupDescribeRequestUptoCard
end Rows
end Go.Proofs.YtcpnjbbcbhbmcaaGreatDoor
