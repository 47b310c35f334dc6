/-
  DERIVED. GIVEN WITH THE SEED: THE CARDS: each row of YtafoaplcmgfloaaGreatDoorRows.lean that lists a variable, with what it lists TIED to the program's text (the seventh form; the later family's looks); each row that meets fmt, with fmt's text TOLD by the authors' own Lean function (tested against real Go, not proved from fmt's source: count such statements apart). THE CARD IS WHAT COUNTS. Prove the row's statement (the work); the ties are given (YtafoaplcmgfloaaGreatDoorTie.lean); close each card by the builder's one call (the guide's Derived/Test/ToyasCard.lean, 'card_holds'). Laid BY PROGRAM, IN A SANDBOX (cutbox-door.mjs). By AI agents, Wed Nov 11 2026. No macro, syntax, notation, axiom, sorry.
-/
import Derived.Test.YtafoaplcmgfloaaGreatDoorRows
import GoSem.ClaimSeven
namespace Go.Proofs.YtafoaplcmgfloaaGreatDoor
namespace Rows

/-- THE TIED CARD OF 'laws.FnCutSASLAuthenticateResponse'. -/
def fnCutSASLAuthenticateResponseCard : Claim7 := { stood := { row := fnCutSASLAuthenticateResponseRow, standIns := [], harness := (true, "3dc502ab98ce3d3d78f73f3ac139cfd6b1880975614347fc3511842d84d7d90f"), looks := false }, kinds := [], alts := [], laidByText := true, laidKinds := [.sentinel], laidTests := true, laidLooks := .later }
def FnCutSASLAuthenticateResponseCardSaid : Prop := Claim7.holds Tryz.pinned (.plain (OpenSpec.ofChange fnCutSASLAuthenticateResponseSpec)) fnCutSASLAuthenticateResponseCard

/-- THE TIED CARD OF 'laws.FnCutDescribeACLsRequest'. -/
def fnCutDescribeACLsRequestCard : Claim7 := { stood := { row := fnCutDescribeACLsRequestRow, standIns := [], harness := (true, "3dc502ab98ce3d3d78f73f3ac139cfd6b1880975614347fc3511842d84d7d90f"), looks := false }, kinds := [], alts := [], laidByText := true, laidKinds := [.sentinel], laidTests := true, laidLooks := .later }
def FnCutDescribeACLsRequestCardSaid : Prop := Claim7.holds Tryz.pinned (.plain (OpenSpec.ofChange fnCutDescribeACLsRequestSpec)) fnCutDescribeACLsRequestCard

/-- THE TIED CARD OF 'laws.FnAgainAlterReplicaLogDirsResponse'. -/
def fnAgainAlterReplicaLogDirsResponseCard : Claim7 := { stood := { row := fnAgainAlterReplicaLogDirsResponseRow, standIns := [], harness := (true, "3dc502ab98ce3d3d78f73f3ac139cfd6b1880975614347fc3511842d84d7d90f"), looks := false }, kinds := [], alts := [], laidByText := true, laidKinds := [.sentinel], laidTests := true, laidLooks := .later }
def FnAgainAlterReplicaLogDirsResponseCardSaid : Prop := Claim7.holds Tryz.pinned (.plain (OpenSpec.ofChange fnAgainAlterReplicaLogDirsResponseSpec)) fnAgainAlterReplicaLogDirsResponseCard

/-- THE TIED CARD OF 'laws.FnAgainDeleteShareGroupStateRequest'. -/
def fnAgainDeleteShareGroupStateRequestCard : Claim7 := { stood := { row := fnAgainDeleteShareGroupStateRequestRow, standIns := [], harness := (true, "3dc502ab98ce3d3d78f73f3ac139cfd6b1880975614347fc3511842d84d7d90f"), looks := false }, kinds := [], alts := [], laidByText := true, laidKinds := [.sentinel], laidTests := true, laidLooks := .later }
def FnAgainDeleteShareGroupStateRequestCardSaid : Prop := Claim7.holds Tryz.pinned (.plain (OpenSpec.ofChange fnAgainDeleteShareGroupStateRequestSpec)) fnAgainDeleteShareGroupStateRequestCard

/-- THE TIED CARD OF 'laws.FnCutElectLeadersRequest'. -/
def fnCutElectLeadersRequestCard : Claim7 := { stood := { row := fnCutElectLeadersRequestRow, standIns := [], harness := (true, "3dc502ab98ce3d3d78f73f3ac139cfd6b1880975614347fc3511842d84d7d90f"), looks := false }, kinds := [], alts := [], laidByText := true, laidKinds := [.sentinel], laidTests := true, laidLooks := .later }
def FnCutElectLeadersRequestCardSaid : Prop := Claim7.holds Tryz.pinned (.plain (OpenSpec.ofChange fnCutElectLeadersRequestSpec)) fnCutElectLeadersRequestCard

/-- THE TIED CARD OF 'laws.FnAgainTxnOffsetCommitResponse'. -/
def fnAgainTxnOffsetCommitResponseCard : Claim7 := { stood := { row := fnAgainTxnOffsetCommitResponseRow, standIns := [], harness := (true, "3dc502ab98ce3d3d78f73f3ac139cfd6b1880975614347fc3511842d84d7d90f"), looks := false }, kinds := [], alts := [], laidByText := true, laidKinds := [.sentinel], laidTests := true, laidLooks := .later }
def FnAgainTxnOffsetCommitResponseCardSaid : Prop := Claim7.holds Tryz.pinned (.plain (OpenSpec.ofChange fnAgainTxnOffsetCommitResponseSpec)) fnAgainTxnOffsetCommitResponseCard

/-- THE TIED CARD OF 'laws.FnCutAlterUserSCRAMCredentialsResponse'. -/
def fnCutAlterUserSCRAMCredentialsResponseCard : Claim7 := { stood := { row := fnCutAlterUserSCRAMCredentialsResponseRow, standIns := [], harness := (true, "3dc502ab98ce3d3d78f73f3ac139cfd6b1880975614347fc3511842d84d7d90f"), looks := false }, kinds := [], alts := [], laidByText := true, laidKinds := [.sentinel], laidTests := true, laidLooks := .later }
def FnCutAlterUserSCRAMCredentialsResponseCardSaid : Prop := Claim7.holds Tryz.pinned (.plain (OpenSpec.ofChange fnCutAlterUserSCRAMCredentialsResponseSpec)) fnCutAlterUserSCRAMCredentialsResponseCard

/-- THE TIED CARD OF 'laws.FnAgainListGroupsResponse'. -/
def fnAgainListGroupsResponseCard : Claim7 := { stood := { row := fnAgainListGroupsResponseRow, standIns := [], harness := (true, "3dc502ab98ce3d3d78f73f3ac139cfd6b1880975614347fc3511842d84d7d90f"), looks := false }, kinds := [], alts := [], laidByText := true, laidKinds := [.sentinel], laidTests := true, laidLooks := .later }
def FnAgainListGroupsResponseCardSaid : Prop := Claim7.holds Tryz.pinned (.plain (OpenSpec.ofChange fnAgainListGroupsResponseSpec)) fnAgainListGroupsResponseCard

/-- THE SECOND FORM's CARD OF 'laws.FnCutSASLAuthenticateResponse'. -/
def fnCutSASLAuthenticateResponseUptoCard : Claim7 := { stood := { row := fnCutSASLAuthenticateResponseUptoRow, standIns := [], harness := (true, "3dc502ab98ce3d3d78f73f3ac139cfd6b1880975614347fc3511842d84d7d90f"), looks := false }, kinds := [], alts := [], laidByText := true, laidKinds := [.sentinel], laidTests := true, laidLooks := .later }
def FnCutSASLAuthenticateResponseUptoCardSaid : Prop := Claim7.holds Tryz.pinned (.plain (OpenSpec.upto fnCutSASLAuthenticateResponseSpec)) fnCutSASLAuthenticateResponseUptoCard

/-- THE SECOND FORM's CARD OF 'laws.FnCutDescribeACLsRequest'. -/
def fnCutDescribeACLsRequestUptoCard : Claim7 := { stood := { row := fnCutDescribeACLsRequestUptoRow, standIns := [], harness := (true, "3dc502ab98ce3d3d78f73f3ac139cfd6b1880975614347fc3511842d84d7d90f"), looks := false }, kinds := [], alts := [], laidByText := true, laidKinds := [.sentinel], laidTests := true, laidLooks := .later }
def FnCutDescribeACLsRequestUptoCardSaid : Prop := Claim7.holds Tryz.pinned (.plain (OpenSpec.upto fnCutDescribeACLsRequestSpec)) fnCutDescribeACLsRequestUptoCard

/-- THE SECOND FORM's CARD OF 'laws.FnAgainAlterReplicaLogDirsResponse'. -/
def fnAgainAlterReplicaLogDirsResponseUptoCard : Claim7 := { stood := { row := fnAgainAlterReplicaLogDirsResponseUptoRow, standIns := [], harness := (true, "3dc502ab98ce3d3d78f73f3ac139cfd6b1880975614347fc3511842d84d7d90f"), looks := false }, kinds := [], alts := [], laidByText := true, laidKinds := [.sentinel], laidTests := true, laidLooks := .later }
def FnAgainAlterReplicaLogDirsResponseUptoCardSaid : Prop := Claim7.holds Tryz.pinned (.plain (OpenSpec.upto fnAgainAlterReplicaLogDirsResponseSpec)) fnAgainAlterReplicaLogDirsResponseUptoCard

/-- THE SECOND FORM's CARD OF 'laws.FnAgainDeleteShareGroupStateRequest'. -/
def fnAgainDeleteShareGroupStateRequestUptoCard : Claim7 := { stood := { row := fnAgainDeleteShareGroupStateRequestUptoRow, standIns := [], harness := (true, "3dc502ab98ce3d3d78f73f3ac139cfd6b1880975614347fc3511842d84d7d90f"), looks := false }, kinds := [], alts := [], laidByText := true, laidKinds := [.sentinel], laidTests := true, laidLooks := .later }
def FnAgainDeleteShareGroupStateRequestUptoCardSaid : Prop := Claim7.holds Tryz.pinned (.plain (OpenSpec.upto fnAgainDeleteShareGroupStateRequestSpec)) fnAgainDeleteShareGroupStateRequestUptoCard

/-- THE SECOND FORM's CARD OF 'laws.FnCutElectLeadersRequest'. -/
def fnCutElectLeadersRequestUptoCard : Claim7 := { stood := { row := fnCutElectLeadersRequestUptoRow, standIns := [], harness := (true, "3dc502ab98ce3d3d78f73f3ac139cfd6b1880975614347fc3511842d84d7d90f"), looks := false }, kinds := [], alts := [], laidByText := true, laidKinds := [.sentinel], laidTests := true, laidLooks := .later }
def FnCutElectLeadersRequestUptoCardSaid : Prop := Claim7.holds Tryz.pinned (.plain (OpenSpec.upto fnCutElectLeadersRequestSpec)) fnCutElectLeadersRequestUptoCard

/-- THE SECOND FORM's CARD OF 'laws.FnAgainTxnOffsetCommitResponse'. -/
def fnAgainTxnOffsetCommitResponseUptoCard : Claim7 := { stood := { row := fnAgainTxnOffsetCommitResponseUptoRow, standIns := [], harness := (true, "3dc502ab98ce3d3d78f73f3ac139cfd6b1880975614347fc3511842d84d7d90f"), looks := false }, kinds := [], alts := [], laidByText := true, laidKinds := [.sentinel], laidTests := true, laidLooks := .later }
def FnAgainTxnOffsetCommitResponseUptoCardSaid : Prop := Claim7.holds Tryz.pinned (.plain (OpenSpec.upto fnAgainTxnOffsetCommitResponseSpec)) fnAgainTxnOffsetCommitResponseUptoCard

/-- THE SECOND FORM's CARD OF 'laws.FnCutAlterUserSCRAMCredentialsResponse'. -/
def fnCutAlterUserSCRAMCredentialsResponseUptoCard : Claim7 := { stood := { row := fnCutAlterUserSCRAMCredentialsResponseUptoRow, standIns := [], harness := (true, "3dc502ab98ce3d3d78f73f3ac139cfd6b1880975614347fc3511842d84d7d90f"), looks := false }, kinds := [], alts := [], laidByText := true, laidKinds := [.sentinel], laidTests := true, laidLooks := .later }
def FnCutAlterUserSCRAMCredentialsResponseUptoCardSaid : Prop := Claim7.holds Tryz.pinned (.plain (OpenSpec.upto fnCutAlterUserSCRAMCredentialsResponseSpec)) fnCutAlterUserSCRAMCredentialsResponseUptoCard

/-- THE SECOND FORM's CARD OF 'laws.FnAgainListGroupsResponse'. -/
def fnAgainListGroupsResponseUptoCard : Claim7 := { stood := { row := fnAgainListGroupsResponseUptoRow, standIns := [], harness := (true, "3dc502ab98ce3d3d78f73f3ac139cfd6b1880975614347fc3511842d84d7d90f"), looks := false }, kinds := [], alts := [], laidByText := true, laidKinds := [.sentinel], laidTests := true, laidLooks := .later }
def FnAgainListGroupsResponseUptoCardSaid : Prop := Claim7.holds Tryz.pinned (.plain (OpenSpec.upto fnAgainListGroupsResponseSpec)) fnAgainListGroupsResponseUptoCard
end Rows
end Go.Proofs.YtafoaplcmgfloaaGreatDoor
