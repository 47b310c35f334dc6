/-
  DERIVED. GIVEN WITH THE SEED: THE CARDS: each row of YtepedhnfnicbaaaGreatDoorRows.lean that lists a variable, with what it lists TIED to the program's text (the seventh form; the later family's looks); each row that meets fmt, with fmt's text TOLD by the authors' own Lean function (tested against real Go, not proved from fmt's source: count such statements apart). THE CARD IS WHAT COUNTS. Prove the row's statement (the work); the ties are given (YtepedhnfnicbaaaGreatDoorTie.lean); close each card by the builder's one call (the guide's Derived/Test/ToyasCard.lean, 'card_holds'). Laid BY PROGRAM, IN A SANDBOX (cutbox-door.mjs). By AI agents, Wed Nov 11 2026. No macro, syntax, notation, axiom, sorry.
-/
import Derived.Test.YtepedhnfnicbaaaGreatDoorRows
import GoSem.ClaimSeven
namespace Go.Proofs.YtepedhnfnicbaaaGreatDoor
namespace Rows

/-- THE TIED CARD OF 'laws.FnAgainShareGroupHeartbeatRequest'. -/
def fnAgainShareGroupHeartbeatRequestCard : Claim7 := { stood := { row := fnAgainShareGroupHeartbeatRequestRow, standIns := [], harness := (true, "0668c84a716326821f47c30d106da597c17efb11e2f05512000c588f91290ad3"), looks := false }, kinds := [], alts := [], laidByText := true, laidKinds := [.sentinel], laidTests := true, laidLooks := .later }
def FnAgainShareGroupHeartbeatRequestCardSaid : Prop := Claim7.holds Tryz.pinned (.plain (OpenSpec.ofChange fnAgainShareGroupHeartbeatRequestSpec)) fnAgainShareGroupHeartbeatRequestCard

/-- THE TIED CARD OF 'laws.FnAgainCreateDelegationTokenResponse'. -/
def fnAgainCreateDelegationTokenResponseCard : Claim7 := { stood := { row := fnAgainCreateDelegationTokenResponseRow, standIns := [], harness := (true, "0668c84a716326821f47c30d106da597c17efb11e2f05512000c588f91290ad3"), looks := false }, kinds := [], alts := [], laidByText := true, laidKinds := [.sentinel], laidTests := true, laidLooks := .later }
def FnAgainCreateDelegationTokenResponseCardSaid : Prop := Claim7.holds Tryz.pinned (.plain (OpenSpec.ofChange fnAgainCreateDelegationTokenResponseSpec)) fnAgainCreateDelegationTokenResponseCard

/-- THE TIED CARD OF 'laws.FnAgainAddRaftVoterRequest'. -/
def fnAgainAddRaftVoterRequestCard : Claim7 := { stood := { row := fnAgainAddRaftVoterRequestRow, standIns := [], harness := (true, "0668c84a716326821f47c30d106da597c17efb11e2f05512000c588f91290ad3"), looks := false }, kinds := [], alts := [], laidByText := true, laidKinds := [.sentinel], laidTests := true, laidLooks := .later }
def FnAgainAddRaftVoterRequestCardSaid : Prop := Claim7.holds Tryz.pinned (.plain (OpenSpec.ofChange fnAgainAddRaftVoterRequestSpec)) fnAgainAddRaftVoterRequestCard

/-- THE TIED CARD OF 'laws.FnAgainWriteShareGroupStateRequest'. -/
def fnAgainWriteShareGroupStateRequestCard : Claim7 := { stood := { row := fnAgainWriteShareGroupStateRequestRow, standIns := [], harness := (true, "0668c84a716326821f47c30d106da597c17efb11e2f05512000c588f91290ad3"), looks := false }, kinds := [], alts := [], laidByText := true, laidKinds := [.sentinel], laidTests := true, laidLooks := .later }
def FnAgainWriteShareGroupStateRequestCardSaid : Prop := Claim7.holds Tryz.pinned (.plain (OpenSpec.ofChange fnAgainWriteShareGroupStateRequestSpec)) fnAgainWriteShareGroupStateRequestCard

/-- THE TIED CARD OF 'laws.FnAgainDescribeDelegationTokenResponse'. -/
def fnAgainDescribeDelegationTokenResponseCard : Claim7 := { stood := { row := fnAgainDescribeDelegationTokenResponseRow, standIns := [], harness := (true, "0668c84a716326821f47c30d106da597c17efb11e2f05512000c588f91290ad3"), looks := false }, kinds := [], alts := [], laidByText := true, laidKinds := [.sentinel], laidTests := true, laidLooks := .later }
def FnAgainDescribeDelegationTokenResponseCardSaid : Prop := Claim7.holds Tryz.pinned (.plain (OpenSpec.ofChange fnAgainDescribeDelegationTokenResponseSpec)) fnAgainDescribeDelegationTokenResponseCard

/-- THE TIED CARD OF 'laws.FnAgainBrokerRegistrationRequest'. -/
def fnAgainBrokerRegistrationRequestCard : Claim7 := { stood := { row := fnAgainBrokerRegistrationRequestRow, standIns := [], harness := (true, "0668c84a716326821f47c30d106da597c17efb11e2f05512000c588f91290ad3"), looks := false }, kinds := [], alts := [], laidByText := true, laidKinds := [.sentinel], laidTests := true, laidLooks := .later }
def FnAgainBrokerRegistrationRequestCardSaid : Prop := Claim7.holds Tryz.pinned (.plain (OpenSpec.ofChange fnAgainBrokerRegistrationRequestSpec)) fnAgainBrokerRegistrationRequestCard

/-- THE TIED CARD OF 'laws.FnAgainOffsetFetchRequest'. -/
def fnAgainOffsetFetchRequestCard : Claim7 := { stood := { row := fnAgainOffsetFetchRequestRow, standIns := [], harness := (true, "0668c84a716326821f47c30d106da597c17efb11e2f05512000c588f91290ad3"), looks := false }, kinds := [], alts := [], laidByText := true, laidKinds := [.sentinel], laidTests := true, laidLooks := .later }
def FnAgainOffsetFetchRequestCardSaid : Prop := Claim7.holds Tryz.pinned (.plain (OpenSpec.ofChange fnAgainOffsetFetchRequestSpec)) fnAgainOffsetFetchRequestCard

/-- THE TIED CARD OF 'laws.FnCutJoinGroupRequest'. -/
def fnCutJoinGroupRequestCard : Claim7 := { stood := { row := fnCutJoinGroupRequestRow, standIns := [], harness := (true, "0668c84a716326821f47c30d106da597c17efb11e2f05512000c588f91290ad3"), looks := false }, kinds := [], alts := [], laidByText := true, laidKinds := [.sentinel], laidTests := true, laidLooks := .later }
def FnCutJoinGroupRequestCardSaid : Prop := Claim7.holds Tryz.pinned (.plain (OpenSpec.ofChange fnCutJoinGroupRequestSpec)) fnCutJoinGroupRequestCard

/-- THE TIED CARD OF 'laws.FnCutDescribeLogDirsResponse'. -/
def fnCutDescribeLogDirsResponseCard : Claim7 := { stood := { row := fnCutDescribeLogDirsResponseRow, standIns := [], harness := (true, "0668c84a716326821f47c30d106da597c17efb11e2f05512000c588f91290ad3"), looks := false }, kinds := [], alts := [], laidByText := true, laidKinds := [.sentinel], laidTests := true, laidLooks := .later }
def FnCutDescribeLogDirsResponseCardSaid : Prop := Claim7.holds Tryz.pinned (.plain (OpenSpec.ofChange fnCutDescribeLogDirsResponseSpec)) fnCutDescribeLogDirsResponseCard

/-- THE TIED CARD OF 'laws.FnCutListPartitionReassignmentsResponse'. -/
def fnCutListPartitionReassignmentsResponseCard : Claim7 := { stood := { row := fnCutListPartitionReassignmentsResponseRow, standIns := [], harness := (true, "0668c84a716326821f47c30d106da597c17efb11e2f05512000c588f91290ad3"), looks := false }, kinds := [], alts := [], laidByText := true, laidKinds := [.sentinel], laidTests := true, laidLooks := .later }
def FnCutListPartitionReassignmentsResponseCardSaid : Prop := Claim7.holds Tryz.pinned (.plain (OpenSpec.ofChange fnCutListPartitionReassignmentsResponseSpec)) fnCutListPartitionReassignmentsResponseCard

/-- THE TIED CARD OF 'laws.FnCutConsumerGroupHeartbeatRequest'. -/
def fnCutConsumerGroupHeartbeatRequestCard : Claim7 := { stood := { row := fnCutConsumerGroupHeartbeatRequestRow, standIns := [], harness := (true, "0668c84a716326821f47c30d106da597c17efb11e2f05512000c588f91290ad3"), looks := false }, kinds := [], alts := [], laidByText := true, laidKinds := [.sentinel], laidTests := true, laidLooks := .later }
def FnCutConsumerGroupHeartbeatRequestCardSaid : Prop := Claim7.holds Tryz.pinned (.plain (OpenSpec.ofChange fnCutConsumerGroupHeartbeatRequestSpec)) fnCutConsumerGroupHeartbeatRequestCard

/-- THE TIED CARD OF 'laws.FnCutProduceRequest'. -/
def fnCutProduceRequestCard : Claim7 := { stood := { row := fnCutProduceRequestRow, standIns := [], harness := (true, "0668c84a716326821f47c30d106da597c17efb11e2f05512000c588f91290ad3"), looks := false }, kinds := [], alts := [], laidByText := true, laidKinds := [.sentinel], laidTests := true, laidLooks := .later }
def FnCutProduceRequestCardSaid : Prop := Claim7.holds Tryz.pinned (.plain (OpenSpec.ofChange fnCutProduceRequestSpec)) fnCutProduceRequestCard

/-- THE SECOND FORM's CARD OF 'laws.FnAgainShareGroupHeartbeatRequest'. -/
def fnAgainShareGroupHeartbeatRequestUptoCard : Claim7 := { stood := { row := fnAgainShareGroupHeartbeatRequestUptoRow, standIns := [], harness := (true, "0668c84a716326821f47c30d106da597c17efb11e2f05512000c588f91290ad3"), looks := false }, kinds := [], alts := [], laidByText := true, laidKinds := [.sentinel], laidTests := true, laidLooks := .later }
def FnAgainShareGroupHeartbeatRequestUptoCardSaid : Prop := Claim7.holds Tryz.pinned (.plain (OpenSpec.upto fnAgainShareGroupHeartbeatRequestSpec)) fnAgainShareGroupHeartbeatRequestUptoCard

/-- THE SECOND FORM's CARD OF 'laws.FnAgainCreateDelegationTokenResponse'. -/
def fnAgainCreateDelegationTokenResponseUptoCard : Claim7 := { stood := { row := fnAgainCreateDelegationTokenResponseUptoRow, standIns := [], harness := (true, "0668c84a716326821f47c30d106da597c17efb11e2f05512000c588f91290ad3"), looks := false }, kinds := [], alts := [], laidByText := true, laidKinds := [.sentinel], laidTests := true, laidLooks := .later }
def FnAgainCreateDelegationTokenResponseUptoCardSaid : Prop := Claim7.holds Tryz.pinned (.plain (OpenSpec.upto fnAgainCreateDelegationTokenResponseSpec)) fnAgainCreateDelegationTokenResponseUptoCard

/-- THE SECOND FORM's CARD OF 'laws.FnAgainAddRaftVoterRequest'. -/
def fnAgainAddRaftVoterRequestUptoCard : Claim7 := { stood := { row := fnAgainAddRaftVoterRequestUptoRow, standIns := [], harness := (true, "0668c84a716326821f47c30d106da597c17efb11e2f05512000c588f91290ad3"), looks := false }, kinds := [], alts := [], laidByText := true, laidKinds := [.sentinel], laidTests := true, laidLooks := .later }
def FnAgainAddRaftVoterRequestUptoCardSaid : Prop := Claim7.holds Tryz.pinned (.plain (OpenSpec.upto fnAgainAddRaftVoterRequestSpec)) fnAgainAddRaftVoterRequestUptoCard

/-- THE SECOND FORM's CARD OF 'laws.FnAgainWriteShareGroupStateRequest'. -/
def fnAgainWriteShareGroupStateRequestUptoCard : Claim7 := { stood := { row := fnAgainWriteShareGroupStateRequestUptoRow, standIns := [], harness := (true, "0668c84a716326821f47c30d106da597c17efb11e2f05512000c588f91290ad3"), looks := false }, kinds := [], alts := [], laidByText := true, laidKinds := [.sentinel], laidTests := true, laidLooks := .later }
def FnAgainWriteShareGroupStateRequestUptoCardSaid : Prop := Claim7.holds Tryz.pinned (.plain (OpenSpec.upto fnAgainWriteShareGroupStateRequestSpec)) fnAgainWriteShareGroupStateRequestUptoCard

/-- THE SECOND FORM's CARD OF 'laws.FnAgainDescribeDelegationTokenResponse'. -/
def fnAgainDescribeDelegationTokenResponseUptoCard : Claim7 := { stood := { row := fnAgainDescribeDelegationTokenResponseUptoRow, standIns := [], harness := (true, "0668c84a716326821f47c30d106da597c17efb11e2f05512000c588f91290ad3"), looks := false }, kinds := [], alts := [], laidByText := true, laidKinds := [.sentinel], laidTests := true, laidLooks := .later }
def FnAgainDescribeDelegationTokenResponseUptoCardSaid : Prop := Claim7.holds Tryz.pinned (.plain (OpenSpec.upto fnAgainDescribeDelegationTokenResponseSpec)) fnAgainDescribeDelegationTokenResponseUptoCard

/-- THE SECOND FORM's CARD OF 'laws.FnAgainBrokerRegistrationRequest'. -/
def fnAgainBrokerRegistrationRequestUptoCard : Claim7 := { stood := { row := fnAgainBrokerRegistrationRequestUptoRow, standIns := [], harness := (true, "0668c84a716326821f47c30d106da597c17efb11e2f05512000c588f91290ad3"), looks := false }, kinds := [], alts := [], laidByText := true, laidKinds := [.sentinel], laidTests := true, laidLooks := .later }
def FnAgainBrokerRegistrationRequestUptoCardSaid : Prop := Claim7.holds Tryz.pinned (.plain (OpenSpec.upto fnAgainBrokerRegistrationRequestSpec)) fnAgainBrokerRegistrationRequestUptoCard

/-- THE SECOND FORM's CARD OF 'laws.FnAgainOffsetFetchRequest'. -/
def fnAgainOffsetFetchRequestUptoCard : Claim7 := { stood := { row := fnAgainOffsetFetchRequestUptoRow, standIns := [], harness := (true, "0668c84a716326821f47c30d106da597c17efb11e2f05512000c588f91290ad3"), looks := false }, kinds := [], alts := [], laidByText := true, laidKinds := [.sentinel], laidTests := true, laidLooks := .later }
def FnAgainOffsetFetchRequestUptoCardSaid : Prop := Claim7.holds Tryz.pinned (.plain (OpenSpec.upto fnAgainOffsetFetchRequestSpec)) fnAgainOffsetFetchRequestUptoCard

/-- THE SECOND FORM's CARD OF 'laws.FnCutJoinGroupRequest'. -/
def fnCutJoinGroupRequestUptoCard : Claim7 := { stood := { row := fnCutJoinGroupRequestUptoRow, standIns := [], harness := (true, "0668c84a716326821f47c30d106da597c17efb11e2f05512000c588f91290ad3"), looks := false }, kinds := [], alts := [], laidByText := true, laidKinds := [.sentinel], laidTests := true, laidLooks := .later }
def FnCutJoinGroupRequestUptoCardSaid : Prop := Claim7.holds Tryz.pinned (.plain (OpenSpec.upto fnCutJoinGroupRequestSpec)) fnCutJoinGroupRequestUptoCard

/-- THE SECOND FORM's CARD OF 'laws.FnCutDescribeLogDirsResponse'. -/
def fnCutDescribeLogDirsResponseUptoCard : Claim7 := { stood := { row := fnCutDescribeLogDirsResponseUptoRow, standIns := [], harness := (true, "0668c84a716326821f47c30d106da597c17efb11e2f05512000c588f91290ad3"), looks := false }, kinds := [], alts := [], laidByText := true, laidKinds := [.sentinel], laidTests := true, laidLooks := .later }
def FnCutDescribeLogDirsResponseUptoCardSaid : Prop := Claim7.holds Tryz.pinned (.plain (OpenSpec.upto fnCutDescribeLogDirsResponseSpec)) fnCutDescribeLogDirsResponseUptoCard

/-- THE SECOND FORM's CARD OF 'laws.FnCutListPartitionReassignmentsResponse'. -/
def fnCutListPartitionReassignmentsResponseUptoCard : Claim7 := { stood := { row := fnCutListPartitionReassignmentsResponseUptoRow, standIns := [], harness := (true, "0668c84a716326821f47c30d106da597c17efb11e2f05512000c588f91290ad3"), looks := false }, kinds := [], alts := [], laidByText := true, laidKinds := [.sentinel], laidTests := true, laidLooks := .later }
def FnCutListPartitionReassignmentsResponseUptoCardSaid : Prop := Claim7.holds Tryz.pinned (.plain (OpenSpec.upto fnCutListPartitionReassignmentsResponseSpec)) fnCutListPartitionReassignmentsResponseUptoCard

/-- THE SECOND FORM's CARD OF 'laws.FnCutConsumerGroupHeartbeatRequest'. -/
def fnCutConsumerGroupHeartbeatRequestUptoCard : Claim7 := { stood := { row := fnCutConsumerGroupHeartbeatRequestUptoRow, standIns := [], harness := (true, "0668c84a716326821f47c30d106da597c17efb11e2f05512000c588f91290ad3"), looks := false }, kinds := [], alts := [], laidByText := true, laidKinds := [.sentinel], laidTests := true, laidLooks := .later }
def FnCutConsumerGroupHeartbeatRequestUptoCardSaid : Prop := Claim7.holds Tryz.pinned (.plain (OpenSpec.upto fnCutConsumerGroupHeartbeatRequestSpec)) fnCutConsumerGroupHeartbeatRequestUptoCard

/-- THE SECOND FORM's CARD OF 'laws.FnCutProduceRequest'. -/
def fnCutProduceRequestUptoCard : Claim7 := { stood := { row := fnCutProduceRequestUptoRow, standIns := [], harness := (true, "0668c84a716326821f47c30d106da597c17efb11e2f05512000c588f91290ad3"), looks := false }, kinds := [], alts := [], laidByText := true, laidKinds := [.sentinel], laidTests := true, laidLooks := .later }
def FnCutProduceRequestUptoCardSaid : Prop := Claim7.holds Tryz.pinned (.plain (OpenSpec.upto fnCutProduceRequestSpec)) fnCutProduceRequestUptoCard
end Rows
end Go.Proofs.YtepedhnfnicbaaaGreatDoor
