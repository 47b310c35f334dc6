/-
  DERIVED. GIVEN WITH THE SEED: THE CARDS: each row of YthnlfmcijgphmaaDoorRRows.lean that lists a variable, with what it lists TIED to the program's text (the seventh form; the later family's looks); each row that meets fmt, with fmt's text TOLD by the authors' own Lean function (tested against real Go, not proved from fmt's source: count such statements apart). THE CARD IS WHAT COUNTS. Prove the row's statement (the work); the ties are given (YthnlfmcijgphmaaDoorRTie.lean); close each card by the builder's one call (the guide's Derived/Test/ToyasCard.lean, 'card_holds'). Laid BY PROGRAM, IN A SANDBOX (cutbox-door.mjs). By AI agents, Wed Nov 11 2026. No macro, syntax, notation, axiom, sorry.
-/
import Derived.Test.YthnlfmcijgphmaaDoorRRows
import GoSem.ClaimSeven
namespace Go.Proofs.YthnlfmcijgphmaaDoorR
namespace Rows

/-- THE TIED CARD OF 'laws.FnAnyDescribeClusterRequest'. -/
def fnAnyDescribeClusterRequestCard : Claim7 := { stood := { row := fnAnyDescribeClusterRequestRow, standIns := [], harness := (true, "9bba7e182ac0d557509f26a0c7f9770198e113578da404ab4b4adc8213e61dee"), looks := false }, kinds := [], alts := [], laidByText := true, laidKinds := [.sentinel], laidTests := true, laidLooks := .later }
def FnAnyDescribeClusterRequestCardSaid : Prop := Claim7.holds Tryd.pinned (.plain (OpenSpec.ofChange fnAnyDescribeClusterRequestSpec)) fnAnyDescribeClusterRequestCard

/-- THE TIED CARD OF 'laws.FnAnyAlterPartitionAssignmentsRequest'. -/
def fnAnyAlterPartitionAssignmentsRequestCard : Claim7 := { stood := { row := fnAnyAlterPartitionAssignmentsRequestRow, standIns := [], harness := (true, "9bba7e182ac0d557509f26a0c7f9770198e113578da404ab4b4adc8213e61dee"), looks := false }, kinds := [], alts := [], laidByText := true, laidKinds := [.sentinel], laidTests := true, laidLooks := .later }
def FnAnyAlterPartitionAssignmentsRequestCardSaid : Prop := Claim7.holds Tryd.pinned (.plain (OpenSpec.ofChange fnAnyAlterPartitionAssignmentsRequestSpec)) fnAnyAlterPartitionAssignmentsRequestCard

/-- THE TIED CARD OF 'laws.FnAnyLeaveGroupRequest'. -/
def fnAnyLeaveGroupRequestCard : Claim7 := { stood := { row := fnAnyLeaveGroupRequestRow, standIns := [], harness := (true, "9bba7e182ac0d557509f26a0c7f9770198e113578da404ab4b4adc8213e61dee"), looks := false }, kinds := [], alts := [], laidByText := true, laidKinds := [.sentinel], laidTests := true, laidLooks := .later }
def FnAnyLeaveGroupRequestCardSaid : Prop := Claim7.holds Tryd.pinned (.plain (OpenSpec.ofChange fnAnyLeaveGroupRequestSpec)) fnAnyLeaveGroupRequestCard

/-- THE TIED CARD OF 'laws.FnAnyControllerRegistrationRequest'. -/
def fnAnyControllerRegistrationRequestCard : Claim7 := { stood := { row := fnAnyControllerRegistrationRequestRow, standIns := [], harness := (true, "9bba7e182ac0d557509f26a0c7f9770198e113578da404ab4b4adc8213e61dee"), looks := false }, kinds := [], alts := [], laidByText := true, laidKinds := [.sentinel], laidTests := true, laidLooks := .later }
def FnAnyControllerRegistrationRequestCardSaid : Prop := Claim7.holds Tryd.pinned (.plain (OpenSpec.ofChange fnAnyControllerRegistrationRequestSpec)) fnAnyControllerRegistrationRequestCard

/-- THE TIED CARD OF 'laws.FnAnyShareAcknowledgeResponse'. -/
def fnAnyShareAcknowledgeResponseCard : Claim7 := { stood := { row := fnAnyShareAcknowledgeResponseRow, standIns := [], harness := (true, "9bba7e182ac0d557509f26a0c7f9770198e113578da404ab4b4adc8213e61dee"), looks := false }, kinds := [], alts := [], laidByText := true, laidKinds := [.sentinel], laidTests := true, laidLooks := .later }
def FnAnyShareAcknowledgeResponseCardSaid : Prop := Claim7.holds Tryd.pinned (.plain (OpenSpec.ofChange fnAnyShareAcknowledgeResponseSpec)) fnAnyShareAcknowledgeResponseCard

/-- THE TIED CARD OF 'laws.FnAnyAssignReplicasToDirsResponse'. -/
def fnAnyAssignReplicasToDirsResponseCard : Claim7 := { stood := { row := fnAnyAssignReplicasToDirsResponseRow, standIns := [], harness := (true, "9bba7e182ac0d557509f26a0c7f9770198e113578da404ab4b4adc8213e61dee"), looks := false }, kinds := [], alts := [], laidByText := true, laidKinds := [.sentinel], laidTests := true, laidLooks := .later }
def FnAnyAssignReplicasToDirsResponseCardSaid : Prop := Claim7.holds Tryd.pinned (.plain (OpenSpec.ofChange fnAnyAssignReplicasToDirsResponseSpec)) fnAnyAssignReplicasToDirsResponseCard

/-- THE TIED CARD OF 'laws.FnAnyGetTelemetrySubscriptionsResponse'. -/
def fnAnyGetTelemetrySubscriptionsResponseCard : Claim7 := { stood := { row := fnAnyGetTelemetrySubscriptionsResponseRow, standIns := [], harness := (true, "9bba7e182ac0d557509f26a0c7f9770198e113578da404ab4b4adc8213e61dee"), looks := false }, kinds := [], alts := [], laidByText := true, laidKinds := [.sentinel], laidTests := true, laidLooks := .later }
def FnAnyGetTelemetrySubscriptionsResponseCardSaid : Prop := Claim7.holds Tryd.pinned (.plain (OpenSpec.ofChange fnAnyGetTelemetrySubscriptionsResponseSpec)) fnAnyGetTelemetrySubscriptionsResponseCard

/-- THE TIED CARD OF 'laws.FnAnyMetadataResponse'. -/
def fnAnyMetadataResponseCard : Claim7 := { stood := { row := fnAnyMetadataResponseRow, standIns := [], harness := (true, "9bba7e182ac0d557509f26a0c7f9770198e113578da404ab4b4adc8213e61dee"), looks := false }, kinds := [], alts := [], laidByText := true, laidKinds := [.sentinel], laidTests := true, laidLooks := .later }
def FnAnyMetadataResponseCardSaid : Prop := Claim7.holds Tryd.pinned (.plain (OpenSpec.ofChange fnAnyMetadataResponseSpec)) fnAnyMetadataResponseCard

/-- THE SECOND FORM's CARD OF 'laws.FnAnyDescribeClusterRequest'. -/
def fnAnyDescribeClusterRequestUptoCard : Claim7 := { stood := { row := fnAnyDescribeClusterRequestUptoRow, standIns := [], harness := (true, "9bba7e182ac0d557509f26a0c7f9770198e113578da404ab4b4adc8213e61dee"), looks := false }, kinds := [], alts := [], laidByText := true, laidKinds := [.sentinel], laidTests := true, laidLooks := .later }
def FnAnyDescribeClusterRequestUptoCardSaid : Prop := Claim7.holds Tryd.pinned (.plain (OpenSpec.upto fnAnyDescribeClusterRequestSpec)) fnAnyDescribeClusterRequestUptoCard

/-- THE SECOND FORM's CARD OF 'laws.FnAnyAlterPartitionAssignmentsRequest'. -/
def fnAnyAlterPartitionAssignmentsRequestUptoCard : Claim7 := { stood := { row := fnAnyAlterPartitionAssignmentsRequestUptoRow, standIns := [], harness := (true, "9bba7e182ac0d557509f26a0c7f9770198e113578da404ab4b4adc8213e61dee"), looks := false }, kinds := [], alts := [], laidByText := true, laidKinds := [.sentinel], laidTests := true, laidLooks := .later }
def FnAnyAlterPartitionAssignmentsRequestUptoCardSaid : Prop := Claim7.holds Tryd.pinned (.plain (OpenSpec.upto fnAnyAlterPartitionAssignmentsRequestSpec)) fnAnyAlterPartitionAssignmentsRequestUptoCard

/-- THE SECOND FORM's CARD OF 'laws.FnAnyLeaveGroupRequest'. -/
def fnAnyLeaveGroupRequestUptoCard : Claim7 := { stood := { row := fnAnyLeaveGroupRequestUptoRow, standIns := [], harness := (true, "9bba7e182ac0d557509f26a0c7f9770198e113578da404ab4b4adc8213e61dee"), looks := false }, kinds := [], alts := [], laidByText := true, laidKinds := [.sentinel], laidTests := true, laidLooks := .later }
def FnAnyLeaveGroupRequestUptoCardSaid : Prop := Claim7.holds Tryd.pinned (.plain (OpenSpec.upto fnAnyLeaveGroupRequestSpec)) fnAnyLeaveGroupRequestUptoCard

/-- THE SECOND FORM's CARD OF 'laws.FnAnyControllerRegistrationRequest'. -/
def fnAnyControllerRegistrationRequestUptoCard : Claim7 := { stood := { row := fnAnyControllerRegistrationRequestUptoRow, standIns := [], harness := (true, "9bba7e182ac0d557509f26a0c7f9770198e113578da404ab4b4adc8213e61dee"), looks := false }, kinds := [], alts := [], laidByText := true, laidKinds := [.sentinel], laidTests := true, laidLooks := .later }
def FnAnyControllerRegistrationRequestUptoCardSaid : Prop := Claim7.holds Tryd.pinned (.plain (OpenSpec.upto fnAnyControllerRegistrationRequestSpec)) fnAnyControllerRegistrationRequestUptoCard

/-- THE SECOND FORM's CARD OF 'laws.FnAnyShareAcknowledgeResponse'. -/
def fnAnyShareAcknowledgeResponseUptoCard : Claim7 := { stood := { row := fnAnyShareAcknowledgeResponseUptoRow, standIns := [], harness := (true, "9bba7e182ac0d557509f26a0c7f9770198e113578da404ab4b4adc8213e61dee"), looks := false }, kinds := [], alts := [], laidByText := true, laidKinds := [.sentinel], laidTests := true, laidLooks := .later }
def FnAnyShareAcknowledgeResponseUptoCardSaid : Prop := Claim7.holds Tryd.pinned (.plain (OpenSpec.upto fnAnyShareAcknowledgeResponseSpec)) fnAnyShareAcknowledgeResponseUptoCard

/-- THE SECOND FORM's CARD OF 'laws.FnAnyAssignReplicasToDirsResponse'. -/
def fnAnyAssignReplicasToDirsResponseUptoCard : Claim7 := { stood := { row := fnAnyAssignReplicasToDirsResponseUptoRow, standIns := [], harness := (true, "9bba7e182ac0d557509f26a0c7f9770198e113578da404ab4b4adc8213e61dee"), looks := false }, kinds := [], alts := [], laidByText := true, laidKinds := [.sentinel], laidTests := true, laidLooks := .later }
def FnAnyAssignReplicasToDirsResponseUptoCardSaid : Prop := Claim7.holds Tryd.pinned (.plain (OpenSpec.upto fnAnyAssignReplicasToDirsResponseSpec)) fnAnyAssignReplicasToDirsResponseUptoCard

/-- THE SECOND FORM's CARD OF 'laws.FnAnyGetTelemetrySubscriptionsResponse'. -/
def fnAnyGetTelemetrySubscriptionsResponseUptoCard : Claim7 := { stood := { row := fnAnyGetTelemetrySubscriptionsResponseUptoRow, standIns := [], harness := (true, "9bba7e182ac0d557509f26a0c7f9770198e113578da404ab4b4adc8213e61dee"), looks := false }, kinds := [], alts := [], laidByText := true, laidKinds := [.sentinel], laidTests := true, laidLooks := .later }
def FnAnyGetTelemetrySubscriptionsResponseUptoCardSaid : Prop := Claim7.holds Tryd.pinned (.plain (OpenSpec.upto fnAnyGetTelemetrySubscriptionsResponseSpec)) fnAnyGetTelemetrySubscriptionsResponseUptoCard

/-- THE SECOND FORM's CARD OF 'laws.FnAnyMetadataResponse'. -/
def fnAnyMetadataResponseUptoCard : Claim7 := { stood := { row := fnAnyMetadataResponseUptoRow, standIns := [], harness := (true, "9bba7e182ac0d557509f26a0c7f9770198e113578da404ab4b4adc8213e61dee"), looks := false }, kinds := [], alts := [], laidByText := true, laidKinds := [.sentinel], laidTests := true, laidLooks := .later }
def FnAnyMetadataResponseUptoCardSaid : Prop := Claim7.holds Tryd.pinned (.plain (OpenSpec.upto fnAnyMetadataResponseSpec)) fnAnyMetadataResponseUptoCard
end Rows
end Go.Proofs.YthnlfmcijgphmaaDoorR
