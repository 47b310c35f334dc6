/-
  DERIVED. GIVEN WITH THE SEED: THE CARDS: each row of YtffglmphlpofbaaDoorRows.lean that lists a variable, with what it lists TIED to the program's text (the seventh form; the later family's looks); each row that meets fmt, with fmt's text TOLD by the authors' own Lean function (tested against real Go, not proved from fmt's source: count such statements apart). THE CARD IS WHAT COUNTS. Prove the row's statement (the work); the ties are given (YtffglmphlpofbaaDoorTie.lean); close each card by the builder's one call (the guide's Derived/Test/ToyasCard.lean, 'card_holds'). Laid BY PROGRAM, IN A SANDBOX (cutbox-door.mjs). By AI agents, Wed Nov 11 2026. No macro, syntax, notation, axiom, sorry.
-/
import Derived.Test.YtffglmphlpofbaaDoorRows
import GoSem.ClaimSeven
namespace Go.Proofs.YtffglmphlpofbaaDoor
namespace Rows

/-- THE TIED CARD OF 'laws.FnCutLeaderChangeMessage'. -/
def fnCutLeaderChangeMessageCard : Claim7 := { stood := { row := fnCutLeaderChangeMessageRow, standIns := [], harness := (true, "9f671304efb9e23feb47016a75c269b1ba0ee810b631c99365b5c2e74ed10262"), looks := false }, kinds := [], alts := [], laidByText := true, laidKinds := [.sentinel], laidTests := true, laidLooks := .later }
def FnCutLeaderChangeMessageCardSaid : Prop := Claim7.holds Tryd.pinned (.plain (OpenSpec.ofChange fnCutLeaderChangeMessageSpec)) fnCutLeaderChangeMessageCard

/-- THE TIED CARD OF 'laws.FnAnyConnectMemberAssignment'. -/
def fnAnyConnectMemberAssignmentCard : Claim7 := { stood := { row := fnAnyConnectMemberAssignmentRow, standIns := [], harness := (true, "9f671304efb9e23feb47016a75c269b1ba0ee810b631c99365b5c2e74ed10262"), looks := false }, kinds := [], alts := [], laidByText := true, laidKinds := [.sentinel], laidTests := true, laidLooks := .later }
def FnAnyConnectMemberAssignmentCardSaid : Prop := Claim7.holds Tryd.pinned (.plain (OpenSpec.ofChange fnAnyConnectMemberAssignmentSpec)) fnAnyConnectMemberAssignmentCard

/-- THE TIED CARD OF 'laws.FnParseConfigType'. -/
def fnParseConfigTypeCard : Claim7 := { stood := { row := fnParseConfigTypeRow, standIns := [], harness := (true, "9f671304efb9e23feb47016a75c269b1ba0ee810b631c99365b5c2e74ed10262"), looks := false }, kinds := [], alts := [], laidByText := true, laidKinds := [.data, .listed, .data, .pinned, .pinned], laidTests := true, laidLooks := .later }
def FnParseConfigTypeCardSaid : Prop := Claim7.holds Tryd.pinned (.plain (OpenSpec.ofChange fnParseConfigTypeSpec)) fnParseConfigTypeCard

/-- THE TIED CARD OF 'laws.FnACLPermissionTypeText'. -/
def fnACLPermissionTypeTextCard : Claim7 := { stood := { row := fnACLPermissionTypeTextRow, standIns := [], harness := (true, "9f671304efb9e23feb47016a75c269b1ba0ee810b631c99365b5c2e74ed10262"), looks := false }, kinds := [], alts := [], laidByText := true, laidKinds := [.data, .listed, .data, .pinned, .pinned], laidTests := true, laidLooks := .later }
def FnACLPermissionTypeTextCardSaid : Prop := Claim7.holds Tryd.pinned (.plain (OpenSpec.ofChange fnACLPermissionTypeTextSpec)) fnACLPermissionTypeTextCard

/-- THE TIED CARD OF 'laws.FnAnyOld'. -/
def fnAnyOldCard : Claim7 := { stood := { row := fnAnyOldRow, standIns := [], harness := (true, "9f671304efb9e23feb47016a75c269b1ba0ee810b631c99365b5c2e74ed10262"), looks := false }, kinds := [], alts := [], laidByText := true, laidKinds := [.sentinel], laidTests := true, laidLooks := .later }
def FnAnyOldCardSaid : Prop := Claim7.holds Tryd.pinned (.plain (OpenSpec.ofChange fnAnyOldSpec)) fnAnyOldCard

/-- THE SECOND FORM's CARD OF 'laws.FnCutLeaderChangeMessage'. -/
def fnCutLeaderChangeMessageUptoCard : Claim7 := { stood := { row := fnCutLeaderChangeMessageUptoRow, standIns := [], harness := (true, "9f671304efb9e23feb47016a75c269b1ba0ee810b631c99365b5c2e74ed10262"), looks := false }, kinds := [], alts := [], laidByText := true, laidKinds := [.sentinel], laidTests := true, laidLooks := .later }
def FnCutLeaderChangeMessageUptoCardSaid : Prop := Claim7.holds Tryd.pinned (.plain (OpenSpec.upto fnCutLeaderChangeMessageSpec)) fnCutLeaderChangeMessageUptoCard

/-- THE SECOND FORM's CARD OF 'laws.FnAnyConnectMemberAssignment'. -/
def fnAnyConnectMemberAssignmentUptoCard : Claim7 := { stood := { row := fnAnyConnectMemberAssignmentUptoRow, standIns := [], harness := (true, "9f671304efb9e23feb47016a75c269b1ba0ee810b631c99365b5c2e74ed10262"), looks := false }, kinds := [], alts := [], laidByText := true, laidKinds := [.sentinel], laidTests := true, laidLooks := .later }
def FnAnyConnectMemberAssignmentUptoCardSaid : Prop := Claim7.holds Tryd.pinned (.plain (OpenSpec.upto fnAnyConnectMemberAssignmentSpec)) fnAnyConnectMemberAssignmentUptoCard

/-- THE SECOND FORM's CARD OF 'laws.FnParseConfigType'. -/
def fnParseConfigTypeUptoCard : Claim7 := { stood := { row := fnParseConfigTypeUptoRow, standIns := [], harness := (true, "9f671304efb9e23feb47016a75c269b1ba0ee810b631c99365b5c2e74ed10262"), looks := false }, kinds := [], alts := [], laidByText := true, laidKinds := [.data, .listed, .data, .pinned, .pinned], laidTests := true, laidLooks := .later }
def FnParseConfigTypeUptoCardSaid : Prop := Claim7.holds Tryd.pinned (.plain (OpenSpec.upto fnParseConfigTypeSpec)) fnParseConfigTypeUptoCard

/-- THE SECOND FORM's CARD OF 'laws.FnACLPermissionTypeText'. -/
def fnACLPermissionTypeTextUptoCard : Claim7 := { stood := { row := fnACLPermissionTypeTextUptoRow, standIns := [], harness := (true, "9f671304efb9e23feb47016a75c269b1ba0ee810b631c99365b5c2e74ed10262"), looks := false }, kinds := [], alts := [], laidByText := true, laidKinds := [.data, .listed, .data, .pinned, .pinned], laidTests := true, laidLooks := .later }
def FnACLPermissionTypeTextUptoCardSaid : Prop := Claim7.holds Tryd.pinned (.plain (OpenSpec.upto fnACLPermissionTypeTextSpec)) fnACLPermissionTypeTextUptoCard

/-- THE SECOND FORM's CARD OF 'laws.FnAnyOld'. -/
def fnAnyOldUptoCard : Claim7 := { stood := { row := fnAnyOldUptoRow, standIns := [], harness := (true, "9f671304efb9e23feb47016a75c269b1ba0ee810b631c99365b5c2e74ed10262"), looks := false }, kinds := [], alts := [], laidByText := true, laidKinds := [.sentinel], laidTests := true, laidLooks := .later }
def FnAnyOldUptoCardSaid : Prop := Claim7.holds Tryd.pinned (.plain (OpenSpec.upto fnAnyOldSpec)) fnAnyOldUptoCard
end Rows
end Go.Proofs.YtffglmphlpofbaaDoor
