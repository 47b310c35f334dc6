/-
  DERIVED. GIVEN WITH THE SEED: THE CARDS: each row of YtcpnjbbcbhbmcaaDoorRows.lean that lists a variable, with what it lists TIED to the program's text (the seventh form; the later family's looks); each row that meets fmt, with fmt's text TOLD by the authors' own Lean function (tested against real Go, not proved from fmt's source: count such statements apart). THE CARD IS WHAT COUNTS. Prove the row's statement (the work); the ties are given (YtcpnjbbcbhbmcaaDoorTie.lean); close each card by the builder's one call (the guide's Derived/Test/ToyasCard.lean, 'card_holds'). Laid BY PROGRAM, IN A SANDBOX (cutbox-door.mjs). By AI agents, Wed Nov 11 2026. No macro, syntax, notation, axiom, sorry.
-/
import Derived.Test.YtcpnjbbcbhbmcaaDoorRows
import GoSem.ClaimSeven
namespace Go.Proofs.YtcpnjbbcbhbmcaaDoor
namespace Rows

/-- THE TIED CARD OF 'laws.FnAgainExpireDelegationTokenResponse'. -/
def fnAgainExpireDelegationTokenResponseCard : Claim7 := { stood := { row := fnAgainExpireDelegationTokenResponseRow, standIns := [], harness := (true, "9da23e8606b547bd07191dccabf180efc6849085de93ba983fa80afc55acc161"), looks := false }, kinds := [], alts := [], laidByText := true, laidKinds := [.sentinel], laidTests := true, laidLooks := .later }
def FnAgainExpireDelegationTokenResponseCardSaid : Prop := Claim7.holds Tryd.pinned (.plain (OpenSpec.ofChange fnAgainExpireDelegationTokenResponseSpec)) fnAgainExpireDelegationTokenResponseCard

/-- THE TIED CARD OF 'laws.FnAgainDefaultPrincipalData'. -/
def fnAgainDefaultPrincipalDataCard : Claim7 := { stood := { row := fnAgainDefaultPrincipalDataRow, standIns := [], harness := (true, "9da23e8606b547bd07191dccabf180efc6849085de93ba983fa80afc55acc161"), looks := false }, kinds := [], alts := [], laidByText := true, laidKinds := [.sentinel], laidTests := true, laidLooks := .later }
def FnAgainDefaultPrincipalDataCardSaid : Prop := Claim7.holds Tryd.pinned (.plain (OpenSpec.ofChange fnAgainDefaultPrincipalDataSpec)) fnAgainDefaultPrincipalDataCard

/-- THE TIED CARD OF 'laws.FnAnyEndTxnRequest'. -/
def fnAnyEndTxnRequestCard : Claim7 := { stood := { row := fnAnyEndTxnRequestRow, standIns := [], harness := (true, "9da23e8606b547bd07191dccabf180efc6849085de93ba983fa80afc55acc161"), looks := false }, kinds := [], alts := [], laidByText := true, laidKinds := [.sentinel], laidTests := true, laidLooks := .later }
def FnAnyEndTxnRequestCardSaid : Prop := Claim7.holds Tryd.pinned (.plain (OpenSpec.ofChange fnAnyEndTxnRequestSpec)) fnAnyEndTxnRequestCard

/-- THE SECOND FORM's CARD OF 'laws.FnAgainExpireDelegationTokenResponse'. -/
def fnAgainExpireDelegationTokenResponseUptoCard : Claim7 := { stood := { row := fnAgainExpireDelegationTokenResponseUptoRow, standIns := [], harness := (true, "9da23e8606b547bd07191dccabf180efc6849085de93ba983fa80afc55acc161"), looks := false }, kinds := [], alts := [], laidByText := true, laidKinds := [.sentinel], laidTests := true, laidLooks := .later }
def FnAgainExpireDelegationTokenResponseUptoCardSaid : Prop := Claim7.holds Tryd.pinned (.plain (OpenSpec.upto fnAgainExpireDelegationTokenResponseSpec)) fnAgainExpireDelegationTokenResponseUptoCard

/-- THE SECOND FORM's CARD OF 'laws.FnAgainDefaultPrincipalData'. -/
def fnAgainDefaultPrincipalDataUptoCard : Claim7 := { stood := { row := fnAgainDefaultPrincipalDataUptoRow, standIns := [], harness := (true, "9da23e8606b547bd07191dccabf180efc6849085de93ba983fa80afc55acc161"), looks := false }, kinds := [], alts := [], laidByText := true, laidKinds := [.sentinel], laidTests := true, laidLooks := .later }
def FnAgainDefaultPrincipalDataUptoCardSaid : Prop := Claim7.holds Tryd.pinned (.plain (OpenSpec.upto fnAgainDefaultPrincipalDataSpec)) fnAgainDefaultPrincipalDataUptoCard

/-- THE SECOND FORM's CARD OF 'laws.FnAnyEndTxnRequest'. -/
def fnAnyEndTxnRequestUptoCard : Claim7 := { stood := { row := fnAnyEndTxnRequestUptoRow, standIns := [], harness := (true, "9da23e8606b547bd07191dccabf180efc6849085de93ba983fa80afc55acc161"), looks := false }, kinds := [], alts := [], laidByText := true, laidKinds := [.sentinel], laidTests := true, laidLooks := .later }
def FnAnyEndTxnRequestUptoCardSaid : Prop := Claim7.holds Tryd.pinned (.plain (OpenSpec.upto fnAnyEndTxnRequestSpec)) fnAnyEndTxnRequestUptoCard
end Rows
end Go.Proofs.YtcpnjbbcbhbmcaaDoor
