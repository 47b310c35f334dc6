/-
  NARROWER THAN 'FOR EVERY INPUT', by the rows' own cells (each row's printed sentence says how): FnAgainExpireDelegationTokenResponse: loops, laid · FnAgainDefaultPrincipalData: loops, laid · FnAnyEndTxnRequest: laid.
  DERIVED. THE GIVEN ROWS OF THIS SEAT. 3 by the template 'for every input the law returns true; each argument reads behind the call as it read before'; 0 by the template 'total and deterministic' (their statements: YtcpnjbbcbhbmcaaDoorTotals.lean).
  GIVEN WITH THE SEED: the statements are not yours to turn. If you find one false, say at which input.
  Laid BY PROGRAM, IN A SANDBOX (cutbox-rows.mjs): the forced cells as the released guide's own fill.sh prints them over the translation aa136a3492621bef… (all of the seat's roots in one cut). By AI agents, Wed Nov 11 2026. No macro, syntax, notation, axiom, sorry.
-/
import Derived.Test.YtcpnjbbcbhbmcaaDoorChecked
import GoSem.Claim
import GoSem.ClaimJoined
import GoSem.ClaimMapViews
import Derived.JoinedTies
import Derived.KernelRfl
namespace Go.Proofs.YtcpnjbbcbhbmcaaDoor
/- THE CELL 'sum', in the pinned program and in every row, IS THE sha256 OF THE DUMP (.gsa) THAT YtcpnjbbcbhbmcaaDoorProg.lean LOADS. Nothing in Lean hashes anything: it is a label: what it is worth is what the hold of that sum in a sandbox is worth. -/
noncomputable def Tryd.pinned : Pinned := { name := "ytcpnjbbcbhbmcaadoor", sum := "aa136a3492621befd369b0538e4ab0611634fdfc30541a8ff0b8b8f7da5c1517", checked := Tryd.checked }
namespace Rows
def none {H : Type} : Left H := { results := [], args := [] }

/- WHAT THE LISTED PACKAGE-LEVEL VARIABLES READ AS WHEN THE CALL BEGINS. Each datum BY PROGRAM (the guide's laid-datum.mjs) off the statement by which the dump's own 'gosem.cut.vars' lays the variable. In a bare row this is a premise. The card (YtcpnjbbcbhbmcaaDoorCards.lean) ties it to the program's text. -/
def laid_pub_kmsg_pub_kmsg_inner_kbin_ErrNotEnoughData {H : Type} : DataW H := .iface "*errors.errorString" (.ptr (.agg [.lit (.string [114, 101, 115, 112, 111, 110, 115, 101, 32, 100, 105, 100, 32, 110, 111, 116, 32, 99, 111, 110, 116, 97, 105, 110, 32, 101, 110, 111, 117, 103, 104, 32, 100, 97, 116, 97, 32, 116, 111, 32, 98, 101, 32, 118, 97, 108, 105, 100])]))

/-- 'laws.FnAgainExpireDelegationTokenResponse': WHATEVER THE INPUT: true; the input reads as it did. -/
def fnAgainExpireDelegationTokenResponseSpec : ChangeSpec := { name := "fnAgainExpireDelegationTokenResponse", fn := fun _ => fun
  | [d1, d2] => { results := [.lit (.bool true)], args := [d1, d2] }
  | _ => none }
def fnAgainExpireDelegationTokenResponseRow : OpenClaim := { program := "ytcpnjbbcbhbmcaadoor", sum := "aa136a3492621befd369b0538e4ab0611634fdfc30541a8ff0b8b8f7da5c1517", func := "pub-kmsg/laws.FnAgainExpireDelegationTokenResponse", spec := "fnAgainExpireDelegationTokenResponse", inPlace := ["internal/reflectlite.ValueOf", "internal/reflectlite.Swapper", "(internal/reflectlite.Value).Len"], unfollowed := true, recurses := true, named := ["encoding/binary.BigEndian", "pub-kmsg/pub/kmsg/inner/kbin.ErrNotEnoughData"], loops := true, apart := false, laid := [("pub-kmsg/pub/kmsg/inner/kbin.ErrNotEnoughData", laid_pub_kmsg_pub_kmsg_inner_kbin_ErrNotEnoughData)] }
def FnAgainExpireDelegationTokenResponseSaid : Prop := fnAgainExpireDelegationTokenResponseRow.holds Tryd.pinned (OpenSpec.ofChange fnAgainExpireDelegationTokenResponseSpec)

/-- ITS FALSE NEIGHBOUR: 'it returns false'. Refute it at one input. -/
def fnAgainExpireDelegationTokenResponseWrong : ChangeSpec := { name := "fnAgainExpireDelegationTokenResponse", fn := fun _ => fun
  | [d1, d2] => { results := [.lit (.bool false)], args := [d1, d2] }
  | _ => none }
def FnAgainExpireDelegationTokenResponseWrongFalsely : Prop := fnAgainExpireDelegationTokenResponseRow.holds Tryd.pinned (OpenSpec.ofChange fnAgainExpireDelegationTokenResponseWrong)

/-- 'laws.FnAgainDefaultPrincipalData': WHATEVER THE INPUT: true; the input reads as it did. -/
def fnAgainDefaultPrincipalDataSpec : ChangeSpec := { name := "fnAgainDefaultPrincipalData", fn := fun _ => fun
  | [d1, d2] => { results := [.lit (.bool true)], args := [d1, d2] }
  | _ => none }
def fnAgainDefaultPrincipalDataRow : OpenClaim := { program := "ytcpnjbbcbhbmcaadoor", sum := "aa136a3492621befd369b0538e4ab0611634fdfc30541a8ff0b8b8f7da5c1517", func := "pub-kmsg/laws.FnAgainDefaultPrincipalData", spec := "fnAgainDefaultPrincipalData", inPlace := ["internal/reflectlite.ValueOf", "internal/reflectlite.Swapper", "(internal/reflectlite.Value).Len"], unfollowed := true, recurses := true, named := ["encoding/binary.BigEndian", "pub-kmsg/pub/kmsg/inner/kbin.ErrNotEnoughData"], loops := true, apart := false, laid := [("pub-kmsg/pub/kmsg/inner/kbin.ErrNotEnoughData", laid_pub_kmsg_pub_kmsg_inner_kbin_ErrNotEnoughData)] }
def FnAgainDefaultPrincipalDataSaid : Prop := fnAgainDefaultPrincipalDataRow.holds Tryd.pinned (OpenSpec.ofChange fnAgainDefaultPrincipalDataSpec)

/-- ITS FALSE NEIGHBOUR: 'it returns false'. Refute it at one input. -/
def fnAgainDefaultPrincipalDataWrong : ChangeSpec := { name := "fnAgainDefaultPrincipalData", fn := fun _ => fun
  | [d1, d2] => { results := [.lit (.bool false)], args := [d1, d2] }
  | _ => none }
def FnAgainDefaultPrincipalDataWrongFalsely : Prop := fnAgainDefaultPrincipalDataRow.holds Tryd.pinned (OpenSpec.ofChange fnAgainDefaultPrincipalDataWrong)

/-- 'laws.FnAnyEndTxnRequest': WHATEVER THE INPUT: true; the input reads as it did. -/
def fnAnyEndTxnRequestSpec : ChangeSpec := { name := "fnAnyEndTxnRequest", fn := fun _ => fun
  | [d1, d2] => { results := [.lit (.bool true)], args := [d1, d2] }
  | _ => none }
def fnAnyEndTxnRequestRow : OpenClaim := { program := "ytcpnjbbcbhbmcaadoor", sum := "aa136a3492621befd369b0538e4ab0611634fdfc30541a8ff0b8b8f7da5c1517", func := "pub-kmsg/laws.FnAnyEndTxnRequest", spec := "fnAnyEndTxnRequest", inPlace := ["internal/reflectlite.ValueOf", "internal/reflectlite.Swapper", "(internal/reflectlite.Value).Len"], unfollowed := true, recurses := true, named := ["encoding/binary.BigEndian", "pub-kmsg/pub/kmsg/inner/kbin.ErrNotEnoughData"], apart := false, laid := [("pub-kmsg/pub/kmsg/inner/kbin.ErrNotEnoughData", laid_pub_kmsg_pub_kmsg_inner_kbin_ErrNotEnoughData)] }
def FnAnyEndTxnRequestSaid : Prop := fnAnyEndTxnRequestRow.holds Tryd.pinned (OpenSpec.ofChange fnAnyEndTxnRequestSpec)

/-- ITS FALSE NEIGHBOUR: 'it returns false'. Refute it at one input. -/
def fnAnyEndTxnRequestWrong : ChangeSpec := { name := "fnAnyEndTxnRequest", fn := fun _ => fun
  | [d1, d2] => { results := [.lit (.bool false)], args := [d1, d2] }
  | _ => none }
def FnAnyEndTxnRequestWrongFalsely : Prop := fnAnyEndTxnRequestRow.holds Tryd.pinned (OpenSpec.ofChange fnAnyEndTxnRequestWrong)

/- THE SECOND FORM. 'bulk': how many values and letters a reading holds, each counted each time it is reached (what is shared counts as often as it is met; a slice's spare places count too). A statement '..UptoSaid' is the law's where the arguments, and the package variables that the reading takes, are together of bulk at most 1048576: NARROWER than '..Said'. Prove '..Said' where nothing that the law and all that it calls make is longer than what came in: it says more and counts as full. Else prove '..UptoSaid'. A law counts once. -/
mutual
def uptoBulk {H : Type} : DataW H → Nat
  | .lit (.string bytes) => bytes.length + 1
  | .lit _ => 1
  | .nil => 1
  | .ptr d => uptoBulk d + 1
  | .slice elems spare => uptoBulkAll elems + uptoBulkAll spare + 1
  | .agg parts => uptoBulkAll parts + 1
  | .iface _ d => uptoBulk d + 1
  | .map entries => uptoBulkEntries entries + 1
  | .held _ => 1
def uptoBulkAll {H : Type} : List (DataW H) → Nat
  | [] => 0
  | d :: r => uptoBulk d + uptoBulkAll r
def uptoBulkEntries {H : Type} : List (Lit × DataW H) → Nat
  | [] => 0
  | x :: r => uptoBulkEntry x + uptoBulkEntries r
def uptoBulkEntry {H : Type} : Lit × DataW H → Nat
  | (.string bytes, d) => bytes.length + uptoBulk d + 1
  | (_, d) => uptoBulk d + 1
 end
def uptoSmall : (H : Type) → List (DataW H) → Bool := fun _ ds => decide (uptoBulkAll ds ≤ 1048576)
def OpenSpec.upto (s : _root_.Go.ChangeSpec) : _root_.Go.OpenSpec := { _root_.Go.OpenSpec.ofChange s with cond := some uptoSmall }

/-- 'laws.FnAgainExpireDelegationTokenResponse', WHERE WHAT IT READS IS OF BULK AT MOST 1048576: true; the input reads as it did. -/
def fnAgainExpireDelegationTokenResponseUptoRow : OpenClaim := { program := "ytcpnjbbcbhbmcaadoor", sum := "aa136a3492621befd369b0538e4ab0611634fdfc30541a8ff0b8b8f7da5c1517", func := "pub-kmsg/laws.FnAgainExpireDelegationTokenResponse", spec := "fnAgainExpireDelegationTokenResponse", inPlace := ["internal/reflectlite.ValueOf", "internal/reflectlite.Swapper", "(internal/reflectlite.Value).Len"], unfollowed := true, recurses := true, named := ["encoding/binary.BigEndian", "pub-kmsg/pub/kmsg/inner/kbin.ErrNotEnoughData"], loops := true, apart := false, laid := [("pub-kmsg/pub/kmsg/inner/kbin.ErrNotEnoughData", laid_pub_kmsg_pub_kmsg_inner_kbin_ErrNotEnoughData)], narrowed := true }
def FnAgainExpireDelegationTokenResponseUptoSaid : Prop := fnAgainExpireDelegationTokenResponseUptoRow.holds Tryd.pinned (OpenSpec.upto fnAgainExpireDelegationTokenResponseSpec)

/-- 'laws.FnAgainDefaultPrincipalData', WHERE WHAT IT READS IS OF BULK AT MOST 1048576: true; the input reads as it did. -/
def fnAgainDefaultPrincipalDataUptoRow : OpenClaim := { program := "ytcpnjbbcbhbmcaadoor", sum := "aa136a3492621befd369b0538e4ab0611634fdfc30541a8ff0b8b8f7da5c1517", func := "pub-kmsg/laws.FnAgainDefaultPrincipalData", spec := "fnAgainDefaultPrincipalData", inPlace := ["internal/reflectlite.ValueOf", "internal/reflectlite.Swapper", "(internal/reflectlite.Value).Len"], unfollowed := true, recurses := true, named := ["encoding/binary.BigEndian", "pub-kmsg/pub/kmsg/inner/kbin.ErrNotEnoughData"], loops := true, apart := false, laid := [("pub-kmsg/pub/kmsg/inner/kbin.ErrNotEnoughData", laid_pub_kmsg_pub_kmsg_inner_kbin_ErrNotEnoughData)], narrowed := true }
def FnAgainDefaultPrincipalDataUptoSaid : Prop := fnAgainDefaultPrincipalDataUptoRow.holds Tryd.pinned (OpenSpec.upto fnAgainDefaultPrincipalDataSpec)

/-- 'laws.FnAnyEndTxnRequest', WHERE WHAT IT READS IS OF BULK AT MOST 1048576: true; the input reads as it did. -/
def fnAnyEndTxnRequestUptoRow : OpenClaim := { program := "ytcpnjbbcbhbmcaadoor", sum := "aa136a3492621befd369b0538e4ab0611634fdfc30541a8ff0b8b8f7da5c1517", func := "pub-kmsg/laws.FnAnyEndTxnRequest", spec := "fnAnyEndTxnRequest", inPlace := ["internal/reflectlite.ValueOf", "internal/reflectlite.Swapper", "(internal/reflectlite.Value).Len"], unfollowed := true, recurses := true, named := ["encoding/binary.BigEndian", "pub-kmsg/pub/kmsg/inner/kbin.ErrNotEnoughData"], apart := false, laid := [("pub-kmsg/pub/kmsg/inner/kbin.ErrNotEnoughData", laid_pub_kmsg_pub_kmsg_inner_kbin_ErrNotEnoughData)], narrowed := true }
def FnAnyEndTxnRequestUptoSaid : Prop := fnAnyEndTxnRequestUptoRow.holds Tryd.pinned (OpenSpec.upto fnAnyEndTxnRequestSpec)

end Rows
end Go.Proofs.YtcpnjbbcbhbmcaaDoor
