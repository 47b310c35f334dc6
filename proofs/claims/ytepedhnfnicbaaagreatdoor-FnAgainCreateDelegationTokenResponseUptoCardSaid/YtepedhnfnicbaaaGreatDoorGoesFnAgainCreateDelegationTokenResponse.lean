/- The row of the law FnAgainCreateDelegationTokenResponse: the call starts no goroutine. No condition. -/
import Derived.Test.YtepedhnfnicbaaaGreatDoorTie
import Derived.KernelRfl
namespace Go.Proofs.YtepedhnfnicbaaaGreatDoor.fnAgainCreateDelegationTokenResponse
theorem goes : false = Rows.fnAgainCreateDelegationTokenResponseUptoRow.goesBy Tryz.pinned.checked.prog := by kernel_rfl
end Go.Proofs.YtepedhnfnicbaaaGreatDoor.fnAgainCreateDelegationTokenResponse
