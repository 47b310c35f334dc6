/- The row of the law FnAgainDescribeDelegationTokenResponse: the call starts no goroutine. No condition. -/
import Derived.Test.YtepedhnfnicbaaaGreatDoorTie
import Derived.KernelRfl
namespace Go.Proofs.YtepedhnfnicbaaaGreatDoor.fnAgainDescribeDelegationTokenResponse
theorem goes : false = Rows.fnAgainDescribeDelegationTokenResponseUptoRow.goesBy Tryz.pinned.checked.prog := by kernel_rfl
end Go.Proofs.YtepedhnfnicbaaaGreatDoor.fnAgainDescribeDelegationTokenResponse
