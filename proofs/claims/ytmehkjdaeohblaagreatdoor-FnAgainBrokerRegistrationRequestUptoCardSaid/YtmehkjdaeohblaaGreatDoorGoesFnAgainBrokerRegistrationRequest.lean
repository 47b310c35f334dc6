/- The row of the law FnAgainBrokerRegistrationRequest: the call starts no goroutine. No condition. -/
import Derived.Test.YtmehkjdaeohblaaGreatDoorTie
import Derived.KernelRfl
namespace Go.Proofs.YtmehkjdaeohblaaGreatDoor.fnAgainBrokerRegistrationRequest
theorem goes : false = Rows.fnAgainBrokerRegistrationRequestUptoRow.goesBy Tryz.pinned.checked.prog := by kernel_rfl
end Go.Proofs.YtmehkjdaeohblaaGreatDoor.fnAgainBrokerRegistrationRequest
