/- The row of the law FnAgainShareGroupHeartbeatRequest: the call starts no goroutine. No condition. -/
import Derived.Test.YtepedhnfnicbaaaGreatDoorTie
import Derived.KernelRfl
namespace Go.Proofs.YtepedhnfnicbaaaGreatDoor.fnAgainShareGroupHeartbeatRequest
theorem goes : false = Rows.fnAgainShareGroupHeartbeatRequestUptoRow.goesBy Tryz.pinned.checked.prog := by kernel_rfl
end Go.Proofs.YtepedhnfnicbaaaGreatDoor.fnAgainShareGroupHeartbeatRequest
