/- The row of the law FnCutConsumerGroupHeartbeatRequest: the call starts no goroutine. No condition. -/
import Derived.Test.YtepedhnfnicbaaaGreatDoorTie
import Derived.KernelRfl
namespace Go.Proofs.YtepedhnfnicbaaaGreatDoor.fnCutConsumerGroupHeartbeatRequest
theorem goes : false = Rows.fnCutConsumerGroupHeartbeatRequestUptoRow.goesBy Tryz.pinned.checked.prog := by kernel_rfl
end Go.Proofs.YtepedhnfnicbaaaGreatDoor.fnCutConsumerGroupHeartbeatRequest
