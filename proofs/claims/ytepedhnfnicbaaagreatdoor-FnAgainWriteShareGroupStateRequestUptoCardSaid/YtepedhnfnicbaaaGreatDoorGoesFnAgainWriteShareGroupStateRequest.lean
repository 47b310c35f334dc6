/- The row of the law FnAgainWriteShareGroupStateRequest: the call starts no goroutine. No condition. -/
import Derived.Test.YtepedhnfnicbaaaGreatDoorTie
import Derived.KernelRfl
namespace Go.Proofs.YtepedhnfnicbaaaGreatDoor.fnAgainWriteShareGroupStateRequest
theorem goes : false = Rows.fnAgainWriteShareGroupStateRequestUptoRow.goesBy Tryz.pinned.checked.prog := by kernel_rfl
end Go.Proofs.YtepedhnfnicbaaaGreatDoor.fnAgainWriteShareGroupStateRequest
