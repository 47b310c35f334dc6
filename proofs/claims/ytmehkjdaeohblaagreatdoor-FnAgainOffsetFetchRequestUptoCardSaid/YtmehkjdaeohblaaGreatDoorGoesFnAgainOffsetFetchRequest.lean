/- The row of the law FnAgainOffsetFetchRequest: the call starts no goroutine. No condition. -/
import Derived.Test.YtmehkjdaeohblaaGreatDoorTie
import Derived.KernelRfl
namespace Go.Proofs.YtmehkjdaeohblaaGreatDoor.fnAgainOffsetFetchRequest
theorem goes : false = Rows.fnAgainOffsetFetchRequestUptoRow.goesBy Tryz.pinned.checked.prog := by kernel_rfl
end Go.Proofs.YtmehkjdaeohblaaGreatDoor.fnAgainOffsetFetchRequest
