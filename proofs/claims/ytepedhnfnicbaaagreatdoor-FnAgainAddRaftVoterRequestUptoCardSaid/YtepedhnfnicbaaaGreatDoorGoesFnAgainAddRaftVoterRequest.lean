/- The row of the law FnAgainAddRaftVoterRequest: the call starts no goroutine. No condition. -/
import Derived.Test.YtepedhnfnicbaaaGreatDoorTie
import Derived.KernelRfl
namespace Go.Proofs.YtepedhnfnicbaaaGreatDoor.fnAgainAddRaftVoterRequest
theorem goes : false = Rows.fnAgainAddRaftVoterRequestUptoRow.goesBy Tryz.pinned.checked.prog := by kernel_rfl
end Go.Proofs.YtepedhnfnicbaaaGreatDoor.fnAgainAddRaftVoterRequest
