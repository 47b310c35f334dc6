/- The row of the law FnCutListPartitionReassignmentsResponse: the call starts no goroutine. No condition. -/
import Derived.Test.YtepedhnfnicbaaaGreatDoorTie
import Derived.KernelRfl
namespace Go.Proofs.YtepedhnfnicbaaaGreatDoor.fnCutListPartitionReassignmentsResponse
theorem goes : false = Rows.fnCutListPartitionReassignmentsResponseUptoRow.goesBy Tryz.pinned.checked.prog := by kernel_rfl
end Go.Proofs.YtepedhnfnicbaaaGreatDoor.fnCutListPartitionReassignmentsResponse
