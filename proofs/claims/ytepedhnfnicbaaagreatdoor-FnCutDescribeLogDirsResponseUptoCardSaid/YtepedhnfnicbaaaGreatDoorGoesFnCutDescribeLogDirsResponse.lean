/- The row of the law FnCutDescribeLogDirsResponse: the call starts no goroutine. No condition. -/
import Derived.Test.YtepedhnfnicbaaaGreatDoorTie
import Derived.KernelRfl
namespace Go.Proofs.YtepedhnfnicbaaaGreatDoor.fnCutDescribeLogDirsResponse
theorem goes : false = Rows.fnCutDescribeLogDirsResponseUptoRow.goesBy Tryz.pinned.checked.prog := by kernel_rfl
end Go.Proofs.YtepedhnfnicbaaaGreatDoor.fnCutDescribeLogDirsResponse
