/- The row of the law FnCutProduceRequest: the call starts no goroutine. No condition. -/
import Derived.Test.YtepedhnfnicbaaaGreatDoorTie
import Derived.KernelRfl
namespace Go.Proofs.YtepedhnfnicbaaaGreatDoor.fnCutProduceRequest
theorem goes : false = Rows.fnCutProduceRequestUptoRow.goesBy Tryz.pinned.checked.prog := by kernel_rfl
end Go.Proofs.YtepedhnfnicbaaaGreatDoor.fnCutProduceRequest
