/- The row of the law FnCutCreateTopicsResponse: the call starts no goroutine. No condition. -/
import Derived.Test.YtpaoaobmaimibaaGreatDoorTie
import Derived.KernelRfl
namespace Go.Proofs.YtpaoaobmaimibaaGreatDoor.fnCutCreateTopicsResponse
theorem goes : false = Rows.fnCutCreateTopicsResponseUptoRow.goesBy Tryz.pinned.checked.prog := by kernel_rfl
end Go.Proofs.YtpaoaobmaimibaaGreatDoor.fnCutCreateTopicsResponse
