/- The row of the law FnCutFetchSnapshotResponse: the call starts no goroutine. No condition. -/
import Derived.Test.YtnodcmiaipbjiaaGreatDoorTie
import Derived.KernelRfl
namespace Go.Proofs.YtnodcmiaipbjiaaGreatDoor.fnCutFetchSnapshotResponse
theorem goes : false = Rows.fnCutFetchSnapshotResponseUptoRow.goesBy Tryz.pinned.checked.prog := by kernel_rfl
end Go.Proofs.YtnodcmiaipbjiaaGreatDoor.fnCutFetchSnapshotResponse
