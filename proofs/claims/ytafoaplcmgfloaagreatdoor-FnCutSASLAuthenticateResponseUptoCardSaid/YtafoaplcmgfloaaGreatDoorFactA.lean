/- The program's entry is as a row asks it. No condition. -/
import Derived.Test.YtafoaplcmgfloaaGreatDoorProg
import Derived.Test.YtafoaplcmgfloaaGreatDoorChecked
import GoSem.ClaimJoined
import Derived.JoinedOf
import Derived.KernelRfl
namespace Go.Proofs.YtafoaplcmgfloaaGreatDoor
theorem factEnter : Tryz.checked.prog.mayEnter = true := by kernel_rfl
end Go.Proofs.YtafoaplcmgfloaaGreatDoor
