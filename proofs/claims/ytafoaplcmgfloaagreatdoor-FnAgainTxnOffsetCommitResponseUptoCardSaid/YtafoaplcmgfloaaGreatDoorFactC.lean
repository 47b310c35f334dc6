/- The program's make is as a row asks it. No condition. -/
import Derived.Test.YtafoaplcmgfloaaGreatDoorProg
import Derived.Test.YtafoaplcmgfloaaGreatDoorChecked
import GoSem.ClaimJoined
import Derived.JoinedOf
import Derived.KernelRfl
namespace Go.Proofs.YtafoaplcmgfloaaGreatDoor
theorem factMake : (Tryz.checked.prog.make == some .cut) = true := by kernel_rfl
end Go.Proofs.YtafoaplcmgfloaaGreatDoor
