/- The program's lifts are as a row asks them. No condition. -/
import Derived.Test.YtafoaplcmgfloaaGreatDoorProg
import Derived.Test.YtafoaplcmgfloaaGreatDoorChecked
import GoSem.ClaimJoined
import Derived.JoinedOf
import Derived.KernelRfl
namespace Go.Proofs.YtafoaplcmgfloaaGreatDoor
theorem factLifts : (false == Tryz.checked.prog.liftsFinal) = true := by kernel_rfl
end Go.Proofs.YtafoaplcmgfloaaGreatDoor
