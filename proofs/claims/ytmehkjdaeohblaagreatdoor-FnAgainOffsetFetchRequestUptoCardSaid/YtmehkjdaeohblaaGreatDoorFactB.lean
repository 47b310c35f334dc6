/- The program's lifts are as a row asks them. No condition. -/
import Derived.Test.YtmehkjdaeohblaaGreatDoorProg
import Derived.Test.YtmehkjdaeohblaaGreatDoorChecked
import GoSem.ClaimJoined
import Derived.JoinedOf
import Derived.KernelRfl
namespace Go.Proofs.YtmehkjdaeohblaaGreatDoor
theorem factLifts : (false == Tryz.checked.prog.liftsFinal) = true := by kernel_rfl
end Go.Proofs.YtmehkjdaeohblaaGreatDoor
