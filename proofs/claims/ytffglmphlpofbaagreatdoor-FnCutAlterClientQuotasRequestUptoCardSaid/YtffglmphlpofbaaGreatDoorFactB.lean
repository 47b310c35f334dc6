/- The program's lifts are as a row asks them. No condition. -/
import Derived.Test.YtffglmphlpofbaaGreatDoorProg
import Derived.Test.YtffglmphlpofbaaGreatDoorChecked
import GoSem.ClaimJoined
import Derived.JoinedOf
import Derived.KernelRfl
namespace Go.Proofs.YtffglmphlpofbaaGreatDoor
theorem factLifts : (false == Tryz.checked.prog.liftsFinal) = true := by kernel_rfl
end Go.Proofs.YtffglmphlpofbaaGreatDoor
