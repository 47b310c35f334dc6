/- The program's entry is as a row asks it. No condition. -/
import Derived.Test.YtffglmphlpofbaaGreatDoorProg
import Derived.Test.YtffglmphlpofbaaGreatDoorChecked
import GoSem.ClaimJoined
import Derived.JoinedOf
import Derived.KernelRfl
namespace Go.Proofs.YtffglmphlpofbaaGreatDoor
theorem factEnter : Tryz.checked.prog.mayEnter = true := by kernel_rfl
end Go.Proofs.YtffglmphlpofbaaGreatDoor
