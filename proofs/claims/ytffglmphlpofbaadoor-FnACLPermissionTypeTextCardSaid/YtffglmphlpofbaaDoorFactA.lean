/- The program's entry is as a row asks it. No condition. -/
import Derived.Test.YtffglmphlpofbaaDoorProg
import Derived.Test.YtffglmphlpofbaaDoorChecked
import GoSem.ClaimJoined
import Derived.JoinedOf
import Derived.KernelRfl
namespace Go.Proofs.YtffglmphlpofbaaDoor
theorem factEnter : Tryd.checked.prog.mayEnter = true := by kernel_rfl
end Go.Proofs.YtffglmphlpofbaaDoor
