/- The program's make is as a row asks it. No condition. -/
import Derived.Test.YtffglmphlpofbaaDoorProg
import Derived.Test.YtffglmphlpofbaaDoorChecked
import GoSem.ClaimJoined
import Derived.JoinedOf
import Derived.KernelRfl
namespace Go.Proofs.YtffglmphlpofbaaDoor
theorem factMake : (Tryd.checked.prog.make == some .cut) = true := by kernel_rfl
end Go.Proofs.YtffglmphlpofbaaDoor
