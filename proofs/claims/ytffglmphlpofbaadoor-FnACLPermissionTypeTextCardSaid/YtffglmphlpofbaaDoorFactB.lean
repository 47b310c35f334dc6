/- The program's lifts are as a row asks them. No condition. -/
import Derived.Test.YtffglmphlpofbaaDoorProg
import Derived.Test.YtffglmphlpofbaaDoorChecked
import GoSem.ClaimJoined
import Derived.JoinedOf
import Derived.KernelRfl
namespace Go.Proofs.YtffglmphlpofbaaDoor
theorem factLifts : (false == Tryd.checked.prog.liftsFinal) = true := by kernel_rfl
end Go.Proofs.YtffglmphlpofbaaDoor
