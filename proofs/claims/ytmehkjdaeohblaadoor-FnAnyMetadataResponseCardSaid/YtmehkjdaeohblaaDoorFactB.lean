/- The program's lifts are as a row asks them. No condition. -/
import Derived.Test.YtmehkjdaeohblaaDoorProg
import Derived.Test.YtmehkjdaeohblaaDoorChecked
import GoSem.ClaimJoined
import Derived.JoinedOf
import Derived.KernelRfl
namespace Go.Proofs.YtmehkjdaeohblaaDoor
theorem factLifts : (false == Tryd.checked.prog.liftsFinal) = true := by kernel_rfl
end Go.Proofs.YtmehkjdaeohblaaDoor
