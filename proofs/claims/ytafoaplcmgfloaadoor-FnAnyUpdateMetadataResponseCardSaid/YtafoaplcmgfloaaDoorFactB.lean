/- The program's lifts are as a row asks them. No condition. -/
import Derived.Test.YtafoaplcmgfloaaDoorProg
import Derived.Test.YtafoaplcmgfloaaDoorChecked
import GoSem.ClaimJoined
import Derived.JoinedOf
import Derived.KernelRfl
namespace Go.Proofs.YtafoaplcmgfloaaDoor
theorem factLifts : (false == Tryd.checked.prog.liftsFinal) = true := by kernel_rfl
end Go.Proofs.YtafoaplcmgfloaaDoor
