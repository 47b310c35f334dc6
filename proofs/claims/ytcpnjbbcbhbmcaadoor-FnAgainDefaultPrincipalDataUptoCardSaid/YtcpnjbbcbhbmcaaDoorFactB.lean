/- The program's lifts are as a row asks them. No condition. -/
import Derived.Test.YtcpnjbbcbhbmcaaDoorProg
import Derived.Test.YtcpnjbbcbhbmcaaDoorChecked
import GoSem.ClaimJoined
import Derived.JoinedOf
import Derived.KernelRfl
namespace Go.Proofs.YtcpnjbbcbhbmcaaDoor
theorem factLifts : (false == Tryd.checked.prog.liftsFinal) = true := by kernel_rfl
end Go.Proofs.YtcpnjbbcbhbmcaaDoor
