/- The program's lifts are as a row asks them. No condition. -/
import Derived.Test.YtcpnjbbcbhbmcaaGreatDoorProg
import Derived.Test.YtcpnjbbcbhbmcaaGreatDoorChecked
import GoSem.ClaimJoined
import Derived.JoinedOf
import Derived.KernelRfl
namespace Go.Proofs.YtcpnjbbcbhbmcaaGreatDoor
theorem factLifts : (false == Tryz.checked.prog.liftsFinal) = true := by kernel_rfl
end Go.Proofs.YtcpnjbbcbhbmcaaGreatDoor
