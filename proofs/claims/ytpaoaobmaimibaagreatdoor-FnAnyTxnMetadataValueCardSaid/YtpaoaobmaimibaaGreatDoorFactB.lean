/- The program's lifts are as a row asks them. No condition. -/
import Derived.Test.YtpaoaobmaimibaaGreatDoorProg
import Derived.Test.YtpaoaobmaimibaaGreatDoorChecked
import GoSem.ClaimJoined
import Derived.JoinedOf
import Derived.KernelRfl
namespace Go.Proofs.YtpaoaobmaimibaaGreatDoor
theorem factLifts : (false == Tryz.checked.prog.liftsFinal) = true := by kernel_rfl
end Go.Proofs.YtpaoaobmaimibaaGreatDoor
