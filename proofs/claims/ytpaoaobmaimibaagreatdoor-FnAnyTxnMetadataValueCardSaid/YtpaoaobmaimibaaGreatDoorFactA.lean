/- The program's entry is as a row asks it. No condition. -/
import Derived.Test.YtpaoaobmaimibaaGreatDoorProg
import Derived.Test.YtpaoaobmaimibaaGreatDoorChecked
import GoSem.ClaimJoined
import Derived.JoinedOf
import Derived.KernelRfl
namespace Go.Proofs.YtpaoaobmaimibaaGreatDoor
theorem factEnter : Tryz.checked.prog.mayEnter = true := by kernel_rfl
end Go.Proofs.YtpaoaobmaimibaaGreatDoor
