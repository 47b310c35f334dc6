/- The program's entry is as a row asks it. No condition. -/
import Derived.Test.YtcpnjbbcbhbmcaaGreatDoorProg
import Derived.Test.YtcpnjbbcbhbmcaaGreatDoorChecked
import GoSem.ClaimJoined
import Derived.JoinedOf
import Derived.KernelRfl
namespace Go.Proofs.YtcpnjbbcbhbmcaaGreatDoor
theorem factEnter : Tryz.checked.prog.mayEnter = true := by kernel_rfl
end Go.Proofs.YtcpnjbbcbhbmcaaGreatDoor
