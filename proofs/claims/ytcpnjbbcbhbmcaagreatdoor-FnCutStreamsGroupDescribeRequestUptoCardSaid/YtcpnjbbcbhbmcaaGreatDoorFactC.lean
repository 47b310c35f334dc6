/- The program's make is as a row asks it. No condition. -/
import Derived.Test.YtcpnjbbcbhbmcaaGreatDoorProg
import Derived.Test.YtcpnjbbcbhbmcaaGreatDoorChecked
import GoSem.ClaimJoined
import Derived.JoinedOf
import Derived.KernelRfl
namespace Go.Proofs.YtcpnjbbcbhbmcaaGreatDoor
theorem factMake : (Tryz.checked.prog.make == some .cut) = true := by kernel_rfl
end Go.Proofs.YtcpnjbbcbhbmcaaGreatDoor
