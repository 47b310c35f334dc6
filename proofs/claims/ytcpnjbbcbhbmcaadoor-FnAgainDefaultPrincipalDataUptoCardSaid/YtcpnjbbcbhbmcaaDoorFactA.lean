/- The program's entry is as a row asks it. No condition. -/
import Derived.Test.YtcpnjbbcbhbmcaaDoorProg
import Derived.Test.YtcpnjbbcbhbmcaaDoorChecked
import GoSem.ClaimJoined
import Derived.JoinedOf
import Derived.KernelRfl
namespace Go.Proofs.YtcpnjbbcbhbmcaaDoor
theorem factEnter : Tryd.checked.prog.mayEnter = true := by kernel_rfl
end Go.Proofs.YtcpnjbbcbhbmcaaDoor
