/- The program's entry is as a row asks it. No condition. -/
import Derived.Test.YtafoaplcmgfloaaDoorProg
import Derived.Test.YtafoaplcmgfloaaDoorChecked
import GoSem.ClaimJoined
import Derived.JoinedOf
import Derived.KernelRfl
namespace Go.Proofs.YtafoaplcmgfloaaDoor
theorem factEnter : Tryd.checked.prog.mayEnter = true := by kernel_rfl
end Go.Proofs.YtafoaplcmgfloaaDoor
