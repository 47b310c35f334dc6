/- The program's entry is as a row asks it. No condition. -/
import Derived.Test.YtmehkjdaeohblaaGreatDoorProg
import Derived.Test.YtmehkjdaeohblaaGreatDoorChecked
import GoSem.ClaimJoined
import Derived.JoinedOf
import Derived.KernelRfl
namespace Go.Proofs.YtmehkjdaeohblaaGreatDoor
theorem factEnter : Tryz.checked.prog.mayEnter = true := by kernel_rfl
end Go.Proofs.YtmehkjdaeohblaaGreatDoor
