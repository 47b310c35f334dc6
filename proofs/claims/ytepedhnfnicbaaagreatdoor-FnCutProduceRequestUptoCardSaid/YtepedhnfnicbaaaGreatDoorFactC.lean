/- The program's make is as a row asks it. No condition. -/
import Derived.Test.YtepedhnfnicbaaaGreatDoorProg
import Derived.Test.YtepedhnfnicbaaaGreatDoorChecked
import GoSem.ClaimJoined
import Derived.JoinedOf
import Derived.KernelRfl
namespace Go.Proofs.YtepedhnfnicbaaaGreatDoor
theorem factMake : (Tryz.checked.prog.make == some .cut) = true := by kernel_rfl
end Go.Proofs.YtepedhnfnicbaaaGreatDoor
