/- The program's lifts are as a row asks them. No condition. -/
import Derived.Test.YtepedhnfnicbaaaGreatDoorProg
import Derived.Test.YtepedhnfnicbaaaGreatDoorChecked
import GoSem.ClaimJoined
import Derived.JoinedOf
import Derived.KernelRfl
namespace Go.Proofs.YtepedhnfnicbaaaGreatDoor
theorem factLifts : (false == Tryz.checked.prog.liftsFinal) = true := by kernel_rfl
end Go.Proofs.YtepedhnfnicbaaaGreatDoor
