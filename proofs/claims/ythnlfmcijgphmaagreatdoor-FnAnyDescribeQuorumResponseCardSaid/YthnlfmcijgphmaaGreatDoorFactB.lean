/- The program's lifts are as a row asks them. No condition. -/
import Derived.Test.YthnlfmcijgphmaaGreatDoorProg
import Derived.Test.YthnlfmcijgphmaaGreatDoorChecked
import GoSem.ClaimJoined
import Derived.JoinedOf
import Derived.KernelRfl
namespace Go.Proofs.YthnlfmcijgphmaaGreatDoor
theorem factLifts : (false == Tryz.checked.prog.liftsFinal) = true := by kernel_rfl
end Go.Proofs.YthnlfmcijgphmaaGreatDoor
