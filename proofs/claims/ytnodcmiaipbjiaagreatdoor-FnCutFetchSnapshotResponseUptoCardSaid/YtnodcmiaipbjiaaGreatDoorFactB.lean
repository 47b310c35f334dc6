/- The program's lifts are as a row asks them. No condition. -/
import Derived.Test.YtnodcmiaipbjiaaGreatDoorProg
import Derived.Test.YtnodcmiaipbjiaaGreatDoorChecked
import GoSem.ClaimJoined
import Derived.JoinedOf
import Derived.KernelRfl
namespace Go.Proofs.YtnodcmiaipbjiaaGreatDoor
theorem factLifts : (false == Tryz.checked.prog.liftsFinal) = true := by kernel_rfl
end Go.Proofs.YtnodcmiaipbjiaaGreatDoor
