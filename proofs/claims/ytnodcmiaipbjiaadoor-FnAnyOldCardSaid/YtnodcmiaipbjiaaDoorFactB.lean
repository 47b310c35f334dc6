/- The program's lifts are as a row asks them. No condition. -/
import Derived.Test.YtnodcmiaipbjiaaDoorProg
import Derived.Test.YtnodcmiaipbjiaaDoorChecked
import GoSem.ClaimJoined
import Derived.JoinedOf
import Derived.KernelRfl
namespace Go.Proofs.YtnodcmiaipbjiaaDoor
theorem factLifts : (false == Tryd.checked.prog.liftsFinal) = true := by kernel_rfl
end Go.Proofs.YtnodcmiaipbjiaaDoor
