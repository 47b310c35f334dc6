/- The program's entry is as a row asks it. No condition. -/
import Derived.Test.YtnodcmiaipbjiaaDoorProg
import Derived.Test.YtnodcmiaipbjiaaDoorChecked
import GoSem.ClaimJoined
import Derived.JoinedOf
import Derived.KernelRfl
namespace Go.Proofs.YtnodcmiaipbjiaaDoor
theorem factEnter : Tryd.checked.prog.mayEnter = true := by kernel_rfl
end Go.Proofs.YtnodcmiaipbjiaaDoor
