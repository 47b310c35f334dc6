/- The program's make is as a row asks it. No condition. -/
import Derived.Test.YtnodcmiaipbjiaaDoorProg
import Derived.Test.YtnodcmiaipbjiaaDoorChecked
import GoSem.ClaimJoined
import Derived.JoinedOf
import Derived.KernelRfl
namespace Go.Proofs.YtnodcmiaipbjiaaDoor
theorem factMake : (Tryd.checked.prog.make == some .cut) = true := by kernel_rfl
end Go.Proofs.YtnodcmiaipbjiaaDoor
