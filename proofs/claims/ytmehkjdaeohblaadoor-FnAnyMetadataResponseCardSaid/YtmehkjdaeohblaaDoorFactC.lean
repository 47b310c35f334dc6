/- The program's make is as a row asks it. No condition. -/
import Derived.Test.YtmehkjdaeohblaaDoorProg
import Derived.Test.YtmehkjdaeohblaaDoorChecked
import GoSem.ClaimJoined
import Derived.JoinedOf
import Derived.KernelRfl
namespace Go.Proofs.YtmehkjdaeohblaaDoor
theorem factMake : (Tryd.checked.prog.make == some .cut) = true := by kernel_rfl
end Go.Proofs.YtmehkjdaeohblaaDoor
