/- The program's entry is as a row asks it. No condition. -/
import Derived.Test.YtmehkjdaeohblaaDoorProg
import Derived.Test.YtmehkjdaeohblaaDoorChecked
import GoSem.ClaimJoined
import Derived.JoinedOf
import Derived.KernelRfl
namespace Go.Proofs.YtmehkjdaeohblaaDoor
theorem factEnter : Tryd.checked.prog.mayEnter = true := by kernel_rfl
end Go.Proofs.YtmehkjdaeohblaaDoor
