/- The program's entry is as a row asks it. No condition. -/
import Derived.Test.YtbhmbdkeogdmcaaProg
import Derived.Test.YtbhmbdkeogdmcaaChecked
import GoSem.ClaimJoined
import Derived.JoinedOf
import Derived.KernelRfl
namespace Go.Proofs.Ytbhmbdkeogdmcaa
theorem factEnter : Try.checked.prog.mayEnter = true := by kernel_rfl
end Go.Proofs.Ytbhmbdkeogdmcaa
