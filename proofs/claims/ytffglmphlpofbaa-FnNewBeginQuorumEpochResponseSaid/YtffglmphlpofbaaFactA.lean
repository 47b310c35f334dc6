/- The program's entry is as a row asks it. No condition. -/
import Derived.Test.YtffglmphlpofbaaProg
import Derived.Test.YtffglmphlpofbaaChecked
import GoSem.ClaimJoined
import Derived.JoinedOf
import Derived.KernelRfl
namespace Go.Proofs.Ytffglmphlpofbaa
theorem factEnter : Try.checked.prog.mayEnter = true := by kernel_rfl
end Go.Proofs.Ytffglmphlpofbaa
