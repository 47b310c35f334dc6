/- The program's lifts are as a row asks them. No condition. -/
import Derived.Test.YtffglmphlpofbaaProg
import Derived.Test.YtffglmphlpofbaaChecked
import GoSem.ClaimJoined
import Derived.JoinedOf
import Derived.KernelRfl
namespace Go.Proofs.Ytffglmphlpofbaa
theorem factLifts : (false == Try.checked.prog.liftsFinal) = true := by kernel_rfl
end Go.Proofs.Ytffglmphlpofbaa
