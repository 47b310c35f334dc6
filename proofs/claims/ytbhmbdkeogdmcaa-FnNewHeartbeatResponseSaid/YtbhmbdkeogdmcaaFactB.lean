/- The program's lifts are as a row asks them. No condition. -/
import Derived.Test.YtbhmbdkeogdmcaaProg
import Derived.Test.YtbhmbdkeogdmcaaChecked
import GoSem.ClaimJoined
import Derived.JoinedOf
import Derived.KernelRfl
namespace Go.Proofs.Ytbhmbdkeogdmcaa
theorem factLifts : (false == Try.checked.prog.liftsFinal) = true := by kernel_rfl
end Go.Proofs.Ytbhmbdkeogdmcaa
