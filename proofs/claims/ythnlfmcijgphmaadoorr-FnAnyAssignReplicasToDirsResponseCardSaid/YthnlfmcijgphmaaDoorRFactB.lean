/- The program's lifts are as a row asks them. No condition. -/
import Derived.Test.YthnlfmcijgphmaaDoorRProg
import Derived.Test.YthnlfmcijgphmaaDoorRChecked
import GoSem.ClaimJoined
import Derived.JoinedOf
import Derived.KernelRfl
namespace Go.Proofs.YthnlfmcijgphmaaDoorR
theorem factLifts : (false == Tryd.checked.prog.liftsFinal) = true := by kernel_rfl
end Go.Proofs.YthnlfmcijgphmaaDoorR
