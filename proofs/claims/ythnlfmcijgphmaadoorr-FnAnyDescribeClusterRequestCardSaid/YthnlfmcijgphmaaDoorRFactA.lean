/- The program's entry is as a row asks it. No condition. -/
import Derived.Test.YthnlfmcijgphmaaDoorRProg
import Derived.Test.YthnlfmcijgphmaaDoorRChecked
import GoSem.ClaimJoined
import Derived.JoinedOf
import Derived.KernelRfl
namespace Go.Proofs.YthnlfmcijgphmaaDoorR
theorem factEnter : Tryd.checked.prog.mayEnter = true := by kernel_rfl
end Go.Proofs.YthnlfmcijgphmaaDoorR
