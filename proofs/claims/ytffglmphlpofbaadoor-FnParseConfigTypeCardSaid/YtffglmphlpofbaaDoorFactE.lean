/- The program's looks are as a card asks them. No condition. -/
import Derived.Test.YtffglmphlpofbaaDoorProg
import Derived.Test.YtffglmphlpofbaaDoorChecked
import GoSem.ClaimJoined
import Derived.JoinedOf
import Derived.KernelRfl
import GoSem.ClaimSevenParts
namespace Go.Proofs.YtffglmphlpofbaaDoor
theorem factLooks : false = Tryd.checked.prog.looks [] := by kernel_rfl
end Go.Proofs.YtffglmphlpofbaaDoor
