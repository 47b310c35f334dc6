/- The program's looks are as a card asks them. No condition. -/
import Derived.Test.YtmehkjdaeohblaaDoorProg
import Derived.Test.YtmehkjdaeohblaaDoorChecked
import GoSem.ClaimJoined
import Derived.JoinedOf
import Derived.KernelRfl
import GoSem.ClaimSevenParts
namespace Go.Proofs.YtmehkjdaeohblaaDoor
theorem factLooks : false = Tryd.checked.prog.looks [] := by kernel_rfl
end Go.Proofs.YtmehkjdaeohblaaDoor
