/- The program's looks are as a card asks them. No condition. -/
import Derived.Test.YtpaoaobmaimibaaGreatDoorProg
import Derived.Test.YtpaoaobmaimibaaGreatDoorChecked
import GoSem.ClaimJoined
import Derived.JoinedOf
import Derived.KernelRfl
import GoSem.ClaimSevenParts
namespace Go.Proofs.YtpaoaobmaimibaaGreatDoor
theorem factLooks : false = Tryz.checked.prog.looks [] := by kernel_rfl
end Go.Proofs.YtpaoaobmaimibaaGreatDoor
