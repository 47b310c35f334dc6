/- The program's entry is as a row asks it. No condition. -/
import Derived.Test.YtnodcmiaipbjiaaGreatDoorProg
import Derived.Test.YtnodcmiaipbjiaaGreatDoorChecked
import GoSem.ClaimJoined
import Derived.JoinedOf
import Derived.KernelRfl
namespace Go.Proofs.YtnodcmiaipbjiaaGreatDoor
theorem factEnter : Tryz.checked.prog.mayEnter = true := by kernel_rfl
end Go.Proofs.YtnodcmiaipbjiaaGreatDoor
