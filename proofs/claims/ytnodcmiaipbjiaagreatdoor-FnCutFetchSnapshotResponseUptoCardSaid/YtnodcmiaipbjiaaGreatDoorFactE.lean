/- The program's looks are as a card asks them. No condition. -/
import Derived.Test.YtnodcmiaipbjiaaGreatDoorProg
import Derived.Test.YtnodcmiaipbjiaaGreatDoorChecked
import GoSem.ClaimJoined
import Derived.JoinedOf
import Derived.KernelRfl
import GoSem.ClaimSevenParts
namespace Go.Proofs.YtnodcmiaipbjiaaGreatDoor
theorem factLooks : false = Tryz.checked.prog.looks [] := by kernel_rfl
end Go.Proofs.YtnodcmiaipbjiaaGreatDoor
