/- The program's memory and stops are as a row asks them. No condition. -/
import Derived.Test.YtpaoaobmaimibaaGreatDoorProg
import Derived.Test.YtpaoaobmaimibaaGreatDoorChecked
import GoSem.ClaimJoined
import Derived.JoinedOf
import Derived.KernelRfl
namespace Go.Proofs.YtpaoaobmaimibaaGreatDoor
theorem factLaid : laidOutB Tryz.checked.prog = true := by kernel_rfl
theorem factMaps : mapsRowed Tryz.checked.prog = true := by kernel_rfl
theorem factStops : (Tryz.checked.prog.stops == []) = true := by kernel_rfl
theorem factKnobs : (Tryz.checked.prog.stopKnobs == []) = true := by kernel_rfl
theorem factHeard : Tryz.checked.prog.stopsHeard = true := by kernel_rfl
end Go.Proofs.YtpaoaobmaimibaaGreatDoor
