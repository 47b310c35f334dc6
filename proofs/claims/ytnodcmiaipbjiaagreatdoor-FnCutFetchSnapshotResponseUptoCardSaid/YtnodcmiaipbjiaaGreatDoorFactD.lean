/- The program's memory and stops are as a row asks them. No condition. -/
import Derived.Test.YtnodcmiaipbjiaaGreatDoorProg
import Derived.Test.YtnodcmiaipbjiaaGreatDoorChecked
import GoSem.ClaimJoined
import Derived.JoinedOf
import Derived.KernelRfl
namespace Go.Proofs.YtnodcmiaipbjiaaGreatDoor
theorem factLaid : laidOutB Tryz.checked.prog = true := by kernel_rfl
theorem factMaps : mapsRowed Tryz.checked.prog = true := by kernel_rfl
theorem factStops : (Tryz.checked.prog.stops == []) = true := by kernel_rfl
theorem factKnobs : (Tryz.checked.prog.stopKnobs == []) = true := by kernel_rfl
theorem factHeard : Tryz.checked.prog.stopsHeard = true := by kernel_rfl
end Go.Proofs.YtnodcmiaipbjiaaGreatDoor
