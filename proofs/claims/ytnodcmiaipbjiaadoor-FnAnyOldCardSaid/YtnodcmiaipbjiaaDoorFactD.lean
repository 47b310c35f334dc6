/- The program's memory and stops are as a row asks them. No condition. -/
import Derived.Test.YtnodcmiaipbjiaaDoorProg
import Derived.Test.YtnodcmiaipbjiaaDoorChecked
import GoSem.ClaimJoined
import Derived.JoinedOf
import Derived.KernelRfl
namespace Go.Proofs.YtnodcmiaipbjiaaDoor
theorem factLaid : laidOutB Tryd.checked.prog = true := by kernel_rfl
theorem factMaps : mapsRowed Tryd.checked.prog = true := by kernel_rfl
theorem factStops : (Tryd.checked.prog.stops == []) = true := by kernel_rfl
theorem factKnobs : (Tryd.checked.prog.stopKnobs == []) = true := by kernel_rfl
theorem factHeard : Tryd.checked.prog.stopsHeard = true := by kernel_rfl
end Go.Proofs.YtnodcmiaipbjiaaDoor
