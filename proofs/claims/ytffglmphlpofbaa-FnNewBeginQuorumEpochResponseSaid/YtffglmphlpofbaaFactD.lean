/- The program's memory and stops are as a row asks them. No condition. -/
import Derived.Test.YtffglmphlpofbaaProg
import Derived.Test.YtffglmphlpofbaaChecked
import GoSem.ClaimJoined
import Derived.JoinedOf
import Derived.KernelRfl
namespace Go.Proofs.Ytffglmphlpofbaa
theorem factLaid : laidOutB Try.checked.prog = true := by kernel_rfl
theorem factMaps : mapsRowed Try.checked.prog = true := by kernel_rfl
theorem factStops : (Try.checked.prog.stops == []) = true := by kernel_rfl
theorem factKnobs : (Try.checked.prog.stopKnobs == []) = true := by kernel_rfl
theorem factHeard : Try.checked.prog.stopsHeard = true := by kernel_rfl
end Go.Proofs.Ytffglmphlpofbaa
