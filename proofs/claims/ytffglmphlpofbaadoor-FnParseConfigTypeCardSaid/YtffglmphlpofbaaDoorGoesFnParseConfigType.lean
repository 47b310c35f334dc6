/- The row of the law FnParseConfigType: the call starts no goroutine. No condition. -/
import Derived.Test.YtffglmphlpofbaaDoorTie
import Derived.KernelRfl
namespace Go.Proofs.YtffglmphlpofbaaDoor.fnParseConfigType
theorem goes : false = Rows.fnParseConfigTypeRow.goesBy Tryd.pinned.checked.prog := by kernel_rfl
end Go.Proofs.YtffglmphlpofbaaDoor.fnParseConfigType
