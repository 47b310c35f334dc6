/- The row of the law FnACLPermissionTypeText: the call starts no goroutine. No condition. -/
import Derived.Test.YtffglmphlpofbaaDoorTie
import Derived.KernelRfl
namespace Go.Proofs.YtffglmphlpofbaaDoor.fnACLPermissionTypeText
theorem goes : false = Rows.fnACLPermissionTypeTextRow.goesBy Tryd.pinned.checked.prog := by kernel_rfl
end Go.Proofs.YtffglmphlpofbaaDoor.fnACLPermissionTypeText
