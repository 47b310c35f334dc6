/- The row of the law FnAnyTxnMetadataValue: the call starts no goroutine. No condition. -/
import Derived.Test.YtpaoaobmaimibaaGreatDoorTie
import Derived.KernelRfl
namespace Go.Proofs.YtpaoaobmaimibaaGreatDoor.fnAnyTxnMetadataValue
theorem goes : false = Rows.fnAnyTxnMetadataValueRow.goesBy Tryz.pinned.checked.prog := by kernel_rfl
end Go.Proofs.YtpaoaobmaimibaaGreatDoor.fnAnyTxnMetadataValue
