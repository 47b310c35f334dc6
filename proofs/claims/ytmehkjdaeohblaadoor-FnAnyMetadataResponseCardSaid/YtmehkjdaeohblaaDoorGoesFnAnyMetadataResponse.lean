/- The row of the law FnAnyMetadataResponse: the call starts no goroutine. No condition. -/
import Derived.Test.YtmehkjdaeohblaaDoorTie
import Derived.KernelRfl
namespace Go.Proofs.YtmehkjdaeohblaaDoor.fnAnyMetadataResponse
theorem goes : false = Rows.fnAnyMetadataResponseRow.goesBy Tryd.pinned.checked.prog := by kernel_rfl
end Go.Proofs.YtmehkjdaeohblaaDoor.fnAnyMetadataResponse
