/- awakeRecords says true: reckoned by the small machine, whose tables are the program's. No condition. -/
import Derived.Test.YtnodcmiaipbjiaaDoorProg
import Derived.Test.YtnodcmiaipbjiaaDoorTab
import Derived.KernelRfl
namespace Go.Proofs.YtnodcmiaipbjiaaDoor
open Go.Kx
set_option maxRecDepth 100000
theorem awK : tkB Tryd.prog zK = true := by kernel_rfl
theorem awF : (zFns.all (feB Tryd.prog)) = true := by kernel_rfl
theorem awR : isTrueR (callF zK zFns (evC zK zFns 300) (fun _ => false) [] 15 []) = true := by kernel_rfl
theorem awake : TrueC Tryd.prog 15 := true_known (tkB_ok awK) (by kernel_rfl) awF awR
end Go.Proofs.YtnodcmiaipbjiaaDoor
