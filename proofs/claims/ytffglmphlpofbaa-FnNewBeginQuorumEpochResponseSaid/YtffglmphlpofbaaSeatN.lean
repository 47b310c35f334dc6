/- The seat's program passes the test of what the laws FnNew.. rest on. No condition. -/
import Derived.Test.YtffglmphlpofbaaProg
import Derived.Test.YtffglmphlpofbaaKxL
import Derived.KernelRfl
namespace Go.Proofs.Ytffglmphlpofbaa
open Go.Kx
def seatT : IT := { u8 := 5, u8s := 28, i8 := 0, i16 := 38, u16 := 88, i32 := 21, u32 := 62, i64 := 2, u64 := 71, int := 3, str := 9, bool := 4 }
def seatK : KB := { T := seatT, tP := 0, tA := 0, i8 := 0, u16 := 50, i16 := 29, u32 := 51, i32 := 28, u64 := 0, i64 := 0, bool := 0, uuid := 0, l32 := 62, uvl := 53, uv := 33, str := 36, cstr := 35, nstr := 0, cnstr := 0, byt := 0, cbyt := 0, nbyt := 0, cnbyt := 0, alen := 49, calen := 48, nalen := 0, cnalen := 0 }
def seatG : TN := { tSt := 52, tMap := 50, fLen := 34, fTeach := 37, fEach := 54, fCb := 55 }
def seatS : SN := { T := seatT, fds := 23, fd := 43, trs := 32, tr := 35, tgs := 33, tg := 74, msg := 25, fSame := 7, fVer := 9, fWrite := 10, fDflt := 11, fPart := 20, fHas := 38, fField := 39, fAt := 40, fKnown := 41, fUsual := 42, fUvar := 43, fUnk := 44, fWhole := 45, fNull := 56, fThings := 57, fCounted := 58, fValue := 59, fFixed := 60, fWidth := 61 }
theorem seatOk : (seatB Try.prog seatK seatG seatS).all id = true := by kernel_rfl
theorem seat : Seat Try.prog seatK seatG seatS := seat_of seatOk (f64w_none rfl)
end Go.Proofs.Ytffglmphlpofbaa
