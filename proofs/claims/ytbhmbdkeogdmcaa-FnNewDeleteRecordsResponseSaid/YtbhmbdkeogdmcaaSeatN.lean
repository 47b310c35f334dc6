/- The seat's program passes the test of what the laws FnNew.. rest on. No condition. -/
import Derived.Test.YtbhmbdkeogdmcaaProg
import Derived.Test.YtbhmbdkeogdmcaaKxG
import Derived.KernelRfl
namespace Go.Proofs.Ytbhmbdkeogdmcaa
open Go.Kx
def seatT : IT := { u8 := 5, u8s := 28, i8 := 100, i16 := 38, u16 := 186, i32 := 21, u32 := 84, i64 := 2, u64 := 91, int := 3, str := 9, bool := 4 }
def seatK : KB := { T := seatT, tP := 166, tA := 110, i8 := 159, u16 := 189, i16 := 143, u32 := 196, i32 := 142, u64 := 206, i64 := 174, bool := 179, uuid := 169, l32 := 212, uvl := 197, uv := 144, str := 168, cstr := 167, nstr := 186, cnstr := 185, byt := 162, cbyt := 161, nbyt := 164, cnbyt := 163, alen := 158, calen := 157, nalen := 178, cnalen := 177 }
def seatG : TN := { tSt := 78, tMap := 76, fLen := 145, fTeach := 146, fEach := 198, fCb := 199 }
def seatS : SN := { T := seatT, fds := 23, fd := 43, trs := 32, tr := 35, tgs := 33, tg := 94, msg := 25, fSame := 20, fVer := 22, fWrite := 23, fDflt := 24, fPart := 71, fHas := 147, fField := 148, fAt := 149, fKnown := 150, fUsual := 151, fUvar := 152, fUnk := 153, fWhole := 154, fNull := 200, fThings := 201, fCounted := 202, fValue := 203, fFixed := 204, fWidth := 205 }
theorem seatOk : (seatB Try.prog seatK seatG seatS).all id = true := by kernel_rfl
theorem seat : Seat Try.prog seatK seatG seatS := seat_of seatOk
end Go.Proofs.Ytbhmbdkeogdmcaa
