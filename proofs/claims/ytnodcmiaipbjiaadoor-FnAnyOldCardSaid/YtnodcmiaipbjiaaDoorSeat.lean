/- The contracts of the law's functions, of the seat's program. No condition. -/
import Derived.Test.YtnodcmiaipbjiaaDoorProg
import Derived.Test.YtnodcmiaipbjiaaDoorAw
import Derived.KernelRfl
namespace Go.Proofs.YtnodcmiaipbjiaaDoor
open Go.Kx Go.RowKit
set_option maxRecDepth 100000
def sT : IT := { u8 := 5, u8s := 22, i8 := 24, i16 := 76, u16 := 130, i32 := 21, u32 := 111, i64 := 2, u64 := 109, int := 3, str := 9, bool := 4 }
def sO : ON := { T := sT, tRd := 46, tOc := 26, tOld := 28, fFail := 21, fTake := 20, fFix := 13, fOct := 14, fFixed := 32, fFxO := 33, fOldB := 17, fSame := 16, fOwn := 10, fOcts := 11 }
def sR : RN := { T := sT, tA := 0, tR := 86, tBE := 113, gBE := 0, gErr := 1, tErr := 38, be16 := 75, be32 := 49, be64 := 57, uvd := 0, span := 50, uv := 0, i8 := 37, i16 := 0, u16 := 0, i32 := 36, i64 := 35, r64 := 48, bool := 0, str := 0, cstr := 0, nstr := 0, cnstr := 0, byt := 0, cbyt := 0, nbyt := 38, cnbyt := 0, uuid := 0, alen := 0, calen := 0, compl := 39, okf := 0 }
def sM0 : MN := { T := 36, fl := [(.i64, 2), (.i32, 21), (.i32, 21), (.i8, 24), (.i8, 24), (.nbyt, 22), (.nbyt, 22)], fDef := 34, fRd := 18, fRF := 9 }
def sM1 : MN := { T := 43, fl := [(.i64, 2), (.i32, 21), (.i32, 21), (.i8, 24), (.i8, 24), (.i64, 2), (.nbyt, 22), (.nbyt, 22)], fDef := 40, fRd := 19, fRF := 12 }
def sZ0 : List MVal := [.int .i64 0, .int .i32 0, .int .i32 0, .int .i8 0, .int .i8 0, .nslice, .nslice]
def sZ1 : List MVal := [.int .i64 0, .int .i32 0, .int .i32 0, .int .i8 0, .int .i8 0, .int .i64 0, .nslice, .nslice]
def sL : LN := { fJ := 7, fAw := 15, fRO := 6, fT0 := 4, fT1 := 5, fSO := 8 }
def sS : SN := { T := sT, fds := 0, fd := 0, trs := 0, tr := 0, tgs := 0, tg := 0, msg := 0, fSame := 16, fVer := 0, fWrite := 0, fDflt := 0, fPart := 0, fHas := 0, fField := 0, fAt := 0, fKnown := 0, fUsual := 0, fUvar := 0, fUnk := 0, fWhole := 0, fNull := 0, fThings := 0, fCounted := 0, fValue := 0, fFixed := 32, fWidth := 0 }
theorem sMo : Tryd.prog.follows .mixedOrders = true := by kernel_rfl
theorem sTok : TOK Tryd.prog sT := tok_of (by kernel_rfl)
theorem sOk1 : OOK Tryd.prog sO := ⟨sTok, sMo, by kernel_rfl, by kernel_rfl, by kernel_rfl, by kernel_rfl, by kernel_rfl, by kernel_rfl, by kernel_rfl, by kernel_rfl, by kernel_rfl, by kernel_rfl⟩
theorem sOk2 : OOK2 Tryd.prog sO := ⟨sOk1, zeroIs_of (z := [.bool false, .nslice]) (by kernel_rfl), by kernel_rfl, by kernel_rfl, by kernel_rfl⟩
theorem sFs : ((List.range 7).all fun j => fieldAtB Tryd.prog sO.tOld j j) = true := by kernel_rfl
theorem sOk3 : OOK3 Tryd.prog sO := ⟨sOk2, by kernel_rfl, by kernel_rfl, by kernel_rfl, by kernel_rfl, fun i hi => List.all_eq_true.1 sFs i (List.mem_range.2 (by omega)), by kernel_rfl, by kernel_rfl, by kernel_rfl⟩
theorem sOk4 : OOK4 Tryd.prog sO := ⟨sOk3, zeroIs_of (z := zOldM) (by kernel_rfl), zeroIs_of (z := [.nslice, .int .i64 0, .int .i64 0]) (by kernel_rfl), by kernel_rfl⟩
theorem sFail : FailC Tryd.prog sO.fFail := spFail_ok sOk1 (FnIs0.of (by kernel_rfl))
theorem sTake : TakeC Tryd.prog sO.fTake := spTake_ok sOk1 sFail (FnIs.of (by kernel_rfl))
theorem sFix : FixC Tryd.prog sO.fFix := spFix_ok sOk1 sTake (FnIs.of (by kernel_rfl))
theorem sOcts : OctsC Tryd.prog sO.fOct := octs_ok sOk2 sFail sTake (FnIsC.of (by kernel_rfl))
theorem sRO : ReadOldC Tryd.prog sL.fRO := readOld_ok sOk4 sFix sOcts (FnIsM.of (by kernel_rfl))
theorem sOwn : OwnC Tryd.prog sO.T.u8 sO.fOwn := own_ok sOk1 (FnIs.of (by kernel_rfl))
theorem sOc : OcsC Tryd.prog sO.fOcts := octets_ok sOk2 (FnIsC.of (by kernel_rfl))
theorem sMok : MOK Tryd.prog sR := mok_of (by kernel_rfl)
theorem sM0ok : MMK Tryd.prog sR sM0 := ⟨sMok, fun x hx => by
    have h : (sM0.fl.all fun x => msgK x.1 && cellsB Tryd.prog x.2 1) = true := by kernel_rfl
    simpa using List.all_eq_true.1 h x hx, fun j hj => by
    have h : ((List.range 7).all fun j => fieldAtB Tryd.prog sM0.T j j) = true := by kernel_rfl
    exact List.all_eq_true.1 h j (List.mem_range.2 hj), zeroIs_of (z := [.nslice, .bool false]) (by kernel_rfl), by kernel_rfl, by kernel_rfl, FnIs0.of (by kernel_rfl)⟩
theorem sM1ok : MMK Tryd.prog sR sM1 := ⟨sMok, fun x hx => by
    have h : (sM1.fl.all fun x => msgK x.1 && cellsB Tryd.prog x.2 1) = true := by kernel_rfl
    simpa using List.all_eq_true.1 h x hx, fun j hj => by
    have h : ((List.range 8).all fun j => fieldAtB Tryd.prog sM1.T j j) = true := by kernel_rfl
    exact List.all_eq_true.1 h j (List.mem_range.2 hj), zeroIs_of (z := [.nslice, .bool false]) (by kernel_rfl), by kernel_rfl, by kernel_rfl, FnIs0.of (by kernel_rfl)⟩
theorem sRF0 : MReadC Tryd.prog sR sM0 sM0.fRF [] := mrf_ok (mread_ok sM0ok (FnIs.of (by kernel_rfl))) (FnIs.of (by kernel_rfl))
theorem sRF1 : MReadC Tryd.prog sR sM1 sM1.fRF [] := mrf_ok (mread_ok sM1ok (FnIs.of (by kernel_rfl))) (FnIs.of (by kernel_rfl))
theorem sTl0 : TLK Tryd.prog zK sR sO sM0 sZ0 := { tk := tkB_ok awK, row := by rfl, m := sM0ok, rf := sRF0, own := sOwn, oc := sOc, mz := zeroIs_of (by kernel_rfl), zl := rfl, mo := sMo, ie := by kernel_rfl, p64 := by kernel_rfl, p32 := by kernel_rfl, p8 := by kernel_rfl, ps := by kernel_rfl, n7 := by decide }
theorem sTl1 : TLK Tryd.prog zK sR sO sM1 sZ1 := { tk := tkB_ok awK, row := by rfl, m := sM1ok, rf := sRF1, own := sOwn, oc := sOc, mz := zeroIs_of (by kernel_rfl), zl := rfl, mo := sMo, ie := by kernel_rfl, p64 := by kernel_rfl, p32 := by kernel_rfl, p8 := by kernel_rfl, ps := by kernel_rfl, n7 := by decide }
theorem sT0 : TellC Tryd.prog sR false sL.fT0 := tell_ok sTl0 (v1 := false) (G := tellG0 sM0 sO) (N := 27) rfl (by omega) (fun h1 h2 h3 h4 h5 h6 h7 h8 h9 h10 => tellG0_ok (st := none) (l := []) sTl0 rfl h1 h2 h3 h4 h5 h6 h7 h8 h9 h10) (FnIsM.of (by kernel_rfl))
theorem sT1 : TellC Tryd.prog sR true sL.fT1 := tell_ok sTl1 (v1 := true) (G := tellG1 sM1 sO) (N := 29) rfl (by omega) (fun h1 h2 h3 h4 h5 h6 h7 h8 h9 h10 => tellG1_ok (st := none) (l := []) sTl1 rfl h1 h2 h3 h4 h5 h6 h7 h8 h9 h10) (FnIsM.of (by kernel_rfl))
theorem sFixed : FixedC Tryd.prog sO.T.u8 sO.fFixed := fixed_ok (S := sS) sTok (by decide) (FnIs.of (by kernel_rfl))
theorem sSame : SameC Tryd.prog sO.fSame := same_ok (S := sS) ⟨sTok, sMo, by kernel_rfl⟩ (FnIs.of (by kernel_rfl))
theorem sOBK : OBK Tryd.prog sO := ⟨sOk4, by kernel_rfl, sFixed, by kernel_rfl, by kernel_rfl, by kernel_rfl, by kernel_rfl, by kernel_rfl, by kernel_rfl, by decide⟩
theorem sFxO : FxOC Tryd.prog sO.T.u8 sO.fFxO := fxo_ok sOBK (FnIs.of (by kernel_rfl))
theorem sOldB : OldBC Tryd.prog sO.T.u8 sO.fOldB := oldB_ok sOBK sFxO (FnIs.of (by kernel_rfl))
theorem sSO : SameOldC Tryd.prog sL.fSO := sameOld_ok sOBK sOldB sSame (FnIs.of (by kernel_rfl))
theorem sJ : JudgedC Tryd.prog sL.fJ := judged_ok (O := sO) (L := sL) sOk1 awake (FnIs.of (by kernel_rfl))
theorem sLaw (w : World) (ad : Option Addr) (l : List UInt8) (c : Nat) (one : Bool) (ev : Value) (had : okA l.length ad) (hlc : l.length ≤ c) (hby : BytesAt w (fun _ => True) ad l) (hev : w.cell? ⟨sR.gErr, 0, none⟩ = some ev) (herr : isErr ev) :
    Calls Tryd.prog 3 #[.slice ad l.length c, .bool one] w (fun e w' => e = .returned (.bool true) ∧ Below w.heap.size w w') :=
  law_old (R := sR) (O := sO) (L := sL) sOk4 rfl sRO sT0 sT1 sSO sJ (FnIs.of (by kernel_rfl)) w ad l c one ev had hlc hby hev herr
end Go.Proofs.YtnodcmiaipbjiaaDoor
