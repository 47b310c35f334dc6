/- The seat's program passes the tests of what the laws that read rest on; sort.Slice's closure is laid; the listed error. No condition. -/
import Derived.Test.YtffglmphlpofbaaDoorProg
import Derived.Test.YtffglmphlpofbaaDoorRows
import Derived.Test.YtffglmphlpofbaaDoorKxN
import Derived.KernelRfl
import Derived.MakeChecks
import Derived.LaidLaws
import Derived.Deep.DeepHandedRow
import Derived.Laws.Externs
import Derived.Shelf.Abstract
import Derived.ProofKit
namespace Go.Proofs.YtffglmphlpofbaaDoor
open Go.Kx Go.Shelf Go.RowKit
set_option maxRecDepth 100000
def seatT : IT := { u8 := 5, u8s := 22, i8 := 46, i16 := 68, u16 := 27, i32 := 21, u32 := 110, i64 := 2, u64 := 176, int := 3, str := 9, bool := 4 }
def seatK : KB := { T := seatT, tP := 0, tA := 121, i8 := 0, u16 := 110, i16 := 63, u32 := 111, i32 := 64, u64 := 120, i64 := 74, bool := 0, uuid := 67, l32 := 145, uvl := 112, uv := 68, str := 73, cstr := 0, nstr := 0, cnstr := 0, byt := 0, cbyt := 0, nbyt := 0, cnbyt := 0, alen := 66, calen := 65, nalen := 0, cnalen := 0, f64 := 0, ffb := 0 }
def seatG : TN := { tSt := 72, tMap := 70, fLen := 69, fTeach := 70, fEach := 113, fCb := 114 }
def seatS : SN := { T := seatT, fds := 30, fd := 66, trs := 23, tr := 26, tgs := 24, tg := 112, msg := 32, fSame := 14, fVer := 0, fWrite := 33, fDflt := 0, fPart := 60, fHas := 93, fField := 94, fAt := 95, fKnown := 96, fUsual := 97, fUvar := 98, fUnk := 99, fWhole := 100, fNull := 135, fThings := 136, fCounted := 137, fValue := 138, fFixed := 32, fWidth := 139 }
def seatR : RN := { T := seatT, tA := 121, tR := 179, tBE := 221, gBE := 0, gErr := 1, tErr := 77, be16 := 140, be32 := 141, be64 := 171, uvd := 165, span := 143, uv := 142, i8 := 125, i16 := 101, u16 := 0, i32 := 102, i64 := 117, r64 := 149, bool := 0, str := 116, cstr := 0, nstr := 0, cnstr := 0, byt := 0, cbyt := 0, nbyt := 126, cnbyt := 0, uuid := 108, alen := 104, calen := 103, compl := 106, okf := 105, f64 := 0, ffr := 0 }
def seatTG : TG := { tSt := 72, tMap := 70, fSet := 144, fRead := 109 }
def seatE : EN := { tSt := 72, tMap := 70, tKs := 225, tU32 := 110, tInt := 3, fLess := 147, fSort := 146, fCb := 114 }
def seatZ : FTN := { f2 := 8, f3 := 31, f4 := 59 }
theorem seatAOk : (seatAB Tryd.prog seatK seatG seatS seatR seatTG seatE).all id = true := by kernel_rfl
theorem argOk : ArgOk Tryd.prog seatS := arg_of (by kernel_rfl)
def sl6_ren : Go.Shelf.Ren := ⟨fun | 6 => 146 | 10 => 166 | 11 => 167 | 12 => 168 | 13 => 169 | 14 => 170 | 24 => 145 | 25 => 200 | 26 => 201 | 27 => 202 | 28 => 203 | 29 => 204 | 30 => 205 | 31 => 206 | 32 => 207 | 33 => 208 | 34 => 220 | 35 => 221 | 36 => 222 | 37 => 223 | 38 => 224 | 39 => 230 | n => n, fun | 20 => 20 | 26 => 227 | 35 => 252 | 0 => 0 | 37 => 254 | 3 => 3 | 41 => 143 | 44 => 259 | 49 => 110 | 51 => 176 | 4 => 4 | 54 => 277 | 53 => 276 | 58 => 40 | 5 => 5 | 9 => 9 | 60 => 299 | 64 => 302 | 66 => 314 | 67 => 315 | 17 => 17 | 32 => 249 | 33 => 250 | 82 => 332 | 12 => 12 | 75 => 326 | 76 => 327 | 77 => 328 | 78 => 266 | 79 => 329 | 80 => 330 | n => n, fun n => n⟩
theorem sl6 : LaysGg.n6 Tryd.prog sl6_ren := {
  mixed := by kernel_rfl,
  f6 := Tryd.func146.trans (congrArg some (by kernel_rfl)),
  f10 := Tryd.func166.trans (congrArg some (by kernel_rfl)),
  f11 := Tryd.func167.trans (congrArg some (by kernel_rfl)),
  f12 := Tryd.func168.trans (congrArg some (by kernel_rfl)),
  f13 := Tryd.func169.trans (congrArg some (by kernel_rfl)),
  f14 := Tryd.func170.trans (congrArg some (by kernel_rfl)),
  f24 := Tryd.func145.trans (congrArg some (by kernel_rfl)),
  f25 := Tryd.func200.trans (congrArg some (by kernel_rfl)),
  f26 := Tryd.func201.trans (congrArg some (by kernel_rfl)),
  f27 := Tryd.func202.trans (congrArg some (by kernel_rfl)),
  f28 := Tryd.func203.trans (congrArg some (by kernel_rfl)),
  f29 := Tryd.func204.trans (congrArg some (by kernel_rfl)),
  f30 := Tryd.func205.trans (congrArg some (by kernel_rfl)),
  f31 := Tryd.func206.trans (congrArg some (by kernel_rfl)),
  f32 := Tryd.func207.trans (congrArg some (by kernel_rfl)),
  f33 := Tryd.func208.trans (congrArg some (by kernel_rfl)),
  f34 := Tryd.func220.trans (congrArg some (by kernel_rfl)),
  f35 := Tryd.func221.trans (congrArg some (by kernel_rfl)),
  f36 := Tryd.func222.trans (congrArg some (by kernel_rfl)),
  f37 := Tryd.func223.trans (congrArg some (by kernel_rfl)),
  f38 := Tryd.func224.trans (congrArg some (by kernel_rfl)),
  f39 := Tryd.func230.trans (congrArg some (by kernel_rfl)),
  t0 := Tryd.underlying0,
  a0 := Tryd.isAgg0,
  z0 := Tryd.sizeOf0,
  v0 := Tryd.zeroValue0,
  i0 := by kernel_rfl,
  t3 := Tryd.underlying3,
  a3 := Tryd.isAgg3,
  z3 := Tryd.sizeOf3,
  v3 := Tryd.zeroValue3,
  i3 := by kernel_rfl,
  t4 := Tryd.underlying4,
  a4 := Tryd.isAgg4,
  z4 := Tryd.sizeOf4,
  v4 := Tryd.zeroValue4,
  i4 := by kernel_rfl,
  t5 := Tryd.underlying5,
  a5 := Tryd.isAgg5,
  z5 := Tryd.sizeOf5,
  v5 := Tryd.zeroValue5,
  i5 := by kernel_rfl,
  t9 := Tryd.underlying9,
  a9 := Tryd.isAgg9,
  z9 := Tryd.sizeOf9,
  v9 := Tryd.zeroValue9,
  i9 := by kernel_rfl,
  t12 := Tryd.underlying12,
  a12 := Tryd.isAgg12,
  z12 := Tryd.sizeOf12,
  v12 := Tryd.zeroValue12,
  i12 := by kernel_rfl,
  t17 := Tryd.underlying17,
  a17 := Tryd.isAgg17,
  z17 := Tryd.sizeOf17,
  v17 := Tryd.zeroValue17,
  i17 := by kernel_rfl,
  t20 := Tryd.underlying20,
  a20 := Tryd.isAgg20,
  z20 := Tryd.sizeOf20,
  v20 := Tryd.zeroValue20,
  i20 := by kernel_rfl,
  t26 := Tryd.underlying227,
  a26 := Tryd.isAgg227,
  z26 := Tryd.sizeOf227,
  v26 := Tryd.zeroValue227,
  i26 := by kernel_rfl,
  t32 := Tryd.underlying249,
  a32 := Tryd.isAgg249,
  z32 := Tryd.sizeOf249,
  v32 := Tryd.zeroValue249,
  i32 := by kernel_rfl,
  t33 := Tryd.underlying250,
  a33 := Tryd.isAgg250,
  z33 := Tryd.sizeOf250,
  v33 := Tryd.zeroValue250,
  i33 := by kernel_rfl,
  t35 := Tryd.underlying252,
  a35 := Tryd.isAgg252,
  z35 := Tryd.sizeOf252,
  v35 := Tryd.zeroValue252,
  i35 := by kernel_rfl,
  t37 := Tryd.underlying254,
  a37 := Tryd.isAgg254,
  z37 := Tryd.sizeOf254,
  v37 := Tryd.zeroValue254,
  i37 := by kernel_rfl,
  t41 := Tryd.underlying143,
  a41 := Tryd.isAgg143,
  z41 := Tryd.sizeOf143,
  v41 := Tryd.zeroValue143,
  i41 := by kernel_rfl,
  t44 := Tryd.underlying259,
  a44 := Tryd.isAgg259,
  z44 := Tryd.sizeOf259,
  v44 := Tryd.zeroValue259,
  i44 := by kernel_rfl,
  t49 := Tryd.underlying110,
  a49 := Tryd.isAgg110,
  z49 := Tryd.sizeOf110,
  v49 := Tryd.zeroValue110,
  i49 := by kernel_rfl,
  t51 := Tryd.underlying176,
  a51 := Tryd.isAgg176,
  z51 := Tryd.sizeOf176,
  v51 := Tryd.zeroValue176,
  i51 := by kernel_rfl,
  t53 := Tryd.underlying276,
  a53 := Tryd.isAgg276,
  z53 := Tryd.sizeOf276,
  v53 := Tryd.zeroValue276,
  i53 := by kernel_rfl,
  t54 := Tryd.underlying277,
  a54 := Tryd.isAgg277,
  z54 := Tryd.sizeOf277,
  v54 := Tryd.zeroValue277,
  i54 := by kernel_rfl,
  t58 := Tryd.underlying40,
  a58 := Tryd.isAgg40,
  z58 := Tryd.sizeOf40,
  v58 := Tryd.zeroValue40,
  i58 := by kernel_rfl,
  t60 := Tryd.underlying299,
  a60 := Tryd.isAgg299,
  z60 := Tryd.sizeOf299,
  v60 := Tryd.zeroValue299,
  i60 := by kernel_rfl,
  t64 := Tryd.underlying302,
  a64 := Tryd.isAgg302,
  z64 := Tryd.sizeOf302,
  v64 := Tryd.zeroValue302,
  i64 := by kernel_rfl,
  t66 := Tryd.underlying314,
  a66 := Tryd.isAgg314,
  z66 := Tryd.sizeOf314,
  v66 := Tryd.zeroValue314,
  i66 := by kernel_rfl,
  t67 := Tryd.underlying315,
  a67 := Tryd.isAgg315,
  z67 := Tryd.sizeOf315,
  v67 := Tryd.zeroValue315,
  i67 := by kernel_rfl,
  t75 := Tryd.underlying326,
  a75 := Tryd.isAgg326,
  z75 := Tryd.sizeOf326,
  v75 := Tryd.zeroValue326,
  i75 := by kernel_rfl,
  t76 := Tryd.underlying327,
  a76 := Tryd.isAgg327,
  z76 := Tryd.sizeOf327,
  v76 := Tryd.zeroValue327,
  i76 := by kernel_rfl,
  t77 := Tryd.underlying328,
  a77 := Tryd.isAgg328,
  z77 := Tryd.sizeOf328,
  v77 := Tryd.zeroValue328,
  i77 := by kernel_rfl,
  t78 := Tryd.underlying266,
  a78 := Tryd.isAgg266,
  z78 := Tryd.sizeOf266,
  v78 := Tryd.zeroValue266,
  i78 := by kernel_rfl,
  t79 := Tryd.underlying329,
  a79 := Tryd.isAgg329,
  z79 := Tryd.sizeOf329,
  v79 := Tryd.zeroValue329,
  i79 := by kernel_rfl,
  t80 := Tryd.underlying330,
  a80 := Tryd.isAgg330,
  z80 := Tryd.sizeOf330,
  v80 := Tryd.zeroValue330,
  i80 := by kernel_rfl,
  t82 := Tryd.underlying332,
  a82 := Tryd.isAgg332,
  z82 := Tryd.sizeOf332,
  v82 := Tryd.zeroValue332,
  i82 := by kernel_rfl }
noncomputable def siT : TypeInfo := (Tryd.prog.info? 225).get (by kernel_rfl)
noncomputable def siE : TypeInfo := (Tryd.prog.info? 110).get (by kernel_rfl)
theorem siK (n : Nat) (h2 : 2 ≤ n) : Go.Lib.swapperK n siE 10 = 6 := by
  have a : siE.hasPointers = false := by kernel_rfl
  have b : siE.bytes = 4 := by kernel_rfl
  have c : (n == 0) = false := by simp; omega
  have d : (n == 1) = false := by simp; omega
  simp [Go.Lib.swapperK, a, b, c, d]
theorem sortOk : SortC Tryd.prog seatE.tKs seatE.tU32 seatE.fSort seatE.fLess :=
  sort_ok (K := seatE) (T := seatT) (teA_of seatAOk) rfl rfl (by kernel_rfl) (FnIs.of (by kernel_rfl)) (by kernel_rfl)
    (fun lb blk off c d h2 hsz w hless hH hblk => Any.sort_Slice_sorted sl6 225 110 siT siE (by kernel_rfl) (by kernel_rfl) (by kernel_rfl) (by kernel_rfl) 10 (fun _ => by kernel_rfl) (by kernel_rfl) (fun _ => by kernel_rfl) u32V (fun _ => rfl) (fun a b : Nat => decide (a < b)) swo_nat 147 lb
      (enters_of Tryd.func147 (by kernel_rfl) rfl) blk off c d h2 hsz 196 (by rw [siK _ h2]; kernel_rfl) true
      (fun args W => run_callFunc_extern Tryd.func196 (by kernel_rfl) (by kernel_rfl) (by kernel_rfl) (e := Extern.ReflectliteSwapper.swap true) (by kernel_rfl) args W) w hless hH hblk)
    (fun p n c h1 lf la lb w => Any.sort_Slice_tiny sl6 225 110 siT siE (by kernel_rfl) (by kernel_rfl) (by kernel_rfl) (by kernel_rfl) 10 (fun _ => by kernel_rfl) p n c h1 (191 + n) (by
      rcases Nat.eq_zero_or_pos n with h | h
      · subst h; kernel_rfl
      · obtain rfl : n = 1 := by omega
        kernel_rfl) lf la lb w)
theorem fl : FlOk Tryd.prog seatK seatR := fl_none rfl rfl
theorem seatA : SeatA Tryd.prog seatK seatG seatS seatR seatTG := seatA_of seatAOk sortOk fl
theorem seatOk : (seatB Tryd.prog seatK seatG seatS).all id = true := by kernel_rfl
theorem seat2Ok : (seat2B Tryd.prog seatK seatG seatS seatR seatTG seatE seatZ).all id = true := by kernel_rfl
theorem tree : TreeOk Tryd.prog seatS := tree_of (by kernel_rfl)
theorem seat2 : Seat2 Tryd.prog seatK seatG seatS seatR seatTG seatE seatZ := seat2_of seatOk seat2Ok sortOk fl
/-- What the row's list gives: the variable holds an error. -/
theorem err {W : World} (h : laidMetH Tryd.prog [("pub-kmsg/pub/kmsg/inner/kbin.ErrNotEnoughData", Rows.laid_pub_kmsg_pub_kmsg_inner_kbin_ErrNotEnoughData)] W) : ∃ ev, W.cell? ⟨seatR.gErr, 0, none⟩ = some ev ∧ isErr ev := by
  rw [MakeChecks.laidMetH_plain _ _ _ (by kernel_rfl)] at h
  exact laid_err (t := 77) (by kernel_rfl) (by kernel_rfl) (by kernel_rfl) h
/-- A world that meets the row's list: the error as its initialiser lays it. -/
noncomputable def low : Nat := (World.holding Tryd.prog default ⟨#[], #[], []⟩).heap.size
abbrev errS : ByteArray := { data := #[114, 101, 115, 112, 111, 110, 115, 101, 32, 100, 105, 100, 32, 110, 111, 116, 32, 99, 111, 110, 116, 97, 105, 110, 32, 101, 110, 111, 117, 103, 104, 32, 100, 97, 116, 97, 32, 116, 111, 32, 98, 101, 32, 118, 97, 108, 105, 100] }
noncomputable def laidWorld (os : Os) : World :=
  let w0 := World.holding Tryd.prog os ⟨#[.cells #[.string errS] 196], #[], []⟩
  { w0 with heap := w0.heap.modify 1 fun
      | .cells _ t frozen => .cells #[.iface 194 (.pointer (some ⟨low, 0, none⟩))] t frozen
      | o => o }
theorem laid_met (os : Os) (args : Array Value) : laidMet Tryd.prog [("pub-kmsg/pub/kmsg/inner/kbin.ErrNotEnoughData", Rows.laid_pub_kmsg_pub_kmsg_inner_kbin_ErrNotEnoughData)] ((laidWorld os).forCall (fun _ _ => 0) ⟨#[], args, []⟩).memory :=
  laidMet_of_run (ps := [.cell 1 0, .cell low 0]) 8 (by kernel_rfl) (by kernel_rfl) (by kernel_rfl)
theorem own : ownKnob Tryd.prog.godebug = none := by kernel_rfl
theorem bulkOk (H : Type) : BulkOk (H := H) Rows.uptoBulk Rows.uptoBulkAll := {
  one := fun d => by
    cases d with
    | lit l => cases l <;> simp [Rows.uptoBulk]
    | nil => simp [Rows.uptoBulk]
    | ptr d => simp [Rows.uptoBulk]
    | slice e s => simp [Rows.uptoBulk]
    | agg ps => simp [Rows.uptoBulk]
    | iface n d => simp [Rows.uptoBulk]
    | map es => simp [Rows.uptoBulk]
    | held h => simp [Rows.uptoBulk]
  slice := fun e s => by simp only [Rows.uptoBulk]; omega
  agg := fun ps => by simp only [Rows.uptoBulk]; omega
  cons := fun d l => by simp only [Rows.uptoBulkAll]; omega }
end Go.Proofs.YtffglmphlpofbaaDoor
