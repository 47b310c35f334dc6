/- The seat's program passes the tests of what the laws that read rest on; sort.Slice's closure is laid; the listed error. No condition. -/
import Derived.Test.YtnodcmiaipbjiaaGreatDoorProg
import Derived.Test.YtnodcmiaipbjiaaGreatDoorRows
import Derived.Test.YtnodcmiaipbjiaaGreatDoorKxN
import Derived.KernelRfl
import Derived.MakeChecks
import Derived.LaidLaws
import Derived.Deep.DeepHandedRow
import Derived.Laws.Externs
import Derived.Shelf.Abstract
import Derived.ProofKit
namespace Go.Proofs.YtnodcmiaipbjiaaGreatDoor
open Go.Kx Go.Shelf Go.RowKit
set_option maxRecDepth 100000
def seatT : IT := { u8 := 5, u8s := 22, i8 := 0, i16 := 40, u16 := 27, i32 := 21, u32 := 53, i64 := 2, u64 := 70, int := 3, str := 9, bool := 4 }
def seatK : KB := { T := seatT, tP := 0, tA := 0, i8 := 0, u16 := 46, i16 := 32, u32 := 78, i32 := 31, u64 := 79, i64 := 37, bool := 0, uuid := 0, l32 := 89, uvl := 80, uv := 38, str := 36, cstr := 35, nstr := 0, cnstr := 0, byt := 42, cbyt := 41, nbyt := 0, cnbyt := 0, alen := 34, calen := 33, nalen := 0, cnalen := 0, f64 := 0, ffb := 0 }
def seatG : TN := { tSt := 61, tMap := 59, tKs := 92, fLen := 39, fTeach := 40, fEach := 81, fCb := 82, zNew := 44, zSame := 43 }
def seatS : SN := { T := seatT, fds := 31, fd := 46, trs := 23, tr := 26, tgs := 24, tg := 55, msg := 33, fSame := 52, fVer := 8, fWrite := 6, fDflt := 0, fPart := 13, fHas := 21, fField := 22, fAt := 23, fKnown := 24, fUsual := 25, fUvar := 26, fUnk := 27, fWhole := 28, fNull := 47, fThings := 48, fCounted := 49, fValue := 50, fFixed := 51, fWidth := 53 }
def seatR : RN := { T := seatT, tA := 0, tR := 108, tBE := 128, gBE := 0, gErr := 1, tErr := 50, be16 := 85, be32 := 84, be64 := 92, uvd := 88, span := 75, uv := 73, i8 := 0, i16 := 57, u16 := 77, i32 := 56, i64 := 69, r64 := 87, bool := 0, str := 66, cstr := 65, nstr := 0, cnstr := 0, byt := 72, cbyt := 71, nbyt := 0, cnbyt := 0, uuid := 0, alen := 59, calen := 58, compl := 61, okf := 60, f64 := 0, ffr := 0 }
def seatTG : TG := { tSt := 61, tMap := 59, fSet := 74, fRead := 70 }
def seatE : EN := { tSt := 61, tMap := 59, tKs := 92, tU32 := 53, tInt := 3, fLess := 91, fSort := 90, fCb := 82 }
def seatZ : FTN := { f2 := 4, f3 := 10, f4 := 19 }
theorem seatOk : (seatB Tryz.prog seatK seatG seatS).all id = true := by kernel_rfl
theorem seat2Ok : (seat2B Tryz.prog seatK seatG seatS seatR seatTG seatE seatZ).all id = true := by kernel_rfl
theorem tree : TreeOk Tryz.prog seatS := tree_of (by kernel_rfl)
theorem zsOk : ZsC Tryz.prog seatG.zNew seatG.zSame := zs_of seatG seatT 85 45 83 (by kernel_rfl)
def sl6_ren : Go.Shelf.Ren := ⟨fun | 6 => 90 | 10 => 93 | 11 => 94 | 12 => 95 | 13 => 96 | 14 => 97 | 24 => 89 | 25 => 107 | 26 => 108 | 27 => 109 | 28 => 110 | 29 => 111 | 30 => 112 | 31 => 113 | 32 => 114 | 33 => 115 | 34 => 116 | 35 => 117 | 36 => 118 | 37 => 119 | 38 => 120 | 39 => 121 | n => n, fun | 20 => 20 | 26 => 136 | 35 => 141 | 0 => 0 | 37 => 143 | 3 => 3 | 41 => 106 | 44 => 148 | 49 => 53 | 51 => 70 | 4 => 4 | 54 => 155 | 53 => 154 | 58 => 159 | 5 => 5 | 9 => 9 | 60 => 161 | 64 => 164 | 66 => 166 | 67 => 167 | 17 => 17 | 32 => 138 | 33 => 139 | 82 => 182 | 12 => 12 | 75 => 175 | 76 => 176 | 77 => 177 | 78 => 178 | 79 => 179 | 80 => 180 | n => n, fun n => n⟩
theorem sl6 : LaysGg.n6 Tryz.prog sl6_ren := {
  mixed := by kernel_rfl,
  f6 := Tryz.func90.trans (congrArg some (by kernel_rfl)),
  f10 := Tryz.func93.trans (congrArg some (by kernel_rfl)),
  f11 := Tryz.func94.trans (congrArg some (by kernel_rfl)),
  f12 := Tryz.func95.trans (congrArg some (by kernel_rfl)),
  f13 := Tryz.func96.trans (congrArg some (by kernel_rfl)),
  f14 := Tryz.func97.trans (congrArg some (by kernel_rfl)),
  f24 := Tryz.func89.trans (congrArg some (by kernel_rfl)),
  f25 := Tryz.func107.trans (congrArg some (by kernel_rfl)),
  f26 := Tryz.func108.trans (congrArg some (by kernel_rfl)),
  f27 := Tryz.func109.trans (congrArg some (by kernel_rfl)),
  f28 := Tryz.func110.trans (congrArg some (by kernel_rfl)),
  f29 := Tryz.func111.trans (congrArg some (by kernel_rfl)),
  f30 := Tryz.func112.trans (congrArg some (by kernel_rfl)),
  f31 := Tryz.func113.trans (congrArg some (by kernel_rfl)),
  f32 := Tryz.func114.trans (congrArg some (by kernel_rfl)),
  f33 := Tryz.func115.trans (congrArg some (by kernel_rfl)),
  f34 := Tryz.func116.trans (congrArg some (by kernel_rfl)),
  f35 := Tryz.func117.trans (congrArg some (by kernel_rfl)),
  f36 := Tryz.func118.trans (congrArg some (by kernel_rfl)),
  f37 := Tryz.func119.trans (congrArg some (by kernel_rfl)),
  f38 := Tryz.func120.trans (congrArg some (by kernel_rfl)),
  f39 := Tryz.func121.trans (congrArg some (by kernel_rfl)),
  t0 := Tryz.underlying0,
  a0 := Tryz.isAgg0,
  z0 := Tryz.sizeOf0,
  v0 := Tryz.zeroValue0,
  i0 := by kernel_rfl,
  t3 := Tryz.underlying3,
  a3 := Tryz.isAgg3,
  z3 := Tryz.sizeOf3,
  v3 := Tryz.zeroValue3,
  i3 := by kernel_rfl,
  t4 := Tryz.underlying4,
  a4 := Tryz.isAgg4,
  z4 := Tryz.sizeOf4,
  v4 := Tryz.zeroValue4,
  i4 := by kernel_rfl,
  t5 := Tryz.underlying5,
  a5 := Tryz.isAgg5,
  z5 := Tryz.sizeOf5,
  v5 := Tryz.zeroValue5,
  i5 := by kernel_rfl,
  t9 := Tryz.underlying9,
  a9 := Tryz.isAgg9,
  z9 := Tryz.sizeOf9,
  v9 := Tryz.zeroValue9,
  i9 := by kernel_rfl,
  t12 := Tryz.underlying12,
  a12 := Tryz.isAgg12,
  z12 := Tryz.sizeOf12,
  v12 := Tryz.zeroValue12,
  i12 := by kernel_rfl,
  t17 := Tryz.underlying17,
  a17 := Tryz.isAgg17,
  z17 := Tryz.sizeOf17,
  v17 := Tryz.zeroValue17,
  i17 := by kernel_rfl,
  t20 := Tryz.underlying20,
  a20 := Tryz.isAgg20,
  z20 := Tryz.sizeOf20,
  v20 := Tryz.zeroValue20,
  i20 := by kernel_rfl,
  t26 := Tryz.underlying136,
  a26 := Tryz.isAgg136,
  z26 := Tryz.sizeOf136,
  v26 := Tryz.zeroValue136,
  i26 := by kernel_rfl,
  t32 := Tryz.underlying138,
  a32 := Tryz.isAgg138,
  z32 := Tryz.sizeOf138,
  v32 := Tryz.zeroValue138,
  i32 := by kernel_rfl,
  t33 := Tryz.underlying139,
  a33 := Tryz.isAgg139,
  z33 := Tryz.sizeOf139,
  v33 := Tryz.zeroValue139,
  i33 := by kernel_rfl,
  t35 := Tryz.underlying141,
  a35 := Tryz.isAgg141,
  z35 := Tryz.sizeOf141,
  v35 := Tryz.zeroValue141,
  i35 := by kernel_rfl,
  t37 := Tryz.underlying143,
  a37 := Tryz.isAgg143,
  z37 := Tryz.sizeOf143,
  v37 := Tryz.zeroValue143,
  i37 := by kernel_rfl,
  t41 := Tryz.underlying106,
  a41 := Tryz.isAgg106,
  z41 := Tryz.sizeOf106,
  v41 := Tryz.zeroValue106,
  i41 := by kernel_rfl,
  t44 := Tryz.underlying148,
  a44 := Tryz.isAgg148,
  z44 := Tryz.sizeOf148,
  v44 := Tryz.zeroValue148,
  i44 := by kernel_rfl,
  t49 := Tryz.underlying53,
  a49 := Tryz.isAgg53,
  z49 := Tryz.sizeOf53,
  v49 := Tryz.zeroValue53,
  i49 := by kernel_rfl,
  t51 := Tryz.underlying70,
  a51 := Tryz.isAgg70,
  z51 := Tryz.sizeOf70,
  v51 := Tryz.zeroValue70,
  i51 := by kernel_rfl,
  t53 := Tryz.underlying154,
  a53 := Tryz.isAgg154,
  z53 := Tryz.sizeOf154,
  v53 := Tryz.zeroValue154,
  i53 := by kernel_rfl,
  t54 := Tryz.underlying155,
  a54 := Tryz.isAgg155,
  z54 := Tryz.sizeOf155,
  v54 := Tryz.zeroValue155,
  i54 := by kernel_rfl,
  t58 := Tryz.underlying159,
  a58 := Tryz.isAgg159,
  z58 := Tryz.sizeOf159,
  v58 := Tryz.zeroValue159,
  i58 := by kernel_rfl,
  t60 := Tryz.underlying161,
  a60 := Tryz.isAgg161,
  z60 := Tryz.sizeOf161,
  v60 := Tryz.zeroValue161,
  i60 := by kernel_rfl,
  t64 := Tryz.underlying164,
  a64 := Tryz.isAgg164,
  z64 := Tryz.sizeOf164,
  v64 := Tryz.zeroValue164,
  i64 := by kernel_rfl,
  t66 := Tryz.underlying166,
  a66 := Tryz.isAgg166,
  z66 := Tryz.sizeOf166,
  v66 := Tryz.zeroValue166,
  i66 := by kernel_rfl,
  t67 := Tryz.underlying167,
  a67 := Tryz.isAgg167,
  z67 := Tryz.sizeOf167,
  v67 := Tryz.zeroValue167,
  i67 := by kernel_rfl,
  t75 := Tryz.underlying175,
  a75 := Tryz.isAgg175,
  z75 := Tryz.sizeOf175,
  v75 := Tryz.zeroValue175,
  i75 := by kernel_rfl,
  t76 := Tryz.underlying176,
  a76 := Tryz.isAgg176,
  z76 := Tryz.sizeOf176,
  v76 := Tryz.zeroValue176,
  i76 := by kernel_rfl,
  t77 := Tryz.underlying177,
  a77 := Tryz.isAgg177,
  z77 := Tryz.sizeOf177,
  v77 := Tryz.zeroValue177,
  i77 := by kernel_rfl,
  t78 := Tryz.underlying178,
  a78 := Tryz.isAgg178,
  z78 := Tryz.sizeOf178,
  v78 := Tryz.zeroValue178,
  i78 := by kernel_rfl,
  t79 := Tryz.underlying179,
  a79 := Tryz.isAgg179,
  z79 := Tryz.sizeOf179,
  v79 := Tryz.zeroValue179,
  i79 := by kernel_rfl,
  t80 := Tryz.underlying180,
  a80 := Tryz.isAgg180,
  z80 := Tryz.sizeOf180,
  v80 := Tryz.zeroValue180,
  i80 := by kernel_rfl,
  t82 := Tryz.underlying182,
  a82 := Tryz.isAgg182,
  z82 := Tryz.sizeOf182,
  v82 := Tryz.zeroValue182,
  i82 := by kernel_rfl }
noncomputable def siT : TypeInfo := (Tryz.prog.info? 92).get (by kernel_rfl)
noncomputable def siE : TypeInfo := (Tryz.prog.info? 53).get (by kernel_rfl)
theorem siK (n : Nat) (h2 : 2 ≤ n) : Go.Lib.swapperK n siE 10 = 6 := by
  have a : siE.hasPointers = false := by kernel_rfl
  have b : siE.bytes = 4 := by kernel_rfl
  have c : (n == 0) = false := by simp; omega
  have d : (n == 1) = false := by simp; omega
  simp [Go.Lib.swapperK, a, b, c, d]
theorem sortOk : SortC Tryz.prog seatE.tKs seatE.tU32 seatE.fSort seatE.fLess :=
  sort_ok (K := seatE) (T := seatT) (te_of seat2Ok) rfl rfl (by kernel_rfl) (FnIs.of (by kernel_rfl)) (by kernel_rfl)
    (fun lb blk off c d h2 hsz w hless hH hblk => Any.sort_Slice_sorted sl6 92 53 siT siE (by kernel_rfl) (by kernel_rfl) (by kernel_rfl) (by kernel_rfl) 10 (fun _ => by kernel_rfl) (by kernel_rfl) (fun _ => by kernel_rfl) u32V (fun _ => rfl) (fun a b : Nat => decide (a < b)) swo_nat 91 lb
      (enters_of Tryz.func91 (by kernel_rfl) rfl) blk off c d h2 hsz 103 (by rw [siK _ h2]; kernel_rfl) true
      (fun args W => run_callFunc_extern Tryz.func103 (by kernel_rfl) (by kernel_rfl) (by kernel_rfl) (e := Extern.ReflectliteSwapper.swap true) (by kernel_rfl) args W) w hless hH hblk)
    (fun p n c h1 lf la lb w => Any.sort_Slice_tiny sl6 92 53 siT siE (by kernel_rfl) (by kernel_rfl) (by kernel_rfl) (by kernel_rfl) 10 (fun _ => by kernel_rfl) p n c h1 (98 + n) (by
      rcases Nat.eq_zero_or_pos n with h | h
      · subst h; kernel_rfl
      · obtain rfl : n = 1 := by omega
        kernel_rfl) lf la lb w)
theorem fl : FlOk Tryz.prog seatK seatR := fl_none rfl rfl
theorem seat2 : Seat2 Tryz.prog seatK seatG seatS seatR seatTG seatE seatZ := seat2_of seatOk seat2Ok sortOk fl (fun _ => zsOk)
/-- What the row's list gives: the variable holds an error. -/
theorem err {W : World} (h : laidMetH Tryz.prog [("pub-kmsg/pub/kmsg/inner/kbin.ErrNotEnoughData", Rows.laid_pub_kmsg_pub_kmsg_inner_kbin_ErrNotEnoughData)] W) : ∃ ev, W.cell? ⟨seatR.gErr, 0, none⟩ = some ev ∧ isErr ev := by
  rw [MakeChecks.laidMetH_plain _ _ _ (by kernel_rfl)] at h
  exact laid_err (t := 50) (by kernel_rfl) (by kernel_rfl) (by kernel_rfl) h
/-- A world that meets the row's list: the error as its initialiser lays it. -/
noncomputable def low : Nat := (World.holding Tryz.prog default ⟨#[], #[], []⟩).heap.size
abbrev errS : ByteArray := { data := #[114, 101, 115, 112, 111, 110, 115, 101, 32, 100, 105, 100, 32, 110, 111, 116, 32, 99, 111, 110, 116, 97, 105, 110, 32, 101, 110, 111, 117, 103, 104, 32, 100, 97, 116, 97, 32, 116, 111, 32, 98, 101, 32, 118, 97, 108, 105, 100] }
noncomputable def laidWorld (os : Os) : World :=
  let w0 := World.holding Tryz.prog os ⟨#[.cells #[.string errS] 186], #[], []⟩
  { w0 with heap := w0.heap.modify 1 fun
      | .cells _ t frozen => .cells #[.iface 169 (.pointer (some ⟨low, 0, none⟩))] t frozen
      | o => o }
theorem laid_met (os : Os) (args : Array Value) : laidMet Tryz.prog [("pub-kmsg/pub/kmsg/inner/kbin.ErrNotEnoughData", Rows.laid_pub_kmsg_pub_kmsg_inner_kbin_ErrNotEnoughData)] ((laidWorld os).forCall (fun _ _ => 0) ⟨#[], args, []⟩).memory :=
  laidMet_of_run (ps := [.cell 1 0, .cell low 0]) 8 (by kernel_rfl) (by kernel_rfl) (by kernel_rfl)
theorem own : ownKnob Tryz.prog.godebug = none := by kernel_rfl
theorem bulkOk (H : Type) : BulkOk (H := H) Rows.uptoBulk Rows.uptoBulkAll := {
  one := fun d => by
    cases d with
    | lit l => cases l <;> simp [Rows.uptoBulk]
    | nil => simp [Rows.uptoBulk]
    | ptr d => simp [Rows.uptoBulk]
    | slice e s => simp [Rows.uptoBulk]
    | agg ps => simp [Rows.uptoBulk]
    | iface n d => simp [Rows.uptoBulk]
    | map es => simp [Rows.uptoBulk]
    | held h => simp [Rows.uptoBulk]
  slice := fun e s => by simp only [Rows.uptoBulk]; omega
  agg := fun ps => by simp only [Rows.uptoBulk]; omega
  cons := fun d l => by simp only [Rows.uptoBulkAll]; omega }
end Go.Proofs.YtnodcmiaipbjiaaGreatDoor
