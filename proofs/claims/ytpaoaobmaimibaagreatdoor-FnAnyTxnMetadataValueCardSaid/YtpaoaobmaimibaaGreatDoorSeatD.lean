/- The seat's program passes the tests of what the laws that read rest on; sort.Slice's closure is laid; the listed error. No condition. -/
import Derived.Test.YtpaoaobmaimibaaGreatDoorProg
import Derived.Test.YtpaoaobmaimibaaGreatDoorRows
import Derived.Test.YtpaoaobmaimibaaGreatDoorKxO
import Derived.KernelRfl
import Derived.MakeChecks
import Derived.LaidLaws
import Derived.Deep.DeepHandedRow
import Derived.Laws.Externs
import Derived.Shelf.Abstract
import Derived.ProofKit
namespace Go.Proofs.YtpaoaobmaimibaaGreatDoor
open Go.Kx Go.Shelf Go.RowKit
set_option maxRecDepth 100000
def seatT : IT := { u8 := 5, u8s := 22, i8 := 43, i16 := 42, u16 := 36, i32 := 21, u32 := 82, i64 := 2, u64 := 97, int := 3, str := 9, bool := 4 }
def seatK : KB := { T := seatT, tP := 123, tA := 122, i8 := 44, u16 := 71, i16 := 41, u32 := 97, i32 := 43, u64 := 96, i64 := 42, bool := 78, uuid := 75, l32 := 129, uvl := 98, uv := 51, str := 48, cstr := 47, nstr := 77, cnstr := 76, byt := 67, cbyt := 66, nbyt := 0, cnbyt := 0, alen := 50, calen := 49, nalen := 46, cnalen := 45, f64 := 0, ffb := 0 }
def seatG : TN := { tSt := 48, tMap := 46, tKs := 83, fLen := 52, fTeach := 53, fEach := 99, fCb := 100 }
def seatS : SN := { T := seatT, fds := 26, fd := 58, trs := 30, tr := 33, tgs := 31, tg := 85, msg := 28, fSame := 9, fVer := 14, fWrite := 12, fDflt := 0, fPart := 27, fHas := 56, fField := 57, fAt := 58, fKnown := 59, fUsual := 60, fUvar := 61, fUnk := 62, fWhole := 63, fNull := 101, fThings := 102, fCounted := 103, fValue := 104, fFixed := 22, fWidth := 105 }
def seatR : RN := { T := seatT, tA := 122, tR := 134, tBE := 163, gBE := 0, gErr := 1, tErr := 53, be16 := 124, be32 := 126, be64 := 132, uvd := 128, span := 95, uv := 93, i8 := 82, i16 := 79, u16 := 114, i32 := 81, i64 := 80, r64 := 125, bool := 123, str := 91, cstr := 90, nstr := 121, cnstr := 119, byt := 112, cbyt := 111, nbyt := 0, cnbyt := 0, uuid := 117, alen := 84, calen := 83, compl := 86, okf := 85, f64 := 0, ffr := 0 }
def seatTG : TG := { tSt := 48, tMap := 46, fSet := 94, fRead := 92 }
def seatE : EN := { tSt := 48, tMap := 46, tKs := 83, tU32 := 82, tInt := 3, fLess := 131, fSort := 130, fCb := 100 }
def seatZ : FTN := { f2 := 10, f3 := 24, f4 := 54 }
theorem seatAOk : (seatAB Tryz.prog seatK seatG seatS seatR seatTG seatE).all id = true := by kernel_rfl
theorem argOk : ArgOk Tryz.prog seatS := arg_of (by kernel_rfl)
def sl6_ren : Go.Shelf.Ren := ⟨fun | 6 => 130 | 10 => 133 | 11 => 134 | 12 => 135 | 13 => 136 | 14 => 137 | 24 => 129 | 25 => 147 | 26 => 148 | 27 => 149 | 28 => 150 | 29 => 151 | 30 => 152 | 31 => 153 | 32 => 154 | 33 => 155 | 34 => 156 | 35 => 157 | 36 => 158 | 37 => 159 | 38 => 160 | 39 => 161 | n => n, fun | 20 => 20 | 26 => 171 | 35 => 176 | 0 => 0 | 37 => 178 | 3 => 3 | 41 => 148 | 44 => 183 | 49 => 82 | 51 => 97 | 4 => 4 | 54 => 190 | 53 => 189 | 58 => 194 | 5 => 5 | 9 => 9 | 60 => 196 | 64 => 199 | 66 => 201 | 67 => 202 | 17 => 17 | 32 => 173 | 33 => 174 | 82 => 217 | 12 => 12 | 75 => 210 | 76 => 211 | 77 => 212 | 78 => 213 | 79 => 214 | 80 => 215 | n => n, fun n => n⟩
theorem sl6 : LaysGg.n6 Tryz.prog sl6_ren := {
  mixed := by kernel_rfl,
  f6 := Tryz.func130.trans (congrArg some (by kernel_rfl)),
  f10 := Tryz.func133.trans (congrArg some (by kernel_rfl)),
  f11 := Tryz.func134.trans (congrArg some (by kernel_rfl)),
  f12 := Tryz.func135.trans (congrArg some (by kernel_rfl)),
  f13 := Tryz.func136.trans (congrArg some (by kernel_rfl)),
  f14 := Tryz.func137.trans (congrArg some (by kernel_rfl)),
  f24 := Tryz.func129.trans (congrArg some (by kernel_rfl)),
  f25 := Tryz.func147.trans (congrArg some (by kernel_rfl)),
  f26 := Tryz.func148.trans (congrArg some (by kernel_rfl)),
  f27 := Tryz.func149.trans (congrArg some (by kernel_rfl)),
  f28 := Tryz.func150.trans (congrArg some (by kernel_rfl)),
  f29 := Tryz.func151.trans (congrArg some (by kernel_rfl)),
  f30 := Tryz.func152.trans (congrArg some (by kernel_rfl)),
  f31 := Tryz.func153.trans (congrArg some (by kernel_rfl)),
  f32 := Tryz.func154.trans (congrArg some (by kernel_rfl)),
  f33 := Tryz.func155.trans (congrArg some (by kernel_rfl)),
  f34 := Tryz.func156.trans (congrArg some (by kernel_rfl)),
  f35 := Tryz.func157.trans (congrArg some (by kernel_rfl)),
  f36 := Tryz.func158.trans (congrArg some (by kernel_rfl)),
  f37 := Tryz.func159.trans (congrArg some (by kernel_rfl)),
  f38 := Tryz.func160.trans (congrArg some (by kernel_rfl)),
  f39 := Tryz.func161.trans (congrArg some (by kernel_rfl)),
  t0 := Tryz.underlying0,
  a0 := Tryz.isAgg0,
  z0 := Tryz.sizeOf0,
  v0 := Tryz.zeroValue0,
  i0 := by kernel_rfl,
  t3 := Tryz.underlying3,
  a3 := Tryz.isAgg3,
  z3 := Tryz.sizeOf3,
  v3 := Tryz.zeroValue3,
  i3 := by kernel_rfl,
  t4 := Tryz.underlying4,
  a4 := Tryz.isAgg4,
  z4 := Tryz.sizeOf4,
  v4 := Tryz.zeroValue4,
  i4 := by kernel_rfl,
  t5 := Tryz.underlying5,
  a5 := Tryz.isAgg5,
  z5 := Tryz.sizeOf5,
  v5 := Tryz.zeroValue5,
  i5 := by kernel_rfl,
  t9 := Tryz.underlying9,
  a9 := Tryz.isAgg9,
  z9 := Tryz.sizeOf9,
  v9 := Tryz.zeroValue9,
  i9 := by kernel_rfl,
  t12 := Tryz.underlying12,
  a12 := Tryz.isAgg12,
  z12 := Tryz.sizeOf12,
  v12 := Tryz.zeroValue12,
  i12 := by kernel_rfl,
  t17 := Tryz.underlying17,
  a17 := Tryz.isAgg17,
  z17 := Tryz.sizeOf17,
  v17 := Tryz.zeroValue17,
  i17 := by kernel_rfl,
  t20 := Tryz.underlying20,
  a20 := Tryz.isAgg20,
  z20 := Tryz.sizeOf20,
  v20 := Tryz.zeroValue20,
  i20 := by kernel_rfl,
  t26 := Tryz.underlying171,
  a26 := Tryz.isAgg171,
  z26 := Tryz.sizeOf171,
  v26 := Tryz.zeroValue171,
  i26 := by kernel_rfl,
  t32 := Tryz.underlying173,
  a32 := Tryz.isAgg173,
  z32 := Tryz.sizeOf173,
  v32 := Tryz.zeroValue173,
  i32 := by kernel_rfl,
  t33 := Tryz.underlying174,
  a33 := Tryz.isAgg174,
  z33 := Tryz.sizeOf174,
  v33 := Tryz.zeroValue174,
  i33 := by kernel_rfl,
  t35 := Tryz.underlying176,
  a35 := Tryz.isAgg176,
  z35 := Tryz.sizeOf176,
  v35 := Tryz.zeroValue176,
  i35 := by kernel_rfl,
  t37 := Tryz.underlying178,
  a37 := Tryz.isAgg178,
  z37 := Tryz.sizeOf178,
  v37 := Tryz.zeroValue178,
  i37 := by kernel_rfl,
  t41 := Tryz.underlying148,
  a41 := Tryz.isAgg148,
  z41 := Tryz.sizeOf148,
  v41 := Tryz.zeroValue148,
  i41 := by kernel_rfl,
  t44 := Tryz.underlying183,
  a44 := Tryz.isAgg183,
  z44 := Tryz.sizeOf183,
  v44 := Tryz.zeroValue183,
  i44 := by kernel_rfl,
  t49 := Tryz.underlying82,
  a49 := Tryz.isAgg82,
  z49 := Tryz.sizeOf82,
  v49 := Tryz.zeroValue82,
  i49 := by kernel_rfl,
  t51 := Tryz.underlying97,
  a51 := Tryz.isAgg97,
  z51 := Tryz.sizeOf97,
  v51 := Tryz.zeroValue97,
  i51 := by kernel_rfl,
  t53 := Tryz.underlying189,
  a53 := Tryz.isAgg189,
  z53 := Tryz.sizeOf189,
  v53 := Tryz.zeroValue189,
  i53 := by kernel_rfl,
  t54 := Tryz.underlying190,
  a54 := Tryz.isAgg190,
  z54 := Tryz.sizeOf190,
  v54 := Tryz.zeroValue190,
  i54 := by kernel_rfl,
  t58 := Tryz.underlying194,
  a58 := Tryz.isAgg194,
  z58 := Tryz.sizeOf194,
  v58 := Tryz.zeroValue194,
  i58 := by kernel_rfl,
  t60 := Tryz.underlying196,
  a60 := Tryz.isAgg196,
  z60 := Tryz.sizeOf196,
  v60 := Tryz.zeroValue196,
  i60 := by kernel_rfl,
  t64 := Tryz.underlying199,
  a64 := Tryz.isAgg199,
  z64 := Tryz.sizeOf199,
  v64 := Tryz.zeroValue199,
  i64 := by kernel_rfl,
  t66 := Tryz.underlying201,
  a66 := Tryz.isAgg201,
  z66 := Tryz.sizeOf201,
  v66 := Tryz.zeroValue201,
  i66 := by kernel_rfl,
  t67 := Tryz.underlying202,
  a67 := Tryz.isAgg202,
  z67 := Tryz.sizeOf202,
  v67 := Tryz.zeroValue202,
  i67 := by kernel_rfl,
  t75 := Tryz.underlying210,
  a75 := Tryz.isAgg210,
  z75 := Tryz.sizeOf210,
  v75 := Tryz.zeroValue210,
  i75 := by kernel_rfl,
  t76 := Tryz.underlying211,
  a76 := Tryz.isAgg211,
  z76 := Tryz.sizeOf211,
  v76 := Tryz.zeroValue211,
  i76 := by kernel_rfl,
  t77 := Tryz.underlying212,
  a77 := Tryz.isAgg212,
  z77 := Tryz.sizeOf212,
  v77 := Tryz.zeroValue212,
  i77 := by kernel_rfl,
  t78 := Tryz.underlying213,
  a78 := Tryz.isAgg213,
  z78 := Tryz.sizeOf213,
  v78 := Tryz.zeroValue213,
  i78 := by kernel_rfl,
  t79 := Tryz.underlying214,
  a79 := Tryz.isAgg214,
  z79 := Tryz.sizeOf214,
  v79 := Tryz.zeroValue214,
  i79 := by kernel_rfl,
  t80 := Tryz.underlying215,
  a80 := Tryz.isAgg215,
  z80 := Tryz.sizeOf215,
  v80 := Tryz.zeroValue215,
  i80 := by kernel_rfl,
  t82 := Tryz.underlying217,
  a82 := Tryz.isAgg217,
  z82 := Tryz.sizeOf217,
  v82 := Tryz.zeroValue217,
  i82 := by kernel_rfl }
noncomputable def siT : TypeInfo := (Tryz.prog.info? 83).get (by kernel_rfl)
noncomputable def siE : TypeInfo := (Tryz.prog.info? 82).get (by kernel_rfl)
theorem siK (n : Nat) (h2 : 2 ≤ n) : Go.Lib.swapperK n siE 10 = 6 := by
  have a : siE.hasPointers = false := by kernel_rfl
  have b : siE.bytes = 4 := by kernel_rfl
  have c : (n == 0) = false := by simp; omega
  have d : (n == 1) = false := by simp; omega
  simp [Go.Lib.swapperK, a, b, c, d]
theorem sortOk : SortC Tryz.prog seatE.tKs seatE.tU32 seatE.fSort seatE.fLess :=
  sort_ok (K := seatE) (T := seatT) (teA_of seatAOk) rfl rfl (by kernel_rfl) (FnIs.of (by kernel_rfl)) (by kernel_rfl)
    (fun lb blk off c d h2 hsz w hless hH hblk => Any.sort_Slice_sorted sl6 83 82 siT siE (by kernel_rfl) (by kernel_rfl) (by kernel_rfl) (by kernel_rfl) 10 (fun _ => by kernel_rfl) (by kernel_rfl) (fun _ => by kernel_rfl) u32V (fun _ => rfl) (fun a b : Nat => decide (a < b)) swo_nat 131 lb
      (enters_of Tryz.func131 (by kernel_rfl) rfl) blk off c d h2 hsz 143 (by rw [siK _ h2]; kernel_rfl) true
      (fun args W => run_callFunc_extern Tryz.func143 (by kernel_rfl) (by kernel_rfl) (by kernel_rfl) (e := Extern.ReflectliteSwapper.swap true) (by kernel_rfl) args W) w hless hH hblk)
    (fun p n c h1 lf la lb w => Any.sort_Slice_tiny sl6 83 82 siT siE (by kernel_rfl) (by kernel_rfl) (by kernel_rfl) (by kernel_rfl) 10 (fun _ => by kernel_rfl) p n c h1 (138 + n) (by
      rcases Nat.eq_zero_or_pos n with h | h
      · subst h; kernel_rfl
      · obtain rfl : n = 1 := by omega
        kernel_rfl) lf la lb w)
theorem fl : FlOk Tryz.prog seatK seatR := fl_none rfl rfl
theorem seatA : SeatA Tryz.prog seatK seatG seatS seatR seatTG := seatA_of seatAOk sortOk fl
theorem seatOk : (seatB Tryz.prog seatK seatG seatS).all id = true := by kernel_rfl
theorem seat2Ok : (seat2B Tryz.prog seatK seatG seatS seatR seatTG seatE seatZ).all id = true := by kernel_rfl
theorem tree : TreeOk Tryz.prog seatS := tree_of (by kernel_rfl)
theorem seat2 : Seat2 Tryz.prog seatK seatG seatS seatR seatTG seatE seatZ := seat2_of seatOk seat2Ok sortOk fl
/-- What the row's list gives: the variable holds an error. -/
theorem err {W : World} (h : laidMetH Tryz.prog [("pub-kmsg/pub/kmsg/inner/kbin.ErrNotEnoughData", Rows.laid_pub_kmsg_pub_kmsg_inner_kbin_ErrNotEnoughData)] W) : ∃ ev, W.cell? ⟨seatR.gErr, 0, none⟩ = some ev ∧ isErr ev := by
  rw [MakeChecks.laidMetH_plain _ _ _ (by kernel_rfl)] at h
  exact laid_err (t := 53) (by kernel_rfl) (by kernel_rfl) (by kernel_rfl) h
/-- A world that meets the row's list: the error as its initialiser lays it. -/
noncomputable def low : Nat := (World.holding Tryz.prog default ⟨#[], #[], []⟩).heap.size
abbrev errS : ByteArray := { data := #[114, 101, 115, 112, 111, 110, 115, 101, 32, 100, 105, 100, 32, 110, 111, 116, 32, 99, 111, 110, 116, 97, 105, 110, 32, 101, 110, 111, 117, 103, 104, 32, 100, 97, 116, 97, 32, 116, 111, 32, 98, 101, 32, 118, 97, 108, 105, 100] }
noncomputable def laidWorld (os : Os) : World :=
  let w0 := World.holding Tryz.prog os ⟨#[.cells #[.string errS] 221], #[], []⟩
  { w0 with heap := w0.heap.modify 1 fun
      | .cells _ t frozen => .cells #[.iface 204 (.pointer (some ⟨low, 0, none⟩))] t frozen
      | o => o }
theorem laid_met (os : Os) (args : Array Value) : laidMet Tryz.prog [("pub-kmsg/pub/kmsg/inner/kbin.ErrNotEnoughData", Rows.laid_pub_kmsg_pub_kmsg_inner_kbin_ErrNotEnoughData)] ((laidWorld os).forCall (fun _ _ => 0) ⟨#[], args, []⟩).memory :=
  laidMet_of_run (ps := [.cell 1 0, .cell low 0]) 8 (by kernel_rfl) (by kernel_rfl) (by kernel_rfl)
theorem own : ownKnob Tryz.prog.godebug = none := by kernel_rfl
theorem bulkOk (H : Type) : BulkOk (H := H) Rows.uptoBulk Rows.uptoBulkAll := {
  one := fun d => by
    cases d with
    | lit l => cases l <;> simp [Rows.uptoBulk]
    | nil => simp [Rows.uptoBulk]
    | ptr d => simp [Rows.uptoBulk]
    | slice e s => simp [Rows.uptoBulk]
    | agg ps => simp [Rows.uptoBulk]
    | iface n d => simp [Rows.uptoBulk]
    | map es => simp [Rows.uptoBulk]
    | held h => simp [Rows.uptoBulk]
  slice := fun e s => by simp only [Rows.uptoBulk]; omega
  agg := fun ps => by simp only [Rows.uptoBulk]; omega
  cons := fun d l => by simp only [Rows.uptoBulkAll]; omega }
end Go.Proofs.YtpaoaobmaimibaaGreatDoor
