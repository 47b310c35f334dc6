/- The seat's program passes the tests of what the laws that read rest on; sort.Slice's closure is laid; the listed error. No condition. -/
import Derived.Test.YtafoaplcmgfloaaDoorProg
import Derived.Test.YtafoaplcmgfloaaDoorRows
import Derived.Test.YtafoaplcmgfloaaDoorKxM
import Derived.KernelRfl
import Derived.MakeChecks
import Derived.LaidLaws
import Derived.Deep.DeepHandedRow
import Derived.Laws.Externs
import Derived.Shelf.Abstract
import Derived.ProofKit
namespace Go.Proofs.YtafoaplcmgfloaaDoor
open Go.Kx Go.Shelf Go.RowKit
set_option maxRecDepth 100000
def seatT : IT := { u8 := 5, u8s := 22, i8 := 0, i16 := 29, u16 := 80, i32 := 21, u32 := 50, i64 := 2, u64 := 118, int := 3, str := 9, bool := 4 }
def seatK : KB := { T := seatT, tP := 70, tA := 57, i8 := 0, u16 := 50, i16 := 31, u32 := 65, i32 := 42, u64 := 0, i64 := 0, bool := 0, uuid := 41, l32 := 75, uvl := 51, uv := 32, str := 38, cstr := 37, nstr := 46, cnstr := 45, byt := 0, cbyt := 0, nbyt := 0, cnbyt := 0, alen := 40, calen := 39, nalen := 0, cnalen := 0 }
def seatG : TN := { tSt := 44, tMap := 42, fLen := 33, fTeach := 34, fEach := 52, fCb := 53 }
def seatS : SN := { T := seatT, fds := 0, fd := 0, trs := 0, tr := 0, tgs := 0, tg := 0, msg := 0, fSame := 9, fVer := 8, fWrite := 0, fDflt := 0, fPart := 0, fHas := 0, fField := 0, fAt := 0, fKnown := 0, fUsual := 0, fUvar := 0, fUnk := 0, fWhole := 0, fNull := 0, fThings := 0, fCounted := 0, fValue := 0, fFixed := 0, fWidth := 0 }
def seatR : RN := { T := seatT, tA := 57, tR := 75, tBE := 92, gBE := 0, gErr := 1, tErr := 35, be16 := 71, be32 := 79, be64 := 0, uvd := 80, span := 74, uv := 72, i8 := 0, i16 := 47, u16 := 0, i32 := 64, i64 := 0, r64 := 0, bool := 0, str := 57, cstr := 56, nstr := 70, cnstr := 68, byt := 0, cbyt := 0, nbyt := 0, cnbyt := 0, uuid := 62, alen := 59, calen := 58, compl := 49, okf := 60 }
def seatTG : TG := { tSt := 44, tMap := 42, fSet := 73, fRead := 48 }
def seatE : EN := { tSt := 44, tMap := 42, tKs := 96, tU32 := 50, tInt := 3, fLess := 77, fSort := 76, fCb := 53 }
def seatZ : FTN := { f2 := 0, f3 := 0, f4 := 0 }
theorem seatAOk : (seatAB Tryd.prog seatK seatG seatS seatR seatTG seatE).all id = true := by kernel_rfl
theorem argOk : ArgOk Tryd.prog seatS := arg_of (by kernel_rfl)
def sl6_ren : Go.Shelf.Ren := ⟨fun | 6 => 76 | 10 => 81 | 11 => 82 | 12 => 83 | 13 => 84 | 14 => 85 | 24 => 75 | 25 => 95 | 26 => 96 | 27 => 97 | 28 => 98 | 29 => 99 | 30 => 100 | 31 => 101 | 32 => 102 | 33 => 103 | 34 => 104 | 35 => 105 | 36 => 106 | 37 => 107 | 38 => 108 | 39 => 109 | n => n, fun | 20 => 20 | 26 => 98 | 35 => 106 | 0 => 0 | 37 => 108 | 3 => 3 | 41 => 82 | 44 => 113 | 49 => 50 | 51 => 118 | 4 => 4 | 54 => 121 | 53 => 120 | 58 => 125 | 5 => 5 | 9 => 9 | 60 => 127 | 64 => 131 | 66 => 133 | 67 => 134 | 17 => 17 | 32 => 103 | 33 => 104 | 82 => 149 | 12 => 12 | 75 => 142 | 76 => 143 | 77 => 144 | 78 => 145 | 79 => 146 | 80 => 147 | n => n, fun n => n⟩
theorem sl6 : LaysGg.n6 Tryd.prog sl6_ren := {
  mixed := by kernel_rfl,
  f6 := Tryd.func76.trans (congrArg some (by kernel_rfl)),
  f10 := Tryd.func81.trans (congrArg some (by kernel_rfl)),
  f11 := Tryd.func82.trans (congrArg some (by kernel_rfl)),
  f12 := Tryd.func83.trans (congrArg some (by kernel_rfl)),
  f13 := Tryd.func84.trans (congrArg some (by kernel_rfl)),
  f14 := Tryd.func85.trans (congrArg some (by kernel_rfl)),
  f24 := Tryd.func75.trans (congrArg some (by kernel_rfl)),
  f25 := Tryd.func95.trans (congrArg some (by kernel_rfl)),
  f26 := Tryd.func96.trans (congrArg some (by kernel_rfl)),
  f27 := Tryd.func97.trans (congrArg some (by kernel_rfl)),
  f28 := Tryd.func98.trans (congrArg some (by kernel_rfl)),
  f29 := Tryd.func99.trans (congrArg some (by kernel_rfl)),
  f30 := Tryd.func100.trans (congrArg some (by kernel_rfl)),
  f31 := Tryd.func101.trans (congrArg some (by kernel_rfl)),
  f32 := Tryd.func102.trans (congrArg some (by kernel_rfl)),
  f33 := Tryd.func103.trans (congrArg some (by kernel_rfl)),
  f34 := Tryd.func104.trans (congrArg some (by kernel_rfl)),
  f35 := Tryd.func105.trans (congrArg some (by kernel_rfl)),
  f36 := Tryd.func106.trans (congrArg some (by kernel_rfl)),
  f37 := Tryd.func107.trans (congrArg some (by kernel_rfl)),
  f38 := Tryd.func108.trans (congrArg some (by kernel_rfl)),
  f39 := Tryd.func109.trans (congrArg some (by kernel_rfl)),
  t0 := Tryd.underlying0,
  a0 := Tryd.isAgg0,
  z0 := Tryd.sizeOf0,
  v0 := Tryd.zeroValue0,
  i0 := by kernel_rfl,
  t3 := Tryd.underlying3,
  a3 := Tryd.isAgg3,
  z3 := Tryd.sizeOf3,
  v3 := Tryd.zeroValue3,
  i3 := by kernel_rfl,
  t4 := Tryd.underlying4,
  a4 := Tryd.isAgg4,
  z4 := Tryd.sizeOf4,
  v4 := Tryd.zeroValue4,
  i4 := by kernel_rfl,
  t5 := Tryd.underlying5,
  a5 := Tryd.isAgg5,
  z5 := Tryd.sizeOf5,
  v5 := Tryd.zeroValue5,
  i5 := by kernel_rfl,
  t9 := Tryd.underlying9,
  a9 := Tryd.isAgg9,
  z9 := Tryd.sizeOf9,
  v9 := Tryd.zeroValue9,
  i9 := by kernel_rfl,
  t12 := Tryd.underlying12,
  a12 := Tryd.isAgg12,
  z12 := Tryd.sizeOf12,
  v12 := Tryd.zeroValue12,
  i12 := by kernel_rfl,
  t17 := Tryd.underlying17,
  a17 := Tryd.isAgg17,
  z17 := Tryd.sizeOf17,
  v17 := Tryd.zeroValue17,
  i17 := by kernel_rfl,
  t20 := Tryd.underlying20,
  a20 := Tryd.isAgg20,
  z20 := Tryd.sizeOf20,
  v20 := Tryd.zeroValue20,
  i20 := by kernel_rfl,
  t26 := Tryd.underlying98,
  a26 := Tryd.isAgg98,
  z26 := Tryd.sizeOf98,
  v26 := Tryd.zeroValue98,
  i26 := by kernel_rfl,
  t32 := Tryd.underlying103,
  a32 := Tryd.isAgg103,
  z32 := Tryd.sizeOf103,
  v32 := Tryd.zeroValue103,
  i32 := by kernel_rfl,
  t33 := Tryd.underlying104,
  a33 := Tryd.isAgg104,
  z33 := Tryd.sizeOf104,
  v33 := Tryd.zeroValue104,
  i33 := by kernel_rfl,
  t35 := Tryd.underlying106,
  a35 := Tryd.isAgg106,
  z35 := Tryd.sizeOf106,
  v35 := Tryd.zeroValue106,
  i35 := by kernel_rfl,
  t37 := Tryd.underlying108,
  a37 := Tryd.isAgg108,
  z37 := Tryd.sizeOf108,
  v37 := Tryd.zeroValue108,
  i37 := by kernel_rfl,
  t41 := Tryd.underlying82,
  a41 := Tryd.isAgg82,
  z41 := Tryd.sizeOf82,
  v41 := Tryd.zeroValue82,
  i41 := by kernel_rfl,
  t44 := Tryd.underlying113,
  a44 := Tryd.isAgg113,
  z44 := Tryd.sizeOf113,
  v44 := Tryd.zeroValue113,
  i44 := by kernel_rfl,
  t49 := Tryd.underlying50,
  a49 := Tryd.isAgg50,
  z49 := Tryd.sizeOf50,
  v49 := Tryd.zeroValue50,
  i49 := by kernel_rfl,
  t51 := Tryd.underlying118,
  a51 := Tryd.isAgg118,
  z51 := Tryd.sizeOf118,
  v51 := Tryd.zeroValue118,
  i51 := by kernel_rfl,
  t53 := Tryd.underlying120,
  a53 := Tryd.isAgg120,
  z53 := Tryd.sizeOf120,
  v53 := Tryd.zeroValue120,
  i53 := by kernel_rfl,
  t54 := Tryd.underlying121,
  a54 := Tryd.isAgg121,
  z54 := Tryd.sizeOf121,
  v54 := Tryd.zeroValue121,
  i54 := by kernel_rfl,
  t58 := Tryd.underlying125,
  a58 := Tryd.isAgg125,
  z58 := Tryd.sizeOf125,
  v58 := Tryd.zeroValue125,
  i58 := by kernel_rfl,
  t60 := Tryd.underlying127,
  a60 := Tryd.isAgg127,
  z60 := Tryd.sizeOf127,
  v60 := Tryd.zeroValue127,
  i60 := by kernel_rfl,
  t64 := Tryd.underlying131,
  a64 := Tryd.isAgg131,
  z64 := Tryd.sizeOf131,
  v64 := Tryd.zeroValue131,
  i64 := by kernel_rfl,
  t66 := Tryd.underlying133,
  a66 := Tryd.isAgg133,
  z66 := Tryd.sizeOf133,
  v66 := Tryd.zeroValue133,
  i66 := by kernel_rfl,
  t67 := Tryd.underlying134,
  a67 := Tryd.isAgg134,
  z67 := Tryd.sizeOf134,
  v67 := Tryd.zeroValue134,
  i67 := by kernel_rfl,
  t75 := Tryd.underlying142,
  a75 := Tryd.isAgg142,
  z75 := Tryd.sizeOf142,
  v75 := Tryd.zeroValue142,
  i75 := by kernel_rfl,
  t76 := Tryd.underlying143,
  a76 := Tryd.isAgg143,
  z76 := Tryd.sizeOf143,
  v76 := Tryd.zeroValue143,
  i76 := by kernel_rfl,
  t77 := Tryd.underlying144,
  a77 := Tryd.isAgg144,
  z77 := Tryd.sizeOf144,
  v77 := Tryd.zeroValue144,
  i77 := by kernel_rfl,
  t78 := Tryd.underlying145,
  a78 := Tryd.isAgg145,
  z78 := Tryd.sizeOf145,
  v78 := Tryd.zeroValue145,
  i78 := by kernel_rfl,
  t79 := Tryd.underlying146,
  a79 := Tryd.isAgg146,
  z79 := Tryd.sizeOf146,
  v79 := Tryd.zeroValue146,
  i79 := by kernel_rfl,
  t80 := Tryd.underlying147,
  a80 := Tryd.isAgg147,
  z80 := Tryd.sizeOf147,
  v80 := Tryd.zeroValue147,
  i80 := by kernel_rfl,
  t82 := Tryd.underlying149,
  a82 := Tryd.isAgg149,
  z82 := Tryd.sizeOf149,
  v82 := Tryd.zeroValue149,
  i82 := by kernel_rfl }
noncomputable def siT : TypeInfo := (Tryd.prog.info? 96).get (by kernel_rfl)
noncomputable def siE : TypeInfo := (Tryd.prog.info? 50).get (by kernel_rfl)
theorem siK (n : Nat) (h2 : 2 ≤ n) : Go.Lib.swapperK n siE 10 = 6 := by
  have a : siE.hasPointers = false := by kernel_rfl
  have b : siE.bytes = 4 := by kernel_rfl
  have c : (n == 0) = false := by simp; omega
  have d : (n == 1) = false := by simp; omega
  simp [Go.Lib.swapperK, a, b, c, d]
theorem sortOk : SortC Tryd.prog seatE.tKs seatE.tU32 seatE.fSort seatE.fLess :=
  sort_ok (K := seatE) (T := seatT) (teA_of seatAOk) rfl rfl (by kernel_rfl) (FnIs.of (by kernel_rfl)) (by kernel_rfl)
    (fun lb blk off c d h2 hsz w hless hH hblk => Any.sort_Slice_sorted sl6 96 50 siT siE (by kernel_rfl) (by kernel_rfl) (by kernel_rfl) (by kernel_rfl) 10 (fun _ => by kernel_rfl) (by kernel_rfl) (fun _ => by kernel_rfl) u32V (fun _ => rfl) (fun a b : Nat => decide (a < b)) swo_nat 77 lb
      (enters_of Tryd.func77 (by kernel_rfl) rfl) blk off c d h2 hsz 91 (by rw [siK _ h2]; kernel_rfl) true
      (fun args W => run_callFunc_extern Tryd.func91 (by kernel_rfl) (by kernel_rfl) (by kernel_rfl) (e := Extern.ReflectliteSwapper.swap true) (by kernel_rfl) args W) w hless hH hblk)
    (fun p n c h1 lf la lb w => Any.sort_Slice_tiny sl6 96 50 siT siE (by kernel_rfl) (by kernel_rfl) (by kernel_rfl) (by kernel_rfl) 10 (fun _ => by kernel_rfl) p n c h1 (86 + n) (by
      rcases Nat.eq_zero_or_pos n with h | h
      · subst h; kernel_rfl
      · obtain rfl : n = 1 := by omega
        kernel_rfl) lf la lb w)
theorem seatA : SeatA Tryd.prog seatK seatG seatS seatR seatTG := seatA_of seatAOk sortOk
/-- What the row's list gives: the variable holds an error. -/
theorem err {W : World} (h : laidMetH Tryd.prog [("pub-kmsg/pub/kmsg/inner/kbin.ErrNotEnoughData", Rows.laid_pub_kmsg_pub_kmsg_inner_kbin_ErrNotEnoughData)] W) : ∃ ev, W.cell? ⟨seatR.gErr, 0, none⟩ = some ev ∧ isErr ev := by
  rw [MakeChecks.laidMetH_plain _ _ _ (by kernel_rfl)] at h
  exact laid_err (t := 35) (by kernel_rfl) (by kernel_rfl) (by kernel_rfl) h
/-- A world that meets the row's list: the error as its initialiser lays it. -/
noncomputable def low : Nat := (World.holding Tryd.prog default ⟨#[], #[], []⟩).heap.size
abbrev errS : ByteArray := { data := #[114, 101, 115, 112, 111, 110, 115, 101, 32, 100, 105, 100, 32, 110, 111, 116, 32, 99, 111, 110, 116, 97, 105, 110, 32, 101, 110, 111, 117, 103, 104, 32, 100, 97, 116, 97, 32, 116, 111, 32, 98, 101, 32, 118, 97, 108, 105, 100] }
noncomputable def laidWorld (os : Os) : World :=
  let w0 := World.holding Tryd.prog os ⟨#[.cells #[.string errS] 154], #[], []⟩
  { w0 with heap := w0.heap.modify 1 fun
      | .cells _ t frozen => .cells #[.iface 136 (.pointer (some ⟨low, 0, none⟩))] t frozen
      | o => o }
theorem laid_met (os : Os) (args : Array Value) : laidMet Tryd.prog [("pub-kmsg/pub/kmsg/inner/kbin.ErrNotEnoughData", Rows.laid_pub_kmsg_pub_kmsg_inner_kbin_ErrNotEnoughData)] ((laidWorld os).forCall (fun _ _ => 0) ⟨#[], args, []⟩).memory :=
  laidMet_of_run (ps := [.cell 1 0, .cell low 0]) 8 (by kernel_rfl) (by kernel_rfl) (by kernel_rfl)
theorem own : ownKnob Tryd.prog.godebug = none := by kernel_rfl
theorem bulkOk (H : Type) : BulkOk (H := H) Rows.uptoBulk Rows.uptoBulkAll := {
  one := fun d => by
    cases d with
    | lit l => cases l <;> simp [Rows.uptoBulk]
    | nil => simp [Rows.uptoBulk]
    | ptr d => simp [Rows.uptoBulk]
    | slice e s => simp [Rows.uptoBulk]
    | agg ps => simp [Rows.uptoBulk]
    | iface n d => simp [Rows.uptoBulk]
    | map es => simp [Rows.uptoBulk]
    | held h => simp [Rows.uptoBulk]
  slice := fun e s => by simp only [Rows.uptoBulk]; omega
  agg := fun ps => by simp only [Rows.uptoBulk]; omega
  cons := fun d l => by simp only [Rows.uptoBulkAll]; omega }
end Go.Proofs.YtafoaplcmgfloaaDoor
