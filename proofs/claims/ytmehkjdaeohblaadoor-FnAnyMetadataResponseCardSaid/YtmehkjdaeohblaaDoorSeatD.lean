/- The seat's program passes the tests of what the laws that read rest on; sort.Slice's closure is laid; the listed error. No condition. -/
import Derived.Test.YtmehkjdaeohblaaDoorProg
import Derived.Test.YtmehkjdaeohblaaDoorRows
import Derived.Test.YtmehkjdaeohblaaDoorKxM
import Derived.KernelRfl
import Derived.MakeChecks
import Derived.LaidLaws
import Derived.Deep.DeepHandedRow
import Derived.Laws.Externs
import Derived.Shelf.Abstract
import Derived.ProofKit
namespace Go.Proofs.YtmehkjdaeohblaaDoor
open Go.Kx Go.Shelf Go.RowKit
set_option maxRecDepth 100000
def seatT : IT := { u8 := 5, u8s := 22, i8 := 0, i16 := 29, u16 := 84, i32 := 21, u32 := 55, i64 := 2, u64 := 112, int := 3, str := 9, bool := 4 }
def seatK : KB := { T := seatT, tP := 39, tA := 57, i8 := 0, u16 := 52, i16 := 25, u32 := 48, i32 := 15, u64 := 0, i64 := 0, bool := 27, uuid := 26, l32 := 59, uvl := 49, uv := 22, str := 19, cstr := 18, nstr := 21, cnstr := 20, byt := 0, cbyt := 0, nbyt := 0, cnbyt := 0, alen := 17, calen := 16, nalen := 0, cnalen := 0, f64 := 0, ffb := 0 }
def seatG : TN := { tSt := 43, tMap := 41, fLen := 23, fTeach := 24, fEach := 50, fCb := 51 }
def seatS : SN := { T := seatT, fds := 0, fd := 0, trs := 0, tr := 0, tgs := 0, tg := 0, msg := 0, fSame := 7, fVer := 6, fWrite := 0, fDflt := 0, fPart := 0, fHas := 0, fField := 0, fAt := 0, fKnown := 0, fUsual := 0, fUvar := 0, fUnk := 0, fWhole := 0, fNull := 0, fThings := 0, fCounted := 0, fValue := 0, fFixed := 0, fWidth := 0 }
def seatR : RN := { T := seatT, tA := 57, tR := 69, tBE := 86, gBE := 0, gErr := 1, tErr := 35, be16 := 58, be32 := 53, be64 := 0, uvd := 62, span := 56, uv := 54, i8 := 0, i16 := 44, u16 := 0, i32 := 28, i64 := 0, r64 := 0, bool := 46, str := 37, cstr := 36, nstr := 41, cnstr := 39, byt := 0, cbyt := 0, nbyt := 0, cnbyt := 0, uuid := 45, alen := 30, calen := 29, compl := 32, okf := 31, f64 := 0, ffr := 0 }
def seatTG : TG := { tSt := 43, tMap := 41, fSet := 57, fRead := 42 }
def seatE : EN := { tSt := 43, tMap := 41, tKs := 92, tU32 := 55, tInt := 3, fLess := 61, fSort := 60, fCb := 51 }
def seatZ : FTN := { f2 := 0, f3 := 0, f4 := 0 }
theorem seatAOk : (seatAB Tryd.prog seatK seatG seatS seatR seatTG seatE).all id = true := by kernel_rfl
theorem argOk : ArgOk Tryd.prog seatS := arg_of (by kernel_rfl)
def sl6_ren : Go.Shelf.Ren := ⟨fun | 6 => 60 | 10 => 63 | 11 => 64 | 12 => 65 | 13 => 66 | 14 => 67 | 24 => 59 | 25 => 77 | 26 => 78 | 27 => 79 | 28 => 80 | 29 => 81 | 30 => 82 | 31 => 83 | 32 => 84 | 33 => 85 | 34 => 86 | 35 => 87 | 36 => 88 | 37 => 89 | 38 => 90 | 39 => 91 | n => n, fun | 20 => 20 | 26 => 94 | 35 => 100 | 0 => 0 | 37 => 102 | 3 => 3 | 41 => 79 | 44 => 107 | 49 => 55 | 51 => 112 | 4 => 4 | 54 => 115 | 53 => 114 | 58 => 119 | 5 => 5 | 9 => 9 | 60 => 121 | 64 => 125 | 66 => 127 | 67 => 128 | 17 => 17 | 32 => 97 | 33 => 98 | 82 => 143 | 12 => 12 | 75 => 136 | 76 => 137 | 77 => 138 | 78 => 139 | 79 => 140 | 80 => 141 | n => n, fun n => n⟩
theorem sl6 : LaysGg.n6 Tryd.prog sl6_ren := {
  mixed := by kernel_rfl,
  f6 := Tryd.func60.trans (congrArg some (by kernel_rfl)),
  f10 := Tryd.func63.trans (congrArg some (by kernel_rfl)),
  f11 := Tryd.func64.trans (congrArg some (by kernel_rfl)),
  f12 := Tryd.func65.trans (congrArg some (by kernel_rfl)),
  f13 := Tryd.func66.trans (congrArg some (by kernel_rfl)),
  f14 := Tryd.func67.trans (congrArg some (by kernel_rfl)),
  f24 := Tryd.func59.trans (congrArg some (by kernel_rfl)),
  f25 := Tryd.func77.trans (congrArg some (by kernel_rfl)),
  f26 := Tryd.func78.trans (congrArg some (by kernel_rfl)),
  f27 := Tryd.func79.trans (congrArg some (by kernel_rfl)),
  f28 := Tryd.func80.trans (congrArg some (by kernel_rfl)),
  f29 := Tryd.func81.trans (congrArg some (by kernel_rfl)),
  f30 := Tryd.func82.trans (congrArg some (by kernel_rfl)),
  f31 := Tryd.func83.trans (congrArg some (by kernel_rfl)),
  f32 := Tryd.func84.trans (congrArg some (by kernel_rfl)),
  f33 := Tryd.func85.trans (congrArg some (by kernel_rfl)),
  f34 := Tryd.func86.trans (congrArg some (by kernel_rfl)),
  f35 := Tryd.func87.trans (congrArg some (by kernel_rfl)),
  f36 := Tryd.func88.trans (congrArg some (by kernel_rfl)),
  f37 := Tryd.func89.trans (congrArg some (by kernel_rfl)),
  f38 := Tryd.func90.trans (congrArg some (by kernel_rfl)),
  f39 := Tryd.func91.trans (congrArg some (by kernel_rfl)),
  t0 := Tryd.underlying0,
  a0 := Tryd.isAgg0,
  z0 := Tryd.sizeOf0,
  v0 := Tryd.zeroValue0,
  i0 := by kernel_rfl,
  t3 := Tryd.underlying3,
  a3 := Tryd.isAgg3,
  z3 := Tryd.sizeOf3,
  v3 := Tryd.zeroValue3,
  i3 := by kernel_rfl,
  t4 := Tryd.underlying4,
  a4 := Tryd.isAgg4,
  z4 := Tryd.sizeOf4,
  v4 := Tryd.zeroValue4,
  i4 := by kernel_rfl,
  t5 := Tryd.underlying5,
  a5 := Tryd.isAgg5,
  z5 := Tryd.sizeOf5,
  v5 := Tryd.zeroValue5,
  i5 := by kernel_rfl,
  t9 := Tryd.underlying9,
  a9 := Tryd.isAgg9,
  z9 := Tryd.sizeOf9,
  v9 := Tryd.zeroValue9,
  i9 := by kernel_rfl,
  t12 := Tryd.underlying12,
  a12 := Tryd.isAgg12,
  z12 := Tryd.sizeOf12,
  v12 := Tryd.zeroValue12,
  i12 := by kernel_rfl,
  t17 := Tryd.underlying17,
  a17 := Tryd.isAgg17,
  z17 := Tryd.sizeOf17,
  v17 := Tryd.zeroValue17,
  i17 := by kernel_rfl,
  t20 := Tryd.underlying20,
  a20 := Tryd.isAgg20,
  z20 := Tryd.sizeOf20,
  v20 := Tryd.zeroValue20,
  i20 := by kernel_rfl,
  t26 := Tryd.underlying94,
  a26 := Tryd.isAgg94,
  z26 := Tryd.sizeOf94,
  v26 := Tryd.zeroValue94,
  i26 := by kernel_rfl,
  t32 := Tryd.underlying97,
  a32 := Tryd.isAgg97,
  z32 := Tryd.sizeOf97,
  v32 := Tryd.zeroValue97,
  i32 := by kernel_rfl,
  t33 := Tryd.underlying98,
  a33 := Tryd.isAgg98,
  z33 := Tryd.sizeOf98,
  v33 := Tryd.zeroValue98,
  i33 := by kernel_rfl,
  t35 := Tryd.underlying100,
  a35 := Tryd.isAgg100,
  z35 := Tryd.sizeOf100,
  v35 := Tryd.zeroValue100,
  i35 := by kernel_rfl,
  t37 := Tryd.underlying102,
  a37 := Tryd.isAgg102,
  z37 := Tryd.sizeOf102,
  v37 := Tryd.zeroValue102,
  i37 := by kernel_rfl,
  t41 := Tryd.underlying79,
  a41 := Tryd.isAgg79,
  z41 := Tryd.sizeOf79,
  v41 := Tryd.zeroValue79,
  i41 := by kernel_rfl,
  t44 := Tryd.underlying107,
  a44 := Tryd.isAgg107,
  z44 := Tryd.sizeOf107,
  v44 := Tryd.zeroValue107,
  i44 := by kernel_rfl,
  t49 := Tryd.underlying55,
  a49 := Tryd.isAgg55,
  z49 := Tryd.sizeOf55,
  v49 := Tryd.zeroValue55,
  i49 := by kernel_rfl,
  t51 := Tryd.underlying112,
  a51 := Tryd.isAgg112,
  z51 := Tryd.sizeOf112,
  v51 := Tryd.zeroValue112,
  i51 := by kernel_rfl,
  t53 := Tryd.underlying114,
  a53 := Tryd.isAgg114,
  z53 := Tryd.sizeOf114,
  v53 := Tryd.zeroValue114,
  i53 := by kernel_rfl,
  t54 := Tryd.underlying115,
  a54 := Tryd.isAgg115,
  z54 := Tryd.sizeOf115,
  v54 := Tryd.zeroValue115,
  i54 := by kernel_rfl,
  t58 := Tryd.underlying119,
  a58 := Tryd.isAgg119,
  z58 := Tryd.sizeOf119,
  v58 := Tryd.zeroValue119,
  i58 := by kernel_rfl,
  t60 := Tryd.underlying121,
  a60 := Tryd.isAgg121,
  z60 := Tryd.sizeOf121,
  v60 := Tryd.zeroValue121,
  i60 := by kernel_rfl,
  t64 := Tryd.underlying125,
  a64 := Tryd.isAgg125,
  z64 := Tryd.sizeOf125,
  v64 := Tryd.zeroValue125,
  i64 := by kernel_rfl,
  t66 := Tryd.underlying127,
  a66 := Tryd.isAgg127,
  z66 := Tryd.sizeOf127,
  v66 := Tryd.zeroValue127,
  i66 := by kernel_rfl,
  t67 := Tryd.underlying128,
  a67 := Tryd.isAgg128,
  z67 := Tryd.sizeOf128,
  v67 := Tryd.zeroValue128,
  i67 := by kernel_rfl,
  t75 := Tryd.underlying136,
  a75 := Tryd.isAgg136,
  z75 := Tryd.sizeOf136,
  v75 := Tryd.zeroValue136,
  i75 := by kernel_rfl,
  t76 := Tryd.underlying137,
  a76 := Tryd.isAgg137,
  z76 := Tryd.sizeOf137,
  v76 := Tryd.zeroValue137,
  i76 := by kernel_rfl,
  t77 := Tryd.underlying138,
  a77 := Tryd.isAgg138,
  z77 := Tryd.sizeOf138,
  v77 := Tryd.zeroValue138,
  i77 := by kernel_rfl,
  t78 := Tryd.underlying139,
  a78 := Tryd.isAgg139,
  z78 := Tryd.sizeOf139,
  v78 := Tryd.zeroValue139,
  i78 := by kernel_rfl,
  t79 := Tryd.underlying140,
  a79 := Tryd.isAgg140,
  z79 := Tryd.sizeOf140,
  v79 := Tryd.zeroValue140,
  i79 := by kernel_rfl,
  t80 := Tryd.underlying141,
  a80 := Tryd.isAgg141,
  z80 := Tryd.sizeOf141,
  v80 := Tryd.zeroValue141,
  i80 := by kernel_rfl,
  t82 := Tryd.underlying143,
  a82 := Tryd.isAgg143,
  z82 := Tryd.sizeOf143,
  v82 := Tryd.zeroValue143,
  i82 := by kernel_rfl }
noncomputable def siT : TypeInfo := (Tryd.prog.info? 92).get (by kernel_rfl)
noncomputable def siE : TypeInfo := (Tryd.prog.info? 55).get (by kernel_rfl)
theorem siK (n : Nat) (h2 : 2 ≤ n) : Go.Lib.swapperK n siE 10 = 6 := by
  have a : siE.hasPointers = false := by kernel_rfl
  have b : siE.bytes = 4 := by kernel_rfl
  have c : (n == 0) = false := by simp; omega
  have d : (n == 1) = false := by simp; omega
  simp [Go.Lib.swapperK, a, b, c, d]
theorem sortOk : SortC Tryd.prog seatE.tKs seatE.tU32 seatE.fSort seatE.fLess :=
  sort_ok (K := seatE) (T := seatT) (teA_of seatAOk) rfl rfl (by kernel_rfl) (FnIs.of (by kernel_rfl)) (by kernel_rfl)
    (fun lb blk off c d h2 hsz w hless hH hblk => Any.sort_Slice_sorted sl6 92 55 siT siE (by kernel_rfl) (by kernel_rfl) (by kernel_rfl) (by kernel_rfl) 10 (fun _ => by kernel_rfl) (by kernel_rfl) (fun _ => by kernel_rfl) u32V (fun _ => rfl) (fun a b : Nat => decide (a < b)) swo_nat 61 lb
      (enters_of Tryd.func61 (by kernel_rfl) rfl) blk off c d h2 hsz 73 (by rw [siK _ h2]; kernel_rfl) true
      (fun args W => run_callFunc_extern Tryd.func73 (by kernel_rfl) (by kernel_rfl) (by kernel_rfl) (e := Extern.ReflectliteSwapper.swap true) (by kernel_rfl) args W) w hless hH hblk)
    (fun p n c h1 lf la lb w => Any.sort_Slice_tiny sl6 92 55 siT siE (by kernel_rfl) (by kernel_rfl) (by kernel_rfl) (by kernel_rfl) 10 (fun _ => by kernel_rfl) p n c h1 (68 + n) (by
      rcases Nat.eq_zero_or_pos n with h | h
      · subst h; kernel_rfl
      · obtain rfl : n = 1 := by omega
        kernel_rfl) lf la lb w)
theorem fl : FlOk Tryd.prog seatK seatR := fl_none rfl rfl
theorem seatA : SeatA Tryd.prog seatK seatG seatS seatR seatTG := seatA_of seatAOk sortOk fl
/-- What the row's list gives: the variable holds an error. -/
theorem err {W : World} (h : laidMetH Tryd.prog [("pub-kmsg/pub/kmsg/inner/kbin.ErrNotEnoughData", Rows.laid_pub_kmsg_pub_kmsg_inner_kbin_ErrNotEnoughData)] W) : ∃ ev, W.cell? ⟨seatR.gErr, 0, none⟩ = some ev ∧ isErr ev := by
  rw [MakeChecks.laidMetH_plain _ _ _ (by kernel_rfl)] at h
  exact laid_err (t := 35) (by kernel_rfl) (by kernel_rfl) (by kernel_rfl) h
/-- A world that meets the row's list: the error as its initialiser lays it. -/
noncomputable def low : Nat := (World.holding Tryd.prog default ⟨#[], #[], []⟩).heap.size
abbrev errS : ByteArray := { data := #[114, 101, 115, 112, 111, 110, 115, 101, 32, 100, 105, 100, 32, 110, 111, 116, 32, 99, 111, 110, 116, 97, 105, 110, 32, 101, 110, 111, 117, 103, 104, 32, 100, 97, 116, 97, 32, 116, 111, 32, 98, 101, 32, 118, 97, 108, 105, 100] }
noncomputable def laidWorld (os : Os) : World :=
  let w0 := World.holding Tryd.prog os ⟨#[.cells #[.string errS] 148], #[], []⟩
  { w0 with heap := w0.heap.modify 1 fun
      | .cells _ t frozen => .cells #[.iface 130 (.pointer (some ⟨low, 0, none⟩))] t frozen
      | o => o }
theorem laid_met (os : Os) (args : Array Value) : laidMet Tryd.prog [("pub-kmsg/pub/kmsg/inner/kbin.ErrNotEnoughData", Rows.laid_pub_kmsg_pub_kmsg_inner_kbin_ErrNotEnoughData)] ((laidWorld os).forCall (fun _ _ => 0) ⟨#[], args, []⟩).memory :=
  laidMet_of_run (ps := [.cell 1 0, .cell low 0]) 8 (by kernel_rfl) (by kernel_rfl) (by kernel_rfl)
theorem own : ownKnob Tryd.prog.godebug = none := by kernel_rfl
theorem bulkOk (H : Type) : BulkOk (H := H) Rows.uptoBulk Rows.uptoBulkAll := {
  one := fun d => by
    cases d with
    | lit l => cases l <;> simp [Rows.uptoBulk]
    | nil => simp [Rows.uptoBulk]
    | ptr d => simp [Rows.uptoBulk]
    | slice e s => simp [Rows.uptoBulk]
    | agg ps => simp [Rows.uptoBulk]
    | iface n d => simp [Rows.uptoBulk]
    | map es => simp [Rows.uptoBulk]
    | held h => simp [Rows.uptoBulk]
  slice := fun e s => by simp only [Rows.uptoBulk]; omega
  agg := fun ps => by simp only [Rows.uptoBulk]; omega
  cons := fun d l => by simp only [Rows.uptoBulkAll]; omega }
end Go.Proofs.YtmehkjdaeohblaaDoor
