/- The seat's program passes the tests of what the laws that read rest on; sort.Slice's closure is laid; the listed error. No condition. -/
import Derived.Test.YthnlfmcijgphmaaGreatDoorProg
import Derived.Test.YthnlfmcijgphmaaGreatDoorRows
import Derived.Test.YthnlfmcijgphmaaGreatDoorKxN
import Derived.KernelRfl
import Derived.MakeChecks
import Derived.LaidLaws
import Derived.Deep.DeepHandedRow
import Derived.Laws.Externs
import Derived.Shelf.Abstract
import Derived.ProofKit
namespace Go.Proofs.YthnlfmcijgphmaaGreatDoor
open Go.Kx Go.Shelf Go.RowKit
set_option maxRecDepth 100000
def seatT : IT := { u8 := 5, u8s := 22, i8 := 0, i16 := 29, u16 := 73, i32 := 21, u32 := 67, i64 := 2, u64 := 90, int := 3, str := 9, bool := 4 }
def seatK : KB := { T := seatT, tP := 38, tA := 62, i8 := 0, u16 := 28, i16 := 15, u32 := 52, i32 := 22, u64 := 53, i64 := 23, bool := 0, uuid := 24, l32 := 64, uvl := 54, uv := 25, str := 21, cstr := 20, nstr := 17, cnstr := 16, byt := 0, cbyt := 0, nbyt := 0, cnbyt := 0, alen := 19, calen := 18, nalen := 0, cnalen := 0, f64 := 0, ffb := 0 }
def seatG : TN := { tSt := 43, tMap := 41, fLen := 26, fTeach := 27, fEach := 55, fCb := 56 }
def seatS : SN := { T := seatT, fds := 0, fd := 0, trs := 0, tr := 0, tgs := 0, tg := 0, msg := 0, fSame := 7, fVer := 6, fWrite := 0, fDflt := 0, fPart := 0, fHas := 0, fField := 0, fAt := 0, fKnown := 0, fUsual := 0, fUvar := 0, fUnk := 0, fWhole := 0, fNull := 0, fThings := 0, fCounted := 0, fValue := 0, fFixed := 0, fWidth := 0 }
def seatR : RN := { T := seatT, tA := 62, tR := 78, tBE := 97, gBE := 0, gErr := 1, tErr := 35, be16 := 57, be32 := 61, be64 := 68, uvd := 67, span := 60, uv := 58, i8 := 0, i16 := 29, u16 := 51, i32 := 44, i64 := 45, r64 := 62, bool := 0, str := 42, cstr := 41, nstr := 33, cnstr := 31, byt := 0, cbyt := 0, nbyt := 0, cnbyt := 0, uuid := 47, alen := 35, calen := 34, compl := 37, okf := 36, f64 := 0, ffr := 0 }
def seatTG : TG := { tSt := 43, tMap := 41, fSet := 63, fRead := 48 }
def seatE : EN := { tSt := 43, tMap := 41, tKs := 104, tU32 := 67, tInt := 3, fLess := 66, fSort := 65, fCb := 56 }
def seatZ : FTN := { f2 := 0, f3 := 0, f4 := 0 }
theorem seatAOk : (seatAB Tryz.prog seatK seatG seatS seatR seatTG seatE).all id = true := by kernel_rfl
theorem argOk : ArgOk Tryz.prog seatS := arg_of (by kernel_rfl)
def sl6_ren : Go.Shelf.Ren := ⟨fun | 6 => 65 | 10 => 69 | 11 => 70 | 12 => 71 | 13 => 72 | 14 => 73 | 24 => 64 | 25 => 83 | 26 => 84 | 27 => 85 | 28 => 86 | 29 => 87 | 30 => 88 | 31 => 89 | 32 => 90 | 33 => 91 | 34 => 92 | 35 => 93 | 36 => 94 | 37 => 95 | 38 => 96 | 39 => 97 | n => n, fun | 20 => 20 | 26 => 106 | 35 => 113 | 0 => 0 | 37 => 115 | 3 => 3 | 41 => 92 | 44 => 120 | 49 => 67 | 51 => 90 | 4 => 4 | 54 => 127 | 53 => 126 | 58 => 131 | 5 => 5 | 9 => 9 | 60 => 133 | 64 => 136 | 66 => 138 | 67 => 139 | 17 => 17 | 32 => 110 | 33 => 111 | 82 => 154 | 12 => 12 | 75 => 147 | 76 => 148 | 77 => 149 | 78 => 150 | 79 => 151 | 80 => 152 | n => n, fun n => n⟩
theorem sl6 : LaysGg.n6 Tryz.prog sl6_ren := {
  mixed := by kernel_rfl,
  f6 := Tryz.func65.trans (congrArg some (by kernel_rfl)),
  f10 := Tryz.func69.trans (congrArg some (by kernel_rfl)),
  f11 := Tryz.func70.trans (congrArg some (by kernel_rfl)),
  f12 := Tryz.func71.trans (congrArg some (by kernel_rfl)),
  f13 := Tryz.func72.trans (congrArg some (by kernel_rfl)),
  f14 := Tryz.func73.trans (congrArg some (by kernel_rfl)),
  f24 := Tryz.func64.trans (congrArg some (by kernel_rfl)),
  f25 := Tryz.func83.trans (congrArg some (by kernel_rfl)),
  f26 := Tryz.func84.trans (congrArg some (by kernel_rfl)),
  f27 := Tryz.func85.trans (congrArg some (by kernel_rfl)),
  f28 := Tryz.func86.trans (congrArg some (by kernel_rfl)),
  f29 := Tryz.func87.trans (congrArg some (by kernel_rfl)),
  f30 := Tryz.func88.trans (congrArg some (by kernel_rfl)),
  f31 := Tryz.func89.trans (congrArg some (by kernel_rfl)),
  f32 := Tryz.func90.trans (congrArg some (by kernel_rfl)),
  f33 := Tryz.func91.trans (congrArg some (by kernel_rfl)),
  f34 := Tryz.func92.trans (congrArg some (by kernel_rfl)),
  f35 := Tryz.func93.trans (congrArg some (by kernel_rfl)),
  f36 := Tryz.func94.trans (congrArg some (by kernel_rfl)),
  f37 := Tryz.func95.trans (congrArg some (by kernel_rfl)),
  f38 := Tryz.func96.trans (congrArg some (by kernel_rfl)),
  f39 := Tryz.func97.trans (congrArg some (by kernel_rfl)),
  t0 := Tryz.underlying0,
  a0 := Tryz.isAgg0,
  z0 := Tryz.sizeOf0,
  v0 := Tryz.zeroValue0,
  i0 := by kernel_rfl,
  t3 := Tryz.underlying3,
  a3 := Tryz.isAgg3,
  z3 := Tryz.sizeOf3,
  v3 := Tryz.zeroValue3,
  i3 := by kernel_rfl,
  t4 := Tryz.underlying4,
  a4 := Tryz.isAgg4,
  z4 := Tryz.sizeOf4,
  v4 := Tryz.zeroValue4,
  i4 := by kernel_rfl,
  t5 := Tryz.underlying5,
  a5 := Tryz.isAgg5,
  z5 := Tryz.sizeOf5,
  v5 := Tryz.zeroValue5,
  i5 := by kernel_rfl,
  t9 := Tryz.underlying9,
  a9 := Tryz.isAgg9,
  z9 := Tryz.sizeOf9,
  v9 := Tryz.zeroValue9,
  i9 := by kernel_rfl,
  t12 := Tryz.underlying12,
  a12 := Tryz.isAgg12,
  z12 := Tryz.sizeOf12,
  v12 := Tryz.zeroValue12,
  i12 := by kernel_rfl,
  t17 := Tryz.underlying17,
  a17 := Tryz.isAgg17,
  z17 := Tryz.sizeOf17,
  v17 := Tryz.zeroValue17,
  i17 := by kernel_rfl,
  t20 := Tryz.underlying20,
  a20 := Tryz.isAgg20,
  z20 := Tryz.sizeOf20,
  v20 := Tryz.zeroValue20,
  i20 := by kernel_rfl,
  t26 := Tryz.underlying106,
  a26 := Tryz.isAgg106,
  z26 := Tryz.sizeOf106,
  v26 := Tryz.zeroValue106,
  i26 := by kernel_rfl,
  t32 := Tryz.underlying110,
  a32 := Tryz.isAgg110,
  z32 := Tryz.sizeOf110,
  v32 := Tryz.zeroValue110,
  i32 := by kernel_rfl,
  t33 := Tryz.underlying111,
  a33 := Tryz.isAgg111,
  z33 := Tryz.sizeOf111,
  v33 := Tryz.zeroValue111,
  i33 := by kernel_rfl,
  t35 := Tryz.underlying113,
  a35 := Tryz.isAgg113,
  z35 := Tryz.sizeOf113,
  v35 := Tryz.zeroValue113,
  i35 := by kernel_rfl,
  t37 := Tryz.underlying115,
  a37 := Tryz.isAgg115,
  z37 := Tryz.sizeOf115,
  v37 := Tryz.zeroValue115,
  i37 := by kernel_rfl,
  t41 := Tryz.underlying92,
  a41 := Tryz.isAgg92,
  z41 := Tryz.sizeOf92,
  v41 := Tryz.zeroValue92,
  i41 := by kernel_rfl,
  t44 := Tryz.underlying120,
  a44 := Tryz.isAgg120,
  z44 := Tryz.sizeOf120,
  v44 := Tryz.zeroValue120,
  i44 := by kernel_rfl,
  t49 := Tryz.underlying67,
  a49 := Tryz.isAgg67,
  z49 := Tryz.sizeOf67,
  v49 := Tryz.zeroValue67,
  i49 := by kernel_rfl,
  t51 := Tryz.underlying90,
  a51 := Tryz.isAgg90,
  z51 := Tryz.sizeOf90,
  v51 := Tryz.zeroValue90,
  i51 := by kernel_rfl,
  t53 := Tryz.underlying126,
  a53 := Tryz.isAgg126,
  z53 := Tryz.sizeOf126,
  v53 := Tryz.zeroValue126,
  i53 := by kernel_rfl,
  t54 := Tryz.underlying127,
  a54 := Tryz.isAgg127,
  z54 := Tryz.sizeOf127,
  v54 := Tryz.zeroValue127,
  i54 := by kernel_rfl,
  t58 := Tryz.underlying131,
  a58 := Tryz.isAgg131,
  z58 := Tryz.sizeOf131,
  v58 := Tryz.zeroValue131,
  i58 := by kernel_rfl,
  t60 := Tryz.underlying133,
  a60 := Tryz.isAgg133,
  z60 := Tryz.sizeOf133,
  v60 := Tryz.zeroValue133,
  i60 := by kernel_rfl,
  t64 := Tryz.underlying136,
  a64 := Tryz.isAgg136,
  z64 := Tryz.sizeOf136,
  v64 := Tryz.zeroValue136,
  i64 := by kernel_rfl,
  t66 := Tryz.underlying138,
  a66 := Tryz.isAgg138,
  z66 := Tryz.sizeOf138,
  v66 := Tryz.zeroValue138,
  i66 := by kernel_rfl,
  t67 := Tryz.underlying139,
  a67 := Tryz.isAgg139,
  z67 := Tryz.sizeOf139,
  v67 := Tryz.zeroValue139,
  i67 := by kernel_rfl,
  t75 := Tryz.underlying147,
  a75 := Tryz.isAgg147,
  z75 := Tryz.sizeOf147,
  v75 := Tryz.zeroValue147,
  i75 := by kernel_rfl,
  t76 := Tryz.underlying148,
  a76 := Tryz.isAgg148,
  z76 := Tryz.sizeOf148,
  v76 := Tryz.zeroValue148,
  i76 := by kernel_rfl,
  t77 := Tryz.underlying149,
  a77 := Tryz.isAgg149,
  z77 := Tryz.sizeOf149,
  v77 := Tryz.zeroValue149,
  i77 := by kernel_rfl,
  t78 := Tryz.underlying150,
  a78 := Tryz.isAgg150,
  z78 := Tryz.sizeOf150,
  v78 := Tryz.zeroValue150,
  i78 := by kernel_rfl,
  t79 := Tryz.underlying151,
  a79 := Tryz.isAgg151,
  z79 := Tryz.sizeOf151,
  v79 := Tryz.zeroValue151,
  i79 := by kernel_rfl,
  t80 := Tryz.underlying152,
  a80 := Tryz.isAgg152,
  z80 := Tryz.sizeOf152,
  v80 := Tryz.zeroValue152,
  i80 := by kernel_rfl,
  t82 := Tryz.underlying154,
  a82 := Tryz.isAgg154,
  z82 := Tryz.sizeOf154,
  v82 := Tryz.zeroValue154,
  i82 := by kernel_rfl }
noncomputable def siT : TypeInfo := (Tryz.prog.info? 104).get (by kernel_rfl)
noncomputable def siE : TypeInfo := (Tryz.prog.info? 67).get (by kernel_rfl)
theorem siK (n : Nat) (h2 : 2 ≤ n) : Go.Lib.swapperK n siE 10 = 6 := by
  have a : siE.hasPointers = false := by kernel_rfl
  have b : siE.bytes = 4 := by kernel_rfl
  have c : (n == 0) = false := by simp; omega
  have d : (n == 1) = false := by simp; omega
  simp [Go.Lib.swapperK, a, b, c, d]
theorem sortOk : SortC Tryz.prog seatE.tKs seatE.tU32 seatE.fSort seatE.fLess :=
  sort_ok (K := seatE) (T := seatT) (teA_of seatAOk) rfl rfl (by kernel_rfl) (FnIs.of (by kernel_rfl)) (by kernel_rfl)
    (fun lb blk off c d h2 hsz w hless hH hblk => Any.sort_Slice_sorted sl6 104 67 siT siE (by kernel_rfl) (by kernel_rfl) (by kernel_rfl) (by kernel_rfl) 10 (fun _ => by kernel_rfl) (by kernel_rfl) (fun _ => by kernel_rfl) u32V (fun _ => rfl) (fun a b : Nat => decide (a < b)) swo_nat 66 lb
      (enters_of Tryz.func66 (by kernel_rfl) rfl) blk off c d h2 hsz 79 (by rw [siK _ h2]; kernel_rfl) true
      (fun args W => run_callFunc_extern Tryz.func79 (by kernel_rfl) (by kernel_rfl) (by kernel_rfl) (e := Extern.ReflectliteSwapper.swap true) (by kernel_rfl) args W) w hless hH hblk)
    (fun p n c h1 lf la lb w => Any.sort_Slice_tiny sl6 104 67 siT siE (by kernel_rfl) (by kernel_rfl) (by kernel_rfl) (by kernel_rfl) 10 (fun _ => by kernel_rfl) p n c h1 (74 + n) (by
      rcases Nat.eq_zero_or_pos n with h | h
      · subst h; kernel_rfl
      · obtain rfl : n = 1 := by omega
        kernel_rfl) lf la lb w)
theorem fl : FlOk Tryz.prog seatK seatR := fl_none rfl rfl
theorem seatA : SeatA Tryz.prog seatK seatG seatS seatR seatTG := seatA_of seatAOk sortOk fl
/-- What the row's list gives: the variable holds an error. -/
theorem err {W : World} (h : laidMetH Tryz.prog [("pub-kmsg/pub/kmsg/inner/kbin.ErrNotEnoughData", Rows.laid_pub_kmsg_pub_kmsg_inner_kbin_ErrNotEnoughData)] W) : ∃ ev, W.cell? ⟨seatR.gErr, 0, none⟩ = some ev ∧ isErr ev := by
  rw [MakeChecks.laidMetH_plain _ _ _ (by kernel_rfl)] at h
  exact laid_err (t := 35) (by kernel_rfl) (by kernel_rfl) (by kernel_rfl) h
/-- A world that meets the row's list: the error as its initialiser lays it. -/
noncomputable def low : Nat := (World.holding Tryz.prog default ⟨#[], #[], []⟩).heap.size
abbrev errS : ByteArray := { data := #[114, 101, 115, 112, 111, 110, 115, 101, 32, 100, 105, 100, 32, 110, 111, 116, 32, 99, 111, 110, 116, 97, 105, 110, 32, 101, 110, 111, 117, 103, 104, 32, 100, 97, 116, 97, 32, 116, 111, 32, 98, 101, 32, 118, 97, 108, 105, 100] }
noncomputable def laidWorld (os : Os) : World :=
  let w0 := World.holding Tryz.prog os ⟨#[.cells #[.string errS] 159], #[], []⟩
  { w0 with heap := w0.heap.modify 1 fun
      | .cells _ t frozen => .cells #[.iface 141 (.pointer (some ⟨low, 0, none⟩))] t frozen
      | o => o }
theorem laid_met (os : Os) (args : Array Value) : laidMet Tryz.prog [("pub-kmsg/pub/kmsg/inner/kbin.ErrNotEnoughData", Rows.laid_pub_kmsg_pub_kmsg_inner_kbin_ErrNotEnoughData)] ((laidWorld os).forCall (fun _ _ => 0) ⟨#[], args, []⟩).memory :=
  laidMet_of_run (ps := [.cell 1 0, .cell low 0]) 8 (by kernel_rfl) (by kernel_rfl) (by kernel_rfl)
theorem own : ownKnob Tryz.prog.godebug = none := by kernel_rfl
theorem bulkOk (H : Type) : BulkOk (H := H) Rows.uptoBulk Rows.uptoBulkAll := {
  one := fun d => by
    cases d with
    | lit l => cases l <;> simp [Rows.uptoBulk]
    | nil => simp [Rows.uptoBulk]
    | ptr d => simp [Rows.uptoBulk]
    | slice e s => simp [Rows.uptoBulk]
    | agg ps => simp [Rows.uptoBulk]
    | iface n d => simp [Rows.uptoBulk]
    | map es => simp [Rows.uptoBulk]
    | held h => simp [Rows.uptoBulk]
  slice := fun e s => by simp only [Rows.uptoBulk]; omega
  agg := fun ps => by simp only [Rows.uptoBulk]; omega
  cons := fun d l => by simp only [Rows.uptoBulkAll]; omega }
end Go.Proofs.YthnlfmcijgphmaaGreatDoor
