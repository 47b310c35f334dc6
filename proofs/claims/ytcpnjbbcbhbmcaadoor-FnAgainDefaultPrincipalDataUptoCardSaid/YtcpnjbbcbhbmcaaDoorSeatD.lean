/- The seat's program passes the tests of what the laws that read rest on; sort.Slice's closure is laid; the listed error. No condition. -/
import Derived.Test.YtcpnjbbcbhbmcaaDoorProg
import Derived.Test.YtcpnjbbcbhbmcaaDoorRows
import Derived.Test.YtcpnjbbcbhbmcaaDoorKxM
import Derived.KernelRfl
import Derived.MakeChecks
import Derived.LaidLaws
import Derived.Deep.DeepHandedRow
import Derived.Laws.Externs
import Derived.Shelf.Abstract
import Derived.ProofKit
namespace Go.Proofs.YtcpnjbbcbhbmcaaDoor
open Go.Kx Go.Shelf Go.RowKit
set_option maxRecDepth 100000
def seatT : IT := { u8 := 5, u8s := 22, i8 := 0, i16 := 42, u16 := 101, i32 := 21, u32 := 63, i64 := 2, u64 := 75, int := 3, str := 9, bool := 4 }
def seatK : KB := { T := seatT, tP := 0, tA := 0, i8 := 0, u16 := 68, i16 := 45, u32 := 70, i32 := 47, u64 := 69, i64 := 46, bool := 55, uuid := 0, l32 := 85, uvl := 71, uv := 48, str := 54, cstr := 53, nstr := 0, cnstr := 0, byt := 0, cbyt := 0, nbyt := 0, cnbyt := 0, alen := 0, calen := 0, nalen := 0, cnalen := 0 }
def seatG : TN := { tSt := 57, tMap := 55, fLen := 49, fTeach := 50, fEach := 72, fCb := 73 }
def seatS : SN := { T := seatT, fds := 30, fd := 48, trs := 23, tr := 26, tgs := 24, tg := 65, msg := 32, fSame := 12, fVer := 10, fWrite := 8, fDflt := 0, fPart := 21, fHas := 36, fField := 37, fAt := 38, fKnown := 39, fUsual := 40, fUvar := 41, fUnk := 42, fWhole := 43, fNull := 58, fThings := 59, fCounted := 60, fValue := 61, fFixed := 25, fWidth := 62 }
def seatR : RN := { T := seatT, tA := 0, tR := 94, tBE := 110, gBE := 0, gErr := 1, tErr := 51, be16 := 79, be32 := 81, be64 := 89, uvd := 90, span := 84, uv := 82, i8 := 0, i16 := 63, u16 := 0, i32 := 65, i64 := 64, r64 := 80, bool := 78, str := 77, cstr := 76, nstr := 0, cnstr := 0, byt := 0, cbyt := 0, nbyt := 0, cnbyt := 0, uuid := 0, alen := 0, calen := 0, compl := 67, okf := 0 }
def seatTG : TG := { tSt := 57, tMap := 55, fSet := 83, fRead := 66 }
def seatE : EN := { tSt := 57, tMap := 55, tKs := 116, tU32 := 63, tInt := 3, fLess := 87, fSort := 86, fCb := 73 }
def seatZ : FTN := { f2 := 6, f3 := 18, f4 := 34 }
theorem seatAOk : (seatAB Tryd.prog seatK seatG seatS seatR seatTG seatE).all id = true := by kernel_rfl
theorem argOk : ArgOk Tryd.prog seatS := arg_of (by kernel_rfl)
def sl6_ren : Go.Shelf.Ren := ⟨fun | 6 => 86 | 10 => 91 | 11 => 92 | 12 => 93 | 13 => 94 | 14 => 95 | 24 => 85 | 25 => 105 | 26 => 106 | 27 => 107 | 28 => 108 | 29 => 109 | 30 => 110 | 31 => 111 | 32 => 112 | 33 => 113 | 34 => 114 | 35 => 115 | 36 => 116 | 37 => 117 | 38 => 118 | 39 => 119 | n => n, fun | 20 => 20 | 26 => 118 | 35 => 126 | 0 => 0 | 37 => 128 | 3 => 3 | 41 => 92 | 44 => 133 | 49 => 63 | 51 => 75 | 4 => 4 | 54 => 140 | 53 => 139 | 58 => 144 | 5 => 5 | 9 => 9 | 60 => 146 | 64 => 149 | 66 => 151 | 67 => 152 | 17 => 17 | 32 => 123 | 33 => 124 | 82 => 167 | 12 => 12 | 75 => 160 | 76 => 161 | 77 => 162 | 78 => 163 | 79 => 164 | 80 => 165 | n => n, fun n => n⟩
theorem sl6 : LaysGg.n6 Tryd.prog sl6_ren := {
  mixed := by kernel_rfl,
  f6 := Tryd.func86.trans (congrArg some (by kernel_rfl)),
  f10 := Tryd.func91.trans (congrArg some (by kernel_rfl)),
  f11 := Tryd.func92.trans (congrArg some (by kernel_rfl)),
  f12 := Tryd.func93.trans (congrArg some (by kernel_rfl)),
  f13 := Tryd.func94.trans (congrArg some (by kernel_rfl)),
  f14 := Tryd.func95.trans (congrArg some (by kernel_rfl)),
  f24 := Tryd.func85.trans (congrArg some (by kernel_rfl)),
  f25 := Tryd.func105.trans (congrArg some (by kernel_rfl)),
  f26 := Tryd.func106.trans (congrArg some (by kernel_rfl)),
  f27 := Tryd.func107.trans (congrArg some (by kernel_rfl)),
  f28 := Tryd.func108.trans (congrArg some (by kernel_rfl)),
  f29 := Tryd.func109.trans (congrArg some (by kernel_rfl)),
  f30 := Tryd.func110.trans (congrArg some (by kernel_rfl)),
  f31 := Tryd.func111.trans (congrArg some (by kernel_rfl)),
  f32 := Tryd.func112.trans (congrArg some (by kernel_rfl)),
  f33 := Tryd.func113.trans (congrArg some (by kernel_rfl)),
  f34 := Tryd.func114.trans (congrArg some (by kernel_rfl)),
  f35 := Tryd.func115.trans (congrArg some (by kernel_rfl)),
  f36 := Tryd.func116.trans (congrArg some (by kernel_rfl)),
  f37 := Tryd.func117.trans (congrArg some (by kernel_rfl)),
  f38 := Tryd.func118.trans (congrArg some (by kernel_rfl)),
  f39 := Tryd.func119.trans (congrArg some (by kernel_rfl)),
  t0 := Tryd.underlying0,
  a0 := Tryd.isAgg0,
  z0 := Tryd.sizeOf0,
  v0 := Tryd.zeroValue0,
  i0 := by kernel_rfl,
  t3 := Tryd.underlying3,
  a3 := Tryd.isAgg3,
  z3 := Tryd.sizeOf3,
  v3 := Tryd.zeroValue3,
  i3 := by kernel_rfl,
  t4 := Tryd.underlying4,
  a4 := Tryd.isAgg4,
  z4 := Tryd.sizeOf4,
  v4 := Tryd.zeroValue4,
  i4 := by kernel_rfl,
  t5 := Tryd.underlying5,
  a5 := Tryd.isAgg5,
  z5 := Tryd.sizeOf5,
  v5 := Tryd.zeroValue5,
  i5 := by kernel_rfl,
  t9 := Tryd.underlying9,
  a9 := Tryd.isAgg9,
  z9 := Tryd.sizeOf9,
  v9 := Tryd.zeroValue9,
  i9 := by kernel_rfl,
  t12 := Tryd.underlying12,
  a12 := Tryd.isAgg12,
  z12 := Tryd.sizeOf12,
  v12 := Tryd.zeroValue12,
  i12 := by kernel_rfl,
  t17 := Tryd.underlying17,
  a17 := Tryd.isAgg17,
  z17 := Tryd.sizeOf17,
  v17 := Tryd.zeroValue17,
  i17 := by kernel_rfl,
  t20 := Tryd.underlying20,
  a20 := Tryd.isAgg20,
  z20 := Tryd.sizeOf20,
  v20 := Tryd.zeroValue20,
  i20 := by kernel_rfl,
  t26 := Tryd.underlying118,
  a26 := Tryd.isAgg118,
  z26 := Tryd.sizeOf118,
  v26 := Tryd.zeroValue118,
  i26 := by kernel_rfl,
  t32 := Tryd.underlying123,
  a32 := Tryd.isAgg123,
  z32 := Tryd.sizeOf123,
  v32 := Tryd.zeroValue123,
  i32 := by kernel_rfl,
  t33 := Tryd.underlying124,
  a33 := Tryd.isAgg124,
  z33 := Tryd.sizeOf124,
  v33 := Tryd.zeroValue124,
  i33 := by kernel_rfl,
  t35 := Tryd.underlying126,
  a35 := Tryd.isAgg126,
  z35 := Tryd.sizeOf126,
  v35 := Tryd.zeroValue126,
  i35 := by kernel_rfl,
  t37 := Tryd.underlying128,
  a37 := Tryd.isAgg128,
  z37 := Tryd.sizeOf128,
  v37 := Tryd.zeroValue128,
  i37 := by kernel_rfl,
  t41 := Tryd.underlying92,
  a41 := Tryd.isAgg92,
  z41 := Tryd.sizeOf92,
  v41 := Tryd.zeroValue92,
  i41 := by kernel_rfl,
  t44 := Tryd.underlying133,
  a44 := Tryd.isAgg133,
  z44 := Tryd.sizeOf133,
  v44 := Tryd.zeroValue133,
  i44 := by kernel_rfl,
  t49 := Tryd.underlying63,
  a49 := Tryd.isAgg63,
  z49 := Tryd.sizeOf63,
  v49 := Tryd.zeroValue63,
  i49 := by kernel_rfl,
  t51 := Tryd.underlying75,
  a51 := Tryd.isAgg75,
  z51 := Tryd.sizeOf75,
  v51 := Tryd.zeroValue75,
  i51 := by kernel_rfl,
  t53 := Tryd.underlying139,
  a53 := Tryd.isAgg139,
  z53 := Tryd.sizeOf139,
  v53 := Tryd.zeroValue139,
  i53 := by kernel_rfl,
  t54 := Tryd.underlying140,
  a54 := Tryd.isAgg140,
  z54 := Tryd.sizeOf140,
  v54 := Tryd.zeroValue140,
  i54 := by kernel_rfl,
  t58 := Tryd.underlying144,
  a58 := Tryd.isAgg144,
  z58 := Tryd.sizeOf144,
  v58 := Tryd.zeroValue144,
  i58 := by kernel_rfl,
  t60 := Tryd.underlying146,
  a60 := Tryd.isAgg146,
  z60 := Tryd.sizeOf146,
  v60 := Tryd.zeroValue146,
  i60 := by kernel_rfl,
  t64 := Tryd.underlying149,
  a64 := Tryd.isAgg149,
  z64 := Tryd.sizeOf149,
  v64 := Tryd.zeroValue149,
  i64 := by kernel_rfl,
  t66 := Tryd.underlying151,
  a66 := Tryd.isAgg151,
  z66 := Tryd.sizeOf151,
  v66 := Tryd.zeroValue151,
  i66 := by kernel_rfl,
  t67 := Tryd.underlying152,
  a67 := Tryd.isAgg152,
  z67 := Tryd.sizeOf152,
  v67 := Tryd.zeroValue152,
  i67 := by kernel_rfl,
  t75 := Tryd.underlying160,
  a75 := Tryd.isAgg160,
  z75 := Tryd.sizeOf160,
  v75 := Tryd.zeroValue160,
  i75 := by kernel_rfl,
  t76 := Tryd.underlying161,
  a76 := Tryd.isAgg161,
  z76 := Tryd.sizeOf161,
  v76 := Tryd.zeroValue161,
  i76 := by kernel_rfl,
  t77 := Tryd.underlying162,
  a77 := Tryd.isAgg162,
  z77 := Tryd.sizeOf162,
  v77 := Tryd.zeroValue162,
  i77 := by kernel_rfl,
  t78 := Tryd.underlying163,
  a78 := Tryd.isAgg163,
  z78 := Tryd.sizeOf163,
  v78 := Tryd.zeroValue163,
  i78 := by kernel_rfl,
  t79 := Tryd.underlying164,
  a79 := Tryd.isAgg164,
  z79 := Tryd.sizeOf164,
  v79 := Tryd.zeroValue164,
  i79 := by kernel_rfl,
  t80 := Tryd.underlying165,
  a80 := Tryd.isAgg165,
  z80 := Tryd.sizeOf165,
  v80 := Tryd.zeroValue165,
  i80 := by kernel_rfl,
  t82 := Tryd.underlying167,
  a82 := Tryd.isAgg167,
  z82 := Tryd.sizeOf167,
  v82 := Tryd.zeroValue167,
  i82 := by kernel_rfl }
noncomputable def siT : TypeInfo := (Tryd.prog.info? 116).get (by kernel_rfl)
noncomputable def siE : TypeInfo := (Tryd.prog.info? 63).get (by kernel_rfl)
theorem siK (n : Nat) (h2 : 2 ≤ n) : Go.Lib.swapperK n siE 10 = 6 := by
  have a : siE.hasPointers = false := by kernel_rfl
  have b : siE.bytes = 4 := by kernel_rfl
  have c : (n == 0) = false := by simp; omega
  have d : (n == 1) = false := by simp; omega
  simp [Go.Lib.swapperK, a, b, c, d]
theorem sortOk : SortC Tryd.prog seatE.tKs seatE.tU32 seatE.fSort seatE.fLess :=
  sort_ok (K := seatE) (T := seatT) (teA_of seatAOk) rfl rfl (by kernel_rfl) (FnIs.of (by kernel_rfl)) (by kernel_rfl)
    (fun lb blk off c d h2 hsz w hless hH hblk => Any.sort_Slice_sorted sl6 116 63 siT siE (by kernel_rfl) (by kernel_rfl) (by kernel_rfl) (by kernel_rfl) 10 (fun _ => by kernel_rfl) (by kernel_rfl) (fun _ => by kernel_rfl) u32V (fun _ => rfl) (fun a b : Nat => decide (a < b)) swo_nat 87 lb
      (enters_of Tryd.func87 (by kernel_rfl) rfl) blk off c d h2 hsz 101 (by rw [siK _ h2]; kernel_rfl) true
      (fun args W => run_callFunc_extern Tryd.func101 (by kernel_rfl) (by kernel_rfl) (by kernel_rfl) (e := Extern.ReflectliteSwapper.swap true) (by kernel_rfl) args W) w hless hH hblk)
    (fun p n c h1 lf la lb w => Any.sort_Slice_tiny sl6 116 63 siT siE (by kernel_rfl) (by kernel_rfl) (by kernel_rfl) (by kernel_rfl) 10 (fun _ => by kernel_rfl) p n c h1 (96 + n) (by
      rcases Nat.eq_zero_or_pos n with h | h
      · subst h; kernel_rfl
      · obtain rfl : n = 1 := by omega
        kernel_rfl) lf la lb w)
theorem seatA : SeatA Tryd.prog seatK seatG seatS seatR seatTG := seatA_of seatAOk sortOk
theorem seatOk : (seatB Tryd.prog seatK seatG seatS).all id = true := by kernel_rfl
theorem seat2Ok : (seat2B Tryd.prog seatK seatG seatS seatR seatTG seatE seatZ).all id = true := by kernel_rfl
theorem tree : TreeOk Tryd.prog seatS := tree_of (by kernel_rfl)
theorem seat2 : Seat2 Tryd.prog seatK seatG seatS seatR seatTG seatE seatZ := seat2_of seatOk seat2Ok sortOk
/-- What the row's list gives: the variable holds an error. -/
theorem err {W : World} (h : laidMetH Tryd.prog [("pub-kmsg/pub/kmsg/inner/kbin.ErrNotEnoughData", Rows.laid_pub_kmsg_pub_kmsg_inner_kbin_ErrNotEnoughData)] W) : ∃ ev, W.cell? ⟨seatR.gErr, 0, none⟩ = some ev ∧ isErr ev := by
  rw [MakeChecks.laidMetH_plain _ _ _ (by kernel_rfl)] at h
  exact laid_err (t := 51) (by kernel_rfl) (by kernel_rfl) (by kernel_rfl) h
/-- A world that meets the row's list: the error as its initialiser lays it. -/
noncomputable def low : Nat := (World.holding Tryd.prog default ⟨#[], #[], []⟩).heap.size
abbrev errS : ByteArray := { data := #[114, 101, 115, 112, 111, 110, 115, 101, 32, 100, 105, 100, 32, 110, 111, 116, 32, 99, 111, 110, 116, 97, 105, 110, 32, 101, 110, 111, 117, 103, 104, 32, 100, 97, 116, 97, 32, 116, 111, 32, 98, 101, 32, 118, 97, 108, 105, 100] }
noncomputable def laidWorld (os : Os) : World :=
  let w0 := World.holding Tryd.prog os ⟨#[.cells #[.string errS] 172], #[], []⟩
  { w0 with heap := w0.heap.modify 1 fun
      | .cells _ t frozen => .cells #[.iface 154 (.pointer (some ⟨low, 0, none⟩))] t frozen
      | o => o }
theorem laid_met (os : Os) (args : Array Value) : laidMet Tryd.prog [("pub-kmsg/pub/kmsg/inner/kbin.ErrNotEnoughData", Rows.laid_pub_kmsg_pub_kmsg_inner_kbin_ErrNotEnoughData)] ((laidWorld os).forCall (fun _ _ => 0) ⟨#[], args, []⟩).memory :=
  laidMet_of_run (ps := [.cell 1 0, .cell low 0]) 8 (by kernel_rfl) (by kernel_rfl) (by kernel_rfl)
theorem own : ownKnob Tryd.prog.godebug = none := by kernel_rfl
theorem bulkOk (H : Type) : BulkOk (H := H) Rows.uptoBulk Rows.uptoBulkAll := {
  one := fun d => by
    cases d with
    | lit l => cases l <;> simp [Rows.uptoBulk]
    | nil => simp [Rows.uptoBulk]
    | ptr d => simp [Rows.uptoBulk]
    | slice e s => simp [Rows.uptoBulk]
    | agg ps => simp [Rows.uptoBulk]
    | iface n d => simp [Rows.uptoBulk]
    | map es => simp [Rows.uptoBulk]
    | held h => simp [Rows.uptoBulk]
  slice := fun e s => by simp only [Rows.uptoBulk]; omega
  agg := fun ps => by simp only [Rows.uptoBulk]; omega
  cons := fun d l => by simp only [Rows.uptoBulkAll]; omega }
end Go.Proofs.YtcpnjbbcbhbmcaaDoor
