/- The seat's program passes the tests of what the laws that read rest on; sort.Slice's closure is laid; the listed error. No condition. -/
import Derived.Test.YtcpnjbbcbhbmcaaGreatDoorProg
import Derived.Test.YtcpnjbbcbhbmcaaGreatDoorRows
import Derived.Test.YtcpnjbbcbhbmcaaGreatDoorKxL
import Derived.KernelRfl
import Derived.MakeChecks
import Derived.LaidLaws
import Derived.Deep.DeepHandedRow
import Derived.Laws.Externs
import Derived.Shelf.Abstract
import Derived.ProofKit
namespace Go.Proofs.YtcpnjbbcbhbmcaaGreatDoor
open Go.Kx Go.Shelf Go.RowKit
set_option maxRecDepth 100000
def seatT : IT := { u8 := 5, u8s := 22, i8 := 0, i16 := 42, u16 := 39, i32 := 21, u32 := 62, i64 := 2, u64 := 78, int := 3, str := 9, bool := 4 }
def seatK : KB := { T := seatT, tP := 66, tA := 0, i8 := 0, u16 := 101, i16 := 66, u32 := 100, i32 := 65, u64 := 113, i64 := 82, bool := 85, uuid := 0, l32 := 121, uvl := 102, uv := 69, str := 79, cstr := 78, nstr := 68, cnstr := 67, byt := 0, cbyt := 0, nbyt := 0, cnbyt := 0, alen := 77, calen := 76, nalen := 0, cnalen := 0 }
def seatG : TN := { tSt := 69, tMap := 67, fLen := 70, fTeach := 71, fEach := 103, fCb := 104 }
def seatS : SN := { T := seatT, fds := 30, fd := 48, trs := 23, tr := 26, tgs := 24, tg := 64, msg := 32, fSame := 14, fVer := 12, fWrite := 10, fDflt := 0, fPart := 30, fHas := 56, fField := 57, fAt := 58, fKnown := 59, fUsual := 60, fUvar := 61, fUnk := 62, fWhole := 63, fNull := 86, fThings := 87, fCounted := 88, fValue := 89, fFixed := 90, fWidth := 91 }
def seatR : RN := { T := seatT, tR := 105, tBE := 121, gBE := 0, gErr := 1, tErr := 51, be16 := 116, be32 := 115, be64 := 131, uvd := 125, span := 119, uv := 117, i8 := 0, i16 := 93, u16 := 0, i32 := 92, i64 := 112, r64 := 124, bool := 114, str := 111, cstr := 110, nstr := 97, cnstr := 95, byt := 0, cbyt := 0, nbyt := 0, cnbyt := 0, uuid := 0, alen := 106, calen := 105, compl := 99, okf := 107 }
def seatTG : TG := { tSt := 69, tMap := 67, fSet := 120, fRead := 98 }
def seatE : EN := { tSt := 69, tMap := 67, tKs := 127, tU32 := 62, tInt := 3, fLess := 123, fSort := 122, fCb := 104 }
def seatZ : FTN := { f2 := 8, f3 := 27, f4 := 54 }
theorem seatOk : (seatB Tryz.prog seatK seatG seatS).all id = true := by kernel_rfl
theorem seat2Ok : (seat2B Tryz.prog seatK seatG seatS seatR seatTG seatE seatZ).all id = true := by kernel_rfl
theorem tree : TreeOk Tryz.prog seatS := tree_of (by kernel_rfl)
def sl6_ren : Go.Shelf.Ren := ⟨fun | 6 => 122 | 10 => 126 | 11 => 127 | 12 => 128 | 13 => 129 | 14 => 130 | 24 => 121 | 25 => 141 | 26 => 142 | 27 => 143 | 28 => 144 | 29 => 145 | 30 => 146 | 31 => 147 | 32 => 148 | 33 => 149 | 34 => 150 | 35 => 151 | 36 => 152 | 37 => 153 | 38 => 154 | 39 => 155 | n => n, fun | 20 => 20 | 26 => 129 | 35 => 136 | 0 => 0 | 37 => 138 | 3 => 3 | 41 => 103 | 44 => 143 | 49 => 62 | 51 => 78 | 4 => 4 | 54 => 151 | 53 => 150 | 58 => 155 | 5 => 5 | 9 => 9 | 60 => 157 | 64 => 160 | 66 => 162 | 67 => 163 | 17 => 17 | 32 => 133 | 33 => 134 | 82 => 178 | 12 => 12 | 75 => 171 | 76 => 172 | 77 => 173 | 78 => 174 | 79 => 175 | 80 => 176 | n => n, fun n => n⟩
theorem sl6 : LaysGg.n6 Tryz.prog sl6_ren := {
  mixed := by kernel_rfl,
  f6 := Tryz.func122.trans (congrArg some (by kernel_rfl)),
  f10 := Tryz.func126.trans (congrArg some (by kernel_rfl)),
  f11 := Tryz.func127.trans (congrArg some (by kernel_rfl)),
  f12 := Tryz.func128.trans (congrArg some (by kernel_rfl)),
  f13 := Tryz.func129.trans (congrArg some (by kernel_rfl)),
  f14 := Tryz.func130.trans (congrArg some (by kernel_rfl)),
  f24 := Tryz.func121.trans (congrArg some (by kernel_rfl)),
  f25 := Tryz.func141.trans (congrArg some (by kernel_rfl)),
  f26 := Tryz.func142.trans (congrArg some (by kernel_rfl)),
  f27 := Tryz.func143.trans (congrArg some (by kernel_rfl)),
  f28 := Tryz.func144.trans (congrArg some (by kernel_rfl)),
  f29 := Tryz.func145.trans (congrArg some (by kernel_rfl)),
  f30 := Tryz.func146.trans (congrArg some (by kernel_rfl)),
  f31 := Tryz.func147.trans (congrArg some (by kernel_rfl)),
  f32 := Tryz.func148.trans (congrArg some (by kernel_rfl)),
  f33 := Tryz.func149.trans (congrArg some (by kernel_rfl)),
  f34 := Tryz.func150.trans (congrArg some (by kernel_rfl)),
  f35 := Tryz.func151.trans (congrArg some (by kernel_rfl)),
  f36 := Tryz.func152.trans (congrArg some (by kernel_rfl)),
  f37 := Tryz.func153.trans (congrArg some (by kernel_rfl)),
  f38 := Tryz.func154.trans (congrArg some (by kernel_rfl)),
  f39 := Tryz.func155.trans (congrArg some (by kernel_rfl)),
  t0 := Tryz.underlying0,
  a0 := Tryz.isAgg0,
  z0 := Tryz.sizeOf0,
  v0 := Tryz.zeroValue0,
  i0 := by kernel_rfl,
  t3 := Tryz.underlying3,
  a3 := Tryz.isAgg3,
  z3 := Tryz.sizeOf3,
  v3 := Tryz.zeroValue3,
  i3 := by kernel_rfl,
  t4 := Tryz.underlying4,
  a4 := Tryz.isAgg4,
  z4 := Tryz.sizeOf4,
  v4 := Tryz.zeroValue4,
  i4 := by kernel_rfl,
  t5 := Tryz.underlying5,
  a5 := Tryz.isAgg5,
  z5 := Tryz.sizeOf5,
  v5 := Tryz.zeroValue5,
  i5 := by kernel_rfl,
  t9 := Tryz.underlying9,
  a9 := Tryz.isAgg9,
  z9 := Tryz.sizeOf9,
  v9 := Tryz.zeroValue9,
  i9 := by kernel_rfl,
  t12 := Tryz.underlying12,
  a12 := Tryz.isAgg12,
  z12 := Tryz.sizeOf12,
  v12 := Tryz.zeroValue12,
  i12 := by kernel_rfl,
  t17 := Tryz.underlying17,
  a17 := Tryz.isAgg17,
  z17 := Tryz.sizeOf17,
  v17 := Tryz.zeroValue17,
  i17 := by kernel_rfl,
  t20 := Tryz.underlying20,
  a20 := Tryz.isAgg20,
  z20 := Tryz.sizeOf20,
  v20 := Tryz.zeroValue20,
  i20 := by kernel_rfl,
  t26 := Tryz.underlying129,
  a26 := Tryz.isAgg129,
  z26 := Tryz.sizeOf129,
  v26 := Tryz.zeroValue129,
  i26 := by kernel_rfl,
  t32 := Tryz.underlying133,
  a32 := Tryz.isAgg133,
  z32 := Tryz.sizeOf133,
  v32 := Tryz.zeroValue133,
  i32 := by kernel_rfl,
  t33 := Tryz.underlying134,
  a33 := Tryz.isAgg134,
  z33 := Tryz.sizeOf134,
  v33 := Tryz.zeroValue134,
  i33 := by kernel_rfl,
  t35 := Tryz.underlying136,
  a35 := Tryz.isAgg136,
  z35 := Tryz.sizeOf136,
  v35 := Tryz.zeroValue136,
  i35 := by kernel_rfl,
  t37 := Tryz.underlying138,
  a37 := Tryz.isAgg138,
  z37 := Tryz.sizeOf138,
  v37 := Tryz.zeroValue138,
  i37 := by kernel_rfl,
  t41 := Tryz.underlying103,
  a41 := Tryz.isAgg103,
  z41 := Tryz.sizeOf103,
  v41 := Tryz.zeroValue103,
  i41 := by kernel_rfl,
  t44 := Tryz.underlying143,
  a44 := Tryz.isAgg143,
  z44 := Tryz.sizeOf143,
  v44 := Tryz.zeroValue143,
  i44 := by kernel_rfl,
  t49 := Tryz.underlying62,
  a49 := Tryz.isAgg62,
  z49 := Tryz.sizeOf62,
  v49 := Tryz.zeroValue62,
  i49 := by kernel_rfl,
  t51 := Tryz.underlying78,
  a51 := Tryz.isAgg78,
  z51 := Tryz.sizeOf78,
  v51 := Tryz.zeroValue78,
  i51 := by kernel_rfl,
  t53 := Tryz.underlying150,
  a53 := Tryz.isAgg150,
  z53 := Tryz.sizeOf150,
  v53 := Tryz.zeroValue150,
  i53 := by kernel_rfl,
  t54 := Tryz.underlying151,
  a54 := Tryz.isAgg151,
  z54 := Tryz.sizeOf151,
  v54 := Tryz.zeroValue151,
  i54 := by kernel_rfl,
  t58 := Tryz.underlying155,
  a58 := Tryz.isAgg155,
  z58 := Tryz.sizeOf155,
  v58 := Tryz.zeroValue155,
  i58 := by kernel_rfl,
  t60 := Tryz.underlying157,
  a60 := Tryz.isAgg157,
  z60 := Tryz.sizeOf157,
  v60 := Tryz.zeroValue157,
  i60 := by kernel_rfl,
  t64 := Tryz.underlying160,
  a64 := Tryz.isAgg160,
  z64 := Tryz.sizeOf160,
  v64 := Tryz.zeroValue160,
  i64 := by kernel_rfl,
  t66 := Tryz.underlying162,
  a66 := Tryz.isAgg162,
  z66 := Tryz.sizeOf162,
  v66 := Tryz.zeroValue162,
  i66 := by kernel_rfl,
  t67 := Tryz.underlying163,
  a67 := Tryz.isAgg163,
  z67 := Tryz.sizeOf163,
  v67 := Tryz.zeroValue163,
  i67 := by kernel_rfl,
  t75 := Tryz.underlying171,
  a75 := Tryz.isAgg171,
  z75 := Tryz.sizeOf171,
  v75 := Tryz.zeroValue171,
  i75 := by kernel_rfl,
  t76 := Tryz.underlying172,
  a76 := Tryz.isAgg172,
  z76 := Tryz.sizeOf172,
  v76 := Tryz.zeroValue172,
  i76 := by kernel_rfl,
  t77 := Tryz.underlying173,
  a77 := Tryz.isAgg173,
  z77 := Tryz.sizeOf173,
  v77 := Tryz.zeroValue173,
  i77 := by kernel_rfl,
  t78 := Tryz.underlying174,
  a78 := Tryz.isAgg174,
  z78 := Tryz.sizeOf174,
  v78 := Tryz.zeroValue174,
  i78 := by kernel_rfl,
  t79 := Tryz.underlying175,
  a79 := Tryz.isAgg175,
  z79 := Tryz.sizeOf175,
  v79 := Tryz.zeroValue175,
  i79 := by kernel_rfl,
  t80 := Tryz.underlying176,
  a80 := Tryz.isAgg176,
  z80 := Tryz.sizeOf176,
  v80 := Tryz.zeroValue176,
  i80 := by kernel_rfl,
  t82 := Tryz.underlying178,
  a82 := Tryz.isAgg178,
  z82 := Tryz.sizeOf178,
  v82 := Tryz.zeroValue178,
  i82 := by kernel_rfl }
noncomputable def siT : TypeInfo := (Tryz.prog.info? 127).get (by kernel_rfl)
noncomputable def siE : TypeInfo := (Tryz.prog.info? 62).get (by kernel_rfl)
theorem siK (n : Nat) (h2 : 2 ≤ n) : Go.Lib.swapperK n siE 10 = 6 := by
  have a : siE.hasPointers = false := by kernel_rfl
  have b : siE.bytes = 4 := by kernel_rfl
  have c : (n == 0) = false := by simp; omega
  have d : (n == 1) = false := by simp; omega
  simp [Go.Lib.swapperK, a, b, c, d]
theorem sortOk : SortC Tryz.prog seatE.tKs seatE.tU32 seatE.fSort seatE.fLess :=
  sort_ok (K := seatE) (T := seatT) (te_of seat2Ok) rfl rfl (by kernel_rfl) (FnIs.of (by kernel_rfl)) (by kernel_rfl)
    (fun lb blk off c d h2 hsz w hless hH hblk => Any.sort_Slice_sorted sl6 127 62 siT siE (by kernel_rfl) (by kernel_rfl) (by kernel_rfl) (by kernel_rfl) 10 (fun _ => by kernel_rfl) (by kernel_rfl) (fun _ => by kernel_rfl) u32V (fun _ => rfl) (fun a b : Nat => decide (a < b)) swo_nat 123 lb
      (enters_of Tryz.func123 (by kernel_rfl) rfl) blk off c d h2 hsz 137 (by rw [siK _ h2]; kernel_rfl) true
      (fun args W => run_callFunc_extern Tryz.func137 (by kernel_rfl) (by kernel_rfl) (by kernel_rfl) (e := Extern.ReflectliteSwapper.swap true) (by kernel_rfl) args W) w hless hH hblk)
    (fun p n c h1 lf la lb w => Any.sort_Slice_tiny sl6 127 62 siT siE (by kernel_rfl) (by kernel_rfl) (by kernel_rfl) (by kernel_rfl) 10 (fun _ => by kernel_rfl) p n c h1 (132 + n) (by
      rcases Nat.eq_zero_or_pos n with h | h
      · subst h; kernel_rfl
      · obtain rfl : n = 1 := by omega
        kernel_rfl) lf la lb w)
theorem seat2 : Seat2 Tryz.prog seatK seatG seatS seatR seatTG seatE seatZ := seat2_of seatOk seat2Ok sortOk
/-- What the row's list gives: the variable holds an error. -/
theorem err {W : World} (h : laidMetH Tryz.prog [("pub-kmsg/pub/kmsg/inner/kbin.ErrNotEnoughData", Rows.laid_pub_kmsg_pub_kmsg_inner_kbin_ErrNotEnoughData)] W) : ∃ ev, W.cell? ⟨seatR.gErr, 0, none⟩ = some ev ∧ isErr ev := by
  rw [MakeChecks.laidMetH_plain _ _ _ (by kernel_rfl)] at h
  exact laid_err (t := 51) (by kernel_rfl) (by kernel_rfl) (by kernel_rfl) h
/-- A world that meets the row's list: the error as its initialiser lays it. -/
noncomputable def low : Nat := (World.holding Tryz.prog default ⟨#[], #[], []⟩).heap.size
abbrev errS : ByteArray := { data := #[114, 101, 115, 112, 111, 110, 115, 101, 32, 100, 105, 100, 32, 110, 111, 116, 32, 99, 111, 110, 116, 97, 105, 110, 32, 101, 110, 111, 117, 103, 104, 32, 100, 97, 116, 97, 32, 116, 111, 32, 98, 101, 32, 118, 97, 108, 105, 100] }
noncomputable def laidWorld (os : Os) : World :=
  let w0 := World.holding Tryz.prog os ⟨#[.cells #[.string errS] 183], #[], []⟩
  { w0 with heap := w0.heap.modify 1 fun
      | .cells _ t frozen => .cells #[.iface 165 (.pointer (some ⟨low, 0, none⟩))] t frozen
      | o => o }
theorem laid_met (os : Os) (args : Array Value) : laidMet Tryz.prog [("pub-kmsg/pub/kmsg/inner/kbin.ErrNotEnoughData", Rows.laid_pub_kmsg_pub_kmsg_inner_kbin_ErrNotEnoughData)] ((laidWorld os).forCall (fun _ _ => 0) ⟨#[], args, []⟩).memory :=
  laidMet_of_run (ps := [.cell 1 0, .cell low 0]) 8 (by kernel_rfl) (by kernel_rfl) (by kernel_rfl)
theorem own : ownKnob Tryz.prog.godebug = none := by kernel_rfl
theorem bulkOk (H : Type) : BulkOk (H := H) Rows.uptoBulk Rows.uptoBulkAll := {
  one := fun d => by
    cases d with
    | lit l => cases l <;> simp [Rows.uptoBulk]
    | nil => simp [Rows.uptoBulk]
    | ptr d => simp [Rows.uptoBulk]
    | slice e s => simp [Rows.uptoBulk]
    | agg ps => simp [Rows.uptoBulk]
    | iface n d => simp [Rows.uptoBulk]
    | map es => simp [Rows.uptoBulk]
    | held h => simp [Rows.uptoBulk]
  slice := fun e s => by simp only [Rows.uptoBulk]; omega
  agg := fun ps => by simp only [Rows.uptoBulk]; omega
  cons := fun d l => by simp only [Rows.uptoBulkAll]; omega }
end Go.Proofs.YtcpnjbbcbhbmcaaGreatDoor
