/- The seat's program passes the tests of what the laws that read rest on; sort.Slice's closure is laid; the listed error. No condition. -/
import Derived.Test.YtmehkjdaeohblaaGreatDoorProg
import Derived.Test.YtmehkjdaeohblaaGreatDoorRows
import Derived.Test.YtmehkjdaeohblaaGreatDoorKxM
import Derived.KernelRfl
import Derived.MakeChecks
import Derived.LaidLaws
import Derived.Deep.DeepHandedRow
import Derived.Laws.Externs
import Derived.Shelf.Abstract
import Derived.ProofKit
namespace Go.Proofs.YtmehkjdaeohblaaGreatDoor
open Go.Kx Go.Shelf Go.RowKit
set_option maxRecDepth 100000
def seatT : IT := { u8 := 5, u8s := 22, i8 := 0, i16 := 40, u16 := 83, i32 := 21, u32 := 55, i64 := 2, u64 := 75, int := 3, str := 9, bool := 4 }
def seatK : KB := { T := seatT, tP := 62, tA := 59, i8 := 0, u16 := 48, i16 := 49, u32 := 89, i32 := 42, u64 := 93, i64 := 56, bool := 55, uuid := 45, l32 := 104, uvl := 90, uv := 50, str := 44, cstr := 43, nstr := 54, cnstr := 53, byt := 0, cbyt := 0, nbyt := 0, cnbyt := 0, alen := 47, calen := 46, nalen := 61, cnalen := 60, f64 := 0, ffb := 0 }
def seatG : TN := { tSt := 66, tMap := 64, fLen := 51, fTeach := 52, fEach := 91, fCb := 92 }
def seatS : SN := { T := seatT, fds := 30, fd := 46, trs := 23, tr := 26, tgs := 24, tg := 57, msg := 32, fSame := 11, fVer := 9, fWrite := 7, fDflt := 0, fPart := 18, fHas := 33, fField := 34, fAt := 35, fKnown := 36, fUsual := 37, fUvar := 38, fUnk := 39, fWhole := 40, fNull := 62, fThings := 63, fCounted := 64, fValue := 65, fFixed := 66, fWidth := 67 }
def seatR : RN := { T := seatT, tA := 59, tR := 119, tBE := 136, gBE := 0, gErr := 1, tErr := 50, be16 := 101, be32 := 97, be64 := 108, uvd := 107, span := 100, uv := 98, i8 := 0, i16 := 80, u16 := 79, i32 := 68, i64 := 88, r64 := 103, bool := 87, str := 72, cstr := 71, nstr := 86, cnstr := 84, byt := 0, cbyt := 0, nbyt := 0, cnbyt := 0, uuid := 73, alen := 75, calen := 74, compl := 77, okf := 76, f64 := 0, ffr := 0 }
def seatTG : TG := { tSt := 66, tMap := 64, fSet := 102, fRead := 81 }
def seatE : EN := { tSt := 66, tMap := 64, tKs := 143, tU32 := 55, tInt := 3, fLess := 106, fSort := 105, fCb := 92 }
def seatZ : FTN := { f2 := 5, f3 := 15, f4 := 31 }
theorem seatAOk : (seatAB Tryz.prog seatK seatG seatS seatR seatTG seatE).all id = true := by kernel_rfl
theorem argOk : ArgOk Tryz.prog seatS := arg_of (by kernel_rfl)
def sl6_ren : Go.Shelf.Ren := ⟨fun | 6 => 105 | 10 => 109 | 11 => 110 | 12 => 111 | 13 => 112 | 14 => 113 | 24 => 104 | 25 => 123 | 26 => 124 | 27 => 125 | 28 => 126 | 29 => 127 | 30 => 128 | 31 => 129 | 32 => 130 | 33 => 131 | 34 => 132 | 35 => 133 | 36 => 134 | 37 => 135 | 38 => 136 | 39 => 137 | n => n, fun | 20 => 20 | 26 => 145 | 35 => 152 | 0 => 0 | 37 => 154 | 3 => 3 | 41 => 117 | 44 => 159 | 49 => 55 | 51 => 75 | 4 => 4 | 54 => 166 | 53 => 165 | 58 => 170 | 5 => 5 | 9 => 9 | 60 => 172 | 64 => 175 | 66 => 177 | 67 => 178 | 17 => 17 | 32 => 149 | 33 => 150 | 82 => 193 | 12 => 12 | 75 => 186 | 76 => 187 | 77 => 188 | 78 => 189 | 79 => 190 | 80 => 191 | n => n, fun n => n⟩
theorem sl6 : LaysGg.n6 Tryz.prog sl6_ren := {
  mixed := by kernel_rfl,
  f6 := Tryz.func105.trans (congrArg some (by kernel_rfl)),
  f10 := Tryz.func109.trans (congrArg some (by kernel_rfl)),
  f11 := Tryz.func110.trans (congrArg some (by kernel_rfl)),
  f12 := Tryz.func111.trans (congrArg some (by kernel_rfl)),
  f13 := Tryz.func112.trans (congrArg some (by kernel_rfl)),
  f14 := Tryz.func113.trans (congrArg some (by kernel_rfl)),
  f24 := Tryz.func104.trans (congrArg some (by kernel_rfl)),
  f25 := Tryz.func123.trans (congrArg some (by kernel_rfl)),
  f26 := Tryz.func124.trans (congrArg some (by kernel_rfl)),
  f27 := Tryz.func125.trans (congrArg some (by kernel_rfl)),
  f28 := Tryz.func126.trans (congrArg some (by kernel_rfl)),
  f29 := Tryz.func127.trans (congrArg some (by kernel_rfl)),
  f30 := Tryz.func128.trans (congrArg some (by kernel_rfl)),
  f31 := Tryz.func129.trans (congrArg some (by kernel_rfl)),
  f32 := Tryz.func130.trans (congrArg some (by kernel_rfl)),
  f33 := Tryz.func131.trans (congrArg some (by kernel_rfl)),
  f34 := Tryz.func132.trans (congrArg some (by kernel_rfl)),
  f35 := Tryz.func133.trans (congrArg some (by kernel_rfl)),
  f36 := Tryz.func134.trans (congrArg some (by kernel_rfl)),
  f37 := Tryz.func135.trans (congrArg some (by kernel_rfl)),
  f38 := Tryz.func136.trans (congrArg some (by kernel_rfl)),
  f39 := Tryz.func137.trans (congrArg some (by kernel_rfl)),
  t0 := Tryz.underlying0,
  a0 := Tryz.isAgg0,
  z0 := Tryz.sizeOf0,
  v0 := Tryz.zeroValue0,
  i0 := by kernel_rfl,
  t3 := Tryz.underlying3,
  a3 := Tryz.isAgg3,
  z3 := Tryz.sizeOf3,
  v3 := Tryz.zeroValue3,
  i3 := by kernel_rfl,
  t4 := Tryz.underlying4,
  a4 := Tryz.isAgg4,
  z4 := Tryz.sizeOf4,
  v4 := Tryz.zeroValue4,
  i4 := by kernel_rfl,
  t5 := Tryz.underlying5,
  a5 := Tryz.isAgg5,
  z5 := Tryz.sizeOf5,
  v5 := Tryz.zeroValue5,
  i5 := by kernel_rfl,
  t9 := Tryz.underlying9,
  a9 := Tryz.isAgg9,
  z9 := Tryz.sizeOf9,
  v9 := Tryz.zeroValue9,
  i9 := by kernel_rfl,
  t12 := Tryz.underlying12,
  a12 := Tryz.isAgg12,
  z12 := Tryz.sizeOf12,
  v12 := Tryz.zeroValue12,
  i12 := by kernel_rfl,
  t17 := Tryz.underlying17,
  a17 := Tryz.isAgg17,
  z17 := Tryz.sizeOf17,
  v17 := Tryz.zeroValue17,
  i17 := by kernel_rfl,
  t20 := Tryz.underlying20,
  a20 := Tryz.isAgg20,
  z20 := Tryz.sizeOf20,
  v20 := Tryz.zeroValue20,
  i20 := by kernel_rfl,
  t26 := Tryz.underlying145,
  a26 := Tryz.isAgg145,
  z26 := Tryz.sizeOf145,
  v26 := Tryz.zeroValue145,
  i26 := by kernel_rfl,
  t32 := Tryz.underlying149,
  a32 := Tryz.isAgg149,
  z32 := Tryz.sizeOf149,
  v32 := Tryz.zeroValue149,
  i32 := by kernel_rfl,
  t33 := Tryz.underlying150,
  a33 := Tryz.isAgg150,
  z33 := Tryz.sizeOf150,
  v33 := Tryz.zeroValue150,
  i33 := by kernel_rfl,
  t35 := Tryz.underlying152,
  a35 := Tryz.isAgg152,
  z35 := Tryz.sizeOf152,
  v35 := Tryz.zeroValue152,
  i35 := by kernel_rfl,
  t37 := Tryz.underlying154,
  a37 := Tryz.isAgg154,
  z37 := Tryz.sizeOf154,
  v37 := Tryz.zeroValue154,
  i37 := by kernel_rfl,
  t41 := Tryz.underlying117,
  a41 := Tryz.isAgg117,
  z41 := Tryz.sizeOf117,
  v41 := Tryz.zeroValue117,
  i41 := by kernel_rfl,
  t44 := Tryz.underlying159,
  a44 := Tryz.isAgg159,
  z44 := Tryz.sizeOf159,
  v44 := Tryz.zeroValue159,
  i44 := by kernel_rfl,
  t49 := Tryz.underlying55,
  a49 := Tryz.isAgg55,
  z49 := Tryz.sizeOf55,
  v49 := Tryz.zeroValue55,
  i49 := by kernel_rfl,
  t51 := Tryz.underlying75,
  a51 := Tryz.isAgg75,
  z51 := Tryz.sizeOf75,
  v51 := Tryz.zeroValue75,
  i51 := by kernel_rfl,
  t53 := Tryz.underlying165,
  a53 := Tryz.isAgg165,
  z53 := Tryz.sizeOf165,
  v53 := Tryz.zeroValue165,
  i53 := by kernel_rfl,
  t54 := Tryz.underlying166,
  a54 := Tryz.isAgg166,
  z54 := Tryz.sizeOf166,
  v54 := Tryz.zeroValue166,
  i54 := by kernel_rfl,
  t58 := Tryz.underlying170,
  a58 := Tryz.isAgg170,
  z58 := Tryz.sizeOf170,
  v58 := Tryz.zeroValue170,
  i58 := by kernel_rfl,
  t60 := Tryz.underlying172,
  a60 := Tryz.isAgg172,
  z60 := Tryz.sizeOf172,
  v60 := Tryz.zeroValue172,
  i60 := by kernel_rfl,
  t64 := Tryz.underlying175,
  a64 := Tryz.isAgg175,
  z64 := Tryz.sizeOf175,
  v64 := Tryz.zeroValue175,
  i64 := by kernel_rfl,
  t66 := Tryz.underlying177,
  a66 := Tryz.isAgg177,
  z66 := Tryz.sizeOf177,
  v66 := Tryz.zeroValue177,
  i66 := by kernel_rfl,
  t67 := Tryz.underlying178,
  a67 := Tryz.isAgg178,
  z67 := Tryz.sizeOf178,
  v67 := Tryz.zeroValue178,
  i67 := by kernel_rfl,
  t75 := Tryz.underlying186,
  a75 := Tryz.isAgg186,
  z75 := Tryz.sizeOf186,
  v75 := Tryz.zeroValue186,
  i75 := by kernel_rfl,
  t76 := Tryz.underlying187,
  a76 := Tryz.isAgg187,
  z76 := Tryz.sizeOf187,
  v76 := Tryz.zeroValue187,
  i76 := by kernel_rfl,
  t77 := Tryz.underlying188,
  a77 := Tryz.isAgg188,
  z77 := Tryz.sizeOf188,
  v77 := Tryz.zeroValue188,
  i77 := by kernel_rfl,
  t78 := Tryz.underlying189,
  a78 := Tryz.isAgg189,
  z78 := Tryz.sizeOf189,
  v78 := Tryz.zeroValue189,
  i78 := by kernel_rfl,
  t79 := Tryz.underlying190,
  a79 := Tryz.isAgg190,
  z79 := Tryz.sizeOf190,
  v79 := Tryz.zeroValue190,
  i79 := by kernel_rfl,
  t80 := Tryz.underlying191,
  a80 := Tryz.isAgg191,
  z80 := Tryz.sizeOf191,
  v80 := Tryz.zeroValue191,
  i80 := by kernel_rfl,
  t82 := Tryz.underlying193,
  a82 := Tryz.isAgg193,
  z82 := Tryz.sizeOf193,
  v82 := Tryz.zeroValue193,
  i82 := by kernel_rfl }
noncomputable def siT : TypeInfo := (Tryz.prog.info? 143).get (by kernel_rfl)
noncomputable def siE : TypeInfo := (Tryz.prog.info? 55).get (by kernel_rfl)
theorem siK (n : Nat) (h2 : 2 ≤ n) : Go.Lib.swapperK n siE 10 = 6 := by
  have a : siE.hasPointers = false := by kernel_rfl
  have b : siE.bytes = 4 := by kernel_rfl
  have c : (n == 0) = false := by simp; omega
  have d : (n == 1) = false := by simp; omega
  simp [Go.Lib.swapperK, a, b, c, d]
theorem sortOk : SortC Tryz.prog seatE.tKs seatE.tU32 seatE.fSort seatE.fLess :=
  sort_ok (K := seatE) (T := seatT) (teA_of seatAOk) rfl rfl (by kernel_rfl) (FnIs.of (by kernel_rfl)) (by kernel_rfl)
    (fun lb blk off c d h2 hsz w hless hH hblk => Any.sort_Slice_sorted sl6 143 55 siT siE (by kernel_rfl) (by kernel_rfl) (by kernel_rfl) (by kernel_rfl) 10 (fun _ => by kernel_rfl) (by kernel_rfl) (fun _ => by kernel_rfl) u32V (fun _ => rfl) (fun a b : Nat => decide (a < b)) swo_nat 106 lb
      (enters_of Tryz.func106 (by kernel_rfl) rfl) blk off c d h2 hsz 119 (by rw [siK _ h2]; kernel_rfl) true
      (fun args W => run_callFunc_extern Tryz.func119 (by kernel_rfl) (by kernel_rfl) (by kernel_rfl) (e := Extern.ReflectliteSwapper.swap true) (by kernel_rfl) args W) w hless hH hblk)
    (fun p n c h1 lf la lb w => Any.sort_Slice_tiny sl6 143 55 siT siE (by kernel_rfl) (by kernel_rfl) (by kernel_rfl) (by kernel_rfl) 10 (fun _ => by kernel_rfl) p n c h1 (114 + n) (by
      rcases Nat.eq_zero_or_pos n with h | h
      · subst h; kernel_rfl
      · obtain rfl : n = 1 := by omega
        kernel_rfl) lf la lb w)
theorem fl : FlOk Tryz.prog seatK seatR := fl_none rfl rfl
theorem seatA : SeatA Tryz.prog seatK seatG seatS seatR seatTG := seatA_of seatAOk sortOk fl
theorem seatOk : (seatB Tryz.prog seatK seatG seatS).all id = true := by kernel_rfl
theorem seat2Ok : (seat2B Tryz.prog seatK seatG seatS seatR seatTG seatE seatZ).all id = true := by kernel_rfl
theorem tree : TreeOk Tryz.prog seatS := tree_of (by kernel_rfl)
theorem seat2 : Seat2 Tryz.prog seatK seatG seatS seatR seatTG seatE seatZ := seat2_of seatOk seat2Ok sortOk fl
/-- What the row's list gives: the variable holds an error. -/
theorem err {W : World} (h : laidMetH Tryz.prog [("pub-kmsg/pub/kmsg/inner/kbin.ErrNotEnoughData", Rows.laid_pub_kmsg_pub_kmsg_inner_kbin_ErrNotEnoughData)] W) : ∃ ev, W.cell? ⟨seatR.gErr, 0, none⟩ = some ev ∧ isErr ev := by
  rw [MakeChecks.laidMetH_plain _ _ _ (by kernel_rfl)] at h
  exact laid_err (t := 50) (by kernel_rfl) (by kernel_rfl) (by kernel_rfl) h
/-- A world that meets the row's list: the error as its initialiser lays it. -/
noncomputable def low : Nat := (World.holding Tryz.prog default ⟨#[], #[], []⟩).heap.size
abbrev errS : ByteArray := { data := #[114, 101, 115, 112, 111, 110, 115, 101, 32, 100, 105, 100, 32, 110, 111, 116, 32, 99, 111, 110, 116, 97, 105, 110, 32, 101, 110, 111, 117, 103, 104, 32, 100, 97, 116, 97, 32, 116, 111, 32, 98, 101, 32, 118, 97, 108, 105, 100] }
noncomputable def laidWorld (os : Os) : World :=
  let w0 := World.holding Tryz.prog os ⟨#[.cells #[.string errS] 198], #[], []⟩
  { w0 with heap := w0.heap.modify 1 fun
      | .cells _ t frozen => .cells #[.iface 180 (.pointer (some ⟨low, 0, none⟩))] t frozen
      | o => o }
theorem laid_met (os : Os) (args : Array Value) : laidMet Tryz.prog [("pub-kmsg/pub/kmsg/inner/kbin.ErrNotEnoughData", Rows.laid_pub_kmsg_pub_kmsg_inner_kbin_ErrNotEnoughData)] ((laidWorld os).forCall (fun _ _ => 0) ⟨#[], args, []⟩).memory :=
  laidMet_of_run (ps := [.cell 1 0, .cell low 0]) 8 (by kernel_rfl) (by kernel_rfl) (by kernel_rfl)
theorem own : ownKnob Tryz.prog.godebug = none := by kernel_rfl
theorem bulkOk (H : Type) : BulkOk (H := H) Rows.uptoBulk Rows.uptoBulkAll := {
  one := fun d => by
    cases d with
    | lit l => cases l <;> simp [Rows.uptoBulk]
    | nil => simp [Rows.uptoBulk]
    | ptr d => simp [Rows.uptoBulk]
    | slice e s => simp [Rows.uptoBulk]
    | agg ps => simp [Rows.uptoBulk]
    | iface n d => simp [Rows.uptoBulk]
    | map es => simp [Rows.uptoBulk]
    | held h => simp [Rows.uptoBulk]
  slice := fun e s => by simp only [Rows.uptoBulk]; omega
  agg := fun ps => by simp only [Rows.uptoBulk]; omega
  cons := fun d l => by simp only [Rows.uptoBulkAll]; omega }
end Go.Proofs.YtmehkjdaeohblaaGreatDoor
