/- The seat's program passes the tests of what the laws that read rest on; sort.Slice's closure is laid; the listed error. No condition. -/
import Derived.Test.YtepedhnfnicbaaaGreatDoorProg
import Derived.Test.YtepedhnfnicbaaaGreatDoorRows
import Derived.Test.YtepedhnfnicbaaaGreatDoorKxN
import Derived.KernelRfl
import Derived.MakeChecks
import Derived.LaidLaws
import Derived.Deep.DeepHandedRow
import Derived.Laws.Externs
import Derived.Shelf.Abstract
import Derived.ProofKit
namespace Go.Proofs.YtepedhnfnicbaaaGreatDoor
open Go.Kx Go.Shelf Go.RowKit
set_option maxRecDepth 100000
def seatT : IT := { u8 := 5, u8s := 22, i8 := 130, i16 := 42, u16 := 39, i32 := 21, u32 := 77, i64 := 2, u64 := 94, int := 3, str := 9, bool := 4 }
def seatK : KB := { T := seatT, tP := 81, tA := 107, i8 := 166, u16 := 161, i16 := 152, u32 := 210, i32 := 142, u64 := 218, i64 := 153, bool := 162, uuid := 158, l32 := 252, uvl := 211, uv := 147, str := 141, cstr := 140, nstr := 144, cnstr := 143, byt := 155, cbyt := 154, nbyt := 189, cnbyt := 188, alen := 160, calen := 159, nalen := 146, cnalen := 145, f64 := 0, ffb := 0 }
def seatG : TN := { tSt := 85, tMap := 83, fLen := 148, fTeach := 149, fEach := 212, fCb := 213 }
def seatS : SN := { T := seatT, fds := 30, fd := 48, trs := 23, tr := 26, tgs := 24, tg := 79, msg := 32, fSame := 21, fVer := 19, fWrite := 17, fDflt := 0, fPart := 58, fHas := 131, fField := 132, fAt := 133, fKnown := 134, fUsual := 135, fUvar := 136, fUnk := 137, fWhole := 138, fNull := 190, fThings := 191, fCounted := 192, fValue := 193, fFixed := 194, fWidth := 195 }
def seatR : RN := { T := seatT, tA := 107, tR := 224, tBE := 246, gBE := 0, gErr := 1, tErr := 51, be16 := 255, be32 := 250, be64 := 263, uvd := 257, span := 249, uv := 247, i8 := 227, i16 := 214, u16 := 221, i32 := 200, i64 := 215, r64 := 256, bool := 222, str := 199, cstr := 198, nstr := 204, cnstr := 202, byt := 217, cbyt := 216, nbyt := 246, cnbyt := 245, uuid := 219, alen := 206, calen := 205, compl := 208, okf := 207, f64 := 0, ffr := 0 }
def seatTG : TG := { tSt := 85, tMap := 83, fSet := 251, fRead := 209 }
def seatE : EN := { tSt := 85, tMap := 83, tKs := 248, tU32 := 77, tInt := 3, fLess := 254, fSort := 253, fCb := 213 }
def seatZ : FTN := { f2 := 15, f3 := 55, f4 := 129 }
theorem seatAOk : (seatAB Tryz.prog seatK seatG seatS seatR seatTG seatE).all id = true := by kernel_rfl
theorem argOk : ArgOk Tryz.prog seatS := arg_of (by kernel_rfl)
def sl6_ren : Go.Shelf.Ren := ⟨fun | 6 => 253 | 10 => 258 | 11 => 259 | 12 => 260 | 13 => 261 | 14 => 262 | 24 => 252 | 25 => 273 | 26 => 274 | 27 => 275 | 28 => 276 | 29 => 277 | 30 => 278 | 31 => 279 | 32 => 280 | 33 => 281 | 34 => 282 | 35 => 283 | 36 => 284 | 37 => 285 | 38 => 286 | 39 => 287 | n => n, fun | 20 => 20 | 26 => 250 | 35 => 258 | 0 => 0 | 37 => 260 | 3 => 3 | 41 => 222 | 44 => 265 | 49 => 77 | 51 => 94 | 4 => 4 | 54 => 273 | 53 => 272 | 58 => 277 | 5 => 5 | 9 => 9 | 60 => 279 | 64 => 282 | 66 => 284 | 67 => 285 | 17 => 17 | 32 => 255 | 33 => 256 | 82 => 300 | 12 => 12 | 75 => 293 | 76 => 294 | 77 => 295 | 78 => 296 | 79 => 297 | 80 => 298 | n => n, fun n => n⟩
theorem sl6 : LaysGg.n6 Tryz.prog sl6_ren := {
  mixed := by kernel_rfl,
  f6 := Tryz.func253.trans (congrArg some (by kernel_rfl)),
  f10 := Tryz.func258.trans (congrArg some (by kernel_rfl)),
  f11 := Tryz.func259.trans (congrArg some (by kernel_rfl)),
  f12 := Tryz.func260.trans (congrArg some (by kernel_rfl)),
  f13 := Tryz.func261.trans (congrArg some (by kernel_rfl)),
  f14 := Tryz.func262.trans (congrArg some (by kernel_rfl)),
  f24 := Tryz.func252.trans (congrArg some (by kernel_rfl)),
  f25 := Tryz.func273.trans (congrArg some (by kernel_rfl)),
  f26 := Tryz.func274.trans (congrArg some (by kernel_rfl)),
  f27 := Tryz.func275.trans (congrArg some (by kernel_rfl)),
  f28 := Tryz.func276.trans (congrArg some (by kernel_rfl)),
  f29 := Tryz.func277.trans (congrArg some (by kernel_rfl)),
  f30 := Tryz.func278.trans (congrArg some (by kernel_rfl)),
  f31 := Tryz.func279.trans (congrArg some (by kernel_rfl)),
  f32 := Tryz.func280.trans (congrArg some (by kernel_rfl)),
  f33 := Tryz.func281.trans (congrArg some (by kernel_rfl)),
  f34 := Tryz.func282.trans (congrArg some (by kernel_rfl)),
  f35 := Tryz.func283.trans (congrArg some (by kernel_rfl)),
  f36 := Tryz.func284.trans (congrArg some (by kernel_rfl)),
  f37 := Tryz.func285.trans (congrArg some (by kernel_rfl)),
  f38 := Tryz.func286.trans (congrArg some (by kernel_rfl)),
  f39 := Tryz.func287.trans (congrArg some (by kernel_rfl)),
  t0 := Tryz.underlying0,
  a0 := Tryz.isAgg0,
  z0 := Tryz.sizeOf0,
  v0 := Tryz.zeroValue0,
  i0 := by kernel_rfl,
  t3 := Tryz.underlying3,
  a3 := Tryz.isAgg3,
  z3 := Tryz.sizeOf3,
  v3 := Tryz.zeroValue3,
  i3 := by kernel_rfl,
  t4 := Tryz.underlying4,
  a4 := Tryz.isAgg4,
  z4 := Tryz.sizeOf4,
  v4 := Tryz.zeroValue4,
  i4 := by kernel_rfl,
  t5 := Tryz.underlying5,
  a5 := Tryz.isAgg5,
  z5 := Tryz.sizeOf5,
  v5 := Tryz.zeroValue5,
  i5 := by kernel_rfl,
  t9 := Tryz.underlying9,
  a9 := Tryz.isAgg9,
  z9 := Tryz.sizeOf9,
  v9 := Tryz.zeroValue9,
  i9 := by kernel_rfl,
  t12 := Tryz.underlying12,
  a12 := Tryz.isAgg12,
  z12 := Tryz.sizeOf12,
  v12 := Tryz.zeroValue12,
  i12 := by kernel_rfl,
  t17 := Tryz.underlying17,
  a17 := Tryz.isAgg17,
  z17 := Tryz.sizeOf17,
  v17 := Tryz.zeroValue17,
  i17 := by kernel_rfl,
  t20 := Tryz.underlying20,
  a20 := Tryz.isAgg20,
  z20 := Tryz.sizeOf20,
  v20 := Tryz.zeroValue20,
  i20 := by kernel_rfl,
  t26 := Tryz.underlying250,
  a26 := Tryz.isAgg250,
  z26 := Tryz.sizeOf250,
  v26 := Tryz.zeroValue250,
  i26 := by kernel_rfl,
  t32 := Tryz.underlying255,
  a32 := Tryz.isAgg255,
  z32 := Tryz.sizeOf255,
  v32 := Tryz.zeroValue255,
  i32 := by kernel_rfl,
  t33 := Tryz.underlying256,
  a33 := Tryz.isAgg256,
  z33 := Tryz.sizeOf256,
  v33 := Tryz.zeroValue256,
  i33 := by kernel_rfl,
  t35 := Tryz.underlying258,
  a35 := Tryz.isAgg258,
  z35 := Tryz.sizeOf258,
  v35 := Tryz.zeroValue258,
  i35 := by kernel_rfl,
  t37 := Tryz.underlying260,
  a37 := Tryz.isAgg260,
  z37 := Tryz.sizeOf260,
  v37 := Tryz.zeroValue260,
  i37 := by kernel_rfl,
  t41 := Tryz.underlying222,
  a41 := Tryz.isAgg222,
  z41 := Tryz.sizeOf222,
  v41 := Tryz.zeroValue222,
  i41 := by kernel_rfl,
  t44 := Tryz.underlying265,
  a44 := Tryz.isAgg265,
  z44 := Tryz.sizeOf265,
  v44 := Tryz.zeroValue265,
  i44 := by kernel_rfl,
  t49 := Tryz.underlying77,
  a49 := Tryz.isAgg77,
  z49 := Tryz.sizeOf77,
  v49 := Tryz.zeroValue77,
  i49 := by kernel_rfl,
  t51 := Tryz.underlying94,
  a51 := Tryz.isAgg94,
  z51 := Tryz.sizeOf94,
  v51 := Tryz.zeroValue94,
  i51 := by kernel_rfl,
  t53 := Tryz.underlying272,
  a53 := Tryz.isAgg272,
  z53 := Tryz.sizeOf272,
  v53 := Tryz.zeroValue272,
  i53 := by kernel_rfl,
  t54 := Tryz.underlying273,
  a54 := Tryz.isAgg273,
  z54 := Tryz.sizeOf273,
  v54 := Tryz.zeroValue273,
  i54 := by kernel_rfl,
  t58 := Tryz.underlying277,
  a58 := Tryz.isAgg277,
  z58 := Tryz.sizeOf277,
  v58 := Tryz.zeroValue277,
  i58 := by kernel_rfl,
  t60 := Tryz.underlying279,
  a60 := Tryz.isAgg279,
  z60 := Tryz.sizeOf279,
  v60 := Tryz.zeroValue279,
  i60 := by kernel_rfl,
  t64 := Tryz.underlying282,
  a64 := Tryz.isAgg282,
  z64 := Tryz.sizeOf282,
  v64 := Tryz.zeroValue282,
  i64 := by kernel_rfl,
  t66 := Tryz.underlying284,
  a66 := Tryz.isAgg284,
  z66 := Tryz.sizeOf284,
  v66 := Tryz.zeroValue284,
  i66 := by kernel_rfl,
  t67 := Tryz.underlying285,
  a67 := Tryz.isAgg285,
  z67 := Tryz.sizeOf285,
  v67 := Tryz.zeroValue285,
  i67 := by kernel_rfl,
  t75 := Tryz.underlying293,
  a75 := Tryz.isAgg293,
  z75 := Tryz.sizeOf293,
  v75 := Tryz.zeroValue293,
  i75 := by kernel_rfl,
  t76 := Tryz.underlying294,
  a76 := Tryz.isAgg294,
  z76 := Tryz.sizeOf294,
  v76 := Tryz.zeroValue294,
  i76 := by kernel_rfl,
  t77 := Tryz.underlying295,
  a77 := Tryz.isAgg295,
  z77 := Tryz.sizeOf295,
  v77 := Tryz.zeroValue295,
  i77 := by kernel_rfl,
  t78 := Tryz.underlying296,
  a78 := Tryz.isAgg296,
  z78 := Tryz.sizeOf296,
  v78 := Tryz.zeroValue296,
  i78 := by kernel_rfl,
  t79 := Tryz.underlying297,
  a79 := Tryz.isAgg297,
  z79 := Tryz.sizeOf297,
  v79 := Tryz.zeroValue297,
  i79 := by kernel_rfl,
  t80 := Tryz.underlying298,
  a80 := Tryz.isAgg298,
  z80 := Tryz.sizeOf298,
  v80 := Tryz.zeroValue298,
  i80 := by kernel_rfl,
  t82 := Tryz.underlying300,
  a82 := Tryz.isAgg300,
  z82 := Tryz.sizeOf300,
  v82 := Tryz.zeroValue300,
  i82 := by kernel_rfl }
noncomputable def siT : TypeInfo := (Tryz.prog.info? 248).get (by kernel_rfl)
noncomputable def siE : TypeInfo := (Tryz.prog.info? 77).get (by kernel_rfl)
theorem siK (n : Nat) (h2 : 2 ≤ n) : Go.Lib.swapperK n siE 10 = 6 := by
  have a : siE.hasPointers = false := by kernel_rfl
  have b : siE.bytes = 4 := by kernel_rfl
  have c : (n == 0) = false := by simp; omega
  have d : (n == 1) = false := by simp; omega
  simp [Go.Lib.swapperK, a, b, c, d]
theorem sortOk : SortC Tryz.prog seatE.tKs seatE.tU32 seatE.fSort seatE.fLess :=
  sort_ok (K := seatE) (T := seatT) (teA_of seatAOk) rfl rfl (by kernel_rfl) (FnIs.of (by kernel_rfl)) (by kernel_rfl)
    (fun lb blk off c d h2 hsz w hless hH hblk => Any.sort_Slice_sorted sl6 248 77 siT siE (by kernel_rfl) (by kernel_rfl) (by kernel_rfl) (by kernel_rfl) 10 (fun _ => by kernel_rfl) (by kernel_rfl) (fun _ => by kernel_rfl) u32V (fun _ => rfl) (fun a b : Nat => decide (a < b)) swo_nat 254 lb
      (enters_of Tryz.func254 (by kernel_rfl) rfl) blk off c d h2 hsz 269 (by rw [siK _ h2]; kernel_rfl) true
      (fun args W => run_callFunc_extern Tryz.func269 (by kernel_rfl) (by kernel_rfl) (by kernel_rfl) (e := Extern.ReflectliteSwapper.swap true) (by kernel_rfl) args W) w hless hH hblk)
    (fun p n c h1 lf la lb w => Any.sort_Slice_tiny sl6 248 77 siT siE (by kernel_rfl) (by kernel_rfl) (by kernel_rfl) (by kernel_rfl) 10 (fun _ => by kernel_rfl) p n c h1 (264 + n) (by
      rcases Nat.eq_zero_or_pos n with h | h
      · subst h; kernel_rfl
      · obtain rfl : n = 1 := by omega
        kernel_rfl) lf la lb w)
theorem fl : FlOk Tryz.prog seatK seatR := fl_none rfl rfl
theorem seatA : SeatA Tryz.prog seatK seatG seatS seatR seatTG := seatA_of seatAOk sortOk fl
theorem seatOk : (seatB Tryz.prog seatK seatG seatS).all id = true := by kernel_rfl
theorem seat2Ok : (seat2B Tryz.prog seatK seatG seatS seatR seatTG seatE seatZ).all id = true := by kernel_rfl
theorem tree : TreeOk Tryz.prog seatS := tree_of (by kernel_rfl)
theorem seat2 : Seat2 Tryz.prog seatK seatG seatS seatR seatTG seatE seatZ := seat2_of seatOk seat2Ok sortOk fl
/-- What the row's list gives: the variable holds an error. -/
theorem err {W : World} (h : laidMetH Tryz.prog [("pub-kmsg/pub/kmsg/inner/kbin.ErrNotEnoughData", Rows.laid_pub_kmsg_pub_kmsg_inner_kbin_ErrNotEnoughData)] W) : ∃ ev, W.cell? ⟨seatR.gErr, 0, none⟩ = some ev ∧ isErr ev := by
  rw [MakeChecks.laidMetH_plain _ _ _ (by kernel_rfl)] at h
  exact laid_err (t := 51) (by kernel_rfl) (by kernel_rfl) (by kernel_rfl) h
/-- A world that meets the row's list: the error as its initialiser lays it. -/
noncomputable def low : Nat := (World.holding Tryz.prog default ⟨#[], #[], []⟩).heap.size
abbrev errS : ByteArray := { data := #[114, 101, 115, 112, 111, 110, 115, 101, 32, 100, 105, 100, 32, 110, 111, 116, 32, 99, 111, 110, 116, 97, 105, 110, 32, 101, 110, 111, 117, 103, 104, 32, 100, 97, 116, 97, 32, 116, 111, 32, 98, 101, 32, 118, 97, 108, 105, 100] }
noncomputable def laidWorld (os : Os) : World :=
  let w0 := World.holding Tryz.prog os ⟨#[.cells #[.string errS] 305], #[], []⟩
  { w0 with heap := w0.heap.modify 1 fun
      | .cells _ t frozen => .cells #[.iface 287 (.pointer (some ⟨low, 0, none⟩))] t frozen
      | o => o }
theorem laid_met (os : Os) (args : Array Value) : laidMet Tryz.prog [("pub-kmsg/pub/kmsg/inner/kbin.ErrNotEnoughData", Rows.laid_pub_kmsg_pub_kmsg_inner_kbin_ErrNotEnoughData)] ((laidWorld os).forCall (fun _ _ => 0) ⟨#[], args, []⟩).memory :=
  laidMet_of_run (ps := [.cell 1 0, .cell low 0]) 8 (by kernel_rfl) (by kernel_rfl) (by kernel_rfl)
theorem own : ownKnob Tryz.prog.godebug = none := by kernel_rfl
theorem bulkOk (H : Type) : BulkOk (H := H) Rows.uptoBulk Rows.uptoBulkAll := {
  one := fun d => by
    cases d with
    | lit l => cases l <;> simp [Rows.uptoBulk]
    | nil => simp [Rows.uptoBulk]
    | ptr d => simp [Rows.uptoBulk]
    | slice e s => simp [Rows.uptoBulk]
    | agg ps => simp [Rows.uptoBulk]
    | iface n d => simp [Rows.uptoBulk]
    | map es => simp [Rows.uptoBulk]
    | held h => simp [Rows.uptoBulk]
  slice := fun e s => by simp only [Rows.uptoBulk]; omega
  agg := fun ps => by simp only [Rows.uptoBulk]; omega
  cons := fun d l => by simp only [Rows.uptoBulkAll]; omega }
end Go.Proofs.YtepedhnfnicbaaaGreatDoor
