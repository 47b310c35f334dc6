/- The seat's program passes the tests of what the laws that read rest on; sort.Slice's closure is laid; the listed error. No condition. -/
import Derived.Test.YtffglmphlpofbaaGreatDoorProg
import Derived.Test.YtffglmphlpofbaaGreatDoorRows
import Derived.Test.YtffglmphlpofbaaGreatDoorKxN
import Derived.KernelRfl
import Derived.MakeChecks
import Derived.LaidLaws
import Derived.Deep.DeepHandedRow
import Derived.Laws.Externs
import Derived.Shelf.Abstract
import Derived.ProofKit
namespace Go.Proofs.YtffglmphlpofbaaGreatDoor
open Go.Kx Go.Shelf Go.RowKit
set_option maxRecDepth 100000
def seatT : IT := { u8 := 5, u8s := 22, i8 := 56, i16 := 43, u16 := 27, i32 := 21, u32 := 70, i64 := 2, u64 := 83, int := 3, str := 9, bool := 4 }
def seatK : KB := { T := seatT, tP := 93, tA := 143, i8 := 78, u16 := 89, i16 := 75, u32 := 130, i32 := 77, u64 := 120, i64 := 76, bool := 72, uuid := 93, l32 := 147, uvl := 117, uv := 68, str := 65, cstr := 64, nstr := 67, cnstr := 66, byt := 85, cbyt := 84, nbyt := 0, cnbyt := 0, alen := 63, calen := 62, nalen := 80, cnalen := 79, f64 := 71, ffb := 121 }
def seatG : TN := { tSt := 61, tMap := 59, fLen := 69, fTeach := 70, fEach := 118, fCb := 119 }
def seatS : SN := { T := seatT, fds := 31, fd := 50, trs := 23, tr := 26, tgs := 24, tg := 72, msg := 33, fSame := 16, fVer := 11, fWrite := 9, fDflt := 0, fPart := 26, fHas := 51, fField := 52, fAt := 53, fKnown := 54, fUsual := 55, fUvar := 56, fUnk := 57, fWhole := 58, fNull := 94, fThings := 95, fCounted := 96, fValue := 97, fFixed := 34, fWidth := 98 }
def seatR : RN := { T := seatT, tA := 143, tR := 158, tBE := 188, gBE := 2, gErr := 0, tErr := 53, be16 := 150, be32 := 151, be64 := 153, uvd := 152, span := 129, uv := 127, i8 := 125, i16 := 122, u16 := 139, i32 := 124, i64 := 123, r64 := 146, bool := 116, str := 108, cstr := 107, nstr := 112, cnstr := 110, byt := 137, cbyt := 136, nbyt := 0, cnbyt := 0, uuid := 142, alen := 100, calen := 99, compl := 102, okf := 101, f64 := 115, ffr := 145 }
def seatTG : TG := { tSt := 61, tMap := 59, fSet := 128, fRead := 113 }
def seatE : EN := { tSt := 61, tMap := 59, tKs := 115, tU32 := 70, tInt := 3, fLess := 149, fSort := 148, fCb := 119 }
def seatZ : FTN := { f2 := 7, f3 := 23, f4 := 49 }
theorem seatAOk : (seatAB Tryz.prog seatK seatG seatS seatR seatTG seatE).all id = true := by kernel_rfl
theorem argOk : ArgOk Tryz.prog seatS := arg_of (by kernel_rfl)
def sl6_ren : Go.Shelf.Ren := ⟨fun | 6 => 148 | 10 => 154 | 11 => 155 | 12 => 156 | 13 => 157 | 14 => 158 | 24 => 147 | 25 => 168 | 26 => 169 | 27 => 170 | 28 => 171 | 29 => 172 | 30 => 173 | 31 => 174 | 32 => 175 | 33 => 176 | 34 => 177 | 35 => 178 | 36 => 179 | 37 => 180 | 38 => 181 | 39 => 182 | n => n, fun | 20 => 20 | 26 => 186 | 35 => 197 | 0 => 0 | 37 => 199 | 3 => 3 | 41 => 156 | 44 => 204 | 49 => 70 | 51 => 83 | 4 => 4 | 54 => 211 | 53 => 210 | 58 => 215 | 5 => 5 | 9 => 9 | 60 => 217 | 64 => 220 | 66 => 222 | 67 => 223 | 17 => 17 | 32 => 194 | 33 => 195 | 82 => 238 | 12 => 12 | 75 => 231 | 76 => 232 | 77 => 233 | 78 => 234 | 79 => 235 | 80 => 236 | n => n, fun n => n⟩
theorem sl6 : LaysGg.n6 Tryz.prog sl6_ren := {
  mixed := by kernel_rfl,
  f6 := Tryz.func148.trans (congrArg some (by kernel_rfl)),
  f10 := Tryz.func154.trans (congrArg some (by kernel_rfl)),
  f11 := Tryz.func155.trans (congrArg some (by kernel_rfl)),
  f12 := Tryz.func156.trans (congrArg some (by kernel_rfl)),
  f13 := Tryz.func157.trans (congrArg some (by kernel_rfl)),
  f14 := Tryz.func158.trans (congrArg some (by kernel_rfl)),
  f24 := Tryz.func147.trans (congrArg some (by kernel_rfl)),
  f25 := Tryz.func168.trans (congrArg some (by kernel_rfl)),
  f26 := Tryz.func169.trans (congrArg some (by kernel_rfl)),
  f27 := Tryz.func170.trans (congrArg some (by kernel_rfl)),
  f28 := Tryz.func171.trans (congrArg some (by kernel_rfl)),
  f29 := Tryz.func172.trans (congrArg some (by kernel_rfl)),
  f30 := Tryz.func173.trans (congrArg some (by kernel_rfl)),
  f31 := Tryz.func174.trans (congrArg some (by kernel_rfl)),
  f32 := Tryz.func175.trans (congrArg some (by kernel_rfl)),
  f33 := Tryz.func176.trans (congrArg some (by kernel_rfl)),
  f34 := Tryz.func177.trans (congrArg some (by kernel_rfl)),
  f35 := Tryz.func178.trans (congrArg some (by kernel_rfl)),
  f36 := Tryz.func179.trans (congrArg some (by kernel_rfl)),
  f37 := Tryz.func180.trans (congrArg some (by kernel_rfl)),
  f38 := Tryz.func181.trans (congrArg some (by kernel_rfl)),
  f39 := Tryz.func182.trans (congrArg some (by kernel_rfl)),
  t0 := Tryz.underlying0,
  a0 := Tryz.isAgg0,
  z0 := Tryz.sizeOf0,
  v0 := Tryz.zeroValue0,
  i0 := by kernel_rfl,
  t3 := Tryz.underlying3,
  a3 := Tryz.isAgg3,
  z3 := Tryz.sizeOf3,
  v3 := Tryz.zeroValue3,
  i3 := by kernel_rfl,
  t4 := Tryz.underlying4,
  a4 := Tryz.isAgg4,
  z4 := Tryz.sizeOf4,
  v4 := Tryz.zeroValue4,
  i4 := by kernel_rfl,
  t5 := Tryz.underlying5,
  a5 := Tryz.isAgg5,
  z5 := Tryz.sizeOf5,
  v5 := Tryz.zeroValue5,
  i5 := by kernel_rfl,
  t9 := Tryz.underlying9,
  a9 := Tryz.isAgg9,
  z9 := Tryz.sizeOf9,
  v9 := Tryz.zeroValue9,
  i9 := by kernel_rfl,
  t12 := Tryz.underlying12,
  a12 := Tryz.isAgg12,
  z12 := Tryz.sizeOf12,
  v12 := Tryz.zeroValue12,
  i12 := by kernel_rfl,
  t17 := Tryz.underlying17,
  a17 := Tryz.isAgg17,
  z17 := Tryz.sizeOf17,
  v17 := Tryz.zeroValue17,
  i17 := by kernel_rfl,
  t20 := Tryz.underlying20,
  a20 := Tryz.isAgg20,
  z20 := Tryz.sizeOf20,
  v20 := Tryz.zeroValue20,
  i20 := by kernel_rfl,
  t26 := Tryz.underlying186,
  a26 := Tryz.isAgg186,
  z26 := Tryz.sizeOf186,
  v26 := Tryz.zeroValue186,
  i26 := by kernel_rfl,
  t32 := Tryz.underlying194,
  a32 := Tryz.isAgg194,
  z32 := Tryz.sizeOf194,
  v32 := Tryz.zeroValue194,
  i32 := by kernel_rfl,
  t33 := Tryz.underlying195,
  a33 := Tryz.isAgg195,
  z33 := Tryz.sizeOf195,
  v33 := Tryz.zeroValue195,
  i33 := by kernel_rfl,
  t35 := Tryz.underlying197,
  a35 := Tryz.isAgg197,
  z35 := Tryz.sizeOf197,
  v35 := Tryz.zeroValue197,
  i35 := by kernel_rfl,
  t37 := Tryz.underlying199,
  a37 := Tryz.isAgg199,
  z37 := Tryz.sizeOf199,
  v37 := Tryz.zeroValue199,
  i37 := by kernel_rfl,
  t41 := Tryz.underlying156,
  a41 := Tryz.isAgg156,
  z41 := Tryz.sizeOf156,
  v41 := Tryz.zeroValue156,
  i41 := by kernel_rfl,
  t44 := Tryz.underlying204,
  a44 := Tryz.isAgg204,
  z44 := Tryz.sizeOf204,
  v44 := Tryz.zeroValue204,
  i44 := by kernel_rfl,
  t49 := Tryz.underlying70,
  a49 := Tryz.isAgg70,
  z49 := Tryz.sizeOf70,
  v49 := Tryz.zeroValue70,
  i49 := by kernel_rfl,
  t51 := Tryz.underlying83,
  a51 := Tryz.isAgg83,
  z51 := Tryz.sizeOf83,
  v51 := Tryz.zeroValue83,
  i51 := by kernel_rfl,
  t53 := Tryz.underlying210,
  a53 := Tryz.isAgg210,
  z53 := Tryz.sizeOf210,
  v53 := Tryz.zeroValue210,
  i53 := by kernel_rfl,
  t54 := Tryz.underlying211,
  a54 := Tryz.isAgg211,
  z54 := Tryz.sizeOf211,
  v54 := Tryz.zeroValue211,
  i54 := by kernel_rfl,
  t58 := Tryz.underlying215,
  a58 := Tryz.isAgg215,
  z58 := Tryz.sizeOf215,
  v58 := Tryz.zeroValue215,
  i58 := by kernel_rfl,
  t60 := Tryz.underlying217,
  a60 := Tryz.isAgg217,
  z60 := Tryz.sizeOf217,
  v60 := Tryz.zeroValue217,
  i60 := by kernel_rfl,
  t64 := Tryz.underlying220,
  a64 := Tryz.isAgg220,
  z64 := Tryz.sizeOf220,
  v64 := Tryz.zeroValue220,
  i64 := by kernel_rfl,
  t66 := Tryz.underlying222,
  a66 := Tryz.isAgg222,
  z66 := Tryz.sizeOf222,
  v66 := Tryz.zeroValue222,
  i66 := by kernel_rfl,
  t67 := Tryz.underlying223,
  a67 := Tryz.isAgg223,
  z67 := Tryz.sizeOf223,
  v67 := Tryz.zeroValue223,
  i67 := by kernel_rfl,
  t75 := Tryz.underlying231,
  a75 := Tryz.isAgg231,
  z75 := Tryz.sizeOf231,
  v75 := Tryz.zeroValue231,
  i75 := by kernel_rfl,
  t76 := Tryz.underlying232,
  a76 := Tryz.isAgg232,
  z76 := Tryz.sizeOf232,
  v76 := Tryz.zeroValue232,
  i76 := by kernel_rfl,
  t77 := Tryz.underlying233,
  a77 := Tryz.isAgg233,
  z77 := Tryz.sizeOf233,
  v77 := Tryz.zeroValue233,
  i77 := by kernel_rfl,
  t78 := Tryz.underlying234,
  a78 := Tryz.isAgg234,
  z78 := Tryz.sizeOf234,
  v78 := Tryz.zeroValue234,
  i78 := by kernel_rfl,
  t79 := Tryz.underlying235,
  a79 := Tryz.isAgg235,
  z79 := Tryz.sizeOf235,
  v79 := Tryz.zeroValue235,
  i79 := by kernel_rfl,
  t80 := Tryz.underlying236,
  a80 := Tryz.isAgg236,
  z80 := Tryz.sizeOf236,
  v80 := Tryz.zeroValue236,
  i80 := by kernel_rfl,
  t82 := Tryz.underlying238,
  a82 := Tryz.isAgg238,
  z82 := Tryz.sizeOf238,
  v82 := Tryz.zeroValue238,
  i82 := by kernel_rfl }
noncomputable def siT : TypeInfo := (Tryz.prog.info? 115).get (by kernel_rfl)
noncomputable def siE : TypeInfo := (Tryz.prog.info? 70).get (by kernel_rfl)
theorem siK (n : Nat) (h2 : 2 ≤ n) : Go.Lib.swapperK n siE 10 = 6 := by
  have a : siE.hasPointers = false := by kernel_rfl
  have b : siE.bytes = 4 := by kernel_rfl
  have c : (n == 0) = false := by simp; omega
  have d : (n == 1) = false := by simp; omega
  simp [Go.Lib.swapperK, a, b, c, d]
theorem sortOk : SortC Tryz.prog seatE.tKs seatE.tU32 seatE.fSort seatE.fLess :=
  sort_ok (K := seatE) (T := seatT) (teA_of seatAOk) rfl rfl (by kernel_rfl) (FnIs.of (by kernel_rfl)) (by kernel_rfl)
    (fun lb blk off c d h2 hsz w hless hH hblk => Any.sort_Slice_sorted sl6 115 70 siT siE (by kernel_rfl) (by kernel_rfl) (by kernel_rfl) (by kernel_rfl) 10 (fun _ => by kernel_rfl) (by kernel_rfl) (fun _ => by kernel_rfl) u32V (fun _ => rfl) (fun a b : Nat => decide (a < b)) swo_nat 149 lb
      (enters_of Tryz.func149 (by kernel_rfl) rfl) blk off c d h2 hsz 164 (by rw [siK _ h2]; kernel_rfl) true
      (fun args W => run_callFunc_extern Tryz.func164 (by kernel_rfl) (by kernel_rfl) (by kernel_rfl) (e := Extern.ReflectliteSwapper.swap true) (by kernel_rfl) args W) w hless hH hblk)
    (fun p n c h1 lf la lb w => Any.sort_Slice_tiny sl6 115 70 siT siE (by kernel_rfl) (by kernel_rfl) (by kernel_rfl) (by kernel_rfl) 10 (fun _ => by kernel_rfl) p n c h1 (159 + n) (by
      rcases Nat.eq_zero_or_pos n with h | h
      · subst h; kernel_rfl
      · obtain rfl : n = 1 := by omega
        kernel_rfl) lf la lb w)
theorem fl : FlOk Tryz.prog seatK seatR := fl_of (G := seatTG) (by kernel_rfl) (by kernel_rfl) (fun n w => (run_callFunc_extern Tryz.func121 (by kernel_rfl) (by kernel_rfl) (by kernel_rfl) (e := Extern.MathFloatBits.float64bits) (by kernel_rfl) _ w).trans (by rfl)) (fun n w => (run_callFunc_extern Tryz.func145 (by kernel_rfl) (by kernel_rfl) (by kernel_rfl) (e := Extern.MathFloatBits.float64frombits) (by kernel_rfl) _ w).trans (by rfl))
theorem seatA : SeatA Tryz.prog seatK seatG seatS seatR seatTG := seatA_of seatAOk sortOk fl
theorem seatOk : (seatB Tryz.prog seatK seatG seatS).all id = true := by kernel_rfl
theorem seat2Ok : (seat2B Tryz.prog seatK seatG seatS seatR seatTG seatE seatZ).all id = true := by kernel_rfl
theorem tree : TreeOk Tryz.prog seatS := tree_of (by kernel_rfl)
theorem seat2 : Seat2 Tryz.prog seatK seatG seatS seatR seatTG seatE seatZ := seat2_of seatOk seat2Ok sortOk fl
/-- What the row's list gives: the variable holds an error. -/
theorem err {W : World} (h : laidMetH Tryz.prog [("pub-kmsg/pub/kmsg/inner/kbin.ErrNotEnoughData", Rows.laid_pub_kmsg_pub_kmsg_inner_kbin_ErrNotEnoughData)] W) : ∃ ev, W.cell? ⟨seatR.gErr, 0, none⟩ = some ev ∧ isErr ev := by
  rw [MakeChecks.laidMetH_plain _ _ _ (by kernel_rfl)] at h
  exact laid_err (t := 53) (by kernel_rfl) (by kernel_rfl) (by kernel_rfl) h
/-- A world that meets the row's list: the error as its initialiser lays it. -/
noncomputable def low : Nat := (World.holding Tryz.prog default ⟨#[], #[], []⟩).heap.size
abbrev errS : ByteArray := { data := #[114, 101, 115, 112, 111, 110, 115, 101, 32, 100, 105, 100, 32, 110, 111, 116, 32, 99, 111, 110, 116, 97, 105, 110, 32, 101, 110, 111, 117, 103, 104, 32, 100, 97, 116, 97, 32, 116, 111, 32, 98, 101, 32, 118, 97, 108, 105, 100] }
noncomputable def laidWorld (os : Os) : World :=
  let w0 := World.holding Tryz.prog os ⟨#[.cells #[.string errS] 242], #[], []⟩
  { w0 with heap := w0.heap.modify 0 fun
      | .cells _ t frozen => .cells #[.iface 225 (.pointer (some ⟨low, 0, none⟩))] t frozen
      | o => o }
theorem laid_met (os : Os) (args : Array Value) : laidMet Tryz.prog [("pub-kmsg/pub/kmsg/inner/kbin.ErrNotEnoughData", Rows.laid_pub_kmsg_pub_kmsg_inner_kbin_ErrNotEnoughData)] ((laidWorld os).forCall (fun _ _ => 0) ⟨#[], args, []⟩).memory :=
  laidMet_of_run (ps := [.cell 0 0, .cell low 0]) 8 (by kernel_rfl) (by kernel_rfl) (by kernel_rfl)
theorem own : ownKnob Tryz.prog.godebug = none := by kernel_rfl
theorem bulkOk (H : Type) : BulkOk (H := H) Rows.uptoBulk Rows.uptoBulkAll := {
  one := fun d => by
    cases d with
    | lit l => cases l <;> simp [Rows.uptoBulk]
    | nil => simp [Rows.uptoBulk]
    | ptr d => simp [Rows.uptoBulk]
    | slice e s => simp [Rows.uptoBulk]
    | agg ps => simp [Rows.uptoBulk]
    | iface n d => simp [Rows.uptoBulk]
    | map es => simp [Rows.uptoBulk]
    | held h => simp [Rows.uptoBulk]
  slice := fun e s => by simp only [Rows.uptoBulk]; omega
  agg := fun ps => by simp only [Rows.uptoBulk]; omega
  cons := fun d l => by simp only [Rows.uptoBulkAll]; omega }
end Go.Proofs.YtffglmphlpofbaaGreatDoor
