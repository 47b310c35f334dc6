/- The seat's program passes the tests of what the laws that read rest on; sort.Slice's closure is laid; the listed error. No condition. -/
import Derived.Test.YtafoaplcmgfloaaGreatDoorProg
import Derived.Test.YtafoaplcmgfloaaGreatDoorRows
import Derived.Test.YtafoaplcmgfloaaGreatDoorKxM
import Derived.KernelRfl
import Derived.MakeChecks
import Derived.LaidLaws
import Derived.Deep.DeepHandedRow
import Derived.Laws.Externs
import Derived.Shelf.Abstract
import Derived.ProofKit
namespace Go.Proofs.YtafoaplcmgfloaaGreatDoor
open Go.Kx Go.Shelf Go.RowKit
set_option maxRecDepth 100000
def seatT : IT := { u8 := 5, u8s := 22, i8 := 93, i16 := 42, u16 := 27, i32 := 21, u32 := 69, i64 := 2, u64 := 85, int := 3, str := 9, bool := 4 }
def seatK : KB := { T := seatT, tP := 73, tA := 118, i8 := 109, u16 := 149, i16 := 98, u32 := 165, i32 := 113, u64 := 150, i64 := 103, bool := 0, uuid := 121, l32 := 180, uvl := 151, uv := 104, str := 117, cstr := 116, nstr := 100, cnstr := 99, byt := 102, cbyt := 101, nbyt := 0, cnbyt := 0, alen := 115, calen := 114, nalen := 125, cnalen := 124 }
def seatG : TN := { tSt := 76, tMap := 74, fLen := 105, fTeach := 106, fEach := 152, fCb := 153 }
def seatS : SN := { T := seatT, fds := 31, fd := 48, trs := 23, tr := 26, tgs := 24, tg := 71, msg := 33, fSame := 23, fVer := 15, fWrite := 13, fDflt := 0, fPart := 42, fHas := 89, fField := 90, fAt := 91, fKnown := 92, fUsual := 93, fUvar := 94, fUnk := 95, fWhole := 96, fNull := 133, fThings := 134, fCounted := 135, fValue := 136, fFixed := 137, fWidth := 138 }
def seatR : RN := { T := seatT, tA := 118, tR := 163, tBE := 182, gBE := 0, gErr := 1, tErr := 51, be16 := 174, be32 := 183, be64 := 185, uvd := 184, span := 177, uv := 175, i8 := 154, i16 := 139, u16 := 0, i32 := 155, i64 := 146, r64 := 178, bool := 0, str := 163, cstr := 162, nstr := 143, cnstr := 141, byt := 145, cbyt := 144, nbyt := 0, cnbyt := 0, uuid := 167, alen := 157, calen := 156, compl := 148, okf := 158 }
def seatTG : TG := { tSt := 76, tMap := 74, fSet := 179, fRead := 147 }
def seatE : EN := { tSt := 76, tMap := 74, tKs := 188, tU32 := 69, tInt := 3, fLess := 182, fSort := 181, fCb := 153 }
def seatZ : FTN := { f2 := 11, f3 := 39, f4 := 87 }
theorem seatAOk : (seatAB Tryz.prog seatK seatG seatS seatR seatTG seatE).all id = true := by kernel_rfl
theorem argOk : ArgOk Tryz.prog seatS := arg_of (by kernel_rfl)
def sl6_ren : Go.Shelf.Ren := ⟨fun | 6 => 181 | 10 => 186 | 11 => 187 | 12 => 188 | 13 => 189 | 14 => 190 | 24 => 180 | 25 => 200 | 26 => 201 | 27 => 202 | 28 => 203 | 29 => 204 | 30 => 205 | 31 => 206 | 32 => 207 | 33 => 208 | 34 => 209 | 35 => 210 | 36 => 211 | 37 => 212 | 38 => 213 | 39 => 214 | n => n, fun | 20 => 20 | 26 => 190 | 35 => 198 | 0 => 0 | 37 => 200 | 3 => 3 | 41 => 161 | 44 => 205 | 49 => 69 | 51 => 85 | 4 => 4 | 54 => 212 | 53 => 211 | 58 => 216 | 5 => 5 | 9 => 9 | 60 => 218 | 64 => 221 | 66 => 223 | 67 => 224 | 17 => 17 | 32 => 195 | 33 => 196 | 82 => 239 | 12 => 12 | 75 => 232 | 76 => 233 | 77 => 234 | 78 => 235 | 79 => 236 | 80 => 237 | n => n, fun n => n⟩
theorem sl6 : LaysGg.n6 Tryz.prog sl6_ren := {
  mixed := by kernel_rfl,
  f6 := Tryz.func181.trans (congrArg some (by kernel_rfl)),
  f10 := Tryz.func186.trans (congrArg some (by kernel_rfl)),
  f11 := Tryz.func187.trans (congrArg some (by kernel_rfl)),
  f12 := Tryz.func188.trans (congrArg some (by kernel_rfl)),
  f13 := Tryz.func189.trans (congrArg some (by kernel_rfl)),
  f14 := Tryz.func190.trans (congrArg some (by kernel_rfl)),
  f24 := Tryz.func180.trans (congrArg some (by kernel_rfl)),
  f25 := Tryz.func200.trans (congrArg some (by kernel_rfl)),
  f26 := Tryz.func201.trans (congrArg some (by kernel_rfl)),
  f27 := Tryz.func202.trans (congrArg some (by kernel_rfl)),
  f28 := Tryz.func203.trans (congrArg some (by kernel_rfl)),
  f29 := Tryz.func204.trans (congrArg some (by kernel_rfl)),
  f30 := Tryz.func205.trans (congrArg some (by kernel_rfl)),
  f31 := Tryz.func206.trans (congrArg some (by kernel_rfl)),
  f32 := Tryz.func207.trans (congrArg some (by kernel_rfl)),
  f33 := Tryz.func208.trans (congrArg some (by kernel_rfl)),
  f34 := Tryz.func209.trans (congrArg some (by kernel_rfl)),
  f35 := Tryz.func210.trans (congrArg some (by kernel_rfl)),
  f36 := Tryz.func211.trans (congrArg some (by kernel_rfl)),
  f37 := Tryz.func212.trans (congrArg some (by kernel_rfl)),
  f38 := Tryz.func213.trans (congrArg some (by kernel_rfl)),
  f39 := Tryz.func214.trans (congrArg some (by kernel_rfl)),
  t0 := Tryz.underlying0,
  a0 := Tryz.isAgg0,
  z0 := Tryz.sizeOf0,
  v0 := Tryz.zeroValue0,
  i0 := by kernel_rfl,
  t3 := Tryz.underlying3,
  a3 := Tryz.isAgg3,
  z3 := Tryz.sizeOf3,
  v3 := Tryz.zeroValue3,
  i3 := by kernel_rfl,
  t4 := Tryz.underlying4,
  a4 := Tryz.isAgg4,
  z4 := Tryz.sizeOf4,
  v4 := Tryz.zeroValue4,
  i4 := by kernel_rfl,
  t5 := Tryz.underlying5,
  a5 := Tryz.isAgg5,
  z5 := Tryz.sizeOf5,
  v5 := Tryz.zeroValue5,
  i5 := by kernel_rfl,
  t9 := Tryz.underlying9,
  a9 := Tryz.isAgg9,
  z9 := Tryz.sizeOf9,
  v9 := Tryz.zeroValue9,
  i9 := by kernel_rfl,
  t12 := Tryz.underlying12,
  a12 := Tryz.isAgg12,
  z12 := Tryz.sizeOf12,
  v12 := Tryz.zeroValue12,
  i12 := by kernel_rfl,
  t17 := Tryz.underlying17,
  a17 := Tryz.isAgg17,
  z17 := Tryz.sizeOf17,
  v17 := Tryz.zeroValue17,
  i17 := by kernel_rfl,
  t20 := Tryz.underlying20,
  a20 := Tryz.isAgg20,
  z20 := Tryz.sizeOf20,
  v20 := Tryz.zeroValue20,
  i20 := by kernel_rfl,
  t26 := Tryz.underlying190,
  a26 := Tryz.isAgg190,
  z26 := Tryz.sizeOf190,
  v26 := Tryz.zeroValue190,
  i26 := by kernel_rfl,
  t32 := Tryz.underlying195,
  a32 := Tryz.isAgg195,
  z32 := Tryz.sizeOf195,
  v32 := Tryz.zeroValue195,
  i32 := by kernel_rfl,
  t33 := Tryz.underlying196,
  a33 := Tryz.isAgg196,
  z33 := Tryz.sizeOf196,
  v33 := Tryz.zeroValue196,
  i33 := by kernel_rfl,
  t35 := Tryz.underlying198,
  a35 := Tryz.isAgg198,
  z35 := Tryz.sizeOf198,
  v35 := Tryz.zeroValue198,
  i35 := by kernel_rfl,
  t37 := Tryz.underlying200,
  a37 := Tryz.isAgg200,
  z37 := Tryz.sizeOf200,
  v37 := Tryz.zeroValue200,
  i37 := by kernel_rfl,
  t41 := Tryz.underlying161,
  a41 := Tryz.isAgg161,
  z41 := Tryz.sizeOf161,
  v41 := Tryz.zeroValue161,
  i41 := by kernel_rfl,
  t44 := Tryz.underlying205,
  a44 := Tryz.isAgg205,
  z44 := Tryz.sizeOf205,
  v44 := Tryz.zeroValue205,
  i44 := by kernel_rfl,
  t49 := Tryz.underlying69,
  a49 := Tryz.isAgg69,
  z49 := Tryz.sizeOf69,
  v49 := Tryz.zeroValue69,
  i49 := by kernel_rfl,
  t51 := Tryz.underlying85,
  a51 := Tryz.isAgg85,
  z51 := Tryz.sizeOf85,
  v51 := Tryz.zeroValue85,
  i51 := by kernel_rfl,
  t53 := Tryz.underlying211,
  a53 := Tryz.isAgg211,
  z53 := Tryz.sizeOf211,
  v53 := Tryz.zeroValue211,
  i53 := by kernel_rfl,
  t54 := Tryz.underlying212,
  a54 := Tryz.isAgg212,
  z54 := Tryz.sizeOf212,
  v54 := Tryz.zeroValue212,
  i54 := by kernel_rfl,
  t58 := Tryz.underlying216,
  a58 := Tryz.isAgg216,
  z58 := Tryz.sizeOf216,
  v58 := Tryz.zeroValue216,
  i58 := by kernel_rfl,
  t60 := Tryz.underlying218,
  a60 := Tryz.isAgg218,
  z60 := Tryz.sizeOf218,
  v60 := Tryz.zeroValue218,
  i60 := by kernel_rfl,
  t64 := Tryz.underlying221,
  a64 := Tryz.isAgg221,
  z64 := Tryz.sizeOf221,
  v64 := Tryz.zeroValue221,
  i64 := by kernel_rfl,
  t66 := Tryz.underlying223,
  a66 := Tryz.isAgg223,
  z66 := Tryz.sizeOf223,
  v66 := Tryz.zeroValue223,
  i66 := by kernel_rfl,
  t67 := Tryz.underlying224,
  a67 := Tryz.isAgg224,
  z67 := Tryz.sizeOf224,
  v67 := Tryz.zeroValue224,
  i67 := by kernel_rfl,
  t75 := Tryz.underlying232,
  a75 := Tryz.isAgg232,
  z75 := Tryz.sizeOf232,
  v75 := Tryz.zeroValue232,
  i75 := by kernel_rfl,
  t76 := Tryz.underlying233,
  a76 := Tryz.isAgg233,
  z76 := Tryz.sizeOf233,
  v76 := Tryz.zeroValue233,
  i76 := by kernel_rfl,
  t77 := Tryz.underlying234,
  a77 := Tryz.isAgg234,
  z77 := Tryz.sizeOf234,
  v77 := Tryz.zeroValue234,
  i77 := by kernel_rfl,
  t78 := Tryz.underlying235,
  a78 := Tryz.isAgg235,
  z78 := Tryz.sizeOf235,
  v78 := Tryz.zeroValue235,
  i78 := by kernel_rfl,
  t79 := Tryz.underlying236,
  a79 := Tryz.isAgg236,
  z79 := Tryz.sizeOf236,
  v79 := Tryz.zeroValue236,
  i79 := by kernel_rfl,
  t80 := Tryz.underlying237,
  a80 := Tryz.isAgg237,
  z80 := Tryz.sizeOf237,
  v80 := Tryz.zeroValue237,
  i80 := by kernel_rfl,
  t82 := Tryz.underlying239,
  a82 := Tryz.isAgg239,
  z82 := Tryz.sizeOf239,
  v82 := Tryz.zeroValue239,
  i82 := by kernel_rfl }
noncomputable def siT : TypeInfo := (Tryz.prog.info? 188).get (by kernel_rfl)
noncomputable def siE : TypeInfo := (Tryz.prog.info? 69).get (by kernel_rfl)
theorem siK (n : Nat) (h2 : 2 ≤ n) : Go.Lib.swapperK n siE 10 = 6 := by
  have a : siE.hasPointers = false := by kernel_rfl
  have b : siE.bytes = 4 := by kernel_rfl
  have c : (n == 0) = false := by simp; omega
  have d : (n == 1) = false := by simp; omega
  simp [Go.Lib.swapperK, a, b, c, d]
theorem sortOk : SortC Tryz.prog seatE.tKs seatE.tU32 seatE.fSort seatE.fLess :=
  sort_ok (K := seatE) (T := seatT) (teA_of seatAOk) rfl rfl (by kernel_rfl) (FnIs.of (by kernel_rfl)) (by kernel_rfl)
    (fun lb blk off c d h2 hsz w hless hH hblk => Any.sort_Slice_sorted sl6 188 69 siT siE (by kernel_rfl) (by kernel_rfl) (by kernel_rfl) (by kernel_rfl) 10 (fun _ => by kernel_rfl) (by kernel_rfl) (fun _ => by kernel_rfl) u32V (fun _ => rfl) (fun a b : Nat => decide (a < b)) swo_nat 182 lb
      (enters_of Tryz.func182 (by kernel_rfl) rfl) blk off c d h2 hsz 196 (by rw [siK _ h2]; kernel_rfl) true
      (fun args W => run_callFunc_extern Tryz.func196 (by kernel_rfl) (by kernel_rfl) (by kernel_rfl) (e := Extern.ReflectliteSwapper.swap true) (by kernel_rfl) args W) w hless hH hblk)
    (fun p n c h1 lf la lb w => Any.sort_Slice_tiny sl6 188 69 siT siE (by kernel_rfl) (by kernel_rfl) (by kernel_rfl) (by kernel_rfl) 10 (fun _ => by kernel_rfl) p n c h1 (191 + n) (by
      rcases Nat.eq_zero_or_pos n with h | h
      · subst h; kernel_rfl
      · obtain rfl : n = 1 := by omega
        kernel_rfl) lf la lb w)
theorem seatA : SeatA Tryz.prog seatK seatG seatS seatR seatTG := seatA_of seatAOk sortOk
theorem seatOk : (seatB Tryz.prog seatK seatG seatS).all id = true := by kernel_rfl
theorem seat2Ok : (seat2B Tryz.prog seatK seatG seatS seatR seatTG seatE seatZ).all id = true := by kernel_rfl
theorem tree : TreeOk Tryz.prog seatS := tree_of (by kernel_rfl)
theorem seat2 : Seat2 Tryz.prog seatK seatG seatS seatR seatTG seatE seatZ := seat2_of seatOk seat2Ok sortOk
/-- What the row's list gives: the variable holds an error. -/
theorem err {W : World} (h : laidMetH Tryz.prog [("pub-kmsg/pub/kmsg/inner/kbin.ErrNotEnoughData", Rows.laid_pub_kmsg_pub_kmsg_inner_kbin_ErrNotEnoughData)] W) : ∃ ev, W.cell? ⟨seatR.gErr, 0, none⟩ = some ev ∧ isErr ev := by
  rw [MakeChecks.laidMetH_plain _ _ _ (by kernel_rfl)] at h
  exact laid_err (t := 51) (by kernel_rfl) (by kernel_rfl) (by kernel_rfl) h
/-- A world that meets the row's list: the error as its initialiser lays it. -/
noncomputable def low : Nat := (World.holding Tryz.prog default ⟨#[], #[], []⟩).heap.size
abbrev errS : ByteArray := { data := #[114, 101, 115, 112, 111, 110, 115, 101, 32, 100, 105, 100, 32, 110, 111, 116, 32, 99, 111, 110, 116, 97, 105, 110, 32, 101, 110, 111, 117, 103, 104, 32, 100, 97, 116, 97, 32, 116, 111, 32, 98, 101, 32, 118, 97, 108, 105, 100] }
noncomputable def laidWorld (os : Os) : World :=
  let w0 := World.holding Tryz.prog os ⟨#[.cells #[.string errS] 244], #[], []⟩
  { w0 with heap := w0.heap.modify 1 fun
      | .cells _ t frozen => .cells #[.iface 226 (.pointer (some ⟨low, 0, none⟩))] t frozen
      | o => o }
theorem laid_met (os : Os) (args : Array Value) : laidMet Tryz.prog [("pub-kmsg/pub/kmsg/inner/kbin.ErrNotEnoughData", Rows.laid_pub_kmsg_pub_kmsg_inner_kbin_ErrNotEnoughData)] ((laidWorld os).forCall (fun _ _ => 0) ⟨#[], args, []⟩).memory :=
  laidMet_of_run (ps := [.cell 1 0, .cell low 0]) 8 (by kernel_rfl) (by kernel_rfl) (by kernel_rfl)
theorem own : ownKnob Tryz.prog.godebug = none := by kernel_rfl
theorem bulkOk (H : Type) : BulkOk (H := H) Rows.uptoBulk Rows.uptoBulkAll := {
  one := fun d => by
    cases d with
    | lit l => cases l <;> simp [Rows.uptoBulk]
    | nil => simp [Rows.uptoBulk]
    | ptr d => simp [Rows.uptoBulk]
    | slice e s => simp [Rows.uptoBulk]
    | agg ps => simp [Rows.uptoBulk]
    | iface n d => simp [Rows.uptoBulk]
    | map es => simp [Rows.uptoBulk]
    | held h => simp [Rows.uptoBulk]
  slice := fun e s => by simp only [Rows.uptoBulk]; omega
  agg := fun ps => by simp only [Rows.uptoBulk]; omega
  cons := fun d l => by simp only [Rows.uptoBulkAll]; omega }
end Go.Proofs.YtafoaplcmgfloaaGreatDoor
