/- The seat's program passes the tests of what the laws that read rest on; sort.Slice's closure is laid; the listed error. No condition. -/
import Derived.Test.YthnlfmcijgphmaaDoorRProg
import Derived.Test.YthnlfmcijgphmaaDoorRRows
import Derived.Test.YthnlfmcijgphmaaDoorRKxN
import Derived.KernelRfl
import Derived.MakeChecks
import Derived.LaidLaws
import Derived.Deep.DeepHandedRow
import Derived.Laws.Externs
import Derived.Shelf.Abstract
import Derived.ProofKit
namespace Go.Proofs.YthnlfmcijgphmaaDoorR
open Go.Kx Go.Shelf Go.RowKit
set_option maxRecDepth 100000
def seatT : IT := { u8 := 5, u8s := 22, i8 := 52, i16 := 29, u16 := 93, i32 := 21, u32 := 62, i64 := 2, u64 := 193, int := 3, str := 9, bool := 4 }
def seatK : KB := { T := seatT, tP := 82, tA := 86, i8 := 72, u16 := 92, i16 := 93, u32 := 119, i32 := 78, u64 := 0, i64 := 0, bool := 71, uuid := 91, l32 := 143, uvl := 106, uv := 73, str := 82, cstr := 81, nstr := 88, cnstr := 87, byt := 0, cbyt := 0, nbyt := 0, cnbyt := 0, alen := 80, calen := 79, nalen := 84, cnalen := 83, f64 := 0, ffb := 0 }
def seatG : TN := { tSt := 55, tMap := 53, fLen := 74, fTeach := 75, fEach := 107, fCb := 108 }
def seatS : SN := { T := seatT, fds := 0, fd := 0, trs := 0, tr := 0, tgs := 0, tg := 0, msg := 0, fSame := 14, fVer := 13, fWrite := 0, fDflt := 0, fPart := 0, fHas := 0, fField := 0, fAt := 0, fKnown := 0, fUsual := 0, fUvar := 0, fUnk := 0, fWhole := 0, fNull := 0, fThings := 0, fCounted := 0, fValue := 0, fFixed := 0, fWidth := 0 }
def seatR : RN := { T := seatT, tA := 86, tR := 150, tBE := 172, gBE := 1, gErr := 0, tErr := 35, be16 := 148, be32 := 146, be64 := 0, uvd := 149, span := 142, uv := 140, i8 := 103, i16 := 128, u16 := 127, i32 := 109, i64 := 0, r64 := 0, bool := 102, str := 117, cstr := 116, nstr := 124, cnstr := 122, byt := 0, cbyt := 0, nbyt := 0, cnbyt := 0, uuid := 125, alen := 111, calen := 110, compl := 105, okf := 112, f64 := 0, ffr := 0 }
def seatTG : TG := { tSt := 55, tMap := 53, fSet := 141, fRead := 104 }
def seatE : EN := { tSt := 55, tMap := 53, tKs := 168, tU32 := 62, tInt := 3, fLess := 145, fSort := 144, fCb := 108 }
def seatZ : FTN := { f2 := 0, f3 := 0, f4 := 0 }
theorem seatAOk : (seatAB Tryd.prog seatK seatG seatS seatR seatTG seatE).all id = true := by kernel_rfl
theorem argOk : ArgOk Tryd.prog seatS := arg_of (by kernel_rfl)
def sl6_ren : Go.Shelf.Ren := ⟨fun | 6 => 144 | 10 => 150 | 11 => 151 | 12 => 152 | 13 => 153 | 14 => 154 | 24 => 143 | 25 => 164 | 26 => 165 | 27 => 166 | 28 => 167 | 29 => 168 | 30 => 169 | 31 => 170 | 32 => 171 | 33 => 172 | 34 => 173 | 35 => 174 | 36 => 175 | 37 => 176 | 38 => 177 | 39 => 178 | n => n, fun | 20 => 20 | 26 => 170 | 35 => 181 | 0 => 0 | 37 => 183 | 3 => 3 | 41 => 157 | 44 => 188 | 49 => 62 | 51 => 193 | 4 => 4 | 54 => 196 | 53 => 195 | 58 => 200 | 5 => 5 | 9 => 9 | 60 => 202 | 64 => 206 | 66 => 208 | 67 => 209 | 17 => 17 | 32 => 178 | 33 => 179 | 82 => 224 | 12 => 12 | 75 => 217 | 76 => 218 | 77 => 219 | 78 => 220 | 79 => 221 | 80 => 222 | n => n, fun n => n⟩
theorem sl6 : LaysGg.n6 Tryd.prog sl6_ren := {
  mixed := by kernel_rfl,
  f6 := Tryd.func144.trans (congrArg some (by kernel_rfl)),
  f10 := Tryd.func150.trans (congrArg some (by kernel_rfl)),
  f11 := Tryd.func151.trans (congrArg some (by kernel_rfl)),
  f12 := Tryd.func152.trans (congrArg some (by kernel_rfl)),
  f13 := Tryd.func153.trans (congrArg some (by kernel_rfl)),
  f14 := Tryd.func154.trans (congrArg some (by kernel_rfl)),
  f24 := Tryd.func143.trans (congrArg some (by kernel_rfl)),
  f25 := Tryd.func164.trans (congrArg some (by kernel_rfl)),
  f26 := Tryd.func165.trans (congrArg some (by kernel_rfl)),
  f27 := Tryd.func166.trans (congrArg some (by kernel_rfl)),
  f28 := Tryd.func167.trans (congrArg some (by kernel_rfl)),
  f29 := Tryd.func168.trans (congrArg some (by kernel_rfl)),
  f30 := Tryd.func169.trans (congrArg some (by kernel_rfl)),
  f31 := Tryd.func170.trans (congrArg some (by kernel_rfl)),
  f32 := Tryd.func171.trans (congrArg some (by kernel_rfl)),
  f33 := Tryd.func172.trans (congrArg some (by kernel_rfl)),
  f34 := Tryd.func173.trans (congrArg some (by kernel_rfl)),
  f35 := Tryd.func174.trans (congrArg some (by kernel_rfl)),
  f36 := Tryd.func175.trans (congrArg some (by kernel_rfl)),
  f37 := Tryd.func176.trans (congrArg some (by kernel_rfl)),
  f38 := Tryd.func177.trans (congrArg some (by kernel_rfl)),
  f39 := Tryd.func178.trans (congrArg some (by kernel_rfl)),
  t0 := Tryd.underlying0,
  a0 := Tryd.isAgg0,
  z0 := Tryd.sizeOf0,
  v0 := Tryd.zeroValue0,
  i0 := by kernel_rfl,
  t3 := Tryd.underlying3,
  a3 := Tryd.isAgg3,
  z3 := Tryd.sizeOf3,
  v3 := Tryd.zeroValue3,
  i3 := by kernel_rfl,
  t4 := Tryd.underlying4,
  a4 := Tryd.isAgg4,
  z4 := Tryd.sizeOf4,
  v4 := Tryd.zeroValue4,
  i4 := by kernel_rfl,
  t5 := Tryd.underlying5,
  a5 := Tryd.isAgg5,
  z5 := Tryd.sizeOf5,
  v5 := Tryd.zeroValue5,
  i5 := by kernel_rfl,
  t9 := Tryd.underlying9,
  a9 := Tryd.isAgg9,
  z9 := Tryd.sizeOf9,
  v9 := Tryd.zeroValue9,
  i9 := by kernel_rfl,
  t12 := Tryd.underlying12,
  a12 := Tryd.isAgg12,
  z12 := Tryd.sizeOf12,
  v12 := Tryd.zeroValue12,
  i12 := by kernel_rfl,
  t17 := Tryd.underlying17,
  a17 := Tryd.isAgg17,
  z17 := Tryd.sizeOf17,
  v17 := Tryd.zeroValue17,
  i17 := by kernel_rfl,
  t20 := Tryd.underlying20,
  a20 := Tryd.isAgg20,
  z20 := Tryd.sizeOf20,
  v20 := Tryd.zeroValue20,
  i20 := by kernel_rfl,
  t26 := Tryd.underlying170,
  a26 := Tryd.isAgg170,
  z26 := Tryd.sizeOf170,
  v26 := Tryd.zeroValue170,
  i26 := by kernel_rfl,
  t32 := Tryd.underlying178,
  a32 := Tryd.isAgg178,
  z32 := Tryd.sizeOf178,
  v32 := Tryd.zeroValue178,
  i32 := by kernel_rfl,
  t33 := Tryd.underlying179,
  a33 := Tryd.isAgg179,
  z33 := Tryd.sizeOf179,
  v33 := Tryd.zeroValue179,
  i33 := by kernel_rfl,
  t35 := Tryd.underlying181,
  a35 := Tryd.isAgg181,
  z35 := Tryd.sizeOf181,
  v35 := Tryd.zeroValue181,
  i35 := by kernel_rfl,
  t37 := Tryd.underlying183,
  a37 := Tryd.isAgg183,
  z37 := Tryd.sizeOf183,
  v37 := Tryd.zeroValue183,
  i37 := by kernel_rfl,
  t41 := Tryd.underlying157,
  a41 := Tryd.isAgg157,
  z41 := Tryd.sizeOf157,
  v41 := Tryd.zeroValue157,
  i41 := by kernel_rfl,
  t44 := Tryd.underlying188,
  a44 := Tryd.isAgg188,
  z44 := Tryd.sizeOf188,
  v44 := Tryd.zeroValue188,
  i44 := by kernel_rfl,
  t49 := Tryd.underlying62,
  a49 := Tryd.isAgg62,
  z49 := Tryd.sizeOf62,
  v49 := Tryd.zeroValue62,
  i49 := by kernel_rfl,
  t51 := Tryd.underlying193,
  a51 := Tryd.isAgg193,
  z51 := Tryd.sizeOf193,
  v51 := Tryd.zeroValue193,
  i51 := by kernel_rfl,
  t53 := Tryd.underlying195,
  a53 := Tryd.isAgg195,
  z53 := Tryd.sizeOf195,
  v53 := Tryd.zeroValue195,
  i53 := by kernel_rfl,
  t54 := Tryd.underlying196,
  a54 := Tryd.isAgg196,
  z54 := Tryd.sizeOf196,
  v54 := Tryd.zeroValue196,
  i54 := by kernel_rfl,
  t58 := Tryd.underlying200,
  a58 := Tryd.isAgg200,
  z58 := Tryd.sizeOf200,
  v58 := Tryd.zeroValue200,
  i58 := by kernel_rfl,
  t60 := Tryd.underlying202,
  a60 := Tryd.isAgg202,
  z60 := Tryd.sizeOf202,
  v60 := Tryd.zeroValue202,
  i60 := by kernel_rfl,
  t64 := Tryd.underlying206,
  a64 := Tryd.isAgg206,
  z64 := Tryd.sizeOf206,
  v64 := Tryd.zeroValue206,
  i64 := by kernel_rfl,
  t66 := Tryd.underlying208,
  a66 := Tryd.isAgg208,
  z66 := Tryd.sizeOf208,
  v66 := Tryd.zeroValue208,
  i66 := by kernel_rfl,
  t67 := Tryd.underlying209,
  a67 := Tryd.isAgg209,
  z67 := Tryd.sizeOf209,
  v67 := Tryd.zeroValue209,
  i67 := by kernel_rfl,
  t75 := Tryd.underlying217,
  a75 := Tryd.isAgg217,
  z75 := Tryd.sizeOf217,
  v75 := Tryd.zeroValue217,
  i75 := by kernel_rfl,
  t76 := Tryd.underlying218,
  a76 := Tryd.isAgg218,
  z76 := Tryd.sizeOf218,
  v76 := Tryd.zeroValue218,
  i76 := by kernel_rfl,
  t77 := Tryd.underlying219,
  a77 := Tryd.isAgg219,
  z77 := Tryd.sizeOf219,
  v77 := Tryd.zeroValue219,
  i77 := by kernel_rfl,
  t78 := Tryd.underlying220,
  a78 := Tryd.isAgg220,
  z78 := Tryd.sizeOf220,
  v78 := Tryd.zeroValue220,
  i78 := by kernel_rfl,
  t79 := Tryd.underlying221,
  a79 := Tryd.isAgg221,
  z79 := Tryd.sizeOf221,
  v79 := Tryd.zeroValue221,
  i79 := by kernel_rfl,
  t80 := Tryd.underlying222,
  a80 := Tryd.isAgg222,
  z80 := Tryd.sizeOf222,
  v80 := Tryd.zeroValue222,
  i80 := by kernel_rfl,
  t82 := Tryd.underlying224,
  a82 := Tryd.isAgg224,
  z82 := Tryd.sizeOf224,
  v82 := Tryd.zeroValue224,
  i82 := by kernel_rfl }
noncomputable def siT : TypeInfo := (Tryd.prog.info? 168).get (by kernel_rfl)
noncomputable def siE : TypeInfo := (Tryd.prog.info? 62).get (by kernel_rfl)
theorem siK (n : Nat) (h2 : 2 ≤ n) : Go.Lib.swapperK n siE 10 = 6 := by
  have a : siE.hasPointers = false := by kernel_rfl
  have b : siE.bytes = 4 := by kernel_rfl
  have c : (n == 0) = false := by simp; omega
  have d : (n == 1) = false := by simp; omega
  simp [Go.Lib.swapperK, a, b, c, d]
theorem sortOk : SortC Tryd.prog seatE.tKs seatE.tU32 seatE.fSort seatE.fLess :=
  sort_ok (K := seatE) (T := seatT) (teA_of seatAOk) rfl rfl (by kernel_rfl) (FnIs.of (by kernel_rfl)) (by kernel_rfl)
    (fun lb blk off c d h2 hsz w hless hH hblk => Any.sort_Slice_sorted sl6 168 62 siT siE (by kernel_rfl) (by kernel_rfl) (by kernel_rfl) (by kernel_rfl) 10 (fun _ => by kernel_rfl) (by kernel_rfl) (fun _ => by kernel_rfl) u32V (fun _ => rfl) (fun a b : Nat => decide (a < b)) swo_nat 145 lb
      (enters_of Tryd.func145 (by kernel_rfl) rfl) blk off c d h2 hsz 160 (by rw [siK _ h2]; kernel_rfl) true
      (fun args W => run_callFunc_extern Tryd.func160 (by kernel_rfl) (by kernel_rfl) (by kernel_rfl) (e := Extern.ReflectliteSwapper.swap true) (by kernel_rfl) args W) w hless hH hblk)
    (fun p n c h1 lf la lb w => Any.sort_Slice_tiny sl6 168 62 siT siE (by kernel_rfl) (by kernel_rfl) (by kernel_rfl) (by kernel_rfl) 10 (fun _ => by kernel_rfl) p n c h1 (155 + n) (by
      rcases Nat.eq_zero_or_pos n with h | h
      · subst h; kernel_rfl
      · obtain rfl : n = 1 := by omega
        kernel_rfl) lf la lb w)
theorem fl : FlOk Tryd.prog seatK seatR := fl_none rfl rfl
theorem seatA : SeatA Tryd.prog seatK seatG seatS seatR seatTG := seatA_of seatAOk sortOk fl
/-- What the row's list gives: the variable holds an error. -/
theorem err {W : World} (h : laidMetH Tryd.prog [("pub-kmsg/pub/kmsg/inner/kbin.ErrNotEnoughData", Rows.laid_pub_kmsg_pub_kmsg_inner_kbin_ErrNotEnoughData)] W) : ∃ ev, W.cell? ⟨seatR.gErr, 0, none⟩ = some ev ∧ isErr ev := by
  rw [MakeChecks.laidMetH_plain _ _ _ (by kernel_rfl)] at h
  exact laid_err (t := 35) (by kernel_rfl) (by kernel_rfl) (by kernel_rfl) h
/-- A world that meets the row's list: the error as its initialiser lays it. -/
noncomputable def low : Nat := (World.holding Tryd.prog default ⟨#[], #[], []⟩).heap.size
abbrev errS : ByteArray := { data := #[114, 101, 115, 112, 111, 110, 115, 101, 32, 100, 105, 100, 32, 110, 111, 116, 32, 99, 111, 110, 116, 97, 105, 110, 32, 101, 110, 111, 117, 103, 104, 32, 100, 97, 116, 97, 32, 116, 111, 32, 98, 101, 32, 118, 97, 108, 105, 100] }
noncomputable def laidWorld (os : Os) : World :=
  let w0 := World.holding Tryd.prog os ⟨#[.cells #[.string errS] 229], #[], []⟩
  { w0 with heap := w0.heap.modify 0 fun
      | .cells _ t frozen => .cells #[.iface 211 (.pointer (some ⟨low, 0, none⟩))] t frozen
      | o => o }
theorem laid_met (os : Os) (args : Array Value) : laidMet Tryd.prog [("pub-kmsg/pub/kmsg/inner/kbin.ErrNotEnoughData", Rows.laid_pub_kmsg_pub_kmsg_inner_kbin_ErrNotEnoughData)] ((laidWorld os).forCall (fun _ _ => 0) ⟨#[], args, []⟩).memory :=
  laidMet_of_run (ps := [.cell 0 0, .cell low 0]) 8 (by kernel_rfl) (by kernel_rfl) (by kernel_rfl)
theorem own : ownKnob Tryd.prog.godebug = none := by kernel_rfl
theorem bulkOk (H : Type) : BulkOk (H := H) Rows.uptoBulk Rows.uptoBulkAll := {
  one := fun d => by
    cases d with
    | lit l => cases l <;> simp [Rows.uptoBulk]
    | nil => simp [Rows.uptoBulk]
    | ptr d => simp [Rows.uptoBulk]
    | slice e s => simp [Rows.uptoBulk]
    | agg ps => simp [Rows.uptoBulk]
    | iface n d => simp [Rows.uptoBulk]
    | map es => simp [Rows.uptoBulk]
    | held h => simp [Rows.uptoBulk]
  slice := fun e s => by simp only [Rows.uptoBulk]; omega
  agg := fun ps => by simp only [Rows.uptoBulk]; omega
  cons := fun d l => by simp only [Rows.uptoBulkAll]; omega }
end Go.Proofs.YthnlfmcijgphmaaDoorR
