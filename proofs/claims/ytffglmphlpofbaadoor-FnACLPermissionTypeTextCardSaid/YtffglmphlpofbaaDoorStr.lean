/- The contracts of what the laws on names call, of the seat's program; what its listed variables hold. No condition but that the table of blanks is as its initialiser lays it. -/
import Derived.Test.YtffglmphlpofbaaDoorProg
import Derived.Test.YtffglmphlpofbaaDoorRows
import Derived.Test.YtffglmphlpofbaaDoorKxL
import Derived.Shelf.Strings.TrimSpace
import Derived.Shelf.Strings.OnBuilder
import Derived.Lib.LaidCaseMet
import Derived.Lib.LaidTab
import Derived.Lib.LaidU8
import Derived.MakeChecks
import Derived.KernelRfl
namespace Go.Proofs.YtffglmphlpofbaaDoor.str
open Go.Shelf Go.RowKit Go.Kx
set_option maxRecDepth 100000
def renT : Ren := ⟨fun | 163 => 122 | 237 => 151 | 199 => 152 | 238 => 153 | 272 => 172 | 261 => 173 | 273 => 174 | 197 => 175 | 315 => 209 | 311 => 210 | 312 => 211 | 271 => 212 | 260 => 213 | 120 => 225 | n => n, fun | 9 => 9 | 37 => 22 | 3 => 3 | 0 => 0 | 5 => 5 | 4 => 4 | 40 => 232 | 119 => 233 | 21 => 21 | 51 => 110 | 141 => 262 | 105 => 264 | 196 => 285 | 193 => 282 | 198 => 287 | 49 => 27 | 194 => 283 | 201 => 290 | 226 => 304 | 46 => 143 | 227 => 305 | 139 => 308 | 138 => 307 | n => n, fun | 0 => 2 | 6 => 3 | 3 => 5 | 4 => 6 | n => n⟩
theorem laysT : Lays.n163 Tryd.prog renT where
  mixed := by kernel_rfl
  f120 := Tryd.func225.trans (congrArg some (by kernel_rfl))
  f163 := Tryd.func122.trans (congrArg some (by kernel_rfl))
  f197 := Tryd.func175.trans (congrArg some (by kernel_rfl))
  f199 := Tryd.func152.trans (congrArg some (by kernel_rfl))
  f237 := Tryd.func151.trans (congrArg some (by kernel_rfl))
  f238 := Tryd.func153.trans (congrArg some (by kernel_rfl))
  f260 := Tryd.func213.trans (congrArg some (by kernel_rfl))
  f261 := Tryd.func173.trans (congrArg some (by kernel_rfl))
  f271 := Tryd.func212.trans (congrArg some (by kernel_rfl))
  f272 := Tryd.func172.trans (congrArg some (by kernel_rfl))
  f273 := Tryd.func174.trans (congrArg some (by kernel_rfl))
  f311 := Tryd.func210.trans (congrArg some (by kernel_rfl))
  f312 := Tryd.func211.trans (congrArg some (by kernel_rfl))
  f315 := Tryd.func209.trans (congrArg some (by kernel_rfl))
  t0 := Tryd.underlying0
  a0 := Tryd.isAgg0
  z0 := Tryd.sizeOf0
  v0 := Tryd.zeroValue0
  t3 := Tryd.underlying3
  a3 := Tryd.isAgg3
  z3 := Tryd.sizeOf3
  v3 := Tryd.zeroValue3
  t4 := Tryd.underlying4
  a4 := Tryd.isAgg4
  z4 := Tryd.sizeOf4
  v4 := Tryd.zeroValue4
  t5 := Tryd.underlying5
  a5 := Tryd.isAgg5
  z5 := Tryd.sizeOf5
  v5 := Tryd.zeroValue5
  t9 := Tryd.underlying9
  a9 := Tryd.isAgg9
  z9 := Tryd.sizeOf9
  v9 := Tryd.zeroValue9
  t21 := Tryd.underlying21
  a21 := Tryd.isAgg21
  z21 := Tryd.sizeOf21
  v21 := Tryd.zeroValue21
  t37 := Tryd.underlying22
  a37 := Tryd.isAgg22
  z37 := Tryd.sizeOf22
  v37 := Tryd.zeroValue22
  t40 := Tryd.underlying232
  a40 := Tryd.isAgg232
  z40 := Tryd.sizeOf232
  v40 := Tryd.zeroValue232
  t46 := Tryd.underlying143
  a46 := Tryd.isAgg143
  z46 := Tryd.sizeOf143
  v46 := Tryd.zeroValue143
  t49 := Tryd.underlying27
  a49 := Tryd.isAgg27
  z49 := Tryd.sizeOf27
  v49 := Tryd.zeroValue27
  t51 := Tryd.underlying110
  a51 := Tryd.isAgg110
  z51 := Tryd.sizeOf110
  v51 := Tryd.zeroValue110
  t105 := Tryd.underlying264
  a105 := Tryd.isAgg264
  z105 := Tryd.sizeOf264
  v105 := Tryd.zeroValue264
  t119 := Tryd.underlying233
  a119 := Tryd.isAgg233
  z119 := Tryd.sizeOf233
  t138 := Tryd.underlying307
  a138 := Tryd.isAgg307
  z138 := Tryd.sizeOf307
  v138 := Tryd.zeroValue307
  t139 := Tryd.underlying308
  a139 := Tryd.isAgg308
  z139 := Tryd.sizeOf308
  v139 := Tryd.zeroValue308
  t141 := Tryd.underlying262
  a141 := Tryd.isAgg262
  z141 := Tryd.sizeOf262
  v141 := Tryd.zeroValue262
  t193 := Tryd.underlying282
  a193 := Tryd.isAgg282
  z193 := Tryd.sizeOf282
  v193 := Tryd.zeroValue282
  t194 := Tryd.underlying283
  a194 := Tryd.isAgg283
  z194 := Tryd.sizeOf283
  v194 := Tryd.zeroValue283
  t196 := Tryd.underlying285
  a196 := Tryd.isAgg285
  z196 := Tryd.sizeOf285
  v196 := Tryd.zeroValue285
  t198 := Tryd.underlying287
  a198 := Tryd.isAgg287
  z198 := Tryd.sizeOf287
  v198 := Tryd.zeroValue287
  t201 := Tryd.underlying290
  a201 := Tryd.isAgg290
  z201 := Tryd.sizeOf290
  v201 := Tryd.zeroValue290
  t226 := Tryd.underlying304
  a226 := Tryd.isAgg304
  z226 := Tryd.sizeOf304
  v226 := Tryd.zeroValue304
  t227 := Tryd.underlying305
  a227 := Tryd.isAgg305
  z227 := Tryd.sizeOf305
  v227 := Tryd.zeroValue305
  g0 := by kernel_rfl
  g3 := by kernel_rfl
  g4 := by kernel_rfl
  g6 := by kernel_rfl
def renL : Ren := ⟨fun | 159 => 123 | 165 => 154 | 166 => 155 | 167 => 156 | 169 => 157 | 230 => 158 | 204 => 159 | 240 => 176 | 241 => 177 | 197 => 175 | 118 => 178 | 168 => 179 | 270 => 180 | 262 => 181 | 276 => 214 | 277 => 215 | 260 => 213 | 242 => 216 | 313 => 217 | 278 => 226 | 274 => 227 | 275 => 228 | n => n, fun | 9 => 9 | 4 => 4 | 3 => 3 | 5 => 5 | 72 => 236 | 0 => 0 | 76 => 237 | 75 => 77 | 107 => 241 | 70 => 234 | 20 => 20 | 37 => 22 | 127 => 266 | 21 => 21 | 105 => 264 | 164 => 249 | 162 => 295 | 203 => 293 | 119 => 233 | 46 => 143 | 139 => 308 | 138 => 307 | 51 => 110 | 160 => 309 | 208 => 320 | 206 => 318 | 80 => 95 | n => n, fun | 13 => 4 | 3 => 5 | 4 => 6 | n => n⟩
theorem laysL : Lays.n159 Tryd.prog renL where
  mixed := by kernel_rfl
  f118 := Tryd.func178.trans (congrArg some (by kernel_rfl))
  f159 := Tryd.func123.trans (congrArg some (by kernel_rfl))
  f165 := Tryd.func154.trans (congrArg some (by kernel_rfl))
  f166 := Tryd.func155.trans (congrArg some (by kernel_rfl))
  f167 := Tryd.func156.trans (congrArg some (by kernel_rfl))
  f168 := Tryd.func179.trans (congrArg some (by kernel_rfl))
  f169 := Tryd.func157.trans (congrArg some (by kernel_rfl))
  f197 := Tryd.func175.trans (congrArg some (by kernel_rfl))
  f204 := Tryd.func159.trans (congrArg some (by kernel_rfl))
  f230 := Tryd.func158.trans (congrArg some (by kernel_rfl))
  f240 := Tryd.func176.trans (congrArg some (by kernel_rfl))
  f241 := Tryd.func177.trans (congrArg some (by kernel_rfl))
  f242 := Tryd.func216.trans (congrArg some (by kernel_rfl))
  f260 := Tryd.func213.trans (congrArg some (by kernel_rfl))
  f262 := Tryd.func181.trans (congrArg some (by kernel_rfl))
  f270 := Tryd.func180.trans (congrArg some (by kernel_rfl))
  f274 := Tryd.func227.trans (congrArg some (by kernel_rfl))
  f275 := Tryd.func228.trans (congrArg some (by kernel_rfl))
  f276 := Tryd.func214.trans (congrArg some (by kernel_rfl))
  f277 := Tryd.func215.trans (congrArg some (by kernel_rfl))
  f278 := Tryd.func226.trans (congrArg some (by kernel_rfl))
  f313 := Tryd.func217.trans (congrArg some (by kernel_rfl))
  t0 := Tryd.underlying0
  a0 := Tryd.isAgg0
  z0 := Tryd.sizeOf0
  v0 := Tryd.zeroValue0
  t3 := Tryd.underlying3
  a3 := Tryd.isAgg3
  z3 := Tryd.sizeOf3
  v3 := Tryd.zeroValue3
  t4 := Tryd.underlying4
  a4 := Tryd.isAgg4
  z4 := Tryd.sizeOf4
  v4 := Tryd.zeroValue4
  t5 := Tryd.underlying5
  a5 := Tryd.isAgg5
  z5 := Tryd.sizeOf5
  v5 := Tryd.zeroValue5
  t9 := Tryd.underlying9
  a9 := Tryd.isAgg9
  z9 := Tryd.sizeOf9
  v9 := Tryd.zeroValue9
  t20 := Tryd.underlying20
  a20 := Tryd.isAgg20
  z20 := Tryd.sizeOf20
  v20 := Tryd.zeroValue20
  t21 := Tryd.underlying21
  a21 := Tryd.isAgg21
  z21 := Tryd.sizeOf21
  v21 := Tryd.zeroValue21
  t37 := Tryd.underlying22
  a37 := Tryd.isAgg22
  z37 := Tryd.sizeOf22
  v37 := Tryd.zeroValue22
  t46 := Tryd.underlying143
  a46 := Tryd.isAgg143
  z46 := Tryd.sizeOf143
  v46 := Tryd.zeroValue143
  t51 := Tryd.underlying110
  a51 := Tryd.isAgg110
  z51 := Tryd.sizeOf110
  v51 := Tryd.zeroValue110
  t70 := Tryd.underlying234
  a70 := Tryd.isAgg234
  z70 := Tryd.sizeOf234
  v70 := Tryd.zeroValue234
  t72 := Tryd.underlying236
  a72 := Tryd.isAgg236
  z72 := Tryd.sizeOf236
  v72 := Tryd.zeroValue236
  t75 := Tryd.underlying77
  a75 := Tryd.isAgg77
  z75 := Tryd.sizeOf77
  v75 := Tryd.zeroValue77
  t76 := Tryd.underlying237
  a76 := Tryd.isAgg237
  z76 := Tryd.sizeOf237
  v76 := Tryd.zeroValue237
  t105 := Tryd.underlying264
  a105 := Tryd.isAgg264
  z105 := Tryd.sizeOf264
  v105 := Tryd.zeroValue264
  t107 := Tryd.underlying241
  a107 := Tryd.isAgg241
  z107 := Tryd.sizeOf241
  v107 := Tryd.zeroValue241
  t119 := Tryd.underlying233
  a119 := Tryd.isAgg233
  z119 := Tryd.sizeOf233
  t127 := Tryd.underlying266
  a127 := Tryd.isAgg266
  z127 := Tryd.sizeOf266
  v127 := Tryd.zeroValue266
  t138 := Tryd.underlying307
  a138 := Tryd.isAgg307
  z138 := Tryd.sizeOf307
  v138 := Tryd.zeroValue307
  t139 := Tryd.underlying308
  a139 := Tryd.isAgg308
  z139 := Tryd.sizeOf308
  v139 := Tryd.zeroValue308
  t160 := Tryd.underlying309
  a160 := Tryd.isAgg309
  z160 := Tryd.sizeOf309
  v160 := Tryd.zeroValue309
  t162 := Tryd.underlying295
  a162 := Tryd.isAgg295
  z162 := Tryd.sizeOf295
  v162 := Tryd.zeroValue295
  t164 := Tryd.underlying249
  a164 := Tryd.isAgg249
  z164 := Tryd.sizeOf249
  v164 := Tryd.zeroValue249
  t203 := Tryd.underlying293
  a203 := Tryd.isAgg293
  z203 := Tryd.sizeOf293
  v203 := Tryd.zeroValue293
  t206 := Tryd.underlying318
  a206 := Tryd.isAgg318
  z206 := Tryd.sizeOf318
  v206 := Tryd.zeroValue318
  t208 := Tryd.underlying320
  a208 := Tryd.isAgg320
  z208 := Tryd.sizeOf320
  v208 := Tryd.zeroValue320
  g3 := by kernel_rfl
  g4 := by kernel_rfl
  g13 := by kernel_rfl
theorem extra : Builder.Extra Tryd.prog renL where
  sizeBuilder := by kernel_rfl
  liesBuilder := by kernel_rfl
  t5 := laysL.t5
  a5 := laysL.a5
  z5 := laysL.z5
  v5 := laysL.v5
  infoByte := by kernel_rfl
  cellsByte := by kernel_rfl
  sizeByte := by kernel_rfl
  neB5 := by decide
/-- The table of blanks stands as its initialiser lays it. -/
def W (w : World) : Prop := Lib.TabIs Tryd.prog w "strings.asciiSpace" .u8 Lib.asciiSpaceTab
def gTab : Nat := renT.g 0
theorem W_below (w w' : World) (h : W w) (hb : Below w.heap.size w w') : W w' := by
  have hgn : Program.globalNamed Tryd.prog "strings.asciiSpace" = some gTab := by kernel_rfl
  unfold W Lib.TabIs World.var? at h ⊢
  rw [hgn] at h ⊢
  simp only [Option.bind_some] at h ⊢
  have hlt : gTab < w.heap.size := by
    rcases Nat.lt_or_ge gTab w.heap.size with h' | h'
    · exact h'
    · rw [Array.getElem?_eq_none h'] at h; cases h
  rw [hb.block gTab hlt]
  exact h
theorem bytesBelow (w : World) (e : TypeId) (s : ByteArray) : Below w.heap.size w (Lib.bytesWorld w e s) := ⟨rfl, rfl, rfl, by rw [Lib.bytesWorld_size]; omega, fun j hj => Lib.bytesWorld_at_old w e s j hj⟩
theorem trim : TrimC Tryd.prog W 122 := ⟨by kernel_rfl, fun s w hs ha hw => (Any.strings_TrimSpace laysT ⟨by kernel_rfl⟩ s w (by omega) (fun j b hj => ha b (List.mem_of_getElem? hj)) hw).mono fun e w' h => ⟨h.1, h.2 ▸ bytesBelow w _ s⟩⟩
theorem low : LowC Tryd.prog 123 := ⟨by kernel_rfl, fun s w hs ha => Any.strings_ToLower_ascii laysL extra s w (by omega) (fun j b hj => ha b (List.mem_of_getElem? hj))⟩
theorem idx : IdxC Tryd.prog 150 := idx_ok (tS := 9) (tI := 3) (by kernel_rfl) (FnIs.of (by kernel_rfl))
theorem rep : RepC Tryd.prog 121 := rep_ok (tS := 9) (tI := 3) (tB := 22) (tU := 5) (by kernel_rfl) (by kernel_rfl) (by kernel_rfl) (by kernel_rfl) idx (FnIs.of (by kernel_rfl))
theorem norm : NormC Tryd.prog W 76 := norm_ok W_below rep trim low (FnIs.of (by kernel_rfl))
theorem errNew : ErrNewC Tryd.prog 77 := errNew_ok (tE := 196) (tP := 194) (by kernel_rfl) (by kernel_rfl) (by kernel_rfl) (FnIs.of (by kernel_rfl))
theorem blank : BlankC Tryd.prog 75 := blank_ok (u8 := 5) (FnIs.of (by kernel_rfl))
theorem normal : NormalC Tryd.prog 43 := normal_ok (tS := 9) (tB := 22) (tU := 5) (tI := 3) (u8 := 5) (by kernel_rfl) (by kernel_rfl) (by kernel_rfl) (by kernel_rfl) (by kernel_rfl) (by kernel_rfl) blank (FnIs.of (by kernel_rfl))
namespace ACLPermissionType
def ws : List (List Nat × Int) := [([97, 110, 121], 1), ([100, 101, 110, 121], 2), ([97, 108, 108, 111, 119], 3)]
def names : List (Int × List Nat) := [(1, [65, 78, 89]), (2, [68, 69, 78, 89]), (3, [65, 76, 76, 79, 87])]
theorem parse : ParseC Tryd.prog W ws 49 := parse_ok (tS := 9) (msg := [65, 67, 76, 80, 101, 114, 109, 105, 115, 115, 105, 111, 110, 84, 121, 112, 101, 58, 32, 117, 110, 97, 98, 108, 101, 32, 116, 111, 32, 112, 97, 114, 115, 101]) (N := 13) norm errNew (by decide) (FnIs2.of (by kernel_rfl))
theorem read : ReadC Tryd.prog W ws 24 := implP_ok (tErr := 77) (tK := 93) (tI := 3) parse (by kernel_rfl) (by kernel_rfl) (by kernel_rfl) (by decide) (FnIs2.of (by kernel_rfl))
theorem unm : UnmC Tryd.prog W ws 50 := unm_ok (tB := 22) (tU := 5) (tS := 9) (tK := 93) parse (by kernel_rfl) (by kernel_rfl) (by kernel_rfl) (by kernel_rfl) (FnIs.of (by kernel_rfl))
theorem readT : ReadTC Tryd.prog W ws 25 := ofText_ok W_below (tB := 22) (tU := 5) (tErr := 77) (tK := 93) (tI := 3) unm (by kernel_rfl) (by kernel_rfl) (by kernel_rfl) (by kernel_rfl) (by kernel_rfl) (by kernel_rfl) (by kernel_rfl) (by decide) (FnIs2.of (by kernel_rfl))
theorem listed : NamesC Tryd.prog names 21 := names_ok (tNs := 44) (tN := 91) (by kernel_rfl) (by kernel_rfl) (by kernel_rfl) (by kernel_rfl) (by decide) (by decide) (FnIs.of (by kernel_rfl))
theorem agree : ws.map (fun p => (bytesN p.1, p.2)) = names.map (fun p => (normL (bytesN p.2), p.1)) := by decide +kernel
theorem same (x : List UInt8) (_ : asciiL x) : lookW (normS x) ws = lookN (normL x) names := by rw [normS_normL]; exact look_same agree _
theorem string : StringC Tryd.prog names 48 := string_ok (tK := 93) (dflt := [85, 78, 75, 78, 79, 87, 78]) (N := 10) (by decide) (FnIs.of (by kernel_rfl))
theorem implS : StringC Tryd.prog names 23 := implS_ok string (FnIs.of (by kernel_rfl))
theorem marsh : TextC Tryd.prog names .nilIface 47 := marsh_ok (tS := 9) (tB := 22) (tU := 5) (by kernel_rfl) (by kernel_rfl) (by kernel_rfl) string (FnIs2.of (by kernel_rfl))
theorem text : TextC Tryd.prog names (.bool true) 22 := implT_ok (tB := 22) (tU := 5) (tErr := 77) (by kernel_rfl) (by kernel_rfl) (by kernel_rfl) (by kernel_rfl) (by decide) marsh (FnIs2.of (by kernel_rfl))
theorem word : WordC Tryd.prog names 20 := word_ok (tNs := 44) (tN := 91) (tS := 9) (tI := 3) (by kernel_rfl) (by kernel_rfl) (by kernel_rfl) (by kernel_rfl) (by kernel_rfl) (by kernel_rfl) (by kernel_rfl) (by kernel_rfl) (by decide) (FnIs2.of (by kernel_rfl))
theorem each : names.all (fun p => (bytesN p.2).all (fun b => decide (b.toNat < 128)) && decide (p.2.length ≤ 1000000) && decide (lookW (normL (bytesN p.2)) ws = some p.1)) = true := by decide +kernel
theorem words (n : Int) (x : List Nat) (h : lookI n names = some x) : asciiL (bytesN x) ∧ x.length ≤ 1000000 ∧ lookW (normS (bytesN x)) ws = some n := by
  obtain ⟨p, hp, h1, h2⟩ : ∃ p ∈ names, p.1 = n ∧ p.2 = x := lookI_mem h
  have := List.all_eq_true.1 each p hp
  simp only [Bool.and_eq_true, decide_eq_true_eq] at this
  obtain ⟨⟨a1, a2⟩, a3⟩ := this
  subst h1 h2
  rw [normS_normL]
  exact ⟨fun b hb => by simpa using List.all_eq_true.1 a1 b hb, a2, a3⟩
theorem law (w : World) (hw : W w) (n : Int) (h0 : -128 ≤ n) (h1 : n ≤ 127) : Calls Tryd.prog 6 #[.int .i8 n] w (fun e w' => e = .returned (.bool true) ∧ Below w.heap.size w w') :=
  law_text W_below (tS := 9) (tB := 22) (tU := 5) (tI := 3) (t8 := 46) (by kernel_rfl) (by kernel_rfl) (by kernel_rfl) (by kernel_rfl) (by kernel_rfl) listed word text implS read readT words (FnIs.of (by kernel_rfl)) w hw n h0 h1
end ACLPermissionType
namespace ConfigType
def ws : List (List Nat × Int) := [([98, 111, 111, 108, 101, 97, 110], 1), ([115, 116, 114, 105, 110, 103], 2), ([105, 110, 116], 3), ([115, 104, 111, 114, 116], 4), ([108, 111, 110, 103], 5), ([100, 111, 117, 98, 108, 101], 6), ([108, 105, 115, 116], 7), ([99, 108, 97, 115, 115], 8), ([112, 97, 115, 115, 119, 111, 114, 100], 9)]
def names : List (Int × List Nat) := [(1, [66, 79, 79, 76, 69, 65, 78]), (2, [83, 84, 82, 73, 78, 71]), (3, [73, 78, 84]), (4, [83, 72, 79, 82, 84]), (5, [76, 79, 78, 71]), (6, [68, 79, 85, 66, 76, 69]), (7, [76, 73, 83, 84]), (8, [67, 76, 65, 83, 83]), (9, [80, 65, 83, 83, 87, 79, 82, 68])]
theorem parse : ParseC Tryd.prog W ws 44 := parse_ok (tS := 9) (msg := [67, 111, 110, 102, 105, 103, 84, 121, 112, 101, 58, 32, 117, 110, 97, 98, 108, 101, 32, 116, 111, 32, 112, 97, 114, 115, 101]) (N := 25) norm errNew (by decide) (FnIs2.of (by kernel_rfl))
theorem read : ReadC Tryd.prog W ws 16 := implP_ok (tErr := 77) (tK := 86) (tI := 3) parse (by kernel_rfl) (by kernel_rfl) (by kernel_rfl) (by decide) (FnIs2.of (by kernel_rfl))
theorem unm : UnmC Tryd.prog W ws 45 := unm_ok (tB := 22) (tU := 5) (tS := 9) (tK := 86) parse (by kernel_rfl) (by kernel_rfl) (by kernel_rfl) (by kernel_rfl) (FnIs.of (by kernel_rfl))
theorem readT : ReadTC Tryd.prog W ws 17 := ofText_ok W_below (tB := 22) (tU := 5) (tErr := 77) (tK := 86) (tI := 3) unm (by kernel_rfl) (by kernel_rfl) (by kernel_rfl) (by kernel_rfl) (by kernel_rfl) (by kernel_rfl) (by kernel_rfl) (by decide) (FnIs2.of (by kernel_rfl))
theorem listed : NamesC Tryd.prog names 19 := names_ok (tNs := 44) (tN := 91) (by kernel_rfl) (by kernel_rfl) (by kernel_rfl) (by kernel_rfl) (by decide) (by decide) (FnIs.of (by kernel_rfl))
theorem agree : ws.map (fun p => (bytesN p.1, p.2)) = names.map (fun p => (normL (bytesN p.2), p.1)) := by decide +kernel
theorem same (x : List UInt8) (_ : asciiL x) : lookW (normS x) ws = lookN (normL x) names := by rw [normS_normL]; exact look_same agree _
theorem parsed : ParsedC Tryd.prog names 46 := parsed_ok (tNs := 44) (tN := 91) (tS := 9) (tI := 3) (by kernel_rfl) (by kernel_rfl) (by kernel_rfl) (by kernel_rfl) (by kernel_rfl) (by kernel_rfl) (by kernel_rfl) (by kernel_rfl) (by decide) (by decide) normal (FnIs2.of (by kernel_rfl))
theorem plain : PlainC Tryd.prog 15 := plain_ok (tS := 9) (tI := 3) (u8 := 5) (unk := [117, 110, 107, 110, 111, 119, 110]) (by kernel_rfl) normal (FnIs.of (by kernel_rfl))
theorem judge : JudgeC Tryd.prog names 18 := judge_ok (tB := 4) (tI := 3) (by kernel_rfl) parsed (FnIs.of (by kernel_rfl))
theorem law (w : World) (hw : W w) (s : ByteArray) : Calls Tryd.prog 5 #[.string s] w (fun e w' => e = .returned (.bool true) ∧ Below w.heap.size w w') :=
  law_parse W_below (tS := 9) (tB := 22) (tU := 5) (tI := 3) (most := 2147483647) (by kernel_rfl) (by kernel_rfl) (by kernel_rfl) plain read readT listed judge same (FnIs.of (by kernel_rfl)) w hw s
end ConfigType
/-- Two of the list's variables change places. -/
theorem vars_swap {w : World} {x y : String × DataW Unit} {ps : List MemPlace} (h : DataW.LaidVars Tryd.prog w [x, y] ps) : ∃ qs, DataW.LaidVars Tryd.prog w [y, x] qs ∧ ps.Perm qs := by
  obtain ⟨n, d⟩ := x
  obtain ⟨m, e⟩ := y
  obtain ⟨g, t, cs, fuel, p, q, h1, h2, h3, h4, ⟨g', t', cs', fuel', p', q', k1, k2, k3, k4, k5, rfl⟩, rfl⟩ := h
  have k5' : q' = [] := k5
  subst k5'
  refine ⟨_, ⟨g', t', cs', fuel', p', _, k1, k2, k3, k4, ⟨g, t, cs, fuel, p, [], h1, h2, h3, h4, rfl, rfl⟩, rfl⟩, ?_⟩
  simp only [List.append_nil]
  exact List.perm_append_comm
theorem vars_app {w : World} : ∀ {l : List (String × DataW Unit)} {a b : List (String × DataW Unit)} {ps : List MemPlace}, (∀ qs, DataW.LaidVars Tryd.prog w a qs → ∃ rs, DataW.LaidVars Tryd.prog w b rs ∧ qs.Perm rs) → DataW.LaidVars Tryd.prog w (l ++ a) ps → ∃ rs, DataW.LaidVars Tryd.prog w (l ++ b) rs ∧ ps.Perm rs
  | [], a, b, ps, hab, h => hab ps h
  | (n, d) :: l, a, b, ps, hab, h => by
    obtain ⟨g, t, cs, fuel, p, q, h1, h2, h3, h4, h5, rfl⟩ := h
    obtain ⟨rs, r1, r2⟩ := vars_app hab h5
    exact ⟨_, ⟨g, t, cs, fuel, p, rs, h1, h2, h3, h4, r1, rfl⟩, r2.append_left _⟩
theorem met_swap {w : World} {l : List (String × DataW Unit)} {x y : String × DataW Unit} (h : laidMet Tryd.prog (l ++ [x, y]) w) : laidMet Tryd.prog (l ++ [y, x]) w := by
  obtain ⟨ps, h1, h2, h3⟩ := h
  obtain ⟨rs, r1, r2⟩ := vars_app (fun qs hq => vars_swap hq) h1
  exact ⟨rs, r1, r2.nodup_iff.1 h2, fun b off hb => h3 b off (r2.mem_iff.2 hb)⟩
theorem met_tail {w : World} {x : String × DataW Unit} {l : List (String × DataW Unit)} (h : laidMet Tryd.prog (x :: l) w) : laidMet Tryd.prog l w := by
  obtain ⟨n, d⟩ := x
  obtain ⟨ps, ⟨g, t, cs, fuel, p, q, h1, h2, h3, h4, h5, rfl⟩, h6, h7⟩ := h
  exact ⟨q, h5, (List.nodup_append.1 h6).2.1, fun b off hb => h7 b off (List.mem_append_right _ hb)⟩
/-- A world that meets the row's list: its five variables as their initialisers lay them. -/
noncomputable def laidWorld (os : Os) : World :=
  let N := (World.settled Tryd.prog os).heap.size
  let w0 := World.holding Tryd.prog os ⟨#[.cells (Lib.whiteT.map fun (z : Nat) => Value.int .u16 (z : Int)).toArray (renT.t 198), .cells #[.slice (some ⟨N, 0, none⟩) 7 7, .slice none 0 0, .int .i64 2] (renT.t 196),
    .cells Lib.caseCells5 (renL.t 208)], #[], []⟩
  let put (h : Array Obj) (g : Nat) (cs : Array Value) : Array Obj := h.modify g fun
    | .cells _ t frozen => .cells cs t frozen
    | o => o
  let h1 := put w0.heap (renT.g 0) (Lib.asciiSpaceTab.map fun z => Value.int .u8 z).toArray
  let h2 := put h1 (renT.g 3) (Lib.firstTab.map fun z => Value.int .u8 z).toArray
  let h3 := put h2 (renT.g 4) ((List.range 16).flatMap fun i => [Value.int .u8 (Lib.accLo i), Value.int .u8 (Lib.accHi i)]).toArray
  let h4 := put h3 (renT.g 6) #[.pointer (some ⟨N + 1, 0, none⟩)]
  let h5 := put h4 (renL.g 13) #[.slice (some ⟨N + 2, 0, none⟩) 336 336]
  { w0 with heap := h5 }
theorem case_eq : (Rows.laid_unicode_CaseRanges : DataW Unit) = Lib.caseData := by kernel_rfl
theorem laid_met (os : Os) (args : Array Value) : laidMet Tryd.prog [("unicode/utf8.acceptRanges", Rows.laid_unicode_utf8_acceptRanges), ("unicode.White_Space", Rows.laid_unicode_White_Space), ("strings.asciiSpace", Rows.laid_strings_asciiSpace), ("unicode.CaseRanges", Rows.laid_unicode_CaseRanges), ("unicode/utf8.first", Rows.laid_unicode_utf8_first)] ((laidWorld os).forCall (fun _ _ => 0) ⟨#[], args, []⟩).memory := by
  have h := laidMet_with_case (P := Tryd.prog) (ρ := renL) { laysL with } laysL.t206 ⟨by kernel_rfl, by kernel_rfl, by kernel_rfl, by kernel_rfl, by kernel_rfl, by kernel_rfl⟩ (w := ((laidWorld os).forCall (fun _ _ => 0) ⟨#[], args, []⟩).memory)
    (l := [("unicode/utf8.acceptRanges", Rows.laid_unicode_utf8_acceptRanges), ("unicode.White_Space", Rows.laid_unicode_White_Space), ("strings.asciiSpace", Rows.laid_strings_asciiSpace), ("unicode/utf8.first", Rows.laid_unicode_utf8_first)])
    10 (by kernel_rfl) (by kernel_rfl) (by kernel_rfl) ((World.settled Tryd.prog default).heap.size + 2) (renL.t 208) (of_decide_eq_true (by kernel_rfl)) (by kernel_rfl) (by kernel_rfl) (by kernel_rfl)
  rw [← case_eq] at h
  exact met_swap (l := [("unicode/utf8.acceptRanges", Rows.laid_unicode_utf8_acceptRanges), ("unicode.White_Space", Rows.laid_unicode_White_Space), ("strings.asciiSpace", Rows.laid_strings_asciiSpace)]) h
/-- What the row's list gives: the table of blanks. -/
theorem tab {w : World} (h : laidMetH Tryd.prog [("unicode/utf8.acceptRanges", Rows.laid_unicode_utf8_acceptRanges), ("unicode.White_Space", Rows.laid_unicode_White_Space), ("strings.asciiSpace", Rows.laid_strings_asciiSpace), ("unicode.CaseRanges", Rows.laid_unicode_CaseRanges), ("unicode/utf8.first", Rows.laid_unicode_utf8_first)] w) : W w := by
  rw [MakeChecks.laidMetH_plain _ _ _ (by kernel_rfl)] at h
  have h2 := met_tail (met_tail h)
  have e : (Rows.laid_strings_asciiSpace : DataW Unit) = Lib.tabData .u8 Lib.asciiSpaceTab := by kernel_rfl
  rw [e] at h2
  exact Lib.tabIs_of_head (P := Tryd.prog) (g := gTab) (t := renT.t 119) (e := 5) (n := 256) (by kernel_rfl) (by kernel_rfl) Tryd.underlying233 Tryd.underlying5 (by kernel_rfl) (by kernel_rfl) h2
end Go.Proofs.YtffglmphlpofbaaDoor.str
