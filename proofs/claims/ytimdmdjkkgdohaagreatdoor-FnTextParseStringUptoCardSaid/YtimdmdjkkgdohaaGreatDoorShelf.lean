/- Contracts of functions of Go's library at this seat's program, laid out of the library of contracts. Their conditions stand in each. -/
import Derived.Shelf.Strings.Builder1
import Derived.Shelf.Strings.TrimSpace
import Derived.Shelf.Small.Utf8
import Derived.Shelf.Small.Bits
import Derived.Shelf.Strings.BuilderF
import Derived.Shelf.Strings.BuilderK
import Derived.Shelf.Strings.BuilderRune
import Derived.Shelf.Utf8.AppendRune
import Derived.Shelf.Strconv.Itoa0
import Derived.Shelf.Strconv.Itoa1
import Derived.Shelf.LaysM
import Derived.Shelf.Strconv.Itoa2
import Derived.Shelf.Strconv.Itoa3
import Derived.Shelf.Sort.Plain
import Derived.Shelf.Unicode.Latin
import Derived.Shelf.Unicode.Decode
import Derived.Shelf.Unicode.DecodeSlow
import Derived.Shelf.Unicode.DecodeAny
import Derived.Shelf.Unicode.Is16White
import Derived.Shelf.Unicode.IsSpaceAny
import Derived.Shelf.Unicode.DecodeLast
import Derived.Shelf.Unicode.Is16Any
import Derived.Shelf.Unicode.Is32Any
import Derived.Shelf.Unicode.ExclAny
import Derived.Ground.Names2Prog
import Derived.Shelf.Slices.SearchI
import Derived.Shelf.Bytes.Small
import Derived.Test.YtimdmdjkkgdohaaGreatDoorProg
namespace Go.Proofs
open Go.Shelf
open Go.Shelf
def Tryz.lays169_ren : Go.Shelf.Ren := ⟨fun | 169 => 32 | n => n, fun | 70 => 60 | 9 => 9 | 0 => 0 | 72 => 62 | 37 => 44 | 127 => 75 | 3 => 3 | 5 => 5 | n => n, fun | n => n⟩
theorem Tryz.lays169 : Go.Proofs.Lays.n169 Tryz.prog Tryz.lays169_ren := {
  mixed := by kernel_rfl
  f169 := Tryz.func32.trans (congrArg some (by kernel_rfl))
  t0 := Tryz.underlying0
  a0 := Tryz.isAgg0
  z0 := Tryz.sizeOf0
  v0 := Tryz.zeroValue0
  t3 := Tryz.underlying3
  a3 := Tryz.isAgg3
  z3 := Tryz.sizeOf3
  v3 := Tryz.zeroValue3
  t9 := Tryz.underlying9
  a9 := Tryz.isAgg9
  z9 := Tryz.sizeOf9
  v9 := Tryz.zeroValue9
  t37 := Tryz.underlying44
  a37 := Tryz.isAgg44
  z37 := Tryz.sizeOf44
  v37 := Tryz.zeroValue44
  t70 := Tryz.underlying60
  a70 := Tryz.isAgg60
  z70 := Tryz.sizeOf60
  v70 := Tryz.zeroValue60
  t72 := Tryz.underlying62
  a72 := Tryz.isAgg62
  z72 := Tryz.sizeOf62
  v72 := Tryz.zeroValue62
  t127 := Tryz.underlying75
  a127 := Tryz.isAgg75
  z127 := Tryz.sizeOf75
  v127 := Tryz.zeroValue75 }
theorem Tryz.Builder_Extra_169 : Builder.Extra Tryz.prog Tryz.lays169_ren := {
  sizeBuilder := by kernel_rfl
  liesBuilder := by kernel_rfl
  t5 := Tryz.underlying5
  a5 := Tryz.isAgg5
  z5 := Tryz.sizeOf5
  v5 := Tryz.zeroValue5
  infoByte := by kernel_rfl
  cellsByte := by kernel_rfl
  sizeByte := by kernel_rfl
  neB5 := by decide }
def Tryz.lays163_ren : Go.Shelf.Ren := ⟨fun | 163 => 49 | 237 => 64 | 199 => 65 | 238 => 66 | 272 => 86 | 261 => 87 | 273 => 88 | 197 => 89 | 315 => 99 | 311 => 100 | 312 => 101 | 271 => 102 | 260 => 103 | 120 => 107 | n => n, fun | 9 => 9 | 37 => 44 | 3 => 3 | 0 => 0 | 5 => 5 | 4 => 4 | 40 => 54 | 119 => 97 | 21 => 21 | 51 => 68 | 141 => 119 | 105 => 121 | 196 => 135 | 193 => 132 | 198 => 138 | 49 => 136 | 194 => 133 | 201 => 141 | 226 => 149 | 46 => 76 | 227 => 150 | 139 => 154 | 138 => 153 | n => n, fun | 0 => 0 | 6 => 2 | 3 => 5 | 4 => 6 | n => n⟩
theorem Tryz.lays163 : Go.Proofs.Lays.n163 Tryz.prog Tryz.lays163_ren := {
  mixed := by kernel_rfl
  f120 := Tryz.func107.trans (congrArg some (by kernel_rfl))
  f163 := Tryz.func49.trans (congrArg some (by kernel_rfl))
  f197 := Tryz.func89.trans (congrArg some (by kernel_rfl))
  f199 := Tryz.func65.trans (congrArg some (by kernel_rfl))
  f237 := Tryz.func64.trans (congrArg some (by kernel_rfl))
  f238 := Tryz.func66.trans (congrArg some (by kernel_rfl))
  f260 := Tryz.func103.trans (congrArg some (by kernel_rfl))
  f261 := Tryz.func87.trans (congrArg some (by kernel_rfl))
  f271 := Tryz.func102.trans (congrArg some (by kernel_rfl))
  f272 := Tryz.func86.trans (congrArg some (by kernel_rfl))
  f273 := Tryz.func88.trans (congrArg some (by kernel_rfl))
  f311 := Tryz.func100.trans (congrArg some (by kernel_rfl))
  f312 := Tryz.func101.trans (congrArg some (by kernel_rfl))
  f315 := Tryz.func99.trans (congrArg some (by kernel_rfl))
  t0 := Tryz.underlying0
  a0 := Tryz.isAgg0
  z0 := Tryz.sizeOf0
  v0 := Tryz.zeroValue0
  t3 := Tryz.underlying3
  a3 := Tryz.isAgg3
  z3 := Tryz.sizeOf3
  v3 := Tryz.zeroValue3
  t4 := Tryz.underlying4
  a4 := Tryz.isAgg4
  z4 := Tryz.sizeOf4
  v4 := Tryz.zeroValue4
  t5 := Tryz.underlying5
  a5 := Tryz.isAgg5
  z5 := Tryz.sizeOf5
  v5 := Tryz.zeroValue5
  t9 := Tryz.underlying9
  a9 := Tryz.isAgg9
  z9 := Tryz.sizeOf9
  v9 := Tryz.zeroValue9
  t21 := Tryz.underlying21
  a21 := Tryz.isAgg21
  z21 := Tryz.sizeOf21
  v21 := Tryz.zeroValue21
  t37 := Tryz.underlying44
  a37 := Tryz.isAgg44
  z37 := Tryz.sizeOf44
  v37 := Tryz.zeroValue44
  t40 := Tryz.underlying54
  a40 := Tryz.isAgg54
  z40 := Tryz.sizeOf54
  v40 := Tryz.zeroValue54
  t46 := Tryz.underlying76
  a46 := Tryz.isAgg76
  z46 := Tryz.sizeOf76
  v46 := Tryz.zeroValue76
  t49 := Tryz.underlying136
  a49 := Tryz.isAgg136
  z49 := Tryz.sizeOf136
  v49 := Tryz.zeroValue136
  t51 := Tryz.underlying68
  a51 := Tryz.isAgg68
  z51 := Tryz.sizeOf68
  v51 := Tryz.zeroValue68
  t105 := Tryz.underlying121
  a105 := Tryz.isAgg121
  z105 := Tryz.sizeOf121
  v105 := Tryz.zeroValue121
  t119 := Tryz.underlying97
  a119 := Tryz.isAgg97
  z119 := Tryz.sizeOf97
  t138 := Tryz.underlying153
  a138 := Tryz.isAgg153
  z138 := Tryz.sizeOf153
  v138 := Tryz.zeroValue153
  t139 := Tryz.underlying154
  a139 := Tryz.isAgg154
  z139 := Tryz.sizeOf154
  v139 := Tryz.zeroValue154
  t141 := Tryz.underlying119
  a141 := Tryz.isAgg119
  z141 := Tryz.sizeOf119
  v141 := Tryz.zeroValue119
  t193 := Tryz.underlying132
  a193 := Tryz.isAgg132
  z193 := Tryz.sizeOf132
  v193 := Tryz.zeroValue132
  t194 := Tryz.underlying133
  a194 := Tryz.isAgg133
  z194 := Tryz.sizeOf133
  v194 := Tryz.zeroValue133
  t196 := Tryz.underlying135
  a196 := Tryz.isAgg135
  z196 := Tryz.sizeOf135
  v196 := Tryz.zeroValue135
  t198 := Tryz.underlying138
  a198 := Tryz.isAgg138
  z198 := Tryz.sizeOf138
  v198 := Tryz.zeroValue138
  t201 := Tryz.underlying141
  a201 := Tryz.isAgg141
  z201 := Tryz.sizeOf141
  v201 := Tryz.zeroValue141
  t226 := Tryz.underlying149
  a226 := Tryz.isAgg149
  z226 := Tryz.sizeOf149
  v226 := Tryz.zeroValue149
  t227 := Tryz.underlying150
  a227 := Tryz.isAgg150
  z227 := Tryz.sizeOf150
  v227 := Tryz.zeroValue150
  g0 := by kernel_rfl
  g3 := by kernel_rfl
  g4 := by kernel_rfl
  g6 := by kernel_rfl }
theorem Tryz.Space_Extra_163 : Space.Extra Tryz.prog Tryz.lays163_ren := {
  gNamed := by kernel_rfl }
open Go.RowKit in
theorem Tryz.strings_TrimSpace (s : ByteArray) (w : World) (hs : s.size ≤ 9223372036854775807) (hascii : ∀ (j : Nat) b, s.data.toList[j]? = some b → b.toNat < 128) (htab : Lib.TabIs Tryz.prog w "strings.asciiSpace" .u8 Lib.asciiSpaceTab) :
    Calls Tryz.prog 49 #[.string s] w fun e w' => e = .returned (.string ⟨(Lib.trimSpace s.data.toList).toArray⟩) ∧ w' = Lib.bytesWorld w 5 s := Any.strings_TrimSpace Tryz.lays163 Tryz.Space_Extra_163 s w hs hascii htab
open Go.RowKit in
/-- (*strings.Builder).String: "String returns the accumulated string.": WHATEVER THE BUILDER HOLDS; THE FORM '_f': OF A BUILDER THAT MAY HAVE BEEN READ BEFORE; AND IT IS A BUILDER STILL, holding the same bytes: it can be written on. (LAID: no walk: one application.) -/
theorem Tryz.Builder_String_any_f (B b : Nat) (l : List UInt8) (w : World) (h : Lib.IsBuilderF 62 5 B b (Lib.byteCells l) w) (hBw : B ≤ w.heap.size) :
    Calls Tryz.prog 32 #[.pointer (some ⟨b, 0, none⟩)] w fun e w' => e = .returned (.string ⟨l.toArray⟩) ∧ (Lib.IsBuilderF 62 5 B b (Lib.byteCells l) w' ∧ Below B w w') := Any.Builder_String_any_f Tryz.lays169 Tryz.Builder_Extra_169 B b l w h hBw
def Tryz.lays242_ren : Go.Shelf.Ren := ⟨fun | 242 => 24 | 278 => 36 | n => n, fun | 37 => 44 | 21 => 21 | 51 => 68 | 4 => 4 | 5 => 5 | 46 => 76 | n => n, fun | n => n⟩
theorem Tryz.lays242 : Go.Proofs.Lays.n242 Tryz.prog Tryz.lays242_ren := {
  mixed := by kernel_rfl
  f242 := Tryz.func24.trans (congrArg some (by kernel_rfl))
  f278 := Tryz.func36.trans (congrArg some (by kernel_rfl))
  t4 := Tryz.underlying4
  a4 := Tryz.isAgg4
  z4 := Tryz.sizeOf4
  v4 := Tryz.zeroValue4
  t5 := Tryz.underlying5
  a5 := Tryz.isAgg5
  z5 := Tryz.sizeOf5
  v5 := Tryz.zeroValue5
  t21 := Tryz.underlying21
  a21 := Tryz.isAgg21
  z21 := Tryz.sizeOf21
  v21 := Tryz.zeroValue21
  t37 := Tryz.underlying44
  a37 := Tryz.isAgg44
  z37 := Tryz.sizeOf44
  v37 := Tryz.zeroValue44
  t46 := Tryz.underlying76
  a46 := Tryz.isAgg76
  z46 := Tryz.sizeOf76
  v46 := Tryz.zeroValue76
  t51 := Tryz.underlying68
  a51 := Tryz.isAgg68
  z51 := Tryz.sizeOf68
  v51 := Tryz.zeroValue68 }
open Go.RowKit in
/-- unicode/utf8.AppendRune: "AppendRune appends the UTF-8 encoding of r to the end of p and returns the extended buffer. If the rune is out of range, it appends the encoding of RuneError.": ONTO A ROW OF BYTES THAT THE CALL OWNS (its head frozen or not): EVERY int32: 'Lib.runeCells r' goes in behind what the row holds; the world: one new block (the bytes as the call's variadic argument), then what 'append' does to the row. (LAID: no walk: one application.) -/
theorem Tryz.utf8_AppendRune_row (B : Nat) (v : Value) (n : Nat) (xs : List Value) (r : Int) (hr0 : -2147483648 ≤ r) (hr1 : r ≤ 2147483647) (w : World) (hown : w.ownsRowF B 5 1 v n xs) (hlen : n + 4 ≤ 140737488355328) (hBw : B ≤ w.heap.size) :
    Calls Tryz.prog 24 #[v, .int .i32 r] w fun e w' => ∃ v', e = .returned v' ∧ w'.ownsRowF B 5 1 v' (n + (Lib.runeCells r).length) (xs ++ Lib.runeCells r) ∧ ∃ o, (w.alloc o).grownBy w' v.ownBlock := Any.utf8_AppendRune_row Tryz.lays242 (by kernel_rfl) B v n xs r hr0 hr1 w hown hlen hBw
def Tryz.laysM171_ren : Go.Shelf.Ren := ⟨fun | 171 => 22 | 243 => 33 | 246 => 46 | 283 => 59 | 284 => 60 | 285 => 61 | 286 => 62 | 129 => 81 | 317 => 82 | 318 => 83 | 319 => 84 | 320 => 85 | 337 => 97 | 338 => 98 | n => n, fun | 3 => 3 | 9 => 9 | 2 => 2 | 4 => 4 | 171 => 90 | 0 => 0 | 53 => 89 | 37 => 44 | 5 => 5 | 173 => 93 | 212 => 116 | 51 => 68 | 20 => 20 | 213 => 117 | 46 => 76 | 232 => 148 | 233 => 113 | n => n, fun | 17 => 1 | 18 => 3 | 19 => 4 | n => n⟩
theorem Tryz.laysM171 : Go.Proofs.LaysM.n171 Tryz.prog Tryz.laysM171_ren := {
  mixed := by kernel_rfl
  f129 := Tryz.func81.trans (congrArg some (by kernel_rfl))
  f171 := Tryz.func22.trans (congrArg some (by kernel_rfl))
  f243 := Tryz.func33.trans (congrArg some (by kernel_rfl))
  f246 := Tryz.func46.trans (congrArg some (by kernel_rfl))
  f283 := Tryz.func59.trans (congrArg some (by kernel_rfl))
  f284 := Tryz.func60.trans (congrArg some (by kernel_rfl))
  f285 := Tryz.func61.trans (congrArg some (by kernel_rfl))
  f286 := Tryz.func62.trans (congrArg some (by kernel_rfl))
  f317 := Tryz.func82.trans (congrArg some (by kernel_rfl))
  f318 := Tryz.func83.trans (congrArg some (by kernel_rfl))
  f319 := Tryz.func84.trans (congrArg some (by kernel_rfl))
  f320 := Tryz.func85.trans (congrArg some (by kernel_rfl))
  f337 := Tryz.func97.trans (congrArg some (by kernel_rfl))
  f338 := Tryz.func98.trans (congrArg some (by kernel_rfl))
  t0 := Tryz.underlying0
  a0 := Tryz.isAgg0
  z0 := Tryz.sizeOf0
  v0 := Tryz.zeroValue0
  t2 := Tryz.underlying2
  a2 := Tryz.isAgg2
  z2 := Tryz.sizeOf2
  v2 := Tryz.zeroValue2
  t3 := Tryz.underlying3
  a3 := Tryz.isAgg3
  z3 := Tryz.sizeOf3
  v3 := Tryz.zeroValue3
  t4 := Tryz.underlying4
  a4 := Tryz.isAgg4
  z4 := Tryz.sizeOf4
  v4 := Tryz.zeroValue4
  t5 := Tryz.underlying5
  a5 := Tryz.isAgg5
  z5 := Tryz.sizeOf5
  v5 := Tryz.zeroValue5
  t9 := Tryz.underlying9
  a9 := Tryz.isAgg9
  z9 := Tryz.sizeOf9
  v9 := Tryz.zeroValue9
  t20 := Tryz.underlying20
  a20 := Tryz.isAgg20
  z20 := Tryz.sizeOf20
  v20 := Tryz.zeroValue20
  t37 := Tryz.underlying44
  a37 := Tryz.isAgg44
  z37 := Tryz.sizeOf44
  v37 := Tryz.zeroValue44
  t46 := Tryz.underlying76
  a46 := Tryz.isAgg76
  z46 := Tryz.sizeOf76
  v46 := Tryz.zeroValue76
  t51 := Tryz.underlying68
  a51 := Tryz.isAgg68
  z51 := Tryz.sizeOf68
  v51 := Tryz.zeroValue68
  t53 := Tryz.underlying89
  a53 := Tryz.isAgg89
  z53 := Tryz.sizeOf89
  v53 := Tryz.zeroValue89
  t171 := Tryz.underlying90
  a171 := Tryz.isAgg90
  z171 := Tryz.sizeOf90
  v171 := Tryz.zeroValue90
  t173 := Tryz.underlying93
  a173 := Tryz.isAgg93
  z173 := Tryz.sizeOf93
  v173 := Tryz.zeroValue93
  t212 := Tryz.underlying116
  a212 := Tryz.isAgg116
  z212 := Tryz.sizeOf116
  v212 := Tryz.zeroValue116
  t213 := Tryz.underlying117
  a213 := Tryz.isAgg117
  z213 := Tryz.sizeOf117
  t232 := Tryz.underlying148
  a232 := Tryz.isAgg148
  z232 := Tryz.sizeOf148
  v232 := Tryz.zeroValue148
  t233 := Tryz.underlying113
  a233 := Tryz.isAgg113
  z233 := Tryz.sizeOf113
  v233 := Tryz.zeroValue113
  g17 := by kernel_rfl
  g18 := by kernel_rfl
  g19 := by kernel_rfl
  i0 := by kernel_rfl
  i2 := by kernel_rfl
  i3 := by kernel_rfl
  i4 := by kernel_rfl
  i5 := by kernel_rfl
  i9 := by kernel_rfl
  i20 := by kernel_rfl
  i37 := by kernel_rfl
  i46 := by kernel_rfl
  i51 := by kernel_rfl
  i53 := by kernel_rfl
  i171 := by kernel_rfl
  i173 := by kernel_rfl
  i212 := by kernel_rfl
  i232 := by kernel_rfl
  i233 := by kernel_rfl
  m17 := by kernel_rfl
  m18 := by kernel_rfl
  m19 := by kernel_rfl }
open Go.RowKit Go.Sort Go.Lib in
/-- strconv.Itoa: "Itoa is equivalent to FormatInt(int64(i), 10).": i's DECIMAL NUMERAL ('Lib.itoa': a '-' where i is negative, then the digits), FOR EVERY int. The world behind the call: the world before it, new blocks behind the heap (the library's 'var a [24]byte'), draws. (LAID: no walk: one application.) -/
theorem Tryz.strconv_Itoa (n : Int) (h0 : -9223372036854775808 ≤ n) (h1 : n ≤ 9223372036854775807) (w : World) (htab : Lib.TabIs Tryz.prog w "internal/strconv.uint64pow10" .u64 Lib.pow10Tab) :
    Calls Tryz.prog 22 #[.int .i64 n] w fun e w' => e = .returned (.string ⟨(Lib.itoa n).toArray⟩) ∧ ∃ k os, w' = grow (w.drewN k) os := Any.strconv_Itoa Tryz.laysM171 n h0 h1 w htab
def Tryz.lays191_ren : Go.Shelf.Ren := ⟨fun | 191 => 28 | 189 => 43 | 125 => 56 | 257 => 55 | 128 => 80 | 129 => 81 | 294 => 71 | 295 => 72 | 296 => 73 | 297 => 74 | 298 => 75 | 299 => 76 | 216 => 77 | 300 => 78 | 301 => 79 | 328 => 91 | 329 => 92 | 330 => 93 | 331 => 94 | 332 => 95 | 215 => 96 | 343 => 106 | n => n, fun | 28 => 32 | 0 => 0 | 3 => 3 | 46 => 76 | 51 => 68 | 53 => 89 | 4 => 4 | 183 => 105 | 182 => 104 | 131 => 110 | 5 => 5 | 9 => 9 | 218 => 126 | 222 => 130 | 228 => 145 | 229 => 146 | n => n, fun | n => n⟩
theorem Tryz.lays191 : Go.Proofs.Lays.n191 Tryz.prog Tryz.lays191_ren := {
  mixed := by kernel_rfl
  f125 := Tryz.func56.trans (congrArg some (by kernel_rfl))
  f128 := Tryz.func80.trans (congrArg some (by kernel_rfl))
  f129 := Tryz.func81.trans (congrArg some (by kernel_rfl))
  f189 := Tryz.func43.trans (congrArg some (by kernel_rfl))
  f191 := Tryz.func28.trans (congrArg some (by kernel_rfl))
  f215 := Tryz.func96.trans (congrArg some (by kernel_rfl))
  f216 := Tryz.func77.trans (congrArg some (by kernel_rfl))
  f257 := Tryz.func55.trans (congrArg some (by kernel_rfl))
  f294 := Tryz.func71.trans (congrArg some (by kernel_rfl))
  f295 := Tryz.func72.trans (congrArg some (by kernel_rfl))
  f296 := Tryz.func73.trans (congrArg some (by kernel_rfl))
  f297 := Tryz.func74.trans (congrArg some (by kernel_rfl))
  f298 := Tryz.func75.trans (congrArg some (by kernel_rfl))
  f299 := Tryz.func76.trans (congrArg some (by kernel_rfl))
  f300 := Tryz.func78.trans (congrArg some (by kernel_rfl))
  f301 := Tryz.func79.trans (congrArg some (by kernel_rfl))
  f328 := Tryz.func91.trans (congrArg some (by kernel_rfl))
  f329 := Tryz.func92.trans (congrArg some (by kernel_rfl))
  f330 := Tryz.func93.trans (congrArg some (by kernel_rfl))
  f331 := Tryz.func94.trans (congrArg some (by kernel_rfl))
  f332 := Tryz.func95.trans (congrArg some (by kernel_rfl))
  f343 := Tryz.func106.trans (congrArg some (by kernel_rfl))
  t0 := Tryz.underlying0
  a0 := Tryz.isAgg0
  z0 := Tryz.sizeOf0
  v0 := Tryz.zeroValue0
  t3 := Tryz.underlying3
  a3 := Tryz.isAgg3
  z3 := Tryz.sizeOf3
  v3 := Tryz.zeroValue3
  t4 := Tryz.underlying4
  a4 := Tryz.isAgg4
  z4 := Tryz.sizeOf4
  v4 := Tryz.zeroValue4
  t5 := Tryz.underlying5
  a5 := Tryz.isAgg5
  z5 := Tryz.sizeOf5
  v5 := Tryz.zeroValue5
  t9 := Tryz.underlying9
  a9 := Tryz.isAgg9
  z9 := Tryz.sizeOf9
  v9 := Tryz.zeroValue9
  t28 := Tryz.underlying32
  a28 := Tryz.isAgg32
  z28 := Tryz.sizeOf32
  v28 := Tryz.zeroValue32
  t46 := Tryz.underlying76
  a46 := Tryz.isAgg76
  z46 := Tryz.sizeOf76
  v46 := Tryz.zeroValue76
  t51 := Tryz.underlying68
  a51 := Tryz.isAgg68
  z51 := Tryz.sizeOf68
  v51 := Tryz.zeroValue68
  t53 := Tryz.underlying89
  a53 := Tryz.isAgg89
  z53 := Tryz.sizeOf89
  v53 := Tryz.zeroValue89
  t131 := Tryz.underlying110
  a131 := Tryz.isAgg110
  z131 := Tryz.sizeOf110
  v131 := Tryz.zeroValue110
  t182 := Tryz.underlying104
  a182 := Tryz.isAgg104
  z182 := Tryz.sizeOf104
  v182 := Tryz.zeroValue104
  t183 := Tryz.underlying105
  a183 := Tryz.isAgg105
  z183 := Tryz.sizeOf105
  v183 := Tryz.zeroValue105
  t218 := Tryz.underlying126
  a218 := Tryz.isAgg126
  z218 := Tryz.sizeOf126
  v218 := Tryz.zeroValue126
  t222 := Tryz.underlying130
  a222 := Tryz.isAgg130
  z222 := Tryz.sizeOf130
  v222 := Tryz.zeroValue130
  t228 := Tryz.underlying145
  a228 := Tryz.isAgg145
  z228 := Tryz.sizeOf145
  v228 := Tryz.zeroValue145
  t229 := Tryz.underlying146
  a229 := Tryz.isAgg146
  z229 := Tryz.sizeOf146
  v229 := Tryz.zeroValue146 }
open Go.Sort Go.RowKit in
theorem Tryz.sort_Ints (blk off cap : Nat) (zs : List Int) (w : World) (hH : Holds (Value.int .i64) w blk off zs.toArray) (hblk : blk < w.heap.size) (hsz : zs.length < 4611686018427387904) :
    Calls Tryz.prog 28 #[.slice (some ⟨blk, off, none⟩) zs.length cap] w fun e w' =>
      e = .returned (.tuple #[]) ∧ ∃ n os, w' = grow (putRow (Value.int .i64) (Sort.ahead w n) blk off (zs.mergeSort fun x y => decide (x ≤ y)).toArray) os := Any.sort_Ints Tryz.lays191 blk off cap zs w hH hblk hsz
def Tryz.laysnb116_ren : Go.Shelf.Ren := ⟨fun | 116 => 25 | 115 => 37 | n => n, fun | 37 => 44 | 4 => 4 | 3 => 3 | 9 => 9 | 5 => 5 | n => n, fun | n => n⟩
theorem Tryz.laysnb116 : Go.Proofs.Lays.nb116 Tryz.prog Tryz.laysnb116_ren := {
  mixed := by kernel_rfl
  f115 := Tryz.func37.trans (congrArg some (by kernel_rfl))
  f116 := Tryz.func25.trans (congrArg some (by kernel_rfl))
  t3 := Tryz.underlying3
  a3 := Tryz.isAgg3
  z3 := Tryz.sizeOf3
  v3 := Tryz.zeroValue3
  t4 := Tryz.underlying4
  a4 := Tryz.isAgg4
  z4 := Tryz.sizeOf4
  v4 := Tryz.zeroValue4
  t9 := Tryz.underlying9
  a9 := Tryz.isAgg9
  z9 := Tryz.sizeOf9
  v9 := Tryz.zeroValue9
  t37 := Tryz.underlying44
  a37 := Tryz.isAgg44
  z37 := Tryz.sizeOf44
  v37 := Tryz.zeroValue44
  t5 := Tryz.underlying5
  a5 := Tryz.isAgg5
  z5 := Tryz.sizeOf5
  v5 := Tryz.zeroValue5 }
/-- bytes.HasPrefix: "HasPrefix reports whether the byte slice s begins with prefix.": IT RETURNS 'Lib.hasPrefix (the bytes of s) (the bytes of prefix)'; the world is as it was. ITS CALLEE bytes.Equal IS MET BY ITS OWN CONTRACT OFF THE SHELF (lay that first). 'xs', 'ys': the numbers that the two slices' cells hold. (LAID: no walk: one application.) -/
theorem Tryz.bytes_HasPrefix (b1 o1 n c b2 o2 m d : Nat) (xs ys : List Int) (w : World) (hx : xs.length = n) (hy : ys.length = m) (hnc : n ≤ c) (hc1 : ∀ i, i < n → w.cell? ⟨b1, o1 + i, none⟩ = some (.int .u8 (xs.getD i 0))) (hc2 : ∀ i, i < m → w.cell? ⟨b2, o2 + i, none⟩ = some (.int .u8 (ys.getD i 0))) :
    Calls Tryz.prog 25 #[.slice (some ⟨b1, o1, none⟩) n c, .slice (some ⟨b2, o2, none⟩) m d] w fun e w' => e = .returned (.bool (Lib.hasPrefix (Lib.bytesOf xs) (Lib.bytesOf ys))) ∧ w' = w := Any.bytes_HasPrefix Tryz.laysnb116 b1 o1 n c b2 o2 m d xs ys w hx hy hnc hc1 hc2
end Go.Proofs
