/- Contracts of functions of Go's library at this seat's program, laid out of the library of contracts. Their conditions stand in each. -/
import Derived.Shelf.Strings.Builder1
import Derived.Shelf.Strings.Builder2
import Derived.Shelf.Strings.OnBuilder
import Derived.Shelf.Small.Utf8
import Derived.Shelf.Strings.BuilderF
import Derived.Shelf.Strings.BuilderK
import Derived.Shelf.Strings.BuilderRune
import Derived.Shelf.Strconv.Itoa0
import Derived.Shelf.Unicode.Latin
import Derived.Shelf.Bits.Mul64
import Derived.Shelf.Unicode.DecodeSlow
import Derived.Shelf.Unicode.DecodeAny
import Derived.Shelf.Unicode.CaseLookup
import Derived.Shelf.Unicode.CaseConvert
import Derived.Shelf.Unicode.CaseTo
import Derived.Shelf.Unicode.CaseLaid
import Derived.Shelf.Strings.MapAny
import Derived.Shelf.Strings.CaseAny
import Derived.Test.YtilkcnoooecngaaGreatDoorProg
namespace Go.Proofs
open Go.Shelf
def Tryz.lays159_ren : Go.Shelf.Ren := ⟨fun | 159 => 20 | 165 => 28 | 166 => 29 | 167 => 30 | 169 => 31 | 230 => 32 | 204 => 33 | 240 => 57 | 241 => 58 | 197 => 59 | 118 => 60 | 168 => 61 | 270 => 62 | 262 => 63 | 276 => 90 | 277 => 91 | 260 => 92 | 242 => 93 | 313 => 94 | 278 => 106 | 274 => 107 | 275 => 108 | n => n, fun | 9 => 9 | 4 => 4 | 3 => 3 | 5 => 5 | 72 => 58 | 0 => 0 | 76 => 60 | 75 => 35 | 107 => 65 | 70 => 55 | 20 => 20 | 37 => 56 | 127 => 103 | 21 => 21 | 105 => 107 | 164 => 139 | 162 => 145 | 203 => 143 | 119 => 160 | 46 => 88 | 139 => 163 | 138 => 162 | 51 => 68 | 160 => 164 | 208 => 179 | 206 => 177 | 80 => 63 | n => n, fun | 13 => 9 | 3 => 12 | 4 => 13 | n => n⟩
theorem Tryz.lays159 : Go.Proofs.Lays.n159 Tryz.prog Tryz.lays159_ren := {
  mixed := by kernel_rfl
  f118 := Tryz.func60.trans (congrArg some (by kernel_rfl))
  f159 := Tryz.func20.trans (congrArg some (by kernel_rfl))
  f165 := Tryz.func28.trans (congrArg some (by kernel_rfl))
  f166 := Tryz.func29.trans (congrArg some (by kernel_rfl))
  f167 := Tryz.func30.trans (congrArg some (by kernel_rfl))
  f168 := Tryz.func61.trans (congrArg some (by kernel_rfl))
  f169 := Tryz.func31.trans (congrArg some (by kernel_rfl))
  f197 := Tryz.func59.trans (congrArg some (by kernel_rfl))
  f204 := Tryz.func33.trans (congrArg some (by kernel_rfl))
  f230 := Tryz.func32.trans (congrArg some (by kernel_rfl))
  f240 := Tryz.func57.trans (congrArg some (by kernel_rfl))
  f241 := Tryz.func58.trans (congrArg some (by kernel_rfl))
  f242 := Tryz.func93.trans (congrArg some (by kernel_rfl))
  f260 := Tryz.func92.trans (congrArg some (by kernel_rfl))
  f262 := Tryz.func63.trans (congrArg some (by kernel_rfl))
  f270 := Tryz.func62.trans (congrArg some (by kernel_rfl))
  f274 := Tryz.func107.trans (congrArg some (by kernel_rfl))
  f275 := Tryz.func108.trans (congrArg some (by kernel_rfl))
  f276 := Tryz.func90.trans (congrArg some (by kernel_rfl))
  f277 := Tryz.func91.trans (congrArg some (by kernel_rfl))
  f278 := Tryz.func106.trans (congrArg some (by kernel_rfl))
  f313 := Tryz.func94.trans (congrArg some (by kernel_rfl))
  t0 := Tryz.underlying0
  a0 := Tryz.isAgg0
  z0 := Tryz.sizeOf0
  v0 := Tryz.zeroValue0
  t3 := Tryz.underlying3
  a3 := Tryz.isAgg3
  z3 := Tryz.sizeOf3
  v3 := Tryz.zeroValue3
  t4 := Tryz.underlying4
  a4 := Tryz.isAgg4
  z4 := Tryz.sizeOf4
  v4 := Tryz.zeroValue4
  t5 := Tryz.underlying5
  a5 := Tryz.isAgg5
  z5 := Tryz.sizeOf5
  v5 := Tryz.zeroValue5
  t9 := Tryz.underlying9
  a9 := Tryz.isAgg9
  z9 := Tryz.sizeOf9
  v9 := Tryz.zeroValue9
  t20 := Tryz.underlying20
  a20 := Tryz.isAgg20
  z20 := Tryz.sizeOf20
  v20 := Tryz.zeroValue20
  t21 := Tryz.underlying21
  a21 := Tryz.isAgg21
  z21 := Tryz.sizeOf21
  v21 := Tryz.zeroValue21
  t37 := Tryz.underlying56
  a37 := Tryz.isAgg56
  z37 := Tryz.sizeOf56
  v37 := Tryz.zeroValue56
  t46 := Tryz.underlying88
  a46 := Tryz.isAgg88
  z46 := Tryz.sizeOf88
  v46 := Tryz.zeroValue88
  t51 := Tryz.underlying68
  a51 := Tryz.isAgg68
  z51 := Tryz.sizeOf68
  v51 := Tryz.zeroValue68
  t70 := Tryz.underlying55
  a70 := Tryz.isAgg55
  z70 := Tryz.sizeOf55
  v70 := Tryz.zeroValue55
  t72 := Tryz.underlying58
  a72 := Tryz.isAgg58
  z72 := Tryz.sizeOf58
  v72 := Tryz.zeroValue58
  t75 := Tryz.underlying35
  a75 := Tryz.isAgg35
  z75 := Tryz.sizeOf35
  v75 := Tryz.zeroValue35
  t76 := Tryz.underlying60
  a76 := Tryz.isAgg60
  z76 := Tryz.sizeOf60
  v76 := Tryz.zeroValue60
  t105 := Tryz.underlying107
  a105 := Tryz.isAgg107
  z105 := Tryz.sizeOf107
  v105 := Tryz.zeroValue107
  t107 := Tryz.underlying65
  a107 := Tryz.isAgg65
  z107 := Tryz.sizeOf65
  v107 := Tryz.zeroValue65
  t119 := Tryz.underlying160
  a119 := Tryz.isAgg160
  z119 := Tryz.sizeOf160
  t127 := Tryz.underlying103
  a127 := Tryz.isAgg103
  z127 := Tryz.sizeOf103
  v127 := Tryz.zeroValue103
  t138 := Tryz.underlying162
  a138 := Tryz.isAgg162
  z138 := Tryz.sizeOf162
  v138 := Tryz.zeroValue162
  t139 := Tryz.underlying163
  a139 := Tryz.isAgg163
  z139 := Tryz.sizeOf163
  v139 := Tryz.zeroValue163
  t160 := Tryz.underlying164
  a160 := Tryz.isAgg164
  z160 := Tryz.sizeOf164
  v160 := Tryz.zeroValue164
  t162 := Tryz.underlying145
  a162 := Tryz.isAgg145
  z162 := Tryz.sizeOf145
  v162 := Tryz.zeroValue145
  t164 := Tryz.underlying139
  a164 := Tryz.isAgg139
  z164 := Tryz.sizeOf139
  v164 := Tryz.zeroValue139
  t203 := Tryz.underlying143
  a203 := Tryz.isAgg143
  z203 := Tryz.sizeOf143
  v203 := Tryz.zeroValue143
  t206 := Tryz.underlying177
  a206 := Tryz.isAgg177
  z206 := Tryz.sizeOf177
  v206 := Tryz.zeroValue177
  t208 := Tryz.underlying179
  a208 := Tryz.isAgg179
  z208 := Tryz.sizeOf179
  v208 := Tryz.zeroValue179
  g3 := by kernel_rfl
  g4 := by kernel_rfl
  g13 := by kernel_rfl }
theorem Tryz.Builder_Extra_159 : Builder.Extra Tryz.prog Tryz.lays159_ren := {
  sizeBuilder := by kernel_rfl
  liesBuilder := by kernel_rfl
  t5 := Tryz.underlying5
  a5 := Tryz.isAgg5
  z5 := Tryz.sizeOf5
  v5 := Tryz.zeroValue5
  infoByte := by kernel_rfl
  cellsByte := by kernel_rfl
  sizeByte := by kernel_rfl
  neB5 := by decide }
def Tryz.lays129_ren : Go.Shelf.Ren := ⟨fun | 129 => 78 | n => n, fun | 53 => 73 | 3 => 3 | 4 => 4 | 46 => 88 | 5 => 5 | 9 => 9 | n => n, fun | n => n⟩
theorem Tryz.lays129 : Go.Proofs.Lays.n129 Tryz.prog Tryz.lays129_ren := {
  mixed := by kernel_rfl
  f129 := Tryz.func78.trans (congrArg some (by kernel_rfl))
  t3 := Tryz.underlying3
  a3 := Tryz.isAgg3
  z3 := Tryz.sizeOf3
  v3 := Tryz.zeroValue3
  t4 := Tryz.underlying4
  a4 := Tryz.isAgg4
  z4 := Tryz.sizeOf4
  v4 := Tryz.zeroValue4
  t5 := Tryz.underlying5
  a5 := Tryz.isAgg5
  z5 := Tryz.sizeOf5
  v5 := Tryz.zeroValue5
  t9 := Tryz.underlying9
  a9 := Tryz.isAgg9
  z9 := Tryz.sizeOf9
  v9 := Tryz.zeroValue9
  t46 := Tryz.underlying88
  a46 := Tryz.isAgg88
  z46 := Tryz.sizeOf88
  v46 := Tryz.zeroValue88
  t53 := Tryz.underlying73
  a53 := Tryz.isAgg73
  z53 := Tryz.sizeOf73
  v53 := Tryz.zeroValue73 }
/-- bits.Len64: "Len64 returns the minimum number of bits required to represent x; the result is 0 for x == 0.": IT RETURNS 'Lib.bitLen x'; the world is as it was. ('h0', 'h1': x is a uint64.) (LAID: no walk: one application.) -/
theorem Tryz.bits_Len64 (x : Int) (w : World) (h0 : 0 ≤ x) (h1 : x ≤ 18446744073709551615) :
    Calls Tryz.prog 78 #[.int .u64 x] w fun e w' => e = .returned (.int .i64 (Lib.bitLen x.toNat)) ∧ w' = w := Any.bits_Len64 Tryz.lays129 x w h0 h1
def Tryz.lays264_ren : Go.Shelf.Ren := ⟨fun | 264 => 98 | n => n, fun | 53 => 73 | 46 => 88 | n => n, fun | n => n⟩
theorem Tryz.lays264 : Go.Proofs.Lays.n264 Tryz.prog Tryz.lays264_ren := {
  mixed := by kernel_rfl
  f264 := Tryz.func98.trans (congrArg some (by kernel_rfl))
  t46 := Tryz.underlying88
  a46 := Tryz.isAgg88
  z46 := Tryz.sizeOf88
  v46 := Tryz.zeroValue88
  t53 := Tryz.underlying73
  a53 := Tryz.isAgg73
  z53 := Tryz.sizeOf73
  v53 := Tryz.zeroValue73 }
open Go.RowKit Go.Lib in
theorem Tryz.bits_Mul64 (x y : Nat) (hx : x < 18446744073709551616) (hy : y < 18446744073709551616) (w : World) :
    Calls Tryz.prog 98 #[.int .u64 x, .int .u64 y] w fun e w' => e = .returned (.tuple #[.int .u64 ((x * y / 18446744073709551616 : Nat) : Int), .int .u64 ((x * y % 18446744073709551616 : Nat) : Int)]) ∧ w' = w := Any.bits_Mul64 Tryz.lays264 x y hx hy w
open Go.RowKit Go.Lib in
/-- **strings.ToLower AT EVERY STRING, VALID UTF-8 OR NOT.** (LAID: no walk: one application.) -/
theorem Tryz.strings_ToLower_any (s : ByteArray) (w : World) (hs : s.size < 35184372088832) (hV : CaseVar 9 caseA w) (hT : Lib.Utf8Tabs 12 13 w) :
    Calls Tryz.prog 20 #[.string s] w fun e w' => e = .returned (.string ⟨(Lib.toLowerD s.data.toList).toArray⟩) ∧ Below w.heap.size w w' := Any.strings_ToLower_any Tryz.lays159 Tryz.Builder_Extra_159 s w hs hV hT
end Go.Proofs
