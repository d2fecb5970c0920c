/- Contracts of functions of Go's library at this seat's program, laid out of the library of contracts. Their conditions stand in each. -/
import Derived.Shelf.Strings.Builder1
import Derived.Shelf.Strings.Builder2
import Derived.Shelf.Strings.OnBuilder
import Derived.Shelf.Strings.TrimSpace
import Derived.Shelf.Small.Utf8
import Derived.Shelf.Strings.BuilderF
import Derived.Shelf.Strings.BuilderK
import Derived.Shelf.Strings.BuilderRune
import Derived.Shelf.Utf8.AppendRune
import Derived.Shelf.Utf8.AppendRunePlain
import Derived.Shelf.Strings.Builder2Cap
import Derived.Shelf.Unicode.Latin
import Derived.Shelf.Unicode.DecodeSlow
import Derived.Shelf.Unicode.Is16White
import Derived.Shelf.Unicode.IsSpaceAny
import Derived.Shelf.Unicode.CaseLookup
import Derived.Shelf.Unicode.CaseConvert
import Derived.Shelf.Unicode.CaseTo
import Derived.Shelf.Unicode.CaseLaid
import Derived.Shelf.Unicode.Is16Any
import Derived.Shelf.Unicode.Is32Any
import Derived.Shelf.Unicode.ExclAny
import Derived.Shelf.Strings.BuilderCap
import Derived.Test.YtebgbeahlodihaaDoorProg
namespace Go.Proofs
open Go.Shelf
def Tryd.lays158_ren : Go.Shelf.Ren := ⟨fun | 158 => 17 | 165 => 23 | 166 => 24 | 167 => 25 | 169 => 26 | 230 => 27 | 203 => 28 | 240 => 43 | 241 => 44 | 197 => 42 | 118 => 45 | 168 => 46 | 270 => 47 | 262 => 48 | 276 => 64 | 277 => 65 | 260 => 63 | 242 => 66 | 313 => 67 | 278 => 72 | 274 => 73 | 275 => 74 | n => n, fun | 9 => 9 | 4 => 4 | 3 => 3 | 5 => 5 | 72 => 44 | 0 => 0 | 76 => 35 | 75 => 34 | 107 => 49 | 70 => 42 | 20 => 20 | 37 => 25 | 127 => 77 | 21 => 21 | 105 => 75 | 164 => 102 | 162 => 108 | 203 => 106 | 119 => 41 | 46 => 87 | 139 => 117 | 138 => 116 | 51 => 58 | 160 => 118 | 208 => 125 | 206 => 123 | 80 => 47 | n => n, fun | 13 => 3 | 3 => 4 | 4 => 5 | n => n⟩
theorem Tryd.lays158 : Go.Proofs.Lays.n158 Tryd.prog Tryd.lays158_ren := {
  mixed := by kernel_rfl
  f118 := Tryd.func45.trans (congrArg some (by kernel_rfl))
  f158 := Tryd.func17.trans (congrArg some (by kernel_rfl))
  f165 := Tryd.func23.trans (congrArg some (by kernel_rfl))
  f166 := Tryd.func24.trans (congrArg some (by kernel_rfl))
  f167 := Tryd.func25.trans (congrArg some (by kernel_rfl))
  f168 := Tryd.func46.trans (congrArg some (by kernel_rfl))
  f169 := Tryd.func26.trans (congrArg some (by kernel_rfl))
  f197 := Tryd.func42.trans (congrArg some (by kernel_rfl))
  f203 := Tryd.func28.trans (congrArg some (by kernel_rfl))
  f230 := Tryd.func27.trans (congrArg some (by kernel_rfl))
  f240 := Tryd.func43.trans (congrArg some (by kernel_rfl))
  f241 := Tryd.func44.trans (congrArg some (by kernel_rfl))
  f242 := Tryd.func66.trans (congrArg some (by kernel_rfl))
  f260 := Tryd.func63.trans (congrArg some (by kernel_rfl))
  f262 := Tryd.func48.trans (congrArg some (by kernel_rfl))
  f270 := Tryd.func47.trans (congrArg some (by kernel_rfl))
  f274 := Tryd.func73.trans (congrArg some (by kernel_rfl))
  f275 := Tryd.func74.trans (congrArg some (by kernel_rfl))
  f276 := Tryd.func64.trans (congrArg some (by kernel_rfl))
  f277 := Tryd.func65.trans (congrArg some (by kernel_rfl))
  f278 := Tryd.func72.trans (congrArg some (by kernel_rfl))
  f313 := Tryd.func67.trans (congrArg some (by kernel_rfl))
  t0 := Tryd.underlying0
  a0 := Tryd.isAgg0
  z0 := Tryd.sizeOf0
  v0 := Tryd.zeroValue0
  t3 := Tryd.underlying3
  a3 := Tryd.isAgg3
  z3 := Tryd.sizeOf3
  v3 := Tryd.zeroValue3
  t4 := Tryd.underlying4
  a4 := Tryd.isAgg4
  z4 := Tryd.sizeOf4
  v4 := Tryd.zeroValue4
  t5 := Tryd.underlying5
  a5 := Tryd.isAgg5
  z5 := Tryd.sizeOf5
  v5 := Tryd.zeroValue5
  t9 := Tryd.underlying9
  a9 := Tryd.isAgg9
  z9 := Tryd.sizeOf9
  v9 := Tryd.zeroValue9
  t20 := Tryd.underlying20
  a20 := Tryd.isAgg20
  z20 := Tryd.sizeOf20
  v20 := Tryd.zeroValue20
  t21 := Tryd.underlying21
  a21 := Tryd.isAgg21
  z21 := Tryd.sizeOf21
  v21 := Tryd.zeroValue21
  t37 := Tryd.underlying25
  a37 := Tryd.isAgg25
  z37 := Tryd.sizeOf25
  v37 := Tryd.zeroValue25
  t46 := Tryd.underlying87
  a46 := Tryd.isAgg87
  z46 := Tryd.sizeOf87
  v46 := Tryd.zeroValue87
  t51 := Tryd.underlying58
  a51 := Tryd.isAgg58
  z51 := Tryd.sizeOf58
  v51 := Tryd.zeroValue58
  t70 := Tryd.underlying42
  a70 := Tryd.isAgg42
  z70 := Tryd.sizeOf42
  v70 := Tryd.zeroValue42
  t72 := Tryd.underlying44
  a72 := Tryd.isAgg44
  z72 := Tryd.sizeOf44
  v72 := Tryd.zeroValue44
  t75 := Tryd.underlying34
  a75 := Tryd.isAgg34
  z75 := Tryd.sizeOf34
  v75 := Tryd.zeroValue34
  t76 := Tryd.underlying35
  a76 := Tryd.isAgg35
  z76 := Tryd.sizeOf35
  v76 := Tryd.zeroValue35
  t105 := Tryd.underlying75
  a105 := Tryd.isAgg75
  z105 := Tryd.sizeOf75
  v105 := Tryd.zeroValue75
  t107 := Tryd.underlying49
  a107 := Tryd.isAgg49
  z107 := Tryd.sizeOf49
  v107 := Tryd.zeroValue49
  t119 := Tryd.underlying41
  a119 := Tryd.isAgg41
  z119 := Tryd.sizeOf41
  t127 := Tryd.underlying77
  a127 := Tryd.isAgg77
  z127 := Tryd.sizeOf77
  v127 := Tryd.zeroValue77
  t138 := Tryd.underlying116
  a138 := Tryd.isAgg116
  z138 := Tryd.sizeOf116
  v138 := Tryd.zeroValue116
  t139 := Tryd.underlying117
  a139 := Tryd.isAgg117
  z139 := Tryd.sizeOf117
  v139 := Tryd.zeroValue117
  t160 := Tryd.underlying118
  a160 := Tryd.isAgg118
  z160 := Tryd.sizeOf118
  v160 := Tryd.zeroValue118
  t162 := Tryd.underlying108
  a162 := Tryd.isAgg108
  z162 := Tryd.sizeOf108
  v162 := Tryd.zeroValue108
  t164 := Tryd.underlying102
  a164 := Tryd.isAgg102
  z164 := Tryd.sizeOf102
  v164 := Tryd.zeroValue102
  t203 := Tryd.underlying106
  a203 := Tryd.isAgg106
  z203 := Tryd.sizeOf106
  v203 := Tryd.zeroValue106
  t206 := Tryd.underlying123
  a206 := Tryd.isAgg123
  z206 := Tryd.sizeOf123
  v206 := Tryd.zeroValue123
  t208 := Tryd.underlying125
  a208 := Tryd.isAgg125
  z208 := Tryd.sizeOf125
  v208 := Tryd.zeroValue125
  g3 := by kernel_rfl
  g4 := by kernel_rfl
  g13 := by kernel_rfl }
theorem Tryd.Builder_Extra_158 : Builder.Extra Tryd.prog Tryd.lays158_ren := {
  sizeBuilder := by kernel_rfl
  liesBuilder := by kernel_rfl
  t5 := Tryd.underlying5
  a5 := Tryd.isAgg5
  z5 := Tryd.sizeOf5
  v5 := Tryd.zeroValue5
  infoByte := by kernel_rfl
  cellsByte := by kernel_rfl
  sizeByte := by kernel_rfl
  neB5 := by decide }
open Go.RowKit in
/-- strings.ToUpper: "ToUpper returns s with all Unicode letters mapped to their upper case.": ON ASCII TEXT OF AT MOST 2^47 BYTES. Below the heap's end the world is as it was: where a letter turns, the call makes a builder and its buffer. (LAID: no walk: one application.) -/
theorem Tryd.strings_ToUpper_ascii (s : ByteArray) (w : World) (hs : s.size ≤ 140737488355328) (hascii : ∀ (j : Nat) (b : UInt8), s.data.toList[j]? = some b → b.toNat < 128) :
    Calls Tryd.prog 17 #[.string s] w fun e w' => e = .returned (.string ⟨(Lib.toUpperA s.data.toList).toArray⟩) ∧ Below w.heap.size w w' := Any.strings_ToUpper_ascii Tryd.lays158 Tryd.Builder_Extra_158 s w hs hascii
def Tryd.lays163_ren : Go.Shelf.Ren := ⟨fun | 163 => 16 | 237 => 20 | 199 => 21 | 238 => 22 | 272 => 39 | 261 => 40 | 273 => 41 | 197 => 42 | 315 => 59 | 311 => 60 | 312 => 61 | 271 => 62 | 260 => 63 | 120 => 71 | n => n, fun | 9 => 9 | 37 => 25 | 3 => 3 | 0 => 0 | 5 => 5 | 4 => 4 | 40 => 32 | 119 => 41 | 21 => 21 | 51 => 58 | 141 => 73 | 105 => 75 | 196 => 94 | 193 => 91 | 198 => 97 | 49 => 95 | 194 => 92 | 201 => 100 | 226 => 112 | 46 => 87 | 227 => 113 | 139 => 117 | 138 => 116 | n => n, fun | 0 => 0 | 6 => 1 | 3 => 4 | 4 => 5 | n => n⟩
theorem Tryd.lays163 : Go.Proofs.Lays.n163 Tryd.prog Tryd.lays163_ren := {
  mixed := by kernel_rfl
  f120 := Tryd.func71.trans (congrArg some (by kernel_rfl))
  f163 := Tryd.func16.trans (congrArg some (by kernel_rfl))
  f197 := Tryd.func42.trans (congrArg some (by kernel_rfl))
  f199 := Tryd.func21.trans (congrArg some (by kernel_rfl))
  f237 := Tryd.func20.trans (congrArg some (by kernel_rfl))
  f238 := Tryd.func22.trans (congrArg some (by kernel_rfl))
  f260 := Tryd.func63.trans (congrArg some (by kernel_rfl))
  f261 := Tryd.func40.trans (congrArg some (by kernel_rfl))
  f271 := Tryd.func62.trans (congrArg some (by kernel_rfl))
  f272 := Tryd.func39.trans (congrArg some (by kernel_rfl))
  f273 := Tryd.func41.trans (congrArg some (by kernel_rfl))
  f311 := Tryd.func60.trans (congrArg some (by kernel_rfl))
  f312 := Tryd.func61.trans (congrArg some (by kernel_rfl))
  f315 := Tryd.func59.trans (congrArg some (by kernel_rfl))
  t0 := Tryd.underlying0
  a0 := Tryd.isAgg0
  z0 := Tryd.sizeOf0
  v0 := Tryd.zeroValue0
  t3 := Tryd.underlying3
  a3 := Tryd.isAgg3
  z3 := Tryd.sizeOf3
  v3 := Tryd.zeroValue3
  t4 := Tryd.underlying4
  a4 := Tryd.isAgg4
  z4 := Tryd.sizeOf4
  v4 := Tryd.zeroValue4
  t5 := Tryd.underlying5
  a5 := Tryd.isAgg5
  z5 := Tryd.sizeOf5
  v5 := Tryd.zeroValue5
  t9 := Tryd.underlying9
  a9 := Tryd.isAgg9
  z9 := Tryd.sizeOf9
  v9 := Tryd.zeroValue9
  t21 := Tryd.underlying21
  a21 := Tryd.isAgg21
  z21 := Tryd.sizeOf21
  v21 := Tryd.zeroValue21
  t37 := Tryd.underlying25
  a37 := Tryd.isAgg25
  z37 := Tryd.sizeOf25
  v37 := Tryd.zeroValue25
  t40 := Tryd.underlying32
  a40 := Tryd.isAgg32
  z40 := Tryd.sizeOf32
  v40 := Tryd.zeroValue32
  t46 := Tryd.underlying87
  a46 := Tryd.isAgg87
  z46 := Tryd.sizeOf87
  v46 := Tryd.zeroValue87
  t49 := Tryd.underlying95
  a49 := Tryd.isAgg95
  z49 := Tryd.sizeOf95
  v49 := Tryd.zeroValue95
  t51 := Tryd.underlying58
  a51 := Tryd.isAgg58
  z51 := Tryd.sizeOf58
  v51 := Tryd.zeroValue58
  t105 := Tryd.underlying75
  a105 := Tryd.isAgg75
  z105 := Tryd.sizeOf75
  v105 := Tryd.zeroValue75
  t119 := Tryd.underlying41
  a119 := Tryd.isAgg41
  z119 := Tryd.sizeOf41
  t138 := Tryd.underlying116
  a138 := Tryd.isAgg116
  z138 := Tryd.sizeOf116
  v138 := Tryd.zeroValue116
  t139 := Tryd.underlying117
  a139 := Tryd.isAgg117
  z139 := Tryd.sizeOf117
  v139 := Tryd.zeroValue117
  t141 := Tryd.underlying73
  a141 := Tryd.isAgg73
  z141 := Tryd.sizeOf73
  v141 := Tryd.zeroValue73
  t193 := Tryd.underlying91
  a193 := Tryd.isAgg91
  z193 := Tryd.sizeOf91
  v193 := Tryd.zeroValue91
  t194 := Tryd.underlying92
  a194 := Tryd.isAgg92
  z194 := Tryd.sizeOf92
  v194 := Tryd.zeroValue92
  t196 := Tryd.underlying94
  a196 := Tryd.isAgg94
  z196 := Tryd.sizeOf94
  v196 := Tryd.zeroValue94
  t198 := Tryd.underlying97
  a198 := Tryd.isAgg97
  z198 := Tryd.sizeOf97
  v198 := Tryd.zeroValue97
  t201 := Tryd.underlying100
  a201 := Tryd.isAgg100
  z201 := Tryd.sizeOf100
  v201 := Tryd.zeroValue100
  t226 := Tryd.underlying112
  a226 := Tryd.isAgg112
  z226 := Tryd.sizeOf112
  v226 := Tryd.zeroValue112
  t227 := Tryd.underlying113
  a227 := Tryd.isAgg113
  z227 := Tryd.sizeOf113
  v227 := Tryd.zeroValue113
  g0 := by kernel_rfl
  g3 := by kernel_rfl
  g4 := by kernel_rfl
  g6 := by kernel_rfl }
theorem Tryd.Space_Extra_163 : Space.Extra Tryd.prog Tryd.lays163_ren := {
  gNamed := by kernel_rfl }
open Go.RowKit in
theorem Tryd.strings_TrimSpace (s : ByteArray) (w : World) (hs : s.size ≤ 9223372036854775807) (hascii : ∀ (j : Nat) b, s.data.toList[j]? = some b → b.toNat < 128) (htab : Lib.TabIs Tryd.prog w "strings.asciiSpace" .u8 Lib.asciiSpaceTab) :
    Calls Tryd.prog 16 #[.string s] w fun e w' => e = .returned (.string ⟨(Lib.trimSpace s.data.toList).toArray⟩) ∧ w' = Lib.bytesWorld w 5 s := Any.strings_TrimSpace Tryd.lays163 Tryd.Space_Extra_163 s w hs hascii htab
end Go.Proofs
