/- Contracts of functions of Go's library at this seat's program, laid out of the library of contracts. Their conditions stand in each. -/
import Derived.Shelf.Strings.TrimSpace
import Derived.Shelf.Small.Utf8
import Derived.Shelf.Unicode.Latin
import Derived.Shelf.Unicode.DecodeSlow
import Derived.Shelf.Unicode.Is16White
import Derived.Shelf.Unicode.IsSpaceAny
import Derived.Shelf.Unicode.Is16Any
import Derived.Shelf.Unicode.Is32Any
import Derived.Shelf.Unicode.ExclAny
import Derived.Test.YtefjonnajjpajaaDoorProg
namespace Go.Proofs
open Go.Shelf
open Go.Shelf
def Tryd.lays163_ren : Go.Shelf.Ren := ⟨fun | 163 => 7 | 237 => 10 | 199 => 11 | 238 => 12 | 272 => 23 | 261 => 24 | 273 => 25 | 197 => 26 | 315 => 37 | 311 => 38 | 312 => 39 | 271 => 40 | 260 => 41 | 120 => 45 | n => n, fun | 9 => 9 | 37 => 31 | 3 => 3 | 0 => 0 | 5 => 5 | 4 => 4 | 40 => 33 | 119 => 34 | 21 => 21 | 51 => 43 | 141 => 58 | 105 => 60 | 196 => 75 | 193 => 72 | 198 => 78 | 49 => 76 | 194 => 73 | 201 => 81 | 226 => 86 | 46 => 67 | 227 => 87 | 139 => 91 | 138 => 90 | n => n, fun | 0 => 0 | 6 => 1 | 3 => 3 | 4 => 4 | n => n⟩
theorem Tryd.lays163 : Go.Proofs.Lays.n163 Tryd.prog Tryd.lays163_ren := {
  mixed := by kernel_rfl
  f120 := Tryd.func45.trans (congrArg some (by kernel_rfl))
  f163 := Tryd.func7.trans (congrArg some (by kernel_rfl))
  f197 := Tryd.func26.trans (congrArg some (by kernel_rfl))
  f199 := Tryd.func11.trans (congrArg some (by kernel_rfl))
  f237 := Tryd.func10.trans (congrArg some (by kernel_rfl))
  f238 := Tryd.func12.trans (congrArg some (by kernel_rfl))
  f260 := Tryd.func41.trans (congrArg some (by kernel_rfl))
  f261 := Tryd.func24.trans (congrArg some (by kernel_rfl))
  f271 := Tryd.func40.trans (congrArg some (by kernel_rfl))
  f272 := Tryd.func23.trans (congrArg some (by kernel_rfl))
  f273 := Tryd.func25.trans (congrArg some (by kernel_rfl))
  f311 := Tryd.func38.trans (congrArg some (by kernel_rfl))
  f312 := Tryd.func39.trans (congrArg some (by kernel_rfl))
  f315 := Tryd.func37.trans (congrArg some (by kernel_rfl))
  t0 := Tryd.underlying0
  a0 := Tryd.isAgg0
  z0 := Tryd.sizeOf0
  v0 := Tryd.zeroValue0
  t3 := Tryd.underlying3
  a3 := Tryd.isAgg3
  z3 := Tryd.sizeOf3
  v3 := Tryd.zeroValue3
  t4 := Tryd.underlying4
  a4 := Tryd.isAgg4
  z4 := Tryd.sizeOf4
  v4 := Tryd.zeroValue4
  t5 := Tryd.underlying5
  a5 := Tryd.isAgg5
  z5 := Tryd.sizeOf5
  v5 := Tryd.zeroValue5
  t9 := Tryd.underlying9
  a9 := Tryd.isAgg9
  z9 := Tryd.sizeOf9
  v9 := Tryd.zeroValue9
  t21 := Tryd.underlying21
  a21 := Tryd.isAgg21
  z21 := Tryd.sizeOf21
  v21 := Tryd.zeroValue21
  t37 := Tryd.underlying31
  a37 := Tryd.isAgg31
  z37 := Tryd.sizeOf31
  v37 := Tryd.zeroValue31
  t40 := Tryd.underlying33
  a40 := Tryd.isAgg33
  z40 := Tryd.sizeOf33
  v40 := Tryd.zeroValue33
  t46 := Tryd.underlying67
  a46 := Tryd.isAgg67
  z46 := Tryd.sizeOf67
  v46 := Tryd.zeroValue67
  t49 := Tryd.underlying76
  a49 := Tryd.isAgg76
  z49 := Tryd.sizeOf76
  v49 := Tryd.zeroValue76
  t51 := Tryd.underlying43
  a51 := Tryd.isAgg43
  z51 := Tryd.sizeOf43
  v51 := Tryd.zeroValue43
  t105 := Tryd.underlying60
  a105 := Tryd.isAgg60
  z105 := Tryd.sizeOf60
  v105 := Tryd.zeroValue60
  t119 := Tryd.underlying34
  a119 := Tryd.isAgg34
  z119 := Tryd.sizeOf34
  t138 := Tryd.underlying90
  a138 := Tryd.isAgg90
  z138 := Tryd.sizeOf90
  v138 := Tryd.zeroValue90
  t139 := Tryd.underlying91
  a139 := Tryd.isAgg91
  z139 := Tryd.sizeOf91
  v139 := Tryd.zeroValue91
  t141 := Tryd.underlying58
  a141 := Tryd.isAgg58
  z141 := Tryd.sizeOf58
  v141 := Tryd.zeroValue58
  t193 := Tryd.underlying72
  a193 := Tryd.isAgg72
  z193 := Tryd.sizeOf72
  v193 := Tryd.zeroValue72
  t194 := Tryd.underlying73
  a194 := Tryd.isAgg73
  z194 := Tryd.sizeOf73
  v194 := Tryd.zeroValue73
  t196 := Tryd.underlying75
  a196 := Tryd.isAgg75
  z196 := Tryd.sizeOf75
  v196 := Tryd.zeroValue75
  t198 := Tryd.underlying78
  a198 := Tryd.isAgg78
  z198 := Tryd.sizeOf78
  v198 := Tryd.zeroValue78
  t201 := Tryd.underlying81
  a201 := Tryd.isAgg81
  z201 := Tryd.sizeOf81
  v201 := Tryd.zeroValue81
  t226 := Tryd.underlying86
  a226 := Tryd.isAgg86
  z226 := Tryd.sizeOf86
  v226 := Tryd.zeroValue86
  t227 := Tryd.underlying87
  a227 := Tryd.isAgg87
  z227 := Tryd.sizeOf87
  v227 := Tryd.zeroValue87
  g0 := by kernel_rfl
  g3 := by kernel_rfl
  g4 := by kernel_rfl
  g6 := by kernel_rfl }
theorem Tryd.Space_Extra_163 : Space.Extra Tryd.prog Tryd.lays163_ren := {
  gNamed := by kernel_rfl }
open Go.RowKit in
theorem Tryd.strings_TrimSpace (s : ByteArray) (w : World) (hs : s.size ≤ 9223372036854775807) (hascii : ∀ (j : Nat) b, s.data.toList[j]? = some b → b.toNat < 128) (htab : Lib.TabIs Tryd.prog w "strings.asciiSpace" .u8 Lib.asciiSpaceTab) :
    Calls Tryd.prog 7 #[.string s] w fun e w' => e = .returned (.string ⟨(Lib.trimSpace s.data.toList).toArray⟩) ∧ w' = Lib.bytesWorld w 5 s := Any.strings_TrimSpace Tryd.lays163 Tryd.Space_Extra_163 s w hs hascii htab
end Go.Proofs
