/- Contracts of functions of Go's library at this seat's program, laid out of the library of contracts. Their conditions stand in each. -/
import Derived.Shelf.Strings.TrimSpace
import Derived.Shelf.Small.Utf8
import Derived.Shelf.GgClosure.StringsIndexFunc
import Derived.Shelf.GgClosure.StringsTrimFunc
import Derived.Shelf.Unicode.Latin
import Derived.Shelf.Unicode.Props
import Derived.Shelf.LaysM
import Derived.Shelf.Unicode.PropsLaid
import Derived.Shelf.Unicode.Decode
import Derived.Shelf.Unicode.DecodeSlow
import Derived.Shelf.Unicode.DecodeAny
import Derived.Shelf.Unicode.Is16White
import Derived.Shelf.Unicode.IsSpaceAny
import Derived.Shelf.Unicode.DecodeLast
import Derived.Shelf.Unicode.Is16WhiteD
import Derived.Shelf.Unicode.IsSpaceAnyD
import Derived.Shelf.Unicode.Is16Any
import Derived.Shelf.Unicode.Is32Any
import Derived.Shelf.Unicode.ExclAny
import Derived.Shelf.Unicode.PredsAny
import Derived.Shelf.Strings.FuncGrows
import Derived.Shelf.Unicode.PredsPay
import Derived.Test.YtenmkoaimmnpdaaDoorProg
namespace Go.Proofs
open Go.Shelf
open Go.Shelf
def Tryd.lays163_ren : Go.Shelf.Ren := ⟨fun | 163 => 14 | 237 => 17 | 199 => 18 | 238 => 19 | 272 => 22 | 261 => 16 | 273 => 23 | 197 => 24 | 315 => 25 | 311 => 20 | 312 => 21 | 271 => 26 | 260 => 27 | 120 => 28 | n => n, fun | 9 => 9 | 37 => 40 | 3 => 3 | 0 => 0 | 5 => 5 | 4 => 4 | 40 => 28 | 119 => 32 | 21 => 21 | 51 => 37 | 141 => 39 | 105 => 55 | 196 => 46 | 193 => 43 | 198 => 49 | 49 => 47 | 194 => 44 | 201 => 52 | 226 => 57 | 46 => 36 | 227 => 58 | 139 => 35 | 138 => 34 | n => n, fun | 0 => 6 | 6 => 7 | 3 => 0 | 4 => 1 | n => n⟩
theorem Tryd.lays163 : Go.Proofs.Lays.n163 Tryd.prog Tryd.lays163_ren := {
  mixed := by kernel_rfl
  f120 := Tryd.func28.trans (congrArg some (by kernel_rfl))
  f163 := Tryd.func14.trans (congrArg some (by kernel_rfl))
  f197 := Tryd.func24.trans (congrArg some (by kernel_rfl))
  f199 := Tryd.func18.trans (congrArg some (by kernel_rfl))
  f237 := Tryd.func17.trans (congrArg some (by kernel_rfl))
  f238 := Tryd.func19.trans (congrArg some (by kernel_rfl))
  f260 := Tryd.func27.trans (congrArg some (by kernel_rfl))
  f261 := Tryd.func16.trans (congrArg some (by kernel_rfl))
  f271 := Tryd.func26.trans (congrArg some (by kernel_rfl))
  f272 := Tryd.func22.trans (congrArg some (by kernel_rfl))
  f273 := Tryd.func23.trans (congrArg some (by kernel_rfl))
  f311 := Tryd.func20.trans (congrArg some (by kernel_rfl))
  f312 := Tryd.func21.trans (congrArg some (by kernel_rfl))
  f315 := Tryd.func25.trans (congrArg some (by kernel_rfl))
  t0 := Tryd.underlying0
  a0 := Tryd.isAgg0
  z0 := Tryd.sizeOf0
  v0 := Tryd.zeroValue0
  t3 := Tryd.underlying3
  a3 := Tryd.isAgg3
  z3 := Tryd.sizeOf3
  v3 := Tryd.zeroValue3
  t4 := Tryd.underlying4
  a4 := Tryd.isAgg4
  z4 := Tryd.sizeOf4
  v4 := Tryd.zeroValue4
  t5 := Tryd.underlying5
  a5 := Tryd.isAgg5
  z5 := Tryd.sizeOf5
  v5 := Tryd.zeroValue5
  t9 := Tryd.underlying9
  a9 := Tryd.isAgg9
  z9 := Tryd.sizeOf9
  v9 := Tryd.zeroValue9
  t21 := Tryd.underlying21
  a21 := Tryd.isAgg21
  z21 := Tryd.sizeOf21
  v21 := Tryd.zeroValue21
  t37 := Tryd.underlying40
  a37 := Tryd.isAgg40
  z37 := Tryd.sizeOf40
  v37 := Tryd.zeroValue40
  t40 := Tryd.underlying28
  a40 := Tryd.isAgg28
  z40 := Tryd.sizeOf28
  v40 := Tryd.zeroValue28
  t46 := Tryd.underlying36
  a46 := Tryd.isAgg36
  z46 := Tryd.sizeOf36
  v46 := Tryd.zeroValue36
  t49 := Tryd.underlying47
  a49 := Tryd.isAgg47
  z49 := Tryd.sizeOf47
  v49 := Tryd.zeroValue47
  t51 := Tryd.underlying37
  a51 := Tryd.isAgg37
  z51 := Tryd.sizeOf37
  v51 := Tryd.zeroValue37
  t105 := Tryd.underlying55
  a105 := Tryd.isAgg55
  z105 := Tryd.sizeOf55
  v105 := Tryd.zeroValue55
  t119 := Tryd.underlying32
  a119 := Tryd.isAgg32
  z119 := Tryd.sizeOf32
  t138 := Tryd.underlying34
  a138 := Tryd.isAgg34
  z138 := Tryd.sizeOf34
  v138 := Tryd.zeroValue34
  t139 := Tryd.underlying35
  a139 := Tryd.isAgg35
  z139 := Tryd.sizeOf35
  v139 := Tryd.zeroValue35
  t141 := Tryd.underlying39
  a141 := Tryd.isAgg39
  z141 := Tryd.sizeOf39
  v141 := Tryd.zeroValue39
  t193 := Tryd.underlying43
  a193 := Tryd.isAgg43
  z193 := Tryd.sizeOf43
  v193 := Tryd.zeroValue43
  t194 := Tryd.underlying44
  a194 := Tryd.isAgg44
  z194 := Tryd.sizeOf44
  v194 := Tryd.zeroValue44
  t196 := Tryd.underlying46
  a196 := Tryd.isAgg46
  z196 := Tryd.sizeOf46
  v196 := Tryd.zeroValue46
  t198 := Tryd.underlying49
  a198 := Tryd.isAgg49
  z198 := Tryd.sizeOf49
  v198 := Tryd.zeroValue49
  t201 := Tryd.underlying52
  a201 := Tryd.isAgg52
  z201 := Tryd.sizeOf52
  v201 := Tryd.zeroValue52
  t226 := Tryd.underlying57
  a226 := Tryd.isAgg57
  z226 := Tryd.sizeOf57
  v226 := Tryd.zeroValue57
  t227 := Tryd.underlying58
  a227 := Tryd.isAgg58
  z227 := Tryd.sizeOf58
  v227 := Tryd.zeroValue58
  g0 := by kernel_rfl
  g3 := by kernel_rfl
  g4 := by kernel_rfl
  g6 := by kernel_rfl }
theorem Tryd.Space_Extra_163 : Space.Extra Tryd.prog Tryd.lays163_ren := {
  gNamed := by kernel_rfl }
open Go.RowKit in
theorem Tryd.strings_TrimSpace (s : ByteArray) (w : World) (hs : s.size ≤ 9223372036854775807) (hascii : ∀ (j : Nat) b, s.data.toList[j]? = some b → b.toNat < 128) (htab : Lib.TabIs Tryd.prog w "strings.asciiSpace" .u8 Lib.asciiSpaceTab) :
    Calls Tryd.prog 14 #[.string s] w fun e w' => e = .returned (.string ⟨(Lib.trimSpace s.data.toList).toArray⟩) ∧ w' = Lib.bytesWorld w 5 s := Any.strings_TrimSpace Tryd.lays163 Tryd.Space_Extra_163 s w hs hascii htab
def Tryd.lays198_ren : Go.Shelf.Ren := ⟨fun | 198 => 13 | 261 => 16 | 311 => 20 | 312 => 21 | n => n, fun | 21 => 21 | 4 => 4 | 141 => 39 | 0 => 0 | 196 => 46 | 193 => 43 | 3 => 3 | 51 => 37 | 198 => 49 | 49 => 47 | 194 => 44 | 201 => 52 | 226 => 57 | 46 => 36 | 227 => 58 | n => n, fun | 5 => 5 | n => n⟩
theorem Tryd.lays198 : Go.Proofs.Lays.n198 Tryd.prog Tryd.lays198_ren := {
  mixed := by kernel_rfl
  f198 := Tryd.func13.trans (congrArg some (by kernel_rfl))
  f261 := Tryd.func16.trans (congrArg some (by kernel_rfl))
  f311 := Tryd.func20.trans (congrArg some (by kernel_rfl))
  f312 := Tryd.func21.trans (congrArg some (by kernel_rfl))
  t0 := Tryd.underlying0
  a0 := Tryd.isAgg0
  z0 := Tryd.sizeOf0
  v0 := Tryd.zeroValue0
  t3 := Tryd.underlying3
  a3 := Tryd.isAgg3
  z3 := Tryd.sizeOf3
  v3 := Tryd.zeroValue3
  t4 := Tryd.underlying4
  a4 := Tryd.isAgg4
  z4 := Tryd.sizeOf4
  v4 := Tryd.zeroValue4
  t21 := Tryd.underlying21
  a21 := Tryd.isAgg21
  z21 := Tryd.sizeOf21
  v21 := Tryd.zeroValue21
  t46 := Tryd.underlying36
  a46 := Tryd.isAgg36
  z46 := Tryd.sizeOf36
  v46 := Tryd.zeroValue36
  t49 := Tryd.underlying47
  a49 := Tryd.isAgg47
  z49 := Tryd.sizeOf47
  v49 := Tryd.zeroValue47
  t51 := Tryd.underlying37
  a51 := Tryd.isAgg37
  z51 := Tryd.sizeOf37
  v51 := Tryd.zeroValue37
  t141 := Tryd.underlying39
  a141 := Tryd.isAgg39
  z141 := Tryd.sizeOf39
  v141 := Tryd.zeroValue39
  t193 := Tryd.underlying43
  a193 := Tryd.isAgg43
  z193 := Tryd.sizeOf43
  v193 := Tryd.zeroValue43
  t194 := Tryd.underlying44
  a194 := Tryd.isAgg44
  z194 := Tryd.sizeOf44
  v194 := Tryd.zeroValue44
  t196 := Tryd.underlying46
  a196 := Tryd.isAgg46
  z196 := Tryd.sizeOf46
  v196 := Tryd.zeroValue46
  t198 := Tryd.underlying49
  a198 := Tryd.isAgg49
  z198 := Tryd.sizeOf49
  v198 := Tryd.zeroValue49
  t201 := Tryd.underlying52
  a201 := Tryd.isAgg52
  z201 := Tryd.sizeOf52
  v201 := Tryd.zeroValue52
  t226 := Tryd.underlying57
  a226 := Tryd.isAgg57
  z226 := Tryd.sizeOf57
  v226 := Tryd.zeroValue57
  t227 := Tryd.underlying58
  a227 := Tryd.isAgg58
  z227 := Tryd.sizeOf58
  v227 := Tryd.zeroValue58
  g5 := by kernel_rfl }
open Go.RowKit Go.Lib in
theorem Tryd.unicode_IsDigit (r : Int) (w : World) (h : r ≤ 255) :
    Calls Tryd.prog 13 #[.int .i32 r] w fun e w' => e = .returned (.bool (Lib.isDigitL r)) ∧ w' = w := Any.unicode_IsDigit Tryd.lays198 r w h
def Tryd.lays201_ren : Go.Shelf.Ren := ⟨fun | 201 => 12 | 261 => 16 | 311 => 20 | 312 => 21 | n => n, fun | 21 => 21 | 4 => 4 | 51 => 37 | 5 => 5 | 119 => 32 | 0 => 0 | 141 => 39 | 196 => 46 | 193 => 43 | 3 => 3 | 198 => 49 | 49 => 47 | 194 => 44 | 201 => 52 | 226 => 57 | 46 => 36 | 227 => 58 | n => n, fun | 7 => 2 | 9 => 4 | n => n⟩
theorem Tryd.lays201 : Go.Proofs.Lays.n201 Tryd.prog Tryd.lays201_ren := {
  mixed := by kernel_rfl
  f201 := Tryd.func12.trans (congrArg some (by kernel_rfl))
  f261 := Tryd.func16.trans (congrArg some (by kernel_rfl))
  f311 := Tryd.func20.trans (congrArg some (by kernel_rfl))
  f312 := Tryd.func21.trans (congrArg some (by kernel_rfl))
  t0 := Tryd.underlying0
  a0 := Tryd.isAgg0
  z0 := Tryd.sizeOf0
  v0 := Tryd.zeroValue0
  t3 := Tryd.underlying3
  a3 := Tryd.isAgg3
  z3 := Tryd.sizeOf3
  v3 := Tryd.zeroValue3
  t4 := Tryd.underlying4
  a4 := Tryd.isAgg4
  z4 := Tryd.sizeOf4
  v4 := Tryd.zeroValue4
  t5 := Tryd.underlying5
  a5 := Tryd.isAgg5
  z5 := Tryd.sizeOf5
  v5 := Tryd.zeroValue5
  t21 := Tryd.underlying21
  a21 := Tryd.isAgg21
  z21 := Tryd.sizeOf21
  v21 := Tryd.zeroValue21
  t46 := Tryd.underlying36
  a46 := Tryd.isAgg36
  z46 := Tryd.sizeOf36
  v46 := Tryd.zeroValue36
  t49 := Tryd.underlying47
  a49 := Tryd.isAgg47
  z49 := Tryd.sizeOf47
  v49 := Tryd.zeroValue47
  t51 := Tryd.underlying37
  a51 := Tryd.isAgg37
  z51 := Tryd.sizeOf37
  v51 := Tryd.zeroValue37
  t119 := Tryd.underlying32
  a119 := Tryd.isAgg32
  z119 := Tryd.sizeOf32
  t141 := Tryd.underlying39
  a141 := Tryd.isAgg39
  z141 := Tryd.sizeOf39
  v141 := Tryd.zeroValue39
  t193 := Tryd.underlying43
  a193 := Tryd.isAgg43
  z193 := Tryd.sizeOf43
  v193 := Tryd.zeroValue43
  t194 := Tryd.underlying44
  a194 := Tryd.isAgg44
  z194 := Tryd.sizeOf44
  v194 := Tryd.zeroValue44
  t196 := Tryd.underlying46
  a196 := Tryd.isAgg46
  z196 := Tryd.sizeOf46
  v196 := Tryd.zeroValue46
  t198 := Tryd.underlying49
  a198 := Tryd.isAgg49
  z198 := Tryd.sizeOf49
  v198 := Tryd.zeroValue49
  t201 := Tryd.underlying52
  a201 := Tryd.isAgg52
  z201 := Tryd.sizeOf52
  v201 := Tryd.zeroValue52
  t226 := Tryd.underlying57
  a226 := Tryd.isAgg57
  z226 := Tryd.sizeOf57
  v226 := Tryd.zeroValue57
  t227 := Tryd.underlying58
  a227 := Tryd.isAgg58
  z227 := Tryd.sizeOf58
  v227 := Tryd.zeroValue58
  g7 := by kernel_rfl
  g9 := by kernel_rfl }
open Go.RowKit Go.Lib in
theorem Tryd.unicode_IsUpper (c : Nat) (w : World) (hc : c < 256) (htab : Lib.TabIs Tryd.prog w "unicode.properties" .u8 Lib.propertiesTab) :
    Calls Tryd.prog 12 #[.int .i32 c] w fun e w' => e = .returned (.bool (Lib.isUpperL c)) ∧ w' = w := Any.unicode_IsUpper Tryd.lays201 (by kernel_rfl) c w hc htab
def Tryd.lays202_ren : Go.Shelf.Ren := ⟨fun | 202 => 11 | 261 => 16 | 311 => 20 | 312 => 21 | n => n, fun | 21 => 21 | 4 => 4 | 51 => 37 | 5 => 5 | 119 => 32 | 0 => 0 | 141 => 39 | 196 => 46 | 193 => 43 | 3 => 3 | 198 => 49 | 49 => 47 | 194 => 44 | 201 => 52 | 226 => 57 | 46 => 36 | 227 => 58 | n => n, fun | 7 => 2 | 10 => 3 | n => n⟩
theorem Tryd.lays202 : Go.Proofs.Lays.n202 Tryd.prog Tryd.lays202_ren := {
  mixed := by kernel_rfl
  f202 := Tryd.func11.trans (congrArg some (by kernel_rfl))
  f261 := Tryd.func16.trans (congrArg some (by kernel_rfl))
  f311 := Tryd.func20.trans (congrArg some (by kernel_rfl))
  f312 := Tryd.func21.trans (congrArg some (by kernel_rfl))
  t0 := Tryd.underlying0
  a0 := Tryd.isAgg0
  z0 := Tryd.sizeOf0
  v0 := Tryd.zeroValue0
  t3 := Tryd.underlying3
  a3 := Tryd.isAgg3
  z3 := Tryd.sizeOf3
  v3 := Tryd.zeroValue3
  t4 := Tryd.underlying4
  a4 := Tryd.isAgg4
  z4 := Tryd.sizeOf4
  v4 := Tryd.zeroValue4
  t5 := Tryd.underlying5
  a5 := Tryd.isAgg5
  z5 := Tryd.sizeOf5
  v5 := Tryd.zeroValue5
  t21 := Tryd.underlying21
  a21 := Tryd.isAgg21
  z21 := Tryd.sizeOf21
  v21 := Tryd.zeroValue21
  t46 := Tryd.underlying36
  a46 := Tryd.isAgg36
  z46 := Tryd.sizeOf36
  v46 := Tryd.zeroValue36
  t49 := Tryd.underlying47
  a49 := Tryd.isAgg47
  z49 := Tryd.sizeOf47
  v49 := Tryd.zeroValue47
  t51 := Tryd.underlying37
  a51 := Tryd.isAgg37
  z51 := Tryd.sizeOf37
  v51 := Tryd.zeroValue37
  t119 := Tryd.underlying32
  a119 := Tryd.isAgg32
  z119 := Tryd.sizeOf32
  t141 := Tryd.underlying39
  a141 := Tryd.isAgg39
  z141 := Tryd.sizeOf39
  v141 := Tryd.zeroValue39
  t193 := Tryd.underlying43
  a193 := Tryd.isAgg43
  z193 := Tryd.sizeOf43
  v193 := Tryd.zeroValue43
  t194 := Tryd.underlying44
  a194 := Tryd.isAgg44
  z194 := Tryd.sizeOf44
  v194 := Tryd.zeroValue44
  t196 := Tryd.underlying46
  a196 := Tryd.isAgg46
  z196 := Tryd.sizeOf46
  v196 := Tryd.zeroValue46
  t198 := Tryd.underlying49
  a198 := Tryd.isAgg49
  z198 := Tryd.sizeOf49
  v198 := Tryd.zeroValue49
  t201 := Tryd.underlying52
  a201 := Tryd.isAgg52
  z201 := Tryd.sizeOf52
  v201 := Tryd.zeroValue52
  t226 := Tryd.underlying57
  a226 := Tryd.isAgg57
  z226 := Tryd.sizeOf57
  v226 := Tryd.zeroValue57
  t227 := Tryd.underlying58
  a227 := Tryd.isAgg58
  z227 := Tryd.sizeOf58
  v227 := Tryd.zeroValue58
  g7 := by kernel_rfl
  g10 := by kernel_rfl }
open Go.RowKit Go.Lib in
theorem Tryd.unicode_IsLower (c : Nat) (w : World) (hc : c < 256) (htab : Lib.TabIs Tryd.prog w "unicode.properties" .u8 Lib.propertiesTab) :
    Calls Tryd.prog 11 #[.int .i32 c] w fun e w' => e = .returned (.bool (Lib.isLowerL c)) ∧ w' = w := Any.unicode_IsLower Tryd.lays202 (by kernel_rfl) c w hc htab
end Go.Proofs
