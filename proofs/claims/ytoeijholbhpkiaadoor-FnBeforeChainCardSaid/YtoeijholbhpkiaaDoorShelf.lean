/- Contracts of functions of Go's library at this seat's program, laid out of the library of contracts. Their conditions stand in each. -/
import Derived.Shelf.Strings.Builder1
import Derived.Shelf.Strings.Builder2
import Derived.Shelf.Strings.OnBuilder
import Derived.Shelf.Small.Utf8
import Derived.Shelf.Strings.BuilderF
import Derived.Shelf.Strings.BuilderK
import Derived.Shelf.Strings.BuilderRune
import Derived.Shelf.Utf8.AppendRune
import Derived.Shelf.Utf8.AppendRunePlain
import Derived.Shelf.Strings.Builder2Cap
import Derived.Shelf.Unicode.Latin
import Derived.Shelf.Unicode.Decode
import Derived.Shelf.Unicode.DecodeSlow
import Derived.Shelf.Unicode.DecodeAny
import Derived.Shelf.Unicode.CaseLookup
import Derived.Shelf.Unicode.CaseConvert
import Derived.Shelf.Unicode.CaseTo
import Derived.Shelf.Unicode.CaseLaid
import Derived.Shelf.Strings.MapAny
import Derived.Shelf.Strings.CaseAny
import Derived.Shelf.Strings.BuilderCap
import Derived.Test.YtoeijholbhpkiaaDoorProg
namespace Go.Proofs
open Go.Shelf
def Tryd.lays159_ren : Go.Shelf.Ren := ⟨fun | 159 => 11 | 165 => 14 | 166 => 15 | 167 => 16 | 169 => 17 | 230 => 18 | 204 => 19 | 240 => 29 | 241 => 30 | 197 => 31 | 118 => 32 | 168 => 33 | 270 => 34 | 262 => 35 | 276 => 45 | 277 => 46 | 260 => 47 | 242 => 48 | 313 => 49 | 278 => 53 | 274 => 54 | 275 => 55 | n => n, fun | 9 => 9 | 4 => 4 | 3 => 3 | 5 => 5 | 72 => 41 | 0 => 0 | 76 => 43 | 75 => 34 | 107 => 48 | 70 => 38 | 20 => 20 | 37 => 39 | 127 => 67 | 21 => 21 | 105 => 68 | 164 => 84 | 162 => 90 | 203 => 88 | 119 => 94 | 46 => 77 | 139 => 97 | 138 => 96 | 51 => 52 | 160 => 98 | 208 => 105 | 206 => 103 | 80 => 46 | n => n, fun | 13 => 1 | 3 => 3 | 4 => 4 | n => n⟩
theorem Tryd.lays159 : Go.Proofs.Lays.n159 Tryd.prog Tryd.lays159_ren := {
  mixed := by kernel_rfl
  f118 := Tryd.func32.trans (congrArg some (by kernel_rfl))
  f159 := Tryd.func11.trans (congrArg some (by kernel_rfl))
  f165 := Tryd.func14.trans (congrArg some (by kernel_rfl))
  f166 := Tryd.func15.trans (congrArg some (by kernel_rfl))
  f167 := Tryd.func16.trans (congrArg some (by kernel_rfl))
  f168 := Tryd.func33.trans (congrArg some (by kernel_rfl))
  f169 := Tryd.func17.trans (congrArg some (by kernel_rfl))
  f197 := Tryd.func31.trans (congrArg some (by kernel_rfl))
  f204 := Tryd.func19.trans (congrArg some (by kernel_rfl))
  f230 := Tryd.func18.trans (congrArg some (by kernel_rfl))
  f240 := Tryd.func29.trans (congrArg some (by kernel_rfl))
  f241 := Tryd.func30.trans (congrArg some (by kernel_rfl))
  f242 := Tryd.func48.trans (congrArg some (by kernel_rfl))
  f260 := Tryd.func47.trans (congrArg some (by kernel_rfl))
  f262 := Tryd.func35.trans (congrArg some (by kernel_rfl))
  f270 := Tryd.func34.trans (congrArg some (by kernel_rfl))
  f274 := Tryd.func54.trans (congrArg some (by kernel_rfl))
  f275 := Tryd.func55.trans (congrArg some (by kernel_rfl))
  f276 := Tryd.func45.trans (congrArg some (by kernel_rfl))
  f277 := Tryd.func46.trans (congrArg some (by kernel_rfl))
  f278 := Tryd.func53.trans (congrArg some (by kernel_rfl))
  f313 := Tryd.func49.trans (congrArg some (by kernel_rfl))
  t0 := Tryd.underlying0
  a0 := Tryd.isAgg0
  z0 := Tryd.sizeOf0
  v0 := Tryd.zeroValue0
  t3 := Tryd.underlying3
  a3 := Tryd.isAgg3
  z3 := Tryd.sizeOf3
  v3 := Tryd.zeroValue3
  t4 := Tryd.underlying4
  a4 := Tryd.isAgg4
  z4 := Tryd.sizeOf4
  v4 := Tryd.zeroValue4
  t5 := Tryd.underlying5
  a5 := Tryd.isAgg5
  z5 := Tryd.sizeOf5
  v5 := Tryd.zeroValue5
  t9 := Tryd.underlying9
  a9 := Tryd.isAgg9
  z9 := Tryd.sizeOf9
  v9 := Tryd.zeroValue9
  t20 := Tryd.underlying20
  a20 := Tryd.isAgg20
  z20 := Tryd.sizeOf20
  v20 := Tryd.zeroValue20
  t21 := Tryd.underlying21
  a21 := Tryd.isAgg21
  z21 := Tryd.sizeOf21
  v21 := Tryd.zeroValue21
  t37 := Tryd.underlying39
  a37 := Tryd.isAgg39
  z37 := Tryd.sizeOf39
  v37 := Tryd.zeroValue39
  t46 := Tryd.underlying77
  a46 := Tryd.isAgg77
  z46 := Tryd.sizeOf77
  v46 := Tryd.zeroValue77
  t51 := Tryd.underlying52
  a51 := Tryd.isAgg52
  z51 := Tryd.sizeOf52
  v51 := Tryd.zeroValue52
  t70 := Tryd.underlying38
  a70 := Tryd.isAgg38
  z70 := Tryd.sizeOf38
  v70 := Tryd.zeroValue38
  t72 := Tryd.underlying41
  a72 := Tryd.isAgg41
  z72 := Tryd.sizeOf41
  v72 := Tryd.zeroValue41
  t75 := Tryd.underlying34
  a75 := Tryd.isAgg34
  z75 := Tryd.sizeOf34
  v75 := Tryd.zeroValue34
  t76 := Tryd.underlying43
  a76 := Tryd.isAgg43
  z76 := Tryd.sizeOf43
  v76 := Tryd.zeroValue43
  t105 := Tryd.underlying68
  a105 := Tryd.isAgg68
  z105 := Tryd.sizeOf68
  v105 := Tryd.zeroValue68
  t107 := Tryd.underlying48
  a107 := Tryd.isAgg48
  z107 := Tryd.sizeOf48
  v107 := Tryd.zeroValue48
  t119 := Tryd.underlying94
  a119 := Tryd.isAgg94
  z119 := Tryd.sizeOf94
  t127 := Tryd.underlying67
  a127 := Tryd.isAgg67
  z127 := Tryd.sizeOf67
  v127 := Tryd.zeroValue67
  t138 := Tryd.underlying96
  a138 := Tryd.isAgg96
  z138 := Tryd.sizeOf96
  v138 := Tryd.zeroValue96
  t139 := Tryd.underlying97
  a139 := Tryd.isAgg97
  z139 := Tryd.sizeOf97
  v139 := Tryd.zeroValue97
  t160 := Tryd.underlying98
  a160 := Tryd.isAgg98
  z160 := Tryd.sizeOf98
  v160 := Tryd.zeroValue98
  t162 := Tryd.underlying90
  a162 := Tryd.isAgg90
  z162 := Tryd.sizeOf90
  v162 := Tryd.zeroValue90
  t164 := Tryd.underlying84
  a164 := Tryd.isAgg84
  z164 := Tryd.sizeOf84
  v164 := Tryd.zeroValue84
  t203 := Tryd.underlying88
  a203 := Tryd.isAgg88
  z203 := Tryd.sizeOf88
  v203 := Tryd.zeroValue88
  t206 := Tryd.underlying103
  a206 := Tryd.isAgg103
  z206 := Tryd.sizeOf103
  v206 := Tryd.zeroValue103
  t208 := Tryd.underlying105
  a208 := Tryd.isAgg105
  z208 := Tryd.sizeOf105
  v208 := Tryd.zeroValue105
  g3 := by kernel_rfl
  g4 := by kernel_rfl
  g13 := by kernel_rfl }
theorem Tryd.Builder_Extra_159 : Builder.Extra Tryd.prog Tryd.lays159_ren := {
  sizeBuilder := by kernel_rfl
  liesBuilder := by kernel_rfl
  t5 := Tryd.underlying5
  a5 := Tryd.isAgg5
  z5 := Tryd.sizeOf5
  v5 := Tryd.zeroValue5
  infoByte := by kernel_rfl
  cellsByte := by kernel_rfl
  sizeByte := by kernel_rfl
  neB5 := by decide }
open Go.RowKit Go.Lib in
/-- **strings.ToLower AT EVERY STRING, VALID UTF-8 OR NOT.** (LAID: no walk: one application.) -/
theorem Tryd.strings_ToLower_any (s : ByteArray) (w : World) (hs : s.size < 35184372088832) (hV : CaseVar 1 caseA w) (hT : Lib.Utf8Tabs 3 4 w) :
    Calls Tryd.prog 11 #[.string s] w fun e w' => e = .returned (.string ⟨(Lib.toLowerD s.data.toList).toArray⟩) ∧ Below w.heap.size w w' := Any.strings_ToLower_any Tryd.lays159 Tryd.Builder_Extra_159 s w hs hV hT
end Go.Proofs
