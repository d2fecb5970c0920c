/- Contracts of functions of Go's library at this seat's program, laid out of the library of contracts. Their conditions stand in each. -/
import Derived.Shelf.Strings.Builder1
import Derived.Shelf.Strings.Builder2
import Derived.Shelf.Strings.OnBuilder
import Derived.Shelf.Small.Utf8
import Derived.Shelf.Strings.BuilderF
import Derived.Shelf.Strings.BuilderK
import Derived.Shelf.Strings.BuilderRune
import Derived.Shelf.Utf8.AppendRune
import Derived.Shelf.Utf8.AppendRunePlain
import Derived.Shelf.Strings.Builder2Cap
import Derived.Shelf.Strconv.Itoa0
import Derived.Shelf.Strconv.Itoa1
import Derived.Shelf.LaysM
import Derived.Shelf.Strconv.Itoa2
import Derived.Shelf.Strconv.Itoa3
import Derived.Shelf.Unicode.Latin
import Derived.Shelf.Unicode.Props
import Derived.Shelf.Unicode.PropsLaid
import Derived.Shelf.Unicode.Decode
import Derived.Shelf.Unicode.DecodeSlow
import Derived.Shelf.Unicode.DecodeAny
import Derived.Shelf.Unicode.Is16White
import Derived.Shelf.Unicode.IsSpaceAny
import Derived.Shelf.Unicode.Is16WhiteD
import Derived.Shelf.Unicode.IsSpaceAnyD
import Derived.Shelf.Unicode.CaseLookup
import Derived.Shelf.Unicode.CaseConvert
import Derived.Shelf.Unicode.CaseTo
import Derived.Shelf.Unicode.CaseLaid
import Derived.Shelf.Strings.MapAny
import Derived.Shelf.Strings.CaseAny
import Derived.Shelf.Unicode.Is16Any
import Derived.Shelf.Unicode.Is32Any
import Derived.Shelf.Unicode.ExclAny
import Derived.Shelf.Unicode.PredsAny
import Derived.Shelf.Unicode.PredsPay
import Derived.Shelf.Strings.BuilderCap
import Derived.Shelf.Strings.MapGrows
import Derived.Test.YtmllpoafjcldgaaDoorProg
namespace Go.Proofs
open Go.Shelf
open Go.Shelf
def Tryd.lays169_ren : Go.Shelf.Ren := ⟨fun | 169 => 18 | n => n, fun | 70 => 39 | 9 => 9 | 0 => 0 | 72 => 42 | 37 => 40 | 127 => 49 | 3 => 3 | 5 => 5 | n => n, fun | n => n⟩
theorem Tryd.lays169 : Go.Proofs.Lays.n169 Tryd.prog Tryd.lays169_ren := {
  mixed := by kernel_rfl
  f169 := Tryd.func18.trans (congrArg some (by kernel_rfl))
  t0 := Tryd.underlying0
  a0 := Tryd.isAgg0
  z0 := Tryd.sizeOf0
  v0 := Tryd.zeroValue0
  t3 := Tryd.underlying3
  a3 := Tryd.isAgg3
  z3 := Tryd.sizeOf3
  v3 := Tryd.zeroValue3
  t9 := Tryd.underlying9
  a9 := Tryd.isAgg9
  z9 := Tryd.sizeOf9
  v9 := Tryd.zeroValue9
  t37 := Tryd.underlying40
  a37 := Tryd.isAgg40
  z37 := Tryd.sizeOf40
  v37 := Tryd.zeroValue40
  t70 := Tryd.underlying39
  a70 := Tryd.isAgg39
  z70 := Tryd.sizeOf39
  v70 := Tryd.zeroValue39
  t72 := Tryd.underlying42
  a72 := Tryd.isAgg42
  z72 := Tryd.sizeOf42
  v72 := Tryd.zeroValue42
  t127 := Tryd.underlying49
  a127 := Tryd.isAgg49
  z127 := Tryd.sizeOf49
  v127 := Tryd.zeroValue49 }
theorem Tryd.Builder_Extra_169 : Builder.Extra Tryd.prog Tryd.lays169_ren := {
  sizeBuilder := by kernel_rfl
  liesBuilder := by kernel_rfl
  t5 := Tryd.underlying5
  a5 := Tryd.isAgg5
  z5 := Tryd.sizeOf5
  v5 := Tryd.zeroValue5
  infoByte := by kernel_rfl
  cellsByte := by kernel_rfl
  sizeByte := by kernel_rfl
  neB5 := by decide }
def Tryd.lays165_ren : Go.Shelf.Ren := ⟨fun | 165 => 27 | 240 => 25 | 241 => 39 | 276 => 37 | 277 => 51 | n => n, fun | 70 => 39 | 3 => 3 | 0 => 0 | 4 => 4 | 9 => 9 | 20 => 20 | 72 => 42 | 37 => 40 | 164 => 56 | 5 => 5 | n => n, fun | n => n⟩
theorem Tryd.lays165 : Go.Proofs.Lays.n165 Tryd.prog Tryd.lays165_ren := {
  mixed := by kernel_rfl
  f165 := Tryd.func27.trans (congrArg some (by kernel_rfl))
  f240 := Tryd.func25.trans (congrArg some (by kernel_rfl))
  f241 := Tryd.func39.trans (congrArg some (by kernel_rfl))
  f276 := Tryd.func37.trans (congrArg some (by kernel_rfl))
  f277 := Tryd.func51.trans (congrArg some (by kernel_rfl))
  t0 := Tryd.underlying0
  a0 := Tryd.isAgg0
  z0 := Tryd.sizeOf0
  v0 := Tryd.zeroValue0
  t3 := Tryd.underlying3
  a3 := Tryd.isAgg3
  z3 := Tryd.sizeOf3
  v3 := Tryd.zeroValue3
  t4 := Tryd.underlying4
  a4 := Tryd.isAgg4
  z4 := Tryd.sizeOf4
  v4 := Tryd.zeroValue4
  t9 := Tryd.underlying9
  a9 := Tryd.isAgg9
  z9 := Tryd.sizeOf9
  v9 := Tryd.zeroValue9
  t20 := Tryd.underlying20
  a20 := Tryd.isAgg20
  z20 := Tryd.sizeOf20
  v20 := Tryd.zeroValue20
  t37 := Tryd.underlying40
  a37 := Tryd.isAgg40
  z37 := Tryd.sizeOf40
  v37 := Tryd.zeroValue40
  t70 := Tryd.underlying39
  a70 := Tryd.isAgg39
  z70 := Tryd.sizeOf39
  v70 := Tryd.zeroValue39
  t72 := Tryd.underlying42
  a72 := Tryd.isAgg42
  z72 := Tryd.sizeOf42
  v72 := Tryd.zeroValue42
  t164 := Tryd.underlying56
  a164 := Tryd.isAgg56
  z164 := Tryd.sizeOf56
  v164 := Tryd.zeroValue56 }
theorem Tryd.Builder_Extra_165 : Builder.Extra Tryd.prog Tryd.lays165_ren := {
  sizeBuilder := by kernel_rfl
  liesBuilder := by kernel_rfl
  t5 := Tryd.underlying5
  a5 := Tryd.isAgg5
  z5 := Tryd.sizeOf5
  v5 := Tryd.zeroValue5
  infoByte := by kernel_rfl
  cellsByte := by kernel_rfl
  sizeByte := by kernel_rfl
  neB5 := by decide }
def Tryd.lays159_ren : Go.Shelf.Ren := ⟨fun | 159 => 19 | 165 => 27 | 166 => 28 | 167 => 29 | 169 => 18 | 230 => 30 | 204 => 31 | 240 => 25 | 241 => 39 | 197 => 40 | 118 => 41 | 168 => 17 | 270 => 42 | 262 => 43 | 276 => 37 | 277 => 51 | 260 => 52 | 242 => 26 | 313 => 53 | 278 => 38 | 274 => 60 | 275 => 61 | n => n, fun | 9 => 9 | 4 => 4 | 3 => 3 | 5 => 5 | 72 => 42 | 0 => 0 | 76 => 45 | 75 => 44 | 107 => 54 | 70 => 39 | 20 => 20 | 37 => 40 | 127 => 49 | 21 => 21 | 105 => 59 | 164 => 56 | 162 => 74 | 203 => 72 | 119 => 75 | 46 => 70 | 139 => 85 | 138 => 84 | 51 => 58 | 160 => 86 | 208 => 104 | 206 => 102 | 80 => 47 | n => n, fun | 13 => 0 | 3 => 7 | 4 => 8 | n => n⟩
theorem Tryd.lays159 : Go.Proofs.Lays.n159 Tryd.prog Tryd.lays159_ren := {
  mixed := by kernel_rfl
  f118 := Tryd.func41.trans (congrArg some (by kernel_rfl))
  f159 := Tryd.func19.trans (congrArg some (by kernel_rfl))
  f165 := Tryd.func27.trans (congrArg some (by kernel_rfl))
  f166 := Tryd.func28.trans (congrArg some (by kernel_rfl))
  f167 := Tryd.func29.trans (congrArg some (by kernel_rfl))
  f168 := Tryd.func17.trans (congrArg some (by kernel_rfl))
  f169 := Tryd.func18.trans (congrArg some (by kernel_rfl))
  f197 := Tryd.func40.trans (congrArg some (by kernel_rfl))
  f204 := Tryd.func31.trans (congrArg some (by kernel_rfl))
  f230 := Tryd.func30.trans (congrArg some (by kernel_rfl))
  f240 := Tryd.func25.trans (congrArg some (by kernel_rfl))
  f241 := Tryd.func39.trans (congrArg some (by kernel_rfl))
  f242 := Tryd.func26.trans (congrArg some (by kernel_rfl))
  f260 := Tryd.func52.trans (congrArg some (by kernel_rfl))
  f262 := Tryd.func43.trans (congrArg some (by kernel_rfl))
  f270 := Tryd.func42.trans (congrArg some (by kernel_rfl))
  f274 := Tryd.func60.trans (congrArg some (by kernel_rfl))
  f275 := Tryd.func61.trans (congrArg some (by kernel_rfl))
  f276 := Tryd.func37.trans (congrArg some (by kernel_rfl))
  f277 := Tryd.func51.trans (congrArg some (by kernel_rfl))
  f278 := Tryd.func38.trans (congrArg some (by kernel_rfl))
  f313 := Tryd.func53.trans (congrArg some (by kernel_rfl))
  t0 := Tryd.underlying0
  a0 := Tryd.isAgg0
  z0 := Tryd.sizeOf0
  v0 := Tryd.zeroValue0
  t3 := Tryd.underlying3
  a3 := Tryd.isAgg3
  z3 := Tryd.sizeOf3
  v3 := Tryd.zeroValue3
  t4 := Tryd.underlying4
  a4 := Tryd.isAgg4
  z4 := Tryd.sizeOf4
  v4 := Tryd.zeroValue4
  t5 := Tryd.underlying5
  a5 := Tryd.isAgg5
  z5 := Tryd.sizeOf5
  v5 := Tryd.zeroValue5
  t9 := Tryd.underlying9
  a9 := Tryd.isAgg9
  z9 := Tryd.sizeOf9
  v9 := Tryd.zeroValue9
  t20 := Tryd.underlying20
  a20 := Tryd.isAgg20
  z20 := Tryd.sizeOf20
  v20 := Tryd.zeroValue20
  t21 := Tryd.underlying21
  a21 := Tryd.isAgg21
  z21 := Tryd.sizeOf21
  v21 := Tryd.zeroValue21
  t37 := Tryd.underlying40
  a37 := Tryd.isAgg40
  z37 := Tryd.sizeOf40
  v37 := Tryd.zeroValue40
  t46 := Tryd.underlying70
  a46 := Tryd.isAgg70
  z46 := Tryd.sizeOf70
  v46 := Tryd.zeroValue70
  t51 := Tryd.underlying58
  a51 := Tryd.isAgg58
  z51 := Tryd.sizeOf58
  v51 := Tryd.zeroValue58
  t70 := Tryd.underlying39
  a70 := Tryd.isAgg39
  z70 := Tryd.sizeOf39
  v70 := Tryd.zeroValue39
  t72 := Tryd.underlying42
  a72 := Tryd.isAgg42
  z72 := Tryd.sizeOf42
  v72 := Tryd.zeroValue42
  t75 := Tryd.underlying44
  a75 := Tryd.isAgg44
  z75 := Tryd.sizeOf44
  v75 := Tryd.zeroValue44
  t76 := Tryd.underlying45
  a76 := Tryd.isAgg45
  z76 := Tryd.sizeOf45
  v76 := Tryd.zeroValue45
  t105 := Tryd.underlying59
  a105 := Tryd.isAgg59
  z105 := Tryd.sizeOf59
  v105 := Tryd.zeroValue59
  t107 := Tryd.underlying54
  a107 := Tryd.isAgg54
  z107 := Tryd.sizeOf54
  v107 := Tryd.zeroValue54
  t119 := Tryd.underlying75
  a119 := Tryd.isAgg75
  z119 := Tryd.sizeOf75
  t127 := Tryd.underlying49
  a127 := Tryd.isAgg49
  z127 := Tryd.sizeOf49
  v127 := Tryd.zeroValue49
  t138 := Tryd.underlying84
  a138 := Tryd.isAgg84
  z138 := Tryd.sizeOf84
  v138 := Tryd.zeroValue84
  t139 := Tryd.underlying85
  a139 := Tryd.isAgg85
  z139 := Tryd.sizeOf85
  v139 := Tryd.zeroValue85
  t160 := Tryd.underlying86
  a160 := Tryd.isAgg86
  z160 := Tryd.sizeOf86
  v160 := Tryd.zeroValue86
  t162 := Tryd.underlying74
  a162 := Tryd.isAgg74
  z162 := Tryd.sizeOf74
  v162 := Tryd.zeroValue74
  t164 := Tryd.underlying56
  a164 := Tryd.isAgg56
  z164 := Tryd.sizeOf56
  v164 := Tryd.zeroValue56
  t203 := Tryd.underlying72
  a203 := Tryd.isAgg72
  z203 := Tryd.sizeOf72
  v203 := Tryd.zeroValue72
  t206 := Tryd.underlying102
  a206 := Tryd.isAgg102
  z206 := Tryd.sizeOf102
  v206 := Tryd.zeroValue102
  t208 := Tryd.underlying104
  a208 := Tryd.isAgg104
  z208 := Tryd.sizeOf104
  v208 := Tryd.zeroValue104
  g3 := by kernel_rfl
  g4 := by kernel_rfl
  g13 := by kernel_rfl }
theorem Tryd.Builder_Extra_159 : Builder.Extra Tryd.prog Tryd.lays159_ren := {
  sizeBuilder := by kernel_rfl
  liesBuilder := by kernel_rfl
  t5 := Tryd.underlying5
  a5 := Tryd.isAgg5
  z5 := Tryd.sizeOf5
  v5 := Tryd.zeroValue5
  infoByte := by kernel_rfl
  cellsByte := by kernel_rfl
  sizeByte := by kernel_rfl
  neB5 := by decide }
def Tryd.lays118_ren : Go.Shelf.Ren := ⟨fun | 118 => 41 | n => n, fun | 21 => 21 | 3 => 3 | 4 => 4 | n => n, fun | n => n⟩
theorem Tryd.lays118 : Go.Proofs.Lays.n118 Tryd.prog Tryd.lays118_ren := {
  mixed := by kernel_rfl
  f118 := Tryd.func41.trans (congrArg some (by kernel_rfl))
  t3 := Tryd.underlying3
  a3 := Tryd.isAgg3
  z3 := Tryd.sizeOf3
  v3 := Tryd.zeroValue3
  t4 := Tryd.underlying4
  a4 := Tryd.isAgg4
  z4 := Tryd.sizeOf4
  v4 := Tryd.zeroValue4
  t21 := Tryd.underlying21
  a21 := Tryd.isAgg21
  z21 := Tryd.sizeOf21
  v21 := Tryd.zeroValue21 }
/-- utf8.RuneLen: "RuneLen returns the number of bytes in the UTF-8 encoding of the rune. It returns -1 if the rune is not a valid value to encode in UTF-8.": IT RETURNS 'Lib.runeLen r'; the world is as it was. (LAID: no walk: one application.) -/
theorem Tryd.utf8_RuneLen (r : Int) (w : World) :
    Calls Tryd.prog 41 #[.int .i32 r] w fun e w' => e = .returned (.int .i64 (Lib.runeLen r)) ∧ w' = w := Any.utf8_RuneLen Tryd.lays118 r w
open Go.RowKit in
/-- (*strings.Builder).String: "String returns the accumulated string.": WHATEVER THE BUILDER HOLDS; THE FORM '_f': OF A BUILDER THAT MAY HAVE BEEN READ BEFORE; AND IT IS A BUILDER STILL, holding the same bytes: it can be written on. (LAID: no walk: one application.) -/
theorem Tryd.Builder_String_any_f (B b : Nat) (l : List UInt8) (w : World) (h : Lib.IsBuilderF 42 5 B b (Lib.byteCells l) w) (hBw : B ≤ w.heap.size) :
    Calls Tryd.prog 18 #[.pointer (some ⟨b, 0, none⟩)] w fun e w' => e = .returned (.string ⟨l.toArray⟩) ∧ (Lib.IsBuilderF 42 5 B b (Lib.byteCells l) w' ∧ Below B w w') := Any.Builder_String_any_f Tryd.lays169 Tryd.Builder_Extra_169 B b l w h hBw
def Tryd.lays242_ren : Go.Shelf.Ren := ⟨fun | 242 => 26 | 278 => 38 | n => n, fun | 37 => 40 | 21 => 21 | 51 => 58 | 4 => 4 | 5 => 5 | 46 => 70 | n => n, fun | n => n⟩
theorem Tryd.lays242 : Go.Proofs.Lays.n242 Tryd.prog Tryd.lays242_ren := {
  mixed := by kernel_rfl
  f242 := Tryd.func26.trans (congrArg some (by kernel_rfl))
  f278 := Tryd.func38.trans (congrArg some (by kernel_rfl))
  t4 := Tryd.underlying4
  a4 := Tryd.isAgg4
  z4 := Tryd.sizeOf4
  v4 := Tryd.zeroValue4
  t5 := Tryd.underlying5
  a5 := Tryd.isAgg5
  z5 := Tryd.sizeOf5
  v5 := Tryd.zeroValue5
  t21 := Tryd.underlying21
  a21 := Tryd.isAgg21
  z21 := Tryd.sizeOf21
  v21 := Tryd.zeroValue21
  t37 := Tryd.underlying40
  a37 := Tryd.isAgg40
  z37 := Tryd.sizeOf40
  v37 := Tryd.zeroValue40
  t46 := Tryd.underlying70
  a46 := Tryd.isAgg70
  z46 := Tryd.sizeOf70
  v46 := Tryd.zeroValue70
  t51 := Tryd.underlying58
  a51 := Tryd.isAgg58
  z51 := Tryd.sizeOf58
  v51 := Tryd.zeroValue58 }
open Go.RowKit in
/-- unicode/utf8.AppendRune: "AppendRune appends the UTF-8 encoding of r to the end of p and returns the extended buffer. If the rune is out of range, it appends the encoding of RuneError.": ONTO A ROW OF BYTES THAT THE CALL OWNS (its head frozen or not): EVERY int32: 'Lib.runeCells r' goes in behind what the row holds; the world: one new block (the bytes as the call's variadic argument), then what 'append' does to the row. (LAID: no walk: one application.) -/
theorem Tryd.utf8_AppendRune_row (B : Nat) (v : Value) (n : Nat) (xs : List Value) (r : Int) (hr0 : -2147483648 ≤ r) (hr1 : r ≤ 2147483647) (w : World) (hown : w.ownsRowF B 5 1 v n xs) (hlen : n + 4 ≤ 140737488355328) (hBw : B ≤ w.heap.size) :
    Calls Tryd.prog 26 #[v, .int .i32 r] w fun e w' => ∃ v', e = .returned v' ∧ w'.ownsRowF B 5 1 v' (n + (Lib.runeCells r).length) (xs ++ Lib.runeCells r) ∧ ∃ o, (w.alloc o).grownBy w' v.ownBlock := Any.utf8_AppendRune_row Tryd.lays242 (by kernel_rfl) B v n xs r hr0 hr1 w hown hlen hBw
open Go.RowKit in
/-- (*strings.Builder).Grow AT A BUILDER THAT HAS NOT BEEN WRITTEN ('var b strings.Builder; b.Grow(n)'): "Grow grows b's capacity, if necessary, to guarantee space for another n bytes.": it holds no byte behind it as before it. (LAID: no walk: one application.) -/
theorem Tryd.Builder_Grow_fresh_cap (B b n : Nat) (w : World) (hB : B ≤ b) (hbk : w.heap[b]? = some (.cells #[.pointer none, .slice none 0 0] 42 (0, 0))) (hBw : B ≤ w.heap.size) (hn : n ≤ 281474976710656) :
    Calls Tryd.prog 27 #[.pointer (some ⟨b, 0, none⟩), .int .i64 n] w fun e w' => e = .returned (.tuple #[]) ∧ (Lib.BuilderAt 42 5 B b (.pointer (some ⟨b, 0, none⟩)) [] w' ∧ Below B w w') ∧ ∃ p cap, w'.cell? ⟨b, 1, none⟩ = some (.slice p 0 cap) ∧ n ≤ cap := Any.Builder_Grow_fresh_cap Tryd.lays165 Tryd.Builder_Extra_165 B b n w hB hbk hBw hn
def Tryd.laysM171_ren : Go.Shelf.Ren := ⟨fun | 171 => 15 | 243 => 22 | 246 => 36 | 283 => 47 | 284 => 48 | 285 => 49 | 286 => 50 | 129 => 56 | 317 => 55 | 318 => 57 | 319 => 58 | 320 => 59 | 337 => 64 | 338 => 65 | n => n, fun | 3 => 3 | 9 => 9 | 2 => 2 | 4 => 4 | 171 => 64 | 0 => 0 | 53 => 65 | 37 => 40 | 5 => 5 | 173 => 68 | 212 => 80 | 51 => 58 | 20 => 20 | 213 => 81 | 46 => 70 | 232 => 107 | 233 => 108 | n => n, fun | 17 => 5 | 18 => 9 | 19 => 10 | n => n⟩
theorem Tryd.laysM171 : Go.Proofs.LaysM.n171 Tryd.prog Tryd.laysM171_ren := {
  mixed := by kernel_rfl
  f129 := Tryd.func56.trans (congrArg some (by kernel_rfl))
  f171 := Tryd.func15.trans (congrArg some (by kernel_rfl))
  f243 := Tryd.func22.trans (congrArg some (by kernel_rfl))
  f246 := Tryd.func36.trans (congrArg some (by kernel_rfl))
  f283 := Tryd.func47.trans (congrArg some (by kernel_rfl))
  f284 := Tryd.func48.trans (congrArg some (by kernel_rfl))
  f285 := Tryd.func49.trans (congrArg some (by kernel_rfl))
  f286 := Tryd.func50.trans (congrArg some (by kernel_rfl))
  f317 := Tryd.func55.trans (congrArg some (by kernel_rfl))
  f318 := Tryd.func57.trans (congrArg some (by kernel_rfl))
  f319 := Tryd.func58.trans (congrArg some (by kernel_rfl))
  f320 := Tryd.func59.trans (congrArg some (by kernel_rfl))
  f337 := Tryd.func64.trans (congrArg some (by kernel_rfl))
  f338 := Tryd.func65.trans (congrArg some (by kernel_rfl))
  t0 := Tryd.underlying0
  a0 := Tryd.isAgg0
  z0 := Tryd.sizeOf0
  v0 := Tryd.zeroValue0
  t2 := Tryd.underlying2
  a2 := Tryd.isAgg2
  z2 := Tryd.sizeOf2
  v2 := Tryd.zeroValue2
  t3 := Tryd.underlying3
  a3 := Tryd.isAgg3
  z3 := Tryd.sizeOf3
  v3 := Tryd.zeroValue3
  t4 := Tryd.underlying4
  a4 := Tryd.isAgg4
  z4 := Tryd.sizeOf4
  v4 := Tryd.zeroValue4
  t5 := Tryd.underlying5
  a5 := Tryd.isAgg5
  z5 := Tryd.sizeOf5
  v5 := Tryd.zeroValue5
  t9 := Tryd.underlying9
  a9 := Tryd.isAgg9
  z9 := Tryd.sizeOf9
  v9 := Tryd.zeroValue9
  t20 := Tryd.underlying20
  a20 := Tryd.isAgg20
  z20 := Tryd.sizeOf20
  v20 := Tryd.zeroValue20
  t37 := Tryd.underlying40
  a37 := Tryd.isAgg40
  z37 := Tryd.sizeOf40
  v37 := Tryd.zeroValue40
  t46 := Tryd.underlying70
  a46 := Tryd.isAgg70
  z46 := Tryd.sizeOf70
  v46 := Tryd.zeroValue70
  t51 := Tryd.underlying58
  a51 := Tryd.isAgg58
  z51 := Tryd.sizeOf58
  v51 := Tryd.zeroValue58
  t53 := Tryd.underlying65
  a53 := Tryd.isAgg65
  z53 := Tryd.sizeOf65
  v53 := Tryd.zeroValue65
  t171 := Tryd.underlying64
  a171 := Tryd.isAgg64
  z171 := Tryd.sizeOf64
  v171 := Tryd.zeroValue64
  t173 := Tryd.underlying68
  a173 := Tryd.isAgg68
  z173 := Tryd.sizeOf68
  v173 := Tryd.zeroValue68
  t212 := Tryd.underlying80
  a212 := Tryd.isAgg80
  z212 := Tryd.sizeOf80
  v212 := Tryd.zeroValue80
  t213 := Tryd.underlying81
  a213 := Tryd.isAgg81
  z213 := Tryd.sizeOf81
  t232 := Tryd.underlying107
  a232 := Tryd.isAgg107
  z232 := Tryd.sizeOf107
  v232 := Tryd.zeroValue107
  t233 := Tryd.underlying108
  a233 := Tryd.isAgg108
  z233 := Tryd.sizeOf108
  v233 := Tryd.zeroValue108
  g17 := by kernel_rfl
  g18 := by kernel_rfl
  g19 := by kernel_rfl
  i0 := by kernel_rfl
  i2 := by kernel_rfl
  i3 := by kernel_rfl
  i4 := by kernel_rfl
  i5 := by kernel_rfl
  i9 := by kernel_rfl
  i20 := by kernel_rfl
  i37 := by kernel_rfl
  i46 := by kernel_rfl
  i51 := by kernel_rfl
  i53 := by kernel_rfl
  i171 := by kernel_rfl
  i173 := by kernel_rfl
  i212 := by kernel_rfl
  i232 := by kernel_rfl
  i233 := by kernel_rfl
  m17 := by kernel_rfl
  m18 := by kernel_rfl
  m19 := by kernel_rfl }
open Go.RowKit Go.Sort Go.Lib in
/-- strconv.Itoa: "Itoa is equivalent to FormatInt(int64(i), 10).": i's DECIMAL NUMERAL ('Lib.itoa': a '-' where i is negative, then the digits), FOR EVERY int. The world behind the call: the world before it, new blocks behind the heap (the library's 'var a [24]byte'), draws. (LAID: no walk: one application.) -/
theorem Tryd.strconv_Itoa (n : Int) (h0 : -9223372036854775808 ≤ n) (h1 : n ≤ 9223372036854775807) (w : World) (htab : Lib.TabIs Tryd.prog w "internal/strconv.uint64pow10" .u64 Lib.pow10Tab) :
    Calls Tryd.prog 15 #[.int .i64 n] w fun e w' => e = .returned (.string ⟨(Lib.itoa n).toArray⟩) ∧ ∃ k os, w' = grow (w.drewN k) os := Any.strconv_Itoa Tryd.laysM171 n h0 h1 w htab
def Tryd.lays203_ren : Go.Shelf.Ren := ⟨fun | 203 => 34 | 262 => 43 | 313 => 53 | 274 => 60 | 275 => 61 | n => n, fun | 21 => 21 | 4 => 4 | 3 => 3 | 162 => 74 | 203 => 72 | 160 => 86 | 46 => 70 | 0 => 0 | 208 => 104 | 51 => 58 | 206 => 102 | n => n, fun | 13 => 0 | n => n⟩
theorem Tryd.lays203 : Go.Proofs.Lays.n203 Tryd.prog Tryd.lays203_ren := {
  mixed := by kernel_rfl
  f203 := Tryd.func34.trans (congrArg some (by kernel_rfl))
  f262 := Tryd.func43.trans (congrArg some (by kernel_rfl))
  f274 := Tryd.func60.trans (congrArg some (by kernel_rfl))
  f275 := Tryd.func61.trans (congrArg some (by kernel_rfl))
  f313 := Tryd.func53.trans (congrArg some (by kernel_rfl))
  t0 := Tryd.underlying0
  a0 := Tryd.isAgg0
  z0 := Tryd.sizeOf0
  v0 := Tryd.zeroValue0
  t3 := Tryd.underlying3
  a3 := Tryd.isAgg3
  z3 := Tryd.sizeOf3
  v3 := Tryd.zeroValue3
  t4 := Tryd.underlying4
  a4 := Tryd.isAgg4
  z4 := Tryd.sizeOf4
  v4 := Tryd.zeroValue4
  t21 := Tryd.underlying21
  a21 := Tryd.isAgg21
  z21 := Tryd.sizeOf21
  v21 := Tryd.zeroValue21
  t46 := Tryd.underlying70
  a46 := Tryd.isAgg70
  z46 := Tryd.sizeOf70
  v46 := Tryd.zeroValue70
  t51 := Tryd.underlying58
  a51 := Tryd.isAgg58
  z51 := Tryd.sizeOf58
  v51 := Tryd.zeroValue58
  t160 := Tryd.underlying86
  a160 := Tryd.isAgg86
  z160 := Tryd.sizeOf86
  v160 := Tryd.zeroValue86
  t162 := Tryd.underlying74
  a162 := Tryd.isAgg74
  z162 := Tryd.sizeOf74
  v162 := Tryd.zeroValue74
  t203 := Tryd.underlying72
  a203 := Tryd.isAgg72
  z203 := Tryd.sizeOf72
  v203 := Tryd.zeroValue72
  t206 := Tryd.underlying102
  a206 := Tryd.isAgg102
  z206 := Tryd.sizeOf102
  v206 := Tryd.zeroValue102
  t208 := Tryd.underlying104
  a208 := Tryd.isAgg104
  z208 := Tryd.sizeOf104
  v208 := Tryd.zeroValue104
  g13 := by kernel_rfl }
open Go.RowKit Go.Lib in
theorem Tryd.unicode_ToUpper_laid (r : Int) (w : World) (hV : CaseVar 0 caseA w) :
    Calls Tryd.prog 34 #[.int .i32 r] w fun e w' => e = .returned (.int .i32 (toUpperU r)) ∧ ∃ q, w' = w.drewN q := Any.unicode_ToUpper_laid Tryd.lays203 r w hV
def Tryd.lays270_ren : Go.Shelf.Ren := ⟨fun | 270 => 42 | n => n, fun | 70 => 39 | 3 => 3 | 0 => 0 | 72 => 42 | 37 => 40 | 5 => 5 | n => n, fun | n => n⟩
theorem Tryd.lays270 : Go.Proofs.Lays.n270 Tryd.prog Tryd.lays270_ren := {
  mixed := by kernel_rfl
  f270 := Tryd.func42.trans (congrArg some (by kernel_rfl))
  t0 := Tryd.underlying0
  a0 := Tryd.isAgg0
  z0 := Tryd.sizeOf0
  v0 := Tryd.zeroValue0
  t3 := Tryd.underlying3
  a3 := Tryd.isAgg3
  z3 := Tryd.sizeOf3
  v3 := Tryd.zeroValue3
  t37 := Tryd.underlying40
  a37 := Tryd.isAgg40
  z37 := Tryd.sizeOf40
  v37 := Tryd.zeroValue40
  t70 := Tryd.underlying39
  a70 := Tryd.isAgg39
  z70 := Tryd.sizeOf39
  v70 := Tryd.zeroValue39
  t72 := Tryd.underlying42
  a72 := Tryd.isAgg42
  z72 := Tryd.sizeOf42
  v72 := Tryd.zeroValue42 }
open Go.RowKit Go.Lib in
/-- (*strings.Builder).Cap: "Cap returns the capacity of the builder's underlying byte slice." (LAID: no walk: one application.) -/
theorem Tryd.Builder_Cap_cell (b : Nat) (p : Option Addr) (n cap : Nat) (w : World) (c1 : w.cell? ⟨b, 1, none⟩ = some (.slice p n cap)) :
    Calls Tryd.prog 42 #[.pointer (some ⟨b, 0, none⟩)] w fun e w' => e = .returned (.int .i64 cap) ∧ w' = w := Any.Builder_Cap_cell Tryd.lays270 b p n cap w c1
open Go.RowKit Go.Lib in
/-- **strings.ToLower AT EVERY STRING, VALID UTF-8 OR NOT.** (LAID: no walk: one application.) -/
theorem Tryd.strings_ToLower_any (s : ByteArray) (w : World) (hs : s.size < 35184372088832) (hV : CaseVar 0 caseA w) (hT : Lib.Utf8Tabs 7 8 w) :
    Calls Tryd.prog 19 #[.string s] w fun e w' => e = .returned (.string ⟨(Lib.toLowerD s.data.toList).toArray⟩) ∧ Below w.heap.size w w' := Any.strings_ToLower_any Tryd.lays159 Tryd.Builder_Extra_159 s w hs hV hT
end Go.Proofs
