/- Contracts of functions of Go's library at this seat's program, laid out of the library of contracts. Their conditions stand in each. -/
import Derived.Shelf.Strings.Builder1
import Derived.Shelf.Strings.Builder2
import Derived.Shelf.Strings.OnBuilder
import Derived.Shelf.Small.Utf8
import Derived.Shelf.Strings.BuilderF
import Derived.Shelf.Strings.BuilderK
import Derived.Shelf.Strings.BuilderRune
import Derived.Shelf.Utf8.AppendRune
import Derived.Shelf.Utf8.AppendRunePlain
import Derived.Shelf.Utf8.RuneCount
import Derived.Shelf.Strings.Builder2Cap
import Derived.Shelf.Strings.Prefix
import Derived.Shelf.Unicode.Latin
import Derived.Shelf.Unicode.Props
import Derived.Shelf.LaysM
import Derived.Shelf.Unicode.PropsLaid
import Derived.Shelf.Unicode.Decode
import Derived.Shelf.Strings.RuneCount
import Derived.Shelf.Bits.Mul64
import Derived.Shelf.Strings.Repeat
import Derived.Shelf.Unicode.DecodeSlow
import Derived.Shelf.Unicode.DecodeAny
import Derived.Shelf.Unicode.Is16White
import Derived.Shelf.Unicode.IsSpaceAny
import Derived.Shelf.Unicode.CaseLookup
import Derived.Shelf.Unicode.CaseConvert
import Derived.Shelf.Unicode.CaseTo
import Derived.Shelf.Unicode.CaseLaid
import Derived.Shelf.Strings.MapAny
import Derived.Shelf.Strings.CaseAny
import Derived.Shelf.Unicode.Is16Any
import Derived.Shelf.Unicode.Is32Any
import Derived.Shelf.Unicode.ExclAny
import Derived.Shelf.Unicode.PredsAny
import Derived.Shelf.Strings.BuilderCap
import Derived.Test.YthdkbokdikhojaaGreatDoorProg
namespace Go.Proofs
open Go.Shelf
def Tryz.lays169_ren : Go.Shelf.Ren := ⟨fun | 169 => 64 | n => n, fun | 70 => 66 | 9 => 9 | 0 => 0 | 72 => 68 | 37 => 57 | 127 => 102 | 3 => 3 | 5 => 5 | n => n, fun | n => n⟩
theorem Tryz.lays169 : Go.Proofs.Lays.n169 Tryz.prog Tryz.lays169_ren := {
  mixed := by kernel_rfl
  f169 := Tryz.func64.trans (congrArg some (by kernel_rfl))
  t0 := Tryz.underlying0
  a0 := Tryz.isAgg0
  z0 := Tryz.sizeOf0
  v0 := Tryz.zeroValue0
  t3 := Tryz.underlying3
  a3 := Tryz.isAgg3
  z3 := Tryz.sizeOf3
  v3 := Tryz.zeroValue3
  t9 := Tryz.underlying9
  a9 := Tryz.isAgg9
  z9 := Tryz.sizeOf9
  v9 := Tryz.zeroValue9
  t37 := Tryz.underlying57
  a37 := Tryz.isAgg57
  z37 := Tryz.sizeOf57
  v37 := Tryz.zeroValue57
  t70 := Tryz.underlying66
  a70 := Tryz.isAgg66
  z70 := Tryz.sizeOf66
  v70 := Tryz.zeroValue66
  t72 := Tryz.underlying68
  a72 := Tryz.isAgg68
  z72 := Tryz.sizeOf68
  v72 := Tryz.zeroValue68
  t127 := Tryz.underlying102
  a127 := Tryz.isAgg102
  z127 := Tryz.sizeOf102
  v127 := Tryz.zeroValue102 }
theorem Tryz.Builder_Extra_169 : Builder.Extra Tryz.prog Tryz.lays169_ren := {
  sizeBuilder := by kernel_rfl
  liesBuilder := by kernel_rfl
  t5 := Tryz.underlying5
  a5 := Tryz.isAgg5
  z5 := Tryz.sizeOf5
  v5 := Tryz.zeroValue5
  infoByte := by kernel_rfl
  cellsByte := by kernel_rfl
  sizeByte := by kernel_rfl
  neB5 := by decide }
def Tryz.lays165_ren : Go.Shelf.Ren := ⟨fun | 165 => 44 | 240 => 54 | 241 => 55 | 276 => 70 | 277 => 71 | n => n, fun | 70 => 66 | 3 => 3 | 0 => 0 | 4 => 4 | 9 => 9 | 20 => 20 | 72 => 68 | 37 => 57 | 164 => 96 | 5 => 5 | n => n, fun | n => n⟩
theorem Tryz.lays165 : Go.Proofs.Lays.n165 Tryz.prog Tryz.lays165_ren := {
  mixed := by kernel_rfl
  f165 := Tryz.func44.trans (congrArg some (by kernel_rfl))
  f240 := Tryz.func54.trans (congrArg some (by kernel_rfl))
  f241 := Tryz.func55.trans (congrArg some (by kernel_rfl))
  f276 := Tryz.func70.trans (congrArg some (by kernel_rfl))
  f277 := Tryz.func71.trans (congrArg some (by kernel_rfl))
  t0 := Tryz.underlying0
  a0 := Tryz.isAgg0
  z0 := Tryz.sizeOf0
  v0 := Tryz.zeroValue0
  t3 := Tryz.underlying3
  a3 := Tryz.isAgg3
  z3 := Tryz.sizeOf3
  v3 := Tryz.zeroValue3
  t4 := Tryz.underlying4
  a4 := Tryz.isAgg4
  z4 := Tryz.sizeOf4
  v4 := Tryz.zeroValue4
  t9 := Tryz.underlying9
  a9 := Tryz.isAgg9
  z9 := Tryz.sizeOf9
  v9 := Tryz.zeroValue9
  t20 := Tryz.underlying20
  a20 := Tryz.isAgg20
  z20 := Tryz.sizeOf20
  v20 := Tryz.zeroValue20
  t37 := Tryz.underlying57
  a37 := Tryz.isAgg57
  z37 := Tryz.sizeOf57
  v37 := Tryz.zeroValue57
  t70 := Tryz.underlying66
  a70 := Tryz.isAgg66
  z70 := Tryz.sizeOf66
  v70 := Tryz.zeroValue66
  t72 := Tryz.underlying68
  a72 := Tryz.isAgg68
  z72 := Tryz.sizeOf68
  v72 := Tryz.zeroValue68
  t164 := Tryz.underlying96
  a164 := Tryz.isAgg96
  z164 := Tryz.sizeOf96
  v164 := Tryz.zeroValue96 }
theorem Tryz.Builder_Extra_165 : Builder.Extra Tryz.prog Tryz.lays165_ren := {
  sizeBuilder := by kernel_rfl
  liesBuilder := by kernel_rfl
  t5 := Tryz.underlying5
  a5 := Tryz.isAgg5
  z5 := Tryz.sizeOf5
  v5 := Tryz.zeroValue5
  infoByte := by kernel_rfl
  cellsByte := by kernel_rfl
  sizeByte := by kernel_rfl
  neB5 := by decide }
open Go.RowKit in
/-- (*strings.Builder).Grow AT A BUILDER THAT HAS NOT BEEN WRITTEN ('var b strings.Builder; b.Grow(n)'): "Grow grows b's capacity, if necessary, to guarantee space for another n bytes.": it holds no byte behind it as before it. (LAID: no walk: one application.) -/
theorem Tryz.Builder_Grow_fresh (B b n : Nat) (w : World) (hB : B ≤ b) (hbk : w.heap[b]? = some (.cells #[.pointer none, .slice none 0 0] 68 (0, 0))) (hBw : B ≤ w.heap.size) (hn : n ≤ 281474976710656) :
    Calls Tryz.prog 44 #[.pointer (some ⟨b, 0, none⟩), .int .i64 n] w fun e w' => e = .returned (.tuple #[]) ∧ (Lib.BuilderAt 68 5 B b (.pointer (some ⟨b, 0, none⟩)) [] w' ∧ Below B w w') := Any.Builder_Grow_fresh Tryz.lays165 Tryz.Builder_Extra_165 B b n w hB hbk hBw hn
open Go.RowKit in
/-- (*strings.Builder).String: "String returns the accumulated string.": WHATEVER THE BUILDER HOLDS; THE FORM '_f': OF A BUILDER THAT MAY HAVE BEEN READ BEFORE; AND IT IS A BUILDER STILL, holding the same bytes: it can be written on. (LAID: no walk: one application.) -/
theorem Tryz.Builder_String_any_f (B b : Nat) (l : List UInt8) (w : World) (h : Lib.IsBuilderF 68 5 B b (Lib.byteCells l) w) (hBw : B ≤ w.heap.size) :
    Calls Tryz.prog 64 #[.pointer (some ⟨b, 0, none⟩)] w fun e w' => e = .returned (.string ⟨l.toArray⟩) ∧ (Lib.IsBuilderF 68 5 B b (Lib.byteCells l) w' ∧ Below B w w') := Any.Builder_String_any_f Tryz.lays169 Tryz.Builder_Extra_169 B b l w h hBw
def Tryz.lays242_ren : Go.Shelf.Ren := ⟨fun | 242 => 72 | 278 => 86 | n => n, fun | 37 => 57 | 21 => 21 | 51 => 106 | 4 => 4 | 5 => 5 | 46 => 92 | n => n, fun | n => n⟩
theorem Tryz.lays242 : Go.Proofs.Lays.n242 Tryz.prog Tryz.lays242_ren := {
  mixed := by kernel_rfl
  f242 := Tryz.func72.trans (congrArg some (by kernel_rfl))
  f278 := Tryz.func86.trans (congrArg some (by kernel_rfl))
  t4 := Tryz.underlying4
  a4 := Tryz.isAgg4
  z4 := Tryz.sizeOf4
  v4 := Tryz.zeroValue4
  t5 := Tryz.underlying5
  a5 := Tryz.isAgg5
  z5 := Tryz.sizeOf5
  v5 := Tryz.zeroValue5
  t21 := Tryz.underlying21
  a21 := Tryz.isAgg21
  z21 := Tryz.sizeOf21
  v21 := Tryz.zeroValue21
  t37 := Tryz.underlying57
  a37 := Tryz.isAgg57
  z37 := Tryz.sizeOf57
  v37 := Tryz.zeroValue57
  t46 := Tryz.underlying92
  a46 := Tryz.isAgg92
  z46 := Tryz.sizeOf92
  v46 := Tryz.zeroValue92
  t51 := Tryz.underlying106
  a51 := Tryz.isAgg106
  z51 := Tryz.sizeOf106
  v51 := Tryz.zeroValue106 }
open Go.RowKit in
/-- unicode/utf8.AppendRune: "AppendRune appends the UTF-8 encoding of r to the end of p and returns the extended buffer. If the rune is out of range, it appends the encoding of RuneError.": ONTO A ROW OF BYTES THAT THE CALL OWNS (its head frozen or not): EVERY int32: 'Lib.runeCells r' goes in behind what the row holds; the world: one new block (the bytes as the call's variadic argument), then what 'append' does to the row. (LAID: no walk: one application.) -/
theorem Tryz.utf8_AppendRune_row (B : Nat) (v : Value) (n : Nat) (xs : List Value) (r : Int) (hr0 : -2147483648 ≤ r) (hr1 : r ≤ 2147483647) (w : World) (hown : w.ownsRowF B 5 1 v n xs) (hlen : n + 4 ≤ 140737488355328) (hBw : B ≤ w.heap.size) :
    Calls Tryz.prog 72 #[v, .int .i32 r] w fun e w' => ∃ v', e = .returned v' ∧ w'.ownsRowF B 5 1 v' (n + (Lib.runeCells r).length) (xs ++ Lib.runeCells r) ∧ ∃ o, (w.alloc o).grownBy w' v.ownBlock := Any.utf8_AppendRune_row Tryz.lays242 (by kernel_rfl) B v n xs r hr0 hr1 w hown hlen hBw
def Tryz.lays195_ren : Go.Shelf.Ren := ⟨fun | 195 => 53 | n => n, fun | 9 => 9 | 3 => 3 | 0 => 0 | 4 => 4 | n => n, fun | n => n⟩
theorem Tryz.lays195 : Go.Proofs.Lays.n195 Tryz.prog Tryz.lays195_ren := {
  mixed := by kernel_rfl
  f195 := Tryz.func53.trans (congrArg some (by kernel_rfl))
  t0 := Tryz.underlying0
  a0 := Tryz.isAgg0
  z0 := Tryz.sizeOf0
  v0 := Tryz.zeroValue0
  t3 := Tryz.underlying3
  a3 := Tryz.isAgg3
  z3 := Tryz.sizeOf3
  v3 := Tryz.zeroValue3
  t4 := Tryz.underlying4
  a4 := Tryz.isAgg4
  z4 := Tryz.sizeOf4
  v4 := Tryz.zeroValue4
  t9 := Tryz.underlying9
  a9 := Tryz.isAgg9
  z9 := Tryz.sizeOf9
  v9 := Tryz.zeroValue9 }
open Go.RowKit in
/-- unicode/utf8.RuneCountInString: "RuneCountInString is like RuneCount but its input is a string." ("RuneCount returns the number of runes in p. Erroneous and short encodings are treated as single runes of width 1 byte."): EVERY STRING, valid UTF-8 or not: 'Lib.runeCount s' (plain Lean over the model's own 'Utf8.decode'; 'Lib.runeCount_le': at most len(s); 'Lib.runeCount_ascii': on ASCII: len(s)). THE ONE CONDITION: len(s) below 2^63 - 1 (the counter does not wrap): the form's reach pays it. THE WORLD BEHIND THE CALL: ONE BLOCK MORE: the model's iterator over s, at its end: all else as it was. (LAID: no walk: one application.) -/
theorem Tryz.utf8_RuneCountInString (s : ByteArray) (w : World) (hs : s.size < 9223372036854775807) :
    Calls Tryz.prog 53 #[.string s] w fun e w' => e = .returned (.int .i64 (Lib.runeCount s)) ∧ ∃ pos, w' = w.iter s pos := Any.utf8_RuneCountInString Tryz.lays195 s w hs
def Tryz.lays105_ren : Go.Shelf.Ren := ⟨fun | 105 => 52 | 212 => 67 | 99 => 68 | 165 => 44 | 166 => 63 | 170 => 69 | 169 => 64 | 263 => 83 | 264 => 84 | 206 => 85 | 240 => 54 | 241 => 55 | 276 => 70 | 277 => 71 | n => n, fun | 9 => 9 | 3 => 3 | 4 => 4 | 20 => 20 | 0 => 0 | 46 => 92 | 109 => 93 | 5 => 5 | 72 => 68 | 76 => 82 | 51 => 106 | 146 => 107 | 53 => 109 | 148 => 110 | 70 => 66 | 37 => 57 | 75 => 81 | 127 => 102 | 164 => 96 | 80 => 53 | n => n, fun | n => n⟩
theorem Tryz.lays105 : Go.Proofs.Lays.n105 Tryz.prog Tryz.lays105_ren := {
  mixed := by kernel_rfl
  f99 := Tryz.func68.trans (congrArg some (by kernel_rfl))
  f105 := Tryz.func52.trans (congrArg some (by kernel_rfl))
  f165 := Tryz.func44.trans (congrArg some (by kernel_rfl))
  f166 := Tryz.func63.trans (congrArg some (by kernel_rfl))
  f169 := Tryz.func64.trans (congrArg some (by kernel_rfl))
  f170 := Tryz.func69.trans (congrArg some (by kernel_rfl))
  f206 := Tryz.func85.trans (congrArg some (by kernel_rfl))
  f212 := Tryz.func67.trans (congrArg some (by kernel_rfl))
  f240 := Tryz.func54.trans (congrArg some (by kernel_rfl))
  f241 := Tryz.func55.trans (congrArg some (by kernel_rfl))
  f263 := Tryz.func83.trans (congrArg some (by kernel_rfl))
  f264 := Tryz.func84.trans (congrArg some (by kernel_rfl))
  f276 := Tryz.func70.trans (congrArg some (by kernel_rfl))
  f277 := Tryz.func71.trans (congrArg some (by kernel_rfl))
  t0 := Tryz.underlying0
  a0 := Tryz.isAgg0
  z0 := Tryz.sizeOf0
  v0 := Tryz.zeroValue0
  t3 := Tryz.underlying3
  a3 := Tryz.isAgg3
  z3 := Tryz.sizeOf3
  v3 := Tryz.zeroValue3
  t4 := Tryz.underlying4
  a4 := Tryz.isAgg4
  z4 := Tryz.sizeOf4
  v4 := Tryz.zeroValue4
  t5 := Tryz.underlying5
  a5 := Tryz.isAgg5
  z5 := Tryz.sizeOf5
  v5 := Tryz.zeroValue5
  t9 := Tryz.underlying9
  a9 := Tryz.isAgg9
  z9 := Tryz.sizeOf9
  v9 := Tryz.zeroValue9
  t20 := Tryz.underlying20
  a20 := Tryz.isAgg20
  z20 := Tryz.sizeOf20
  v20 := Tryz.zeroValue20
  t37 := Tryz.underlying57
  a37 := Tryz.isAgg57
  z37 := Tryz.sizeOf57
  v37 := Tryz.zeroValue57
  t46 := Tryz.underlying92
  a46 := Tryz.isAgg92
  z46 := Tryz.sizeOf92
  v46 := Tryz.zeroValue92
  t51 := Tryz.underlying106
  a51 := Tryz.isAgg106
  z51 := Tryz.sizeOf106
  v51 := Tryz.zeroValue106
  t53 := Tryz.underlying109
  a53 := Tryz.isAgg109
  z53 := Tryz.sizeOf109
  v53 := Tryz.zeroValue109
  t70 := Tryz.underlying66
  a70 := Tryz.isAgg66
  z70 := Tryz.sizeOf66
  v70 := Tryz.zeroValue66
  t72 := Tryz.underlying68
  a72 := Tryz.isAgg68
  z72 := Tryz.sizeOf68
  v72 := Tryz.zeroValue68
  t75 := Tryz.underlying81
  a75 := Tryz.isAgg81
  z75 := Tryz.sizeOf81
  v75 := Tryz.zeroValue81
  t76 := Tryz.underlying82
  a76 := Tryz.isAgg82
  z76 := Tryz.sizeOf82
  v76 := Tryz.zeroValue82
  t109 := Tryz.underlying93
  a109 := Tryz.isAgg93
  z109 := Tryz.sizeOf93
  v109 := Tryz.zeroValue93
  t127 := Tryz.underlying102
  a127 := Tryz.isAgg102
  z127 := Tryz.sizeOf102
  v127 := Tryz.zeroValue102
  t146 := Tryz.underlying107
  a146 := Tryz.isAgg107
  z146 := Tryz.sizeOf107
  v146 := Tryz.zeroValue107
  t148 := Tryz.underlying110
  a148 := Tryz.isAgg110
  z148 := Tryz.sizeOf110
  v148 := Tryz.zeroValue110
  t164 := Tryz.underlying96
  a164 := Tryz.isAgg96
  z164 := Tryz.sizeOf96
  v164 := Tryz.zeroValue96 }
theorem Tryz.Builder_Extra_105 : Builder.Extra Tryz.prog Tryz.lays105_ren := {
  sizeBuilder := by kernel_rfl
  liesBuilder := by kernel_rfl
  t5 := Tryz.underlying5
  a5 := Tryz.isAgg5
  z5 := Tryz.sizeOf5
  v5 := Tryz.zeroValue5
  infoByte := by kernel_rfl
  cellsByte := by kernel_rfl
  sizeByte := by kernel_rfl
  neB5 := by decide }
open Go.RowKit Go.Lib in
/-- **strings.Repeat: count ≥ 0, the result within one allocation: count copies of s.** (LAID: no walk: one application.) -/
theorem Tryz.strings_Repeat (s : ByteArray) (c : Nat) (w : World) (hc : c ≤ 9223372036854775807) (hlen : s.size * c ≤ 140737488355328) :
    Calls Tryz.prog 52 #[.string s, .int .i64 c] w fun e w' => e = .returned (.string ⟨(Lib.repeatL s.data.toList c).toArray⟩) ∧ Below w.heap.size w w' := Any.strings_Repeat Tryz.lays105 Tryz.Builder_Extra_105 s c w hc hlen
end Go.Proofs
