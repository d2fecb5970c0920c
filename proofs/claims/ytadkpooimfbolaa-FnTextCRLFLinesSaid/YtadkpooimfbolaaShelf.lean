/- Contracts of functions of Go's library at this seat's program, laid out of the library of contracts. Their conditions stand in each. -/
import Derived.Shelf.Strings.Builder1
import Derived.Shelf.Strings.Builder2
import Derived.Shelf.Strings.OnBuilder
import Derived.Shelf.Strings.BuilderF
import Derived.Shelf.Strings.BuilderK
import Derived.Shelf.Utf8.RuneCount
import Derived.Shelf.Strings.Prefix
import Derived.Shelf.Bits.Mul64
import Derived.Shelf.Strings.Repeat
import Derived.Test.YtadkpooimfbolaaProg
namespace Go.Proofs
open Go.Shelf
def Try.lays156_ren : Go.Shelf.Ren := ⟨fun | 156 => 31 | 165 => 43 | 166 => 44 | 169 => 45 | 240 => 53 | 241 => 54 | 276 => 71 | 277 => 72 | n => n, fun | 31 => 24 | 9 => 9 | 3 => 3 | 4 => 4 | 0 => 0 | 20 => 20 | 72 => 70 | 76 => 74 | 70 => 68 | 37 => 46 | 75 => 73 | 127 => 86 | 164 => 107 | 5 => 5 | 80 => 76 | n => n, fun | n => n⟩
theorem Try.lays156 : Go.Proofs.Lays.n156 Try.prog Try.lays156_ren := {
  mixed := by kernel_rfl
  f156 := Try.func31.trans (congrArg some (by kernel_rfl))
  f165 := Try.func43.trans (congrArg some (by kernel_rfl))
  f166 := Try.func44.trans (congrArg some (by kernel_rfl))
  f169 := Try.func45.trans (congrArg some (by kernel_rfl))
  f240 := Try.func53.trans (congrArg some (by kernel_rfl))
  f241 := Try.func54.trans (congrArg some (by kernel_rfl))
  f276 := Try.func71.trans (congrArg some (by kernel_rfl))
  f277 := Try.func72.trans (congrArg some (by kernel_rfl))
  t0 := Try.underlying0
  a0 := Try.isAgg0
  z0 := Try.sizeOf0
  v0 := Try.zeroValue0
  t3 := Try.underlying3
  a3 := Try.isAgg3
  z3 := Try.sizeOf3
  v3 := Try.zeroValue3
  t4 := Try.underlying4
  a4 := Try.isAgg4
  z4 := Try.sizeOf4
  v4 := Try.zeroValue4
  t9 := Try.underlying9
  a9 := Try.isAgg9
  z9 := Try.sizeOf9
  v9 := Try.zeroValue9
  t20 := Try.underlying20
  a20 := Try.isAgg20
  z20 := Try.sizeOf20
  v20 := Try.zeroValue20
  t31 := Try.underlying24
  a31 := Try.isAgg24
  z31 := Try.sizeOf24
  v31 := Try.zeroValue24
  t37 := Try.underlying46
  a37 := Try.isAgg46
  z37 := Try.sizeOf46
  v37 := Try.zeroValue46
  t70 := Try.underlying68
  a70 := Try.isAgg68
  z70 := Try.sizeOf68
  v70 := Try.zeroValue68
  t72 := Try.underlying70
  a72 := Try.isAgg70
  z72 := Try.sizeOf70
  v72 := Try.zeroValue70
  t75 := Try.underlying73
  a75 := Try.isAgg73
  z75 := Try.sizeOf73
  v75 := Try.zeroValue73
  t76 := Try.underlying74
  a76 := Try.isAgg74
  z76 := Try.sizeOf74
  v76 := Try.zeroValue74
  t127 := Try.underlying86
  a127 := Try.isAgg86
  z127 := Try.sizeOf86
  v127 := Try.zeroValue86
  t164 := Try.underlying107
  a164 := Try.isAgg107
  z164 := Try.sizeOf107
  v164 := Try.zeroValue107 }
theorem Try.Builder_Extra_156 : Builder.Extra Try.prog Try.lays156_ren := {
  sizeBuilder := by kernel_rfl
  liesBuilder := by kernel_rfl
  t5 := Try.underlying5
  a5 := Try.isAgg5
  z5 := Try.sizeOf5
  v5 := Try.zeroValue5
  infoByte := by kernel_rfl
  cellsByte := by kernel_rfl
  sizeByte := by kernel_rfl
  neB5 := by decide }
open Go.RowKit in
/-- No element: the empty string; the world is as it was. (Whatever the slice's address and capacity: a nil slice too.) (LAID: no walk: one application.) -/
theorem Try.strings_Join_none (a : Option Addr) (c : Nat) (sep : ByteArray) (w : World) :
    Calls Try.prog 31 #[.slice a 0 c, .string sep] w fun e w' => e = .returned (.string ⟨#[]⟩) ∧ w' = w := Any.strings_Join_none Try.lays156 Try.Builder_Extra_156 a c sep w
open Go.RowKit in
/-- strings.Join: "Join concatenates the elements of its first argument to create a single string. The separator string sep is placed between elements in the resulting string.": HOWEVER MANY ELEMENTS. Below the heap's end the world is as it was. (LAID: no walk: one application.) -/
theorem Try.strings_Join (bk o c : Nat) (xs : List ByteArray) (sep : ByteArray) (w : World) (hcells : ∀ (j : Nat) x, xs[j]? = some x → w.cell? ⟨bk, o + j, none⟩ = some (.string x)) (hbk : bk < w.heap.size) (hN : xs.length ≤ 140737488355328) (hcap : xs.length ≤ c) (hlen : (Lib.join (xs.map (·.data.toList)) sep.data.toList).length ≤ 140737488355328) :
    Calls Try.prog 31 #[.slice (some ⟨bk, o, none⟩) xs.length c, .string sep] w fun e w' => e = .returned (.string ⟨(Lib.join (xs.map (·.data.toList)) sep.data.toList).toArray⟩) ∧ Below w.heap.size w w' := Any.strings_Join Try.lays156 Try.Builder_Extra_156 bk o c xs sep w hcells hbk hN hcap hlen
def Try.lays195_ren : Go.Shelf.Ren := ⟨fun | 195 => 57 | n => n, fun | 9 => 9 | 3 => 3 | 0 => 0 | 4 => 4 | n => n, fun | n => n⟩
theorem Try.lays195 : Go.Proofs.Lays.n195 Try.prog Try.lays195_ren := {
  mixed := by kernel_rfl
  f195 := Try.func57.trans (congrArg some (by kernel_rfl))
  t0 := Try.underlying0
  a0 := Try.isAgg0
  z0 := Try.sizeOf0
  v0 := Try.zeroValue0
  t3 := Try.underlying3
  a3 := Try.isAgg3
  z3 := Try.sizeOf3
  v3 := Try.zeroValue3
  t4 := Try.underlying4
  a4 := Try.isAgg4
  z4 := Try.sizeOf4
  v4 := Try.zeroValue4
  t9 := Try.underlying9
  a9 := Try.isAgg9
  z9 := Try.sizeOf9
  v9 := Try.zeroValue9 }
open Go.RowKit in
/-- unicode/utf8.RuneCountInString: "RuneCountInString is like RuneCount but its input is a string." ("RuneCount returns the number of runes in p. Erroneous and short encodings are treated as single runes of width 1 byte."): EVERY STRING, valid UTF-8 or not: 'Lib.runeCount s' (plain Lean over the model's own 'Utf8.decode'; 'Lib.runeCount_le': at most len(s); 'Lib.runeCount_ascii': on ASCII: len(s)). THE ONE CONDITION: len(s) below 2^63 - 1 (the counter does not wrap): the form's reach pays it. THE WORLD BEHIND THE CALL: ONE BLOCK MORE: the model's iterator over s, at its end: all else as it was. (LAID: no walk: one application.) -/
theorem Try.utf8_RuneCountInString (s : ByteArray) (w : World) (hs : s.size < 9223372036854775807) :
    Calls Try.prog 57 #[.string s] w fun e w' => e = .returned (.int .i64 (Lib.runeCount s)) ∧ ∃ pos, w' = w.iter s pos := Any.utf8_RuneCountInString Try.lays195 s w hs
def Try.lays105_ren : Go.Shelf.Ren := ⟨fun | 105 => 56 | 212 => 74 | 99 => 75 | 165 => 43 | 166 => 44 | 170 => 76 | 169 => 45 | 263 => 86 | 264 => 87 | 206 => 88 | 240 => 53 | 241 => 54 | 276 => 71 | 277 => 72 | n => n, fun | 9 => 9 | 3 => 3 | 4 => 4 | 20 => 20 | 0 => 0 | 46 => 111 | 109 => 112 | 5 => 5 | 72 => 70 | 76 => 74 | 51 => 92 | 146 => 119 | 53 => 91 | 148 => 121 | 70 => 68 | 37 => 46 | 75 => 73 | 127 => 86 | 164 => 107 | 80 => 76 | n => n, fun | n => n⟩
theorem Try.lays105 : Go.Proofs.Lays.n105 Try.prog Try.lays105_ren := {
  mixed := by kernel_rfl
  f99 := Try.func75.trans (congrArg some (by kernel_rfl))
  f105 := Try.func56.trans (congrArg some (by kernel_rfl))
  f165 := Try.func43.trans (congrArg some (by kernel_rfl))
  f166 := Try.func44.trans (congrArg some (by kernel_rfl))
  f169 := Try.func45.trans (congrArg some (by kernel_rfl))
  f170 := Try.func76.trans (congrArg some (by kernel_rfl))
  f206 := Try.func88.trans (congrArg some (by kernel_rfl))
  f212 := Try.func74.trans (congrArg some (by kernel_rfl))
  f240 := Try.func53.trans (congrArg some (by kernel_rfl))
  f241 := Try.func54.trans (congrArg some (by kernel_rfl))
  f263 := Try.func86.trans (congrArg some (by kernel_rfl))
  f264 := Try.func87.trans (congrArg some (by kernel_rfl))
  f276 := Try.func71.trans (congrArg some (by kernel_rfl))
  f277 := Try.func72.trans (congrArg some (by kernel_rfl))
  t0 := Try.underlying0
  a0 := Try.isAgg0
  z0 := Try.sizeOf0
  v0 := Try.zeroValue0
  t3 := Try.underlying3
  a3 := Try.isAgg3
  z3 := Try.sizeOf3
  v3 := Try.zeroValue3
  t4 := Try.underlying4
  a4 := Try.isAgg4
  z4 := Try.sizeOf4
  v4 := Try.zeroValue4
  t5 := Try.underlying5
  a5 := Try.isAgg5
  z5 := Try.sizeOf5
  v5 := Try.zeroValue5
  t9 := Try.underlying9
  a9 := Try.isAgg9
  z9 := Try.sizeOf9
  v9 := Try.zeroValue9
  t20 := Try.underlying20
  a20 := Try.isAgg20
  z20 := Try.sizeOf20
  v20 := Try.zeroValue20
  t37 := Try.underlying46
  a37 := Try.isAgg46
  z37 := Try.sizeOf46
  v37 := Try.zeroValue46
  t46 := Try.underlying111
  a46 := Try.isAgg111
  z46 := Try.sizeOf111
  v46 := Try.zeroValue111
  t51 := Try.underlying92
  a51 := Try.isAgg92
  z51 := Try.sizeOf92
  v51 := Try.zeroValue92
  t53 := Try.underlying91
  a53 := Try.isAgg91
  z53 := Try.sizeOf91
  v53 := Try.zeroValue91
  t70 := Try.underlying68
  a70 := Try.isAgg68
  z70 := Try.sizeOf68
  v70 := Try.zeroValue68
  t72 := Try.underlying70
  a72 := Try.isAgg70
  z72 := Try.sizeOf70
  v72 := Try.zeroValue70
  t75 := Try.underlying73
  a75 := Try.isAgg73
  z75 := Try.sizeOf73
  v75 := Try.zeroValue73
  t76 := Try.underlying74
  a76 := Try.isAgg74
  z76 := Try.sizeOf74
  v76 := Try.zeroValue74
  t109 := Try.underlying112
  a109 := Try.isAgg112
  z109 := Try.sizeOf112
  v109 := Try.zeroValue112
  t127 := Try.underlying86
  a127 := Try.isAgg86
  z127 := Try.sizeOf86
  v127 := Try.zeroValue86
  t146 := Try.underlying119
  a146 := Try.isAgg119
  z146 := Try.sizeOf119
  v146 := Try.zeroValue119
  t148 := Try.underlying121
  a148 := Try.isAgg121
  z148 := Try.sizeOf121
  v148 := Try.zeroValue121
  t164 := Try.underlying107
  a164 := Try.isAgg107
  z164 := Try.sizeOf107
  v164 := Try.zeroValue107 }
theorem Try.Builder_Extra_105 : Builder.Extra Try.prog Try.lays105_ren := {
  sizeBuilder := by kernel_rfl
  liesBuilder := by kernel_rfl
  t5 := Try.underlying5
  a5 := Try.isAgg5
  z5 := Try.sizeOf5
  v5 := Try.zeroValue5
  infoByte := by kernel_rfl
  cellsByte := by kernel_rfl
  sizeByte := by kernel_rfl
  neB5 := by decide }
open Go.RowKit Go.Lib in
/-- **strings.Repeat: count ≥ 0, the result within one allocation: count copies of s.** (LAID: no walk: one application.) -/
theorem Try.strings_Repeat (s : ByteArray) (c : Nat) (w : World) (hc : c ≤ 9223372036854775807) (hlen : s.size * c ≤ 140737488355328) :
    Calls Try.prog 56 #[.string s, .int .i64 c] w fun e w' => e = .returned (.string ⟨(Lib.repeatL s.data.toList c).toArray⟩) ∧ Below w.heap.size w w' := Any.strings_Repeat Try.lays105 Try.Builder_Extra_105 s c w hc hlen
end Go.Proofs
