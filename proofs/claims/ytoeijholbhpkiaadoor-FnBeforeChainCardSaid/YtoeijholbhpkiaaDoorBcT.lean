/- What the listed tables give the walk of FnBeforeChain: what strings.ToLower answers. No conditions. -/
import Derived.Test.YtoeijholbhpkiaaDoorRows
import Derived.Test.YtoeijholbhpkiaaDoorBcL
import Derived.Test.YtoeijholbhpkiaaDoorShelf
import Derived.Lib.LaidU8
import Derived.Lib.LaidCase
import Derived.PinnedBridge
namespace Go.Proofs.YtoeijholbhpkiaaDoor
open Go.RowKit Go.Lib
set_option linter.unusedVariables false
theorem case_below {g : Nat} {T : Array CaseRow} {w w' : World} (h : CaseVar g T w) (hb : Below w.heap.size w w') : CaseVar g T w' := by
  have lt : ∀ {a : Addr} {v : Value}, w.cell? a = some v → a.block < w.heap.size := fun {a v} hc => by
    rcases Nat.lt_or_ge a.block w.heap.size with h' | h'
    · exact h'
    · simp [World.cell?, Array.getElem?_eq_none h'] at hc
  obtain ⟨R, oR, cap, h1, h2⟩ := h
  refine ⟨R, oR, cap, (hb.cell (lt h1)).trans h1, fun i hi => ?_⟩
  obtain ⟨a1, a2, a3, a4, a5⟩ := h2 i hi
  exact ⟨(hb.cell (lt a1)).trans a1, (hb.cell (lt a2)).trans a2, (hb.cell (lt a3)).trans a3, (hb.cell (lt a4)).trans a4, (hb.cell (lt a5)).trans a5⟩
def lo (s : ByteArray) : ByteArray := ⟨(toLowerD s.data.toList).toArray⟩
theorem low_ok {w : World} (hV : CaseVar (Tryd.lays159_ren.g 13) caseA w) (hT : Utf8Tabs (Tryd.lays159_ren.g 3) (Tryd.lays159_ren.g 4) w) : LowOk lo w := fun W hb s hs =>
  Tryd.strings_ToLower_any s W (by omega) (case_below hV hb) (Utf8Tabs_below hT hb)
theorem accept_eq : (Rows.laid_unicode_utf8_acceptRanges : DataW Unit) = acceptData := by kernel_rfl
theorem first_eq : (Rows.laid_unicode_utf8_first : DataW Unit) = firstData := Pinned.utf8First_eq
theorem case_eq : (Rows.laid_unicode_CaseRanges : DataW Unit) = caseData := Pinned.caseRanges_eq
theorem low_of {l : List (String × DataW Unit)} {W : World} (h : laidMet Tryd.prog l W) (m1 : ("unicode/utf8.acceptRanges", (Rows.laid_unicode_utf8_acceptRanges : DataW Unit)) ∈ l) (m2 : ("unicode.CaseRanges", (Rows.laid_unicode_CaseRanges : DataW Unit)) ∈ l) (m3 : ("unicode/utf8.first", (Rows.laid_unicode_utf8_first : DataW Unit)) ∈ l) : LowOk lo W :=
  low_ok (caseVar_of_reads { Tryd.lays159 with } Tryd.lays159.t206 ⟨by kernel_rfl, by kernel_rfl, by kernel_rfl, by kernel_rfl, by kernel_rfl, by kernel_rfl⟩ (case_eq ▸ laidMet.reads h m2))
    (utf8Tabs_of_reads { Tryd.lays159 with } ⟨by kernel_rfl, by kernel_rfl, by kernel_rfl, by kernel_rfl, by kernel_rfl, by kernel_rfl, by kernel_rfl⟩ (first_eq ▸ laidMet.reads h m3) (accept_eq ▸ laidMet.reads h m1))
theorem lawBcR (a b c : ByteArray) (fold : Bool) (w : World) (_ : a.size ≤ 140737488351232) (_ : b.size ≤ 140737488351232) (_ : c.size ≤ 140737488351232) (hL : LowOk lo w) : Calls Tryd.prog 3 #[.string a, .string b, .string c, .bool fold] w fun e w' => e = .returned (.bool true) ∧ Below w.heap.size w w' := lawBc lo a b c fold w hL
end Go.Proofs.YtoeijholbhpkiaaDoor
