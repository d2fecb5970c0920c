/- What the listed tables give the walk of FnTextFormatStrip. No conditions. -/
import Derived.Test.YtmllpoafjcldgaaDoorRows
import Derived.Test.YtmllpoafjcldgaaDoorFsA
import Derived.Test.YtmllpoafjcldgaaDoorSjL
import Derived.Lib.LaidU8
import Derived.Lib.LaidCase
import Derived.PinnedBridge
namespace Go.Proofs.YtmllpoafjcldgaaDoor
open Go.RowKit Go.Lib
set_option linter.unusedVariables false
theorem accept_eq : (Rows.laid_unicode_utf8_acceptRanges : DataW Unit) = acceptData := by kernel_rfl
theorem first_eq : (Rows.laid_unicode_utf8_first : DataW Unit) = firstData := Pinned.utf8First_eq
theorem case_eq : (Rows.laid_unicode_CaseRanges : DataW Unit) = caseData := Pinned.caseRanges_eq
theorem tabs_of {l : List (String × DataW Unit)} {W : World} (h : laidMet Tryd.prog l W) (m1 : ("unicode/utf8.acceptRanges", (Rows.laid_unicode_utf8_acceptRanges : DataW Unit)) ∈ l) (m2 : ("unicode.CaseRanges", (Rows.laid_unicode_CaseRanges : DataW Unit)) ∈ l) (m3 : ("unicode/utf8.first", (Rows.laid_unicode_utf8_first : DataW Unit)) ∈ l) : Tabs W :=
  ⟨caseVar_of_reads { Tryd.lays159 with } Tryd.lays159.t206 ⟨by kernel_rfl, by kernel_rfl, by kernel_rfl, by kernel_rfl, by kernel_rfl, by kernel_rfl⟩ (case_eq ▸ laidMet.reads h m2),
    utf8Tabs_of_reads { Tryd.lays159 with } ⟨by kernel_rfl, by kernel_rfl, by kernel_rfl, by kernel_rfl, by kernel_rfl, by kernel_rfl, by kernel_rfl⟩ (first_eq ▸ laidMet.reads h m3) (accept_eq ▸ laidMet.reads h m1)⟩
end Go.Proofs.YtmllpoafjcldgaaDoor
