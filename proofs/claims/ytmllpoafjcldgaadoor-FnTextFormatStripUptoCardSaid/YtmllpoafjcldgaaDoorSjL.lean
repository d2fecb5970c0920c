/- What a listed table gives the walks: internal/strconv.uint64pow10. No conditions. -/
import Derived.Test.YtmllpoafjcldgaaDoorRows
import Derived.Test.YtmllpoafjcldgaaDoorSjB
import Derived.Lib.LaidTab
import Derived.Lib.LaidU8
namespace Go.Proofs.YtmllpoafjcldgaaDoor
set_option linter.unusedVariables false
theorem pow10_eq : (Rows.laid_internal_strconv_uint64pow10 : DataW Unit) = Lib.tabData .u64 Lib.pow10Tab := by kernel_rfl
theorem poT : (Tryd.prog.globals[5]?).map (·.type) = some 80 := by kernel_rfl
theorem poC : Tryd.prog.cellsOf 80 = 20 := by kernel_rfl
theorem poE : Tryd.prog.cellsOf 65 = 1 := by kernel_rfl
theorem pows_of {l : List (String × DataW Unit)} {W : World} (h : laidMet Tryd.prog l W) (hm : ("internal/strconv.uint64pow10", (Rows.laid_internal_strconv_uint64pow10 : DataW Unit)) ∈ l) : Pows W := by
  obtain ⟨g, t, cs, fuel, p, hg, ht, hvar, hd⟩ := Lib.laidMet.reads h hm
  rw [pow10_eq] at hd
  obtain rfl := Option.some.inj (gPows.symm.trans hg)
  obtain rfl := Option.some.inj (poT.symm.trans ht)
  unfold Pows Lib.TabIs
  rw [hvar, ← Lib.cells_of_tab Tryd.underlying80 Tryd.underlying65 poE poC hd]
end Go.Proofs.YtmllpoafjcldgaaDoor
