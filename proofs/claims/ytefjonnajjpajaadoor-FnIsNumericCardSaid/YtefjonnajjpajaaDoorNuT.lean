/- What a listed table gives the walks: strings.asciiSpace. No conditions. -/
import Derived.Test.YtefjonnajjpajaaDoorRows
import Derived.Test.YtefjonnajjpajaaDoorNuM
import Derived.Lib.LaidTab
import Derived.Lib.LaidU8
namespace Go.Proofs.YtefjonnajjpajaaDoor
set_option linter.unusedVariables false
theorem asciiSpace_eq : (Rows.laid_strings_asciiSpace : DataW Unit) = Lib.tabData .u8 Lib.asciiSpaceTab := by kernel_rfl
theorem spT : (Tryd.prog.globals[0]?).map (·.type) = some 34 := by kernel_rfl
theorem spC : Tryd.prog.cellsOf 34 = 256 := by kernel_rfl
theorem spE : Tryd.prog.cellsOf 5 = 1 := by kernel_rfl
theorem spaces_of {l : List (String × DataW Unit)} {W : World} (h : laidMet Tryd.prog l W) (hm : ("strings.asciiSpace", (Rows.laid_strings_asciiSpace : DataW Unit)) ∈ l) : Spaces W := by
  obtain ⟨g, t, cs, fuel, p, hg, ht, hvar, hd⟩ := Lib.laidMet.reads h hm
  rw [asciiSpace_eq] at hd
  obtain rfl := Option.some.inj (gSpaces.symm.trans hg)
  obtain rfl := Option.some.inj (spT.symm.trans ht)
  unfold Spaces Lib.TabIs
  rw [hvar, ← Lib.cells_of_tab Tryd.underlying34 Tryd.underlying5 spE spC hd]
end Go.Proofs.YtefjonnajjpajaaDoor
