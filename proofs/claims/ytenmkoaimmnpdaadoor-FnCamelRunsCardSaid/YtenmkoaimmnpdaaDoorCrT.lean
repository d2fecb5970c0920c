/- What the listed tables give the walk of FnCamelRuns. No conditions. -/
import Derived.Test.YtenmkoaimmnpdaaDoorRows
import Derived.Test.YtenmkoaimmnpdaaDoorCrL
import Derived.Lib.LaidTab
import Derived.Lib.LaidU8
namespace Go.Proofs.YtenmkoaimmnpdaaDoor
set_option linter.unusedVariables false
theorem asciiSpace_eq : (Rows.laid_strings_asciiSpace : DataW Unit) = Lib.tabData .u8 Lib.asciiSpaceTab := by kernel_rfl
theorem properties_eq : (Rows.laid_unicode_properties : DataW Unit) = Lib.tabData .u8 Lib.propertiesTab := by kernel_rfl
theorem spT : (Tryd.prog.globals[6]?).map (·.type) = some 32 := by kernel_rfl
theorem prT : (Tryd.prog.globals[2]?).map (·.type) = some 32 := by kernel_rfl
theorem spC256 : Tryd.prog.cellsOf 32 = 256 := by kernel_rfl
theorem spE : Tryd.prog.cellsOf 5 = 1 := by kernel_rfl
theorem spaces_of {l : List (String × DataW Unit)} {W : World} (h : laidMet Tryd.prog l W) (hm : ("strings.asciiSpace", (Rows.laid_strings_asciiSpace : DataW Unit)) ∈ l) : Spaces W := by
  obtain ⟨g, t, cs, fuel, p, hg, ht, hvar, hd⟩ := Lib.laidMet.reads h hm
  rw [asciiSpace_eq] at hd
  obtain rfl := Option.some.inj (gSpaces.symm.trans hg)
  obtain rfl := Option.some.inj (spT.symm.trans ht)
  unfold Spaces Lib.TabIs
  rw [hvar, ← Lib.cells_of_tab Tryd.underlying32 Tryd.underlying5 spE spC256 hd]
theorem props_of {l : List (String × DataW Unit)} {W : World} (h : laidMet Tryd.prog l W) (hm : ("unicode.properties", (Rows.laid_unicode_properties : DataW Unit)) ∈ l) : Props W := by
  obtain ⟨g, t, cs, fuel, p, hg, ht, hvar, hd⟩ := Lib.laidMet.reads h hm
  rw [properties_eq] at hd
  obtain rfl := Option.some.inj (gProps.symm.trans hg)
  obtain rfl := Option.some.inj (prT.symm.trans ht)
  unfold Props Lib.TabIs
  rw [hvar, ← Lib.cells_of_tab Tryd.underlying32 Tryd.underlying5 spE spC256 hd]
end Go.Proofs.YtenmkoaimmnpdaaDoor
