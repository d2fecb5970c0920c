/- What the listed tables give the walk of FnTextParseString: internal/strconv.uint64pow10, strings.asciiSpace. No conditions. -/
import Derived.Test.YtimdmdjkkgdohaaGreatDoorRows
import Derived.Test.YtimdmdjkkgdohaaGreatDoorPsF
import Derived.Lib.LaidTab
import Derived.Lib.LaidU8
namespace Go.Proofs.YtimdmdjkkgdohaaGreatDoor
set_option linter.unusedVariables false
theorem pow10_eq : (Rows.laid_internal_strconv_uint64pow10 : DataW Unit) = Lib.tabData .u64 Lib.pow10Tab := by kernel_rfl
theorem poT : (Tryz.prog.globals[1]?).map (·.type) = some 116 := by kernel_rfl
theorem poC : Tryz.prog.cellsOf 116 = 20 := by kernel_rfl
theorem poE : Tryz.prog.cellsOf 89 = 1 := by kernel_rfl
theorem pows_of {l : List (String × DataW Unit)} {W : World} (h : laidMet Tryz.prog l W) (hm : ("internal/strconv.uint64pow10", (Rows.laid_internal_strconv_uint64pow10 : DataW Unit)) ∈ l) : Pows W := by
  obtain ⟨g, t, cs, fuel, p, hg, ht, hvar, hd⟩ := Lib.laidMet.reads h hm
  rw [pow10_eq] at hd
  obtain rfl := Option.some.inj (gPows.symm.trans hg)
  obtain rfl := Option.some.inj (poT.symm.trans ht)
  unfold Pows Lib.TabIs
  rw [hvar, ← Lib.cells_of_tab Tryz.underlying116 Tryz.underlying89 poE poC hd]
theorem asciiSpace_eq : (Rows.laid_strings_asciiSpace : DataW Unit) = Lib.tabData .u8 Lib.asciiSpaceTab := by kernel_rfl
theorem spT : (Tryz.prog.globals[0]?).map (·.type) = some 97 := by kernel_rfl
theorem spC : Tryz.prog.cellsOf 97 = 256 := by kernel_rfl
theorem spE : Tryz.prog.cellsOf 5 = 1 := by kernel_rfl
theorem spaces_of {l : List (String × DataW Unit)} {W : World} (h : laidMet Tryz.prog l W) (hm : ("strings.asciiSpace", (Rows.laid_strings_asciiSpace : DataW Unit)) ∈ l) : Spaces W := by
  obtain ⟨g, t, cs, fuel, p, hg, ht, hvar, hd⟩ := Lib.laidMet.reads h hm
  rw [asciiSpace_eq] at hd
  obtain rfl := Option.some.inj (gSpaces.symm.trans hg)
  obtain rfl := Option.some.inj (spT.symm.trans ht)
  unfold Spaces Lib.TabIs
  rw [hvar, ← Lib.cells_of_tab Tryz.underlying97 Tryz.underlying5 spE spC hd]
end Go.Proofs.YtimdmdjkkgdohaaGreatDoor
