/-
  DERIVED. GIVEN WITH THE SEED: THE CARDS: each row of YtgjbpjkepdbnkaaDoorRows.lean that lists a variable, with what it lists TIED to the program's text (the seventh form; the later family's looks); each row that meets fmt, with fmt's text TOLD by the authors' own Lean function (tested against real Go, not proved from fmt's source: count such statements apart). THE CARD IS WHAT COUNTS. Prove the row's statement (the work); the ties are given (YtgjbpjkepdbnkaaDoorTie.lean); close each card by the builder's one call (the guide's Derived/Test/ToyasCard.lean, 'card_holds'). Laid BY PROGRAM, IN A SANDBOX (cutbox-door.mjs). By AI agents, Wed Nov 11 2026. No macro, syntax, notation, axiom, sorry.
-/
import Derived.Test.YtgjbpjkepdbnkaaDoorRows
import GoSem.ClaimSeven
namespace Go.Proofs.YtgjbpjkepdbnkaaDoor
namespace Rows

/-- THE TIED CARD OF 'laws.FnWrapSplit'. -/
def fnWrapSplitCard : Claim7 := { stood := { row := fnWrapSplitRow, standIns := [], harness := (true, "ac1c782f1b9a9c1997e510077242cf59db9c7b5d2be70698f683f06eabeaec7c"), looks := false }, kinds := [], alts := [], laidByText := true, laidKinds := [.listed], laidTests := true, laidLooks := .later }
def FnWrapSplitCardSaid : Prop := Claim7.holds Tryd.pinned (.plain (OpenSpec.ofChange fnWrapSplitSpec)) fnWrapSplitCard

/-- THE SECOND FORM's CARD OF 'laws.FnWrapSplit'. -/
def fnWrapSplitUptoCard : Claim7 := { stood := { row := fnWrapSplitUptoRow, standIns := [], harness := (true, "ac1c782f1b9a9c1997e510077242cf59db9c7b5d2be70698f683f06eabeaec7c"), looks := false }, kinds := [], alts := [], laidByText := true, laidKinds := [.listed], laidTests := true, laidLooks := .later }
def FnWrapSplitUptoCardSaid : Prop := Claim7.holds Tryd.pinned (.plain (OpenSpec.upto fnWrapSplitSpec)) fnWrapSplitUptoCard
end Rows
end Go.Proofs.YtgjbpjkepdbnkaaDoor
