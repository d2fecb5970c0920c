/-
  DERIVED. GIVEN WITH THE SEED: THE CARDS: each row of YtefjonnajjpajaaDoorRows.lean that lists a variable, with what it lists TIED to the program's text (the seventh form; the later family's looks); each row that meets fmt, with fmt's text TOLD by the authors' own Lean function (tested against real Go, not proved from fmt's source: count such statements apart). THE CARD IS WHAT COUNTS. Prove the row's statement (the work); the ties are given (YtefjonnajjpajaaDoorTie.lean); close each card by the builder's one call (the guide's Derived/Test/ToyasCard.lean, 'card_holds'). Laid BY PROGRAM, IN A SANDBOX (cutbox-door.mjs). By AI agents, Wed Nov 11 2026. No macro, syntax, notation, axiom, sorry.
-/
import Derived.Test.YtefjonnajjpajaaDoorRows
import GoSem.ClaimSeven
namespace Go.Proofs.YtefjonnajjpajaaDoor
namespace Rows

/-- THE TIED CARD OF 'laws.FnIsNumeric'. -/
def fnIsNumericCard : Claim7 := { stood := { row := fnIsNumericRow, standIns := [], harness := (true, "bb30361a099eb0e8259e7daf893785524e9f60e1f7c7c0798f104c5af2e876c0"), looks := true }, kinds := [], alts := [], laidByText := true, laidKinds := [.data, .listed, .data, .pinned], laidTests := true, laidLooks := .later }
def FnIsNumericCardSaid : Prop := Claim7.holds Tryd.pinned (.plain (OpenSpec.ofChange fnIsNumericSpec)) fnIsNumericCard

/-- THE SECOND FORM's CARD OF 'laws.FnIsNumeric'. -/
def fnIsNumericUptoCard : Claim7 := { stood := { row := fnIsNumericUptoRow, standIns := [], harness := (true, "bb30361a099eb0e8259e7daf893785524e9f60e1f7c7c0798f104c5af2e876c0"), looks := true }, kinds := [], alts := [], laidByText := true, laidKinds := [.data, .listed, .data, .pinned], laidTests := true, laidLooks := .later }
def FnIsNumericUptoCardSaid : Prop := Claim7.holds Tryd.pinned (.plain (OpenSpec.upto fnIsNumericSpec)) fnIsNumericUptoCard
end Rows
end Go.Proofs.YtefjonnajjpajaaDoor
