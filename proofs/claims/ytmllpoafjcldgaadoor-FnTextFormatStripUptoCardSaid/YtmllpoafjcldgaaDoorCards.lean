/-
  DERIVED. GIVEN WITH THE SEED: THE CARDS: each row of YtmllpoafjcldgaaDoorRows.lean that lists a variable, with what it lists TIED to the program's text (the seventh form; the later family's looks); each row that meets fmt, with fmt's text TOLD by the authors' own Lean function (tested against real Go, not proved from fmt's source: count such statements apart). THE CARD IS WHAT COUNTS. Prove the row's statement (the work); the ties are given (YtmllpoafjcldgaaDoorTie.lean); close each card by the builder's one call (the guide's Derived/Test/ToyasCard.lean, 'card_holds'). Laid BY PROGRAM, IN A SANDBOX (cutbox-door.mjs). By AI agents, Wed Nov 11 2026. No macro, syntax, notation, axiom, sorry.
-/
import Derived.Test.YtmllpoafjcldgaaDoorRows
import GoSem.ClaimSeven
namespace Go.Proofs.YtmllpoafjcldgaaDoor
namespace Rows

/-- THE TIED CARD OF 'laws.FnTextFormatStrip'. -/
def fnTextFormatStripCard : Claim7 := { stood := { row := fnTextFormatStripRow, standIns := [], harness := (true, "f040921f5e6709f40dfe79c45a3d19ca93c89320254b3f007703bd6570b87095"), looks := false }, kinds := [], alts := [], laidByText := true, laidKinds := [.data, .data, .data, .data, .listed, .data, .pinned, .pinned, .pinned, .pinned], laidTests := true, laidLooks := .later }
def FnTextFormatStripCardSaid : Prop := Claim7.holds Tryd.pinned (.plain (OpenSpec.ofChange fnTextFormatStripSpec)) fnTextFormatStripCard

/-- THE SECOND FORM's CARD OF 'laws.FnTextFormatStrip'. -/
def fnTextFormatStripUptoCard : Claim7 := { stood := { row := fnTextFormatStripUptoRow, standIns := [], harness := (true, "f040921f5e6709f40dfe79c45a3d19ca93c89320254b3f007703bd6570b87095"), looks := false }, kinds := [], alts := [], laidByText := true, laidKinds := [.data, .data, .data, .data, .listed, .data, .pinned, .pinned, .pinned, .pinned], laidTests := true, laidLooks := .later }
def FnTextFormatStripUptoCardSaid : Prop := Claim7.holds Tryd.pinned (.plain (OpenSpec.upto fnTextFormatStripSpec)) fnTextFormatStripUptoCard
end Rows
end Go.Proofs.YtmllpoafjcldgaaDoor
