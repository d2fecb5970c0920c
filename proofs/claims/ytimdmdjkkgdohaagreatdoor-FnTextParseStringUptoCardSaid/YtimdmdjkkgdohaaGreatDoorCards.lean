/-
  DERIVED. GIVEN WITH THE SEED: THE CARDS: each row of YtimdmdjkkgdohaaGreatDoorRows.lean that lists a variable, with what it lists TIED to the program's text (the seventh form; the later family's looks); each row that meets fmt, with fmt's text TOLD by the authors' own Lean function (tested against real Go, not proved from fmt's source: count such statements apart). THE CARD IS WHAT COUNTS. Prove the row's statement (the work); the ties are given (YtimdmdjkkgdohaaGreatDoorTie.lean); close each card by the builder's one call (the guide's Derived/Test/ToyasCard.lean, 'card_holds'). Laid BY PROGRAM, IN A SANDBOX (cutbox-door.mjs). By AI agents, Wed Nov 11 2026. No macro, syntax, notation, axiom, sorry.
-/
import Derived.Test.YtimdmdjkkgdohaaGreatDoorRows
import GoSem.ClaimSeven
namespace Go.Proofs.YtimdmdjkkgdohaaGreatDoor
namespace Rows

/-- THE TIED CARD OF 'laws.FnTextParseString'. -/
def fnTextParseStringCard : Claim7 := { stood := { row := fnTextParseStringRow, standIns := [], harness := (true, "0c085f662c3198fcef652caaee44e385b43030ff31f68a51e1910481574a841e"), looks := true }, kinds := [], alts := [], laidByText := true, laidKinds := [.data, .data, .data, .data, .listed, .data, .pinned], laidTests := true, laidLooks := .later }
def FnTextParseStringCardSaid : Prop := Claim7.holds Tryz.pinned (.plain (OpenSpec.ofChange fnTextParseStringSpec)) fnTextParseStringCard

/-- THE SECOND FORM's CARD OF 'laws.FnTextParseString'. -/
def fnTextParseStringUptoCard : Claim7 := { stood := { row := fnTextParseStringUptoRow, standIns := [], harness := (true, "0c085f662c3198fcef652caaee44e385b43030ff31f68a51e1910481574a841e"), looks := true }, kinds := [], alts := [], laidByText := true, laidKinds := [.data, .data, .data, .data, .listed, .data, .pinned], laidTests := true, laidLooks := .later }
def FnTextParseStringUptoCardSaid : Prop := Claim7.holds Tryz.pinned (.plain (OpenSpec.upto fnTextParseStringSpec)) fnTextParseStringUptoCard
end Rows
end Go.Proofs.YtimdmdjkkgdohaaGreatDoor
