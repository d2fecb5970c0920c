/-
  DERIVED. GIVEN WITH THE SEED: THE CARDS: each row of YtfolhjdmccbjiaaGreatDoorRows.lean that lists a variable, with what it lists TIED to the program's text (the seventh form; the later family's looks); each row that meets fmt, with fmt's text TOLD by the authors' own Lean function (tested against real Go, not proved from fmt's source: count such statements apart). THE CARD IS WHAT COUNTS. Prove the row's statement (the work); the ties are given (YtfolhjdmccbjiaaGreatDoorTie.lean); close each card by the builder's one call (the guide's Derived/Test/ToyasCard.lean, 'card_holds'). Laid BY PROGRAM, IN A SANDBOX (cutbox-door.mjs). By AI agents, Wed Nov 11 2026. No macro, syntax, notation, axiom, sorry.
-/
import Derived.Test.YtfolhjdmccbjiaaGreatDoorRows
import GoSem.ClaimSeven
namespace Go.Proofs.YtfolhjdmccbjiaaGreatDoor
namespace Rows

/-- THE TIED CARD OF 'laws.FnHtmlCellBack'. -/
def fnHtmlCellBackCard : Claim7 := { stood := { row := fnHtmlCellBackRow, standIns := [], harness := (true, "b35bb521fe72b8efb03aa728ecc5c9ae3f5b3ef81087e768d13bcfc1ad260540"), looks := true }, kinds := [], alts := [], laidByText := true, laidKinds := [.data, .listed, .data, .pinned], laidTests := true, laidLooks := .later }
def FnHtmlCellBackCardSaid : Prop := Claim7.holds Tryz.pinned (.plain (OpenSpec.ofChange fnHtmlCellBackSpec)) fnHtmlCellBackCard

/-- THE SECOND FORM's CARD OF 'laws.FnHtmlCellBack'. -/
def fnHtmlCellBackUptoCard : Claim7 := { stood := { row := fnHtmlCellBackUptoRow, standIns := [], harness := (true, "b35bb521fe72b8efb03aa728ecc5c9ae3f5b3ef81087e768d13bcfc1ad260540"), looks := true }, kinds := [], alts := [], laidByText := true, laidKinds := [.data, .listed, .data, .pinned], laidTests := true, laidLooks := .later }
def FnHtmlCellBackUptoCardSaid : Prop := Claim7.holds Tryz.pinned (.plain (OpenSpec.upto fnHtmlCellBackSpec)) fnHtmlCellBackUptoCard
end Rows
end Go.Proofs.YtfolhjdmccbjiaaGreatDoor
