/-
  DERIVED. GIVEN WITH THE SEED: THE CARDS: each row of YtilkcnoooecngaaGreatDoorRows.lean that lists a variable, with what it lists TIED to the program's text (the seventh form; the later family's looks); each row that meets fmt, with fmt's text TOLD by the authors' own Lean function (tested against real Go, not proved from fmt's source: count such statements apart). THE CARD IS WHAT COUNTS. Prove the row's statement (the work); the ties are given (YtilkcnoooecngaaGreatDoorTie.lean); close each card by the builder's one call (the guide's Derived/Test/ToyasCard.lean, 'card_holds'). Laid BY PROGRAM, IN A SANDBOX (cutbox-door.mjs). By AI agents, Wed Nov 11 2026. No macro, syntax, notation, axiom, sorry.
-/
import Derived.Test.YtilkcnoooecngaaGreatDoorRows
import GoSem.ClaimSeven
namespace Go.Proofs.YtilkcnoooecngaaGreatDoor
namespace Rows

/-- THE TIED CARD OF 'laws.FnBeforeTurned'. -/
def fnBeforeTurnedCard : Claim7 := { stood := { row := fnBeforeTurnedRow, standIns := [], harness := (true, "387370fe08e5694e0bbaf3768cbbaec9d3754b63a94e644b0a3715f8950d8422"), looks := true }, kinds := [], alts := [], laidByText := true, laidKinds := [.data, .data, .widerDeep, .widerDeep, .data, .data, .data, .data, .data, .data, .sentinel, .sentinel, .pinned, .pinned, .pinned, .pinned], laidTests := true, laidLooks := .later }
def FnBeforeTurnedCardSaid : Prop := Claim7.holds Tryz.pinned (.plain (OpenSpec.ofChange fnBeforeTurnedSpec)) fnBeforeTurnedCard

/-- THE SECOND FORM's CARD OF 'laws.FnBeforeTurned'. -/
def fnBeforeTurnedUptoCard : Claim7 := { stood := { row := fnBeforeTurnedUptoRow, standIns := [], harness := (true, "387370fe08e5694e0bbaf3768cbbaec9d3754b63a94e644b0a3715f8950d8422"), looks := true }, kinds := [], alts := [], laidByText := true, laidKinds := [.data, .data, .widerDeep, .widerDeep, .data, .data, .data, .data, .data, .data, .sentinel, .sentinel, .pinned, .pinned, .pinned, .pinned], laidTests := true, laidLooks := .later }
def FnBeforeTurnedUptoCardSaid : Prop := Claim7.holds Tryz.pinned (.plain (OpenSpec.upto fnBeforeTurnedSpec)) fnBeforeTurnedUptoCard
end Rows
end Go.Proofs.YtilkcnoooecngaaGreatDoor
