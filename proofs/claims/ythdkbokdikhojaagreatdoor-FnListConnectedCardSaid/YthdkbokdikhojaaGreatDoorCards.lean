/-
  DERIVED. GIVEN WITH THE SEED: THE CARDS: each row of YthdkbokdikhojaaGreatDoorRows.lean that lists a variable, with what it lists TIED to the program's text (the seventh form; the later family's looks); each row that meets fmt, with fmt's text TOLD by the authors' own Lean function (tested against real Go, not proved from fmt's source: count such statements apart). THE CARD IS WHAT COUNTS. Prove the row's statement (the work); the ties are given (YthdkbokdikhojaaGreatDoorTie.lean); close each card by the builder's one call (the guide's Derived/Test/ToyasCard.lean, 'card_holds'). Laid BY PROGRAM, IN A SANDBOX (cutbox-door.mjs). By AI agents, Wed Nov 11 2026. No macro, syntax, notation, axiom, sorry.
-/
import Derived.Test.YthdkbokdikhojaaGreatDoorRows
import GoSem.ClaimSeven
namespace Go.Proofs.YthdkbokdikhojaaGreatDoor
namespace Rows

/-- THE TIED CARD OF 'laws.FnListConnected'. -/
def fnListConnectedCard : Claim7 := { stood := { row := fnListConnectedRow, standIns := [], harness := (true, "829ec1e578fb6133229012eca0f99f03fb6410d55f31c8934133d187e39e938d"), looks := true }, kinds := [], alts := [], laidByText := true, laidKinds := [.data, .listed, .data, .pinned, .pinned, .pinned, .pinned], laidTests := true, laidLooks := .later }
def FnListConnectedCardSaid : Prop := Claim7.holds Tryz.pinned (.plain (OpenSpec.ofChange fnListConnectedSpec)) fnListConnectedCard

/-- THE SECOND FORM's CARD OF 'laws.FnListConnected'. -/
def fnListConnectedUptoCard : Claim7 := { stood := { row := fnListConnectedUptoRow, standIns := [], harness := (true, "829ec1e578fb6133229012eca0f99f03fb6410d55f31c8934133d187e39e938d"), looks := true }, kinds := [], alts := [], laidByText := true, laidKinds := [.data, .listed, .data, .pinned, .pinned, .pinned, .pinned], laidTests := true, laidLooks := .later }
def FnListConnectedUptoCardSaid : Prop := Claim7.holds Tryz.pinned (.plain (OpenSpec.upto fnListConnectedSpec)) fnListConnectedUptoCard
end Rows
end Go.Proofs.YthdkbokdikhojaaGreatDoor
