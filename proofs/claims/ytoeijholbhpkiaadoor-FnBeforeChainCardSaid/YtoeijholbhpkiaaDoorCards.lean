/-
  DERIVED. GIVEN WITH THE SEED: THE CARDS: each row of YtoeijholbhpkiaaDoorRows.lean that lists a variable, with what it lists TIED to the program's text (the seventh form; the later family's looks); each row that meets fmt, with fmt's text TOLD by the authors' own Lean function (tested against real Go, not proved from fmt's source: count such statements apart). THE CARD IS WHAT COUNTS. Prove the row's statement (the work); the ties are given (YtoeijholbhpkiaaDoorTie.lean); close each card by the builder's one call (the guide's Derived/Test/ToyasCard.lean, 'card_holds'). Laid BY PROGRAM, IN A SANDBOX (cutbox-door.mjs). By AI agents, Wed Nov 11 2026. No macro, syntax, notation, axiom, sorry.
-/
import Derived.Test.YtoeijholbhpkiaaDoorRows
import GoSem.ClaimSeven
namespace Go.Proofs.YtoeijholbhpkiaaDoor
namespace Rows

/-- THE TIED CARD OF 'laws.FnBeforeChain'. -/
def fnBeforeChainCard : Claim7 := { stood := { row := fnBeforeChainRow, standIns := [], harness := (true, "07b03f0509064c1c3b067099d54fb027ef2e67d04bd72bfd4f834600695cbabb"), looks := false }, kinds := [], alts := [], laidByText := true, laidKinds := [.data, .pinned, .pinned], laidTests := true, laidLooks := .later }
def FnBeforeChainCardSaid : Prop := Claim7.holds Tryd.pinned (.plain (OpenSpec.ofChange fnBeforeChainSpec)) fnBeforeChainCard

/-- THE SECOND FORM's CARD OF 'laws.FnBeforeChain'. -/
def fnBeforeChainUptoCard : Claim7 := { stood := { row := fnBeforeChainUptoRow, standIns := [], harness := (true, "07b03f0509064c1c3b067099d54fb027ef2e67d04bd72bfd4f834600695cbabb"), looks := false }, kinds := [], alts := [], laidByText := true, laidKinds := [.data, .pinned, .pinned], laidTests := true, laidLooks := .later }
def FnBeforeChainUptoCardSaid : Prop := Claim7.holds Tryd.pinned (.plain (OpenSpec.upto fnBeforeChainSpec)) fnBeforeChainUptoCard
end Rows
end Go.Proofs.YtoeijholbhpkiaaDoor
