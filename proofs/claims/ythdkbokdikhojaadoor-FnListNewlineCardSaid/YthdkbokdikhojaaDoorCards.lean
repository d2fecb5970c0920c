/-
  DERIVED. GIVEN WITH THE SEED: THE CARDS: each row of YthdkbokdikhojaaDoorRows.lean that lists a variable, with what it lists TIED to the program's text (the seventh form; the later family's looks); each row that meets fmt, with fmt's text TOLD by the authors' own Lean function (tested against real Go, not proved from fmt's source: count such statements apart). THE CARD IS WHAT COUNTS. Prove the row's statement (the work); the ties are given (YthdkbokdikhojaaDoorTie.lean); close each card by the builder's one call (the guide's Derived/Test/ToyasCard.lean, 'card_holds'). Laid BY PROGRAM, IN A SANDBOX (cutbox-door.mjs). By AI agents, Wed Nov 11 2026. No macro, syntax, notation, axiom, sorry.
-/
import Derived.Test.YthdkbokdikhojaaDoorRows
import GoSem.ClaimSeven
namespace Go.Proofs.YthdkbokdikhojaaDoor
namespace Rows

/-- THE TIED CARD OF 'laws.FnListDrawn'. -/
def fnListDrawnCard : Claim7 := { stood := { row := fnListDrawnRow, standIns := [], harness := (true, "98e5670e3da4563cf49f1e2b19639872cfd8e8f3e88e03b19da0d59fad0b34bd"), looks := true }, kinds := [], alts := [], laidByText := true, laidKinds := [.data, .listed, .data, .pinned, .pinned, .pinned, .pinned], laidTests := true, laidLooks := .later }
def FnListDrawnCardSaid : Prop := Claim7.holds Tryd.pinned (.plain (OpenSpec.ofChange fnListDrawnSpec)) fnListDrawnCard

/-- THE TIED CARD OF 'laws.FnListNewline'. -/
def fnListNewlineCard : Claim7 := { stood := { row := fnListNewlineRow, standIns := [], harness := (true, "98e5670e3da4563cf49f1e2b19639872cfd8e8f3e88e03b19da0d59fad0b34bd"), looks := true }, kinds := [], alts := [], laidByText := true, laidKinds := [.data, .listed, .data, .pinned, .pinned, .pinned, .pinned], laidTests := true, laidLooks := .later }
def FnListNewlineCardSaid : Prop := Claim7.holds Tryd.pinned (.plain (OpenSpec.ofChange fnListNewlineSpec)) fnListNewlineCard

/-- THE SECOND FORM's CARD OF 'laws.FnListDrawn'. -/
def fnListDrawnUptoCard : Claim7 := { stood := { row := fnListDrawnUptoRow, standIns := [], harness := (true, "98e5670e3da4563cf49f1e2b19639872cfd8e8f3e88e03b19da0d59fad0b34bd"), looks := true }, kinds := [], alts := [], laidByText := true, laidKinds := [.data, .listed, .data, .pinned, .pinned, .pinned, .pinned], laidTests := true, laidLooks := .later }
def FnListDrawnUptoCardSaid : Prop := Claim7.holds Tryd.pinned (.plain (OpenSpec.upto fnListDrawnSpec)) fnListDrawnUptoCard

/-- THE SECOND FORM's CARD OF 'laws.FnListNewline'. -/
def fnListNewlineUptoCard : Claim7 := { stood := { row := fnListNewlineUptoRow, standIns := [], harness := (true, "98e5670e3da4563cf49f1e2b19639872cfd8e8f3e88e03b19da0d59fad0b34bd"), looks := true }, kinds := [], alts := [], laidByText := true, laidKinds := [.data, .listed, .data, .pinned, .pinned, .pinned, .pinned], laidTests := true, laidLooks := .later }
def FnListNewlineUptoCardSaid : Prop := Claim7.holds Tryd.pinned (.plain (OpenSpec.upto fnListNewlineSpec)) fnListNewlineUptoCard
end Rows
end Go.Proofs.YthdkbokdikhojaaDoor
