/-
  DERIVED. GIVEN WITH THE SEED: THE CARDS: each row of YtenmkoaimmnpdaaDoorRows.lean that lists a variable, with what it lists TIED to the program's text (the seventh form; the later family's looks); each row that meets fmt, with fmt's text TOLD by the authors' own Lean function (tested against real Go, not proved from fmt's source: count such statements apart). THE CARD IS WHAT COUNTS. Prove the row's statement (the work); the ties are given (YtenmkoaimmnpdaaDoorTie.lean); close each card by the builder's one call (the guide's Derived/Test/ToyasCard.lean, 'card_holds'). Laid BY PROGRAM, IN A SANDBOX (cutbox-door.mjs). By AI agents, Wed Nov 11 2026. No macro, syntax, notation, axiom, sorry.
-/
import Derived.Test.YtenmkoaimmnpdaaDoorRows
import GoSem.ClaimSeven
namespace Go.Proofs.YtenmkoaimmnpdaaDoor
namespace Rows

/-- THE TIED CARD OF 'laws.FnCamelRuns'. -/
def fnCamelRunsCard : Claim7 := { stood := { row := fnCamelRunsRow, standIns := [], harness := (true, "7f1c48616acc2b1a296d432aed8abf48a00c364993558fab09ba567c4829bc76"), looks := false }, kinds := [], alts := [], laidByText := true, laidKinds := [.data, .listed, .data, .data, .pinned, .pinned, .pinned, .pinned], laidTests := true, laidLooks := .later }
def FnCamelRunsCardSaid : Prop := Claim7.holds Tryd.pinned (.plain (OpenSpec.ofChange fnCamelRunsSpec)) fnCamelRunsCard

/-- THE SECOND FORM's CARD OF 'laws.FnCamelRuns'. -/
def fnCamelRunsUptoCard : Claim7 := { stood := { row := fnCamelRunsUptoRow, standIns := [], harness := (true, "7f1c48616acc2b1a296d432aed8abf48a00c364993558fab09ba567c4829bc76"), looks := false }, kinds := [], alts := [], laidByText := true, laidKinds := [.data, .listed, .data, .data, .pinned, .pinned, .pinned, .pinned], laidTests := true, laidLooks := .later }
def FnCamelRunsUptoCardSaid : Prop := Claim7.holds Tryd.pinned (.plain (OpenSpec.upto fnCamelRunsSpec)) fnCamelRunsUptoCard
end Rows
end Go.Proofs.YtenmkoaimmnpdaaDoor
