/-
  DERIVED. GIVEN WITH THE SEED: THE CARDS: each row of YtkelpenackfhiaaDoorRows.lean that lists a variable, with what it lists TIED to the program's text (the seventh form; the later family's looks); each row that meets fmt, with fmt's text TOLD by the authors' own Lean function (tested against real Go, not proved from fmt's source: count such statements apart). THE CARD IS WHAT COUNTS. Prove the row's statement (the work); the ties are given (YtkelpenackfhiaaDoorTie.lean); close each card by the builder's one call (the guide's Derived/Test/ToyasCard.lean, 'card_holds'). Laid BY PROGRAM, IN A SANDBOX (cutbox-door.mjs). By AI agents, Wed Nov 11 2026. No macro, syntax, notation, axiom, sorry.
-/
import Derived.Test.YtkelpenackfhiaaDoorRows
import GoSem.ClaimSeven
namespace Go.Proofs.YtkelpenackfhiaaDoor
namespace Rows

/-- THE TIED CARD OF 'laws.FnTextLinkText'. -/
def fnTextLinkTextCard : Claim7 := { stood := { row := fnTextLinkTextRow, standIns := [], harness := (true, "62f25cd550b7f54ae7f38201ec21a69eed4272cde27cb7f4b3c28d499028cd94"), looks := false }, kinds := [], alts := [], laidByText := true, laidKinds := [.data, .pinned], laidTests := true, laidLooks := .later }
def FnTextLinkTextCardSaid : Prop := Claim7.holds Tryd.pinned (.plain (OpenSpec.ofChange fnTextLinkTextSpec)) fnTextLinkTextCard

/-- THE TIED CARD OF 'laws.FnTextStripJoin'. -/
def fnTextStripJoinCard : Claim7 := { stood := { row := fnTextStripJoinRow, standIns := [], harness := (true, "62f25cd550b7f54ae7f38201ec21a69eed4272cde27cb7f4b3c28d499028cd94"), looks := false }, kinds := [], alts := [], laidByText := true, laidKinds := [.data, .data, .data], laidTests := true, laidLooks := .later }
def FnTextStripJoinCardSaid : Prop := Claim7.holds Tryd.pinned (.plain (OpenSpec.ofChange fnTextStripJoinSpec)) fnTextStripJoinCard

/-- THE TIED CARD OF 'laws.FnCamelRuns'. -/
def fnCamelRunsCard : Claim7 := { stood := { row := fnCamelRunsRow, standIns := [], harness := (true, "62f25cd550b7f54ae7f38201ec21a69eed4272cde27cb7f4b3c28d499028cd94"), looks := false }, kinds := [], alts := [], laidByText := true, laidKinds := [.data, .listed, .data, .data, .pinned, .pinned, .pinned, .pinned], laidTests := true, laidLooks := .later }
def FnCamelRunsCardSaid : Prop := Claim7.holds Tryd.pinned (.plain (OpenSpec.ofChange fnCamelRunsSpec)) fnCamelRunsCard

/-- THE SECOND FORM's CARD OF 'laws.FnTextLinkText'. -/
def fnTextLinkTextUptoCard : Claim7 := { stood := { row := fnTextLinkTextUptoRow, standIns := [], harness := (true, "62f25cd550b7f54ae7f38201ec21a69eed4272cde27cb7f4b3c28d499028cd94"), looks := false }, kinds := [], alts := [], laidByText := true, laidKinds := [.data, .pinned], laidTests := true, laidLooks := .later }
def FnTextLinkTextUptoCardSaid : Prop := Claim7.holds Tryd.pinned (.plain (OpenSpec.upto fnTextLinkTextSpec)) fnTextLinkTextUptoCard

/-- THE SECOND FORM's CARD OF 'laws.FnTextStripJoin'. -/
def fnTextStripJoinUptoCard : Claim7 := { stood := { row := fnTextStripJoinUptoRow, standIns := [], harness := (true, "62f25cd550b7f54ae7f38201ec21a69eed4272cde27cb7f4b3c28d499028cd94"), looks := false }, kinds := [], alts := [], laidByText := true, laidKinds := [.data, .data, .data], laidTests := true, laidLooks := .later }
def FnTextStripJoinUptoCardSaid : Prop := Claim7.holds Tryd.pinned (.plain (OpenSpec.upto fnTextStripJoinSpec)) fnTextStripJoinUptoCard

/-- THE SECOND FORM's CARD OF 'laws.FnCamelRuns'. -/
def fnCamelRunsUptoCard : Claim7 := { stood := { row := fnCamelRunsUptoRow, standIns := [], harness := (true, "62f25cd550b7f54ae7f38201ec21a69eed4272cde27cb7f4b3c28d499028cd94"), looks := false }, kinds := [], alts := [], laidByText := true, laidKinds := [.data, .listed, .data, .data, .pinned, .pinned, .pinned, .pinned], laidTests := true, laidLooks := .later }
def FnCamelRunsUptoCardSaid : Prop := Claim7.holds Tryd.pinned (.plain (OpenSpec.upto fnCamelRunsSpec)) fnCamelRunsUptoCard
end Rows
end Go.Proofs.YtkelpenackfhiaaDoor
