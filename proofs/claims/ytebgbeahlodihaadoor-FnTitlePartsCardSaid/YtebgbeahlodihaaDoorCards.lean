/-
  DERIVED. GIVEN WITH THE SEED: THE CARDS: each row of YtebgbeahlodihaaDoorRows.lean that lists a variable, with what it lists TIED to the program's text (the seventh form; the later family's looks); each row that meets fmt, with fmt's text TOLD by the authors' own Lean function (tested against real Go, not proved from fmt's source: count such statements apart). THE CARD IS WHAT COUNTS. Prove the row's statement (the work); the ties are given (YtebgbeahlodihaaDoorTie.lean); close each card by the builder's one call (the guide's Derived/Test/ToyasCard.lean, 'card_holds'). Laid BY PROGRAM, IN A SANDBOX (cutbox-door.mjs). By AI agents, Wed Nov 11 2026. No macro, syntax, notation, axiom, sorry.
-/
import Derived.Test.YtebgbeahlodihaaDoorRows
import GoSem.ClaimSeven
namespace Go.Proofs.YtebgbeahlodihaaDoor
namespace Rows

/-- THE TIED CARD OF 'laws.FnTitleDots'. -/
def fnTitleDotsCard : Claim7 := { stood := { row := fnTitleDotsRow, standIns := [], harness := (true, "0debefc9bbbb8764e3497f218f134621e2a7e6ec326a7d30de5b5b98021b4f95"), looks := true }, kinds := [], alts := [], laidByText := true, laidKinds := [.data, .listed, .data, .pinned, .pinned], laidTests := true, laidLooks := .later }
def FnTitleDotsCardSaid : Prop := Claim7.holds Tryd.pinned (.plain (OpenSpec.ofChange fnTitleDotsSpec)) fnTitleDotsCard

/-- THE TIED CARD OF 'laws.FnTitleParts'. -/
def fnTitlePartsCard : Claim7 := { stood := { row := fnTitlePartsRow, standIns := [], harness := (true, "0debefc9bbbb8764e3497f218f134621e2a7e6ec326a7d30de5b5b98021b4f95"), looks := true }, kinds := [], alts := [], laidByText := true, laidKinds := [.data, .listed, .data, .pinned, .pinned], laidTests := true, laidLooks := .later }
def FnTitlePartsCardSaid : Prop := Claim7.holds Tryd.pinned (.plain (OpenSpec.ofChange fnTitlePartsSpec)) fnTitlePartsCard

/-- THE TIED CARD OF 'laws.FnIsNumeric'. -/
def fnIsNumericCard : Claim7 := { stood := { row := fnIsNumericRow, standIns := [], harness := (true, "0debefc9bbbb8764e3497f218f134621e2a7e6ec326a7d30de5b5b98021b4f95"), looks := true }, kinds := [], alts := [], laidByText := true, laidKinds := [.data, .listed, .data, .pinned], laidTests := true, laidLooks := .later }
def FnIsNumericCardSaid : Prop := Claim7.holds Tryd.pinned (.plain (OpenSpec.ofChange fnIsNumericSpec)) fnIsNumericCard

/-- THE SECOND FORM's CARD OF 'laws.FnTitleDots'. -/
def fnTitleDotsUptoCard : Claim7 := { stood := { row := fnTitleDotsUptoRow, standIns := [], harness := (true, "0debefc9bbbb8764e3497f218f134621e2a7e6ec326a7d30de5b5b98021b4f95"), looks := true }, kinds := [], alts := [], laidByText := true, laidKinds := [.data, .listed, .data, .pinned, .pinned], laidTests := true, laidLooks := .later }
def FnTitleDotsUptoCardSaid : Prop := Claim7.holds Tryd.pinned (.plain (OpenSpec.upto fnTitleDotsSpec)) fnTitleDotsUptoCard

/-- THE SECOND FORM's CARD OF 'laws.FnTitleParts'. -/
def fnTitlePartsUptoCard : Claim7 := { stood := { row := fnTitlePartsUptoRow, standIns := [], harness := (true, "0debefc9bbbb8764e3497f218f134621e2a7e6ec326a7d30de5b5b98021b4f95"), looks := true }, kinds := [], alts := [], laidByText := true, laidKinds := [.data, .listed, .data, .pinned, .pinned], laidTests := true, laidLooks := .later }
def FnTitlePartsUptoCardSaid : Prop := Claim7.holds Tryd.pinned (.plain (OpenSpec.upto fnTitlePartsSpec)) fnTitlePartsUptoCard

/-- THE SECOND FORM's CARD OF 'laws.FnIsNumeric'. -/
def fnIsNumericUptoCard : Claim7 := { stood := { row := fnIsNumericUptoRow, standIns := [], harness := (true, "0debefc9bbbb8764e3497f218f134621e2a7e6ec326a7d30de5b5b98021b4f95"), looks := true }, kinds := [], alts := [], laidByText := true, laidKinds := [.data, .listed, .data, .pinned], laidTests := true, laidLooks := .later }
def FnIsNumericUptoCardSaid : Prop := Claim7.holds Tryd.pinned (.plain (OpenSpec.upto fnIsNumericSpec)) fnIsNumericUptoCard
end Rows
end Go.Proofs.YtebgbeahlodihaaDoor
