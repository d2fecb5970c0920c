/-
  No cell of these rows narrows 'for every input' (looked for: loops, veiled, ifaces, maps, wideKeys, modest, calm, conditions, laid).
  DERIVED. THE GIVEN ROWS OF THIS SEAT. 11 by the template 'for every input the law returns true; each argument reads behind the call as it read before'; 0 by the template 'total and deterministic' (their statements: YtlppbalnjogkoaaTotals.lean).
  GIVEN WITH THE SEED: the statements are not yours to turn. If you find one false, say at which input.
  Laid BY PROGRAM, IN A SANDBOX (cutbox-rows.mjs): the forced cells as the released guide's own fill.sh prints them over the translation 8e8a2377ef5da3ae… (all of the seat's roots in one cut). By AI agents, Wed Nov 11 2026. No macro, syntax, notation, axiom, sorry.
-/
import Derived.Test.YtlppbalnjogkoaaChecked
import GoSem.Claim
import GoSem.ClaimJoined
import GoSem.ClaimMapViews
import Derived.JoinedTies
import Derived.KernelRfl
namespace Go.Proofs.Ytlppbalnjogkoaa
/- THE CELL 'sum', in the pinned program and in every row, IS THE sha256 OF THE DUMP (.gsa) THAT YtlppbalnjogkoaaProg.lean LOADS. Nothing in Lean hashes anything: it is a label: what it is worth is what the hold of that sum in a sandbox is worth. -/
noncomputable def Try.pinned : Pinned := { name := "ytlppbalnjogkoaa", sum := "8e8a2377ef5da3aedb896ae6448f5c15becd6064768d68bfda0a304fac962814", checked := Try.checked }
namespace Rows
def none {H : Type} : Left H := { results := [], args := [] }

/-- 'laws.FnTextCursor': WHATEVER THE INPUT: true; the input reads as it did. -/
def fnTextCursorSpec : ChangeSpec := { name := "fnTextCursor", fn := fun _ => fun
  | [d] => { results := [.lit (.bool true)], args := [d] }
  | _ => none }
def fnTextCursorRow : OpenClaim := { program := "ytlppbalnjogkoaa", sum := "8e8a2377ef5da3aedb896ae6448f5c15becd6064768d68bfda0a304fac962814", func := "pub-pinstripe/laws.FnTextCursor", spec := "fnTextCursor", apart := false }
def FnTextCursorSaid : Prop := fnTextCursorRow.holds Try.pinned (OpenSpec.ofChange fnTextCursorSpec)

/-- ITS FALSE NEIGHBOUR: 'it returns false'. Refute it at one input. -/
def fnTextCursorWrong : ChangeSpec := { name := "fnTextCursor", fn := fun _ => fun
  | [d] => { results := [.lit (.bool false)], args := [d] }
  | _ => none }
def FnTextCursorWrongFalsely : Prop := fnTextCursorRow.holds Try.pinned (OpenSpec.ofChange fnTextCursorWrong)

/-- 'laws.FnColumnIDs': WHATEVER THE INPUT: true; the input reads as it did. -/
def fnColumnIDsSpec : ChangeSpec := { name := "fnColumnIDs", fn := fun _ => fun
  | [d] => { results := [.lit (.bool true)], args := [d] }
  | _ => none }
def fnColumnIDsRow : OpenClaim := { program := "ytlppbalnjogkoaa", sum := "8e8a2377ef5da3aedb896ae6448f5c15becd6064768d68bfda0a304fac962814", func := "pub-pinstripe/laws.FnColumnIDs", spec := "fnColumnIDs", recurses := true, apart := false }
def FnColumnIDsSaid : Prop := fnColumnIDsRow.holds Try.pinned (OpenSpec.ofChange fnColumnIDsSpec)

/-- ITS FALSE NEIGHBOUR: 'it returns false'. Refute it at one input. -/
def fnColumnIDsWrong : ChangeSpec := { name := "fnColumnIDs", fn := fun _ => fun
  | [d] => { results := [.lit (.bool false)], args := [d] }
  | _ => none }
def FnColumnIDsWrongFalsely : Prop := fnColumnIDsRow.holds Try.pinned (OpenSpec.ofChange fnColumnIDsWrong)

/-- 'laws.FnTextAlignHTML': WHATEVER THE INPUT: true; the input reads as it did. -/
def fnTextAlignHTMLSpec : ChangeSpec := { name := "fnTextAlignHTML", fn := fun _ => fun
  | [d] => { results := [.lit (.bool true)], args := [d] }
  | _ => none }
def fnTextAlignHTMLRow : OpenClaim := { program := "ytlppbalnjogkoaa", sum := "8e8a2377ef5da3aedb896ae6448f5c15becd6064768d68bfda0a304fac962814", func := "pub-pinstripe/laws.FnTextAlignHTML", spec := "fnTextAlignHTML", apart := false }
def FnTextAlignHTMLSaid : Prop := fnTextAlignHTMLRow.holds Try.pinned (OpenSpec.ofChange fnTextAlignHTMLSpec)

/-- ITS FALSE NEIGHBOUR: 'it returns false'. Refute it at one input. -/
def fnTextAlignHTMLWrong : ChangeSpec := { name := "fnTextAlignHTML", fn := fun _ => fun
  | [d] => { results := [.lit (.bool false)], args := [d] }
  | _ => none }
def FnTextAlignHTMLWrongFalsely : Prop := fnTextAlignHTMLRow.holds Try.pinned (OpenSpec.ofChange fnTextAlignHTMLWrong)

/-- 'laws.FnPadding': WHATEVER THE INPUT: true; the input reads as it did. -/
def fnPaddingSpec : ChangeSpec := { name := "fnPadding", fn := fun _ => fun
  | [d1, d2, d3] => { results := [.lit (.bool true)], args := [d1, d2, d3] }
  | _ => none }
def fnPaddingRow : OpenClaim := { program := "ytlppbalnjogkoaa", sum := "8e8a2377ef5da3aedb896ae6448f5c15becd6064768d68bfda0a304fac962814", func := "pub-pinstripe/laws.FnPadding", spec := "fnPadding", apart := false }
def FnPaddingSaid : Prop := fnPaddingRow.holds Try.pinned (OpenSpec.ofChange fnPaddingSpec)

/-- ITS FALSE NEIGHBOUR: 'it returns false'. Refute it at one input. -/
def fnPaddingWrong : ChangeSpec := { name := "fnPadding", fn := fun _ => fun
  | [d1, d2, d3] => { results := [.lit (.bool false)], args := [d1, d2, d3] }
  | _ => none }
def FnPaddingWrongFalsely : Prop := fnPaddingRow.holds Try.pinned (OpenSpec.ofChange fnPaddingWrong)

/-- 'laws.FnTextColorRGB': WHATEVER THE INPUT: true; the input reads as it did. -/
def fnTextColorRGBSpec : ChangeSpec := { name := "fnTextColorRGB", fn := fun _ => fun
  | [d1, d2, d3] => { results := [.lit (.bool true)], args := [d1, d2, d3] }
  | _ => none }
def fnTextColorRGBRow : OpenClaim := { program := "ytlppbalnjogkoaa", sum := "8e8a2377ef5da3aedb896ae6448f5c15becd6064768d68bfda0a304fac962814", func := "pub-pinstripe/laws.FnTextColorRGB", spec := "fnTextColorRGB", apart := false }
def FnTextColorRGBSaid : Prop := fnTextColorRGBRow.holds Try.pinned (OpenSpec.ofChange fnTextColorRGBSpec)

/-- ITS FALSE NEIGHBOUR: 'it returns false'. Refute it at one input. -/
def fnTextColorRGBWrong : ChangeSpec := { name := "fnTextColorRGB", fn := fun _ => fun
  | [d1, d2, d3] => { results := [.lit (.bool false)], args := [d1, d2, d3] }
  | _ => none }
def FnTextColorRGBWrongFalsely : Prop := fnTextColorRGBRow.holds Try.pinned (OpenSpec.ofChange fnTextColorRGBWrong)

/-- 'laws.FnMergedAll': WHATEVER THE INPUT: true; the input reads as it did. -/
def fnMergedAllSpec : ChangeSpec := { name := "fnMergedAll", fn := fun _ => fun
  | [d1, d2] => { results := [.lit (.bool true)], args := [d1, d2] }
  | _ => none }
def fnMergedAllRow : OpenClaim := { program := "ytlppbalnjogkoaa", sum := "8e8a2377ef5da3aedb896ae6448f5c15becd6064768d68bfda0a304fac962814", func := "pub-pinstripe/laws.FnMergedAll", spec := "fnMergedAll", apart := false }
def FnMergedAllSaid : Prop := fnMergedAllRow.holds Try.pinned (OpenSpec.ofChange fnMergedAllSpec)

/-- ITS FALSE NEIGHBOUR: 'it returns false'. Refute it at one input. -/
def fnMergedAllWrong : ChangeSpec := { name := "fnMergedAll", fn := fun _ => fun
  | [d1, d2] => { results := [.lit (.bool false)], args := [d1, d2] }
  | _ => none }
def FnMergedAllWrongFalsely : Prop := fnMergedAllRow.holds Try.pinned (OpenSpec.ofChange fnMergedAllWrong)

/-- 'laws.FnMergedOf': WHATEVER THE INPUT: true; the input reads as it did. -/
def fnMergedOfSpec : ChangeSpec := { name := "fnMergedOf", fn := fun _ => fun
  | [d1, d2] => { results := [.lit (.bool true)], args := [d1, d2] }
  | _ => none }
def fnMergedOfRow : OpenClaim := { program := "ytlppbalnjogkoaa", sum := "8e8a2377ef5da3aedb896ae6448f5c15becd6064768d68bfda0a304fac962814", func := "pub-pinstripe/laws.FnMergedOf", spec := "fnMergedOf", apart := false }
def FnMergedOfSaid : Prop := fnMergedOfRow.holds Try.pinned (OpenSpec.ofChange fnMergedOfSpec)

/-- ITS FALSE NEIGHBOUR: 'it returns false'. Refute it at one input. -/
def fnMergedOfWrong : ChangeSpec := { name := "fnMergedOf", fn := fun _ => fun
  | [d1, d2] => { results := [.lit (.bool false)], args := [d1, d2] }
  | _ => none }
def FnMergedOfWrongFalsely : Prop := fnMergedOfRow.holds Try.pinned (OpenSpec.ofChange fnMergedOfWrong)

/-- 'laws.FnAlignOf': WHATEVER THE INPUT: true; the input reads as it did. -/
def fnAlignOfSpec : ChangeSpec := { name := "fnAlignOf", fn := fun _ => fun
  | [d1, d2, d3, d4] => { results := [.lit (.bool true)], args := [d1, d2, d3, d4] }
  | _ => none }
def fnAlignOfRow : OpenClaim := { program := "ytlppbalnjogkoaa", sum := "8e8a2377ef5da3aedb896ae6448f5c15becd6064768d68bfda0a304fac962814", func := "pub-pinstripe/laws.FnAlignOf", spec := "fnAlignOf", apart := false }
def FnAlignOfSaid : Prop := fnAlignOfRow.holds Try.pinned (OpenSpec.ofChange fnAlignOfSpec)

/-- ITS FALSE NEIGHBOUR: 'it returns false'. Refute it at one input. -/
def fnAlignOfWrong : ChangeSpec := { name := "fnAlignOf", fn := fun _ => fun
  | [d1, d2, d3, d4] => { results := [.lit (.bool false)], args := [d1, d2, d3, d4] }
  | _ => none }
def FnAlignOfWrongFalsely : Prop := fnAlignOfRow.holds Try.pinned (OpenSpec.ofChange fnAlignOfWrong)

/-- 'laws.FnJunction': WHATEVER THE INPUT: true; the input reads as it did. -/
def fnJunctionSpec : ChangeSpec := { name := "fnJunction", fn := fun _ => fun
  | [d1, d2, d3, d4, d5] => { results := [.lit (.bool true)], args := [d1, d2, d3, d4, d5] }
  | _ => none }
def fnJunctionRow : OpenClaim := { program := "ytlppbalnjogkoaa", sum := "8e8a2377ef5da3aedb896ae6448f5c15becd6064768d68bfda0a304fac962814", func := "pub-pinstripe/laws.FnJunction", spec := "fnJunction", apart := false }
def FnJunctionSaid : Prop := fnJunctionRow.holds Try.pinned (OpenSpec.ofChange fnJunctionSpec)

/-- ITS FALSE NEIGHBOUR: 'it returns false'. Refute it at one input. -/
def fnJunctionWrong : ChangeSpec := { name := "fnJunction", fn := fun _ => fun
  | [d1, d2, d3, d4, d5] => { results := [.lit (.bool false)], args := [d1, d2, d3, d4, d5] }
  | _ => none }
def FnJunctionWrongFalsely : Prop := fnJunctionRow.holds Try.pinned (OpenSpec.ofChange fnJunctionWrong)

/-- 'laws.FnJunctionTurned': WHATEVER THE INPUT: true; the input reads as it did. -/
def fnJunctionTurnedSpec : ChangeSpec := { name := "fnJunctionTurned", fn := fun _ => fun
  | [d1, d2, d3, d4, d5] => { results := [.lit (.bool true)], args := [d1, d2, d3, d4, d5] }
  | _ => none }
def fnJunctionTurnedRow : OpenClaim := { program := "ytlppbalnjogkoaa", sum := "8e8a2377ef5da3aedb896ae6448f5c15becd6064768d68bfda0a304fac962814", func := "pub-pinstripe/laws.FnJunctionTurned", spec := "fnJunctionTurned", apart := false }
def FnJunctionTurnedSaid : Prop := fnJunctionTurnedRow.holds Try.pinned (OpenSpec.ofChange fnJunctionTurnedSpec)

/-- ITS FALSE NEIGHBOUR: 'it returns false'. Refute it at one input. -/
def fnJunctionTurnedWrong : ChangeSpec := { name := "fnJunctionTurned", fn := fun _ => fun
  | [d1, d2, d3, d4, d5] => { results := [.lit (.bool false)], args := [d1, d2, d3, d4, d5] }
  | _ => none }
def FnJunctionTurnedWrongFalsely : Prop := fnJunctionTurnedRow.holds Try.pinned (OpenSpec.ofChange fnJunctionTurnedWrong)

/-- 'laws.FnStyles': WHATEVER THE INPUT: true; the input reads as it did. -/
def fnStylesSpec : ChangeSpec := { name := "fnStyles", fn := fun _ => fun
  | [d] => { results := [.lit (.bool true)], args := [d] }
  | _ => none }
def fnStylesRow : OpenClaim := { program := "ytlppbalnjogkoaa", sum := "8e8a2377ef5da3aedb896ae6448f5c15becd6064768d68bfda0a304fac962814", func := "pub-pinstripe/laws.FnStyles", spec := "fnStyles", apart := false }
def FnStylesSaid : Prop := fnStylesRow.holds Try.pinned (OpenSpec.ofChange fnStylesSpec)

/-- ITS FALSE NEIGHBOUR: 'it returns false'. Refute it at one input. -/
def fnStylesWrong : ChangeSpec := { name := "fnStyles", fn := fun _ => fun
  | [d] => { results := [.lit (.bool false)], args := [d] }
  | _ => none }
def FnStylesWrongFalsely : Prop := fnStylesRow.holds Try.pinned (OpenSpec.ofChange fnStylesWrong)

/- THE SECOND FORM. 'bulk': how many values and letters a reading holds, each counted each time it is reached (what is shared counts as often as it is met; a slice's spare places count too). A statement '..UptoSaid' is the law's where the arguments, and the package variables that the reading takes, are together of bulk at most 1048576: NARROWER than '..Said'. Prove '..Said' where nothing that the law and all that it calls make is longer than what came in: it says more and counts as full. Else prove '..UptoSaid'. A law counts once. -/
mutual
def uptoBulk {H : Type} : DataW H → Nat
  | .lit (.string bytes) => bytes.length + 1
  | .lit _ => 1
  | .nil => 1
  | .ptr d => uptoBulk d + 1
  | .slice elems spare => uptoBulkAll elems + uptoBulkAll spare + 1
  | .agg parts => uptoBulkAll parts + 1
  | .iface _ d => uptoBulk d + 1
  | .map entries => uptoBulkEntries entries + 1
  | .held _ => 1
def uptoBulkAll {H : Type} : List (DataW H) → Nat
  | [] => 0
  | d :: r => uptoBulk d + uptoBulkAll r
def uptoBulkEntries {H : Type} : List (Lit × DataW H) → Nat
  | [] => 0
  | x :: r => uptoBulkEntry x + uptoBulkEntries r
def uptoBulkEntry {H : Type} : Lit × DataW H → Nat
  | (.string bytes, d) => bytes.length + uptoBulk d + 1
  | (_, d) => uptoBulk d + 1
 end
def uptoSmall : (H : Type) → List (DataW H) → Bool := fun _ ds => decide (uptoBulkAll ds ≤ 1048576)
def OpenSpec.upto (s : _root_.Go.ChangeSpec) : _root_.Go.OpenSpec := { _root_.Go.OpenSpec.ofChange s with cond := some uptoSmall }

/-- 'laws.FnTextCursor', WHERE WHAT IT READS IS OF BULK AT MOST 1048576: true; the input reads as it did. -/
def fnTextCursorUptoRow : OpenClaim := { program := "ytlppbalnjogkoaa", sum := "8e8a2377ef5da3aedb896ae6448f5c15becd6064768d68bfda0a304fac962814", func := "pub-pinstripe/laws.FnTextCursor", spec := "fnTextCursor", apart := false, narrowed := true }
def FnTextCursorUptoSaid : Prop := fnTextCursorUptoRow.holds Try.pinned (OpenSpec.upto fnTextCursorSpec)

/-- 'laws.FnColumnIDs', WHERE WHAT IT READS IS OF BULK AT MOST 1048576: true; the input reads as it did. -/
def fnColumnIDsUptoRow : OpenClaim := { program := "ytlppbalnjogkoaa", sum := "8e8a2377ef5da3aedb896ae6448f5c15becd6064768d68bfda0a304fac962814", func := "pub-pinstripe/laws.FnColumnIDs", spec := "fnColumnIDs", recurses := true, apart := false, narrowed := true }
def FnColumnIDsUptoSaid : Prop := fnColumnIDsUptoRow.holds Try.pinned (OpenSpec.upto fnColumnIDsSpec)

/-- 'laws.FnTextAlignHTML', WHERE WHAT IT READS IS OF BULK AT MOST 1048576: true; the input reads as it did. -/
def fnTextAlignHTMLUptoRow : OpenClaim := { program := "ytlppbalnjogkoaa", sum := "8e8a2377ef5da3aedb896ae6448f5c15becd6064768d68bfda0a304fac962814", func := "pub-pinstripe/laws.FnTextAlignHTML", spec := "fnTextAlignHTML", apart := false, narrowed := true }
def FnTextAlignHTMLUptoSaid : Prop := fnTextAlignHTMLUptoRow.holds Try.pinned (OpenSpec.upto fnTextAlignHTMLSpec)

/-- 'laws.FnPadding', WHERE WHAT IT READS IS OF BULK AT MOST 1048576: true; the input reads as it did. -/
def fnPaddingUptoRow : OpenClaim := { program := "ytlppbalnjogkoaa", sum := "8e8a2377ef5da3aedb896ae6448f5c15becd6064768d68bfda0a304fac962814", func := "pub-pinstripe/laws.FnPadding", spec := "fnPadding", apart := false, narrowed := true }
def FnPaddingUptoSaid : Prop := fnPaddingUptoRow.holds Try.pinned (OpenSpec.upto fnPaddingSpec)

/-- 'laws.FnTextColorRGB', WHERE WHAT IT READS IS OF BULK AT MOST 1048576: true; the input reads as it did. -/
def fnTextColorRGBUptoRow : OpenClaim := { program := "ytlppbalnjogkoaa", sum := "8e8a2377ef5da3aedb896ae6448f5c15becd6064768d68bfda0a304fac962814", func := "pub-pinstripe/laws.FnTextColorRGB", spec := "fnTextColorRGB", apart := false, narrowed := true }
def FnTextColorRGBUptoSaid : Prop := fnTextColorRGBUptoRow.holds Try.pinned (OpenSpec.upto fnTextColorRGBSpec)

/-- 'laws.FnMergedAll', WHERE WHAT IT READS IS OF BULK AT MOST 1048576: true; the input reads as it did. -/
def fnMergedAllUptoRow : OpenClaim := { program := "ytlppbalnjogkoaa", sum := "8e8a2377ef5da3aedb896ae6448f5c15becd6064768d68bfda0a304fac962814", func := "pub-pinstripe/laws.FnMergedAll", spec := "fnMergedAll", apart := false, narrowed := true }
def FnMergedAllUptoSaid : Prop := fnMergedAllUptoRow.holds Try.pinned (OpenSpec.upto fnMergedAllSpec)

/-- 'laws.FnMergedOf', WHERE WHAT IT READS IS OF BULK AT MOST 1048576: true; the input reads as it did. -/
def fnMergedOfUptoRow : OpenClaim := { program := "ytlppbalnjogkoaa", sum := "8e8a2377ef5da3aedb896ae6448f5c15becd6064768d68bfda0a304fac962814", func := "pub-pinstripe/laws.FnMergedOf", spec := "fnMergedOf", apart := false, narrowed := true }
def FnMergedOfUptoSaid : Prop := fnMergedOfUptoRow.holds Try.pinned (OpenSpec.upto fnMergedOfSpec)

/-- 'laws.FnAlignOf', WHERE WHAT IT READS IS OF BULK AT MOST 1048576: true; the input reads as it did. -/
def fnAlignOfUptoRow : OpenClaim := { program := "ytlppbalnjogkoaa", sum := "8e8a2377ef5da3aedb896ae6448f5c15becd6064768d68bfda0a304fac962814", func := "pub-pinstripe/laws.FnAlignOf", spec := "fnAlignOf", apart := false, narrowed := true }
def FnAlignOfUptoSaid : Prop := fnAlignOfUptoRow.holds Try.pinned (OpenSpec.upto fnAlignOfSpec)

/-- 'laws.FnJunction', WHERE WHAT IT READS IS OF BULK AT MOST 1048576: true; the input reads as it did. -/
def fnJunctionUptoRow : OpenClaim := { program := "ytlppbalnjogkoaa", sum := "8e8a2377ef5da3aedb896ae6448f5c15becd6064768d68bfda0a304fac962814", func := "pub-pinstripe/laws.FnJunction", spec := "fnJunction", apart := false, narrowed := true }
def FnJunctionUptoSaid : Prop := fnJunctionUptoRow.holds Try.pinned (OpenSpec.upto fnJunctionSpec)

/-- 'laws.FnJunctionTurned', WHERE WHAT IT READS IS OF BULK AT MOST 1048576: true; the input reads as it did. -/
def fnJunctionTurnedUptoRow : OpenClaim := { program := "ytlppbalnjogkoaa", sum := "8e8a2377ef5da3aedb896ae6448f5c15becd6064768d68bfda0a304fac962814", func := "pub-pinstripe/laws.FnJunctionTurned", spec := "fnJunctionTurned", apart := false, narrowed := true }
def FnJunctionTurnedUptoSaid : Prop := fnJunctionTurnedUptoRow.holds Try.pinned (OpenSpec.upto fnJunctionTurnedSpec)

/-- 'laws.FnStyles', WHERE WHAT IT READS IS OF BULK AT MOST 1048576: true; the input reads as it did. -/
def fnStylesUptoRow : OpenClaim := { program := "ytlppbalnjogkoaa", sum := "8e8a2377ef5da3aedb896ae6448f5c15becd6064768d68bfda0a304fac962814", func := "pub-pinstripe/laws.FnStyles", spec := "fnStyles", apart := false, narrowed := true }
def FnStylesUptoSaid : Prop := fnStylesUptoRow.holds Try.pinned (OpenSpec.upto fnStylesSpec)

end Rows
end Go.Proofs.Ytlppbalnjogkoaa
