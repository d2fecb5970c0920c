/-
  No cell of these rows narrows 'for every input' (looked for: loops, veiled, ifaces, maps, wideKeys, modest, calm, conditions, laid).
  DERIVED. THE GIVEN ROWS OF THIS SEAT. 4 by the template 'for every input the law returns true; each argument reads behind the call as it read before'; 0 by the template 'total and deterministic' (their statements: YtadkpooimfbolaaTotals.lean).
  GIVEN WITH THE SEED: the statements are not yours to turn. If you find one false, say at which input.
  Laid BY PROGRAM, IN A SANDBOX (cutbox-rows.mjs): the forced cells as the released guide's own fill.sh prints them over the translation f2250de77499b261… (all of the seat's roots in one cut). By AI agents, Wed Nov 11 2026. No macro, syntax, notation, axiom, sorry.
-/
import Derived.Test.YtadkpooimfbolaaChecked
import GoSem.Claim
import GoSem.ClaimJoined
import GoSem.ClaimMapViews
import Derived.JoinedTies
import Derived.KernelRfl
namespace Go.Proofs.Ytadkpooimfbolaa
/- THE CELL 'sum', in the pinned program and in every row, IS THE sha256 OF THE DUMP (.gsa) THAT YtadkpooimfbolaaProg.lean LOADS. Nothing in Lean hashes anything: it is a label: what it is worth is what the hold of that sum in a sandbox is worth. -/
noncomputable def Try.pinned : Pinned := { name := "ytadkpooimfbolaa", sum := "f2250de77499b2618b103ae52289545e3794a1426238adb47eba3d40b5bc0c17", checked := Try.checked }
namespace Rows
def none {H : Type} : Left H := { results := [], args := [] }

/-- 'laws.FnTextCRLFLines': WHATEVER THE INPUT: true; the input reads as it did. -/
def fnTextCRLFLinesSpec : ChangeSpec := { name := "fnTextCRLFLines", fn := fun _ => fun
  | [d] => { results := [.lit (.bool true)], args := [d] }
  | _ => none }
def fnTextCRLFLinesRow : OpenClaim := { program := "ytadkpooimfbolaa", sum := "f2250de77499b2618b103ae52289545e3794a1426238adb47eba3d40b5bc0c17", func := "pub-pinstripe/laws.FnTextCRLFLines", spec := "fnTextCRLFLines", inPlace := ["internal/abi.NoEscape", "internal/bytealg.MakeNoZero"], apart := false }
def FnTextCRLFLinesSaid : Prop := fnTextCRLFLinesRow.holds Try.pinned (OpenSpec.ofChange fnTextCRLFLinesSpec)

/-- ITS FALSE NEIGHBOUR: 'it returns false'. Refute it at one input. -/
def fnTextCRLFLinesWrong : ChangeSpec := { name := "fnTextCRLFLines", fn := fun _ => fun
  | [d] => { results := [.lit (.bool false)], args := [d] }
  | _ => none }
def FnTextCRLFLinesWrongFalsely : Prop := fnTextCRLFLinesRow.holds Try.pinned (OpenSpec.ofChange fnTextCRLFLinesWrong)

/-- 'laws.FnPartMore': WHATEVER THE INPUT: true; the input reads as it did. -/
def fnPartMoreSpec : ChangeSpec := { name := "fnPartMore", fn := fun _ => fun
  | [d1, d2, d3] => { results := [.lit (.bool true)], args := [d1, d2, d3] }
  | _ => none }
def fnPartMoreRow : OpenClaim := { program := "ytadkpooimfbolaa", sum := "f2250de77499b2618b103ae52289545e3794a1426238adb47eba3d40b5bc0c17", func := "pub-pinstripe/laws.FnPartMore", spec := "fnPartMore", inPlace := ["internal/abi.NoEscape", "internal/bytealg.MakeNoZero"], apart := false }
def FnPartMoreSaid : Prop := fnPartMoreRow.holds Try.pinned (OpenSpec.ofChange fnPartMoreSpec)

/-- ITS FALSE NEIGHBOUR: 'it returns false'. Refute it at one input. -/
def fnPartMoreWrong : ChangeSpec := { name := "fnPartMore", fn := fun _ => fun
  | [d1, d2, d3] => { results := [.lit (.bool false)], args := [d1, d2, d3] }
  | _ => none }
def FnPartMoreWrongFalsely : Prop := fnPartMoreRow.holds Try.pinned (OpenSpec.ofChange fnPartMoreWrong)

/-- 'laws.FnListLength': WHATEVER THE INPUT: true; the input reads as it did. -/
def fnListLengthSpec : ChangeSpec := { name := "fnListLength", fn := fun _ => fun
  | [d] => { results := [.lit (.bool true)], args := [d] }
  | _ => none }
def fnListLengthRow : OpenClaim := { program := "ytadkpooimfbolaa", sum := "f2250de77499b2618b103ae52289545e3794a1426238adb47eba3d40b5bc0c17", func := "pub-pinstripe/laws.FnListLength", spec := "fnListLength", inPlace := ["internal/abi.NoEscape", "internal/bytealg.MakeNoZero"], apart := false }
def FnListLengthSaid : Prop := fnListLengthRow.holds Try.pinned (OpenSpec.ofChange fnListLengthSpec)

/-- ITS FALSE NEIGHBOUR: 'it returns false'. Refute it at one input. -/
def fnListLengthWrong : ChangeSpec := { name := "fnListLength", fn := fun _ => fun
  | [d] => { results := [.lit (.bool false)], args := [d] }
  | _ => none }
def FnListLengthWrongFalsely : Prop := fnListLengthRow.holds Try.pinned (OpenSpec.ofChange fnListLengthWrong)

/-- 'laws.FnUnitsSmall': WHATEVER THE INPUT: true; the input reads as it did. -/
def fnUnitsSmallSpec : ChangeSpec := { name := "fnUnitsSmall", fn := fun _ => fun
  | [d] => { results := [.lit (.bool true)], args := [d] }
  | _ => none }
def fnUnitsSmallRow : OpenClaim := { program := "ytadkpooimfbolaa", sum := "f2250de77499b2618b103ae52289545e3794a1426238adb47eba3d40b5bc0c17", func := "pub-pinstripe/laws.FnUnitsSmall", spec := "fnUnitsSmall", inPlace := ["math.Float32bits", "math.Float64bits"], recurses := true, apart := false }
def FnUnitsSmallSaid : Prop := fnUnitsSmallRow.holds Try.pinned (OpenSpec.ofChange fnUnitsSmallSpec)

/-- ITS FALSE NEIGHBOUR: 'it returns false'. Refute it at one input. -/
def fnUnitsSmallWrong : ChangeSpec := { name := "fnUnitsSmall", fn := fun _ => fun
  | [d] => { results := [.lit (.bool false)], args := [d] }
  | _ => none }
def FnUnitsSmallWrongFalsely : Prop := fnUnitsSmallRow.holds Try.pinned (OpenSpec.ofChange fnUnitsSmallWrong)

/- THE SECOND FORM. 'bulk': how many values and letters a reading holds, each counted each time it is reached (what is shared counts as often as it is met; a slice's spare places count too). A statement '..UptoSaid' is the law's where the arguments, and the package variables that the reading takes, are together of bulk at most 1048576: NARROWER than '..Said'. Prove '..Said' where nothing that the law and all that it calls make is longer than what came in: it says more and counts as full. Else prove '..UptoSaid'. A law counts once. -/
mutual
def uptoBulk {H : Type} : DataW H → Nat
  | .lit (.string bytes) => bytes.length + 1
  | .lit _ => 1
  | .nil => 1
  | .ptr d => uptoBulk d + 1
  | .slice elems spare => uptoBulkAll elems + uptoBulkAll spare + 1
  | .agg parts => uptoBulkAll parts + 1
  | .iface _ d => uptoBulk d + 1
  | .map entries => uptoBulkEntries entries + 1
  | .held _ => 1
def uptoBulkAll {H : Type} : List (DataW H) → Nat
  | [] => 0
  | d :: r => uptoBulk d + uptoBulkAll r
def uptoBulkEntries {H : Type} : List (Lit × DataW H) → Nat
  | [] => 0
  | x :: r => uptoBulkEntry x + uptoBulkEntries r
def uptoBulkEntry {H : Type} : Lit × DataW H → Nat
  | (.string bytes, d) => bytes.length + uptoBulk d + 1
  | (_, d) => uptoBulk d + 1
 end
def uptoSmall : (H : Type) → List (DataW H) → Bool := fun _ ds => decide (uptoBulkAll ds ≤ 1048576)
def OpenSpec.upto (s : _root_.Go.ChangeSpec) : _root_.Go.OpenSpec := { _root_.Go.OpenSpec.ofChange s with cond := some uptoSmall }

/-- 'laws.FnTextCRLFLines', WHERE WHAT IT READS IS OF BULK AT MOST 1048576: true; the input reads as it did. -/
def fnTextCRLFLinesUptoRow : OpenClaim := { program := "ytadkpooimfbolaa", sum := "f2250de77499b2618b103ae52289545e3794a1426238adb47eba3d40b5bc0c17", func := "pub-pinstripe/laws.FnTextCRLFLines", spec := "fnTextCRLFLines", inPlace := ["internal/abi.NoEscape", "internal/bytealg.MakeNoZero"], apart := false, narrowed := true }
def FnTextCRLFLinesUptoSaid : Prop := fnTextCRLFLinesUptoRow.holds Try.pinned (OpenSpec.upto fnTextCRLFLinesSpec)

/-- 'laws.FnPartMore', WHERE WHAT IT READS IS OF BULK AT MOST 1048576: true; the input reads as it did. -/
def fnPartMoreUptoRow : OpenClaim := { program := "ytadkpooimfbolaa", sum := "f2250de77499b2618b103ae52289545e3794a1426238adb47eba3d40b5bc0c17", func := "pub-pinstripe/laws.FnPartMore", spec := "fnPartMore", inPlace := ["internal/abi.NoEscape", "internal/bytealg.MakeNoZero"], apart := false, narrowed := true }
def FnPartMoreUptoSaid : Prop := fnPartMoreUptoRow.holds Try.pinned (OpenSpec.upto fnPartMoreSpec)

/-- 'laws.FnListLength', WHERE WHAT IT READS IS OF BULK AT MOST 1048576: true; the input reads as it did. -/
def fnListLengthUptoRow : OpenClaim := { program := "ytadkpooimfbolaa", sum := "f2250de77499b2618b103ae52289545e3794a1426238adb47eba3d40b5bc0c17", func := "pub-pinstripe/laws.FnListLength", spec := "fnListLength", inPlace := ["internal/abi.NoEscape", "internal/bytealg.MakeNoZero"], apart := false, narrowed := true }
def FnListLengthUptoSaid : Prop := fnListLengthUptoRow.holds Try.pinned (OpenSpec.upto fnListLengthSpec)

/-- 'laws.FnUnitsSmall', WHERE WHAT IT READS IS OF BULK AT MOST 1048576: true; the input reads as it did. -/
def fnUnitsSmallUptoRow : OpenClaim := { program := "ytadkpooimfbolaa", sum := "f2250de77499b2618b103ae52289545e3794a1426238adb47eba3d40b5bc0c17", func := "pub-pinstripe/laws.FnUnitsSmall", spec := "fnUnitsSmall", inPlace := ["math.Float32bits", "math.Float64bits"], recurses := true, apart := false, narrowed := true }
def FnUnitsSmallUptoSaid : Prop := fnUnitsSmallUptoRow.holds Try.pinned (OpenSpec.upto fnUnitsSmallSpec)

end Rows
end Go.Proofs.Ytadkpooimfbolaa
