/- How a cell of a table of one column is aligned: the walk of getAlign, for one config and one style. No conditions. -/
import Derived.Test.YtlppbalnjogkoaaAlA
import Derived.WalkKit
import Derived.Handy
import Derived.Deep.QuietTactic
import Derived.Deep.WholeRow
import Derived.BigQuiet
import Derived.Laws.OwnMore
import Derived.WalkLawsBesides
namespace Go.Proofs.Ytlppbalnjogkoaa
open Go.RowKit
set_option linter.unusedVariables false
variable {P : Program}
abbrev hintA (h f : Bool) : Array Value := #[.bool false, .bool false, .bool false, .bool false, .bool false, .bool f, .bool h, .bool false, .bool false, .bool false, .bool false, .int .i64 0, .int .i64 0, .int .i64 0]
def sideOf (own std : Int) (num : Bool) : Int := if own = 0 then (if num then 4 else std) else own
theorem zero74 (w : World) : (zeroValue 74).run Try.prog w = .ok (.agg (ccA 0 0 0)) w := by kernel_rfl
set_option maxHeartbeats 4000000 in
set_option maxRecDepth 100000 in
theorem getAlign_row (num : Bool) (c2 c3 c4 f2 f5 f8 : Int) (gt gs gn gm : Nat) (F : Value → Option Value) (w : World) (ht39 : w.cell? ⟨gt, 39, none⟩ = some (.pointer (some ⟨gs, 0, none⟩))) (ht6 : w.cell? ⟨gt, 6, none⟩ = some (.map (some gm))) (ht4 : w.cell? ⟨gt, 4, none⟩ = some (.slice (some ⟨gn, 0, none⟩) 1 1))
    (hgs : w.heap[gs]? = some (.cells (stA f2 f5 f8) 97 (0, 0))) (hgn : w.heap[gn]? = some (.cells #[.bool (!num)] 4 (0, 0))) (hM : MapIs (.int .i64) w gm F) (hF : F (.int .i64 0) = some (.agg (ccA c2 c3 c4))) :
    Calls Try.prog 54 #[.pointer (some ⟨gt, 0, none⟩), .int .i64 0, .agg (hintA false false)] w fun e w' => e = .returned (.int .i64 (sideOf c2 f8 num)) ∧ Below w.heap.size w w' := by
  have i74 : (Try.prog.info? 74).map (·.size) = some 16 := by kernel_rfl
  have s2 : w.cell? ⟨gs, 30, none⟩ = some (.int .i64 f2) := cell_of_row w gs 30 _ 97 (0, 0) hgs
  have s5 : w.cell? ⟨gs, 33, none⟩ = some (.int .i64 f5) := cell_of_row w gs 33 _ 97 (0, 0) hgs
  have s8 : w.cell? ⟨gs, 36, none⟩ = some (.int .i64 f8) := cell_of_row w gs 36 _ 97 (0, 0) hgs
  have sn : w.cell? ⟨gn, 0, none⟩ = some (.bool (!num)) := cell_of_row w gn 0 _ 4 (0, 0) hgn
  have HF := Lib.hid hF
  have l1 : gt < w.heap.size := World.block_lt_of_cell? _ _ ht39
  have l2 : gs < w.heap.size := World.block_lt_of_cell? _ _ s2
  have l3 : gn < w.heap.size := World.block_lt_of_cell? _ _ sn
  clear hF hgs hgn
  go_enter Try.func54, Try.ntmps54
  go_wp2_with (first
    | (at_lookup; refine wpList_lookup_is (P := Try.prog) (t := 112) (kt := 3) (et := 74) (kv := .int .i64 0) (z := .agg (ccA 0 0 0)) (r := .tuple #[.agg (ccA c2 c3 c4), .bool true]) ((hM.alloc _)) Try.underlying112 Try.underlying3 ?h1 ?h2 rfl (zero74 _) ?h3 ?_; (case h1 => rfl); (case h2 => rfl); (case h3 => simp [HF.out]))
    | ((with_reducible refine gate_st (t := 74) rfl ?_); refine halt_here ?_))
  refine resume ?_
  refine store_last (P := Try.prog) ?hgd 74 (.tmp 8) (.tmp 17) ?ho (g := w.heap.size + 1) ?hg ?hx (cells := (ccA c2 c3 c4)) ?hy ?hi ?hold ?h1 ?_
  (case hgd => rfl)
  (case ho => rfl)
  (case hg => simp)
  (case hx => rfl)
  (case hy => rfl)
  (case hi => exact i74)
  (case hold => rfl)
  (case h1 => simp [Value.oneCell'])
  by_cases h0 : c2 = 0
  · subst h0
    cases num
    all_goals
      go_wp2
      go_ret
      exact ⟨rfl, ((Below.refl _ _).alloc (Nat.le_refl _) _).alloc (by simp) _⟩
  · have h0' : (c2 == 0) = false := by simpa using h0
    go_wp2
    go_ret
    exact ⟨by simp [sideOf, h0], ((Below.refl _ _).alloc (Nat.le_refl _) _).alloc (by simp) _⟩
set_option maxHeartbeats 4000000 in
set_option maxRecDepth 100000 in
theorem getAlign_head (num : Bool) (c2 c3 c4 f2 f5 f8 : Int) (gt gs gn gm : Nat) (F : Value → Option Value) (w : World) (ht39 : w.cell? ⟨gt, 39, none⟩ = some (.pointer (some ⟨gs, 0, none⟩))) (ht6 : w.cell? ⟨gt, 6, none⟩ = some (.map (some gm))) (ht4 : w.cell? ⟨gt, 4, none⟩ = some (.slice (some ⟨gn, 0, none⟩) 1 1))
    (hgs : w.heap[gs]? = some (.cells (stA f2 f5 f8) 97 (0, 0))) (hgn : w.heap[gn]? = some (.cells #[.bool (!num)] 4 (0, 0))) (hM : MapIs (.int .i64) w gm F) (hF : F (.int .i64 0) = some (.agg (ccA c2 c3 c4))) :
    Calls Try.prog 54 #[.pointer (some ⟨gt, 0, none⟩), .int .i64 0, .agg (hintA true false)] w fun e w' => e = .returned (.int .i64 (sideOf c4 f5 num)) ∧ Below w.heap.size w w' := by
  have i74 : (Try.prog.info? 74).map (·.size) = some 16 := by kernel_rfl
  have s2 : w.cell? ⟨gs, 30, none⟩ = some (.int .i64 f2) := cell_of_row w gs 30 _ 97 (0, 0) hgs
  have s5 : w.cell? ⟨gs, 33, none⟩ = some (.int .i64 f5) := cell_of_row w gs 33 _ 97 (0, 0) hgs
  have s8 : w.cell? ⟨gs, 36, none⟩ = some (.int .i64 f8) := cell_of_row w gs 36 _ 97 (0, 0) hgs
  have sn : w.cell? ⟨gn, 0, none⟩ = some (.bool (!num)) := cell_of_row w gn 0 _ 4 (0, 0) hgn
  have HF := Lib.hid hF
  have l1 : gt < w.heap.size := World.block_lt_of_cell? _ _ ht39
  have l2 : gs < w.heap.size := World.block_lt_of_cell? _ _ s2
  have l3 : gn < w.heap.size := World.block_lt_of_cell? _ _ sn
  clear hF hgs hgn
  go_enter Try.func54, Try.ntmps54
  go_wp2_with (first
    | (at_lookup; refine wpList_lookup_is (P := Try.prog) (t := 112) (kt := 3) (et := 74) (kv := .int .i64 0) (z := .agg (ccA 0 0 0)) (r := .tuple #[.agg (ccA c2 c3 c4), .bool true]) ((hM.alloc _)) Try.underlying112 Try.underlying3 ?h1 ?h2 rfl (zero74 _) ?h3 ?_; (case h1 => rfl); (case h2 => rfl); (case h3 => simp [HF.out]))
    | ((with_reducible refine gate_st (t := 74) rfl ?_); refine halt_here ?_))
  refine resume ?_
  refine store_last (P := Try.prog) ?hgd 74 (.tmp 8) (.tmp 17) ?ho (g := w.heap.size + 1) ?hg ?hx (cells := (ccA c2 c3 c4)) ?hy ?hi ?hold ?h1 ?_
  (case hgd => rfl)
  (case ho => rfl)
  (case hg => simp)
  (case hx => rfl)
  (case hy => rfl)
  (case hi => exact i74)
  (case hold => rfl)
  (case h1 => simp [Value.oneCell'])
  by_cases h0 : c4 = 0
  · subst h0
    cases num
    all_goals
      go_wp2
      go_ret
      exact ⟨rfl, ((Below.refl _ _).alloc (Nat.le_refl _) _).alloc (by simp) _⟩
  · have h0' : (c4 == 0) = false := by simpa using h0
    go_wp2
    go_ret
    exact ⟨by simp [sideOf, h0], ((Below.refl _ _).alloc (Nat.le_refl _) _).alloc (by simp) _⟩
set_option maxHeartbeats 4000000 in
set_option maxRecDepth 100000 in
theorem getAlign_foot (num : Bool) (c2 c3 c4 f2 f5 f8 : Int) (gt gs gn gm : Nat) (F : Value → Option Value) (w : World) (ht39 : w.cell? ⟨gt, 39, none⟩ = some (.pointer (some ⟨gs, 0, none⟩))) (ht6 : w.cell? ⟨gt, 6, none⟩ = some (.map (some gm))) (ht4 : w.cell? ⟨gt, 4, none⟩ = some (.slice (some ⟨gn, 0, none⟩) 1 1))
    (hgs : w.heap[gs]? = some (.cells (stA f2 f5 f8) 97 (0, 0))) (hgn : w.heap[gn]? = some (.cells #[.bool (!num)] 4 (0, 0))) (hM : MapIs (.int .i64) w gm F) (hF : F (.int .i64 0) = some (.agg (ccA c2 c3 c4))) :
    Calls Try.prog 54 #[.pointer (some ⟨gt, 0, none⟩), .int .i64 0, .agg (hintA false true)] w fun e w' => e = .returned (.int .i64 (sideOf c3 f2 num)) ∧ Below w.heap.size w w' := by
  have i74 : (Try.prog.info? 74).map (·.size) = some 16 := by kernel_rfl
  have s2 : w.cell? ⟨gs, 30, none⟩ = some (.int .i64 f2) := cell_of_row w gs 30 _ 97 (0, 0) hgs
  have s5 : w.cell? ⟨gs, 33, none⟩ = some (.int .i64 f5) := cell_of_row w gs 33 _ 97 (0, 0) hgs
  have s8 : w.cell? ⟨gs, 36, none⟩ = some (.int .i64 f8) := cell_of_row w gs 36 _ 97 (0, 0) hgs
  have sn : w.cell? ⟨gn, 0, none⟩ = some (.bool (!num)) := cell_of_row w gn 0 _ 4 (0, 0) hgn
  have HF := Lib.hid hF
  have l1 : gt < w.heap.size := World.block_lt_of_cell? _ _ ht39
  have l2 : gs < w.heap.size := World.block_lt_of_cell? _ _ s2
  have l3 : gn < w.heap.size := World.block_lt_of_cell? _ _ sn
  clear hF hgs hgn
  go_enter Try.func54, Try.ntmps54
  go_wp2_with (first
    | (at_lookup; refine wpList_lookup_is (P := Try.prog) (t := 112) (kt := 3) (et := 74) (kv := .int .i64 0) (z := .agg (ccA 0 0 0)) (r := .tuple #[.agg (ccA c2 c3 c4), .bool true]) ((hM.alloc _)) Try.underlying112 Try.underlying3 ?h1 ?h2 rfl (zero74 _) ?h3 ?_; (case h1 => rfl); (case h2 => rfl); (case h3 => simp [HF.out]))
    | ((with_reducible refine gate_st (t := 74) rfl ?_); refine halt_here ?_))
  refine resume ?_
  refine store_last (P := Try.prog) ?hgd 74 (.tmp 8) (.tmp 17) ?ho (g := w.heap.size + 1) ?hg ?hx (cells := (ccA c2 c3 c4)) ?hy ?hi ?hold ?h1 ?_
  (case hgd => rfl)
  (case ho => rfl)
  (case hg => simp)
  (case hx => rfl)
  (case hy => rfl)
  (case hi => exact i74)
  (case hold => rfl)
  (case h1 => simp [Value.oneCell'])
  by_cases h0 : c3 = 0
  · subst h0
    cases num
    all_goals
      go_wp2
      go_ret
      exact ⟨rfl, ((Below.refl _ _).alloc (Nat.le_refl _) _).alloc (by simp) _⟩
  · have h0' : (c3 == 0) = false := by simpa using h0
    go_wp2
    go_ret
    exact ⟨by simp [sideOf, h0], ((Below.refl _ _).alloc (Nat.le_refl _) _).alloc (by simp) _⟩
end Go.Proofs.Ytlppbalnjogkoaa
