/- FnAlignOf: the walk of impl.AlignOf, of spec.Side and of the law. Kinds 0, 1, 2. -/
import Derived.Test.YtlppbalnjogkoaaAlC
import Derived.WalkKit
import Derived.Handy
import Derived.Deep.QuietTactic
import Derived.Deep.WholeRow
import Derived.BigQuiet
import Derived.Laws.OwnMore
import Derived.WalkLawsBesides
namespace Go.Proofs.Ytlppbalnjogkoaa
open Go.RowKit
set_option linter.unusedVariables false
variable {P : Program}
theorem side_any (own std : Int) (num : Bool) (w : World) : Calls Try.prog 29 #[.int .i64 own, .int .i64 std, .bool num] w fun e w' => e = .returned (.int .i64 (sideOf own std num)) ∧ w = w' := by
  by_cases h0 : own = 0
  · subst h0
    cases num
    all_goals
      go_enter Try.func29, Try.ntmps29
      go_wp2
      go_ret
      exact ⟨rfl, rfl⟩
  · have h0' : (own != 0) = true := by simpa using h0
    go_enter Try.func29, Try.ntmps29
    go_wp2
    go_ret
    exact ⟨by simp [sideOf, h0], rfl⟩
attribute [local go_sem ↓] ld74_exec
set_option maxHeartbeats 4000000 in
set_option maxRecDepth 100000 in
theorem alignOf_row (own std : Int) (num : Bool) (w : World) :
    Calls Try.prog 28 #[.int .i64 0, .int .i64 own, .int .i64 std, .bool num] w fun e w' => e = .returned (.int .i64 (sideOf own std num)) ∧ Below w.heap.size w w' := by
  have i74 : (Try.prog.info? 74).map (·.size) = some 16 := by kernel_rfl
  have i97 : (Try.prog.info? 97).map (·.size) = some 56 := by kernel_rfl
  go_enter Try.func28, Try.ntmps28
  go_wp2_with (first
    | ((with_reducible refine gate_st (t := 74) rfl ?_); refine halt_here ?_)
    | ((with_reducible refine gate_st (t := 97) rfl ?_); refine halt_here ?_))
  refine resume ?_
  refine store_last (P := Try.prog) ?hgd 74 (.tmp 9) (.tmp 11) ?ho (g := w.heap.size) rfl ?hx (cells := (ccA 0 0 0)) ?hy ?hi ?hold ?h1 ?_
  (case hgd => rfl)
  (case ho => rfl)
  (case hx => rfl)
  (case hy => rfl)
  (case hi => exact i74)
  (case hold => rfl)
  (case h1 => simp [Value.oneCell'])
  go_wp2_with ((with_reducible refine gate_st (t := 97) rfl ?_); refine halt_here ?_)
  refine resume ?_
  refine store_last (P := Try.prog) ?hgd 97 (.tmp 10) (.tmp 12) ?ho (g := w.heap.size + 1) ?hg ?hx (cells := (stA 0 0 0)) ?hy ?hi ?hold ?h1 ?_
  (case hgd => rfl)
  (case ho => rfl)
  (case hg => simp)
  (case hx => rfl)
  (case hy => rfl)
  (case hi => exact i97)
  (case hold => rfl)
  (case h1 => simp [Value.oneCell'])
  go_wp2_with (first
    | ((with_reducible refine gate_ld (t := 74) rfl ?_)
       refine wpList_load_row ?hgd 74 (.tmp 9) ?ho w.heap.size ?hx 74 (cs := (ccA own 0 0)) (fr := (0, 0)) (d := _) ?hg Try.underlying74 ?hd ?hi ?_
       (case hgd => rfl)
       (case ho => rfl)
       (case hx => rfl)
       (case hg => (repeat first | exact hp_new (by simp) | refine hp_alloc ?_))
       (case hd => rfl)
       (case hi => exact i74))
    | ((with_reducible refine gate_ld (t := 97) rfl ?_)
       refine wpList_load_row ?hgd 97 (.tmp 10) ?ho (w.heap.size + 1) ?hx 97 (cs := (stA 0 0 std)) (fr := (0, 0)) (d := _) ?hg Try.underlying97 ?hd ?hi ?_
       (case hgd => rfl)
       (case ho => rfl)
       (case hx => rfl)
       (case hg => (repeat first | exact hp_new (by simp) | refine hp_alloc ?_))
       (case hd => rfl)
       (case hi => exact i97))
    | (go_at_call 46; (refine (zzAlign_row num own 0 0 0 0 std _).mono ?_); rintro e w1 ⟨rfl, hb⟩))
  go_ret
  exact ⟨rfl, (((Below.refl _ _).alloc (Nat.le_refl _) _).alloc (by simp) _).trans (hb.mono (by simp; omega))⟩
set_option maxHeartbeats 4000000 in
set_option maxRecDepth 100000 in
theorem alignOf_head (own std : Int) (num : Bool) (w : World) :
    Calls Try.prog 28 #[.int .i64 1, .int .i64 own, .int .i64 std, .bool num] w fun e w' => e = .returned (.int .i64 (sideOf own std num)) ∧ Below w.heap.size w w' := by
  have i74 : (Try.prog.info? 74).map (·.size) = some 16 := by kernel_rfl
  have i97 : (Try.prog.info? 97).map (·.size) = some 56 := by kernel_rfl
  go_enter Try.func28, Try.ntmps28
  go_wp2_with (first
    | ((with_reducible refine gate_st (t := 74) rfl ?_); refine halt_here ?_)
    | ((with_reducible refine gate_st (t := 97) rfl ?_); refine halt_here ?_))
  refine resume ?_
  refine store_last (P := Try.prog) ?hgd 74 (.tmp 9) (.tmp 11) ?ho (g := w.heap.size) rfl ?hx (cells := (ccA 0 0 0)) ?hy ?hi ?hold ?h1 ?_
  (case hgd => rfl)
  (case ho => rfl)
  (case hx => rfl)
  (case hy => rfl)
  (case hi => exact i74)
  (case hold => rfl)
  (case h1 => simp [Value.oneCell'])
  go_wp2_with ((with_reducible refine gate_st (t := 97) rfl ?_); refine halt_here ?_)
  refine resume ?_
  refine store_last (P := Try.prog) ?hgd 97 (.tmp 10) (.tmp 12) ?ho (g := w.heap.size + 1) ?hg ?hx (cells := (stA 0 0 0)) ?hy ?hi ?hold ?h1 ?_
  (case hgd => rfl)
  (case ho => rfl)
  (case hg => simp)
  (case hx => rfl)
  (case hy => rfl)
  (case hi => exact i97)
  (case hold => rfl)
  (case h1 => simp [Value.oneCell'])
  go_wp2_with (first
    | ((with_reducible refine gate_ld (t := 74) rfl ?_)
       refine wpList_load_row ?hgd 74 (.tmp 9) ?ho w.heap.size ?hx 74 (cs := (ccA 0 0 own)) (fr := (0, 0)) (d := _) ?hg Try.underlying74 ?hd ?hi ?_
       (case hgd => rfl)
       (case ho => rfl)
       (case hx => rfl)
       (case hg => (repeat first | exact hp_new (by simp) | refine hp_alloc ?_))
       (case hd => rfl)
       (case hi => exact i74))
    | ((with_reducible refine gate_ld (t := 97) rfl ?_)
       refine wpList_load_row ?hgd 97 (.tmp 10) ?ho (w.heap.size + 1) ?hx 97 (cs := (stA 0 std 0)) (fr := (0, 0)) (d := _) ?hg Try.underlying97 ?hd ?hi ?_
       (case hgd => rfl)
       (case ho => rfl)
       (case hx => rfl)
       (case hg => (repeat first | exact hp_new (by simp) | refine hp_alloc ?_))
       (case hd => rfl)
       (case hi => exact i97))
    | (go_at_call 46; (refine (zzAlign_head num 0 0 own 0 std 0 _).mono ?_); rintro e w1 ⟨rfl, hb⟩))
  go_ret
  exact ⟨rfl, (((Below.refl _ _).alloc (Nat.le_refl _) _).alloc (by simp) _).trans (hb.mono (by simp; omega))⟩
set_option maxHeartbeats 4000000 in
set_option maxRecDepth 100000 in
theorem alignOf_foot (own std : Int) (num : Bool) (w : World) :
    Calls Try.prog 28 #[.int .i64 2, .int .i64 own, .int .i64 std, .bool num] w fun e w' => e = .returned (.int .i64 (sideOf own std num)) ∧ Below w.heap.size w w' := by
  have i74 : (Try.prog.info? 74).map (·.size) = some 16 := by kernel_rfl
  have i97 : (Try.prog.info? 97).map (·.size) = some 56 := by kernel_rfl
  go_enter Try.func28, Try.ntmps28
  go_wp2_with (first
    | ((with_reducible refine gate_st (t := 74) rfl ?_); refine halt_here ?_)
    | ((with_reducible refine gate_st (t := 97) rfl ?_); refine halt_here ?_))
  refine resume ?_
  refine store_last (P := Try.prog) ?hgd 74 (.tmp 9) (.tmp 11) ?ho (g := w.heap.size) rfl ?hx (cells := (ccA 0 0 0)) ?hy ?hi ?hold ?h1 ?_
  (case hgd => rfl)
  (case ho => rfl)
  (case hx => rfl)
  (case hy => rfl)
  (case hi => exact i74)
  (case hold => rfl)
  (case h1 => simp [Value.oneCell'])
  go_wp2_with ((with_reducible refine gate_st (t := 97) rfl ?_); refine halt_here ?_)
  refine resume ?_
  refine store_last (P := Try.prog) ?hgd 97 (.tmp 10) (.tmp 12) ?ho (g := w.heap.size + 1) ?hg ?hx (cells := (stA 0 0 0)) ?hy ?hi ?hold ?h1 ?_
  (case hgd => rfl)
  (case ho => rfl)
  (case hg => simp)
  (case hx => rfl)
  (case hy => rfl)
  (case hi => exact i97)
  (case hold => rfl)
  (case h1 => simp [Value.oneCell'])
  go_wp2_with (first
    | ((with_reducible refine gate_ld (t := 74) rfl ?_)
       refine wpList_load_row ?hgd 74 (.tmp 9) ?ho w.heap.size ?hx 74 (cs := (ccA 0 own 0)) (fr := (0, 0)) (d := _) ?hg Try.underlying74 ?hd ?hi ?_
       (case hgd => rfl)
       (case ho => rfl)
       (case hx => rfl)
       (case hg => (repeat first | exact hp_new (by simp) | refine hp_alloc ?_))
       (case hd => rfl)
       (case hi => exact i74))
    | ((with_reducible refine gate_ld (t := 97) rfl ?_)
       refine wpList_load_row ?hgd 97 (.tmp 10) ?ho (w.heap.size + 1) ?hx 97 (cs := (stA std 0 0)) (fr := (0, 0)) (d := _) ?hg Try.underlying97 ?hd ?hi ?_
       (case hgd => rfl)
       (case ho => rfl)
       (case hx => rfl)
       (case hg => (repeat first | exact hp_new (by simp) | refine hp_alloc ?_))
       (case hd => rfl)
       (case hi => exact i97))
    | (go_at_call 46; (refine (zzAlign_foot num 0 own 0 std 0 0 _).mono ?_); rintro e w1 ⟨rfl, hb⟩))
  go_ret
  exact ⟨rfl, (((Below.refl _ _).alloc (Nat.le_refl _) _).alloc (by simp) _).trans (hb.mono (by simp; omega))⟩
theorem alignOf_any (kind own std : Int) (num : Bool) (w : World) (h0 : 0 ≤ kind) (h2 : kind ≤ 2) :
    Calls Try.prog 28 #[.int .i64 kind, .int .i64 own, .int .i64 std, .bool num] w fun e w' => e = .returned (.int .i64 (sideOf own std num)) ∧ Below w.heap.size w w' := by
  have h : kind = 0 ∨ kind = 1 ∨ kind = 2 := by omega
  rcases h with rfl | rfl | rfl
  · exact alignOf_row own std num w
  · exact alignOf_head own std num w
  · exact alignOf_foot own std num w
theorem lawAlign (kind own std : Int) (num : Bool) (w : World) (h1 : -9223372036854775808 ≤ kind ∧ kind ≤ 9223372036854775807) (h2 : -9223372036854775808 ≤ own ∧ own ≤ 9223372036854775807) (h3 : -9223372036854775808 ≤ std ∧ std ≤ 9223372036854775807) :
    Calls Try.prog 10 #[.int .i64 kind, .int .i64 own, .int .i64 std, .bool num] w fun e w' => e = .returned (.bool true) ∧ Below w.heap.size w w' := by
  clear h1 h2 h3
  by_cases hk : 0 ≤ kind ∧ kind ≤ 2
  · obtain ⟨a, b⟩ := hk
    go_enter Try.func10, Try.ntmps10
    go_wp2_with (first
      | (go_at_call 28; (refine (alignOf_any kind own std num _ a b).mono ?_); rintro e w1 ⟨rfl, hb⟩)
      | (go_at_call 29; (refine (side_any own std num _).mono ?_); rintro e w2 ⟨rfl, rfl⟩))
    go_ret
    exact ⟨ret_true (by simp), hb⟩
  · by_cases h0 : kind < 0
    · go_enter Try.func10, Try.ntmps10
      go_wp2
      go_ret
      exact ⟨rfl, Below.refl _ _⟩
    · have h2 : 2 < kind := by omega
      go_enter Try.func10, Try.ntmps10
      go_wp2
      go_ret
      exact ⟨rfl, Below.refl _ _⟩
end Go.Proofs.Ytlppbalnjogkoaa
