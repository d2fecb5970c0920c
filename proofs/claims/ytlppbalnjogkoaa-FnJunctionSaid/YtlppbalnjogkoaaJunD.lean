/- A table without columns: the walk of zzColumns for a style and no widths; for every style. No conditions. -/
import Derived.Test.YtlppbalnjogkoaaTabA
import Derived.WalkKit
import Derived.Handy
import Derived.Deep.QuietTactic
import Derived.Deep.WholeRow
import Derived.BigQuiet
import Derived.WalkLawsBesides
namespace Go.Proofs.Ytlppbalnjogkoaa
open Go.RowKit
set_option linter.unusedVariables false
variable {P : Program}
attribute [local go_sem ↓] tab_exec
attribute [local go_sem] tabK_run
def ColsNil (S : Array Value) (w : World) (e : Ending) (w' : World) : Prop :=
  e = .returned (.pointer (some ⟨w.heap.size + 4, 0, none⟩)) ∧ Below w.heap.size w w' ∧ w'.cell? ⟨w.heap.size + 4, 39, none⟩ = some (.pointer (some ⟨w.heap.size, 0, none⟩)) ∧
    (∀ o, w'.cell? ⟨w.heap.size, o, none⟩ = S[o]?) ∧ (∀ o, w'.frozen? ⟨w.heap.size, o, none⟩ = false) ∧ w'.heap.size = w.heap.size + 5
theorem cols_end {S : Array Value} {w : World} {A B C : Obj} {T : Array Value} (h : T[39]? = some (.pointer (some ⟨w.heap.size, 0, none⟩))) :
    ColsNil S w (.returned (.pointer (some ⟨w.heap.size + 1 + 1 + 1 + 1, 0, none⟩))) (((((w.alloc (.cells S 97)).alloc A).alloc B).alloc C).alloc (.cells T 132)).drew := by
  refine ⟨rfl, ?_, ?_, ?_, ?_, ?_⟩
  · exact ((((((Below.refl w.heap.size w).alloc (Nat.le_refl _) _).alloc (by simp) _).alloc (by simp; omega) _).alloc (by simp; omega) _).alloc (by simp; omega) _).drew
  · show (((((w.alloc (.cells S 97)).alloc A).alloc B).alloc C).alloc (.cells T 132)).cell? _ = _
    rw [World.cell?_alloc_at _ _ _ _ (by simp)]
    exact h
  · intro o
    show (((((w.alloc (.cells S 97)).alloc A).alloc B).alloc C).alloc (.cells T 132)).cell? _ = _
    rw [World.cell?_alloc_past _ _ _ (by simp; omega), World.cell?_alloc_past _ _ _ (by simp; omega), World.cell?_alloc_past _ _ _ (by simp; omega), World.cell?_alloc_past _ _ _ (by simp), World.cell?_alloc_at _ _ _ _ rfl]
  · intro o
    show (((((w.alloc (.cells S 97)).alloc A).alloc B).alloc C).alloc (.cells T 132)).frozen? _ = _
    rw [World.frozen?_alloc_past _ _ _ (by simp; omega), World.frozen?_alloc_past _ _ _ (by simp; omega), World.frozen?_alloc_past _ _ _ (by simp; omega), World.frozen?_alloc_past _ _ _ (by simp), World.frozen?_alloc_at _ _ _ _ rfl]
  · simp
set_option maxHeartbeats 4000000 in
set_option maxRecDepth 100000 in
theorem columns_nil (S : Array Value) (w : World) (hs : S.size = 56) (h1 : S.all (·.oneCell') = true) :
    Calls Try.prog 53 #[.slice none 0 0, .slice none 0 0, .agg S] w (ColsNil S w) := by
  have hmm := @run_makeMap Try.prog
  have hmk : ∀ w : World, (Instr.makeSlice 110 (.int .i64 0) (.int .i64 0)).run Try.prog w = .ok (.slice (some ⟨w.heap.size, 0, none⟩) 0 0) (w.alloc (.cells #[] 4)) := fun _ => by kernel_rfl
  go_enter Try.func53, Try.ntmps53
  go_wp2_with fail
  go_region
  all_goals
    go_wp2
    refine wp_loop_rounds 1 ?_
    rw [rounds_succ]
    go_wp2
    refine wp_loop_rounds 1 ?_
    rw [rounds_succ]
    go_wp2
    go_ret
    exact cols_end rfl
end Go.Proofs.Ytlppbalnjogkoaa
