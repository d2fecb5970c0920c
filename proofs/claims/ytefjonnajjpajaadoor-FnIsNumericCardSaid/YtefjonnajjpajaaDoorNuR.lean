/- Words for read's walk. No conditions. -/
import Derived.Test.YtefjonnajjpajaaDoorNuJ
namespace Go.Proofs.YtefjonnajjpajaaDoor
open Go.RowKit
set_option linter.unusedVariables false
def ReadRet (t : ByteArray) (w : World) (e : Ending) (w' : World) : Prop :=
  (¬ NumT (bt t) t.size ∧ e = .returned (.tuple #[.pointer none, .bool false]) ∧ Below w.heap.size w w') ∨
  (NumT (bt t) t.size ∧ ∃ (b : Nat) (v : Value) (ds : List Nat) (dp : Int), e = .returned (.tuple #[.pointer (some ⟨b, 0, none⟩), .bool true]) ∧ Dec w' w.heap.size b v ds dp ∧ (ds = [] ∨ Good ds) ∧ ds.length ≤ 1000 ∧ (-200 ≤ dp ∧ dp ≤ 200) ∧ Below w.heap.size w w')
theorem Rg.dig {i : Nat} {ds : List Nat} {dp : Int} (h : Rg i ds dp) : ∀ d ∈ ds, d < 256 := by
  intro d hd
  rcases h.2.2 with rfl | hg
  · cases hd
  · have := hg.1 d hd; omega
theorem Rg.trim {i : Nat} {ds : List Nat} {dp : Int} (h : Rg i ds dp) : trimD ds = [] ∨ Good (trimD ds) := by
  rcases h.2.2 with rfl | hg
  · exact .inl rfl
  · exact .inr (trimD_good hg).1
theorem Rg.bound {i : Nat} {ds : List Nat} {dp : Int} (h : Rg i ds dp) (hi : i ≤ 100) : -100 ≤ dp ∧ dp ≤ 100 := by
  have := h.2.1; omega
theorem dpb {l : List Nat} {x : Int} (h : -200 ≤ x ∧ x ≤ 200) : -200 ≤ (if l = [] then 0 else x) ∧ (if l = [] then (0 : Int) else x) ≤ 200 := by
  split <;> omega
theorem low_ltr {c : Nat} (h : Ltr c) : ∃ r : Int, bits .or .u8 (c : Int) 32 = r ∧ (r == 120) = false := by
  have hc : c < 256 := by unfold Ltr isD at h; omega
  have : ∀ c : Fin 256, Ltr c.val → (bits .or .u8 (c.val : Int) 32 == 120) = false := by decide +kernel
  exact ⟨_, rfl, this ⟨c, hc⟩ h⟩
theorem dec_new {w w3 w4 : World} {ds : List Nat} {y L c6 : Nat} {A6 : Option Addr} {v : Value} {dp : Int} (ho : w3.ownsRow w.heap.size tU 1 (.slice A6 (L + 1) c6) (L + 1) (ds.map dc ++ [.int .u8 (y : Int)])) (hl : ds.length = L)
    (hb : Blk w3 w.heap.size tD #[v, .int .i64 dp]) (p : Put w3 w4 w.heap.size) (hb4 : Blk w4 w.heap.size tD #[.slice A6 (L + 1) c6, .int .i64 dp]) : Dec w4 w.heap.size w.heap.size (.slice A6 (L + 1) c6) (ds ++ [y]) dp := by
  subst hl
  have h0 : w3.ownsRow w.heap.size tU 1 (.slice A6 (ds.length + 1) c6) (ds ++ [y]).length ((ds ++ [y]).map dc) := by
    rw [List.length_append, List.map_append]
    exact ho
  refine ⟨hb4, ?_, Nat.le_refl _⟩
  refine h0.kept p.grown (.inr fun e => ?_)
  rcases h0.2 with ⟨e2, _⟩ | ⟨g, cap, cur, e2, _, hgb, _⟩
  · rw [e2] at e; simp [Value.ownBlock] at e
  · rw [e2] at e
    simp [Value.ownBlock] at e
    subst e
    exact Blk.type_ne (t := tU) (u := tD) hgb hb (by decide) rfl
end Go.Proofs.YtefjonnajjpajaaDoor
