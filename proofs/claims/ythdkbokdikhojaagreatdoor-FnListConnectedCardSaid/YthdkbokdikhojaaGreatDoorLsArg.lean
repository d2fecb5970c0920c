/- A list of items that came in as an argument. No conditions. -/
import Derived.Test.YthdkbokdikhojaaGreatDoorLsA
namespace Go.Proofs.YthdkbokdikhojaaGreatDoor
open Go.RowKit Go.ChangeShapes Go.WideShapes Go.Deep
set_option linter.unusedVariables false
section
variable {H : Type} {enc : TypeId × Value → H} {W : World} {base : Nat} {spare : Nat → Bool} {held : Bool}
theorem rows_map {α : Type} {f : α → List Value} : ∀ (rows : List (List Value)), (∀ r ∈ rows, ∃ x, r = f x) → ∃ l : List α, rows = l.map f
  | [], _ => ⟨[], rfl⟩
  | r :: rows, h => by
    obtain ⟨x, rfl⟩ := h r (by simp)
    obtain ⟨l, rfl⟩ := rows_map rows (fun r hr => h r (by simp [hr]))
    exact ⟨x :: l, rfl⟩
theorem args_LsItem {a : Option Addr} {len cap : Nat} {d : DataW H} {ps : List MemPlace} (h : DataW.Trod enc Tryz.prog W base spare held 22 (.slice a len cap) d ps) : ∃ l, LsArg W W.heap.size a len cap l := by
  obtain ⟨rows, hr, h1, h2, hf⟩ := args_recs Tryz.underlying22 Tryz.underlying35 (by kernel_rfl) (by kernel_rfl) (by decide) h
  obtain ⟨l, rfl⟩ := rows_map (f := lsRow) rows (fun r hm => by
    obtain ⟨n, hn⟩ := hf r hm
    have hl := hr.2.1 r hm
    match r, hl with
    | [c0, c1], _ =>
      obtain ⟨y0, g0⟩ := hn 0 _ c0 rfl rfl
      obtain ⟨y1, g1⟩ := hn 1 _ c1 rfl rfl
      obtain ⟨s, e0, _⟩ := DataW.trod_string Tryz.underlying9 g0
      obtain ⟨z, e1, _⟩ := DataW.trod_int Tryz.underlying3 g1
      simp at e0 e1
      subst e0; subst e1
      exact ⟨(s, z), rfl⟩)
  exact ⟨l, hr, by simpa using hr.1, h1, h2⟩
end
end Go.Proofs.YthdkbokdikhojaaGreatDoor
