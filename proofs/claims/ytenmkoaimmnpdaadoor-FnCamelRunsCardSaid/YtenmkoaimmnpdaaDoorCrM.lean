/- Rows of runes that lie in a row: what stays readable of them. No conditions. -/
import Derived.Test.YtenmkoaimmnpdaaDoorTiP
import Derived.Test.YtenmkoaimmnpdaaDoorTwTexts
import Derived.Test.YtenmkoaimmnpdaaDoorCrP
namespace Go.Proofs.YtenmkoaimmnpdaaDoor
open Go.RowKit
set_option linter.unusedVariables false
abbrev eR : TypeId := 21
abbrev eG : TypeId := 29
theorem own_set {w : World} {B e n g cap k : Nat} {xs : List Value} (h : w.ownsRow B e 1 (.slice (some ⟨g, 0, none⟩) n cap) n xs) (hk : k < n) (u : Value) : (w.setCell ⟨g, k, none⟩ u).ownsRow B e 1 (.slice (some ⟨g, 0, none⟩) n cap) n (xs.set k u) := by
  obtain ⟨h1, h2⟩ := h
  refine ⟨by rw [List.length_set]; exact h1, ?_⟩
  rcases h2 with ⟨h2, _⟩ | ⟨g', cap', cur, hv, hg, hh, hn, hc, hs, ht⟩
  · cases h2
  · cases hv
    refine .inr ⟨g, cap, cur.setIfInBounds k u, rfl, hg, heap_setCell_same w g k cur e u hh, hn, hc, by simpa using hs, ?_⟩
    rw [← ht, Array.toList_setIfInBounds, List.take_set]
/-- A row of runes, as a reader sees it: at a block below Bl. -/
def SeenR (w : World) (Bl : Nat) (v : Value) (l : List UInt8) : Prop :=
  ∃ g cap cur fz, v = .slice (some ⟨g, 0, none⟩) l.length cap ∧ l.length ≤ cap ∧ cap ≤ maxLen ∧ g < Bl ∧ w.heap[g]? = some (.cells cur eR fz) ∧ cur.toList.take l.length = l.map rv
theorem SeenR.keep {w w' : World} {Bl Bl' : Nat} {v : Value} {l : List UInt8} (h : SeenR w Bl v l) (hB : Bl ≤ Bl') (hk : ∀ g cur fz, g < Bl → w.heap[g]? = some (.cells cur eR fz) → w'.heap[g]? = w.heap[g]?) : SeenR w' Bl' v l := by
  obtain ⟨g, cap, cur, fz, e, h1, h2, h3, h4, h5⟩ := h
  exact ⟨g, cap, cur, fz, e, h1, h2, by omega, (hk g cur fz h3 h4).trans h4, h5⟩
theorem SeenR.below {w w' : World} {Bl : Nat} {v : Value} {l : List UInt8} (h : SeenR w Bl v l) (hb : Below Bl w w') : SeenR w' Bl v l := h.keep (Nat.le_refl _) fun g _ _ hg _ => hb.block g hg
theorem SeenR.more {w : World} {Bl Bl' : Nat} {v : Value} {l : List UInt8} (h : SeenR w Bl v l) (hB : Bl ≤ Bl') : SeenR w Bl' v l := h.keep hB fun _ _ _ _ _ => rfl
/-- What is written at blocks of another kind does not touch it. -/
theorem SeenR.other {w w' : World} {Bl : Nat} {v : Value} {l : List UInt8} {go : Nat} {cur : Array Value} {T : TypeId} {fz : Nat × Nat} (h : SeenR w Bl v l) (ho : w.heap[go]? = some (.cells cur T fz)) (hT : T ≠ eR) (hk : ∀ g, g < w.heap.size → g ≠ go → w'.heap[g]? = w.heap[g]?) : SeenR w' Bl v l := by
  refine h.keep (Nat.le_refl _) fun g c f hg hh => hk g ?_ ?_
  · exact (Array.getElem?_eq_some_iff.1 hh).1
  · rintro rfl
    rw [ho] at hh
    simp only [Option.some.injEq, Obj.cells.injEq] at hh
    exact hT hh.2.1
theorem SeenR.cell {w : World} {Bl : Nat} {v : Value} {l : List UInt8} (h : SeenR w Bl v l) : ∃ g cap, v = .slice (some ⟨g, 0, none⟩) l.length cap ∧ g < Bl ∧ l.length ≤ cap ∧ ∀ k (hk : k < l.length), w.cell? ⟨g, k, none⟩ = some (rv l[k]) := by
  obtain ⟨g, cap, cur, fz, e, h1, h2, h3, h4, h5⟩ := h
  refine ⟨g, cap, e, h3, h1, fun k hk => ?_⟩
  rw [cell_of_row w g k cur eR fz h4]
  have := congrArg (fun l => l[k]?) h5
  simp only [List.getElem?_take, List.getElem?_map, if_pos hk, List.getElem?_eq_getElem hk, Option.map_some] at this
  rw [← Array.getElem?_toList]; exact this
theorem SeenR.of_own {w : World} {B : Nat} {v : Value} {l : List UInt8} (h : w.ownsRow B eR 1 v l.length (l.map rv)) (hl : l ≠ []) : SeenR w w.heap.size v l := by
  have hl0 := List.length_pos_iff.2 hl
  rcases h.2 with ⟨_, h0⟩ | ⟨g, cap, cur, hv, hg, hh, hn, hc, hs, ht⟩
  · omega
  · exact ⟨g, cap, cur, (0, 0), hv, hn, hc, (Array.getElem?_eq_some_iff.1 hh).1, hh, by simpa using ht⟩
theorem SeenR.init {w : World} {Bl g n cap : Nat} {l : List UInt8} (h : SeenR w Bl (.slice (some ⟨g, 0, none⟩) n cap) l) : SeenR w Bl (.slice (some ⟨g, 0, none⟩) (n - 1) cap) l.dropLast := by
  obtain ⟨g', cap', cur, fz, e, h1, h2, h3, h4, h5⟩ := h
  cases e
  refine ⟨g, cap, cur, fz, by rw [List.length_dropLast], by rw [List.length_dropLast]; omega, h2, h3, h4, ?_⟩
  rw [List.length_dropLast, List.dropLast_eq_take, List.map_take, ← h5, List.take_take, Nat.min_eq_left (by omega)]
/-- A row of rows of runes: the values of its places, and what they read as. -/
def AllR (w : World) (Bl : Nat) (vs : List Value) (G : List (List UInt8)) : Prop := vs.length = G.length ∧ ∀ (i : Nat) (v : Value) (g : List UInt8), vs[i]? = some v → G[i]? = some g → SeenR w Bl v g
theorem AllR.keep {w w' : World} {Bl Bl' : Nat} {vs : List Value} {G : List (List UInt8)} (h : AllR w Bl vs G) (hk : ∀ v g, SeenR w Bl v g → SeenR w' Bl' v g) : AllR w' Bl' vs G := ⟨h.1, fun i v g h1 h2 => hk v g (h.2 i v g h1 h2)⟩
theorem AllR.nil (w : World) (Bl : Nat) : AllR w Bl [] [] := ⟨rfl, fun i v g h _ => by simp at h⟩
theorem AllR.snoc {w : World} {Bl : Nat} {vs : List Value} {G : List (List UInt8)} {v : Value} {g : List UInt8} (h : AllR w Bl vs G) (hv : SeenR w Bl v g) : AllR w Bl (vs ++ [v]) (G ++ [g]) := by
  refine ⟨by simp [h.1], fun i u k h1 h2 => ?_⟩
  rcases Nat.lt_trichotomy i vs.length with hi | hi | hi
  · rw [List.getElem?_append_left hi] at h1
    rw [List.getElem?_append_left (by rw [← h.1]; exact hi)] at h2
    exact h.2 i u k h1 h2
  · subst hi
    rw [List.getElem?_concat_length] at h1
    rw [h.1, List.getElem?_concat_length] at h2
    cases h1; cases h2; exact hv
  · rw [List.getElem?_eq_none (by simp; omega)] at h1
    cases h1
theorem AllR.set {w : World} {Bl : Nat} {vs : List Value} {G : List (List UInt8)} {v : Value} {g : List UInt8} {k : Nat} (h : AllR w Bl vs G) (hv : SeenR w Bl v g) : AllR w Bl (vs.set k v) (G.set k g) := by
  refine ⟨by simp [h.1], fun i u q h1 h2 => ?_⟩
  rw [List.getElem?_set] at h1 h2
  split at h1
  · rename_i hik
    rw [if_pos hik] at h2
    split at h1
    · split at h2
      · cases h1; cases h2; exact hv
      · cases h2
    · cases h1
  · rename_i hik
    rw [if_neg hik] at h2
    exact h.2 i u q h1 h2
end Go.Proofs.YtenmkoaimmnpdaaDoor
