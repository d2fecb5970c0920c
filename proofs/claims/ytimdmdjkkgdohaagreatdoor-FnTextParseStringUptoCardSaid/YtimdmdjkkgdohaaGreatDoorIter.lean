/- Small words on an iterator over a text beside a row of the call's own. No conditions. -/
import Derived.WalkKit
import Derived.Below
import Derived.Laws.OwnMore
import Derived.Laws.MakeOwn
import Derived.Lib.OthersKept
namespace Go.Proofs.YtimdmdjkkgdohaaGreatDoor
open Go.RowKit
set_option linter.unusedVariables false
theorem itNew {W : World} {o : Obj} {k : Nat} (h : k = W.heap.size) : (W.alloc o).heap[k]? = some o := by subst h; exact heap_alloc_new W o
theorem itOwn {w : World} {B e size n : Nat} {v : Value} {xs : List Value} {k : Nat} {s : ByteArray} {pos : Nat} (h : w.ownsRow B e size v n xs) (hk : w.heap[k]? = some (.stringIter s pos)) (pos' : Nat) : (w.iterAt k s pos').ownsRow B e size v n xs := by
  refine ⟨h.1, ?_⟩
  rcases h.2 with h0 | ⟨g, cap, cur, hv, hb, hg, rest⟩
  · exact .inl h0
  · refine .inr ⟨g, cap, cur, hv, hb, ?_, rest⟩
    rw [Lib.iterAt_other _ _ _ _ _ (fun e => by subst e; rw [hk] at hg; cases hg)]
    exact hg
theorem itNe {w : World} {B e size n : Nat} {v : Value} {xs : List Value} {k : Nat} {s : ByteArray} {pos : Nat} (h : w.ownsRow B e size v n xs) (hk : w.heap[k]? = some (.stringIter s pos)) : some k ≠ v.ownBlock := by
  rcases h.2 with ⟨rfl, _⟩ | ⟨g, cap, cur, rfl, hb, hg, rest⟩
  · simp [Value.ownBlock]
  · intro e
    simp only [Value.ownBlock, Option.some.injEq] at e
    subst e
    rw [hk] at hg; cases hg
theorem itPos {w : World} {k : Nat} {s : ByteArray} {p : Nat} (h : w.heap[k]? = some (.stringIter s p)) : w.iterPos k = p := by simp [World.iterPos, h]
theorem itOld {W : World} {o o' : Obj} {k : Nat} (h : W.heap[k]? = some o) : (W.alloc o').heap[k]? = some o := (Below.heap_alloc W _ _ (Array.getElem?_eq_some_iff.1 h).1).trans h
end Go.Proofs.YtimdmdjkkgdohaaGreatDoor
