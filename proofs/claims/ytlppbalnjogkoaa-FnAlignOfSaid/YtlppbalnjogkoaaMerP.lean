/- The runs of equal neighbours of a row, as lists: what is merged. No conditions. -/
import Derived.WalkKit
namespace Go.Proofs.Ytlppbalnjogkoaa
open Go.RowKit
set_option linter.unusedVariables false
def cel (c : List ByteArray) (i : Nat) : ByteArray := c.getD i ByteArray.empty
def rendF (c : List ByteArray) (i : Nat) : Nat → Nat → Nat
  | 0, k => k
  | f + 1, k => if k + 1 < c.length ∧ (cel c (k + 1)).data.toList = (cel c i).data.toList then rendF c i f (k + 1) else k
def rend (c : List ByteArray) (i k : Nat) : Nat := rendF c i (c.length - k) k
theorem rend_step (c : List ByteArray) (i k : Nat) (h : k + 1 < c.length) (he : (cel c (k + 1)).data.toList = (cel c i).data.toList) : rend c i k = rend c i (k + 1) := by
  unfold rend
  rw [show c.length - k = (c.length - (k + 1)) + 1 by omega, rendF, if_pos ⟨h, he⟩]
theorem rend_stop (c : List ByteArray) (i k : Nat) (h : ¬ (k + 1 < c.length ∧ (cel c (k + 1)).data.toList = (cel c i).data.toList)) : rend c i k = k := by
  unfold rend
  cases hf : c.length - k with
  | zero => rfl
  | succ f => rw [rendF, if_neg h]
theorem rendF_ge (c : List ByteArray) (i : Nat) : ∀ f k, k ≤ rendF c i f k
  | 0, k => Nat.le_refl _
  | f + 1, k => by
    rw [rendF]
    split
    · have := rendF_ge c i f (k + 1); omega
    · exact Nat.le_refl _
theorem rend_ge (c : List ByteArray) (i k : Nat) : k ≤ rend c i k := rendF_ge c i _ k
theorem rendF_lt (c : List ByteArray) (i : Nat) : ∀ f k, k < c.length → rendF c i f k < c.length
  | 0, k, h => h
  | f + 1, k, h => by
    rw [rendF]
    split
    · rename_i h'; exact rendF_lt c i f (k + 1) h'.1
    · exact h
theorem rend_lt (c : List ByteArray) (i k : Nat) (h : k < c.length) : rend c i k < c.length := rendF_lt c i _ k h
def runs (c : List ByteArray) (m : Int) (i : Nat) : List (Int × Int) :=
  if h : i < c.length then (if i < rend c i i ∧ (i : Int) ≤ m - 2 then [((i : Int), (rend c i i : Int))] else []) ++ runs c m (rend c i i + 1) else []
termination_by c.length - i
decreasing_by have := rend_ge c i i; omega
theorem runs_hit (c : List ByteArray) (m : Int) (i : Nat) (h : i < c.length) (h1 : i < rend c i i) (h2 : (i : Int) ≤ m - 2) : runs c m i = ((i : Int), (rend c i i : Int)) :: runs c m (rend c i i + 1) := by
  rw [runs, dif_pos h, if_pos ⟨h1, h2⟩]; rfl
theorem runs_miss (c : List ByteArray) (m : Int) (i : Nat) (h1 : ¬ (i < rend c i i ∧ (i : Int) ≤ m - 2)) (h : i < c.length) : runs c m i = runs c m (rend c i i + 1) := by
  rw [runs, dif_pos h, if_neg h1]; rfl
theorem runs_end (c : List ByteArray) (m : Int) (i : Nat) (h : ¬ i < c.length) : runs c m i = [] := by rw [runs, dif_neg h]
theorem runs_mem (c : List ByteArray) (m : Int) (d : Nat) : ∀ i, c.length - i = d → ∀ p ∈ runs c m i, ∃ s : Nat, p.1 = s ∧ i ≤ s ∧ s < c.length ∧ (s : Int) ≤ m - 2 ∧ p.1 ≤ p.2 ∧ p.2 < c.length := by
  induction d using Nat.strongRecOn with
  | _ d ih =>
    intro i hd p hp
    by_cases h : i < c.length
    · have hg := rend_ge c i i
      have hr := rend_lt c i i h
      by_cases h1 : i < rend c i i ∧ (i : Int) ≤ m - 2
      · rw [runs_hit c m i h h1.1 h1.2] at hp
        rcases List.mem_cons.1 hp with rfl | hp
        · exact ⟨i, rfl, Nat.le_refl _, h, h1.2, by simp; omega, by simp; omega⟩
        · obtain ⟨s, e1, e2, e3⟩ := ih (c.length - (rend c i i + 1)) (by omega) _ rfl p hp
          exact ⟨s, e1, by omega, e3⟩
      · rw [runs_miss c m i h1 h] at hp
        obtain ⟨s, e1, e2, e3⟩ := ih (c.length - (rend c i i + 1)) (by omega) _ rfl p hp
        exact ⟨s, e1, by omega, e3⟩
    · rw [runs_end c m i h] at hp; simp at hp
theorem runs_none (c : List ByteArray) (m : Int) (i : Nat) (h : m - 2 < (i : Int)) : runs c m i = [] := by
  cases hr : runs c m i with
  | nil => rfl
  | cons p l =>
    obtain ⟨s, _, h1, _, h2, _⟩ := runs_mem c m _ i rfl p (by rw [hr]; simp)
    omega
theorem runs_sorted (c : List ByteArray) (m : Int) (d : Nat) : ∀ i, c.length - i = d → (runs c m i).Pairwise (fun p q => p.1 < q.1) := by
  induction d using Nat.strongRecOn with
  | _ d ih =>
    intro i hd
    by_cases h : i < c.length
    · have hg := rend_ge c i i
      by_cases h1 : i < rend c i i ∧ (i : Int) ≤ m - 2
      · rw [runs_hit c m i h h1.1 h1.2]
        refine List.pairwise_cons.2 ⟨fun p hp => ?_, ih (c.length - (rend c i i + 1)) (by omega) _ rfl⟩
        obtain ⟨s, e1, e2, _⟩ := runs_mem c m _ _ rfl p hp
        rw [e1]; simp; omega
      · rw [runs_miss c m i h1 h]
        exact ih (c.length - (rend c i i + 1)) (by omega) _ rfl
    · rw [runs_end c m i h]; exact List.Pairwise.nil
/-- Pairs as a map. -/
def pmap (l : List (Int × Int)) : Value → Option Value
  | .int .i64 n => (l.find? (fun p => p.1 == n)).map (fun p => .int .i64 p.2)
  | _ => none
theorem pmap_nil : pmap [] = fun _ => none := by
  funext k
  cases k with
  | int k n => cases k <;> rfl
  | _ => rfl
theorem pmap_hit (l : List (Int × Int)) (i e : Int) (h : ∀ p ∈ l, p.1 < i) : pmap (l ++ [(i, e)]) (.int .i64 i) = some (.int .i64 e) := by
  simp only [pmap, List.find?_append]
  have : l.find? (fun p => p.1 == i) = none := by
    rw [List.find?_eq_none]
    intro p hp
    have := h p hp
    simp; omega
  rw [this]
  simp
theorem pmap_miss (l : List (Int × Int)) (i e : Int) (m : Value) (h : m ≠ .int .i64 i) : pmap (l ++ [(i, e)]) m = pmap l m := by
  cases m with
  | int k n =>
    cases k <;> try rfl
    have hn : n ≠ i := fun e => h (by rw [e])
    simp only [pmap, List.find?_append]
    have : [(i, e)].find? (fun p => p.1 == n) = none := by
      simp only [List.find?_cons, List.find?_nil]
      have : (i == n) = false := by simp; exact fun e => hn e.symm
      rw [this]
    rw [this, Option.or_none]
  | _ => rfl
/-- Those that begin ahead of k; one step further. -/
def upto (l : List (Int × Int)) (k : Nat) : List (Int × Int) := l.filter (fun p => decide (p.1 < (k : Int)))
theorem upto_hit (l : List (Int × Int)) (hs : l.Pairwise (fun p q => p.1 < q.1)) (k : Nat) (e : Value) (h : pmap l (.int .i64 k) = some e) : ∃ x : Int, e = .int .i64 x ∧ ((k : Int), x) ∈ l ∧ upto l (k + 1) = upto l k ++ [((k : Int), x)] := by
  induction l with
  | nil => simp [pmap] at h
  | cons p l ih =>
    obtain ⟨h1, h2⟩ := List.pairwise_cons.1 hs
    simp only [pmap, List.find?_cons] at h
    by_cases hp : p.1 = (k : Int)
    · have e1 : (p.1 == (k : Int)) = true := by simp [hp]
      rw [e1] at h
      simp only [Option.map_some, Option.some.injEq] at h
      obtain ⟨a, b⟩ := p
      simp only at hp h1
      subst hp
      refine ⟨b, h.symm, by simp, ?_⟩
      unfold upto
      rw [List.filter_cons, List.filter_cons, if_pos (by simp; omega), if_neg (by simp)]
      have n1 : l.filter (fun p => decide (p.1 < ((k + 1 : Nat) : Int))) = [] := by
        rw [List.filter_eq_nil_iff]
        intro q hq
        have := h1 q hq
        simp; omega
      have n2 : l.filter (fun p => decide (p.1 < (k : Int))) = [] := by
        rw [List.filter_eq_nil_iff]
        intro q hq
        have := h1 q hq
        simp; omega
      rw [n1, n2]; rfl
    · have e1 : (p.1 == (k : Int)) = false := by simp [hp]
      rw [e1] at h
      obtain ⟨x, hx, hm, hu⟩ := ih h2 h
      have hlt : p.1 < (k : Int) := h1 _ hm
      refine ⟨x, hx, List.mem_cons_of_mem _ hm, ?_⟩
      unfold upto at hu ⊢
      rw [List.filter_cons, List.filter_cons, if_pos (by simp; omega), if_pos (by simp; omega), hu]; rfl
theorem upto_miss (l : List (Int × Int)) (k : Nat) (h : pmap l (.int .i64 k) = none) : upto l (k + 1) = upto l k := by
  simp only [pmap, Option.map_eq_none_iff, List.find?_eq_none] at h
  unfold upto
  apply List.filter_congr
  intro p hp
  have := h p hp
  simp at this ⊢
  omega
theorem upto_zero (l : List (Int × Int)) (h : ∀ p ∈ l, 0 ≤ p.1) : upto l 0 = [] := by
  unfold upto
  rw [List.filter_eq_nil_iff]
  intro p hp
  have := h p hp
  simp; omega
theorem upto_all (l : List (Int × Int)) (n : Nat) (h : ∀ p ∈ l, p.1 < n) : upto l n = l := by
  unfold upto
  rw [List.filter_eq_self]
  intro p hp
  simpa using h p hp
end Go.Proofs.Ytlppbalnjogkoaa
