/- What read has read after i characters, in plain Lean. -/
import Derived.Test.YtefjonnajjpajaaDoorNuP
import Derived.Test.YtefjonnajjpajaaDoorNuH
namespace Go.Proofs.YtefjonnajjpajaaDoor
set_option linter.unusedVariables false
def Rd (f : Nat → Nat) (n i : Nat) (dot sm : Bool) : Prop :=
  (dot = false ∧ (∀ q, q < i → isD (f q)) ∧ sm = decide (0 < i)) ∨
  (dot = true ∧ ∃ m, m < i ∧ m < n ∧ (∀ q, q < m → isD (f q)) ∧ f m = 46 ∧ (∀ q, m + 1 ≤ q → q < i → isD (f q)) ∧ sm = decide (0 < m ∨ m + 1 < i))
theorem Rd.start (f : Nat → Nat) (n : Nat) : Rd f n 0 false false := .inl ⟨rfl, fun q h => absurd h (by omega), rfl⟩
theorem Rd.digit {f : Nat → Nat} {n i : Nat} {dot sm : Bool} (h : Rd f n i dot sm) (hd : isD (f i)) : Rd f n (i + 1) dot true := by
  rcases h with ⟨rfl, h1, _⟩ | ⟨rfl, m, h1, h2, h3, h4, h5, _⟩
  · refine .inl ⟨rfl, fun q hq => ?_, by simp⟩
    by_cases e : q = i
    · subst e; exact hd
    · exact h1 q (by omega)
  · refine .inr ⟨rfl, m, by omega, h2, h3, h4, fun q ha hb => ?_, ?_⟩
    · by_cases e : q = i
      · subst e; exact hd
      · exact h5 q ha (by omega)
    · exact (decide_eq_true (show 0 < m ∨ m + 1 < i + 1 by omega)).symm
theorem Rd.point {f : Nat → Nat} {n i : Nat} {sm : Bool} (h : Rd f n i false sm) (hi : i < n) (hp : f i = 46) : Rd f n (i + 1) true sm := by
  rcases h with ⟨_, h1, h2⟩ | ⟨h0, _⟩
  · refine .inr ⟨rfl, i, by omega, hi, h1, hp, fun q ha hb => by omega, ?_⟩
    rw [h2]
    exact decide_eq_decide.2 (by omega)
  · exact absurd h0 (by decide)
theorem not_isD46 : ¬ isD 46 := by unfold isD; omega
theorem Rd.stop {f : Nat → Nat} {n i : Nat} {dot sm : Bool} (h : Rd f n i dot sm) (hi : i ≤ n) (hs : i < n → ¬ isD (f i)) (hs2 : i < n → dot = false → f i ≠ 46) : ∃ m1, Mant f n m1 i ∧ (sm = true ↔ (0 < m1 ∨ m1 + 1 < i)) := by
  rcases h with ⟨rfl, h1, h2⟩ | ⟨rfl, m, h1, h2, h3, h4, h5, h6⟩
  · refine ⟨i, ⟨⟨Nat.zero_le _, hi, fun q _ hq => h1 q hq, hs⟩, .inr ⟨fun h => hs2 h.1 rfl h.2, rfl⟩⟩, ?_⟩
    rw [h2, decide_eq_true_eq]
    omega
  · refine ⟨m, ⟨⟨Nat.zero_le _, by omega, fun q _ hq => h3 q hq, fun _ => by rw [h4]; exact not_isD46⟩, .inl ⟨⟨h2, h4⟩, ⟨by omega, hi, h5, hs⟩⟩⟩, ?_⟩
    rw [h6, decide_eq_true_eq]
/-- The digits kept of i characters, and the point. -/
def Rg (i : Nat) (ds : List Nat) (dp : Int) : Prop := ds.length ≤ i ∧ dp.natAbs ≤ i ∧ (ds = [] ∨ Good ds)
theorem Rg.start : Rg 0 [] 0 := ⟨Nat.le_refl _, by simp, .inl rfl⟩
theorem Rg.skip {i : Nat} {ds : List Nat} {dp : Int} (h : Rg i ds dp) : Rg (i + 1) ds dp := ⟨by have := h.1; omega, by have := h.2.1; omega, h.2.2⟩
theorem Rg.less {i : Nat} {ds : List Nat} {dp : Int} (h : Rg i ds dp) : Rg (i + 1) ds (dp - 1) := ⟨by have := h.1; omega, by have := h.2.1; omega, h.2.2⟩
theorem Rg.snoc {i : Nat} {ds : List Nat} {dp : Int} (h : Rg i ds dp) {d : Nat} (hd : d < 10) (h0 : ds ≠ [] ∨ d ≠ 0) {dp' : Int} (hp : dp' = dp ∨ dp' = dp + 1) : Rg (i + 1) (ds ++ [d]) dp' := by
  refine ⟨by have := h.1; simp; omega, by have := h.2.1; omega, .inr ⟨?_, ?_⟩⟩
  · intro x hx
    rcases List.mem_append.1 hx with hx | hx
    · rcases h.2.2 with rfl | hg
      · cases hx
      · exact hg.1 x hx
    · rw [List.mem_singleton.1 hx]; exact hd
  · rcases h.2.2 with rfl | ⟨_, e, t, rfl, he⟩
    · rcases h0 with h0 | h0
      · exact absurd rfl h0
      · exact ⟨d, [], rfl, h0⟩
    · exact ⟨e, t ++ [d], rfl, he⟩
/-- A letter of the law's texts. -/
def Ltr (c : Nat) : Prop := isD c ∨ c = 43 ∨ c = 45 ∨ c = 46 ∨ c = 69 ∨ c = 101
instance (c : Nat) : Decidable (Ltr c) := by unfold Ltr; infer_instance
/-- At most two characters stand behind the last e. -/
def Few (f : Nat → Nat) (n : Nat) : Prop := ∀ p, p < n → isE (f p) → (∀ q, p < q → q < n → ¬ isE (f q)) → n - p - 1 ≤ 2
theorem powk {x c k j0 : Nat} (h : x + 1 ≤ 10 ^ (k - j0)) (hj : j0 ≤ k) (hc : c ≤ 9) : x * 10 + c + 1 ≤ 10 ^ (k + 1 - j0) ∧ x + 1 ≤ 10 ^ (k + 1 - j0) := by
  rw [show k + 1 - j0 = (k - j0) + 1 by omega, Nat.pow_succ]
  omega
theorem fin_e {f : Nat → Nat} {n m2 j0 x : Nat} (hF : Few f n) (h1 : m2 < n) (h2 : isE (f m2)) (h3 : sg f n (m2 + 1) = j0) (h4 : ∀ q, j0 ≤ q → q < n → isD (f q)) (h5 : x + 1 ≤ 10 ^ (n - j0)) : x ≤ 99 := by
  have hj : m2 + 1 ≤ j0 ∧ ∀ q, m2 < q → q < j0 → ¬ isE (f q) := by
    unfold sg at h3
    split at h3
    · rename_i hs
      refine ⟨by omega, fun q ha hb => ?_⟩
      obtain rfl : q = m2 + 1 := by omega
      unfold isE; omega
    · exact ⟨by omega, fun q ha hb => by omega⟩
  have := hF m2 h1 h2 (fun q ha hb => by
    by_cases e : q < j0
    · exact hj.2 q ha e
    · have := h4 q (by omega) hb
      unfold isD at this
      unfold isE; omega)
  have h6 : 10 ^ (n - j0) ≤ 10 ^ 2 := Nat.pow_le_pow_right (by decide) (by omega)
  omega
theorem numT_of_digits {f : Nat → Nat} {n : Nat} (h0 : 0 < n) (h : ∀ p, p < n → isD (f p)) : NumT f n :=
  ⟨n, n, ⟨⟨Nat.zero_le _, Nat.le_refl _, fun q _ hq => h q hq, fun h => absurd h (by omega)⟩, .inr ⟨fun h => absurd h.1 (by omega), rfl⟩⟩, .inl h0, .inl rfl⟩
theorem numT_pos {f : Nat → Nat} {n : Nat} (h : NumT f n) : 0 < n := by
  obtain ⟨a, b, hm, h1, _⟩ := h
  have h2 := hm.1.ln
  rcases hm.2 with ⟨_, r⟩ | ⟨_, r⟩
  · have := r.ln; omega
  · omega
end Go.Proofs.YtefjonnajjpajaaDoor
