/- bits: the bounds of its exponents, in plain Lean. -/
import Derived.Test.YtilkcnoooecngaaGreatDoorBtH
namespace Go.Proofs.YtilkcnoooecngaaGreatDoor
set_option linter.unusedVariables false
theorem hd_good {l : List Nat} (h : Good l) : 1 ≤ hd l ∧ hd l ≤ 9 := by
  obtain ⟨hdg, d, t, rfl, h0⟩ := h
  have := hdg d (by simp)
  simp only [hd]; omega
def pc (dp : Int) (h : Nat) : Int := if dp ≥ 3 then 188 else if dp = 2 then 94 else if dp = 1 ∧ 8 ≤ h then 51 else 0
theorem pow_lo : ∀ m < 20, ∀ i < 20, 2 ^ (3 * m) < 10 ^ i → m ≤ i + 1 := by decide +kernel
theorem pow_hi : ∀ i < 20, 2 ^ 59 < 10 ^ i → 18 ≤ i := by decide +kernel
/-- One round of the first loop. -/
theorem pot_step {l r : List Nat} {k i : Nat} {dp z : Int} (hl : Good l) (h : Halfd l k r i) (h1 : 1 ≤ dp) (h2 : dp ≤ 310) (hk : (k : Int) = min (3 * dp) 59) (hp : 17 * z + 59 * dp + pc dp (hd l) ≤ 19000) :
    17 * (z + k) + 59 * (dp - ((i : Int) - 1)) + pc (dp - ((i : Int) - 1)) (hd r) ≤ 19000 ∧ -20 ≤ dp - ((i : Int) - 1) ∧ dp - ((i : Int) - 1) ≤ 310 := by
  have hi1 := h.pos
  have hi2 := h.few
  have hg := h.grow
  have hone := h.one
  obtain ⟨hl1, hl9⟩ := hd_good hl
  obtain ⟨hr1, hr9⟩ := hd_good h.good
  generalize hd l = a at *
  generalize hd r = c at *
  refine ⟨?_, by omega, by omega⟩
  by_cases h20 : dp ≥ 20
  · have hk59 : k = 59 := by omega
    subst hk59
    have := pow_hi i (by omega) hg
    unfold pc at *
    split at hp <;> split <;> (try split) <;> (try split) <;> omega
  · obtain ⟨m, rfl⟩ : ∃ m : Nat, dp = m := ⟨dp.toNat, by omega⟩
    have hk3 : k = 3 * m := by omega
    subst hk3
    have hm := pow_lo m (by omega) i (by omega) hg
    have h12 : m = 1 ∨ m = 2 ∨ 3 ≤ m := by omega
    rcases h12 with rfl | rfl | h3
    · by_cases hi : i = 1
      · have := hone hi
        have h8 : 2 ^ (3 * 1) = 8 := by decide
        rw [h8] at this
        unfold pc at *
        split at hp <;> split <;> (try split at hp) <;> (try split) <;> (try split at hp) <;> (try split) <;> omega
      · unfold pc at *
        split at hp <;> split <;> (try split at hp) <;> (try split) <;> (try split at hp) <;> (try split) <;> omega
    · have hi : 2 ≤ i := by
        by_cases hi : i = 1
        · subst hi; simp at hg
        · omega
      unfold pc at *
      split at hp <;> split <;> (try split at hp) <;> (try split) <;> (try split at hp) <;> (try split) <;> omega
    · unfold pc at *
      split at hp <;> split <;> (try split at hp) <;> (try split) <;> (try split at hp) <;> (try split) <;> omega
def ms (dp : Int) (h : Nat) : Nat := (-dp).toNat * 10 + (9 - h)
/-- One round of the second loop. -/
theorem ms_step {l r : List Nat} {k e : Nat} {dp : Int} (hl : Good l) (h : Dbld l (2 ^ k) r e) (hc : dp < 0 ∨ hd l < 5) (hk : if dp < 0 then (k : Int) = min (-3 * dp) 59 else k = 1) (hdp : -400 ≤ dp ∧ dp ≤ 100) :
    ms (dp + e) (hd r) < ms dp (hd l) ∧ -400 ≤ dp + e ∧ dp + e ≤ 100 := by
  have he := h.few
  have hup := h.up
  have hlow := h.low
  obtain ⟨hl1, hl9⟩ := hd_good hl
  obtain ⟨hr1, hr9⟩ := hd_good h.good
  generalize hd l = a at *
  generalize hd r = c at *
  unfold ms
  by_cases hn : dp < 0
  · rw [if_pos hn] at hk
    refine ⟨?_, by omega, by omega⟩
    by_cases he0 : e = 0
    · have h8 : 2 ^ 3 ≤ 2 ^ k := Nat.pow_le_pow_right (by decide) (by omega)
      have h9 : a * 2 ^ 3 ≤ a * 2 ^ k := Nat.mul_le_mul_left _ h8
      have := hup he0
      omega
    · omega
  · rw [if_neg hn] at hk
    subst hk
    have h5 : a < 5 := by omega
    have he0 := hlow h5 rfl
    have := hup he0
    subst he0
    refine ⟨?_, by omega, by omega⟩
    simp only [Nat.pow_one] at this
    simp
    omega
end Go.Proofs.YtilkcnoooecngaaGreatDoor
