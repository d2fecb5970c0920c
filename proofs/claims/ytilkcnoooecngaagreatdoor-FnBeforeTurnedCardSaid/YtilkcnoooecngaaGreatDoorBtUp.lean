/- Where underscores may stand: in plain Lean, for both packages. -/
import Derived.Test.YtilkcnoooecngaaGreatDoorBtRq
namespace Go.Proofs.YtilkcnoooecngaaGreatDoor
open Go.RowKit
set_option linter.unusedVariables false
def stripB (s : ByteArray) : ByteArray := if 0 < s.size ∧ (bt s 0 = 43 ∨ bt s 0 = 45) then s.extract 1 s.size else s
theorem stripB_cases (s : ByteArray) : (s.size = 0 ∧ stripB s = s) ∨ (0 < s.size ∧ bt s 0 = 43 ∧ stripB s = s.extract 1 s.size) ∨ (0 < s.size ∧ bt s 0 = 45 ∧ stripB s = s.extract 1 s.size) ∨ (0 < s.size ∧ bt s 0 ≠ 43 ∧ bt s 0 ≠ 45 ∧ stripB s = s) := by
  unfold stripB
  by_cases h0 : 0 < s.size
  · by_cases h1 : bt s 0 = 43
    · exact .inr (.inl ⟨h0, h1, if_pos ⟨h0, .inl h1⟩⟩)
    · by_cases h2 : bt s 0 = 45
      · exact .inr (.inr (.inl ⟨h0, h2, if_pos ⟨h0, .inr h2⟩⟩))
      · exact .inr (.inr (.inr ⟨h0, h1, h2, if_neg (by rintro ⟨_, h | h⟩ <;> contradiction)⟩))
  · exact .inl ⟨by omega, if_neg (by rintro ⟨h, _⟩; contradiction)⟩
theorem stripB_size (s : ByteArray) : (stripB s).size ≤ s.size := by
  unfold stripB
  split
  · simp
  · exact Nat.le_refl _
theorem bt_extK (k : Nat) (s : ByteArray) (p : Nat) (hp : p + k < s.size) : bt (s.extract k s.size) p = bt s (p + k) := by
  have h1 : p < (s.extract k s.size).size := by simp; omega
  rw [← bt_eq _ _ h1, ← bt_eq s (p + k) hp]
  rw [ByteArray.getElem_extract]
  congr 2
  omega
theorem emp_t {s : ByteArray} (h : s.size = 0) : s.toList.isEmpty = true := by
  rw [List.isEmpty_iff, Lib.toList_data]
  exact List.eq_nil_of_length_eq_zero h
theorem emp_f {s : ByteArray} (h : s.size ≠ 0) : s.toList.isEmpty = false := by
  rw [List.isEmpty_eq_false_iff, Lib.toList_data]
  intro e
  exact h (by have := congrArg List.length e; exact this)
/-- A digit there: of base 16 too, where hex. -/
def digU (hex : Bool) (c : Nat) : Prop := isD c ∨ hex = true ∧ 97 ≤ lw c ∧ lw c ≤ 102
open Classical in
/-- k characters are left of n; the last one was a digit (48), an underscore (95), none (94), or another (33). -/
noncomputable def uoN (hex : Bool) (f : Nat → Nat) (n : Nat) : Nat → Nat → Bool
  | 0, last => decide (last ≠ 95)
  | k + 1, last =>
    if digU hex (f (n - (k + 1))) then uoN hex f n k 48
    else if f (n - (k + 1)) = 95 then (if last = 48 then uoN hex f n k 95 else false)
    else (if last = 95 then false else uoN hex f n k 33)
theorem uoN_dig {hex : Bool} {f : Nat → Nat} {n i last : Nat} (hi : i < n) (h : digU hex (f i)) : uoN hex f n (n - i) last = uoN hex f n (n - (i + 1)) 48 := by
  obtain ⟨k, hk⟩ : ∃ k, n - i = k + 1 := ⟨n - i - 1, by omega⟩
  rw [hk, show n - (i + 1) = k by omega, uoN, show n - (k + 1) = i by omega, if_pos h]
theorem not_dig95 (hex : Bool) : ¬ digU hex 95 := by
  rintro (h | h)
  · unfold isD at h; omega
  · rw [lw_or 95 (by decide)] at h
    exact absurd h.2.2 (by decide)
theorem uoN_us {hex : Bool} {f : Nat → Nat} {n i last : Nat} (hi : i < n) (h : f i = 95) : uoN hex f n (n - i) last = if last = 48 then uoN hex f n (n - (i + 1)) 95 else false := by
  obtain ⟨k, hk⟩ : ∃ k, n - i = k + 1 := ⟨n - i - 1, by omega⟩
  rw [hk, show n - (i + 1) = k by omega, uoN, show n - (k + 1) = i by omega, h, if_neg (not_dig95 hex), if_pos rfl]
theorem uoN_ot {hex : Bool} {f : Nat → Nat} {n i last : Nat} (hi : i < n) (h : ¬ digU hex (f i)) (h2 : f i ≠ 95) : uoN hex f n (n - i) last = if last = 95 then false else uoN hex f n (n - (i + 1)) 33 := by
  obtain ⟨k, hk⟩ : ∃ k, n - i = k + 1 := ⟨n - i - 1, by omega⟩
  rw [hk, show n - (i + 1) = k by omega, uoN, show n - (k + 1) = i by omega, if_neg h, if_neg h2]
theorem uoN_end {hex : Bool} {f : Nat → Nat} {n last : Nat} : uoN hex f n (n - n) last = decide (last ≠ 95) := by rw [Nat.sub_self, uoN]
theorem uoN_shift {hex : Bool} {f g : Nat → Nat} {n m : Nat} (d : Nat) (hn : n = m + d) (hf : ∀ q, q < m → g q = f (q + d)) : ∀ k last, k ≤ m → uoN hex g m k last = uoN hex f n k last
  | 0, last, _ => rfl
  | k + 1, last, hk => by
    have e : g (m - (k + 1)) = f (n - (k + 1)) := by rw [hf _ (by omega)]; congr 1; omega
    rw [uoN, uoN, e, uoN_shift d hn hf k 48 (by omega), uoN_shift d hn hf k 95 (by omega), uoN_shift d hn hf k 33 (by omega)]
/-- A prefix of a base. -/
def preU (f : Nat → Nat) (n : Nat) : Prop := 2 ≤ n ∧ f 0 = 48 ∧ (lw (f 1) = 98 ∨ lw (f 1) = 111 ∨ lw (f 1) = 120)
open Classical in
noncomputable def uOk (t : ByteArray) : Bool := if preU (bt t) t.size then uoN (decide (lw (bt t 1) = 120)) (bt t) t.size (t.size - 2) 48 else uoN false (bt t) t.size (t.size - 0) 94
open Classical in
/-- Underscores stand right, if there are any. -/
noncomputable def usOk (s : ByteArray) : Bool := if ∃ q, q < s.size ∧ bt s q = 95 then uOk (stripB s) else true
end Go.Proofs.YtilkcnoooecngaaGreatDoor
