/- Known characters, and texts of them alone: what their bytes are. No conditions. -/
import Derived.WalkKit
import Derived.Lib.RuneCount
import Derived.Lib.Strings
namespace Go.Proofs.YtimdmdjkkgdohaaGreatDoor
open Go.RowKit
set_option linter.unusedVariables false
def boxI (r : Int) : Bool := decide (9472 ≤ r) && decide (r ≤ 9631)
def wideI (r : Int) : Bool := (decide (12353 ≤ r) && decide (r ≤ 12438)) || (decide (12449 ≤ r) && decide (r ≤ 12538)) || (decide (19968 ≤ r) && decide (r ≤ 40869)) || (decide (44032 ≤ r) && decide (r ≤ 55203)) || (decide (65281 ≤ r) && decide (r ≤ 65374))
def knI (r : Int) : Bool := (decide (32 ≤ r) && decide (r ≤ 126)) || boxI r || wideI r
theorem knI_lo {r : Int} (h : knI r = true) (hr : r < 128) : 32 ≤ r ∧ r ≤ 126 := by
  simp [knI, boxI, wideI] at h; omega
def simpF (lines : Bool) (s : ByteArray) : Nat → Nat → Bool
  | 0, _ => true
  | f + 1, pos => if pos < s.size then (knI ((Utf8.decode s pos).1 : Int) || (lines && decide ((Utf8.decode s pos).1 = 10))) && simpF lines s f (pos + (Utf8.decode s pos).2) else true
def simp (lines : Bool) (s : ByteArray) : Bool := simpF lines s s.size 0
theorem simpF_end (lines : Bool) (s : ByteArray) (f pos : Nat) (h : ¬ pos < s.size) : simpF lines s f pos = true := by
  cases f with
  | zero => rfl
  | succ f => rw [simpF, if_neg h]
theorem get_get (s : ByteArray) (i : Nat) (h : i < s.size) : s.get! i = s[i] := by
  simp [ByteArray.get!, getElem!_pos, h]; rfl
/-- All bytes of a sequence whose first byte is no ASCII are none of ASCII. -/
theorem decode_bytes (s : ByteArray) (pos : Nat) (h : pos < s.size) (ha : 128 ≤ (s[pos]'h).toNat) : ∀ j, pos ≤ j → j < pos + (Utf8.decode s pos).2 → ∃ hj : j < s.size, 128 ≤ (s[j]'hj).toNat := by
  intro j hj1 hj2
  by_cases hj0 : j = pos
  · subst hj0; exact ⟨h, ha⟩
  have key : ∀ k, (decide (pos + k < s.size) && (s.get! (pos + k)).toNat / 64 == 2) = true → ∃ hj : pos + k < s.size, 128 ≤ (s[pos + k]'hj).toNat := by
    intro k hk
    simp only [Bool.and_eq_true, decide_eq_true_eq, beq_iff_eq] at hk
    refine ⟨hk.1, ?_⟩
    rw [get_get s _ hk.1] at hk
    omega
  unfold Utf8.decode at hj2
  simp only at hj2
  split at hj2
  · simp at hj2; omega
  split at hj2
  · rename_i hc
    simp only [Bool.and_eq_true] at hc
    have e : j = pos + 1 := by split at hj2 <;> simp at hj2 <;> omega
    subst e
    exact key 1 (by simpa using hc.2)
  split at hj2
  · rename_i hc
    simp only [Bool.and_eq_true] at hc
    have e : j = pos + 1 ∨ j = pos + 2 := by split at hj2 <;> simp at hj2 <;> omega
    rcases e with rfl | rfl
    · exact key 1 (by simpa using hc.1.2)
    · exact key 2 (by simpa using hc.2)
  split at hj2
  · rename_i hc
    simp only [Bool.and_eq_true] at hc
    have e : j = pos + 1 ∨ j = pos + 2 ∨ j = pos + 3 := by split at hj2 <;> simp at hj2 <;> omega
    rcases e with rfl | rfl | rfl
    · exact key 1 (by simpa using hc.1.1.2)
    · exact key 2 (by simpa using hc.1.2)
    · exact key 3 (by simpa using hc.2)
  · simp at hj2; omega
theorem simpF_bytes (lines : Bool) (s : ByteArray) : ∀ f pos, simpF lines s f pos = true → s.size ≤ pos + f → ∀ j (hj : j < s.size), pos ≤ j → 32 ≤ (s[j]'hj).toNat ∧ (s[j]'hj).toNat ≠ 127 ∨ (lines = true ∧ (s[j]'hj).toNat = 10)
  | 0, pos, _, hs, j, hj, hp => by omega
  | f + 1, pos, h, hs, j, hj, hp => by
    have hpos : pos < s.size := by omega
    rw [simpF, if_pos hpos, Bool.and_eq_true] at h
    obtain ⟨h1, h2⟩ := h
    have hw := Lib.decode_width_pos s pos hpos
    by_cases hlt : j < pos + (Utf8.decode s pos).2
    · by_cases ha : (s[pos]'hpos).toNat < 128
      · rw [decode_ascii s pos hpos ha] at h1 hlt
        have e : j = pos := by simp at hlt; omega
        subst e
        simp only [Bool.or_eq_true, Bool.and_eq_true, decide_eq_true_eq] at h1
        rcases h1 with h1 | h1
        · have := knI_lo h1 (by omega); left; omega
        · right; exact h1
      · obtain ⟨_, hb⟩ := decode_bytes s pos hpos (by omega) j hp hlt
        left; omega
    · exact simpF_bytes lines s f _ h2 (by omega) j hj (by omega)
theorem simp_bytes {lines : Bool} {s : ByteArray} (h : simp lines s = true) (b : UInt8) (hb : b ∈ s.data.toList) : 32 ≤ b.toNat ∧ b.toNat ≠ 127 ∨ (lines = true ∧ b.toNat = 10) := by
  obtain ⟨j, hj, rfl⟩ := List.getElem_of_mem hb
  have hj' : j < s.size := by rw [Lib.size_eq]; exact hj
  exact simpF_bytes lines s s.size 0 h (by omega) j hj' (by omega)
end Go.Proofs.YtimdmdjkkgdohaaGreatDoor
