/- Escaping a text for HTML, and reading it back, in plain Lean. No conditions. -/
import Derived.Test.YtfolhjdmccbjiaaGreatDoorBase
import Derived.Test.YtfolhjdmccbjiaaGreatDoorTxt
namespace Go.Proofs.YtfolhjdmccbjiaaGreatDoor
set_option linter.unusedVariables false
def nm : Nat → List UInt8
  | 0 => [38, 97, 109, 112, 59]
  | 1 => [38, 108, 116, 59]
  | 2 => [38, 103, 116, 59]
  | 3 => [38, 35, 51, 52, 59]
  | _ => [38, 35, 51, 57, 59]
def sy : Nat → UInt8
  | 0 => 38
  | 1 => 60
  | 2 => 62
  | 3 => 34
  | _ => 39
def escB (c : UInt8) : List UInt8 := if c = 38 then nm 0 else if c = 60 then nm 1 else if c = 62 then nm 2 else if c = 34 then nm 3 else if c = 39 then nm 4 else [c]
def esc (l : List UInt8) : List UInt8 := l.flatMap escB
theorem esc_cons (c : UInt8) (l : List UInt8) : esc (c :: l) = escB c ++ esc l := by simp [esc]
theorem esc_app (a b : List UInt8) : esc (a ++ b) = esc a ++ esc b := by simp [esc]
theorem escB_len (c : UInt8) : 1 ≤ (escB c).length ∧ (escB c).length ≤ 5 := by
  unfold escB nm
  repeat' split
  all_goals simp
theorem esc_len : ∀ l : List UInt8, (esc l).length ≤ 5 * l.length
  | [] => by simp [esc]
  | c :: l => by
    have := esc_len l
    have h := (escB_len c).2
    rw [esc_cons, List.length_append, List.length_cons]; omega
/-- A letter is one of the five, or stands for itself. -/
theorem escB_cases (c : UInt8) : (∃ t, t < 5 ∧ c = sy t ∧ escB c = nm t) ∨ (c ≠ 38 ∧ c ≠ 60 ∧ c ≠ 62 ∧ c ≠ 34 ∧ c ≠ 39 ∧ escB c = [c]) := by
  by_cases h0 : c = 38
  · exact .inl ⟨0, by omega, h0, by unfold escB; rw [if_pos h0]⟩
  · by_cases h1 : c = 60
    · exact .inl ⟨1, by omega, h1, by unfold escB; rw [if_neg h0, if_pos h1]⟩
    · by_cases h2 : c = 62
      · exact .inl ⟨2, by omega, h2, by unfold escB; rw [if_neg h0, if_neg h1, if_pos h2]⟩
      · by_cases h3 : c = 34
        · exact .inl ⟨3, by omega, h3, by unfold escB; rw [if_neg h0, if_neg h1, if_neg h2, if_pos h3]⟩
        · by_cases h4 : c = 39
          · exact .inl ⟨4, by omega, h4, by unfold escB; rw [if_neg h0, if_neg h1, if_neg h2, if_neg h3, if_pos h4]⟩
          · exact .inr ⟨h0, h1, h2, h3, h4, by unfold escB; rw [if_neg h0, if_neg h1, if_neg h2, if_neg h3, if_neg h4]⟩
theorem nm_head (t : Nat) : ∃ r, nm t = 38 :: r := by
  match t with
  | 0 => exact ⟨_, rfl⟩
  | 1 => exact ⟨_, rfl⟩
  | 2 => exact ⟨_, rfl⟩
  | 3 => exact ⟨_, rfl⟩
  | _ + 4 => exact ⟨_, rfl⟩
/-- No name begins with another one. -/
theorem nm_other (k t : Nat) (hk : k < t) (ht : t < 5) (r : List UInt8) : (nm t ++ r).take (nm k).length ≠ nm k := by
  have : (k = 0 ∧ t = 1) ∨ (k = 0 ∧ t = 2) ∨ (k = 0 ∧ t = 3) ∨ (k = 0 ∧ t = 4) ∨ (k = 1 ∧ t = 2) ∨ (k = 1 ∧ t = 3) ∨ (k = 1 ∧ t = 4) ∨ (k = 2 ∧ t = 3) ∨ (k = 2 ∧ t = 4) ∨ (k = 3 ∧ t = 4) := by omega
  rcases this with ⟨rfl, rfl⟩ | ⟨rfl, rfl⟩ | ⟨rfl, rfl⟩ | ⟨rfl, rfl⟩ | ⟨rfl, rfl⟩ | ⟨rfl, rfl⟩ | ⟨rfl, rfl⟩ | ⟨rfl, rfl⟩ | ⟨rfl, rfl⟩ | ⟨rfl, rfl⟩
  all_goals
    intro e
    simp [nm] at e
theorem nm_same (t : Nat) (r : List UInt8) : (nm t ++ r).take (nm t).length = nm t := by simp
theorem nm_len (t : Nat) : 4 ≤ (nm t).length ∧ (nm t).length ≤ 5 := by
  match t with
  | 0 => simp [nm]
  | 1 => simp [nm]
  | 2 => simp [nm]
  | 3 => simp [nm]
  | _ + 4 => simp [nm]
end Go.Proofs.YtfolhjdmccbjiaaGreatDoor
