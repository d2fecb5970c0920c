/- twRuns: whether a text is of letters and digits. No conditions. -/
import Derived.Test.YtenmkoaimmnpdaaDoorCrV
import Derived.Test.YtenmkoaimmnpdaaDoorTwTexts
namespace Go.Proofs.YtenmkoaimmnpdaaDoor
open Go.RowKit
set_option linter.unusedVariables false
def Alnum (l : List UInt8) : Prop := ∀ c ∈ l, kd c ≤ 2
theorem at_list (s : ByteArray) (i : Nat) (h : i < s.size) : s.data.toList[i]'(by rw [← Lib.size_eq]; exact h) = s[i]'h := rfl
def RunsRet (s : ByteArray) (w : World) (e : Ending) (w' : World) : Prop := ∃ b, e = .returned (.bool b) ∧ w = w' ∧ (b = true → Alnum s.data.toList ∧ s.size ≤ 200)
set_option maxHeartbeats 1000000 in
set_option maxRecDepth 100000 in
theorem runs_any (s : ByteArray) (w : World) (hs : s.size ≤ 2147483647) : Calls Tryd.prog 4 #[.string s] w (RunsRet s w) := by
  go_enter Tryd.func4, Tryd.ntmps4
  go_wp2_with fail
  go_loop [3] (fun iv => ∃ k : Nat, k ≤ s.size ∧ iv = .int .i64 (k : Int) ∧ Hid (∀ j (h : j < s.size), j < k → kd (s[j]'h) ≤ 2)) (fun iv => s.size - (intOf iv).toNat)
  case atStart => exact ⟨0, Nat.zero_le _, rfl, Lib.hid (fun j h hj => absurd hj (by omega))⟩
  case round =>
    obtain ⟨k, hk, rfl, HK⟩ := hrel
    by_cases hlt : k < s.size
    · have hix : ∀ W, _ := fun W => ixAt s k hlt W
      have HKd := Lib.hid (fun W => kind_any (s[k]'hlt) W)
      have HN := Lib.hid (show kd (s[k]'hlt) ≤ 2 → ∀ j (h : j < s.size), j < k + 1 → kd (s[j]'h) ≤ 2 from fun hd j h hj => by
        by_cases e : j = k
        · subst e; exact hd
        · exact HK.out j h (by omega))
      generalize s[k]'hlt = c at *
      by_cases hd : kd c ≤ 2
      · have HN2 := Lib.hid (HN.out hd)
        have e1 : decide ((2 : Int) < (kd c : Int)) = false := decide_eq_false (by omega)
        generalize kd c = d at *
        clear HN HK
        go_wp2_with (go_at_call 8; refine (HKd.out _).mono ?_; rintro e w1 ⟨rfl, rfl⟩)
        go_round
        case rel => exact ⟨k + 1, by omega, by go_num, HN2⟩
        case measure => simp [intOf]; omega
      · have e1 : decide ((2 : Int) < (kd c : Int)) = true := decide_eq_true (by omega)
        generalize kd c = d at *
        clear HN HK
        go_wp2_with (go_at_call 8; refine (HKd.out _).mono ?_; rintro e w1 ⟨rfl, rfl⟩)
        go_ret
        exact ⟨false, rfl, rfl, fun h => by cases h⟩
    · have HA := Lib.hid (show Alnum s.data.toList from fun c hc => by
        obtain ⟨i, hi, rfl⟩ := List.mem_iff_getElem.1 hc
        have hi' : i < s.size := by rw [Lib.size_eq]; exact hi
        exact HK.out i hi' (by omega))
      by_cases h2 : s.size ≤ 200
      · have e1 : decide ((s.size : Int) ≤ 200) = true := decide_eq_true (by omega)
        clear HK
        go_wp2_with fail
        go_ret
        exact ⟨true, rfl, rfl, fun _ => ⟨HA.out, h2⟩⟩
      · have e1 : decide ((s.size : Int) ≤ 200) = false := decide_eq_false (by omega)
        clear HK
        go_wp2_with fail
        go_ret
        exact ⟨false, rfl, rfl, fun h => by cases h⟩
end Go.Proofs.YtenmkoaimmnpdaaDoor
