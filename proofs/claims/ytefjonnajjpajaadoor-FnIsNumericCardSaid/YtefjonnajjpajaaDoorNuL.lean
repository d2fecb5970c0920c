/- FnIsNumeric: the walk of the law. No conditions but the arguments' sizes and strings.asciiSpace as it is laid. -/
import Derived.Test.YtefjonnajjpajaaDoorNuM
import Derived.Test.YtefjonnajjpajaaDoorNuAj
namespace Go.Proofs.YtefjonnajjpajaaDoor
open Go.RowKit
set_option linter.unusedVariables false
/-- What stands behind the last e of the first k characters. -/
def Aft (f : Nat → Nat) (n k a : Nat) : Prop := ∀ p, p < k → isE (f p) → (∀ q, p < q → q < k → ¬ isE (f q)) → a = n - p - 1
theorem Aft.start (f : Nat → Nat) (n : Nat) : Aft f n 0 0 := fun p hp => absurd hp (by omega)
theorem Aft.keep {f : Nat → Nat} {n k a : Nat} (h : Aft f n k a) (he : ¬ isE (f k)) : Aft f n (k + 1) a := by
  intro p hp h1 h2
  by_cases e : p = k
  · subst e; exact absurd h1 he
  · exact h p (by omega) h1 (fun q ha hb => h2 q ha (by omega))
theorem Aft.new {f : Nat → Nat} {n k a : Nat} (he : isE (f k)) : Aft f n (k + 1) (n - k - 1) := by
  intro p hp h1 h2
  by_cases e : p = k
  · subst e; rfl
  · exact absurd he (h2 k (by omega) (by omega))
theorem ltr_more {f : Nat → Nat} {k : Nat} (h : ∀ p, p < k → Ltr (f p)) (hk : Ltr (f k)) : ∀ p, p < k + 1 → Ltr (f p) := by
  intro p hp
  by_cases e : p = k
  · subst e; exact hk
  · exact h p (by omega)
theorem not_ltr {c : Nat} (h : ¬ Ltr c) : (c < 48 ∨ 48 ≤ c ∧ 57 < c) ∧ c ≠ 43 ∧ c ≠ 45 ∧ c ≠ 46 ∧ c ≠ 101 ∧ c ≠ 69 := by
  unfold Ltr isD at h; omega
set_option maxHeartbeats 1000000 in
set_option maxRecDepth 100000 in
theorem lawNu (s : ByteArray) (w : World) (hs : s.size ≤ 140737488351232) (hT : Spaces w) : Calls Tryd.prog 3 #[.string s] w fun e w' => e = .returned (.bool true) ∧ Below w.heap.size w w' := by
  have HT := Lib.hid hT
  clear hT
  by_cases hm : s.size > 2147483647
  · go_enter Tryd.func3, Tryd.ntmps3
    go_wp2
    go_ret
    exact ⟨rfl, Below.refl _ _⟩
  · go_enter Tryd.func3, Tryd.ntmps3
    go_wp2_with fail
    go_loopw [3, 4] (fun av iv wr => ∃ (k a : Nat), av = .int .i64 (a : Int) ∧ iv = .int .i64 (k : Int) ∧ k ≤ s.size ∧ a ≤ 2147483647 ∧ Hid (∀ p, p < k → Ltr (bt s p)) ∧ Hid (Aft (bt s) s.size k a) ∧ Hid (wr = w)) (fun _ iv _ => s.size - (intOf iv).toNat)
    case atStart => exact ⟨0, 0, rfl, rfl, by omega, by omega, Lib.hid (fun p h => absurd h (by omega)), Lib.hid (Aft.start _ _), Lib.hid rfl⟩
    case round =>
      obtain ⟨k, a, rfl, rfl, hk, ha, HQ, HA, HW⟩ := hrel
      obtain rfl := HW.out.symm
      by_cases hlt : k < s.size
      · have iM := ixB s k hlt
        have hbb := bt_lt s k
        by_cases hl : Ltr (bt s k)
        · have HQ2 := Lib.hid (ltr_more HQ.out hl)
          by_cases he : isE (bt s k)
          · have HA2 := Lib.hid (Aft.new (n := s.size) (a := a) he)
            rcases he with he | he
            all_goals
              rw [he] at iM
              clear hl he hbb
              go_wp2_with fail
              go_roundw
              case rel => exact ⟨k + 1, s.size - k - 1, by go_num, by go_num, by omega, by omega, HQ2, HA2, Lib.hid trivial⟩
              case measure => simp [intOf]; omega
          · have HA2 := Lib.hid (HA.out.keep he)
            by_cases hd : isD (bt s k)
            · obtain ⟨d1, d2⟩ := hd
              have q1 : (((bt s k : Nat) : Int) == 101) = false := by rw [beq_eq_false_iff_ne]; omega
              have q2 : (((bt s k : Nat) : Int) == 69) = false := by rw [beq_eq_false_iff_ne]; unfold isE at he; omega
              clear hl he
              generalize bt s k = c at iM hbb d1 d2 q1 q2
              go_wp2_with fail
              go_roundw
              case rel => exact ⟨k + 1, a, rfl, by go_num, by omega, by omega, HQ2, HA2, Lib.hid trivial⟩
              case measure => simp [intOf]; omega
            · have hc : bt s k = 43 ∨ bt s k = 45 ∨ bt s k = 46 := by unfold Ltr at hl; unfold isE at he; rcases hl with h | h <;> first | exact absurd h hd | omega
              clear hl he hd hbb
              rcases hc with hc | hc | hc
              all_goals
                rw [hc] at iM
                clear hc
                go_wp2_with fail
                go_roundw
                case rel => exact ⟨k + 1, a, rfl, by go_num, by omega, by omega, HQ2, HA2, Lib.hid trivial⟩
                case measure => simp [intOf]; omega
        · obtain ⟨h1, h2, h3, h4, h5, h6⟩ := not_ltr hl
          have q1 : (((bt s k : Nat) : Int) != 43) = true := by rw [bne_iff_ne]; omega
          have q2 : (((bt s k : Nat) : Int) != 45) = true := by rw [bne_iff_ne]; omega
          have q3 : (((bt s k : Nat) : Int) != 46) = true := by rw [bne_iff_ne]; omega
          have q4 : (((bt s k : Nat) : Int) != 101) = true := by rw [bne_iff_ne]; omega
          have q5 : (((bt s k : Nat) : Int) != 69) = true := by rw [bne_iff_ne]; omega
          clear hl h2 h3 h4 h5 h6
          generalize bt s k = c at iM hbb h1 q1 q2 q3 q4 q5
          rcases h1 with h1 | ⟨h1, h7⟩
          all_goals
            go_wp2
            go_ret
            exact ⟨rfl, Below.refl _ _⟩
      · by_cases h100 : s.size > 100
        · clear hk
          go_wp2
          go_ret
          exact ⟨rfl, Below.refl _ _⟩
        · by_cases h2 : a > 2
          · clear hk
            go_wp2
            go_ret
            exact ⟨rfl, Below.refl _ _⟩
          · have hks : k = s.size := by omega
            have hL : ∀ p, p < s.size → Ltr (bt s p) := fun p hp => HQ.out p (by omega)
            have hF : Few (bt s) s.size := fun p h3 h4 h5 => by
              have := HA.out p (by omega) h4 (fun q h6 h7 => h5 q h6 (by omega))
              omega
            have hI := Lib.hid (implNumeric_any s w (by omega) hL hF HT.out)
            have hN := Lib.hid (fun W => number_any s W (by omega))
            clear hks hL hF hk
            go_wp2_with (go_at_call 4; refine halt_H ?_)
            refine resume_H ?_
            refine hI.out.mono ?_
            rintro e w1 ⟨⟨b1, rfl, hb1⟩, hw1⟩
            have HB1 := Lib.hid hb1
            have HW1 := Lib.hid hw1
            clear hI hb1 hw1
            go_wp2_with (go_at_call 5; refine halt_H ?_)
            refine resume_H ?_
            refine (hN.out _).mono ?_
            rintro e w2 ⟨⟨b2, rfl, hb2⟩, hw2⟩
            obtain rfl := hw2.symm
            obtain rfl : b1 = b2 := Bool.eq_iff_iff.2 (HB1.out.trans hb2.symm)
            clear hN hb2
            go_wp2
            go_ret
            exact ⟨by simp, HW1.out⟩
end Go.Proofs.YtefjonnajjpajaaDoor
