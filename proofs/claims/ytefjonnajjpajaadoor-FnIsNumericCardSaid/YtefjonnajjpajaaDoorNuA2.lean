/- TwNumber: way 2 of a sign ahead. Printed by gen_nuA.py. Texts of at most 1000 bytes. -/
import Derived.Test.YtefjonnajjpajaaDoorNuA
namespace Go.Proofs.YtefjonnajjpajaaDoor
open Go.RowKit
set_option linter.unusedVariables false
set_option maxHeartbeats 4000000 in
set_option maxRecDepth 100000 in
theorem number_2 (s : ByteArray) (w : World) (hs : s.size ≤ 1000) (hT : (strip s).size ≤ 1000) (h0 : 0 < s.size) (h1 : bt s 0 = 45) (hst : strip s = s.extract 1 s.size) : Calls Tryd.prog 5 #[.string s] w (NumRet (strip s) w) := by
  have i1 := ixB0 s h0
  rw [h1] at i1
  rw [hst] at hT
  have HST := Lib.hid hst
  clear hst h1
  go_enter Tryd.func5, Tryd.ntmps5
  go_wp2_with fail
  clear i1
  clear h0
  generalize s.extract 1 s.size = t at *
  go_loopw [3, 4] (fun nv iv wr => ∃ i : Nat, nv = .int .i64 (i : Int) ∧ iv = .int .i64 (i : Int) ∧ i ≤ t.size ∧ Hid (∀ q, 0 ≤ q → q < i → isD (bt t q)) ∧ Hid (wr = w)) (fun nv iv _ => t.size - (intOf iv).toNat)
  case atStart => exact ⟨0, rfl, rfl, by omega, Lib.hid (fun q _ h => by omega), Lib.hid rfl⟩
  case round =>
    obtain ⟨i, rfl, rfl, hi, HQ, HW⟩ := hrel
    obtain rfl := HW.out.symm
    by_cases hlt : i < t.size
    · have iM := ixB t i hlt
      by_cases hd : isD (bt t i)
      · have HQ2 := Lib.hid (show ∀ q, 0 ≤ q → q < i + 1 → isD (bt t q) from fun q h1 h2 => by
          by_cases e : q = i
          · subst e; exact hd
          · exact HQ.out q h1 (by omega))
        obtain ⟨d1, d2⟩ := hd
        generalize bt t i = x at d1 d2 iM
        go_wp2_with fail
        go_roundw
        case rel => exact ⟨i + 1, by go_num, by go_num, by omega, HQ2, Lib.hid trivial⟩
        case measure => simp [intOf]; omega
      · have HR := Lib.hid (show Run (bt t) t.size 0 i from ⟨Nat.zero_le _, hi, HQ.out, fun _ => hd⟩)
        have hd4 : bt t i < 48 ∨ 57 < bt t i := by unfold isD at hd; omega
        clear hd
        by_cases hdot : bt t i = 46
        · rw [hdot] at iM
          have HDOT := Lib.hid (And.intro hlt hdot)
          clear hd4 hdot
          go_wp2_with fail
          go_loopw [3, 4] (fun nv iv wr => ∃ c j : Nat, nv = .int .i64 (c : Int) ∧ iv = .int .i64 (j : Int) ∧ j = c + 1 ∧ i + 1 ≤ j ∧ j ≤ t.size ∧ Hid (∀ q, i + 1 ≤ q → q < j → isD (bt t q)) ∧ Hid (wr = w)) (fun nv iv _ => t.size - (intOf iv).toNat)
          case atStart => exact ⟨i, i + 1, by go_num, by go_num, rfl, by omega, by omega, Lib.hid (fun q h1 h2 => by omega), Lib.hid rfl⟩
          case round =>
            clear iM
            obtain ⟨c, j, rfl, rfl, hcj, hj1, hj2, HQ3, HW3⟩ := hrel
            obtain rfl := HW3.out.symm
            have HCJ := Lib.hid hcj
            by_cases hlt2 : j < t.size
            · have iM := ixB t j hlt2
              by_cases hd2 : isD (bt t j)
              · have HQ4 := Lib.hid (show ∀ q, i + 1 ≤ q → q < j + 1 → isD (bt t q) from fun q h1 h2 => by
                  by_cases e : q = j
                  · subst e; exact hd2
                  · exact HQ3.out q h1 (by omega))
                obtain ⟨d1, d2⟩ := hd2
                have hc1000 : c ≤ 1000 := by omega
                clear hcj
                generalize bt t j = x at d1 d2 iM
                go_wp2_with fail
                go_roundw
                case rel => exact ⟨c + 1, j + 1, by go_num, by go_num, by have := HCJ.out; omega, by omega, by omega, HQ4, Lib.hid trivial⟩
                case measure => simp [intOf]; omega
              · have hd5 : bt t j < 48 ∨ 57 < bt t j := by unfold isD at hd2; omega
                have HM := Lib.hid (show Mant (bt t) t.size i j from ⟨HR.out, .inl ⟨HDOT.out, ⟨hj1, hj2, HQ3.out, fun _ => hd2⟩⟩⟩)
                have HC := Lib.hid (show (0 < i ∨ i + 1 < j) ↔ c ≠ 0 by omega)
                clear hd2 hcj
                rcases hd5 with hhi | hhi
                · by_cases hc0 : c = 0
                  · have HC0 := Lib.hid hc0
                    have z0 : ((c : Int) == 0) = true := by rw [beq_iff_eq]; omega
                    clear hc0
                    go_wp2
                    go_ret
                    refine ⟨⟨false, rfl, ?_⟩, rfl⟩
                    rw [HST.out]
                    exact ⟨fun h => by simp at h, fun h => absurd h (fun h => (HC.out.1 ((numT_iff HM.out).1 h).1) HC0.out)⟩
                  · have HP := Lib.hid (HC.out.2 hc0)
                    have z0 : ((c : Int) == 0) = false := by rw [beq_eq_false_iff_ne]; omega
                    clear hc0
                    have HEI := Lib.hid (show j < t.size by omega)
                    have z1 : ((j : Int) == (t.size : Int)) = false := by rw [beq_eq_false_iff_ne]; omega
                    have hcc : bt t j = bt t j := rfl
                    have hbb := bt_lt t j
                    have HNE := Lib.hid (show ¬ isE (bt t j) by unfold isE; omega)
                    have q5 : (((bt t j : Nat) : Int) != 101) = true := by rw [bne_iff_ne]; omega
                    have q6 : (((bt t j : Nat) : Int) != 69) = true := by rw [bne_iff_ne]; omega
                    have q7 : (((bt t j : Nat) : Int) == 101) = false := by rw [beq_eq_false_iff_ne]; omega
                    have q8 : (((bt t j : Nat) : Int) == 69) = false := by rw [beq_eq_false_iff_ne]; omega
                    clear hcc
                    generalize bt t j = x at iM q5 q6 q7 q8 hbb hhi
                    go_wp2
                    go_ret
                    refine ⟨⟨false, rfl, ?_⟩, rfl⟩
                    rw [HST.out]
                    exact ⟨fun h => by simp at h, fun h => absurd h (fun h => tail_not HEI.out HNE.out ((numT_iff HM.out).1 h).2)⟩
                · by_cases hc0 : c = 0
                  · have HC0 := Lib.hid hc0
                    have z0 : ((c : Int) == 0) = true := by rw [beq_iff_eq]; omega
                    clear hc0
                    go_wp2
                    go_ret
                    refine ⟨⟨false, rfl, ?_⟩, rfl⟩
                    rw [HST.out]
                    exact ⟨fun h => by simp at h, fun h => absurd h (fun h => (HC.out.1 ((numT_iff HM.out).1 h).1) HC0.out)⟩
                  · have HP := Lib.hid (HC.out.2 hc0)
                    have z0 : ((c : Int) == 0) = false := by rw [beq_eq_false_iff_ne]; omega
                    clear hc0
                    have HEI := Lib.hid (show j < t.size by omega)
                    have z1 : ((j : Int) == (t.size : Int)) = false := by rw [beq_eq_false_iff_ne]; omega
                    have hcc : bt t j = bt t j := rfl
                    have hbb := bt_lt t j
                    by_cases e1 : bt t j = 101
                    · have HE := Lib.hid (show isE (bt t j) from .inl e1)
                      rw [e1] at iM
                      clear hcc hbb e1 hhi
                      by_cases hp1 : j + 1 < t.size
                      · have i5 : ∀ W, (Instr.index 9 (.string t) (.int .i64 ((j : Int) + 1))).run Tryd.prog W = .ok (.int .u8 (bt t (j + 1) : Nat)) W := ixB t (j + 1) hp1
                        have hb5 := bt_lt t (j + 1)
                        by_cases s1 : bt t (j + 1) = 43
                        · have HS := Lib.hid (show sg (bt t) t.size (j + 1) = j + 1 + 1 from if_pos ⟨hp1, .inl s1⟩)
                          rw [s1] at i5
                          clear hb5 s1
                          go_wp2_with fail
                          go_loopw [4] (fun iv wr => ∃ k : Nat, iv = .int .i64 (k : Int) ∧ j + 1 + 1 ≤ k ∧ k ≤ t.size ∧ Hid (∀ q, j + 1 + 1 ≤ q → q < k → isD (bt t q)) ∧ Hid (wr = w)) (fun iv _ => t.size - (intOf iv).toNat)
                          case atStart => exact ⟨j + 1 + 1, by go_num, by omega, by omega, Lib.hid (fun q h1 h2 => by omega), Lib.hid rfl⟩
                          case round =>
                            obtain ⟨k, rfl, hk1, hk2, HQ3, HW3⟩ := hrel
                            obtain rfl := HW3.out.symm
                            by_cases hlt3 : k < t.size
                            · have i3 := ixB t k hlt3
                              by_cases hd3 : isD (bt t k)
                              · have HQ4 := Lib.hid (show ∀ q, j + 1 + 1 ≤ q → q < k + 1 → isD (bt t q) from fun q h1 h2 => by
                                  by_cases e : q = k
                                  · subst e; exact hd3
                                  · exact HQ3.out q h1 (by omega))
                                obtain ⟨d1, d2⟩ := hd3
                                generalize bt t k = x at d1 d2 i3
                                go_wp2_with fail
                                go_roundw
                                case rel => exact ⟨k + 1, by go_num, by omega, by omega, HQ4, Lib.hid trivial⟩
                                case measure => simp [intOf]; omega
                              · have HR3 := Lib.hid (show Run (bt t) t.size (j + 1 + 1) k from ⟨hk1, hk2, HQ3.out, fun _ => hd3⟩)
                                have HK3 := Lib.hid hlt3
                                have hb3 := bt_lt t k
                                have hd4 : bt t k < 48 ∨ 57 < bt t k := by unfold isD at hd3; omega
                                clear hd3
                                generalize bt t k = x at i3 hd4 hb3
                                have z3 : ((k : Int) == (t.size : Int)) = false := by rw [beq_eq_false_iff_ne]; omega
                                rcases hd4 with hd4 | hd4
                                · go_wp2
                                  go_ret
                                  refine ⟨⟨false, rfl, ?_⟩, rfl⟩
                                  rw [HST.out]
                                  exact ⟨fun h => by simp at h, fun h => absurd h (fun h => by have h2 := (numT_iff HM.out).1 h; have h3 := (tail_iff HEI.out HE.out (by rw [HS.out]; exact HR3.out)).1 h2.2; have := HK3.out; omega)⟩
                                · go_wp2
                                  go_ret
                                  refine ⟨⟨false, rfl, ?_⟩, rfl⟩
                                  rw [HST.out]
                                  exact ⟨fun h => by simp at h, fun h => absurd h (fun h => by have h2 := (numT_iff HM.out).1 h; have h3 := (tail_iff HEI.out HE.out (by rw [HS.out]; exact HR3.out)).1 h2.2; have := HK3.out; omega)⟩
                            · have HR3 := Lib.hid (show Run (bt t) t.size (j + 1 + 1) k from ⟨hk1, hk2, HQ3.out, fun h => absurd h hlt3⟩)
                              have HKe := Lib.hid (show k = t.size by omega)
                              have z3 : ((k : Int) == (t.size : Int)) = true := by rw [beq_iff_eq]; omega
                              by_cases hk0 : j + 1 + 1 < k
                              · have HK0 := Lib.hid hk0
                                have zk : decide ((j : Int) + 1 + 1 < (k : Int)) = true := decide_eq_true (by omega)
                                go_wp2
                                go_ret
                                refine ⟨⟨true, rfl, ?_⟩, rfl⟩
                                rw [HST.out]
                                exact ⟨fun _ => (numT_iff HM.out).2 ⟨HP.out, (tail_iff HEI.out HE.out (by rw [HS.out]; exact HR3.out)).2 ⟨HKe.out, by rw [HS.out]; exact HK0.out⟩⟩, fun _ => rfl⟩
                              · have HK0 := Lib.hid hk0
                                have zk : decide ((j : Int) + 1 + 1 < (k : Int)) = false := decide_eq_false (by omega)
                                go_wp2
                                go_ret
                                refine ⟨⟨false, rfl, ?_⟩, rfl⟩
                                rw [HST.out]
                                exact ⟨fun h => by simp at h, fun h => absurd h (fun h => by have h2 := (numT_iff HM.out).1 h; have h3 := (tail_iff HEI.out HE.out (by rw [HS.out]; exact HR3.out)).1 h2.2; rw [HS.out] at h3; exact HK0.out h3.2)⟩
                        · by_cases s2 : bt t (j + 1) = 45
                          · have HS := Lib.hid (show sg (bt t) t.size (j + 1) = j + 1 + 1 from if_pos ⟨hp1, .inr s2⟩)
                            rw [s2] at i5
                            clear hb5 s1 s2
                            go_wp2_with fail
                            go_loopw [4] (fun iv wr => ∃ k : Nat, iv = .int .i64 (k : Int) ∧ j + 1 + 1 ≤ k ∧ k ≤ t.size ∧ Hid (∀ q, j + 1 + 1 ≤ q → q < k → isD (bt t q)) ∧ Hid (wr = w)) (fun iv _ => t.size - (intOf iv).toNat)
                            case atStart => exact ⟨j + 1 + 1, by go_num, by omega, by omega, Lib.hid (fun q h1 h2 => by omega), Lib.hid rfl⟩
                            case round =>
                              obtain ⟨k, rfl, hk1, hk2, HQ3, HW3⟩ := hrel
                              obtain rfl := HW3.out.symm
                              by_cases hlt3 : k < t.size
                              · have i3 := ixB t k hlt3
                                by_cases hd3 : isD (bt t k)
                                · have HQ4 := Lib.hid (show ∀ q, j + 1 + 1 ≤ q → q < k + 1 → isD (bt t q) from fun q h1 h2 => by
                                    by_cases e : q = k
                                    · subst e; exact hd3
                                    · exact HQ3.out q h1 (by omega))
                                  obtain ⟨d1, d2⟩ := hd3
                                  generalize bt t k = x at d1 d2 i3
                                  go_wp2_with fail
                                  go_roundw
                                  case rel => exact ⟨k + 1, by go_num, by omega, by omega, HQ4, Lib.hid trivial⟩
                                  case measure => simp [intOf]; omega
                                · have HR3 := Lib.hid (show Run (bt t) t.size (j + 1 + 1) k from ⟨hk1, hk2, HQ3.out, fun _ => hd3⟩)
                                  have HK3 := Lib.hid hlt3
                                  have hb3 := bt_lt t k
                                  have hd4 : bt t k < 48 ∨ 57 < bt t k := by unfold isD at hd3; omega
                                  clear hd3
                                  generalize bt t k = x at i3 hd4 hb3
                                  have z3 : ((k : Int) == (t.size : Int)) = false := by rw [beq_eq_false_iff_ne]; omega
                                  rcases hd4 with hd4 | hd4
                                  · go_wp2
                                    go_ret
                                    refine ⟨⟨false, rfl, ?_⟩, rfl⟩
                                    rw [HST.out]
                                    exact ⟨fun h => by simp at h, fun h => absurd h (fun h => by have h2 := (numT_iff HM.out).1 h; have h3 := (tail_iff HEI.out HE.out (by rw [HS.out]; exact HR3.out)).1 h2.2; have := HK3.out; omega)⟩
                                  · go_wp2
                                    go_ret
                                    refine ⟨⟨false, rfl, ?_⟩, rfl⟩
                                    rw [HST.out]
                                    exact ⟨fun h => by simp at h, fun h => absurd h (fun h => by have h2 := (numT_iff HM.out).1 h; have h3 := (tail_iff HEI.out HE.out (by rw [HS.out]; exact HR3.out)).1 h2.2; have := HK3.out; omega)⟩
                              · have HR3 := Lib.hid (show Run (bt t) t.size (j + 1 + 1) k from ⟨hk1, hk2, HQ3.out, fun h => absurd h hlt3⟩)
                                have HKe := Lib.hid (show k = t.size by omega)
                                have z3 : ((k : Int) == (t.size : Int)) = true := by rw [beq_iff_eq]; omega
                                by_cases hk0 : j + 1 + 1 < k
                                · have HK0 := Lib.hid hk0
                                  have zk : decide ((j : Int) + 1 + 1 < (k : Int)) = true := decide_eq_true (by omega)
                                  go_wp2
                                  go_ret
                                  refine ⟨⟨true, rfl, ?_⟩, rfl⟩
                                  rw [HST.out]
                                  exact ⟨fun _ => (numT_iff HM.out).2 ⟨HP.out, (tail_iff HEI.out HE.out (by rw [HS.out]; exact HR3.out)).2 ⟨HKe.out, by rw [HS.out]; exact HK0.out⟩⟩, fun _ => rfl⟩
                                · have HK0 := Lib.hid hk0
                                  have zk : decide ((j : Int) + 1 + 1 < (k : Int)) = false := decide_eq_false (by omega)
                                  go_wp2
                                  go_ret
                                  refine ⟨⟨false, rfl, ?_⟩, rfl⟩
                                  rw [HST.out]
                                  exact ⟨fun h => by simp at h, fun h => absurd h (fun h => by have h2 := (numT_iff HM.out).1 h; have h3 := (tail_iff HEI.out HE.out (by rw [HS.out]; exact HR3.out)).1 h2.2; rw [HS.out] at h3; exact HK0.out h3.2)⟩
                          · have HS := Lib.hid (show sg (bt t) t.size (j + 1) = j + 1 from if_neg (by rintro ⟨_, h | h⟩ <;> contradiction))
                            have q1 : (((bt t (j + 1) : Nat) : Int) == 43) = false := by rw [beq_eq_false_iff_ne]; omega
                            have q2 : (((bt t (j + 1) : Nat) : Int) == 45) = false := by rw [beq_eq_false_iff_ne]; omega
                            clear s1 s2
                            generalize bt t (j + 1) = y at i5 q1 q2 hb5
                            go_wp2_with fail
                            go_loopw [4] (fun iv wr => ∃ k : Nat, iv = .int .i64 (k : Int) ∧ j + 1 ≤ k ∧ k ≤ t.size ∧ Hid (∀ q, j + 1 ≤ q → q < k → isD (bt t q)) ∧ Hid (wr = w)) (fun iv _ => t.size - (intOf iv).toNat)
                            case atStart => exact ⟨j + 1, by go_num, by omega, by omega, Lib.hid (fun q h1 h2 => by omega), Lib.hid rfl⟩
                            case round =>
                              obtain ⟨k, rfl, hk1, hk2, HQ3, HW3⟩ := hrel
                              obtain rfl := HW3.out.symm
                              by_cases hlt3 : k < t.size
                              · have i3 := ixB t k hlt3
                                by_cases hd3 : isD (bt t k)
                                · have HQ4 := Lib.hid (show ∀ q, j + 1 ≤ q → q < k + 1 → isD (bt t q) from fun q h1 h2 => by
                                    by_cases e : q = k
                                    · subst e; exact hd3
                                    · exact HQ3.out q h1 (by omega))
                                  obtain ⟨d1, d2⟩ := hd3
                                  generalize bt t k = x at d1 d2 i3
                                  go_wp2_with fail
                                  go_roundw
                                  case rel => exact ⟨k + 1, by go_num, by omega, by omega, HQ4, Lib.hid trivial⟩
                                  case measure => simp [intOf]; omega
                                · have HR3 := Lib.hid (show Run (bt t) t.size (j + 1) k from ⟨hk1, hk2, HQ3.out, fun _ => hd3⟩)
                                  have HK3 := Lib.hid hlt3
                                  have hb3 := bt_lt t k
                                  have hd4 : bt t k < 48 ∨ 57 < bt t k := by unfold isD at hd3; omega
                                  clear hd3
                                  generalize bt t k = x at i3 hd4 hb3
                                  have z3 : ((k : Int) == (t.size : Int)) = false := by rw [beq_eq_false_iff_ne]; omega
                                  rcases hd4 with hd4 | hd4
                                  · go_wp2
                                    go_ret
                                    refine ⟨⟨false, rfl, ?_⟩, rfl⟩
                                    rw [HST.out]
                                    exact ⟨fun h => by simp at h, fun h => absurd h (fun h => by have h2 := (numT_iff HM.out).1 h; have h3 := (tail_iff HEI.out HE.out (by rw [HS.out]; exact HR3.out)).1 h2.2; have := HK3.out; omega)⟩
                                  · go_wp2
                                    go_ret
                                    refine ⟨⟨false, rfl, ?_⟩, rfl⟩
                                    rw [HST.out]
                                    exact ⟨fun h => by simp at h, fun h => absurd h (fun h => by have h2 := (numT_iff HM.out).1 h; have h3 := (tail_iff HEI.out HE.out (by rw [HS.out]; exact HR3.out)).1 h2.2; have := HK3.out; omega)⟩
                              · have HR3 := Lib.hid (show Run (bt t) t.size (j + 1) k from ⟨hk1, hk2, HQ3.out, fun h => absurd h hlt3⟩)
                                have HKe := Lib.hid (show k = t.size by omega)
                                have z3 : ((k : Int) == (t.size : Int)) = true := by rw [beq_iff_eq]; omega
                                by_cases hk0 : j + 1 < k
                                · have HK0 := Lib.hid hk0
                                  have zk : decide ((j : Int) + 1 < (k : Int)) = true := decide_eq_true (by omega)
                                  go_wp2
                                  go_ret
                                  refine ⟨⟨true, rfl, ?_⟩, rfl⟩
                                  rw [HST.out]
                                  exact ⟨fun _ => (numT_iff HM.out).2 ⟨HP.out, (tail_iff HEI.out HE.out (by rw [HS.out]; exact HR3.out)).2 ⟨HKe.out, by rw [HS.out]; exact HK0.out⟩⟩, fun _ => rfl⟩
                                · have HK0 := Lib.hid hk0
                                  have zk : decide ((j : Int) + 1 < (k : Int)) = false := decide_eq_false (by omega)
                                  go_wp2
                                  go_ret
                                  refine ⟨⟨false, rfl, ?_⟩, rfl⟩
                                  rw [HST.out]
                                  exact ⟨fun h => by simp at h, fun h => absurd h (fun h => by have h2 := (numT_iff HM.out).1 h; have h3 := (tail_iff HEI.out HE.out (by rw [HS.out]; exact HR3.out)).1 h2.2; rw [HS.out] at h3; exact HK0.out h3.2)⟩
                      · have HS := Lib.hid (show sg (bt t) t.size (j + 1) = j + 1 from if_neg (by rintro ⟨h, _⟩; contradiction))
                        go_wp2_with fail
                        go_loopw [4] (fun iv wr => ∃ k : Nat, iv = .int .i64 (k : Int) ∧ j + 1 ≤ k ∧ k ≤ t.size ∧ Hid (∀ q, j + 1 ≤ q → q < k → isD (bt t q)) ∧ Hid (wr = w)) (fun iv _ => t.size - (intOf iv).toNat)
                        case atStart => exact ⟨j + 1, by go_num, by omega, by omega, Lib.hid (fun q h1 h2 => by omega), Lib.hid rfl⟩
                        case round =>
                          obtain ⟨k, rfl, hk1, hk2, HQ3, HW3⟩ := hrel
                          obtain rfl := HW3.out.symm
                          by_cases hlt3 : k < t.size
                          · exact absurd hlt3 (by omega)
                          · have HR3 := Lib.hid (show Run (bt t) t.size (j + 1) k from ⟨hk1, hk2, HQ3.out, fun h => absurd h hlt3⟩)
                            have HKe := Lib.hid (show k = t.size by omega)
                            have z3 : ((k : Int) == (t.size : Int)) = true := by rw [beq_iff_eq]; omega
                            by_cases hk0 : j + 1 < k
                            · have HK0 := Lib.hid hk0
                              have zk : decide ((j : Int) + 1 < (k : Int)) = true := decide_eq_true (by omega)
                              go_wp2
                              go_ret
                              refine ⟨⟨true, rfl, ?_⟩, rfl⟩
                              rw [HST.out]
                              exact ⟨fun _ => (numT_iff HM.out).2 ⟨HP.out, (tail_iff HEI.out HE.out (by rw [HS.out]; exact HR3.out)).2 ⟨HKe.out, by rw [HS.out]; exact HK0.out⟩⟩, fun _ => rfl⟩
                            · have HK0 := Lib.hid hk0
                              have zk : decide ((j : Int) + 1 < (k : Int)) = false := decide_eq_false (by omega)
                              go_wp2
                              go_ret
                              refine ⟨⟨false, rfl, ?_⟩, rfl⟩
                              rw [HST.out]
                              exact ⟨fun h => by simp at h, fun h => absurd h (fun h => by have h2 := (numT_iff HM.out).1 h; have h3 := (tail_iff HEI.out HE.out (by rw [HS.out]; exact HR3.out)).1 h2.2; rw [HS.out] at h3; exact HK0.out h3.2)⟩
                    · by_cases e2 : bt t j = 69
                      · have HE := Lib.hid (show isE (bt t j) from .inr e2)
                        rw [e2] at iM
                        clear hcc hbb e1 e2 hhi
                        by_cases hp1 : j + 1 < t.size
                        · have i5 : ∀ W, (Instr.index 9 (.string t) (.int .i64 ((j : Int) + 1))).run Tryd.prog W = .ok (.int .u8 (bt t (j + 1) : Nat)) W := ixB t (j + 1) hp1
                          have hb5 := bt_lt t (j + 1)
                          by_cases s1 : bt t (j + 1) = 43
                          · have HS := Lib.hid (show sg (bt t) t.size (j + 1) = j + 1 + 1 from if_pos ⟨hp1, .inl s1⟩)
                            rw [s1] at i5
                            clear hb5 s1
                            go_wp2_with fail
                            go_loopw [4] (fun iv wr => ∃ k : Nat, iv = .int .i64 (k : Int) ∧ j + 1 + 1 ≤ k ∧ k ≤ t.size ∧ Hid (∀ q, j + 1 + 1 ≤ q → q < k → isD (bt t q)) ∧ Hid (wr = w)) (fun iv _ => t.size - (intOf iv).toNat)
                            case atStart => exact ⟨j + 1 + 1, by go_num, by omega, by omega, Lib.hid (fun q h1 h2 => by omega), Lib.hid rfl⟩
                            case round =>
                              obtain ⟨k, rfl, hk1, hk2, HQ3, HW3⟩ := hrel
                              obtain rfl := HW3.out.symm
                              by_cases hlt3 : k < t.size
                              · have i3 := ixB t k hlt3
                                by_cases hd3 : isD (bt t k)
                                · have HQ4 := Lib.hid (show ∀ q, j + 1 + 1 ≤ q → q < k + 1 → isD (bt t q) from fun q h1 h2 => by
                                    by_cases e : q = k
                                    · subst e; exact hd3
                                    · exact HQ3.out q h1 (by omega))
                                  obtain ⟨d1, d2⟩ := hd3
                                  generalize bt t k = x at d1 d2 i3
                                  go_wp2_with fail
                                  go_roundw
                                  case rel => exact ⟨k + 1, by go_num, by omega, by omega, HQ4, Lib.hid trivial⟩
                                  case measure => simp [intOf]; omega
                                · have HR3 := Lib.hid (show Run (bt t) t.size (j + 1 + 1) k from ⟨hk1, hk2, HQ3.out, fun _ => hd3⟩)
                                  have HK3 := Lib.hid hlt3
                                  have hb3 := bt_lt t k
                                  have hd4 : bt t k < 48 ∨ 57 < bt t k := by unfold isD at hd3; omega
                                  clear hd3
                                  generalize bt t k = x at i3 hd4 hb3
                                  have z3 : ((k : Int) == (t.size : Int)) = false := by rw [beq_eq_false_iff_ne]; omega
                                  rcases hd4 with hd4 | hd4
                                  · go_wp2
                                    go_ret
                                    refine ⟨⟨false, rfl, ?_⟩, rfl⟩
                                    rw [HST.out]
                                    exact ⟨fun h => by simp at h, fun h => absurd h (fun h => by have h2 := (numT_iff HM.out).1 h; have h3 := (tail_iff HEI.out HE.out (by rw [HS.out]; exact HR3.out)).1 h2.2; have := HK3.out; omega)⟩
                                  · go_wp2
                                    go_ret
                                    refine ⟨⟨false, rfl, ?_⟩, rfl⟩
                                    rw [HST.out]
                                    exact ⟨fun h => by simp at h, fun h => absurd h (fun h => by have h2 := (numT_iff HM.out).1 h; have h3 := (tail_iff HEI.out HE.out (by rw [HS.out]; exact HR3.out)).1 h2.2; have := HK3.out; omega)⟩
                              · have HR3 := Lib.hid (show Run (bt t) t.size (j + 1 + 1) k from ⟨hk1, hk2, HQ3.out, fun h => absurd h hlt3⟩)
                                have HKe := Lib.hid (show k = t.size by omega)
                                have z3 : ((k : Int) == (t.size : Int)) = true := by rw [beq_iff_eq]; omega
                                by_cases hk0 : j + 1 + 1 < k
                                · have HK0 := Lib.hid hk0
                                  have zk : decide ((j : Int) + 1 + 1 < (k : Int)) = true := decide_eq_true (by omega)
                                  go_wp2
                                  go_ret
                                  refine ⟨⟨true, rfl, ?_⟩, rfl⟩
                                  rw [HST.out]
                                  exact ⟨fun _ => (numT_iff HM.out).2 ⟨HP.out, (tail_iff HEI.out HE.out (by rw [HS.out]; exact HR3.out)).2 ⟨HKe.out, by rw [HS.out]; exact HK0.out⟩⟩, fun _ => rfl⟩
                                · have HK0 := Lib.hid hk0
                                  have zk : decide ((j : Int) + 1 + 1 < (k : Int)) = false := decide_eq_false (by omega)
                                  go_wp2
                                  go_ret
                                  refine ⟨⟨false, rfl, ?_⟩, rfl⟩
                                  rw [HST.out]
                                  exact ⟨fun h => by simp at h, fun h => absurd h (fun h => by have h2 := (numT_iff HM.out).1 h; have h3 := (tail_iff HEI.out HE.out (by rw [HS.out]; exact HR3.out)).1 h2.2; rw [HS.out] at h3; exact HK0.out h3.2)⟩
                          · by_cases s2 : bt t (j + 1) = 45
                            · have HS := Lib.hid (show sg (bt t) t.size (j + 1) = j + 1 + 1 from if_pos ⟨hp1, .inr s2⟩)
                              rw [s2] at i5
                              clear hb5 s1 s2
                              go_wp2_with fail
                              go_loopw [4] (fun iv wr => ∃ k : Nat, iv = .int .i64 (k : Int) ∧ j + 1 + 1 ≤ k ∧ k ≤ t.size ∧ Hid (∀ q, j + 1 + 1 ≤ q → q < k → isD (bt t q)) ∧ Hid (wr = w)) (fun iv _ => t.size - (intOf iv).toNat)
                              case atStart => exact ⟨j + 1 + 1, by go_num, by omega, by omega, Lib.hid (fun q h1 h2 => by omega), Lib.hid rfl⟩
                              case round =>
                                obtain ⟨k, rfl, hk1, hk2, HQ3, HW3⟩ := hrel
                                obtain rfl := HW3.out.symm
                                by_cases hlt3 : k < t.size
                                · have i3 := ixB t k hlt3
                                  by_cases hd3 : isD (bt t k)
                                  · have HQ4 := Lib.hid (show ∀ q, j + 1 + 1 ≤ q → q < k + 1 → isD (bt t q) from fun q h1 h2 => by
                                      by_cases e : q = k
                                      · subst e; exact hd3
                                      · exact HQ3.out q h1 (by omega))
                                    obtain ⟨d1, d2⟩ := hd3
                                    generalize bt t k = x at d1 d2 i3
                                    go_wp2_with fail
                                    go_roundw
                                    case rel => exact ⟨k + 1, by go_num, by omega, by omega, HQ4, Lib.hid trivial⟩
                                    case measure => simp [intOf]; omega
                                  · have HR3 := Lib.hid (show Run (bt t) t.size (j + 1 + 1) k from ⟨hk1, hk2, HQ3.out, fun _ => hd3⟩)
                                    have HK3 := Lib.hid hlt3
                                    have hb3 := bt_lt t k
                                    have hd4 : bt t k < 48 ∨ 57 < bt t k := by unfold isD at hd3; omega
                                    clear hd3
                                    generalize bt t k = x at i3 hd4 hb3
                                    have z3 : ((k : Int) == (t.size : Int)) = false := by rw [beq_eq_false_iff_ne]; omega
                                    rcases hd4 with hd4 | hd4
                                    · go_wp2
                                      go_ret
                                      refine ⟨⟨false, rfl, ?_⟩, rfl⟩
                                      rw [HST.out]
                                      exact ⟨fun h => by simp at h, fun h => absurd h (fun h => by have h2 := (numT_iff HM.out).1 h; have h3 := (tail_iff HEI.out HE.out (by rw [HS.out]; exact HR3.out)).1 h2.2; have := HK3.out; omega)⟩
                                    · go_wp2
                                      go_ret
                                      refine ⟨⟨false, rfl, ?_⟩, rfl⟩
                                      rw [HST.out]
                                      exact ⟨fun h => by simp at h, fun h => absurd h (fun h => by have h2 := (numT_iff HM.out).1 h; have h3 := (tail_iff HEI.out HE.out (by rw [HS.out]; exact HR3.out)).1 h2.2; have := HK3.out; omega)⟩
                                · have HR3 := Lib.hid (show Run (bt t) t.size (j + 1 + 1) k from ⟨hk1, hk2, HQ3.out, fun h => absurd h hlt3⟩)
                                  have HKe := Lib.hid (show k = t.size by omega)
                                  have z3 : ((k : Int) == (t.size : Int)) = true := by rw [beq_iff_eq]; omega
                                  by_cases hk0 : j + 1 + 1 < k
                                  · have HK0 := Lib.hid hk0
                                    have zk : decide ((j : Int) + 1 + 1 < (k : Int)) = true := decide_eq_true (by omega)
                                    go_wp2
                                    go_ret
                                    refine ⟨⟨true, rfl, ?_⟩, rfl⟩
                                    rw [HST.out]
                                    exact ⟨fun _ => (numT_iff HM.out).2 ⟨HP.out, (tail_iff HEI.out HE.out (by rw [HS.out]; exact HR3.out)).2 ⟨HKe.out, by rw [HS.out]; exact HK0.out⟩⟩, fun _ => rfl⟩
                                  · have HK0 := Lib.hid hk0
                                    have zk : decide ((j : Int) + 1 + 1 < (k : Int)) = false := decide_eq_false (by omega)
                                    go_wp2
                                    go_ret
                                    refine ⟨⟨false, rfl, ?_⟩, rfl⟩
                                    rw [HST.out]
                                    exact ⟨fun h => by simp at h, fun h => absurd h (fun h => by have h2 := (numT_iff HM.out).1 h; have h3 := (tail_iff HEI.out HE.out (by rw [HS.out]; exact HR3.out)).1 h2.2; rw [HS.out] at h3; exact HK0.out h3.2)⟩
                            · have HS := Lib.hid (show sg (bt t) t.size (j + 1) = j + 1 from if_neg (by rintro ⟨_, h | h⟩ <;> contradiction))
                              have q1 : (((bt t (j + 1) : Nat) : Int) == 43) = false := by rw [beq_eq_false_iff_ne]; omega
                              have q2 : (((bt t (j + 1) : Nat) : Int) == 45) = false := by rw [beq_eq_false_iff_ne]; omega
                              clear s1 s2
                              generalize bt t (j + 1) = y at i5 q1 q2 hb5
                              go_wp2_with fail
                              go_loopw [4] (fun iv wr => ∃ k : Nat, iv = .int .i64 (k : Int) ∧ j + 1 ≤ k ∧ k ≤ t.size ∧ Hid (∀ q, j + 1 ≤ q → q < k → isD (bt t q)) ∧ Hid (wr = w)) (fun iv _ => t.size - (intOf iv).toNat)
                              case atStart => exact ⟨j + 1, by go_num, by omega, by omega, Lib.hid (fun q h1 h2 => by omega), Lib.hid rfl⟩
                              case round =>
                                obtain ⟨k, rfl, hk1, hk2, HQ3, HW3⟩ := hrel
                                obtain rfl := HW3.out.symm
                                by_cases hlt3 : k < t.size
                                · have i3 := ixB t k hlt3
                                  by_cases hd3 : isD (bt t k)
                                  · have HQ4 := Lib.hid (show ∀ q, j + 1 ≤ q → q < k + 1 → isD (bt t q) from fun q h1 h2 => by
                                      by_cases e : q = k
                                      · subst e; exact hd3
                                      · exact HQ3.out q h1 (by omega))
                                    obtain ⟨d1, d2⟩ := hd3
                                    generalize bt t k = x at d1 d2 i3
                                    go_wp2_with fail
                                    go_roundw
                                    case rel => exact ⟨k + 1, by go_num, by omega, by omega, HQ4, Lib.hid trivial⟩
                                    case measure => simp [intOf]; omega
                                  · have HR3 := Lib.hid (show Run (bt t) t.size (j + 1) k from ⟨hk1, hk2, HQ3.out, fun _ => hd3⟩)
                                    have HK3 := Lib.hid hlt3
                                    have hb3 := bt_lt t k
                                    have hd4 : bt t k < 48 ∨ 57 < bt t k := by unfold isD at hd3; omega
                                    clear hd3
                                    generalize bt t k = x at i3 hd4 hb3
                                    have z3 : ((k : Int) == (t.size : Int)) = false := by rw [beq_eq_false_iff_ne]; omega
                                    rcases hd4 with hd4 | hd4
                                    · go_wp2
                                      go_ret
                                      refine ⟨⟨false, rfl, ?_⟩, rfl⟩
                                      rw [HST.out]
                                      exact ⟨fun h => by simp at h, fun h => absurd h (fun h => by have h2 := (numT_iff HM.out).1 h; have h3 := (tail_iff HEI.out HE.out (by rw [HS.out]; exact HR3.out)).1 h2.2; have := HK3.out; omega)⟩
                                    · go_wp2
                                      go_ret
                                      refine ⟨⟨false, rfl, ?_⟩, rfl⟩
                                      rw [HST.out]
                                      exact ⟨fun h => by simp at h, fun h => absurd h (fun h => by have h2 := (numT_iff HM.out).1 h; have h3 := (tail_iff HEI.out HE.out (by rw [HS.out]; exact HR3.out)).1 h2.2; have := HK3.out; omega)⟩
                                · have HR3 := Lib.hid (show Run (bt t) t.size (j + 1) k from ⟨hk1, hk2, HQ3.out, fun h => absurd h hlt3⟩)
                                  have HKe := Lib.hid (show k = t.size by omega)
                                  have z3 : ((k : Int) == (t.size : Int)) = true := by rw [beq_iff_eq]; omega
                                  by_cases hk0 : j + 1 < k
                                  · have HK0 := Lib.hid hk0
                                    have zk : decide ((j : Int) + 1 < (k : Int)) = true := decide_eq_true (by omega)
                                    go_wp2
                                    go_ret
                                    refine ⟨⟨true, rfl, ?_⟩, rfl⟩
                                    rw [HST.out]
                                    exact ⟨fun _ => (numT_iff HM.out).2 ⟨HP.out, (tail_iff HEI.out HE.out (by rw [HS.out]; exact HR3.out)).2 ⟨HKe.out, by rw [HS.out]; exact HK0.out⟩⟩, fun _ => rfl⟩
                                  · have HK0 := Lib.hid hk0
                                    have zk : decide ((j : Int) + 1 < (k : Int)) = false := decide_eq_false (by omega)
                                    go_wp2
                                    go_ret
                                    refine ⟨⟨false, rfl, ?_⟩, rfl⟩
                                    rw [HST.out]
                                    exact ⟨fun h => by simp at h, fun h => absurd h (fun h => by have h2 := (numT_iff HM.out).1 h; have h3 := (tail_iff HEI.out HE.out (by rw [HS.out]; exact HR3.out)).1 h2.2; rw [HS.out] at h3; exact HK0.out h3.2)⟩
                        · have HS := Lib.hid (show sg (bt t) t.size (j + 1) = j + 1 from if_neg (by rintro ⟨h, _⟩; contradiction))
                          go_wp2_with fail
                          go_loopw [4] (fun iv wr => ∃ k : Nat, iv = .int .i64 (k : Int) ∧ j + 1 ≤ k ∧ k ≤ t.size ∧ Hid (∀ q, j + 1 ≤ q → q < k → isD (bt t q)) ∧ Hid (wr = w)) (fun iv _ => t.size - (intOf iv).toNat)
                          case atStart => exact ⟨j + 1, by go_num, by omega, by omega, Lib.hid (fun q h1 h2 => by omega), Lib.hid rfl⟩
                          case round =>
                            obtain ⟨k, rfl, hk1, hk2, HQ3, HW3⟩ := hrel
                            obtain rfl := HW3.out.symm
                            by_cases hlt3 : k < t.size
                            · exact absurd hlt3 (by omega)
                            · have HR3 := Lib.hid (show Run (bt t) t.size (j + 1) k from ⟨hk1, hk2, HQ3.out, fun h => absurd h hlt3⟩)
                              have HKe := Lib.hid (show k = t.size by omega)
                              have z3 : ((k : Int) == (t.size : Int)) = true := by rw [beq_iff_eq]; omega
                              by_cases hk0 : j + 1 < k
                              · have HK0 := Lib.hid hk0
                                have zk : decide ((j : Int) + 1 < (k : Int)) = true := decide_eq_true (by omega)
                                go_wp2
                                go_ret
                                refine ⟨⟨true, rfl, ?_⟩, rfl⟩
                                rw [HST.out]
                                exact ⟨fun _ => (numT_iff HM.out).2 ⟨HP.out, (tail_iff HEI.out HE.out (by rw [HS.out]; exact HR3.out)).2 ⟨HKe.out, by rw [HS.out]; exact HK0.out⟩⟩, fun _ => rfl⟩
                              · have HK0 := Lib.hid hk0
                                have zk : decide ((j : Int) + 1 < (k : Int)) = false := decide_eq_false (by omega)
                                go_wp2
                                go_ret
                                refine ⟨⟨false, rfl, ?_⟩, rfl⟩
                                rw [HST.out]
                                exact ⟨fun h => by simp at h, fun h => absurd h (fun h => by have h2 := (numT_iff HM.out).1 h; have h3 := (tail_iff HEI.out HE.out (by rw [HS.out]; exact HR3.out)).1 h2.2; rw [HS.out] at h3; exact HK0.out h3.2)⟩
                      · have HNE := Lib.hid (show ¬ isE (bt t j) by unfold isE; omega)
                        have q5 : (((bt t j : Nat) : Int) != 101) = true := by rw [bne_iff_ne]; omega
                        have q6 : (((bt t j : Nat) : Int) != 69) = true := by rw [bne_iff_ne]; omega
                        have q7 : (((bt t j : Nat) : Int) == 101) = false := by rw [beq_eq_false_iff_ne]; omega
                        have q8 : (((bt t j : Nat) : Int) == 69) = false := by rw [beq_eq_false_iff_ne]; omega
                        clear hcc
                        generalize bt t j = x at iM q5 q6 q7 q8 hbb hhi
                        go_wp2
                        go_ret
                        refine ⟨⟨false, rfl, ?_⟩, rfl⟩
                        rw [HST.out]
                        exact ⟨fun h => by simp at h, fun h => absurd h (fun h => tail_not HEI.out HNE.out ((numT_iff HM.out).1 h).2)⟩
            · have HM := Lib.hid (show Mant (bt t) t.size i j from ⟨HR.out, .inl ⟨HDOT.out, ⟨hj1, hj2, HQ3.out, fun h => absurd h hlt2⟩⟩⟩)
              have HC := Lib.hid (show (0 < i ∨ i + 1 < j) ↔ c ≠ 0 by omega)
              clear hcj
              by_cases hc0 : c = 0
              · have HC0 := Lib.hid hc0
                have z0 : ((c : Int) == 0) = true := by rw [beq_iff_eq]; omega
                clear hc0
                go_wp2
                go_ret
                refine ⟨⟨false, rfl, ?_⟩, rfl⟩
                rw [HST.out]
                exact ⟨fun h => by simp at h, fun h => absurd h (fun h => (HC.out.1 ((numT_iff HM.out).1 h).1) HC0.out)⟩
              · have HP := Lib.hid (HC.out.2 hc0)
                have z0 : ((c : Int) == 0) = false := by rw [beq_eq_false_iff_ne]; omega
                clear hc0
                have HME := Lib.hid (show j = t.size by omega)
                have z1 : ((j : Int) == (t.size : Int)) = true := by rw [beq_iff_eq]; omega
                go_wp2
                go_ret
                refine ⟨⟨true, rfl, ?_⟩, rfl⟩
                rw [HST.out]
                exact ⟨fun _ => (numT_iff HM.out).2 ⟨HP.out, HME.out.symm ▸ tail_end⟩, fun _ => rfl⟩
        · have HM := Lib.hid (show Mant (bt t) t.size i i from ⟨HR.out, .inr ⟨fun h => hdot h.2, rfl⟩⟩)
          have HC := Lib.hid (show (0 < i ∨ i + 1 < i) ↔ i ≠ 0 by omega)
          have q9 : (((bt t i : Nat) : Int) == 46) = false := by rw [beq_eq_false_iff_ne]; omega
          clear hdot
          rcases hd4 with hhi | hhi
          · by_cases hc0 : i = 0
            · have HC0 := Lib.hid hc0
              have z0 : ((i : Int) == 0) = true := by rw [beq_iff_eq]; omega
              clear hc0
              go_wp2
              go_ret
              refine ⟨⟨false, rfl, ?_⟩, rfl⟩
              rw [HST.out]
              exact ⟨fun h => by simp at h, fun h => absurd h (fun h => (HC.out.1 ((numT_iff HM.out).1 h).1) HC0.out)⟩
            · have HP := Lib.hid (HC.out.2 hc0)
              have z0 : ((i : Int) == 0) = false := by rw [beq_eq_false_iff_ne]; omega
              clear hc0
              have HEI := Lib.hid (show i < t.size by omega)
              have z1 : ((i : Int) == (t.size : Int)) = false := by rw [beq_eq_false_iff_ne]; omega
              have hcc : bt t i = bt t i := rfl
              have hbb := bt_lt t i
              have HNE := Lib.hid (show ¬ isE (bt t i) by unfold isE; omega)
              have q5 : (((bt t i : Nat) : Int) != 101) = true := by rw [bne_iff_ne]; omega
              have q6 : (((bt t i : Nat) : Int) != 69) = true := by rw [bne_iff_ne]; omega
              have q7 : (((bt t i : Nat) : Int) == 101) = false := by rw [beq_eq_false_iff_ne]; omega
              have q8 : (((bt t i : Nat) : Int) == 69) = false := by rw [beq_eq_false_iff_ne]; omega
              clear hcc
              generalize bt t i = x at iM q5 q6 q7 q8 hbb hhi q9
              go_wp2
              go_ret
              refine ⟨⟨false, rfl, ?_⟩, rfl⟩
              rw [HST.out]
              exact ⟨fun h => by simp at h, fun h => absurd h (fun h => tail_not HEI.out HNE.out ((numT_iff HM.out).1 h).2)⟩
          · by_cases hc0 : i = 0
            · have HC0 := Lib.hid hc0
              have z0 : ((i : Int) == 0) = true := by rw [beq_iff_eq]; omega
              clear hc0
              go_wp2
              go_ret
              refine ⟨⟨false, rfl, ?_⟩, rfl⟩
              rw [HST.out]
              exact ⟨fun h => by simp at h, fun h => absurd h (fun h => (HC.out.1 ((numT_iff HM.out).1 h).1) HC0.out)⟩
            · have HP := Lib.hid (HC.out.2 hc0)
              have z0 : ((i : Int) == 0) = false := by rw [beq_eq_false_iff_ne]; omega
              clear hc0
              have HEI := Lib.hid (show i < t.size by omega)
              have z1 : ((i : Int) == (t.size : Int)) = false := by rw [beq_eq_false_iff_ne]; omega
              have hcc : bt t i = bt t i := rfl
              have hbb := bt_lt t i
              by_cases e1 : bt t i = 101
              · have HE := Lib.hid (show isE (bt t i) from .inl e1)
                rw [e1] at iM
                clear hcc hbb e1 hhi
                by_cases hp1 : i + 1 < t.size
                · have i5 : ∀ W, (Instr.index 9 (.string t) (.int .i64 ((i : Int) + 1))).run Tryd.prog W = .ok (.int .u8 (bt t (i + 1) : Nat)) W := ixB t (i + 1) hp1
                  have hb5 := bt_lt t (i + 1)
                  by_cases s1 : bt t (i + 1) = 43
                  · have HS := Lib.hid (show sg (bt t) t.size (i + 1) = i + 1 + 1 from if_pos ⟨hp1, .inl s1⟩)
                    rw [s1] at i5
                    clear hb5 s1
                    go_wp2_with fail
                    go_loopw [4] (fun iv wr => ∃ k : Nat, iv = .int .i64 (k : Int) ∧ i + 1 + 1 ≤ k ∧ k ≤ t.size ∧ Hid (∀ q, i + 1 + 1 ≤ q → q < k → isD (bt t q)) ∧ Hid (wr = w)) (fun iv _ => t.size - (intOf iv).toNat)
                    case atStart => exact ⟨i + 1 + 1, by go_num, by omega, by omega, Lib.hid (fun q h1 h2 => by omega), Lib.hid rfl⟩
                    case round =>
                      obtain ⟨k, rfl, hk1, hk2, HQ3, HW3⟩ := hrel
                      obtain rfl := HW3.out.symm
                      by_cases hlt3 : k < t.size
                      · have i3 := ixB t k hlt3
                        by_cases hd3 : isD (bt t k)
                        · have HQ4 := Lib.hid (show ∀ q, i + 1 + 1 ≤ q → q < k + 1 → isD (bt t q) from fun q h1 h2 => by
                            by_cases e : q = k
                            · subst e; exact hd3
                            · exact HQ3.out q h1 (by omega))
                          obtain ⟨d1, d2⟩ := hd3
                          generalize bt t k = x at d1 d2 i3
                          go_wp2_with fail
                          go_roundw
                          case rel => exact ⟨k + 1, by go_num, by omega, by omega, HQ4, Lib.hid trivial⟩
                          case measure => simp [intOf]; omega
                        · have HR3 := Lib.hid (show Run (bt t) t.size (i + 1 + 1) k from ⟨hk1, hk2, HQ3.out, fun _ => hd3⟩)
                          have HK3 := Lib.hid hlt3
                          have hb3 := bt_lt t k
                          have hd4 : bt t k < 48 ∨ 57 < bt t k := by unfold isD at hd3; omega
                          clear hd3
                          generalize bt t k = x at i3 hd4 hb3
                          have z3 : ((k : Int) == (t.size : Int)) = false := by rw [beq_eq_false_iff_ne]; omega
                          rcases hd4 with hd4 | hd4
                          · go_wp2
                            go_ret
                            refine ⟨⟨false, rfl, ?_⟩, rfl⟩
                            rw [HST.out]
                            exact ⟨fun h => by simp at h, fun h => absurd h (fun h => by have h2 := (numT_iff HM.out).1 h; have h3 := (tail_iff HEI.out HE.out (by rw [HS.out]; exact HR3.out)).1 h2.2; have := HK3.out; omega)⟩
                          · go_wp2
                            go_ret
                            refine ⟨⟨false, rfl, ?_⟩, rfl⟩
                            rw [HST.out]
                            exact ⟨fun h => by simp at h, fun h => absurd h (fun h => by have h2 := (numT_iff HM.out).1 h; have h3 := (tail_iff HEI.out HE.out (by rw [HS.out]; exact HR3.out)).1 h2.2; have := HK3.out; omega)⟩
                      · have HR3 := Lib.hid (show Run (bt t) t.size (i + 1 + 1) k from ⟨hk1, hk2, HQ3.out, fun h => absurd h hlt3⟩)
                        have HKe := Lib.hid (show k = t.size by omega)
                        have z3 : ((k : Int) == (t.size : Int)) = true := by rw [beq_iff_eq]; omega
                        by_cases hk0 : i + 1 + 1 < k
                        · have HK0 := Lib.hid hk0
                          have zk : decide ((i : Int) + 1 + 1 < (k : Int)) = true := decide_eq_true (by omega)
                          go_wp2
                          go_ret
                          refine ⟨⟨true, rfl, ?_⟩, rfl⟩
                          rw [HST.out]
                          exact ⟨fun _ => (numT_iff HM.out).2 ⟨HP.out, (tail_iff HEI.out HE.out (by rw [HS.out]; exact HR3.out)).2 ⟨HKe.out, by rw [HS.out]; exact HK0.out⟩⟩, fun _ => rfl⟩
                        · have HK0 := Lib.hid hk0
                          have zk : decide ((i : Int) + 1 + 1 < (k : Int)) = false := decide_eq_false (by omega)
                          go_wp2
                          go_ret
                          refine ⟨⟨false, rfl, ?_⟩, rfl⟩
                          rw [HST.out]
                          exact ⟨fun h => by simp at h, fun h => absurd h (fun h => by have h2 := (numT_iff HM.out).1 h; have h3 := (tail_iff HEI.out HE.out (by rw [HS.out]; exact HR3.out)).1 h2.2; rw [HS.out] at h3; exact HK0.out h3.2)⟩
                  · by_cases s2 : bt t (i + 1) = 45
                    · have HS := Lib.hid (show sg (bt t) t.size (i + 1) = i + 1 + 1 from if_pos ⟨hp1, .inr s2⟩)
                      rw [s2] at i5
                      clear hb5 s1 s2
                      go_wp2_with fail
                      go_loopw [4] (fun iv wr => ∃ k : Nat, iv = .int .i64 (k : Int) ∧ i + 1 + 1 ≤ k ∧ k ≤ t.size ∧ Hid (∀ q, i + 1 + 1 ≤ q → q < k → isD (bt t q)) ∧ Hid (wr = w)) (fun iv _ => t.size - (intOf iv).toNat)
                      case atStart => exact ⟨i + 1 + 1, by go_num, by omega, by omega, Lib.hid (fun q h1 h2 => by omega), Lib.hid rfl⟩
                      case round =>
                        obtain ⟨k, rfl, hk1, hk2, HQ3, HW3⟩ := hrel
                        obtain rfl := HW3.out.symm
                        by_cases hlt3 : k < t.size
                        · have i3 := ixB t k hlt3
                          by_cases hd3 : isD (bt t k)
                          · have HQ4 := Lib.hid (show ∀ q, i + 1 + 1 ≤ q → q < k + 1 → isD (bt t q) from fun q h1 h2 => by
                              by_cases e : q = k
                              · subst e; exact hd3
                              · exact HQ3.out q h1 (by omega))
                            obtain ⟨d1, d2⟩ := hd3
                            generalize bt t k = x at d1 d2 i3
                            go_wp2_with fail
                            go_roundw
                            case rel => exact ⟨k + 1, by go_num, by omega, by omega, HQ4, Lib.hid trivial⟩
                            case measure => simp [intOf]; omega
                          · have HR3 := Lib.hid (show Run (bt t) t.size (i + 1 + 1) k from ⟨hk1, hk2, HQ3.out, fun _ => hd3⟩)
                            have HK3 := Lib.hid hlt3
                            have hb3 := bt_lt t k
                            have hd4 : bt t k < 48 ∨ 57 < bt t k := by unfold isD at hd3; omega
                            clear hd3
                            generalize bt t k = x at i3 hd4 hb3
                            have z3 : ((k : Int) == (t.size : Int)) = false := by rw [beq_eq_false_iff_ne]; omega
                            rcases hd4 with hd4 | hd4
                            · go_wp2
                              go_ret
                              refine ⟨⟨false, rfl, ?_⟩, rfl⟩
                              rw [HST.out]
                              exact ⟨fun h => by simp at h, fun h => absurd h (fun h => by have h2 := (numT_iff HM.out).1 h; have h3 := (tail_iff HEI.out HE.out (by rw [HS.out]; exact HR3.out)).1 h2.2; have := HK3.out; omega)⟩
                            · go_wp2
                              go_ret
                              refine ⟨⟨false, rfl, ?_⟩, rfl⟩
                              rw [HST.out]
                              exact ⟨fun h => by simp at h, fun h => absurd h (fun h => by have h2 := (numT_iff HM.out).1 h; have h3 := (tail_iff HEI.out HE.out (by rw [HS.out]; exact HR3.out)).1 h2.2; have := HK3.out; omega)⟩
                        · have HR3 := Lib.hid (show Run (bt t) t.size (i + 1 + 1) k from ⟨hk1, hk2, HQ3.out, fun h => absurd h hlt3⟩)
                          have HKe := Lib.hid (show k = t.size by omega)
                          have z3 : ((k : Int) == (t.size : Int)) = true := by rw [beq_iff_eq]; omega
                          by_cases hk0 : i + 1 + 1 < k
                          · have HK0 := Lib.hid hk0
                            have zk : decide ((i : Int) + 1 + 1 < (k : Int)) = true := decide_eq_true (by omega)
                            go_wp2
                            go_ret
                            refine ⟨⟨true, rfl, ?_⟩, rfl⟩
                            rw [HST.out]
                            exact ⟨fun _ => (numT_iff HM.out).2 ⟨HP.out, (tail_iff HEI.out HE.out (by rw [HS.out]; exact HR3.out)).2 ⟨HKe.out, by rw [HS.out]; exact HK0.out⟩⟩, fun _ => rfl⟩
                          · have HK0 := Lib.hid hk0
                            have zk : decide ((i : Int) + 1 + 1 < (k : Int)) = false := decide_eq_false (by omega)
                            go_wp2
                            go_ret
                            refine ⟨⟨false, rfl, ?_⟩, rfl⟩
                            rw [HST.out]
                            exact ⟨fun h => by simp at h, fun h => absurd h (fun h => by have h2 := (numT_iff HM.out).1 h; have h3 := (tail_iff HEI.out HE.out (by rw [HS.out]; exact HR3.out)).1 h2.2; rw [HS.out] at h3; exact HK0.out h3.2)⟩
                    · have HS := Lib.hid (show sg (bt t) t.size (i + 1) = i + 1 from if_neg (by rintro ⟨_, h | h⟩ <;> contradiction))
                      have q1 : (((bt t (i + 1) : Nat) : Int) == 43) = false := by rw [beq_eq_false_iff_ne]; omega
                      have q2 : (((bt t (i + 1) : Nat) : Int) == 45) = false := by rw [beq_eq_false_iff_ne]; omega
                      clear s1 s2
                      generalize bt t (i + 1) = y at i5 q1 q2 hb5
                      go_wp2_with fail
                      go_loopw [4] (fun iv wr => ∃ k : Nat, iv = .int .i64 (k : Int) ∧ i + 1 ≤ k ∧ k ≤ t.size ∧ Hid (∀ q, i + 1 ≤ q → q < k → isD (bt t q)) ∧ Hid (wr = w)) (fun iv _ => t.size - (intOf iv).toNat)
                      case atStart => exact ⟨i + 1, by go_num, by omega, by omega, Lib.hid (fun q h1 h2 => by omega), Lib.hid rfl⟩
                      case round =>
                        obtain ⟨k, rfl, hk1, hk2, HQ3, HW3⟩ := hrel
                        obtain rfl := HW3.out.symm
                        by_cases hlt3 : k < t.size
                        · have i3 := ixB t k hlt3
                          by_cases hd3 : isD (bt t k)
                          · have HQ4 := Lib.hid (show ∀ q, i + 1 ≤ q → q < k + 1 → isD (bt t q) from fun q h1 h2 => by
                              by_cases e : q = k
                              · subst e; exact hd3
                              · exact HQ3.out q h1 (by omega))
                            obtain ⟨d1, d2⟩ := hd3
                            generalize bt t k = x at d1 d2 i3
                            go_wp2_with fail
                            go_roundw
                            case rel => exact ⟨k + 1, by go_num, by omega, by omega, HQ4, Lib.hid trivial⟩
                            case measure => simp [intOf]; omega
                          · have HR3 := Lib.hid (show Run (bt t) t.size (i + 1) k from ⟨hk1, hk2, HQ3.out, fun _ => hd3⟩)
                            have HK3 := Lib.hid hlt3
                            have hb3 := bt_lt t k
                            have hd4 : bt t k < 48 ∨ 57 < bt t k := by unfold isD at hd3; omega
                            clear hd3
                            generalize bt t k = x at i3 hd4 hb3
                            have z3 : ((k : Int) == (t.size : Int)) = false := by rw [beq_eq_false_iff_ne]; omega
                            rcases hd4 with hd4 | hd4
                            · go_wp2
                              go_ret
                              refine ⟨⟨false, rfl, ?_⟩, rfl⟩
                              rw [HST.out]
                              exact ⟨fun h => by simp at h, fun h => absurd h (fun h => by have h2 := (numT_iff HM.out).1 h; have h3 := (tail_iff HEI.out HE.out (by rw [HS.out]; exact HR3.out)).1 h2.2; have := HK3.out; omega)⟩
                            · go_wp2
                              go_ret
                              refine ⟨⟨false, rfl, ?_⟩, rfl⟩
                              rw [HST.out]
                              exact ⟨fun h => by simp at h, fun h => absurd h (fun h => by have h2 := (numT_iff HM.out).1 h; have h3 := (tail_iff HEI.out HE.out (by rw [HS.out]; exact HR3.out)).1 h2.2; have := HK3.out; omega)⟩
                        · have HR3 := Lib.hid (show Run (bt t) t.size (i + 1) k from ⟨hk1, hk2, HQ3.out, fun h => absurd h hlt3⟩)
                          have HKe := Lib.hid (show k = t.size by omega)
                          have z3 : ((k : Int) == (t.size : Int)) = true := by rw [beq_iff_eq]; omega
                          by_cases hk0 : i + 1 < k
                          · have HK0 := Lib.hid hk0
                            have zk : decide ((i : Int) + 1 < (k : Int)) = true := decide_eq_true (by omega)
                            go_wp2
                            go_ret
                            refine ⟨⟨true, rfl, ?_⟩, rfl⟩
                            rw [HST.out]
                            exact ⟨fun _ => (numT_iff HM.out).2 ⟨HP.out, (tail_iff HEI.out HE.out (by rw [HS.out]; exact HR3.out)).2 ⟨HKe.out, by rw [HS.out]; exact HK0.out⟩⟩, fun _ => rfl⟩
                          · have HK0 := Lib.hid hk0
                            have zk : decide ((i : Int) + 1 < (k : Int)) = false := decide_eq_false (by omega)
                            go_wp2
                            go_ret
                            refine ⟨⟨false, rfl, ?_⟩, rfl⟩
                            rw [HST.out]
                            exact ⟨fun h => by simp at h, fun h => absurd h (fun h => by have h2 := (numT_iff HM.out).1 h; have h3 := (tail_iff HEI.out HE.out (by rw [HS.out]; exact HR3.out)).1 h2.2; rw [HS.out] at h3; exact HK0.out h3.2)⟩
                · have HS := Lib.hid (show sg (bt t) t.size (i + 1) = i + 1 from if_neg (by rintro ⟨h, _⟩; contradiction))
                  go_wp2_with fail
                  go_loopw [4] (fun iv wr => ∃ k : Nat, iv = .int .i64 (k : Int) ∧ i + 1 ≤ k ∧ k ≤ t.size ∧ Hid (∀ q, i + 1 ≤ q → q < k → isD (bt t q)) ∧ Hid (wr = w)) (fun iv _ => t.size - (intOf iv).toNat)
                  case atStart => exact ⟨i + 1, by go_num, by omega, by omega, Lib.hid (fun q h1 h2 => by omega), Lib.hid rfl⟩
                  case round =>
                    obtain ⟨k, rfl, hk1, hk2, HQ3, HW3⟩ := hrel
                    obtain rfl := HW3.out.symm
                    by_cases hlt3 : k < t.size
                    · exact absurd hlt3 (by omega)
                    · have HR3 := Lib.hid (show Run (bt t) t.size (i + 1) k from ⟨hk1, hk2, HQ3.out, fun h => absurd h hlt3⟩)
                      have HKe := Lib.hid (show k = t.size by omega)
                      have z3 : ((k : Int) == (t.size : Int)) = true := by rw [beq_iff_eq]; omega
                      by_cases hk0 : i + 1 < k
                      · have HK0 := Lib.hid hk0
                        have zk : decide ((i : Int) + 1 < (k : Int)) = true := decide_eq_true (by omega)
                        go_wp2
                        go_ret
                        refine ⟨⟨true, rfl, ?_⟩, rfl⟩
                        rw [HST.out]
                        exact ⟨fun _ => (numT_iff HM.out).2 ⟨HP.out, (tail_iff HEI.out HE.out (by rw [HS.out]; exact HR3.out)).2 ⟨HKe.out, by rw [HS.out]; exact HK0.out⟩⟩, fun _ => rfl⟩
                      · have HK0 := Lib.hid hk0
                        have zk : decide ((i : Int) + 1 < (k : Int)) = false := decide_eq_false (by omega)
                        go_wp2
                        go_ret
                        refine ⟨⟨false, rfl, ?_⟩, rfl⟩
                        rw [HST.out]
                        exact ⟨fun h => by simp at h, fun h => absurd h (fun h => by have h2 := (numT_iff HM.out).1 h; have h3 := (tail_iff HEI.out HE.out (by rw [HS.out]; exact HR3.out)).1 h2.2; rw [HS.out] at h3; exact HK0.out h3.2)⟩
              · by_cases e2 : bt t i = 69
                · have HE := Lib.hid (show isE (bt t i) from .inr e2)
                  rw [e2] at iM
                  clear hcc hbb e1 e2 hhi
                  by_cases hp1 : i + 1 < t.size
                  · have i5 : ∀ W, (Instr.index 9 (.string t) (.int .i64 ((i : Int) + 1))).run Tryd.prog W = .ok (.int .u8 (bt t (i + 1) : Nat)) W := ixB t (i + 1) hp1
                    have hb5 := bt_lt t (i + 1)
                    by_cases s1 : bt t (i + 1) = 43
                    · have HS := Lib.hid (show sg (bt t) t.size (i + 1) = i + 1 + 1 from if_pos ⟨hp1, .inl s1⟩)
                      rw [s1] at i5
                      clear hb5 s1
                      go_wp2_with fail
                      go_loopw [4] (fun iv wr => ∃ k : Nat, iv = .int .i64 (k : Int) ∧ i + 1 + 1 ≤ k ∧ k ≤ t.size ∧ Hid (∀ q, i + 1 + 1 ≤ q → q < k → isD (bt t q)) ∧ Hid (wr = w)) (fun iv _ => t.size - (intOf iv).toNat)
                      case atStart => exact ⟨i + 1 + 1, by go_num, by omega, by omega, Lib.hid (fun q h1 h2 => by omega), Lib.hid rfl⟩
                      case round =>
                        obtain ⟨k, rfl, hk1, hk2, HQ3, HW3⟩ := hrel
                        obtain rfl := HW3.out.symm
                        by_cases hlt3 : k < t.size
                        · have i3 := ixB t k hlt3
                          by_cases hd3 : isD (bt t k)
                          · have HQ4 := Lib.hid (show ∀ q, i + 1 + 1 ≤ q → q < k + 1 → isD (bt t q) from fun q h1 h2 => by
                              by_cases e : q = k
                              · subst e; exact hd3
                              · exact HQ3.out q h1 (by omega))
                            obtain ⟨d1, d2⟩ := hd3
                            generalize bt t k = x at d1 d2 i3
                            go_wp2_with fail
                            go_roundw
                            case rel => exact ⟨k + 1, by go_num, by omega, by omega, HQ4, Lib.hid trivial⟩
                            case measure => simp [intOf]; omega
                          · have HR3 := Lib.hid (show Run (bt t) t.size (i + 1 + 1) k from ⟨hk1, hk2, HQ3.out, fun _ => hd3⟩)
                            have HK3 := Lib.hid hlt3
                            have hb3 := bt_lt t k
                            have hd4 : bt t k < 48 ∨ 57 < bt t k := by unfold isD at hd3; omega
                            clear hd3
                            generalize bt t k = x at i3 hd4 hb3
                            have z3 : ((k : Int) == (t.size : Int)) = false := by rw [beq_eq_false_iff_ne]; omega
                            rcases hd4 with hd4 | hd4
                            · go_wp2
                              go_ret
                              refine ⟨⟨false, rfl, ?_⟩, rfl⟩
                              rw [HST.out]
                              exact ⟨fun h => by simp at h, fun h => absurd h (fun h => by have h2 := (numT_iff HM.out).1 h; have h3 := (tail_iff HEI.out HE.out (by rw [HS.out]; exact HR3.out)).1 h2.2; have := HK3.out; omega)⟩
                            · go_wp2
                              go_ret
                              refine ⟨⟨false, rfl, ?_⟩, rfl⟩
                              rw [HST.out]
                              exact ⟨fun h => by simp at h, fun h => absurd h (fun h => by have h2 := (numT_iff HM.out).1 h; have h3 := (tail_iff HEI.out HE.out (by rw [HS.out]; exact HR3.out)).1 h2.2; have := HK3.out; omega)⟩
                        · have HR3 := Lib.hid (show Run (bt t) t.size (i + 1 + 1) k from ⟨hk1, hk2, HQ3.out, fun h => absurd h hlt3⟩)
                          have HKe := Lib.hid (show k = t.size by omega)
                          have z3 : ((k : Int) == (t.size : Int)) = true := by rw [beq_iff_eq]; omega
                          by_cases hk0 : i + 1 + 1 < k
                          · have HK0 := Lib.hid hk0
                            have zk : decide ((i : Int) + 1 + 1 < (k : Int)) = true := decide_eq_true (by omega)
                            go_wp2
                            go_ret
                            refine ⟨⟨true, rfl, ?_⟩, rfl⟩
                            rw [HST.out]
                            exact ⟨fun _ => (numT_iff HM.out).2 ⟨HP.out, (tail_iff HEI.out HE.out (by rw [HS.out]; exact HR3.out)).2 ⟨HKe.out, by rw [HS.out]; exact HK0.out⟩⟩, fun _ => rfl⟩
                          · have HK0 := Lib.hid hk0
                            have zk : decide ((i : Int) + 1 + 1 < (k : Int)) = false := decide_eq_false (by omega)
                            go_wp2
                            go_ret
                            refine ⟨⟨false, rfl, ?_⟩, rfl⟩
                            rw [HST.out]
                            exact ⟨fun h => by simp at h, fun h => absurd h (fun h => by have h2 := (numT_iff HM.out).1 h; have h3 := (tail_iff HEI.out HE.out (by rw [HS.out]; exact HR3.out)).1 h2.2; rw [HS.out] at h3; exact HK0.out h3.2)⟩
                    · by_cases s2 : bt t (i + 1) = 45
                      · have HS := Lib.hid (show sg (bt t) t.size (i + 1) = i + 1 + 1 from if_pos ⟨hp1, .inr s2⟩)
                        rw [s2] at i5
                        clear hb5 s1 s2
                        go_wp2_with fail
                        go_loopw [4] (fun iv wr => ∃ k : Nat, iv = .int .i64 (k : Int) ∧ i + 1 + 1 ≤ k ∧ k ≤ t.size ∧ Hid (∀ q, i + 1 + 1 ≤ q → q < k → isD (bt t q)) ∧ Hid (wr = w)) (fun iv _ => t.size - (intOf iv).toNat)
                        case atStart => exact ⟨i + 1 + 1, by go_num, by omega, by omega, Lib.hid (fun q h1 h2 => by omega), Lib.hid rfl⟩
                        case round =>
                          obtain ⟨k, rfl, hk1, hk2, HQ3, HW3⟩ := hrel
                          obtain rfl := HW3.out.symm
                          by_cases hlt3 : k < t.size
                          · have i3 := ixB t k hlt3
                            by_cases hd3 : isD (bt t k)
                            · have HQ4 := Lib.hid (show ∀ q, i + 1 + 1 ≤ q → q < k + 1 → isD (bt t q) from fun q h1 h2 => by
                                by_cases e : q = k
                                · subst e; exact hd3
                                · exact HQ3.out q h1 (by omega))
                              obtain ⟨d1, d2⟩ := hd3
                              generalize bt t k = x at d1 d2 i3
                              go_wp2_with fail
                              go_roundw
                              case rel => exact ⟨k + 1, by go_num, by omega, by omega, HQ4, Lib.hid trivial⟩
                              case measure => simp [intOf]; omega
                            · have HR3 := Lib.hid (show Run (bt t) t.size (i + 1 + 1) k from ⟨hk1, hk2, HQ3.out, fun _ => hd3⟩)
                              have HK3 := Lib.hid hlt3
                              have hb3 := bt_lt t k
                              have hd4 : bt t k < 48 ∨ 57 < bt t k := by unfold isD at hd3; omega
                              clear hd3
                              generalize bt t k = x at i3 hd4 hb3
                              have z3 : ((k : Int) == (t.size : Int)) = false := by rw [beq_eq_false_iff_ne]; omega
                              rcases hd4 with hd4 | hd4
                              · go_wp2
                                go_ret
                                refine ⟨⟨false, rfl, ?_⟩, rfl⟩
                                rw [HST.out]
                                exact ⟨fun h => by simp at h, fun h => absurd h (fun h => by have h2 := (numT_iff HM.out).1 h; have h3 := (tail_iff HEI.out HE.out (by rw [HS.out]; exact HR3.out)).1 h2.2; have := HK3.out; omega)⟩
                              · go_wp2
                                go_ret
                                refine ⟨⟨false, rfl, ?_⟩, rfl⟩
                                rw [HST.out]
                                exact ⟨fun h => by simp at h, fun h => absurd h (fun h => by have h2 := (numT_iff HM.out).1 h; have h3 := (tail_iff HEI.out HE.out (by rw [HS.out]; exact HR3.out)).1 h2.2; have := HK3.out; omega)⟩
                          · have HR3 := Lib.hid (show Run (bt t) t.size (i + 1 + 1) k from ⟨hk1, hk2, HQ3.out, fun h => absurd h hlt3⟩)
                            have HKe := Lib.hid (show k = t.size by omega)
                            have z3 : ((k : Int) == (t.size : Int)) = true := by rw [beq_iff_eq]; omega
                            by_cases hk0 : i + 1 + 1 < k
                            · have HK0 := Lib.hid hk0
                              have zk : decide ((i : Int) + 1 + 1 < (k : Int)) = true := decide_eq_true (by omega)
                              go_wp2
                              go_ret
                              refine ⟨⟨true, rfl, ?_⟩, rfl⟩
                              rw [HST.out]
                              exact ⟨fun _ => (numT_iff HM.out).2 ⟨HP.out, (tail_iff HEI.out HE.out (by rw [HS.out]; exact HR3.out)).2 ⟨HKe.out, by rw [HS.out]; exact HK0.out⟩⟩, fun _ => rfl⟩
                            · have HK0 := Lib.hid hk0
                              have zk : decide ((i : Int) + 1 + 1 < (k : Int)) = false := decide_eq_false (by omega)
                              go_wp2
                              go_ret
                              refine ⟨⟨false, rfl, ?_⟩, rfl⟩
                              rw [HST.out]
                              exact ⟨fun h => by simp at h, fun h => absurd h (fun h => by have h2 := (numT_iff HM.out).1 h; have h3 := (tail_iff HEI.out HE.out (by rw [HS.out]; exact HR3.out)).1 h2.2; rw [HS.out] at h3; exact HK0.out h3.2)⟩
                      · have HS := Lib.hid (show sg (bt t) t.size (i + 1) = i + 1 from if_neg (by rintro ⟨_, h | h⟩ <;> contradiction))
                        have q1 : (((bt t (i + 1) : Nat) : Int) == 43) = false := by rw [beq_eq_false_iff_ne]; omega
                        have q2 : (((bt t (i + 1) : Nat) : Int) == 45) = false := by rw [beq_eq_false_iff_ne]; omega
                        clear s1 s2
                        generalize bt t (i + 1) = y at i5 q1 q2 hb5
                        go_wp2_with fail
                        go_loopw [4] (fun iv wr => ∃ k : Nat, iv = .int .i64 (k : Int) ∧ i + 1 ≤ k ∧ k ≤ t.size ∧ Hid (∀ q, i + 1 ≤ q → q < k → isD (bt t q)) ∧ Hid (wr = w)) (fun iv _ => t.size - (intOf iv).toNat)
                        case atStart => exact ⟨i + 1, by go_num, by omega, by omega, Lib.hid (fun q h1 h2 => by omega), Lib.hid rfl⟩
                        case round =>
                          obtain ⟨k, rfl, hk1, hk2, HQ3, HW3⟩ := hrel
                          obtain rfl := HW3.out.symm
                          by_cases hlt3 : k < t.size
                          · have i3 := ixB t k hlt3
                            by_cases hd3 : isD (bt t k)
                            · have HQ4 := Lib.hid (show ∀ q, i + 1 ≤ q → q < k + 1 → isD (bt t q) from fun q h1 h2 => by
                                by_cases e : q = k
                                · subst e; exact hd3
                                · exact HQ3.out q h1 (by omega))
                              obtain ⟨d1, d2⟩ := hd3
                              generalize bt t k = x at d1 d2 i3
                              go_wp2_with fail
                              go_roundw
                              case rel => exact ⟨k + 1, by go_num, by omega, by omega, HQ4, Lib.hid trivial⟩
                              case measure => simp [intOf]; omega
                            · have HR3 := Lib.hid (show Run (bt t) t.size (i + 1) k from ⟨hk1, hk2, HQ3.out, fun _ => hd3⟩)
                              have HK3 := Lib.hid hlt3
                              have hb3 := bt_lt t k
                              have hd4 : bt t k < 48 ∨ 57 < bt t k := by unfold isD at hd3; omega
                              clear hd3
                              generalize bt t k = x at i3 hd4 hb3
                              have z3 : ((k : Int) == (t.size : Int)) = false := by rw [beq_eq_false_iff_ne]; omega
                              rcases hd4 with hd4 | hd4
                              · go_wp2
                                go_ret
                                refine ⟨⟨false, rfl, ?_⟩, rfl⟩
                                rw [HST.out]
                                exact ⟨fun h => by simp at h, fun h => absurd h (fun h => by have h2 := (numT_iff HM.out).1 h; have h3 := (tail_iff HEI.out HE.out (by rw [HS.out]; exact HR3.out)).1 h2.2; have := HK3.out; omega)⟩
                              · go_wp2
                                go_ret
                                refine ⟨⟨false, rfl, ?_⟩, rfl⟩
                                rw [HST.out]
                                exact ⟨fun h => by simp at h, fun h => absurd h (fun h => by have h2 := (numT_iff HM.out).1 h; have h3 := (tail_iff HEI.out HE.out (by rw [HS.out]; exact HR3.out)).1 h2.2; have := HK3.out; omega)⟩
                          · have HR3 := Lib.hid (show Run (bt t) t.size (i + 1) k from ⟨hk1, hk2, HQ3.out, fun h => absurd h hlt3⟩)
                            have HKe := Lib.hid (show k = t.size by omega)
                            have z3 : ((k : Int) == (t.size : Int)) = true := by rw [beq_iff_eq]; omega
                            by_cases hk0 : i + 1 < k
                            · have HK0 := Lib.hid hk0
                              have zk : decide ((i : Int) + 1 < (k : Int)) = true := decide_eq_true (by omega)
                              go_wp2
                              go_ret
                              refine ⟨⟨true, rfl, ?_⟩, rfl⟩
                              rw [HST.out]
                              exact ⟨fun _ => (numT_iff HM.out).2 ⟨HP.out, (tail_iff HEI.out HE.out (by rw [HS.out]; exact HR3.out)).2 ⟨HKe.out, by rw [HS.out]; exact HK0.out⟩⟩, fun _ => rfl⟩
                            · have HK0 := Lib.hid hk0
                              have zk : decide ((i : Int) + 1 < (k : Int)) = false := decide_eq_false (by omega)
                              go_wp2
                              go_ret
                              refine ⟨⟨false, rfl, ?_⟩, rfl⟩
                              rw [HST.out]
                              exact ⟨fun h => by simp at h, fun h => absurd h (fun h => by have h2 := (numT_iff HM.out).1 h; have h3 := (tail_iff HEI.out HE.out (by rw [HS.out]; exact HR3.out)).1 h2.2; rw [HS.out] at h3; exact HK0.out h3.2)⟩
                  · have HS := Lib.hid (show sg (bt t) t.size (i + 1) = i + 1 from if_neg (by rintro ⟨h, _⟩; contradiction))
                    go_wp2_with fail
                    go_loopw [4] (fun iv wr => ∃ k : Nat, iv = .int .i64 (k : Int) ∧ i + 1 ≤ k ∧ k ≤ t.size ∧ Hid (∀ q, i + 1 ≤ q → q < k → isD (bt t q)) ∧ Hid (wr = w)) (fun iv _ => t.size - (intOf iv).toNat)
                    case atStart => exact ⟨i + 1, by go_num, by omega, by omega, Lib.hid (fun q h1 h2 => by omega), Lib.hid rfl⟩
                    case round =>
                      obtain ⟨k, rfl, hk1, hk2, HQ3, HW3⟩ := hrel
                      obtain rfl := HW3.out.symm
                      by_cases hlt3 : k < t.size
                      · exact absurd hlt3 (by omega)
                      · have HR3 := Lib.hid (show Run (bt t) t.size (i + 1) k from ⟨hk1, hk2, HQ3.out, fun h => absurd h hlt3⟩)
                        have HKe := Lib.hid (show k = t.size by omega)
                        have z3 : ((k : Int) == (t.size : Int)) = true := by rw [beq_iff_eq]; omega
                        by_cases hk0 : i + 1 < k
                        · have HK0 := Lib.hid hk0
                          have zk : decide ((i : Int) + 1 < (k : Int)) = true := decide_eq_true (by omega)
                          go_wp2
                          go_ret
                          refine ⟨⟨true, rfl, ?_⟩, rfl⟩
                          rw [HST.out]
                          exact ⟨fun _ => (numT_iff HM.out).2 ⟨HP.out, (tail_iff HEI.out HE.out (by rw [HS.out]; exact HR3.out)).2 ⟨HKe.out, by rw [HS.out]; exact HK0.out⟩⟩, fun _ => rfl⟩
                        · have HK0 := Lib.hid hk0
                          have zk : decide ((i : Int) + 1 < (k : Int)) = false := decide_eq_false (by omega)
                          go_wp2
                          go_ret
                          refine ⟨⟨false, rfl, ?_⟩, rfl⟩
                          rw [HST.out]
                          exact ⟨fun h => by simp at h, fun h => absurd h (fun h => by have h2 := (numT_iff HM.out).1 h; have h3 := (tail_iff HEI.out HE.out (by rw [HS.out]; exact HR3.out)).1 h2.2; rw [HS.out] at h3; exact HK0.out h3.2)⟩
                · have HNE := Lib.hid (show ¬ isE (bt t i) by unfold isE; omega)
                  have q5 : (((bt t i : Nat) : Int) != 101) = true := by rw [bne_iff_ne]; omega
                  have q6 : (((bt t i : Nat) : Int) != 69) = true := by rw [bne_iff_ne]; omega
                  have q7 : (((bt t i : Nat) : Int) == 101) = false := by rw [beq_eq_false_iff_ne]; omega
                  have q8 : (((bt t i : Nat) : Int) == 69) = false := by rw [beq_eq_false_iff_ne]; omega
                  clear hcc
                  generalize bt t i = x at iM q5 q6 q7 q8 hbb hhi q9
                  go_wp2
                  go_ret
                  refine ⟨⟨false, rfl, ?_⟩, rfl⟩
                  rw [HST.out]
                  exact ⟨fun h => by simp at h, fun h => absurd h (fun h => tail_not HEI.out HNE.out ((numT_iff HM.out).1 h).2)⟩
    · have HR := Lib.hid (show Run (bt t) t.size 0 i from ⟨Nat.zero_le _, hi, HQ.out, fun h => absurd h hlt⟩)
      have HM := Lib.hid (show Mant (bt t) t.size i i from ⟨HR.out, .inr ⟨fun h => hlt h.1, rfl⟩⟩)
      have HC := Lib.hid (show (0 < i ∨ i + 1 < i) ↔ i ≠ 0 by omega)
      by_cases hc0 : i = 0
      · have HC0 := Lib.hid hc0
        have z0 : ((i : Int) == 0) = true := by rw [beq_iff_eq]; omega
        clear hc0
        go_wp2
        go_ret
        refine ⟨⟨false, rfl, ?_⟩, rfl⟩
        rw [HST.out]
        exact ⟨fun h => by simp at h, fun h => absurd h (fun h => (HC.out.1 ((numT_iff HM.out).1 h).1) HC0.out)⟩
      · have HP := Lib.hid (HC.out.2 hc0)
        have z0 : ((i : Int) == 0) = false := by rw [beq_eq_false_iff_ne]; omega
        clear hc0
        have HME := Lib.hid (show i = t.size by omega)
        have z1 : ((i : Int) == (t.size : Int)) = true := by rw [beq_iff_eq]; omega
        go_wp2
        go_ret
        refine ⟨⟨true, rfl, ?_⟩, rfl⟩
        rw [HST.out]
        exact ⟨fun _ => (numT_iff HM.out).2 ⟨HP.out, HME.out.symm ▸ tail_end⟩, fun _ => rfl⟩
end Go.Proofs.YtefjonnajjpajaaDoor
