/- Go's own special: infinity, nan; told. Texts of at most 1000 bytes. -/
import Derived.Test.YtilkcnoooecngaaGreatDoorSdR
import Derived.Test.YtilkcnoooecngaaGreatDoorBtUp
namespace Go.Proofs.YtilkcnoooecngaaGreatDoor
open Go.RowKit
set_option linter.unusedVariables false
def wNan : ByteArray := ⟨#[110, 97, 110]⟩
def wInf : ByteArray := ⟨#[105, 110, 102]⟩
def wInfy : ByteArray := ⟨#[105, 110, 102, 105, 110, 105, 116, 121]⟩
def Folds (s t : ByteArray) : Prop := s.size = t.size ∧ ∀ q, q < s.size → lowc (bt s q) = bt t q
theorem Folds.fold {s t : ByteArray} (h : Folds s t) : FoldR s t true := ⟨fun _ => h, fun _ => rfl⟩
def CpOk (s t : ByteArray) (k : Nat) : Prop := k ≤ s.size ∧ k ≤ t.size ∧ (∀ q, q < k → lowc (bt s q) = bt t q) ∧ (k = min t.size s.size ∨ lowc (bt s k) ≠ bt t k)
def CpRet (s t : ByteArray) (w : World) (e : Ending) (w' : World) : Prop := w' = w ∧ ∃ k : Nat, e = .returned (.int .i64 (k : Int)) ∧ CpOk s t k
set_option maxHeartbeats 2000000 in
theorem cp_any (s t : ByteArray) (w : World) (hs : s.size ≤ 1000) (ht : t.size ≤ 1000) : Calls Tryz.prog 73 #[.string s, .string t] w (CpRet s t w) := by
  obtain ⟨m, hm⟩ : ∃ m, min t.size s.size = m := ⟨_, rfl⟩
  have hm1 : min (t.size : Int) (s.size : Int) = (m : Int) := by omega
  have hm2 : m ≤ s.size ∧ m ≤ t.size := by omega
  obtain ⟨hm3, hm4⟩ := hm2
  have HM := Lib.hid hm
  clear hm
  go_enter Tryz.func73, Tryz.ntmps73
  go_wp2_with fail
  go_loopw [6] (fun iv wr => ∃ k : Nat, iv = .int .i64 (k : Int) ∧ k ≤ m ∧ Hid (wr = w) ∧ Hid (∀ q, q < k → lowc (bt s q) = bt t q)) (fun iv _ => m - (intOf iv).toNat)
  case atStart => exact ⟨0, rfl, Nat.zero_le _, Lib.hid rfl, Lib.hid (fun q hq => absurd hq (by omega))⟩
  case round =>
    obtain ⟨k, rfl, hk, HW, HQ⟩ := hrel
    obtain rfl := HW.out.symm
    by_cases hlt : k < m
    · have i1 := ixB s k (by omega)
      have i2 := ixB t k (by omega)
      have hc := bt_lt s k
      have hx := bt_lt t k
      have HL := Lib.hid (show ∀ y, lowc (bt s k) = y → y = bt t k → ∀ q, q < k + 1 → lowc (bt s q) = bt t q from fun y h1 h2 q hq => by
        by_cases h : q = k
        · subst h; rw [h1, h2]
        · exact HQ.out q (by omega))
      have HN := Lib.hid (show ∀ y, lowc (bt s k) = y → y ≠ bt t k → CpOk s t k from fun y h1 h2 => ⟨by omega, by omega, HQ.out, .inr (by rw [h1]; exact h2)⟩)
      have HLo := Lib.hid (show ∀ y, y = lowc (bt s k) → lowc (bt s k) = y from fun y h => h.symm)
      unfold lowc at HLo
      generalize bt s k = c at *
      generalize bt t k = x at *
      by_cases hA : 65 ≤ c ∧ c ≤ 90
      · obtain ⟨hA1, hA2⟩ := hA
        have HY := Lib.hid (HLo.out (c + 32) (by rw [if_pos ⟨hA1, hA2⟩]))
        clear HLo
        by_cases he : c + 32 = x
        · have e1 : (((c : Int) + 32) != (x : Int)) = false := by rw [← he]; simp
          have HR := Lib.hid (HL.out _ HY.out he)
          clear he
          go_wp2_with fail
          go_roundw
          case rel => exact ⟨k + 1, by go_num, by omega, Lib.hid trivial, HR⟩
          case measure => simp [intOf]; omega
        · have e1 : (((c : Int) + 32) != (x : Int)) = true := by rw [bne_iff_ne]; omega
          have HR := Lib.hid (HN.out _ HY.out he)
          clear he
          go_wp2
          go_ret
          exact ⟨rfl, k, rfl, HR.out⟩
      · have HY := Lib.hid (HLo.out c (by rw [if_neg hA]))
        clear HLo
        by_cases he : c = x
        · have e1 : ((c : Int) != (x : Int)) = false := by rw [← he]; simp
          have HR := Lib.hid (HL.out _ HY.out he)
          clear he
          by_cases hA1 : 65 ≤ c
          · have hA2 : ¬ c ≤ 90 := fun h => hA ⟨hA1, h⟩
            clear hA
            go_wp2_with fail
            go_roundw
            case rel => exact ⟨k + 1, by go_num, by omega, Lib.hid trivial, HR⟩
            case measure => simp [intOf]; omega
          · clear hA
            go_wp2_with fail
            go_roundw
            case rel => exact ⟨k + 1, by go_num, by omega, Lib.hid trivial, HR⟩
            case measure => simp [intOf]; omega
        · have e1 : ((c : Int) != (x : Int)) = true := by rw [bne_iff_ne]; omega
          have HR := Lib.hid (HN.out _ HY.out he)
          clear he
          by_cases hA1 : 65 ≤ c
          · have hA2 : ¬ c ≤ 90 := fun h => hA ⟨hA1, h⟩
            clear hA
            go_wp2
            go_ret
            exact ⟨rfl, k, rfl, HR.out⟩
          · clear hA
            go_wp2
            go_ret
            exact ⟨rfl, k, rfl, HR.out⟩
    · have HR := Lib.hid (show CpOk s t m from ⟨hm3, hm4, fun q hq => HQ.out q (by omega), .inl HM.out.symm⟩)
      go_wp2
      go_ret
      exact ⟨rfl, m, rfl, HR.out⟩
theorem inf_any (z : Int) (w : World) : Calls Tryz.prog 74 #[.int .i64 z] w fun e w' => (∃ f : Nat, e = .returned (.float .f64 f)) ∧ w' = w := by
  have h1 := fun W => sfrombits 9218868437227405312 W
  have h2 := fun W => sfrombits 18442240474082181120 W
  by_cases hz : 0 ≤ z
  · go_enter Tryz.func74, Tryz.ntmps74
    go_wp2
    go_ret
    exact ⟨⟨_, rfl⟩, rfl⟩
  · go_enter Tryz.func74, Tryz.ntmps74
    go_wp2
    go_ret
    exact ⟨⟨_, rfl⟩, rfl⟩
theorem snan_any (w : World) : Calls Tryz.prog 75 #[] w fun e w' => e = .returned (.float .f64 9221120237041090561) ∧ w' = w := by
  have hfb := fun W => sfrombits 9221120237041090561 W
  go_enter Tryz.func75, Tryz.ntmps75
  go_wp2
  go_ret
  exact ⟨rfl, rfl⟩
def SpOk (s : ByteArray) : Prop := Folds s wNan ∨ Folds (stripB s) wInf ∨ Folds (stripB s) wInfy
def SpRet (s : ByteArray) (w : World) (e : Ending) (w' : World) : Prop := w' = w ∧ ∃ (f n : Nat) (ok : Bool), e = .returned (.tuple #[.float .f64 f, .int .i64 (n : Int), .bool ok]) ∧ n ≤ 1100 ∧ (ok = true → n = s.size → SpOk s) ∧ (Folds s wNan → ok = true ∧ n = 3 ∧ f = 9221120237041090561)
theorem folds_inf {t : ByteArray} {k : Nat} (h : CpOk t wInfy k) (h3 : 3 ≤ k) (hs : t.size = 3) : Folds t wInf := by
  refine ⟨hs, fun q hq => ?_⟩
  rw [h.2.2.1 q (by omega)]
  have : q = 0 ∨ q = 1 ∨ q = 2 := by omega
  rcases this with rfl | rfl | rfl <;> rfl
theorem folds_infy {t : ByteArray} {k : Nat} (h : CpOk t wInfy k) (h3 : k = 8) (hs : t.size = 8) : Folds t wInfy := ⟨hs, fun q hq => h.2.2.1 q (by omega)⟩
theorem not_nan {s : ByteArray} (h : bt s 0 ≠ 110 ∧ bt s 0 ≠ 78) : ¬ Folds s wNan := fun k => by
  have h1 := k.2 0 (by rw [k.1]; decide)
  have h2 : bt wNan 0 = 110 := rfl
  rw [h2] at h1
  unfold lowc at h1
  split at h1 <;> omega
theorem nan_cp {s : ByteArray} {k : Nat} (h : CpOk s wNan k) : (Folds s wNan → k = 3) ∧ (k = 3 → s.size = 3 → Folds s wNan) := by
  refine ⟨fun hf => ?_, fun h3 hs => ⟨hs, fun q hq => h.2.2.1 q (by omega)⟩⟩
  have hz : s.size = 3 := hf.1
  have ht : wNan.size = 3 := rfl
  rcases h.2.2.2 with e | e
  · omega
  · have := h.1
    rcases Nat.lt_or_ge k 3 with h' | h'
    · exact absurd (hf.2 k (by omega)) e
    · omega
set_option maxHeartbeats 4000000 in
set_option maxRecDepth 100000 in
theorem sp_any (s : ByteArray) (w : World) (hs : s.size ≤ 1000) : Calls Tryz.prog 43 #[.string s] w (SpRet s w) := by
  by_cases h0 : s.size = 0
  · have HNN := Lib.hid (show ¬ Folds s wNan from fun h => by have h2 : s.size = 3 := h.1; omega)
    go_enter Tryz.func43, Tryz.ntmps43
    go_wp2
    go_ret3
    exact ⟨rfl, 0, 0, false, rfl, by decide, fun h => (by cases h), fun h => absurd h HNN.out⟩
  have hp : 0 < s.size := by omega
  have j0 := ixB0 s hp
  have h1s := Lib.hid (show (s.extract 1 s.size).size + 1 = s.size by simp; omega)
  clear h0
  by_cases hc : bt s 0 = 43
  · have HNN := Lib.hid (not_nan (s := s) (by rw [hc]; decide))
    have hst : stripB s = s.extract 1 s.size := by
      rcases stripB_cases s with ⟨a, b⟩ | ⟨a, a2, b⟩ | ⟨a, a2, b⟩ | ⟨a, a2, a3, b⟩
      · omega
      · exact b
      · exact b
      · first | exact absurd hc a2 | exact absurd hc a3
    have HST := Lib.hid hst
    rw [hc] at j0
    clear hst hc
    have hsl := fun W => slice_str_lo Tryz.underlying9 s 1 1 rfl (by omega) W
    have hT := fun W => cp_any (s.extract 1 s.size) wInfy W (by first | omega | (simp; omega)) (by decide)
    unfold wInfy at hT
    go_enter Tryz.func43, Tryz.ntmps43
    go_wp2_with (go_at_call 73; refine halt_H ?_)
    refine resume_H ?_
    refine (hT _).mono ?_
    rintro e w1 ⟨hw, k, rfl, hk⟩
    obtain rfl := hw.symm
    clear hT
    have HK := Lib.hid (show CpOk (s.extract 1 s.size) wInfy k from hk)
    have hk8 : k ≤ 8 := hk.2.1
    clear hk hw
    by_cases k3 : k < 3
    · have g1 : decide ((3 : Int) < (k : Int)) = false := decide_eq_false (by omega)
      have g2 : ((k : Int) == 3) = false := by rw [beq_eq_false_iff_ne]; omega
      have g3 : ((k : Int) == 8) = false := by rw [beq_eq_false_iff_ne]; omega
      clear k3
      go_wp2
      go_ret3
      exact ⟨rfl, 0, 0, false, rfl, by decide, fun h => (by cases h), fun h => absurd h HNN.out⟩
    · by_cases k8 : k = 8
      · have HE := Lib.hid (show 1 + 8 = s.size → SpOk s from fun h => .inr (.inr (by rw [HST.out]; exact folds_infy HK.out k8 (by have := h1s.out; omega))))
        subst k8
        go_wp2_with (go_at_call 74; refine halt_H ?_)
        refine resume_H ?_
        refine (inf_any _ _).mono ?_
        rintro e w2 ⟨⟨f, rfl⟩, rfl⟩
        go_wp2
        go_ret3
        exact ⟨rfl, f, 1 + 8, true, rfl, by omega, fun _ h => HE.out h, fun h => absurd h HNN.out⟩
      · have HE := Lib.hid (show 1 + 3 = s.size → SpOk s from fun h => .inr (.inl (by rw [HST.out]; exact folds_inf HK.out (by omega) (by have := h1s.out; omega))))
        by_cases k4 : k = 3
        · subst k4
          go_wp2_with (go_at_call 74; refine halt_H ?_)
          refine resume_H ?_
          refine (inf_any _ _).mono ?_
          rintro e w2 ⟨⟨f, rfl⟩, rfl⟩
          go_wp2
          go_ret3
          exact ⟨rfl, f, 1 + 3, true, rfl, by omega, fun _ h => HE.out h, fun h => absurd h HNN.out⟩
        · have g1 : decide ((3 : Int) < (k : Int)) = true := decide_eq_true (by omega)
          have g2 : decide ((k : Int) < 8) = true := decide_eq_true (by omega)
          clear k3 k8 k4 hk8
          go_wp2_with (go_at_call 74; refine halt_H ?_)
          refine resume_H ?_
          refine (inf_any _ _).mono ?_
          rintro e w2 ⟨⟨f, rfl⟩, rfl⟩
          go_wp2
          go_ret3
          exact ⟨rfl, f, 1 + 3, true, rfl, by omega, fun _ h => HE.out h, fun h => absurd h HNN.out⟩
  have q43 : (((bt s 0 : Nat) : Int) == 43) = false := by rw [beq_eq_false_iff_ne]; omega
  have m43 := hc
  clear hc
  by_cases hc : bt s 0 = 45
  · have HNN := Lib.hid (not_nan (s := s) (by rw [hc]; decide))
    have hst : stripB s = s.extract 1 s.size := by
      rcases stripB_cases s with ⟨a, b⟩ | ⟨a, a2, b⟩ | ⟨a, a2, b⟩ | ⟨a, a2, a3, b⟩
      · omega
      · exact b
      · exact b
      · first | exact absurd hc a2 | exact absurd hc a3
    have HST := Lib.hid hst
    rw [hc] at j0
    clear hst hc
    have hsl := fun W => slice_str_lo Tryz.underlying9 s 1 1 rfl (by omega) W
    have hT := fun W => cp_any (s.extract 1 s.size) wInfy W (by first | omega | (simp; omega)) (by decide)
    unfold wInfy at hT
    go_enter Tryz.func43, Tryz.ntmps43
    go_wp2_with (go_at_call 73; refine halt_H ?_)
    refine resume_H ?_
    refine (hT _).mono ?_
    rintro e w1 ⟨hw, k, rfl, hk⟩
    obtain rfl := hw.symm
    clear hT
    have HK := Lib.hid (show CpOk (s.extract 1 s.size) wInfy k from hk)
    have hk8 : k ≤ 8 := hk.2.1
    clear hk hw
    by_cases k3 : k < 3
    · have g1 : decide ((3 : Int) < (k : Int)) = false := decide_eq_false (by omega)
      have g2 : ((k : Int) == 3) = false := by rw [beq_eq_false_iff_ne]; omega
      have g3 : ((k : Int) == 8) = false := by rw [beq_eq_false_iff_ne]; omega
      clear k3
      go_wp2
      go_ret3
      exact ⟨rfl, 0, 0, false, rfl, by decide, fun h => (by cases h), fun h => absurd h HNN.out⟩
    · by_cases k8 : k = 8
      · have HE := Lib.hid (show 1 + 8 = s.size → SpOk s from fun h => .inr (.inr (by rw [HST.out]; exact folds_infy HK.out k8 (by have := h1s.out; omega))))
        subst k8
        go_wp2_with (go_at_call 74; refine halt_H ?_)
        refine resume_H ?_
        refine (inf_any _ _).mono ?_
        rintro e w2 ⟨⟨f, rfl⟩, rfl⟩
        go_wp2
        go_ret3
        exact ⟨rfl, f, 1 + 8, true, rfl, by omega, fun _ h => HE.out h, fun h => absurd h HNN.out⟩
      · have HE := Lib.hid (show 1 + 3 = s.size → SpOk s from fun h => .inr (.inl (by rw [HST.out]; exact folds_inf HK.out (by omega) (by have := h1s.out; omega))))
        by_cases k4 : k = 3
        · subst k4
          go_wp2_with (go_at_call 74; refine halt_H ?_)
          refine resume_H ?_
          refine (inf_any _ _).mono ?_
          rintro e w2 ⟨⟨f, rfl⟩, rfl⟩
          go_wp2
          go_ret3
          exact ⟨rfl, f, 1 + 3, true, rfl, by omega, fun _ h => HE.out h, fun h => absurd h HNN.out⟩
        · have g1 : decide ((3 : Int) < (k : Int)) = true := decide_eq_true (by omega)
          have g2 : decide ((k : Int) < 8) = true := decide_eq_true (by omega)
          clear k3 k8 k4 hk8
          go_wp2_with (go_at_call 74; refine halt_H ?_)
          refine resume_H ?_
          refine (inf_any _ _).mono ?_
          rintro e w2 ⟨⟨f, rfl⟩, rfl⟩
          go_wp2
          go_ret3
          exact ⟨rfl, f, 1 + 3, true, rfl, by omega, fun _ h => HE.out h, fun h => absurd h HNN.out⟩
  have q45 : (((bt s 0 : Nat) : Int) == 45) = false := by rw [beq_eq_false_iff_ne]; omega
  have m45 := hc
  clear hc
  by_cases hc : bt s 0 = 105
  · have HNN := Lib.hid (not_nan (s := s) (by rw [hc]; decide))
    have hst : stripB s = s := by
      rcases stripB_cases s with ⟨a, b⟩ | ⟨a, a2, b⟩ | ⟨a, a2, b⟩ | ⟨a, a2, a3, b⟩
      · exact b
      · rw [hc] at a2; exact absurd a2 (by decide)
      · rw [hc] at a2; exact absurd a2 (by decide)
      · exact b
    have HST := Lib.hid hst
    rw [hc] at j0
    clear hst hc
    have hT := fun W => cp_any s wInfy W (by first | omega | (simp; omega)) (by decide)
    unfold wInfy at hT
    go_enter Tryz.func43, Tryz.ntmps43
    go_wp2_with (go_at_call 73; refine halt_H ?_)
    refine resume_H ?_
    refine (hT _).mono ?_
    rintro e w1 ⟨hw, k, rfl, hk⟩
    obtain rfl := hw.symm
    clear hT
    have HK := Lib.hid (show CpOk s wInfy k from hk)
    have hk8 : k ≤ 8 := hk.2.1
    clear hk hw
    by_cases k3 : k < 3
    · have g1 : decide ((3 : Int) < (k : Int)) = false := decide_eq_false (by omega)
      have g2 : ((k : Int) == 3) = false := by rw [beq_eq_false_iff_ne]; omega
      have g3 : ((k : Int) == 8) = false := by rw [beq_eq_false_iff_ne]; omega
      clear k3
      go_wp2
      go_ret3
      exact ⟨rfl, 0, 0, false, rfl, by decide, fun h => (by cases h), fun h => absurd h HNN.out⟩
    · by_cases k8 : k = 8
      · have HE := Lib.hid (show 0 + 8 = s.size → SpOk s from fun h => .inr (.inr (by rw [HST.out]; exact folds_infy HK.out k8 (by have := h1s.out; omega))))
        subst k8
        go_wp2_with (go_at_call 74; refine halt_H ?_)
        refine resume_H ?_
        refine (inf_any _ _).mono ?_
        rintro e w2 ⟨⟨f, rfl⟩, rfl⟩
        go_wp2
        go_ret3
        exact ⟨rfl, f, 0 + 8, true, rfl, by omega, fun _ h => HE.out h, fun h => absurd h HNN.out⟩
      · have HE := Lib.hid (show 0 + 3 = s.size → SpOk s from fun h => .inr (.inl (by rw [HST.out]; exact folds_inf HK.out (by omega) (by have := h1s.out; omega))))
        by_cases k4 : k = 3
        · subst k4
          go_wp2_with (go_at_call 74; refine halt_H ?_)
          refine resume_H ?_
          refine (inf_any _ _).mono ?_
          rintro e w2 ⟨⟨f, rfl⟩, rfl⟩
          go_wp2
          go_ret3
          exact ⟨rfl, f, 0 + 3, true, rfl, by omega, fun _ h => HE.out h, fun h => absurd h HNN.out⟩
        · have g1 : decide ((3 : Int) < (k : Int)) = true := decide_eq_true (by omega)
          have g2 : decide ((k : Int) < 8) = true := decide_eq_true (by omega)
          clear k3 k8 k4 hk8
          go_wp2_with (go_at_call 74; refine halt_H ?_)
          refine resume_H ?_
          refine (inf_any _ _).mono ?_
          rintro e w2 ⟨⟨f, rfl⟩, rfl⟩
          go_wp2
          go_ret3
          exact ⟨rfl, f, 0 + 3, true, rfl, by omega, fun _ h => HE.out h, fun h => absurd h HNN.out⟩
  have q105 : (((bt s 0 : Nat) : Int) == 105) = false := by rw [beq_eq_false_iff_ne]; omega
  have m105 := hc
  clear hc
  by_cases hc : bt s 0 = 73
  · have HNN := Lib.hid (not_nan (s := s) (by rw [hc]; decide))
    have hst : stripB s = s := by
      rcases stripB_cases s with ⟨a, b⟩ | ⟨a, a2, b⟩ | ⟨a, a2, b⟩ | ⟨a, a2, a3, b⟩
      · exact b
      · rw [hc] at a2; exact absurd a2 (by decide)
      · rw [hc] at a2; exact absurd a2 (by decide)
      · exact b
    have HST := Lib.hid hst
    rw [hc] at j0
    clear hst hc
    have hT := fun W => cp_any s wInfy W (by first | omega | (simp; omega)) (by decide)
    unfold wInfy at hT
    go_enter Tryz.func43, Tryz.ntmps43
    go_wp2_with (go_at_call 73; refine halt_H ?_)
    refine resume_H ?_
    refine (hT _).mono ?_
    rintro e w1 ⟨hw, k, rfl, hk⟩
    obtain rfl := hw.symm
    clear hT
    have HK := Lib.hid (show CpOk s wInfy k from hk)
    have hk8 : k ≤ 8 := hk.2.1
    clear hk hw
    by_cases k3 : k < 3
    · have g1 : decide ((3 : Int) < (k : Int)) = false := decide_eq_false (by omega)
      have g2 : ((k : Int) == 3) = false := by rw [beq_eq_false_iff_ne]; omega
      have g3 : ((k : Int) == 8) = false := by rw [beq_eq_false_iff_ne]; omega
      clear k3
      go_wp2
      go_ret3
      exact ⟨rfl, 0, 0, false, rfl, by decide, fun h => (by cases h), fun h => absurd h HNN.out⟩
    · by_cases k8 : k = 8
      · have HE := Lib.hid (show 0 + 8 = s.size → SpOk s from fun h => .inr (.inr (by rw [HST.out]; exact folds_infy HK.out k8 (by have := h1s.out; omega))))
        subst k8
        go_wp2_with (go_at_call 74; refine halt_H ?_)
        refine resume_H ?_
        refine (inf_any _ _).mono ?_
        rintro e w2 ⟨⟨f, rfl⟩, rfl⟩
        go_wp2
        go_ret3
        exact ⟨rfl, f, 0 + 8, true, rfl, by omega, fun _ h => HE.out h, fun h => absurd h HNN.out⟩
      · have HE := Lib.hid (show 0 + 3 = s.size → SpOk s from fun h => .inr (.inl (by rw [HST.out]; exact folds_inf HK.out (by omega) (by have := h1s.out; omega))))
        by_cases k4 : k = 3
        · subst k4
          go_wp2_with (go_at_call 74; refine halt_H ?_)
          refine resume_H ?_
          refine (inf_any _ _).mono ?_
          rintro e w2 ⟨⟨f, rfl⟩, rfl⟩
          go_wp2
          go_ret3
          exact ⟨rfl, f, 0 + 3, true, rfl, by omega, fun _ h => HE.out h, fun h => absurd h HNN.out⟩
        · have g1 : decide ((3 : Int) < (k : Int)) = true := decide_eq_true (by omega)
          have g2 : decide ((k : Int) < 8) = true := decide_eq_true (by omega)
          clear k3 k8 k4 hk8
          go_wp2_with (go_at_call 74; refine halt_H ?_)
          refine resume_H ?_
          refine (inf_any _ _).mono ?_
          rintro e w2 ⟨⟨f, rfl⟩, rfl⟩
          go_wp2
          go_ret3
          exact ⟨rfl, f, 0 + 3, true, rfl, by omega, fun _ h => HE.out h, fun h => absurd h HNN.out⟩
  have q73 : (((bt s 0 : Nat) : Int) == 73) = false := by rw [beq_eq_false_iff_ne]; omega
  have m73 := hc
  clear hc
  by_cases hc : bt s 0 = 110
  · rw [hc] at j0
    have hT := fun W => cp_any s wNan W hs (by decide)
    unfold wNan at hT
    clear hc
    go_enter Tryz.func43, Tryz.ntmps43
    go_wp2_with (go_at_call 73; refine halt_H ?_)
    refine resume_H ?_
    refine (hT _).mono ?_
    rintro e w1 ⟨hw, k, rfl, hk⟩
    obtain rfl := hw.symm
    clear hT
    have HK := Lib.hid (nan_cp (show CpOk s wNan k from hk))
    clear hk hw
    by_cases k3 : k = 3
    · have HF := Lib.hid (HK.out.2 k3)
      clear HK
      subst k3
      go_wp2_with (go_at_call 75; refine halt_H ?_)
      refine resume_H ?_
      refine (snan_any _).mono ?_
      rintro e w2 ⟨rfl, rfl⟩
      go_wp2
      go_ret3
      exact ⟨rfl, 9221120237041090561, 3, true, rfl, by decide, fun _ h => .inl (HF.out h.symm), fun _ => ⟨rfl, rfl, rfl⟩⟩
    · have HNN := Lib.hid (show ¬ Folds s wNan from fun h => k3 (HK.out.1 h))
      have g2 : ((k : Int) == 3) = false := by rw [beq_eq_false_iff_ne]; omega
      clear k3
      go_wp2
      go_ret3
      exact ⟨rfl, 0, 0, false, rfl, by decide, fun h => (by cases h), fun h => absurd h HNN.out⟩
  have q110 : (((bt s 0 : Nat) : Int) == 110) = false := by rw [beq_eq_false_iff_ne]; omega
  have m110 := hc
  clear hc
  by_cases hc : bt s 0 = 78
  · rw [hc] at j0
    have hT := fun W => cp_any s wNan W hs (by decide)
    unfold wNan at hT
    clear hc
    go_enter Tryz.func43, Tryz.ntmps43
    go_wp2_with (go_at_call 73; refine halt_H ?_)
    refine resume_H ?_
    refine (hT _).mono ?_
    rintro e w1 ⟨hw, k, rfl, hk⟩
    obtain rfl := hw.symm
    clear hT
    have HK := Lib.hid (nan_cp (show CpOk s wNan k from hk))
    clear hk hw
    by_cases k3 : k = 3
    · have HF := Lib.hid (HK.out.2 k3)
      clear HK
      subst k3
      go_wp2_with (go_at_call 75; refine halt_H ?_)
      refine resume_H ?_
      refine (snan_any _).mono ?_
      rintro e w2 ⟨rfl, rfl⟩
      go_wp2
      go_ret3
      exact ⟨rfl, 9221120237041090561, 3, true, rfl, by decide, fun _ h => .inl (HF.out h.symm), fun _ => ⟨rfl, rfl, rfl⟩⟩
    · have HNN := Lib.hid (show ¬ Folds s wNan from fun h => k3 (HK.out.1 h))
      have g2 : ((k : Int) == 3) = false := by rw [beq_eq_false_iff_ne]; omega
      clear k3
      go_wp2
      go_ret3
      exact ⟨rfl, 0, 0, false, rfl, by decide, fun h => (by cases h), fun h => absurd h HNN.out⟩
  have q78 : (((bt s 0 : Nat) : Int) == 78) = false := by rw [beq_eq_false_iff_ne]; omega
  have m78 := hc
  clear hc
  have HNN := Lib.hid (not_nan (s := s) ⟨m110, m78⟩)
  clear m43 m45 m105 m73 m110 m78
  generalize bt s 0 = c at *
  go_enter Tryz.func43, Tryz.ntmps43
  go_wp2
  go_ret3
  exact ⟨rfl, 0, 0, false, rfl, by decide, fun h => (by cases h), fun h => absurd h HNN.out⟩
end Go.Proofs.YtilkcnoooecngaaGreatDoor
