/- Reading whether a text is of ASCII as the law asks; what is a space. No conditions. -/
import Derived.Test.YtgjbpjkepdbnkaaDoorProg
import Derived.Test.YtgjbpjkepdbnkaaDoorBase
import Derived.Test.YtgjbpjkepdbnkaaDoorTxt
import Derived.Test.YtgjbpjkepdbnkaaDoorWsP
import Derived.WalkKit
import Derived.Handy
import Derived.BigQuiet
namespace Go.Proofs.YtgjbpjkepdbnkaaDoor
open Go.RowKit
set_option linter.unusedVariables false
theorem idx_at (s : ByteArray) (p : Nat) (hp : p < s.size) (W : World) : (Instr.index 9 (.string s) (.int .i64 (p : Int))).run Tryd.prog W = .ok (.int .u8 ((s[p]'hp).toNat : Int)) W := by
  rw [run_index_string W 9 s .i64 (p : Int) Tryd.underlying9, dif_pos ⟨by omega, by omega⟩]; rfl
def OkText (s : ByteArray) : Prop := s.size ≤ 400 ∧ ∀ j (h : j < s.size), okc (s[j]'h)
theorem size_le {n : Nat} (h : decide ((n : Int) ≤ 400) = true) : n ≤ 400 := by
  have := of_decide_eq_true h
  omega
def TextRet (s : ByteArray) (w : World) (e : Ending) (w' : World) : Prop := ∃ b : Bool, e = .returned (.bool b) ∧ w' = w ∧ (b = true → OkText s)
set_option maxHeartbeats 2000000 in
theorem twText_any (s : ByteArray) (w : World) (hs : s.size ≤ 140737488351232) : Calls Tryd.prog 4 #[.string s] w (TextRet s w) := by
  go_enter Tryd.func4, Tryd.ntmps4
  go_wp2_with fail
  go_loop [3] (fun i => ∃ k : Nat, k ≤ s.size ∧ i = .int .i64 k ∧ Hid (∀ j (h : j < s.size), j < k → okc (s[j]'h))) (fun i => s.size - (intOf i).toNat)
  case atStart => exact ⟨0, Nat.zero_le _, rfl, Lib.hid (fun j h hj => absurd hj (by omega))⟩
  case round =>
    obtain ⟨k, hk, rfl, HO⟩ := hrel
    by_cases hlt : k < s.size
    · have hix := idx_at s k hlt w
      have HN := Lib.hid (show okc (s[k]'hlt) → ∀ j (h : j < s.size), j < k + 1 → okc (s[j]'h) from fun ho j h hj => by
        by_cases e : j = k
        · subst e; exact ho
        · exact HO.out j h (by omega))
      clear HO
      have HC := Lib.hid (show (32 ≤ ((s[k]'hlt).toNat : Int) ∧ ((s[k]'hlt).toNat : Int) ≤ 126 ∨ ((s[k]'hlt).toNat : Int) = 9 ∨ ((s[k]'hlt).toNat : Int) = 10) → okc (s[k]'hlt) from fun h => by unfold okc; omega)
      have HX := Lib.hid (fun h => HN.out (HC.out h))
      clear HN HC
      generalize (((s[k]'hlt).toNat : Nat) : Int) = c at *
      by_cases h1 : 32 ≤ c ∧ c ≤ 126 ∨ c = 9 ∨ c = 10
      · have HY := Lib.hid (HX.out h1)
        clear HX
        rcases h1 with ⟨h1, h2⟩ | h1 | h1
        · have g0 : decide (c < 32) = false := decide_eq_false (by omega)
          have g1 : decide ((126 : Int) < c) = false := decide_eq_false (by omega)
          go_wp2_with fail
          go_round
          case rel => exact ⟨k + 1, by omega, by go_num, HY⟩
          case measure => simp [intOf]; omega
        · subst h1
          go_wp2_with fail
          go_round
          case rel => exact ⟨k + 1, by omega, by go_num, HY⟩
          case measure => simp [intOf]; omega
        · subst h1
          go_wp2_with fail
          go_round
          case rel => exact ⟨k + 1, by omega, by go_num, HY⟩
          case measure => simp [intOf]; omega
      · have g2 : (c != 9) = true := by rw [bne_iff_ne]; omega
        have g3 : (c != 10) = true := by rw [bne_iff_ne]; omega
        clear HX
        by_cases h2 : c < 32
        · have g0 : decide (c < 32) = true := decide_eq_true h2
          go_wp2_with fail
          go_ret
          exact ⟨false, rfl, rfl, fun h => by cases h⟩
        · have g0 : decide (c < 32) = false := decide_eq_false h2
          have g1 : decide ((126 : Int) < c) = true := decide_eq_true (by omega)
          go_wp2_with fail
          go_ret
          exact ⟨false, rfl, rfl, fun h => by cases h⟩
    · have HO2 := Lib.hid (fun j (h : j < s.size) => HO.out j h (by omega))
      clear HO
      go_wp2_with fail
      go_ret
      exact ⟨_, rfl, rfl, fun h => ⟨size_le h, HO2.out⟩⟩
theorem isSpace_any (c : UInt8) (h : okc c) (w : World) : Calls Tryd.prog 9 #[.int .i32 (c.toNat : Int)] w fun e w' => e = .returned (.bool (isp c)) ∧ w' = w := by
  have h' := h
  unfold okc at h
  by_cases h9 : c.toNat = 9
  · have e : isp c = true := by unfold isp; simp [h9]
    rw [e, h9]
    go_enter Tryd.func9, Tryd.ntmps9
    go_wp2
    go_ret
    exact ⟨rfl, rfl⟩
  · by_cases h10 : c.toNat = 10
    · have e : isp c = true := by unfold isp; simp [h10]
      rw [e, h10]
      go_enter Tryd.func9, Tryd.ntmps9
      go_wp2
      go_ret
      exact ⟨rfl, rfl⟩
    · by_cases h32 : c.toNat = 32
      · have e : isp c = true := by unfold isp; simp [h32]
        rw [e, h32]
        go_enter Tryd.func9, Tryd.ntmps9
        go_wp2
        go_ret
        exact ⟨rfl, rfl⟩
      · have e : isp c = false := by unfold isp; simp [h9, h10, h32]
        rw [e]
        have b0 : 32 < (c.toNat : Int) := by omega
        have b1 : (c.toNat : Int) ≤ 126 := by omega
        clear h h' e h9 h10 h32
        generalize (c.toNat : Int) = z at *
        have e1 : (z == 9) = false := by rw [beq_eq_false_iff_ne]; omega
        have e2 : (z == 10) = false := by rw [beq_eq_false_iff_ne]; omega
        have e3 : (z == 11) = false := by rw [beq_eq_false_iff_ne]; omega
        have e4 : (z == 12) = false := by rw [beq_eq_false_iff_ne]; omega
        have e5 : (z == 13) = false := by rw [beq_eq_false_iff_ne]; omega
        have e6 : (z == 32) = false := by rw [beq_eq_false_iff_ne]; omega
        have e7 : (z == 133) = false := by rw [beq_eq_false_iff_ne]; omega
        have e8 : (z == 160) = false := by rw [beq_eq_false_iff_ne]; omega
        go_enter Tryd.func9, Tryd.ntmps9
        go_wp2
        go_ret
        exact ⟨rfl, rfl⟩
end Go.Proofs.YtgjbpjkepdbnkaaDoor
