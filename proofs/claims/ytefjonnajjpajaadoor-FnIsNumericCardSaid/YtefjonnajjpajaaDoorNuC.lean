/- Small functions of lightstrconv: formOf, float, lower, fail, fold (no), underscores (none). -/
import Derived.Test.YtefjonnajjpajaaDoorNuB
namespace Go.Proofs.YtefjonnajjpajaaDoor
open Go.RowKit
set_option linter.unusedVariables false
theorem ixN (s : ByteArray) (p : Nat) (hp : p < s.size) (W : World) : (Instr.index 9 (.string s) (.int .i64 (p : Int))).run Tryd.prog W = .ok (.int .u8 ((s[p]'hp).toNat : Int)) W := by
  rw [run_index_string W 9 s .i64 (p : Int) Tryd.underlying9, dif_pos ⟨by omega, by omega⟩]; rfl
theorem frombits (n : Int) (w : World) : (callFunc 28 #[.int .u64 n]).run Tryd.prog w = .ok (.value (.float .f64 n.toNat)) w := by
  rw [run_callFunc_extern Tryd.func28 (by kernel_rfl) (by kernel_rfl) (by kernel_rfl) (e := Extern.MathFloatBits.float64frombits) (by kernel_rfl)]
  rfl
set_option maxHeartbeats 1000000 in
theorem lower_any (c : Int) (w : World) : Calls Tryd.prog 29 #[.int .u8 c] w fun e w' => e = .returned (.int .u8 (bits .or .u8 c 32)) ∧ w' = w := by
  go_enter Tryd.func29, Tryd.ntmps29
  go_wp2
  go_ret
  exact ⟨rfl, rfl⟩
set_option maxHeartbeats 1000000 in
theorem formOf_any (w : World) : Calls Tryd.prog 17 #[.int .i64 64] w fun e w' => e = .returned (.agg fmC) ∧ Below w.heap.size w w' := by
  go_enter Tryd.func17, Tryd.ntmps17
  go_wp2
  refine bodyPost_ret (v := .agg fmC) ?_ rfl ⟨rfl, (Below.refl _ w).alloc (Nat.le_refl _) _⟩
  exact results_cell_row rfl _ _ _ tF _ (0, 0) _ rfl (Blk.new w tF fmC) Tryd.underlying46 rfl (by kernel_rfl)
set_option maxHeartbeats 1000000 in
theorem float_any (n : Int) (w : World) : Calls Tryd.prog 18 #[.agg fmC, .int .u64 n] w fun e w' => (∃ x, e = .returned (.float .f64 x)) ∧ Below w.heap.size w w' := by
  have hfb := fun W => frombits n W
  unfold fmC
  go_enter Tryd.func18, Tryd.ntmps18
  go_wp2
  go_ret
  exact ⟨⟨_, rfl⟩, (Below.refl _ w).alloc (Nat.le_refl _) _⟩
set_option maxHeartbeats 1000000 in
theorem fail_any (a s d : ByteArray) (w : World) : Calls Tryd.prog 21 #[.string a, .string s, .string d] w fun e w' => (∃ g, e = .returned (.iface 37 (.pointer (some ⟨g, 0, none⟩)))) ∧ Below w.heap.size w w' := by
  go_enter Tryd.func21, Tryd.ntmps21
  go_wp2
  go_ret
  exact ⟨⟨_, rfl⟩, (Below.refl _ w).alloc (Nat.le_refl _) _⟩
set_option maxHeartbeats 1000000 in
theorem fold_no (s t : ByteArray) (w : World) (hs : s.size ≤ 1000) (ht : 0 < t.size) (ht2 : t.size ≤ 1000) (h : ∀ h0 : 0 < s.size, (s[0]'h0).toNat ≠ (t[0]'ht).toNat ∧ (65 ≤ (s[0]'h0).toNat → (s[0]'h0).toNat ≤ 90 → (s[0]'h0).toNat + 32 ≠ (t[0]'ht).toNat)) :
    Calls Tryd.prog 14 #[.string s, .string t] w fun e w' => e = .returned (.bool false) ∧ w' = w := by
  by_cases hst : s.size = t.size
  · have e0 : ((s.size : Int) != (t.size : Int)) = false := by rw [hst]; simp
    have hs0 : 0 < s.size := by omega
    obtain ⟨h1, h2⟩ := h hs0
    have i1 := ixN s 0 hs0
    have i2 := ixN t 0 ht
    have hc := (s[0]'hs0).toNat_lt
    have hx := (t[0]'ht).toNat_lt
    generalize (s[0]'hs0).toNat = c at *
    generalize (t[0]'ht).toNat = x at *
    have HST := Lib.hid hst
    clear h hst
    have i3 : ∀ W, (Instr.index 9 (.string s) (.int .i64 0)).run Tryd.prog W = .ok (.int .u8 (c : Int)) W := i1
    have i4 : ∀ W, (Instr.index 9 (.string t) (.int .i64 0)).run Tryd.prog W = .ok (.int .u8 (x : Int)) W := i2
    go_enter Tryd.func14, Tryd.ntmps14
    go_wp2_with fail
    go_loopw [5] (fun iv wr => iv = .int .i64 0 ∧ Hid (wr = w)) (fun _ _ => 0)
    case atStart => exact ⟨rfl, Lib.hid rfl⟩
    case round =>
      obtain ⟨rfl, HW⟩ := hrel
      obtain rfl := HW.out.symm
      by_cases hA : 65 ≤ c ∧ c ≤ 90
      · obtain ⟨hA1, hA2⟩ := hA
        have hne := h2 hA1 hA2
        have e1 : (((c : Int) + 32) != (x : Int)) = true := by rw [bne_iff_ne]; omega
        clear h1 h2
        go_wp2
        go_ret
        exact ⟨rfl, rfl⟩
      · have e1 : ((c : Int) != (x : Int)) = true := by rw [bne_iff_ne]; omega
        clear h1 h2
        by_cases hA1 : 65 ≤ c
        · have hA2 : ¬ c ≤ 90 := fun h => hA ⟨hA1, h⟩
          clear hA
          go_wp2
          go_ret
          exact ⟨rfl, rfl⟩
        · clear hA
          go_wp2
          go_ret
          exact ⟨rfl, rfl⟩
  · have e0 : ((s.size : Int) != (t.size : Int)) = true := by rw [bne_iff_ne]; omega
    clear h
    go_enter Tryd.func14, Tryd.ntmps14
    go_wp2
    go_ret
    exact ⟨rfl, rfl⟩
set_option maxHeartbeats 1000000 in
theorem under_none (s : ByteArray) (w : World) (hs : s.size ≤ 1000) (h : ∀ (p : Nat) (hp : p < s.size), (s[p]'hp).toNat ≠ 95) :
    Calls Tryd.prog 20 #[.string s] w fun e w' => e = .returned (.bool true) ∧ w' = w := by
  have HH := Lib.hid h
  clear h
  go_enter Tryd.func20, Tryd.ntmps20
  go_wp2_with fail
  go_loopw [3] (fun iv wr => ∃ k : Nat, iv = .int .i64 (k : Int) ∧ k ≤ s.size ∧ Hid (wr = w)) (fun iv _ => s.size - (intOf iv).toNat)
  case atStart => exact ⟨0, rfl, Nat.zero_le _, Lib.hid rfl⟩
  case round =>
    obtain ⟨k, rfl, hk, HW⟩ := hrel
    obtain rfl := HW.out.symm
    by_cases hlt : k < s.size
    · have i1 := ixN s k hlt
      have hc := HH.out k hlt
      generalize (s[k]'hlt).toNat = c at *
      have e1 : ((c : Int) == 95) = false := by rw [beq_eq_false_iff_ne]; omega
      clear hc
      go_wp2_with fail
      go_roundw
      case rel => exact ⟨k + 1, by go_num, by omega, Lib.hid trivial⟩
      case measure => simp [intOf]; omega
    · have hke : k = s.size := by omega
      clear hke
      go_wp2
      go_ret
      exact ⟨rfl, rfl⟩
end Go.Proofs.YtefjonnajjpajaaDoor
