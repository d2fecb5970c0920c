/- Numbers below 1000, written in base 10: the walks of FormatInt and Decimal. Numbers from 0 to 999. -/
import Derived.Test.YtadkpooimfbolaaNum
import Derived.WalkKit
import Derived.Handy
import Derived.BigQuiet
import Derived.IntWalk
import Derived.Deep.QuietTactic
import Derived.Deep.RegionWith
import Derived.Deep.RegionHeld3
import Derived.Deep.DrawnRows
import Derived.WalkLawsBesides
namespace Go.Proofs.Ytadkpooimfbolaa
open Go.RowKit
set_option linter.unusedVariables false
attribute [local go_sem ↓] Go.wp_at_zero Go.wp_at_succ
theorem uint_any (n : Nat) (w : World) (h : n < 1000) : Calls Try.prog 63 #[.int .u64 n, .int .i64 10] w (UintRet n w) := by
  by_cases h1 : n < 10
  · exact uint1 n w h1
  · by_cases h2 : n < 100
    · exact uint2 n w (by omega) h2
    · exact uint3 n w (by omega) h
theorem formatInt_any (n : Nat) (w : World) (h : n < 1000) : Calls Try.prog 52 #[.int .i64 n, .int .i64 10] w (UintRet n w) := by
  have H := fun W => Lib.hid (uint_any n W h)
  have e1 : IntKind.u64.wrap (n : Int) = (n : Int) := by unfold IntKind.wrap; simp [IntKind.signed, IntKind.bits]; omega
  have e2 : decide ((n : Int) < 0) = false := decide_eq_false (by omega)
  go_enter Try.func52, Try.ntmps52
  go_wp2_with (go_at_call 63; refine (H _).out.mono ?_; rintro e w1 ⟨rfl, hb⟩)
  go_ret
  exact ⟨rfl, hb⟩
theorem dig3_size (n : Nat) : (dig3 n).size ≤ 3 := by
  unfold dig3
  split
  · exact Nat.le_of_ble_eq_true rfl
  · split
    · exact Nat.le_of_ble_eq_true rfl
    · exact Nat.le_of_ble_eq_true rfl
theorem dig_one (n : Nat) (h : n < 10) : strOfNums [48 + (n : Int)] = dig3 n := by
  have := strDigs [n]
  simp only [List.map] at this
  rw [this]
  unfold dig3
  rw [if_pos h]
  unfold dg
  rw [Nat.mod_eq_of_lt h]
theorem dig_more (n : Nat) (h : 10 ≤ n) (h2 : n < 1000) : dig3 (n / 10) ++ strOfNums [48 + ((n % 10 : Nat) : Int)] = dig3 n := by
  have := strDigs [n % 10]
  simp only [List.map] at this
  rw [this]
  apply WideShapes.bytes_inj
  unfold dig3
  by_cases h3 : n < 100
  · rw [if_pos (show n / 10 < 10 by omega), if_neg (by omega), if_pos h3]
    rfl
  · rw [if_neg (show ¬ n / 10 < 10 by omega), if_pos (show n / 10 < 100 by omega), if_neg (by omega), if_neg h3]
    rfl
set_option maxHeartbeats 1000000 in
theorem decimal1 (n : Nat) (w : World) (h : n < 10) : Calls Try.prog 17 #[.int .i64 n] w (UintRet n w) := by
  have HD := Lib.hid (dig_one n h)
  have e1 : IntKind.u8.wrap (48 + (n : Int)) = 48 + (n : Int) := by unfold IntKind.wrap; simp [IntKind.signed, IntKind.bits]; omega
  have e2 : decide ((n : Int) < 0) = false := decide_eq_false (by omega)
  have e3 : decide ((n : Int) < 10) = true := decide_eq_true (by omega)
  go_enter Try.func17, Try.ntmps17
  go_wp2_with ((with_reducible refine gate_cv (s := 46) (d := 9) rfl ?_); refine wpList_conv w.heap.size 0 1 1 rfl [48 + (n : Int)] rfl (fun i hi => ?_) ?_)
  case refine_1 =>
    match i, hi with
    | 0, _ => exact cell_of_row _ _ _ _ _ _ (heap_alloc_new w _)
  go_ret
  exact ⟨ret_str HD.out, (Below.refl _ _).alloc (Nat.le_refl _) _⟩
theorem cv_cond (d : Int) (W : World) (b : Nat) (h : W.cell? ⟨b, 0, none⟩ = some (.int .u8 d)) : (convert 46 9 (.slice (some ⟨b, 0, none⟩) 1 1)).run Try.prog W = .ok (.string (strOfNums [d])) W :=
  cv_bytes' W b d h
set_option maxHeartbeats 4000000 in
set_option maxRecDepth 100000 in
theorem decimalS (n : Nat) (w : World) (h : 10 ≤ n) (h2 : n < 1000) (ih : ∀ W, Calls Try.prog 17 #[.int .i64 ((n / 10 : Nat) : Int)] W (UintRet (n / 10) W)) : Calls Try.prog 17 #[.int .i64 n] w (UintRet n w) := by
  have HD := Lib.hid (dig_more n h h2)
  have ih' := fun W => Lib.hid (ih W)
  simp only [Int.natCast_emod, Int.natCast_ediv, Int.cast_ofNat_Int] at HD ih'
  have e1 : IntKind.u8.wrap (48 + (n : Int) % 10) = 48 + (n : Int) % 10 := by unfold IntKind.wrap; simp [IntKind.signed, IntKind.bits]; omega
  have e2 : decide ((n : Int) < 0) = false := decide_eq_false (by omega)
  have e3 : decide ((n : Int) < 10) = false := decide_eq_false (by omega)
  have e4 : (n : Int).tdiv 10 = (n : Int) / 10 := by rw [Int.tdiv_eq_ediv_of_nonneg (by omega)]
  have e5 : (n : Int).tmod 10 = (n : Int) % 10 := by rw [Int.tmod_eq_emod_of_nonneg (by omega)]
  have e6 : IntKind.i64.wrap ((n : Int) / 10) = (n : Int) / 10 := IntWalk.i64_in _ (by omega)
  have e7 : IntKind.i64.wrap ((n : Int) % 10) = (n : Int) % 10 := IntWalk.i64_in _ (by omega)
  have e8 : IntKind.i64.wrap (48 + (n : Int) % 10) = 48 + (n : Int) % 10 := IntWalk.i64_in _ (by omega)
  have hs1 := dig3_size (n / 10)
  have hs2 : (strOfNums [48 + (n : Int) % 10]).size = 1 := by rw [strOfNums_size]; rfl
  have hcv := fun W b h => cv_cond (48 + (n : Int) % 10) W b h
  clear ih h h2
  go_enter Try.func17, Try.ntmps17
  go_wp2_with fail
  go_region_with ((go_at_call 17; refine (ih' _).out.mono ?_; rintro e w1 ⟨rfl, hb⟩
                   have kx := hb.cell (p := ⟨w.heap.size, 0, none⟩)))
  all_goals
    have B1 : Below w.heap.size w w1 := by
      first
        | exact ⟨hb.os, hb.tape, hb.output, hb.size, hb.block⟩
        | exact ((Below.refl _ _).alloc (Nat.le_refl _) _).drew.trans (hb.mono (by show w.heap.size ≤ (w.alloc _).heap.size; simp))
    have HB := Lib.hid B1
    clear hb kx B1
    go_wp2
    go_ret
    exact ⟨ret_str HD.out, by first | exact HB.out | exact HB.out.alloc HB.out.size _⟩
theorem decimal_any (n : Nat) (w : World) (h : n < 1000) : Calls Try.prog 17 #[.int .i64 n] w (UintRet n w) := by
  by_cases h1 : n < 10
  · exact decimal1 n w h1
  · refine decimalS n w (by omega) h fun W => ?_
    by_cases h2 : n / 10 < 10
    · exact decimal1 (n / 10) W h2
    · exact decimalS (n / 10) W (by omega) (by omega) fun W2 => decimal1 (n / 10 / 10) W2 (by omega)
end Go.Proofs.Ytadkpooimfbolaa
