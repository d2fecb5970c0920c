/- Reading a list back: LsName, LsNames, LsSame, impl.ListNamed. No conditions. -/
import Derived.Test.YthdkbokdikhojaaGreatDoorLkA
namespace Go.Proofs.YthdkbokdikhojaaGreatDoor
open Go.RowKit
set_option linter.unusedVariables false
set_option maxHeartbeats 4000000 in
set_option maxRecDepth 100000 in
theorem name_any (s : ByteArray) (w : World) (hs : s.size ≤ 1000000000) : Calls Tryz.prog 14 #[.string s] w (AnyB w) := by
  have HT := Lib.hid (tight_any s w hs)
  go_enter Tryz.func14, Tryz.ntmps14
  go_wp2_with fail
  go_loop [3] (fun i => ∃ k : Nat, k ≤ s.size ∧ i = .int .i64 k) (fun i => s.size - (intOf i).toNat)
  case atStart => exact ⟨0, Nat.zero_le _, rfl⟩
  case round =>
    obtain ⟨k, hk, rfl⟩ := hrel
    by_cases hlt : k < s.size
    · have hix := fun W => ixH s k hlt W
      have hc : (s[k]'hlt).toNat < 256 := UInt8.toNat_lt _
      generalize (s[k]'hlt).toNat = c at *
      go_wp2_with fail
      all_goals first
        | (go_round
           case rel => exact ⟨k + 1, by omega, by go_num⟩
           case measure => simp [intOf]; omega)
        | (go_ret
           exact ⟨_, rfl, Below.refl _ _⟩)
    · go_wp2_with (go_at_call 35; refine HT.out.mono ?_; rintro e w1 ⟨b, rfl, hb⟩; have HB := Lib.hid hb; clear hb)
      go_ret
      exact ⟨_, rfl, HB.out⟩
set_option maxHeartbeats 1000000 in
set_option maxRecDepth 100000 in
theorem names_any (A : Option Addr) (n cap : Nat) (l : List (ByteArray × Int)) (w : World) (h : LsArg w w.heap.size A n cap l) (hs : ∀ k, k < n → (tx l k).size ≤ 1000) : Calls Tryz.prog 6 #[.slice A n cap] w (AnyB w) := by
  have hn := h.2.2.1
  have hm := h.2.2.2
  unfold maxLen at hm
  go_enter Tryz.func6, Tryz.ntmps6
  go_wp2_with fail
  go_loopw [7] (fun i wr => ∃ k : Nat, k ≤ n ∧ i = .int .i64 k ∧ Hid (Below w.heap.size w wr)) (fun i _ => n - (intOf i).toNat)
  case atStart => exact ⟨0, Nat.zero_le _, rfl, Lib.hid (Below.refl _ _)⟩
  case round =>
    obtain ⟨k, hk, rfl, HB⟩ := hrel
    by_cases hlt : k < n
    · obtain ⟨b, o, rfl, hb, hc⟩ := h.cell hlt
      obtain ⟨c1, c2⟩ := hc k hlt
      have d1 : wr.cell? ⟨b, o + k * 2, none⟩ = some (.string (tx l k)) := (HB.out.cell (p := ⟨b, o + k * 2, none⟩) hb).trans c1
      have d2 : wr.cell? ⟨b, o + k * 2 + 1, none⟩ = some (.int .i64 (lv l k)) := (HB.out.cell (p := ⟨b, o + k * 2 + 1, none⟩) hb).trans c2
      have HNm := Lib.hid (fun W => name_any (tx l k) W (by have := hs k hlt; omega))
      obtain ⟨wo, rfl⟩ : ∃ wo : World, wo = wr := ⟨_, rfl⟩
      clear hc c1 c2 hs
      go_wp2_with (go_at_call 14; refine (HNm.out _).mono ?_; rintro e w1 ⟨x, rfl, hB1⟩
                   have HB1 := Lib.hid ((HB.out.alloc HB.out.size _).trans (hB1.mono (by simp; exact Nat.le_succ_of_le HB.out.size))); clear hB1; cases x)
      · go_wp2_with fail
        go_ret
        exact ⟨false, rfl, HB1.out⟩
      · go_wp2_with fail
        go_roundw
        case rel => exact ⟨k + 1, by omega, by go_num, HB1⟩
        case measure => simp [intOf]; omega
    · have hd : decide ((k : Int) < (n : Int)) = false := by simp; omega
      go_wp2_with fail
      go_ret
      exact ⟨true, rfl, HB.out⟩
set_option maxHeartbeats 1000000 in
set_option maxRecDepth 100000 in
theorem same_any (A A' : Option Addr) (n cap cap' : Nat) (l : List (ByteArray × Int)) (w : World) (h : LsArg w w.heap.size A n cap l) (h' : LsArg w w.heap.size A' n cap' l) : Calls Tryz.prog 11 #[.slice A n cap, .slice A' n cap'] w fun e w' => e = .returned (.bool true) ∧ Below w.heap.size w w' := by
  have hn := h.2.2.1
  have hm := h.2.2.2
  unfold maxLen at hm
  go_enter Tryz.func11, Tryz.ntmps11
  go_wp2_with fail
  go_loopw [13] (fun i wr => ∃ k : Nat, k ≤ n ∧ i = .int .i64 k ∧ Hid (Below w.heap.size w wr)) (fun i _ => n - (intOf i).toNat)
  case atStart => exact ⟨0, Nat.zero_le _, rfl, Lib.hid (Below.refl _ _)⟩
  case round =>
    obtain ⟨k, hk, rfl, HB⟩ := hrel
    obtain ⟨wo, rfl⟩ : ∃ wo : World, wo = wr := ⟨_, rfl⟩
    by_cases hlt : k < n
    · obtain ⟨b, o, rfl, hb, hc⟩ := h.cell hlt
      obtain ⟨b', o', rfl, hb', hc'⟩ := h'.cell hlt
      obtain ⟨c1, c2⟩ := hc k hlt
      obtain ⟨c3, c4⟩ := hc' k hlt
      have d1 : wo.cell? ⟨b, o + k * 2, none⟩ = some (.string (tx l k)) := (HB.out.cell (p := ⟨b, o + k * 2, none⟩) hb).trans c1
      have d2 : wo.cell? ⟨b, o + k * 2 + 1, none⟩ = some (.int .i64 (lv l k)) := (HB.out.cell (p := ⟨b, o + k * 2 + 1, none⟩) hb).trans c2
      have d3 : wo.cell? ⟨b', o' + k * 2, none⟩ = some (.string (tx l k)) := (HB.out.cell (p := ⟨b', o' + k * 2, none⟩) hb').trans c3
      have d4 : wo.cell? ⟨b', o' + k * 2 + 1, none⟩ = some (.int .i64 (lv l k)) := (HB.out.cell (p := ⟨b', o' + k * 2 + 1, none⟩) hb').trans c4
      have g1 : decide ((k : Int) < (n : Int)) = true := decide_eq_true (by omega)
      have q0 : (0 : Int) ≤ (k : Int) := by omega
      have q1 : (k : Int) < (n : Int) := by omega
      clear hc hc' c1 c2 c3 c4 h h'
      generalize tx l k = t at *
      generalize lv l k = z at *
      go_wp2_with fail
      go_quiet (fail)
      go_wp2_with fail
      go_roundw
      case rel => exact ⟨k + 1, by omega, by go_num, Lib.hid (HB.out.trans ⟨rfl, rfl, rfl, Nat.le_refl _, fun _ _ => rfl⟩)⟩
      case measure => simp [intOf]; omega
    · have hd : decide ((k : Int) < (n : Int)) = false := by simp; omega
      go_wp2_with fail
      go_ret
      exact ⟨rfl, HB.out⟩
end Go.Proofs.YthdkbokdikhojaaGreatDoor
