/- Known characters, and texts of them alone: the walks of TxBoxed, TxWide, TxKnown and TxSimple. No conditions. -/
import Derived.Test.YtimdmdjkkgdohaaGreatDoorProg
import Derived.Test.YtimdmdjkkgdohaaGreatDoorBase
import Derived.Test.YtimdmdjkkgdohaaGreatDoorUni
import Derived.WalkKit
import Derived.Handy
import Derived.Laws.RangeString
import Derived.Laws.RangeAny
import Derived.LoopTactic
namespace Go.Proofs.YtimdmdjkkgdohaaGreatDoor
open Go.RowKit
set_option linter.unusedVariables false
theorem boxed_any (r : Int) (w : World) : Calls Tryz.prog 34 #[.int .i32 r] w fun e w' => e = .returned (.bool (boxI r)) ∧ w = w' := by
  have h : r < 9472 ∨ (9472 ≤ r ∧ r ≤ 9631) ∨ 9631 < r := by omega
  rcases h with h | ⟨h, h'⟩ | h
  all_goals
    go_enter Tryz.func34, Tryz.ntmps34
    go_wp2
    go_ret
    exact ⟨ret_bool (by simp [boxI]; omega), rfl⟩
set_option maxHeartbeats 2000000 in
theorem wide_any (r : Int) (w : World) : Calls Tryz.prog 35 #[.int .i32 r] w fun e w' => e = .returned (.bool (wideI r)) ∧ w = w' := by
  have h : r < 12353 ∨ (12353 ≤ r ∧ r ≤ 12438) ∨ (12438 < r ∧ r < 12449) ∨ (12449 ≤ r ∧ r ≤ 12538) ∨ (12538 < r ∧ r < 19968) ∨ (19968 ≤ r ∧ r ≤ 40869) ∨ (40869 < r ∧ r < 44032) ∨ (44032 ≤ r ∧ r ≤ 55203) ∨ (55203 < r ∧ r < 65281) ∨ (65281 ≤ r ∧ r ≤ 65374) ∨ (65374 < r) := by omega
  rcases h with h | ⟨h, h'⟩ | ⟨h, h'⟩ | ⟨h, h'⟩ | ⟨h, h'⟩ | ⟨h, h'⟩ | ⟨h, h'⟩ | ⟨h, h'⟩ | ⟨h, h'⟩ | ⟨h, h'⟩ | h
  all_goals
    go_enter Tryz.func35, Tryz.ntmps35
    go_wp2
    go_ret
    exact ⟨ret_bool (by rw [Bool.eq_iff_iff]; simp [wideI]; omega), rfl⟩
set_option maxHeartbeats 2000000 in
theorem known_any (r : Int) (w : World) : Calls Tryz.prog 23 #[.int .i32 r] w fun e w' => e = .returned (.bool (knI r)) ∧ w = w' := by
  by_cases h : 32 ≤ r ∧ r ≤ 126
  · obtain ⟨h1, h2⟩ := h
    go_enter Tryz.func23, Tryz.ntmps23
    go_wp2_with fail
    go_ret
    exact ⟨ret_bool (by simp [knI]; omega), rfl⟩
  · have hk : knI r = (boxI r || wideI r) := by
      have : (decide (32 ≤ r) && decide (r ≤ 126)) = false := by simp; omega
      unfold knI; rw [this]; simp
    have Hk := Lib.hid hk
    have HB := Lib.hid (boxed_any r w)
    have HW := Lib.hid (wide_any r w)
    clear hk
    have h' : r < 32 ∨ 126 < r := by omega
    cases hb : boxI r with
    | true =>
      rw [hb] at HB Hk
      clear hb h
      rcases h' with h | h
      all_goals
        go_enter Tryz.func23, Tryz.ntmps23
        go_wp2_with (first
          | (go_at_call 34; refine HB.out.mono ?_; rintro e w' ⟨rfl, rfl⟩)
          | (go_at_call 35; refine HW.out.mono ?_; rintro e w' ⟨rfl, rfl⟩))
        go_ret
        exact ⟨ret_bool (by rw [Hk.out]; first | rfl | rw [decide_eq_false (by omega)]), rfl⟩
    | false =>
      rw [hb] at HB Hk
      clear hb h
      rcases h' with h | h
      all_goals
        go_enter Tryz.func23, Tryz.ntmps23
        go_wp2_with (first
          | (go_at_call 34; refine HB.out.mono ?_; rintro e w' ⟨rfl, rfl⟩)
          | (go_at_call 35; refine HW.out.mono ?_; rintro e w' ⟨rfl, rfl⟩))
        go_ret
        exact ⟨ret_bool (by rw [Hk.out]; first | rfl | rw [decide_eq_false (by omega)]), rfl⟩
set_option maxHeartbeats 4000000 in
set_option maxRecDepth 100000 in
theorem simple_any (s : ByteArray) (lines : Bool) (w : World) : Calls Tryz.prog 12 #[.string s, .bool lines] w fun e w' => e = .returned (.bool (simp lines s)) ∧ Below w.heap.size w w' := by
  go_enter Tryz.func12, Tryz.ntmps12
  go_wp2_with fail
  go_loopw [] (fun w' => ∃ (pos b : Nat), w' = w.iter s pos ∧ Hid (simp lines s = simpF lines s b pos) ∧ s.size ≤ pos + b) (fun w' => s.size - w'.iterPos w.heap.size)
  case atStart => exact ⟨0, s.size, rfl, Lib.hid rfl, by omega⟩
  case round =>
    obtain ⟨pos, b, rfl, hc, hb⟩ := hrel
    by_cases hp : pos < s.size
    · have hnx : ∀ ty, (Instr.next (.pointer (some ⟨w.heap.size, 0, none⟩)) true ty).run Tryz.prog (w.iter s pos) = _ := fun ty => run_next_any w s pos ty hp
      have hwd := Lib.decode_width_pos s pos hp
      obtain ⟨b, rfl⟩ : ∃ b', b = b' + 1 := ⟨b - 1, by omega⟩
      have Hs := Lib.hid (show simpF lines s (b + 1) pos = ((knI ((Utf8.decode s pos).1 : Int) || (lines && decide ((Utf8.decode s pos).1 = 10))) && simpF lines s b (pos + (Utf8.decode s pos).2)) by rw [simpF, if_pos hp])
      have HK := fun W => Lib.hid (known_any ((Utf8.decode s pos).1 : Int) W)
      generalize hd1 : (Utf8.decode s pos).1 = r at *
      generalize hd2 : (Utf8.decode s pos).2 = wd at *
      cases hk : knI (r : Int) with
      | true =>
        rw [hk] at HK Hs
        clear hk
        go_wp2_with (go_at_call 23; refine (HK _).out.mono ?_; rintro e w' ⟨rfl, rfl⟩)
        go_roundw
        case rel => exact ⟨pos + wd, b, rfl, Lib.hid (by rw [hc.out, Hs.out]; simp), by omega⟩
        case measure => simp; omega
      | false =>
        rw [hk] at HK Hs
        clear hk
        cases lines with
        | false =>
          go_wp2_with (go_at_call 23; refine (HK _).out.mono ?_; rintro e w' ⟨rfl, rfl⟩)
          go_ret
          exact ⟨ret_bool (by rw [hc.out, Hs.out]; simp), (Below.refl _ _).alloc (Nat.le_refl _) _⟩
        | true =>
          by_cases h10 : r = 10
          · have h10' : ((r : Int) == 10) = true := by rw [beq_iff_eq]; omega
            have H10 := Lib.hid h10
            clear h10
            go_wp2_with (go_at_call 23; refine (HK _).out.mono ?_; rintro e w' ⟨rfl, rfl⟩)
            go_roundw
            case rel => exact ⟨pos + wd, b, rfl, Lib.hid (by rw [hc.out, Hs.out]; simp [H10.out]), by omega⟩
            case measure => simp; omega
          · have h10' : ((r : Int) == 10) = false := by rw [beq_eq_false_iff_ne]; omega
            have H10 := Lib.hid h10
            clear h10
            go_wp2_with (go_at_call 23; refine (HK _).out.mono ?_; rintro e w' ⟨rfl, rfl⟩)
            go_ret
            exact ⟨ret_bool (by rw [hc.out, Hs.out]; simp [H10.out]), (Below.refl _ _).alloc (Nat.le_refl _) _⟩
    · have hnx : ∀ ty, (Instr.next (.pointer (some ⟨w.heap.size, 0, none⟩)) true ty).run Tryz.prog (w.iter s pos) = _ := fun ty => run_next_end w s pos ty hp
      go_wp2
      go_ret
      exact ⟨ret_bool (by rw [hc.out, simpF_end lines s b pos hp]), (Below.refl _ _).alloc (Nat.le_refl _) _⟩
end Go.Proofs.YtimdmdjkkgdohaaGreatDoor
