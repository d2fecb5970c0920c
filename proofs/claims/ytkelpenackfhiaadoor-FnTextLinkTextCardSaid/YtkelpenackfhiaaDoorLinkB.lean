/- FnTextLinkText: the walk of the law. No conditions. -/
import Derived.Test.YtkelpenackfhiaaDoorLink
namespace Go.Proofs.YtkelpenackfhiaaDoor
open Go.RowKit
set_option linter.unusedVariables false
theorem halt_L {p : Prop} (h : Hid p) : p := h
theorem resume_L {p : Prop} (h : p) : Hid p := h
theorem san_same (s : ByteArray) (w : World) (h : UText s) : Calls Tryd.prog 27 #[.string s] w fun e w' => e = .returned (.string s) ∧ Below w.heap.size w w' := by
  have H := Lib.hid (map_same s w h)
  go_enter Tryd.func27, Tryd.ntmps27
  go_wp2_with (go_at_call 36; refine H.out.mono ?_; rintro e w' ⟨rfl, hb⟩)
  go_ret
  exact ⟨rfl, hb⟩
def E1 : ByteArray := ⟨#[27, 93, 56, 59, 59]⟩
def E2 : ByteArray := ⟨#[27, 92]⟩
def E3 : ByteArray := ⟨#[27, 93, 56, 59, 59, 27, 92]⟩
theorem empty_list {s : ByteArray} (h : s.toList = []) : s.size = 0 := by
  rw [Lib.toList_data] at h
  rw [Lib.size_eq, h]; rfl
theorem ne_list {s : ByteArray} (h : s.size ≠ 0) : s.toList ≠ [] := fun e => h (empty_list e)
theorem ne_empty {s : ByteArray} (h : s.size ≠ 0) : s.toList.isEmpty = false := by
  rw [List.isEmpty_eq_false_iff]; exact fun e => h (empty_list e)
theorem eq_empty {s : ByteArray} (h : s.size = 0) : s.toList.isEmpty = true := by
  rw [List.isEmpty_iff, Lib.toList_data]
  exact List.eq_nil_of_length_eq_zero (by rw [← Lib.size_eq]; exact h)
set_option maxHeartbeats 1000000 in
theorem hyper_any (u s : ByteArray) (w : World) (hu : UText u) (u0 : u.size ≠ 0) (s0 : s.size ≠ 0) (hs : s.size ≤ 500) : Calls Tryd.prog 18 #[.string u, .string s] w fun e w' => e = .returned (.string (E1 ++ u ++ E2 ++ s ++ E3)) ∧ Below w.heap.size w w' := by
  have H := Lib.hid (san_same u w hu)
  have n1 := ne_empty u0
  have n2 := ne_empty s0
  have z1 : (u.size : Int) ≤ 200 := by have := hu.1; omega
  have z2 : (s.size : Int) ≤ 500 := by omega
  clear hu
  go_enter Tryd.func18, Tryd.ntmps18
  go_wp2_with (go_at_call 27; refine H.out.mono ?_; rintro e w' ⟨rfl, hb⟩; have HB := Lib.hid hb; clear hb)
  go_ret
  exact ⟨rfl, HB.out⟩
theorem textLink_any (u s : ByteArray) (w : World) (hu : UText u) (u0 : u.size ≠ 0) (s0 : s.size ≠ 0) (hs : s.size ≤ 500) : Calls Tryd.prog 8 #[.string u, .string s] w fun e w' => e = .returned (.string (E1 ++ u ++ E2 ++ s ++ E3)) ∧ Below w.heap.size w w' := by
  have H := Lib.hid (hyper_any u s w hu u0 s0 hs)
  go_enter Tryd.func8, Tryd.ntmps8
  go_wp2_with (go_at_call 18; refine H.out.mono ?_; rintro e w' ⟨rfl, hb⟩)
  go_ret
  exact ⟨rfl, hb⟩
set_option maxHeartbeats 4000000 in
theorem lawLink (u s : ByteArray) (w : World) (hu : u.size ≤ 140737488351232) (hs : s.size ≤ 140737488351232) : Calls Tryd.prog 3 #[.string u, .string s] w fun e w' => e = .returned (.bool true) ∧ Below w.heap.size w w' := by
  have H1 := Lib.hid (txURL_any u w hu)
  have H2 := Lib.hid (fun W => simple_any s false W)
  by_cases b1 : u.size ≤ 2147483647
  · by_cases b2 : s.size ≤ 2147483647
    · have g1 : decide ((2147483647 : Int) < (u.size : Int)) = false := decide_eq_false (by omega)
      have g2 : decide ((2147483647 : Int) < (s.size : Int)) = false := decide_eq_false (by omega)
      go_enter Tryd.func3, Tryd.ntmps3
      go_wp2_with (go_at_call 6; refine halt_L ?_)
      refine resume_L ?_
      refine H1.out.mono ?_
      rintro e w1 ⟨b, rfl, hw, hb⟩
      obtain rfl := hw.symm
      have HT := Lib.hid hb
      clear hw hb
      cases b with
      | false =>
        go_wp2_with fail
        go_ret
        exact ⟨rfl, Below.refl _ _⟩
      | true =>
        by_cases u0 : u.size = 0
        · have e1 := eq_empty u0
          go_wp2_with fail
          go_ret
          exact ⟨rfl, Below.refl _ _⟩
        · have e1 := ne_empty u0
          by_cases hl : s.size ≤ 500
          · have g3 : decide ((500 : Int) < (s.size : Int)) = false := decide_eq_false (by omega)
            by_cases s0 : s.size = 0
            · have e2 := eq_empty s0
              go_wp2_with fail
              go_ret
              exact ⟨rfl, Below.refl _ _⟩
            · have e2 := ne_empty s0
              have H3 := Lib.hid (fun W => textLink_any u s W (HT.out rfl) u0 s0 hl)
              have z1 : (u.size : Int) ≤ 200 := by have := (HT.out rfl).1; omega
              have z2 : (s.size : Int) ≤ 500 := by omega
              have es := str_same (E1 ++ u ++ E2 ++ s ++ E3)
              clear HT H1
              go_wp2_with (go_at_call 7; refine (H2.out _).mono ?_; rintro e w2 ⟨rfl, hb⟩; have HB := Lib.hid hb; clear hb; cases hs : simp false s)
              · go_wp2_with fail
                go_ret
                exact ⟨rfl, HB.out⟩
              · go_wp2_with (go_at_call 8; refine (H3.out _).mono ?_; rintro e w3 ⟨rfl, hb⟩; have HB3 := Lib.hid hb; clear hb)
                go_ret
                have b := HB.out
                exact ⟨ret_true es, b.trans (HB3.out.mono b.size)⟩
          · have g3 : decide ((500 : Int) < (s.size : Int)) = true := decide_eq_true (by omega)
            go_wp2_with fail
            go_ret
            exact ⟨rfl, Below.refl _ _⟩
    · have g1 : decide ((2147483647 : Int) < (u.size : Int)) = false := decide_eq_false (by omega)
      have g2 : decide ((2147483647 : Int) < (s.size : Int)) = true := decide_eq_true (by omega)
      go_enter Tryd.func3, Tryd.ntmps3
      go_wp2_with fail
      go_ret
      exact ⟨rfl, Below.refl _ _⟩
  · have g1 : decide ((2147483647 : Int) < (u.size : Int)) = true := decide_eq_true (by omega)
    go_enter Tryd.func3, Tryd.ntmps3
    go_wp2_with fail
    go_ret
    exact ⟨rfl, Below.refl _ _⟩
end Go.Proofs.YtkelpenackfhiaaDoor
