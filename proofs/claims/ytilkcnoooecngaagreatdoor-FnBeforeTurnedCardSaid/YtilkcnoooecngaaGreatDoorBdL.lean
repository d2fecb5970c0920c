/- FnBeforeTurned: the walk of the law, whatever strings.ToLower answers, with the tables laid. No conditions but the mode's kind. -/
import Derived.Test.YtilkcnoooecngaaGreatDoorBdB
namespace Go.Proofs.YtilkcnoooecngaaGreatDoor
open Go.RowKit
set_option linter.unusedVariables false
set_option maxHeartbeats 4000000 in
set_option maxRecDepth 100000 in
theorem lawBt0 (lo : ByteArray → ByteArray) (a b : ByteArray) (m : Nat) (fold : Bool) (w : World) (ha : a.size ≤ 400) (hb : b.size ≤ 400) (hm : m < 8) (hL : LowOk lo w) (hS : SLaid w) :
    Calls Tryz.prog 3 #[.string a, .string b, .int .i64 (m : Int), .bool fold] w fun e w' => e = .returned (.bool true) ∧ Below w.heap.size w w' := by
  have H1 := Lib.hid (before_any lo a b m fold w ha hb hm hL)
  have H2 := Lib.hid (fun W (hw : Below w.heap.size w W) => before_any lo b a m fold W hb ha hm (hL.stays hw))
  have HS := Lib.hid hS
  have za : (a.size : Int) ≤ 400 := by omega
  have zb : (b.size : Int) ≤ 400 := by omega
  have HA := Lib.hid (show a.size ≤ 800 by omega)
  have HBz := Lib.hid (show b.size ≤ 800 by omega)
  clear hL hS ha hb
  go_enter Tryz.func3, Tryz.ntmps3
  go_wp2_with (go_at_call 4; refine halt_B ?_)
  refine resume_B ?_
  refine H1.out.mono ?_
  rintro e w1 ⟨hb1, ra, rb, p, x, p1, p2, p3, rfl⟩
  have B1 := Lib.hid hb1
  have HP := Lib.hid (And.intro p1 (And.intro p2 p3))
  clear hb1 H1 p1 p2 p3
  go_wp2_with (go_at_call 4; refine halt_B ?_)
  refine resume_B ?_
  refine (H2.out w1 B1.out).mono ?_
  rintro e w2 ⟨hb2, rb', ra', q, y, p1, p2, p3, rfl⟩
  have B2 := Lib.hid (B1.out.trans (hb2.mono B1.out.size))
  have HQ := Lib.hid (And.intro p1 (And.intro p2 p3))
  clear hb2 H2 B1 p1 p2 p3
  have hN := num_any a w2 HA.out (HS.out.below B2.out)
  go_wp2_with (go_at_call 5; refine halt_B ?_)
  refine resume_B ?_
  refine hN.mono ?_
  rintro e w3 ⟨hb3, fa, mA, rfl, ga, na⟩
  have B3 := Lib.hid (B2.out.trans (hb3.mono B2.out.size))
  have HGa := Lib.hid ga
  clear hb3 B2 hN ga na
  have hN := num_any b w3 HBz.out (HS.out.below B3.out)
  go_wp2_with (go_at_call 5; refine halt_B ?_)
  refine resume_B ?_
  refine hN.mono ?_
  rintro e w4 ⟨hb4, fb, mB, rfl, gb, nb⟩
  have B4 := Lib.hid (B3.out.trans (hb4.mono B3.out.size))
  have HGb := Lib.hid gb
  clear hb4 B3 hN gb nb
  have HW := Lib.hid (show Way p x q y (mA = false ∨ mB = false ∨ Folds a wNan ∨ Folds b wNan) by
    obtain ⟨p1, p2, p3⟩ := HP.out
    obtain ⟨q1, q2, q3⟩ := HQ.out
    rw [p2, p3, q2, q3]
    refine turned lo a b m fold ra rb ra' rb' _ hm p1 q1 (fun h1 h2 => ⟨fun _ h => ?_, fun v hv hn => ?_, fun v hv hn => ?_⟩)
    · rcases h with h | h
      · left
        cases hmA : mA
        · rfl
        · exact absurd h (HGa.out hmA ra h1)
      · right; left
        cases hmB : mB
        · rfl
        · exact absurd h (HGb.out hmB rb h2)
    · rw [hv] at h1
      exact .inr (.inr (.inl (h1.nan hn)))
    · rw [hv] at h2
      exact .inr (.inr (.inr (h2.nan hn))))
  clear HP HQ HGa HGb
  rcases HW.out with ⟨rfl, rfl⟩ | ⟨rfl, rfl, ⟨rfl, rfl⟩ | ⟨rfl, rfl⟩ | ⟨rfl, rfl, hr⟩⟩
  · clear HW
    go_wp2_with fail
    go_ret
    exact ⟨rfl, B4.out⟩
  · clear HW
    go_wp2_with fail
    go_ret
    exact ⟨rfl, B4.out⟩
  · clear HW
    go_wp2_with fail
    go_ret
    exact ⟨rfl, B4.out⟩
  · have HR := Lib.hid hr
    clear HW hr
    cases mA
    · go_wp2_with fail
      go_ret
      exact ⟨rfl, B4.out⟩
    · cases mB
      · go_wp2_with fail
        go_ret
        exact ⟨rfl, B4.out⟩
      · have hT := nanS_any a w4 HA.out (HS.out.below B4.out)
        go_wp2_with (go_at_call 6; refine halt_B ?_)
        refine resume_B ?_
        refine hT.mono ?_
        rintro e w5 ⟨hb5, n1, rfl, hn1⟩
        have B5 := Lib.hid (B4.out.trans (hb5.mono B4.out.size))
        have HN1 := Lib.hid hn1
        clear hb5 hT hn1
        cases n1
        · have hT := nanS_any b w5 HBz.out (HS.out.below B5.out)
          have HFb := Lib.hid (show Folds b wNan by
            rcases HR.out with h | h | h | h
            · cases h
            · cases h
            · have := HN1.out h; cases this
            · exact h)
          go_wp2_with (go_at_call 6; refine halt_B ?_)
          refine resume_B ?_
          refine hT.mono ?_
          rintro e w6 ⟨hb6, n2, rfl, hn2⟩
          have B6 := Lib.hid (B5.out.trans (hb6.mono B5.out.size))
          have HN2 := Lib.hid (hn2 HFb.out)
          clear hb6 hT hn2
          obtain rfl := HN2.out
          go_wp2_with fail
          go_ret
          exact ⟨rfl, B6.out⟩
        · go_wp2_with fail
          go_ret
          exact ⟨rfl, B5.out⟩
set_option maxHeartbeats 4000000 in
set_option maxRecDepth 100000 in
theorem lawBt (lo : ByteArray → ByteArray) (a b : ByteArray) (k : Int) (fold : Bool) (w : World) (hL : LowOk lo w) (hS : SLaid w) :
    Calls Tryz.prog 3 #[.string a, .string b, .int .i64 k, .bool fold] w fun e w' => e = .returned (.bool true) ∧ Below w.heap.size w w' := by
  by_cases hall : a.size ≤ 400 ∧ b.size ≤ 400 ∧ 0 ≤ k ∧ k ≤ 7
  · obtain ⟨ha, hb, h0, h7⟩ := hall
    obtain ⟨m, rfl⟩ : ∃ m : Nat, k = m := ⟨k.toNat, by omega⟩
    exact lawBt0 lo a b m fold w ha hb (by omega) hL hS
  · have hway : 400 < a.size ∨ (a.size ≤ 400 ∧ 400 < b.size) ∨ (a.size ≤ 400 ∧ b.size ≤ 400 ∧ k < 0) ∨ (a.size ≤ 400 ∧ b.size ≤ 400 ∧ 0 ≤ k ∧ 7 < k) := by omega
    obtain ⟨ga, hga⟩ : ∃ g, decide ((2147483647 : Int) < (a.size : Int)) = g := ⟨_, rfl⟩
    obtain ⟨gb, hgb⟩ : ∃ g, decide ((2147483647 : Int) < (b.size : Int)) = g := ⟨_, rfl⟩
    obtain ⟨na, hna⟩ : ∃ n, a.size = n := ⟨_, rfl⟩
    obtain ⟨nb, hnb⟩ : ∃ n, b.size = n := ⟨_, rfl⟩
    rw [hna] at hway hga
    rw [hnb] at hway hgb
    clear hall
    rcases hway with h | ⟨h, h2⟩ | ⟨h, h2, h3⟩ | ⟨h, h2, h3, h4⟩
    · have ha2 : decide ((400 : Int) < (na : Int)) = true := decide_eq_true (by omega)
      cases ga <;> cases gb
      all_goals
        go_enter Tryz.func3, Tryz.ntmps3
        go_wp2_with fail
        go_ret
        exact ⟨rfl, Below.refl _ _⟩
    · have ha2 : decide ((400 : Int) < (na : Int)) = false := decide_eq_false (by omega)
      have hb2 : decide ((400 : Int) < (nb : Int)) = true := decide_eq_true (by omega)
      obtain rfl : ga = false := by rw [← hga]; exact decide_eq_false (by omega)
      cases gb
      all_goals
        go_enter Tryz.func3, Tryz.ntmps3
        go_wp2_with fail
        go_ret
        exact ⟨rfl, Below.refl _ _⟩
    · have ha2 : decide ((400 : Int) < (na : Int)) = false := decide_eq_false (by omega)
      have hb2 : decide ((400 : Int) < (nb : Int)) = false := decide_eq_false (by omega)
      obtain rfl : ga = false := by rw [← hga]; exact decide_eq_false (by omega)
      obtain rfl : gb = false := by rw [← hgb]; exact decide_eq_false (by omega)
      go_enter Tryz.func3, Tryz.ntmps3
      go_wp2_with fail
      go_ret
      exact ⟨rfl, Below.refl _ _⟩
    · have ha2 : decide ((400 : Int) < (na : Int)) = false := decide_eq_false (by omega)
      have hb2 : decide ((400 : Int) < (nb : Int)) = false := decide_eq_false (by omega)
      obtain rfl : ga = false := by rw [← hga]; exact decide_eq_false (by omega)
      obtain rfl : gb = false := by rw [← hgb]; exact decide_eq_false (by omega)
      go_enter Tryz.func3, Tryz.ntmps3
      go_wp2_with fail
      go_ret
      exact ⟨rfl, Below.refl _ _⟩
end Go.Proofs.YtilkcnoooecngaaGreatDoor
