/- FnBeforeChain: the walk of the law, whatever strings.ToLower answers. No conditions. -/
import Derived.Test.YtoeijholbhpkiaaDoorBc
namespace Go.Proofs.YtoeijholbhpkiaaDoor
open Go.RowKit
set_option linter.unusedVariables false
theorem bls_lt (a b : ByteArray) : bls a b = true ↔ a.data.toList < b.data.toList := by
  unfold bls; rw [bytesLess_eq, Lib.toList_data, Lib.toList_data]; simp
theorem eqs_iff (a b : ByteArray) : eqs a b = true ↔ a = b := by
  unfold eqs; rw [beq_bytes]; simp
theorem bls_trans {a b c : ByteArray} (h1 : bls a b = true) (h2 : bls b c = true) : bls a c = true := by
  rw [bls_lt] at *; exact List.lt_trans h1 h2
theorem bls_ne {a b : ByteArray} (h : bls a b = true) : eqs a b = false := by
  rw [Bool.eq_false_iff]; intro e
  rw [eqs_iff] at e; subst e
  rw [bls_lt] at h; exact List.lt_irrefl _ h
theorem chain (lo : ByteArray → ByteArray) (a b c : ByteArray) (fold : Bool) : sB lo a b fold = true ∨ (sB lo a b fold = false ∧ sB lo b c fold = true) ∨ (sB lo a b fold = false ∧ sB lo b c fold = false ∧ lB lo a b fold = false) ∨ (sB lo a b fold = false ∧ sB lo b c fold = false ∧ lB lo a b fold = true ∧ lB lo b c fold = false) ∨
    (sB lo a b fold = false ∧ sB lo b c fold = false ∧ lB lo a b fold = true ∧ lB lo b c fold = true ∧ sB lo a c fold = false ∧ lB lo a c fold = true) := by
  cases hp : sB lo a b fold with
  | true => exact .inl rfl
  | false =>
    refine .inr ?_
    cases hq : sB lo b c fold with
    | true => exact .inl ⟨rfl, rfl⟩
    | false =>
      refine .inr ?_
      cases hx : lB lo a b fold with
      | false => exact .inl ⟨rfl, rfl, rfl⟩
      | true =>
        refine .inr ?_
        cases hy : lB lo b c fold with
        | false => exact .inl ⟨rfl, rfl, rfl, rfl⟩
        | true =>
          refine .inr ⟨rfl, rfl, rfl, rfl, ?_⟩
          unfold sB at hp hq
          unfold lB at hx hy
          cases e1 : eqs a b with
          | true => rw [e1] at hp; simp at hp
          | false =>
            cases e2 : eqs b c with
            | true => rw [e2] at hq; simp at hq
            | false =>
              rw [e1] at hp hx
              rw [e2] at hq hy
              cases fold with
              | false =>
                simp at hx hy
                have h1 := bls_trans hx hy
                have h2 := bls_ne h1
                unfold sB lB
                rw [h2, h1]; simp
              | true =>
                simp at hp hq
                rw [hp] at hx
                rw [hq] at hy
                simp at hx hy
                have h1 := bls_trans hx hy
                have h2 := bls_ne h1
                have h3 : eqs a c = false := by
                  rw [Bool.eq_false_iff]; intro e
                  rw [eqs_iff] at e; subst e
                  rw [(eqs_iff (lo a) (lo a)).2 rfl] at h2; cases h2
                unfold sB lB
                rw [h3, h2, h1]; simp
theorem ab_ahead (lo : ByteArray → ByteArray) : lB lo ⟨#[97]⟩ ⟨#[98]⟩ false = true ∧ sB lo ⟨#[97]⟩ ⟨#[98]⟩ false = false := by
  have h1 : bls ⟨#[97]⟩ ⟨#[98]⟩ = true := by rw [bls_lt]; decide
  have h2 := bls_ne h1
  unfold lB sB
  rw [h2, h1]; simp
set_option maxHeartbeats 1000000 in
theorem orders_any (lo : ByteArray → ByteArray) (w : World) (hL : LowOk lo w) : Calls Tryd.prog 5 #[] w fun e w' => e = .returned (.bool true) ∧ Below w.heap.size w w' := by
  have HC := Lib.hid (before_any lo ⟨#[97]⟩ ⟨#[98]⟩ false w (by decide) (by decide) hL)
  rw [(ab_ahead lo).1, (ab_ahead lo).2] at HC
  clear hL
  go_enter Tryd.func5, Tryd.ntmps5
  go_wp2_with (go_at_call 4; refine halt_B ?_)
  refine resume_B ?_
  refine HC.out.mono ?_
  rintro e w1 ⟨rfl, hb1⟩
  have HB1 := Lib.hid hb1
  clear hb1 HC
  go_wp2_with fail
  go_ret
  exact ⟨rfl, HB1.out⟩
set_option maxHeartbeats 1000000 in
set_option maxRecDepth 100000 in
theorem lawBc0 (lo : ByteArray → ByteArray) (a b c : ByteArray) (fold : Bool) (w : World) (ha : a.size ≤ 400) (hb : b.size ≤ 400) (hc : c.size ≤ 400) (hL : LowOk lo w) : Calls Tryd.prog 3 #[.string a, .string b, .string c, .bool fold] w fun e w' => e = .returned (.bool true) ∧ Below w.heap.size w w' := by
  have H1 := Lib.hid (before_any lo a b fold w ha hb hL)
  have H2 := Lib.hid (fun W (hw : Below w.heap.size w W) => before_any lo b c fold W hb hc (hL.stays hw))
  have H3 := Lib.hid (fun W (hw : Below w.heap.size w W) => before_any lo a c fold W ha hc (hL.stays hw))
  have H4 := Lib.hid (fun W (hw : Below w.heap.size w W) => orders_any lo W (hL.stays hw))
  have HH := chain lo a b c fold
  have za : (a.size : Int) ≤ 400 := by omega
  have zb : (b.size : Int) ≤ 400 := by omega
  have zc : (c.size : Int) ≤ 400 := by omega
  generalize sB lo a b fold = p at *
  generalize lB lo a b fold = x at *
  generalize sB lo b c fold = q at *
  generalize lB lo b c fold = y at *
  generalize sB lo a c fold = r at *
  generalize lB lo a c fold = z at *
  clear hL
  go_enter Tryd.func3, Tryd.ntmps3
  go_wp2_with (go_at_call 4; refine halt_B ?_)
  refine resume_B ?_
  refine H1.out.mono ?_
  rintro e w1 ⟨rfl, hb1⟩
  have B1 := Lib.hid hb1
  clear hb1 H1
  go_wp2_with (go_at_call 4; refine halt_B ?_)
  refine resume_B ?_
  refine (H2.out w1 B1.out).mono ?_
  rintro e w2 ⟨rfl, hb2⟩
  have B2 := Lib.hid (B1.out.trans (hb2.mono B1.out.size))
  clear hb2 H2 B1
  go_wp2_with (go_at_call 4; refine halt_B ?_)
  refine resume_B ?_
  refine (H3.out w2 B2.out).mono ?_
  rintro e w3 ⟨rfl, hb3⟩
  have B3 := Lib.hid (B2.out.trans (hb3.mono B2.out.size))
  have H5 := Lib.hid (H4.out w3 B3.out)
  clear hb3 H3 B2 H4
  rcases HH with rfl | ⟨rfl, rfl⟩ | ⟨rfl, rfl, rfl⟩ | ⟨rfl, rfl, rfl, rfl⟩ | ⟨rfl, rfl, rfl, rfl, rfl, rfl⟩
  all_goals
    go_wp2_with (go_at_call 5; refine halt_B ?_)
    refine resume_B ?_
    refine H5.out.mono ?_
    rintro e w4 ⟨rfl, hb4⟩
    have B4 := Lib.hid (B3.out.trans (hb4.mono B3.out.size))
    clear hb4 H5 B3
    go_wp2_with fail
    go_ret
    exact ⟨rfl, B4.out⟩
set_option maxHeartbeats 1000000 in
theorem lawBc (lo : ByteArray → ByteArray) (a b c : ByteArray) (fold : Bool) (w : World) (hL : LowOk lo w) : Calls Tryd.prog 3 #[.string a, .string b, .string c, .bool fold] w fun e w' => e = .returned (.bool true) ∧ Below w.heap.size w w' := by
  by_cases ha : a.size ≤ 400
  · by_cases hb : b.size ≤ 400
    · by_cases hc : c.size ≤ 400
      · exact lawBc0 lo a b c fold w ha hb hc hL
      · have ga : decide ((2147483647 : Int) < (a.size : Int)) = false := decide_eq_false (by omega)
        have gb : decide ((2147483647 : Int) < (b.size : Int)) = false := decide_eq_false (by omega)
        have ha2 : decide ((400 : Int) < (a.size : Int)) = false := decide_eq_false (by omega)
        have hb2 : decide ((400 : Int) < (b.size : Int)) = false := decide_eq_false (by omega)
        have hc2 : decide ((400 : Int) < (c.size : Int)) = true := decide_eq_true (by omega)
        by_cases hc3 : (2147483647 : Int) < (c.size : Int)
        · have gc : decide ((2147483647 : Int) < (c.size : Int)) = true := decide_eq_true hc3
          go_enter Tryd.func3, Tryd.ntmps3
          go_wp2_with fail
          go_ret
          exact ⟨rfl, Below.refl _ _⟩
        · have gc : decide ((2147483647 : Int) < (c.size : Int)) = false := decide_eq_false hc3
          go_enter Tryd.func3, Tryd.ntmps3
          go_wp2_with fail
          go_ret
          exact ⟨rfl, Below.refl _ _⟩
    · have ga : decide ((2147483647 : Int) < (a.size : Int)) = false := decide_eq_false (by omega)
      have ha2 : decide ((400 : Int) < (a.size : Int)) = false := decide_eq_false (by omega)
      have hb2 : decide ((400 : Int) < (b.size : Int)) = true := decide_eq_true (by omega)
      by_cases hb3 : (2147483647 : Int) < (b.size : Int)
      · have gb : decide ((2147483647 : Int) < (b.size : Int)) = true := decide_eq_true hb3
        go_enter Tryd.func3, Tryd.ntmps3
        go_wp2_with fail
        go_ret
        exact ⟨rfl, Below.refl _ _⟩
      · have gb : decide ((2147483647 : Int) < (b.size : Int)) = false := decide_eq_false hb3
        by_cases hc3 : (2147483647 : Int) < (c.size : Int)
        · have gc : decide ((2147483647 : Int) < (c.size : Int)) = true := decide_eq_true hc3
          go_enter Tryd.func3, Tryd.ntmps3
          go_wp2_with fail
          go_ret
          exact ⟨rfl, Below.refl _ _⟩
        · have gc : decide ((2147483647 : Int) < (c.size : Int)) = false := decide_eq_false hc3
          go_enter Tryd.func3, Tryd.ntmps3
          go_wp2_with fail
          go_ret
          exact ⟨rfl, Below.refl _ _⟩
  · have ha2 : decide ((400 : Int) < (a.size : Int)) = true := decide_eq_true (by omega)
    by_cases ha3 : (2147483647 : Int) < (a.size : Int)
    · have ga : decide ((2147483647 : Int) < (a.size : Int)) = true := decide_eq_true ha3
      go_enter Tryd.func3, Tryd.ntmps3
      go_wp2_with fail
      go_ret
      exact ⟨rfl, Below.refl _ _⟩
    · have ga : decide ((2147483647 : Int) < (a.size : Int)) = false := decide_eq_false ha3
      by_cases hb3 : (2147483647 : Int) < (b.size : Int)
      · have gb : decide ((2147483647 : Int) < (b.size : Int)) = true := decide_eq_true hb3
        go_enter Tryd.func3, Tryd.ntmps3
        go_wp2_with fail
        go_ret
        exact ⟨rfl, Below.refl _ _⟩
      · have gb : decide ((2147483647 : Int) < (b.size : Int)) = false := decide_eq_false hb3
        by_cases hc3 : (2147483647 : Int) < (c.size : Int)
        · have gc : decide ((2147483647 : Int) < (c.size : Int)) = true := decide_eq_true hc3
          go_enter Tryd.func3, Tryd.ntmps3
          go_wp2_with fail
          go_ret
          exact ⟨rfl, Below.refl _ _⟩
        · have gc : decide ((2147483647 : Int) < (c.size : Int)) = false := decide_eq_false hc3
          go_enter Tryd.func3, Tryd.ntmps3
          go_wp2_with fail
          go_ret
          exact ⟨rfl, Below.refl _ _⟩
end Go.Proofs.YtoeijholbhpkiaaDoor
