/- Whole numbers with a sign: parseInt, Atoi. Texts of at most 1000 letters of the law. -/
import Derived.Test.YtefjonnajjpajaaDoorNuK
namespace Go.Proofs.YtefjonnajjpajaaDoor
open Go.RowKit
set_option linter.unusedVariables false
theorem bt_ext (s : ByteArray) (p : Nat) (hp : p + 1 < s.size) : bt (s.extract 1 s.size) p = bt s (p + 1) := by
  have h1 : p < (s.extract 1 s.size).size := by simp; omega
  rw [← bt_eq _ p h1, ← bt_eq s (p + 1) hp]
  congr 1
  rw [ByteArray.getElem_extract]
  congr 1
  omega
theorem ext_size (s : ByteArray) : (s.extract 1 s.size).size = s.size - 1 := by simp
theorem ext_ltr {s : ByteArray} (h : ∀ p, p < s.size → Ltr (bt s p)) : ∀ p, p < (s.extract 1 s.size).size → Ltr (bt (s.extract 1 s.size) p) := by
  intro p hp
  rw [ext_size] at hp
  rw [bt_ext s p (by omega)]
  exact h _ (by omega)
theorem ext_few {s : ByteArray} (h : Few (bt s) s.size) : Few (bt (s.extract 1 s.size)) (s.extract 1 s.size).size := by
  intro p hp he hq
  rw [ext_size] at hp ⊢
  rw [bt_ext s p (by omega)] at he
  have := h (p + 1) (by omega) he (fun q h1 h2 => by
    have := hq (q - 1) (by omega) (by rw [ext_size]; omega)
    rw [bt_ext s (q - 1) (by omega), show q - 1 + 1 = q by omega] at this
    exact this)
  omega
theorem strip_ltr {s : ByteArray} (h : ∀ p, p < s.size → Ltr (bt s p)) : ∀ p, p < (strip s).size → Ltr (bt (strip s) p) := by
  unfold strip
  split
  · exact ext_ltr h
  · exact h
theorem strip_few {s : ByteArray} (h : Few (bt s) s.size) : Few (bt (strip s)) (strip s).size := by
  unfold strip
  split
  · exact ext_few h
  · exact h
theorem strip_size (s : ByteArray) : (strip s).size ≤ s.size := by
  unfold strip
  split
  · rw [ext_size]; omega
  · exact Nat.le_refl _
theorem strip_cases (s : ByteArray) : (s.size = 0 ∧ strip s = s) ∨ (0 < s.size ∧ bt s 0 = 43 ∧ strip s = s.extract 1 s.size) ∨ (0 < s.size ∧ bt s 0 = 45 ∧ strip s = s.extract 1 s.size) ∨ (0 < s.size ∧ bt s 0 ≠ 43 ∧ bt s 0 ≠ 45 ∧ strip s = s) := by
  unfold strip
  by_cases h0 : 0 < s.size
  · by_cases h1 : bt s 0 = 43
    · exact .inr (.inl ⟨h0, h1, if_pos ⟨h0, .inl h1⟩⟩)
    · by_cases h2 : bt s 0 = 45
      · exact .inr (.inr (.inl ⟨h0, h2, if_pos ⟨h0, .inr h2⟩⟩))
      · exact .inr (.inr (.inr ⟨h0, h1, h2, if_neg (by rintro ⟨_, h | h⟩ <;> contradiction)⟩))
  · exact .inl ⟨by omega, if_neg (by rintro ⟨h, _⟩; contradiction)⟩
def IntRet (k : IntKind) (t : ByteArray) (w : World) (e : Ending) (w' : World) : Prop :=
  ∃ (n : Int) (x : Value), e = .returned (.tuple #[.int k n, x]) ∧ (x = .nilIface ∧ 0 < t.size ∧ (∀ p, p < t.size → isD (bt t p)) ∨ ∃ ty v, x = .iface ty v) ∧ Below w.heap.size w w'
set_option maxHeartbeats 1000000 in
set_option maxRecDepth 100000 in
theorem parseInt_any (s : ByteArray) (w : World) (hs : s.size ≤ 1000) (hL : ∀ p, p < s.size → Ltr (bt s p)) :
    Calls Tryd.prog 13 #[.string s, .int .i64 10, .int .i64 0] w (IntRet .i64 (strip s) w) := by
  have hT := parseUint_any (strip s) w (by have := strip_size s; omega) (strip_ltr hL)
  rcases strip_cases s with ⟨h0, hst⟩ | ⟨h0, h1, hst⟩ | ⟨h0, h1, hst⟩ | ⟨h0, h1, h2, hst⟩
  · have he := emp_t h0
    clear h0 hL hT hst
    go_enter Tryd.func13, Tryd.ntmps13
    go_wp2
    go_ret2
    exact ⟨0, _, rfl, .inr ⟨_, _, rfl⟩, Below.refl _ _⟩
  all_goals
    have he := emp_f (show s.size ≠ 0 by omega)
    have i1 := ixB0 s h0
    clear hL
  · rw [h1] at i1
    rw [hst] at hT ⊢
    clear h1 hst
    go_enter Tryd.func13, Tryd.ntmps13
    go_wp2_with (go_at_call 27; refine halt_H ?_)
    refine resume_H ?_
    refine hT.mono ?_
    rintro e w1 ⟨n, x, rfl, hn1, hn2, hx, hb⟩
    have HB := Lib.hid hb
    clear hT hb
    rcases hx with ⟨rfl, hd⟩ | rfl | ⟨rfl, rfl⟩
    · have HD := Lib.hid hd
      clear hd
      by_cases hc : 9223372036854775808 ≤ n
      · go_wp2_with fail
        go_ret2
        exact ⟨_, _, rfl, .inr ⟨_, _, rfl⟩, HB.out⟩
      · go_wp2_with fail
        go_ret2
        exact ⟨_, _, rfl, .inl ⟨rfl, HD.out⟩, HB.out⟩
    · have hne := neq_sr
      unfold sSyn sRng at hne
      unfold sSyn
      go_wp2_with fail
      go_ret2
      exact ⟨_, _, rfl, .inr ⟨_, _, rfl⟩, HB.out⟩
    · have hne := neq_rr
      unfold sRng at hne ⊢
      go_wp2_with fail
      go_ret2
      exact ⟨_, _, rfl, .inr ⟨_, _, rfl⟩, HB.out⟩
  · rw [h1] at i1
    rw [hst] at hT ⊢
    clear h1 hst
    go_enter Tryd.func13, Tryd.ntmps13
    go_wp2_with (go_at_call 27; refine halt_H ?_)
    refine resume_H ?_
    refine hT.mono ?_
    rintro e w1 ⟨n, x, rfl, hn1, hn2, hx, hb⟩
    have HB := Lib.hid hb
    clear hT hb
    rcases hx with ⟨rfl, hd⟩ | rfl | ⟨rfl, rfl⟩
    · have HD := Lib.hid hd
      clear hd
      by_cases hc : 9223372036854775808 < n
      · go_wp2_with fail
        go_ret2
        exact ⟨_, _, rfl, .inr ⟨_, _, rfl⟩, HB.out⟩
      · go_wp2_with fail
        go_ret2
        exact ⟨_, _, rfl, .inl ⟨rfl, HD.out⟩, HB.out⟩
    · have hne := neq_sr
      unfold sSyn sRng at hne
      unfold sSyn
      go_wp2_with fail
      go_ret2
      exact ⟨_, _, rfl, .inr ⟨_, _, rfl⟩, HB.out⟩
    · have hne := neq_rr
      unfold sRng at hne ⊢
      go_wp2_with fail
      go_ret2
      exact ⟨_, _, rfl, .inr ⟨_, _, rfl⟩, HB.out⟩
  · have q1 : (((bt s 0 : Nat) : Int) == 43) = false := by rw [beq_eq_false_iff_ne]; omega
    have q2 : (((bt s 0 : Nat) : Int) == 45) = false := by rw [beq_eq_false_iff_ne]; omega
    rw [hst] at hT ⊢
    clear h1 h2 hst
    generalize bt s 0 = c at *
    go_enter Tryd.func13, Tryd.ntmps13
    go_wp2_with (go_at_call 27; refine halt_H ?_)
    refine resume_H ?_
    refine hT.mono ?_
    rintro e w1 ⟨n, x, rfl, hn1, hn2, hx, hb⟩
    have HB := Lib.hid hb
    clear hT hb
    rcases hx with ⟨rfl, hd⟩ | rfl | ⟨rfl, rfl⟩
    · have HD := Lib.hid hd
      clear hd
      by_cases hc : 9223372036854775808 ≤ n
      · go_wp2_with fail
        go_ret2
        exact ⟨_, _, rfl, .inr ⟨_, _, rfl⟩, HB.out⟩
      · go_wp2_with fail
        go_ret2
        exact ⟨_, _, rfl, .inl ⟨rfl, HD.out⟩, HB.out⟩
    · have hne := neq_sr
      unfold sSyn sRng at hne
      unfold sSyn
      go_wp2_with fail
      go_ret2
      exact ⟨_, _, rfl, .inr ⟨_, _, rfl⟩, HB.out⟩
    · have hne := neq_rr
      unfold sRng at hne ⊢
      go_wp2_with fail
      go_ret2
      exact ⟨_, _, rfl, .inr ⟨_, _, rfl⟩, HB.out⟩
set_option maxHeartbeats 1000000 in
set_option maxRecDepth 100000 in
theorem atoi_any (s : ByteArray) (w : World) (hs : s.size ≤ 1000) (hL : ∀ p, p < s.size → Ltr (bt s p)) :
    Calls Tryd.prog 8 #[.string s] w (IntRet .i64 (strip s) w) := by
  have hT := parseInt_any s w hs hL
  go_enter Tryd.func8, Tryd.ntmps8
  go_wp2_with (go_at_call 13; refine halt_H ?_)
  refine resume_H ?_
  refine hT.mono ?_
  rintro e w1 ⟨n, x, rfl, hx, hb⟩
  have HB := Lib.hid hb
  have hbs := hb.size
  clear hT hb
  rcases hx with ⟨rfl, hd⟩ | ⟨ty, v, rfl⟩
  · have HD := Lib.hid hd
    clear hd
    go_wp2_with fail
    go_ret2
    exact ⟨_, _, rfl, .inl ⟨rfl, HD.out⟩, HB.out⟩
  · go_wp2_with fail
    go_ret2
    exact ⟨_, _, rfl, .inr ⟨_, _, rfl⟩, HB.out.alloc hbs _⟩
end Go.Proofs.YtefjonnajjpajaaDoor
