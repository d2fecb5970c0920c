/- Paddings: empty, counted, equal: the walk of the law, for every two paddings. No conditions. -/
import Derived.Test.YtlppbalnjogkoaaPadA
import Derived.WalkKit
import Derived.Handy
import Derived.Deep.QuietTactic
import Derived.BigQuiet
import Derived.WalkLawsBesides
namespace Go.Proofs.Ytlppbalnjogkoaa
open Go.RowKit
set_option linter.unusedVariables false
open PFnPadding
theorem below_drewN {B : Nat} {a w : World} (h : Below B a w) (n : Nat) : Below B a (w.drewN n) := ⟨h.os, h.tape, h.output, h.size, h.block⟩
set_option maxHeartbeats 4000000 in
set_option maxRecDepth 100000 in
theorem padding_any (l r t b : ByteArray) (o : Bool) (l1 r1 t1 b1 : ByteArray) (o1 : Bool) (same : Bool) (w : World) :
    Calls Try.prog 6 #[padV l r t b o, padV l1 r1 t1 b1 o1, .bool same] w fun e w' => e = .returned (.bool true) ∧ Below w.heap.size w w' := by
  obtain ⟨x, hx⟩ := fits_some l r t b o
  obtain ⟨y, hy⟩ := fits_some l1 r1 t1 b1 o1
  have hx' := Lib.hid hx
  have hy' := Lib.hid hy
  clear hx hy
  cases x
  · go_enter Try.func6, Try.ntmps6
    go_wp2_with fail
    refine (laws_zzFits23.calls l r t b o _ _ hx'.out).mono ?_
    rintro e w1 ⟨rfl, hb1⟩
    have z1 : w.heap.size + 2 ≤ w1.heap.size := by have := hb1.size; simp at this; omega
    obtain ⟨c1, f1⟩ := bcell (w.heap.size + 2) (by simp) hb1
    go_wp2_with fail
    go_ret
    exact ⟨rfl, (((Below.refl _ _).alloc (Nat.le_refl _) _).alloc (by simp) _).trans (hb1.mono (by simp; omega))⟩
  cases y
  · go_enter Try.func6, Try.ntmps6
    go_wp2_with fail
    refine (laws_zzFits23.calls l r t b o _ _ hx'.out).mono ?_
    rintro e w1 ⟨rfl, hb1⟩
    have z1 : w.heap.size + 2 ≤ w1.heap.size := by have := hb1.size; simp at this; omega
    obtain ⟨c1, f1⟩ := bcell (w.heap.size + 2) (by simp) hb1
    go_wp2_with fail
    refine (laws_zzFits23.calls l1 r1 t1 b1 o1 _ _ hy'.out).mono ?_
    rintro e w2 ⟨rfl, hb2⟩
    have z2 : w.heap.size + 2 ≤ w2.heap.size := by have := hb2.size; omega
    obtain ⟨c2, f2⟩ := bcell (w.heap.size + 2) z1 hb2
    have B2 : Below w.heap.size w w2 := (((Below.refl _ _).alloc (Nat.le_refl _) _).alloc (by simp) _).trans ((hb1.mono (by simp; omega)).trans (hb2.mono (by omega)))
    go_wp2_with fail
    go_ret
    exact ⟨rfl, B2⟩
  cases same
  · go_enter Try.func6, Try.ntmps6
    go_wp2_with fail
    refine (laws_zzFits23.calls l r t b o _ _ hx'.out).mono ?_
    rintro e w1 ⟨rfl, hb1⟩
    have z1 : w.heap.size + 2 ≤ w1.heap.size := by have := hb1.size; simp at this; omega
    obtain ⟨c1, f1⟩ := bcell (w.heap.size + 2) (by simp) hb1
    go_wp2_with fail
    refine (laws_zzFits23.calls l1 r1 t1 b1 o1 _ _ hy'.out).mono ?_
    rintro e w2 ⟨rfl, hb2⟩
    have z2 : w.heap.size + 2 ≤ w2.heap.size := by have := hb2.size; omega
    obtain ⟨c2, f2⟩ := bcell (w.heap.size + 2) z1 hb2
    have B2 : Below w.heap.size w w2 := (((Below.refl _ _).alloc (Nat.le_refl _) _).alloc (by simp) _).trans ((hb1.mono (by simp; omega)).trans (hb2.mono (by omega)))
    go_wp2_with fail
    refine (impl_TwPaddings.calls l r t b o l1 r1 t1 b1 o1 _ _ _ _ (pads_f _ _ _ _ _ _ _ _ _ _)).mono ?_
    rintro e w3 ⟨rfl, hb3⟩
    have z3 : w.heap.size + 2 ≤ w3.heap.size := by have := hb3.size; omega
    obtain ⟨c3, f3⟩ := bcell (w.heap.size + 2) z2 hb3
    have B3 : Below w.heap.size w w3 := B2.trans (hb3.mono (by omega))
    have z3a : w.heap.size < w3.heap.size := by omega
    have z3b : w.heap.size + 1 < w3.heap.size := by omega
    generalize hE : emp l r t b = E
    have hq := eqS l r t b o l1 r1 t1 b1 o1
    have hg := gt28
    generalize hQ : eqv l r t b o l1 r1 t1 b1 o1 = Q at hq
    clear hQ
    go_wp2_with fail
    · have h1 : l.toList = [] := by assumption
      have h2 : r.toList = [] := by assumption
      have h3 : t.toList = [] := by assumption
      by_cases h4 : b.toList = []
      · obtain rfl : E = true := by rw [← hE]; simp [emp, h1, h2, h3, h4]
        clear hE
        go_quiet (fail)
        go_wp2
        go_ret
        exact ⟨ret_true (by simp), below_drewN (B3.alloc (Nat.le_of_lt z3a) _) _⟩
      · obtain rfl : E = false := by rw [← hE]; simp [emp, h1, h2, h3, h4]
        have h5 : b.toList.isEmpty = false := by simp [h4]
        clear hE
        go_quiet (fail)
        go_wp2
        go_ret
        exact ⟨ret_true (by simp), below_drewN (B3.alloc (Nat.le_of_lt z3a) _) _⟩
    · obtain rfl : E = false := by rw [← hE]; simp [emp, *]
      go_quiet (fail)
      go_wp2
      go_ret
      exact ⟨ret_true (by simp), below_drewN (B3.alloc (Nat.le_of_lt z3a) _) _⟩
    · obtain rfl : E = false := by rw [← hE]; simp [emp, *]
      go_quiet (fail)
      go_wp2
      go_ret
      exact ⟨ret_true (by simp), below_drewN (B3.alloc (Nat.le_of_lt z3a) _) _⟩
    · obtain rfl : E = false := by rw [← hE]; simp [emp, *]
      go_quiet (fail)
      go_wp2
      go_ret
      exact ⟨ret_true (by simp), below_drewN (B3.alloc (Nat.le_of_lt z3a) _) _⟩
  · go_enter Try.func6, Try.ntmps6
    go_wp2_with fail
    refine (laws_zzFits23.calls l r t b o _ _ hx'.out).mono ?_
    rintro e w1 ⟨rfl, hb1⟩
    have z1 : w.heap.size + 2 ≤ w1.heap.size := by have := hb1.size; simp at this; omega
    obtain ⟨c1, f1⟩ := bcell (w.heap.size + 2) (by simp) hb1
    go_wp2_with fail
    refine (laws_zzFits23.calls l1 r1 t1 b1 o1 _ _ hy'.out).mono ?_
    rintro e w2 ⟨rfl, hb2⟩
    have z2 : w.heap.size + 2 ≤ w2.heap.size := by have := hb2.size; omega
    obtain ⟨c2, f2⟩ := bcell (w.heap.size + 2) z1 hb2
    have B2 : Below w.heap.size w w2 := (((Below.refl _ _).alloc (Nat.le_refl _) _).alloc (by simp) _).trans ((hb1.mono (by simp; omega)).trans (hb2.mono (by omega)))
    go_wp2_with fail
    refine (impl_TwPaddings.calls l r t b o l r t b o _ _ _ _ (pads_f _ _ _ _ _ _ _ _ _ _)).mono ?_
    rintro e w3 ⟨rfl, hb3⟩
    have z3 : w.heap.size + 2 ≤ w3.heap.size := by have := hb3.size; simp at this; omega
    obtain ⟨c3, f3⟩ := bcell (w.heap.size + 2) (by simp; omega) hb3
    have B3 : Below w.heap.size w w3 := (((((B2.setCell (by simp) _).setCell (by simp) _).setCell (by simp) _).setCell (by simp) _).setCell (by simp) _).trans (hb3.mono (by simp; omega))
    have z3a : w.heap.size < w3.heap.size := by omega
    have z3b : w.heap.size + 1 < w3.heap.size := by omega
    generalize hE : emp l r t b = E
    have hq := eqS l r t b o l r t b o
    have hg := gt28
    generalize hQ : eqv l r t b o l r t b o = Q at hq
    clear hQ
    go_wp2_with fail
    · have h1 : l.toList = [] := by assumption
      have h2 : r.toList = [] := by assumption
      have h3 : t.toList = [] := by assumption
      by_cases h4 : b.toList = []
      · obtain rfl : E = true := by rw [← hE]; simp [emp, h1, h2, h3, h4]
        clear hE
        go_quiet (fail)
        go_wp2
        go_ret
        exact ⟨ret_true (by simp), below_drewN (B3.alloc (Nat.le_of_lt z3a) _) _⟩
      · obtain rfl : E = false := by rw [← hE]; simp [emp, h1, h2, h3, h4]
        have h5 : b.toList.isEmpty = false := by simp [h4]
        clear hE
        go_quiet (fail)
        go_wp2
        go_ret
        exact ⟨ret_true (by simp), below_drewN (B3.alloc (Nat.le_of_lt z3a) _) _⟩
    · obtain rfl : E = false := by rw [← hE]; simp [emp, *]
      go_quiet (fail)
      go_wp2
      go_ret
      exact ⟨ret_true (by simp), below_drewN (B3.alloc (Nat.le_of_lt z3a) _) _⟩
    · obtain rfl : E = false := by rw [← hE]; simp [emp, *]
      go_quiet (fail)
      go_wp2
      go_ret
      exact ⟨ret_true (by simp), below_drewN (B3.alloc (Nat.le_of_lt z3a) _) _⟩
    · obtain rfl : E = false := by rw [← hE]; simp [emp, *]
      go_quiet (fail)
      go_wp2
      go_ret
      exact ⟨ret_true (by simp), below_drewN (B3.alloc (Nat.le_of_lt z3a) _) _⟩
theorem padding_all (l r t b : ByteArray) (o : Bool) (l1 r1 t1 b1 : ByteArray) (o1 : Bool) (same : Bool) (w : World) (hl : l.size ≤ maxLen) (hr : r.size ≤ maxLen) (ht : t.size ≤ maxLen) (hb : b.size ≤ maxLen) (hl1 : l1.size ≤ maxLen) (hr1 : r1.size ≤ maxLen) (ht1 : t1.size ≤ maxLen) (hb1 : b1.size ≤ maxLen) :
    Calls Try.prog 6 #[padV l r t b o, padV l1 r1 t1 b1 o1, .bool same] w fun e w' => e = .returned (.bool true) ∧ Below w.heap.size w w' := padding_any l r t b o l1 r1 t1 b1 o1 same w
end Go.Proofs.Ytlppbalnjogkoaa
