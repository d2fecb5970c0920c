/- bits: all points. Decimals of at most 5000 digits, points from -1000000 to 1000000. -/
import Derived.Test.YtilkcnoooecngaaGreatDoorBtB
namespace Go.Proofs.YtilkcnoooecngaaGreatDoor
open Go.RowKit
set_option linter.unusedVariables false
set_option maxHeartbeats 2000000 in
set_option maxRecDepth 100000 in
theorem bits_far (B b : Nat) (v : Value) (ds : List Nat) (dp : Int) (w : World) (h : Dec w B b v ds dp) (hg : Good ds) (hl : ds.length ≤ 5000) (hdp : -1000000 ≤ dp ∧ dp ≤ 1000000) (hf : dp < -330 ∨ 310 < dp) :
    Calls Tryz.prog 42 #[.pointer (some ⟨b, 0, none⟩), .agg fmC] w (BitsRet B ds dp w) := by
  obtain ⟨hdp1, hdp2⟩ := hdp
  obtain ⟨L, hL⟩ : ∃ L, ds.length = L := ⟨_, rfl⟩
  have hL0 : L ≠ 0 := by
    obtain ⟨_, d, t, rfl, _⟩ := hg
    simp at hL; omega
  have HNe := Lib.hid (show ds ≠ [] by obtain ⟨_, d, t, rfl, _⟩ := hg; simp)
  obtain ⟨A, cap, rfl, hc1, hc2, hgA⟩ := h.form
  rw [hL] at h hl
  have hD := h.alloc (.cells fmC tF)
  have f0 : (w.alloc (.cells fmC tF)).cell? ⟨b, 0, none⟩ = some (.slice A L cap) := hD.blk.cell 0 rfl
  have f1 : (w.alloc (.cells fmC tF)).cell? ⟨b, 1, none⟩ = some (.int .i64 dp) := hD.blk.cell 1 rfl
  have hN := Blk.new w tF fmC
  have g0 : (w.alloc (.cells fmC tF)).cell? ⟨w.heap.size, 0, none⟩ = some (.int .i64 52) := hN.cell 0 rfl
  have g1 : (w.alloc (.cells fmC tF)).cell? ⟨w.heap.size, 1, none⟩ = some (.int .i64 11) := hN.cell 1 rfl
  have HB := Lib.hid (show Fm B w (w.alloc (.cells fmC tF)) from (Fm.refl B w).belowS ((Below.refl _ w).alloc (Nat.le_refl _) _) h.lt)
  have e0 : ((L : Int) == 0) = false := by rw [beq_eq_false_iff_ne]; omega
  clear h hN hc1 hc2 hgA hg hL hL0
  unfold fmC at *
  rcases hf with hlo | hhi
  · have HR := Lib.hid (show BitsR ds dp 0 false from .inl ⟨.inr hlo, rfl, rfl⟩)
    clear hD
    go_enter Tryz.func42, Tryz.ntmps42
    go_wp2_with fail
    go_quiet (fail)
    go_wp2
    go_ret2
    exact ⟨⟨_, _, HR.out, rfl⟩, HB.out.drewN nq⟩
  · have HR := Lib.hid (show BitsR ds dp infN true from .inr (.inl ⟨⟨HNe.out, hhi⟩, rfl, rfl⟩))
    have d1 : decide (dp < -330) = false := decide_eq_false (by omega)
    clear hD
    go_enter Tryz.func42, Tryz.ntmps42
    go_wp2_with fail
    go_quiet (fail)
    go_wp2
    go_ret2
    exact ⟨⟨_, _, HR.out, rfl⟩, HB.out.drewN nq⟩
theorem bits_any (B b : Nat) (v : Value) (ds : List Nat) (dp : Int) (w : World) (h : Dec w B b v ds dp) (hg : ds = [] ∨ Good ds) (hl : ds.length ≤ 5000) (hdp : -1000000 ≤ dp ∧ dp ≤ 1000000) :
    Calls Tryz.prog 42 #[.pointer (some ⟨b, 0, none⟩), .agg fmC] w (BitsRet B ds dp w) := by
  rcases hg with rfl | hg
  · exact bits_zero B b v dp w h
  · by_cases hf : dp < -330 ∨ 310 < dp
    · exact bits_far B b v ds dp w h hg hl hdp hf
    · exact bits_good B b v ds dp w h hg hl (by omega)
end Go.Proofs.YtilkcnoooecngaaGreatDoor
