/- ParseFloat, way 2 of what stands ahead. Printed by gen_nuF.py. Texts of at most 100 letters of the law. -/
import Derived.Test.YtefjonnajjpajaaDoorNuF
namespace Go.Proofs.YtefjonnajjpajaaDoor
open Go.RowKit
set_option linter.unusedVariables false
set_option maxHeartbeats 1000000 in
set_option maxRecDepth 100000 in
theorem float_2 (s : ByteArray) (w : World) (hs : s.size ≤ 100) (hL : ∀ p, p < s.size → Ltr (bt s p)) (hF : Few (bt s) s.size) (h0 : 0 < s.size) (h1 : bt s 0 = 45) (hst : strip s = s.extract 1 s.size) :
    Calls Tryd.prog 9 #[.string s, .int .i64 64] w (FloatRet (strip s) w) := by
  have hU := fun W => under_none s W (by omega) (fun p hp => by rw [bt_eq s p hp]; exact ltr95 (hL p hp))
  have hN := fun W => foldL s tNan W hs hL (by decide) (by decide) (.inl (by decide))
  have hI := fun W => foldL (strip s) tInf W (by have := strip_size s; omega) (strip_ltr hL) (by decide) (by decide) (.inr (by decide))
  have hY := fun W => foldL (strip s) tInfy W (by have := strip_size s; omega) (strip_ltr hL) (by decide) (by decide) (.inr (by decide))
  have hR := fun W => read_any (strip s) W (by have := strip_size s; omega) (strip_ltr hL) (strip_few hF)
  unfold tNan at hN
  unfold tInf at hI
  unfold tInfy at hY
  rw [hst] at hI hY hR ⊢
  have he := emp_f (show s.size ≠ 0 by omega)
  have i1 := ixB0 s h0
  rw [h1] at i1
  clear hL hF h1 hst
  go_enter Tryd.func9, Tryd.ntmps9
  go_wp2_with (go_at_call 14; refine halt_H ?_)
  refine resume_H ?_
  refine (hN _).mono ?_
  rintro e w1 ⟨rfl, hw⟩
  obtain rfl := hw.symm
  clear hN
  go_wp2_with fail
  go_quiet (fail)
  go_wp2_with (go_at_call 17; refine halt_H ?_)
  refine resume_H ?_
  refine (formOf_any _).mono ?_
  rintro e w2 ⟨rfl, hb⟩
  unfold fmC
  have HB2 := Lib.hid (show Below w.heap.size w (w2.alloc (.cells fmC tF)) from ((((Below.drewK w.heap.size w nq).trans hb : Below w.heap.size w w2)).alloc hb.size _))
  have HBK := Lib.hid (Blk.new w2 tF fmC)
  have hsz : w.heap.size ≤ w2.heap.size := hb.size
  clear hb
  have g0 : (w2.alloc (.cells #[.int .i64 52, .int .i64 11, .int .i64 (-1023)] tF)).cell? ⟨w2.heap.size, 0, none⟩ = some (.int .i64 52) := (Blk.new w2 tF fmC).cell 0 rfl
  have g1 : (w2.alloc (.cells #[.int .i64 52, .int .i64 11, .int .i64 (-1023)] tF)).cell? ⟨w2.heap.size, 1, none⟩ = some (.int .i64 11) := (Blk.new w2 tF fmC).cell 1 rfl
  go_wp2_with (go_at_call 14; refine halt_H ?_)
  refine resume_H ?_
  refine (hI _).mono ?_
  rintro e w3 ⟨rfl, rfl⟩
  clear hI
  go_wp2_with (go_at_call 14; refine halt_H ?_)
  refine resume_H ?_
  refine (hY _).mono ?_
  rintro e w3 ⟨rfl, rfl⟩
  clear hY
  clear g0 g1
  go_wp2_with (go_at_call 19; refine halt_H ?_)
  refine resume_H ?_
  refine (hR _).mono ?_
  rintro e w4 (⟨hn, rfl, hb4⟩ | ⟨hn, b, v, ds, dp, rfl, hD, hg, hl, hdp, hb4⟩)
  all_goals
    clear hR
    have HNN := Lib.hid hn
    have HB4 := Lib.hid (HB2.out.trans (hb4.mono (by simp; omega)))
    have HBK4 := Lib.hid (HBK.out.below hb4 (by simp))
    clear hn hb4
  · go_wp2_with (go_at_call 21; refine halt_H ?_)
    refine resume_H ?_
    refine (fail_any _ _ _ _).mono ?_
    rintro e w5 ⟨⟨g, rfl⟩, hb5⟩
    have HB5 := Lib.hid (HB4.out.trans (hb5.mono HB4.out.size))
    clear hb5
    go_wp2
    go_ret2
    exact ⟨_, _, rfl, .inr ⟨HNN.out, _, _, rfl⟩, HB5.out⟩
  · have hT := BitsRet_any hD hg hl hdp
    clear hD hg hl hdp
    have g0 : w4.cell? ⟨w2.heap.size, 0, none⟩ = some (.int .i64 52) := HBK4.out.cell 0 rfl
    have g1 : w4.cell? ⟨w2.heap.size, 1, none⟩ = some (.int .i64 11) := HBK4.out.cell 1 rfl
    have g2 : w4.cell? ⟨w2.heap.size, 2, none⟩ = some (.int .i64 (-1023)) := HBK4.out.cell 2 rfl
    go_wp2_with (go_at_call 20; refine halt_H ?_)
    refine resume_H ?_
    refine (hU _).mono ?_
    rintro e w5 ⟨rfl, hw⟩
    obtain rfl := hw.symm
    clear hU
    go_wp2_with (go_at_call 22; refine halt_H ?_)
    refine resume_H ?_
    refine (hT).mono ?_
    rintro e w6 ⟨⟨m, rfl⟩, k6⟩
    clear hT g0 g1 g2
    have HBK6 := Lib.hid (k6.fr _ _ _ (by decide) (by decide) HBK4.out)
    have HB6 := Lib.hid (HB4.out.trans (k6.below.mono (by simp; omega)))
    clear k6
    have g0 : w6.cell? ⟨w2.heap.size, 0, none⟩ = some (.int .i64 52) := HBK6.out.cell 0 rfl
    have g1 : w6.cell? ⟨w2.heap.size, 1, none⟩ = some (.int .i64 11) := HBK6.out.cell 1 rfl
    have g2 : w6.cell? ⟨w2.heap.size, 2, none⟩ = some (.int .i64 (-1023)) := HBK6.out.cell 2 rfl
    go_wp2_with (go_at_call 18; refine halt_H ?_)
    refine resume_H ?_
    refine (float_any _ _).mono ?_
    rintro e w7 ⟨⟨x, rfl⟩, hb7⟩
    have HB7 := Lib.hid (HB6.out.trans (hb7.mono HB6.out.size))
    clear hb7 g0 g1 g2
    go_wp2
    go_ret2
    exact ⟨_, _, rfl, .inl ⟨rfl, HNN.out⟩, HB7.out⟩
end Go.Proofs.YtefjonnajjpajaaDoor
