/- The light ParseFloat, told by the text. Texts of at most 1000 bytes. -/
import Derived.Test.YtilkcnoooecngaaGreatDoorStP
import Derived.Test.YtilkcnoooecngaaGreatDoorBtU
import Derived.Test.YtilkcnoooecngaaGreatDoorBtRh
import Derived.StillTailTactics
namespace Go.Proofs.YtilkcnoooecngaaGreatDoor
open Go.RowKit
set_option linter.unusedVariables false
def LfRet (s : ByteArray) (w : World) (e : Ending) (w' : World) : Prop := Below w.heap.size w w' ∧ ∃ (x : Nat) (er : Value), e = .returned (.tuple #[.float .f64 x, er]) ∧ ((er = .nilIface ∧ PFv s (some x)) ∨ ((∃ ty v, er = .iface ty v) ∧ PFv s none))
theorem read_any (t : ByteArray) (w : World) (hs : t.size ≤ 1000) : Calls Tryz.prog 39 #[.string t] w fun e w' => ∃ res, ReadR t res ∧ RdRet res w e w' := by
  by_cases h : LHex t
  · refine (read_hex t _ w hs h rfl).mono ?_
    rintro e w' ⟨res, h1, h2⟩
    exact ⟨res, .inl ⟨h, h1⟩, h2⟩
  · refine (read_dec t w hs h).mono ?_
    exact fun e w' h2 => ⟨_, .inr ⟨h, rfl⟩, h2⟩
theorem foldR_true {s t : ByteArray} (h : FoldR s t true) : Folds s t := h.1 rfl
theorem foldR_false {s t : ByteArray} (h : FoldR s t false) : ¬ Folds s t := fun k => by have := h.2 k; cases this
set_option maxHeartbeats 4000000 in
set_option maxRecDepth 100000 in
theorem lf_any (s : ByteArray) (w : World) (hs : s.size ≤ 1000) :
    Calls Tryz.prog 21 #[.string s, .int .i64 64] w (LfRet s w) := by
  have hN := fun W => fold_any s wNan W hs
  unfold wNan at hN
  go_enter Tryz.func21, Tryz.ntmps21
  go_wp2_with (go_at_call 34; refine halt_H ?_)
  refine resume_H ?_
  refine (hN _).mono ?_
  rintro e w1 ⟨⟨bn, hbn, rfl⟩, hw⟩
  obtain rfl := hw.symm
  clear hN hw
  cases bn
  rotate_left
  · have HF := Lib.hid (show Folds s wNan from foldR_true hbn)
    clear hbn
    go_wp2_with (go_at_call 36; refine halt_H ?_)
    refine resume_H ?_
    refine (nan_any _).mono ?_
    rintro e w2 ⟨rfl, rfl⟩
    go_wp2
    go_ret2
    exact ⟨Below.refl _ _, _, _, rfl, .inl ⟨rfl, .inl ⟨HF.out, rfl⟩⟩⟩
  have HNN := Lib.hid (show ¬ Folds s wNan from foldR_false hbn)
  clear hbn
  obtain ⟨t, ht⟩ : ∃ t, stripB s = t := ⟨_, rfl⟩
  have HTt := Lib.hid ht
  have hts : t.size ≤ 1000 := by rw [← ht]; exact Nat.le_trans (stripB_size s) hs
  obtain ⟨ng, hng⟩ : ∃ b : Bool, b = decide (0 < s.size ∧ bt s 0 = 45) := ⟨_, rfl⟩
  have HNG := Lib.hid hng
  have HCs := Lib.hid (stripB_cases s)
  rw [ht] at HCs
  clear ht hng
  obtain ⟨bs, hbs⟩ : ∃ b : Bool, b = decide (0 < s.size ∧ (bt s 0 = 43 ∨ bt s 0 = 45)) := ⟨_, rfl⟩
  have HBs := Lib.hid hbs
  clear hbs
  go_upto_region 6 with fail
  go_cut [33] (fun a wx => a = .bool bs ∧ wx = w)
  case first =>
    as_aux_lemma =>
    by_cases h0 : s.size = 0
    · have he := emp_t h0
      have HX := Lib.hid (show bs = false by rw [HBs.out]; exact decide_eq_false (by omega))
      go_wp2_with fail
      go_meet
      exact ⟨by rw [HX.out], rfl⟩
    · have he := emp_f h0
      have i1 := ixB0 s (by omega)
      by_cases h43 : bt s 0 = 43
      · have HX := Lib.hid (show bs = true by rw [HBs.out]; exact decide_eq_true ⟨by omega, .inl h43⟩)
        rw [h43] at i1
        clear h43
        go_wp2_with fail
        go_meet
        exact ⟨by rw [HX.out], rfl⟩
      · have q1 : (((bt s 0 : Nat) : Int) == 43) = false := by rw [beq_eq_false_iff_ne]; omega
        have HX := Lib.hid (show (((bt s 0 : Nat) : Int) == 45) = bs by
          rw [HBs.out]
          by_cases h : bt s 0 = 45
          · rw [decide_eq_true ⟨by omega, .inr h⟩, h]; rfl
          · rw [decide_eq_false (fun k => k.2.elim h43 h), beq_eq_false_iff_ne]; omega)
        clear h43
        generalize bt s 0 = y at i1 q1 HX
        go_wp2_with fail
        go_meet
        exact ⟨by rw [← HX.out], rfl⟩
  case rest =>
  as_aux_lemma =>
  obtain ⟨rfl, rfl⟩ := hcut
  obtain ⟨w, rfl⟩ : ∃ z : World, z = wc := ⟨_, rfl⟩
  go_upto_if 33 with fail
  go_cut [6, 7] (fun a b wx => a = .string t ∧ b = .bool ng ∧ ∃ k, wx = w.drewN k)
  case first =>
    as_aux_lemma =>
    cases bs
    · have HX := Lib.hid (show t = s ∧ ng = false from by
        have hno := of_decide_eq_false HBs.out.symm
        refine ⟨?_, by rw [HNG.out]; exact decide_eq_false (fun h => hno ⟨h.1, .inr h.2⟩)⟩
        rcases HCs.out with ⟨h0, h1⟩ | ⟨h0, h1, h2⟩ | ⟨h0, h1, h2⟩ | ⟨h0, h1, h2, h3⟩
        · exact h1
        · exact absurd ⟨h0, .inl h1⟩ hno
        · exact absurd ⟨h0, .inr h1⟩ hno
        · exact h3)
      go_wp2_with fail
      go_meet
      exact ⟨by rw [HX.out.1], by rw [HX.out.2], 0, rfl⟩
    · have hyes := of_decide_eq_true HBs.out.symm
      have h0 := hyes.1
      have i1 := ixB0 s h0
      have HX := Lib.hid (show t = s.extract 1 s.size ∧ (((bt s 0 : Nat) : Int) == 45) = ng from by
        refine ⟨?_, by
          rw [HNG.out]
          by_cases h : bt s 0 = 45
          · rw [decide_eq_true ⟨h0, h⟩, h]; rfl
          · rw [decide_eq_false (fun k => h k.2), beq_eq_false_iff_ne]; omega⟩
        rcases HCs.out with ⟨h0, h1⟩ | ⟨h0, h1, h2⟩ | ⟨h0, h1, h2⟩ | ⟨h0, h1, h2, h3⟩
        · omega
        · exact h2
        · exact h2
        · exact absurd hyes.2 (by rintro (h | h); exact h1 h; exact h2 h))
      have hsl := fun W => slice_str_lo Tryz.underlying9 s 1 1 rfl (by omega) W
      clear hyes
      generalize bt s 0 = y at i1 HX
      go_wp2_with fail
      go_quiet (fail)
      go_wp2_with fail
      go_meet
      exact ⟨by rw [HX.out.1], by rw [← HX.out.2], _, rfl⟩
  case rest =>
  as_aux_lemma =>
  obtain ⟨rfl, rfl, k0, rfl⟩ := hcut
  have HB0 := Lib.hid (Below.drewK w.heap.size w k0)
  obtain ⟨w0, hw0⟩ : ∃ z : World, z = w.drewN k0 := ⟨_, rfl⟩
  rw [← hw0] at HB0 ⊢
  clear hw0 HCs
  go_wp2_with (go_at_call 37; refine halt_H ?_)
  refine resume_H ?_
  refine (formOf_any _).mono ?_
  rintro e w2 ⟨rfl, hb⟩
  unfold fmC
  have HB2 := Lib.hid (show Below w.heap.size w (w2.alloc (.cells #[.int .i64 52, .int .i64 11, .int .i64 (-1023)] tF)) from ((HB0.out.trans (hb.mono HB0.out.size) : Below w.heap.size w w2)).alloc (HB0.out.trans (hb.mono HB0.out.size)).size _)
  have HBK := Lib.hid (show Blk (w2.alloc (.cells #[.int .i64 52, .int .i64 11, .int .i64 (-1023)] tF)) w2.heap.size tF #[.int .i64 52, .int .i64 11, .int .i64 (-1023)] from Blk.new w2 tF fmC)
  have hsz : w.heap.size ≤ w2.heap.size := (HB0.out.trans (hb.mono HB0.out.size)).size
  obtain ⟨sgv, hsgv⟩ : ∃ x, sgN (bt s) s.size = x := ⟨_, rfl⟩
  have HSg := Lib.hid (show sgv = if ng = true then 9223372036854775808 else 0 by
    rw [← hsgv, HNG.out]
    unfold sgN
    by_cases h : 0 < s.size ∧ bt s 0 = 45
    · rw [if_pos h, if_pos (decide_eq_true h)]
    · rw [if_neg h, if_neg (by rw [decide_eq_false h]; decide)])
  have HSv := Lib.hid hsgv
  clear hb HB0 hsgv
  have g0 := HBK.out.cell 0 (v := .int .i64 52) rfl
  have g1 := HBK.out.cell 1 (v := .int .i64 11) rfl
  have g2 := HBK.out.cell 2 (v := .int .i64 (-1023)) rfl
  go_upto_if 41 with fail
  go_cut [9] (fun a wx => a = .int .u64 (sgv : Int) ∧ wx = w2.alloc (.cells #[.int .i64 52, .int .i64 11, .int .i64 (-1023)] tF))
  case first =>
    as_aux_lemma =>
    cases ng
    · have HX := Lib.hid (show sgv = 0 by rw [HSg.out]; rfl)
      go_wp2_with fail
      go_meet
      exact ⟨by rw [HX.out]; rfl, rfl⟩
    · have HX := Lib.hid (show sgv = 9223372036854775808 by rw [HSg.out]; rfl)
      go_wp2_with fail
      go_meet
      exact ⟨by rw [HX.out]; rfl, rfl⟩
  case rest =>
  as_aux_lemma =>
  obtain ⟨rfl, rfl⟩ := hcut
  have hcw : w2.heap.size < (w2.alloc (.cells #[.int .i64 52, .int .i64 11, .int .i64 (-1023)] tF)).heap.size := by simp
  generalize w2.alloc (.cells #[.int .i64 52, .int .i64 11, .int .i64 (-1023)] tF) = w3 at *
  generalize w2.heap.size = cb at *
  have hI := fun W => fold_any t wInf W hts
  unfold wInf at hI
  go_wp2_with (go_at_call 34; refine halt_H ?_)
  refine resume_H ?_
  refine (hI _).mono ?_
  rintro e w4 ⟨⟨bi, hbi, rfl⟩, hw⟩
  obtain rfl := hw.symm
  clear hI hw
  cases bi
  rotate_left
  · have HInf := Lib.hid (show InfT t from .inl (foldR_true hbi))
    clear hbi
    go_wp2_with fail
    go_still_tail 10, (by kernel_rfl)
    go_wp2_with (go_at_call 38; refine halt_H ?_)
    refine resume_H ?_
    refine (float_any _ _).mono ?_
    rintro e w7 ⟨rfl, hb7⟩
    have HB7 := Lib.hid ((HB2.out.trans (Below.drewK _ _ 1)).trans (hb7.mono HB2.out.size))
    clear hb7 g0 g1 g2
    go_wp2
    go_ret2
    exact ⟨HB7.out, _, _, rfl, .inl ⟨rfl, .inr (.inl ⟨HNN.out, by rw [HTt.out]; exact HInf.out, by unfold fltV infN; rw [HSv.out]⟩)⟩⟩
  have hY := fun W => fold_any t wInfy W hts
  unfold wInfy at hY
  have HNI := Lib.hid (show ¬ Folds t wInf from foldR_false hbi)
  clear hbi
  go_wp2_with (go_at_call 34; refine halt_H ?_)
  refine resume_H ?_
  refine (hY _).mono ?_
  rintro e w4 ⟨⟨by2, hby, rfl⟩, hw⟩
  obtain rfl := hw.symm
  clear hY hw
  cases by2
  rotate_left
  · have HInf := Lib.hid (show InfT t from .inr (foldR_true hby))
    clear hby
    go_wp2_with fail
    go_still_tail 10, (by kernel_rfl)
    go_wp2_with (go_at_call 38; refine halt_H ?_)
    refine resume_H ?_
    refine (float_any _ _).mono ?_
    rintro e w7 ⟨rfl, hb7⟩
    have HB7 := Lib.hid ((HB2.out.trans (Below.drewK _ _ 1)).trans (hb7.mono HB2.out.size))
    clear hb7 g0 g1 g2
    go_wp2
    go_ret2
    exact ⟨HB7.out, _, _, rfl, .inl ⟨rfl, .inr (.inl ⟨HNN.out, by rw [HTt.out]; exact HInf.out, by unfold fltV infN; rw [HSv.out]⟩)⟩⟩
  have HNI2 := Lib.hid (show ¬ InfT t from fun k => k.elim HNI.out (foldR_false hby))
  have hR := fun W => read_any t W hts
  clear hby HNI
  go_wp2_with (go_at_call 39; refine halt_H ?_)
  refine resume_H ?_
  refine (hR _).mono ?_
  rintro e w4 ⟨res, hRR, hret⟩
  have HRR := Lib.hid hRR
  clear hR hRR
  rcases hret with ⟨hn, rfl, hb4⟩ | ⟨b, v, ds, dp, hn, rfl, hD, hg, hl, hdp, hb4⟩
  all_goals
    have HNN2 := Lib.hid hn
    have HB4 := Lib.hid (HB2.out.trans (hb4.mono HB2.out.size))
    have HBK4 := Lib.hid (HBK.out.below hb4 hcw)
    clear hn g0 g1 g2
  · clear hb4
    go_wp2_with (go_at_call 41; refine halt_H ?_)
    refine resume_H ?_
    refine (fail_any _ _ _ _).mono ?_
    rintro e w5 ⟨⟨g, rfl⟩, hb5⟩
    have HB5 := Lib.hid (HB4.out.trans (hb5.mono HB4.out.size))
    clear hb5
    go_wp2
    go_ret2
    exact ⟨HB5.out, _, _, rfl, .inr ⟨⟨_, _, rfl⟩, .inr (.inr ⟨HNN.out, by rw [HTt.out]; exact HNI2.out, res, by rw [HTt.out]; exact HRR.out, .inl ⟨HNN2.out, rfl⟩⟩)⟩⟩
  · clear hb4
    have hU := fun W => us_any s W hs
    obtain ⟨bu, hbu⟩ : ∃ b, usOk s = b := ⟨_, rfl⟩
    simp only [hbu] at hU
    have HBU := Lib.hid hbu
    have hT := bits_any _ b v ds dp w4 hD hg hl ⟨by omega, by omega⟩
    clear hbu hD hg hl hdp
    have g0 := HBK4.out.cell 0 (v := .int .i64 52) rfl
    have g1 := HBK4.out.cell 1 (v := .int .i64 11) rfl
    have g2 := HBK4.out.cell 2 (v := .int .i64 (-1023)) rfl
    go_wp2_with (go_at_call 40; refine halt_H ?_)
    refine resume_H ?_
    refine (hU _).mono ?_
    rintro e w5 ⟨rfl, hw⟩
    obtain rfl := hw.symm
    clear hU hw
    cases bu
    · clear hT g0 g1 g2
      go_wp2_with (go_at_call 41; refine halt_H ?_)
      refine resume_H ?_
      refine (fail_any _ _ _ _).mono ?_
      rintro e w6 ⟨⟨g, rfl⟩, hb6⟩
      have HB6 := Lib.hid (HB4.out.trans (hb6.mono HB4.out.size))
      clear hb6
      go_wp2
      go_ret2
      exact ⟨HB6.out, _, _, rfl, .inr ⟨⟨_, _, rfl⟩, .inr (.inr ⟨HNN.out, by rw [HTt.out]; exact HNI2.out, res, by rw [HTt.out]; exact HRR.out, .inr ⟨ds, dp, HNN2.out, .inl ⟨HBU.out, rfl⟩⟩⟩)⟩⟩
    · go_wp2_with (go_at_call 42; refine halt_H ?_)
      refine resume_H ?_
      refine (hT).mono ?_
      rintro e w6 ⟨⟨m, ov, hbr, rfl⟩, k6⟩
      have HBr := Lib.hid hbr
      clear hT g0 g1 g2 hbr
      have HBK6 := Lib.hid (k6.fr _ _ _ (by decide) (by decide) HBK4.out)
      have HB6 := Lib.hid (HB4.out.trans (k6.below.mono HB2.out.size))
      clear k6
      have g0 := HBK6.out.cell 0 (v := .int .i64 52) rfl
      have g1 := HBK6.out.cell 1 (v := .int .i64 11) rfl
      have g2 := HBK6.out.cell 2 (v := .int .i64 (-1023)) rfl
      cases ov
      · go_wp2_with (go_at_call 38; refine halt_H ?_)
        refine resume_H ?_
        refine (float_any _ _).mono ?_
        rintro e w7 ⟨rfl, hb7⟩
        have HB7 := Lib.hid (HB6.out.trans (hb7.mono HB6.out.size))
        clear hb7 g0 g1 g2
        go_wp2
        go_ret2
        exact ⟨HB7.out, _, _, rfl, .inl ⟨rfl, .inr (.inr ⟨HNN.out, by rw [HTt.out]; exact HNI2.out, res, by rw [HTt.out]; exact HRR.out, .inr ⟨ds, dp, HNN2.out, .inr ⟨HBU.out, m, false, HBr.out, .inr ⟨rfl, by unfold fltV; rw [HSv.out]⟩⟩⟩⟩)⟩⟩
      · go_wp2_with (go_at_call 38; refine halt_H ?_)
        refine resume_H ?_
        refine (float_any _ _).mono ?_
        rintro e w7 ⟨rfl, hb7⟩
        have HB7 := Lib.hid (HB6.out.trans (hb7.mono HB6.out.size))
        clear hb7 g0 g1 g2
        go_wp2_with (go_at_call 41; refine halt_H ?_)
        refine resume_H ?_
        refine (fail_any _ _ _ _).mono ?_
        rintro e w8 ⟨⟨g, rfl⟩, hb8⟩
        have HB8 := Lib.hid (HB7.out.trans (hb8.mono HB7.out.size))
        clear hb8
        go_wp2
        go_ret2
        exact ⟨HB8.out, _, _, rfl, .inr ⟨⟨_, _, rfl⟩, .inr (.inr ⟨HNN.out, by rw [HTt.out]; exact HNI2.out, res, by rw [HTt.out]; exact HRR.out, .inr ⟨ds, dp, HNN2.out, .inr ⟨HBU.out, m, true, HBr.out, .inl ⟨rfl, rfl⟩⟩⟩⟩)⟩⟩
end Go.Proofs.YtilkcnoooecngaaGreatDoor
