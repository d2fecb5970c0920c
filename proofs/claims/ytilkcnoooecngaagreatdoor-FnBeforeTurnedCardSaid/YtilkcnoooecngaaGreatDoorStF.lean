/- Go's own ParseFloat, spec.Number and spec.Nan. Texts of at most 800 bytes. -/
import Derived.Test.YtilkcnoooecngaaGreatDoorStA
import Derived.Test.YtilkcnoooecngaaGreatDoorErP
import Derived.WideLaws
namespace Go.Proofs.YtilkcnoooecngaaGreatDoor
open Go.RowKit
set_option linter.unusedVariables false
set_option maxHeartbeats 1000000 in
theorem pfx_any (s : ByteArray) (w : World) (hs : s.size ≤ 800) (hL : SLaid w) : Calls Tryz.prog 15 #[.string s, .int .i64 64] w (SaRet s w) := by
  have hT := sa_any s w hs hL
  go_enter Tryz.func15, Tryz.ntmps15
  go_wp2_with (go_at_call 24; refine halt_H ?_)
  refine resume_H ?_
  refine hT.mono ?_
  rintro e w1 ⟨hb, f, n, er, rfl, h⟩
  have HB := Lib.hid hb
  have HH := Lib.hid h
  clear hT hb h
  go_wp2
  go_ret3
  exact ⟨HB.out, f, n, er, rfl, HH.out⟩
/-- What Go's own ParseFloat answers, as far as it matters. -/
def SiRet (s : ByteArray) (w : World) (e : Ending) (w' : World) : Prop := Below w.heap.size w w' ∧ ∃ (f : Nat) (er : Value), e = .returned (.tuple #[.float .f64 f, er]) ∧ ErOk er ∧ (er = .nilIface → GoodS s) ∧ (Folds s wNan → er = .nilIface ∧ f = NANB)
set_option maxHeartbeats 1000000 in
theorem ipf_any (s : ByteArray) (w : World) (hs : s.size ≤ 800) (hL : SLaid w) : Calls Tryz.prog 10 #[.string s, .int .i64 64] w (SiRet s w) := by
  have hT := pfx_any s w hs hL
  obtain ⟨m, hm⟩ : ∃ m, s.size = m := ⟨_, rfl⟩
  have HM := Lib.hid hm
  go_enter Tryz.func10, Tryz.ntmps10
  go_wp2_with (go_at_call 15; refine halt_H ?_)
  refine resume_H ?_
  refine hT.mono ?_
  rintro e w1 ⟨hb, f, n, er, rfl, h1, h2, h3, h4⟩
  have HB := Lib.hid hb
  have H1 := Lib.hid h1
  have H3 := Lib.hid h3
  have H4 := Lib.hid h4
  clear hT hb h1 h3 h4
  by_cases hn : n = m
  · have e0 : ((n : Int) != (m : Int)) = false := by rw [hn]; simp
    have HG := Lib.hid (show er = .nilIface → GoodS s from fun he => H3.out he (by rw [HM.out]; exact hn))
    clear hn
    go_wp2
    go_ret2
    exact ⟨HB.out, f, er, rfl, H1.out, HG.out, fun hf => ⟨(H4.out hf).1, (H4.out hf).2.2⟩⟩
  · have e0 : ((n : Int) != (m : Int)) = true := by rw [bne_iff_ne]; omega
    have HN := Lib.hid (show ¬ Folds s wNan from fun hf => hn (by
      have h5 := (H4.out hf).2.1
      have h6 : s.size = 3 := hf.1
      rw [← HM.out, h6, h5]))
    clear hn
    go_wp2
    go_ret2
    exact ⟨HB.out, 0, eSyn, rfl, .inr (.inr rfl), fun h => (by cases h), fun hf => absurd hf HN.out⟩
def ToRet (w : World) (e : Ending) (w' : World) : Prop := (∃ ty v, e = .returned (.iface ty v)) ∧ Below w.heap.size w w'
theorem eq_22 (W : World) : (binOp .eql 35 eSyn eSyn).run Tryz.prog W = .ok (.bool true) W := by kernel_rfl
theorem eq_12 (W : World) : (binOp .eql 35 eRange eSyn).run Tryz.prog W = .ok (.bool false) W := by kernel_rfl
theorem eq_11 (W : World) : (binOp .eql 35 eRange eRange).run Tryz.prog W = .ok (.bool true) W := by kernel_rfl
set_option maxHeartbeats 1000000 in
theorem toe_any (fn s : ByteArray) (er : Value) (w : World) (hs : s.size ≤ 800) (hL : SLaid w) (he : er = eRange ∨ er = eSyn) : Calls Tryz.prog 11 #[.string fn, .string s, .int .i64 0, .int .i64 64, er] w (ToRet w) := by
  have e22 := eq_22
  have e12 := eq_12
  have e11 := eq_11
  rcases he with rfl | rfl
  · obtain ⟨ev, h1, h2⟩ := hL.e1
    have hT := ran_any fn s ev w (by omega) h1 h2
    clear h1 h2 hL
    go_enter Tryz.func11, Tryz.ntmps11
    go_wp2_with (go_at_call 17; refine halt_H ?_)
    refine resume_H ?_
    refine hT.mono ?_
    rintro e w1 ⟨⟨N, rfl⟩, hb⟩
    have HB := Lib.hid hb
    clear hT hb
    go_wp2
    go_ret
    exact ⟨⟨_, _, rfl⟩, HB.out⟩
  · obtain ⟨ev, h1, h2⟩ := hL.e0
    have hT := syn_any fn s ev w (by omega) h1 h2
    clear h1 h2 hL
    go_enter Tryz.func11, Tryz.ntmps11
    go_wp2_with (go_at_call 16; refine halt_H ?_)
    refine resume_H ?_
    refine hT.mono ?_
    rintro e w1 ⟨⟨N, rfl⟩, hb⟩
    have HB := Lib.hid hb
    clear hT hb
    go_wp2
    go_ret
    exact ⟨⟨_, _, rfl⟩, HB.out⟩
def SpfRet (s : ByteArray) (w : World) (e : Ending) (w' : World) : Prop := Below w.heap.size w w' ∧ ∃ (f : Nat) (er : Value), e = .returned (.tuple #[.float .f64 f, er]) ∧ IsErr er ∧ (er = .nilIface → GoodS s) ∧ (Folds s wNan → er = .nilIface ∧ f = NANB)
set_option maxHeartbeats 2000000 in
theorem spf_any (s : ByteArray) (w : World) (hs : s.size ≤ 800) (hL : SLaid w) : Calls Tryz.prog 8 #[.string s, .int .i64 64] w (SpfRet s w) := by
  have hT := ipf_any s w hs hL
  have HL := Lib.hid hL
  clear hL
  go_enter Tryz.func8, Tryz.ntmps8
  go_wp2_with (go_at_call 10; refine halt_H ?_)
  refine resume_H ?_
  refine hT.mono ?_
  rintro e w1 ⟨hb, f, er, rfl, h1, h3, h4⟩
  have HB := Lib.hid hb
  have HL1 := Lib.hid (HL.out.below hb)
  have H3 := Lib.hid h3
  have H4 := Lib.hid h4
  clear hT hb h3 h4
  have key : ∀ er2, (er2 = eRange ∨ er2 = eSyn) → er = er2 → ¬ Folds s wNan := fun er2 h h' hf => by
    have := (H4.out hf).1
    rw [h'] at this
    rcases h with h | h <;> rw [h] at this <;> cases this
  rcases h1 with rfl | h1
  · clear key
    go_wp2
    go_ret2
    exact ⟨HB.out, f, .nilIface, rfl, .inl rfl, fun _ => H3.out (by first | rfl | trivial), fun hf => ⟨rfl, (H4.out hf).2⟩⟩
  · have HN := Lib.hid (key er h1 rfl)
    have hT := toe_any ⟨#[80, 97, 114, 115, 101, 70, 108, 111, 97, 116]⟩ s er w1 hs HL1.out h1
    clear key H3 H4
    rcases h1 with rfl | rfl
    all_goals
      go_wp2_with (go_at_call 11; refine halt_H ?_)
      refine resume_H ?_
      refine hT.mono ?_
      rintro e w2 ⟨⟨ty, v, rfl⟩, hb2⟩
      have HB2 := Lib.hid (HB.out.trans (hb2.mono HB.out.size))
      clear hT hb2
      go_wp2
      go_ret2
      exact ⟨HB2.out, f, .iface ty v, rfl, .inr ⟨_, _, rfl⟩, fun h => (by cases h), fun hf => absurd hf HN.out⟩
/-- spec.Number. -/
def NmRet (s : ByteArray) (w : World) (e : Ending) (w' : World) : Prop := Below w.heap.size w w' ∧ ∃ (f : Nat) (ok : Bool), e = .returned (.tuple #[.float .f64 f, .bool ok]) ∧ (ok = true → GoodS s) ∧ (Folds s wNan → ok = true ∧ f = NANB)
set_option maxHeartbeats 2000000 in
theorem num_any (s : ByteArray) (w : World) (hs : s.size ≤ 800) (hL : SLaid w) : Calls Tryz.prog 5 #[.string s] w (NmRet s w) := by
  have hT := spf_any s w hs hL
  clear hL
  go_enter Tryz.func5, Tryz.ntmps5
  go_wp2_with (go_at_call 8; refine halt_H ?_)
  refine resume_H ?_
  refine hT.mono ?_
  rintro e w1 ⟨hb, f, er, rfl, h1, h3, h4⟩
  have HB := Lib.hid hb
  have H3 := Lib.hid h3
  have H4 := Lib.hid h4
  clear hT hb h3 h4
  rcases h1 with rfl | ⟨ty, v, rfl⟩
  · go_wp2_with fail
    go_quiet (fail)
    go_wp2
    go_ret2
    exact ⟨HB.out.trans ((Below.drewK _ _ _).mono HB.out.size), f, true, rfl, fun _ => H3.out (by first | rfl | trivial), fun hf => ⟨rfl, (H4.out hf).2⟩⟩
  · have HN := Lib.hid (show ¬ Folds s wNan from fun hf => by have := (H4.out hf).1; cases this)
    clear H3 H4
    go_wp2_with fail
    go_quiet (fail)
    go_wp2
    go_ret2
    exact ⟨HB.out.trans ((Below.drewK _ _ _).mono HB.out.size), f, false, rfl, fun h => (by cases h), fun hf => absurd hf HN.out⟩
def NaRet (s : ByteArray) (w : World) (e : Ending) (w' : World) : Prop := Below w.heap.size w w' ∧ ∃ b : Bool, e = .returned (.bool b) ∧ (Folds s wNan → b = true)
set_option maxHeartbeats 2000000 in
theorem nanS_any (s : ByteArray) (w : World) (hs : s.size ≤ 800) (hL : SLaid w) : Calls Tryz.prog 6 #[.string s] w (NaRet s w) := by
  have hT := num_any s w hs hL
  clear hL
  go_enter Tryz.func6, Tryz.ntmps6
  go_wp2_with (go_at_call 5; refine halt_H ?_)
  refine resume_H ?_
  refine hT.mono ?_
  rintro e w1 ⟨hb, f, ok, rfl, h3, h4⟩
  have HB := Lib.hid hb
  have H4 := Lib.hid h4
  clear hT hb h3 h4
  obtain ⟨bq, hbq⟩ : ∃ b, (FloatKind.f64.format.order f f != some Ordering.eq) = b := ⟨_, rfl⟩
  have HBq := Lib.hid hbq
  cases ok
  · have HN := Lib.hid (show ¬ Folds s wNan from fun hf => by have := (H4.out hf).1; cases this)
    go_wp2
    go_ret
    exact ⟨HB.out, false, rfl, fun hf => absurd hf HN.out⟩
  · have HX := Lib.hid (show Folds s wNan → bq = true from fun hf => by
      have h1 := (H4.out hf).2
      have h2 := nan_ord (y := f) (h1 ▸ nanb_nan : IsNan f)
      unfold ord at h2
      rw [← HBq.out, h2]
      rfl)
    go_wp2
    go_ret
    exact ⟨HB.out, bq, rfl, HX.out⟩
end Go.Proofs.YtilkcnoooecngaaGreatDoor
