/- Go's own floatBits, walked: at least TT: it overflows. -/
import Derived.Test.YtilkcnoooecngaaGreatDoorSdM
namespace Go.Proofs.YtilkcnoooecngaaGreatDoor
open Go.RowKit
set_option linter.unusedVariables false
def FbRet (b : Nat) (l : List Nat) (dp : Int) (w : World) (e : Ending) (w' : World) : Prop :=
  (∃ (z : Int) (ov : Bool), e = .returned (.tuple #[.int .u64 z, .bool ov]) ∧ 0 ≤ z ∧ z < 18446744073709551616 ∧ (GeT (l, dp) → ov = true)) ∧ Put w w' b
theorem bits_or_rng (x y : Int) : 0 ≤ bits .or .u64 x y ∧ bits .or .u64 x y < 18446744073709551616 := by
  show 0 ≤ IntKind.u64.wrap _ ∧ IntKind.u64.wrap _ < _
  rw [IntKind.wrap_u64]
  omega
set_option maxHeartbeats 8000000 in
set_option maxRecDepth 100000 in
theorem fb_any {b pb po pc cb co cap : Nat} {l : List Nat} {dp : Int} {ng : Bool} {w : World} (h : SDL w b l dp ng) (hF : SFb w pb po pc cb co cap) (hx : SFx b pb cb) (hdp : -1000000 ≤ dp ∧ dp ≤ 1000000) :
    Calls Tryz.prog 51 #[.pointer (some ⟨b, 0, none⟩), .pointer (some ⟨4, 0, none⟩)] w (FbRet b l dp w) := by
  have f0 := h.cnd
  have f1 := h.cdp
  have i0 := hF.i0
  have i1 := hF.i1
  have i2 := hF.i2
  obtain ⟨hp1, hp2⟩ := h.pos
  have HG0 := Lib.hid h.good
  have HDP := Lib.hid hdp
  obtain ⟨L, hL⟩ : ∃ L, l.length = L := ⟨_, rfl⟩
  rw [hL] at f0 hp1 hp2
  have HD := Lib.hid h
  have HF := Lib.hid hF
  have HX := Lib.hid hx
  clear h hF hx hL
  have f3 := HD.out.cng
  have e0 : ((L : Int) == 0) = false := by rw [beq_eq_false_iff_ne]; omega
  clear hp1 hp2
  have HK := Lib.hid (Put.refl w b)
  go_enter Tryz.func51, Tryz.ntmps51
  go_wp2
  refine wp_scope_two rfl rfl ?_
  by_cases h310 : dp > 310
  · go_wp2
    go_step3
    refine jumps_one ?_
    go_wp2_with fail
    go_quiet (fail)
    go_wp2_with fail
    go_step3
    go_wp2_with fail
    go_quiet (fail)
    cases ng
    · go_wp2_with fail
      refine ret_A ?_
      go_ret2
      exact ⟨⟨_, true, rfl, by first | exact (bits_or_rng _ _).1 | decide, by first | exact (bits_or_rng _ _).2 | decide, fun _ => rfl⟩, by repeat' (first | exact HK.out | refine Put.drewN ?_ _)⟩
    · go_wp2_with fail
      go_quiet (fail)
      go_wp2_with fail
      refine ret_A ?_
      go_ret2
      exact ⟨⟨_, true, rfl, by first | exact (bits_or_rng _ _).1 | decide, by first | exact (bits_or_rng _ _).2 | decide, fun _ => rfl⟩, by repeat' (first | exact HK.out | refine Put.drewN ?_ _)⟩
  · by_cases h330 : dp < -330
    · have HNG := Lib.hid (show ¬ GeT (l, dp) from not_geT HG0.out (by omega))
      go_wp2
      go_step3
      refine jumps_zero ?_
      go_wp2_with fail
      go_quiet (fail)
      cases ng
      · go_wp2
        go_ret2
        exact ⟨⟨_, false, rfl, by first | exact (bits_or_rng _ _).1 | decide, by first | exact (bits_or_rng _ _).2 | decide, fun q => absurd q HNG.out⟩, by repeat' (first | exact HK.out | refine Put.drewN ?_ _)⟩
      · go_wp2_with fail
        go_quiet (fail)
        go_wp2
        go_ret2
        exact ⟨⟨_, false, rfl, by first | exact (bits_or_rng _ _).1 | decide, by first | exact (bits_or_rng _ _).2 | decide, fun q => absurd q HNG.out⟩, by repeat' (first | exact HK.out | refine Put.drewN ?_ _)⟩
    · have HI := Lib.hid (Inv1.first (l := l) (dp := dp) HG0.out (by omega) (by omega))
      have HI0 := Lib.hid (show m1 dp (hd l) ≤ m1 dp (hd l) from Nat.le_refl _)
      go_wp2_with fail
      go_loopg [6] (m1 dp (hd l)) (fun g ev wr => ∃ (l1 : List Nat) (dp1 E : Int), ev = .int .i64 E ∧ Hid (Inv1 (l, dp) (l1, dp1) E) ∧ Hid (SDL wr b l1 dp1 ng) ∧ Hid (SFb wr pb po pc cb co cap) ∧ Hid (Put w wr b) ∧ Hid (m1 dp1 (hd l1) ≤ g))
      case atStart => exact ⟨l, dp, 0, rfl, HI, HD, HF, HK, HI0⟩
      case round =>
        clear f0 f1 f3 i0 i1 i2 e0 h310 h330 HI HD HF HK HI0
        obtain ⟨l1, dp1, E, rfl, HI, HD, HF, HK, HM⟩ := hrel
        obtain ⟨wr, rfl⟩ : ∃ wz : World, wz = wr := ⟨_, rfl⟩
        have f1 := HD.out.cdp
        by_cases h1 : 1 ≤ dp1
        · have c0 : decide (dp1 > 0) = true := decide_eq_true (by omega)
          obtain ⟨d, rfl⟩ : ∃ d : Nat, dp1 = d := ⟨dp1.toNat, by omega⟩
          have p0 := HF.out.pv
          have hE := And.intro HI.out.e0 HI.out.e1
          obtain ⟨hE0, hE1⟩ := hE
          have hd3 : d ≤ 310 := by have := HI.out.hi; simp only at this; omega
          obtain ⟨bd, hbd⟩ : ∃ bd, decide ((d : Int) ≥ 9) = bd := ⟨_, rfl⟩
          have HB := Lib.hid hbd
          go_upto_region 13 with fail
          go_cut [46] (fun x wx => x = .bool bd ∧ ∃ m, wx = wr.drewN m)
          case first =>
            as_aux_lemma =>
            go_quiet (fail)
            go_wp2_with fail
            go_meet
            exact ⟨by rw [← HB.out], _, rfl⟩
          case rest =>
          obtain ⟨rfl, m0, rfl⟩ := hcut
          obtain ⟨k, hk⟩ : ∃ k, powN d = k := ⟨_, rfl⟩
          obtain ⟨hk1, hk2, hk3⟩ := powN_ok (d := d) (by omega)
          rw [hk] at hk1 hk2 hk3
          have HKd := Lib.hid hk
          clear hk hbd
          go_upto_if 46 with fail
          go_cut [8] (fun x wx => x = .int .i64 (k : Int) ∧ ∃ m, wx = wr.drewN m)
          case first =>
            as_aux_lemma =>
            cases bd
            · have hd9 : d < 9 := by have := of_decide_eq_false HB.out; omega
              have p1 := HF.out.pt d hd9
              have HKt := Lib.hid (show ptab d = k by rw [← HKd.out]; unfold powN; rw [if_neg (by omega)])
              rw [HKt.out] at p1
              go_wp2_with fail
              go_quiet (fail)
              go_wp2_with fail
              go_meet
              exact ⟨rfl, _, World.drewN_drewN _ _ _⟩
            · have HKt := Lib.hid (show k = 27 by rw [← HKd.out]; unfold powN; rw [if_pos (by have := of_decide_eq_true HB.out; omega)])
              go_wp2_with fail
              go_meet
              exact ⟨by rw [HKt.out]; rfl, _, rfl⟩
          case rest =>
          obtain ⟨rfl, m1', rfl⟩ := hcut
          clear p0 f1
          have hT := sshr_any (k := k) (HD.out.drewN m1') (by omega) (by omega) ⟨by omega, by omega⟩
          go_wp2_with (go_at_call 86; refine halt_H ?_)
          refine resume_H ?_
          refine hT.mono ?_
          rintro e w2 ⟨rfl, p, l2, dp2, hR, _, _, hD2⟩
          have hst := HI.out.step HD.out.good (by simp only; omega) (by rw [Int.toNat_natCast, HKd.out]; exact hR (by omega))
          rw [Int.toNat_natCast, HKd.out] at hst
          have HI2 := Lib.hid hst.1
          have HM2 := Lib.hid (Nat.lt_of_lt_of_le hst.2 HM.out)
          have HK2 := Lib.hid ((HK.out.drewN m1').trans p)
          have HF2 := Lib.hid ((HF.out.drewN m1').put p HX.out)
          have HD2 := Lib.hid hD2
          clear hT p hR hD2 hst
          go_wp2_with fail
          go_roundg (m1 dp2 (hd l2))
          case rel => exact ⟨l2, dp2, _, rfl, HI2, HD2, HF2, HK2, Lib.hid (Nat.le_refl _)⟩
          case measure => exact HM2.out
        · have c0 : decide (dp1 > 0) = false := decide_eq_false (by omega)
          have HI2 := Lib.hid (HI.out.then HG0.out HD.out.good (by simp only; omega))
          have HM2 := Lib.hid (Nat.le_refl (ms dp1 (hd l1)))
          go_wp2_with fail
          go_loopg [6] (ms dp1 (hd l1)) (fun g ev wr => ∃ (l1 : List Nat) (dp1 E : Int), ev = .int .i64 E ∧ Hid (Inv2 (l, dp) (l1, dp1) E) ∧ Hid (SDL wr b l1 dp1 ng) ∧ Hid (SFb wr pb po pc cb co cap) ∧ Hid (Put w wr b) ∧ Hid (ms dp1 (hd l1) ≤ g))
          case atStart => exact ⟨l1, dp1, E, rfl, HI2, HD, HF, HK, HM2⟩
          case round =>
            clear f1 c0 h1 HI HD HF HK HM HI2 HM2
            obtain ⟨l2, dp2, E2, rfl, HI, HD, HF, HK, HM⟩ := hrel
            obtain ⟨wr2, rfl⟩ : ∃ wz : World, wz = wr := ⟨_, rfl⟩
            have f1 := HD.out.cdp
            have f2 := HD.out.head
            obtain ⟨hv, hhv⟩ : ∃ x, hd l2 = x := ⟨_, rfl⟩
            rw [hhv] at f2
            have hv9 : hv ≤ 9 := hhv ▸ (hd_good HD.out.good).2
            have HHV := Lib.hid hhv
            obtain ⟨cc, hcc⟩ : ∃ c, decide (dp2 < 0 ∨ dp2 = 0 ∧ hv < 5) = c := ⟨_, rfl⟩
            have HC := Lib.hid hcc
            clear hcc hhv
            go_upto_region 18 with fail
            go_cut [80] (fun x wx => x = .bool cc ∧ wr2 = wx)
            case first =>
              as_aux_lemma =>
              by_cases q1 : dp2 < 0
              · have HC2 := Lib.hid (show cc = true by rw [← HC.out]; exact decide_eq_true (.inl q1))
                have a1 : decide (dp2 < 0) = true := decide_eq_true q1
                go_wp2_with fail
                go_meet
                exact ⟨by rw [HC2.out], rfl⟩
              · have a1 : decide (dp2 < 0) = false := decide_eq_false q1
                by_cases q2 : dp2 = 0
                · subst q2
                  by_cases q3 : hv < 5
                  · have HC2 := Lib.hid (show cc = true by rw [← HC.out]; exact decide_eq_true (.inr ⟨rfl, q3⟩))
                    have a2 : decide ((hv : Int) + 48 < 53) = true := decide_eq_true (by omega)
                    go_wp2_with fail
                    go_meet
                    exact ⟨by rw [HC2.out], rfl⟩
                  · have HC2 := Lib.hid (show cc = false by rw [← HC.out]; exact decide_eq_false (by omega))
                    have a2 : decide ((hv : Int) + 48 < 53) = false := decide_eq_false (by omega)
                    go_wp2_with fail
                    go_meet
                    exact ⟨by rw [HC2.out], rfl⟩
                · have HC2 := Lib.hid (show cc = false by rw [← HC.out]; exact decide_eq_false (by omega))
                  have a2 : (dp2 == 0) = false := by rw [beq_eq_false_iff_ne]; exact q2
                  go_wp2_with fail
                  go_meet
                  exact ⟨by rw [HC2.out], rfl⟩
            case rest =>
            obtain ⟨rfl, rfl⟩ := hcut
            clear f2 hv9
            cases cc
            · have hE1 := HI.out.e1
              have hE0 : -100000 ≤ E2 := by have := HI.out.e0; omega
              have hdl := HI.out.lo
              have hdh := HI.out.hi
              simp only at hdl hdh
              have HQ := Lib.hid (show GeT (l, dp) → 1024 ≤ E2 ∧ GeE (l2, dp2) E2 ∧ dp2 = 0 from fun q => ⟨HI.out.big HD.out.good q, (HI.out.ge q).1, (HI.out.ge q).2⟩)
              have i0 := HF.out.i0
              have i1 := HF.out.i1
              have i2 := HF.out.i2
              clear HI HM HHV HC f1
              go_upto_if 111 with fail
              go_cut [6] (fun x wx => ∃ (l3 : List Nat) (dp3 E3 : Int), x = .int .i64 E3 ∧ -1022 ≤ E3 ∧ E3 ≤ 1060 ∧ -300000 ≤ dp3 ∧ dp3 ≤ 18 ∧ Hid (SDL wx b l3 dp3 ng) ∧ Hid (SFb wx pb po pc cb co cap) ∧ Hid (Put w wx b) ∧ Hid (GeT (l, dp) → 1023 ≤ E3 ∧ GeE (l3, dp3) (E3 + 1) ∧ dp3 = 0))
              case first =>
                as_aux_lemma =>
                by_cases hlo : E2 - 1 < -1022
                · obtain ⟨n, hnI⟩ : ∃ n : Nat, -1022 - (E2 - 1) = (n : Int) := ⟨(-1022 - (E2 - 1)).toNat, by omega⟩
                  have hn1 : 1 ≤ n := by omega
                  have hn2 : n ≤ 110000 := by omega
                  have HN := Lib.hid hnI
                  have HQ2 := Lib.hid (show ¬ GeT (l, dp) from fun q => by have := (HQ.out q).1; omega)
                  have hT := sshr_any (k := n) HD.out hn1 (by omega) ⟨by omega, by omega⟩
                  go_wp2_with (go_at_call 86; refine halt_H ?_)
                  refine resume_H ?_
                  refine hT.mono ?_
                  rintro e w3 ⟨rfl, p, l3, dp3, _, g1, g2, hD2⟩
                  have HK2 := Lib.hid (HK.out.trans p)
                  have HF2 := Lib.hid (HF.out.put p HX.out)
                  have HD2 := Lib.hid hD2
                  clear hT p hD2
                  go_wp2_with fail
                  go_meet
                  exact ⟨l3, dp3, _, rfl, by have := HN.out; omega, by have := HN.out; omega, by omega, by omega, HD2, HF2, HK2, Lib.hid (fun q => absurd q HQ2.out)⟩
                · go_wp2_with fail
                  go_meet
                  exact ⟨l2, dp2, E2 - 1, rfl, by omega, by omega, by omega, by omega, HD, HF, HK, Lib.hid (fun q => by
                    obtain ⟨q1, q2, q3⟩ := HQ.out q
                    exact ⟨by omega, by rw [show E2 - 1 + 1 = E2 by omega]; exact q2, q3⟩)⟩
              case rest =>
              obtain ⟨l3, dp3, E3, rfl, hE30, hE31, hd30, hd31, HD3, HF3, HK3, HQ3⟩ := hcut
              obtain ⟨w3, hw3⟩ : ∃ z : World, z = wc := ⟨_, rfl⟩
              subst hw3
              clear HD HF HK HQ i0 i1 i2 hE0 hE1 hdl hdh
              have i0 := HF3.out.i0
              have i1 := HF3.out.i1
              have i2 := HF3.out.i2
              have f3 := HD3.out.cng
              go_wp2_with fail
              go_quiet (fail)
              by_cases hov : 1024 ≤ E3
              · clear HQ3
                go_wp2
                go_step3
                refine jumps_one ?_
                go_wp2_with fail
                go_quiet (fail)
                go_wp2_with fail
                go_step3
                go_wp2_with fail
                go_quiet (fail)
                cases ng
                · go_wp2_with fail
                  refine ret_A ?_
                  go_ret2
                  exact ⟨⟨_, true, rfl, by first | exact (bits_or_rng _ _).1 | decide, by first | exact (bits_or_rng _ _).2 | decide, fun _ => rfl⟩, by repeat' (first | exact HK3.out | refine Put.drewN ?_ _)⟩
                · go_wp2_with fail
                  go_quiet (fail)
                  go_wp2_with fail
                  refine ret_A ?_
                  go_ret2
                  exact ⟨⟨_, true, rfl, by first | exact (bits_or_rng _ _).1 | decide, by first | exact (bits_or_rng _ _).2 | decide, fun _ => rfl⟩, by repeat' (first | exact HK3.out | refine Put.drewN ?_ _)⟩
              · have hE33 : E3 ≤ 1023 := by omega
                clear hov hE31
                have hT2 : Calls Tryz.prog 86 #[.pointer (some ⟨b, 0, none⟩), .int .i64 53] _ _ := sshl_any (k := 53) (HD3.out.drewN nq) (by decide) (by decide) ⟨by omega, by omega⟩ (HF3.out.drewN nq).ch
                go_wp2_with (go_at_call 86; refine halt_H ?_)
                refine resume_H ?_
                refine hT2.mono ?_
                rintro e w4 ⟨rfl, p, l4, dp4, hR, g1, g2, hD4⟩
                have HF4 := Lib.hid ((HF3.out.drewN nq).put p HX.out)
                have HK4 := Lib.hid ((HK3.out.drewN nq).trans p)
                have HQ4 := Lib.hid (show GeT (l, dp) → E3 = 1023 ∧ dp4 ≤ 20 ∧ UpAt l4 dp4 ∧ pre l4 dp4.toNat = 9007199254740991 from fun q => by
                  obtain ⟨q1, q2, q3⟩ := HQ3.out q
                  obtain rfl : E3 = 1023 := by omega
                  exact ⟨rfl, fin_up hR HD3.out.good q3 q2⟩)
                have hT3 := ri_any hD4 ⟨by omega, by omega⟩
                have HD4 := Lib.hid hD4
                have i0 := HF4.out.i0
                have i1 := HF4.out.i1
                have i2 := HF4.out.i2
                have f3 := HD4.out.cng
                clear hT2 p hR hD4 HF3 HD3 HQ3 HK3 g1 g2
                go_wp2_with (go_at_call 87; refine halt_H ?_)
                refine resume_H ?_
                refine hT3.mono ?_
                rintro e w5 ⟨m, rfl, hm64, hmm, rfl⟩
                have HQ5 := Lib.hid (show GeT (l, dp) → E3 = 1023 ∧ m = 9007199254740992 from fun q => by
                  obtain ⟨q1, q2, q3, q4⟩ := HQ4.out q
                  exact ⟨q1, hmm q2 q3 q4⟩)
                clear hT3 hmm HQ4
                by_cases hn : m = 9007199254740992
                · subst hn
                  have hmb : (bits .and .u64 4503599627370496 4503599627370496 == 0) = false := by decide +kernel
                  by_cases hE4 : 1023 ≤ E3
                  · go_wp2_with fail
                    go_quiet (fail)
                    go_wp2
                    go_step3
                    refine jumps_one ?_
                    go_wp2_with fail
                    go_quiet (fail)
                    go_wp2_with fail
                    go_step3
                    go_wp2_with fail
                    go_quiet (fail)
                    cases ng
                    · go_wp2_with fail
                      refine ret_A ?_
                      go_ret2
                      exact ⟨⟨_, true, rfl, by first | exact (bits_or_rng _ _).1 | decide, by first | exact (bits_or_rng _ _).2 | decide, fun _ => rfl⟩, by repeat' (first | exact HK4.out | refine Put.drewN ?_ _)⟩
                    · go_wp2_with fail
                      go_quiet (fail)
                      go_wp2_with fail
                      refine ret_A ?_
                      go_ret2
                      exact ⟨⟨_, true, rfl, by first | exact (bits_or_rng _ _).1 | decide, by first | exact (bits_or_rng _ _).2 | decide, fun _ => rfl⟩, by repeat' (first | exact HK4.out | refine Put.drewN ?_ _)⟩
                  · have HNO := Lib.hid (show ¬ GeT (l, dp) from fun q => by have := (HQ5.out q).1; omega)
                    have hE5 : E3 ≤ 1022 := by omega
                    clear hE4
                    go_wp2_with fail
                    go_quiet (fail)
                    go_wp2
                    go_step3
                    refine jumps_zero ?_
                    go_wp2_with fail
                    go_quiet (fail)
                    cases ng
                    · go_wp2
                      go_ret2
                      exact ⟨⟨_, false, rfl, by first | exact (bits_or_rng _ _).1 | decide, by first | exact (bits_or_rng _ _).2 | decide, fun q => absurd q HNO.out⟩, by repeat' (first | exact HK4.out | refine Put.drewN ?_ _)⟩
                    · go_wp2_with fail
                      go_quiet (fail)
                      go_wp2
                      go_ret2
                      exact ⟨⟨_, false, rfl, by first | exact (bits_or_rng _ _).1 | decide, by first | exact (bits_or_rng _ _).2 | decide, fun q => absurd q HNO.out⟩, by repeat' (first | exact HK4.out | refine Put.drewN ?_ _)⟩
                · have HNO := Lib.hid (show ¬ GeT (l, dp) from fun q => hn (HQ5.out q).2)
                  have hnb : ((m : Int) == 9007199254740992) = false := by rw [beq_eq_false_iff_ne]; omega
                  clear hn
                  by_cases hm : bits .and .u64 (m : Int) 4503599627370496 = 0
                  · have hmb : (bits .and .u64 (m : Int) 4503599627370496 == 0) = true := by rw [beq_iff_eq]; exact hm
                    clear hm
                    go_wp2
                    go_step3
                    refine jumps_zero ?_
                    go_wp2_with fail
                    go_quiet (fail)
                    cases ng
                    · go_wp2
                      go_ret2
                      exact ⟨⟨_, false, rfl, by first | exact (bits_or_rng _ _).1 | decide, by first | exact (bits_or_rng _ _).2 | decide, fun q => absurd q HNO.out⟩, by repeat' (first | exact HK4.out | refine Put.drewN ?_ _)⟩
                    · go_wp2_with fail
                      go_quiet (fail)
                      go_wp2
                      go_ret2
                      exact ⟨⟨_, false, rfl, by first | exact (bits_or_rng _ _).1 | decide, by first | exact (bits_or_rng _ _).2 | decide, fun q => absurd q HNO.out⟩, by repeat' (first | exact HK4.out | refine Put.drewN ?_ _)⟩
                  · have hmb : (bits .and .u64 (m : Int) 4503599627370496 == 0) = false := by rw [beq_eq_false_iff_ne]; exact hm
                    clear hm
                    go_wp2
                    go_step3
                    refine jumps_zero ?_
                    go_wp2_with fail
                    go_quiet (fail)
                    cases ng
                    · go_wp2
                      go_ret2
                      exact ⟨⟨_, false, rfl, by first | exact (bits_or_rng _ _).1 | decide, by first | exact (bits_or_rng _ _).2 | decide, fun q => absurd q HNO.out⟩, by repeat' (first | exact HK4.out | refine Put.drewN ?_ _)⟩
                    · go_wp2_with fail
                      go_quiet (fail)
                      go_wp2
                      go_ret2
                      exact ⟨⟨_, false, rfl, by first | exact (bits_or_rng _ _).1 | decide, by first | exact (bits_or_rng _ _).2 | decide, fun q => absurd q HNO.out⟩, by repeat' (first | exact HK4.out | refine Put.drewN ?_ _)⟩
            · have hcc := of_decide_eq_true HC.out
              have h0 : dp2 ≤ 0 := by omega
              obtain ⟨i, hni⟩ : ∃ i : Nat, -dp2 = (i : Int) := ⟨(-dp2).toNat, by omega⟩
              have hi3 : i ≤ 330 := by have := HI.out.lo; simp only at this; omega
              have HCC := Lib.hid hcc
              obtain ⟨bd, hbd⟩ : ∃ bd, decide ((i : Int) ≥ 9) = bd := ⟨_, rfl⟩
              have HB := Lib.hid hbd
              have p0 := HF.out.pv
              obtain ⟨k, hk⟩ : ∃ k, kOf dp2 = k := ⟨_, rfl⟩
              obtain ⟨hk2, hk3⟩ := kOf_ok h0
              have HKd := Lib.hid (kOf_eq hni)
              rw [hk] at hk2 hk3 HKd
              have HKo := Lib.hid hk
              have hE0 : -100000 ≤ E2 := by have := HI.out.e0; omega
              have hE1 := HI.out.e1
              clear hk hbd hcc
              go_upto_region 20 with fail
              go_cut [88] (fun x wx => x = .bool bd ∧ ∃ m, wx = wr2.drewN m)
              case first =>
                as_aux_lemma =>
                go_quiet (fail)
                go_wp2_with fail
                go_meet
                exact ⟨by rw [← HB.out], _, rfl⟩
              case rest =>
              obtain ⟨rfl, m0, rfl⟩ := hcut
              go_upto_if 88 with fail
              go_cut [9] (fun x wx => x = .int .i64 (k : Int) ∧ ∃ m, wx = wr2.drewN m)
              case first =>
                as_aux_lemma =>
                cases bd
                · have hd9 : i < 9 := by have := of_decide_eq_false HB.out; omega
                  have p1 := HF.out.pt i hd9
                  have HKt := Lib.hid (show ptab i = k by rw [HKd.out, if_neg (by omega)])
                  rw [HKt.out] at p1
                  go_wp2_with fail
                  go_quiet (fail)
                  go_wp2_with fail
                  go_meet
                  exact ⟨rfl, _, World.drewN_drewN _ _ _⟩
                · have HKt := Lib.hid (show k = 27 by rw [HKd.out, if_pos (by have := of_decide_eq_true HB.out; omega)])
                  go_wp2_with fail
                  go_meet
                  exact ⟨by rw [HKt.out]; rfl, _, rfl⟩
              case rest =>
              obtain ⟨rfl, m1', rfl⟩ := hcut
              clear p0 f1
              have hT := sshl_any (k := k) (HD.out.drewN m1') hk2 (by omega) ⟨by omega, by omega⟩ (HF.out.drewN m1').ch
              go_wp2_with (go_at_call 86; refine halt_H ?_)
              refine resume_H ?_
              refine hT.mono ?_
              rintro e w3 ⟨rfl, p, l3, dp3, hR, _, _, hD2⟩
              have hst := HI.out.step HD.out.good (by simp only; rw [HHV.out]; exact HCC.out) (by simp only; rw [HKo.out]; exact hR)
              simp only [HKo.out] at hst
              have HI2 := Lib.hid hst.1
              have HM2 := Lib.hid (Nat.lt_of_lt_of_le hst.2 HM.out)
              have HK2 := Lib.hid ((HK.out.drewN m1').trans p)
              have HF2 := Lib.hid ((HF.out.drewN m1').put p HX.out)
              have HD2 := Lib.hid hD2
              clear hT p hR hD2 hst
              go_wp2_with fail
              go_roundg (ms dp3 (hd l3))
              case rel => exact ⟨l3, dp3, _, rfl, HI2, HD2, HF2, HK2, Lib.hid (Nat.le_refl _)⟩
              case measure => exact HM2.out
end Go.Proofs.YtilkcnoooecngaaGreatDoor
