/- Go's own readFloat, walked. Texts of at most 1000 bytes. -/
import Derived.Test.YtilkcnoooecngaaGreatDoorSrL
import Derived.Test.YtilkcnoooecngaaGreatDoorSuA
import Derived.WalkMore
namespace Go.Proofs.YtilkcnoooecngaaGreatDoor
open Go.RowKit
set_option linter.unusedVariables false
theorem results_tmp7 {fn : Func} {a b c d e f g : Tmp} (h : fn.results = #[.tmp a, .tmp b, .tmp c, .tmp d, .tmp e, .tmp f, .tmp g]) (tmps : Array Value) (P : Program) (w : World) :
    (results fn tmps).run P w = .ok (.tuple #[tmps.getD a undef, tmps.getD b undef, tmps.getD c undef, tmps.getD d undef, tmps.getD e undef, tmps.getD f undef, tmps.getD g undef]) w := by
  simp [results, h]
set_option maxHeartbeats 16000000 in
set_option maxRecDepth 100000 in
theorem rf_any (s : ByteArray) (w : World) (hs : s.size ≤ 1000) :
    Calls Tryz.prog 44 #[.string s] w (RfRet s w) := by
  obtain ⟨n, hn⟩ : ∃ n, s.size = n := ⟨_, rfl⟩
  have HN := Lib.hid hn
  rw [hn] at hs
  go_enter Tryz.func44, Tryz.ntmps44
  go_wp2
  go_step3
  by_cases h0 : n = 0
  · subst h0
    go_wp2
    (try simp only [Exit.inBlock, Exit.then]); refine bodyPost_ret (results_tmp7 rfl _ _ _) rfl ?_
    exact ⟨rfl, 0, 0, false, false, false, 0, false, rfl, by decide, by decide, Nat.zero_le _, fun h => by cases h⟩
  obtain ⟨o, ho⟩ : ∃ o, sg (bt s) n 0 = o := ⟨_, rfl⟩
  have HO := Lib.hid ho
  obtain ⟨ng, hng⟩ : ∃ b, rfNg (bt s) n = b := ⟨_, rfl⟩
  have HNG := Lib.hid hng
  have ho1 : o ≤ 1 := by rw [← ho]; unfold sg; split <;> omega
  clear ho hng
  have j0 := ixB0 s (by rw [HN.out]; omega)
  obtain ⟨c, hc⟩ : ∃ c, bt s 0 = c := ⟨_, rfl⟩
  rw [hc] at j0
  have HCc := Lib.hid hc
  clear hc
  go_upto_block 0 with fail
  go_cut [4, 7] (fun x4 x7 wx => x4 = .bool ng ∧ x7 = .int .i64 (o : Int) ∧ wx = w)
  case first =>
    as_aux_lemma =>
    have HC := Lib.hid (show (c = 43 → o = 1 ∧ ng = false) ∧ (c = 45 → o = 1 ∧ ng = true) ∧ (c ≠ 43 → c ≠ 45 → o = 0 ∧ ng = false) by
      rw [← HO.out, ← HNG.out, ← HCc.out]
      unfold sg rfNg
      refine ⟨fun h => ?_, fun h => ?_, fun h h2 => ?_⟩
      · rw [if_pos ⟨by omega, .inl h⟩]; exact ⟨rfl, decide_eq_false (by omega)⟩
      · rw [if_pos ⟨by omega, .inr h⟩]; exact ⟨rfl, decide_eq_true ⟨by omega, h⟩⟩
      · rw [if_neg (by omega)]; exact ⟨rfl, decide_eq_false (by omega)⟩)
    clear HO HNG HCc
    by_cases h43 : c = 43
    · subst h43
      have HC2 := Lib.hid (HC.out.1 rfl)
      go_wp2_with fail
      go_meet
      exact ⟨by rw [HC2.out.2], by rw [HC2.out.1]; rfl, rfl⟩
    · have q1 : ((c : Int) == 43) = false := by rw [beq_eq_false_iff_ne]; omega
      by_cases h45 : c = 45
      · subst h45
        have HC2 := Lib.hid (HC.out.2.1 rfl)
        go_wp2_with fail
        go_meet
        exact ⟨by rw [HC2.out.2], by rw [HC2.out.1]; rfl, rfl⟩
      · have q2 : ((c : Int) == 45) = false := by rw [beq_eq_false_iff_ne]; omega
        have HC2 := Lib.hid (HC.out.2.2 h43 h45)
        clear h43 h45
        go_wp2_with fail
        go_meet
        exact ⟨by rw [HC2.out.2], by rw [HC2.out.1]; rfl, rfl⟩
  case rest =>
  as_aux_lemma =>
  obtain ⟨rfl, rfl, rfl⟩ := hcut
  obtain ⟨w, rfl⟩ : ∃ z : World, z = wc := ⟨_, rfl⟩
  obtain ⟨hx, hhx⟩ : ∃ b, rfHx (bt s) n = b := ⟨_, rfl⟩
  have HX := Lib.hid hhx
  clear hhx
  go_upto_region 12 with fail
  go_cut [54] (fun x wx => x = .bool hx ∧ wx = w)
  case first =>
    as_aux_lemma =>
    have HX2 := Lib.hid (show hx = decide (o + 2 < n ∧ bt s o = 48 ∧ lw (bt s (o + 1)) = 120) by rw [← HX.out, ← HO.out]; rfl)
    by_cases h2 : o + 2 < n
    · have j0 := ixB s o (by rw [HN.out]; omega)
      have j1 : ∀ W, (Instr.index 9 (.string s) (.int .i64 ((o : Int) + 1))).run Tryz.prog W = .ok (.int .u8 (bt s (o + 1) : Nat)) W := ixB s (o + 1) (by rw [HN.out]; omega)
      have hT := fun W => slower_lw (bt s (o + 1)) W
      by_cases h48 : bt s o = 48
      · have HC := Lib.hid (show (lw (bt s (o + 1)) == 120) = hx by rw [HX2.out]; by_cases h : lw (bt s (o + 1)) = 120 <;> simp [h, h2, h48])
        rw [h48] at j0
        generalize lw (bt s (o + 1)) = r at *
        clear h48 HX2
        go_wp2_with (go_at_call 76; refine (hT _).mono ?_; rintro e w9 ⟨rfl, rfl⟩)
        go_meet
        exact ⟨by rw [← HC.out], rfl⟩
      · have HC := Lib.hid (show hx = false by rw [HX2.out]; exact decide_eq_false (fun h => h48 h.2.1))
        have q0 : (((bt s o : Nat) : Int) == 48) = false := by rw [beq_eq_false_iff_ne]; omega
        clear h48 HX2
        go_wp2_with fail
        go_meet
        exact ⟨by rw [HC.out], rfl⟩
    · have HC := Lib.hid (show hx = false by rw [HX2.out]; exact decide_eq_false (fun h => h2 h.1))
      go_wp2_with fail
      go_meet
      exact ⟨by rw [HC.out], rfl⟩
  case rest =>
  as_aux_lemma =>
  obtain ⟨rfl, rfl⟩ := hcut
  obtain ⟨w, rfl⟩ : ∃ z : World, z = wc := ⟨_, rfl⟩
  obtain ⟨o2, ho2⟩ : ∃ x, rfO (bt s) n = x := ⟨_, rfl⟩
  have HO2 := Lib.hid (show o2 = if hx = true then o + 2 else o by rw [← ho2, ← HX.out, ← HO.out]; rfl)
  have HO3 := Lib.hid ho2
  clear ho2
  go_upto_if 54 with fail
  go_cut [6, 7, 10, 11, 12] (fun x6 x7 x10 x11 x12 wx => x6 = .bool hx ∧ x7 = .int .i64 (o2 : Int) ∧ x10 = .int .u64 (sB hx : Nat) ∧ x11 = .int .i64 (sM hx : Nat) ∧ x12 = .int .u8 (sMk hx) ∧ wx = w)
  case first =>
    as_aux_lemma =>
    cases hx
    · have HO4 := Lib.hid (show o2 = o by rw [HO2.out]; rfl)
      go_wp2_with fail
      go_meet
      exact ⟨rfl, by rw [HO4.out], rfl, rfl, rfl, rfl⟩
    · have HO4 := Lib.hid (show o2 = o + 2 by rw [HO2.out]; rfl)
      go_wp2_with fail
      go_meet
      exact ⟨rfl, by rw [HO4.out]; rfl, rfl, rfl, rfl, rfl⟩
  case rest =>
  as_aux_lemma =>
  obtain ⟨rfl, rfl, rfl, rfl, rfl, rfl⟩ := hcut
  obtain ⟨w, rfl⟩ : ∃ z : World, z = wc := ⟨_, rfl⟩
  have ho2n : o2 ≤ n := by
    have h := HO2.out
    have hxx := HX.out
    unfold rfHx at hxx
    rw [HO.out] at hxx
    cases hx
    · rw [if_neg (by decide)] at h; omega
    · rw [if_pos rfl] at h
      have := of_decide_eq_true hxx
      omega
  clear HO2 ho1 h0 j0
  obtain ⟨B, hB⟩ : ∃ B : Nat, sB hx = B := ⟨_, rfl⟩
  obtain ⟨M, hM⟩ : ∃ M : Nat, sM hx = M := ⟨_, rfl⟩
  obtain ⟨mk, hmk⟩ : ∃ k : Int, sMk hx = k := ⟨_, rfl⟩
  rw [hB, hM, hmk]
  have HB := Lib.hid hB
  have HM := Lib.hid hM
  have HMk := Lib.hid hmk
  have e16 : ((B : Int) == 16) = hx := by rw [← hB]; cases hx <;> rfl
  have hM19 : M ≤ 19 := by rw [← hM]; cases hx <;> decide
  clear hB hM hmk
  go_wp2_with fail
  go_step3
  go_upto_block 1 with fail
  go_cut [2, 5, 7, 9, 13, 14, 15, 16, 17] (fun mv tv iv uv dv sv nv kv pv wx => ∃ (i nd nm mant : Nat) (us dot sm tr : Bool) (dp : Int), mv = .int .u64 (mant : Int) ∧ tv = .bool tr ∧ iv = .int .i64 (i : Int) ∧ uv = .bool us ∧ dv = .bool dot ∧ sv = .bool sm ∧ nv = .int .i64 (nd : Int) ∧ kv = .int .i64 (nm : Int) ∧ pv = .int .i64 dp ∧ i ≤ n ∧ Hid (FDone (sF hx (bt s) n) (.at o2) ⟨i, us, dot, sm, nd, nm, mant, tr, dp⟩ ∧ SFok hx ⟨i, us, dot, sm, nd, nm, mant, tr, dp⟩) ∧ wx = w)
  case first =>
    as_aux_lemma =>
    have HS := Lib.hid (SFok.start hx o2)
    go_wp2_with fail
    go_loopw [2, 5, 7, 9, 13, 14, 15, 16, 17] (fun mv tv iv uv dv sv nv kv pv wx => ∃ (i nd nm mant : Nat) (us dot sm tr : Bool) (dp : Int), mv = .int .u64 (mant : Int) ∧ tv = .bool tr ∧ iv = .int .i64 (i : Int) ∧ uv = .bool us ∧ dv = .bool dot ∧ sv = .bool sm ∧ nv = .int .i64 (nd : Int) ∧ kv = .int .i64 (nm : Int) ∧ pv = .int .i64 dp ∧ i ≤ n ∧ Hid (FGo (sF hx (bt s) n) (.at o2) ⟨i, us, dot, sm, nd, nm, mant, tr, dp⟩ ∧ SFok hx ⟨i, us, dot, sm, nd, nm, mant, tr, dp⟩) ∧ wx = w) (fun _ _ iv _ _ _ _ _ _ _ => n - (intOf iv).toNat)
    case atStart => exact ⟨o2, 0, 0, 0, false, false, false, false, 0, rfl, rfl, rfl, rfl, rfl, rfl, rfl, rfl, rfl, ho2n, Lib.hid ⟨.refl, HS.out⟩, rfl⟩
    case round =>
      clear HS
      obtain ⟨i, nd, nm, mant, us, dot, sm, tr, dp, rfl, rfl, rfl, rfl, rfl, rfl, rfl, rfl, rfl, hi, HI, rfl⟩ := hrel
      by_cases hlt : i < n
      · have i1 := ixB s i (by rw [HN.out]; exact hlt)
        have hb1 := bt_lt s i
        have hok := HI.out.2
        have hnm1 : nm ≤ M := by have := hok.c; rw [HM.out] at this; exact this
        have hnd1 : nd ≤ i := hok.d
        have hnk : nm ≤ nd := hok.k
        have hdp1 : dp.natAbs ≤ i := hok.p
        have hm64 : mant < 18446744073709551616 := hok.lt
        obtain ⟨hdp2, hdp3⟩ : -1000 ≤ dp ∧ dp ≤ 1000 := by omega
        clear hok hdp1
        have hT := fun W => slower_lw (bt s i) W
        by_cases h95 : bt s i = 95
        · have HI2 := Lib.hid (And.intro (HI.out.1.step (sF_us (by simpa using hlt) (by simpa using h95))) (show SFok hx ⟨i + 1, true, dot, sm, nd, nm, mant, tr, dp⟩ from ⟨HI.out.2.m, HI.out.2.c, HI.out.2.k, Nat.le_succ_of_le HI.out.2.d, Nat.le_succ_of_le HI.out.2.p⟩))
          rw [h95] at i1
          clear h95 hb1 hT
          go_wp2_with fail
          go_roundw
          case rel => exact ⟨i + 1, nd, nm, mant, true, dot, sm, tr, dp, rfl, rfl, by go_num, rfl, rfl, rfl, rfl, rfl, rfl, by omega, HI2, trivial⟩
          case measure => simp [intOf]; omega
        · have q1 : (((bt s i : Nat) : Int) == 95) = false := by rw [beq_eq_false_iff_ne]; omega
          by_cases h46 : bt s i = 46
          · cases dot
            · have HI2 := Lib.hid (And.intro (HI.out.1.step (sF_pt (by simpa using hlt) (by simpa using h46) rfl)) (show SFok hx ⟨i + 1, us, true, sm, nd, nm, mant, tr, (nd : Int)⟩ from ⟨HI.out.2.m, HI.out.2.c, HI.out.2.k, Nat.le_succ_of_le HI.out.2.d, by simp only; omega⟩))
              rw [h46] at i1
              clear h95 h46 hb1 q1 hT
              go_wp2_with fail
              go_roundw
              case rel => exact ⟨i + 1, nd, nm, mant, us, true, sm, tr, nd, rfl, rfl, by go_num, rfl, rfl, rfl, rfl, rfl, rfl, by omega, HI2, trivial⟩
              case measure => simp [intOf]; omega
            · have HF := Lib.hid (And.intro (HI.out.1.fin (sF_pt2 (by simpa using hlt) (by simpa using h46) rfl)) HI.out.2)
              rw [h46] at i1
              clear h95 h46 hb1 q1 hT
              go_wp2_with fail
              go_meet
              exact ⟨i, nd, nm, mant, us, true, sm, tr, dp, rfl, rfl, rfl, rfl, rfl, rfl, rfl, rfl, rfl, hi, HF, rfl⟩
          · have q2 : (((bt s i : Nat) : Int) == 46) = false := by rw [beq_eq_false_iff_ne]; omega
            by_cases hd : isD (bt s i)
            · by_cases hz : bt s i = 48 ∧ nd = 0
              · obtain ⟨h48, rfl⟩ := hz
                have HI2 := Lib.hid (And.intro (HI.out.1.step (sF_z (by simpa using hlt) (by simpa using h48) rfl)) (show SFok hx ⟨i + 1, us, dot, true, 0, nm, mant, tr, dp - 1⟩ from ⟨HI.out.2.m, HI.out.2.c, HI.out.2.k, Nat.zero_le _, by have := HI.out.2.p; simp only at this ⊢; omega⟩))
                rw [h48] at i1
                clear h95 h46 hb1 q1 q2 hT hd h48
                go_wp2_with fail
                go_roundw
                case rel => exact ⟨i + 1, 0, nm, mant, us, dot, true, tr, dp - 1, rfl, rfl, by go_num, rfl, rfl, rfl, rfl, rfl, rfl, by omega, HI2, trivial⟩
                case measure => simp [intOf]; omega
              · obtain ⟨d1, d2⟩ := hd
                obtain ⟨y, hy⟩ : ∃ y, bt s i = y + 48 := ⟨bt s i - 48, by omega⟩
                have hy9 : y < 10 := by omega
                have hst := HI.out.1.step (sF_d (by simpa using hlt) (show isD (bt s i) from ⟨d1, d2⟩) (by simpa using hz))
                have hok2 := SFok.dig HI.out.2 (d := y) (by have : 10 ≤ sB hx := by cases hx <;> decide
                                                            omega) (decide (y ≠ 0))
                simp only [hy, Nat.add_sub_cancel] at hst
                rw [show (decide (y + 48 ≠ 48)) = decide (y ≠ 0) by simp] at hst
                have HST := Lib.hid (And.intro hst hok2)
                have hkz : y ≠ 0 ∨ (y = 0 ∧ nd ≠ 0) := by omega
                rw [hy] at i1
                clear hst hok2 h95 h46 hb1 q1 q2 hT d1 d2 hy hz
                have q1 : (((y + 48 : Nat) : Int) == 95) = false := by rw [beq_eq_false_iff_ne]; omega
                have q2 : (((y + 48 : Nat) : Int) == 46) = false := by rw [beq_eq_false_iff_ne]; omega
                by_cases hnm : nm < M
                · have hsm := (sfok_small HI.out.2 (by rw [HM.out]; exact hnm) (d := y) (by have : 10 ≤ sB hx := by cases hx <;> decide
                                                                                            omega)).2
                  have HI2 := Lib.hid (show FGo (sF hx (bt s) n) (.at o2) ⟨i + 1, us, dot, true, nd + 1, nm + 1, mant * B + y, tr, dp⟩ ∧ SFok hx ⟨i + 1, us, dot, true, nd + 1, nm + 1, mant * B + y, tr, dp⟩ by
                    have h := HST.out
                    unfold SF.dig at h
                    simp only [HM.out, HB.out, if_pos hnm] at h
                    exact h)
                  simp only [HB.out] at hsm
                  obtain ⟨p, hp⟩ : ∃ p, mant * B = p := ⟨_, rfl⟩
                  rw [hp] at hsm HI2
                  have hpI : (mant : Int) * (B : Int) = (p : Int) := by rw [← hp]; simp
                  clear hp HST
                  rcases hkz with hkz | ⟨rfl, hkz⟩
                  · have q3 : (((y + 48 : Nat) : Int) == 48) = false := by rw [beq_eq_false_iff_ne]; omega
                    go_wp2_with fail
                    go_roundw
                    case rel => exact ⟨i + 1, nd + 1, nm + 1, p + y, us, dot, true, tr, dp, by go_num, rfl, by go_num, rfl, rfl, rfl, by go_num, by go_num, rfl, by omega, HI2, trivial⟩
                    case measure => simp [intOf]; omega
                  · have q3 : ((nd : Int) == 0) = false := by rw [beq_eq_false_iff_ne]; omega
                    go_wp2_with fail
                    go_roundw
                    case rel => exact ⟨i + 1, nd + 1, nm + 1, p + 0, us, dot, true, tr, dp, by go_num, rfl, by go_num, rfl, rfl, rfl, by go_num, by go_num, rfl, by omega, HI2, trivial⟩
                    case measure => simp [intOf]; omega
                · have HI2 := Lib.hid (show FGo (sF hx (bt s) n) (.at o2) ⟨i + 1, us, dot, true, nd + 1, nm, mant, tr || decide (y ≠ 0), dp⟩ ∧ SFok hx ⟨i + 1, us, dot, true, nd + 1, nm, mant, tr || decide (y ≠ 0), dp⟩ by
                    have h := HST.out
                    unfold SF.dig at h
                    simp only [HM.out, HB.out, if_neg hnm] at h
                    exact h)
                  clear HST
                  rcases hkz with hkz | ⟨rfl, hkz⟩
                  · have q3 : (((y + 48 : Nat) : Int) == 48) = false := by rw [beq_eq_false_iff_ne]; omega
                    have q4 : (((y + 48 : Nat) : Int) != 48) = true := by rw [bne_iff_ne]; omega
                    have HTr := Lib.hid (show (tr || decide (y ≠ 0)) = true by rw [decide_eq_true hkz, Bool.or_true])
                    rw [HTr.out] at HI2
                    go_wp2_with fail
                    go_roundw
                    case rel => exact ⟨i + 1, nd + 1, nm, mant, us, dot, true, true, dp, rfl, rfl, by go_num, rfl, rfl, rfl, by go_num, rfl, rfl, by omega, HI2, trivial⟩
                    case measure => simp [intOf]; omega
                  · have q3 : ((nd : Int) == 0) = false := by rw [beq_eq_false_iff_ne]; omega
                    have HTr := Lib.hid (show (tr || decide ((0 : Nat) ≠ 0)) = tr by simp)
                    rw [HTr.out] at HI2
                    go_wp2_with fail
                    go_roundw
                    case rel => exact ⟨i + 1, nd + 1, nm, mant, us, dot, true, tr, dp, rfl, rfl, by go_num, rfl, rfl, rfl, by go_num, rfl, rfl, by omega, HI2, trivial⟩
                    case measure => simp [intOf]; omega
            · have hd8 : bt s i < 48 ∨ 57 < bt s i := by unfold isD at hd; omega
              by_cases hl : hx = true ∧ 97 ≤ lw (bt s i) ∧ lw (bt s i) ≤ 102
              · obtain ⟨rfl, hl1, hl2⟩ := hl
                have hst := HI.out.1.step (sF_x (by simpa using hlt) (show 97 ≤ lw (bt s i) ∧ lw (bt s i) ≤ 102 from ⟨hl1, hl2⟩) (by simpa using hd) (by simpa using h46) (by simpa using h95))
                obtain ⟨r, hr⟩ : ∃ r : Nat, lw (bt s i) = (r : Int) + 87 := ⟨(lw (bt s i) - 87).toNat, by omega⟩
                have hr9 : 10 ≤ r ∧ r ≤ 15 := by omega
                have hok2 := SFok.dig HI.out.2 (d := r) (Nat.lt_of_le_of_lt hr9.2 (show 15 < sB true by decide)) true
                have h57 := lw_hi hb1 hl1
                simp only [hr, show ((r : Int) + 87 - 87).toNat = r by omega] at hst hT
                have HST := Lib.hid (And.intro hst hok2)
                generalize bt s i = y at i1 hb1 q1 q2 hT h57
                clear hst hok2 h95 h46 hd hd8 hl1 hl2 hr
                obtain ⟨hr1, hr2⟩ := hr9
                by_cases hnm : nm < M
                · have hsm : mant * 16 + r < 18446744073709551616 := (sfok_small HI.out.2 (by rw [HM.out]; exact hnm) (d := r) (Nat.lt_of_le_of_lt hr2 (show 15 < sB true by decide))).2
                  have HI2 := Lib.hid (show FGo (sF true (bt s) n) (.at o2) ⟨i + 1, us, dot, true, nd + 1, nm + 1, mant * 16 + r, tr, dp⟩ ∧ SFok true ⟨i + 1, us, dot, true, nd + 1, nm + 1, mant * 16 + r, tr, dp⟩ by
                    have h := HST.out
                    unfold SF.dig at h
                    simp only [HM.out, if_pos hnm] at h
                    exact h)
                  obtain ⟨p, hp⟩ : ∃ p, mant * 16 = p := ⟨_, rfl⟩
                  rw [hp] at hsm HI2
                  have hpI : (mant : Int) * 16 = (p : Int) := by rw [← hp]; simp
                  clear hp HST
                  go_wp2_with (go_at_call 76; refine (hT _).mono ?_; rintro e w9 ⟨rfl, rfl⟩)
                  go_roundw
                  case rel => exact ⟨i + 1, nd + 1, nm + 1, p + r, us, dot, true, tr, dp, by go_num, rfl, by go_num, rfl, rfl, rfl, by go_num, by go_num, rfl, by omega, HI2, trivial⟩
                  case measure => simp [intOf]; omega
                · have HI2 := Lib.hid (show FGo (sF true (bt s) n) (.at o2) ⟨i + 1, us, dot, true, nd + 1, nm, mant, true, dp⟩ ∧ SFok true ⟨i + 1, us, dot, true, nd + 1, nm, mant, true, dp⟩ by
                    have h := HST.out
                    unfold SF.dig at h
                    simp only [HM.out, if_neg hnm, Bool.or_true] at h
                    exact h)
                  clear HST
                  go_wp2_with (go_at_call 76; refine (hT _).mono ?_; rintro e w9 ⟨rfl, rfl⟩)
                  go_roundw
                  case rel => exact ⟨i + 1, nd + 1, nm, mant, us, dot, true, true, dp, rfl, rfl, by go_num, rfl, rfl, rfl, by go_num, rfl, rfl, by omega, HI2, trivial⟩
                  case measure => simp [intOf]; omega
              · have HF := Lib.hid (And.intro (HI.out.1.fin (sF_no (by simpa using h95) (by simpa using h46) (by simpa using hd) (by simpa using hl))) HI.out.2)
                obtain ⟨r, hr⟩ : ∃ r, lw (bt s i) = r := ⟨_, rfl⟩
                rw [hr] at hl
                simp only [hr] at hT
                generalize bt s i = y at i1 hb1 q1 q2 hT hd8
                clear h95 h46 hd hr
                cases hx
                · clear hl hT
                  rcases hd8 with hd8 | hd8
                  all_goals
                    go_wp2_with fail
                    go_meet
                    exact ⟨i, nd, nm, mant, us, dot, sm, tr, dp, rfl, rfl, rfl, rfl, rfl, rfl, rfl, rfl, rfl, hi, HF, rfl⟩
                · have hl2 : r < 97 ∨ (97 ≤ r ∧ 102 < r) := by
                    by_cases h : 97 ≤ r
                    · exact .inr ⟨h, by
                        by_cases h2 : r ≤ 102
                        · exact absurd ⟨rfl, h, h2⟩ hl
                        · omega⟩
                    · exact .inl (by omega)
                  clear hl
                  rcases hd8 with hd8 | hd8
                  all_goals
                    rcases hl2 with hl2 | ⟨hl2, hl3⟩
                    all_goals
                      go_wp2_with (go_at_call 76; refine (hT _).mono ?_; rintro e w9 ⟨rfl, rfl⟩)
                      go_meet
                      exact ⟨i, nd, nm, mant, us, dot, sm, tr, dp, rfl, rfl, rfl, rfl, rfl, rfl, rfl, rfl, rfl, hi, HF, rfl⟩
      · have HF := Lib.hid (And.intro (HI.out.1.fin (sF_end (by simpa using hlt))) HI.out.2)
        go_wp2_with fail
        go_meet
        exact ⟨i, nd, nm, mant, us, dot, sm, tr, dp, rfl, rfl, rfl, rfl, rfl, rfl, rfl, rfl, rfl, hi, HF, rfl⟩
  case rest =>
  as_aux_lemma =>
  obtain ⟨i, nd, nm, mant, us, dot, sm, tr, dp, rfl, rfl, rfl, rfl, rfl, rfl, rfl, rfl, rfl, hi, HI, rfl⟩ := hcut
  obtain ⟨w, rfl⟩ : ∃ z : World, z = wc := ⟨_, rfl⟩
  have hnm1 : nm ≤ 19 := by have := HI.out.2.c; rw [HM.out] at this; simp only at this; omega
  have hnd1 : nd ≤ i := HI.out.2.d
  have hm64 : mant < 18446744073709551616 := HI.out.2.lt
  obtain ⟨hdp2, hdp3⟩ : -1000 ≤ dp ∧ dp ≤ 1000 := by have : dp.natAbs ≤ i := HI.out.2.p; omega
  cases sm
  · go_wp2_with fail
    (try simp only [Exit.inBlock, Exit.then]); refine bodyPost_ret (results_tmp7 rfl _ _ _) rfl ?_
    exact ⟨rfl, mant, 0, ng, tr, hx, i, false, rfl, hm64, by constructor <;> decide, by rw [HN.out]; omega, fun h => by cases h⟩
  obtain ⟨P, hP⟩ : ∃ P : Int, P = if dot = true then dp else (nd : Int) := ⟨_, rfl⟩
  have HP := Lib.hid hP
  obtain ⟨hP1, hP2⟩ : -1000 ≤ P ∧ P ≤ 1000 := by rw [hP]; split <;> omega
  clear hP
  go_upto_if 142 with fail
  go_cut [17] (fun c wx => c = .int .i64 P ∧ wx = w)
  case first =>
    as_aux_lemma =>
    cases dot
    · have HC := Lib.hid (show P = (nd : Int) by rw [HP.out]; rfl)
      go_wp2_with fail
      go_meet
      exact ⟨by rw [HC.out], rfl⟩
    · have HC := Lib.hid (show P = dp by rw [HP.out]; rfl)
      go_wp2_with fail
      go_meet
      exact ⟨by rw [HC.out], rfl⟩
  case rest =>
  as_aux_lemma =>
  obtain ⟨rfl, rfl⟩ := hcut
  obtain ⟨w, rfl⟩ : ∃ z : World, z = wc := ⟨_, rfl⟩
  obtain ⟨P2, hP2e⟩ : ∃ P2 : Int, P2 = P * sQ hx := ⟨_, rfl⟩
  obtain ⟨K2, hK2e⟩ : ∃ K2 : Int, K2 = (nm : Int) * sQ hx := ⟨_, rfl⟩
  have HP2 := Lib.hid hP2e
  have HK2 := Lib.hid hK2e
  obtain ⟨hq1, hq2, hq3, hq4⟩ : -4000 ≤ P2 ∧ P2 ≤ 4000 ∧ 0 ≤ K2 ∧ K2 ≤ 76 := by
    rw [hP2e, hK2e]
    cases hx
    · have : sQ false = 1 := rfl
      rw [this]; omega
    · have : sQ true = 4 := rfl
      rw [this]; omega
  clear hP2e hK2e
  go_upto_if 145 with fail
  go_cut [16, 17] (fun a b wx => a = .int .i64 K2 ∧ b = .int .i64 P2 ∧ wx = w)
  case first =>
    as_aux_lemma =>
    cases hx
    · have HC := Lib.hid (show P2 = P by rw [HP2.out]; exact Int.mul_one _)
      have HC2 := Lib.hid (show K2 = (nm : Int) by rw [HK2.out]; exact Int.mul_one _)
      go_wp2_with fail
      go_meet
      exact ⟨by rw [HC2.out], by rw [HC.out], rfl⟩
    · have HC := Lib.hid (show P2 = P * 4 from HP2.out)
      have HC2 := Lib.hid (show K2 = (nm : Int) * 4 from HK2.out)
      go_wp2_with fail
      go_meet
      exact ⟨by rw [HC2.out], by rw [HC.out], rfl⟩
  case rest =>
  as_aux_lemma =>
  obtain ⟨rfl, rfl, rfl⟩ := hcut
  obtain ⟨w, rfl⟩ : ∃ z : World, z = wc := ⟨_, rfl⟩
  obtain ⟨bm, hbm⟩ : ∃ b : Bool, b = decide (i < n ∧ lw (bt s i) = mk) := ⟨_, rfl⟩
  have HMb := Lib.hid hbm
  clear hbm
  go_upto_region 57 with fail
  go_cut [161] (fun c wx => c = .bool bm ∧ wx = w)
  case first =>
    as_aux_lemma =>
    by_cases hlt : i < n
    · have i1 := ixB s i (by rw [HN.out]; exact hlt)
      have hT := fun W => slower_lw (bt s i) W
      obtain ⟨r, hr⟩ : ∃ r, lw (bt s i) = r := ⟨_, rfl⟩
      have HC := Lib.hid (show (r == mk) = bm by rw [HMb.out, ← hr]; by_cases h : lw (bt s i) = mk <;> simp [h, hlt])
      simp only [hr] at hT
      clear hr
      generalize bt s i = y at i1 hT
      go_wp2_with (go_at_call 76; refine (hT _).mono ?_; rintro e w9 ⟨rfl, rfl⟩)
      go_meet
      exact ⟨by rw [← HC.out], rfl⟩
    · have HC := Lib.hid (show bm = false by rw [HMb.out]; exact decide_eq_false (fun h => hlt h.1))
      go_wp2_with fail
      go_meet
      exact ⟨by rw [HC.out], rfl⟩
  case rest =>
  as_aux_lemma =>
  obtain ⟨rfl, rfl⟩ := hcut
  obtain ⟨w, rfl⟩ : ∃ z : World, z = wc := ⟨_, rfl⟩
  cases bm
  · have hnot := Lib.hid (of_decide_eq_false HMb.out.symm)
    cases hx
    · have HT := Lib.hid (show RfTail false (bt s) n ⟨i, us, dot, true, nd, nm, mant, tr, dp⟩ 0 i us from .inr ⟨by rw [HMk.out]; exact hnot.out, rfl, rfl, rfl, rfl⟩)
      obtain ⟨ex, hex⟩ : ∃ ex : Int, ex = if mant = 0 then 0 else P2 + 0 - K2 := ⟨_, rfl⟩
      have HEX := Lib.hid hex
      have hex1 : -300000 ≤ ex ∧ ex ≤ 300000 := by rw [hex]; split <;> omega
      have HEX1 := Lib.hid hex1
      clear hex hex1
      have hsl := fun W => slice_str_hi Tryz.underlying9 s (i : Int) i rfl (by rw [HN.out]; omega) W
      have hU := fun W => suok_any (s.extract 0 i) W (by simp; rw [HN.out]; omega)
      obtain ⟨bu, hbu⟩ : ∃ b, uOk (stripB (s.extract 0 i)) = b := ⟨_, rfl⟩
      simp only [hbu] at hU
      have HBU := Lib.hid hbu
      clear hbu
      obtain ⟨sk, hsk⟩ : ∃ x, s.extract 0 i = x := ⟨_, rfl⟩
      simp only [hsk] at hU hsl
      have HFin := Lib.hid (show ∀ u : Bool, u = us → (u = true → bu = true) → RfOk s mant ex ng tr false i from fun u hu hb => by
        unfold RfOk
        rw [HN.out]
        refine ⟨HNG.out.symm, HX.out.symm, ⟨i, us, dot, true, nd, nm, mant, tr, dp⟩, 0, us, by rw [HO3.out]; exact HI.out.1, rfl, HT.out, rfl, rfl, ?_, fun h => by rw [HBU.out]; exact hb (hu.trans h)⟩
        simp only
        rw [HEX.out, HP2.out, HK2.out, HP.out])
      clear hsk
      by_cases hm0 : mant = 0
      · have HE0 := Lib.hid (show ex = 0 by rw [HEX.out, if_pos hm0])
        subst hm0
        cases us
        · go_wp2_with fail
          (try simp only [Exit.inBlock, Exit.then]); refine bodyPost_ret (results_tmp7 rfl _ _ _) rfl ?_
          exact ⟨rfl, 0, 0, ng, tr, false, i, true, rfl, by decide, by constructor <;> decide, by rw [HN.out]; omega, fun _ => by have h := HFin.out false rfl (fun h => by cases h); rw [HE0.out] at h; exact h⟩
        · cases bu
          · go_wp2_with (go_at_call 77; refine (hU _).mono ?_; rintro e w9 ⟨rfl, rfl⟩)
            (try simp only [Exit.inBlock, Exit.then]); refine bodyPost_ret (results_tmp7 rfl _ _ _) rfl ?_
            exact ⟨rfl, 0, 0, ng, tr, false, i, false, rfl, by decide, by constructor <;> decide, by rw [HN.out]; omega, fun h => by cases h⟩
          · go_wp2_with (go_at_call 77; refine (hU _).mono ?_; rintro e w9 ⟨rfl, rfl⟩)
            (try simp only [Exit.inBlock, Exit.then]); refine bodyPost_ret (results_tmp7 rfl _ _ _) rfl ?_
            exact ⟨rfl, 0, 0, ng, tr, false, i, true, rfl, by decide, by constructor <;> decide, by rw [HN.out]; omega, fun _ => by have h := HFin.out true rfl (fun _ => by first | rfl | trivial); rw [HE0.out] at h; exact h⟩
      · have HE0 := Lib.hid (show P2 - K2 = ex by rw [HEX.out, if_neg hm0]; omega)
        have g0 : ((mant : Int) != 0) = true := by rw [bne_iff_ne]; omega
        cases us
        · go_wp2_with fail
          (try simp only [Exit.inBlock, Exit.then]); refine bodyPost_ret (results_tmp7 rfl _ _ _) rfl ?_
          exact ⟨rfl, mant, ex, ng, tr, false, i, true, by rw [← HE0.out]; rfl, hm64, HEX1.out, by rw [HN.out]; omega, fun _ => HFin.out false rfl (fun h => by cases h)⟩
        · cases bu
          · go_wp2_with (go_at_call 77; refine (hU _).mono ?_; rintro e w9 ⟨rfl, rfl⟩)
            (try simp only [Exit.inBlock, Exit.then]); refine bodyPost_ret (results_tmp7 rfl _ _ _) rfl ?_
            exact ⟨rfl, mant, ex, ng, tr, false, i, false, by rw [← HE0.out]; rfl, hm64, HEX1.out, by rw [HN.out]; omega, fun h => by cases h⟩
          · go_wp2_with (go_at_call 77; refine (hU _).mono ?_; rintro e w9 ⟨rfl, rfl⟩)
            (try simp only [Exit.inBlock, Exit.then]); refine bodyPost_ret (results_tmp7 rfl _ _ _) rfl ?_
            exact ⟨rfl, mant, ex, ng, tr, false, i, true, by rw [← HE0.out]; rfl, hm64, HEX1.out, by rw [HN.out]; omega, fun _ => HFin.out true rfl (fun _ => by first | rfl | trivial)⟩
    · go_wp2_with fail
      (try simp only [Exit.inBlock, Exit.then]); refine bodyPost_ret (results_tmp7 rfl _ _ _) rfl ?_
      exact ⟨rfl, mant, 0, ng, tr, true, i, false, rfl, hm64, by constructor <;> decide, by rw [HN.out]; omega, fun h => by cases h⟩
  · have hlm := Lib.hid (of_decide_eq_true HMb.out.symm)
    have hlt : i < n := hlm.out.1
    by_cases hp1 : i + 1 < n
    rotate_left
    · go_wp2_with fail
      (try simp only [Exit.inBlock, Exit.then]); refine bodyPost_ret (results_tmp7 rfl _ _ _) rfl ?_
      exact ⟨rfl, mant, 0, ng, tr, hx, (i + 1), false, rfl, hm64, by constructor <;> decide, by rw [HN.out]; omega, fun h => by cases h⟩
    have i5 : ∀ W, (Instr.index 9 (.string s) (.int .i64 ((i : Int) + 1))).run Tryz.prog W = .ok (.int .u8 (bt s (i + 1) : Nat)) W := ixB s (i + 1) (by rw [HN.out]; exact hp1)
    obtain ⟨j, hj⟩ : ∃ j, sg (bt s) n (i + 1) = j := ⟨_, rfl⟩
    have HJ := Lib.hid hj
    obtain ⟨hj1, hj2, hj3⟩ : i + 1 ≤ j ∧ j ≤ i + 2 ∧ j ≤ n := by
      unfold sg at hj
      split at hj <;> omega
    clear hj
    obtain ⟨es, hes⟩ : ∃ es : Int, es = if bt s (i + 1) = 45 then -1 else 1 := ⟨_, rfl⟩
    have HES := Lib.hid hes
    have hes1 : es = 1 ∨ es = -1 := by rw [hes]; split <;> simp
    clear hes
    have HSg := Lib.hid (show ∀ y, bt s (i + 1) = y → (y = 43 → j = i + 2 ∧ es = 1) ∧ (y = 45 → j = i + 2 ∧ es = -1) ∧ (y ≠ 43 → y ≠ 45 → j = i + 1 ∧ es = 1) from fun y hy => by
      rw [HES.out, ← HJ.out, hy]
      unfold sg
      rw [hy]
      refine ⟨fun h => ?_, fun h => ?_, fun h h2 => ?_⟩
      · rw [if_pos ⟨hp1, .inl h⟩, if_neg (by omega)]; exact ⟨rfl, rfl⟩
      · rw [if_pos ⟨hp1, .inr h⟩, if_pos h]; exact ⟨rfl, rfl⟩
      · rw [if_neg (by omega), if_neg h2]; exact ⟨rfl, rfl⟩)
    obtain ⟨c1, hc1⟩ : ∃ y, bt s (i + 1) = y := ⟨_, rfl⟩
    rw [hc1] at i5
    have HSc := Lib.hid (HSg.out c1 hc1)
    clear hc1 HSg
    go_upto_block 4 with fail
    go_cut [7, 19] (fun a b wx => a = .int .i64 (j : Int) ∧ b = .int .i64 es ∧ wx = w)
    case first =>
      as_aux_lemma =>
      by_cases h43 : c1 = 43
      · subst h43
        have HC := Lib.hid (HSc.out.1 rfl)
        go_wp2_with fail
        go_meet
        exact ⟨by rw [HC.out.1]; go_num, by rw [HC.out.2], rfl⟩
      · have q1 : ((c1 : Int) == 43) = false := by rw [beq_eq_false_iff_ne]; omega
        by_cases h45 : c1 = 45
        · subst h45
          have HC := Lib.hid (HSc.out.2.1 rfl)
          go_wp2_with fail
          go_meet
          exact ⟨by rw [HC.out.1]; go_num, by rw [HC.out.2], rfl⟩
        · have q2 : ((c1 : Int) == 45) = false := by rw [beq_eq_false_iff_ne]; omega
          have HC := Lib.hid (HSc.out.2.2 h43 h45)
          clear h43 h45
          go_wp2_with fail
          go_meet
          exact ⟨by rw [HC.out.1]; go_num, by rw [HC.out.2], rfl⟩
    case rest =>
    as_aux_lemma =>
    obtain ⟨rfl, rfl, rfl⟩ := hcut
    obtain ⟨w, rfl⟩ : ∃ z : World, z = wc := ⟨_, rfl⟩
    clear i5 HSc
    obtain ⟨bn, hbn⟩ : ∃ b : Bool, b = decide (¬ (j < n ∧ isD (bt s j))) := ⟨_, rfl⟩
    have HBn := Lib.hid hbn
    clear hbn
    go_upto_region 67 with fail
    go_cut [194] (fun c wx => c = .bool bn ∧ wx = w)
    case first =>
      as_aux_lemma =>
      by_cases hp1 : j < n
      · have i5 := ixB s j (by rw [HN.out]; exact hp1)
        have HC := Lib.hid (show bn = decide (¬ (48 ≤ bt s j ∧ bt s j ≤ 57)) by rw [HBn.out]; unfold isD; simp [hp1])
        generalize bt s j = y at i5 HC
        by_cases h48 : y < 48
        · have HE := Lib.hid (show bn = true by rw [HC.out]; exact decide_eq_true (by omega))
          go_wp2_with fail
          go_meet
          exact ⟨by rw [HE.out], rfl⟩
        · by_cases h57 : 57 < y
          · have HE := Lib.hid (show bn = true by rw [HC.out]; exact decide_eq_true (by omega))
            go_wp2_with fail
            go_meet
            exact ⟨by rw [HE.out]; congr 1; simp; omega, rfl⟩
          · have HE := Lib.hid (show bn = false by rw [HC.out]; exact decide_eq_false (by omega))
            go_wp2_with fail
            go_meet
            exact ⟨by rw [HE.out]; congr 1; simp; omega, rfl⟩
      · have HE := Lib.hid (show bn = true by rw [HBn.out]; exact decide_eq_true (fun h => hp1 h.1))
        go_wp2_with fail
        go_meet
        exact ⟨by rw [HE.out], rfl⟩
    case rest =>
    as_aux_lemma =>
    obtain ⟨rfl, rfl⟩ := hcut
    obtain ⟨w, rfl⟩ : ∃ z : World, z = wc := ⟨_, rfl⟩
    cases bn
    rotate_left
    · go_wp2_with fail
      (try simp only [Exit.inBlock, Exit.then]); refine bodyPost_ret (results_tmp7 rfl _ _ _) rfl ?_
      exact ⟨rfl, mant, 0, ng, tr, hx, j, false, rfl, hm64, by constructor <;> decide, by rw [HN.out]; omega, fun h => by cases h⟩
    have HJd := Lib.hid (Decidable.not_not.1 (of_decide_eq_false HBn.out.symm))
    go_upto_block 5 with fail
    go_cut [7, 9, 20] (fun x7 x9 x20 wx => ∃ (k x : Nat) (u2 : Bool), x7 = .int .i64 (k : Int) ∧ x9 = .bool u2 ∧ x20 = .int .i64 (x : Int) ∧ k ≤ n ∧ x ≤ 100009 ∧ Hid (FDone (sxF (bt s) n) (j, us, 0) (k, u2, x)) ∧ wx = w)
    case first =>
      as_aux_lemma =>
      go_wp2_with fail
      go_loopw [7, 9, 20] (fun iv uv ev wx => ∃ (k x : Nat) (u2 : Bool), iv = .int .i64 (k : Int) ∧ uv = .bool u2 ∧ ev = .int .i64 (x : Int) ∧ k ≤ n ∧ x ≤ 100009 ∧ Hid (FGo (sxF (bt s) n) (j, us, 0) (k, u2, x)) ∧ wx = w) (fun iv _ _ _ => n - (intOf iv).toNat)
      case atStart => exact ⟨j, 0, us, rfl, rfl, rfl, hj3, by omega, Lib.hid .refl, rfl⟩
      case round =>
        obtain ⟨k, x, u2, rfl, rfl, rfl, hk, hx1, HF, rfl⟩ := hrel
        by_cases hlt : k < n
        · have i7 := ixB s k (by rw [HN.out]; exact hlt)
          by_cases hd : isD (bt s k)
          · obtain ⟨y, hy⟩ : ∃ y, bt s k = y + 48 := ⟨bt s k - 48, by unfold isD at hd; omega⟩
            have hy9 : y < 10 := by unfold isD at hd; omega
            have hR : sxF (bt s) n (k, u2, x) = some (k + 1, u2, if x < 10000 then x * 10 + y else x) := by
              unfold sxF
              simp only
              rw [if_pos ⟨hlt, .inl hd⟩, hy]
              have : ¬ (y + 48 = 95) := by omega
              simp [this]
            have HR := Lib.hid (HF.out.step hR)
            rw [hy] at i7
            have q1 : (((y + 48 : Nat) : Int) == 95) = false := by rw [beq_eq_false_iff_ne]; omega
            clear hd hy hR
            by_cases hxx : x < 10000
            · have HR2 := Lib.hid (show FGo (sxF (bt s) n) (j, us, 0) (k + 1, u2, x * 10 + y) by have := HR.out; rwa [if_pos hxx] at this)
              clear HR
              go_wp2_with fail
              go_roundw
              case rel => exact ⟨k + 1, x * 10 + y, u2, by go_num, rfl, by go_num, by omega, by omega, HR2, trivial⟩
              case measure => simp [intOf]; omega
            · have HR2 := Lib.hid (show FGo (sxF (bt s) n) (j, us, 0) (k + 1, u2, x) by have := HR.out; rwa [if_neg hxx] at this)
              clear HR
              go_wp2_with fail
              go_roundw
              case rel => exact ⟨k + 1, x, u2, by go_num, rfl, by go_num, by omega, by omega, HR2, trivial⟩
              case measure => simp [intOf]; omega
          · by_cases h95 : bt s k = 95
            · have HR := Lib.hid (HF.out.step (show sxF (bt s) n (k, u2, x) = some (k + 1, true, x) by unfold sxF; simp only; rw [if_pos ⟨hlt, .inr h95⟩, if_neg (fun h => h.1 h95), decide_eq_true h95, Bool.or_true]))
              rw [h95] at i7
              clear hd h95
              go_wp2_with fail
              go_roundw
              case rel => exact ⟨k + 1, x, true, by go_num, rfl, by go_num, by omega, by omega, HR, trivial⟩
              case measure => simp [intOf]; omega
            · have HR := Lib.hid (HF.out.fin (show sxF (bt s) n (k, u2, x) = none by unfold sxF; simp only; rw [if_neg (fun h => h.2.elim hd h95)]))
              have q1 : (((bt s k : Nat) : Int) == 95) = false := by rw [beq_eq_false_iff_ne]; omega
              have hd8 : bt s k < 48 ∨ 57 < bt s k := by unfold isD at hd; omega
              clear hd h95
              generalize bt s k = y at i7 q1 hd8
              rcases hd8 with hd8 | hd8
              · go_wp2_with fail
                go_meet
                exact ⟨k, x, u2, rfl, rfl, rfl, hk, hx1, HR, rfl⟩
              · go_wp2_with fail
                go_meet
                exact ⟨k, x, u2, rfl, rfl, rfl, hk, hx1, HR, rfl⟩
        · have HR := Lib.hid (HF.out.fin (show sxF (bt s) n (k, u2, x) = none by unfold sxF; simp only; rw [if_neg (fun h => hlt h.1)]))
          go_wp2_with fail
          go_meet
          exact ⟨k, x, u2, rfl, rfl, rfl, hk, hx1, HR, rfl⟩
    case rest =>
    as_aux_lemma =>
    obtain ⟨k, x, u2, rfl, rfl, rfl, hk, hx1, HE, rfl⟩ := hcut
    obtain ⟨w, rfl⟩ : ∃ z : World, z = wc := ⟨_, rfl⟩
    obtain ⟨z, hz⟩ : ∃ z : Int, z = (x : Int) * es := ⟨_, rfl⟩
    have HZ0 := Lib.hid hz
    obtain ⟨hz1, hz2⟩ : -100009 ≤ z ∧ z ≤ 100009 := by rw [hz]; rcases hes1 with h | h <;> rw [h] <;> omega
    have hzz : (x : Int) * es = z := hz.symm
    have HT := Lib.hid (show RfTail hx (bt s) n ⟨i, us, dot, true, nd, nm, mant, tr, dp⟩ z k u2 from .inl ⟨hlt, by rw [HMk.out]; exact hlm.out.2, j, k, x, HJ.out, HJd.out.1, HJd.out.2, HE.out, rfl, by
      rw [HZ0.out, HES.out]
      by_cases h : bt s (i + 1) = 45
      · rw [if_pos h, if_pos ⟨hp1, h⟩]; omega
      · rw [if_neg h, if_neg (fun k => h k.2)]; omega⟩)
    clear hz hes1 HE
    obtain ⟨ex, hex⟩ : ∃ ex : Int, ex = if mant = 0 then 0 else P2 + z - K2 := ⟨_, rfl⟩
    have HEX := Lib.hid hex
    have hex1 : -300000 ≤ ex ∧ ex ≤ 300000 := by rw [hex]; split <;> omega
    have HEX1 := Lib.hid hex1
    clear hex hex1
    have hsl := fun W => slice_str_hi Tryz.underlying9 s (k : Int) k rfl (by rw [HN.out]; omega) W
    have hU := fun W => suok_any (s.extract 0 k) W (by simp; rw [HN.out]; omega)
    obtain ⟨bu, hbu⟩ : ∃ b, uOk (stripB (s.extract 0 k)) = b := ⟨_, rfl⟩
    simp only [hbu] at hU
    have HBU := Lib.hid hbu
    clear hbu
    obtain ⟨sk, hsk⟩ : ∃ x, s.extract 0 k = x := ⟨_, rfl⟩
    simp only [hsk] at hU hsl
    have HFin := Lib.hid (show ∀ u : Bool, u = u2 → (u = true → bu = true) → RfOk s mant ex ng tr hx k from fun u hu hb => by
      unfold RfOk
      rw [HN.out]
      refine ⟨HNG.out.symm, HX.out.symm, ⟨i, us, dot, true, nd, nm, mant, tr, dp⟩, z, u2, by rw [HO3.out]; exact HI.out.1, rfl, HT.out, rfl, rfl, ?_, fun h => by rw [HBU.out]; exact hb (hu.trans h)⟩
      simp only
      rw [HEX.out, HP2.out, HK2.out, HP.out])
    clear hsk
    by_cases hm0 : mant = 0
    · have HE0 := Lib.hid (show ex = 0 by rw [HEX.out, if_pos hm0])
      subst hm0
      cases u2
      · go_wp2_with fail
        (try simp only [Exit.inBlock, Exit.then]); refine bodyPost_ret (results_tmp7 rfl _ _ _) rfl ?_
        exact ⟨rfl, 0, 0, ng, tr, hx, k, true, rfl, by decide, by constructor <;> decide, by rw [HN.out]; omega, fun _ => by have h := HFin.out false rfl (fun h => by cases h); rw [HE0.out] at h; exact h⟩
      · cases bu
        · go_wp2_with (go_at_call 77; refine (hU _).mono ?_; rintro e w9 ⟨rfl, rfl⟩)
          (try simp only [Exit.inBlock, Exit.then]); refine bodyPost_ret (results_tmp7 rfl _ _ _) rfl ?_
          exact ⟨rfl, 0, 0, ng, tr, hx, k, false, rfl, by decide, by constructor <;> decide, by rw [HN.out]; omega, fun h => by cases h⟩
        · go_wp2_with (go_at_call 77; refine (hU _).mono ?_; rintro e w9 ⟨rfl, rfl⟩)
          (try simp only [Exit.inBlock, Exit.then]); refine bodyPost_ret (results_tmp7 rfl _ _ _) rfl ?_
          exact ⟨rfl, 0, 0, ng, tr, hx, k, true, rfl, by decide, by constructor <;> decide, by rw [HN.out]; omega, fun _ => by have h := HFin.out true rfl (fun _ => by first | rfl | trivial); rw [HE0.out] at h; exact h⟩
    · have HE0 := Lib.hid (show P2 + z - K2 = ex by rw [HEX.out, if_neg hm0])
      have g0 : ((mant : Int) != 0) = true := by rw [bne_iff_ne]; omega
      cases u2
      · go_wp2_with fail
        (try simp only [Exit.inBlock, Exit.then]); refine bodyPost_ret (results_tmp7 rfl _ _ _) rfl ?_
        exact ⟨rfl, mant, ex, ng, tr, hx, k, true, by rw [← HE0.out]; rfl, hm64, HEX1.out, by rw [HN.out]; omega, fun _ => HFin.out false rfl (fun h => by cases h)⟩
      · cases bu
        · go_wp2_with (go_at_call 77; refine (hU _).mono ?_; rintro e w9 ⟨rfl, rfl⟩)
          (try simp only [Exit.inBlock, Exit.then]); refine bodyPost_ret (results_tmp7 rfl _ _ _) rfl ?_
          exact ⟨rfl, mant, ex, ng, tr, hx, k, false, by rw [← HE0.out]; rfl, hm64, HEX1.out, by rw [HN.out]; omega, fun h => by cases h⟩
        · go_wp2_with (go_at_call 77; refine (hU _).mono ?_; rintro e w9 ⟨rfl, rfl⟩)
          (try simp only [Exit.inBlock, Exit.then]); refine bodyPost_ret (results_tmp7 rfl _ _ _) rfl ?_
          exact ⟨rfl, mant, ex, ng, tr, hx, k, true, by rw [← HE0.out]; rfl, hm64, HEX1.out, by rw [HN.out]; omega, fun _ => HFin.out true rfl (fun _ => by first | rfl | trivial)⟩
end Go.Proofs.YtilkcnoooecngaaGreatDoor
