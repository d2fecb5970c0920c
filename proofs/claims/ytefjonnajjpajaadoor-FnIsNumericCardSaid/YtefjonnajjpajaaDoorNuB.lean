/- bits: never over for decimals of moderate points. -/
import Derived.Test.YtefjonnajjpajaaDoorNuW
import Derived.Test.YtefjonnajjpajaaDoorNuO
namespace Go.Proofs.YtefjonnajjpajaaDoor
open Go.RowKit
set_option linter.unusedVariables false
abbrev tF : TypeId := 46
def fmC : Array Value := #[.int .i64 52, .int .i64 11, .int .i64 (-1023)]
/-- A measure of the second loop, read in the world. -/
def bms (w : World) (b : Nat) : Nat :=
  match w.cell? ⟨b, 1, none⟩ with
  | some (.int _ dp) => match w.cell? ⟨b, 0, none⟩ with
    | some (.slice (some a) _ _) => match w.cell? a with
      | some (.int _ d) => (-dp).toNat * 10 + (9 - d.toNat)
      | _ => 0
    | _ => 0
  | _ => 0
theorem Dec.bms_eq {w : World} {B b : Nat} {v : Value} {ds : List Nat} {dp : Int} (h : Dec w B b v ds dp) (hg : Good ds) : bms w b = ms dp (hd ds) := by
  obtain ⟨_, d, t, rfl, h0⟩ := hg
  obtain ⟨A, cap, rfl, hc1, hc2, hgA⟩ := h.form
  obtain ⟨g, rfl, hBg, hgs, hgb, hc⟩ := hgA (by simp)
  have e1 : w.cell? ⟨b, 1, none⟩ = some (.int .i64 dp) := h.blk.cell 1 rfl
  have e0 : w.cell? ⟨b, 0, none⟩ = some (.slice (some ⟨g, 0, none⟩) (d :: t).length cap) := h.blk.cell 0 rfl
  have e2 := hc 0 d rfl
  unfold bms
  rw [e1, e0]
  simp only []
  rw [e2]
  simp [ms, hd, dc]
def BitsRet (B : Nat) (w : World) (e : Ending) (w' : World) : Prop := (∃ n : Int, e = .returned (.tuple #[.int .u64 n, .bool false])) ∧ Fm B w w'
def St (w : World) (B b : Nat) (wr : World) (v : Value) (ds : List Nat) (dp : Int) : Prop := Dec wr B b v ds dp ∧ Good ds ∧ Fm B w wr
set_option maxHeartbeats 2000000 in
set_option maxRecDepth 100000 in
theorem bits_zero (B b : Nat) (v : Value) (dp : Int) (w : World) (h : Dec w B b v [] dp) :
    Calls Tryd.prog 22 #[.pointer (some ⟨b, 0, none⟩), .agg fmC] w (BitsRet B w) := by
  obtain ⟨A, cap, rfl, hc1, hc2, hgA⟩ := h.form
  have hb : b ≠ w.heap.size := by have := h.blk.lt; omega
  have hD := h.alloc (.cells fmC tF)
  have f0 : (w.alloc (.cells fmC tF)).cell? ⟨b, 0, none⟩ = some (.slice A 0 cap) := hD.blk.cell 0 rfl
  have hN := Blk.new w tF fmC
  have g0 : (w.alloc (.cells fmC tF)).cell? ⟨w.heap.size, 0, none⟩ = some (.int .i64 52) := hN.cell 0 rfl
  have g1 : (w.alloc (.cells fmC tF)).cell? ⟨w.heap.size, 1, none⟩ = some (.int .i64 11) := hN.cell 1 rfl
  have HB := Lib.hid (show Fm B w (w.alloc (.cells fmC tF)) from (Fm.refl B w).belowS ((Below.refl _ w).alloc (Nat.le_refl _) _) h.lt)
  clear h hD hN hc1 hc2 hgA
  unfold fmC at *
  go_enter Tryd.func22, Tryd.ntmps22
  go_wp2_with fail
  go_quiet (fail)
  go_wp2
  go_ret2
  exact ⟨⟨0, rfl⟩, HB.out.drewN nq⟩
set_option maxHeartbeats 2000000 in
set_option maxRecDepth 100000 in
theorem bits_good (B b : Nat) (v : Value) (ds : List Nat) (dp : Int) (w : World) (h : Dec w B b v ds dp) (hg : Good ds) (hl : ds.length ≤ 1000) (hdp : -200 ≤ dp ∧ dp ≤ 200) :
    Calls Tryd.prog 22 #[.pointer (some ⟨b, 0, none⟩), .agg fmC] w (BitsRet B w) := by
  obtain ⟨hdp1, hdp2⟩ := hdp
  obtain ⟨L, hL⟩ : ∃ L, ds.length = L := ⟨_, rfl⟩
  have HL := Lib.hid hL
  have hL0 : L ≠ 0 := by
    obtain ⟨_, d, t, rfl, _⟩ := hg
    simp at hL; omega
  obtain ⟨A, cap, rfl, hc1, hc2, hgA⟩ := h.form
  rw [hL] at h hl
  have hD := h.alloc (.cells fmC tF)
  have f0 : (w.alloc (.cells fmC tF)).cell? ⟨b, 0, none⟩ = some (.slice A L cap) := hD.blk.cell 0 rfl
  have f1 : (w.alloc (.cells fmC tF)).cell? ⟨b, 1, none⟩ = some (.int .i64 dp) := hD.blk.cell 1 rfl
  have hN := Blk.new w tF fmC
  have g0 : (w.alloc (.cells fmC tF)).cell? ⟨w.heap.size, 0, none⟩ = some (.int .i64 52) := hN.cell 0 rfl
  have g1 : (w.alloc (.cells fmC tF)).cell? ⟨w.heap.size, 1, none⟩ = some (.int .i64 11) := hN.cell 1 rfl
  have HB := Lib.hid (show Fm B w (w.alloc (.cells fmC tF)) from (Fm.refl B w).belowS ((Below.refl _ w).alloc (Nat.le_refl _) _) h.lt)
  have HN := Lib.hid hN
  have HD := Lib.hid hD
  have HG := Lib.hid hg
  have e0 : ((L : Int) == 0) = false := by rw [beq_eq_false_iff_ne]; omega
  have d1 : decide (dp < -330) = false := decide_eq_false (by omega)
  have d2 : decide (310 < dp) = false := decide_eq_false (by omega)
  have d3 : decide (dp > 310) = false := decide_eq_false (by omega)
  clear h hD hN hc1 hc2 hgA hg hL hL0
  unfold fmC at *
  go_enter Tryd.func22, Tryd.ntmps22
  go_wp2_with fail
  go_quiet (fail)
  have HS := Lib.hid (show ∃ W, W = (w.alloc (.cells #[.int .i64 52, .int .i64 11, .int .i64 (-1023)] tF)).drewN nq ∧ Dec W B b (.slice A L cap) ds dp ∧ Blk W w.heap.size tF #[.int .i64 52, .int .i64 11, .int .i64 (-1023)] ∧ Fm B w W from ⟨_, rfl, HD.out.drewN nq, HN.out, HB.out.drewN nq⟩)
  obtain ⟨W, hW, hD, hN, hB⟩ := HS.out
  have f0' : W.cell? ⟨b, 0, none⟩ = some (.slice A L cap) := hD.blk.cell 0 rfl
  have f1' : W.cell? ⟨b, 1, none⟩ = some (.int .i64 dp) := hD.blk.cell 1 rfl
  have HDW := Lib.hid hD
  obtain ⟨F, hF⟩ : ∃ F, w.heap.size = F := ⟨_, rfl⟩
  have HNW := Lib.hid (show Blk W F tF #[.int .i64 52, .int .i64 11, .int .i64 (-1023)] from hF ▸ hN)
  have HBW := Lib.hid hB
  rw [show (w.alloc (.cells #[.int .i64 52, .int .i64 11, .int .i64 (-1023)] 46)).drewN nq = W from hW.symm]
  clear HS hW hD hN hB f0 f1 g0 g1 HB HN HD
  go_wp2_with fail
  rw [hF]
  go_loopw [7] (fun ev wr => ∃ (z : Int), ev = .int .i64 z ∧ 0 ≤ z ∧ z ≤ 900 ∧ Hid (∃ (v' : Value) (r : List Nat) (p : Int), St w B b wr v' r p ∧ Blk wr F tF #[.int .i64 52, .int .i64 11, .int .i64 (-1023)] ∧ 17 * z + 59 * p + pc p (hd r) ≤ 12000 ∧ -200 ≤ p ∧ p ≤ 200 ∧ (r.length : Int) ≤ 1000 + 70 * z ∧ (z = 0 ∨ -20 ≤ p))) (fun ev _ => 1000 - (intOf ev).toNat)
  case atStart => exact ⟨0, rfl, by omega, by omega, Lib.hid ⟨_, ds, dp, ⟨HDW.out, HG.out, HBW.out⟩, HNW.out, by unfold pc; split <;> (try split) <;> (try split) <;> omega, by omega, by omega, by have := HL.out; omega, by omega⟩⟩
  case round =>
    clear f0' f1'
    obtain ⟨z, rfl, hz1, hz2, HS⟩ := hrel
    obtain ⟨v1, r, p, ⟨hD, hg, hB⟩, hN, hpot, hp1, hp2, hlr, hzp⟩ := HS.out
    have f1 : wr.cell? ⟨b, 1, none⟩ = some (.int .i64 p) := hD.blk.cell 1 rfl
    have HB := Lib.hid hB
    have HN := Lib.hid hN
    have HD := Lib.hid hD
    have HG := Lib.hid hg
    have HP := Lib.hid hpot
    by_cases hp0 : p > 0
    · obtain ⟨k, hk, hkc⟩ : ∃ k : Nat, (k : Int) = min (3 * p) 59 ∧ (3 * p ≤ 59 ∧ 3 * p = (k : Int) ∨ 59 < 3 * p ∧ k = 59) := ⟨(min (3 * p) 59).toNat, by omega, by omega⟩
      have hk59 : k ≤ 59 := by omega
      have hk3 : 3 ≤ k := by omega
      have hT := half_any B b k v1 r p wr HD.out HG.out (by omega) (by omega) hk59 (by omega)
      have HK := Lib.hid hk
      clear hD hg hB hN hpot HS hzp hk
      obtain ⟨k0, hk0⟩ : ∃ k0, k0 = k := ⟨_, rfl⟩
      have HK0 := Lib.hid hk0
      clear hk0
      rcases hkc with ⟨hc1, hc2⟩ | ⟨hc1, rfl⟩
      all_goals
        have Hc := Lib.hid hlr
        go_wp2_with (go_at_call 34; refine halt_H ?_)
        refine resume_H ?_
        refine hT.mono ?_
        rintro e w1 ⟨rfl, ⟨v2, r2, i, hH, hD2⟩, k2⟩
        have hps := pot_step HG.out hH (by omega) hp2 HK.out HP.out
        have hl2 := hH.len
        have hl3 := trimD_len r2
        have hz3 := hps.1
        have hpc : 0 ≤ pc (p - ((i : Int) - 1)) (hd r2) := by unfold pc; split <;> (try split) <;> (try split) <;> omega
        have hz4 : z + (k0 : Int) ≤ 900 := by have := hps.2.1; have := HK0.out; omega
        rw [← (trimD_good hH.good).2, ← HK0.out] at hps
        have HR := Lib.hid (show ∃ (v' : Value) (r : List Nat) (p : Int), St w B b w1 v' r p ∧ Blk w1 F tF #[.int .i64 52, .int .i64 11, .int .i64 (-1023)] ∧ 17 * (z + (k0 : Int)) + 59 * p + pc p (hd r) ≤ 12000 ∧ -200 ≤ p ∧ p ≤ 200 ∧ (r.length : Int) ≤ 1000 + 70 * (z + (k0 : Int)) ∧ (z + (k0 : Int) = 0 ∨ -20 ≤ p) from
          ⟨v2, trimD r2, _, ⟨hD2, (trimD_good hH.good).1, HB.out.trans k2⟩, k2.fr _ _ _ (by decide) (by decide) HN.out, hps.1, by omega, by omega, by have := Hc.out; have := HK0.out; omega, .inr hps.2.1⟩)
        clear hT hH hD2 k2 hps hl2 hl3 hz3 hpc f1
        go_wp2_with fail
        go_roundw
        case rel => exact ⟨z + (k0 : Int), (by rw [HK0.out]; try rfl), by omega, by omega, HR⟩
        case measure => simp [intOf]; omega
    · go_wp2_with fail
      have hms : ms p (hd r) ≤ 2009 := by unfold ms; omega
      go_loopw [7] (fun ev wr => ∃ (z : Int), ev = .int .i64 z ∧ -200000 ≤ z ∧ z ≤ 900 ∧ Hid (∃ (v' : Value) (r : List Nat) (p : Int), St w B b wr v' r p ∧ Blk wr F tF #[.int .i64 52, .int .i64 11, .int .i64 (-1023)] ∧ -300 ≤ p ∧ p ≤ 100 ∧ z + 59 * (3100 - (ms p (hd r) : Int)) ≥ 0 ∧ r.length + 20 * ms p (hd r) ≤ 200000)) (fun _ wr => bms wr b)
      case atStart => exact ⟨z, rfl, by omega, hz2, Lib.hid ⟨v1, r, p, ⟨HD.out, HG.out, HB.out⟩, HN.out, by omega, by omega, by omega, by omega⟩⟩
      case round =>
        clear HB HN HD HG HP HS hD hg hB hN hpot f1 hzp hms hlr
        rename_i zz
        obtain ⟨z, rfl, hz1, hz2, HS⟩ := hrel
        obtain ⟨v1, r, p, ⟨hD, hg, hB⟩, hN, hp1, hp2, hm, hlr⟩ := HS.out
        have hbm := hD.bms_eq hg
        have f1 : wr.cell? ⟨b, 1, none⟩ = some (.int .i64 p) := hD.blk.cell 1 rfl
        have HB := Lib.hid hB
        have HN := Lib.hid hN
        have HD := Lib.hid hD
        have HG := Lib.hid hg
        obtain ⟨hh1, hh9⟩ := hd_good hg
        by_cases hc : p < 0 ∨ hd r < 5
        · obtain ⟨k, hk, hk1, hk59, hkc⟩ : ∃ k : Nat, (if p < 0 then (k : Int) = min (-3 * p) 59 else k = 1) ∧ 1 ≤ k ∧ k ≤ 59 ∧ (p < 0 ∧ -3 * p ≤ 59 ∧ -3 * p = (k : Int) ∨ p < 0 ∧ 59 < -3 * p ∧ k = 59 ∨ 0 ≤ p ∧ k = 1) := by
            by_cases hn : p < 0
            · exact ⟨(min (-3 * p) 59).toNat, by rw [if_pos hn]; omega, by omega, by omega, by omega⟩
            · exact ⟨1, by rw [if_neg hn], by omega, by omega, by omega⟩
          have hT := double_any B b k v1 r p wr HD.out HG.out (by omega) hk1 hk59 (by omega)
          have HK := Lib.hid hk
          have HC := Lib.hid hc
          have HM := Lib.hid (And.intro hm hlr)
          have HBM := Lib.hid hbm
          obtain ⟨A1, cap1, rfl, hcc1, hcc2, hgA⟩ := hD.form
          obtain ⟨g, rfl, hBg, hgs, hgb, hcell⟩ := hgA (by obtain ⟨_, d, t, rfl, _⟩ := hg; simp)
          have f0 : wr.cell? ⟨b, 0, none⟩ = some (.slice (some ⟨g, 0, none⟩) r.length cap1) := HD.out.blk.cell 0 rfl
          have f2 : wr.cell? ⟨g, 0, none⟩ = some (.int .u8 (hd r : Nat)) := by
            obtain ⟨_, d, t, rfl, _⟩ := hg
            exact hcell 0 d rfl
          have hr0 : 1 ≤ r.length := by obtain ⟨_, d, t, rfl, _⟩ := hg; simp
          have hcM : cap1 ≤ 9223372036854775807 := hcc2
          obtain ⟨R, hR⟩ : ∃ R, r.length = R := ⟨_, rfl⟩
          obtain ⟨H, hH0⟩ : ∃ H, hd r = H := ⟨_, rfl⟩
          rw [hR] at f0 hr0 hcc1
          rw [hH0] at f2 hc hh1 hh9
          have HRH := Lib.hid (And.intro hR hH0)
          clear hD hg hB hN HS hk hm hlr hbm hcc2 hgA hBg hgs hgb hcell hR hH0
          obtain ⟨k0, hk0⟩ : ∃ k0, k0 = k := ⟨_, rfl⟩
          have HK0 := Lib.hid hk0
          clear hk0
          rcases hkc with ⟨hn, hc1, hc2⟩ | ⟨hn, hc1, rfl⟩ | ⟨hn, rfl⟩
          all_goals
            have h5 : p < 0 ∨ (0 ≤ p ∧ H < 5) := by omega
            clear hc
            rcases h5 with h5 | ⟨h5, h6⟩
          all_goals try omega
          all_goals
            go_wp2_with (go_at_call 35; refine halt_H ?_)
            refine resume_H ?_
            refine hT.mono ?_
            rintro e w1 ⟨rfl, ⟨v2, r2, i, hH, hD2⟩, k2⟩
            have hms := ms_step HG.out hH HC.out (by have := HK.out; simpa using this) (by omega)
            have hl2 := hH.len
            have hfw := hH.few
            have hl3 := trimD_len r2
            rw [← (trimD_good hH.good).2] at hms
            have hbm2 := hD2.bms_eq (trimD_good hH.good).1
            have HR := Lib.hid (show ∃ (v' : Value) (r : List Nat) (p : Int), St w B b w1 v' r p ∧ Blk w1 F tF #[.int .i64 52, .int .i64 11, .int .i64 (-1023)] ∧ -300 ≤ p ∧ p ≤ 100 ∧ (z - (k0 : Int)) + 59 * (3100 - (ms p (hd r) : Int)) ≥ 0 ∧ r.length + 20 * ms p (hd r) ≤ 200000 from
              ⟨v2, trimD r2, _, ⟨hD2, (trimD_good hH.good).1, HB.out.trans k2⟩, k2.fr _ _ _ (by decide) (by decide) HN.out, hms.2.1, hms.2.2, by have := HM.out.1; have := HK0.out; omega, by have := HM.out.2; omega⟩)
            have HMs := Lib.hid (show bms w1 b < bms wr b by rw [hbm2, HBM.out]; exact hms.1)
            have hz4 : -200000 ≤ z - (k0 : Int) ∧ z - (k0 : Int) ≤ 900 := by have := HM.out.1; have := HK0.out; omega
            clear hT hH hD2 k2 hms hl2 hl3 hfw hbm2 f0 f1 f2
            go_wp2_with fail
            go_roundw
            case rel => exact ⟨z - (k0 : Int), (by rw [HK0.out]; try rfl), hz4.1, hz4.2, HR⟩
            case measure => exact HMs.out
        · obtain ⟨A1, cap1, rfl, hcc1, hcc2, hgA⟩ := hD.form
          obtain ⟨g, rfl, hBg, hgs, hgb, hcell⟩ := hgA (by obtain ⟨_, d, t, rfl, _⟩ := hg; simp)
          have f0 : wr.cell? ⟨b, 0, none⟩ = some (.slice (some ⟨g, 0, none⟩) r.length cap1) := HD.out.blk.cell 0 rfl
          have f2 : wr.cell? ⟨g, 0, none⟩ = some (.int .u8 (hd r : Nat)) := by
            obtain ⟨_, d, t, rfl, _⟩ := hg
            exact hcell 0 d rfl
          have hr0 : 1 ≤ r.length := by obtain ⟨_, d, t, rfl, _⟩ := hg; simp
          have hcM : cap1 ≤ 9223372036854775807 := hcc2
          have hrl : r.length ≤ 200000 := by omega
          obtain ⟨R, hR⟩ : ∃ R, r.length = R := ⟨_, rfl⟩
          obtain ⟨H, hH0⟩ : ∃ H, hd r = H := ⟨_, rfl⟩
          have HRL := Lib.hid hrl
          rw [hR] at f0 hr0 hcc1
          rw [hH0] at f2 hc hh1 hh9
          have g2 : wr.cell? ⟨F, 2, none⟩ = some (.int .i64 (-1023)) := hN.cell 2 rfl
          have hz900 : -200000 ≤ z := hz1
          have hp0 : 0 ≤ p := by omega
          have hH5 : 5 ≤ H := by omega
          clear hD hg hB hN HS hm hlr hbm hcc2 hgA hBg hgs hgb hcell hR hH0 hc hrl
          by_cases hsh : z ≤ -1022
          · have hT := shift_any B b (-(-1022 - (z - 1))) _ r p wr HD.out HG.out (by have := HRL.out; omega) (by omega) (by omega)
            go_wp2_with (go_at_call 32; refine halt_H ?_)
            refine resume_H ?_
            refine hT.mono ?_
            rintro e wq ⟨rfl, ⟨vq, rq, pq, hgq, hlq, hpq, hDq⟩, kq⟩
            have hNq := kq.fr _ _ _ (by decide) (by decide) HN.out
            have HQ := Lib.hid (show ∃ (vq : Value) (rq : List Nat) (pq : Int), Dec wq B b vq rq pq ∧ Good rq ∧ Fm B w wq ∧ Blk wq F tF #[.int .i64 52, .int .i64 11, .int .i64 (-1023)] ∧ rq.length ≤ 700000 ∧ -300000 ≤ pq ∧ pq ≤ 300000 from
              ⟨vq, rq, pq, hDq, hgq, HB.out.trans kq, hNq, by have := HRL.out; omega, by omega, by omega⟩)
            clear hT hgq hlq hpq hDq kq hNq f0 f1 f2 g2
            go_wp2_with fail
            generalize hE : z - 1 + (-1022 - (z - 1)) = E
            have hE1 : -1022 ≤ E := by omega
            have hE2 : E ≤ 899 := by omega
            obtain ⟨vq, rq, pq, hDq, hGq, hBq, hNq, hlq, hpq1, hpq2⟩ := HQ.out
            have g0 : wq.cell? ⟨F, 0, none⟩ = some (.int .i64 52) := hNq.cell 0 rfl
            have g1 : wq.cell? ⟨F, 1, none⟩ = some (.int .i64 11) := hNq.cell 1 rfl
            have g2 : wq.cell? ⟨F, 2, none⟩ = some (.int .i64 (-1023)) := hNq.cell 2 rfl
            have HDq := Lib.hid hDq
            have HGq := Lib.hid hGq
            have HBq := Lib.hid hBq
            have HNq := Lib.hid hNq
            clear hE hDq hGq hBq hNq HQ
            go_quiet (fail)
            have hT2 := shift_any B b 53 vq rq pq (wq.drewN nq) (HDq.out.drewN nq) HGq.out (by omega) (by omega) (by omega)
            go_wp2_with (go_at_call 32; refine halt_H ?_)
            refine resume_H ?_
            refine hT2.mono ?_
            rintro e w2 ⟨rfl, ⟨v2, r2, p2, hg2, hl2, hp2', hD2⟩, k2⟩
            have HN2 := Lib.hid (k2.fr F tF _ (by decide) (by decide) HNq.out)
            have HB2 := Lib.hid ((HBq.out.drewN nq).trans k2)
            have hT3 := whole_any B b v2 r2 p2 w2 hD2 hg2 (by omega) (by omega)
            have hg0 : w2.cell? ⟨F, 0, none⟩ = some (.int .i64 52) := HN2.out.cell 0 rfl
            have hg1 : w2.cell? ⟨F, 1, none⟩ = some (.int .i64 11) := HN2.out.cell 1 rfl
            have hg2' : w2.cell? ⟨F, 2, none⟩ = some (.int .i64 (-1023)) := HN2.out.cell 2 rfl
            clear g0 g1 g2 hT2 hg2 hl2 hp2' hD2 k2
            go_wp2_with (go_at_call 36; refine halt_H ?_)
            refine resume_H ?_
            refine hT3.mono ?_
            rintro e w3 ⟨⟨n, hn1, hn2, rfl⟩, rfl⟩
            clear hT3
            by_cases hn : n = 9007199254740992
            · subst hn
              have hmb : (bits .and .u64 4503599627370496 4503599627370496 == 0) = false := by decide +kernel
              go_wp2_with fail
              go_quiet (fail)
              have HB4 := Lib.hid (HB2.out.drewN nq)
              go_wp2_with fail
              go_quiet (fail)
              have HB5 := Lib.hid (HB4.out.drewN nq)
              go_wp2
              go_ret2
              exact ⟨⟨_, rfl⟩, HB5.out⟩
            · have hnb : (n == 9007199254740992) = false := by rw [beq_eq_false_iff_ne]; exact hn
              clear hn
              by_cases hm : bits .and .u64 n 4503599627370496 = 0
              · have hmb : (bits .and .u64 n 4503599627370496 == 0) = true := by rw [beq_iff_eq]; exact hm
                clear hm
                go_wp2_with fail
                go_quiet (fail)
                have HB5 := Lib.hid (HB2.out.drewN nq)
                go_wp2
                go_ret2
                exact ⟨⟨_, rfl⟩, HB5.out⟩
              · have hmb : (bits .and .u64 n 4503599627370496 == 0) = false := by rw [beq_eq_false_iff_ne]; exact hm
                clear hm
                go_wp2_with fail
                go_quiet (fail)
                have HB5 := Lib.hid (HB2.out.drewN nq)
                go_wp2
                go_ret2
                exact ⟨⟨_, rfl⟩, HB5.out⟩
          · have HQ := Lib.hid (show ∃ (vq : Value) (rq : List Nat) (pq : Int), Dec wr B b vq rq pq ∧ Good rq ∧ Fm B w wr ∧ Blk wr F tF #[.int .i64 52, .int .i64 11, .int .i64 (-1023)] ∧ rq.length ≤ 700000 ∧ -300000 ≤ pq ∧ pq ≤ 300000 from
              ⟨_, r, p, HD.out, HG.out, HB.out, HN.out, by have := HRL.out; omega, by omega, by omega⟩)
            obtain ⟨wq, hwq⟩ : ∃ wq, wr = wq := ⟨_, rfl⟩
            obtain rfl := hwq
            go_wp2_with fail
            generalize hE : z - 1 = E
            have hE1 : -1022 ≤ E := by omega
            have hE2 : E ≤ 899 := by omega
            obtain ⟨vq, rq, pq, hDq, hGq, hBq, hNq, hlq, hpq1, hpq2⟩ := HQ.out
            have g0 : wr.cell? ⟨F, 0, none⟩ = some (.int .i64 52) := hNq.cell 0 rfl
            have g1 : wr.cell? ⟨F, 1, none⟩ = some (.int .i64 11) := hNq.cell 1 rfl
            have g2 : wr.cell? ⟨F, 2, none⟩ = some (.int .i64 (-1023)) := hNq.cell 2 rfl
            have HDq := Lib.hid hDq
            have HGq := Lib.hid hGq
            have HBq := Lib.hid hBq
            have HNq := Lib.hid hNq
            clear hE hDq hGq hBq hNq HQ
            go_quiet (fail)
            have hT2 := shift_any B b 53 vq rq pq (wr.drewN nq) (HDq.out.drewN nq) HGq.out (by omega) (by omega) (by omega)
            go_wp2_with (go_at_call 32; refine halt_H ?_)
            refine resume_H ?_
            refine hT2.mono ?_
            rintro e w2 ⟨rfl, ⟨v2, r2, p2, hg2, hl2, hp2', hD2⟩, k2⟩
            have HN2 := Lib.hid (k2.fr F tF _ (by decide) (by decide) HNq.out)
            have HB2 := Lib.hid ((HBq.out.drewN nq).trans k2)
            have hT3 := whole_any B b v2 r2 p2 w2 hD2 hg2 (by omega) (by omega)
            have hg0 : w2.cell? ⟨F, 0, none⟩ = some (.int .i64 52) := HN2.out.cell 0 rfl
            have hg1 : w2.cell? ⟨F, 1, none⟩ = some (.int .i64 11) := HN2.out.cell 1 rfl
            have hg2' : w2.cell? ⟨F, 2, none⟩ = some (.int .i64 (-1023)) := HN2.out.cell 2 rfl
            clear g0 g1 g2 hT2 hg2 hl2 hp2' hD2 k2
            go_wp2_with (go_at_call 36; refine halt_H ?_)
            refine resume_H ?_
            refine hT3.mono ?_
            rintro e w3 ⟨⟨n, hn1, hn2, rfl⟩, rfl⟩
            clear hT3
            by_cases hn : n = 9007199254740992
            · subst hn
              have hmb : (bits .and .u64 4503599627370496 4503599627370496 == 0) = false := by decide +kernel
              go_wp2_with fail
              go_quiet (fail)
              have HB4 := Lib.hid (HB2.out.drewN nq)
              go_wp2_with fail
              go_quiet (fail)
              have HB5 := Lib.hid (HB4.out.drewN nq)
              go_wp2
              go_ret2
              exact ⟨⟨_, rfl⟩, HB5.out⟩
            · have hnb : (n == 9007199254740992) = false := by rw [beq_eq_false_iff_ne]; exact hn
              clear hn
              by_cases hm : bits .and .u64 n 4503599627370496 = 0
              · have hmb : (bits .and .u64 n 4503599627370496 == 0) = true := by rw [beq_iff_eq]; exact hm
                clear hm
                go_wp2_with fail
                go_quiet (fail)
                have HB5 := Lib.hid (HB2.out.drewN nq)
                go_wp2
                go_ret2
                exact ⟨⟨_, rfl⟩, HB5.out⟩
              · have hmb : (bits .and .u64 n 4503599627370496 == 0) = false := by rw [beq_eq_false_iff_ne]; exact hm
                clear hm
                go_wp2_with fail
                go_quiet (fail)
                have HB5 := Lib.hid (HB2.out.drewN nq)
                go_wp2
                go_ret2
                exact ⟨⟨_, rfl⟩, HB5.out⟩
end Go.Proofs.YtefjonnajjpajaaDoor
