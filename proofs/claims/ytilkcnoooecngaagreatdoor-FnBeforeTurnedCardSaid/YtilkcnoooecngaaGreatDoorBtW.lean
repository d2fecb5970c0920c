/- digit, nearUp, whole: read only. No conditions but the point's bounds. -/
import Derived.Test.YtilkcnoooecngaaGreatDoorBtS
namespace Go.Proofs.YtilkcnoooecngaaGreatDoor
open Go.RowKit
set_option linter.unusedVariables false
def dgI (ds : List Nat) (i : Int) : Nat := if 0 ≤ i then dg ds i.toNat else 0
theorem dgI_nat (ds : List Nat) (k : Nat) : dgI ds (k : Int) = dg ds k := by unfold dgI; rw [if_pos (by omega)]; rfl
theorem dgI_neg {ds : List Nat} {i : Int} (h : ¬ 0 ≤ i) : dgI ds i = 0 := by unfold dgI; rw [if_neg h]
theorem dgI_lt {ds : List Nat} (h : Dig ds) (i : Int) : dgI ds i < 10 := by
  unfold dgI
  split
  · exact dg_lt h _
  · decide
def nearF (ds : List Nat) (i : Int) : Bool :=
  if 0 ≤ i ∧ i.toNat < ds.length then
    if dg ds i.toNat = 5 then
      if i.toNat + 1 = ds.length then if i.toNat = 0 then false else ((dg ds (i.toNat - 1) : Int) % 2 != 0)
      else true
    else decide ((5 : Int) ≤ (dg ds i.toNat : Int))
  else false
theorem near_neg {ds : List Nat} {i : Int} (h : ¬ 0 ≤ i) : nearF ds i = false := by unfold nearF; rw [if_neg (by omega)]
theorem near_out {ds : List Nat} {k : Nat} (h : ds.length ≤ k) : nearF ds (k : Int) = false := by unfold nearF; rw [if_neg (by simp; omega)]
theorem near_any {ds : List Nat} {k : Nat} (h : k < ds.length) (h5 : dg ds k ≠ 5) : nearF ds (k : Int) = decide ((5 : Int) ≤ (dg ds k : Int)) := by
  unfold nearF
  rw [if_pos ⟨by omega, by simpa using h⟩, Int.toNat_natCast, if_neg h5]
theorem near_5 {ds : List Nat} {k : Nat} (h : k < ds.length) (h5 : dg ds k = 5) (hk : k + 1 ≠ ds.length) : nearF ds (k : Int) = true := by
  unfold nearF
  rw [if_pos ⟨by omega, by simpa using h⟩, Int.toNat_natCast, if_pos h5, if_neg hk]
theorem near_50 {ds : List Nat} (h5 : dg ds 0 = 5) (hk : 0 + 1 = ds.length) : nearF ds ((0 : Nat) : Int) = false := by
  unfold nearF
  rw [if_pos ⟨by omega, by simp; omega⟩, Int.toNat_natCast, if_pos h5, if_pos hk, if_pos rfl]
theorem near_5s {ds : List Nat} {m : Nat} (h5 : dg ds (m + 1) = 5) (hk : m + 1 + 1 = ds.length) : nearF ds ((m + 1 : Nat) : Int) = ((dg ds m : Int) % 2 != 0) := by
  unfold nearF
  rw [if_pos ⟨by omega, by simp; omega⟩, Int.toNat_natCast, if_pos h5, if_pos hk, if_neg (by omega), Nat.add_sub_cancel]
def NearRet (ds : List Nat) (i : Int) (w : World) (e : Ending) (w' : World) : Prop := e = .returned (.bool (nearF ds i)) ∧ w' = w
/-- A step of whole. -/
def whF (ds : List Nat) (dp : Int) (s : Int × Int) : Option (Int × Int) := if s.2 < dp then some (IntKind.u64.wrap (IntKind.u64.wrap (s.1 * 10) + (dgI ds s.2 : Int)), s.2 + 1) else none
def WholeR (ds : List Nat) (dp m : Int) : Prop := ∃ n i, FDone (whF ds dp) (0, 0) (n, i) ∧ m = if nearF ds dp = true then IntKind.u64.wrap (n + 1) else n
theorem WholeR.uniq {ds : List Nat} {dp m m' : Int} (h : WholeR ds dp m) (h' : WholeR ds dp m') : m = m' := by
  obtain ⟨n, i, a, rfl⟩ := h
  obtain ⟨n', i', a', rfl⟩ := h'
  have e := a.uniq a'
  injection e with e1 e2
  subst e1
  rfl
set_option maxHeartbeats 1000000 in
set_option maxRecDepth 100000 in
theorem digit_any (B b : Nat) (v : Value) (ds : List Nat) (dp i : Int) (w : World) (h : Dec w B b v ds dp) (hg : Good ds) (hl : ds.length ≤ 100000000) :
    Calls Tryz.prog 96 #[.pointer (some ⟨b, 0, none⟩), .int .i64 i] w fun e w' => e = .returned (.int .u8 (dgI ds i : Int)) ∧ w' = w := by
  obtain ⟨A, cap, rfl, hc1, hc2, hgA⟩ := h.form
  obtain ⟨g, rfl, hBg, hgs, hgb, hc⟩ := hgA (by obtain ⟨_, d, t, rfl, _⟩ := hg; simp)
  have hM : cap ≤ 9223372036854775807 := hc2
  obtain ⟨L, hL⟩ : ∃ L, ds.length = L := ⟨_, rfl⟩
  rw [hL] at h hc1 hl
  have HL := Lib.hid hL
  have HG := Lib.hid hg
  have f0 : w.cell? ⟨b, 0, none⟩ = some (.slice (some ⟨g, 0, none⟩) L cap) := h.blk.cell 0 rfl
  have HD := Lib.hid h
  clear h hg hc hc2 hL hBg hgs hgb hgA
  by_cases h0 : 0 ≤ i
  · obtain ⟨k, rfl⟩ : ∃ k : Nat, i = k := ⟨i.toNat, by omega⟩
    by_cases hk : k < L
    · have f1 : w.cell? ⟨g, k, none⟩ = some (.int .u8 (dg ds k : Nat)) := HD.out.cellg k _ (dg_in (by rw [HL.out]; exact hk))
      have hx := dg_lt HG.out.1 k
      rw [dgI_nat]
      generalize dg ds k = x at *
      go_enter Tryz.func96, Tryz.ntmps96
      go_wp2
      go_ret
      exact ⟨rfl, rfl⟩
    · rw [dgI_nat, dg_out (by rw [HL.out]; omega)]
      go_enter Tryz.func96, Tryz.ntmps96
      go_wp2
      go_ret
      exact ⟨rfl, rfl⟩
  · rw [dgI_neg h0]
    go_enter Tryz.func96, Tryz.ntmps96
    go_wp2
    go_ret
    exact ⟨rfl, rfl⟩
set_option maxHeartbeats 1000000 in
set_option maxRecDepth 100000 in
theorem nearUp_any (B b : Nat) (v : Value) (ds : List Nat) (dp i : Int) (w : World) (h : Dec w B b v ds dp) (hg : Good ds) (hl : ds.length ≤ 100000000) :
    Calls Tryz.prog 97 #[.pointer (some ⟨b, 0, none⟩), .int .i64 i] w (NearRet ds i w) := by
  obtain ⟨A, cap, rfl, hc1, hc2, hgA⟩ := h.form
  obtain ⟨g, rfl, hBg, hgs, hgb, hc⟩ := hgA (by obtain ⟨_, d, t, rfl, _⟩ := hg; simp)
  have hM : cap ≤ 9223372036854775807 := hc2
  obtain ⟨L, hL⟩ : ∃ L, ds.length = L := ⟨_, rfl⟩
  rw [hL] at h hc1 hl
  have HL := Lib.hid hL
  have HG := Lib.hid hg
  have f0 : w.cell? ⟨b, 0, none⟩ = some (.slice (some ⟨g, 0, none⟩) L cap) := h.blk.cell 0 rfl
  have HD := Lib.hid h
  clear h hg hc hc2 hL hBg hgs hgb hgA
  by_cases h0 : 0 ≤ i
  · obtain ⟨k, rfl⟩ : ∃ k : Nat, i = k := ⟨i.toNat, by omega⟩
    by_cases hk : k < L
    · have f1 : w.cell? ⟨g, k, none⟩ = some (.int .u8 (dg ds k : Nat)) := HD.out.cellg k _ (dg_in (by rw [HL.out]; exact hk))
      have hx := dg_lt HG.out.1 k
      have HA := Lib.hid (fun h5 => near_any (ds := ds) (k := k) (by rw [HL.out]; exact hk) h5)
      have HA5 := Lib.hid (fun h5 hk2 => near_5 (ds := ds) (k := k) (by rw [HL.out]; exact hk) h5 hk2)
      have HA6 := Lib.hid (fun m (e : k = m + 1) (h5 : dg ds k = 5) hk2 => near_5s (ds := ds) (m := m) (e ▸ h5) hk2)
      have HA7 := Lib.hid (fun (e : k = 0) (h5 : dg ds k = 5) hk2 => near_50 (ds := ds) (e ▸ h5) hk2)
      generalize dg ds k = x at *
      by_cases hx5 : x = 5
      · subst hx5
        by_cases hkl : k + 1 = L
        · have g0 : ((k : Int) + 1 == (L : Int)) = true := by rw [beq_iff_eq]; omega
          rcases Nat.eq_zero_or_pos k with rfl | hk0
          · unfold NearRet
            rw [HA7.out rfl rfl (by rw [HL.out]; exact hkl)]
            go_enter Tryz.func97, Tryz.ntmps97
            go_wp2
            go_ret
            exact ⟨rfl, rfl⟩
          · obtain ⟨m, rfl⟩ : ∃ m, k = m + 1 := ⟨k - 1, by omega⟩
            have f2 : w.cell? ⟨g, m, none⟩ = some (.int .u8 (dg ds m : Nat)) := HD.out.cellg m _ (dg_in (by rw [HL.out]; omega))
            have hy := dg_lt HG.out.1 m
            unfold NearRet
            rw [HA6.out m rfl rfl (by rw [HL.out]; exact hkl)]
            generalize dg ds m = y at *
            have Hkl := Lib.hid hkl
            clear hkl
            go_enter Tryz.func97, Tryz.ntmps97
            go_wp2
            go_ret
            exact ⟨rfl, rfl⟩
        · have g0 : ((k : Int) + 1 == (L : Int)) = false := by rw [beq_eq_false_iff_ne]; omega
          have Hkl := Lib.hid hkl
          unfold NearRet
          rw [HA5.out rfl (by rw [HL.out]; exact hkl)]
          clear hkl
          go_enter Tryz.func97, Tryz.ntmps97
          go_wp2
          go_ret
          exact ⟨rfl, rfl⟩
      · have g0 : ((x : Int) == 5) = false := by rw [beq_eq_false_iff_ne]; omega
        unfold NearRet
        rw [HA.out hx5]
        go_enter Tryz.func97, Tryz.ntmps97
        go_wp2
        go_ret
        exact ⟨rfl, rfl⟩
    · unfold NearRet
      rw [near_out (by rw [HL.out]; omega)]
      go_enter Tryz.func97, Tryz.ntmps97
      go_wp2
      go_ret
      exact ⟨rfl, rfl⟩
  · unfold NearRet
    rw [near_neg h0]
    go_enter Tryz.func97, Tryz.ntmps97
    go_wp2
    go_ret
    exact ⟨rfl, rfl⟩
theorem wrap64u (x : Int) : 0 ≤ IntKind.u64.wrap x ∧ IntKind.u64.wrap x ≤ 18446744073709551615 := by
  have : IntKind.u64.wrap x = x % 18446744073709551616 := rfl
  rw [this]; omega
set_option maxHeartbeats 1000000 in
set_option maxRecDepth 100000 in
theorem whole_any (B b : Nat) (v : Value) (ds : List Nat) (dp : Int) (w : World) (h : Dec w B b v ds dp) (hg : Good ds) (hl : ds.length ≤ 100000000) (hdp : -1000000 ≤ dp ∧ dp ≤ 1000000) :
    Calls Tryz.prog 72 #[.pointer (some ⟨b, 0, none⟩)] w fun e w' => (∃ n : Int, 0 ≤ n ∧ n ≤ 18446744073709551615 ∧ WholeR ds dp n ∧ e = .returned (.int .u64 n)) ∧ w' = w := by
  have HD := Lib.hid h
  have HG := Lib.hid hg
  have f1 : w.cell? ⟨b, 1, none⟩ = some (.int .i64 dp) := h.blk.cell 1 rfl
  clear h hg
  go_enter Tryz.func72, Tryz.ntmps72
  go_wp2_with fail
  go_loopw [3, 4] (fun nv iv wr => ∃ (n i : Int), nv = .int .u64 n ∧ iv = .int .i64 i ∧ 0 ≤ n ∧ n ≤ 18446744073709551615 ∧ 0 ≤ i ∧ i ≤ 1000000 ∧ Hid (wr = w) ∧ Hid (FGo (whF ds dp) (0, 0) (n, i))) (fun _ iv _ => 1000000 - (intOf iv).toNat)
  case atStart => exact ⟨0, 0, rfl, rfl, by omega, by omega, by omega, by omega, Lib.hid rfl, Lib.hid .refl⟩
  case round =>
    obtain ⟨n, i, rfl, rfl, hn1, hn2, hi1, hi2, HW, HGo⟩ := hrel
    obtain rfl := HW.out.symm
    by_cases hlt : i < dp
    · have hT := digit_any B b v ds dp i w HD.out HG.out hl
      go_wp2_with (go_at_call 96; refine halt_H ?_)
      refine resume_H ?_
      refine hT.mono ?_
      rintro e w1 ⟨rfl, rfl⟩
      have hd := dgI_lt HG.out.1 i
      have HS := Lib.hid (HGo.out.step (show whF ds dp (n, i) = some (IntKind.u64.wrap (IntKind.u64.wrap (n * 10) + (dgI ds i : Int)), i + 1) by unfold whF; rw [if_pos hlt]))
      clear hT
      generalize dgI ds i = d at *
      go_wp2_with fail
      go_roundw
      case rel => exact ⟨_, i + 1, rfl, rfl, (wrap64u _).1, (wrap64u _).2, by omega, by omega, HW, HS⟩
      case measure => simp [intOf]; omega
    · have hT := nearUp_any B b v ds dp dp w HD.out HG.out hl
      go_wp2_with (go_at_call 97; refine halt_H ?_)
      refine resume_H ?_
      refine hT.mono ?_
      rintro e w1 ⟨rfl, rfl⟩
      have HN := Lib.hid (show ∀ m, m = (if nearF ds dp = true then IntKind.u64.wrap (n + 1) else n) → WholeR ds dp m from fun m hm => ⟨n, i, HGo.out.fin (by unfold whF; rw [if_neg (by simp; omega)]), hm⟩)
      clear hT
      generalize nearF ds dp = t at *
      cases t
      · go_wp2
        go_ret
        exact ⟨⟨n, hn1, hn2, HN.out _ rfl, rfl⟩, rfl⟩
      · go_wp2
        go_ret
        exact ⟨⟨_, (wrap64u (n + 1)).1, (wrap64u (n + 1)).2, HN.out _ rfl, rfl⟩, rfl⟩
end Go.Proofs.YtilkcnoooecngaaGreatDoor
