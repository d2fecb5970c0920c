/- digit, nearUp, whole: read only. No conditions but the point's bounds. -/
import Derived.Test.YtefjonnajjpajaaDoorNuS
namespace Go.Proofs.YtefjonnajjpajaaDoor
open Go.RowKit
set_option linter.unusedVariables false
def NearRet (w : World) (e : Ending) (w' : World) : Prop := (∃ t : Bool, e = .returned (.bool t)) ∧ w' = w
set_option maxHeartbeats 1000000 in
set_option maxRecDepth 100000 in
theorem digit_any (B b : Nat) (v : Value) (ds : List Nat) (dp i : Int) (w : World) (h : Dec w B b v ds dp) (hg : Good ds) (hl : ds.length ≤ 100000000) :
    Calls Tryd.prog 43 #[.pointer (some ⟨b, 0, none⟩), .int .i64 i] w fun e w' => (∃ d : Nat, d < 10 ∧ e = .returned (.int .u8 (d : Int))) ∧ w' = w := by
  obtain ⟨A, cap, rfl, hc1, hc2, hgA⟩ := h.form
  obtain ⟨g, rfl, hBg, hgs, hgb, hc⟩ := hgA (by obtain ⟨_, d, t, rfl, _⟩ := hg; simp)
  have hM : cap ≤ 9223372036854775807 := hc2
  obtain ⟨L, hL⟩ : ∃ L, ds.length = L := ⟨_, rfl⟩
  rw [hL] at h hc1 hl
  have HL := Lib.hid hL
  have HG := Lib.hid hg
  have f0 : w.cell? ⟨b, 0, none⟩ = some (.slice (some ⟨g, 0, none⟩) L cap) := h.blk.cell 0 rfl
  have HD := Lib.hid h
  clear h hg hc hc2 hL hBg hgs hgb hgA
  by_cases h0 : 0 ≤ i
  · obtain ⟨k, rfl⟩ : ∃ k : Nat, i = k := ⟨i.toNat, by omega⟩
    by_cases hk : k < L
    · have f1 : w.cell? ⟨g, k, none⟩ = some (.int .u8 (dg ds k : Nat)) := HD.out.cellg k _ (dg_in (by rw [HL.out]; exact hk))
      have hx := dg_lt HG.out.1 k
      generalize dg ds k = x at *
      go_enter Tryd.func43, Tryd.ntmps43
      go_wp2
      go_ret
      exact ⟨⟨x, hx, rfl⟩, rfl⟩
    · go_enter Tryd.func43, Tryd.ntmps43
      go_wp2
      go_ret
      exact ⟨⟨0, by decide, rfl⟩, rfl⟩
  · go_enter Tryd.func43, Tryd.ntmps43
    go_wp2
    go_ret
    exact ⟨⟨0, by decide, rfl⟩, rfl⟩
set_option maxHeartbeats 1000000 in
set_option maxRecDepth 100000 in
theorem nearUp_any (B b : Nat) (v : Value) (ds : List Nat) (dp i : Int) (w : World) (h : Dec w B b v ds dp) (hg : Good ds) (hl : ds.length ≤ 100000000) :
    Calls Tryd.prog 44 #[.pointer (some ⟨b, 0, none⟩), .int .i64 i] w (NearRet w) := by
  obtain ⟨A, cap, rfl, hc1, hc2, hgA⟩ := h.form
  obtain ⟨g, rfl, hBg, hgs, hgb, hc⟩ := hgA (by obtain ⟨_, d, t, rfl, _⟩ := hg; simp)
  have hM : cap ≤ 9223372036854775807 := hc2
  obtain ⟨L, hL⟩ : ∃ L, ds.length = L := ⟨_, rfl⟩
  rw [hL] at h hc1 hl
  have HL := Lib.hid hL
  have HG := Lib.hid hg
  have f0 : w.cell? ⟨b, 0, none⟩ = some (.slice (some ⟨g, 0, none⟩) L cap) := h.blk.cell 0 rfl
  have HD := Lib.hid h
  clear h hg hc hc2 hL hBg hgs hgb hgA
  by_cases h0 : 0 ≤ i
  · obtain ⟨k, rfl⟩ : ∃ k : Nat, i = k := ⟨i.toNat, by omega⟩
    by_cases hk : k < L
    · have f1 : w.cell? ⟨g, k, none⟩ = some (.int .u8 (dg ds k : Nat)) := HD.out.cellg k _ (dg_in (by rw [HL.out]; exact hk))
      have hx := dg_lt HG.out.1 k
      generalize dg ds k = x at *
      by_cases hx5 : x = 5
      · subst hx5
        by_cases hkl : k + 1 = L
        · have g0 : ((k : Int) + 1 == (L : Int)) = true := by rw [beq_iff_eq]; omega
          rcases Nat.eq_zero_or_pos k with rfl | hk0
          · go_enter Tryd.func44, Tryd.ntmps44
            go_wp2
            go_ret
            exact ⟨⟨_, rfl⟩, rfl⟩
          · obtain ⟨m, rfl⟩ : ∃ m, k = m + 1 := ⟨k - 1, by omega⟩
            have f2 : w.cell? ⟨g, m, none⟩ = some (.int .u8 (dg ds m : Nat)) := HD.out.cellg m _ (dg_in (by rw [HL.out]; omega))
            have hy := dg_lt HG.out.1 m
            generalize dg ds m = y at *
            have Hkl := Lib.hid hkl
            clear hkl
            go_enter Tryd.func44, Tryd.ntmps44
            go_wp2
            go_ret
            exact ⟨⟨_, rfl⟩, rfl⟩
        · have g0 : ((k : Int) + 1 == (L : Int)) = false := by rw [beq_eq_false_iff_ne]; omega
          have Hkl := Lib.hid hkl
          clear hkl
          go_enter Tryd.func44, Tryd.ntmps44
          go_wp2
          go_ret
          exact ⟨⟨_, rfl⟩, rfl⟩
      · have g0 : ((x : Int) == 5) = false := by rw [beq_eq_false_iff_ne]; omega
        go_enter Tryd.func44, Tryd.ntmps44
        go_wp2
        go_ret
        exact ⟨⟨_, rfl⟩, rfl⟩
    · go_enter Tryd.func44, Tryd.ntmps44
      go_wp2
      go_ret
      exact ⟨⟨_, rfl⟩, rfl⟩
  · go_enter Tryd.func44, Tryd.ntmps44
    go_wp2
    go_ret
    exact ⟨⟨_, rfl⟩, rfl⟩
theorem wrap64u (x : Int) : 0 ≤ IntKind.u64.wrap x ∧ IntKind.u64.wrap x ≤ 18446744073709551615 := by
  have : IntKind.u64.wrap x = x % 18446744073709551616 := rfl
  rw [this]; omega
set_option maxHeartbeats 1000000 in
set_option maxRecDepth 100000 in
theorem whole_any (B b : Nat) (v : Value) (ds : List Nat) (dp : Int) (w : World) (h : Dec w B b v ds dp) (hg : Good ds) (hl : ds.length ≤ 100000000) (hdp : -1000000 ≤ dp ∧ dp ≤ 1000000) :
    Calls Tryd.prog 36 #[.pointer (some ⟨b, 0, none⟩)] w fun e w' => (∃ n : Int, 0 ≤ n ∧ n ≤ 18446744073709551615 ∧ e = .returned (.int .u64 n)) ∧ w' = w := by
  have HD := Lib.hid h
  have HG := Lib.hid hg
  have f1 : w.cell? ⟨b, 1, none⟩ = some (.int .i64 dp) := h.blk.cell 1 rfl
  clear h hg
  go_enter Tryd.func36, Tryd.ntmps36
  go_wp2_with fail
  go_loopw [3, 4] (fun nv iv wr => ∃ (n i : Int), nv = .int .u64 n ∧ iv = .int .i64 i ∧ 0 ≤ n ∧ n ≤ 18446744073709551615 ∧ 0 ≤ i ∧ i ≤ 1000000 ∧ Hid (wr = w)) (fun _ iv _ => 1000000 - (intOf iv).toNat)
  case atStart => exact ⟨0, 0, rfl, rfl, by omega, by omega, by omega, by omega, Lib.hid rfl⟩
  case round =>
    obtain ⟨n, i, rfl, rfl, hn1, hn2, hi1, hi2, HW⟩ := hrel
    obtain rfl := HW.out.symm
    by_cases hlt : i < dp
    · have hT := digit_any B b v ds dp i w HD.out HG.out hl
      go_wp2_with (go_at_call 43; refine halt_H ?_)
      refine resume_H ?_
      refine hT.mono ?_
      rintro e w1 ⟨⟨d, hd, rfl⟩, rfl⟩
      clear hT
      go_wp2_with fail
      go_roundw
      case rel => exact ⟨_, i + 1, rfl, rfl, (wrap64u _).1, (wrap64u _).2, by omega, by omega, HW⟩
      case measure => simp [intOf]; omega
    · have hT := nearUp_any B b v ds dp dp w HD.out HG.out hl
      go_wp2_with (go_at_call 44; refine halt_H ?_)
      refine resume_H ?_
      refine hT.mono ?_
      rintro e w1 ⟨⟨t, rfl⟩, rfl⟩
      clear hT
      cases t
      · go_wp2
        go_ret
        exact ⟨⟨n, hn1, hn2, rfl⟩, rfl⟩
      · go_wp2
        go_ret
        exact ⟨⟨_, (wrap64u (n + 1)).1, (wrap64u (n + 1)).2, rfl⟩, rfl⟩
end Go.Proofs.YtefjonnajjpajaaDoor
