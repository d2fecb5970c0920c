/- Two rows of the same numbers are alike: TxAmong, TxAlike. No conditions. -/
import Derived.Test.YtimdmdjkkgdohaaGreatDoorPpQ
namespace Go.Proofs.YtimdmdjkkgdohaaGreatDoor
open Go.RowKit Go.MapKept
set_option linter.unusedVariables false
def TrueRet (w : World) (e : Ending) (w' : World) : Prop := e = .returned (.bool true) ∧ w' = w
set_option maxHeartbeats 1000000 in
set_option maxRecDepth 100000 in
theorem among_any {w : World} {B g n cap j : Nat} {s : List Int} (h : w.ownsRow B tI 1 (.slice (some ⟨g, 0, none⟩) n cap) n (s.map (Value.int .i64))) (hn : s.length = n) (hj : j < n) (hc : n ≤ cap ∧ cap ≤ 9223372036854775807) :
    Calls Tryz.prog 21 #[.slice (some ⟨g, 0, none⟩) n cap, .int .i64 (s.getD j 0)] w (TrueRet w) := by
  obtain ⟨hc1, hc2⟩ := hc
  have HO := Lib.hid h
  have HN := Lib.hid hn
  obtain ⟨c, hcj⟩ : ∃ c, s.getD j 0 = c := ⟨_, rfl⟩
  rw [hcj]
  have HC := Lib.hid hcj
  clear h hn hcj
  go_enter Tryz.func21, Tryz.ntmps21
  go_wp2_with fail
  go_loopw [9] (fun iv wr => ∃ k : Nat, iv = .int .i64 (k : Int) ∧ k ≤ j ∧ Hid (wr = w)) (fun iv _ => n - (intOf iv).toNat)
  case atStart => exact ⟨0, rfl, by omega, Lib.hid rfl⟩
  case round =>
    obtain ⟨k, rfl, hk, HW⟩ := hrel
    obtain rfl := HW.out.symm
    have f0 := own_cellI HO.out k (by rw [HN.out]; omega)
    have hkn : k < n := by omega
    by_cases he : s.getD k 0 = c
    · rw [he] at f0
      clear he
      go_wp2_with fail
      go_ret
      exact ⟨rfl, rfl⟩
    · have hkj : k < j := by
        rcases Nat.lt_or_ge k j with h | h
        · exact h
        · exact absurd (by rw [show k = j by omega]; exact HC.out) he
      have q1 : (s.getD k 0 == c) = false := by rw [beq_eq_false_iff_ne]; exact he
      clear he
      generalize s.getD k 0 = d at *
      go_wp2_with fail
      go_roundw
      case rel => exact ⟨k + 1, by go_num, by omega, Lib.hid trivial⟩
      case measure => simp [intOf]; omega
set_option maxHeartbeats 1000000 in
set_option maxRecDepth 100000 in
theorem alike_any {w : World} {B B2 n cap1 cap2 : Nat} {A1 A2 : Option Addr} {s : List Int} (h1 : w.ownsRow B tI 1 (.slice A1 n cap1) n (s.map (Value.int .i64))) (h2 : w.ownsRow B2 tI 1 (.slice A2 n cap2) n (s.map (Value.int .i64))) (hn : s.length = n) :
    Calls Tryz.prog 9 #[.slice A1 n cap1, .slice A2 n cap2] w (TrueRet w) := by
  have HN := Lib.hid hn
  by_cases h0 : n = 0
  · subst h0
    clear h1 h2 hn
    go_enter Tryz.func9, Tryz.ntmps9
    go_wp2_with fail
    refine wp_loop_rounds 1 ?_
    rw [rounds_succ]
    go_wp2_with fail
    refine wp_loop_rounds 1 ?_
    rw [rounds_succ]
    go_wp2_with fail
    go_ret
    exact ⟨rfl, rfl⟩
  · obtain ⟨g1, c1, e1, hc11, hc12⟩ := own_some h1 (by omega)
    obtain ⟨g2, c2, e2, hc21, hc22⟩ := own_some h2 (by omega)
    injection e1 with e1 _ e1c
    injection e2 with e2 _ e2c
    subst e1 e2 e1c e2c
    have hM1 : cap1 ≤ 9223372036854775807 := hc12
    have hM2 : cap2 ≤ 9223372036854775807 := hc22
    have HO1 := Lib.hid h1
    have HO2 := Lib.hid h2
    have HA1 := Lib.hid (fun j (hj : j < n) => among_any h1 hn hj ⟨hc11, hc12⟩)
    have HA2 := Lib.hid (fun j (hj : j < n) => among_any h2 hn hj ⟨hc21, hc22⟩)
    clear h1 h2 hn hc12 hc22 h0
    go_enter Tryz.func9, Tryz.ntmps9
    go_wp2_with fail
    go_loopw [11] (fun iv wr => ∃ k : Nat, iv = .int .i64 (k : Int) ∧ k ≤ n ∧ Hid (wr = w)) (fun iv _ => n - (intOf iv).toNat)
    case atStart => exact ⟨0, rfl, by omega, Lib.hid rfl⟩
    case round =>
      obtain ⟨k, rfl, hk, HW⟩ := hrel
      obtain rfl := HW.out.symm
      by_cases hlt : k < n
      · have f0 := own_cellI HO1.out k (by rw [HN.out]; exact hlt)
        have hT := HA2.out k hlt
        generalize s.getD k 0 = d at *
        go_wp2_with (go_at_call 21; refine halt_H ?_)
        refine resume_H ?_
        refine hT.mono ?_
        rintro e w2 ⟨rfl, hw⟩
        obtain rfl := hw.symm
        clear hT
        go_wp2_with fail
        go_roundw
        case rel => exact ⟨k + 1, by go_num, by omega, Lib.hid trivial⟩
        case measure => simp [intOf]; omega
      · clear hk
        go_wp2_with fail
        go_loopw [22] (fun iv wr => ∃ k : Nat, iv = .int .i64 (k : Int) ∧ k ≤ n ∧ Hid (wr = w)) (fun iv _ => n - (intOf iv).toNat)
        case atStart => exact ⟨0, rfl, by omega, Lib.hid rfl⟩
        case round =>
          clear hlt
          obtain ⟨k, rfl, hk, HW⟩ := hrel
          obtain rfl := HW.out.symm
          by_cases hlt : k < n
          · have f0 := own_cellI HO2.out k (by rw [HN.out]; exact hlt)
            have hT := HA1.out k hlt
            generalize s.getD k 0 = d at *
            go_wp2_with (go_at_call 21; refine halt_H ?_)
            refine resume_H ?_
            refine hT.mono ?_
            rintro e w2 ⟨rfl, hw⟩
            obtain rfl := hw.symm
            clear hT
            go_wp2_with fail
            go_roundw
            case rel => exact ⟨k + 1, by go_num, by omega, Lib.hid trivial⟩
            case measure => simp [intOf]; omega
          · go_wp2
            go_ret
            exact ⟨rfl, rfl⟩
end Go.Proofs.YtimdmdjkkgdohaaGreatDoor
