/- Whether the items of a list that came in are a list: LsRight, exactly. No conditions. -/
import Derived.Test.YthdkbokdikhojaaDoorLsA
namespace Go.Proofs.YthdkbokdikhojaaDoor
open Go.RowKit
set_option linter.unusedVariables false
def BoolIff (w : World) (p : Prop) (e : Ending) (w' : World) : Prop := ∃ b : Bool, e = .returned (.bool b) ∧ Below w.heap.size w w' ∧ (b = true ↔ p)
theorem BoolIff.yes {w : World} {p : Prop} {e : Ending} {w' : World} (h : BoolIff w p e w') (hp : p) : e = .returned (.bool true) ∧ Below w.heap.size w w' := by
  obtain ⟨b, rfl, hb, hi⟩ := h
  exact ⟨by rw [hi.2 hp], hb⟩
theorem BoolIff.no {w : World} {p : Prop} {e : Ending} {w' : World} (h : BoolIff w p e w') (hp : ¬ p) : e = .returned (.bool false) ∧ Below w.heap.size w w' := by
  obtain ⟨b, rfl, hb, hi⟩ := h
  cases b with
  | false => exact ⟨rfl, hb⟩
  | true => exact absurd (hi.1 rfl) hp
set_option maxHeartbeats 4000000 in
set_option maxRecDepth 100000 in
theorem right_iff (A : Option Addr) (n cap : Nat) (l : List (ByteArray × Int)) (w : World) (h : LsArg w w.heap.size A n cap l) : Calls Tryd.prog 7 #[.slice A n cap] w (BoolIff w (RightL l)) := by
  have hn := h.2.2.1
  have hm := h.2.2.2
  have hl := Lib.hid h.2.1
  unfold maxLen at hm
  go_enter Tryd.func7, Tryd.ntmps7
  go_wp2_with fail
  go_loopw [8] (fun i wr => ∃ k : Nat, k ≤ n ∧ i = .int .i64 k ∧ Hid (Below w.heap.size w wr) ∧ Hid (RightTo l k)) (fun i _ => n - (intOf i).toNat)
  case atStart => exact ⟨0, Nat.zero_le _, rfl, Lib.hid (Below.refl _ _), Lib.hid (fun j hj => absurd hj (by omega))⟩
  case round =>
    obtain ⟨k, hk, rfl, HB, HR⟩ := hrel
    by_cases hlt : k < n
    · obtain ⟨b, o, rfl, hb, hc⟩ := h.cell hlt
      obtain ⟨c1, c2⟩ := hc k hlt
      have d1 : wr.cell? ⟨b, o + k * 2, none⟩ = some (.string (tx l k)) := (HB.out.cell (p := ⟨b, o + k * 2, none⟩) hb).trans c1
      have d2 : wr.cell? ⟨b, o + k * 2 + 1, none⟩ = some (.int .i64 (lv l k)) := (HB.out.cell (p := ⟨b, o + k * 2 + 1, none⟩) hb).trans c2
      have hbw : b < wr.heap.size := by have := HB.out.size; omega
      obtain ⟨wo, rfl⟩ : ∃ wo : World, wo = wr := ⟨_, rfl⟩
      have HS := fun W => Lib.hid (simple_any (tx l k) false W)
      have HQ := Lib.hid (fun (hR : RightL l) => hR.1 k (by rw [hl.out]; exact hlt))
      have main : ∀ m : Int, m = (if k = 0 then 0 else lv l (k - 1) + 1) → m ≤ k → RightTo l k → 0 ≤ lv l k → lv l k ≤ m → (tx l k).size ≤ 200 → simp false (tx l k) = true → RightTo l (k + 1) :=
        fun m hm h1 h2 h3 h4 h5 h6 => h2.succ ⟨h3, by omega, by rw [← hm]; exact h4, h5, h6⟩
      have Main := Lib.hid main
      clear main
      have tail : ∀ {P : Prop}, P → P := fun h => h
      cases k with
      | zero =>
        clear hc c1 c2
        simp only [Nat.zero_mul, Nat.add_zero] at d1 d2
        by_cases g1 : lv l 0 < 0
        · go_wp2_with fail
          go_ret
          exact ⟨false, rfl, HB.out.alloc HB.out.size _, ⟨(fun h => by cases h), (fun hR => by have := (HQ.out hR).1; omega)⟩⟩
        · by_cases g2 : 0 < lv l 0
          · go_wp2_with fail
            go_ret
            exact ⟨false, rfl, HB.out.alloc HB.out.size _, ⟨(fun h => by cases h), (fun hR => by have := (HQ.out hR).2.2.1; simp at this; omega)⟩⟩
          · have e2 : decide (0 < lv l 0) = false := by simpa using g2
            by_cases g3 : (200 : Int) < ((tx l 0).size : Int)
            · go_wp2_with fail
              go_ret
              exact ⟨false, rfl, HB.out.alloc HB.out.size _, ⟨(fun h => by cases h), (fun hR => by have := (HQ.out hR).2.2.2.1; omega)⟩⟩
            · have e3 : decide ((200 : Int) < ((tx l 0).size : Int)) = false := by simpa using g3
              cases hs : simp false (tx l 0) with
              | false =>
                rw [hs] at HS
                go_wp2_with (go_at_call 13; refine (HS _).out.mono ?_; rintro e w1 ⟨rfl, hB1⟩
                             have HB1 := Lib.hid ((HB.out.alloc HB.out.size _).trans (hB1.mono (by simp; exact Nat.le_succ_of_le HB.out.size))); clear hB1)
                go_ret
                exact ⟨false, rfl, HB1.out, ⟨(fun h => by cases h), (fun hR => by have := (HQ.out hR).2.2.2.2; rw [hs] at this; cases this)⟩⟩
              | true =>
                rw [hs] at HS
                go_wp2_with (go_at_call 13; refine (HS _).out.mono ?_; rintro e w1 ⟨rfl, hB1⟩
                             have HB1 := Lib.hid ((HB.out.alloc HB.out.size _).trans (hB1.mono (by simp; exact Nat.le_succ_of_le HB.out.size))); clear hB1)
                go_roundw
                case rel => exact ⟨0 + 1, by omega, by go_num, HB1, Lib.hid (Main.out 0 (by simp) (by omega) HR.out (by omega) (by omega) (by omega) hs)⟩
                case measure => simp [intOf]; omega
      | succ m =>
        obtain ⟨c3, c4⟩ := hc m (by omega)
        have d4 : wo.cell? ⟨b, o + m * 2 + 1, none⟩ = some (.int .i64 (lv l m)) := (HB.out.cell (p := ⟨b, o + m * 2 + 1, none⟩) hb).trans c4
        have hlm : 0 ≤ lv l m ∧ lv l m ≤ m := ⟨(HR.out m (by omega)).1, (HR.out m (by omega)).2.1⟩
        obtain ⟨q1, q2⟩ := hlm
        have g0 : decide ((0 : Int) < (m : Int) + 1) = true := decide_eq_true (by omega)
        have i1 : ((m : Int) + 1 - 1) = m := by omega
        clear hc c1 c2 c3 c4
        by_cases g1 : lv l (m + 1) < 0
        · go_wp2_with fail
          go_ret
          exact ⟨false, rfl, HB.out.alloc HB.out.size _, ⟨(fun h => by cases h), (fun hR => by have := (HQ.out hR).1; omega)⟩⟩
        · by_cases g2 : lv l m + 1 < lv l (m + 1)
          · go_wp2_with fail
            go_ret
            exact ⟨false, rfl, HB.out.alloc HB.out.size _, ⟨(fun h => by cases h), (fun hR => by have := (HQ.out hR).2.2.1; simp at this; omega)⟩⟩
          · have e2 : decide (lv l m + 1 < lv l (m + 1)) = false := by simpa using g2
            by_cases g3 : (200 : Int) < ((tx l (m + 1)).size : Int)
            · go_wp2_with fail
              go_ret
              exact ⟨false, rfl, HB.out.alloc HB.out.size _, ⟨(fun h => by cases h), (fun hR => by have := (HQ.out hR).2.2.2.1; omega)⟩⟩
            · have e3 : decide ((200 : Int) < ((tx l (m + 1)).size : Int)) = false := by simpa using g3
              cases hs : simp false (tx l (m + 1)) with
              | false =>
                rw [hs] at HS
                go_wp2_with (go_at_call 13; refine (HS _).out.mono ?_; rintro e w1 ⟨rfl, hB1⟩
                             have HB1 := Lib.hid ((HB.out.alloc HB.out.size _).trans (hB1.mono (by simp; exact Nat.le_succ_of_le HB.out.size))); clear hB1)
                go_ret
                exact ⟨false, rfl, HB1.out, ⟨(fun h => by cases h), (fun hR => by have := (HQ.out hR).2.2.2.2; rw [hs] at this; cases this)⟩⟩
              | true =>
                rw [hs] at HS
                go_wp2_with (go_at_call 13; refine (HS _).out.mono ?_; rintro e w1 ⟨rfl, hB1⟩
                             have HB1 := Lib.hid ((HB.out.alloc HB.out.size _).trans (hB1.mono (by simp; exact Nat.le_succ_of_le HB.out.size))); clear hB1)
                go_roundw
                case rel => exact ⟨m + 1 + 1, by omega, by go_num, HB1, Lib.hid (Main.out (lv l m + 1) (by simp) (by omega) HR.out (by omega) (by omega) (by omega) hs)⟩
                case measure => simp [intOf]; omega
    · have e : k = n := by omega
      subst e
      by_cases h60 : (k : Int) ≤ 60
      · go_wp2_with fail
        go_ret
        exact ⟨true, by simp, HB.out, ⟨fun _ => ⟨by rw [hl.out]; exact HR.out, by have := hl.out; omega⟩, fun _ => rfl⟩⟩
      · have e6 : decide ((k : Int) ≤ 60) = false := by simpa using h60
        go_wp2_with fail
        go_ret
        exact ⟨false, rfl, HB.out, ⟨(fun h => by cases h), (fun hR => by have := hR.2; have := hl.out; omega)⟩⟩
end Go.Proofs.YthdkbokdikhojaaDoor
