/- FnCamelRuns: the walk of the law. No conditions. -/
import Derived.Test.YtenmkoaimmnpdaaDoorCrS
namespace Go.Proofs.YtenmkoaimmnpdaaDoor
open Go.RowKit
set_option linter.unusedVariables false
theorem impl_any (s : ByteArray) (w : World) (ha : Alnum s.data.toList) (hs : s.size ≤ 200) (hT : Props w) (hS : Spaces w) : Calls Tryd.prog 6 #[.string s] w (CamelRet w (camel s.data.toList)) := by
  have H := Lib.hid (split_any s w ha hs hT hS)
  clear ha hs hT hS
  go_enter Tryd.func6, Tryd.ntmps6
  go_wp2_with (go_at_call 9; refine H.out.mono ?_; rintro e w' ⟨v, rfl, hv, hb⟩; have HV := Lib.hid hv; have HB := Lib.hid hb; clear hv hb)
  go_ret
  exact ⟨_, rfl, HV.out, HB.out⟩
theorem spl_len : ∀ (r cur : List UInt8), (spC cur r).length ≤ r.length + 1
  | [], cur => by simp [spC]
  | x :: r, cur => by
    rw [spC]
    split
    · have := spl_len r [x]; simp; omega
    · have := spl_len r (cur ++ [x]); simp; omega
theorem camel_len (l : List UInt8) : (camel l).length ≤ l.length := by
  cases l with
  | nil => simp [camel]
  | cons x r => exact spl_len r [x]
set_option maxHeartbeats 1000000 in
set_option maxRecDepth 100000 in
theorem lawCr (s : ByteArray) (w : World) (_ : s.size ≤ 140737488351232) (hT : Props w) (hS : Spaces w) : Calls Tryd.prog 3 #[.string s] w fun e w' => e = .returned (.bool true) ∧ Below w.heap.size w w' := by
  by_cases hz : s.size ≤ 2147483647
  · have H1 := Lib.hid (runs_any s w hz)
    have H2 := Lib.hid (fun ha hs => impl_any s w ha hs hT hS)
    have H3 := Lib.hid (fun ha hs W => camel_any s W ha hs)
    have H4 := Lib.hid (fun (a b : Option Addr) (ca cb : Nat) (ls : List (List UInt8)) W h1 h2 h3 => twTexts_any a b ca cb ls W h1 h2 h3)
    have g1 : decide ((2147483647 : Int) < (s.size : Int)) = false := decide_eq_false (by omega)
    have g2 : ¬ ((2147483647 : Int) < (s.size : Int)) := by omega
    clear hT hS
    go_enter Tryd.func3, Tryd.ntmps3
    go_wp2_with (go_at_call 4; refine halt_V ?_)
    refine resume_V ?_
    refine H1.out.mono ?_
    rintro e w1 ⟨b, rfl, rfl, hb⟩
    have HB := Lib.hid hb
    clear hb H1
    cases b with
    | false =>
      go_wp2_with fail
      go_ret
      exact ⟨rfl, Below.refl _ _⟩
    | true =>
      obtain ⟨ha, hs⟩ := HB.out rfl
      have C1 := Lib.hid (H2.out ha hs)
      have C2 := Lib.hid (fun W => H3.out ha hs W)
      have HL := Lib.hid (show (camel s.data.toList).length ≤ 1000000 by have := camel_len s.data.toList; rw [← Lib.size_eq] at this; omega)
      clear H2 H3 HB ha
      generalize camel s.data.toList = ls at *
      go_wp2_with (go_at_call 6; refine halt_V ?_)
      refine resume_V ?_
      refine C1.out.mono ?_
      rintro e w2 ⟨v2, rfl, hv2, hb2⟩
      obtain ⟨a2, c2, rfl, hse2⟩ := seen_of hv2
      have HS2 := Lib.hid hse2
      have B2 := Lib.hid hb2
      clear C1 hv2 hse2 hb2
      go_wp2_with (go_at_call 7; refine halt_V ?_)
      refine resume_V ?_
      refine (C2.out w2).mono ?_
      rintro e w3 ⟨v3, rfl, hv3, hb3⟩
      obtain ⟨a3, c3, rfl, hse3⟩ := seen_of hv3
      have HS3 := Lib.hid hse3
      have HS4 := Lib.hid (show Seen w3 a2 ls from fun k hk => by
        obtain ⟨g, h1, h2⟩ := HS2.out k hk
        exact ⟨g, h1, (hb3.cell (cell_lt h2)).trans h2⟩)
      have B3 := Lib.hid (below3w B2.out hb3)
      clear C2 hv3 hse3 hb3 HS2 B2
      go_wp2_with (go_at_call 5; refine halt_V ?_)
      refine resume_V ?_
      refine (H4.out a2 a3 c2 c3 ls w3 HL.out HS4.out HS3.out).mono ?_
      rintro e w4 ⟨rfl, hb4⟩
      have B4 := Lib.hid (below3w B3.out hb4)
      clear hb4
      go_wp2_with fail
      go_ret
      exact ⟨rfl, B4.out⟩
  · have g1 : decide ((2147483647 : Int) < (s.size : Int)) = true := decide_eq_true (by omega)
    have g2 : (2147483647 : Int) < (s.size : Int) := by omega
    clear hT hS
    go_enter Tryd.func3, Tryd.ntmps3
    go_wp2_with fail
    go_ret
    exact ⟨rfl, Below.refl _ _⟩
end Go.Proofs.YtenmkoaimmnpdaaDoor
