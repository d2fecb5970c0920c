/- FnWrapSplit: the walk of the law. No conditions. -/
import Derived.Test.YtgjbpjkepdbnkaaDoorWsC
namespace Go.Proofs.YtgjbpjkepdbnkaaDoor
open Go.RowKit
set_option linter.unusedVariables false
theorem implWords_any (s : ByteArray) (w : World) (h : OkText s) : Calls Tryd.prog 6 #[.string s] w (WordsRet (wordsOf s) w) := by
  have H := Lib.hid (splitWords_any s w h)
  go_enter Tryd.func6, Tryd.ntmps6
  go_wp2_with (go_at_call 8; refine H.out.mono ?_; rintro e w' ⟨v, rfl, hown, hb⟩; have HO := Lib.hid hown; have HB := Lib.hid hb; clear hown hb)
  go_ret
  exact ⟨_, rfl, HO.out, HB.out⟩
theorem Seen.keep {w w1 : World} {a : Option Addr} {ls : List (List UInt8)} (h : Seen w a ls) (hb : Below w.heap.size w w1) : Seen w1 a ls := fun k hk => by
  obtain ⟨g, h1, h2⟩ := h k hk
  exact ⟨g, h1, (hb.cell (cell_lt h2)).trans h2⟩
set_option maxHeartbeats 4000000 in
theorem lawWs (s : ByteArray) (w : World) (hs : s.size ≤ 140737488351232) : Calls Tryd.prog 3 #[.string s] w fun e w' => e = .returned (.bool true) ∧ Below w.heap.size w w' := by
  have H1 := Lib.hid (twText_any s w hs)
  have hl : (wordsOf s).length ≤ s.size := fin_len' s s.size (Nat.le_refl _)
  go_enter Tryd.func3, Tryd.ntmps3
  by_cases hbig : s.size ≤ 2147483647
  · go_wp2_with (go_at_call 4; refine H1.out.mono ?_; rintro e w1 ⟨b, rfl, hw, hb⟩; obtain rfl := hw.symm; have HT := Lib.hid hb; clear hw hb; cases b)
    · go_wp2_with fail
      go_ret
      exact ⟨rfl, Below.refl _ _⟩
    · have H2 := Lib.hid (implWords_any s w (HT.out trivial))
      have H3 := Lib.hid (fun W => twWords_any s W (HT.out trivial))
      have hl2 : (wordsOf s).length ≤ 1000000 := by have := (HT.out trivial).1; omega
      clear H1 HT hl
      generalize wordsOf s = ls at *
      go_wp2_with (go_at_call 6; refine H2.out.mono ?_; rintro e w1 ⟨v, rfl, hown, hb⟩; obtain ⟨a1, c1, rfl, hs1⟩ := seen_of hown; have S1 := Lib.hid hs1; have B1 := Lib.hid hb; clear hown hb hs1)
      go_wp2_with (go_at_call 7; refine (H3.out _).mono ?_; rintro e w2 ⟨v, rfl, hown, hb⟩; obtain ⟨a2, c2, rfl, hs2⟩ := seen_of hown; have S2 := Lib.hid hs2; have B2 := Lib.hid hb; clear hown hb hs2)
      have H4 := Lib.hid (twTexts_any a1 a2 c1 c2 ls w2 hl2 (S1.out.keep B2.out) S2.out)
      go_wp2_with (go_at_call 5; refine H4.out.mono ?_; rintro e w3 ⟨rfl, hb⟩; have B3 := Lib.hid hb; clear hb)
      go_ret
      have b1 := B1.out
      have b2 := B2.out
      exact ⟨rfl, b1.trans ((b2.mono b1.size).trans (B3.out.mono (Nat.le_trans b1.size b2.size)))⟩
  · have g : decide ((2147483647 : Int) < (s.size : Int)) = true := decide_eq_true (by omega)
    go_wp2_with fail
    go_ret
    exact ⟨rfl, Below.refl _ _⟩
end Go.Proofs.YtgjbpjkepdbnkaaDoor
