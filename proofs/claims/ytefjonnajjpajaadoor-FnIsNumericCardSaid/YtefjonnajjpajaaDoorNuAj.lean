/- TwNumber: tells whether the text without its sign is a number. -/
import Derived.Test.YtefjonnajjpajaaDoorNuA0
import Derived.Test.YtefjonnajjpajaaDoorNuA1
import Derived.Test.YtefjonnajjpajaaDoorNuA2
import Derived.Test.YtefjonnajjpajaaDoorNuA3
namespace Go.Proofs.YtefjonnajjpajaaDoor
theorem number_any (s : ByteArray) (w : World) (hs : s.size ≤ 1000) : Calls Tryd.prog 5 #[.string s] w (NumRet (strip s) w) := by
  have hsg : (s.size = 0 ∧ strip s = s) ∨ (0 < s.size ∧ bt s 0 = 43 ∧ strip s = s.extract 1 s.size) ∨ (0 < s.size ∧ bt s 0 = 45 ∧ strip s = s.extract 1 s.size) ∨ (0 < s.size ∧ bt s 0 ≠ 43 ∧ bt s 0 ≠ 45 ∧ strip s = s) := by
    unfold strip
    by_cases h0 : 0 < s.size
    · by_cases h1 : bt s 0 = 43
      · exact .inr (.inl ⟨h0, h1, if_pos ⟨h0, .inl h1⟩⟩)
      · by_cases h2 : bt s 0 = 45
        · exact .inr (.inr (.inl ⟨h0, h2, if_pos ⟨h0, .inr h2⟩⟩))
        · exact .inr (.inr (.inr ⟨h0, h1, h2, if_neg (by rintro ⟨_, h | h⟩ <;> contradiction)⟩))
    · exact .inl ⟨by omega, if_neg (by rintro ⟨h, _⟩; contradiction)⟩
  have hT : (strip s).size ≤ 1000 := by
    unfold strip
    split
    · simp; omega
    · exact hs
  rcases hsg with ⟨h0, hst⟩ | ⟨h0, h1, hst⟩ | ⟨h0, h1, hst⟩ | ⟨h0, h1, h2, hst⟩
  · exact number_0 s w hs hT h0 hst
  · exact number_1 s w hs hT h0 h1 hst
  · exact number_2 s w hs hT h0 h1 hst
  · exact number_3 s w hs hT h0 h1 h2 hst
end Go.Proofs.YtefjonnajjpajaaDoor
