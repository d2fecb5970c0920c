/- read: the decimal of a number without a sign. Texts of at most 100 letters of the law. -/
import Derived.Test.YtefjonnajjpajaaDoorNuR0
import Derived.Test.YtefjonnajjpajaaDoorNuR1
import Derived.Test.YtefjonnajjpajaaDoorNuR2
namespace Go.Proofs.YtefjonnajjpajaaDoor
theorem read_any (s : ByteArray) (w : World) (hs : s.size ≤ 100) (hL : ∀ p, p < s.size → Ltr (bt s p)) (hF : Few (bt s) s.size) : Calls Tryd.prog 19 #[.string s] w (ReadRet s w) := by
  by_cases h0 : s.size < 2
  · exact read_0 s w hs hL hF h0
  · by_cases h1 : bt s 0 = 48
    · exact read_2 s w hs hL hF (by omega) h1
    · exact read_1 s w hs hL hF (by omega) h1
end Go.Proofs.YtefjonnajjpajaaDoor
