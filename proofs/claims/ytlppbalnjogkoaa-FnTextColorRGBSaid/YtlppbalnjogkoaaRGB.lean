/- A color of the cube is one of the 256: the walk. No conditions. -/
import Derived.Test.YtlppbalnjogkoaaProg
import Derived.Test.YtlppbalnjogkoaaBase
import Derived.WalkKit
import Derived.Handy
import Derived.WalkLawsBesides
namespace Go.Proofs.Ytlppbalnjogkoaa
open Go.RowKit
set_option linter.unusedVariables false
set_option maxHeartbeats 400000 in
theorem colorRGB_any (r g b : Int) (w : World) (h0 : 0 ≤ r ∧ r ≤ 255) (h1 : 0 ≤ g ∧ g ≤ 255) (h2 : 0 ≤ b ∧ b ≤ 255) :
    Calls Try.prog 7 #[.int .u8 r, .int .u8 g, .int .u8 b] w fun e w' => e = .returned (.bool true) ∧ Below w.heap.size w w' := by
  obtain ⟨r0, r1⟩ := h0
  obtain ⟨g0, g1⟩ := h1
  obtain ⟨b0, b1⟩ := h2
  have hx0 : 0 ≤ r % 6 := by omega
  have hy0 : 0 ≤ g % 6 := by omega
  have hz0 : 0 ≤ b % 6 := by omega
  have hx1 : r % 6 ≤ 5 := by omega
  have hy1 : g % 6 ≤ 5 := by omega
  have hz1 : b % 6 ≤ 5 := by omega
  go_enter Try.func7, Try.ntmps7
  go_wp2
  go_ret
  exact ⟨ret_true (by simp), Below.refl _ _⟩
end Go.Proofs.Ytlppbalnjogkoaa
