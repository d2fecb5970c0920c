/- The sequences that move the cursor once, or erase the line: the walk. No conditions. -/
import Derived.Test.YtlppbalnjogkoaaProg
import Derived.Test.YtlppbalnjogkoaaBase
import Derived.WalkKit
import Derived.Handy
import Derived.WalkLawsBesides
namespace Go.Proofs.Ytlppbalnjogkoaa
open Go.RowKit
set_option linter.unusedVariables false
theorem enc65 : Utf8.encode 65 = ⟨#[65]⟩ := by decide +kernel
theorem enc66 : Utf8.encode 66 = ⟨#[66]⟩ := by decide +kernel
theorem enc67 : Utf8.encode 67 = ⟨#[67]⟩ := by decide +kernel
theorem enc68 : Utf8.encode 68 = ⟨#[68]⟩ := by decide +kernel
theorem enc75 : Utf8.encode 75 = ⟨#[75]⟩ := by decide +kernel
set_option maxHeartbeats 400000 in
set_option maxRecDepth 100000 in
theorem cursor_any (c : Int) (w : World) (h0 : 0 ≤ c ∧ c ≤ 255) :
    Calls Try.prog 3 #[.int .u8 c] w fun e w' => e = .returned (.bool true) ∧ Below w.heap.size w w' := by
  obtain ⟨r0, r1⟩ := h0
  have hk : c % 5 = 0 ∨ c % 5 = 1 ∨ c % 5 = 2 ∨ c % 5 = 3 ∨ c % 5 = 4 := by omega
  rcases hk with hk | hk | hk | hk | hk
  · have ix : ∀ w : World, (Instr.index 22 (.agg #[.int .i32 65, .int .i32 66, .int .i32 67, .int .i32 68, .int .i32 75]) (.int .u8 (c % 5))).run Try.prog w = .ok (.int .i32 65) w := fun w => by rw [hk]; kernel_rfl
    have en := enc65
    clear hk
    go_enter Try.func3, Try.ntmps3
    go_wp2
    go_ret
    exact ⟨ret_true (by simp), Below.refl _ _⟩
  · have ix : ∀ w : World, (Instr.index 22 (.agg #[.int .i32 65, .int .i32 66, .int .i32 67, .int .i32 68, .int .i32 75]) (.int .u8 (c % 5))).run Try.prog w = .ok (.int .i32 66) w := fun w => by rw [hk]; kernel_rfl
    have en := enc66
    clear hk
    go_enter Try.func3, Try.ntmps3
    go_wp2
    go_ret
    exact ⟨ret_true (by simp), Below.refl _ _⟩
  · have ix : ∀ w : World, (Instr.index 22 (.agg #[.int .i32 65, .int .i32 66, .int .i32 67, .int .i32 68, .int .i32 75]) (.int .u8 (c % 5))).run Try.prog w = .ok (.int .i32 67) w := fun w => by rw [hk]; kernel_rfl
    have en := enc67
    clear hk
    go_enter Try.func3, Try.ntmps3
    go_wp2
    go_ret
    exact ⟨ret_true (by simp), Below.refl _ _⟩
  · have ix : ∀ w : World, (Instr.index 22 (.agg #[.int .i32 65, .int .i32 66, .int .i32 67, .int .i32 68, .int .i32 75]) (.int .u8 (c % 5))).run Try.prog w = .ok (.int .i32 68) w := fun w => by rw [hk]; kernel_rfl
    have en := enc68
    clear hk
    go_enter Try.func3, Try.ntmps3
    go_wp2
    go_ret
    exact ⟨ret_true (by simp), Below.refl _ _⟩
  · have ix : ∀ w : World, (Instr.index 22 (.agg #[.int .i32 65, .int .i32 66, .int .i32 67, .int .i32 68, .int .i32 75]) (.int .u8 (c % 5))).run Try.prog w = .ok (.int .i32 75) w := fun w => by rw [hk]; kernel_rfl
    have en := enc75
    clear hk
    go_enter Try.func3, Try.ntmps3
    go_wp2
    go_ret
    exact ⟨ret_true (by simp), Below.refl _ _⟩
end Go.Proofs.Ytlppbalnjogkoaa
