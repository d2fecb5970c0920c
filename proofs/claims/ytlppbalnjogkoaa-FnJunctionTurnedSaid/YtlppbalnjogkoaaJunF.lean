/- What stands between two columns: the walks of impl.Junction and spec.Junction, for every box and every merging. No conditions. -/
import Derived.Test.YtlppbalnjogkoaaJunE
import Derived.WalkKit
import Derived.Handy
import Derived.WalkLawsBesides
namespace Go.Proofs.Ytlppbalnjogkoaa
open Go.RowKit
set_option linter.unusedVariables false
variable {P : Program}
def SomeB (w : World) (e : Ending) (w' : World) : Prop := ∃ x : Bool, e = .returned (.bool x) ∧ Below w.heap.size w w'
def specJ (a b l r : Bool) (b0 b1 b2 b3 b4 b5 b6 b7 b8 b9 b10 b11 b12 b13 b14 b15 b16 b17 : ByteArray) : ByteArray := jun a b l r b3 b6 b16 b2 b8 b5 b13 b7
set_option maxHeartbeats 4000000 in
set_option maxRecDepth 100000 in
theorem spec_any (a b l r : Bool) (b0 b1 b2 b3 b4 b5 b6 b7 b8 b9 b10 b11 b12 b13 b14 b15 b16 b17 : ByteArray) (w : World) :
    Calls Try.prog 32 #[.bool a, .bool b, .bool l, .bool r, boxV b0 b1 b2 b3 b4 b5 b6 b7 b8 b9 b10 b11 b12 b13 b14 b15 b16 b17] w fun e w' => e = .returned (.string (specJ a b l r b0 b1 b2 b3 b4 b5 b6 b7 b8 b9 b10 b11 b12 b13 b14 b15 b16 b17)) ∧ Below w.heap.size w w' := by
  cases a <;> cases b <;> cases l <;> cases r
  all_goals
    go_enter Try.func32, Try.ntmps32
    go_wp2
    go_ret
    exact ⟨rfl, (Below.refl _ _).alloc (Nat.le_refl _) _⟩
set_option maxHeartbeats 4000000 in
set_option maxRecDepth 100000 in
theorem fits11_any (b0 b1 b2 b3 b4 b5 b6 b7 b8 b9 b10 b11 b12 b13 b14 b15 b16 b17 : ByteArray) (w : World) : Calls Try.prog 30 #[boxV b0 b1 b2 b3 b4 b5 b6 b7 b8 b9 b10 b11 b12 b13 b14 b15 b16 b17] w (SomeB w) := by
  go_enter Try.func30, Try.ntmps30
  go_wp2
  all_goals
    go_ret
    exact ⟨_, rfl, (Below.refl _ _).alloc (Nat.le_refl _) _⟩
set_option maxHeartbeats 4000000 in
set_option maxRecDepth 100000 in
theorem junction_any (a b l r : Bool) (b0 b1 b2 b3 b4 b5 b6 b7 b8 b9 b10 b11 b12 b13 b14 b15 b16 b17 : ByteArray) (w : World) :
    Calls Try.prog 31 #[.bool a, .bool b, .bool l, .bool r, boxV b0 b1 b2 b3 b4 b5 b6 b7 b8 b9 b10 b11 b12 b13 b14 b15 b16 b17] w fun e w' => e = .returned (.string (specJ a b l r b0 b1 b2 b3 b4 b5 b6 b7 b8 b9 b10 b11 b12 b13 b14 b15 b16 b17)) ∧ Below w.heap.size w w' := by
  have h49 : (Try.prog.info? 49).map (·.size) = some 18 := by kernel_rfl
  go_enter Try.func31, Try.ntmps31
  go_wp2_with (first
    | ((with_reducible refine gate_ld (t := 49) rfl ?_)
       refine wpList_load_row ?hgd 49 (.tmp 9) ?ho w.heap.size ?hx 49 (cs := #[.string b0, .string b1, .string b2, .string b3, .string b4, .string b5, .string b6, .string b7, .string b8, .string b9, .string b10, .string b11, .string b12, .string b13, .string b14, .string b15, .string b16, .string b17]) (fr := (0, 0)) (d := _) ?hg Try.underlying49 ?hd ?hi ?_
       (case hgd => rfl)
       (case ho => rfl)
       (case hx => rfl)
       (case hg => exact heap_alloc_new _ _)
       (case hd => rfl)
       (case hi => exact h49))
    | (go_at_call 48; refine (lineStyle_any _ _ _ _ _ _ _ _ _ _ _ _ _ _ _ _ _ _ _).mono ?_; rintro e w1 ⟨rfl, hb1⟩)
    | (go_at_call 47; refine (zzj_any a b l r (styS b0 b1 b2 b3 b4 b5 b6 b7 b8 b9 b10 b11 b12 b13 b14 b15 b16 b17) b3 b6 b16 b2 b8 b5 b13 b7 _ rfl (by simp [Value.oneCell']) rfl rfl rfl rfl rfl rfl rfl rfl rfl).mono ?_; rintro e w2 ⟨rfl, hb2⟩))
  go_ret
  refine ⟨rfl, ?_⟩
  have z1 := hb1.size
  exact ((Below.refl w.heap.size w).alloc (Nat.le_refl _) _).trans ((hb1.mono (by simp)).trans (hb2.mono (by simp at z1; omega)))
end Go.Proofs.Ytlppbalnjogkoaa
