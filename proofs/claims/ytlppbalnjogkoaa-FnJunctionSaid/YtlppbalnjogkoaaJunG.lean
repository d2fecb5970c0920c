/- FnJunction: the walk of the law, for every box and every merging. No conditions. -/
import Derived.Test.YtlppbalnjogkoaaJunF
import Derived.WalkKit
import Derived.Handy
import Derived.Deep.RegionHeld3
import Derived.WalkLawsBesides
namespace Go.Proofs.Ytlppbalnjogkoaa
open Go.RowKit
set_option linter.unusedVariables false
variable {P : Program}
def ldK (v : Value) : Sem Value := Instr.loadAt 49 v
theorem ld_exec (ρ : Operand → Value) (p : Operand) (d : Option Tmp) (t : TypeId) (ps : String) (af : Array Edge) (g : Option (Nat × Bool)) :
    execOp ρ ⟨d, .load 49 p, t, ps, af, g⟩ = (ldK (ρ p) >>= fun v => pure (.value v)) := rfl
theorem ldK_run (g : Nat) (cs : Array Value) (hs : cs.size = 18) (W : World) (h : W.heap[g]? = some (.cells cs 49 (0, 0))) : (ldK (.pointer (some ⟨g, 0, none⟩))).run Try.prog W = .ok (.agg cs) W := by
  have h49 : (Try.prog.info? 49).map (·.size) = some cs.size := by rw [hs]; kernel_rfl
  unfold ldK
  simp only [Instr.loadAt, Instr.sureAddr, Sem.run_bind, Sem.run_pure, Result.andThen]
  exact run_loadVar_row W g 49 49 cs (0, 0) _ h Try.underlying49 rfl h49
theorem keepS {W w1 : World} {g : Nat} {o : Obj} (hb : Below W.heap.size W w1) (h : W.heap[g]? = some o) : w1.heap[g]? = some o := (hb.block g (Array.getElem?_eq_some_iff.1 h).1).trans h
theorem keepS2 {w W w1 : World} {g : Nat} {o : Obj} (hb : Below W.heap.size W w1) (h : W.heap[g]? = some o ∧ Below w.heap.size w W) : w1.heap[g]? = some o ∧ Below w.heap.size w w1 := ⟨keepS hb h.1, h.2.trans (hb.mono h.2.size)⟩
attribute [local go_sem ↓] ld_exec
set_option maxHeartbeats 4000000 in
set_option maxRecDepth 100000 in
theorem lawJ_any (a b l r : Bool) (b0 b1 b2 b3 b4 b5 b6 b7 b8 b9 b10 b11 b12 b13 b14 b15 b16 b17 : ByteArray) (w : World) :
    Calls Try.prog 11 #[.bool a, .bool b, .bool l, .bool r, boxV b0 b1 b2 b3 b4 b5 b6 b7 b8 b9 b10 b11 b12 b13 b14 b15 b16 b17] w fun e w' => e = .returned (.bool true) ∧ Below w.heap.size w w' := by
  have hld := ldK_run w.heap.size #[.string b0, .string b1, .string b2, .string b3, .string b4, .string b5, .string b6, .string b7, .string b8, .string b9, .string b10, .string b11, .string b12, .string b13, .string b14, .string b15, .string b16, .string b17] rfl
  have hl0 := hld _ (heap_alloc_new w _)
  go_enter Try.func11, Try.ntmps11
  go_wp2_with (go_at_call 30; refine halt_here ?_)
  refine resume ?_
  refine (fits11_any _ _ _ _ _ _ _ _ _ _ _ _ _ _ _ _ _ _ _).mono ?_
  rintro e w0 ⟨x, rfl, hb0⟩
  have S0 : w0.heap[w.heap.size]? = some (.cells #[.string b0, .string b1, .string b2, .string b3, .string b4, .string b5, .string b6, .string b7, .string b8, .string b9, .string b10, .string b11, .string b12, .string b13, .string b14, .string b15, .string b16, .string b17] 49 (0, 0)) := keepS hb0 (heap_alloc_new w _)
  have B0 : Below w.heap.size w w0 := ((Below.refl w.heap.size w).alloc (Nat.le_refl _) _).trans (hb0.mono (by simp))
  have z0 := B0.size
  cases x
  · go_wp2
    go_ret
    exact ⟨rfl, B0⟩
  · go_wp2_with fail
    go_region_held3 (fun w' => w'.heap[w.heap.size]? = some (.cells #[.string b0, .string b1, .string b2, .string b3, .string b4, .string b5, .string b6, .string b7, .string b8, .string b9, .string b10, .string b11, .string b12, .string b13, .string b14, .string b15, .string b16, .string b17] 49 (0, 0)) ∧ Below w.heap.size w w') (first | exact ⟨S0, B0.drew⟩ | exact keepS2 hb ‹_›)
      (first
        | (go_at_call 31; refine (junction_any a b l r b0 b1 b2 b3 b4 b5 b6 b7 b8 b9 b10 b11 b12 b13 b14 b15 b16 b17 _).mono ?_; rintro e wa ⟨rfl, hb⟩)
        | (go_at_call 32; refine (spec_any a b l r b0 b1 b2 b3 b4 b5 b6 b7 b8 b9 b10 b11 b12 b13 b14 b15 b16 b17 _).mono ?_; rintro e wa ⟨rfl, hb⟩))
    all_goals
      obtain ⟨_, BB⟩ := ‹_ ∧ Below w.heap.size w _›
      go_wp2
      go_ret
      exact ⟨ret_true (by simp), BB⟩
end Go.Proofs.Ytlppbalnjogkoaa
