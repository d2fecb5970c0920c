/- A style box out of eighteen texts: the walk of impl.box; words on whole structs. No conditions. -/
import Derived.Test.YtlppbalnjogkoaaProg
import Derived.Test.YtlppbalnjogkoaaBase
import Derived.WalkKit
import Derived.Handy
import Derived.Deep.QuietTactic
import Derived.Deep.WholeRow
import Derived.Deep.DeepMust
import Derived.BigQuiet
import Derived.WalkLawsBesides
namespace Go.Proofs.Ytlppbalnjogkoaa
open Go.RowKit
set_option linter.unusedVariables false
variable {P : Program}
theorem setRow_at (w : World) (c c' : Array Value) (t : TypeId) (n : Nat) (hn : n = w.heap.size) : (w.alloc (.cells c t)).setRow n c' = w.alloc (.cells c' t) := by subst hn; exact World.setRow_alloc_new w c c' t
/-- A whole struct into the block that was made last. -/
theorem store_last {ops : Array Oper} {rest : List Oper} {o : Oper} {a : Act} {w : World} {Q : Exit → Act → World → Prop} (hgd : o.guard = none) (ty : TypeId) (x y : Operand) (ho : o.op = .store ty x y)
    {g : Nat} (hg : g = w.heap.size) {cells : Array Value} (hx : a.eval x = .pointer (some ⟨g, 0, none⟩)) (hy : a.eval y = .agg cells)
    {t : TypeId} {old : Array Value} (hi : (P.info? ty).map (·.size) = some cells.size)
    (hold : old.size = cells.size) (h1 : cells.all (·.oneCell') = true)
    (h : wpList P ops Q rest (a.put o.dst undef) (w.alloc (.cells cells t))) : wpList P ops Q (o :: rest) a (w.alloc (.cells old t)) :=
  wpList_store_row hgd ty x y ho g cells hx hy t old (by rw [hg]; exact heap_alloc_new w _) hi hold h1 (by rw [setRow_at w old cells t g hg]; exact h)
theorem gate_st {ops : Array Oper} {rest : List Oper} {o : Oper} {a : Act} {w : World} {Q : Exit → Act → World → Prop} {t : TypeId} {p : Operand} {v : Operand} (_ho : o.op = .store t p v) (h : wpList P ops Q (o :: rest) a w) : wpList P ops Q (o :: rest) a w := h
theorem halt_here {p : Prop} (h : Hid p) : p := h
theorem resume {p : Prop} (h : p) : Hid p := h
abbrev boxV (b0 b1 b2 b3 b4 b5 b6 b7 b8 b9 b10 b11 b12 b13 b14 b15 b16 b17 : ByteArray) : Value := .agg #[.string b0, .string b1, .string b2, .string b3, .string b4, .string b5, .string b6, .string b7, .string b8, .string b9, .string b10, .string b11, .string b12, .string b13, .string b14, .string b15, .string b16, .string b17]
abbrev boxS (b0 b1 b2 b3 b4 b5 b6 b7 b8 b9 b10 b11 b12 b13 b14 b15 b16 b17 : ByteArray) : Array Value := #[.string b0, .string b1, .string b2, .string b3, .string b4, .string b5, .string b6, .string b7, .string b8, .string b9, .string b10, .string b11, .string b12, .string b13, .string b14, .string b15, .string b16, .string b17, .pointer none]
set_option maxHeartbeats 4000000 in
set_option maxRecDepth 100000 in
theorem box_any (b0 b1 b2 b3 b4 b5 b6 b7 b8 b9 b10 b11 b12 b13 b14 b15 b16 b17 : ByteArray) (w : World) :
    Calls Try.prog 56 #[boxV b0 b1 b2 b3 b4 b5 b6 b7 b8 b9 b10 b11 b12 b13 b14 b15 b16 b17] w fun e w' => e = .returned (.agg (boxS b0 b1 b2 b3 b4 b5 b6 b7 b8 b9 b10 b11 b12 b13 b14 b15 b16 b17)) ∧ Below w.heap.size w w' := by
  have h77 : (Try.prog.info? 77).map (·.size) = some 19 := by kernel_rfl
  go_enter Try.func56, Try.ntmps56
  go_wp2_with ((with_reducible refine gate_st (t := 77) rfl ?_); refine store_last (cells := boxS b0 b1 b2 b3 b4 b5 b6 b7 b8 b9 b10 b11 b12 b13 b14 b15 b16 b17) (g := w.heap.size + 1) ?hgd 77 (.tmp 2) (.tmp 39) ?ho ?hg ?hx ?hy ?hi ?hold ?h1 ?_; (case hgd => rfl); (case ho => rfl); (case hg => simp); (case hx => rfl); (case hy => rfl); (case hi => exact h77); (case hold => rfl); (case h1 => simp [Value.oneCell']))
  refine bodyPost_ret (v := .agg (boxS b0 b1 b2 b3 b4 b5 b6 b7 b8 b9 b10 b11 b12 b13 b14 b15 b16 b17)) ?_ rfl ⟨rfl, ?_⟩
  · exact results_cell_row rfl _ _ (w.heap.size + 1) 77 _ (0, 0) _ rfl (heap_alloc2_new _ _ _) Try.underlying77 rfl h77
  · exact ((Below.refl _ _).alloc (Nat.le_refl _) _).alloc (by simp) _
end Go.Proofs.Ytlppbalnjogkoaa
