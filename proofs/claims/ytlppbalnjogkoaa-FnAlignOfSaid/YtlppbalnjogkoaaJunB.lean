/- A style out of a box: the walk of impl.lineStyle. No conditions. -/
import Derived.Test.YtlppbalnjogkoaaJunA
import Derived.WalkKit
import Derived.Handy
import Derived.Deep.QuietTactic
import Derived.Deep.WholeRow
import Derived.BigQuiet
import Derived.Laws.CopyOwn
import Derived.WalkLawsBesides
namespace Go.Proofs.Ytlppbalnjogkoaa
open Go.RowKit
set_option linter.unusedVariables false
variable {P : Program}
abbrev styS (b0 b1 b2 b3 b4 b5 b6 b7 b8 b9 b10 b11 b12 b13 b14 b15 b16 b17 : ByteArray) : Array Value := #[.string ⟨#[]⟩, .string b0, .string b1, .string b2, .string b3, .string b4, .string b5, .string b6, .string b7, .string b8, .string b9, .string b10, .string b11, .string b12, .string b13, .string b14, .string b15, .string b16, .string b17, .pointer none, .slice none 0 0, .slice none 0 0, .slice none 0 0, .slice none 0 0, .slice none 0 0, .slice none 0 0, .slice none 0 0, .bool false, .int .i64 0, .int .i64 0, .int .i64 0, .int .i64 0, .int .i64 0, .int .i64 0, .int .i64 0, .int .i64 0, .int .i64 0, .int .i64 0, .bool false, .string ⟨#[]⟩, .string ⟨#[]⟩, .bool false, .string ⟨#[]⟩, .bool false, .bool true, .bool false, .bool true, .bool true, .bool false, .bool false, .bool false, .int .i64 0, .int .i64 0, .int .i64 0, .slice none 0 0, .int .i64 0]
def styK (x1 x4 x7 x8 : Value) : Sem Value := Instr.build 97 #[(1, x1), (4, x4), (7, x7), (8, x8)]
theorem styK_run (b0 b1 b2 b3 b4 b5 b6 b7 b8 b9 b10 b11 b12 b13 b14 b15 b16 b17 : ByteArray) (W : World) : (styK (.agg (boxS b0 b1 b2 b3 b4 b5 b6 b7 b8 b9 b10 b11 b12 b13 b14 b15 b16 b17)) (.agg #[.int .i64 0, .int .i64 0, .int .i64 0, .int .i64 0, .int .i64 0, .int .i64 0, .int .i64 0, .int .i64 0, .int .i64 0, .int .i64 0]) (.agg #[.bool true, .bool false, .bool true, .bool true, .bool false, .bool false, .bool false]) (.agg #[.int .i64 0, .int .i64 0])).run Try.prog W = .ok (.agg (styS b0 b1 b2 b3 b4 b5 b6 b7 b8 b9 b10 b11 b12 b13 b14 b15 b16 b17)) W := run_build _ _ _ _ (by kernel_rfl)
theorem sty_exec (ρ : Operand → Value) (d : Option Tmp) (t : TypeId) (ps : String) (af : Array Edge) (g : Option (Nat × Bool)) :
    execOp ρ ⟨d, .build 97 #[(1, .tmp 12), (4, .tmp 14), (7, .tmp 17), (8, .tmp 19)], t, ps, af, g⟩ = (styK (ρ (.tmp 12)) (ρ (.tmp 14)) (ρ (.tmp 17)) (ρ (.tmp 19)) >>= fun v => pure (.value v)) := by
  simp [execOp, styK]
attribute [local go_sem ↓] sty_exec
attribute [local go_sem] styK_run
theorem gate_ld {ops : Array Oper} {rest : List Oper} {o : Oper} {a : Act} {w : World} {Q : Exit → Act → World → Prop} {t : TypeId} {p : Operand} (_ho : o.op = .load t p) (h : wpList P ops Q (o :: rest) a w) : wpList P ops Q (o :: rest) a w := h
set_option maxHeartbeats 4000000 in
set_option maxRecDepth 100000 in
theorem lineStyle_any (b0 b1 b2 b3 b4 b5 b6 b7 b8 b9 b10 b11 b12 b13 b14 b15 b16 b17 : ByteArray) (w : World) :
    Calls Try.prog 48 #[boxV b0 b1 b2 b3 b4 b5 b6 b7 b8 b9 b10 b11 b12 b13 b14 b15 b16 b17, .bool true, .bool true, .int .i64 0, .int .i64 0] w fun e w' => e = .returned (.agg (styS b0 b1 b2 b3 b4 b5 b6 b7 b8 b9 b10 b11 b12 b13 b14 b15 b16 b17)) ∧ Below w.heap.size w w' := by
  have h97 : (Try.prog.info? 97).map (·.size) = some 56 := by kernel_rfl
  have h49 : (Try.prog.info? 49).map (·.size) = some 18 := by kernel_rfl
  go_enter Try.func48, Try.ntmps48
  go_wp2_with (first
    | ((with_reducible refine gate_ld (t := 49) rfl ?_)
       refine wpList_load_row ?hgd 49 (.tmp 5) ?ho w.heap.size ?hx 49 (cs := #[.string b0, .string b1, .string b2, .string b3, .string b4, .string b5, .string b6, .string b7, .string b8, .string b9, .string b10, .string b11, .string b12, .string b13, .string b14, .string b15, .string b16, .string b17]) (fr := (0, 0)) (d := _) ?hg Try.underlying49 ?hd ?hi ?_
       (case hgd => rfl)
       (case ho => rfl)
       (case hx => rfl)
       (case hg => exact heap_alloc2_old _ _ _)
       (case hd => rfl)
       (case hi => exact h49))
    | (go_at_call 56; refine (box_any _ _ _ _ _ _ _ _ _ _ _ _ _ _ _ _ _ _ _).mono ?_; rintro e w1 ⟨rfl, hb1⟩)
    | ((with_reducible refine gate_st (t := 97) rfl ?_); refine halt_here ?_))
  refine resume ?_
  have z1 : w.heap.size + 2 ≤ w1.heap.size := by have := hb1.size; simp at this; omega
  have hblk : w1.heap[w.heap.size + 1]? = some (.cells _ 97 (0, 0)) := (hb1.block (w.heap.size + 1) (by simp)).trans (heap_alloc2_new _ _ _)
  refine wpList_store_row ?hgd 97 (.tmp 10) (.tmp 20) ?ho (w.heap.size + 1) (styS b0 b1 b2 b3 b4 b5 b6 b7 b8 b9 b10 b11 b12 b13 b14 b15 b16 b17) ?hx ?hy 97 _ hblk ?hi ?hold ?h1 ?_
  (case hgd => rfl)
  (case ho => rfl)
  (case hx => rfl)
  (case hy => rfl)
  (case hi => exact h97)
  (case hold => rfl)
  (case h1 => simp [Value.oneCell'])
  go_wp2
  have B1 : Below w.heap.size w w1 := (((Below.refl _ _).alloc (Nat.le_refl _) _).alloc (by simp) _).trans (hb1.mono (by simp; omega))
  refine bodyPost_ret (v := .agg (styS b0 b1 b2 b3 b4 b5 b6 b7 b8 b9 b10 b11 b12 b13 b14 b15 b16 b17)) ?_ rfl ⟨rfl, ?_⟩
  · exact results_cell_row rfl _ _ (w.heap.size + 1) 97 _ (0, 0) _ rfl (setRow_heap _ _ _ _ _ _ hblk) Try.underlying97 rfl h97
  · exact below_setRow B1 (by omega) _
end Go.Proofs.Ytlppbalnjogkoaa
