/- How a cell of a table of one column is aligned: the walk of the door ZzAlign and of AlignOf. No conditions. -/
import Derived.Test.YtlppbalnjogkoaaAlB
import Derived.WalkKit
import Derived.Handy
import Derived.Deep.QuietTactic
import Derived.Deep.WholeRow
import Derived.BigQuiet
import Derived.Laws.OwnMore
import Derived.WalkLawsBesides
namespace Go.Proofs.Ytlppbalnjogkoaa
open Go.RowKit
set_option linter.unusedVariables false
variable {P : Program}
set_option maxHeartbeats 4000000 in
set_option maxRecDepth 100000 in
theorem zzAlign_row (num : Bool) (c2 c3 c4 f2 f5 f8 : Int) (w : World) :
    Calls Try.prog 46 #[.int .i64 0, .agg (ccA c2 c3 c4), .agg (stA f2 f5 f8), .bool num] w fun e w' => e = .returned (.int .i64 (sideOf c2 f8 num)) ∧ Below w.heap.size w w' := by
  have i74 : (Try.prog.info? 74).map (·.size) = some 16 := by kernel_rfl
  have i97 : (Try.prog.info? 97).map (·.size) = some 56 := by kernel_rfl
  go_enter Try.func46, Try.ntmps46
  go_wp2_with (first
    | ((with_reducible refine gate_ld (t := 74) rfl ?_)
       refine wpList_load_row ?hgd 74 (.tmp 5) ?ho w.heap.size ?hx 74 (cs := (ccA c2 c3 c4)) (fr := (0, 0)) (d := _) ?hg Try.underlying74 ?hd ?hi ?_
       (case hgd => rfl)
       (case ho => rfl)
       (case hx => rfl)
       (case hg => (repeat first | exact hp_new (by simp) | refine hp_alloc ?_))
       (case hd => rfl)
       (case hi => exact i74))
    | ((with_reducible refine gate_ld (t := 97) rfl ?_)
       refine wpList_load_row ?hgd 97 (.tmp 6) ?ho (w.heap.size + 1) ?hx 97 (cs := (stA f2 f5 f8)) (fr := (0, 0)) (d := _) ?hg Try.underlying97 ?hd ?hi ?_
       (case hgd => rfl)
       (case ho => rfl)
       (case hx => rfl)
       (case hg => (repeat first | exact hp_new (by simp) | refine hp_alloc ?_))
       (case hd => rfl)
       (case hi => exact i97))
    | (go_at_call 53; refine halt_here ?_))
  refine resume ?_
  refine (columns_one (stA f2 f5 f8) c2 c3 c4 _ rfl ?_ (w.heap.size + 2) (w.heap.size + 3) ?_ ?_).mono ?_
  · simp [Value.oneCell']
  · repeat first | exact hp_new (by simp) | refine hp_alloc ?_
  · repeat first | exact hp_new (by simp) | refine hp_alloc ?_
  rintro e w1 ⟨gs, gt, gn, gm, f, rfl, hB, ht39, ht6, ht4, hgs, hgn, hM, hF, n1, n2, n3, n4, n5⟩
  have B1 : Below w.heap.size w w1 := ((((((Below.refl _ _).alloc (Nat.le_refl _) _).alloc (by simp) _).alloc (by simp; omega) _).alloc (by simp; omega) _)).trans (hB.mono (by simp; omega))
  have l1 : gt < w1.heap.size := World.block_lt_of_cell? _ _ ht39
  have sn : w1.cell? ⟨gn, 0, none⟩ = some (.bool true) := cell_of_row w1 gn 0 _ 4 (0, 0) hgn
  have hfn : w1.frozen? ⟨gn, 0, none⟩ = false := by simp [World.frozen?, hgn]
  have n4' : w.heap.size ≤ gn := by simp at n4; omega
  go_wp2_with (go_at_call 54; refine halt_here ?_)
  refine resume ?_
  have hw : ∃ W, W = w1.setCell { block := gn, off := 0 } (Value.bool (!num)) := ⟨_, rfl⟩
  obtain ⟨W, hW⟩ := hw
  rw [← hW]
  have k1 : ∀ k, k ≠ gn → W.heap[k]? = w1.heap[k]? := by intro k hk; rw [hW]; exact heap_setCell_other w1 _ k _ hk
  have k2 : W.heap[gn]? = some (.cells #[.bool (!num)] 4 (0, 0)) := by rw [hW]; exact heap_setCell_same w1 gn 0 _ 4 _ hgn
  have k3 : Below w.heap.size w W := by rw [hW]; exact B1.setCell (by exact n4') _
  have cgt : ∀ j v, w1.cell? ⟨gt, j, none⟩ = some v → W.cell? ⟨gt, j, none⟩ = some v := fun j v h => (World.cell?_of_block (a := ⟨gt, j, none⟩) (k1 gt (Ne.symm n1))).trans h
  refine (getAlign_row num c2 c3 c4 f2 f5 f8 gt gs gn gm f W (cgt _ _ ht39) (cgt _ _ ht6) (cgt _ _ ht4) ((k1 gs (Ne.symm n2)).trans hgs) k2 (hM.keep (k1 gm (Ne.symm n3))) hF).mono ?_
  rintro e w' ⟨rfl, hb⟩
  go_wp2
  go_ret
  exact ⟨rfl, k3.trans (hb.mono k3.size)⟩
set_option maxHeartbeats 4000000 in
set_option maxRecDepth 100000 in
theorem zzAlign_head (num : Bool) (c2 c3 c4 f2 f5 f8 : Int) (w : World) :
    Calls Try.prog 46 #[.int .i64 1, .agg (ccA c2 c3 c4), .agg (stA f2 f5 f8), .bool num] w fun e w' => e = .returned (.int .i64 (sideOf c4 f5 num)) ∧ Below w.heap.size w w' := by
  have i74 : (Try.prog.info? 74).map (·.size) = some 16 := by kernel_rfl
  have i97 : (Try.prog.info? 97).map (·.size) = some 56 := by kernel_rfl
  go_enter Try.func46, Try.ntmps46
  go_wp2_with (first
    | ((with_reducible refine gate_ld (t := 74) rfl ?_)
       refine wpList_load_row ?hgd 74 (.tmp 5) ?ho w.heap.size ?hx 74 (cs := (ccA c2 c3 c4)) (fr := (0, 0)) (d := _) ?hg Try.underlying74 ?hd ?hi ?_
       (case hgd => rfl)
       (case ho => rfl)
       (case hx => rfl)
       (case hg => (repeat first | exact hp_new (by simp) | refine hp_alloc ?_))
       (case hd => rfl)
       (case hi => exact i74))
    | ((with_reducible refine gate_ld (t := 97) rfl ?_)
       refine wpList_load_row ?hgd 97 (.tmp 6) ?ho (w.heap.size + 1) ?hx 97 (cs := (stA f2 f5 f8)) (fr := (0, 0)) (d := _) ?hg Try.underlying97 ?hd ?hi ?_
       (case hgd => rfl)
       (case ho => rfl)
       (case hx => rfl)
       (case hg => (repeat first | exact hp_new (by simp) | refine hp_alloc ?_))
       (case hd => rfl)
       (case hi => exact i97))
    | (go_at_call 53; refine halt_here ?_))
  refine resume ?_
  refine (columns_one (stA f2 f5 f8) c2 c3 c4 _ rfl ?_ (w.heap.size + 2) (w.heap.size + 3) ?_ ?_).mono ?_
  · simp [Value.oneCell']
  · repeat first | exact hp_new (by simp) | refine hp_alloc ?_
  · repeat first | exact hp_new (by simp) | refine hp_alloc ?_
  rintro e w1 ⟨gs, gt, gn, gm, f, rfl, hB, ht39, ht6, ht4, hgs, hgn, hM, hF, n1, n2, n3, n4, n5⟩
  have B1 : Below w.heap.size w w1 := ((((((Below.refl _ _).alloc (Nat.le_refl _) _).alloc (by simp) _).alloc (by simp; omega) _).alloc (by simp; omega) _)).trans (hB.mono (by simp; omega))
  have l1 : gt < w1.heap.size := World.block_lt_of_cell? _ _ ht39
  have sn : w1.cell? ⟨gn, 0, none⟩ = some (.bool true) := cell_of_row w1 gn 0 _ 4 (0, 0) hgn
  have hfn : w1.frozen? ⟨gn, 0, none⟩ = false := by simp [World.frozen?, hgn]
  have n4' : w.heap.size ≤ gn := by simp at n4; omega
  go_wp2_with (go_at_call 54; refine halt_here ?_)
  refine resume ?_
  have hw : ∃ W, W = w1.setCell { block := gn, off := 0 } (Value.bool (!num)) := ⟨_, rfl⟩
  obtain ⟨W, hW⟩ := hw
  rw [← hW]
  have k1 : ∀ k, k ≠ gn → W.heap[k]? = w1.heap[k]? := by intro k hk; rw [hW]; exact heap_setCell_other w1 _ k _ hk
  have k2 : W.heap[gn]? = some (.cells #[.bool (!num)] 4 (0, 0)) := by rw [hW]; exact heap_setCell_same w1 gn 0 _ 4 _ hgn
  have k3 : Below w.heap.size w W := by rw [hW]; exact B1.setCell (by exact n4') _
  have cgt : ∀ j v, w1.cell? ⟨gt, j, none⟩ = some v → W.cell? ⟨gt, j, none⟩ = some v := fun j v h => (World.cell?_of_block (a := ⟨gt, j, none⟩) (k1 gt (Ne.symm n1))).trans h
  refine (getAlign_head num c2 c3 c4 f2 f5 f8 gt gs gn gm f W (cgt _ _ ht39) (cgt _ _ ht6) (cgt _ _ ht4) ((k1 gs (Ne.symm n2)).trans hgs) k2 (hM.keep (k1 gm (Ne.symm n3))) hF).mono ?_
  rintro e w' ⟨rfl, hb⟩
  go_wp2
  go_ret
  exact ⟨rfl, k3.trans (hb.mono k3.size)⟩
set_option maxHeartbeats 4000000 in
set_option maxRecDepth 100000 in
theorem zzAlign_foot (num : Bool) (c2 c3 c4 f2 f5 f8 : Int) (w : World) :
    Calls Try.prog 46 #[.int .i64 2, .agg (ccA c2 c3 c4), .agg (stA f2 f5 f8), .bool num] w fun e w' => e = .returned (.int .i64 (sideOf c3 f2 num)) ∧ Below w.heap.size w w' := by
  have i74 : (Try.prog.info? 74).map (·.size) = some 16 := by kernel_rfl
  have i97 : (Try.prog.info? 97).map (·.size) = some 56 := by kernel_rfl
  go_enter Try.func46, Try.ntmps46
  go_wp2_with (first
    | ((with_reducible refine gate_ld (t := 74) rfl ?_)
       refine wpList_load_row ?hgd 74 (.tmp 5) ?ho w.heap.size ?hx 74 (cs := (ccA c2 c3 c4)) (fr := (0, 0)) (d := _) ?hg Try.underlying74 ?hd ?hi ?_
       (case hgd => rfl)
       (case ho => rfl)
       (case hx => rfl)
       (case hg => (repeat first | exact hp_new (by simp) | refine hp_alloc ?_))
       (case hd => rfl)
       (case hi => exact i74))
    | ((with_reducible refine gate_ld (t := 97) rfl ?_)
       refine wpList_load_row ?hgd 97 (.tmp 6) ?ho (w.heap.size + 1) ?hx 97 (cs := (stA f2 f5 f8)) (fr := (0, 0)) (d := _) ?hg Try.underlying97 ?hd ?hi ?_
       (case hgd => rfl)
       (case ho => rfl)
       (case hx => rfl)
       (case hg => (repeat first | exact hp_new (by simp) | refine hp_alloc ?_))
       (case hd => rfl)
       (case hi => exact i97))
    | (go_at_call 53; refine halt_here ?_))
  refine resume ?_
  refine (columns_one (stA f2 f5 f8) c2 c3 c4 _ rfl ?_ (w.heap.size + 2) (w.heap.size + 3) ?_ ?_).mono ?_
  · simp [Value.oneCell']
  · repeat first | exact hp_new (by simp) | refine hp_alloc ?_
  · repeat first | exact hp_new (by simp) | refine hp_alloc ?_
  rintro e w1 ⟨gs, gt, gn, gm, f, rfl, hB, ht39, ht6, ht4, hgs, hgn, hM, hF, n1, n2, n3, n4, n5⟩
  have B1 : Below w.heap.size w w1 := ((((((Below.refl _ _).alloc (Nat.le_refl _) _).alloc (by simp) _).alloc (by simp; omega) _).alloc (by simp; omega) _)).trans (hB.mono (by simp; omega))
  have l1 : gt < w1.heap.size := World.block_lt_of_cell? _ _ ht39
  have sn : w1.cell? ⟨gn, 0, none⟩ = some (.bool true) := cell_of_row w1 gn 0 _ 4 (0, 0) hgn
  have hfn : w1.frozen? ⟨gn, 0, none⟩ = false := by simp [World.frozen?, hgn]
  have n4' : w.heap.size ≤ gn := by simp at n4; omega
  go_wp2_with (go_at_call 54; refine halt_here ?_)
  refine resume ?_
  have hw : ∃ W, W = w1.setCell { block := gn, off := 0 } (Value.bool (!num)) := ⟨_, rfl⟩
  obtain ⟨W, hW⟩ := hw
  rw [← hW]
  have k1 : ∀ k, k ≠ gn → W.heap[k]? = w1.heap[k]? := by intro k hk; rw [hW]; exact heap_setCell_other w1 _ k _ hk
  have k2 : W.heap[gn]? = some (.cells #[.bool (!num)] 4 (0, 0)) := by rw [hW]; exact heap_setCell_same w1 gn 0 _ 4 _ hgn
  have k3 : Below w.heap.size w W := by rw [hW]; exact B1.setCell (by exact n4') _
  have cgt : ∀ j v, w1.cell? ⟨gt, j, none⟩ = some v → W.cell? ⟨gt, j, none⟩ = some v := fun j v h => (World.cell?_of_block (a := ⟨gt, j, none⟩) (k1 gt (Ne.symm n1))).trans h
  refine (getAlign_foot num c2 c3 c4 f2 f5 f8 gt gs gn gm f W (cgt _ _ ht39) (cgt _ _ ht6) (cgt _ _ ht4) ((k1 gs (Ne.symm n2)).trans hgs) k2 (hM.keep (k1 gm (Ne.symm n3))) hF).mono ?_
  rintro e w' ⟨rfl, hb⟩
  go_wp2
  go_ret
  exact ⟨rfl, k3.trans (hb.mono k3.size)⟩
end Go.Proofs.Ytlppbalnjogkoaa
