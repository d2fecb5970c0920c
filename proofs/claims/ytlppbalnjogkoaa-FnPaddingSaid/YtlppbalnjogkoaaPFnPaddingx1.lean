-- PRINTED BY print.sh 35421559b90ae4d0a3588c463048766b98c2df88dd9212a6774a882060cdf62d: not written by this session
import Derived.Test.YtlppbalnjogkoaaPFnPaddingx0
namespace Go.Proofs.Ytlppbalnjogkoaa.PFnPadding
open Go.RowKit Go.Proofs.YtlppbalnjogkoaaW.PrintWords Go.Proofs.YtlppbalnjogkoaaW.PrintLast Go.Proofs.YtlppbalnjogkoaaW.PrintMore
attribute [local go_sem] max2_int min2_int max_two min_two max_three min_three max_four min_four   -- for this text's walks alone
set_option linter.unusedVariables false
set_option linter.unusedSimpArgs false

/-! ### laws_zzFits23: function 17 -/
def laws_zzFits23.f (a0_0 : ByteArray) (a0_1 : ByteArray) (a0_2 : ByteArray) (a0_3 : ByteArray) (a0_4 : Bool) : Option (Bool) := if (a0_0.size : Int) > 2147483647 then (some false) else (if (a0_1.size : Int) > 2147483647 then (some false) else (if (a0_2.size : Int) > 2147483647 then (some false) else (if (a0_3.size : Int) > 2147483647 then (some false) else (some true))))
set_option maxHeartbeats 8000000 in
set_option maxRecDepth 100000 in
theorem laws_zzFits23.calls (a0_0 : ByteArray) (a0_1 : ByteArray) (a0_2 : ByteArray) (a0_3 : ByteArray) (a0_4 : Bool) (r : Bool) (w : World) (h : laws_zzFits23.f a0_0 a0_1 a0_2 a0_3 a0_4 = some r) :
    Calls Try.prog 17 #[.agg #[.string a0_0, .string a0_1, .string a0_2, .string a0_3, .bool a0_4]] w fun e w' => e = .returned (.bool r) ∧ Below w.heap.size w w' := by
  have hu28 := Try.underlying28
  have HB := Aside0.mk (Below.refl w.heap.size w)
  have H : (if (a0_0.size : Int) > 2147483647 then (some false) else (if (a0_1.size : Int) > 2147483647 then (some false) else (if (a0_2.size : Int) > 2147483647 then (some false) else (if (a0_3.size : Int) > 2147483647 then (some false) else (some true))))) = some r := h
  clear h
  by_cases c2 : (a0_0.size : Int) > 2147483647
  · rw [if_pos c2] at H
    have c2b0 : decide (2147483647 < (a0_0.size : Int)) = true := decide_eq_true c2
    have c2b1 : decide (2147483647 < a0_0.size) = true := decide_eq_true (by omega)
    clear c2
    obtain rfl := Option.some.inj H
    go_enter Try.func17, Try.ntmps17
    go_wp2_with (first | ((with_reducible refine gate_dst (N := 1) rfl ?_); refine box_event ?hg (N := 1) ?hd (cs := #[.string a0_0, .string a0_1, .string a0_2, .string a0_3, .bool a0_4]) (t := 28) ?hr ?_; (case hd => rfl); (case hg => rfl); (case hr => first | (go_simp; done) | (go_simp; rfl)); intro gb101 hg w3 hbox hb; have n0_ := Aside0.mk (below_step (by repeat (first | (with_reducible first | exact HB.out | apply below_alloc | apply pw_below_drewN | apply below_drew1) | exact HB.out)) hb); have n1_ := Aside0.mk (hbox); have n2_ := Aside0.mk ((by rw [hg]; exact (below_size (by repeat (first | (with_reducible first | exact HB.out | apply below_alloc | apply pw_below_drewN | apply below_drew1) | exact HB.out))) : w.heap.size ≤ gb101)); have n3_ := Aside0.mk ((by rw [hg]; exact (below_size (by repeat (first | (with_reducible first | exact HB.out | apply below_alloc | apply pw_below_drewN | apply below_drew1) | exact HB.out))) : w.heap.size ≤ gb101)); clear HB; have HB := n0_; have BK101 := n1_; have GW101 := n2_; have GE101 := n3_; clear n0_ n1_ n2_ n3_; clear hb hbox hg; have hcz4_0 : w3.cell? ⟨gb101, 0, none⟩ = some (.string a0_0) := (blk_cell BK101.out 0).trans rfl; have hcz4_1 : w3.cell? ⟨gb101, 1, none⟩ = some (.string a0_1) := (blk_cell BK101.out 1).trans rfl; have hcz4_2 : w3.cell? ⟨gb101, 2, none⟩ = some (.string a0_2) := (blk_cell BK101.out 2).trans rfl; have hcz4_3 : w3.cell? ⟨gb101, 3, none⟩ = some (.string a0_3) := (blk_cell BK101.out 3).trans rfl; have hcz4_4 : w3.cell? ⟨gb101, 4, none⟩ = some (.bool a0_4) := (blk_cell BK101.out 4).trans rfl; have hfz4_0 := blk_frozen BK101.out 0; have hfz4_1 := blk_frozen BK101.out 1; have hfz4_2 := blk_frozen BK101.out 2; have hfz4_3 := blk_frozen BK101.out 3; have hfz4_4 := blk_frozen BK101.out 4))
    go_ret
    exact ⟨by first | rfl | (simp [errW_none, errW_some] <;> rfl) | (simp [*, errW_none, errW_some] <;> rfl), by repeat (first | (with_reducible first | exact HB.out | apply below_alloc | apply pw_below_drewN | apply below_drew1 | refine below_set ?_ GE101.out) | exact HB.out)⟩
  · rw [if_neg c2] at H
    have c2b0 : decide (2147483647 < (a0_0.size : Int)) = false := decide_eq_false c2
    have c2b1 : decide (2147483647 < a0_0.size) = false := decide_eq_false (by omega)
    clear c2
    by_cases c5 : (a0_1.size : Int) > 2147483647
    · rw [if_pos c5] at H
      have c5b0 : decide (2147483647 < (a0_1.size : Int)) = true := decide_eq_true c5
      have c5b1 : decide (2147483647 < a0_1.size) = true := decide_eq_true (by omega)
      clear c5
      obtain rfl := Option.some.inj H
      go_enter Try.func17, Try.ntmps17
      go_wp2_with (first | ((with_reducible refine gate_dst (N := 1) rfl ?_); refine box_event ?hg (N := 1) ?hd (cs := #[.string a0_0, .string a0_1, .string a0_2, .string a0_3, .bool a0_4]) (t := 28) ?hr ?_; (case hd => rfl); (case hg => rfl); (case hr => first | (go_simp; done) | (go_simp; rfl)); intro gb101 hg w6 hbox hb; have n0_ := Aside0.mk (below_step (by repeat (first | (with_reducible first | exact HB.out | apply below_alloc | apply pw_below_drewN | apply below_drew1) | exact HB.out)) hb); have n1_ := Aside0.mk (hbox); have n2_ := Aside0.mk ((by rw [hg]; exact (below_size (by repeat (first | (with_reducible first | exact HB.out | apply below_alloc | apply pw_below_drewN | apply below_drew1) | exact HB.out))) : w.heap.size ≤ gb101)); have n3_ := Aside0.mk ((by rw [hg]; exact (below_size (by repeat (first | (with_reducible first | exact HB.out | apply below_alloc | apply pw_below_drewN | apply below_drew1) | exact HB.out))) : w.heap.size ≤ gb101)); clear HB; have HB := n0_; have BK101 := n1_; have GW101 := n2_; have GE101 := n3_; clear n0_ n1_ n2_ n3_; clear hb hbox hg; have hcz7_0 : w6.cell? ⟨gb101, 0, none⟩ = some (.string a0_0) := (blk_cell BK101.out 0).trans rfl; have hcz7_1 : w6.cell? ⟨gb101, 1, none⟩ = some (.string a0_1) := (blk_cell BK101.out 1).trans rfl; have hcz7_2 : w6.cell? ⟨gb101, 2, none⟩ = some (.string a0_2) := (blk_cell BK101.out 2).trans rfl; have hcz7_3 : w6.cell? ⟨gb101, 3, none⟩ = some (.string a0_3) := (blk_cell BK101.out 3).trans rfl; have hcz7_4 : w6.cell? ⟨gb101, 4, none⟩ = some (.bool a0_4) := (blk_cell BK101.out 4).trans rfl; have hfz7_0 := blk_frozen BK101.out 0; have hfz7_1 := blk_frozen BK101.out 1; have hfz7_2 := blk_frozen BK101.out 2; have hfz7_3 := blk_frozen BK101.out 3; have hfz7_4 := blk_frozen BK101.out 4))
      go_ret
      exact ⟨by first | rfl | (simp [errW_none, errW_some] <;> rfl) | (simp [*, errW_none, errW_some] <;> rfl), by repeat (first | (with_reducible first | exact HB.out | apply below_alloc | apply pw_below_drewN | apply below_drew1 | refine below_set ?_ GE101.out) | exact HB.out)⟩
    · rw [if_neg c5] at H
      have c5b0 : decide (2147483647 < (a0_1.size : Int)) = false := decide_eq_false c5
      have c5b1 : decide (2147483647 < a0_1.size) = false := decide_eq_false (by omega)
      clear c5
      by_cases c8 : (a0_2.size : Int) > 2147483647
      · rw [if_pos c8] at H
        have c8b0 : decide (2147483647 < (a0_2.size : Int)) = true := decide_eq_true c8
        have c8b1 : decide (2147483647 < a0_2.size) = true := decide_eq_true (by omega)
        clear c8
        obtain rfl := Option.some.inj H
        go_enter Try.func17, Try.ntmps17
        go_wp2_with (first | ((with_reducible refine gate_dst (N := 1) rfl ?_); refine box_event ?hg (N := 1) ?hd (cs := #[.string a0_0, .string a0_1, .string a0_2, .string a0_3, .bool a0_4]) (t := 28) ?hr ?_; (case hd => rfl); (case hg => rfl); (case hr => first | (go_simp; done) | (go_simp; rfl)); intro gb101 hg w9 hbox hb; have n0_ := Aside0.mk (below_step (by repeat (first | (with_reducible first | exact HB.out | apply below_alloc | apply pw_below_drewN | apply below_drew1) | exact HB.out)) hb); have n1_ := Aside0.mk (hbox); have n2_ := Aside0.mk ((by rw [hg]; exact (below_size (by repeat (first | (with_reducible first | exact HB.out | apply below_alloc | apply pw_below_drewN | apply below_drew1) | exact HB.out))) : w.heap.size ≤ gb101)); have n3_ := Aside0.mk ((by rw [hg]; exact (below_size (by repeat (first | (with_reducible first | exact HB.out | apply below_alloc | apply pw_below_drewN | apply below_drew1) | exact HB.out))) : w.heap.size ≤ gb101)); clear HB; have HB := n0_; have BK101 := n1_; have GW101 := n2_; have GE101 := n3_; clear n0_ n1_ n2_ n3_; clear hb hbox hg; have hcz10_0 : w9.cell? ⟨gb101, 0, none⟩ = some (.string a0_0) := (blk_cell BK101.out 0).trans rfl; have hcz10_1 : w9.cell? ⟨gb101, 1, none⟩ = some (.string a0_1) := (blk_cell BK101.out 1).trans rfl; have hcz10_2 : w9.cell? ⟨gb101, 2, none⟩ = some (.string a0_2) := (blk_cell BK101.out 2).trans rfl; have hcz10_3 : w9.cell? ⟨gb101, 3, none⟩ = some (.string a0_3) := (blk_cell BK101.out 3).trans rfl; have hcz10_4 : w9.cell? ⟨gb101, 4, none⟩ = some (.bool a0_4) := (blk_cell BK101.out 4).trans rfl; have hfz10_0 := blk_frozen BK101.out 0; have hfz10_1 := blk_frozen BK101.out 1; have hfz10_2 := blk_frozen BK101.out 2; have hfz10_3 := blk_frozen BK101.out 3; have hfz10_4 := blk_frozen BK101.out 4))
        go_ret
        exact ⟨by first | rfl | (simp [errW_none, errW_some] <;> rfl) | (simp [*, errW_none, errW_some] <;> rfl), by repeat (first | (with_reducible first | exact HB.out | apply below_alloc | apply pw_below_drewN | apply below_drew1 | refine below_set ?_ GE101.out) | exact HB.out)⟩
      · rw [if_neg c8] at H
        have c8b0 : decide (2147483647 < (a0_2.size : Int)) = false := decide_eq_false c8
        have c8b1 : decide (2147483647 < a0_2.size) = false := decide_eq_false (by omega)
        clear c8
        by_cases c11 : (a0_3.size : Int) > 2147483647
        · rw [if_pos c11] at H
          have c11b0 : decide (2147483647 < (a0_3.size : Int)) = true := decide_eq_true c11
          have c11b1 : decide (2147483647 < a0_3.size) = true := decide_eq_true (by omega)
          clear c11
          obtain rfl := Option.some.inj H
          go_enter Try.func17, Try.ntmps17
          go_wp2_with (first | ((with_reducible refine gate_dst (N := 1) rfl ?_); refine box_event ?hg (N := 1) ?hd (cs := #[.string a0_0, .string a0_1, .string a0_2, .string a0_3, .bool a0_4]) (t := 28) ?hr ?_; (case hd => rfl); (case hg => rfl); (case hr => first | (go_simp; done) | (go_simp; rfl)); intro gb101 hg w12 hbox hb; have n0_ := Aside0.mk (below_step (by repeat (first | (with_reducible first | exact HB.out | apply below_alloc | apply pw_below_drewN | apply below_drew1) | exact HB.out)) hb); have n1_ := Aside0.mk (hbox); have n2_ := Aside0.mk ((by rw [hg]; exact (below_size (by repeat (first | (with_reducible first | exact HB.out | apply below_alloc | apply pw_below_drewN | apply below_drew1) | exact HB.out))) : w.heap.size ≤ gb101)); have n3_ := Aside0.mk ((by rw [hg]; exact (below_size (by repeat (first | (with_reducible first | exact HB.out | apply below_alloc | apply pw_below_drewN | apply below_drew1) | exact HB.out))) : w.heap.size ≤ gb101)); clear HB; have HB := n0_; have BK101 := n1_; have GW101 := n2_; have GE101 := n3_; clear n0_ n1_ n2_ n3_; clear hb hbox hg; have hcz13_0 : w12.cell? ⟨gb101, 0, none⟩ = some (.string a0_0) := (blk_cell BK101.out 0).trans rfl; have hcz13_1 : w12.cell? ⟨gb101, 1, none⟩ = some (.string a0_1) := (blk_cell BK101.out 1).trans rfl; have hcz13_2 : w12.cell? ⟨gb101, 2, none⟩ = some (.string a0_2) := (blk_cell BK101.out 2).trans rfl; have hcz13_3 : w12.cell? ⟨gb101, 3, none⟩ = some (.string a0_3) := (blk_cell BK101.out 3).trans rfl; have hcz13_4 : w12.cell? ⟨gb101, 4, none⟩ = some (.bool a0_4) := (blk_cell BK101.out 4).trans rfl; have hfz13_0 := blk_frozen BK101.out 0; have hfz13_1 := blk_frozen BK101.out 1; have hfz13_2 := blk_frozen BK101.out 2; have hfz13_3 := blk_frozen BK101.out 3; have hfz13_4 := blk_frozen BK101.out 4))
          go_ret
          exact ⟨by first | rfl | (simp [errW_none, errW_some] <;> rfl) | (simp [*, errW_none, errW_some] <;> rfl), by repeat (first | (with_reducible first | exact HB.out | apply below_alloc | apply pw_below_drewN | apply below_drew1 | refine below_set ?_ GE101.out) | exact HB.out)⟩
        · rw [if_neg c11] at H
          have c11b0 : decide (2147483647 < (a0_3.size : Int)) = false := decide_eq_false c11
          have c11b1 : decide (2147483647 < a0_3.size) = false := decide_eq_false (by omega)
          clear c11
          obtain rfl := Option.some.inj H
          go_enter Try.func17, Try.ntmps17
          go_wp2_with (first | ((with_reducible refine gate_dst (N := 1) rfl ?_); refine box_event ?hg (N := 1) ?hd (cs := #[.string a0_0, .string a0_1, .string a0_2, .string a0_3, .bool a0_4]) (t := 28) ?hr ?_; (case hd => rfl); (case hg => rfl); (case hr => first | (go_simp; done) | (go_simp; rfl)); intro gb101 hg w14 hbox hb; have n0_ := Aside0.mk (below_step (by repeat (first | (with_reducible first | exact HB.out | apply below_alloc | apply pw_below_drewN | apply below_drew1) | exact HB.out)) hb); have n1_ := Aside0.mk (hbox); have n2_ := Aside0.mk ((by rw [hg]; exact (below_size (by repeat (first | (with_reducible first | exact HB.out | apply below_alloc | apply pw_below_drewN | apply below_drew1) | exact HB.out))) : w.heap.size ≤ gb101)); have n3_ := Aside0.mk ((by rw [hg]; exact (below_size (by repeat (first | (with_reducible first | exact HB.out | apply below_alloc | apply pw_below_drewN | apply below_drew1) | exact HB.out))) : w.heap.size ≤ gb101)); clear HB; have HB := n0_; have BK101 := n1_; have GW101 := n2_; have GE101 := n3_; clear n0_ n1_ n2_ n3_; clear hb hbox hg; have hcz15_0 : w14.cell? ⟨gb101, 0, none⟩ = some (.string a0_0) := (blk_cell BK101.out 0).trans rfl; have hcz15_1 : w14.cell? ⟨gb101, 1, none⟩ = some (.string a0_1) := (blk_cell BK101.out 1).trans rfl; have hcz15_2 : w14.cell? ⟨gb101, 2, none⟩ = some (.string a0_2) := (blk_cell BK101.out 2).trans rfl; have hcz15_3 : w14.cell? ⟨gb101, 3, none⟩ = some (.string a0_3) := (blk_cell BK101.out 3).trans rfl; have hcz15_4 : w14.cell? ⟨gb101, 4, none⟩ = some (.bool a0_4) := (blk_cell BK101.out 4).trans rfl; have hfz15_0 := blk_frozen BK101.out 0; have hfz15_1 := blk_frozen BK101.out 1; have hfz15_2 := blk_frozen BK101.out 2; have hfz15_3 := blk_frozen BK101.out 3; have hfz15_4 := blk_frozen BK101.out 4))
          go_ret
          exact ⟨by first | rfl | (simp [errW_none, errW_some] <;> rfl) | (simp [*, errW_none, errW_some] <;> rfl), by repeat (first | (with_reducible first | exact HB.out | apply below_alloc | apply pw_below_drewN | apply below_drew1 | refine below_set ?_ GE101.out) | exact HB.out)⟩

/-! ### tw_Padding_Empty: function 38 -/
def tw_Padding_Empty.f (a0_0 : ByteArray) (a0_1 : ByteArray) (a0_2 : ByteArray) (a0_3 : ByteArray) (a0_4 : Bool) : Option (Bool) := if a0_0.toList = ([] : List UInt8) then (if a0_1.toList = ([] : List UInt8) then (if a0_2.toList = ([] : List UInt8) then (some (a0_3.toList == ([] : List UInt8))) else (some false)) else (some false)) else (some false)
set_option maxHeartbeats 8000000 in
set_option maxRecDepth 100000 in
theorem tw_Padding_Empty.calls (a0_0 : ByteArray) (a0_1 : ByteArray) (a0_2 : ByteArray) (a0_3 : ByteArray) (a0_4 : Bool) (r : Bool) (w : World) (h : tw_Padding_Empty.f a0_0 a0_1 a0_2 a0_3 a0_4 = some r) :
    Calls Try.prog 38 #[.agg #[.string a0_0, .string a0_1, .string a0_2, .string a0_3, .bool a0_4]] w fun e w' => e = .returned (.bool r) ∧ Below w.heap.size w w' := by
  have hu59 := Try.underlying59
  have HB := Aside0.mk (Below.refl w.heap.size w)
  have H : (if a0_0.toList = ([] : List UInt8) then (if a0_1.toList = ([] : List UInt8) then (if a0_2.toList = ([] : List UInt8) then (some (a0_3.toList == ([] : List UInt8))) else (some false)) else (some false)) else (some false)) = some r := h
  clear h
  by_cases c2 : a0_0.toList = ([] : List UInt8)
  · rw [if_pos c2] at H
    have c2b0 : (a0_0.toList == ([] : List UInt8)) = true := beq_iff_eq.mpr c2
    have c2b1 : (a0_0.toList != ([] : List UInt8)) = false := bne_eq_false_iff_eq.mpr c2
    clear c2
    by_cases c3 : a0_1.toList = ([] : List UInt8)
    · rw [if_pos c3] at H
      have c3b0 : (a0_1.toList == ([] : List UInt8)) = true := beq_iff_eq.mpr c3
      have c3b1 : (a0_1.toList != ([] : List UInt8)) = false := bne_eq_false_iff_eq.mpr c3
      clear c3
      by_cases c4 : a0_2.toList = ([] : List UInt8)
      · rw [if_pos c4] at H
        have c4b0 : (a0_2.toList == ([] : List UInt8)) = true := beq_iff_eq.mpr c4
        have c4b1 : (a0_2.toList != ([] : List UInt8)) = false := bne_eq_false_iff_eq.mpr c4
        clear c4
        obtain rfl := Option.some.inj H
        go_enter Try.func38, Try.ntmps38
        go_wp2_with (first | ((with_reducible refine gate_dst (N := 1) rfl ?_); refine box_event ?hg (N := 1) ?hd (cs := #[.string a0_0, .string a0_1, .string a0_2, .string a0_3, .bool a0_4]) (t := 59) ?hr ?_; (case hd => rfl); (case hg => rfl); (case hr => first | (go_simp; done) | (go_simp; rfl)); intro gb102 hg w5 hbox hb; have n0_ := Aside0.mk (below_step (by repeat (first | (with_reducible first | exact HB.out | apply below_alloc | apply pw_below_drewN | apply below_drew1) | exact HB.out)) hb); have n1_ := Aside0.mk (hbox); have n2_ := Aside0.mk ((by rw [hg]; exact (below_size (by repeat (first | (with_reducible first | exact HB.out | apply below_alloc | apply pw_below_drewN | apply below_drew1) | exact HB.out))) : w.heap.size ≤ gb102)); have n3_ := Aside0.mk ((by rw [hg]; exact (below_size (by repeat (first | (with_reducible first | exact HB.out | apply below_alloc | apply pw_below_drewN | apply below_drew1) | exact HB.out))) : w.heap.size ≤ gb102)); clear HB; have HB := n0_; have BK102 := n1_; have GW102 := n2_; have GE102 := n3_; clear n0_ n1_ n2_ n3_; clear hb hbox hg; have hcz6_0 : w5.cell? ⟨gb102, 0, none⟩ = some (.string a0_0) := (blk_cell BK102.out 0).trans rfl; have hcz6_1 : w5.cell? ⟨gb102, 1, none⟩ = some (.string a0_1) := (blk_cell BK102.out 1).trans rfl; have hcz6_2 : w5.cell? ⟨gb102, 2, none⟩ = some (.string a0_2) := (blk_cell BK102.out 2).trans rfl; have hcz6_3 : w5.cell? ⟨gb102, 3, none⟩ = some (.string a0_3) := (blk_cell BK102.out 3).trans rfl; have hcz6_4 : w5.cell? ⟨gb102, 4, none⟩ = some (.bool a0_4) := (blk_cell BK102.out 4).trans rfl; have hfz6_0 := blk_frozen BK102.out 0; have hfz6_1 := blk_frozen BK102.out 1; have hfz6_2 := blk_frozen BK102.out 2; have hfz6_3 := blk_frozen BK102.out 3; have hfz6_4 := blk_frozen BK102.out 4))
        go_ret
        exact ⟨by first | rfl | (simp [errW_none, errW_some] <;> rfl) | (simp [*, errW_none, errW_some] <;> rfl), by repeat (first | (with_reducible first | exact HB.out | apply below_alloc | apply pw_below_drewN | apply below_drew1 | refine below_set ?_ GE102.out) | exact HB.out)⟩
      · rw [if_neg c4] at H
        have c4b0 : (a0_2.toList == ([] : List UInt8)) = false := beq_eq_false_iff_ne.mpr c4
        have c4b1 : (a0_2.toList != ([] : List UInt8)) = true := bne_iff_ne.mpr c4
        obtain rfl := Option.some.inj H
        go_enter Try.func38, Try.ntmps38
        go_wp2_with (first | ((with_reducible refine gate_dst (N := 1) rfl ?_); refine box_event ?hg (N := 1) ?hd (cs := #[.string a0_0, .string a0_1, .string a0_2, .string a0_3, .bool a0_4]) (t := 59) ?hr ?_; (case hd => rfl); (case hg => rfl); (case hr => first | (go_simp; done) | (go_simp; rfl)); intro gb102 hg w7 hbox hb; have n0_ := Aside0.mk (below_step (by repeat (first | (with_reducible first | exact HB.out | apply below_alloc | apply pw_below_drewN | apply below_drew1) | exact HB.out)) hb); have n1_ := Aside0.mk (hbox); have n2_ := Aside0.mk ((by rw [hg]; exact (below_size (by repeat (first | (with_reducible first | exact HB.out | apply below_alloc | apply pw_below_drewN | apply below_drew1) | exact HB.out))) : w.heap.size ≤ gb102)); have n3_ := Aside0.mk ((by rw [hg]; exact (below_size (by repeat (first | (with_reducible first | exact HB.out | apply below_alloc | apply pw_below_drewN | apply below_drew1) | exact HB.out))) : w.heap.size ≤ gb102)); clear HB; have HB := n0_; have BK102 := n1_; have GW102 := n2_; have GE102 := n3_; clear n0_ n1_ n2_ n3_; clear hb hbox hg; have hcz8_0 : w7.cell? ⟨gb102, 0, none⟩ = some (.string a0_0) := (blk_cell BK102.out 0).trans rfl; have hcz8_1 : w7.cell? ⟨gb102, 1, none⟩ = some (.string a0_1) := (blk_cell BK102.out 1).trans rfl; have hcz8_2 : w7.cell? ⟨gb102, 2, none⟩ = some (.string a0_2) := (blk_cell BK102.out 2).trans rfl; have hcz8_3 : w7.cell? ⟨gb102, 3, none⟩ = some (.string a0_3) := (blk_cell BK102.out 3).trans rfl; have hcz8_4 : w7.cell? ⟨gb102, 4, none⟩ = some (.bool a0_4) := (blk_cell BK102.out 4).trans rfl; have hfz8_0 := blk_frozen BK102.out 0; have hfz8_1 := blk_frozen BK102.out 1; have hfz8_2 := blk_frozen BK102.out 2; have hfz8_3 := blk_frozen BK102.out 3; have hfz8_4 := blk_frozen BK102.out 4))
        go_ret
        exact ⟨by first | rfl | (simp [errW_none, errW_some] <;> rfl) | (simp [*, errW_none, errW_some] <;> rfl), by repeat (first | (with_reducible first | exact HB.out | apply below_alloc | apply pw_below_drewN | apply below_drew1 | refine below_set ?_ GE102.out) | exact HB.out)⟩
    · rw [if_neg c3] at H
      have c3b0 : (a0_1.toList == ([] : List UInt8)) = false := beq_eq_false_iff_ne.mpr c3
      have c3b1 : (a0_1.toList != ([] : List UInt8)) = true := bne_iff_ne.mpr c3
      obtain rfl := Option.some.inj H
      go_enter Try.func38, Try.ntmps38
      go_wp2_with (first | ((with_reducible refine gate_dst (N := 1) rfl ?_); refine box_event ?hg (N := 1) ?hd (cs := #[.string a0_0, .string a0_1, .string a0_2, .string a0_3, .bool a0_4]) (t := 59) ?hr ?_; (case hd => rfl); (case hg => rfl); (case hr => first | (go_simp; done) | (go_simp; rfl)); intro gb102 hg w9 hbox hb; have n0_ := Aside0.mk (below_step (by repeat (first | (with_reducible first | exact HB.out | apply below_alloc | apply pw_below_drewN | apply below_drew1) | exact HB.out)) hb); have n1_ := Aside0.mk (hbox); have n2_ := Aside0.mk ((by rw [hg]; exact (below_size (by repeat (first | (with_reducible first | exact HB.out | apply below_alloc | apply pw_below_drewN | apply below_drew1) | exact HB.out))) : w.heap.size ≤ gb102)); have n3_ := Aside0.mk ((by rw [hg]; exact (below_size (by repeat (first | (with_reducible first | exact HB.out | apply below_alloc | apply pw_below_drewN | apply below_drew1) | exact HB.out))) : w.heap.size ≤ gb102)); clear HB; have HB := n0_; have BK102 := n1_; have GW102 := n2_; have GE102 := n3_; clear n0_ n1_ n2_ n3_; clear hb hbox hg; have hcz10_0 : w9.cell? ⟨gb102, 0, none⟩ = some (.string a0_0) := (blk_cell BK102.out 0).trans rfl; have hcz10_1 : w9.cell? ⟨gb102, 1, none⟩ = some (.string a0_1) := (blk_cell BK102.out 1).trans rfl; have hcz10_2 : w9.cell? ⟨gb102, 2, none⟩ = some (.string a0_2) := (blk_cell BK102.out 2).trans rfl; have hcz10_3 : w9.cell? ⟨gb102, 3, none⟩ = some (.string a0_3) := (blk_cell BK102.out 3).trans rfl; have hcz10_4 : w9.cell? ⟨gb102, 4, none⟩ = some (.bool a0_4) := (blk_cell BK102.out 4).trans rfl; have hfz10_0 := blk_frozen BK102.out 0; have hfz10_1 := blk_frozen BK102.out 1; have hfz10_2 := blk_frozen BK102.out 2; have hfz10_3 := blk_frozen BK102.out 3; have hfz10_4 := blk_frozen BK102.out 4))
      go_ret
      exact ⟨by first | rfl | (simp [errW_none, errW_some] <;> rfl) | (simp [*, errW_none, errW_some] <;> rfl), by repeat (first | (with_reducible first | exact HB.out | apply below_alloc | apply pw_below_drewN | apply below_drew1 | refine below_set ?_ GE102.out) | exact HB.out)⟩
  · rw [if_neg c2] at H
    have c2b0 : (a0_0.toList == ([] : List UInt8)) = false := beq_eq_false_iff_ne.mpr c2
    have c2b1 : (a0_0.toList != ([] : List UInt8)) = true := bne_iff_ne.mpr c2
    obtain rfl := Option.some.inj H
    go_enter Try.func38, Try.ntmps38
    go_wp2_with (first | ((with_reducible refine gate_dst (N := 1) rfl ?_); refine box_event ?hg (N := 1) ?hd (cs := #[.string a0_0, .string a0_1, .string a0_2, .string a0_3, .bool a0_4]) (t := 59) ?hr ?_; (case hd => rfl); (case hg => rfl); (case hr => first | (go_simp; done) | (go_simp; rfl)); intro gb102 hg w11 hbox hb; have n0_ := Aside0.mk (below_step (by repeat (first | (with_reducible first | exact HB.out | apply below_alloc | apply pw_below_drewN | apply below_drew1) | exact HB.out)) hb); have n1_ := Aside0.mk (hbox); have n2_ := Aside0.mk ((by rw [hg]; exact (below_size (by repeat (first | (with_reducible first | exact HB.out | apply below_alloc | apply pw_below_drewN | apply below_drew1) | exact HB.out))) : w.heap.size ≤ gb102)); have n3_ := Aside0.mk ((by rw [hg]; exact (below_size (by repeat (first | (with_reducible first | exact HB.out | apply below_alloc | apply pw_below_drewN | apply below_drew1) | exact HB.out))) : w.heap.size ≤ gb102)); clear HB; have HB := n0_; have BK102 := n1_; have GW102 := n2_; have GE102 := n3_; clear n0_ n1_ n2_ n3_; clear hb hbox hg; have hcz12_0 : w11.cell? ⟨gb102, 0, none⟩ = some (.string a0_0) := (blk_cell BK102.out 0).trans rfl; have hcz12_1 : w11.cell? ⟨gb102, 1, none⟩ = some (.string a0_1) := (blk_cell BK102.out 1).trans rfl; have hcz12_2 : w11.cell? ⟨gb102, 2, none⟩ = some (.string a0_2) := (blk_cell BK102.out 2).trans rfl; have hcz12_3 : w11.cell? ⟨gb102, 3, none⟩ = some (.string a0_3) := (blk_cell BK102.out 3).trans rfl; have hcz12_4 : w11.cell? ⟨gb102, 4, none⟩ = some (.bool a0_4) := (blk_cell BK102.out 4).trans rfl; have hfz12_0 := blk_frozen BK102.out 0; have hfz12_1 := blk_frozen BK102.out 1; have hfz12_2 := blk_frozen BK102.out 2; have hfz12_3 := blk_frozen BK102.out 3; have hfz12_4 := blk_frozen BK102.out 4))
    go_ret
    exact ⟨by first | rfl | (simp [errW_none, errW_some] <;> rfl) | (simp [*, errW_none, errW_some] <;> rfl), by repeat (first | (with_reducible first | exact HB.out | apply below_alloc | apply pw_below_drewN | apply below_drew1 | refine below_set ?_ GE102.out) | exact HB.out)⟩

/-! ### tw_Padding_Paddable: function 39 -/
def tw_Padding_Paddable.f (a0_0 : ByteArray) (a0_1 : ByteArray) (a0_2 : ByteArray) (a0_3 : ByteArray) (a0_4 : Bool) : Option (Bool) := (tw_Padding_Empty.f a0_0 a0_1 a0_2 a0_3 a0_4).bind fun t104 => (if t104 = true then (some a0_4) else (some true))
set_option maxHeartbeats 8000000 in
set_option maxRecDepth 100000 in
theorem tw_Padding_Paddable.calls (a0_0 : ByteArray) (a0_1 : ByteArray) (a0_2 : ByteArray) (a0_3 : ByteArray) (a0_4 : Bool) (r : Bool) (w : World) (h : tw_Padding_Paddable.f a0_0 a0_1 a0_2 a0_3 a0_4 = some r) :
    Calls Try.prog 39 #[.agg #[.string a0_0, .string a0_1, .string a0_2, .string a0_3, .bool a0_4]] w fun e w' => e = .returned (.bool r) ∧ Below w.heap.size w w' := by
  have hu59 := Try.underlying59
  have HB := Aside0.mk (Below.refl w.heap.size w)
  have H : ((tw_Padding_Empty.f a0_0 a0_1 a0_2 a0_3 a0_4).bind fun t104 => (if t104 = true then (some a0_4) else (some true))) = some r := h
  clear h
  replace H := Option.bind_eq_some_iff.mp H
  obtain ⟨t104, A20, H⟩ := H
  replace H : (if t104 = true then (some a0_4) else (some true)) = some r := H
  have A2 := Aside0.mk A20
  clear A20
  by_cases c3 : t104 = true
  · subst c3
    have H1 : (some a0_4) = some r := by rw [if_pos rfl] at H; exact H
    clear H
    have H := H1
    clear H1
    obtain rfl := Option.some.inj H
    go_enter Try.func39, Try.ntmps39
    go_wp2_with (first | ((with_reducible refine gate_dst (N := 1) rfl ?_); refine box_event ?hg (N := 1) ?hd (cs := #[.string a0_0, .string a0_1, .string a0_2, .string a0_3, .bool a0_4]) (t := 59) ?hr ?_; (case hd => rfl); (case hg => rfl); (case hr => first | (go_simp; done) | (go_simp; rfl)); intro gb103 hg w4 hbox hb; have n0_ := Aside0.mk (below_step (by repeat (first | (with_reducible first | exact HB.out | apply below_alloc | apply pw_below_drewN | apply below_drew1) | exact HB.out)) hb); have n1_ := Aside0.mk (hbox); have n2_ := Aside0.mk ((by rw [hg]; exact (below_size (by repeat (first | (with_reducible first | exact HB.out | apply below_alloc | apply pw_below_drewN | apply below_drew1) | exact HB.out))) : w.heap.size ≤ gb103)); have n3_ := Aside0.mk ((by rw [hg]; exact (below_size (by repeat (first | (with_reducible first | exact HB.out | apply below_alloc | apply pw_below_drewN | apply below_drew1) | exact HB.out))) : w.heap.size ≤ gb103)); clear HB; have HB := n0_; have BK103 := n1_; have GW103 := n2_; have GE103 := n3_; clear n0_ n1_ n2_ n3_; clear hb hbox hg; have hcz5_0 : w4.cell? ⟨gb103, 0, none⟩ = some (.string a0_0) := (blk_cell BK103.out 0).trans rfl; have hcz5_1 : w4.cell? ⟨gb103, 1, none⟩ = some (.string a0_1) := (blk_cell BK103.out 1).trans rfl; have hcz5_2 : w4.cell? ⟨gb103, 2, none⟩ = some (.string a0_2) := (blk_cell BK103.out 2).trans rfl; have hcz5_3 : w4.cell? ⟨gb103, 3, none⟩ = some (.string a0_3) := (blk_cell BK103.out 3).trans rfl; have hcz5_4 : w4.cell? ⟨gb103, 4, none⟩ = some (.bool a0_4) := (blk_cell BK103.out 4).trans rfl; have hfz5_0 := blk_frozen BK103.out 0; have hfz5_1 := blk_frozen BK103.out 1; have hfz5_2 := blk_frozen BK103.out 2; have hfz5_3 := blk_frozen BK103.out 3; have hfz5_4 := blk_frozen BK103.out 4) | ((with_reducible refine gate_callee (f := 38) rfl ?_); refine goesL_ (some 4) rfl rfl Try.func38 (by kernel_rfl) rfl #[.agg #[.string a0_0, .string a0_1, .string a0_2, .string a0_3, .bool a0_4]] rfl (by (try simp only [List.map_toArray, List.map_cons, List.map_nil]); first | done | rfl | (simp only [List.length_drop, List.length_take]; rfl)) ?_; (with_reducible refine (tw_Padding_Empty.calls a0_0 a0_1 a0_2 a0_3 a0_4 true _ A2.out).mono ?_); rintro e w6 ⟨rfl, hb⟩; refine ⟨_, rfl, ?_⟩; have n0_ := Aside0.mk (blk_below (g := gb103) (o := .cells #[.string a0_0, .string a0_1, .string a0_2, .string a0_3, .bool a0_4] 59 (0, 0)) (by (with_reducible repeat (first | refine blk_drewN ?_ _ | refine blk_drew ?_ | refine blk_alloc ?_ _)); exact BK103.out) hb); have n1_ := Aside0.mk (below_step (by repeat (first | (with_reducible first | exact HB.out | apply below_alloc | apply pw_below_drewN | apply below_drew1 | refine below_set ?_ GE103.out) | exact HB.out)) hb); clear BK103; clear HB; have BK103 := n0_; have HB := n1_; clear n0_ n1_; (try clear hb); (try clear hb2); (try clear hk); (try clear hi); have hcz7_0 : w6.cell? ⟨gb103, 0, none⟩ = some (.string a0_0) := (blk_cell BK103.out 0).trans rfl; have hcz7_1 : w6.cell? ⟨gb103, 1, none⟩ = some (.string a0_1) := (blk_cell BK103.out 1).trans rfl; have hcz7_2 : w6.cell? ⟨gb103, 2, none⟩ = some (.string a0_2) := (blk_cell BK103.out 2).trans rfl; have hcz7_3 : w6.cell? ⟨gb103, 3, none⟩ = some (.string a0_3) := (blk_cell BK103.out 3).trans rfl; have hcz7_4 : w6.cell? ⟨gb103, 4, none⟩ = some (.bool a0_4) := (blk_cell BK103.out 4).trans rfl; have hfz7_0 := blk_frozen BK103.out 0; have hfz7_1 := blk_frozen BK103.out 1; have hfz7_2 := blk_frozen BK103.out 2; have hfz7_3 := blk_frozen BK103.out 3; have hfz7_4 := blk_frozen BK103.out 4))
    go_ret
    exact ⟨by first | rfl | (simp [errW_none, errW_some] <;> rfl) | (simp [*, errW_none, errW_some] <;> rfl), by repeat (first | (with_reducible first | exact HB.out | apply below_alloc | apply pw_below_drewN | apply below_drew1 | refine below_set ?_ GE103.out) | exact HB.out)⟩
  · replace c3 := Bool.eq_false_iff.mpr c3
    subst c3
    have H1 : (some true) = some r := by rw [if_neg (show ¬ (false = true) by decide)] at H; exact H
    clear H
    have H := H1
    clear H1
    obtain rfl := Option.some.inj H
    go_enter Try.func39, Try.ntmps39
    go_wp2_with (first | ((with_reducible refine gate_dst (N := 1) rfl ?_); refine box_event ?hg (N := 1) ?hd (cs := #[.string a0_0, .string a0_1, .string a0_2, .string a0_3, .bool a0_4]) (t := 59) ?hr ?_; (case hd => rfl); (case hg => rfl); (case hr => first | (go_simp; done) | (go_simp; rfl)); intro gb103 hg w8 hbox hb; have n0_ := Aside0.mk (below_step (by repeat (first | (with_reducible first | exact HB.out | apply below_alloc | apply pw_below_drewN | apply below_drew1) | exact HB.out)) hb); have n1_ := Aside0.mk (hbox); have n2_ := Aside0.mk ((by rw [hg]; exact (below_size (by repeat (first | (with_reducible first | exact HB.out | apply below_alloc | apply pw_below_drewN | apply below_drew1) | exact HB.out))) : w.heap.size ≤ gb103)); have n3_ := Aside0.mk ((by rw [hg]; exact (below_size (by repeat (first | (with_reducible first | exact HB.out | apply below_alloc | apply pw_below_drewN | apply below_drew1) | exact HB.out))) : w.heap.size ≤ gb103)); clear HB; have HB := n0_; have BK103 := n1_; have GW103 := n2_; have GE103 := n3_; clear n0_ n1_ n2_ n3_; clear hb hbox hg; have hcz9_0 : w8.cell? ⟨gb103, 0, none⟩ = some (.string a0_0) := (blk_cell BK103.out 0).trans rfl; have hcz9_1 : w8.cell? ⟨gb103, 1, none⟩ = some (.string a0_1) := (blk_cell BK103.out 1).trans rfl; have hcz9_2 : w8.cell? ⟨gb103, 2, none⟩ = some (.string a0_2) := (blk_cell BK103.out 2).trans rfl; have hcz9_3 : w8.cell? ⟨gb103, 3, none⟩ = some (.string a0_3) := (blk_cell BK103.out 3).trans rfl; have hcz9_4 : w8.cell? ⟨gb103, 4, none⟩ = some (.bool a0_4) := (blk_cell BK103.out 4).trans rfl; have hfz9_0 := blk_frozen BK103.out 0; have hfz9_1 := blk_frozen BK103.out 1; have hfz9_2 := blk_frozen BK103.out 2; have hfz9_3 := blk_frozen BK103.out 3; have hfz9_4 := blk_frozen BK103.out 4) | ((with_reducible refine gate_callee (f := 38) rfl ?_); refine goesL_ (some 4) rfl rfl Try.func38 (by kernel_rfl) rfl #[.agg #[.string a0_0, .string a0_1, .string a0_2, .string a0_3, .bool a0_4]] rfl (by (try simp only [List.map_toArray, List.map_cons, List.map_nil]); first | done | rfl | (simp only [List.length_drop, List.length_take]; rfl)) ?_; (with_reducible refine (tw_Padding_Empty.calls a0_0 a0_1 a0_2 a0_3 a0_4 false _ A2.out).mono ?_); rintro e w10 ⟨rfl, hb⟩; refine ⟨_, rfl, ?_⟩; have n0_ := Aside0.mk (blk_below (g := gb103) (o := .cells #[.string a0_0, .string a0_1, .string a0_2, .string a0_3, .bool a0_4] 59 (0, 0)) (by (with_reducible repeat (first | refine blk_drewN ?_ _ | refine blk_drew ?_ | refine blk_alloc ?_ _)); exact BK103.out) hb); have n1_ := Aside0.mk (below_step (by repeat (first | (with_reducible first | exact HB.out | apply below_alloc | apply pw_below_drewN | apply below_drew1 | refine below_set ?_ GE103.out) | exact HB.out)) hb); clear BK103; clear HB; have BK103 := n0_; have HB := n1_; clear n0_ n1_; (try clear hb); (try clear hb2); (try clear hk); (try clear hi)))
    go_ret
    exact ⟨by first | rfl | (simp [errW_none, errW_some] <;> rfl) | (simp [*, errW_none, errW_some] <;> rfl), by repeat (first | (with_reducible first | exact HB.out | apply below_alloc | apply pw_below_drewN | apply below_drew1 | refine below_set ?_ GE103.out) | exact HB.out)⟩

/-! ### tw_Padding_Equals: function 40 -/
def tw_Padding_Equals.f (a0_0 : ByteArray) (a0_1 : ByteArray) (a0_2 : ByteArray) (a0_3 : ByteArray) (a0_4 : Bool) (a1_0 : ByteArray) (a1_1 : ByteArray) (a1_2 : ByteArray) (a1_3 : ByteArray) (a1_4 : Bool) : Option (Bool) := if a0_0.toList = a1_0.toList then (if a0_1.toList = a1_1.toList then (if a0_2.toList = a1_2.toList then (if a0_3.toList = a1_3.toList then (some (a0_4 == a1_4)) else (some false)) else (some false)) else (some false)) else (some false)
set_option maxHeartbeats 8000000 in
set_option maxRecDepth 100000 in
theorem tw_Padding_Equals.calls (a0_0 : ByteArray) (a0_1 : ByteArray) (a0_2 : ByteArray) (a0_3 : ByteArray) (a0_4 : Bool) (a1_0 : ByteArray) (a1_1 : ByteArray) (a1_2 : ByteArray) (a1_3 : ByteArray) (a1_4 : Bool) (r : Bool) (w : World) (h : tw_Padding_Equals.f a0_0 a0_1 a0_2 a0_3 a0_4 a1_0 a1_1 a1_2 a1_3 a1_4 = some r) :
    Calls Try.prog 40 #[.agg #[.string a0_0, .string a0_1, .string a0_2, .string a0_3, .bool a0_4], .agg #[.string a1_0, .string a1_1, .string a1_2, .string a1_3, .bool a1_4]] w fun e w' => e = .returned (.bool r) ∧ Below w.heap.size w w' := by
  have hu59 := Try.underlying59
  have HB := Aside0.mk (Below.refl w.heap.size w)
  have H : (if a0_0.toList = a1_0.toList then (if a0_1.toList = a1_1.toList then (if a0_2.toList = a1_2.toList then (if a0_3.toList = a1_3.toList then (some (a0_4 == a1_4)) else (some false)) else (some false)) else (some false)) else (some false)) = some r := h
  clear h
  by_cases c3 : a0_0.toList = a1_0.toList
  · rw [if_pos c3] at H
    have c3b0 : (a0_0.toList == a1_0.toList) = true := beq_iff_eq.mpr c3
    have c3b1 : (a0_0.toList != a1_0.toList) = false := bne_eq_false_iff_eq.mpr c3
    clear c3
    by_cases c4 : a0_1.toList = a1_1.toList
    · rw [if_pos c4] at H
      have c4b0 : (a0_1.toList == a1_1.toList) = true := beq_iff_eq.mpr c4
      have c4b1 : (a0_1.toList != a1_1.toList) = false := bne_eq_false_iff_eq.mpr c4
      clear c4
      by_cases c5 : a0_2.toList = a1_2.toList
      · rw [if_pos c5] at H
        have c5b0 : (a0_2.toList == a1_2.toList) = true := beq_iff_eq.mpr c5
        have c5b1 : (a0_2.toList != a1_2.toList) = false := bne_eq_false_iff_eq.mpr c5
        clear c5
        by_cases c6 : a0_3.toList = a1_3.toList
        · rw [if_pos c6] at H
          have c6b0 : (a0_3.toList == a1_3.toList) = true := beq_iff_eq.mpr c6
          have c6b1 : (a0_3.toList != a1_3.toList) = false := bne_eq_false_iff_eq.mpr c6
          clear c6
          obtain rfl := Option.some.inj H
          go_enter Try.func40, Try.ntmps40
          go_wp2_with (first | ((with_reducible refine gate_dst (N := 2) rfl ?_); refine box_event ?hg (N := 2) ?hd (cs := #[.string a0_0, .string a0_1, .string a0_2, .string a0_3, .bool a0_4]) (t := 59) ?hr ?_; (case hd => rfl); (case hg => rfl); (case hr => first | (go_simp; done) | (go_simp; rfl)); intro gb105 hg w7 hbox hb; have n0_ := Aside0.mk (below_step (by repeat (first | (with_reducible first | exact HB.out | apply below_alloc | apply pw_below_drewN | apply below_drew1) | exact HB.out)) hb); have n1_ := Aside0.mk (hbox); have n2_ := Aside0.mk ((by rw [hg]; exact (below_size (by repeat (first | (with_reducible first | exact HB.out | apply below_alloc | apply pw_below_drewN | apply below_drew1) | exact HB.out))) : w.heap.size ≤ gb105)); have n3_ := Aside0.mk ((by rw [hg]; exact (below_size (by repeat (first | (with_reducible first | exact HB.out | apply below_alloc | apply pw_below_drewN | apply below_drew1) | exact HB.out))) : w.heap.size ≤ gb105)); clear HB; have HB := n0_; have BK105 := n1_; have GW105 := n2_; have GE105 := n3_; clear n0_ n1_ n2_ n3_; clear hb hbox hg) | ((with_reducible refine gate_dst (N := 3) rfl ?_); refine box_event ?hg (N := 3) ?hd (cs := #[.string a1_0, .string a1_1, .string a1_2, .string a1_3, .bool a1_4]) (t := 59) ?hr ?_; (case hd => rfl); (case hg => rfl); (case hr => first | (go_simp; done) | (go_simp; rfl)); intro gb106 hg w8 hbox hb; have n0_ := Aside0.mk (blk_below (g := gb105) (o := .cells #[.string a0_0, .string a0_1, .string a0_2, .string a0_3, .bool a0_4] 59 (0, 0)) (by (with_reducible repeat (first | refine blk_drewN ?_ _ | refine blk_drew ?_ | refine blk_alloc ?_ _)); exact BK105.out) hb); have n1_ := Aside0.mk (below_step (by repeat (first | (with_reducible first | exact HB.out | apply below_alloc | apply pw_below_drewN | apply below_drew1 | refine below_set ?_ GE105.out) | exact HB.out)) hb); have n2_ := Aside0.mk (hbox); have n3_ := Aside0.mk ((by rw [hg]; exact (below_size (by repeat (first | (with_reducible first | exact HB.out | apply below_alloc | apply pw_below_drewN | apply below_drew1 | refine below_set ?_ GE105.out) | exact HB.out))) : w.heap.size ≤ gb106)); have n4_ := Aside0.mk ((by rw [hg]; exact (below_size (by repeat (first | (with_reducible first | exact HB.out | apply below_alloc | apply pw_below_drewN | apply below_drew1 | refine below_set ?_ GE105.out) | exact HB.out))) : w.heap.size ≤ gb106)); have n5_ := Aside0.mk ((by rw [hg]; exact Nat.ne_of_lt (blk_lt (g := gb105) (o := .cells #[.string a0_0, .string a0_1, .string a0_2, .string a0_3, .bool a0_4] 59 (0, 0)) (by (with_reducible repeat (first | refine blk_drewN ?_ _ | refine blk_drew ?_ | refine blk_alloc ?_ _)); exact BK105.out)) : gb105 ≠ gb106)); have n6_ := Aside0.mk ((by rw [hg]; exact Nat.ne_of_gt (blk_lt (g := gb105) (o := .cells #[.string a0_0, .string a0_1, .string a0_2, .string a0_3, .bool a0_4] 59 (0, 0)) (by (with_reducible repeat (first | refine blk_drewN ?_ _ | refine blk_drew ?_ | refine blk_alloc ?_ _)); exact BK105.out)) : gb106 ≠ gb105)); clear BK105; clear HB; have BK105 := n0_; have HB := n1_; have BK106 := n2_; have GW106 := n3_; have GE106 := n4_; have NB105_106 := n5_; have NB106_105 := n6_; clear n0_ n1_ n2_ n3_ n4_ n5_ n6_; clear hb hbox hg; have hnb9 := NB105_106.out; have hnc9 := NB106_105.out; have hcz10_0 : w8.cell? ⟨gb105, 0, none⟩ = some (.string a0_0) := (blk_cell BK105.out 0).trans rfl; have hcz10_1 : w8.cell? ⟨gb105, 1, none⟩ = some (.string a0_1) := (blk_cell BK105.out 1).trans rfl; have hcz10_2 : w8.cell? ⟨gb105, 2, none⟩ = some (.string a0_2) := (blk_cell BK105.out 2).trans rfl; have hcz10_3 : w8.cell? ⟨gb105, 3, none⟩ = some (.string a0_3) := (blk_cell BK105.out 3).trans rfl; have hcz10_4 : w8.cell? ⟨gb105, 4, none⟩ = some (.bool a0_4) := (blk_cell BK105.out 4).trans rfl; have hfz10_0 := blk_frozen BK105.out 0; have hfz10_1 := blk_frozen BK105.out 1; have hfz10_2 := blk_frozen BK105.out 2; have hfz10_3 := blk_frozen BK105.out 3; have hfz10_4 := blk_frozen BK105.out 4; have hcz11_0 : w8.cell? ⟨gb106, 0, none⟩ = some (.string a1_0) := (blk_cell BK106.out 0).trans rfl; have hcz11_1 : w8.cell? ⟨gb106, 1, none⟩ = some (.string a1_1) := (blk_cell BK106.out 1).trans rfl; have hcz11_2 : w8.cell? ⟨gb106, 2, none⟩ = some (.string a1_2) := (blk_cell BK106.out 2).trans rfl; have hcz11_3 : w8.cell? ⟨gb106, 3, none⟩ = some (.string a1_3) := (blk_cell BK106.out 3).trans rfl; have hcz11_4 : w8.cell? ⟨gb106, 4, none⟩ = some (.bool a1_4) := (blk_cell BK106.out 4).trans rfl; have hfz11_0 := blk_frozen BK106.out 0; have hfz11_1 := blk_frozen BK106.out 1; have hfz11_2 := blk_frozen BK106.out 2; have hfz11_3 := blk_frozen BK106.out 3; have hfz11_4 := blk_frozen BK106.out 4))
          go_ret
          exact ⟨by first | rfl | (simp [errW_none, errW_some] <;> rfl) | (simp [*, errW_none, errW_some] <;> rfl), by repeat (first | (with_reducible first | exact HB.out | apply below_alloc | apply pw_below_drewN | apply below_drew1 | refine below_set ?_ GE105.out | refine below_set ?_ GE106.out) | exact HB.out)⟩
        · rw [if_neg c6] at H
          have c6b0 : (a0_3.toList == a1_3.toList) = false := beq_eq_false_iff_ne.mpr c6
          have c6b1 : (a0_3.toList != a1_3.toList) = true := bne_iff_ne.mpr c6
          obtain rfl := Option.some.inj H
          go_enter Try.func40, Try.ntmps40
          go_wp2_with (first | ((with_reducible refine gate_dst (N := 2) rfl ?_); refine box_event ?hg (N := 2) ?hd (cs := #[.string a0_0, .string a0_1, .string a0_2, .string a0_3, .bool a0_4]) (t := 59) ?hr ?_; (case hd => rfl); (case hg => rfl); (case hr => first | (go_simp; done) | (go_simp; rfl)); intro gb105 hg w12 hbox hb; have n0_ := Aside0.mk (below_step (by repeat (first | (with_reducible first | exact HB.out | apply below_alloc | apply pw_below_drewN | apply below_drew1) | exact HB.out)) hb); have n1_ := Aside0.mk (hbox); have n2_ := Aside0.mk ((by rw [hg]; exact (below_size (by repeat (first | (with_reducible first | exact HB.out | apply below_alloc | apply pw_below_drewN | apply below_drew1) | exact HB.out))) : w.heap.size ≤ gb105)); have n3_ := Aside0.mk ((by rw [hg]; exact (below_size (by repeat (first | (with_reducible first | exact HB.out | apply below_alloc | apply pw_below_drewN | apply below_drew1) | exact HB.out))) : w.heap.size ≤ gb105)); clear HB; have HB := n0_; have BK105 := n1_; have GW105 := n2_; have GE105 := n3_; clear n0_ n1_ n2_ n3_; clear hb hbox hg) | ((with_reducible refine gate_dst (N := 3) rfl ?_); refine box_event ?hg (N := 3) ?hd (cs := #[.string a1_0, .string a1_1, .string a1_2, .string a1_3, .bool a1_4]) (t := 59) ?hr ?_; (case hd => rfl); (case hg => rfl); (case hr => first | (go_simp; done) | (go_simp; rfl)); intro gb106 hg w13 hbox hb; have n0_ := Aside0.mk (blk_below (g := gb105) (o := .cells #[.string a0_0, .string a0_1, .string a0_2, .string a0_3, .bool a0_4] 59 (0, 0)) (by (with_reducible repeat (first | refine blk_drewN ?_ _ | refine blk_drew ?_ | refine blk_alloc ?_ _)); exact BK105.out) hb); have n1_ := Aside0.mk (below_step (by repeat (first | (with_reducible first | exact HB.out | apply below_alloc | apply pw_below_drewN | apply below_drew1 | refine below_set ?_ GE105.out) | exact HB.out)) hb); have n2_ := Aside0.mk (hbox); have n3_ := Aside0.mk ((by rw [hg]; exact (below_size (by repeat (first | (with_reducible first | exact HB.out | apply below_alloc | apply pw_below_drewN | apply below_drew1 | refine below_set ?_ GE105.out) | exact HB.out))) : w.heap.size ≤ gb106)); have n4_ := Aside0.mk ((by rw [hg]; exact (below_size (by repeat (first | (with_reducible first | exact HB.out | apply below_alloc | apply pw_below_drewN | apply below_drew1 | refine below_set ?_ GE105.out) | exact HB.out))) : w.heap.size ≤ gb106)); have n5_ := Aside0.mk ((by rw [hg]; exact Nat.ne_of_lt (blk_lt (g := gb105) (o := .cells #[.string a0_0, .string a0_1, .string a0_2, .string a0_3, .bool a0_4] 59 (0, 0)) (by (with_reducible repeat (first | refine blk_drewN ?_ _ | refine blk_drew ?_ | refine blk_alloc ?_ _)); exact BK105.out)) : gb105 ≠ gb106)); have n6_ := Aside0.mk ((by rw [hg]; exact Nat.ne_of_gt (blk_lt (g := gb105) (o := .cells #[.string a0_0, .string a0_1, .string a0_2, .string a0_3, .bool a0_4] 59 (0, 0)) (by (with_reducible repeat (first | refine blk_drewN ?_ _ | refine blk_drew ?_ | refine blk_alloc ?_ _)); exact BK105.out)) : gb106 ≠ gb105)); clear BK105; clear HB; have BK105 := n0_; have HB := n1_; have BK106 := n2_; have GW106 := n3_; have GE106 := n4_; have NB105_106 := n5_; have NB106_105 := n6_; clear n0_ n1_ n2_ n3_ n4_ n5_ n6_; clear hb hbox hg; have hnb14 := NB105_106.out; have hnc14 := NB106_105.out; have hcz15_0 : w13.cell? ⟨gb105, 0, none⟩ = some (.string a0_0) := (blk_cell BK105.out 0).trans rfl; have hcz15_1 : w13.cell? ⟨gb105, 1, none⟩ = some (.string a0_1) := (blk_cell BK105.out 1).trans rfl; have hcz15_2 : w13.cell? ⟨gb105, 2, none⟩ = some (.string a0_2) := (blk_cell BK105.out 2).trans rfl; have hcz15_3 : w13.cell? ⟨gb105, 3, none⟩ = some (.string a0_3) := (blk_cell BK105.out 3).trans rfl; have hcz15_4 : w13.cell? ⟨gb105, 4, none⟩ = some (.bool a0_4) := (blk_cell BK105.out 4).trans rfl; have hfz15_0 := blk_frozen BK105.out 0; have hfz15_1 := blk_frozen BK105.out 1; have hfz15_2 := blk_frozen BK105.out 2; have hfz15_3 := blk_frozen BK105.out 3; have hfz15_4 := blk_frozen BK105.out 4; have hcz16_0 : w13.cell? ⟨gb106, 0, none⟩ = some (.string a1_0) := (blk_cell BK106.out 0).trans rfl; have hcz16_1 : w13.cell? ⟨gb106, 1, none⟩ = some (.string a1_1) := (blk_cell BK106.out 1).trans rfl; have hcz16_2 : w13.cell? ⟨gb106, 2, none⟩ = some (.string a1_2) := (blk_cell BK106.out 2).trans rfl; have hcz16_3 : w13.cell? ⟨gb106, 3, none⟩ = some (.string a1_3) := (blk_cell BK106.out 3).trans rfl; have hcz16_4 : w13.cell? ⟨gb106, 4, none⟩ = some (.bool a1_4) := (blk_cell BK106.out 4).trans rfl; have hfz16_0 := blk_frozen BK106.out 0; have hfz16_1 := blk_frozen BK106.out 1; have hfz16_2 := blk_frozen BK106.out 2; have hfz16_3 := blk_frozen BK106.out 3; have hfz16_4 := blk_frozen BK106.out 4))
          go_ret
          exact ⟨by first | rfl | (simp [errW_none, errW_some] <;> rfl) | (simp [*, errW_none, errW_some] <;> rfl), by repeat (first | (with_reducible first | exact HB.out | apply below_alloc | apply pw_below_drewN | apply below_drew1 | refine below_set ?_ GE105.out | refine below_set ?_ GE106.out) | exact HB.out)⟩
      · rw [if_neg c5] at H
        have c5b0 : (a0_2.toList == a1_2.toList) = false := beq_eq_false_iff_ne.mpr c5
        have c5b1 : (a0_2.toList != a1_2.toList) = true := bne_iff_ne.mpr c5
        obtain rfl := Option.some.inj H
        go_enter Try.func40, Try.ntmps40
        go_wp2_with (first | ((with_reducible refine gate_dst (N := 2) rfl ?_); refine box_event ?hg (N := 2) ?hd (cs := #[.string a0_0, .string a0_1, .string a0_2, .string a0_3, .bool a0_4]) (t := 59) ?hr ?_; (case hd => rfl); (case hg => rfl); (case hr => first | (go_simp; done) | (go_simp; rfl)); intro gb105 hg w17 hbox hb; have n0_ := Aside0.mk (below_step (by repeat (first | (with_reducible first | exact HB.out | apply below_alloc | apply pw_below_drewN | apply below_drew1) | exact HB.out)) hb); have n1_ := Aside0.mk (hbox); have n2_ := Aside0.mk ((by rw [hg]; exact (below_size (by repeat (first | (with_reducible first | exact HB.out | apply below_alloc | apply pw_below_drewN | apply below_drew1) | exact HB.out))) : w.heap.size ≤ gb105)); have n3_ := Aside0.mk ((by rw [hg]; exact (below_size (by repeat (first | (with_reducible first | exact HB.out | apply below_alloc | apply pw_below_drewN | apply below_drew1) | exact HB.out))) : w.heap.size ≤ gb105)); clear HB; have HB := n0_; have BK105 := n1_; have GW105 := n2_; have GE105 := n3_; clear n0_ n1_ n2_ n3_; clear hb hbox hg) | ((with_reducible refine gate_dst (N := 3) rfl ?_); refine box_event ?hg (N := 3) ?hd (cs := #[.string a1_0, .string a1_1, .string a1_2, .string a1_3, .bool a1_4]) (t := 59) ?hr ?_; (case hd => rfl); (case hg => rfl); (case hr => first | (go_simp; done) | (go_simp; rfl)); intro gb106 hg w18 hbox hb; have n0_ := Aside0.mk (blk_below (g := gb105) (o := .cells #[.string a0_0, .string a0_1, .string a0_2, .string a0_3, .bool a0_4] 59 (0, 0)) (by (with_reducible repeat (first | refine blk_drewN ?_ _ | refine blk_drew ?_ | refine blk_alloc ?_ _)); exact BK105.out) hb); have n1_ := Aside0.mk (below_step (by repeat (first | (with_reducible first | exact HB.out | apply below_alloc | apply pw_below_drewN | apply below_drew1 | refine below_set ?_ GE105.out) | exact HB.out)) hb); have n2_ := Aside0.mk (hbox); have n3_ := Aside0.mk ((by rw [hg]; exact (below_size (by repeat (first | (with_reducible first | exact HB.out | apply below_alloc | apply pw_below_drewN | apply below_drew1 | refine below_set ?_ GE105.out) | exact HB.out))) : w.heap.size ≤ gb106)); have n4_ := Aside0.mk ((by rw [hg]; exact (below_size (by repeat (first | (with_reducible first | exact HB.out | apply below_alloc | apply pw_below_drewN | apply below_drew1 | refine below_set ?_ GE105.out) | exact HB.out))) : w.heap.size ≤ gb106)); have n5_ := Aside0.mk ((by rw [hg]; exact Nat.ne_of_lt (blk_lt (g := gb105) (o := .cells #[.string a0_0, .string a0_1, .string a0_2, .string a0_3, .bool a0_4] 59 (0, 0)) (by (with_reducible repeat (first | refine blk_drewN ?_ _ | refine blk_drew ?_ | refine blk_alloc ?_ _)); exact BK105.out)) : gb105 ≠ gb106)); have n6_ := Aside0.mk ((by rw [hg]; exact Nat.ne_of_gt (blk_lt (g := gb105) (o := .cells #[.string a0_0, .string a0_1, .string a0_2, .string a0_3, .bool a0_4] 59 (0, 0)) (by (with_reducible repeat (first | refine blk_drewN ?_ _ | refine blk_drew ?_ | refine blk_alloc ?_ _)); exact BK105.out)) : gb106 ≠ gb105)); clear BK105; clear HB; have BK105 := n0_; have HB := n1_; have BK106 := n2_; have GW106 := n3_; have GE106 := n4_; have NB105_106 := n5_; have NB106_105 := n6_; clear n0_ n1_ n2_ n3_ n4_ n5_ n6_; clear hb hbox hg; have hnb19 := NB105_106.out; have hnc19 := NB106_105.out; have hcz20_0 : w18.cell? ⟨gb105, 0, none⟩ = some (.string a0_0) := (blk_cell BK105.out 0).trans rfl; have hcz20_1 : w18.cell? ⟨gb105, 1, none⟩ = some (.string a0_1) := (blk_cell BK105.out 1).trans rfl; have hcz20_2 : w18.cell? ⟨gb105, 2, none⟩ = some (.string a0_2) := (blk_cell BK105.out 2).trans rfl; have hcz20_3 : w18.cell? ⟨gb105, 3, none⟩ = some (.string a0_3) := (blk_cell BK105.out 3).trans rfl; have hcz20_4 : w18.cell? ⟨gb105, 4, none⟩ = some (.bool a0_4) := (blk_cell BK105.out 4).trans rfl; have hfz20_0 := blk_frozen BK105.out 0; have hfz20_1 := blk_frozen BK105.out 1; have hfz20_2 := blk_frozen BK105.out 2; have hfz20_3 := blk_frozen BK105.out 3; have hfz20_4 := blk_frozen BK105.out 4; have hcz21_0 : w18.cell? ⟨gb106, 0, none⟩ = some (.string a1_0) := (blk_cell BK106.out 0).trans rfl; have hcz21_1 : w18.cell? ⟨gb106, 1, none⟩ = some (.string a1_1) := (blk_cell BK106.out 1).trans rfl; have hcz21_2 : w18.cell? ⟨gb106, 2, none⟩ = some (.string a1_2) := (blk_cell BK106.out 2).trans rfl; have hcz21_3 : w18.cell? ⟨gb106, 3, none⟩ = some (.string a1_3) := (blk_cell BK106.out 3).trans rfl; have hcz21_4 : w18.cell? ⟨gb106, 4, none⟩ = some (.bool a1_4) := (blk_cell BK106.out 4).trans rfl; have hfz21_0 := blk_frozen BK106.out 0; have hfz21_1 := blk_frozen BK106.out 1; have hfz21_2 := blk_frozen BK106.out 2; have hfz21_3 := blk_frozen BK106.out 3; have hfz21_4 := blk_frozen BK106.out 4))
        go_ret
        exact ⟨by first | rfl | (simp [errW_none, errW_some] <;> rfl) | (simp [*, errW_none, errW_some] <;> rfl), by repeat (first | (with_reducible first | exact HB.out | apply below_alloc | apply pw_below_drewN | apply below_drew1 | refine below_set ?_ GE105.out | refine below_set ?_ GE106.out) | exact HB.out)⟩
    · rw [if_neg c4] at H
      have c4b0 : (a0_1.toList == a1_1.toList) = false := beq_eq_false_iff_ne.mpr c4
      have c4b1 : (a0_1.toList != a1_1.toList) = true := bne_iff_ne.mpr c4
      obtain rfl := Option.some.inj H
      go_enter Try.func40, Try.ntmps40
      go_wp2_with (first | ((with_reducible refine gate_dst (N := 2) rfl ?_); refine box_event ?hg (N := 2) ?hd (cs := #[.string a0_0, .string a0_1, .string a0_2, .string a0_3, .bool a0_4]) (t := 59) ?hr ?_; (case hd => rfl); (case hg => rfl); (case hr => first | (go_simp; done) | (go_simp; rfl)); intro gb105 hg w22 hbox hb; have n0_ := Aside0.mk (below_step (by repeat (first | (with_reducible first | exact HB.out | apply below_alloc | apply pw_below_drewN | apply below_drew1) | exact HB.out)) hb); have n1_ := Aside0.mk (hbox); have n2_ := Aside0.mk ((by rw [hg]; exact (below_size (by repeat (first | (with_reducible first | exact HB.out | apply below_alloc | apply pw_below_drewN | apply below_drew1) | exact HB.out))) : w.heap.size ≤ gb105)); have n3_ := Aside0.mk ((by rw [hg]; exact (below_size (by repeat (first | (with_reducible first | exact HB.out | apply below_alloc | apply pw_below_drewN | apply below_drew1) | exact HB.out))) : w.heap.size ≤ gb105)); clear HB; have HB := n0_; have BK105 := n1_; have GW105 := n2_; have GE105 := n3_; clear n0_ n1_ n2_ n3_; clear hb hbox hg) | ((with_reducible refine gate_dst (N := 3) rfl ?_); refine box_event ?hg (N := 3) ?hd (cs := #[.string a1_0, .string a1_1, .string a1_2, .string a1_3, .bool a1_4]) (t := 59) ?hr ?_; (case hd => rfl); (case hg => rfl); (case hr => first | (go_simp; done) | (go_simp; rfl)); intro gb106 hg w23 hbox hb; have n0_ := Aside0.mk (blk_below (g := gb105) (o := .cells #[.string a0_0, .string a0_1, .string a0_2, .string a0_3, .bool a0_4] 59 (0, 0)) (by (with_reducible repeat (first | refine blk_drewN ?_ _ | refine blk_drew ?_ | refine blk_alloc ?_ _)); exact BK105.out) hb); have n1_ := Aside0.mk (below_step (by repeat (first | (with_reducible first | exact HB.out | apply below_alloc | apply pw_below_drewN | apply below_drew1 | refine below_set ?_ GE105.out) | exact HB.out)) hb); have n2_ := Aside0.mk (hbox); have n3_ := Aside0.mk ((by rw [hg]; exact (below_size (by repeat (first | (with_reducible first | exact HB.out | apply below_alloc | apply pw_below_drewN | apply below_drew1 | refine below_set ?_ GE105.out) | exact HB.out))) : w.heap.size ≤ gb106)); have n4_ := Aside0.mk ((by rw [hg]; exact (below_size (by repeat (first | (with_reducible first | exact HB.out | apply below_alloc | apply pw_below_drewN | apply below_drew1 | refine below_set ?_ GE105.out) | exact HB.out))) : w.heap.size ≤ gb106)); have n5_ := Aside0.mk ((by rw [hg]; exact Nat.ne_of_lt (blk_lt (g := gb105) (o := .cells #[.string a0_0, .string a0_1, .string a0_2, .string a0_3, .bool a0_4] 59 (0, 0)) (by (with_reducible repeat (first | refine blk_drewN ?_ _ | refine blk_drew ?_ | refine blk_alloc ?_ _)); exact BK105.out)) : gb105 ≠ gb106)); have n6_ := Aside0.mk ((by rw [hg]; exact Nat.ne_of_gt (blk_lt (g := gb105) (o := .cells #[.string a0_0, .string a0_1, .string a0_2, .string a0_3, .bool a0_4] 59 (0, 0)) (by (with_reducible repeat (first | refine blk_drewN ?_ _ | refine blk_drew ?_ | refine blk_alloc ?_ _)); exact BK105.out)) : gb106 ≠ gb105)); clear BK105; clear HB; have BK105 := n0_; have HB := n1_; have BK106 := n2_; have GW106 := n3_; have GE106 := n4_; have NB105_106 := n5_; have NB106_105 := n6_; clear n0_ n1_ n2_ n3_ n4_ n5_ n6_; clear hb hbox hg; have hnb24 := NB105_106.out; have hnc24 := NB106_105.out; have hcz25_0 : w23.cell? ⟨gb105, 0, none⟩ = some (.string a0_0) := (blk_cell BK105.out 0).trans rfl; have hcz25_1 : w23.cell? ⟨gb105, 1, none⟩ = some (.string a0_1) := (blk_cell BK105.out 1).trans rfl; have hcz25_2 : w23.cell? ⟨gb105, 2, none⟩ = some (.string a0_2) := (blk_cell BK105.out 2).trans rfl; have hcz25_3 : w23.cell? ⟨gb105, 3, none⟩ = some (.string a0_3) := (blk_cell BK105.out 3).trans rfl; have hcz25_4 : w23.cell? ⟨gb105, 4, none⟩ = some (.bool a0_4) := (blk_cell BK105.out 4).trans rfl; have hfz25_0 := blk_frozen BK105.out 0; have hfz25_1 := blk_frozen BK105.out 1; have hfz25_2 := blk_frozen BK105.out 2; have hfz25_3 := blk_frozen BK105.out 3; have hfz25_4 := blk_frozen BK105.out 4; have hcz26_0 : w23.cell? ⟨gb106, 0, none⟩ = some (.string a1_0) := (blk_cell BK106.out 0).trans rfl; have hcz26_1 : w23.cell? ⟨gb106, 1, none⟩ = some (.string a1_1) := (blk_cell BK106.out 1).trans rfl; have hcz26_2 : w23.cell? ⟨gb106, 2, none⟩ = some (.string a1_2) := (blk_cell BK106.out 2).trans rfl; have hcz26_3 : w23.cell? ⟨gb106, 3, none⟩ = some (.string a1_3) := (blk_cell BK106.out 3).trans rfl; have hcz26_4 : w23.cell? ⟨gb106, 4, none⟩ = some (.bool a1_4) := (blk_cell BK106.out 4).trans rfl; have hfz26_0 := blk_frozen BK106.out 0; have hfz26_1 := blk_frozen BK106.out 1; have hfz26_2 := blk_frozen BK106.out 2; have hfz26_3 := blk_frozen BK106.out 3; have hfz26_4 := blk_frozen BK106.out 4))
      go_ret
      exact ⟨by first | rfl | (simp [errW_none, errW_some] <;> rfl) | (simp [*, errW_none, errW_some] <;> rfl), by repeat (first | (with_reducible first | exact HB.out | apply below_alloc | apply pw_below_drewN | apply below_drew1 | refine below_set ?_ GE105.out | refine below_set ?_ GE106.out) | exact HB.out)⟩
  · rw [if_neg c3] at H
    have c3b0 : (a0_0.toList == a1_0.toList) = false := beq_eq_false_iff_ne.mpr c3
    have c3b1 : (a0_0.toList != a1_0.toList) = true := bne_iff_ne.mpr c3
    obtain rfl := Option.some.inj H
    go_enter Try.func40, Try.ntmps40
    go_wp2_with (first | ((with_reducible refine gate_dst (N := 2) rfl ?_); refine box_event ?hg (N := 2) ?hd (cs := #[.string a0_0, .string a0_1, .string a0_2, .string a0_3, .bool a0_4]) (t := 59) ?hr ?_; (case hd => rfl); (case hg => rfl); (case hr => first | (go_simp; done) | (go_simp; rfl)); intro gb105 hg w27 hbox hb; have n0_ := Aside0.mk (below_step (by repeat (first | (with_reducible first | exact HB.out | apply below_alloc | apply pw_below_drewN | apply below_drew1) | exact HB.out)) hb); have n1_ := Aside0.mk (hbox); have n2_ := Aside0.mk ((by rw [hg]; exact (below_size (by repeat (first | (with_reducible first | exact HB.out | apply below_alloc | apply pw_below_drewN | apply below_drew1) | exact HB.out))) : w.heap.size ≤ gb105)); have n3_ := Aside0.mk ((by rw [hg]; exact (below_size (by repeat (first | (with_reducible first | exact HB.out | apply below_alloc | apply pw_below_drewN | apply below_drew1) | exact HB.out))) : w.heap.size ≤ gb105)); clear HB; have HB := n0_; have BK105 := n1_; have GW105 := n2_; have GE105 := n3_; clear n0_ n1_ n2_ n3_; clear hb hbox hg) | ((with_reducible refine gate_dst (N := 3) rfl ?_); refine box_event ?hg (N := 3) ?hd (cs := #[.string a1_0, .string a1_1, .string a1_2, .string a1_3, .bool a1_4]) (t := 59) ?hr ?_; (case hd => rfl); (case hg => rfl); (case hr => first | (go_simp; done) | (go_simp; rfl)); intro gb106 hg w28 hbox hb; have n0_ := Aside0.mk (blk_below (g := gb105) (o := .cells #[.string a0_0, .string a0_1, .string a0_2, .string a0_3, .bool a0_4] 59 (0, 0)) (by (with_reducible repeat (first | refine blk_drewN ?_ _ | refine blk_drew ?_ | refine blk_alloc ?_ _)); exact BK105.out) hb); have n1_ := Aside0.mk (below_step (by repeat (first | (with_reducible first | exact HB.out | apply below_alloc | apply pw_below_drewN | apply below_drew1 | refine below_set ?_ GE105.out) | exact HB.out)) hb); have n2_ := Aside0.mk (hbox); have n3_ := Aside0.mk ((by rw [hg]; exact (below_size (by repeat (first | (with_reducible first | exact HB.out | apply below_alloc | apply pw_below_drewN | apply below_drew1 | refine below_set ?_ GE105.out) | exact HB.out))) : w.heap.size ≤ gb106)); have n4_ := Aside0.mk ((by rw [hg]; exact (below_size (by repeat (first | (with_reducible first | exact HB.out | apply below_alloc | apply pw_below_drewN | apply below_drew1 | refine below_set ?_ GE105.out) | exact HB.out))) : w.heap.size ≤ gb106)); have n5_ := Aside0.mk ((by rw [hg]; exact Nat.ne_of_lt (blk_lt (g := gb105) (o := .cells #[.string a0_0, .string a0_1, .string a0_2, .string a0_3, .bool a0_4] 59 (0, 0)) (by (with_reducible repeat (first | refine blk_drewN ?_ _ | refine blk_drew ?_ | refine blk_alloc ?_ _)); exact BK105.out)) : gb105 ≠ gb106)); have n6_ := Aside0.mk ((by rw [hg]; exact Nat.ne_of_gt (blk_lt (g := gb105) (o := .cells #[.string a0_0, .string a0_1, .string a0_2, .string a0_3, .bool a0_4] 59 (0, 0)) (by (with_reducible repeat (first | refine blk_drewN ?_ _ | refine blk_drew ?_ | refine blk_alloc ?_ _)); exact BK105.out)) : gb106 ≠ gb105)); clear BK105; clear HB; have BK105 := n0_; have HB := n1_; have BK106 := n2_; have GW106 := n3_; have GE106 := n4_; have NB105_106 := n5_; have NB106_105 := n6_; clear n0_ n1_ n2_ n3_ n4_ n5_ n6_; clear hb hbox hg; have hnb29 := NB105_106.out; have hnc29 := NB106_105.out; have hcz30_0 : w28.cell? ⟨gb105, 0, none⟩ = some (.string a0_0) := (blk_cell BK105.out 0).trans rfl; have hcz30_1 : w28.cell? ⟨gb105, 1, none⟩ = some (.string a0_1) := (blk_cell BK105.out 1).trans rfl; have hcz30_2 : w28.cell? ⟨gb105, 2, none⟩ = some (.string a0_2) := (blk_cell BK105.out 2).trans rfl; have hcz30_3 : w28.cell? ⟨gb105, 3, none⟩ = some (.string a0_3) := (blk_cell BK105.out 3).trans rfl; have hcz30_4 : w28.cell? ⟨gb105, 4, none⟩ = some (.bool a0_4) := (blk_cell BK105.out 4).trans rfl; have hfz30_0 := blk_frozen BK105.out 0; have hfz30_1 := blk_frozen BK105.out 1; have hfz30_2 := blk_frozen BK105.out 2; have hfz30_3 := blk_frozen BK105.out 3; have hfz30_4 := blk_frozen BK105.out 4; have hcz31_0 : w28.cell? ⟨gb106, 0, none⟩ = some (.string a1_0) := (blk_cell BK106.out 0).trans rfl; have hcz31_1 : w28.cell? ⟨gb106, 1, none⟩ = some (.string a1_1) := (blk_cell BK106.out 1).trans rfl; have hcz31_2 : w28.cell? ⟨gb106, 2, none⟩ = some (.string a1_2) := (blk_cell BK106.out 2).trans rfl; have hcz31_3 : w28.cell? ⟨gb106, 3, none⟩ = some (.string a1_3) := (blk_cell BK106.out 3).trans rfl; have hcz31_4 : w28.cell? ⟨gb106, 4, none⟩ = some (.bool a1_4) := (blk_cell BK106.out 4).trans rfl; have hfz31_0 := blk_frozen BK106.out 0; have hfz31_1 := blk_frozen BK106.out 1; have hfz31_2 := blk_frozen BK106.out 2; have hfz31_3 := blk_frozen BK106.out 3; have hfz31_4 := blk_frozen BK106.out 4))
    go_ret
    exact ⟨by first | rfl | (simp [errW_none, errW_some] <;> rfl) | (simp [*, errW_none, errW_some] <;> rfl), by repeat (first | (with_reducible first | exact HB.out | apply below_alloc | apply pw_below_drewN | apply below_drew1 | refine below_set ?_ GE105.out | refine below_set ?_ GE106.out) | exact HB.out)⟩

/-! ### impl_TwPaddings: function 18 -/
def impl_TwPaddings.f (a0_0 : ByteArray) (a0_1 : ByteArray) (a0_2 : ByteArray) (a0_3 : ByteArray) (a0_4 : Bool) (a1_0 : ByteArray) (a1_1 : ByteArray) (a1_2 : ByteArray) (a1_3 : ByteArray) (a1_4 : Bool) : Option (Bool × Bool × Bool) := (tw_Padding_Empty.f a0_0 a0_1 a0_2 a0_3 a0_4).bind fun t112 => ((tw_Padding_Paddable.f a0_0 a0_1 a0_2 a0_3 a0_4).bind fun t113 => ((tw_Padding_Equals.f a0_0 a0_1 a0_2 a0_3 a0_4 a1_0 a1_1 a1_2 a1_3 a1_4).bind fun t114 => (some (t112, t113, t114))))
def impl_TwPaddings.T2 : Bool × List (List Nat × List Nat) := (true, [([], []), ([0], [0]), ([], []), ([2, 1], [2]), ([], []), ([], []), ([4, 5, 3], [4, 5]), ([1, 3, 6], [1, 3, 6]), ([7, 6, 0, 1, 2, 3, 4, 5, 6, 7], [7])])
def impl_TwPaddings.B2 : List Nat := [0, 1, 0, 7, 0, 0, 63, 127, 255]
theorem impl_TwPaddings.tab2 : rtab .any (opsOf Try.f18 2) = impl_TwPaddings.T2 := by kernel_rfl
theorem impl_TwPaddings.bits2 : waitsOk impl_TwPaddings.T2.2 impl_TwPaddings.B2 = true := by kernel_rfl
set_option maxHeartbeats 8000000 in
set_option maxRecDepth 100000 in
theorem impl_TwPaddings.calls (a0_0 : ByteArray) (a0_1 : ByteArray) (a0_2 : ByteArray) (a0_3 : ByteArray) (a0_4 : Bool) (a1_0 : ByteArray) (a1_1 : ByteArray) (a1_2 : ByteArray) (a1_3 : ByteArray) (a1_4 : Bool) (r1 : Bool) (r2 : Bool) (r3 : Bool) (w : World) (h : impl_TwPaddings.f a0_0 a0_1 a0_2 a0_3 a0_4 a1_0 a1_1 a1_2 a1_3 a1_4 = some (r1, r2, r3)) :
    Calls Try.prog 18 #[.agg #[.string a0_0, .string a0_1, .string a0_2, .string a0_3, .bool a0_4], .agg #[.string a1_0, .string a1_1, .string a1_2, .string a1_3, .bool a1_4]] w fun e w' => e = .returned (.agg #[.bool r1, .bool r2, .bool r3]) ∧ Below w.heap.size w w' := by
  have hu28 := Try.underlying28
  have hu31 := Try.underlying31
  have hu59 := Try.underlying59
  have HB := Aside0.mk (Below.refl w.heap.size w)
  have H : ((tw_Padding_Empty.f a0_0 a0_1 a0_2 a0_3 a0_4).bind fun t112 => ((tw_Padding_Paddable.f a0_0 a0_1 a0_2 a0_3 a0_4).bind fun t113 => ((tw_Padding_Equals.f a0_0 a0_1 a0_2 a0_3 a0_4 a1_0 a1_1 a1_2 a1_3 a1_4).bind fun t114 => (some (t112, t113, t114))))) = some (r1, r2, r3) := h
  clear h
  replace H := Option.bind_eq_some_iff.mp H
  obtain ⟨t112, A30, H⟩ := H
  replace H : ((tw_Padding_Paddable.f a0_0 a0_1 a0_2 a0_3 a0_4).bind fun t113 => ((tw_Padding_Equals.f a0_0 a0_1 a0_2 a0_3 a0_4 a1_0 a1_1 a1_2 a1_3 a1_4).bind fun t114 => (some (t112, t113, t114)))) = some (r1, r2, r3) := H
  have A3 := Aside0.mk A30
  clear A30
  replace H := Option.bind_eq_some_iff.mp H
  obtain ⟨t113, A40, H⟩ := H
  replace H : ((tw_Padding_Equals.f a0_0 a0_1 a0_2 a0_3 a0_4 a1_0 a1_1 a1_2 a1_3 a1_4).bind fun t114 => (some (t112, t113, t114))) = some (r1, r2, r3) := H
  have A4 := Aside0.mk A40
  clear A40
  replace H := Option.bind_eq_some_iff.mp H
  obtain ⟨t114, A50, H⟩ := H
  replace H : (some (t112, t113, t114)) = some (r1, r2, r3) := H
  have A5 := Aside0.mk A50
  clear A50
  simp only [Option.some.injEq, Prod.mk.injEq] at H
  obtain ⟨rfl, rfl, rfl⟩ := H
  go_enter Try.func18, Try.ntmps18
  try go_wp2_with (first | ((with_reducible refine gate_dst (N := 2) rfl ?_); refine box_event ?hg (N := 2) ?hd (cs := #[.string a0_0, .string a0_1, .string a0_2, .string a0_3, .bool a0_4]) (t := 28) ?hr ?_; (case hd => rfl); (case hg => rfl); (case hr => first | (go_simp; done) | (go_simp; rfl)); intro gb107 hg w6 hbox hb; have n0_ := Aside0.mk (below_step (by repeat (first | (with_reducible first | exact HB.out | apply below_alloc | apply pw_below_drewN | apply below_drew1) | exact HB.out)) hb); have n1_ := Aside0.mk (hbox); have n2_ := Aside0.mk ((by rw [hg]; exact (below_size (by repeat (first | (with_reducible first | exact HB.out | apply below_alloc | apply pw_below_drewN | apply below_drew1) | exact HB.out))) : w.heap.size ≤ gb107)); have n3_ := Aside0.mk ((by rw [hg]; exact (below_size (by repeat (first | (with_reducible first | exact HB.out | apply below_alloc | apply pw_below_drewN | apply below_drew1) | exact HB.out))) : w.heap.size ≤ gb107)); clear HB; have HB := n0_; have BK107 := n1_; have GW107 := n2_; have GE107 := n3_; clear n0_ n1_ n2_ n3_; clear hb hbox hg) | ((with_reducible refine gate_dst (N := 3) rfl ?_); refine box_event ?hg (N := 3) ?hd (cs := #[.string a1_0, .string a1_1, .string a1_2, .string a1_3, .bool a1_4]) (t := 28) ?hr ?_; (case hd => rfl); (case hg => rfl); (case hr => first | (go_simp; done) | (go_simp; rfl)); intro gb108 hg w7 hbox hb; have n0_ := Aside0.mk (blk_below (g := gb107) (o := .cells #[.string a0_0, .string a0_1, .string a0_2, .string a0_3, .bool a0_4] 28 (0, 0)) (by (with_reducible repeat (first | refine blk_drewN ?_ _ | refine blk_drew ?_ | refine blk_alloc ?_ _)); exact BK107.out) hb); have n1_ := Aside0.mk (below_step (by repeat (first | (with_reducible first | exact HB.out | apply below_alloc | apply pw_below_drewN | apply below_drew1 | refine below_set ?_ GE107.out) | exact HB.out)) hb); have n2_ := Aside0.mk (hbox); have n3_ := Aside0.mk ((by rw [hg]; exact (below_size (by repeat (first | (with_reducible first | exact HB.out | apply below_alloc | apply pw_below_drewN | apply below_drew1 | refine below_set ?_ GE107.out) | exact HB.out))) : w.heap.size ≤ gb108)); have n4_ := Aside0.mk ((by rw [hg]; exact (below_size (by repeat (first | (with_reducible first | exact HB.out | apply below_alloc | apply pw_below_drewN | apply below_drew1 | refine below_set ?_ GE107.out) | exact HB.out))) : w.heap.size ≤ gb108)); have n5_ := Aside0.mk ((by rw [hg]; exact Nat.ne_of_lt (blk_lt (g := gb107) (o := .cells #[.string a0_0, .string a0_1, .string a0_2, .string a0_3, .bool a0_4] 28 (0, 0)) (by (with_reducible repeat (first | refine blk_drewN ?_ _ | refine blk_drew ?_ | refine blk_alloc ?_ _)); exact BK107.out)) : gb107 ≠ gb108)); have n6_ := Aside0.mk ((by rw [hg]; exact Nat.ne_of_gt (blk_lt (g := gb107) (o := .cells #[.string a0_0, .string a0_1, .string a0_2, .string a0_3, .bool a0_4] 28 (0, 0)) (by (with_reducible repeat (first | refine blk_drewN ?_ _ | refine blk_drew ?_ | refine blk_alloc ?_ _)); exact BK107.out)) : gb108 ≠ gb107)); clear BK107; clear HB; have BK107 := n0_; have HB := n1_; have BK108 := n2_; have GW108 := n3_; have GE108 := n4_; have NB107_108 := n5_; have NB108_107 := n6_; clear n0_ n1_ n2_ n3_ n4_ n5_ n6_; clear hb hbox hg) | ((with_reducible refine gate_dst (N := 4) rfl ?_); refine box_event ?hg (N := 4) ?hd (cs := #[.bool false, .bool false, .bool false]) (t := 31) ?hr ?_; (case hd => rfl); (case hg => rfl); (case hr => first | (go_simp; done) | (go_simp; rfl)); intro gb109 hg w8 hbox hb; have n0_ := Aside0.mk (blk_below (g := gb107) (o := .cells #[.string a0_0, .string a0_1, .string a0_2, .string a0_3, .bool a0_4] 28 (0, 0)) (by (with_reducible repeat (first | refine blk_drewN ?_ _ | refine blk_drew ?_ | refine blk_alloc ?_ _)); exact BK107.out) hb); have n1_ := Aside0.mk (blk_below (g := gb108) (o := .cells #[.string a1_0, .string a1_1, .string a1_2, .string a1_3, .bool a1_4] 28 (0, 0)) (by (with_reducible repeat (first | refine blk_drewN ?_ _ | refine blk_drew ?_ | refine blk_alloc ?_ _)); exact BK108.out) hb); have n2_ := Aside0.mk (below_step (by repeat (first | (with_reducible first | exact HB.out | apply below_alloc | apply pw_below_drewN | apply below_drew1 | refine below_set ?_ GE107.out | refine below_set ?_ GE108.out) | exact HB.out)) hb); have n3_ := Aside0.mk (hbox); have n4_ := Aside0.mk ((by rw [hg]; exact (below_size (by repeat (first | (with_reducible first | exact HB.out | apply below_alloc | apply pw_below_drewN | apply below_drew1 | refine below_set ?_ GE107.out | refine below_set ?_ GE108.out) | exact HB.out))) : w.heap.size ≤ gb109)); have n5_ := Aside0.mk ((by rw [hg]; exact (below_size (by repeat (first | (with_reducible first | exact HB.out | apply below_alloc | apply pw_below_drewN | apply below_drew1 | refine below_set ?_ GE107.out | refine below_set ?_ GE108.out) | exact HB.out))) : w.heap.size ≤ gb109)); have n6_ := Aside0.mk ((by rw [hg]; exact Nat.ne_of_lt (blk_lt (g := gb107) (o := .cells #[.string a0_0, .string a0_1, .string a0_2, .string a0_3, .bool a0_4] 28 (0, 0)) (by (with_reducible repeat (first | refine blk_drewN ?_ _ | refine blk_drew ?_ | refine blk_alloc ?_ _)); exact BK107.out)) : gb107 ≠ gb109)); have n7_ := Aside0.mk ((by rw [hg]; exact Nat.ne_of_gt (blk_lt (g := gb107) (o := .cells #[.string a0_0, .string a0_1, .string a0_2, .string a0_3, .bool a0_4] 28 (0, 0)) (by (with_reducible repeat (first | refine blk_drewN ?_ _ | refine blk_drew ?_ | refine blk_alloc ?_ _)); exact BK107.out)) : gb109 ≠ gb107)); have n8_ := Aside0.mk ((by rw [hg]; exact Nat.ne_of_lt (blk_lt (g := gb108) (o := .cells #[.string a1_0, .string a1_1, .string a1_2, .string a1_3, .bool a1_4] 28 (0, 0)) (by (with_reducible repeat (first | refine blk_drewN ?_ _ | refine blk_drew ?_ | refine blk_alloc ?_ _)); exact BK108.out)) : gb108 ≠ gb109)); have n9_ := Aside0.mk ((by rw [hg]; exact Nat.ne_of_gt (blk_lt (g := gb108) (o := .cells #[.string a1_0, .string a1_1, .string a1_2, .string a1_3, .bool a1_4] 28 (0, 0)) (by (with_reducible repeat (first | refine blk_drewN ?_ _ | refine blk_drew ?_ | refine blk_alloc ?_ _)); exact BK108.out)) : gb109 ≠ gb108)); clear BK107; clear BK108; clear HB; have BK107 := n0_; have BK108 := n1_; have HB := n2_; have BK109 := n3_; have GW109 := n4_; have GE109 := n5_; have NB107_109 := n6_; have NB109_107 := n7_; have NB108_109 := n8_; have NB109_108 := n9_; clear n0_ n1_ n2_ n3_ n4_ n5_ n6_ n7_ n8_ n9_; clear hb hbox hg))
  have n0_ := Aside0.mk (blk_drew BK107.out)
  have n1_ := Aside0.mk (blk_drew BK108.out)
  have n2_ := Aside0.mk (blk_drew BK109.out)
  have n3_ := Aside0.mk (below_drew1 HB.out)
  clear BK107
  clear BK108
  clear BK109
  clear HB
  have BK107 := n0_
  have BK108 := n1_
  have BK109 := n2_
  have HB := n3_
  clear n0_ n1_ n2_ n3_
  refine start_ (n := 6) (S := fun w' => w'.cell? ⟨gb107, 0, none⟩ = some (.string a0_0) ∧ w'.cell? ⟨gb107, 1, none⟩ = some (.string a0_1) ∧ w'.cell? ⟨gb107, 2, none⟩ = some (.string a0_2) ∧ w'.cell? ⟨gb107, 3, none⟩ = some (.string a0_3) ∧ w'.cell? ⟨gb107, 4, none⟩ = some (.bool a0_4) ∧ w'.cell? ⟨gb108, 0, none⟩ = some (.string a1_0) ∧ w'.cell? ⟨gb108, 1, none⟩ = some (.string a1_1) ∧ w'.cell? ⟨gb108, 2, none⟩ = some (.string a1_2) ∧ w'.cell? ⟨gb108, 3, none⟩ = some (.string a1_3) ∧ w'.cell? ⟨gb108, 4, none⟩ = some (.bool a1_4)) (ds := []) #[false, false, false, false, false, false] (by kernel_rfl) rfl rfl ⟨(blk_cell BK107.out 0).trans rfl, (blk_cell BK107.out 1).trans rfl, (blk_cell BK107.out 2).trans rfl, (blk_cell BK107.out 3).trans rfl, (blk_cell BK107.out 4).trans rfl, (blk_cell BK108.out 0).trans rfl, (blk_cell BK108.out 1).trans rfl, (blk_cell BK108.out 2).trans rfl, (blk_cell BK108.out 3).trans rfl, (blk_cell BK108.out 4).trans rfl⟩ (fun hHeld => ?_)
  generalize w8.drew = w9 at BK107 BK108 BK109 HB hHeld ⊢
  refine take_ (i := 0) (N := some 7) (v := ?_) (a' := ?_) #[true, false, false, false, false, false] rfl rfl (by kernel_rfl) (fun _ _ _ h => h) (Or.inl ⟨by rfl, ?_⟩) hHeld ?_ ?_
  rotate_left
  · rintro w' ⟨s0, s1, s2, s3, s4, s5, s6, s7, s8, s9⟩
    go_simp
    with_reducible rfl
  rotate_left
  · simp only [Act.put, List.setIfInBounds_toArray, List.set_cons_zero, List.set_cons_succ, i64_w, i32_w]
    rfl
  refine take_ (i := 1) (N := some 8) (v := ?_) (a' := ?_) #[true, true, false, false, false, false] rfl rfl (by kernel_rfl) (fun _ _ _ h => h) (Or.inl ⟨by rfl, ?_⟩) hHeld ?_ ?_
  rotate_left
  · rintro w' ⟨s0, s1, s2, s3, s4, s5, s6, s7, s8, s9⟩
    go_simp
    with_reducible rfl
  rotate_left
  · simp only [Act.put, List.setIfInBounds_toArray, List.set_cons_zero, List.set_cons_succ, i64_w, i32_w]
    rfl
  refine join_ (σ := Nat × Nat) 2 #[true, true, true, true, false, false] (fun s_ => [(5, .pointer (some ⟨s_.1, 0, none⟩)), (6, .pointer (some ⟨s_.2, 0, none⟩))]) (fun s_ w' => (w'.cell? ⟨gb107, 0, none⟩ = some (.string a0_0) ∧ w'.cell? ⟨gb107, 1, none⟩ = some (.string a0_1) ∧ w'.cell? ⟨gb107, 2, none⟩ = some (.string a0_2) ∧ w'.cell? ⟨gb107, 3, none⟩ = some (.string a0_3) ∧ w'.cell? ⟨gb107, 4, none⟩ = some (.bool a0_4) ∧ w'.cell? ⟨gb108, 0, none⟩ = some (.string a1_0) ∧ w'.cell? ⟨gb108, 1, none⟩ = some (.string a1_1) ∧ w'.cell? ⟨gb108, 2, none⟩ = some (.string a1_2) ∧ w'.cell? ⟨gb108, 3, none⟩ = some (.string a1_3) ∧ w'.cell? ⟨gb108, 4, none⟩ = some (.bool a1_4)) ∧ (w'.heap[gb107]? = some (.cells #[.string a0_0, .string a0_1, .string a0_2, .string a0_3, .bool a0_4] 28 (0, 0))) ∧ (w'.heap[gb108]? = some (.cells #[.string a1_0, .string a1_1, .string a1_2, .string a1_3, .bool a1_4] 28 (0, 0))) ∧ (w'.heap[gb109]? = some (.cells #[.bool false, .bool false, .bool false] 31 (0, 0))) ∧ (w'.heap[s_.1]? = some (.cells #[.string (⟨#[]⟩ : ByteArray), .string (⟨#[]⟩ : ByteArray), .string (⟨#[]⟩ : ByteArray), .string (⟨#[]⟩ : ByteArray), .bool false] 59 (0, 0))) ∧ (w'.heap[s_.2]? = some (.cells #[.string (⟨#[]⟩ : ByteArray), .string (⟨#[]⟩ : ByteArray), .string (⟨#[]⟩ : ByteArray), .string (⟨#[]⟩ : ByteArray), .bool false] 59 (0, 0))) ∧ (w.heap.size ≤ s_.1) ∧ (w.heap.size ≤ s_.1) ∧ (gb107 ≠ s_.1) ∧ (s_.1 ≠ gb107) ∧ (gb108 ≠ s_.1) ∧ (s_.1 ≠ gb108) ∧ (gb109 ≠ s_.1) ∧ (s_.1 ≠ gb109) ∧ (s_.2 ≠ s_.1) ∧ (s_.1 ≠ s_.2) ∧ (w.heap.size ≤ s_.2) ∧ (w.heap.size ≤ s_.2) ∧ (gb107 ≠ s_.2) ∧ (s_.2 ≠ gb107) ∧ (gb108 ≠ s_.2) ∧ (s_.2 ≠ gb108) ∧ (gb109 ≠ s_.2) ∧ (s_.2 ≠ gb109) ∧ (Below w.heap.size w w')) ?_ ?_
  rotate_left
  · intro hCont
    refine two_ (i := 2) (j := 3) (Ni := some 5) (Nj := some 6) #[true, true, true, false, false, false] #[true, true, false, true, false, false] rfl rfl rfl rfl (by kernel_rfl) (by decide) (by decide) (fun K hK => ?_) (fun K hK => ?_)
    · skip
      refine box_step ?hg (N := 5) ?hd (cs := #[.string (⟨#[]⟩ : ByteArray), .string (⟨#[]⟩ : ByteArray), .string (⟨#[]⟩ : ByteArray), .string (⟨#[]⟩ : ByteArray), .bool false]) (t := 59) ?hr ?_; (case hd => rfl); (case hg => rfl); (case hr => first | (go_simp; done) | (go_simp; rfl))
      intro gb110 hg w10 hbox hb
      have n0_ := Aside0.mk (blk_below (g := gb107) (o := .cells #[.string a0_0, .string a0_1, .string a0_2, .string a0_3, .bool a0_4] 28 (0, 0)) (by (with_reducible repeat (first | refine blk_drewN ?_ _ | refine blk_drew ?_ | refine blk_alloc ?_ _)); exact BK107.out) hb)
      have n1_ := Aside0.mk (blk_below (g := gb108) (o := .cells #[.string a1_0, .string a1_1, .string a1_2, .string a1_3, .bool a1_4] 28 (0, 0)) (by (with_reducible repeat (first | refine blk_drewN ?_ _ | refine blk_drew ?_ | refine blk_alloc ?_ _)); exact BK108.out) hb)
      have n2_ := Aside0.mk (blk_below (g := gb109) (o := .cells #[.bool false, .bool false, .bool false] 31 (0, 0)) (by (with_reducible repeat (first | refine blk_drewN ?_ _ | refine blk_drew ?_ | refine blk_alloc ?_ _)); exact BK109.out) hb)
      have n3_ := Aside0.mk (below_step (by repeat (first | (with_reducible first | exact HB.out | apply below_alloc | apply pw_below_drewN | apply below_drew1 | refine below_set ?_ GE107.out | refine below_set ?_ GE108.out | refine below_set ?_ GE109.out) | exact HB.out)) hb)
      have n4_ := Aside0.mk (hbox)
      have n5_ := Aside0.mk ((by rw [hg]; exact (below_size (by repeat (first | (with_reducible first | exact HB.out | apply below_alloc | apply pw_below_drewN | apply below_drew1 | refine below_set ?_ GE107.out | refine below_set ?_ GE108.out | refine below_set ?_ GE109.out) | exact HB.out))) : w.heap.size ≤ gb110))
      have n6_ := Aside0.mk ((by rw [hg]; exact (below_size (by repeat (first | (with_reducible first | exact HB.out | apply below_alloc | apply pw_below_drewN | apply below_drew1 | refine below_set ?_ GE107.out | refine below_set ?_ GE108.out | refine below_set ?_ GE109.out) | exact HB.out))) : w.heap.size ≤ gb110))
      have n7_ := Aside0.mk ((by rw [hg]; exact Nat.ne_of_lt (blk_lt (g := gb107) (o := .cells #[.string a0_0, .string a0_1, .string a0_2, .string a0_3, .bool a0_4] 28 (0, 0)) (by (with_reducible repeat (first | refine blk_drewN ?_ _ | refine blk_drew ?_ | refine blk_alloc ?_ _)); exact BK107.out)) : gb107 ≠ gb110))
      have n8_ := Aside0.mk ((by rw [hg]; exact Nat.ne_of_gt (blk_lt (g := gb107) (o := .cells #[.string a0_0, .string a0_1, .string a0_2, .string a0_3, .bool a0_4] 28 (0, 0)) (by (with_reducible repeat (first | refine blk_drewN ?_ _ | refine blk_drew ?_ | refine blk_alloc ?_ _)); exact BK107.out)) : gb110 ≠ gb107))
      have n9_ := Aside0.mk ((by rw [hg]; exact Nat.ne_of_lt (blk_lt (g := gb108) (o := .cells #[.string a1_0, .string a1_1, .string a1_2, .string a1_3, .bool a1_4] 28 (0, 0)) (by (with_reducible repeat (first | refine blk_drewN ?_ _ | refine blk_drew ?_ | refine blk_alloc ?_ _)); exact BK108.out)) : gb108 ≠ gb110))
      have n10_ := Aside0.mk ((by rw [hg]; exact Nat.ne_of_gt (blk_lt (g := gb108) (o := .cells #[.string a1_0, .string a1_1, .string a1_2, .string a1_3, .bool a1_4] 28 (0, 0)) (by (with_reducible repeat (first | refine blk_drewN ?_ _ | refine blk_drew ?_ | refine blk_alloc ?_ _)); exact BK108.out)) : gb110 ≠ gb108))
      have n11_ := Aside0.mk ((by rw [hg]; exact Nat.ne_of_lt (blk_lt (g := gb109) (o := .cells #[.bool false, .bool false, .bool false] 31 (0, 0)) (by (with_reducible repeat (first | refine blk_drewN ?_ _ | refine blk_drew ?_ | refine blk_alloc ?_ _)); exact BK109.out)) : gb109 ≠ gb110))
      have n12_ := Aside0.mk ((by rw [hg]; exact Nat.ne_of_gt (blk_lt (g := gb109) (o := .cells #[.bool false, .bool false, .bool false] 31 (0, 0)) (by (with_reducible repeat (first | refine blk_drewN ?_ _ | refine blk_drew ?_ | refine blk_alloc ?_ _)); exact BK109.out)) : gb110 ≠ gb109))
      clear BK107
      clear BK108
      clear BK109
      clear HB
      have BK107 := n0_
      have BK108 := n1_
      have BK109 := n2_
      have HB := n3_
      have BK110 := n4_
      have GW110 := n5_
      have GE110 := n6_
      have NB107_110 := n7_
      have NB110_107 := n8_
      have NB108_110 := n9_
      have NB110_108 := n10_
      have NB109_110 := n11_
      have NB110_109 := n12_
      clear n0_ n1_ n2_ n3_ n4_ n5_ n6_ n7_ n8_ n9_ n10_ n11_ n12_
      clear hb hbox hg
      refine hK.out _ _ ⟨(blk_cell BK107.out 0).trans rfl, (blk_cell BK107.out 1).trans rfl, (blk_cell BK107.out 2).trans rfl, (blk_cell BK107.out 3).trans rfl, (blk_cell BK107.out 4).trans rfl, (blk_cell BK108.out 0).trans rfl, (blk_cell BK108.out 1).trans rfl, (blk_cell BK108.out 2).trans rfl, (blk_cell BK108.out 3).trans rfl, (blk_cell BK108.out 4).trans rfl⟩ (fun hHeld => ?_)
      clear hK K
      refine norm_ (a' := ?_) ?_ ?_
      rotate_left
      · show Act.put _ (some 5) _ = _
        simp only [Act.put, List.setIfInBounds_toArray, List.set_cons_zero, List.set_cons_succ, i64_w, i32_w]
        rfl
      refine one_ (i := 3) (N := some 6) #[true, true, true, true, false, false] rfl rfl (by kernel_rfl) (by decide) (fun K hK => ?_)
      refine box_step ?hg (N := 6) ?hd (cs := #[.string (⟨#[]⟩ : ByteArray), .string (⟨#[]⟩ : ByteArray), .string (⟨#[]⟩ : ByteArray), .string (⟨#[]⟩ : ByteArray), .bool false]) (t := 59) ?hr ?_; (case hd => rfl); (case hg => rfl); (case hr => first | (go_simp; done) | (go_simp; rfl))
      intro gb111 hg w11 hbox hb
      have n0_ := Aside0.mk (blk_below (g := gb107) (o := .cells #[.string a0_0, .string a0_1, .string a0_2, .string a0_3, .bool a0_4] 28 (0, 0)) (by (with_reducible repeat (first | refine blk_drewN ?_ _ | refine blk_drew ?_ | refine blk_alloc ?_ _)); exact BK107.out) hb)
      have n1_ := Aside0.mk (blk_below (g := gb108) (o := .cells #[.string a1_0, .string a1_1, .string a1_2, .string a1_3, .bool a1_4] 28 (0, 0)) (by (with_reducible repeat (first | refine blk_drewN ?_ _ | refine blk_drew ?_ | refine blk_alloc ?_ _)); exact BK108.out) hb)
      have n2_ := Aside0.mk (blk_below (g := gb109) (o := .cells #[.bool false, .bool false, .bool false] 31 (0, 0)) (by (with_reducible repeat (first | refine blk_drewN ?_ _ | refine blk_drew ?_ | refine blk_alloc ?_ _)); exact BK109.out) hb)
      have n3_ := Aside0.mk (blk_below (g := gb110) (o := .cells #[.string (⟨#[]⟩ : ByteArray), .string (⟨#[]⟩ : ByteArray), .string (⟨#[]⟩ : ByteArray), .string (⟨#[]⟩ : ByteArray), .bool false] 59 (0, 0)) (by (with_reducible repeat (first | refine blk_drewN ?_ _ | refine blk_drew ?_ | refine blk_alloc ?_ _)); exact BK110.out) hb)
      have n4_ := Aside0.mk (below_step (by repeat (first | (with_reducible first | exact HB.out | apply below_alloc | apply pw_below_drewN | apply below_drew1 | refine below_set ?_ GE107.out | refine below_set ?_ GE108.out | refine below_set ?_ GE109.out | refine below_set ?_ GE110.out) | exact HB.out)) hb)
      have n5_ := Aside0.mk (hbox)
      have n6_ := Aside0.mk ((by rw [hg]; exact (below_size (by repeat (first | (with_reducible first | exact HB.out | apply below_alloc | apply pw_below_drewN | apply below_drew1 | refine below_set ?_ GE107.out | refine below_set ?_ GE108.out | refine below_set ?_ GE109.out | refine below_set ?_ GE110.out) | exact HB.out))) : w.heap.size ≤ gb111))
      have n7_ := Aside0.mk ((by rw [hg]; exact (below_size (by repeat (first | (with_reducible first | exact HB.out | apply below_alloc | apply pw_below_drewN | apply below_drew1 | refine below_set ?_ GE107.out | refine below_set ?_ GE108.out | refine below_set ?_ GE109.out | refine below_set ?_ GE110.out) | exact HB.out))) : w.heap.size ≤ gb111))
      have n8_ := Aside0.mk ((by rw [hg]; exact Nat.ne_of_lt (blk_lt (g := gb107) (o := .cells #[.string a0_0, .string a0_1, .string a0_2, .string a0_3, .bool a0_4] 28 (0, 0)) (by (with_reducible repeat (first | refine blk_drewN ?_ _ | refine blk_drew ?_ | refine blk_alloc ?_ _)); exact BK107.out)) : gb107 ≠ gb111))
      have n9_ := Aside0.mk ((by rw [hg]; exact Nat.ne_of_gt (blk_lt (g := gb107) (o := .cells #[.string a0_0, .string a0_1, .string a0_2, .string a0_3, .bool a0_4] 28 (0, 0)) (by (with_reducible repeat (first | refine blk_drewN ?_ _ | refine blk_drew ?_ | refine blk_alloc ?_ _)); exact BK107.out)) : gb111 ≠ gb107))
      have n10_ := Aside0.mk ((by rw [hg]; exact Nat.ne_of_lt (blk_lt (g := gb108) (o := .cells #[.string a1_0, .string a1_1, .string a1_2, .string a1_3, .bool a1_4] 28 (0, 0)) (by (with_reducible repeat (first | refine blk_drewN ?_ _ | refine blk_drew ?_ | refine blk_alloc ?_ _)); exact BK108.out)) : gb108 ≠ gb111))
      have n11_ := Aside0.mk ((by rw [hg]; exact Nat.ne_of_gt (blk_lt (g := gb108) (o := .cells #[.string a1_0, .string a1_1, .string a1_2, .string a1_3, .bool a1_4] 28 (0, 0)) (by (with_reducible repeat (first | refine blk_drewN ?_ _ | refine blk_drew ?_ | refine blk_alloc ?_ _)); exact BK108.out)) : gb111 ≠ gb108))
      have n12_ := Aside0.mk ((by rw [hg]; exact Nat.ne_of_lt (blk_lt (g := gb109) (o := .cells #[.bool false, .bool false, .bool false] 31 (0, 0)) (by (with_reducible repeat (first | refine blk_drewN ?_ _ | refine blk_drew ?_ | refine blk_alloc ?_ _)); exact BK109.out)) : gb109 ≠ gb111))
      have n13_ := Aside0.mk ((by rw [hg]; exact Nat.ne_of_gt (blk_lt (g := gb109) (o := .cells #[.bool false, .bool false, .bool false] 31 (0, 0)) (by (with_reducible repeat (first | refine blk_drewN ?_ _ | refine blk_drew ?_ | refine blk_alloc ?_ _)); exact BK109.out)) : gb111 ≠ gb109))
      have n14_ := Aside0.mk ((by rw [hg]; exact Nat.ne_of_lt (blk_lt (g := gb110) (o := .cells #[.string (⟨#[]⟩ : ByteArray), .string (⟨#[]⟩ : ByteArray), .string (⟨#[]⟩ : ByteArray), .string (⟨#[]⟩ : ByteArray), .bool false] 59 (0, 0)) (by (with_reducible repeat (first | refine blk_drewN ?_ _ | refine blk_drew ?_ | refine blk_alloc ?_ _)); exact BK110.out)) : gb110 ≠ gb111))
      have n15_ := Aside0.mk ((by rw [hg]; exact Nat.ne_of_gt (blk_lt (g := gb110) (o := .cells #[.string (⟨#[]⟩ : ByteArray), .string (⟨#[]⟩ : ByteArray), .string (⟨#[]⟩ : ByteArray), .string (⟨#[]⟩ : ByteArray), .bool false] 59 (0, 0)) (by (with_reducible repeat (first | refine blk_drewN ?_ _ | refine blk_drew ?_ | refine blk_alloc ?_ _)); exact BK110.out)) : gb111 ≠ gb110))
      clear BK107
      clear BK108
      clear BK109
      clear BK110
      clear HB
      have BK107 := n0_
      have BK108 := n1_
      have BK109 := n2_
      have BK110 := n3_
      have HB := n4_
      have BK111 := n5_
      have GW111 := n6_
      have GE111 := n7_
      have NB107_111 := n8_
      have NB111_107 := n9_
      have NB108_111 := n10_
      have NB111_108 := n11_
      have NB109_111 := n12_
      have NB111_109 := n13_
      have NB110_111 := n14_
      have NB111_110 := n15_
      clear n0_ n1_ n2_ n3_ n4_ n5_ n6_ n7_ n8_ n9_ n10_ n11_ n12_ n13_ n14_ n15_
      clear hb hbox hg
      refine hK.out _ _ ⟨(blk_cell BK107.out 0).trans rfl, (blk_cell BK107.out 1).trans rfl, (blk_cell BK107.out 2).trans rfl, (blk_cell BK107.out 3).trans rfl, (blk_cell BK107.out 4).trans rfl, (blk_cell BK108.out 0).trans rfl, (blk_cell BK108.out 1).trans rfl, (blk_cell BK108.out 2).trans rfl, (blk_cell BK108.out 3).trans rfl, (blk_cell BK108.out 4).trans rfl⟩ (fun hHeld => ?_)
      clear hK K
      refine norm_ (a' := ?_) ?_ ?_
      rotate_left
      · show Act.put _ (some 6) _ = _
        simp only [Act.put, List.setIfInBounds_toArray, List.set_cons_zero, List.set_cons_succ, i64_w, i32_w]
        rfl
      exact norm_ (by simp only [putAll, Act.put, List.setIfInBounds_toArray, List.set_cons_zero, List.set_cons_succ]) (hCont (gb110, gb111) _ ⟨hHeld, (by (with_reducible repeat (first | refine blk_drewN ?_ _ | refine blk_drew ?_ | refine blk_alloc ?_ _)); exact BK107.out), (by (with_reducible repeat (first | refine blk_drewN ?_ _ | refine blk_drew ?_ | refine blk_alloc ?_ _)); exact BK108.out), (by (with_reducible repeat (first | refine blk_drewN ?_ _ | refine blk_drew ?_ | refine blk_alloc ?_ _)); exact BK109.out), (by (with_reducible repeat (first | refine blk_drewN ?_ _ | refine blk_drew ?_ | refine blk_alloc ?_ _)); exact BK110.out), (by (with_reducible repeat (first | refine blk_drewN ?_ _ | refine blk_drew ?_ | refine blk_alloc ?_ _)); exact BK111.out), GW110.out, GE110.out, NB107_110.out, NB110_107.out, NB108_110.out, NB110_108.out, NB109_110.out, NB110_109.out, NB111_110.out, NB110_111.out, GW111.out, GE111.out, NB107_111.out, NB111_107.out, NB108_111.out, NB111_108.out, NB109_111.out, NB111_109.out, (by repeat (first | (with_reducible first | exact HB.out | apply below_alloc | apply pw_below_drewN | apply below_drew1 | refine below_set ?_ GE107.out | refine below_set ?_ GE108.out | refine below_set ?_ GE109.out | refine below_set ?_ GE110.out | refine below_set ?_ GE111.out) | exact HB.out))⟩)
    · skip
      refine box_step ?hg (N := 6) ?hd (cs := #[.string (⟨#[]⟩ : ByteArray), .string (⟨#[]⟩ : ByteArray), .string (⟨#[]⟩ : ByteArray), .string (⟨#[]⟩ : ByteArray), .bool false]) (t := 59) ?hr ?_; (case hd => rfl); (case hg => rfl); (case hr => first | (go_simp; done) | (go_simp; rfl))
      intro gb111 hg w10 hbox hb
      have n0_ := Aside0.mk (blk_below (g := gb107) (o := .cells #[.string a0_0, .string a0_1, .string a0_2, .string a0_3, .bool a0_4] 28 (0, 0)) (by (with_reducible repeat (first | refine blk_drewN ?_ _ | refine blk_drew ?_ | refine blk_alloc ?_ _)); exact BK107.out) hb)
      have n1_ := Aside0.mk (blk_below (g := gb108) (o := .cells #[.string a1_0, .string a1_1, .string a1_2, .string a1_3, .bool a1_4] 28 (0, 0)) (by (with_reducible repeat (first | refine blk_drewN ?_ _ | refine blk_drew ?_ | refine blk_alloc ?_ _)); exact BK108.out) hb)
      have n2_ := Aside0.mk (blk_below (g := gb109) (o := .cells #[.bool false, .bool false, .bool false] 31 (0, 0)) (by (with_reducible repeat (first | refine blk_drewN ?_ _ | refine blk_drew ?_ | refine blk_alloc ?_ _)); exact BK109.out) hb)
      have n3_ := Aside0.mk (below_step (by repeat (first | (with_reducible first | exact HB.out | apply below_alloc | apply pw_below_drewN | apply below_drew1 | refine below_set ?_ GE107.out | refine below_set ?_ GE108.out | refine below_set ?_ GE109.out) | exact HB.out)) hb)
      have n4_ := Aside0.mk (hbox)
      have n5_ := Aside0.mk ((by rw [hg]; exact (below_size (by repeat (first | (with_reducible first | exact HB.out | apply below_alloc | apply pw_below_drewN | apply below_drew1 | refine below_set ?_ GE107.out | refine below_set ?_ GE108.out | refine below_set ?_ GE109.out) | exact HB.out))) : w.heap.size ≤ gb111))
      have n6_ := Aside0.mk ((by rw [hg]; exact (below_size (by repeat (first | (with_reducible first | exact HB.out | apply below_alloc | apply pw_below_drewN | apply below_drew1 | refine below_set ?_ GE107.out | refine below_set ?_ GE108.out | refine below_set ?_ GE109.out) | exact HB.out))) : w.heap.size ≤ gb111))
      have n7_ := Aside0.mk ((by rw [hg]; exact Nat.ne_of_lt (blk_lt (g := gb107) (o := .cells #[.string a0_0, .string a0_1, .string a0_2, .string a0_3, .bool a0_4] 28 (0, 0)) (by (with_reducible repeat (first | refine blk_drewN ?_ _ | refine blk_drew ?_ | refine blk_alloc ?_ _)); exact BK107.out)) : gb107 ≠ gb111))
      have n8_ := Aside0.mk ((by rw [hg]; exact Nat.ne_of_gt (blk_lt (g := gb107) (o := .cells #[.string a0_0, .string a0_1, .string a0_2, .string a0_3, .bool a0_4] 28 (0, 0)) (by (with_reducible repeat (first | refine blk_drewN ?_ _ | refine blk_drew ?_ | refine blk_alloc ?_ _)); exact BK107.out)) : gb111 ≠ gb107))
      have n9_ := Aside0.mk ((by rw [hg]; exact Nat.ne_of_lt (blk_lt (g := gb108) (o := .cells #[.string a1_0, .string a1_1, .string a1_2, .string a1_3, .bool a1_4] 28 (0, 0)) (by (with_reducible repeat (first | refine blk_drewN ?_ _ | refine blk_drew ?_ | refine blk_alloc ?_ _)); exact BK108.out)) : gb108 ≠ gb111))
      have n10_ := Aside0.mk ((by rw [hg]; exact Nat.ne_of_gt (blk_lt (g := gb108) (o := .cells #[.string a1_0, .string a1_1, .string a1_2, .string a1_3, .bool a1_4] 28 (0, 0)) (by (with_reducible repeat (first | refine blk_drewN ?_ _ | refine blk_drew ?_ | refine blk_alloc ?_ _)); exact BK108.out)) : gb111 ≠ gb108))
      have n11_ := Aside0.mk ((by rw [hg]; exact Nat.ne_of_lt (blk_lt (g := gb109) (o := .cells #[.bool false, .bool false, .bool false] 31 (0, 0)) (by (with_reducible repeat (first | refine blk_drewN ?_ _ | refine blk_drew ?_ | refine blk_alloc ?_ _)); exact BK109.out)) : gb109 ≠ gb111))
      have n12_ := Aside0.mk ((by rw [hg]; exact Nat.ne_of_gt (blk_lt (g := gb109) (o := .cells #[.bool false, .bool false, .bool false] 31 (0, 0)) (by (with_reducible repeat (first | refine blk_drewN ?_ _ | refine blk_drew ?_ | refine blk_alloc ?_ _)); exact BK109.out)) : gb111 ≠ gb109))
      clear BK107
      clear BK108
      clear BK109
      clear HB
      have BK107 := n0_
      have BK108 := n1_
      have BK109 := n2_
      have HB := n3_
      have BK111 := n4_
      have GW111 := n5_
      have GE111 := n6_
      have NB107_111 := n7_
      have NB111_107 := n8_
      have NB108_111 := n9_
      have NB111_108 := n10_
      have NB109_111 := n11_
      have NB111_109 := n12_
      clear n0_ n1_ n2_ n3_ n4_ n5_ n6_ n7_ n8_ n9_ n10_ n11_ n12_
      clear hb hbox hg
      refine hK.out _ _ ⟨(blk_cell BK107.out 0).trans rfl, (blk_cell BK107.out 1).trans rfl, (blk_cell BK107.out 2).trans rfl, (blk_cell BK107.out 3).trans rfl, (blk_cell BK107.out 4).trans rfl, (blk_cell BK108.out 0).trans rfl, (blk_cell BK108.out 1).trans rfl, (blk_cell BK108.out 2).trans rfl, (blk_cell BK108.out 3).trans rfl, (blk_cell BK108.out 4).trans rfl⟩ (fun hHeld => ?_)
      clear hK K
      refine norm_ (a' := ?_) ?_ ?_
      rotate_left
      · show Act.put _ (some 6) _ = _
        simp only [Act.put, List.setIfInBounds_toArray, List.set_cons_zero, List.set_cons_succ, i64_w, i32_w]
        rfl
      refine one_ (i := 2) (N := some 5) #[true, true, true, true, false, false] rfl rfl (by kernel_rfl) (by decide) (fun K hK => ?_)
      refine box_step ?hg (N := 5) ?hd (cs := #[.string (⟨#[]⟩ : ByteArray), .string (⟨#[]⟩ : ByteArray), .string (⟨#[]⟩ : ByteArray), .string (⟨#[]⟩ : ByteArray), .bool false]) (t := 59) ?hr ?_; (case hd => rfl); (case hg => rfl); (case hr => first | (go_simp; done) | (go_simp; rfl))
      intro gb110 hg w11 hbox hb
      have n0_ := Aside0.mk (blk_below (g := gb107) (o := .cells #[.string a0_0, .string a0_1, .string a0_2, .string a0_3, .bool a0_4] 28 (0, 0)) (by (with_reducible repeat (first | refine blk_drewN ?_ _ | refine blk_drew ?_ | refine blk_alloc ?_ _)); exact BK107.out) hb)
      have n1_ := Aside0.mk (blk_below (g := gb108) (o := .cells #[.string a1_0, .string a1_1, .string a1_2, .string a1_3, .bool a1_4] 28 (0, 0)) (by (with_reducible repeat (first | refine blk_drewN ?_ _ | refine blk_drew ?_ | refine blk_alloc ?_ _)); exact BK108.out) hb)
      have n2_ := Aside0.mk (blk_below (g := gb109) (o := .cells #[.bool false, .bool false, .bool false] 31 (0, 0)) (by (with_reducible repeat (first | refine blk_drewN ?_ _ | refine blk_drew ?_ | refine blk_alloc ?_ _)); exact BK109.out) hb)
      have n3_ := Aside0.mk (blk_below (g := gb111) (o := .cells #[.string (⟨#[]⟩ : ByteArray), .string (⟨#[]⟩ : ByteArray), .string (⟨#[]⟩ : ByteArray), .string (⟨#[]⟩ : ByteArray), .bool false] 59 (0, 0)) (by (with_reducible repeat (first | refine blk_drewN ?_ _ | refine blk_drew ?_ | refine blk_alloc ?_ _)); exact BK111.out) hb)
      have n4_ := Aside0.mk (below_step (by repeat (first | (with_reducible first | exact HB.out | apply below_alloc | apply pw_below_drewN | apply below_drew1 | refine below_set ?_ GE107.out | refine below_set ?_ GE108.out | refine below_set ?_ GE109.out | refine below_set ?_ GE111.out) | exact HB.out)) hb)
      have n5_ := Aside0.mk (hbox)
      have n6_ := Aside0.mk ((by rw [hg]; exact (below_size (by repeat (first | (with_reducible first | exact HB.out | apply below_alloc | apply pw_below_drewN | apply below_drew1 | refine below_set ?_ GE107.out | refine below_set ?_ GE108.out | refine below_set ?_ GE109.out | refine below_set ?_ GE111.out) | exact HB.out))) : w.heap.size ≤ gb110))
      have n7_ := Aside0.mk ((by rw [hg]; exact (below_size (by repeat (first | (with_reducible first | exact HB.out | apply below_alloc | apply pw_below_drewN | apply below_drew1 | refine below_set ?_ GE107.out | refine below_set ?_ GE108.out | refine below_set ?_ GE109.out | refine below_set ?_ GE111.out) | exact HB.out))) : w.heap.size ≤ gb110))
      have n8_ := Aside0.mk ((by rw [hg]; exact Nat.ne_of_lt (blk_lt (g := gb107) (o := .cells #[.string a0_0, .string a0_1, .string a0_2, .string a0_3, .bool a0_4] 28 (0, 0)) (by (with_reducible repeat (first | refine blk_drewN ?_ _ | refine blk_drew ?_ | refine blk_alloc ?_ _)); exact BK107.out)) : gb107 ≠ gb110))
      have n9_ := Aside0.mk ((by rw [hg]; exact Nat.ne_of_gt (blk_lt (g := gb107) (o := .cells #[.string a0_0, .string a0_1, .string a0_2, .string a0_3, .bool a0_4] 28 (0, 0)) (by (with_reducible repeat (first | refine blk_drewN ?_ _ | refine blk_drew ?_ | refine blk_alloc ?_ _)); exact BK107.out)) : gb110 ≠ gb107))
      have n10_ := Aside0.mk ((by rw [hg]; exact Nat.ne_of_lt (blk_lt (g := gb108) (o := .cells #[.string a1_0, .string a1_1, .string a1_2, .string a1_3, .bool a1_4] 28 (0, 0)) (by (with_reducible repeat (first | refine blk_drewN ?_ _ | refine blk_drew ?_ | refine blk_alloc ?_ _)); exact BK108.out)) : gb108 ≠ gb110))
      have n11_ := Aside0.mk ((by rw [hg]; exact Nat.ne_of_gt (blk_lt (g := gb108) (o := .cells #[.string a1_0, .string a1_1, .string a1_2, .string a1_3, .bool a1_4] 28 (0, 0)) (by (with_reducible repeat (first | refine blk_drewN ?_ _ | refine blk_drew ?_ | refine blk_alloc ?_ _)); exact BK108.out)) : gb110 ≠ gb108))
      have n12_ := Aside0.mk ((by rw [hg]; exact Nat.ne_of_lt (blk_lt (g := gb109) (o := .cells #[.bool false, .bool false, .bool false] 31 (0, 0)) (by (with_reducible repeat (first | refine blk_drewN ?_ _ | refine blk_drew ?_ | refine blk_alloc ?_ _)); exact BK109.out)) : gb109 ≠ gb110))
      have n13_ := Aside0.mk ((by rw [hg]; exact Nat.ne_of_gt (blk_lt (g := gb109) (o := .cells #[.bool false, .bool false, .bool false] 31 (0, 0)) (by (with_reducible repeat (first | refine blk_drewN ?_ _ | refine blk_drew ?_ | refine blk_alloc ?_ _)); exact BK109.out)) : gb110 ≠ gb109))
      have n14_ := Aside0.mk ((by rw [hg]; exact Nat.ne_of_lt (blk_lt (g := gb111) (o := .cells #[.string (⟨#[]⟩ : ByteArray), .string (⟨#[]⟩ : ByteArray), .string (⟨#[]⟩ : ByteArray), .string (⟨#[]⟩ : ByteArray), .bool false] 59 (0, 0)) (by (with_reducible repeat (first | refine blk_drewN ?_ _ | refine blk_drew ?_ | refine blk_alloc ?_ _)); exact BK111.out)) : gb111 ≠ gb110))
      have n15_ := Aside0.mk ((by rw [hg]; exact Nat.ne_of_gt (blk_lt (g := gb111) (o := .cells #[.string (⟨#[]⟩ : ByteArray), .string (⟨#[]⟩ : ByteArray), .string (⟨#[]⟩ : ByteArray), .string (⟨#[]⟩ : ByteArray), .bool false] 59 (0, 0)) (by (with_reducible repeat (first | refine blk_drewN ?_ _ | refine blk_drew ?_ | refine blk_alloc ?_ _)); exact BK111.out)) : gb110 ≠ gb111))
      clear BK107
      clear BK108
      clear BK109
      clear BK111
      clear HB
      have BK107 := n0_
      have BK108 := n1_
      have BK109 := n2_
      have BK111 := n3_
      have HB := n4_
      have BK110 := n5_
      have GW110 := n6_
      have GE110 := n7_
      have NB107_110 := n8_
      have NB110_107 := n9_
      have NB108_110 := n10_
      have NB110_108 := n11_
      have NB109_110 := n12_
      have NB110_109 := n13_
      have NB111_110 := n14_
      have NB110_111 := n15_
      clear n0_ n1_ n2_ n3_ n4_ n5_ n6_ n7_ n8_ n9_ n10_ n11_ n12_ n13_ n14_ n15_
      clear hb hbox hg
      refine hK.out _ _ ⟨(blk_cell BK107.out 0).trans rfl, (blk_cell BK107.out 1).trans rfl, (blk_cell BK107.out 2).trans rfl, (blk_cell BK107.out 3).trans rfl, (blk_cell BK107.out 4).trans rfl, (blk_cell BK108.out 0).trans rfl, (blk_cell BK108.out 1).trans rfl, (blk_cell BK108.out 2).trans rfl, (blk_cell BK108.out 3).trans rfl, (blk_cell BK108.out 4).trans rfl⟩ (fun hHeld => ?_)
      clear hK K
      refine norm_ (a' := ?_) ?_ ?_
      rotate_left
      · show Act.put _ (some 5) _ = _
        simp only [Act.put, List.setIfInBounds_toArray, List.set_cons_zero, List.set_cons_succ, i64_w, i32_w]
        rfl
      exact norm_ (by simp only [putAll, Act.put, List.setIfInBounds_toArray, List.set_cons_zero, List.set_cons_succ]) (hCont (gb110, gb111) _ ⟨hHeld, (by (with_reducible repeat (first | refine blk_drewN ?_ _ | refine blk_drew ?_ | refine blk_alloc ?_ _)); exact BK107.out), (by (with_reducible repeat (first | refine blk_drewN ?_ _ | refine blk_drew ?_ | refine blk_alloc ?_ _)); exact BK108.out), (by (with_reducible repeat (first | refine blk_drewN ?_ _ | refine blk_drew ?_ | refine blk_alloc ?_ _)); exact BK109.out), (by (with_reducible repeat (first | refine blk_drewN ?_ _ | refine blk_drew ?_ | refine blk_alloc ?_ _)); exact BK110.out), (by (with_reducible repeat (first | refine blk_drewN ?_ _ | refine blk_drew ?_ | refine blk_alloc ?_ _)); exact BK111.out), GW110.out, GE110.out, NB107_110.out, NB110_107.out, NB108_110.out, NB110_108.out, NB109_110.out, NB110_109.out, NB111_110.out, NB110_111.out, GW111.out, GE111.out, NB107_111.out, NB111_107.out, NB108_111.out, NB111_108.out, NB109_111.out, NB111_109.out, (by repeat (first | (with_reducible first | exact HB.out | apply below_alloc | apply pw_below_drewN | apply below_drew1 | refine below_set ?_ GE107.out | refine below_set ?_ GE108.out | refine below_set ?_ GE109.out | refine below_set ?_ GE111.out | refine below_set ?_ GE110.out) | exact HB.out))⟩)
  rintro ⟨gb110, gb111⟩ w12 ⟨hS_, h0_, h1_, h2_, h3_, h4_, h5_, h6_, h7_, h8_, h9_, h10_, h11_, h12_, h13_, h14_, h15_, h16_, h17_, h18_, h19_, h20_, h21_, h22_, h23_⟩
  have n0_ : Aside0 (w12.heap[gb107]? = some (.cells #[.string a0_0, .string a0_1, .string a0_2, .string a0_3, .bool a0_4] 28 (0, 0))) := ⟨h0_⟩
  have n1_ : Aside0 (w12.heap[gb108]? = some (.cells #[.string a1_0, .string a1_1, .string a1_2, .string a1_3, .bool a1_4] 28 (0, 0))) := ⟨h1_⟩
  have n2_ : Aside0 (w12.heap[gb109]? = some (.cells #[.bool false, .bool false, .bool false] 31 (0, 0))) := ⟨h2_⟩
  have n3_ : Aside0 (w12.heap[gb110]? = some (.cells #[.string (⟨#[]⟩ : ByteArray), .string (⟨#[]⟩ : ByteArray), .string (⟨#[]⟩ : ByteArray), .string (⟨#[]⟩ : ByteArray), .bool false] 59 (0, 0))) := ⟨h3_⟩
  have n4_ : Aside0 (w12.heap[gb111]? = some (.cells #[.string (⟨#[]⟩ : ByteArray), .string (⟨#[]⟩ : ByteArray), .string (⟨#[]⟩ : ByteArray), .string (⟨#[]⟩ : ByteArray), .bool false] 59 (0, 0))) := ⟨h4_⟩
  have n5_ : Aside0 (w.heap.size ≤ gb110) := ⟨h5_⟩
  have n6_ : Aside0 (w.heap.size ≤ gb110) := ⟨h6_⟩
  have n7_ : Aside0 (gb107 ≠ gb110) := ⟨h7_⟩
  have n8_ : Aside0 (gb110 ≠ gb107) := ⟨h8_⟩
  have n9_ : Aside0 (gb108 ≠ gb110) := ⟨h9_⟩
  have n10_ : Aside0 (gb110 ≠ gb108) := ⟨h10_⟩
  have n11_ : Aside0 (gb109 ≠ gb110) := ⟨h11_⟩
  have n12_ : Aside0 (gb110 ≠ gb109) := ⟨h12_⟩
  have n13_ : Aside0 (gb111 ≠ gb110) := ⟨h13_⟩
  have n14_ : Aside0 (gb110 ≠ gb111) := ⟨h14_⟩
  have n15_ : Aside0 (w.heap.size ≤ gb111) := ⟨h15_⟩
  have n16_ : Aside0 (w.heap.size ≤ gb111) := ⟨h16_⟩
  have n17_ : Aside0 (gb107 ≠ gb111) := ⟨h17_⟩
  have n18_ : Aside0 (gb111 ≠ gb107) := ⟨h18_⟩
  have n19_ : Aside0 (gb108 ≠ gb111) := ⟨h19_⟩
  have n20_ : Aside0 (gb111 ≠ gb108) := ⟨h20_⟩
  have n21_ : Aside0 (gb109 ≠ gb111) := ⟨h21_⟩
  have n22_ : Aside0 (gb111 ≠ gb109) := ⟨h22_⟩
  have n23_ : Aside0 (Below w.heap.size w w12) := ⟨h23_⟩
  clear BK107
  clear BK108
  clear BK109
  clear HB
  clear h0_ h1_ h2_ h3_ h4_ h5_ h6_ h7_ h8_ h9_ h10_ h11_ h12_ h13_ h14_ h15_ h16_ h17_ h18_ h19_ h20_ h21_ h22_ h23_
  have BK107 := n0_
  have BK108 := n1_
  have BK109 := n2_
  have BK110 := n3_
  have BK111 := n4_
  have GW110 := n5_
  have GE110 := n6_
  have NB107_110 := n7_
  have NB110_107 := n8_
  have NB108_110 := n9_
  have NB110_108 := n10_
  have NB109_110 := n11_
  have NB110_109 := n12_
  have NB111_110 := n13_
  have NB110_111 := n14_
  have GW111 := n15_
  have GE111 := n16_
  have NB107_111 := n17_
  have NB111_107 := n18_
  have NB108_111 := n19_
  have NB111_108 := n20_
  have NB109_111 := n21_
  have NB111_109 := n22_
  have HB := n23_
  clear n0_ n1_ n2_ n3_ n4_ n5_ n6_ n7_ n8_ n9_ n10_ n11_ n12_ n13_ n14_ n15_ n16_ n17_ n18_ n19_ n20_ n21_ n22_ n23_
  have hHeld : w12.cell? ⟨gb107, 0, none⟩ = some (.string a0_0) ∧ w12.cell? ⟨gb107, 1, none⟩ = some (.string a0_1) ∧ w12.cell? ⟨gb107, 2, none⟩ = some (.string a0_2) ∧ w12.cell? ⟨gb107, 3, none⟩ = some (.string a0_3) ∧ w12.cell? ⟨gb107, 4, none⟩ = some (.bool a0_4) ∧ w12.cell? ⟨gb108, 0, none⟩ = some (.string a1_0) ∧ w12.cell? ⟨gb108, 1, none⟩ = some (.string a1_1) ∧ w12.cell? ⟨gb108, 2, none⟩ = some (.string a1_2) ∧ w12.cell? ⟨gb108, 3, none⟩ = some (.string a1_3) ∧ w12.cell? ⟨gb108, 4, none⟩ = some (.bool a1_4) := hS_
  refine norm_ (a' := ?_) ?_ ?_
  rotate_left
  · simp only [putAll, Act.put, List.setIfInBounds_toArray, List.set_cons_zero, List.set_cons_succ]
    rfl
  refine one_ (i := 4) (N := none) #[true, true, true, true, true, false] rfl rfl (by kernel_rfl) (by decide) (fun K hK => ?_)
  have hs13 : w12.cell? ⟨gb110, 0, none⟩ = some (.string (⟨#[]⟩ : ByteArray)) := (blk_cell BK110.out 0).trans rfl
  have hfs13 := blk_frozen BK110.out 0
  have hns13_0 := NB107_110.out
  have hns13_1 := NB108_110.out
  have hns13_2 := NB109_110.out
  have hns13_4 := NB111_110.out
  have hms13_0 := NB110_107.out
  have hms13_1 := NB110_108.out
  have hms13_2 := NB110_109.out
  have hms13_4 := NB110_111.out
  have hs14 : w12.cell? ⟨gb110, 1, none⟩ = some (.string (⟨#[]⟩ : ByteArray)) := (blk_cell BK110.out 1).trans rfl
  have hfs14 := blk_frozen BK110.out 1
  have hns14_0 := NB107_110.out
  have hns14_1 := NB108_110.out
  have hns14_2 := NB109_110.out
  have hns14_4 := NB111_110.out
  have hms14_0 := NB110_107.out
  have hms14_1 := NB110_108.out
  have hms14_2 := NB110_109.out
  have hms14_4 := NB110_111.out
  have hs15 : w12.cell? ⟨gb110, 2, none⟩ = some (.string (⟨#[]⟩ : ByteArray)) := (blk_cell BK110.out 2).trans rfl
  have hfs15 := blk_frozen BK110.out 2
  have hns15_0 := NB107_110.out
  have hns15_1 := NB108_110.out
  have hns15_2 := NB109_110.out
  have hns15_4 := NB111_110.out
  have hms15_0 := NB110_107.out
  have hms15_1 := NB110_108.out
  have hms15_2 := NB110_109.out
  have hms15_4 := NB110_111.out
  have hs16 : w12.cell? ⟨gb110, 3, none⟩ = some (.string (⟨#[]⟩ : ByteArray)) := (blk_cell BK110.out 3).trans rfl
  have hfs16 := blk_frozen BK110.out 3
  have hns16_0 := NB107_110.out
  have hns16_1 := NB108_110.out
  have hns16_2 := NB109_110.out
  have hns16_4 := NB111_110.out
  have hms16_0 := NB110_107.out
  have hms16_1 := NB110_108.out
  have hms16_2 := NB110_109.out
  have hms16_4 := NB110_111.out
  have hs17 : w12.cell? ⟨gb110, 4, none⟩ = some (.bool false) := (blk_cell BK110.out 4).trans rfl
  have hfs17 := blk_frozen BK110.out 4
  have hns17_0 := NB107_110.out
  have hns17_1 := NB108_110.out
  have hns17_2 := NB109_110.out
  have hns17_4 := NB111_110.out
  have hms17_0 := NB110_107.out
  have hms17_1 := NB110_108.out
  have hms17_2 := NB110_109.out
  have hms17_4 := NB110_111.out
  refine skip_ (w1 := ?_) (by rfl) rfl ?_ ?_
  rotate_left
  · go_simp
    rfl
  refine hK.out _ _ ⟨((cell_far (p := ⟨gb110, _, none⟩) NB107_110.out _).trans (((cell_far (p := ⟨gb110, _, none⟩) NB107_110.out _).trans (((cell_far (p := ⟨gb110, _, none⟩) NB107_110.out _).trans (((cell_far (p := ⟨gb110, _, none⟩) NB107_110.out _).trans (((cell_far (p := ⟨gb110, _, none⟩) NB107_110.out _).trans (hHeld.1)))))))))), ((cell_far (p := ⟨gb110, _, none⟩) NB107_110.out _).trans (((cell_far (p := ⟨gb110, _, none⟩) NB107_110.out _).trans (((cell_far (p := ⟨gb110, _, none⟩) NB107_110.out _).trans (((cell_far (p := ⟨gb110, _, none⟩) NB107_110.out _).trans (((cell_far (p := ⟨gb110, _, none⟩) NB107_110.out _).trans (hHeld.2.1)))))))))), ((cell_far (p := ⟨gb110, _, none⟩) NB107_110.out _).trans (((cell_far (p := ⟨gb110, _, none⟩) NB107_110.out _).trans (((cell_far (p := ⟨gb110, _, none⟩) NB107_110.out _).trans (((cell_far (p := ⟨gb110, _, none⟩) NB107_110.out _).trans (((cell_far (p := ⟨gb110, _, none⟩) NB107_110.out _).trans (hHeld.2.2.1)))))))))), ((cell_far (p := ⟨gb110, _, none⟩) NB107_110.out _).trans (((cell_far (p := ⟨gb110, _, none⟩) NB107_110.out _).trans (((cell_far (p := ⟨gb110, _, none⟩) NB107_110.out _).trans (((cell_far (p := ⟨gb110, _, none⟩) NB107_110.out _).trans (((cell_far (p := ⟨gb110, _, none⟩) NB107_110.out _).trans (hHeld.2.2.2.1)))))))))), ((cell_far (p := ⟨gb110, _, none⟩) NB107_110.out _).trans (((cell_far (p := ⟨gb110, _, none⟩) NB107_110.out _).trans (((cell_far (p := ⟨gb110, _, none⟩) NB107_110.out _).trans (((cell_far (p := ⟨gb110, _, none⟩) NB107_110.out _).trans (((cell_far (p := ⟨gb110, _, none⟩) NB107_110.out _).trans (hHeld.2.2.2.2.1)))))))))), ((cell_far (p := ⟨gb110, _, none⟩) NB108_110.out _).trans (((cell_far (p := ⟨gb110, _, none⟩) NB108_110.out _).trans (((cell_far (p := ⟨gb110, _, none⟩) NB108_110.out _).trans (((cell_far (p := ⟨gb110, _, none⟩) NB108_110.out _).trans (((cell_far (p := ⟨gb110, _, none⟩) NB108_110.out _).trans (hHeld.2.2.2.2.2.1)))))))))), ((cell_far (p := ⟨gb110, _, none⟩) NB108_110.out _).trans (((cell_far (p := ⟨gb110, _, none⟩) NB108_110.out _).trans (((cell_far (p := ⟨gb110, _, none⟩) NB108_110.out _).trans (((cell_far (p := ⟨gb110, _, none⟩) NB108_110.out _).trans (((cell_far (p := ⟨gb110, _, none⟩) NB108_110.out _).trans (hHeld.2.2.2.2.2.2.1)))))))))), ((cell_far (p := ⟨gb110, _, none⟩) NB108_110.out _).trans (((cell_far (p := ⟨gb110, _, none⟩) NB108_110.out _).trans (((cell_far (p := ⟨gb110, _, none⟩) NB108_110.out _).trans (((cell_far (p := ⟨gb110, _, none⟩) NB108_110.out _).trans (((cell_far (p := ⟨gb110, _, none⟩) NB108_110.out _).trans (hHeld.2.2.2.2.2.2.2.1)))))))))), ((cell_far (p := ⟨gb110, _, none⟩) NB108_110.out _).trans (((cell_far (p := ⟨gb110, _, none⟩) NB108_110.out _).trans (((cell_far (p := ⟨gb110, _, none⟩) NB108_110.out _).trans (((cell_far (p := ⟨gb110, _, none⟩) NB108_110.out _).trans (((cell_far (p := ⟨gb110, _, none⟩) NB108_110.out _).trans (hHeld.2.2.2.2.2.2.2.2.1)))))))))), ((cell_far (p := ⟨gb110, _, none⟩) NB108_110.out _).trans (((cell_far (p := ⟨gb110, _, none⟩) NB108_110.out _).trans (((cell_far (p := ⟨gb110, _, none⟩) NB108_110.out _).trans (((cell_far (p := ⟨gb110, _, none⟩) NB108_110.out _).trans (((cell_far (p := ⟨gb110, _, none⟩) NB108_110.out _).trans (hHeld.2.2.2.2.2.2.2.2.2))))))))))⟩ (fun hHeld => ?_)
  clear hK K
  refine one_ (i := 5) (N := none) #[true, true, true, true, true, true] rfl rfl (by kernel_rfl) (by decide) (fun K hK => ?_)
  have hs18 : w12.cell? ⟨gb111, 0, none⟩ = some (.string (⟨#[]⟩ : ByteArray)) := (blk_cell BK111.out 0).trans rfl
  have hfs18 := blk_frozen BK111.out 0
  have hns18_0 := NB107_111.out
  have hns18_1 := NB108_111.out
  have hns18_2 := NB109_111.out
  have hns18_3 := NB110_111.out
  have hms18_0 := NB111_107.out
  have hms18_1 := NB111_108.out
  have hms18_2 := NB111_109.out
  have hms18_3 := NB111_110.out
  have hs19 : w12.cell? ⟨gb111, 1, none⟩ = some (.string (⟨#[]⟩ : ByteArray)) := (blk_cell BK111.out 1).trans rfl
  have hfs19 := blk_frozen BK111.out 1
  have hns19_0 := NB107_111.out
  have hns19_1 := NB108_111.out
  have hns19_2 := NB109_111.out
  have hns19_3 := NB110_111.out
  have hms19_0 := NB111_107.out
  have hms19_1 := NB111_108.out
  have hms19_2 := NB111_109.out
  have hms19_3 := NB111_110.out
  have hs20 : w12.cell? ⟨gb111, 2, none⟩ = some (.string (⟨#[]⟩ : ByteArray)) := (blk_cell BK111.out 2).trans rfl
  have hfs20 := blk_frozen BK111.out 2
  have hns20_0 := NB107_111.out
  have hns20_1 := NB108_111.out
  have hns20_2 := NB109_111.out
  have hns20_3 := NB110_111.out
  have hms20_0 := NB111_107.out
  have hms20_1 := NB111_108.out
  have hms20_2 := NB111_109.out
  have hms20_3 := NB111_110.out
  have hs21 : w12.cell? ⟨gb111, 3, none⟩ = some (.string (⟨#[]⟩ : ByteArray)) := (blk_cell BK111.out 3).trans rfl
  have hfs21 := blk_frozen BK111.out 3
  have hns21_0 := NB107_111.out
  have hns21_1 := NB108_111.out
  have hns21_2 := NB109_111.out
  have hns21_3 := NB110_111.out
  have hms21_0 := NB111_107.out
  have hms21_1 := NB111_108.out
  have hms21_2 := NB111_109.out
  have hms21_3 := NB111_110.out
  have hs22 : w12.cell? ⟨gb111, 4, none⟩ = some (.bool false) := (blk_cell BK111.out 4).trans rfl
  have hfs22 := blk_frozen BK111.out 4
  have hns22_0 := NB107_111.out
  have hns22_1 := NB108_111.out
  have hns22_2 := NB109_111.out
  have hns22_3 := NB110_111.out
  have hms22_0 := NB111_107.out
  have hms22_1 := NB111_108.out
  have hms22_2 := NB111_109.out
  have hms22_3 := NB111_110.out
  refine skip_ (w1 := ?_) (by rfl) rfl ?_ ?_
  rotate_left
  · go_simp
    rfl
  refine hK.out _ _ ⟨((cell_far (p := ⟨gb111, _, none⟩) NB107_111.out _).trans (((cell_far (p := ⟨gb111, _, none⟩) NB107_111.out _).trans (((cell_far (p := ⟨gb111, _, none⟩) NB107_111.out _).trans (((cell_far (p := ⟨gb111, _, none⟩) NB107_111.out _).trans (((cell_far (p := ⟨gb111, _, none⟩) NB107_111.out _).trans (hHeld.1)))))))))), ((cell_far (p := ⟨gb111, _, none⟩) NB107_111.out _).trans (((cell_far (p := ⟨gb111, _, none⟩) NB107_111.out _).trans (((cell_far (p := ⟨gb111, _, none⟩) NB107_111.out _).trans (((cell_far (p := ⟨gb111, _, none⟩) NB107_111.out _).trans (((cell_far (p := ⟨gb111, _, none⟩) NB107_111.out _).trans (hHeld.2.1)))))))))), ((cell_far (p := ⟨gb111, _, none⟩) NB107_111.out _).trans (((cell_far (p := ⟨gb111, _, none⟩) NB107_111.out _).trans (((cell_far (p := ⟨gb111, _, none⟩) NB107_111.out _).trans (((cell_far (p := ⟨gb111, _, none⟩) NB107_111.out _).trans (((cell_far (p := ⟨gb111, _, none⟩) NB107_111.out _).trans (hHeld.2.2.1)))))))))), ((cell_far (p := ⟨gb111, _, none⟩) NB107_111.out _).trans (((cell_far (p := ⟨gb111, _, none⟩) NB107_111.out _).trans (((cell_far (p := ⟨gb111, _, none⟩) NB107_111.out _).trans (((cell_far (p := ⟨gb111, _, none⟩) NB107_111.out _).trans (((cell_far (p := ⟨gb111, _, none⟩) NB107_111.out _).trans (hHeld.2.2.2.1)))))))))), ((cell_far (p := ⟨gb111, _, none⟩) NB107_111.out _).trans (((cell_far (p := ⟨gb111, _, none⟩) NB107_111.out _).trans (((cell_far (p := ⟨gb111, _, none⟩) NB107_111.out _).trans (((cell_far (p := ⟨gb111, _, none⟩) NB107_111.out _).trans (((cell_far (p := ⟨gb111, _, none⟩) NB107_111.out _).trans (hHeld.2.2.2.2.1)))))))))), ((cell_far (p := ⟨gb111, _, none⟩) NB108_111.out _).trans (((cell_far (p := ⟨gb111, _, none⟩) NB108_111.out _).trans (((cell_far (p := ⟨gb111, _, none⟩) NB108_111.out _).trans (((cell_far (p := ⟨gb111, _, none⟩) NB108_111.out _).trans (((cell_far (p := ⟨gb111, _, none⟩) NB108_111.out _).trans (hHeld.2.2.2.2.2.1)))))))))), ((cell_far (p := ⟨gb111, _, none⟩) NB108_111.out _).trans (((cell_far (p := ⟨gb111, _, none⟩) NB108_111.out _).trans (((cell_far (p := ⟨gb111, _, none⟩) NB108_111.out _).trans (((cell_far (p := ⟨gb111, _, none⟩) NB108_111.out _).trans (((cell_far (p := ⟨gb111, _, none⟩) NB108_111.out _).trans (hHeld.2.2.2.2.2.2.1)))))))))), ((cell_far (p := ⟨gb111, _, none⟩) NB108_111.out _).trans (((cell_far (p := ⟨gb111, _, none⟩) NB108_111.out _).trans (((cell_far (p := ⟨gb111, _, none⟩) NB108_111.out _).trans (((cell_far (p := ⟨gb111, _, none⟩) NB108_111.out _).trans (((cell_far (p := ⟨gb111, _, none⟩) NB108_111.out _).trans (hHeld.2.2.2.2.2.2.2.1)))))))))), ((cell_far (p := ⟨gb111, _, none⟩) NB108_111.out _).trans (((cell_far (p := ⟨gb111, _, none⟩) NB108_111.out _).trans (((cell_far (p := ⟨gb111, _, none⟩) NB108_111.out _).trans (((cell_far (p := ⟨gb111, _, none⟩) NB108_111.out _).trans (((cell_far (p := ⟨gb111, _, none⟩) NB108_111.out _).trans (hHeld.2.2.2.2.2.2.2.2.1)))))))))), ((cell_far (p := ⟨gb111, _, none⟩) NB108_111.out _).trans (((cell_far (p := ⟨gb111, _, none⟩) NB108_111.out _).trans (((cell_far (p := ⟨gb111, _, none⟩) NB108_111.out _).trans (((cell_far (p := ⟨gb111, _, none⟩) NB108_111.out _).trans (((cell_far (p := ⟨gb111, _, none⟩) NB108_111.out _).trans (hHeld.2.2.2.2.2.2.2.2.2))))))))))⟩ (fun hHeld => ?_)
  clear hK K
  refine done_ (by kernel_rfl) ?_
  try go_wp2
  have n0_ : Aside0 (((((((((((w12.setCell ⟨gb110, 0, none⟩ (.string a0_0)).setCell ⟨gb110, 1, none⟩ (.string a0_1)).setCell ⟨gb110, 2, none⟩ (.string a0_2)).setCell ⟨gb110, 3, none⟩ (.string a0_3)).setCell ⟨gb110, 4, none⟩ (.bool a0_4)).setCell ⟨gb111, 0, none⟩ (.string a1_0)).setCell ⟨gb111, 1, none⟩ (.string a1_1)).setCell ⟨gb111, 2, none⟩ (.string a1_2)).setCell ⟨gb111, 3, none⟩ (.string a1_3)).setCell ⟨gb111, 4, none⟩ (.bool a1_4)).heap[gb107]? = some (.cells #[.string a0_0, .string a0_1, .string a0_2, .string a0_3, .bool a0_4] 28 (0, 0))) := ⟨by (with_reducible repeat (first | refine blk_drewN ?_ _ | refine blk_drew ?_ | refine blk_alloc ?_ _)); refine blk_far ?_ NB107_111.out _; (with_reducible repeat (first | refine blk_drewN ?_ _ | refine blk_drew ?_ | refine blk_alloc ?_ _)); refine blk_far ?_ NB107_111.out _; (with_reducible repeat (first | refine blk_drewN ?_ _ | refine blk_drew ?_ | refine blk_alloc ?_ _)); refine blk_far ?_ NB107_111.out _; (with_reducible repeat (first | refine blk_drewN ?_ _ | refine blk_drew ?_ | refine blk_alloc ?_ _)); refine blk_far ?_ NB107_111.out _; (with_reducible repeat (first | refine blk_drewN ?_ _ | refine blk_drew ?_ | refine blk_alloc ?_ _)); refine blk_far ?_ NB107_111.out _; (with_reducible repeat (first | refine blk_drewN ?_ _ | refine blk_drew ?_ | refine blk_alloc ?_ _)); refine blk_far ?_ NB107_110.out _; (with_reducible repeat (first | refine blk_drewN ?_ _ | refine blk_drew ?_ | refine blk_alloc ?_ _)); refine blk_far ?_ NB107_110.out _; (with_reducible repeat (first | refine blk_drewN ?_ _ | refine blk_drew ?_ | refine blk_alloc ?_ _)); refine blk_far ?_ NB107_110.out _; (with_reducible repeat (first | refine blk_drewN ?_ _ | refine blk_drew ?_ | refine blk_alloc ?_ _)); refine blk_far ?_ NB107_110.out _; (with_reducible repeat (first | refine blk_drewN ?_ _ | refine blk_drew ?_ | refine blk_alloc ?_ _)); refine blk_far ?_ NB107_110.out _; (with_reducible repeat (first | refine blk_drewN ?_ _ | refine blk_drew ?_ | refine blk_alloc ?_ _)); exact BK107.out⟩
  have n1_ : Aside0 (((((((((((w12.setCell ⟨gb110, 0, none⟩ (.string a0_0)).setCell ⟨gb110, 1, none⟩ (.string a0_1)).setCell ⟨gb110, 2, none⟩ (.string a0_2)).setCell ⟨gb110, 3, none⟩ (.string a0_3)).setCell ⟨gb110, 4, none⟩ (.bool a0_4)).setCell ⟨gb111, 0, none⟩ (.string a1_0)).setCell ⟨gb111, 1, none⟩ (.string a1_1)).setCell ⟨gb111, 2, none⟩ (.string a1_2)).setCell ⟨gb111, 3, none⟩ (.string a1_3)).setCell ⟨gb111, 4, none⟩ (.bool a1_4)).heap[gb108]? = some (.cells #[.string a1_0, .string a1_1, .string a1_2, .string a1_3, .bool a1_4] 28 (0, 0))) := ⟨by (with_reducible repeat (first | refine blk_drewN ?_ _ | refine blk_drew ?_ | refine blk_alloc ?_ _)); refine blk_far ?_ NB108_111.out _; (with_reducible repeat (first | refine blk_drewN ?_ _ | refine blk_drew ?_ | refine blk_alloc ?_ _)); refine blk_far ?_ NB108_111.out _; (with_reducible repeat (first | refine blk_drewN ?_ _ | refine blk_drew ?_ | refine blk_alloc ?_ _)); refine blk_far ?_ NB108_111.out _; (with_reducible repeat (first | refine blk_drewN ?_ _ | refine blk_drew ?_ | refine blk_alloc ?_ _)); refine blk_far ?_ NB108_111.out _; (with_reducible repeat (first | refine blk_drewN ?_ _ | refine blk_drew ?_ | refine blk_alloc ?_ _)); refine blk_far ?_ NB108_111.out _; (with_reducible repeat (first | refine blk_drewN ?_ _ | refine blk_drew ?_ | refine blk_alloc ?_ _)); refine blk_far ?_ NB108_110.out _; (with_reducible repeat (first | refine blk_drewN ?_ _ | refine blk_drew ?_ | refine blk_alloc ?_ _)); refine blk_far ?_ NB108_110.out _; (with_reducible repeat (first | refine blk_drewN ?_ _ | refine blk_drew ?_ | refine blk_alloc ?_ _)); refine blk_far ?_ NB108_110.out _; (with_reducible repeat (first | refine blk_drewN ?_ _ | refine blk_drew ?_ | refine blk_alloc ?_ _)); refine blk_far ?_ NB108_110.out _; (with_reducible repeat (first | refine blk_drewN ?_ _ | refine blk_drew ?_ | refine blk_alloc ?_ _)); refine blk_far ?_ NB108_110.out _; (with_reducible repeat (first | refine blk_drewN ?_ _ | refine blk_drew ?_ | refine blk_alloc ?_ _)); exact BK108.out⟩
  have n2_ : Aside0 (((((((((((w12.setCell ⟨gb110, 0, none⟩ (.string a0_0)).setCell ⟨gb110, 1, none⟩ (.string a0_1)).setCell ⟨gb110, 2, none⟩ (.string a0_2)).setCell ⟨gb110, 3, none⟩ (.string a0_3)).setCell ⟨gb110, 4, none⟩ (.bool a0_4)).setCell ⟨gb111, 0, none⟩ (.string a1_0)).setCell ⟨gb111, 1, none⟩ (.string a1_1)).setCell ⟨gb111, 2, none⟩ (.string a1_2)).setCell ⟨gb111, 3, none⟩ (.string a1_3)).setCell ⟨gb111, 4, none⟩ (.bool a1_4)).heap[gb109]? = some (.cells #[.bool false, .bool false, .bool false] 31 (0, 0))) := ⟨by (with_reducible repeat (first | refine blk_drewN ?_ _ | refine blk_drew ?_ | refine blk_alloc ?_ _)); refine blk_far ?_ NB109_111.out _; (with_reducible repeat (first | refine blk_drewN ?_ _ | refine blk_drew ?_ | refine blk_alloc ?_ _)); refine blk_far ?_ NB109_111.out _; (with_reducible repeat (first | refine blk_drewN ?_ _ | refine blk_drew ?_ | refine blk_alloc ?_ _)); refine blk_far ?_ NB109_111.out _; (with_reducible repeat (first | refine blk_drewN ?_ _ | refine blk_drew ?_ | refine blk_alloc ?_ _)); refine blk_far ?_ NB109_111.out _; (with_reducible repeat (first | refine blk_drewN ?_ _ | refine blk_drew ?_ | refine blk_alloc ?_ _)); refine blk_far ?_ NB109_111.out _; (with_reducible repeat (first | refine blk_drewN ?_ _ | refine blk_drew ?_ | refine blk_alloc ?_ _)); refine blk_far ?_ NB109_110.out _; (with_reducible repeat (first | refine blk_drewN ?_ _ | refine blk_drew ?_ | refine blk_alloc ?_ _)); refine blk_far ?_ NB109_110.out _; (with_reducible repeat (first | refine blk_drewN ?_ _ | refine blk_drew ?_ | refine blk_alloc ?_ _)); refine blk_far ?_ NB109_110.out _; (with_reducible repeat (first | refine blk_drewN ?_ _ | refine blk_drew ?_ | refine blk_alloc ?_ _)); refine blk_far ?_ NB109_110.out _; (with_reducible repeat (first | refine blk_drewN ?_ _ | refine blk_drew ?_ | refine blk_alloc ?_ _)); refine blk_far ?_ NB109_110.out _; (with_reducible repeat (first | refine blk_drewN ?_ _ | refine blk_drew ?_ | refine blk_alloc ?_ _)); exact BK109.out⟩
  have n3_ : Aside0 (((((((((((w12.setCell ⟨gb110, 0, none⟩ (.string a0_0)).setCell ⟨gb110, 1, none⟩ (.string a0_1)).setCell ⟨gb110, 2, none⟩ (.string a0_2)).setCell ⟨gb110, 3, none⟩ (.string a0_3)).setCell ⟨gb110, 4, none⟩ (.bool a0_4)).setCell ⟨gb111, 0, none⟩ (.string a1_0)).setCell ⟨gb111, 1, none⟩ (.string a1_1)).setCell ⟨gb111, 2, none⟩ (.string a1_2)).setCell ⟨gb111, 3, none⟩ (.string a1_3)).setCell ⟨gb111, 4, none⟩ (.bool a1_4)).heap[gb110]? = some (.cells #[.string a0_0, .string a0_1, .string a0_2, .string a0_3, .bool a0_4] 59 (0, 0))) := ⟨by (with_reducible repeat (first | refine blk_drewN ?_ _ | refine blk_drew ?_ | refine blk_alloc ?_ _)); refine blk_far ?_ NB110_111.out _; (with_reducible repeat (first | refine blk_drewN ?_ _ | refine blk_drew ?_ | refine blk_alloc ?_ _)); refine blk_far ?_ NB110_111.out _; (with_reducible repeat (first | refine blk_drewN ?_ _ | refine blk_drew ?_ | refine blk_alloc ?_ _)); refine blk_far ?_ NB110_111.out _; (with_reducible repeat (first | refine blk_drewN ?_ _ | refine blk_drew ?_ | refine blk_alloc ?_ _)); refine blk_far ?_ NB110_111.out _; (with_reducible repeat (first | refine blk_drewN ?_ _ | refine blk_drew ?_ | refine blk_alloc ?_ _)); refine blk_far ?_ NB110_111.out _; (with_reducible repeat (first | refine blk_drewN ?_ _ | refine blk_drew ?_ | refine blk_alloc ?_ _)); refine blk_put (cs := #[.string a0_0, .string a0_1, .string a0_2, .string a0_3, .bool false]) ?_ 4 _ rfl; (with_reducible repeat (first | refine blk_drewN ?_ _ | refine blk_drew ?_ | refine blk_alloc ?_ _)); refine blk_put (cs := #[.string a0_0, .string a0_1, .string a0_2, .string (⟨#[]⟩ : ByteArray), .bool false]) ?_ 3 _ rfl; (with_reducible repeat (first | refine blk_drewN ?_ _ | refine blk_drew ?_ | refine blk_alloc ?_ _)); refine blk_put (cs := #[.string a0_0, .string a0_1, .string (⟨#[]⟩ : ByteArray), .string (⟨#[]⟩ : ByteArray), .bool false]) ?_ 2 _ rfl; (with_reducible repeat (first | refine blk_drewN ?_ _ | refine blk_drew ?_ | refine blk_alloc ?_ _)); refine blk_put (cs := #[.string a0_0, .string (⟨#[]⟩ : ByteArray), .string (⟨#[]⟩ : ByteArray), .string (⟨#[]⟩ : ByteArray), .bool false]) ?_ 1 _ rfl; (with_reducible repeat (first | refine blk_drewN ?_ _ | refine blk_drew ?_ | refine blk_alloc ?_ _)); refine blk_put (cs := #[.string (⟨#[]⟩ : ByteArray), .string (⟨#[]⟩ : ByteArray), .string (⟨#[]⟩ : ByteArray), .string (⟨#[]⟩ : ByteArray), .bool false]) ?_ 0 _ rfl; (with_reducible repeat (first | refine blk_drewN ?_ _ | refine blk_drew ?_ | refine blk_alloc ?_ _)); exact BK110.out⟩
  have n4_ : Aside0 (((((((((((w12.setCell ⟨gb110, 0, none⟩ (.string a0_0)).setCell ⟨gb110, 1, none⟩ (.string a0_1)).setCell ⟨gb110, 2, none⟩ (.string a0_2)).setCell ⟨gb110, 3, none⟩ (.string a0_3)).setCell ⟨gb110, 4, none⟩ (.bool a0_4)).setCell ⟨gb111, 0, none⟩ (.string a1_0)).setCell ⟨gb111, 1, none⟩ (.string a1_1)).setCell ⟨gb111, 2, none⟩ (.string a1_2)).setCell ⟨gb111, 3, none⟩ (.string a1_3)).setCell ⟨gb111, 4, none⟩ (.bool a1_4)).heap[gb111]? = some (.cells #[.string a1_0, .string a1_1, .string a1_2, .string a1_3, .bool a1_4] 59 (0, 0))) := ⟨by (with_reducible repeat (first | refine blk_drewN ?_ _ | refine blk_drew ?_ | refine blk_alloc ?_ _)); refine blk_put (cs := #[.string a1_0, .string a1_1, .string a1_2, .string a1_3, .bool false]) ?_ 4 _ rfl; (with_reducible repeat (first | refine blk_drewN ?_ _ | refine blk_drew ?_ | refine blk_alloc ?_ _)); refine blk_put (cs := #[.string a1_0, .string a1_1, .string a1_2, .string (⟨#[]⟩ : ByteArray), .bool false]) ?_ 3 _ rfl; (with_reducible repeat (first | refine blk_drewN ?_ _ | refine blk_drew ?_ | refine blk_alloc ?_ _)); refine blk_put (cs := #[.string a1_0, .string a1_1, .string (⟨#[]⟩ : ByteArray), .string (⟨#[]⟩ : ByteArray), .bool false]) ?_ 2 _ rfl; (with_reducible repeat (first | refine blk_drewN ?_ _ | refine blk_drew ?_ | refine blk_alloc ?_ _)); refine blk_put (cs := #[.string a1_0, .string (⟨#[]⟩ : ByteArray), .string (⟨#[]⟩ : ByteArray), .string (⟨#[]⟩ : ByteArray), .bool false]) ?_ 1 _ rfl; (with_reducible repeat (first | refine blk_drewN ?_ _ | refine blk_drew ?_ | refine blk_alloc ?_ _)); refine blk_put (cs := #[.string (⟨#[]⟩ : ByteArray), .string (⟨#[]⟩ : ByteArray), .string (⟨#[]⟩ : ByteArray), .string (⟨#[]⟩ : ByteArray), .bool false]) ?_ 0 _ rfl; (with_reducible repeat (first | refine blk_drewN ?_ _ | refine blk_drew ?_ | refine blk_alloc ?_ _)); refine blk_far ?_ NB111_110.out _; (with_reducible repeat (first | refine blk_drewN ?_ _ | refine blk_drew ?_ | refine blk_alloc ?_ _)); refine blk_far ?_ NB111_110.out _; (with_reducible repeat (first | refine blk_drewN ?_ _ | refine blk_drew ?_ | refine blk_alloc ?_ _)); refine blk_far ?_ NB111_110.out _; (with_reducible repeat (first | refine blk_drewN ?_ _ | refine blk_drew ?_ | refine blk_alloc ?_ _)); refine blk_far ?_ NB111_110.out _; (with_reducible repeat (first | refine blk_drewN ?_ _ | refine blk_drew ?_ | refine blk_alloc ?_ _)); refine blk_far ?_ NB111_110.out _; (with_reducible repeat (first | refine blk_drewN ?_ _ | refine blk_drew ?_ | refine blk_alloc ?_ _)); exact BK111.out⟩
  have n5_ : Aside0 (Below w.heap.size w ((((((((((w12.setCell ⟨gb110, 0, none⟩ (.string a0_0)).setCell ⟨gb110, 1, none⟩ (.string a0_1)).setCell ⟨gb110, 2, none⟩ (.string a0_2)).setCell ⟨gb110, 3, none⟩ (.string a0_3)).setCell ⟨gb110, 4, none⟩ (.bool a0_4)).setCell ⟨gb111, 0, none⟩ (.string a1_0)).setCell ⟨gb111, 1, none⟩ (.string a1_1)).setCell ⟨gb111, 2, none⟩ (.string a1_2)).setCell ⟨gb111, 3, none⟩ (.string a1_3)).setCell ⟨gb111, 4, none⟩ (.bool a1_4))) := ⟨by repeat (first | (with_reducible first | exact HB.out | apply below_alloc | apply pw_below_drewN | apply below_drew1 | refine below_set ?_ GE107.out | refine below_set ?_ GE108.out | refine below_set ?_ GE109.out | refine below_set ?_ GE110.out | refine below_set ?_ GE111.out) | exact HB.out)⟩
  (try clear BK107)
  (try clear BK108)
  (try clear BK109)
  (try clear BK110)
  (try clear BK111)
  (try clear HB)
  generalize ((((((((((w12.setCell ⟨gb110, 0, none⟩ (.string a0_0)).setCell ⟨gb110, 1, none⟩ (.string a0_1)).setCell ⟨gb110, 2, none⟩ (.string a0_2)).setCell ⟨gb110, 3, none⟩ (.string a0_3)).setCell ⟨gb110, 4, none⟩ (.bool a0_4)).setCell ⟨gb111, 0, none⟩ (.string a1_0)).setCell ⟨gb111, 1, none⟩ (.string a1_1)).setCell ⟨gb111, 2, none⟩ (.string a1_2)).setCell ⟨gb111, 3, none⟩ (.string a1_3)).setCell ⟨gb111, 4, none⟩ (.bool a1_4)) = w23 at n0_ n1_ n2_ n3_ n4_ n5_ ⊢
  have BK107 := n0_
  have BK108 := n1_
  have BK109 := n2_
  have BK110 := n3_
  have BK111 := n4_
  have HB := n5_
  clear n0_ n1_ n2_ n3_ n4_ n5_
  have n0_ := Aside0.mk (blk_drew BK107.out)
  have n1_ := Aside0.mk (blk_drew BK108.out)
  have n2_ := Aside0.mk (blk_drew BK109.out)
  have n3_ := Aside0.mk (blk_drew BK110.out)
  have n4_ := Aside0.mk (blk_drew BK111.out)
  have n5_ := Aside0.mk (below_drew1 HB.out)
  clear BK107
  clear BK108
  clear BK109
  clear BK110
  clear BK111
  clear HB
  have BK107 := n0_
  have BK108 := n1_
  have BK109 := n2_
  have BK110 := n3_
  have BK111 := n4_
  have HB := n5_
  clear n0_ n1_ n2_ n3_ n4_ n5_
  refine start_ (n := 9) (S := fun w' => w'.cell? ⟨gb110, 0, none⟩ = some (.string a0_0) ∧ w'.cell? ⟨gb110, 1, none⟩ = some (.string a0_1) ∧ w'.cell? ⟨gb110, 2, none⟩ = some (.string a0_2) ∧ w'.cell? ⟨gb110, 3, none⟩ = some (.string a0_3) ∧ w'.cell? ⟨gb110, 4, none⟩ = some (.bool a0_4) ∧ w'.cell? ⟨gb111, 0, none⟩ = some (.string a1_0) ∧ w'.cell? ⟨gb111, 1, none⟩ = some (.string a1_1) ∧ w'.cell? ⟨gb111, 2, none⟩ = some (.string a1_2) ∧ w'.cell? ⟨gb111, 3, none⟩ = some (.string a1_3) ∧ w'.cell? ⟨gb111, 4, none⟩ = some (.bool a1_4)) (ds := []) #[false, false, false, false, false, false, false, false, false] (by kernel_rfl) rfl rfl ⟨(blk_cell BK110.out 0).trans rfl, (blk_cell BK110.out 1).trans rfl, (blk_cell BK110.out 2).trans rfl, (blk_cell BK110.out 3).trans rfl, (blk_cell BK110.out 4).trans rfl, (blk_cell BK111.out 0).trans rfl, (blk_cell BK111.out 1).trans rfl, (blk_cell BK111.out 2).trans rfl, (blk_cell BK111.out 3).trans rfl, (blk_cell BK111.out 4).trans rfl⟩ (fun hHeld => ?_); refine with_tabW impl_TwPaddings.tab2 impl_TwPaddings.bits2 (fun HT_ HW_ => ?_)
  generalize w23.drew = w24 at BK107 BK108 BK109 BK110 BK111 HB hHeld ⊢
  refine take_ (i := 0) (N := some 9) (v := ?_) (a' := ?_) #[true, false, false, false, false, false, false, false, false] rfl rfl (take_ofW HT_.out HW_.out (by kernel_rfl)) (fun _ _ _ h => h) (Or.inl ⟨by rfl, ?_⟩) hHeld ?_ ?_
  rotate_left
  · rintro w' ⟨s0, s1, s2, s3, s4, s5, s6, s7, s8, s9⟩
    go_simp
    with_reducible rfl
  rotate_left
  · simp only [Act.put, List.setIfInBounds_toArray, List.set_cons_zero, List.set_cons_succ, i64_w, i32_w]
    rfl
  refine take_ (i := 2) (N := some 11) (v := ?_) (a' := ?_) #[true, false, true, false, false, false, false, false, false] rfl rfl (take_ofW HT_.out HW_.out (by kernel_rfl)) (fun _ _ _ h => h) (Or.inl ⟨by rfl, ?_⟩) hHeld ?_ ?_
  rotate_left
  · rintro w' ⟨s0, s1, s2, s3, s4, s5, s6, s7, s8, s9⟩
    go_simp
    with_reducible rfl
  rotate_left
  · simp only [Act.put, List.setIfInBounds_toArray, List.set_cons_zero, List.set_cons_succ, i64_w, i32_w]
    rfl
  refine take_ (i := 4) (N := some 13) (v := ?_) (a' := ?_) #[true, false, true, false, true, false, false, false, false] rfl rfl (take_ofW HT_.out HW_.out (by kernel_rfl)) (fun _ _ _ h => h) (Or.inl ⟨by rfl, ?_⟩) hHeld ?_ ?_
  rotate_left
  · rintro w' ⟨s0, s1, s2, s3, s4, s5, s6, s7, s8, s9⟩
    go_simp
    with_reducible rfl
  rotate_left
  · simp only [Act.put, List.setIfInBounds_toArray, List.set_cons_zero, List.set_cons_succ, i64_w, i32_w]
    rfl
  refine take_ (i := 5) (N := some 14) (v := ?_) (a' := ?_) #[true, false, true, false, true, true, false, false, false] rfl rfl (take_ofW HT_.out HW_.out (by kernel_rfl)) (fun _ _ _ h => h) (Or.inl ⟨by rfl, ?_⟩) hHeld ?_ ?_
  rotate_left
  · rintro w' ⟨s0, s1, s2, s3, s4, s5, s6, s7, s8, s9⟩
    go_simp
    with_reducible rfl
  rotate_left
  · simp only [Act.put, List.setIfInBounds_toArray, List.set_cons_zero, List.set_cons_succ, i64_w, i32_w]
    rfl
  refine one_ (i := 1) (N := some 10) #[true, true, true, false, true, true, false, false, false] rfl rfl (one_of HT_.out (by kernel_rfl)) (by decide) (fun K hK => ?_)
  refine goes_ Try.func38 (by kernel_rfl) rfl #[.agg #[.string a0_0, .string a0_1, .string a0_2, .string a0_3, .bool a0_4]] (by rfl) rfl rfl (by (try simp only [List.map_toArray, List.map_cons, List.map_nil]); first | done | rfl | (simp only [List.length_drop, List.length_take]; rfl)) ?_
  with_reducible refine (tw_Padding_Empty.calls a0_0 a0_1 a0_2 a0_3 a0_4 t112 _ A3.out).mono ?_
  rintro e w25 ⟨rfl, hb⟩
  refine ⟨_, rfl, ?_⟩
  have n0_ := Aside0.mk (blk_below (g := gb107) (o := .cells #[.string a0_0, .string a0_1, .string a0_2, .string a0_3, .bool a0_4] 28 (0, 0)) (by (with_reducible repeat (first | refine blk_drewN ?_ _ | refine blk_drew ?_ | refine blk_alloc ?_ _)); exact BK107.out) hb)
  have n1_ := Aside0.mk (blk_below (g := gb108) (o := .cells #[.string a1_0, .string a1_1, .string a1_2, .string a1_3, .bool a1_4] 28 (0, 0)) (by (with_reducible repeat (first | refine blk_drewN ?_ _ | refine blk_drew ?_ | refine blk_alloc ?_ _)); exact BK108.out) hb)
  have n2_ := Aside0.mk (blk_below (g := gb109) (o := .cells #[.bool false, .bool false, .bool false] 31 (0, 0)) (by (with_reducible repeat (first | refine blk_drewN ?_ _ | refine blk_drew ?_ | refine blk_alloc ?_ _)); exact BK109.out) hb)
  have n3_ := Aside0.mk (blk_below (g := gb110) (o := .cells #[.string a0_0, .string a0_1, .string a0_2, .string a0_3, .bool a0_4] 59 (0, 0)) (by (with_reducible repeat (first | refine blk_drewN ?_ _ | refine blk_drew ?_ | refine blk_alloc ?_ _)); exact BK110.out) hb)
  have n4_ := Aside0.mk (blk_below (g := gb111) (o := .cells #[.string a1_0, .string a1_1, .string a1_2, .string a1_3, .bool a1_4] 59 (0, 0)) (by (with_reducible repeat (first | refine blk_drewN ?_ _ | refine blk_drew ?_ | refine blk_alloc ?_ _)); exact BK111.out) hb)
  have n5_ := Aside0.mk (below_step (by repeat (first | (with_reducible first | exact HB.out | apply below_alloc | apply pw_below_drewN | apply below_drew1 | refine below_set ?_ GE107.out | refine below_set ?_ GE108.out | refine below_set ?_ GE109.out | refine below_set ?_ GE110.out | refine below_set ?_ GE111.out) | exact HB.out)) hb)
  clear BK107
  clear BK108
  clear BK109
  clear BK110
  clear BK111
  clear HB
  have BK107 := n0_
  have BK108 := n1_
  have BK109 := n2_
  have BK110 := n3_
  have BK111 := n4_
  have HB := n5_
  clear n0_ n1_ n2_ n3_ n4_ n5_
  (try clear hb)
  (try clear hb2)
  (try clear hk)
  (try clear hi)
  refine hK.out _ _ ⟨(blk_cell BK110.out 0).trans rfl, (blk_cell BK110.out 1).trans rfl, (blk_cell BK110.out 2).trans rfl, (blk_cell BK110.out 3).trans rfl, (blk_cell BK110.out 4).trans rfl, (blk_cell BK111.out 0).trans rfl, (blk_cell BK111.out 1).trans rfl, (blk_cell BK111.out 2).trans rfl, (blk_cell BK111.out 3).trans rfl, (blk_cell BK111.out 4).trans rfl⟩ (fun hHeld => ?_)
  clear hK K
  refine norm_ (a' := ?_) ?_ ?_
  rotate_left
  · show Act.put _ (some 10) _ = _
    simp only [Act.put, List.setIfInBounds_toArray, List.set_cons_zero, List.set_cons_succ, i64_w, i32_w]
    rfl
  refine one_ (i := 3) (N := some 12) #[true, true, true, true, true, true, false, false, false] rfl rfl (one_of HT_.out (by kernel_rfl)) (by decide) (fun K hK => ?_)
  refine goes_ Try.func39 (by kernel_rfl) rfl #[.agg #[.string a0_0, .string a0_1, .string a0_2, .string a0_3, .bool a0_4]] (by rfl) rfl rfl (by (try simp only [List.map_toArray, List.map_cons, List.map_nil]); first | done | rfl | (simp only [List.length_drop, List.length_take]; rfl)) ?_
  with_reducible refine (tw_Padding_Paddable.calls a0_0 a0_1 a0_2 a0_3 a0_4 t113 _ A4.out).mono ?_
  rintro e w26 ⟨rfl, hb⟩
  refine ⟨_, rfl, ?_⟩
  have n0_ := Aside0.mk (blk_below (g := gb107) (o := .cells #[.string a0_0, .string a0_1, .string a0_2, .string a0_3, .bool a0_4] 28 (0, 0)) (by (with_reducible repeat (first | refine blk_drewN ?_ _ | refine blk_drew ?_ | refine blk_alloc ?_ _)); exact BK107.out) hb)
  have n1_ := Aside0.mk (blk_below (g := gb108) (o := .cells #[.string a1_0, .string a1_1, .string a1_2, .string a1_3, .bool a1_4] 28 (0, 0)) (by (with_reducible repeat (first | refine blk_drewN ?_ _ | refine blk_drew ?_ | refine blk_alloc ?_ _)); exact BK108.out) hb)
  have n2_ := Aside0.mk (blk_below (g := gb109) (o := .cells #[.bool false, .bool false, .bool false] 31 (0, 0)) (by (with_reducible repeat (first | refine blk_drewN ?_ _ | refine blk_drew ?_ | refine blk_alloc ?_ _)); exact BK109.out) hb)
  have n3_ := Aside0.mk (blk_below (g := gb110) (o := .cells #[.string a0_0, .string a0_1, .string a0_2, .string a0_3, .bool a0_4] 59 (0, 0)) (by (with_reducible repeat (first | refine blk_drewN ?_ _ | refine blk_drew ?_ | refine blk_alloc ?_ _)); exact BK110.out) hb)
  have n4_ := Aside0.mk (blk_below (g := gb111) (o := .cells #[.string a1_0, .string a1_1, .string a1_2, .string a1_3, .bool a1_4] 59 (0, 0)) (by (with_reducible repeat (first | refine blk_drewN ?_ _ | refine blk_drew ?_ | refine blk_alloc ?_ _)); exact BK111.out) hb)
  have n5_ := Aside0.mk (below_step (by repeat (first | (with_reducible first | exact HB.out | apply below_alloc | apply pw_below_drewN | apply below_drew1 | refine below_set ?_ GE107.out | refine below_set ?_ GE108.out | refine below_set ?_ GE109.out | refine below_set ?_ GE110.out | refine below_set ?_ GE111.out) | exact HB.out)) hb)
  clear BK107
  clear BK108
  clear BK109
  clear BK110
  clear BK111
  clear HB
  have BK107 := n0_
  have BK108 := n1_
  have BK109 := n2_
  have BK110 := n3_
  have BK111 := n4_
  have HB := n5_
  clear n0_ n1_ n2_ n3_ n4_ n5_
  (try clear hb)
  (try clear hb2)
  (try clear hk)
  (try clear hi)
  refine hK.out _ _ ⟨(blk_cell BK110.out 0).trans rfl, (blk_cell BK110.out 1).trans rfl, (blk_cell BK110.out 2).trans rfl, (blk_cell BK110.out 3).trans rfl, (blk_cell BK110.out 4).trans rfl, (blk_cell BK111.out 0).trans rfl, (blk_cell BK111.out 1).trans rfl, (blk_cell BK111.out 2).trans rfl, (blk_cell BK111.out 3).trans rfl, (blk_cell BK111.out 4).trans rfl⟩ (fun hHeld => ?_)
  clear hK K
  refine norm_ (a' := ?_) ?_ ?_
  rotate_left
  · show Act.put _ (some 12) _ = _
    simp only [Act.put, List.setIfInBounds_toArray, List.set_cons_zero, List.set_cons_succ, i64_w, i32_w]
    rfl
  refine one_ (i := 6) (N := some 15) #[true, true, true, true, true, true, true, false, false] rfl rfl (one_of HT_.out (by kernel_rfl)) (by decide) (fun K hK => ?_)
  refine goes_ Try.func40 (by kernel_rfl) rfl #[.agg #[.string a0_0, .string a0_1, .string a0_2, .string a0_3, .bool a0_4], .agg #[.string a1_0, .string a1_1, .string a1_2, .string a1_3, .bool a1_4]] (by rfl) rfl rfl (by (try simp only [List.map_toArray, List.map_cons, List.map_nil]); first | done | rfl | (simp only [List.length_drop, List.length_take]; rfl)) ?_
  with_reducible refine (tw_Padding_Equals.calls a0_0 a0_1 a0_2 a0_3 a0_4 a1_0 a1_1 a1_2 a1_3 a1_4 t114 _ A5.out).mono ?_
  rintro e w27 ⟨rfl, hb⟩
  refine ⟨_, rfl, ?_⟩
  have n0_ := Aside0.mk (blk_below (g := gb107) (o := .cells #[.string a0_0, .string a0_1, .string a0_2, .string a0_3, .bool a0_4] 28 (0, 0)) (by (with_reducible repeat (first | refine blk_drewN ?_ _ | refine blk_drew ?_ | refine blk_alloc ?_ _)); exact BK107.out) hb)
  have n1_ := Aside0.mk (blk_below (g := gb108) (o := .cells #[.string a1_0, .string a1_1, .string a1_2, .string a1_3, .bool a1_4] 28 (0, 0)) (by (with_reducible repeat (first | refine blk_drewN ?_ _ | refine blk_drew ?_ | refine blk_alloc ?_ _)); exact BK108.out) hb)
  have n2_ := Aside0.mk (blk_below (g := gb109) (o := .cells #[.bool false, .bool false, .bool false] 31 (0, 0)) (by (with_reducible repeat (first | refine blk_drewN ?_ _ | refine blk_drew ?_ | refine blk_alloc ?_ _)); exact BK109.out) hb)
  have n3_ := Aside0.mk (blk_below (g := gb110) (o := .cells #[.string a0_0, .string a0_1, .string a0_2, .string a0_3, .bool a0_4] 59 (0, 0)) (by (with_reducible repeat (first | refine blk_drewN ?_ _ | refine blk_drew ?_ | refine blk_alloc ?_ _)); exact BK110.out) hb)
  have n4_ := Aside0.mk (blk_below (g := gb111) (o := .cells #[.string a1_0, .string a1_1, .string a1_2, .string a1_3, .bool a1_4] 59 (0, 0)) (by (with_reducible repeat (first | refine blk_drewN ?_ _ | refine blk_drew ?_ | refine blk_alloc ?_ _)); exact BK111.out) hb)
  have n5_ := Aside0.mk (below_step (by repeat (first | (with_reducible first | exact HB.out | apply below_alloc | apply pw_below_drewN | apply below_drew1 | refine below_set ?_ GE107.out | refine below_set ?_ GE108.out | refine below_set ?_ GE109.out | refine below_set ?_ GE110.out | refine below_set ?_ GE111.out) | exact HB.out)) hb)
  clear BK107
  clear BK108
  clear BK109
  clear BK110
  clear BK111
  clear HB
  have BK107 := n0_
  have BK108 := n1_
  have BK109 := n2_
  have BK110 := n3_
  have BK111 := n4_
  have HB := n5_
  clear n0_ n1_ n2_ n3_ n4_ n5_
  (try clear hb)
  (try clear hb2)
  (try clear hk)
  (try clear hi)
  refine hK.out _ _ ⟨(blk_cell BK110.out 0).trans rfl, (blk_cell BK110.out 1).trans rfl, (blk_cell BK110.out 2).trans rfl, (blk_cell BK110.out 3).trans rfl, (blk_cell BK110.out 4).trans rfl, (blk_cell BK111.out 0).trans rfl, (blk_cell BK111.out 1).trans rfl, (blk_cell BK111.out 2).trans rfl, (blk_cell BK111.out 3).trans rfl, (blk_cell BK111.out 4).trans rfl⟩ (fun hHeld => ?_)
  clear hK K
  refine norm_ (a' := ?_) ?_ ?_
  rotate_left
  · show Act.put _ (some 15) _ = _
    simp only [Act.put, List.setIfInBounds_toArray, List.set_cons_zero, List.set_cons_succ, i64_w, i32_w]
    rfl
  refine pure_ (i := 7) (N := some 16) (v := ?_) (a' := ?_) #[true, true, true, true, true, true, true, true, false] rfl rfl (any_of HT_.out (by kernel_rfl)) (fun _ _ _ h => h) (Or.inl ⟨by rfl, ?_⟩) ?_ ?_
  rotate_left
  · intro w'
    go_simp
    with_reducible rfl
  rotate_left
  · simp only [Act.put, List.setIfInBounds_toArray, List.set_cons_zero, List.set_cons_succ, i64_w, i32_w]
    rfl
  refine one_ (i := 8) (N := none) #[true, true, true, true, true, true, true, true, true] rfl rfl (one_of HT_.out (by kernel_rfl)) (by decide) (fun K hK => ?_)
  have hs28 : w27.cell? ⟨gb109, 0, none⟩ = some (.bool false) := (blk_cell BK109.out 0).trans rfl
  have hfs28 := blk_frozen BK109.out 0
  have hns28_0 := NB107_109.out
  have hns28_1 := NB108_109.out
  have hns28_3 := NB110_109.out
  have hns28_4 := NB111_109.out
  have hms28_0 := NB109_107.out
  have hms28_1 := NB109_108.out
  have hms28_3 := NB109_110.out
  have hms28_4 := NB109_111.out
  have hs29 : w27.cell? ⟨gb109, 1, none⟩ = some (.bool false) := (blk_cell BK109.out 1).trans rfl
  have hfs29 := blk_frozen BK109.out 1
  have hns29_0 := NB107_109.out
  have hns29_1 := NB108_109.out
  have hns29_3 := NB110_109.out
  have hns29_4 := NB111_109.out
  have hms29_0 := NB109_107.out
  have hms29_1 := NB109_108.out
  have hms29_3 := NB109_110.out
  have hms29_4 := NB109_111.out
  have hs30 : w27.cell? ⟨gb109, 2, none⟩ = some (.bool false) := (blk_cell BK109.out 2).trans rfl
  have hfs30 := blk_frozen BK109.out 2
  have hns30_0 := NB107_109.out
  have hns30_1 := NB108_109.out
  have hns30_3 := NB110_109.out
  have hns30_4 := NB111_109.out
  have hms30_0 := NB109_107.out
  have hms30_1 := NB109_108.out
  have hms30_3 := NB109_110.out
  have hms30_4 := NB109_111.out
  refine skip_ (w1 := ?_) (by rfl) rfl ?_ ?_
  rotate_left
  · go_simp
    rfl
  refine hK.out _ _ ⟨((cell_far (p := ⟨gb109, _, none⟩) NB110_109.out _).trans (((cell_far (p := ⟨gb109, _, none⟩) NB110_109.out _).trans (((cell_far (p := ⟨gb109, _, none⟩) NB110_109.out _).trans (hHeld.1)))))), ((cell_far (p := ⟨gb109, _, none⟩) NB110_109.out _).trans (((cell_far (p := ⟨gb109, _, none⟩) NB110_109.out _).trans (((cell_far (p := ⟨gb109, _, none⟩) NB110_109.out _).trans (hHeld.2.1)))))), ((cell_far (p := ⟨gb109, _, none⟩) NB110_109.out _).trans (((cell_far (p := ⟨gb109, _, none⟩) NB110_109.out _).trans (((cell_far (p := ⟨gb109, _, none⟩) NB110_109.out _).trans (hHeld.2.2.1)))))), ((cell_far (p := ⟨gb109, _, none⟩) NB110_109.out _).trans (((cell_far (p := ⟨gb109, _, none⟩) NB110_109.out _).trans (((cell_far (p := ⟨gb109, _, none⟩) NB110_109.out _).trans (hHeld.2.2.2.1)))))), ((cell_far (p := ⟨gb109, _, none⟩) NB110_109.out _).trans (((cell_far (p := ⟨gb109, _, none⟩) NB110_109.out _).trans (((cell_far (p := ⟨gb109, _, none⟩) NB110_109.out _).trans (hHeld.2.2.2.2.1)))))), ((cell_far (p := ⟨gb109, _, none⟩) NB111_109.out _).trans (((cell_far (p := ⟨gb109, _, none⟩) NB111_109.out _).trans (((cell_far (p := ⟨gb109, _, none⟩) NB111_109.out _).trans (hHeld.2.2.2.2.2.1)))))), ((cell_far (p := ⟨gb109, _, none⟩) NB111_109.out _).trans (((cell_far (p := ⟨gb109, _, none⟩) NB111_109.out _).trans (((cell_far (p := ⟨gb109, _, none⟩) NB111_109.out _).trans (hHeld.2.2.2.2.2.2.1)))))), ((cell_far (p := ⟨gb109, _, none⟩) NB111_109.out _).trans (((cell_far (p := ⟨gb109, _, none⟩) NB111_109.out _).trans (((cell_far (p := ⟨gb109, _, none⟩) NB111_109.out _).trans (hHeld.2.2.2.2.2.2.2.1)))))), ((cell_far (p := ⟨gb109, _, none⟩) NB111_109.out _).trans (((cell_far (p := ⟨gb109, _, none⟩) NB111_109.out _).trans (((cell_far (p := ⟨gb109, _, none⟩) NB111_109.out _).trans (hHeld.2.2.2.2.2.2.2.2.1)))))), ((cell_far (p := ⟨gb109, _, none⟩) NB111_109.out _).trans (((cell_far (p := ⟨gb109, _, none⟩) NB111_109.out _).trans (((cell_far (p := ⟨gb109, _, none⟩) NB111_109.out _).trans (hHeld.2.2.2.2.2.2.2.2.2))))))⟩ (fun hHeld => ?_)
  clear hK K
  refine done_ (done_of HT_.out (by kernel_rfl)) ?_
  try go_wp2
  refine bodyPost_ret (results_cell_row rfl _ _ gb109 31 #[.bool t112, .bool t113, .bool t114] (0, 0) _ rfl (by (with_reducible repeat (first | refine blk_drewN ?_ _ | refine blk_drew ?_ | refine blk_alloc ?_ _)); refine blk_put (cs := #[.bool t112, .bool t113, .bool false]) ?_ 2 _ rfl; (with_reducible repeat (first | refine blk_drewN ?_ _ | refine blk_drew ?_ | refine blk_alloc ?_ _)); refine blk_put (cs := #[.bool t112, .bool false, .bool false]) ?_ 1 _ rfl; (with_reducible repeat (first | refine blk_drewN ?_ _ | refine blk_drew ?_ | refine blk_alloc ?_ _)); refine blk_put (cs := #[.bool false, .bool false, .bool false]) ?_ 0 _ rfl; (with_reducible repeat (first | refine blk_drewN ?_ _ | refine blk_drew ?_ | refine blk_alloc ?_ _)); exact BK109.out) Try.underlying31 rfl (by kernel_rfl)) rfl ?_
  exact ⟨by first | rfl | (simp [errW_none, errW_some] <;> rfl) | (simp [*, errW_none, errW_some] <;> rfl), by repeat (first | (with_reducible first | exact HB.out | apply below_alloc | apply pw_below_drewN | apply below_drew1 | refine below_set ?_ GE107.out | refine below_set ?_ GE108.out | refine below_set ?_ GE109.out | refine below_set ?_ GE110.out | refine below_set ?_ GE111.out) | exact HB.out)⟩

-- NOT PRINTED: function 6 (laws_FnPadding)

end Go.Proofs.Ytlppbalnjogkoaa.PFnPadding
