/- The reference's cache: Step, the kinds 5 to 8, and whatever kind; a cache made. At most 100000 entries, each key once. -/
import Derived.Test.YtnggdeggcflodaaLr12
namespace Go.Proofs.Ytnggdeggcflodaa
open Go.RowKit Go.MapKept
set_option linter.unusedVariables false
attribute [local go_sem] run_store_float
theorem wpList_quo {w : World} {ops : Array Oper} {rest : List Oper} {a : Act} {Q : Exit → Act → World → Prop} {dst : Option Tmp} {s x : Operand} {t2 ty : TypeId} {ps : String} {af : Array Edge} {n1 n2 : Nat} (hs : a.eval s = .float .f64 n1) (hx : a.eval x = .float .f64 n2)
    (hK : ∀ r q, wpList Try.prog ops Q rest (a.put dst (.float .f64 r)) (w.drewN q)) : wpList Try.prog ops Q (⟨dst, .binOp .quo 27 s x t2, ty, ps, af, none⟩ :: rest) a w := by
  refine wpList_plain rfl fun K hK' => ?_
  obtain ⟨r, q, hq⟩ := run_quo n1 n2 w
  unfold Oper.wp execOp
  simp only [hs, hx, eqGuard_at_float, Sem.run_bind, hq, Result.andThen_ok, Sem.run_pure]
  exact hK' _ _ (hK r q)
set_option maxHeartbeats 4000000 in
set_option maxRecDepth 100000 in
theorem step_6 (B cb n : Nat) (E : List (Int × Int)) (k v : Int) (w : World) (h : Spc w B cb n E) :
    Calls Try.prog 6 #[.pointer (some ⟨cb, 0, none⟩), .agg #[.int .i64 6, .int .i64 k, .int .i64 v]] w (StepRet B cb n (stepE n 6 k v E) w) := by
  have HB := Lib.hid h.lt
  have HI := Lib.hid (ins_start h 6 k v)
  clear h
  go_enter Try.func6, Try.ntmps6
  obtain ⟨v0, h1, h2, hR, hK, hn1, hn2, hn3⟩ := HI.out.spc
  obtain ⟨A, cap, rfl, hc1, hc2, _⟩ := hR.form
  have f1 : ((w.alloc (.cells #[.int .i64 6, .int .i64 k, .int .i64 v] tX)).alloc (.cells outZ tO)).cell? ⟨cb, 1, none⟩ = some (.slice A E.length cap) := hR.blk.cell 1 rfl
  clear hR hK
  go_wp2_with ((with_reducible refine gate_st (t := 30) rfl ?_); refine halt_L ?_)
  refine resume_L ?_
  generalize hW : World.alloc (World.alloc _ _) _ = W at HI ⊢
  clear hW
  refine wpList_putrow HI.out.o (ds := #[.bool false, .int .i64 0, .int .i64 E.length, .float .f64 0, .bool false, .slice none 0 0]) rfl rfl rfl (by simp [Value.oneCell']) infoO ?_
  intro wz hbz pz
  obtain ⟨rz, sz⟩ := HI.out.fin pz HB.out
  clear f1
  go_wp2
  refine bodyPost_ret (v := .agg #[.bool false, .int .i64 0, .int .i64 E.length, .float .f64 0, .bool false, .slice none 0 0]) ?_ rfl ⟨⟨_, rfl⟩, (by simpa [stepE] using rz), sz⟩
  exact results_cell_row rfl _ _ _ tO _ (0, 0) _ rfl hbz Try.underlying30 rfl (by kernel_rfl)
set_option maxHeartbeats 4000000 in
set_option maxRecDepth 100000 in
theorem step_7 (B cb n : Nat) (E : List (Int × Int)) (k v : Int) (w : World) (h : Spc w B cb n E) :
    Calls Try.prog 6 #[.pointer (some ⟨cb, 0, none⟩), .agg #[.int .i64 7, .int .i64 k, .int .i64 v]] w (StepRet B cb n (stepE n 7 k v E) w) := by
  have HB := Lib.hid h.lt
  have HI := Lib.hid (ins_start h 7 k v)
  clear h
  go_enter Try.func6, Try.ntmps6
  obtain ⟨v0, h1, h2, hR, hK, hn1, hn2, hn3⟩ := HI.out.spc
  obtain ⟨A, cap, rfl, hc1, hc2, _⟩ := hR.form
  have f1 : ((w.alloc (.cells #[.int .i64 7, .int .i64 k, .int .i64 v] tX)).alloc (.cells outZ tO)).cell? ⟨cb, 0, none⟩ = some (.int .i64 n) := hR.blk.cell 0 rfl
  clear hR hK
  go_wp2_with ((with_reducible refine gate_st (t := 30) rfl ?_); refine halt_L ?_)
  refine resume_L ?_
  generalize hW : World.alloc (World.alloc _ _) _ = W at HI ⊢
  clear hW
  refine wpList_putrow HI.out.o (ds := #[.bool false, .int .i64 0, .int .i64 n, .float .f64 0, .bool false, .slice none 0 0]) rfl rfl rfl (by simp [Value.oneCell']) infoO ?_
  intro wz hbz pz
  obtain ⟨rz, sz⟩ := HI.out.fin pz HB.out
  clear f1
  go_wp2
  refine bodyPost_ret (v := .agg #[.bool false, .int .i64 0, .int .i64 n, .float .f64 0, .bool false, .slice none 0 0]) ?_ rfl ⟨⟨_, rfl⟩, (by simpa [stepE] using rz), sz⟩
  exact results_cell_row rfl _ _ _ tO _ (0, 0) _ rfl hbz Try.underlying30 rfl (by kernel_rfl)
set_option maxHeartbeats 4000000 in
set_option maxRecDepth 100000 in
theorem step_5 (B cb n : Nat) (E : List (Int × Int)) (k v : Int) (w : World) (h : Spc w B cb n E) :
    Calls Try.prog 6 #[.pointer (some ⟨cb, 0, none⟩), .agg #[.int .i64 5, .int .i64 k, .int .i64 v]] w (StepRet B cb n (stepE n 5 k v E) w) := by
  have HB := Lib.hid h.lt
  have HI := Lib.hid (ins_start h 5 k v)
  clear h
  go_enter Try.func6, Try.ntmps6
  obtain ⟨v0, h1, h2, hR, hK, hn1, hn2, hn3⟩ := HI.out.spc
  obtain ⟨A, cap, rfl, hc1, hc2, _⟩ := hR.form
  have f1 : ((w.alloc (.cells #[.int .i64 5, .int .i64 k, .int .i64 v] tX)).alloc (.cells outZ tO)).cell? ⟨cb, 1, none⟩ = some (.slice A E.length cap) := hR.blk.cell 1 rfl
  have f0 : ((w.alloc (.cells #[.int .i64 5, .int .i64 k, .int .i64 v] tX)).alloc (.cells outZ tO)).cell? ⟨cb, 0, none⟩ = some (.int .i64 n) := hR.blk.cell 0 rfl
  have HR := Lib.hid hR
  clear hR hK
  have hWs : ((w.alloc (.cells #[.int .i64 5, .int .i64 k, .int .i64 v] tX)).alloc (.cells outZ tO)).heap.size = w.heap.size + 1 + 1 := by simp
  go_wp2_with ((with_reducible refine gate_st (t := 30) rfl ?_); refine halt_L ?_)
  refine resume_L ?_
  generalize hW : World.alloc (World.alloc _ _) _ = W at HI HR f0 f1 hWs ⊢
  clear hW
  have hNew : Blk (W.alloc (.cells outZ tO)) (w.heap.size + 1 + 1) tO outZ := hWs ▸ Blk.new W tO outZ
  have HI2 := Lib.hid (HI.out.next (HI.out.spc.alloc (.cells outZ tO)) ((Sx.refl B W).alloc HI.out.spc.lt _))
  have HR2 := Lib.hid (HR.out.alloc (.cells outZ tO))
  refine wpList_putrow hNew (ds := #[.bool false, .int .i64 0, .int .i64 0, .float .f64 0, .bool false, .slice A E.length cap]) rfl rfl rfl (by simp [Value.oneCell']) infoO ?_
  intro w3 hb3 p3
  have hN := HI2.out.next (HI2.out.spc.put_o p3 hNew (by decide) (by decide))
  have HR3 := Lib.hid (HR2.out.put_o p3 hNew (by decide) (by decide))
  have HX3 := Lib.hid (p3.blk HI2.out.x (by have := HI.out.x.lt; omega))
  have HO3 := Lib.hid (p3.blk HI2.out.o (by have := HI.out.o.lt; omega))
  have HS3 := Lib.hid (HI2.out.sx.putnew p3 (by have := HI2.out.spc.lt; exact this) HB.out (by have := HI.out.x.lt; omega))
  have g0 : w3.cell? ⟨cb, 0, none⟩ = some (.int .i64 n) := HR3.out.blk.cell 0 rfl
  have HW := Lib.hid (show w.heap.size + 1 < W.heap.size from HI.out.o.lt)
  have HB3 := Lib.hid hb3
  clear f0 f1 hN hb3 p3 hNew hWs
  go_wp2_with ((with_reducible refine gate_st (t := 38) rfl ?_); refine halt_L ?_)
  refine resume_L ?_
  refine wpList_putrow HR3.out.blk (ds := #[.int .i64 n, .slice none 0 0, .int .i64 0, .int .i64 0]) rfl rfl rfl (by simp [Value.oneCell']) infoS ?_
  intro w4 hb4 p4
  have HR4 : SpcR w4 B cb n 0 0 (.slice none 0 0) [] := ⟨hb4, World.ownsRow_nil _ _ _ _, HR3.out.Bc⟩
  have HI4 := Lib.hid (show Ins w w4 B cb n [] 5 k v from ⟨⟨_, _, _, HR4, List.nodup_nil, Nat.zero_le _, hn2, hn3⟩, p4.blk HX3.out (HX3.out.type_ne HR3.out.blk (by decide)), p4.blk HO3.out (HO3.out.type_ne HR3.out.blk (by decide)), HS3.out.put p4 HR3.out.lt HR3.out.Bc HR3.out.blk⟩)
  have hb5 := p4.blk HB3.out (HB3.out.type_ne HR3.out.blk (by decide))
  have c0 : w4.cell? ⟨w.heap.size + 1 + 1, 0, none⟩ = some (.bool false) := hb5.cell 0 rfl
  have c1 : w4.cell? ⟨w.heap.size + 1 + 1, 1, none⟩ = some (.int .i64 0) := hb5.cell 1 rfl
  have c2 : w4.cell? ⟨w.heap.size + 1 + 1, 2, none⟩ = some (.int .i64 0) := hb5.cell 2 rfl
  have c3 : w4.cell? ⟨w.heap.size + 1 + 1, 3, none⟩ = some (.float .f64 0) := hb5.cell 3 rfl
  have c4 : w4.cell? ⟨w.heap.size + 1 + 1, 4, none⟩ = some (.bool false) := hb5.cell 4 rfl
  have c5 : w4.cell? ⟨w.heap.size + 1 + 1, 5, none⟩ = some (.slice A E.length cap) := hb5.cell 5 rfl
  clear hb4 p4 hb5 g0 HR4
  go_wp2_with ((with_reducible refine gate_st (t := 30) rfl ?_); refine halt_L ?_)
  refine resume_L ?_
  refine wpList_putrow HI4.out.o (ds := #[.bool false, .int .i64 0, .int .i64 0, .float .f64 0, .bool false, .slice A E.length cap]) rfl rfl rfl (by simp [Value.oneCell']) infoO ?_
  intro wz hbz pz
  obtain ⟨rz, sz⟩ := HI4.out.fin pz HB.out
  clear c0 c1 c2 c3 c4 c5
  go_wp2
  refine bodyPost_ret (v := .agg #[.bool false, .int .i64 0, .int .i64 0, .float .f64 0, .bool false, .slice A E.length cap]) ?_ rfl ⟨⟨_, rfl⟩, (by simpa [stepE] using rz), sz⟩
  exact results_cell_row rfl _ _ _ tO _ (0, 0) _ rfl hbz Try.underlying30 rfl (by kernel_rfl)
set_option maxHeartbeats 4000000 in
set_option maxRecDepth 100000 in
theorem step_8 (B cb n : Nat) (E : List (Int × Int)) (k v : Int) (w : World) (h : Spc w B cb n E) :
    Calls Try.prog 6 #[.pointer (some ⟨cb, 0, none⟩), .agg #[.int .i64 8, .int .i64 k, .int .i64 v]] w (StepRet B cb n (stepE n 8 k v E) w) := by
  have HB := Lib.hid h.lt
  have HI := Lib.hid (ins_start h 8 k v)
  clear h
  go_enter Try.func6, Try.ntmps6
  obtain ⟨v0, h1, h2, hR, hK, hn1, hn2, hn3⟩ := HI.out.spc
  obtain ⟨A, cap, rfl, hc1, hc2, _⟩ := hR.form
  have f2 : ((w.alloc (.cells #[.int .i64 8, .int .i64 k, .int .i64 v] tX)).alloc (.cells outZ tO)).cell? ⟨cb, 2, none⟩ = some (.int .i64 h1) := hR.blk.cell 2 rfl
  have f3 : ((w.alloc (.cells #[.int .i64 8, .int .i64 k, .int .i64 v] tX)).alloc (.cells outZ tO)).cell? ⟨cb, 3, none⟩ = some (.int .i64 h2) := hR.blk.cell 3 rfl
  obtain ⟨z, hz⟩ : ∃ z, IntKind.i64.wrap (h1 + h2) = z := ⟨_, rfl⟩
  have hz2 : wrap64 (h1 + h2) = z := (IntWalk.i64_left _).symm.trans hz
  clear hR hK
  by_cases h0 : z = 0
  · have e0 : (z == 0) = true := by rw [beq_iff_eq]; exact h0
    have H0 := Lib.hid h0
    clear h0
    go_wp2_with fail
    go_quiet (fail)
    go_wp2_with ((with_reducible refine gate_st (t := 30) rfl ?_); refine halt_L ?_)
    refine resume_L ?_
    generalize hW : World.drewN (World.alloc (World.alloc _ _) _) _ = W
    have HJ : Hid (Ins w W B cb n E 8 k v) := by
      subst hW
      exact ⟨HI.out.spc.drewN nq, HI.out.x, HI.out.o, HI.out.sx.trans (Sx.drewK B _ nq)⟩
    clear hW HI f2 f3 hz hz2 e0
    refine wpList_putrow HJ.out.o (ds := #[.bool false, .int .i64 0, .int .i64 0, .float .f64 0, .bool false, .slice none 0 0]) rfl rfl rfl (by simp [Value.oneCell']) infoO ?_
    intro wz hbz pz
    obtain ⟨rz, sz⟩ := HJ.out.fin pz HB.out
    go_wp2
    refine bodyPost_ret (v := .agg #[.bool false, .int .i64 0, .int .i64 0, .float .f64 0, .bool false, .slice none 0 0]) ?_ rfl ⟨⟨_, rfl⟩, (by simpa [stepE] using rz), sz⟩
    exact results_cell_row rfl _ _ _ tO _ (0, 0) _ rfl hbz Try.underlying30 rfl (by kernel_rfl)
  · have e0 : (z == 0) = false := by rw [beq_eq_false_iff_ne]; exact h0
    have H0 := Lib.hid h0
    clear h0
    go_wp2_with fail
    go_quiet (fail)
    generalize hW : World.drewN (World.alloc (World.alloc _ _) _) _ = W
    have HJ : Hid (Ins w W B cb n E 8 k v) := by
      subst hW
      exact ⟨HI.out.spc.drewN nq, HI.out.x, HI.out.o, HI.out.sx.trans (Sx.drewK B _ nq)⟩
    have k2 : W.cell? ⟨cb, 2, none⟩ = some (.int .i64 h1) := by subst hW; exact f2
    have k3 : W.cell? ⟨cb, 3, none⟩ = some (.int .i64 h2) := by subst hW; exact f3
    clear hW HI f2 f3
    have oc0 : W.cell? ⟨w.heap.size + 1, 0, none⟩ = some (.bool false) := HJ.out.o.cell 0 rfl
    have of0 := HJ.out.o.frozen 0
    have oc1 : W.cell? ⟨w.heap.size + 1, 1, none⟩ = some (.int .i64 0) := HJ.out.o.cell 1 rfl
    have of1 := HJ.out.o.frozen 1
    have oc2 : W.cell? ⟨w.heap.size + 1, 2, none⟩ = some (.int .i64 0) := HJ.out.o.cell 2 rfl
    have of2 := HJ.out.o.frozen 2
    have oc3 : W.cell? ⟨w.heap.size + 1, 3, none⟩ = some (.float .f64 0) := HJ.out.o.cell 3 rfl
    have of3 := HJ.out.o.frozen 3
    have oc4 : W.cell? ⟨w.heap.size + 1, 4, none⟩ = some (.bool false) := HJ.out.o.cell 4 rfl
    have of4 := HJ.out.o.frozen 4
    have oc5 : W.cell? ⟨w.heap.size + 1, 5, none⟩ = some (.slice none 0 0) := HJ.out.o.cell 5 rfl
    have of5 := HJ.out.o.frozen 5
    go_wp2_with fail
    go_still_tail 15, (by kernel_rfl)
    change wpList _ _ _ _ _ W.drew
    have HJ2 := Lib.hid (show Ins w W.drew B cb n E 8 k v from ⟨HJ.out.spc.drewN 1, HJ.out.x, HJ.out.o, HJ.out.sx.trans (Sx.drewK B _ 1)⟩)
    clear oc0 of0 oc1 of1 oc2 of2 oc3 of3 oc4 of4 oc5 of5 k2 k3 hz hz2 e0 HJ
    refine wpList_quo rfl rfl ?_
    intro rq qq
    have HJ3 := Lib.hid (show Ins w (W.drew.drewN qq) B cb n E 8 k v from ⟨HJ2.out.spc.drewN qq, HJ2.out.x, HJ2.out.o, HJ2.out.sx.trans (Sx.drewK B _ qq)⟩)
    generalize W.drew.drewN qq = W3 at *
    go_wp2_with ((with_reducible refine gate_st (t := 30) rfl ?_); refine halt_L ?_)
    refine resume_L ?_
    refine wpList_putrow HJ3.out.o (ds := #[.bool false, .int .i64 0, .int .i64 0, .float .f64 rq, .bool false, .slice none 0 0]) rfl rfl rfl (by simp [Value.oneCell']) infoO ?_
    intro wz hbz pz
    obtain ⟨rz, sz⟩ := HJ3.out.fin pz HB.out
    go_wp2
    refine bodyPost_ret (v := .agg #[.bool false, .int .i64 0, .int .i64 0, .float .f64 rq, .bool false, .slice none 0 0]) ?_ rfl ⟨⟨_, rfl⟩, (by simpa [stepE] using rz), sz⟩
    exact results_cell_row rfl _ _ _ tO _ (0, 0) _ rfl hbz Try.underlying30 rfl (by kernel_rfl)
end Go.Proofs.Ytnggdeggcflodaa
