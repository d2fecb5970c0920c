/- The reference's cache: Step, the kinds 3 to 8. At most 100000 entries, each key once. -/
import Derived.Test.YtnggdeggcflodaaLr11
import Derived.Laws.Cover2
namespace Go.Proofs.Ytnggdeggcflodaa
open Go.RowKit Go.MapKept
set_option linter.unusedVariables false
attribute [local go_sem] run_store_float
set_option maxHeartbeats 4000000 in
set_option maxRecDepth 100000 in
theorem step_3 (B cb n : Nat) (E : List (Int × Int)) (k v : Int) (w : World) (h : Spc w B cb n E) :
    Calls Try.prog 6 #[.pointer (some ⟨cb, 0, none⟩), .agg #[.int .i64 3, .int .i64 k, .int .i64 v]] w (StepRet B cb n (stepE n 3 k v E) w) := by
  have HB := Lib.hid h.lt
  have HI := Lib.hid (ins_start h 3 k v)
  clear h
  go_enter Try.func6, Try.ntmps6
  go_wp2_with (go_at_call 10; refine halt_L ?_)
  generalize hW : World.alloc (World.alloc _ _) _ = W at HI ⊢
  clear hW
  have x1 : W.cell? ⟨w.heap.size, 1, none⟩ = some (.int .i64 k) := HI.out.x.cell 1 rfl
  have x2 : W.cell? ⟨w.heap.size, 2, none⟩ = some (.int .i64 v) := HI.out.x.cell 2 rfl
  refine resume_L ?_
  obtain ⟨v0, h1, h2, hR, hK, hn1, hn2, hn3⟩ := HI.out.spc
  refine (place_any B cb n h1 h2 k v0 E W hR (by omega)).mono ?_
  rintro e w2 ⟨rfl, hcase⟩
  have HR := Lib.hid hR
  have HK := Lib.hid hK
  clear x1 x2 hR hK
  rcases hcase with ⟨i, hi, hp, _, rfl⟩ | ⟨hno, rfl⟩
  · obtain ⟨E1, p, E2, rfl, rfl, rfl⟩ := placed hi hp
    have hT := taken_any B cb n h1 h2 v0 E1 p E2 W HR.out (by omega)
    have HE := Lib.hid (outE_pmid HK.out)
    have hi0 : (0 : Int) ≤ (E1.length : Int) := by omega
    clear hi hp
    go_wp2_with (go_at_call 11; refine hT.mono ?_)
    rintro e w2 ⟨rfl, ⟨v1, r2⟩, s2⟩
    have hS2 : Spc w2 B cb n (outE p.1 (E1 ++ p :: E2)) := ⟨v1, h1, h2, by rw [HE.out]; exact r2, keys_out HK.out, by rw [HE.out]; simp at hn1 ⊢; omega, hn2, hn3⟩
    have HJ := Lib.hid (HI.out.next hS2 s2)
    clear hT r2 s2 hS2 hi0
    go_wp2_with ((with_reducible refine gate_st (t := 30) rfl ?_); refine halt_L ?_)
    refine resume_L ?_
    refine wpList_putrow HJ.out.o (ds := #[.bool true, .int .i64 0, .int .i64 0, .float .f64 0, .bool false, .slice none 0 0]) rfl rfl rfl (by simp [Value.oneCell']) infoO ?_
    intro wz hbz pz
    obtain ⟨rz, sz⟩ := HJ.out.fin pz HB.out
    go_wp2
    have ez : stepE n 3 p.1 v (E1 ++ p :: E2) = outE p.1 (E1 ++ p :: E2) := by simp [stepE]
    rw [← ez] at rz
    refine bodyPost_ret (v := .agg #[.bool true, .int .i64 0, .int .i64 0, .float .f64 0, .bool false, .slice none 0 0]) ?_ rfl ⟨⟨_, rfl⟩, rz, sz⟩
    exact results_cell_row rfl _ _ _ tO _ (0, 0) _ rfl hbz Try.underlying30 rfl (by kernel_rfl)
  · have HF := Lib.hid (show stepE n 3 k v E = E by simp [stepE]; exact outE_nop hno)
    clear hno
    go_wp2_with ((with_reducible refine gate_st (t := 30) rfl ?_); refine halt_L ?_)
    refine resume_L ?_
    refine wpList_putrow HI.out.o (ds := #[.bool false, .int .i64 0, .int .i64 0, .float .f64 0, .bool false, .slice none 0 0]) rfl rfl rfl (by simp [Value.oneCell']) infoO ?_
    intro wz hbz pz
    obtain ⟨rz, sz⟩ := HI.out.fin pz HB.out
    go_wp2
    have ez : stepE n 3 k v E = E := HF.out
    rw [← ez] at rz
    refine bodyPost_ret (v := .agg #[.bool false, .int .i64 0, .int .i64 0, .float .f64 0, .bool false, .slice none 0 0]) ?_ rfl ⟨⟨_, rfl⟩, rz, sz⟩
    exact results_cell_row rfl _ _ _ tO _ (0, 0) _ rfl hbz Try.underlying30 rfl (by kernel_rfl)
set_option maxHeartbeats 4000000 in
set_option maxRecDepth 100000 in
theorem step_4 (B cb n : Nat) (E : List (Int × Int)) (k v : Int) (w : World) (h : Spc w B cb n E) :
    Calls Try.prog 6 #[.pointer (some ⟨cb, 0, none⟩), .agg #[.int .i64 4, .int .i64 k, .int .i64 v]] w (StepRet B cb n (stepE n 4 k v E) w) := by
  have HB := Lib.hid h.lt
  have HI := Lib.hid (ins_start h 4 k v)
  clear h
  go_enter Try.func6, Try.ntmps6
  obtain ⟨v0, h1, h2, hR, hK, hn1, hn2, hn3⟩ := HI.out.spc
  obtain ⟨A, cap, rfl, hc1, hc2, _⟩ := hR.form
  have f1 : ((w.alloc (.cells #[.int .i64 4, .int .i64 k, .int .i64 v] tX)).alloc (.cells outZ tO)).cell? ⟨cb, 1, none⟩ = some (.slice A E.length cap) := hR.blk.cell 1 rfl
  have HR := Lib.hid hR
  have HK := Lib.hid hK
  clear hR hK
  rcases E with _ | ⟨p, E'⟩
  · go_wp2_with ((with_reducible refine gate_st (t := 30) rfl ?_); refine halt_L ?_)
    refine resume_L ?_
    generalize hW : World.alloc (World.alloc _ _) _ = W at HI ⊢
    clear hW
    refine wpList_putrow HI.out.o (ds := #[.bool false, .int .i64 0, .int .i64 0, .float .f64 0, .bool false, .slice none 0 0]) rfl rfl rfl (by simp [Value.oneCell']) infoO ?_
    intro wz hbz pz
    obtain ⟨rz, sz⟩ := HI.out.fin pz HB.out
    clear f1
    go_wp2
    refine bodyPost_ret (v := .agg #[.bool false, .int .i64 0, .int .i64 0, .float .f64 0, .bool false, .slice none 0 0]) ?_ rfl ⟨⟨_, rfl⟩, (by simpa [stepE] using rz), sz⟩
    exact results_cell_row rfl _ _ _ tO _ (0, 0) _ rfl hbz Try.underlying30 rfl (by kernel_rfl)
  · have hz : (((p :: E').length : Nat) == 0) = false := by simp
    go_wp2_with (go_at_call 11; refine halt_L ?_)
    generalize hW : World.alloc (World.alloc _ _) _ = W at HI HR ⊢
    clear hW f1
    refine resume_L ?_
    refine (taken_any B cb n h1 h2 _ [] p E' W HR.out (by simp at hn1 ⊢; omega)).mono ?_
    rintro e w2 ⟨rfl, ⟨v1, r2⟩, s2⟩
    rw [List.nil_append] at r2
    have hS2 : Spc w2 B cb n E' := ⟨v1, h1, h2, r2, (List.sublist_cons_self p E').map _ |>.nodup HK.out, by simp at hn1; omega, hn2, hn3⟩
    have HJ := Lib.hid ((HI.out.next hS2 s2).next (hS2.alloc (.cells #[.int .i64 p.1, .int .i64 p.2] tP)) ((Sx.refl B w2).alloc hS2.lt _))
    have HJ2 := Lib.hid (HJ.out.next (HJ.out.spc.alloc (.cells #[.int .i64 p.1, .int .i64 p.2] tP)) ((Sx.refl B _).alloc HJ.out.spc.lt _))
    clear r2 s2 hS2 HI HR
    go_wp2_with ((with_reducible refine gate_st (t := 30) rfl ?_); refine halt_L ?_)
    refine resume_L ?_
    generalize hW3 : World.alloc (World.alloc _ _) _ = W3 at HJ2 ⊢
    clear hW3
    refine wpList_putrow HJ2.out.o (ds := #[.bool true, .int .i64 p.1, .int .i64 p.2, .float .f64 0, .bool false, .slice (some ⟨w2.heap.size + 1, 0, none⟩) 1 1]) rfl rfl rfl (by simp [Value.oneCell']) infoO ?_
    intro wz hbz pz
    obtain ⟨rz, sz⟩ := HJ2.out.fin pz HB.out
    go_wp2
    refine bodyPost_ret (v := .agg #[.bool true, .int .i64 p.1, .int .i64 p.2, .float .f64 0, .bool false, .slice (some ⟨w2.heap.size + 1, 0, none⟩) 1 1]) ?_ rfl ⟨⟨_, rfl⟩, (by simpa [stepE] using rz), sz⟩
    exact results_cell_row rfl _ _ _ tO _ (0, 0) _ rfl hbz Try.underlying30 rfl (by kernel_rfl)
end Go.Proofs.Ytnggdeggcflodaa
