/- The four connected styles: impl.ListNamed. No conditions. -/
import Derived.Test.YthdkbokdikhojaaGreatDoorLkB
import Derived.Deep.DeepCutAuto
import Derived.Deep.CutBlock
namespace Go.Proofs.YthdkbokdikhojaaGreatDoor
open Go.RowKit
set_option linter.unusedVariables false
theorem abs_code {P : Program} {c : Code} {Q : Exit → Act → World → Prop} {a : Act} {w : World} (S : World → Prop) (hS : S w) (h : ∀ w', S w' → Code.wp P c Q a w') : Code.wp P c Q a w := h w hS
theorem abs_post {P : Program} {fn : Func} {R : Ending → World → Prop} {x : Exit} {a : Act} {w : World} (S : World → Prop) (hS : S w) (h : ∀ w', S w' → bodyPost P fn R x a w') : bodyPost P fn R x a w := h w hS
theorem halt_K {p : Prop} (h : Hid p) : p := h
theorem resume_K {p : Prop} (h : p) : Hid p := h
theorem hp_al {W : World} {o x : Obj} {k : Nat} (h : W.heap[k]? = some o) : (W.alloc x).heap[k]? = some o := (Below.heap_alloc W x k (Array.getElem?_eq_some_iff.1 h).1).trans h
def styF (z : Int) (s1 s2 s3 s4 s5 s6 s7 s8 : ByteArray) : Value := .agg #[.int .i64 z, .string s1, .string s2, .string s3, .string s4, .string s5, .string s6, .string s7, .string s8]
def cst (m : Nat) (k : Nat) : List UInt8 :=
  match m with
  | 0 => [[0xE2, 0x94, 0x81, 0xE2, 0x94, 0x81], [0xE2, 0x94, 0x8F, 0xE2, 0x94, 0x81], [0xE2, 0x94, 0xA3, 0xE2, 0x94, 0x81], [0xE2, 0x94, 0x83, 32, 32], [0xE2, 0x94, 0x97, 0xE2, 0x94, 0x81]].getD k []
  | 1 => [[0xE2, 0x95, 0x90, 0xE2, 0x95, 0x90], [0xE2, 0x95, 0x94, 0xE2, 0x95, 0x90], [0xE2, 0x95, 0xA0, 0xE2, 0x95, 0x90], [0xE2, 0x95, 0x91, 32, 32], [0xE2, 0x95, 0x9A, 0xE2, 0x95, 0x90]].getD k []
  | 2 => [[0xE2, 0x94, 0x80, 0xE2, 0x94, 0x80], [0xE2, 0x94, 0x8C, 0xE2, 0x94, 0x80], [0xE2, 0x94, 0x9C, 0xE2, 0x94, 0x80], [0xE2, 0x94, 0x82, 32, 32], [0xE2, 0x94, 0x94, 0xE2, 0x94, 0x80]].getD k []
  | _ => [[0xE2, 0x94, 0x80, 0xE2, 0x94, 0x80], [0xE2, 0x95, 0xAD, 0xE2, 0x94, 0x80], [0xE2, 0x94, 0x9C, 0xE2, 0x94, 0x80], [0xE2, 0x94, 0x82, 32, 32], [0xE2, 0x95, 0xB0, 0xE2, 0x94, 0x80]].getD k []
def cs (m k : Nat) : ByteArray := ⟨(cst m k).toArray⟩
def NamedRet (m : Nat) (w : World) (e : Ending) (w' : World) : Prop := e = .returned (styF 0 (cs m 0) (cs m 1) (cs m 2) (cs m 2) (cs m 3) (cs m 4) ⟨#[10]⟩ ⟨#[]⟩) ∧ Below w.heap.size w w'
set_option maxHeartbeats 2000000 in
theorem st10_same {w : World} {g : Nat} {T : TypeId} {u0 u1 u2 u3 u4 u5 u6 u7 u8 u9 v0 v1 v2 v3 v4 v5 v6 v7 v8 v9 : Value} (h : w.heap[g]? = some (.cells #[u0, u1, u2, u3, u4, u5, u6, u7, u8, u9] T (0, 0))) : ((((((((((w.setCell ⟨g, 0, none⟩ v0).setCell ⟨g, 1, none⟩ v1).setCell ⟨g, 2, none⟩ v2).setCell ⟨g, 3, none⟩ v3).setCell ⟨g, 4, none⟩ v4).setCell ⟨g, 5, none⟩ v5).setCell ⟨g, 6, none⟩ v6).setCell ⟨g, 7, none⟩ v7).setCell ⟨g, 8, none⟩ v8).setCell ⟨g, 9, none⟩ v9).heap[g]? = some (.cells #[v0, v1, v2, v3, v4, v5, v6, v7, v8, v9] T (0, 0)) := by
  have h0 := heap_setCell_same _ g 0 _ T v0 h
  simp only [List.setIfInBounds_toArray, List.set_cons_zero] at h0
  have h1 := heap_setCell_same _ g 1 _ T v1 h0
  simp only [List.setIfInBounds_toArray, List.set_cons_zero, List.set_cons_succ] at h1
  have h2 := heap_setCell_same _ g 2 _ T v2 h1
  simp only [List.setIfInBounds_toArray, List.set_cons_zero, List.set_cons_succ] at h2
  have h3 := heap_setCell_same _ g 3 _ T v3 h2
  simp only [List.setIfInBounds_toArray, List.set_cons_zero, List.set_cons_succ] at h3
  have h4 := heap_setCell_same _ g 4 _ T v4 h3
  simp only [List.setIfInBounds_toArray, List.set_cons_zero, List.set_cons_succ] at h4
  have h5 := heap_setCell_same _ g 5 _ T v5 h4
  simp only [List.setIfInBounds_toArray, List.set_cons_zero, List.set_cons_succ] at h5
  have h6 := heap_setCell_same _ g 6 _ T v6 h5
  simp only [List.setIfInBounds_toArray, List.set_cons_zero, List.set_cons_succ] at h6
  have h7 := heap_setCell_same _ g 7 _ T v7 h6
  simp only [List.setIfInBounds_toArray, List.set_cons_zero, List.set_cons_succ] at h7
  have h8 := heap_setCell_same _ g 8 _ T v8 h7
  simp only [List.setIfInBounds_toArray, List.set_cons_zero, List.set_cons_succ] at h8
  have h9 := heap_setCell_same _ g 9 _ T v9 h8
  simp only [List.setIfInBounds_toArray, List.set_cons_zero, List.set_cons_succ] at h9
  exact h9
theorem st10_other {w : World} {g k : Nat} {o : Obj} {v0 v1 v2 v3 v4 v5 v6 v7 v8 v9 : Value} (hk : k ≠ g) (h : w.heap[k]? = some o) : ((((((((((w.setCell ⟨g, 0, none⟩ v0).setCell ⟨g, 1, none⟩ v1).setCell ⟨g, 2, none⟩ v2).setCell ⟨g, 3, none⟩ v3).setCell ⟨g, 4, none⟩ v4).setCell ⟨g, 5, none⟩ v5).setCell ⟨g, 6, none⟩ v6).setCell ⟨g, 7, none⟩ v7).setCell ⟨g, 8, none⟩ v8).setCell ⟨g, 9, none⟩ v9).heap[k]? = some o :=
  ((heap_setCell_other _ ⟨g, 9, none⟩ k v9 hk).trans ((heap_setCell_other _ ⟨g, 8, none⟩ k v8 hk).trans ((heap_setCell_other _ ⟨g, 7, none⟩ k v7 hk).trans ((heap_setCell_other _ ⟨g, 6, none⟩ k v6 hk).trans ((heap_setCell_other _ ⟨g, 5, none⟩ k v5 hk).trans ((heap_setCell_other _ ⟨g, 4, none⟩ k v4 hk).trans ((heap_setCell_other _ ⟨g, 3, none⟩ k v3 hk).trans ((heap_setCell_other _ ⟨g, 2, none⟩ k v2 hk).trans ((heap_setCell_other _ ⟨g, 1, none⟩ k v1 hk).trans ((heap_setCell_other _ ⟨g, 0, none⟩ k v0 hk).trans h))))))))))
theorem st10_below {B : Nat} {w w0 : World} {g : Nat} {v0 v1 v2 v3 v4 v5 v6 v7 v8 v9 : Value} (hg : B ≤ g) (hb : Below B w0 w) : Below B w0 ((((((((((w.setCell ⟨g, 0, none⟩ v0).setCell ⟨g, 1, none⟩ v1).setCell ⟨g, 2, none⟩ v2).setCell ⟨g, 3, none⟩ v3).setCell ⟨g, 4, none⟩ v4).setCell ⟨g, 5, none⟩ v5).setCell ⟨g, 6, none⟩ v6).setCell ⟨g, 7, none⟩ v7).setCell ⟨g, 8, none⟩ v8).setCell ⟨g, 9, none⟩ v9) :=
  (Below.setCell (p := ⟨g, 9, none⟩) (Below.setCell (p := ⟨g, 8, none⟩) (Below.setCell (p := ⟨g, 7, none⟩) (Below.setCell (p := ⟨g, 6, none⟩) (Below.setCell (p := ⟨g, 5, none⟩) (Below.setCell (p := ⟨g, 4, none⟩) (Below.setCell (p := ⟨g, 3, none⟩) (Below.setCell (p := ⟨g, 2, none⟩) (Below.setCell (p := ⟨g, 1, none⟩) (Below.setCell (p := ⟨g, 0, none⟩) hb hg v0) hg v1) hg v2) hg v3) hg v4) hg v5) hg v6) hg v7) hg v8) hg v9)
set_option maxHeartbeats 2000000 in
theorem st9_same {w : World} {g : Nat} {T : TypeId} {u0 u1 u2 u3 u4 u5 u6 u7 u8 v0 v1 v2 v3 v4 v5 v6 v7 v8 : Value} (h : w.heap[g]? = some (.cells #[u0, u1, u2, u3, u4, u5, u6, u7, u8] T (0, 0))) : (((((((((w.setCell ⟨g, 0, none⟩ v0).setCell ⟨g, 1, none⟩ v1).setCell ⟨g, 2, none⟩ v2).setCell ⟨g, 3, none⟩ v3).setCell ⟨g, 4, none⟩ v4).setCell ⟨g, 5, none⟩ v5).setCell ⟨g, 6, none⟩ v6).setCell ⟨g, 7, none⟩ v7).setCell ⟨g, 8, none⟩ v8).heap[g]? = some (.cells #[v0, v1, v2, v3, v4, v5, v6, v7, v8] T (0, 0)) := by
  have h0 := heap_setCell_same _ g 0 _ T v0 h
  simp only [List.setIfInBounds_toArray, List.set_cons_zero] at h0
  have h1 := heap_setCell_same _ g 1 _ T v1 h0
  simp only [List.setIfInBounds_toArray, List.set_cons_zero, List.set_cons_succ] at h1
  have h2 := heap_setCell_same _ g 2 _ T v2 h1
  simp only [List.setIfInBounds_toArray, List.set_cons_zero, List.set_cons_succ] at h2
  have h3 := heap_setCell_same _ g 3 _ T v3 h2
  simp only [List.setIfInBounds_toArray, List.set_cons_zero, List.set_cons_succ] at h3
  have h4 := heap_setCell_same _ g 4 _ T v4 h3
  simp only [List.setIfInBounds_toArray, List.set_cons_zero, List.set_cons_succ] at h4
  have h5 := heap_setCell_same _ g 5 _ T v5 h4
  simp only [List.setIfInBounds_toArray, List.set_cons_zero, List.set_cons_succ] at h5
  have h6 := heap_setCell_same _ g 6 _ T v6 h5
  simp only [List.setIfInBounds_toArray, List.set_cons_zero, List.set_cons_succ] at h6
  have h7 := heap_setCell_same _ g 7 _ T v7 h6
  simp only [List.setIfInBounds_toArray, List.set_cons_zero, List.set_cons_succ] at h7
  have h8 := heap_setCell_same _ g 8 _ T v8 h7
  simp only [List.setIfInBounds_toArray, List.set_cons_zero, List.set_cons_succ] at h8
  exact h8
theorem st9_other {w : World} {g k : Nat} {o : Obj} {v0 v1 v2 v3 v4 v5 v6 v7 v8 : Value} (hk : k ≠ g) (h : w.heap[k]? = some o) : (((((((((w.setCell ⟨g, 0, none⟩ v0).setCell ⟨g, 1, none⟩ v1).setCell ⟨g, 2, none⟩ v2).setCell ⟨g, 3, none⟩ v3).setCell ⟨g, 4, none⟩ v4).setCell ⟨g, 5, none⟩ v5).setCell ⟨g, 6, none⟩ v6).setCell ⟨g, 7, none⟩ v7).setCell ⟨g, 8, none⟩ v8).heap[k]? = some o :=
  ((heap_setCell_other _ ⟨g, 8, none⟩ k v8 hk).trans ((heap_setCell_other _ ⟨g, 7, none⟩ k v7 hk).trans ((heap_setCell_other _ ⟨g, 6, none⟩ k v6 hk).trans ((heap_setCell_other _ ⟨g, 5, none⟩ k v5 hk).trans ((heap_setCell_other _ ⟨g, 4, none⟩ k v4 hk).trans ((heap_setCell_other _ ⟨g, 3, none⟩ k v3 hk).trans ((heap_setCell_other _ ⟨g, 2, none⟩ k v2 hk).trans ((heap_setCell_other _ ⟨g, 1, none⟩ k v1 hk).trans ((heap_setCell_other _ ⟨g, 0, none⟩ k v0 hk).trans h)))))))))
theorem st9_below {B : Nat} {w w0 : World} {g : Nat} {v0 v1 v2 v3 v4 v5 v6 v7 v8 : Value} (hg : B ≤ g) (hb : Below B w0 w) : Below B w0 (((((((((w.setCell ⟨g, 0, none⟩ v0).setCell ⟨g, 1, none⟩ v1).setCell ⟨g, 2, none⟩ v2).setCell ⟨g, 3, none⟩ v3).setCell ⟨g, 4, none⟩ v4).setCell ⟨g, 5, none⟩ v5).setCell ⟨g, 6, none⟩ v6).setCell ⟨g, 7, none⟩ v7).setCell ⟨g, 8, none⟩ v8) :=
  (Below.setCell (p := ⟨g, 8, none⟩) (Below.setCell (p := ⟨g, 7, none⟩) (Below.setCell (p := ⟨g, 6, none⟩) (Below.setCell (p := ⟨g, 5, none⟩) (Below.setCell (p := ⟨g, 4, none⟩) (Below.setCell (p := ⟨g, 3, none⟩) (Below.setCell (p := ⟨g, 2, none⟩) (Below.setCell (p := ⟨g, 1, none⟩) (Below.setCell (p := ⟨g, 0, none⟩) hb hg v0) hg v1) hg v2) hg v3) hg v4) hg v5) hg v6) hg v7) hg v8)
def StyRet (s1 s2 s3 s4 s5 s6 s7 : ByteArray) (w : World) (e : Ending) (w' : World) : Prop := ∃ s9, e = .returned (.agg #[.int .i64 0, .string s1, .string s2, .string s3, .string s4, .string s5, .string s6, .string s7, .string ⟨#[]⟩, .string s9]) ∧ Below w.heap.size w w'
set_option maxHeartbeats 1000000 in
set_option maxRecDepth 100000 in
theorem sty_d (w : World) : Calls Tryz.prog 15 #[] w (StyRet ⟨#[42]⟩ ⟨#[42]⟩ ⟨#[42]⟩ ⟨#[42]⟩ ⟨#[32, 32]⟩ ⟨#[42]⟩ ⟨#[10]⟩ w) := by
  go_enter Tryz.func15, Tryz.ntmps15
  go_wp2_with fail
  go_returns
  first
    | exact ⟨_, rfl, Below.refl _ _⟩
    | exact ⟨_, rfl, (Below.refl _ _).alloc (Nat.le_refl _) _⟩
set_option maxHeartbeats 1000000 in
set_option maxRecDepth 100000 in
theorem sty_0 (w : World) : Calls Tryz.prog 21 #[] w (StyRet (cs 0 0) (cs 0 1) (cs 0 2) (cs 0 2) (cs 0 3) (cs 0 4) ⟨#[10]⟩ w) := by
  go_enter Tryz.func21, Tryz.ntmps21
  go_wp2_with fail
  go_returns
  first
    | exact ⟨_, rfl, Below.refl _ _⟩
    | exact ⟨_, rfl, (Below.refl _ _).alloc (Nat.le_refl _) _⟩
set_option maxHeartbeats 1000000 in
set_option maxRecDepth 100000 in
theorem sty_1 (w : World) : Calls Tryz.prog 22 #[] w (StyRet (cs 1 0) (cs 1 1) (cs 1 2) (cs 1 2) (cs 1 3) (cs 1 4) ⟨#[10]⟩ w) := by
  go_enter Tryz.func22, Tryz.ntmps22
  go_wp2_with fail
  go_returns
  first
    | exact ⟨_, rfl, Below.refl _ _⟩
    | exact ⟨_, rfl, (Below.refl _ _).alloc (Nat.le_refl _) _⟩
set_option maxHeartbeats 1000000 in
set_option maxRecDepth 100000 in
theorem sty_2 (w : World) : Calls Tryz.prog 23 #[] w (StyRet (cs 2 0) (cs 2 1) (cs 2 2) (cs 2 2) (cs 2 3) (cs 2 4) ⟨#[10]⟩ w) := by
  go_enter Tryz.func23, Tryz.ntmps23
  go_wp2_with fail
  go_returns
  first
    | exact ⟨_, rfl, Below.refl _ _⟩
    | exact ⟨_, rfl, (Below.refl _ _).alloc (Nat.le_refl _) _⟩
set_option maxHeartbeats 1000000 in
set_option maxRecDepth 100000 in
theorem sty_3 (w : World) : Calls Tryz.prog 24 #[] w (StyRet (cs 3 0) (cs 3 1) (cs 3 2) (cs 3 2) (cs 3 3) (cs 3 4) ⟨#[10]⟩ w) := by
  go_enter Tryz.func24, Tryz.ntmps24
  go_wp2_with fail
  go_returns
  first
    | exact ⟨_, rfl, Below.refl _ _⟩
    | exact ⟨_, rfl, (Below.refl _ _).alloc (Nat.le_refl _) _⟩
set_option maxHeartbeats 4000000 in
set_option maxRecDepth 100000 in
theorem named0 (w : World) : Calls Tryz.prog 7 #[.int .i64 6] w (NamedRet 0 w) := by
  have HB0 := Lib.hid ((Below.refl w.heap.size w).alloc (Nat.le_refl _) (.cells #[.int .i64 0, .string ⟨#[]⟩, .string ⟨#[]⟩, .string ⟨#[]⟩, .string ⟨#[]⟩, .string ⟨#[]⟩, .string ⟨#[]⟩, .string ⟨#[]⟩, .string ⟨#[]⟩] 25))
  have HR0 := Lib.hid (heap_alloc_new w (.cells #[.int .i64 0, .string ⟨#[]⟩, .string ⟨#[]⟩, .string ⟨#[]⟩, .string ⟨#[]⟩, .string ⟨#[]⟩, .string ⟨#[]⟩, .string ⟨#[]⟩, .string ⟨#[]⟩] 25))
  go_enter Tryz.func7, Tryz.ntmps7
  go_wp2_with (go_at_call 15; refine halt_K ?_)
  refine resume_K ?_
  refine (sty_d _).mono ?_
  rintro e w1 ⟨n9, rfl, k1⟩
  have hz1 : w.heap.size < w1.heap.size := by have := k1.size; simp at this; omega
  have HW1 := Lib.hid (HB0.out.trans (k1.mono (by simp)))
  have HR1 := Lib.hid ((k1.block _ (by simp)).trans HR0.out)
  clear k1 HB0 HR0
  go_wp2_with (go_at_call 21; refine halt_K ?_)
  refine resume_K ?_
  refine (sty_0 _).mono ?_
  rintro e w2 ⟨m9, rfl, k2⟩
  have hz2 : w1.heap.size < w2.heap.size := by have := k2.size; simp at this; omega
  have HW2 := Lib.hid (HW1.out.trans (((Below.refl w1.heap.size w1).alloc (Nat.le_refl _) _).mono (Nat.le_of_lt hz1)) |>.trans (k2.mono (by simp; omega)))
  have r2 := (k2.block w1.heap.size (by simp)).trans (heap_alloc_new w1 _)
  have r0 := (k2.block w.heap.size (by simp; omega)).trans (hp_al HR1.out)
  have cr := fun k => cell_of_row w2 w1.heap.size k _ 41 (0, 0) r2
  have c0 := cr 0; have c1 := cr 1; have c2 := cr 2; have c3 := cr 3; have c4 := cr 4; have c5 := cr 5; have c6 := cr 6; have c7 := cr 7; have c8 := cr 8; have c9 := cr 9
  have dr := fun k => cell_of_row w2 w.heap.size k _ 25 (0, 0) r0
  have d0 := dr 0; have d1 := dr 1; have d2 := dr 2; have d3 := dr 3; have d4 := dr 4; have d5 := dr 5; have d6 := dr 6; have d7 := dr 7; have d8 := dr 8
  have f1 : ∀ k, w2.frozen? ⟨w1.heap.size, k, none⟩ = false := fun k => by simp [World.frozen?, r2]
  have f0 : ∀ k, w2.frozen? ⟨w.heap.size, k, none⟩ = false := fun k => by simp [World.frozen?, r0]
  have hne : w1.heap.size ≠ w.heap.size := by omega
  have hne' : w.heap.size ≠ w1.heap.size := by omega
  simp only [List.getElem?_toArray, List.getElem?_cons_zero, List.getElem?_cons_succ] at c0 c1 c2 c3 c4 c5 c6 c7 c8 c9 d0 d1 d2 d3 d4 d5 d6 d7 d8
  have R2 := Lib.hid r2
  have R0 := Lib.hid r0
  clear cr dr r2 r0 k2 HW1 HR1
  go_upto_region 23 with (fail)
  refine abs_code (fun W => W.heap[w1.heap.size]? = some (.cells #[.int .i64 0, .string (cs 0 0), .string (cs 0 1), .string (cs 0 2), .string (cs 0 2), .string (cs 0 3), .string (cs 0 4), .string ⟨#[10]⟩, .string ⟨#[]⟩, .string m9] 41 (0, 0)) ∧ W.heap[w.heap.size]? = some (.cells #[.int .i64 0, .string ⟨#[]⟩, .string ⟨#[]⟩, .string ⟨#[]⟩, .string ⟨#[]⟩, .string ⟨#[]⟩, .string ⟨#[]⟩, .string ⟨#[]⟩, .string ⟨#[]⟩] 25 (0, 0)) ∧ Below w.heap.size w W) ⟨st10_same R2.out, st10_other hne' R0.out, st10_below (by omega) HW2.out⟩ ?_
  rintro W ⟨r2, r0, hbW⟩
  clear c0 c1 c2 c3 c4 c5 c6 c7 c8 c9 d0 d1 d2 d3 d4 d5 d6 d7 d8 f1 f0 R2 R0 HW2 hz1 hz2 hne hne'
  have cr := fun k => cell_of_row W w1.heap.size k _ 41 (0, 0) r2
  have c0 := cr 0; have c1 := cr 1; have c2 := cr 2; have c3 := cr 3; have c4 := cr 4; have c5 := cr 5; have c6 := cr 6; have c7 := cr 7; have c8 := cr 8; have c9 := cr 9
  have dr := fun k => cell_of_row W w.heap.size k _ 25 (0, 0) r0
  have d0 := dr 0; have d1 := dr 1; have d2 := dr 2; have d3 := dr 3; have d4 := dr 4; have d5 := dr 5; have d6 := dr 6; have d7 := dr 7; have d8 := dr 8
  have f0 : ∀ k, W.frozen? ⟨w.heap.size, k, none⟩ = false := fun k => by simp [World.frozen?, r0]
  simp only [List.getElem?_toArray, List.getElem?_cons_zero, List.getElem?_cons_succ] at c0 c1 c2 c3 c4 c5 c6 c7 c8 c9 d0 d1 d2 d3 d4 d5 d6 d7 d8
  have R0 := Lib.hid r0
  have HBW := Lib.hid hbW
  clear cr dr r2 r0 hbW
  go_wp2_with fail
  refine abs_post (fun V => V.heap[w.heap.size]? = some (.cells #[.int .i64 0, .string (cs 0 0), .string (cs 0 1), .string (cs 0 2), .string (cs 0 2), .string (cs 0 3), .string (cs 0 4), .string ⟨#[10]⟩, .string ⟨#[]⟩] 25 (0, 0)) ∧ Below w.heap.size w V) ⟨st9_same R0.out, st9_below (Nat.le_refl _) HBW.out⟩ ?_
  rintro V ⟨r0, hbV⟩
  clear c0 c1 c2 c3 c4 c5 c6 c7 c8 c9 d0 d1 d2 d3 d4 d5 d6 d7 d8 f0 R0 HBW
  have dr := fun k => cell_of_row V w.heap.size k _ 25 (0, 0) r0
  have d0 := dr 0; have d1 := dr 1; have d2 := dr 2; have d3 := dr 3; have d4 := dr 4; have d5 := dr 5; have d6 := dr 6; have d7 := dr 7; have d8 := dr 8
  simp only [List.getElem?_toArray, List.getElem?_cons_zero, List.getElem?_cons_succ] at d0 d1 d2 d3 d4 d5 d6 d7 d8
  have HV := Lib.hid hbV
  clear dr r0 hbV
  exact bodyPost_ret (v := styF 0 (cs 0 0) (cs 0 1) (cs 0 2) (cs 0 2) (cs 0 3) (cs 0 4) ⟨#[10]⟩ ⟨#[]⟩) (by unfold styF; simp [results, Tryz.results7, go_sem, d0, d1, d2, d3, d4, d5, d6, d7, d8]) rfl ⟨rfl, HV.out⟩
set_option maxHeartbeats 4000000 in
set_option maxRecDepth 100000 in
theorem named1 (w : World) : Calls Tryz.prog 7 #[.int .i64 7] w (NamedRet 1 w) := by
  have HB0 := Lib.hid ((Below.refl w.heap.size w).alloc (Nat.le_refl _) (.cells #[.int .i64 0, .string ⟨#[]⟩, .string ⟨#[]⟩, .string ⟨#[]⟩, .string ⟨#[]⟩, .string ⟨#[]⟩, .string ⟨#[]⟩, .string ⟨#[]⟩, .string ⟨#[]⟩] 25))
  have HR0 := Lib.hid (heap_alloc_new w (.cells #[.int .i64 0, .string ⟨#[]⟩, .string ⟨#[]⟩, .string ⟨#[]⟩, .string ⟨#[]⟩, .string ⟨#[]⟩, .string ⟨#[]⟩, .string ⟨#[]⟩, .string ⟨#[]⟩] 25))
  go_enter Tryz.func7, Tryz.ntmps7
  go_wp2_with (go_at_call 15; refine halt_K ?_)
  refine resume_K ?_
  refine (sty_d _).mono ?_
  rintro e w1 ⟨n9, rfl, k1⟩
  have hz1 : w.heap.size < w1.heap.size := by have := k1.size; simp at this; omega
  have HW1 := Lib.hid (HB0.out.trans (k1.mono (by simp)))
  have HR1 := Lib.hid ((k1.block _ (by simp)).trans HR0.out)
  clear k1 HB0 HR0
  go_wp2_with (go_at_call 22; refine halt_K ?_)
  refine resume_K ?_
  refine (sty_1 _).mono ?_
  rintro e w2 ⟨m9, rfl, k2⟩
  have hz2 : w1.heap.size < w2.heap.size := by have := k2.size; simp at this; omega
  have HW2 := Lib.hid (HW1.out.trans (((Below.refl w1.heap.size w1).alloc (Nat.le_refl _) _).mono (Nat.le_of_lt hz1)) |>.trans (k2.mono (by simp; omega)))
  have r2 := (k2.block w1.heap.size (by simp)).trans (heap_alloc_new w1 _)
  have r0 := (k2.block w.heap.size (by simp; omega)).trans (hp_al HR1.out)
  have cr := fun k => cell_of_row w2 w1.heap.size k _ 41 (0, 0) r2
  have c0 := cr 0; have c1 := cr 1; have c2 := cr 2; have c3 := cr 3; have c4 := cr 4; have c5 := cr 5; have c6 := cr 6; have c7 := cr 7; have c8 := cr 8; have c9 := cr 9
  have dr := fun k => cell_of_row w2 w.heap.size k _ 25 (0, 0) r0
  have d0 := dr 0; have d1 := dr 1; have d2 := dr 2; have d3 := dr 3; have d4 := dr 4; have d5 := dr 5; have d6 := dr 6; have d7 := dr 7; have d8 := dr 8
  have f1 : ∀ k, w2.frozen? ⟨w1.heap.size, k, none⟩ = false := fun k => by simp [World.frozen?, r2]
  have f0 : ∀ k, w2.frozen? ⟨w.heap.size, k, none⟩ = false := fun k => by simp [World.frozen?, r0]
  have hne : w1.heap.size ≠ w.heap.size := by omega
  have hne' : w.heap.size ≠ w1.heap.size := by omega
  simp only [List.getElem?_toArray, List.getElem?_cons_zero, List.getElem?_cons_succ] at c0 c1 c2 c3 c4 c5 c6 c7 c8 c9 d0 d1 d2 d3 d4 d5 d6 d7 d8
  have R2 := Lib.hid r2
  have R0 := Lib.hid r0
  clear cr dr r2 r0 k2 HW1 HR1
  go_upto_region 23 with (fail)
  refine abs_code (fun W => W.heap[w1.heap.size]? = some (.cells #[.int .i64 0, .string (cs 1 0), .string (cs 1 1), .string (cs 1 2), .string (cs 1 2), .string (cs 1 3), .string (cs 1 4), .string ⟨#[10]⟩, .string ⟨#[]⟩, .string m9] 41 (0, 0)) ∧ W.heap[w.heap.size]? = some (.cells #[.int .i64 0, .string ⟨#[]⟩, .string ⟨#[]⟩, .string ⟨#[]⟩, .string ⟨#[]⟩, .string ⟨#[]⟩, .string ⟨#[]⟩, .string ⟨#[]⟩, .string ⟨#[]⟩] 25 (0, 0)) ∧ Below w.heap.size w W) ⟨st10_same R2.out, st10_other hne' R0.out, st10_below (by omega) HW2.out⟩ ?_
  rintro W ⟨r2, r0, hbW⟩
  clear c0 c1 c2 c3 c4 c5 c6 c7 c8 c9 d0 d1 d2 d3 d4 d5 d6 d7 d8 f1 f0 R2 R0 HW2 hz1 hz2 hne hne'
  have cr := fun k => cell_of_row W w1.heap.size k _ 41 (0, 0) r2
  have c0 := cr 0; have c1 := cr 1; have c2 := cr 2; have c3 := cr 3; have c4 := cr 4; have c5 := cr 5; have c6 := cr 6; have c7 := cr 7; have c8 := cr 8; have c9 := cr 9
  have dr := fun k => cell_of_row W w.heap.size k _ 25 (0, 0) r0
  have d0 := dr 0; have d1 := dr 1; have d2 := dr 2; have d3 := dr 3; have d4 := dr 4; have d5 := dr 5; have d6 := dr 6; have d7 := dr 7; have d8 := dr 8
  have f0 : ∀ k, W.frozen? ⟨w.heap.size, k, none⟩ = false := fun k => by simp [World.frozen?, r0]
  simp only [List.getElem?_toArray, List.getElem?_cons_zero, List.getElem?_cons_succ] at c0 c1 c2 c3 c4 c5 c6 c7 c8 c9 d0 d1 d2 d3 d4 d5 d6 d7 d8
  have R0 := Lib.hid r0
  have HBW := Lib.hid hbW
  clear cr dr r2 r0 hbW
  go_wp2_with fail
  refine abs_post (fun V => V.heap[w.heap.size]? = some (.cells #[.int .i64 0, .string (cs 1 0), .string (cs 1 1), .string (cs 1 2), .string (cs 1 2), .string (cs 1 3), .string (cs 1 4), .string ⟨#[10]⟩, .string ⟨#[]⟩] 25 (0, 0)) ∧ Below w.heap.size w V) ⟨st9_same R0.out, st9_below (Nat.le_refl _) HBW.out⟩ ?_
  rintro V ⟨r0, hbV⟩
  clear c0 c1 c2 c3 c4 c5 c6 c7 c8 c9 d0 d1 d2 d3 d4 d5 d6 d7 d8 f0 R0 HBW
  have dr := fun k => cell_of_row V w.heap.size k _ 25 (0, 0) r0
  have d0 := dr 0; have d1 := dr 1; have d2 := dr 2; have d3 := dr 3; have d4 := dr 4; have d5 := dr 5; have d6 := dr 6; have d7 := dr 7; have d8 := dr 8
  simp only [List.getElem?_toArray, List.getElem?_cons_zero, List.getElem?_cons_succ] at d0 d1 d2 d3 d4 d5 d6 d7 d8
  have HV := Lib.hid hbV
  clear dr r0 hbV
  exact bodyPost_ret (v := styF 0 (cs 1 0) (cs 1 1) (cs 1 2) (cs 1 2) (cs 1 3) (cs 1 4) ⟨#[10]⟩ ⟨#[]⟩) (by unfold styF; simp [results, Tryz.results7, go_sem, d0, d1, d2, d3, d4, d5, d6, d7, d8]) rfl ⟨rfl, HV.out⟩
set_option maxHeartbeats 4000000 in
set_option maxRecDepth 100000 in
theorem named2 (w : World) : Calls Tryz.prog 7 #[.int .i64 8] w (NamedRet 2 w) := by
  have HB0 := Lib.hid ((Below.refl w.heap.size w).alloc (Nat.le_refl _) (.cells #[.int .i64 0, .string ⟨#[]⟩, .string ⟨#[]⟩, .string ⟨#[]⟩, .string ⟨#[]⟩, .string ⟨#[]⟩, .string ⟨#[]⟩, .string ⟨#[]⟩, .string ⟨#[]⟩] 25))
  have HR0 := Lib.hid (heap_alloc_new w (.cells #[.int .i64 0, .string ⟨#[]⟩, .string ⟨#[]⟩, .string ⟨#[]⟩, .string ⟨#[]⟩, .string ⟨#[]⟩, .string ⟨#[]⟩, .string ⟨#[]⟩, .string ⟨#[]⟩] 25))
  go_enter Tryz.func7, Tryz.ntmps7
  go_wp2_with (go_at_call 15; refine halt_K ?_)
  refine resume_K ?_
  refine (sty_d _).mono ?_
  rintro e w1 ⟨n9, rfl, k1⟩
  have hz1 : w.heap.size < w1.heap.size := by have := k1.size; simp at this; omega
  have HW1 := Lib.hid (HB0.out.trans (k1.mono (by simp)))
  have HR1 := Lib.hid ((k1.block _ (by simp)).trans HR0.out)
  clear k1 HB0 HR0
  go_wp2_with (go_at_call 23; refine halt_K ?_)
  refine resume_K ?_
  refine (sty_2 _).mono ?_
  rintro e w2 ⟨m9, rfl, k2⟩
  have hz2 : w1.heap.size < w2.heap.size := by have := k2.size; simp at this; omega
  have HW2 := Lib.hid (HW1.out.trans (((Below.refl w1.heap.size w1).alloc (Nat.le_refl _) _).mono (Nat.le_of_lt hz1)) |>.trans (k2.mono (by simp; omega)))
  have r2 := (k2.block w1.heap.size (by simp)).trans (heap_alloc_new w1 _)
  have r0 := (k2.block w.heap.size (by simp; omega)).trans (hp_al HR1.out)
  have cr := fun k => cell_of_row w2 w1.heap.size k _ 41 (0, 0) r2
  have c0 := cr 0; have c1 := cr 1; have c2 := cr 2; have c3 := cr 3; have c4 := cr 4; have c5 := cr 5; have c6 := cr 6; have c7 := cr 7; have c8 := cr 8; have c9 := cr 9
  have dr := fun k => cell_of_row w2 w.heap.size k _ 25 (0, 0) r0
  have d0 := dr 0; have d1 := dr 1; have d2 := dr 2; have d3 := dr 3; have d4 := dr 4; have d5 := dr 5; have d6 := dr 6; have d7 := dr 7; have d8 := dr 8
  have f1 : ∀ k, w2.frozen? ⟨w1.heap.size, k, none⟩ = false := fun k => by simp [World.frozen?, r2]
  have f0 : ∀ k, w2.frozen? ⟨w.heap.size, k, none⟩ = false := fun k => by simp [World.frozen?, r0]
  have hne : w1.heap.size ≠ w.heap.size := by omega
  have hne' : w.heap.size ≠ w1.heap.size := by omega
  simp only [List.getElem?_toArray, List.getElem?_cons_zero, List.getElem?_cons_succ] at c0 c1 c2 c3 c4 c5 c6 c7 c8 c9 d0 d1 d2 d3 d4 d5 d6 d7 d8
  have R2 := Lib.hid r2
  have R0 := Lib.hid r0
  clear cr dr r2 r0 k2 HW1 HR1
  go_upto_region 23 with (fail)
  refine abs_code (fun W => W.heap[w1.heap.size]? = some (.cells #[.int .i64 0, .string (cs 2 0), .string (cs 2 1), .string (cs 2 2), .string (cs 2 2), .string (cs 2 3), .string (cs 2 4), .string ⟨#[10]⟩, .string ⟨#[]⟩, .string m9] 41 (0, 0)) ∧ W.heap[w.heap.size]? = some (.cells #[.int .i64 0, .string ⟨#[]⟩, .string ⟨#[]⟩, .string ⟨#[]⟩, .string ⟨#[]⟩, .string ⟨#[]⟩, .string ⟨#[]⟩, .string ⟨#[]⟩, .string ⟨#[]⟩] 25 (0, 0)) ∧ Below w.heap.size w W) ⟨st10_same R2.out, st10_other hne' R0.out, st10_below (by omega) HW2.out⟩ ?_
  rintro W ⟨r2, r0, hbW⟩
  clear c0 c1 c2 c3 c4 c5 c6 c7 c8 c9 d0 d1 d2 d3 d4 d5 d6 d7 d8 f1 f0 R2 R0 HW2 hz1 hz2 hne hne'
  have cr := fun k => cell_of_row W w1.heap.size k _ 41 (0, 0) r2
  have c0 := cr 0; have c1 := cr 1; have c2 := cr 2; have c3 := cr 3; have c4 := cr 4; have c5 := cr 5; have c6 := cr 6; have c7 := cr 7; have c8 := cr 8; have c9 := cr 9
  have dr := fun k => cell_of_row W w.heap.size k _ 25 (0, 0) r0
  have d0 := dr 0; have d1 := dr 1; have d2 := dr 2; have d3 := dr 3; have d4 := dr 4; have d5 := dr 5; have d6 := dr 6; have d7 := dr 7; have d8 := dr 8
  have f0 : ∀ k, W.frozen? ⟨w.heap.size, k, none⟩ = false := fun k => by simp [World.frozen?, r0]
  simp only [List.getElem?_toArray, List.getElem?_cons_zero, List.getElem?_cons_succ] at c0 c1 c2 c3 c4 c5 c6 c7 c8 c9 d0 d1 d2 d3 d4 d5 d6 d7 d8
  have R0 := Lib.hid r0
  have HBW := Lib.hid hbW
  clear cr dr r2 r0 hbW
  go_wp2_with fail
  refine abs_post (fun V => V.heap[w.heap.size]? = some (.cells #[.int .i64 0, .string (cs 2 0), .string (cs 2 1), .string (cs 2 2), .string (cs 2 2), .string (cs 2 3), .string (cs 2 4), .string ⟨#[10]⟩, .string ⟨#[]⟩] 25 (0, 0)) ∧ Below w.heap.size w V) ⟨st9_same R0.out, st9_below (Nat.le_refl _) HBW.out⟩ ?_
  rintro V ⟨r0, hbV⟩
  clear c0 c1 c2 c3 c4 c5 c6 c7 c8 c9 d0 d1 d2 d3 d4 d5 d6 d7 d8 f0 R0 HBW
  have dr := fun k => cell_of_row V w.heap.size k _ 25 (0, 0) r0
  have d0 := dr 0; have d1 := dr 1; have d2 := dr 2; have d3 := dr 3; have d4 := dr 4; have d5 := dr 5; have d6 := dr 6; have d7 := dr 7; have d8 := dr 8
  simp only [List.getElem?_toArray, List.getElem?_cons_zero, List.getElem?_cons_succ] at d0 d1 d2 d3 d4 d5 d6 d7 d8
  have HV := Lib.hid hbV
  clear dr r0 hbV
  exact bodyPost_ret (v := styF 0 (cs 2 0) (cs 2 1) (cs 2 2) (cs 2 2) (cs 2 3) (cs 2 4) ⟨#[10]⟩ ⟨#[]⟩) (by unfold styF; simp [results, Tryz.results7, go_sem, d0, d1, d2, d3, d4, d5, d6, d7, d8]) rfl ⟨rfl, HV.out⟩
set_option maxHeartbeats 4000000 in
set_option maxRecDepth 100000 in
theorem named3 (w : World) : Calls Tryz.prog 7 #[.int .i64 9] w (NamedRet 3 w) := by
  have HB0 := Lib.hid ((Below.refl w.heap.size w).alloc (Nat.le_refl _) (.cells #[.int .i64 0, .string ⟨#[]⟩, .string ⟨#[]⟩, .string ⟨#[]⟩, .string ⟨#[]⟩, .string ⟨#[]⟩, .string ⟨#[]⟩, .string ⟨#[]⟩, .string ⟨#[]⟩] 25))
  have HR0 := Lib.hid (heap_alloc_new w (.cells #[.int .i64 0, .string ⟨#[]⟩, .string ⟨#[]⟩, .string ⟨#[]⟩, .string ⟨#[]⟩, .string ⟨#[]⟩, .string ⟨#[]⟩, .string ⟨#[]⟩, .string ⟨#[]⟩] 25))
  go_enter Tryz.func7, Tryz.ntmps7
  go_wp2_with (go_at_call 15; refine halt_K ?_)
  refine resume_K ?_
  refine (sty_d _).mono ?_
  rintro e w1 ⟨n9, rfl, k1⟩
  have hz1 : w.heap.size < w1.heap.size := by have := k1.size; simp at this; omega
  have HW1 := Lib.hid (HB0.out.trans (k1.mono (by simp)))
  have HR1 := Lib.hid ((k1.block _ (by simp)).trans HR0.out)
  clear k1 HB0 HR0
  go_wp2_with (go_at_call 24; refine halt_K ?_)
  refine resume_K ?_
  refine (sty_3 _).mono ?_
  rintro e w2 ⟨m9, rfl, k2⟩
  have hz2 : w1.heap.size < w2.heap.size := by have := k2.size; simp at this; omega
  have HW2 := Lib.hid (HW1.out.trans (((Below.refl w1.heap.size w1).alloc (Nat.le_refl _) _).mono (Nat.le_of_lt hz1)) |>.trans (k2.mono (by simp; omega)))
  have r2 := (k2.block w1.heap.size (by simp)).trans (heap_alloc_new w1 _)
  have r0 := (k2.block w.heap.size (by simp; omega)).trans (hp_al HR1.out)
  have cr := fun k => cell_of_row w2 w1.heap.size k _ 41 (0, 0) r2
  have c0 := cr 0; have c1 := cr 1; have c2 := cr 2; have c3 := cr 3; have c4 := cr 4; have c5 := cr 5; have c6 := cr 6; have c7 := cr 7; have c8 := cr 8; have c9 := cr 9
  have dr := fun k => cell_of_row w2 w.heap.size k _ 25 (0, 0) r0
  have d0 := dr 0; have d1 := dr 1; have d2 := dr 2; have d3 := dr 3; have d4 := dr 4; have d5 := dr 5; have d6 := dr 6; have d7 := dr 7; have d8 := dr 8
  have f1 : ∀ k, w2.frozen? ⟨w1.heap.size, k, none⟩ = false := fun k => by simp [World.frozen?, r2]
  have f0 : ∀ k, w2.frozen? ⟨w.heap.size, k, none⟩ = false := fun k => by simp [World.frozen?, r0]
  have hne : w1.heap.size ≠ w.heap.size := by omega
  have hne' : w.heap.size ≠ w1.heap.size := by omega
  simp only [List.getElem?_toArray, List.getElem?_cons_zero, List.getElem?_cons_succ] at c0 c1 c2 c3 c4 c5 c6 c7 c8 c9 d0 d1 d2 d3 d4 d5 d6 d7 d8
  have R2 := Lib.hid r2
  have R0 := Lib.hid r0
  clear cr dr r2 r0 k2 HW1 HR1
  go_upto_region 23 with (fail)
  refine abs_code (fun W => W.heap[w1.heap.size]? = some (.cells #[.int .i64 0, .string (cs 3 0), .string (cs 3 1), .string (cs 3 2), .string (cs 3 2), .string (cs 3 3), .string (cs 3 4), .string ⟨#[10]⟩, .string ⟨#[]⟩, .string m9] 41 (0, 0)) ∧ W.heap[w.heap.size]? = some (.cells #[.int .i64 0, .string ⟨#[]⟩, .string ⟨#[]⟩, .string ⟨#[]⟩, .string ⟨#[]⟩, .string ⟨#[]⟩, .string ⟨#[]⟩, .string ⟨#[]⟩, .string ⟨#[]⟩] 25 (0, 0)) ∧ Below w.heap.size w W) ⟨st10_same R2.out, st10_other hne' R0.out, st10_below (by omega) HW2.out⟩ ?_
  rintro W ⟨r2, r0, hbW⟩
  clear c0 c1 c2 c3 c4 c5 c6 c7 c8 c9 d0 d1 d2 d3 d4 d5 d6 d7 d8 f1 f0 R2 R0 HW2 hz1 hz2 hne hne'
  have cr := fun k => cell_of_row W w1.heap.size k _ 41 (0, 0) r2
  have c0 := cr 0; have c1 := cr 1; have c2 := cr 2; have c3 := cr 3; have c4 := cr 4; have c5 := cr 5; have c6 := cr 6; have c7 := cr 7; have c8 := cr 8; have c9 := cr 9
  have dr := fun k => cell_of_row W w.heap.size k _ 25 (0, 0) r0
  have d0 := dr 0; have d1 := dr 1; have d2 := dr 2; have d3 := dr 3; have d4 := dr 4; have d5 := dr 5; have d6 := dr 6; have d7 := dr 7; have d8 := dr 8
  have f0 : ∀ k, W.frozen? ⟨w.heap.size, k, none⟩ = false := fun k => by simp [World.frozen?, r0]
  simp only [List.getElem?_toArray, List.getElem?_cons_zero, List.getElem?_cons_succ] at c0 c1 c2 c3 c4 c5 c6 c7 c8 c9 d0 d1 d2 d3 d4 d5 d6 d7 d8
  have R0 := Lib.hid r0
  have HBW := Lib.hid hbW
  clear cr dr r2 r0 hbW
  go_wp2_with fail
  refine abs_post (fun V => V.heap[w.heap.size]? = some (.cells #[.int .i64 0, .string (cs 3 0), .string (cs 3 1), .string (cs 3 2), .string (cs 3 2), .string (cs 3 3), .string (cs 3 4), .string ⟨#[10]⟩, .string ⟨#[]⟩] 25 (0, 0)) ∧ Below w.heap.size w V) ⟨st9_same R0.out, st9_below (Nat.le_refl _) HBW.out⟩ ?_
  rintro V ⟨r0, hbV⟩
  clear c0 c1 c2 c3 c4 c5 c6 c7 c8 c9 d0 d1 d2 d3 d4 d5 d6 d7 d8 f0 R0 HBW
  have dr := fun k => cell_of_row V w.heap.size k _ 25 (0, 0) r0
  have d0 := dr 0; have d1 := dr 1; have d2 := dr 2; have d3 := dr 3; have d4 := dr 4; have d5 := dr 5; have d6 := dr 6; have d7 := dr 7; have d8 := dr 8
  simp only [List.getElem?_toArray, List.getElem?_cons_zero, List.getElem?_cons_succ] at d0 d1 d2 d3 d4 d5 d6 d7 d8
  have HV := Lib.hid hbV
  clear dr r0 hbV
  exact bodyPost_ret (v := styF 0 (cs 3 0) (cs 3 1) (cs 3 2) (cs 3 2) (cs 3 3) (cs 3 4) ⟨#[10]⟩ ⟨#[]⟩) (by unfold styF; simp [results, Tryz.results7, go_sem, d0, d1, d2, d3, d4, d5, d6, d7, d8]) rfl ⟨rfl, HV.out⟩
end Go.Proofs.YthdkbokdikhojaaGreatDoor
