/- Rendering a list: listStyle, SetStyle, impl.ListRender. -/
import Derived.Test.YthdkbokdikhojaaGreatDoorLdD
import Derived.Test.YthdkbokdikhojaaGreatDoorLsM
namespace Go.Proofs.YthdkbokdikhojaaGreatDoor
open Go.RowKit
set_option linter.unusedVariables false
def styV (s1 s2 s3 s4 s5 s6 s7 s8 : ByteArray) : Value := .agg #[.int .i64 0, .string s1, .string s2, .string s3, .string s4, .string s5, .string s6, .string s7, .string s8]
def styR (s1 s2 s3 s4 s5 s6 s7 s8 : ByteArray) : Array Value := #[.int .i64 0, .string s1, .string s2, .string s3, .string s4, .string s5, .string s6, .string s7, .string s8, .string ⟨#[]⟩]
set_option maxHeartbeats 4000000 in
set_option maxRecDepth 100000 in
theorem listStyle_any (s1 s2 s3 s4 s5 s6 s7 s8 : ByteArray) (w : World) :
    Calls Tryz.prog 32 #[styV s1 s2 s3 s4 s5 s6 s7 s8] w fun e w' => e = .returned (.agg (styR s1 s2 s3 s4 s5 s6 s7 s8)) ∧ Below w.heap.size w w' := by
  unfold styV styR
  go_enter Tryz.func32, Tryz.ntmps32
  go_wp2_with fail
  go_returns
  exact ⟨rfl, ((Below.refl _ _).alloc (Nat.le_refl _) _).alloc (by simp) _⟩
set_option maxHeartbeats 4000000 in
set_option maxRecDepth 100000 in
theorem setStyle_any (gl : Nat) (a : Int) (sp css : ByteArray) (v : Value) (lev : Int) (st : Option Addr) (s1 s2 s3 s4 s5 s6 s7 s8 : ByteArray) (w : World) (hgl : w.heap[gl]? = some (lstO a sp css v lev st)) :
    Calls Tryz.prog 31 #[.pointer (some ⟨gl, 0, none⟩), .agg (styR s1 s2 s3 s4 s5 s6 s7 s8)] w fun e w' => e = .returned (.tuple #[]) ∧ w' = (w.setCell ⟨gl, 5, none⟩ (.pointer (some ⟨w.heap.size, 0, none⟩))).alloc (.cells (styR s1 s2 s3 s4 s5 s6 s7 s8) 41) := by
  have hlt := (Array.getElem?_eq_some_iff.1 hgl).1
  have h5 : (w.alloc (.cells (styR s1 s2 s3 s4 s5 s6 s7 s8) 41)).heap[gl]? = some (lstO a sp css v lev st) := by rw [Below.heap_alloc _ _ _ hlt]; exact hgl
  have c5 : (w.alloc (.cells (styR s1 s2 s3 s4 s5 s6 s7 s8) 41)).cell? ⟨gl, 5, none⟩ = some (.pointer st) := cell_of_row _ gl 5 _ 62 (0, 0) h5
  have f5 : (w.alloc (.cells (styR s1 s2 s3 s4 s5 s6 s7 s8) 41)).frozen? ⟨gl, 5, none⟩ = false := by simp [World.frozen?, h5]
  clear h5 hgl
  unfold styR at *
  go_enter Tryz.func31, Tryz.ntmps31
  go_wp2_with fail
  go_end0
  exact ⟨rfl, rfl⟩
set_option maxHeartbeats 4000000 in
set_option maxRecDepth 100000 in
theorem lr_any (v : Value) (its : List (Int × ByteArray)) (s1 s2 s3 s4 s5 s6 s7 s8 : ByteArray) (w : World) (D : LD) (hDe : D = ⟨spaces (Lib.runeCount s5), s1, s2, s3, s4, s5, s6, s7, s8, its⟩) (hD : D.ok) (hF : D.fits)
    (hl : ∀ W, Below w.heap.size w W → Calls Tryz.prog 30 #[v] W (ListRet W its)) :
    Calls Tryz.prog 9 #[v, styV s1 s2 s3 s4 s5 s6 s7 s8] w fun e w' => e = .returned (.string ⟨(drawnTo D its.length).toArray⟩) ∧ Below w.heap.size w w' := by
  have hB0 := (Below.refl w.heap.size w).alloc (Nat.le_refl _) (.cells #[.int .i64 0, .string s1, .string s2, .string s3, .string s4, .string s5, .string s6, .string s7, .string s8] 25)
  have HL := Lib.hid (hl _ hB0)
  have HB0 := Lib.hid hB0
  have HD := Lib.hid hD
  have HF := Lib.hid hF
  have HE := Lib.hid hDe
  have hnew := heap_alloc_new w (.cells #[.int .i64 0, .string s1, .string s2, .string s3, .string s4, .string s5, .string s6, .string s7, .string s8] 25)
  have HN := Lib.hid hnew
  clear hl hB0 hD hF hDe hnew
  unfold styV
  go_enter Tryz.func9, Tryz.ntmps9
  generalize hwa : w.alloc (.cells #[.int .i64 0, .string s1, .string s2, .string s3, .string s4, .string s5, .string s6, .string s7, .string s8] 25) = wa at *
  go_wp2_with (go_at_call 30; refine halt_L ?_)
  refine resume_L ?_
  refine HL.out.mono ?_
  rintro e w1 ⟨gl, B, v', lev, rfl, hg0, hgB, h1, h2, h3⟩
  have hsz : w.heap.size < wa.heap.size := (Array.getElem?_eq_some_iff.1 HN.out).1
  have hn1 := (h3.block _ hsz).trans HN.out
  have x0 := cell_of_row w1 w.heap.size 0 _ 25 (0, 0) hn1; have x1 := cell_of_row w1 w.heap.size 1 _ 25 (0, 0) hn1; have x2 := cell_of_row w1 w.heap.size 2 _ 25 (0, 0) hn1
  have x3 := cell_of_row w1 w.heap.size 3 _ 25 (0, 0) hn1; have x4 := cell_of_row w1 w.heap.size 4 _ 25 (0, 0) hn1; have x5 := cell_of_row w1 w.heap.size 5 _ 25 (0, 0) hn1
  have x6 := cell_of_row w1 w.heap.size 6 _ 25 (0, 0) hn1; have x7 := cell_of_row w1 w.heap.size 7 _ 25 (0, 0) hn1; have x8 := cell_of_row w1 w.heap.size 8 _ 25 (0, 0) hn1
  have H1 := Lib.hid h1
  have H2 := Lib.hid h2
  have H3 := Lib.hid (HB0.out.trans (h3.mono (Nat.le_of_lt hsz)))
  have HLS := Lib.hid (listStyle_any s1 s2 s3 s4 s5 s6 s7 s8)
  have HSS := Lib.hid (setStyle_any gl 0 ⟨#[]⟩ ⟨#[]⟩ v' lev none s1 s2 s3 s4 s5 s6 s7 s8)
  unfold styV at HLS
  have hlt1 := (Array.getElem?_eq_some_iff.1 h1).1
  clear hn1 h1 h2 h3 HN HL hwa
  go_wp2_with (first
    | (go_at_call 32; refine (HLS.out _).mono ?_; rintro e w2 ⟨rfl, k1⟩; have K1 := Lib.hid k1; clear k1 x0 x1 x2 x3 x4 x5 x6 x7 x8)
    | (go_at_call 31; refine (HSS.out _ ((K1.out.block _ hlt1).trans H1.out)).mono ?_; rintro e w3 ⟨rfl, hw3⟩; have HW3 := Lib.hid hw3; clear hw3)
    | (go_at_call 33; refine halt_L ?_))
  refine resume_L ?_
  have h21 := (K1.out.block _ hlt1).trans H1.out
  have hlt2 := (Array.getElem?_eq_some_iff.1 h21).1
  have hw3 := HW3.out
  have hgl3 : w3.heap[gl]? = some (lstO 0 ⟨#[]⟩ ⟨#[]⟩ v' lev (some ⟨w2.heap.size, 0, none⟩)) := by
    rw [hw3]
    exact hp_alloc (heap_setCell_same w2 gl 5 _ 62 _ h21)
  have hgs3 : w3.heap[w2.heap.size]? = some (styO 0 s1 s2 s3 s4 s5 s6 s7 s8 ⟨#[]⟩) := by
    rw [hw3]
    have := heap_alloc_new (w2.setCell ⟨gl, 5, none⟩ (.pointer (some ⟨w2.heap.size, 0, none⟩))) (.cells (styR s1 s2 s3 s4 s5 s6 s7 s8) 41)
    have e : (w2.setCell ⟨gl, 5, none⟩ (.pointer (some ⟨w2.heap.size, 0, none⟩))).heap.size = w2.heap.size := by simp
    rw [e] at this
    exact this
  have hI3 : Items w3 B v' its := H2.out.keep (fun k o hk ho => by
    rw [hw3]
    have hko := (Array.getElem?_eq_some_iff.1 ho).1
    refine hp_alloc ?_
    rw [heap_setCell_other w2 ⟨gl, 5, none⟩ k _ (by show k ≠ gl; omega)]
    exact (K1.out.block _ hko).trans ho)
  refine (render_any gl w2.heap.size B 0 ⟨#[]⟩ ⟨#[]⟩ v' lev its s1 s2 s3 s4 s5 s6 s7 s8 ⟨#[]⟩ w3 D HE.out HD.out HF.out hgl3 hgs3 (by omega) hgB hI3).mono ?_
  rintro e w4 ⟨rfl, hb4⟩
  have HB4 := Lib.hid (show Below w.heap.size w w4 by
    have a1 := H3.out.trans (K1.out.mono (by have := H3.out.size; omega))
    have a2 := (a1.setCell (p := ⟨gl, 5, none⟩) (show w.heap.size ≤ gl by omega) (.pointer (some ⟨w2.heap.size, 0, none⟩))).alloc (by have := a1.size; simpa using this) (.cells (styR s1 s2 s3 s4 s5 s6 s7 s8) 41)
    rw [← hw3] at a2
    exact a2.trans (hb4.mono (by omega)))
  clear hgl3 hgs3 hI3 hb4 hw3 HW3 h21
  go_wp2_with fail
  go_ret
  exact ⟨rfl, HB4.out⟩
end Go.Proofs.YthdkbokdikhojaaGreatDoor
