/- A byte, and whatever rune, written to a builder; the closure of toUpper. No conditions but the sizes below 2^47. -/
import Derived.Test.YtmllpoafjcldgaaDoorFsP
import Derived.Test.YtmllpoafjcldgaaDoorBldR
import Derived.Test.YtmllpoafjcldgaaDoorShelf
import Derived.Test.YtmllpoafjcldgaaDoorIter
import Derived.Lib.FrozenHead2
import Derived.Lib.LaidCase
import Derived.Outline
namespace Go.Proofs.YtmllpoafjcldgaaDoor
open Go.RowKit
open Go.Lib (encodeRune toUpperU caseA CaseRow CaseVar)
set_option linter.unusedVariables false
theorem halt_M {p : Prop} (h : Hid p) : p := h
theorem resume_M {p : Prop} (h : p) : Hid p := h
set_option maxHeartbeats 2000000 in
set_option maxRecDepth 100000 in
theorem wr_byte (B b : Nat) (l : List UInt8) (c : UInt8) (w : World) (h : Bld B b l w) (hlen : l.length + 4 ≤ 140737488355328) (hBw : B ≤ w.heap.size) :
    Calls Tryd.prog 29 #[.pointer (some ⟨b, 0, none⟩), .int .u8 c.toNat] w fun e w' => e = .returned .nilIface ∧ Bld B b (l ++ [c]) w' ∧ Below B w w' ∧ BKept b w w' := by
  obtain ⟨i0, hi, hz0, hz1, hz2⟩ := info_parts bld_byte
  have hll : (Lib.byteCells l).length = l.length := by simp [Lib.byteCells]
  go_enter Tryd.func29, Tryd.ntmps29
  go_wp2_with (go_at_call 25; refine (bld_check B b (Lib.byteCells l) _ h).mono ?_)
  rintro e w1 ⟨rfl, h1, hb1, hk1⟩
  obtain ⟨hB, v, hbk, hown, hne⟩ := h1
  have c0 : w1.cell? ⟨b, 0, none⟩ = some (.pointer (some ⟨b, 0, none⟩)) := by rw [Lib.cell_of_heap hbk]; rfl
  have c1 : w1.cell? ⟨b, 1, none⟩ = some v := by rw [Lib.cell_of_heap hbk]; rfl
  have hlt : b < w1.heap.size := by
    rcases Nat.lt_or_ge b w1.heap.size with h' | h'
    · exact h'
    · simp [Array.getElem?_eq_none h'] at hbk
  have hBw1 : B ≤ w1.heap.size := by have := hb1.size; omega
  go_wp2_with (at_builtin; refine halt_M ?_)
  refine resume_M ?_
  refine wpList_append_ownF _ rfl _ _ 40 rfl B 5 i0 (.int .u8 0) 1 1 Tryd.underlying40 hi hz0 hz1 hz2 rfl (by decide) _ _ _ rfl (hown.alloc _) ⟨w1.heap.size, 0, none⟩ 1 1 [.int .u8 (c.toNat : Int)] rfl rfl ?c1 ?c2 ?c3 ?c4 ?c5 ?_
  case c1 =>
    intro j u hj
    have e := cell_of_row _ w1.heap.size j _ 5 (0, 0) (heap_alloc_new w1 (.cells #[.int .u8 (c.toNat : Int)] 5))
    rw [Addr.add_lit, Nat.zero_add, e, ← Array.getElem?_toList]
    exact hj
  case c2 => simp [Value.oneCell']
  case c3 => unfold maxLen; rw [hll]; omega
  case c4 => rw [hll]; omega
  case c5 => simp; omega
  intro v' w2 hown' hgrow _
  have hb2 : w2.heap[b]? = some (.cells #[.pointer (some ⟨b, 0, none⟩), v] 42 (0, 0)) := by
    rw [hgrow.block b (by simp; omega) (fun e => hne e.symm), Lib.alloc_old w1 _ b hlt]
    exact hbk
  have d0 : w2.cell? ⟨b, 0, none⟩ = some (.pointer (some ⟨b, 0, none⟩)) := by rw [Lib.cell_of_heap hb2]; rfl
  have d1 : w2.cell? ⟨b, 1, none⟩ = some v := by rw [Lib.cell_of_heap hb2]; rfl
  have f1 : w2.frozen? ⟨b, 1, none⟩ = false := Lib.frozen_of_heap hb2 1
  obtain ⟨ao, n', cap, rfl⟩ : ∃ ao n' cap, v' = .slice ao n' cap := by
    rcases hown'.2 with ⟨hv, _⟩ | ⟨g, cap, cur, fz, hv, _⟩
    · exact ⟨_, _, _, hv⟩
    · exact ⟨_, _, _, hv⟩
  go_wp2
  go_ret
  refine ⟨rfl, .inr ?_, ?_, ((hk1.alloc _).grown hgrow (Lib.ownsRowF_kind (hown.alloc _))).setCell ⟨b, 1, none⟩ rfl _⟩
  · rw [bytes_app]
    exact Lib.BuilderAtF.put hB hb2 (bs' := Lib.byteCells l ++ Lib.byteCells [c]) (by simpa [Lib.byteCells] using hown') (by decide)
  · exact ((hb1.alloc (by have := hb1.size; omega) _).grown hgrow (by have := hb1.size; simp; omega) (fun k hk => (hown.lt k hk).1)).setCell (p := ⟨b, 1, none⟩) hB _
theorem rune_cells (r : Int) : Lib.runeCells r = Lib.byteCells (encodeRune r) := by
  unfold Lib.runeCells Lib.byteCells encodeRune
  rw [List.map_map]
  apply List.map_congr_left
  intro x hx
  have := Lib.encodeRuneZ_byte r x hx
  simp only [Function.comp]
  congr 1
  have h1 : (x.toNat.toUInt8).toNat = x.toNat := by simp; omega
  rw [h1]; omega
theorem wr_runeA (B b : Nat) (l : List UInt8) (r : Int) (hr0 : -2147483648 ≤ r) (hr1 : r ≤ 2147483647) (w : World) (h : Bld B b l w) (hlen : l.length + 4 ≤ 140737488355328) (hBw : B ≤ w.heap.size) :
    Calls Tryd.prog 17 #[.pointer (some ⟨b, 0, none⟩), .int .i32 r] w fun e w' => (∃ n : Int, e = .returned (.tuple #[.int .i64 n, .nilIface])) ∧ Bld B b (l ++ encodeRune r) w' ∧ Below B w w' ∧ BKept b w w' := by
  have := bld_rune B b (Lib.byteCells l) r hr0 hr1 w h (by simpa [Lib.byteCells] using hlen) hBw
  rw [rune_cells, ← bytes_app] at this
  exact this.mono fun e w' ⟨h1, h2⟩ => ⟨⟨_, h1⟩, h2⟩
/-- Whether the closure of toUpper is in a sequence. -/
def CB (g : Nat) (e : Bool) (w : World) : Prop := w.heap[g]? = some (.cells #[.bool e] 4 (0, 0))
def CloRet (g : Nat) (e : Bool) (r : Nat) (w : World) (en : Ending) (w' : World) : Prop := en = .returned (.int .i32 (outU e r)) ∧ CB g (nx e r) w' ∧ w.grownBy w' (some g)
theorem grown_drewN {w w' : World} {x : Option Nat} (h : w.grownBy w' x) : ∀ q, w.grownBy (w'.drewN q) x
  | q => ⟨h.1, h.2, h.3, h.4, h.5⟩
theorem set_grown (w : World) (g : Nat) (v : Value) : w.grownBy (w.setCell ⟨g, 0, none⟩ v) (some g) := ⟨rfl, rfl, rfl, by simp, fun k hk hne => heap_setCell_other w ⟨g, 0, none⟩ k v (fun e => hne (by rw [e]))⟩
abbrev CaseIn (w : World) : Prop := CaseVar 0 caseA w
set_option maxHeartbeats 2000000 in
set_option maxRecDepth 100000 in
theorem clo_any (g : Nat) (e : Bool) (r : Nat) (w : World) (hr : r ≤ 1114111) (hg : CB g e w) (hV : CaseIn w) :
    Calls Tryd.prog 35 #[.int .i32 (r : Int), .pointer (some ⟨g, 0, none⟩)] w (CloRet g e r w) := by
  have c0 : w.cell? ⟨g, 0, none⟩ = some (.bool e) := cell_of_row w g 0 _ 4 (0, 0) hg
  have f0 : w.frozen? ⟨g, 0, none⟩ = false := by simp [World.frozen?, show w.heap[g]? = _ from hg]
  have HU := Lib.hid (fun W (h : CaseIn W) => Tryd.unicode_ToUpper_laid (r : Int) W h)
  have HV := Lib.hid hV
  have HG := Lib.hid hg
  clear hg hV
  by_cases h27 : r = 27
  · subst h27
    have hn : nx e 27 = true := by cases e <;> rfl
    have ho : outU e 27 = 27 := by unfold outU; rw [if_pos (by simp)]; rfl
    have HN := Lib.hid hn
    have HO := Lib.hid ho
    clear hn ho
    go_enter Tryd.func35, Tryd.ntmps35
    go_wp2_with fail
    go_ret
    exact ⟨by rw [HO.out]; rfl, by rw [HN.out]; exact heap_setCell_same w g 0 _ 4 (.bool true) HG.out, set_grown w g _⟩
  · have g27 : ((r : Int) == 27) = false := by rw [beq_eq_false_iff_ne]; omega
    have b27 : (r == 27) = false := by rw [beq_eq_false_iff_ne]; exact h27
    clear h27
    cases e with
    | true =>
      have HO := Lib.hid (show outU true r = (r : Int) by unfold outU; rw [if_pos (by simp)])
      by_cases h109 : r = 109
      · subst h109
        have HN := Lib.hid (show nx true 109 = false from rfl)
        clear b27 g27
        go_enter Tryd.func35, Tryd.ntmps35
        go_wp2_with fail
        go_ret
        exact ⟨by rw [HO.out]; rfl, by rw [HN.out]; exact heap_setCell_same w g 0 _ 4 (.bool false) HG.out, set_grown w g _⟩
      · have g109 : ((r : Int) == 109) = false := by rw [beq_eq_false_iff_ne]; omega
        have HN := Lib.hid (show nx true r = true by simp [nx, h109])
        clear h109 b27
        go_enter Tryd.func35, Tryd.ntmps35
        go_wp2_with fail
        go_ret
        exact ⟨by rw [HO.out]; rfl, by rw [HN.out]; exact HG.out, ⟨rfl, rfl, rfl, Nat.le_refl _, fun _ _ _ => rfl⟩⟩
    | false =>
      have HO := Lib.hid (show outU false r = toUpperU r by unfold outU; rw [if_neg (by simp [b27])])
      have HN := Lib.hid (show nx false r = false by simp [nx, b27])
      have HC := Lib.hid (HU.out w HV.out)
      clear b27
      generalize toUpperU (r : Int) = u at *
      go_enter Tryd.func35, Tryd.ntmps35
      go_wp2_with (go_at_call 34; refine HC.out.mono ?_; rintro e w1 ⟨rfl, q, rfl⟩)
      go_ret
      exact ⟨by rw [HO.out]; rfl, by rw [HN.out]; exact HG.out, ⟨rfl, rfl, rfl, Nat.le_refl _, fun _ _ _ => rfl⟩⟩
end Go.Proofs.YtmllpoafjcldgaaDoor
