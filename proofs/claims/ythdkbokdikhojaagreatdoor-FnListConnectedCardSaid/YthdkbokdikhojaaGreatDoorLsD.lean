/- A list made by steps: the walks of AppendItem, Indent, UnIndent and listOf. Texts without tabs and carriage returns, at most 1000 bytes each. -/
import Derived.Test.YthdkbokdikhojaaGreatDoorLsC
import Derived.WalkKit
import Derived.Handy
import Derived.BigQuiet
import Derived.Deep.QuietTactic
import Derived.Deep.AppendLies
import Derived.Deep.RegionLaw
import Derived.Laws.OwnMore
import Derived.WalkLawsBesides
namespace Go.Proofs.YthdkbokdikhojaaGreatDoor
open Go.RowKit
set_option linter.unusedVariables false
attribute [local go_sem ↓] Go.wp_at_zero Go.wp_at_succ
theorem Items.push {w W w1 : World} {B : Nat} {v v' : Value} {l : List (Int × ByteArray)} {x : Int × ByteArray} {p : Nat} {ps : List Nat}
    (h1 : ps.length = l.length) (h2 : w.ownsRow B 70 1 v l.length (ps.map fun p => .pointer (some ⟨p, 0, none⟩)))
    (h3 : ∀ (j : Nat) (p : Nat) (x : Int × ByteArray), ps[j]? = some p → l[j]? = some x → B ≤ p ∧ w.heap[p]? = some (.cells #[.int .i64 x.1, .string x.2] 72 (0, 0)))
    (ext : ∀ (k : Nat) (o : Obj), w.heap[k]? = some o → W.heap[k]? = some o) (hp : W.heap[p]? = some (.cells #[.int .i64 x.1, .string x.2] 72 (0, 0))) (hBp : B ≤ p) (hg : W.grownBy w1 v.ownBlock)
    (hown : w1.ownsRow B 70 1 v' (l.length + 1) ((ps.map fun p => .pointer (some ⟨p, 0, none⟩)) ++ [.pointer (some ⟨p, 0, none⟩)])) : Items w1 B v' (l ++ [x]) := by
  have far : ∀ (q : Nat) (o : Array Value), W.heap[q]? = some (.cells o 72 (0, 0)) → w1.heap[q]? = some (.cells o 72 (0, 0)) := by
    intro q o hq
    refine (hg.block q (Array.getElem?_eq_some_iff.1 hq).1 fun e => ?_).trans hq
    rcases h2.2 with ⟨rfl, _⟩ | ⟨g, cap, cur, rfl, _, hgg, _⟩
    · simp [Value.ownBlock] at e
    · simp [Value.ownBlock] at e
      subst e
      rw [ext _ _ hgg] at hq
      simp at hq
  refine ⟨ps ++ [p], by simp [h1], ?_, ?_⟩
  · simpa using hown
  · intro j q y hq hy
    by_cases hj : j < ps.length
    · rw [List.getElem?_append_left hj] at hq
      rw [List.getElem?_append_left (by omega)] at hy
      obtain ⟨a, b⟩ := h3 j q y hq hy
      exact ⟨a, far _ _ (ext _ _ b)⟩
    · have hj2 : j = ps.length := by
        have := (List.getElem?_eq_some_iff.1 hq).1
        simp at this
        omega
      subst hj2
      simp at hq
      rw [h1] at hy
      simp at hy
      subst hq; subst hy
      exact ⟨hBp, far _ _ hp⟩
theorem info77 : (Tryz.prog.info? 70).map (fun i => (i.zero, i.size, i.bytes)) = some (some (.pointer none), 1, 8) := by kernel_rfl
theorem one_at {W : World} {b : Nat} {v : Value} {t : TypeId} (h : W.heap[b]? = some (.cells #[v] t (0, 0))) : ∀ j u, [v][j]? = some u → W.cell? ((⟨b, 0, none⟩ : Addr).add j) = some u := by
  intro j u hj
  cases j with
  | succ j => simp at hj
  | zero =>
    simp at hj
    subst hj
    exact cell_of_row W b 0 _ t (0, 0) h
theorem hp_alloc {W : World} {o x : Obj} {k : Nat} (h : W.heap[k]? = some o) : (W.alloc x).heap[k]? = some o := (Below.heap_alloc W x k (Array.getElem?_eq_some_iff.1 h).1).trans h
def AppRet (w : World) (gl B : Nat) (a : Int) (sp css : ByteArray) (lev : Int) (st : Option Addr) (its : List (Int × ByteArray)) (e : Ending) (w' : World) : Prop :=
  ∃ v', e = .returned (.tuple #[]) ∧ w'.heap[gl]? = some (lstO a sp css v' lev st) ∧ Items w' B v' its ∧ Below gl w w'
set_option maxHeartbeats 4000000 in
set_option maxRecDepth 100000 in
theorem appendItem_any (gl B : Nat) (a : Int) (sp css : ByteArray) (v : Value) (lev : Int) (st : Option Addr) (its : List (Int × ByteArray)) (s : ByteArray) (w : World) (hgl : w.heap[gl]? = some (lstO a sp css v lev st)) (hI : Items w B v its) (hB : gl < B) (hBw : B ≤ w.heap.size) (hs : clean s) (hl : its.length ≤ 100000) :
    Calls Tryz.prog 37 #[.pointer (some ⟨gl, 0, none⟩), .iface 9 (.string s)] w (AppRet w gl B a sp css lev st (its ++ [(lev, s)])) := by
  obtain ⟨i0, hi, hz0, hz1, hz2⟩ := info_parts info77
  have c3 : w.cell? ⟨gl, 3, none⟩ = some v := cell_of_row w gl 3 _ 62 (0, 0) hgl
  have c4 : w.cell? ⟨gl, 4, none⟩ = some (.int .i64 lev) := cell_of_row w gl 4 _ 62 (0, 0) hgl
  have hlt : gl < w.heap.size := World.block_lt_of_cell? _ _ c3
  obtain ⟨ps, i1, i2, i3⟩ := hI
  have I1 := Lib.hid i1
  have I2 := Lib.hid i2
  have I3 := Lib.hid i3
  have Hs := Lib.hid hs
  have Hgl := Lib.hid hgl
  have hown2 := i2.2
  obtain ⟨A, cap, rfl⟩ : ∃ A cap, v = .slice A its.length cap := by
    rcases hown2 with ⟨e, hz⟩ | ⟨g, cap, cur, e, _⟩
    · exact ⟨none, 0, by rw [hz]; exact e⟩
    · exact ⟨_, cap, e⟩
  have HA := fun W h => Lib.hid (analyze_any gl lev s W h hs)
  clear i1 i2 i3 hs hgl hown2
  go_enter Tryz.func37, Tryz.ntmps37
  go_wp2_with fail
  go_region_law (first
    | (go_simp; go_at_call 50; (refine (HA w.drew c4).out.mono ?_); rintro e w1 ⟨p, rfl, hp, hpb, hb⟩
       have hb' : Below w.heap.size w w1 := ⟨hb.os, hb.tape, hb.output, hb.size, hb.block⟩
       have hzz : w.heap.size ≤ w1.heap.size := hb'.size
       have k3 : w1.cell? ⟨gl, 3, none⟩ = some (.slice A its.length cap) := (hb'.cell (p := ⟨gl, 3, none⟩) hlt).trans c3
       have kl : gl < w1.heap.size := by omega
       have hp' : w.heap.size ≤ p := hp
       have Own1 := Lib.hid (own_below I2.out hb')
       have rst : ∀ g cap' w2, w2.ownsRow B 70 1 (.slice (some ⟨g, 0, none⟩) (its.length + 1) cap') (its.length + 1) ((ps.map fun p => .pointer (some ⟨p, 0, none⟩)) ++ [.pointer (some ⟨p, 0, none⟩)]) → (w1.alloc (.cells #[.pointer (some ⟨p, 0, none⟩)] 70)).grownBy w2 (Value.slice A its.length cap).ownBlock →
           w2.cell? ⟨gl, 3, none⟩ = some (.slice A its.length cap) ∧ w2.frozen? ⟨gl, 3, none⟩ = false ∧ AppRet w gl B a sp css lev st (its ++ [(lev, s)]) (.returned (.tuple #[])) (w2.setCell ⟨gl, 3, none⟩ (.slice (some ⟨g, 0, none⟩) (its.length + 1) cap')) := by
         intro g cap' w2 h1 h2
         have hne : some gl ≠ (Value.slice A its.length cap).ownBlock := fun e => by have := (I2.out.lt gl e.symm).1; omega
         have k0 : w2.heap[gl]? = some (lstO a sp css (.slice A its.length cap) lev st) := (h2.block gl (by simp; omega) hne).trans (hp_alloc ((hb'.block gl hlt).trans Hgl.out))
         refine ⟨cell_of_row w2 gl 3 _ 62 (0, 0) k0, by simp [World.frozen?, k0], .slice (some ⟨g, 0, none⟩) (its.length + 1) cap', rfl, heap_setCell_same w2 gl 3 _ 62 _ k0, ?_, ?_⟩
         · have hit : Items w2 B (.slice (some ⟨g, 0, none⟩) (its.length + 1) cap') (its ++ [(lev, s)]) :=
             Items.push I1.out I2.out I3.out (fun k o ho => hp_alloc ((hb'.block k (Array.getElem?_eq_some_iff.1 ho).1).trans ho)) (p := p) (hp_alloc hpb) (by omega) h2 h1
           exact hit.keep fun q o hq ho => (heap_setCell_other w2 ⟨gl, 3, none⟩ q _ (show q ≠ gl by omega)).trans ho
         · exact (((hb'.mono (B' := gl) (by omega)).alloc (by omega) _).grown h2 (by simp; omega) (fun q hq => by have := (I2.out.lt q hq).1; omega)).setCell (Nat.le_refl _) _
       have Rst := Lib.hid rst
       clear rst hb hpb)
    | ((refine step_append_lies _ (by rfl) (.tmp 8) (.tmp 12) 59 (by rfl) B 70 i0 (.pointer none) 1 8 Tryz.underlying59 hi hz0 hz1 hz2 rfl (by decide) (.slice A its.length cap) its.length _ (by rfl) (Own1.out.alloc _) ⟨w1.heap.size, 0, none⟩ 1 1 [.pointer (some ⟨p, 0, none⟩)] (by rfl) rfl (one_at (heap_alloc_new w1 _)) (by simp [Value.oneCell']) (by decide) (by unfold maxLen; omega) (by omega) (by simp; omega) (w1.heap.size + 1) (by simp) ?_); intro g cap' w2 hown3 hgrow hg1 hg2
       have r1 := Rst.out g cap' w2 hown3 hgrow
       obtain ⟨d3, f3, R1⟩ := r1
       have HR1 := Lib.hid R1
       clear R1 hown3 hgrow))
  all_goals
    go_wp2_with fail
    go_end0
    exact HR1.out
end Go.Proofs.YthdkbokdikhojaaGreatDoor
