/- A table of one column: the walk of zzColumns for one width and one config. No conditions. -/
import Derived.Test.YtlppbalnjogkoaaTabA
import Derived.Test.YtlppbalnjogkoaaJunB
import Derived.Test.YtlppbalnjogkoaaIMap
import Derived.Test.YtlppbalnjogkoaaMerC
import Derived.WalkKit
import Derived.Handy
import Derived.Deep.QuietTactic
import Derived.Deep.WholeRow
import Derived.Deep.RegionLawGrows
import Derived.Deep.DeepCutAuto
import Derived.BigQuiet
import Derived.Laws.OwnMore
import Derived.WalkLawsBesides
namespace Go.Proofs.Ytlppbalnjogkoaa
open Go.RowKit
set_option linter.unusedVariables false
variable {P : Program}
abbrev ccA (c2 c3 c4 : Int) : Array Value := #[.string ⟨#[]⟩, .int .i64 0, .int .i64 c2, .int .i64 c3, .int .i64 c4, .bool false, .slice none 0 0, .slice none 0 0, .slice none 0 0, .bool false, .int .i64 0, .int .i64 0, .int .i64 0, .int .i64 0, .nilFunc, .int .i64 0]
theorem own_form {w : World} {B : Nat} {e : TypeId} {size n : Nat} {v : Value} {xs : List Value} (h : w.ownsRow B e size v n xs) : ∃ a cap, v = .slice a n cap := by
  rcases h.2 with ⟨rfl, rfl⟩ | ⟨g, cap, cur, rfl, _⟩
  · exact ⟨none, 0, rfl⟩
  · exact ⟨_, cap, rfl⟩
theorem cc_built : Try.prog.built 74 [] = some (ccA 0 0 0) := by kernel_rfl
abbrev stA (f2 f5 f8 : Int) : Array Value := #[.string ⟨#[]⟩, .string ⟨#[]⟩, .string ⟨#[]⟩, .string ⟨#[]⟩, .string ⟨#[]⟩, .string ⟨#[]⟩, .string ⟨#[]⟩, .string ⟨#[]⟩, .string ⟨#[]⟩, .string ⟨#[]⟩, .string ⟨#[]⟩, .string ⟨#[]⟩, .string ⟨#[]⟩, .string ⟨#[]⟩, .string ⟨#[]⟩, .string ⟨#[]⟩, .string ⟨#[]⟩, .string ⟨#[]⟩, .string ⟨#[]⟩, .pointer none, .slice none 0 0, .slice none 0 0, .slice none 0 0, .slice none 0 0, .slice none 0 0, .slice none 0 0, .slice none 0 0, .bool false, .int .i64 0, .int .i64 0, .int .i64 f2, .int .i64 0, .int .i64 0, .int .i64 f5, .int .i64 0, .int .i64 0, .int .i64 f8, .int .i64 0, .bool false, .string ⟨#[]⟩, .string ⟨#[]⟩, .bool false, .string ⟨#[]⟩, .bool false, .bool false, .bool false, .bool false, .bool false, .bool false, .bool false, .bool false, .int .i64 0, .int .i64 0, .int .i64 0, .slice none 0 0, .int .i64 0]
theorem st_built : Try.prog.built 97 [] = some (stA 0 0 0) := by kernel_rfl
attribute [local go_sem ↓] tab_exec
attribute [local go_sem] tabK_run
def ColsOne (S C : Array Value) (w : World) (e : Ending) (w' : World) : Prop :=
  ∃ gs gt gn gm f, e = .returned (.pointer (some ⟨gt, 0, none⟩)) ∧ Below w.heap.size w w' ∧ w'.cell? ⟨gt, 39, none⟩ = some (.pointer (some ⟨gs, 0, none⟩)) ∧ w'.cell? ⟨gt, 6, none⟩ = some (.map (some gm)) ∧ w'.cell? ⟨gt, 4, none⟩ = some (.slice (some ⟨gn, 0, none⟩) 1 1) ∧
    w'.heap[gs]? = some (.cells S 97 (0, 0)) ∧ w'.heap[gn]? = some (.cells #[.bool true] 4 (0, 0)) ∧ MapIs (.int .i64) w' gm f ∧ f (.int .i64 0) = some (.agg C) ∧ gn ≠ gt ∧ gn ≠ gs ∧ gn ≠ gm ∧ w.heap.size ≤ gn ∧ gn < w'.heap.size
theorem hp_new {W : World} {o : Obj} {k : Nat} (h : k = W.heap.size) : (W.alloc o).heap[k]? = some o := by subst h; exact heap_alloc_new W o
theorem hp_alloc {W : World} {o x : Obj} {k : Nat} (h : W.heap[k]? = some o) : (W.alloc x).heap[k]? = some o := (Below.heap_alloc W x k (Array.getElem?_eq_some_iff.1 h).1).trans h
theorem hp_drew {W : World} {o : Obj} {k : Nat} (h : W.heap[k]? = some o) : W.drew.heap[k]? = some o := h
theorem hp_grow {W W' : World} {o : Obj} {k : Nat} (hg : W.grownBy W' none) (h : W.heap[k]? = some o) : W'.heap[k]? = some o := (hg.block k (Array.getElem?_eq_some_iff.1 h).1 (by simp)).trans h
theorem mp_new {W : World} {d : TypeDesc} {k : Nat} (h : k = W.heap.size) : MapIs d (W.alloc (.map #[] 0)) k (fun _ => none) := by subst h; exact MapIs.made W d
theorem mp_grow {W W' : World} {d : TypeDesc} {k : Nat} {f : Value → Option Value} (hg : W.grownBy W' none) (h : MapIs d W k f) : MapIs d W' k f := h.grown hg (by simp)
theorem bl_alloc {w W : World} {o : Obj} (h : Below w.heap.size w W) : Below w.heap.size w (W.alloc o) := h.alloc h.size o
theorem bl_grow {w W W' : World} (hg : W.grownBy W' none) (h : Below w.heap.size w W) : Below w.heap.size w W' := h.grown hg h.size (by simp)
theorem cl_last {W : World} {C : Array Value} {t : TypeId} {k j : Nat} {v : Value} (hk : k = W.heap.size) (h : C[j]? = some v) : (W.alloc (.cells C t)).cell? ⟨k, j, none⟩ = some v := by rw [World.cell?_alloc_at _ _ _ _ hk]; exact h
theorem size_drew' (W : World) : W.drew.heap.size = W.heap.size := rfl
theorem one_at {W : World} {b : Nat} {v : Value} {t : TypeId} (h : W.heap[b]? = some (.cells #[v] t (0, 0))) : ∀ j u, [v][j]? = some u → W.cell? ((⟨b, 0, none⟩ : Addr).add j) = some u := by
  intro j u hj
  cases j with
  | succ j => simp at hj
  | zero =>
    simp at hj
    subst hj
    exact cell_of_row W b 0 _ t (0, 0) h
set_option linter.unusedSimpArgs false
def oneF (C : Array Value) : Value → Option Value
  | .int .i64 n => if n = 0 then some (.agg C) else none
  | _ => none
theorem oneF_miss (C : Array Value) (q : Value) (h : q ≠ .int .i64 0) : oneF C q = (fun _ => none : Value → Option Value) q := by
  cases q with
  | int k n =>
    cases k <;> try rfl
    simp only [oneF]
    rw [if_neg (fun e => h (by rw [e]))]
  | _ => rfl
def ld74 (v : Value) : Sem Value := Instr.loadAt 74 v
theorem ld74_exec (ρ : Operand → Value) (d : Option Tmp) (p : Operand) (t : TypeId) (ps : String) (af : Array Edge) (g : Option (Nat × Bool)) :
    execOp ρ ⟨d, .load 74 p, t, ps, af, g⟩ = (ld74 (ρ p) >>= fun v => pure (.value v)) := rfl
theorem ld74_run (g : Nat) (cs : Array Value) (hs : cs.size = 16) (W : World) (h : W.heap[g]? = some (.cells cs 74 (0, 0))) : (ld74 (.pointer (some ⟨g, 0, none⟩))).run Try.prog W = .ok (.agg cs) W := by
  have h49 : (Try.prog.info? 74).map (·.size) = some cs.size := by rw [hs]; kernel_rfl
  unfold ld74
  simp only [Instr.loadAt, Instr.sureAddr, Sem.run_bind, Sem.run_pure, Result.andThen]
  exact run_loadVar_row W g 74 74 cs (0, 0) _ h Try.underlying74 rfl h49
attribute [local go_sem ↓] ld74_exec
set_option maxHeartbeats 4000000 in
set_option maxRecDepth 100000 in
theorem columns_one (S : Array Value) (c2 c3 c4 : Int) (w : World) (hs : S.size = 56) (h1 : S.all (·.oneCell') = true) (b c : Nat) (hb : w.heap[b]? = some (.cells #[.int .i64 0] 3 (0, 0))) (hc : w.heap[c]? = some (.cells (ccA c2 c3 c4) 74 (0, 0))) :
    Calls Try.prog 53 #[.slice (some ⟨b, 0, none⟩) 1 1, .slice (some ⟨c, 0, none⟩) 1 1, .agg S] w (ColsOne S (ccA c2 c3 c4) w) := by
  have hmm := @run_makeMap Try.prog
  have hmk : ∀ w : World, (Instr.makeSlice 110 (.int .i64 1) (.int .i64 1)).run Try.prog w = .ok (.slice (some ⟨w.heap.size, 0, none⟩) 1 1) (w.alloc (.cells #[.bool false] 4)) := fun _ => by kernel_rfl
  obtain ⟨i0, hi, hz0, hz1, hz2⟩ := info_parts info3
  go_enter Try.func53, Try.ntmps53
  go_upto_region 1 with fail
  go_cut [7] from 11 to 21 (fun s7 wx => ∃ gs gt gn gm, s7 = .pointer (some ⟨gt, 0, none⟩) ∧ Below w.heap.size w wx ∧ wx.cell? ⟨gt, 39, none⟩ = some (.pointer (some ⟨gs, 0, none⟩)) ∧ wx.cell? ⟨gt, 6, none⟩ = some (.map (some gm)) ∧ wx.cell? ⟨gt, 4, none⟩ = some (.slice (some ⟨gn, 0, none⟩) 1 1) ∧
    wx.heap[gs]? = some (.cells S 97 (0, 0)) ∧ wx.heap[gn]? = some (.cells #[.bool false] 4 (0, 0)) ∧ MapIs (.int .i64) wx gm (fun _ => none) ∧ gn ≠ gt ∧ gn ≠ gs ∧ gn ≠ gm ∧ w.heap.size ≤ gn ∧ w.heap.size ≤ gm ∧ gn < wx.heap.size)
  case first =>
    go_region_law (refine step_append_grows rfl (.tmp 13) (.tmp 14) 113 rfl 3 i0 (.int .i64 0) 1 8 Try.underlying113 hi hz0 hz1 hz2 rfl (by decide) (some ⟨_, 0, none⟩) 0 0 [] (by simp [Act.eval, Act.put]; rfl) (fun h => by cases h) rfl (fun b _ j u h => by simp at h) ⟨b, 0, none⟩ 1 1 [.int .i64 0] (by simp [Act.eval, Act.put]) rfl (one_at (by repeat first | exact hb | refine hp_alloc ?_ | refine hp_drew ?_)) (by simp [Value.oneCell']) (by omega) (by decide) (by decide) ?_; intro v' w' hown hgrow; obtain ⟨a', c', rfl⟩ := own_form hown; clear hown)
    all_goals
      go_wp2_with fail
      go_meet
      have hz := hgrow.size
      simp only [World.size_alloc, size_drew'] at hz
      refine ⟨w.heap.size, _, _, _, rfl, ?_, cl_last ?_ rfl, cl_last ?_ rfl, cl_last ?_ rfl, ?_, ?_, ?_, ?_, ?_, ?_, ?_, ?_, ?_⟩
    all_goals first
      | omega
      | (simp; done)
      | (simp only [World.size_alloc, size_drew']; omega)
      | ((repeat first
          | exact hp_new (by simp only [World.size_alloc, size_drew'])
          | exact hp_new (by simp only [World.size_alloc, size_drew']; omega)
          | refine hp_alloc ?_
          | refine hp_grow hgrow ?_
          | refine hp_drew ?_); done)
      | ((repeat first
          | exact mp_new (by simp only [World.size_alloc, size_drew'])
          | exact mp_new (by simp only [World.size_alloc, size_drew']; omega)
          | refine MapIs.alloc ?_ _
          | refine mp_grow hgrow ?_
          | refine MapIs.drew ?_); done)
      | ((repeat first
          | exact Below.refl _ _
          | refine bl_alloc ?_
          | refine bl_grow hgrow ?_
          | refine Below.drew ?_); done)
  case rest =>
    obtain ⟨gs, gt, gn, gm, rfl, hB, ht39, ht6, ht4, hgs, hgn, hM, n1, n2, n3, n4, n5, n6⟩ := hcut
    have hcn : wc.cell? ⟨gn, 0, none⟩ = some (.bool false) := cell_of_row _ _ 0 _ 4 (0, 0) hgn
    have hfn : wc.frozen? ⟨gn, 0, none⟩ = false := by simp [World.frozen?, hgn]
    go_wp2_with fail
    refine wp_loop_rounds 2 ?_
    rw [rounds_succ]
    go_wp2_with fail
    rw [rounds_succ]
    go_wp2_with fail
    have hw1 : ∃ W1, W1 = wc.setCell { block := gn, off := 0 } (Value.bool true) := ⟨_, rfl⟩
    obtain ⟨W1, hW1⟩ := hw1
    rw [← hW1]
    have k1 : ∀ k, k ≠ gn → W1.heap[k]? = wc.heap[k]? := by intro k hk; rw [hW1]; exact heap_setCell_other wc _ k _ hk
    have k2 : W1.heap[gn]? = some (.cells #[.bool true] 4 (0, 0)) := by rw [hW1]; exact heap_setCell_same wc gn 0 _ 4 _ hgn
    have k3 : Below w.heap.size w W1 := by rw [hW1]; exact hB.setCell (by exact n4) _
    have k4 : MapIs (.int .i64) W1 gm (fun _ => none) := hM.keep (k1 gm (Ne.symm n3))
    have kc : W1.heap[c]? = some (.cells (ccA c2 c3 c4) 74 (0, 0)) := (k3.block c (Array.getElem?_eq_some_iff.1 hc).1).trans hc
    have kt6 : W1.cell? ⟨gt, 6, none⟩ = some (.map (some gm)) := (World.cell?_of_block (a := ⟨gt, 6, none⟩) (k1 gt (Ne.symm n1))).trans ht6
    clear hW1
    have i74 : (Try.prog.info? 74).map (·.size) = some 16 := by kernel_rfl
    refine wp_loop_rounds 2 ?_
    rw [rounds_succ]
    go_wp2_with (first
      | ((with_reducible refine gate_ld (t := 74) rfl ?_)
         refine wpList_load_row ?hgd 74 (.tmp 42) ?ho c ?hx 74 (cs := (ccA c2 c3 c4)) (fr := (0, 0)) (d := _) ?hg Try.underlying74 ?hd ?hi ?_
         (case hgd => rfl)
         (case ho => rfl)
         (case hx => rfl)
         (case hg => exact kc)
         (case hd => rfl)
         (case hi => exact i74))
      | ((with_reducible refine gate_st (t := 74) rfl ?_); refine halt_here ?_))
    refine resume ?_
    refine store_last (P := Try.prog) ?hgd 74 (.tmp 10) (.tmp 43) ?ho (g := W1.heap.size) rfl ?hx (cells := (ccA c2 c3 c4)) ?hy ?hi ?hold ?h1 ?_
    (case hgd => rfl)
    (case ho => rfl)
    (case hx => rfl)
    (case hy => rfl)
    (case hi => exact i74)
    (case hold => rfl)
    (case h1 => simp [Value.oneCell'])
    go_wp2_with fail
    have hl2 : ∀ W : World, W.heap[W1.heap.size]? = some (.cells (ccA c2 c3 c4) 74 (0, 0)) → (ld74 (.pointer (some ⟨W1.heap.size, 0, none⟩))).run Try.prog W = .ok (.agg (ccA c2 c3 c4)) W := fun W h => ld74_run _ (ccA c2 c3 c4) rfl W h
    have hl3 := hl2 ((W1.alloc (.cells (ccA c2 c3 c4) 74)).drew) (heap_alloc_new W1 _)
    obtain ⟨w5, hup, hM5, hg5, hz5⟩ := MapIs.run_update (P := Try.prog) (w := (W1.alloc (.cells (ccA c2 c3 c4) 74)).drew) (g := oneF (ccA c2 c3 c4)) (k := .int .i64 0) (v := .agg (ccA c2 c3 c4)) ((k4.alloc (.cells (ccA c2 c3 c4) 74)).drew) Try.underlying112 Try.underlying3 (show MapKept.IsKey (.int .i64) (.int .i64 0) from rfl) rfl (oneF_miss (ccA c2 c3 c4))
    have hm1 : (W1.alloc (.cells (ccA c2 c3 c4) 74)).drew.cell? ⟨gt, 6, none⟩ = some (.map (some gm)) := by
      show (W1.alloc (.cells (ccA c2 c3 c4) 74)).cell? _ = _
      rw [World.cell?_alloc_past _ _ _ (World.block_lt_of_cell? _ _ kt6)]; exact kt6
    have m2 : gs ≠ gm := fun e => by obtain ⟨_, _, hx, _⟩ := hM; rw [← e, hgs] at hx; cases hx
    have m1 : gt ≠ gm := fun e => by obtain ⟨_, _, hx, _⟩ := hM; rw [← e] at hx; simp [World.cell?, hx] at ht6
    have B5 : Below w.heap.size w w5 := ((k3.alloc k3.size _).drew).grown hg5 (by rw [size_drew', World.size_alloc]; exact Nat.le_succ_of_le k3.size) (fun q hq => by cases hq; exact n5)
    have H5 : ∀ k o, k ≠ gm → W1.heap[k]? = some o → w5.heap[k]? = some o := fun k o hk ho => (hg5.block k (by rw [size_drew', World.size_alloc]; exact Nat.lt_succ_of_lt (Array.getElem?_eq_some_iff.1 ho).1) (by simpa using hk)).trans (hp_drew (hp_alloc ho))
    have C5 : ∀ j v, gt ≠ gm → wc.cell? ⟨gt, j, none⟩ = some v → w5.cell? ⟨gt, j, none⟩ = some v := by
      intro j v hk hv
      have hlt := World.block_lt_of_cell? _ _ hv
      have e1 := k1 gt (Ne.symm n1)
      have hlt1 : gt < W1.heap.size := by
        have e2 : gt < wc.heap.size := hlt
        have e3 : wc.heap[gt]? = some wc.heap[gt] := Array.getElem?_eq_getElem e2
        exact (Array.getElem?_eq_some_iff.1 (e1.trans e3)).1
      refine (World.cell?_of_block (a := ⟨gt, j, none⟩) ?_).trans hv
      exact ((hg5.block gt (by rw [size_drew', World.size_alloc]; exact Nat.lt_succ_of_lt hlt1) (by simpa using hk)).trans (Below.heap_alloc W1 _ gt hlt1)).trans e1
    have E5 : ColsOne S (ccA c2 c3 c4) w (.returned (.pointer (some ⟨gt, 0, none⟩))) w5 := by
      refine ⟨gs, gt, gn, gm, oneF (ccA c2 c3 c4), rfl, B5, ?_, ?_, ?_, ?_, H5 gn _ n3 k2, hM5, rfl, n1, n2, n3, n4, ?_⟩
      · exact C5 39 _ m1 ht39
      · exact C5 6 _ m1 ht6
      · exact C5 4 _ m1 ht4
      · exact H5 gs _ m2 ((k1 gs (Ne.symm n2)).trans hgs)
      · exact (Array.getElem?_eq_some_iff.1 (H5 gn _ n3 k2)).1
    have HE5 := Lib.hid E5
    go_region
    all_goals
      go_wp2_with fail
      rw [rounds_succ]
      go_wp2_with fail
      go_ret
      exact HE5.out
end Go.Proofs.Ytlppbalnjogkoaa
