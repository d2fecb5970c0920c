/- The reference's cache: got; a cache made. At most 100000 entries, each key once. -/
import Derived.Test.YtnggdeggcflodaaLr9
namespace Go.Proofs.Ytnggdeggcflodaa
open Go.RowKit Go.MapKept
set_option linter.unusedVariables false
theorem SpcR.cnt {w w1 : World} {B cb : Nat} {n h1 h2 z1 z2 : Int} {v : Value} {l : List (Int × Int)} (h : SpcR w B cb n h1 h2 v l) (hp : Put w w1 cb) (hb : Blk w1 cb tS #[.int .i64 n, v, .int .i64 z1, .int .i64 z2]) : SpcR w1 B cb n z1 z2 v l := by
  refine ⟨hb, h.row.kept hp.grown ?_, h.Bc⟩
  by_cases hn : v.ownBlock = none
  · exact .inl hn
  · exact .inr fun e => h.ne_own e.symm
def GotRet (B cb n : Nat) (k : Int) (E : List (Int × Int)) (w : World) (e : Ending) (w' : World) : Prop :=
  ((∃ p, E.find? (fun q => decide (q.1 = k)) = some p ∧ e = .returned (.tuple #[.int .i64 p.2, .bool true])) ∨ ((∀ p ∈ E, p.1 ≠ k) ∧ e = .returned (.tuple #[.int .i64 0, .bool false]))) ∧ Spc w' B cb n (getE k E) ∧ Sx B w w'
set_option maxHeartbeats 4000000 in
set_option maxRecDepth 100000 in
theorem got_any (B cb n : Nat) (E : List (Int × Int)) (k : Int) (w : World) (h : Spc w B cb n E) :
    Calls Try.prog 9 #[.pointer (some ⟨cb, 0, none⟩), .int .i64 k] w (GotRet B cb n k E w) := by
  obtain ⟨v0, h1, h2, hR, hK, hn1, hn2, hn3⟩ := h
  have hP := place_any B cb n h1 h2 k v0 E w hR (by omega)
  have f2 : w.cell? ⟨cb, 2, none⟩ = some (.int .i64 h1) := hR.blk.cell 2 rfl
  have f3 : w.cell? ⟨cb, 3, none⟩ = some (.int .i64 h2) := hR.blk.cell 3 rfl
  have HR := Lib.hid hR
  have HK := Lib.hid hK
  clear hR hK
  go_enter Try.func9, Try.ntmps9
  go_wp2_with (go_at_call 10; refine hP.mono ?_)
  rintro e w1 ⟨rfl, hcase⟩
  clear hP
  rcases hcase with ⟨i, hi, hp, _, rfl⟩ | ⟨hno, rfl⟩
  · obtain ⟨E1, p, E2, rfl, rfl, rfl⟩ := placed hi hp
    have HE := Lib.hid (outE_pmid HK.out)
    have HFd := Lib.hid (find_pmid HK.out)
    have hi0 : (0 : Int) ≤ (E1.length : Int) := by omega
    have Hz := Lib.hid hn1
    clear hi hp hn1
    go_wp2_with ((with_reducible refine gate_st (t := 3) rfl ?_); refine halt_L ?_)
    refine resume_L ?_
    refine wpList_put HR.out.blk (o := 2) (v := .int .i64 _) (by simp) rfl rfl rfl infoI ?_
    intro w1 hb1 p1
    have r1 := HR.out.cnt p1 hb1
    have b1 := (Sx.refl B w).put p1 HR.out.lt HR.out.Bc HR.out.blk
    have hT := taken_any B cb n _ _ v0 E1 p E2 w1 r1 (by have := Hz.out; omega)
    have HB1 := Lib.hid b1
    clear f2 f3 hb1 r1 b1 p1
    go_wp2_with (go_at_call 11; refine hT.mono ?_)
    rintro e w2 ⟨rfl, ⟨v1, r2⟩, b2⟩
    obtain ⟨A, cap, rfl, hc1, hc2, _⟩ := r2.form
    have HR2 := Lib.hid (r2.alloc (.cells #[.int .i64 p.1, .int .i64 p.2] tP))
    have HB2 := Lib.hid ((HB1.out.trans b2).alloc r2.lt (.cells #[.int .i64 p.1, .int .i64 p.2] tP))
    have HN2 := Lib.hid (Blk.new w2 tP #[.int .i64 p.1, .int .i64 p.2])
    have HS2 := Lib.hid (show (w2.alloc (.cells #[.int .i64 p.1, .int .i64 p.2] tP)).heap.size = w2.heap.size + 1 by simp)
    have HL := Lib.hid (show (E1 ++ E2).length + 1 ≤ n by have := Hz.out; simp at this ⊢; omega)
    have hN : (E1 ++ E2).length ≤ 1000000 := by have := HL.out; omega
    have HGE := Lib.hid (show ¬ some w2.heap.size = (Value.slice A (E1 ++ E2).length cap).ownBlock from fun e => by have := (r2.row.lt _ e.symm).2; omega)
    have HGc := Lib.hid (show w2.heap.size ≠ cb by have := r2.blk.lt; omega)
    clear hT r2 b2 hi0
    go_wp2_with fail
    generalize hwx : World.alloc _ _ = wx at *
    clear hwx
    generalize w2.heap.size = ge at *
    generalize hE' : E1 ++ E2 = E' at *
    have hcx := HR2.out.blk.lt
    have hgx := HN2.out.lt
    have l1 : wx.cell? ⟨cb, 1, none⟩ = some (.slice A E'.length cap) := HR2.out.blk.cell 1 rfl
    have l2 : wx.cell? ⟨ge, 0, none⟩ = some (.int .i64 p.1) := HN2.out.cell 0 rfl
    have l3 : wx.cell? ⟨ge, 1, none⟩ = some (.int .i64 p.2) := HN2.out.cell 1 rfl
    have l1a : (wx.alloc (.cells #[.int .i64 p.1, .int .i64 p.2] tP)).cell? ⟨cb, 1, none⟩ = some (.slice A E'.length cap) := (World.cell?_alloc_past _ _ _ hcx).trans l1
    have HNw := Lib.hid (Blk.new wx tP #[.int .i64 p.1, .int .i64 p.2])
    have HRw := Lib.hid (HR2.out.alloc (.cells #[.int .i64 p.1, .int .i64 p.2] tP))
    obtain ⟨i0, hi, hz0, hz1, hzz⟩ := info_parts info39
    have hBx := HR2.out.lt
    go_region_law (first
      | (refine step_append_own _ rfl (.tmp 34) (.tmp 36) 28 rfl B tP i0 (.agg #[.int .i64 0, .int .i64 0]) 2 16 Try.underlying28 hi hz0 hz1 hzz rfl (by decide) (.slice A E'.length cap) E'.length (pc E') rfl (own_drewN HRw.out.row 1) ⟨wx.heap.size, 0, none⟩ 1 1 [.int .i64 p.1, .int .i64 p.2] rfl rfl (World.news_of_block (w := (wx.alloc (.cells #[.int .i64 p.1, .int .i64 p.2] tP)).drewN 1) HNw.out) (by simp [Value.oneCell']) (by unfold maxLen; omega) (by omega) (by simp; omega) ?_
         intro v3 w3 ho3 hg3
         have hg3 : (wx.alloc (.cells #[.int .i64 p.1, .int .i64 p.2] tP)).grownBy w3 (Value.slice A E'.length cap).ownBlock := ⟨hg3.os, hg3.tape, hg3.output, hg3.size, hg3.block⟩
         obtain ⟨A3, c3, rfl⟩ := own_slice ho3
         have hb3 := HRw.out.blk.grown hg3 (fun e => HRw.out.ne_own e)
         have k3 : w3.cell? ⟨cb, 1, none⟩ = some (.slice A E'.length cap) := hb3.cell 1 rfl
         have z3 : w3.frozen? ⟨cb, 1, none⟩ = false := hb3.frozen 1
         have hn3 : Blk w3 ge tP #[.int .i64 p.1, .int .i64 p.2] := (HN2.out.alloc (.cells #[.int .i64 p.1, .int .i64 p.2] tP)).grown hg3 (HGE.out)
         have HO3 := Lib.hid ho3
         have HG3 := Lib.hid hg3
         have HB3 := Lib.hid hb3
         have HN3 := Lib.hid hn3
         clear ho3 hg3 hb3 hn3))
    all_goals
      have q3 := put_set w3 cb 1 (.slice A3 (E'.length + 1) c3)
      have b3 := HB3.out.set 1 (.slice A3 (E'.length + 1) c3)
      have n3 := q3.blk HN3.out HGc.out
      have o3 : w3.ownsRow B tP 2 (.slice A3 (E'.length + 1) c3) (E' ++ [(p.1, p.2)]).length (pc (E' ++ [(p.1, p.2)])) := by rw [pc_snoc]; simpa using HO3.out
      obtain ⟨r4, b4⟩ := HRw.out.push HG3.out o3 b3 q3
      have HR4 := Lib.hid r4
      have HB4 := Lib.hid b4
      clear r4 b4 q3 b3 o3 k3 z3 l1 l2 l3 l1a
      generalize hw4 : World.setCell _ _ _ = w4 at *
      clear hw4
      have m1 : w4.cell? ⟨ge, 1, none⟩ = some (.int .i64 p.2) := n3.cell 1 rfl
      have HF := Lib.hid (show getE p.1 (E1 ++ p :: E2) = E' ++ [(p.1, p.2)] by unfold getE; rw [HFd.out, HE.out])
      clear n3
      go_wp2
      go_ret2
      exact ⟨.inl ⟨p, HFd.out, rfl⟩, ⟨_, _, _, HF.out ▸ HR4.out, keys_get HK.out, by rw [HF.out]; have := HL.out; simp; omega, hn2, hn3⟩, (HB2.out.alloc hBx (.cells #[.int .i64 p.1, .int .i64 p.2] tP)).trans HB4.out⟩
  · have HF := Lib.hid (show getE k E = E by unfold getE; rw [find_pnone hno])
    go_wp2_with ((with_reducible refine gate_st (t := 3) rfl ?_); refine halt_L ?_)
    refine resume_L ?_
    refine wpList_put HR.out.blk (o := 3) (v := .int .i64 _) (by simp) rfl rfl rfl infoI ?_
    intro w1 hb1 p1
    clear f2 f3
    go_wp2
    go_ret2
    exact ⟨.inr ⟨hno, rfl⟩, ⟨_, _, _, HF.out ▸ HR.out.cnt p1 hb1, by rw [HF.out]; exact HK.out, by rw [HF.out]; exact hn1, hn2, hn3⟩, (Sx.refl B w).put p1 HR.out.lt HR.out.Bc HR.out.blk⟩
end Go.Proofs.Ytnggdeggcflodaa
