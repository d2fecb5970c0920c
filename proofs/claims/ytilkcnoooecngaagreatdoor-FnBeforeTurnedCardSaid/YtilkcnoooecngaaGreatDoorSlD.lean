/- What lies laid for Go's own ParseFloat, and stays; floatBits of no digits. -/
import Derived.Test.YtilkcnoooecngaaGreatDoorStP
import Derived.Test.YtilkcnoooecngaaGreatDoorSsA
import Derived.Test.YtilkcnoooecngaaGreatDoorSxA
import Derived.Test.YtilkcnoooecngaaGreatDoorSeA
import Derived.Test.YtilkcnoooecngaaGreatDoorSrA
namespace Go.Proofs.YtilkcnoooecngaaGreatDoor
open Go.RowKit
set_option linter.unusedVariables false
def IsErr (v : Value) : Prop := v = .nilIface ∨ ∃ te pe, v = .iface te pe
structure SLaid (w : World) : Prop where
  fb : ∃ pb po pc cb co cap, SFb w pb po pc cb co cap
  ex : ∃ pb po pc, S10 w pb po pc
  tb : STab w
  o4 : Own0 w 4
  o2 : Own0 w 2
  opt : w.cell? ⟨3, 0, none⟩ = some (.bool true)
  e0 : ∃ ev, w.cell? ⟨0, 0, none⟩ = some ev ∧ IsErr ev
  e1 : ∃ ev, w.cell? ⟨1, 0, none⟩ = some ev ∧ IsErr ev
theorem Own0.below {w w' : World} {b : Nat} (h : Own0 w b) (hb : Below w.heap.size w w') : Own0 w' b := by
  obtain ⟨c, t, h⟩ := h
  exact ⟨c, t, (hb.block b (Array.getElem?_eq_some_iff.1 h).1).trans h⟩
theorem SFb.below {w w' : World} {pb po pc cb co cap : Nat} (h : SFb w pb po pc cb co cap) (hb : Below w.heap.size w w') : SFb w' pb po pc cb co cap :=
  ⟨(hb.cell (cell_lt h.i0)).trans h.i0, (hb.cell (cell_lt h.i1)).trans h.i1, (hb.cell (cell_lt h.i2)).trans h.i2, (hb.cell (cell_lt h.pv)).trans h.pv,
   fun i hi => (hb.cell (cell_lt (h.pt i hi))).trans (h.pt i hi), h.ch.keep (hb.block _ h.ch.lt1) (hb.block _ h.ch.lt2)⟩
theorem SLaid.below {w w' : World} (h : SLaid w) (hb : Below w.heap.size w w') : SLaid w' := by
  refine ⟨?_, ?_, h.tb.below hb, h.o4.below hb, h.o2.below hb, (hb.cell (cell_lt h.opt)).trans h.opt, ?_, ?_⟩
  · obtain ⟨pb, po, pc, cb, co, cap, h⟩ := h.fb
    exact ⟨pb, po, pc, cb, co, cap, h.below hb⟩
  · obtain ⟨pb, po, pc, h⟩ := h.ex
    refine ⟨pb, po, pc, (hb.cell (cell_lt h.i0)).trans h.i0, (hb.cell (cell_lt h.pv)).trans h.pv, fun i hi => ?_⟩
    obtain ⟨x, hx⟩ := h.pt i hi
    exact ⟨x, (hb.cell (cell_lt hx)).trans hx⟩
  · obtain ⟨ev, h1, h2⟩ := h.e0
    exact ⟨ev, (hb.cell (cell_lt h1)).trans h1, h2⟩
  · obtain ⟨ev, h1, h2⟩ := h.e1
    exact ⟨ev, (hb.cell (cell_lt h1)).trans h1, h2⟩
theorem SLaid.from {w w0 w' : World} (h : SLaid w0) (hb0 : w0.heap.size ≤ w.heap.size) (hb : Below w0.heap.size w0 w') : SLaid w' := h.below hb
theorem SFx.fresh {w : World} {b pb po pc cb co cap : Nat} (h : SFb w pb po pc cb co cap) (hb : w.heap.size ≤ b) : SFx b pb cb :=
  ⟨fun e => by have := cell_lt h.i0; simp only at this; omega, fun e => by have := cell_lt h.pv; simp only at this; omega, fun e => by have := cell_lt (h.pt 0 (by decide)); simp only at this; omega, fun e => by have := h.ch.lt1; omega, fun e => by have := h.ch.lt2; omega⟩
theorem ret_N {Q : Exit → Act → World → Prop} {a : Act} {w : World} (h : Q .ret a w) : Exit.noGoto Q .ret a w := h
set_option maxHeartbeats 4000000 in
set_option maxRecDepth 100000 in
theorem fb0_any {b : Nat} {D : Nat → Nat} {dp : Int} {ng tr : Bool} {w : World} (h : SD w b D 0 dp ng tr) (hL : SLaid w) :
    Calls Tryz.prog 51 #[.pointer (some ⟨b, 0, none⟩), .pointer (some ⟨4, 0, none⟩)] w fun e w' => (∃ (z : Int) (ov : Bool), e = .returned (.tuple #[.int .u64 z, .bool ov])) ∧ Put w w' b := by
  obtain ⟨pb, po, pc, cb, co, cap, hF⟩ := hL.fb
  have f0 := h.cnd
  have f3 := h.cng
  have i0 := hF.i0
  have i1 := hF.i1
  have i2 := hF.i2
  have HK := Lib.hid (Put.refl w b)
  clear h hF hL
  go_enter Tryz.func51, Tryz.ntmps51
  go_wp2
  refine wp_scope_two rfl rfl ?_
  go_wp2
  go_step3
  refine jumps_zero ?_
  go_wp2_with fail
  go_quiet (fail)
  cases ng
  · go_wp2
    refine ret_N (Q := bodyPost _ _ _) ?_
    go_ret2
    exact ⟨⟨_, false, rfl⟩, by repeat' (first | exact HK.out | refine Put.drewN ?_ _)⟩
  · go_wp2_with fail
    go_quiet (fail)
    go_wp2
    refine ret_N (Q := bodyPost _ _ _) ?_
    go_ret2
    exact ⟨⟨_, false, rfl⟩, by repeat' (first | exact HK.out | refine Put.drewN ?_ _)⟩
theorem rf_tr {s : ByteArray} {mant i : Nat} {exp : Int} {ng tr : Bool} (h : RfOk s mant exp ng tr true i) : tr = true → 1152921504606846976 ≤ mant := by
  obtain ⟨h1, h2, st, z, us, h3, h4, h5, h6, h7, h8, h9⟩ := h
  obtain ⟨o, ho, hn, hg, hu, ho1⟩ := strip_shift s
  have hro : rfO (bt s) s.size = o + 2 := by unfold rfO; rw [← h2, if_pos rfl, ho]
  have hh : o + 2 < s.size ∧ bt s o = 48 ∧ lw (bt s (o + 1)) = 120 := by
    unfold rfHx at h2
    rw [ho] at h2
    exact of_decide_eq_true h2.symm
  rw [hro] at h3
  have hn2 : s.size = ((stripB s).extract 2 (stripB s).size).size + (o + 2) := by
    simp; omega
  have hg2 : ∀ q, q < ((stripB s).extract 2 (stripB s).size).size → bt ((stripB s).extract 2 (stripB s).size) q = bt s (q + (o + 2)) := fun q hq => by
    rw [bt_extK 2 (stripB s) q (by omega), hg (q + 2) (by omega)]
    congr 1
    omega
  obtain ⟨i', mn, ex, hd, J⟩ := sFx_done hn2 hg2 (bt_lt s) h3
  intro ht
  have k1 := J.tr (by rw [← h7]; exact ht)
  have k2 := J.nm
  have k3 := J.lo (by omega)
  rw [show st.nm = 16 by omega] at k3
  have h15 : (16 : Nat) ^ (16 - 1) = 1152921504606846976 := by decide
  rw [h15] at k3
  omega
end Go.Proofs.YtilkcnoooecngaaGreatDoor
