/- The walk of Codes. Good texts alone. -/
import Derived.Test.YtimdmdjkkgdohaaGreatDoorPpH
import Derived.LoopN
import Derived.Maps.RangeWalk
namespace Go.Proofs.YtimdmdjkkgdohaaGreatDoor
open Go.RowKit Go.MapKept
set_option linter.unusedVariables false
theorem run_mk0 (W : World) : (Instr.makeSlice 32 (.int .i64 0) (.int .i64 0)).run Tryz.prog W = .ok (.slice (some ⟨W.heap.size, 0, none⟩) 0 0) (W.alloc (.cells #[] tI)) := by kernel_rfl
theorem own_ne {w : World} {B n c : Nat} {v : Value} {xs : List Value} {t : TypeId} (h : w.ownsRow B t 1 v n xs) (hc : ∀ {cs : Array Value} {g : Nat}, Blk w g t cs → g ≠ c) : some c ≠ v.ownBlock := fun e => by
  rcases h.2 with ⟨e2, _⟩ | ⟨g, cap, cur, e2, _, hgb, _⟩
  · rw [e2] at e; simp [Value.ownBlock] at e
  · rw [e2] at e
    simp [Value.ownBlock] at e
    exact hc hgb e.symm
theorem own_keep {w w' : World} {B n r : Nat} {v : Value} {xs : List Value} {t : TypeId} (h : w.ownsRow B t 1 v n xs) (hg : w.grownBy w' (some r)) (hc : ∀ {cs : Array Value} {g : Nat}, Blk w g t cs → g ≠ r) : w'.ownsRow B t 1 v n xs := by
  refine h.kept hg ?_
  by_cases hn : v.ownBlock = none
  · exact .inl hn
  · exact .inr (fun e => own_ne h hc e.symm)
theorem done_ok {w : World} {mb r : Nat} {l done : List Int} (h : CI w mb r l done) (hk : CsOk l) : done.length ≤ 108 := CsOk.len ⟨h.nd, fun c hc => hk.2 c (h.sub c hc)⟩
/-- What the sort leaves. -/
theorem sorted_own {w W' : World} {B g cap n : Nat} {zs : List Int} {os : Array Obj} (ho : w.ownsRow B tI 1 (.slice (some ⟨g, 0, none⟩) zs.length cap) zs.length (zs.map (Value.int .i64))) (hw : W' = Go.Sort.grow (Go.Sort.putRow (Value.int .i64) (Go.Sort.ahead w n) g 0 (zs.mergeSort fun x y => decide (x ≤ y)).toArray) os) :
    W'.ownsRow B tI 1 (.slice (some ⟨g, 0, none⟩) zs.length cap) zs.length ((srt zs).map (Value.int .i64)) ∧ w.grownBy W' (some g) := by
  subst hw
  rcases ho.2 with ⟨e, _⟩ | ⟨g', cap', cur, e, hb, hg, h3, h4, h5, h6⟩
  · cases e
  · injection e with e1 _ e3
    injection e1 with e1
    injection e1 with e1 _
    subst e1 e3
    exact ⟨Go.ownsRow_sortedI (List.length_mergeSort _) hb hg h3 h4 h5, Go.grownBy_sortedI _⟩
theorem holds_own {w : World} {B g cap : Nat} {zs : List Int} (ho : w.ownsRow B tI 1 (.slice (some ⟨g, 0, none⟩) zs.length cap) zs.length (zs.map (Value.int .i64))) : Go.Sort.Holds (Value.int .i64) w g 0 zs.toArray ∧ g < w.heap.size ∧ B ≤ g := by
  rcases ho.2 with ⟨e, _⟩ | ⟨g', cap', cur, e, hb, hg, h3, h4, h5, h6⟩
  · cases e
  · injection e with e1 _ e3
    injection e1 with e1
    injection e1 with e1 _
    subst e1 e3
    exact ⟨Go.holds_of_blockI hg (by rw [Nat.mul_one] at h6; exact h6), (Array.getElem?_eq_some_iff.1 hg).1, hb⟩
set_option maxHeartbeats 2000000 in
set_option maxRecDepth 100000 in
theorem codes_none {w : World} {B b : Nat} {v : Value} {p : PS} (h : PSt w B b (.map none) v p) : Calls Tryz.prog 19 #[.pointer (some ⟨b, 0, none⟩)] w (CodesRet [] w) := by
  have hmk := run_mk0 w
  have hW1 : Below w.heap.size w (w.alloc (.cells #[] tI)) := (Below.refl _ w).alloc (Nat.le_refl _) _
  have f0 := (h.below hW1 (Nat.le_refl _)).cell0
  have hrg := run_range_nilMap (P := Tryz.prog) (w.alloc (.cells #[] tI)) 42 _ _ Tryz.underlying42
  have hnx := fun ty => run_next_nilMap (P := Tryz.prog) (w.alloc (.cells #[] tI)) ty 0 0 #[]
  have e1 : (w.alloc (.cells #[] tI)).heap.size = w.heap.size + 1 := by simp
  rw [e1] at hrg hnx
  have hW2 : Below w.heap.size w ((w.alloc (.cells #[] tI)).alloc (.mapIter none 0 #[] 0)) := hW1.alloc (by simp) _
  have ho : ((w.alloc (.cells #[] tI)).alloc (.mapIter none 0 #[] 0)).ownsRow w.heap.size tI 1 (.slice (some ⟨w.heap.size, 0, none⟩) ([] : List Int).length 0) ([] : List Int).length (([] : List Int).map (Value.int .i64)) := by
    refine ⟨rfl, .inr ⟨w.heap.size, 0, #[], rfl, Nat.le_refl _, ?_, Nat.le_refl _, by unfold maxLen; omega, rfl, rfl⟩⟩
    exact (heap_alloc_old _ _ (by simp)).trans (heap_alloc_new w _)
  obtain ⟨hh1, hh2, hh3⟩ := holds_own ho
  have hS := Tryz.sort_Ints w.heap.size 0 0 [] _ hh1 hh2 (by decide)
  have HO := Lib.hid ho
  have HW := Lib.hid hW2
  clear h hW1 hW2 e1 ho hh1 hh2 hh3
  go_enter Tryz.func19, Tryz.ntmps19
  go_wp2_with fail
  refine wp_loop_rounds 1 ?_
  rw [rounds_succ]
  go_wp2_with (go_at_call 28; refine halt_H ?_)
  refine resume_H ?_
  refine hS.mono ?_
  rintro e w2 ⟨rfl, n, os, hw2⟩
  obtain ⟨h1, h2⟩ := sorted_own HO.out hw2
  have HO2 := Lib.hid h1
  have HW2 := Lib.hid (HW.out.grown h2 (by simp; omega) (fun k hk => by injection hk with hk; omega))
  clear h1 h2 hw2 hS
  go_wp2
  go_ret
  exact ⟨_, rfl, by rw [show (srt []).length = ([] : List Int).length by simp [srt]]; exact HO2.out, HW2.out, _, _, _, rfl⟩
set_option maxHeartbeats 2000000 in
set_option maxRecDepth 100000 in
theorem codes_some {w : World} {B b : Nat} {m v : Value} {p : PS} {l : List Int} (h : PSt w B b m v p) (hl : p.cs = some l) (hk : CsOk l) : Calls Tryz.prog 19 #[.pointer (some ⟨b, 0, none⟩)] w (CodesRet l w) := by
  have hmp := h.map
  rw [hl] at hmp
  obtain ⟨mb, rfl, hB, hm⟩ := hmp
  obtain ⟨i0, hi0, hz0, hz1, hz2⟩ := info_parts infoI1
  have hmk := run_mk0 w
  have hW1 : Below w.heap.size w (w.alloc (.cells #[] tI)) := (Below.refl _ w).alloc (Nat.le_refl _) _
  have f0 := (h.below hW1 (Nat.le_refl _)).cell0
  have HM := Lib.hid (hm.alloc (.cells #[] tI))
  have HW1 := Lib.hid hW1
  have HK := Lib.hid hk
  have hso : (w.alloc (.cells #[] tI)).heap[w.heap.size]? = some (.cells #[] tI (0, 0)) := heap_alloc_new w _
  have HSO := Lib.hid hso
  clear h hm hk hW1 hso
  go_enter Tryz.func19, Tryz.ntmps19
  go_wp2_with ((with_reducible refine gate_rg rfl ?_); refine halt_L ?_)
  refine resume_L ?_
  refine wpList_rg HM.out rfl ?_
  intro w2 hci hb2 hsz2
  have hs1 : (w.alloc (.cells #[] tI)).heap.size = w.heap.size + 1 := by simp
  rw [hs1] at hci hb2 hsz2 ⊢
  have HCI := Lib.hid hci
  have HB2 := Lib.hid (HW1.out.trans (hb2.mono (by omega)))
  have HO2 := Lib.hid (show w2.ownsRow w.heap.size tI 1 (.slice (some ⟨w.heap.size, 0, none⟩) ([] : List Int).length 0) ([] : List Int).length (([] : List Int).map (Value.int .i64)) from
    ⟨rfl, .inr ⟨w.heap.size, 0, #[], rfl, Nat.le_refl _, (hb2.block w.heap.size (by omega)).trans HSO.out, Nat.le_refl _, by unfold maxLen; omega, rfl, rfl⟩⟩)
  obtain ⟨r, hr⟩ : ∃ r, w.heap.size + 1 = r := ⟨_, rfl⟩
  rw [hr] at HCI hsz2 ⊢
  have HRw := Lib.hid (show w.heap.size ≤ r by omega)
  clear hci hb2 hs1 f0 hmk hr hsz2
  go_frame
  go_wp2_with fail
  go_loopw [3] (fun cv wr => ∃ (done : List Int) (g L cap : Nat), cv = .slice (some ⟨g, 0, none⟩) L cap ∧ L ≤ 108 ∧ L ≤ cap ∧ cap ≤ 9223372036854775807 ∧ Hid (done.length = L) ∧ Hid (wr.ownsRow w.heap.size tI 1 (.slice (some ⟨g, 0, none⟩) L cap) L (done.map (Value.int .i64))) ∧ Hid (CI wr mb r l done) ∧ Hid (Below w.heap.size w wr)) (fun _ wr => wr.rangeLeft mb r)
  case atStart => exact ⟨[], w.heap.size, 0, 0, rfl, by omega, by omega, by omega, Lib.hid rfl, HO2, HCI, HB2⟩
  case round =>
    clear HO2 HCI HB2
    obtain ⟨done, g, L, cap, rfl, hL1, hL2, hL3, HL, HO, HCI, HB⟩ := hrel
    obtain ⟨wr, rfl⟩ : ∃ wz : World, wz = wr := ⟨_, rfl⟩
    go_wp2_with ((with_reducible refine gate_nx rfl ?_); refine halt_L ?_)
    refine resume_L ?_
    refine wpList_nx HCI.out rfl ?_ ?_
    · intro ha
      have HP := Lib.hid (HCI.out.perm HK.out.1 ha)
      obtain rfl := HL.out
      obtain ⟨hh1, hh2, hh3⟩ := holds_own HO.out
      have hS := Tryz.sort_Ints g 0 cap done wr hh1 hh2 (by omega)
      have HG := Lib.hid hh3
      clear hh1 hh2 hh3 ha
      go_wp2_with (go_at_call 28; refine halt_H ?_)
      refine resume_H ?_
      refine hS.mono ?_
      rintro e w2 ⟨rfl, n, os, hw2⟩
      obtain ⟨h1, h2⟩ := sorted_own HO.out hw2
      have HO2 := Lib.hid h1
      have HW2 := Lib.hid (HB.out.grown h2 HB.out.size (fun k hk => by injection hk with hk; have := HG.out; omega))
      clear h1 h2 hw2 hS
      go_wp2
      go_ret
      refine ⟨_, rfl, ?_, HW2.out, _, _, _, rfl⟩
      rw [← srt_perm HP.out]
      have e1 : (srt done).length = done.length := List.length_mergeSort _
      rw [e1]
      exact HO2.out
    · intro c w' hc hci hg hsz hen hlt
      have hne : ∀ {cs : Array Value} {g : Nat}, Blk wr g tI cs → g ≠ r := fun h => (HCI.out.lts.2.2 h).2
      have HOw := Lib.hid (own_keep HO.out hg hne)
      have hlr := HCI.out.lts
      have hlr2 := hci.lts
      have HCIw := Lib.hid hci
      have HBw := Lib.hid (HB.out.grown hg HB.out.size (fun k hk => by
        injection hk with hk
        subst hk
        rcases Nat.lt_or_ge r w.heap.size with h | h
        · exact absurd h (by have := HRw.out; omega)
        · exact h))
      have HLT := Lib.hid hlt
      have hd108 := done_ok hci HK.out
      have HD108 := Lib.hid hd108
      clear hci hg hlt hne hlr hlr2 hsz
      go_wp2_with (at_builtin; refine halt_H ?_)
      refine resume_H ?_
      refine wpList_append_own _ rfl _ _ 32 rfl w.heap.size 3 i0 (.int .i64 0) 1 8 Tryz.underlying32 hi0 hz0 hz1 hz2 rfl (by decide) _ L _ rfl (HOw.out.alloc _) ⟨w'.heap.size, 0, none⟩ 1 1 [.int .i64 c] rfl rfl (oneS_at (heap_alloc_new w' _)) (by simp [Value.oneCell']) (by unfold maxLen; omega) (by omega) (by have := HBw.out.size; simp; omega) ?_
      intro v' w3 hown1 hgrow _
      have hb1 : Below w'.heap.size w' (w'.alloc (.cells #[.int .i64 c] tI)) := (Below.refl _ w').alloc (Nat.le_refl _) _
      have hlts := HCIw.out.lts
      have hblk : ∀ {x : Nat}, (∀ {cs : Array Value} {g : Nat}, Blk w' g tI cs → g ≠ x) → x < w'.heap.size → w3.heap[x]? = w'.heap[x]? := fun {x} h1 h2 =>
        (hgrow.block x (by simp; omega) (own_ne HOw.out h1)).trans (hb1.block x h2)
      obtain ⟨hci3, hlt3⟩ := HCIw.out.keep (hblk (fun h => (hlts.2.2 h).1) hlts.1) (hblk (fun h => (hlts.2.2 h).2) hlts.2.1)
      have HCI3 := Lib.hid hci3
      have HLT3 := Lib.hid (show w3.rangeLeft mb r < wr.rangeLeft mb r by rw [hlt3]; exact HLT.out)
      have HB3 := Lib.hid ((HBw.out.alloc HBw.out.size _).grown hgrow (by have := HBw.out.size; simp; omega) (fun k hk => (HOw.out.lt k hk).1))
      obtain ⟨g3, cap3, rfl, hc31, hc32⟩ := own_some hown1 (by omega)
      have HO3 := Lib.hid hown1
      have hM3 : cap3 ≤ 9223372036854775807 := hc32
      have hL5 : L + 1 ≤ 108 := by have h1 := HD108.out; have h2 := HL.out; rw [List.length_append] at h1; simp at h1; omega
      clear hown1 hgrow hb1 hlts hblk hci3 hlt3 hc32 hd108 hen
      go_wp2_with fail
      go_roundw
      case rel => exact ⟨done ++ [c], g3, L + 1, cap3, rfl, hL5, hc31, hM3, Lib.hid (by rw [List.length_append, HL.out]; rfl), Lib.hid (by rw [List.map_append]; exact HO3.out), HCI3, HB3⟩
      case measure => exact HLT3.out
theorem codes_any {w : World} {B b : Nat} {m v : Value} {p : PS} (h : PSt w B b m v p) (hk : CsOk (p.cs.getD [])) : Calls Tryz.prog 19 #[.pointer (some ⟨b, 0, none⟩)] w (CodesRet (p.cs.getD []) w) := by
  cases hc : p.cs with
  | none =>
    have hm := h.map
    rw [hc] at hm
    obtain rfl : m = .map none := hm
    exact codes_none h
  | some l =>
    rw [hc] at hk
    exact codes_some h hc hk
end Go.Proofs.YtimdmdjkkgdohaaGreatDoor
