/- Dividing a text: the walk of zzSplit of the package pub-pinstripe/pub/gopretty/text. Texts of at most 2^40 bytes, and what is made of them. -/
import Derived.Test.YtimdmdjkkgdohaaGreatDoorProg
import Derived.Test.YtimdmdjkkgdohaaGreatDoorBase
import Derived.Test.YtimdmdjkkgdohaaGreatDoorTxtTI
import Derived.WalkKit
import Derived.Handy
import Derived.Lib.AppendStr
import Derived.Laws.OwnMore
import Derived.WalkLawsBesides
namespace Go.Proofs.YtimdmdjkkgdohaaGreatDoor
open Go.RowKit
set_option linter.unusedVariables false
theorem halt_T {p : Prop} (h : Hid p) : p := h
theorem resume_T {p : Prop} (h : p) : Hid p := h
theorem infoStr_T : (Tryz.prog.info? 9).map (fun i => (i.zero, i.size, i.bytes)) = some (some (.string ⟨#[]⟩), 1, 16) := by kernel_rfl
set_option maxHeartbeats 4000000 in
set_option maxRecDepth 100000 in
theorem split_T (s sep : ByteArray) (w : World) (ho : 0 < sep.size) (ho2 : sep.size ≤ 1000) (hb : s.size ≤ 1099511627776) :
    Calls Tryz.prog 48 #[.string s, .string sep] w (SplitRet w (sp sep.data.toList s.data.toList)) := by
  obtain ⟨i0, hi, hz0, hz1, hz2⟩ := info_parts infoStr_T
  have g0' : ((sep.size : Int) == 0) = false := by rw [beq_eq_false_iff_ne]; omega
  have hzo := Lib.hid (Lib.size_eq sep)
  have hzs := Lib.hid (Lib.size_eq s)
  go_enter Tryz.func48, Tryz.ntmps48
  go_wp2_with fail
  go_loopw [0, 5] (fun sv v wr => ∃ (sc : ByteArray) (out : List (List UInt8)) (f : Nat), sv = .string sc ∧ sc.size ≤ s.size ∧ sc.size ≤ f ∧ out.length + sc.size ≤ s.size ∧ Hid (sp sep.data.toList s.data.toList = out ++ spF sep.data.toList f sc.data.toList) ∧
      wr.ownsRow w.heap.size 9 1 v out.length (out.map strV) ∧ Hid (Below w.heap.size w wr)) (fun sv _ _ => (strOf sv).size)
  case atStart => exact ⟨s, [], s.size, rfl, Nat.le_refl _, Nat.le_refl _, by simp, Lib.hid (by rw [hzs.out]; rfl), World.ownsRow_nil _ _ _ _, Lib.hid (Below.refl _ _)⟩
  case round =>
    obtain ⟨sc, out, f, rfl, hsc, hf, hlen, hrep, hown, HB⟩ := hrel
    obtain ⟨wo, rfl⟩ : ∃ wo : World, wo = wr := ⟨_, rfl⟩
    have Hx := Lib.hid (index_T sc sep wo (by omega) (by omega))
    have hzc := Lib.hid (Lib.size_eq sc)
    have hBs := HB.out.size
    cases hix : idx sep.data.toList sc.data.toList with
    | none =>
      rw [zidx_none hix] at Hx
      have Hrep := Lib.hid (show sp sep.data.toList s.data.toList = out ++ [sc.data.toList] by rw [hrep.out, spF_none _ _ _ hix])
      clear hix hrep
      go_wp2_with (first
        | (go_at_call 63; refine Hx.out.mono ?_; rintro e w' ⟨rfl, rfl⟩)
        | (at_builtin; refine halt_T ?_))
      refine resume_T ?_
      refine wpList_append_own _ rfl _ _ 70 rfl w.heap.size 9 i0 (.string ⟨#[]⟩) 1 16 Tryz.underlying70 hi hz0 hz1 hz2 rfl (by decide) _ _ _ rfl (hown.alloc _) ⟨wo.heap.size, 0, none⟩ 1 1 [.string sc] rfl rfl (oneS_at (heap_alloc_new wo _)) (by simp [Value.oneCell']) (by unfold maxLen; omega) (by omega) (by simp; omega) ?_
      intro v' w1 hown1 hgrow _
      have HB1 := Lib.hid ((HB.out.alloc hBs _).grown hgrow (by simp; omega) (fun k hk => (hown.lt k hk).1))
      have Hown1 := Lib.hid (show w1.ownsRow w.heap.size 9 1 v' (out ++ [sc.data.toList]).length ((out ++ [sc.data.toList]).map strV) by
        rw [List.length_append, List.map_append]; rw [← strV_eq] at hown1; exact hown1)
      clear hown1 hgrow
      go_wp2
      go_ret
      exact ⟨v', rfl, by rw [Hrep.out]; exact Hown1.out, HB1.out⟩
    | some n =>
      rw [zidx_some hix] at Hx
      obtain ⟨hn1, hn2⟩ := idx_some _ _ _ hix
      rw [← hzc.out, ← hzo.out] at hn1
      obtain ⟨f', rfl⟩ : ∃ f', f = f' + 1 := ⟨f - 1, by omega⟩
      have hs2 : (sc.extract (n + sep.size) sc.size).size = sc.size - (n + sep.size) := by
        rw [Lib.size_eq, Lib.extract_data, List.length_take, List.length_drop, ← hzc.out]; omega
      have d1 : (sc.extract 0 n).data.toList = sc.data.toList.take n := by rw [Lib.extract_data]; simp
      have d2 : (sc.extract (n + sep.size) sc.size).data.toList = sc.data.toList.drop (n + sep.size) := by
        rw [Lib.extract_data, List.take_of_length_le (by rw [List.length_drop, ← hzc.out]; omega)]
      have Hrep := Lib.hid (show sp sep.data.toList s.data.toList = (out ++ [sc.data.toList.take n]) ++ spF sep.data.toList f' (sc.extract (n + sep.size) sc.size).data.toList by
        rw [hrep.out, spF_some _ _ _ _ hix, d2, ← hzo.out]; simp [List.append_assoc])
      have hsA := fun W => slice_str_hi (P := Tryz.prog) Tryz.underlying9 sc (n : Int) n rfl (by omega) W
      have hsB := fun W => slice_str_lo (P := Tryz.prog) Tryz.underlying9 sc ((n : Int) + (sep.size : Int)) (n + sep.size) (by simp) (by omega) W
      have Hd1 := Lib.hid d1
      have Hs2 := Lib.hid hs2
      clear hix hrep d2 d1 hs2 hn2
      go_wp2_with (first
        | (go_at_call 63; refine Hx.out.mono ?_; rintro e w' ⟨rfl, rfl⟩)
        | (at_builtin; refine halt_T ?_))
      refine resume_T ?_
      refine wpList_append_own _ rfl _ _ 70 rfl w.heap.size 9 i0 (.string ⟨#[]⟩) 1 16 Tryz.underlying70 hi hz0 hz1 hz2 rfl (by decide) _ _ _ rfl (hown.alloc _) ⟨wo.heap.size, 0, none⟩ 1 1 [.string (sc.extract 0 n)] rfl rfl (oneS_at (heap_alloc_new wo _)) (by simp [Value.oneCell']) (by unfold maxLen; omega) (by omega) (by simp; omega) ?_
      intro v' w1 hown1 hgrow _
      have HB1 := Lib.hid ((HB.out.alloc hBs _).grown hgrow (by simp; omega) (fun k hk => (hown.lt k hk).1))
      have hown2 : w1.ownsRow w.heap.size 9 1 v' (out ++ [sc.data.toList.take n]).length ((out ++ [sc.data.toList.take n]).map strV) := by
        rw [List.length_append, List.map_append, ← Hd1.out]; rw [← strV_eq] at hown1; exact hown1
      clear hown1 hgrow
      go_wp2_with fail
      go_roundw
      case rel =>
        exact ⟨sc.extract (n + sep.size) sc.size, out ++ [sc.data.toList.take n], f', rfl, by rw [Hs2.out]; omega, by rw [Hs2.out]; omega, by rw [Hs2.out, List.length_append, List.length_singleton]; omega, Hrep, hown2, HB1⟩
      case measure => simp [strOf]; omega
end Go.Proofs.YtimdmdjkkgdohaaGreatDoor
