/- Escaping a text for HTML: the walk of zzEscape. Texts of at most 1000 bytes. -/
import Derived.Test.YtfolhjdmccbjiaaGreatDoorProg
import Derived.Test.YtfolhjdmccbjiaaGreatDoorBase
import Derived.Test.YtfolhjdmccbjiaaGreatDoorTxt
import Derived.Test.YtfolhjdmccbjiaaGreatDoorHtP
import Derived.WalkKit
import Derived.Handy
import Derived.BigQuiet
import Derived.WalkLawsBesides
namespace Go.Proofs.YtfolhjdmccbjiaaGreatDoor
open Go.RowKit
set_option linter.unusedVariables false
theorem halt_H {p : Prop} (h : Hid p) : p := h
theorem resume_H {p : Prop} (h : p) : Hid p := h
theorem ixH (s : ByteArray) (p : Nat) (hp : p < s.size) (W : World) : (Instr.index 9 (.string s) (.int .i64 (p : Int))).run Tryz.prog W = .ok (.int .u8 ((s[p]'hp).toNat : Int)) W := by
  rw [run_index_string W 9 s .i64 (p : Int) Tryz.underlying9, dif_pos ⟨by omega, by omega⟩]; rfl
theorem infoByte_H : (Tryz.prog.info? 5).map (fun i => (i.zero, i.size, i.bytes)) = some (some (.int .u8 0), 1, 1) := by kernel_rfl
theorem mkH_size (l : List UInt8) : (⟨l.toArray⟩ : ByteArray).size = l.length := by simp [ByteArray.size]
theorem take_esc (s : ByteArray) (k : Nat) (h : k < s.size) : esc (s.data.toList.take (k + 1)) = esc (s.data.toList.take k) ++ escB (s[k]'h) := by
  have hk : k < s.data.toList.length := by rw [← Lib.size_eq]; exact h
  rw [List.take_succ_eq_append_getElem hk, esc_app]
  have e : s.data.toList[k]'hk = s[k]'h := rfl
  rw [e]; simp [esc]
def EscRet (s : ByteArray) (w : World) (e : Ending) (w' : World) : Prop := e = .returned (.string ⟨(esc s.data.toList).toArray⟩) ∧ Below w.heap.size w w'
set_option maxHeartbeats 1000000 in
set_option maxRecDepth 100000 in
theorem esc_any (s : ByteArray) (w : World) (hs : s.size ≤ 1000) : Calls Tryz.prog 10 #[.string s] w (EscRet s w) := by
  obtain ⟨i0, hi, hz0, hz1, hz2⟩ := info_parts infoByte_H
  have hs' : (s.size : Int) ≤ 1000 := by omega
  go_enter Tryz.func10, Tryz.ntmps10
  go_wp2_with fail
  go_loopw [3, 4] (fun v iv wr => ∃ (k : Nat) (o : List UInt8), k ≤ s.size ∧ iv = .int .i64 (k : Int) ∧ Hid (o = esc (s.data.toList.take k)) ∧ o.length ≤ 5 * k ∧ wr.ownsRow w.heap.size 5 1 v o.length (bcells o) ∧ Hid (Below w.heap.size w wr)) (fun _ iv _ => s.size - (intOf iv).toNat)
  case atStart => exact ⟨0, [], Nat.zero_le _, rfl, Lib.hid (by simp [esc]), Nat.le_refl _, World.ownsRow_nil _ _ _ _, Lib.hid (Below.refl _ _)⟩
  case round =>
    obtain ⟨k, o, hk, rfl, ho, hol, hown, HB⟩ := hrel
    obtain ⟨wo, rfl⟩ : ∃ wo : World, wo = wr := ⟨_, rfl⟩
    have hBs := HB.out.size
    by_cases hlt : k < s.size
    · have hix := ixH s k hlt wo
      have ht := take_esc s k hlt
      rw [← ho.out] at ht
      have hcs := escB_cases (s[k]'hlt)
      generalize s[k]'hlt = c at *
      rcases hcs with ⟨t, ht5, hct, hce⟩ | ⟨n0, n1, n2, n3, n4, hce⟩
      · rw [hce] at ht
        have HT := Lib.hid ht
        have hnl := nm_len t
        have hnz := mkH_size (nm t)
        have HL := Lib.hid (show (o ++ nm t).length = o.length + (nm t).length by simp)
        have b1 : o.length + (⟨(nm t).toArray⟩ : ByteArray).size ≤ maxLen := by unfold maxLen; rw [hnz]; omega
        have b2 : o.length + (⟨(nm t).toArray⟩ : ByteArray).size ≤ 140737488355328 := by rw [hnz]; omega
        clear ht hce ho
        have h5 : t = 0 ∨ t = 1 ∨ t = 2 ∨ t = 3 ∨ t = 4 := by omega
        rcases h5 with rfl | rfl | rfl | rfl | rfl
        all_goals
          subst hct
          have hix' : (Instr.index 9 (.string s) (.int .i64 (k : Int))).run Tryz.prog wo = .ok (.int .u8 _) wo := hix
          simp only [sy] at hix'
          clear hix
          go_wp2_with (at_builtin; refine halt_H ?_)
          refine resume_H ?_
          refine Lib.wpList_append_own_string _ rfl _ _ 31 9 rfl w.heap.size 5 i0 Tryz.underlying31 Tryz.underlying9 hi hz0 hz1 hz2 _ _ _ rfl hown (⟨(nm _).toArray⟩ : ByteArray) rfl b1 b2 hBs ?_
          intro v' w1 hown1 hgrow _
          rw [bcells_str, ← bcells_append, hnz, ← HL.out] at hown1
          have HB1 := Lib.hid (HB.out.grown hgrow hBs (fun k hk => (hown.lt k hk).1))
          clear hgrow hown
          go_wp2_with fail
          go_roundw
          case rel => exact ⟨k + 1, _, by omega, by go_num, Lib.hid HT.out.symm, by rw [HL.out]; omega, hown1, HB1⟩
          case measure => simp [intOf]; omega
      · rw [hce] at ht
        have HT := Lib.hid ht
        have e0 : ((c.toNat : Int) == 38) = false := by rw [beq_eq_false_iff_ne]; exact fun e => n0 (UInt8.toNat_inj.1 (by show _ = 38; omega))
        have e1 : ((c.toNat : Int) == 60) = false := by rw [beq_eq_false_iff_ne]; exact fun e => n1 (UInt8.toNat_inj.1 (by show _ = 60; omega))
        have e2 : ((c.toNat : Int) == 62) = false := by rw [beq_eq_false_iff_ne]; exact fun e => n2 (UInt8.toNat_inj.1 (by show _ = 62; omega))
        have e3 : ((c.toNat : Int) == 34) = false := by rw [beq_eq_false_iff_ne]; exact fun e => n3 (UInt8.toNat_inj.1 (by show _ = 34; omega))
        have e4 : ((c.toNat : Int) == 39) = false := by rw [beq_eq_false_iff_ne]; exact fun e => n4 (UInt8.toNat_inj.1 (by show _ = 39; omega))
        have HL := Lib.hid (show (o ++ [c]).length = o.length + 1 by simp)
        have HC := Lib.hid (show bcells o ++ [.int .u8 (c.toNat : Int)] = bcells (o ++ [c]) by rw [bcells_append]; rfl)
        clear ht hce ho n0 n1 n2 n3 n4
        generalize (c.toNat : Int) = z at *
        go_wp2_with (at_builtin; refine halt_H ?_)
        refine resume_H ?_
        refine wpList_append_own _ rfl _ _ 31 rfl w.heap.size 5 i0 (.int .u8 0) 1 1 Tryz.underlying31 hi hz0 hz1 hz2 rfl (by decide) _ o.length _ rfl (hown.alloc _) ⟨wo.heap.size, 0, none⟩ 1 1 [.int .u8 z] rfl rfl (oneS_at (heap_alloc_new wo _)) (by simp [Value.oneCell']) (by unfold maxLen; omega) (by omega) (by simp; omega) ?_
        intro v' w1 hown1 hgrow _
        rw [HC.out, ← HL.out] at hown1
        have HB1 := Lib.hid ((HB.out.alloc hBs _).grown hgrow (by simp; omega) (fun k hk => (hown.lt k hk).1))
        clear hown hgrow HC
        go_wp2_with fail
        go_roundw
        case rel => exact ⟨k + 1, o ++ [c], by omega, by go_num, Lib.hid HT.out.symm, by rw [HL.out]; omega, hown1, HB1⟩
        case measure => simp [intOf]; omega
    · have hke : k = s.size := by omega
      have HF := Lib.hid (show o = esc s.data.toList by rw [ho.out, hke, List.take_of_length_le (by rw [← Lib.size_eq]; exact Nat.le_refl _)])
      have hcv := conv_own (P := Tryz.prog) Tryz.underlying31 Tryz.underlying5 Tryz.underlying9 hown
      clear ho hown
      go_wp2_with fail
      go_ret
      exact ⟨by rw [← HF.out]; rfl, HB.out⟩
end Go.Proofs.YtfolhjdmccbjiaaGreatDoor
