/- The words of a text: the walk of spec.TwWords. Texts of ASCII as the law asks, of at most 400 bytes. -/
import Derived.Test.YtgjbpjkepdbnkaaDoorWsA
import Derived.Test.YtgjbpjkepdbnkaaDoorTwTexts
import Derived.LoopN
namespace Go.Proofs.YtgjbpjkepdbnkaaDoor
open Go.RowKit
set_option linter.unusedVariables false
theorem halt_W {p : Prop} (h : Hid p) : p := h
theorem resume_W {p : Prop} (h : p) : Hid p := h
theorem info_str : (Tryd.prog.info? 9).map (fun i => (i.zero, i.size, i.bytes)) = some (some (.string ⟨#[]⟩), 1, 16) := by kernel_rfl
theorem no_cur {l : List UInt8} (h : l = []) : l.isEmpty = true := by subst h; rfl
theorem some_cur {l : List UInt8} (h : l ≠ []) : l.isEmpty = false := by simpa using h
def WordsRet (ls : List (List UInt8)) (w : World) (e : Ending) (w' : World) : Prop := ∃ v, e = .returned v ∧ w'.ownsRow w.heap.size 9 1 v ls.length (ls.map strV) ∧ Below w.heap.size w w'
theorem own_nil {w : World} {B e : Nat} {v : Value} {ls : List (List UInt8)} {ws : List (List UInt8)} (h : w.ownsRow B e 1 v ws.length (ws.map strV)) (hl : ls = ws) : w.ownsRow B e 1 v ls.length (ls.map strV) := by subst hl; exact h
theorem own_one {w : World} {B e : Nat} {v : Value} {ls ws : List (List UInt8)} {c : List UInt8} (h : w.ownsRow B e 1 v (ws.length + 1) (ws.map strV ++ [.string ⟨c.toArray⟩])) (hl : ls = ws ++ [c]) : w.ownsRow B e 1 v ls.length (ls.map strV) := by
  subst hl; rw [List.length_append, List.map_append]; exact h
theorem own_old {w : World} {B e : Nat} {v : Value} {ls ws : List (List UInt8)} (h : w.ownsRow B e 1 v ls.length (ls.map strV)) (hl : ls = ws) : w.ownsRow B e 1 v ws.length (ws.map strV) := by subst hl; exact h
set_option maxHeartbeats 4000000 in
set_option maxRecDepth 100000 in
theorem twWords_any (s : ByteArray) (w : World) (h : OkText s) : Calls Tryd.prog 7 #[.string s] w (WordsRet (wordsOf s) w) := by
  obtain ⟨i0, hi, hz0, hz1, hz2⟩ := info_parts info_str
  obtain ⟨hs, ho⟩ := h
  have HO := Lib.hid ho
  have hs' : (s.size : Int) ≤ 400 := by omega
  clear ho
  go_enter Tryd.func7, Tryd.ntmps7
  go_wp2_with fail
  go_loopw [3, 4, 5] (fun lv cv iv wr => ∃ (k : Nat) (ws : List (List UInt8)) (c : List UInt8), k ≤ s.size ∧ iv = .int .i64 (k : Int) ∧ cv = .string ⟨c.toArray⟩ ∧ Hid (wst s.data.toList k = ⟨ws, c⟩) ∧ wr.ownsRow w.heap.size 9 1 lv ws.length (ws.map strV) ∧ Hid (Below w.heap.size w wr)) (fun _ _ iv _ => s.size - (intOf iv).toNat)
  case atStart => exact ⟨0, [], [], Nat.zero_le _, rfl, rfl, Lib.hid (wst_zero _), World.ownsRow_nil _ _ _ _, Lib.hid (Below.refl _ _)⟩
  case round =>
    obtain ⟨k, ws, c, hk, rfl, rfl, hst, hown, HB⟩ := hrel
    obtain ⟨wo, rfl⟩ : ∃ wo : World, wo = wr := ⟨_, rfl⟩
    have hBs := HB.out.size
    have hwl := wst_len' s k hk
    rw [hst.out] at hwl
    have hw1 : ws.length ≤ 400 := by simp only at hwl; omega
    have hw2 : c.length ≤ 400 := by simp only at hwl; omega
    clear hwl
    by_cases hlt : k < s.size
    · have hix := idx_at s k hlt wo
      have hok := HO.out k hlt
      by_cases hsp : isp (s[k]'hlt) = true
      · have hn := wst_sp s k hlt hsp
        rw [hst.out] at hn
        have HN := Lib.hid hn
        have hcc : ((s[k]'hlt).toNat : Int) = 32 ∨ ((s[k]'hlt).toNat : Int) = 9 ∨ ((s[k]'hlt).toNat : Int) = 10 := by
          unfold isp at hsp; simp at hsp; omega
        clear hn hsp hok hst
        generalize ((s[k]'hlt).toNat : Int) = z at *
        have hz : ((z == 32) = true) ∨ ((z == 32) = false ∧ (z == 9) = true) ∨ ((z == 32) = false ∧ (z == 9) = false ∧ (z == 10) = true) := by
          simp only [beq_iff_eq, beq_eq_false_iff_ne]; omega
        clear hcc
        by_cases hc : c = []
        · subst hc
          have HF := Lib.hid (show fin ⟨ws, []⟩ = ws by unfold fin; rw [if_pos rfl])
          have HN2 := Lib.hid (show wst s.data.toList (k + 1) = ⟨ws, []⟩ by rw [HN.out, HF.out])
          clear HN HF
          rcases hz with h1 | ⟨h1, h2⟩ | ⟨h1, h2, h3⟩
          all_goals
            go_wp2_with fail
            go_roundw
            case rel => exact ⟨k + 1, ws, [], by omega, by go_num, rfl, HN2, hown, HB⟩
            case measure => simp [intOf]; omega
        · have hne := some_cur hc
          have HF := Lib.hid (show fin ⟨ws, c⟩ = ws ++ [c] by unfold fin; rw [if_neg hc])
          have HN2 := Lib.hid (show wst s.data.toList (k + 1) = ⟨ws ++ [c], []⟩ by rw [HN.out, HF.out])
          clear HN HF hc
          rcases hz with h1 | ⟨h1, h2⟩ | ⟨h1, h2, h3⟩
          all_goals
            go_wp2_with (at_builtin; refine halt_W ?_)
            refine resume_W ?_
            refine wpList_append_own _ rfl _ _ 24 rfl w.heap.size 9 i0 (.string ⟨#[]⟩) 1 16 Tryd.underlying24 hi hz0 hz1 hz2 rfl (by decide) _ _ _ rfl (hown.alloc _) ⟨wo.heap.size, 0, none⟩ 1 1 [.string ⟨c.toArray⟩] rfl rfl (oneS_at (heap_alloc_new wo _)) (by simp [Value.oneCell']) (by unfold maxLen; omega) (by omega) (by simp; omega) ?_
            intro v' w1 hown1 hgrow _
            have HB1 := Lib.hid ((HB.out.alloc hBs _).grown hgrow (by simp; omega) (fun k hk => (hown.lt k hk).1))
            have hown2 : w1.ownsRow w.heap.size 9 1 v' (ws ++ [c]).length ((ws ++ [c]).map strV) := own_one hown1 rfl
            clear hown1 hgrow
            go_wp2_with fail
            go_roundw
            case rel => exact ⟨k + 1, ws ++ [c], [], by omega, by go_num, rfl, HN2, hown2, HB1⟩
            case measure => simp [intOf]; omega
      · have hn := wst_ch s k hlt hsp
        rw [hst.out] at hn
        have HN := Lib.hid hn
        have hcc : ((s[k]'hlt).toNat : Int) ≠ 32 ∧ ((s[k]'hlt).toNat : Int) ≠ 9 ∧ ((s[k]'hlt).toNat : Int) ≠ 10 ∧ ((s[k]'hlt).toNat : Int) ≠ 13 := by
          unfold isp at hsp; unfold okc at hok; simp at hsp; omega
        have hsA := fun W => slice_str (P := Tryd.prog) Tryd.underlying9 s (k : Int) ((k : Int) + 1) k (k + 1) rfl (by omega) (by omega) (by omega) W
        have HA := Lib.hid (add_ch c s k hlt)
        clear hn hsp hok hst
        generalize s[k]'hlt = x at *
        generalize (x.toNat : Int) = z at *
        have h1 : (z == 32) = false := by rw [beq_eq_false_iff_ne]; omega
        have h2 : (z == 9) = false := by rw [beq_eq_false_iff_ne]; omega
        have h3 : (z == 10) = false := by rw [beq_eq_false_iff_ne]; omega
        have h4 : (z == 13) = false := by rw [beq_eq_false_iff_ne]; omega
        clear hcc
        go_wp2_with fail
        go_roundw
        case rel => exact ⟨k + 1, ws, c ++ [x], by omega, by go_num, by rw [← HA.out], HN, hown, HB⟩
        case measure => simp [intOf]; omega
    · have hke : k = s.size := by omega
      subst hke
      by_cases hc : c = []
      · have hne := no_cur hc
        have HF := Lib.hid (show wordsOf s = ws by unfold wordsOf; rw [hst.out]; unfold fin; rw [if_pos hc])
        clear hc hst
        go_wp2_with fail
        go_ret
        exact ⟨_, rfl, own_nil hown HF.out, HB.out⟩
      · have hne := some_cur hc
        have HF := Lib.hid (show wordsOf s = ws ++ [c] by unfold wordsOf; rw [hst.out]; unfold fin; rw [if_neg hc])
        clear hc hst
        go_wp2_with (at_builtin; refine halt_W ?_)
        refine resume_W ?_
        refine wpList_append_own _ rfl _ _ 24 rfl w.heap.size 9 i0 (.string ⟨#[]⟩) 1 16 Tryd.underlying24 hi hz0 hz1 hz2 rfl (by decide) _ _ _ rfl (hown.alloc _) ⟨wo.heap.size, 0, none⟩ 1 1 [.string ⟨c.toArray⟩] rfl rfl (oneS_at (heap_alloc_new wo _)) (by simp [Value.oneCell']) (by unfold maxLen; omega) (by omega) (by simp; omega) ?_
        intro v' w1 hown1 hgrow _
        have HB1 := Lib.hid ((HB.out.alloc hBs _).grown hgrow (by simp; omega) (fun k hk => (hown.lt k hk).1))
        have HO2 := Lib.hid (own_one hown1 HF.out)
        clear hown1 hgrow
        go_wp2_with fail
        go_ret
        exact ⟨_, rfl, HO2.out, HB1.out⟩
end Go.Proofs.YtgjbpjkepdbnkaaDoor
