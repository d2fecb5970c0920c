/- The words of a text: the walk of the package's SplitWords. Texts of ASCII as the law asks, of at most 400 bytes. -/
import Derived.Test.YtgjbpjkepdbnkaaDoorWsB
import Derived.Test.YtgjbpjkepdbnkaaDoorIter
namespace Go.Proofs.YtgjbpjkepdbnkaaDoor
open Go.RowKit
set_option linter.unusedVariables false
theorem okc_ascii {c : UInt8} (h : okc c) : c.toNat < 128 := by unfold okc at h; omega
set_option maxHeartbeats 4000000 in
set_option maxRecDepth 100000 in
theorem splitWords_any (s : ByteArray) (w : World) (h : OkText s) : Calls Tryd.prog 8 #[.string s] w (WordsRet (wordsOf s) w) := by
  obtain ⟨i0, hi, hz0, hz1, hz2⟩ := info_parts info_str
  obtain ⟨hs, ho⟩ := h
  have HO := Lib.hid ho
  have hs' : (s.size : Int) ≤ 400 := by omega
  clear ho
  obtain ⟨w1, hmk, own0, grow0⟩ := run_make_own (P := Tryd.prog) w w.heap.size 24 9 i0 (.string ⟨#[]⟩) 1 Tryd.underlying24 hi hz0 hz1 .i64 .i64 (s.size / 5) (by rw [hz2]; omega) (by unfold maxLen; omega) (Nat.le_refl _)
  simp only [Int.natCast_ediv, Int.cast_ofNat_Int] at hmk
  have HB0 := Lib.hid ((Below.refl w.heap.size w).grown grow0 (Nat.le_refl _) (fun k hk => by cases hk))
  have hB0 := HB0.out.size
  clear grow0
  go_enter Tryd.func8, Tryd.ntmps8
  go_wp2_with fail
  go_loopw [3, 4, 5] (fun lv bv pv wr => ∃ (k b : Nat) (ws : List (List UInt8)) (c : List UInt8) (p : Bool), k ≤ s.size ∧ b ≤ k ∧ bv = .int .i64 (b : Int) ∧ pv = .bool p ∧ p = !c.isEmpty ∧ Hid (wst s.data.toList k = ⟨ws, c⟩) ∧ Hid (c ≠ [] → s.extract b k = ⟨c.toArray⟩ ∧ b + c.length = k) ∧ wr.heap[w1.heap.size]? = some (.stringIter s k) ∧
      wr.ownsRow w.heap.size 9 1 lv ws.length (ws.map strV) ∧ Hid (Below w.heap.size w wr)) (fun _ _ _ wr => s.size - wr.iterPos w1.heap.size)
  case atStart => exact ⟨0, 0, [], [], false, Nat.zero_le _, Nat.le_refl _, rfl, rfl, rfl, Lib.hid (wst_zero _), Lib.hid (fun h => absurd rfl h), itNew rfl, own0.alloc _, Lib.hid (HB0.out.alloc hB0 _)⟩
  case round =>
    obtain ⟨k, b, ws, c, p, hk, hbk, rfl, rfl, hpe, hst, hcut, hit, hown, HB⟩ := hrel
    obtain ⟨wo, rfl⟩ : ∃ wo : World, wo = wr := ⟨_, rfl⟩
    have hwl := wst_len' s k hk
    rw [hst.out] at hwl
    have hw1 : ws.length ≤ 400 := by simp only at hwl; omega
    clear hwl
    have hpos := itPos hit
    by_cases hlt : k < s.size
    · have hok := HO.out k hlt
      have hnx : ∀ ty, (Instr.next (.pointer (some ⟨w1.heap.size, 0, none⟩)) true ty).run Tryd.prog wo = _ := fun ty => Lib.run_next_ascii_at wo w1.heap.size s k ty hit hlt (okc_ascii hok)
      have own2 := itOwn hown hit (k + 1)
      have hit2 := Lib.iterAt_heap wo w1.heap.size s k (k + 1) hit
      have HB2 := Lib.hid (Lib.below_iterAt HB.out hB0 s (k + 1))
      have HS := Lib.hid (fun W => isSpace_any (s[k]'hlt) hok W)
      generalize hW : wo.iterAt w1.heap.size s (k + 1) = W at *
      have hBs := HB2.out.size
      clear hit hown HB hW
      by_cases hsp : isp (s[k]'hlt) = true
      · have hn := wst_sp s k hlt hsp
        rw [hst.out] at hn
        have HN := Lib.hid hn
        rw [hsp] at HS
        clear hn hsp hok hst
        generalize ((s[k]'hlt).toNat : Int) = z at *
        by_cases hc : c = []
        · subst hc
          obtain rfl : p = false := hpe
          have HN2 := Lib.hid (show wst s.data.toList (k + 1) = ⟨ws, []⟩ by rw [HN.out]; unfold fin; rw [if_pos rfl])
          have hpos2 := itPos hit2
          clear HN hcut
          go_wp2_with (go_at_call 9; refine (HS.out _).mono ?_; rintro e w' ⟨rfl, hw'⟩; obtain rfl := hw'.symm; clear hw')
          go_roundw
          case rel => exact ⟨k + 1, b, ws, [], _, by omega, by omega, rfl, rfl, rfl, HN2, Lib.hid (fun h => absurd rfl h), hit2, own2, HB2⟩
          case measure => rw [hpos2, hpos]; omega
        · have HN2 := Lib.hid (show wst s.data.toList (k + 1) = ⟨ws ++ [c], []⟩ by rw [HN.out]; unfold fin; rw [if_neg hc])
          have hcu := hcut.out hc
          have hsA := fun W => slice_str (P := Tryd.prog) Tryd.underlying9 s (b : Int) (k : Int) b k rfl rfl hbk (by omega) W
          rw [hcu.1] at hsA
          have hne := some_cur hc
          obtain rfl : p = true := by rw [hpe, hne]; rfl
          clear hpe
          clear HN hcut hcu hc
          go_wp2_with (first
            | (go_at_call 9; refine (HS.out _).mono ?_; rintro e w' ⟨rfl, hw'⟩; obtain rfl := hw'.symm; clear hw')
            | (at_builtin; refine halt_W ?_))
          refine resume_W ?_
          refine wpList_append_own _ rfl _ _ 24 rfl w.heap.size 9 i0 (.string ⟨#[]⟩) 1 16 Tryd.underlying24 hi hz0 hz1 hz2 rfl (by decide) _ _ _ rfl (own2.alloc _) ⟨W.heap.size, 0, none⟩ 1 1 [.string ⟨c.toArray⟩] rfl rfl (oneS_at (heap_alloc_new W _)) (by simp [Value.oneCell']) (by unfold maxLen; omega) (by omega) (by simp; omega) ?_
          intro v' w2 hown1 hgrow _
          have HB1 := Lib.hid ((HB2.out.alloc hBs _).grown hgrow (by simp; omega) (fun k hk => (own2.lt k hk).1))
          have hit3 : w2.heap[w1.heap.size]? = some (.stringIter s (k + 1)) := (hgrow.block _ (by rw [World.size_alloc]; have := (Array.getElem?_eq_some_iff.1 hit2).1; omega) (itNe own2 hit2)).trans (itOld hit2)
          have hown2 : w2.ownsRow w.heap.size 9 1 v' (ws ++ [c]).length ((ws ++ [c]).map strV) := own_one hown1 rfl
          have hpos2 := itPos hit3
          clear hown1 hgrow own2 hit2
          go_wp2_with fail
          go_roundw
          case rel => exact ⟨k + 1, b, ws ++ [c], [], _, by omega, by omega, rfl, rfl, rfl, HN2, Lib.hid (fun h => absurd rfl h), hit3, hown2, HB1⟩
          case measure => rw [hpos2, hpos]; omega
      · have hn := wst_ch s k hlt hsp
        rw [hst.out] at hn
        have HN := Lib.hid hn
        have hpos2 := itPos hit2
        obtain ⟨b1, hb1, hb2⟩ := wst_cur' s (k + 1) (by omega)
        rw [hn] at hb1 hb2
        have HC := Lib.hid (show s.extract b1 (k + 1) = ⟨(c ++ [s[k]'hlt]).toArray⟩ from hb2)
        have hb1' : b1 + (c.length + 1) = k + 1 := by simpa using hb1
        have hz : isp (s[k]'hlt) = false := by simpa using hsp
        rw [hz] at HS
        clear hn hsp hok hst hb1 hb2 hz
        generalize s[k]'hlt = x at *
        generalize (x.toNat : Int) = z at *
        by_cases hc : c = []
        · subst hc
          obtain rfl : p = false := hpe
          clear hcut
          go_wp2_with (go_at_call 9; refine (HS.out _).mono ?_; rintro e w' ⟨rfl, hw'⟩; obtain rfl := hw'.symm; clear hw')
          go_roundw
          case rel => exact ⟨k + 1, k, ws, [x], _, by omega, by omega, rfl, rfl, rfl, HN, Lib.hid (fun _ => ⟨by have := HC.out; rw [show b1 = k by simpa using hb1'] at this; exact this, rfl⟩), hit2, own2, HB2⟩
          case measure => rw [hpos2, hpos]; omega
        · have hcu := (hcut.out hc).2
          have hbb : b1 = b := by omega
          subst hbb
          have hne := some_cur hc
          obtain rfl : p = true := by rw [hpe, hne]; rfl
          clear hpe
          clear hcut hcu hc
          go_wp2_with (go_at_call 9; refine (HS.out _).mono ?_; rintro e w' ⟨rfl, hw'⟩; obtain rfl := hw'.symm; clear hw')
          go_roundw
          case rel => exact ⟨k + 1, b1, ws, c ++ [x], _, by omega, by omega, rfl, rfl, by simp, HN, Lib.hid (fun _ => ⟨HC.out, by simpa using hb1'⟩), hit2, own2, HB2⟩
          case measure => rw [hpos2, hpos]; omega
    · have hke : k = s.size := by omega
      subst hke
      have hnx : ∀ ty, (Instr.next (.pointer (some ⟨w1.heap.size, 0, none⟩)) true ty).run Tryd.prog wo = _ := fun ty => Lib.run_next_end_at wo w1.heap.size s _ ty hit hlt
      have hBs := HB.out.size
      clear hpos
      by_cases hc : c = []
      · subst hc
        obtain rfl : p = false := hpe
        have HF := Lib.hid (show wordsOf s = ws by unfold wordsOf; rw [hst.out]; unfold fin; rw [if_pos rfl])
        clear hst hcut hit
        go_wp2_with fail
        go_ret
        exact ⟨_, rfl, own_nil hown HF.out, HB.out⟩
      · have hne := some_cur hc
        obtain rfl : p = true := by rw [hpe, hne]; rfl
        clear hpe
        have HF := Lib.hid (show wordsOf s = ws ++ [c] by unfold wordsOf; rw [hst.out]; unfold fin; rw [if_neg hc])
        have hcu := hcut.out hc
        have hsA := fun W => slice_str_lo (P := Tryd.prog) Tryd.underlying9 s (b : Int) b rfl hbk W
        rw [hcu.1] at hsA
        clear hst hcut hcu hc hit
        go_wp2_with (at_builtin; refine halt_W ?_)
        refine resume_W ?_
        refine wpList_append_own _ rfl _ _ 24 rfl w.heap.size 9 i0 (.string ⟨#[]⟩) 1 16 Tryd.underlying24 hi hz0 hz1 hz2 rfl (by decide) _ _ _ rfl (hown.alloc _) ⟨wo.heap.size, 0, none⟩ 1 1 [.string ⟨c.toArray⟩] rfl rfl (oneS_at (heap_alloc_new wo _)) (by simp [Value.oneCell']) (by unfold maxLen; omega) (by omega) (by simp; omega) ?_
        intro v' w2 hown1 hgrow _
        have HB1 := Lib.hid ((HB.out.alloc hBs _).grown hgrow (by simp; omega) (fun k hk => (hown.lt k hk).1))
        have HO2 := Lib.hid (own_one hown1 HF.out)
        clear hown1 hgrow
        go_wp2_with fail
        go_ret
        exact ⟨_, rfl, HO2.out, HB1.out⟩
end Go.Proofs.YtgjbpjkepdbnkaaDoor
