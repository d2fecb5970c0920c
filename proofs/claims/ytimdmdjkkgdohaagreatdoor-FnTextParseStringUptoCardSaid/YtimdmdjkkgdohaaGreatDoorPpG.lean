/- The parser's step: Consume. Good texts alone. Printed by gen_ppG.py. -/
import Derived.Test.YtimdmdjkkgdohaaGreatDoorPpF
namespace Go.Proofs.YtimdmdjkkgdohaaGreatDoor
open Go.RowKit Go.MapKept
set_option linter.unusedVariables false
def ConsRet (B b : Nat) (p1 : PS) (w : World) (e : Ending) (w' : World) : Prop := e = .returned (.tuple #[]) ∧ (∃ m v, PSt w' B b m v p1) ∧ Fp B w w'
theorem own_sliceB {w : World} {B e size n : Nat} {v : Value} {xs : List Value} (h : w.ownsRow B e size v n xs) : ∃ A L cap, v = .slice A L cap ∧ n = L ∧ L ≤ cap ∧ cap ≤ 9223372036854775807 := by
  rcases h.2 with ⟨rfl, rfl⟩ | ⟨g, cap, cur, rfl, _, _, h3, h4, _⟩
  · exact ⟨_, _, _, rfl, rfl, Nat.le_refl _, by omega⟩
  · exact ⟨_, _, _, rfl, rfl, h3, h4⟩
theorem PSt.appd {w w' : World} {B b : Nat} {m v : Value} {p : PS} {o : Obj} (h : PSt w B b m v p) (hg : (w.alloc o).grownBy w' v.ownBlock) : Blk w' b tP #[m, .bool p.e, .int .i64 p.k, v] ∧ MSt w' B m p.cs ∧ Fp B w w' := by
  have hr := h.row.alloc o
  have hne : ∀ {c : Nat} {t : TypeId} {cs : Array Value}, t ≠ tU → Blk w c t cs → some c ≠ v.ownBlock := fun {c t cs} h1 hc e => by
    rcases h.row.2 with ⟨e2, _⟩ | ⟨g, cap, cur, e2, _, hgb, _⟩
    · rw [e2] at e; simp [Value.ownBlock] at e
    · rw [e2] at e
      simp [Value.ownBlock] at e
      subst e
      exact Blk.type_ne (t := t) (u := tU) hc hgb h1 rfl
  have hb1 : Below w.heap.size w (w.alloc o) := (Below.refl w.heap.size w).alloc (Nat.le_refl _) o
  have hlt := h.lt
  refine ⟨(h.blk.alloc o).grown hg (hne (by decide) h.blk), (h.map.below hb1 (Nat.le_refl _)).grown hr hg, ⟨?_, fun c t cs h0 h1 hc => (hc.alloc o).grown hg (hne h0 hc), fun k s pos hk => (hg.block k (by simp; have := it_lt hk; omega) (fun e => ?_)).trans ((hb1.block k (it_lt hk)).trans hk)⟩⟩
  rotate_left
  · rcases h.row.2 with ⟨e2, _⟩ | ⟨g, cap, cur, e2, _, hgb, _⟩
    · rw [e2] at e; simp [Value.ownBlock] at e
    · rw [e2] at e
      simp [Value.ownBlock] at e
      exact Blk.it_ne (t := tU) hgb hk e
  exact (hb1.mono hlt).grown hg (by simp; omega) (fun k hk => (h.row.lt k hk).1)
set_option maxHeartbeats 1000000 in
set_option maxRecDepth 100000 in
theorem cons_out {w : World} {B b : Nat} {m v : Value} {cs : Option (List Int)} (h : PSt w B b m v ⟨cs, false, 0, []⟩) (r : Nat) (hr : r ≠ 27) :
    Calls Tryz.prog 14 #[.pointer (some ⟨b, 0, none⟩), .int .i32 (r : Int)] w (ConsRet B b ⟨cs, false, 0, []⟩ w) := by
  have f1 := h.cell1
  simp only at f1
  have q1 : ((r : Int) == 27) = false := by rw [beq_eq_false_iff_ne]; omega
  have HP := Lib.hid h
  clear h hr
  go_enter Tryz.func14, Tryz.ntmps14
  go_wp2
  go_end0
  exact ⟨rfl, ⟨m, v, HP.out⟩, Fp.refl _ _⟩
set_option maxHeartbeats 2000000 in
set_option maxRecDepth 100000 in
theorem cons_esc {w : World} {B b : Nat} {m v : Value} {cs : Option (List Int)}  (h : PSt w B b m v ⟨cs, false, 0, []⟩)  :
    Calls Tryz.prog 14 #[.pointer (some ⟨b, 0, none⟩), .int .i32 27] w (ConsRet B b ⟨cs, true, 0, [27]⟩ w) := by
  obtain ⟨A, cap, hv, hc1, hc2⟩ := h.form
  simp only at hv hc1
  subst hv
  have hM : cap ≤ 9223372036854775807 := hc2
  have f1 := h.cell1
  simp only at f1
  have HP := Lib.hid h
  clear h hc2
  go_enter Tryz.func14, Tryz.ntmps14
  go_wp2_with ((with_reducible refine gate_st (t := 4) rfl ?_); refine halt_L ?_)
  refine resume_L ?_
  refine wpList_put HP.out.blk (o := 1) (v := .bool true) (by simp) rfl rfl rfl infoBo ?_
  intro w1 hb1 p1
  have HP1 := Lib.hid (show PSt w1 B b m _ ⟨cs, true, 0, []⟩ from HP.out.put p1 hb1 HP.out.row HP.out.map)
  have HF1 := Lib.hid ((Fp.refl B w).put HP.out.blk HP.out.lt HP.out.Bb p1)
  clear hb1 p1 f1
  go_wp2_with ((with_reducible refine gate_st (t := 43) rfl ?_); refine halt_L ?_)
  refine resume_L ?_
  refine wpList_put HP1.out.blk (o := 2) (v := .int .i64 0) (by simp) rfl rfl rfl infoK ?_
  intro w2 hb2 p2
  have HP2 := Lib.hid (show PSt w2 B b m _ ⟨cs, true, 0, []⟩ from HP1.out.put p2 hb2 HP1.out.row HP1.out.map)
  have HF2 := Lib.hid (HF1.out.put HP1.out.blk HP1.out.lt HP1.out.Bb p2)
  have f3 := HP2.out.cell3
  clear hb2 p2
  go_wp2_with ((with_reducible refine gate_st (t := 44) rfl ?_); refine halt_L ?_)
  refine resume_L ?_
  refine wpList_put HP2.out.blk (o := 3) (v := .slice A 0 cap) (by simp) rfl rfl rfl infoB ?_
  intro w3 hb3 p3
  have HP3 := Lib.hid (show PSt w3 B b m (.slice A 0 cap) ⟨cs, true, 0, []⟩ from HP2.out.put p3 hb3 (own_none HP2.out.row) HP2.out.map)
  have HF3 := Lib.hid (HF2.out.put HP2.out.blk HP2.out.lt HP2.out.Bb p3)
  clear hb3 p3 f3 hM hc1
  have f1 := HP3.out.cell1
  have f3 := HP3.out.cell3
  simp only at f1 f3
  have hA : Calls Tryz.prog 24 #[_, .int .i32 27] w3 _ := appRune_any B _ ([]) 27 w3 (by decide) (by simp) HP3.out.lt HP3.out.row
  go_wp2_with (go_at_call 24; refine halt_H ?_)
  refine resume_H ?_
  refine (hA).mono ?_
  rintro e w4 ⟨v4, rfl, ho4, o4, hg4⟩
  obtain ⟨A4, L4, c4, rfl, hL4, hc41, hc42⟩ := own_sliceB ho4
  obtain ⟨hk4, hm4, hF4⟩ := HP3.out.appd hg4
  have HF4 := Lib.hid (HF3.out.trans hF4)
  have HK4 := Lib.hid hk4
  have HO4 := Lib.hid ho4
  have HM4 := Lib.hid hm4
  have hlt4 := HP3.out.lt
  have hlt5 := HF4.out.below.size
  clear hA ho4 hg4 hk4 hm4 hF4 f1 f3
  go_wp2_with ((with_reducible refine gate_st (t := 44) rfl ?_); refine halt_L ?_)
  refine resume_L ?_
  refine wpList_put HK4.out (o := 3) (v := .slice A4 L4 c4) (by simp) rfl rfl rfl infoB ?_
  intro w5 hb5 p5
  have HP5 := Lib.hid (show PSt w5 B b m (.slice A4 L4 c4) ⟨cs, true, 0, [] ++ [27]⟩ from ⟨hb5, own_put HO4.out HK4.out (by decide) p5, HM4.out.put HK4.out p5, HP3.out.Bb⟩)
  have HF5 := Lib.hid (HF4.out.put HK4.out (by have := HK4.out.lt; have := HP3.out.Bb; omega) HP3.out.Bb p5)
  clear hb5 p5
  have f1 := HP5.out.cell1
  have f2 := HP5.out.cell2
  have f3 := HP5.out.cell3
  simp only at f1 f2 f3
  have hL6 : L4 ≤ 100 := by rw [← hL4]; simp
  have HL4 := Lib.hid hL4
  clear hL4 hlt4 hlt5
  have hS := isStop_any HP5.out (.inl rfl) (by have := HL4.out; simp only at this ⊢; omega) (.inl rfl) 27 false (rfl)
  go_wp2_with (go_at_call 27; refine halt_H ?_)
  refine resume_H ?_
  refine (hS).mono ?_
  rintro e w6 ⟨rfl, hb6⟩
  have HP6 := Lib.hid (HP5.out.below hb6 (Nat.le_refl _))
  have HF6 := Lib.hid (HF5.out.belowT hb6 HP5.out.lt)
  clear hS hb6 f1 f2 f3
  go_wp2
  go_end0
  exact ⟨rfl, ⟨_, _, HP6.out⟩, HF6.out⟩
set_option maxHeartbeats 2000000 in
set_option maxRecDepth 100000 in
theorem cons_br {w : World} {B b : Nat} {m v : Value} {cs : Option (List Int)}  (h : PSt w B b m v ⟨cs, true, 0, [27]⟩)  :
    Calls Tryz.prog 14 #[.pointer (some ⟨b, 0, none⟩), .int .i32 91] w (ConsRet B b ⟨cs, true, 1, [27, 91]⟩ w) := by
  have f1 := h.cell1
  have f2 := h.cell2
  simp only at f1 f2
  have HP := Lib.hid h
  clear h
  go_enter Tryz.func14, Tryz.ntmps14
  go_wp2_with ((with_reducible refine gate_st (t := 43) rfl ?_); refine halt_L ?_)
  refine resume_L ?_
  refine wpList_put HP.out.blk (o := 2) (v := .int .i64 1) (by simp) rfl rfl rfl infoK ?_
  intro w2 hb2 p2
  have HP2 := Lib.hid (show PSt w2 B b m _ ⟨cs, true, 1, [27]⟩ from HP.out.put p2 hb2 HP.out.row HP.out.map)
  have HF2 := Lib.hid ((Fp.refl B w).put HP.out.blk HP.out.lt HP.out.Bb p2)
  clear hb2 p2 f1 f2
  have f1 := HP2.out.cell1
  have f3 := HP2.out.cell3
  simp only at f1 f3
  obtain ⟨A1, cap1, hv1, hc11, hc12⟩ := HP2.out.form
  simp only at hv1 hc11
  subst hv1
  have hM1 : cap1 ≤ 9223372036854775807 := hc12
  have hA : Calls Tryz.prog 24 #[_, .int .i32 91] w2 _ := appRune_any B _ ([27]) 91 w2 (by decide) (by simp) HP2.out.lt HP2.out.row
  go_wp2_with (go_at_call 24; refine halt_H ?_)
  refine resume_H ?_
  refine (hA).mono ?_
  rintro e w4 ⟨v4, rfl, ho4, o4, hg4⟩
  obtain ⟨A4, L4, c4, rfl, hL4, hc41, hc42⟩ := own_sliceB ho4
  obtain ⟨hk4, hm4, hF4⟩ := HP2.out.appd hg4
  have HF4 := Lib.hid (HF2.out.trans hF4)
  have HK4 := Lib.hid hk4
  have HO4 := Lib.hid ho4
  have HM4 := Lib.hid hm4
  have hlt4 := HP2.out.lt
  have hlt5 := HF4.out.below.size
  clear hA ho4 hg4 hk4 hm4 hF4 f1 f3
  clear hc11 hc12 hM1
  go_wp2_with ((with_reducible refine gate_st (t := 44) rfl ?_); refine halt_L ?_)
  refine resume_L ?_
  refine wpList_put HK4.out (o := 3) (v := .slice A4 L4 c4) (by simp) rfl rfl rfl infoB ?_
  intro w5 hb5 p5
  have HP5 := Lib.hid (show PSt w5 B b m (.slice A4 L4 c4) ⟨cs, true, 1, [27] ++ [91]⟩ from ⟨hb5, own_put HO4.out HK4.out (by decide) p5, HM4.out.put HK4.out p5, HP2.out.Bb⟩)
  have HF5 := Lib.hid (HF4.out.put HK4.out (by have := HK4.out.lt; have := HP2.out.Bb; omega) HP2.out.Bb p5)
  clear hb5 p5
  have f1 := HP5.out.cell1
  have f2 := HP5.out.cell2
  have f3 := HP5.out.cell3
  simp only at f1 f2 f3
  have hL6 : L4 ≤ 100 := by rw [← hL4]; simp
  have HL4 := Lib.hid hL4
  clear hL4 hlt4 hlt5
  have hS := isStop_any HP5.out (.inr ⟨[], rfl⟩) (by have := HL4.out; simp only at this ⊢; omega) (.inr rfl) 91 false (rfl)
  go_wp2_with (go_at_call 27; refine halt_H ?_)
  refine resume_H ?_
  refine (hS).mono ?_
  rintro e w6 ⟨rfl, hb6⟩
  have HP6 := Lib.hid (HP5.out.below hb6 (Nat.le_refl _))
  have HF6 := Lib.hid (HF5.out.belowT hb6 HP5.out.lt)
  clear hS hb6 f1 f2 f3
  go_wp2
  go_end0
  exact ⟨rfl, ⟨_, _, HP6.out⟩, HF6.out⟩
set_option maxHeartbeats 2000000 in
set_option maxRecDepth 100000 in
theorem cons_mid {w : World} {B b : Nat} {m v : Value} {cs : Option (List Int)} {m0 : List UInt8} {c : UInt8} (h : PSt w B b m v ⟨cs, true, 1, 27 :: 91 :: m0⟩) (hc : dgs c) (hl : m0.length ≤ 30) :
    Calls Tryz.prog 14 #[.pointer (some ⟨b, 0, none⟩), .int .i32 (c.toNat : Int)] w (ConsRet B b ⟨cs, true, 1, 27 :: 91 :: (m0 ++ [c])⟩ w) := by
  have f1 := h.cell1
  have f2 := h.cell2
  simp only at f1 f2
  have HP := Lib.hid h
  have HF := Lib.hid (Fp.refl B w)
  have hc109 : (c.toNat : Int) ≠ 109 ∧ (c.toNat : Int) ≠ 27 := by unfold dgs at hc; omega
  have q1 : ((c.toNat : Int) == 27) = false := by rw [beq_eq_false_iff_ne]; exact hc109.2
  have q2 : ((c.toNat : Int) == 7) = false := by unfold dgs at hc; rw [beq_eq_false_iff_ne]; omega
  have hc128 : c.toNat < 128 := by unfold dgs at hc; omega
  clear h hc
  go_enter Tryz.func14, Tryz.ntmps14
  have f1 := HP.out.cell1
  have f3 := HP.out.cell3
  simp only at f1 f3
  obtain ⟨A1, cap1, hv1, hc11, hc12⟩ := HP.out.form
  simp only at hv1 hc11
  subst hv1
  have hM1 : cap1 ≤ 9223372036854775807 := hc12
  have hA : Calls Tryz.prog 24 #[_, .int .i32 (c.toNat : Int)] w _ := appRune_any B _ (27 :: 91 :: m0) c w hc128 (by simp; omega) HP.out.lt HP.out.row
  go_wp2_with (go_at_call 24; refine halt_H ?_)
  refine resume_H ?_
  refine (hA).mono ?_
  rintro e w4 ⟨v4, rfl, ho4, o4, hg4⟩
  obtain ⟨A4, L4, c4, rfl, hL4, hc41, hc42⟩ := own_sliceB ho4
  obtain ⟨hk4, hm4, hF4⟩ := HP.out.appd hg4
  have HF4 := Lib.hid (HF.out.trans hF4)
  have HK4 := Lib.hid hk4
  have HO4 := Lib.hid ho4
  have HM4 := Lib.hid hm4
  have hlt4 := HP.out.lt
  have hlt5 := HF4.out.below.size
  clear hA ho4 hg4 hk4 hm4 hF4 f1 f3
  clear hc11 hc12 hM1
  go_wp2_with ((with_reducible refine gate_st (t := 44) rfl ?_); refine halt_L ?_)
  refine resume_L ?_
  refine wpList_put HK4.out (o := 3) (v := .slice A4 L4 c4) (by simp) rfl rfl rfl infoB ?_
  intro w5 hb5 p5
  have HP5 := Lib.hid (show PSt w5 B b m (.slice A4 L4 c4) ⟨cs, true, 1, 27 :: 91 :: m0 ++ [c]⟩ from ⟨hb5, own_put HO4.out HK4.out (by decide) p5, HM4.out.put HK4.out p5, HP.out.Bb⟩)
  have HF5 := Lib.hid (HF4.out.put HK4.out (by have := HK4.out.lt; have := HP.out.Bb; omega) HP.out.Bb p5)
  clear hb5 p5
  have f1 := HP5.out.cell1
  have f2 := HP5.out.cell2
  have f3 := HP5.out.cell3
  simp only at f1 f2 f3
  have hL6 : L4 ≤ 100 := by rw [← hL4]; simp; omega
  have HL4 := Lib.hid hL4
  clear hL4 hlt4 hlt5
  have hS := isStop_any HP5.out (.inr ⟨_, rfl⟩) (by have := HL4.out; simp only at this ⊢; omega) (.inr rfl) (c.toNat : Int) false (by rw [decide_eq_false hc109.1, Bool.and_false])
  go_wp2_with (go_at_call 27; refine halt_H ?_)
  refine resume_H ?_
  refine (hS).mono ?_
  rintro e w6 ⟨rfl, hb6⟩
  have HP6 := Lib.hid (HP5.out.below hb6 (Nat.le_refl _))
  have HF6 := Lib.hid (HF5.out.belowT hb6 HP5.out.lt)
  clear hS hb6 f1 f2 f3
  go_wp2
  go_end0
  exact ⟨rfl, ⟨_, _, HP6.out⟩, HF6.out⟩
set_option maxHeartbeats 2000000 in
set_option maxRecDepth 100000 in
theorem cons_fin {w : World} {B b : Nat} {m v : Value} {cs : Option (List Int)} {zs : List Int} {n : Nat} (h : PSt w B b m v ⟨cs, true, 1, 27 :: 91 :: mid zs n⟩) (hk : CsOk (cs.getD [])) (hc : ∀ i, i < n → cdB n (zs.getD i 0)) (h0 : 0 < n) (h4 : n ≤ 4) (hS : SpB B w) :
    Calls Tryz.prog 14 #[.pointer (some ⟨b, 0, none⟩), .int .i32 109] w (ConsRet B b ⟨some (insTo (cs.getD []) zs n), false, 0, []⟩ w) := by
  have hml := (mid_dgs zs n n hc).2
  have f1 := h.cell1
  have f2 := h.cell2
  simp only at f1 f2
  have HP := Lib.hid h
  have HF := Lib.hid (Fp.refl B w)
  have HC := Lib.hid hc
  have HK := Lib.hid hk
  have HS := Lib.hid hS
  clear h hc hk hS
  go_enter Tryz.func14, Tryz.ntmps14
  have f1 := HP.out.cell1
  have f3 := HP.out.cell3
  simp only at f1 f3
  obtain ⟨A1, cap1, hv1, hc11, hc12⟩ := HP.out.form
  simp only at hv1 hc11
  subst hv1
  have hM1 : cap1 ≤ 9223372036854775807 := hc12
  have hA : Calls Tryz.prog 24 #[_, .int .i32 109] w _ := appRune_any B _ (27 :: 91 :: mid zs n) 109 w (by decide) (by simp; omega) HP.out.lt HP.out.row
  go_wp2_with (go_at_call 24; refine halt_H ?_)
  refine resume_H ?_
  refine (hA).mono ?_
  rintro e w4 ⟨v4, rfl, ho4, o4, hg4⟩
  obtain ⟨A4, L4, c4, rfl, hL4, hc41, hc42⟩ := own_sliceB ho4
  obtain ⟨hk4, hm4, hF4⟩ := HP.out.appd hg4
  have HF4 := Lib.hid (HF.out.trans hF4)
  have HK4 := Lib.hid hk4
  have HO4 := Lib.hid ho4
  have HM4 := Lib.hid hm4
  have hlt4 := HP.out.lt
  have hlt5 := HF4.out.below.size
  clear hA ho4 hg4 hk4 hm4 hF4 f1 f3
  clear hc11 hc12 hM1
  go_wp2_with ((with_reducible refine gate_st (t := 44) rfl ?_); refine halt_L ?_)
  refine resume_L ?_
  refine wpList_put HK4.out (o := 3) (v := .slice A4 L4 c4) (by simp) rfl rfl rfl infoB ?_
  intro w5 hb5 p5
  have HP5 := Lib.hid (show PSt w5 B b m (.slice A4 L4 c4) ⟨cs, true, 1, 27 :: 91 :: mid zs n ++ [109]⟩ from ⟨hb5, own_put HO4.out HK4.out (by decide) p5, HM4.out.put HK4.out p5, HP.out.Bb⟩)
  have HF5 := Lib.hid (HF4.out.put HK4.out (by have := HK4.out.lt; have := HP.out.Bb; omega) HP.out.Bb p5)
  clear hb5 p5
  have f1 := HP5.out.cell1
  have f2 := HP5.out.cell2
  have f3 := HP5.out.cell3
  simp only at f1 f2 f3
  have hL6 : L4 ≤ 100 := by rw [← hL4]; simp; omega
  have HL4 := Lib.hid hL4
  clear hL4 hlt4 hlt5
  have hT := isStop_any HP5.out (.inr ⟨_, rfl⟩) (by have := HL4.out; simp only at this ⊢; omega) (.inr rfl) 109 true rfl
  go_wp2_with (go_at_call 27; refine halt_H ?_)
  refine resume_H ?_
  refine (hT).mono ?_
  rintro e w6 ⟨rfl, hb6⟩
  have HP6 := Lib.hid (HP5.out.below hb6 (Nat.le_refl _))
  have HF6 := Lib.hid (HF5.out.belowT hb6 HP5.out.lt)
  clear hT hb6 f1 f2 f3
  have f2 := HP6.out.cell2
  have f3 := HP6.out.cell3
  simp only at f2 f3
  have hcv : (convert 44 9 (.slice A4 L4 c4)).run Tryz.prog w6.drew = .ok (.string ⟨(27 :: 91 :: (mid zs n ++ [109])).toArray⟩) w6.drew := conv_own (W := w6.drew) Tryz.underlying44 Tryz.underlying5 Tryz.underlying9 (HP6.out.drewN 1).row
  go_wp2_with fail
  go_still_tail 10, (by kernel_rfl)
  have HP7 := Lib.hid (show PSt w6.drew B b m _ _ from HP6.out.drewN 1)
  have HF7 := Lib.hid (show Fp B w w6.drew from HF6.out.drewN 1)
  have hT := parseSeq_any HP7.out HK.out HC.out h0 h4 (HS.out.below HF7.out.below)
  clear f2 f3 hcv
  go_wp2_with (go_at_call 26; refine halt_H ?_)
  refine resume_H ?_
  refine (hT).mono ?_
  rintro e w8 ⟨rfl, ⟨m8, v8, hP8⟩, hF8⟩
  have HF8 := Lib.hid (HF7.out.trans hF8)
  have hT2 := reset_any hP8
  clear hT hF8
  go_wp2_with (go_at_call 16; refine halt_H ?_)
  refine resume_H ?_
  refine (hT2).mono ?_
  rintro e w9 ⟨rfl, ⟨m9, v9, hP9⟩, hF9⟩
  have HP9 := Lib.hid hP9
  have HF9 := Lib.hid (HF8.out.trans hF9)
  clear hT2 hP8 hP9 hF9
  go_wp2
  go_end0
  exact ⟨rfl, ⟨m9, v9, HP9.out⟩, HF9.out⟩
theorem consume_any {w : World} {B b : Nat} {m v : Value} {p p1 : PS} {r : Nat} (h : PSt w B b m v p) (hp : PsOk p) (hs : Stp p r p1) (hS : SpB B w) :
    Calls Tryz.prog 14 #[.pointer (some ⟨b, 0, none⟩), .int .i32 (r : Int)] w (ConsRet B b p1 w) := by
  cases hs with
  | out hr => exact cons_out h r hr
  | esc => exact cons_esc h
  | br => exact cons_br h
  | mid hc hl => exact cons_mid h hc hl
  | fin h0 h4 hc => exact cons_fin h hp.1 hc h0 h4 hS
end Go.Proofs.YtimdmdjkkgdohaaGreatDoor
