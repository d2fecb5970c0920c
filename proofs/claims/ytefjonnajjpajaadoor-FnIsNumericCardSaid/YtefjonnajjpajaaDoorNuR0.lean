/- read: way 0 of the test for a hexadecimal text. Printed by gen_nuR.py. Texts of at most 100 letters of the law. -/
import Derived.Test.YtefjonnajjpajaaDoorNuR
namespace Go.Proofs.YtefjonnajjpajaaDoor
open Go.RowKit
set_option linter.unusedVariables false
set_option maxHeartbeats 4000000 in
set_option maxRecDepth 100000 in
theorem read_0 (s : ByteArray) (w : World) (hs : s.size ≤ 100) (hL : ∀ p, p < s.size → Ltr (bt s p)) (hF : Few (bt s) s.size) (h0 : s.size < 2) : Calls Tryd.prog 19 #[.string s] w (ReadRet s w) := by
  obtain ⟨i0, hi0, hz0, hz1, hz2⟩ := info_parts infoU
  obtain ⟨n, hn⟩ : ∃ n, s.size = n := ⟨_, rfl⟩
  rw [hn] at hs hF h0
  have HN := Lib.hid hn
  have HL := Lib.hid hL
  have HF := Lib.hid hF
  clear hL hF
  have HD0 := Lib.hid (show Dec _ w.heap.size w.heap.size (.slice none 0 0) [] 0 from ⟨Blk.new w tD #[.slice none 0 0, .int .i64 0], World.ownsRow_nil _ _ _ _, Nat.le_refl _⟩)
  have HB0 := Lib.hid ((Below.refl w.heap.size w).alloc (Nat.le_refl _) (.cells #[.slice none 0 0, .int .i64 0] tD))
  have g0 : decide ((n : Int) ≥ 2) = false := decide_eq_false (by omega)
  clear h0
  go_enter Tryd.func19, Tryd.ntmps19
  go_wp2_with fail
  clear g0
  go_loopw [8, 9, 10, 11] (fun sv dv ev iv wr => ∃ (i : Nat) (sm dot : Bool), sv = .bool sm ∧ dv = .bool dot ∧ ev = .int .i64 0 ∧ iv = .int .i64 (i : Int) ∧ i ≤ n ∧ Hid (Rd (bt s) n i dot sm) ∧ Hid (∃ (v : Value) (ds : List Nat) (dp : Int), Dec wr w.heap.size w.heap.size v ds dp ∧ Rg i ds dp ∧ Below w.heap.size w wr)) (fun _ _ _ iv _ => n - (intOf iv).toNat)
  case atStart => exact ⟨0, false, false, rfl, rfl, rfl, rfl, by omega, Lib.hid (Rd.start _ _), Lib.hid ⟨_, [], 0, HD0.out, Rg.start, HB0.out⟩⟩
  case round =>
    clear HD0 HB0
    obtain ⟨i, sm, dot, rfl, rfl, rfl, rfl, hi, HR, HS0⟩ := hrel
    obtain ⟨wr, rfl⟩ : ∃ wz : World, wz = wr := ⟨_, rfl⟩
    obtain ⟨v, ds, dp, hD, hG, hB⟩ := HS0.out
    have HD := Lib.hid hD
    have HG := Lib.hid hG
    have HB := Lib.hid hB
    obtain ⟨hdp1, hdp2⟩ := hG.bound (show i ≤ 100 by omega)
    clear HS0
    by_cases hlt : i < n
    · have i1 := ixB s i (by rw [HN.out]; exact hlt)
      have hb1 := bt_lt s i
      have hl := HL.out i (by rw [HN.out]; exact hlt)
      by_cases hd : isD (bt s i)
      · have HR2 := Lib.hid (HR.out.digit hd)
        obtain ⟨d1, d2⟩ := hd
        clear hl
        obtain ⟨y, hy⟩ : ∃ y, bt s i = y + 48 := ⟨bt s i - 48, by omega⟩
        rw [hy] at i1
        have hy9 : y < 10 := by omega
        have q1 : (((y + 48 : Nat) : Int) == 95) = false := by rw [beq_eq_false_iff_ne]; omega
        have q2 : (((y + 48 : Nat) : Int) == 46) = false := by rw [beq_eq_false_iff_ne]; omega
        have q3 : (((y + 48 : Nat) : Int) - 48 == 16) = false := by rw [beq_eq_false_iff_ne]; omega
        clear hb1 d1 d2 hy
        obtain ⟨A, cap, rfl, hc1, hc2, hgA⟩ := hD.form
        clear hgA
        have f0 : wr.cell? ⟨w.heap.size, 0, none⟩ = some (.slice A ds.length cap) := hD.blk.cell 0 rfl
        have f1 : wr.cell? ⟨w.heap.size, 1, none⟩ = some (.int .i64 dp) := hD.blk.cell 1 rfl
        have f2 : wr.frozen? ⟨w.heap.size, 1, none⟩ = false := hD.blk.frozen 1
        obtain ⟨L, hL0⟩ : ∃ L, ds.length = L := ⟨_, rfl⟩
        have hL1 : L ≤ 100 := by have := hG.1; omega
        have hwl := hD.blk.lt
        rw [hL0] at f0 hc1
        have HL0 := Lib.hid hL0
        clear hL0 hD hG hB
        by_cases hz : L = 0 ∧ y = 0
        · obtain ⟨rfl, rfl⟩ := hz
          cases dot
          · go_wp2_with fail
            go_roundw
            case rel => exact ⟨i + 1, true, false, rfl, rfl, rfl, by go_num, by omega, HR2, Lib.hid ⟨_, ds, dp, HD.out, HG.out.skip, HB.out⟩⟩
            case measure => simp [intOf]; omega
          · go_wp2_with ((with_reducible refine gate_st (t := 3) rfl ?_); refine halt_L ?_)
            refine resume_L ?_
            refine wpList_put HD.out.blk (o := 1) (v := .int .i64 (dp - 1)) (by simp) rfl rfl rfl infoI ?_
            intro w2 hb2 p2
            have HD2 := Lib.hid (show Dec w2 w.heap.size w.heap.size _ ds (dp - 1) from HD.out.put HD.out.row p2 hb2)
            have HB2 := Lib.hid (p2.below HB.out HD.out.lt (Nat.le_refl _))
            clear hb2 p2 f0 f1 f2
            go_wp2_with fail
            go_roundw
            case rel => exact ⟨i + 1, true, true, rfl, rfl, rfl, by go_num, by omega, HR2, Lib.hid ⟨_, ds, dp - 1, HD2.out, HG.out.less, HB2.out⟩⟩
            case measure => simp [intOf]; omega
        · have hkeep : 0 < L ∨ (L = 0 ∧ (((y + 48 : Nat) : Int) - 48 != 0) = true) := by
            rcases Nat.eq_zero_or_pos L with h | h
            · refine .inr ⟨h, ?_⟩
              rw [bne_iff_ne]; omega
            · exact .inl h
          have HKP := Lib.hid (show ds ≠ [] ∨ y ≠ 0 by
            by_cases h : L = 0
            · exact .inr (fun e => hz ⟨h, e⟩)
            · refine .inl (fun e => ?_)
              have := HL0.out; rw [e] at this; simp at this; omega)
          clear hz
          have hown : wr.ownsRow w.heap.size tU 1 (.slice A L cap) L (ds.map dc) := by have := HD.out.row; rwa [HL0.out] at this
          have HO := Lib.hid hown
          clear hown
          rcases hkeep with hkeep | ⟨rfl, hkeep⟩
          all_goals
            go_wp2_with (at_builtin; refine halt_H ?_)
            refine resume_H ?_
            refine wpList_append_own _ rfl _ _ 31 rfl w.heap.size 5 i0 (.int .u8 0) 1 1 Tryd.underlying31 hi0 hz0 hz1 hz2 rfl (by decide) _ _ _ rfl (HO.out.alloc _) ⟨wr.heap.size, 0, none⟩ 1 1 [.int .u8 (y : Int)] rfl rfl (oneS_at (heap_alloc_new wr _)) (by simp [Value.oneCell']) (by unfold maxLen; omega) (by omega) (by simp; omega) ?_
            intro v' w3 hown1 hgrow _
            have HO1 := Lib.hid hown1
            have HB1 := Lib.hid ((HB.out.alloc HB.out.size _).grown hgrow (by have := HB.out.size; simp; omega) (fun k hk => (HO.out.lt k hk).1))
            have HBk := Lib.hid (show Blk w3 w.heap.size tD #[_, .int .i64 dp] from (HD.out.blk.alloc _).grown hgrow (by have h := HD.out.ne_own; rw [HL0.out] at h; exact h))
            clear hown1 hgrow f0 f1 f2
            go_wp2_with ((with_reducible refine gate_st (t := 31) rfl ?_); refine halt_L ?_)
            refine resume_L ?_
            obtain ⟨A6, c6, rfl⟩ := own_slice HO1.out
            refine wpList_put HBk.out (o := 0) (by simp) rfl rfl rfl infoB ?_
            intro w4 hb4 p4
            have HB4 := Lib.hid (p4.below HB1.out (by have := HBk.out.lt; omega) (Nat.le_refl _))
            have HD4 := Lib.hid (dec_new (ds := ds) (y := y) HO1.out HL0.out HBk.out p4 hb4)
            clear hb4 p4
            cases dot
            · have f3 : w4.cell? ⟨w.heap.size, 1, none⟩ = some (.int .i64 dp) := HD4.out.blk.cell 1 rfl
              go_wp2_with ((with_reducible refine gate_st (t := 3) rfl ?_); refine halt_L ?_)
              refine resume_L ?_
              refine wpList_put HD4.out.blk (o := 1) (v := .int .i64 (dp + 1)) (by simp) rfl rfl rfl infoI ?_
              intro w5 hb5 p5
              have HD5 := Lib.hid (show Dec w5 w.heap.size w.heap.size _ _ (dp + 1) from HD4.out.put HD4.out.row p5 hb5)
              have HB5 := Lib.hid (p5.below HB4.out HD4.out.lt (Nat.le_refl _))
              clear hb5 p5 f3
              go_wp2_with fail
              go_roundw
              case rel => exact ⟨i + 1, true, false, rfl, rfl, rfl, by go_num, by omega, HR2, Lib.hid ⟨_, ds ++ [y], dp + 1, HD5.out, HG.out.snoc hy9 HKP.out (.inr rfl), HB5.out⟩⟩
              case measure => simp [intOf]; omega
            · go_wp2_with fail
              go_roundw
              case rel => exact ⟨i + 1, true, true, rfl, rfl, rfl, by go_num, by omega, HR2, Lib.hid ⟨_, ds ++ [y], dp, HD4.out, HG.out.snoc hy9 HKP.out (.inl rfl), HB4.out⟩⟩
              case measure => simp [intOf]; omega
      · clear hD hG hB
        by_cases hp : bt s i = 46
        · cases dot
          · have HR2 := Lib.hid (HR.out.point hlt hp)
            rw [hp] at i1
            clear hl hd hb1 hp
            go_wp2_with fail
            go_roundw
            case rel => exact ⟨i + 1, sm, true, rfl, rfl, rfl, by go_num, by omega, HR2, Lib.hid ⟨_, ds, dp, HD.out, HG.out.skip, HB.out⟩⟩
            case measure => simp [intOf]; omega
          · have hnd : ¬ isD (bt s i) := hd
            have hnp : true = false → bt s i ≠ 46 := fun h => by cases h
            have hst := HR.out.stop (by omega) (fun _ => hnd) (fun _ => hnp)
            obtain ⟨m1, hM, hC⟩ := hst
            have HM := Lib.hid hM
            have HC := Lib.hid hC
            clear hM hC hnd hnp
            have HE := Lib.hid (show ¬ isE (bt s i) by unfold isE; omega)
            rw [hp] at i1
            clear hl hd hb1 hp
            have hT := lower_val 46 46 (by decide +kernel) wr
            cases sm
            · go_wp2
              go_ret2
              exact .inl ⟨fun h => by
                rw [HN.out] at h
                exact (absurd (HC.out.2 ((numT_iff HM.out).1 h).1) (by decide)), rfl, HB.out⟩
            · have HP := Lib.hid (HC.out.1 rfl)
              have HEI := Lib.hid hlt
              go_wp2_with (go_at_call 29; refine halt_H ?_)
              refine resume_H ?_
              refine hT.mono ?_
              rintro e w9 ⟨rfl, hw9⟩
              obtain rfl := hw9.symm
              clear hT
              go_wp2
              go_ret2
              exact .inl ⟨fun h => by
                rw [HN.out] at h
                exact (tail_not HEI.out HE.out ((numT_iff HM.out).1 h).2), rfl, HB.out⟩
        · have hnd : ¬ isD (bt s i) := hd
          have hnp : dot = false → bt s i ≠ 46 := fun _ => hp
          have hst := HR.out.stop (by omega) (fun _ => hnd) (fun _ => hnp)
          obtain ⟨m1, hM, hC⟩ := hst
          have HM := Lib.hid hM
          have HC := Lib.hid hC
          clear hM hC hnd hnp
          have hl2 : bt s i = 43 ∨ bt s i = 45 ∨ bt s i = 69 ∨ bt s i = 101 := by unfold Ltr at hl; rcases hl with h | h | h | h | h | h <;> first | exact absurd h hd | exact absurd h hp | omega
          clear hl hd hp
          by_cases he : isE (bt s i)
          · have HE := Lib.hid he
            have hT := lower_val ((bt s i : Nat) : Int) 101 (by rcases he with h | h <;> rw [h] <;> decide +kernel) wr
            have q1 : (((bt s i : Nat) : Int) == 95) = false := by unfold isE at he; rw [beq_eq_false_iff_ne]; omega
            have q2 : (((bt s i : Nat) : Int) == 46) = false := by unfold isE at he; rw [beq_eq_false_iff_ne]; omega
            have q3 : 57 < bt s i := by unfold isE at he; omega
            clear hl2 he
            generalize bt s i = y at i1 q1 q2 q3 hb1 hT
            cases sm
            · go_wp2
              go_ret2
              exact .inl ⟨fun h => by
                rw [HN.out] at h
                exact (absurd (HC.out.2 ((numT_iff HM.out).1 h).1) (by decide)), rfl, HB.out⟩
            · have HP := Lib.hid (HC.out.1 rfl)
              have HEI := Lib.hid hlt
              go_wp2_with (go_at_call 29; refine halt_H ?_)
              refine resume_H ?_
              refine hT.mono ?_
              rintro e w9 ⟨rfl, hw9⟩
              obtain rfl := hw9.symm
              clear hT
              by_cases hp1 : i + 1 < n
              · have i5 : ∀ W, (Instr.index 9 (.string s) (.int .i64 ((i : Int) + 1))).run Tryd.prog W = .ok (.int .u8 (bt s (i + 1) : Nat)) W := ixB s (i + 1) (by rw [HN.out]; exact hp1)
                by_cases s1 : bt s (i + 1) = 43
                · have HS := Lib.hid (show sg (bt s) n (i + 1) = i + 1 + 1 from if_pos ⟨hp1, .inl s1⟩)
                  rw [s1] at i5
                  clear s1
                  by_cases hj : i + 1 + 1 < n
                  · have i6 : ∀ W, (Instr.index 9 (.string s) (.int .i64 ((i : Int) + 1 + 1))).run Tryd.prog W = .ok (.int .u8 (bt s (i + 1 + 1) : Nat)) W := fun W => ixB s (i + 1 + 1) (by rw [HN.out]; exact hj) W
                    have hb6 := bt_lt s (i + 1 + 1)
                    by_cases hd6 : isD (bt s (i + 1 + 1))
                    · have d6 := hd6
                      unfold isD at d6
                      obtain ⟨d61, d62⟩ := d6
                      have q6 : (((bt s (i + 1 + 1) : Nat) : Int) == 95) = false := by rw [beq_eq_false_iff_ne]; omega
                      clear hd6
                      generalize bt s (i + 1 + 1) = y6 at i6 hb6 d61 d62 q6
                      go_wp2_with fail
                      go_loopw [11, 15] (fun iv ev wq => ∃ k x : Nat, iv = .int .i64 (k : Int) ∧ ev = .int .i64 (x : Int) ∧ i + 1 + 1 ≤ k ∧ k ≤ n ∧ x ≤ 100009 ∧ Hid (x + 1 ≤ 10 ^ (k - (i + 1 + 1))) ∧ Hid (∀ q, i + 1 + 1 ≤ q → q < k → isD (bt s q)) ∧ Hid (wq = wr)) (fun iv _ _ => n - (intOf iv).toNat)
                      case atStart => exact ⟨i + 1 + 1, 0, by go_num, rfl, by omega, by omega, by omega, Lib.hid (by rw [Nat.sub_self]; exact Nat.le_refl _), Lib.hid (fun q h1 h2 => by omega), Lib.hid rfl⟩
                      case round =>
                        clear i6 hb6 d61 d62 q6
                        obtain ⟨k, x, rfl, rfl, hk1, hk2, hx, HX, HQ3, HW3⟩ := hrel
                        obtain rfl := HW3.out.symm
                        by_cases hlt3 : k < n
                        · have i7 := ixB s k (by rw [HN.out]; exact hlt3)
                          have hb7 := bt_lt s k
                          have hl7 := HL.out k (by rw [HN.out]; exact hlt3)
                          by_cases hd7 : isD (bt s k)
                          · have HQ4 := Lib.hid (show ∀ q, i + 1 + 1 ≤ q → q < k + 1 → isD (bt s q) from fun q h1 h2 => by
                              by_cases e : q = k
                              · subst e; exact hd7
                              · exact HQ3.out q h1 (by omega))
                            obtain ⟨d1, d2⟩ := hd7
                            clear hl7
                            have q7 : (((bt s k : Nat) : Int) == 95) = false := by rw [beq_eq_false_iff_ne]; omega
                            have q8 : (((bt s k : Nat) : Int) != 95) = true := by rw [bne_iff_ne]; omega
                            generalize bt s k = y at *
                            have hpw := powk HX.out hk1 (show y - 48 ≤ 9 by omega)
                            have HP2 := Lib.hid hpw
                            clear hpw
                            by_cases hx4 : x < 10000
                            · go_wp2_with fail
                              go_roundw
                              case rel => exact ⟨k + 1, x * 10 + (y - 48), by go_num, by go_num, by omega, by omega, by omega, Lib.hid HP2.out.1, HQ4, Lib.hid trivial⟩
                              case measure => simp [intOf]; omega
                            · go_wp2_with fail
                              go_roundw
                              case rel => exact ⟨k + 1, x, by go_num, rfl, by omega, by omega, by omega, Lib.hid HP2.out.2, HQ4, Lib.hid trivial⟩
                              case measure => simp [intOf]; omega
                          · have HR3 := Lib.hid (show Run (bt s) n (i + 1 + 1) k from ⟨hk1, hk2, HQ3.out, fun _ => hd7⟩)
                            have HK3 := Lib.hid hlt3
                            have q7 : (((bt s k : Nat) : Int) == 95) = false := by rw [beq_eq_false_iff_ne]; intro e; unfold Ltr isD at hl7; omega
                            have hd8 : bt s k < 48 ∨ 57 < bt s k := by unfold isD at hd7; omega
                            clear hd7 hl7
                            generalize bt s k = y at i7 hb7 q7 hd8
                            rcases hd8 with hd8 | hd8
                            · go_wp2
                              go_ret2
                              exact .inl ⟨fun h => by
                                rw [HN.out] at h
                                exact (by have h2 := (numT_iff HM.out).1 h; have h3 := (tail_iff HEI.out HE.out (by rw [HS.out]; exact HR3.out)).1 h2.2; have := HK3.out; omega), rfl, HB.out⟩
                            · go_wp2
                              go_ret2
                              exact .inl ⟨fun h => by
                                rw [HN.out] at h
                                exact (by have h2 := (numT_iff HM.out).1 h; have h3 := (tail_iff HEI.out HE.out (by rw [HS.out]; exact HR3.out)).1 h2.2; have := HK3.out; omega), rfl, HB.out⟩
                        · have HR3 := Lib.hid (show Run (bt s) n (i + 1 + 1) k from ⟨hk1, hk2, HQ3.out, fun h => absurd h hlt3⟩)
                          have HKe := Lib.hid (show k = n by omega)
                          have HJ3 := Lib.hid (show i + 1 + 1 < k by omega)
                          have hx9 := fin_e HF.out HEI.out HE.out HS.out (fun q h1 h2 => HQ3.out q h1 (by rw [HKe.out]; exact h2)) (by have := HX.out; rw [HKe.out] at this; exact this)
                          clear hx
                          have f1 : wr.cell? ⟨w.heap.size, 1, none⟩ = some (.int .i64 dp) := HD.out.blk.cell 1 rfl
                          go_wp2_with ((with_reducible refine gate_st (t := 3) rfl ?_); refine halt_L ?_)
                          refine resume_L ?_
                          refine wpList_put HD.out.blk (o := 1) (v := .int .i64 (dp + (x : Int))) (by simp) rfl rfl rfl infoI ?_
                          intro w2 hb2 p2
                          have HD2 := Lib.hid (show Dec w2 w.heap.size w.heap.size v ds (dp + (x : Int)) from HD.out.put HD.out.row p2 hb2)
                          have HB2 := Lib.hid (p2.below HB.out HD.out.lt (Nat.le_refl _))
                          clear f1 hb2 p2
                          have hT := trim_any w.heap.size w.heap.size v ds _ w2 HD2.out (by have := HG.out.1; omega) (HG.out.dig)
                          go_wp2_with (go_at_call 30; refine halt_H ?_)
                          refine resume_H ?_
                          refine hT.mono ?_
                          rintro e w9 ⟨rfl, ⟨v3, hD3⟩, k3⟩
                          clear hT
                          have HD3 := Lib.hid hD3
                          have HB3 := Lib.hid (HB2.out.trans k3.below)
                          clear hD3 k3
                          go_wp2
                          go_ret2
                          exact .inr ⟨(by rw [HN.out]; exact (numT_iff HM.out).2 ⟨HP.out, (tail_iff HEI.out HE.out (by rw [HS.out]; exact HR3.out)).2 ⟨HKe.out, by rw [HS.out]; exact HJ3.out⟩⟩), _, v3, trimD ds, _, rfl, HD3.out, HG.out.trim, (by have := trimD_len ds; have := HG.out.1; omega), dpb (by omega), HB3.out⟩
                    · have HR3 := Lib.hid (show Run (bt s) n (i + 1 + 1) (i + 1 + 1) from ⟨Nat.le_refl _, by omega, fun q h1 h2 => by omega, fun _ => hd6⟩)
                      have hd8 : bt s (i + 1 + 1) < 48 ∨ 57 < bt s (i + 1 + 1) := by unfold isD at hd6; omega
                      clear hd6
                      generalize bt s (i + 1 + 1) = y6 at i6 hb6 hd8
                      rcases hd8 with hd8 | hd8
                      · go_wp2
                        go_ret2
                        exact .inl ⟨fun h => by
                          rw [HN.out] at h
                          exact (by have h2 := (numT_iff HM.out).1 h; have h3 := (tail_iff HEI.out HE.out (by rw [HS.out]; exact HR3.out)).1 h2.2; rw [HS.out] at h3; omega), rfl, HB.out⟩
                      · go_wp2
                        go_ret2
                        exact .inl ⟨fun h => by
                          rw [HN.out] at h
                          exact (by have h2 := (numT_iff HM.out).1 h; have h3 := (tail_iff HEI.out HE.out (by rw [HS.out]; exact HR3.out)).1 h2.2; rw [HS.out] at h3; omega), rfl, HB.out⟩
                  · have HR3 := Lib.hid (show Run (bt s) n (i + 1 + 1) (i + 1 + 1) from ⟨Nat.le_refl _, by omega, fun q h1 h2 => by omega, fun h => absurd h hj⟩)
                    go_wp2
                    go_ret2
                    exact .inl ⟨fun h => by
                      rw [HN.out] at h
                      exact (by have h2 := (numT_iff HM.out).1 h; have h3 := (tail_iff HEI.out HE.out (by rw [HS.out]; exact HR3.out)).1 h2.2; rw [HS.out] at h3; omega), rfl, HB.out⟩
                · by_cases s2 : bt s (i + 1) = 45
                  · have HS := Lib.hid (show sg (bt s) n (i + 1) = i + 1 + 1 from if_pos ⟨hp1, .inr s2⟩)
                    rw [s2] at i5
                    clear s1 s2
                    by_cases hj : i + 1 + 1 < n
                    · have i6 : ∀ W, (Instr.index 9 (.string s) (.int .i64 ((i : Int) + 1 + 1))).run Tryd.prog W = .ok (.int .u8 (bt s (i + 1 + 1) : Nat)) W := fun W => ixB s (i + 1 + 1) (by rw [HN.out]; exact hj) W
                      have hb6 := bt_lt s (i + 1 + 1)
                      by_cases hd6 : isD (bt s (i + 1 + 1))
                      · have d6 := hd6
                        unfold isD at d6
                        obtain ⟨d61, d62⟩ := d6
                        have q6 : (((bt s (i + 1 + 1) : Nat) : Int) == 95) = false := by rw [beq_eq_false_iff_ne]; omega
                        clear hd6
                        generalize bt s (i + 1 + 1) = y6 at i6 hb6 d61 d62 q6
                        go_wp2_with fail
                        go_loopw [11, 15] (fun iv ev wq => ∃ k x : Nat, iv = .int .i64 (k : Int) ∧ ev = .int .i64 (x : Int) ∧ i + 1 + 1 ≤ k ∧ k ≤ n ∧ x ≤ 100009 ∧ Hid (x + 1 ≤ 10 ^ (k - (i + 1 + 1))) ∧ Hid (∀ q, i + 1 + 1 ≤ q → q < k → isD (bt s q)) ∧ Hid (wq = wr)) (fun iv _ _ => n - (intOf iv).toNat)
                        case atStart => exact ⟨i + 1 + 1, 0, by go_num, rfl, by omega, by omega, by omega, Lib.hid (by rw [Nat.sub_self]; exact Nat.le_refl _), Lib.hid (fun q h1 h2 => by omega), Lib.hid rfl⟩
                        case round =>
                          clear i6 hb6 d61 d62 q6
                          obtain ⟨k, x, rfl, rfl, hk1, hk2, hx, HX, HQ3, HW3⟩ := hrel
                          obtain rfl := HW3.out.symm
                          by_cases hlt3 : k < n
                          · have i7 := ixB s k (by rw [HN.out]; exact hlt3)
                            have hb7 := bt_lt s k
                            have hl7 := HL.out k (by rw [HN.out]; exact hlt3)
                            by_cases hd7 : isD (bt s k)
                            · have HQ4 := Lib.hid (show ∀ q, i + 1 + 1 ≤ q → q < k + 1 → isD (bt s q) from fun q h1 h2 => by
                                by_cases e : q = k
                                · subst e; exact hd7
                                · exact HQ3.out q h1 (by omega))
                              obtain ⟨d1, d2⟩ := hd7
                              clear hl7
                              have q7 : (((bt s k : Nat) : Int) == 95) = false := by rw [beq_eq_false_iff_ne]; omega
                              have q8 : (((bt s k : Nat) : Int) != 95) = true := by rw [bne_iff_ne]; omega
                              generalize bt s k = y at *
                              have hpw := powk HX.out hk1 (show y - 48 ≤ 9 by omega)
                              have HP2 := Lib.hid hpw
                              clear hpw
                              by_cases hx4 : x < 10000
                              · go_wp2_with fail
                                go_roundw
                                case rel => exact ⟨k + 1, x * 10 + (y - 48), by go_num, by go_num, by omega, by omega, by omega, Lib.hid HP2.out.1, HQ4, Lib.hid trivial⟩
                                case measure => simp [intOf]; omega
                              · go_wp2_with fail
                                go_roundw
                                case rel => exact ⟨k + 1, x, by go_num, rfl, by omega, by omega, by omega, Lib.hid HP2.out.2, HQ4, Lib.hid trivial⟩
                                case measure => simp [intOf]; omega
                            · have HR3 := Lib.hid (show Run (bt s) n (i + 1 + 1) k from ⟨hk1, hk2, HQ3.out, fun _ => hd7⟩)
                              have HK3 := Lib.hid hlt3
                              have q7 : (((bt s k : Nat) : Int) == 95) = false := by rw [beq_eq_false_iff_ne]; intro e; unfold Ltr isD at hl7; omega
                              have hd8 : bt s k < 48 ∨ 57 < bt s k := by unfold isD at hd7; omega
                              clear hd7 hl7
                              generalize bt s k = y at i7 hb7 q7 hd8
                              rcases hd8 with hd8 | hd8
                              · go_wp2
                                go_ret2
                                exact .inl ⟨fun h => by
                                  rw [HN.out] at h
                                  exact (by have h2 := (numT_iff HM.out).1 h; have h3 := (tail_iff HEI.out HE.out (by rw [HS.out]; exact HR3.out)).1 h2.2; have := HK3.out; omega), rfl, HB.out⟩
                              · go_wp2
                                go_ret2
                                exact .inl ⟨fun h => by
                                  rw [HN.out] at h
                                  exact (by have h2 := (numT_iff HM.out).1 h; have h3 := (tail_iff HEI.out HE.out (by rw [HS.out]; exact HR3.out)).1 h2.2; have := HK3.out; omega), rfl, HB.out⟩
                          · have HR3 := Lib.hid (show Run (bt s) n (i + 1 + 1) k from ⟨hk1, hk2, HQ3.out, fun h => absurd h hlt3⟩)
                            have HKe := Lib.hid (show k = n by omega)
                            have HJ3 := Lib.hid (show i + 1 + 1 < k by omega)
                            have hx9 := fin_e HF.out HEI.out HE.out HS.out (fun q h1 h2 => HQ3.out q h1 (by rw [HKe.out]; exact h2)) (by have := HX.out; rw [HKe.out] at this; exact this)
                            clear hx
                            have f1 : wr.cell? ⟨w.heap.size, 1, none⟩ = some (.int .i64 dp) := HD.out.blk.cell 1 rfl
                            go_wp2_with ((with_reducible refine gate_st (t := 3) rfl ?_); refine halt_L ?_)
                            refine resume_L ?_
                            refine wpList_put HD.out.blk (o := 1) (v := .int .i64 (dp + -(x : Int))) (by simp) rfl rfl rfl infoI ?_
                            intro w2 hb2 p2
                            have HD2 := Lib.hid (show Dec w2 w.heap.size w.heap.size v ds (dp + -(x : Int)) from HD.out.put HD.out.row p2 hb2)
                            have HB2 := Lib.hid (p2.below HB.out HD.out.lt (Nat.le_refl _))
                            clear f1 hb2 p2
                            have hT := trim_any w.heap.size w.heap.size v ds _ w2 HD2.out (by have := HG.out.1; omega) (HG.out.dig)
                            go_wp2_with (go_at_call 30; refine halt_H ?_)
                            refine resume_H ?_
                            refine hT.mono ?_
                            rintro e w9 ⟨rfl, ⟨v3, hD3⟩, k3⟩
                            clear hT
                            have HD3 := Lib.hid hD3
                            have HB3 := Lib.hid (HB2.out.trans k3.below)
                            clear hD3 k3
                            go_wp2
                            go_ret2
                            exact .inr ⟨(by rw [HN.out]; exact (numT_iff HM.out).2 ⟨HP.out, (tail_iff HEI.out HE.out (by rw [HS.out]; exact HR3.out)).2 ⟨HKe.out, by rw [HS.out]; exact HJ3.out⟩⟩), _, v3, trimD ds, _, rfl, HD3.out, HG.out.trim, (by have := trimD_len ds; have := HG.out.1; omega), dpb (by omega), HB3.out⟩
                      · have HR3 := Lib.hid (show Run (bt s) n (i + 1 + 1) (i + 1 + 1) from ⟨Nat.le_refl _, by omega, fun q h1 h2 => by omega, fun _ => hd6⟩)
                        have hd8 : bt s (i + 1 + 1) < 48 ∨ 57 < bt s (i + 1 + 1) := by unfold isD at hd6; omega
                        clear hd6
                        generalize bt s (i + 1 + 1) = y6 at i6 hb6 hd8
                        rcases hd8 with hd8 | hd8
                        · go_wp2
                          go_ret2
                          exact .inl ⟨fun h => by
                            rw [HN.out] at h
                            exact (by have h2 := (numT_iff HM.out).1 h; have h3 := (tail_iff HEI.out HE.out (by rw [HS.out]; exact HR3.out)).1 h2.2; rw [HS.out] at h3; omega), rfl, HB.out⟩
                        · go_wp2
                          go_ret2
                          exact .inl ⟨fun h => by
                            rw [HN.out] at h
                            exact (by have h2 := (numT_iff HM.out).1 h; have h3 := (tail_iff HEI.out HE.out (by rw [HS.out]; exact HR3.out)).1 h2.2; rw [HS.out] at h3; omega), rfl, HB.out⟩
                    · have HR3 := Lib.hid (show Run (bt s) n (i + 1 + 1) (i + 1 + 1) from ⟨Nat.le_refl _, by omega, fun q h1 h2 => by omega, fun h => absurd h hj⟩)
                      go_wp2
                      go_ret2
                      exact .inl ⟨fun h => by
                        rw [HN.out] at h
                        exact (by have h2 := (numT_iff HM.out).1 h; have h3 := (tail_iff HEI.out HE.out (by rw [HS.out]; exact HR3.out)).1 h2.2; rw [HS.out] at h3; omega), rfl, HB.out⟩
                  · have HS := Lib.hid (show sg (bt s) n (i + 1) = i + 1 from if_neg (by rintro ⟨_, h | h⟩ <;> contradiction))
                    clear q1 q2
                    have q1 : (((bt s (i + 1) : Nat) : Int) == 43) = false := by rw [beq_eq_false_iff_ne]; omega
                    have q2 : (((bt s (i + 1) : Nat) : Int) == 45) = false := by rw [beq_eq_false_iff_ne]; omega
                    clear s1 s2
                    by_cases hj : i + 1 < n
                    · have i6 : ∀ W, (Instr.index 9 (.string s) (.int .i64 ((i : Int) + 1))).run Tryd.prog W = .ok (.int .u8 (bt s (i + 1) : Nat)) W := fun W => ixB s (i + 1) (by rw [HN.out]; exact hj) W
                      have hb6 := bt_lt s (i + 1)
                      by_cases hd6 : isD (bt s (i + 1))
                      · have d6 := hd6
                        unfold isD at d6
                        obtain ⟨d61, d62⟩ := d6
                        have q6 : (((bt s (i + 1) : Nat) : Int) == 95) = false := by rw [beq_eq_false_iff_ne]; omega
                        clear hd6
                        generalize bt s (i + 1) = y6 at i6 hb6 d61 d62 q6 i5 q1 q2
                        go_wp2_with fail
                        go_loopw [11, 15] (fun iv ev wq => ∃ k x : Nat, iv = .int .i64 (k : Int) ∧ ev = .int .i64 (x : Int) ∧ i + 1 ≤ k ∧ k ≤ n ∧ x ≤ 100009 ∧ Hid (x + 1 ≤ 10 ^ (k - (i + 1))) ∧ Hid (∀ q, i + 1 ≤ q → q < k → isD (bt s q)) ∧ Hid (wq = wr)) (fun iv _ _ => n - (intOf iv).toNat)
                        case atStart => exact ⟨i + 1, 0, by go_num, rfl, by omega, by omega, by omega, Lib.hid (by rw [Nat.sub_self]; exact Nat.le_refl _), Lib.hid (fun q h1 h2 => by omega), Lib.hid rfl⟩
                        case round =>
                          clear i6 hb6 d61 d62 q6 i5 q1 q2
                          obtain ⟨k, x, rfl, rfl, hk1, hk2, hx, HX, HQ3, HW3⟩ := hrel
                          obtain rfl := HW3.out.symm
                          by_cases hlt3 : k < n
                          · have i7 := ixB s k (by rw [HN.out]; exact hlt3)
                            have hb7 := bt_lt s k
                            have hl7 := HL.out k (by rw [HN.out]; exact hlt3)
                            by_cases hd7 : isD (bt s k)
                            · have HQ4 := Lib.hid (show ∀ q, i + 1 ≤ q → q < k + 1 → isD (bt s q) from fun q h1 h2 => by
                                by_cases e : q = k
                                · subst e; exact hd7
                                · exact HQ3.out q h1 (by omega))
                              obtain ⟨d1, d2⟩ := hd7
                              clear hl7
                              have q7 : (((bt s k : Nat) : Int) == 95) = false := by rw [beq_eq_false_iff_ne]; omega
                              have q8 : (((bt s k : Nat) : Int) != 95) = true := by rw [bne_iff_ne]; omega
                              generalize bt s k = y at *
                              have hpw := powk HX.out hk1 (show y - 48 ≤ 9 by omega)
                              have HP2 := Lib.hid hpw
                              clear hpw
                              by_cases hx4 : x < 10000
                              · go_wp2_with fail
                                go_roundw
                                case rel => exact ⟨k + 1, x * 10 + (y - 48), by go_num, by go_num, by omega, by omega, by omega, Lib.hid HP2.out.1, HQ4, Lib.hid trivial⟩
                                case measure => simp [intOf]; omega
                              · go_wp2_with fail
                                go_roundw
                                case rel => exact ⟨k + 1, x, by go_num, rfl, by omega, by omega, by omega, Lib.hid HP2.out.2, HQ4, Lib.hid trivial⟩
                                case measure => simp [intOf]; omega
                            · have HR3 := Lib.hid (show Run (bt s) n (i + 1) k from ⟨hk1, hk2, HQ3.out, fun _ => hd7⟩)
                              have HK3 := Lib.hid hlt3
                              have q7 : (((bt s k : Nat) : Int) == 95) = false := by rw [beq_eq_false_iff_ne]; intro e; unfold Ltr isD at hl7; omega
                              have hd8 : bt s k < 48 ∨ 57 < bt s k := by unfold isD at hd7; omega
                              clear hd7 hl7
                              generalize bt s k = y at i7 hb7 q7 hd8
                              rcases hd8 with hd8 | hd8
                              · go_wp2
                                go_ret2
                                exact .inl ⟨fun h => by
                                  rw [HN.out] at h
                                  exact (by have h2 := (numT_iff HM.out).1 h; have h3 := (tail_iff HEI.out HE.out (by rw [HS.out]; exact HR3.out)).1 h2.2; have := HK3.out; omega), rfl, HB.out⟩
                              · go_wp2
                                go_ret2
                                exact .inl ⟨fun h => by
                                  rw [HN.out] at h
                                  exact (by have h2 := (numT_iff HM.out).1 h; have h3 := (tail_iff HEI.out HE.out (by rw [HS.out]; exact HR3.out)).1 h2.2; have := HK3.out; omega), rfl, HB.out⟩
                          · have HR3 := Lib.hid (show Run (bt s) n (i + 1) k from ⟨hk1, hk2, HQ3.out, fun h => absurd h hlt3⟩)
                            have HKe := Lib.hid (show k = n by omega)
                            have HJ3 := Lib.hid (show i + 1 < k by omega)
                            have hx9 := fin_e HF.out HEI.out HE.out HS.out (fun q h1 h2 => HQ3.out q h1 (by rw [HKe.out]; exact h2)) (by have := HX.out; rw [HKe.out] at this; exact this)
                            clear hx
                            have f1 : wr.cell? ⟨w.heap.size, 1, none⟩ = some (.int .i64 dp) := HD.out.blk.cell 1 rfl
                            go_wp2_with ((with_reducible refine gate_st (t := 3) rfl ?_); refine halt_L ?_)
                            refine resume_L ?_
                            refine wpList_put HD.out.blk (o := 1) (v := .int .i64 (dp + (x : Int))) (by simp) rfl rfl rfl infoI ?_
                            intro w2 hb2 p2
                            have HD2 := Lib.hid (show Dec w2 w.heap.size w.heap.size v ds (dp + (x : Int)) from HD.out.put HD.out.row p2 hb2)
                            have HB2 := Lib.hid (p2.below HB.out HD.out.lt (Nat.le_refl _))
                            clear f1 hb2 p2
                            have hT := trim_any w.heap.size w.heap.size v ds _ w2 HD2.out (by have := HG.out.1; omega) (HG.out.dig)
                            go_wp2_with (go_at_call 30; refine halt_H ?_)
                            refine resume_H ?_
                            refine hT.mono ?_
                            rintro e w9 ⟨rfl, ⟨v3, hD3⟩, k3⟩
                            clear hT
                            have HD3 := Lib.hid hD3
                            have HB3 := Lib.hid (HB2.out.trans k3.below)
                            clear hD3 k3
                            go_wp2
                            go_ret2
                            exact .inr ⟨(by rw [HN.out]; exact (numT_iff HM.out).2 ⟨HP.out, (tail_iff HEI.out HE.out (by rw [HS.out]; exact HR3.out)).2 ⟨HKe.out, by rw [HS.out]; exact HJ3.out⟩⟩), _, v3, trimD ds, _, rfl, HD3.out, HG.out.trim, (by have := trimD_len ds; have := HG.out.1; omega), dpb (by omega), HB3.out⟩
                      · have HR3 := Lib.hid (show Run (bt s) n (i + 1) (i + 1) from ⟨Nat.le_refl _, by omega, fun q h1 h2 => by omega, fun _ => hd6⟩)
                        have hd8 : bt s (i + 1) < 48 ∨ 57 < bt s (i + 1) := by unfold isD at hd6; omega
                        clear hd6
                        generalize bt s (i + 1) = y6 at i6 hb6 hd8 i5 q1 q2
                        rcases hd8 with hd8 | hd8
                        · go_wp2
                          go_ret2
                          exact .inl ⟨fun h => by
                            rw [HN.out] at h
                            exact (by have h2 := (numT_iff HM.out).1 h; have h3 := (tail_iff HEI.out HE.out (by rw [HS.out]; exact HR3.out)).1 h2.2; rw [HS.out] at h3; omega), rfl, HB.out⟩
                        · go_wp2
                          go_ret2
                          exact .inl ⟨fun h => by
                            rw [HN.out] at h
                            exact (by have h2 := (numT_iff HM.out).1 h; have h3 := (tail_iff HEI.out HE.out (by rw [HS.out]; exact HR3.out)).1 h2.2; rw [HS.out] at h3; omega), rfl, HB.out⟩
                    · exact absurd hp1 hj
              · have HS := Lib.hid (show sg (bt s) n (i + 1) = i + 1 from if_neg (by rintro ⟨h, _⟩; contradiction))
                have HR3 := Lib.hid (show Run (bt s) n (i + 1) (i + 1) from ⟨Nat.le_refl _, by omega, fun q h1 h2 => by omega, fun h => absurd h hp1⟩)
                go_wp2
                go_ret2
                exact .inl ⟨fun h => by
                  rw [HN.out] at h
                  exact (by have h2 := (numT_iff HM.out).1 h; have h3 := (tail_iff HEI.out HE.out (by rw [HS.out]; exact HR3.out)).1 h2.2; rw [HS.out] at h3; omega), rfl, HB.out⟩
          · have HE := Lib.hid he
            have hl3 : bt s i = 43 ∨ bt s i = 45 := by unfold isE at he; omega
            clear hl2 he
            have hT := lower_val ((bt s i : Nat) : Int) ((bt s i : Nat) : Int) (by rcases hl3 with h | h <;> rw [h] <;> decide +kernel) wr
            have q1 : (((bt s i : Nat) : Int) == 95) = false := by rw [beq_eq_false_iff_ne]; omega
            have q2 : (((bt s i : Nat) : Int) == 46) = false := by rw [beq_eq_false_iff_ne]; omega
            have q3 : bt s i < 48 := by omega
            have q4 : (((bt s i : Nat) : Int) == 101) = false := by rw [beq_eq_false_iff_ne]; omega
            clear hl3
            generalize bt s i = y at i1 q1 q2 q3 q4 hb1 hT
            cases sm
            · go_wp2
              go_ret2
              exact .inl ⟨fun h => by
                rw [HN.out] at h
                exact (absurd (HC.out.2 ((numT_iff HM.out).1 h).1) (by decide)), rfl, HB.out⟩
            · have HP := Lib.hid (HC.out.1 rfl)
              have HEI := Lib.hid hlt
              go_wp2_with (go_at_call 29; refine halt_H ?_)
              refine resume_H ?_
              refine hT.mono ?_
              rintro e w9 ⟨rfl, hw9⟩
              obtain rfl := hw9.symm
              clear hT
              go_wp2
              go_ret2
              exact .inl ⟨fun h => by
                rw [HN.out] at h
                exact (tail_not HEI.out HE.out ((numT_iff HM.out).1 h).2), rfl, HB.out⟩
    · clear hD hG hB
      have hst := HR.out.stop (by omega) (fun h => absurd h hlt) (fun h => absurd h hlt)
      obtain ⟨m1, hM, hC⟩ := hst
      have HM := Lib.hid hM
      have HC := Lib.hid hC
      clear hM hC
      cases sm
      · go_wp2
        go_ret2
        exact .inl ⟨fun h => by
          rw [HN.out] at h
          exact (absurd (HC.out.2 ((numT_iff HM.out).1 h).1) (by decide)), rfl, HB.out⟩
      · have HP := Lib.hid (HC.out.1 rfl)
        have HME := Lib.hid (show i = n by omega)
        have f1 : wr.cell? ⟨w.heap.size, 1, none⟩ = some (.int .i64 dp) := HD.out.blk.cell 1 rfl
        go_wp2_with ((with_reducible refine gate_st (t := 3) rfl ?_); refine halt_L ?_)
        refine resume_L ?_
        refine wpList_put HD.out.blk (o := 1) (v := .int .i64 (dp)) (by simp) rfl rfl rfl infoI ?_
        intro w2 hb2 p2
        have HD2 := Lib.hid (show Dec w2 w.heap.size w.heap.size v ds (dp) from HD.out.put HD.out.row p2 hb2)
        have HB2 := Lib.hid (p2.below HB.out HD.out.lt (Nat.le_refl _))
        clear f1 hb2 p2
        have hT := trim_any w.heap.size w.heap.size v ds _ w2 HD2.out (by have := HG.out.1; omega) (HG.out.dig)
        go_wp2_with (go_at_call 30; refine halt_H ?_)
        refine resume_H ?_
        refine hT.mono ?_
        rintro e w9 ⟨rfl, ⟨v3, hD3⟩, k3⟩
        clear hT
        have HD3 := Lib.hid hD3
        have HB3 := Lib.hid (HB2.out.trans k3.below)
        clear hD3 k3
        go_wp2
        go_ret2
        exact .inr ⟨(by rw [HN.out]; exact (numT_iff HM.out).2 ⟨HP.out, HME.out.symm ▸ tail_end⟩), _, v3, trimD ds, _, rfl, HD3.out, HG.out.trim, (by have := trimD_len ds; have := HG.out.1; omega), dpb (by omega), HB3.out⟩
end Go.Proofs.YtefjonnajjpajaaDoor
