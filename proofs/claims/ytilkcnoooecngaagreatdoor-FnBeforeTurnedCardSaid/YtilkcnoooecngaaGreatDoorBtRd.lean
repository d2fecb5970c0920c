/- read of a text that is not hexadecimal, told. Texts of at most 1000 bytes. -/
import Derived.Test.YtilkcnoooecngaaGreatDoorBtRp
import Derived.Deep.CutBlock
namespace Go.Proofs.YtilkcnoooecngaaGreatDoor
open Go.RowKit
set_option linter.unusedVariables false
def RdRet (res : Option (List Nat × Int)) (w : World) (e : Ending) (w' : World) : Prop :=
  (res = none ∧ e = .returned (.tuple #[.pointer none, .bool false]) ∧ Below w.heap.size w w') ∨
  (∃ (b : Nat) (v : Value) (ds : List Nat) (dp : Int), res = some (ds, dp) ∧ e = .returned (.tuple #[.pointer (some ⟨b, 0, none⟩), .bool true]) ∧ Dec w' w.heap.size b v ds dp ∧ (ds = [] ∨ Good ds) ∧ ds.length ≤ 5000 ∧ (-900000 ≤ dp ∧ dp ≤ 900000) ∧ Below w.heap.size w w')
theorem lower_lw (c : Nat) (w : World) : Calls Tryz.prog 65 #[.int .u8 (c : Int)] w fun e w' => e = .returned (.int .u8 (lw c)) ∧ w' = w := lower_any c w
set_option maxHeartbeats 16000000 in
set_option maxRecDepth 100000 in
theorem read_dec (s : ByteArray) (w : World) (hs : s.size ≤ 1000) (hx : ¬ (2 ≤ s.size ∧ bt s 0 = 48 ∧ lw (bt s 1) = 120)) :
    Calls Tryz.prog 39 #[.string s] w (RdRet (decRes (bt s) s.size) w) := by
  obtain ⟨i0, hi0, hz0, hz1, hz2⟩ := info_parts infoU
  have HX := Lib.hid hx
  have HD0 := Lib.hid (show Dec _ w.heap.size w.heap.size (.slice none 0 0) [] 0 from ⟨Blk.new w tD #[.slice none 0 0, .int .i64 0], World.ownsRow_nil _ _ _ _, Nat.le_refl _⟩)
  have HB0 := Lib.hid ((Below.refl w.heap.size w).alloc (Nat.le_refl _) (.cells #[.slice none 0 0, .int .i64 0] tD))
  obtain ⟨n, hn⟩ : ∃ n, s.size = n := ⟨_, rfl⟩
  rw [hn] at hs ⊢
  have HN := Lib.hid hn
  clear hx
  go_enter Tryz.func39, Tryz.ntmps39
  go_upto_region 2 with fail
  go_cut [5] (fun x5 wx => x5 = .bool false ∧ wx = w.alloc (.cells #[.slice none 0 0, .int .i64 0] tD))
  case first =>
    as_aux_lemma =>
    by_cases h2 : 2 ≤ n
    · have j0 := ixB0 s (by omega)
      by_cases h48 : bt s 0 = 48
      · have j1 : ∀ W, (Instr.index 9 (.string s) (.int .i64 1)).run Tryz.prog W = .ok (.int .u8 (bt s 1 : Nat)) W := fun W => ixB s 1 (by omega) W
        have hT := fun W => lower_lw (bt s 1) W
        have hr2 : (lw (bt s 1) == 120) = false := by rw [beq_eq_false_iff_ne]; exact fun h => HX.out ⟨by rw [HN.out]; exact h2, h48, h⟩
        rw [h48] at j0
        generalize lw (bt s 1) = r at *
        clear h48
        go_wp2_with (go_at_call 65; refine halt_H ?_)
        refine resume_H ?_
        refine (hT _).mono ?_
        rintro e w9 ⟨rfl, rfl⟩
        clear hT
        go_wp2_with fail
        go_meet
        exact ⟨rfl, rfl⟩
      · have q0 : (((bt s 0 : Nat) : Int) == 48) = false := by rw [beq_eq_false_iff_ne]; omega
        clear h48
        go_wp2_with fail
        go_meet
        exact ⟨rfl, rfl⟩
    · go_wp2_with fail
      go_meet
      exact ⟨rfl, rfl⟩
  case rest =>
  as_aux_lemma =>
  obtain ⟨rfl, rfl⟩ := hcut
  go_upto_block 0 with fail
  go_cut [8, 9, 10, 11] (fun x8 x9 x10 x11 wx => ∃ (i : Nat) (sm dot : Bool) (ds : List Nat) (dp : Int) (v : Value), x8 = .bool sm ∧ x10 = .int .i64 0 ∧ x11 = .int .i64 (i : Int) ∧ i ≤ n ∧ Hid (FDone (rdF (bt s) n) (0, false, false, [], 0) (i, sm, dot, ds, dp)) ∧ Hid (Dec wx w.heap.size w.heap.size v ds dp ∧ Rg i ds dp ∧ Below w.heap.size w wx))
  case first =>
    as_aux_lemma =>
    go_wp2_with fail
    go_loopw [8, 9, 10, 11] (fun sv dv ev iv wr => ∃ (i : Nat) (sm dot : Bool), sv = .bool sm ∧ dv = .bool dot ∧ ev = .int .i64 0 ∧ iv = .int .i64 (i : Int) ∧ i ≤ n ∧ Hid (∃ (v : Value) (ds : List Nat) (dp : Int), Dec wr w.heap.size w.heap.size v ds dp ∧ Rg i ds dp ∧ Below w.heap.size w wr ∧ FGo (rdF (bt s) n) (0, false, false, [], 0) (i, sm, dot, ds, dp))) (fun _ _ _ iv _ => n - (intOf iv).toNat)
    case atStart => exact ⟨0, false, false, rfl, rfl, rfl, rfl, by omega, Lib.hid ⟨_, [], 0, HD0.out, Rg.start, HB0.out, .refl⟩⟩
    case round =>
      clear HD0 HB0
      obtain ⟨i, sm, dot, rfl, rfl, rfl, rfl, hi, HS0⟩ := hrel
      obtain ⟨wr, rfl⟩ : ∃ wz : World, wz = wr := ⟨_, rfl⟩
      obtain ⟨v, ds, dp, hD, hG, hB, hF⟩ := HS0.out
      have HD := Lib.hid hD
      have HG := Lib.hid hG
      have HB := Lib.hid hB
      have HF := Lib.hid hF
      obtain ⟨hdp1, hdp2⟩ := hG.far (show i ≤ 1000 by omega)
      clear HS0 hF
      by_cases hlt : i < n
      · have i1 := ixB s i (by rw [HN.out]; exact hlt)
        have hb1 := bt_lt s i
        by_cases h95 : bt s i = 95
        · have HR2 := Lib.hid (HF.out.step (show rdF (bt s) n (i, sm, dot, ds, dp) = some (i + 1, sm, dot, ds, dp) by unfold rdF; rw [if_pos hlt, if_pos h95]))
          rw [h95] at i1
          clear hD hG hB hb1 h95
          go_wp2_with fail
          go_roundw
          case rel => exact ⟨i + 1, sm, dot, rfl, rfl, rfl, by go_num, by omega, Lib.hid ⟨v, ds, dp, HD.out, HG.out.skip, HB.out, HR2.out⟩⟩
          case measure => simp [intOf]; omega
        · have q1 : (((bt s i : Nat) : Int) == 95) = false := by rw [beq_eq_false_iff_ne]; omega
          by_cases hp : bt s i = 46 ∧ dot = false
          · obtain ⟨hp, rfl⟩ := hp
            have HR2 := Lib.hid (HF.out.step (show rdF (bt s) n (i, sm, false, ds, dp) = some (i + 1, sm, true, ds, dp) by unfold rdF; rw [if_pos hlt, if_neg h95, if_pos ⟨hp, rfl⟩]))
            rw [hp] at i1 q1
            clear hD hG hB hb1 h95 hp q1
            go_wp2_with fail
            go_roundw
            case rel => exact ⟨i + 1, sm, true, rfl, rfl, rfl, by go_num, by omega, Lib.hid ⟨v, ds, dp, HD.out, HG.out.skip, HB.out, HR2.out⟩⟩
            case measure => simp [intOf]; omega
          · by_cases hd : isD (bt s i)
            · have hR : rdF (bt s) n (i, sm, dot, ds, dp) = if ds ≠ [] ∨ bt s i ≠ 48 then some (i + 1, true, dot, ds ++ [bt s i - 48], if dot = true then dp else dp + 1) else some (i + 1, true, dot, ds, if dot = true then dp - 1 else dp) := by
                unfold rdF
                rw [if_pos hlt, if_neg h95, if_neg hp, if_pos hd]
              obtain ⟨d1, d2⟩ := hd
              obtain ⟨y, hy⟩ : ∃ y, bt s i = y + 48 := ⟨bt s i - 48, by omega⟩
              rw [hy] at i1 hR
              have hy9 : y < 10 := by omega
              clear q1
              have q1 : (((y + 48 : Nat) : Int) == 95) = false := by rw [beq_eq_false_iff_ne]; omega
              have q2 : (((y + 48 : Nat) : Int) == 46) = false := by rw [beq_eq_false_iff_ne]; omega
              have q3 : (((y + 48 : Nat) : Int) - 48 == 16) = false := by rw [beq_eq_false_iff_ne]; omega
              rw [Nat.add_sub_cancel] at hR
              have HRR := Lib.hid hR
              clear hb1 d1 d2 hy h95 hp hR
              obtain ⟨A, cap, rfl, hc1, hc2, hgA⟩ := hD.form
              clear hgA
              have f0 : wr.cell? ⟨w.heap.size, 0, none⟩ = some (.slice A ds.length cap) := hD.blk.cell 0 rfl
              have f1 : wr.cell? ⟨w.heap.size, 1, none⟩ = some (.int .i64 dp) := hD.blk.cell 1 rfl
              have f2 : wr.frozen? ⟨w.heap.size, 1, none⟩ = false := hD.blk.frozen 1
              obtain ⟨L, hL0⟩ : ∃ L, ds.length = L := ⟨_, rfl⟩
              have hL1 : L ≤ 1000 := by have := hG.1; omega
              have hwl := hD.blk.lt
              rw [hL0] at f0 hc1
              have HL0 := Lib.hid hL0
              clear hL0 hD hG hB
              by_cases hz : L = 0 ∧ y = 0
              · have HZ := Lib.hid (show rdF (bt s) n (i, sm, dot, ds, dp) = some (i + 1, true, dot, ds, if dot = true then dp - 1 else dp) by
                  rw [HRR.out, if_neg]
                  rintro (h | h)
                  · exact h (List.eq_nil_of_length_eq_zero (by rw [HL0.out]; exact hz.1))
                  · exact h (by rw [hz.2]))
                clear HRR
                obtain ⟨rfl, rfl⟩ := hz
                cases dot
                · have HR2 := Lib.hid (HF.out.step HZ.out)
                  go_wp2_with fail
                  go_roundw
                  case rel => exact ⟨i + 1, true, false, rfl, rfl, rfl, by go_num, by omega, Lib.hid ⟨_, ds, dp, HD.out, HG.out.skip, HB.out, HR2.out⟩⟩
                  case measure => simp [intOf]; omega
                · have HR2 := Lib.hid (HF.out.step HZ.out)
                  go_wp2_with ((with_reducible refine gate_st (t := 3) rfl ?_); refine halt_L ?_)
                  refine resume_L ?_
                  refine wpList_put HD.out.blk (o := 1) (v := .int .i64 (dp - 1)) (by simp) rfl rfl rfl infoI ?_
                  intro w2 hb2 p2
                  have HD2 := Lib.hid (show Dec w2 w.heap.size w.heap.size _ ds (dp - 1) from HD.out.put HD.out.row p2 hb2)
                  have HB2 := Lib.hid (p2.below HB.out HD.out.lt (Nat.le_refl _))
                  clear hb2 p2 f0 f1 f2
                  go_wp2_with fail
                  go_roundw
                  case rel => exact ⟨i + 1, true, true, rfl, rfl, rfl, by go_num, by omega, Lib.hid ⟨_, ds, dp - 1, HD2.out, HG.out.less, HB2.out, HR2.out⟩⟩
                  case measure => simp [intOf]; omega
              · have HKP := Lib.hid (show ds ≠ [] ∨ y ≠ 0 by
                  by_cases h : L = 0
                  · exact .inr (fun e => hz ⟨h, e⟩)
                  · refine .inl (fun e => ?_)
                    have := HL0.out; rw [e] at this; simp at this; omega)
                have HZ := Lib.hid (show rdF (bt s) n (i, sm, dot, ds, dp) = some (i + 1, true, dot, ds ++ [y], if dot = true then dp else dp + 1) by
                  rw [HRR.out, if_pos]
                  rcases HKP.out with h | h
                  · exact .inl h
                  · exact .inr (by omega))
                clear HRR
                have hkeep : 0 < L ∨ (L = 0 ∧ (((y + 48 : Nat) : Int) - 48 != 0) = true) := by
                  rcases Nat.eq_zero_or_pos L with h | h
                  · refine .inr ⟨h, ?_⟩
                    rw [bne_iff_ne]; omega
                  · exact .inl h
                clear hz
                have hown : wr.ownsRow w.heap.size tU 1 (.slice A L cap) L (ds.map dc) := by have := HD.out.row; rwa [HL0.out] at this
                have HO := Lib.hid hown
                clear hown
                rcases hkeep with hkeep | ⟨rfl, hkeep⟩
                all_goals
                  go_wp2_with (at_builtin; refine halt_H ?_)
                  refine resume_H ?_
                  refine wpList_append_own _ rfl _ _ 56 rfl w.heap.size 5 i0 (.int .u8 0) 1 1 Tryz.underlying56 hi0 hz0 hz1 hz2 rfl (by decide) _ _ _ rfl (HO.out.alloc _) ⟨wr.heap.size, 0, none⟩ 1 1 [.int .u8 (y : Int)] rfl rfl (oneS_at (heap_alloc_new wr _)) (by simp [Value.oneCell']) (by unfold maxLen; omega) (by omega) (by simp; omega) ?_
                  intro v' w3 hown1 hgrow _
                  have HO1 := Lib.hid hown1
                  have HB1 := Lib.hid ((HB.out.alloc HB.out.size _).grown hgrow (by have := HB.out.size; simp; omega) (fun k hk => (HO.out.lt k hk).1))
                  have HBk := Lib.hid (show Blk w3 w.heap.size tD #[_, .int .i64 dp] from (HD.out.blk.alloc _).grown hgrow (by have h := HD.out.ne_own; rw [HL0.out] at h; exact h))
                  clear hown1 hgrow f0 f1 f2
                  go_wp2_with ((with_reducible refine gate_st (t := 56) rfl ?_); refine halt_L ?_)
                  refine resume_L ?_
                  obtain ⟨A6, c6, rfl⟩ := own_slice HO1.out
                  refine wpList_put HBk.out (o := 0) (by simp) rfl rfl rfl infoB ?_
                  intro w4 hb4 p4
                  have HB4 := Lib.hid (p4.below HB1.out (by have := HBk.out.lt; omega) (Nat.le_refl _))
                  have HD4 := Lib.hid (dec_new (ds := ds) (y := y) HO1.out HL0.out HBk.out p4 hb4)
                  clear hb4 p4
                  cases dot
                  · have HR2 := Lib.hid (HF.out.step HZ.out)
                    have f3 : w4.cell? ⟨w.heap.size, 1, none⟩ = some (.int .i64 dp) := HD4.out.blk.cell 1 rfl
                    go_wp2_with ((with_reducible refine gate_st (t := 3) rfl ?_); refine halt_L ?_)
                    refine resume_L ?_
                    refine wpList_put HD4.out.blk (o := 1) (v := .int .i64 (dp + 1)) (by simp) rfl rfl rfl infoI ?_
                    intro w5 hb5 p5
                    have HD5 := Lib.hid (show Dec w5 w.heap.size w.heap.size _ _ (dp + 1) from HD4.out.put HD4.out.row p5 hb5)
                    have HB5 := Lib.hid (p5.below HB4.out HD4.out.lt (Nat.le_refl _))
                    clear hb5 p5 f3
                    go_wp2_with fail
                    go_roundw
                    case rel => exact ⟨i + 1, true, false, rfl, rfl, rfl, by go_num, by omega, Lib.hid ⟨_, ds ++ [y], dp + 1, HD5.out, HG.out.snoc hy9 HKP.out (.inr rfl), HB5.out, HR2.out⟩⟩
                    case measure => simp [intOf]; omega
                  · have HR2 := Lib.hid (HF.out.step HZ.out)
                    go_wp2_with fail
                    go_roundw
                    case rel => exact ⟨i + 1, true, true, rfl, rfl, rfl, by go_num, by omega, Lib.hid ⟨_, ds ++ [y], dp, HD4.out, HG.out.snoc hy9 HKP.out (.inl rfl), HB4.out, HR2.out⟩⟩
                    case measure => simp [intOf]; omega
            · have HE := Lib.hid (HF.out.fin (show rdF (bt s) n (i, sm, dot, ds, dp) = none by unfold rdF; rw [if_pos hlt, if_neg h95, if_neg hp, if_neg hd]))
              have hp2 : bt s i = 46 ∧ dot = true ∨ bt s i ≠ 46 := by
                by_cases h : bt s i = 46
                · exact .inl ⟨h, by cases dot with | true => rfl | false => exact absurd ⟨h, rfl⟩ hp⟩
                · exact .inr h
              have hd8 : bt s i < 48 ∨ 57 < bt s i := by unfold isD at hd; omega
              clear hD hG hB h95 hp hd
              generalize bt s i = y at i1 hb1 q1 hp2 hd8
              rcases hp2 with ⟨rfl, rfl⟩ | hp2
              · clear hd8 hb1 q1
                go_wp2_with fail
                go_meet
                exact ⟨i, sm, true, ds, dp, v, rfl, rfl, rfl, hi, HE, Lib.hid ⟨HD.out, HG.out, HB.out⟩⟩
              · have q2 : ((y : Int) == 46) = false := by rw [beq_eq_false_iff_ne]; omega
                clear hp2
                rcases hd8 with hd8 | hd8
                · go_wp2_with fail
                  go_meet
                  exact ⟨i, sm, dot, ds, dp, v, rfl, rfl, rfl, hi, HE, Lib.hid ⟨HD.out, HG.out, HB.out⟩⟩
                · go_wp2_with fail
                  go_meet
                  exact ⟨i, sm, dot, ds, dp, v, rfl, rfl, rfl, hi, HE, Lib.hid ⟨HD.out, HG.out, HB.out⟩⟩
      · have HE := Lib.hid (HF.out.fin (show rdF (bt s) n (i, sm, dot, ds, dp) = none by unfold rdF; rw [if_neg hlt]))
        clear hD hG hB
        go_wp2_with fail
        go_meet
        exact ⟨i, sm, dot, ds, dp, v, rfl, rfl, rfl, hi, HE, Lib.hid ⟨HD.out, HG.out, HB.out⟩⟩
  case rest =>
  as_aux_lemma =>
  obtain ⟨i, sm, dot, ds, dp, v, rfl, rfl, rfl, hi, HE, HS⟩ := hcut
  obtain ⟨wr, rfl⟩ : ∃ z : World, z = wc := ⟨_, rfl⟩
  clear HD0 HB0
  have HRes := Lib.hid (decRes_eq HE.out)
  clear HE
  cases sm
  · go_wp2
    go_ret2
    exact .inl ⟨by rw [HRes.out]; rfl, rfl, HS.out.2.2⟩
  obtain ⟨bm, hbm⟩ : ∃ b : Bool, b = decide (i < n ∧ lw (bt s i) = 101) := ⟨_, rfl⟩
  have HM := Lib.hid hbm
  clear hbm
  go_upto_region 37 with fail
  go_cut [143] (fun c wx => c = .bool bm ∧ wx = wr)
  case first =>
    as_aux_lemma =>
    by_cases hlt : i < n
    · have i1 := ixB s i (by rw [HN.out]; exact hlt)
      have hT := fun W => lower_lw (bt s i) W
      obtain ⟨r, hr⟩ : ∃ r, lw (bt s i) = r := ⟨_, rfl⟩
      have HC := Lib.hid (show (r == 101) = bm by rw [HM.out, ← hr]; by_cases h : lw (bt s i) = 101 <;> simp [h, hlt])
      simp only [hr] at hT
      clear hr
      generalize bt s i = y at i1 hT
      go_wp2_with (go_at_call 65; refine halt_H ?_)
      refine resume_H ?_
      refine (hT _).mono ?_
      rintro e w9 ⟨rfl, rfl⟩
      clear hT
      go_wp2_with fail
      go_meet
      exact ⟨by rw [← HC.out], rfl⟩
    · have HC := Lib.hid (show bm = false by rw [HM.out]; exact decide_eq_false (fun h => hlt h.1))
      go_wp2_with fail
      go_meet
      exact ⟨by rw [HC.out], rfl⟩
  case rest =>
  as_aux_lemma =>
  obtain ⟨rfl, rfl⟩ := hcut
  obtain ⟨wr, rfl⟩ : ∃ z : World, z = wc := ⟨_, rfl⟩
  by_cases hm : i < n ∧ lw (bt s i) = 101
  · have HRs := Lib.hid (show decRes (bt s) n = (expRes (bt s) n i).map fun e => (trimD ds, if trimD ds = [] then 0 else dp + e) by rw [HRes.out, if_pos rfl]; unfold tailRes; rw [if_pos hm])
    obtain rfl : bm = true := by rw [HM.out]; exact decide_eq_true hm
    obtain ⟨hlt, hm2⟩ := hm
    clear HRes hm2 HM
    have hi1 : i + 1 ≤ n := by omega
    obtain ⟨bd, hbd⟩ : ∃ b : Bool, b = decide (i + 1 < n ∧ bt s (i + 1) = 45) := ⟨_, rfl⟩
    have HBd := Lib.hid hbd
    obtain ⟨bs, hbs⟩ : ∃ b : Bool, b = decide (i + 1 < n ∧ (bt s (i + 1) = 43 ∨ bt s (i + 1) = 45)) := ⟨_, rfl⟩
    have HBs := Lib.hid hbs
    clear hbd hbs
    go_upto_region 39 with fail
    go_cut [14] (fun c wx => c = .bool bd ∧ wx = wr)
    case first =>
      as_aux_lemma =>
      by_cases hp1 : i + 1 < n
      · have i5 : ∀ W, (Instr.index 9 (.string s) (.int .i64 ((i : Int) + 1))).run Tryz.prog W = .ok (.int .u8 (bt s (i + 1) : Nat)) W := ixB s (i + 1) (by rw [HN.out]; exact hp1)
        have HC := Lib.hid (show (((bt s (i + 1) : Nat) : Int) == 45) = bd by rw [HBd.out]; by_cases h : bt s (i + 1) = 45 <;> simp [h, hp1] <;> omega)
        generalize bt s (i + 1) = y at i5 HC
        go_wp2_with fail
        go_meet
        exact ⟨by rw [← HC.out], rfl⟩
      · have HC := Lib.hid (show bd = false by rw [HBd.out]; exact decide_eq_false (fun h => hp1 h.1))
        go_wp2_with fail
        go_meet
        exact ⟨by rw [HC.out], rfl⟩
    case rest =>
    as_aux_lemma =>
    obtain ⟨rfl, rfl⟩ := hcut
    obtain ⟨wr, rfl⟩ : ∃ z : World, z = wc := ⟨_, rfl⟩
    go_upto_region 40 with fail
    go_cut [171] (fun c wx => c = .bool bs ∧ wx = wr)
    case first =>
      as_aux_lemma =>
      by_cases hp1 : i + 1 < n
      · have i5 : ∀ W, (Instr.index 9 (.string s) (.int .i64 ((i : Int) + 1))).run Tryz.prog W = .ok (.int .u8 (bt s (i + 1) : Nat)) W := ixB s (i + 1) (by rw [HN.out]; exact hp1)
        by_cases h43 : bt s (i + 1) = 43
        · have HC := Lib.hid (show bs = true by rw [HBs.out]; exact decide_eq_true ⟨hp1, .inl h43⟩)
          rw [h43] at i5
          clear h43
          go_wp2_with fail
          go_meet
          exact ⟨by rw [HC.out], rfl⟩
        · have q1 : (((bt s (i + 1) : Nat) : Int) == 43) = false := by rw [beq_eq_false_iff_ne]; omega
          have HC := Lib.hid (show (((bt s (i + 1) : Nat) : Int) == 45) = bs by rw [HBs.out]; by_cases h : bt s (i + 1) = 45 <;> simp [h, hp1, h43] <;> omega)
          clear h43
          generalize bt s (i + 1) = y at i5 HC q1
          go_wp2_with fail
          go_meet
          exact ⟨by rw [← HC.out], rfl⟩
      · have HC := Lib.hid (show bs = false by rw [HBs.out]; exact decide_eq_false (fun h => hp1 h.1))
        go_wp2_with fail
        go_meet
        exact ⟨by rw [HC.out], rfl⟩
    case rest =>
    as_aux_lemma =>
    obtain ⟨rfl, rfl⟩ := hcut
    obtain ⟨wr, rfl⟩ : ∃ z : World, z = wc := ⟨_, rfl⟩
    obtain ⟨j, hj⟩ : ∃ j, sg (bt s) n (i + 1) = j := ⟨_, rfl⟩
    have HJ := Lib.hid hj
    have hj1 : i + 1 ≤ j ∧ j ≤ i + 2 ∧ j ≤ n := by
      unfold sg at hj
      split at hj <;> omega
    clear hj
    go_upto_if 171 with fail
    go_cut [11] (fun c wx => c = .int .i64 (j : Int) ∧ wx = wr)
    case first =>
      as_aux_lemma =>
      cases bs
      · have HE := Lib.hid (show j = i + 1 by rw [← HJ.out]; unfold sg; rw [if_neg]; exact of_decide_eq_false HBs.out.symm)
        go_wp2_with fail
        go_meet
        exact ⟨by rw [HE.out]; go_num, rfl⟩
      · have HE := Lib.hid (show j = i + 2 by rw [← HJ.out]; unfold sg; rw [if_pos (of_decide_eq_true HBs.out.symm)])
        go_wp2_with fail
        go_meet
        exact ⟨by rw [HE.out]; go_num, rfl⟩
    case rest =>
    as_aux_lemma =>
    obtain ⟨rfl, rfl⟩ := hcut
    obtain ⟨wr, rfl⟩ : ∃ z : World, z = wc := ⟨_, rfl⟩
    obtain ⟨hj1, hj2, hj3⟩ := hj1
    obtain ⟨bn, hbn⟩ : ∃ b : Bool, b = decide (¬ (j < n ∧ isD (bt s j))) := ⟨_, rfl⟩
    have HBn := Lib.hid hbn
    clear hbn
    go_upto_region 42 with fail
    go_cut [189] (fun c wx => c = .bool bn ∧ wx = wr)
    case first =>
      as_aux_lemma =>
      by_cases hp1 : j < n
      · have i5 := ixB s j (by rw [HN.out]; exact hp1)
        have HC := Lib.hid (show bn = decide (¬ (48 ≤ bt s j ∧ bt s j ≤ 57)) by rw [HBn.out]; unfold isD; simp [hp1])
        generalize bt s j = y at i5 HC
        by_cases h48 : y < 48
        · have HE := Lib.hid (show bn = true by rw [HC.out]; exact decide_eq_true (by omega))
          go_wp2_with fail
          go_meet
          exact ⟨by rw [HE.out], rfl⟩
        · by_cases h57 : 57 < y
          · have HE := Lib.hid (show bn = true by rw [HC.out]; exact decide_eq_true (by omega))
            go_wp2_with fail
            go_meet
            exact ⟨by rw [HE.out]; congr 1; simp; omega, rfl⟩
          · have HE := Lib.hid (show bn = false by rw [HC.out]; exact decide_eq_false (by omega))
            go_wp2_with fail
            go_meet
            exact ⟨by rw [HE.out]; congr 1; simp; omega, rfl⟩
      · have HE := Lib.hid (show bn = true by rw [HBn.out]; exact decide_eq_true (fun h => hp1 h.1))
        go_wp2_with fail
        go_meet
        exact ⟨by rw [HE.out], rfl⟩
    case rest =>
    as_aux_lemma =>
    obtain ⟨rfl, rfl⟩ := hcut
    obtain ⟨wr, rfl⟩ : ∃ z : World, z = wc := ⟨_, rfl⟩
    cases bn
    rotate_left
    · have HX2 := Lib.hid (exp_none (f := bt s) (n := n) (i := i) HJ.out (of_decide_eq_true HBn.out.symm))
      go_wp2
      go_ret2
      exact .inl ⟨by rw [HRs.out, HX2.out]; rfl, rfl, HS.out.2.2⟩
    have HJd := Lib.hid (Decidable.not_not.1 (of_decide_eq_false HBn.out.symm))
    go_upto_block 4 with fail
    go_cut [11, 15] (fun x11 x15 wx => ∃ (k x : Nat), x11 = .int .i64 (k : Int) ∧ x15 = .int .i64 (x : Int) ∧ k ≤ n ∧ x ≤ 100009 ∧ Hid (FDone (exF (bt s) n) (j, 0) (k, x)) ∧ wx = wr)
    case first =>
      as_aux_lemma =>
      go_wp2_with fail
      go_loopw [11, 15] (fun iv ev wx => ∃ (k x : Nat), iv = .int .i64 (k : Int) ∧ ev = .int .i64 (x : Int) ∧ k ≤ n ∧ x ≤ 100009 ∧ Hid (FGo (exF (bt s) n) (j, 0) (k, x)) ∧ wx = wr) (fun iv _ _ => n - (intOf iv).toNat)
      case atStart => exact ⟨j, 0, rfl, rfl, hj3, by omega, Lib.hid .refl, rfl⟩
      case round =>
        obtain ⟨k, x, rfl, rfl, hk, hx1, HF, rfl⟩ := hrel
        by_cases hlt : k < n
        · have i7 := ixB s k (by rw [HN.out]; exact hlt)
          by_cases hd : isD (bt s k)
          · obtain ⟨y, hy⟩ : ∃ y, bt s k = y + 48 := ⟨bt s k - 48, by unfold isD at hd; omega⟩
            have hy9 : y < 10 := by unfold isD at hd; omega
            have hR : exF (bt s) n (k, x) = some (k + 1, if x < 10000 then x * 10 + y else x) := by
              unfold exF
              rw [if_pos ⟨hlt, .inl hd⟩, hy]
              simp
              by_cases h : x < 10000 <;> simp [h] <;> omega
            have HR := Lib.hid (HF.out.step hR)
            rw [hy] at i7
            have q1 : ((y : Int) + 48 != 95) = true := by rw [bne_iff_ne]; omega
            clear hd hy hR
            by_cases hxx : x < 10000
            · have HR2 := Lib.hid (show FGo (exF (bt s) n) (j, 0) (k + 1, x * 10 + y) by have := HR.out; rwa [if_pos hxx] at this)
              clear HR
              go_wp2_with fail
              go_roundw
              case rel => exact ⟨k + 1, x * 10 + y, by go_num, by go_num, by omega, by omega, HR2, trivial⟩
              case measure => simp [intOf]; omega
            · have HR2 := Lib.hid (show FGo (exF (bt s) n) (j, 0) (k + 1, x) by have := HR.out; rwa [if_neg hxx] at this)
              clear HR
              go_wp2_with fail
              go_roundw
              case rel => exact ⟨k + 1, x, by go_num, by go_num, by omega, by omega, HR2, trivial⟩
              case measure => simp [intOf]; omega
          · by_cases h95 : bt s k = 95
            · have HR := Lib.hid (HF.out.step (show exF (bt s) n (k, x) = some (k + 1, x) by unfold exF; rw [if_pos ⟨hlt, .inr h95⟩, if_neg (fun h => h.1 h95)]))
              rw [h95] at i7
              clear hd h95
              go_wp2_with fail
              go_roundw
              case rel => exact ⟨k + 1, x, by go_num, by go_num, by omega, by omega, HR, trivial⟩
              case measure => simp [intOf]; omega
            · have HR := Lib.hid (HF.out.fin (show exF (bt s) n (k, x) = none by unfold exF; rw [if_neg (fun h => h.2.elim hd h95)]))
              have q1 : (((bt s k : Nat) : Int) == 95) = false := by rw [beq_eq_false_iff_ne]; omega
              have hd8 : bt s k < 48 ∨ 57 < bt s k := by unfold isD at hd; omega
              clear hd h95
              generalize bt s k = y at i7 q1 hd8
              rcases hd8 with hd8 | hd8
              · go_wp2_with fail
                go_meet
                exact ⟨k, x, rfl, rfl, hk, hx1, HR, rfl⟩
              · go_wp2_with fail
                go_meet
                exact ⟨k, x, rfl, rfl, hk, hx1, HR, rfl⟩
        · have HR := Lib.hid (HF.out.fin (show exF (bt s) n (k, x) = none by unfold exF; rw [if_neg (fun h => hlt h.1)]))
          go_wp2_with fail
          go_meet
          exact ⟨k, x, rfl, rfl, hk, hx1, HR, rfl⟩
    case rest =>
    as_aux_lemma =>
    obtain ⟨k, x, rfl, rfl, hk, hx1, HE, rfl⟩ := hcut
    obtain ⟨wr, rfl⟩ : ∃ z : World, z = wc := ⟨_, rfl⟩
    have HX3 := Lib.hid (exp_some (i := i) HJ.out HJd.out HE.out)
    obtain ⟨z, hz⟩ : ∃ z : Int, z = if bd = true then -(x : Int) else (x : Int) := ⟨_, rfl⟩
    have hz1 : -100009 ≤ z ∧ z ≤ 100009 := by rw [hz]; split <;> omega
    have HZ0 := Lib.hid hz
    go_upto_if 230 with fail
    go_cut [15] (fun c wx => c = .int .i64 z ∧ wx = wr)
    case first =>
      as_aux_lemma =>
      cases bd
      · have HZ1 := Lib.hid (show z = (x : Int) by rw [HZ0.out]; simp)
        go_wp2_with fail
        go_meet
        exact ⟨by rw [HZ1.out], rfl⟩
      · have HZ1 := Lib.hid (show z = -(x : Int) by rw [HZ0.out]; simp)
        go_wp2_with fail
        go_meet
        exact ⟨by rw [HZ1.out], rfl⟩
    case rest =>
    as_aux_lemma =>
    obtain ⟨rfl, rfl⟩ := hcut
    obtain ⟨wr, rfl⟩ : ∃ z : World, z = wc := ⟨_, rfl⟩
    have HZ2 := Lib.hid (show expRes (bt s) n i = if k < n then none else some z by
      rw [HX3.out, HZ0.out, HBd.out]
      by_cases h : i + 1 < n ∧ bt s (i + 1) = 45 <;> simp [h])
    obtain ⟨hz1, hz2⟩ := hz1
    clear hz HZ0
    by_cases hlt2 : k < n
    · go_wp2
      go_ret2
      exact .inl ⟨by rw [HRs.out, HZ2.out, if_pos hlt2]; rfl, rfl, HS.out.2.2⟩
    · have HZ := Lib.hid (show decRes (bt s) n = some (trimD ds, if trimD ds = [] then 0 else dp + z) by rw [HRs.out, HZ2.out, if_neg hlt2]; simp)
      have f1 : wr.cell? ⟨w.heap.size, 1, none⟩ = some (.int .i64 dp) := HS.out.1.blk.cell 1 rfl
      have HD := Lib.hid HS.out.1
      have HG := Lib.hid HS.out.2.1
      have HB := Lib.hid HS.out.2.2
      obtain ⟨hdp1, hdp2⟩ := HG.out.far (show i ≤ 1000 by omega)
      go_wp2_with ((with_reducible refine gate_st (t := 3) rfl ?_); refine halt_L ?_)
      refine resume_L ?_
      refine wpList_put HD.out.blk (o := 1) (v := .int .i64 (dp + z)) (by simp) rfl rfl rfl infoI ?_
      intro w2 hb2 p2
      have HD2 := Lib.hid (show Dec w2 w.heap.size w.heap.size v ds (dp + z) from HD.out.put HD.out.row p2 hb2)
      have HB2 := Lib.hid (p2.below HB.out HD.out.lt (Nat.le_refl _))
      clear f1 hb2 p2
      have hT := trim_any w.heap.size w.heap.size v ds _ w2 HD2.out (by have := HG.out.1; omega) (HG.out.dig)
      go_wp2_with (go_at_call 66; refine halt_H ?_)
      refine resume_H ?_
      refine hT.mono ?_
      rintro e w9 ⟨rfl, ⟨v3, hD3⟩, k3⟩
      clear hT
      have HD3 := Lib.hid hD3
      have HB3 := Lib.hid (HB2.out.trans k3.below)
      clear hD3 k3
      go_wp2
      go_ret2
      exact .inr ⟨_, v3, trimD ds, _, HZ.out, rfl, HD3.out, HG.out.trim, (by have := trimD_len ds; have := HG.out.1; omega), (by split <;> omega), HB3.out⟩
  · have HRs := Lib.hid (show decRes (bt s) n = (if i < n then none else some (0 : Int)).map fun e => (trimD ds, if trimD ds = [] then 0 else dp + e) by rw [HRes.out, if_pos rfl]; unfold tailRes; rw [if_neg hm]; simp)
    obtain rfl : bm = false := by rw [HM.out]; exact decide_eq_false hm
    clear HRes hm HM
    by_cases hlt : i < n
    · go_wp2
      go_ret2
      exact .inl ⟨by rw [HRs.out, if_pos hlt]; rfl, rfl, HS.out.2.2⟩
    · have HZ := Lib.hid (show decRes (bt s) n = some (trimD ds, if trimD ds = [] then 0 else dp) by rw [HRs.out, if_neg hlt]; simp)
      have f1 : wr.cell? ⟨w.heap.size, 1, none⟩ = some (.int .i64 dp) := HS.out.1.blk.cell 1 rfl
      have HD := Lib.hid HS.out.1
      have HG := Lib.hid HS.out.2.1
      have HB := Lib.hid HS.out.2.2
      obtain ⟨hdp1, hdp2⟩ := HG.out.far (show i ≤ 1000 by omega)
      go_wp2_with ((with_reducible refine gate_st (t := 3) rfl ?_); refine halt_L ?_)
      refine resume_L ?_
      refine wpList_put HD.out.blk (o := 1) (v := .int .i64 (dp)) (by simp) rfl rfl rfl infoI ?_
      intro w2 hb2 p2
      have HD2 := Lib.hid (show Dec w2 w.heap.size w.heap.size v ds (dp) from HD.out.put HD.out.row p2 hb2)
      have HB2 := Lib.hid (p2.below HB.out HD.out.lt (Nat.le_refl _))
      clear f1 hb2 p2
      have hT := trim_any w.heap.size w.heap.size v ds _ w2 HD2.out (by have := HG.out.1; omega) (HG.out.dig)
      go_wp2_with (go_at_call 66; refine halt_H ?_)
      refine resume_H ?_
      refine hT.mono ?_
      rintro e w9 ⟨rfl, ⟨v3, hD3⟩, k3⟩
      clear hT
      have HD3 := Lib.hid hD3
      have HB3 := Lib.hid (HB2.out.trans k3.below)
      clear hD3 k3
      go_wp2
      go_ret2
      exact .inr ⟨_, v3, trimD ds, _, HZ.out, rfl, HD3.out, HG.out.trim, (by have := trimD_len ds; have := HG.out.1; omega), (by split <;> omega), HB3.out⟩
end Go.Proofs.YtilkcnoooecngaaGreatDoor
