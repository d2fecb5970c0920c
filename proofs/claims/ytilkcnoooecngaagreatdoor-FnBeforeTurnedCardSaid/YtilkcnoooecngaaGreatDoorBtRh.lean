/- read of a hexadecimal text, told. Texts of at most 1000 bytes. -/
import Derived.Test.YtilkcnoooecngaaGreatDoorBtN
import Derived.Test.YtilkcnoooecngaaGreatDoorBtRd
import Derived.Test.YtilkcnoooecngaaGreatDoorBtRq
namespace Go.Proofs.YtilkcnoooecngaaGreatDoor
open Go.RowKit
set_option linter.unusedVariables false
theorem Dec.mono {w : World} {B B' b : Nat} {v : Value} {ds : List Nat} {dp : Int} (h : Dec w B b v ds dp) (hB : B' ≤ B) : Dec w B' b v ds dp := ⟨h.blk, own_mono h.row hB, Nat.le_trans hB h.Bb⟩
theorem dec_nil {w w' : World} (h : Below w.heap.size w w') : Dec (w'.alloc (.cells #[.slice none 0 0, .int .i64 0] tD)) w.heap.size w'.heap.size (.slice none 0 0) [] 0 :=
  ⟨Blk.new w' tD _, World.ownsRow_nil _ _ _ _, h.size⟩
def RhRet (f : Nat → Nat) (n : Nat) (w : World) (e : Ending) (w' : World) : Prop := ∃ res, HRes f n res ∧ RdRet res w e w'
set_option maxHeartbeats 16000000 in
set_option maxRecDepth 100000 in
theorem read_hex (s t : ByteArray) (w : World) (hs : s.size ≤ 1000) (hx : 2 ≤ s.size ∧ bt s 0 = 48 ∧ lw (bt s 1) = 120) (ht : s.extract 2 s.size = t) :
    Calls Tryz.prog 39 #[.string s] w (RhRet (bt t) t.size w) := by
  have HS := Lib.hid ((Below.refl w.heap.size w).alloc (Nat.le_refl _) (.cells #[.slice none 0 0, .int .i64 0] tD))
  obtain ⟨n, hn⟩ : ∃ n, t.size = n := ⟨_, rfl⟩
  have hn1 : n ≤ 1000 := by rw [← hn, ← ht]; simp; omega
  rw [hn]
  have HN := Lib.hid hn
  obtain ⟨hx1, hx2, hx3⟩ := hx
  have HX2 := Lib.hid hx2
  have HX3 := Lib.hid hx3
  have hsl := fun W => slice_str_lo Tryz.underlying9 s 2 2 rfl hx1 W
  rw [ht] at hsl
  clear ht hx2 hx3
  go_enter Tryz.func39, Tryz.ntmps39
  go_upto_region 2 with fail
  go_cut [5] (fun x5 wx => x5 = .bool true ∧ wx = w.alloc (.cells #[.slice none 0 0, .int .i64 0] tD))
  case first =>
    as_aux_lemma =>
    have j0 := ixB0 s (by omega)
    have j1 : ∀ W, (Instr.index 9 (.string s) (.int .i64 1)).run Tryz.prog W = .ok (.int .u8 (bt s 1 : Nat)) W := fun W => ixB s 1 (by omega) W
    have hT := fun W => lower_lw (bt s 1) W
    have hr2 := HX3.out
    rw [HX2.out] at j0
    rw [hr2] at hT
    clear hr2
    go_wp2_with (go_at_call 65; refine halt_H ?_)
    refine resume_H ?_
    refine (hT _).mono ?_
    rintro e w9 ⟨rfl, rfl⟩
    clear hT
    go_wp2_with fail
    go_meet
    exact ⟨rfl, rfl⟩
  case rest =>
  as_aux_lemma =>
  obtain ⟨rfl, rfl⟩ := hcut
  clear HX2 HX3
  go_upto_block 0 with fail
  clear hsl hx1 hs
  obtain ⟨w1, hw1⟩ : ∃ z, w.alloc (.cells #[.slice none 0 0, .int .i64 0] tD) = z := ⟨_, rfl⟩
  rw [hw1] at HS
  rw [hw1]
  clear hw1
  go_cut [7, 8, 9, 10, 11] (fun x7 x8 x9 x10 x11 wx => ∃ (i : Nat) (sm dot : Bool) (mant : Nat) (ex : Int), x7 = .int .u64 (mant : Int) ∧ x8 = .bool sm ∧ x10 = .int .i64 ex ∧ x11 = .int .i64 (i : Int) ∧ i ≤ n ∧ mant ≤ 18446744073709551615 ∧ (-4000 ≤ ex ∧ ex ≤ 4000) ∧ Hid (FDone (hxF (bt t) n) (0, false, false, 0, 0) (i, sm, dot, mant, ex)) ∧ wx = w1)
  case first =>
    as_aux_lemma =>
    go_wp2_with fail
    go_loopw [7, 8, 9, 10, 11] (fun mv sv dv ev iv wr => ∃ (i : Nat) (sm dot : Bool) (mant : Nat) (ex : Int), mv = .int .u64 (mant : Int) ∧ sv = .bool sm ∧ dv = .bool dot ∧ ev = .int .i64 ex ∧ iv = .int .i64 (i : Int) ∧ i ≤ n ∧ mant ≤ 18446744073709551615 ∧ (-4 * (i : Int) ≤ ex ∧ ex ≤ 4 * (i : Int)) ∧ Hid (FGo (hxF (bt t) n) (0, false, false, 0, 0) (i, sm, dot, mant, ex)) ∧ wr = w1) (fun _ _ _ _ iv _ => n - (intOf iv).toNat)
    case atStart => exact ⟨0, false, false, 0, 0, rfl, rfl, rfl, rfl, rfl, by omega, by omega, by omega, Lib.hid .refl, rfl⟩
    case round =>
      obtain ⟨i, sm, dot, mant, ex, rfl, rfl, rfl, rfl, rfl, hi, hm64, hex, HF, rfl⟩ := hrel
      obtain ⟨hex1, hex2⟩ := hex
      by_cases hlt : i < n
      · have i1 := ixB t i (by rw [HN.out]; exact hlt)
        have hb1 := bt_lt t i
        by_cases h95 : bt t i = 95
        · have HR2 := Lib.hid (HF.out.step (hx_skip hlt h95))
          rw [h95] at i1
          clear hb1 h95
          go_wp2_with fail
          go_roundw
          case rel => exact ⟨i + 1, sm, dot, mant, ex, rfl, rfl, rfl, rfl, by go_num, by omega, hm64, by omega, HR2, trivial⟩
          case measure => simp [intOf]; omega
        · have q1 : (((bt t i : Nat) : Int) == 95) = false := by rw [beq_eq_false_iff_ne]; omega
          by_cases hp : bt t i = 46 ∧ dot = false
          · obtain ⟨hp, rfl⟩ := hp
            have HR2 := Lib.hid (HF.out.step (hx_point hlt hp))
            rw [hp] at i1 q1
            clear hb1 h95 hp q1
            go_wp2_with fail
            go_roundw
            case rel => exact ⟨i + 1, sm, true, mant, ex, rfl, rfl, rfl, rfl, by go_num, by omega, hm64, by omega, HR2, trivial⟩
            case measure => simp [intOf]; omega
          · by_cases hd : isX (bt t i)
            · have HR := Lib.hid (show ∀ S, hxS mant ex (hv (bt t i)) dot = S → FGo (hxF (bt t) n) (0, false, false, 0, 0) (i + 1, true, dot, S) from fun S hS => HF.out.step (by rw [hx_dig hlt h95 hp hd, hS]))
              have hp2 : bt t i ≠ 46 := fun e => by rw [e] at hd; exact not_isX46 hd
              have hv16 := hv_lt (bt t i) hd
              have HV := Lib.hid (show ∀ d, d = hv (bt t i) → hv (bt t i) = d from fun d h => h.symm)
              have HFF := Lib.hid (isX_cases hd hb1)
              clear hp hd
              obtain ⟨d, hdv⟩ : ∃ d, hv (bt t i) = d := ⟨_, rfl⟩
              rw [hdv] at HR HV hv16 HFF
              have q5 : ((d : Int) == 16) = false := by rw [beq_eq_false_iff_ne]; omega
              have hT := fun W => lower_lw (bt t i) W
              have q2 : (((bt t i : Nat) : Int) == 46) = false := by rw [beq_eq_false_iff_ne]; omega
              generalize bt t i = y at *
              clear h95 hp2 hdv HV
              by_cases hsm : mant < 1152921504606846976
              · have hor := hx_or mant d hsm hv16
                have hsh : ((mant : Int) / 1152921504606846976 == 0) = true := by rw [beq_iff_eq]; omega
                have hm2 : mant * 16 + d ≤ 18446744073709551615 := by omega
                have HR1 := Lib.hid (HR.out _ (hxS_small hsm))
                clear HR hsm
                rcases HFF.out with ⟨e1, e2, e3⟩ | ⟨r, e0, e1, e2, e3, e4⟩
                · subst e1
                  clear hT
                  cases dot
                  · go_wp2_with fail
                    go_roundw
                    case rel => exact ⟨i + 1, true, false, mant * 16 + d, ex, by first | go_num | rw [show (d : Int) + 87 - 97 + 10 = d by omega, hor], rfl, rfl, rfl, by go_num, by omega, hm2, by omega, HR1, trivial⟩
                    case measure => simp [intOf]; omega
                  · go_wp2_with fail
                    go_roundw
                    case rel => exact ⟨i + 1, true, true, mant * 16 + d, ex - 4, by first | go_num | rw [show (d : Int) + 87 - 97 + 10 = d by omega, hor], rfl, rfl, by go_num, by go_num, by omega, hm2, by omega, HR1, trivial⟩
                    case measure => simp [intOf]; omega
                · rw [e0] at hT
                  subst e4
                  cases dot
                  · go_wp2_with (go_at_call 65; refine (hT _).mono ?_; rintro e w9 ⟨rfl, rfl⟩)
                    go_roundw
                    case rel => exact ⟨i + 1, true, false, mant * 16 + d, ex, by first | go_num | rw [show (d : Int) + 87 - 97 + 10 = d by omega, hor], rfl, rfl, rfl, by go_num, by omega, hm2, by omega, HR1, trivial⟩
                    case measure => simp [intOf]; omega
                  · go_wp2_with (go_at_call 65; refine (hT _).mono ?_; rintro e w9 ⟨rfl, rfl⟩)
                    go_roundw
                    case rel => exact ⟨i + 1, true, true, mant * 16 + d, ex - 4, by first | go_num | rw [show (d : Int) + 87 - 97 + 10 = d by omega, hor], rfl, rfl, by go_num, by go_num, by omega, hm2, by omega, HR1, trivial⟩
                    case measure => simp [intOf]; omega
              · have hsh : ((mant : Int) / 1152921504606846976 == 0) = false := by rw [beq_eq_false_iff_ne]; omega
                have hor := hx_or1 mant hm64
                have hm2 := hx_or1_le mant hm64
                have HR1 := Lib.hid (HR.out _ (hxS_big hsm))
                clear HR hsm
                rcases HFF.out with ⟨e1, e2, e3⟩ | ⟨r, e0, e1, e2, e3, e4⟩
                · subst e1
                  clear hT
                  by_cases hd0 : d = 0
                  · subst hd0
                    have HR2 := Lib.hid (show FGo (hxF (bt t) n) (0, false, false, 0, 0) (i + 1, true, dot, mant, if dot = true then ex else ex + 4) from HR1.out)
                    clear hor hm2
                    cases dot
                    · go_wp2_with fail
                      go_roundw
                      case rel => exact ⟨i + 1, true, false, mant, ex + 4, rfl, rfl, rfl, by go_num, by go_num, by omega, hm64, by omega, HR2, trivial⟩
                      case measure => simp [intOf]; omega
                    · go_wp2_with fail
                      go_roundw
                      case rel => exact ⟨i + 1, true, true, mant, ex, rfl, rfl, rfl, rfl, by go_num, by omega, hm64, by omega, HR2, trivial⟩
                      case measure => simp [intOf]; omega
                  · have HR2 := Lib.hid (show FGo (hxF (bt t) n) (0, false, false, 0, 0) (i + 1, true, dot, mant ||| 1, if dot = true then ex else ex + 4) by have := HR1.out; rwa [if_pos hd0] at this)
                    have q6 : (((d + 48 : Nat) : Int) - 48 != 0) = true := by rw [bne_iff_ne]; omega
                    have q7 : ((d : Int) != 0) = true := by rw [bne_iff_ne]; omega
                    clear hd0
                    generalize mant ||| 1 = m2 at *
                    cases dot
                    · go_wp2_with fail
                      go_roundw
                      case rel => exact ⟨i + 1, true, false, m2, ex + 4, rfl, rfl, rfl, by go_num, by go_num, by omega, hm2, by omega, HR2, trivial⟩
                      case measure => simp [intOf]; omega
                    · go_wp2_with fail
                      go_roundw
                      case rel => exact ⟨i + 1, true, true, m2, ex, rfl, rfl, rfl, rfl, by go_num, by omega, hm2, by omega, HR2, trivial⟩
                      case measure => simp [intOf]; omega
                · have hd0 : d ≠ 0 := by omega
                  have HR2 := Lib.hid (show FGo (hxF (bt t) n) (0, false, false, 0, 0) (i + 1, true, dot, mant ||| 1, if dot = true then ex else ex + 4) by have := HR1.out; rwa [if_pos hd0] at this)
                  have q7 : ((d : Int) != 0) = true := by rw [bne_iff_ne]; omega
                  generalize mant ||| 1 = m2 at *
                  rw [e0] at hT
                  subst e4
                  cases dot
                  · go_wp2_with (go_at_call 65; refine (hT _).mono ?_; rintro e w9 ⟨rfl, rfl⟩)
                    go_roundw
                    case rel => exact ⟨i + 1, true, false, m2, ex + 4, rfl, rfl, rfl, by go_num, by go_num, by omega, hm2, by omega, HR2, trivial⟩
                    case measure => simp [intOf]; omega
                  · go_wp2_with (go_at_call 65; refine (hT _).mono ?_; rintro e w9 ⟨rfl, rfl⟩)
                    go_roundw
                    case rel => exact ⟨i + 1, true, true, m2, ex, rfl, rfl, rfl, rfl, by go_num, by omega, hm2, by omega, HR2, trivial⟩
                    case measure => simp [intOf]; omega
            · have HE := Lib.hid (HF.out.fin (hx_stop hlt h95 hp hd))
              have hp2 : bt t i = 46 ∧ dot = true ∨ bt t i ≠ 46 := by
                by_cases h : bt t i = 46
                · exact .inl ⟨h, by cases dot with | true => rfl | false => exact absurd ⟨h, rfl⟩ hp⟩
                · exact .inr h
              have hd8 : (bt t i < 48 ∨ 57 < bt t i) := by have : ¬ isD (bt t i) := fun h => hd (.inl h); unfold isD at this; omega
              have hr8 : lw (bt t i) < 97 ∨ 102 < lw (bt t i) := by have : ¬ (97 ≤ lw (bt t i) ∧ lw (bt t i) ≤ 102) := fun h => hd (.inr h); omega
              have hT := fun W => lower_lw (bt t i) W
              clear hp hd h95 hb1
              generalize hy : bt t i = y at i1 q1 hp2 hd8 hr8 hT
              generalize hr : lw y = r at hr8 hT
              clear hy hr
              rcases hp2 with ⟨rfl, rfl⟩ | hp2
              · clear hd8 q1
                rcases hr8 with hr8 | hr8
                · go_wp2_with (go_at_call 65; refine (hT _).mono ?_; rintro e w9 ⟨rfl, rfl⟩)
                  go_meet
                  exact ⟨i, sm, true, mant, ex, rfl, rfl, rfl, rfl, hi, hm64, by omega, HE, rfl⟩
                · go_wp2_with (go_at_call 65; refine (hT _).mono ?_; rintro e w9 ⟨rfl, rfl⟩)
                  go_meet
                  exact ⟨i, sm, true, mant, ex, rfl, rfl, rfl, rfl, hi, hm64, by omega, HE, rfl⟩
              · have q2 : ((y : Int) == 46) = false := by rw [beq_eq_false_iff_ne]; omega
                clear hp2
                rcases hd8 with hd8 | hd8
                · rcases hr8 with hr8 | hr8
                  · go_wp2_with (go_at_call 65; refine (hT _).mono ?_; rintro e w9 ⟨rfl, rfl⟩)
                    go_meet
                    exact ⟨i, sm, dot, mant, ex, rfl, rfl, rfl, rfl, hi, hm64, by omega, HE, rfl⟩
                  · go_wp2_with (go_at_call 65; refine (hT _).mono ?_; rintro e w9 ⟨rfl, rfl⟩)
                    go_meet
                    exact ⟨i, sm, dot, mant, ex, rfl, rfl, rfl, rfl, hi, hm64, by omega, HE, rfl⟩
                · rcases hr8 with hr8 | hr8
                  · go_wp2_with (go_at_call 65; refine (hT _).mono ?_; rintro e w9 ⟨rfl, rfl⟩)
                    go_meet
                    exact ⟨i, sm, dot, mant, ex, rfl, rfl, rfl, rfl, hi, hm64, by omega, HE, rfl⟩
                  · go_wp2_with (go_at_call 65; refine (hT _).mono ?_; rintro e w9 ⟨rfl, rfl⟩)
                    go_meet
                    exact ⟨i, sm, dot, mant, ex, rfl, rfl, rfl, rfl, hi, hm64, by omega, HE, rfl⟩
      · have HE := Lib.hid (HF.out.fin (show hxF (bt t) n (i, sm, dot, mant, ex) = none by unfold hxF; rw [if_neg hlt]))
        go_wp2_with fail
        go_meet
        exact ⟨i, sm, dot, mant, ex, rfl, rfl, rfl, rfl, hi, hm64, by omega, HE, rfl⟩
  case rest =>
  as_aux_lemma =>
  obtain ⟨i, sm, dot, mant, ex, rfl, rfl, rfl, rfl, hi, hm64, hex, HE, rfl⟩ := hcut
  obtain ⟨hex1, hex2⟩ := hex
  obtain ⟨wr, rfl⟩ : ∃ z : World, z = wc := ⟨_, rfl⟩
  have HRes := Lib.hid (hexRes_eq HE.out)
  clear HE
  cases sm
  · go_wp2
    go_ret2
    exact ⟨none, .inl ⟨by rw [HRes.out]; rfl, rfl⟩, .inl ⟨rfl, rfl, HS.out⟩⟩
  obtain ⟨bm, hbm⟩ : ∃ b : Bool, b = decide (i < n ∧ lw (bt t i) = 112) := ⟨_, rfl⟩
  have HM := Lib.hid hbm
  clear hbm
  go_upto_region 37 with fail
  go_cut [143] (fun c wx => c = .bool bm ∧ wx = wr)
  case first =>
    as_aux_lemma =>
    by_cases hlt : i < n
    · have i1 := ixB t i (by rw [HN.out]; exact hlt)
      have hT := fun W => lower_lw (bt t i) W
      obtain ⟨r, hr⟩ : ∃ r, lw (bt t i) = r := ⟨_, rfl⟩
      have HC := Lib.hid (show (r == 112) = bm by rw [HM.out, ← hr]; by_cases h : lw (bt t i) = 112 <;> simp [h, hlt])
      simp only [hr] at hT
      clear hr
      generalize bt t i = y at i1 hT
      go_wp2_with (go_at_call 65; refine halt_H ?_)
      refine resume_H ?_
      refine (hT _).mono ?_
      rintro e w9 ⟨rfl, rfl⟩
      clear hT
      go_wp2_with fail
      go_meet
      exact ⟨by rw [← HC.out], rfl⟩
    · have HC := Lib.hid (show bm = false by rw [HM.out]; exact decide_eq_false (fun h => hlt h.1))
      go_wp2_with fail
      go_meet
      exact ⟨by rw [HC.out], rfl⟩
  case rest =>
  as_aux_lemma =>
  obtain ⟨rfl, rfl⟩ := hcut
  obtain ⟨wr, rfl⟩ : ∃ z : World, z = wc := ⟨_, rfl⟩
  go_upto_if 143 with fail
  go_cut [10, 11] (fun x10 x11 wx => ∃ (z : Int) (k : Nat), x10 = .int .i64 (ex + z) ∧ x11 = .int .i64 (k : Int) ∧ (-100009 ≤ z ∧ z ≤ 100009) ∧ Hid (hexRes (bt t) n = if k < n then none else some (mant, ex + z)) ∧ wx = wr)
  case first =>
    as_aux_lemma =>
    by_cases hm : i < n ∧ lw (bt t i) = 112
    · have HRs := Lib.hid (show hexRes (bt t) n = (expRes (bt t) n i).map fun e => (mant, ex + e) by rw [HRes.out, if_pos rfl]; unfold tailRes; rw [if_pos hm])
      obtain rfl : bm = true := by rw [HM.out]; exact decide_eq_true hm
      obtain ⟨hlt, hm2⟩ := hm
      clear HRes hm2 HM
      have hi1 : i + 1 ≤ n := by omega
      obtain ⟨bd, hbd⟩ : ∃ b : Bool, b = decide (i + 1 < n ∧ bt t (i + 1) = 45) := ⟨_, rfl⟩
      have HBd := Lib.hid hbd
      obtain ⟨bs, hbs⟩ : ∃ b : Bool, b = decide (i + 1 < n ∧ (bt t (i + 1) = 43 ∨ bt t (i + 1) = 45)) := ⟨_, rfl⟩
      have HBs := Lib.hid hbs
      clear hbd hbs
      go_upto_region 39 with fail
      go_cut [14] (fun c wx => c = .bool bd ∧ wx = wr)
      case first =>
        as_aux_lemma =>
        by_cases hp1 : i + 1 < n
        · have i5 : ∀ W, (Instr.index 9 (.string t) (.int .i64 ((i : Int) + 1))).run Tryz.prog W = .ok (.int .u8 (bt t (i + 1) : Nat)) W := ixB t (i + 1) (by rw [HN.out]; exact hp1)
          have HC := Lib.hid (show (((bt t (i + 1) : Nat) : Int) == 45) = bd by rw [HBd.out]; by_cases h : bt t (i + 1) = 45 <;> simp [h, hp1] <;> omega)
          generalize bt t (i + 1) = y at i5 HC
          go_wp2_with fail
          go_meet
          exact ⟨by rw [← HC.out], rfl⟩
        · have HC := Lib.hid (show bd = false by rw [HBd.out]; exact decide_eq_false (fun h => hp1 h.1))
          go_wp2_with fail
          go_meet
          exact ⟨by rw [HC.out], rfl⟩
      case rest =>
      as_aux_lemma =>
      obtain ⟨rfl, rfl⟩ := hcut
      obtain ⟨wr, rfl⟩ : ∃ z : World, z = wc := ⟨_, rfl⟩
      go_upto_region 40 with fail
      go_cut [171] (fun c wx => c = .bool bs ∧ wx = wr)
      case first =>
        as_aux_lemma =>
        by_cases hp1 : i + 1 < n
        · have i5 : ∀ W, (Instr.index 9 (.string t) (.int .i64 ((i : Int) + 1))).run Tryz.prog W = .ok (.int .u8 (bt t (i + 1) : Nat)) W := ixB t (i + 1) (by rw [HN.out]; exact hp1)
          by_cases h43 : bt t (i + 1) = 43
          · have HC := Lib.hid (show bs = true by rw [HBs.out]; exact decide_eq_true ⟨hp1, .inl h43⟩)
            rw [h43] at i5
            clear h43
            go_wp2_with fail
            go_meet
            exact ⟨by rw [HC.out], rfl⟩
          · have q1 : (((bt t (i + 1) : Nat) : Int) == 43) = false := by rw [beq_eq_false_iff_ne]; omega
            have HC := Lib.hid (show (((bt t (i + 1) : Nat) : Int) == 45) = bs by rw [HBs.out]; by_cases h : bt t (i + 1) = 45 <;> simp [h, hp1, h43] <;> omega)
            clear h43
            generalize bt t (i + 1) = y at i5 HC q1
            go_wp2_with fail
            go_meet
            exact ⟨by rw [← HC.out], rfl⟩
        · have HC := Lib.hid (show bs = false by rw [HBs.out]; exact decide_eq_false (fun h => hp1 h.1))
          go_wp2_with fail
          go_meet
          exact ⟨by rw [HC.out], rfl⟩
      case rest =>
      as_aux_lemma =>
      obtain ⟨rfl, rfl⟩ := hcut
      obtain ⟨wr, rfl⟩ : ∃ z : World, z = wc := ⟨_, rfl⟩
      obtain ⟨j, hj⟩ : ∃ j, sg (bt t) n (i + 1) = j := ⟨_, rfl⟩
      have HJ := Lib.hid hj
      have hj1 : i + 1 ≤ j ∧ j ≤ i + 2 ∧ j ≤ n := by
        unfold sg at hj
        split at hj <;> omega
      clear hj
      go_upto_if 171 with fail
      go_cut [11] (fun c wx => c = .int .i64 (j : Int) ∧ wx = wr)
      case first =>
        as_aux_lemma =>
        cases bs
        · have HE := Lib.hid (show j = i + 1 by rw [← HJ.out]; unfold sg; rw [if_neg]; exact of_decide_eq_false HBs.out.symm)
          go_wp2_with fail
          go_meet
          exact ⟨by rw [HE.out]; go_num, rfl⟩
        · have HE := Lib.hid (show j = i + 2 by rw [← HJ.out]; unfold sg; rw [if_pos (of_decide_eq_true HBs.out.symm)])
          go_wp2_with fail
          go_meet
          exact ⟨by rw [HE.out]; go_num, rfl⟩
      case rest =>
      as_aux_lemma =>
      obtain ⟨rfl, rfl⟩ := hcut
      obtain ⟨wr, rfl⟩ : ∃ z : World, z = wc := ⟨_, rfl⟩
      obtain ⟨hj1, hj2, hj3⟩ := hj1
      obtain ⟨bn, hbn⟩ : ∃ b : Bool, b = decide (¬ (j < n ∧ isD (bt t j))) := ⟨_, rfl⟩
      have HBn := Lib.hid hbn
      clear hbn
      go_upto_region 42 with fail
      go_cut [189] (fun c wx => c = .bool bn ∧ wx = wr)
      case first =>
        as_aux_lemma =>
        by_cases hp1 : j < n
        · have i5 := ixB t j (by rw [HN.out]; exact hp1)
          have HC := Lib.hid (show bn = decide (¬ (48 ≤ bt t j ∧ bt t j ≤ 57)) by rw [HBn.out]; unfold isD; simp [hp1])
          generalize bt t j = y at i5 HC
          by_cases h48 : y < 48
          · have HE := Lib.hid (show bn = true by rw [HC.out]; exact decide_eq_true (by omega))
            go_wp2_with fail
            go_meet
            exact ⟨by rw [HE.out], rfl⟩
          · by_cases h57 : 57 < y
            · have HE := Lib.hid (show bn = true by rw [HC.out]; exact decide_eq_true (by omega))
              go_wp2_with fail
              go_meet
              exact ⟨by rw [HE.out]; congr 1; simp; omega, rfl⟩
            · have HE := Lib.hid (show bn = false by rw [HC.out]; exact decide_eq_false (by omega))
              go_wp2_with fail
              go_meet
              exact ⟨by rw [HE.out]; congr 1; simp; omega, rfl⟩
        · have HE := Lib.hid (show bn = true by rw [HBn.out]; exact decide_eq_true (fun h => hp1 h.1))
          go_wp2_with fail
          go_meet
          exact ⟨by rw [HE.out], rfl⟩
      case rest =>
      as_aux_lemma =>
      obtain ⟨rfl, rfl⟩ := hcut
      obtain ⟨wr, rfl⟩ : ∃ z : World, z = wc := ⟨_, rfl⟩
      cases bn
      rotate_left
      · have HX2 := Lib.hid (exp_none (f := bt t) (n := n) (i := i) HJ.out (of_decide_eq_true HBn.out.symm))
        go_wp2
        go_ret2
        exact ⟨none, .inl ⟨by rw [HRs.out, HX2.out]; rfl, rfl⟩, .inl ⟨rfl, rfl, HS.out⟩⟩
      have HJd := Lib.hid (Decidable.not_not.1 (of_decide_eq_false HBn.out.symm))
      go_upto_block 4 with fail
      go_cut [11, 15] (fun x11 x15 wx => ∃ (k x : Nat), x11 = .int .i64 (k : Int) ∧ x15 = .int .i64 (x : Int) ∧ k ≤ n ∧ x ≤ 100009 ∧ Hid (FDone (exF (bt t) n) (j, 0) (k, x)) ∧ wx = wr)
      case first =>
        as_aux_lemma =>
        go_wp2_with fail
        go_loopw [11, 15] (fun iv ev wx => ∃ (k x : Nat), iv = .int .i64 (k : Int) ∧ ev = .int .i64 (x : Int) ∧ k ≤ n ∧ x ≤ 100009 ∧ Hid (FGo (exF (bt t) n) (j, 0) (k, x)) ∧ wx = wr) (fun iv _ _ => n - (intOf iv).toNat)
        case atStart => exact ⟨j, 0, rfl, rfl, hj3, by omega, Lib.hid .refl, rfl⟩
        case round =>
          obtain ⟨k, x, rfl, rfl, hk, hx1, HF, rfl⟩ := hrel
          by_cases hlt : k < n
          · have i7 := ixB t k (by rw [HN.out]; exact hlt)
            by_cases hd : isD (bt t k)
            · obtain ⟨y, hy⟩ : ∃ y, bt t k = y + 48 := ⟨bt t k - 48, by unfold isD at hd; omega⟩
              have hy9 : y < 10 := by unfold isD at hd; omega
              have hR : exF (bt t) n (k, x) = some (k + 1, if x < 10000 then x * 10 + y else x) := by
                unfold exF
                rw [if_pos ⟨hlt, .inl hd⟩, hy]
                simp
                by_cases h : x < 10000 <;> simp [h] <;> omega
              have HR := Lib.hid (HF.out.step hR)
              rw [hy] at i7
              have q1 : ((y : Int) + 48 != 95) = true := by rw [bne_iff_ne]; omega
              clear hd hy hR
              by_cases hxx : x < 10000
              · have HR2 := Lib.hid (show FGo (exF (bt t) n) (j, 0) (k + 1, x * 10 + y) by have := HR.out; rwa [if_pos hxx] at this)
                clear HR
                go_wp2_with fail
                go_roundw
                case rel => exact ⟨k + 1, x * 10 + y, by go_num, by go_num, by omega, by omega, HR2, trivial⟩
                case measure => simp [intOf]; omega
              · have HR2 := Lib.hid (show FGo (exF (bt t) n) (j, 0) (k + 1, x) by have := HR.out; rwa [if_neg hxx] at this)
                clear HR
                go_wp2_with fail
                go_roundw
                case rel => exact ⟨k + 1, x, by go_num, by go_num, by omega, by omega, HR2, trivial⟩
                case measure => simp [intOf]; omega
            · by_cases h95 : bt t k = 95
              · have HR := Lib.hid (HF.out.step (show exF (bt t) n (k, x) = some (k + 1, x) by unfold exF; rw [if_pos ⟨hlt, .inr h95⟩, if_neg (fun h => h.1 h95)]))
                rw [h95] at i7
                clear hd h95
                go_wp2_with fail
                go_roundw
                case rel => exact ⟨k + 1, x, by go_num, by go_num, by omega, by omega, HR, trivial⟩
                case measure => simp [intOf]; omega
              · have HR := Lib.hid (HF.out.fin (show exF (bt t) n (k, x) = none by unfold exF; rw [if_neg (fun h => h.2.elim hd h95)]))
                have q1 : (((bt t k : Nat) : Int) == 95) = false := by rw [beq_eq_false_iff_ne]; omega
                have hd8 : bt t k < 48 ∨ 57 < bt t k := by unfold isD at hd; omega
                clear hd h95
                generalize bt t k = y at i7 q1 hd8
                rcases hd8 with hd8 | hd8
                · go_wp2_with fail
                  go_meet
                  exact ⟨k, x, rfl, rfl, hk, hx1, HR, rfl⟩
                · go_wp2_with fail
                  go_meet
                  exact ⟨k, x, rfl, rfl, hk, hx1, HR, rfl⟩
          · have HR := Lib.hid (HF.out.fin (show exF (bt t) n (k, x) = none by unfold exF; rw [if_neg (fun h => hlt h.1)]))
            go_wp2_with fail
            go_meet
            exact ⟨k, x, rfl, rfl, hk, hx1, HR, rfl⟩
      case rest =>
      as_aux_lemma =>
      obtain ⟨k, x, rfl, rfl, hk, hx1, HE, rfl⟩ := hcut
      obtain ⟨wr, rfl⟩ : ∃ z : World, z = wc := ⟨_, rfl⟩
      have HX3 := Lib.hid (exp_some (i := i) HJ.out HJd.out HE.out)
      obtain ⟨z, hz⟩ : ∃ z : Int, z = if bd = true then -(x : Int) else (x : Int) := ⟨_, rfl⟩
      have hz1 : -100009 ≤ z ∧ z ≤ 100009 := by rw [hz]; split <;> omega
      have HZ0 := Lib.hid hz
      go_upto_if 230 with fail
      go_cut [15] (fun c wx => c = .int .i64 z ∧ wx = wr)
      case first =>
        as_aux_lemma =>
        cases bd
        · have HZ1 := Lib.hid (show z = (x : Int) by rw [HZ0.out]; simp)
          go_wp2_with fail
          go_meet
          exact ⟨by rw [HZ1.out], rfl⟩
        · have HZ1 := Lib.hid (show z = -(x : Int) by rw [HZ0.out]; simp)
          go_wp2_with fail
          go_meet
          exact ⟨by rw [HZ1.out], rfl⟩
      case rest =>
      as_aux_lemma =>
      obtain ⟨rfl, rfl⟩ := hcut
      obtain ⟨wr, rfl⟩ : ∃ z : World, z = wc := ⟨_, rfl⟩
      have HZ2 := Lib.hid (show expRes (bt t) n i = if k < n then none else some z by
        rw [HX3.out, HZ0.out, HBd.out]
        by_cases h : i + 1 < n ∧ bt t (i + 1) = 45 <;> simp [h])
      obtain ⟨hz1, hz2⟩ := hz1
      clear hz HZ0
      go_wp2_with fail
      go_meet
      exact ⟨z, k, rfl, rfl, ⟨hz1, hz2⟩, Lib.hid (by rw [HRs.out, HZ2.out]; by_cases h : k < n <;> simp [h]), rfl⟩
    · have HRs := Lib.hid (show hexRes (bt t) n = none by rw [HRes.out, if_pos rfl]; unfold tailRes; rw [if_neg hm]; simp)
      obtain rfl : bm = false := by rw [HM.out]; exact decide_eq_false hm
      clear HRes hm HM
      go_wp2
      go_ret2
      exact ⟨none, .inl ⟨by rw [HRs.out], rfl⟩, .inl ⟨rfl, rfl, HS.out⟩⟩
  case rest =>
  as_aux_lemma =>
  obtain ⟨z, k, rfl, rfl, hz1, HX, rfl⟩ := hcut
  obtain ⟨wr, rfl⟩ : ∃ z : World, z = wc := ⟨_, rfl⟩
  obtain ⟨hz1, hz2⟩ := hz1
  clear HRes HM
  by_cases hlt2 : k < n
  · go_wp2
    go_ret2
    exact ⟨none, .inl ⟨by rw [HX.out, if_pos hlt2], rfl⟩, .inl ⟨rfl, rfl, HS.out⟩⟩
  · have HZ := Lib.hid (show hexRes (bt t) n = some (mant, ex + z) by rw [HX.out, if_neg hlt2])
    obtain ⟨y, hy⟩ : ∃ y, ex + z = y := ⟨_, rfl⟩
    rw [hy] at HZ
    have hy1 : -200000 ≤ y ∧ y ≤ 200000 := by omega
    have HY := Lib.hid hy
    have HM64 := Lib.hid hm64
    have hT := newD_any mant wr (by omega)
    go_wp2_with (go_at_call 67; refine halt_H ?_)
    refine resume_H ?_
    refine hT.mono ?_
    rintro e w3 ⟨b, v, rfl, hD, hB⟩
    try rw [hy]
    clear hT hy HY
    obtain ⟨hy1, hy2⟩ := hy1
    clear hz1 hz2 hex1 hex2 hm64 hlt2
    have HB3 := Lib.hid (HS.out.trans (hB.mono HS.out.size))
    have HD3 := Lib.hid (hD.mono HS.out.size)
    clear hD hB
    by_cases h0 : mant = 0
    · have HR := Lib.hid (show HexR mant y ([], 0) from .inl ⟨.inl h0, rfl⟩)
      subst h0
      go_wp2
      go_ret2
      exact ⟨some ([], 0), .inr ⟨_, _, _, HZ.out, HR.out, rfl⟩, .inr ⟨_, .slice none 0 0, [], 0, rfl, rfl, dec_nil HB3.out, .inl rfl, by simp, by omega, HB3.out.alloc HB3.out.size _⟩⟩
    · have q0 : ((mant : Int) == 0) = false := by rw [beq_eq_false_iff_ne]; omega
      by_cases h1 : y < -1300
      · have HR := Lib.hid (show HexR mant y ([], 0) from .inl ⟨.inr h1, rfl⟩)
        clear h0
        go_wp2
        go_ret2
        exact ⟨some ([], 0), .inr ⟨_, _, _, HZ.out, HR.out, rfl⟩, .inr ⟨_, .slice none 0 0, [], 0, rfl, rfl, dec_nil HB3.out, .inl rfl, by simp, by omega, HB3.out.alloc HB3.out.size _⟩⟩
      · have hg := (trimD_good (decD_good (show 0 < mant by omega))).1
        have hne : trimD (decD mant) ≠ [] := by
          obtain ⟨_, d, t, e, _⟩ := hg
          rw [e]; simp
        have hl20 : (trimD (decD mant)).length ≤ 20 ∧ (decD mant).length ≤ 20 := ⟨Nat.le_trans (trimD_len _) (decD_len 19 mant (by have := HM64.out; omega)), decD_len 19 mant (by have := HM64.out; omega)⟩
        obtain ⟨h20, h21⟩ := hl20
        have hD4 := HD3.out
        rw [if_neg hne] at hD4
        obtain ⟨K, hK⟩ : ∃ K, min y 1100 = K := ⟨_, rfl⟩
        have hK1 : -1300 ≤ K ∧ K ≤ 1100 := by omega
        have HK := Lib.hid hK
        have hS := shift_any w.heap.size b K v _ _ w3 hD4 hg (by omega) (by omega) (by omega)
        have HRm := Lib.hid (show ∀ c, ShiftR K (trimD (decD mant), ((decD mant).length : Int)) c → HexR mant y c from fun c hc => .inr ⟨fun h => h.elim h0 h1, by rw [HK.out]; exact hc⟩)
        clear hD4 hg hne h0
        by_cases h2 : y > 1100
        · have HK2 := Lib.hid (show K = 1100 by have := HK.out; omega)
          rw [HK2.out] at hS
          go_wp2_with (go_at_call 68; refine halt_H ?_)
          refine resume_H ?_
          refine hS.mono ?_
          rintro e w5 ⟨rfl, ⟨v5, r, dp', hg5, hl5, hp5, hD5, hR5⟩, k5⟩
          clear hS
          have HR := Lib.hid (HRm.out _ (by rw [HK2.out]; exact hR5))
          have HB5 := Lib.hid (HB3.out.trans k5.below)
          have HD5 := Lib.hid hD5
          have HG5 := Lib.hid (show Good r ∧ r.length ≤ 5000 ∧ (-900000 ≤ dp' ∧ dp' ≤ 900000) from ⟨hg5, by omega, by omega⟩)
          clear hg5 hl5 hp5 hD5 hR5 k5
          go_wp2
          go_ret2
          have A : HRes (bt t) n (some (r, dp')) := .inr ⟨mant, y, (r, dp'), HZ.out, HR.out, rfl⟩
          refine ⟨some (r, dp'), A, .inr ⟨b, v5, r, dp', rfl, ?_, HD5.out, .inr HG5.out.1, HG5.out.2.1, HG5.out.2.2, HB5.out⟩⟩
          rfl
        · have HK2 := Lib.hid (show K = y by have := HK.out; omega)
          rw [HK2.out] at hS
          go_wp2_with (go_at_call 68; refine halt_H ?_)
          refine resume_H ?_
          refine hS.mono ?_
          rintro e w5 ⟨rfl, ⟨v5, r, dp', hg5, hl5, hp5, hD5, hR5⟩, k5⟩
          clear hS
          have HR := Lib.hid (HRm.out _ (by rw [HK2.out]; exact hR5))
          have HB5 := Lib.hid (HB3.out.trans k5.below)
          have HD5 := Lib.hid hD5
          have HG5 := Lib.hid (show Good r ∧ r.length ≤ 5000 ∧ (-900000 ≤ dp' ∧ dp' ≤ 900000) from ⟨hg5, by omega, by omega⟩)
          clear hg5 hl5 hp5 hD5 hR5 k5
          go_wp2
          go_ret2
          have A : HRes (bt t) n (some (r, dp')) := .inr ⟨mant, y, (r, dp'), HZ.out, HR.out, rfl⟩
          refine ⟨some (r, dp'), A, .inr ⟨b, v5, r, dp', rfl, ?_, HD5.out, .inr HG5.out.1, HG5.out.2.1, HG5.out.2.2, HB5.out⟩⟩
          rfl
end Go.Proofs.YtilkcnoooecngaaGreatDoor
