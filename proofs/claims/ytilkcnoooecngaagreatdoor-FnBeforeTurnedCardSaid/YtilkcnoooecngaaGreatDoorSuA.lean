/- Go's own underscoreOK, told. Texts of at most 1000 bytes. -/
import Derived.Test.YtilkcnoooecngaaGreatDoorBtUp
import Derived.Test.YtilkcnoooecngaaGreatDoorSdR
import Derived.Deep.CutBlock
namespace Go.Proofs.YtilkcnoooecngaaGreatDoor
open Go.RowKit
set_option linter.unusedVariables false
theorem slower_lw (c : Nat) (w : World) : Calls Tryz.prog 76 #[.int .u8 (c : Int)] w fun e w' => e = .returned (.int .u8 (lw c)) ∧ w' = w := slower_any c w
set_option maxHeartbeats 8000000 in
set_option maxRecDepth 100000 in
theorem suok_any (s : ByteArray) (w : World) (hs : s.size ≤ 1000) :
    Calls Tryz.prog 77 #[.string s] w fun e w' => e = .returned (.bool (uOk (stripB s))) ∧ w' = w := by
  obtain ⟨t, ht⟩ : ∃ t, stripB s = t := ⟨_, rfl⟩
  have hts : t.size ≤ 1000 := by rw [← ht]; exact Nat.le_trans (stripB_size s) hs
  rw [ht]
  obtain ⟨bs, hB⟩ : ∃ bs : Bool, (s.size = 0 ∧ t = s ∧ bs = false) ∨ (0 < s.size ∧ bt s 0 = 43 ∧ t = s.extract 1 s.size ∧ bs = true) ∨ (0 < s.size ∧ bt s 0 = 45 ∧ t = s.extract 1 s.size ∧ bs = true) ∨ (0 < s.size ∧ bt s 0 ≠ 43 ∧ bt s 0 ≠ 45 ∧ t = s ∧ bs = false) := by
    rw [← ht]
    rcases stripB_cases s with ⟨h0, h1⟩ | ⟨h0, h1, h2⟩ | ⟨h0, h1, h2⟩ | ⟨h0, h1, h2, h3⟩
    · exact ⟨false, .inl ⟨h0, h1, rfl⟩⟩
    · exact ⟨true, .inr (.inl ⟨h0, h1, h2, rfl⟩)⟩
    · exact ⟨true, .inr (.inr (.inl ⟨h0, h1, h2, rfl⟩))⟩
    · exact ⟨false, .inr (.inr (.inr ⟨h0, h1, h2, h3, rfl⟩))⟩
  have HC := Lib.hid hB
  clear ht hB
  go_enter Tryz.func77, Tryz.ntmps77
  go_upto_region 3 with fail
  go_cut [18] (fun x0 wx => x0 = .bool bs ∧ wx = w)
  case first =>
    as_aux_lemma =>
    rcases HC.out with ⟨h0, _, rfl⟩ | ⟨h0, h1, _, rfl⟩ | ⟨h0, h1, _, rfl⟩ | ⟨h0, h1, h2, _, rfl⟩
    · go_wp2_with fail
      go_meet
      exact ⟨rfl, rfl⟩
    · have j0 := ixB0 s h0
      rw [h1] at j0
      clear h1
      go_wp2_with fail
      go_meet
      exact ⟨rfl, rfl⟩
    · have j0 := ixB0 s h0
      rw [h1] at j0
      clear h1
      go_wp2_with fail
      go_meet
      exact ⟨rfl, rfl⟩
    · have j0 := ixB0 s h0
      have q1 : (((bt s 0 : Nat) : Int) == 43) = false := by rw [beq_eq_false_iff_ne]; omega
      have q2 : (((bt s 0 : Nat) : Int) == 45) = false := by rw [beq_eq_false_iff_ne]; omega
      clear h1 h2 HC
      generalize bt s 0 = c at *
      go_wp2_with fail
      go_meet
      exact ⟨rfl, rfl⟩
  case rest =>
  as_aux_lemma =>
  obtain ⟨rfl, rfl⟩ := hcut
  obtain ⟨w, rfl⟩ : ∃ z : World, z = wc := ⟨_, rfl⟩
  go_upto_if 18 with fail
  go_cut [0] (fun x0 wx => x0 = .string t ∧ wx = w)
  case first =>
    as_aux_lemma =>
    cases bs
    · have HE := Lib.hid (show t = s by rcases HC.out with ⟨_, h, _⟩ | ⟨_, _, _, h⟩ | ⟨_, _, _, h⟩ | ⟨_, _, _, h, _⟩ <;> first | exact h | cases h)
      go_wp2_with fail
      go_meet
      exact ⟨by rw [HE.out], rfl⟩
    · have HE := Lib.hid (show t = s.extract 1 s.size ∧ 0 < s.size by rcases HC.out with ⟨_, _, h⟩ | ⟨h0, _, h, _⟩ | ⟨h0, _, h, _⟩ | ⟨_, _, _, _, h⟩ <;> first | exact ⟨h, h0⟩ | cases h)
      have hsl := fun W => slice_str_lo Tryz.underlying9 s 1 1 rfl (by have := HE.out.2; omega) W
      go_wp2_with fail
      go_meet
      exact ⟨by rw [HE.out.1], rfl⟩
  case rest =>
  as_aux_lemma =>
  obtain ⟨rfl, rfl⟩ := hcut
  obtain ⟨w, rfl⟩ : ∃ z : World, z = wc := ⟨_, rfl⟩
  clear HC hs
  obtain ⟨n, hn⟩ : ∃ n, t.size = n := ⟨_, rfl⟩
  have HN := Lib.hid hn
  rw [hn] at hts
  obtain ⟨bp, hbp⟩ : ∃ bp : Bool, (bp = true ∧ preU (bt t) n) ∨ (bp = false ∧ ¬ preU (bt t) n) := by
    by_cases h : preU (bt t) n
    · exact ⟨true, .inl ⟨rfl, h⟩⟩
    · exact ⟨false, .inr ⟨rfl, h⟩⟩
  have HP := Lib.hid hbp
  clear hbp
  go_upto_region 6 with fail
  go_cut [46] (fun x wx => x = .bool bp ∧ wx = w)
  case first =>
    as_aux_lemma =>
    have HB1 := Lib.hid (show preU (bt t) n → bp = true from fun h => by rcases HP.out with ⟨h1, _⟩ | ⟨_, h1⟩; exact h1; exact absurd h h1)
    have HB0 := Lib.hid (show ¬ preU (bt t) n → bp = false from fun h => by rcases HP.out with ⟨_, h1⟩ | ⟨h1, _⟩; exact absurd h1 h; exact h1)
    clear HP
    by_cases h2 : 2 ≤ n
    · have j0 := ixB0 t (by omega)
      by_cases h48 : bt t 0 = 48
      · have j1 : ∀ W, (Instr.index 9 (.string t) (.int .i64 1)).run Tryz.prog W = .ok (.int .u8 (bt t 1 : Nat)) W := fun W => ixB t 1 (by omega) W
        have hT := fun W => slower_lw (bt t 1) W
        have HQ := Lib.hid (show (lw (bt t 1) = 98 ∨ lw (bt t 1) = 111 ∨ lw (bt t 1) = 120) → bp = true from fun h => HB1.out ⟨h2, h48, h⟩)
        have HQ0 := Lib.hid (show ¬ (lw (bt t 1) = 98 ∨ lw (bt t 1) = 111 ∨ lw (bt t 1) = 120) → bp = false from fun h => HB0.out (fun k => h k.2.2))
        rw [h48] at j0
        generalize lw (bt t 1) = r at *
        clear h48
        by_cases r98 : r = 98
        · subst r98
          have HR := Lib.hid (HQ.out (.inl rfl))
          go_wp2_with (go_at_call 76; refine (hT _).mono ?_; rintro e w9 ⟨rfl, rfl⟩)
          go_meet
          exact ⟨by rw [HR.out], rfl⟩
        · have q98 : (r == 98) = false := by rw [beq_eq_false_iff_ne]; exact r98
          by_cases r111 : r = 111
          · subst r111
            have HR := Lib.hid (HQ.out (.inr (.inl rfl)))
            go_wp2_with (go_at_call 76; refine (hT _).mono ?_; rintro e w9 ⟨rfl, rfl⟩)
            go_meet
            exact ⟨by rw [HR.out], rfl⟩
          · have q111 : (r == 111) = false := by rw [beq_eq_false_iff_ne]; exact r111
            by_cases r120 : r = 120
            · subst r120
              have HR := Lib.hid (HQ.out (.inr (.inr rfl)))
              go_wp2_with (go_at_call 76; refine (hT _).mono ?_; rintro e w9 ⟨rfl, rfl⟩)
              go_meet
              exact ⟨by rw [HR.out], rfl⟩
            · have q120 : (r == 120) = false := by rw [beq_eq_false_iff_ne]; exact r120
              have HR := Lib.hid (HQ0.out (by rintro (h | h | h) <;> contradiction))
              clear r98 r111 r120
              go_wp2_with (go_at_call 76; refine (hT _).mono ?_; rintro e w9 ⟨rfl, rfl⟩)
              go_meet
              exact ⟨by rw [HR.out], rfl⟩
      · have q0 : (((bt t 0 : Nat) : Int) == 48) = false := by rw [beq_eq_false_iff_ne]; omega
        have HR := Lib.hid (HB0.out (fun k => h48 k.2.1))
        clear h48
        go_wp2_with fail
        go_meet
        exact ⟨by rw [HR.out], rfl⟩
    · have HR := Lib.hid (HB0.out (fun k => h2 k.1))
      go_wp2_with fail
      go_meet
      exact ⟨by rw [HR.out], rfl⟩
  case rest =>
  as_aux_lemma =>
  obtain ⟨rfl, rfl⟩ := hcut
  obtain ⟨w, rfl⟩ : ∃ z : World, z = wc := ⟨_, rfl⟩
  go_upto_if 46 with fail
  go_cut [3, 4, 5] (fun x3 x4 x5 wx => ∃ (i0 last : Nat) (hx : Bool), x3 = .int .i32 (last : Int) ∧ x4 = .int .i64 (i0 : Int) ∧ x5 = .bool hx ∧ i0 ≤ n ∧ (last = 94 ∨ last = 48) ∧ Hid (uoN hx (bt t) n (n - i0) last = uOk t) ∧ wx = w)
  case first =>
    as_aux_lemma =>
    cases bp
    · have HR := Lib.hid (show uoN false (bt t) n (n - 0) 94 = uOk t by
        have h : ¬ preU (bt t) n := by rcases HP.out with ⟨h, _⟩ | ⟨_, h⟩; cases h; exact h
        unfold uOk; rw [HN.out, if_neg h])
      go_wp2_with fail
      go_meet
      exact ⟨0, 94, false, rfl, rfl, rfl, Nat.zero_le _, .inl rfl, HR, rfl⟩
    · have hpre : preU (bt t) n := by rcases HP.out with ⟨_, h⟩ | ⟨h, _⟩; exact h; cases h
      obtain ⟨h2, h48, hr3⟩ := hpre
      have hT := fun W => slower_lw (bt t 1) W
      have j1 : ∀ W, (Instr.index 9 (.string t) (.int .i64 1)).run Tryz.prog W = .ok (.int .u8 (bt t 1 : Nat)) W := fun W => ixB t 1 (by omega) W
      have HR := Lib.hid (show uoN (lw (bt t 1) == 120) (bt t) n (n - 2) 48 = uOk t by
        have h3 : preU (bt t) n := ⟨h2, h48, hr3⟩
        unfold uOk
        rw [HN.out, if_pos h3]
        congr 1)
      clear hr3 h48
      generalize lw (bt t 1) = r at *
      go_wp2_with (go_at_call 76; refine (hT _).mono ?_; rintro e w9 ⟨rfl, rfl⟩)
      go_meet
      exact ⟨2, 48, (r == 120), rfl, rfl, rfl, h2, .inr rfl, HR, rfl⟩
  case rest =>
  as_aux_lemma =>
  obtain ⟨i0, last, hx, rfl, rfl, rfl, hi0, hlast, HR, rfl⟩ := hcut
  obtain ⟨w, rfl⟩ : ∃ z : World, z = wc := ⟨_, rfl⟩
  obtain ⟨R, hR⟩ : ∃ R, uOk t = R := ⟨_, rfl⟩
  rw [hR] at HR
  have HRR := Lib.hid hR
  clear hR
  go_wp2_with fail
  go_loopw [3, 4] (fun lv iv wr => ∃ (i last : Nat), lv = .int .i32 (last : Int) ∧ iv = .int .i64 (i : Int) ∧ i ≤ n ∧ last < 256 ∧ Hid (uoN hx (bt t) n (n - i) last = R) ∧ wr = w) (fun _ iv _ => n - (intOf iv).toNat)
  case atStart => exact ⟨i0, last, rfl, rfl, by omega, by omega, HR, rfl⟩
  case round =>
    clear HR hlast
    obtain ⟨i, last, rfl, rfl, hi, hl, HR, rfl⟩ := hrel
    by_cases hlt : i < n
    · have i1 := ixB t i (by rw [HN.out]; exact hlt)
      have hT := fun W => slower_lw (bt t i) W
      by_cases hd : isD (bt t i)
      · have HR2 := Lib.hid (show uoN hx (bt t) n (n - (i + 1)) 48 = R by rw [← HR.out]; exact (uoN_dig hlt (.inl hd)).symm)
        obtain ⟨d1, d2⟩ := hd
        generalize bt t i = c at i1 d1 d2
        go_wp2_with fail
        go_roundw
        case rel => exact ⟨i + 1, 48, rfl, by go_num, by omega, by decide, HR2, trivial⟩
        case measure => simp [intOf]; omega
      · by_cases h95 : bt t i = 95
        · rw [h95] at i1 hT
          rw [show lw 95 = 127 by rw [lw_or 95 (by decide)]; decide] at hT
          by_cases h48 : last = 48
          · subst h48
            have HR2 := Lib.hid (show uoN hx (bt t) n (n - (i + 1)) 95 = R by rw [← HR.out, uoN_us hlt h95, if_pos rfl])
            clear hd h95
            cases hx
            · go_wp2_with fail
              go_roundw
              case rel => exact ⟨i + 1, 95, rfl, by go_num, by omega, by decide, HR2, trivial⟩
              case measure => simp [intOf]; omega
            · go_wp2_with (go_at_call 76; refine (hT _).mono ?_; rintro e w9 ⟨rfl, rfl⟩)
              go_roundw
              case rel => exact ⟨i + 1, 95, rfl, by go_num, by omega, by decide, HR2, trivial⟩
              case measure => simp [intOf]; omega
          · have HR2 := Lib.hid (show R = false by rw [← HR.out, uoN_us hlt h95, if_neg h48])
            have q48 : ((last : Int) != 48) = true := by rw [bne_iff_ne]; omega
            clear hd h95 h48
            cases hx
            · go_wp2
              go_ret
              exact ⟨by rw [HRR.out, HR2.out]; rfl, rfl⟩
            · go_wp2_with (go_at_call 76; refine (hT _).mono ?_; rintro e w9 ⟨rfl, rfl⟩)
              go_ret
              exact ⟨by rw [HRR.out, HR2.out]; rfl, rfl⟩
        · have hd8 : bt t i < 48 ∨ 57 < bt t i := by unfold isD at hd; omega
          have q1 : (((bt t i : Nat) : Int) == 95) = false := by rw [beq_eq_false_iff_ne]; omega
          have q2 : (((bt t i : Nat) : Int) != 95) = true := by rw [bne_iff_ne]; omega
          have hcase : (hx = true ∧ 97 ≤ lw (bt t i) ∧ lw (bt t i) ≤ 102 ∧ Hid (uoN hx (bt t) n (n - (i + 1)) 48 = R)) ∨ ((hx = false ∨ (hx = true ∧ lw (bt t i) < 97) ∨ (hx = true ∧ 97 ≤ lw (bt t i) ∧ 102 < lw (bt t i))) ∧ Hid ((if last = 95 then false else uoN hx (bt t) n (n - (i + 1)) 33) = R)) := by
            by_cases hdu : digU hx (bt t i)
            · refine .inl ⟨?_, ?_, ?_, Lib.hid (by rw [← HR.out]; exact (uoN_dig hlt hdu).symm)⟩
              · rcases hdu with h | h
                · exact absurd h hd
                · exact h.1
              · rcases hdu with h | h
                · exact absurd h hd
                · exact h.2.1
              · rcases hdu with h | h
                · exact absurd h hd
                · exact h.2.2
            · refine .inr ⟨?_, Lib.hid (by rw [← HR.out]; exact (uoN_ot hlt hdu h95).symm)⟩
              have h3 : ¬ (hx = true ∧ 97 ≤ lw (bt t i) ∧ lw (bt t i) ≤ 102) := fun h => hdu (.inr h)
              cases hx
              · exact .inl rfl
              · by_cases h4 : lw (bt t i) < 97
                · exact .inr (.inl ⟨rfl, h4⟩)
                · refine .inr (.inr ⟨rfl, by omega, ?_⟩)
                  apply Decidable.byContradiction
                  intro h5
                  exact h3 ⟨rfl, by omega, by omega⟩
          clear hd h95 HR
          generalize lw (bt t i) = r at hcase hT
          generalize bt t i = c at i1 hT hd8 q1 q2
          rcases hcase with ⟨rfl, r1, r2, HR2⟩ | ⟨hh, HR2⟩
          · rcases hd8 with hd8 | hd8
            all_goals
              go_wp2_with (go_at_call 76; refine (hT _).mono ?_; rintro e w9 ⟨rfl, rfl⟩)
              go_roundw
              case rel => exact ⟨i + 1, 48, rfl, by go_num, by omega, by decide, HR2, trivial⟩
              case measure => simp [intOf]; omega
          · by_cases hl95 : last = 95
            · subst hl95
              have HR3 := Lib.hid (show R = false by have := HR2.out; rw [if_pos rfl] at this; exact this.symm)
              clear HR2
              rcases hh with rfl | ⟨rfl, r1⟩ | ⟨rfl, r1, r2⟩ <;> rcases hd8 with hd8 | hd8
              all_goals
                go_wp2_with (go_at_call 76; refine (hT _).mono ?_; rintro e w9 ⟨rfl, rfl⟩)
                go_ret
                exact ⟨by rw [HRR.out, HR3.out]; rfl, rfl⟩
            · have HR3 := Lib.hid (show uoN hx (bt t) n (n - (i + 1)) 33 = R by have := HR2.out; rwa [if_neg hl95] at this)
              have q95 : ((last : Int) == 95) = false := by rw [beq_eq_false_iff_ne]; omega
              clear HR2 hl95
              rcases hh with rfl | ⟨rfl, r1⟩ | ⟨rfl, r1, r2⟩ <;> rcases hd8 with hd8 | hd8
              all_goals
                go_wp2_with (go_at_call 76; refine (hT _).mono ?_; rintro e w9 ⟨rfl, rfl⟩)
                go_roundw
                case rel => exact ⟨i + 1, 33, rfl, by go_num, by omega, by decide, HR3, trivial⟩
                case measure => simp [intOf]; omega
    · obtain rfl : i = n := by omega
      have HR2 := Lib.hid (show R = decide (last ≠ 95) by rw [← HR.out, uoN_end])
      clear HR hlt
      go_wp2
      go_ret
      refine ⟨?_, rfl⟩
      rw [HRR.out, HR2.out]
      refine congrArg Ending.returned (congrArg Value.bool ?_)
      by_cases h : last = 95
      · subst h; rfl
      · have : ((last : Int) != 95) = true := by rw [bne_iff_ne]; omega
        rw [this]; simp [h]
end Go.Proofs.YtilkcnoooecngaaGreatDoor
