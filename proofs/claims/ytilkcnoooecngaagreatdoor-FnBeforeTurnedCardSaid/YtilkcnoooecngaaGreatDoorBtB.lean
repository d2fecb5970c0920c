/- bits: told by the decimal. Decimals of at most 5000 digits, points from -1000000 to 1000000. -/
import Derived.Test.YtilkcnoooecngaaGreatDoorBtW
import Derived.Test.YtilkcnoooecngaaGreatDoorBtO
namespace Go.Proofs.YtilkcnoooecngaaGreatDoor
open Go.RowKit
set_option linter.unusedVariables false
abbrev tF : TypeId := 71
def fmC : Array Value := #[.int .i64 52, .int .i64 11, .int .i64 (-1023)]
/-- A measure of the second loop, read in the world. -/
def bms (w : World) (b : Nat) : Nat :=
  match w.cell? ⟨b, 1, none⟩ with
  | some (.int _ dp) => match w.cell? ⟨b, 0, none⟩ with
    | some (.slice (some a) _ _) => match w.cell? a with
      | some (.int _ d) => (-dp).toNat * 10 + (9 - d.toNat)
      | _ => 0
    | _ => 0
  | _ => 0
theorem Dec.bms_eq {w : World} {B b : Nat} {v : Value} {ds : List Nat} {dp : Int} (h : Dec w B b v ds dp) (hg : Good ds) : bms w b = ms dp (hd ds) := by
  obtain ⟨_, d, t, rfl, h0⟩ := hg
  obtain ⟨A, cap, rfl, hc1, hc2, hgA⟩ := h.form
  obtain ⟨g, rfl, hBg, hgs, hgb, hc⟩ := hgA (by simp)
  have e1 : w.cell? ⟨b, 1, none⟩ = some (.int .i64 dp) := h.blk.cell 1 rfl
  have e0 : w.cell? ⟨b, 0, none⟩ = some (.slice (some ⟨g, 0, none⟩) (d :: t).length cap) := h.blk.cell 0 rfl
  have e2 := hc 0 d rfl
  unfold bms
  rw [e1, e0]
  simp only []
  rw [e2]
  simp [ms, hd, dc]
def infN : Int := 9218868437227405312
def b1 (a b : Int × List Nat × Int) : Prop := 0 < a.2.2 ∧ ∃ k : Nat, (k : Int) = min (3 * a.2.2) 59 ∧ HalfR k a.2 b.2 ∧ b.1 = a.1 + k
theorem b1_fun : Fun2 b1 := by
  rintro a ⟨b1, b2⟩ ⟨c1, c2⟩ ⟨_, k, h1, h2, h3⟩ ⟨_, k', h1', h2', h3'⟩
  obtain rfl : k = k' := by omega
  have := h2.uniq h2'
  simp only at this h3 h3'
  rw [this, h3, h3']
def b2 (a b : Int × List Nat × Int) : Prop := (a.2.2 < 0 ∨ hd a.2.1 < 5) ∧ ∃ k : Nat, (if a.2.2 < 0 then (k : Int) = min (-3 * a.2.2) 59 else k = 1) ∧ DblR k a.2 b.2 ∧ b.1 = a.1 - k
theorem b2_fun : Fun2 b2 := by
  rintro a ⟨b1, b2⟩ ⟨c1, c2⟩ ⟨_, k, h1, h2, h3⟩ ⟨_, k', h1', h2', h3'⟩
  obtain rfl : k = k' := by
    by_cases h : a.2.2 < 0
    · rw [if_pos h] at h1 h1'; omega
    · rw [if_neg h] at h1 h1'; omega
  have := h2.uniq h2'
  simp only at this h3 h3'
  rw [this, h3, h3']
def packN (m E : Int) : Int := bits .or .u64 (bits .and .u64 m 4503599627370495) ((E + 1023) * 4503599627370496)
def packN0 (m : Int) : Int := bits .or .u64 (bits .and .u64 m 4503599627370495) 0
def FinR (m E n : Int) (ov : Bool) : Prop :=
  if m = 9007199254740992 then
    if 1023 ≤ E then n = infN ∧ ov = true else n = packN 4503599627370496 (E + 1) ∧ ov = false
  else if bits .and .u64 m 4503599627370496 = 0 then n = packN0 m ∧ ov = false else n = packN m E ∧ ov = false
theorem FinR.uniq {m E n n' : Int} {ov ov' : Bool} (h : FinR m E n ov) (h' : FinR m E n' ov') : n = n' ∧ ov = ov' := by
  unfold FinR at h h'
  split at h
  · rename_i h0
    rw [if_pos h0] at h'
    split at h
    · rename_i h1
      rw [if_pos h1] at h'
      exact ⟨h.1.trans h'.1.symm, h.2.trans h'.2.symm⟩
    · rename_i h1
      rw [if_neg h1] at h'
      exact ⟨h.1.trans h'.1.symm, h.2.trans h'.2.symm⟩
  · rename_i h0
    rw [if_neg h0] at h'
    split at h
    · rename_i h1
      rw [if_pos h1] at h'
      exact ⟨h.1.trans h'.1.symm, h.2.trans h'.2.symm⟩
    · rename_i h1
      rw [if_neg h1] at h'
      exact ⟨h.1.trans h'.1.symm, h.2.trans h'.2.symm⟩
/-- The end of bits, out of what is shifted into its place. -/
def TailR (c : List Nat × Int) (E n : Int) (ov : Bool) : Prop :=
  1024 ≤ E ∧ n = infN ∧ ov = true ∨ E < 1024 ∧ ∃ d m, ShiftR 53 c d ∧ WholeR d.1 d.2 m ∧ FinR m E n ov
theorem TailR.uniq {c : List Nat × Int} {E n n' : Int} {ov ov' : Bool} (h : TailR c E n ov) (h' : TailR c E n' ov') : n = n' ∧ ov = ov' := by
  rcases h with ⟨h0, h1, h2⟩ | ⟨h0, d, m, h1, h2, h3⟩
  · rcases h' with ⟨_, h1', h2'⟩ | ⟨h0', _⟩
    · exact ⟨h1.trans h1'.symm, h2.trans h2'.symm⟩
    · omega
  · rcases h' with ⟨h0', _⟩ | ⟨h0', d', m', h1', h2', h3'⟩
    · omega
    · obtain rfl := h1.uniq h1'
      obtain rfl := h2.uniq h2'
      exact h3.uniq h3'
/-- What bits tells of a decimal of some digits with a moderate point. -/
def MidR (ds : List Nat) (dp n : Int) (ov : Bool) : Prop :=
  ∃ s1 s2, Done b1 (0, ds, dp) s1 ∧ Done b2 s1 s2 ∧ ¬ (s2.2.2 < 0 ∨ hd s2.2.1 < 5) ∧
    ((s2.1 ≤ -1022 ∧ ∃ c, ShiftR (-(-1022 - (s2.1 - 1))) s2.2 c ∧ TailR c (-1022) n ov) ∨ (-1022 < s2.1 ∧ TailR s2.2 (s2.1 - 1) n ov))
theorem MidR.uniq {ds : List Nat} {dp n n' : Int} {ov ov' : Bool} (h : MidR ds dp n ov) (h' : MidR ds dp n' ov') : n = n' ∧ ov = ov' := by
  obtain ⟨s1, s2, h1, h2, _, h3⟩ := h
  obtain ⟨s1', s2', h1', h2', _, h3'⟩ := h'
  obtain rfl := Done.uniq b1_fun h1 h1'
  obtain rfl := Done.uniq b2_fun h2 h2'
  rcases h3 with ⟨h0, c, h4, h5⟩ | ⟨h0, h5⟩
  · rcases h3' with ⟨h0', c', h4', h5'⟩ | ⟨h0', h5'⟩
    · obtain rfl := h4.uniq h4'
      exact h5.uniq h5'
    · omega
  · rcases h3' with ⟨h0', c', h4', h5'⟩ | ⟨h0', h5'⟩
    · omega
    · exact h5.uniq h5'
def BitsR (ds : List Nat) (dp n : Int) (ov : Bool) : Prop :=
  (ds = [] ∨ dp < -330) ∧ n = 0 ∧ ov = false ∨ (ds ≠ [] ∧ 310 < dp) ∧ n = infN ∧ ov = true ∨ (ds ≠ [] ∧ -330 ≤ dp ∧ dp ≤ 310) ∧ MidR ds dp n ov
theorem BitsR.uniq {ds : List Nat} {dp n n' : Int} {ov ov' : Bool} (h : BitsR ds dp n ov) (h' : BitsR ds dp n' ov') : n = n' ∧ ov = ov' := by
  rcases h with ⟨h0, h1, h2⟩ | ⟨⟨h0, h00⟩, h1, h2⟩ | ⟨⟨h0, h00, h01⟩, h1⟩
  · rcases h' with ⟨_, h1', h2'⟩ | ⟨⟨h0', h00'⟩, _⟩ | ⟨⟨h0', h00', _⟩, _⟩
    · exact ⟨h1.trans h1'.symm, h2.trans h2'.symm⟩
    · rcases h0 with h | h
      · exact absurd h h0'
      · omega
    · rcases h0 with h | h
      · exact absurd h h0'
      · omega
  · rcases h' with ⟨h0', _⟩ | ⟨_, h1', h2'⟩ | ⟨⟨_, h00', h01'⟩, _⟩
    · rcases h0' with h | h
      · exact absurd h h0
      · omega
    · exact ⟨h1.trans h1'.symm, h2.trans h2'.symm⟩
    · omega
  · rcases h' with ⟨h0', _⟩ | ⟨⟨_, h00'⟩, _⟩ | ⟨_, h1'⟩
    · rcases h0' with h | h
      · exact absurd h h0
      · omega
    · omega
    · exact h1.uniq h1'
def BitsRet (B : Nat) (ds : List Nat) (dp : Int) (w : World) (e : Ending) (w' : World) : Prop := (∃ (n : Int) (ov : Bool), BitsR ds dp n ov ∧ e = .returned (.tuple #[.int .u64 n, .bool ov])) ∧ Fm B w w'
def St (w : World) (B b : Nat) (wr : World) (v : Value) (ds : List Nat) (dp : Int) : Prop := Dec wr B b v ds dp ∧ Good ds ∧ Fm B w wr
set_option maxHeartbeats 2000000 in
set_option maxRecDepth 100000 in
theorem bits_zero (B b : Nat) (v : Value) (dp : Int) (w : World) (h : Dec w B b v [] dp) :
    Calls Tryz.prog 42 #[.pointer (some ⟨b, 0, none⟩), .agg fmC] w (BitsRet B [] dp w) := by
  obtain ⟨A, cap, rfl, hc1, hc2, hgA⟩ := h.form
  have hb : b ≠ w.heap.size := by have := h.blk.lt; omega
  have hD := h.alloc (.cells fmC tF)
  have f0 : (w.alloc (.cells fmC tF)).cell? ⟨b, 0, none⟩ = some (.slice A 0 cap) := hD.blk.cell 0 rfl
  have hN := Blk.new w tF fmC
  have g0 : (w.alloc (.cells fmC tF)).cell? ⟨w.heap.size, 0, none⟩ = some (.int .i64 52) := hN.cell 0 rfl
  have g1 : (w.alloc (.cells fmC tF)).cell? ⟨w.heap.size, 1, none⟩ = some (.int .i64 11) := hN.cell 1 rfl
  have HB := Lib.hid (show Fm B w (w.alloc (.cells fmC tF)) from (Fm.refl B w).belowS ((Below.refl _ w).alloc (Nat.le_refl _) _) h.lt)
  clear h hD hN hc1 hc2 hgA
  unfold fmC at *
  go_enter Tryz.func42, Tryz.ntmps42
  go_wp2_with fail
  go_quiet (fail)
  go_wp2
  go_ret2
  exact ⟨⟨0, false, .inl ⟨.inl rfl, rfl, rfl⟩, rfl⟩, HB.out.drewN nq⟩
set_option maxHeartbeats 2000000 in
set_option maxRecDepth 100000 in
theorem bits_good (B b : Nat) (v : Value) (ds : List Nat) (dp : Int) (w : World) (h : Dec w B b v ds dp) (hg : Good ds) (hl : ds.length ≤ 5000) (hdp : -330 ≤ dp ∧ dp ≤ 310) :
    Calls Tryz.prog 42 #[.pointer (some ⟨b, 0, none⟩), .agg fmC] w (BitsRet B ds dp w) := by
  obtain ⟨hdp1, hdp2⟩ := hdp
  obtain ⟨L, hL⟩ : ∃ L, ds.length = L := ⟨_, rfl⟩
  have HL := Lib.hid hL
  have hL0 : L ≠ 0 := by
    obtain ⟨_, d, t, rfl, _⟩ := hg
    simp at hL; omega
  obtain ⟨A, cap, rfl, hc1, hc2, hgA⟩ := h.form
  rw [hL] at h hl
  have hD := h.alloc (.cells fmC tF)
  have f0 : (w.alloc (.cells fmC tF)).cell? ⟨b, 0, none⟩ = some (.slice A L cap) := hD.blk.cell 0 rfl
  have f1 : (w.alloc (.cells fmC tF)).cell? ⟨b, 1, none⟩ = some (.int .i64 dp) := hD.blk.cell 1 rfl
  have hN := Blk.new w tF fmC
  have g0 : (w.alloc (.cells fmC tF)).cell? ⟨w.heap.size, 0, none⟩ = some (.int .i64 52) := hN.cell 0 rfl
  have g1 : (w.alloc (.cells fmC tF)).cell? ⟨w.heap.size, 1, none⟩ = some (.int .i64 11) := hN.cell 1 rfl
  have HB := Lib.hid (show Fm B w (w.alloc (.cells fmC tF)) from (Fm.refl B w).belowS ((Below.refl _ w).alloc (Nat.le_refl _) _) h.lt)
  have HN := Lib.hid hN
  have HD := Lib.hid hD
  have HG := Lib.hid hg
  have HG0 := Lib.hid hg
  have e0 : ((L : Int) == 0) = false := by rw [beq_eq_false_iff_ne]; omega
  have d1 : decide (dp < -330) = false := decide_eq_false (by omega)
  have d2 : decide (310 < dp) = false := decide_eq_false (by omega)
  have d3 : decide (dp > 310) = false := decide_eq_false (by omega)
  clear h hD hN hc1 hc2 hgA hg hL hL0
  unfold fmC at *
  go_enter Tryz.func42, Tryz.ntmps42
  go_wp2_with fail
  go_quiet (fail)
  have HS := Lib.hid (show ∃ W, W = (w.alloc (.cells #[.int .i64 52, .int .i64 11, .int .i64 (-1023)] tF)).drewN nq ∧ Dec W B b (.slice A L cap) ds dp ∧ Blk W w.heap.size tF #[.int .i64 52, .int .i64 11, .int .i64 (-1023)] ∧ Fm B w W from ⟨_, rfl, HD.out.drewN nq, HN.out, HB.out.drewN nq⟩)
  obtain ⟨W, hW, hD, hN, hB⟩ := HS.out
  have f0' : W.cell? ⟨b, 0, none⟩ = some (.slice A L cap) := hD.blk.cell 0 rfl
  have f1' : W.cell? ⟨b, 1, none⟩ = some (.int .i64 dp) := hD.blk.cell 1 rfl
  have HDW := Lib.hid hD
  obtain ⟨F, hF⟩ : ∃ F, w.heap.size = F := ⟨_, rfl⟩
  have HNW := Lib.hid (show Blk W F tF #[.int .i64 52, .int .i64 11, .int .i64 (-1023)] from hF ▸ hN)
  have HBW := Lib.hid hB
  rw [show (w.alloc (.cells #[.int .i64 52, .int .i64 11, .int .i64 (-1023)] 71)).drewN nq = W from hW.symm]
  clear HS hW hD hN hB f0 f1 g0 g1 HB HN HD
  go_wp2_with fail
  rw [hF]
  go_loopw [7] (fun ev wr => ∃ (z : Int), ev = .int .i64 z ∧ 0 ≤ z ∧ z ≤ 1190 ∧ Hid (∃ (v' : Value) (r : List Nat) (p : Int), St w B b wr v' r p ∧ Blk wr F tF #[.int .i64 52, .int .i64 11, .int .i64 (-1023)] ∧ 17 * z + 59 * p + pc p (hd r) ≤ 19000 ∧ -330 ≤ p ∧ p ≤ 310 ∧ (r.length : Int) ≤ 5000 + 70 * z ∧ (z = 0 ∨ -20 ≤ p) ∧ Goes b1 (0, ds, dp) (z, r, p))) (fun ev _ => 1300 - (intOf ev).toNat)
  case atStart => exact ⟨0, rfl, by omega, by omega, Lib.hid ⟨_, ds, dp, ⟨HDW.out, HG.out, HBW.out⟩, HNW.out, by unfold pc; split <;> (try split) <;> (try split) <;> omega, by omega, by omega, by have := HL.out; omega, by omega, .refl⟩⟩
  case round =>
    clear f0' f1'
    obtain ⟨z, rfl, hz1, hz2, HS⟩ := hrel
    obtain ⟨v1, r, p, ⟨hD, hg, hB⟩, hN, hpot, hp1, hp2, hlr, hzp, hgo⟩ := HS.out
    have HGo := Lib.hid hgo
    clear hgo
    have f1 : wr.cell? ⟨b, 1, none⟩ = some (.int .i64 p) := hD.blk.cell 1 rfl
    have HB := Lib.hid hB
    have HN := Lib.hid hN
    have HD := Lib.hid hD
    have HG := Lib.hid hg
    have HP := Lib.hid hpot
    by_cases hp0 : p > 0
    · obtain ⟨k, hk, hkc⟩ : ∃ k : Nat, (k : Int) = min (3 * p) 59 ∧ (3 * p ≤ 59 ∧ 3 * p = (k : Int) ∨ 59 < 3 * p ∧ k = 59) := ⟨(min (3 * p) 59).toNat, by omega, by omega⟩
      have hk59 : k ≤ 59 := by omega
      have hk3 : 3 ≤ k := by omega
      have hT := half_any B b k v1 r p wr HD.out HG.out (by omega) (by omega) hk59 (by omega)
      have HK := Lib.hid hk
      clear hD hg hB hN hpot HS hzp hk
      obtain ⟨k0, hk0⟩ : ∃ k0, k0 = k := ⟨_, rfl⟩
      have HK0 := Lib.hid hk0
      clear hk0
      rcases hkc with ⟨hc1, hc2⟩ | ⟨hc1, rfl⟩
      all_goals
        have Hc := Lib.hid hlr
        go_wp2_with (go_at_call 70; refine halt_H ?_)
        refine resume_H ?_
        refine hT.mono ?_
        rintro e w1 ⟨rfl, ⟨v2, r2, i, hH, hD2⟩, k2⟩
        have hps := pot_step HG.out hH (by omega) hp2 HK.out HP.out
        have hl2 := hH.len
        have hl3 := trimD_len r2
        have hz3 := hps.1
        have hgo2 : Goes b1 (0, ds, dp) (z + (k0 : Int), trimD r2, p - ((i : Int) - 1)) := HGo.out.step ⟨by simpa using hp0, k0, by have := HK.out; have := HK0.out; simp only; omega, ⟨r2, i, by rw [HK0.out]; exact hH, rfl⟩, rfl⟩
        have hpc : 0 ≤ pc (p - ((i : Int) - 1)) (hd r2) := by unfold pc; split <;> (try split) <;> (try split) <;> omega
        have hz4 : z + (k0 : Int) ≤ 1190 := by have := hps.2.1; have := HK0.out; omega
        rw [← (trimD_good hH.good).2, ← HK0.out] at hps
        have HR := Lib.hid (show ∃ (v' : Value) (r : List Nat) (p : Int), St w B b w1 v' r p ∧ Blk w1 F tF #[.int .i64 52, .int .i64 11, .int .i64 (-1023)] ∧ 17 * (z + (k0 : Int)) + 59 * p + pc p (hd r) ≤ 19000 ∧ -330 ≤ p ∧ p ≤ 310 ∧ (r.length : Int) ≤ 5000 + 70 * (z + (k0 : Int)) ∧ (z + (k0 : Int) = 0 ∨ -20 ≤ p) ∧ Goes b1 (0, ds, dp) (z + (k0 : Int), r, p) from
          ⟨v2, trimD r2, _, ⟨hD2, (trimD_good hH.good).1, HB.out.trans k2⟩, k2.fr _ _ _ (by decide) (by decide) HN.out, hps.1, by omega, by omega, by have := Hc.out; have := HK0.out; omega, .inr hps.2.1, hgo2⟩)
        clear hT hH hD2 k2 hps hl2 hl3 hz3 hpc f1 hgo2
        go_wp2_with fail
        go_roundw
        case rel => exact ⟨z + (k0 : Int), (by rw [HK0.out]; try rfl), by omega, by omega, HR⟩
        case measure => simp [intOf]; omega
    · go_wp2_with fail
      have hms : ms p (hd r) ≤ 3309 := by unfold ms; omega
      obtain ⟨s1, hs1⟩ : ∃ s1 : Int × List Nat × Int, (z, r, p) = s1 := ⟨_, rfl⟩
      have HS1 := Lib.hid (show Done b1 (0, ds, dp) s1 from hs1 ▸ ⟨HGo.out, fun c hc => by have := hc.1; simp only at this; omega⟩)
      go_loopw [7] (fun ev wr => ∃ (z : Int), ev = .int .i64 z ∧ -201000 ≤ z ∧ z ≤ 1190 ∧ Hid (∃ (v' : Value) (r : List Nat) (p : Int), St w B b wr v' r p ∧ Blk wr F tF #[.int .i64 52, .int .i64 11, .int .i64 (-1023)] ∧ -400 ≤ p ∧ p ≤ 100 ∧ z + 59 * (3400 - (ms p (hd r) : Int)) ≥ 0 ∧ r.length + 20 * ms p (hd r) ≤ 200000 ∧ Goes b2 s1 (z, r, p))) (fun _ wr => bms wr b)
      case atStart => exact ⟨z, rfl, by omega, hz2, Lib.hid ⟨v1, r, p, ⟨HD.out, HG.out, HB.out⟩, HN.out, by omega, by omega, by omega, by omega, hs1 ▸ .refl⟩⟩
      case round =>
        clear HB HN HD HG HP HS hD hg hB hN hpot f1 hzp hms hlr HGo hs1
        rename_i zz
        obtain ⟨z, rfl, hz1, hz2, HS⟩ := hrel
        obtain ⟨v1, r, p, ⟨hD, hg, hB⟩, hN, hp1, hp2, hm, hlr, hgo⟩ := HS.out
        have HGo := Lib.hid hgo
        clear hgo
        have hbm := hD.bms_eq hg
        have f1 : wr.cell? ⟨b, 1, none⟩ = some (.int .i64 p) := hD.blk.cell 1 rfl
        have HB := Lib.hid hB
        have HN := Lib.hid hN
        have HD := Lib.hid hD
        have HG := Lib.hid hg
        obtain ⟨hh1, hh9⟩ := hd_good hg
        by_cases hc : p < 0 ∨ hd r < 5
        · obtain ⟨k, hk, hk1, hk59, hkc⟩ : ∃ k : Nat, (if p < 0 then (k : Int) = min (-3 * p) 59 else k = 1) ∧ 1 ≤ k ∧ k ≤ 59 ∧ (p < 0 ∧ -3 * p ≤ 59 ∧ -3 * p = (k : Int) ∨ p < 0 ∧ 59 < -3 * p ∧ k = 59 ∨ 0 ≤ p ∧ k = 1) := by
            by_cases hn : p < 0
            · exact ⟨(min (-3 * p) 59).toNat, by rw [if_pos hn]; omega, by omega, by omega, by omega⟩
            · exact ⟨1, by rw [if_neg hn], by omega, by omega, by omega⟩
          have hT := double_any B b k v1 r p wr HD.out HG.out (by omega) hk1 hk59 (by omega)
          have HK := Lib.hid hk
          have HC := Lib.hid hc
          have HM := Lib.hid (And.intro hm hlr)
          have HBM := Lib.hid hbm
          obtain ⟨A1, cap1, rfl, hcc1, hcc2, hgA⟩ := hD.form
          obtain ⟨g, rfl, hBg, hgs, hgb, hcell⟩ := hgA (by obtain ⟨_, d, t, rfl, _⟩ := hg; simp)
          have f0 : wr.cell? ⟨b, 0, none⟩ = some (.slice (some ⟨g, 0, none⟩) r.length cap1) := HD.out.blk.cell 0 rfl
          have f2 : wr.cell? ⟨g, 0, none⟩ = some (.int .u8 (hd r : Nat)) := by
            obtain ⟨_, d, t, rfl, _⟩ := hg
            exact hcell 0 d rfl
          have hr0 : 1 ≤ r.length := by obtain ⟨_, d, t, rfl, _⟩ := hg; simp
          have hcM : cap1 ≤ 9223372036854775807 := hcc2
          obtain ⟨R, hR⟩ : ∃ R, r.length = R := ⟨_, rfl⟩
          obtain ⟨H, hH0⟩ : ∃ H, hd r = H := ⟨_, rfl⟩
          rw [hR] at f0 hr0 hcc1
          rw [hH0] at f2 hc hh1 hh9
          have HRH := Lib.hid (And.intro hR hH0)
          clear hD hg hB hN HS hk hm hlr hbm hcc2 hgA hBg hgs hgb hcell hR hH0
          obtain ⟨k0, hk0⟩ : ∃ k0, k0 = k := ⟨_, rfl⟩
          have HK0 := Lib.hid hk0
          clear hk0
          rcases hkc with ⟨hn, hc1, hc2⟩ | ⟨hn, hc1, rfl⟩ | ⟨hn, rfl⟩
          all_goals
            have h5 : p < 0 ∨ (0 ≤ p ∧ H < 5) := by omega
            clear hc
            rcases h5 with h5 | ⟨h5, h6⟩
          all_goals try omega
          all_goals
            go_wp2_with (go_at_call 71; refine halt_H ?_)
            refine resume_H ?_
            refine hT.mono ?_
            rintro e w1 ⟨rfl, ⟨v2, r2, i, hH, hD2⟩, k2⟩
            have hms := ms_step HG.out hH HC.out (by have := HK.out; simpa using this) (by omega)
            have hl2 := hH.len
            have hfw := hH.few
            have hl3 := trimD_len r2
            rw [← (trimD_good hH.good).2] at hms
            have hgo2 : Goes b2 s1 (z - (k0 : Int), trimD r2, p + (i : Int)) := HGo.out.step ⟨HC.out, k0, by have := HK.out; have := HK0.out; subst this; simpa using HK.out, ⟨r2, i, by rw [HK0.out]; exact hH, rfl⟩, rfl⟩
            have hbm2 := hD2.bms_eq (trimD_good hH.good).1
            have HR := Lib.hid (show ∃ (v' : Value) (r : List Nat) (p : Int), St w B b w1 v' r p ∧ Blk w1 F tF #[.int .i64 52, .int .i64 11, .int .i64 (-1023)] ∧ -400 ≤ p ∧ p ≤ 100 ∧ (z - (k0 : Int)) + 59 * (3400 - (ms p (hd r) : Int)) ≥ 0 ∧ r.length + 20 * ms p (hd r) ≤ 200000 ∧ Goes b2 s1 (z - (k0 : Int), r, p) from
              ⟨v2, trimD r2, _, ⟨hD2, (trimD_good hH.good).1, HB.out.trans k2⟩, k2.fr _ _ _ (by decide) (by decide) HN.out, hms.2.1, hms.2.2, by have := HM.out.1; have := HK0.out; omega, by have := HM.out.2; omega, hgo2⟩)
            have HMs := Lib.hid (show bms w1 b < bms wr b by rw [hbm2, HBM.out]; exact hms.1)
            have hz4 : -201000 ≤ z - (k0 : Int) ∧ z - (k0 : Int) ≤ 1190 := by have := HM.out.1; have := HK0.out; omega
            clear hT hH hD2 k2 hms hl2 hl3 hfw hbm2 f0 f1 f2 hgo2
            go_wp2_with fail
            go_roundw
            case rel => exact ⟨z - (k0 : Int), (by rw [HK0.out]; try rfl), hz4.1, hz4.2, HR⟩
            case measure => exact HMs.out
        · obtain ⟨A1, cap1, rfl, hcc1, hcc2, hgA⟩ := hD.form
          obtain ⟨g, rfl, hBg, hgs, hgb, hcell⟩ := hgA (by obtain ⟨_, d, t, rfl, _⟩ := hg; simp)
          have f0 : wr.cell? ⟨b, 0, none⟩ = some (.slice (some ⟨g, 0, none⟩) r.length cap1) := HD.out.blk.cell 0 rfl
          have f2 : wr.cell? ⟨g, 0, none⟩ = some (.int .u8 (hd r : Nat)) := by
            obtain ⟨_, d, t, rfl, _⟩ := hg
            exact hcell 0 d rfl
          have hr0 : 1 ≤ r.length := by obtain ⟨_, d, t, rfl, _⟩ := hg; simp
          have hcM : cap1 ≤ 9223372036854775807 := hcc2
          have hrl : r.length ≤ 200000 := by omega
          obtain ⟨R, hR⟩ : ∃ R, r.length = R := ⟨_, rfl⟩
          obtain ⟨H, hH0⟩ : ∃ H, hd r = H := ⟨_, rfl⟩
          have HRL := Lib.hid hrl
          rw [hR] at f0 hr0 hcc1
          rw [hH0] at f2 hc hh1 hh9
          have g2 : wr.cell? ⟨F, 2, none⟩ = some (.int .i64 (-1023)) := hN.cell 2 rfl
          have hz900 : -201000 ≤ z := hz1
          have HS2 := Lib.hid (show Done b2 s1 (z, r, p) ∧ ¬ (p < 0 ∨ hd r < 5) from ⟨⟨HGo.out, fun c hk => hc (by have := hk.1; rwa [← hH0])⟩, fun h => hc (by rwa [← hH0])⟩)
          have hp0 : 0 ≤ p := by omega
          have hH5 : 5 ≤ H := by omega
          clear hD hg hB hN HS hm hlr hbm hcc2 hgA hBg hgs hgb hcell hR hH0 hc hrl
          have HMid := Lib.hid (fun n ov h => (show BitsR ds dp n ov from .inr (.inr ⟨⟨by obtain ⟨_, d, t, e, _⟩ := HG0.out; rw [e]; simp, hdp1, hdp2⟩, s1, (z, r, p), HS1.out, HS2.out.1, HS2.out.2, h⟩)))
          by_cases hsh : z ≤ -1022
          · have hT := shift_any B b (-(-1022 - (z - 1))) _ r p wr HD.out HG.out (by have := HRL.out; omega) (by omega) (by omega)
            go_wp2_with (go_at_call 68; refine halt_H ?_)
            refine resume_H ?_
            refine hT.mono ?_
            rintro e wq ⟨rfl, ⟨vq, rq, pq, hgq, hlq, hpq, hDq, hRq⟩, kq⟩
            have hNq := kq.fr _ _ _ (by decide) (by decide) HN.out
            have HQ := Lib.hid (show ∃ (vq : Value) (rq : List Nat) (pq : Int), Dec wq B b vq rq pq ∧ Good rq ∧ Fm B w wq ∧ Blk wq F tF #[.int .i64 52, .int .i64 11, .int .i64 (-1023)] ∧ rq.length ≤ 800000 ∧ -300000 ≤ pq ∧ pq ≤ 300000 ∧ ShiftR (-(-1022 - (z - 1))) (r, p) (rq, pq) from
              ⟨vq, rq, pq, hDq, hgq, HB.out.trans kq, hNq, by have := HRL.out; omega, by omega, by omega, hRq⟩)
            clear hT hgq hlq hpq hDq kq hNq f0 f1 f2 g2 hRq
            go_wp2_with fail
            generalize hE : z - 1 + (-1022 - (z - 1)) = E
            have hE1 : -1022 ≤ E := by omega
            have hEE : E = -1022 := by omega
            have hE3 : E ≤ 1189 := by omega
            obtain ⟨vq, rq, pq, hDq, hGq, hBq, hNq, hlq, hpq1, hpq2, hRq⟩ := HQ.out
            have HP := Lib.hid (fun n ov (h : TailR (rq, pq) E n ov) => HMid.out n ov (.inl ⟨hsh, (rq, pq), hRq, hEE ▸ h⟩))
            have g0 : wq.cell? ⟨F, 0, none⟩ = some (.int .i64 52) := hNq.cell 0 rfl
            have g1 : wq.cell? ⟨F, 1, none⟩ = some (.int .i64 11) := hNq.cell 1 rfl
            have g2 : wq.cell? ⟨F, 2, none⟩ = some (.int .i64 (-1023)) := hNq.cell 2 rfl
            have HDq := Lib.hid hDq
            have HGq := Lib.hid hGq
            have HBq := Lib.hid hBq
            have HNq := Lib.hid hNq
            clear hE hDq hGq hBq hNq HQ hRq hEE
            have HE1 := Lib.hid hE1
            go_quiet (fail)
            by_cases hov : 1024 ≤ E
            · have HB3 := Lib.hid (HBq.out.drewN nq)
              have hT := HP.out infN true (.inl ⟨hov, rfl, rfl⟩)
              have HT := Lib.hid hT
              clear hT
              go_wp2
              go_ret2
              exact ⟨⟨_, _, HT.out, rfl⟩, HB3.out⟩
            · have hE2 : E ≤ 1023 := by omega
              have HP2 := Lib.hid (fun n ov h => HP.out n ov (.inr ⟨by omega, h⟩))
              clear hov HP
              have hT2 := shift_any B b 53 vq rq pq (wq.drewN nq) (HDq.out.drewN nq) HGq.out (by omega) (by omega) (by omega)
              go_wp2_with (go_at_call 68; refine halt_H ?_)
              refine resume_H ?_
              refine hT2.mono ?_
              rintro e w2 ⟨rfl, ⟨v2, r2, p2, hg2, hl2, hp2', hD2, hR2⟩, k2⟩
              have HN2 := Lib.hid (k2.fr F tF _ (by decide) (by decide) HNq.out)
              have HB2 := Lib.hid ((HBq.out.drewN nq).trans k2)
              have HR2 := Lib.hid hR2
              have hT3 := whole_any B b v2 r2 p2 w2 hD2 hg2 (by omega) (by omega)
              have hg0 : w2.cell? ⟨F, 0, none⟩ = some (.int .i64 52) := HN2.out.cell 0 rfl
              have hg1 : w2.cell? ⟨F, 1, none⟩ = some (.int .i64 11) := HN2.out.cell 1 rfl
              have hg2' : w2.cell? ⟨F, 2, none⟩ = some (.int .i64 (-1023)) := HN2.out.cell 2 rfl
              clear g0 g1 g2 hT2 hg2 hl2 hp2' hD2 k2 hR2
              go_wp2_with (go_at_call 72; refine halt_H ?_)
              refine resume_H ?_
              refine hT3.mono ?_
              rintro e w3 ⟨⟨n, hn1, hn2, hwh, rfl⟩, rfl⟩
              have HF := Lib.hid (fun x ov h => HP2.out x ov ⟨(r2, p2), n, HR2.out, hwh, h⟩)
              clear hT3 hwh
              by_cases hn : n = 9007199254740992
              · subst hn
                have hmb : (bits .and .u64 4503599627370496 4503599627370496 == 0) = false := by decide +kernel
                by_cases hE4 : 1023 ≤ E
                · have HT := Lib.hid (HF.out infN true (by unfold FinR; rw [if_pos rfl, if_pos hE4]; exact ⟨rfl, rfl⟩))
                  go_wp2_with fail
                  go_quiet (fail)
                  have HB4 := Lib.hid (HB2.out.drewN nq)
                  go_wp2
                  go_ret2
                  exact ⟨⟨_, _, HT.out, rfl⟩, HB4.out⟩
                · have hE5 : E ≤ 1022 := by omega
                  have HT := Lib.hid (HF.out (packN 4503599627370496 (E + 1)) false (by unfold FinR; rw [if_pos rfl, if_neg hE4]; exact ⟨rfl, rfl⟩))
                  clear hE4
                  go_wp2_with fail
                  go_quiet (fail)
                  have HB4 := Lib.hid (HB2.out.drewN nq)
                  go_wp2_with fail
                  go_quiet (fail)
                  have HB5 := Lib.hid (HB4.out.drewN nq)
                  go_wp2
                  go_ret2
                  exact ⟨⟨_, _, HT.out, rfl⟩, HB5.out⟩
              · have hnb : (n == 9007199254740992) = false := by rw [beq_eq_false_iff_ne]; exact hn
                have HF2 := Lib.hid (fun x ov h => HF.out x ov (by unfold FinR; rw [if_neg hn]; exact h))
                clear hn HF
                by_cases hm : bits .and .u64 n 4503599627370496 = 0
                · have hmb : (bits .and .u64 n 4503599627370496 == 0) = true := by rw [beq_iff_eq]; exact hm
                  have HT := Lib.hid (HF2.out (packN0 n) false (by rw [if_pos hm]; exact ⟨rfl, rfl⟩))
                  clear hm
                  go_wp2_with fail
                  go_quiet (fail)
                  have HB5 := Lib.hid (HB2.out.drewN nq)
                  go_wp2
                  go_ret2
                  exact ⟨⟨_, _, HT.out, rfl⟩, HB5.out⟩
                · have hmb : (bits .and .u64 n 4503599627370496 == 0) = false := by rw [beq_eq_false_iff_ne]; exact hm
                  have HT := Lib.hid (HF2.out (packN n E) false (by rw [if_neg hm]; exact ⟨rfl, rfl⟩))
                  clear hm
                  go_wp2_with fail
                  go_quiet (fail)
                  have HB5 := Lib.hid (HB2.out.drewN nq)
                  go_wp2
                  go_ret2
                  exact ⟨⟨_, _, HT.out, rfl⟩, HB5.out⟩
          · have HQ := Lib.hid (show ∃ (vq : Value) (rq : List Nat) (pq : Int), Dec wr B b vq rq pq ∧ Good rq ∧ Fm B w wr ∧ Blk wr F tF #[.int .i64 52, .int .i64 11, .int .i64 (-1023)] ∧ rq.length ≤ 800000 ∧ -300000 ≤ pq ∧ pq ≤ 300000 ∧ (r, p) = (rq, pq) from
              ⟨_, r, p, HD.out, HG.out, HB.out, HN.out, by have := HRL.out; omega, by omega, by omega, rfl⟩)
            obtain ⟨wq, hwq⟩ : ∃ wq, wr = wq := ⟨_, rfl⟩
            obtain rfl := hwq
            go_wp2_with fail
            generalize hE : z - 1 = E
            have hE1 : -1022 ≤ E := by omega
            have hE3 : E ≤ 1189 := by omega
            obtain ⟨vq, rq, pq, hDq, hGq, hBq, hNq, hlq, hpq1, hpq2, hRq⟩ := HQ.out
            have HP := Lib.hid (fun n ov (h : TailR (rq, pq) E n ov) => HMid.out n ov (.inr ⟨by first | (simp only; omega) | omega, by show TailR (r, p) (z - 1) n ov; rw [hRq, hE]; exact h⟩))
            have g0 : wr.cell? ⟨F, 0, none⟩ = some (.int .i64 52) := hNq.cell 0 rfl
            have g1 : wr.cell? ⟨F, 1, none⟩ = some (.int .i64 11) := hNq.cell 1 rfl
            have g2 : wr.cell? ⟨F, 2, none⟩ = some (.int .i64 (-1023)) := hNq.cell 2 rfl
            have HDq := Lib.hid hDq
            have HGq := Lib.hid hGq
            have HBq := Lib.hid hBq
            have HNq := Lib.hid hNq
            clear hE hDq hGq hBq hNq HQ hRq
            have HE1 := Lib.hid hE1
            go_quiet (fail)
            by_cases hov : 1024 ≤ E
            · have HB3 := Lib.hid (HBq.out.drewN nq)
              have hT := HP.out infN true (.inl ⟨hov, rfl, rfl⟩)
              have HT := Lib.hid hT
              clear hT
              go_wp2
              go_ret2
              exact ⟨⟨_, _, HT.out, rfl⟩, HB3.out⟩
            · have hE2 : E ≤ 1023 := by omega
              have HP2 := Lib.hid (fun n ov h => HP.out n ov (.inr ⟨by omega, h⟩))
              clear hov HP
              have hT2 := shift_any B b 53 vq rq pq (wr.drewN nq) (HDq.out.drewN nq) HGq.out (by omega) (by omega) (by omega)
              go_wp2_with (go_at_call 68; refine halt_H ?_)
              refine resume_H ?_
              refine hT2.mono ?_
              rintro e w2 ⟨rfl, ⟨v2, r2, p2, hg2, hl2, hp2', hD2, hR2⟩, k2⟩
              have HN2 := Lib.hid (k2.fr F tF _ (by decide) (by decide) HNq.out)
              have HB2 := Lib.hid ((HBq.out.drewN nq).trans k2)
              have HR2 := Lib.hid hR2
              have hT3 := whole_any B b v2 r2 p2 w2 hD2 hg2 (by omega) (by omega)
              have hg0 : w2.cell? ⟨F, 0, none⟩ = some (.int .i64 52) := HN2.out.cell 0 rfl
              have hg1 : w2.cell? ⟨F, 1, none⟩ = some (.int .i64 11) := HN2.out.cell 1 rfl
              have hg2' : w2.cell? ⟨F, 2, none⟩ = some (.int .i64 (-1023)) := HN2.out.cell 2 rfl
              clear g0 g1 g2 hT2 hg2 hl2 hp2' hD2 k2 hR2
              go_wp2_with (go_at_call 72; refine halt_H ?_)
              refine resume_H ?_
              refine hT3.mono ?_
              rintro e w3 ⟨⟨n, hn1, hn2, hwh, rfl⟩, rfl⟩
              have HF := Lib.hid (fun x ov h => HP2.out x ov ⟨(r2, p2), n, HR2.out, hwh, h⟩)
              clear hT3 hwh
              by_cases hn : n = 9007199254740992
              · subst hn
                have hmb : (bits .and .u64 4503599627370496 4503599627370496 == 0) = false := by decide +kernel
                by_cases hE4 : 1023 ≤ E
                · have HT := Lib.hid (HF.out infN true (by unfold FinR; rw [if_pos rfl, if_pos hE4]; exact ⟨rfl, rfl⟩))
                  go_wp2_with fail
                  go_quiet (fail)
                  have HB4 := Lib.hid (HB2.out.drewN nq)
                  go_wp2
                  go_ret2
                  exact ⟨⟨_, _, HT.out, rfl⟩, HB4.out⟩
                · have hE5 : E ≤ 1022 := by omega
                  have HT := Lib.hid (HF.out (packN 4503599627370496 (E + 1)) false (by unfold FinR; rw [if_pos rfl, if_neg hE4]; exact ⟨rfl, rfl⟩))
                  clear hE4
                  go_wp2_with fail
                  go_quiet (fail)
                  have HB4 := Lib.hid (HB2.out.drewN nq)
                  go_wp2_with fail
                  go_quiet (fail)
                  have HB5 := Lib.hid (HB4.out.drewN nq)
                  go_wp2
                  go_ret2
                  exact ⟨⟨_, _, HT.out, rfl⟩, HB5.out⟩
              · have hnb : (n == 9007199254740992) = false := by rw [beq_eq_false_iff_ne]; exact hn
                have HF2 := Lib.hid (fun x ov h => HF.out x ov (by unfold FinR; rw [if_neg hn]; exact h))
                clear hn HF
                by_cases hm : bits .and .u64 n 4503599627370496 = 0
                · have hmb : (bits .and .u64 n 4503599627370496 == 0) = true := by rw [beq_iff_eq]; exact hm
                  have HT := Lib.hid (HF2.out (packN0 n) false (by rw [if_pos hm]; exact ⟨rfl, rfl⟩))
                  clear hm
                  go_wp2_with fail
                  go_quiet (fail)
                  have HB5 := Lib.hid (HB2.out.drewN nq)
                  go_wp2
                  go_ret2
                  exact ⟨⟨_, _, HT.out, rfl⟩, HB5.out⟩
                · have hmb : (bits .and .u64 n 4503599627370496 == 0) = false := by rw [beq_eq_false_iff_ne]; exact hm
                  have HT := Lib.hid (HF2.out (packN n E) false (by rw [if_neg hm]; exact ⟨rfl, rfl⟩))
                  clear hm
                  go_wp2_with fail
                  go_quiet (fail)
                  have HB5 := Lib.hid (HB2.out.drewN nq)
                  go_wp2
                  go_ret2
                  exact ⟨⟨_, _, HT.out, rfl⟩, HB5.out⟩
end Go.Proofs.YtilkcnoooecngaaGreatDoor
