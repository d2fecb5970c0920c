/- What decimals count, and what halving, doubling, shifting do to it: in plain Lean. Unrounded scaling, from above, in plain Lean: what is at least TT is found too great. -/
import Derived.Test.YtilkcnoooecngaaGreatDoorBtB
import Derived.Test.YtilkcnoooecngaaGreatDoorBtF
import GoSem.PinnedTables
namespace Go.Proofs.YtilkcnoooecngaaGreatDoor
open Go.RowKit
set_option linter.unusedVariables false
theorem vD_app (a b : List Nat) : vD (a ++ b) = vD a * 10 ^ b.length + vD b := by
  induction a with
  | nil => simp [vD]
  | cons x a ih => simp only [List.cons_append, vD, ih, List.length_append, Nat.pow_add, Nat.add_mul]; rw [Nat.mul_assoc]; omega
/-- The first i digits, 0 behind the last. -/
def pre (l : List Nat) : Nat → Nat
  | 0 => 0
  | i + 1 => pre l i * 10 + dg l i
theorem pre_take (l : List Nat) : ∀ i, i ≤ l.length → pre l i = vD (l.take i)
  | 0, _ => by simp [pre, vD]
  | i + 1, h => by
    have hi : i < l.length := by omega
    rw [pre, pre_take l i (by omega), ← List.take_append_getElem hi, vD_snoc]
    congr 1
    have := dg_in hi
    rw [List.getElem?_eq_getElem hi] at this
    exact (Option.some.inj this).symm
theorem pre_len (l : List Nat) : pre l l.length = vD l := by rw [pre_take l _ (Nat.le_refl _), List.take_length]
theorem pre_more (l : List Nat) : ∀ k, pre l (l.length + k) = vD l * 10 ^ k
  | 0 => by rw [Nat.add_zero, pre_len]; simp
  | k + 1 => by rw [← Nat.add_assoc, pre, pre_more l k, dg_out (by omega), Nat.pow_succ]; simp [Nat.mul_assoc]
theorem pre_ge (l : List Nat) {i : Nat} (h : l.length ≤ i) : pre l i = vD l * 10 ^ (i - l.length) := by
  obtain ⟨k, rfl⟩ : ∃ k, i = l.length + k := ⟨i - l.length, by omega⟩
  rw [pre_more, Nat.add_sub_cancel_left]
theorem pre_mono (l : List Nat) {i j : Nat} (h : i ≤ j) : pre l i * 10 ^ (j - i) ≤ pre l j := by
  obtain ⟨k, rfl⟩ : ∃ k, j = i + k := ⟨j - i, by omega⟩
  rw [Nat.add_sub_cancel_left]
  clear h
  induction k with
  | zero => simp
  | succ k ih =>
    rw [← Nat.add_assoc, pre, Nat.pow_succ, ← Nat.mul_assoc]
    omega
theorem hf_val {l : List Nat} {k : Nat} {s : Nat × Nat} (h : FGo (hfF l k) (0, 0) s) : s.2 = pre l s.1 := by
  induction h with
  | refl => rfl
  | step h1 h2 ih =>
    rename_i b c
    unfold fs hfF at h2
    split at h2
    · injection h2 with h2
      subst h2
      simp only [pre]
      rw [ih]
    · cases h2
theorem hs_val {l : List Nat} {k i n : Nat} (h0 : n = pre l i) {s : Nat × Nat × List Nat} (h : FGo (hsF l k) (i, n, []) s) : pre l s.1 = vD s.2.2 * 10 * 2 ^ k + s.2.1 ∧ s.1 = i + s.2.2.length := by
  induction h with
  | refl => exact ⟨by simp [vD, h0], rfl⟩
  | step h1 h2 ih =>
    rename_i b c
    unfold fs hsF at h2
    split at h2
    · injection h2 with h2
      subst h2
      obtain ⟨i1, i2⟩ := ih
      simp only [pre, i1, vD_snoc, List.length_append, List.length_singleton]
      refine ⟨?_, by omega⟩
      have := Nat.div_add_mod b.2.1 (2 ^ k)
      generalize b.2.1 / 2 ^ k = q at *
      generalize b.2.1 % 2 ^ k = r at *
      rw [← this]
      generalize 2 ^ k = p
      generalize vD b.2.2 = v
      have e1 : (v * 10 + q) * 10 * p = v * 10 * p * 10 + p * q * 10 := by
        rw [Nat.add_mul, Nat.add_mul, Nat.mul_comm p q]
        have a1 : v * 10 * 10 * p = v * 10 * p * 10 := by rw [Nat.mul_assoc (v * 10), Nat.mul_comm 10 p, ← Nat.mul_assoc]
        have a2 : q * 10 * p = q * p * 10 := by rw [Nat.mul_assoc, Nat.mul_comm 10 p, ← Nat.mul_assoc]
        omega
      rw [e1]
      omega
    · cases h2
theorem halfd_val {l r : List Nat} {k i : Nat} (h : Halfd l k r i) : l.length ≤ i + r.length ∧ vD l * 10 ^ (i + r.length - l.length) = vD r * 10 * 2 ^ k := by
  obtain ⟨n, j, a, b⟩ := h.run
  have h1 := hf_val a.1
  have h2 := hs_val h1 b.1
  simp only at h2
  obtain ⟨h2, h3⟩ := h2
  have h4 : l.length ≤ j := by
    have := b.2
    apply Decidable.byContradiction
    intro hc
    exact this _ (show fs (hsF l k) (j, 0, r) _ by unfold fs hsF; rw [if_pos (.inl (by simp; omega))])
  subst h3
  rw [pre_ge l h4] at h2
  exact ⟨h4, by rw [h2, Nat.add_zero]⟩
theorem dbl_val {l : List Nat} {p : Nat} {s : Nat × List Nat} (h : FGo (dblF l p) (0, []) s) : vD (l.drop (l.length - s.2.length)) * p = vL s.2 + 10 ^ s.2.length * s.1 := by
  induction h with
  | refl => simp [vD, vL]
  | step h1 h2 ih =>
    rename_i b c
    unfold fs dblF at h2
    split at h2
    · rename_i hj
      injection h2 with h2
      subst h2
      have e := drop_pred hj
      have hdg : dg l (l.length - 1 - b.2.length) = l[l.length - 1 - b.2.length]'(by omega) := by
        unfold dg
        rw [List.getD_eq_getElem?_getD, List.getElem?_eq_getElem (by omega)]; rfl
      simp only [List.length_append, List.length_singleton]
      rw [e, ← hdg, vL_snoc]
      simp only [vD, List.length_drop]
      rw [show l.length - (l.length - b.2.length) = b.2.length by omega, Nat.add_mul, ih, Nat.pow_succ]
      generalize dg l (l.length - 1 - b.2.length) = x
      have h3 := Nat.mod_add_div (b.1 + x * p) 10
      generalize (b.1 + x * p) % 10 = r at *
      generalize (b.1 + x * p) / 10 = q at *
      have h4 : 10 ^ b.2.length * (b.1 + x * p) = 10 ^ b.2.length * r + 10 ^ b.2.length * 10 * q := by rw [← h3, Nat.mul_add, Nat.mul_assoc]
      rw [Nat.mul_add] at h4
      have h5 : x * 10 ^ b.2.length * p = 10 ^ b.2.length * (x * p) := by rw [Nat.mul_comm x, Nat.mul_assoc]
      omega
    · split at h2
      · rename_i hj hn
        injection h2 with h2
        subst h2
        simp only [List.length_append, List.length_singleton]
        have hj' : l.length - b.2.length = 0 := by omega
        rw [show l.length - (b.2.length + 1) = 0 by omega, vL_snoc, Nat.pow_succ]
        rw [hj'] at ih
        rw [ih]
        have h3 := Nat.mod_add_div b.1 10
        generalize b.1 % 10 = r at *
        generalize b.1 / 10 = q at *
        rw [← h3, Nat.mul_add, Nat.mul_assoc]
        omega
      · cases h2
theorem vL_rev (l : List Nat) : vL l.reverse = vD l := by
  induction l with
  | nil => rfl
  | cons d l ih => rw [List.reverse_cons, vL_snoc, ih, List.length_reverse, vD, Nat.mul_comm]; omega
theorem dbld_val {l r : List Nat} {p e : Nat} (h : Dbld l p r e) : vD r = vD l * p := by
  have h1 := dbl_val h.run.1
  simp only [List.length_reverse, Nat.mul_zero, Nat.add_zero, vL_rev] at h1
  rw [show l.length - r.length = 0 by have := h.len; omega, List.drop_zero] at h1
  exact h1.symm
theorem trimD_app (r : List Nat) : ∃ m, r = trimD r ++ List.replicate m 0 := by
  induction h : r.length generalizing r with
  | zero => exact ⟨0, by rw [List.eq_nil_of_length_eq_zero h]; rfl⟩
  | succ n ih =>
    rcases snoc_cases r with rfl | ⟨r', a, rfl⟩
    · simp at h
    · by_cases ha : a = 0
      · subst ha
        obtain ⟨m, hm⟩ := ih r' (by simpa using h)
        refine ⟨m + 1, ?_⟩
        rw [trimD_snoc0, List.replicate_succ', ← List.append_assoc, ← hm]
      · exact ⟨0, by rw [trimD_snoc _ ha]; simp⟩
theorem vD_zeros (m : Nat) : vD (List.replicate m 0) = 0 := by
  induction m with
  | zero => rfl
  | succ m ih => rw [List.replicate_succ, vD, ih]; simp
/-- What a decimal counts, times 10^M. -/
def VL (M : Nat) (a : List Nat × Int) : Nat := vD a.1 * 10 ^ ((M : Int) + a.2 - a.1.length).toNat
/-- Equal, but for a power of 2: a * 2^z = b. -/
def EqE (a b : List Nat × Int) (z : Int) : Prop := ∃ M0 : Nat, ∀ M, M0 ≤ M → ∀ u v : Nat, (u : Int) - v = z → VL M a * 2 ^ u = VL M b * 2 ^ v
theorem EqE.mk {a b : List Nat × Int} {z : Int} {u0 v0 : Nat} (hz : (u0 : Int) - v0 = z) (M0 : Nat) (h : ∀ M, M0 ≤ M → VL M a * 2 ^ u0 = VL M b * 2 ^ v0) : EqE a b z := by
  refine ⟨M0, fun M hM u v huv => ?_⟩
  have h1 := h M hM
  by_cases hu : u0 ≤ u
  · obtain ⟨d, rfl⟩ : ∃ d, u = u0 + d := ⟨u - u0, by omega⟩
    obtain rfl : v = v0 + d := by omega
    rw [Nat.pow_add, Nat.pow_add, ← Nat.mul_assoc, ← Nat.mul_assoc, h1]
  · obtain ⟨d, rfl⟩ : ∃ d, u0 = u + d := ⟨u0 - u, by omega⟩
    obtain rfl : v0 = v + d := by omega
    rw [Nat.pow_add, Nat.pow_add, ← Nat.mul_assoc, ← Nat.mul_assoc] at h1
    exact Nat.eq_of_mul_eq_mul_right (Nat.two_pow_pos d) h1
theorem EqE.refl (a : List Nat × Int) : EqE a a 0 := EqE.mk (u0 := 0) (v0 := 0) rfl 0 (fun _ _ => rfl)
theorem EqE.trans {a b c : List Nat × Int} {z y : Int} (h : EqE a b z) (k : EqE b c y) : EqE a c (z + y) := by
  obtain ⟨M1, h⟩ := h
  obtain ⟨M2, k⟩ := k
  refine EqE.mk (u0 := z.toNat + y.toNat) (v0 := (-z).toNat + (-y).toNat) (by omega) (M1 + M2) (fun M hM => ?_)
  have h1 := h M (by omega) z.toNat (-z).toNat (by omega)
  have h2 := k M (by omega) y.toNat (-y).toNat (by omega)
  rw [Nat.pow_add, ← Nat.mul_assoc, h1, Nat.mul_assoc, Nat.mul_comm (2 ^ (-z).toNat), ← Nat.mul_assoc, h2, Nat.mul_assoc, ← Nat.pow_add, Nat.add_comm]
theorem VL_trim {M : Nat} (r : List Nat) (dp : Int) (hM : (r.length : Int) ≤ M + dp) : VL M (trimD r, dp) = VL M (r, dp) := by
  obtain ⟨m, hm⟩ := trimD_app r
  have hl : r.length = (trimD r).length + m := by
    have := congrArg List.length hm
    simpa using this
  have hv : vD r = vD (trimD r) * 10 ^ m := by
    have := congrArg vD hm
    rw [this, vD_app, vD_zeros, List.length_replicate, Nat.add_zero]
  simp only [VL]
  rw [hv, Nat.mul_assoc, ← Nat.pow_add]
  congr 2
  omega
theorem half_eq {k : Nat} {a b : List Nat × Int} (h : HalfR k a b) : EqE b a k := by
  obtain ⟨r, i, h, rfl⟩ := h
  obtain ⟨h1, h2⟩ := halfd_val h
  have hi := h.pos
  refine EqE.mk (u0 := k) (v0 := 0) (by omega) (a.1.length + r.length + i + a.2.natAbs) (fun M hM => ?_)
  rw [VL_trim _ _ (by omega)]
  obtain ⟨l, dp⟩ := a
  simp only [VL, Nat.pow_zero, Nat.mul_one] at *
  obtain ⟨t, ht⟩ : ∃ t : Nat, (t : Int) = (M : Int) + dp - i - r.length := ⟨((M : Int) + dp - i - r.length).toNat, by omega⟩
  rw [show ((M : Int) + (dp - (↑i - 1)) - ↑r.length).toNat = t + 1 by omega, show ((M : Int) + dp - ↑l.length).toNat = (i + r.length - l.length) + t by omega]
  rw [Nat.pow_add 10 (i + r.length - l.length), ← Nat.mul_assoc, h2, Nat.pow_succ]
  ac_rfl
theorem dbl_eq {k : Nat} {a b : List Nat × Int} (h : DblR k a b) : EqE b a (-(k : Int)) := by
  obtain ⟨r, e, h, rfl⟩ := h
  have h2 := dbld_val h
  have hl := h.len
  refine EqE.mk (u0 := 0) (v0 := k) (by omega) (a.1.length + r.length + a.2.natAbs) (fun M hM => ?_)
  rw [VL_trim _ _ (by omega)]
  obtain ⟨l, dp⟩ := a
  simp only [VL, Nat.pow_zero, Nat.mul_one] at *
  rw [show ((M : Int) + (dp + ↑e) - ↑r.length).toNat = ((M : Int) + dp - ↑l.length).toNat by omega, h2, Nat.mul_assoc, Nat.mul_comm (2 ^ k), Nat.mul_assoc]
theorem shift_eq {z : Int} {a b : List Nat × Int} (h : ShiftR z a b) : EqE b a (-z) := by
  induction h with
  | up hz h k ih => have := ih.trans (dbl_eq h); exact cast (by congr 1; omega) this
  | down hz h k ih => have := ih.trans (half_eq h); exact cast (by congr 1; omega) this
  | dbl k hz h0 h1 h => subst hz; exact dbl_eq h
  | hlf k hz h0 h1 h => subst hz; rw [Int.neg_neg]; exact half_eq h
  | non hz => subst hz; exact EqE.refl _
/-- The least value that rounds to what is too great. -/
def E970 : Nat := 970
def E310 : Nat := 310
def TT : Nat := 18014398509481983 * 2 ^ E970
def GeT (a : List Nat × Int) : Prop := ∃ M0 : Nat, ∀ M, M0 ≤ M → TT * 10 ^ M ≤ VL M a
theorem pow2_of (a b n : Nat) (h : n = a * b) : (2 : Nat) ^ n = (2 ^ a) ^ b := by rw [h, Nat.pow_mul]
theorem pow10_of (a b c d n : Nat) (h : n = a + (b + c * d)) : (10 : Nat) ^ n = 10 ^ a * (10 ^ b * (10 ^ c) ^ d) := by rw [h, Nat.pow_add, Nat.pow_add, Nat.pow_mul]
theorem TT_le : TT ≤ 10 ^ E310 := by
  have h1 : (2 : Nat) ^ E970 ≤ 10 ^ 33 * (10 ^ 26) ^ 10 := by
    have e1 : (2 : Nat) ^ E970 = (2 ^ 97) ^ 10 := pow2_of 97 10 E970 rfl
    have e2 : (2 : Nat) ^ 97 ≤ 1585 * 10 ^ 26 := by decide
    have e4 : (1585 : Nat) ^ 10 ≤ 10 ^ 33 := by decide
    rw [e1]
    refine Nat.le_trans (Nat.pow_le_pow_left e2 10) ?_
    rw [Nat.mul_pow]
    exact Nat.mul_le_mul_right _ e4
  have e5 : (18014398509481983 : Nat) ≤ 10 ^ 17 := by decide
  unfold TT
  generalize 2 ^ E970 = P at *
  rw [pow10_of 17 33 26 10 E310 rfl]
  exact Nat.mul_le_mul e5 h1
theorem GeT.of_eq {a b : List Nat × Int} (h : EqE a b 0) (k : GeT a) : GeT b := by
  obtain ⟨M1, h⟩ := h
  obtain ⟨M2, k⟩ := k
  refine ⟨M1 + M2, fun M hM => ?_⟩
  have := h M (by omega) 0 0 rfl
  simp only [Nat.pow_zero, Nat.mul_one] at this
  rw [← this]
  exact k M (by omega)
theorem b1_eq {x s : Int × List Nat × Int} (h : Goes b1 x s) : EqE s.2 x.2 (s.1 - x.1) := by
  induction h with
  | refl => rw [Int.sub_self]; exact EqE.refl _
  | step h1 h2 ih =>
    obtain ⟨_, k, _, hR, he⟩ := h2
    have := (half_eq hR).trans ih
    exact cast (by congr 1; omega) this
theorem b2_eq {x s : Int × List Nat × Int} (h : Goes b2 x s) : EqE s.2 x.2 (s.1 - x.1) := by
  induction h with
  | refl => rw [Int.sub_self]; exact EqE.refl _
  | step h1 h2 ih =>
    obtain ⟨_, k, _, hR, he⟩ := h2
    have := (dbl_eq hR).trans ih
    exact cast (by congr 1; omega) this
theorem vD_hd {l : List Nat} {c : Nat} (h : c ≤ hd l) (hc : 0 < c) : c * 10 ^ l.length ≤ vD l * 10 := by
  cases l with
  | nil => simp [hd] at h; omega
  | cons d t =>
    have h1 := vD_ge d t
    simp only [hd] at h
    have h2 : c * 10 ^ t.length ≤ d * 10 ^ t.length := Nat.mul_le_mul_right _ h
    rw [List.length_cons, Nat.pow_succ, ← Nat.mul_assoc]
    omega
/-- At least one half. -/
theorem VL_half {a : List Nat × Int} (h : ¬ (a.2 < 0 ∨ hd a.1 < 5)) {M : Nat} (hM : a.1.length ≤ M) : 10 ^ M ≤ VL M a * 2 := by
  obtain ⟨l, dp⟩ := a
  simp only [VL] at *
  have h1 := vD_hd (l := l) (c := 5) (by omega) (by decide)
  obtain ⟨t, ht⟩ : ∃ t : Nat, ((M : Int) + dp - l.length).toNat = t := ⟨_, rfl⟩
  have h2 : 10 ^ M ≤ 10 ^ l.length * 10 ^ t := by rw [← Nat.pow_add]; exact Nat.pow_le_pow_right (by decide) (by omega)
  rw [ht]
  have h3 : 5 * 10 ^ l.length * 10 ^ t ≤ vD l * 10 * 10 ^ t := Nat.mul_le_mul_right _ h1
  have e1 : 5 * 10 ^ l.length * 10 ^ t = (10 ^ l.length * 10 ^ t) * 5 := by ac_rfl
  have e2 : vD l * 10 * 10 ^ t = vD l * 10 ^ t * 10 := by ac_rfl
  rw [e1, e2] at h3
  omega
theorem wh_val {ds : List Nat} {dp : Int} {s : Int × Int} (h : FGo (whF ds dp) (0, 0) s) : 0 ≤ s.2 ∧ (s.2 ≤ max dp 0) ∧ s.1 = ((pre ds s.2.toNat % 18446744073709551616 : Nat) : Int) := by
  induction h with
  | refl => exact ⟨by decide, by simp; omega, rfl⟩
  | step h1 h2 ih =>
    rename_i b c
    unfold fs whF at h2
    split at h2
    · injection h2 with h2
      subst h2
      obtain ⟨i1, i2, i3⟩ := ih
      simp only
      refine ⟨by omega, by omega, ?_⟩
      obtain ⟨j, hj⟩ : ∃ j : Nat, b.2 = j := ⟨b.2.toNat, by omega⟩
      rw [i3, hj, dgI_nat, show ((j : Int) + 1).toNat = j + 1 by omega, Int.toNat_natCast, pre, IntKind.wrap_u64, IntKind.wrap_u64]
      omega
    · cases h2
theorem VL_pre {ds : List Nat} {dp : Int} {j M : Nat} (hj : (j : Int) ≤ dp) (hM : ds.length ≤ M) : pre ds j * 10 ^ M ≤ VL M (ds, dp) := by
  simp only [VL]
  by_cases hl : ds.length ≤ j
  · rw [pre_ge ds hl, Nat.mul_assoc, ← Nat.pow_add]
    exact Nat.mul_le_mul_left _ (Nat.pow_le_pow_right (by decide) (by omega))
  · have h1 := pre_mono ds (show j ≤ ds.length by omega)
    rw [pre_len] at h1
    have h2 := Nat.mul_le_mul_right (10 ^ ((M : Int) + dp - ds.length).toNat) h1
    rw [Nat.mul_assoc, ← Nat.pow_add] at h2
    exact Nat.le_trans (Nat.mul_le_mul_left _ (Nat.pow_le_pow_right (by decide) (by omega))) h2
theorem near_ge {ds : List Nat} {dp : Int} (h : nearF ds dp = true) : 0 ≤ dp ∧ dp.toNat < ds.length ∧ 5 ≤ dg ds dp.toNat := by
  unfold nearF at h
  split at h
  · rename_i h0
    refine ⟨h0.1, h0.2, ?_⟩
    split at h
    · omega
    · have := of_decide_eq_true h
      omega
  · cases h
theorem VL_near {ds : List Nat} {dp : Int} {M : Nat} (h : nearF ds dp = true) (hM : ds.length ≤ M) : (2 * pre ds dp.toNat + 1) * 10 ^ M ≤ 2 * VL M (ds, dp) := by
  obtain ⟨h0, h1, h2⟩ := near_ge h
  obtain ⟨j, rfl⟩ : ∃ j : Nat, dp = j := ⟨dp.toNat, by omega⟩
  rw [Int.toNat_natCast] at *
  have h3 : pre ds (j + 1) = pre ds j * 10 + dg ds j := rfl
  have h4 := pre_mono ds (show j + 1 ≤ ds.length by omega)
  rw [pre_len] at h4
  simp only [VL]
  obtain ⟨t, ht⟩ : ∃ t : Nat, ((M : Int) + j - ds.length).toNat = t := ⟨_, rfl⟩
  rw [ht]
  have h5 := Nat.mul_le_mul_right (10 ^ t) h4
  rw [Nat.mul_assoc, ← Nat.pow_add] at h5
  have h6 : 10 ^ M = 10 ^ (ds.length - (j + 1) + t) * 10 := by rw [← Nat.pow_succ]; congr 1; omega
  rw [h6]
  have h7 : (pre ds j * 10 + 5) * 10 ^ (ds.length - (j + 1) + t) ≤ pre ds (j + 1) * 10 ^ (ds.length - (j + 1) + t) := Nat.mul_le_mul_right _ (by omega)
  generalize 10 ^ (ds.length - (j + 1) + t) = p at *
  have e : (2 * pre ds j + 1) * (p * 10) = 2 * ((pre ds j * 10 + 5) * p) := by
    rw [Nat.add_mul, Nat.add_mul, Nat.mul_add]
    have : 2 * pre ds j * (p * 10) = 2 * (pre ds j * 10 * p) := by ac_rfl
    omega
  omega
/-- Where the nearest whole number of a decimal is 2^53, it is at least 2^53 - 1/2. -/
theorem whole_ge {ds : List Nat} {dp : Int} (h : WholeR ds dp 9007199254740992) {M : Nat} (hM : ds.length ≤ M) : 18014398509481983 * 10 ^ M ≤ 2 * VL M (ds, dp) := by
  obtain ⟨n, i, hd, hm⟩ := h
  obtain ⟨h0, h1, h2⟩ := wh_val hd.1
  have hi : dp ≤ i := by
    apply Decidable.byContradiction
    intro hc
    exact hd.2 _ (show fs (whF ds dp) (n, i) _ by unfold fs whF; rw [if_pos (by omega)])
  simp only at h0 h1 h2
  by_cases hp : 0 ≤ dp
  · obtain rfl : i = dp := by omega
    by_cases hn : nearF ds i = true
    · rw [if_pos hn, IntKind.wrap_u64, h2] at hm
      have h3 := VL_near hn hM
      have h4 : 9007199254740991 ≤ pre ds i.toNat := by omega
      exact Nat.le_trans (Nat.mul_le_mul_right _ (by omega)) h3
    · rw [if_neg hn, h2] at hm
      have h3 := VL_pre (j := i.toNat) (dp := i) (ds := ds) (by omega) hM
      have h4 : 9007199254740992 ≤ pre ds i.toNat := by omega
      have h5 : 9007199254740992 * 10 ^ M ≤ pre ds i.toNat * 10 ^ M := Nat.mul_le_mul_right _ h4
      generalize 10 ^ M = p at *
      omega
  · exfalso
    obtain rfl : i = 0 := by omega
    have hn : nearF ds dp = false := near_neg hp
    rw [hn, h2] at hm
    simp [pre] at hm
/-- Where bits tells 'over', the decimal is at least TT. -/
theorem bits_over {ds : List Nat} {dp n : Int} (hg : Good ds) (h : BitsR ds dp n true) : GeT (ds, dp) := by
  rcases h with ⟨_, _, h⟩ | ⟨⟨h0, h1⟩, _⟩ | ⟨_, s1, s2, h1, h2, h3⟩
  · cases h
  · refine ⟨ds.length, fun M hM => ?_⟩
    have hh : 1 ≤ hd ds := by
      obtain ⟨_, d, t, rfl, hd0⟩ := hg
      simp only [hd]; omega
    have h2 := vD_hd hh (by decide)
    simp only [VL]
    obtain ⟨t, ht⟩ : ∃ t : Nat, ((M : Int) + dp - ds.length).toNat = t := ⟨_, rfl⟩
    rw [ht]
    have h3 := Nat.mul_le_mul_right (10 ^ t) h2
    have h4 : 10 ^ E310 * 10 ^ M * 10 ≤ 1 * 10 ^ ds.length * 10 ^ t := by
      rw [Nat.one_mul, ← Nat.pow_add, ← Nat.pow_add, ← Nat.pow_succ]
      exact Nat.pow_le_pow_right (by decide) (by unfold E310; omega)
    have h6 : TT * 10 ^ M ≤ 10 ^ E310 * 10 ^ M := Nat.mul_le_mul_right _ TT_le
    have e2 : vD ds * 10 * 10 ^ t = vD ds * 10 ^ t * 10 := by ac_rfl
    rw [e2] at h3
    generalize 10 ^ E310 * 10 ^ M = q at *
    omega
  · obtain ⟨hhalf, h3⟩ := h3
    have e1 := b1_eq h1.1
    have e2 := b2_eq h2.1
    have e := e2.trans e1
    simp only at e
    rw [show s2.1 - s1.1 + (s1.1 - 0) = s2.1 by omega] at e
    rcases h3 with ⟨h0, c, h4, h5⟩ | ⟨h0, h5⟩
    · exfalso
      rcases h5 with ⟨h6, _⟩ | ⟨h6, d, m, _, _, h7⟩
      · omega
      · unfold FinR at h7
        split at h7
        · split at h7
          · omega
          · cases h7.2
        · split at h7 <;> cases h7.2
    · obtain ⟨M0, e⟩ := e
      rcases h5 with ⟨h6, _⟩ | ⟨h6, d, m, h7, h8, h9⟩
      · refine ⟨M0 + s2.2.1.length, fun M hM => ?_⟩
        have h10 := VL_half hhalf (M := M) (by omega)
        have h11 := e M (by omega) s2.1.toNat 0 (by omega)
        rw [Nat.pow_zero, Nat.mul_one] at h11
        rw [← h11]
        have h12 : 2 ^ (55 + E970) ≤ 2 ^ s2.1.toNat := Nat.pow_le_pow_right (by decide) (by unfold E970; omega)
        have h13 : 10 ^ M * 2 ^ (55 + E970) ≤ VL M s2.2 * 2 * 2 ^ s2.1.toNat := Nat.mul_le_mul h10 h12
        have h14 : TT * 2 ≤ 2 ^ (55 + E970) := by
          unfold TT
          rw [Nat.pow_add]
          have h0 : (18014398509481983 : Nat) * 2 ≤ 2 ^ 55 := by decide
          generalize 2 ^ E970 = P at *
          have := Nat.mul_le_mul_right P h0
          rw [Nat.mul_right_comm] at this
          exact this
        generalize 2 ^ (55 + E970) = q at *
        have h15 : TT * 2 * 10 ^ M ≤ q * 10 ^ M := Nat.mul_le_mul_right _ h14
        have a1 : TT * 2 * 10 ^ M = TT * 10 ^ M * 2 := Nat.mul_right_comm _ _ _
        have a2 : 10 ^ M * q = q * 10 ^ M := Nat.mul_comm _ _
        have a3 : VL M s2.2 * 2 * 2 ^ s2.1.toNat = VL M s2.2 * 2 ^ s2.1.toNat * 2 := Nat.mul_right_comm _ _ _
        omega
      · unfold FinR at h9
        split at h9
        · rename_i hm
          subst hm
          split at h9
          · have hE : s2.1 = 1024 := by omega
            obtain ⟨M1, e3⟩ := shift_eq h7
            refine ⟨M0 + M1 + d.1.length, fun M hM => ?_⟩
            have h10 := whole_ge h8 (M := M) (by omega)
            have h11 := e M (by omega) (54 + E970) 0 (by unfold E970; omega)
            have h12 := e3 M (by omega) 0 53 (by omega)
            rw [Nat.pow_zero, Nat.mul_one] at h11 h12
            rw [← h11]
            have h13 : VL M (d.1, d.2) = VL M d := rfl
            rw [h13, h12] at h10
            have h14 := Nat.mul_le_mul_right (2 ^ E970) h10
            have a1 : 18014398509481983 * 10 ^ M * 2 ^ E970 = TT * 10 ^ M := by
              unfold TT
              exact Nat.mul_right_comm _ _ _
            have a2 : 2 * (VL M s2.2 * 2 ^ 53) * 2 ^ E970 = VL M s2.2 * 2 ^ (54 + E970) := by
              rw [Nat.pow_add]
              generalize 2 ^ E970 = P
              rw [← Nat.mul_assoc (VL M s2.2), show 2 * (VL M s2.2 * 2 ^ 53) = VL M s2.2 * 2 ^ 54 by omega]
            rw [a1, a2] at h14
            exact h14
          · cases h9.2
        · split at h9 <;> cases h9.2
end Go.Proofs.YtilkcnoooecngaaGreatDoor
namespace Go.Proofs.YtilkcnoooecngaaGreatDoor
set_option linter.unusedVariables false
def rowT (i : Nat) : Nat × Nat := Go.Pinned.pow10Rows.getD i (0, 0)
theorem rows_len : Go.Pinned.pow10Rows.length = 696 := by decide +kernel
theorem rows_ok : ∀ x ∈ Go.Pinned.pow10Rows, 9223372036854775808 ≤ x.1 ∧ x.1 ≤ 18445618173802708992 ∧ x.2 < 18446744073709551616 := by decide +kernel
theorem rowT_ok {i : Nat} (h : i < 696) : 9223372036854775808 ≤ (rowT i).1 ∧ (rowT i).1 ≤ 18445618173802708992 ∧ (rowT i).2 < 18446744073709551616 := by
  have h' : i < Go.Pinned.pow10Rows.length := by rw [rows_len]; exact h
  refine rows_ok _ ?_
  unfold rowT
  rw [List.getD_eq_getElem?_getD, List.getElem?_eq_getElem h']
  exact List.getElem_mem h'
def lpN (p : Nat) : Nat := p * 108853 / 32768
def upOk (i : Nat) : Bool := Nat.ble (10 ^ (289 + i)) (((rowT (637 + i)).1 * 18446744073709551616 - (rowT (637 + i)).2) * 2 ^ (lpN (289 + i) - 127)) && Nat.ble (2 ^ 127) ((rowT (637 + i)).1 * 18446744073709551616 - (rowT (637 + i)).2) && Nat.ble 127 (lpN (289 + i)) && Nat.ble (lpN (289 + i)) 1090
theorem up_all : ∀ i : Fin 22, upOk i = true := by decide +kernel
theorem up_row {p : Nat} (h1 : 289 ≤ p) (h2 : p ≤ 310) : 10 ^ p ≤ ((rowT (p + 348)).1 * 18446744073709551616 - (rowT (p + 348)).2) * 2 ^ (lpN p - 127) ∧ 2 ^ 127 ≤ (rowT (p + 348)).1 * 18446744073709551616 - (rowT (p + 348)).2 ∧ 127 ≤ lpN p ∧ lpN p ≤ 1090 := by
  have h := up_all ⟨p - 289, by omega⟩
  unfold upOk at h
  simp only [Bool.and_eq_true, Nat.ble_eq] at h
  rw [show 289 + (p - 289) = p by omega, show 637 + (p - 289) = p + 348 by omega] at h
  exact ⟨h.1.1.1, h.1.1.2, h.1.2, h.2⟩
theorem or1_le (a : Nat) : a ≤ a ||| 1 ∧ a ||| 1 ≤ a + 1 := by
  have h1 : a ≤ a ||| 1 := Nat.left_le_or
  refine ⟨h1, ?_⟩
  have h2 : (a ||| 1) >>> 1 = a >>> 1 := by
    rw [Nat.shiftRight_or_distrib]; simp
  rw [Nat.shiftRight_eq_div_pow, Nat.shiftRight_eq_div_pow] at h2
  omega
theorem or0_le (a : Nat) (c : Prop) [Decidable c] : a ≤ a ||| (if c then 1 else 0) ∧ a ||| (if c then 1 else 0) ≤ a + 1 := by
  split
  · exact or1_le a
  · simp
/-- uscale. -/
def uS (x hi lo s : Nat) : Nat :=
  if x * hi / 18446744073709551616 / 2 ^ s * 2 ^ s ≠ x * hi / 18446744073709551616 then x * hi / 18446744073709551616 / 2 ^ s ||| 1
  else (x * hi / 18446744073709551616 - (if x * hi % 18446744073709551616 < x * lo / 18446744073709551616 then 1 else 0)) / 2 ^ s ||| (if 1 < (x * hi % 18446744073709551616 + 18446744073709551616 - x * lo / 18446744073709551616) % 18446744073709551616 then 1 else 0)
theorem uS_ge (x hi lo s : Nat) (hlo : lo ≤ hi * 18446744073709551616) : x * (hi * 18446744073709551616 - lo) / 340282366920938463463374607431768211456 / 2 ^ s ≤ uS x hi lo s := by
  have e0 : x * (hi * 18446744073709551616 - lo) = x * hi * 18446744073709551616 - x * lo := by rw [Nat.mul_sub, Nat.mul_assoc]
  rw [e0]
  generalize hP : x * hi = P
  generalize hR : x * lo = R
  have hd := Nat.div_add_mod P 18446744073709551616
  have hm := Nat.mod_lt P (show 0 < 18446744073709551616 by decide)
  have hr := Nat.div_add_mod R 18446744073709551616
  have hr2 := Nat.mod_lt R (show 0 < 18446744073709551616 by decide)
  unfold uS
  rw [hP, hR]
  generalize P / 18446744073709551616 = h at *
  generalize P % 18446744073709551616 = m at *
  generalize R / 18446744073709551616 = r at *
  generalize R % 18446744073709551616 = r2 at *
  have hle : (P * 18446744073709551616 - R) / 340282366920938463463374607431768211456 ≤ h := by omega
  have hle2 : m < r → (P * 18446744073709551616 - R) / 340282366920938463463374607431768211456 ≤ h - 1 := by omega
  split
  · exact Nat.le_trans (Nat.div_le_div_right hle) (or1_le _).1
  · refine Nat.le_trans (Nat.div_le_div_right ?_) (or0_le _ _).1
    split
    · rename_i hmr
      exact hle2 hmr
    · exact hle
theorem uS_le (x hi lo s : Nat) (hx : x < 18446744073709551616) : uS x hi lo s ≤ hi / 2 ^ s + 1 := by
  have h1 : x * hi / 18446744073709551616 ≤ hi := by
    have : x * hi ≤ 18446744073709551616 * hi := Nat.mul_le_mul_right _ (by omega)
    omega
  unfold uS
  split
  · exact Nat.le_trans (or1_le _).2 (Nat.add_le_add_right (Nat.div_le_div_right h1) 1)
  · refine Nat.le_trans (or0_le _ _).2 (Nat.add_le_add_right (Nat.div_le_div_right ?_) 1)
    omega
/-- What is rounded. -/
def s1N (u : Nat) : Nat := if 36028797018963966 ≤ u then 1 else 0
def u1N (u : Nat) : Nat := u / 2 ^ s1N u ||| u % 2
def rndN (u : Nat) : Nat := (u + 1 + u / 4 % 2) / 4
theorem orm_le (a b : Nat) (hb : b < 2) : a ≤ a ||| b ∧ a ||| b ≤ a + 1 := by
  have : b = 0 ∨ b = 1 := by omega
  rcases this with rfl | rfl
  · simp
  · exact or1_le a
theorem or_mod2 (u : Nat) : u ||| u % 2 = u := by
  have h := Nat.mod_two_eq_zero_or_one u
  rcases h with h | h
  · rw [h]; simp
  · rw [h]
    have h2 : (u ||| 1) >>> 1 = u >>> 1 := by
      rw [Nat.shiftRight_or_distrib]; simp
    rw [Nat.shiftRight_eq_div_pow, Nat.shiftRight_eq_div_pow] at h2
    have h3 := or1_le u
    omega
theorem u1N_0 {u : Nat} (h : u < 36028797018963966) : u1N u = u := by
  unfold u1N s1N
  rw [if_neg (by omega), Nat.pow_zero, Nat.div_one, or_mod2]
theorem u1N_1 {u : Nat} (h : 36028797018963966 ≤ u) : u / 2 ≤ u1N u ∧ u1N u ≤ u / 2 + 1 := by
  unfold u1N s1N
  rw [if_pos h, Nat.pow_one]
  exact orm_le _ _ (Nat.mod_lt _ (by decide))
theorem rnd_lt {u : Nat} (h : u ≤ 72053195991416833) : rndN (u1N u) < 9007199254740992 := by
  unfold rndN
  by_cases h1 : u < 36028797018963966
  · rw [u1N_0 h1]; omega
  · have := u1N_1 (show 36028797018963966 ≤ u by omega)
    omega
theorem rnd_ge {u : Nat} (h : 18014398509481984 ≤ u) : 4503599627370496 ≤ rndN (u1N u) := by
  unfold rndN
  by_cases h1 : u < 36028797018963966
  · rw [u1N_0 h1]; omega
  · have := u1N_1 (show 36028797018963966 ≤ u by omega)
    omega
theorem u_bound {x hi lo s : Nat} (hx : x < 18446744073709551616) (hh : hi ≤ 18445618173802708992) (hs : 8 ≤ s) : uS x hi lo s ≤ 72053195991416833 := by
  refine Nat.le_trans (uS_le x hi lo s hx) ?_
  have h1 : 2 ^ 8 ≤ 2 ^ s := Nat.pow_le_pow_right (by decide) hs
  have h2 : hi / 2 ^ s ≤ hi / 2 ^ 8 := Nat.div_le_div_left h1 (by decide)
  omega
def E288 : Nat := 288
theorem TT_big : 18446744073709551616 * 10 ^ E288 < TT := by decide +kernel
theorem T_p {d p : Nat} (hd : d < 18446744073709551616) (h : TT ≤ d * 10 ^ p) : 289 ≤ p := by
  apply Decidable.byContradiction
  intro hc
  have h1 : 10 ^ p ≤ 10 ^ E288 := Nat.pow_le_pow_right (by decide) (by unfold E288; omega)
  have h2 : d * 10 ^ p ≤ 18446744073709551616 * 10 ^ E288 := Nat.mul_le_mul (by omega) h1
  have := TT_big
  omega
/-- What is at least TT is found too great: d * 10^p, d of b bits. -/
theorem u_over {d b p : Nat} (hb : 1 ≤ b) (hb2 : b ≤ 64) (h1 : 2 ^ (b - 1) ≤ d) (h2 : d < 2 ^ b) (hp : 289 ≤ p) (hp2 : p ≤ 310) (hT : TT ≤ d * 10 ^ p) :
    18014398509481984 ≤ uS (d * 2 ^ (64 - b)) (rowT (p + 348)).1 (rowT (p + 348)).2 8 ∧ (b + lpN p = 1024 ∧ 36028797018963966 ≤ uS (d * 2 ^ (64 - b)) (rowT (p + 348)).1 (rowT (p + 348)).2 8 ∨ 1025 ≤ b + lpN p) := by
  obtain ⟨k1, k2, k3, k4⟩ := up_row hp hp2
  obtain ⟨r1, r2, r3⟩ := rowT_ok (show p + 348 < 696 by omega)
  have hge := uS_ge (d * 2 ^ (64 - b)) (rowT (p + 348)).1 (rowT (p + 348)).2 8 (by omega)
  generalize (rowT (p + 348)).1 = hi at *
  generalize (rowT (p + 348)).2 = lo at *
  generalize uS (d * 2 ^ (64 - b)) hi lo 8 = u at *
  generalize hQ : hi * 18446744073709551616 - lo = Q at *
  generalize hL : lpN p = L at *
  obtain ⟨x, hx⟩ : ∃ x, d * 2 ^ (64 - b) = x := ⟨_, rfl⟩
  have hx1 : 9223372036854775808 ≤ x := by
    rw [← hx]
    have : 2 ^ (b - 1) * 2 ^ (64 - b) ≤ d * 2 ^ (64 - b) := Nat.mul_le_mul_right _ h1
    rw [← Nat.pow_add, show b - 1 + (64 - b) = 63 by omega] at this
    exact this
  have hx2 : x < 18446744073709551616 := by
    rw [← hx]
    have : d * 2 ^ (64 - b) < 2 ^ b * 2 ^ (64 - b) := Nat.mul_lt_mul_of_pos_right h2 (Nat.two_pow_pos _)
    rw [← Nat.pow_add, show b + (64 - b) = 64 by omega] at this
    exact this
  have key : 18014398509481983 * 2 ^ (1161 - (b + L)) ≤ x * Q := by
    have a1 : TT * 2 ^ (64 - b) ≤ d * 10 ^ p * 2 ^ (64 - b) := Nat.mul_le_mul_right _ hT
    have a2 : d * 10 ^ p * 2 ^ (64 - b) ≤ d * (Q * 2 ^ (L - 127)) * 2 ^ (64 - b) := Nat.mul_le_mul_right _ (Nat.mul_le_mul_left _ k1)
    have a3 : d * (Q * 2 ^ (L - 127)) * 2 ^ (64 - b) = x * Q * 2 ^ (L - 127) := by rw [← hx, Nat.mul_right_comm d, ← Nat.mul_assoc]
    have a4 : TT * 2 ^ (64 - b) = 18014398509481983 * 2 ^ (1161 - (b + L)) * 2 ^ (L - 127) := by
      unfold TT
      have e : E970 + (64 - b) = 1161 - (b + L) + (L - 127) := by unfold E970; omega
      rw [Nat.mul_assoc, ← Nat.pow_add, Nat.mul_assoc, ← Nat.pow_add, e]
    rw [a3] at a2
    rw [a4] at a1
    exact Nat.le_of_mul_le_mul_right (Nat.le_trans a1 a2) (Nat.two_pow_pos _)
  have hQ2 : Q ≤ hi * 18446744073709551616 := by omega
  have hxQ : x * Q < 18446744073709551616 * (18445618173802708992 * 18446744073709551616) :=
    Nat.lt_of_le_of_lt (Nat.mul_le_mul_left x (Nat.le_trans hQ2 (Nat.mul_le_mul_right _ r2))) (Nat.mul_lt_mul_of_pos_right hx2 (by decide))
  have hlow : 9223372036854775808 * 2 ^ 127 ≤ x * Q := Nat.mul_le_mul hx1 k2
  rw [hx] at hge
  generalize x * Q = Z at *
  have hc : 1024 ≤ b + L := by
    apply Decidable.byContradiction
    intro hc
    have a1 : 2 ^ 138 ≤ 2 ^ (1161 - (b + L)) := Nat.pow_le_pow_right (by decide) (by omega)
    have a2 : 18014398509481983 * 2 ^ 138 ≤ 18014398509481983 * 2 ^ (1161 - (b + L)) := Nat.mul_le_mul_left _ a1
    omega
  refine ⟨by omega, ?_⟩
  by_cases h24 : b + L = 1024
  · refine .inl ⟨h24, ?_⟩
    rw [h24] at key
    omega
  · exact .inr (by omega)
end Go.Proofs.YtilkcnoooecngaaGreatDoor
