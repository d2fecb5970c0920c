/- Go's own decimals: Shift; what is at least TT stays so behind a cut at 800 digits. Go's own decimals: Shift, walked. Up to 59 to the left, up to 200000 to the right. Go's own shouldRoundUp, RoundedInteger. Points from -1000000 to 1000000. What floatBits keeps, in plain Lean. Go's own floatBits, its first loop. -/
import Derived.Test.YtilkcnoooecngaaGreatDoorSdH
import Derived.WalkMore
namespace Go.Proofs.YtilkcnoooecngaaGreatDoor
open Go.RowKit
set_option linter.unusedVariables false
def RsV (k : Nat) (a b : List Nat × Int) : Prop := ∃ r i, SHd a.1 k r i ∧ b = (trimD (r.take 800), a.2 - ((i : Int) - 1))
def LsV (k : Nat) (a b : List Nat × Int) : Prop := ∃ r E, Dbld a.1 (2 ^ k) r E ∧ b = (trimD (r.take 800), a.2 + (E : Int))
/-- value * 2^e is at least TT. -/
def GeE (a : List Nat × Int) (e : Int) : Prop := ∃ M0 : Nat, ∀ M, M0 ≤ M → ∀ u v : Nat, (u : Int) - v = e → TT * 10 ^ M * 2 ^ v ≤ VL M a * 2 ^ u
/-- value * 2^e is at most 10^310. -/
def LeE (a : List Nat × Int) (e : Int) : Prop := ∃ M0 : Nat, ∀ M, M0 ≤ M → ∀ u v : Nat, (u : Int) - v = e → VL M a * 2 ^ u ≤ 10 ^ (M + E310) * 2 ^ v
theorem GeT.geE {a : List Nat × Int} (h : GeT a) : GeE a 0 := by
  obtain ⟨M0, h⟩ := h
  refine ⟨M0, fun M hM u v huv => ?_⟩
  obtain rfl : u = v := by omega
  exact Nat.mul_le_mul_right _ (h M hM)
theorem GeE.geT {a : List Nat × Int} (h : GeE a 0) : GeT a := by
  obtain ⟨M0, h⟩ := h
  refine ⟨M0, fun M hM => ?_⟩
  have := h M hM 0 0 rfl
  simpa using this
theorem GeE.eq {a b : List Nat × Int} {e z : Int} (h : GeE a e) (k : EqE b a z) : GeE b (e + z) := by
  obtain ⟨M1, h⟩ := h
  obtain ⟨M2, k⟩ := k
  refine ⟨M1 + M2, fun M hM u v huv => ?_⟩
  have h1 := h M (by omega) (e.toNat) ((-e).toNat) (by omega)
  have h2 := k M (by omega) (z.toNat) ((-z).toNat) (by omega)
  generalize TT * 10 ^ M = X at *
  have h3 : X * 2 ^ (-e).toNat * 2 ^ (-z).toNat ≤ VL M b * 2 ^ z.toNat * 2 ^ e.toNat := by
    rw [h2, Nat.mul_right_comm (VL M a)]
    exact Nat.mul_le_mul_right _ h1
  rw [Nat.mul_assoc, ← Nat.pow_add, Nat.mul_assoc, ← Nat.pow_add] at h3
  obtain ⟨s, hs⟩ : ∃ s, z.toNat + e.toNat = s := ⟨_, rfl⟩
  obtain ⟨t, ht⟩ : ∃ t, (-e).toNat + (-z).toNat = t := ⟨_, rfl⟩
  rw [hs, ht] at h3
  have hst : (u : Int) - v = (s : Int) - t := by omega
  have h4 : X * 2 ^ t * 2 ^ u ≤ VL M b * 2 ^ s * 2 ^ u := Nat.mul_le_mul_right _ h3
  have e1 : X * 2 ^ t * 2 ^ u = X * 2 ^ v * 2 ^ s := by rw [Nat.mul_assoc, ← Nat.pow_add, Nat.mul_assoc, ← Nat.pow_add, show t + u = v + s by omega]
  have e2 : VL M b * 2 ^ s * 2 ^ u = VL M b * 2 ^ u * 2 ^ s := Nat.mul_right_comm _ _ _
  rw [e1, e2] at h4
  exact Nat.le_of_mul_le_mul_right h4 (Nat.two_pow_pos s)
theorem LeE.eq {a b : List Nat × Int} {e z : Int} (h : LeE a e) (k : EqE b a z) : LeE b (e + z) := by
  obtain ⟨M1, h⟩ := h
  obtain ⟨M2, k⟩ := k
  refine ⟨M1 + M2, fun M hM u v huv => ?_⟩
  have h1 := h M (by omega) (e.toNat) ((-e).toNat) (by omega)
  have h2 := k M (by omega) (z.toNat) ((-z).toNat) (by omega)
  have h3 : VL M b * 2 ^ z.toNat * 2 ^ e.toNat ≤ 10 ^ (M + E310) * 2 ^ (-e).toNat * 2 ^ (-z).toNat := by
    rw [h2, Nat.mul_right_comm (VL M a)]
    exact Nat.mul_le_mul_right _ h1
  rw [Nat.mul_assoc, ← Nat.pow_add, Nat.mul_assoc, ← Nat.pow_add] at h3
  generalize 10 ^ (M + E310) = X at *
  obtain ⟨s, hs⟩ : ∃ s, z.toNat + e.toNat = s := ⟨_, rfl⟩
  obtain ⟨t, ht⟩ : ∃ t, (-e).toNat + (-z).toNat = t := ⟨_, rfl⟩
  rw [hs, ht] at h3
  have hst : (u : Int) - v = (s : Int) - t := by omega
  have h4 : VL M b * 2 ^ s * 2 ^ u ≤ X * 2 ^ t * 2 ^ u := Nat.mul_le_mul_right _ h3
  have e1 : X * 2 ^ t * 2 ^ u = X * 2 ^ v * 2 ^ s := by rw [Nat.mul_assoc, ← Nat.pow_add, Nat.mul_assoc, ← Nat.pow_add, show t + u = v + s by omega]
  have e2 : VL M b * 2 ^ s * 2 ^ u = VL M b * 2 ^ u * 2 ^ s := Nat.mul_right_comm _ _ _
  rw [e1, e2] at h4
  exact Nat.le_of_mul_le_mul_right h4 (Nat.two_pow_pos s)
theorem take_val (r : List Nat) (hd : Dig r) (h : 800 < r.length) : vD (r.take 800) * 10 ^ (r.length - 800) ≤ vD r ∧ vD r < (vD (r.take 800) + 1) * 10 ^ (r.length - 800) := by
  have e : r = r.take 800 ++ r.drop 800 := (List.take_append_drop 800 r).symm
  have hb : (r.drop 800).length = r.length - 800 := by simp
  have hl := vD_lt (a := r.drop 800) (fun x hx => hd x (List.mem_of_mem_drop hx))
  have hv : vD r = vD (r.take 800) * 10 ^ (r.length - 800) + vD (r.drop 800) := by
    conv => lhs; rw [e, vD_app, hb]
  rw [hb] at hl
  rw [hv, Nat.add_mul]
  omega
theorem mul5 (a P G A F : Nat) : a * P * (A * (G * F)) = a * (P * G) * F * A := by ac_rfl
theorem mul5b (a B C F A : Nat) : a * (B * C) * F * A = a * B * F * (A * C) := by ac_rfl
theorem GeE.cut {r : List Nat} {dp e : Int} (hd : Dig r) (h : GeE (r, dp) e) (he : 0 ≤ e) (he2 : e ≤ 1300) (hdp : -1000000 ≤ dp ∧ dp ≤ 400) : GeE (r.take 800, dp) e := by
  by_cases hl : r.length ≤ 800
  · rw [List.take_of_length_le hl]; exact h
  obtain ⟨t1, t2⟩ := take_val r hd (by omega)
  obtain ⟨M0, h⟩ := h
  refine ⟨M0 + r.length + 1000800, fun M hM u v huv => ?_⟩
  have h1 := h M (by omega) e.toNat 0 (by omega)
  rw [Nat.pow_zero, Nat.mul_one] at h1
  have hlen : (r.take 800).length = 800 := by rw [List.length_take]; omega
  simp only [VL, hlen] at h1 ⊢
  obtain ⟨a, ha⟩ : ∃ a : Nat, (a : Int) = (M : Int) + dp - r.length := ⟨((M : Int) + dp - r.length).toNat, by omega⟩
  rw [show ((M : Int) + dp - r.length).toNat = a by omega] at h1
  rw [show ((M : Int) + dp - (800 : Nat)).toNat = (r.length - 800) + a by omega]
  obtain ⟨E, hE⟩ : ∃ E : Nat, (E : Int) = e := ⟨e.toNat, by omega⟩
  rw [show e.toNat = E by omega] at h1
  -- Q divides X
  have hX : ∃ c, TT * 10 ^ M = c * (10 ^ ((r.length - 800) + a) * 2 ^ E) := by
    refine ⟨18014398509481983 * 2 ^ (E970 + (M - ((r.length - 800) + a)) - E) * 5 ^ (M - ((r.length - 800) + a)), ?_⟩
    obtain ⟨g, hg⟩ : ∃ g, M - ((r.length - 800) + a) = g := ⟨_, rfl⟩
    rw [hg]
    have hM2 : M = (r.length - 800) + a + g := by omega
    have hg4 : 400 ≤ g := by omega
    have e1 : (10 : Nat) ^ M = 10 ^ ((r.length - 800) + a) * (2 ^ g * 5 ^ g) := by rw [← Nat.mul_pow, hM2, Nat.pow_add 10 (r.length - 800 + a)]
    have e2 : (2 : Nat) ^ E970 * 2 ^ g = 2 ^ (E970 + g - E) * 2 ^ E := by rw [← Nat.pow_add, ← Nat.pow_add]; congr 1; unfold E970; omega
    unfold TT
    rw [e1]
    generalize 10 ^ (r.length - 800 + a) = A
    generalize (5 : Nat) ^ g = F
    rw [mul5, e2, mul5b]
  obtain ⟨c, hc⟩ := hX
  have hlt : vD r * 10 ^ a * 2 ^ E < (vD (r.take 800) + 1) * (10 ^ ((r.length - 800) + a) * 2 ^ E) := by
    have h2 : vD r * (10 ^ a * 2 ^ E) < (vD (r.take 800) + 1) * 10 ^ (r.length - 800) * (10 ^ a * 2 ^ E) := Nat.mul_lt_mul_of_pos_right t2 (Nat.mul_pos (Nat.pow_pos (by decide)) (Nat.two_pow_pos _))
    have e1 : vD r * 10 ^ a * 2 ^ E = vD r * (10 ^ a * 2 ^ E) := Nat.mul_assoc _ _ _
    have e2 : (vD (r.take 800) + 1) * (10 ^ ((r.length - 800) + a) * 2 ^ E) = (vD (r.take 800) + 1) * 10 ^ (r.length - 800) * (10 ^ a * 2 ^ E) := by rw [Nat.pow_add, Nat.mul_assoc (10 ^ (r.length - 800)), Nat.mul_assoc (vD (r.take 800) + 1)]
    rw [e1, e2]; exact h2
  have hcv : c < vD (r.take 800) + 1 := by
    rw [hc] at h1
    exact Nat.lt_of_mul_lt_mul_right (Nat.lt_of_le_of_lt h1 hlt)
  have h5 : c * (10 ^ ((r.length - 800) + a) * 2 ^ E) ≤ vD (r.take 800) * (10 ^ ((r.length - 800) + a) * 2 ^ E) := Nat.mul_le_mul_right _ (by omega)
  rw [← hc, ← Nat.mul_assoc] at h5
  have h6 := Nat.mul_le_mul_right (2 ^ v) h5
  rw [Nat.mul_assoc _ (2 ^ E), ← Nat.pow_add, show E + v = u by omega] at h6
  exact h6
theorem LeE.cut {r : List Nat} {dp e : Int} (hd : Dig r) (h : LeE (r, dp) e) : LeE (r.take 800, dp) e := by
  by_cases hl : r.length ≤ 800
  · rw [List.take_of_length_le hl]; exact h
  obtain ⟨t1, t2⟩ := take_val r hd (by omega)
  obtain ⟨M0, h⟩ := h
  refine ⟨M0 + r.length + 800 + dp.natAbs, fun M hM u v huv => Nat.le_trans (Nat.mul_le_mul_right _ ?_) (h M (by omega) u v huv)⟩
  have hlen : (r.take 800).length = 800 := by rw [List.length_take]; omega
  simp only [VL, hlen]
  obtain ⟨a, ha⟩ : ∃ a : Nat, (a : Int) = (M : Int) + dp - r.length := ⟨((M : Int) + dp - r.length).toNat, by omega⟩
  rw [show ((M : Int) + dp - r.length).toNat = a by omega, show ((M : Int) + dp - (800 : Nat)).toNat = (r.length - 800) + a by omega, Nat.pow_add, ← Nat.mul_assoc]
  exact Nat.mul_le_mul_right _ t1
theorem EqE.trim (r : List Nat) (dp : Int) : EqE (trimD r, dp) (r, dp) 0 := EqE.mk (u0 := 0) (v0 := 0) rfl (r.length + dp.natAbs) (fun M hM => by rw [VL_trim _ _ (by omega)])
theorem shd_eq {l r : List Nat} {k i : Nat} {dp : Int} (h : SHd l k r i) : EqE (r, dp - ((i : Int) - 1)) (l, dp) k := by
  have h1 := h.low
  have h2 := h.val
  have hi := h.pos
  refine EqE.mk (u0 := k) (v0 := 0) (by omega) (l.length + r.length + i + dp.natAbs) (fun M hM => ?_)
  simp only [VL, Nat.pow_zero, Nat.mul_one] at *
  obtain ⟨t, ht⟩ : ∃ t : Nat, (t : Int) = (M : Int) + dp - i - r.length := ⟨((M : Int) + dp - i - r.length).toNat, by omega⟩
  rw [show ((M : Int) + (dp - (↑i - 1)) - ↑r.length).toNat = t + 1 by omega, show ((M : Int) + dp - ↑l.length).toNat = (i + r.length - l.length) + t by omega]
  rw [Nat.pow_add 10 (i + r.length - l.length), ← Nat.mul_assoc, h2, Nat.pow_succ]
  ac_rfl
theorem RsV.ge {k : Nat} {a b : List Nat × Int} {e : Int} (h : RsV k a b) (g : GeE a e) (he : 0 ≤ e) (he2 : e + k ≤ 1300) (hdp : -900000 ≤ a.2 ∧ a.2 ≤ 400) : GeE b (e + k) := by
  obtain ⟨r, i, hs, rfl⟩ := h
  have h1 := g.eq (shd_eq (dp := a.2) hs)
  have hi := hs.pos
  have hf := hs.few
  have h2 := h1.cut hs.good.1 (by omega) he2 (by omega)
  have h3 := h2.eq (EqE.trim _ _)
  rwa [Int.add_zero] at h3
theorem RsV.le {k : Nat} {a b : List Nat × Int} {e : Int} (h : RsV k a b) (g : LeE a e) : LeE b (e + k) := by
  obtain ⟨r, i, hs, rfl⟩ := h
  have h1 := g.eq (shd_eq (dp := a.2) hs)
  have h2 := h1.cut hs.good.1
  have h3 := h2.eq (EqE.trim _ _)
  rwa [Int.add_zero] at h3
theorem LsV.ge {k : Nat} {a b : List Nat × Int} {e : Int} (h : LsV k a b) (g : GeE a e) (he : 0 ≤ e - k) (he2 : e ≤ 1300) (hdp : -900000 ≤ a.2 ∧ a.2 ≤ 300) : GeE b (e - k) := by
  obtain ⟨r, E, hs, rfl⟩ := h
  have hE := hs.few
  have e1 : EqE (r, a.2 + (E : Int)) a (-(k : Int)) := by
    have h2 := dbld_val hs
    have hl := hs.len
    refine EqE.mk (u0 := 0) (v0 := k) (by omega) (a.1.length + r.length + a.2.natAbs) (fun M hM => ?_)
    obtain ⟨l, dp⟩ := a
    simp only [VL, Nat.pow_zero, Nat.mul_one] at *
    rw [show ((M : Int) + (dp + ↑E) - ↑r.length).toNat = ((M : Int) + dp - ↑l.length).toNat by omega, h2, Nat.mul_assoc, Nat.mul_comm (2 ^ k), Nat.mul_assoc]
  have h1 := g.eq e1
  have h2 := h1.cut hs.good.1 (by omega) (by omega) (by omega)
  have h3 := h2.eq (EqE.trim _ _)
  rw [Int.add_zero] at h3
  exact cast (by congr 1) h3
end Go.Proofs.YtilkcnoooecngaaGreatDoor
namespace Go.Proofs.YtilkcnoooecngaaGreatDoor
open Go.RowKit
set_option linter.unusedVariables false
/-- A decimal of some digits, none of them cut away wrongly. -/
def SDL (w : World) (b : Nat) (l : List Nat) (dp : Int) (ng : Bool) : Prop := ∃ (D : Nat → Nat) (tr : Bool), SD w b D (l.length : Int) dp ng tr ∧ Rep D l ∧ l.length ≤ 800 ∧ Good l
theorem cut_len (r : List Nat) : (trimD (r.take 800)).length ≤ 800 := Nat.le_trans (trimD_len _) (by rw [List.length_take]; omega)
theorem rs_step {b k : Nat} {l : List Nat} {dp : Int} {ng : Bool} {w : World} (h : SDL w b l dp ng) (hk1 : 1 ≤ k) (hk2 : k ≤ 60) (hdp : -1000000 ≤ dp ∧ dp ≤ 1000000) :
    Calls Tryz.prog 100 #[.pointer (some ⟨b, 0, none⟩), .int .u64 (k : Int)] w fun e w' => e = .returned (.tuple #[]) ∧ Put w w' b ∧ ∃ l' dp', RsV k (l, dp) (l', dp') ∧ dp - 19 ≤ dp' ∧ dp' ≤ dp ∧ SDL w' b l' dp' ng := by
  obtain ⟨D, tr, h1, h2, h3, h4⟩ := h
  refine (rs_any b k D l dp ng tr w h1 h2 h3 h4 hk1 hk2 hdp).mono ?_
  rintro e w' ⟨rfl, p, r, i, D', tr', hs, hD, hR⟩
  have hi := hs.pos
  have hf := hs.few
  exact ⟨rfl, p, _, _, ⟨r, i, hs, rfl⟩, by omega, by omega, D', tr', hD, hR, cut_len r, (trimD_good (good_take hs.good)).1⟩
theorem ls_step {b k cb co cap : Nat} {l : List Nat} {dp : Int} {ng : Bool} {w : World} (h : SDL w b l dp ng) (hk1 : 1 ≤ k) (hk2 : k ≤ 59) (hdp : -1000000 ≤ dp ∧ dp ≤ 1000000) (hC : SCh w cb co cap) :
    Calls Tryz.prog 99 #[.pointer (some ⟨b, 0, none⟩), .int .u64 (k : Int)] w fun e w' => e = .returned (.tuple #[]) ∧ Put w w' b ∧ ∃ l' dp', LsV k (l, dp) (l', dp') ∧ dp ≤ dp' ∧ dp' ≤ dp + 18 ∧ SDL w' b l' dp' ng := by
  obtain ⟨D, tr, h1, h2, h3, h4⟩ := h
  refine (ls_any b k cb co cap D l dp ng tr w h1 h2 h3 h4 hk1 hk2 hdp hC).mono ?_
  rintro e w' ⟨rfl, p, r, E, D', tr', hs, hD, hR⟩
  have hf := hs.few
  exact ⟨rfl, p, _, _, ⟨r, E, hs, rfl⟩, by omega, by omega, D', tr', hD, hR, cut_len r, (trimD_good (good_take hs.good)).1⟩
theorem SDL.cnd {w : World} {b : Nat} {l : List Nat} {dp : Int} {ng : Bool} (h : SDL w b l dp ng) : w.cell? ⟨b, 800, none⟩ = some (.int .i64 (l.length : Int)) := by
  obtain ⟨D, tr, h1, _⟩ := h
  exact h1.cnd
theorem SDL.cdp {w : World} {b : Nat} {l : List Nat} {dp : Int} {ng : Bool} (h : SDL w b l dp ng) : w.cell? ⟨b, 801, none⟩ = some (.int .i64 dp) := by
  obtain ⟨D, tr, h1, _⟩ := h
  exact h1.cdp
theorem SDL.cng {w : World} {b : Nat} {l : List Nat} {dp : Int} {ng : Bool} (h : SDL w b l dp ng) : w.cell? ⟨b, 802, none⟩ = some (.bool ng) := by
  obtain ⟨D, tr, h1, _⟩ := h
  exact h1.cng
theorem SDL.head {w : World} {b : Nat} {l : List Nat} {dp : Int} {ng : Bool} (h : SDL w b l dp ng) : w.cell? ⟨b, 0, none⟩ = some (.int .u8 ((hd l + 48 : Nat) : Int)) := by
  obtain ⟨D, tr, h1, h2, _, _, d, t, rfl, _⟩ := h
  have := h1.cdig (i := 0) (by decide)
  rw [h2 0 (by simp)] at this
  exact this
theorem SDL.pos {w : World} {b : Nat} {l : List Nat} {dp : Int} {ng : Bool} (h : SDL w b l dp ng) : 1 ≤ l.length ∧ l.length ≤ 800 := by
  obtain ⟨D, tr, _, _, h3, _, d, t, rfl, _⟩ := h
  exact ⟨by simp, h3⟩
theorem SDL.good {w : World} {b : Nat} {l : List Nat} {dp : Int} {ng : Bool} (h : SDL w b l dp ng) : Good l := by
  obtain ⟨D, tr, _, _, _, h⟩ := h
  exact h
theorem SDL.lt {w : World} {b : Nat} {l : List Nat} {dp : Int} {ng : Bool} (h : SDL w b l dp ng) : b < w.heap.size := by
  obtain ⟨D, tr, h, _⟩ := h
  exact h.blk.lt
set_option maxHeartbeats 2000000 in
set_option maxRecDepth 100000 in
theorem sshl_any {b k cb co cap : Nat} {l : List Nat} {dp : Int} {ng : Bool} {w : World} (h : SDL w b l dp ng) (hk1 : 1 ≤ k) (hk2 : k ≤ 59) (hdp : -1000000 ≤ dp ∧ dp ≤ 1000000) (hC : SCh w cb co cap) :
    Calls Tryz.prog 86 #[.pointer (some ⟨b, 0, none⟩), .int .i64 (k : Int)] w fun e w' => e = .returned (.tuple #[]) ∧ Put w w' b ∧ ∃ l' dp', LsV k (l, dp) (l', dp') ∧ dp ≤ dp' ∧ dp' ≤ dp + 18 ∧ SDL w' b l' dp' ng := by
  have f0 := h.cnd
  obtain ⟨hp1, hp2⟩ := h.pos
  have hT := ls_step h hk1 hk2 hdp hC
  obtain ⟨L, hL⟩ : ∃ L, l.length = L := ⟨_, rfl⟩
  rw [hL] at f0 hp1 hp2
  have e0 : ((L : Int) == 0) = false := by rw [beq_eq_false_iff_ne]; omega
  clear h hL hC
  go_enter Tryz.func86, Tryz.ntmps86
  go_wp2_with fail
  go_loopw [1] (fun kv wr => kv = .int .i64 (k : Int) ∧ wr = w) (fun _ _ => 0)
  case atStart => exact ⟨rfl, rfl⟩
  case round =>
    obtain ⟨rfl, rfl⟩ := hrel
    go_wp2_with (go_at_call 99; refine halt_H ?_)
    refine resume_H ?_
    refine hT.mono ?_
    rintro e w2 ⟨rfl, p, l', dp', h1, h2, h3, h4⟩
    go_wp2
    go_end0
    exact ⟨rfl, p, l', dp', h1, h2, h3, h4⟩
def SrRet (b k : Nat) (l : List Nat) (dp : Int) (ng : Bool) (w : World) (e : Ending) (w' : World) : Prop :=
  e = .returned (.tuple #[]) ∧ Put w w' b ∧ ∃ l' dp', (k ≤ 60 → RsV k (l, dp) (l', dp')) ∧ dp - k - 20 ≤ dp' ∧ dp' ≤ dp ∧ SDL w' b l' dp' ng
set_option maxHeartbeats 2000000 in
set_option maxRecDepth 100000 in
theorem sshr_any {b k : Nat} {l : List Nat} {dp : Int} {ng : Bool} {w : World} (h : SDL w b l dp ng) (hk1 : 1 ≤ k) (hk2 : k ≤ 200000) (hdp : -500000 ≤ dp ∧ dp ≤ 500000) :
    Calls Tryz.prog 86 #[.pointer (some ⟨b, 0, none⟩), .int .i64 (-(k : Int))] w (SrRet b k l dp ng w) := by
  have f0 := h.cnd
  obtain ⟨hp1, hp2⟩ := h.pos
  obtain ⟨hdp1, hdp2⟩ := hdp
  have HD := Lib.hid h
  obtain ⟨L, hL⟩ : ∃ L, l.length = L := ⟨_, rfl⟩
  rw [hL] at f0 hp1 hp2
  have e0 : ((L : Int) == 0) = false := by rw [beq_eq_false_iff_ne]; omega
  have g1 : decide (0 < k) = true := decide_eq_true (by omega)
  have g2 : decide ((k : Int) < 0) = false := decide_eq_false (by omega)
  clear h hL
  go_enter Tryz.func86, Tryz.ntmps86
  go_wp2_with fail
  go_loopw [1] (fun kv wr => ∃ (j : Nat) (l' : List Nat) (dp' : Int), kv = .int .i64 (-(j : Int)) ∧ 1 ≤ j ∧ j ≤ 200000 ∧ Hid (j ≤ k ∧ (k ≤ 60 → j = k ∧ l' = l ∧ dp' = dp) ∧ dp - (k - j) ≤ dp' ∧ dp' ≤ dp) ∧ Hid (SDL wr b l' dp' ng) ∧ Hid (Put w wr b)) (fun kv _ => (-(intOf kv)).toNat)
  case atStart => exact ⟨k, l, dp, rfl, hk1, hk2, Lib.hid ⟨Nat.le_refl _, fun _ => ⟨rfl, rfl, rfl⟩, by omega, Int.le_refl _⟩, HD, Lib.hid (Put.refl _ _)⟩
  case round =>
    clear f0 HD
    obtain ⟨j, l', dp', rfl, hj1, hj2, HJ, HD, HK⟩ := hrel
    obtain ⟨wr, rfl⟩ : ∃ wz : World, wz = wr := ⟨_, rfl⟩
    by_cases h60 : 60 < j
    · have hT := rs_step (k := 60) HD.out (by decide) (by decide) ⟨by have := HJ.out; omega, by have := HJ.out; omega⟩
      go_wp2_with (go_at_call 100; refine halt_H ?_)
      refine resume_H ?_
      refine hT.mono ?_
      rintro e w2 ⟨rfl, p, l2, dp2, h1, h2, h3, h4⟩
      have HJ2 := Lib.hid (show j - 60 ≤ k ∧ (k ≤ 60 → j - 60 = k ∧ l2 = l ∧ dp2 = dp) ∧ dp - (k - (j - 60 : Nat)) ≤ dp2 ∧ dp2 ≤ dp by
        have := HJ.out
        refine ⟨by omega, fun h => by omega, by omega, by omega⟩)
      have HD2 := Lib.hid h4
      have HK2 := Lib.hid (HK.out.trans p)
      clear hT p h1 h2 h3 h4
      go_wp2_with fail
      go_roundw
      case rel => exact ⟨j - 60, l2, dp2, congrArg (Value.int .i64) (by omega), by omega, by omega, HJ2, HD2, HK2⟩
      case measure => simp [intOf]; omega
    · have hT := rs_step (k := j) HD.out hj1 (by omega) ⟨by have := HJ.out; omega, by have := HJ.out; omega⟩
      go_wp2_with (go_at_call 100; refine halt_H ?_)
      refine resume_H ?_
      refine hT.mono ?_
      rintro e w2 ⟨rfl, p, l2, dp2, h1, h2, h3, h4⟩
      have HF := Lib.hid (show SrRet b k l dp ng w (.returned (.tuple #[])) w2 from ⟨rfl, HK.out.trans p, l2, dp2, fun hk => by
        obtain ⟨_, g, _⟩ := HJ.out
        obtain ⟨rfl, rfl, rfl⟩ := g hk
        exact h1, by have := HJ.out; omega, by have := HJ.out; omega, h4⟩)
      clear hT p h1 h2 h3 h4
      go_wp2
      go_end0
      exact HF.out
end Go.Proofs.YtilkcnoooecngaaGreatDoor
namespace Go.Proofs.YtilkcnoooecngaaGreatDoor
open Go.RowKit
set_option linter.unusedVariables false
/-- Digits are cut at n: it must be rounded up. -/
def UpAt (l : List Nat) (n : Int) : Prop := 0 ≤ n ∧ n.toNat < l.length ∧ 5 ≤ dg l n.toNat ∧ pre l n.toNat % 2 = 1
def SruRet (l : List Nat) (n : Int) (w : World) (e : Ending) (w' : World) : Prop := ∃ up : Bool, e = .returned (.bool up) ∧ (UpAt l n → up = true) ∧ w' = w
set_option maxHeartbeats 2000000 in
set_option maxRecDepth 100000 in
theorem sru_any {b : Nat} {l : List Nat} {dp : Int} {ng : Bool} {w : World} (h : SDL w b l dp ng) (n : Int) (hn : -1000000 ≤ n ∧ n ≤ 1000000) :
    Calls Tryz.prog 101 #[.pointer (some ⟨b, 0, none⟩), .int .i64 n] w (SruRet l n w) := by
  obtain ⟨hn1, hn2⟩ := hn
  obtain ⟨D, tr, hD, hR, hl, hg⟩ := h
  have f0 := hD.cnd
  have f3 := hD.ctr
  obtain ⟨L, hL⟩ : ∃ L, l.length = L := ⟨_, rfl⟩
  rw [hL] at f0 hl
  have HL := Lib.hid hL
  have HD := Lib.hid hD
  have HR := Lib.hid hR
  have HG := Lib.hid hg
  clear hD hR hg hL
  by_cases h0 : n < 0
  · have HU := Lib.hid (show UpAt l n → (false = true) from fun h => by have := h.1; omega)
    go_enter Tryz.func101, Tryz.ntmps101
    go_wp2
    go_ret
    exact ⟨false, rfl, HU.out, rfl⟩
  · obtain ⟨j, rfl⟩ : ∃ j : Nat, n = j := ⟨n.toNat, by omega⟩
    by_cases hj : L ≤ j
    · have HU := Lib.hid (show UpAt l (j : Int) → (false = true) from fun h => by have := h.2.1; have := HL.out; simp at *; omega)
      go_enter Tryz.func101, Tryz.ntmps101
      go_wp2
      go_ret
      exact ⟨false, rfl, HU.out, rfl⟩
    · have hj8 : j < 800 := by omega
      have f1 := HD.out.cdig hj8
      rw [HR.out j (by rw [HL.out]; omega)] at f1
      have hx10 := dg_lt HG.out.1 j
      have HX := Lib.hid (show UpAt l (j : Int) → 5 ≤ dg l j ∧ pre l j % 2 = 1 from fun h => ⟨by simpa using h.2.2.1, by simpa using h.2.2.2⟩)
      generalize dg l j = x at *
      by_cases h5 : x = 5
      · subst h5
        by_cases hjL : j + 1 = L
        · have q1 : ((j : Int) + 1 == (L : Int)) = true := by rw [beq_iff_eq]; omega
          have HJL := Lib.hid hjL
          clear hjL
          cases tr
          · by_cases hj0 : j = 0
            · subst hj0
              obtain rfl : L = 1 := by have := HJL.out; omega
              clear q1
              have HU := Lib.hid (show UpAt l ((0 : Nat) : Int) → (false = true) from fun h => by have := (HX.out h).2; simp [pre] at this)
              go_enter Tryz.func101, Tryz.ntmps101
              go_wp2
              go_ret
              exact ⟨false, rfl, HU.out, rfl⟩
            · obtain ⟨i, hi⟩ : ∃ i, i + 1 = j := ⟨j - 1, by omega⟩
              have hji : (j : Int) - 1 = (i : Int) := by omega
              have hi8 : i < 800 := by omega
              have HIJ := Lib.hid hi
              have f4 := HD.out.cdig hi8
              rw [HR.out i (by rw [HL.out]; omega)] at f4
              have hy10 := dg_lt HG.out.1 i
              have HY := Lib.hid (show UpAt l (j : Int) → dg l i % 2 = 1 from fun h => by have := (HX.out h).2; rw [← HIJ.out] at this; simp only [pre] at this; omega)
              generalize dg l i = y at *
              obtain ⟨r, hr⟩ : ∃ r, y % 2 = r := ⟨_, rfl⟩
              have hrI : (y : Int) % 2 = (r : Int) := by omega
              have hr2 : r < 2 := by omega
              have hj0' : 0 < j := by omega
              have HU := Lib.hid (show UpAt l (j : Int) → (((r : Int) != 0) = true) from fun h => by have := HY.out h; rw [bne_iff_ne]; omega)
              clear hj0 hr HY hi
              go_enter Tryz.func101, Tryz.ntmps101
              go_wp2
              go_ret
              exact ⟨_, rfl, HU.out, rfl⟩
          · go_enter Tryz.func101, Tryz.ntmps101
            go_wp2
            go_ret
            exact ⟨true, rfl, fun _ => rfl, rfl⟩
        · have q1 : ((j : Int) + 1 == (L : Int)) = false := by rw [beq_eq_false_iff_ne]; omega
          go_enter Tryz.func101, Tryz.ntmps101
          go_wp2
          go_ret
          exact ⟨true, rfl, fun _ => rfl, rfl⟩
      · have q0 : ((x : Int) + 48 == 53) = false := by rw [beq_eq_false_iff_ne]; omega
        have HU := Lib.hid (show UpAt l (j : Int) → decide ((x : Int) + 48 ≥ 53) = true from fun h => decide_eq_true (by have := (HX.out h).1; omega))
        clear h5
        go_enter Tryz.func101, Tryz.ntmps101
        go_wp2
        go_ret
        exact ⟨_, rfl, HU.out, rfl⟩
def RiRet (l : List Nat) (dp : Int) (w : World) (e : Ending) (w' : World) : Prop := ∃ m : Nat, e = .returned (.int .u64 (m : Int)) ∧ m < 18446744073709551616 ∧ (dp ≤ 20 → UpAt l dp → pre l dp.toNat = 9007199254740991 → m = 9007199254740992) ∧ w' = w
set_option maxHeartbeats 4000000 in
set_option maxRecDepth 100000 in
theorem ri_any {b : Nat} {l : List Nat} {dp : Int} {ng : Bool} {w : World} (h : SDL w b l dp ng) (hdp : -1000000 ≤ dp ∧ dp ≤ 1000000) :
    Calls Tryz.prog 87 #[.pointer (some ⟨b, 0, none⟩)] w (RiRet l dp w) := by
  have hT := sru_any h dp hdp
  obtain ⟨hdp1, hdp2⟩ := hdp
  obtain ⟨D, tr, hD, hR, hl, hg⟩ := h
  have f0 := hD.cnd
  have f2 := hD.cdp
  obtain ⟨L, hL⟩ : ∃ L, l.length = L := ⟨_, rfl⟩
  rw [hL] at f0 hl
  have HL := Lib.hid hL
  have HD := Lib.hid hD
  have HR := Lib.hid hR
  have HG := Lib.hid hg
  clear hD hR hg hL
  by_cases h20 : dp > 20
  · have HX := Lib.hid h20
    go_enter Tryz.func87, Tryz.ntmps87
    go_wp2
    go_ret
    exact ⟨18446744073709551615, rfl, by decide, fun h => by have := HX.out; omega, rfl⟩
  · go_enter Tryz.func87, Tryz.ntmps87
    go_upto_block 0 with fail
    go_cut [3, 4] (fun x3 x4 wx => ∃ (i n : Nat), x3 = .int .i64 (i : Int) ∧ x4 = .int .u64 (n : Int) ∧ i ≤ 20 ∧ n < 18446744073709551616 ∧ Hid (n = pre l i % 18446744073709551616 ∧ (dp ≤ i ∨ L ≤ i) ∧ ((i : Int) ≤ dp ∨ i = 0)) ∧ wx = w)
    case first =>
      as_aux_lemma =>
      go_wp2_with fail
      go_loopw [3, 4] (fun iv nv wr => ∃ (i n : Nat), iv = .int .i64 (i : Int) ∧ nv = .int .u64 (n : Int) ∧ i ≤ 20 ∧ n < 18446744073709551616 ∧ Hid (n = pre l i % 18446744073709551616) ∧ Hid ((i : Int) ≤ dp ∨ i = 0) ∧ wr = w) (fun iv _ _ => 20 - (intOf iv).toNat)
      case atStart => exact ⟨0, 0, rfl, rfl, by omega, by decide, Lib.hid rfl, Lib.hid (.inr rfl), rfl⟩
      case round =>
        obtain ⟨i, n, rfl, rfl, hi, hn, HN, HI, rfl⟩ := hrel
        by_cases hlt : (i : Int) < dp
        · by_cases hiL : i < L
          · have f1 := HD.out.cdig (i := i) (by omega)
            rw [HR.out i (by rw [HL.out]; omega)] at f1
            have hx10 := dg_lt HG.out.1 i
            have HP := Lib.hid (show pre l (i + 1) = pre l i * 10 + dg l i from rfl)
            generalize dg l i = x at *
            obtain ⟨n2, hn2⟩ : ∃ n2, n * 10 % 18446744073709551616 = n2 := ⟨_, rfl⟩
            have hw1 : IntKind.u64.wrap ((n : Int) * 10) = (n2 : Int) := by rw [IntKind.wrap_u64]; omega
            obtain ⟨n3, hn3⟩ : ∃ n3, (n2 + x) % 18446744073709551616 = n3 := ⟨_, rfl⟩
            have hw2 : IntKind.u64.wrap ((n2 : Int) + (x : Int)) = (n3 : Int) := by rw [IntKind.wrap_u64]; omega
            have HN3 := Lib.hid (show n3 < 18446744073709551616 ∧ n3 = pre l (i + 1) % 18446744073709551616 by rw [HP.out]; have := HN.out; omega)
            clear hn2 hn3
            go_wp2_with fail
            go_roundw
            case rel => exact ⟨i + 1, n3, by go_num, by first | rfl | (rw [hw1, hw2]), by omega, HN3.out.1, Lib.hid HN3.out.2, Lib.hid (.inl (by omega)), trivial⟩
            case measure => simp [intOf]; omega
          · go_wp2_with fail
            go_meet
            exact ⟨i, n, rfl, rfl, hi, hn, Lib.hid ⟨HN.out, .inr (by omega), HI.out⟩, rfl⟩
        · go_wp2_with fail
          go_meet
          exact ⟨i, n, rfl, rfl, hi, hn, Lib.hid ⟨HN.out, .inl (by omega), HI.out⟩, rfl⟩
    case rest =>
    as_aux_lemma =>
    obtain ⟨i, n, rfl, rfl, hi, hn, HN, rfl⟩ := hcut
    obtain ⟨w, rfl⟩ : ∃ z : World, z = wc := ⟨_, rfl⟩
    have HI0 := Lib.hid hi
    have Hn0 := Lib.hid hn
    go_wp2_with fail
    go_loopw [3, 4] (fun iv nv wr => ∃ (j n : Nat), iv = .int .i64 (j : Int) ∧ nv = .int .u64 (n : Int) ∧ j ≤ 20 ∧ n < 18446744073709551616 ∧ Hid (n = pre l j % 18446744073709551616) ∧ Hid ((j : Int) ≤ dp ∨ j = 0) ∧ Hid (dp ≤ j ∨ L ≤ j) ∧ wr = w) (fun iv _ _ => 20 - (intOf iv).toNat)
    case atStart => exact ⟨i, n, rfl, rfl, hi, hn, Lib.hid HN.out.1, Lib.hid HN.out.2.2, Lib.hid HN.out.2.1, rfl⟩
    case round =>
      clear hn HN HI0 Hn0
      obtain ⟨j, n, rfl, rfl, hj, hn, HN, HJ, HJL, rfl⟩ := hrel
      by_cases hlt : (j : Int) < dp
      · obtain ⟨n2, hn2⟩ : ∃ n2, n * 10 % 18446744073709551616 = n2 := ⟨_, rfl⟩
        have hw1 : IntKind.u64.wrap ((n : Int) * 10) = (n2 : Int) := by rw [IntKind.wrap_u64]; omega
        have HN3 := Lib.hid (show n2 < 18446744073709551616 ∧ n2 = pre l (j + 1) % 18446744073709551616 by
          have e : pre l (j + 1) = pre l j * 10 + dg l j := rfl
          rw [dg_out (by have := HJL.out; rw [HL.out]; omega)] at e
          rw [e]; have := HN.out; omega)
        have HJL2 := Lib.hid (show dp ≤ ((j + 1 : Nat) : Int) ∨ L ≤ j + 1 by have := HJL.out; omega)
        clear hn2
        go_wp2_with fail
        go_roundw
        case rel => exact ⟨j + 1, n2, by go_num, by first | rfl | (rw [hw1]), by omega, HN3.out.1, Lib.hid HN3.out.2, Lib.hid (.inl (by omega)), HJL2, trivial⟩
        case measure => simp [intOf]; omega
      · have HE := Lib.hid (show 0 ≤ dp → dp.toNat = j from fun h => by have := HJ.out; omega)
        go_wp2_with (go_at_call 101; refine halt_H ?_)
        refine resume_H ?_
        refine hT.mono ?_
        rintro e w2 ⟨up, rfl, hup, rfl⟩
        have HUp := Lib.hid hup
        clear hT hup
        cases up
        · go_wp2
          go_ret
          exact ⟨n, rfl, hn, fun _ h _ => absurd (HUp.out h) (by decide), rfl⟩
        · obtain ⟨n2, hn2⟩ : ∃ n2, (n + 1) % 18446744073709551616 = n2 := ⟨_, rfl⟩
          have hw1 : IntKind.u64.wrap ((n : Int) + 1) = (n2 : Int) := by rw [IntKind.wrap_u64]; omega
          have HN2 := Lib.hid (show n2 < 18446744073709551616 ∧ (dp ≤ 20 → UpAt l dp → pre l dp.toNat = 9007199254740991 → n2 = 9007199254740992) from ⟨by omega, fun _ hu hp => by
            rw [HE.out hu.1] at hp
            have := HN.out
            omega⟩)
          clear hn2
          go_wp2
          go_ret
          exact ⟨n2, by first | rfl | (rw [← hw1]; rfl), HN2.out.1, HN2.out.2, rfl⟩
end Go.Proofs.YtilkcnoooecngaaGreatDoor
namespace Go.Proofs.YtilkcnoooecngaaGreatDoor
open Go.RowKit
set_option linter.unusedVariables false
def ptab (i : Nat) : Nat := [1, 3, 6, 9, 13, 16, 19, 23, 26].getD i 27
theorem ptab_ok : ∀ i : Fin 9, 1 ≤ i.val → 2 ^ ptab i ≤ 10 ^ i.val ∧ 3 ≤ ptab i ∧ ptab i ≤ 27 := by decide +kernel
/-- How far one goes. -/
def powN (d : Nat) : Nat := if 9 ≤ d then 27 else ptab d
theorem powN_ok {d : Nat} (h : 1 ≤ d) : 2 ^ powN d ≤ 10 ^ d ∧ 3 ≤ powN d ∧ powN d ≤ 27 := by
  unfold powN
  split
  · rename_i h9
    refine ⟨?_, by decide, by decide⟩
    have : 10 ^ 9 ≤ 10 ^ d := Nat.pow_le_pow_right (by decide) (by omega)
    have h2 : (2 : Nat) ^ 27 ≤ 10 ^ 9 := by decide
    omega
  · rename_i h9
    exact ptab_ok ⟨d, by omega⟩ h
theorem hd_cut {r : List Nat} (h : Good r) : hd (trimD (r.take 800)) = hd r := by
  rw [(trimD_good (good_take h)).2]
  obtain ⟨_, d, t, rfl, _⟩ := h
  rfl
theorem vD_up {l : List Nat} (h : Good l) : vD l * 10 < (hd l + 1) * 10 ^ l.length := by
  obtain ⟨hdg, d, t, rfl, h0⟩ := h
  have := vD_lt2 hdg
  simp only [hd, List.length_cons, Nat.pow_succ]
  rw [← Nat.mul_assoc]
  omega
/-- At least one tenth, behind a step to the right. -/
theorem tenth_keep {l r : List Nat} {k i : Nat} {dp : Nat} (hg : Good l) (h : SHd l k r i) (hk : 2 ^ k ≤ 10 ^ dp) : i ≤ dp + 1 := by
  have hv := h.val
  have hl := h.low
  have hi := h.pos
  have u := vD_up h.good
  obtain ⟨hh, _⟩ := hd_good hg
  have g := vD_hd hh (by decide)
  rw [Nat.one_mul] at g
  obtain ⟨_, hr9⟩ := hd_good h.good
  have a1 : 10 ^ l.length * 10 ^ (i + r.length - l.length) ≤ vD l * 10 * 10 ^ (i + r.length - l.length) := Nat.mul_le_mul_right _ g
  have a2 : vD l * 10 * 10 ^ (i + r.length - l.length) = vD r * 10 * (2 ^ k * 10) := by rw [Nat.mul_right_comm, hv]; ac_rfl
  have a3 : vD r * 10 * (2 ^ k * 10) < (hd r + 1) * 10 ^ r.length * (2 ^ k * 10) := Nat.mul_lt_mul_of_pos_right u (Nat.mul_pos (Nat.two_pow_pos k) (by decide))
  have a4 : 10 ^ l.length * 10 ^ (i + r.length - l.length) = 10 ^ i * 10 ^ r.length := by rw [← Nat.pow_add, ← Nat.pow_add]; congr 1; omega
  have a5 : (hd r + 1) * 10 ^ r.length * (2 ^ k * 10) = (hd r + 1) * (2 ^ k * 10) * 10 ^ r.length := by ac_rfl
  have a6 : 10 ^ i < (hd r + 1) * (2 ^ k * 10) := by
    rw [a4, a2] at a1
    rw [a5] at a3
    exact Nat.lt_of_mul_lt_mul_right (Nat.lt_of_le_of_lt a1 a3)
  have a7 : (hd r + 1) * (2 ^ k * 10) ≤ 10 * (10 ^ dp * 10) := Nat.mul_le_mul (by omega) (Nat.mul_le_mul_right _ hk)
  apply Decidable.byContradiction
  intro hc
  have : 10 ^ (dp + 2) ≤ 10 ^ i := Nat.pow_le_pow_right (by decide) (by omega)
  rw [Nat.pow_succ, Nat.pow_succ] at this
  omega
/-- The measure of the first loop. -/
def m1 (dp : Int) (h : Nat) : Nat := dp.toNat * 10 + h
theorem hd_le9 {l : List Nat} (h : Good l) : 1 ≤ hd l ∧ hd l ≤ 9 := hd_good h
theorem m1_step {l r : List Nat} {k i : Nat} {dp : Int} (hg : Good l) (h : SHd l k r i) (hk : 1 ≤ k) (h1 : 1 ≤ dp) : m1 (dp - ((i : Int) - 1)) (hd r) < m1 dp (hd l) := by
  have hi := h.pos
  have hone := h.one
  obtain ⟨a, b⟩ := hd_good hg
  obtain ⟨c, d⟩ := hd_good h.good
  unfold m1
  by_cases e : i = 1
  · have := hone e
    have h2 : 2 ≤ 2 ^ k := by
      have : 2 ^ 1 ≤ 2 ^ k := Nat.pow_le_pow_right (by decide) hk
      omega
    have h3 : hd l / 2 ^ k ≤ hd l / 2 := Nat.div_le_div_left h2 (by decide)
    subst e
    rw [show dp - (((1 : Nat) : Int) - 1) = dp by omega]
    omega
  · omega
theorem ms_step2 {l r : List Nat} {k e : Nat} {dp : Int} (hl : Good l) (h : Dbld l (2 ^ k) r e) (hc : dp < 0 ∨ hd l < 5) (hk : if dp < 0 then 3 ≤ k else k = 1) : ms (dp + e) (hd r) < ms dp (hd l) := by
  have hup := h.up
  have hlow := h.low
  obtain ⟨hl1, hl9⟩ := hd_good hl
  obtain ⟨hr1, hr9⟩ := hd_good h.good
  generalize hd l = a at *
  generalize hd r = c at *
  unfold ms
  by_cases hn : dp < 0
  · rw [if_pos hn] at hk
    by_cases he0 : e = 0
    · have h8 : 2 ^ 3 ≤ 2 ^ k := Nat.pow_le_pow_right (by decide) hk
      have h9 : a * 2 ^ 3 ≤ a * 2 ^ k := Nat.mul_le_mul_left _ h8
      have := hup he0
      omega
    · omega
  · rw [if_neg hn] at hk
    subst hk
    have h5 : a < 5 := by omega
    have he0 := hlow h5 rfl
    have := hup he0
    subst he0
    simp only [Nat.pow_one] at this
    simp
    omega
theorem VL_ge {a : List Nat × Int} (hg : Good a.1) {M : Nat} (h : 1 ≤ a.2) (hM : a.1.length ≤ M) : 10 ^ M ≤ VL M a := by
  obtain ⟨l, dp⟩ := a
  simp only [VL] at *
  have h1 := vD_hd (l := l) (c := 1) (hd_good hg).1 (by decide)
  obtain ⟨t, ht⟩ : ∃ t : Nat, ((M : Int) + dp - l.length).toNat = t + 1 := ⟨((M : Int) + dp - l.length).toNat - 1, by omega⟩
  rw [ht, Nat.pow_succ]
  have h2 : 10 ^ M ≤ 10 ^ l.length * 10 ^ t := by rw [← Nat.pow_add]; exact Nat.pow_le_pow_right (by decide) (by omega)
  have h3 : 10 ^ l.length * 10 ^ t ≤ vD l * 10 * 10 ^ t := Nat.mul_le_mul_right _ (by omega)
  have e2 : vD l * 10 * 10 ^ t = vD l * (10 ^ t * 10) := by ac_rfl
  omega
def E1030 : Nat := 1030
theorem big1030 : 10 ^ E310 < 2 ^ E1030 := by decide +kernel
/-- While a digit stands ahead of the point the exponent is small. -/
theorem LeE.small {a : List Nat × Int} {e : Int} (hg : Good a.1) (h : LeE a e) (h1 : 1 ≤ a.2) : e < 1030 := by
  apply Decidable.byContradiction
  intro hc
  obtain ⟨M0, h⟩ := h
  have h2 := h (M0 + a.1.length) (by omega) e.toNat 0 (by omega)
  have h3 := VL_ge hg (M := M0 + a.1.length) h1 (by omega)
  rw [Nat.pow_zero, Nat.mul_one, Nat.pow_add] at h2
  have h4 : 10 ^ (M0 + a.1.length) * 2 ^ e.toNat ≤ VL (M0 + a.1.length) a * 2 ^ e.toNat := Nat.mul_le_mul_right _ h3
  have h5 : 2 ^ E1030 ≤ 2 ^ e.toNat := Nat.pow_le_pow_right (by decide) (by unfold E1030; omega)
  have h6 : 2 ^ e.toNat ≤ 10 ^ E310 := Nat.le_of_mul_le_mul_left (Nat.le_trans h4 h2) (Nat.pow_pos (by decide))
  have := big1030
  omega
/-- A decimal below 10^310. -/
theorem LeE.start {l : List Nat} {dp : Int} (hg : Good l) (h : dp ≤ 310) : LeE (l, dp) 0 := by
  refine ⟨l.length + dp.natAbs, fun M hM u v huv => ?_⟩
  obtain rfl : u = v := by omega
  refine Nat.mul_le_mul_right _ ?_
  simp only [VL]
  have := vD_lt hg.1
  have h2 : vD l * 10 ^ ((M : Int) + dp - l.length).toNat ≤ 10 ^ l.length * 10 ^ ((M : Int) + dp - l.length).toNat := Nat.mul_le_mul_right _ (Nat.le_of_lt this)
  rw [← Nat.pow_add] at h2
  exact Nat.le_trans h2 (Nat.pow_le_pow_right (by decide) (by unfold E310; omega))
/-- Below 1. -/
theorem VL_lt1 {a : List Nat × Int} (hg : Good a.1) {M : Nat} (h : a.2 ≤ 0) (hM : a.1.length + a.2.natAbs ≤ M) : VL M a < 10 ^ M := by
  obtain ⟨l, dp⟩ := a
  simp only [VL] at *
  have := vD_lt hg.1
  have h2 : vD l * 10 ^ ((M : Int) + dp - l.length).toNat < 10 ^ l.length * 10 ^ ((M : Int) + dp - l.length).toNat := Nat.mul_lt_mul_of_pos_right this (Nat.pow_pos (by decide))
  rw [← Nat.pow_add] at h2
  exact Nat.lt_of_lt_of_le h2 (Nat.pow_le_pow_right (by decide) (by omega))
def E1023 : Nat := 1023
theorem TT_1023 : 2 ^ E1023 < TT := by decide +kernel
/-- Below 1 and at least TT / 2^e: e is great. -/
theorem GeE.big {a : List Nat × Int} {e : Int} (hg : Good a.1) (h : GeE a e) (h0 : a.2 ≤ 0) : 1024 ≤ e := by
  apply Decidable.byContradiction
  intro hc
  obtain ⟨M0, h⟩ := h
  obtain ⟨M, hM⟩ : ∃ M, M = M0 + a.1.length + a.2.natAbs := ⟨_, rfl⟩
  have h1 := h M (by omega) e.toNat (-e).toNat (by omega)
  have h2 := VL_lt1 hg (M := M) h0 (by omega)
  have h3 : VL M a * 2 ^ e.toNat < 10 ^ M * 2 ^ e.toNat := Nat.mul_lt_mul_of_pos_right h2 (Nat.two_pow_pos _)
  have h4 : 10 ^ M * 2 ^ e.toNat ≤ 10 ^ M * 2 ^ E1023 := Nat.mul_le_mul_left _ (Nat.pow_le_pow_right (by decide) (by unfold E1023; omega))
  have h5 : TT * 10 ^ M * 1 ≤ TT * 10 ^ M * 2 ^ (-e).toNat := Nat.mul_le_mul_left _ (Nat.two_pow_pos _)
  have h6 : 2 ^ E1023 * 10 ^ M ≤ TT * 10 ^ M := Nat.mul_le_mul_right _ (Nat.le_of_lt TT_1023)
  rw [Nat.mul_comm (2 ^ E1023)] at h6
  omega
theorem not_geT {l : List Nat} {dp : Int} (hg : Good l) (h : dp ≤ 0) : ¬ GeT (l, dp) := fun k => by
  have := k.geE.big hg h
  omega
end Go.Proofs.YtilkcnoooecngaaGreatDoor
namespace Go.Proofs.YtilkcnoooecngaaGreatDoor
open Go.RowKit
set_option linter.unusedVariables false
section
variable {P : Program} {a : Act} {w : World} {Q : Exit → Act → World → Prop}
/-- A jump to the label 0: what stands there is walked. -/
def jumpsA (P : Program) (r0 : Code) (Q : Exit → Act → World → Prop) : Exit → Act → World → Prop
  | .goto l, a, w => l = 0 ∧ r0.wp P (Exit.noGoto Q) a w
  | e, a, w => Q e a w
/-- A jump to the label 1 or to the label 0. -/
def jumpsB (P : Program) (r1 r0 : Code) (Q : Exit → Act → World → Prop) : Exit → Act → World → Prop
  | .goto l, a, w => (l = 1 ∧ r1.wp P (jumpsA P r0 Q) a w) ∨ (l = 0 ∧ r0.wp P (Exit.noGoto Q) a w)
  | e, a, w => Q e a w
theorem jumps_one {r0 r1 : Code} (h : r1.wp P (jumpsA P r0 Q) a w) : jumpsB P r1 r0 Q (.goto 1) a w := .inl ⟨rfl, h⟩
theorem jumps_zero {r0 r1 : Code} (h : r0.wp P (Exit.noGoto Q) a w) : jumpsB P r1 r0 Q (.goto 0) a w := .inr ⟨rfl, h⟩
theorem ret_A {r0 : Code} (h : Q .ret a w) : jumpsA P r0 Q .ret a w := h
theorem wp_scope_two {c r1 r0 : Code} (hf1 : findLabel c 1 = some r1) (hf0 : findLabel c 0 = some r0) (h : c.wp P (jumpsB P r1 r0 Q) a w) : (Code.scope c).wp P Q a w := by
  intro b k cs
  have hg1 : gotoIn 1 (.inScope c :: k) = some (.code r1 :: .inScope c :: k) := by simp [gotoIn, hf1]
  have hg0 : gotoIn 0 (.inScope c :: k) = some (.code r0 :: .inScope c :: k) := by simp [gotoIn, hf0]
  have key0 : ∀ a w, r0.wp P (Exit.noGoto Q) a w → ∃ e a' w', Q e a' w' ∧ Arrives P (lone (b.at a (.code r0 :: .inScope c :: k)) cs w) b k cs e a' w' := by
    intro a w h
    obtain ⟨e, a₁, w₁, hq, harr⟩ := h b (.inScope c :: k) cs
    cases e with
    | normal => exact ⟨.normal, a₁, w₁, hq, Steps.trans harr (.one step_inScope)⟩
    | exit id => exact ⟨.exit id, a₁, w₁, hq, fun k' hk => harr k' (by simp [exitTo, hk])⟩
    | goto l => exact hq.elim
    | ret => exact ⟨_, a₁, w₁, hq, harr⟩
    | panic ch => exact ⟨_, a₁, w₁, hq, harr⟩
    | outgrown => exact ⟨_, a₁, w₁, hq, harr⟩
  have key1 : ∀ a w, r1.wp P (jumpsA P r0 Q) a w → ∃ e a' w', Q e a' w' ∧ Arrives P (lone (b.at a (.code r1 :: .inScope c :: k)) cs w) b k cs e a' w' := by
    intro a w h
    obtain ⟨e, a₁, w₁, hq, harr⟩ := h b (.inScope c :: k) cs
    cases e with
    | normal => exact ⟨.normal, a₁, w₁, hq, Steps.trans harr (.one step_inScope)⟩
    | exit id => exact ⟨.exit id, a₁, w₁, hq, fun k' hk => harr k' (by simp [exitTo, hk])⟩
    | goto l =>
      obtain ⟨rfl, hq⟩ := hq
      obtain ⟨e₂, a₂, w₂, hq₂, harr₂⟩ := key0 _ _ hq
      exact ⟨e₂, a₂, w₂, hq₂, .of_steps (harr _ hg0) harr₂⟩
    | ret => exact ⟨_, a₁, w₁, hq, harr⟩
    | panic ch => exact ⟨_, a₁, w₁, hq, harr⟩
    | outgrown => exact ⟨_, a₁, w₁, hq, harr⟩
  obtain ⟨e, a₁, w₁, hq, harr⟩ := h b (.inScope c :: k) cs
  cases e with
  | normal => exact ⟨.normal, a₁, w₁, hq, .head step_scope (Steps.trans harr (.one step_inScope))⟩
  | exit id => exact ⟨.exit id, a₁, w₁, hq, fun k' hk => .head step_scope (harr k' (by simp [exitTo, hk]))⟩
  | goto l =>
    rcases hq with ⟨rfl, hq⟩ | ⟨rfl, hq⟩
    · obtain ⟨e₂, a₂, w₂, hq₂, harr₂⟩ := key1 _ _ hq
      exact ⟨e₂, a₂, w₂, hq₂, .of_steps (.head step_scope (harr _ hg1)) harr₂⟩
    · obtain ⟨e₂, a₂, w₂, hq₂, harr₂⟩ := key0 _ _ hq
      exact ⟨e₂, a₂, w₂, hq₂, .of_steps (.head step_scope (harr _ hg0)) harr₂⟩
  | ret => exact ⟨_, a₁, w₁, hq, .of_steps (.one step_scope) harr⟩
  | panic ch => exact ⟨_, a₁, w₁, hq, .of_steps (.one step_scope) harr⟩
  | outgrown => exact ⟨_, a₁, w₁, hq, .of_steps (.one step_scope) harr⟩
end
/-- What lies laid for floatBits. -/
structure SFb (w : World) (pb po pc cb co cap : Nat) : Prop where
  i0 : w.cell? ⟨4, 0, none⟩ = some (.int .u64 52)
  i1 : w.cell? ⟨4, 1, none⟩ = some (.int .u64 11)
  i2 : w.cell? ⟨4, 2, none⟩ = some (.int .i64 (-1023))
  pv : w.cell? ⟨7, 0, none⟩ = some (.slice (some ⟨pb, po, none⟩) 9 pc)
  pt : ∀ i, i < 9 → w.cell? ⟨pb, po + i, none⟩ = some (.int .i64 (ptab i : Nat))
  ch : SCh w cb co cap
/-- The block is none of those. -/
structure SFx (b pb cb : Nat) : Prop where
  x0 : 4 ≠ b
  x1 : 7 ≠ b
  x2 : pb ≠ b
  x3 : 14 ≠ b
  x4 : cb ≠ b
theorem SFb.put {w w' : World} {b pb po pc cb co cap : Nat} (h : SFb w pb po pc cb co cap) (p : Put w w' b) (x : SFx b pb cb) : SFb w' pb po pc cb co cap :=
  have k0 := p.keep (cell_lt h.i0) x.x0
  have k1 := p.keep (cell_lt h.pv) x.x1
  have k2 : w'.heap[pb]? = w.heap[pb]? := p.keep (cell_lt (h.pt 0 (by decide))) x.x2
  ⟨(cell_keep (a := ⟨_, 0, none⟩) k0).trans h.i0, (cell_keep (a := ⟨_, 1, none⟩) k0).trans h.i1, (cell_keep (a := ⟨_, 2, none⟩) k0).trans h.i2,
   (cell_keep (a := ⟨_, 0, none⟩) k1).trans h.pv, fun i hi => (cell_keep (a := ⟨pb, _, none⟩) k2).trans (h.pt i hi),
   h.ch.keep (p.keep h.ch.lt1 x.x3) (p.keep h.ch.lt2 x.x4)⟩
theorem SFb.drewN {w : World} {pb po pc cb co cap : Nat} (h : SFb w pb po pc cb co cap) (n : Nat) : SFb (w.drewN n) pb po pc cb co cap := ⟨h.i0, h.i1, h.i2, h.pv, h.pt, ⟨h.ch.var, h.ch.dlt, h.ch.cut⟩⟩
theorem SDL.drewN {w : World} {b : Nat} {l : List Nat} {dp : Int} {ng : Bool} (h : SDL w b l dp ng) (n : Nat) : SDL (w.drewN n) b l dp ng := by
  obtain ⟨D, tr, h1, h2⟩ := h
  exact ⟨D, tr, h1.drewN n, h2⟩
/-- What the first loop keeps. -/
structure Inv1 (a0 a : List Nat × Int) (E : Int) : Prop where
  lo : -330 ≤ a.2
  hi : a.2 ≤ 310
  nn : 0 ≤ a0.2 → 0 ≤ a.2
  e0 : 0 ≤ E
  e1 : E ≤ 1060
  le : LeE a E
  ge : GeT a0 → GeE a E
theorem Inv1.first {l : List Nat} {dp : Int} (hg : Good l) (h1 : -330 ≤ dp) (h2 : dp ≤ 310) : Inv1 (l, dp) (l, dp) 0 :=
  ⟨h1, h2, id, Int.le_refl _, by decide, LeE.start hg h2, fun h => h.geE⟩
theorem Inv1.step {a0 a b : List Nat × Int} {E : Int} (h : Inv1 a0 a E) (hg : Good a.1) (h1 : 1 ≤ a.2) (hr : RsV (powN a.2.toNat) a b) : Inv1 a0 b (E + powN a.2.toNat) ∧ m1 b.2 (hd b.1) < m1 a.2 (hd a.1) := by
  obtain ⟨k1, k2, k3⟩ := powN_ok (d := a.2.toNat) (by omega)
  have hsm := h.le.small hg h1
  have hle := hr.le h.le
  have hge := fun q => hr.ge (h.ge q) h.e0 (by omega) ⟨by omega, by have := h.hi; omega⟩
  obtain ⟨r, i, hs, rfl⟩ := hr
  have ht := tenth_keep hg hs k1
  have hi := hs.pos
  refine ⟨⟨by simp only; omega, by simp only; have := h.hi; omega, fun _ => by simp only; omega, by have := h.e0; omega, by omega, hle, hge⟩, ?_⟩
  have := m1_step hg hs (by omega) h1
  rw [← hd_cut hs.good] at this
  exact this
/-- What the second loop keeps. -/
structure Inv2 (a0 a : List Nat × Int) (E : Int) : Prop where
  lo : -330 ≤ a.2
  hi : a.2 ≤ 18
  e0 : 27 * (ms a.2 (hd a.1) : Int) - 100000 ≤ E
  e1 : E ≤ 1060
  ge : GeT a0 → GeE a E ∧ a.2 = 0
theorem Inv1.then {a0 a : List Nat × Int} {E : Int} (h : Inv1 a0 a E) (hg0 : Good a0.1) (hg : Good a.1) (h1 : a.2 ≤ 0) : Inv2 a0 a E := by
  refine ⟨h.lo, by omega, ?_, h.e1, fun q => ⟨h.ge q, ?_⟩⟩
  · have := (hd_good hg).1
    have := h.e0
    have := h.lo
    unfold ms
    omega
  · have h0 : 0 ≤ a0.2 := by
      apply Decidable.byContradiction
      intro hc
      obtain ⟨l, dp⟩ := a0
      exact not_geT hg0 (by simp only at hc; omega) q
    have := h.nn h0
    omega
/-- How far the second loop goes. -/
def kOf (d : Int) : Nat := if d < 0 then powN (-d).toNat else 1
theorem kOf_ok {d : Int} (h : d ≤ 0) : 1 ≤ kOf d ∧ kOf d ≤ 27 := by
  unfold kOf
  split
  · have := powN_ok (d := (-d).toNat) (by omega)
    omega
  · omega
theorem kOf_eq {d : Int} {i : Nat} (h : -d = (i : Int)) : kOf d = if 9 ≤ i then 27 else ptab i := by
  unfold kOf
  by_cases h0 : d < 0
  · rw [if_pos h0, show (-d).toNat = i by omega]
    rfl
  · obtain rfl : i = 0 := by omega
    rw [if_neg h0]
    rfl
theorem Inv2.step {a0 a b : List Nat × Int} {E : Int} (h : Inv2 a0 a E) (hg : Good a.1) (hc : a.2 < 0 ∨ a.2 = 0 ∧ hd a.1 < 5) (hr : LsV (kOf a.2) a b) : Inv2 a0 b (E - kOf a.2) ∧ ms b.2 (hd b.1) < ms a.2 (hd a.1) := by
  have k1 := kOf_ok (d := a.2) (by omega)
  have hge := fun q hb => hr.ge (h.ge q).1 hb (by have := h.e1; omega) ⟨by have := h.lo; omega, by have := h.hi; omega⟩
  obtain ⟨r, x, hs, rfl⟩ := hr
  have hm := ms_step2 (dp := a.2) hg hs (by omega) (by
    unfold kOf
    by_cases hn : a.2 < 0
    · rw [if_pos hn, if_pos hn]
      exact (powN_ok (by omega)).2.1
    · rw [if_neg hn, if_neg hn])
  rw [← hd_cut hs.good] at hm
  have hf := hs.few
  refine ⟨⟨by simp only; have := h.lo; omega, by simp only; omega, by simp only; have := h.e0; omega, by have := h.e1; omega, fun q => ?_⟩, hm⟩
  obtain ⟨g1, g2⟩ := h.ge q
  have hbig := g1.big hg (by omega)
  have hk1 : kOf a.2 = 1 := by unfold kOf; rw [if_neg (by omega)]
  have h5 : hd a.1 < 5 := by omega
  have he0 := hs.low h5 (by rw [hk1])
  exact ⟨hge q (by omega), by simp only; omega⟩
theorem Inv2.big {a0 a : List Nat × Int} {E : Int} (h : Inv2 a0 a E) (hg : Good a.1) (q : GeT a0) : 1024 ≤ E := (h.ge q).1.big hg (by have := (h.ge q).2; omega)
theorem pre_up {l : List Nat} (h : Dig l) (i : Nat) : ∀ j, pre l (i + j) < (pre l i + 1) * 10 ^ j
  | 0 => by simp
  | j + 1 => by
    have ih := pre_up h i j
    have := dg_lt h (i + j)
    rw [Nat.pow_succ, ← Nat.mul_assoc]
    show pre l (i + j) * 10 + dg l (i + j) < _
    omega
theorem cut_le (r : List Nat) (dp : Int) : ∃ M0 : Nat, ∀ M, M0 ≤ M → VL M (trimD (r.take 800), dp) ≤ VL M (r, dp) := by
  by_cases hl : r.length ≤ 800
  · rw [List.take_of_length_le hl]
    exact ⟨r.length + dp.natAbs, fun M hM => by rw [VL_trim _ _ (by omega)]; exact Nat.le_refl _⟩
  · refine ⟨r.length + 800 + dp.natAbs, fun M hM => ?_⟩
    rw [VL_trim _ _ (by rw [List.length_take]; omega)]
    have hlen : (r.take 800).length = 800 := by rw [List.length_take]; omega
    have hv : vD (r.take 800) * 10 ^ (r.length - 800) ≤ vD r := by
      have e : r = r.take 800 ++ r.drop 800 := (List.take_append_drop 800 r).symm
      have hb : (r.drop 800).length = r.length - 800 := by simp
      have hv : vD r = vD (r.take 800) * 10 ^ (r.length - 800) + vD (r.drop 800) := by
        conv => lhs; rw [e, vD_app, hb]
      omega
    simp only [VL, hlen]
    obtain ⟨a, ha⟩ : ∃ a : Nat, (a : Int) = (M : Int) + dp - r.length := ⟨((M : Int) + dp - r.length).toNat, by omega⟩
    rw [show ((M : Int) + dp - r.length).toNat = a by omega, show ((M : Int) + dp - (800 : Nat)).toNat = (r.length - 800) + a by omega, Nat.pow_add, ← Nat.mul_assoc]
    exact Nat.mul_le_mul_right _ hv
theorem pow_s (k : Nat) : (2 : Nat) ^ (k + 1) = 2 ^ k * 2 := Nat.pow_succ _ _
/-- The last digits: rounded up to 2^53. -/
theorem fin_up {a b : List Nat × Int} (h : LsV 53 a b) (hg : Good a.1) (ha : a.2 = 0) (g : GeE a 1024) : b.2 ≤ 20 ∧ UpAt b.1 b.2 ∧ pre b.1 b.2.toNat = 9007199254740991 := by
  have gb := h.ge g (by decide) (by decide) ⟨by omega, by omega⟩
  have up : ∃ M0 : Nat, ∀ M, M0 ≤ M → VL M b < 2 ^ 53 * 10 ^ M := by
    obtain ⟨r, E, hs, rfl⟩ := h
    obtain ⟨M1, h1⟩ := cut_le r (a.2 + (E : Int))
    refine ⟨M1 + a.1.length + r.length + E, fun M hM => Nat.lt_of_le_of_lt (h1 M (by omega)) ?_⟩
    have h2 := dbld_val hs
    have hl := hs.len
    have e2 : VL M (r, a.2 + (E : Int)) = VL M a * 2 ^ 53 := by
      obtain ⟨l, dp⟩ := a
      simp only [VL] at *
      rw [show ((M : Int) + (dp + ↑E) - ↑r.length).toNat = ((M : Int) + dp - ↑l.length).toNat by omega, h2, Nat.mul_assoc, Nat.mul_comm (2 ^ 53), Nat.mul_assoc]
    rw [e2, Nat.mul_comm]
    exact Nat.mul_lt_mul_of_pos_left (VL_lt1 hg (by omega) (by omega)) (by decide)
  have hb : Dig b.1 ∧ 0 ≤ b.2 ∧ b.2 ≤ 18 := by
    obtain ⟨r, E, hs, rfl⟩ := h
    have := hs.few
    exact ⟨(trimD_good (good_take hs.good)).1.1, by simp only; omega, by simp only; omega⟩
  obtain ⟨hdig, hb0, hb18⟩ := hb
  obtain ⟨l, d⟩ := b
  simp only at *
  obtain ⟨n, rfl⟩ : ∃ n : Nat, d = n := ⟨d.toNat, by omega⟩
  obtain ⟨M1, gb⟩ := gb
  obtain ⟨M2, up⟩ := up
  obtain ⟨M, hM⟩ : ∃ M, M = M1 + M2 + l.length := ⟨_, rfl⟩
  have g1 := gb (M + 1) (by omega) (E970 + 1) 0 (by unfold E970; omega)
  have g2 := up (M + 1) (by omega)
  have eV : VL (M + 1) (l, (n : Int)) = pre l (n + 1 + M) := by
    rw [pre_ge l (by omega)]
    simp only [VL]
    congr 2
    omega
  rw [eV] at g1 g2
  have p1 := pre_up hdig (n + 1) M
  have p2 := pre_mono l (show n + 1 ≤ n + 1 + M by omega)
  rw [show n + 1 + M - (n + 1) = M by omega] at p2
  obtain ⟨T, hT⟩ : ∃ T, 10 ^ M = T := ⟨_, rfl⟩
  have hT0 : 0 < T := hT ▸ Nat.pow_pos (by decide)
  unfold TT at g1
  have eP : (2 : Nat) ^ (E970 + 1) = 2 ^ E970 * 2 := pow_s E970
  have hY0 : 0 < 2 ^ E970 := Nat.two_pow_pos _
  rw [eP] at g1
  clear eP gb up
  generalize 2 ^ E970 = Y at *
  rw [Nat.pow_zero, Nat.mul_one, Nat.mul_right_comm, Nat.mul_comm Y 2, ← Nat.mul_assoc] at g1
  have g3 := Nat.le_of_mul_le_mul_right g1 hY0
  rw [Nat.pow_succ 10 M, hT] at g2 g3
  rw [hT] at p1 p2
  generalize pre l (n + 1 + M) = X at *
  have hQ : pre l (n + 1) = pre l n * 10 + dg l n := rfl
  generalize pre l (n + 1) = Q at *
  have hd10 := dg_lt hdig n
  have q1 : 18014398509481983 * 10 < 2 * (Q + 1) := by
    apply Nat.lt_of_mul_lt_mul_right (a := T)
    have e1 : 18014398509481983 * (T * 10) = 18014398509481983 * 10 * T := by omega
    have e2 : 2 * (Q + 1) * T = 2 * ((Q + 1) * T) := Nat.mul_assoc _ _ _
    omega
  have q2 : Q < 2 ^ 53 * 10 := by
    apply Nat.lt_of_mul_lt_mul_right (a := T)
    have e1 : 2 ^ 53 * (T * 10) = 2 ^ 53 * 10 * T := by omega
    omega
  have q3 : pre l n = 9007199254740991 ∧ 5 ≤ dg l n := by omega
  refine ⟨by omega, ⟨by omega, ?_, ?_, ?_⟩, ?_⟩
  · rw [Int.toNat_natCast]
    apply Decidable.byContradiction
    intro hc
    have := dg_out (l := l) (i := n) (by omega)
    omega
  · rw [Int.toNat_natCast]; exact q3.2
  · rw [Int.toNat_natCast, q3.1]
  · rw [Int.toNat_natCast]; exact q3.1
end Go.Proofs.YtilkcnoooecngaaGreatDoor
