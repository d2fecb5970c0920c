/- Go's own atofHex: what is at least the least value that rounds to what is too great gets an error. Exponents up to 300000. -/
import Derived.Test.YtilkcnoooecngaaGreatDoorSrL
import Derived.Test.YtilkcnoooecngaaGreatDoorSdR
import Derived.Deep.CutBlock
import Derived.LaidEqlPtr
namespace Go.Proofs.YtilkcnoooecngaaGreatDoor
open Go.RowKit
set_option linter.unusedVariables false
theorem GeZ.dbl {m : Nat} {z : Int} (h : GeZ m z) : GeZ (m * 2) (z - 1) := by
  unfold GeZ at *
  rcases Int.le_total z 970 with hz | hz
  · obtain ⟨p, hp⟩ : ∃ p : Nat, 970 - z = p := ⟨(970 - z).toNat, by omega⟩
    rw [show (970 - z).toNat = p by omega, show (z - 970).toNat = 0 by omega] at h
    rw [show (970 - (z - 1)).toNat = p + 1 by omega, show (z - 1 - 970).toNat = 0 by omega, Nat.pow_succ, ← Nat.mul_assoc]
    simp only [Nat.pow_zero, Nat.mul_one] at *
    exact Nat.mul_le_mul_right 2 h
  · by_cases h0 : z = 970
    · subst h0
      simp at h ⊢
      omega
    · obtain ⟨p, hp⟩ : ∃ p : Nat, z - 970 = p + 1 := ⟨(z - 971).toNat, by omega⟩
      rw [show (970 - z).toNat = 0 by omega, show (z - 970).toNat = p + 1 by omega, Nat.pow_succ] at h
      rw [show (970 - (z - 1)).toNat = 0 by omega, show (z - 1 - 970).toNat = p by omega]
      refine Nat.le_trans h (Nat.le_of_eq ?_)
      rw [Nat.mul_assoc m 2, Nat.mul_comm 2]
theorem GeZ.half {m m' : Nat} {z : Int} (h : GeZ m z) (hz : z < 970 ∨ 36028797018963968 ≤ m) (hm : m / 2 ≤ m') : GeZ m' (z + 1) := by
  unfold GeZ at *
  rcases (show z < 970 ∨ 970 ≤ z by omega) with h9 | h9
  · obtain ⟨p, hp⟩ : ∃ p : Nat, 970 - z = p + 1 := ⟨(969 - z).toNat, by omega⟩
    rw [show (970 - z).toNat = p + 1 by omega, show (z - 970).toNat = 0 by omega, Nat.pow_succ, ← Nat.mul_assoc] at h
    rw [show (970 - (z + 1)).toNat = p by omega, show (z + 1 - 970).toNat = 0 by omega]
    simp only [Nat.pow_zero, Nat.mul_one] at *
    generalize 18014398509481983 * 2 ^ p = X at *
    omega
  · have hm2 : 36028797018963968 ≤ m := by omega
    rw [show (970 - (z + 1)).toNat = 0 by omega]
    have h1 : 1 ≤ 2 ^ (z + 1 - 970).toNat := Nat.two_pow_pos _
    have h2 : m' * 1 ≤ m' * 2 ^ (z + 1 - 970).toNat := Nat.mul_le_mul_left _ h1
    simp only [Nat.pow_zero, Nat.mul_one] at *
    omega
theorem GeZ.low {m : Nat} {z : Int} (h : GeZ m z) (hm : m < 36028797018963968) : 970 ≤ z ∨ z = 969 ∧ 36028797018963966 ≤ m := by
  unfold GeZ at h
  rcases (show z < 969 ∨ 969 ≤ z by omega) with h9 | h9
  · exfalso
    obtain ⟨p, hp⟩ : ∃ p : Nat, 970 - z = p + 2 := ⟨(968 - z).toNat, by omega⟩
    rw [show (970 - z).toNat = p + 2 by omega, show (z - 970).toNat = 0 by omega, Nat.pow_add] at h
    have h1 : 1 ≤ 2 ^ p := Nat.two_pow_pos _
    have h2 : 1 * 2 ^ 2 ≤ 2 ^ p * 2 ^ 2 := Nat.mul_le_mul_right _ h1
    have h3 := Nat.mul_le_mul_left 18014398509481983 h2
    simp only [Nat.pow_zero, Nat.mul_one] at h
    omega
  · by_cases h0 : z = 969
    · subst h0
      simp at h
      exact .inr ⟨rfl, by omega⟩
    · exact .inl (by omega)
/-- The mantissa with what was cut. -/
def stk (m : Nat) (tr : Bool) : Nat := if tr = true then m ||| 1 else m
theorem GeZ.pos {m : Nat} {z : Int} (h : GeZ m z) : m ≠ 0 := by
  rintro rfl
  unfold GeZ at h
  have : 0 < 18014398509481983 * 2 ^ (970 - z).toNat := Nat.mul_pos (by decide) (Nat.two_pow_pos _)
  omega
structure Q1 (mant : Nat) (x0 : Int) (tr : Bool) (m : Nat) (e : Int) : Prop where
  t : tr = true → m = mant ∧ e = x0 + 52
  f : tr = false → GeZ mant x0 → GeZ m (e - 52)
  b : ∃ k : Nat, e = x0 + 52 - k ∧ (k = 0 ∨ 2 ^ k ≤ m ∧ m < 36028797018963968)
theorem Q1.rng {mant m : Nat} {x0 e : Int} {tr : Bool} (h : Q1 mant x0 tr m e) : x0 - 10 ≤ e ∧ e ≤ x0 + 52 := by
  obtain ⟨k, h1, h2⟩ := h.b
  rcases h2 with rfl | ⟨h2, h3⟩
  · omega
  · have h4 : (2 : Nat) ^ k < 2 ^ 55 := Nat.lt_of_le_of_lt h2 h3
    have := (Nat.pow_lt_pow_iff_right (by decide)).1 h4
    omega
theorem Q1.step {mant m : Nat} {x0 e : Int} {tr : Bool} (h : Q1 mant x0 tr m e) (ht : tr = true → 18014398509481984 ≤ mant) (h0 : m ≠ 0) (hm : m < 18014398509481984) : Q1 mant x0 tr (m * 2) (e - 1) := by
  refine ⟨fun t => ?_, fun t g => ?_, ?_⟩
  · have := (h.t t).1; have := ht t; omega
  · have := (h.f t g).dbl
    rw [show e - 1 - 52 = e - 52 - 1 by omega]; exact this
  · obtain ⟨k, h1, h2⟩ := h.b
    refine ⟨k + 1, by omega, .inr ⟨?_, by omega⟩⟩
    rw [Nat.pow_succ]
    rcases h2 with rfl | ⟨h2, h3⟩
    · simp; omega
    · omega
def AhRet (m : Nat) (x : Int) (w : World) (e : Ending) (w' : World) : Prop := Below w.heap.size w w' ∧ ∃ (f : Nat) (er : Value), e = .returned (.tuple #[.float .f64 f, er]) ∧ (er = eRange ∨ er = .nilIface ∧ ¬ GeZ m x)
theorem stk_lt {m : Nat} {tr : Bool} (h : m < 18446744073709551616) : stk m tr < 18446744073709551616 := by
  unfold stk
  split
  · have := hx_or1_le m (by omega); omega
  · exact h
/-- One shift to the right with what falls out kept. -/
def sh1 (m : Nat) : Nat := m / 2 ||| m % 2
theorem sh1_lt {m k : Nat} (h : m < 2 ^ (k + 1)) (hk : 1 ≤ k) : sh1 m < 2 ^ k := by
  unfold sh1
  have h1 : (2 : Nat) ^ 1 ≤ 2 ^ k := Nat.pow_le_pow_right (by decide) hk
  rw [Nat.pow_succ] at h
  exact Nat.or_lt_two_pow (by omega) (by omega)
theorem sh1_bits (m : Nat) (h : m < 18446744073709551616) : bits .or .u64 ((m : Int) / 2) ((m : Int) % 2) = ((sh1 m : Nat) : Int) := by
  rw [show (m : Int) / 2 = ((m / 2 : Nat) : Int) by omega, show (m : Int) % 2 = ((m % 2 : Nat) : Int) by omega]
  exact bits_or_u64_nat _ _ (by omega) (by omega)
theorem sh1_GeZ {m : Nat} {z : Int} (h : GeZ m z) (hz : z < 970 ∨ 36028797018963968 ≤ m) : GeZ (sh1 m) (z + 1) := h.half hz Nat.left_le_or
theorem and3_u64 (a : Nat) (h : a < 18446744073709551616) : bits .and .u64 (a : Int) 3 = ((a % 4 : Nat) : Int) := by
  have := bits_and_u64_nat a 3 h (by decide)
  rw [show (3 : Int) = ((3 : Nat) : Int) from rfl, this]
  congr 1
  exact Nat.and_two_pow_sub_one_eq_mod a 2
def rnd3 (m : Nat) : Nat := m % 4 ||| m / 4 % 2
theorem rnd3_bits (m : Nat) : bits .or .u64 ((m : Int) % 4) ((m : Int) / 4 % 2) = ((rnd3 m : Nat) : Int) := by
  rw [show (m : Int) % 4 = ((m % 4 : Nat) : Int) by omega, show (m : Int) / 4 % 2 = ((m / 4 % 2 : Nat) : Int) by omega]
  exact bits_or_u64_nat _ _ (by omega) (by omega)
theorem rnd3_top {m : Nat} (h : 36028797018963966 ≤ m) (h2 : m < 36028797018963968) : rnd3 m = 3 ∧ m / 4 + 1 = 9007199254740992 := by
  have : m = 36028797018963966 ∨ m = 36028797018963967 := by omega
  rcases this with rfl | rfl <;> decide
def Own0 (w : World) (b : Nat) : Prop := ∃ (c : Array Value) (t : TypeId), w.heap[b]? = some (.cells c t (0, 0))
theorem info_ne {w : World} (h4 : Own0 w 4) (h2 : Own0 w 2) (j : Nat) : (binOp .eql 87 (.pointer (some ⟨4, 0, none⟩)) (.pointer (some ⟨2, 0, none⟩))).run Tryz.prog (w.drewN j) = .ok (.bool false) (w.drewN j) := by
  obtain ⟨c4, t4, h4⟩ := h4
  obtain ⟨c2, t2, h2⟩ := h2
  obtain ⟨i, hi, hs3⟩ := Option.map_eq_some_iff.1 (show (Tryz.prog.info? 90).map (fun z : TypeInfo => z.size) = some 3 by kernel_rfl)
  have hsz : i.size ≠ 0 := by have h : i.size = 3 := hs3; omega
  exact run_eql_ptr_other (w.drewN j) (te := 90) (by kernel_rfl) hi hsz (by decide) h4 h2
def Z1 (m : Nat) : Prop := m = 0 ∨ 18014398509481984 ≤ m
set_option maxHeartbeats 4000000 in
set_option maxRecDepth 100000 in
theorem ah_any (s : ByteArray) (mant : Nat) (x0 : Int) (ng tr : Bool) (w : World) (hm : mant < 18446744073709551616) (hx1 : -300000 ≤ x0) (hx2 : x0 ≤ 300000) (ht : tr = true → 1152921504606846976 ≤ mant)
    (i0 : w.cell? ⟨4, 0, none⟩ = some (.int .u64 52)) (i1 : w.cell? ⟨4, 1, none⟩ = some (.int .u64 11)) (i2 : w.cell? ⟨4, 2, none⟩ = some (.int .i64 (-1023)))
    (h4 : Own0 w 4) (h2 : Own0 w 2) :
    Calls Tryz.prog 45 #[.string s, .pointer (some ⟨4, 0, none⟩), .int .u64 (mant : Int), .int .i64 x0, .bool ng, .bool tr] w (AhRet (stk mant tr) x0 w) := by
  have HT := Lib.hid ht
  have HQ0 := Lib.hid (show Q1 mant x0 tr mant (x0 + 52) from ⟨fun _ => ⟨rfl, rfl⟩, fun _ h => by rw [show x0 + 52 - 52 = x0 by omega]; exact h, 0, by omega, .inl rfl⟩)
  have hfb := sfrombits
  have hpe := info_ne h4 h2
  clear h4 h2
  clear ht
  go_enter Tryz.func45, Tryz.ntmps45
  go_wp2_with fail
  go_quiet (fail)
  go_upto_block 0 with fail
  go_cut [2, 3] (fun a b wx => ∃ (m : Nat) (e : Int), a = .int .u64 (m : Int) ∧ b = .int .i64 e ∧ m < 18446744073709551616 ∧ Hid (Q1 mant x0 tr m e ∧ Z1 m) ∧ wx = w.drewN nq)
  case first =>
    as_aux_lemma =>
    go_wp2_with fail
    go_loopw [2, 3] (fun a b wx => ∃ (m : Nat) (e : Int), a = .int .u64 (m : Int) ∧ b = .int .i64 e ∧ m < 18446744073709551616 ∧ Hid (Q1 mant x0 tr m e) ∧ wx = w.drewN nq) (fun a _ _ => 18014398509481984 - (intOf a).toNat)
    case atStart => exact ⟨mant, x0 + 52, rfl, rfl, hm, HQ0, rfl⟩
    case round =>
      clear HQ0
      obtain ⟨m, e, rfl, rfl, hm64, HQ, rfl⟩ := hrel
      obtain ⟨he1, he2⟩ := HQ.out.rng
      by_cases h0 : m = 0
      · have HF := Lib.hid (And.intro HQ.out (show Z1 m from .inl h0))
        subst h0
        go_wp2_with fail
        go_meet
        exact ⟨0, e, rfl, rfl, by decide, HF, rfl⟩
      · have g0 : ((m : Int) != 0) = true := by rw [bne_iff_ne]; omega
        by_cases h54 : m < 18014398509481984
        · have g1 : ((m : Int) / 18014398509481984 == 0) = true := by rw [beq_iff_eq]; omega
          have HQ2 := Lib.hid (HQ.out.step (fun t => by have := HT.out t; omega) h0 h54)
          go_wp2_with fail
          go_roundw
          case rel => exact ⟨m * 2, e - 1, by go_num, rfl, by omega, HQ2, trivial⟩
          case measure => simp [intOf]; omega
        · have g1 : ((m : Int) / 18014398509481984 == 0) = false := by rw [beq_eq_false_iff_ne]; omega
          have HF := Lib.hid (And.intro HQ.out (show Z1 m from .inr (by omega)))
          go_wp2_with fail
          go_meet
          exact ⟨m, e, rfl, rfl, hm64, HF, rfl⟩
  case rest =>
  as_aux_lemma =>
  obtain ⟨m, e, rfl, rfl, hm64, HQ, rfl⟩ := hcut
  obtain ⟨k0, rfl⟩ : ∃ k, k = nq := ⟨_, rfl⟩
  obtain ⟨he1, he2⟩ := HQ.out.1.rng
  have HG1 := Lib.hid (show ∀ m1, m1 = stk m tr → (GeZ (stk mant tr) x0 → GeZ m1 (e - 52) ∧ 18014398509481984 ≤ m1) from fun m1 hm1 g => by
    cases tr
    · have h1 := HQ.out.1.f rfl g
      have h2 : m1 = m := hm1
      rw [h2]
      exact ⟨h1, by rcases HQ.out.2 with h | h; exact absurd h h1.pos; exact h⟩
    · obtain ⟨h1, h2⟩ := HQ.out.1.t rfl
      subst h1 h2
      have h3 := HT.out rfl
      subst hm1
      refine ⟨by rw [show x0 + 52 - 52 = x0 by omega]; exact g, ?_⟩
      have : m ≤ stk m true := Nat.left_le_or
      omega)
  have HQ1 := Lib.hid (stk_lt (tr := tr) hm64)
  obtain ⟨m1, hm1⟩ : ∃ m1, stk m tr = m1 := ⟨_, rfl⟩
  have HM1 := Lib.hid hm1
  have hm1l : m1 < 18446744073709551616 := by rw [← hm1]; exact HQ1.out
  have HG2 := Lib.hid (HG1.out m1 hm1.symm)
  clear HG1 hm1 HQ1
  go_upto_if 58 with fail
  go_cut [2] (fun a wx => a = .int .u64 (m1 : Int) ∧ wx = w.drewN k0)
  case first =>
    as_aux_lemma =>
    cases tr
    · have HC := Lib.hid (show m1 = m from HM1.out.symm)
      go_wp2_with fail
      go_meet
      exact ⟨by rw [HC.out], rfl⟩
    · have hor := hx_or1 m (by omega)
      have HC := Lib.hid (show m ||| 1 = m1 from HM1.out)
      rw [HC.out] at hor
      go_wp2_with fail
      go_meet
      exact ⟨rfl, rfl⟩
  case rest =>
  as_aux_lemma =>
  obtain ⟨rfl, rfl⟩ := hcut
  clear HQ HM1 hm64
  go_upto_block 2 with fail
  go_cut [2, 3] (fun a b wx => ∃ (m : Nat) (e1 : Int), a = .int .u64 (m : Int) ∧ b = .int .i64 e1 ∧ m < 36028797018963968 ∧ e ≤ e1 ∧ e1 ≤ e + 10 ∧ Hid (GeZ (stk mant tr) x0 → GeZ m (e1 - 52) ∧ 18014398509481984 ≤ m) ∧ wx = w.drewN k0)
  case first =>
    as_aux_lemma =>
    have HS := Lib.hid (show m1 < 2 ^ (64 - 0) from hm1l)
    go_wp2_with fail
    go_loopw [2, 3] (fun a b wx => ∃ (m : Nat) (e1 : Int), a = .int .u64 (m : Int) ∧ b = .int .i64 e1 ∧ m < 18446744073709551616 ∧ e ≤ e1 ∧ e1 ≤ e + 10 ∧ Hid (∃ k : Nat, k ≤ 9 ∧ m < 2 ^ (64 - k) ∧ e1 = e + k) ∧ Hid (GeZ (stk mant tr) x0 → GeZ m (e1 - 52) ∧ 18014398509481984 ≤ m) ∧ wx = w.drewN k0) (fun _ b _ => (e + 100 - intOf b).toNat)
    case atStart => exact ⟨m1, e, rfl, rfl, hm1l, by omega, by omega, Lib.hid ⟨0, by omega, HS.out, by omega⟩, HG2, rfl⟩
    case round =>
      clear hm1l
      obtain ⟨m, e1, rfl, rfl, hm64, hl1, hl2, HK, HG, rfl⟩ := hrel
      by_cases h55 : m < 36028797018963968
      · have g1 : ((m : Int) / 36028797018963968 != 0) = false := by
          have : (m : Int) / 36028797018963968 = 0 := by omega
          rw [this]; rfl
        go_wp2_with fail
        go_meet
        exact ⟨m, e1, rfl, rfl, h55, hl1, hl2, HG, rfl⟩
      · have g1 : ((m : Int) / 36028797018963968 != 0) = true := by rw [bne_iff_ne]; omega
        have a1 : bits .and .u64 (m : Int) 1 = (m : Int) % 2 := and1_u64 m hm64
        have a2 := sh1_bits m hm64
        have HK2 := Lib.hid (show (∃ k : Nat, k ≤ 9 ∧ sh1 m < 2 ^ (64 - k) ∧ e1 + 1 = e + k) ∧ e1 + 1 ≤ e + 9 from by
          obtain ⟨k, k1, k2, k3⟩ := HK.out
          have k4 : 2 ^ 55 < 2 ^ (64 - k) := by omega
          have k5 := (Nat.pow_lt_pow_iff_right (by decide)).1 k4
          refine ⟨⟨k + 1, by omega, ?_, by omega⟩, by omega⟩
          rw [show 64 - (k + 1) = 63 - k by omega]
          exact sh1_lt (by rw [show 63 - k + 1 = 64 - k by omega]; exact k2) (by omega))
        have HG2 := Lib.hid (show GeZ (stk mant tr) x0 → GeZ (sh1 m) (e1 + 1 - 52) ∧ 18014398509481984 ≤ sh1 m from fun g => by
          have := sh1_GeZ (HG.out g).1 (.inr (by omega))
          rw [show e1 + 1 - 52 = e1 - 52 + 1 by omega]
          refine ⟨this, ?_⟩
          have h2 : m / 2 ≤ sh1 m := Nat.left_le_or
          omega)
        have hs64 : sh1 m < 18446744073709551616 := sh1_lt (k := 64) (by omega) (by decide)
        generalize sh1 m = m2 at *
        go_wp2_with fail
        go_roundw
        case rel => exact ⟨m2, e1 + 1, rfl, by go_num, hs64, by omega, by have := HK2.out.2; omega, Lib.hid HK2.out.1, HG2, trivial⟩
        case measure => simp [intOf]; omega
  case rest =>
  as_aux_lemma =>
  obtain ⟨m, e1, rfl, rfl, hm55, hl1, hl2, HG, rfl⟩ := hcut
  clear HG2 hm1l
  go_upto_block 4 with fail
  go_cut [2, 3] (fun a b wx => ∃ (m : Nat) (e2 : Int), a = .int .u64 (m : Int) ∧ b = .int .i64 e2 ∧ m < 36028797018963968 ∧ -400000 ≤ e2 ∧ e2 ≤ 400000 ∧ Hid (GeZ (stk mant tr) x0 → GeZ m (e2 - 52) ∧ 18014398509481984 ≤ m) ∧ wx = w.drewN k0)
  case first =>
    as_aux_lemma =>
    go_wp2_with fail
    go_loopw [2, 3] (fun a b wx => ∃ (m : Nat) (e2 : Int), a = .int .u64 (m : Int) ∧ b = .int .i64 e2 ∧ m < 36028797018963968 ∧ -400000 ≤ e2 ∧ e2 ≤ 400000 ∧ Hid (GeZ (stk mant tr) x0 → GeZ m (e2 - 52) ∧ 18014398509481984 ≤ m) ∧ wx = w.drewN k0) (fun _ b _ => (500000 - intOf b).toNat)
    case atStart => exact ⟨m, e1, rfl, rfl, hm55, by omega, by omega, HG, rfl⟩
    case round =>
      clear HG hm55
      obtain ⟨m, e2, rfl, rfl, hm55, hl1, hl2, HG, rfl⟩ := hrel
      by_cases h1 : 1 < m
      · have g0 : decide ((m : Int) > 1) = true := decide_eq_true (by omega)
        by_cases h2 : e2 < -1024
        · have g1 : decide (e2 < -1024) = true := decide_eq_true h2
          have a1 : bits .and .u64 (m : Int) 1 = (m : Int) % 2 := and1_u64 m (by omega)
          have a2 := sh1_bits m (by omega)
          have hs64 : sh1 m < 36028797018963968 := sh1_lt (k := 55) (by omega) (by decide)
          have HG2 := Lib.hid (show GeZ (stk mant tr) x0 → GeZ (sh1 m) (e2 + 1 - 52) ∧ 18014398509481984 ≤ sh1 m from fun g => by
            exfalso
            have := (HG.out g).1.low hm55
            omega)
          generalize sh1 m = m2 at *
          go_wp2_with fail
          go_roundw
          case rel => exact ⟨m2, e2 + 1, rfl, by go_num, hs64, by omega, by omega, HG2, trivial⟩
          case measure => simp [intOf]; omega
        · have g1 : decide (e2 < -1024) = false := decide_eq_false h2
          go_wp2_with fail
          go_meet
          exact ⟨m, e2, rfl, rfl, hm55, hl1, hl2, HG, rfl⟩
      · have g0 : decide ((m : Int) > 1) = false := decide_eq_false (by omega)
        go_wp2_with fail
        go_meet
        exact ⟨m, e2, rfl, rfl, hm55, hl1, hl2, HG, rfl⟩
  case rest =>
  as_aux_lemma =>
  clear HG hm55
  obtain ⟨m, e2, rfl, rfl, hm55, hl3, hl4, HG, rfl⟩ := hcut
  have a1 : bits .and .u64 (m : Int) 3 = (m : Int) % 4 := and3_u64 m (by omega)
  have a2 : bits .and .u64 ((m : Int) / 4) 1 = (m : Int) / 4 % 2 := by
    rw [show (m : Int) / 4 = ((m / 4 : Nat) : Int) by omega]
    exact and1_u64 _ (by omega)
  have a3 := rnd3_bits m
  have HL := Lib.hid (show GeZ (stk mant tr) x0 → 18014398509481984 ≤ m ∧ (1022 ≤ e2 ∨ e2 = 1021 ∧ rnd3 m = 3 ∧ m / 4 + 1 = 9007199254740992) from fun g => by
    refine ⟨(HG.out g).2, ?_⟩
    rcases (HG.out g).1.low hm55 with h | ⟨h, h2⟩
    · exact .inl (by omega)
    · obtain ⟨h3, h4⟩ := rnd3_top h2 hm55
      exact .inr ⟨by omega, h3, h4⟩)
  generalize rnd3 m = r at *
  clear HG
  go_upto_if 103 with fail
  go_cut [2, 3] (fun a b wx => ∃ (m2 : Nat) (e3 : Int), a = .int .u64 (m2 : Int) ∧ b = .int .i64 e3 ∧ m2 ≤ 9007199254740992 ∧ -400000 ≤ e3 ∧ e3 ≤ 400010 ∧ Hid (GeZ (stk mant tr) x0 → 1024 ≤ e3 ∧ 4503599627370496 ≤ m2) ∧ wx = w.drewN k0)
  case first =>
    as_aux_lemma =>
    by_cases h3 : r = 3
    · subst h3
      by_cases h4 : m / 4 + 1 = 9007199254740992
      · have g4 : ((m : Int) / 4 + 1 == 9007199254740992) = true := by rw [beq_iff_eq]; omega
        go_wp2_with fail
        go_meet
        exact ⟨4503599627370496, e2 + 3, by congr 1; omega, by congr 1; omega, by omega, by omega, by omega, Lib.hid (fun g => by have := (HL.out g).2; omega), rfl⟩
      · have g4 : ((m : Int) / 4 + 1 == 9007199254740992) = false := by rw [beq_eq_false_iff_ne]; omega
        go_wp2_with fail
        go_meet
        exact ⟨m / 4 + 1, e2 + 2, by congr 1, by congr 1, by omega, by omega, by omega, Lib.hid (fun g => by have := HL.out g; omega), rfl⟩
    · have g3 : ((r : Int) == 3) = false := by rw [beq_eq_false_iff_ne]; omega
      go_wp2_with fail
      go_meet
      exact ⟨m / 4, e2 + 2, by congr 1, by congr 1, by omega, by omega, by omega, Lib.hid (fun g => by have := HL.out g; omega), rfl⟩
  case rest =>
  as_aux_lemma =>
  clear hm55 a1 a2 a3 HL
  obtain ⟨m2, e3, rfl, rfl, hm53, hl5, hl6, HG, rfl⟩ := hcut
  go_upto_if 124 with fail
  go_cut [3] (fun b wx => ∃ (e4 : Int), b = .int .i64 e4 ∧ -400000 ≤ e4 ∧ e4 ≤ 400010 ∧ Hid (GeZ (stk mant tr) x0 → 1024 ≤ e4) ∧ wx = w.drewN k0)
  case first =>
    as_aux_lemma =>
    by_cases h : m2 < 4503599627370496
    · have g1 : ((m2 : Int) / 4503599627370496 == 0) = true := by rw [beq_iff_eq]; omega
      go_wp2_with fail
      go_meet
      exact ⟨-1023, rfl, by omega, by omega, Lib.hid (fun g => by have := (HG.out g).2; omega), rfl⟩
    · have g1 : ((m2 : Int) / 4503599627370496 == 0) = false := by rw [beq_eq_false_iff_ne]; omega
      go_wp2_with fail
      go_meet
      exact ⟨e3, rfl, by omega, by omega, Lib.hid (fun g => (HG.out g).1), rfl⟩
  case rest =>
  as_aux_lemma =>
  clear hl5 hl6
  obtain ⟨e4, rfl, hl5, hl6, HG4, rfl⟩ := hcut
  by_cases hov : e4 > 1023
  · clear HG4
    go_wp2_with fail
    go_quiet (fail)
    cases ng
    · go_wp2_with fail
      go_ret2
      exact ⟨by (try simp only [World.drewN_drewN]); exact Below.drewK _ _ _, _, _, rfl, .inl rfl⟩
    · go_wp2_with fail
      go_quiet (fail)
      go_wp2_with fail
      go_ret2
      exact ⟨by (try simp only [World.drewN_drewN]); exact Below.drewK _ _ _, _, _, rfl, .inl rfl⟩
  · have HN := Lib.hid (show ¬ GeZ (stk mant tr) x0 from fun g => by have := HG4.out g; omega)
    go_wp2_with fail
    go_quiet (fail)
    cases ng
    · go_wp2_with fail
      go_ret2
      exact ⟨by (try simp only [World.drewN_drewN]); exact Below.drewK _ _ _, _, _, rfl, .inr ⟨rfl, HN.out⟩⟩
    · go_wp2_with fail
      go_quiet (fail)
      go_wp2_with fail
      go_ret2
      exact ⟨by (try simp only [World.drewN_drewN]); exact Below.drewK _ _ _, _, _, rfl, .inr ⟨rfl, HN.out⟩⟩
end Go.Proofs.YtilkcnoooecngaaGreatDoor
