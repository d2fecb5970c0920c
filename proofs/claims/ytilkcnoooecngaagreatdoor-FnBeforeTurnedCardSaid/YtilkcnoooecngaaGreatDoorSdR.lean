/- Go's own ParseFloat: its small functions. No conditions but the bounds that stand there. Go's own parseFloat64: its range error from above. d from 1 on, below 2^64; exponents from -345 to 310. Go's own pack64. Mantissas below 2^53, exponents from -1074 on. Go's own parseFloat64. d from 1 on, below 2^64; exponents from -345 to 310. -/
import Derived.Test.YtilkcnoooecngaaGreatDoorSvU
import Derived.Test.YtilkcnoooecngaaGreatDoorBtC
import Derived.Test.YtilkcnoooecngaaGreatDoorShelf
import Derived.Deep.QuietTactic
import Derived.Lib.BitFns
namespace Go.Proofs.YtilkcnoooecngaaGreatDoor
open Go.RowKit
set_option linter.unusedVariables false
abbrev tSc : TypeId := 126
theorem infoU64 : (Tryz.prog.info? 73).map (·.size) = some 1 := by kernel_rfl
set_option maxHeartbeats 1000000 in
theorem slower_any (c : Nat) (w : World) : Calls Tryz.prog 76 #[.int .u8 (c : Int)] w fun e w' => e = .returned (.int .u8 (bits .or .u8 (c : Int) 32)) ∧ w' = w := by
  go_enter Tryz.func76, Tryz.ntmps76
  go_wp2
  go_ret
  exact ⟨rfl, rfl⟩
theorem sfrombits (n : Int) (w : World) : (callFunc 53 #[.int .u64 n]).run Tryz.prog w = .ok (.value (.float .f64 n.toNat)) w := by
  rw [run_callFunc_extern Tryz.func53 (by kernel_rfl) (by kernel_rfl) (by kernel_rfl) (e := Extern.MathFloatBits.float64frombits) (by kernel_rfl)]
  rfl
set_option maxHeartbeats 1000000 in
theorem log2_any (p : Int) (w : World) (hp : -10000 ≤ p ∧ p ≤ 10000) : Calls Tryz.prog 79 #[.int .i64 p] w fun e w' => e = .returned (.int .i64 (p * 108853 / 32768)) ∧ w' = w := by
  obtain ⟨hp1, hp2⟩ := hp
  go_enter Tryz.func79, Tryz.ntmps79
  go_wp2
  go_ret
  exact ⟨rfl, rfl⟩
set_option maxHeartbeats 1000000 in
theorem unmin_any (w : World) : Calls Tryz.prog 83 #[.int .u64 9007199254740992] w fun e w' => e = .returned (.int .u64 36028797018963966) ∧ w' = w := by
  go_enter Tryz.func83, Tryz.ntmps83
  go_wp2
  go_ret
  exact ⟨rfl, rfl⟩
theorem and1_u64 (a : Nat) (h : a < 18446744073709551616) : bits .and .u64 (a : Int) 1 = ((a % 2 : Nat) : Int) := by
  have := bits_and_u64_nat a 1 h (by decide)
  rw [Nat.and_one_is_mod] at this
  exact this
set_option maxHeartbeats 1000000 in
theorem round_any (u : Nat) (w : World) (hu : u ≤ 144115188075855872) : Calls Tryz.prog 85 #[.int .u64 (u : Int)] w fun e w' => e = .returned (.int .u64 (rndN u : Nat)) ∧ w' = w := by
  have h1 : bits .and .u64 ((u : Int) / 4) 1 = ((u / 4 % 2 : Nat) : Int) := by
    rw [show (u : Int) / 4 = ((u / 4 : Nat) : Int) by omega]
    exact and1_u64 _ (by omega)
  go_enter Tryz.func85, Tryz.ntmps85
  go_wp2
  go_ret
  refine ⟨?_, rfl⟩
  unfold rndN
  simp
set_option maxHeartbeats 1000000 in
theorem bool64_any (b : Bool) (w : World) : Calls Tryz.prog 52 #[.bool b] w fun e w' => e = .returned (.int .u64 (if b then 1 else 0)) ∧ w' = w := by
  cases b
  · go_enter Tryz.func52, Tryz.ntmps52
    go_wp2
    go_ret
    exact ⟨rfl, rfl⟩
  · go_enter Tryz.func52, Tryz.ntmps52
    go_wp2
    go_ret
    exact ⟨rfl, rfl⟩
set_option maxHeartbeats 1000000 in
theorem boolI_any (b : Bool) (w : World) : Calls Tryz.prog 82 #[.bool b] w fun e w' => e = .returned (.int .i64 (if b then 1 else 0)) ∧ w' = w := by
  cases b
  · go_enter Tryz.func82, Tryz.ntmps82
    go_wp2
    go_ret
    exact ⟨rfl, rfl⟩
  · go_enter Tryz.func82, Tryz.ntmps82
    go_wp2
    go_ret
    exact ⟨rfl, rfl⟩
/-- The internal package's errors. -/
abbrev eRange : Value := .iface 41 (.int .i64 1)
abbrev eSyntax : Value := .iface 41 (.int .i64 2)
theorem and_pow (r i : Nat) : r &&& 2 ^ i = if r.testBit i = true then 2 ^ i else 0 := by
  apply Nat.eq_of_testBit_eq
  intro j
  rw [Nat.testBit_and, Nat.testBit_two_pow]
  by_cases e : i = j
  · subst e
    by_cases h : r.testBit i = true
    · rw [if_pos h, h, Nat.testBit_two_pow, Bool.true_and]
    · rw [if_neg h]
      simp [h]
  · by_cases h : r.testBit i = true
    · rw [if_pos h, Nat.testBit_two_pow]; simp [e]
    · rw [if_neg h]; simp [e]
/-- A sign: 0 or the uppermost bit. -/
def Sgn (s : Nat) : Prop := s = 0 ∨ s = 9223372036854775808
theorem sgn_and52 {s r : Nat} (hs : Sgn s) (hr : r < 9007199254740992) : (s ||| r) &&& 4503599627370496 = if 4503599627370496 ≤ r then 4503599627370496 else 0 := by
  rw [Nat.and_or_distrib_right]
  have h0 : s &&& 4503599627370496 = 0 := by rcases hs with rfl | rfl <;> decide
  rw [h0, Nat.zero_or, show (4503599627370496 : Nat) = 2 ^ 52 by decide, and_pow, Nat.testBit_eq_decide_div_mod_eq]
  by_cases h : 2 ^ 52 ≤ r
  · have : r / 2 ^ 52 % 2 = 1 := by omega
    rw [decide_eq_true this, if_pos rfl, if_pos h]
  · have : ¬ r / 2 ^ 52 % 2 = 1 := by omega
    rw [decide_eq_false this, if_neg (by decide), if_neg h]
theorem sgn_and63 {s r : Nat} (hs : Sgn s) (hr : r < 9007199254740992) : (s ||| r) &&& 9223372036854775808 = s := by
  rw [Nat.and_or_distrib_right]
  have h1 : r &&& 9223372036854775808 = 0 := by
    rw [show (9223372036854775808 : Nat) = 2 ^ 63 by decide, and_pow, Nat.testBit_lt_two_pow (by omega)]; simp
  rw [h1, Nat.or_zero]
  rcases hs with rfl | rfl <;> decide
theorem sgn_lt {s r : Nat} (hs : Sgn s) (hr : r < 9007199254740992) : s ||| r < 18446744073709551616 :=
  show s ||| r < 2 ^ 64 from Nat.or_lt_two_pow (by rcases hs with rfl | rfl <;> decide) (by omega)
end Go.Proofs.YtilkcnoooecngaaGreatDoor
namespace Go.Proofs.YtilkcnoooecngaaGreatDoor
open Go.RowKit
set_option linter.unusedVariables false
/-- The table of powers of ten lies there. -/
def STab (w : World) : Prop := ∀ i, i < 696 → w.cell? ⟨10, i * 2, none⟩ = some (.int .u64 ((rowT i).1 : Nat)) ∧ w.cell? ⟨10, i * 2 + 1, none⟩ = some (.int .u64 ((rowT i).2 : Nat))
theorem cell_lt {w : World} {a : Addr} {v : Value} (h : w.cell? a = some v) : a.block < w.heap.size := by
  rcases Nat.lt_or_ge a.block w.heap.size with h' | h'
  · exact h'
  · simp [World.cell?, Array.getElem?_eq_none h'] at h
theorem STab.below {w w' : World} (h : STab w) (hb : Below w.heap.size w w') : STab w' := fun i hi => ⟨(hb.cell (cell_lt (h i hi).1)).trans (h i hi).1, (hb.cell (cell_lt (h i hi).2)).trans (h i hi).2⟩
theorem STab.lt {w : World} (h : STab w) : 10 < w.heap.size := cell_lt (h 0 (by decide)).1
theorem STab.put {w w' : World} {b : Nat} (h : STab w) (p : Put w w' b) (hb : 10 ≠ b) : STab w' := fun i hi => by
  have k := p.keep h.lt hb
  refine ⟨?_, ?_⟩
  · have := (h i hi).1
    unfold World.cell? at *
    rw [k]; exact this
  · have := (h i hi).2
    unfold World.cell? at *
    rw [k]; exact this
theorem Put.trans {a b c : World} {k : Nat} (h : Put a b k) (h2 : Put b c k) : Put a c k :=
  ⟨⟨h2.grown.1.trans h.grown.1, h2.grown.2.trans h.grown.2, h2.grown.3.trans h.grown.3, Nat.le_trans h.grown.size h2.grown.size, fun j hj hne => (h2.grown.block j (by have := h.grown.size; omega) hne).trans (h.grown.block j hj hne)⟩, h2.size.trans h.size⟩
set_option maxHeartbeats 1000000 in
set_option maxRecDepth 100000 in
theorem prescale_any (b : Nat) (x y z e p lp : Int) (w : World) (hT : STab w) (hb : Blk w b tSc #[.int .u64 x, .int .u64 y, .int .i64 z]) (hbT : 10 ≠ b) (hp : -348 ≤ p ∧ p ≤ 347) (he : -100000 ≤ e ∧ e ≤ 100000) (hl : -100000 ≤ lp ∧ lp ≤ 100000) :
    Calls Tryz.prog 80 #[.pointer (some ⟨b, 0, none⟩), .int .i64 e, .int .i64 p, .int .i64 lp] w fun en w' => en = .returned (.tuple #[]) ∧ Blk w' b tSc #[.int .u64 ((rowT (p + 348).toNat).1 : Nat), .int .u64 ((rowT (p + 348).toNat).2 : Nat), .int .i64 (-(e + lp + 3))] ∧ Put w w' b := by
  obtain ⟨i, hi⟩ : ∃ i : Nat, (i : Int) = p + 348 := ⟨(p + 348).toNat, by omega⟩
  have hi2 : i < 696 := by omega
  obtain rfl : p = (i : Int) - 348 := by omega
  rw [show ((i : Int) - 348 + 348).toNat = i by omega]
  have HB := Lib.hid hb
  have HTb := Lib.hid hT
  have t1 := (hT i hi2).1
  have t2 := (hT i hi2).2
  clear hT hb hp hi
  have HT1 := fun w2 (q : Put w w2 b) => (HTb.out.put q hbT i hi2).2
  generalize (rowT i).1 = hi at *
  generalize (rowT i).2 = lo at *
  go_enter Tryz.func80, Tryz.ntmps80
  go_wp2_with ((with_reducible refine gate_st (t := 73) rfl ?_); refine halt_L ?_)
  refine resume_L ?_
  refine wpList_put HB.out (o := 0) (v := .int .u64 (hi : Int)) (by simp) rfl rfl rfl infoU64 ?_
  intro w1 hb1 p1
  have t3 := HT1 w1 p1
  clear t1 t2
  go_wp2_with ((with_reducible refine gate_st (t := 73) rfl ?_); refine halt_L ?_)
  refine resume_L ?_
  refine wpList_put hb1 (o := 1) (v := .int .u64 (lo : Int)) (by simp) rfl rfl rfl infoU64 ?_
  intro w2 hb2 p2
  clear t3
  go_wp2_with ((with_reducible refine gate_st (t := 3) rfl ?_); refine halt_L ?_)
  refine resume_L ?_
  refine wpList_put hb2 (o := 2) (v := .int .i64 (-(e + lp + 3))) (by simp) rfl rfl rfl infoI ?_
  intro w3 hb3 p3
  go_wp2
  go_end0
  exact ⟨rfl, hb3, (p1.trans p2).trans p3⟩
theorem and63 : ∀ s : Nat, s < 64 → bits .and .i64 (s : Int) 63 = (s : Int) := by
  have h : ∀ s : Fin 64, bits .and .i64 ((s : Nat) : Int) 63 = ((s : Nat) : Int) := by decide +kernel
  exact fun s hs => h ⟨s, hs⟩
def UsRet (x hi lo s : Nat) (w : World) (e : Ending) (w' : World) : Prop := e = .returned (.int .u64 (uS x hi lo s : Nat)) ∧ ∃ m, w' = w.drewN m
set_option maxHeartbeats 2000000 in
set_option maxRecDepth 100000 in
theorem uscale_any (b x hi lo s : Nat) (w : World) (hb : Blk w b tSc #[.int .u64 (hi : Int), .int .u64 (lo : Int), .int .i64 (s : Int)]) (hx1 : 9223372036854775808 ≤ x) (hx2 : x < 18446744073709551616) (hh1 : 9223372036854775808 ≤ hi) (hh2 : hi < 18446744073709551616) (hlo : lo < 18446744073709551616) (hs : s < 64) :
    Calls Tryz.prog 81 #[.int .u64 (x : Int), .pointer (some ⟨b, 0, none⟩)] w (UsRet x hi lo s w) := by
  have c0 : w.cell? ⟨b, 0, none⟩ = some (.int .u64 (hi : Int)) := hb.cell 0 rfl
  have c1 : w.cell? ⟨b, 1, none⟩ = some (.int .u64 (lo : Int)) := hb.cell 1 rfl
  have c2 : w.cell? ⟨b, 2, none⟩ = some (.int .i64 (s : Int)) := hb.cell 2 rfl
  have hM1 := fun W => Tryz.bits_Mul64 x hi hx2 hh2 W
  have hM2 := fun W => Tryz.bits_Mul64 x lo hx2 hlo W
  have hH1 : 4611686018427387904 ≤ x * hi / 18446744073709551616 := by
    have := Nat.mul_le_mul hx1 hh1
    omega
  have hH2 : x * hi / 18446744073709551616 < 18446744073709551616 := by
    have := Nat.mul_lt_mul'' hx2 hh2
    omega
  have hm := Nat.mod_lt (x * hi) (show 0 < 18446744073709551616 by decide)
  have hm2 : x * lo / 18446744073709551616 < 18446744073709551616 := by
    have := Nat.mul_lt_mul'' hx2 hlo
    omega
  have a63 := and63 s hs
  have hu := uS.eq_1 x hi lo s
  have hp := Nat.two_pow_pos s
  have hp64 : 2 ^ s ≤ 9223372036854775808 := Nat.pow_le_pow_right (n := 2) (by decide) (show s ≤ 63 by omega)
  obtain ⟨p, hp0⟩ : ∃ p, 2 ^ s = p := ⟨_, rfl⟩
  have hpI : (2 : Int) ^ s = (p : Int) := by subst hp0; simp
  have hsI : (s : Int) < 64 := by omega
  rw [hp0] at hu hp hp64
  clear hp0
  unfold UsRet
  generalize uS x hi lo s = U at *
  generalize x * hi / 18446744073709551616 = H at *
  generalize x * hi % 18446744073709551616 = M at *
  generalize x * lo / 18446744073709551616 = R at *
  generalize x * lo % 18446744073709551616 = R2 at *
  obtain ⟨q, hq⟩ : ∃ q, H / p = q := ⟨_, rfl⟩
  have hqI : (H : Int) / (p : Int) = (q : Int) := by rw [← Int.natCast_ediv, hq]
  have hqp : q * p ≤ H := by rw [← hq]; exact Nat.div_mul_le_self H p
  have hqH : q ≤ H := by rw [← hq]; exact Nat.div_le_self H p
  obtain ⟨Z, hZ⟩ : ∃ Z, q * p = Z := ⟨_, rfl⟩
  have hZI : (q : Int) * (p : Int) = (Z : Int) := by rw [← hZ]; simp
  rw [hZ] at hqp
  rw [hq, hZ] at hu
  by_cases hne : Z = H
  · rw [if_neg (fun h => h hne)] at hu
    have e1 : ((Z : Int) != (H : Int)) = false := by rw [hne]; simp
    obtain ⟨V, hV⟩ : ∃ V, (M + 18446744073709551616 - R) % 18446744073709551616 = V := ⟨_, rfl⟩
    have hw : IntKind.u64.wrap ((M : Int) - (R : Int)) = (V : Int) := by rw [IntKind.wrap_u64]; omega
    rw [hV] at hu
    obtain ⟨J, hJ⟩ : ∃ J, H - (if M < R then 1 else 0) = J := ⟨_, rfl⟩
    rw [hJ] at hu
    have hJ2 : J ≤ H := by omega
    obtain ⟨q2, hq2⟩ : ∃ q, J / p = q := ⟨_, rfl⟩
    have hq2I : (J : Int) / (p : Int) = (q2 : Int) := by rw [← Int.natCast_ediv, hq2]
    rw [hq2] at hu
    have hq2H : q2 ≤ J := by rw [← hq2]; exact Nat.div_le_self J p
    have HOR1 := Lib.hid (show 1 < V → bits .or .u64 (q2 : Int) 1 = ((U : Nat) : Int) from fun h => by
      rw [hu, if_pos h]; exact bits_or_u64_nat q2 1 (by omega) (by decide))
    have HOR0 := Lib.hid (show ¬ 1 < V → bits .or .u64 (q2 : Int) 0 = ((U : Nat) : Int) from fun h => by
      rw [hu, if_neg h]; exact bits_or_u64_nat q2 0 (by omega) (by decide))
    have hB := fun W => bool64_any (decide (M < R)) W
    have HS := Lib.hid (show IntKind.u64.wrap ((H : Int) - (if decide (M < R) = true then 1 else 0)) = (J : Int) by
      rw [← hJ]
      by_cases h : M < R
      · rw [if_pos (decide_eq_true h), if_pos h, IntKind.wrap_u64]; omega
      · rw [if_neg (by simp; omega), if_neg h, IntKind.wrap_u64]; omega)
    have hdec : decide (M < R) = decide (M < R) := rfl
    generalize hc : decide (M < R) = c at *
    generalize hcv : (if c = true then (1 : Int) else 0) = cv at *
    have hcv2 : cv = 0 ∨ cv = 1 := by rw [← hcv]; split <;> simp
    clear hJ hu hV hq hq2 hZ hdec
    have hwJ := HS.out
    clear HS
    clear hcv
    go_enter Tryz.func81, Tryz.ntmps81
    go_wp2_with (go_at_call 98; refine halt_H ?_)
    refine resume_H ?_
    refine (hM1 _).mono ?_
    rintro e w1 ⟨rfl, rfl⟩
    go_wp2_with (go_at_call 98; refine halt_H ?_)
    refine resume_H ?_
    refine (hM2 _).mono ?_
    rintro e w1 ⟨rfl, rfl⟩
    go_wp2_with (go_at_call 52; refine halt_H ?_)
    refine resume_H ?_
    refine (hB _).mono ?_
    rintro e w1 ⟨rfl, rfl⟩
    go_wp2_with fail
    by_cases hV1 : 1 < V
    · have hor := HOR1.out hV1
      have dV : decide ((1 : Int) < (V : Int)) = true := decide_eq_true (by omega)
      go_quiet ((go_at_call 52; exact Calls.quiet_of_same (bool64_any _ _)))
      go_wp2
      go_ret
      exact ⟨rfl, _, rfl⟩
    · have hor := HOR0.out hV1
      have dV : decide ((1 : Int) < (V : Int)) = false := decide_eq_false (by omega)
      go_quiet ((go_at_call 52; exact Calls.quiet_of_same (bool64_any _ _)))
      go_wp2
      go_ret
      exact ⟨rfl, _, rfl⟩
  · rw [if_pos hne] at hu
    have e1 : ((Z : Int) != (H : Int)) = true := by rw [bne_iff_ne]; omega
    have hor : bits .or .u64 (q : Int) 1 = ((U : Nat) : Int) := by
      rw [hu]
      exact bits_or_u64_nat q 1 (by omega) (by decide)
    clear hu hq hZ hne hM2
    go_enter Tryz.func81, Tryz.ntmps81
    go_wp2_with (go_at_call 98; refine halt_H ?_)
    refine resume_H ?_
    refine (hM1 _).mono ?_
    rintro e w1 ⟨rfl, rfl⟩
    go_wp2
    go_ret
    exact ⟨rfl, 0, rfl⟩
end Go.Proofs.YtilkcnoooecngaaGreatDoor
namespace Go.Proofs.YtilkcnoooecngaaGreatDoor
open Go.RowKit
set_option linter.unusedVariables false
def infB : Nat := 9218868437227405312
/-- The bits of a number that is finite. -/
def FinB (n : Nat) : Prop := n < 18446744073709551616 ∧ n % 9223372036854775808 < 9218868437227405312
theorem or_add (a t : Nat) (ht : t < 4503599627370496) : a * 4503599627370496 ||| t = a * 4503599627370496 + t := by
  have := Nat.shiftLeft_add_eq_or_of_lt (b := t) (i := 52) ht a
  rw [Nat.shiftLeft_eq] at this
  exact this.symm
theorem fin_of {s r : Nat} (hs : Sgn s) (hr : r < 9218868437227405312) : FinB (s ||| r) := by
  refine ⟨show s ||| r < 2 ^ 64 from Nat.or_lt_two_pow (by rcases hs with rfl | rfl <;> decide) (by omega), ?_⟩
  rw [← Nat.and_two_pow_sub_one_eq_mod (s ||| r) 63, Nat.and_or_distrib_right, Nat.and_two_pow_sub_one_eq_mod r 63]
  have : s &&& (2 ^ 63 - 1) = 0 := by rcases hs with rfl | rfl <;> decide
  rw [this, Nat.zero_or]
  omega
theorem andNot52 (m : Nat) (hm : m < 18446744073709551616) : bits .andNot .u64 (m : Int) 4503599627370496 = ((m &&& 18442240474082181119 : Nat) : Int) := by
  have hx : m &&& 18442240474082181119 < 2 ^ 64 := Nat.and_lt_two_pow _ (by decide)
  have h1 : (BitVec.ofInt 64 (m : Int)).toNat = m := by
    rw [BitVec.ofInt_natCast, BitVec.toNat_ofNat]; exact Nat.mod_eq_of_lt (by omega)
  show IntKind.u64.wrap ((BitVec.ofInt 64 (m : Int) &&& ~~~ BitVec.ofInt 64 4503599627370496).toNat : Int) = _
  rw [BitVec.toNat_and, h1, IntKind.wrap_u64]
  have : (~~~ BitVec.ofInt 64 4503599627370496).toNat = 18442240474082181119 := by decide
  rw [this]
  omega
theorem cut52 {s r : Nat} (hs : Sgn s) (h1 : 4503599627370496 ≤ r) (h2 : r < 9007199254740992) : (s ||| r) &&& 18442240474082181119 = s ||| (r - 4503599627370496) := by
  have e1 : s &&& 18442240474082181119 = s := by rcases hs with rfl | rfl <;> decide
  obtain ⟨t, rfl⟩ : ∃ t, r = 1 * 4503599627370496 + t := ⟨r - 4503599627370496, by omega⟩
  have ht : t < 4503599627370496 := by omega
  rw [Nat.and_or_distrib_right, e1, ← or_add 1 t ht, Nat.and_or_distrib_right]
  have e2 : 1 * 4503599627370496 &&& 18442240474082181119 = 0 := by decide
  have e3 : t &&& 18442240474082181119 = t := by
    have a1 : t &&& (2 ^ 52 - 1) = t := by rw [Nat.and_two_pow_sub_one_eq_mod]; exact Nat.mod_eq_of_lt ht
    have a2 : (2 ^ 52 - 1) &&& 18442240474082181119 = 2 ^ 52 - 1 := by decide
    rw [← a1, Nat.and_assoc, a2]
  rw [e2, Nat.zero_or, e3, or_add 1 t ht, show 1 * 4503599627370496 + t - 4503599627370496 = t by omega]
def PkRet (s r : Nat) (E : Int) (w : World) (e : Ending) (w' : World) : Prop := w' = w ∧
  ((4503599627370496 ≤ r ∧ 972 ≤ E ∧ e = .returned (.tuple #[.float .f64 (s ||| infB), eRange])) ∨ (¬ (4503599627370496 ≤ r ∧ 972 ≤ E) ∧ ∃ n, FinB n ∧ e = .returned (.tuple #[.float .f64 n, .nilIface])))
set_option maxHeartbeats 2000000 in
set_option maxRecDepth 100000 in
theorem pack_any (s r : Nat) (E : Int) (w : World) (hs : Sgn s) (hr : r < 9007199254740992) (hE : -1074 ≤ E ∧ E ≤ 100000) :
    Calls Tryz.prog 88 #[.int .u64 ((s ||| r : Nat) : Int), .int .i64 E] w (PkRet s r E w) := by
  obtain ⟨hE1, hE2⟩ := hE
  have hm := sgn_lt hs hr
  have hfb := fun n W => sfrombits n W
  have a1 : bits .and .u64 ((s ||| r : Nat) : Int) 4503599627370496 = (((s ||| r) &&& 4503599627370496 : Nat) : Int) := bits_and_u64_nat _ 4503599627370496 hm (by decide)
  rw [sgn_and52 hs hr] at a1
  have HS := Lib.hid hs
  have HR := Lib.hid hr
  have HF := Lib.hid (fin_of hs (show r < 9218868437227405312 by omega))
  have a3 := andNot52 _ hm
  have HC := Lib.hid (fun h => cut52 hs h hr)
  have a2 : bits .and .u64 ((s ||| r : Nat) : Int) 9223372036854775808 = (((s ||| r) &&& 9223372036854775808 : Nat) : Int) := bits_and_u64_nat _ 9223372036854775808 hm (by decide)
  rw [sgn_and63 hs hr] at a2
  have hs64 : s < 18446744073709551616 := by rcases hs with rfl | rfl <;> decide
  have a4 : bits .or .u64 (s : Int) 9218868437227405312 = ((s ||| infB : Nat) : Int) := bits_or_u64_nat s 9218868437227405312 hs64 (by decide)
  by_cases h52 : 4503599627370496 ≤ r
  · rw [if_pos h52] at a1
    rw [HC.out h52] at a3
    by_cases h972 : 972 ≤ E
    · clear a3 hs hm
      generalize hmm : (s ||| r) = m at *
      unfold PkRet
      generalize hi : (s ||| infB) = I at *
      have hI : ((I : Nat) : Int).toNat = I := by simp
      go_enter Tryz.func88, Tryz.ntmps88
      go_wp2
      go_ret2
      exact ⟨rfl, .inl ⟨h52, h972, rfl⟩⟩
    · have ht : r - 4503599627370496 < 4503599627370496 := by omega
      obtain ⟨k, hk⟩ : ∃ k : Nat, (k : Int) = 1075 + E := ⟨(1075 + E).toNat, by omega⟩
      have hk2 : k ≤ 2046 := by omega
      have a5 : bits .or .u64 ((s ||| (r - 4503599627370496) : Nat) : Int) ((k : Int) * 4503599627370496) = (((s ||| (r - 4503599627370496)) ||| k * 4503599627370496 : Nat) : Int) := by
        have h1 : s ||| (r - 4503599627370496) < 2 ^ 64 := Nat.or_lt_two_pow (by omega) (by omega)
        have := bits_or_u64_nat (s ||| (r - 4503599627370496)) (k * 4503599627370496) (by omega) (by omega)
        simpa using this
      have HN := Lib.hid (show FinB ((s ||| (r - 4503599627370496)) ||| k * 4503599627370496) by
        rw [Nat.or_assoc, Nat.or_comm (r - 4503599627370496), or_add _ _ ht]
        exact fin_of HS.out (by omega))
      rw [hk] at a5
      clear a2 a4 hs hm hk hk2
      have HE := Lib.hid h972
      generalize (s ||| (r - 4503599627370496)) ||| k * 4503599627370496 = n at *
      generalize hmm : (s ||| r) = m at *
      generalize hmk : (s ||| (r - 4503599627370496)) = mk at *
      go_enter Tryz.func88, Tryz.ntmps88
      go_wp2
      go_ret2
      exact ⟨rfl, .inr ⟨fun h => absurd h.2 (by have := HE.out; omega), n, HN.out, rfl⟩⟩
  · rw [if_neg h52] at a1
    clear a2 a3 a4 hs hm
    generalize hmm : (s ||| r) = m at *
    go_enter Tryz.func88, Tryz.ntmps88
    go_wp2
    go_ret2
    exact ⟨rfl, .inr ⟨fun h => h52 h.1, m, HF.out, rfl⟩⟩
end Go.Proofs.YtilkcnoooecngaaGreatDoor
namespace Go.Proofs.YtilkcnoooecngaaGreatDoor
open Go.RowKit
set_option linter.unusedVariables false
theorem bitLen_spec : ∀ (k d : Nat), 1 ≤ d → d < 2 ^ k → k ≤ 64 → 1 ≤ Lib.bitLen d ∧ Lib.bitLen d ≤ k ∧ 2 ^ (Lib.bitLen d - 1) ≤ d ∧ d < 2 ^ Lib.bitLen d
  | 0, d, h1, h2, _ => by simp at h2; omega
  | k + 1, d, h1, h2, hk => by
    have h64 : d < 2 ^ 64 := Nat.lt_of_lt_of_le h2 (Nat.pow_le_pow_right (by decide) hk)
    have e := Lib.bitLen_half d (by omega) h64
    by_cases h : d = 1
    · subst h
      have : Lib.bitLen 1 = 1 := by decide +kernel
      rw [this]; simp
    · have ih := bitLen_spec k (d / 2) (by omega) (by rw [Nat.pow_succ] at h2; omega) (by omega)
      obtain ⟨i1, i2, i3, i4⟩ := ih
      rw [e]
      obtain ⟨B, hB⟩ : ∃ B, Lib.bitLen (d / 2) = B := ⟨_, rfl⟩
      rw [hB] at i1 i2 i3 i4 ⊢
      have e1 : 2 ^ (1 + B) = 2 ^ B * 2 := by rw [Nat.add_comm, Nat.pow_succ]
      have e2 : 2 ^ (1 + B - 1) = 2 ^ (B - 1) * 2 := by rw [← Nat.pow_succ]; congr 1; omega
      rw [e1, e2]
      omega
/-- What parseFloat64 answers, as far as it matters. -/
def PfRet (d s : Nat) (p : Int) (w : World) (e : Ending) (w' : World) : Prop := Below w.heap.size w w' ∧
  (e = .returned (.tuple #[.float .f64 (s ||| infB), eRange]) ∨ ((∀ q : Nat, p = q → ¬ TT ≤ d * 10 ^ q) ∧ ∃ n, FinB n ∧ e = .returned (.tuple #[.float .f64 n, .nilIface])))
set_option maxHeartbeats 4000000 in
set_option maxRecDepth 100000 in
theorem pf64_any (d s : Nat) (p : Int) (w : World) (hT : STab w) (hs : Sgn s) (h1 : 1 ≤ d) (h2 : d < 18446744073709551616) (hp : -345 ≤ p ∧ p ≤ 310) :
    Calls Tryz.prog 55 #[.int .u64 (d : Int), .int .i64 p, .int .u64 (s : Int)] w (PfRet d s p w) := by
  obtain ⟨hp1, hp2⟩ := hp
  obtain ⟨b1, b2, b3, b4⟩ := bitLen_spec 64 d h1 h2 (by decide)
  have hB := fun W => Tryz.bits_Len64 (d : Int) W (by omega) (by omega)
  rw [Int.toNat_natCast] at hB
  obtain ⟨b, hb⟩ : ∃ b, Lib.bitLen d = b := ⟨_, rfl⟩
  rw [hb] at b1 b2 b3 b4 hB
  have hL := fun W => log2_any p W ⟨by omega, by omega⟩
  obtain ⟨lp, hlp⟩ : ∃ lp, p * 108853 / 32768 = lp := ⟨_, rfl⟩
  rw [hlp] at hL
  have hlp1 : -1150 ≤ lp ∧ lp ≤ 1030 := by omega
  obtain ⟨l1, l2⟩ := hlp1
  obtain ⟨e, he⟩ : ∃ e, min 1074 (53 - (b : Int) - lp) = e := ⟨_, rfl⟩
  have he1 : -1100 ≤ e ∧ e ≤ 1074 := by omega
  obtain ⟨e1, e2⟩ := he1
  obtain ⟨sh, hsh⟩ : ∃ sh : Nat, (sh : Int) = -(e - (64 - (b : Int)) + lp + 3) := ⟨(-(e - (64 - (b : Int)) + lp + 3)).toNat, by omega⟩
  have hsh8 : 8 ≤ sh := by omega
  have HP := Lib.hid (prescale_any w.heap.size 0 0 0 (e - (64 - (b : Int))) p lp (w.alloc (.cells #[.int .u64 0, .int .u64 0, .int .i64 0] tSc)) (hT.below ((Below.refl _ w).alloc (Nat.le_refl _) _)) (Blk.new w tSc _) (by have := hT.lt; omega) ⟨by omega, by omega⟩ ⟨by omega, by omega⟩ ⟨by omega, by omega⟩)
  have HB0 := Lib.hid ((Below.refl w.heap.size w).alloc (Nat.le_refl _) (.cells #[.int .u64 0, .int .u64 0, .int .i64 0] tSc))
  obtain ⟨i, hi⟩ : ∃ i, (p + 348).toNat = i := ⟨_, rfl⟩
  rw [hi, ← hsh] at HP
  obtain ⟨r1, r2, r3⟩ := rowT_ok (show i < 696 by omega)
  obtain ⟨x, hx⟩ : ∃ x, d * 2 ^ (64 - b) = x := ⟨_, rfl⟩
  have hx1 : 9223372036854775808 ≤ x := by
    rw [← hx]
    have : 2 ^ (b - 1) * 2 ^ (64 - b) ≤ d * 2 ^ (64 - b) := Nat.mul_le_mul_right _ b3
    rw [← Nat.pow_add, show b - 1 + (64 - b) = 63 by omega] at this
    exact this
  have hx2 : x < 18446744073709551616 := by
    rw [← hx]
    have : d * 2 ^ (64 - b) < 2 ^ b * 2 ^ (64 - b) := Nat.mul_lt_mul_of_pos_right b4 (Nat.two_pow_pos _)
    rw [← Nat.pow_add, show b + (64 - b) = 64 by omega] at this
    exact this
  -- what is at least TT
  have HO := Lib.hid (show ∀ q : Nat, p = q → TT ≤ d * 10 ^ q → sh = 8 ∧ e = 53 - (b : Int) - lp ∧ 18014398509481984 ≤ uS x (rowT i).1 (rowT i).2 8 ∧ ((b : Int) + lp = 1024 ∧ 36028797018963966 ≤ uS x (rowT i).1 (rowT i).2 8 ∨ 1025 ≤ (b : Int) + lp) from fun q hq hTT => by
    subst hq
    have q1 := T_p h2 hTT
    obtain ⟨o1, o2⟩ := u_over b1 b2 b3 b4 q1 (by omega) hTT
    have hl : ((lpN q : Nat) : Int) = lp := by rw [← hlp]; unfold lpN; omega
    rw [hx, show q + 348 = i by omega] at o1 o2
    refine ⟨by omega, by omega, o1, ?_⟩
    rcases o2 with ⟨o2, o3⟩ | o2
    · exact .inl ⟨by omega, o3⟩
    · exact .inr (by omega))
  generalize hhi : (rowT i).1 = hi0 at *
  generalize hlo : (rowT i).2 = lo0 at *
  obtain ⟨c, hc⟩ : ∃ c : Nat, 64 - b = c := ⟨_, rfl⟩
  have HCI := Lib.hid (show (64 : Int) - (b : Int) = (c : Int) by omega)
  rw [hc] at hx
  have HP2 := Lib.hid (show (2 : Int) ^ c = ((2 ^ c : Nat) : Int) by simp)
  have HXI := Lib.hid (show (d : Int) * ((2 ^ c : Nat) : Int) = (x : Int) by rw [← hx]; simp)
  have HS := Lib.hid hs
  have HC := Lib.hid (show 0 ≤ c ∧ c ≤ 63 by omega)
  have HE := Lib.hid he
  have hsh1 : -(e - (64 - (b : Int)) + lp + 3) = (sh : Int) := hsh.symm
  clear hs hT b3 b4 h1 hb hlp hhi hlo hi hc
  by_cases h64 : sh < 64
  · have d64 : decide ((sh : Int) ≥ 64) = false := decide_eq_false (by omega)
    obtain ⟨u, hu⟩ : ∃ u, uS x hi0 lo0 sh = u := ⟨_, rfl⟩
    have hub : u ≤ 72053195991416833 := by rw [← hu]; exact u_bound hx2 r2 hsh8
    have HU := Lib.hid hu
    have HXS := Lib.hid (fun (W : World) hbk => uscale_any w.heap.size x hi0 lo0 sh W hbk hx1 hx2 r1 (by omega) r3 h64)
    clear hu r1 r2 r3 hx1
    go_enter Tryz.func55, Tryz.ntmps55
    go_wp2_with (go_at_call 78; refine halt_H ?_)
    refine resume_H ?_
    refine (hB _).mono ?_
    rintro en w1 ⟨rfl, rfl⟩
    go_wp2_with (go_at_call 79; refine halt_H ?_)
    refine resume_H ?_
    refine (hL _).mono ?_
    rintro en w1 ⟨rfl, rfl⟩
    clear hB hL
    go_wp2_with (go_at_call 80; refine halt_H ?_)
    refine resume_H ?_
    refine HP.out.mono ?_
    rintro en w2 ⟨rfl, hb2, p2⟩
    have HB2 := Lib.hid (p2.below HB0.out HB0.out.size (Nat.le_refl _))
    have HBk := Lib.hid hb2
    have c2 : w2.cell? ⟨w1.heap.size, 2, none⟩ = some (.int .i64 (sh : Int)) := hb2.cell 2 rfl
    clear hb2 p2 HP HB0
    have hcI := HCI.out
    have hp2c := HP2.out
    have hxI := HXI.out
    generalize (2 ^ c : Nat) = pc at *
    go_wp2_with (go_at_call 81; refine halt_H ?_)
    refine resume_H ?_
    refine (HXS.out _ HBk.out).mono ?_
    rintro en w3 ⟨rfl, m3, rfl⟩
    rw [HU.out]
    have HB3 := Lib.hid (HB2.out.trans (Below.drewK _ w2 m3))
    clear HXS HBk c2
    go_wp2_with (go_at_call 83; refine halt_H ?_)
    refine resume_H ?_
    refine (unmin_any _).mono ?_
    rintro en w4 ⟨rfl, rfl⟩
    by_cases hS : 36028797018963966 ≤ u
    · have dS : decide ((u : Int) ≥ 36028797018963966) = true := decide_eq_true (by omega)
      have HK := Lib.hid (u1N_1 hS)
      have ha := and1_u64 u (by omega)
      have ho : bits .or .u64 ((u : Int) / 2) ((u : Int) % 2) = ((u1N u : Nat) : Int) := by
        unfold u1N s1N
        rw [if_pos hS, Nat.pow_one, show (u : Int) / 2 = ((u / 2 : Nat) : Int) by omega, show (u : Int) % 2 = ((u % 2 : Nat) : Int) by omega]
        exact bits_or_u64_nat _ _ (by omega) (by omega)
      have hR := fun W => round_any (u1N u) W (by have := HK.out; omega)
      have hrl := rnd_lt hub
      have HG := Lib.hid (fun h => rnd_ge (u := u) h)
      generalize rndN (u1N u) = r at *
      generalize u1N u = u1 at *
      have hPk := fun W => pack_any s r (-(e - 1)) W HS.out hrl ⟨by omega, by omega⟩
      have hso : bits .or .u64 (s : Int) (r : Int) = ((s ||| r : Nat) : Int) := bits_or_u64_nat s r (by rcases HS.out with rfl | rfl <;> decide) (by omega)
      go_wp2_with (go_at_call 82; refine halt_H ?_)
      refine resume_H ?_
      refine (boolI_any _ _).mono ?_
      rintro en w5 ⟨rfl, rfl⟩
      rw [if_pos rfl]
      go_wp2_with (go_at_call 85; refine halt_H ?_)
      refine resume_H ?_
      refine (hR _).mono ?_
      rintro en w6 ⟨rfl, rfl⟩
      go_wp2_with (go_at_call 88; refine halt_H ?_)
      refine resume_H ?_
      refine (hPk _).mono ?_
      rintro en w7 ⟨rfl, hor⟩
      rcases hor with ⟨k1, k2, rfl⟩ | ⟨k1, n, k2, rfl⟩
      · have HF := Lib.hid HB3.out
        go_wp2
        go_ret2
        exact ⟨HF.out, .inl rfl⟩
      · have HK2 := Lib.hid (show ∀ q : Nat, p = q → ¬ TT ≤ d * 10 ^ q from fun q hq hTT => by
          obtain ⟨o1, o2, o3, o4⟩ := HO.out q hq hTT
          subst o1
          rw [HU.out] at o3 o4
          have := HG.out o3
          exact k1 ⟨this, by omega⟩)
        have HN := Lib.hid k2
        clear k1 k2
        go_wp2
        go_ret2
        exact ⟨HB3.out, .inr ⟨HK2.out, n, HN.out, rfl⟩⟩
    · have dS : decide ((u : Int) ≥ 36028797018963966) = false := decide_eq_false (by omega)
      have HK := Lib.hid (u1N_0 (show u < 36028797018963966 by omega))
      have ha := and1_u64 u (by omega)
      have ho : bits .or .u64 (u : Int) ((u : Int) % 2) = ((u1N u : Nat) : Int) := by
        rw [HK.out, show (u : Int) % 2 = ((u % 2 : Nat) : Int) by omega, bits_or_u64_nat _ _ (by omega) (by omega), or_mod2]
      have hR := fun W => round_any (u1N u) W (by have := HK.out; omega)
      have hrl := rnd_lt hub
      have HG := Lib.hid (fun h => rnd_ge (u := u) h)
      generalize rndN (u1N u) = r at *
      generalize u1N u = u1 at *
      have hPk := fun W => pack_any s r (-e) W HS.out hrl ⟨by omega, by omega⟩
      have hso : bits .or .u64 (s : Int) (r : Int) = ((s ||| r : Nat) : Int) := bits_or_u64_nat s r (by rcases HS.out with rfl | rfl <;> decide) (by omega)
      go_wp2_with (go_at_call 82; refine halt_H ?_)
      refine resume_H ?_
      refine (boolI_any _ _).mono ?_
      rintro en w5 ⟨rfl, rfl⟩
      rw [if_neg (by decide)]
      go_wp2_with (go_at_call 85; refine halt_H ?_)
      refine resume_H ?_
      refine (hR _).mono ?_
      rintro en w6 ⟨rfl, rfl⟩
      go_wp2_with (go_at_call 88; refine halt_H ?_)
      refine resume_H ?_
      refine (hPk _).mono ?_
      rintro en w7 ⟨rfl, hor⟩
      rcases hor with ⟨k1, k2, rfl⟩ | ⟨k1, n, k2, rfl⟩
      · have HF := Lib.hid HB3.out
        go_wp2
        go_ret2
        exact ⟨HF.out, .inl rfl⟩
      · have HK2 := Lib.hid (show ∀ q : Nat, p = q → ¬ TT ≤ d * 10 ^ q from fun q hq hTT => by
          obtain ⟨o1, o2, o3, o4⟩ := HO.out q hq hTT
          subst o1
          rw [HU.out] at o3 o4
          have := HG.out o3
          exact k1 ⟨this, by omega⟩)
        have HN := Lib.hid k2
        clear k1 k2
        go_wp2
        go_ret2
        exact ⟨HB3.out, .inr ⟨HK2.out, n, HN.out, rfl⟩⟩
  · have d64 : decide ((sh : Int) ≥ 64) = true := decide_eq_true (by omega)
    have HFS := Lib.hid (show FinB s by have := fin_of HS.out (show 0 < 9218868437227405312 by decide); rwa [Nat.or_zero] at this)
    have hfb := fun n W => sfrombits n W
    have hso : bits .or .u64 (s : Int) 0 = (s : Int) := by
      have := bits_or_u64_nat s 0 (by rcases HS.out with rfl | rfl <;> decide) (by decide)
      rwa [Nat.or_zero] at this
    have HK2 := Lib.hid (show ∀ q : Nat, p = q → ¬ TT ≤ d * 10 ^ q from fun q hq hTT => by
      obtain ⟨o1, _⟩ := HO.out q hq hTT
      omega)
    clear r1 r2 r3 hx1
    go_enter Tryz.func55, Tryz.ntmps55
    go_wp2_with (go_at_call 78; refine halt_H ?_)
    refine resume_H ?_
    refine (hB _).mono ?_
    rintro en w1 ⟨rfl, rfl⟩
    go_wp2_with (go_at_call 79; refine halt_H ?_)
    refine resume_H ?_
    refine (hL _).mono ?_
    rintro en w1 ⟨rfl, rfl⟩
    clear hB hL
    go_wp2_with (go_at_call 80; refine halt_H ?_)
    refine resume_H ?_
    refine HP.out.mono ?_
    rintro en w2 ⟨rfl, hb2, p2⟩
    have HB2 := Lib.hid (p2.below HB0.out HB0.out.size (Nat.le_refl _))
    have HBk := Lib.hid hb2
    have c2 : w2.cell? ⟨w1.heap.size, 2, none⟩ = some (.int .i64 (sh : Int)) := hb2.cell 2 rfl
    clear hb2 p2 HP HB0
    have hcI := HCI.out
    have hp2c := HP2.out
    have hxI := HXI.out
    generalize (2 ^ c : Nat) = pc at *
    go_wp2
    go_ret2
    exact ⟨HB2.out, .inr ⟨HK2.out, s, HFS.out, rfl⟩⟩
end Go.Proofs.YtilkcnoooecngaaGreatDoor
