/- What the light ParseFloat reads, told by the text; floats and how they stand. In plain Lean. Where Go's own ParseFloat tells no error, the light one tells none: in plain Lean. -/
import Derived.Test.YtilkcnoooecngaaGreatDoorSrL
import Derived.Test.YtilkcnoooecngaaGreatDoorSpA
import Derived.Test.YtilkcnoooecngaaGreatDoorSdR
import Derived.Test.YtilkcnoooecngaaGreatDoorBtB2
namespace Go.Proofs.YtilkcnoooecngaaGreatDoor
open Go.RowKit
set_option linter.unusedVariables false
/-- The sign's bit. -/
def sgN (f : Nat → Nat) (n : Nat) : Nat := if 0 < n ∧ f 0 = 45 then 9223372036854775808 else 0
noncomputable def fltV (s : ByteArray) (n : Int) : Nat := (bits .or .u64 ((sgN (bt s) s.size : Nat) : Int) n).toNat
def ReadR (t : ByteArray) (res : Option (List Nat × Int)) : Prop := (LHex t ∧ HRes (bt (t.extract 2 t.size)) (t.extract 2 t.size).size res) ∨ (¬ LHex t ∧ res = decRes (bt t) t.size)
theorem ReadR.uniq {t : ByteArray} {r r' : Option (List Nat × Int)} (h : ReadR t r) (h' : ReadR t r') : r = r' := by
  rcases h with ⟨a, b⟩ | ⟨a, b⟩
  · rcases h' with ⟨a', b'⟩ | ⟨a', b'⟩
    · exact b.uniq b'
    · exact absurd a a'
  · rcases h' with ⟨a', b'⟩ | ⟨a', b'⟩
    · exact absurd a' a
    · rw [b, b']
def NANB : Nat := 9221120237041090561
def InfT (t : ByteArray) : Prop := Folds t wInf ∨ Folds t wInfy
/-- What is read, in the end: a number's bits, or none. -/
def PFm (s : ByteArray) (r : Option Nat) : Prop := ∃ res, ReadR (stripB s) res ∧ ((res = none ∧ r = none) ∨ ∃ ds dp, res = some (ds, dp) ∧ ((usOk s = false ∧ r = none) ∨ (usOk s = true ∧ ∃ n ov, BitsR ds dp n ov ∧ ((ov = true ∧ r = none) ∨ (ov = false ∧ r = some (fltV s n))))))
def PFv (s : ByteArray) (r : Option Nat) : Prop :=
  (Folds s wNan ∧ r = some NANB) ∨ (¬ Folds s wNan ∧ InfT (stripB s) ∧ r = some (fltV s infN)) ∨ (¬ Folds s wNan ∧ ¬ InfT (stripB s) ∧ PFm s r)
theorem PFm.uniq {s : ByteArray} {r r' : Option Nat} (h : PFm s r) (h' : PFm s r') : r = r' := by
  obtain ⟨res, h1, h2⟩ := h
  obtain ⟨res', h1', h2'⟩ := h'
  obtain rfl := h1.uniq h1'
  rcases h2 with ⟨a, b⟩ | ⟨ds, dp, a, b⟩
  · rcases h2' with ⟨a', b'⟩ | ⟨ds', dp', a', b'⟩
    · rw [b, b']
    · rw [a] at a'; cases a'
  · rcases h2' with ⟨a', b'⟩ | ⟨ds', dp', a', b'⟩
    · rw [a'] at a; cases a
    · rw [a] at a'
      cases a'
      rcases b with ⟨c, d⟩ | ⟨c, n, ov, d, e⟩
      · rcases b' with ⟨c', d'⟩ | ⟨c', n', ov', d', e'⟩
        · rw [d, d']
        · rw [c] at c'; cases c'
      · rcases b' with ⟨c', d'⟩ | ⟨c', n', ov', d', e'⟩
        · rw [c] at c'; cases c'
        · obtain ⟨rfl, rfl⟩ := d.uniq d'
          rcases e with ⟨g, i⟩ | ⟨g, i⟩
          · rcases e' with ⟨g', i'⟩ | ⟨g', i'⟩
            · rw [i, i']
            · rw [g] at g'; cases g'
          · rcases e' with ⟨g', i'⟩ | ⟨g', i'⟩
            · rw [g] at g'; cases g'
            · rw [i, i']
theorem PFv.uniq {s : ByteArray} {r r' : Option Nat} (h : PFv s r) (h' : PFv s r') : r = r' := by
  rcases h with ⟨a, b⟩ | ⟨a, c, b⟩ | ⟨a, c, b⟩
  · rcases h' with ⟨a', b'⟩ | ⟨a', c', b'⟩ | ⟨a', c', b'⟩
    · rw [b, b']
    · exact absurd a a'
    · exact absurd a a'
  · rcases h' with ⟨a', b'⟩ | ⟨a', c', b'⟩ | ⟨a', c', b'⟩
    · exact absurd a' a
    · rw [b, b']
    · exact absurd c c'
  · rcases h' with ⟨a', b'⟩ | ⟨a', c', b'⟩ | ⟨a', c', b'⟩
    · exact absurd a' a
    · exact absurd c' c
    · exact b.uniq b'
/-- Floats. -/
def ord (x y : Nat) : Option Ordering := FloatKind.f64.format.order x y
def IsNan (x : Nat) : Prop := (FloatKind.f64.format.read x).isNaN = true
theorem fmt_eq : FloatKind.f64.format = Ieee.double := rfl
theorem cmp_swap (a b : Int) : compare b a = (compare a b).swap := by
  rcases Int.lt_trichotomy a b with h | h | h
  · rw [Int.compare_eq_lt.2 h, Int.compare_eq_gt.2 h]; rfl
  · subst h; rw [Int.compare_eq_eq.2 rfl]; rfl
  · rw [Int.compare_eq_gt.2 h, Int.compare_eq_lt.2 h]; rfl
theorem ord_swap (x y : Nat) : ord y x = (ord x y).map Ordering.swap := by
  unfold ord Ieee.Format.order
  generalize FloatKind.f64.format.read x = a
  generalize FloatKind.f64.format.read y = b
  cases a <;> cases b <;> simp only [Ieee.Datum.order, Option.map]
  · rw [Int.min_comm, cmp_swap]
  · split <;> rfl
  · split <;> rfl
  · rename_i s t
    cases s <;> cases t <;> rfl
theorem ord_none {x y : Nat} (h : ord x y = none) : IsNan x ∨ IsNan y := by
  unfold ord Ieee.Format.order at h
  unfold IsNan
  generalize FloatKind.f64.format.read x = a at *
  generalize FloatKind.f64.format.read y = b at *
  cases a <;> cases b <;> simp_all [Ieee.Datum.order, Ieee.Datum.isNaN]
theorem nan_ord {x y : Nat} (h : IsNan x) : ord x y = none := by
  unfold ord Ieee.Format.order
  unfold IsNan at h
  generalize FloatKind.f64.format.read x = a at *
  generalize FloatKind.f64.format.read y = b at *
  cases a <;> cases b <;> simp_all [Ieee.Datum.order, Ieee.Datum.isNaN]
theorem nanb_nan : IsNan NANB := by unfold IsNan NANB; decide +kernel
theorem read_small {x : Nat} (h : x % 9223372036854775808 ≤ 9218868437227405312) : ¬ IsNan x := by
  unfold IsNan
  rw [fmt_eq]
  unfold Ieee.Format.read
  have e1 : Ieee.double.signWeight = 9223372036854775808 := by decide
  have e2 : Ieee.double.infRung = 9218868437227405312 := by decide
  simp only [e1, e2]
  split
  · simp [Ieee.Datum.isNaN]
  · split
    · simp [Ieee.Datum.isNaN]
    · rw [if_pos (by omega)]
      simp [Ieee.Datum.isNaN]
theorem fin_inf {x s : Nat} (h : FinB x) (hs : Sgn s) : ord x (s ||| infB) ≠ some .eq := by
  unfold ord Ieee.Format.order
  rw [fmt_eq]
  have e1 : Ieee.double.signWeight = 9223372036854775808 := by decide
  have e2 : Ieee.double.infRung = 9218868437227405312 := by decide
  have h1 : ∃ a b c, Ieee.double.read x = .number a b c := by
    unfold Ieee.Format.read
    simp only [e1, e2]
    split
    · exact ⟨_, _, _, rfl⟩
    · rw [if_pos h.2]
      exact ⟨_, _, _, rfl⟩
  have h2 : ∃ b, Ieee.double.read (s ||| infB) = .infinity b := by
    rcases hs with rfl | rfl
    · exact ⟨false, by decide +kernel⟩
    · exact ⟨true, by decide +kernel⟩
  obtain ⟨a, b, c, h1⟩ := h1
  obtain ⟨d, h2⟩ := h2
  rw [h1, h2]
  simp only [Ieee.Datum.order]
  cases d <;> simp
theorem and52 (m : Int) : 0 ≤ bits .and .u64 m 4503599627370495 ∧ bits .and .u64 m 4503599627370495 < 4503599627370496 := by
  have h : bits .and .u64 m 4503599627370495 = IntKind.u64.wrap (((BitVec.ofInt 64 m).toNat &&& (BitVec.ofInt 64 4503599627370495).toNat : Nat) : Int) := by
    rw [← BitVec.toNat_and]; rfl
  have h2 : (BitVec.ofInt 64 m).toNat &&& (BitVec.ofInt 64 4503599627370495).toNat ≤ 4503599627370495 := Nat.le_trans Nat.and_le_right (by decide)
  rw [h, IntKind.wrap_u64]
  omega
theorem packN_lt {m E : Int} (h1 : -1023 ≤ E) (h2 : E ≤ 1023) : ∃ k : Nat, packN m E = k ∧ k < 9218868437227405312 := by
  unfold packN
  obtain ⟨a1, a2⟩ := and52 m
  obtain ⟨a, ha⟩ : ∃ a : Nat, bits .and .u64 m 4503599627370495 = a := ⟨(bits .and .u64 m 4503599627370495).toNat, by omega⟩
  obtain ⟨b, hb⟩ : ∃ b : Nat, E + 1023 = b := ⟨(E + 1023).toNat, by omega⟩
  rw [ha, hb, show ((b : Int) * 4503599627370496) = ((b * 4503599627370496 : Nat) : Int) by omega, bits_or_u64_nat _ _ (by omega) (by omega), Nat.or_comm, or_add b a (by omega)]
  exact ⟨_, rfl, by omega⟩
theorem packN0_lt {m : Int} : ∃ k : Nat, packN0 m = k ∧ k < 9218868437227405312 := by
  unfold packN0
  obtain ⟨a1, a2⟩ := and52 m
  obtain ⟨a, ha⟩ : ∃ a : Nat, bits .and .u64 m 4503599627370495 = a := ⟨(bits .and .u64 m 4503599627370495).toNat, by omega⟩
  rw [ha, show (0 : Int) = ((0 : Nat) : Int) from rfl, bits_or_u64_nat _ _ (by omega) (by omega), Nat.or_zero]
  exact ⟨_, rfl, by omega⟩
theorem finR_lt {m E n : Int} (h : FinR m E n false) (h1 : -1022 ≤ E) (h2 : E < 1024) : ∃ k : Nat, n = k ∧ k < 9218868437227405312 := by
  unfold FinR at h
  split at h
  · split at h
    · cases h.2
    · rw [h.1]; exact packN_lt (by omega) (by omega)
  · split at h
    · rw [h.1]; exact packN0_lt
    · rw [h.1]; exact packN_lt (by omega) (by omega)
theorem bitsR_lt {ds : List Nat} {dp n : Int} (h : BitsR ds dp n false) : ∃ k : Nat, n = k ∧ k < 9218868437227405312 := by
  rcases h with ⟨_, h, _⟩ | ⟨_, _, h⟩ | ⟨_, s1, s2, _, _, _, h⟩
  · exact ⟨0, h, by decide⟩
  · cases h
  · rcases h with ⟨_, c, _, h⟩ | ⟨h0, h⟩
    · rcases h with ⟨h, _⟩ | ⟨h1, d, m, _, _, h⟩
      · omega
      · exact finR_lt h (by omega) h1
    · rcases h with ⟨_, _, h⟩ | ⟨h1, d, m, _, _, h⟩
      · cases h
      · exact finR_lt h (by omega) h1
theorem sgN_sgn (f : Nat → Nat) (n : Nat) : Sgn (sgN f n) := by
  unfold sgN
  split
  · exact .inr rfl
  · exact .inl rfl
theorem fltV_small {s : ByteArray} {k : Nat} (h : k ≤ 9218868437227405312) : ¬ IsNan (fltV s (k : Int)) := by
  have hs := sgN_sgn (bt s) s.size
  refine read_small ?_
  unfold fltV
  generalize sgN (bt s) s.size = a at *
  rw [bits_or_u64_nat _ _ (by rcases hs with rfl | rfl <;> decide) (by omega), Int.toNat_natCast]
  rw [← Nat.and_two_pow_sub_one_eq_mod (a ||| k) 63, Nat.and_or_distrib_right, Nat.and_two_pow_sub_one_eq_mod k 63]
  have : a &&& (2 ^ 63 - 1) = 0 := by rcases hs with rfl | rfl <;> decide
  rw [this, Nat.zero_or]
  omega
theorem PFv.nan {s : ByteArray} {x : Nat} (h : PFv s (some x)) (hx : IsNan x) : Folds s wNan := by
  rcases h with ⟨a, b⟩ | ⟨a, c, b⟩ | ⟨a, c, res, h1, h2⟩
  · exact a
  · injection b with b
    rw [b] at hx
    exact absurd hx (fltV_small (k := 9218868437227405312) (by decide))
  · rcases h2 with ⟨_, h2⟩ | ⟨ds, dp, _, h2⟩
    · cases h2
    · rcases h2 with ⟨_, h2⟩ | ⟨_, n, ov, h3, h2⟩
      · cases h2
      · rcases h2 with ⟨_, h2⟩ | ⟨h4, h2⟩
        · cases h2
        · subst h4
          obtain ⟨k, rfl, hk⟩ := bitsR_lt h3
          injection h2 with h2
          rw [h2] at hx
          exact absurd hx (fltV_small (by omega))
end Go.Proofs.YtilkcnoooecngaaGreatDoor
namespace Go.Proofs.YtilkcnoooecngaaGreatDoor
open Go.RowKit
set_option linter.unusedVariables false
/-- The light ParseFloat tells no error. -/
def GoodS (s : ByteArray) : Prop := ∀ r, PFv s r → r ≠ none
theorem good_spec {s : ByteArray} (h : SpOk s) : GoodS s := by
  intro r hr hn
  subst hn
  rcases hr with ⟨_, b⟩ | ⟨_, _, b⟩ | ⟨a, c, _⟩
  · cases b
  · cases b
  · rcases h with h | h
    · exact a h
    · exact c h
theorem ShiftR.good {z : Int} {a b : List Nat × Int} (h : ShiftR z a b) (hg : Good a.1) : Good b.1 := by
  induction h with
  | up hz h k ih =>
    obtain ⟨r, i, h1, rfl⟩ := h
    exact ih (trimD_good h1.good).1
  | down hz h k ih =>
    obtain ⟨r, i, h1, rfl⟩ := h
    exact ih (trimD_good h1.good).1
  | dbl k hz h0 h1 h =>
    obtain ⟨r, i, h1, rfl⟩ := h
    exact (trimD_good h1.good).1
  | hlf k hz h0 h1 h =>
    obtain ⟨r, i, h1, rfl⟩ := h
    exact (trimD_good h1.good).1
  | non hz => exact hg
theorem GeT_trim {ds : List Nat} {dp : Int} (h : GeT (trimD ds, dp)) : GeT (ds, dp) := by
  obtain ⟨M0, h⟩ := h
  refine ⟨M0 + ds.length + dp.natAbs, fun M hM => ?_⟩
  rw [← VL_trim ds dp (by omega)]
  exact h M (by omega)
theorem rd_rg {g : Nat → Nat} {m : Nat} {s : RS} (h : FGo (rdF g m) (0, false, false, [], 0) s) : Rg s.1 s.2.2.2.1 s.2.2.2.2 := by
  induction h with
  | refl => exact Rg.start
  | @step b c h k ih =>
    obtain ⟨i, sm, dot, ds, dp⟩ := b
    simp only at ih
    unfold fs rdF at k
    simp only at k
    split at k
    · split at k
      · obtain rfl := Option.some.inj k
        exact ih.skip
      · split at k
        · obtain rfl := Option.some.inj k
          exact ih.skip
        · split at k
          · rename_i hd
            have h1 := hd.1
            have h2 := hd.2
            split at k
            · rename_i h0
              obtain rfl := Option.some.inj k
              refine ih.snoc (by omega) ?_ ?_
              · rcases h0 with h0 | h0
                · exact .inl h0
                · exact .inr (by omega)
              · simp only
                split
                · exact .inl rfl
                · exact .inr rfl
            · obtain rfl := Option.some.inj k
              simp only
              split
              · exact ih.less
              · exact ih.skip
          · cases k
    · cases k
theorem good_dec {s : ByteArray} {i : Nat} {dot : Bool} {ds : List Nat} {dp z : Int} (hd : FDone (rdF (bt (stripB s)) (stripB s).size) (0, false, false, [], 0) (i, true, dot, ds, dp)) (ht : tailRes 101 false (bt (stripB s)) (stripB s).size i = some z)
    (hu : usOk s = true) (hL : ¬ LHex (stripB s)) (hT : ds = [] ∨ ¬ GeT (ds, dp + z)) : GoodS s := by
  intro r hr hn
  subst hn
  rcases hr with ⟨_, b⟩ | ⟨_, _, b⟩ | ⟨a, c, res, h1, h2⟩
  · cases b
  · cases b
  · rcases h1 with ⟨h1, _⟩ | ⟨_, h1⟩
    · exact hL h1
    · rw [decRes_eq hd, if_pos rfl, ht] at h1
      simp only [Option.map] at h1
      rcases h2 with ⟨h2, _⟩ | ⟨ds', dp', h2, h3⟩
      · rw [h2] at h1; cases h1
      · rw [h2] at h1
        injection h1 with h1
        injection h1 with e1 e2
        subst e1 e2
        rcases h3 with ⟨h3, _⟩ | ⟨_, n, ov, h4, h5⟩
        · rw [hu] at h3; cases h3
        · rcases h5 with ⟨rfl, _⟩ | ⟨_, h5⟩
          · have hne : trimD ds ≠ [] := by
              rcases h4 with ⟨_, _, h⟩ | ⟨⟨h, _⟩, _⟩ | ⟨⟨h, _⟩, _⟩
              · cases h
              · exact h
              · exact h
            rw [if_neg hne] at h4
            have hgd : Good ds := by
              rcases (rd_rg hd.1).2.2 with h | h
              · simp only at h
                rw [h, trimD_nil] at hne
                exact absurd rfl hne
              · exact h
            have hG := GeT_trim (bits_over (trimD_good hgd).1 h4)
            rcases hT with h | h
            · rw [h, trimD_nil] at hne
              exact absurd rfl hne
            · exact h hG
          · cases h5
theorem good_hex {s : ByteArray} {m : Nat} {x : Int} (hu : usOk s = true) (hL : LHex (stripB s)) (hR : hexRes (bt ((stripB s).extract 2 (stripB s).size)) ((stripB s).extract 2 (stripB s).size).size = some (m, x)) (hT : m = 0 ∨ ¬ GeZ m x) : GoodS s := by
  intro r hr hn
  subst hn
  rcases hr with ⟨_, b⟩ | ⟨_, _, b⟩ | ⟨a, c, res, h1, h2⟩
  · cases b
  · cases b
  · rcases h1 with ⟨_, h1⟩ | ⟨h1, _⟩
    · rcases h1 with ⟨h1, _⟩ | ⟨m', x', c', h1, h6, h7⟩
      · rw [hR] at h1; cases h1
      · rw [hR] at h1
        injection h1 with h1
        injection h1 with e1 e2
        subst e1 e2
        rcases h2 with ⟨h2, _⟩ | ⟨ds', dp', h2, h3⟩
        · rw [h7] at h2; cases h2
        · rw [h7] at h2
          injection h2 with h2
          subst h2
          rcases h3 with ⟨h3, _⟩ | ⟨_, n, ov, h4, h5⟩
          · rw [hu] at h3; cases h3
          · rcases h5 with ⟨rfl, _⟩ | ⟨_, h5⟩
            · have hne : ds' ≠ [] := by
                rcases h4 with ⟨_, _, h⟩ | ⟨⟨h, _⟩, _⟩ | ⟨⟨h, _⟩, _⟩
                · cases h
                · exact h
                · exact h
              have h66 := h6
              rcases h6 with ⟨_, h6⟩ | ⟨h60, h6⟩
              · injection h6 with e1 e2
                exact hne e1
              · have hm0 : m ≠ 0 := fun h => h60 (.inl h)
                have hgd : Good ds' := h6.good (trimD_good (decD_good (by omega))).1
                have hG := hex_ge h66 (bits_over hgd h4)
                rcases hT with h | h
                · exact hm0 h
                · exact h hG
            · cases h5
    · exact h1 hL
theorem exact_lt {m q : Nat} (hm : m < 4503599627370496) (hq : q ≤ 37) : m * 10 ^ q < TT := by
  refine Nat.lt_of_lt_of_le ?_ TT_gt
  have h1 : 10 ^ q ≤ 10 ^ 37 := Nat.pow_le_pow_right (by decide) hq
  have h2 : m * 10 ^ q ≤ 4503599627370496 * 10 ^ 37 := Nat.mul_le_mul (by omega) h1
  exact Nat.lt_of_le_of_lt h2 (by decide)
theorem sF_ok {hx : Bool} {f : Nat → Nat} {n o : Nat} {a : SF} (h : FGo (sF hx f n) (.at o) a) : SFok hx a := by
  induction h with
  | refl => exact SFok.start hx o
  | @step b c h k ih =>
    have hB : 10 ≤ sB hx := by cases hx <;> decide
    have hsm : ∀ {q : SF}, q.mant = b.mant → q.nm = b.nm → q.nd = b.nd → q.i = b.i + 1 → q.dp.natAbs ≤ b.i + 1 → SFok hx q := fun {q} h1 h2 h3 h4 h5 =>
      ⟨by rw [h1, h2]; exact ih.m, by rw [h2]; exact ih.c, by rw [h2, h3]; exact ih.k, by rw [h3, h4]; exact Nat.le_succ_of_le ih.d, by rw [h4]; exact h5⟩
    have hp := ih.p
    have hnd := ih.d
    unfold fs sF at k
    split at k
    · split at k
      · obtain rfl := Option.some.inj k
        exact hsm rfl rfl rfl rfl (by simp only; omega)
      · split at k
        · split at k
          · cases k
          · obtain rfl := Option.some.inj k
            exact hsm rfl rfl rfl rfl (by simp only; omega)
        · split at k
          · rename_i hd
            have h1 := hd.1
            have h2 := hd.2
            split at k
            · obtain rfl := Option.some.inj k
              exact hsm rfl rfl rfl rfl (by simp only; omega)
            · obtain rfl := Option.some.inj k
              exact ih.dig (by omega) _
          · split at k
            · rename_i hl
              obtain ⟨rfl, h1, h2⟩ := hl
              obtain rfl := Option.some.inj k
              exact ih.dig (by have : sB true = 16 := rfl; omega) _
            · cases k
    · cases k
theorem rf_19 {s : ByteArray} {mant i : Nat} {exp : Int} {ng tr : Bool} (h : RfOk s mant exp ng tr false i) : mant < 10000000000000000000 := by
  obtain ⟨_, _, st, z, us, h3, _, _, h6, _⟩ := h
  have h := sF_ok h3.1
  have h1 : st.mant < 10 ^ st.nm := h.m
  have h2 : st.nm ≤ 19 := h.c
  have h4 : 10 ^ st.nm ≤ 10 ^ 19 := Nat.pow_le_pow_right (by decide) h2
  rw [h6]
  exact Nat.lt_of_lt_of_le h1 h4
end Go.Proofs.YtilkcnoooecngaaGreatDoor
