/- Digits: what halving does to them, in plain Lean. -/
import Derived.Test.YtilkcnoooecngaaGreatDoorBtQ
namespace Go.Proofs.YtilkcnoooecngaaGreatDoor
set_option linter.unusedVariables false
theorem dg_lt {l : List Nat} (h : Dig l) (i : Nat) : dg l i < 10 := by
  unfold dg
  by_cases hi : i < l.length
  · rw [List.getD_eq_getElem?_getD, List.getElem?_eq_getElem hi]; exact h _ (List.getElem_mem _)
  · rw [List.getD_eq_getElem?_getD, List.getElem?_eq_none (by omega)]; decide
theorem dg_in {l : List Nat} {i : Nat} (hi : i < l.length) : l[i]? = some (dg l i) := by
  unfold dg
  rw [List.getD_eq_getElem?_getD, List.getElem?_eq_getElem hi]; rfl
theorem dg_out {l : List Nat} {i : Nat} (hi : l.length ≤ i) : dg l i = 0 := by
  unfold dg
  rw [List.getD_eq_getElem?_getD, List.getElem?_eq_none hi]; rfl
theorem dg_zero (l : List Nat) : dg l 0 = hd l := by cases l <;> rfl
theorem pow_dvd_mul10 {j n : Nat} (h : 2 ^ j ∣ n) : 2 ^ (j + 1) ∣ n * 10 := by
  obtain ⟨c, rfl⟩ := h
  exact ⟨c * 5, by rw [Nat.pow_succ, Nat.mul_assoc, Nat.mul_assoc]; congr 1; omega⟩
theorem pow_dvd_mod {j k n : Nat} (h : 2 ^ j ∣ n) : 2 ^ (j + 1) ∣ n % 2 ^ k * 10 := by
  by_cases hjk : j ≤ k
  · exact pow_dvd_mul10 ((Nat.dvd_mod_iff (Nat.pow_dvd_pow 2 hjk)).2 h)
  · have h1 : 2 ^ k ∣ n := Nat.dvd_trans (Nat.pow_dvd_pow 2 (by omega)) h
    rw [Nat.mod_eq_zero_of_dvd h1]
    simp
/-- Steps of halving: the first digits gathered; digits written. -/
def hfF (l : List Nat) (k : Nat) (s : Nat × Nat) : Option (Nat × Nat) := if s.2 < 2 ^ k then some (s.1 + 1, s.2 * 10 + dg l s.1) else none
def hsF (l : List Nat) (k : Nat) (s : Nat × Nat × List Nat) : Option (Nat × Nat × List Nat) :=
  if s.1 < l.length ∨ 0 < s.2.1 then some (s.1 + 1, s.2.1 % 2 ^ k * 10 + dg l s.1, s.2.2 ++ [s.2.1 / 2 ^ k]) else none
/-- The first digits are gathered. -/
structure Hf (l : List Nat) (k i n : Nat) : Prop where
  bnd : n < 10 * 2 ^ k
  rng : i = 0 ∧ n = 0 ∨ 1 ≤ i ∧ 10 ^ (i - 1) ≤ n ∧ n < 10 ^ i
  one : i = 1 → n = hd l
  pre : 2 ≤ i → 10 ^ (i - 2) < 2 ^ k
  dvd : l.length ≤ i → 2 ^ (i - l.length) ∣ n
  run : FGo (hfF l k) (0, 0) (i, n)
theorem Hf.start (l : List Nat) (k : Nat) : Hf l k 0 0 :=
  ⟨Nat.mul_pos (by decide) (Nat.two_pow_pos k), .inl ⟨rfl, rfl⟩, fun h => absurd h (by decide), fun h => absurd h (by decide), fun _ => Nat.dvd_zero _, .refl⟩
theorem Hf.step {l : List Nat} {k i n : Nat} (h : Hf l k i n) (hg : Good l) (hn : n < 2 ^ k) : Hf l k (i + 1) (n * 10 + dg l i) := by
  have hd1 := dg_lt hg.1 i
  refine ⟨by omega, .inr ⟨by omega, ?_, ?_⟩, ?_, ?_, ?_, h.run.step (by unfold hfF; rw [if_pos hn])⟩
  · rcases h.rng with ⟨rfl, rfl⟩ | ⟨h1, h2, h3⟩
    · obtain ⟨_, d, t, rfl, h0⟩ := hg
      simp [dg]; omega
    · rw [Nat.add_sub_cancel]
      have : 10 ^ i = 10 ^ (i - 1) * 10 := by rw [← Nat.pow_succ]; congr 1; omega
      omega
  · rcases h.rng with ⟨rfl, rfl⟩ | ⟨h1, h2, h3⟩
    · simp; omega
    · rw [Nat.pow_succ]; omega
  · intro h1
    obtain rfl : i = 0 := by omega
    rcases h.rng with ⟨_, rfl⟩ | ⟨h1, _⟩
    · rw [dg_zero]; omega
    · omega
  · intro h1
    rcases h.rng with ⟨rfl, rfl⟩ | ⟨h1, h2, h3⟩
    · omega
    · rw [show i + 1 - 2 = i - 1 by omega]; omega
  · intro h1
    by_cases hi : l.length ≤ i
    · rw [dg_out hi, Nat.add_zero, show i + 1 - l.length = (i - l.length) + 1 by omega]
      exact pow_dvd_mul10 (h.dvd hi)
    · rw [show i + 1 - l.length = 0 by omega]; simp
theorem Hf.few {l : List Nat} {k i n : Nat} (h : Hf l k i n) (hk : k ≤ 59) (hn : n < 2 ^ k) : i < 19 := by
  rcases h.rng with ⟨rfl, _⟩ | ⟨h1, h2, _⟩
  · decide
  · have h3 : 2 ^ k ≤ 2 ^ 59 := Nat.pow_le_pow_right (by decide) hk
    have h4 : (2 : Nat) ^ 59 < 10 ^ 18 := by decide
    have h5 : 10 ^ (i - 1) < 10 ^ 18 := by omega
    have := (Nat.pow_lt_pow_iff_right (by decide)).1 h5
    omega
/-- Digits are written, n is what stays. -/
structure Hs (l : List Nat) (k i1 n1 : Nat) (i : Nat) (o : List Nat) (n : Nat) : Prop where
  bnd : n < 10 * 2 ^ k
  len : i = i1 + o.length
  dig : Dig o
  head : o = [] ∧ n = n1 ∨ ∃ t, o = (n1 / 2 ^ k) :: t
  dvd : l.length ≤ i → 2 ^ (i - l.length) ∣ n
  few : o.length ≤ l.length + k + 4
  run : FGo (hsF l k) (i1, n1, []) (i, n, o)
theorem Hs.start {l : List Nat} {k i n : Nat} (h : Hf l k i n) : Hs l k i n i [] n :=
  ⟨h.bnd, rfl, fun _ h => absurd h (by simp), .inl ⟨rfl, rfl⟩, h.dvd, by simp, .refl⟩
theorem Hs.lt {l : List Nat} {k i1 n1 i n : Nat} {o : List Nat} (h : Hs l k i1 n1 i o n) (hc : i < l.length ∨ 0 < n) : i < l.length + k + 4 := by
  by_cases hi : l.length ≤ i
  · have hn : 0 < n := by omega
    have h1 := Nat.le_of_dvd hn (h.dvd hi)
    have h2 := h.bnd
    have h3 : 2 ^ (k + 4) = 2 ^ k * 16 := by rw [Nat.pow_add]
    have h4 : 2 ^ (i - l.length) < 2 ^ (k + 4) := by omega
    have := (Nat.pow_lt_pow_iff_right (by decide)).1 h4
    omega
  · omega
theorem div_lt10 {n p : Nat} (h : n < 10 * p) : n / p < 10 := Nat.div_lt_of_lt_mul (by rw [Nat.mul_comm]; exact h)
theorem Hs.step {l : List Nat} {k i1 n1 i n : Nat} {o : List Nat} (h : Hs l k i1 n1 i o n) (hg : Good l) (hc : i < l.length ∨ 0 < n) :
    Hs l k i1 n1 (i + 1) (o ++ [n / 2 ^ k]) (n % 2 ^ k * 10 + dg l i) := by
  have hd1 := dg_lt hg.1 i
  have hm := Nat.mod_lt n (Nat.two_pow_pos k)
  have hl := h.lt hc
  have hlen := h.len
  refine ⟨by omega, by simp; omega, h.dig.app (Dig.one (div_lt10 h.bnd)), .inr ?_, ?_, by simp; omega, h.run.step (by unfold hsF; rw [if_pos hc])⟩
  · rcases h.head with ⟨rfl, rfl⟩ | ⟨t, rfl⟩
    · exact ⟨[], rfl⟩
    · exact ⟨t ++ [n / 2 ^ k], rfl⟩
  · intro h1
    by_cases hi : l.length ≤ i
    · rw [dg_out hi, Nat.add_zero, show i + 1 - l.length = (i - l.length) + 1 by omega]
      exact pow_dvd_mod (h.dvd hi)
    · rw [show i + 1 - l.length = 0 by omega]; simp
/-- What halving gives: i digits make the first one. -/
structure Halfd (l : List Nat) (k : Nat) (r : List Nat) (i : Nat) : Prop where
  pos : 1 ≤ i
  few : i ≤ 19
  good : Good r
  len : r.length ≤ l.length + k + 4
  grow : 2 ^ k < 10 ^ i
  one : i = 1 → hd r = hd l / 2 ^ k
  run : ∃ n j, FDone (hfF l k) (0, 0) (i, n) ∧ FDone (hsF l k) (i, n, []) (j, 0, r)
theorem Hs.fin {l : List Nat} {k i1 n1 i : Nat} {o : List Nat} (h1 : Hf l k i1 n1) (h : Hs l k i1 n1 i o 0) (hn : 2 ^ k ≤ n1) (hf : i1 ≤ 19) (hil : l.length ≤ i) : Halfd l k o i1 := by
  have hrun : ∃ n j, FDone (hfF l k) (0, 0) (i1, n) ∧ FDone (hsF l k) (i1, n, []) (j, 0, o) := ⟨n1, i, h1.run.fin (by unfold hfF; rw [if_neg (by simp; omega)]), h.run.fin (by unfold hsF; rw [if_neg (by simp; omega)])⟩
  have hp := Nat.two_pow_pos k
  rcases h.head with ⟨rfl, h0⟩ | ⟨t, rfl⟩
  · omega
  have hi : 1 ≤ i1 ∧ 10 ^ (i1 - 1) ≤ n1 ∧ n1 < 10 ^ i1 := by
    rcases h1.rng with ⟨_, h0⟩ | hr
    · omega
    · exact hr
  refine ⟨hi.1, hf, ⟨h.dig, _, t, rfl, ?_⟩, h.few, by omega, fun he => ?_, hrun⟩
  · have := Nat.div_pos hn hp; omega
  · rw [← h1.one he]; rfl
theorem Halfd.uniq {l : List Nat} {k : Nat} {r r' : List Nat} {i i' : Nat} (h : Halfd l k r i) (h' : Halfd l k r' i') : r = r' ∧ i = i' := by
  obtain ⟨n, j, a, b⟩ := h.run
  obtain ⟨n', j', a', b'⟩ := h'.run
  have e := a.uniq a'
  injection e with e1 e2
  subst e1 e2
  have e := b.uniq b'
  injection e with _ e
  injection e with _ e
  exact ⟨e, rfl⟩
end Go.Proofs.YtilkcnoooecngaaGreatDoor
