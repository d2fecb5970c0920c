/- Digits: what doubling and halving do to them, in plain Lean; each step told. -/
import Derived.Test.YtilkcnoooecngaaGreatDoorBtP
namespace Go.Proofs.YtilkcnoooecngaaGreatDoor
set_option linter.unusedVariables false
/-- Digits, the greatest first. -/
def vD : List Nat → Nat
  | [] => 0
  | d :: l => d * 10 ^ l.length + vD l
/-- Digits, the least first. -/
def vL : List Nat → Nat
  | [] => 0
  | d :: l => d + 10 * vL l
def Dig (l : List Nat) : Prop := ∀ d ∈ l, d < 10
/-- Digits that do not begin with 0. -/
def Good (l : List Nat) : Prop := Dig l ∧ ∃ d t, l = d :: t ∧ d ≠ 0
def hd : List Nat → Nat
  | [] => 0
  | d :: _ => d
theorem Dig.app {a b : List Nat} (h : Dig a) (h2 : Dig b) : Dig (a ++ b) := fun d hd => (List.mem_append.1 hd).elim (h d) (h2 d)
theorem Dig.one {d : Nat} (h : d < 10) : Dig [d] := fun x hx => by rw [List.mem_singleton.1 hx]; exact h
theorem vL_app (a b : List Nat) : vL (a ++ b) = vL a + 10 ^ a.length * vL b := by
  induction a with
  | nil => simp [vL]
  | cons d a ih =>
    simp only [List.cons_append, vL, ih, List.length_cons, Nat.pow_succ]
    rw [Nat.mul_add, Nat.mul_comm (10 ^ a.length) 10, Nat.mul_assoc]
    omega
theorem vL_snoc (a : List Nat) (d : Nat) : vL (a ++ [d]) = vL a + 10 ^ a.length * d := by rw [vL_app]; simp [vL]
theorem vL_lt {a : List Nat} (h : Dig a) : vL a < 10 ^ a.length := by
  induction a with
  | nil => simp [vL]
  | cons d a ih =>
    have h1 := ih fun x hx => h x (by simp [hx])
    have h2 := h d (by simp)
    simp only [vL, List.length_cons, Nat.pow_succ]
    omega
theorem vD_lt {a : List Nat} (h : Dig a) : vD a < 10 ^ a.length := by
  induction a with
  | nil => simp [vD]
  | cons d a ih =>
    have h1 := ih fun x hx => h x (by simp [hx])
    have h2 := h d (by simp)
    simp only [vD, List.length_cons, Nat.pow_succ]
    have : d * 10 ^ a.length ≤ 9 * 10 ^ a.length := Nat.mul_le_mul_right _ (by omega)
    omega
theorem vD_ge (d : Nat) (t : List Nat) : d * 10 ^ t.length ≤ vD (d :: t) := by simp [vD]
theorem vD_lt2 {d : Nat} {t : List Nat} (h : Dig (d :: t)) : vD (d :: t) < (d + 1) * 10 ^ t.length := by
  have h1 := vD_lt (a := t) fun x hx => h x (by simp [hx])
  simp only [vD, Nat.add_mul, Nat.one_mul]; omega
def dg (l : List Nat) (i : Nat) : Nat := l.getD i 0
/-- A step of doubling. -/
def dblF (l : List Nat) (p : Nat) (s : Nat × List Nat) : Option (Nat × List Nat) :=
  if s.2.length < l.length then some ((s.1 + dg l (l.length - 1 - s.2.length) * p) / 10, s.2 ++ [(s.1 + dg l (l.length - 1 - s.2.length) * p) % 10])
  else if 0 < s.1 then some (s.1 / 10, s.2 ++ [s.1 % 10]) else none
/-- The state of doubling: j digits are written, n is carried. -/
structure Dbl (l : List Nat) (p : Nat) (o : List Nat) (n : Nat) : Prop where
  dig : Dig o
  lt : n < p
  val : vD (l.drop (l.length - o.length)) * p = vL o + 10 ^ o.length * n
  last : l.length ≤ o.length → n = 0 → o.getLast? ≠ some 0
  run : FGo (dblF l p) (0, []) (n, o)
theorem drop_pred {l : List Nat} {j : Nat} (hj : j < l.length) : l.drop (l.length - (j + 1)) = l[l.length - 1 - j]'(by omega) :: l.drop (l.length - j) := by
  rw [show l.length - (j + 1) = l.length - 1 - j by omega, List.drop_eq_getElem_cons (by omega)]
  congr 2
  omega
theorem Dbl.step_in {l : List Nat} {p : Nat} {o : List Nat} {n : Nat} (h : Dbl l p o n) (hp : 1 ≤ p) (hg : Good l) (hj : o.length < l.length) :
    Dbl l p (o ++ [(n + l[l.length - 1 - o.length]'(by omega) * p) % 10]) ((n + l[l.length - 1 - o.length]'(by omega) * p) / 10) := by
  obtain ⟨hd, d0, t, rfl, h0⟩ := hg
  have hx : (d0 :: t)[(d0 :: t).length - 1 - o.length]'(by omega) < 10 := hd _ (List.getElem_mem _)
  have e := drop_pred hj
  have hrun : FGo (dblF (d0 :: t) p) (0, []) ((n + (d0 :: t)[(d0 :: t).length - 1 - o.length]'(by omega) * p) / 10, o ++ [(n + (d0 :: t)[(d0 :: t).length - 1 - o.length]'(by omega) * p) % 10]) := by
    refine h.run.step ?_
    have hdg : dg (d0 :: t) ((d0 :: t).length - 1 - o.length) = (d0 :: t)[(d0 :: t).length - 1 - o.length]'(by omega) := by
      unfold dg
      rw [List.getD_eq_getElem?_getD, List.getElem?_eq_getElem (by omega)]; rfl
    unfold dblF
    rw [if_pos hj, hdg]
  generalize hxe : (d0 :: t)[(d0 :: t).length - 1 - o.length]'(by omega) = x at *
  generalize hm : n + x * p = m at *
  have hx1 : x * p ≤ 9 * p := Nat.mul_le_mul_right _ (by omega)
  have hlt := h.lt
  refine ⟨h.dig.app (Dig.one (Nat.mod_lt _ (by decide))), by omega, ?_, ?_, hrun⟩
  · rw [List.length_append, List.length_singleton, e, vL_snoc]
    have hv := h.val
    simp only [vD, List.length_drop]
    rw [show (d0 :: t).length - ((d0 :: t).length - o.length) = o.length by omega, Nat.add_mul, hv, Nat.pow_succ]
    have h3 : m = m % 10 + 10 * (m / 10) := (Nat.mod_add_div m 10).symm
    have h4 : 10 ^ o.length * m = 10 ^ o.length * (m % 10) + 10 ^ o.length * 10 * (m / 10) := by rw [Nat.mul_assoc, ← Nat.mul_add, ← h3]
    rw [Nat.add_assoc, ← h4, ← hm, Nat.mul_add, Nat.mul_comm x, Nat.mul_assoc]
    omega
  · intro h1 h2
    rw [List.length_append, List.length_singleton] at h1
    have hxd : x = d0 := by
      rw [← hxe]
      have : (d0 :: t).length - 1 - o.length = 0 := by omega
      simp only [this, List.getElem_cons_zero]
    have : 1 * 1 ≤ x * p := Nat.mul_le_mul (by omega) hp
    rw [List.getLast?_append]
    simp
    omega
theorem Dbl.step_out {l : List Nat} {p : Nat} {o : List Nat} {n : Nat} (h : Dbl l p o n) (hj : l.length ≤ o.length) (hn : 0 < n) : Dbl l p (o ++ [n % 10]) (n / 10) := by
  have hlt := h.lt
  refine ⟨h.dig.app (Dig.one (Nat.mod_lt _ (by decide))), by omega, ?_, ?_, h.run.step (by unfold dblF; rw [if_neg (by simp; omega), if_pos hn])⟩
  · have hv := h.val
    rw [show l.length - o.length = 0 by omega] at hv
    rw [List.length_append, List.length_singleton, show l.length - (o.length + 1) = 0 by omega, vL_snoc, hv, Nat.pow_succ]
    have h3 : n = n % 10 + 10 * (n / 10) := (Nat.mod_add_div n 10).symm
    have h4 : 10 ^ o.length * n = 10 ^ o.length * (n % 10) + 10 ^ o.length * 10 * (n / 10) := by rw [Nat.mul_assoc, ← Nat.mul_add, ← h3]
    omega
  · intro h1 h2
    rw [List.getLast?_append]
    simp
    omega
theorem Dbl.start (l : List Nat) (p : Nat) (hp : 1 ≤ p) (hg : Good l) : Dbl l p [] 0 := by
  obtain ⟨_, d0, t, rfl, _⟩ := hg
  exact ⟨fun _ h => absurd h (by simp), hp, by simp [vD, vL], fun h => absurd h (by simp), .refl⟩
/-- It ends: at most 18 digits more. -/
theorem Dbl.few {l : List Nat} {p : Nat} {o : List Nat} {n : Nat} (h : Dbl l p o n) (hg : Good l) (hp : p ≤ 10 ^ 18) (hj : l.length ≤ o.length) (hn : 0 < n) : o.length < l.length + 18 := by
  have hv := h.val
  rw [show l.length - o.length = 0 by omega, List.drop_zero] at hv
  have h1 := vD_lt hg.1
  have h2 : 10 ^ o.length * 1 ≤ 10 ^ o.length * n := Nat.mul_le_mul_left _ hn
  have h3 : vD l * p ≤ vD l * 10 ^ 18 := Nat.mul_le_mul_left _ hp
  have h4 : vD l * 10 ^ 18 < 10 ^ l.length * 10 ^ 18 := Nat.mul_lt_mul_of_pos_right h1 (by decide)
  rw [← Nat.pow_add] at h4
  have h5 : 10 ^ o.length < 10 ^ (l.length + 18) := by omega
  exact (Nat.pow_lt_pow_iff_right (by decide)).1 h5
/-- What doubling gives. -/
structure Dbld (l : List Nat) (p : Nat) (r : List Nat) (e : Nat) : Prop where
  len : r.length = l.length + e
  few : e ≤ 18
  good : Good r
  grow : p < 10 ^ (e + 1)
  up : e = 0 → hd l * p ≤ hd r
  low : hd l < 5 → p = 2 → e = 0
  run : FDone (dblF l p) (0, []) (0, r.reverse)
theorem Dbl.fin {l : List Nat} {p : Nat} {o : List Nat} (h : Dbl l p o 0) (hg : Good l) (hp : p ≤ 10 ^ 18) (hj : l.length ≤ o.length) (hf : o.length ≤ l.length + 18) : Dbld l p o.reverse (o.length - l.length) := by
  have hrun : FDone (dblF l p) (0, []) (0, o.reverse.reverse) := by rw [List.reverse_reverse]; exact h.run.fin (by unfold dblF; rw [if_neg (by simp; omega), if_neg (by simp)])
  have hv := h.val
  rw [show l.length - o.length = 0 by omega, List.drop_zero, Nat.mul_zero, Nat.add_zero] at hv
  have hlast := h.last hj rfl
  obtain ⟨hdig, d0, t, rfl, h0⟩ := hg
  have hu := vL_lt h.dig
  rcases List.eq_nil_or_concat o with rfl | ⟨o', x, rfl⟩
  · simp at hj
  rw [List.concat_eq_append] at *
  have hx : x ≠ 0 := by simpa using hlast
  have hr : (o' ++ [x]).reverse = x :: o'.reverse := by simp
  simp only [List.length_append, List.length_cons, List.length_nil, Nat.zero_add] at hj hf hu ⊢
  have hge := vD_ge d0 t
  have hlt2 := vD_lt2 hdig
  have hd' : Dig o' := fun d hd => h.dig d (by simp [hd])
  rw [vL_snoc] at hv
  have hu' := vL_lt hd'
  refine ⟨by rw [hr]; simp; omega, by omega, ⟨fun d hd => h.dig d (List.mem_reverse.1 hd), x, o'.reverse, hr, hx⟩, ?_, ?_, ?_, hrun⟩
  · have h1 : 1 * 10 ^ t.length * p ≤ vD (d0 :: t) * p := Nat.mul_le_mul_right _ (Nat.le_trans (Nat.mul_le_mul_right _ (by omega)) hge)
    rw [Nat.one_mul] at h1
    have h2 : x < 10 := h.dig x (by simp)
    have h3 : 10 ^ o'.length * x ≤ 10 ^ o'.length * 9 := Nat.mul_le_mul_left _ (by omega)
    have h4 : 10 ^ t.length * p < 10 ^ t.length * 10 ^ (o'.length + 1 - (t.length + 1) + 1) := by
      rw [← Nat.pow_add, show t.length + (o'.length + 1 - (t.length + 1) + 1) = o'.length + 1 by omega, Nat.pow_succ]
      omega
    exact Nat.lt_of_mul_lt_mul_left h4
  · intro he
    have hl : o'.length = t.length := by omega
    rw [hr]
    simp only [hd]
    rw [hl] at hv hu'
    have h1 : d0 * 10 ^ t.length * p ≤ vD (d0 :: t) * p := Nat.mul_le_mul_right _ hge
    have h2 : 10 ^ t.length * (d0 * p) < 10 ^ t.length * (x + 1) := by
      rw [Nat.mul_add, Nat.mul_one, ← Nat.mul_assoc, Nat.mul_comm (10 ^ t.length) d0]
      omega
    have := Nat.lt_of_mul_lt_mul_left h2
    omega
  · intro h5 hp2
    simp only [hd] at h5
    subst hp2
    have h1 : (d0 + 1) * 10 ^ t.length ≤ 5 * 10 ^ t.length := Nat.mul_le_mul_right _ (by omega)
    have h2 : 10 ^ o'.length * 1 ≤ 10 ^ o'.length * x := Nat.mul_le_mul_left _ (by omega)
    have h3 : 10 ^ o'.length < 10 ^ (t.length + 1) := by rw [Nat.pow_succ]; omega
    have := (Nat.pow_lt_pow_iff_right (by decide)).1 h3
    omega
theorem Dbld.uniq {l : List Nat} {p : Nat} {r r' : List Nat} {e e' : Nat} (h : Dbld l p r e) (h' : Dbld l p r' e') : r = r' ∧ e = e' := by
  have := h.run.uniq h'.run
  injection this with _ h2
  have h3 : r = r' := by rw [← List.reverse_reverse r, h2, List.reverse_reverse]
  refine ⟨h3, ?_⟩
  have a := h.len
  have b := h'.len
  rw [h3] at a
  omega
end Go.Proofs.YtilkcnoooecngaaGreatDoor
