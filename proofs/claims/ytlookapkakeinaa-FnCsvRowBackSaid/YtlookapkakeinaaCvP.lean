/- A row in CSV, in plain words: how a cell is written, and how the cells stand one behind the other. No conditions. -/
import Derived.Test.YtlookapkakeinaaCvB
namespace Go.Proofs.Ytlookapkakeinaa
set_option linter.unusedVariables false
def dbl : List UInt8 → List UInt8
  | [] => []
  | c :: s => if c = 34 then 34 :: 34 :: dbl s else c :: dbl s
theorem dbl_app : ∀ a b : List UInt8, dbl (a ++ b) = dbl a ++ dbl b
  | [], b => rfl
  | c :: a, b => by
    simp only [List.cons_append, dbl, dbl_app a b]
    split <;> simp
theorem dbl_none : ∀ a : List UInt8, (34 : UInt8) ∉ a → dbl a = a
  | [], _ => rfl
  | c :: a, h => by
    have h1 : c ≠ 34 := fun e => h (by simp [e])
    rw [dbl, if_neg h1, dbl_none a (fun e => h (by simp [e]))]
theorem dbl_len : ∀ a : List UInt8, (dbl a).length ≤ 2 * a.length
  | [] => Nat.le_refl _
  | c :: a => by
    have := dbl_len a
    rw [dbl]
    split <;> simp <;> omega
theorem idx_none_of (c : UInt8) : ∀ s : List UInt8, idx [c] s = none → c ∉ s
  | [], _ => by simp
  | d :: s, h => by
    rw [idx] at h
    split at h
    · cases h
    · rename_i e
      have hne : c ≠ d := fun e1 => e (by subst e1; simp [List.isPrefixOf])
      have := idx_none_of c s (by cases hm : idx [c] s with
        | none => rfl
        | some m => rw [hm] at h; cases h)
      simp [hne, this]
theorem idx_take (c : UInt8) : ∀ (s : List UInt8) (n : Nat), idx [c] s = some n → c ∉ s.take n ∧ s = s.take n ++ c :: s.drop (n + 1)
  | [], n, h => by simp [idx] at h
  | d :: s, n, h => by
    rw [idx] at h
    split at h
    · rename_i e
      cases h
      have : c = d := by simpa [List.isPrefixOf] using e
      subst this
      simp
    · rename_i e
      have hne : c ≠ d := fun e1 => e (by subst e1; simp [List.isPrefixOf])
      cases hm : idx [c] s with
      | none => rw [hm] at h; cases h
      | some m =>
        rw [hm] at h
        cases h
        obtain ⟨h1, h2⟩ := idx_take c s m hm
        refine ⟨by simp [hne, h1], ?_⟩
        simp only [List.take_succ_cons, List.drop_succ_cons, List.cons_append]
        rw [← h2]
theorem repF_dbl : ∀ (f : Nat) (s : List UInt8), s.length ≤ f → repF [34] [34, 34] f s = dbl s
  | 0, s, h => by
    have : s = [] := List.eq_nil_of_length_eq_zero (by omega)
    subst this; rfl
  | f + 1, s, h => by
    cases hi : idx [34] s with
    | none => rw [repF_none _ _ _ _ hi, dbl_none _ (idx_none_of 34 s hi)]
    | some n =>
      obtain ⟨h1, h2⟩ := idx_take 34 s n hi
      have hl := (idx_some _ _ _ hi).1
      simp at hl
      rw [repF_some _ _ _ _ _ hi]
      have ih := repF_dbl f (s.drop (n + 1)) (by rw [List.length_drop]; omega)
      have e : ([34] : List UInt8).length = 1 := rfl
      rw [e, ih]
      conv => rhs; rw [h2]
      rw [dbl_app, dbl_none _ h1]
      simp [dbl]
theorem rep_dbl (s : List UInt8) : rep [34] [34, 34] s = dbl s := repF_dbl s.length s (Nat.le_refl _)
def bare (s : List UInt8) : Prop := ∀ b ∈ s, b ≠ 34 ∧ b ≠ 44 ∧ b ≠ 10
/-- How a cell may be written. -/
def Enc (s c : List UInt8) : Prop := c = 34 :: (dbl s ++ [34]) ∨ c = s ∧ bare s
theorem Enc.len {s c : List UInt8} (h : Enc s c) : c.length ≤ 2 * s.length + 2 := by
  rcases h with h | h
  · subst h; have := dbl_len s; simp; omega
  · rw [h.1]; omega
/-- Cells with commas between. -/
def jn : List (List UInt8) → List UInt8
  | [] => []
  | c :: cs => c ++ (match cs with
    | [] => []
    | _ => 44 :: jn cs)
theorem jn_nil : jn [] = [] := rfl
theorem jn_one (c : List UInt8) : jn [c] = c := by simp [jn]
theorem jn_more (c : List UInt8) : ∀ cs : List (List UInt8), cs ≠ [] → jn (c :: cs) = c ++ 44 :: jn cs
  | [], h => absurd rfl h
  | d :: cs, _ => by rw [jn]; simp
theorem jn_snoc (c : List UInt8) : ∀ cs : List (List UInt8), cs ≠ [] → jn (cs ++ [c]) = jn cs ++ 44 :: c
  | [], h => absurd rfl h
  | [d], _ => by simp [jn]
  | d :: e :: cs, _ => by
    have ih := jn_snoc c (e :: cs) (by simp)
    rw [List.cons_append, jn_more d ((e :: cs) ++ [c]) (by simp), ih, jn_more d (e :: cs) (by simp)]
    simp
/-- What is written of the first k texts. -/
def Wrote (ss : List ByteArray) (k : Nat) (l : List UInt8) : Prop := ∃ cs : List (List UInt8), cs.length = k ∧ l = jn cs ∧ ∀ i (h : i < cs.length), Enc (ss.getD i ByteArray.empty).data.toList cs[i]
theorem Wrote.nil (ss : List ByteArray) : Wrote ss 0 [] := ⟨[], rfl, rfl, fun i h => absurd h (by simp)⟩
theorem Wrote.first {ss : List ByteArray} {l c : List UInt8} (h : Wrote ss 0 l) (hc : Enc (ss.getD 0 ByteArray.empty).data.toList c) : Wrote ss 1 (l ++ c) := by
  obtain ⟨cs, hl, rfl, he⟩ := h
  have : cs = [] := List.eq_nil_of_length_eq_zero hl
  subst this
  refine ⟨[c], rfl, by simp [jn], fun i hi => ?_⟩
  have : i = 0 := by simp at hi; omega
  subst this; exact hc
theorem Wrote.next {ss : List ByteArray} {k : Nat} {l c : List UInt8} (h : Wrote ss k l) (hk : 0 < k) (hc : Enc (ss.getD k ByteArray.empty).data.toList c) : Wrote ss (k + 1) (l ++ [44] ++ c) := by
  obtain ⟨cs, hl, rfl, he⟩ := h
  refine ⟨cs ++ [c], by simp [hl], ?_, fun i hi => ?_⟩
  · rw [jn_snoc c cs (by intro e; subst e; simp at hl; omega)]; simp
  · by_cases h1 : i < cs.length
    · rw [List.getElem_append_left h1]; exact he i h1
    · have : i = cs.length := by simp at hi; omega
      subst this
      simp only [List.getElem_append_right (Nat.le_refl _), Nat.sub_self, List.getElem_singleton]
      rw [hl]; exact hc
theorem jn_at (cs : List (List UInt8)) (k : Nat) (h : k < cs.length) : jn (cs.drop k) = cs[k] ++ (if k + 1 < cs.length then 44 :: jn (cs.drop (k + 1)) else []) := by
  rw [List.drop_eq_getElem_cons h]
  by_cases h1 : k + 1 < cs.length
  · rw [if_pos h1, jn_more _ _ (by intro e; have := congrArg List.length e; simp at this; omega)]
  · rw [if_neg h1, List.drop_eq_nil_of_le (by omega), jn_one]; simp
theorem wrote_len {ss : List ByteArray} : ∀ {k : Nat} {cs : List (List UInt8)}, cs.length = k → (∀ i (h : i < cs.length), Enc (ss.getD i ByteArray.empty).data.toList cs[i]) → (jn cs).length ≤ 3 * tot ss k := by
  intro k cs hk he
  have key : ∀ j, j ≤ cs.length → (jn (cs.take j)).length ≤ 3 * tot ss j := by
    intro j
    induction j with
    | zero => intro _; simp [jn]
    | succ j ih =>
      intro hj
      have h1 := ih (by omega)
      have h2 := (he j (by omega)).len
      rw [List.take_succ_eq_append_getElem (by omega)]
      have h3 := Lib.size_eq (ss.getD j ByteArray.empty)
      simp only [tot]
      by_cases h0 : j = 0
      · subst h0
        rw [List.take_zero, List.nil_append, jn_one]
        omega
      · have hne : cs.take j ≠ [] := by
          intro e
          have h4 : (cs.take j).length = 0 := by rw [e]; rfl
          rw [List.length_take] at h4
          omega
        rw [jn_snoc _ _ hne, List.length_append, List.length_cons]
        omega
  have := key cs.length (Nat.le_refl _)
  rw [List.take_length, hk] at this
  exact this
theorem Wrote.len {ss : List ByteArray} {k : Nat} {l : List UInt8} (h : Wrote ss k l) : l.length ≤ 3 * tot ss k := by
  obtain ⟨cs, hk, rfl, he⟩ := h
  exact wrote_len hk he
end Go.Proofs.Ytlookapkakeinaa
