/- Numbers as texts, in plain Lean. -/
namespace Go.Proofs.YtilkcnoooecngaaGreatDoor
set_option linter.unusedVariables false
def bt (t : ByteArray) (i : Nat) : Nat := (t.data.toList.getD i 0).toNat
theorem bt_eq (t : ByteArray) (i : Nat) (h : i < t.size) : (t[i]'h).toNat = bt t i := by
  have h' : i < t.data.toList.length := h
  unfold bt
  rw [List.getD_eq_getElem?_getD, List.getElem?_eq_getElem h']
  rfl
theorem bt_lt (t : ByteArray) (i : Nat) : bt t i < 256 := (t.data.toList.getD i 0).toNat_lt
def isD (c : Nat) : Prop := 48 ≤ c ∧ c ≤ 57
instance (c : Nat) : Decidable (isD c) := by unfold isD; infer_instance
/-- The run of digits from i on ends at j. -/
structure Run (f : Nat → Nat) (n i j : Nat) : Prop where
  le : i ≤ j
  ln : j ≤ n
  dig : ∀ q, i ≤ q → q < j → isD (f q)
  stop : j < n → ¬ isD (f j)
theorem Run.uniq {f : Nat → Nat} {n i j k : Nat} (h : Run f n i j) (h2 : Run f n i k) : j = k := by
  rcases Nat.lt_trichotomy j k with hl | hl | hl
  · exact absurd (h2.dig j h.le hl) (h.stop (Nat.lt_of_lt_of_le hl h2.ln))
  · exact hl
  · exact absurd (h.dig k h2.le hl) (h2.stop (Nat.lt_of_lt_of_le hl h.ln))
def Mant (f : Nat → Nat) (n m1 m2 : Nat) : Prop := Run f n 0 m1 ∧ ((m1 < n ∧ f m1 = 46) ∧ Run f n (m1 + 1) m2 ∨ ¬ (m1 < n ∧ f m1 = 46) ∧ m2 = m1)
theorem Mant.uniq {f : Nat → Nat} {n a b c d : Nat} (h : Mant f n a b) (h2 : Mant f n c d) : a = c ∧ b = d := by
  obtain rfl := h.1.uniq h2.1
  refine ⟨rfl, ?_⟩
  rcases h.2 with ⟨e, r⟩ | ⟨e, r⟩ <;> rcases h2.2 with ⟨e2, r2⟩ | ⟨e2, r2⟩
  · exact r.uniq r2
  · exact absurd e e2
  · exact absurd e2 e
  · rw [r, r2]
def sg (f : Nat → Nat) (n i : Nat) : Nat := if i < n ∧ (f i = 43 ∨ f i = 45) then i + 1 else i
def isE (c : Nat) : Prop := c = 101 ∨ c = 69
def Tail (f : Nat → Nat) (n i : Nat) : Prop := i = n ∨ i < n ∧ isE (f i) ∧ ∃ k, Run f n (sg f n (i + 1)) k ∧ k = n ∧ sg f n (i + 1) < k
def NumT (f : Nat → Nat) (n : Nat) : Prop := ∃ m1 m2, Mant f n m1 m2 ∧ (0 < m1 ∨ m1 + 1 < m2) ∧ Tail f n m2
theorem numT_iff {f : Nat → Nat} {n m1 m2 : Nat} (h : Mant f n m1 m2) : NumT f n ↔ (0 < m1 ∨ m1 + 1 < m2) ∧ Tail f n m2 := by
  constructor
  · rintro ⟨a, b, hm, h1, h2⟩
    obtain ⟨rfl, rfl⟩ := h.uniq hm
    exact ⟨h1, h2⟩
  · rintro ⟨h1, h2⟩
    exact ⟨m1, m2, h, h1, h2⟩
theorem tail_end {f : Nat → Nat} {n : Nat} : Tail f n n := .inl rfl
theorem tail_not {f : Nat → Nat} {n i : Nat} (hi : i < n) (h : ¬ isE (f i)) : ¬ Tail f n i := by
  rintro (rfl | ⟨_, h1, _⟩)
  · omega
  · exact h h1
theorem tail_iff {f : Nat → Nat} {n i k : Nat} (hi : i < n) (h : isE (f i)) (hr : Run f n (sg f n (i + 1)) k) : Tail f n i ↔ k = n ∧ sg f n (i + 1) < k := by
  constructor
  · rintro (rfl | ⟨_, _, k', hr', h1, h2⟩)
    · omega
    · obtain rfl := hr.uniq hr'
      exact ⟨h1, h2⟩
  · rintro ⟨h1, h2⟩
    exact .inr ⟨hi, h, k, hr, h1, h2⟩
/-- The text without a sign ahead. -/
def strip (s : ByteArray) : ByteArray := if 0 < s.size ∧ (bt s 0 = 43 ∨ bt s 0 = 45) then s.extract 1 s.size else s
end Go.Proofs.YtilkcnoooecngaaGreatDoor
