/- Carriage returns, by bytes: what becomes of a text; that it has none any more, and as many line ends. No conditions. -/
import Derived.Test.YtadkpooimfbolaaTxt
import Derived.Lib.Join
namespace Go.Proofs.Ytadkpooimfbolaa
open Go.RowKit
set_option linter.unusedVariables false
def ovStep (st : List UInt8 × Nat) (c : UInt8) : List UInt8 × Nat := if c = 13 then (st.1, 0) else (if st.2 < st.1.length then st.1.set st.2 c else st.1 ++ [c], st.2 + 1)
def ovAll (l : List UInt8) : List UInt8 × Nat := l.foldl ovStep ([], 0)
def ovL (l : List UInt8) : List UInt8 := if (13 : UInt8) ∈ l then (ovAll l).1 else l
def crlf (s : List UInt8) : List UInt8 := if (13 : UInt8) ∈ rep [13, 10] [10] s then Lib.join ((sp [10] (rep [13, 10] [10] s)).map ovL) [10] else rep [13, 10] [10] s
theorem idx_one_some (c : UInt8) : ∀ s : List UInt8, c ∈ s → (idx [c] s).isSome = true
  | d :: s, h => by
    by_cases e : c = d
    · subst e; rw [idx, if_pos (by simp [List.isPrefixOf])]; rfl
    · have h2 : c ∈ s := by simpa [e] using h
      have := idx_one_some c s h2
      rw [idx]
      split
      · rfl
      · rw [Option.isSome_map]; exact this
theorem idx_one_iff (c : UInt8) (s : List UInt8) : (idx [c] s).isSome = decide (c ∈ s) := by
  by_cases h : c ∈ s
  · rw [idx_one_some c s h]; simp [h]
  · rw [idx_one_none c s h []]; simp [h]
theorem ovStep_mem (l : List UInt8) : ∀ (st : List UInt8 × Nat) (Q : UInt8 → Prop), (∀ b ∈ st.1, Q b) → (∀ b ∈ l, b ≠ 13 → Q b) → ∀ b ∈ (l.foldl ovStep st).1, Q b := by
  induction l with
  | nil => intro st Q h1 _; exact h1
  | cons c l ih =>
    intro st Q h1 h2
    refine ih (ovStep st c) Q ?_ (fun b hb => h2 b (by simp [hb]))
    unfold ovStep
    split
    · exact h1
    · rename_i hc
      simp only
      split
      · intro b hb
        rcases List.mem_or_eq_of_mem_set hb with hb | rfl
        · exact h1 b hb
        · exact h2 _ (by simp) hc
      · intro b hb
        rcases List.mem_append.1 hb with hb | hb
        · exact h1 b hb
        · simp at hb; subst hb; exact h2 _ (by simp) hc
theorem ovL_mem (l : List UInt8) : ∀ b ∈ ovL l, b ∈ l ∧ b ≠ 13 := by
  unfold ovL
  split
  · exact ovStep_mem l ([], 0) (fun b => b ∈ l ∧ b ≠ 13) (by simp) (fun b hb hc => ⟨hb, hc⟩)
  · rename_i h
    intro b hb
    exact ⟨hb, fun e => h (by rw [← e]; exact hb)⟩
theorem idx_take (c : UInt8) : ∀ (s : List UInt8) (n : Nat), idx [c] s = some n → c ∉ s.take n ∧ s = s.take n ++ c :: s.drop (n + 1)
  | [], n, h => by simp [idx] at h
  | d :: s, n, h => by
    rw [idx] at h
    split at h
    · rename_i e
      cases h
      have : c = d := by simpa [List.isPrefixOf] using e
      subst this
      simp
    · rename_i e
      have hne : c ≠ d := fun e1 => e (by subst e1; simp [List.isPrefixOf])
      cases hm : idx [c] s with
      | none => rw [hm] at h; cases h
      | some m =>
        rw [hm] at h
        cases h
        obtain ⟨h1, h2⟩ := idx_take c s m hm
        refine ⟨by simp [hne, h1], ?_⟩
        simp only [List.take_succ_cons, List.drop_succ_cons, List.cons_append]
        rw [← h2]
theorem spF_count (c : UInt8) : ∀ (f : Nat) (s : List UInt8), s.length ≤ f → (spF [c] f s).length = s.count c + 1
  | 0, s, h => by
    have : s = [] := List.eq_nil_of_length_eq_zero (by omega)
    subst this; simp [spF]
  | f + 1, s, h => by
    cases hi : idx [c] s with
    | none =>
      rw [spF_none _ _ _ hi]
      have : c ∉ s := fun hc => by have := idx_one_some c s hc; rw [hi] at this; cases this
      rw [List.count_eq_zero_of_not_mem this]; rfl
    | some n =>
      obtain ⟨h1, h2⟩ := idx_take c s n hi
      have hl := (idx_some _ _ _ hi).1
      simp at hl
      rw [spF_some _ _ _ _ hi, List.length_cons, spF_count c f _ (by rw [List.length_drop]; simp; omega)]
      conv => rhs; rw [h2]
      rw [List.count_append, List.count_cons_self, List.count_eq_zero_of_not_mem h1]
      simp
theorem spF_mem (c : UInt8) : ∀ (f : Nat) (s : List UInt8), s.length ≤ f → ∀ p ∈ spF [c] f s, c ∉ p ∧ ∀ b ∈ p, b ∈ s
  | 0, s, h => by
    have : s = [] := List.eq_nil_of_length_eq_zero (by omega)
    subst this; simp [spF]
  | f + 1, s, h => by
    cases hi : idx [c] s with
    | none =>
      rw [spF_none _ _ _ hi]
      have : c ∉ s := fun hc => by have := idx_one_some c s hc; rw [hi] at this; cases this
      intro p hp; simp at hp; subst hp; exact ⟨this, fun b hb => hb⟩
    | some n =>
      obtain ⟨h1, h2⟩ := idx_take c s n hi
      have hl := (idx_some _ _ _ hi).1
      simp at hl
      rw [spF_some _ _ _ _ hi]
      intro p hp
      rcases List.mem_cons.1 hp with rfl | hp
      · exact ⟨h1, fun b hb => List.mem_of_mem_take hb⟩
      · obtain ⟨a, b⟩ := spF_mem c f _ (by rw [List.length_drop]; simp; omega) p hp
        exact ⟨a, fun x hx => List.mem_of_mem_drop (b x hx)⟩
theorem sp_lens (c : UInt8) : ∀ (f : Nat) (s : List UInt8), s.length ≤ f → ∀ p ∈ spF [c] f s, p.length ≤ s.length
  | 0, s, h => by intro p hp; simp [spF] at hp; subst hp; exact Nat.le_refl _
  | f + 1, s, h => by
    cases hi : idx [c] s with
    | none => rw [spF_none _ _ _ hi]; intro p hp; simp at hp; subst hp; exact Nat.le_refl _
    | some n =>
      have hl := (idx_some _ _ _ hi).1
      simp at hl
      rw [spF_some _ _ _ _ hi]
      intro p hp
      rcases List.mem_cons.1 hp with rfl | hp
      · simp; omega
      · have := sp_lens c f _ (by rw [List.length_drop]; simp; omega) p hp
        rw [List.length_drop] at this; omega
theorem join_count (c : UInt8) (ls : List (List UInt8)) (hn : ls ≠ []) (h : ∀ p ∈ ls, c ∉ p) : (Lib.join ls [c]).count c + 1 = ls.length := by
  cases ls with
  | nil => exact absurd rfl hn
  | cons x r =>
    rw [Lib.join_cons, List.count_append, List.count_eq_zero_of_not_mem (h x (by simp))]
    have : ∀ r : List (List UInt8), (∀ p ∈ r, c ∉ p) → (Lib.joinTail [c] r).count c = r.length := by
      intro r
      induction r with
      | nil => intro _; simp [Lib.joinTail]
      | cons y r ih =>
        intro h
        have h1 := ih (fun p hp => h p (by simp [hp]))
        simp only [Lib.joinTail, List.map_cons, List.flatten_cons, List.count_append, List.length_cons] at h1 ⊢
        rw [h1, List.count_eq_zero_of_not_mem (h y (by simp))]
        simp
        omega
    rw [this r (fun p hp => h p (by simp [hp]))]
    simp
theorem join_mem (ls : List (List UInt8)) (sep : List UInt8) : ∀ b ∈ Lib.join ls sep, b ∈ sep ∨ ∃ p ∈ ls, b ∈ p := by
  cases ls with
  | nil => intro b hb; simp [Lib.join_nil] at hb
  | cons x r =>
    intro b hb
    rw [Lib.join_cons] at hb
    rcases List.mem_append.1 hb with hb | hb
    · exact .inr ⟨x, by simp, hb⟩
    · simp only [Lib.joinTail, List.mem_flatten, List.mem_map] at hb
      obtain ⟨l, ⟨p, hp, rfl⟩, hb⟩ := hb
      rcases List.mem_append.1 hb with hb | hb
      · exact .inl hb
      · exact .inr ⟨p, by simp [hp], hb⟩
theorem repF_facts : ∀ (f : Nat) (s : List UInt8), s.length ≤ f → (repF [13, 10] [10] f s).count 10 = s.count 10 ∧ (∀ b ∈ repF [13, 10] [10] f s, b ∈ s) ∧ (repF [13, 10] [10] f s).length ≤ s.length
  | 0, s, h => by
    have : s = [] := List.eq_nil_of_length_eq_zero (by omega)
    subst this; simp [repF]
  | f + 1, s, h => by
    cases hi : idx [13, 10] s with
    | none => rw [repF_none _ _ _ _ hi]; exact ⟨rfl, fun b hb => hb, Nat.le_refl _⟩
    | some n =>
      obtain ⟨h1, h2⟩ := idx_some _ _ _ hi
      simp at h1 h2
      have e : s = s.take n ++ ([13, 10] ++ s.drop (n + 2)) := by
        conv => lhs; rw [← List.take_append_drop n s]
        congr 1
        conv => lhs; rw [← List.take_append_drop 2 (s.drop n)]
        rw [h2, List.drop_drop]
      obtain ⟨a, b, c⟩ := repF_facts f (s.drop (n + 2)) (by rw [List.length_drop]; omega)
      rw [repF_some _ _ _ _ _ hi]
      simp only [List.length_cons, List.length_nil]
      refine ⟨?_, ?_, ?_⟩
      · conv => rhs; rw [e]
        rw [List.count_append, List.count_append, a, List.count_append, List.count_append]
        simp
        omega
      · intro x hx
        rw [e]
        rcases List.mem_append.1 hx with hx | hx
        · rcases List.mem_append.1 hx with hx | hx
          · simp [hx]
          · simp at hx; subst hx; simp
        · have := b x hx
          simp [this]
      · rw [List.length_append, List.length_append, List.length_take]
        rw [List.length_drop] at c
        simp; omega
theorem rep_facts (s : List UInt8) : (rep [13, 10] [10] s).count 10 = s.count 10 ∧ (∀ b ∈ rep [13, 10] [10] s, b ∈ s) ∧ (rep [13, 10] [10] s).length ≤ s.length := repF_facts s.length s (Nat.le_refl _)
theorem sp_ne (sep s : List UInt8) : sp sep s ≠ [] := by
  unfold sp
  cases hs : s.length with
  | zero => simp [spF]
  | succ f =>
    cases hi : idx sep s with
    | none => rw [spF_none _ _ _ hi]; simp
    | some n => rw [spF_some _ _ _ _ hi]; simp
theorem crlf_facts (s : List UInt8) : (crlf s).count 10 = s.count 10 ∧ (13 : UInt8) ∉ crlf s ∧ ∀ b ∈ crlf s, b ∈ s ∨ b = 10 := by
  obtain ⟨r1, r2, r3⟩ := rep_facts s
  unfold crlf
  split
  · rename_i h
    generalize rep [13, 10] [10] s = t at *
    have hm := spF_mem 10 t.length t (Nat.le_refl _)
    have hc := spF_count 10 t.length t (Nat.le_refl _)
    have hne : (sp [10] t).map ovL ≠ [] := by simp [sp_ne]
    have hp : ∀ p ∈ (sp [10] t).map ovL, (10 : UInt8) ∉ p := by
      intro p hp
      obtain ⟨q, hq, rfl⟩ := List.mem_map.1 hp
      exact fun h10 => (hm q hq).1 (ovL_mem q 10 h10).1
    have hj := join_count 10 _ hne hp
    rw [List.length_map] at hj
    unfold sp at hj ⊢
    rw [hc] at hj
    refine ⟨by omega, ?_, ?_⟩
    · intro h13
      rcases join_mem _ _ _ h13 with h | ⟨p, hp, h⟩
      · simp at h
      · obtain ⟨q, hq, rfl⟩ := List.mem_map.1 hp
        exact (ovL_mem q 13 h).2 rfl
    · intro b hb
      rcases join_mem _ _ _ hb with h | ⟨p, hp, h⟩
      · right; simpa using h
      · obtain ⟨q, hq, rfl⟩ := List.mem_map.1 hp
        exact .inl (r2 _ ((hm q hq).2 b (ovL_mem q b h).1))
  · rename_i h
    exact ⟨r1, h, fun b hb => .inl (r2 b hb)⟩
theorem idx_pair_none : ∀ s : List UInt8, (13 : UInt8) ∉ s → idx [13, 10] s = none := fun s h => idx_one_none 13 s h [10]
theorem crlf_again (s : List UInt8) (h : (13 : UInt8) ∉ s) : crlf s = s := by
  have e : rep [13, 10] [10] s = s := rep_none _ _ _ (idx_pair_none s h)
  unfold crlf
  rw [e, if_neg h]
end Go.Proofs.Ytadkpooimfbolaa
