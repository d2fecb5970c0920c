/- Dividing a text of letters and digits where its kind changes: two ways that agree. Plain Lean. No conditions. -/
import Derived.Test.YtenmkoaimmnpdaaDoorBase
namespace Go.Proofs.YtenmkoaimmnpdaaDoor
set_option linter.unusedVariables false
def kd (x : UInt8) : Nat := if 97 ≤ x.toNat ∧ x.toNat ≤ 122 then 0 else if 65 ≤ x.toNat ∧ x.toNat ≤ 90 then 1 else if 48 ≤ x.toNat ∧ x.toNat ≤ 57 then 2 else 3
def cutB (was k : Nat) (nxt : Option Nat) : Bool := (k != was && !(k == 0 && was == 1)) || (k == 1 && was == 1 && nxt == some 0)
def lastOf (l : List UInt8) : UInt8 := l.getLast?.getD 0
def spC : List UInt8 → List UInt8 → List (List UInt8)
  | cur, [] => [cur]
  | cur, x :: rest => if cutB (kd (lastOf cur)) (kd x) (rest.head?.map kd) = true then cur :: spC [x] rest else spC (cur ++ [x]) rest
def camel : List UInt8 → List (List UInt8)
  | [] => []
  | x :: r => spC [x] r
theorem lastOf_snoc (l : List UInt8) (x : UInt8) : lastOf (l ++ [x]) = x := by simp [lastOf]
theorem sp_run (k : Nat) : ∀ (y R cur : List UInt8), kd (lastOf cur) = k → (∀ z ∈ y, kd z = k) → (k = 1 → R.head?.map kd ≠ some 0) → spC cur (y ++ R) = spC (cur ++ y) R
  | [], R, cur, _, _, _ => by simp
  | z :: y, R, cur, hc, hy, hR => by
    have hz := hy z (by simp)
    rw [List.cons_append, spC, hc, hz]
    have hcut : cutB k k ((y ++ R).head?.map kd) = false := by
      unfold cutB
      by_cases h1 : k = 1
      · have hne : (y ++ R).head?.map kd ≠ some 0 := by
          cases y with
          | nil => exact hR h1
          | cons w y =>
            have := hy w (by simp)
            simp; omega
        have hb : ((y ++ R).head?.map kd == some 0) = false := by rw [beq_eq_false_iff_ne]; exact hne
        rw [hb]; simp
      · simp [h1]
    rw [hcut, if_neg (by simp), sp_run k y R (cur ++ [z]) (by rw [lastOf_snoc, hz]) (fun x hx => hy x (by simp [hx])) hR]
    simp
theorem sp_cut (k : Nat) (z : UInt8) (R cur : List UInt8) (hc : kd (lastOf cur) = k) (hz : kd z ≠ k) (h : ¬ (kd z = 0 ∧ k = 1)) : spC cur (z :: R) = cur :: spC [z] R := by
  rw [spC, hc, if_pos]
  unfold cutB
  by_cases h0 : kd z = 0
  · have : k ≠ 1 := fun h1 => h ⟨h0, h1⟩
    simp [h0, this]; omega
  · simp [h0, hz]
def hk (g : List UInt8) : Nat := kd (g.headD 0)
def nextk (t : List (List UInt8)) : Option Nat := t.head?.map hk
def WF : List (List UInt8) → Prop
  | [] => True
  | g :: t => g ≠ [] ∧ (∀ x ∈ g, kd x = hk g) ∧ nextk t ≠ some (hk g) ∧ WF t
theorem hk_snoc {g : List UInt8} (h : g ≠ []) (x : UInt8) : hk (g ++ [x]) = hk g := by cases g with | nil => exact absurd rfl h | cons a g => rfl
theorem wf_last : ∀ (D : List (List UInt8)) (g : List UInt8), WF (D ++ [g]) → g ≠ [] ∧ (∀ x ∈ g, kd x = hk g)
  | [], g, h => ⟨h.1, h.2.1⟩
  | d :: D, g, h => wf_last D g h.2.2.2
theorem next_snoc {g : List UInt8} (h : g ≠ []) (x : UInt8) (D : List (List UInt8)) : nextk (D ++ [g ++ [x]]) = nextk (D ++ [g]) := by
  cases D with
  | nil => simp [nextk, hk_snoc h]
  | cons d D => rfl
theorem wf_add (x : UInt8) : ∀ (D : List (List UInt8)) (g : List UInt8), WF (D ++ [g]) → kd x = hk g → WF (D ++ [g ++ [x]])
  | [], g, h, hx => by
    refine ⟨by simp, fun z hz => ?_, by simp [nextk], trivial⟩
    rw [hk_snoc h.1]
    rcases List.mem_append.1 hz with hz | hz
    · exact h.2.1 z hz
    · simp at hz; subst hz; exact hx
  | d :: D, g, h, hx => ⟨h.1, h.2.1, by show nextk (D ++ [g ++ [x]]) ≠ _; rw [next_snoc (wf_last D g h.2.2.2).1]; exact h.2.2.1, wf_add x D g h.2.2.2 hx⟩
theorem wf_new (x : UInt8) : ∀ (D : List (List UInt8)) (g : List UInt8), WF (D ++ [g]) → kd x ≠ hk g → WF (D ++ [g] ++ [[x]])
  | [], g, h, hx => ⟨h.1, h.2.1, by show some (kd x) ≠ some (hk g); intro e; injection e with e; exact hx e, by simp, by simp [hk], by simp [nextk], trivial⟩
  | d :: D, g, h, hx => ⟨h.1, h.2.1, by
      have : nextk (D ++ [g] ++ [[x]]) = nextk (D ++ [g]) := by cases D <;> rfl
      show nextk (D ++ [g] ++ [[x]]) ≠ _; rw [this]; exact h.2.2.1, wf_new x D g h.2.2.2 hx⟩
def mv : List (List UInt8) → List (List UInt8)
  | [] => []
  | [g] => [g]
  | g :: h :: t => if hk g = 1 ∧ hk h = 0 then g.dropLast :: mv ((lastOf g :: h) :: t) else g :: mv (h :: t)
termination_by G => G.length
def kept (G : List (List UInt8)) : List (List UInt8) := G.filter fun g => !g.isEmpty
theorem kept_cons (x : UInt8) (g : List UInt8) (G : List (List UInt8)) : kept ((x :: g) :: G) = (x :: g) :: kept G := by simp [kept]
theorem lastOf_same {g : List UInt8} {k : Nat} (hne : g ≠ []) (h : ∀ x ∈ g, kd x = k) : kd (lastOf g) = k := by
  unfold lastOf
  rw [List.getLast?_eq_some_getLast hne]
  exact h _ (List.getLast_mem hne)
mutual
theorem mvA : ∀ (t : List (List UInt8)) (x : UInt8) (y : List UInt8), WF ((x :: y) :: t) → kept (mv ((x :: y) :: t)) = spC [x] (y ++ t.flatten)
  | [], x, y, h => by
    have hy : ∀ z ∈ y, kd z = kd x := fun z hz => h.2.1 z (by simp [hz])
    rw [mv, kept_cons, List.flatten_nil, sp_run (kd x) y [] [x] rfl hy (by simp), spC]
    rfl
  | [] :: t, x, y, h => absurd rfl h.2.2.2.1
  | (z :: h') :: t, x, y, h => by
    have hy : ∀ w ∈ y, kd w = kd x := fun w hw => h.2.1 w (by simp [hw])
    have hzx : kd z ≠ kd x := fun e => h.2.2.1 (by simp [nextk, hk, e])
    have hh := h.2.2.2
    rw [mv]
    by_cases hc : hk (x :: y) = 1 ∧ hk (z :: h') = 0
    · rw [if_pos hc]
      obtain ⟨c1, c2⟩ := hc
      have hx1 : kd x = 1 := c1
      rcases List.eq_nil_or_concat y with rfl | ⟨y1, l, rfl⟩
      · have := mvB t x (z :: h') hx1 c2 hh
        rw [show lastOf [x] = x from rfl]
        simpa [kept] using this
      · rw [List.concat_eq_append] at *
        have hl : kd l = 1 := by rw [hy l (by simp), hx1]
        have := mvB t l (z :: h') hl c2 hh
        rw [show x :: (y1 ++ [l]) = (x :: y1) ++ [l] by simp, lastOf_snoc, List.dropLast_concat, kept_cons, this, List.append_assoc,
          sp_run 1 y1 _ [x] hx1 (fun w hw => by rw [hy w (by simp [hw]), hx1]) (fun _ => by simp [hl])]
        show _ = spC ([x] ++ y1) (l :: ((z :: h') :: t).flatten)
        rw [spC, if_pos]
        · simp
        · have hlast : kd (lastOf ([x] ++ y1)) = 1 := lastOf_same (by simp) (fun w hw => by
            rcases List.mem_append.1 hw with hw | hw
            · simp at hw; subst hw; exact hx1
            · rw [hy w (by simp [hw]), hx1])
          rw [hlast, hl]
          have : kd z = 0 := c2
          simp [cutB, this]
    · rw [if_neg hc, kept_cons, mvA t z h' hh]
      have hcur : kd (lastOf ([x] ++ y)) = kd x := lastOf_same (by simp) (fun w hw => by
        rcases List.mem_append.1 hw with hw | hw
        · simp at hw; subst hw; rfl
        · exact hy w hw)
      rw [sp_run (kd x) y _ [x] rfl hy (fun h1 => by simp; exact fun h0 => hc ⟨h1, h0⟩), List.flatten_cons]
      show _ = spC ([x] ++ y) (z :: _)
      rw [sp_cut (kd x) z _ _ hcur hzx (fun h0 => hc ⟨h0.2, h0.1⟩)]
      rfl
theorem mvB : ∀ (t : List (List UInt8)) (x : UInt8) (h : List UInt8), kd x = 1 → hk h = 0 → WF (h :: t) → kept (mv ((x :: h) :: t)) = spC [x] (h ++ t.flatten)
  | t, x, [], hx, h0, hw => absurd rfl hw.1
  | [], x, z :: h', hx, h0, hw => by
    have hz : kd z = 0 := h0
    have hy : ∀ w ∈ h', kd w = 0 := fun w hw' => (hw.2.1 w (by simp [hw'])).trans h0
    rw [mv, kept_cons, List.flatten_nil, List.cons_append, spC, if_neg (by rw [show lastOf [x] = x from rfl, hx, hz]; simp [cutB]),
      sp_run 0 h' [] ([x] ++ [z]) (by rw [lastOf_snoc, hz]) hy (by simp), spC]
    rfl
  | [] :: t, x, z :: h', hx, h0, hw => absurd rfl hw.2.2.2.1
  | (z2 :: h2) :: t, x, z :: h', hx, h0, hw => by
    have hz : kd z = 0 := h0
    have hy : ∀ w ∈ h', kd w = 0 := fun w hw' => (hw.2.1 w (by simp [hw'])).trans h0
    have hz2 : kd z2 ≠ 0 := fun e => hw.2.2.1 (by simp [nextk, hk, e, hz])
    rw [mv, if_neg (fun hc => hz2 hc.2), kept_cons, mvA t z2 h2 hw.2.2.2, List.cons_append, spC, if_neg (by rw [show lastOf [x] = x from rfl, hx, hz]; simp [cutB]),
      sp_run 0 h' _ ([x] ++ [z]) (by rw [lastOf_snoc, hz]) hy (by simp), List.flatten_cons]
    have hcur : kd (lastOf ([x] ++ [z] ++ h')) = 0 := by
      rcases List.eq_nil_or_concat h' with rfl | ⟨y1, l, rfl⟩
      · rw [List.append_nil, lastOf_snoc, hz]
      · rw [List.concat_eq_append, ← List.append_assoc, lastOf_snoc]
        exact hy l (by simp)
    show _ = spC ([x] ++ [z] ++ h') (z2 :: _)
    rw [sp_cut 0 z2 _ _ hcur hz2 (fun h => hz2 h.1)]
    rfl
end
theorem mv_camel (G : List (List UInt8)) (h : WF G) : kept (mv G) = camel G.flatten := by
  match G, h with
  | [], _ => simp [mv, kept, camel]
  | [] :: t, h => exact absurd rfl h.1
  | (x :: y) :: t, h => rw [mvA t x y h]; rfl
end Go.Proofs.YtenmkoaimmnpdaaDoor
