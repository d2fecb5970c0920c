/- What read has read, told: in plain Lean. -/
import Derived.Test.YtilkcnoooecngaaGreatDoorBtC
namespace Go.Proofs.YtilkcnoooecngaaGreatDoor
open Go.RowKit
set_option linter.unusedVariables false
/-- The end that a walk by steps comes to. -/
noncomputable def fin {S : Type} (f : S → Option S) (a : S) : S := @Classical.epsilon S ⟨a⟩ (FDone f a)
theorem FDone.eq {S : Type} {f : S → Option S} {a b : S} (h : FDone f a b) : fin f a = b := FDone.uniq (@Classical.epsilon_spec S (FDone f a) ⟨b, h⟩) h
/-- lower. -/
def lw (c : Nat) : Int := bits .or .u8 (c : Int) 32
abbrev RS := Nat × Bool × Bool × List Nat × Int
open Classical in
/-- A step over a decimal's characters: some digit, a point, the digits, the point's place. -/
noncomputable def rdF (f : Nat → Nat) (n : Nat) (s : RS) : Option RS :=
  if s.1 < n then
    if f s.1 = 95 then some (s.1 + 1, s.2.1, s.2.2.1, s.2.2.2.1, s.2.2.2.2)
    else if f s.1 = 46 ∧ s.2.2.1 = false then some (s.1 + 1, s.2.1, true, s.2.2.2.1, s.2.2.2.2)
    else if isD (f s.1) then
      if s.2.2.2.1 ≠ [] ∨ f s.1 ≠ 48 then some (s.1 + 1, true, s.2.2.1, s.2.2.2.1 ++ [f s.1 - 48], if s.2.2.1 = true then s.2.2.2.2 else s.2.2.2.2 + 1)
      else some (s.1 + 1, true, s.2.2.1, s.2.2.2.1, if s.2.2.1 = true then s.2.2.2.2 - 1 else s.2.2.2.2)
    else none
  else none
open Classical in
/-- A step over an exponent's characters. -/
noncomputable def exF (f : Nat → Nat) (n : Nat) (s : Nat × Nat) : Option (Nat × Nat) :=
  if s.1 < n ∧ (isD (f s.1) ∨ f s.1 = 95) then some (s.1 + 1, if f s.1 ≠ 95 ∧ s.2 < 10000 then s.2 * 10 + (f s.1 - 48) else s.2) else none
open Classical in
/-- What stands behind an exponent's mark at i. -/
noncomputable def expRes (f : Nat → Nat) (n i : Nat) : Option Int :=
  if sg f n (i + 1) < n ∧ isD (f (sg f n (i + 1))) then
    if (fin (exF f n) (sg f n (i + 1), 0)).1 < n then none
    else some (if i + 1 < n ∧ f (i + 1) = 45 then -((fin (exF f n) (sg f n (i + 1), 0)).2 : Int) else ((fin (exF f n) (sg f n (i + 1), 0)).2 : Int))
  else none
open Classical in
/-- What stands behind the digits. -/
noncomputable def tailRes (mk : Int) (hex : Bool) (f : Nat → Nat) (n i : Nat) : Option Int :=
  if i < n ∧ lw (f i) = mk then expRes f n i else if hex = true ∨ i < n then none else some 0
noncomputable def decRes (f : Nat → Nat) (n : Nat) : Option (List Nat × Int) :=
  if (fin (rdF f n) (0, false, false, [], 0)).2.1 = true then
    (tailRes 101 false f n (fin (rdF f n) (0, false, false, [], 0)).1).map fun e =>
      (trimD (fin (rdF f n) (0, false, false, [], 0)).2.2.2.1, if trimD (fin (rdF f n) (0, false, false, [], 0)).2.2.2.1 = [] then 0 else (fin (rdF f n) (0, false, false, [], 0)).2.2.2.2 + e)
  else none
theorem decRes_eq {f : Nat → Nat} {n i : Nat} {sm dot : Bool} {ds : List Nat} {dp : Int} (h : FDone (rdF f n) (0, false, false, [], 0) (i, sm, dot, ds, dp)) :
    decRes f n = if sm = true then (tailRes 101 false f n i).map fun e => (trimD ds, if trimD ds = [] then 0 else dp + e) else none := by
  unfold decRes
  rw [h.eq]
theorem exp_none {f : Nat → Nat} {n i j : Nat} (hj : sg f n (i + 1) = j) (h : ¬ (j < n ∧ isD (f j))) : expRes f n i = none := by
  unfold expRes
  rw [hj, if_neg h]
theorem exp_some {f : Nat → Nat} {n i j k x : Nat} (hj : sg f n (i + 1) = j) (h : j < n ∧ isD (f j)) (hd : FDone (exF f n) (j, 0) (k, x)) :
    expRes f n i = if k < n then none else some (if i + 1 < n ∧ f (i + 1) = 45 then -(x : Int) else (x : Int)) := by
  unfold expRes
  rw [hj, if_pos h, hd.eq]
/-- The digits kept of i characters, and the point. -/
def Rg (i : Nat) (ds : List Nat) (dp : Int) : Prop := ds.length ≤ i ∧ dp.natAbs ≤ i ∧ (ds = [] ∨ Good ds)
theorem Rg.start : Rg 0 [] 0 := ⟨Nat.le_refl _, by simp, .inl rfl⟩
theorem Rg.skip {i : Nat} {ds : List Nat} {dp : Int} (h : Rg i ds dp) : Rg (i + 1) ds dp := ⟨by have := h.1; omega, by have := h.2.1; omega, h.2.2⟩
theorem Rg.less {i : Nat} {ds : List Nat} {dp : Int} (h : Rg i ds dp) : Rg (i + 1) ds (dp - 1) := ⟨by have := h.1; omega, by have := h.2.1; omega, h.2.2⟩
theorem Rg.snoc {i : Nat} {ds : List Nat} {dp : Int} (h : Rg i ds dp) {d : Nat} (hd : d < 10) (h0 : ds ≠ [] ∨ d ≠ 0) {dp' : Int} (hp : dp' = dp ∨ dp' = dp + 1) : Rg (i + 1) (ds ++ [d]) dp' := by
  refine ⟨by have := h.1; simp; omega, by have := h.2.1; omega, .inr ⟨?_, ?_⟩⟩
  · intro x hx
    rcases List.mem_append.1 hx with hx | hx
    · rcases h.2.2 with rfl | hg
      · cases hx
      · exact hg.1 x hx
    · rw [List.mem_singleton.1 hx]; exact hd
  · rcases h.2.2 with rfl | ⟨_, e, t, rfl, he⟩
    · rcases h0 with h0 | h0
      · exact absurd rfl h0
      · exact ⟨d, [], rfl, h0⟩
    · exact ⟨e, t ++ [d], rfl, he⟩
theorem Rg.dig {i : Nat} {ds : List Nat} {dp : Int} (h : Rg i ds dp) : ∀ d ∈ ds, d < 256 := by
  intro d hd
  rcases h.2.2 with rfl | hg
  · cases hd
  · have := hg.1 d hd; omega
theorem Rg.trim {i : Nat} {ds : List Nat} {dp : Int} (h : Rg i ds dp) : trimD ds = [] ∨ Good (trimD ds) := by
  rcases h.2.2 with rfl | hg
  · exact .inl rfl
  · exact .inr (trimD_good hg).1
theorem dec_new {w w3 w4 : World} {ds : List Nat} {y L c6 : Nat} {A6 : Option Addr} {v : Value} {dp : Int} (ho : w3.ownsRow w.heap.size tU 1 (.slice A6 (L + 1) c6) (L + 1) (ds.map dc ++ [.int .u8 (y : Int)])) (hl : ds.length = L)
    (hb : Blk w3 w.heap.size tD #[v, .int .i64 dp]) (p : Put w3 w4 w.heap.size) (hb4 : Blk w4 w.heap.size tD #[.slice A6 (L + 1) c6, .int .i64 dp]) : Dec w4 w.heap.size w.heap.size (.slice A6 (L + 1) c6) (ds ++ [y]) dp := by
  subst hl
  have h0 : w3.ownsRow w.heap.size tU 1 (.slice A6 (ds.length + 1) c6) (ds ++ [y]).length ((ds ++ [y]).map dc) := by
    rw [List.length_append, List.map_append]
    exact ho
  refine ⟨hb4, ?_, Nat.le_refl _⟩
  refine h0.kept p.grown (.inr fun e => ?_)
  rcases h0.2 with ⟨e2, _⟩ | ⟨g, cap, cur, e2, _, hgb, _⟩
  · rw [e2] at e; simp [Value.ownBlock] at e
  · rw [e2] at e
    simp [Value.ownBlock] at e
    subst e
    exact Blk.type_ne (t := tU) (u := tD) hgb hb (by decide) rfl
theorem Rg.far {i : Nat} {ds : List Nat} {dp : Int} (h : Rg i ds dp) (hi : i ≤ 1000) : -1000 ≤ dp ∧ dp ≤ 1000 := by
  have := h.2.1; omega
end Go.Proofs.YtilkcnoooecngaaGreatDoor
