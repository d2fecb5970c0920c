/- What read has read of a hexadecimal text, told: in plain Lean. -/
import Derived.Test.YtilkcnoooecngaaGreatDoorBtRp
import Derived.Test.YtilkcnoooecngaaGreatDoorBtN
import Derived.Laws.Bits64b
namespace Go.Proofs.YtilkcnoooecngaaGreatDoor
open Go.RowKit
set_option linter.unusedVariables false
/-- A digit of base 16, and what it counts. -/
def isX (c : Nat) : Prop := isD c ∨ (97 ≤ lw c ∧ lw c ≤ 102)
open Classical in
noncomputable def hv (c : Nat) : Nat := if isD c then c - 48 else (lw c - 87).toNat
theorem lw_or (c : Nat) (hc : c < 256) : lw c = ((c ||| 32 : Nat) : Int) := by
  have h : ∀ c : Fin 256, bits .or .u8 ((c : Nat) : Int) 32 = (((c : Nat) ||| 32 : Nat) : Int) := by decide +kernel
  exact h ⟨c, hc⟩
theorem not_isX46 : ¬ isX 46 := by
  rintro (h | h)
  · unfold isD at h; omega
  · rw [lw_or 46 (by decide)] at h
    exact absurd h.1 (by decide)
theorem hv_lt (c : Nat) (h : isX c) : hv c < 16 := by
  unfold hv
  by_cases hd : isD c
  · rw [if_pos hd]; unfold isD at hd; omega
  · rw [if_neg hd]
    rcases h with h | h
    · exact absurd h hd
    · omega
theorem lw_hi {c : Nat} (hc : c < 256) (h : 97 ≤ lw c) : 57 < c := by
  have k : ∀ c : Fin 256, 97 ≤ bits .or .u8 ((c : Nat) : Int) 32 → 57 < (c : Nat) := by decide +kernel
  exact k ⟨c, hc⟩ h
theorem isX_cases {c : Nat} (h : isX c) (hc : c < 256) : (c = hv c + 48 ∧ hv c < 10 ∧ True) ∨ ∃ r : Int, lw c = r ∧ 57 < c ∧ 97 ≤ r ∧ r ≤ 102 ∧ r = (hv c : Int) + 87 := by
  by_cases hd : isD c
  · have h1 : hv c = c - 48 := by unfold hv; rw [if_pos hd]
    unfold isD at hd
    exact .inl ⟨by omega, by omega, trivial⟩
  · have h2 : hv c = (lw c - 87).toNat := by unfold hv; rw [if_neg hd]
    rcases h with h | h
    · exact absurd h hd
    · exact .inr ⟨lw c, rfl, lw_hi hc h.1, h.1, h.2, by omega⟩
/-- A digit's step: the mantissa, the exponent. -/
def hxS (mant : Nat) (ex : Int) (d : Nat) (dot : Bool) : Nat × Int :=
  if mant < 1152921504606846976 then (mant * 16 + d, if dot = true then ex - 4 else ex) else (if d ≠ 0 then mant ||| 1 else mant, if dot = true then ex else ex + 4)
theorem hxS_small {mant d : Nat} {ex : Int} {dot : Bool} (h : mant < 1152921504606846976) : hxS mant ex d dot = (mant * 16 + d, if dot = true then ex - 4 else ex) := by unfold hxS; rw [if_pos h]
theorem hxS_big {mant d : Nat} {ex : Int} {dot : Bool} (h : ¬ mant < 1152921504606846976) : hxS mant ex d dot = (if d ≠ 0 then mant ||| 1 else mant, if dot = true then ex else ex + 4) := by unfold hxS; rw [if_neg h]
abbrev HS := Nat × Bool × Bool × Nat × Int
open Classical in
noncomputable def hxF (f : Nat → Nat) (n : Nat) (s : HS) : Option HS :=
  if s.1 < n then
    if f s.1 = 95 then some (s.1 + 1, s.2)
    else if f s.1 = 46 ∧ s.2.2.1 = false then some (s.1 + 1, s.2.1, true, s.2.2.2)
    else if isX (f s.1) then some (s.1 + 1, true, s.2.2.1, hxS s.2.2.2.1 s.2.2.2.2 (hv (f s.1)) s.2.2.1)
    else none
  else none
section
variable {f : Nat → Nat} {n i mant : Nat} {sm dot : Bool} {ex : Int}
theorem hx_skip (hlt : i < n) (h : f i = 95) : hxF f n (i, sm, dot, mant, ex) = some (i + 1, sm, dot, mant, ex) := by unfold hxF; rw [if_pos hlt, if_pos h]
theorem hx_point (hlt : i < n) (h : f i = 46) : hxF f n (i, sm, false, mant, ex) = some (i + 1, sm, true, mant, ex) := by unfold hxF; rw [if_pos hlt, if_neg (show ¬ f i = 95 by omega), if_pos ⟨h, rfl⟩]
theorem hx_dig (hlt : i < n) (h : f i ≠ 95) (hp : ¬ (f i = 46 ∧ dot = false)) (hd : isX (f i)) : hxF f n (i, sm, dot, mant, ex) = some (i + 1, true, dot, hxS mant ex (hv (f i)) dot) := by unfold hxF; rw [if_pos hlt, if_neg h, if_neg hp, if_pos hd]
theorem hx_stop (hlt : i < n) (h : f i ≠ 95) (hp : ¬ (f i = 46 ∧ dot = false)) (hd : ¬ isX (f i)) : hxF f n (i, sm, dot, mant, ex) = none := by unfold hxF; rw [if_pos hlt, if_neg h, if_neg hp, if_neg hd]
end
theorem or_small (a b : Nat) (hb : b < 16) : a * 16 ||| b = a * 16 + b := by
  have := Nat.shiftLeft_add_eq_or_of_lt (b := b) (i := 4) hb a
  rw [Nat.shiftLeft_eq] at this
  exact this.symm
theorem hx_or (mant d : Nat) (hm : mant < 1152921504606846976) (hd : d < 16) : bits .or .u64 ((mant : Int) * 16) (d : Int) = ((mant * 16 + d : Nat) : Int) := by
  rw [show ((mant : Int) * 16) = ((mant * 16 : Nat) : Int) by simp, bits_or_u64_nat _ _ (by omega) (by omega), or_small _ _ hd]
theorem hx_or1 (mant : Nat) (hm : mant ≤ 18446744073709551615) : bits .or .u64 (mant : Int) 1 = ((mant ||| 1 : Nat) : Int) := bits_or_u64_nat mant 1 (by omega) (by decide)
theorem hx_or1_le (mant : Nat) (hm : mant ≤ 18446744073709551615) : mant ||| 1 ≤ 18446744073709551615 := by
  have : mant ||| 1 < 2 ^ 64 := Nat.or_lt_two_pow (by omega) (by decide)
  omega
/-- The mantissa and the exponent. -/
noncomputable def hexRes (f : Nat → Nat) (n : Nat) : Option (Nat × Int) :=
  if (fin (hxF f n) (0, false, false, 0, 0)).2.1 = true then
    (tailRes 112 true f n (fin (hxF f n) (0, false, false, 0, 0)).1).map fun e => ((fin (hxF f n) (0, false, false, 0, 0)).2.2.2.1, (fin (hxF f n) (0, false, false, 0, 0)).2.2.2.2 + e)
  else none
theorem hexRes_eq {f : Nat → Nat} {n i : Nat} {sm dot : Bool} {mant : Nat} {ex : Int} (h : FDone (hxF f n) (0, false, false, 0, 0) (i, sm, dot, mant, ex)) :
    hexRes f n = if sm = true then (tailRes 112 true f n i).map fun e => (mant, ex + e) else none := by
  unfold hexRes
  rw [h.eq]
/-- The decimal of a mantissa and an exponent. -/
def HexR (m : Nat) (x : Int) (c : List Nat × Int) : Prop := (m = 0 ∨ x < -1300) ∧ c = ([], 0) ∨ ¬ (m = 0 ∨ x < -1300) ∧ ShiftR (min x 1100) (trimD (decD m), ((decD m).length : Int)) c
theorem HexR.uniq {m : Nat} {x : Int} {c c' : List Nat × Int} (h : HexR m x c) (h' : HexR m x c') : c = c' := by
  rcases h with ⟨h0, rfl⟩ | ⟨h0, h1⟩
  · rcases h' with ⟨_, rfl⟩ | ⟨h0', _⟩
    · rfl
    · exact absurd h0 h0'
  · rcases h' with ⟨h0', _⟩ | ⟨_, h1'⟩
    · exact absurd h0' h0
    · exact h1.uniq h1'
def HRes (f : Nat → Nat) (n : Nat) (res : Option (List Nat × Int)) : Prop := (hexRes f n = none ∧ res = none) ∨ ∃ m x c, hexRes f n = some (m, x) ∧ HexR m x c ∧ res = some c
theorem HRes.uniq {f : Nat → Nat} {n : Nat} {r r' : Option (List Nat × Int)} (h : HRes f n r) (h' : HRes f n r') : r = r' := by
  rcases h with ⟨h0, rfl⟩ | ⟨m, x, c, h0, h1, rfl⟩
  · rcases h' with ⟨_, rfl⟩ | ⟨m', x', c', h0', _⟩
    · rfl
    · rw [h0] at h0'; cases h0'
  · rcases h' with ⟨h0', _⟩ | ⟨m', x', c', h0', h1', rfl⟩
    · rw [h0] at h0'; cases h0'
    · rw [h0] at h0'
      cases h0'
      rw [h1.uniq h1']
end Go.Proofs.YtilkcnoooecngaaGreatDoor
