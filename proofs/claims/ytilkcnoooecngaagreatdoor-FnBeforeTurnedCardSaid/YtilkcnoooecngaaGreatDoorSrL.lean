/- What Go's own readFloat has read, told step by step: in plain Lean. What Go's own readFloat and the light read have read of a decimal text is alike: in plain Lean. What Go's own readFloat and the light read have read, told by one another; what they count: in plain Lean. What Go's own readFloat and the light read have read of a hexadecimal text is alike: in plain Lean. -/
import Derived.Test.YtilkcnoooecngaaGreatDoorBtRq
import Derived.Test.YtilkcnoooecngaaGreatDoorBtUp
import Derived.Test.YtilkcnoooecngaaGreatDoorSvU
namespace Go.Proofs.YtilkcnoooecngaaGreatDoor
open Go.RowKit
set_option linter.unusedVariables false
/-- A state: place, underscores, point, some digit; digits, digits kept, mantissa, digits cut, the point's place. -/
structure SF where
  i : Nat
  us : Bool
  dot : Bool
  sm : Bool
  nd : Nat
  nm : Nat
  mant : Nat
  tr : Bool
  dp : Int
def sB (hx : Bool) : Nat := if hx then 16 else 10
def sM (hx : Bool) : Nat := if hx then 16 else 19
def SF.at (i : Nat) : SF := ⟨i, false, false, false, 0, 0, 0, false, 0⟩
/-- One digit more. -/
def SF.dig (hx : Bool) (s : SF) (d : Nat) (nz : Bool) : SF :=
  if s.nm < sM hx then { s with i := s.i + 1, sm := true, nd := s.nd + 1, nm := s.nm + 1, mant := s.mant * sB hx + d }
  else { s with i := s.i + 1, sm := true, nd := s.nd + 1, tr := s.tr || nz }
open Classical in
noncomputable def sF (hx : Bool) (f : Nat → Nat) (n : Nat) (s : SF) : Option SF :=
  if s.i < n then
    if f s.i = 95 then some { s with i := s.i + 1, us := true }
    else if f s.i = 46 then (if s.dot = true then none else some { s with i := s.i + 1, dot := true, dp := s.nd })
    else if isD (f s.i) then
      if f s.i = 48 ∧ s.nd = 0 then some { s with i := s.i + 1, sm := true, dp := s.dp - 1 }
      else some (s.dig hx (f s.i - 48) (decide (f s.i ≠ 48)))
    else if hx = true ∧ 97 ≤ lw (f s.i) ∧ lw (f s.i) ≤ 102 then some (s.dig hx (lw (f s.i) - 87).toNat true)
    else none
  else none
abbrev XS := Nat × Bool × Nat
open Classical in
/-- A step over an exponent's characters. -/
noncomputable def sxF (f : Nat → Nat) (n : Nat) (s : XS) : Option XS :=
  if s.1 < n ∧ (isD (f s.1) ∨ f s.1 = 95) then some (s.1 + 1, s.2.1 || decide (f s.1 = 95), if f s.1 ≠ 95 ∧ s.2.2 < 10000 then s.2.2 * 10 + (f s.1 - 48) else s.2.2) else none
section
variable {hx : Bool} {f : Nat → Nat} {n : Nat} {s : SF}
theorem sF_us (hlt : s.i < n) (h : f s.i = 95) : sF hx f n s = some { s with i := s.i + 1, us := true } := by unfold sF; rw [if_pos hlt, if_pos h]
theorem sF_pt (hlt : s.i < n) (h : f s.i = 46) (hd : s.dot = false) : sF hx f n s = some { s with i := s.i + 1, dot := true, dp := s.nd } := by
  unfold sF; rw [if_pos hlt, if_neg (by omega), if_pos h, if_neg (by rw [hd]; decide)]
theorem sF_pt2 (hlt : s.i < n) (h : f s.i = 46) (hd : s.dot = true) : sF hx f n s = none := by
  unfold sF; rw [if_pos hlt, if_neg (by omega), if_pos h, if_pos hd]
theorem sF_z (hlt : s.i < n) (h : f s.i = 48) (h0 : s.nd = 0) : sF hx f n s = some { s with i := s.i + 1, sm := true, dp := s.dp - 1 } := by
  unfold sF; rw [if_pos hlt, if_neg (by omega), if_neg (by omega), if_pos (show isD (f s.i) from ⟨by omega, by omega⟩), if_pos ⟨h, h0⟩]
theorem sF_d (hlt : s.i < n) (h : isD (f s.i)) (h0 : ¬ (f s.i = 48 ∧ s.nd = 0)) : sF hx f n s = some (s.dig hx (f s.i - 48) (decide (f s.i ≠ 48))) := by
  have := h.1; have := h.2
  unfold sF; rw [if_pos hlt, if_neg (by omega), if_neg (by omega), if_pos h, if_neg h0]
theorem sF_x (hlt : s.i < n) (h : 97 ≤ lw (f s.i) ∧ lw (f s.i) ≤ 102) (hd : ¬ isD (f s.i)) (hp : f s.i ≠ 46) (hu : f s.i ≠ 95) : sF true f n s = some (s.dig true (lw (f s.i) - 87).toNat true) := by
  unfold sF; rw [if_pos hlt, if_neg hu, if_neg hp, if_neg hd, if_pos ⟨rfl, h⟩]
theorem sF_no (h : f s.i ≠ 95) (hp : f s.i ≠ 46) (hd : ¬ isD (f s.i)) (hh : ¬ (hx = true ∧ 97 ≤ lw (f s.i) ∧ lw (f s.i) ≤ 102)) : sF hx f n s = none := by
  unfold sF; rw [if_neg h, if_neg hp, if_neg hd, if_neg hh]; simp
theorem sF_end (h : ¬ s.i < n) : sF hx f n s = none := by unfold sF; rw [if_neg h]
end
/-- The bounds that hold at every step. -/
structure SFok (hx : Bool) (s : SF) : Prop where
  m : s.mant < sB hx ^ s.nm
  c : s.nm ≤ sM hx
  k : s.nm ≤ s.nd
  d : s.nd ≤ s.i
  p : s.dp.natAbs ≤ s.i
theorem sB_pos (hx : Bool) : 0 < sB hx := by cases hx <;> decide
theorem sfok_small {hx : Bool} {s : SF} (h : SFok hx s) (hs : s.nm < sM hx) {d : Nat} (hd : d < sB hx) : s.mant * sB hx + d < sB hx ^ (s.nm + 1) ∧ s.mant * sB hx + d < 18446744073709551616 := by
  have h1 : s.mant * sB hx + d < sB hx ^ (s.nm + 1) := by
    have h2 : (s.mant + 1) * sB hx ≤ sB hx ^ s.nm * sB hx := Nat.mul_le_mul_right _ h.m
    rw [Nat.pow_succ]
    rw [Nat.add_mul] at h2
    omega
  refine ⟨h1, Nat.lt_of_lt_of_le h1 ?_⟩
  have h3 : sB hx ^ (s.nm + 1) ≤ sB hx ^ sM hx := Nat.pow_le_pow_right (sB_pos hx) hs
  refine Nat.le_trans h3 ?_
  cases hx <;> decide
theorem SFok.lt {hx : Bool} {s : SF} (h : SFok hx s) : s.mant < 18446744073709551616 := by
  refine Nat.lt_of_lt_of_le h.m ?_
  refine Nat.le_trans (Nat.pow_le_pow_right (sB_pos hx) h.c) ?_
  cases hx <;> decide
theorem SFok.dig {hx : Bool} {s : SF} (h : SFok hx s) {d : Nat} (hd : d < sB hx) (nz : Bool) : SFok hx (s.dig hx d nz) := by
  unfold SF.dig
  split
  · rename_i hs
    exact ⟨(sfok_small h hs hd).1, hs, Nat.succ_le_succ h.k, Nat.succ_le_succ h.d, by have := h.p; simp only; omega⟩
  · exact ⟨h.m, h.c, Nat.le_succ_of_le h.k, Nat.succ_le_succ h.d, by have := h.p; simp only; omega⟩
theorem SFok.start (hx : Bool) (i : Nat) : SFok hx (.at i) := ⟨Nat.pow_pos (sB_pos hx), Nat.zero_le _, Nat.le_refl _, Nat.zero_le _, by simp [SF.at]⟩
/-- The sign of a number, its prefix. -/
noncomputable def rfNg (f : Nat → Nat) (n : Nat) : Bool := decide (0 < n ∧ f 0 = 45)
noncomputable def rfHx (f : Nat → Nat) (n : Nat) : Bool := decide (sg f n 0 + 2 < n ∧ f (sg f n 0) = 48 ∧ lw (f (sg f n 0 + 1)) = 120)
noncomputable def rfO (f : Nat → Nat) (n : Nat) : Nat := if rfHx f n = true then sg f n 0 + 2 else sg f n 0
def sMk (hx : Bool) : Int := if hx then 112 else 101
def sQ (hx : Bool) : Int := if hx then 4 else 1
def RfTail (hx : Bool) (f : Nat → Nat) (n : Nat) (s : SF) (z : Int) (i : Nat) (us : Bool) : Prop :=
  (s.i < n ∧ lw (f s.i) = sMk hx ∧ ∃ j k x : Nat, sg f n (s.i + 1) = j ∧ j < n ∧ isD (f j) ∧ FDone (sxF f n) (j, s.us, 0) (k, us, x) ∧ i = k ∧ z = if s.i + 1 < n ∧ f (s.i + 1) = 45 then -(x : Int) else (x : Int)) ∨
  (¬ (s.i < n ∧ lw (f s.i) = sMk hx) ∧ hx = false ∧ z = 0 ∧ i = s.i ∧ us = s.us)
def RfOk (s : ByteArray) (mant : Nat) (exp : Int) (ng tr hx : Bool) (i : Nat) : Prop :=
  ng = rfNg (bt s) s.size ∧ hx = rfHx (bt s) s.size ∧ ∃ (st : SF) (z : Int) (us : Bool), FDone (sF hx (bt s) s.size) (.at (rfO (bt s) s.size)) st ∧ st.sm = true ∧ RfTail hx (bt s) s.size st z i us ∧
    mant = st.mant ∧ tr = st.tr ∧ exp = (if mant = 0 then 0 else (if st.dot = true then st.dp else (st.nd : Int)) * sQ hx + z - (st.nm : Int) * sQ hx) ∧ (us = true → uOk (stripB (s.extract 0 i)) = true)
def RfRet (s : ByteArray) (w : World) (e : Ending) (w' : World) : Prop := w' = w ∧ ∃ (mant : Nat) (exp : Int) (ng tr hx : Bool) (i : Nat) (ok : Bool),
  e = .returned (.tuple #[.int .u64 (mant : Int), .int .i64 exp, .bool ng, .bool tr, .bool hx, .int .i64 (i : Int), .bool ok]) ∧ mant < 18446744073709551616 ∧ (-300000 ≤ exp ∧ exp ≤ 300000) ∧ i ≤ s.size ∧ (ok = true → RfOk s mant exp ng tr hx i)
end Go.Proofs.YtilkcnoooecngaaGreatDoor
namespace Go.Proofs.YtilkcnoooecngaaGreatDoor
open Go.RowKit
set_option linter.unusedVariables false
section
variable {f : Nat → Nat} {n i : Nat} {sm dot : Bool} {ds : List Nat} {dp : Int}
theorem rd_skip (hlt : i < n) (h : f i = 95) : rdF f n (i, sm, dot, ds, dp) = some (i + 1, sm, dot, ds, dp) := by unfold rdF; rw [if_pos hlt, if_pos h]
theorem rd_point (hlt : i < n) (h : f i = 46) : rdF f n (i, sm, false, ds, dp) = some (i + 1, sm, true, ds, dp) := by unfold rdF; rw [if_pos hlt, if_neg (show ¬ f i = 95 by omega), if_pos ⟨h, rfl⟩]
theorem rd_dig (hlt : i < n) (h : isD (f i)) (h0 : ds ≠ [] ∨ f i ≠ 48) : rdF f n (i, sm, dot, ds, dp) = some (i + 1, true, dot, ds ++ [f i - 48], if dot = true then dp else dp + 1) := by
  have := h.1; have := h.2
  unfold rdF; rw [if_pos hlt, if_neg (show ¬ f i = 95 by omega), if_neg (show ¬ (f i = 46 ∧ dot = false) by omega), if_pos h, if_pos h0]
theorem rd_zero (hlt : i < n) (h : f i = 48) : rdF f n (i, sm, dot, [], dp) = some (i + 1, true, dot, [], if dot = true then dp - 1 else dp) := by
  unfold rdF; rw [if_pos hlt, if_neg (show ¬ f i = 95 by omega), if_neg (show ¬ (f i = 46 ∧ dot = false) by omega), if_pos (show isD (f i) from ⟨by omega, by omega⟩), if_neg (by rintro (h2 | h2); exact h2 rfl; exact h2 h)]
theorem rd_stop (h95 : f i ≠ 95) (hp : ¬ (f i = 46 ∧ dot = false)) (hd : ¬ isD (f i)) : rdF f n (i, sm, dot, ds, dp) = none := by
  unfold rdF; rw [if_neg h95, if_neg hp, if_neg hd]; simp
theorem rd_end (h : ¬ i < n) : rdF f n (i, sm, dot, ds, dp) = none := by unfold rdF; rw [if_neg h]
end
/-- What both have read. -/
structure JD (f : Nat → Nat) (o : Nat) (a : SF) (i : Nat) (ds : List Nat) (dp : Int) : Prop where
  pl : i + o = a.i
  nd : a.nd = ds.length
  nm : a.nm = min ds.length 19
  hi : vD ds + 1 ≤ (a.mant + 1) * 10 ^ (a.nd - a.nm)
  eq : a.tr = false ∨ a.nd ≤ 19 → vD ds = a.mant * 10 ^ (a.nd - a.nm)
  po : 0 < a.nd → 0 < a.mant
  z0 : a.nd = 0 → a.mant = 0
  d1 : a.dot = true → a.dp = dp
  d0 : a.dot = false → dp = a.nd
  us : ∀ q, o ≤ q → q < a.i → f q = 95 → a.us = true
theorem JD.start (f : Nat → Nat) (o : Nat) : JD f o (.at o) 0 [] 0 := ⟨Nat.zero_add _, rfl, rfl, by simp [SF.at, vD], fun _ => by simp [SF.at, vD], fun h => absurd h (Nat.lt_irrefl 0), fun _ => rfl, fun h => (by cases h), fun _ => rfl, fun q h1 h2 => by have : q < o := h2; omega⟩
theorem us_more {f : Nat → Nat} {o i : Nat} {us : Bool} (h : ∀ q, o ≤ q → q < i → f q = 95 → us = true) (hn : f i ≠ 95) : ∀ q, o ≤ q → q < i + 1 → f q = 95 → us = true := fun q h1 h2 h3 => by
  rcases Nat.lt_or_ge q i with h4 | h4
  · exact h q h1 h4 h3
  · obtain rfl : q = i := by omega
    exact absurd h3 hn
theorem JD.dig {f : Nat → Nat} {o i d : Nat} {a : SF} {ds : List Nat} {dp : Int} (J : JD f o a i ds dp) (h9 : f a.i ≠ 95) (hd : d < 10) (h0 : a.nd ≠ 0 ∨ d ≠ 0) :
    JD f o (a.dig false d (decide (d ≠ 0))) (i + 1) (ds ++ [d]) (if a.dot = true then dp else dp + 1) := by
  have e1 := J.nd
  have e2 := J.nm
  have e3 := J.hi
  have e4 := J.eq
  have hsm : sM false = 19 := rfl
  have hsb : sB false = 10 := rfl
  unfold SF.dig
  by_cases hm : a.nm < sM false
  · rw [if_pos hm]
    rw [hsm] at hm
    have e5 : vD ds = a.mant := by
      rw [e4 (.inr (by omega)), show a.nd - a.nm = 0 by omega]; simp
    refine ⟨by have := J.pl; simp only; omega, by simp; omega, by simp; omega, ?_, fun _ => ?_, fun _ => ?_, fun h => by simp only at h; omega, fun h => by simp only at h; rw [if_pos h]; exact J.d1 h, fun h => by simp only at h; rw [if_neg (by rw [h]; decide), J.d0 h]; simp, us_more J.us h9⟩
    · simp only [vD_snoc, hsb]
      rw [show a.nd + 1 - (a.nm + 1) = 0 by omega, e5]; simp
    · simp only [vD_snoc, hsb]
      rw [show a.nd + 1 - (a.nm + 1) = 0 by omega, e5]; simp
    · simp only [hsb]
      rcases h0 with h0 | h0
      · have := J.po (by omega); omega
      · omega
  · rw [if_neg hm]
    rw [hsm] at hm
    have hnd : 19 ≤ a.nd := by omega
    have e6 : a.nd + 1 - a.nm = (a.nd - a.nm) + 1 := by omega
    refine ⟨by have := J.pl; simp only; omega, by simp; omega, by simp; omega, ?_, fun h => ?_, fun _ => J.po (by omega), fun h => by simp only at h; omega, fun h => by simp only at h; rw [if_pos h]; exact J.d1 h, fun h => by simp only at h; rw [if_neg (by rw [h]; decide), J.d0 h]; simp, us_more J.us h9⟩
    · simp only [vD_snoc]
      rw [e6, Nat.pow_succ, ← Nat.mul_assoc]
      omega
    · simp only [vD_snoc] at h ⊢
      rcases h with h | h
      · rw [Bool.or_eq_false_iff] at h
        have hd0 : d = 0 := by
          have := h.2
          rw [decide_eq_false_iff_not] at this
          omega
        rw [e4 (.inl h.1), e6, Nat.pow_succ, hd0, Nat.add_zero, Nat.mul_assoc]
      · omega
theorem sF_some {f : Nat → Nat} {n o i : Nat} {a c : SF} {ds : List Nat} {dp : Int} {g : Nat → Nat} {m : Nat} (hn : n = m + o) (hg : ∀ q, q < m → g q = f (q + o)) (J : JD f o a i ds dp) (k : sF false f n a = some c) :
    ∃ i' ds' dp', rdF g m (i, a.sm, a.dot, ds, dp) = some (i', c.sm, c.dot, ds', dp') ∧ JD f o c i' ds' dp' := by
  by_cases hlt : a.i < n
  · have hi : i < m := by have := J.pl; omega
    have e : g i = f a.i := by rw [hg i hi, J.pl]
    by_cases h95 : f a.i = 95
    · rw [sF_us hlt h95] at k
      obtain rfl := Option.some.inj k
      exact ⟨_, _, _, rd_skip hi (e.trans h95), ⟨by have := J.pl; simp only; omega, J.nd, J.nm, J.hi, J.eq, J.po, J.z0, J.d1, J.d0, fun _ _ _ _ => rfl⟩⟩
    · by_cases h46 : f a.i = 46
      · obtain ⟨ai, us, dot, sm, nd, nm, mant, tr, adp⟩ := a
        cases dot
        · rw [sF_pt hlt h46 rfl] at k
          obtain rfl := Option.some.inj k
          exact ⟨_, _, _, rd_point hi (e.trans h46), ⟨by have := J.pl; simp only at this ⊢; omega, J.nd, J.nm, J.hi, J.eq, J.po, J.z0, fun _ => (J.d0 rfl).symm, fun h => (by cases h), us_more J.us h95⟩⟩
        · rw [sF_pt2 hlt h46 rfl] at k
          cases k
      · by_cases hd : isD (f a.i)
        · by_cases hz : f a.i = 48 ∧ a.nd = 0
          · rw [sF_z hlt hz.1 hz.2] at k
            obtain rfl := Option.some.inj k
            have e1 := J.nd
            obtain rfl : ds = [] := List.eq_nil_of_length_eq_zero (by omega)
            refine ⟨_, _, _, rd_zero hi (e.trans hz.1), ⟨by have := J.pl; simp only; omega, J.nd, J.nm, J.hi, J.eq, J.po, J.z0, fun h => ?_, fun h => ?_, us_more J.us h95⟩⟩
            · simp only at h ⊢
              rw [if_pos h, J.d1 h]
            · simp only at h ⊢
              rw [if_neg (by rw [h]; decide), J.d0 h]
          · rw [sF_d hlt hd hz] at k
            obtain rfl := Option.some.inj k
            have := hd.1
            have := hd.2
            have e1 := J.nd
            have hne : ds ≠ [] ∨ g i ≠ 48 := by
              by_cases h0 : a.nd = 0
              · exact .inr (by rw [e]; exact fun h => hz ⟨h, h0⟩)
              · exact .inl (fun h => by rw [h] at e1; exact h0 e1)
            have hj := J.dig (d := f a.i - 48) h95 (by omega) (by
              by_cases h0 : a.nd = 0
              · exact .inr (fun h => hz ⟨by omega, h0⟩)
              · exact .inl h0)
            rw [show decide (f a.i - 48 ≠ 0) = decide (f a.i ≠ 48) by
              by_cases h : f a.i = 48
              · rw [h]; rfl
              · rw [decide_eq_true h, decide_eq_true (show f a.i - 48 ≠ 0 by omega)]] at hj
            have hr := rd_dig (sm := a.sm) (dot := a.dot) (dp := dp) hi (show isD (g i) by rw [e]; exact hd) hne
            rw [e] at hr
            refine ⟨_, _, _, ?_, hj⟩
            rw [hr]
            have hb : (a.dig false (f a.i - 48) (decide (f a.i ≠ 48))).sm = true ∧ (a.dig false (f a.i - 48) (decide (f a.i ≠ 48))).dot = a.dot := by
              unfold SF.dig
              split <;> exact ⟨rfl, rfl⟩
            rw [hb.1, hb.2]
        · rw [sF_no h95 h46 hd (by simp)] at k
          cases k
  · rw [sF_end hlt] at k
    cases k
theorem sF_go {f : Nat → Nat} {n o : Nat} {a : SF} {g : Nat → Nat} {m : Nat} (hn : n = m + o) (hg : ∀ q, q < m → g q = f (q + o)) (h : FGo (sF false f n) (.at o) a) :
    ∃ i ds dp, FGo (rdF g m) (0, false, false, [], 0) (i, a.sm, a.dot, ds, dp) ∧ JD f o a i ds dp := by
  induction h with
  | refl => exact ⟨0, [], 0, .refl, JD.start f o⟩
  | step h k ih =>
    obtain ⟨i, ds, dp, h1, J⟩ := ih
    obtain ⟨i', ds', dp', h2, J'⟩ := sF_some hn hg J k
    exact ⟨i', ds', dp', h1.step h2, J'⟩
theorem sF_done {f : Nat → Nat} {n o : Nat} {a : SF} {g : Nat → Nat} {m : Nat} (hn : n = m + o) (hg : ∀ q, q < m → g q = f (q + o)) (h : FDone (sF false f n) (.at o) a) :
    ∃ i ds dp, FDone (rdF g m) (0, false, false, [], 0) (i, a.sm, a.dot, ds, dp) ∧ JD f o a i ds dp := by
  obtain ⟨i, ds, dp, h1, J⟩ := sF_go hn hg h.1
  refine ⟨i, ds, dp, h1.fin ?_, J⟩
  by_cases hlt : a.i < n
  · have hi : i < m := by have := J.pl; omega
    have e : g i = f a.i := by rw [hg i hi, J.pl]
    have h95 : f a.i ≠ 95 := fun h9 => h.2 _ (sF_us hlt h9)
    have hd : ¬ isD (f a.i) := fun hd => by
      by_cases hz : f a.i = 48 ∧ a.nd = 0
      · exact h.2 _ (sF_z hlt hz.1 hz.2)
      · exact h.2 _ (sF_d hlt hd hz)
    have hp : ¬ (f a.i = 46 ∧ a.dot = false) := fun hp => h.2 _ (sF_pt hlt hp.1 hp.2)
    exact rd_stop (by rw [e]; exact h95) (by rw [e]; exact hp) (by rw [e]; exact hd)
  · exact rd_end (by have := J.pl; omega)
theorem sg_shift {f g : Nat → Nat} {n m o i : Nat} (hn : n = m + o) (hg : ∀ q, q < m → g q = f (q + o)) : sg g m i + o = sg f n (i + o) := by
  unfold sg
  by_cases h : i < m
  · rw [hg i h]
    by_cases h2 : f (i + o) = 43 ∨ f (i + o) = 45
    · rw [if_pos ⟨h, h2⟩, if_pos ⟨by omega, h2⟩]; omega
    · rw [if_neg (fun k => h2 k.2), if_neg (fun k => h2 k.2)]
  · rw [if_neg (fun k => h k.1), if_neg (fun k => h (by omega))]
theorem sx_go {f g : Nat → Nat} {n m o j : Nat} {us : Bool} {s : XS} (hn : n = m + o) (hg : ∀ q, q < m → g q = f (q + o)) (h : FGo (sxF f n) (j + o, us, 0) s) (P : Nat) (hP : ∀ q, P ≤ q → q < j + o → f q = 95 → us = true) :
    ∃ k, k + o = s.1 ∧ FGo (exF g m) (j, 0) (k, s.2.2) ∧ (us = true → s.2.1 = true) ∧ ∀ q, P ≤ q → q < s.1 → f q = 95 → s.2.1 = true := by
  induction h with
  | refl => exact ⟨j, rfl, .refl, id, hP⟩
  | @step b c h k ih =>
    obtain ⟨p, e, h1, h2, h3⟩ := ih
    obtain ⟨bi, bu, bx⟩ := b
    simp only at e h1 h2 h3
    unfold fs sxF at k
    simp only at k
    by_cases hc : bi < n ∧ (isD (f bi) ∨ f bi = 95)
    · rw [if_pos hc] at k
      obtain rfl := Option.some.inj k
      have hp : p < m := by omega
      have e2 : g p = f bi := by rw [hg p hp, e]
      refine ⟨p + 1, by simp only; omega, h1.step ?_, fun hu => by simp only; rw [h2 hu]; rfl, fun q q1 q2 q3 => ?_⟩
      · unfold exF
        simp only
        rw [e2, if_pos ⟨hp, hc.2⟩]
      · simp only at q2 ⊢
        rcases Nat.lt_or_ge q bi with h4 | h4
        · rw [h3 q q1 h4 q3]; rfl
        · obtain rfl : q = bi := by omega
          rw [q3]; simp
    · rw [if_neg hc] at k
      cases k
theorem sx_done {f g : Nat → Nat} {n m o j : Nat} {us : Bool} {s : XS} (hn : n = m + o) (hg : ∀ q, q < m → g q = f (q + o)) (h : FDone (sxF f n) (j + o, us, 0) s) (P : Nat) (hP : ∀ q, P ≤ q → q < j + o → f q = 95 → us = true) :
    ∃ k, k + o = s.1 ∧ FDone (exF g m) (j, 0) (k, s.2.2) ∧ ∀ q, P ≤ q → q < s.1 → f q = 95 → s.2.1 = true := by
  obtain ⟨k, e, h1, h2, h3⟩ := sx_go hn hg h.1 P hP
  refine ⟨k, e, h1.fin ?_, h3⟩
  unfold exF
  simp only
  rw [if_neg]
  rintro ⟨hk, hc⟩
  rw [hg k hk, e] at hc
  exact h.2 _ (show sxF f n s = some _ by unfold sxF; rw [if_pos ⟨by omega, hc⟩])
/-- What stands behind the digits, where nothing is left behind it. -/
theorem tail_eq {f g : Nat → Nat} {n m o : Nat} {hx : Bool} {s : SF} {z : Int} {us : Bool} {i P : Nat} (hn : n = m + o) (hg : ∀ q, q < m → g q = f (q + o)) (hi : i + o = s.i) (h : RfTail hx f n s z n us) (hP : ∀ q, P ≤ q → q < s.i → f q = 95 → s.us = true) (hsi : s.i ≤ n)
    (hlw : ∀ c, lw c = sMk hx → c ≠ 95) :
    tailRes (sMk hx) hx g m i = some z ∧ ∀ q, P ≤ q → q < n → f q = 95 → us = true := by
  rcases h with ⟨h1, h2, j, k, x, hj, hjn, hjd, hd, hk, hz⟩ | ⟨h1, h2, h3, h4, h5⟩
  · have e1 : g i = f s.i := by rw [hg i (by omega), hi]
    have hs := sg_shift (i := i + 1) hn hg
    rw [show i + 1 + o = s.i + 1 by omega, hj] at hs
    obtain ⟨j', hj'⟩ : ∃ j', sg g m (i + 1) = j' := ⟨_, rfl⟩
    rw [hj'] at hs
    subst hs
    have hjb : s.i + 1 ≤ j' + o ∧ j' + o ≤ s.i + 2 ∧ (j' + o = s.i + 2 → f (s.i + 1) ≠ 95) := by
      unfold sg at hj
      split at hj
      · rename_i hc
        refine ⟨by omega, by omega, fun _ => ?_⟩
        rcases hc.2 with h | h <;> omega
      · exact ⟨by omega, by omega, fun h => by omega⟩
    have hP2 : ∀ q, P ≤ q → q < j' + o → f q = 95 → s.us = true := fun q q1 q2 q3 => by
      rcases Nat.lt_or_ge q s.i with h | h
      · exact hP q q1 h q3
      · rcases Nat.eq_or_lt_of_le h with h | h
        · subst h; exact absurd q3 (hlw _ h2)
        · obtain rfl : q = s.i + 1 := by omega
          exact absurd q3 (hjb.2.2 (by omega))
    obtain ⟨k', ek, hd', hu⟩ := sx_done hn hg hd P hP2
    simp only at ek hu
    refine ⟨?_, by rw [hk]; exact hu⟩
    unfold tailRes
    rw [e1, if_pos ⟨by omega, h2⟩, exp_some hj' ⟨by omega, by rw [hg j' (by omega)]; exact hjd⟩ hd', if_neg (by omega), hz]
    congr 1
    by_cases hc : s.i + 1 < n
    · rw [hg (i + 1) (by omega), show i + 1 + o = s.i + 1 by omega]
      by_cases h45 : f (s.i + 1) = 45
      · rw [if_pos ⟨by omega, h45⟩, if_pos ⟨hc, h45⟩]
      · rw [if_neg (fun k => h45 k.2), if_neg (fun k => h45 k.2)]
    · rw [if_neg (fun k => hc (by omega)), if_neg (fun k => hc k.1)]
  · have hin : ¬ s.i < n := by omega
    refine ⟨?_, fun q q1 q2 q3 => by rw [h5]; exact hP q q1 (by omega) q3⟩
    unfold tailRes
    rw [if_neg (fun k => hin (by omega)), if_neg, h3]
    rintro (h | h)
    · rw [h2] at h; cases h
    · exact hin (by omega)
theorem lw_not95 (hx : Bool) (c : Nat) (h : lw c = sMk hx) : c ≠ 95 := by
  rintro rfl
  rw [lw_or 95 (by decide)] at h
  cases hx <;> exact absurd h (by decide)
end Go.Proofs.YtilkcnoooecngaaGreatDoor
namespace Go.Proofs.YtilkcnoooecngaaGreatDoor
open Go.RowKit
set_option linter.unusedVariables false
theorem sF_le {hx : Bool} {f : Nat → Nat} {n o : Nat} {a : SF} (ho : o ≤ n) (h : FGo (sF hx f n) (.at o) a) : a.i ≤ n := by
  induction h with
  | refl => exact ho
  | @step b c h k ih =>
    have hd : ∀ d z, (b.dig hx d z).i = b.i + 1 := fun d z => by unfold SF.dig; split <;> rfl
    unfold fs sF at k
    split at k
    · rename_i hlt
      repeat' split at k
      all_goals first
        | (cases k; done)
        | (obtain rfl := Option.some.inj k; first | exact hlt | (rw [hd]; exact hlt))
    · cases k
theorem TT_gt : 2 ^ 200 ≤ TT := by
  unfold TT
  have h : (2 : Nat) ^ 200 ≤ 2 ^ E970 := Nat.pow_le_pow_right (by decide) (by decide)
  have h2 : 1 * 2 ^ E970 ≤ 18014398509481983 * 2 ^ E970 := Nat.mul_le_mul_right _ (by decide)
  omega
theorem TT_64 : 18446744073709551616 < TT := Nat.lt_of_lt_of_le (by decide) TT_gt
/-- What counts at most c * 10^p. -/
theorem GeT_up {ds : List Nat} {dp p : Int} {c k : Nat} (hv : vD ds ≤ c * 10 ^ k) (hp : p = dp - ds.length + k) (hc : c < TT) (h : GeT (ds, dp)) : ∃ q : Nat, p = q ∧ TT ≤ c * 10 ^ q := by
  obtain ⟨M0, h⟩ := h
  have h1 := h (M0 + p.natAbs + dp.natAbs + ds.length + k) (by omega)
  obtain ⟨M, hM⟩ : ∃ M, M0 + p.natAbs + dp.natAbs + ds.length + k = M := ⟨_, rfl⟩
  rw [hM] at h1
  obtain ⟨t, ht⟩ : ∃ t : Nat, ((M : Int) + dp - ds.length).toNat = t := ⟨_, rfl⟩
  simp only [VL, ht] at h1
  have h2 : vD ds * 10 ^ t ≤ c * 10 ^ k * 10 ^ t := Nat.mul_le_mul_right _ hv
  have h3 := Nat.le_trans h1 h2
  rw [Nat.mul_assoc, ← Nat.pow_add] at h3
  rcases Int.le_total 0 p with h0 | h0
  · obtain ⟨q, rfl⟩ : ∃ q : Nat, p = q := ⟨p.toNat, by omega⟩
    refine ⟨q, rfl, ?_⟩
    rw [show k + t = q + M by omega, Nat.pow_add, ← Nat.mul_assoc] at h3
    exact Nat.le_of_mul_le_mul_right h3 (Nat.pow_pos (by decide))
  · obtain ⟨q, hq⟩ : ∃ q : Nat, -p = q := ⟨(-p).toNat, by omega⟩
    exfalso
    rw [show M = (k + t) + q by omega, Nat.pow_add, ← Nat.mul_assoc] at h3
    have h4 : TT * 10 ^ (k + t) * 1 ≤ TT * 10 ^ (k + t) * 10 ^ q := Nat.mul_le_mul_left _ (Nat.pow_pos (by decide))
    rw [Nat.mul_one] at h4
    have := Nat.le_of_mul_le_mul_right (Nat.le_trans h4 h3) (Nat.pow_pos (by decide))
    omega
theorem strip_shift (s : ByteArray) : ∃ o, sg (bt s) s.size 0 = o ∧ s.size = (stripB s).size + o ∧ (∀ q, q < (stripB s).size → bt (stripB s) q = bt s (q + o)) ∧ (∀ q, q < o → bt s q ≠ 95) ∧ o ≤ 1 := by
  have hone : ∀ h : 0 < s.size, (s.extract 1 s.size).size + 1 = s.size := fun h => by simp; omega
  rcases stripB_cases s with ⟨h0, e⟩ | ⟨h0, h1, e⟩ | ⟨h0, h1, e⟩ | ⟨h0, h1, h2, e⟩
  · exact ⟨0, by unfold sg; rw [if_neg (by omega)], by rw [e, Nat.add_zero], by rw [e]; exact fun q _ => rfl, fun q h => by omega, by decide⟩
  · refine ⟨1, by unfold sg; rw [if_pos ⟨h0, .inl h1⟩], by rw [e, hone h0], ?_, fun q h => (by have h9 : q = 0 := (by omega); rw [h9]; omega), by decide⟩
    rw [e]
    exact fun q hq => bt_extK 1 s q (by have := hone h0; omega)
  · refine ⟨1, by unfold sg; rw [if_pos ⟨h0, .inr h1⟩], by rw [e, hone h0], ?_, fun q h => (by have h9 : q = 0 := (by omega); rw [h9]; omega), by decide⟩
    rw [e]
    exact fun q hq => bt_extK 1 s q (by have := hone h0; omega)
  · exact ⟨0, by unfold sg; rw [if_neg (by omega)], by rw [e, Nat.add_zero], by rw [e]; exact fun q _ => rfl, fun q h => by omega, by decide⟩
def LHex (t : ByteArray) : Prop := 2 ≤ t.size ∧ bt t 0 = 48 ∧ lw (bt t 1) = 120
theorem lw120 {c : Nat} (hc : c < 256) (h : lw c = 120) : c = 120 ∨ c = 88 := by
  have k : ∀ c : Fin 256, bits .or .u8 ((c : Nat) : Int) 32 = 120 → (c : Nat) = 120 ∨ (c : Nat) = 88 := by decide +kernel
  exact k ⟨c, hc⟩ h
theorem ext_all (s : ByteArray) : s.extract 0 s.size = s := by
  apply ByteArray.ext
  simp
theorem us_ok {s : ByteArray} {us : Bool} {n o : Nat} (hn : s.size = n) (ho : ∀ q, q < o → bt s q ≠ 95) (hu : ∀ q, o ≤ q → q < n → bt s q = 95 → us = true) (h : us = true → uOk (stripB (s.extract 0 n)) = true) : usOk s = true := by
  subst hn
  rw [ext_all] at h
  unfold usOk
  split
  · rename_i he
    obtain ⟨q, hq, h95⟩ := he
    refine h (hu q ?_ hq h95)
    rcases Nat.lt_or_ge q o with h' | h'
    · exact absurd h95 (ho q h')
    · exact h'
  · rfl
/-- A decimal text that Go's own readFloat has read to its end. -/
theorem rf_dec {s : ByteArray} {mant : Nat} {exp : Int} {ng tr : Bool} (hm : mant < 18446744073709551616) (h : RfOk s mant exp ng tr false s.size) :
    ∃ (i : Nat) (dot : Bool) (ds : List Nat) (dp z : Int), FDone (rdF (bt (stripB s)) (stripB s).size) (0, false, false, [], 0) (i, true, dot, ds, dp) ∧ tailRes 101 false (bt (stripB s)) (stripB s).size i = some z ∧
      usOk s = true ∧ ¬ LHex (stripB s) ∧ (mant = 0 → ds = []) ∧ (mant ≠ 0 → GeT (ds, dp + z) → (∃ q : Nat, exp = q ∧ TT ≤ (mant + 1) * 10 ^ q) ∧ (tr = false → ∃ q : Nat, exp = q ∧ TT ≤ mant * 10 ^ q)) := by
  obtain ⟨h1, h2, st, z, us, h3, h4, h5, h6, h7, h8, h9⟩ := h
  obtain ⟨o, ho, hn, hg, hu, ho1⟩ := strip_shift s
  have hro : rfO (bt s) s.size = o := by unfold rfO; rw [← h2, if_neg (by decide), ho]
  rw [hro] at h3
  obtain ⟨i, ds, dp, hd, J⟩ := sF_done hn hg h3
  have hle := sF_le (by omega) h3.1
  obtain ⟨t1, t2⟩ := tail_eq hn hg J.pl h5 J.us hle (lw_not95 false)
  rw [h4] at hd
  refine ⟨i, st.dot, ds, dp, z, hd, t1, us_ok rfl hu t2 h9, ?_, ?_, ?_⟩
  · rintro ⟨k1, k2, k3⟩
    generalize (stripB s).size = m at *
    generalize bt (stripB s) = g at *
    have hm2 : m = 2 := by
      rcases Nat.lt_or_ge 2 m with hlt | hge
      · exfalso
        unfold rfHx at h2
        rw [ho] at h2
        have := of_decide_eq_false h2.symm
        refine this ⟨by omega, ?_, ?_⟩
        · have := hg 0 (by omega); rw [Nat.zero_add] at this; rw [← this]; exact k2
        · have := hg 1 (by omega); rw [Nat.add_comm] at this; rw [← this]; exact k3
      · omega
    subst hm2
    have k4 : g 1 = 120 ∨ g 1 = 88 := by
      have := hg 1 (by omega)
      rw [this] at k3 ⊢
      exact lw120 (bt_lt _ _) k3
    have r1 : FDone (rdF g 2) (0, false, false, [], 0) (1, true, false, [], 0) := FGo.fin (FGo.step .refl (rd_zero (by decide) k2)) (rd_stop (by omega) (by omega) (by unfold isD; omega))
    have r2 := hd.uniq r1
    obtain rfl : i = 1 := congrArg Prod.fst r2
    unfold tailRes at t1
    rw [if_neg (by rw [k3]; decide), if_pos (.inr (by decide))] at t1
    cases t1
  · intro h0
    rcases Nat.eq_zero_or_pos st.nd with e | e
    · have := J.nd
      exact List.eq_nil_of_length_eq_zero (by omega)
    · have := J.po e
      omega
  · intro h0 hT
    have hnm := J.nm
    have hnd := J.nd
    have e : exp = dp + z - ds.length + ((st.nd - st.nm : Nat) : Int) := by
      rw [h8, if_neg h0]
      have hq : sQ false = 1 := rfl
      rw [hq]
      cases hdot : st.dot
      · rw [if_neg (by decide), J.d0 hdot]; omega
      · rw [if_pos rfl, J.d1 hdot]; omega
    have := TT_64
    subst h6
    refine ⟨GeT_up (Nat.le_of_lt J.hi) e (by omega) hT, fun ht => GeT_up (Nat.le_of_eq (J.eq (.inl (by rw [← h7]; exact ht)))) e (by omega) hT⟩
end Go.Proofs.YtilkcnoooecngaaGreatDoor
namespace Go.Proofs.YtilkcnoooecngaaGreatDoor
open Go.RowKit
set_option linter.unusedVariables false
structure JH (f : Nat → Nat) (o : Nat) (a : SF) (i mant : Nat) (ex : Int) : Prop where
  pl : i + o = a.i
  nm : a.nm = min a.nd 16
  st : mant = if a.tr = true then a.mant ||| 1 else a.mant
  tr : a.tr = true → 16 ≤ a.nd
  lo : a.nd ≠ 0 → 16 ^ (a.nm - 1) ≤ a.mant
  z0 : a.nd = 0 → a.mant = 0
  ub : a.mant < 16 ^ a.nm
  e1 : a.dot = true → ex = 4 * (a.dp - a.nm)
  e0 : a.dot = false → ex = 4 * ((a.nd : Int) - a.nm)
  us : ∀ q, o ≤ q → q < a.i → f q = 95 → a.us = true
theorem JH.start (f : Nat → Nat) (o : Nat) : JH f o (.at o) 0 0 0 := ⟨Nat.zero_add _, rfl, rfl, fun h => (by cases h), fun h => absurd rfl h, fun _ => rfl, by simp [SF.at], fun h => (by cases h), fun _ => rfl, fun q h1 h2 => by have : q < o := h2; omega⟩
theorem JH.dig {f : Nat → Nat} {o i d mant : Nat} {a : SF} {ex : Int} (J : JH f o a i mant ex) (h9 : f a.i ≠ 95) (hd : d < 16) (h0 : a.nd ≠ 0 ∨ d ≠ 0) :
    JH f o (a.dig true d (decide (d ≠ 0))) (i + 1) (hxS mant ex d a.dot).1 (hxS mant ex d a.dot).2 := by
  have e2 := J.nm
  have e3 := J.ub
  have e4 := J.lo
  have hsm : sM true = 16 := rfl
  have hsb : sB true = 16 := rfl
  unfold SF.dig
  by_cases hm : a.nm < sM true
  · rw [if_pos hm]
    rw [hsm] at hm
    have htr : a.tr = false := by
      cases h : a.tr
      · rfl
      · have := J.tr h; omega
    have e5 : mant = a.mant := by rw [J.st, htr, if_neg (by decide)]
    have e6 : mant < 1152921504606846976 := by
      have : 16 ^ a.nm ≤ 16 ^ 15 := Nat.pow_le_pow_right (by decide) (by omega)
      have h15 : (16 : Nat) ^ 15 = 1152921504606846976 := by decide
      omega
    rw [hxS_small e6]
    refine ⟨by have := J.pl; simp only; omega, by simp only; omega, ?_, fun h => ?_, fun _ => ?_, fun h => ?_, ?_, fun h => ?_, fun h => ?_, us_more J.us h9⟩
    · simp only [hsb]; rw [htr, if_neg (by decide), e5]
    · simp only at h; rw [htr] at h; cases h
    · simp only [hsb]
      rw [Nat.add_sub_cancel]
      by_cases hz : a.nd = 0
      · have : a.nm = 0 := by omega
        rw [this]; simp; omega
      · have := e4 hz
        obtain ⟨k, hk⟩ : ∃ k, a.nm = k + 1 := ⟨a.nm - 1, by omega⟩
        rw [hk, Nat.add_sub_cancel] at this
        rw [hk, Nat.pow_succ]; omega
    · simp only at h; omega
    · simp only [hsb]; rw [Nat.pow_succ]; omega
    · simp only at h ⊢
      rw [if_pos h, J.e1 h]; omega
    · simp only at h ⊢
      rw [if_neg (by rw [h]; decide), J.e0 h]; omega
  · rw [if_neg hm]
    rw [hsm] at hm
    have hnd : 16 ≤ a.nd := by omega
    have hn16 : a.nm = 16 := by omega
    have e5 : ¬ mant < 1152921504606846976 := by
      have h1 := e4 (by omega)
      rw [hn16] at h1
      have h15 : (16 : Nat) ^ (16 - 1) = 1152921504606846976 := by decide
      rw [h15] at h1
      have : a.mant ≤ mant := by
        rw [J.st]
        split
        · exact Nat.left_le_or
        · exact Nat.le_refl _
      omega
    rw [hxS_big e5]
    refine ⟨by have := J.pl; simp only; omega, by simp only; omega, ?_, fun _ => by simp only; omega, fun h => e4 (by omega), fun h => by simp only at h; omega, e3, fun h => ?_, fun h => ?_, us_more J.us h9⟩
    · simp only
      by_cases hz : d = 0
      · subst hz
        rw [if_neg (by decide), J.st]; simp
      · rw [if_pos hz, decide_eq_true (show d ≠ 0 from hz), Bool.or_true, if_pos rfl, J.st]
        split
        · rw [Nat.or_assoc, Nat.or_self]
        · rfl
    · simp only at h ⊢
      rw [if_pos h, J.e1 h]
    · simp only at h ⊢
      rw [if_neg (by rw [h]; decide), J.e0 h]; omega
theorem dig_sm {hx : Bool} (a : SF) (d : Nat) (z : Bool) : (a.dig hx d z).sm = true ∧ (a.dig hx d z).dot = a.dot := by
  unfold SF.dig
  split <;> exact ⟨rfl, rfl⟩
theorem sFx_some {f : Nat → Nat} {n o i mant : Nat} {ex : Int} {a c : SF} {g : Nat → Nat} {m : Nat} (hn : n = m + o) (hg : ∀ q, q < m → g q = f (q + o)) (hb : ∀ q, f q < 256) (J : JH f o a i mant ex) (k : sF true f n a = some c) :
    ∃ i' mant' ex', hxF g m (i, a.sm, a.dot, mant, ex) = some (i', c.sm, c.dot, mant', ex') ∧ JH f o c i' mant' ex' := by
  by_cases hlt : a.i < n
  · have hi : i < m := by have := J.pl; omega
    have e : g i = f a.i := by rw [hg i hi, J.pl]
    by_cases h95 : f a.i = 95
    · rw [sF_us hlt h95] at k
      obtain rfl := Option.some.inj k
      exact ⟨_, _, _, hx_skip hi (e.trans h95), ⟨by have := J.pl; simp only; omega, J.nm, J.st, J.tr, J.lo, J.z0, J.ub, J.e1, J.e0, fun _ _ _ _ => rfl⟩⟩
    · by_cases h46 : f a.i = 46
      · obtain ⟨ai, us, dot, sm, nd, nm, mn, tr, adp⟩ := a
        cases dot
        · rw [sF_pt hlt h46 rfl] at k
          obtain rfl := Option.some.inj k
          exact ⟨_, _, _, hx_point hi (e.trans h46), ⟨by have := J.pl; simp only at this ⊢; omega, J.nm, J.st, J.tr, J.lo, J.z0, J.ub, fun _ => J.e0 rfl, fun h => (by cases h), us_more J.us h95⟩⟩
        · rw [sF_pt2 hlt h46 rfl] at k
          cases k
      · have hp : ¬ (g i = 46 ∧ a.dot = false) := fun h => h46 (e ▸ h.1)
        by_cases hd : isD (f a.i)
        · have d1 := hd.1
          have d2 := hd.2
          have hv1 : hv (g i) = f a.i - 48 := by unfold hv; rw [e, if_pos hd]
          have hr := hx_dig (sm := a.sm) (dot := a.dot) (mant := mant) (ex := ex) hi (by rw [e]; exact h95) hp (show isX (g i) from .inl (by rw [e]; exact hd))
          rw [hv1] at hr
          by_cases hz : f a.i = 48 ∧ a.nd = 0
          · rw [sF_z hlt hz.1 hz.2] at k
            obtain rfl := Option.some.inj k
            have htr : a.tr = false := by
              cases h : a.tr
              · rfl
              · have := J.tr h; omega
            have hm0 : mant = 0 := by rw [J.st, htr, if_neg (by decide), J.z0 hz.2]
            have hnm : a.nm = 0 := by have := J.nm; omega
            rw [hz.1, hm0, hxS_small (by decide)] at hr
            refine ⟨_, _, _, by rw [hm0]; exact hr, ⟨by have := J.pl; simp only; omega, J.nm, ?_, J.tr, J.lo, J.z0, J.ub, fun h => ?_, fun h => ?_, us_more J.us h95⟩⟩
            · simp only; rw [htr, if_neg (by decide), J.z0 hz.2]
            · simp only at h ⊢
              rw [if_pos h, J.e1 h]; omega
            · simp only at h ⊢
              rw [if_neg (by rw [h]; decide), J.e0 h]
          · rw [sF_d hlt hd hz] at k
            obtain rfl := Option.some.inj k
            have hj := J.dig (d := f a.i - 48) h95 (by omega) (by
              by_cases h0 : a.nd = 0
              · exact .inr (fun h => hz ⟨by omega, h0⟩)
              · exact .inl h0)
            rw [show decide (f a.i - 48 ≠ 0) = decide (f a.i ≠ 48) by
              by_cases h : f a.i = 48
              · rw [h]; rfl
              · rw [decide_eq_true h, decide_eq_true (show f a.i - 48 ≠ 0 by omega)]] at hj
            refine ⟨_, _, _, ?_, hj⟩
            rw [hr, (dig_sm _ _ _).1, (dig_sm _ _ _).2]
        · by_cases hl : 97 ≤ lw (f a.i) ∧ lw (f a.i) ≤ 102
          · rw [sF_x hlt hl hd h46 h95] at k
            obtain rfl := Option.some.inj k
            have hv1 : hv (g i) = (lw (f a.i) - 87).toNat := by unfold hv; rw [e, if_neg hd]
            have hr := hx_dig (sm := a.sm) (dot := a.dot) (mant := mant) (ex := ex) hi (by rw [e]; exact h95) hp (show isX (g i) from .inr (by rw [e]; exact hl))
            rw [hv1] at hr
            have hj := J.dig (d := (lw (f a.i) - 87).toNat) h95 (by omega) (.inr (by omega))
            rw [show decide ((lw (f a.i) - 87).toNat ≠ 0) = true from decide_eq_true (by omega)] at hj
            refine ⟨_, _, _, ?_, hj⟩
            rw [hr, (dig_sm _ _ _).1, (dig_sm _ _ _).2]
          · rw [sF_no h95 h46 hd (fun h => hl h.2)] at k
            cases k
  · rw [sF_end hlt] at k
    cases k
theorem sFx_go {f : Nat → Nat} {n o : Nat} {a : SF} {g : Nat → Nat} {m : Nat} (hn : n = m + o) (hg : ∀ q, q < m → g q = f (q + o)) (hb : ∀ q, f q < 256) (h : FGo (sF true f n) (.at o) a) :
    ∃ i mant ex, FGo (hxF g m) (0, false, false, 0, 0) (i, a.sm, a.dot, mant, ex) ∧ JH f o a i mant ex := by
  induction h with
  | refl => exact ⟨0, 0, 0, .refl, JH.start f o⟩
  | step h k ih =>
    obtain ⟨i, ds, dp, h1, J⟩ := ih
    obtain ⟨i', ds', dp', h2, J'⟩ := sFx_some hn hg hb J k
    exact ⟨i', ds', dp', h1.step h2, J'⟩
theorem sFx_done {f : Nat → Nat} {n o : Nat} {a : SF} {g : Nat → Nat} {m : Nat} (hn : n = m + o) (hg : ∀ q, q < m → g q = f (q + o)) (hb : ∀ q, f q < 256) (h : FDone (sF true f n) (.at o) a) :
    ∃ i mant ex, FDone (hxF g m) (0, false, false, 0, 0) (i, a.sm, a.dot, mant, ex) ∧ JH f o a i mant ex := by
  obtain ⟨i, mant, ex, h1, J⟩ := sFx_go hn hg hb h.1
  refine ⟨i, mant, ex, h1.fin ?_, J⟩
  by_cases hlt : a.i < n
  · have hi : i < m := by have := J.pl; omega
    have e : g i = f a.i := by rw [hg i hi, J.pl]
    have h95 : f a.i ≠ 95 := fun h9 => h.2 _ (sF_us hlt h9)
    have hd : ¬ isD (f a.i) := fun hd => by
      by_cases hz : f a.i = 48 ∧ a.nd = 0
      · exact h.2 _ (sF_z hlt hz.1 hz.2)
      · exact h.2 _ (sF_d hlt hd hz)
    have hp : ¬ (f a.i = 46 ∧ a.dot = false) := fun hp => h.2 _ (sF_pt hlt hp.1 hp.2)
    have hl : ¬ (97 ≤ lw (f a.i) ∧ lw (f a.i) ≤ 102) := fun hl => by
      have h46 : f a.i ≠ 46 := fun h46 => by
        rw [h46, lw_or 46 (by decide)] at hl
        exact absurd hl.1 (by decide)
      exact h.2 _ (sF_x hlt hl hd h46 h95)
    refine hx_stop hi (by rw [e]; exact h95) (by rw [e]; exact hp) ?_
    rw [e]
    rintro (h1 | h1)
    · exact hd h1
    · exact hl h1
  · unfold hxF
    rw [if_neg (show ¬ i < m by have := J.pl; omega)]
/-- m * 2^z is at least the least value that rounds to what is too great. -/
def GeZ (m : Nat) (z : Int) : Prop := 18014398509481983 * 2 ^ (970 - z).toNat ≤ m * 2 ^ (z - 970).toNat
theorem rf_hex {s : ByteArray} {mant : Nat} {exp : Int} {ng tr : Bool} (h : RfOk s mant exp ng tr true s.size) :
    usOk s = true ∧ LHex (stripB s) ∧ (tr = true → 1152921504606846976 ≤ mant) ∧ ∃ x, hexRes (bt ((stripB s).extract 2 (stripB s).size)) ((stripB s).extract 2 (stripB s).size).size = some (if tr = true then mant ||| 1 else mant, x) ∧ (mant ≠ 0 → exp = x) := by
  obtain ⟨h1, h2, st, z, us, h3, h4, h5, h6, h7, h8, h9⟩ := h
  obtain ⟨o, ho, hn, hg, hu, ho1⟩ := strip_shift s
  have hro : rfO (bt s) s.size = o + 2 := by unfold rfO; rw [← h2, if_pos rfl, ho]
  have hh : o + 2 < s.size ∧ bt s o = 48 ∧ lw (bt s (o + 1)) = 120 := by
    unfold rfHx at h2
    rw [ho] at h2
    exact of_decide_eq_true h2.symm
  have hL : LHex (stripB s) := by
    refine ⟨by omega, ?_, ?_⟩
    · have := hg 0 (by omega); rw [Nat.zero_add] at this; rw [this]; exact hh.2.1
    · have := hg 1 (by omega); rw [Nat.add_comm] at this; rw [this]; exact hh.2.2
  rw [hro] at h3
  have hn2 : s.size = ((stripB s).extract 2 (stripB s).size).size + (o + 2) := by
    simp; omega
  have hg2 : ∀ q, q < ((stripB s).extract 2 (stripB s).size).size → bt ((stripB s).extract 2 (stripB s).size) q = bt s (q + (o + 2)) := fun q hq => by
    rw [bt_extK 2 (stripB s) q (by omega), hg (q + 2) (by omega)]
    congr 1
    omega
  obtain ⟨i, mn, ex, hd, J⟩ := sFx_done hn2 hg2 (bt_lt s) h3
  have hle := sF_le (by omega) h3.1
  obtain ⟨t1, t2⟩ := tail_eq hn2 hg2 J.pl h5 J.us hle (lw_not95 true)
  rw [h4] at hd
  refine ⟨us_ok rfl ?_ t2 h9, hL, ?_, ex + z, ?_, ?_⟩
  · intro q hq
    rcases Nat.lt_or_ge q o with h' | h'
    · exact hu q h'
    · rcases Nat.eq_or_lt_of_le h' with e | e
      · rw [← e, hh.2.1]; decide
      · obtain rfl : q = o + 1 := by omega
        rcases lw120 (bt_lt _ _) hh.2.2 with e | e <;> rw [e] <;> decide
  · intro ht
    have k1 := J.tr (by rw [← h7]; exact ht)
    have k2 := J.nm
    have k3 := J.lo (by omega)
    rw [show st.nm = 16 by omega] at k3
    have h15 : (16 : Nat) ^ (16 - 1) = 1152921504606846976 := by decide
    rw [h15] at k3
    omega
  · rw [hexRes_eq hd, if_pos rfl]
    have : tailRes 112 true (bt ((stripB s).extract 2 (stripB s).size)) ((stripB s).extract 2 (stripB s).size).size i = some z := t1
    rw [this, J.st, h6, h7]
    rfl
  · intro h0
    have hq : sQ true = 4 := rfl
    rw [h8, if_neg h0, hq]
    cases hdot : st.dot
    · rw [if_neg (by decide), J.e0 hdot]; omega
    · rw [if_pos rfl, J.e1 hdot]; omega
theorem vD_decD (m : Nat) : vD (decD m) = m := decD_val m
theorem hex_ge {m : Nat} {x : Int} {c : List Nat × Int} (h : HexR m x c) (hT : GeT c) : GeZ m x := by
  obtain ⟨M0, hT⟩ := hT
  rcases h with ⟨_, rfl⟩ | ⟨h0, h1⟩
  · exfalso
    have h1 := hT M0 (Nat.le_refl _)
    simp only [VL, vD, Nat.zero_mul] at h1
    have h2 : 0 < TT * 10 ^ M0 := Nat.mul_pos (Nat.lt_of_lt_of_le (by decide) TT_gt) (Nat.pow_pos (by decide))
    omega
  · obtain ⟨M1, hE⟩ := shift_eq h1
    obtain ⟨y, hy⟩ : ∃ y : Int, min x 1100 = y := ⟨_, rfl⟩
    rw [hy] at hE
    have hyx : y ≤ x := by omega
    have e1 := hE (M0 + M1) (by omega) (-y).toNat y.toNat (by omega)
    have e2 := hT (M0 + M1) (by omega)
    rw [VL_trim _ _ (by omega)] at e1
    simp only [VL, vD_decD] at e1
    rw [show ((M0 + M1 : Nat) : Int) + ((decD m).length : Int) - ((decD m).length : Int) = ((M0 + M1 : Nat) : Int) by omega, Int.toNat_natCast] at e1
    obtain ⟨V, hV⟩ : ∃ V, VL (M0 + M1) c = V := ⟨_, rfl⟩
    simp only [VL] at hV
    simp only [VL] at e2
    rw [hV] at e1 e2
    obtain ⟨T, hTen⟩ : ∃ T, 10 ^ (M0 + M1) = T := ⟨_, rfl⟩
    have hTpos : 0 < T := by rw [← hTen]; exact Nat.pow_pos (by decide)
    rw [hTen] at e1 e2
    have e3 : TT * 2 ^ (-y).toNat ≤ m * 2 ^ y.toNat := by
      have : TT * T * 2 ^ (-y).toNat ≤ m * T * 2 ^ y.toNat := by
        rw [← e1]; exact Nat.mul_le_mul_right _ e2
      rw [Nat.mul_right_comm, Nat.mul_right_comm m] at this
      exact Nat.le_of_mul_le_mul_right this hTpos
    unfold TT at e3
    unfold GeZ
    rw [Nat.mul_assoc, ← Nat.pow_add] at e3
    have hE9 : (E970 : Int) = 970 := rfl
    generalize E970 = E at *
    obtain ⟨p, hp⟩ : ∃ p, ((970 : Int) - x).toNat = p := ⟨_, rfl⟩
    obtain ⟨q, hq⟩ : ∃ q, (x - (970 : Int)).toNat = q := ⟨_, rfl⟩
    obtain ⟨u, hu⟩ : ∃ u, (-y).toNat = u := ⟨_, rfl⟩
    obtain ⟨v, hv⟩ : ∃ v, y.toNat = v := ⟨_, rfl⟩
    rw [hp, hq]
    rw [hu, hv] at e3
    have hle : p + v ≤ E + u + q := by omega
    have e4 : 18014398509481983 * 2 ^ p * 2 ^ v ≤ m * 2 ^ q * 2 ^ v := by
      rw [Nat.mul_assoc, ← Nat.pow_add]
      refine Nat.le_trans (Nat.mul_le_mul_left _ (Nat.pow_le_pow_right (by decide) hle)) ?_
      rw [Nat.pow_add 2 (E + u), ← Nat.mul_assoc, Nat.mul_right_comm m]
      exact Nat.mul_le_mul_right _ e3
    exact Nat.le_of_mul_le_mul_right e4 (Nat.two_pow_pos v)
end Go.Proofs.YtilkcnoooecngaaGreatDoor
