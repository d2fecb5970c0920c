/- Which of two cells comes ahead, at any mode: less, ZzLess, Before; and what the law asks of it, in plain Lean. -/
import Derived.Test.YtilkcnoooecngaaGreatDoorBdA
import Derived.Test.YtilkcnoooecngaaGreatDoorStF
namespace Go.Proofs.YtilkcnoooecngaaGreatDoor
open Go.RowKit
set_option linter.unusedVariables false
def lS (lo : ByteArray → ByteArray) (a b : ByteArray) (m : Nat) (fold : Bool) (ra rb : Option Nat) : Bool := if eqs a b then true else if m = 0 ∨ m = 4 then aS lo a b fold else if m = 2 ∨ m = 6 then fS ra rb else mS lo a b fold ra rb
def lL (lo : ByteArray → ByteArray) (a b : ByteArray) (m : Nat) (fold : Bool) (ra rb : Option Nat) : Bool := if eqs a b then false else if m = 0 ∨ m = 4 then aL lo a b m fold else if m = 2 ∨ m = 6 then fL ra rb m else mL lo a b m fold ra rb
def Nm (m : Nat) (a b : ByteArray) (ra rb : Option Nat) : Prop := eqs a b = false → ¬ (m = 0 ∨ m = 4) → PFv a ra ∧ PFv b rb
def LzRet (lo : ByteArray → ByteArray) (a b : ByteArray) (m : Nat) (fold : Bool) (w : World) (e : Ending) (w' : World) : Prop := Below w.heap.size w w' ∧ ∃ ra rb p x, Nm m a b ra rb ∧ p = lS lo a b m fold ra rb ∧ x = lL lo a b m fold ra rb ∧ e = .returned (.tuple #[.bool p, .bool x])
theorem nil_func (W : World) : (binOp .neq 31 .nilFunc .nilFunc).run Tryz.prog W = .ok (.bool false) W := by kernel_rfl
theorem eqs_true {a b : ByteArray} (h : eqs a b = true) : a = b := by
  unfold eqs at h; rw [beq_bytes] at h; exact of_decide_eq_true h
theorem eqs_iff (a b : ByteArray) : eqs a b = true ↔ a = b := by
  unfold eqs; rw [beq_bytes]; simp
set_option maxHeartbeats 4000000 in
set_option maxRecDepth 100000 in
theorem less_any (lo : ByteArray → ByteArray) (a b : ByteArray) (m : Nat) (fold : Bool) (w : World) (ha : a.size ≤ 400) (hb : b.size ≤ 400) (hm : m < 8) (hL : LowOk lo w) :
    Calls Tryz.prog 9 #[.string a, .string b, .agg (sbC m fold)] w (LzRet lo a b m fold w) := by
  have hnf := nil_func
  have B0 : Below w.heap.size w (w.alloc (.cells #[.string ⟨#[]⟩, .int .i64 0, .int .i64 (m : Int), .bool fold, .nilFunc] tSB)) := (Below.refl _ _).alloc (Nat.le_refl _) _
  have HB0 := Lib.hid B0
  have h3 : (a.toList == b.toList) = eqs a b := rfl
  cases he : eqs a b with
  | true =>
    have HR := Lib.hid (show Nm m a b none none ∧ true = lS lo a b m fold none none ∧ false = lL lo a b m fold none none from ⟨fun h => by (rw [he] at h; cases h), by unfold lS; rw [he]; rfl, by unfold lL; rw [he]; rfl⟩)
    rw [he] at h3
    have hab := eqs_true he
    subst hab
    clear hL B0 he h3
    go_enter Tryz.func9, Tryz.ntmps9
    go_wp2_with fail
    go_ret2
    exact ⟨HB0.out, none, none, true, false, HR.out.1, HR.out.2.1, HR.out.2.2, rfl⟩
  | false =>
    rw [he] at h3
    have HE := Lib.hid he
    by_cases h04 : m = 0 ∨ m = 4
    · have hT := alpha_any lo a b m fold _ ha hb hm (hL.stays B0)
      have HR := Lib.hid (show Nm m a b none none ∧ aS lo a b fold = lS lo a b m fold none none ∧ aL lo a b m fold = lL lo a b m fold none none from ⟨fun _ h => absurd h04 h, by unfold lS; rw [he, if_neg (by decide), if_pos h04], by unfold lL; rw [he, if_neg (by decide), if_pos h04]⟩)
      clear hL B0 he
      generalize aS lo a b fold = q1 at *
      generalize aL lo a b m fold = q2 at *
      rcases h04 with rfl | rfl
      all_goals
        go_enter Tryz.func9, Tryz.ntmps9
        go_wp2_with (go_at_call 12; refine halt_B ?_)
        refine resume_B ?_
        refine hT.mono ?_
        rintro e w1 ⟨rfl, hb1⟩
        have HB1 := Lib.hid (HB0.out.trans (hb1.mono HB0.out.size))
        clear hb1 hT HB0
        go_wp2_with fail
        go_ret2
        exact ⟨HB1.out, none, none, q1, q2, HR.out.1, HR.out.2.1, HR.out.2.2, rfl⟩
    · by_cases h26 : m = 2 ∨ m = 6
      · have hT := numeric_any a b m fold (w.alloc (.cells #[.string ⟨#[]⟩, .int .i64 0, .int .i64 (m : Int), .bool fold, .nilFunc] tSB)) ha hb hm
        have H04 := Lib.hid h04
        have HR := Lib.hid (show ∀ ra rb, lS lo a b m fold ra rb = fS ra rb ∧ lL lo a b m fold ra rb = fL ra rb m from fun ra rb => ⟨by unfold lS; rw [he, if_neg (by decide), if_neg h04, if_pos h26], by unfold lL; rw [he, if_neg (by decide), if_neg h04, if_pos h26]⟩)
        clear hL B0 he h04
        rcases h26 with rfl | rfl
        all_goals
          go_enter Tryz.func9, Tryz.ntmps9
          go_wp2_with (go_at_call 13; refine halt_B ?_)
          refine resume_B ?_
          refine hT.mono ?_
          rintro e w1 ⟨hb1, ra, rb, p1, p2, rfl⟩
          have HB1 := Lib.hid (HB0.out.trans (hb1.mono HB0.out.size))
          have HP := Lib.hid (And.intro p1 p2)
          clear hb1 hT HB0 p1 p2
          go_wp2_with fail
          go_ret2
          exact ⟨HB1.out, ra, rb, _, _, fun _ _ => HP.out, (HR.out ra rb).1.symm, (HR.out ra rb).2.symm, rfl⟩
      · have hT := mixed_any lo a b m fold _ ha hb hm (hL.stays B0)
        have HR := Lib.hid (show ∀ ra rb, lS lo a b m fold ra rb = mS lo a b fold ra rb ∧ lL lo a b m fold ra rb = mL lo a b m fold ra rb from fun ra rb => ⟨by unfold lS; rw [he, if_neg (by decide), if_neg h04, if_neg h26], by unfold lL; rw [he, if_neg (by decide), if_neg h04, if_neg h26]⟩)
        have hmm : m = 1 ∨ m = 3 ∨ m = 5 ∨ m = 7 := by omega
        clear hL B0 he h04 h26
        rcases hmm with rfl | rfl | rfl | rfl
        all_goals
          go_enter Tryz.func9, Tryz.ntmps9
          go_wp2_with (go_at_call 14; refine halt_B ?_)
          refine resume_B ?_
          refine hT.mono ?_
          rintro e w1 ⟨hb1, ra, rb, p1, p2, rfl⟩
          have HB1 := Lib.hid (HB0.out.trans (hb1.mono HB0.out.size))
          have HP := Lib.hid (And.intro p1 p2)
          clear hb1 hT HB0 p1 p2
          go_wp2_with fail
          go_ret2
          exact ⟨HB1.out, ra, rb, _, _, fun _ _ => HP.out, (HR.out ra rb).1.symm, (HR.out ra rb).2.symm, rfl⟩
set_option maxHeartbeats 1000000 in
theorem zzLess_any (lo : ByteArray → ByteArray) (a b : ByteArray) (m : Nat) (fold : Bool) (w : World) (ha : a.size ≤ 400) (hb : b.size ≤ 400) (hm : m < 8) (hL : LowOk lo w) :
    Calls Tryz.prog 7 #[.string a, .string b, .agg (sbC m fold)] w (LzRet lo a b m fold w) := by
  have B0 : Below w.heap.size w (w.alloc (.cells #[.string ⟨#[]⟩, .int .i64 0, .int .i64 (m : Int), .bool fold, .nilFunc] tSB)) := (Below.refl _ _).alloc (Nat.le_refl _) _
  have HB0 := Lib.hid B0
  have HC := Lib.hid (less_any lo a b m fold _ ha hb hm (hL.stays B0))
  clear hL B0
  go_enter Tryz.func7, Tryz.ntmps7
  go_wp2_with (go_at_call 9; refine halt_B ?_)
  refine resume_B ?_
  refine HC.out.mono ?_
  rintro e w1 ⟨hb1, ra, rb, p, x, p1, p2, p3, rfl⟩
  have HB1 := Lib.hid (HB0.out.trans (hb1.mono HB0.out.size))
  have HP := Lib.hid (And.intro p1 (And.intro p2 p3))
  clear hb1 HC HB0 p1 p2 p3
  go_wp2_with fail
  go_ret2
  exact ⟨HB1.out, ra, rb, p, x, HP.out.1, HP.out.2.1, HP.out.2.2, rfl⟩
set_option maxHeartbeats 1000000 in
theorem before_any (lo : ByteArray → ByteArray) (a b : ByteArray) (m : Nat) (fold : Bool) (w : World) (ha : a.size ≤ 400) (hb : b.size ≤ 400) (hm : m < 8) (hL : LowOk lo w) :
    Calls Tryz.prog 4 #[.string a, .string b, .int .i64 (m : Int), .bool fold] w (LzRet lo a b m fold w) := by
  have HC := Lib.hid (zzLess_any lo a b m fold w ha hb hm hL)
  clear hL
  go_enter Tryz.func4, Tryz.ntmps4
  go_wp2_with (go_at_call 7; refine halt_B ?_)
  refine resume_B ?_
  refine HC.out.mono ?_
  rintro e w1 ⟨hb1, ra, rb, p, x, p1, p2, p3, rfl⟩
  have HB1 := Lib.hid hb1
  have HP := Lib.hid (And.intro p1 (And.intro p2 p3))
  clear hb1 HC p1 p2 p3
  go_wp2_with fail
  go_ret2
  exact ⟨HB1.out, ra, rb, p, x, HP.out.1, HP.out.2.1, HP.out.2.2, rfl⟩
theorem bls_lt (a b : ByteArray) : bls a b = true ↔ a.data.toList < b.data.toList := by
  unfold bls; rw [bytesLess_eq, Lib.toList_data, Lib.toList_data]; simp
/-- Of two texts that are not one, one comes ahead. -/
theorem bls_one {a b : ByteArray} (h : eqs a b = false) : (bls a b = true ∧ bls b a = false) ∨ (bls a b = false ∧ bls b a = true) := by
  have hne : a.data.toList ≠ b.data.toList := fun e => by
    have : a = b := by
      apply ByteArray.ext
      exact Array.toList_inj.1 e
    rw [(eqs_iff a b).2 this] at h; cases h
  cases h1 : bls a b with
  | true =>
    left
    refine ⟨rfl, ?_⟩
    cases h2 : bls b a with
    | true => exact absurd (List.lt_trans ((bls_lt a b).1 h1) ((bls_lt b a).1 h2)) (List.lt_irrefl _)
    | false => rfl
  | false =>
    right
    refine ⟨rfl, ?_⟩
    cases h2 : bls b a with
    | true => rfl
    | false =>
      exfalso
      have n1 : ¬ a.data.toList < b.data.toList := fun k => by rw [(bls_lt a b).2 k] at h1; cases h1
      have n2 : ¬ b.data.toList < a.data.toList := fun k => by rw [(bls_lt b a).2 k] at h2; cases h2
      exact hne (List.le_antisymm (List.not_lt.1 n2) (List.not_lt.1 n1))
theorem eqs_comm (a b : ByteArray) : eqs a b = eqs b a := by
  cases h : eqs a b with
  | true => rw [eqs_true h]; exact ((eqs_iff b b).2 rfl).symm
  | false =>
    cases h2 : eqs b a with
    | true => rw [eqs_true h2, (eqs_iff a a).2 rfl] at h; cases h
    | false => rfl
theorem cB_one {asc : Bool} {a b : ByteArray} (h : eqs a b = false) : (cB asc a b = true ∧ cB asc b a = false) ∨ (cB asc a b = false ∧ cB asc b a = true) := by
  have h' : eqs b a = false := by rw [← eqs_comm]; exact h
  unfold cB
  rcases bls_one h with ⟨h1, h2⟩ | ⟨h1, h2⟩ <;> cases asc <;> simp [h1, h2, h, h']
/-- What the law asks, told by its ways. -/
def Way (p x q y : Bool) (R : Prop) : Prop := (p = true ∧ q = true) ∨ (p = false ∧ q = false ∧ ((x = true ∧ y = false) ∨ (x = false ∧ y = true) ∨ (x = false ∧ y = false ∧ R)))
theorem alpha_way (lo : ByteArray → ByteArray) (a b : ByteArray) (asc fold : Bool) (R : Prop) (h : eqs a b = false) : Way (aS lo a b fold) (aC asc lo a b fold) (aS lo b a fold) (aC asc lo b a fold) R := by
  unfold aS aC
  cases fold
  · right
    refine ⟨rfl, rfl, ?_⟩
    rcases cB_one (asc := asc) h with ⟨h1, h2⟩ | ⟨h1, h2⟩
    · exact .inl ⟨h1, h2⟩
    · exact .inr (.inl ⟨h1, h2⟩)
  · cases he : eqs (lo a) (lo b) with
    | true =>
      left
      rw [eqs_comm, he]
      exact ⟨rfl, rfl⟩
    | false =>
      right
      have he' : eqs (lo b) (lo a) = false := by rw [eqs_comm]; exact he
      rw [he']
      refine ⟨rfl, rfl, ?_⟩
      rcases cB_one (asc := asc) he with ⟨h1, h2⟩ | ⟨h1, h2⟩
      · exact .inl ⟨by rw [h1]; rfl, by rw [h2]; rfl⟩
      · exact .inr (.inl ⟨by rw [h1]; rfl, by rw [h2]; rfl⟩)
theorem num_way (x y m : Nat) (R : Prop) (hR : IsNan x ∨ IsNan y → R) : Way (nS x y) (nL x y m) (nS y x) (nL y x m) R := by
  have hs := ord_swap x y
  unfold nS nL
  cases ho : ord x y with
  | none =>
    rw [ho] at hs
    right
    rw [hs]
    refine ⟨rfl, rfl, .inr (.inr ⟨?_, ?_, hR (ord_none ho)⟩)⟩
    · cases nAsc m <;> rfl
    · cases nAsc m <;> rfl
  | some o =>
    rw [ho] at hs
    cases o
    · right
      rw [hs]
      refine ⟨rfl, rfl, ?_⟩
      cases nAsc m
      · exact .inr (.inl ⟨rfl, rfl⟩)
      · exact .inl ⟨rfl, rfl⟩
    · left
      rw [hs]
      exact ⟨rfl, rfl⟩
    · right
      rw [hs]
      refine ⟨rfl, rfl, ?_⟩
      cases nAsc m
      · exact .inl ⟨rfl, rfl⟩
      · exact .inr (.inl ⟨rfl, rfl⟩)
theorem turned (lo : ByteArray → ByteArray) (a b : ByteArray) (m : Nat) (fold : Bool) (ra rb ra' rb' : Option Nat) (R : Prop) (hm : m < 8) (h1 : Nm m a b ra rb) (h2 : Nm m b a rb' ra')
    (hR : PFv a ra → PFv b rb → (m = 2 ∨ m = 6 → ra = none ∨ rb = none → R) ∧ (∀ x, ra = some x → IsNan x → R) ∧ (∀ x, rb = some x → IsNan x → R)) :
    Way (lS lo a b m fold ra rb) (lL lo a b m fold ra rb) (lS lo b a m fold rb' ra') (lL lo b a m fold rb' ra') R := by
  unfold lS lL
  cases he : eqs a b with
  | true =>
    have he' : eqs b a = true := by rw [eqs_comm]; exact he
    rw [he', if_pos rfl, if_pos rfl]
    exact .inl ⟨rfl, rfl⟩
  | false =>
    have he' : eqs b a = false := by rw [eqs_comm]; exact he
    rw [he']
    simp only [Bool.false_eq_true, if_false]
    by_cases h04 : m = 0 ∨ m = 4
    · simp only [if_pos h04]
      exact alpha_way lo a b (ascM m) fold R he
    · simp only [if_neg h04]
      obtain ⟨p1, p2⟩ := h1 he h04
      obtain ⟨p3, p4⟩ := h2 he' h04
      obtain rfl := p1.uniq p4
      obtain rfl := p2.uniq p3
      obtain ⟨r1, r2, r3⟩ := hR p1 p2
      by_cases h26 : m = 2 ∨ m = 6
      · simp only [if_pos h26]
        cases ra with
        | none => exact .inr ⟨rfl, by cases rb <;> rfl, .inr (.inr ⟨rfl, by cases rb <;> rfl, r1 h26 (.inl rfl)⟩)⟩
        | some x =>
          cases rb with
          | none => exact .inr ⟨rfl, rfl, .inr (.inr ⟨rfl, rfl, r1 h26 (.inr rfl)⟩)⟩
          | some y => exact num_way x y m R (fun h => h.elim (r2 x rfl) (r3 y rfl))
      · simp only [if_neg h26]
        cases ra with
        | none =>
          cases rb with
          | none => exact alpha_way lo a b (ascM m) fold R he
          | some y =>
            right
            refine ⟨rfl, rfl, ?_⟩
            show (mLo m = true ∧ (!mLo m) = false) ∨ (mLo m = false ∧ (!mLo m) = true) ∨ _
            cases mLo m
            · exact .inr (.inl ⟨rfl, rfl⟩)
            · exact .inl ⟨rfl, rfl⟩
        | some x =>
          cases rb with
          | none =>
            right
            refine ⟨rfl, rfl, ?_⟩
            show ((!mLo m) = true ∧ mLo m = false) ∨ ((!mLo m) = false ∧ mLo m = true) ∨ _
            cases mLo m
            · exact .inl ⟨rfl, rfl⟩
            · exact .inr (.inl ⟨rfl, rfl⟩)
          | some y => exact num_way x y m R (fun h => h.elim (r2 x rfl) (r3 y rfl))
end Go.Proofs.YtilkcnoooecngaaGreatDoor
