/- Which of two texts comes ahead: the walks of lessAlphabetic, less, ZzLess and Before at the first mode. Texts of at most 400 bytes. -/
import Derived.Test.YtoeijholbhpkiaaDoorProg
import Derived.Test.YtoeijholbhpkiaaDoorBase
import Derived.WalkKit
import Derived.Handy
import Derived.BigQuiet
import Derived.WalkLawsBesides
namespace Go.Proofs.YtoeijholbhpkiaaDoor
open Go.RowKit
set_option linter.unusedVariables false
theorem halt_B {p : Prop} (h : Hid p) : p := h
theorem resume_B {p : Prop} (h : p) : Hid p := h
/-- What strings.ToLower answers: some text, always the same one; a call leaves memory below as it was. -/
def LowOk (lo : ByteArray → ByteArray) (w : World) : Prop := ∀ W, Below w.heap.size w W → ∀ s : ByteArray, s.size ≤ 400 → Calls Tryd.prog 11 #[.string s] W fun e w' => e = .returned (.string (lo s)) ∧ Below W.heap.size W w'
theorem LowOk.stays {lo : ByteArray → ByteArray} {w w' : World} (h : LowOk lo w) (hb : Below w.heap.size w w') : LowOk lo w' := fun W hW s hs => h W (hb.trans (hW.mono hb.size)) s hs
def SB (fold : Bool) : Value := .agg #[.string ⟨#[]⟩, .int .i64 0, .int .i64 0, .bool fold, .nilFunc]
def eqs (x y : ByteArray) : Bool := x.toList == y.toList
def bls (x y : ByteArray) : Bool := Op.bytesLess x.toList y.toList
def sB (lo : ByteArray → ByteArray) (a b : ByteArray) (fold : Bool) : Bool := if eqs a b then true else fold && eqs (lo a) (lo b)
def lB (lo : ByteArray → ByteArray) (a b : ByteArray) (fold : Bool) : Bool := if eqs a b then false else if fold then (eqs (lo a) (lo b) && bls a b) || bls (lo a) (lo b) else bls a b
def BRet (s l : Bool) (w : World) (e : Ending) (w' : World) : Prop := e = .returned (.tuple #[.bool s, .bool l]) ∧ Below w.heap.size w w'
set_option maxHeartbeats 1000000 in
set_option maxRecDepth 100000 in
theorem alpha_bare (a b : ByteArray) (w : World) : Calls Tryd.prog 8 #[.string a, .string b, SB false] w (BRet false (bls a b) w) := by
  unfold SB
  have hb : Op.bytesLess a.toList b.toList = bls a b := rfl
  generalize bls a b = q at *
  go_enter Tryd.func8, Tryd.ntmps8
  go_wp2_with fail
  go_ret2
  exact ⟨rfl, (Below.refl _ _).alloc (Nat.le_refl _) _⟩
set_option maxHeartbeats 1000000 in
set_option maxRecDepth 100000 in
theorem alpha_fold (lo : ByteArray → ByteArray) (a b : ByteArray) (w : World) (ha : a.size ≤ 400) (hb : b.size ≤ 400) (hL : LowOk lo w) : Calls Tryd.prog 8 #[.string a, .string b, SB true] w (BRet (eqs (lo a) (lo b)) ((eqs (lo a) (lo b) && bls a b) || bls (lo a) (lo b)) w) := by
  have B0 : Below w.heap.size w (w.alloc (.cells #[.string ⟨#[]⟩, .int .i64 0, .int .i64 0, .bool true, .nilFunc] 30)) := (Below.refl _ _).alloc (Nat.le_refl _) _
  have HB0 := Lib.hid B0
  have H1 := Lib.hid (hL _ B0 a ha)
  have H2 := Lib.hid (fun W hW => hL W hW b hb)
  have h1 : Op.bytesLess a.toList b.toList = bls a b := rfl
  have h2 : Op.bytesLess (lo a).toList (lo b).toList = bls (lo a) (lo b) := rfl
  have h3 : ((lo a).toList == (lo b).toList) = eqs (lo a) (lo b) := rfl
  generalize bls a b = q1 at *
  generalize bls (lo a) (lo b) = q2 at *
  generalize eqs (lo a) (lo b) = q3 at *
  unfold SB
  clear hL B0 ha hb
  go_enter Tryd.func8, Tryd.ntmps8
  go_wp2_with (go_at_call 11; refine halt_B ?_)
  refine resume_B ?_
  refine H1.out.mono ?_
  rintro e w1 ⟨rfl, hb1⟩
  have B1 := HB0.out.trans (hb1.mono HB0.out.size)
  have k2 : w1.cell? ⟨w.heap.size, 2, none⟩ = some (.int .i64 0) := (hb1.cell (p := ⟨w.heap.size, 2, none⟩) (by simp)).trans (cell_of_row _ _ _ _ _ _ (heap_alloc_new w _))
  have H3 := Lib.hid (H2.out w1 B1)
  have HB1 := Lib.hid B1
  clear B1 H1 H2 HB0
  generalize lo a = la at *
  go_wp2_with (go_at_call 11; refine halt_B ?_)
  refine resume_B ?_
  refine H3.out.mono ?_
  rintro e w2 ⟨rfl, hb2⟩
  have HB2 := Lib.hid (HB1.out.trans (hb2.mono HB1.out.size))
  have k3 : w2.cell? ⟨w.heap.size, 2, none⟩ = some (.int .i64 0) := (hb2.cell (p := ⟨w.heap.size, 2, none⟩) (by have := hb1.size; simp at this; show w.heap.size < w1.heap.size; omega)).trans k2
  clear hb1 hb2 H3 HB1 k2
  generalize lo b = lb at *
  cases q3 <;> cases q1
  all_goals
    go_wp2_with fail
    go_ret2
    exact ⟨rfl, HB2.out⟩
theorem nil_func (W : World) : (binOp .neq 28 .nilFunc .nilFunc).run Tryd.prog W = .ok (.bool false) W := by kernel_rfl
theorem eqs_true {a b : ByteArray} (h : eqs a b = true) : a = b := by
  unfold eqs at h; rw [beq_bytes] at h; exact of_decide_eq_true h
set_option maxHeartbeats 1000000 in
set_option maxRecDepth 100000 in
theorem less_any (lo : ByteArray → ByteArray) (a b : ByteArray) (fold : Bool) (w : World) (ha : a.size ≤ 400) (hb : b.size ≤ 400) (hL : LowOk lo w) : Calls Tryd.prog 7 #[.string a, .string b, SB fold] w (BRet (sB lo a b fold) (lB lo a b fold) w) := by
  have hnf := nil_func
  have B0 : Below w.heap.size w (w.alloc (.cells #[.string ⟨#[]⟩, .int .i64 0, .int .i64 0, .bool fold, .nilFunc] 30)) := (Below.refl _ _).alloc (Nat.le_refl _) _
  have HB0 := Lib.hid B0
  have h3 : (a.toList == b.toList) = eqs a b := rfl
  cases he : eqs a b with
  | true =>
    rw [he] at h3
    have e1 : sB lo a b fold = true := by unfold sB; rw [he]; rfl
    have e2 : lB lo a b fold = false := by unfold lB; rw [he]; rfl
    rw [e1, e2]
    have hab := eqs_true he
    subst hab
    unfold SB
    clear hL B0 he h3
    go_enter Tryd.func7, Tryd.ntmps7
    go_wp2_with fail
    go_ret2
    exact ⟨rfl, HB0.out⟩
  | false =>
    rw [he] at h3
    have e1 : sB lo a b fold = (fold && eqs (lo a) (lo b)) := by unfold sB; rw [he]; rfl
    have e2 : lB lo a b fold = if fold then (eqs (lo a) (lo b) && bls a b) || bls (lo a) (lo b) else bls a b := by unfold lB; rw [he]; rfl
    have HC := Lib.hid (show Calls Tryd.prog 8 #[.string a, .string b, SB fold] (w.alloc (.cells #[.string ⟨#[]⟩, .int .i64 0, .int .i64 0, .bool fold, .nilFunc] 30)) (BRet (sB lo a b fold) (lB lo a b fold) (w.alloc (.cells #[.string ⟨#[]⟩, .int .i64 0, .int .i64 0, .bool fold, .nilFunc] 30))) by
      rw [e1, e2]
      cases fold with
      | false => exact alpha_bare a b _
      | true => exact alpha_fold lo a b _ ha hb (hL.stays B0))
    generalize sB lo a b fold = q1 at *
    generalize lB lo a b fold = q2 at *
    clear hL B0 he e1 e2
    unfold SB at HC ⊢
    go_enter Tryd.func7, Tryd.ntmps7
    go_wp2_with (go_at_call 8; refine halt_B ?_)
    refine resume_B ?_
    refine HC.out.mono ?_
    rintro e w1 ⟨rfl, hb1⟩
    have HB1 := Lib.hid (HB0.out.trans (hb1.mono HB0.out.size))
    clear hb1 HC HB0
    go_wp2_with fail
    go_ret2
    exact ⟨rfl, HB1.out⟩
set_option maxHeartbeats 1000000 in
theorem zzLess_any (lo : ByteArray → ByteArray) (a b : ByteArray) (fold : Bool) (w : World) (ha : a.size ≤ 400) (hb : b.size ≤ 400) (hL : LowOk lo w) : Calls Tryd.prog 6 #[.string a, .string b, SB fold] w (BRet (sB lo a b fold) (lB lo a b fold) w) := by
  have B0 : Below w.heap.size w (w.alloc (.cells #[.string ⟨#[]⟩, .int .i64 0, .int .i64 0, .bool fold, .nilFunc] 30)) := (Below.refl _ _).alloc (Nat.le_refl _) _
  have HB0 := Lib.hid B0
  have HC := Lib.hid (less_any lo a b fold _ ha hb (hL.stays B0))
  generalize sB lo a b fold = q1 at *
  generalize lB lo a b fold = q2 at *
  clear hL B0
  unfold SB at HC ⊢
  go_enter Tryd.func6, Tryd.ntmps6
  go_wp2_with (go_at_call 7; refine halt_B ?_)
  refine resume_B ?_
  refine HC.out.mono ?_
  rintro e w1 ⟨rfl, hb1⟩
  have HB1 := Lib.hid (HB0.out.trans (hb1.mono HB0.out.size))
  clear hb1 HC HB0
  go_wp2_with fail
  go_ret2
  exact ⟨rfl, HB1.out⟩
set_option maxHeartbeats 1000000 in
theorem before_any (lo : ByteArray → ByteArray) (a b : ByteArray) (fold : Bool) (w : World) (ha : a.size ≤ 400) (hb : b.size ≤ 400) (hL : LowOk lo w) : Calls Tryd.prog 4 #[.string a, .string b, .int .i64 0, .bool fold] w (BRet (sB lo a b fold) (lB lo a b fold) w) := by
  have HC := Lib.hid (zzLess_any lo a b fold w ha hb hL)
  generalize sB lo a b fold = q1 at *
  generalize lB lo a b fold = q2 at *
  clear hL
  unfold SB at HC
  go_enter Tryd.func4, Tryd.ntmps4
  go_wp2_with (go_at_call 6; refine halt_B ?_)
  refine resume_B ?_
  refine HC.out.mono ?_
  rintro e w1 ⟨rfl, hb1⟩
  have HB1 := Lib.hid hb1
  clear hb1 HC
  go_wp2_with fail
  go_ret2
  exact ⟨rfl, HB1.out⟩
end Go.Proofs.YtoeijholbhpkiaaDoor
