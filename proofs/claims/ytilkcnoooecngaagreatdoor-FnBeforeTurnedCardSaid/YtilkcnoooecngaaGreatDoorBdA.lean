/- Which of two cells comes ahead, at any mode: the walks of lessAlphabetic, lessNumericVal, lessNumeric, lessMixedMode, less, ZzLess, Before. Texts of at most 400 bytes. -/
import Derived.Test.YtilkcnoooecngaaGreatDoorPfA
import Derived.WalkKit
import Derived.Handy
import Derived.BigQuiet
import Derived.WalkLawsBesides
namespace Go.Proofs.YtilkcnoooecngaaGreatDoor
open Go.RowKit
set_option linter.unusedVariables false
theorem halt_B {p : Prop} (h : Hid p) : p := h
theorem resume_B {p : Prop} (h : p) : Hid p := h
def LowOk (lo : ByteArray → ByteArray) (w : World) : Prop := ∀ W, Below w.heap.size w W → ∀ s : ByteArray, s.size ≤ 400 → Calls Tryz.prog 20 #[.string s] W fun e w' => e = .returned (.string (lo s)) ∧ Below W.heap.size W w'
theorem LowOk.stays {lo : ByteArray → ByteArray} {w w' : World} (h : LowOk lo w) (hb : Below w.heap.size w w') : LowOk lo w' := fun W hW s hs => h W (hb.trans (hW.mono hb.size)) s hs
abbrev tSB : TypeId := 33
abbrev sbC (m : Int) (fold : Bool) : Array Value := #[.string ⟨#[]⟩, .int .i64 0, .int .i64 m, .bool fold, .nilFunc]
def eqs (x y : ByteArray) : Bool := x.toList == y.toList
def bls (x y : ByteArray) : Bool := Op.bytesLess x.toList y.toList
def BRet (s l : Bool) (w : World) (e : Ending) (w' : World) : Prop := e = .returned (.tuple #[.bool s, .bool l]) ∧ Below w.heap.size w w'
def ascM (m : Nat) : Bool := m == 0 || m == 1 || m == 3
def aS (lo : ByteArray → ByteArray) (a b : ByteArray) (fold : Bool) : Bool := fold && eqs (lo a) (lo b)
def cB (asc : Bool) (a b : ByteArray) : Bool := if asc then bls a b else (!bls a b && !eqs a b)
def aC (asc : Bool) (lo : ByteArray → ByteArray) (a b : ByteArray) (fold : Bool) : Bool := if fold then (eqs (lo a) (lo b) && cB asc a b) || cB asc (lo a) (lo b) else cB asc a b
def aL (lo : ByteArray → ByteArray) (a b : ByteArray) (m : Nat) (fold : Bool) : Bool := aC (ascM m) lo a b fold
theorem m_cases {m : Nat} (h : m < 8) : m = 0 ∨ m = 1 ∨ m = 2 ∨ m = 3 ∨ m = 4 ∨ m = 5 ∨ m = 6 ∨ m = 7 := by omega
set_option maxHeartbeats 4000000 in
set_option maxRecDepth 100000 in
theorem alpha_true (lo : ByteArray → ByteArray) (a b : ByteArray) (m : Nat) (fold : Bool) (w : World) (ha : a.size ≤ 400) (hb : b.size ≤ 400) (hm : m = 0 ∨ m = 1 ∨ m = 3) (hL : LowOk lo w) :
    Calls Tryz.prog 12 #[.string a, .string b, .agg (sbC m fold)] w (BRet (aS lo a b fold) (aC true lo a b fold) w) := by
  have B0 : Below w.heap.size w (w.alloc (.cells #[.string ⟨#[]⟩, .int .i64 0, .int .i64 (m : Int), .bool fold, .nilFunc] tSB)) := (Below.refl _ _).alloc (Nat.le_refl _) _
  have HB0 := Lib.hid B0
  have H1 := Lib.hid (hL _ B0 a ha)
  have H2 := Lib.hid (fun W hW => hL W hW b hb)
  have h1 : Op.bytesLess (a).toList (b).toList = cB true a b := rfl
  have h2 : Op.bytesLess (lo a).toList (lo b).toList = cB true (lo a) (lo b) := rfl
  have h3 : ((lo a).toList == (lo b).toList) = eqs (lo a) (lo b) := rfl
  have eS : aS lo a b fold = (fold && eqs (lo a) (lo b)) := rfl
  have eL : aC true lo a b fold = if fold then (eqs (lo a) (lo b) && cB true a b) || cB true (lo a) (lo b) else cB true a b := rfl
  rw [eS, eL]
  clear eS eL hL B0 ha hb
  generalize cB true a b = q1 at *
  generalize cB true (lo a) (lo b) = q2 at *
  generalize eqs (lo a) (lo b) = q3 at *
  cases fold
  · rcases hm with rfl | rfl | rfl
    all_goals
      go_enter Tryz.func12, Tryz.ntmps12
      go_wp2_with fail
      go_ret2
      exact ⟨rfl, HB0.out⟩
  · go_enter Tryz.func12, Tryz.ntmps12
    go_wp2_with (go_at_call 20; refine halt_B ?_)
    refine resume_B ?_
    refine H1.out.mono ?_
    rintro e w1 ⟨rfl, hb1⟩
    have B1 := HB0.out.trans (hb1.mono HB0.out.size)
    have k2 : w1.cell? ⟨w.heap.size, 2, none⟩ = some (.int .i64 (m : Int)) := (hb1.cell (p := ⟨w.heap.size, 2, none⟩) (by simp)).trans (cell_of_row _ _ _ _ _ _ (heap_alloc_new w _))
    have H3 := Lib.hid (H2.out w1 B1)
    have HB1 := Lib.hid B1
    clear B1 H1 H2 HB0
    generalize lo a = la at *
    go_wp2_with (go_at_call 20; refine halt_B ?_)
    refine resume_B ?_
    refine H3.out.mono ?_
    rintro e w2 ⟨rfl, hb2⟩
    have HB2 := Lib.hid (HB1.out.trans (hb2.mono HB1.out.size))
    have k3 : w2.cell? ⟨w.heap.size, 2, none⟩ = some (.int .i64 (m : Int)) := (hb2.cell (p := ⟨w.heap.size, 2, none⟩) (by have := hb1.size; simp at this; show w.heap.size < w1.heap.size; omega)).trans k2
    clear hb1 hb2 H3 HB1 k2
    generalize lo b = lb at *
    rcases hm with rfl | rfl | rfl
    all_goals
      cases q3 <;> cases q1
      all_goals
        go_wp2_with fail
        go_ret2
        exact ⟨rfl, HB2.out⟩
set_option maxHeartbeats 4000000 in
set_option maxRecDepth 100000 in
theorem alpha_false (lo : ByteArray → ByteArray) (a b : ByteArray) (m : Nat) (fold : Bool) (w : World) (ha : a.size ≤ 400) (hb : b.size ≤ 400) (hm : m = 2 ∨ m = 4 ∨ m = 5 ∨ m = 6 ∨ m = 7) (hL : LowOk lo w) :
    Calls Tryz.prog 12 #[.string a, .string b, .agg (sbC m fold)] w (BRet (aS lo a b fold) (aC false lo a b fold) w) := by
  have B0 : Below w.heap.size w (w.alloc (.cells #[.string ⟨#[]⟩, .int .i64 0, .int .i64 (m : Int), .bool fold, .nilFunc] tSB)) := (Below.refl _ _).alloc (Nat.le_refl _) _
  have HB0 := Lib.hid B0
  have H1 := Lib.hid (hL _ B0 a ha)
  have H2 := Lib.hid (fun W hW => hL W hW b hb)
  have h1 : (!Op.bytesLess (a).toList (b).toList && !((a).toList == (b).toList)) = cB false a b := rfl
  have h2 : (!Op.bytesLess (lo a).toList (lo b).toList && !((lo a).toList == (lo b).toList)) = cB false (lo a) (lo b) := rfl
  have h3 : ((lo a).toList == (lo b).toList) = eqs (lo a) (lo b) := rfl
  have eS : aS lo a b fold = (fold && eqs (lo a) (lo b)) := rfl
  have eL : aC false lo a b fold = if fold then (eqs (lo a) (lo b) && cB false a b) || cB false (lo a) (lo b) else cB false a b := rfl
  rw [eS, eL]
  clear eS eL hL B0 ha hb
  generalize cB false a b = q1 at *
  generalize cB false (lo a) (lo b) = q2 at *
  generalize eqs (lo a) (lo b) = q3 at *
  cases fold
  · rcases hm with rfl | rfl | rfl | rfl | rfl
    all_goals
      go_enter Tryz.func12, Tryz.ntmps12
      go_wp2_with fail
      go_ret2
      exact ⟨rfl, HB0.out⟩
  · go_enter Tryz.func12, Tryz.ntmps12
    go_wp2_with (go_at_call 20; refine halt_B ?_)
    refine resume_B ?_
    refine H1.out.mono ?_
    rintro e w1 ⟨rfl, hb1⟩
    have B1 := HB0.out.trans (hb1.mono HB0.out.size)
    have k2 : w1.cell? ⟨w.heap.size, 2, none⟩ = some (.int .i64 (m : Int)) := (hb1.cell (p := ⟨w.heap.size, 2, none⟩) (by simp)).trans (cell_of_row _ _ _ _ _ _ (heap_alloc_new w _))
    have H3 := Lib.hid (H2.out w1 B1)
    have HB1 := Lib.hid B1
    clear B1 H1 H2 HB0
    generalize lo a = la at *
    go_wp2_with (go_at_call 20; refine halt_B ?_)
    refine resume_B ?_
    refine H3.out.mono ?_
    rintro e w2 ⟨rfl, hb2⟩
    have HB2 := Lib.hid (HB1.out.trans (hb2.mono HB1.out.size))
    have k3 : w2.cell? ⟨w.heap.size, 2, none⟩ = some (.int .i64 (m : Int)) := (hb2.cell (p := ⟨w.heap.size, 2, none⟩) (by have := hb1.size; simp at this; show w.heap.size < w1.heap.size; omega)).trans k2
    clear hb1 hb2 H3 HB1 k2
    generalize lo b = lb at *
    cases q3
    · have h2' : (!Op.bytesLess la.toList lb.toList) = q2 := by rw [← h2, h3]; simp
      clear h2
      rcases hm with rfl | rfl | rfl | rfl | rfl
      all_goals
        go_wp2_with fail
        go_ret2
        exact ⟨rfl, HB2.out⟩
    · have hq2 : q2 = false := by rw [← h2, h3]; simp
      subst hq2
      clear h2
      rcases hm with rfl | rfl | rfl | rfl | rfl
      all_goals
        cases q1
        all_goals
          go_wp2_with fail
          go_ret2
          exact ⟨rfl, HB2.out⟩
theorem alpha_any (lo : ByteArray → ByteArray) (a b : ByteArray) (m : Nat) (fold : Bool) (w : World) (ha : a.size ≤ 400) (hb : b.size ≤ 400) (hm : m < 8) (hL : LowOk lo w) :
    Calls Tryz.prog 12 #[.string a, .string b, .agg (sbC m fold)] w (BRet (aS lo a b fold) (aL lo a b m fold) w) := by
  unfold aL
  by_cases h : m = 0 ∨ m = 1 ∨ m = 3
  · have e : ascM m = true := by rcases h with rfl | rfl | rfl <;> rfl
    rw [e]
    exact alpha_true lo a b m fold w ha hb h hL
  · have h2 : m = 2 ∨ m = 4 ∨ m = 5 ∨ m = 6 ∨ m = 7 := by omega
    have e : ascM m = false := by rcases h2 with rfl | rfl | rfl | rfl | rfl <;> rfl
    rw [e]
    exact alpha_false lo a b m fold w ha hb h2 hL
def nS (x y : Nat) : Bool := ord x y == some .eq
def nAsc (m : Nat) : Bool := m == 1 || m == 2 || m == 3
def nL (x y m : Nat) : Bool := if ord x y == some .eq then false else if nAsc m then ord x y == some .lt else ord x y == some .gt
set_option maxHeartbeats 4000000 in
set_option maxRecDepth 100000 in
theorem nval_any (x y m : Nat) (fold : Bool) (w : World) (hm : m < 8) :
    Calls Tryz.prog 22 #[.float .f64 x, .float .f64 y, .agg (sbC m fold)] w (BRet (nS x y) (nL x y m) w) := by
  have HB0 := Lib.hid (show Below w.heap.size w (w.alloc (.cells #[.string ⟨#[]⟩, .int .i64 0, .int .i64 (m : Int), .bool fold, .nilFunc] tSB)) from (Below.refl _ _).alloc (Nat.le_refl _) _)
  have h1 : (FloatKind.f64.format.order x y == some Ordering.eq) = (ord x y == some .eq) := rfl
  have h2 : (FloatKind.f64.format.order x y == some Ordering.lt) = (ord x y == some .lt) := rfl
  have h3 : (FloatKind.f64.format.order x y == some Ordering.gt) = (ord x y == some .gt) := rfl
  have eS : nS x y = (ord x y == some .eq) := rfl
  have eL : nL x y m = if ord x y == some .eq then false else if nAsc m then ord x y == some .lt else ord x y == some .gt := rfl
  rw [eS, eL]
  clear eS eL
  generalize (ord x y == some .eq) = q1 at *
  generalize (ord x y == some .lt) = q2 at *
  generalize (ord x y == some .gt) = q3 at *
  rcases m_cases hm with rfl | rfl | rfl | rfl | rfl | rfl | rfl | rfl
  all_goals
    cases q1
    all_goals
      go_enter Tryz.func22, Tryz.ntmps22
      go_wp2_with fail
      go_ret2
      exact ⟨rfl, HB0.out⟩
def fS (ra rb : Option Nat) : Bool := match ra, rb with | some x, some y => nS x y | _, _ => false
def fL (ra rb : Option Nat) (m : Nat) : Bool := match ra, rb with | some x, some y => nL x y m | _, _ => false
def FnRet (sv lv : Option Nat → Option Nat → Bool) (a b : ByteArray) (w : World) (e : Ending) (w' : World) : Prop := Below w.heap.size w w' ∧ ∃ ra rb, PFv a ra ∧ PFv b rb ∧ e = .returned (.tuple #[.bool (sv ra rb), .bool (lv ra rb)])
set_option maxHeartbeats 4000000 in
set_option maxRecDepth 100000 in
theorem numeric_any (a b : ByteArray) (m : Nat) (fold : Bool) (w : World) (ha : a.size ≤ 400) (hb : b.size ≤ 400) (hm : m < 8) :
    Calls Tryz.prog 13 #[.string a, .string b, .agg (sbC m fold)] w (FnRet fS (fun ra rb => fL ra rb m) a b w) := by
  have HBK := Lib.hid (Blk.new w tSB #[.string ⟨#[]⟩, .int .i64 0, .int .i64 (m : Int), .bool fold, .nilFunc])
  have HB0 := Lib.hid (show Below w.heap.size w (w.alloc (.cells #[.string ⟨#[]⟩, .int .i64 0, .int .i64 (m : Int), .bool fold, .nilFunc] tSB)) from (Below.refl _ _).alloc (Nat.le_refl _) _)
  have hA := fun W => lf_any a W (by omega)
  have hB := fun W => lf_any b W (by omega)
  go_enter Tryz.func13, Tryz.ntmps13
  go_wp2_with (go_at_call 21; refine halt_B ?_)
  refine resume_B ?_
  refine (hA _).mono ?_
  rintro e w1 ⟨hb1, x, er, rfl, h1⟩
  have HB1 := Lib.hid (HB0.out.trans (hb1.mono HB0.out.size))
  have HBK1 := Lib.hid (HBK.out.below hb1 (by simp))
  have hs1 : w.heap.size < w1.heap.size := by have := hb1.size; simp at this; omega
  have H1 := Lib.hid h1
  clear hb1 hA h1
  go_wp2_with (go_at_call 21; refine halt_B ?_)
  refine resume_B ?_
  refine (hB _).mono ?_
  rintro e w2 ⟨hb2, y, er2, rfl, h2⟩
  have HB2 := Lib.hid (HB1.out.trans (hb2.mono HB1.out.size))
  have HBK2 := Lib.hid (HBK1.out.below hb2 hs1)
  have H2 := Lib.hid h2
  clear hb2 hB h2 HB0 HB1 HBK HBK1 hs1
  rcases H1.out with ⟨rfl, p1⟩ | ⟨⟨ty, v, rfl⟩, p1⟩
  · rcases H2.out with ⟨rfl, p2⟩ | ⟨⟨ty2, v2, rfl⟩, p2⟩
    · have HP := Lib.hid (And.intro p1 p2)
      have hN := nval_any x y m fold w2 hm
      have c0 := HBK2.out.cell 0 (v := .string ⟨#[]⟩) rfl
      have c1 := HBK2.out.cell 1 (v := .int .i64 0) rfl
      have c2 := HBK2.out.cell 2 (v := .int .i64 (m : Int)) rfl
      have c3 := HBK2.out.cell 3 (v := .bool fold) rfl
      have c4 := HBK2.out.cell 4 (v := .nilFunc) rfl
      clear p1 p2 H1 H2
      go_wp2_with (go_at_call 22; refine halt_B ?_)
      refine resume_B ?_
      refine hN.mono ?_
      rintro e w3 ⟨rfl, hb3⟩
      have HB3 := Lib.hid (HB2.out.trans (hb3.mono HB2.out.size))
      clear hb3 hN c0 c1 c2 c3 c4
      go_wp2
      go_ret2
      exact ⟨HB3.out, some x, some y, HP.out.1, HP.out.2, rfl⟩
    · have HP := Lib.hid (And.intro p1 p2)
      clear p1 p2 H1 H2
      go_wp2
      go_ret2
      exact ⟨HB2.out, some x, none, HP.out.1, HP.out.2, rfl⟩
  · rcases H2.out with ⟨rfl, p2⟩ | ⟨⟨ty2, v2, rfl⟩, p2⟩
    · have HP := Lib.hid (And.intro p1 p2)
      clear p1 p2 H1 H2
      go_wp2
      go_ret2
      exact ⟨HB2.out, none, some y, HP.out.1, HP.out.2, rfl⟩
    · have HP := Lib.hid (And.intro p1 p2)
      clear p1 p2 H1 H2
      go_wp2
      go_ret2
      exact ⟨HB2.out, none, none, HP.out.1, HP.out.2, rfl⟩
def mLo (m : Nat) : Bool := m == 1 || m == 5
def mS (lo : ByteArray → ByteArray) (a b : ByteArray) (fold : Bool) (ra rb : Option Nat) : Bool := match ra, rb with | none, none => aS lo a b fold | some x, some y => nS x y | _, _ => false
def mL (lo : ByteArray → ByteArray) (a b : ByteArray) (m : Nat) (fold : Bool) (ra rb : Option Nat) : Bool := match ra, rb with | none, none => aL lo a b m fold | none, some _ => mLo m | some _, none => !mLo m | some x, some y => nL x y m
set_option maxHeartbeats 4000000 in
set_option maxRecDepth 100000 in
theorem mixed_any (lo : ByteArray → ByteArray) (a b : ByteArray) (m : Nat) (fold : Bool) (w : World) (ha : a.size ≤ 400) (hb : b.size ≤ 400) (hm : m < 8) (hL : LowOk lo w) :
    Calls Tryz.prog 14 #[.string a, .string b, .agg (sbC m fold)] w (FnRet (mS lo a b fold) (mL lo a b m fold) a b w) := by
  have HBK := Lib.hid (Blk.new w tSB #[.string ⟨#[]⟩, .int .i64 0, .int .i64 (m : Int), .bool fold, .nilFunc])
  have HB0 := Lib.hid (show Below w.heap.size w (w.alloc (.cells #[.string ⟨#[]⟩, .int .i64 0, .int .i64 (m : Int), .bool fold, .nilFunc] tSB)) from (Below.refl _ _).alloc (Nat.le_refl _) _)
  have hA := fun W => lf_any a W (by omega)
  have hB := fun W => lf_any b W (by omega)
  go_enter Tryz.func14, Tryz.ntmps14
  go_wp2_with (go_at_call 21; refine halt_B ?_)
  refine resume_B ?_
  refine (hA _).mono ?_
  rintro e w1 ⟨hb1, x, er, rfl, h1⟩
  have HB1 := Lib.hid (HB0.out.trans (hb1.mono HB0.out.size))
  have HBK1 := Lib.hid (HBK.out.below hb1 (by simp))
  have hs1 : w.heap.size < w1.heap.size := by have := hb1.size; simp at this; omega
  have H1 := Lib.hid h1
  clear hb1 hA h1
  go_wp2_with (go_at_call 21; refine halt_B ?_)
  refine resume_B ?_
  refine (hB _).mono ?_
  rintro e w2 ⟨hb2, y, er2, rfl, h2⟩
  have HB2 := Lib.hid (HB1.out.trans (hb2.mono HB1.out.size))
  have HBK2 := Lib.hid (HBK1.out.below hb2 hs1)
  have H2 := Lib.hid h2
  clear hb2 hB h2 HB0 HB1 HBK HBK1 hs1
  have c0 := HBK2.out.cell 0 (v := .string ⟨#[]⟩) rfl
  have c1 := HBK2.out.cell 1 (v := .int .i64 0) rfl
  have c2 := HBK2.out.cell 2 (v := .int .i64 (m : Int)) rfl
  have c3 := HBK2.out.cell 3 (v := .bool fold) rfl
  have c4 := HBK2.out.cell 4 (v := .nilFunc) rfl
  rcases H1.out with ⟨rfl, p1⟩ | ⟨⟨ty, v, rfl⟩, p1⟩
  · rcases H2.out with ⟨rfl, p2⟩ | ⟨⟨ty2, v2, rfl⟩, p2⟩
    · have HP := Lib.hid (And.intro p1 p2)
      have hN := nval_any x y m fold w2 hm
      clear p1 p2 H1 H2
      go_wp2_with (go_at_call 22; refine halt_B ?_)
      refine resume_B ?_
      refine hN.mono ?_
      rintro e w3 ⟨rfl, hb3⟩
      have HB3 := Lib.hid (HB2.out.trans (hb3.mono HB2.out.size))
      clear hb3 hN c0 c1 c2 c3 c4
      go_wp2
      go_ret2
      exact ⟨HB3.out, some x, some y, HP.out.1, HP.out.2, rfl⟩
    · have HP := Lib.hid (And.intro p1 p2)
      clear p1 p2 H1 H2 HBK2
      rcases m_cases hm with rfl | rfl | rfl | rfl | rfl | rfl | rfl | rfl
      all_goals
        go_wp2_with fail
        go_ret2
        exact ⟨HB2.out, some x, none, HP.out.1, HP.out.2, rfl⟩
  · rcases H2.out with ⟨rfl, p2⟩ | ⟨⟨ty2, v2, rfl⟩, p2⟩
    · have HP := Lib.hid (And.intro p1 p2)
      clear p1 p2 H1 H2 HBK2
      rcases m_cases hm with rfl | rfl | rfl | rfl | rfl | rfl | rfl | rfl
      all_goals
        go_wp2_with fail
        go_ret2
        exact ⟨HB2.out, none, some y, HP.out.1, HP.out.2, rfl⟩
    · have HP := Lib.hid (And.intro p1 p2)
      have hN := alpha_any lo a b m fold w2 ha hb hm (hL.stays HB2.out)
      clear p1 p2 H1 H2
      go_wp2_with (go_at_call 12; refine halt_B ?_)
      refine resume_B ?_
      refine hN.mono ?_
      rintro e w3 ⟨rfl, hb3⟩
      have HB3 := Lib.hid (HB2.out.trans (hb3.mono HB2.out.size))
      clear hb3 hN c0 c1 c2 c3 c4
      go_wp2
      go_ret2
      exact ⟨HB3.out, none, none, HP.out.1, HP.out.2, rfl⟩
end Go.Proofs.YtilkcnoooecngaaGreatDoor
