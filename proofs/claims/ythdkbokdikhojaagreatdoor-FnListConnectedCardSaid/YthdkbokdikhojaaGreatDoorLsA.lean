/- The items of a list that came in; whether they are a list (LsRight); the sizes' guards. No conditions. -/
import Derived.Test.YthdkbokdikhojaaGreatDoorProg
import Derived.Test.YthdkbokdikhojaaGreatDoorBase
import Derived.Test.YthdkbokdikhojaaGreatDoorRecs
import Derived.Test.YthdkbokdikhojaaGreatDoorUniW
import Derived.WalkKit
import Derived.Handy
import Derived.BigQuiet
import Derived.WalkLawsBesides
namespace Go.Proofs.YthdkbokdikhojaaGreatDoor
open Go.RowKit
set_option linter.unusedVariables false
def tx (l : List (ByteArray × Int)) (k : Nat) : ByteArray := (l.getD k (⟨#[]⟩, 0)).1
def lv (l : List (ByteArray × Int)) (k : Nat) : Int := (l.getD k (⟨#[]⟩, 0)).2
def lsRow (x : ByteArray × Int) : List Value := [.string x.1, .int .i64 x.2]
def LsArg (w : World) (B : Nat) (A : Option Addr) (n cap : Nat) (l : List (ByteArray × Int)) : Prop := Recs w B 2 A n (l.map lsRow) ∧ l.length = n ∧ n ≤ cap ∧ cap ≤ maxLen
theorem LsArg.below {w w' : World} {B : Nat} {A : Option Addr} {n cap : Nat} {l : List (ByteArray × Int)} (h : LsArg w B A n cap l) (hb : Below B w w') : LsArg w' B A n cap l := ⟨h.1.below hb, h.2⟩
theorem LsArg.more {w : World} {B B' : Nat} {A : Option Addr} {n cap : Nat} {l : List (ByteArray × Int)} (h : LsArg w B A n cap l) (hB : B ≤ B') : LsArg w B' A n cap l := ⟨h.1.more hB, h.2⟩
theorem LsArg.cell {w : World} {B : Nat} {A : Option Addr} {n cap : Nat} {l : List (ByteArray × Int)} (h : LsArg w B A n cap l) {k : Nat} (hk : k < n) :
    ∃ b o, A = some ⟨b, o, none⟩ ∧ b < B ∧ ∀ j, j < n → w.cell? ⟨b, o + j * 2, none⟩ = some (.string (tx l j)) ∧ w.cell? ⟨b, o + j * 2 + 1, none⟩ = some (.int .i64 (lv l j)) := by
  obtain ⟨⟨h1, h2, h3⟩, hl, _⟩ := h
  obtain ⟨b, o, e, hb, hc⟩ := h3 (by omega)
  refine ⟨b, o, e, hb, fun j hj => ?_⟩
  have hr : (l.map lsRow)[j]? = some (lsRow (l[j]'(by omega))) := by rw [List.getElem?_map, List.getElem?_eq_getElem (by omega)]; rfl
  have hd : l.getD j (⟨#[]⟩, 0) = l[j]'(by omega) := by rw [List.getD_eq_getElem?_getD, List.getElem?_eq_getElem (by omega)]; rfl
  have a := hc j _ hr 0 _ rfl
  have b := hc j _ hr 1 _ rfl
  exact ⟨by rw [tx, hd]; exact a, by rw [lv, hd]; exact b⟩
/-- What LsRight asks of the items below k. -/
def RightTo (l : List (ByteArray × Int)) (k : Nat) : Prop := ∀ j, j < k → 0 ≤ lv l j ∧ lv l j ≤ j ∧ lv l j ≤ (if j = 0 then 0 else lv l (j - 1) + 1) ∧ (tx l j).size ≤ 200 ∧ simp false (tx l j) = true
theorem RightTo.succ {l : List (ByteArray × Int)} {k : Nat} (h : RightTo l k) (hk : 0 ≤ lv l k ∧ lv l k ≤ k ∧ lv l k ≤ (if k = 0 then 0 else lv l (k - 1) + 1) ∧ (tx l k).size ≤ 200 ∧ simp false (tx l k) = true) : RightTo l (k + 1) := by
  intro j hj
  by_cases e : j = k
  · subst e; exact hk
  · exact h j (by omega)
def BoolRet (w : World) (p : Prop) (e : Ending) (w' : World) : Prop := ∃ b : Bool, e = .returned (.bool b) ∧ Below w.heap.size w w' ∧ (b = true → p)
theorem fits2_any (t : ByteArray) (v : Int) (w : World) : Calls Tryz.prog 12 #[.agg #[.string t, .int .i64 v]] w (BoolRet w True) := by
  by_cases h : (2147483647 : Int) < (t.size : Int)
  · go_enter Tryz.func12, Tryz.ntmps12
    go_wp2
    go_ret
    exact ⟨false, rfl, (Below.refl _ _).alloc (Nat.le_refl _) _, fun _ => trivial⟩
  · have hd : decide ((2147483647 : Int) < (t.size : Int)) = false := by simpa using h
    go_enter Tryz.func12, Tryz.ntmps12
    go_wp2
    go_ret
    exact ⟨true, rfl, (Below.refl _ _).alloc (Nat.le_refl _) _, fun _ => trivial⟩
set_option maxHeartbeats 4000000 in
set_option maxRecDepth 100000 in
theorem fits1_any (A : Option Addr) (n cap : Nat) (l : List (ByteArray × Int)) (w : World) (h : LsArg w w.heap.size A n cap l) : Calls Tryz.prog 4 #[.slice A n cap] w (BoolRet w True) := by
  have hn := h.2.2.1
  have hm := h.2.2.2
  unfold maxLen at hm
  by_cases h0 : (2147483647 : Int) < (n : Int)
  · go_enter Tryz.func4, Tryz.ntmps4
    go_wp2
    go_ret
    exact ⟨false, rfl, Below.refl _ _, fun _ => trivial⟩
  · have hd : decide ((2147483647 : Int) < (n : Int)) = false := by simpa using h0
    clear h0
    go_enter Tryz.func4, Tryz.ntmps4
    go_wp2_with fail
    clear hd
    go_loopw [10] (fun i wr => ∃ k : Nat, k ≤ n ∧ i = .int .i64 k ∧ Hid (Below w.heap.size w wr)) (fun i _ => n - (intOf i).toNat)
    case atStart => exact ⟨0, Nat.zero_le _, rfl, Lib.hid (Below.refl _ _)⟩
    case round =>
      obtain ⟨k, hk, rfl, HB⟩ := hrel
      by_cases hlt : k < n
      · obtain ⟨b, o, rfl, hb, hc⟩ := h.cell hlt
        obtain ⟨c1, c2⟩ := hc k hlt
        have d1 : wr.cell? ⟨b, o + k * 2, none⟩ = some (.string (tx l k)) := (HB.out.cell (p := ⟨b, o + k * 2, none⟩) hb).trans c1
        have d2 : wr.cell? ⟨b, o + k * 2 + 1, none⟩ = some (.int .i64 (lv l k)) := (HB.out.cell (p := ⟨b, o + k * 2 + 1, none⟩) hb).trans c2
        clear hc c1 c2
        obtain ⟨wo, rfl⟩ : ∃ wo : World, wo = wr := ⟨_, rfl⟩
        go_wp2_with (go_at_call 12; refine (fits2_any (tx l k) (lv l k) _).mono ?_; rintro e w1 ⟨x, rfl, hB1, -⟩
                     have HB1 := Lib.hid ((HB.out.alloc HB.out.size _).trans (hB1.mono (by simp; exact Nat.le_succ_of_le HB.out.size))); clear hB1; cases x)
        · go_wp2
          go_ret
          exact ⟨false, rfl, HB1.out, fun _ => trivial⟩
        · go_wp2
          go_roundw
          case rel => exact ⟨k + 1, by omega, by go_num, HB1⟩
          case measure => simp [intOf]; omega
      · have hd : decide ((k : Int) < (n : Int)) = false := by simp; omega
        go_wp2
        go_ret
        exact ⟨true, rfl, HB.out, fun _ => trivial⟩
def RightL (l : List (ByteArray × Int)) : Prop := RightTo l l.length ∧ l.length ≤ 60
set_option maxHeartbeats 4000000 in
set_option maxRecDepth 100000 in
theorem right_any (A : Option Addr) (n cap : Nat) (l : List (ByteArray × Int)) (w : World) (h : LsArg w w.heap.size A n cap l) : Calls Tryz.prog 5 #[.slice A n cap] w (BoolRet w (RightL l)) := by
  have hn := h.2.2.1
  have hm := h.2.2.2
  have hl := Lib.hid h.2.1
  unfold maxLen at hm
  go_enter Tryz.func5, Tryz.ntmps5
  go_wp2_with fail
  go_loopw [8] (fun i wr => ∃ k : Nat, k ≤ n ∧ i = .int .i64 k ∧ Hid (Below w.heap.size w wr) ∧ Hid (RightTo l k)) (fun i _ => n - (intOf i).toNat)
  case atStart => exact ⟨0, Nat.zero_le _, rfl, Lib.hid (Below.refl _ _), Lib.hid (fun j hj => absurd hj (by omega))⟩
  case round =>
    obtain ⟨k, hk, rfl, HB, HR⟩ := hrel
    by_cases hlt : k < n
    · obtain ⟨b, o, rfl, hb, hc⟩ := h.cell hlt
      obtain ⟨c1, c2⟩ := hc k hlt
      have d1 : wr.cell? ⟨b, o + k * 2, none⟩ = some (.string (tx l k)) := (HB.out.cell (p := ⟨b, o + k * 2, none⟩) hb).trans c1
      have d2 : wr.cell? ⟨b, o + k * 2 + 1, none⟩ = some (.int .i64 (lv l k)) := (HB.out.cell (p := ⟨b, o + k * 2 + 1, none⟩) hb).trans c2
      have hbw : b < wr.heap.size := by have := HB.out.size; omega
      obtain ⟨wo, rfl⟩ : ∃ wo : World, wo = wr := ⟨_, rfl⟩
      have HS := fun W => Lib.hid (simple_any (tx l k) false W)
      have main : ∀ m : Int, m = (if k = 0 then 0 else lv l (k - 1) + 1) → m ≤ k → RightTo l k → 0 ≤ lv l k → lv l k ≤ m → (tx l k).size ≤ 200 → simp false (tx l k) = true → RightTo l (k + 1) :=
        fun m hm h1 h2 h3 h4 h5 h6 => h2.succ ⟨h3, by omega, by rw [← hm]; exact h4, h5, h6⟩
      have Main := Lib.hid main
      clear main
      have tail : ∀ {P : Prop}, P → P := fun h => h
      cases k with
      | zero =>
        clear hc c1 c2
        simp only [Nat.zero_mul, Nat.add_zero] at d1 d2
        by_cases g1 : lv l 0 < 0
        · go_wp2_with fail
          go_ret
          exact ⟨false, rfl, HB.out.alloc HB.out.size _, fun h => by cases h⟩
        · by_cases g2 : 0 < lv l 0
          · go_wp2_with fail
            go_ret
            exact ⟨false, rfl, HB.out.alloc HB.out.size _, fun h => by cases h⟩
          · have e2 : decide (0 < lv l 0) = false := by simpa using g2
            by_cases g3 : (200 : Int) < ((tx l 0).size : Int)
            · go_wp2_with fail
              go_ret
              exact ⟨false, rfl, HB.out.alloc HB.out.size _, fun h => by cases h⟩
            · have e3 : decide ((200 : Int) < ((tx l 0).size : Int)) = false := by simpa using g3
              cases hs : simp false (tx l 0) with
              | false =>
                rw [hs] at HS
                go_wp2_with (go_at_call 13; refine (HS _).out.mono ?_; rintro e w1 ⟨rfl, hB1⟩
                             have HB1 := Lib.hid ((HB.out.alloc HB.out.size _).trans (hB1.mono (by simp; exact Nat.le_succ_of_le HB.out.size))); clear hB1)
                go_ret
                exact ⟨false, rfl, HB1.out, fun h => by cases h⟩
              | true =>
                rw [hs] at HS
                go_wp2_with (go_at_call 13; refine (HS _).out.mono ?_; rintro e w1 ⟨rfl, hB1⟩
                             have HB1 := Lib.hid ((HB.out.alloc HB.out.size _).trans (hB1.mono (by simp; exact Nat.le_succ_of_le HB.out.size))); clear hB1)
                go_roundw
                case rel => exact ⟨0 + 1, by omega, by go_num, HB1, Lib.hid (Main.out 0 (by simp) (by omega) HR.out (by omega) (by omega) (by omega) hs)⟩
                case measure => simp [intOf]; omega
      | succ m =>
        obtain ⟨c3, c4⟩ := hc m (by omega)
        have d4 : wo.cell? ⟨b, o + m * 2 + 1, none⟩ = some (.int .i64 (lv l m)) := (HB.out.cell (p := ⟨b, o + m * 2 + 1, none⟩) hb).trans c4
        have hlm : 0 ≤ lv l m ∧ lv l m ≤ m := ⟨(HR.out m (by omega)).1, (HR.out m (by omega)).2.1⟩
        obtain ⟨q1, q2⟩ := hlm
        have g0 : decide ((0 : Int) < (m : Int) + 1) = true := decide_eq_true (by omega)
        have i1 : ((m : Int) + 1 - 1) = m := by omega
        clear hc c1 c2 c3 c4
        by_cases g1 : lv l (m + 1) < 0
        · go_wp2_with fail
          go_ret
          exact ⟨false, rfl, HB.out.alloc HB.out.size _, fun h => by cases h⟩
        · by_cases g2 : lv l m + 1 < lv l (m + 1)
          · go_wp2_with fail
            go_ret
            exact ⟨false, rfl, HB.out.alloc HB.out.size _, fun h => by cases h⟩
          · have e2 : decide (lv l m + 1 < lv l (m + 1)) = false := by simpa using g2
            by_cases g3 : (200 : Int) < ((tx l (m + 1)).size : Int)
            · go_wp2_with fail
              go_ret
              exact ⟨false, rfl, HB.out.alloc HB.out.size _, fun h => by cases h⟩
            · have e3 : decide ((200 : Int) < ((tx l (m + 1)).size : Int)) = false := by simpa using g3
              cases hs : simp false (tx l (m + 1)) with
              | false =>
                rw [hs] at HS
                go_wp2_with (go_at_call 13; refine (HS _).out.mono ?_; rintro e w1 ⟨rfl, hB1⟩
                             have HB1 := Lib.hid ((HB.out.alloc HB.out.size _).trans (hB1.mono (by simp; exact Nat.le_succ_of_le HB.out.size))); clear hB1)
                go_ret
                exact ⟨false, rfl, HB1.out, fun h => by cases h⟩
              | true =>
                rw [hs] at HS
                go_wp2_with (go_at_call 13; refine (HS _).out.mono ?_; rintro e w1 ⟨rfl, hB1⟩
                             have HB1 := Lib.hid ((HB.out.alloc HB.out.size _).trans (hB1.mono (by simp; exact Nat.le_succ_of_le HB.out.size))); clear hB1)
                go_roundw
                case rel => exact ⟨m + 1 + 1, by omega, by go_num, HB1, Lib.hid (Main.out (lv l m + 1) (by simp) (by omega) HR.out (by omega) (by omega) (by omega) hs)⟩
                case measure => simp [intOf]; omega
    · have e : k = n := by omega
      subst e
      by_cases h60 : (k : Int) ≤ 60
      · go_wp2_with fail
        go_ret
        exact ⟨true, by simp, HB.out, fun _ => ⟨by rw [hl.out]; exact HR.out, by have := hl.out; omega⟩⟩
      · have e6 : decide ((k : Int) ≤ 60) = false := by simpa using h60
        go_wp2_with fail
        go_ret
        exact ⟨false, rfl, HB.out, fun h => by cases h⟩
end Go.Proofs.YthdkbokdikhojaaGreatDoor
