/- Pieces of text: the sizes' guards, which codes are attributes, whether pieces are good. No conditions. -/
import Derived.Test.YtimdmdjkkgdohaaGreatDoorSjArg
import Derived.Test.YtimdmdjkkgdohaaGreatDoorUniW
import Derived.WalkKit
import Derived.Handy
import Derived.BigQuiet
import Derived.WalkLawsBesides
namespace Go.Proofs.YtimdmdjkkgdohaaGreatDoor
open Go.RowKit
set_option linter.unusedVariables false
theorem halt_S {p : Prop} (h : Hid p) : p := h
theorem resume_S {p : Prop} (h : p) : Hid p := h
def BoolRet (w : World) (p : Prop) (e : Ending) (w' : World) : Prop := ∃ b : Bool, e = .returned (.bool b) ∧ Below w.heap.size w w' ∧ (b = true → p)
def attrB (c : Int) : Bool := (decide (1 ≤ c) && decide (c ≤ 9)) || (decide (30 ≤ c) && decide (c ≤ 37)) || (decide (40 ≤ c) && decide (c ≤ 47)) || (decide (90 ≤ c) && decide (c ≤ 97)) || (decide (100 ≤ c) && decide (c ≤ 107))
set_option maxHeartbeats 2000000 in
theorem attr_any (c : Int) (w : World) : Calls Tryz.prog 13 #[.int .i64 c] w fun e w' => e = .returned (.bool (attrB c)) ∧ w = w' := by
  have h : c < 1 ∨ (1 ≤ c ∧ c ≤ 9) ∨ (9 < c ∧ c < 30) ∨ (30 ≤ c ∧ c ≤ 37) ∨ (37 < c ∧ c < 40) ∨ (40 ≤ c ∧ c ≤ 47) ∨ (47 < c ∧ c < 90) ∨ (90 ≤ c ∧ c ≤ 97) ∨ (97 < c ∧ c < 100) ∨ (100 ≤ c ∧ c ≤ 107) ∨ (107 < c) := by omega
  rcases h with h | ⟨h, h'⟩ | ⟨h, h'⟩ | ⟨h, h'⟩ | ⟨h, h'⟩ | ⟨h, h'⟩ | ⟨h, h'⟩ | ⟨h, h'⟩ | ⟨h, h'⟩ | ⟨h, h'⟩ | h
  all_goals
    go_enter Tryz.func13, Tryz.ntmps13
    go_wp2
    go_ret
    exact ⟨ret_bool (by rw [Bool.eq_iff_iff]; simp [attrB]; omega), rfl⟩
theorem attr_le {c : Int} (h : attrB c = true) : 1 ≤ c ∧ c ≤ 107 := by
  simp [attrB] at h; omega
theorem fits16_any (a : Option Addr) (n cap : Nat) (s : ByteArray) (w : World) : Calls Tryz.prog 10 #[.agg #[.slice a n cap, .string s]] w (BoolRet w True) := by
  by_cases h : (2147483647 : Int) < (n : Int)
  · go_enter Tryz.func10, Tryz.ntmps10
    go_wp2
    go_ret
    exact ⟨false, rfl, (Below.refl _ _).alloc (Nat.le_refl _) _, fun _ => trivial⟩
  · have hd0 : decide ((2147483647 : Int) < (n : Int)) = false := by simpa using h
    by_cases h1 : (2147483647 : Int) < (s.size : Int)
    · go_enter Tryz.func10, Tryz.ntmps10
      go_wp2
      go_ret
      exact ⟨false, rfl, (Below.refl _ _).alloc (Nat.le_refl _) _, fun _ => trivial⟩
    · have hd : decide ((2147483647 : Int) < (s.size : Int)) = false := by simpa using h1
      go_enter Tryz.func10, Tryz.ntmps10
      go_wp2
      go_ret
      exact ⟨true, rfl, (Below.refl _ _).alloc (Nat.le_refl _) _, fun _ => trivial⟩
set_option maxHeartbeats 1000000 in
set_option maxRecDepth 100000 in
theorem fits15_any (A : Option Addr) (n cap : Nat) (l : List Pc) (w : World) (h : PcArg w w.heap.size A n cap l) : Calls Tryz.prog 4 #[.slice A n cap] w (BoolRet w True) := by
  have hn := h.2.2.1
  have hm := h.2.2.2.1
  unfold maxLen at hm
  by_cases h0 : (2147483647 : Int) < (n : Int)
  · go_enter Tryz.func4, Tryz.ntmps4
    go_wp2
    go_ret
    exact ⟨false, rfl, Below.refl _ _, fun _ => trivial⟩
  · have hd : decide ((2147483647 : Int) < (n : Int)) = false := by simpa using h0
    clear h0
    have HA := Lib.hid h
    clear h
    go_enter Tryz.func4, Tryz.ntmps4
    go_wp2_with fail
    clear hd
    go_loopw [10] (fun i wr => ∃ k : Nat, k ≤ n ∧ i = .int .i64 k ∧ Hid (Below w.heap.size w wr)) (fun i _ => n - (intOf i).toNat)
    case atStart => exact ⟨0, Nat.zero_le _, rfl, Lib.hid (Below.refl _ _)⟩
    case round =>
      obtain ⟨k, hk, rfl, HB⟩ := hrel
      by_cases hlt : k < n
      · obtain ⟨b, o, rfl, hb, c1, c2, hok⟩ := HA.out.cell hlt
        have d1 : wr.cell? ⟨b, o + k * 2, none⟩ = _ := (HB.out.cell (p := ⟨b, o + k * 2, none⟩) hb).trans c1
        have d2 : wr.cell? ⟨b, o + k * 2 + 1, none⟩ = _ := (HB.out.cell (p := ⟨b, o + k * 2 + 1, none⟩) hb).trans c2
        clear c1 c2 hok
        generalize pc l k = x at *
        obtain ⟨wo, rfl⟩ : ∃ wo : World, wo = wr := ⟨_, rfl⟩
        go_wp2_with (go_at_call 10; refine (fits16_any x.a x.n x.cap x.s _).mono ?_; rintro e w1 ⟨y, rfl, hB1, -⟩
                     have HB1 := Lib.hid ((HB.out.alloc HB.out.size _).trans (hB1.mono (by simp; exact Nat.le_succ_of_le HB.out.size))); clear hB1; cases y)
        · go_wp2
          go_ret
          exact ⟨false, rfl, HB1.out, fun _ => trivial⟩
        · go_wp2
          go_roundw
          case rel => exact ⟨k + 1, by omega, by go_num, HB1⟩
          case measure => simp [intOf]; omega
      · have hd : decide ((k : Int) < (n : Int)) = false := by simp; omega
        go_wp2
        go_ret
        exact ⟨true, rfl, HB.out, fun _ => trivial⟩
def Att (x : Pc) : Prop := ∀ i, i < x.n → attrB (x.zs.getD i 0) = true ∨ x.zs.getD i 0 = 0 ∧ x.n ≤ 1
def GoodP (x : Pc) : Prop := x.s.size ≤ 500 ∧ simp true x.s = true ∧ (x.n ≤ 4 ∧ Att x) ∧ ∀ i, i < x.n → 0 ≤ x.zs.getD i 0 ∧ x.zs.getD i 0 ≤ 107
def GoodTo (l : List Pc) (k : Nat) : Prop := ∀ j, j < k → GoodP (pc l j)
def GoodL (l : List Pc) : Prop := GoodTo l l.length ∧ l.length ≤ 40
theorem GoodTo.succ {l : List Pc} {k : Nat} (h : GoodTo l k) (hk : GoodP (pc l k)) : GoodTo l (k + 1) := fun j hj => by
  by_cases e : j = k
  · subst e; exact hk
  · exact h j (by omega)
set_option maxHeartbeats 1000000 in
set_option maxRecDepth 100000 in
theorem good_any (A : Option Addr) (n cap : Nat) (l : List Pc) (w : World) (h : PcArg w w.heap.size A n cap l) : Calls Tryz.prog 6 #[.slice A n cap, .bool true] w (BoolRet w (GoodL l)) := by
  have hn := h.2.2.1
  have hm := h.2.2.2.1
  have hl := Lib.hid h.2.1
  unfold maxLen at hm
  have HA := Lib.hid h
  clear h
  go_enter Tryz.func6, Tryz.ntmps6
  go_wp2_with fail
  go_loopw [11] (fun i wr => ∃ k : Nat, k ≤ n ∧ i = .int .i64 k ∧ Hid (Below w.heap.size w wr) ∧ Hid (GoodTo l k)) (fun i _ => n - (intOf i).toNat)
  case atStart => exact ⟨0, Nat.zero_le _, rfl, Lib.hid (Below.refl _ _), Lib.hid (fun j hj => absurd hj (by omega))⟩
  case round =>
    obtain ⟨k, hk, rfl, HB, HR⟩ := hrel
    by_cases hlt : k < n
    · obtain ⟨b, o, rfl, hb, c1, c2, hok⟩ := HA.out.cell hlt
      have d1 : wr.cell? ⟨b, o + k * 2, none⟩ = _ := (HB.out.cell (p := ⟨b, o + k * 2, none⟩) hb).trans c1
      have d2 : wr.cell? ⟨b, o + k * 2 + 1, none⟩ = _ := (HB.out.cell (p := ⟨b, o + k * 2 + 1, none⟩) hb).trans c2
      have hcl := hok.2.1
      have hcm := hok.2.2.1
      unfold maxLen at hcm
      have HOK := Lib.hid hok
      have HG := Lib.hid (fun hg => HR.out.succ (k := k) hg)
      clear c1 c2 hok HR
      generalize pc l k = x at *
      obtain ⟨wo, rfl⟩ : ∃ wo : World, wo = wr := ⟨_, rfl⟩
      have HS := Lib.hid (fun W => simple_any x.s true W)
      go_wp2_with (go_at_call 12; refine halt_S ?_)
      refine resume_S ?_
      refine (HS.out _).mono ?_
      rintro e w1 ⟨rfl, hB1⟩
      have q0 : w1.cell? ⟨wo.heap.size, 0, none⟩ = some (.slice x.a x.n x.cap) := (hB1.cell (p := ⟨wo.heap.size, 0, none⟩) (by simp)).trans (cell_of_row _ _ _ _ _ _ (heap_alloc_new wo _))
      have q1 : w1.cell? ⟨wo.heap.size, 1, none⟩ = some (.string x.s) := (hB1.cell (p := ⟨wo.heap.size, 1, none⟩) (by simp)).trans (cell_of_row _ _ _ _ _ _ (heap_alloc_new wo _))
      have HB1 := Lib.hid ((HB.out.alloc HB.out.size _).trans (hB1.mono (by simp; exact Nat.le_succ_of_le HB.out.size)))
      clear hB1 HS
      cases hs : simp true x.s with
      | false =>
        go_wp2_with fail
        go_ret
        exact ⟨false, rfl, HB1.out, fun h => by cases h⟩
      | true =>
        by_cases g1 : (500 : Int) < (x.s.size : Int)
        · have e1 : decide ((500 : Int) < (x.s.size : Int)) = true := decide_eq_true g1
          go_wp2_with fail
          go_ret
          exact ⟨false, rfl, HB1.out, fun h => by cases h⟩
        · have e1 : decide ((500 : Int) < (x.s.size : Int)) = false := decide_eq_false g1
          by_cases g2 : (4 : Int) < (x.n : Int)
          · have e2 : decide ((4 : Int) < (x.n : Int)) = true := decide_eq_true g2
            go_wp2_with fail
            go_ret
            exact ⟨false, rfl, HB1.out, fun h => by cases h⟩
          · have e2 : decide ((4 : Int) < (x.n : Int)) = false := decide_eq_false g2
            go_wp2_with fail
            go_loop [8, 35] (fun cv jv => ∃ j : Nat, j ≤ x.n ∧ jv = .int .i64 (j : Int) ∧ Hid (∀ i, i < j → attrB (x.zs.getD i 0) = true ∨ x.zs.getD i 0 = 0 ∧ x.n ≤ 1)) (fun _ jv => x.n - (intOf jv).toNat)
            case atStart => exact ⟨0, Nat.zero_le _, rfl, Lib.hid (fun i hi => absurd hi (by omega))⟩
            case round =>
              obtain ⟨j, hj, rfl, hz⟩ := hrel
              by_cases hjl : j < x.n
              · obtain ⟨b2, o2, ha2, hb2, hc2, hwf⟩ := HOK.out.code hjl
                have hcz : w1.cell? ⟨b2, o2 + j, none⟩ = _ := (HB1.out.cell hb2).trans hc2
                have hwz := wf_i64 hwf
                have HK := Lib.hid (attr_any (x.zs.getD j 0) w1)
                have HZ := Lib.hid (show (attrB (x.zs.getD j 0) = true ∨ x.zs.getD j 0 = 0 ∧ x.n ≤ 1) → ∀ i, i < j + 1 → attrB (x.zs.getD i 0) = true ∨ x.zs.getD i 0 = 0 ∧ x.n ≤ 1 from fun hg i hi => by
                  by_cases e : i = j
                  · subst e; exact hg
                  · exact hz.out i (by omega))
                have HA1 := Lib.hid (fun h => attr_le (c := x.zs.getD j 0) h)
                clear hz hc2 hwf
                rw [ha2] at q0 ⊢
                generalize x.zs.getD j 0 = c at *
                cases hat : attrB c with
                | true =>
                  have HZ2 := Lib.hid (HZ.out (.inl hat))
                  rw [hat] at HK
                  clear HZ HA1 hat
                  go_wp2_with (go_at_call 13; refine HK.out.mono ?_; rintro e w2 ⟨rfl, rfl⟩)
                  go_round
                  case rel => exact ⟨j + 1, by omega, by go_num, HZ2⟩
                  case measure => simp [intOf]; omega
                | false =>
                  rw [hat] at HK
                  clear HA1 hat
                  by_cases hc0 : c = 0
                  · subst hc0
                    by_cases hc1 : (1 : Int) < (x.n : Int)
                    · have e3 : decide ((1 : Int) < (x.n : Int)) = true := decide_eq_true hc1
                      clear HZ
                      go_wp2_with (go_at_call 13; refine HK.out.mono ?_; rintro e w2 ⟨rfl, rfl⟩)
                      go_ret
                      exact ⟨false, rfl, HB1.out, fun h => by cases h⟩
                    · have HZ2 := Lib.hid (HZ.out (.inr ⟨rfl, by omega⟩))
                      clear HZ
                      have e3 : decide ((1 : Int) < (x.n : Int)) = false := decide_eq_false hc1
                      go_wp2_with (go_at_call 13; refine HK.out.mono ?_; rintro e w2 ⟨rfl, rfl⟩)
                      go_round
                      case rel => exact ⟨j + 1, by omega, by go_num, HZ2⟩
                      case measure => simp [intOf]; omega
                  · have e4 : (c != 0) = true := by rw [bne_iff_ne]; exact hc0
                    clear HZ
                    go_wp2_with (go_at_call 13; refine HK.out.mono ?_; rintro e w2 ⟨rfl, rfl⟩)
                    go_ret
                    exact ⟨false, rfl, HB1.out, fun h => by cases h⟩
              · have HZ2 := Lib.hid (show GoodP x from ⟨by omega, hs, ⟨by omega, fun i hi => hz.out i (by omega)⟩, fun i hi => by
                  rcases hz.out i (by omega) with h | h
                  · have := attr_le h; omega
                  · omega⟩)
                have HG2 := Lib.hid (HG.out HZ2.out)
                clear hz
                go_wp2_with fail
                go_roundw
                case rel => exact ⟨k + 1, by omega, by go_num, HB1, HG2⟩
                case measure => simp [intOf]; omega
    · have e : k = n := by omega
      subst e
      by_cases h40 : (k : Int) ≤ 40
      · go_wp2_with fail
        go_ret
        exact ⟨true, by simp, HB.out, fun _ => ⟨by rw [hl.out]; exact HR.out, by have := hl.out; omega⟩⟩
      · have e6 : decide ((k : Int) ≤ 40) = false := by simpa using h40
        go_wp2_with fail
        go_ret
        exact ⟨false, rfl, HB.out, fun h => by cases h⟩
end Go.Proofs.YtimdmdjkkgdohaaGreatDoor
