/- Rendering a list: one item. -/
import Derived.Test.YthdkbokdikhojaaGreatDoorLdB
import Derived.Test.YthdkbokdikhojaaGreatDoorTxtLICR
import Derived.Test.YthdkbokdikhojaaGreatDoorTxtLS
namespace Go.Proofs.YthdkbokdikhojaaGreatDoor
open Go.RowKit
set_option linter.unusedVariables false
theorem apply_any (s : ByteArray) (w : World) : Calls Tryz.prog 57 #[.int .i64 0, .string s] w fun e w' => e = .returned (.string s) ∧ w' = w := by
  go_enter Tryz.func57, Tryz.ntmps57
  go_wp2
  go_ret
  exact ⟨rfl, rfl⟩
/-- An item's text, as it is drawn. -/
def fin (D : LD) (t : ByteArray) : ByteArray := if (10 : UInt8) ∈ t.data.toList ∧ D.s7.data.toList ≠ [10] then ⟨(rep [10] D.s7.data.toList t.data.toList).toArray⟩ else t
def lineL (D : LD) (idx n : Nat) (top first only last bottom : Bool) (t : ByteArray) : List UInt8 :=
  (if idx = 0 then [] else [10]) ++ (pfxS D idx n ++ ((bulS D top first only last bottom).data.toList ++ ([32] ++ t.data.toList)))
theorem sp_one (l : List UInt8) (h : (10 : UInt8) ∉ l) : sp [10] l = [l] := spF_none _ _ _ (idx_one_none 10 l h [])
theorem idx_isSome (l : List UInt8) : (idx [10] l).isSome = decide ((10 : UInt8) ∈ l) := by
  induction l with
  | nil => simp [idx]
  | cons c l ih =>
    by_cases hc : c = 10
    · subst hc; simp [idx, List.isPrefixOf]
    · rw [idx, if_neg (by simp [List.isPrefixOf]; exact fun e => hc e.symm)]
      rw [Option.isSome_map, ih]
      have : (10 : UInt8) ≠ c := fun e => hc e.symm
      simp [this]
set_option maxHeartbeats 8000000 in
set_option maxRecDepth 100000 in
theorem item_any (b gl gs : Nat) (A : Option Addr) (cap : Nat) (D : LD) (l : List UInt8) (idx p n : Nat) (t : ByteArray) (top first only last bottom : Bool) (w : World) (h : Sc b gl gs A cap D w) (hD : D.ok) (hB : Bld b b l w) (hl : l.length ≤ 700000000) (hi : idx < D.its.length)
    (hp : p < b) (ho : w.heap[p]? = some (.cells #[.int .i64 (n : Int), .string t] 72 (0, 0))) (hn : n ≤ 1000) (ht : t.size ≤ 1000) (hf : (fin D t).size ≤ 1000000) (h10 : (10 : UInt8) ∉ (fin D t).data.toList) :
    Calls Tryz.prog 46 #[.pointer (some ⟨gl, 0, none⟩), .pointer (some ⟨b, 0, none⟩), .int .i64 idx, .pointer (some ⟨p, 0, none⟩), hintV top first only last bottom] w fun e w' => e = .returned (.tuple #[]) ∧ Bld b b (l ++ lineL D idx n top first only last bottom (fin D t)) w' ∧ Below b w w' := by
  have hb := hB.lt'
  have hi2 : idx ≤ 1000 := by have := hD.hn; omega
  have hBa := (Below.refl w.heap.size w).alloc (Nat.le_refl _) (.cells #[.bool top, .bool first, .bool only, .bool last, .bool bottom] 75)
  have H := Lib.hid h
  have HD := Lib.hid hD
  have HI := Lib.hid hi
  have HO := Lib.hid ho
  have HF := Lib.hid hf
  have H10 := Lib.hid h10
  have hnew := heap_alloc_new w (.cells #[.bool top, .bool first, .bool only, .bool last, .bool bottom] 75)
  have HN := Lib.hid hnew
  have HBa := Lib.hid (hB.keep hBa)
  have HWa := Lib.hid (hBa.mono (Nat.le_of_lt hb) : Below b w _)
  clear h hD hi ho hB hBa hf h10 hnew
  unfold hintV
  go_enter Tryz.func46, Tryz.ntmps46
  go_upto_if 14 with fail
  generalize hwa : w.alloc (.cells #[.bool top, .bool first, .bool only, .bool last, .bool bottom] 75) = wa at *
  go_cut [] from 14 to 16 (fun wx => Hid (Bld b b (l ++ (if idx = 0 then [] else [10])) wx) ∧ Hid (Below b w wx) ∧ Hid (wx.heap[w.heap.size]? = some (.cells #[.bool top, .bool first, .bool only, .bool last, .bool bottom] 75 (0, 0))))
  case first =>
    by_cases hz : idx = 0
    · subst hz
      go_wp2_with fail
      go_meet
      exact ⟨Lib.hid (by simpa using HBa.out), HWa, HN⟩
    · have hz2 : decide ((0 : Int) < (idx : Int)) = true := by simp; omega
      have hz3 : decide ((idx : Int) > 0) = true := by simp; omega
      go_wp2_with (go_at_call 56; refine (put_r HBa.out _ (Below.refl _ _) 10 (by decide) (by omega)).mono ?_; rintro e w1 ⟨rfl, k1, k2, k3⟩; have K1 := Lib.hid k1; have K2 := Lib.hid k2; have K3 := Lib.hid k3; clear k1 k2 k3)
      go_meet
      exact ⟨Lib.hid (by rw [if_neg hz]; exact K1.out), Lib.hid (HWa.out.trans K2.out), Lib.hid (K3.out _ _ (by omega) HN.out)⟩
  case rest =>
    obtain ⟨HB1, HW1, HN1⟩ := hcut
    obtain ⟨wq, rfl⟩ : ∃ wq : World, wq = wc := ⟨_, rfl⟩
    clear HBa HWa HN hwa
    have hS := H.out.below HW1.out
    obtain ⟨-, -, c5, c0, -, -, -, -, -, -, c7, -⟩ := hS.cells
    have ho1 := (HW1.out.block p hp).trans HO.out
    have p0 : wq.cell? ⟨p, 0, none⟩ = some (.int .i64 (n : Int)) := cell_of_row wq p 0 _ 72 (0, 0) ho1
    have p1 : wq.cell? ⟨p, 1, none⟩ = some (.string t) := cell_of_row wq p 1 _ 72 (0, 0) ho1
    clear hS ho1
    go_wp2_with fail
    go_quiet ((go_at_call 57; exact Calls.quiet_of_same (apply_any _ _)))
    generalize hwd : wq.drewN nq = wd
    have HDr := Lib.hid (show Below wq.heap.size wq wd from hwd ▸ ⟨rfl, rfl, rfl, Nat.le_refl _, fun _ _ => rfl⟩)
    have hS := H.out.below (HW1.out.trans (HDr.out.mono (Nat.le_trans (Nat.le_of_lt hb) HW1.out.size)))
    clear c5 c0 c7 p0 p1
    obtain ⟨-, -, c5, -, -, -, -, -, -, -, c7, -⟩ := hS.cells
    clear hS hwd
    go_upto_region 4 with fail
    go_cut [40] from 29 to 40 (fun v wx => v = .bool (decide ((10 : UInt8) ∈ t.data.toList ∧ D.s7.data.toList ≠ [10])) ∧ wx = wd)
    case first =>
      have HC := Lib.hid (contains_L t ⟨#[10]⟩ wd (by omega) (by decide))
      have e10 : (⟨#[10]⟩ : ByteArray).data.toList = [10] := rfl
      rw [e10, idx_isSome] at HC
      have HQ := Lib.hid (show (!(D.s7.toList == [10])) = decide (D.s7.data.toList ≠ [10]) by
        rw [Lib.toList_data, Bool.eq_iff_iff]; simp)
      by_cases hm : (10 : UInt8) ∈ t.data.toList
      · rw [decide_eq_true hm] at HC
        have E := Lib.hid (show decide (D.s7.data.toList ≠ [10]) = decide ((10 : UInt8) ∈ t.data.toList ∧ D.s7.data.toList ≠ [10]) by simp [hm])
        clear hm
        go_wp2_with (go_at_call 58; refine HC.out.mono ?_; rintro e w1 ⟨rfl, rfl⟩)
        go_meet
        exact ⟨by rw [← E.out, ← HQ.out], rfl⟩
      · rw [decide_eq_false hm] at HC
        have E := Lib.hid (show false = decide ((10 : UInt8) ∈ t.data.toList ∧ D.s7.data.toList ≠ [10]) by simp [hm])
        clear hm
        go_wp2_with (go_at_call 58; refine HC.out.mono ?_; rintro e w1 ⟨rfl, rfl⟩)
        go_meet
        exact ⟨by rw [← E.out], rfl⟩
    case rest =>
      obtain ⟨rfl, hwx⟩ := hcut
      cases hwx
      go_upto_if 40 with fail
      go_cut [10] from 40 to 49 (fun v wx => v = .string (fin D t) ∧ Hid (Below wq.heap.size wq wx))
      case first =>
        by_cases hm : (10 : UInt8) ∈ t.data.toList ∧ D.s7.data.toList ≠ [10]
        · have E := Lib.hid (show fin D t = ⟨(rep [10] D.s7.data.toList t.data.toList).toArray⟩ by unfold fin; rw [if_pos hm])
          have HR := Lib.hid (replace_L t ⟨#[10]⟩ D.s7 wd (by decide) (by decide) (by have := HD.out.h7; have : t.size * (D.s7.size + 1) ≤ 1000 * 1001 := Nat.mul_le_mul ht (by omega); omega))
          simp only [decide_eq_true hm]
          clear hm
          go_wp2_with (go_at_call 59; refine HR.out.mono ?_; rintro e w1 ⟨rfl, k1⟩; have K1 := Lib.hid k1; clear k1)
          go_meet
          exact ⟨by rw [E.out], Lib.hid (HDr.out.trans (K1.out.mono HDr.out.size))⟩
        · have E := Lib.hid (show fin D t = t by unfold fin; rw [if_neg hm])
          simp only [decide_eq_false hm]
          clear hm
          go_wp2_with fail
          go_meet
          exact ⟨by rw [E.out], HDr⟩
      case rest =>
        obtain ⟨rfl, HX⟩ := hcut
        generalize hfe : fin D t = f at *
        have HFE := Lib.hid hfe
        clear hfe
        clear c5 c7 HDr
        have HS := Lib.hid (split_L f ⟨#[10]⟩ wc (by decide) (by decide) (by have := HF.out; omega))
        have hbq : b ≤ wq.heap.size := Nat.le_trans (Nat.le_of_lt hb) HW1.out.size
        have hwq : w.heap.size < wq.heap.size := (Array.getElem?_eq_some_iff.1 HN1.out).1
        have hbw : b ≠ w.heap.size := by omega
        go_wp2_with (go_at_call 60; refine HS.out.mono ?_; rintro e w3 ⟨v, rfl, hown, hb3⟩
                     rw [show sp (⟨#[10]⟩ : ByteArray).data.toList f.data.toList = [f.data.toList] from sp_one _ H10.out] at hown
                     have HB3 := Lib.hid (HX.out.trans (hb3.mono HX.out.size))
                     obtain ⟨g, cp, rfl, hcp, hg0⟩ : ∃ g cp, v = .slice (some ⟨g, 0, none⟩) 1 cp ∧ 1 ≤ cp ∧ w3.cell? ⟨g, 0, none⟩ = some (.string f) := by
                       rcases hown.2 with ⟨_, hz⟩ | ⟨g, cp, cur, hv, _, _, hc, _⟩
                       · simp at hz
                       · refine ⟨g, cp, hv, hc, ?_⟩
                         rw [hv] at hown
                         rw [hown.cellAt 0 (by simp)]
                         simp [strV_eq]
                     have HG := Lib.hid hg0
                     clear hown hb3 hg0)
        have HB4 := Lib.hid (HW1.out.trans (HB3.out.mono hbq))
        have HL0 := Lib.hid (HB1.out.keep HB3.out)
        have HN3 := Lib.hid ((Kp.of_below b HB3.out) _ _ (Ne.symm hbw) HN1.out)
        have hlb : (l ++ if idx = 0 then [] else [10]).length ≤ 800000000 := by rw [List.length_append]; split <;> simp <;> omega
        have HPL := Lib.hid (pfxS_len D HD.out idx n)
        have HBL := Lib.hid (show (bulS D top first only last bottom).size ≤ 1000 by
          have h1 := HD.out.h1; have h2 := HD.out.h2; have h3 := HD.out.h3; have h4 := HD.out.h4; have h6 := HD.out.h6
          unfold bulS; repeat' split
          all_goals assumption)
        have hff := HF.out
        clear HX HB3 HS HN1 hbq hwq
        go_loopw [53] (fun v wr => (v = .int .i64 0 ∧ Hid (Bld b b (l ++ (if idx = 0 then [] else [10])) wr) ∧ Hid (Below b w wr) ∧ Hid (wr.heap[w.heap.size]? = some (.cells #[.bool top, .bool first, .bool only, .bool last, .bool bottom] 75 (0, 0))) ∧ Hid (wr.cell? ⟨g, 0, none⟩ = some (.string f)))
            ∨ (v = .int .i64 1 ∧ Hid (Bld b b (l ++ lineL D idx n top first only last bottom f) wr) ∧ Hid (Below b w wr))) (fun v _ => 2 - (intOf v).toNat)
        case atStart => exact .inl ⟨rfl, HL0, HB4, HN3, HG⟩
        case round =>
          rcases hrel with ⟨rfl, R1, R2, R3, R4⟩ | ⟨rfl, R1, R2⟩
          · obtain ⟨wo, rfl⟩ : ∃ wo : World, wo = wr := ⟨_, rfl⟩
            have g0 := R4.out
            have p0 : wo.cell? ⟨p, 0, none⟩ = some (.int .i64 (n : Int)) := cell_of_row wo p 0 _ 72 (0, 0) ((R2.out.block p hp).trans HO.out)
            have HP := Lib.hid (prefix_any b gl gs A cap D _ idx n wo (H.out.below R2.out) HD.out R1.out hlb HI.out hn)
            go_wp2_with (go_at_call 61; refine HP.out.mono ?_; rintro e w5 ⟨rfl, k1, k2, k3⟩; have K1 := Lib.hid k1; have K2 := Lib.hid k2; have K3 := Lib.hid k3; clear k1 k2 k3
                         have hh := K3.out _ _ (Ne.symm hbw) R3.out
                         have x0 := cell_of_row w5 w.heap.size 0 _ 75 (0, 0) hh; have x1 := cell_of_row w5 w.heap.size 1 _ 75 (0, 0) hh; have x2 := cell_of_row w5 w.heap.size 2 _ 75 (0, 0) hh; have x3 := cell_of_row w5 w.heap.size 3 _ 75 (0, 0) hh; have x4 := cell_of_row w5 w.heap.size 4 _ 75 (0, 0) hh
                         have HBu := Lib.hid (bullet_any b gl gs A cap D _ top first only last bottom w5 ((H.out.below R2.out).below K2.out) HD.out K1.out (by have := HPL.out; rw [List.length_append]; omega))
                         clear hh)
            unfold hintV at HBu
            go_wp2_with (first
              | (go_at_call 62; refine HBu.out.mono ?_; rintro e w6 ⟨rfl, k1, k2⟩; have K4 := Lib.hid k1; have K5 := Lib.hid k2; clear k1 k2 x0 x1 x2 x3 x4)
              | (go_at_call 63; refine (put_s K4.out _ (Below.refl _ _) f (by omega) (by have h1 := HPL.out; have h2 := HBL.out; rw [List.length_append, List.length_append, List.length_append]; simp only [List.length_cons, List.length_nil, ← Lib.size_eq]; omega)).mono ?_; rintro e w7 ⟨rfl, k1, k2, -⟩; have K6 := Lib.hid k1; have K7 := Lib.hid k2; clear k1 k2))
            go_roundw
            case rel => exact .inr ⟨by go_num, Lib.hid (by have := K6.out; unfold lineL; simpa using this), Lib.hid (((R2.out.trans K2.out).trans K5.out).trans K7.out)⟩
            case measure => simp [intOf]
          · go_wp2_with fail
            go_end0
            exact ⟨rfl, by rw [HFE.out]; exact R1.out, R2.out⟩
end Go.Proofs.YthdkbokdikhojaaGreatDoor
