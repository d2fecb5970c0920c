/- Rendering a list: the bullet and the prefix of a line. -/
import Derived.Test.YthdkbokdikhojaaGreatDoorLdA
import Derived.Handy
import Derived.BigQuiet
namespace Go.Proofs.YthdkbokdikhojaaGreatDoor
open Go.RowKit
set_option linter.unusedVariables false
def hintV (top first only last bottom : Bool) : Value := .agg #[.bool top, .bool first, .bool only, .bool last, .bool bottom]
def bulS (D : LD) (top first only last bottom : Bool) : ByteArray :=
  if only then (if top then D.s1 else D.s6) else if top then D.s2 else if first then D.s3 else if bottom then D.s6 else if last then D.s6 else D.s4
def BulRet (b : Nat) (l : List UInt8) (s : ByteArray) (w : World) (e : Ending) (w' : World) : Prop := e = .returned (.tuple #[]) ∧ Bld b b (l ++ s.data.toList ++ [32]) w' ∧ Below b w w'
set_option maxHeartbeats 4000000 in
set_option maxRecDepth 100000 in
theorem single_any (b gl gs : Nat) (A : Option Addr) (cap : Nat) (D : LD) (l : List UInt8) (top first only last bottom : Bool) (w : World) (h : Sc b gl gs A cap D w) (hD : D.ok) (hB : Bld b b l w) (hl : l.length ≤ 900000000) :
    Calls Tryz.prog 77 #[.pointer (some ⟨gl, 0, none⟩), .pointer (some ⟨b, 0, none⟩), hintV top first only last bottom] w (BulRet b l (bulS D top first only last bottom) w) := by
  have hb := hB.lt'
  have hBa := (Below.refl w.heap.size w).alloc (Nat.le_refl _) (.cells #[.bool top, .bool first, .bool only, .bool last, .bool bottom] 75)
  have hBb : Below b w _ := hBa.mono (Nat.le_of_lt hb)
  obtain ⟨-, -, c5, -, e1, e2, e3, e4, -, e6, -, -⟩ := (h.below hBb).cells
  have HB := Lib.hid hB
  have HBa := Lib.hid hBa
  have HBb := Lib.hid hBb
  have h1 := hD.h1; have h2 := hD.h2; have h3 := hD.h3; have h4 := hD.h4; have h6 := hD.h6
  unfold hintV bulS
  clear h hD hB hBa hBb
  go_enter Tryz.func77, Tryz.ntmps77
  cases only with
  | true =>
    cases top with
    | true =>
      go_wp2_with (go_at_call 63; refine (put_s HB.out _ HBa.out D.s1 (by omega) (by omega)).mono ?_; rintro e w1 ⟨rfl, k1, k2, -⟩; have K1 := Lib.hid k1; have K2 := Lib.hid k2; clear k1 k2 HBa)
      go_wp2_with (go_at_call 56; refine (put_r K1.out _ (Below.refl _ _) 32 (by decide) (by simp; omega)).mono ?_; rintro e w2 ⟨rfl, k1, k2, -⟩; have K3 := Lib.hid k1; have K4 := Lib.hid k2; clear k1 k2)
      go_end0
      exact ⟨rfl, K3.out, (HBb.out.trans K2.out).trans K4.out⟩
    | false =>
      go_wp2_with (go_at_call 63; refine (put_s HB.out _ HBa.out D.s6 (by omega) (by omega)).mono ?_; rintro e w1 ⟨rfl, k1, k2, -⟩; have K1 := Lib.hid k1; have K2 := Lib.hid k2; clear k1 k2 HBa)
      go_wp2_with (go_at_call 56; refine (put_r K1.out _ (Below.refl _ _) 32 (by decide) (by simp; omega)).mono ?_; rintro e w2 ⟨rfl, k1, k2, -⟩; have K3 := Lib.hid k1; have K4 := Lib.hid k2; clear k1 k2)
      go_end0
      exact ⟨rfl, K3.out, (HBb.out.trans K2.out).trans K4.out⟩
  | false =>
    cases top with
    | true =>
      go_wp2_with (go_at_call 63; refine (put_s HB.out _ HBa.out D.s2 (by omega) (by omega)).mono ?_; rintro e w1 ⟨rfl, k1, k2, -⟩; have K1 := Lib.hid k1; have K2 := Lib.hid k2; clear k1 k2 HBa)
      go_wp2_with (go_at_call 56; refine (put_r K1.out _ (Below.refl _ _) 32 (by decide) (by simp; omega)).mono ?_; rintro e w2 ⟨rfl, k1, k2, -⟩; have K3 := Lib.hid k1; have K4 := Lib.hid k2; clear k1 k2)
      go_end0
      exact ⟨rfl, K3.out, (HBb.out.trans K2.out).trans K4.out⟩
    | false =>
      cases first with
      | true =>
        go_wp2_with (go_at_call 63; refine (put_s HB.out _ HBa.out D.s3 (by omega) (by omega)).mono ?_; rintro e w1 ⟨rfl, k1, k2, -⟩; have K1 := Lib.hid k1; have K2 := Lib.hid k2; clear k1 k2 HBa)
        go_wp2_with (go_at_call 56; refine (put_r K1.out _ (Below.refl _ _) 32 (by decide) (by simp; omega)).mono ?_; rintro e w2 ⟨rfl, k1, k2, -⟩; have K3 := Lib.hid k1; have K4 := Lib.hid k2; clear k1 k2)
        go_end0
        exact ⟨rfl, K3.out, (HBb.out.trans K2.out).trans K4.out⟩
      | false =>
        cases bottom with
        | true =>
          go_wp2_with (go_at_call 63; refine (put_s HB.out _ HBa.out D.s6 (by omega) (by omega)).mono ?_; rintro e w1 ⟨rfl, k1, k2, -⟩; have K1 := Lib.hid k1; have K2 := Lib.hid k2; clear k1 k2 HBa)
          go_wp2_with (go_at_call 56; refine (put_r K1.out _ (Below.refl _ _) 32 (by decide) (by simp; omega)).mono ?_; rintro e w2 ⟨rfl, k1, k2, -⟩; have K3 := Lib.hid k1; have K4 := Lib.hid k2; clear k1 k2)
          go_end0
          exact ⟨rfl, K3.out, (HBb.out.trans K2.out).trans K4.out⟩
        | false =>
          cases last with
          | true =>
            go_wp2_with (go_at_call 63; refine (put_s HB.out _ HBa.out D.s6 (by omega) (by omega)).mono ?_; rintro e w1 ⟨rfl, k1, k2, -⟩; have K1 := Lib.hid k1; have K2 := Lib.hid k2; clear k1 k2 HBa)
            go_wp2_with (go_at_call 56; refine (put_r K1.out _ (Below.refl _ _) 32 (by decide) (by simp; omega)).mono ?_; rintro e w2 ⟨rfl, k1, k2, -⟩; have K3 := Lib.hid k1; have K4 := Lib.hid k2; clear k1 k2)
            go_end0
            exact ⟨rfl, K3.out, (HBb.out.trans K2.out).trans K4.out⟩
          | false =>
            go_wp2_with (go_at_call 63; refine (put_s HB.out _ HBa.out D.s4 (by omega) (by omega)).mono ?_; rintro e w1 ⟨rfl, k1, k2, -⟩; have K1 := Lib.hid k1; have K2 := Lib.hid k2; clear k1 k2 HBa)
            go_wp2_with (go_at_call 56; refine (put_r K1.out _ (Below.refl _ _) 32 (by decide) (by simp; omega)).mono ?_; rintro e w2 ⟨rfl, k1, k2, -⟩; have K3 := Lib.hid k1; have K4 := Lib.hid k2; clear k1 k2)
            go_end0
            exact ⟨rfl, K3.out, (HBb.out.trans K2.out).trans K4.out⟩
set_option maxHeartbeats 4000000 in
set_option maxRecDepth 100000 in
theorem bullet_any (b gl gs : Nat) (A : Option Addr) (cap : Nat) (D : LD) (l : List UInt8) (top first only last bottom : Bool) (w : World) (h : Sc b gl gs A cap D w) (hD : D.ok) (hB : Bld b b l w) (hl : l.length ≤ 900000000) :
    Calls Tryz.prog 62 #[.pointer (some ⟨gl, 0, none⟩), .pointer (some ⟨b, 0, none⟩), .int .i64 0, hintV top first only last bottom] w (BulRet b l (bulS D top first only last bottom) w) := by
  have hb := hB.lt'
  have hBa := (Below.refl w.heap.size w).alloc (Nat.le_refl _) (.cells #[.bool top, .bool first, .bool only, .bool last, .bool bottom] 75)
  have hBb : Below b w _ := hBa.mono (Nat.le_of_lt hb)
  have H := Lib.hid (single_any b gl gs A cap D l top first only last bottom _ (h.below hBb) hD (hB.keep hBa) hl)
  have HBb := Lib.hid hBb
  clear h hD hB hBa hBb hl
  unfold hintV at H ⊢
  go_enter Tryz.func62, Tryz.ntmps62
  go_wp2_with (go_at_call 77; refine H.out.mono ?_; rintro e w1 ⟨rfl, k1, k2⟩; have K1 := Lib.hid k1; have K2 := Lib.hid k2; clear k1 k2)
  go_end0
  exact ⟨rfl, K1.out, HBb.out.trans K2.out⟩
/-- What stands ahead of the bullet. -/
def pfxS (D : LD) (idx k : Nat) : List UInt8 := D.s8.data.toList ++ (List.range k).flatMap fun (lev : Nat) => (if more (lev : Int) (D.lvs.drop (idx + 1)) then D.s5 else D.sp).data.toList
theorem pfxS_succ (D : LD) (idx k : Nat) : pfxS D idx (k + 1) = pfxS D idx k ++ (if more (k : Int) (D.lvs.drop (idx + 1)) then D.s5 else D.sp).data.toList := by
  simp [pfxS, List.range_succ]
theorem pfxS_len (D : LD) (hD : D.ok) (idx : Nat) : ∀ k, (pfxS D idx k).length ≤ 1000 + k * 1000
  | 0 => by have := hD.h8; simp [pfxS]; omega
  | k + 1 => by
    have h := pfxS_len D hD idx k
    have h5 := hD.h5; have hsp := hD.hsp
    rw [pfxS_succ, List.length_append]
    split
    · simp; omega
    · simp; omega
set_option maxHeartbeats 4000000 in
set_option maxRecDepth 100000 in
theorem prefix_any (b gl gs : Nat) (A : Option Addr) (cap : Nat) (D : LD) (l : List UInt8) (idx n : Nat) (w : World) (h : Sc b gl gs A cap D w) (hD : D.ok) (hB : Bld b b l w) (hl : l.length ≤ 800000000) (hi : idx < D.its.length) (hn : n ≤ 1000) :
    Calls Tryz.prog 61 #[.pointer (some ⟨gl, 0, none⟩), .pointer (some ⟨b, 0, none⟩), .int .i64 idx, .int .i64 n] w fun e w' => e = .returned (.tuple #[]) ∧ Bld b b (l ++ pfxS D idx n) w' ∧ Below b w w' ∧ Kp b w w' := by
  have hb := hB.lt'
  have hi2 : idx ≤ 1000 := by have := hD.hn; omega
  obtain ⟨-, -, c5, -, -, -, -, -, -, -, -, e8⟩ := h.cells
  have h8 := hD.h8
  have H := Lib.hid h
  have HB := Lib.hid hB
  have HD := Lib.hid hD
  have HI := Lib.hid hi
  have HL := Lib.hid (pfxS_len D hD idx)
  clear h hD hB hi
  go_enter Tryz.func61, Tryz.ntmps61
  go_upto_if 16 with fail
  go_cut [] from 16 to 25 (fun wx => Hid (Bld b b (l ++ D.s8.data.toList) wx) ∧ Hid (Below b w wx) ∧ Hid (Kp b w wx))
  case first =>
    by_cases hz : D.s8.data.toList = []
    · have hq2 : D.s8.toList.isEmpty = true := by rw [Lib.toList_data, hz]; rfl
      have HZ := Lib.hid hz
      clear hz
      simp only [hq2, Bool.not_true]
      go_wp2_with fail
      go_meet
      exact ⟨Lib.hid (by rw [HZ.out, List.append_nil]; exact HB.out), Lib.hid (Below.refl _ _), Lib.hid (Kp.refl _ _)⟩
    · have hq2 : D.s8.toList.isEmpty = false := by rw [Lib.toList_data]; simpa using hz
      clear hz
      simp only [hq2, Bool.not_false]
      go_wp2_with (go_at_call 63; refine (put_s HB.out _ (Below.refl _ _) D.s8 (by omega) (by omega)).mono ?_; rintro e w1 ⟨rfl, k1, k2, k3⟩; have K1 := Lib.hid k1; have K2 := Lib.hid k2; have K3 := Lib.hid k3; clear k1 k2 k3)
      go_meet
      exact ⟨K1, K2, K3⟩
  case rest =>
    obtain ⟨HB1, HW1, HK1⟩ := hcut
    clear c5 e8 h8
    go_wp2_with fail
    go_loopw [8] (fun v wr => ∃ k : Nat, k ≤ n ∧ v = .int .i64 k ∧ Hid (Bld b b (l ++ pfxS D idx k) wr) ∧ Hid (Below b w wr) ∧ Hid (Kp b w wr)) (fun v _ => n - (intOf v).toNat)
    case atStart => exact ⟨0, Nat.zero_le _, rfl, Lib.hid (by have := HB1.out; simp [pfxS] at this ⊢; exact this), HW1, HK1⟩
    case round =>
      obtain ⟨k, hk, rfl, HB2, HW2, HK2⟩ := hrel
      obtain ⟨wo, rfl⟩ : ∃ wo : World, wo = wr := ⟨_, rfl⟩
      by_cases hlt : k < n
      · have hS := H.out.below HW2.out
        have HM := Lib.hid (more_any b gl gs A cap D (k : Int) idx wo hS HD.out HI.out)
        obtain ⟨c1, -, c5, -, -, -, -, -, e5, -, -, -⟩ := hS.cells
        have hlk := HL.out k
        have hlen : (l ++ pfxS D idx k).length ≤ 900000000 := by rw [List.length_append]; omega
        have h5 := HD.out.h5; have hsp := HD.out.hsp
        have HP := Lib.hid (pfxS_succ D idx k)
        clear hS hlk
        cases hm : more (k : Int) (D.lvs.drop (idx + 1)) with
        | true =>
          rw [hm] at HM HP
          clear hm
          go_wp2_with (first
            | (go_at_call 45; refine HM.out.mono ?_; rintro e w1 ⟨rfl, rfl⟩)
            | (go_at_call 63; refine (put_s HB2.out _ (Below.refl _ _) D.s5 (by omega) (by omega)).mono ?_; rintro e w1 ⟨rfl, k1, k2, k3⟩; have K1 := Lib.hid k1; have K2 := Lib.hid k2; have K3 := Lib.hid k3; clear k1 k2 k3))
          go_roundw
          case rel => exact ⟨k + 1, by omega, by go_num, Lib.hid (by have := K1.out; rw [HP.out]; simpa using this), Lib.hid (HW2.out.trans K2.out), Lib.hid (HK2.out.trans K3.out)⟩
          case measure => simp [intOf]; omega
        | false =>
          rw [hm] at HM HP
          clear hm
          go_wp2_with (first
            | (go_at_call 45; refine HM.out.mono ?_; rintro e w1 ⟨rfl, rfl⟩)
            | (go_at_call 63; refine (put_s HB2.out _ (Below.refl _ _) D.sp (by omega) (by omega)).mono ?_; rintro e w1 ⟨rfl, k1, k2, k3⟩; have K1 := Lib.hid k1; have K2 := Lib.hid k2; have K3 := Lib.hid k3; clear k1 k2 k3))
          go_roundw
          case rel => exact ⟨k + 1, by omega, by go_num, Lib.hid (by have := K1.out; rw [HP.out]; simpa using this), Lib.hid (HW2.out.trans K2.out), Lib.hid (HK2.out.trans K3.out)⟩
          case measure => simp [intOf]; omega
      · have hke : k = n := by omega
        subst hke
        go_wp2_with fail
        go_end0
        exact ⟨rfl, HB2.out, HW2.out, HK2.out⟩
end Go.Proofs.YthdkbokdikhojaaGreatDoor
