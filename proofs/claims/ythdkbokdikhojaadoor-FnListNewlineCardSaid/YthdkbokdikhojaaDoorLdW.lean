/- A list as the reference draws it: LsLine, LsDrawn, lsTop. -/
import Derived.Test.YthdkbokdikhojaaDoorLdV
import Derived.Test.YthdkbokdikhojaaDoorLdD
import Derived.Deep.RegionHeld3
namespace Go.Proofs.YthdkbokdikhojaaDoor
open Go.RowKit
set_option linter.unusedVariables false
theorem mk_app (a : List UInt8) (s : ByteArray) (b : List UInt8) (h : s.data.toList = b) : (⟨a.toArray⟩ : ByteArray) ++ s = ⟨(a ++ b).toArray⟩ := by
  have : s = ⟨b.toArray⟩ := WideShapes.bytes_inj (by simp [h])
  rw [this]; exact ByteArray.mk_append_mk a b
theorem mk_self (s : ByteArray) : s = ⟨s.data.toList.toArray⟩ := WideShapes.bytes_inj (by simp)
theorem spaces_size (n : Nat) : (spaces n).size = n := by
  have := repeatL_length n
  simp [spaces, ByteArray.size, this]
theorem add_str (a b : ByteArray) (h : a.size + b.size ≤ 9223372036854775807) (W : World) : (Op.stringOp .add a b).run Tryd.prog W = .ok (.string (a ++ b)) W := by
  have h' : ¬ (((a.size + b.size : Nat) : Int) > IntKind.i64.max) := by rw [show IntKind.i64.max = 9223372036854775807 from rfl]; omega
  unfold Op.stringOp
  simp only [if_neg h']
  rfl
/-- A line, as the reference draws it. -/
def lineW (D : LD) (l : List (ByteArray × Int)) (n k : Nat) : List UInt8 := pfxS D k (lv l k).toNat ++ (bulW D l n k).data.toList ++ [32] ++ (tx l k).data.toList
theorem bulW_len (D : LD) (l : List (ByteArray × Int)) (n k : Nat) (hD : D.ok) : (bulW D l n k).size ≤ 1000 := by
  have h1 := hD.h1; have h2 := hD.h2; have h3 := hD.h3; have h4 := hD.h4; have h6 := hD.h6
  unfold bulW; repeat' split
  all_goals assumption
structure LdIs (D : LD) (l : List (ByteArray × Int)) : Prop where
  lvs : D.lvs = lvs l
  sp : D.sp = spaces (Lib.runeCount D.s5)
  s5 : D.s5.size ≤ 20
  s8 : D.s8.size ≤ 20
  simp5 : simp false D.s5 = true
  nw5 : nw D.s5 = true
set_option maxHeartbeats 4000000 in
set_option maxRecDepth 100000 in
theorem lsLine_any (D : LD) (A : Option Addr) (n cap : Nat) (l : List (ByteArray × Int)) (at_ : Nat) (B : Nat) (w : World) (hB : B ≤ w.heap.size) (h : LsArg w B A n cap l) (hat : at_ < n) (hD : LdIs D l) (hO : D.ok) (hlv : 0 ≤ lv l at_ ∧ lv l at_ ≤ 60) (htx : (tx l at_).size ≤ 200) :
    Calls Tryd.prog 22 #[.slice A n cap, .int .i64 at_, styD D] w fun e w' => e = .returned (.string ⟨(lineW D l n at_).toArray⟩) ∧ Below w.heap.size w w' := by
  have hm := h.2.2.2
  have hnc := h.2.2.1
  unfold maxLen at hm
  have hBa := (Below.refl w.heap.size w).alloc (Nat.le_refl _) (boxO D)
  have hsz : w.heap.size < (w.alloc (boxO D)).heap.size := by simp
  have hAa := h.below (hBa.mono hB)
  have HA := Lib.hid (fun (w' : World) (hb : Below (w.alloc (boxO D)).heap.size (w.alloc (boxO D)) w') => (hAa.below (hb.mono (Nat.le_trans hB (Nat.le_of_lt hsz)))))
  have HMo := Lib.hid (fun (w' : World) (hb : Below (w.alloc (boxO D)).heap.size (w.alloc (boxO D)) w') (lev : Int) => lsMore_any A n cap l at_ lev B w' (Nat.le_trans (Nat.le_trans hB (Nat.le_of_lt hsz)) hb.size) (HA.out w' hb) hat)
  have HBu := Lib.hid (fun (w' : World) (hb : Below (w.alloc (boxO D)).heap.size (w.alloc (boxO D)) w') => lsBullet_any D A n cap l at_ B w' (Nat.le_trans (Nat.le_trans hB (Nat.le_of_lt hsz)) hb.size) (HA.out w' hb) hat)
  have HN := Lib.hid (BxC.new D w)
  have HBa := Lib.hid hBa
  have HS := Lib.hid hsz
  obtain ⟨b, o, rfl, hb, hc⟩ := hAa.cell hat
  obtain ⟨d0, d1⟩ := hc at_ hat
  have HT := Lib.hid (fun (w' : World) (hb' : Below (w.alloc (boxO D)).heap.size (w.alloc (boxO D)) w') => show w'.cell? ⟨b, o + at_ * 2, none⟩ = some (.string (tx l at_)) from (hb'.cell (p := ⟨b, o + at_ * 2, none⟩) (by show b < _; omega)).trans d0)
  have hB0 := Lib.hid hB
  have HD := Lib.hid hD
  obtain ⟨z0, z1⟩ := hlv
  obtain ⟨z, hz⟩ : ∃ z : Nat, lv l at_ = z := ⟨(lv l at_).toNat, by omega⟩
  have HL := Lib.hid (show lineW D l n at_ = pfxS D at_ z ++ (bulW D l n at_).data.toList ++ [32] ++ (tx l at_).data.toList by unfold lineW; rw [hz]; rfl)
  have hz60 : z ≤ 60 := by omega
  have hbu := bulW_len D l n at_ hO
  rw [hz] at d1
  unfold styD at *
  clear h hAa hc hBa hsz hD hO d0 z0 z1 hz HA
  go_enter Tryd.func22, Tryd.ntmps22
  obtain ⟨x0, x1, x2, x3, x4, x5, x6, x7, x8⟩ := HN.out
  generalize hwa : w.alloc (.cells #[.int .i64 0, .string D.s1, .string D.s2, .string D.s3, .string D.s4, .string D.s5, .string D.s6, .string D.s7, .string D.s8] 24) = wa at *
  go_wp2_with fail
  clear x0 x1 x2 x3 x4 x5 x6 x7 x8 d1
  go_loopw [7, 16] (fun ov iv wr => ∃ (k : Nat) (q : ByteArray), k ≤ z ∧ iv = .int .i64 (k : Int) ∧ ov = .string q ∧ q.size ≤ 20 * k + 20 ∧ Hid (q = ⟨(pfxS D at_ k).toArray⟩) ∧ Hid (Below wa.heap.size wa wr)) (fun _ iv _ => z - (intOf iv).toNat)
  case atStart => exact ⟨0, D.s8, Nat.zero_le _, rfl, rfl, by have := HD.out.s8; omega, Lib.hid (by rw [mk_self D.s8]; simp [pfxS]), Lib.hid (Below.refl _ _)⟩
  case round =>
    obtain ⟨k, q, hk, rfl, rfl, hqs, hq, HW⟩ := hrel
    obtain ⟨wo, rfl⟩ : ∃ wo : World, wo = wr := ⟨_, rfl⟩
    by_cases hlt : k < z
    · obtain ⟨M, hM⟩ : ∃ M, more (k : Int) ((lvs l).drop (at_ + 1)) = M := ⟨_, rfl⟩
      have HM := Lib.hid (HMo.out wo HW.out (k : Int))
      rw [hM] at HM
      have HP := Lib.hid (show pfxS D at_ (k + 1) = pfxS D at_ k ++ (if M then D.s5 else D.sp).data.toList by rw [pfxS_succ, HD.out.lvs, hM])
      clear hM
      have hws := HW.out.size
      have hs5 := HD.out.s5
      cases M with
      | true =>
        go_wp2_with (go_at_call 16; refine HM.out.mono ?_; rintro e w1 ⟨rfl, k1⟩; have K1 := Lib.hid (HW.out.trans (k1.mono hws)); clear k1
                     have x5 := (HN.out.below K1.out HS.out).2.2.2.2.2.1)
        go_roundw
        case rel => exact ⟨k + 1, _, by omega, by go_num, rfl, by rw [ByteArray.size_append]; omega, Lib.hid (by rw [hq.out, HP.out]; exact mk_app _ _ _ rfl), K1⟩
        case measure => simp [intOf]; omega
      | false =>
        have HWi := Lib.hid (fun (w' : World) => width_any D.s5 w' (by have := HD.out.s5; omega) HD.out.simp5 HD.out.nw5)
        have hrc : Lib.runeCount D.s5 ≤ 20 := Nat.le_trans (Lib.runeCount_le D.s5) HD.out.s5
        have HTi := Lib.hid (fun (w' : World) => times_any (Lib.runeCount D.s5) w' (by omega))
        have HSp := Lib.hid HD.out.sp
        have hss : (spaces (Lib.runeCount D.s5)).size = Lib.runeCount D.s5 := spaces_size _
        have hsl : (spaces (Lib.runeCount D.s5)).size ≤ 20 := by omega
        clear hrc hss
        generalize hspe : spaces (Lib.runeCount D.s5) = sps at *
        generalize Lib.runeCount D.s5 = rc at *
        go_wp2_with (first
          | (go_at_call 16; refine HM.out.mono ?_; rintro e w1 ⟨rfl, k1⟩; have K1 := Lib.hid (HW.out.trans (k1.mono hws)); clear k1
             have x5 := (HN.out.below K1.out HS.out).2.2.2.2.2.1)
          | (go_at_call 36; refine (HWi.out _).mono ?_; rintro e w2 ⟨rfl, k2⟩; have K2 := Lib.hid (K1.out.trans (k2.mono K1.out.size)); clear k2 x5)
          | (go_at_call 35; refine (HTi.out _).mono ?_; rintro e w3 ⟨rfl, k3⟩; have K3 := Lib.hid (K2.out.trans (k3.mono K2.out.size)); clear k3))
        go_roundw
        case rel => exact ⟨k + 1, _, by omega, by go_num, rfl, by rw [ByteArray.size_append]; omega, Lib.hid (by rw [hq.out, HP.out]; exact mk_app _ _ _ (by rw [HSp.out]; rfl)), K3⟩
        case measure => simp [intOf]; omega
    · have hke : k = z := by omega
      subst hke
      obtain ⟨x0, x1, x2, x3, x4, x5, x6, x7, x8⟩ := HN.out.below HW.out HS.out
      have d0 := HT.out wo HW.out
      generalize hbe : bulW D l n at_ = bu at *
      generalize tx l at_ = t at *
      have a1 := add_str q bu (by omega)
      have a2 := add_str (q ++ bu) ⟨#[32]⟩ (by rw [ByteArray.size_append]; show _ + 1 ≤ _; omega)
      have a3 := add_str (q ++ bu ++ ⟨#[32]⟩) t (by rw [ByteArray.size_append, ByteArray.size_append]; show _ + 1 + _ ≤ _; omega)
      go_wp2_with fail
      go_region_held3 (fun w' => w'.cell? ⟨w.heap.size, 0, none⟩ = some (.int .i64 0) ∧ w'.cell? ⟨w.heap.size, 1, none⟩ = some (.string D.s1) ∧ w'.cell? ⟨w.heap.size, 2, none⟩ = some (.string D.s2) ∧ w'.cell? ⟨w.heap.size, 3, none⟩ = some (.string D.s3) ∧ w'.cell? ⟨w.heap.size, 4, none⟩ = some (.string D.s4) ∧ w'.cell? ⟨w.heap.size, 5, none⟩ = some (.string D.s5) ∧ w'.cell? ⟨w.heap.size, 6, none⟩ = some (.string D.s6) ∧ w'.cell? ⟨w.heap.size, 7, none⟩ = some (.string D.s7) ∧ w'.cell? ⟨w.heap.size, 8, none⟩ = some (.string D.s8) ∧ w'.cell? ⟨b, o + at_ * 2, none⟩ = some (.string t))
        (go_keep)
        (first | (go_at_call 37; refine (HBu.out wo.drew (Below.drew HW.out)).mono ?_; rintro e w2 ⟨rfl, k2⟩; have K2 := Lib.hid ((Below.drew HW.out).trans (k2.mono (Below.drew HW.out).size)); clear k2 x0 x1 x2 x3 x4 x5 x6 x7 x8 d0; obtain ⟨x0, x1, x2, x3, x4, x5, x6, x7, x8⟩ := HN.out.below K2.out HS.out; have d0 := HT.out w2 K2.out))
      go_wp2_with fail
      go_ret
      exact ⟨ret_str (by rw [HL.out, hq.out, mk_app _ bu _ rfl, mk_app _ ⟨#[32]⟩ _ rfl, mk_app _ t _ rfl]), HBa.out.trans (K2.out.mono (Nat.le_of_lt HS.out))⟩
end Go.Proofs.YthdkbokdikhojaaDoor
