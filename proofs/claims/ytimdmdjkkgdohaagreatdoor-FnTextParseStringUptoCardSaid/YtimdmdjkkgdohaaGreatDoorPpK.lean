/- FormatUint, FormatInt, Itoa. Numbers up to 999. -/
import Derived.Test.YtimdmdjkkgdohaaGreatDoorPpJ
namespace Go.Proofs.YtimdmdjkkgdohaaGreatDoor
open Go.RowKit Go.MapKept
set_option linter.unusedVariables false
abbrev tA : TypeId := 113
theorem drop_set (cs : Array Value) (J : Nat) (v : Value) (hJ : J < cs.size) (l : List Value) (h : cs.toList.drop (J + 1) = l) : (cs.setIfInBounds J v).toList.drop J = v :: l := by
  rw [Array.toList_setIfInBounds, List.drop_set, if_neg (by omega)]
  rw [Nat.sub_self, List.drop_eq_getElem_cons (by simpa using hJ), List.set_cons_zero, h]
set_option maxHeartbeats 2000000 in
set_option maxRecDepth 100000 in
theorem fmtU_any (n : Nat) (w : World) (hn : n ≤ 999) : Calls Tryz.prog 58 #[.int .u64 (n : Int), .int .i64 10] w (FmtRet n w) := by
  have HN := Lib.hid hn
  clear hn
  go_enter Tryz.func58, Tryz.ntmps58
  go_wp2_with fail
  go_loopw [0, 6] (fun nv iv wr => ∃ (Q I k : Nat) (ds : List UInt8) (cs : Array Value), nv = .int .u64 (Q : Int) ∧ iv = .int .i64 (I : Int) ∧ I ≤ 64 ∧ Q ≤ 999 ∧ Hid (I + k = 64) ∧ Hid (Dst n Q k ds) ∧ Hid (Blk wr w.heap.size tA cs) ∧ Hid (cs.size = 64) ∧ Hid (cs.toList.drop I = bcells ds) ∧ Hid (Below w.heap.size w wr)) (fun _ iv _ => (intOf iv).toNat)
  case atStart => exact ⟨n, 64, 0, [], _, rfl, rfl, by omega, HN.out, Lib.hid rfl, Lib.hid (.inl ⟨rfl, rfl, rfl⟩), Lib.hid (Blk.new w tA _), Lib.hid rfl, Lib.hid rfl, Lib.hid ((Below.refl _ w).alloc (Nat.le_refl _) _)⟩
  case round =>
    obtain ⟨Q, I, k, ds, cs, rfl, rfl, hI, hQ, HIK, HD, HBk, HCs, HDr, HB⟩ := hrel
    obtain ⟨wr, rfl⟩ : ∃ wz : World, wz = wr := ⟨_, rfl⟩
    obtain ⟨d, hd⟩ : ∃ d, Q % 10 = d := ⟨_, rfl⟩
    obtain ⟨q, hq⟩ : ∃ q, Q / 10 = q := ⟨_, rfl⟩
    have hdI : (Q : Int) % 10 = (d : Int) := by omega
    have hqI : (Q : Int) / 10 = (q : Int) := by omega
    have hd10 : d < 10 := by omega
    have hq9 : q ≤ 999 := by omega
    have hix := ixD d hd10
    unfold DIG at hix
    have hA := HBk.out.lt
    have HDq := Lib.hid (And.intro hd hq)
    clear hd hq
    by_cases hk : k = 0
    · obtain ⟨J, rfl⟩ : ∃ J, I = J + 1 := ⟨I - 1, by have := HIK.out; omega⟩
      have hJ63 : J = 63 := by have := HIK.out; omega
      have hz : (((J + 1 : Nat) : Int) == 64) = true := by rw [beq_iff_eq]; omega
      have HS := Lib.hid (HD.out.step HN.out (.inl hk))
      clear hk
      subst hJ63
      go_wp2_with ((with_reducible refine gate_st (t := 5) rfl ?_); refine halt_L ?_)
      refine resume_L ?_
      refine wpList_put HBk.out (o := 63) (v := .int .u8 ((dg1 d).toNat : Int)) (by rw [HCs.out]; decide) rfl rfl rfl infoU1 ?_
      intro w2 hb2 p2
      have HB2 := Lib.hid (p2.below HB.out HB.out.size (Nat.le_refl _))
      have HBk2 := Lib.hid hb2
      clear hb2 p2
      go_wp2_with fail
      go_roundw
      case rel => exact ⟨q, 63, k + 1, dg1 d :: ds, cs.setIfInBounds 63 (.int .u8 ((dg1 d).toNat : Int)), rfl, by go_num, by omega, hq9, Lib.hid (by have := HIK.out; omega), Lib.hid (by rw [← HDq.out.1, ← HDq.out.2]; exact HS.out.1), HBk2, Lib.hid (by simp; exact HCs.out), Lib.hid (drop_set cs 63 _ (by rw [HCs.out]; decide) _ HDr.out), HB2⟩
      case measure => simp [intOf]
    · have hIk : I ≠ 64 := by have := HIK.out; omega
      have hz : ((I : Int) == 64) = false := by rw [beq_eq_false_iff_ne]; omega
      by_cases hQ0 : 0 < Q
      · have HS := Lib.hid (HD.out.step HN.out (.inr hQ0))
        obtain ⟨J, rfl⟩ : ∃ J, I = J + 1 := ⟨I - 1, by have := HIK.out; have := HS.out.2; omega⟩
        clear hk
        go_wp2_with ((with_reducible refine gate_st (t := 5) rfl ?_); refine halt_L ?_)
        refine resume_L ?_
        refine wpList_put HBk.out (o := J) (v := .int .u8 ((dg1 d).toNat : Int)) (by rw [HCs.out]; omega) rfl rfl rfl infoU1 ?_
        intro w2 hb2 p2
        have HB2 := Lib.hid (p2.below HB.out HB.out.size (Nat.le_refl _))
        have HBk2 := Lib.hid hb2
        clear hb2 p2
        go_wp2_with fail
        go_roundw
        case rel => exact ⟨q, J, k + 1, dg1 d :: ds, cs.setIfInBounds J (.int .u8 ((dg1 d).toNat : Int)), rfl, by go_num, by omega, hq9, Lib.hid (by have := HIK.out; omega), Lib.hid (by rw [← HDq.out.1, ← HDq.out.2]; exact HS.out.1), HBk2, Lib.hid (by simp; exact HCs.out), Lib.hid (drop_set cs J _ (by rw [HCs.out]; omega) _ HDr.out), HB2⟩
        case measure => simp [intOf]
      · obtain rfl : Q = 0 := by omega
        have HF := Lib.hid (HD.out.fin HN.out hk)
        have hk123 : k = 1 ∨ k = 2 ∨ k = 3 := by have := HD.out.len.2; omega
        have hlen := HD.out.len.1
        have hI64 := HIK.out
        clear hk hIk hz hdI hqI hd10 hq9 hix
        rcases hk123 with rfl | rfl | rfl
        · obtain rfl : I = 63 := by omega
          have hcv := conv_digits (cap := 1) (k := 1) HBk.out HDr.out hlen (by decide)
          clear hlen hI64
          go_wp2_with fail
          go_ret
          exact ⟨by rw [← HF.out]; rfl, HB.out⟩
        · obtain rfl : I = 62 := by omega
          have hcv := conv_digits (cap := 2) (k := 2) HBk.out HDr.out hlen (by decide)
          clear hlen hI64
          go_wp2_with fail
          go_ret
          exact ⟨by rw [← HF.out]; rfl, HB.out⟩
        · obtain rfl : I = 61 := by omega
          have hcv := conv_digits (cap := 3) (k := 3) HBk.out HDr.out hlen (by decide)
          clear hlen hI64
          go_wp2_with fail
          go_ret
          exact ⟨by rw [← HF.out]; rfl, HB.out⟩
set_option maxHeartbeats 1000000 in
theorem fmtI_any (n : Nat) (w : World) (hn : n ≤ 999) : Calls Tryz.prog 45 #[.int .i64 (n : Int), .int .i64 10] w (FmtRet n w) := by
  have hT := fmtU_any n w hn
  go_enter Tryz.func45, Tryz.ntmps45
  go_wp2_with (go_at_call 58; refine halt_H ?_)
  refine resume_H ?_
  refine hT.mono ?_
  rintro e w1 ⟨rfl, hb⟩
  have HB := Lib.hid hb
  clear hT hb
  go_wp2
  go_ret
  exact ⟨rfl, HB.out⟩
set_option maxHeartbeats 1000000 in
theorem itoaX_any (n : Nat) (w : World) (hn : n ≤ 999) : Calls Tryz.prog 31 #[.int .i64 (n : Int)] w (FmtRet n w) := by
  have hT := fmtI_any n w hn
  go_enter Tryz.func31, Tryz.ntmps31
  go_wp2_with (go_at_call 45; refine halt_H ?_)
  refine resume_H ?_
  refine hT.mono ?_
  rintro e w1 ⟨rfl, hb⟩
  have HB := Lib.hid hb
  clear hT hb
  go_wp2
  go_ret
  exact ⟨rfl, HB.out⟩
end Go.Proofs.YtimdmdjkkgdohaaGreatDoor
