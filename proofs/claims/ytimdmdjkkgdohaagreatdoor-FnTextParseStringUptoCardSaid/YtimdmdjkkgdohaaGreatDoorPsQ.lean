/- What pieces of text are, written: the walks of TxSequence and TxWritten at any pieces, at most 2097152 of them, each of at most so many codes and bytes. No other conditions. -/
import Derived.Test.YtimdmdjkkgdohaaGreatDoorPsB
import Derived.Lib.ItoaLen
namespace Go.Proofs.YtimdmdjkkgdohaaGreatDoor
open Go.RowKit
set_option linter.unusedVariables false
theorem mid_big (zs : List Int) : ∀ n, (∀ i, i < n → -9223372036854775808 ≤ zs.getD i 0 ∧ zs.getD i 0 ≤ 9223372036854775807) → (mid zs n).length ≤ 22 * n
  | 0, _ => by simp [mid]
  | n + 1, h => by
    have h1 := mid_big zs n (fun i hi => h i (by omega))
    have hz := h n (by omega)
    have h4 := Lib.itoa_length_le (zs.getD n 0) hz.1 hz.2
    rw [mid, List.length_append, List.length_append]
    have : (if n = 0 then ([] : List UInt8) else [59]).length ≤ 1 := by split <;> simp
    omega
theorem seq_len {w : World} {B : Nat} {x : Pc} (h : PcOk w B x) (hn : x.n ≤ 2097152) : (seqOf x).length ≤ 46137350 := by
  have := mid_big x.zs x.n (fun i hi => wf_i64 (h.code (show i < x.n by omega)).choose_spec.choose_spec.2.2.2)
  unfold seqOf
  split
  · simp
  · simp; omega
theorem written_len (A : Option Addr) (n cap : Nat) (l : List Pc) (w : World) (B : Nat) (h : PcArg w B A n cap l) : ∀ k, k ≤ n → (∀ j, j < n → (pc l j).n ≤ 2097152 ∧ (pc l j).s.size ≤ 2097152) → (written l k).length ≤ 60000000 * k
  | 0, _, _ => by simp [written]
  | k + 1, hk, hg => by
    have h1 := written_len A n cap l w B h k (by omega) hg
    obtain ⟨b, oo, _, hb, c1, c2, hok⟩ := h.cell (show k < n by omega)
    have h2 := seq_len hok (hg k (by omega)).1
    have h3 := (hg k (by omega)).2
    rw [Lib.size_eq] at h3
    rw [written, List.length_append, List.length_append]; omega
set_option maxHeartbeats 1000000 in
set_option maxRecDepth 100000 in
theorem seq_big (x : Pc) (B : Nat) (w : World) (hB : B ≤ w.heap.size) (h : PcOk w B x) (hn : x.n ≤ 2097152) (hT : Pows w) : Calls Tryz.prog 11 #[.slice x.a x.n x.cap] w (StrRet (seqOf x) w) := by
  have HK := Lib.hid h
  have HT := Lib.hid hT
  have HM := Lib.hid (fun k (hk : k ≤ x.n) => mid_big x.zs k (fun i hi => wf_i64 (h.code (show i < x.n by omega)).choose_spec.choose_spec.2.2.2))
  have hcl := h.2.1
  clear h hT
  by_cases h0 : x.n = 0
  · have e : seqOf x = [] := by unfold seqOf; rw [if_pos h0]
    rw [e, h0]
    go_enter Tryz.func11, Tryz.ntmps11
    go_wp2_with fail
    go_ret
    exact ⟨rfl, Below.refl _ _⟩
  · have HE := Lib.hid (show seqOf x = [27, 91] ++ mid x.zs x.n ++ [109] by unfold seqOf; rw [if_neg h0]; simp)
    have e0 : ((x.n : Int) == 0) = false := by rw [beq_eq_false_iff_ne]; omega
    go_enter Tryz.func11, Tryz.ntmps11
    go_wp2_with fail
    clear e0
    go_loopw [3, 11] (fun sv iv wr => ∃ (k : Nat) (o : List UInt8), k ≤ x.n ∧ iv = .int .i64 (k : Int) ∧ sv = .string ⟨o.toArray⟩ ∧ Hid (o = [27, 91] ++ mid x.zs k) ∧ o.length ≤ 24 * k + 2 ∧ Hid (Below w.heap.size w wr)) (fun _ iv _ => x.n - (intOf iv).toNat)
    case atStart => exact ⟨0, [27, 91], Nat.zero_le _, rfl, rfl, Lib.hid rfl, by simp, Lib.hid (Below.refl _ _)⟩
    case round =>
      obtain ⟨k, o, hk, rfl, rfl, ho, hol, HB⟩ := hrel
      obtain ⟨wo, rfl⟩ : ∃ wo : World, wo = wr := ⟨_, rfl⟩
      by_cases hlt : k < x.n
      · obtain ⟨b, oo, ha, hb, hc, hwf⟩ := HK.out.code hlt
        have hc2 : wo.cell? ⟨b, oo + k, none⟩ = _ := (HB.out.cell (p := ⟨b, oo + k, none⟩) (by show b < w.heap.size; omega)).trans hc
        have hz := wf_i64 hwf
        obtain ⟨m, hm⟩ : ∃ m : Int, x.zs.getD k 0 = m := ⟨_, rfl⟩
        rw [hm] at hz
        have him := Lib.itoa_length_le m hz.1 hz.2
        have HI := Lib.hid (Tryz.strconv_Itoa m hz.1 hz.2 wo (HT.out.stays HB.out))
        have hBs := HB.out.size
        have HN := Lib.hid (show [27, 91] ++ mid x.zs (k + 1) = o ++ (if k = 0 then [] else [59]) ++ Lib.itoa m by rw [mid, hm, ho.out]; simp)
        have hl2 := HM.out (k + 1) (by omega)
        have HL := Lib.hid (show ([27, 91] ++ mid x.zs (k + 1)).length ≤ 24 * (k + 1) + 2 by rw [List.length_append]; simp; omega)
        have hos := mk_size o
        have hqs := mk_size (Lib.itoa m)
        rw [hm] at hc2
        rw [ha]
        have hbm := hz
        clear hc hwf hz hm ho hl2
        generalize Lib.itoa m = q at *
        by_cases hk0 : k = 0
        · subst hk0
          have hc3 : wo.cell? ⟨b, oo, none⟩ = some (.int .i64 m) := hc2
          have HE1 := Lib.hid (show (⟨o.toArray⟩ : ByteArray) ++ ⟨q.toArray⟩ = ⟨([27, 91] ++ mid x.zs (0 + 1)).toArray⟩ by rw [app_mk, HN.out]; simp)
          clear hc2 HN
          go_wp2_with (go_at_call 22; refine halt_S ?_)
          refine resume_S ?_
          refine HI.out.mono ?_
          rintro e2 w1 ⟨rfl, kk, os, hw1⟩
          have HB1 := Lib.hid (show Below w.heap.size w w1 by rw [hw1]; exact HB.out.trans (Lib.below_grow _ _ hBs kk os))
          clear hw1 HI
          go_wp2_with fail
          go_roundw
          case rel => exact ⟨0 + 1, [27, 91] ++ mid x.zs (0 + 1), by omega, by go_num, by rw [← HE1.out], Lib.hid rfl, HL.out, HB1⟩
          case measure => simp [intOf]; omega
        · have gk : decide ((0 : Int) < (k : Int)) = true := decide_eq_true (by omega)
          have HE1 := Lib.hid (show (⟨o.toArray⟩ : ByteArray) ++ ⟨#[59]⟩ ++ ⟨q.toArray⟩ = ⟨([27, 91] ++ mid x.zs (k + 1)).toArray⟩ by rw [HN.out, if_neg hk0, ← app_mk, ← app_mk])
          clear HN
          go_wp2_with (go_at_call 22; refine halt_S ?_)
          refine resume_S ?_
          refine HI.out.mono ?_
          rintro e2 w1 ⟨rfl, kk, os, hw1⟩
          have HB1 := Lib.hid (show Below w.heap.size w w1 by rw [hw1]; exact HB.out.trans (Lib.below_grow _ _ hBs kk os))
          clear hw1 HI
          go_wp2_with fail
          go_roundw
          case rel => exact ⟨k + 1, [27, 91] ++ mid x.zs (k + 1), by omega, by go_num, by rw [← HE1.out], Lib.hid rfl, HL.out, HB1⟩
          case measure => simp [intOf]; omega
      · have hkn : k = x.n := by omega
        have HE1 := Lib.hid (show (⟨o.toArray⟩ : ByteArray) ++ ⟨#[109]⟩ = ⟨(seqOf x).toArray⟩ by rw [HE.out, ← hkn, ← ho.out, ← app_mk])
        have hos := mk_size o
        clear ho
        go_wp2_with fail
        go_ret
        exact ⟨by rw [← HE1.out]; rfl, HB.out⟩
set_option maxHeartbeats 1000000 in
set_option maxRecDepth 100000 in
theorem written_big (A : Option Addr) (n cap : Nat) (l : List Pc) (B : Nat) (w : World) (hB : B ≤ w.heap.size) (h : PcArg w B A n cap l) (hg : ∀ j, j < n → (pc l j).n ≤ 2097152 ∧ (pc l j).s.size ≤ 2097152) (hn40 : n ≤ 2097152) (hT : Pows w) : Calls Tryz.prog 5 #[.slice A n cap] w (StrRet (written l n) w) := by
  have HK := Lib.hid h
  have HT := Lib.hid hT
  have HG := Lib.hid hg
  have HO := Lib.hid (fun k (hk : k ≤ n) => written_len A n cap l w B h k hk hg)
  clear h hT hg
  go_enter Tryz.func5, Tryz.ntmps5
  go_wp2_with fail
  go_loopw [3, 8] (fun sv iv wr => ∃ (k : Nat) (o : List UInt8), k ≤ n ∧ iv = .int .i64 (k : Int) ∧ sv = .string ⟨o.toArray⟩ ∧ Hid (o = written l k) ∧ o.length ≤ 60000000 * k ∧ Hid (Below w.heap.size w wr)) (fun _ iv _ => n - (intOf iv).toNat)
  case atStart => exact ⟨0, [], Nat.zero_le _, rfl, rfl, Lib.hid rfl, Nat.le_refl _, Lib.hid (Below.refl _ _)⟩
  case round =>
    obtain ⟨k, o, hk, rfl, rfl, ho, hol, HB⟩ := hrel
    obtain ⟨wo, rfl⟩ : ∃ wo : World, wo = wr := ⟨_, rfl⟩
    by_cases hlt : k < n
    · obtain ⟨b, oo, rfl, hb, c1, c2, hok⟩ := HK.out.cell hlt
      have d1 : wo.cell? ⟨b, oo + k * 2, none⟩ = _ := (HB.out.cell (p := ⟨b, oo + k * 2, none⟩) (by show b < w.heap.size; omega)).trans c1
      have d2 : wo.cell? ⟨b, oo + k * 2 + 1, none⟩ = _ := (HB.out.cell (p := ⟨b, oo + k * 2 + 1, none⟩) (by show b < w.heap.size; omega)).trans c2
      have hgk := HG.out k hlt
      have hss := hgk.2
      have hql := seq_len hok hgk.1
      have HQ := Lib.hid (fun W (hb : Below w.heap.size w W) => seq_big (pc l k) w.heap.size W hb.size ⟨(hok.1.more hB).below hb, hok.2⟩ hgk.1 (HT.out.stays hb))
      have HN := Lib.hid (show written l (k + 1) = o ++ (seqOf (pc l k) ++ (pc l k).s.data.toList) by rw [written, ho.out])
      have HL := Lib.hid (HO.out (k + 1) (by omega))
      have hos := mk_size o
      have hqs := mk_size (seqOf (pc l k))
      have HE := Lib.hid (show (⟨o.toArray⟩ : ByteArray) ++ ((⟨(seqOf (pc l k)).toArray⟩ : ByteArray) ++ (pc l k).s) = ⟨(written l (k + 1)).toArray⟩ by
        rw [HN.out, ← app_mk, ← app_mk])
      have hBs := HB.out.size
      have HBa := Lib.hid (HB.out.alloc hBs (.cells #[.slice (pc l k).a (pc l k).n (pc l k).cap, .string (pc l k).s] 37))
      clear c1 c2 hok ho HN hgk
      generalize hx : pc l k = x at *
      generalize seqOf x = q at *
      clear hx
      go_wp2_with fail
      go_region_with ((go_at_call 11; refine (HQ.out _ (by first | exact HBa.out | exact HBa.out.drew)).mono ?_; rintro e2 w1 ⟨rfl, hb1⟩
                       have k0 := hb1.cell (p := ⟨wo.heap.size, 0, none⟩) (by simp)
                       have k1 := hb1.cell (p := ⟨wo.heap.size, 1, none⟩) (by simp)))
      all_goals
        have HB1 := Lib.hid (show Below w.heap.size w w1 by first | exact HBa.out.trans (hb1.mono HBa.out.size) | exact HBa.out.drew.trans (hb1.mono HBa.out.size))
        clear hb1
        go_wp2_with fail
        go_roundw
        case rel => exact ⟨k + 1, written l (k + 1), by omega, by go_num, by rw [← HE.out], Lib.hid rfl, HL.out, by first | exact HB1 | exact Lib.hid HB1.out.drew⟩
        case measure => simp [intOf]; omega
    · have hkn : k = n := by omega
      have HF := Lib.hid (show o = written l n by rw [← hkn]; exact ho.out)
      clear ho
      go_wp2_with fail
      go_ret
      exact ⟨by rw [← HF.out]; rfl, HB.out⟩
end Go.Proofs.YtimdmdjkkgdohaaGreatDoor
