/- What pieces of text are, written: the walks of TxSequence and TxWritten at good pieces. Good pieces alone. -/
import Derived.Test.YtimdmdjkkgdohaaGreatDoorPsA
import Derived.Test.YtimdmdjkkgdohaaGreatDoorSjP
import Derived.Test.YtimdmdjkkgdohaaGreatDoorShelf
import Derived.Lib.AppendIntMem
import Derived.Lib.SmallJoins
import Derived.LoopN
import Derived.Deep.QuietTactic
import Derived.Deep.RegionWith
import Derived.Deep.DrawnRows
namespace Go.Proofs.YtimdmdjkkgdohaaGreatDoor
open Go.RowKit
set_option linter.unusedVariables false
abbrev Pows (w : World) : Prop := Lib.TabIs Tryz.prog w "internal/strconv.uint64pow10" .u64 Lib.pow10Tab
theorem gPows : Tryz.prog.globalNamed "internal/strconv.uint64pow10" = some 1 := by kernel_rfl
theorem Pows.stays {w w' : World} (h : Pows w) (hb : Below w.heap.size w w') : Pows w' := Go.Joins.tab_stays gPows h hb (Nat.le_refl _)
def mid (zs : List Int) : Nat → List UInt8
  | 0 => []
  | k + 1 => mid zs k ++ (if k = 0 then [] else [59]) ++ Lib.itoa (zs.getD k 0)
def seqOf (x : Pc) : List UInt8 := if x.n = 0 then [] else 27 :: (91 :: mid x.zs x.n) ++ [109]
theorem mid_ok (zs : List Int) : ∀ n, (∀ i, i < n → 0 ≤ zs.getD i 0 ∧ zs.getD i 0 ≤ 107) → Mid (mid zs n) ∧ (mid zs n).length ≤ 4 * n
  | 0, _ => ⟨(fun c hc => by cases hc), by simp [mid]⟩
  | n + 1, h => by
    obtain ⟨h1, h2⟩ := mid_ok zs n (fun i hi => h i (by omega))
    have hz := h n (by omega)
    obtain ⟨m, hm⟩ : ∃ m : Nat, zs.getD n 0 = m := ⟨(zs.getD n 0).toNat, by omega⟩
    obtain ⟨h3, h4⟩ := itoa_mid m (by omega)
    rw [mid, hm]
    refine ⟨(h1.app ?_).app h3, ?_⟩
    · split
      · intro c hc; cases hc
      · intro c hc; simp at hc; subst hc; decide
    · rw [List.length_append, List.length_append]
      have : (if n = 0 then ([] : List UInt8) else [59]).length ≤ 1 := by split <;> simp
      omega
theorem seq_ok {x : Pc} (h : GoodP x) : OkS (seqOf x) ∧ (seqOf x).length ≤ 30 := by
  unfold seqOf
  obtain ⟨h1, h2⟩ := mid_ok x.zs x.n h.2.2.2
  have h4 := h.2.2.1
  split
  · exact ⟨OkS.nil, by simp⟩
  · refine ⟨OkS.seq (X := 91 :: mid x.zs x.n) (fun c hc => ?_), by simp; omega⟩
    rcases List.mem_cons.1 hc with rfl | hc
    · decide
    · exact h1 c hc
theorem app_mk (a b : List UInt8) : (⟨a.toArray⟩ : ByteArray) ++ ⟨b.toArray⟩ = ⟨(a ++ b).toArray⟩ := by
  apply bytes_ext; simp
theorem mk_size (l : List UInt8) : (⟨l.toArray⟩ : ByteArray).size = l.length := by simp [ByteArray.size]
def StrRet (q : List UInt8) (w : World) (e : Ending) (w' : World) : Prop := e = .returned (.string ⟨q.toArray⟩) ∧ Below w.heap.size w w'
set_option maxHeartbeats 1000000 in
set_option maxRecDepth 100000 in
theorem seq_any (x : Pc) (B : Nat) (w : World) (hB : B ≤ w.heap.size) (h : PcOk w B x) (hg : GoodP x) (hT : Pows w) : Calls Tryz.prog 11 #[.slice x.a x.n x.cap] w (StrRet (seqOf x) w) := by
  have HK := Lib.hid h
  have HT := Lib.hid hT
  have HM := Lib.hid (fun k (hk : k ≤ x.n) => mid_ok x.zs k (fun i hi => hg.2.2.2 i (by omega)))
  have HG := Lib.hid hg.2.2.2
  have h4 := hg.2.2.1
  have hcl := h.2.1
  clear h hT hg
  by_cases h0 : x.n = 0
  · have e : seqOf x = [] := by unfold seqOf; rw [if_pos h0]
    rw [e, h0]
    go_enter Tryz.func11, Tryz.ntmps11
    go_wp2_with fail
    go_ret
    exact ⟨rfl, Below.refl _ _⟩
  · have HE := Lib.hid (show seqOf x = [27, 91] ++ mid x.zs x.n ++ [109] by unfold seqOf; rw [if_neg h0]; simp)
    have e0 : ((x.n : Int) == 0) = false := by rw [beq_eq_false_iff_ne]; omega
    go_enter Tryz.func11, Tryz.ntmps11
    go_wp2_with fail
    clear e0
    go_loopw [3, 11] (fun sv iv wr => ∃ (k : Nat) (o : List UInt8), k ≤ x.n ∧ iv = .int .i64 (k : Int) ∧ sv = .string ⟨o.toArray⟩ ∧ Hid (o = [27, 91] ++ mid x.zs k) ∧ o.length ≤ 20 ∧ Hid (Below w.heap.size w wr)) (fun _ iv _ => x.n - (intOf iv).toNat)
    case atStart => exact ⟨0, [27, 91], Nat.zero_le _, rfl, rfl, Lib.hid rfl, by simp, Lib.hid (Below.refl _ _)⟩
    case round =>
      obtain ⟨k, o, hk, rfl, rfl, ho, hol, HB⟩ := hrel
      obtain ⟨wo, rfl⟩ : ∃ wo : World, wo = wr := ⟨_, rfl⟩
      by_cases hlt : k < x.n
      · obtain ⟨b, oo, ha, hb, hc, hwf⟩ := HK.out.code hlt
        have hc2 : wo.cell? ⟨b, oo + k, none⟩ = _ := (HB.out.cell (p := ⟨b, oo + k, none⟩) (by show b < w.heap.size; omega)).trans hc
        have hz := HG.out k hlt
        obtain ⟨m, hm⟩ : ∃ m : Nat, x.zs.getD k 0 = m := ⟨(x.zs.getD k 0).toNat, by omega⟩
        have him := (itoa_mid m (by omega)).2
        have HI := Lib.hid (Tryz.strconv_Itoa (m : Int) (by omega) (by omega) wo (HT.out.stays HB.out))
        have hBs := HB.out.size
        have HN := Lib.hid (show [27, 91] ++ mid x.zs (k + 1) = o ++ (if k = 0 then [] else [59]) ++ Lib.itoa (m : Int) by rw [mid, hm, ho.out]; simp)
        have hl2 := (HM.out (k + 1) (by omega)).2
        have HL := Lib.hid (show ([27, 91] ++ mid x.zs (k + 1)).length ≤ 20 by rw [List.length_append]; simp; omega)
        have hos := mk_size o
        have hqs := mk_size (Lib.itoa (m : Int))
        rw [hm] at hc2
        rw [ha]
        have hbm : (0 : Int) ≤ (m : Int) ∧ (m : Int) ≤ 107 := by omega
        clear hc hwf hz hm ho hl2
        generalize Lib.itoa (m : Int) = q at *
        generalize (m : Int) = mz at *
        by_cases hk0 : k = 0
        · subst hk0
          have hc3 : wo.cell? ⟨b, oo, none⟩ = some (.int .i64 mz) := hc2
          have HE1 := Lib.hid (show (⟨o.toArray⟩ : ByteArray) ++ ⟨q.toArray⟩ = ⟨([27, 91] ++ mid x.zs (0 + 1)).toArray⟩ by rw [app_mk, HN.out]; simp)
          clear hc2 HN
          go_wp2_with (go_at_call 22; refine halt_S ?_)
          refine resume_S ?_
          refine HI.out.mono ?_
          rintro e2 w1 ⟨rfl, kk, os, hw1⟩
          have HB1 := Lib.hid (show Below w.heap.size w w1 by rw [hw1]; exact HB.out.trans (Lib.below_grow _ _ hBs kk os))
          clear hw1 HI
          go_wp2_with fail
          go_roundw
          case rel => exact ⟨0 + 1, [27, 91] ++ mid x.zs (0 + 1), by omega, by go_num, by rw [← HE1.out], Lib.hid rfl, HL.out, HB1⟩
          case measure => simp [intOf]; omega
        · have gk : decide ((0 : Int) < (k : Int)) = true := decide_eq_true (by omega)
          have HE1 := Lib.hid (show (⟨o.toArray⟩ : ByteArray) ++ ⟨#[59]⟩ ++ ⟨q.toArray⟩ = ⟨([27, 91] ++ mid x.zs (k + 1)).toArray⟩ by rw [HN.out, if_neg hk0, ← app_mk, ← app_mk])
          clear HN
          go_wp2_with (go_at_call 22; refine halt_S ?_)
          refine resume_S ?_
          refine HI.out.mono ?_
          rintro e2 w1 ⟨rfl, kk, os, hw1⟩
          have HB1 := Lib.hid (show Below w.heap.size w w1 by rw [hw1]; exact HB.out.trans (Lib.below_grow _ _ hBs kk os))
          clear hw1 HI
          go_wp2_with fail
          go_roundw
          case rel => exact ⟨k + 1, [27, 91] ++ mid x.zs (k + 1), by omega, by go_num, by rw [← HE1.out], Lib.hid rfl, HL.out, HB1⟩
          case measure => simp [intOf]; omega
      · have hkn : k = x.n := by omega
        have HE1 := Lib.hid (show (⟨o.toArray⟩ : ByteArray) ++ ⟨#[109]⟩ = ⟨(seqOf x).toArray⟩ by rw [HE.out, ← hkn, ← ho.out, ← app_mk])
        have hos := mk_size o
        clear ho
        go_wp2_with fail
        go_ret
        exact ⟨by rw [← HE1.out]; rfl, HB.out⟩
def written (l : List Pc) : Nat → List UInt8
  | 0 => []
  | k + 1 => written l k ++ (seqOf (pc l k) ++ (pc l k).s.data.toList)
theorem written_ok (l : List Pc) : ∀ n, GoodTo l n → OkS (written l n) ∧ (written l n).length ≤ 530 * n
  | 0, _ => ⟨OkS.nil, by simp [written]⟩
  | n + 1, h => by
    obtain ⟨h1, h2⟩ := written_ok l n (fun j hj => h j (by omega))
    have hg := h n (by omega)
    obtain ⟨h3, h4⟩ := seq_ok hg
    have h5 := hg.1
    rw [Lib.size_eq] at h5
    refine ⟨h1.app (h3.app (OkS.text hg.2.1)), ?_⟩
    rw [written, List.length_append, List.length_append]; omega
set_option maxHeartbeats 1000000 in
set_option maxRecDepth 100000 in
theorem written_any (A : Option Addr) (n cap : Nat) (l : List Pc) (B : Nat) (w : World) (hB : B ≤ w.heap.size) (h : PcArg w B A n cap l) (hg : GoodTo l n) (hn40 : n ≤ 40) (hT : Pows w) : Calls Tryz.prog 5 #[.slice A n cap] w (StrRet (written l n) w) := by
  have HK := Lib.hid h
  have HT := Lib.hid hT
  have HG := Lib.hid hg
  have HO := Lib.hid (fun k (hk : k ≤ n) => (written_ok l k (fun j hj => hg j (by omega))).2)
  clear h hT hg
  go_enter Tryz.func5, Tryz.ntmps5
  go_wp2_with fail
  go_loopw [3, 8] (fun sv iv wr => ∃ (k : Nat) (o : List UInt8), k ≤ n ∧ iv = .int .i64 (k : Int) ∧ sv = .string ⟨o.toArray⟩ ∧ Hid (o = written l k) ∧ o.length ≤ 530 * k ∧ Hid (Below w.heap.size w wr)) (fun _ iv _ => n - (intOf iv).toNat)
  case atStart => exact ⟨0, [], Nat.zero_le _, rfl, rfl, Lib.hid rfl, Nat.le_refl _, Lib.hid (Below.refl _ _)⟩
  case round =>
    obtain ⟨k, o, hk, rfl, rfl, ho, hol, HB⟩ := hrel
    obtain ⟨wo, rfl⟩ : ∃ wo : World, wo = wr := ⟨_, rfl⟩
    by_cases hlt : k < n
    · obtain ⟨b, oo, rfl, hb, c1, c2, hok⟩ := HK.out.cell hlt
      have d1 : wo.cell? ⟨b, oo + k * 2, none⟩ = _ := (HB.out.cell (p := ⟨b, oo + k * 2, none⟩) (by show b < w.heap.size; omega)).trans c1
      have d2 : wo.cell? ⟨b, oo + k * 2 + 1, none⟩ = _ := (HB.out.cell (p := ⟨b, oo + k * 2 + 1, none⟩) (by show b < w.heap.size; omega)).trans c2
      have hgk := HG.out k hlt
      have hss := hgk.1
      have hql := (seq_ok hgk).2
      have HQ := Lib.hid (fun W (hb : Below w.heap.size w W) => seq_any (pc l k) w.heap.size W hb.size ⟨(hok.1.more hB).below hb, hok.2⟩ hgk (HT.out.stays hb))
      have HN := Lib.hid (show written l (k + 1) = o ++ (seqOf (pc l k) ++ (pc l k).s.data.toList) by rw [written, ho.out])
      have HL := Lib.hid (HO.out (k + 1) (by omega))
      have hos := mk_size o
      have hqs := mk_size (seqOf (pc l k))
      have HE := Lib.hid (show (⟨o.toArray⟩ : ByteArray) ++ ((⟨(seqOf (pc l k)).toArray⟩ : ByteArray) ++ (pc l k).s) = ⟨(written l (k + 1)).toArray⟩ by
        rw [HN.out, ← app_mk, ← app_mk])
      have hBs := HB.out.size
      have HBa := Lib.hid (HB.out.alloc hBs (.cells #[.slice (pc l k).a (pc l k).n (pc l k).cap, .string (pc l k).s] 37))
      clear c1 c2 hok ho HN hgk
      generalize hx : pc l k = x at *
      generalize seqOf x = q at *
      clear hx
      go_wp2_with fail
      go_region_with ((go_at_call 11; refine (HQ.out _ (by first | exact HBa.out | exact HBa.out.drew)).mono ?_; rintro e2 w1 ⟨rfl, hb1⟩
                       have k0 := hb1.cell (p := ⟨wo.heap.size, 0, none⟩) (by simp)
                       have k1 := hb1.cell (p := ⟨wo.heap.size, 1, none⟩) (by simp)))
      all_goals
        have HB1 := Lib.hid (show Below w.heap.size w w1 by first | exact HBa.out.trans (hb1.mono HBa.out.size) | exact HBa.out.drew.trans (hb1.mono HBa.out.size))
        clear hb1
        go_wp2_with fail
        go_roundw
        case rel => exact ⟨k + 1, written l (k + 1), by omega, by go_num, by rw [← HE.out], Lib.hid rfl, HL.out, by first | exact HB1 | exact Lib.hid HB1.out.drew⟩
        case measure => simp [intOf]; omega
    · have hkn : k = n := by omega
      have HF := Lib.hid (show o = written l n by rw [← hkn]; exact ho.out)
      clear ho
      go_wp2_with fail
      go_ret
      exact ⟨by rw [← HF.out]; rfl, HB.out⟩
end Go.Proofs.YtimdmdjkkgdohaaGreatDoor
