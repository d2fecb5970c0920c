/- newDecimal, told. Numbers below 2^64. -/
import Derived.Test.YtilkcnoooecngaaGreatDoorBtF
namespace Go.Proofs.YtilkcnoooecngaaGreatDoor
open Go.RowKit
set_option linter.unusedVariables false
/-- All blocks below S but b stay. -/
structure Bex (S b : Nat) (w w' : World) : Prop where
  size : w.heap.size ≤ w'.heap.size
  block : ∀ k, k < S → k ≠ b → w'.heap[k]? = w.heap[k]?
theorem Bex.refl (S b : Nat) (w : World) : Bex S b w w := ⟨Nat.le_refl _, fun _ _ _ => rfl⟩
theorem Bex.alloc {S b : Nat} {a w : World} (h : Bex S b a w) (hS : S ≤ a.heap.size) (o : Obj) : Bex S b a (w.alloc o) :=
  ⟨Nat.le_trans h.size (by simp), fun k hk hb => (Below.heap_alloc w o k (by have := h.size; omega)).trans (h.block k hk hb)⟩
theorem Bex.grown {S b : Nat} {a w w' : World} {r : Option Nat} (h : Bex S b a w) (hS : S ≤ a.heap.size) (hg : w.grownBy w' r) (hr : ∀ k, r = some k → S ≤ k ∨ k = b) : Bex S b a w' :=
  ⟨Nat.le_trans h.size hg.size, fun k hk hb => (hg.block k (by have := h.size; omega) (fun e => by rcases hr k e.symm with h1 | h1 <;> omega)).trans (h.block k hk hb)⟩
theorem Bex.put {S b c : Nat} {a w w' : World} (h : Bex S b a w) (hS : S ≤ a.heap.size) (p : Put w w' c) (hc : c = b ∨ S ≤ c) : Bex S b a w' :=
  h.grown hS p.grown (fun k hk => by injection hk with hk; omega)
theorem BRow.bex {S b : Nat} {w w' : World} {g n : Nat} {l : List UInt8} (h : BRow w g n l) (hk : Bex S b w w') (hg : g < S) (hgb : g ≠ b) : BRow w' g n l := by
  obtain ⟨h1, cur, fz, h2, h3⟩ := h
  exact ⟨h1, cur, fz, (hk.block g hg hgb).trans h2, h3⟩
def NewDRet (n : Nat) (w : World) (e : Ending) (w' : World) : Prop :=
  ∃ (b : Nat) (v : Value), e = .returned (.pointer (some ⟨b, 0, none⟩)) ∧ Dec w' w.heap.size b v (trimD (decD n)) (if trimD (decD n) = [] then 0 else ((decD n).length : Int)) ∧ Below w.heap.size w w'
theorem Blk.ne_own {w : World} {B b n : Nat} {v : Value} {xs cs : List Value} {ds : Array Value} (h : Blk w b tD ds) (hr : w.ownsRow B tU 1 v n xs) : ¬ some b = v.ownBlock := fun e => by
  rcases hr.2 with ⟨rfl, _⟩ | ⟨g, cap, cur, rfl, _, hgb, _⟩
  · simp [Value.ownBlock] at e
  · simp [Value.ownBlock] at e
    subst e
    exact Blk.type_ne (t := tU) (u := tD) hgb h (by decide) rfl
set_option maxHeartbeats 2000000 in
set_option maxRecDepth 100000 in
theorem newD_any (n : Nat) (w : World) (hn : n ≤ 18446744073709551615) : Calls Tryz.prog 67 #[.int .u64 (n : Int)] w (NewDRet n w) := by
  obtain ⟨i0, hi0, hz0, hz1, hz2⟩ := info_parts infoU
  have hT := fun W => fmtU_any n W hn
  have hblk := Blk.new w tD #[.slice none 0 0, .int .i64 0]
  have HB0 := Lib.hid ((Below.refl w.heap.size w).alloc (Nat.le_refl _) (.cells #[.slice none 0 0, .int .i64 0] tD))
  have HBk := Lib.hid hblk
  clear hblk
  go_enter Tryz.func67, Tryz.ntmps67
  go_wp2_with (go_at_call 95; refine halt_H ?_)
  refine resume_H ?_
  refine (hT _).mono ?_
  rintro e w1 ⟨rfl, hB1⟩
  clear hT
  have HBk1 := Lib.hid (HBk.out.below hB1 HBk.out.lt)
  have HB1 := Lib.hid (HB0.out.trans (hB1.mono (by simp)))
  obtain ⟨l, hl⟩ : ∃ l, (decD n).map dg1 = l := ⟨_, rfl⟩
  have hlen : l.length ≤ 20 := by rw [← hl, List.length_map]; exact decD_len 19 n (by omega)
  have HL := Lib.hid hl
  unfold decB
  rw [hl]
  clear hl hB1
  have hcv := Lib.run_convert_string_bytes (P := Tryz.prog) w1 9 56 5 ⟨l.toArray⟩ Tryz.underlying9 Tryz.underlying56 Tryz.underlying5
  have hm := BRow.made w1 ⟨l.toArray⟩
  have hb0 := Go.Joins.below_bytesWorld w1.heap.size w1 5 ⟨l.toArray⟩ (Nat.le_refl _)
  rw [show (ByteArray.mk l.toArray).size = l.length from rfl] at hcv hm
  have HM := Lib.hid (show BRow (Lib.bytesWorld w1 5 ⟨l.toArray⟩) w1.heap.size l.length l from hm)
  have HBk2 := Lib.hid (HBk1.out.below hb0 HBk1.out.lt)
  have HB2 := Lib.hid (HB1.out.trans (hb0.mono (Nat.le_of_lt HBk1.out.lt)))
  have hsz : w1.heap.size < (Lib.bytesWorld w1 5 ⟨l.toArray⟩).heap.size := by
    obtain ⟨_, cur, fz, h2, _⟩ := hm
    exact (Array.getElem?_eq_some_iff.1 h2).1
  have hbw : w.heap.size < w1.heap.size := HBk1.out.lt
  clear hm hb0
  generalize Lib.bytesWorld w1 5 ⟨l.toArray⟩ = w2 at *
  generalize grownCap w1 l.length 0 5 = cap at *
  obtain ⟨m, hm⟩ : ∃ m, l.length = m := ⟨_, rfl⟩
  rw [hm] at hcv hlen
  have HMn := Lib.hid hm
  clear hm
  obtain ⟨g1, hg1⟩ : ∃ g, w1.heap.size = g := ⟨_, rfl⟩
  rw [hg1] at hcv HM hsz hbw
  clear hg1
  obtain ⟨S, hS⟩ : ∃ S, w2.heap.size = S := ⟨_, rfl⟩
  have HSS := Lib.hid hS
  have HSl := Lib.hid (Nat.le_of_eq hS.symm)
  rw [hS] at hsz
  clear hS
  go_wp2_with fail
  go_loopw [10] (fun iv wr => ∃ (k : Nat) (v : Value), iv = .int .i64 (k : Int) ∧ k ≤ m ∧ Hid (Blk wr w.heap.size tD #[v, .int .i64 0]) ∧ Hid (wr.ownsRow S tU 1 v k (((decD n).take k).map dc)) ∧ Hid (Bex S w.heap.size w2 wr) ∧ Hid (Below w.heap.size w wr)) (fun iv _ => m - (intOf iv).toNat)
  case atStart => exact ⟨0, .slice none 0 0, rfl, Nat.zero_le _, HBk2, Lib.hid (World.ownsRow_nil _ _ _ _), Lib.hid (Bex.refl _ _ _), HB2⟩
  case round =>
    obtain ⟨k, v, rfl, hk, HBr, HO, HX, HBw⟩ := hrel
    obtain ⟨wr, rfl⟩ : ∃ wz : World, wz = wr := ⟨_, rfl⟩
    obtain ⟨A, c0, rfl⟩ := own_slice HO.out
    have hc := HO.out.2
    have hcc : k ≤ c0 ∧ c0 ≤ 9223372036854775807 := by
      rcases hc with ⟨e, h0⟩ | ⟨g, cap', cur, e, _, _, h3, h4, _⟩
      · injection e with _ _ e3; omega
      · injection e with _ _ e3; subst e3; exact ⟨h3, h4⟩
    obtain ⟨hc1, hc2⟩ := hcc
    clear hc
    have hSw : S ≤ wr.heap.size := by rw [← HSS.out]; exact HX.out.size
    by_cases hlt : k < m
    · have hkl : k < l.length := by rw [HMn.out]; exact hlt
      have hrow := HM.out.bex HX.out hsz (by omega)
      have hcell := hrow.cell k hkl
      have hkd : k < (decD n).length := by have := hkl; rw [← HL.out, List.length_map] at this; exact this
      have hd10 : (decD n)[k] < 10 := decD_dig n _ (List.getElem_mem hkd)
      have hlk : l[k].toNat = (decD n)[k] + 48 := by
        have : l[k] = dg1 ((decD n)[k]) := by
          have h1 : l[k]? = some (dg1 ((decD n)[k])) := by rw [← HL.out, List.getElem?_map, List.getElem?_eq_getElem hkd]; rfl
          rw [List.getElem?_eq_getElem hkl] at h1
          exact Option.some.inj h1
        rw [this, dg1_nat hd10]
      rw [hlk] at hcell
      have HTk := Lib.hid (show (decD n).take (k + 1) = (decD n).take k ++ [(decD n)[k]] from (List.take_append_getElem hkd).symm)
      generalize (decD n)[k] = y at *
      have f0 : wr.cell? ⟨w.heap.size, 0, none⟩ = some (.slice A k c0) := HBr.out.cell 0 rfl
      clear hrow hlk hkl hkd
      go_wp2_with (at_builtin; refine halt_H ?_)
      refine resume_H ?_
      refine wpList_append_own _ rfl _ _ 56 rfl S 5 i0 (.int .u8 0) 1 1 Tryz.underlying56 hi0 hz0 hz1 hz2 rfl (by decide) _ k _ rfl (HO.out.alloc _) ⟨wr.heap.size, 0, none⟩ 1 1 [.int .u8 (y : Int)] rfl rfl (oneS_at (heap_alloc_new wr _)) (by simp [Value.oneCell']) (by unfold maxLen; omega) (by omega) (by simp; omega) ?_
      intro v' w3 hown1 hgrow _
      have HO1 := Lib.hid hown1
      have HX1 := Lib.hid ((HX.out.alloc HSl.out _).grown HSl.out hgrow (fun k hk => .inl (HO.out.lt k hk).1))
      have hSle : w.heap.size ≤ S := by omega
      have HBw1 := Lib.hid ((HBw.out.alloc HBw.out.size _).grown hgrow (by have := HBw.out.size; simp; omega) (fun k hk => by have := (HO.out.lt k hk).1; omega))
      have HBr1 := Lib.hid ((HBr.out.alloc _).grown hgrow (Blk.ne_own (cs := []) HBr.out HO.out))
      clear hown1 hgrow f0 hcell
      go_wp2_with ((with_reducible refine gate_st (t := 56) rfl ?_); refine halt_L ?_)
      refine resume_L ?_
      obtain ⟨A6, c6, rfl⟩ := own_slice HO1.out
      refine wpList_put HBr1.out (o := 0) (by simp) rfl rfl rfl infoB ?_
      intro w4 hb4 p4
      have HO4 := Lib.hid (HO1.out.kept p4.grown (.inr fun e => Blk.ne_own (cs := []) HBr1.out HO1.out e.symm))
      have HX4 := Lib.hid (HX1.out.put HSl.out p4 (.inl rfl))
      have HBw4 := Lib.hid (p4.below HBw1.out HBw1.out.size (Nat.le_refl _))
      have HBr4 := Lib.hid (show Blk w4 w.heap.size tD #[_, .int .i64 0] from hb4)
      clear hb4 p4
      go_wp2_with fail
      go_roundw
      case rel => exact ⟨k + 1, _, by go_num, by omega, HBr4, Lib.hid (by rw [HTk.out, List.map_append]; exact HO4.out), HX4, HBw4⟩
      case measure => simp [intOf]; omega
    · obtain rfl : k = m := by omega
      have HT := Lib.hid (show (decD n).take k = decD n from List.take_of_length_le (by have := HMn.out; rw [← HL.out, List.length_map] at this; omega))
      have HLn := Lib.hid (show (decD n).length = k by have := HMn.out; rw [← HL.out, List.length_map] at this; exact this)
      have f0 : wr.cell? ⟨w.heap.size, 0, none⟩ = some (.slice A k c0) := HBr.out.cell 0 rfl
      go_wp2_with ((with_reducible refine gate_st (t := 3) rfl ?_); refine halt_L ?_)
      refine resume_L ?_
      refine wpList_put HBr.out (o := 1) (v := .int .i64 (k : Int)) (by simp) rfl rfl rfl infoI ?_
      intro w2' hb2 p2
      have HD2 := Lib.hid (show Dec w2' w.heap.size w.heap.size (.slice A k c0) (decD n) (k : Int) from by
        have hO2 := HO.out.kept p2.grown (.inr fun e => Blk.ne_own (cs := []) HBr.out HO.out e.symm)
        rw [HT.out] at hO2
        exact ⟨hb2, by rw [HLn.out]; exact own_mono hO2 (by omega), Nat.le_refl _⟩)
      have HB2' := Lib.hid (p2.below HBw.out HBw.out.size (Nat.le_refl _))
      clear f0 hb2 p2
      have hT := trim_any w.heap.size w.heap.size _ (decD n) _ w2' HD2.out (by have := HLn.out; omega) (fun d hd => by have := decD_dig n d hd; omega)
      go_wp2_with (go_at_call 66; refine halt_H ?_)
      refine resume_H ?_
      refine hT.mono ?_
      rintro e w9 ⟨rfl, ⟨v3, hD3⟩, k3⟩
      clear hT
      have HD3 := Lib.hid hD3
      have HB3 := Lib.hid (HB2'.out.trans k3.below)
      clear hD3 k3
      go_wp2
      go_ret
      exact ⟨_, v3, rfl, by rw [HLn.out]; exact HD3.out, HB3.out⟩
end Go.Proofs.YtilkcnoooecngaaGreatDoor
