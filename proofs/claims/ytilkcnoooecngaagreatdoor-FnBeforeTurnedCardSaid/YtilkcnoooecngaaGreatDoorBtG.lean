/- double: a decimal doubled. No conditions but a length below 100000000. -/
import Derived.Test.YtilkcnoooecngaaGreatDoorBtE
namespace Go.Proofs.YtilkcnoooecngaaGreatDoor
open Go.RowKit
set_option linter.unusedVariables false
theorem own_some {w : World} {B e size n : Nat} {v : Value} {xs : List Value} (h : w.ownsRow B e size v n xs) (hn : 0 < n) : ∃ g cap, v = .slice (some ⟨g, 0, none⟩) n cap ∧ B ≤ g ∧ g < w.heap.size ∧ n ≤ cap ∧ cap ≤ maxLen ∧ ∀ k, w.frozen? ⟨g, k, none⟩ = false := by
  rcases h.2 with ⟨_, h0⟩ | ⟨g, cap, cur, hv, hBg, hg, h3, h4, _⟩
  · omega
  · exact ⟨g, cap, hv, hBg, (Array.getElem?_eq_some_iff.1 hg).1, h3, h4, fun k => by simp [World.frozen?, hg]⟩
theorem own_at {w : World} {B n g cap : Nat} {xs : List Nat} (h : w.ownsRow B tU 1 (.slice (some ⟨g, 0, none⟩) n cap) n (xs.map dc)) {j d : Nat} (hd : xs[j]? = some d) : w.cell? ⟨g, j, none⟩ = some (.int .u8 (d : Int)) := by
  have := h.cells (g := g) rfl j (dc d) (by rw [List.getElem?_map, hd]; rfl)
  rwa [Addr.add_lit, Nat.zero_add] at this
theorem own_set {w : World} {B e n g cap k : Nat} {xs : List Value} (h : w.ownsRow B e 1 (.slice (some ⟨g, 0, none⟩) n cap) n xs) (hk : k < n) (u : Value) : (w.setCell ⟨g, k, none⟩ u).ownsRow B e 1 (.slice (some ⟨g, 0, none⟩) n cap) n (xs.set k u) := by
  obtain ⟨h1, h2⟩ := h
  refine ⟨by rw [List.length_set]; exact h1, ?_⟩
  rcases h2 with ⟨h2, _⟩ | ⟨g', cap', cur, hv, hg, hh, hn, hc, hs, ht⟩
  · cases h2
  · cases hv
    refine .inr ⟨g, cap, cur.setIfInBounds k u, rfl, hg, heap_setCell_same w g k cur e u hh, hn, hc, by simpa using hs, ?_⟩
    rw [← ht, Array.toList_setIfInBounds, List.take_set]
/-- The first i and the last i digits have changed places. -/
structure Rev (o xs : List Nat) (i : Nat) : Prop where
  len : xs.length = o.length
  at_ : ∀ q, q < o.length → xs[q]? = o[if q < i ∨ o.length - 1 - i < q then o.length - 1 - q else q]?
theorem Rev.start (o : List Nat) : Rev o o 0 := ⟨rfl, fun q hq => by rw [if_neg (by omega)]⟩
theorem Rev.fin {o xs : List Nat} {i : Nat} (h : Rev o xs i) (hi : o.length - 1 - i ≤ i) (hi2 : i ≤ o.length) : xs = o.reverse := by
  refine List.ext_getElem? fun q => ?_
  by_cases hq : q < o.length
  · rw [h.at_ q hq, List.getElem?_reverse hq]
    by_cases hc : q < i ∨ o.length - 1 - i < q
    · rw [if_pos hc]
    · rw [if_neg hc]
      congr 1; omega
  · rw [List.getElem?_eq_none (by rw [h.len]; omega), List.getElem?_eq_none (by simp; omega)]
theorem Rev.step {o xs : List Nat} {i x y : Nat} (h : Rev o xs i) (hi : i < o.length - 1 - i) (hx : xs[i]? = some x) (hy : xs[o.length - 1 - i]? = some y) :
    Rev o ((xs.set i y).set (o.length - 1 - i) x) (i + 1) := by
  refine ⟨by simp [h.len], fun q hq => ?_⟩
  have hlen := h.len
  rw [List.getElem?_set, List.getElem?_set]
  have hxi := h.at_ i (by omega)
  have hyi := h.at_ (o.length - 1 - i) (by omega)
  rw [hx, if_neg (by omega)] at hxi
  rw [hy, if_neg (by omega)] at hyi
  by_cases h1 : o.length - 1 - i = q
  · subst h1
    rw [if_pos rfl, if_pos (by simp; omega), if_pos (by omega), show o.length - 1 - (o.length - 1 - i) = i by omega, ← hxi]
  · rw [if_neg h1]
    by_cases h2 : i = q
    · subst h2
      rw [if_pos rfl, if_pos (by omega), if_pos (by omega), ← hyi]
    · rw [if_neg h2, h.at_ q hq]
      by_cases hc : q < i ∨ o.length - 1 - i < q
      · rw [if_pos hc, if_pos (by omega)]
      · rw [if_neg hc, if_neg (by omega)]
theorem own_put {w w' : World} {B b n : Nat} {v : Value} {xs : List Value} {cs : Array Value} (hb : Blk w b tD cs) (hr : w.ownsRow B tU 1 v n xs) (hp : Put w w' b) : w'.ownsRow B tU 1 v n xs := by
  refine hr.kept hp.grown ?_
  by_cases hn : v.ownBlock = none
  · exact .inl hn
  · refine .inr fun e => ?_
    rcases hr.2 with ⟨rfl, _⟩ | ⟨g, cap, cur, rfl, _, hgb, _⟩
    · simp [Value.ownBlock] at e
    · simp [Value.ownBlock] at e
      subst e
      exact Blk.type_ne (t := tU) (u := tD) hgb hb (by decide) rfl
theorem own_fr {w : World} {B e size n g cap : Nat} {xs : List Value} (h : w.ownsRow B e size (.slice (some ⟨g, 0, none⟩) n cap) n xs) : ∀ k, w.frozen? ⟨g, k, none⟩ = false := by
  rcases h.2 with ⟨h2, _⟩ | ⟨g', cap', cur, hv, hBg, hg, _⟩
  · cases h2
  · cases hv
    intro k
    simp [World.frozen?, hg]
theorem set_dc (xs : List Nat) (i d : Nat) : (xs.map dc).set i (.int .u8 (d : Int)) = (xs.set i d).map dc := by rw [List.map_set]; rfl
def DoubleRet (B b k : Nat) (ds : List Nat) (dp : Int) (w : World) (e : Ending) (w' : World) : Prop :=
  e = .returned (.tuple #[]) ∧ (∃ (v' : Value) (r : List Nat) (i : Nat), Dbld ds (2 ^ k) r i ∧ Dec w' B b v' (trimD r) (dp + (i : Int))) ∧ Fm B w w'
set_option maxHeartbeats 2000000 in
set_option maxRecDepth 100000 in
theorem double_any (B b k : Nat) (v : Value) (ds : List Nat) (dp : Int) (w : World) (h : Dec w B b v ds dp) (hg : Good ds) (hl : ds.length ≤ 100000000) (hk1 : 1 ≤ k) (hk2 : k ≤ 59) (hdp : -1000000 ≤ dp ∧ dp ≤ 1000000) :
    Calls Tryz.prog 71 #[.pointer (some ⟨b, 0, none⟩), .int .i64 (k : Int)] w (DoubleRet B b k ds dp w) := by
  obtain ⟨i0, hi0, hz0, hz1, hz2⟩ := info_parts infoU
  obtain ⟨A, cap, rfl, hc1, hc2, hgA⟩ := h.form
  obtain ⟨g, rfl, hBg, hgs, hgb, hc⟩ := hgA (by obtain ⟨_, d, t, rfl, _⟩ := hg; simp)
  have hM : cap ≤ 9223372036854775807 := hc2
  obtain ⟨L, hL⟩ : ∃ L, ds.length = L := ⟨_, rfl⟩
  rw [hL] at h hc1 hl
  have HL := Lib.hid hL
  have HD := Lib.hid h
  have HG := Lib.hid hg
  obtain ⟨p, hp⟩ : ∃ p, 2 ^ k = p := ⟨_, rfl⟩
  have hpI : (2 : Int) ^ k = (p : Int) := by subst hp; simp
  have HP := Lib.hid hp
  have hp1 : 1 ≤ p := by subst hp; exact Nat.two_pow_pos k
  have hp2 : p ≤ 576460752303423488 := by
    subst hp
    exact Nat.pow_le_pow_right (n := 2) (by decide) hk2
  have HP18 := Lib.hid (show p ≤ 10 ^ 18 by omega)
  have hkI : (k : Int) ≤ 59 := by omega
  have hL1 : 1 ≤ L := by
    obtain ⟨_, d, t, rfl, _⟩ := hg
    simp at hL; omega
  have f0 : w.cell? ⟨b, 0, none⟩ = some (.slice (some ⟨g, 0, none⟩) L cap) := HD.out.blk.cell 0 rfl
  clear h hg hc hc2 hL hp hBg hgs hgb hgA
  go_enter Tryz.func71, Tryz.ntmps71
  go_wp2_with fail
  go_loopw [4, 5, 6] (fun nv ov iv wr => ∃ (m : Nat) (o : List Nat) (z : Int), nv = .int .u64 (m : Int) ∧ iv = .int .i64 z ∧ z = (L : Int) - 1 - (o.length : Int) ∧ m < p ∧ Hid (Dbl ds p o m) ∧ o.length ≤ L + 18 ∧ wr.ownsRow w.heap.size tU 1 ov o.length (o.map dc) ∧ Hid (Below w.heap.size w wr)) (fun _ _ iv _ => (intOf iv + 21).toNat)
  case atStart => exact ⟨0, [], (L : Int) - 1, rfl, rfl, by simp, by omega, Lib.hid (Dbl.start ds p hp1 HG.out), by simp, World.ownsRow_nil _ _ _ _, Lib.hid (Below.refl _ _)⟩
  case round =>
    obtain ⟨m, o, z, rfl, rfl, hz, hm, HH, ho, hown, HB⟩ := hrel
    obtain ⟨w2, rfl⟩ : ∃ w2 : World, w2 = wr := ⟨_, rfl⟩
    have hBs := HB.out.size
    have HD2 := Lib.hid (HD.out.frame HB.out (Nat.le_refl _))
    clear f0
    have f0 : w2.cell? ⟨b, 0, none⟩ = some (.slice (some ⟨g, 0, none⟩) L cap) := HD2.out.blk.cell 0 rfl
    by_cases hjL : o.length < L
    · obtain ⟨r, rfl⟩ : ∃ r : Nat, z = r := ⟨z.toNat, by omega⟩
      have hrL : r < L := by omega
      have hr : r = L - 1 - o.length := by omega
      obtain ⟨x, hx⟩ : ∃ x, ds[L - 1 - o.length]'(by have := HL.out; omega) = x := ⟨_, rfl⟩
      have hx10 : x < 10 := hx ▸ HG.out.1 _ (List.getElem_mem _)
      have f1 : w2.cell? ⟨g, r, none⟩ = some (.int .u8 (x : Nat)) := HD2.out.cellg r x (by rw [hr, ← hx]; exact List.getElem?_eq_getElem _)
      obtain ⟨y, hy⟩ : ∃ y, x * p = y := ⟨_, rfl⟩
      have hyI : (x : Int) * (p : Int) = (y : Int) := by rw [← hy]; simp
      have hy9 : y ≤ 9 * p := hy ▸ Nat.mul_le_mul_right _ (by omega)
      obtain ⟨N, hN⟩ : ∃ N, m + y = N := ⟨_, rfl⟩
      have hNI : (m : Int) + (y : Int) = (N : Int) := by omega
      have hN10 : N < 10 * p := by omega
      have hS := HH.out.step_in hp1 HG.out (by rw [HL.out]; exact hjL)
      simp only [HL.out, hx, hy, hN] at hS
      have HS := Lib.hid hS
      have HN := Lib.hid hN
      have Hz := Lib.hid hz
      clear hN hx hy hz hr
      obtain ⟨q, hq⟩ : ∃ q, N % 10 = q := ⟨_, rfl⟩
      have hqI : (N : Int) % 10 = (q : Int) := by omega
      have hq10 : q < 10 := by omega
      obtain ⟨c, hcq⟩ : ∃ c, N / 10 = c := ⟨_, rfl⟩
      have hcI : (N : Int) / 10 = (c : Int) := by omega
      have hcp : c < p := by omega
      rw [hq, hcq] at hS
      have HS := Lib.hid hS
      clear hS hq hcq
      go_wp2_with (at_builtin; refine halt_H ?_)
      refine resume_H ?_
      refine wpList_append_own _ rfl _ _ 56 rfl w.heap.size 5 i0 (.int .u8 0) 1 1 Tryz.underlying56 hi0 hz0 hz1 hz2 rfl (by decide) _ o.length _ rfl (hown.alloc _) ⟨w2.heap.size, 0, none⟩ 1 1 [.int .u8 (q : Int)] rfl rfl (oneS_at (heap_alloc_new w2 _)) (by simp [Value.oneCell']) (by unfold maxLen; omega) (by omega) (by simp; omega) ?_
      intro v' w3 hown1 hgrow _
      have HB1 := Lib.hid ((HB.out.alloc hBs _).grown hgrow (by simp; omega) (fun k hk => (hown.lt k hk).1))
      clear hown hgrow f0 f1
      go_wp2_with fail
      go_roundw
      case rel => exact ⟨c, o ++ [q], (r : Int) - 1, by go_num, by go_num, by have := Hz.out; simp; omega, hcp, HS, by simp; omega, by rw [List.map_append, List.length_append]; exact hown1, HB1⟩
      case measure => simp [intOf]; omega
    · have hz0' : z < 0 := by omega
      by_cases hm0 : 0 < m
      · have hfew := HH.out.few HG.out HP18.out (by rw [HL.out]; omega) hm0
        rw [HL.out] at hfew
        have hS := HH.out.step_out (by rw [HL.out]; omega) hm0
        have g0 : decide ((m : Int) > 0) = true := decide_eq_true (by omega)
        obtain ⟨q, hq⟩ : ∃ q, m % 10 = q := ⟨_, rfl⟩
        have hqI : (m : Int) % 10 = (q : Int) := by omega
        have hq10 : q < 10 := by omega
        obtain ⟨c, hcq⟩ : ∃ c, m / 10 = c := ⟨_, rfl⟩
        have hcI : (m : Int) / 10 = (c : Int) := by omega
        have hcp : c < p := by omega
        rw [hq, hcq] at hS
        have HS := Lib.hid hS
        have Hz := Lib.hid hz
        have hz20 : -20 ≤ z := by omega
        clear hS hq hcq hz
        go_wp2_with (at_builtin; refine halt_H ?_)
        refine resume_H ?_
        refine wpList_append_own _ rfl _ _ 56 rfl w.heap.size 5 i0 (.int .u8 0) 1 1 Tryz.underlying56 hi0 hz0 hz1 hz2 rfl (by decide) _ o.length _ rfl (hown.alloc _) ⟨w2.heap.size, 0, none⟩ 1 1 [.int .u8 (q : Int)] rfl rfl (oneS_at (heap_alloc_new w2 _)) (by simp [Value.oneCell']) (by unfold maxLen; omega) (by omega) (by simp; omega) ?_
        intro v' w3 hown1 hgrow _
        have HB1 := Lib.hid ((HB.out.alloc hBs _).grown hgrow (by simp; omega) (fun k hk => (hown.lt k hk).1))
        clear hown hgrow f0
        go_wp2_with fail
        go_roundw
        case rel => exact ⟨c, o ++ [q], z - 1, by go_num, by go_num, by have := Hz.out; simp; omega, hcp, HS, by simp; omega, by rw [List.map_append, List.length_append]; exact hown1, HB1⟩
        case measure => simp [intOf]; omega
      · obtain rfl : m = 0 := by omega
        have hF := Dbl.fin HH.out HG.out HP18.out (by rw [HL.out]; omega) (by rw [HL.out]; exact ho)
        rw [HL.out] at hF
        have HFin := Lib.hid hF
        obtain ⟨M, hMo⟩ : ∃ M, o.length = M := ⟨_, rfl⟩
        have HMo := Lib.hid hMo
        rw [hMo] at ho hjL
        rw [hMo] at HFin hown
        obtain ⟨g6, c6, rfl, hg6, hg6s, hc6, hc6m, hg6f⟩ := own_some hown (by omega)
        have hc6M : c6 ≤ 9223372036854775807 := hc6m
        obtain ⟨E, hE⟩ : ∃ E, M = L + E := ⟨M - L, by omega⟩
        have eI : (M : Int) - (L : Int) = (E : Int) := by omega
        have hzf : decide (0 ≤ z) = false := decide_eq_false (by omega)
        have f2 : w2.cell? ⟨b, 1, none⟩ = some (.int .i64 dp) := HD2.out.blk.cell 1 rfl
        have f3 : w2.frozen? ⟨b, 1, none⟩ = false := HD2.out.blk.frozen 1
        have HO := Lib.hid hown
        have H6 := Lib.hid (And.intro hg6 hg6f)
        have hE18 : E ≤ 18 := by omega
        have hML : L ≤ M := by omega
        have hM2 : M ≤ 100000018 := by omega
        have HE := Lib.hid hE
        clear hF hown hz hMo hE hg6 hg6s hg6f hc6m
        go_wp2_with fail
        go_region
        have p4 := put_drew w2 b 1 (.int .i64 (dp + (E : Int)))
        have hb4 := HD2.out.blk.setd 1 (.int .i64 (dp + (E : Int)))
        have HW4 := Lib.hid (And.intro p4 hb4)
        generalize hw4 : World.drew _ = w4 at HW4 ⊢
        clear hw4 p4 hb4 f0 f2 f3
        have HB4 := Lib.hid (show Blk w4 b tD #[.slice (some ⟨g, 0, none⟩) L cap, .int .i64 (dp + (E : Int))] from HW4.out.2)
        have HR4 := Lib.hid (own_put HD2.out.blk HO.out HW4.out.1)
        have HK4 := Lib.hid (((Fm.refl B w).belowS HB.out HD.out.lt).put HD2.out.blk HD2.out.lt HD2.out.Bb HW4.out.1)
        have HS4 := Lib.hid (show w.heap.size ≤ w4.heap.size by have := HW4.out.1.size; omega)
        go_wp2_with fail
        go_loopw [7, 8] (fun iv jv wr => ∃ (i : Nat) (y : Int) (xs : List Nat), iv = .int .i64 (i : Int) ∧ jv = .int .i64 y ∧ y = (M : Int) - 1 - (i : Int) ∧ i ≤ M ∧ Hid (Rev o xs i) ∧ Hid (wr.ownsRow w.heap.size tU 1 (.slice (some ⟨g6, 0, none⟩) M c6) M (xs.map dc)) ∧ Hid (Below w.heap.size w4 wr)) (fun iv _ _ => M - (intOf iv).toNat)
        case atStart => exact ⟨0, (M : Int) - 1, o, rfl, rfl, by simp, by omega, Lib.hid (Rev.start o), HR4, Lib.hid (Below.refl _ _)⟩
        case round =>
          obtain ⟨i, y, xs, rfl, rfl, hy, hiM, HV, HX, HBx⟩ := hrel
          obtain ⟨w5, rfl⟩ : ∃ w5 : World, w5 = wr := ⟨_, rfl⟩
          by_cases hij : (i : Int) < y
          · obtain ⟨j, rfl⟩ : ∃ j : Nat, y = j := ⟨y.toNat, by omega⟩
            have hijN : i < j := by omega
            have hjM : j < M := by omega
            have hji : j = o.length - 1 - i := by have := HMo.out; omega
            have hxl : xs.length = M := by rw [HV.out.len, HMo.out]
            obtain ⟨x, hx⟩ : ∃ x, xs[i]? = some x := ⟨_, List.getElem?_eq_getElem (by omega)⟩
            obtain ⟨t, ht⟩ : ∃ t, xs[j]? = some t := ⟨_, List.getElem?_eq_getElem (by omega)⟩
            have f0 := own_at HX.out hx
            have f1 := own_at HX.out ht
            have hfr := own_fr HX.out
            have f2 := hfr i
            have f3 := hfr j
            have hRS := HV.out.step (by omega) hx (by rw [← hji]; exact ht)
            rw [← hji] at hRS
            have HRS := Lib.hid hRS
            have Hy := Lib.hid hy
            have Hne := Lib.hid hijN
            have hne : ¬ i = j := by omega
            clear hRS hx ht hxl hji hfr hy
            go_wp2_with fail
            go_region
            have hX1 := own_set HX.out (k := i) (by omega) (.int .u8 (t : Int))
            have hX2 := own_set hX1 (k := j) hjM (.int .u8 (x : Int))
            rw [set_dc, set_dc] at hX2
            have hS5 : w.heap.size ≤ w5.heap.size := by have := HBx.out.size; have := HS4.out; omega
            have q1 := put_set w5 g6 i (.int .u8 (t : Int))
            have q2 := put_drew (w5.setCell ⟨g6, i, none⟩ (.int .u8 (t : Int))) g6 j (.int .u8 (x : Int))
            have k2 := q2.below (q1.below HBx.out hS5 H6.out.1) (by rw [q1.size]; exact hS5) H6.out.1
            have HX2 := Lib.hid (show (((w5.setCell ⟨g6, i, none⟩ (.int .u8 (t : Int))).setCell ⟨g6, j, none⟩ (.int .u8 (x : Int))).drew).ownsRow w.heap.size tU 1 (.slice (some ⟨g6, 0, none⟩) M c6) M (((xs.set i t).set j x).map dc) from hX2)
            have HKx := Lib.hid k2
            generalize hw6 : World.drew _ = w6 at HX2 HKx ⊢
            clear hw6 hX1 hX2 q1 q2 k2 f0 f1 f2 f3
            go_wp2_with fail
            go_roundw
            case rel => exact ⟨i + 1, (j : Int) - 1, (xs.set i t).set j x, by go_num, by go_num, by have := Hy.out; omega, by omega, HRS, HX2, HKx⟩
            case measure => simp [intOf]; omega
          · have hrev := HV.out.fin (by have := HMo.out; omega) (by rw [HMo.out]; exact hiM)
            subst hrev
            have HB5 := Lib.hid (HB4.out.below HBx.out (by have := HD.out.blk.lt; omega))
            have HK5 := Lib.hid (HK4.out.belowS HBx.out HD.out.lt)
            go_wp2_with ((with_reducible refine gate_st (t := 56) rfl ?_); refine halt_L ?_)
            refine resume_L ?_
            refine wpList_put HB5.out (o := 0) (v := .slice (some ⟨g6, 0, none⟩) M c6) (by simp) rfl rfl rfl infoB ?_
            intro w6 hb6 p6
            have hr6 := own_put HB5.out HX.out p6
            have hlr : o.reverse.length = M := by rw [List.length_reverse, HMo.out]
            have HD6 := Lib.hid (show Dec w6 B b (.slice (some ⟨g6, 0, none⟩) M c6) o.reverse (dp + (E : Int)) from ⟨hb6, by rw [hlr]; exact own_mono hr6 HD.out.lt, HD.out.Bb⟩)
            have HK6 := Lib.hid (HK5.out.put HB5.out (by have := HD.out.lt; have := HBx.out.size; have := HS4.out; omega) HD.out.Bb p6)
            clear hr6 hb6 p6
            have hT := trim_any B b _ o.reverse _ w6 HD6.out (by omega) (fun d hd => by have := HFin.out.good.1 d hd; omega)
            go_wp2_with (go_at_call 66; refine hT.mono ?_)
            rintro e w7 ⟨rfl, ⟨v7, hD7⟩, k7⟩
            have hne : trimD o.reverse ≠ [] := by
              obtain ⟨⟨_, d, t, e, _⟩, _⟩ := trimD_good HFin.out.good
              rw [e]; simp
            rw [if_neg hne] at hD7
            have HD7 := Lib.hid hD7
            have HK7 := Lib.hid (HK6.out.trans k7)
            clear hD7 hT k7 hne
            go_wp2
            go_end0
            have hEL : M - L = E := by have := HE.out; omega
            exact ⟨rfl, ⟨v7, o.reverse, E, by rw [HP.out, ← hEL]; exact HFin.out, HD7.out⟩, HK7.out⟩
end Go.Proofs.YtilkcnoooecngaaGreatDoor
