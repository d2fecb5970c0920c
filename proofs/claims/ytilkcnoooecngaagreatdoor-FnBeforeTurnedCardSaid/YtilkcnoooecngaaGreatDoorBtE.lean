/- half: a decimal halved. No conditions but a length below 100000000. -/
import Derived.Test.YtilkcnoooecngaaGreatDoorNuD
import Derived.Test.YtilkcnoooecngaaGreatDoorBtH
import Derived.Test.YtilkcnoooecngaaGreatDoorTxt
import Derived.WalkLawsBesides
namespace Go.Proofs.YtilkcnoooecngaaGreatDoor
open Go.RowKit
set_option linter.unusedVariables false
theorem halt_H {p : Prop} (h : Hid p) : p := h
theorem resume_H {p : Prop} (h : p) : Hid p := h
theorem Dec.frame {w w' : World} {B S b : Nat} {v : Value} {ds : List Nat} {dp : Int} (h : Dec w B b v ds dp) (hb : Below S w w') (hS : w.heap.size ≤ S) : Dec w' B b v ds dp := by
  refine ⟨h.blk.below hb (by have := h.blk.lt; omega), ⟨h.row.1, ?_⟩, h.Bb⟩
  rcases h.row.2 with h0 | ⟨g, cap, cur, hv, hBg, r, r2⟩
  · exact .inl h0
  · exact .inr ⟨g, cap, cur, hv, hBg, (hb.block g (by have := (Array.getElem?_eq_some_iff.1 r).1; omega)).trans r, r2⟩
theorem trimD_sub (l : List Nat) : ∀ d ∈ trimD l, d ∈ l := by
  intro d hd
  unfold trimD at hd
  have := (List.dropWhile_sublist (p := (· == 0)) (l := l.reverse)).subset (List.mem_reverse.1 hd)
  exact List.mem_reverse.1 this
theorem trimD_len (l : List Nat) : (trimD l).length ≤ l.length := by
  unfold trimD
  rw [List.length_reverse]
  have := (List.dropWhile_sublist (p := (· == 0)) (l := l.reverse)).length_le
  simpa using this
theorem trimD_good {l : List Nat} (h : Good l) : Good (trimD l) ∧ hd (trimD l) = hd l := by
  obtain ⟨hdg, d, t, rfl, h0⟩ := h
  have : ∃ t', trimD (d :: t) = d :: t' := by
    unfold trimD
    rw [List.reverse_cons]
    generalize t.reverse = r
    induction r with
    | nil => exact ⟨[], by simp [h0]⟩
    | cons x r ih =>
      by_cases hx : x = 0
      · subst hx; simpa using ih
      · exact ⟨(x :: r).reverse, by simp [hx]⟩
  obtain ⟨t', ht⟩ := this
  exact ⟨⟨fun x hx => hdg x (trimD_sub _ x hx), d, t', ht, h0⟩, by rw [ht]; rfl⟩
theorem Dec.cellg {w : World} {B b g L cap : Nat} {ds : List Nat} {dp : Int} (h : Dec w B b (.slice (some ⟨g, 0, none⟩) L cap) ds dp) : ∀ j d, ds[j]? = some d → w.cell? ⟨g, j, none⟩ = some (dc d) := by
  intro j d hd
  have := h.row.cells (g := g) rfl j (dc d) (by rw [List.getElem?_map, hd]; rfl)
  rwa [Addr.add_lit, Nat.zero_add] at this
def HalfRet (B b k : Nat) (ds : List Nat) (dp : Int) (w : World) (e : Ending) (w' : World) : Prop :=
  e = .returned (.tuple #[]) ∧ (∃ (v' : Value) (r : List Nat) (i : Nat), Halfd ds k r i ∧ Dec w' B b v' (trimD r) (dp - ((i : Int) - 1))) ∧ Fm B w w'
set_option maxHeartbeats 2000000 in
set_option maxRecDepth 100000 in
theorem half_any (B b k : Nat) (v : Value) (ds : List Nat) (dp : Int) (w : World) (h : Dec w B b v ds dp) (hg : Good ds) (hl : ds.length ≤ 100000000) (hk1 : 1 ≤ k) (hk2 : k ≤ 59) (hdp : -1000000 ≤ dp ∧ dp ≤ 1000000) :
    Calls Tryz.prog 70 #[.pointer (some ⟨b, 0, none⟩), .int .i64 (k : Int)] w (HalfRet B b k ds dp w) := by
  obtain ⟨i0, hi0, hz0, hz1, hz2⟩ := info_parts infoU
  obtain ⟨A, cap, rfl, hc1, hc2, hgA⟩ := h.form
  obtain ⟨g, rfl, hBg, hgs, hgb, hc⟩ := hgA (by obtain ⟨_, d, t, rfl, _⟩ := hg; simp)
  have hM : cap ≤ 9223372036854775807 := hc2
  obtain ⟨L, hL⟩ : ∃ L, ds.length = L := ⟨_, rfl⟩
  rw [hL] at h hc1 hl
  have HL := Lib.hid hL
  have HD := Lib.hid h
  have HG := Lib.hid hg
  have HC := Lib.hid hc
  obtain ⟨p, hp⟩ : ∃ p, 2 ^ k = p := ⟨_, rfl⟩
  have hpI : (2 : Int) ^ k = (p : Int) := by subst hp; simp
  have HP := Lib.hid hp
  have hp1 : 1 ≤ p := by subst hp; exact Nat.two_pow_pos k
  have hp2 : p ≤ 576460752303423488 := by
    subst hp
    exact Nat.pow_le_pow_right (n := 2) (by decide) hk2
  have hkI : (k : Int) ≤ 59 := by omega
  clear h hg hc hc2 hL hp hBg hgs hgb hgA
  go_enter Tryz.func70, Tryz.ntmps70
  go_wp2_with fail
  go_loopw [4, 5] (fun nv iv wr => ∃ (i n : Nat), nv = .int .u64 (n : Int) ∧ iv = .int .i64 (i : Int) ∧ i ≤ 19 ∧ n < 10 * p ∧ Hid (Hf ds k i n) ∧ wr = w) (fun _ iv _ => 20 - (intOf iv).toNat)
  case atStart => exact ⟨0, 0, rfl, rfl, by omega, by omega, Lib.hid (Hf.start ds k), rfl⟩
  case round =>
    obtain ⟨i, n, rfl, rfl, hi, hn, HF, rfl⟩ := hrel
    have f0 : wr.cell? ⟨b, 0, none⟩ = some (.slice (some ⟨g, 0, none⟩) L cap) := HD.out.blk.cell 0 rfl
    have hx10 := dg_lt HG.out.1 i
    by_cases hlt : n < p
    · have e0 : ((n : Int) / (p : Int) == 0) = true := by rw [beq_iff_eq]; exact Int.ediv_eq_zero_of_lt (by omega) (by omega)
      have hS := HF.out.step HG.out (by rw [HP.out]; exact hlt)
      have hfew := HF.out.few hk2 (by rw [HP.out]; exact hlt)
      by_cases hiL : i < L
      · have f1 : wr.cell? ⟨g, i, none⟩ = some (.int .u8 (dg ds i : Nat)) := HC.out i _ (dg_in (by rw [HL.out]; exact hiL))
        generalize hx : dg ds i = x at *
        have HX := Lib.hid hx
        have HS := Lib.hid hS
        have HF2 := Lib.hid hfew
        clear hx hS hfew
        go_wp2_with fail
        go_roundw
        case rel => exact ⟨i + 1, n * 10 + x, by go_num, by go_num, by have := HF2.out; omega, by omega, HS, trivial⟩
        case measure => simp [intOf]; omega
      · have hn0 : 1 ≤ n := by
          rcases HF.out.rng with ⟨rfl, _⟩ | ⟨_, h2, _⟩
          · obtain ⟨_, d, t, e, _⟩ := HG.out
            have := HL.out; rw [e] at this; simp at this; omega
          · have := Nat.pow_pos (n := i - 1) (show 0 < 10 by decide); omega
        have en : ((n : Int) == 0) = false := by rw [beq_eq_false_iff_ne]; omega
        rw [dg_out (by rw [HL.out]; omega), Nat.add_zero] at hS
        have HS := Lib.hid hS
        have HF2 := Lib.hid hfew
        clear hS hfew hx10
        go_wp2_with fail
        go_roundw
        case rel => exact ⟨i + 1, n * 10, by go_num, by go_num, by have := HF2.out; omega, by omega, HS, trivial⟩
        case measure => simp [intOf]; omega
    · have e0 : ((n : Int) / (p : Int) == 0) = false := by
        rw [beq_eq_false_iff_ne]
        intro e
        have := Nat.div_pos (show p ≤ n by omega) (show 0 < p by omega)
        rw [← Int.natCast_ediv] at e
        omega
      have f2 : wr.cell? ⟨b, 1, none⟩ = some (.int .i64 dp) := HD.out.blk.cell 1 rfl
      clear f0 hx10
      go_wp2_with ((with_reducible refine gate_st (t := 3) rfl ?_); refine halt_L ?_)
      refine resume_L ?_
      refine wpList_put HD.out.blk (o := 1) (v := .int .i64 (dp - ((i : Int) - 1))) (by simp) rfl rfl rfl infoI ?_
      intro w1 hb1 p1
      have HD1 := Lib.hid (show Dec w1 B b (.slice (some ⟨g, 0, none⟩) L cap) ds (dp - ((i : Int) - 1)) from HD.out.put HD.out.row p1 hb1)
      have HK1 := Lib.hid ((Fm.refl B wr).put HD.out.blk HD.out.lt HD.out.Bb p1)
      have f0 : w1.cell? ⟨b, 0, none⟩ = some (.slice (some ⟨g, 0, none⟩) L cap) := HD1.out.blk.cell 0 rfl
      clear f2 hb1 p1
      go_wp2_with fail
      have HI1 := Lib.hid (show i ≤ 19 from hi)
      go_loopw [4, 5, 6] (fun nv iv ov wr2 => ∃ (j m : Nat) (o : List Nat), nv = .int .u64 (m : Int) ∧ iv = .int .i64 (j : Int) ∧ j ≤ 200000000 ∧ m < 10 * p ∧ Hid (Hs ds k i n j o m) ∧ o.length ≤ 200000000 ∧ wr2.ownsRow w1.heap.size tU 1 ov o.length (o.map dc) ∧ Hid (Below w1.heap.size w1 wr2)) (fun _ iv _ _ => L + k + 4 - (intOf iv).toNat)
      case atStart => exact ⟨i, n, [], rfl, rfl, by omega, hn, Lib.hid (Hs.start HF.out), by simp, World.ownsRow_nil _ _ _ _, Lib.hid (Below.refl _ _)⟩
      case round =>
        obtain ⟨j, m, o, rfl, rfl, hj, hm, HH, ho, hown, HB⟩ := hrel
        obtain ⟨w2, rfl⟩ : ∃ w2 : World, w2 = wr := ⟨_, rfl⟩
        have hBs := HB.out.size
        have HD2 := Lib.hid (HD1.out.frame HB.out (Nat.le_refl _))
        clear f0
        have f0 : w2.cell? ⟨b, 0, none⟩ = some (.slice (some ⟨g, 0, none⟩) L cap) := HD2.out.blk.cell 0 rfl
        have hx10 := dg_lt HG.out.1 j
        obtain ⟨q, hq⟩ : ∃ q, m / p = q := ⟨_, rfl⟩
        have hqI : (m : Int) / (p : Int) = (q : Int) := by rw [← Int.natCast_ediv, hq]
        have hq10 : q < 10 := hq ▸ div_lt10 hm
        obtain ⟨r, hr⟩ : ∃ r, m % p = r := ⟨_, rfl⟩
        have hrp : r < p := hr ▸ Nat.mod_lt _ hp1
        have eAnd : bits .and .u64 (m : Int) ((p : Int) - 1) = (r : Int) := by
          rw [show ((p : Int) - 1) = ((p - 1 : Nat) : Int) by omega, bits_and_u64_nat _ _ (by omega) (by omega), ← HP.out, Nat.and_two_pow_sub_one_eq_mod, HP.out, hr]
        by_cases hjL : j < L
        · have hS := HH.out.step HG.out (.inl (by rw [HL.out]; exact hjL))
          rw [HP.out, hq, hr] at hS
          have HS := Lib.hid hS
          have HQ := Lib.hid hq
          have HR := Lib.hid hr
          have hlen : o.length + 1 ≤ 200000000 := by have := hS.few; simp at this; have := HL.out; omega
          clear hS hq hr
          have f1 : w2.cell? ⟨g, j, none⟩ = some (.int .u8 (dg ds j : Nat)) := HD2.out.cellg j _ (dg_in (by rw [HL.out]; exact hjL))
          go_wp2_with (at_builtin; refine halt_H ?_)
          refine resume_H ?_
          refine wpList_append_own _ rfl _ _ 56 rfl w1.heap.size 5 i0 (.int .u8 0) 1 1 Tryz.underlying56 hi0 hz0 hz1 hz2 rfl (by decide) _ o.length _ rfl (hown.alloc _) ⟨w2.heap.size, 0, none⟩ 1 1 [.int .u8 (q : Int)] rfl rfl (oneS_at (heap_alloc_new w2 _)) (by simp [Value.oneCell']) (by unfold maxLen; omega) (by omega) (by simp; omega) ?_
          intro v' w3 hown1 hgrow _
          have HB1 := Lib.hid ((HB.out.alloc hBs _).grown hgrow (by simp; omega) (fun k hk => (hown.lt k hk).1))
          have HD3 := Lib.hid (HD1.out.frame HB1.out (Nat.le_refl _))
          have f3 : w3.cell? ⟨b, 0, none⟩ = some (.slice (some ⟨g, 0, none⟩) L cap) := HD3.out.blk.cell 0 rfl
          have f4 : w3.cell? ⟨g, j, none⟩ = some (.int .u8 (dg ds j : Nat)) := HD3.out.cellg j _ (dg_in (by rw [HL.out]; exact hjL))
          clear hown hgrow f0 f1
          generalize hx : dg ds j = x at *
          have HX := Lib.hid hx
          clear hx
          go_wp2_with fail
          go_roundw
          case rel => exact ⟨j + 1, r * 10 + x, o ++ [q], by go_num, by go_num, by omega, by omega, HS, by simp; omega, by rw [List.map_append, List.length_append]; exact hown1, HB1⟩
          case measure => simp [intOf]; omega
        · rw [dg_out (by rw [HL.out]; omega)] at hx10
          clear hx10
          by_cases hm0 : 0 < m
          · have hS := HH.out.step HG.out (.inr hm0)
            have hlt2 := HH.out.lt (.inr hm0)
            rw [HL.out] at hlt2
            rw [HP.out, hq, hr, dg_out (by rw [HL.out]; omega), Nat.add_zero] at hS
            have HS := Lib.hid hS
            have HQ := Lib.hid hq
            have HR := Lib.hid hr
            have hlen : o.length + 1 ≤ 200000000 := by have := hS.few; simp at this; have := HL.out; omega
            have g0 : decide ((m : Int) > 0) = true := decide_eq_true (by omega)
            clear hS hq hr
            go_wp2_with (at_builtin; refine halt_H ?_)
            refine resume_H ?_
            refine wpList_append_own _ rfl _ _ 56 rfl w1.heap.size 5 i0 (.int .u8 0) 1 1 Tryz.underlying56 hi0 hz0 hz1 hz2 rfl (by decide) _ o.length _ rfl (hown.alloc _) ⟨w2.heap.size, 0, none⟩ 1 1 [.int .u8 (q : Int)] rfl rfl (oneS_at (heap_alloc_new w2 _)) (by simp [Value.oneCell']) (by unfold maxLen; omega) (by omega) (by simp; omega) ?_
            intro v' w3 hown1 hgrow _
            have HB1 := Lib.hid ((HB.out.alloc hBs _).grown hgrow (by simp; omega) (fun k hk => (hown.lt k hk).1))
            have HD3 := Lib.hid (HD1.out.frame HB1.out (Nat.le_refl _))
            have f3 : w3.cell? ⟨b, 0, none⟩ = some (.slice (some ⟨g, 0, none⟩) L cap) := HD3.out.blk.cell 0 rfl
            clear hown hgrow f0
            go_wp2_with fail
            go_roundw
            case rel => exact ⟨j + 1, r * 10, o ++ [q], by go_num, by go_num, by omega, by omega, HS, by simp; omega, by rw [List.map_append, List.length_append]; exact hown1, HB1⟩
            case measure => simp [intOf]; omega
          · obtain rfl : m = 0 := by omega
            have hF := Hs.fin HF.out HH.out (by rw [HP.out]; omega) HI1.out (by rw [HL.out]; omega)
            have HFin := Lib.hid hF
            have HO := Lib.hid hown
            have HLo := Lib.hid ho
            clear hF hqI hq hr eAnd hown
            go_wp2_with ((with_reducible refine gate_st (t := 56) rfl ?_); refine halt_L ?_)
            refine resume_L ?_
            obtain ⟨A6, c6, rfl⟩ := own_slice HO.out
            refine wpList_put HD2.out.blk (o := 0) (v := .slice A6 o.length c6) (by simp) rfl rfl rfl infoB ?_
            intro w4 hb4 p4
            have hr4 := own_mono HO.out (show B ≤ w1.heap.size from HD1.out.lt)
            have HD4 := Lib.hid (show Dec w4 B b (.slice A6 o.length c6) o (dp - ((i : Int) - 1)) from HD2.out.put hr4 p4 hb4)
            have HK4 := Lib.hid ((HK1.out.belowT HB.out HD1.out.lt).put HD2.out.blk HD2.out.lt HD2.out.Bb p4)
            clear hr4 hb4 p4 f0
            have hT := trim_any B b _ o _ w4 HD4.out (by omega) (fun d hd => by have := HFin.out.good.1 d hd; omega)
            go_wp2_with (go_at_call 66; refine hT.mono ?_)
            rintro e w5 ⟨rfl, ⟨v5, hD5⟩, k5⟩
            have hne : trimD o ≠ [] := by
              obtain ⟨⟨_, d, t, e, _⟩, _⟩ := trimD_good HFin.out.good
              rw [e]; simp
            rw [if_neg hne] at hD5
            have HD5 := Lib.hid hD5
            have HK5 := Lib.hid (HK4.out.trans k5)
            clear hD5 hT k5 hne
            go_wp2
            go_end0
            exact ⟨rfl, ⟨v5, o, i, HFin.out, HD5.out⟩, HK5.out⟩
end Go.Proofs.YtilkcnoooecngaaGreatDoor
