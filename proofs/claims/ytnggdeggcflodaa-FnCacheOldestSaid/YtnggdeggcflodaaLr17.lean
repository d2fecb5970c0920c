/- The law on the oldest entries, for every input. No conditions. -/
import Derived.Test.YtnggdeggcflodaaLr16
namespace Go.Proofs.Ytnggdeggcflodaa
open Go.RowKit Go.MapKept
set_option linter.unusedVariables false
attribute [local go_sem] run_store_float
theorem SpcR.keep5 {w w' : World} {B cb : Nat} {n h1 h2 : Int} {v : Value} {E : List (Int × Int)} (h : SpcR w B cb n h1 h2 v E) (hb : Below w.heap.size w w') : SpcR w' B cb n h1 h2 v E := by
  refine ⟨h.blk.below hb h.blk.lt, ⟨h.row.1, ?_⟩, h.Bc⟩
  rcases h.row.2 with h0 | ⟨g, cap, cur, hv, hgb, hg, rest⟩
  · exact .inl h0
  · exact .inr ⟨g, cap, cur, hv, hgb, (hb.block g (Array.getElem?_eq_some_iff.1 hg).1).trans hg, rest⟩
def LawRet (w : World) (e : Ending) (w' : World) : Prop := e = .returned (.bool true) ∧ Below w.heap.size w w'
theorem infoX : (Try.prog.info? tX).map (fun i => (i.zero, i.size, i.bytes)) = some (some (.agg #[.int .i64 0, .int .i64 0, .int .i64 0]), 3, 24) := by kernel_rfl
theorem run_append_none (w : World) (g cap : Nat) (ty : TypeId) : (Builtin.append_ #[22, 22] ty #[.slice (some ⟨g, 0, none⟩) 0 0, .slice none 0 cap]).run Try.prog w = .ok (.slice (some ⟨g, 0, none⟩) 0 0) w := by kernel_rfl
theorem append_ops {ops : Array Oper} {rest : List Oper} {a : Act} {Q : Exit → Act → World → Prop} {dst : Option Tmp} {s x : Operand} {ty : TypeId} {ps : String} {af : Array Edge} {w : World} {B g n cap : Nat} {A : Option Addr} {l : List Op3}
    (hB : B ≤ w.heap.size) (h2 : w.ownsRow B tX 3 (.slice (some ⟨g, 0, none⟩) 0 0) 0 []) (hs : a.eval s = .slice (some ⟨g, 0, none⟩) 0 0) (hx : a.eval x = .slice A n cap) {B1 : Nat} (hA : OpArg w B1 A n cap l) (hn : n ≤ 1000)
    (hK : ∀ A2 c2 w', w'.ownsRow B tX 3 (.slice A2 n c2) n (ocs l) → w.grownBy w' (some g) → wpList Try.prog ops Q rest (a.put dst (.slice A2 n c2)) w') :
    wpList Try.prog ops Q (⟨dst, .call { callee := .builtin .append, args := #[s, x], argTypes := #[22, 22] }, ty, ps, af, none⟩ :: rest) a w := by
  have hl := hA.len
  rcases A with _ | ⟨b, o, sp⟩
  · have h0 : n = 0 := by
      rcases Nat.eq_zero_or_pos n with h0 | h0
      · exact h0
      · obtain ⟨b, o, e, _⟩ := hA.1.2.2 h0
        cases e
    subst h0
    have hl0 : l = [] := List.length_eq_zero_iff.1 hl
    subst hl0
    refine wpList_plain rfl fun K hK' => ?_
    unfold Oper.wp
    simp [execOp, resolve, invoke, builtin, hs, hx, run_append_none, Result.andThen]
    exact hK' _ _ (hK _ _ w h2 ⟨rfl, rfl, rfl, Nat.le_refl _, fun _ _ _ => rfl⟩)
  · by_cases hsp : sp = none
    · subst hsp
      obtain ⟨i0, hi, hz0, hz1, hz2⟩ := info_parts infoX
      refine wpList_append_own _ rfl s x 22 rfl B tX i0 (.agg #[.int .i64 0, .int .i64 0, .int .i64 0]) 3 24 Try.underlying22 hi hz0 hz1 hz2 rfl (by decide) _ 0 [] hs h2 ⟨b, o, none⟩ n cap (ocs l) hx (by rw [ocs_len, hl]) (hA.news rfl) (ocs_one l) (by unfold maxLen; omega) (by omega) hB ?_
      intro v' w' hown hg _
      rw [Nat.zero_add, List.nil_append] at hown
      obtain ⟨A2, c2, rfl⟩ := own_slice hown
      exact hK A2 c2 w' hown hg
    · have h0 : n = 0 := by
        rcases Nat.eq_zero_or_pos n with h0 | h0
        · exact h0
        · obtain ⟨b', o', e, _⟩ := hA.1.2.2 h0
          injection e with e
          injection e with _ _ e
          exact absurd e hsp
      subst h0
      have hl0 : l = [] := List.length_eq_zero_iff.1 hl
      subst hl0
      obtain ⟨i0, hi, hz0, hz1, hz2⟩ := info_parts infoX
      refine wpList_append_own _ rfl s x 22 rfl B tX i0 (.agg #[.int .i64 0, .int .i64 0, .int .i64 0]) 3 24 Try.underlying22 hi hz0 hz1 hz2 rfl (by decide) _ 0 [] hs h2 ⟨b, o, sp⟩ 0 cap [] hx rfl (fun j u h => by simp at h) (fun u h => by cases h) (by simp [maxLen]) (by omega) hB ?_
      intro v' w' hown hg _
      obtain ⟨A2, c2, rfl⟩ := own_slice hown
      exact hK A2 c2 w' hown hg
set_option maxHeartbeats 8000000 in
set_option maxRecDepth 100000 in
theorem law_cache (z : Int) (A : Option Addr) (N cap : Nat) (l : List Op3) (W : World) (hz : 0 ≤ z ∧ z ≤ 255) (hA : OpArg W W.heap.size A N cap l) :
    Calls Try.prog 3 #[.int .u8 z, .slice A N cap] W (LawRet W) := by
  obtain ⟨zn, rfl⟩ : ∃ zn : Nat, z = zn := ⟨z.toNat, by omega⟩
  have hl := hA.len
  go_enter Try.func3, Try.ntmps3
  by_cases hN : 2147483647 < N
  · have d0 : decide ((2147483647 : Int) < (N : Int)) = true := decide_eq_true (by omega)
    clear hA hN hl
    go_wp2_with fail
    go_ret
    exact ⟨rfl, Below.refl _ _⟩
  have d0 : decide ((2147483647 : Int) < (N : Int)) = false := decide_eq_false (by omega)
  obtain ⟨n, hn⟩ : ∃ n : Nat, n = 1 + zn % 40 := ⟨_, rfl⟩
  have hn1 : 1 ≤ n := by omega
  have hn2 : n ≤ 40 := by omega
  have hr : 1 + ((zn : Int) % 40) = (n : Int) := by omega
  have HF := Lib.hid (few_any W.heap.size A N cap l W hA)
  have HA := Lib.hid hA
  have HL := Lib.hid hl
  have HM := Lib.hid (made_any n W hn1 (by omega))
  have hz2 := hz.2
  clear hA hl hN hn hz
  go_wp2_with (go_at_call 4; refine HF.out.mono ?_)
  rintro e w' ⟨rfl, b, rfl, hb⟩
  clear HF
  cases b with
  | false =>
    clear hb
    go_wp2_with fail
    go_ret
    exact ⟨rfl, Below.refl _ _⟩
  | true =>
    have HFew := Lib.hid (hb rfl)
    clear hb
    by_cases h3 : 300 < N
    · have d3 : decide ((300 : Int) < (N : Int)) = true := decide_eq_true (by omega)
      clear h3
      go_wp2_with fail
      go_ret
      exact ⟨rfl, Below.refl _ _⟩
    have d3 : decide ((300 : Int) < (N : Int)) = false := decide_eq_false (by omega)
    have hN3 : N ≤ 300 := by omega
    clear h3
    go_wp2_with (go_at_call 5; refine HM.out.mono ?_)
    rintro e w1 ⟨cb, rfl, hs, hb⟩
    have HS := Lib.hid hs
    have HB1 := Lib.hid hb
    clear hs hb HM d0 d3 hr hz2
    go_wp2_with fail
    go_loopw [8] (fun s8 wr => ∃ q : Nat, q ≤ N ∧ s8 = .int .i64 q ∧ Hid (Spc wr W.heap.size cb n (runE n (l.take q)) ∧ Below W.heap.size W wr)) (fun s8 _ => N - (intOf s8).toNat)
    case atStart => exact ⟨0, Nat.zero_le _, rfl, Lib.hid ⟨by simpa [runE] using HS.out, HB1.out⟩⟩
    case round =>
      obtain ⟨q, hq, rfl, HQ⟩ := hrel
      clear HS HB1
      by_cases hlt : q < N
      · have hlq : q < l.length := by have := HL.out; omega
        obtain ⟨bb, o, rfl, hbb, k0, k1, k2⟩ := (HA.out.below HQ.out.2).at_ hlt hlq
        have hF := HFew.out l[q] (List.getElem_mem hlq)
        have HSt := Lib.hid (runE_take n l q hlq)
        generalize l[q].1 = d at *
        generalize l[q].2.1 = k at *
        generalize l[q].2.2 = v at *
        have HT := Lib.hid (step_any W.heap.size cb n _ d k v wr HQ.out.1 hF.1 hF.2)
        have hix : (q : Int) < (N : Int) := by omega
        clear hF
        go_wp2_with (go_at_call 6; refine HT.out.mono ?_)
        rintro e w2 ⟨⟨vv, rfl⟩, h2, s2⟩
        have HQ2 := Lib.hid (show Spc w2 W.heap.size cb n (runE n (l.take (q + 1))) ∧ Below W.heap.size W w2 from ⟨by rw [HSt.out]; exact h2, HQ.out.2.trans s2.below⟩)
        clear h2 s2 HT HSt HQ k0 k1 k2
        go_wp2_with fail
        go_roundw
        case rel => exact ⟨q + 1, by omega, by go_num, HQ2⟩
        case measure => simp [intOf]; omega
      · have hix : (N : Int) ≤ (q : Int) := by omega
        have HS := Lib.hid (show Spc wr W.heap.size cb n (runE n l) from by have := HQ.out.1; rwa [List.take_of_length_le (by have := HL.out; omega)] at this)
        have HB := Lib.hid HQ.out.2
        clear HQ
        obtain rfl : q = N := by omega
        clear hlt hq hix
        obtain ⟨wS, rfl⟩ : ∃ wS : World, wS = wr := ⟨_, rfl⟩
        go_wp2_with (at_builtin; refine halt_L ?_)
        refine resume_L ?_
        refine append_ops (B := wS.heap.size) (by simp) (World.ownsRow_made wS #[] 0 (Nat.le_refl _) (by simp [maxLen]) rfl) rfl rfl ((HA.out.below HB.out).below ((Below.refl W.heap.size wS).alloc HB.out.size _)) (by omega) ?_
        intro A2 c2 w2 ho2 hg2
        have HI := Lib.hid (show w2.ownsRow wS.heap.size tX 3 (.slice A2 q c2) (q + 0) (ocs (l ++ List.replicate 0 o4)) ∧ Below wS.heap.size wS w2 from ⟨by simpa using ho2, ((Below.refl wS.heap.size wS).alloc (Nat.le_refl _) _).grown hg2 (by simp) (fun k hk => by injection hk with hk; omega)⟩)
        clear ho2 hg2
        go_wp2_with fail
        go_loopw [9, 51] (fun s9 s51 wq => ∃ j : Nat, j ≤ n + 1 ∧ s51 = .int .i64 j ∧ Hid (wq.ownsRow wS.heap.size tX 3 s9 (q + j) (ocs (l ++ List.replicate j o4)) ∧ Below wS.heap.size wS wq)) (fun _ s51 _ => n + 1 - (intOf s51).toNat)
        case atStart => exact ⟨0, Nat.zero_le _, rfl, HI⟩
        case round =>
          obtain ⟨j, hj, rfl, HQ⟩ := hrel
          clear HI
          obtain ⟨wq, rfl⟩ : ∃ wq : World, wq = wr := ⟨_, rfl⟩
          by_cases hlt : j < n + 1
          · have hix : (j : Int) < (n : Int) + 1 := by omega
            have HNw := Lib.hid (Blk.new wq tX #[.int .i64 4, .int .i64 0, .int .i64 0])
            obtain ⟨A3, c3, rfl⟩ := own_slice HQ.out.1
            obtain ⟨i0, hi, hz0, hz1, hzz⟩ := info_parts infoX
            go_wp2_with (at_builtin; refine halt_L ?_)
            refine resume_L ?_
            refine wpList_append_own _ rfl _ _ 22 rfl wS.heap.size tX i0 (.agg #[.int .i64 0, .int .i64 0, .int .i64 0]) 3 24 Try.underlying22 hi hz0 hz1 hzz rfl (by decide) _ (q + j) _ rfl (HQ.out.1.alloc _) ⟨wq.heap.size, 0, none⟩ 1 1 [.int .i64 4, .int .i64 0, .int .i64 0] rfl rfl (World.news_of_block HNw.out) (by simp [Value.oneCell']) (by unfold maxLen; omega) (by omega) (by have := HQ.out.2.size; simp; omega) ?_
            intro v4 w4 ho4 hg4 _
            have HQ4 := Lib.hid (show w4.ownsRow wS.heap.size tX 3 v4 (q + (j + 1)) (ocs (l ++ List.replicate (j + 1) o4)) ∧ Below wS.heap.size wS w4 from
              ⟨by rw [List.replicate_succ', ← List.append_assoc, ocs_app]; exact ho4, (HQ.out.2.alloc HQ.out.2.size _).grown hg4 (by have := HQ.out.2.size; simp; omega) (fun k hk => (HQ.out.1.lt k hk).1)⟩)
            obtain ⟨A4, c4, rfl⟩ := own_slice ho4
            clear ho4 hg4 HNw hi hz0 hz1 hzz HQ
            go_wp2_with fail
            go_roundw
            case rel => exact ⟨j + 1, by omega, by go_num, HQ4⟩
            case measure => simp [intOf]; omega
          · have hix : (n : Int) + 1 ≤ (j : Int) := by omega
            obtain rfl : j = n + 1 := by omega
            clear hlt hj
            obtain ⟨g3, c3, rfl, hg3, hg3l⟩ := HQ.out.1.form (by omega)
            have hl' : (l ++ List.replicate (n + 1) o4).length = q + (n + 1) := by simp [HL.out]
            have HO := Lib.hid (oparg_of HQ.out.1 hl')
            have HR := Lib.hid (round_run wq (some ⟨g3, 0, none⟩) (q + (n + 1)) c3 n (l ++ List.replicate (n + 1) o4) HO.out (few_old HFew.out _) (by omega) hn1 (by omega))
            have HSq := Lib.hid (HS.out.below HQ.out.2 (Nat.le_refl _))
            have HBq := Lib.hid (HB.out.trans (HQ.out.2.mono HB.out.size))
            clear hl' HQ HS HB hg3 hg3l
            go_wp2_with (go_at_call 7; refine HR.out.mono ?_)
            rintro e w5 ⟨A5, c5, xs, rfl, hrow, htold, hone, hb5⟩
            have HOne := Lib.hid hone
            have HRow := Lib.hid hrow
            have HTold := Lib.hid htold
            have HS5 := Lib.hid (HSq.out.below hb5 (Nat.le_refl _))
            have HB5 := Lib.hid (HBq.out.trans (hb5.mono HBq.out.size))
            obtain ⟨v0, h1, h2, hR, _, hEn, _, _⟩ := HS5.out
            obtain ⟨Ae, ce, rfl, _, _, hAe⟩ := hR.form
            have HRs := Lib.hid hR
            have HAe := Lib.hid hAe
            clear hrow htold hone hb5 HSq HBq HR HO hR hAe
            obtain ⟨g5, c5', e5, _, _⟩ := HRow.out.form (by omega)
            obtain rfl : A5 = some ⟨g5, 0, none⟩ := by injection e5
            have hcells : ∀ j u, xs[j]? = some u → w5.cell? ⟨g5, j, none⟩ = some u := fun j u hu => by
              have := HRow.out.cells (g := g5) rfl j u hu
              rwa [Addr.add_lit, Nat.zero_add] at this
            have HCl := Lib.hid hcells
            have hg5 := (HRow.out.lt g5 rfl).2
            clear hcells e5
            go_wp2_with fail
            go_loopw [12] (fun s12 wt => ∃ i : Nat, i ≤ n + 1 ∧ s12 = .int .i64 i ∧ Hid (Below w5.heap.size w5 wt)) (fun s12 _ => n + 1 - (intOf s12).toNat)
            case atStart => exact ⟨0, Nat.zero_le _, rfl, Lib.hid (Below.refl _ _)⟩
            case round =>
              obtain ⟨i, hi, rfl, HQ⟩ := hrel
              by_cases hlt : i < n + 1
              · have hix : (i : Int) ≤ (n : Int) := by omega
                have hT : told xs (q + i) ((runE n l).drop i) := by
                  have h1 : q + i < (l ++ List.replicate (n + 1) o4).length := by rw [List.length_append, HL.out, List.length_replicate]; omega
                  have h2 := HTold.out (q + i) h1 (by omega) (by
                    rw [List.getElem_append_right (by rw [HL.out]; omega), List.getElem_replicate])
                  have h3 : (l ++ List.replicate (n + 1) o4).take (q + i) = l ++ List.replicate i o4 := by
                    rw [List.take_append, List.take_of_length_le (by rw [HL.out]; omega), List.take_replicate, HL.out]
                    congr 2
                    omega
                  rwa [h3, runE_old] at h2
                have hxl : xs.length = (q + (n + 1)) * 6 := HRow.out.1
                obtain ⟨x0, e0⟩ : ∃ x, xs[(q + i) * 6]? = some x := ⟨_, List.getElem?_eq_getElem (by rw [hxl]; omega)⟩
                obtain ⟨x1, e1⟩ : ∃ x, xs[(q + i) * 6 + 1]? = some x := ⟨_, List.getElem?_eq_getElem (by rw [hxl]; omega)⟩
                obtain ⟨x2, e2⟩ : ∃ x, xs[(q + i) * 6 + 2]? = some x := ⟨_, List.getElem?_eq_getElem (by rw [hxl]; omega)⟩
                obtain ⟨x3, e3⟩ : ∃ x, xs[(q + i) * 6 + 3]? = some x := ⟨_, List.getElem?_eq_getElem (by rw [hxl]; omega)⟩
                obtain ⟨x4, e4⟩ : ∃ x, xs[(q + i) * 6 + 4]? = some x := ⟨_, List.getElem?_eq_getElem (by rw [hxl]; omega)⟩
                obtain ⟨x5, e5⟩ : ∃ x, xs[(q + i) * 6 + 5]? = some x := ⟨_, List.getElem?_eq_getElem (by rw [hxl]; omega)⟩
                obtain ⟨wt, rfl⟩ : ∃ wt : World, wt = wr := ⟨_, rfl⟩
                have c0 : wt.cell? ⟨g5, (q + i) * 6, none⟩ = some x0 := (HQ.out.cell (p := ⟨g5, (q + i) * 6, none⟩) hg5).trans (HCl.out _ _ e0)
                have c1 : wt.cell? ⟨g5, (q + i) * 6 + 1, none⟩ = some x1 := (HQ.out.cell (p := ⟨g5, (q + i) * 6 + 1, none⟩) hg5).trans (HCl.out _ _ e1)
                have c2 : wt.cell? ⟨g5, (q + i) * 6 + 2, none⟩ = some x2 := (HQ.out.cell (p := ⟨g5, (q + i) * 6 + 2, none⟩) hg5).trans (HCl.out _ _ e2)
                have c3 : wt.cell? ⟨g5, (q + i) * 6 + 3, none⟩ = some x3 := (HQ.out.cell (p := ⟨g5, (q + i) * 6 + 3, none⟩) hg5).trans (HCl.out _ _ e3)
                have c4 : wt.cell? ⟨g5, (q + i) * 6 + 4, none⟩ = some x4 := (HQ.out.cell (p := ⟨g5, (q + i) * 6 + 4, none⟩) hg5).trans (HCl.out _ _ e4)
                have c5 : wt.cell? ⟨g5, (q + i) * 6 + 5, none⟩ = some x5 := (HQ.out.cell (p := ⟨g5, (q + i) * 6 + 5, none⟩) hg5).trans (HCl.out _ _ e5)
                clear hxl
                have htn : ((q : Int) + (i : Int)).toNat = q + i := by omega
                have hq0 : (0 : Int) ≤ (q : Int) + (i : Int) := by omega
                have hix2 : (q : Int) + (i : Int) < (q : Int) + ((n : Int) + 1) := by omega
                have HT := Lib.hid hT
                have E0 := Lib.hid e0
                have E1 := Lib.hid e1
                have E2 := Lib.hid e2
                have H1 := Lib.hid (show (#[x0, x1, x2, x3, x4, x5] : Array Value).all (·.oneCell') = true by
                  simp [HOne.out _ (List.mem_of_getElem? e0), HOne.out _ (List.mem_of_getElem? e1), HOne.out _ (List.mem_of_getElem? e2), HOne.out _ (List.mem_of_getElem? e3), HOne.out _ (List.mem_of_getElem? e4), HOne.out _ (List.mem_of_getElem? e5)])
                clear hT e0 e1 e2 e3 e4 e5
                go_wp2_with ((with_reducible refine gate_st (t := 30) rfl ?_); refine halt_L ?_)
                refine resume_L ?_
                refine wpList_putrow (Blk.new wt tO outZ) (ds := #[x0, x1, x2, x3, x4, x5]) rfl rfl rfl H1.out infoO ?_
                intro wv hbv pv
                have HG := Lib.hid hbv
                have HQ2 := Lib.hid (pv.below (HQ.out.alloc HQ.out.size (.cells outZ tO)) (by have := HQ.out.size; simp; omega) HQ.out.size)
                have HS := Lib.hid (((HRs.out.keep5 HQ.out).alloc (.cells outZ tO)).put_o pv (Blk.new wt tO outZ) (by decide) (by decide))
                clear hbv pv HQ c0 c1 c2 c3 c4 c5
                have f1 : wv.cell? ⟨cb, 1, none⟩ = some (.slice Ae (runE n l).length ce) := HS.out.blk.cell 1 rfl
                have g0 : wv.cell? ⟨wt.heap.size, 0, none⟩ = some x0 := HG.out.cell 0 rfl
                have g1 : wv.cell? ⟨wt.heap.size, 1, none⟩ = some x1 := HG.out.cell 1 rfl
                have g2 : wv.cell? ⟨wt.heap.size, 2, none⟩ = some x2 := HG.out.cell 2 rfl
                by_cases hiE : i < (runE n l).length
                · obtain ⟨_, _, hve, _, _, hAt⟩ := HS.out.form
                  obtain ⟨ge, hge, _, _, _, hat⟩ := hAt (by omega)
                  have hAe2 : Ae = some ⟨ge, 0, none⟩ := by
                    injection hve with e1 e2 e3
                    rw [e1]; exact hge
                  subst hAe2
                  have hp : (runE n l)[i]? = some (runE n l)[i] := List.getElem?_eq_getElem hiE
                  have k1 := hat.key hp
                  have k2 := hat.val hp
                  have hTT := HT.out
                  rw [List.drop_eq_getElem_cons hiE] at hTT
                  unfold told at hTT
                  simp only at hTT
                  rw [E0.out, E1.out, E2.out] at hTT
                  obtain ⟨t0, t1, t2⟩ := hTT
                  injection t0 with t0
                  injection t1 with t1
                  injection t2 with t2
                  subst t0; subst t1; subst t2
                  have d1 : decide (i < (runE n l).length) = true := decide_eq_true hiE
                  have hixE : (i : Int) < ((runE n l).length : Int) := by omega
                  clear hat hp hve hge hAt HT E0 E1 E2
                  generalize (runE n l)[i] = p at *
                  have HQ3 := Lib.hid (show Below w5.heap.size w5 wv.drew from HQ2.out.trans (Below.drewK _ wv 1))
                  go_wp2_with fail
                  refine wp_region_noPanic ?_
                  refine wp_region_held_drew (S := (fun w' : World => w'.cell? ⟨wt.heap.size, 0, none⟩ = some (.bool true) ∧ w'.cell? ⟨wt.heap.size, 1, none⟩ = some (.int .i64 p.1) ∧ w'.cell? ⟨wt.heap.size, 2, none⟩ = some (.int .i64 p.2) ∧ w'.cell? ⟨cb, 1, none⟩ = some (.slice (some ⟨ge, 0, none⟩) (runE n l).length ce) ∧ w'.cell? ⟨ge, i * 2, none⟩ = some (.int .i64 p.1) ∧ w'.cell? ⟨ge, i * 2 + 1, none⟩ = some (.int .i64 p.2))) (by kernel_rfl) (by exact ⟨g0, g1, g2, f1, k1, k2⟩) (fun hHeld => ?_)
                  generalize hwd : wv.drew = wd at *
                  clear hwd
                  refine wpAnyH_take (i := 0) (oi := { dst := some 85, op := Op.fieldAddr 30 (Operand.tmp 13) 0, type := 0, pos := "cache_wt02c.go:154", after := #[], guard := none }) (v := ?v1) rfl (by kernel_rfl) (by kernel_rfl) (by kernel_rfl) (fun _ _ _ h => h) (Or.inl ⟨by rfl, ?hy1⟩) (by assumption) ?_
                  case hy1 => (intro w hSw; (try dsimp only at hSw); go_simp; (try with_reducible rfl))
                  try simp only [Act.put, List.setIfInBounds_toArray, List.set_cons_zero, List.set_cons_succ]
                  refine wpAnyH_take (i := 1) (oi := { dst := some 86, op := Op.load 4 (Operand.tmp 85), type := 4, pos := "cache_wt02c.go:154", after := #[{ on := 0, ground := Ground.data }], guard := none }) (v := ?v2) rfl (by kernel_rfl) (by kernel_rfl) (by kernel_rfl) (fun _ _ _ h => h) (Or.inl ⟨by rfl, ?hy2⟩) (by assumption) ?_
                  case hy2 => (intro w hSw; (try dsimp only at hSw); go_simp; (try with_reducible rfl))
                  try simp only [Act.put, List.setIfInBounds_toArray, List.set_cons_zero, List.set_cons_succ]
                  refine wpAnyH_take (i := 2) (oi := { dst := some 87, op := Op.move (Operand.tmp 12), type := 3, pos := "cache_wt02c.go:154", after := #[], guard := none }) (v := ?v3) rfl (by kernel_rfl) (by kernel_rfl) (by kernel_rfl) (fun _ _ _ h => h) (Or.inl ⟨by rfl, ?hy3⟩) (by assumption) ?_
                  case hy3 => (intro w hSw; (try dsimp only at hSw); go_simp; (try with_reducible rfl))
                  try simp only [Act.put, List.setIfInBounds_toArray, List.set_cons_zero, List.set_cons_succ]
                  refine wpAnyH_take (i := 3) (oi := { dst := some 88, op := Op.move (Operand.tmp 6), type := 24, pos := "cache_wt02c.go:154", after := #[], guard := none }) (v := ?v4) rfl (by kernel_rfl) (by kernel_rfl) (by kernel_rfl) (fun _ _ _ h => h) (Or.inl ⟨by rfl, ?hy4⟩) (by assumption) ?_
                  case hy4 => (intro w hSw; (try dsimp only at hSw); go_simp; (try with_reducible rfl))
                  try simp only [Act.put, List.setIfInBounds_toArray, List.set_cons_zero, List.set_cons_succ]
                  refine wpAnyH_take (i := 4) (oi := { dst := some 89, op := Op.nilCheck (Operand.tmp 88), type := 0, pos := "cache_wt02c.go:154", after := #[{ on := 3, ground := Ground.data }], guard := none }) (v := ?v5) rfl (by kernel_rfl) (by kernel_rfl) (by kernel_rfl) (fun _ _ _ h => h) (Or.inl ⟨by rfl, ?hy5⟩) (by assumption) ?_
                  case hy5 => (intro w hSw; (try dsimp only at hSw); go_simp; (try with_reducible rfl))
                  try simp only [Act.put, List.setIfInBounds_toArray, List.set_cons_zero, List.set_cons_succ]
                  refine wpAnyH_take (i := 5) (oi := { dst := some 90, op := Op.fieldAddr 38 (Operand.tmp 89) 1, type := 0, pos := "cache_wt02c.go:154", after := #[{ on := 4, ground := Ground.data }], guard := none }) (v := ?v6) rfl (by kernel_rfl) (by kernel_rfl) (by kernel_rfl) (fun _ _ _ h => h) (Or.inl ⟨by rfl, ?hy6⟩) (by assumption) ?_
                  case hy6 => (intro w hSw; (try dsimp only at hSw); go_simp; (try with_reducible rfl))
                  try simp only [Act.put, List.setIfInBounds_toArray, List.set_cons_zero, List.set_cons_succ]
                  refine wpAnyH_take (i := 6) (oi := { dst := some 91, op := Op.load 28 (Operand.tmp 90), type := 28, pos := "cache_wt02c.go:154", after := #[{ on := 5, ground := Ground.data }], guard := none }) (v := ?v7) rfl (by kernel_rfl) (by kernel_rfl) (by kernel_rfl) (fun _ _ _ h => h) (Or.inl ⟨by rfl, ?hy7⟩) (by assumption) ?_
                  case hy7 => (intro w hSw; (try dsimp only at hSw); go_simp; (try with_reducible rfl))
                  try simp only [Act.put, List.setIfInBounds_toArray, List.set_cons_zero, List.set_cons_succ]
                  refine wpAnyH_take (i := 7) (oi := { dst := some 92, op := Op.call { callee := Callee.builtin Builtin.len, args := #[Operand.tmp 91], argTypes := #[28] }, type := 3, pos := "cache_wt02c.go:154", after := #[{ on := 6, ground := Ground.data }], guard := none }) (v := ?v8) rfl (by kernel_rfl) (by kernel_rfl) (by kernel_rfl) (fun _ _ _ h => h) (Or.inl ⟨by rfl, ?hy8⟩) (by assumption) ?_
                  case hy8 => (intro w hSw; (try dsimp only at hSw); go_simp; (try with_reducible rfl))
                  try simp only [Act.put, List.setIfInBounds_toArray, List.set_cons_zero, List.set_cons_succ]
                  refine wpAnyH_take (i := 8) (oi := { dst := some 93, op := Op.binOp BinOp.lss 3 (Operand.tmp 87) (Operand.tmp 92) 3, type := 4, pos := "cache_wt02c.go:154", after := #[{ on := 2, ground := Ground.data }, { on := 7, ground := Ground.data }], guard := none }) (v := ?v9) rfl (by kernel_rfl) (by kernel_rfl) (by kernel_rfl) (fun _ _ _ h => h) (Or.inl ⟨by rfl, ?hy9⟩) (by assumption) ?_
                  case hy9 => (intro w hSw; (try dsimp only at hSw); go_simp; (try with_reducible rfl))
                  try simp only [Act.put, List.setIfInBounds_toArray, List.set_cons_zero, List.set_cons_succ]
                  refine wpAnyH_take (i := 9) (oi := { dst := some 94, op := Op.binOp BinOp.neq 4 (Operand.tmp 86) (Operand.tmp 93) 4, type := 4, pos := "cache_wt02c.go:154", after := #[{ on := 1, ground := Ground.data }, { on := 8, ground := Ground.data }], guard := none }) (v := ?v10) rfl (by kernel_rfl) (by kernel_rfl) (by kernel_rfl) (fun _ _ _ h => h) (Or.inl ⟨by rfl, ?hy10⟩) (by assumption) ?_
                  case hy10 => (intro w hSw; (try dsimp only at hSw); go_simp; (try with_reducible rfl))
                  try simp only [Act.put, List.setIfInBounds_toArray, List.set_cons_zero, List.set_cons_succ]
                  refine wpAnyH_take (i := 10) (oi := { dst := some 95, op := Op.move (Operand.tmp 94), type := 4, pos := "cache_wt02c.go:154", after := #[{ on := 9, ground := Ground.data }], guard := none }) (v := ?v11) rfl (by kernel_rfl) (by kernel_rfl) (by kernel_rfl) (fun _ _ _ h => h) (Or.inl ⟨by rfl, ?hy11⟩) (by assumption) ?_
                  case hy11 => (intro w hSw; (try dsimp only at hSw); go_simp; (try with_reducible rfl))
                  try simp only [Act.put, List.setIfInBounds_toArray, List.set_cons_zero, List.set_cons_succ]
                  refine wpAnyH_take (i := 11) (oi := { dst := some 96, op := Op.fieldAddr 30 (Operand.tmp 13) 0, type := 0, pos := "cache_wt02c.go:154", after := #[{ on := 10, ground := Ground.guard }], guard := some (10, false) }) (v := ?v12) rfl (by kernel_rfl) (by kernel_rfl) (by kernel_rfl) (fun _ _ _ h => h) (Or.inl ⟨by rfl, ?hy12⟩) (by assumption) ?_
                  case hy12 => (intro w hSw; (try dsimp only at hSw); go_simp; (try with_reducible rfl))
                  try simp only [Act.put, List.setIfInBounds_toArray, List.set_cons_zero, List.set_cons_succ]
                  refine wpAnyH_take (i := 12) (oi := { dst := some 97, op := Op.load 4 (Operand.tmp 96), type := 4, pos := "cache_wt02c.go:154", after := #[{ on := 11, ground := Ground.data }, { on := 10, ground := Ground.guard }], guard := some (10, false) }) (v := ?v13) rfl (by kernel_rfl) (by kernel_rfl) (by kernel_rfl) (fun _ _ _ h => h) (Or.inl ⟨by rfl, ?hy13⟩) (by assumption) ?_
                  case hy13 => (intro w hSw; (try dsimp only at hSw); go_simp; (try with_reducible rfl))
                  try simp only [Act.put, List.setIfInBounds_toArray, List.set_cons_zero, List.set_cons_succ]
                  refine wpAnyH_take (i := 13) (oi := { dst := some 98, op := Op.move (Operand.tmp 97), type := 4, pos := "cache_wt02c.go:154", after := #[{ on := 12, ground := Ground.data }, { on := 10, ground := Ground.chain }, { on := 10, ground := Ground.guard }], guard := some (10, false) }) (v := ?v14) rfl (by kernel_rfl) (by kernel_rfl) (by kernel_rfl) (fun _ _ _ h => h) (Or.inl ⟨by rfl, ?hy14⟩) (by assumption) ?_
                  case hy14 => (intro w hSw; (try dsimp only at hSw); go_simp; (try with_reducible rfl))
                  try simp only [Act.put, List.setIfInBounds_toArray, List.set_cons_zero, List.set_cons_succ]
                  refine wpAnyH_take (i := 14) (oi := { dst := some 99, op := Op.fieldAddr 30 (Operand.tmp 13) 1, type := 0, pos := "cache_wt02c.go:154", after := #[{ on := 13, ground := Ground.guard }], guard := some (13, true) }) (v := ?v15) rfl (by kernel_rfl) (by kernel_rfl) (by kernel_rfl) (fun _ _ _ h => h) (Or.inl ⟨by rfl, ?hy15⟩) (by assumption) ?_
                  case hy15 => (intro w hSw; (try dsimp only at hSw); go_simp; (try with_reducible rfl))
                  try simp only [Act.put, List.setIfInBounds_toArray, List.set_cons_zero, List.set_cons_succ]
                  refine wpAnyH_take (i := 15) (oi := { dst := some 100, op := Op.load 3 (Operand.tmp 99), type := 3, pos := "cache_wt02c.go:154", after := #[{ on := 14, ground := Ground.data }, { on := 13, ground := Ground.guard }], guard := some (13, true) }) (v := ?v16) rfl (by kernel_rfl) (by kernel_rfl) (by kernel_rfl) (fun _ _ _ h => h) (Or.inl ⟨by rfl, ?hy16⟩) (by assumption) ?_
                  case hy16 => (intro w hSw; (try dsimp only at hSw); go_simp; (try with_reducible rfl))
                  try simp only [Act.put, List.setIfInBounds_toArray, List.set_cons_zero, List.set_cons_succ]
                  refine wpAnyH_take (i := 16) (oi := { dst := some 101, op := Op.move (Operand.tmp 6), type := 24, pos := "cache_wt02c.go:154", after := #[{ on := 13, ground := Ground.guard }], guard := some (13, true) }) (v := ?v17) rfl (by kernel_rfl) (by kernel_rfl) (by kernel_rfl) (fun _ _ _ h => h) (Or.inl ⟨by rfl, ?hy17⟩) (by assumption) ?_
                  case hy17 => (intro w hSw; (try dsimp only at hSw); go_simp; (try with_reducible rfl))
                  try simp only [Act.put, List.setIfInBounds_toArray, List.set_cons_zero, List.set_cons_succ]
                  refine wpAnyH_take (i := 17) (oi := { dst := some 102, op := Op.nilCheck (Operand.tmp 101), type := 0, pos := "cache_wt02c.go:154", after := #[{ on := 16, ground := Ground.data }, { on := 13, ground := Ground.guard }], guard := some (13, true) }) (v := ?v18) rfl (by kernel_rfl) (by kernel_rfl) (by kernel_rfl) (fun _ _ _ h => h) (Or.inl ⟨by rfl, ?hy18⟩) (by assumption) ?_
                  case hy18 => (intro w hSw; (try dsimp only at hSw); go_simp; (try with_reducible rfl))
                  try simp only [Act.put, List.setIfInBounds_toArray, List.set_cons_zero, List.set_cons_succ]
                  refine wpAnyH_take (i := 18) (oi := { dst := some 103, op := Op.fieldAddr 38 (Operand.tmp 102) 1, type := 0, pos := "cache_wt02c.go:154", after := #[{ on := 17, ground := Ground.data }, { on := 13, ground := Ground.guard }], guard := some (13, true) }) (v := ?v19) rfl (by kernel_rfl) (by kernel_rfl) (by kernel_rfl) (fun _ _ _ h => h) (Or.inl ⟨by rfl, ?hy19⟩) (by assumption) ?_
                  case hy19 => (intro w hSw; (try dsimp only at hSw); go_simp; (try with_reducible rfl))
                  try simp only [Act.put, List.setIfInBounds_toArray, List.set_cons_zero, List.set_cons_succ]
                  refine wpAnyH_take (i := 19) (oi := { dst := some 104, op := Op.load 28 (Operand.tmp 103), type := 28, pos := "cache_wt02c.go:154", after := #[{ on := 18, ground := Ground.data }, { on := 13, ground := Ground.guard }], guard := some (13, true) }) (v := ?v20) rfl (by kernel_rfl) (by kernel_rfl) (by kernel_rfl) (fun _ _ _ h => h) (Or.inl ⟨by rfl, ?hy20⟩) (by assumption) ?_
                  case hy20 => (intro w hSw; (try dsimp only at hSw); go_simp; (try with_reducible rfl))
                  try simp only [Act.put, List.setIfInBounds_toArray, List.set_cons_zero, List.set_cons_succ]
                  refine wpAnyH_take (i := 20) (oi := { dst := some 105, op := Op.move (Operand.tmp 12), type := 3, pos := "cache_wt02c.go:154", after := #[{ on := 13, ground := Ground.guard }], guard := some (13, true) }) (v := ?v21) rfl (by kernel_rfl) (by kernel_rfl) (by kernel_rfl) (fun _ _ _ h => h) (Or.inl ⟨by rfl, ?hy21⟩) (by assumption) ?_
                  case hy21 => (intro w hSw; (try dsimp only at hSw); go_simp; (try with_reducible rfl))
                  try simp only [Act.put, List.setIfInBounds_toArray, List.set_cons_zero, List.set_cons_succ]
                  refine wpAnyH_take (i := 21) (oi := { dst := some 106, op := Op.indexAddr 28 (Operand.tmp 104) (Operand.tmp 105), type := 0, pos := "cache_wt02c.go:154", after := #[{ on := 19, ground := Ground.data }, { on := 20, ground := Ground.data }, { on := 13, ground := Ground.guard }], guard := some (13, true) }) (v := ?v22) rfl (by kernel_rfl) (by kernel_rfl) (by kernel_rfl) (fun _ _ _ h => h) (Or.inl ⟨by rfl, ?hy22⟩) (by assumption) ?_
                  case hy22 => (intro w hSw; (try dsimp only at hSw); go_simp; (try with_reducible rfl))
                  try simp only [Act.put, List.setIfInBounds_toArray, List.set_cons_zero, List.set_cons_succ]
                  refine wpAnyH_take (i := 22) (oi := { dst := some 107, op := Op.indexAddr 39 (Operand.tmp 106) (Operand.const (Value.int IntKind.i64 0)), type := 0, pos := "cache_wt02c.go:154", after := #[{ on := 21, ground := Ground.data }, { on := 13, ground := Ground.guard }], guard := some (13, true) }) (v := ?v23) rfl (by kernel_rfl) (by kernel_rfl) (by kernel_rfl) (fun _ _ _ h => h) (Or.inl ⟨by rfl, ?hy23⟩) (by assumption) ?_
                  case hy23 => (intro w hSw; (try dsimp only at hSw); go_simp; (try with_reducible rfl))
                  try simp only [Act.put, List.setIfInBounds_toArray, List.set_cons_zero, List.set_cons_succ]
                  refine wpAnyH_take (i := 23) (oi := { dst := some 108, op := Op.load 3 (Operand.tmp 107), type := 3, pos := "cache_wt02c.go:154", after := #[{ on := 22, ground := Ground.data }, { on := 13, ground := Ground.guard }], guard := some (13, true) }) (v := ?v24) rfl (by kernel_rfl) (by kernel_rfl) (by kernel_rfl) (fun _ _ _ h => h) (Or.inl ⟨by rfl, ?hy24⟩) (by assumption) ?_
                  case hy24 => (intro w hSw; (try dsimp only at hSw); go_simp; (try with_reducible rfl))
                  try simp only [Act.put, List.setIfInBounds_toArray, List.set_cons_zero, List.set_cons_succ]
                  refine wpAnyH_take (i := 24) (oi := { dst := some 109, op := Op.binOp BinOp.neq 3 (Operand.tmp 100) (Operand.tmp 108) 3, type := 4, pos := "cache_wt02c.go:154", after := #[{ on := 15, ground := Ground.data }, { on := 23, ground := Ground.data }, { on := 13, ground := Ground.guard }], guard := some (13, true) }) (v := ?v25) rfl (by kernel_rfl) (by kernel_rfl) (by kernel_rfl) (fun _ _ _ h => h) (Or.inl ⟨by rfl, ?hy25⟩) (by assumption) ?_
                  case hy25 => (intro w hSw; (try dsimp only at hSw); go_simp; (try with_reducible rfl))
                  try simp only [Act.put, List.setIfInBounds_toArray, List.set_cons_zero, List.set_cons_succ]
                  refine wpAnyH_take (i := 25) (oi := { dst := some 110, op := Op.move (Operand.tmp 109), type := 4, pos := "cache_wt02c.go:154", after := #[{ on := 24, ground := Ground.data }, { on := 13, ground := Ground.chain }, { on := 13, ground := Ground.guard }], guard := some (13, true) }) (v := ?v26) rfl (by kernel_rfl) (by kernel_rfl) (by kernel_rfl) (fun _ _ _ h => h) (Or.inl ⟨by rfl, ?hy26⟩) (by assumption) ?_
                  case hy26 => (intro w hSw; (try dsimp only at hSw); go_simp; (try with_reducible rfl))
                  try simp only [Act.put, List.setIfInBounds_toArray, List.set_cons_zero, List.set_cons_succ]
                  refine wpAnyH_take (i := 26) (oi := { dst := some 111, op := Op.fieldAddr 30 (Operand.tmp 13) 2, type := 0, pos := "cache_wt02c.go:154", after := #[{ on := 25, ground := Ground.guard }], guard := some (25, false) }) (v := ?v27) rfl (by kernel_rfl) (by kernel_rfl) (by kernel_rfl) (fun _ _ _ h => h) (Or.inl ⟨by rfl, ?hy27⟩) (by assumption) ?_
                  case hy27 => (intro w hSw; (try dsimp only at hSw); go_simp; (try with_reducible rfl))
                  try simp only [Act.put, List.setIfInBounds_toArray, List.set_cons_zero, List.set_cons_succ]
                  refine wpAnyH_take (i := 27) (oi := { dst := some 112, op := Op.load 3 (Operand.tmp 111), type := 3, pos := "cache_wt02c.go:154", after := #[{ on := 26, ground := Ground.data }, { on := 25, ground := Ground.guard }], guard := some (25, false) }) (v := ?v28) rfl (by kernel_rfl) (by kernel_rfl) (by kernel_rfl) (fun _ _ _ h => h) (Or.inl ⟨by rfl, ?hy28⟩) (by assumption) ?_
                  case hy28 => (intro w hSw; (try dsimp only at hSw); go_simp; (try with_reducible rfl))
                  try simp only [Act.put, List.setIfInBounds_toArray, List.set_cons_zero, List.set_cons_succ]
                  refine wpAnyH_take (i := 28) (oi := { dst := some 113, op := Op.move (Operand.tmp 6), type := 24, pos := "cache_wt02c.go:154", after := #[{ on := 25, ground := Ground.guard }], guard := some (25, false) }) (v := ?v29) rfl (by kernel_rfl) (by kernel_rfl) (by kernel_rfl) (fun _ _ _ h => h) (Or.inl ⟨by rfl, ?hy29⟩) (by assumption) ?_
                  case hy29 => (intro w hSw; (try dsimp only at hSw); go_simp; (try with_reducible rfl))
                  try simp only [Act.put, List.setIfInBounds_toArray, List.set_cons_zero, List.set_cons_succ]
                  refine wpAnyH_take (i := 29) (oi := { dst := some 114, op := Op.nilCheck (Operand.tmp 113), type := 0, pos := "cache_wt02c.go:154", after := #[{ on := 28, ground := Ground.data }, { on := 25, ground := Ground.guard }], guard := some (25, false) }) (v := ?v30) rfl (by kernel_rfl) (by kernel_rfl) (by kernel_rfl) (fun _ _ _ h => h) (Or.inl ⟨by rfl, ?hy30⟩) (by assumption) ?_
                  case hy30 => (intro w hSw; (try dsimp only at hSw); go_simp; (try with_reducible rfl))
                  try simp only [Act.put, List.setIfInBounds_toArray, List.set_cons_zero, List.set_cons_succ]
                  refine wpAnyH_take (i := 30) (oi := { dst := some 115, op := Op.fieldAddr 38 (Operand.tmp 114) 1, type := 0, pos := "cache_wt02c.go:154", after := #[{ on := 29, ground := Ground.data }, { on := 25, ground := Ground.guard }], guard := some (25, false) }) (v := ?v31) rfl (by kernel_rfl) (by kernel_rfl) (by kernel_rfl) (fun _ _ _ h => h) (Or.inl ⟨by rfl, ?hy31⟩) (by assumption) ?_
                  case hy31 => (intro w hSw; (try dsimp only at hSw); go_simp; (try with_reducible rfl))
                  try simp only [Act.put, List.setIfInBounds_toArray, List.set_cons_zero, List.set_cons_succ]
                  refine wpAnyH_take (i := 31) (oi := { dst := some 116, op := Op.load 28 (Operand.tmp 115), type := 28, pos := "cache_wt02c.go:154", after := #[{ on := 30, ground := Ground.data }, { on := 25, ground := Ground.guard }], guard := some (25, false) }) (v := ?v32) rfl (by kernel_rfl) (by kernel_rfl) (by kernel_rfl) (fun _ _ _ h => h) (Or.inl ⟨by rfl, ?hy32⟩) (by assumption) ?_
                  case hy32 => (intro w hSw; (try dsimp only at hSw); go_simp; (try with_reducible rfl))
                  try simp only [Act.put, List.setIfInBounds_toArray, List.set_cons_zero, List.set_cons_succ]
                  refine wpAnyH_take (i := 32) (oi := { dst := some 117, op := Op.move (Operand.tmp 12), type := 3, pos := "cache_wt02c.go:154", after := #[{ on := 25, ground := Ground.guard }], guard := some (25, false) }) (v := ?v33) rfl (by kernel_rfl) (by kernel_rfl) (by kernel_rfl) (fun _ _ _ h => h) (Or.inl ⟨by rfl, ?hy33⟩) (by assumption) ?_
                  case hy33 => (intro w hSw; (try dsimp only at hSw); go_simp; (try with_reducible rfl))
                  try simp only [Act.put, List.setIfInBounds_toArray, List.set_cons_zero, List.set_cons_succ]
                  refine wpAnyH_take (i := 33) (oi := { dst := some 118, op := Op.indexAddr 28 (Operand.tmp 116) (Operand.tmp 117), type := 0, pos := "cache_wt02c.go:154", after := #[{ on := 31, ground := Ground.data }, { on := 32, ground := Ground.data }, { on := 25, ground := Ground.guard }], guard := some (25, false) }) (v := ?v34) rfl (by kernel_rfl) (by kernel_rfl) (by kernel_rfl) (fun _ _ _ h => h) (Or.inl ⟨by rfl, ?hy34⟩) (by assumption) ?_
                  case hy34 => (intro w hSw; (try dsimp only at hSw); go_simp; (try with_reducible rfl))
                  try simp only [Act.put, List.setIfInBounds_toArray, List.set_cons_zero, List.set_cons_succ]
                  refine wpAnyH_take (i := 34) (oi := { dst := some 119, op := Op.indexAddr 39 (Operand.tmp 118) (Operand.const (Value.int IntKind.i64 1)), type := 0, pos := "cache_wt02c.go:154", after := #[{ on := 33, ground := Ground.data }, { on := 25, ground := Ground.guard }], guard := some (25, false) }) (v := ?v35) rfl (by kernel_rfl) (by kernel_rfl) (by kernel_rfl) (fun _ _ _ h => h) (Or.inl ⟨by rfl, ?hy35⟩) (by assumption) ?_
                  case hy35 => (intro w hSw; (try dsimp only at hSw); go_simp; (try with_reducible rfl))
                  try simp only [Act.put, List.setIfInBounds_toArray, List.set_cons_zero, List.set_cons_succ]
                  refine wpAnyH_take (i := 35) (oi := { dst := some 120, op := Op.load 3 (Operand.tmp 119), type := 3, pos := "cache_wt02c.go:154", after := #[{ on := 34, ground := Ground.data }, { on := 25, ground := Ground.guard }], guard := some (25, false) }) (v := ?v36) rfl (by kernel_rfl) (by kernel_rfl) (by kernel_rfl) (fun _ _ _ h => h) (Or.inl ⟨by rfl, ?hy36⟩) (by assumption) ?_
                  case hy36 => (intro w hSw; (try dsimp only at hSw); go_simp; (try with_reducible rfl))
                  try simp only [Act.put, List.setIfInBounds_toArray, List.set_cons_zero, List.set_cons_succ]
                  refine wpAnyH_take (i := 36) (oi := { dst := some 121, op := Op.binOp BinOp.neq 3 (Operand.tmp 112) (Operand.tmp 120) 3, type := 4, pos := "cache_wt02c.go:154", after := #[{ on := 27, ground := Ground.data }, { on := 35, ground := Ground.data }, { on := 25, ground := Ground.guard }], guard := some (25, false) }) (v := ?v37) rfl (by kernel_rfl) (by kernel_rfl) (by kernel_rfl) (fun _ _ _ h => h) (Or.inl ⟨by rfl, ?hy37⟩) (by assumption) ?_
                  case hy37 => (intro w hSw; (try dsimp only at hSw); go_simp; (try with_reducible rfl))
                  try simp only [Act.put, List.setIfInBounds_toArray, List.set_cons_zero, List.set_cons_succ]
                  refine wpAnyH_take (i := 37) (oi := { dst := some 122, op := Op.pick (Operand.tmp 110) (Operand.const (Value.bool true)) (Operand.tmp 121), type := 4, pos := "cache_wt02c.go:154", after := #[{ on := 25, ground := Ground.data }, { on := 36, ground := Ground.data }, { on := 13, ground := Ground.guard }], guard := some (13, true) }) (v := ?v38) rfl (by kernel_rfl) (by kernel_rfl) (by kernel_rfl) (fun _ _ _ h => h) (Or.inl ⟨by rfl, ?hy38⟩) (by assumption) ?_
                  case hy38 => (intro w hSw; (try dsimp only at hSw); go_simp; (try with_reducible rfl))
                  try simp only [Act.put, List.setIfInBounds_toArray, List.set_cons_zero, List.set_cons_succ]
                  refine wpAnyH_take (i := 38) (oi := { dst := some 123, op := Op.pick (Operand.tmp 98) (Operand.tmp 122) (Operand.const (Value.bool false)), type := 4, pos := "cache_wt02c.go:154", after := #[{ on := 13, ground := Ground.data }, { on := 37, ground := Ground.data }, { on := 10, ground := Ground.guard }], guard := some (10, false) }) (v := ?v39) rfl (by kernel_rfl) (by kernel_rfl) (by kernel_rfl) (fun _ _ _ h => h) (Or.inl ⟨by rfl, ?hy39⟩) (by assumption) ?_
                  case hy39 => (intro w hSw; (try dsimp only at hSw); go_simp; (try with_reducible rfl))
                  try simp only [Act.put, List.setIfInBounds_toArray, List.set_cons_zero, List.set_cons_succ]
                  refine wpAnyH_take (i := 39) (oi := { dst := some 124, op := Op.pick (Operand.tmp 95) (Operand.const (Value.bool true)) (Operand.tmp 123), type := 4, pos := "cache_wt02c.go:154", after := #[{ on := 10, ground := Ground.data }, { on := 38, ground := Ground.data }], guard := none }) (v := ?v40) rfl (by kernel_rfl) (by kernel_rfl) (by kernel_rfl) (fun _ _ _ h => h) (Or.inl ⟨by rfl, ?hy40⟩) (by assumption) ?_
                  case hy40 => (intro w hSw; (try dsimp only at hSw); go_simp; (try with_reducible rfl))
                  try simp only [Act.put, List.setIfInBounds_toArray, List.set_cons_zero, List.set_cons_succ]
                  refine wpAnyH_done (by kernel_rfl) ?_ _
                  refine NoPanic.normal ?_
                  go_wp2_with fail
                  go_roundw
                  case rel => exact ⟨i + 1, by omega, by go_num, HQ3⟩
                  case measure => simp [intOf]; omega
                · have hTT := HT.out
                  rw [List.drop_eq_nil_of_le (by omega)] at hTT
                  unfold told at hTT
                  simp only at hTT
                  rw [E0.out] at hTT
                  injection hTT with hTT
                  subst hTT
                  have d1 : decide (i < (runE n l).length) = false := decide_eq_false hiE
                  clear HT E0 E1 E2
                  have HQ3 := Lib.hid (show Below w5.heap.size w5 wv.drew from HQ2.out.trans (Below.drewK _ wv 1))
                  go_wp2_with fail
                  refine wp_region_noPanic ?_
                  refine wp_region_held_drew (S := (fun w' : World => w'.cell? ⟨wt.heap.size, 0, none⟩ = some (.bool false) ∧ w'.cell? ⟨cb, 1, none⟩ = some (.slice Ae (runE n l).length ce))) (by kernel_rfl) (by exact ⟨g0, f1⟩) (fun hHeld => ?_)
                  generalize hwd : wv.drew = wd at *
                  clear hwd
                  refine wpAnyH_take (i := 0) (oi := { dst := some 85, op := Op.fieldAddr 30 (Operand.tmp 13) 0, type := 0, pos := "cache_wt02c.go:154", after := #[], guard := none }) (v := ?v201) rfl (by kernel_rfl) (by kernel_rfl) (by kernel_rfl) (fun _ _ _ h => h) (Or.inl ⟨by rfl, ?hy201⟩) (by assumption) ?_
                  case hy201 => (intro w hSw; (try dsimp only at hSw); go_simp; (try with_reducible rfl))
                  try simp only [Act.put, List.setIfInBounds_toArray, List.set_cons_zero, List.set_cons_succ]
                  refine wpAnyH_take (i := 1) (oi := { dst := some 86, op := Op.load 4 (Operand.tmp 85), type := 4, pos := "cache_wt02c.go:154", after := #[{ on := 0, ground := Ground.data }], guard := none }) (v := ?v202) rfl (by kernel_rfl) (by kernel_rfl) (by kernel_rfl) (fun _ _ _ h => h) (Or.inl ⟨by rfl, ?hy202⟩) (by assumption) ?_
                  case hy202 => (intro w hSw; (try dsimp only at hSw); go_simp; (try with_reducible rfl))
                  try simp only [Act.put, List.setIfInBounds_toArray, List.set_cons_zero, List.set_cons_succ]
                  refine wpAnyH_take (i := 2) (oi := { dst := some 87, op := Op.move (Operand.tmp 12), type := 3, pos := "cache_wt02c.go:154", after := #[], guard := none }) (v := ?v203) rfl (by kernel_rfl) (by kernel_rfl) (by kernel_rfl) (fun _ _ _ h => h) (Or.inl ⟨by rfl, ?hy203⟩) (by assumption) ?_
                  case hy203 => (intro w hSw; (try dsimp only at hSw); go_simp; (try with_reducible rfl))
                  try simp only [Act.put, List.setIfInBounds_toArray, List.set_cons_zero, List.set_cons_succ]
                  refine wpAnyH_take (i := 3) (oi := { dst := some 88, op := Op.move (Operand.tmp 6), type := 24, pos := "cache_wt02c.go:154", after := #[], guard := none }) (v := ?v204) rfl (by kernel_rfl) (by kernel_rfl) (by kernel_rfl) (fun _ _ _ h => h) (Or.inl ⟨by rfl, ?hy204⟩) (by assumption) ?_
                  case hy204 => (intro w hSw; (try dsimp only at hSw); go_simp; (try with_reducible rfl))
                  try simp only [Act.put, List.setIfInBounds_toArray, List.set_cons_zero, List.set_cons_succ]
                  refine wpAnyH_take (i := 4) (oi := { dst := some 89, op := Op.nilCheck (Operand.tmp 88), type := 0, pos := "cache_wt02c.go:154", after := #[{ on := 3, ground := Ground.data }], guard := none }) (v := ?v205) rfl (by kernel_rfl) (by kernel_rfl) (by kernel_rfl) (fun _ _ _ h => h) (Or.inl ⟨by rfl, ?hy205⟩) (by assumption) ?_
                  case hy205 => (intro w hSw; (try dsimp only at hSw); go_simp; (try with_reducible rfl))
                  try simp only [Act.put, List.setIfInBounds_toArray, List.set_cons_zero, List.set_cons_succ]
                  refine wpAnyH_take (i := 5) (oi := { dst := some 90, op := Op.fieldAddr 38 (Operand.tmp 89) 1, type := 0, pos := "cache_wt02c.go:154", after := #[{ on := 4, ground := Ground.data }], guard := none }) (v := ?v206) rfl (by kernel_rfl) (by kernel_rfl) (by kernel_rfl) (fun _ _ _ h => h) (Or.inl ⟨by rfl, ?hy206⟩) (by assumption) ?_
                  case hy206 => (intro w hSw; (try dsimp only at hSw); go_simp; (try with_reducible rfl))
                  try simp only [Act.put, List.setIfInBounds_toArray, List.set_cons_zero, List.set_cons_succ]
                  refine wpAnyH_take (i := 6) (oi := { dst := some 91, op := Op.load 28 (Operand.tmp 90), type := 28, pos := "cache_wt02c.go:154", after := #[{ on := 5, ground := Ground.data }], guard := none }) (v := ?v207) rfl (by kernel_rfl) (by kernel_rfl) (by kernel_rfl) (fun _ _ _ h => h) (Or.inl ⟨by rfl, ?hy207⟩) (by assumption) ?_
                  case hy207 => (intro w hSw; (try dsimp only at hSw); go_simp; (try with_reducible rfl))
                  try simp only [Act.put, List.setIfInBounds_toArray, List.set_cons_zero, List.set_cons_succ]
                  refine wpAnyH_take (i := 7) (oi := { dst := some 92, op := Op.call { callee := Callee.builtin Builtin.len, args := #[Operand.tmp 91], argTypes := #[28] }, type := 3, pos := "cache_wt02c.go:154", after := #[{ on := 6, ground := Ground.data }], guard := none }) (v := ?v208) rfl (by kernel_rfl) (by kernel_rfl) (by kernel_rfl) (fun _ _ _ h => h) (Or.inl ⟨by rfl, ?hy208⟩) (by assumption) ?_
                  case hy208 => (intro w hSw; (try dsimp only at hSw); go_simp; (try with_reducible rfl))
                  try simp only [Act.put, List.setIfInBounds_toArray, List.set_cons_zero, List.set_cons_succ]
                  refine wpAnyH_take (i := 8) (oi := { dst := some 93, op := Op.binOp BinOp.lss 3 (Operand.tmp 87) (Operand.tmp 92) 3, type := 4, pos := "cache_wt02c.go:154", after := #[{ on := 2, ground := Ground.data }, { on := 7, ground := Ground.data }], guard := none }) (v := ?v209) rfl (by kernel_rfl) (by kernel_rfl) (by kernel_rfl) (fun _ _ _ h => h) (Or.inl ⟨by rfl, ?hy209⟩) (by assumption) ?_
                  case hy209 => (intro w hSw; (try dsimp only at hSw); go_simp; (try with_reducible rfl))
                  try simp only [Act.put, List.setIfInBounds_toArray, List.set_cons_zero, List.set_cons_succ]
                  refine wpAnyH_take (i := 9) (oi := { dst := some 94, op := Op.binOp BinOp.neq 4 (Operand.tmp 86) (Operand.tmp 93) 4, type := 4, pos := "cache_wt02c.go:154", after := #[{ on := 1, ground := Ground.data }, { on := 8, ground := Ground.data }], guard := none }) (v := ?v210) rfl (by kernel_rfl) (by kernel_rfl) (by kernel_rfl) (fun _ _ _ h => h) (Or.inl ⟨by rfl, ?hy210⟩) (by assumption) ?_
                  case hy210 => (intro w hSw; (try dsimp only at hSw); go_simp; (try with_reducible rfl))
                  try simp only [Act.put, List.setIfInBounds_toArray, List.set_cons_zero, List.set_cons_succ]
                  refine wpAnyH_take (i := 10) (oi := { dst := some 95, op := Op.move (Operand.tmp 94), type := 4, pos := "cache_wt02c.go:154", after := #[{ on := 9, ground := Ground.data }], guard := none }) (v := ?v211) rfl (by kernel_rfl) (by kernel_rfl) (by kernel_rfl) (fun _ _ _ h => h) (Or.inl ⟨by rfl, ?hy211⟩) (by assumption) ?_
                  case hy211 => (intro w hSw; (try dsimp only at hSw); go_simp; (try with_reducible rfl))
                  try simp only [Act.put, List.setIfInBounds_toArray, List.set_cons_zero, List.set_cons_succ]
                  refine wpAnyH_take (i := 11) (oi := { dst := some 96, op := Op.fieldAddr 30 (Operand.tmp 13) 0, type := 0, pos := "cache_wt02c.go:154", after := #[{ on := 10, ground := Ground.guard }], guard := some (10, false) }) (v := ?v212) rfl (by kernel_rfl) (by kernel_rfl) (by kernel_rfl) (fun _ _ _ h => h) (Or.inl ⟨by rfl, ?hy212⟩) (by assumption) ?_
                  case hy212 => (intro w hSw; (try dsimp only at hSw); go_simp; (try with_reducible rfl))
                  try simp only [Act.put, List.setIfInBounds_toArray, List.set_cons_zero, List.set_cons_succ]
                  refine wpAnyH_take (i := 12) (oi := { dst := some 97, op := Op.load 4 (Operand.tmp 96), type := 4, pos := "cache_wt02c.go:154", after := #[{ on := 11, ground := Ground.data }, { on := 10, ground := Ground.guard }], guard := some (10, false) }) (v := ?v213) rfl (by kernel_rfl) (by kernel_rfl) (by kernel_rfl) (fun _ _ _ h => h) (Or.inl ⟨by rfl, ?hy213⟩) (by assumption) ?_
                  case hy213 => (intro w hSw; (try dsimp only at hSw); go_simp; (try with_reducible rfl))
                  try simp only [Act.put, List.setIfInBounds_toArray, List.set_cons_zero, List.set_cons_succ]
                  refine wpAnyH_take (i := 13) (oi := { dst := some 98, op := Op.move (Operand.tmp 97), type := 4, pos := "cache_wt02c.go:154", after := #[{ on := 12, ground := Ground.data }, { on := 10, ground := Ground.chain }, { on := 10, ground := Ground.guard }], guard := some (10, false) }) (v := ?v214) rfl (by kernel_rfl) (by kernel_rfl) (by kernel_rfl) (fun _ _ _ h => h) (Or.inl ⟨by rfl, ?hy214⟩) (by assumption) ?_
                  case hy214 => (intro w hSw; (try dsimp only at hSw); go_simp; (try with_reducible rfl))
                  try simp only [Act.put, List.setIfInBounds_toArray, List.set_cons_zero, List.set_cons_succ]
                  refine wpAnyH_take (i := 14) (oi := { dst := some 99, op := Op.fieldAddr 30 (Operand.tmp 13) 1, type := 0, pos := "cache_wt02c.go:154", after := #[{ on := 13, ground := Ground.guard }], guard := some (13, true) }) (v := undef) rfl (by kernel_rfl) (by kernel_rfl) (by kernel_rfl) (fun _ _ _ h => h) (Or.inr ⟨by rfl, rfl⟩) (by assumption) ?_
                  try simp only [Act.put, List.setIfInBounds_toArray, List.set_cons_zero, List.set_cons_succ]
                  refine wpAnyH_take (i := 15) (oi := { dst := some 100, op := Op.load 3 (Operand.tmp 99), type := 3, pos := "cache_wt02c.go:154", after := #[{ on := 14, ground := Ground.data }, { on := 13, ground := Ground.guard }], guard := some (13, true) }) (v := undef) rfl (by kernel_rfl) (by kernel_rfl) (by kernel_rfl) (fun _ _ _ h => h) (Or.inr ⟨by rfl, rfl⟩) (by assumption) ?_
                  try simp only [Act.put, List.setIfInBounds_toArray, List.set_cons_zero, List.set_cons_succ]
                  refine wpAnyH_take (i := 16) (oi := { dst := some 101, op := Op.move (Operand.tmp 6), type := 24, pos := "cache_wt02c.go:154", after := #[{ on := 13, ground := Ground.guard }], guard := some (13, true) }) (v := undef) rfl (by kernel_rfl) (by kernel_rfl) (by kernel_rfl) (fun _ _ _ h => h) (Or.inr ⟨by rfl, rfl⟩) (by assumption) ?_
                  try simp only [Act.put, List.setIfInBounds_toArray, List.set_cons_zero, List.set_cons_succ]
                  refine wpAnyH_take (i := 17) (oi := { dst := some 102, op := Op.nilCheck (Operand.tmp 101), type := 0, pos := "cache_wt02c.go:154", after := #[{ on := 16, ground := Ground.data }, { on := 13, ground := Ground.guard }], guard := some (13, true) }) (v := undef) rfl (by kernel_rfl) (by kernel_rfl) (by kernel_rfl) (fun _ _ _ h => h) (Or.inr ⟨by rfl, rfl⟩) (by assumption) ?_
                  try simp only [Act.put, List.setIfInBounds_toArray, List.set_cons_zero, List.set_cons_succ]
                  refine wpAnyH_take (i := 18) (oi := { dst := some 103, op := Op.fieldAddr 38 (Operand.tmp 102) 1, type := 0, pos := "cache_wt02c.go:154", after := #[{ on := 17, ground := Ground.data }, { on := 13, ground := Ground.guard }], guard := some (13, true) }) (v := undef) rfl (by kernel_rfl) (by kernel_rfl) (by kernel_rfl) (fun _ _ _ h => h) (Or.inr ⟨by rfl, rfl⟩) (by assumption) ?_
                  try simp only [Act.put, List.setIfInBounds_toArray, List.set_cons_zero, List.set_cons_succ]
                  refine wpAnyH_take (i := 19) (oi := { dst := some 104, op := Op.load 28 (Operand.tmp 103), type := 28, pos := "cache_wt02c.go:154", after := #[{ on := 18, ground := Ground.data }, { on := 13, ground := Ground.guard }], guard := some (13, true) }) (v := undef) rfl (by kernel_rfl) (by kernel_rfl) (by kernel_rfl) (fun _ _ _ h => h) (Or.inr ⟨by rfl, rfl⟩) (by assumption) ?_
                  try simp only [Act.put, List.setIfInBounds_toArray, List.set_cons_zero, List.set_cons_succ]
                  refine wpAnyH_take (i := 20) (oi := { dst := some 105, op := Op.move (Operand.tmp 12), type := 3, pos := "cache_wt02c.go:154", after := #[{ on := 13, ground := Ground.guard }], guard := some (13, true) }) (v := undef) rfl (by kernel_rfl) (by kernel_rfl) (by kernel_rfl) (fun _ _ _ h => h) (Or.inr ⟨by rfl, rfl⟩) (by assumption) ?_
                  try simp only [Act.put, List.setIfInBounds_toArray, List.set_cons_zero, List.set_cons_succ]
                  refine wpAnyH_take (i := 21) (oi := { dst := some 106, op := Op.indexAddr 28 (Operand.tmp 104) (Operand.tmp 105), type := 0, pos := "cache_wt02c.go:154", after := #[{ on := 19, ground := Ground.data }, { on := 20, ground := Ground.data }, { on := 13, ground := Ground.guard }], guard := some (13, true) }) (v := undef) rfl (by kernel_rfl) (by kernel_rfl) (by kernel_rfl) (fun _ _ _ h => h) (Or.inr ⟨by rfl, rfl⟩) (by assumption) ?_
                  try simp only [Act.put, List.setIfInBounds_toArray, List.set_cons_zero, List.set_cons_succ]
                  refine wpAnyH_take (i := 22) (oi := { dst := some 107, op := Op.indexAddr 39 (Operand.tmp 106) (Operand.const (Value.int IntKind.i64 0)), type := 0, pos := "cache_wt02c.go:154", after := #[{ on := 21, ground := Ground.data }, { on := 13, ground := Ground.guard }], guard := some (13, true) }) (v := undef) rfl (by kernel_rfl) (by kernel_rfl) (by kernel_rfl) (fun _ _ _ h => h) (Or.inr ⟨by rfl, rfl⟩) (by assumption) ?_
                  try simp only [Act.put, List.setIfInBounds_toArray, List.set_cons_zero, List.set_cons_succ]
                  refine wpAnyH_take (i := 23) (oi := { dst := some 108, op := Op.load 3 (Operand.tmp 107), type := 3, pos := "cache_wt02c.go:154", after := #[{ on := 22, ground := Ground.data }, { on := 13, ground := Ground.guard }], guard := some (13, true) }) (v := undef) rfl (by kernel_rfl) (by kernel_rfl) (by kernel_rfl) (fun _ _ _ h => h) (Or.inr ⟨by rfl, rfl⟩) (by assumption) ?_
                  try simp only [Act.put, List.setIfInBounds_toArray, List.set_cons_zero, List.set_cons_succ]
                  refine wpAnyH_take (i := 24) (oi := { dst := some 109, op := Op.binOp BinOp.neq 3 (Operand.tmp 100) (Operand.tmp 108) 3, type := 4, pos := "cache_wt02c.go:154", after := #[{ on := 15, ground := Ground.data }, { on := 23, ground := Ground.data }, { on := 13, ground := Ground.guard }], guard := some (13, true) }) (v := undef) rfl (by kernel_rfl) (by kernel_rfl) (by kernel_rfl) (fun _ _ _ h => h) (Or.inr ⟨by rfl, rfl⟩) (by assumption) ?_
                  try simp only [Act.put, List.setIfInBounds_toArray, List.set_cons_zero, List.set_cons_succ]
                  refine wpAnyH_take (i := 25) (oi := { dst := some 110, op := Op.move (Operand.tmp 109), type := 4, pos := "cache_wt02c.go:154", after := #[{ on := 24, ground := Ground.data }, { on := 13, ground := Ground.chain }, { on := 13, ground := Ground.guard }], guard := some (13, true) }) (v := undef) rfl (by kernel_rfl) (by kernel_rfl) (by kernel_rfl) (fun _ _ _ h => h) (Or.inr ⟨by rfl, rfl⟩) (by assumption) ?_
                  try simp only [Act.put, List.setIfInBounds_toArray, List.set_cons_zero, List.set_cons_succ]
                  refine wpAnyH_take (i := 26) (oi := { dst := some 111, op := Op.fieldAddr 30 (Operand.tmp 13) 2, type := 0, pos := "cache_wt02c.go:154", after := #[{ on := 25, ground := Ground.guard }], guard := some (25, false) }) (v := undef) rfl (by kernel_rfl) (by kernel_rfl) (by kernel_rfl) (fun _ _ _ h => h) (Or.inr ⟨by rfl, rfl⟩) (by assumption) ?_
                  try simp only [Act.put, List.setIfInBounds_toArray, List.set_cons_zero, List.set_cons_succ]
                  refine wpAnyH_take (i := 27) (oi := { dst := some 112, op := Op.load 3 (Operand.tmp 111), type := 3, pos := "cache_wt02c.go:154", after := #[{ on := 26, ground := Ground.data }, { on := 25, ground := Ground.guard }], guard := some (25, false) }) (v := undef) rfl (by kernel_rfl) (by kernel_rfl) (by kernel_rfl) (fun _ _ _ h => h) (Or.inr ⟨by rfl, rfl⟩) (by assumption) ?_
                  try simp only [Act.put, List.setIfInBounds_toArray, List.set_cons_zero, List.set_cons_succ]
                  refine wpAnyH_take (i := 28) (oi := { dst := some 113, op := Op.move (Operand.tmp 6), type := 24, pos := "cache_wt02c.go:154", after := #[{ on := 25, ground := Ground.guard }], guard := some (25, false) }) (v := undef) rfl (by kernel_rfl) (by kernel_rfl) (by kernel_rfl) (fun _ _ _ h => h) (Or.inr ⟨by rfl, rfl⟩) (by assumption) ?_
                  try simp only [Act.put, List.setIfInBounds_toArray, List.set_cons_zero, List.set_cons_succ]
                  refine wpAnyH_take (i := 29) (oi := { dst := some 114, op := Op.nilCheck (Operand.tmp 113), type := 0, pos := "cache_wt02c.go:154", after := #[{ on := 28, ground := Ground.data }, { on := 25, ground := Ground.guard }], guard := some (25, false) }) (v := undef) rfl (by kernel_rfl) (by kernel_rfl) (by kernel_rfl) (fun _ _ _ h => h) (Or.inr ⟨by rfl, rfl⟩) (by assumption) ?_
                  try simp only [Act.put, List.setIfInBounds_toArray, List.set_cons_zero, List.set_cons_succ]
                  refine wpAnyH_take (i := 30) (oi := { dst := some 115, op := Op.fieldAddr 38 (Operand.tmp 114) 1, type := 0, pos := "cache_wt02c.go:154", after := #[{ on := 29, ground := Ground.data }, { on := 25, ground := Ground.guard }], guard := some (25, false) }) (v := undef) rfl (by kernel_rfl) (by kernel_rfl) (by kernel_rfl) (fun _ _ _ h => h) (Or.inr ⟨by rfl, rfl⟩) (by assumption) ?_
                  try simp only [Act.put, List.setIfInBounds_toArray, List.set_cons_zero, List.set_cons_succ]
                  refine wpAnyH_take (i := 31) (oi := { dst := some 116, op := Op.load 28 (Operand.tmp 115), type := 28, pos := "cache_wt02c.go:154", after := #[{ on := 30, ground := Ground.data }, { on := 25, ground := Ground.guard }], guard := some (25, false) }) (v := undef) rfl (by kernel_rfl) (by kernel_rfl) (by kernel_rfl) (fun _ _ _ h => h) (Or.inr ⟨by rfl, rfl⟩) (by assumption) ?_
                  try simp only [Act.put, List.setIfInBounds_toArray, List.set_cons_zero, List.set_cons_succ]
                  refine wpAnyH_take (i := 32) (oi := { dst := some 117, op := Op.move (Operand.tmp 12), type := 3, pos := "cache_wt02c.go:154", after := #[{ on := 25, ground := Ground.guard }], guard := some (25, false) }) (v := undef) rfl (by kernel_rfl) (by kernel_rfl) (by kernel_rfl) (fun _ _ _ h => h) (Or.inr ⟨by rfl, rfl⟩) (by assumption) ?_
                  try simp only [Act.put, List.setIfInBounds_toArray, List.set_cons_zero, List.set_cons_succ]
                  refine wpAnyH_take (i := 33) (oi := { dst := some 118, op := Op.indexAddr 28 (Operand.tmp 116) (Operand.tmp 117), type := 0, pos := "cache_wt02c.go:154", after := #[{ on := 31, ground := Ground.data }, { on := 32, ground := Ground.data }, { on := 25, ground := Ground.guard }], guard := some (25, false) }) (v := undef) rfl (by kernel_rfl) (by kernel_rfl) (by kernel_rfl) (fun _ _ _ h => h) (Or.inr ⟨by rfl, rfl⟩) (by assumption) ?_
                  try simp only [Act.put, List.setIfInBounds_toArray, List.set_cons_zero, List.set_cons_succ]
                  refine wpAnyH_take (i := 34) (oi := { dst := some 119, op := Op.indexAddr 39 (Operand.tmp 118) (Operand.const (Value.int IntKind.i64 1)), type := 0, pos := "cache_wt02c.go:154", after := #[{ on := 33, ground := Ground.data }, { on := 25, ground := Ground.guard }], guard := some (25, false) }) (v := undef) rfl (by kernel_rfl) (by kernel_rfl) (by kernel_rfl) (fun _ _ _ h => h) (Or.inr ⟨by rfl, rfl⟩) (by assumption) ?_
                  try simp only [Act.put, List.setIfInBounds_toArray, List.set_cons_zero, List.set_cons_succ]
                  refine wpAnyH_take (i := 35) (oi := { dst := some 120, op := Op.load 3 (Operand.tmp 119), type := 3, pos := "cache_wt02c.go:154", after := #[{ on := 34, ground := Ground.data }, { on := 25, ground := Ground.guard }], guard := some (25, false) }) (v := undef) rfl (by kernel_rfl) (by kernel_rfl) (by kernel_rfl) (fun _ _ _ h => h) (Or.inr ⟨by rfl, rfl⟩) (by assumption) ?_
                  try simp only [Act.put, List.setIfInBounds_toArray, List.set_cons_zero, List.set_cons_succ]
                  refine wpAnyH_take (i := 36) (oi := { dst := some 121, op := Op.binOp BinOp.neq 3 (Operand.tmp 112) (Operand.tmp 120) 3, type := 4, pos := "cache_wt02c.go:154", after := #[{ on := 27, ground := Ground.data }, { on := 35, ground := Ground.data }, { on := 25, ground := Ground.guard }], guard := some (25, false) }) (v := undef) rfl (by kernel_rfl) (by kernel_rfl) (by kernel_rfl) (fun _ _ _ h => h) (Or.inr ⟨by rfl, rfl⟩) (by assumption) ?_
                  try simp only [Act.put, List.setIfInBounds_toArray, List.set_cons_zero, List.set_cons_succ]
                  refine wpAnyH_take (i := 37) (oi := { dst := some 122, op := Op.pick (Operand.tmp 110) (Operand.const (Value.bool true)) (Operand.tmp 121), type := 4, pos := "cache_wt02c.go:154", after := #[{ on := 25, ground := Ground.data }, { on := 36, ground := Ground.data }, { on := 13, ground := Ground.guard }], guard := some (13, true) }) (v := undef) rfl (by kernel_rfl) (by kernel_rfl) (by kernel_rfl) (fun _ _ _ h => h) (Or.inr ⟨by rfl, rfl⟩) (by assumption) ?_
                  try simp only [Act.put, List.setIfInBounds_toArray, List.set_cons_zero, List.set_cons_succ]
                  refine wpAnyH_take (i := 38) (oi := { dst := some 123, op := Op.pick (Operand.tmp 98) (Operand.tmp 122) (Operand.const (Value.bool false)), type := 4, pos := "cache_wt02c.go:154", after := #[{ on := 13, ground := Ground.data }, { on := 37, ground := Ground.data }, { on := 10, ground := Ground.guard }], guard := some (10, false) }) (v := ?v215) rfl (by kernel_rfl) (by kernel_rfl) (by kernel_rfl) (fun _ _ _ h => h) (Or.inl ⟨by rfl, ?hy215⟩) (by assumption) ?_
                  case hy215 => (intro w hSw; (try dsimp only at hSw); go_simp; (try with_reducible rfl))
                  try simp only [Act.put, List.setIfInBounds_toArray, List.set_cons_zero, List.set_cons_succ]
                  refine wpAnyH_take (i := 39) (oi := { dst := some 124, op := Op.pick (Operand.tmp 95) (Operand.const (Value.bool true)) (Operand.tmp 123), type := 4, pos := "cache_wt02c.go:154", after := #[{ on := 10, ground := Ground.data }, { on := 38, ground := Ground.data }], guard := none }) (v := ?v216) rfl (by kernel_rfl) (by kernel_rfl) (by kernel_rfl) (fun _ _ _ h => h) (Or.inl ⟨by rfl, ?hy216⟩) (by assumption) ?_
                  case hy216 => (intro w hSw; (try dsimp only at hSw); go_simp; (try with_reducible rfl))
                  try simp only [Act.put, List.setIfInBounds_toArray, List.set_cons_zero, List.set_cons_succ]
                  refine wpAnyH_done (by kernel_rfl) ?_ _
                  refine NoPanic.normal ?_
                  go_wp2_with fail
                  go_roundw
                  case rel => exact ⟨i + 1, by omega, by go_num, HQ3⟩
                  case measure => simp [intOf]; omega
              · have hix : (n : Int) < (i : Int) := by omega
                go_wp2_with fail
                go_ret
                exact ⟨rfl, HB5.out.trans (HQ.out.mono HB5.out.size)⟩
end Go.Proofs.Ytnggdeggcflodaa
