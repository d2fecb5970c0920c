/- Go's own set: the decimal of a text, told by what the light read tells. Texts of at most 800 bytes. -/
import Derived.Test.YtilkcnoooecngaaGreatDoorSrL
import Derived.Test.YtilkcnoooecngaaGreatDoorSuA
import Derived.Test.YtilkcnoooecngaaGreatDoorSdN
namespace Go.Proofs.YtilkcnoooecngaaGreatDoor
open Go.RowKit
set_option linter.unusedVariables false
structure SetI (w wr : World) (b : Nat) (g : Nat → Nat) (m o : Nat) (ng : Bool) (i : Nat) (sm dot : Bool) (p : Nat) (ds : List Nat) (ldp dpc : Int) (D : Nat → Nat) : Prop where
  pl : p + o = i
  go : FGo (rdF g m) (0, false, false, [], 0) (p, sm, dot, ds, ldp)
  d1 : dot = true → dpc = ldp
  d0 : dot = false → ldp = ds.length
  sd : SD wr b D (ds.length : Int) dpc ng false
  rp : Rep D ds
  rg : Rg p ds ldp
  db : dpc.natAbs ≤ i
  put : Put w wr b
def SetOk (w w' : World) (b : Nat) (t : ByteArray) : Prop := ∃ (i : Nat) (dot : Bool) (ds : List Nat) (dp z : Int) (D : Nat → Nat) (ng : Bool), FDone (rdF (bt (stripB t)) (stripB t).size) (0, false, false, [], 0) (i, true, dot, ds, dp) ∧ tailRes 101 false (bt (stripB t)) (stripB t).size i = some z ∧
  SD w' b D (ds.length : Int) (dp + z) ng false ∧ Rep D ds ∧ (ds = [] ∨ Good ds) ∧ ds.length ≤ 800 ∧ -200000 ≤ dp + z ∧ dp + z ≤ 200000
def SetRet (b : Nat) (t : ByteArray) (w : World) (e : Ending) (w' : World) : Prop := ∃ ok : Bool, e = .returned (.bool ok) ∧ Put w w' b ∧ (ok = true → SetOk w w' b t)
theorem rep_snoc {D : Nat → Nat} {ds : List Nat} {y : Nat} (h : Rep D ds) : Rep (upd D ds.length (y + 48)) (ds ++ [y]) := by
  intro i hi
  unfold upd
  rw [List.length_append, List.length_singleton] at hi
  by_cases hl : i = ds.length
  · rw [if_pos hl, hl]
    simp [dg]
  · rw [if_neg hl, h i (by omega)]
    unfold dg
    rw [List.getD_eq_getElem?_getD, List.getD_eq_getElem?_getD, List.getElem?_append_left (by omega)]
theorem rep_nil (D : Nat → Nat) : Rep D [] := fun i hi => absurd hi (Nat.not_lt_zero _)
set_option maxHeartbeats 8000000 in
set_option maxRecDepth 100000 in
theorem set_any {b : Nat} {D0 : Nat → Nat} {ng0 tr0 : Bool} (t : ByteArray) (w : World) (hD : SD w b D0 0 0 ng0 tr0) (ht : t.size ≤ 800) :
    Calls Tryz.prog 50 #[.pointer (some ⟨b, 0, none⟩), .string t] w (SetRet b t w) := by
  obtain ⟨n, hn⟩ : ∃ n, t.size = n := ⟨_, rfl⟩
  have HN := Lib.hid hn
  obtain ⟨o, ho, hnm, hg, _, ho1⟩ := strip_shift t
  have HSo := Lib.hid (show SetOk = SetOk from rfl)
  obtain ⟨m, hm⟩ : ∃ m, (stripB t).size = m := ⟨_, rfl⟩
  have HMm := Lib.hid hm
  rw [hn, hm] at hnm
  rw [hm] at hg
  rw [hn] at ht ho
  have HO := Lib.hid ho
  have HG := Lib.hid hg
  obtain ⟨g, hgg⟩ : ∃ g, bt (stripB t) = g := ⟨_, rfl⟩
  have HGG := Lib.hid hgg
  rw [hgg] at HG
  have HNM := Lib.hid hnm
  have hon : o ≤ n := by omega
  clear hg hm ho hgg HSo hnm
  have HD0 := Lib.hid hD
  clear hD
  go_enter Tryz.func50, Tryz.ntmps50
  go_wp2_with ((with_reducible refine gate_st (t := 4) rfl ?_); refine halt_L ?_)
  refine resume_L ?_
  refine wpList_put HD0.out.blk (o := 802) (v := .bool false) (by rw [sc_size]; decide) rfl rfl rfl infoBo ?_
  intro w1 hb1 p1
  rw [sc_set_ng] at hb1
  have HD1 := Lib.hid (show SD w1 b D0 0 0 false tr0 from hb1)
  have HP1 := Lib.hid p1
  clear hb1 p1
  go_wp2_with ((with_reducible refine gate_st (t := 4) rfl ?_); refine halt_L ?_)
  refine resume_L ?_
  refine wpList_put HD1.out.blk (o := 803) (v := .bool false) (by rw [sc_size]; decide) rfl rfl rfl infoBo ?_
  intro w2 hb2 p2
  rw [sc_set_tr] at hb2
  have HD2 := Lib.hid (show SD w2 b D0 0 0 false false from hb2)
  have HP2 := Lib.hid (HP1.out.trans p2)
  clear hb2 p2 HD0 HD1 HP1
  by_cases h0 : n = 0
  · subst h0
    go_wp2_with fail
    go_ret
    exact ⟨false, rfl, HP2.out, fun h => by cases h⟩
  have j0 := ixB0 t (by rw [HN.out]; omega)
  obtain ⟨c, hc⟩ : ∃ c, bt t 0 = c := ⟨_, rfl⟩
  rw [hc] at j0
  have HCc := Lib.hid (show (c = 43 → o = 1) ∧ (c = 45 → o = 1) ∧ (c ≠ 43 → c ≠ 45 → o = 0) by
    rw [← HO.out, ← hc]
    unfold sg
    refine ⟨fun h => ?_, fun h => ?_, fun h h2 => ?_⟩
    · rw [if_pos ⟨by omega, .inl h⟩]
    · rw [if_pos ⟨by omega, .inr h⟩]
    · rw [if_neg (by omega)])
  clear hc
  go_upto_block 0 with fail
  go_cut [5] (fun a wx => a = .int .i64 (o : Int) ∧ ∃ ng, Hid (SD wx b D0 0 0 ng false) ∧ Hid (Put w wx b))
  case first =>
    as_aux_lemma =>
    by_cases h43 : c = 43
    · subst h43
      have HC2 := Lib.hid (HCc.out.1 rfl)
      go_wp2_with fail
      go_meet
      exact ⟨by rw [HC2.out]; rfl, false, HD2, HP2⟩
    · have q1 : ((c : Int) == 43) = false := by rw [beq_eq_false_iff_ne]; omega
      by_cases h45 : c = 45
      · subst h45
        have HC2 := Lib.hid (HCc.out.2.1 rfl)
        go_wp2_with ((with_reducible refine gate_st (t := 4) rfl ?_); refine halt_L ?_)
        refine resume_L ?_
        refine wpList_put HD2.out.blk (o := 802) (v := .bool true) (by rw [sc_size]; decide) rfl rfl rfl infoBo ?_
        intro w3 hb3 p3
        rw [sc_set_ng] at hb3
        have HD3 := Lib.hid (show SD w3 b D0 0 0 true false from hb3)
        have HP3 := Lib.hid (HP2.out.trans p3)
        clear hb3 p3
        go_wp2_with fail
        go_meet
        exact ⟨by rw [HC2.out]; rfl, true, HD3, HP3⟩
      · have q2 : ((c : Int) == 45) = false := by rw [beq_eq_false_iff_ne]; omega
        have HC2 := Lib.hid (HCc.out.2.2 h43 h45)
        clear h43 h45
        go_wp2_with fail
        go_meet
        exact ⟨by rw [HC2.out]; rfl, false, HD2, HP2⟩
  case rest =>
  as_aux_lemma =>
  obtain ⟨rfl, ng, HD3, HP3⟩ := hcut
  obtain ⟨w3, rfl⟩ : ∃ z : World, z = wc := ⟨_, rfl⟩
  clear HD2 HP2 HCc j0
  go_upto_block 1 with fail
  go_cut [5, 6, 7] (fun iv dv sv wx => ∃ (i : Nat) (dot sm : Bool), iv = .int .i64 (i : Int) ∧ dv = .bool dot ∧ sv = .bool sm ∧ i ≤ n ∧ Hid (∃ (p : Nat) (ds : List Nat) (ldp dpc : Int) (D : Nat → Nat), SetI w wx b g m o ng i sm dot p ds ldp dpc D ∧ FDone (rdF g m) (0, false, false, [], 0) (p, sm, dot, ds, ldp)))
  case first =>
    as_aux_lemma =>
    have HS := Lib.hid (show SetI w w3 b g m o ng o false false 0 [] 0 0 D0 from ⟨Nat.zero_add _, .refl, fun h => (by cases h), fun _ => rfl, HD3.out, rep_nil _, Rg.start, by simp, HP3.out⟩)
    go_wp2_with fail
    go_loopw [5, 6, 7] (fun iv dv sv wr => ∃ (i : Nat) (dot sm : Bool), iv = .int .i64 (i : Int) ∧ dv = .bool dot ∧ sv = .bool sm ∧ i ≤ n ∧ Hid (∃ (p : Nat) (ds : List Nat) (ldp dpc : Int) (D : Nat → Nat), SetI w wr b g m o ng i sm dot p ds ldp dpc D)) (fun iv _ _ _ => n - (intOf iv).toNat)
    case atStart => exact ⟨o, false, false, rfl, rfl, rfl, by omega, Lib.hid ⟨0, [], 0, 0, D0, HS.out⟩⟩
    case round =>
      clear HS HD3 HP3
      obtain ⟨i, dot, sm, rfl, rfl, rfl, hi, HI0⟩ := hrel
      obtain ⟨wr, rfl⟩ : ∃ wz : World, wz = wr := ⟨_, rfl⟩
      obtain ⟨p, ds, ldp, dpc, D, hI⟩ := HI0.out
      have HI := Lib.hid hI
      obtain ⟨L, hL⟩ : ∃ L, ds.length = L := ⟨_, rfl⟩
      have HL := Lib.hid hL
      have f0 := hI.sd.cnd
      have f1 := hI.sd.cdp
      have f2 : wr.frozen? ⟨b, L, none⟩ = false := hI.sd.blk.frozen L
      rw [hL] at f0
      have hLp : L ≤ i := by have := hI.rg.1; have := hI.pl; omega
      have hpl : p + o = i := hI.pl
      have HPL := Lib.hid hpl
      have hdb : -800 ≤ dpc ∧ dpc ≤ 800 := by have := hI.db; omega
      obtain ⟨hdb1, hdb2⟩ := hdb
      clear hI HI0 hL
      by_cases hlt : i < n
      · have hpm : p < m := by have := HNM.out; omega
        have i1 := ixB t i (by rw [HN.out]; exact hlt)
        have hb1 := bt_lt t i
        have HB := Lib.hid (show g p = bt t i by rw [HG.out p hpm, hpl])
        have HPM := Lib.hid hpm
        clear hpm
        obtain ⟨c, hc⟩ : ∃ c, bt t i = c := ⟨_, rfl⟩
        rw [hc] at i1 hb1 HB
        clear hc hpl
        by_cases h95 : c = 95
        · have HI2 := Lib.hid (show SetI w wr b g m o ng (i + 1) sm dot (p + 1) ds ldp dpc D from
            ⟨by have := HI.out.pl; omega, HI.out.go.step (rd_skip HPM.out (HB.out.trans h95)), HI.out.d1, HI.out.d0, HI.out.sd, HI.out.rp, HI.out.rg.skip, by have := HI.out.db; omega, HI.out.put⟩)
          subst h95
          clear hb1
          go_wp2_with fail
          go_roundw
          case rel => exact ⟨i + 1, dot, sm, by go_num, rfl, rfl, by omega, Lib.hid ⟨_, _, _, _, _, HI2.out⟩⟩
          case measure => simp [intOf]; omega
        · have q1 : ((c : Int) == 95) = false := by rw [beq_eq_false_iff_ne]; omega
          by_cases h46 : c = 46
          · cases dot
            · subst h46
              clear hb1 q1 h95
              go_wp2_with ((with_reducible refine gate_st (t := 3) rfl ?_); refine halt_L ?_)
              refine resume_L ?_
              refine wpList_put HI.out.sd.blk (o := 801) (v := .int .i64 (L : Int)) (by rw [sc_size]; decide) rfl rfl rfl infoI ?_
              intro w4 hb4 p4
              rw [sc_set_dp] at hb4
              have HI2 := Lib.hid (show SetI w w4 b g m o ng (i + 1) sm true (p + 1) ds ldp (L : Int) D from
                ⟨by have := HI.out.pl; omega, HI.out.go.step (rd_point HPM.out HB.out), fun _ => by rw [HI.out.d0 rfl, HL.out], fun h => (by cases h), hb4, HI.out.rp, HI.out.rg.skip, by omega, HI.out.put.trans p4⟩)
              clear hb4 p4 f0 f1 f2
              go_wp2_with fail
              go_roundw
              case rel => exact ⟨i + 1, true, sm, by go_num, rfl, rfl, by omega, Lib.hid ⟨_, _, _, _, _, HI2.out⟩⟩
              case measure => simp [intOf]; omega
            · subst h46
              clear hb1 q1 h95
              go_wp2_with fail
              go_ret
              exact ⟨false, rfl, HI.out.put, fun h => by cases h⟩
          · have q2 : ((c : Int) == 46) = false := by rw [beq_eq_false_iff_ne]; omega
            by_cases hd : isD c
            · obtain ⟨y, rfl⟩ : ∃ y, c = y + 48 := ⟨c - 48, by unfold isD at hd; omega⟩
              have hy9 : y < 10 := by unfold isD at hd; omega
              clear hd hb1 h95 h46
              by_cases hz : y = 0 ∧ L = 0
              · obtain ⟨rfl, rfl⟩ := hz
                go_wp2_with ((with_reducible refine gate_st (t := 3) rfl ?_); refine halt_L ?_)
                refine resume_L ?_
                refine wpList_put HI.out.sd.blk (o := 801) (v := .int .i64 (dpc - 1)) (by rw [sc_size]; decide) rfl rfl rfl infoI ?_
                intro w4 hb4 p4
                rw [sc_set_dp] at hb4
                have HI2 := Lib.hid (show SetI w w4 b g m o ng (i + 1) true dot (p + 1) ds (if dot = true then ldp - 1 else ldp) (dpc - 1) D from by
                  have hds : ds = [] := List.eq_nil_of_length_eq_zero HL.out
                  have hz0 : rdF g m (p, sm, dot, ds, ldp) = some (p + 1, true, dot, ds, if dot = true then ldp - 1 else ldp) := by rw [hds]; exact rd_zero HPM.out HB.out
                  refine ⟨by have := HI.out.pl; omega, HI.out.go.step hz0, fun h => ?_, fun h => ?_, hb4, HI.out.rp, ?_, by have := HI.out.db; omega, HI.out.put.trans p4⟩
                  · rw [if_pos h, HI.out.d1 h]
                  · rw [if_neg (by rw [h]; decide), HI.out.d0 h]
                  · split
                    · exact HI.out.rg.less
                    · exact HI.out.rg.skip)
                clear hb4 p4 f0 f1 f2
                go_wp2_with fail
                go_roundw
                case rel => exact ⟨i + 1, dot, true, by go_num, rfl, rfl, by omega, Lib.hid ⟨_, _, _, _, _, HI2.out⟩⟩
                case measure => simp [intOf]; omega
              · have hkz : y ≠ 0 ∨ (y = 0 ∧ L ≠ 0) := by omega
                have HKZ := Lib.hid hkz
                have hL8 : L < 800 := by omega
                clear hz
                have HI2 := Lib.hid (show ∀ w5, SD w5 b (upd D L (y + 48)) ((L + 1 : Nat) : Int) dpc ng false → Put w w5 b → SetI w w5 b g m o ng (i + 1) true dot (p + 1) (ds ++ [y]) (if dot = true then ldp else ldp + 1) dpc (upd D L (y + 48)) from fun w5 h5 p5 => by
                  have hne : ds ≠ [] ∨ y ≠ 0 := by
                    rcases HKZ.out with h | h
                    · exact .inr h
                    · exact .inl (fun e => h.2 (by rw [← HL.out, e]; rfl))
                  have hst := rd_dig (sm := sm) (dot := dot) (ds := ds) (dp := ldp) HPM.out (show isD (g p) by rw [HB.out]; exact ⟨by omega, by omega⟩) (by
                    rcases hne with h | h
                    · exact .inl h
                    · exact .inr (by rw [HB.out]; omega))
                  rw [HB.out, Nat.add_sub_cancel] at hst
                  refine ⟨by have := HI.out.pl; omega, HI.out.go.step hst, fun h => ?_, fun h => ?_, ?_, ?_, ?_, by have := HI.out.db; omega, p5⟩
                  · rw [if_pos h]; exact HI.out.d1 h
                  · rw [if_neg (by rw [h]; decide), HI.out.d0 h]; simp
                  · rw [List.length_append, HL.out]; exact h5
                  · rw [← HL.out]; exact rep_snoc HI.out.rp
                  · exact HI.out.rg.snoc hy9 hne (by split; exact .inl rfl; exact .inr rfl))
                have f4 : wr.cell? ⟨b, L, none⟩ = some (.int .u8 (D L : Nat)) := HI.out.sd.cdig hL8
                rcases hkz with hkz | ⟨rfl, hkz⟩
                · have q3 : (((y + 48 : Nat) : Int) == 48) = false := by rw [beq_eq_false_iff_ne]; omega
                  go_wp2_with fail
                  go_region
                  have p4 := put_drew wr b L (.int .u8 ((y : Int) + 48))
                  have hb4 : Blk (wr.setCell ⟨b, L, none⟩ (.int .u8 ((y : Int) + 48))).drew b tS (sCells (upd D L (y + 48)) (ds.length : Int) dpc ng false) := by
                    have h := HI.out.sd.blk.setd L (.int .u8 ((y + 48 : Nat) : Int))
                    rw [sc_set hL8] at h
                    exact h
                  have HW4 := Lib.hid (And.intro p4 hb4)
                  generalize hw4 : World.drew _ = w4 at HW4 ⊢
                  clear hw4 p4 hb4 f0 f1 f2 f4
                  have HD4 := Lib.hid (show SD w4 b (upd D L (y + 48)) (L : Int) dpc ng false by have h := HW4.out.2; rw [HL.out] at h; exact h)
                  have f0 := HD4.out.cnd
                  have f2 : w4.frozen? ⟨b, 800, none⟩ = false := HD4.out.blk.frozen 800
                  go_wp2_with ((with_reducible refine gate_st (t := 3) rfl ?_); refine halt_L ?_)
                  refine resume_L ?_
                  refine wpList_put HD4.out.blk (o := 800) (v := .int .i64 ((L : Int) + 1)) (by rw [sc_size]; decide) rfl rfl rfl infoI ?_
                  intro w5 hb5 p5
                  rw [sc_set_nd, show ((L : Int) + 1) = ((L + 1 : Nat) : Int) by omega] at hb5
                  have HI5 := Lib.hid (HI2.out w5 hb5 ((HI.out.put.trans HW4.out.1).trans p5))
                  clear hb5 p5 f0 f2
                  go_wp2_with fail
                  go_roundw
                  case rel => exact ⟨i + 1, dot, true, by go_num, rfl, rfl, by omega, Lib.hid ⟨_, _, _, _, _, HI5.out⟩⟩
                  case measure => simp [intOf]; omega
                · have q3 : ((L : Int) == 0) = false := by rw [beq_eq_false_iff_ne]; omega
                  go_wp2_with fail
                  go_region
                  have p4 := put_drew wr b L (.int .u8 48)
                  have hb4 : Blk (wr.setCell ⟨b, L, none⟩ (.int .u8 48)).drew b tS (sCells (upd D L (0 + 48)) (ds.length : Int) dpc ng false) := by
                    have h := HI.out.sd.blk.setd L (.int .u8 ((0 + 48 : Nat) : Int))
                    rw [sc_set hL8] at h
                    exact h
                  have HW4 := Lib.hid (And.intro p4 hb4)
                  generalize hw4 : World.drew _ = w4 at HW4 ⊢
                  clear hw4 p4 hb4 f0 f1 f2 f4
                  have HD4 := Lib.hid (show SD w4 b (upd D L (0 + 48)) (L : Int) dpc ng false by have h := HW4.out.2; rw [HL.out] at h; exact h)
                  have f0 := HD4.out.cnd
                  have f2 : w4.frozen? ⟨b, 800, none⟩ = false := HD4.out.blk.frozen 800
                  go_wp2_with ((with_reducible refine gate_st (t := 3) rfl ?_); refine halt_L ?_)
                  refine resume_L ?_
                  refine wpList_put HD4.out.blk (o := 800) (v := .int .i64 ((L : Int) + 1)) (by rw [sc_size]; decide) rfl rfl rfl infoI ?_
                  intro w5 hb5 p5
                  rw [sc_set_nd, show ((L : Int) + 1) = ((L + 1 : Nat) : Int) by omega] at hb5
                  have HI5 := Lib.hid (HI2.out w5 hb5 ((HI.out.put.trans HW4.out.1).trans p5))
                  clear hb5 p5 f0 f2
                  go_wp2_with fail
                  go_roundw
                  case rel => exact ⟨i + 1, dot, true, by go_num, rfl, rfl, by omega, Lib.hid ⟨_, _, _, _, _, HI5.out⟩⟩
                  case measure => simp [intOf]; omega
            · have HF := Lib.hid (HI.out.go.fin (rd_stop (sm := sm) (dot := dot) (ds := ds) (dp := ldp) (by rw [HB.out]; exact h95) (fun h => h46 (HB.out ▸ h.1)) (by rw [HB.out]; exact hd)))
              have hd8 : c < 48 ∨ 57 < c := by unfold isD at hd; omega
              clear h95 h46 hd
              rcases hd8 with hd8 | hd8
              all_goals
                go_wp2_with fail
                go_meet
                exact ⟨i, dot, sm, rfl, rfl, rfl, hi, Lib.hid ⟨p, ds, ldp, dpc, D, HI.out, HF.out⟩⟩
      · have HF := Lib.hid (HI.out.go.fin (rd_end (sm := sm) (dot := dot) (ds := ds) (dp := ldp) (show ¬ p < m by have := HNM.out; omega)))
        go_wp2_with fail
        go_meet
        exact ⟨i, dot, sm, rfl, rfl, rfl, hi, Lib.hid ⟨p, ds, ldp, dpc, D, HI.out, HF.out⟩⟩
  case rest =>
  as_aux_lemma =>
  obtain ⟨i, dot, sm, rfl, rfl, rfl, hi, HI0⟩ := hcut
  obtain ⟨wr, rfl⟩ : ∃ z : World, z = wc := ⟨_, rfl⟩
  clear HD3 HP3
  obtain ⟨p, ds, ldp, dpc, D, hI, hF⟩ := HI0.out
  have HI := Lib.hid hI
  have HF := Lib.hid hF
  obtain ⟨L, hL⟩ : ∃ L, ds.length = L := ⟨_, rfl⟩
  have HL := Lib.hid hL
  have hLp : L ≤ 800 := by have := hI.rg.1; have := hI.pl; omega
  have hpl : p + o = i := hI.pl
  have HPL := Lib.hid hpl
  obtain ⟨hld1, hld2⟩ : -800 ≤ ldp ∧ ldp ≤ 800 := by have := hI.rg.2.1; omega
  have f0 := hI.sd.cnd
  rw [hL] at f0
  clear hI hF HI0 hL hpl
  cases sm
  · go_wp2_with fail
    go_ret
    exact ⟨false, rfl, HI.out.put, fun h => by cases h⟩
  go_upto_if 120 with fail
  go_cut [] (fun wx => Hid (SD wx b D (L : Int) ldp ng false) ∧ Hid (Put w wx b))
  case first =>
    as_aux_lemma =>
    cases dot
    · go_wp2_with ((with_reducible refine gate_st (t := 3) rfl ?_); refine halt_L ?_)
      refine resume_L ?_
      refine wpList_put HI.out.sd.blk (o := 801) (v := .int .i64 (L : Int)) (by rw [sc_size]; decide) rfl rfl rfl infoI ?_
      intro w4 hb4 p4
      rw [sc_set_dp, HL.out] at hb4
      have HD4 := Lib.hid (show SD w4 b D (L : Int) ldp ng false by have h := HI.out.d0 rfl; rw [HL.out] at h; rw [h]; exact hb4)
      have HP4 := Lib.hid (HI.out.put.trans p4)
      clear hb4 p4 f0
      go_wp2_with fail
      go_meet
      exact ⟨HD4, HP4⟩
    · have HD4 := Lib.hid (show SD wr b D (L : Int) ldp ng false by have h := HI.out.d1 rfl; have h2 := HI.out.sd; rw [HL.out, h] at h2; exact h2)
      have HP4 := Lib.hid HI.out.put
      go_wp2_with fail
      go_meet
      exact ⟨HD4, HP4⟩
  case rest =>
  as_aux_lemma =>
  obtain ⟨HD4, HP4⟩ := hcut
  obtain ⟨w4, rfl⟩ : ∃ z : World, z = wc := ⟨_, rfl⟩
  have HRp := Lib.hid HI.out.rp
  have HRg := Lib.hid HI.out.rg
  clear HI f0
  have HOK := Lib.hid (show ∀ (z : Int) (w9 : World), tailRes 101 false g m p = some z → SD w9 b D (L : Int) (ldp + z) ng false → -150000 ≤ z → z ≤ 150000 → SetOk w w9 b t from fun z w9 h1 h2 h3 h4 => by
    unfold SetOk
    rw [HGG.out, HMm.out]
    exact ⟨p, dot, ds, ldp, z, D, ng, HF.out, h1, by rw [HL.out]; exact h2, HRp.out, HRg.out.2.2, by rw [HL.out]; exact hLp, by omega, by omega⟩)
  clear HRp HRg HF
  obtain ⟨bm, hbm⟩ : ∃ b : Bool, b = decide (i < n ∧ lw (bt t i) = 101) := ⟨_, rfl⟩
  have HMb := Lib.hid hbm
  clear hbm
  go_upto_region 32 with fail
  go_cut [138] (fun c wx => c = .bool bm ∧ wx = w4)
  case first =>
    as_aux_lemma =>
    by_cases hlt : i < n
    · have i1 := ixB t i (by rw [HN.out]; exact hlt)
      have hT := fun W => slower_lw (bt t i) W
      obtain ⟨r, hr⟩ : ∃ r, lw (bt t i) = r := ⟨_, rfl⟩
      have HC := Lib.hid (show (r == 101) = bm by rw [HMb.out, ← hr]; by_cases h : lw (bt t i) = 101 <;> simp [h, hlt])
      simp only [hr] at hT
      clear hr
      generalize bt t i = y at i1 hT
      go_wp2_with (go_at_call 76; refine (hT _).mono ?_; rintro e w9 ⟨rfl, rfl⟩)
      go_meet
      exact ⟨by rw [← HC.out], rfl⟩
    · have HC := Lib.hid (show bm = false by rw [HMb.out]; exact decide_eq_false (fun h => hlt h.1))
      go_wp2_with fail
      go_meet
      exact ⟨by rw [HC.out], rfl⟩
  case rest =>
  as_aux_lemma =>
  obtain ⟨rfl, rfl⟩ := hcut
  obtain ⟨w4, rfl⟩ : ∃ z : World, z = wc := ⟨_, rfl⟩
  cases bm
  · by_cases hin : i = n
    · have HR := Lib.hid (HOK.out 0 w4 (by
        unfold tailRes
        have h1 : ¬ p < m := by have := HNM.out; have := HPL.out; omega
        rw [if_neg (fun h => h1 h.1), if_neg (by rintro (h | h); exact absurd h (by decide); exact h1 h)]) (by rw [Int.add_zero]; exact HD4.out) (by decide) (by decide))
      have e1 : ((i : Int) != (n : Int)) = false := by rw [hin]; simp
      have HP := Lib.hid HP4.out
      clear hin
      go_wp2_with fail
      go_ret
      exact ⟨true, rfl, HP.out, fun _ => HR.out⟩
    · have e1 : ((i : Int) != (n : Int)) = true := by rw [bne_iff_ne]; omega
      go_wp2_with fail
      go_ret
      exact ⟨false, rfl, HP4.out, fun h => by cases h⟩
  · have hlm := Lib.hid (of_decide_eq_true HMb.out.symm)
    have hlt : i < n := hlm.out.1
    have hpm : p < m := by have := HNM.out; have := HPL.out; omega
    have HGi := Lib.hid (show g p = bt t i by rw [HG.out p hpm, HPL.out])
    have HTl := Lib.hid (show tailRes 101 false g m p = expRes g m p by unfold tailRes; rw [HGi.out, if_pos ⟨hpm, hlm.out.2⟩])
    clear hpm
    by_cases hp1 : i + 1 < n
    rotate_left
    · go_wp2_with fail
      go_ret
      exact ⟨false, rfl, HP4.out, fun h => by cases h⟩
    have i5 : ∀ W, (Instr.index 9 (.string t) (.int .i64 ((i : Int) + 1))).run Tryz.prog W = .ok (.int .u8 (bt t (i + 1) : Nat)) W := ixB t (i + 1) (by rw [HN.out]; exact hp1)
    obtain ⟨jp, hjp⟩ : ∃ jp, sg g m (p + 1) = jp := ⟨_, rfl⟩
    have HJ := Lib.hid hjp
    have hsh := sg_shift (i := p + 1) HNM.out HG.out
    rw [hjp, show p + 1 + o = i + 1 by have := HPL.out; omega] at hsh
    obtain ⟨j, hj⟩ : ∃ j, jp + o = j := ⟨_, rfl⟩
    have HJp := Lib.hid hj
    rw [hj] at hsh
    have HSh := Lib.hid hsh
    obtain ⟨hj1, hj2, hj3⟩ : i + 1 ≤ j ∧ j ≤ i + 2 ∧ j ≤ n := by
      have hsh2 := hsh
      unfold sg at hsh2
      split at hsh2 <;> omega
    clear hjp hsh hj
    obtain ⟨es, hes⟩ : ∃ es : Int, es = if bt t (i + 1) = 45 then -1 else 1 := ⟨_, rfl⟩
    have HES := Lib.hid hes
    have hes1 : es = 1 ∨ es = -1 := by rw [hes]; split <;> simp
    clear hes
    have HSg := Lib.hid (show ∀ y, bt t (i + 1) = y → (y = 43 → j = i + 2 ∧ es = 1) ∧ (y = 45 → j = i + 2 ∧ es = -1) ∧ (y ≠ 43 → y ≠ 45 → j = i + 1 ∧ es = 1) from fun y hy => by
      rw [HES.out, HSh.out, hy]
      unfold sg
      rw [hy]
      refine ⟨fun h => ?_, fun h => ?_, fun h h2 => ?_⟩
      · rw [if_pos ⟨hp1, .inl h⟩, if_neg (by omega)]; exact ⟨rfl, rfl⟩
      · rw [if_pos ⟨hp1, .inr h⟩, if_pos h]; exact ⟨rfl, rfl⟩
      · rw [if_neg (by omega), if_neg h2]; exact ⟨rfl, rfl⟩)
    obtain ⟨c1, hc1⟩ : ∃ y, bt t (i + 1) = y := ⟨_, rfl⟩
    rw [hc1] at i5
    have HSc := Lib.hid (HSg.out c1 hc1)
    clear hc1 HSg
    go_upto_block 4 with fail
    go_cut [5, 8] (fun a b wx => a = .int .i64 (j : Int) ∧ b = .int .i64 es ∧ wx = w4)
    case first =>
      as_aux_lemma =>
      by_cases h43 : c1 = 43
      · subst h43
        have HC := Lib.hid (HSc.out.1 rfl)
        go_wp2_with fail
        go_meet
        exact ⟨by rw [HC.out.1]; go_num, by rw [HC.out.2], rfl⟩
      · have q1 : ((c1 : Int) == 43) = false := by rw [beq_eq_false_iff_ne]; omega
        by_cases h45 : c1 = 45
        · subst h45
          have HC := Lib.hid (HSc.out.2.1 rfl)
          go_wp2_with fail
          go_meet
          exact ⟨by rw [HC.out.1]; go_num, by rw [HC.out.2], rfl⟩
        · have q2 : ((c1 : Int) == 45) = false := by rw [beq_eq_false_iff_ne]; omega
          have HC := Lib.hid (HSc.out.2.2 h43 h45)
          clear h43 h45
          go_wp2_with fail
          go_meet
          exact ⟨by rw [HC.out.1]; go_num, by rw [HC.out.2], rfl⟩
    case rest =>
    as_aux_lemma =>
    obtain ⟨rfl, rfl, rfl⟩ := hcut
    obtain ⟨w4, rfl⟩ : ∃ z : World, z = wc := ⟨_, rfl⟩
    clear i5 HSc
    obtain ⟨bn, hbn⟩ : ∃ b : Bool, b = decide (¬ (j < n ∧ isD (bt t j))) := ⟨_, rfl⟩
    have HBn := Lib.hid hbn
    clear hbn
    go_upto_region 42 with fail
    go_cut [171] (fun c wx => c = .bool bn ∧ wx = w4)
    case first =>
      as_aux_lemma =>
      by_cases hp1 : j < n
      · have i5 := ixB t j (by rw [HN.out]; exact hp1)
        have HC := Lib.hid (show bn = decide (¬ (48 ≤ bt t j ∧ bt t j ≤ 57)) by rw [HBn.out]; unfold isD; simp [hp1])
        generalize bt t j = y at i5 HC
        by_cases h48 : y < 48
        · have HE := Lib.hid (show bn = true by rw [HC.out]; exact decide_eq_true (by omega))
          go_wp2_with fail
          go_meet
          exact ⟨by rw [HE.out], rfl⟩
        · by_cases h57 : 57 < y
          · have HE := Lib.hid (show bn = true by rw [HC.out]; exact decide_eq_true (by omega))
            go_wp2_with fail
            go_meet
            exact ⟨by rw [HE.out]; congr 1; simp; omega, rfl⟩
          · have HE := Lib.hid (show bn = false by rw [HC.out]; exact decide_eq_false (by omega))
            go_wp2_with fail
            go_meet
            exact ⟨by rw [HE.out]; congr 1; simp; omega, rfl⟩
      · have HE := Lib.hid (show bn = true by rw [HBn.out]; exact decide_eq_true (fun h => hp1 h.1))
        go_wp2_with fail
        go_meet
        exact ⟨by rw [HE.out], rfl⟩
    case rest =>
    as_aux_lemma =>
    obtain ⟨rfl, rfl⟩ := hcut
    obtain ⟨w4, rfl⟩ : ∃ z : World, z = wc := ⟨_, rfl⟩
    cases bn
    rotate_left
    · go_wp2_with fail
      go_ret
      exact ⟨false, rfl, HP4.out, fun h => by cases h⟩
    have HJd := Lib.hid (Decidable.not_not.1 (of_decide_eq_false HBn.out.symm))
    go_upto_block 5 with fail
    go_cut [5, 9] (fun x5 x9 wx => ∃ (k x kp : Nat), x5 = .int .i64 (k : Int) ∧ x9 = .int .i64 (x : Int) ∧ k ≤ n ∧ x ≤ 100009 ∧ Hid (kp + o = k ∧ FDone (exF g m) (jp, 0) (kp, x)) ∧ wx = w4)
    case first =>
      as_aux_lemma =>
      go_wp2_with fail
      go_loopw [5, 9] (fun iv ev wx => ∃ (k x kp : Nat), iv = .int .i64 (k : Int) ∧ ev = .int .i64 (x : Int) ∧ k ≤ n ∧ x ≤ 100009 ∧ Hid (kp + o = k ∧ FGo (exF g m) (jp, 0) (kp, x)) ∧ wx = w4) (fun iv _ _ => n - (intOf iv).toNat)
      case atStart => exact ⟨j, 0, jp, rfl, rfl, hj3, by omega, Lib.hid ⟨HJp.out, .refl⟩, rfl⟩
      case round =>
        obtain ⟨k, x, kp, rfl, rfl, hk, hx1, HE, rfl⟩ := hrel
        by_cases hlt : k < n
        · have i7 := ixB t k (by rw [HN.out]; exact hlt)
          have HK := Lib.hid (show kp < m ∧ g kp = bt t k by
            have h1 : kp < m := by have := HNM.out; have := HE.out.1; omega
            exact ⟨h1, by rw [HG.out kp h1, HE.out.1]⟩)
          by_cases hd : isD (bt t k)
          · obtain ⟨y, hy⟩ : ∃ y, bt t k = y + 48 := ⟨bt t k - 48, by unfold isD at hd; omega⟩
            have hy9 : y < 10 := by unfold isD at hd; omega
            have hR : exF g m (kp, x) = some (kp + 1, if x < 10000 then x * 10 + y else x) := by
              unfold exF
              simp only
              rw [HK.out.2, if_pos ⟨HK.out.1, .inl hd⟩, hy]
              have : ¬ (y + 48 = 95) := by omega
              simp [this]
            have HR := Lib.hid (HE.out.2.step hR)
            have HK1 := Lib.hid (show kp + 1 + o = k + 1 by have := HE.out.1; omega)
            rw [hy] at i7
            have q1 : (((y + 48 : Nat) : Int) == 95) = false := by rw [beq_eq_false_iff_ne]; omega
            clear hd hy hR HK
            by_cases hxx : x < 10000
            · have HR2 := Lib.hid (show kp + 1 + o = k + 1 ∧ FGo (exF g m) (jp, 0) (kp + 1, x * 10 + y) from ⟨HK1.out, by have := HR.out; rwa [if_pos hxx] at this⟩)
              clear HR HK1
              go_wp2_with fail
              go_roundw
              case rel => exact ⟨k + 1, x * 10 + y, kp + 1, by go_num, by go_num, by omega, by omega, HR2, trivial⟩
              case measure => simp [intOf]; omega
            · have HR2 := Lib.hid (show kp + 1 + o = k + 1 ∧ FGo (exF g m) (jp, 0) (kp + 1, x) from ⟨HK1.out, by have := HR.out; rwa [if_neg hxx] at this⟩)
              clear HR HK1
              go_wp2_with fail
              go_roundw
              case rel => exact ⟨k + 1, x, kp + 1, by go_num, by go_num, by omega, by omega, HR2, trivial⟩
              case measure => simp [intOf]; omega
          · by_cases h95 : bt t k = 95
            · have HR := Lib.hid (show kp + 1 + o = k + 1 ∧ FGo (exF g m) (jp, 0) (kp + 1, x) from ⟨by have := HE.out.1; omega, HE.out.2.step (by unfold exF; simp only; rw [HK.out.2, if_pos ⟨HK.out.1, .inr h95⟩, if_neg (fun h => h.1 h95)])⟩)
              rw [h95] at i7
              clear hd h95 HK
              go_wp2_with fail
              go_roundw
              case rel => exact ⟨k + 1, x, kp + 1, by go_num, by go_num, by omega, by omega, HR, trivial⟩
              case measure => simp [intOf]; omega
            · have HR := Lib.hid (show kp + o = k ∧ FDone (exF g m) (jp, 0) (kp, x) from ⟨HE.out.1, HE.out.2.fin (by unfold exF; simp only; rw [HK.out.2, if_neg (fun h => h.2.elim hd h95)])⟩)
              have q1 : (((bt t k : Nat) : Int) == 95) = false := by rw [beq_eq_false_iff_ne]; omega
              have hd8 : bt t k < 48 ∨ 57 < bt t k := by unfold isD at hd; omega
              clear hd h95 HK
              generalize bt t k = y at i7 q1 hd8
              rcases hd8 with hd8 | hd8
              · go_wp2_with fail
                go_meet
                exact ⟨k, x, kp, rfl, rfl, hk, hx1, HR, rfl⟩
              · go_wp2_with fail
                go_meet
                exact ⟨k, x, kp, rfl, rfl, hk, hx1, HR, rfl⟩
        · have HR := Lib.hid (show kp + o = k ∧ FDone (exF g m) (jp, 0) (kp, x) from ⟨HE.out.1, HE.out.2.fin (by unfold exF; simp only; rw [if_neg (fun h => by have := HNM.out; have := HE.out.1; omega)])⟩)
          go_wp2_with fail
          go_meet
          exact ⟨k, x, kp, rfl, rfl, hk, hx1, HR, rfl⟩
    case rest =>
    as_aux_lemma =>
    obtain ⟨k, x, kp, rfl, rfl, hk, hx1, HE, rfl⟩ := hcut
    obtain ⟨w4, rfl⟩ : ∃ z : World, z = wc := ⟨_, rfl⟩
    obtain ⟨z, hz⟩ : ∃ z : Int, z = (x : Int) * es := ⟨_, rfl⟩
    have HZ0 := Lib.hid hz
    obtain ⟨hz1, hz2⟩ : -100009 ≤ z ∧ z ≤ 100009 := by rw [hz]; rcases hes1 with h | h <;> rw [h] <;> omega
    have hzz : (x : Int) * es = z := hz.symm
    have HT := Lib.hid (show k = n → tailRes 101 false g m p = some z from fun hkn => by
      have hjd : jp < m ∧ isD (g jp) := by
        have h1 : jp < m := by have := HNM.out; have := HJp.out; have := HJd.out.1; omega
        exact ⟨h1, by rw [HG.out jp h1, HJp.out]; exact HJd.out.2⟩
      rw [HTl.out, exp_some HJ.out hjd HE.out.2, if_neg (by have := HNM.out; have := HE.out.1; omega)]
      congr 1
      have hp1m : p + 1 < m := by have := HNM.out; have := HPL.out; omega
      rw [HG.out (p + 1) hp1m, show p + 1 + o = i + 1 by have := HPL.out; omega, HZ0.out, HES.out]
      by_cases h : bt t (i + 1) = 45
      · rw [if_pos h, if_pos ⟨hp1m, h⟩]; omega
      · rw [if_neg h, if_neg (fun k => h k.2)]; omega)
    have f1 := HD4.out.cdp
    clear hz hes1 HE
    go_wp2_with ((with_reducible refine gate_st (t := 3) rfl ?_); refine halt_L ?_)
    refine resume_L ?_
    refine wpList_put HD4.out.blk (o := 801) (v := .int .i64 (ldp + z)) (by rw [sc_size]; decide) rfl rfl rfl infoI ?_
    intro w5 hb5 p5
    rw [sc_set_dp] at hb5
    have HD5 := Lib.hid (show SD w5 b D (L : Int) (ldp + z) ng false from hb5)
    have HP5 := Lib.hid (HP4.out.trans p5)
    clear hb5 p5 f1
    by_cases hkn : k = n
    · have HR := Lib.hid (HOK.out z w5 (HT.out hkn) HD5.out (by omega) (by omega))
      have e1 : ((k : Int) != (n : Int)) = false := by rw [hkn]; simp
      clear hkn
      go_wp2_with fail
      go_ret
      exact ⟨true, rfl, HP5.out, fun _ => HR.out⟩
    · have e1 : ((k : Int) != (n : Int)) = true := by rw [bne_iff_ne]; omega
      go_wp2_with fail
      go_ret
      exact ⟨false, rfl, HP5.out, fun h => by cases h⟩
end Go.Proofs.YtilkcnoooecngaaGreatDoor
