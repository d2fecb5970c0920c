/- Go's own leftShift, told by what counts. Shifts of 1 to 59. -/
import Derived.Test.YtilkcnoooecngaaGreatDoorSdG
namespace Go.Proofs.YtilkcnoooecngaaGreatDoor
open Go.RowKit
set_option linter.unusedVariables false
/-- The sheet of new digits lies there. -/
structure SCh (w : World) (cb co cap : Nat) : Prop where
  var : w.cell? ⟨14, 0, none⟩ = some (.slice (some ⟨cb, co, none⟩) 61 cap)
  dlt : ∀ i, i < 61 → w.cell? ⟨cb, co + i * 2, none⟩ = some (.int .i64 (cheatD i : Nat))
  cut : ∀ i, i < 61 → w.cell? ⟨cb, co + i * 2 + 1, none⟩ = some (.string ⟨(cheatS i).toArray⟩)
theorem SCh.lt1 {w : World} {cb co cap : Nat} (h : SCh w cb co cap) : 14 < w.heap.size := cell_lt h.var
theorem SCh.lt2 {w : World} {cb co cap : Nat} (h : SCh w cb co cap) : cb < w.heap.size := cell_lt (h.dlt 0 (by decide))
theorem cell_keep {w w' : World} {a : Addr} (h : w'.heap[a.block]? = w.heap[a.block]?) : w'.cell? a = w.cell? a := by
  unfold World.cell?
  rw [h]
theorem SCh.keep {w w' : World} {cb co cap : Nat} (h : SCh w cb co cap) (k1 : w'.heap[14]? = w.heap[14]?) (k2 : w'.heap[cb]? = w.heap[cb]?) : SCh w' cb co cap :=
  ⟨(cell_keep (a := ⟨_, 0, none⟩) k1).trans h.var, fun i hi => (cell_keep (a := ⟨cb, _, none⟩) k2).trans (h.dlt i hi), fun i hi => (cell_keep (a := ⟨cb, _, none⟩) k2).trans (h.cut i hi)⟩
/-- What is written from the last place back. -/
def put2 (D : Nat → Nat) (T : Nat) (o : List Nat) : Nat → Nat := fun i => if T - o.length ≤ i ∧ i < T then dg o (T - 1 - i) + 48 else D i
theorem put2_nil (D : Nat → Nat) (T : Nat) : put2 D T [] = D := by
  funext i
  unfold put2
  rw [if_neg (by simp)]
theorem put2_step {D : Nat → Nat} {T : Nat} {o : List Nat} {q : Nat} (h : o.length < T) : upd (put2 D T o) (T - 1 - o.length) (q + 48) = put2 D T (o ++ [q]) := by
  funext i
  unfold upd put2
  simp only [List.length_append, List.length_singleton]
  by_cases e : i = T - 1 - o.length
  · rw [if_pos e, if_pos (by omega), show T - 1 - i = o.length by omega, dg_snoc_eq]
  · rw [if_neg e]
    by_cases h2 : T - o.length ≤ i ∧ i < T
    · rw [if_pos h2, if_pos (by omega), dg_snoc_lt (by omega)]
    · rw [if_neg h2, if_neg (by omega)]
theorem put2_far {D : Nat → Nat} {T : Nat} {o : List Nat} {q : Nat} (h : o.length < T) (h8 : 800 ≤ T - 1 - o.length) {nd dp : Int} {ng tr : Bool} : sCells (put2 D T (o ++ [q])) nd dp ng tr = sCells (put2 D T o) nd dp ng tr := sc_ext fun i hi => by
  rw [← put2_step h]
  unfold upd
  rw [if_neg (by omega)]
theorem put2_rep {D : Nat → Nat} {T : Nat} {o : List Nat} (h : o.length = T) : Rep (put2 D T o) (o.reverse.take 800) := fun i hi => by
  have hi2 : i < T := by simp at hi; omega
  have h3 : i < 800 := by simp at hi; omega
  unfold put2
  rw [if_pos (by omega)]
  congr 1
  unfold dg
  rw [List.getD_eq_getElem?_getD, List.getD_eq_getElem?_getD, List.getElem?_take_of_lt h3, List.getElem?_reverse (by omega), h]
abbrev tAr : TypeId := 96
theorem slice800 (W : World) (b L : Nat) (hL : L ≤ 800) : (Instr.sliceAt tAr (.pointer (some ⟨b, 0, none⟩)) (some (.int .i64 0)) (some (.int .i64 (L : Int))) none).run Tryz.prog W = .ok (.slice (some ⟨b, 0, none⟩) L 800) W := by
  have hal : Tryz.prog.arrayLen tAr = 800 := by kernel_rfl
  have hel : Tryz.prog.elem tAr = tU := by kernel_rfl
  rw [run_sliceAt_array_lh W tAr ⟨b, 0, none⟩ (by rw [hal, hel]; exact Tryz.underlying96) .i64 .i64 0 (L : Int) (by omega) (by omega) (by rw [hal]; omega), hal, hel, sizeU]
  simp [slicedAt, Result.andThen, Addr.add_lit]
/-- leftShift: the digits are those of the product, cut at 800. -/
def LsRet (b k : Nat) (l : List Nat) (dp : Int) (ng : Bool) (w : World) (e : Ending) (w' : World) : Prop :=
  e = .returned (.tuple #[]) ∧ Put w w' b ∧ ∃ (r : List Nat) (E : Nat) (D' : Nat → Nat) (tr' : Bool), Dbld l (2 ^ k) r E ∧ SD w' b D' ((trimD (r.take 800)).length : Int) (dp + (E : Int)) ng tr' ∧ Rep D' (trimD (r.take 800))
theorem Dbl.room {l : List Nat} {p T : Nat} {o : List Nat} {n : Nat} (h : Dbl l p o n) (hj : l.length ≤ o.length) (hn : 0 < n) (hT : vD l * p < 10 ^ T) : o.length < T := by
  have hv := h.val
  rw [show l.length - o.length = 0 by omega, List.drop_zero] at hv
  have h2 : 10 ^ o.length * 1 ≤ 10 ^ o.length * n := Nat.mul_le_mul_left _ hn
  have h5 : 10 ^ o.length < 10 ^ T := by omega
  exact (Nat.pow_lt_pow_iff_right (by decide)).1 h5
theorem Dbl.full {l : List Nat} {p T : Nat} {o : List Nat} (h : Dbl l p o 0) (hj : l.length ≤ o.length) (hT : 10 ^ T ≤ vD l * p * 10) : T ≤ o.length := by
  have hv := h.val
  rw [show l.length - o.length = 0 by omega, List.drop_zero, Nat.mul_zero, Nat.add_zero] at hv
  have h1 := vL_lt h.dig
  have h5 : 10 ^ T < 10 ^ (o.length + 1) := by rw [Nat.pow_succ]; omega
  have := (Nat.pow_lt_pow_iff_right (a := 10) (by decide)).1 h5
  omega
set_option maxHeartbeats 8000000 in
set_option maxRecDepth 100000 in
theorem ls_any (b k cb co cap : Nat) (D : Nat → Nat) (l : List Nat) (dp : Int) (ng tr : Bool) (w : World) (h : SD w b D (l.length : Int) dp ng tr) (hR : Rep D l) (hl : l.length ≤ 800) (hg : Good l) (hk1 : 1 ≤ k) (hk2 : k ≤ 59) (hdp : -1000000 ≤ dp ∧ dp ≤ 1000000) (hC : SCh w cb co cap) :
    Calls Tryz.prog 99 #[.pointer (some ⟨b, 0, none⟩), .int .u64 (k : Int)] w (LsRet b k l dp ng w) := by
  obtain ⟨hdp1, hdp2⟩ := hdp
  obtain ⟨c1, c2, c3, c4, c5, c6, c7, c8⟩ := cheat_ok hk1 hk2
  obtain ⟨n1, n2, n3⟩ := newE_ok hg hk1 hk2
  obtain ⟨L, hL⟩ : ∃ L, l.length = L := ⟨_, rfl⟩
  have HPL := Lib.hid (fun W (hW : SD W b D (l.length : Int) dp ng tr) => pl_any b 800 D l ⟨(cheatS k).toArray⟩ _ dp ng tr W hW hR hl hg.1 c3 c8)
  have HE := Lib.hid (newE.eq_1 l k)
  rw [hL] at h hl n1 n2 HPL
  have HL := Lib.hid hL
  have HD := Lib.hid h
  have HG := Lib.hid hg
  have HR := Lib.hid (show ∀ i, i < L → D i = dg l i + 48 from fun i hi => hR i (by rw [hL]; exact hi))
  have v1 := hC.var
  have v2 := hC.dlt k (by omega)
  have v3 := hC.cut k (by omega)
  have f0 := h.cnd
  have hsl := fun W => slice800 W b L hl
  obtain ⟨p, hp⟩ : ∃ p, 2 ^ k = p := ⟨_, rfl⟩
  have hpI : (2 : Int) ^ k = (p : Int) := by subst hp; simp
  have HP := Lib.hid hp
  have hp1 : 1 ≤ p := by subst hp; exact Nat.two_pow_pos k
  have hp2 : p ≤ 576460752303423488 := by
    subst hp
    exact Nat.pow_le_pow_right (n := 2) (by decide) hk2
  rw [hp] at n1 n2
  have HN1 := Lib.hid n1
  have HN2 := Lib.hid n2
  have hkI : (k : Int) ≤ 59 := by omega
  obtain ⟨d0, hd0⟩ : ∃ d, cheatD k = d := ⟨_, rfl⟩
  rw [hd0] at v2 c6 c7 HE
  obtain ⟨E, hE⟩ : ∃ E, newE l k = E := ⟨_, rfl⟩
  rw [hE] at HE n3 HN1 HN2
  obtain ⟨bl, hbl⟩ : ∃ bl, pLess l (digs (cheatS k)) = bl := ⟨_, rfl⟩
  rw [hbl] at HE
  have HBl := Lib.hid hbl
  clear h hg hR hL hp c1 c2 c3 c4 c5 c8 n1 n2 hd0 hE hbl
  go_enter Tryz.func99, Tryz.ntmps99
  go_upto_region 1 with fail
  go_cut [30] (fun x wx => x = .bool bl ∧ ∃ m, wx = w.drewN m)
  case first =>
    as_aux_lemma =>
    go_quiet ((go_at_call 109; exact Calls.quiet_of (HPL.out _ (HD.out.drewN _))))
    go_wp2_with fail
    go_meet
    exact ⟨by rw [← HBl.out], _, rfl⟩
  case rest =>
  as_aux_lemma =>
  obtain ⟨rfl, m0, rfl⟩ := hcut
  have HD1 := Lib.hid (HD.out.drewN m0)
  have HK1 := Lib.hid ((Put.refl w b).drewN m0)
  obtain ⟨w1, hw1⟩ : ∃ z, w.drewN m0 = z := ⟨_, rfl⟩
  rw [hw1] at HD1 HK1
  rw [hw1]
  clear hw1 v1 v2 v3 f0 hsl HPL
  go_upto_if 30 with fail
  go_cut [4] (fun x wx => x = .int .i64 (E : Int) ∧ wx = w1)
  case first =>
    as_aux_lemma =>
    cases bl
    · have HE2 := Lib.hid (show E = d0 by rw [HE.out]; rfl)
      go_wp2_with fail
      go_meet
      exact ⟨by rw [HE2.out], rfl⟩
    · have HE2 := Lib.hid (show E = d0 - 1 by rw [HE.out]; rfl)
      go_wp2_with fail
      go_meet
      exact ⟨by rw [HE2.out]; congr 1; omega, rfl⟩
  case rest =>
  as_aux_lemma =>
  obtain ⟨rfl, rfl⟩ := hcut
  obtain ⟨w1, rfl⟩ : ∃ z : World, z = wc := ⟨_, rfl⟩
  clear HE HBl c6 c7
  have f0 := HD1.out.cnd
  obtain ⟨T, hT⟩ : ∃ T, L + E = T := ⟨_, rfl⟩
  have hTI : (L : Int) + (E : Int) = (T : Int) := by omega
  have HT := Lib.hid hT
  have hT1 : L ≤ T ∧ T ≤ 819 := by omega
  obtain ⟨hT1, hT2⟩ := hT1
  rw [hT] at HN1 HN2
  go_upto_block 0 with fail
  go_cut [6, 7] (fun x6 x7 wx => ∃ (m V : Nat) (o : List Nat) (tr' : Bool), x6 = .int .i64 (V : Int) ∧ x7 = .int .u64 (m : Int) ∧ m < p ∧ Hid (V + L = T) ∧ Hid (o.length = L) ∧ Hid (Dbl l p o m) ∧ Hid (SD wx b (put2 D T o) (L : Int) dp ng tr') ∧ Hid (Put w wx b))
  case first =>
    as_aux_lemma =>
    go_wp2_with fail
    go_loopw [5, 6, 7] (fun rv wv nv wr => ∃ (j m V : Nat) (ri : Int) (o : List Nat) (tr' : Bool), rv = .int .i64 ri ∧ wv = .int .i64 (V : Int) ∧ nv = .int .u64 (m : Int) ∧ j ≤ L ∧ m < p ∧ Hid (ri = (L : Int) - 1 - j) ∧ Hid (V + j = T) ∧ Hid (o.length = j) ∧ Hid (Dbl l p o m) ∧ Hid (SD wr b (put2 D T o) (L : Int) dp ng tr') ∧ Hid (Put w wr b)) (fun rv _ _ _ => (intOf rv + 1).toNat)
    case atStart => exact ⟨0, 0, T, (L : Int) - 1, [], tr, by go_num, by go_num, rfl, by omega, by omega, Lib.hid (by omega), Lib.hid (by omega), Lib.hid rfl, Lib.hid (Dbl.start l p hp1 HG.out), Lib.hid (by rw [put2_nil]; exact HD1.out), HK1⟩
    case round =>
      obtain ⟨j, m, V, ri, o, tr, rfl, rfl, rfl, hj, hm, HRi, HVj, HO, HX, HDr, HK⟩ := hrel
      obtain ⟨wr, rfl⟩ : ∃ wz : World, wz = wr := ⟨_, rfl⟩
      by_cases hlt : j < L
      · obtain ⟨i, rfl⟩ : ∃ i : Nat, ri = (i : Int) := ⟨ri.toNat, by have := HRi.out; omega⟩
        obtain ⟨W, rfl⟩ : ∃ W, V = W + 1 := ⟨V - 1, by have := HVj.out; omega⟩
        have hi8 : i < 800 := by have := HRi.out; omega
        have f1 := HDr.out.cdig hi8
        rw [show put2 D T o i = dg l i + 48 by unfold put2; rw [if_neg (by have := HO.out; have := HRi.out; omega)]; exact HR.out i (by have := HRi.out; omega)] at f1
        have hx10 := dg_lt HG.out.1 i
        have hS := HX.out.step_in hp1 HG.out (by rw [HO.out, HL.out]; exact hlt)
        have hgx : l[l.length - 1 - o.length]'(by rw [HO.out, HL.out]; omega) = dg l i := by
          have e : l.length - 1 - o.length = i := by rw [HO.out, HL.out]; have := HRi.out; omega
          unfold dg
          simp only [e]
          rw [List.getD_eq_getElem?_getD, List.getElem?_eq_getElem (by rw [HL.out]; have := HRi.out; omega)]; rfl
        rw [hgx] at hS
        generalize dg l i = x at *
        obtain ⟨xp, hxp⟩ : ∃ xp, x * p = xp := ⟨_, rfl⟩
        have hxpI : (x : Int) * (p : Int) = (xp : Int) := by rw [← hxp]; simp
        have hxp9 : xp ≤ 9 * p := by rw [← hxp]; exact Nat.mul_le_mul_right _ (by omega)
        rw [hxp] at hS
        obtain ⟨N, hN⟩ : ∃ N, m + xp = N := ⟨_, rfl⟩
        have hNI : (m : Int) + (xp : Int) = (N : Int) := by omega
        rw [hN] at hS
        obtain ⟨q, hq⟩ : ∃ q, N / 10 = q := ⟨_, rfl⟩
        obtain ⟨rm, hrm⟩ : ∃ r, N % 10 = r := ⟨_, rfl⟩
        have hqI : (N : Int) / 10 = (q : Int) := by omega
        have hrI : (N : Int) - 10 * (q : Int) = (rm : Int) := by omega
        have hrm9 : rm < 10 := by omega
        have hqp : q < p := by omega
        have hN9 : N < 10 * p := by omega
        rw [hq, hrm] at hS
        have HS := Lib.hid hS
        have HW := Lib.hid (show W = T - 1 - o.length ∧ o.length < T by have := HO.out; have := HVj.out; omega)
        have HRi2 := Lib.hid HRi.out
        clear hS hgx hxp hN hq hrm
        have hW9 : W ≤ 819 := by have := HW.out.1; omega
        by_cases hW : W < 800
        · go_wp2_with ((with_reducible refine gate_st (t := 5) rfl ?_); refine halt_L ?_)
          refine resume_L ?_
          refine wpList_put HDr.out.blk (o := W) (v := .int .u8 ((rm + 48 : Nat) : Int)) (by rw [sc_size]; omega) (by first | rfl | (simp; done) | (simp; omega)) (by first | rfl | (simp; done)) rfl infoU8 ?_
          intro w2 hb2 p2
          rw [sc_set (by omega), show W = T - 1 - o.length from HW.out.1, put2_step HW.out.2] at hb2
          have HD2 := Lib.hid (show SD w2 b (put2 D T (o ++ [rm])) (L : Int) dp ng tr from hb2)
          have HK2 := Lib.hid (HK.out.trans p2)
          clear hb2 p2
          go_wp2_with fail
          go_roundw
          case rel => exact ⟨j + 1, q, W, (i : Int) - 1, o ++ [rm], tr, by go_num, by go_num, by go_num, by omega, hqp, Lib.hid (by have := HRi2.out; omega), Lib.hid (by have := HVj.out; omega), Lib.hid (by rw [List.length_append, HO.out]; rfl), HS, HD2, HK2⟩
          case measure => simp [intOf] <;> omega
        · have d8 : decide ((W : Int) < 800) = false := decide_eq_false (by omega)
          have hW2 : 800 ≤ W := by omega
          by_cases hr0 : rm = 0
          · have HD2 := Lib.hid (show SD wr b (put2 D T (o ++ [rm])) (L : Int) dp ng tr by unfold SD; rw [put2_far HW.out.2 (by have := HW.out.1; omega)]; exact HDr.out)
            have dq : ((rm : Int) != 0) = false := by rw [hr0]; rfl
            clear hr0
            go_wp2_with fail
            go_roundw
            case rel => exact ⟨j + 1, q, W, (i : Int) - 1, o ++ [rm], tr, by go_num, by go_num, by go_num, by omega, hqp, Lib.hid (by have := HRi2.out; omega), Lib.hid (by have := HVj.out; omega), Lib.hid (by rw [List.length_append, HO.out]; rfl), HS, HD2, HK⟩
            case measure => simp [intOf] <;> omega
          · have dq : ((rm : Int) != 0) = true := by rw [bne_iff_ne]; omega
            clear hr0
            have f3 := HDr.out.ctr
            go_wp2_with ((with_reducible refine gate_st (t := 4) rfl ?_); refine halt_L ?_)
            refine resume_L ?_
            refine wpList_put HDr.out.blk (o := 803) (v := .bool true) (by rw [sc_size]; decide) rfl rfl rfl infoBo ?_
            intro w2 hb2 p2
            rw [sc_set_tr, ← put2_far (q := rm) HW.out.2 (by have := HW.out.1; omega)] at hb2
            have HD2 := Lib.hid (show SD w2 b (put2 D T (o ++ [rm])) (L : Int) dp ng true from hb2)
            have HK2 := Lib.hid (HK.out.trans p2)
            clear hb2 p2 f3
            go_wp2_with fail
            go_roundw
            case rel => exact ⟨j + 1, q, W, (i : Int) - 1, o ++ [rm], true, by go_num, by go_num, by go_num, by omega, hqp, Lib.hid (by have := HRi2.out; omega), Lib.hid (by have := HVj.out; omega), Lib.hid (by rw [List.length_append, HO.out]; rfl), HS, HD2, HK2⟩
            case measure => simp [intOf] <;> omega
      · have hri : ri = -1 := by have := HRi.out; omega
        subst hri
        have HJ := Lib.hid (show j = L by omega)
        go_wp2_with fail
        go_meet
        exact ⟨m, V, o, tr, rfl, rfl, hm, Lib.hid (by have := HVj.out; have := HJ.out; omega), Lib.hid (by rw [HO.out, HJ.out]), HX, HDr, HK⟩
  case rest =>
  as_aux_lemma =>
  obtain ⟨m, V, o, tr, rfl, rfl, hm, HV, HO, HX, HDr, HK⟩ := hcut
  obtain ⟨wq, rfl⟩ : ∃ z : World, z = wc := ⟨_, rfl⟩
  clear f0 HD1 HK1
  go_wp2_with fail
  go_loopw [6, 7] (fun wv nv wr => ∃ (j m V : Nat) (o : List Nat) (tr' : Bool), wv = .int .i64 (V : Int) ∧ nv = .int .u64 (m : Int) ∧ L ≤ j ∧ m < p ∧ Hid (V + j = T) ∧ Hid (o.length = j) ∧ Hid (Dbl l p o m) ∧ Hid (SD wr b (put2 D T o) (L : Int) dp ng tr') ∧ Hid (Put w wr b)) (fun wv _ _ => (intOf wv).toNat)
  case atStart => exact ⟨L, m, V, o, tr, rfl, rfl, Nat.le_refl _, hm, HV, HO, HX, HDr, HK⟩
  case round =>
    clear hm HV HO HX HDr HK
    obtain ⟨j, m, V, o, tr, rfl, rfl, hj, hm, HVj, HO, HX, HDr, HK⟩ := hrel
    obtain ⟨wr, rfl⟩ : ∃ wz : World, wz = wr := ⟨_, rfl⟩
    by_cases hm0 : 0 < m
    · have hroom := HX.out.room (by rw [HO.out, HL.out]; exact hj) hm0 HN1.out
      rw [HO.out] at hroom
      obtain ⟨W, rfl⟩ : ∃ W, V = W + 1 := ⟨V - 1, by have := HVj.out; omega⟩
      have hS := HX.out.step_out (by rw [HO.out, HL.out]; exact hj) hm0
      obtain ⟨q, hq⟩ : ∃ q, m / 10 = q := ⟨_, rfl⟩
      obtain ⟨rm, hrm⟩ : ∃ r, m % 10 = r := ⟨_, rfl⟩
      have hqI : (m : Int) / 10 = (q : Int) := by omega
      have hrI : (m : Int) - 10 * (q : Int) = (rm : Int) := by omega
      have hrm9 : rm < 10 := by omega
      rw [hq, hrm] at hS
      have HS := Lib.hid hS
      have HW := Lib.hid (show W = T - 1 - o.length ∧ o.length < T by have := HO.out; have := HVj.out; omega)
      have g0 : decide ((m : Int) > 0) = true := decide_eq_true (by omega)
      clear hS hq hrm hroom
      have hW9 : W ≤ 819 := by have := HW.out.1; omega
      by_cases hW : W < 800
      · go_wp2_with ((with_reducible refine gate_st (t := 5) rfl ?_); refine halt_L ?_)
        refine resume_L ?_
        refine wpList_put HDr.out.blk (o := W) (v := .int .u8 ((rm + 48 : Nat) : Int)) (by rw [sc_size]; omega) (by first | rfl | (simp; done) | (simp; omega)) (by first | rfl | (simp; done)) rfl infoU8 ?_
        intro w2 hb2 p2
        rw [sc_set (by omega), show W = T - 1 - o.length from HW.out.1, put2_step HW.out.2] at hb2
        have HD2 := Lib.hid (show SD w2 b (put2 D T (o ++ [rm])) (L : Int) dp ng tr from hb2)
        have HK2 := Lib.hid (HK.out.trans p2)
        clear hb2 p2
        go_wp2_with fail
        go_roundw
        case rel => exact ⟨j + 1, q, W, o ++ [rm], tr, by go_num, by go_num, by omega, by omega, Lib.hid (by have := HVj.out; omega), Lib.hid (by rw [List.length_append, HO.out]; rfl), HS, HD2, HK2⟩
        case measure => simp [intOf]
      · have d8 : decide ((W : Int) < 800) = false := decide_eq_false (by omega)
        have hW2 : 800 ≤ W := by omega
        by_cases hr0 : rm = 0
        · have HD2 := Lib.hid (show SD wr b (put2 D T (o ++ [rm])) (L : Int) dp ng tr by unfold SD; rw [put2_far HW.out.2 (by have := HW.out.1; omega)]; exact HDr.out)
          have dq : ((rm : Int) != 0) = false := by rw [hr0]; rfl
          clear hr0
          go_wp2_with fail
          go_roundw
          case rel => exact ⟨j + 1, q, W, o ++ [rm], tr, by go_num, by go_num, by omega, by omega, Lib.hid (by have := HVj.out; omega), Lib.hid (by rw [List.length_append, HO.out]; rfl), HS, HD2, HK⟩
          case measure => simp [intOf]
        · have dq : ((rm : Int) != 0) = true := by rw [bne_iff_ne]; omega
          clear hr0
          have f3 := HDr.out.ctr
          go_wp2_with ((with_reducible refine gate_st (t := 4) rfl ?_); refine halt_L ?_)
          refine resume_L ?_
          refine wpList_put HDr.out.blk (o := 803) (v := .bool true) (by rw [sc_size]; decide) rfl rfl rfl infoBo ?_
          intro w2 hb2 p2
          rw [sc_set_tr, ← put2_far (q := rm) HW.out.2 (by have := HW.out.1; omega)] at hb2
          have HD2 := Lib.hid (show SD w2 b (put2 D T (o ++ [rm])) (L : Int) dp ng true from hb2)
          have HK2 := Lib.hid (HK.out.trans p2)
          clear hb2 p2 f3
          go_wp2_with fail
          go_roundw
          case rel => exact ⟨j + 1, q, W, o ++ [rm], true, by go_num, by go_num, by omega, by omega, Lib.hid (by have := HVj.out; omega), Lib.hid (by rw [List.length_append, HO.out]; rfl), HS, HD2, HK2⟩
          case measure => simp [intOf]
    · obtain rfl : m = 0 := by omega
      have hfull := HX.out.full (by rw [HO.out, HL.out]; exact hj) HN2.out
      have hoT : o.length = T := by have := HVj.out; have := HO.out; omega
      have HOT := Lib.hid hoT
      have hE18 : E ≤ 18 := by
        have h1 := HN2.out
        have h2 := vD_lt HG.out.1
        rw [HL.out] at h2
        have h3 : vD l * p ≤ vD l * 576460752303423488 := Nat.mul_le_mul_left _ hp2
        have h4 : vD l * 576460752303423488 < 10 ^ L * 576460752303423488 := Nat.mul_lt_mul_of_pos_right h2 (by decide)
        have h5 : 10 ^ T < 10 ^ (L + 19) := by
          rw [Nat.pow_add]
          generalize 10 ^ L = q at *
          omega
        have h6 := (Nat.pow_lt_pow_iff_right (a := 10) (by decide)).1 h5
        have := HT.out
        omega
      have hF := Dbl.fin HX.out HG.out (show p ≤ 10 ^ 18 by omega) (by rw [HO.out, HL.out]; exact hj) (by rw [hoT, HL.out]; have := HT.out; omega)
      have HFin := Lib.hid (show Dbld l p o.reverse E by rw [hoT, HL.out, show T - L = E by have := HT.out; omega] at hF; exact hF)
      have HRp := Lib.hid (put2_rep (D := D) hoT)
      have hlen : (o.reverse.take 800).length = min 800 T := by rw [List.length_take, List.length_reverse, hoT]
      have HLn := Lib.hid hlen
      have f1 := HDr.out.cnd
      have f2 := HDr.out.cdp
      clear hF hlen hoT hfull
      go_wp2_with ((with_reducible refine gate_st (t := 3) rfl ?_); refine halt_L ?_)
      refine resume_L ?_
      refine wpList_put HDr.out.blk (o := 800) (v := .int .i64 (T : Int)) (by rw [sc_size]; decide) rfl (by first | rfl | (simp; done)) rfl infoI ?_
      intro w2 hb2 p2
      rw [sc_set_nd] at hb2
      have HD2 := Lib.hid (show SD w2 b (put2 D T o) (T : Int) dp ng tr from hb2)
      have HK2 := Lib.hid (HK.out.trans p2)
      have g1 := HD2.out.cnd
      have g2 := HD2.out.cdp
      clear hb2 p2 f1 f2
      by_cases h8 : 800 ≤ T
      · go_wp2_with ((with_reducible refine gate_st (t := 3) rfl ?_); refine halt_L ?_)
        refine resume_L ?_
        refine wpList_put HD2.out.blk (o := 800) (v := .int .i64 800) (by rw [sc_size]; decide) rfl rfl rfl infoI ?_
        intro w3 hb3 p3
        rw [sc_set_nd] at hb3
        have HD3 := Lib.hid (show SD w3 b (put2 D T o) (800 : Int) dp ng tr from hb3)
        have HK3 := Lib.hid (HK2.out.trans p3)
        have g3 := HD3.out.cdp
        clear hb3 p3 g1 g2
        go_wp2_with ((with_reducible refine gate_st (t := 3) rfl ?_); refine halt_L ?_)
        refine resume_L ?_
        refine wpList_put HD3.out.blk (o := 801) (v := .int .i64 (dp + (E : Int))) (by rw [sc_size]; decide) rfl rfl rfl infoI ?_
        intro w4 hb4 p4
        rw [sc_set_dp] at hb4
        have HK4 := Lib.hid (HK3.out.trans p4)
        have hT := strim_any b (put2 D T o) (o.reverse.take 800) (dp + (E : Int)) ng tr w4 (by rw [HLn.out, show min 800 T = 800 by omega]; exact hb4) HRp.out (by rw [HLn.out]; omega) (fun d hd => HFin.out.good.1 d (List.mem_of_mem_take hd))
        clear hb4 p4 g3
        go_wp2_with (go_at_call 110; refine halt_H ?_)
        refine resume_H ?_
        refine hT.mono ?_
        rintro en w5 ⟨rfl, hD5, p5⟩
        have hne : trimD (o.reverse.take 800) ≠ [] := by
          obtain ⟨⟨_, d, t, e, _⟩, _⟩ := trimD_good (good_take HFin.out.good)
          rw [e]; simp
        rw [if_neg hne] at hD5
        have HD5 := Lib.hid hD5
        have HK5 := Lib.hid (HK4.out.trans p5)
        clear hT hD5 p5 hne
        go_wp2
        go_end0
        exact ⟨rfl, HK5.out, o.reverse, E, _, tr, by rw [HP.out]; exact HFin.out, HD5.out, rep_trim HRp.out⟩
      · go_wp2_with ((with_reducible refine gate_st (t := 3) rfl ?_); refine halt_L ?_)
        refine resume_L ?_
        refine wpList_put HD2.out.blk (o := 801) (v := .int .i64 (dp + (E : Int))) (by rw [sc_size]; decide) rfl rfl rfl infoI ?_
        intro w4 hb4 p4
        rw [sc_set_dp] at hb4
        have HK4 := Lib.hid (HK2.out.trans p4)
        have hT := strim_any b (put2 D T o) (o.reverse.take 800) (dp + (E : Int)) ng tr w4 (by rw [HLn.out, show min 800 T = T by omega]; exact hb4) HRp.out (by rw [HLn.out]; omega) (fun d hd => HFin.out.good.1 d (List.mem_of_mem_take hd))
        clear hb4 p4 g1 g2
        go_wp2_with (go_at_call 110; refine halt_H ?_)
        refine resume_H ?_
        refine hT.mono ?_
        rintro en w5 ⟨rfl, hD5, p5⟩
        have hne : trimD (o.reverse.take 800) ≠ [] := by
          obtain ⟨⟨_, d, t, e, _⟩, _⟩ := trimD_good (good_take HFin.out.good)
          rw [e]; simp
        rw [if_neg hne] at hD5
        have HD5 := Lib.hid hD5
        have HK5 := Lib.hid (HK4.out.trans p5)
        clear hT hD5 p5 hne
        go_wp2
        go_end0
        exact ⟨rfl, HK5.out, o.reverse, E, _, tr, by rw [HP.out]; exact HFin.out, HD5.out, rep_trim HRp.out⟩
end Go.Proofs.YtilkcnoooecngaaGreatDoor
