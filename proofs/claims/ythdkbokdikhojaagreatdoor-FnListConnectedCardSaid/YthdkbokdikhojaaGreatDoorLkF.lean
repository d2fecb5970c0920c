/- Reading a list back: the walk of LsBack, at lines that are made of connectors, a bullet and a text. No conditions. -/
import Derived.Test.YthdkbokdikhojaaGreatDoorLkE
namespace Go.Proofs.YthdkbokdikhojaaGreatDoor
open Go.RowKit
set_option linter.unusedVariables false
def BackRet (n : Nat) (its : List (ByteArray × Int)) (w : World) (e : Ending) (w' : World) : Prop := ∃ A cap, e = .returned (.tuple #[.slice A n cap, .bool true]) ∧ LsArg w' w'.heap.size A n cap its ∧ Below w.heap.size w w'
theorem linesShape {w : World} {B : Nat} {v : Value} {e : TypeId} {ls : List (List UInt8)} (h : w.ownsRow B e 1 v ls.length (ls.map strV)) : ∃ a cap, v = .slice a ls.length cap ∧ ls.length ≤ cap ∧ cap ≤ maxLen ∧ ∀ k, k < ls.length → ∃ g, a = some ⟨g, 0, none⟩ ∧ w.cell? ⟨g, k, none⟩ = some (.string ⟨(ls.getD k []).toArray⟩) := by
  rcases h.2 with ⟨rfl, h0⟩ | ⟨g, cap, cur, rfl, hb, hg, hc1, hc2, _⟩
  · exact ⟨none, 0, by rw [h0], by omega, by unfold maxLen; omega, fun k hk => absurd hk (by omega)⟩
  · refine ⟨_, cap, rfl, hc1, hc2, fun k hk => ⟨g, rfl, ?_⟩⟩
    rw [h.cellAt k (by omega)]
    simp [hk, strV]
theorem cell_lt' {w : World} {a : Addr} {v : Value} (h : w.cell? a = some v) : a.block < w.heap.size := by
  rcases Nat.lt_or_ge a.block w.heap.size with h1 | h1
  · exact h1
  · exfalso
    unfold World.cell? at h
    rw [Array.getElem?_eq_none h1] at h
    simp at h
theorem drop_size (q : ByteArray) (k : Nat) : (⟨(q.data.toList.drop k).toArray⟩ : ByteArray).size = q.size - k := by
  rw [Lib.size_eq, Lib.size_eq]; simp
theorem app32 (s : ByteArray) : (s ++ ⟨#[32]⟩).data.toList = s.data.toList ++ [32] := by simp
theorem app32_size (s : ByteArray) : (s ++ ⟨#[32]⟩).size = s.size + 1 := by rw [ByteArray.size_append]; rfl
theorem blw {w a b : World} (h : Below w.heap.size w a) (k : Below a.heap.size a b) : Below w.heap.size w b := h.trans (k.mono h.size)
set_option maxHeartbeats 8000000 in
set_option maxRecDepth 100000 in
theorem back_any (out : ByteArray) (D : LD) (n : Nat) (its : List (ByteArray × Int)) (b : Nat → ByteArray) (w : World) (ho : out.size ≤ 2147483647) (hn : n ≤ 60) (hl : (linesOf out).length = n) (hi : its.length = n)
    (hb0 : b 0 = D.s1) (hb1 : b 1 = D.s2) (hb2 : b 2 = D.s3) (hb3 : b 3 = D.s4) (hb4 : b 4 = D.s6) (hS : BackS D.s5 (spaces (Lib.runeCount D.s5)) b) (h5 : simp false D.s5 = true) (hnw : nw D.s5 = true)
    (hL : ∀ k, k < n → BackL D.s5 (spaces (Lib.runeCount D.s5)) b ((linesOf out).getD k []) (tx its k) (lv its k)) (hlen : ∀ k, k < n → ((linesOf out).getD k []).length ≤ 100000) :
    Calls Tryz.prog 8 #[.string out, .agg #[.int .i64 0, .string D.s1, .string D.s2, .string D.s3, .string D.s4, .string D.s5, .string D.s6, .string D.s7, .string D.s8]] w (BackRet n its w) := by
  have hBa := (Below.refl w.heap.size w).alloc (Nat.le_refl _) (boxO D)
  have hsz : w.heap.size < (w.alloc (boxO D)).heap.size := by simp
  have HN := Lib.hid (BxC.new D w)
  have HBa := Lib.hid hBa
  have HSz := Lib.hid hsz
  have HLn := Lib.hid hl
  have HI := Lib.hid hi
  have HS := Lib.hid hS
  have HL := Lib.hid hL
  have HLe := Lib.hid hlen
  have HWi := Lib.hid (fun (w' : World) => width_any D.s5 w' (by have := hS.sV; omega) h5 hnw)
  have hrc : Lib.runeCount D.s5 ≤ 20 := Nat.le_trans (Lib.runeCount_le D.s5) hS.sV
  have HTi := Lib.hid (fun (w' : World) => times_any (Lib.runeCount D.s5) w' (by omega))
  have HLi := Lib.hid (fun (w' : World) => lines_any out w' ho)
  have hne := hS.ne
  have HB := Lib.hid (show b 0 = D.s1 ∧ b 1 = D.s2 ∧ b 2 = D.s3 ∧ b 3 = D.s4 ∧ b 4 = D.s6 from ⟨hb0, hb1, hb2, hb3, hb4⟩)
  clear hBa hsz hl hi hS hL hlen h5 hnw hrc hb0 hb1 hb2 hb3 hb4
  go_enter Tryz.func8, Tryz.ntmps8
  obtain ⟨x0, x1, x2, x3, x4, x5, x6, x7, x8⟩ := HN.out
  generalize hwa : w.alloc (.cells #[.int .i64 0, .string D.s1, .string D.s2, .string D.s3, .string D.s4, .string D.s5, .string D.s6, .string D.s7, .string D.s8] 25) = wa at *
  generalize hbl : spaces (Lib.runeCount D.s5) = bl at *
  generalize Lib.runeCount D.s5 = rc at *
  go_wp2_with (first
    | (go_at_call 27; refine (HWi.out _).mono ?_; rintro e w1 ⟨rfl, k1⟩; have K1 := Lib.hid k1; clear k1 x0 x1 x2 x3 x4 x5 x6 x7 x8)
    | (go_at_call 26; refine (HTi.out _).mono ?_; rintro e w2 ⟨rfl, k2⟩; have K2 := Lib.hid (blw K1.out k2); clear k2)
    | (go_at_call 28; refine halt_U ?_))
  refine resume_U ?_
  refine (HLi.out w2).mono ?_
  rintro e w3 ⟨v, rfl, hv, k3⟩
  have K3 := Lib.hid (blw K2.out k3)
  obtain ⟨la, lc, rfl, hlc1, hlc2, hcells⟩ := linesShape hv
  have HC := Lib.hid hcells
  rw [HLn.out] at HC hlc1
  rw [HLn.out]
  clear k3 hv hcells HLi HTi HWi K2 K1
  generalize linesOf out = ls at *
  unfold maxLen at hlc2
  go_wp2_with fail
  go_loopw [6, 30] (fun lst iv wr => ∃ k : Nat, k ≤ n ∧ iv = .int .i64 k ∧ wr.ownsRow w3.heap.size 35 2 lst (its.take k).length (itmCells (its.take k)) ∧ Hid (Below w3.heap.size w3 wr)) (fun _ iv _ => n - (intOf iv).toNat)
  case atStart => exact ⟨0, Nat.zero_le _, rfl, World.ownsRow_nil _ _ _ _, Lib.hid (Below.refl _ _)⟩
  case round =>
    obtain ⟨k, hk, rfl, hown, HW⟩ := hrel
    obtain ⟨wo, rfl⟩ : ∃ wo : World, wo = wr := ⟨_, rfl⟩
    by_cases hlt : k < n
    · obtain ⟨lg, rfl, hlc⟩ := HC.out k hlt
      have hlb : lg < w3.heap.size := cell_lt' hlc
      have d0 : wo.cell? ⟨lg, k, none⟩ = some (.string ⟨(ls.getD k []).toArray⟩) := (HW.out.cell (p := ⟨lg, k, none⟩) hlb).trans hlc
      obtain ⟨P, i, hline, hP, hz, hP60, hi5⟩ := (HL.out k hlt).has
      have HLt := Lib.hid (HLe.out k hlt)
      obtain ⟨x0, x1, x2, x3, x4, x5, x6, x7, x8⟩ := HN.out.below (blw K3.out HW.out) HSz.out
      have HTk := Lib.hid (take_itm its k (by rw [HI.out]; exact hlt))
      have HPm := Lib.hid hP
      have HZ := Lib.hid hz
      obtain ⟨tail, htail⟩ : ∃ tail, tail = (b i).data.toList ++ (32 :: (tx its k).data.toList) := ⟨_, rfl⟩
      have HT := Lib.hid htail
      have HQ := Lib.hid (show (ls.getD k []) = rst P tail 0 by rw [hline, htail]; simp [rst])
      clear hlc hline hP hz htail
      generalize hq0 : ls.getD k [] = q0 at *
      have hsq0 : (⟨q0.toArray⟩ : ByteArray).size = q0.length := by simp [ByteArray.size]
      have Hq := Lib.hid (show (⟨q0.toArray⟩ : ByteArray).data.toList = rst P tail 0 by rw [← HQ.out])
      have hqs : (⟨q0.toArray⟩ : ByteArray).size ≤ 100000 := by rw [hsq0]; exact HLt.out
      generalize (⟨q0.toArray⟩ : ByteArray) = qs at *
      clear hq0 hsq0 HQ HLt
      go_wp2_with fail
      go_loop [10, 11, 12] (fun lev rs mr => ∃ (j : Nat) (q : ByteArray), j ≤ P.length ∧ lev = .int .i64 j ∧ rs = .string q ∧ q.size ≤ 100000 ∧ Hid (q.data.toList = rst P tail j) ∧ (mr = .bool true ∨ (mr = .bool false ∧ j = P.length))) (fun lev _ mr => P.length - (intOf lev).toNat + mb mr)
      case atStart => exact ⟨0, qs, Nat.zero_le _, rfl, rfl, hqs, Hq, .inl rfl⟩
      case round =>
        obtain ⟨j, q, hj, rfl, rfl, hqz, Hqr, hmr⟩ := hrel
        rcases hmr with rfl | ⟨rfl, hje⟩
        · by_cases hjl : j < P.length
          · have hr := rst_at P tail j hjl
            have hm := HPm.out _ (pc_mem P j hjl)
            rw [← Hqr.out] at hr
            rcases hm with hm | hm
            · rw [hm] at hr
              have HBg := Lib.hid (begins_yes q D.s5 (by rw [hr]; exact pre_app _ _) wo (by omega))
              have Hd := Lib.hid (show q.data.toList.drop D.s5.size = rst P tail (j + 1) by rw [hr, Lib.size_eq, List.drop_left])
              have hdz : (⟨(q.data.toList.drop D.s5.size).toArray⟩ : ByteArray).size ≤ 100000 := by rw [drop_size]; omega
              have Hq2 := Lib.hid (show (⟨(q.data.toList.drop D.s5.size).toArray⟩ : ByteArray).data.toList = rst P tail (j + 1) by rw [← Hd.out])
              clear hr hm Hd
              unfold BegRet at HBg
              generalize (⟨(q.data.toList.drop D.s5.size).toArray⟩ : ByteArray) = q2 at *
              go_wp2_with (go_at_call 29; refine HBg.out.mono ?_; rintro e w4 ⟨rfl, rfl⟩)
              go_round
              case rel => exact ⟨j + 1, q2, by omega, by go_num, rfl, hdz, Hq2, .inl rfl⟩
              case measure => simp [intOf, mb]; omega
            · rw [hm] at hr
              have HBn := Lib.hid (begins_no q D.s5 (by rw [hr]; exact HS.out.vb _) wo (by omega) (by have := HS.out.sV; omega))
              have HBg := Lib.hid (begins_yes q bl (by rw [hr]; exact pre_app _ _) wo (by omega))
              have Hd := Lib.hid (show q.data.toList.drop bl.size = rst P tail (j + 1) by rw [hr, Lib.size_eq, List.drop_left])
              have hdz : (⟨(q.data.toList.drop bl.size).toArray⟩ : ByteArray).size ≤ 100000 := by rw [drop_size]; omega
              have Hq2 := Lib.hid (show (⟨(q.data.toList.drop bl.size).toArray⟩ : ByteArray).data.toList = rst P tail (j + 1) by rw [← Hd.out])
              clear hr hm Hd
              unfold BegRet at HBg HBn
              generalize (⟨(q.data.toList.drop bl.size).toArray⟩ : ByteArray) = q2 at *
              go_wp2_with (go_at_call 29; refine halt_U ?_)
              refine resume_U ?_
              refine HBn.out.mono ?_
              rintro e w4 ⟨rfl, rfl⟩
              clear HBn
              go_wp2_with (go_at_call 29; refine HBg.out.mono ?_; rintro e w4 ⟨rfl, rfl⟩)
              go_round
              case rel => exact ⟨j + 1, q2, by omega, by go_num, rfl, hdz, Hq2, .inl rfl⟩
              case measure => simp [intOf, mb]; omega
          · have hje : j = P.length := by omega
            have hq3 : q.data.toList = (b i).data.toList ++ (32 :: (tx its k).data.toList) := by rw [Hqr.out, hje, rst_end, HT.out]
            have HBn := Lib.hid (begins_no q D.s5 (by rw [hq3]; exact HS.out.vu i _ hi5) wo (by omega) (by have := HS.out.sV; omega))
            have HBn2 := Lib.hid (begins_no q bl (by rw [hq3]; exact HS.out.lu i _ hi5) wo (by omega) (by have := HS.out.sbl; omega))
            have HJ := Lib.hid hje
            clear hq3 hje
            unfold BegRet at HBn HBn2
            rw [← mk_of] at HBn HBn2
            go_wp2_with (go_at_call 29; refine halt_U ?_)
            refine resume_U ?_
            refine HBn.out.mono ?_
            rintro e w4 ⟨rfl, rfl⟩
            clear HBn
            go_wp2_with (go_at_call 29; refine HBn2.out.mono ?_; rintro e w4 ⟨rfl, rfl⟩)
            go_round
            case rel => exact ⟨j, q, by omega, rfl, rfl, hqz, Hqr, .inr ⟨rfl, HJ.out⟩⟩
            case measure => simp [intOf, mb]
        · have HJ := Lib.hid hje
          have hq3 : q.data.toList = (b i).data.toList ++ (32 :: (tx its k).data.toList) := by rw [Hqr.out, hje, rst_end, HT.out]
          have hj60 : j ≤ 60 := by omega
          have HQ3 := Lib.hid hq3
          have hBs := HW.out.size
          have HBg : Hid (∀ m, m < 5 → (#[.string D.s1, .string D.s2, .string D.s3, .string D.s4, .string D.s6] : Array Value)[m]? = some (.string (b m))) := Lib.hid (by
            obtain ⟨h0, h1, h2, h3, h4⟩ := HB.out
            intro m hm
            have : m = 0 ∨ m = 1 ∨ m = 2 ∨ m = 3 ∨ m = 4 := by omega
            rcases this with rfl | rfl | rfl | rfl | rfl
            · rw [h0]; rfl
            · rw [h1]; rfl
            · rw [h2]; rfl
            · rw [h3]; rfl
            · rw [h4]; rfl)
          have Own0 := Lib.hid (hown.alloc (.cells #[.string D.s1, .string D.s2, .string D.s3, .string D.s4, .string D.s6] 9))
          have HW0 := Lib.hid (HW.out.alloc hBs (.cells #[.string D.s1, .string D.s2, .string D.s3, .string D.s4, .string D.s6] 9))
          have Blk0 := Lib.hid (heap_alloc_new wo (.cells #[.string D.s1, .string D.s2, .string D.s3, .string D.s4, .string D.s6] 9))
          clear hje hq3 hown HW Hqr
          go_wp2_with fail
          clear x0 x1 x2 x3 x4 x5 x6 x7 x8 d0
          go_loopw [6, 15, 68] (fun lst fv iv wr => ∃ (m : Nat) (cur : List (ByteArray × Int)), m ≤ 5 ∧ iv = .int .i64 m ∧ fv = .bool (fnd b (b i) m) ∧ Hid (cur = if fnd b (b i) m then its.take (k + 1) else its.take k) ∧ cur.length ≤ 61 ∧ wr.ownsRow w3.heap.size 35 2 lst cur.length (itmCells cur) ∧ Hid (Below w3.heap.size w3 wr) ∧ Hid (wr.heap[wo.heap.size]? = some (.cells #[.string D.s1, .string D.s2, .string D.s3, .string D.s4, .string D.s6] 9 (0, 0)))) (fun _ _ iv _ => 5 - (intOf iv).toNat)
          case atStart => exact ⟨0, its.take k, by omega, rfl, rfl, Lib.hid rfl, by rw [List.length_take]; omega, Own0.out, HW0, Blk0⟩
          case round =>
            obtain ⟨m, cur, hm5, rfl, rfl, hcur, hcl, hown, HW, HK⟩ := hrel
            obtain ⟨wi, rfl⟩ : ∃ wi : World, wi = wr := ⟨_, rfl⟩
            have hBs := HW.out.size
            by_cases hm : m < 5
            · have cm : wi.cell? ⟨wo.heap.size, m, none⟩ = some (.string (b m)) := by rw [cell_of_row wi _ m _ 9 (0, 0) HK.out]; exact HBg.out m hm
              have hbz := HS.out.sb m hm
              have hpre := HS.out.bb i m (tx its k).data.toList hi5 hm
              rw [← HQ3.out, ← app32] at hpre
              have HF := Lib.hid (show fnd b (b i) (m + 1) = (fnd b (b i) m || decide (b m = b i)) from rfl)
              by_cases hbe : b m = b i
              · rw [hbe, decide_eq_true rfl] at hpre
                rw [hbe] at cm hbz HF
                have hdrop : (⟨(q.data.toList.drop (b i ++ ⟨#[32]⟩).size).toArray⟩ : ByteArray) = tx its k := by
                  have e : q.data.toList = (b i ++ ⟨#[32]⟩).data.toList ++ (tx its k).data.toList := by rw [HQ3.out, app32, List.append_assoc]; try rfl
                  rw [e, Lib.size_eq, List.drop_left]; try exact (mk_of _).symm
                have HY := Lib.hid (begins_yes q (b i ++ ⟨#[32]⟩) hpre wi (by omega))
                unfold BegRet at HY
                rw [hdrop] at HY
                rw [decide_eq_true rfl, Bool.or_true] at HF
                clear hpre hdrop hbe
                generalize hbi : b i = bi at *
                generalize htx : tx its k = tk at *
                cases hf : fnd b bi m with
                | true =>
                  rw [hf] at hcur
                  clear hf hbi
                  go_wp2_with (go_at_call 29; refine HY.out.mono ?_; rintro e w4 ⟨rfl, rfl⟩)
                  go_roundw
                  case rel => exact ⟨m + 1, cur, by omega, by go_num, by rw [HF.out], Lib.hid (by rw [HF.out]; exact hcur.out), hcl, hown, HW, HK⟩
                  case measure => simp [intOf]; omega
                | false =>
                  rw [hf] at hcur
                  have hne := own_other hown HK.out (by decide)
                  have hcurE := Lib.hid (show cur ++ [(tk, (j : Int))] = its.take (k + 1) by rw [hcur.out, HTk.out, HZ.out, HJ.out]; rfl)
                  have hcl2 : (cur ++ [(tk, (j : Int))]).length ≤ 61 := by rw [hcurE.out, List.length_take]; omega
                  clear hf hbi
                  go_wp2_with (first
                    | (go_at_call 29; refine HY.out.mono ?_; rintro e w4 ⟨rfl, rfl⟩)
                    | (at_builtin; (refine append_itm (B := w3.heap.size) (w0 := w3) (g := wi.heap.size) (l := cur) (t := tk) (z := (j : Int)) (hown.alloc _) (HW.out.alloc hBs _) rfl rfl (heap_alloc_new wi _) (by omega) (by simp; omega) ?_); intro v' w' hown' hB' hg'
                       have HB' := Lib.hid hB'
                       have HK' := Lib.hid (show w'.heap[wo.heap.size]? = some (.cells #[.string D.s1, .string D.s2, .string D.s3, .string D.s4, .string D.s6] 9 (0, 0)) from (hg'.block _ (by simp; exact Nat.lt_succ_of_lt (Array.getElem?_eq_some_iff.1 HK.out).1) hne).trans ((Below.heap_alloc _ _ _ (Array.getElem?_eq_some_iff.1 HK.out).1).trans HK.out))
                       clear hB' hg' hown hne))
                  go_roundw
                  case rel => exact ⟨m + 1, cur ++ [(tk, (j : Int))], by omega, by go_num, by rw [HF.out], Lib.hid (by rw [HF.out]; exact hcurE.out), hcl2, hown', HB', HK'⟩
                  case measure => simp [intOf]; omega
              · rw [decide_eq_false hbe] at hpre
                have HNo := Lib.hid (begins_no q (b m ++ ⟨#[32]⟩) hpre wi (by omega) (by rw [app32_size]; omega))
                unfold BegRet at HNo
                rw [← mk_of] at HNo
                rw [decide_eq_false hbe, Bool.or_false] at HF
                clear hpre hbe
                generalize fnd b (b i) m = f0 at *
                go_wp2_with (go_at_call 29; refine HNo.out.mono ?_; rintro e w4 ⟨rfl, rfl⟩)
                go_roundw
                case rel => exact ⟨m + 1, cur, by omega, by go_num, by rw [HF.out], Lib.hid (by rw [HF.out]; exact hcur.out), hcl, hown, HW, HK⟩
                case measure => simp [intOf]; omega
            · have hm5 : m = 5 := by omega
              subst hm5
              have hf := fnd_hit b (b i) 5 i hi5 rfl
              rw [hf] at hcur ⊢
              have hown2 := hown
              rw [show cur = its.take (k + 1) from hcur.out] at hown2
              clear hown hf hcl
              go_wp2_with fail
              go_roundw
              case rel => exact ⟨k + 1, by omega, by go_num, hown2, HW⟩
              case measure => simp [intOf]; omega
    · have hke : k = n := by omega
      subst hke
      have hown2 := hown
      rw [List.take_of_length_le (by rw [HI.out]; exact Nat.le_refl _), HI.out] at hown2
      obtain ⟨A, cap, rfl, ha⟩ := itm_arg hown2 HI.out
      have HA := Lib.hid ha
      clear hown hown2 ha
      go_wp2_with fail
      go_ret2
      exact ⟨A, cap, rfl, HA.out, HBa.out.trans ((blw K3.out HW.out).mono (Nat.le_of_lt HSz.out))⟩
end Go.Proofs.YthdkbokdikhojaaGreatDoor
