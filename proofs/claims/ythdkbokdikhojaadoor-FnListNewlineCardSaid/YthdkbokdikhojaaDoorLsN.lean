/- The steps of a list of which only the levels are known. No conditions. -/
import Derived.Test.YthdkbokdikhojaaDoorLsB
import Derived.Test.YthdkbokdikhojaaDoorLsM
import Derived.Test.YthdkbokdikhojaaDoorLdZ
import Derived.WalkKit
import Derived.Handy
import Derived.BigQuiet
import Derived.Laws.OwnMore
import Derived.WalkLawsBesides
namespace Go.Proofs.YthdkbokdikhojaaDoor
open Go.RowKit
set_option linter.unusedVariables false
def LevTo (l : List (ByteArray × Int)) (n : Nat) : Prop := ∀ j, j < n → 0 ≤ lv l j ∧ lv l j ≤ j
theorem lev_prv {l : List (ByteArray × Int)} {n k : Nat} (h : LevTo l n) (hk : k ≤ n) (hn : n ≤ 60) : 0 ≤ prv l k ∧ prv l k ≤ 60 := by
  unfold prv
  split
  · omega
  · have := h (k - 1) (by omega); omega
theorem lev_len {l : List (ByteArray × Int)} {n : Nat} (h : LevTo l n) (hn : n ≤ 60) : ∀ k, k ≤ n → (stepsTo l k).length ≤ k * 200
  | 0, _ => by simp [stepsTo]
  | k + 1, hk => by
    have ih := lev_len h hn k (by omega)
    have p := lev_prv h (k := k) (by omega) hn
    have q := h k (by omega)
    simp only [stepsTo, List.length_append, indS_len, unS_len, List.length_singleton]
    omega
set_option maxHeartbeats 4000000 in
set_option maxRecDepth 100000 in
theorem steps_lev (A : Option Addr) (n cap : Nat) (l : List (ByteArray × Int)) (w : World) (h : LsArg w w.heap.size A n cap l) (hr : LevTo l n) (h60 : n ≤ 60) :
    Calls Tryd.prog 11 #[.slice A n cap] w (StepsRet l w) := by
  have hl := Lib.hid h.2.1
  have HR := Lib.hid hr
  clear hr
  go_enter Tryd.func11, Tryd.ntmps11
  go_wp2_with fail
  go_loopw [3, 4, 9] (fun v lev i wr => ∃ k : Nat, k ≤ n ∧ i = .int .i64 k ∧ lev = .int .i64 (prv l k) ∧ wr.ownsRow w.heap.size 50 3 v (stepsTo l k).length (stpCells (stepsTo l k)) ∧ Hid (Below w.heap.size w wr)) (fun _ _ i _ => n - (intOf i).toNat)
  case atStart => exact ⟨0, Nat.zero_le _, rfl, rfl, World.ownsRow_nil _ _ _ _, Lib.hid (Below.refl _ _)⟩
  case round =>
    obtain ⟨k, hk, rfl, rfl, hown, HB⟩ := hrel
    by_cases hlt : k < n
    · obtain ⟨b, o, rfl, hb, hc⟩ := h.cell hlt
      obtain ⟨c1, c2⟩ := hc k hlt
      have d1 : wr.cell? ⟨b, o + k * 2, none⟩ = some (.string (tx l k)) := (HB.out.cell (p := ⟨b, o + k * 2, none⟩) hb).trans c1
      have d2 : wr.cell? ⟨b, o + k * 2 + 1, none⟩ = some (.int .i64 (lv l k)) := (HB.out.cell (p := ⟨b, o + k * 2 + 1, none⟩) hb).trans c2
      have hbw : b < wr.heap.size := by have := HB.out.size; omega
      have hL := lev_len HR.out h60 k (by omega)
      have hp := lev_prv HR.out (k := k) (by omega) h60
      have hq := HR.out k hlt
      obtain ⟨p0, p1⟩ := hp
      have q0 : 0 ≤ lv l k := hq.1
      have q1 : lv l k ≤ 60 := by have := hq.2; omega
      clear hq hc c1 c2
      obtain ⟨wo, rfl⟩ : ∃ wo : World, wo = wr := ⟨_, rfl⟩
      have HStep := Lib.hid (show stepsTo l (k + 1) = stepsTo l k ++ indS (lv l k - prv l k).toNat ++ unS (prv l k - lv l k).toNat ++ [(0, tx l k)] from rfl)
      have HPrv := Lib.hid (show prv l (k + 1) = lv l k by unfold prv; simp)
      generalize hpk : prv l k = pk at *
      generalize hlk : lv l k = lk at *
      generalize htk : tx l k = tk at *
      generalize hS : stepsTo l k = S at *
      have e0 : HB.out.size = HB.out.size := rfl
      have hBs := HB.out.size
      have own1 := hown.alloc (.cells #[.string tk, .int .i64 lk] 34)
      have HB1 := Lib.hid (HB.out.alloc hBs (.cells #[.string tk, .int .i64 lk] 34))
      have blk1 : (wo.alloc (.cells #[.string tk, .int .i64 lk] 34)).heap[wo.heap.size]? = some (.cells #[.string tk, .int .i64 lk] 34 (0, 0)) := heap_alloc_new _ _
      have Own1 := Lib.hid own1
      have Blk1 := Lib.hid blk1
      have hSl : S.length ≤ 12000 := by omega
      clear own1 blk1 e0 hown HB hpk hlk htk hS
      go_wp2_with fail
      go_loopw [3, 4] (fun v lev wq => ∃ j : Nat, j ≤ (lk - pk).toNat ∧ lev = .int .i64 (pk + j) ∧ wq.ownsRow w.heap.size 50 3 v (S ++ indS j).length (stpCells (S ++ indS j)) ∧ Hid (Below w.heap.size w wq) ∧ Hid (wq.heap[wo.heap.size]? = some (.cells #[.string tk, .int .i64 lk] 34 (0, 0)))) (fun _ lev _ => (lk - intOf lev).toNat)
      case atStart => exact ⟨0, Nat.zero_le _, by simp, by rw [indS_0]; exact Own1.out, HB1, Blk1⟩
      case round =>
        obtain ⟨j, hj, rfl, hown, HB, HK⟩ := hrel
        have k1 : wr.cell? ⟨wo.heap.size, 1, none⟩ = some (.int .i64 lk) := cell_of_row wr _ 1 _ 34 (0, 0) HK.out
        have k0 : wr.cell? ⟨wo.heap.size, 0, none⟩ = some (.string tk) := cell_of_row wr _ 0 _ 34 (0, 0) HK.out
        obtain ⟨wi, rfl⟩ : ∃ wi : World, wi = wr := ⟨_, rfl⟩
        have hBs := HB.out.size
        by_cases hj2 : pk + j < lk
        · have hlen : (S ++ indS j).length ≤ 1000000 := by rw [List.length_append, indS_len]; omega
          have hne := own_ne hown HK.out (by decide)
          go_wp2_with (at_builtin; (refine append_stp (B := w.heap.size) (w0 := w) (g := wi.heap.size) (l := S ++ indS j) (k := 2) (t := ⟨#[]⟩) (hown.alloc _) (HB.out.alloc hBs _) rfl rfl (heap_alloc_new wi _) hlen (by simp; omega) ?_); intro v' w' hown' hB' hg'
                       have HB' := Lib.hid hB'
                       have HK' := Lib.hid (show w'.heap[wo.heap.size]? = some (.cells #[.string tk, .int .i64 lk] 34 (0, 0)) from (hg'.block _ (by simp; exact Nat.lt_succ_of_lt (Array.getElem?_eq_some_iff.1 HK.out).1) hne).trans ((Below.heap_alloc wi _ _ (Array.getElem?_eq_some_iff.1 HK.out).1).trans HK.out))
                       rw [List.append_assoc, ← indS_snoc] at hown'
                       clear hB' hg')
          go_roundw
          case rel => exact ⟨j + 1, by omega, by go_num, hown', HB', HK'⟩
          case measure => simp [intOf]; omega
        · have hj3 : j = (lk - pk).toNat := by omega
          have hv4 : pk + j = max pk lk := by omega
          rw [hv4]
          rw [hj3] at hown
          generalize hS1 : S ++ indS (lk - pk).toNat = S1 at hown
          have hS1l : S1.length ≤ 13000 := by rw [← hS1, List.length_append, indS_len]; omega
          have HS1 := Lib.hid hS1
          generalize hmx : max pk lk = mx at *
          have hmx0 : 0 ≤ mx ∧ mx ≤ 60 ∧ lk ≤ mx := by omega
          obtain ⟨m0, m1, m2⟩ := hmx0
          have HMx := Lib.hid (show mx = max pk lk from hmx.symm)
          have hdn : decide (mx < lk) = false := decide_eq_false (by omega)
          have Hown := Lib.hid hown
          clear hown hS1 hv4 hj3 hmx hj
          go_wp2_with fail
          clear hdn k1 k0
          go_loopw [3, 4] (fun v lev wq => ∃ j : Nat, j ≤ (mx - lk).toNat ∧ lev = .int .i64 (mx - j) ∧ wq.ownsRow w.heap.size 50 3 v (S1 ++ unS j).length (stpCells (S1 ++ unS j)) ∧ Hid (Below w.heap.size w wq) ∧ Hid (wq.heap[wo.heap.size]? = some (.cells #[.string tk, .int .i64 lk] 34 (0, 0)))) (fun _ lev _ => (intOf lev - lk).toNat)
          case atStart => exact ⟨0, Nat.zero_le _, by simp, by rw [unS_0]; exact Hown.out, HB, HK⟩
          case round =>
            obtain ⟨j, hj, rfl, hown, HB, HK⟩ := hrel
            have k1 : wr.cell? ⟨wo.heap.size, 1, none⟩ = some (.int .i64 lk) := cell_of_row wr _ 1 _ 34 (0, 0) HK.out
            have k0 : wr.cell? ⟨wo.heap.size, 0, none⟩ = some (.string tk) := cell_of_row wr _ 0 _ 34 (0, 0) HK.out
            obtain ⟨wj, rfl⟩ : ∃ wj : World, wj = wr := ⟨_, rfl⟩
            have hBs := HB.out.size
            have hlen : (S1 ++ unS j).length ≤ 1000000 := by rw [List.length_append, unS_len]; omega
            have hne := own_ne hown HK.out (by decide)
            by_cases hj2 : lk < mx - j
            · go_wp2_with (at_builtin; (refine append_stp (B := w.heap.size) (w0 := w) (g := wj.heap.size) (l := S1 ++ unS j) (k := 3) (t := ⟨#[]⟩) (hown.alloc _) (HB.out.alloc hBs _) rfl rfl (heap_alloc_new wj _) hlen (by simp; omega) ?_); intro v' w' hown' hB' hg'
                           have HB' := Lib.hid hB'
                           have HK' := Lib.hid (show w'.heap[wo.heap.size]? = some (.cells #[.string tk, .int .i64 lk] 34 (0, 0)) from (hg'.block _ (by simp; exact Nat.lt_succ_of_lt (Array.getElem?_eq_some_iff.1 HK.out).1) hne).trans ((Below.heap_alloc wj _ _ (Array.getElem?_eq_some_iff.1 HK.out).1).trans HK.out))
                           rw [List.append_assoc, ← unS_snoc] at hown'
                           clear hB' hg')
              go_roundw
              case rel => exact ⟨j + 1, by omega, by go_num, hown', HB', HK'⟩
              case measure => simp [intOf]; omega
            · have hj3 : j = (pk - lk).toNat := by have := HMx.out; omega
              have hv4 : mx - j = lk := by omega
              rw [hv4]
              rw [hj3] at hown hlen
              have hS2 : stepsTo l (k + 1) = (S1 ++ unS (pk - lk).toNat) ++ [(0, tk)] := by rw [HStep.out, HS1.out]
              have HS2 := Lib.hid hS2
              generalize S1 ++ unS (pk - lk).toNat = S2 at *
              have hdn : decide (lk < lk) = false := decide_eq_false (by omega)
              clear hj3 hv4 hS2 hj hj2
              go_wp2_with (at_builtin; (refine append_stp (B := w.heap.size) (w0 := w) (g := wj.heap.size) (l := S2) (k := 0) (t := tk) (hown.alloc _) (HB.out.alloc hBs _) rfl rfl (heap_alloc_new wj _) hlen (by simp; omega) ?_); intro v' w' hown' hB' hg'
                           have HB' := Lib.hid hB'
                           clear hB' hg')
              go_roundw
              case rel => exact ⟨k + 1, by omega, by go_num, by rw [HPrv.out], by rw [HS2.out]; exact hown', HB'⟩
              case measure => simp [intOf]; omega
    · have e : k = n := by omega
      subst e
      have hd : decide ((k : Int) < (k : Int)) = false := decide_eq_false (by omega)
      go_wp2_with fail
      go_ret
      exact ⟨_, rfl, by rw [hl.out]; exact hown, HB.out⟩
/-- One item at the top. -/
theorem one_item (W : World) (g : Nat) (t : ByteArray) (h : W.heap[g]? = some (.cells #[.string t, .int .i64 0] 34 (0, 0))) : LsArg W W.heap.size (some ⟨g, 0, none⟩) 1 1 [(t, 0)] := by
  refine ⟨⟨rfl, fun r hr => ?_, fun _ => ⟨g, 0, rfl, (Array.getElem?_eq_some_iff.1 h).1, fun i r hi j u hj => ?_⟩⟩, rfl, Nat.le_refl _, by unfold maxLen; omega⟩
  · simp [lsRow] at hr; subst hr; rfl
  · have h0 : i = 0 := by
      rcases i with _ | i
      · rfl
      · simp at hi
    subst h0
    simp [lsRow] at hi
    subst hi
    have e := cell_of_row W g j _ 34 (0, 0) h
    rw [show (W.cell? ⟨g, 0 + (0 * 2 + j), none⟩ = some u) = (W.cell? ⟨g, j, none⟩ = some u) from by rw [show (0 + (0 * 2 + j)) = j from by omega], e]
    rcases j with _ | _ | j
    · exact hj
    · exact hj
    · simp at hj
theorem one_lev (t : ByteArray) : LevTo [(t, 0)] 1 := fun j hj => by
  have : j = 0 := by omega
  subst this
  exact ⟨Int.le_refl _, Int.le_refl _⟩
theorem one_steps (t : ByteArray) : stepsTo [(t, 0)] 1 = [(0, t)] := by
  simp [stepsTo, lv, prv, tx, indS, unS]
def OneRet (t : ByteArray) (w : World) (e : Ending) (w' : World) : Prop := ∃ v, e = .returned v ∧ w'.ownsRow w.heap.size 50 3 v 1 (stpCells [(0, t)]) ∧ Below w.heap.size w w'
theorem steps_one (W : World) (g : Nat) (t : ByteArray) (h : W.heap[g]? = some (.cells #[.string t, .int .i64 0] 34 (0, 0))) : Calls Tryd.prog 11 #[.slice (some ⟨g, 0, none⟩) 1 1] W (OneRet t W) := by
  refine (steps_lev (some ⟨g, 0, none⟩) 1 1 [(t, 0)] W (one_item W g t h) (one_lev t) (by omega)).mono ?_
  rintro e w' ⟨v, rfl, hv, hb⟩
  rw [show ([(t, (0 : Int))] : List (ByteArray × Int)).length = 1 from rfl, one_steps] at hv
  exact ⟨v, rfl, hv, hb⟩
theorem one_runs (t : ByteArray) : (runs [(0, t)]).1 = [(0, t)] := by simp [runs, run1]
theorem made_one (base : Nat) (v : Value) (t : ByteArray) (w : World) (hc : clean t) (h : w.ownsRow base 50 3 v 1 (stpCells [(0, t)])) : Calls Tryd.prog 18 #[v] w (ListRet w [(0, t)]) := by
  have := listOf_any base v [(0, t)] w h (by simp) (fun k hk => by
    have h0 : k = 0 := by simp at hk; omega
    subst h0
    exact ⟨.inl rfl, hc⟩)
  rw [one_runs] at this
  exact this
/-- What is drawn of one item. -/
def oneL (s1 s8 : ByteArray) (t : List UInt8) : List UInt8 := s8.data.toList ++ s1.data.toList ++ [32] ++ t
def finT (s7 t : ByteArray) : ByteArray := if (10 : UInt8) ∈ t.data.toList ∧ s7.data.toList ≠ [10] then ⟨(rep [10] s7.data.toList t.data.toList).toArray⟩ else t
theorem render_one (s1 s2 s3 s4 s5 s6 s7 s8 t : ByteArray) (hs : ∀ s ∈ [s1, s2, s3, s4, s5, s6, s7, s8], s.size ≤ 1000) (hc : clean t) (h10 : (10 : UInt8) ∉ (finT s7 t).data.toList) (hsz : (finT s7 t).size ≤ 300000)
    (base : Nat) (v : Value) (w : World) (h : w.ownsRow base 50 3 v 1 (stpCells [(0, t)])) :
    Calls Tryd.prog 10 #[v, styA 0 s1 s2 s3 s4 s5 s6 s7 s8] w fun e w' => e = .returned (.string ⟨(oneL s1 s8 (finT s7 t).data.toList).toArray⟩) ∧ Below w.heap.size w w' := by
  obtain ⟨D, hD⟩ : ∃ D : LD, D = ⟨spaces (Lib.runeCount s5), s1, s2, s3, s4, s5, s6, s7, s8, [(0, t)]⟩ := ⟨_, rfl⟩
  have hok : D.ok := by
    subst hD
    refine ⟨?_, hs s1 (by simp), hs s2 (by simp), hs s3 (by simp), hs s4 (by simp), hs s5 (by simp), hs s6 (by simp), hs s7 (by simp), hs s8 (by simp), by simp, ?_⟩
    · show (spaces (Lib.runeCount s5)).size ≤ 1000
      rw [spaces_size]
      exact Nat.le_trans (Lib.runeCount_le s5) (hs s5 (by simp))
    · intro x hx
      have : x = (0, t) := by simpa using hx
      subst this
      exact ⟨Int.le_refl _, by omega, hc.1⟩
  have hz : ∀ k, k < D.its.length → k = 0 := fun k hk => by subst hD; simp at hk; omega
  have hf : fin D (txt D 0) = finT s7 t := by subst hD; rfl
  have hzat : zat D.lvs 0 = 0 := by subst hD; rfl
  have hfit : D.fits := by
    refine ⟨by subst hD; simp, fun k hk => ?_, fun k hk => ?_, fun k hk => ?_⟩
    · rw [hz k hk, hzat]; omega
    · rw [hz k hk, hf]; exact hsz
    · rw [hz k hk, hf]; exact h10
  have h1 := lr_any v [(0, t)] s1 s2 s3 s4 s5 s6 s7 s8 w D hD hok hfit (fun W hb => made_one base v t W hc (own_below h hb))
  have he : drawnTo D 1 = oneL s1 s8 (finT s7 t).data.toList := by
    have hl : levN D 0 = 0 := by unfold levN; rw [hzat]; rfl
    have hfi : firstB D 0 = true := by simp [firstB]
    have hla : lastB D 0 = true := by subst hD; simp [lastB, LD.lvs, more]
    rw [show drawnTo D 1 = drawnTo D 0 ++ lineL D 0 (levN D 0) (topB 0) (firstB D 0) (firstB D 0 && lastB D 0) (lastB D 0) (botB D 0) (fin D (txt D 0)) from rfl, hf, hl, hfi, hla]
    subst hD
    simp [drawnTo, lineL, pfxS, bulS, topB, oneL]
  rw [show ([((0 : Int), t)] : List (Int × ByteArray)).length = 1 from rfl, he] at h1
  exact h1
end Go.Proofs.YthdkbokdikhojaaDoor
