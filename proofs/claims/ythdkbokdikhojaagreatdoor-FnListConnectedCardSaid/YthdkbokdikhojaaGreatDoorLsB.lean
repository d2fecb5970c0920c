/- The steps that make a list: as a list, and the walk of LsSteps. Lists that LsRight lets by. -/
import Derived.Test.YthdkbokdikhojaaGreatDoorProg
import Derived.Test.YthdkbokdikhojaaGreatDoorBase
import Derived.Test.YthdkbokdikhojaaGreatDoorLsA
import Derived.WalkKit
import Derived.Handy
import Derived.BigQuiet
import Derived.Laws.OwnMore
import Derived.WalkLawsBesides
namespace Go.Proofs.YthdkbokdikhojaaGreatDoor
open Go.RowKit
set_option linter.unusedVariables false
def stpCells (s : List (Int × ByteArray)) : List Value := s.flatMap fun x => [.int .i64 x.1, .string x.2, .slice none 0 0]
theorem stpCells_snoc (s : List (Int × ByteArray)) (k : Int) (t : ByteArray) : stpCells (s ++ [(k, t)]) = stpCells s ++ [.int .i64 k, .string t, .slice none 0 0] := by simp [stpCells]
def prv (l : List (ByteArray × Int)) (k : Nat) : Int := if k = 0 then 0 else lv l (k - 1)
def indS (j : Nat) : List (Int × ByteArray) := List.replicate j (2, ⟨#[]⟩)
def unS (j : Nat) : List (Int × ByteArray) := List.replicate j (3, ⟨#[]⟩)
theorem indS_len (j : Nat) : (indS j).length = j := by simp [indS]
theorem unS_len (j : Nat) : (unS j).length = j := by simp [unS]
theorem indS_snoc (j : Nat) : indS (j + 1) = indS j ++ [(2, ⟨#[]⟩)] := List.replicate_succ'
theorem unS_snoc (j : Nat) : unS (j + 1) = unS j ++ [(3, ⟨#[]⟩)] := List.replicate_succ'
theorem indS_0 (s : List (Int × ByteArray)) : s ++ indS 0 = s := by simp [indS]
theorem unS_0 (s : List (Int × ByteArray)) : s ++ unS 0 = s := by simp [unS]
def stepsTo (l : List (ByteArray × Int)) : Nat → List (Int × ByteArray)
  | 0 => []
  | k + 1 => stepsTo l k ++ indS (lv l k - prv l k).toNat ++ unS (prv l k - lv l k).toNat ++ [(0, tx l k)]
theorem prv_bd {l : List (ByteArray × Int)} {n k : Nat} (h : RightTo l n) (hk : k ≤ n) (hn : n ≤ 60) : 0 ≤ prv l k ∧ prv l k ≤ 60 := by
  unfold prv
  split
  · omega
  · have := h (k - 1) (by omega); omega
theorem stepsTo_len {l : List (ByteArray × Int)} {n : Nat} (h : RightTo l n) (hn : n ≤ 60) : ∀ k, k ≤ n → (stepsTo l k).length ≤ k * 200
  | 0, _ => by simp [stepsTo]
  | k + 1, hk => by
    have ih := stepsTo_len h hn k (by omega)
    have p := prv_bd h (k := k) (by omega) hn
    have q := h k (by omega)
    simp only [stepsTo, List.length_append, indS_len, unS_len, List.length_singleton]
    omega
theorem info45 : (Tryz.prog.info? 55).map (fun i => (i.zero, i.size, i.bytes)) = some (some (.agg #[.int .i64 0, .string ⟨#[]⟩, .slice none 0 0]), 3, 48) := by kernel_rfl
theorem own_ne {w : World} {B : Nat} {e e' : TypeId} {size n g : Nat} {v : Value} {xs : List Value} {cs : Array Value} {fr : Nat × Nat} (h : w.ownsRow B e size v n xs) (hg : w.heap[g]? = some (.cells cs e' fr)) (hne : e ≠ e') : some g ≠ v.ownBlock := by
  rcases h.2 with ⟨rfl, _⟩ | ⟨g', cap, cur, rfl, _, hgg, _⟩
  · simp [Value.ownBlock]
  · intro e1
    simp [Value.ownBlock] at e1
    subst e1
    rw [hgg] at hg
    simp at hg
    exact hne hg.2.1
theorem append_stp {ops : Array Oper} {rest : List Oper} {a : Act} {Q : Exit → Act → World → Prop} {dst : Option Tmp} {s x : Operand} {ty : TypeId} {ps : String} {af : Array Edge} {w0 w : World} {B g : Nat} {v : Value} {l : List (Int × ByteArray)} {k : Int} {t : ByteArray}
    (h : w.ownsRow B 55 3 v l.length (stpCells l)) (HB : Below B w0 w) (hs : a.eval s = v) (hx : a.eval x = .slice (some ⟨g, 0, none⟩) 1 1) (hblk : w.heap[g]? = some (.cells #[.int .i64 k, .string t, .slice none 0 0] 55 (0, 0))) (hlen : l.length ≤ 1000000) (hB : B ≤ w.heap.size)
    (hK : ∀ v' w', w'.ownsRow B 55 3 v' (l ++ [(k, t)]).length (stpCells (l ++ [(k, t)])) → Below B w0 w' → w.grownBy w' v.ownBlock → wpList Tryz.prog ops Q rest (a.put dst v') w') :
    wpList Tryz.prog ops Q (⟨dst, .call { callee := .builtin .append, args := #[s, x], argTypes := #[30, 30] }, ty, ps, af, none⟩ :: rest) a w := by
  obtain ⟨i0, hi, hz0, hz1, hz2⟩ := info_parts info45
  refine wpList_append_own _ rfl s x 30 rfl B 55 i0 (.agg #[.int .i64 0, .string ⟨#[]⟩, .slice none 0 0]) 3 48 Tryz.underlying30 hi hz0 hz1 hz2 rfl (by decide) v l.length (stpCells l) hs h ⟨g, 0, none⟩ 1 1 [.int .i64 k, .string t, .slice none 0 0] hx rfl ?_ (by simp [Value.oneCell']) (by unfold maxLen; omega) (by omega) hB ?_
  · intro j u hj
    have : w.cell? ⟨g, j, none⟩ = some u := by
      rw [cell_of_row w g j _ 55 (0, 0) hblk]
      rw [← Array.getElem?_toList]
      exact hj
    cases j with
    | zero => exact this
    | succ j => simpa [Addr.add] using this
  · intro v' w' hown hg _
    refine hK v' w' (by rw [stpCells_snoc]; simpa using hown) (HB.grown hg hB (fun k hk => (h.lt k hk).1)) hg
def StepsRet (l : List (ByteArray × Int)) (w : World) (e : Ending) (w' : World) : Prop :=
  ∃ v, e = .returned v ∧ w'.ownsRow w.heap.size 55 3 v (stepsTo l l.length).length (stpCells (stepsTo l l.length)) ∧ Below w.heap.size w w'
set_option maxHeartbeats 4000000 in
set_option maxRecDepth 100000 in
theorem steps_any (A : Option Addr) (n cap : Nat) (l : List (ByteArray × Int)) (w : World) (h : LsArg w w.heap.size A n cap l) (hr : RightL l) :
    Calls Tryz.prog 10 #[.slice A n cap] w (StepsRet l w) := by
  have hl := Lib.hid h.2.1
  have h60 : n ≤ 60 := by have := hr.2; rw [h.2.1] at this; exact this
  have HR := Lib.hid (show RightTo l n by have := hr.1; rw [h.2.1] at this; exact this)
  clear hr
  go_enter Tryz.func10, Tryz.ntmps10
  go_wp2_with fail
  go_loopw [3, 4, 9] (fun v lev i wr => ∃ k : Nat, k ≤ n ∧ i = .int .i64 k ∧ lev = .int .i64 (prv l k) ∧ wr.ownsRow w.heap.size 55 3 v (stepsTo l k).length (stpCells (stepsTo l k)) ∧ Hid (Below w.heap.size w wr)) (fun _ _ i _ => n - (intOf i).toNat)
  case atStart => exact ⟨0, Nat.zero_le _, rfl, rfl, World.ownsRow_nil _ _ _ _, Lib.hid (Below.refl _ _)⟩
  case round =>
    obtain ⟨k, hk, rfl, rfl, hown, HB⟩ := hrel
    by_cases hlt : k < n
    · obtain ⟨b, o, rfl, hb, hc⟩ := h.cell hlt
      obtain ⟨c1, c2⟩ := hc k hlt
      have d1 : wr.cell? ⟨b, o + k * 2, none⟩ = some (.string (tx l k)) := (HB.out.cell (p := ⟨b, o + k * 2, none⟩) hb).trans c1
      have d2 : wr.cell? ⟨b, o + k * 2 + 1, none⟩ = some (.int .i64 (lv l k)) := (HB.out.cell (p := ⟨b, o + k * 2 + 1, none⟩) hb).trans c2
      have hbw : b < wr.heap.size := by have := HB.out.size; omega
      have hL := stepsTo_len HR.out h60 k (by omega)
      have hp := prv_bd HR.out (k := k) (by omega) h60
      have hq := HR.out k hlt
      obtain ⟨p0, p1⟩ := hp
      have q0 : 0 ≤ lv l k := hq.1
      have q1 : lv l k ≤ 60 := by have := hq.2.1; omega
      clear hq hc c1 c2
      obtain ⟨wo, rfl⟩ : ∃ wo : World, wo = wr := ⟨_, rfl⟩
      have HStep := Lib.hid (show stepsTo l (k + 1) = stepsTo l k ++ indS (lv l k - prv l k).toNat ++ unS (prv l k - lv l k).toNat ++ [(0, tx l k)] from rfl)
      have HPrv := Lib.hid (show prv l (k + 1) = lv l k by unfold prv; simp)
      generalize hpk : prv l k = pk at *
      generalize hlk : lv l k = lk at *
      generalize htk : tx l k = tk at *
      generalize hS : stepsTo l k = S at *
      have e0 : HB.out.size = HB.out.size := rfl
      have hBs := HB.out.size
      have own1 := hown.alloc (.cells #[.string tk, .int .i64 lk] 35)
      have HB1 := Lib.hid (HB.out.alloc hBs (.cells #[.string tk, .int .i64 lk] 35))
      have blk1 : (wo.alloc (.cells #[.string tk, .int .i64 lk] 35)).heap[wo.heap.size]? = some (.cells #[.string tk, .int .i64 lk] 35 (0, 0)) := heap_alloc_new _ _
      have Own1 := Lib.hid own1
      have Blk1 := Lib.hid blk1
      have hSl : S.length ≤ 12000 := by omega
      clear own1 blk1 e0 hown HB hpk hlk htk hS
      go_wp2_with fail
      go_loopw [3, 4] (fun v lev wq => ∃ j : Nat, j ≤ (lk - pk).toNat ∧ lev = .int .i64 (pk + j) ∧ wq.ownsRow w.heap.size 55 3 v (S ++ indS j).length (stpCells (S ++ indS j)) ∧ Hid (Below w.heap.size w wq) ∧ Hid (wq.heap[wo.heap.size]? = some (.cells #[.string tk, .int .i64 lk] 35 (0, 0)))) (fun _ lev _ => (lk - intOf lev).toNat)
      case atStart => exact ⟨0, Nat.zero_le _, by simp, by rw [indS_0]; exact Own1.out, HB1, Blk1⟩
      case round =>
        obtain ⟨j, hj, rfl, hown, HB, HK⟩ := hrel
        have k1 : wr.cell? ⟨wo.heap.size, 1, none⟩ = some (.int .i64 lk) := cell_of_row wr _ 1 _ 35 (0, 0) HK.out
        have k0 : wr.cell? ⟨wo.heap.size, 0, none⟩ = some (.string tk) := cell_of_row wr _ 0 _ 35 (0, 0) HK.out
        obtain ⟨wi, rfl⟩ : ∃ wi : World, wi = wr := ⟨_, rfl⟩
        have hBs := HB.out.size
        by_cases hj2 : pk + j < lk
        · have hlen : (S ++ indS j).length ≤ 1000000 := by rw [List.length_append, indS_len]; omega
          have hne := own_ne hown HK.out (by decide)
          go_wp2_with (at_builtin; (refine append_stp (B := w.heap.size) (w0 := w) (g := wi.heap.size) (l := S ++ indS j) (k := 2) (t := ⟨#[]⟩) (hown.alloc _) (HB.out.alloc hBs _) rfl rfl (heap_alloc_new wi _) hlen (by simp; omega) ?_); intro v' w' hown' hB' hg'
                       have HB' := Lib.hid hB'
                       have HK' := Lib.hid (show w'.heap[wo.heap.size]? = some (.cells #[.string tk, .int .i64 lk] 35 (0, 0)) from (hg'.block _ (by simp; exact Nat.lt_succ_of_lt (Array.getElem?_eq_some_iff.1 HK.out).1) hne).trans ((Below.heap_alloc wi _ _ (Array.getElem?_eq_some_iff.1 HK.out).1).trans HK.out))
                       rw [List.append_assoc, ← indS_snoc] at hown'
                       clear hB' hg')
          go_roundw
          case rel => exact ⟨j + 1, by omega, by go_num, hown', HB', HK'⟩
          case measure => simp [intOf]; omega
        · have hj3 : j = (lk - pk).toNat := by omega
          have hv4 : pk + j = max pk lk := by omega
          rw [hv4]
          rw [hj3] at hown
          generalize hS1 : S ++ indS (lk - pk).toNat = S1 at hown
          have hS1l : S1.length ≤ 13000 := by rw [← hS1, List.length_append, indS_len]; omega
          have HS1 := Lib.hid hS1
          generalize hmx : max pk lk = mx at *
          have hmx0 : 0 ≤ mx ∧ mx ≤ 60 ∧ lk ≤ mx := by omega
          obtain ⟨m0, m1, m2⟩ := hmx0
          have HMx := Lib.hid (show mx = max pk lk from hmx.symm)
          have hdn : decide (mx < lk) = false := decide_eq_false (by omega)
          have Hown := Lib.hid hown
          clear hown hS1 hv4 hj3 hmx hj
          go_wp2_with fail
          clear hdn k1 k0
          go_loopw [3, 4] (fun v lev wq => ∃ j : Nat, j ≤ (mx - lk).toNat ∧ lev = .int .i64 (mx - j) ∧ wq.ownsRow w.heap.size 55 3 v (S1 ++ unS j).length (stpCells (S1 ++ unS j)) ∧ Hid (Below w.heap.size w wq) ∧ Hid (wq.heap[wo.heap.size]? = some (.cells #[.string tk, .int .i64 lk] 35 (0, 0)))) (fun _ lev _ => (intOf lev - lk).toNat)
          case atStart => exact ⟨0, Nat.zero_le _, by simp, by rw [unS_0]; exact Hown.out, HB, HK⟩
          case round =>
            obtain ⟨j, hj, rfl, hown, HB, HK⟩ := hrel
            have k1 : wr.cell? ⟨wo.heap.size, 1, none⟩ = some (.int .i64 lk) := cell_of_row wr _ 1 _ 35 (0, 0) HK.out
            have k0 : wr.cell? ⟨wo.heap.size, 0, none⟩ = some (.string tk) := cell_of_row wr _ 0 _ 35 (0, 0) HK.out
            obtain ⟨wj, rfl⟩ : ∃ wj : World, wj = wr := ⟨_, rfl⟩
            have hBs := HB.out.size
            have hlen : (S1 ++ unS j).length ≤ 1000000 := by rw [List.length_append, unS_len]; omega
            have hne := own_ne hown HK.out (by decide)
            by_cases hj2 : lk < mx - j
            · go_wp2_with (at_builtin; (refine append_stp (B := w.heap.size) (w0 := w) (g := wj.heap.size) (l := S1 ++ unS j) (k := 3) (t := ⟨#[]⟩) (hown.alloc _) (HB.out.alloc hBs _) rfl rfl (heap_alloc_new wj _) hlen (by simp; omega) ?_); intro v' w' hown' hB' hg'
                           have HB' := Lib.hid hB'
                           have HK' := Lib.hid (show w'.heap[wo.heap.size]? = some (.cells #[.string tk, .int .i64 lk] 35 (0, 0)) from (hg'.block _ (by simp; exact Nat.lt_succ_of_lt (Array.getElem?_eq_some_iff.1 HK.out).1) hne).trans ((Below.heap_alloc wj _ _ (Array.getElem?_eq_some_iff.1 HK.out).1).trans HK.out))
                           rw [List.append_assoc, ← unS_snoc] at hown'
                           clear hB' hg')
              go_roundw
              case rel => exact ⟨j + 1, by omega, by go_num, hown', HB', HK'⟩
              case measure => simp [intOf]; omega
            · have hj3 : j = (pk - lk).toNat := by have := HMx.out; omega
              have hv4 : mx - j = lk := by omega
              rw [hv4]
              rw [hj3] at hown hlen
              have hS2 : stepsTo l (k + 1) = (S1 ++ unS (pk - lk).toNat) ++ [(0, tk)] := by rw [HStep.out, HS1.out]
              have HS2 := Lib.hid hS2
              generalize S1 ++ unS (pk - lk).toNat = S2 at *
              have hdn : decide (lk < lk) = false := decide_eq_false (by omega)
              clear hj3 hv4 hS2 hj hj2
              go_wp2_with (at_builtin; (refine append_stp (B := w.heap.size) (w0 := w) (g := wj.heap.size) (l := S2) (k := 0) (t := tk) (hown.alloc _) (HB.out.alloc hBs _) rfl rfl (heap_alloc_new wj _) hlen (by simp; omega) ?_); intro v' w' hown' hB' hg'
                           have HB' := Lib.hid hB'
                           clear hB' hg')
              go_roundw
              case rel => exact ⟨k + 1, by omega, by go_num, by rw [HPrv.out], by rw [HS2.out]; exact hown', HB'⟩
              case measure => simp [intOf]; omega
    · have e : k = n := by omega
      subst e
      have hd : decide ((k : Int) < (k : Int)) = false := decide_eq_false (by omega)
      go_wp2_with fail
      go_ret
      exact ⟨_, rfl, by rw [hl.out]; exact hown, HB.out⟩
end Go.Proofs.YthdkbokdikhojaaGreatDoor
