/- A list as the reference draws it: LsMore, LsFirst, lsTop, TxTimes. -/
import Derived.Test.YthdkbokdikhojaaDoorLdT
import Derived.Test.YthdkbokdikhojaaDoorLdA
import Derived.Laws.MakeOwn
namespace Go.Proofs.YthdkbokdikhojaaDoor
open Go.RowKit
set_option linter.unusedVariables false
def lvs (l : List (ByteArray × Int)) : List Int := l.map Prod.snd
theorem lvs_len (l : List (ByteArray × Int)) : (lvs l).length = l.length := by simp [lvs]
theorem lvs_at (l : List (ByteArray × Int)) (k : Nat) : zat (lvs l) k = lv l k := by
  unfold zat lvs lv
  rw [List.getD_eq_getElem?_getD, List.getD_eq_getElem?_getD, List.getElem?_map]
  cases l[k]? <;> rfl
theorem halt_U {p : Prop} (h : Hid p) : p := h
theorem resume_U {p : Prop} (h : p) : Hid p := h
def Ls2 (w : World) (B : Nat) (A : Option Addr) (n : Nat) (l : List (ByteArray × Int)) (k : Nat) : Prop := ∃ b o, A = some ⟨b, o, none⟩ ∧ b < B ∧ ∀ j, j < n → w.cell? ⟨b, o + j * 2, none⟩ = some (.string (tx l (k + j))) ∧ w.cell? ⟨b, o + j * 2 + 1, none⟩ = some (.int .i64 (lv l (k + j)))
theorem sl_from {w : World} {B : Nat} {A : Option Addr} {n cap : Nat} {l : List (ByteArray × Int)} (h : LsArg w B A n cap l) (k : Nat) (hk : k ≤ n) :
    ∃ A2 c2, (∀ W : World, (Instr.slice 22 (.slice A n cap) (some (.int .i64 (k : Int))) none none).run Tryd.prog W = .ok (.slice A2 (n - k) c2) W) ∧ (k < n → Ls2 w B A2 (n - k) l k) ∧ c2 ≤ maxLen := by
  have hn := h.2.2.1
  have hm := h.2.2.2
  refine ⟨if cap = k then A else A.map (·.add (k * 2)), cap - k, fun W => ?_, fun hlt => ?_, by omega⟩
  · rw [run_slice_l (P := Tryd.prog) W 22 A n cap (by kernel_rfl) .i64 k (by omega) (by omega), show (sizeOf (Tryd.prog.elem 22)).run Tryd.prog W = .ok 2 W from by kernel_rfl]
    simp [Result.andThen, sliced]
  · obtain ⟨b, o, rfl, hb, hc⟩ := h.cell hlt
    rw [if_neg (by omega)]
    refine ⟨b, o + k * 2, ?_, hb, fun j hj => ?_⟩
    · by_cases h0 : k = 0
      · subst h0; simp [Addr.add]
      · simp [Addr.add]; omega
    · obtain ⟨c1, c2⟩ := hc (k + j) (by omega)
      have e : o + (k + j) * 2 = o + k * 2 + j * 2 := by omega
      rw [e] at c1 c2
      exact ⟨c1, c2⟩
set_option maxHeartbeats 1000000 in
set_option maxRecDepth 100000 in
theorem lsMore_any (A : Option Addr) (n cap : Nat) (l : List (ByteArray × Int)) (at_ : Nat) (lev : Int) (B : Nat) (w : World) (hB : B ≤ w.heap.size) (h : LsArg w B A n cap l) (hat : at_ < n) :
    Calls Tryd.prog 16 #[.slice A n cap, .int .i64 at_, .int .i64 lev] w fun e w' => e = .returned (.bool (more lev ((lvs l).drop (at_ + 1)))) ∧ Below w.heap.size w w' := by
  obtain ⟨A2, c2, hsl, hC, hc2⟩ := sl_from h (at_ + 1) (by omega)
  have hnc := h.2.2.1
  have hm := h.2.2.2
  have hl := Lib.hid h.2.1
  have e1 : ((at_ + 1 : Nat) : Int) = (at_ : Int) + 1 := by omega
  rw [e1] at hsl
  have HC := Lib.hid hC
  have HM := Lib.hid (more_at (lvs l) lev)
  have HE := Lib.hid (more_end (lvs l) lev)
  clear h e1 hC
  unfold maxLen at hm hc2
  go_enter Tryd.func16, Tryd.ntmps16
  go_wp2_with fail
  have hnn : n - (at_ + 1) ≤ n := by omega
  have HN := Lib.hid (show at_ + 1 + (n - (at_ + 1)) = n by omega)
  generalize n - (at_ + 1) = m at *
  clear hsl
  go_loopw [14] (fun i wr => ∃ k : Nat, k ≤ m ∧ i = .int .i64 k ∧ Hid (Below w.heap.size w wr) ∧ Hid (more lev ((lvs l).drop (at_ + 1)) = more lev ((lvs l).drop (at_ + 1 + k)))) (fun i _ => m - (intOf i).toNat)
  case atStart => exact ⟨0, by omega, rfl, Lib.hid (Below.refl _ _), Lib.hid rfl⟩
  case round =>
    obtain ⟨k, hk, rfl, HW, HR⟩ := hrel
    obtain ⟨wo, rfl⟩ : ∃ wo : World, wo = wr := ⟨_, rfl⟩
    by_cases hlt : k < m
    · obtain ⟨b, o, rfl, hb, hc⟩ := HC.out (by have := HN.out; omega)
      obtain ⟨c1, c2'⟩ := hc k hlt
      have d1 : wo.cell? ⟨b, o + k * 2, none⟩ = some (.string (tx l (at_ + 1 + k))) := (HW.out.cell (p := ⟨b, o + k * 2, none⟩) (by show b < _; omega)).trans c1
      have d2 : wo.cell? ⟨b, o + k * 2 + 1, none⟩ = some (.int .i64 (lv l (at_ + 1 + k))) := (HW.out.cell (p := ⟨b, o + k * 2 + 1, none⟩) (by show b < _; omega)).trans c2'
      have hm := Lib.hid (HM.out (at_ + 1 + k) (by rw [lvs_len, hl.out]; have := HN.out; omega))
      have hat := Lib.hid (lvs_at l (at_ + 1 + k))
      have hbw : b < wo.heap.size := by have := HW.out.size; omega
      have HW2 := Lib.hid (fun (o : Obj) => HW.out.alloc HW.out.size o)
      clear hc c1 c2'
      generalize lv l (at_ + 1 + k) = z at *
      generalize tx l (at_ + 1 + k) = t at *
      by_cases h1 : z < lev
      · have g1 : decide (z ≤ lev) = true := decide_eq_true (by omega)
        have g2 : (z == lev) = false := by rw [beq_eq_false_iff_ne]; omega
        have g3 : decide (z = lev) = false := decide_eq_false (by omega)
        have HX := Lib.hid (show more lev ((lvs l).drop (at_ + 1)) = false by rw [HR.out, hm.out, hat.out, if_pos h1])
        clear h1
        go_wp2_with fail
        go_ret
        exact ⟨ret_bool (by rw [HX.out]), HW2.out _⟩
      · by_cases h2 : z = lev
        · have g1 : decide (z ≤ lev) = true := decide_eq_true (by omega)
          have g2 : (z == lev) = true := by rw [beq_iff_eq]; exact h2
          have HX := Lib.hid (show more lev ((lvs l).drop (at_ + 1)) = true by rw [HR.out, hm.out, hat.out, if_neg h1, if_pos h2])
          clear h1 h2
          go_wp2_with fail
          go_ret
          exact ⟨ret_bool (by rw [HX.out]), HW2.out _⟩
        · have g1 : decide (z ≤ lev) = false := decide_eq_false (by omega)
          have HX := Lib.hid (show more lev ((lvs l).drop (at_ + 1)) = more lev ((lvs l).drop (at_ + 1 + (k + 1))) by rw [HR.out, hm.out, hat.out, if_neg h1, if_neg h2]; rfl)
          clear h1 h2
          go_wp2_with fail
          go_roundw
          case rel => exact ⟨k + 1, by omega, by go_num, Lib.hid (HW2.out _), HX⟩
          case measure => simp [intOf]; omega
    · have HX := Lib.hid (show more lev ((lvs l).drop (at_ + 1)) = false by rw [HR.out, HE.out _ (by rw [lvs_len, hl.out]; have := HN.out; omega)])
      have gk : decide ((k : Int) < (m : Int)) = false := decide_eq_false (by omega)
      go_wp2_with fail
      go_ret
      exact ⟨ret_bool (by rw [HX.out]), HW.out⟩
/-- Whether an item is the first one of its part. -/
def firstW (l : List (ByteArray × Int)) (k : Nat) : Bool := decide (k = 0 ∨ lv l (k - 1) < lv l k)
set_option maxHeartbeats 1000000 in
set_option maxRecDepth 100000 in
theorem lsFirst_any (A : Option Addr) (n cap : Nat) (l : List (ByteArray × Int)) (at_ : Nat) (B : Nat) (w : World) (hB : B ≤ w.heap.size) (h : LsArg w B A n cap l) (hat : at_ < n) :
    Calls Tryd.prog 55 #[.slice A n cap, .int .i64 at_] w fun e w' => e = .returned (.bool (firstW l at_)) ∧ Below w.heap.size w w' := by
  have hm := h.2.2.2
  have hn := h.2.2.1
  unfold maxLen at hm
  obtain ⟨b, o, rfl, hb, hc⟩ := h.cell hat
  by_cases h0 : at_ = 0
  · subst h0
    have E := Lib.hid (show firstW l 0 = true by simp [firstW])
    clear hc h
    go_enter Tryd.func55, Tryd.ntmps55
    go_wp2_with fail
    go_quiet (fail)
    go_wp2_with fail
    go_ret
    exact ⟨ret_bool (by rw [E.out]), rfl, rfl, rfl, Nat.le_refl _, fun _ _ => rfl⟩
  · obtain ⟨m, rfl⟩ : ∃ m, at_ = m + 1 := ⟨at_ - 1, by omega⟩
    obtain ⟨-, d1⟩ := hc m (by omega)
    obtain ⟨-, d2⟩ := hc (m + 1) (by omega)
    have g0 : (((m : Int) + 1) == 0) = false := by rw [beq_eq_false_iff_ne]; omega
    have i1 : ((m : Int) + 1 - 1) = m := by omega
    have E := Lib.hid (show firstW l (m + 1) = decide (lv l m < lv l (m + 1)) by simp [firstW])
    clear hc h h0
    generalize lv l m = y at *
    generalize lv l (m + 1) = z at *
    go_enter Tryd.func55, Tryd.ntmps55
    go_wp2_with fail
    go_quiet (fail)
    go_wp2_with fail
    go_ret
    exact ⟨ret_bool (by rw [E.out]), rfl, rfl, rfl, Nat.le_refl _, fun _ _ => rfl⟩
end Go.Proofs.YthdkbokdikhojaaDoor
