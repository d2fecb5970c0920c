/- Levels of a list: whether one of a level is still to come, as a function; the walks of the law's guard and of the reference. Lists of numbers that came in. -/
import Derived.Test.YtadkpooimfbolaaProg
import Derived.Test.YtadkpooimfbolaaBase
import Derived.WalkKit
import Derived.Handy
import Derived.Deep.QuietTactic
import Derived.BigQuiet
import Derived.WalkLawsBesides
namespace Go.Proofs.Ytadkpooimfbolaa
open Go.RowKit
set_option linter.unusedVariables false
def zat (zs : List Int) (k : Nat) : Int := zs.getD k 0
def more (lev : Int) : List Int → Bool
  | [] => false
  | z :: l => if z < lev then false else if z = lev then true else more lev l
theorem more_end (zs : List Int) (lev : Int) (k : Nat) (h : zs.length ≤ k) : more lev (zs.drop k) = false := by rw [List.drop_eq_nil_of_le h]; rfl
theorem more_at (zs : List Int) (lev : Int) (k : Nat) (h : k < zs.length) : more lev (zs.drop k) = if zat zs k < lev then false else if zat zs k = lev then true else more lev (zs.drop (k + 1)) := by
  rw [List.drop_eq_getElem_cons h, more, zat, List.getD_eq_getElem?_getD, List.getElem?_eq_getElem h]; rfl
theorem Nums.cell {K : IntKind} {w : World} {A : Option Addr} {n cap : Nat} {zs : List Int} (h : Nums K w A n cap zs) {k : Nat} (hk : k < n) : ∃ b o, A = some ⟨b, o, none⟩ ∧ b < w.heap.size ∧ ∀ j, j < n → w.cell? ⟨b, o + j, none⟩ = some (.int K (zat zs j)) := by
  obtain ⟨b, o, u, rfl, hb, hu, hc⟩ := h.1.at_ hk
  refine ⟨b, o, rfl, hb, fun j hj => ?_⟩
  obtain ⟨b', o', u', e, _, hu', hc'⟩ := h.1.at_ hj
  injection e with e
  injection e with e1 e2
  subst e1; subst e2
  rw [hc', zat, List.getD_eq_getElem?_getD]
  rw [List.getElem?_map, Option.map_eq_some_iff] at hu'
  obtain ⟨z, hz, rfl⟩ := hu'
  rw [hz]; rfl
def FitsRet (zs : List Int) (n : Nat) (m lo hi : Int) (w : World) (e : Ending) (w' : World) : Prop :=
  ∃ b : Bool, e = .returned (.bool b) ∧ w = w' ∧ (b = true → (n : Int) ≤ m ∧ ∀ j, j < n → lo ≤ zat zs j ∧ zat zs j ≤ hi)
set_option maxHeartbeats 1000000 in
theorem fits_any (A : Option Addr) (n cap : Nat) (zs : List Int) (m lo hi : Int) (w : World) (h : Nums .i64 w A n cap zs) :
    Calls Try.prog 10 #[.slice A n cap, .int .i64 m, .int .i64 lo, .int .i64 hi] w (FitsRet zs n m lo hi w) := by
  have hn := h.2.2.1
  have hc := h.2.2.2.1
  unfold maxLen at hc
  have hz := h.2.1
  go_enter Try.func10, Try.ntmps10
  go_wp2_with fail
  go_loop [9] (fun i => ∃ k : Nat, k ≤ n ∧ i = .int .i64 k ∧ Hid (∀ j, j < k → lo ≤ zat zs j ∧ zat zs j ≤ hi)) (fun i => n - (intOf i).toNat)
  case atStart => exact ⟨0, Nat.zero_le _, rfl, fun j hj => absurd hj (by omega)⟩
  case round =>
    obtain ⟨k, hk, rfl, hf⟩ := hrel
    by_cases hlt : k < n
    · obtain ⟨b, o, rfl, hb, hcell⟩ := h.cell hlt
      have hck := hcell k hlt
      clear hcell
      by_cases h1 : zat zs k < lo
      · go_wp2
        go_ret
        exact ⟨false, rfl, rfl, fun h => by cases h⟩
      · by_cases h2 : hi < zat zs k
        · go_wp2
          go_ret
          exact ⟨false, rfl, rfl, fun h => by cases h⟩
        · go_wp2
          go_round
          case rel =>
            refine ⟨k + 1, by omega, by go_num, Lib.hid fun j hj => ?_⟩
            by_cases e : j = k
            · subst e; omega
            · exact hf.out j (by omega)
          case measure => simp [intOf]; omega
    · have e : k = n := by omega
      subst e
      by_cases hm : (k : Int) ≤ m
      · have hd : decide ((k : Int) ≤ m) = true := by simpa using hm
        go_wp2
        go_ret
        exact ⟨true, rfl, rfl, fun _ => ⟨hm, hf.out⟩⟩
      · have hd : decide ((k : Int) ≤ m) = false := by simpa using hm
        go_wp2
        go_ret
        exact ⟨false, rfl, rfl, fun h => by cases h⟩
set_option maxHeartbeats 1000000 in
theorem specMore_any (A : Option Addr) (n cap : Nat) (zs : List Int) (lev : Int) (p : Nat) (w : World) (h : Nums .i64 w A n cap zs) (hp : p < n) :
    Calls Try.prog 12 #[.slice A n cap, .int .i64 lev, .int .i64 p] w fun e w' => e = .returned (.bool (more lev (zs.drop (p + 1)))) ∧ w = w' := by
  have hn := h.2.2.1
  have hc := h.2.2.2.1
  unfold maxLen at hc
  have hz := h.2.1
  obtain ⟨b, o, rfl, hb, hcell⟩ := h.cell hp
  have Hcell := Lib.hid hcell
  have Hz := Lib.hid hz
  clear hcell h hz
  go_enter Try.func12, Try.ntmps12
  go_wp2_with fail
  go_loop [7] (fun i => ∃ k : Nat, p < k ∧ k ≤ n ∧ i = .int .i64 k ∧ Hid (more lev (zs.drop (p + 1)) = more lev (zs.drop k))) (fun i => n - (intOf i).toNat)
  case atStart => exact ⟨p + 1, by omega, by omega, by go_num, Lib.hid rfl⟩
  case round =>
    obtain ⟨k, hpk, hk, rfl, hf⟩ := hrel
    by_cases hlt : k < n
    · have hck := Hcell.out k hlt
      have hm := Lib.hid (more_at zs lev k (by have := Hz.out; omega))
      by_cases h1 : zat zs k = lev
      · have h1' : (zat zs k == lev) = true := by simpa using h1
        have H1 := Lib.hid h1
        clear h1
        go_wp2
        go_ret
        exact ⟨ret_bool (by rw [hf.out, hm.out, if_neg (by have := H1.out; omega), if_pos H1.out]), rfl⟩
      · have h1' : (zat zs k == lev) = false := by simpa using h1
        by_cases h2 : zat zs k < lev
        · go_wp2
          go_ret
          exact ⟨ret_bool (by rw [hf.out, hm.out, if_pos h2]), rfl⟩
        · go_wp2
          go_round
          case rel => exact ⟨k + 1, by omega, by omega, by go_num, Lib.hid (by rw [hf.out, hm.out, if_neg h2, if_neg h1])⟩
          case measure => simp [intOf]; omega
    · go_wp2
      go_ret
      exact ⟨ret_bool (by rw [hf.out, more_end zs lev k (by have := Hz.out; omega)]), rfl⟩
end Go.Proofs.Ytadkpooimfbolaa
