/- No two columns have one name; the names rise by length, then by the alphabet: the walk and the plain law. No conditions beyond the statement. -/
import Derived.Test.YtlppbalnjogkoaaProg
import Derived.Test.YtlppbalnjogkoaaBase
import Derived.WalkKit
import Derived.Handy
import Derived.WalkLawsBesides
namespace Go.Proofs.Ytlppbalnjogkoaa
open Go.RowKit
set_option linter.unusedVariables false
def cid (n : Nat) : ByteArray :=
  if h : n / 26 > 0 then cid (n / 26 - 1) ++ Utf8.encode (65 + (n % 26 : Nat)) else Utf8.encode (65 + (n % 26 : Nat))
termination_by n
decreasing_by omega
theorem cid_size (n : Nat) : (cid n).size ≤ 4 * n + 4 := by
  induction n using Nat.strongRecOn with
  | _ n ih =>
    rw [cid]
    split
    · rename_i h
      have := ih (n / 26 - 1) (by omega)
      have := encode_size_le (65 + (n % 26 : Nat))
      rw [ByteArray.size_append]; omega
    · have := encode_size_le (65 + (n % 26 : Nat)); omega
theorem cid_step (n : Nat) (h : n / 26 > 0) : cid n = cid (n / 26 - 1) ++ Utf8.encode (65 + (n % 26 : Nat)) := by rw [cid, dif_pos h]
theorem cid_base (n : Nat) (h : ¬ n / 26 > 0) : cid n = Utf8.encode (65 + (n % 26 : Nat)) := by rw [cid, dif_neg h]
set_option linter.unusedVariables false in
set_option maxHeartbeats 400000 in
theorem colid_any (n : Nat) : ∀ (w : World) (hn : n ≤ 4611686018427387904), Calls Try.prog 36 #[.int .i64 n] w fun e w' => e = .returned (.string (cid n)) ∧ w = w' := by
  induction n using Nat.strongRecOn with
  | _ n ih =>
    intro w hn
    by_cases h : n / 26 > 0
    · have IH := ih (n / 26 - 1) (by omega) w (by omega)
      clear ih
      have e0 : ((n / 26 - 1 : Nat) : Int) = (n : Int) / 26 - 1 := by omega
      rw [e0] at IH
      clear e0
      have H := Lib.hid IH
      clear IH
      have hc := cid_size (n / 26 - 1)
      have he := encode_size_le (65 + (n : Int) % 26)
      have hp : 0 < (n : Int) / 26 := by omega
      have hs : (cid (n / 26 - 1)).size + (Utf8.encode (65 + (n : Int) % 26)).size ≤ 9223372036854775807 := by omega
      go_enter Try.func36, Try.ntmps36
      go_wp2_with (go_at_call 36; refine (H.out).mono ?_; rintro e w' ⟨rfl, rfl⟩)
      go_ret
      exact ⟨by rw [cid_step n h]; rfl, rfl⟩
    · have hp : ¬ 0 < (n : Int) / 26 := by omega
      clear ih
      go_enter Try.func36, Try.ntmps36
      go_wp2
      go_ret
      exact ⟨by rw [cid_base n h]; rfl, rfl⟩
theorem colid_impl (n : Nat) (w : World) (hn : n ≤ 4611686018427387904) : Calls Try.prog 15 #[.int .i64 n] w fun e w' => e = .returned (.string (cid n)) ∧ w = w' := by
  go_enter Try.func15, Try.ntmps15
  go_wp2_with (go_at_call 36; refine (colid_any n _ hn).mono ?_; rintro e w' ⟨rfl, rfl⟩)
  go_ret
  exact ⟨rfl, rfl⟩
theorem enc_letter (n : Nat) : (Utf8.encode (65 + (n % 26 : Nat))).data.toList = [UInt8.ofNat (65 + n % 26)] := by
  have : (65 + ((n % 26 : Nat) : Int)) = ((65 + n % 26 : Nat) : Int) := by omega
  rw [this, enc_ascii _ (by omega)]
theorem lst_step (n : Nat) (h : n / 26 > 0) : (cid n).data.toList = (cid (n / 26 - 1)).data.toList ++ [UInt8.ofNat (65 + n % 26)] := by
  rw [cid_step n h, ByteArray.data_append, Array.toList_append, enc_letter]
theorem lst_base (n : Nat) (h : ¬ n / 26 > 0) : (cid n).data.toList = [UInt8.ofNat (65 + n % 26)] := by
  rw [cid_base n h, enc_letter]
theorem app_lt {a b : List UInt8} (x y : UInt8) (hl : a.length = b.length) (h : a < b) : a ++ [x] < b ++ [y] := by
  induction a generalizing b with
  | nil => cases b with
    | nil => exact absurd h (by simp)
    | cons => simp at hl
  | cons p a ih => cases b with
    | nil => simp at hl
    | cons q b =>
      simp only [List.cons_append, List.cons_lt_cons_iff] at h ⊢
      rcases h with h | ⟨h1, h2⟩
      · exact .inl h
      · exact .inr ⟨h1, ih (by simpa using hl) h2⟩
theorem app_lt' (a : List UInt8) {x y : UInt8} (h : x < y) : a ++ [x] < a ++ [y] := by
  induction a with
  | nil => simp [List.cons_lt_cons_iff, h]
  | cons p a ih => rw [List.cons_append, List.cons_append, List.cons_lt_cons_iff]; exact .inr ⟨rfl, ih⟩
theorem ch_lt {a b : Nat} (h : a < b) (hb : b < 256) : UInt8.ofNat a < UInt8.ofNat b := by
  rw [UInt8.lt_iff_toNat_lt, UInt8.toNat_ofNat', UInt8.toNat_ofNat']; omega
def lst (n : Nat) : List UInt8 := (cid n).data.toList
theorem ids_rise (n : Nat) : (lst n).length < (lst (n + 1)).length ∨ (lst n).length = (lst (n + 1)).length ∧ lst n < lst (n + 1) := by
  induction n using Nat.strongRecOn with
  | _ n ih =>
    unfold lst at *
    by_cases hr : n % 26 = 25
    · by_cases hq : n / 26 > 0
      · rw [lst_step n hq, lst_step (n + 1) (by omega), show (n + 1) / 26 - 1 = n / 26 - 1 + 1 by omega]
        rcases ih (n / 26 - 1) (by omega) with h | ⟨h, h'⟩
        · left; rw [List.length_append, List.length_append]; simp only [List.length_singleton]; omega
        · right; exact ⟨by rw [List.length_append, List.length_append]; simp only [List.length_singleton]; omega, app_lt _ _ h h'⟩
      · left
        rw [lst_base n hq, lst_step (n + 1) (by omega), show (n + 1) / 26 - 1 = 0 by omega, lst_base 0 (by omega)]
        simp
    · right
      have hm : (n + 1) / 26 = n / 26 := by omega
      by_cases hq : n / 26 > 0
      · rw [lst_step n hq, lst_step (n + 1) (by omega), hm]
        exact ⟨by simp, app_lt' _ (ch_lt (by omega) (by omega))⟩
      · rw [lst_base n hq, lst_base (n + 1) (by omega)]
        exact ⟨by simp, app_lt' [] (ch_lt (by omega) (by omega))⟩
theorem lst_pos (n : Nat) : 0 < (lst n).length := by
  unfold lst
  by_cases hq : n / 26 > 0
  · rw [lst_step n hq]; simp
  · rw [lst_base n hq]; simp
theorem lst_size (n : Nat) : (lst n).length = (cid n).size := by unfold lst; simp
set_option maxHeartbeats 400000 in
theorem columnIDs_in (n : Nat) (w : World) (hn : n < 4611686018427387904) : Calls Try.prog 4 #[.int .i64 n] w fun e w' => e = .returned (.bool true) ∧ Below w.heap.size w w' := by
  have h1 := Lib.hid (colid_impl n w (by omega))
  have h2 := Lib.hid (colid_impl (n + 1) w (by omega))
  have p0 : 0 < (cid n).size := by rw [← lst_size]; exact lst_pos n
  have hr := ids_rise n
  rw [lst_size, lst_size] at hr
  by_cases hl : (cid n).size < (cid (n + 1)).size
  · clear hr
    go_enter Try.func4, Try.ntmps4
    go_wp2_with fail
    refine h1.out.mono ?_
    rintro e w' ⟨rfl, rfl⟩
    go_wp2_with fail
    refine h2.out.mono ?_
    rintro e w' ⟨rfl, rfl⟩
    go_wp2_with fail
    go_ret
    exact ⟨rfl, Below.refl _ _⟩
  · have hr' : (cid n).size = (cid (n + 1)).size ∧ lst n < lst (n + 1) := hr.resolve_left hl
    have hb : Op.bytesLess (cid n).toList (cid (n + 1)).toList = true := by
      rw [bytesLess_eq, Lib.toList_data, Lib.toList_data]
      exact decide_eq_true hr'.2
    have hl3 : ((cid n).size == (cid (n + 1)).size) = true := by simp [hr'.1]
    have hle : (cid n).size ≤ (cid (n + 1)).size := by omega
    have hge : (cid (n + 1)).size ≤ (cid n).size := by omega
    clear hr hr'
    go_enter Try.func4, Try.ntmps4
    go_wp2_with fail
    refine h1.out.mono ?_
    rintro e w' ⟨rfl, rfl⟩
    go_wp2_with fail
    refine h2.out.mono ?_
    rintro e w' ⟨rfl, rfl⟩
    go_wp2_with fail
    go_ret
    exact ⟨rfl, Below.refl _ _⟩
theorem columnIDs_any (n : Int) (w : World) (hn : -9223372036854775808 ≤ n ∧ n ≤ 9223372036854775807) : Calls Try.prog 4 #[.int .i64 n] w fun e w' => e = .returned (.bool true) ∧ Below w.heap.size w w' := by
  by_cases h : n < 0 ∨ 4611686018427387904 ≤ n
  · rcases h with h | h
    · go_enter Try.func4, Try.ntmps4
      go_wp2
      go_ret
      exact ⟨rfl, Below.refl _ _⟩
    · have h0 : ¬ n < 0 := by omega
      go_enter Try.func4, Try.ntmps4
      go_wp2
      go_ret
      exact ⟨rfl, Below.refl _ _⟩
  · obtain ⟨k, rfl⟩ : ∃ k : Nat, n = (k : Int) := ⟨n.toNat, by omega⟩
    exact columnIDs_in k w (by omega)
end Go.Proofs.Ytlppbalnjogkoaa
