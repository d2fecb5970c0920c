/- The lines of a list that is drawn; how they are read back: plain Lean. No conditions. -/
import Derived.Test.YthdkbokdikhojaaGreatDoorLkC
import Derived.Test.YthdkbokdikhojaaGreatDoorLines
import Derived.Test.YthdkbokdikhojaaGreatDoorSjQ
import Derived.Test.YthdkbokdikhojaaGreatDoorLdD
namespace Go.Proofs.YthdkbokdikhojaaGreatDoor
open Go.RowKit
open Go.Lib (encodeRune decodeL)
set_option linter.unusedVariables false
theorem u8_of (z : Int) (m : Nat) (h : z = m) : z.toNat.toUInt8 = UInt8.ofNat m := by subst h; rfl
theorem encL (r : Nat) : (Utf8.encode (r : Int)).data.toList = encodeRune (r : Int) := by
  have hv : Utf8.valid (r : Int) = decide (r < 55296 ∨ (57344 ≤ r ∧ r ≤ 1114111)) := by
    unfold Utf8.valid
    rw [Bool.eq_iff_iff]
    simp only [Bool.or_eq_true, Bool.and_eq_true, decide_eq_true_eq]
    omega
  unfold Utf8.encode
  simp only [hv, decide_eq_true_eq, Int.toNat_natCast]
  unfold encodeRune
  by_cases h1 : r < 128
  · rw [Lib.encodeRuneZ_one (by omega) (by omega), if_pos (show r < 55296 ∨ (57344 ≤ r ∧ r ≤ 1114111) by omega), if_pos h1]
    simp only [List.map_cons, List.map_nil]
    rw [u8_of _ r rfl]
  · by_cases h2 : r < 2048
    · rw [Lib.encodeRuneZ_two (by omega) (by omega), if_pos (show r < 55296 ∨ (57344 ≤ r ∧ r ≤ 1114111) by omega), if_neg h1, if_pos h2]
      simp only [List.map_cons, List.map_nil]
      rw [u8_of _ (192 + r / 64) (by omega), u8_of _ (128 + r % 64) (by omega)]
    · by_cases h3 : r < 55296 ∨ (57344 ≤ r ∧ r ≤ 1114111)
      · rw [if_pos h3, if_neg h1, if_neg h2]
        by_cases h4 : r < 65536
        · rw [Lib.encodeRuneZ_three (by omega), if_pos h4]
          simp only [List.map_cons, List.map_nil]
          rw [u8_of _ (224 + r / 4096) (by omega), u8_of _ (128 + r / 64 % 64) (by omega), u8_of _ (128 + r % 64) (by omega)]
        · rw [Lib.encodeRuneZ_four (by omega) (by omega), if_neg h4]
          simp only [List.map_cons, List.map_nil]
          rw [u8_of _ (240 + r / 262144) (by omega), u8_of _ (128 + r / 4096 % 64) (by omega), u8_of _ (128 + r / 64 % 64) (by omega), u8_of _ (128 + r % 64) (by omega)]
      · rw [if_neg h3, Lib.encodeRuneZ_bad (by omega)]
        rfl
def linesR : List Nat → List (List UInt8) → List UInt8 → List (List UInt8)
  | [], out, last => out ++ [last]
  | r :: T, out, last => if r = 10 then linesR T (out ++ [last]) [] else linesR T out (last ++ encodeRune (r : Int))
theorem linesF_R (s : ByteArray) : ∀ (T : List Nat) (f pos : Nat) (out : List (List UInt8)) (last : List UInt8), s.data.toList.drop pos = enc T → (∀ r ∈ T, Rn r) → s.size ≤ pos + f → linesF s f pos out last = linesR T out last
  | [], f, pos, out, last, hd, hr, hs => by
    have hp : ¬ pos < s.size := by
      intro hp
      have := congrArg List.length hd
      rw [List.length_drop, ← Lib.size_eq] at this
      simp [enc] at this
      omega
    rw [linesF_end s f pos out last hp]; rfl
  | r :: T, f, pos, out, last, hd, hr, hs => by
    have hR := hr r (by simp)
    have hdec : Utf8.decode s pos = (r, (encodeRune (r : Int)).length) := by rw [decode_drop, hd, enc_cons]; exact hR.2 _
    have hlen := congrArg List.length hd
    rw [List.length_drop, ← Lib.size_eq, enc_cons, List.length_append] at hlen
    have hpos : 0 < (encodeRune (r : Int)).length := List.length_pos_iff.2 hR.1
    have hp : pos < s.size := by omega
    obtain ⟨f, rfl⟩ : ∃ f', f = f' + 1 := ⟨f - 1, by omega⟩
    have hd2 : s.data.toList.drop (pos + (encodeRune (r : Int)).length) = enc T := by
      rw [← List.drop_drop, hd, enc_cons, List.drop_left]
    rw [linesF, if_pos hp, hdec, linesR]
    simp only
    by_cases h10 : r = 10
    · rw [if_pos h10, if_pos h10]
      exact linesF_R s T f _ _ _ hd2 (fun x hx => hr x (by simp [hx])) (by omega)
    · rw [if_neg h10, if_neg h10, encL]
      exact linesF_R s T f _ _ _ hd2 (fun x hx => hr x (by simp [hx])) (by omega)
theorem linesR_one : ∀ (T : List Nat) (out : List (List UInt8)) (last : List UInt8), (∀ r ∈ T, r ≠ 10) → linesR T out last = out ++ [last ++ enc T]
  | [], out, last, _ => by simp [linesR, enc]
  | r :: T, out, last, h => by
    rw [linesR, if_neg (h r (by simp)), linesR_one T out _ (fun x hx => h x (by simp [hx])), enc_cons, List.append_assoc]
theorem linesR_snoc (C : List Nat) (hC : ∀ r ∈ C, r ≠ 10) : ∀ (A : List Nat) (out : List (List UInt8)) (last : List UInt8), linesR (A ++ 10 :: C) out last = linesR A out last ++ [enc C]
  | [], out, last => by
    rw [List.nil_append, show linesR (10 :: C) out last = linesR C (out ++ [last]) [] from if_pos rfl, linesR_one C _ _ hC]; simp [linesR]
  | r :: A, out, last => by
    rw [List.cons_append, linesR, linesR]
    split
    · exact linesR_snoc C hC A _ _
    · exact linesR_snoc C hC A _ _
/-- A line of known runes. -/
def RT (l : List UInt8) : Prop := ∃ T, l = enc T ∧ ∀ r ∈ T, Rn r ∧ r ≠ 10
theorem RT.nil : RT [] := ⟨[], rfl, fun r hr => by cases hr⟩
theorem RT.app {a b : List UInt8} (ha : RT a) (hb : RT b) : RT (a ++ b) := by
  obtain ⟨A, rfl, hA⟩ := ha
  obtain ⟨B, rfl, hB⟩ := hb
  exact ⟨A ++ B, by rw [enc_app], fun r hr => (List.mem_append.1 hr).elim (hA r) (hB r)⟩
theorem RT.text {s : ByteArray} (h : simp false s = true) : RT s.data.toList := by
  obtain ⟨T, hT, hr⟩ := simp_T false s s.size 0 h (by omega)
  rw [List.drop_zero] at hT
  refine ⟨T, hT, fun r hm => ⟨(hr r hm).1, fun e => ?_⟩⟩
  subst e
  have hb : (10 : UInt8) ∈ s.data.toList := by
    rw [hT]
    unfold enc
    rw [List.mem_flatMap]
    exact ⟨10, hm, by rw [(rn_ascii (c := 10) (by omega)).2]; simp⟩
  have := simp_bytes h _ hb
  simp at this
theorem RT.blank (n : Nat) : RT (Lib.repeatL [32] n) := by
  induction n with
  | zero => exact RT.nil
  | succ n ih => exact RT.app (RT.text (s := ⟨#[32]⟩) (by decide +kernel)) ih
/-- A line, without its line end ahead. -/
def lineB (D : LD) (k : Nat) : List UInt8 := pfxS D k (levN D k) ++ ((bulS D (topB k) (firstB D k) (firstB D k && lastB D k) (lastB D k) (botB D k)).data.toList ++ ([32] ++ (fin D (txt D k)).data.toList))
theorem drawn_succ (D : LD) (k : Nat) : drawnTo D (k + 1) = drawnTo D k ++ ((if k = 0 then [] else [10]) ++ lineB D k) := rfl
theorem drawn_runes (D : LD) (n : Nat) (h : ∀ k, k < n → RT (lineB D k)) : ∀ k, k < n → ∃ T, drawnTo D (k + 1) = enc T ∧ (∀ r ∈ T, Rn r) ∧ linesR T [] [] = (List.range (k + 1)).map (lineB D)
  | 0, hk => by
    obtain ⟨T, hT, hr⟩ := h 0 hk
    refine ⟨T, by rw [drawn_succ]; simp [drawnTo, hT], fun r hm => (hr r hm).1, ?_⟩
    rw [linesR_one T _ _ (fun r hm => (hr r hm).2), ← hT]; simp [List.range_succ]
  | k + 1, hk => by
    obtain ⟨A, hA, hrA, hl⟩ := drawn_runes D n h k (by omega)
    obtain ⟨T, hT, hr⟩ := h (k + 1) hk
    refine ⟨A ++ 10 :: T, ?_, fun r hm => ?_, ?_⟩
    · rw [drawn_succ, hA, if_neg (by omega), enc_app, enc_cons, (rn_ascii (c := 10) (by omega)).2, ← hT]; simp
    · rcases List.mem_append.1 hm with hm | hm
      · exact hrA r hm
      · rcases List.mem_cons.1 hm with rfl | hm
        · exact (rn_ascii (c := 10) (by omega)).1
        · exact (hr r hm).1
    · rw [linesR_snoc T (fun r hm => (hr r hm).2), hl, ← hT, List.range_succ (n := k + 1)]; simp
theorem drawn_lines (D : LD) (n : Nat) (hn : 0 < n) (h : ∀ k, k < n → RT (lineB D k)) : linesOf ⟨(drawnTo D n).toArray⟩ = (List.range n).map (lineB D) := by
  obtain ⟨m, rfl⟩ : ∃ m, n = m + 1 := ⟨n - 1, by omega⟩
  obtain ⟨T, hT, hr, hl⟩ := drawn_runes D (m + 1) h m (by omega)
  unfold linesOf
  rw [linesF_R _ T _ 0 _ _ (by simpa using hT) hr (by omega), hl]
end Go.Proofs.YthdkbokdikhojaaGreatDoor
