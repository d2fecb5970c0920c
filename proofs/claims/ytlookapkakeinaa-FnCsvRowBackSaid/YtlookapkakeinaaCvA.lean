/- Reading over rows of texts; looking for a quote, a comma or a line feed in a text; doubling quotes. Texts of at most 1000000 bytes where a text is made. -/
import Derived.Test.YtlookapkakeinaaProg
import Derived.Test.YtlookapkakeinaaBase
import Derived.Test.YtlookapkakeinaaTxtBIR
import Derived.Lib.OthersKept
import Derived.WalkKit
import Derived.Handy
import Derived.BigQuiet
import Derived.WalkLawsBesides
namespace Go.Proofs.Ytlookapkakeinaa
open Go.RowKit
set_option linter.unusedVariables false
theorem Strs.at_ {w : World} {A : Option Addr} {n cap : Nat} {ss : List ByteArray} (h : Strs w A n cap ss) {k : Nat} (hk : k < n) : ∃ b o, A = some ⟨b, o, none⟩ ∧ b < w.heap.size ∧ w.cell? ⟨b, o + k, none⟩ = some (.string (ss.getD k ByteArray.empty)) ∧ (ss.getD k ByteArray.empty).size ≤ 140737488351232 := by
  obtain ⟨b, o, u, hA, hb, hx, hc⟩ := h.1.at_ hk
  have hl : k < ss.length := by have := h.2.1; omega
  rw [List.getElem?_map, List.getElem?_eq_getElem hl] at hx
  simp only [Option.map_some, Option.some.injEq] at hx
  refine ⟨b, o, hA, hb, ?_, ?_⟩
  · rw [hc, ← hx, List.getD_eq_getElem?_getD, List.getElem?_eq_getElem hl]; rfl
  · rw [List.getD_eq_getElem?_getD, List.getElem?_eq_getElem hl]
    exact h.2.2.2.2.2 _ (List.getElem_mem hl)
def SomeB (w : World) (p : Prop) (e : Ending) (w' : World) : Prop := ∃ b : Bool, e = .returned (.bool b) ∧ w = w' ∧ (b = true → p)
set_option maxHeartbeats 1000000 in
theorem fits4_any (A : Option Addr) (n cap : Nat) (ss : List ByteArray) (w : World) (h : Strs w A n cap ss) : Calls Try.prog 4 #[.slice A n cap] w (SomeB w True) := by
  have hn := h.2.2.2.2.1
  go_enter Try.func4, Try.ntmps4
  go_wp2_with fail
  all_goals first
    | (go_ret; exact ⟨_, rfl, rfl, fun _ => trivial⟩)
    | skip
  go_loop [10] (fun i => ∃ k : Nat, k ≤ n ∧ i = .int .i64 k) (fun i => n - (intOf i).toNat)
  case atStart => exact ⟨0, Nat.zero_le _, rfl⟩
  case round =>
    obtain ⟨k, hk, rfl⟩ := hrel
    by_cases hlt : k < n
    · obtain ⟨b, o, rfl, hb, hc, hs⟩ := h.at_ hlt
      clear h
      go_wp2
      · go_ret
        exact ⟨_, rfl, rfl, fun _ => trivial⟩
      · go_round
        case rel => exact ⟨k + 1, by omega, by go_num⟩
        case measure => simp [intOf]; omega
    · go_wp2
      go_ret
      exact ⟨_, rfl, rfl, fun _ => trivial⟩
def tot (ss : List ByteArray) : Nat → Nat
  | 0 => 0
  | k + 1 => tot ss k + (ss.getD k ByteArray.empty).size + 1
theorem tot_le (ss : List ByteArray) (j : Nat) : ∀ k, j ≤ k → tot ss j ≤ tot ss k
  | 0, h => by have : j = 0 := by omega
               subst this; exact Nat.le_refl _
  | k + 1, h => by
    by_cases e : j = k + 1
    · subst e; exact Nat.le_refl _
    · have := tot_le ss j k (by omega)
      simp only [tot]; omega
set_option maxHeartbeats 1000000 in
theorem texts_any (A : Option Addr) (n cap : Nat) (ss : List ByteArray) (w : World) (h : Strs w A n cap ss) : Calls Try.prog 5 #[.slice A n cap, .int .i64 2000] w (SomeB w (tot ss n ≤ 2000)) := by
  have hn := h.2.2.2.2.1
  go_enter Try.func5, Try.ntmps5
  go_wp2_with fail
  go_loop [5, 6] (fun s i => ∃ (k : Nat) (t : Int), k ≤ n ∧ i = .int .i64 k ∧ s = .int .i64 t ∧ 0 ≤ t ∧ t ≤ 140737489351235 ∧ Hid (t = tot ss k)) (fun _ i => n - (intOf i).toNat)
  case atStart => exact ⟨0, 0, Nat.zero_le _, rfl, rfl, by omega, by omega, Lib.hid rfl⟩
  case round =>
    obtain ⟨k, t, hk, rfl, rfl, t0, t1, ht⟩ := hrel
    by_cases hlt : k < n ∧ t ≤ 2000
    · obtain ⟨hlt, ht2⟩ := hlt
      obtain ⟨b, o, rfl, hb, hc, hs⟩ := h.at_ hlt
      clear h
      have HT := Lib.hid (show t + ((ss.getD k ByteArray.empty).size + 1) = tot ss (k + 1) by simp only [tot]; have := ht.out; omega)
      clear ht
      generalize ss.getD k ByteArray.empty = s at hc hs HT
      go_wp2
      go_round
      case rel => exact ⟨k + 1, _, by omega, by go_num, rfl, by omega, by omega, Lib.hid (by have := HT.out; omega)⟩
      case measure => simp [intOf]; omega
    · have HE := Lib.hid (show t ≤ 2000 → tot ss n ≤ 2000 from fun e => by
        have : k = n := by omega
        have := ht.out
        subst k; omega)
      clear ht
      by_cases h1 : k < n
      · have h2 : ¬ t ≤ 2000 := fun e => hlt ⟨h1, e⟩
        clear hlt
        go_wp2
        go_ret
        exact ⟨_, rfl, rfl, fun h => by simp at h⟩
      · clear hlt
        go_wp2
        go_ret
        exact ⟨_, rfl, rfl, fun h => HE.out (by simpa using h)⟩
theorem decode_high (s : ByteArray) (pos : Nat) (h : pos < s.size) (hb : 128 ≤ (s[pos]'h).toNat) : 128 ≤ (Utf8.decode s pos).1 ∧ 1 ≤ (Utf8.decode s pos).2 ∧ ∀ j (hj : j < s.size), pos ≤ j → j < pos + (Utf8.decode s pos).2 → 128 ≤ (s[j]'hj).toNat := by
  have g0 : ∀ k (hk : k < s.size), s.get! k = s[k]'hk := fun k hk => by
    show s.data[k]! = s.data[k]
    exact getElem!_pos s.data k hk
  have hz : s.get! (pos + 0) = s[pos]'h := g0 pos h
  unfold Utf8.decode
  simp only [hz]
  have one : ∀ j (hj : j < s.size), pos ≤ j → j < pos + 1 → 128 ≤ (s[j]'hj).toNat := fun j hj h1 h2 => by
    have : j = pos := by omega
    subst this; exact hb
  have ct : ∀ k, (decide (pos + k < s.size) && (s.get! (pos + k)).toNat / 64 == 2) = true → ∀ (hj : pos + k < s.size), 128 ≤ (s[pos + k]'hj).toNat := fun k hk hj => by
    simp only [Bool.and_eq_true, decide_eq_true_eq, beq_iff_eq] at hk
    rw [g0 _ hj] at hk
    omega
  rw [if_neg (by omega)]
  split
  · rename_i h1
    simp only [Bool.and_eq_true] at h1
    split
    · refine ⟨by omega, by omega, fun j hj a b => ?_⟩
      by_cases e : j = pos
      · subst e; exact hb
      · have : j = pos + 1 := by omega
        subst this; exact ct 1 (by simpa using h1.2) hj
    · exact ⟨by decide, by omega, one⟩
  · split
    · rename_i h1
      simp only [Bool.and_eq_true] at h1
      split
      · rename_i h2
        simp only [Bool.and_eq_true, decide_eq_true_eq] at h2
        refine ⟨by omega, by omega, fun j hj a b => ?_⟩
        by_cases e : j = pos
        · subst e; exact hb
        · by_cases e : j = pos + 1
          · subst e; exact ct 1 (by simpa using h1.1.2) hj
          · have : j = pos + 2 := by omega
            subst this; exact ct 2 (by simpa using h1.2) hj
      · exact ⟨by decide, by omega, one⟩
    · split
      · rename_i h1
        simp only [Bool.and_eq_true] at h1
        split
        · rename_i h2
          simp only [Bool.and_eq_true, decide_eq_true_eq] at h2
          refine ⟨by omega, by omega, fun j hj a b => ?_⟩
          by_cases e : j = pos
          · subst e; exact hb
          · by_cases e : j = pos + 1
            · subst e; exact ct 1 (by simpa using h1.1.1.2) hj
            · by_cases e : j = pos + 2
              · subst e; exact ct 2 (by simpa using h1.1.2) hj
              · have : j = pos + 3 := by omega
                subst this; exact ct 3 (by simpa using h1.2) hj
        · exact ⟨by decide, by omega, one⟩
      · exact ⟨by decide, by omega, one⟩
end Go.Proofs.Ytlookapkakeinaa
