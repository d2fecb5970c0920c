/- Reading over rows of texts and pairs: the walks of SameRuns, zzFits4, texts. No conditions. -/
import Derived.Test.YtlppbalnjogkoaaProg
import Derived.Test.YtlppbalnjogkoaaBase
import Derived.Test.YtlppbalnjogkoaaIMap
import Derived.WalkKit
import Derived.Handy
import Derived.Deep.QuietTactic
import Derived.BigQuiet
import Derived.WalkLawsBesides
import Derived.ChangeKeysEq
namespace Go.Proofs.Ytlppbalnjogkoaa
open Go.RowKit
set_option linter.unusedVariables false
def PairsAt (w : World) (a : Option Addr) (l : List (Int × Int)) : Prop :=
  ∀ i p, l[i]? = some p → ∃ b o, a = some ⟨b, o, none⟩ ∧ w.cell? ⟨b, o + i * 2, none⟩ = some (.int .i64 p.1) ∧ w.cell? ⟨b, o + i * 2 + 1, none⟩ = some (.int .i64 p.2)
theorem info3 : (Try.prog.info? 3).map (fun i => (i.zero, i.size, i.bytes)) = some (some (.int .i64 0), 1, 8) := by kernel_rfl
theorem neq2 (a b : Int) (W : World) : (binOp .neq 41 (.agg #[.int .i64 a, .int .i64 b]) (.agg #[.int .i64 a, .int .i64 b])).run Try.prog W = .ok (.bool false) W := by
  obtain ⟨i0, hi0, _⟩ := info_parts info3
  have hc : Try.prog.cellsOf 3 = 1 := by kernel_rfl
  have h : (Op.equalIn 10000 41 (.agg #[.int .i64 a, .int .i64 b]) (.agg #[.int .i64 a, .int .i64 b])).run Try.prog W = .ok true W := by
    rw [show (10000 : Nat) = 9999 + 1 from rfl, run_equalIn_array W 9999 _ _ Try.underlying41 hi0, hc]
    have e1 : ∀ x : Int, (Op.equalIn 9999 3 (.int .i64 x) (.int .i64 x)).run Try.prog W = .ok true W := fun x => by
      have := run_equalIn_int (P := Try.prog) W 9998 3 .i64 .i64 x x Try.underlying3
      rw [beq_self_eq_true] at this
      exact this
    have p1 : ∀ x y : Value, (part 3 #[x, y] 0).run Try.prog W = .ok x W := fun x y => by simp [part, go_sem]
    have p2 : ∀ x y : Value, (part 3 #[x, y] 1).run Try.prog W = .ok y W := fun x y => by simp [part, go_sem]
    simp only [List.range_succ, List.range_zero, List.nil_append, List.cons_append, Op.eqItems, Sem.run_bind, Nat.zero_mul, Nat.one_mul, p1, e1, Result.andThen_ok]
    simp [p2, e1]
  rw [run_neq_struct, h]
  rfl
set_option maxHeartbeats 1000000 in
set_option maxRecDepth 100000 in
theorem sameRuns_any (A1 A2 : Option Addr) (c1 c2 : Nat) (l : List (Int × Int)) (hl : l.length ≤ maxLen) (w : World) (h1 : PairsAt w A1 l) (h2 : PairsAt w A2 l) :
    Calls Try.prog 23 #[.slice A1 l.length c1, .slice A2 l.length c2] w fun e w' => e = .returned (.bool true) ∧ ∃ n, w' = w.drewN n := by
  unfold maxLen at hl
  go_enter Try.func23, Try.ntmps23
  go_wp2_with fail
  go_loopw [5] (fun i wr => ∃ k : Nat, k ≤ l.length ∧ i = .int .i64 k ∧ ∃ n, wr = w.drewN n) (fun i _ => l.length - (intOf i).toNat)
  case atStart => exact ⟨0, Nat.zero_le _, rfl, 0, rfl⟩
  case round =>
    obtain ⟨k, hk, rfl, n, rfl⟩ := hrel
    by_cases hlt : k < l.length
    · obtain ⟨b1, o1, rfl, d1, d2⟩ := h1 k l[k] (List.getElem?_eq_getElem hlt)
      obtain ⟨b2, o2, rfl, d3, d4⟩ := h2 k l[k] (List.getElem?_eq_getElem hlt)
      have hn := neq2 l[k].1 l[k].2
      have k0 : (0 : Int) ≤ (k : Int) := by omega
      have k1 : (k : Int) < (l.length : Int) := by omega
      go_wp2_with fail
      go_quiet (fail)
      go_wp2
      go_roundw
      case rel => exact ⟨k + 1, by omega, by go_num, _, rfl⟩
      case measure => simp [intOf]; omega
    · go_wp2
      go_ret
      exact ⟨rfl, _, rfl⟩
def SomeBW (w : World) (e : Ending) (w' : World) : Prop := ∃ x : Bool, e = .returned (.bool x) ∧ w = w'
theorem Strs.at_ {w : World} {A : Option Addr} {n cap : Nat} {ss : List ByteArray} (h : Strs w A n cap ss) {k : Nat} (hk : k < n) : ∃ b o, A = some ⟨b, o, none⟩ ∧ b < w.heap.size ∧ w.cell? ⟨b, o + k, none⟩ = some (.string (ss.getD k ByteArray.empty)) ∧ (ss.getD k ByteArray.empty).size ≤ 140737488351232 := by
  obtain ⟨b, o, u, hA, hb, hx, hc⟩ := h.1.at_ hk
  have hl : k < ss.length := by have := h.2.1; omega
  rw [List.getElem?_map, List.getElem?_eq_getElem hl] at hx
  simp only [Option.map_some, Option.some.injEq] at hx
  refine ⟨b, o, hA, hb, ?_, ?_⟩
  · rw [hc, ← hx, List.getD_eq_getElem?_getD, List.getElem?_eq_getElem hl]; rfl
  · rw [List.getD_eq_getElem?_getD, List.getElem?_eq_getElem hl]
    exact h.2.2.2.2.2 _ (List.getElem_mem hl)
set_option maxHeartbeats 1000000 in
theorem fits4_any (A : Option Addr) (n cap : Nat) (ss : List ByteArray) (w : World) (h : Strs w A n cap ss) : Calls Try.prog 25 #[.slice A n cap] w (SomeBW w) := by
  have hn := h.2.2.2.2.1
  go_enter Try.func25, Try.ntmps25
  go_wp2_with fail
  all_goals first
    | (go_ret; exact ⟨_, rfl, rfl⟩)
    | skip
  go_loop [10] (fun i => ∃ k : Nat, k ≤ n ∧ i = .int .i64 k) (fun i => n - (intOf i).toNat)
  case atStart => exact ⟨0, Nat.zero_le _, rfl⟩
  case round =>
    obtain ⟨k, hk, rfl⟩ := hrel
    by_cases hlt : k < n
    · obtain ⟨b, o, rfl, hb, hc, hs⟩ := h.at_ hlt
      clear h
      go_wp2
      · go_ret
        exact ⟨_, rfl, rfl⟩
      · go_round
        case rel => exact ⟨k + 1, by omega, by go_num⟩
        case measure => simp [intOf]; omega
    · go_wp2
      go_ret
      exact ⟨_, rfl, rfl⟩
set_option maxHeartbeats 1000000 in
theorem texts_any (A : Option Addr) (n cap : Nat) (ss : List ByteArray) (most : Int) (hm : 0 ≤ most ∧ most ≤ 1000000) (w : World) (h : Strs w A n cap ss) : Calls Try.prog 26 #[.slice A n cap, .int .i64 most] w (SomeBW w) := by
  have hn := h.2.2.2.2.1
  obtain ⟨m0, m1⟩ := hm
  go_enter Try.func26, Try.ntmps26
  go_wp2_with fail
  go_loop [5, 6] (fun s i => ∃ (k : Nat) (t : Int), k ≤ n ∧ i = .int .i64 k ∧ s = .int .i64 t ∧ 0 ≤ t ∧ t ≤ 140737489351235) (fun _ i => n - (intOf i).toNat)
  case atStart => exact ⟨0, 0, Nat.zero_le _, rfl, rfl, by omega, by omega⟩
  case round =>
    obtain ⟨k, t, hk, rfl, rfl, t0, t1⟩ := hrel
    by_cases hlt : k < n ∧ t ≤ most
    · obtain ⟨hlt, ht⟩ := hlt
      obtain ⟨b, o, rfl, hb, hc, hs⟩ := h.at_ hlt
      clear h
      generalize ss.getD k ByteArray.empty = s at hc hs
      go_wp2
      go_round
      case rel => exact ⟨k + 1, _, by omega, by go_num, rfl, by omega, by omega⟩
      case measure => simp [intOf]; omega
    · by_cases h1 : k < n
      · have h2 : ¬ t ≤ most := fun e => hlt ⟨h1, e⟩
        clear hlt
        go_wp2
        go_ret
        exact ⟨_, rfl, rfl⟩
      · clear hlt
        go_wp2
        go_ret
        exact ⟨_, rfl, rfl⟩
end Go.Proofs.Ytlppbalnjogkoaa
