/- The columns that the table merges: the laws' walks. Rows of at most 100 texts, 0 to 200 columns. -/
import Derived.Test.YtlppbalnjogkoaaMerE
import Derived.WalkKit
import Derived.Handy
import Derived.Deep.QuietTactic
import Derived.BigQuiet
import Derived.Laws.OwnMore
import Derived.WalkLawsBesides
namespace Go.Proofs.Ytlppbalnjogkoaa
open Go.RowKit
set_option linter.unusedVariables false
theorem own_below {w w' : World} {B : Nat} {e : TypeId} {size n : Nat} {v : Value} {xs : List Value} (h : w.ownsRow B e size v n xs) (hb : Below w.heap.size w w') : w'.ownsRow B e size v n xs :=
  h.kept (row := none) ⟨hb.os, hb.tape, hb.output, hb.size, fun k hk _ => hb.block k hk⟩ (by cases hv : v.ownBlock <;> simp)
theorem own_form {w : World} {B : Nat} {e : TypeId} {size n : Nat} {v : Value} {xs : List Value} (h : w.ownsRow B e size v n xs) : ∃ a cap, v = .slice a n cap := by
  rcases h.2 with ⟨rfl, rfl⟩ | ⟨g, cap, cur, rfl, _⟩
  · exact ⟨none, 0, rfl⟩
  · exact ⟨_, cap, rfl⟩
theorem own_len {w : World} {B : Nat} {e : TypeId} {size n : Nat} {v : Value} {xs : List Value} (h : w.ownsRow B e size v n xs) : n ≤ maxLen := by
  rcases h.2 with ⟨rfl, rfl⟩ | ⟨g, cap, cur, rfl, _, _, h1, h2, _⟩
  · exact Nat.zero_le _
  · exact Nat.le_trans h1 h2
set_option maxHeartbeats 4000000 in
set_option maxRecDepth 100000 in
theorem mergedOf_any (A : Option Addr) (n cap : Nat) (ss : List ByteArray) (m : Int) (w : World) (h : Strs w A n cap ss) (hm : -9223372036854775808 ≤ m ∧ m ≤ 9223372036854775807) :
    Calls Try.prog 9 #[.slice A n cap, .int .i64 m] w fun e w' => e = .returned (.bool true) ∧ Below w.heap.size w w' := by
  have hn := h.2.2.2.2.1
  have HH := Lib.hid h
  clear h
  by_cases c1 : 100 < n
  · have t1 : decide ((100 : Int) < (n : Int)) = true := by simp; omega
    go_enter Try.func9, Try.ntmps9
    go_wp2_with (first
      | (go_at_call 25; (refine (fits4_any A n cap ss _ HH.out).mono ?_); rintro e w1 ⟨x, rfl, rfl⟩; cases x)
      | (go_at_call 26; (refine (texts_any A n cap ss _ (by omega) _ HH.out).mono ?_); rintro e w1 ⟨x, rfl, rfl⟩; cases x))
    all_goals (go_ret; exact ⟨ret_true rfl, Below.refl _ _⟩)
  · have c1' : n ≤ 100 := by omega
    by_cases c2 : 0 ≤ m ∧ m ≤ 200
    · have c3 : ¬ m < 0 := by omega
      have c4 : ¬ 200 < m := by omega
      go_enter Try.func9, Try.ntmps9
      go_wp2_with (first
        | (go_at_call 25; (refine (fits4_any A n cap ss _ HH.out).mono ?_); rintro e w1 ⟨x, rfl, rfl⟩; cases x)
        | (go_at_call 26; (refine (texts_any A n cap ss _ (by omega) _ HH.out).mono ?_); rintro e w1 ⟨x, rfl, rfl⟩; cases x)
        | (go_at_call 24; refine halt_here ?_))
      · go_ret; exact ⟨ret_true rfl, Below.refl _ _⟩
      · go_ret; exact ⟨ret_true rfl, Below.refl _ _⟩
      · refine resume ?_
        refine (implMerged_any A n cap ss m w HH.out c1' c2).mono ?_
        rintro e w1 ⟨v1, rfl, ho1, hb1⟩
        go_wp2_with (go_at_call 27; refine halt_here ?_)
        refine resume ?_
        refine (specMerged_any A n cap ss m w1 (HH.out.below hb1) c1' c2).mono ?_
        rintro e w2 ⟨v2, rfl, ho2, hb2⟩
        have ho1' := own_below ho1 hb2
        obtain ⟨a1, k1, rfl⟩ := own_form ho1'
        obtain ⟨a2, k2, rfl⟩ := own_form ho2
        go_wp2_with (go_at_call 23; refine halt_here ?_)
        refine resume ?_
        refine (sameRuns_any _ _ _ _ (runs ss m 0) (own_len ho1') _ (pairs_of ho1') (pairs_of ho2)).mono ?_
        rintro e w3 ⟨rfl, k, rfl⟩
        go_wp2
        go_ret
        exact ⟨ret_true rfl, below_drewN (hb1.trans (hb2.mono hb1.size)) _⟩
    · have c3 : ¬ m < 0 → 200 < m := by omega
      by_cases c4 : m < 0
      · go_enter Try.func9, Try.ntmps9
        go_wp2_with (first
          | (go_at_call 25; (refine (fits4_any A n cap ss _ HH.out).mono ?_); rintro e w1 ⟨x, rfl, rfl⟩; cases x)
          | (go_at_call 26; (refine (texts_any A n cap ss _ (by omega) _ HH.out).mono ?_); rintro e w1 ⟨x, rfl, rfl⟩; cases x))
        all_goals (go_ret; exact ⟨ret_true rfl, Below.refl _ _⟩)
      · have c5 : 200 < m := c3 c4
        go_enter Try.func9, Try.ntmps9
        go_wp2_with (first
          | (go_at_call 25; (refine (fits4_any A n cap ss _ HH.out).mono ?_); rintro e w1 ⟨x, rfl, rfl⟩; cases x)
          | (go_at_call 26; (refine (texts_any A n cap ss _ (by omega) _ HH.out).mono ?_); rintro e w1 ⟨x, rfl, rfl⟩; cases x))
        all_goals (go_ret; exact ⟨ret_true rfl, Below.refl _ _⟩)
theorem info9 : (Try.prog.info? 9).map (fun i => (i.zero, i.size, i.bytes)) = some (some (.string ByteArray.empty), 1, 16) := by kernel_rfl
theorem append_str {ops : Array Oper} {rest : List Oper} {a : Act} {Q : Exit → Act → World → Prop} {dst : Option Tmp} {s x : Operand} {ty : TypeId} {ps : String} {af : Array Edge} {w0 w : World} {B g : Nat} {v : Value} {l : List ByteArray} {p : ByteArray}
    (h : w.ownsRow B 9 1 v l.length (l.map Value.string)) (HB : Below B w0 w) (hs : a.eval s = v) (hx : a.eval x = .slice (some ⟨g, 0, none⟩) 1 1) (hblk : w.heap[g]? = some (.cells #[.string p] 9 (0, 0))) (hlen : l.length ≤ 1000000) (hB : B ≤ w.heap.size)
    (hK : ∀ v' w', w'.ownsRow B 9 1 v' (l ++ [p]).length ((l ++ [p]).map Value.string) → Below B w0 w' → wpList Try.prog ops Q rest (a.put dst v') w') :
    wpList Try.prog ops Q (⟨dst, .call { callee := .builtin .append, args := #[s, x], argTypes := #[37, 37] }, ty, ps, af, none⟩ :: rest) a w := by
  obtain ⟨i0, hi, hz0, hz1, hz2⟩ := info_parts info9
  refine wpList_append_own _ rfl s x 37 rfl B 9 i0 (.string ByteArray.empty) 1 16 Try.underlying37 hi hz0 hz1 hz2 rfl (by decide) v l.length (l.map Value.string) hs h ⟨g, 0, none⟩ 1 1 [.string p] hx rfl ?_ (by simp [Value.oneCell']) (by unfold maxLen; omega) (by omega) hB ?_
  · intro j u hj
    have : w.cell? ⟨g, j, none⟩ = some u := by
      rw [cell_of_row w g j _ 9 (0, 0) hblk]
      rw [← Array.getElem?_toList]
      exact hj
    cases j with
    | zero => exact this
    | succ j => simpa [Addr.add] using this
  · intro v' w' hown hg _
    refine hK v' w' (by rw [List.map_append]; simpa using hown) (HB.grown hg hB (fun k hk => (h.lt k hk).1))
theorem strs_own {w : World} {B : Nat} {a : Option Addr} {n cap : Nat} {l : List ByteArray} (h : w.ownsRow B 9 1 (.slice a n cap) n (l.map Value.string)) (hl : l.length = n) (hn : n ≤ 1000) (hs : ∀ s ∈ l, s.size ≤ 140737488351232) : Strs w a n cap l := by
  rcases h.2 with ⟨he, h0⟩ | ⟨g, cap', cur, he, hg, hblk, h1, h2, _⟩
  · subst h0
    injection he with e1 e2 e3
    subst e1; subst e3
    have : l = [] := List.length_eq_zero_iff.1 hl
    subst this
    exact ⟨Row.nil _ _, rfl, Nat.le_refl _, Nat.zero_le _, by omega, hs⟩
  · injection he with e1 e2 e3
    subst e1; subst e3
    exact ⟨row_of (by simpa using hl) (h.cells (g := g) rfl), hl, h1, h2, by omega, hs⟩
theorem cel_rep (n : Nat) (s : ByteArray) (k : Nat) (hk : k < n) : cel (List.replicate n s) k = s := by
  simp [cel, List.getD, hk]
theorem rend_rep (n : Nat) (s : ByteArray) (d : Nat) : ∀ k, n - k = d → k < n → rend (List.replicate n s) 0 k = n - 1 := by
  induction d with
  | zero => intro k h1 h2; omega
  | succ d ih =>
    intro k h1 h2
    by_cases h : k + 1 < n
    · rw [rend_step _ _ _ (by simpa using h) (by rw [cel_rep n s _ h, cel_rep n s _ (by omega)])]
      exact ih (k + 1) (by omega) h
    · rw [rend_stop _ _ _ (by simp; omega)]; omega
theorem runs_rep (n : Nat) (s : ByteArray) (h : 2 ≤ n) : runs (List.replicate n s) n 0 = [((0 : Int), (n : Int) - 1)] := by
  have hr := rend_rep n s n 0 (by omega) (by omega)
  rw [runs_hit _ _ _ (by simp; omega) (by rw [hr]; omega) (by omega), hr, runs_end _ _ _ (by simp; omega)]
  congr 2
  omega
set_option maxHeartbeats 4000000 in
set_option maxRecDepth 100000 in
theorem mergedAll_any (s : ByteArray) (n : Int) (w : World) (hs : s.size ≤ 140737488351232) (hm : -9223372036854775808 ≤ n ∧ n ≤ 9223372036854775807) :
    Calls Try.prog 8 #[.string s, .int .i64 n] w fun e w' => e = .returned (.bool true) ∧ Below w.heap.size w w' := by
  by_cases c0 : 100 < s.size
  · have t0 : decide ((100 : Int) < (s.size : Int)) = true := by simp; omega
    by_cases c1 : (2147483647 : Int) < (s.size : Int)
    all_goals (go_enter Try.func8, Try.ntmps8; go_wp2)
    all_goals (go_ret; exact ⟨ret_true rfl, Below.refl _ _⟩)
  · have t0 : ¬ (2147483647 : Int) < (s.size : Int) := by omega
    have t1 : ¬ (100 : Int) < (s.size : Int) := by omega
    by_cases c1 : n < 2
    · go_enter Try.func8, Try.ntmps8
      go_wp2
      all_goals (go_ret; exact ⟨ret_true rfl, Below.refl _ _⟩)
    · by_cases c2 : 60 < n
      · go_enter Try.func8, Try.ntmps8
        go_wp2
        all_goals (go_ret; exact ⟨ret_true rfl, Below.refl _ _⟩)
      · obtain ⟨k, rfl⟩ : ∃ k : Nat, n = k := ⟨n.toNat, by omega⟩
        go_enter Try.func8, Try.ntmps8
        go_wp2_with fail
        go_loopw [5, 21] (fun v i wr => ∃ j : Nat, j ≤ k ∧ i = .int .i64 j ∧ wr.ownsRow w.heap.size 9 1 v (List.replicate j s).length ((List.replicate j s).map Value.string) ∧ Below w.heap.size w wr) (fun _ i _ => k - (intOf i).toNat)
        case atStart => exact ⟨0, Nat.zero_le _, rfl, World.ownsRow_nil _ _ _ _, Below.refl _ _⟩
        case round =>
          obtain ⟨j, hj, rfl, hown, hB⟩ := hrel
          obtain ⟨wo, rfl⟩ : ∃ wo : World, wo = wr := ⟨_, rfl⟩
          by_cases hlt : j < k
          · go_wp2_with (at_builtin; (refine append_str (B := w.heap.size) (w0 := w) (g := wo.heap.size) (l := List.replicate j s) (p := s) (hown.alloc _) (hB.alloc hB.size _) rfl rfl (heap_alloc_new wo _) (by simp; omega) (by rw [World.size_alloc]; have := hB.size; omega) ?_); intro v' w' hown' hB')
            go_roundw
            case rel => exact ⟨j + 1, by omega, by go_num, by rw [List.replicate_succ']; exact hown', hB'⟩
            case measure => simp [intOf]; omega
          · have hjk : j = k := by omega
            subst hjk
            rw [List.length_replicate] at hown
            obtain ⟨a1, cap, rfl⟩ := own_form hown
            have HS := strs_own hown (by simp) (by omega) (fun q hq => by rw [(List.mem_replicate.1 hq).2]; exact hs)
            go_wp2_with (go_at_call 24; refine halt_here ?_)
            refine resume ?_
            refine (implMerged_any a1 j cap (List.replicate j s) j wo HS (by omega) (by omega)).mono ?_
            rintro e w1 ⟨v1, rfl, ho1, hb1⟩
            rw [runs_rep j s (by omega)] at ho1
            obtain ⟨a2, k2, rfl⟩ := own_form ho1
            have hB1 := hB.trans (hb1.mono hB.size)
            go_wp2_with (go_at_call 23; refine halt_here ?_)
            refine resume ?_
            refine (sameRuns_any _ _ _ _ [((0 : Int), (j : Int) - 1)] (own_len ho1) _ (pairs_of (ho1.alloc _)) ?_).mono ?_
            · intro i p hp
              cases i with
              | succ i => simp at hp
              | zero =>
                simp at hp
                subst hp
                exact ⟨w1.heap.size, 0, rfl, cell_of_row _ _ 0 _ 41 (0, 0) (heap_alloc_new w1 _), cell_of_row _ _ 1 _ 41 (0, 0) (heap_alloc_new w1 _)⟩
            · rintro e w3 ⟨rfl, q, rfl⟩
              go_wp2
              go_ret
              exact ⟨ret_true rfl, below_drewN (hB1.alloc hB1.size _) _⟩
end Go.Proofs.Ytlppbalnjogkoaa
