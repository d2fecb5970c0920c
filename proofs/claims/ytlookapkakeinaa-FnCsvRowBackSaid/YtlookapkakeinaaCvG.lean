/- FnCsvRowBack: the walk of the law. Rows of at most 2000 bytes; else nothing is asked. -/
import Derived.Test.YtlookapkakeinaaCvD
import Derived.Test.YtlookapkakeinaaCvF
namespace Go.Proofs.Ytlookapkakeinaa
open Go.RowKit
set_option linter.unusedVariables false
theorem str_same (s : ByteArray) : (s.toList == s.toList) = true := beq_self_eq_true _
set_option maxHeartbeats 4000000 in
set_option maxRecDepth 100000 in
theorem same_any (g1 c1 g2 c2 gb cb ba oa n cap : Nat) (ss : List ByteArray) (w : World) (hn : n ≤ 2000) (h1 : w.cell? ⟨g1, 0, none⟩ = some (.slice (some ⟨g2, 0, none⟩) n c2)) (h3 : w.cell? ⟨gb, 0, none⟩ = some (.slice (some ⟨ba, oa, none⟩) n cap))
    (h2 : ∀ k, k < n → w.cell? ⟨g2, k, none⟩ = some (.string (ss.getD k ByteArray.empty))) (h4 : ∀ k, k < n → w.cell? ⟨ba, oa + k, none⟩ = some (.string (ss.getD k ByteArray.empty))) :
    Calls Try.prog 8 #[.slice (some ⟨g1, 0, none⟩) 1 c1, .slice (some ⟨gb, 0, none⟩) 1 cb] w fun e w' => e = .returned (.bool true) ∧ Below w.heap.size w w' := by
  have H2 := Lib.hid h2
  have H4 := Lib.hid h4
  clear h2 h4
  go_enter Try.func8, Try.ntmps8
  go_wp2_with fail
  refine wp_loop_rounds 2 ?_
  rw [rounds_succ]
  go_wp2_with fail
  go_region
  go_wp2_with fail
  go_loopw [6] (fun i wr => ∃ k : Nat, k ≤ n ∧ i = .int .i64 k ∧ Hid (∀ a, wr.cell? a = w.cell? a) ∧ Hid (Below w.heap.size w wr)) (fun i _ => n - (intOf i).toNat)
  case atStart => exact ⟨0, Nat.zero_le _, rfl, Lib.hid (fun a => rfl), Lib.hid (Below.drew (Below.refl _ _))⟩
  case round =>
    obtain ⟨k, hk, rfl, HA, HB⟩ := hrel
    obtain ⟨wo, rfl⟩ : ∃ wo : World, wo = wr := ⟨_, rfl⟩
    have f1 : wo.cell? ⟨g1, 0, none⟩ = some (.slice (some ⟨g2, 0, none⟩) n c2) := (HA.out _).trans h1
    have f3 : wo.cell? ⟨gb, 0, none⟩ = some (.slice (some ⟨ba, oa, none⟩) n cap) := (HA.out _).trans h3
    by_cases hlt : k < n
    · have e2 := (HA.out _).trans (H2.out k hlt)
      have e4 := (HA.out _).trans (H4.out k hlt)
      have es := str_same (ss.getD k ByteArray.empty)
      generalize ss.getD k ByteArray.empty = s at *
      go_wp2_with fail
      go_region
      go_wp2_with fail
      go_roundw
      case rel => exact ⟨k + 1, by omega, by go_num, Lib.hid (fun a => HA.out a), Lib.hid (Below.drew HB.out)⟩
      case measure => simp [intOf]; omega
    · have e : k = n := by omega
      subst e
      go_wp2_with fail
      rw [rounds_succ]
      go_wp2_with fail
      go_ret
      exact ⟨rfl, HB.out⟩
set_option maxHeartbeats 4000000 in
set_option maxRecDepth 100000 in
theorem lawCv (A : Option Addr) (n cap : Nat) (ss : List ByteArray) (w : World) (h : Strs w A n cap ss) : Calls Try.prog 3 #[.slice A n cap] w fun e w' => e = .returned (.bool true) ∧ Below w.heap.size w w' := by
  have H1 := Lib.hid (fits4_any A n cap ss w h)
  have H2 := Lib.hid (texts_any A n cap ss w h)
  have hnn := h.2.2.2.2.1
  have HS := Lib.hid h
  clear h
  go_enter Try.func3, Try.ntmps3
  go_wp2_with (go_at_call 4; refine H1.out.mono ?_; rintro e w1 ⟨x, rfl, rfl, hx⟩; clear hx; cases x)
  · go_wp2
    go_ret
    exact ⟨rfl, Below.refl _ _⟩
  · go_wp2_with (go_at_call 5; refine H2.out.mono ?_; rintro e w1 ⟨x, rfl, rfl, hx⟩; have HX := Lib.hid hx; clear hx; cases x)
    · go_wp2
      go_ret
      exact ⟨rfl, Below.refl _ _⟩
    · go_wp2
      go_ret
      exact ⟨rfl, Below.refl _ _⟩
    · have hz : ((n : Int) == 0) = false := by assumption
      · have ht := HX.out trivial
        have hz1 : n ≠ 0 := fun e => by subst e; exact absurd hz (by decide)
        have hn2 : n ≤ 2000 := by
          have key : ∀ k, k ≤ tot ss k := by
            intro k
            induction k with
            | zero => exact Nat.zero_le _
            | succ k ih => simp only [tot]; omega
          have := key n
          omega
        have h0 : 0 < n := by omega
        obtain ⟨ba, oa, rfl, hba, -, -⟩ := HS.out.at_ h0
        have HC := Lib.hid (csv_any (some ⟨ba, oa, none⟩) n cap ss w HS.out.1 hn2 ht)
        have HT := Lib.hid ht
        clear ht HX hba
        refine HC.out.mono ?_
        rintro e w1 ⟨l, rfl, hw, hb1⟩
        obtain ⟨cs, hcl, hl, he⟩ := hw
        have hlen : l.length ≤ 6000 := by
          have h1 := wrote_len hcl he
          have h2 := HT.out
          rw [← hl] at h1
          omega
        have HR := Lib.hid (rows_any ⟨l.toArray⟩ n ss cs w1 hcl h0 hn2 (by show l.toArray.size ≤ _; simp; omega) (by rw [← hl]) he)
        have HB1 := Lib.hid hb1
        generalize (⟨l.toArray⟩ : ByteArray) = L at *
        clear hcl hl he hb1 HC hlen
        go_wp2_with (go_at_call 6; refine halt_F ?_)
        refine resume_F ?_
        refine HR.out.mono ?_
        rintro e w2 ⟨g1, c1, g2, c2, rfl, hb2, hg1, hg2, hc1, hc2⟩
        have HB2 := Lib.hid (HB1.out.trans (hb2.mono HB1.out.size))
        have HG := Lib.hid (show Calls Try.prog 8 #[.slice (some ⟨g1, 0, none⟩) 1 c1, .slice (some ⟨w2.heap.size, 0, none⟩) 1 1] (w2.alloc (.cells #[.slice (some ⟨ba, oa, none⟩) n cap] 22)) fun e w' => e = .returned (.bool true) ∧ Below (w2.alloc (.cells #[.slice (some ⟨ba, oa, none⟩) n cap] 22)).heap.size (w2.alloc (.cells #[.slice (some ⟨ba, oa, none⟩) n cap] 22)) w' by
          have hbA : Below w2.heap.size w2 (w2.alloc (.cells #[.slice (some ⟨ba, oa, none⟩) n cap] 22)) := (Below.refl _ _).alloc (Nat.le_refl _) _
          refine same_any g1 c1 g2 c2 w2.heap.size 1 ba oa n cap ss _ hn2 ((hbA.cell (p := ⟨g1, 0, none⟩) hg1).trans hc1) ?_ (fun k hk => (hbA.cell (p := ⟨g2, k, none⟩) hg2).trans (hc2 k hk)) (fun k hk => ?_)
          · exact cell_of_row _ _ 0 _ 22 (0, 0) (heap_alloc_new w2 _)
          · obtain ⟨b', o', hA, hb', hc', -⟩ := HS.out.at_ hk
            cases hA
            exact (hbA.cell (p := ⟨ba, oa + k, none⟩) (Nat.lt_of_lt_of_le hb' HB2.out.size)).trans ((HB2.out.cell (p := ⟨ba, oa + k, none⟩) hb').trans hc'))
        have HB3 := Lib.hid (HB2.out.alloc HB2.out.size (.cells #[.slice (some ⟨ba, oa, none⟩) n cap] 22))
        clear hb2 hg1 hg2 hc1 hc2 HB2
        go_wp2_with (go_at_call 8; refine HG.out.mono ?_; rintro e w4 ⟨rfl, hb4⟩; have HB4 := Lib.hid (HB3.out.trans (hb4.mono HB3.out.size)); clear hb4)
        go_ret
        exact ⟨rfl, HB4.out⟩
end Go.Proofs.Ytlookapkakeinaa
