/- Looking for a quote, a comma or a line feed in a text; doubling quotes. Texts of at most 1000000 bytes where a text is made. -/
import Derived.Test.YtlookapkakeinaaCvA
import Derived.LoopN
import Derived.Lib.RuneCount
namespace Go.Proofs.Ytlookapkakeinaa
open Go.RowKit
set_option linter.unusedVariables false
def CH : ByteArray := ⟨#[34, 44, 10]⟩
theorem ch_0 : Utf8.decode CH 0 = (34, 1) := by decide +kernel
theorem ch_1 : Utf8.decode CH 1 = (44, 1) := by decide +kernel
theorem ch_2 : Utf8.decode CH 2 = (10, 1) := by decide +kernel
def spec3 (c : Nat) : Prop := c = 34 ∨ c = 44 ∨ c = 10
theorem iterPos_of' {w : World} {k : Nat} {s : ByteArray} {p : Nat} (h : w.heap[k]? = some (.stringIter s p)) : w.iterPos k = p := by simp [World.iterPos, h]
theorem iter_old (W : World) (s : ByteArray) (p k : Nat) (hk : k < W.heap.size) : (W.iter s p).heap[k]? = W.heap[k]? := Below.heap_alloc W _ k hk
def AnyRet (s : ByteArray) (w : World) (e : Ending) (w' : World) : Prop := ∃ i : Int, e = .returned (.int .i64 i) ∧ -1 ≤ i ∧ i ≤ 9223372036854775807 ∧ Below w.heap.size w w' ∧ (i < 0 → ∀ j (hj : j < s.size), ¬ spec3 (s[j]'hj).toNat)
set_option maxHeartbeats 4000000 in
set_option maxRecDepth 100000 in
theorem any_any (s : ByteArray) (w : World) (hs : s.size ≤ 1000000) : Calls Try.prog 25 #[.string s, .string CH] w (AnyRet s w) := by
  go_enter Try.func25, Try.ntmps25
  go_wp2_with fail
  go_loopw [] (fun wr => ∃ pos : Nat, wr.heap[w.heap.size]? = some (.stringIter s pos) ∧ Hid (∀ j (hj : j < s.size), j < pos → ¬ spec3 (s[j]'hj).toNat) ∧ Hid (Below w.heap.size w wr)) (fun wr => s.size - wr.iterPos w.heap.size)
  case atStart => exact ⟨0, heap_alloc_new w _, Lib.hid (fun j hj h => absurd h (by omega)), Lib.hid ((Below.refl _ _).alloc (Nat.le_refl _) _)⟩
  case round =>
    obtain ⟨pos, hit, HO, HB⟩ := hrel
    obtain ⟨wo, rfl⟩ : ∃ wo : World, wo = wr := ⟨_, rfl⟩
    by_cases hp : pos < s.size
    · have hnx : ∀ ty, (Instr.next (.pointer (some ⟨w.heap.size, 0, none⟩)) true ty).run Try.prog wo = _ := fun ty => Lib.run_next_any_at wo w.heap.size s pos ty hit hp
      have hwd := Lib.decode_width_pos s pos hp
      have hpos := iterPos_of' hit
      have hit2 := Lib.iterAt_heap wo w.heap.size s pos (pos + (Utf8.decode s pos).2) hit
      have HB2 := Lib.hid (Lib.below_iterAt HB.out (Nat.le_refl _) s (pos + (Utf8.decode s pos).2))
      have HO2 := Lib.hid (show ¬ spec3 (Utf8.decode s pos).1 → ∀ j (hj : j < s.size), j < pos + (Utf8.decode s pos).2 → ¬ spec3 (s[j]'hj).toNat from fun hn j hj hjl => by
        by_cases h1 : j < pos
        · exact HO.out j hj h1
        · by_cases ha : (s[pos]'hp).toNat < 128
          · rw [decode_ascii s pos hp ha] at hn hjl
            have : j = pos := by simp at hjl; omega
            subst this; exact hn
          · have := (decode_high s pos hp (by omega)).2.2 j hj (by omega) hjl
            unfold spec3; omega)
      have hpi : (pos : Int) ≤ 1000000 := by omega
      generalize hW : wo.iterAt w.heap.size s (pos + (Utf8.decode s pos).2) = W at *
      generalize hd1 : (Utf8.decode s pos).1 = c at *
      generalize hd2 : (Utf8.decode s pos).2 = wd at *
      have hlt := (Array.getElem?_eq_some_iff.1 hit2).1
      have n0 : ∀ ty, (Instr.next (.pointer (some ⟨W.heap.size, 0, none⟩)) true ty).run Try.prog (W.iter CH 0) = .ok (.tuple #[.bool true, .int .i64 0, .int .i32 34]) (W.iter CH 1) := fun ty => by
        rw [run_next_any W CH 0 ty (by decide), ch_0]; rfl
      have n1 : ∀ ty, (Instr.next (.pointer (some ⟨W.heap.size, 0, none⟩)) true ty).run Try.prog (W.iter CH 1) = .ok (.tuple #[.bool true, .int .i64 1, .int .i32 44]) (W.iter CH 2) := fun ty => by
        rw [run_next_any W CH 1 ty (by decide), ch_1]; rfl
      have n2 : ∀ ty, (Instr.next (.pointer (some ⟨W.heap.size, 0, none⟩)) true ty).run Try.prog (W.iter CH 2) = .ok (.tuple #[.bool true, .int .i64 2, .int .i32 10]) (W.iter CH 3) := fun ty => by
        rw [run_next_any W CH 2 ty (by decide), ch_2]; rfl
      have n3 : ∀ ty, (Instr.next (.pointer (some ⟨W.heap.size, 0, none⟩)) true ty).run Try.prog (W.iter CH 3) = .ok (.tuple #[.bool false]) (W.iter CH 3) := fun ty => run_next_end W CH 3 ty (by decide)
      have hit3 : ∀ p, (W.iter CH p).heap[w.heap.size]? = some (.stringIter s (pos + wd)) := fun p => (iter_old W CH p _ hlt).trans hit2
      have HB3 := Lib.hid (fun p => (HB2.out.alloc HB2.out.size (.stringIter CH p) : Below w.heap.size w (W.iter CH p)))
      have Hit3 := Lib.hid hit3
      have hpos3 : (W.iter CH 3).iterPos w.heap.size = pos + wd := iterPos_of' (hit3 3)
      clear hit hit2 hit3 HB HO hW HB2
      by_cases h1 : c = 34
      · have e1 : ((c : Int) == 34) = true := by rw [beq_iff_eq]; omega
        clear HO2
        go_wp2_with fail
        refine wp_loop_rounds 4 ?_
        rw [rounds_succ]
        go_wp2_with fail
        go_ret
        exact ⟨_, rfl, by omega, by omega, HB3.out _, fun h => absurd h (by omega)⟩
      · have e1 : ((c : Int) == 34) = false := by rw [beq_eq_false_iff_ne]; omega
        by_cases h2 : c = 44
        · have e2 : ((c : Int) == 44) = true := by rw [beq_iff_eq]; omega
          clear HO2
          go_wp2_with fail
          refine wp_loop_rounds 4 ?_
          rw [rounds_succ]
          go_wp2_with fail
          rw [rounds_succ]
          go_wp2_with fail
          go_ret
          exact ⟨_, rfl, by omega, by omega, HB3.out _, fun h => absurd h (by omega)⟩
        · have e2 : ((c : Int) == 44) = false := by rw [beq_eq_false_iff_ne]; omega
          by_cases h3 : c = 10
          · have e3 : ((c : Int) == 10) = true := by rw [beq_iff_eq]; omega
            clear HO2
            go_wp2_with fail
            refine wp_loop_rounds 4 ?_
            rw [rounds_succ]
            go_wp2_with fail
            rw [rounds_succ]
            go_wp2_with fail
            rw [rounds_succ]
            go_wp2_with fail
            go_ret
            exact ⟨_, rfl, by omega, by omega, HB3.out _, fun h => absurd h (by omega)⟩
          · have e3 : ((c : Int) == 10) = false := by rw [beq_eq_false_iff_ne]; omega
            have HO3 := Lib.hid (HO2.out (by unfold spec3; omega))
            clear HO2
            go_wp2_with fail
            refine wp_loop_rounds 4 ?_
            rw [rounds_succ]
            go_wp2_with fail
            rw [rounds_succ]
            go_wp2_with fail
            rw [rounds_succ]
            go_wp2_with fail
            rw [rounds_succ]
            go_wp2_with fail
            go_roundw
            case rel => exact ⟨pos + wd, Hit3.out 3, HO3, Lib.hid (HB3.out 3)⟩
            case measure => rw [hpos3, hpos]; omega
    · have hnx : ∀ ty, (Instr.next (.pointer (some ⟨w.heap.size, 0, none⟩)) true ty).run Try.prog wo = _ := fun ty => Lib.run_next_end_at wo w.heap.size s pos ty hit hp
      have HO2 := Lib.hid (fun j (hj : j < s.size) => HO.out j hj (by omega))
      clear hit HO
      go_wp2_with fail
      go_ret
      exact ⟨-1, rfl, by omega, by omega, HB.out, fun _ => HO2.out⟩
theorem has_any (s : ByteArray) (w : World) (hs : s.size ≤ 1000000) : Calls Try.prog 19 #[.string s, .string CH] w fun e w' => ∃ b : Bool, e = .returned (.bool b) ∧ Below w.heap.size w w' ∧ (b = false → ∀ j (hj : j < s.size), ¬ spec3 (s[j]'hj).toNat) := by
  have H := Lib.hid (any_any s w hs)
  go_enter Try.func19, Try.ntmps19
  go_wp2_with (go_at_call 25; refine H.out.mono ?_; rintro e w1 ⟨i, rfl, h0, h1, hb, hi⟩; have HI := Lib.hid hi; clear hi)
  go_ret
  exact ⟨_, rfl, hb, fun h => HI.out (by simpa using h)⟩
theorem esc_any (s : ByteArray) (t : Value) (w : World) (hs : s.size ≤ 1000000) : Calls Try.prog 20 #[t, .string s] w fun e w' => e = .returned (.string ⟨(rep [34] [34, 34] s.data.toList).toArray⟩) ∧ Below w.heap.size w w' := by
  have H := Lib.hid (replace_B s ⟨#[34]⟩ ⟨#[34, 34]⟩ w (by decide) (by decide) (by show s.size * 3 ≤ _; omega))
  go_enter Try.func20, Try.ntmps20
  go_wp2_with (go_at_call 26; refine H.out.mono ?_; rintro e w1 ⟨rfl, hb⟩)
  go_ret
  exact ⟨rfl, hb⟩
end Go.Proofs.Ytlookapkakeinaa
