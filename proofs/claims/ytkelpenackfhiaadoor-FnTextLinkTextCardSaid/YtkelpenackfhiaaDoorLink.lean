/- FnTextLinkText: the walks: what an address is, cleaning an address, the sequences of a hyperlink. No conditions. -/
import Derived.Test.YtkelpenackfhiaaDoorProg
import Derived.Test.YtkelpenackfhiaaDoorBase
import Derived.Test.YtkelpenackfhiaaDoorUniW
import Derived.Test.YtkelpenackfhiaaDoorIter
import Derived.Test.YtkelpenackfhiaaDoorTwTexts
import Derived.WalkKit
import Derived.Handy
import Derived.BigQuiet
namespace Go.Proofs.YtkelpenackfhiaaDoor
open Go.RowKit
set_option linter.unusedVariables false
theorem ixAt (s : ByteArray) (p : Nat) (hp : p < s.size) (W : World) : (Instr.index 9 (.string s) (.int .i64 (p : Int))).run Tryd.prog W = .ok (.int .u8 ((s[p]'hp).toNat : Int)) W := by
  rw [run_index_string W 9 s .i64 (p : Int) Tryd.underlying9, dif_pos ⟨by omega, by omega⟩]; rfl
def uok (c : UInt8) : Prop := 32 ≤ c.toNat ∧ c.toNat ≤ 126
def UText (s : ByteArray) : Prop := s.size ≤ 200 ∧ ∀ j (h : j < s.size), uok (s[j]'h)
theorem size_le2 {n : Nat} (h : decide ((n : Int) ≤ 200) = true) : n ≤ 200 := by
  have := of_decide_eq_true h
  omega
def URet (s : ByteArray) (w : World) (e : Ending) (w' : World) : Prop := ∃ b : Bool, e = .returned (.bool b) ∧ w' = w ∧ (b = true → UText s)
set_option maxHeartbeats 2000000 in
theorem txURL_any (s : ByteArray) (w : World) (hs : s.size ≤ 140737488351232) : Calls Tryd.prog 6 #[.string s] w (URet s w) := by
  go_enter Tryd.func6, Tryd.ntmps6
  go_wp2_with fail
  go_loop [3] (fun i => ∃ k : Nat, k ≤ s.size ∧ i = .int .i64 k ∧ Hid (∀ j (h : j < s.size), j < k → uok (s[j]'h))) (fun i => s.size - (intOf i).toNat)
  case atStart => exact ⟨0, Nat.zero_le _, rfl, Lib.hid (fun j h hj => absurd hj (by omega))⟩
  case round =>
    obtain ⟨k, hk, rfl, HO⟩ := hrel
    by_cases hlt : k < s.size
    · have hix := ixAt s k hlt w
      have HN := Lib.hid (show uok (s[k]'hlt) → ∀ j (h : j < s.size), j < k + 1 → uok (s[j]'h) from fun ho j h hj => by
        by_cases e : j = k
        · subst e; exact ho
        · exact HO.out j h (by omega))
      clear HO
      have HC := Lib.hid (show (32 ≤ ((s[k]'hlt).toNat : Int) ∧ ((s[k]'hlt).toNat : Int) ≤ 126) → uok (s[k]'hlt) from fun h => by unfold uok; omega)
      have HX := Lib.hid (fun h => HN.out (HC.out h))
      clear HN HC
      generalize (((s[k]'hlt).toNat : Nat) : Int) = c at *
      have hcs : (97 ≤ c ∧ c ≤ 122) ∨ (¬ (97 ≤ c ∧ c ≤ 122) ∧ 48 ≤ c ∧ c ≤ 57) ∨ c = 58 ∨ c = 47 ∨ c = 46 ∨ c = 45 ∨ ¬ ((97 ≤ c ∧ c ≤ 122) ∨ (48 ≤ c ∧ c ≤ 57) ∨ c = 58 ∨ c = 47 ∨ c = 46 ∨ c = 45) := by omega
      rcases hcs with ⟨h1, h2⟩ | ⟨h0, h1, h2⟩ | h1 | h1 | h1 | h1 | h1
      · have HY := Lib.hid (HX.out (by omega))
        clear HX
        have g0 : decide (c < 97) = false := decide_eq_false (by omega)
        have g1 : decide ((122 : Int) < c) = false := decide_eq_false (by omega)
        go_wp2_with fail
        go_round
        case rel => exact ⟨k + 1, by omega, by go_num, HY⟩
        case measure => simp [intOf]; omega
      · have HY := Lib.hid (HX.out (by omega))
        clear HX
        have g0 : decide (c < 97) = true := decide_eq_true (by omega)
        have g1 : decide (c < 48) = false := decide_eq_false (by omega)
        have g2 : decide ((57 : Int) < c) = false := decide_eq_false (by omega)
        go_wp2_with fail
        go_round
        case rel => exact ⟨k + 1, by omega, by go_num, HY⟩
        case measure => simp [intOf]; omega
      · have HY := Lib.hid (HX.out (by omega))
        clear HX
        subst h1
        go_wp2_with fail
        go_round
        case rel => exact ⟨k + 1, by omega, by go_num, HY⟩
        case measure => simp [intOf]; omega
      · have HY := Lib.hid (HX.out (by omega))
        clear HX
        subst h1
        go_wp2_with fail
        go_round
        case rel => exact ⟨k + 1, by omega, by go_num, HY⟩
        case measure => simp [intOf]; omega
      · have HY := Lib.hid (HX.out (by omega))
        clear HX
        subst h1
        go_wp2_with fail
        go_round
        case rel => exact ⟨k + 1, by omega, by go_num, HY⟩
        case measure => simp [intOf]; omega
      · have HY := Lib.hid (HX.out (by omega))
        clear HX
        subst h1
        go_wp2_with fail
        go_round
        case rel => exact ⟨k + 1, by omega, by go_num, HY⟩
        case measure => simp [intOf]; omega
      · have e1 : (c != 58) = true := by rw [bne_iff_ne]; omega
        have e2 : (c != 47) = true := by rw [bne_iff_ne]; omega
        have e3 : (c != 46) = true := by rw [bne_iff_ne]; omega
        have e4 : (c != 45) = true := by rw [bne_iff_ne]; omega
        have hA : c < 97 ∨ (¬ c < 97 ∧ 122 < c) := by omega
        have hB : c < 48 ∨ (¬ c < 48 ∧ 57 < c) := by omega
        clear HX h1
        rcases hA with a1 | ⟨a0, a1⟩ <;> rcases hB with b1 | ⟨b0, b1⟩
        · have g0 : decide (c < 97) = true := decide_eq_true a1
          have g1 : decide (c < 48) = true := decide_eq_true b1
          go_wp2_with fail
          go_ret
          exact ⟨false, rfl, rfl, fun h => by cases h⟩
        · have g0 : decide (c < 97) = true := decide_eq_true a1
          have g1 : decide (c < 48) = false := decide_eq_false b0
          have g2 : decide ((57 : Int) < c) = true := decide_eq_true b1
          go_wp2_with fail
          go_ret
          exact ⟨false, rfl, rfl, fun h => by cases h⟩
        · omega
        · have g0 : decide (c < 97) = false := decide_eq_false a0
          have g3 : decide ((122 : Int) < c) = true := decide_eq_true a1
          have g1 : decide (c < 48) = false := decide_eq_false b0
          have g2 : decide ((57 : Int) < c) = true := decide_eq_true b1
          go_wp2_with fail
          go_ret
          exact ⟨false, rfl, rfl, fun h => by cases h⟩
    · have HO2 := Lib.hid (fun j (h : j < s.size) => HO.out j h (by omega))
      clear HO
      go_wp2_with fail
      go_ret
      exact ⟨_, rfl, rfl, fun h => ⟨size_le2 h, HO2.out⟩⟩
theorem keep_any (r : Int) (w : World) (h1 : 32 ≤ r) (h2 : r ≤ 126) : Calls Tryd.prog 37 #[.int .i32 r] w fun e w' => e = .returned (.int .i32 r) ∧ w = w' := by
  have e1 : (r == 127) = false := by rw [beq_eq_false_iff_ne]; omega
  have e2 : decide (r < 32) = false := decide_eq_false (by omega)
  go_enter Tryd.func37, Tryd.ntmps37
  go_wp2
  go_ret
  exact ⟨rfl, rfl⟩
theorem cap_none (b : Nat) (w : World) (h : w.heap[b]? = some (.cells #[.pointer none, .slice none 0 0] 47 (0, 0))) : Calls Tryd.prog 50 #[.pointer (some ⟨b, 0, none⟩)] w fun e w' => e = .returned (.int .i64 0) ∧ w = w' := by
  have c1 : w.cell? ⟨b, 1, none⟩ = some (.slice none 0 0) := cell_of_row w b 1 _ _ _ h
  clear h
  go_enter Tryd.func50, Tryd.ntmps50
  go_wp2
  go_ret
  exact ⟨rfl, rfl⟩
set_option maxHeartbeats 4000000 in
set_option maxRecDepth 100000 in
theorem map_same (s : ByteArray) (w : World) (h : UText s) : Calls Tryd.prog 36 #[.func (.func 37) #[] #[], .string s] w fun e w' => e = .returned (.string s) ∧ Below w.heap.size w w' := by
  obtain ⟨hs, ho⟩ := h
  have HO := Lib.hid ho
  clear ho
  go_enter Tryd.func36, Tryd.ntmps36
  go_wp2_with fail
  go_loopw [1] (fun sv wr => sv = .string s ∧ ∃ pos : Nat, pos ≤ s.size ∧ wr.heap[w.heap.size + 1]? = some (.stringIter s pos) ∧ Hid (wr.heap[w.heap.size]? = some (.cells #[.pointer none, .slice none 0 0] 47 (0, 0))) ∧ Hid (Below w.heap.size w wr)) (fun _ wr => s.size - wr.iterPos (w.heap.size + 1))
  case atStart => exact ⟨rfl, 0, Nat.zero_le _, itNew (by simp), Lib.hid (itOld (heap_alloc_new w _)), Lib.hid (((Below.refl _ _).alloc (Nat.le_refl _) _).alloc (by simp) _)⟩
  case round =>
    obtain ⟨rfl, pos, hp, hit, HC, HB⟩ := hrel
    obtain ⟨wo, rfl⟩ : ∃ wo : World, wo = wr := ⟨_, rfl⟩
    by_cases hlt : pos < s.size
    · have hu := HO.out pos hlt
      have hnx : ∀ ty, (Instr.next (.pointer (some ⟨w.heap.size + 1, 0, none⟩)) true ty).run Tryd.prog wo = _ := fun ty => Lib.run_next_ascii_at wo (w.heap.size + 1) s pos ty hit hlt (by unfold uok at hu; omega)
      have hit2 := Lib.iterAt_heap wo (w.heap.size + 1) s pos (pos + 1) hit
      have hpos := itPos hit
      have hpos2 := itPos hit2
      have HB2 := Lib.hid (Lib.below_iterAt HB.out (show w.heap.size ≤ w.heap.size + 1 by omega) s (pos + 1))
      have HC2 := Lib.hid ((Lib.iterAt_other wo (w.heap.size + 1) w.heap.size s (pos + 1) (by omega)).trans HC.out)
      have HS := Lib.hid (fun W => keep_any ((s[pos]'hlt).toNat : Int) W (by unfold uok at hu; omega) (by unfold uok at hu; omega))
      have hx : (((s[pos]'hlt).toNat : Int) != 65533) = true := by rw [bne_iff_ne]; unfold uok at hu; omega
      generalize hW : wo.iterAt (w.heap.size + 1) s (pos + 1) = W at *
      generalize ((s[pos]'hlt).toNat : Int) = z at *
      clear hit HB hW hu HC
      go_wp2_with (go_at_call 37; refine (HS.out _).mono ?_; rintro e w' ⟨rfl, rfl⟩)
      go_roundw
      case rel => exact ⟨rfl, pos + 1, by omega, hit2, HC2, HB2⟩
      case measure => rw [hpos2, hpos]; omega
    · have hnx : ∀ ty, (Instr.next (.pointer (some ⟨w.heap.size + 1, 0, none⟩)) true ty).run Tryd.prog wo = _ := fun ty => Lib.run_next_end_at wo (w.heap.size + 1) s pos ty hit hlt
      have HP := Lib.hid (cap_none w.heap.size wo HC.out)
      clear hit HC
      go_wp2_with (go_at_call 50; refine HP.out.mono ?_; rintro e w' ⟨rfl, rfl⟩)
      go_ret
      exact ⟨rfl, HB.out⟩
end Go.Proofs.YtkelpenackfhiaaDoor
