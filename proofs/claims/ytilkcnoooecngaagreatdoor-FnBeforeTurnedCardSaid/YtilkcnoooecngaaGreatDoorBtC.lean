/- Small functions of lightstrconv, told: formOf, float, lower, fail, NaN, fold. Texts of at most 1000 bytes. -/
import Derived.Test.YtilkcnoooecngaaGreatDoorBtB2
import Derived.Test.YtilkcnoooecngaaGreatDoorNuP
import Derived.Deep.DeepCutAuto
namespace Go.Proofs.YtilkcnoooecngaaGreatDoor
open Go.RowKit
set_option linter.unusedVariables false
theorem ixB (s : ByteArray) (p : Nat) (hp : p < s.size) (W : World) : (Instr.index 9 (.string s) (.int .i64 (p : Int))).run Tryz.prog W = .ok (.int .u8 (bt s p : Nat)) W := by
  rw [run_index_string W 9 s .i64 (p : Int) Tryz.underlying9, dif_pos ⟨by omega, by omega⟩, ← bt_eq s p hp]; rfl
theorem ixB0 (s : ByteArray) (hp : 0 < s.size) (W : World) : (Instr.index 9 (.string s) (.int .i64 0)).run Tryz.prog W = .ok (.int .u8 (bt s 0 : Nat)) W := ixB s 0 hp W
theorem frombits (n : Int) (w : World) : (callFunc 64 #[.int .u64 n]).run Tryz.prog w = .ok (.value (.float .f64 n.toNat)) w := by
  rw [run_callFunc_extern Tryz.func64 (by kernel_rfl) (by kernel_rfl) (by kernel_rfl) (e := Extern.MathFloatBits.float64frombits) (by kernel_rfl)]
  rfl
set_option maxHeartbeats 1000000 in
theorem lower_any (c : Int) (w : World) : Calls Tryz.prog 65 #[.int .u8 c] w fun e w' => e = .returned (.int .u8 (bits .or .u8 c 32)) ∧ w' = w := by
  go_enter Tryz.func65, Tryz.ntmps65
  go_wp2
  go_ret
  exact ⟨rfl, rfl⟩
set_option maxHeartbeats 1000000 in
theorem formOf_any (w : World) : Calls Tryz.prog 37 #[.int .i64 64] w fun e w' => e = .returned (.agg fmC) ∧ Below w.heap.size w w' := by
  go_enter Tryz.func37, Tryz.ntmps37
  go_wp2
  refine bodyPost_ret (v := .agg fmC) ?_ rfl ⟨rfl, (Below.refl _ w).alloc (Nat.le_refl _) _⟩
  exact results_cell_row rfl _ _ _ tF _ (0, 0) _ rfl (Blk.new w tF fmC) Tryz.underlying71 rfl (by kernel_rfl)
set_option maxHeartbeats 1000000 in
theorem float_any (n : Int) (w : World) : Calls Tryz.prog 38 #[.agg fmC, .int .u64 n] w fun e w' => e = .returned (.float .f64 n.toNat) ∧ Below w.heap.size w w' := by
  have hfb := fun W => frombits n W
  unfold fmC
  go_enter Tryz.func38, Tryz.ntmps38
  go_wp2
  go_ret
  exact ⟨rfl, (Below.refl _ w).alloc (Nat.le_refl _) _⟩
set_option maxHeartbeats 1000000 in
theorem fail_any (a s d : ByteArray) (w : World) : Calls Tryz.prog 41 #[.string a, .string s, .string d] w fun e w' => (∃ g, e = .returned (.iface 118 (.pointer (some ⟨g, 0, none⟩)))) ∧ Below w.heap.size w w' := by
  go_enter Tryz.func41, Tryz.ntmps41
  go_wp2
  go_ret
  exact ⟨⟨_, rfl⟩, (Below.refl _ w).alloc (Nat.le_refl _) _⟩
set_option maxHeartbeats 1000000 in
theorem nan_any (w : World) : Calls Tryz.prog 36 #[] w fun e w' => e = .returned (.float .f64 9221120237041090561) ∧ w' = w := by
  have hfb := fun W => frombits 9221120237041090561 W
  go_enter Tryz.func36, Tryz.ntmps36
  go_wp2
  go_ret
  exact ⟨rfl, rfl⟩
def lowc (c : Nat) : Nat := if 65 ≤ c ∧ c ≤ 90 then c + 32 else c
def FoldR (s t : ByteArray) (b : Bool) : Prop := b = true ↔ s.size = t.size ∧ ∀ q, q < s.size → lowc (bt s q) = bt t q
def FoldRet (s t : ByteArray) (w : World) (e : Ending) (w' : World) : Prop := (∃ b, FoldR s t b ∧ e = .returned (.bool b)) ∧ w' = w
theorem FoldR.uniq {s t : ByteArray} {b b' : Bool} (h : FoldR s t b) (h' : FoldR s t b') : b = b' := by
  have := h.trans h'.symm
  cases b <;> cases b' <;> simp_all
set_option maxHeartbeats 1000000 in
theorem fold_any (s t : ByteArray) (w : World) (hs : s.size ≤ 1000) :
    Calls Tryz.prog 34 #[.string s, .string t] w (FoldRet s t w) := by
  by_cases hst : s.size = t.size
  · have e0 : ((s.size : Int) != (t.size : Int)) = false := by rw [hst]; simp
    have HST := Lib.hid hst
    clear hst
    go_enter Tryz.func34, Tryz.ntmps34
    go_wp2_with fail
    go_loopw [5] (fun iv wr => ∃ k : Nat, iv = .int .i64 (k : Int) ∧ k ≤ s.size ∧ Hid (wr = w) ∧ Hid (∀ q, q < k → lowc (bt s q) = bt t q)) (fun iv _ => s.size - (intOf iv).toNat)
    case atStart => exact ⟨0, rfl, Nat.zero_le _, Lib.hid rfl, Lib.hid (fun q hq => absurd hq (by omega))⟩
    case round =>
      obtain ⟨k, rfl, hk, HW, HQ⟩ := hrel
      obtain rfl := HW.out.symm
      by_cases hlt : k < s.size
      · have i1 := ixB s k hlt
        have i2 := ixB t k (by rw [← HST.out]; exact hlt)
        have hc := bt_lt s k
        have hx := bt_lt t k
        have HL := Lib.hid (show ∀ y, lowc (bt s k) = y → y = bt t k → ∀ q, q < k + 1 → lowc (bt s q) = bt t q from fun y h1 h2 q hq => by
          by_cases h : q = k
          · subst h; rw [h1, h2]
          · exact HQ.out q (by omega))
        have HN := Lib.hid (show ∀ y, lowc (bt s k) = y → y ≠ bt t k → FoldR s t false from fun y h1 h2 => ⟨(fun h => by cases h), fun h => absurd (h1.symm.trans (h.2 k hlt)) h2⟩)
        have HLo := Lib.hid (show ∀ y, y = lowc (bt s k) → lowc (bt s k) = y from fun y h => h.symm)
        unfold lowc at HLo
        generalize bt s k = c at *
        generalize bt t k = x at *
        by_cases hA : 65 ≤ c ∧ c ≤ 90
        · obtain ⟨hA1, hA2⟩ := hA
          have HY := Lib.hid (HLo.out (c + 32) (by rw [if_pos ⟨hA1, hA2⟩]))
          clear HLo
          by_cases he : c + 32 = x
          · have e1 : (((c : Int) + 32) != (x : Int)) = false := by rw [← he]; simp
            have HR := Lib.hid (HL.out _ HY.out he)
            clear he
            go_wp2_with fail
            go_roundw
            case rel => exact ⟨k + 1, by go_num, by omega, Lib.hid trivial, HR⟩
            case measure => simp [intOf]; omega
          · have e1 : (((c : Int) + 32) != (x : Int)) = true := by rw [bne_iff_ne]; omega
            have HR := Lib.hid (HN.out _ HY.out he)
            clear he
            go_wp2
            go_ret
            exact ⟨⟨_, HR.out, rfl⟩, rfl⟩
        · have HY := Lib.hid (HLo.out c (by rw [if_neg hA]))
          clear HLo
          by_cases he : c = x
          · have e1 : ((c : Int) != (x : Int)) = false := by rw [← he]; simp
            have HR := Lib.hid (HL.out _ HY.out he)
            clear he
            by_cases hA1 : 65 ≤ c
            · have hA2 : ¬ c ≤ 90 := fun h => hA ⟨hA1, h⟩
              clear hA
              go_wp2_with fail
              go_roundw
              case rel => exact ⟨k + 1, by go_num, by omega, Lib.hid trivial, HR⟩
              case measure => simp [intOf]; omega
            · clear hA
              go_wp2_with fail
              go_roundw
              case rel => exact ⟨k + 1, by go_num, by omega, Lib.hid trivial, HR⟩
              case measure => simp [intOf]; omega
          · have e1 : ((c : Int) != (x : Int)) = true := by rw [bne_iff_ne]; omega
            have HR := Lib.hid (HN.out _ HY.out he)
            clear he
            by_cases hA1 : 65 ≤ c
            · have hA2 : ¬ c ≤ 90 := fun h => hA ⟨hA1, h⟩
              clear hA
              go_wp2
              go_ret
              exact ⟨⟨_, HR.out, rfl⟩, rfl⟩
            · clear hA
              go_wp2
              go_ret
              exact ⟨⟨_, HR.out, rfl⟩, rfl⟩
      · have HR := Lib.hid (show FoldR s t true from ⟨fun _ => ⟨HST.out, fun q hq => HQ.out q (by omega)⟩, fun _ => rfl⟩)
        have hke : k = s.size := by omega
        clear hke HQ
        go_wp2
        go_ret
        exact ⟨⟨_, HR.out, rfl⟩, rfl⟩
  · have e0 : ((s.size : Int) != (t.size : Int)) = true := by rw [bne_iff_ne]; omega
    have HR := Lib.hid (show FoldR s t false from ⟨(fun h => by cases h), fun h => absurd h.1 hst⟩)
    clear hst
    go_enter Tryz.func34, Tryz.ntmps34
    go_wp2
    go_ret
    exact ⟨⟨_, HR.out, rfl⟩, rfl⟩
end Go.Proofs.YtilkcnoooecngaaGreatDoor
