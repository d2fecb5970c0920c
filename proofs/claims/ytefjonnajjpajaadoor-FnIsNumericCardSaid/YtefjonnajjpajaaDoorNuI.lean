/- Whole numbers read: parseUint, parseInt, Atoi. Texts of at most 1000 letters of the law. -/
import Derived.Test.YtefjonnajjpajaaDoorNuC
import Derived.Test.YtefjonnajjpajaaDoorNuRp
import Derived.Test.YtefjonnajjpajaaDoorNuA
import Derived.Test.YtefjonnajjpajaaDoorBRow
namespace Go.Proofs.YtefjonnajjpajaaDoor
open Go.RowKit
set_option linter.unusedVariables false
theorem emp_t {s : ByteArray} (h : s.size = 0) : s.toList.isEmpty = true := by
  rw [List.isEmpty_iff, Lib.toList_data]
  exact List.eq_nil_of_length_eq_zero (by rw [← Lib.size_eq]; exact h)
theorem emp_f {s : ByteArray} (h : s.size ≠ 0) : s.toList.isEmpty = false := by
  rw [List.isEmpty_eq_false_iff]
  intro e
  rw [Lib.toList_data] at e
  exact h (by rw [Lib.size_eq, e]; rfl)
abbrev tErr : TypeId := 54
def sSyn : ByteArray := ⟨#[105, 110, 118, 97, 108, 105, 100, 32, 115, 121, 110, 116, 97, 120]⟩
def sRng : ByteArray := ⟨#[118, 97, 108, 117, 101, 32, 111, 117, 116, 32, 111, 102, 32, 114, 97, 110, 103, 101]⟩
def UintRet (t : ByteArray) (w : World) (e : Ending) (w' : World) : Prop :=
  ∃ (n : Int) (x : Value), e = .returned (.tuple #[.int .u64 n, x]) ∧ 0 ≤ n ∧ n ≤ 18446744073709551615 ∧
    (x = .nilIface ∧ 0 < t.size ∧ (∀ p, p < t.size → isD (bt t p)) ∨ x = .iface tErr (.string sSyn) ∨ x = .iface tErr (.string sRng) ∧ n = 18446744073709551615) ∧ Below w.heap.size w w'
theorem lower_val (c r : Int) (h : bits .or .u8 c 32 = r) (w : World) : Calls Tryd.prog 29 #[.int .u8 c] w fun e w' => e = .returned (.int .u8 r) ∧ w' = w := by
  subst h; exact lower_any c w
set_option maxHeartbeats 1000000 in
set_option maxRecDepth 100000 in
theorem parseUint_any (s : ByteArray) (w : World) (hs : s.size ≤ 1000) (hL : ∀ p, p < s.size → Ltr (bt s p)) :
    Calls Tryd.prog 27 #[.string s, .int .i64 10, .int .i64 0] w (UintRet s w) := by
  by_cases h0 : s.size = 0
  · have he := emp_t h0
    clear h0 hL
    go_enter Tryd.func27, Tryd.ntmps27
    go_wp2
    go_ret2
    exact ⟨0, _, rfl, by omega, by omega, .inr (.inl rfl), Below.refl _ _⟩
  · have he := emp_f h0
    have hcv := Lib.run_convert_string_bytes (P := Tryd.prog) w 9 31 5 s Tryd.underlying9 Tryd.underlying31 Tryd.underlying5
    have hm := BRow.made w s
    have hb0 := Go.Joins.below_bytesWorld w.heap.size w 5 s (Nat.le_refl _)
    generalize Lib.bytesWorld w 5 s = w1 at *
    generalize grownCap w s.size 0 5 = cap at *
    have HM := Lib.hid hm
    have HB0 := Lib.hid hb0
    have HL := Lib.hid hL
    have H0 := Lib.hid h0
    clear hm hb0 hL h0
    have hlr := (Lib.size_eq s).symm
    obtain ⟨n, hn⟩ : ∃ n, s.size = n := ⟨_, rfl⟩
    rw [hn] at hcv hs
    have HN := Lib.hid hn
    have HLR := Lib.hid hlr
    clear hn hlr
    go_enter Tryd.func27, Tryd.ntmps27
    go_wp2_with fail
    rw [show IntKind.u64.wrap (IntKind.u64.wrap 18446744073709551616 - 1) = 18446744073709551615 by decide +kernel]
    go_loopw [11, 12, 88] (fun nv uv iv wr => ∃ (k : Nat) (z : Int), nv = .int .u64 z ∧ uv = .bool false ∧ iv = .int .i64 (k : Int) ∧ k ≤ n ∧ 0 ≤ z ∧ z ≤ 18446744073709551615 ∧ Hid (∀ p, p < k → isD (bt s p)) ∧ Hid (wr = w1)) (fun _ _ iv _ => n - (intOf iv).toNat)
    case atStart => exact ⟨0, 0, rfl, rfl, rfl, by omega, by omega, by omega, Lib.hid (fun p h => absurd h (by omega)), Lib.hid rfl⟩
    case round =>
      obtain ⟨k, z, rfl, rfl, rfl, hk, hz1, hz2, HQ, HW⟩ := hrel
      obtain rfl := HW.out.symm
      by_cases hlt : k < n
      · have hkl : k < s.data.toList.length := by rw [HLR.out, HN.out]; exact hlt
        have hc : w1.cell? ⟨w.heap.size, k, none⟩ = some (.int .u8 (bt s k : Nat)) := by
          rw [HM.out.cell k hkl]
          unfold bt
          rw [List.getD_eq_getElem?_getD, List.getElem?_eq_getElem hkl]
          rfl
        have hl := HL.out k (by rw [HN.out]; exact hlt)
        by_cases hd : isD (bt s k)
        · have HQ2 := Lib.hid (show ∀ p, p < k + 1 → isD (bt s p) from fun p hp => by
            by_cases e : p = k
            · subst e; exact hd
            · exact HQ.out p (by omega))
          obtain ⟨d1, d2⟩ := hd
          clear hl
          generalize bt s k = c at d1 d2 hc
          have q1 : ((c : Int) == 95) = false := by rw [beq_eq_false_iff_ne]; omega
          by_cases hov : z > (18446744073709551615 - ((c : Int) - 48)) / 10
          · go_wp2_with fail
            go_ret2
            exact ⟨18446744073709551615, _, rfl, by omega, by omega, .inr (.inr ⟨rfl, rfl⟩), HB0.out⟩
          · have hz3 : z * 10 + ((c : Int) - 48) ≤ 18446744073709551615 := by omega
            go_wp2_with fail
            go_roundw
            case rel => exact ⟨k + 1, z * 10 + ((c : Int) - 48), by first | rfl | go_num, rfl, by go_num, by omega, by omega, hz3, HQ2, Lib.hid trivial⟩
            case measure => simp [intOf]; omega
        · have hcs : bt s k = 43 ∨ bt s k = 45 ∨ bt s k = 46 ∨ bt s k = 69 ∨ bt s k = 101 := by
            rcases hl with h | h
            · exact absurd h hd
            · exact h
          clear hl hd
          have hlow : ∃ r : Int, bits .or .u8 ((bt s k : Nat) : Int) 32 = r ∧ (r < 97 ∧ (bt s k : Nat) < 48 ∨ r = 101 ∧ 57 < bt s k) := by
            rcases hcs with h | h | h | h | h <;> rw [h]
            · exact ⟨43, by decide +kernel, by omega⟩
            · exact ⟨45, by decide +kernel, by omega⟩
            · exact ⟨46, by decide +kernel, by omega⟩
            · exact ⟨101, by decide +kernel, by omega⟩
            · exact ⟨101, by decide +kernel, by omega⟩
          have q1 : (((bt s k : Nat) : Int) == 95) = false := by rw [beq_eq_false_iff_ne]; omega
          clear hcs
          obtain ⟨r, hr, hr2⟩ := hlow
          have hT := lower_val _ r hr w1
          generalize bt s k = c at *
          clear hr
          rcases hr2 with ⟨r1, c1⟩ | ⟨rfl, c1⟩
          · go_wp2_with (go_at_call 29; refine halt_H ?_)
            refine resume_H ?_
            refine hT.mono ?_
            rintro e w2 ⟨rfl, rfl⟩
            clear hT
            go_wp2
            go_ret2
            exact ⟨0, _, rfl, by omega, by omega, .inr (.inl rfl), HB0.out⟩
          · go_wp2_with (go_at_call 29; refine halt_H ?_)
            refine resume_H ?_
            refine hT.mono ?_
            rintro e w2 ⟨rfl, rfl⟩
            go_wp2_with (go_at_call 29; refine halt_H ?_)
            refine resume_H ?_
            refine hT.mono ?_
            rintro e w2 ⟨rfl, rfl⟩
            go_wp2_with (go_at_call 29; refine halt_H ?_)
            refine resume_H ?_
            refine hT.mono ?_
            rintro e w2 ⟨rfl, rfl⟩
            clear hT
            go_wp2
            go_ret2
            exact ⟨0, _, rfl, by omega, by omega, .inr (.inl rfl), HB0.out⟩
      · have HK := Lib.hid (show k = n by omega)
        go_wp2
        go_ret2
        exact ⟨z, _, rfl, hz1, hz2, .inl ⟨rfl, Nat.pos_of_ne_zero H0.out, fun p hp => HQ.out p (by rw [HK.out, ← HN.out]; exact hp)⟩, HB0.out⟩
end Go.Proofs.YtefjonnajjpajaaDoor
