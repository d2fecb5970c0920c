/- A code read: Atoi at texts of one to three digits. -/
import Derived.Test.YtimdmdjkkgdohaaGreatDoorPpB
import Derived.Test.YtimdmdjkkgdohaaGreatDoorBRow
namespace Go.Proofs.YtimdmdjkkgdohaaGreatDoor
open Go.RowKit
set_option linter.unusedVariables false
def dv (l : List UInt8) : Nat := l.foldl (fun a c => a * 10 + (c.toNat - 48)) 0
theorem dv_step (l : List UInt8) (k : Nat) (h : k < l.length) : dv (l.take (k + 1)) = dv (l.take k) * 10 + (l[k].toNat - 48) := by
  unfold dv
  rw [List.take_succ_eq_append_getElem h, List.foldl_append]
  rfl
theorem dv_itoa (n : Nat) (h : n ≤ 107) : dv (Lib.itoa (n : Int)) = n := by
  have key : ∀ n : Fin 108, dv (Lib.itoa ((n.val : Nat) : Int)) = n.val := by decide +kernel
  exact key ⟨n, by omega⟩
def Digs (l : List UInt8) : Prop := (∀ c ∈ l, 48 ≤ c.toNat ∧ c.toNat ≤ 57) ∧ 1 ≤ l.length ∧ l.length ≤ 3
theorem ixL (l : List UInt8) (p : Nat) (hp : p < l.length) (W : World) : (Instr.index 9 (.string ⟨l.toArray⟩) (.int .i64 (p : Int))).run Tryz.prog W = .ok (.int .u8 ((l[p]'hp).toNat : Int)) W := by
  rw [run_index_string W 9 ⟨l.toArray⟩ .i64 (p : Int) Tryz.underlying9, dif_pos ⟨by omega, by rw [mk_size]; omega⟩]; rfl
theorem emp_l {l : List UInt8} (h : l.length ≠ 0) : l.isEmpty = false := by
  rw [List.isEmpty_eq_false_iff]
  intro e
  exact h (by rw [e]; rfl)
theorem lt_pow3 {z k : Nat} (h : z + 1 ≤ 10 ^ k) (hk : k ≤ 2) : z ≤ 99 := by
  have : 10 ^ k ≤ 10 ^ 2 := Nat.pow_le_pow_right (by decide) hk
  omega
def UintX (l : List UInt8) (w : World) (e : Ending) (w' : World) : Prop := ∃ z : Int, z = dv l ∧ (0 ≤ z ∧ z ≤ 999) ∧ e = .returned (.tuple #[.int .u64 z, .nilIface]) ∧ Below w.heap.size w w'
set_option maxHeartbeats 1000000 in
set_option maxRecDepth 100000 in
theorem uintX (l : List UInt8) (w : World) (hd : Digs l) : Calls Tryz.prog 90 #[.string ⟨l.toArray⟩, .int .i64 10, .int .i64 0] w (UintX l w) := by
  obtain ⟨hd, hl1, hl3⟩ := hd
  have he := emp_l (show l.length ≠ 0 by omega)
  have hcv := Lib.run_convert_string_bytes (P := Tryz.prog) w 9 44 5 ⟨l.toArray⟩ Tryz.underlying9 Tryz.underlying44 Tryz.underlying5
  have hm := BRow.made w ⟨l.toArray⟩
  have hb0 := Go.Joins.below_bytesWorld w.heap.size w 5 ⟨l.toArray⟩ (Nat.le_refl _)
  rw [mk_size] at hcv hm
  have HM := Lib.hid (show BRow (Lib.bytesWorld w 5 ⟨l.toArray⟩) w.heap.size l.length l from hm)
  have HB0 := Lib.hid hb0
  have HD := Lib.hid hd
  clear hm hb0 hd
  generalize Lib.bytesWorld w 5 ⟨l.toArray⟩ = w1 at *
  generalize grownCap w l.length 0 5 = cap at *
  obtain ⟨n, hn⟩ : ∃ n, l.length = n := ⟨_, rfl⟩
  rw [hn] at hcv hl1 hl3
  have HN := Lib.hid hn
  clear hn
  go_enter Tryz.func90, Tryz.ntmps90
  go_wp2_with fail
  rw [show IntKind.u64.wrap (IntKind.u64.wrap 18446744073709551616 - 1) = 18446744073709551615 by decide +kernel]
  go_loopw [11, 12, 88] (fun nv uv iv wr => ∃ (k z : Nat), nv = .int .u64 (z : Int) ∧ uv = .bool false ∧ iv = .int .i64 (k : Int) ∧ k ≤ n ∧ z ≤ 999 ∧ Hid (z = dv (l.take k)) ∧ Hid (z + 1 ≤ 10 ^ k) ∧ Hid (wr = w1)) (fun _ _ iv _ => n - (intOf iv).toNat)
  case atStart => exact ⟨0, 0, rfl, rfl, rfl, by omega, by omega, Lib.hid rfl, Lib.hid (by decide), Lib.hid rfl⟩
  case round =>
    obtain ⟨k, z, rfl, rfl, rfl, hk, hz, HZ, HP, HW⟩ := hrel
    obtain rfl := HW.out.symm
    by_cases hlt : k < n
    · have hkl : k < l.length := by rw [HN.out]; exact hlt
      have hc := HM.out.cell k hkl
      obtain ⟨d1, d2⟩ := HD.out l[k] (List.getElem_mem hkl)
      have hz9 := lt_pow3 HP.out (by omega)
      have HZ2 := Lib.hid (show z * 10 + (l[k].toNat - 48) = dv (l.take (k + 1)) by rw [dv_step l k hkl, HZ.out])
      have HP2 := Lib.hid (show z * 10 + (l[k].toNat - 48) + 1 ≤ 10 ^ (k + 1) by have := HP.out; rw [Nat.pow_succ]; omega)
      generalize l[k].toNat = c at *
      have q1 : ((c : Int) == 95) = false := by rw [beq_eq_false_iff_ne]; omega
      have q2 : ¬ (z : Int) > (18446744073709551615 - ((c : Int) - 48)) / 10 := by omega
      go_wp2_with fail
      go_roundw
      case rel => exact ⟨k + 1, z * 10 + (c - 48), by go_num, rfl, by go_num, by omega, by omega, HZ2, HP2, Lib.hid trivial⟩
      case measure => simp [intOf]; omega
    · have HK := Lib.hid (show k = n by omega)
      go_wp2
      go_ret2
      refine ⟨z, ?_, by omega, rfl, HB0.out⟩
      have := HZ.out
      rw [HK.out, ← HN.out, List.take_length] at this
      rw [this]
def IntX (l : List UInt8) (w : World) (e : Ending) (w' : World) : Prop := ∃ z : Int, z = dv l ∧ (0 ≤ z ∧ z ≤ 999) ∧ e = .returned (.tuple #[.int .i64 z, .nilIface]) ∧ Below w.heap.size w w'
set_option maxHeartbeats 1000000 in
set_option maxRecDepth 100000 in
theorem intX (l : List UInt8) (w : World) (hd : Digs l) : Calls Tryz.prog 67 #[.string ⟨l.toArray⟩, .int .i64 10, .int .i64 0] w (IntX l w) := by
  have hT := uintX l w hd
  have he := emp_l (show l.length ≠ 0 by have := hd.2.1; omega)
  have h0 : 0 < l.length := hd.2.1
  have i1 : ∀ W, (Instr.index 9 (.string ⟨l.toArray⟩) (.int .i64 0)).run Tryz.prog W = .ok (.int .u8 ((l[0]'h0).toNat : Int)) W := ixL l 0 h0
  obtain ⟨d1, d2⟩ := hd.1 l[0] (List.getElem_mem h0)
  have q1 : (((l[0]'h0).toNat : Int) == 45) = false := by rw [beq_eq_false_iff_ne]; omega
  have q2 : (((l[0]'h0).toNat : Int) == 43) = false := by rw [beq_eq_false_iff_ne]; omega
  generalize (l[0]'h0).toNat = c at *
  clear hd h0
  go_enter Tryz.func67, Tryz.ntmps67
  go_wp2_with (go_at_call 90; refine halt_H ?_)
  refine resume_H ?_
  refine hT.mono ?_
  rintro e w1 ⟨z, hz, ⟨hz0, hz9⟩, rfl, hb⟩
  have HZ := Lib.hid hz
  have HB := Lib.hid hb
  clear hT hz hb
  go_wp2_with fail
  go_ret2
  exact ⟨z, HZ.out, ⟨hz0, hz9⟩, rfl, HB.out⟩
set_option maxHeartbeats 1000000 in
set_option maxRecDepth 100000 in
theorem atoiX (l : List UInt8) (w : World) (hd : Digs l) : Calls Tryz.prog 53 #[.string ⟨l.toArray⟩] w (IntX l w) := by
  have hT := intX l w hd
  clear hd
  go_enter Tryz.func53, Tryz.ntmps53
  go_wp2_with (go_at_call 67; refine halt_H ?_)
  refine resume_H ?_
  refine hT.mono ?_
  rintro e w1 ⟨z, hz, ⟨hz0, hz9⟩, rfl, hb⟩
  have HZ := Lib.hid hz
  have HB := Lib.hid hb
  clear hT hz hb
  go_wp2_with fail
  go_ret2
  exact ⟨z, HZ.out, ⟨hz0, hz9⟩, rfl, HB.out⟩
theorem digs_itoa {c : Int} {n : Nat} (h : cdB n c) : Digs (Lib.itoa c) ∧ (dv (Lib.itoa c) : Int) = c := by
  obtain ⟨m, rfl, hm⟩ := cdB_nat h
  exact ⟨itoa_dgs m hm, by rw [dv_itoa m hm]⟩
/-- A code of a good sequence is read as it was written. -/
theorem atoi_code (c : Int) (n : Nat) (w : World) (h : cdB n c) : Calls Tryz.prog 53 #[strV (Lib.itoa c)] w fun e w' => e = .returned (.tuple #[.int .i64 c, .nilIface]) ∧ Below w.heap.size w w' := by
  obtain ⟨h1, h2⟩ := digs_itoa h
  refine (atoiX _ w h1).mono ?_
  rintro e w' ⟨z, hz, _, rfl, hb⟩
  exact ⟨by rw [hz, h2], hb⟩
end Go.Proofs.YtimdmdjkkgdohaaGreatDoor
