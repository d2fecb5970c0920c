/- Reading a list back: LsBegins, LsNames, LsName, TxTight, LsSame. No conditions. -/
import Derived.Test.YthdkbokdikhojaaGreatDoorLsA
import Derived.Test.YthdkbokdikhojaaGreatDoorTxt
import Derived.Handy
import Derived.Lib.IndexBytes
import Derived.BigQuiet
import Derived.WalkSpells
import Derived.WalkLawsBesides
namespace Go.Proofs.YthdkbokdikhojaaGreatDoor
open Go.RowKit
set_option linter.unusedVariables false
theorem mkL (s : ByteArray) (k : Nat) : s.extract k s.size = ⟨(s.data.toList.drop k).toArray⟩ := WideShapes.bytes_inj (by
  rw [Lib.extract_to_end])
def BegRet (s : List UInt8) (b : Bool) (w : World) (e : Ending) (w' : World) : Prop := e = .returned (.tuple #[.string ⟨s.toArray⟩, .bool b]) ∧ w = w'
theorem ret_tup {a b : ByteArray} {x : Bool} (h : a = b) : Ending.returned (.tuple #[.string a, .bool x]) = .returned (.tuple #[.string b, .bool x]) := by rw [h]
theorem mk_of (s : ByteArray) : s = ⟨s.data.toList.toArray⟩ := WideShapes.bytes_inj (by simp)
set_option maxHeartbeats 1000000 in
set_option maxRecDepth 100000 in
theorem begins_yes (s h : ByteArray) (hp : h.data.toList.isPrefixOf s.data.toList = true) (w : World) (hs : s.size ≤ 1000000000) :
    Calls Tryz.prog 29 #[.string s, .string h] w (BegRet (s.data.toList.drop h.size) true w) := by
  have hq := take_beq s h 0
  rw [Nat.zero_add, List.drop_zero, hp] at hq
  have hle : h.size ≤ s.size := by
    have := List.IsPrefix.length_le (List.isPrefixOf_iff_prefix.1 hp)
    rw [Lib.size_eq, Lib.size_eq]; exact this
  have hd : decide ((s.size : Int) < (h.size : Int)) = false := decide_eq_false (by omega)
  clear hp
  go_enter Tryz.func29, Tryz.ntmps29
  go_wp2_with fail
  go_ret2
  exact ⟨ret_tup (mkL s h.size), rfl⟩
set_option maxHeartbeats 1000000 in
set_option maxRecDepth 100000 in
theorem begins_no (s h : ByteArray) (hp : h.data.toList.isPrefixOf s.data.toList = false) (w : World) (hs : s.size ≤ 1000000000) (hh : h.size ≤ 1000000000) :
    Calls Tryz.prog 29 #[.string s, .string h] w (BegRet s.data.toList false w) := by
  by_cases hlt : s.size < h.size
  · have hd : decide ((s.size : Int) < (h.size : Int)) = true := decide_eq_true (by omega)
    clear hp
    go_enter Tryz.func29, Tryz.ntmps29
    go_wp2_with fail
    go_ret2
    exact ⟨ret_tup (mk_of s), rfl⟩
  · have hq := take_beq s h 0
    rw [Nat.zero_add, List.drop_zero, hp] at hq
    have hd : decide ((s.size : Int) < (h.size : Int)) = false := decide_eq_false (by omega)
    clear hp
    go_enter Tryz.func29, Tryz.ntmps29
    go_wp2_with fail
    go_ret2
    exact ⟨ret_tup (mk_of s), rfl⟩
theorem ixH (s : ByteArray) (p : Nat) (hp : p < s.size) (W : World) : (Instr.index 9 (.string s) (.int .i64 (p : Int))).run Tryz.prog W = .ok (.int .u8 ((s[p]'hp).toNat : Int)) W := by
  rw [run_index_string W 9 s .i64 (p : Int) Tryz.underlying9, dif_pos ⟨by omega, by omega⟩]; rfl
def AnyB (w : World) (e : Ending) (w' : World) : Prop := ∃ b : Bool, e = .returned (.bool b) ∧ Below w.heap.size w w'
set_option maxHeartbeats 1000000 in
set_option maxRecDepth 100000 in
theorem tight_any (s : ByteArray) (w : World) (hs : s.size ≤ 1000000000) : Calls Tryz.prog 35 #[.string s] w (AnyB w) := by
  by_cases h0 : s.size = 0
  · have he : s.toList.isEmpty = true := by rw [Lib.toList_data, List.isEmpty_iff]; exact List.eq_nil_of_length_eq_zero (by rw [← Lib.size_eq]; exact h0)
    clear h0
    go_enter Tryz.func35, Tryz.ntmps35
    go_wp2_with fail
    go_ret
    exact ⟨false, rfl, Below.refl _ _⟩
  · have he : s.toList.isEmpty = false := by
      rw [Lib.toList_data]
      cases hq : s.data.toList with
      | nil => exact absurd (by rw [Lib.size_eq, hq]; rfl) h0
      | cons a b => rfl
    have hpos : 0 < s.size := by omega
    obtain ⟨m, hm⟩ : ∃ m, s.size = m + 1 := ⟨s.size - 1, by omega⟩
    have ix0 : ∀ W : World, (Instr.index 9 (.string s) (.int .i64 0)).run Tryz.prog W = .ok (.int .u8 (s[0]'hpos).toNat) W := fun W => ixH s 0 hpos W
    have ix1 : ∀ W : World, (Instr.index 9 (.string s) (.int .i64 ((s.size : Int) - 1))).run Tryz.prog W = .ok (.int .u8 (s[m]'(by omega)).toNat) W := fun W => by
      have := ixH s m (by omega) W
      rw [show ((s.size : Int) - 1) = (m : Int) by omega]
      exact this
    generalize (s[0]'hpos).toNat = c0 at *
    generalize (s[m]'(by omega)).toNat = c1 at *
    clear h0
    go_enter Tryz.func35, Tryz.ntmps35
    go_wp2_with fail
    all_goals
      go_ret
      exact ⟨_, rfl, Below.refl _ _⟩
end Go.Proofs.YthdkbokdikhojaaGreatDoor
