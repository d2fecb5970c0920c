/- Taking a sequence apart: zzReplaceOne, stripEscapeSequence. Texts of at most 1000 bytes. -/
import Derived.Test.YtimdmdjkkgdohaaGreatDoorPpA
import Derived.Test.YtimdmdjkkgdohaaGreatDoorTxtTI
import Derived.Test.YtimdmdjkkgdohaaGreatDoorTxtTSi
import Derived.Handy
namespace Go.Proofs.YtimdmdjkkgdohaaGreatDoor
open Go.RowKit
set_option linter.unusedVariables false
theorem add_str (a b : ByteArray) (h : a.size + b.size ≤ 9223372036854775807) (W : World) : (Op.stringOp .add a b).run Tryz.prog W = .ok (.string (a ++ b)) W := by
  have h' : ¬ (((a.size + b.size : Nat) : Int) > IntKind.i64.max) := by rw [show IntKind.i64.max = 9223372036854775807 from rfl]; omega
  unfold Op.stringOp
  simp only [if_neg h']
  rfl
theorem cut_out (s : ByteArray) (i k : Nat) : s.extract 0 i ++ ⟨#[]⟩ ++ s.extract k s.size = ⟨(s.data.toList.take i ++ s.data.toList.drop k).toArray⟩ := by
  apply bytes_ext
  rw [ByteArray.data_append, ByteArray.data_append, Array.toList_append, Array.toList_append, Lib.extract_data, Lib.extract_data]
  simp
  rw [List.take_of_length_le]
  rw [List.length_drop, ← Lib.size_eq]
  exact Nat.le_refl _
def TxtRet (q : List UInt8) (w : World) (e : Ending) (w' : World) : Prop := e = .returned (.string ⟨q.toArray⟩) ∧ Below w.heap.size w w'
set_option maxHeartbeats 1000000 in
set_option maxRecDepth 100000 in
theorem replOne_any (s old : ByteArray) (i : Nat) (w : World) (hs : s.size ≤ 1000) (ho : old.size ≤ 10) (hi : idx old.data.toList s.data.toList = some i) :
    Calls Tryz.prog 47 #[.string s, .string old, .string ⟨#[]⟩] w (TxtRet (s.data.toList.take i ++ s.data.toList.drop (i + old.size)) w) := by
  have hT := index_T s old w (by omega) (by omega)
  have hlen := (idx_some _ _ _ hi).1
  rw [← Lib.size_eq, ← Lib.size_eq] at hlen
  rw [zidx_some hi] at hT
  have HC := Lib.hid (cut_out s i (i + old.size))
  clear hi
  have z0 : (⟨#[]⟩ : ByteArray).size = 0 := rfl
  have z1 : (s.extract 0 i).size ≤ 1000 := by rw [ByteArray.size_extract]; omega
  have z2 : (s.extract (i + old.size) s.size).size ≤ 1000 := by rw [ByteArray.size_extract]; omega
  have a1 := add_str (s.extract 0 i) ⟨#[]⟩ (by omega)
  have a2 := add_str (s.extract 0 i ++ ⟨#[]⟩) (s.extract (i + old.size) s.size) (by rw [ByteArray.size_append]; omega)
  clear z0 z1 z2
  go_enter Tryz.func47, Tryz.ntmps47
  go_wp2_with (go_at_call 63; refine halt_H ?_)
  refine resume_H ?_
  refine hT.mono ?_
  rintro e w1 ⟨rfl, hw⟩
  obtain rfl := hw.symm
  clear hT
  go_wp2_with fail
  go_quiet (fail)
  go_wp2_with fail
  go_ret
  exact ⟨by rw [← HC.out]; rfl, Below.drewK _ _ _⟩
theorem dgs_no {m : List UInt8} (h : ∀ c ∈ m, dgs c) (d : UInt8) (hd : d.toNat = 109 ∨ d.toNat = 91 ∨ d.toNat = 27) : d ∉ m := fun hm => by
  have := h d hm
  unfold dgs at this
  omega
theorem idx_at : ∀ (m : List UInt8) (c : UInt8) (r : List UInt8), c ∉ m → idx [c] (m ++ c :: r) = some m.length
  | [], c, r, _ => idx_hit _ _ (by simp)
  | d :: m, c, r, h => by
    have h1 : c ≠ d := fun e => h (by simp [e])
    have h2 : c ∉ m := fun e => h (by simp [e])
    rw [List.cons_append, idx, if_neg, idx_at m c r h2]
    · rfl
    · intro hp
      simp [List.isPrefixOf] at hp
      exact h1 hp
set_option maxHeartbeats 1000000 in
set_option maxRecDepth 100000 in
theorem strip_gen (a : Value) (x : ByteArray) (y q : List UInt8) (w : World) (h1 : Calls Tryz.prog 47 #[.string x, .string ⟨#[27, 91]⟩, .string ⟨#[]⟩] w (TxtRet y w))
    (h2 : ∀ W, Calls Tryz.prog 47 #[.string ⟨y.toArray⟩, .string ⟨#[109]⟩, .string ⟨#[]⟩] W (TxtRet q W)) :
    Calls Tryz.prog 38 #[a, .string x, .int .i64 1] w (TxtRet q w) := by
  go_enter Tryz.func38, Tryz.ntmps38
  go_wp2_with (go_at_call 47; refine halt_H ?_)
  refine resume_H ?_
  refine h1.mono ?_
  rintro e w1 ⟨rfl, hb⟩
  have HB := Lib.hid hb
  clear h1 hb
  go_wp2_with (go_at_call 47; refine halt_H ?_)
  refine resume_H ?_
  refine (h2 _).mono ?_
  rintro e w2 ⟨rfl, hb⟩
  have HB2 := Lib.hid (HB.out.trans (hb.mono HB.out.size))
  clear h2 hb
  go_wp2
  go_ret
  exact ⟨rfl, HB2.out⟩
theorem strip1 (m : List UInt8) (hl : m.length ≤ 40) (w : World) : Calls Tryz.prog 47 #[.string ⟨(27 :: 91 :: (m ++ [109])).toArray⟩, .string ⟨#[27, 91]⟩, .string ⟨#[]⟩] w (TxtRet (m ++ [109]) w) := by
  have h := replOne_any ⟨(27 :: 91 :: (m ++ [109])).toArray⟩ ⟨#[27, 91]⟩ 0 w (by rw [mk_size]; simp; omega) (by decide) (idx_hit _ _ (by simp [List.isPrefixOf]))
  have e : ∀ X : List UInt8, List.take 0 X ++ List.drop (0 + (⟨#[27, 91]⟩ : ByteArray).size) X = List.drop 2 X := fun X => by simp; rfl
  rw [e] at h
  exact h
theorem strip2 (m : List UInt8) (hm : ∀ c ∈ m, dgs c) (hl : m.length ≤ 40) (w : World) : Calls Tryz.prog 47 #[.string ⟨(m ++ [109]).toArray⟩, .string ⟨#[109]⟩, .string ⟨#[]⟩] w (TxtRet m w) := by
  have h := replOne_any ⟨(m ++ [109]).toArray⟩ ⟨#[109]⟩ m.length w (by rw [mk_size]; simp; omega) (by decide) (idx_at m 109 [] (dgs_no hm _ (.inl rfl)))
  have e : List.take m.length (m ++ [109]) ++ List.drop (m.length + (⟨#[109]⟩ : ByteArray).size) (m ++ [109]) = m := by
    rw [show (⟨#[109]⟩ : ByteArray).size = 1 from rfl]
    simp
  simp only [] at h
  rw [e] at h
  exact h
theorem strip_any (a : Value) (m : List UInt8) (w : World) (hm : ∀ c ∈ m, dgs c) (hl : m.length ≤ 40) :
    Calls Tryz.prog 38 #[a, .string ⟨(27 :: 91 :: (m ++ [109])).toArray⟩, .int .i64 1] w (TxtRet m w) :=
  strip_gen a _ _ _ w (strip1 m hl w) (strip2 m hm hl)
end Go.Proofs.YtimdmdjkkgdohaaGreatDoor
