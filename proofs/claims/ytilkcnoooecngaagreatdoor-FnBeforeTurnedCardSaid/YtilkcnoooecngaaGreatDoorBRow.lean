/- A row of bytes of the call's own, as '[]byte(s)' lays it. No conditions. -/
import Derived.Test.YtilkcnoooecngaaGreatDoorProg
import Derived.Test.YtilkcnoooecngaaGreatDoorBase
import Derived.Test.YtilkcnoooecngaaGreatDoorTxt
import Derived.Lib.ConvBytes
import Derived.Lib.SmallJoins
import Derived.WalkKit
import Derived.Handy
namespace Go.Proofs.YtilkcnoooecngaaGreatDoor
open Go.RowKit
set_option linter.unusedVariables false
/-- A row of bytes of the call's own, as '[]byte(s)' lays it. -/
def BRow (w : World) (g n : Nat) (l : List UInt8) : Prop := l.length = n ∧ ∃ cur fz, w.heap[g]? = some (.cells cur 5 fz) ∧ n ≤ fz.1 ∧ cur.toList.take n = bcells l
theorem BRow.cell {w : World} {g n : Nat} {l : List UInt8} (h : BRow w g n l) (j : Nat) (hj : j < l.length) : w.cell? ⟨g, j, none⟩ = some (.int .u8 (l[j].toNat : Int)) := by
  obtain ⟨hl, cur, fz, hg, _, ht⟩ := h
  rw [cell_of_row w g j cur _ fz hg]
  have h1 : (cur.toList.take n)[j]? = some (.int .u8 (l[j].toNat : Int)) := by rw [ht]; simp [bcells, hj]
  rw [List.getElem?_take, if_pos (by omega)] at h1
  simpa using h1
theorem BRow.frozen {w : World} {g n : Nat} {l : List UInt8} (h : BRow w g n l) (j : Nat) (hj : j < n) : w.frozen? ⟨g, j, none⟩ = false := by
  obtain ⟨hl, cur, fz, hg, hf, ht⟩ := h
  simp [World.frozen?, hg]
  omega
theorem BRow.stored {w : World} {g n : Nat} {l : List UInt8} (h : BRow w g n l) (j : Nat) (c : UInt8) : BRow (w.setCell ⟨g, j, none⟩ (.int .u8 (c.toNat : Int))) g n (l.set j c) := by
  obtain ⟨hl, cur, fz, hg, hf, ht⟩ := h
  refine ⟨by simpa using hl, cur.setIfInBounds j (.int .u8 (c.toNat : Int)), fz, ?_, hf, ?_⟩
  · rw [setCell_eq_setRow w g j cur _ fz _ hg]
    exact setRow_heap w g cur _ _ _ hg
  · rw [Array.toList_setIfInBounds, List.take_set, ht]
    simp [bcells]
theorem BRow.made (w : World) (s : ByteArray) : BRow (Lib.bytesWorld w 5 s) w.heap.size s.size s.data.toList := by
  refine ⟨(Lib.size_eq s).symm, Lib.bytesCells w 5 s, _, Lib.bytesWorld_at_new w _ s, ?_, ?_⟩
  · simp [Lib.bytesCells]
  · unfold Lib.bytesCells bcells
    rw [Array.toList_append, List.take_append_of_le_length (by simp)]
    rw [List.take_of_length_le (by simp)]
    simp
theorem BRow.text {P : Program} {w : World} {g n cap : Nat} {src dst : TypeId} {l : List UInt8} (h : BRow w g n l) (hs : P.underlying src = some (.slice 5)) (he : P.underlying 5 = some (.int .u8)) (hd : P.underlying dst = some .string) :
    (convert src dst (.slice (some ⟨g, 0, none⟩) n cap)).run P w = .ok (.string ⟨l.toArray⟩) w := by
  have hl := h.1
  subst hl
  have := run_convert_bytes_arg (P := P) w src 5 hs he g 0 l.length cap (l.map fun b => (b.toNat : Int)) (by simp) (fun i hi => by
    rw [Nat.zero_add, h.cell i hi]
    simp [List.getD_eq_getElem?_getD, hi]) dst hd
  rw [this]
  congr 2
  apply WideShapes.bytes_inj
  rw [strOfNums_data]
  simp [Function.comp_def]
end Go.Proofs.YtilkcnoooecngaaGreatDoor
