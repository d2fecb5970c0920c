/- A whole number written: the light package's FormatUint, FormatInt, Itoa, at numbers up to 999. -/
import Derived.Test.YtimdmdjkkgdohaaGreatDoorPpI
namespace Go.Proofs.YtimdmdjkkgdohaaGreatDoor
open Go.RowKit Go.MapKept
set_option linter.unusedVariables false
def dg1 (d : Nat) : UInt8 := UInt8.ofNat (48 + d)
def decL (n : Nat) : List UInt8 := if n < 10 then [dg1 n] else if n < 100 then [dg1 (n / 10), dg1 (n % 10)] else [dg1 (n / 100), dg1 (n / 10 % 10), dg1 (n % 10)]
/-- k digits are written, Q is left. -/
def Dst (n Q k : Nat) (ds : List UInt8) : Prop := (k = 0 ∧ Q = n ∧ ds = []) ∨ (k = 1 ∧ Q = n / 10 ∧ ds = [dg1 (n % 10)]) ∨ (k = 2 ∧ 10 ≤ n ∧ Q = n / 100 ∧ ds = [dg1 (n / 10 % 10), dg1 (n % 10)]) ∨ (k = 3 ∧ 100 ≤ n ∧ Q = n / 1000 ∧ ds = [dg1 (n / 100 % 10), dg1 (n / 10 % 10), dg1 (n % 10)])
theorem Dst.len {n Q k : Nat} {ds : List UInt8} (h : Dst n Q k ds) : ds.length = k ∧ k ≤ 3 := by
  rcases h with ⟨rfl, _, rfl⟩ | ⟨rfl, _, rfl⟩ | ⟨rfl, _, _, rfl⟩ | ⟨rfl, _, _, rfl⟩ <;> simp
theorem Dst.step {n Q k : Nat} {ds : List UInt8} (h : Dst n Q k ds) (hn : n ≤ 999) (hq : k = 0 ∨ 0 < Q) : Dst n (Q / 10) (k + 1) (dg1 (Q % 10) :: ds) ∧ k ≤ 2 := by
  rcases h with ⟨rfl, rfl, rfl⟩ | ⟨rfl, rfl, rfl⟩ | ⟨rfl, h1, rfl, rfl⟩ | ⟨rfl, h1, rfl, rfl⟩
  · exact ⟨.inr (.inl ⟨rfl, rfl, rfl⟩), by omega⟩
  · exact ⟨.inr (.inr (.inl ⟨rfl, by omega, by omega, rfl⟩)), by omega⟩
  · exact ⟨.inr (.inr (.inr ⟨rfl, by omega, by omega, rfl⟩)), by omega⟩
  · omega
theorem Dst.fin {n k : Nat} {ds : List UInt8} (h : Dst n 0 k ds) (hn : n ≤ 999) (hk : k ≠ 0) : ds = decL n := by
  unfold decL
  rcases h with ⟨rfl, _, rfl⟩ | ⟨rfl, h2, rfl⟩ | ⟨rfl, h1, h2, rfl⟩ | ⟨rfl, h1, h2, rfl⟩
  · exact absurd rfl hk
  · rw [if_pos (by omega), show n % 10 = n by omega]
  · rw [if_neg (by omega), if_pos (by omega), show n / 10 % 10 = n / 10 by omega]
  · rw [if_neg (by omega), if_neg (by omega), show n / 100 % 10 = n / 100 by omega]
def DIG : ByteArray := ⟨#[48, 49, 50, 51, 52, 53, 54, 55, 56, 57, 97, 98, 99, 100, 101, 102, 103, 104, 105, 106, 107, 108, 109, 110, 111, 112, 113, 114, 115, 116, 117, 118, 119, 120, 121, 122]⟩
theorem ixD (d : Nat) (hd : d < 10) (W : World) : (Instr.index 9 (.string DIG) (.int .u64 (d : Int))).run Tryz.prog W = .ok (.int .u8 ((dg1 d).toNat : Int)) W := by
  rw [run_index_string W 9 DIG .u64 (d : Int) Tryz.underlying9, dif_pos ⟨by omega, by rw [show DIG.size = 36 from rfl]; omega⟩]
  have : d = 0 ∨ d = 1 ∨ d = 2 ∨ d = 3 ∨ d = 4 ∨ d = 5 ∨ d = 6 ∨ d = 7 ∨ d = 8 ∨ d = 9 := by omega
  rcases this with rfl | rfl | rfl | rfl | rfl | rfl | rfl | rfl | rfl | rfl <;> rfl
theorem infoU1 : (Tryz.prog.info? tU).map (·.size) = some 1 := by kernel_rfl
def FmtRet (n : Nat) (w : World) (e : Ending) (w' : World) : Prop := e = .returned (.string ⟨(decL n).toArray⟩) ∧ Below w.heap.size w w'
set_option maxRecDepth 100000 in
theorem conv_digits {W : World} {A cap k : Nat} {t : TypeId} {cs : Array Value} {ds : List UInt8} (h : Blk W A t cs) (hd : cs.toList.drop (64 - k) = bcells ds) (hk : ds.length = k) (hk3 : k ≤ 3) :
    (convert 44 9 (.slice (some ⟨A, 64 - k, none⟩) k cap)).run Tryz.prog W = .ok (.string ⟨ds.toArray⟩) W := by
  subst hk
  have := run_convert_bytes_arg (P := Tryz.prog) W 44 5 Tryz.underlying44 Tryz.underlying5 A (64 - ds.length) ds.length cap (ds.map fun b => (b.toNat : Int)) (by simp) (fun i hi => by
    have h1 : (cs.toList.drop (64 - ds.length))[i]? = some (.int .u8 (ds[i].toNat : Int)) := by rw [hd]; simp [bcells, hi]
    rw [List.getElem?_drop] at h1
    rw [h.cell (64 - ds.length + i) (v := .int .u8 (ds[i].toNat : Int)) (by simpa using h1)]
    simp [List.getD_eq_getElem?_getD, hi]) 9 Tryz.underlying9
  rw [this]
  congr 2
  apply WideShapes.bytes_inj
  rw [strOfNums_data]
  simp [Function.comp_def]
end Go.Proofs.YtimdmdjkkgdohaaGreatDoor
