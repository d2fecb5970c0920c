/- Texts as lists of bytes: the first place of a text in another, replacing, dividing. No conditions. -/
import Derived.WalkKit
import Derived.Lib.Strings
import Derived.Lib.AppendStr
import Derived.Laws.BytesArg
import Derived.Laws.OwnMore
import Derived.Laws.Strings2
import Derived.Below
namespace Go.Proofs.YtilkcnoooecngaaGreatDoor
open Go.RowKit
set_option linter.unusedVariables false
def idx (sub : List UInt8) : List UInt8 → Option Nat
  | [] => if sub = [] then some 0 else none
  | c :: s => if sub.isPrefixOf (c :: s) = true then some 0 else (idx sub s).map (· + 1)
theorem idx_hit (sub s : List UInt8) (h : sub.isPrefixOf s = true) : idx sub s = some 0 := by
  cases s with
  | nil => cases sub with
    | nil => rfl
    | cons => simp at h
  | cons c s => rw [idx, if_pos h]
theorem idx_step (sub s : List UInt8) (i : Nat) (hi : i < s.length) (h : ¬ sub.isPrefixOf (s.drop i) = true) : idx sub (s.drop i) = (idx sub (s.drop (i + 1))).map (· + 1) := by
  rw [List.drop_eq_getElem_cons hi] at h ⊢
  rw [idx, if_neg h]
theorem idx_long : ∀ (sub s : List UInt8), s.length < sub.length → idx sub s = none
  | sub, [], h => by
    rw [idx, if_neg]
    rintro rfl
    simp at h
  | sub, c :: s, h => by
    rw [idx, if_neg, idx_long sub s (by simp at h; omega)]
    · rfl
    · intro hp
      have := (List.isPrefixOf_iff_prefix.1 hp).length_le
      simp at this h
      omega
theorem idx_some : ∀ (sub s : List UInt8) (n : Nat), idx sub s = some n → n + sub.length ≤ s.length ∧ (s.drop n).take sub.length = sub
  | sub, [], n, h => by
    rw [idx] at h
    split at h
    · rename_i e; subst e; cases h; simp
    · cases h
  | sub, c :: s, n, h => by
    rw [idx] at h
    split at h
    · rename_i e
      cases h
      have hp := List.isPrefixOf_iff_prefix.1 e
      refine ⟨by have := hp.length_le; simpa using this, ?_⟩
      rw [List.drop_zero]
      exact (List.prefix_iff_eq_take.1 hp).symm
    · cases hm : idx sub s with
      | none => rw [hm] at h; cases h
      | some m =>
        rw [hm] at h
        cases h
        obtain ⟨h1, h2⟩ := idx_some sub s m hm
        exact ⟨by simp; omega, by simpa using h2⟩
theorem idx_one_none (c : UInt8) : ∀ (s : List UInt8), c ∉ s → ∀ r, idx (c :: r) s = none
  | [], _, r => by simp [idx]
  | d :: s, h, r => by
    have h1 : c ≠ d := fun e => h (by simp [e])
    have h2 : c ∉ s := fun e => h (by simp [e])
    rw [idx, if_neg, idx_one_none c s h2 r]
    · rfl
    · intro hp
      simp [List.isPrefixOf] at hp
      exact h1 hp.1
def zidx (s sub : ByteArray) : Int := match idx sub.data.toList s.data.toList with | some n => n | none => -1
theorem zidx_some {s sub : ByteArray} {n : Nat} (h : idx sub.data.toList s.data.toList = some n) : zidx s sub = n := by unfold zidx; rw [h]
theorem zidx_none {s sub : ByteArray} (h : idx sub.data.toList s.data.toList = none) : zidx s sub = -1 := by unfold zidx; rw [h]
theorem take_beq (s sub : ByteArray) (i : Nat) : ((s.extract i (i + sub.size)).toList == sub.toList) = sub.data.toList.isPrefixOf (s.data.toList.drop i) := by
  rw [Lib.toList_data, Lib.toList_data, Lib.extract_data, Nat.add_sub_cancel_left, Bool.eq_iff_iff, List.isPrefixOf_iff_prefix, beq_iff_eq]
  have : sub.size = sub.data.toList.length := Lib.size_eq sub
  rw [this]
  exact ⟨fun h => by rw [List.prefix_iff_eq_take]; exact h.symm, fun h => (List.prefix_iff_eq_take.1 h).symm⟩

def repF (old new : List UInt8) : Nat → List UInt8 → List UInt8
  | 0, s => s
  | f + 1, s => match idx old s with
    | none => s
    | some i => s.take i ++ new ++ repF old new f (s.drop (i + old.length))
def rep (old new s : List UInt8) : List UInt8 := repF old new s.length s
theorem repF_none (old new : List UInt8) (f : Nat) (s : List UInt8) (h : idx old s = none) : repF old new f s = s := by
  cases f with
  | zero => rfl
  | succ f => rw [repF, h]
theorem repF_some (old new : List UInt8) (f : Nat) (s : List UInt8) (i : Nat) (h : idx old s = some i) : repF old new (f + 1) s = s.take i ++ new ++ repF old new f (s.drop (i + old.length)) := by rw [repF, h]
theorem rep_none (old new s : List UInt8) (h : idx old s = none) : rep old new s = s := repF_none old new _ s h

def spF (sep : List UInt8) : Nat → List UInt8 → List (List UInt8)
  | 0, s => [s]
  | f + 1, s => match idx sep s with
    | none => [s]
    | some i => s.take i :: spF sep f (s.drop (i + sep.length))
def sp (sep s : List UInt8) : List (List UInt8) := spF sep s.length s
theorem spF_none (sep : List UInt8) (f : Nat) (s : List UInt8) (h : idx sep s = none) : spF sep f s = [s] := by
  cases f with
  | zero => rfl
  | succ f => rw [spF, h]
theorem spF_some (sep : List UInt8) (f : Nat) (s : List UInt8) (i : Nat) (h : idx sep s = some i) : spF sep (f + 1) s = s.take i :: spF sep f (s.drop (i + sep.length)) := by rw [spF, h]

def strOf : Value → ByteArray | .string s => s | _ => ⟨#[]⟩
def bcells (l : List UInt8) : List Value := l.map fun b => Value.int .u8 b.toNat
theorem bcells_str (s : ByteArray) : Lib.strCells s = bcells s.data.toList := rfl
theorem bcells_append (a b : List UInt8) : bcells (a ++ b) = bcells a ++ bcells b := by simp [bcells]
theorem bcells_length (a : List UInt8) : (bcells a).length = a.length := by simp [bcells]
/-- A row of bytes of the call's own, as a text. -/
theorem conv_own {P : Program} {W : World} {B : Nat} {e src dst : TypeId} {v : Value} {l : List UInt8} (hs : P.underlying src = some (.slice e)) (he : P.underlying e = some (.int .u8)) (hd : P.underlying dst = some .string)
    (h : W.ownsRow B e 1 v l.length (bcells l)) : (convert src dst v).run P W = .ok (.string ⟨l.toArray⟩) W := by
  rcases h.2 with ⟨rfl, hz⟩ | ⟨g, cap, cur, rfl, _, _, _, _, _⟩
  · have : l = [] := List.eq_nil_of_length_eq_zero hz
    subst this
    exact run_convert_bytes_nil W src e hs he 0 0 dst hd
  · have hc := h.cells (g := g) rfl
    have := run_convert_bytes_arg (P := P) W src e hs he g 0 l.length cap (l.map fun b => (b.toNat : Int)) (by simp) (fun i hi => by
      have := hc i (.int .u8 (l[i]).toNat) (by simp [bcells, hi])
      rw [Addr.add_lit] at this
      rw [this]
      simp [List.getD_eq_getElem?_getD, hi]) dst hd
    rw [this]
    congr 2
    apply WideShapes.bytes_inj
    rw [strOfNums_data]
    simp [Function.comp_def]
theorem slice_str {P : Program} {t : TypeId} (hu : P.underlying t = some .string) (s : ByteArray) (lo hi : Int) (a b : Nat) (hl : lo = a) (hh : hi = b) (h1 : a ≤ b) (h2 : b ≤ s.size) (w : World) :
    (Instr.slice t (.string s) (some (.int .i64 lo)) (some (.int .i64 hi)) none).run P w = .ok (.string (s.extract a b)) w := by
  subst hl; subst hh
  have := run_slice_string (P := P) w t s .i64 .i64 (a : Int) (b : Int) hu (by omega) (by omega) (by omega)
  simpa using this
theorem slice_str_lo {P : Program} {t : TypeId} (hu : P.underlying t = some .string) (s : ByteArray) (lo : Int) (a : Nat) (hl : lo = a) (h1 : a ≤ s.size) (w : World) :
    (Instr.slice t (.string s) (some (.int .i64 lo)) none none).run P w = .ok (.string (s.extract a s.size)) w := by
  subst hl
  have hi : (0 : Int) ≤ (a : Int) ∧ (a : Int) ≤ (s.size : Int) := ⟨by omega, by omega⟩
  simp [Instr.slice, Instr.sliceBounds, Instr.sliceBound, asIntOf, run_underlying hu, h1]
theorem slice_str_hi {P : Program} {t : TypeId} (hu : P.underlying t = some .string) (s : ByteArray) (hi : Int) (b : Nat) (hh : hi = b) (h2 : b ≤ s.size) (w : World) :
    (Instr.slice t (.string s) none (some (.int .i64 hi)) none).run P w = .ok (.string (s.extract 0 b)) w := by
  subst hh
  simp [Instr.slice, Instr.sliceBounds, Instr.sliceBound, asIntOf, run_underlying hu, h2]
def strV (l : List UInt8) : Value := .string ⟨l.toArray⟩
def SplitRet (w : World) (ls : List (List UInt8)) (e : Ending) (w' : World) : Prop := ∃ v, e = .returned v ∧ w'.ownsRow w.heap.size 9 1 v ls.length (ls.map strV) ∧ Below w.heap.size w w'
theorem strV_eq (s : ByteArray) : strV s.data.toList = .string s := by
  unfold strV; congr 1
theorem oneS_at {W : World} {b : Nat} {v : Value} {t : TypeId} (h : W.heap[b]? = some (.cells #[v] t (0, 0))) : ∀ j u, [v][j]? = some u → W.cell? ((⟨b, 0, none⟩ : Addr).add j) = some u := by
  intro j u hj
  cases j with
  | succ j => simp at hj
  | zero =>
    simp at hj
    subst hj
    exact cell_of_row W b 0 _ t (0, 0) h
end Go.Proofs.YtilkcnoooecngaaGreatDoor
