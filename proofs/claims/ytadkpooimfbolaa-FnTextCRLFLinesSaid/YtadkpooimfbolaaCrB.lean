/- Carriage returns: the walk of ProcessCRLF. Texts of ASCII, at most 100000 bytes. -/
import Derived.Test.YtadkpooimfbolaaCrP
import Derived.Test.YtadkpooimfbolaaTxtTICR
import Derived.Test.YtadkpooimfbolaaTxtTS
import Derived.Test.YtadkpooimfbolaaShelf
import Derived.Test.YtadkpooimfbolaaLsC
import Derived.WalkKit
import Derived.Handy
import Derived.BigQuiet
import Derived.Deep.DeepCutAuto
import Derived.Deep.CutBlock
import Derived.Deep.DrawnRows
import Derived.Laws.Cover4
import Derived.Laws.IdiomStrings
import Derived.Laws.OwnMore
import Derived.Maps.AppendAt
import Derived.WalkLawsBesides
namespace Go.Proofs.Ytadkpooimfbolaa
open Go.RowKit
set_option linter.unusedVariables false
attribute [local go_sem ↓] Go.wp_at_zero Go.wp_at_succ
def asc (l : List UInt8) : Prop := ∀ b ∈ l, b.toNat < 128
def rcells (l : List UInt8) : List Value := l.map fun b => Value.int .i32 b.toNat
theorem rcells_len (l : List UInt8) : (rcells l).length = l.length := by simp [rcells]
theorem rcells_app (a b : List UInt8) : rcells (a ++ b) = rcells a ++ rcells b := by simp [rcells]
theorem runes_ascii (s : ByteArray) (h : asc s.data.toList) : ∀ (f i : Nat) (acc : Array Value), s.size ≤ i + f → Conv.runesFrom s f i acc = acc ++ (rcells (s.data.toList.drop i)).toArray
  | 0, i, acc, hf => by
    rw [Conv.runesFrom, List.drop_eq_nil_of_le (by rw [← Lib.size_eq]; omega)]
    simp [rcells]
  | f + 1, i, acc, hf => by
    rw [Conv.runesFrom]
    by_cases hi : i < s.size
    · have hi' : i < s.data.toList.length := by rw [← Lib.size_eq]; exact hi
      have ha : (s[i]'hi).toNat < 128 := h _ (List.getElem_mem hi')
      rw [if_pos hi, decode_ascii s i hi ha]
      simp only
      rw [runes_ascii s h f (i + 1) _ (by omega), List.drop_eq_getElem_cons hi']
      apply Array.ext'
      simp [rcells]
      rfl
    · rw [if_neg hi, List.drop_eq_nil_of_le (by rw [← Lib.size_eq]; omega)]
      simp [rcells]
theorem runesBytes_ascii (l : List UInt8) (h : asc l) : runesBytes (l.map fun b => (b.toNat : Int)) = ⟨l.toArray⟩ := by
  have key : ∀ (l : List UInt8), asc l → ∀ acc : List UInt8, (l.map fun b => (b.toNat : Int)).foldl (fun r n => r ++ Utf8.encode n) (⟨acc.toArray⟩ : ByteArray) = ⟨(acc ++ l).toArray⟩ := by
    intro l
    induction l with
    | nil => intro _ acc; simp
    | cons b l ih =>
      intro h acc
      rw [List.map_cons, List.foldl_cons, enc_ascii b.toNat (h b (by simp))]
      have e : (⟨acc.toArray⟩ : ByteArray) ++ ⟨#[UInt8.ofNat b.toNat]⟩ = ⟨(acc ++ [b]).toArray⟩ := by
        apply WideShapes.bytes_inj; simp
      rw [e, ih (fun c hc => h c (by simp [hc]))]
      simp
  exact key l h []
theorem conv_runes_own {W : World} {B : Nat} {v : Value} {l : List UInt8} (h : W.ownsRow B 21 1 v l.length (rcells l)) (ha : asc l) : (convert 50 9 v).run Try.prog W = .ok (.string ⟨l.toArray⟩) W := by
  rcases h.2 with ⟨rfl, hz⟩ | ⟨g, cap, cur, rfl, _, _, _, _, _⟩
  · have : l = [] := List.eq_nil_of_length_eq_zero hz
    subst this
    exact run_convert_runes_nil W 50 9 21 0 0 Try.underlying50 Try.underlying21 Try.underlying9
  · have hc := h.cells (g := g) rfl
    have := run_convert_runes (P := Try.prog) W 50 9 21 ⟨g, 0, none⟩ l.length cap (l.map fun b => (b.toNat : Int)) (by simp) Try.underlying50 Try.underlying21 Try.underlying9 (fun j hj => by
      have hj' : j < l.length := by simpa using hj
      rw [hc j (.int .i32 (l[j]).toNat) (by simp [rcells, hj'])]
      simp [List.getD_eq_getElem?_getD, hj'])
    rw [this, List.take_of_length_le (by simp), runesBytes_ascii l ha]
theorem to_runes (s : ByteArray) (h : asc s.data.toList) (hs : s.size ≤ 1000000) (W : World) :
    (convert 9 50 (.string s)).run Try.prog W = .ok (.slice (some ⟨W.heap.size, 0, none⟩) s.size (grownCap W s.size 0 21)) (W.drew.alloc (.cells ((rcells s.data.toList).toArray ++ Array.replicate (grownCap W s.size 0 21 - s.size) (.int .i32 0)) 21)) := by
  have e : Conv.runesFrom s s.size 0 #[] = (rcells s.data.toList).toArray := by rw [runes_ascii s h s.size 0 #[] (by omega)]; simp
  have hz : (rcells s.data.toList).toArray.size = s.size := by rw [List.size_toArray, rcells_len, ← Lib.size_eq]
  have := run_runes_of_string (P := Try.prog) W 9 50 21 s Try.underlying9 Try.underlying50 Try.underlying21 (by rw [e, hz]; omega)
  rw [e, hz] at this
  exact this
theorem runes_own (W : World) (B m cap : Nat) (R : List Value) (hB : B ≤ W.heap.size) (hR : R.length = m) (h1 : m ≤ cap) (h2 : cap ≤ maxLen) :
    (W.alloc (.cells (R.toArray ++ Array.replicate (cap - m) (.int .i32 0)) 21)).ownsRow B 21 1 (.slice (some ⟨W.heap.size, 0, none⟩) m cap) m R :=
  ⟨by omega, .inr ⟨W.heap.size, cap, _, rfl, hB, heap_alloc_new W _, h1, h2, by rw [Array.size_append, Array.size_replicate, List.size_toArray]; omega, by rw [Array.toList_append, List.take_append_of_le_length (by simp; omega)]; simp [← hR]⟩⟩
theorem info21 : (Try.prog.info? 21).map (fun i => (i.zero, i.size, i.bytes)) = some (some (.int .i32 0), 1, 4) := by kernel_rfl
theorem crlf_1 (s : ByteArray) (w : World) (h : s.size ≤ 100000) : Calls Try.prog 28 #[.string s, .string ⟨#[13, 10]⟩, .string ⟨#[10]⟩] w fun e w' => e = .returned (.string ⟨(rep [13, 10] [10] s.data.toList).toArray⟩) ∧ Below w.heap.size w w' :=
  replace_T s ⟨#[13, 10]⟩ ⟨#[10]⟩ w (by decide) (by decide) (by show s.size * 2 ≤ _; omega)
theorem crlf_2 (l : List UInt8) (w : World) (h : l.length ≤ 100000) : Calls Try.prog 29 #[.string ⟨l.toArray⟩, .string ⟨#[13]⟩] w fun e w' => e = .returned (.bool (decide ((13 : UInt8) ∈ l))) ∧ w = w' := by
  refine (contains_T ⟨l.toArray⟩ ⟨#[13]⟩ w (by show l.toArray.size ≤ _; simp; omega) (by decide)).mono ?_
  rintro e w' ⟨rfl, rfl⟩
  exact ⟨ret_bool (by rw [← idx_one_iff]), rfl⟩
end Go.Proofs.Ytadkpooimfbolaa
