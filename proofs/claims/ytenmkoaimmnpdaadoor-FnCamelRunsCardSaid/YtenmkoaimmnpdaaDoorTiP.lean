/- A title's letters, in plain Lean: underscores and points; ASCII texts as runes and back. No conditions. -/
import Derived.WalkKit
import Derived.Below
import Derived.Laws.IdiomStrings
import Derived.Laws.OwnMore
import Derived.Laws.Cover4
import Derived.Lib.Strings
import Derived.Lib.Space
import Derived.Lib.Case
import Derived.Test.YtenmkoaimmnpdaaDoorBase
namespace Go.Proofs.YtenmkoaimmnpdaaDoor
open Go.RowKit
set_option linter.unusedVariables false
def rv (c : UInt8) : Value := .int .i32 (c.toNat : Int)
def nd (c : UInt8) : Bool := !((decide (48 ≤ c.toNat) && decide (c.toNat ≤ 57)) || decide (c.toNat = 32))
def ndO : Option UInt8 → Bool | none => false | some c => nd c
/-- What stands for a letter, by the one ahead (as it stands then) and the one behind. -/
def mk1 (p : Option UInt8) (c : UInt8) (q : Option UInt8) : UInt8 := if c = 95 then 32 else if c = 46 then (if ndO p || ndO q then 32 else 46) else c
def mt : Option UInt8 → List UInt8 → List UInt8
  | _, [] => []
  | p, c :: r => mk1 p c r.head? :: mt (some (mk1 p c r.head?)) r
theorem mt_length : ∀ (l : List UInt8) (p : Option UInt8), (mt p l).length = l.length
  | [], _ => rfl
  | c :: r, p => by simp [mt, mt_length r]
theorem mt_step {l done r : List UInt8} {c : UInt8} (h : mt none l = done ++ mt done.getLast? (c :: r)) : mt none l = (done ++ [mk1 done.getLast? c r.head?]) ++ mt (done ++ [mk1 done.getLast? c r.head?]).getLast? r := by
  rw [h]
  simp [mt]
def asc (l : List UInt8) : Prop := ∀ c ∈ l, c.toNat < 128
theorem mk1_asc {p : Option UInt8} {c : UInt8} {q : Option UInt8} (h : c.toNat < 128) : (mk1 p c q).toNat < 128 := by
  unfold mk1
  split
  · decide
  · split
    · split <;> decide
    · exact h
theorem mt_asc : ∀ (l : List UInt8) (p : Option UInt8), asc l → asc (mt p l)
  | [], _, _ => fun c hc => by cases hc
  | c :: r, p, h => fun x hx => by
    rcases List.mem_cons.1 hx with rfl | hx
    · exact mk1_asc (h c (List.mem_cons_self ..))
    · exact mt_asc r _ (fun y hy => h y (List.mem_cons_of_mem _ hy)) x hx
theorem runes_go (s : ByteArray) (ha : asc s.data.toList) : ∀ (f i : Nat) (acc : Array Value), s.size ≤ i + f → Conv.runesFrom s f i acc = acc ++ ((s.data.toList.drop i).map rv).toArray
  | 0, i, acc, h => by
    have : s.data.toList.drop i = [] := List.drop_eq_nil_of_le (by rw [← Lib.size_eq]; omega)
    simp [Conv.runesFrom, this]
  | f + 1, i, acc, h => by
    unfold Conv.runesFrom
    by_cases hi : i < s.size
    · have hi' : i < s.data.toList.length := by rw [← Lib.size_eq]; exact hi
      have e : s.data.toList[i]'hi' = s[i]'hi := rfl
      have hc : (s[i]'hi).toNat < 128 := by rw [← e]; exact ha _ (List.getElem_mem hi')
      rw [if_pos hi, decode_ascii s i hi hc]
      show Conv.runesFrom s f (i + 1) (acc.push (.int .i32 (Int.ofNat (s[i]'hi).toNat))) = _
      rw [runes_go s ha f (i + 1) _ (by omega), List.drop_eq_getElem_cons hi', e]
      apply Array.ext'
      simp [rv]
    · have : s.data.toList.drop i = [] := List.drop_eq_nil_of_le (by rw [← Lib.size_eq]; omega)
      rw [if_neg hi, this]; simp
theorem runes_asc (s : ByteArray) (ha : asc s.data.toList) : Conv.runesFrom s s.size 0 #[] = (s.data.toList.map rv).toArray := by
  rw [runes_go s ha s.size 0 #[] (by omega)]; simp
theorem bytes_go : ∀ (l : List UInt8), asc l → ∀ acc : ByteArray, (l.map fun c => (c.toNat : Int)).foldl (fun r n => r ++ Utf8.encode n) acc = acc ++ ⟨l.toArray⟩
  | [], _, acc => by
    apply bytes_ext; simp
  | c :: r, h, acc => by
    have hc := h c (List.mem_cons_self ..)
    have e := enc_ascii c.toNat hc
    have e2 : UInt8.ofNat c.toNat = c := by simp
    rw [List.map_cons, List.foldl_cons, bytes_go r (fun y hy => h y (List.mem_cons_of_mem _ hy)), e, e2]
    apply bytes_ext; simp
theorem bytes_asc (l : List UInt8) (h : asc l) : runesBytes (l.map fun c => (c.toNat : Int)) = ⟨l.toArray⟩ := by
  unfold runesBytes
  rw [bytes_go l h]
  apply bytes_ext; simp
theorem mk_size (l : List UInt8) : (⟨l.toArray⟩ : ByteArray).size = l.length := by simp [ByteArray.size]
theorem to_runes {P : Program} (w : World) (src dst e : TypeId) (l : List UInt8) (ha : asc l) (hl : l.length ≤ 1000000) (hs : P.underlying src = some .string) (hd : P.underlying dst = some (.slice e)) (he : P.underlying e = some (.int .i32)) :
    ∃ (cap : Nat) (w' : World), (convert src dst (.string ⟨l.toArray⟩)).run P w = .ok (.slice (some ⟨w.heap.size, 0, none⟩) l.length cap) w' ∧ w'.ownsRow w.heap.size e 1 (.slice (some ⟨w.heap.size, 0, none⟩) l.length cap) l.length (l.map rv) ∧ Below w.heap.size w w' := by
  have h1 := runes_asc ⟨l.toArray⟩ (by simpa using ha)
  have h2 := run_runes_of_string (P := P) w src dst e ⟨l.toArray⟩ hs hd he (by rw [h1]; simp; omega)
  rw [h1] at h2
  simp only [List.size_toArray, List.length_map] at h2
  have hge := grownCap_ge w l.length 0 e
  have hle := grownCap_le_maxLen w l.length 0 e (by unfold maxLen; omega)
  refine ⟨grownCap w l.length 0 e, _, h2, ?_, ((Below.refl _ _).drew).alloc (Nat.le_refl _) _⟩
  refine ⟨by simp, .inr ⟨w.heap.size, _, _, rfl, Nat.le_refl _, heap_alloc_new w.drew _, hge, hle, ?_, ?_⟩⟩
  · simp; omega
  · simp
theorem of_runes {P : Program} {w : World} {B n cap g : Nat} {src dst e : TypeId} {l : List UInt8} (ha : asc l) (hl : l.length = n) (hs : P.underlying src = some (.slice e)) (he : P.underlying e = some (.int .i32)) (hd : P.underlying dst = some .string)
    (h : w.ownsRow B e 1 (.slice (some ⟨g, 0, none⟩) n cap) n (l.map rv)) : (convert src dst (.slice (some ⟨g, 0, none⟩) n cap)).run P w = .ok (.string ⟨l.toArray⟩) w := by
  subst hl
  have := run_convert_runes (P := P) w src dst e ⟨g, 0, none⟩ l.length cap (l.map fun c => (c.toNat : Int)) (by simp) hs he hd (fun j hj => by
    simp only [List.length_map] at hj
    rw [Addr.add_lit, Nat.zero_add, h.cellAt j (by simpa using hj)]
    simp [rv, hj])
  rw [this, List.take_of_length_le (by simp), bytes_asc l ha]
theorem upB_asc {c : UInt8} (h : c.toNat < 128) : (Lib.upperB c).toNat < 128 := by
  have : ∀ c : Fin 128, (Lib.upperB (UInt8.ofNat c.val)).toNat < 128 := by decide +kernel
  have e := this ⟨c.toNat, h⟩
  simpa using e
/-- A text that neither begins nor ends with a space is not trimmed. -/
theorem trim_same (l : List UInt8) (h1 : ∀ c, l.head? = some c → Lib.isSp c = false) (h2 : ∀ c, l.getLast? = some c → Lib.isSp c = false) : Lib.trimSpace l = l := by
  unfold Lib.trimSpace
  cases l with
  | nil => rfl
  | cons a r =>
    have ha := h1 a rfl
    have e1 : List.dropWhile Lib.isSp (a :: r) = a :: r := by rw [List.dropWhile_cons, if_neg (by rw [ha]; decide)]
    rw [e1]
    have hr : (a :: r).reverse ≠ [] := by simp
    obtain ⟨b, t, hbt⟩ := List.exists_cons_of_ne_nil hr
    have hb : (a :: r).getLast? = some b := by rw [List.getLast?_eq_head?_reverse, hbt]; rfl
    have hb2 := h2 b hb
    rw [hbt, List.dropWhile_cons, if_neg (by rw [hb2]; decide), ← hbt, List.reverse_reverse]
end Go.Proofs.YtenmkoaimmnpdaaDoor
