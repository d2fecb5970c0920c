/- The words of a text, in plain Lean: what a reader of bytes has after k bytes. No conditions. -/
import Derived.Test.YtgjbpjkepdbnkaaDoorBase
import Derived.Test.YtgjbpjkepdbnkaaDoorTxt
namespace Go.Proofs.YtgjbpjkepdbnkaaDoor
set_option linter.unusedVariables false
def isp (c : UInt8) : Bool := c.toNat == 32 || c.toNat == 9 || c.toNat == 10
def okc (c : UInt8) : Prop := 32 ≤ c.toNat ∧ c.toNat ≤ 126 ∨ c.toNat = 9 ∨ c.toNat = 10
structure St where
  ws : List (List UInt8)
  cur : List UInt8
def stW (a : St) (c : UInt8) : St := if isp c then ⟨if a.cur = [] then a.ws else a.ws ++ [a.cur], []⟩ else ⟨a.ws, a.cur ++ [c]⟩
def wst (l : List UInt8) (k : Nat) : St := (l.take k).foldl stW ⟨[], []⟩
theorem wst_zero (l : List UInt8) : wst l 0 = ⟨[], []⟩ := by simp [wst]
theorem wst_succ (l : List UInt8) (k : Nat) (h : k < l.length) : wst l (k + 1) = stW (wst l k) l[k] := by
  unfold wst
  rw [List.take_succ_eq_append_getElem h, List.foldl_append]; rfl
def fin (a : St) : List (List UInt8) := if a.cur = [] then a.ws else a.ws ++ [a.cur]
theorem wst_cur (l : List UInt8) : ∀ k, k ≤ l.length → ∃ b, b + (wst l k).cur.length = k ∧ (l.take k).drop b = (wst l k).cur ∧ (wst l k).ws.length + (wst l k).cur.length ≤ k
  | 0, _ => ⟨0, by simp [wst_zero], by simp [wst_zero], by simp [wst_zero]⟩
  | k + 1, h => by
    obtain ⟨b, h1, h2, h3⟩ := wst_cur l k (by omega)
    rw [wst_succ l k (by omega)]
    unfold stW
    by_cases hs : isp l[k] = true
    · rw [if_pos hs]
      refine ⟨k + 1, rfl, by simp, ?_⟩
      by_cases e : (wst l k).cur = []
      · rw [if_pos e]; simp only [List.length_nil]; omega
      · have : 0 < (wst l k).cur.length := List.length_pos_iff.2 e
        rw [if_neg e]; simp only [List.length_append, List.length_nil, List.length_singleton]; omega
    · rw [if_neg hs]
      refine ⟨b, by simp only [List.length_append, List.length_singleton]; omega, ?_, by simp only [List.length_append, List.length_singleton]; omega⟩
      rw [List.take_succ_eq_append_getElem (by omega), List.drop_append_of_le_length (by rw [List.length_take]; omega), h2]
theorem wst_len (l : List UInt8) (k : Nat) (h : k ≤ l.length) : (wst l k).ws.length + (wst l k).cur.length ≤ k := by
  obtain ⟨_, _, _, h3⟩ := wst_cur l k h; exact h3
theorem fin_len (l : List UInt8) (k : Nat) (h : k ≤ l.length) : (fin (wst l k)).length ≤ k := by
  have := wst_len l k h
  unfold fin
  by_cases e : (wst l k).cur = []
  · rw [if_pos e]; omega
  · have : 0 < (wst l k).cur.length := List.length_pos_iff.2 e
    rw [if_neg e]; simp only [List.length_append, List.length_singleton]; omega
/-- The word that is being read, cut out of the text. -/
theorem cur_cut (s : ByteArray) (k b : Nat) (hk : k ≤ s.size) (c : List UInt8) (h1 : b + c.length = k) (h2 : (s.data.toList.take k).drop b = c) : s.extract b k = ⟨c.toArray⟩ := by
  apply bytes_ext
  rw [Lib.extract_data, ← h2, List.drop_take]
/-- One step, as the reader's state. -/
theorem wst_sp (s : ByteArray) (k : Nat) (h : k < s.size) (hs : isp (s[k]'h) = true) : wst s.data.toList (k + 1) = ⟨fin (wst s.data.toList k), []⟩ := by
  have e : s.data.toList[k]'(by rw [← Lib.size_eq]; exact h) = s[k]'h := rfl
  rw [wst_succ _ _ (by rw [← Lib.size_eq]; exact h), e]
  unfold stW fin; rw [if_pos hs]
theorem wst_ch (s : ByteArray) (k : Nat) (h : k < s.size) (hs : ¬ isp (s[k]'h) = true) : wst s.data.toList (k + 1) = ⟨(wst s.data.toList k).ws, (wst s.data.toList k).cur ++ [s[k]'h]⟩ := by
  have e : s.data.toList[k]'(by rw [← Lib.size_eq]; exact h) = s[k]'h := rfl
  rw [wst_succ _ _ (by rw [← Lib.size_eq]; exact h), e]
  unfold stW; rw [if_neg hs]
theorem wst_len' (s : ByteArray) (k : Nat) (h : k ≤ s.size) : (wst s.data.toList k).ws.length + (wst s.data.toList k).cur.length ≤ k := wst_len _ _ (by rw [← Lib.size_eq]; exact h)
theorem wst_cur' (s : ByteArray) (k : Nat) (h : k ≤ s.size) : ∃ b, b + (wst s.data.toList k).cur.length = k ∧ s.extract b k = ⟨(wst s.data.toList k).cur.toArray⟩ := by
  obtain ⟨b, h1, h2, _⟩ := wst_cur s.data.toList k (by rw [← Lib.size_eq]; exact h)
  exact ⟨b, h1, cur_cut s k b h _ h1 h2⟩
theorem fin_len' (s : ByteArray) (k : Nat) (h : k ≤ s.size) : (fin (wst s.data.toList k)).length ≤ k := fin_len _ _ (by rw [← Lib.size_eq]; exact h)
def wordsOf (s : ByteArray) : List (List UInt8) := fin (wst s.data.toList s.size)
theorem strV_mk (l : List UInt8) : strV l = .string ⟨l.toArray⟩ := rfl
theorem add_ch (l : List UInt8) (s : ByteArray) (k : Nat) (h : k < s.size) : (⟨l.toArray⟩ : ByteArray) ++ s.extract k (k + 1) = ⟨(l ++ [s[k]'h]).toArray⟩ := by
  apply bytes_ext
  have hl : k < s.data.toList.length := by rw [← Lib.size_eq]; exact h
  rw [ByteArray.data_append, Array.toList_append, Lib.extract_data, Nat.add_sub_cancel_left, List.drop_eq_getElem_cons hl]
  simp
  rfl
end Go.Proofs.YtgjbpjkepdbnkaaDoor
