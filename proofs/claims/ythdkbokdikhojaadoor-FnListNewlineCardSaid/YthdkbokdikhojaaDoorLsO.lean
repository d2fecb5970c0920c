/- A style's new line in the place of each line end: the texts; lsAlive. No conditions. -/
import Derived.Test.YthdkbokdikhojaaDoorLsN
namespace Go.Proofs.YthdkbokdikhojaaDoor
open Go.RowKit
set_option linter.unusedVariables false
theorem idx_mid : ∀ (a b : List UInt8), (10 : UInt8) ∉ a → idx [10] (a ++ 10 :: b) = some a.length
  | [], b, _ => idx_hit [10] _ (by simp [List.isPrefixOf])
  | c :: a, b, h => by
    have hc : ¬ c = 10 := fun e => h (by simp [e])
    have ih := idx_mid a b (fun hm => h (by simp [hm]))
    have := idx_step [10] (c :: a ++ 10 :: b) 0 (by simp) (by simp [List.isPrefixOf]; exact fun e => hc e.symm)
    simp only [List.drop_zero, Nat.zero_add, List.cons_append, List.drop_succ_cons] at this
    rw [List.cons_append, this, ih]
    rfl
theorem idx_no (s : List UInt8) (h : (10 : UInt8) ∉ s) : idx [10] s = none := idx_one_none 10 s h []
theorem rep_mid (nl a b : List UInt8) (ha : (10 : UInt8) ∉ a) (hb : (10 : UInt8) ∉ b) : rep [10] nl (a ++ 10 :: b) = a ++ nl ++ b := by
  unfold rep
  obtain ⟨f, hf⟩ : ∃ f, (a ++ 10 :: b).length = f + 1 := ⟨a.length + b.length, by simp; omega⟩
  rw [hf, repF_some [10] nl f _ a.length (idx_mid a b ha)]
  have e1 : (a ++ 10 :: b).take a.length = a := by simp
  have e2 : (a ++ 10 :: b).drop (a.length + [(10 : UInt8)].length) = b := by
    rw [List.drop_append]
    simp
  rw [e1, e2, repF_none [10] nl f b (idx_no b hb)]
theorem simp_no {t : ByteArray} (h : simp false t = true) (c : UInt8) (hc : c.toNat < 32) : c ∉ t.data.toList := fun hb => by
  have := simp_bytes h _ hb
  simp at this
  omega
theorem nl_texts (a b nl : ByteArray) (ha : simp false a = true) (hb : simp false b = true) (hn : simp false nl = true) (sa : a.size ≤ 200) (sb : b.size ≤ 200) (sn : nl.size ≤ 20) :
    clean (a ++ ⟨#[10]⟩ ++ b) ∧ clean (a ++ nl ++ b) ∧ (finT nl (a ++ ⟨#[10]⟩ ++ b)).data.toList = a.data.toList ++ nl.data.toList ++ b.data.toList ∧ (finT ⟨#[10]⟩ (a ++ nl ++ b)).data.toList = a.data.toList ++ nl.data.toList ++ b.data.toList ∧
      (10 : UInt8) ∉ a.data.toList ++ nl.data.toList ++ b.data.toList ∧ (a.data.toList ++ nl.data.toList ++ b.data.toList).length ≤ 420 := by
  have e1 : (a ++ ⟨#[10]⟩ ++ b : ByteArray).data.toList = a.data.toList ++ 10 :: b.data.toList := by simp
  have e2 : (a ++ nl ++ b : ByteArray).data.toList = a.data.toList ++ nl.data.toList ++ b.data.toList := by simp
  have n10 : (10 : UInt8) ∉ a.data.toList ++ nl.data.toList ++ b.data.toList := by
    simp only [List.mem_append, not_or]
    exact ⟨⟨simp_no ha 10 (by decide), simp_no hn 10 (by decide)⟩, simp_no hb 10 (by decide)⟩
  have hne : nl.data.toList ≠ [10] := fun e => simp_no hn 10 (by decide) (by rw [e]; simp)
  refine ⟨⟨?_, ?_, ?_⟩, ⟨?_, ?_, ?_⟩, ?_, ?_, n10, ?_⟩
  · rw [ByteArray.size_append, ByteArray.size_append]; show _ + 1 + _ ≤ _; omega
  · rw [e1]; simp only [List.mem_append, List.mem_cons, not_or]; exact ⟨simp_no ha 9 (by decide), by decide, simp_no hb 9 (by decide)⟩
  · rw [e1]; simp only [List.mem_append, List.mem_cons, not_or]; exact ⟨simp_no ha 13 (by decide), by decide, simp_no hb 13 (by decide)⟩
  · rw [ByteArray.size_append, ByteArray.size_append]; omega
  · rw [e2]; simp only [List.mem_append, not_or]; exact ⟨⟨simp_no ha 9 (by decide), simp_no hn 9 (by decide)⟩, simp_no hb 9 (by decide)⟩
  · rw [e2]; simp only [List.mem_append, not_or]; exact ⟨⟨simp_no ha 13 (by decide), simp_no hn 13 (by decide)⟩, simp_no hb 13 (by decide)⟩
  · unfold finT
    rw [if_pos ⟨by rw [e1]; simp, hne⟩, e1, rep_mid _ _ _ (simp_no ha 10 (by decide)) (simp_no hb 10 (by decide))]
  · unfold finT
    rw [if_neg (fun h => h.2 rfl), e2]
  · simp only [List.length_append, ← Lib.size_eq]; omega
theorem own_step1 (W : World) (t : ByteArray) : (W.alloc (.cells #[.int .i64 0, .string t, .slice none 0 0] 50)).ownsRow W.heap.size 50 3 (.slice (some ⟨W.heap.size, 0, none⟩) 1 1) 1 (stpCells [(0, t)]) :=
  World.ownsRow_lit W _ 1 (Nat.le_refl _) (by unfold maxLen; omega) rfl
set_option maxHeartbeats 1000000 in
set_option maxRecDepth 100000 in
theorem alive_any (w : World) : Calls Tryd.prog 14 #[] w fun e w' => e = .returned (.bool true) ∧ Below w.heap.size w w' := by
  have hc : clean ⟨#[97]⟩ := ⟨by decide, by decide, by decide⟩
  have HR := Lib.hid (render_one ⟨#[42]⟩ ⟨#[]⟩ ⟨#[]⟩ ⟨#[]⟩ ⟨#[]⟩ ⟨#[]⟩ ⟨#[10]⟩ ⟨#[]⟩ ⟨#[97]⟩ (by decide) hc (by decide) (by decide) w.heap.size _ _ (own_step1 w ⟨#[97]⟩))
  have he : (⟨(oneL ⟨#[42]⟩ ⟨#[]⟩ (finT ⟨#[10]⟩ ⟨#[97]⟩).data.toList).toArray⟩ : ByteArray) = ⟨#[42, 32, 97]⟩ := by decide
  rw [he] at HR
  unfold styA at HR
  clear hc he
  go_enter Tryd.func14, Tryd.ntmps14
  go_wp2_with (go_at_call 10; refine HR.out.mono ?_; rintro e w1 ⟨rfl, k1⟩; have K1 := Lib.hid k1; clear k1)
  go_ret
  exact ⟨rfl, ((Below.refl w.heap.size w).alloc (Nat.le_refl _) _).trans (K1.out.mono (by simp))⟩
end Go.Proofs.YthdkbokdikhojaaDoor
