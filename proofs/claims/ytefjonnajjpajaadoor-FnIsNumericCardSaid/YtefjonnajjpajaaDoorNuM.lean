/- IsNumeric and its thin door. Texts of at most 100 letters of the law. -/
import Derived.Test.YtefjonnajjpajaaDoorNuF0
import Derived.Test.YtefjonnajjpajaaDoorNuF1
import Derived.Test.YtefjonnajjpajaaDoorNuF2
import Derived.Test.YtefjonnajjpajaaDoorNuF3
import Derived.Test.YtefjonnajjpajaaDoorShelf
import Derived.Lib.Space
import Derived.Lib.SmallJoins
namespace Go.Proofs.YtefjonnajjpajaaDoor
open Go.RowKit
set_option linter.unusedVariables false
theorem float_any0 (s : ByteArray) (w : World) (hs : s.size ≤ 100) (hL : ∀ p, p < s.size → Ltr (bt s p)) (hF : Few (bt s) s.size) : Calls Tryd.prog 9 #[.string s, .int .i64 64] w (FloatRet (strip s) w) := by
  rcases strip_cases s with ⟨h0, hst⟩ | ⟨h0, h1, hst⟩ | ⟨h0, h1, hst⟩ | ⟨h0, h1, h2, hst⟩
  · exact float_0 s w hs hL hF h0 hst
  · exact float_1 s w hs hL hF h0 h1 hst
  · exact float_2 s w hs hL hF h0 h1 hst
  · exact float_3 s w hs hL hF h0 h1 h2 hst
abbrev Spaces (w : World) : Prop := Lib.TabIs Tryd.prog w "strings.asciiSpace" .u8 Lib.asciiSpaceTab
theorem gSpaces : Tryd.prog.globalNamed "strings.asciiSpace" = some 0 := by kernel_rfl
theorem Spaces.stays {w w' : World} (h : Spaces w) (hb : Below w.heap.size w w') : Spaces w' := Go.Joins.tab_stays gSpaces h hb (Nat.le_refl _)
theorem trim_none (l : List UInt8) (h : ∀ b ∈ l, Lib.isSp b = false) : Lib.trimSpace l = l := by
  have h1 : ∀ l : List UInt8, (∀ b ∈ l, Lib.isSp b = false) → l.dropWhile Lib.isSp = l := fun l h => by
    cases l with
    | nil => rfl
    | cons a l => rw [List.dropWhile_cons, if_neg (by rw [h a (List.mem_cons_self ..)]; decide)]
  unfold Lib.trimSpace
  rw [h1 l h, h1 l.reverse (fun b hb => h b (List.mem_reverse.1 hb)), List.reverse_reverse]
theorem ltr_byte {s : ByteArray} (hL : ∀ p, p < s.size → Ltr (bt s p)) : ∀ b ∈ s.data.toList, Ltr b.toNat := by
  intro b hb
  obtain ⟨i, hi, e⟩ := List.mem_iff_getElem.1 hb
  have hi2 : i < s.size := by rw [Lib.size_eq]; exact hi
  have := hL i hi2
  unfold bt at this
  rw [List.getD_eq_getElem?_getD, List.getElem?_eq_getElem hi, e] at this
  exact this
theorem ltr_sp {b : UInt8} (h : Ltr b.toNat) : Lib.isSp b = false := by
  have : ∀ c : Fin 256, Ltr c.val → Lib.isSp (UInt8.ofNat c.val) = false := by decide +kernel
  have e := this ⟨b.toNat, b.toNat_lt⟩ h
  simpa using e
theorem trimL (s : ByteArray) (w : World) (hs : s.size ≤ 100) (hL : ∀ p, p < s.size → Ltr (bt s p)) (hT : Spaces w) : Calls Tryd.prog 7 #[.string s] w fun e w' => e = .returned (.string s) ∧ Below w.heap.size w w' := by
  have hb := ltr_byte hL
  refine (Tryd.strings_TrimSpace s w (by omega) (fun j b hj => ?_) hT).mono ?_
  · have := hb b (List.mem_of_getElem? hj)
    unfold Ltr isD at this
    omega
  · rintro e w' ⟨rfl, rfl⟩
    rw [trim_none _ (fun b h => ltr_sp (hb b h))]
    exact ⟨rfl, Go.Joins.below_bytesWorld _ _ _ _ (Nat.le_refl _)⟩
def NumericRet (s : ByteArray) (w : World) (e : Ending) (w' : World) : Prop := (∃ b : Bool, e = .returned (.bool b) ∧ (b = true ↔ NumT (bt (strip s)) (strip s).size)) ∧ Below w.heap.size w w'
set_option maxHeartbeats 1000000 in
set_option maxRecDepth 100000 in
theorem numeric_any (s : ByteArray) (w : World) (hs : s.size ≤ 100) (hL : ∀ p, p < s.size → Ltr (bt s p)) (hF : Few (bt s) s.size) (hT : Spaces w) :
    Calls Tryd.prog 6 #[.string s] w (NumericRet s w) := by
  have h1 := trimL s w hs hL hT
  have h2 := fun W => atoi_any s W (by omega) hL
  have h3 := fun W => float_any0 s W hs hL hF
  by_cases h0 : s.size = 0
  · have he := emp_t h0
    have hz : ¬ NumT (bt (strip s)) (strip s).size := fun h => by
      have := numT_pos h
      have := strip_size s
      omega
    have HZ := Lib.hid hz
    clear h0 hz hL hF hT h2 h3
    go_enter Tryd.func6, Tryd.ntmps6
    go_wp2_with (go_at_call 7; refine halt_H ?_)
    refine resume_H ?_
    refine h1.mono ?_
    rintro e w1 ⟨rfl, hb⟩
    have HB := Lib.hid hb
    clear h1 hb
    go_wp2
    go_ret
    exact ⟨⟨false, rfl, fun h => by simp at h, fun h => absurd h HZ.out⟩, HB.out⟩
  · have he := emp_f h0
    clear h0 hL hF hT
    go_enter Tryd.func6, Tryd.ntmps6
    go_wp2_with (go_at_call 7; refine halt_H ?_)
    refine resume_H ?_
    refine h1.mono ?_
    rintro e w1 ⟨rfl, hb⟩
    have HB := Lib.hid hb
    clear h1 hb
    go_wp2_with (go_at_call 8; refine halt_H ?_)
    refine resume_H ?_
    refine (h2 _).mono ?_
    rintro e w2 ⟨n, x, rfl, hx, hb⟩
    have HB2 := Lib.hid (HB.out.trans (hb.mono HB.out.size))
    clear h2 hb
    rcases hx with ⟨rfl, hp, hd⟩ | ⟨ty, v, rfl⟩
    · have HN := Lib.hid (numT_of_digits hp hd)
      clear hp hd h3
      go_wp2
      go_ret
      exact ⟨⟨true, rfl, fun _ => HN.out, fun _ => rfl⟩, HB2.out⟩
    · go_wp2_with (go_at_call 9; refine halt_H ?_)
      refine resume_H ?_
      refine (h3 _).mono ?_
      rintro e w3 ⟨x, y, rfl, hy, hb⟩
      have HB3 := Lib.hid (HB2.out.trans (hb.mono HB2.out.size))
      clear h3 hb
      rcases hy with ⟨rfl, hn⟩ | ⟨hn, ty, v, rfl⟩
      · have HN := Lib.hid hn
        clear hn
        go_wp2
        go_ret
        exact ⟨⟨true, rfl, fun _ => HN.out, fun _ => rfl⟩, HB3.out⟩
      · have HN := Lib.hid hn
        clear hn
        go_wp2
        go_ret
        exact ⟨⟨false, rfl, fun h => by simp at h, fun h => absurd h HN.out⟩, HB3.out⟩
theorem implNumeric_any (s : ByteArray) (w : World) (hs : s.size ≤ 100) (hL : ∀ p, p < s.size → Ltr (bt s p)) (hF : Few (bt s) s.size) (hT : Spaces w) :
    Calls Tryd.prog 4 #[.string s] w (NumericRet s w) := by
  have H := Lib.hid (numeric_any s w hs hL hF hT)
  go_enter Tryd.func4, Tryd.ntmps4
  go_wp2_with (go_at_call 6; refine halt_H ?_)
  refine resume_H ?_
  refine H.out.mono ?_
  rintro e w1 ⟨⟨b, rfl, hb⟩, hw⟩
  have HB := Lib.hid (And.intro hb hw)
  clear H hb hw
  go_wp2
  go_ret
  exact ⟨⟨b, rfl, HB.out.1⟩, HB.out.2⟩
end Go.Proofs.YtefjonnajjpajaaDoor
