/- Leaving out escape sequences: the walk of the package's StripEscape, over texts that are runes. Texts of at most 1000000 bytes. -/
import Derived.Test.YtmllpoafjcldgaaDoorBldR
import Derived.Test.YtmllpoafjcldgaaDoorSjP
import Derived.Test.YtmllpoafjcldgaaDoorIter
import Derived.Laws.RangeAny
namespace Go.Proofs.YtmllpoafjcldgaaDoor
open Go.RowKit
open Go.Lib (encodeRune decodeL)
set_option linter.unusedVariables false
theorem enc_stR_len : ∀ (T : List Nat) (e : Bool), (enc (stR e T)).length ≤ (enc T).length
  | [], e => by simp [stR, enc]
  | r :: T, e => by
    have ih := enc_stR_len T (nx e r)
    rw [stR, enc_app, enc_cons, List.length_append, List.length_append]
    split
    · simp [enc]; have := ih; simp [enc] at this; omega
    · rw [enc_cons, List.length_append]; simp [enc] at ih ⊢; omega
theorem halt_Sj {p : Prop} (h : Hid p) : p := h
theorem resume_Sj {p : Prop} (h : p) : Hid p := h
def StripRet (T : List Nat) (w : World) (e : Ending) (w' : World) : Prop := e = .returned (.string ⟨(enc (stR false T)).toArray⟩) ∧ Below w.heap.size w w'
set_option maxHeartbeats 1000000 in
set_option maxRecDepth 100000 in
theorem strip_any (s : ByteArray) (T : List Nat) (w : World) (hT : s.data.toList = enc T) (hr : ∀ r ∈ T, Rn r) (hs : s.size ≤ 1000000) : Calls Tryd.prog 13 #[.string s] w (StripRet T w) := by
  have HT := Lib.hid hT
  have HR := Lib.hid hr
  have HL := Lib.hid (enc_stR_len T false)
  have hsz : s.size = (enc T).length := by rw [Lib.size_eq, hT]
  have HZ := Lib.hid hsz
  clear hT hr hsz
  go_enter Tryd.func13, Tryd.ntmps13
  go_wp2_with fail
  go_loopw [4] (fun ev wr => ∃ (A C : List Nat) (e : Bool) (pos : Nat), Hid (T = A ++ C) ∧ Hid (pos = (enc A).length) ∧ ev = .bool e ∧ Hid (e = fin false A) ∧ pos ≤ s.size ∧ wr.heap[w.heap.size + 1]? = some (.stringIter s pos) ∧ Hid (Bld w.heap.size w.heap.size (enc (stR false A)) wr) ∧ Hid (Below w.heap.size w wr)) (fun _ wr => s.size - wr.iterPos (w.heap.size + 1))
  case atStart => exact ⟨[], T, false, 0, Lib.hid rfl, Lib.hid rfl, rfl, Lib.hid rfl, Nat.zero_le _, itNew (by simp), Lib.hid ((bld_fresh w).alloc _), Lib.hid (((Below.refl _ _).alloc (Nat.le_refl _) _).alloc (by simp) _)⟩
  case round =>
    obtain ⟨A, C, e, pos, hAC, hpA, rfl, he, hps, hit, hB, HB⟩ := hrel
    obtain ⟨wo, rfl⟩ : ∃ wo : World, wo = wr := ⟨_, rfl⟩
    have hpos := itPos hit
    have hBs := HB.out.size
    cases C with
    | nil =>
      have hpe : pos = s.size := by rw [HZ.out, hAC.out, List.append_nil, hpA.out]
      have hnx : ∀ ty, (Instr.next (.pointer (some ⟨w.heap.size + 1, 0, none⟩)) true ty).run Tryd.prog wo = _ := fun ty => Lib.run_next_end_at wo (w.heap.size + 1) s pos ty hit (by omega)
      have HF := Lib.hid (show enc (stR false A) = enc (stR false T) by rw [hAC.out, List.append_nil])
      have HS := Lib.hid (Tryd.Builder_String_any_f w.heap.size w.heap.size _ wo hB.out hBs)
      clear hit hpos hB hAC hpA he
      go_wp2_with (go_at_call 18; refine halt_Sj ?_)
      refine resume_Sj ?_
      refine HS.out.mono ?_
      rintro e2 w1 ⟨rfl, hb1, hb2⟩
      have HB2 := Lib.hid (HB.out.trans hb2)
      clear hb1 hb2 HS
      go_wp2_with fail
      go_ret
      exact ⟨by rw [← HF.out]; rfl, HB2.out⟩
    | cons r C =>
      have hdrop : s.data.toList.drop pos = encodeRune (r : Int) ++ enc C := by
        rw [HT.out, hAC.out, enc_app, enc_cons, hpA.out, List.drop_left]
      have hRr := HR.out r (by rw [hAC.out]; simp)
      have hdec : Utf8.decode s pos = (r, (encodeRune (r : Int)).length) := by rw [decode_drop, hdrop]; exact hRr.2 _
      have hlen : s.size = pos + (encodeRune (r : Int)).length + (enc C).length := by
        rw [HZ.out, hAC.out, enc_app, enc_cons, List.length_append, List.length_append, ← hpA.out]; omega
      have hw1 : 1 ≤ (encodeRune (r : Int)).length := List.length_pos_iff.2 hRr.1
      have hw4 : (encodeRune (r : Int)).length ≤ 4 := by rw [← Lib.runeCells_length]; exact (Lib.runeCells_le _).2
      have hr1 : (r : Int) ≤ 2147483647 := by have := decode_le s pos; rw [hdec] at this; simp only at this; omega
      have hnx : ∀ ty, (Instr.next (.pointer (some ⟨w.heap.size + 1, 0, none⟩)) true ty).run Tryd.prog wo = _ := fun ty => Lib.run_next_any_at wo (w.heap.size + 1) s pos ty hit (by omega)
      rw [hdec] at hnx
      have hit2 := Lib.iterAt_heap wo (w.heap.size + 1) s pos (pos + (encodeRune (r : Int)).length) hit
      have hpos2 := itPos hit2
      have HB2 := Lib.hid (Lib.below_iterAt HB.out (show w.heap.size ≤ w.heap.size + 1 by omega) s (pos + (encodeRune (r : Int)).length))
      have hB2 := Lib.hid (Lib.IsBuilderF.iterAt hB.out hit (pos + (encodeRune (r : Int)).length))
      have HAC2 := Lib.hid (show T = (A ++ [r]) ++ C by rw [hAC.out]; simp)
      have HP2 := Lib.hid (show pos + (encodeRune (r : Int)).length = (enc (A ++ [r])).length by rw [enc_app, List.length_append, enc_cons, ← hpA.out]; simp [enc])
      have HE2 := Lib.hid (show nx e r = fin false (A ++ [r]) by rw [fin_app, ← he.out]; rfl)
      have HO2 := Lib.hid (show enc (stR false (A ++ [r])) = enc (stR false A) ++ (if (e || r == 27) = true then [] else encodeRune (r : Int)) by
        rw [stR_app, enc_app, ← he.out]
        congr 1
        show enc ((if (e || r == 27) = true then [] else [r]) ++ stR (nx e r) []) = _
        split <;> simp [stR, enc])
      have hol : (enc (stR false A)).length ≤ 1000000 := by
        have h1 := enc_stR_len A false
        rw [← hpA.out] at h1; omega
      have HLo := Lib.hid hol
      generalize hW : wo.iterAt (w.heap.size + 1) s (pos + (encodeRune (r : Int)).length) = W at *
      have hWs := HB2.out.size
      clear hit hB HB hW hRr hdrop hdec hAC hpA he hBs hol
      have gm : ((r : Int) == 109) = (r == 109) := by rw [Bool.eq_iff_iff]; simp; omega
      by_cases h27 : r = 27
      · subst h27
        have HO3 := Lib.hid (show enc (stR false (A ++ [27])) = enc (stR false A) by rw [HO2.out]; simp)
        have HE3 := Lib.hid (show true = fin false (A ++ [27]) by rw [← HE2.out]; cases e <;> rfl)
        generalize (encodeRune ((27 : Nat) : Int)).length = wd at *
        clear HO2 HE2 gm
        go_wp2_with fail
        go_roundw
        case rel => exact ⟨A ++ [27], C, true, pos + wd, HAC2, HP2, rfl, HE3, by omega, hit2, Lib.hid (by rw [HO3.out]; exact hB2.out), HB2⟩
        case measure => rw [hpos2, hpos]; omega
      · have g27 : ((r : Int) == 27) = false := by rw [beq_eq_false_iff_ne]; omega
        cases e with
        | true =>
          have HO3 := Lib.hid (show enc (stR false (A ++ [r])) = enc (stR false A) by rw [HO2.out]; simp)
          generalize (encodeRune (r : Int)).length = wd at *
          by_cases h109 : r = 109
          · have gg : ((r : Int) == 109) = true := by rw [beq_iff_eq]; omega
            have HE3 := Lib.hid (show false = fin false (A ++ [r]) by rw [← HE2.out]; subst h109; rfl)
            clear HO2 HE2 gm h27 h109
            go_wp2_with fail
            go_roundw
            case rel => exact ⟨A ++ [r], C, false, pos + wd, HAC2, HP2, rfl, HE3, by omega, hit2, Lib.hid (by rw [HO3.out]; exact hB2.out), HB2⟩
            case measure => rw [hpos2, hpos]; omega
          · have gg : ((r : Int) == 109) = false := by rw [beq_eq_false_iff_ne]; omega
            have HE3 := Lib.hid (show true = fin false (A ++ [r]) by rw [← HE2.out]; simp [nx, h109])
            clear HO2 HE2 gm h27 h109
            go_wp2_with fail
            go_roundw
            case rel => exact ⟨A ++ [r], C, true, pos + wd, HAC2, HP2, rfl, HE3, by omega, hit2, Lib.hid (by rw [HO3.out]; exact hB2.out), HB2⟩
            case measure => rw [hpos2, hpos]; omega
        | false =>
          have HO3 := Lib.hid (show Lib.byteCells (enc (stR false (A ++ [r]))) = Lib.byteCells (enc (stR false A)) ++ Lib.runeCells (r : Int) by
            rw [HO2.out, bytes_app, ← Lib.byteCells_encodeRune]; simp [h27])
          have HE3 := Lib.hid (show false = fin false (A ++ [r]) by rw [← HE2.out]; simp [nx, h27])
          have HWr := Lib.hid (bld_rune w.heap.size w.heap.size _ (r : Int) (by omega) hr1 W hB2.out (by have := HLo.out; simp [Lib.byteCells]; omega) hWs)
          generalize (encodeRune (r : Int)).length = wd at *
          clear HO2 HE2 gm h27 hB2
          go_wp2_with (go_at_call 17; refine halt_Sj ?_)
          refine resume_Sj ?_
          refine HWr.out.mono ?_
          rintro e2 w1 ⟨rfl, hb1, hb2, hk⟩
          have HB3 := Lib.hid (HB2.out.trans hb2)
          have hit3 := hk.iter hit2 (by omega)
          have hpos3 := itPos hit3
          have hB3 := Lib.hid (show Bld w.heap.size w.heap.size (enc (stR false (A ++ [r]))) w1 by unfold Bld; rw [HO3.out]; exact hb1)
          clear hb1 hb2 hk HWr hit2
          go_wp2_with fail
          go_roundw
          case rel => exact ⟨A ++ [r], C, false, pos + wd, HAC2, HP2, rfl, HE3, by omega, hit3, hB3, HB3⟩
          case measure => rw [hpos3, hpos]; omega
theorem implStrip_any (s : ByteArray) (T : List Nat) (w : World) (hT : s.data.toList = enc T) (hr : ∀ r ∈ T, Rn r) (hs : s.size ≤ 1000000) : Calls Tryd.prog 7 #[.string s] w (StripRet T w) := by
  have H := Lib.hid (strip_any s T w hT hr hs)
  go_enter Tryd.func7, Tryd.ntmps7
  go_wp2_with (go_at_call 13; refine H.out.mono ?_; rintro e w' ⟨rfl, hb⟩; have HB := Lib.hid hb; clear hb)
  go_ret
  exact ⟨rfl, HB.out⟩
end Go.Proofs.YtmllpoafjcldgaaDoor
