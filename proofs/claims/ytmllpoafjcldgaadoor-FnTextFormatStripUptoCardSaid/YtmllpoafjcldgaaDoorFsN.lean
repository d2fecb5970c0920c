/- strings.Map at the closure of toUpper. Texts of known runes, at most 1000000 bytes. -/
import Derived.Test.YtmllpoafjcldgaaDoorFsM
import Derived.Test.YtmllpoafjcldgaaDoorSjS
namespace Go.Proofs.YtmllpoafjcldgaaDoor
open Go.RowKit
open Go.Lib (encodeRune toUpperU caseA CaseRow CaseVar decodeL)
set_option linter.unusedVariables false
theorem halt_Fn {p : Prop} (h : Hid p) : p := h
theorem resume_Fn {p : Prop} (h : p) : Hid p := h
theorem Bld.past {B b g : Nat} {l : List UInt8} {w w' : World} (h : Bld B b l w) (hg : g < B) (hb : w.grownBy w' (some g)) : Bld B b l w' := by
  rcases h with h | h
  · have hlt := h.lt
    obtain ⟨hB, v, hk, hown, hne⟩ := h
    exact .inl ⟨hB, v, (hb.block _ hlt (by intro e; injection e with e; omega)).trans hk, hown.kept hb (.inr (fun e => by have := (hown.lt g e).1; omega)), hne⟩
  · have hlt := h.lt
    obtain ⟨hB, v, hk, hown, hne⟩ := h
    exact .inr ⟨hB, v, (hb.block _ hlt (by intro e; injection e with e; omega)).trans hk, hown.kept hb (.inr (fun e => by have := (hown.lt g e).1; omega)), hne⟩
theorem clo_enter (g : Nat) : ∀ args w, (callFunc g args).run Tryd.prog w = .ok (.enter g args) w → True := fun _ _ _ => trivial
def MapRet (g : Nat) (e0 : Bool) (T : List Nat) (B : Nat) (w : World) (e : Ending) (w' : World) : Prop := e = .returned (.string ⟨(enc (upT e0 T)).toArray⟩) ∧ CB g (fin e0 T) w' ∧ Below B w w'
theorem past_below {B g : Nat} {w w' w0 : World} (h : Below B w0 w) (hb : w.grownBy w' (some g)) (hg : B ≤ g) (hs : B ≤ w.heap.size) : Below B w0 w' := h.grown hb hs (fun k hk => by injection hk with hk; omega)
/-- The closure's call at a world that holds the builder and the reader. -/
def CloK (g : Nat) (e : Bool) (r : Nat) (W : World) (en : Ending) (W' : World) : Prop := en = .returned (.int .i32 (outU e r)) ∧ CB g (nx e r) W' ∧ W.grownBy W' (some g)
theorem cap_pos (B b : Nat) (l : List UInt8) (w : World) (h : Bld B b l w) (hl : 1 ≤ l.length) : ∃ p n cap, w.cell? ⟨b, 1, none⟩ = some (.slice p n cap) ∧ 1 ≤ cap := by
  have hln : 1 ≤ (Lib.byteCells l).length := by simp [Lib.byteCells]; exact hl
  have key : ∀ {x : Value}, Lib.BuilderAtF 42 5 B b x (Lib.byteCells l) w → ∃ p n cap, w.cell? ⟨b, 1, none⟩ = some (.slice p n cap) ∧ 1 ≤ cap := by
    intro x h
    obtain ⟨_, v6, hv6, hown6, _⟩ := h
    rcases hown6.2 with ⟨_, h0⟩ | ⟨g6, cap6, _, _, rfl, _, _, _, hnc, _⟩
    · omega
    · exact ⟨_, _, cap6, by rw [Lib.cell_of_heap hv6]; rfl, by omega⟩
  exact h.elim key key
set_option maxHeartbeats 2000000 in
set_option maxRecDepth 100000 in
theorem map_any (B g : Nat) (s : ByteArray) (T : List Nat) (e0 : Bool) (w : World) (hT : s.data.toList = enc T) (hr : ∀ r ∈ T, Rn r ∧ r ≠ 65533) (hs : s.size ≤ 1000000) (hBg : B ≤ g) (hgw : g < w.heap.size) (hcb : CB g e0 w) (hV : ∀ W, Below B w W → CaseIn W) :
    Calls Tryd.prog 30 #[.func (.func 35) #[] #[.pointer (some ⟨g, 0, none⟩)], .string s] w (MapRet g e0 T B w) := by
  have HT := Lib.hid hT
  have HR := Lib.hid hr
  have HV := Lib.hid hV
  have hsz : s.size = (enc T).length := by rw [Lib.size_eq, hT]
  have HZ := Lib.hid hsz
  have hTl : T.length ≤ s.size := by rw [hsz]; exact enc_len_lo T (fun r h => (hr r h).1)
  have eg : ∀ args w, (callFunc 35 args).run Tryd.prog w = .ok (.enter 35 args) w := enters_of Tryd.func35 (by kernel_rfl) rfl
  have HC := Lib.hid (fun (W : World) (A : List Nat) (r : Nat) (h1 : r ≤ 1114111) (h2 : CB g (fin e0 A) W) (h3 : Below B w W) => clo_any g (fin e0 A) r W h1 h2 (hV W h3))
  have HG := Lib.hid hcb
  clear hT hr hsz hV hcb
  go_enter Tryd.func30, Tryd.ntmps30
  go_wp2_with fail
  go_loopw [1] (fun s1 wr => s1 = .string s ∧ ∃ (A C : List Nat) (pos : Nat), Hid (T = A ++ C) ∧ Hid (pos = (enc A).length) ∧ Hid (enc (upT e0 A) = enc A) ∧ pos ≤ s.size ∧ wr.heap[w.heap.size]? = some (.cells #[.pointer none, .slice none 0 0] 42 (0, 0)) ∧ wr.heap[w.heap.size + 1]? = some (.stringIter s pos) ∧ CB g (fin e0 A) wr ∧ Hid (Below B w wr)) (fun _ wr => s.size - wr.iterPos (w.heap.size + 1))
  case atStart =>
    have hg1 := itOld (o' := .cells #[.pointer none, .slice none 0 0] 42) HG.out
    exact ⟨rfl, [], T, 0, Lib.hid rfl, Lib.hid rfl, Lib.hid rfl, Nat.zero_le _, itOld (itNew rfl), itNew (by simp), itOld hg1, Lib.hid (((Below.refl _ _).alloc (by omega) _).alloc (by simp; omega) _)⟩
  case round =>
    obtain ⟨rfl, A, C, pos, hAC, hpA, hUA, hps, hfr, hit, hcb, HB⟩ := hrel
    obtain ⟨wo, rfl⟩ : ∃ wo : World, wo = wr := ⟨_, rfl⟩
    have hpos := itPos hit
    have hBs := HB.out.size
    cases C with
    | nil =>
      have hpe : pos = s.size := by rw [HZ.out, hAC.out, List.append_nil, hpA.out]
      have hnx : ∀ ty, (Instr.next (.pointer (some ⟨w.heap.size + 1, 0, none⟩)) true ty).run Tryd.prog wo = _ := fun ty => Lib.run_next_end_at wo (w.heap.size + 1) s pos ty hit (by omega)
      have c1 : wo.cell? ⟨w.heap.size, 1, none⟩ = some (.slice none 0 0) := by rw [Lib.cell_of_heap hfr]; rfl
      have HK := Lib.hid (Tryd.Builder_Cap_cell w.heap.size none 0 0 wo c1)
      have HE := Lib.hid (show s = ⟨(enc (upT e0 T)).toArray⟩ by
        have h1 : T = A := by have := hAC.out; simpa using this
        rw [h1, hUA.out, ← h1, ← HT.out])
      have HF := Lib.hid (show fin e0 A = fin e0 T by rw [hAC.out, List.append_nil])
      have HG2 := Lib.hid hcb
      clear hit hpos hAC hpA hcb c1
      go_wp2_with (go_at_call 42; refine halt_Fn ?_)
      refine resume_Fn ?_
      refine HK.out.mono ?_
      rintro e2 w1 ⟨rfl, rfl⟩
      clear HK
      go_wp2_with fail
      go_ret
      exact ⟨by rw [← HE.out]; rfl, by rw [← HF.out]; exact HG2.out, HB.out⟩
    | cons r C =>
      have hdrop : s.data.toList.drop pos = encodeRune (r : Int) ++ enc C := by
        rw [HT.out, hAC.out, enc_app, enc_cons, hpA.out, List.drop_left]
      have hRr := (HR.out r (by rw [hAC.out]; simp)).1
      have h65 := (HR.out r (by rw [hAC.out]; simp)).2
      have hdec : Utf8.decode s pos = (r, (encodeRune (r : Int)).length) := by rw [decode_drop, hdrop]; exact hRr.2 _
      have hlen : s.size = pos + (encodeRune (r : Int)).length + (enc C).length := by
        rw [HZ.out, hAC.out, enc_app, enc_cons, List.length_append, List.length_append, ← hpA.out]; omega
      have hw1 : 1 ≤ (encodeRune (r : Int)).length := List.length_pos_iff.2 hRr.1
      have hw4 : (encodeRune (r : Int)).length ≤ 4 := by rw [← Lib.runeCells_length]; exact (Lib.runeCells_le _).2
      have hr0 : r ≤ 1114111 := by have := Lib.rune_le s pos; rw [hdec] at this; exact this
      have hnx : ∀ ty, (Instr.next (.pointer (some ⟨w.heap.size + 1, 0, none⟩)) true ty).run Tryd.prog wo = _ := fun ty => Lib.run_next_any_at wo (w.heap.size + 1) s pos ty hit (by omega)
      rw [hdec] at hnx
      have hit2 := Lib.iterAt_heap wo (w.heap.size + 1) s pos (pos + (encodeRune (r : Int)).length) hit
      have hpos2 := itPos hit2
      have HB2 := Lib.hid (Lib.below_iterAt HB.out (show B ≤ w.heap.size + 1 by omega) s (pos + (encodeRune (r : Int)).length))
      have hfr2 : (wo.iterAt (w.heap.size + 1) s (pos + (encodeRune (r : Int)).length)).heap[w.heap.size]? = _ := (Lib.iterAt_other wo (w.heap.size + 1) w.heap.size s (pos + (encodeRune (r : Int)).length) (by omega)).trans hfr
      have hcb2 : CB g (fin e0 A) (wo.iterAt (w.heap.size + 1) s (pos + (encodeRune (r : Int)).length)) := (Lib.iterAt_other wo (w.heap.size + 1) g s (pos + (encodeRune (r : Int)).length) (by omega)).trans hcb
      have HAC2 := Lib.hid (show T = (A ++ [r]) ++ C by rw [hAC.out]; simp)
      have HP2 := Lib.hid (show pos + (encodeRune (r : Int)).length = (enc (A ++ [r])).length by rw [enc_app, List.length_append, enc_cons, ← hpA.out]; simp [enc])
      have HE2 := Lib.hid (show nx (fin e0 A) r = fin e0 (A ++ [r]) by rw [fin_app]; rfl)
      have HO2 := Lib.hid (show enc (upT e0 (A ++ [r])) = enc A ++ encodeRune (outU (fin e0 A) r) by rw [upT_app, enc_app, enc_out, hUA.out])
      have HRl := Lib.hid (show Lib.runeLen (r : Int) = ((encodeRune (r : Int)).length : Int) by
        have h1 := Lib.runeLen_decode (encodeRune (r : Int) ++ enc C)
        rw [hRr.2] at h1
        exact h1 h65)
      have HX := Lib.hid (show (s.extract 0 pos).data.toList = enc A by rw [Lib.extract_data, List.drop_zero, Nat.sub_zero, HT.out, hAC.out, enc_app, hpA.out, List.take_left])
      have HY := Lib.hid (show (s.extract (pos + (encodeRune (r : Int)).length) s.size).data.toList = enc C by
        rw [Lib.extract_data, ← List.drop_drop, hdrop, List.drop_left, List.take_of_length_le (by omega)])
      have HD := Lib.hid (show CB g (fin e0 A) (wo.iterAt (w.heap.size + 1) s (pos + (encodeRune (r : Int)).length)) → Below B w (wo.iterAt (w.heap.size + 1) s (pos + (encodeRune (r : Int)).length)) → _ from HC.out _ A r hr0)
      have HAp := Lib.hid (show (enc A).length = pos from hpA.out.symm)
      have HAe := Lib.hid (show enc (A ++ [r]) = enc A ++ encodeRune (r : Int) by rw [enc_app, enc_cons]; simp [enc])
      obtain ⟨hM0, hM1⟩ := outU_bd (fin e0 A) r hr0
      generalize hW : wo.iterAt (w.heap.size + 1) s (pos + (encodeRune (r : Int)).length) = W at *
      have hWs := HB2.out.size
      have HCl := Lib.hid (HD.out hcb2 HB2.out)
      have hszW : w.heap.size + 1 < W.heap.size := (Array.getElem?_eq_some_iff.1 hit2).1
      generalize hee : fin e0 A = ee at *
      generalize hM : outU ee r = M at *
      have HWd := Lib.hid (show (encodeRune (r : Int)).length = (encodeRune (r : Int)).length from rfl)
      generalize hwd : (encodeRune (r : Int)).length = wd at *
      clear hit HB hcb hfr hW hRr hdrop hdec hAC hpA hBs HD hUA
      by_cases hMr : M = (r : Int)
      · have HO3 := Lib.hid (show enc (upT e0 (A ++ [r])) = enc (A ++ [r]) by rw [HO2.out, HAe.out, hMr])
        have hb1 : (M == (r : Int)) = true := by rw [beq_iff_eq]; exact hMr
        have hb2 : ((r : Int) != 65533) = true := by rw [bne_iff_ne]; omega
        clear HO2 HRl HX HY hMr
        go_wp2_with (go_at_fn 35; refine halt_Fn ?_)
        refine resume_Fn ?_
        refine HCl.out.mono ?_
        rintro e2 w1 ⟨rfl, hb, hk⟩
        rw [hM]
        have HB3 := Lib.hid (past_below HB2.out hk hBg (by omega))
        have hit3 := (hk.block (w.heap.size + 1) hszW (by intro e; injection e with e; omega)).trans hit2
        have hfr3 := (hk.block w.heap.size (by omega) (by intro e; injection e with e; omega)).trans hfr2
        have hpos3 := itPos hit3
        clear HCl hk
        go_wp2_with fail
        go_roundw
        case rel => exact ⟨rfl, A ++ [r], C, pos + wd, HAC2, HP2, HO3, by omega, hfr3, hit3, by rw [← HE2.out]; exact hb, HB3⟩
        case measure => rw [hpos3, hpos]; omega
      · have hb1 : (M == (r : Int)) = false := by rw [beq_eq_false_iff_ne]; exact hMr
        have hb3 : ((r : Int) == 65533) = false := by rw [beq_eq_false_iff_ne]; omega
        have hxs : (s.extract 0 pos).size = pos := by rw [Lib.size_eq, HX.out, HAp.out]
        have hs2 : (s.extract (pos + wd) s.size).size = (enc C).length := by rw [Lib.size_eq, HY.out]
        have HCT := Lib.hid (show C.length + A.length + 1 = T.length by rw [HAC2.out]; simp; omega)
        have HAl := Lib.hid (show (enc A).length ≤ 4 * A.length from enc_len A)
        have hpk : ((pos : Int) + (wd : Int)).toNat = pos + wd := by omega
        have hle : pos + wd ≤ s.size := by omega
        have HLn := Lib.hid hlen
        have HS2z := Lib.hid hs2
        clear HAe hMr hlen hs2
        go_wp2_with (go_at_fn 35; refine halt_Fn ?_)
        refine resume_Fn ?_
        refine HCl.out.mono ?_
        rintro e2 w1 ⟨rfl, hb, hk⟩
        rw [hM]
        have HB3 := Lib.hid (past_below HB2.out hk hBg (by omega))
        have hfr3 := (hk.block w.heap.size (by omega) (by intro e; injection e with e; omega)).trans hfr2
        have hs3 := HB3.out.size
        have HG3 := Lib.hid hb
        have hz1 : w.heap.size + 1 < w1.heap.size := by have := hk.size; omega
        have HRL := Lib.hid (Tryd.utf8_RuneLen (r : Int) w1)
        rw [HRl.out] at HRL
        clear HCl hk hit2 hfr2 hb hcb2
        go_wp2_with (go_at_call 41; refine halt_Fn ?_)
        refine resume_Fn ?_
        refine HRL.out.mono ?_
        rintro e2 w1b ⟨rfl, rfl⟩
        have HGr := Lib.hid (Tryd.Builder_Grow_fresh_cap w.heap.size w.heap.size (s.size + 4) w1b (Nat.le_refl _) hfr3 (by omega) (by omega))
        clear HRL HRl hfr3
        go_wp2_with (go_at_call 27; refine halt_Fn ?_)
        refine resume_Fn ?_
        go_fit HGr.out
        rintro e2 w2 ⟨rfl, ⟨hb4, hB4⟩, -⟩
        have HG4 := Lib.hid (show CB g (nx ee r) w2 from (hB4.block g hgw).trans HG3.out)
        have HB4 := Lib.hid (HB3.out.trans (hB4.mono (by omega)))
        have hs4 := hB4.size
        have HWt := Lib.hid (wr_text w.heap.size w.heap.size [] (s.extract 0 pos) w2 (Lib.IsBuilderF.of (Or.inr hb4)) (by rw [hxs]; simp; omega) (by omega))
        rw [List.nil_append, HX.out] at HWt
        clear HGr hb4 hB4 HG3 HB3
        go_wp2_with (go_at_call 28; refine halt_Fn ?_)
        refine resume_Fn ?_
        refine HWt.out.mono ?_
        rintro e2 w3 ⟨rfl, hb5, hB5, -⟩
        have HG5 := Lib.hid (show CB g (nx ee r) w3 from (hB5.block g hgw).trans HG4.out)
        have HB5 := Lib.hid (HB4.out.trans (hB5.mono (by omega)))
        have hs5 := hB5.size
        have HWr := Lib.hid (wr_runeA w.heap.size w.heap.size (enc A) M (by omega) hM1 w3 hb5 (by rw [HAp.out]; omega) (by omega))
        rw [← HO2.out] at HWr
        clear HWt hb5 hB5 HG4 HB4
        go_wp2_with (go_at_call 17; refine halt_Fn ?_)
        refine resume_Fn ?_
        refine HWr.out.mono ?_
        rintro e2 w4 ⟨⟨nn, rfl⟩, hb6, hB6, -⟩
        have HG6 := Lib.hid (show CB g (nx ee r) w4 from (hB6.block g hgw).trans HG5.out)
        have HB6 := Lib.hid (HB5.out.trans (hB6.mono (by omega)))
        have hs6 := hB6.size
        have HU6 := Lib.hid hb6
        obtain ⟨cp, cn, cc, hcap, hc1⟩ := cap_pos _ _ _ _ hb6 (by rw [HO2.out, List.length_append]; have := List.length_pos_iff.2 (show encodeRune M ≠ [] by rw [← norm_enc]; exact (norm_rn M).1); omega)
        have HCc := Lib.hid (Tryd.Builder_Cap_cell w.heap.size cp cn cc w4 hcap)
        have hcb1 : ((cc : Int) == 0) = false := by rw [beq_eq_false_iff_ne]; omega
        clear HWr hb6 hB6 HG5 HB5 hcap
        go_wp2_with (go_at_call 42; refine halt_Fn ?_)
        refine resume_Fn ?_
        refine HCc.out.mono ?_
        rintro e2 w5 ⟨rfl, rfl⟩
        clear HCc
        generalize hS2 : s.extract (pos + wd) s.size = s2 at *
        have HY2 := Lib.hid (show s2.data.toList = enc C from HY.out)
        have HZ2 := Lib.hid (show s2.size = (enc C).length from HS2z.out)
        have HCr := Lib.hid (fun x (hx : x ∈ C) => HR.out x (by rw [HAC2.out]; simp [hx]))
        have HFl := Lib.hid (show ∀ D, fin e0 (A ++ r :: D) = fin (nx ee r) D from fun D => by rw [fin_app, hee]; rfl)
        have HLe := Lib.hid (show ∀ D E, C = D ++ E → (enc (upT e0 (A ++ r :: D))).length ≤ 4 * T.length from fun D E h => by
          refine Nat.le_trans (enc_len _) ?_
          rw [upT_len, HAC2.out, h]; simp [Nat.add_assoc]; try omega)
        clear HX HY HO2 HP2 hM hb1 hb3 hxs HAl hpk hle HLn HS2z hS2
        go_wp2_with fail
        go_loopw [] (fun wr => ∃ (D E : List Nat) (p2 : Nat), Hid (C = D ++ E) ∧ Hid (p2 = (enc D).length) ∧ p2 ≤ s2.size ∧ wr.heap[w5.heap.size]? = some (.stringIter s2 p2) ∧ CB g (fin (nx ee r) D) wr ∧ Hid (Bld w.heap.size w.heap.size (enc (upT e0 (A ++ r :: D))) wr) ∧ Hid (Below B w wr)) (fun wr => s2.size - wr.iterPos w5.heap.size)
        case atStart =>
          exact ⟨[], C, 0, Lib.hid rfl, Lib.hid rfl, Nat.zero_le _, itNew rfl, itOld HG6.out, Lib.hid (HU6.out.alloc _), Lib.hid (HB6.out.alloc (by omega) _)⟩
        case round =>
          obtain ⟨D, E, p2, hDE, hpD, hps2, hit, hcb, hU, HBx⟩ := hrel
          obtain ⟨wo2, rfl⟩ : ∃ wo2 : World, wo2 = wr := ⟨_, rfl⟩
          have hpos2 := itPos hit
          have hBs2 := HBx.out.size
          have hszI : w5.heap.size < wo2.heap.size := (Array.getElem?_eq_some_iff.1 hit).1
          cases E with
          | nil =>
            have hpe : p2 = s2.size := by rw [HZ2.out, hDE.out, List.append_nil, hpD.out]
            have hnx : ∀ ty, (Instr.next (.pointer (some ⟨w5.heap.size, 0, none⟩)) true ty).run Tryd.prog wo2 = _ := fun ty => Lib.run_next_end_at wo2 w5.heap.size s2 p2 ty hit (by omega)
            have hTD : T = A ++ r :: D := by have := hDE.out; rw [List.append_nil] at this; rw [HAC2.out, this]; simp
            have HS := Lib.hid (Tryd.Builder_String_any_f w.heap.size w.heap.size _ wo2 hU.out (by omega))
            have HF := Lib.hid (show fin (nx ee r) D = fin e0 T by rw [hTD, HFl.out])
            have HG7 := Lib.hid hcb
            rw [← hTD] at HS
            clear hit hpos2 hU hDE hpD hcb hTD
            go_wp2_with (go_at_call 18; refine halt_Fn ?_)
            refine resume_Fn ?_
            refine HS.out.mono ?_
            rintro e2 w7 ⟨rfl, -, hb7⟩
            have HB7 := Lib.hid (HBx.out.trans (hb7.mono (by omega)))
            have HG8 := Lib.hid (show CB g (fin (nx ee r) D) w7 from (hb7.block g hgw).trans HG7.out)
            clear hb7 HS HG7
            go_wp2_with fail
            go_ret
            exact ⟨rfl, by rw [← HF.out]; exact HG8.out, HB7.out⟩
          | cons q E =>
            have hdrop : s2.data.toList.drop p2 = encodeRune (q : Int) ++ enc E := by
              rw [HY2.out, hDE.out, enc_app, enc_cons, hpD.out, List.drop_left]
            have hRr := (HCr.out q (by rw [hDE.out]; simp)).1
            have hdec : Utf8.decode s2 p2 = (q, (encodeRune (q : Int)).length) := by rw [decode_drop, hdrop]; exact hRr.2 _
            have hlen2 : s2.size = p2 + (encodeRune (q : Int)).length + (enc E).length := by
              rw [HZ2.out, hDE.out, enc_app, enc_cons, List.length_append, List.length_append, ← hpD.out]; omega
            have hv1 : 1 ≤ (encodeRune (q : Int)).length := List.length_pos_iff.2 hRr.1
            have hq0 : q ≤ 1114111 := by have := Lib.rune_le s2 p2; rw [hdec] at this; exact this
            have hnx : ∀ ty, (Instr.next (.pointer (some ⟨w5.heap.size, 0, none⟩)) true ty).run Tryd.prog wo2 = _ := fun ty => Lib.run_next_any_at wo2 w5.heap.size s2 p2 ty hit (by omega)
            rw [hdec] at hnx
            have hit2 := Lib.iterAt_heap wo2 w5.heap.size s2 p2 (p2 + (encodeRune (q : Int)).length) hit
            have HBy := Lib.hid (Lib.below_iterAt HBx.out (show B ≤ w5.heap.size by omega) s2 (p2 + (encodeRune (q : Int)).length))
            have hUy := Lib.hid (Lib.IsBuilderF.iterAt hU.out hit (p2 + (encodeRune (q : Int)).length))
            have hcb2 : CB g (fin (nx ee r) D) (wo2.iterAt w5.heap.size s2 (p2 + (encodeRune (q : Int)).length)) := (Lib.iterAt_other wo2 w5.heap.size g s2 (p2 + (encodeRune (q : Int)).length) (by omega)).trans hcb
            have HDE2 := Lib.hid (show C = (D ++ [q]) ++ E by rw [hDE.out]; simp)
            have HPD2 := Lib.hid (show p2 + (encodeRune (q : Int)).length = (enc (D ++ [q])).length by rw [enc_app, List.length_append, enc_cons, ← hpD.out]; simp [enc])
            have HE3 := Lib.hid (show nx (fin (nx ee r) D) q = fin (nx ee r) (D ++ [q]) by rw [fin_app]; rfl)
            have HO3 := Lib.hid (show enc (upT e0 (A ++ r :: (D ++ [q]))) = enc (upT e0 (A ++ r :: D)) ++ encodeRune (outU (fin (nx ee r) D) q) by
              rw [show A ++ r :: (D ++ [q]) = (A ++ r :: D) ++ [q] by simp, upT_app, enc_app, enc_out, HFl.out])
            have HL3 := Lib.hid (HLe.out D (q :: E) hDE.out)
            have HD := Lib.hid (fun W h1 h2 => HC.out W (A ++ r :: D) q hq0 (by rw [HFl.out]; exact h1) h2)
            rw [HFl.out] at HD
            obtain ⟨hN0, hN1⟩ := outU_bd (fin (nx ee r) D) q hq0
            have hsy : (wo2.iterAt w5.heap.size s2 (p2 + (encodeRune (q : Int)).length)).heap.size = wo2.heap.size := by rw [Lib.iterAt_size]
            generalize hW : wo2.iterAt w5.heap.size s2 (p2 + (encodeRune (q : Int)).length) = W2 at *
            have HCl2 := Lib.hid (HD.out W2 hcb2 HBy.out)
            generalize hee2 : fin (nx ee r) D = e2 at *
            generalize hN : outU e2 q = N at *
            generalize hvd : (encodeRune (q : Int)).length = vd at *
            clear hit hU hcb hW hRr hdrop hdec hDE hpD HD HBx hBs2
            have hNb : N ≥ 0 := hN0
            by_cases h128 : N < 128
            · have HBt := Lib.hid (show encodeRune N = [UInt8.ofNat N.toNat] by
                have := (rn_ascii (c := N.toNat) (by omega)).2
                rw [Int.toNat_of_nonneg hN0] at this
                exact this)
              have HBn := Lib.hid (show ((UInt8.ofNat N.toNat).toNat : Int) = N by rw [u8n _ (by omega)]; omega)
              go_wp2_with (go_at_fn 35; refine halt_Fn ?_)
              refine resume_Fn ?_
              refine HCl2.out.mono ?_
              rintro e3 w6 ⟨rfl, hb, hk⟩
              rw [hN]
              have HBz := Lib.hid (past_below HBy.out hk hBg (by omega))
              have hit3 := (hk.block w5.heap.size (by omega) (by intro e; injection e with e; omega)).trans hit2
              have HUz := Lib.hid (Bld.past hUy.out hgw hk)
              have HGz := Lib.hid hb
              have hsz := hk.size
              have HWb := Lib.hid (wr_byte w.heap.size w.heap.size _ (UInt8.ofNat N.toNat) w6 HUz.out (by have := HL3.out; omega) (by omega))
              rw [HBn.out, ← HBt.out, ← HO3.out] at HWb
              clear HCl2 hk hb hUy HUz HBy hcb2 hit2
              go_wp2_with (go_at_call 29; refine halt_Fn ?_)
              refine resume_Fn ?_
              refine HWb.out.mono ?_
              rintro e3 w7 ⟨rfl, hb8, hB8, hk8⟩
              have HB8 := Lib.hid (HBz.out.trans (hB8.mono (by omega)))
              have HG8 := Lib.hid (show CB g (nx e2 q) w7 from (hB8.block g hgw).trans HGz.out)
              have hit4 := hk8.iter hit3 (by omega)
              have hpos4 := itPos hit4
              have HU8 := Lib.hid hb8
              clear HWb hb8 hB8 hk8 HBz HGz
              go_wp2_with fail
              go_roundw
              case rel => exact ⟨D ++ [q], E, p2 + vd, HDE2, HPD2, by omega, hit4, by rw [← HE3.out]; exact HG8.out, HU8, HB8⟩
              case measure => rw [hpos4, hpos2]; omega
            · go_wp2_with (go_at_fn 35; refine halt_Fn ?_)
              refine resume_Fn ?_
              refine HCl2.out.mono ?_
              rintro e3 w6 ⟨rfl, hb, hk⟩
              rw [hN]
              have HBz := Lib.hid (past_below HBy.out hk hBg (by omega))
              have hit3 := (hk.block w5.heap.size (by omega) (by intro e; injection e with e; omega)).trans hit2
              have HUz := Lib.hid (Bld.past hUy.out hgw hk)
              have HGz := Lib.hid hb
              have hsz := hk.size
              have HWb := Lib.hid (wr_runeA w.heap.size w.heap.size _ N (by omega) hN1 w6 HUz.out (by have := HL3.out; omega) (by omega))
              rw [← HO3.out] at HWb
              clear HCl2 hk hb hUy HUz HBy hcb2 hit2
              go_wp2_with (go_at_call 17; refine halt_Fn ?_)
              refine resume_Fn ?_
              refine HWb.out.mono ?_
              rintro e3 w7 ⟨⟨nn2, rfl⟩, hb8, hB8, hk8⟩
              have HB8 := Lib.hid (HBz.out.trans (hB8.mono (by omega)))
              have HG8 := Lib.hid (show CB g (nx e2 q) w7 from (hB8.block g hgw).trans HGz.out)
              have hit4 := hk8.iter hit3 (by omega)
              have hpos4 := itPos hit4
              have HU8 := Lib.hid hb8
              clear HWb hb8 hB8 hk8 HBz HGz
              go_wp2_with fail
              go_roundw
              case rel => exact ⟨D ++ [q], E, p2 + vd, HDE2, HPD2, by omega, hit4, by rw [← HE3.out]; exact HG8.out, HU8, HB8⟩
              case measure => rw [hpos4, hpos2]; omega
end Go.Proofs.YtmllpoafjcldgaaDoor
