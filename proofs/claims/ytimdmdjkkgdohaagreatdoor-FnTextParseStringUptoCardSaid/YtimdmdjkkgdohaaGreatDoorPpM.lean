/- ParseString: a text parsed at once. Good texts alone. -/
import Derived.Test.YtimdmdjkkgdohaaGreatDoorPpL
import Derived.Test.YtimdmdjkkgdohaaGreatDoorIter
namespace Go.Proofs.YtimdmdjkkgdohaaGreatDoor
open Go.RowKit Go.MapKept
open Go.Lib (encodeRune decodeL decodeN)
set_option linter.unusedVariables false
theorem it_put {w : World} {b k : Nat} {t : TypeId} {cs : Array Value} {s : ByteArray} {pos : Nat} (h : Blk w b t cs) (hk : w.heap[k]? = some (.stringIter s pos)) (pos' : Nat) : Blk (w.iterAt k s pos') b t cs := by
  unfold Blk at h ⊢
  rw [Lib.iterAt_other _ _ _ _ _ (fun e => by subst e; rw [h] at hk; cases hk)]
  exact h
theorem PSt.iterAt {w : World} {B b k : Nat} {m v : Value} {p : PS} {s : ByteArray} {pos : Nat} (h : PSt w B b m v p) (hk : w.heap[k]? = some (.stringIter s pos)) (pos' : Nat) : PSt (w.iterAt k s pos') B b m v p := by
  refine ⟨it_put h.blk hk pos', itOwn h.row hk pos', ?_, h.Bb⟩
  have hm := h.map
  cases hc : p.cs with
  | none => rw [hc] at hm; exact hm
  | some l =>
    rw [hc] at hm
    obtain ⟨mb, e, hB, hm⟩ := hm
    refine ⟨mb, e, hB, hm.keep (Lib.iterAt_other _ _ _ _ _ (fun e2 => ?_))⟩
    obtain ⟨es, clock, hb, _⟩ := hm
    rw [e2, hk] at hb; cases hb
/-- Blocks below stay, and cells of other types than a parser's and bytes'. -/
structure Fq (B : Nat) (w w' : World) : Prop where
  below : Below B w w'
  fr : ∀ c t cs, t ≠ tU → t ≠ tP → Blk w c t cs → Blk w' c t cs
theorem Fp.toq {B : Nat} {w w' : World} (h : Fp B w w') : Fq B w w' := ⟨h.below, h.fr⟩
theorem Fq.trans {B : Nat} {a b c : World} (h : Fq B a b) (h2 : Fq B b c) : Fq B a c := ⟨h.below.trans h2.below, fun i t cs h0 h1 hb => h2.fr i t cs h0 h1 (h.fr i t cs h0 h1 hb)⟩
theorem Fq.below2 {B : Nat} {a b c : World} (h : Fq B a b) (hb : Below b.heap.size b c) (hB : B ≤ b.heap.size) : Fq B a c := ⟨h.below.trans (hb.mono hB), fun i t cs h0 h1 hc => (h.fr i t cs h0 h1 hc).below hb (h.fr i t cs h0 h1 hc).lt⟩
theorem Fq.iterAt {B k : Nat} {a w : World} {s : ByteArray} {pos : Nat} (h : Fq B a w) (hk : w.heap[k]? = some (.stringIter s pos)) (hB : B ≤ k) (pos' : Nat) : Fq B a (w.iterAt k s pos') :=
  ⟨Lib.below_iterAt h.below hB s pos', fun i t cs h0 h1 hc => it_put (h.fr i t cs h0 h1 hc) hk pos'⟩
def ParseRet (B b : Nat) (pf : PS) (w : World) (e : Ending) (w' : World) : Prop := (∃ q, e = .returned (.string q)) ∧ (∃ m v, PSt w' B b m v pf) ∧ PsOk pf ∧ Fq B w w'
set_option maxHeartbeats 2000000 in
set_option maxRecDepth 100000 in
theorem parse_any {w : World} {B b : Nat} {m v : Value} {cs : Option (List Int)} {pf : PS} {T : List Nat} {s : ByteArray} (h : PSt w B b m v ⟨cs, false, 0, []⟩) (hk : CsOk (cs.getD [])) (hT : s.data.toList = enc T) (hr : ∀ r ∈ T, Rn r) (hs : s.size ≤ 1000000)
    (hR : Runs ⟨cs, false, 0, []⟩ T pf) (hS : SpB B w) : Calls Tryz.prog 15 #[.pointer (some ⟨b, 0, none⟩), .string s] w (ParseRet B b pf w) := by
  have HT := Lib.hid hT
  have HR := Lib.hid hr
  have hsz : s.size = (enc T).length := by rw [Lib.size_eq, hT]
  have HZ := Lib.hid hsz
  have HS := Lib.hid hS
  obtain ⟨A, cap, hv, hc1, hc2⟩ := h.form
  simp only at hv hc1
  subst hv
  have hM : cap ≤ 9223372036854775807 := hc2
  have f3 := h.cell3
  simp only [List.length_nil] at f3
  have HP := Lib.hid h
  have HOk := Lib.hid (show PsOk ⟨cs, false, 0, []⟩ from ⟨hk, by simp⟩)
  have HRn := Lib.hid hR
  clear h hk hT hr hsz hS hc2 hR
  go_enter Tryz.func15, Tryz.ntmps15
  go_wp2_with ((with_reducible refine gate_st (t := 44) rfl ?_); refine halt_L ?_)
  refine resume_L ?_
  refine wpList_put HP.out.blk (o := 3) (v := .slice A 0 cap) (by simp) rfl rfl rfl infoB ?_
  intro w1 hb1 p1
  have HP1 := Lib.hid (show PSt w1 B b m (.slice A 0 cap) ⟨cs, false, 0, []⟩ from HP.out.put p1 hb1 HP.out.row HP.out.map)
  have HF1 := Lib.hid ((Fp.refl B w).put HP.out.blk HP.out.lt HP.out.Bb p1)
  clear hb1 p1 f3
  go_wp2_with ((with_reducible refine gate_st (t := 4) rfl ?_); refine halt_L ?_)
  refine resume_L ?_
  refine wpList_put HP1.out.blk (o := 1) (v := .bool false) (by simp) rfl rfl rfl infoBo ?_
  intro w2 hb2 p2
  have HP2 := Lib.hid (show PSt w2 B b m (.slice A 0 cap) ⟨cs, false, 0, []⟩ from HP1.out.put p2 hb2 HP1.out.row HP1.out.map)
  have HF2 := Lib.hid (HF1.out.put HP1.out.blk HP1.out.lt HP1.out.Bb p2)
  clear hb2 p2
  go_wp2_with ((with_reducible refine gate_st (t := 43) rfl ?_); refine halt_L ?_)
  refine resume_L ?_
  refine wpList_put HP2.out.blk (o := 2) (v := .int .i64 0) (by simp) rfl rfl rfl infoK ?_
  intro w3 hb3 p3
  have HP3 := Lib.hid (show PSt w3 B b m (.slice A 0 cap) ⟨cs, false, 0, []⟩ from HP2.out.put p3 hb3 HP2.out.row HP2.out.map)
  have HF3 := Lib.hid (HF2.out.put HP2.out.blk HP2.out.lt HP2.out.Bb p3)
  have hBK := HP3.out.lt
  clear hb3 p3 HP HP1 HP2 HF1 HF2 hM hc1
  go_frame
  go_wp2_with fail
  have hW4 : Below w3.heap.size w3 (w3.alloc (.stringIter s 0)) := (Below.refl _ w3).alloc (Nat.le_refl _) _
  have HP4 := Lib.hid (HP3.out.below hW4 (Nat.le_refl _))
  have HF4 := Lib.hid (HF3.out.toq.below2 hW4 hBK)
  obtain ⟨K, hK⟩ : ∃ K, w3.heap.size = K := ⟨_, rfl⟩
  have hit0 : (w3.alloc (.stringIter s 0)).heap[K]? = some (.stringIter s 0) := itNew hK.symm
  rw [hK] at hBK ⊢
  clear hW4 HP3 HF3 hK
  go_loopw [] (fun wr => ∃ (C : List Nat) (pos : Nat), Hid (∃ A0, T = A0 ++ C ∧ pos = (enc A0).length) ∧ pos ≤ s.size ∧ wr.heap[K]? = some (.stringIter s pos) ∧ Hid (∃ p m v, PSt wr B b m v p ∧ PsOk p ∧ Runs p C pf) ∧ Hid (Fq B w wr)) (fun wr => s.size - wr.iterPos K)
  case atStart => exact ⟨T, 0, Lib.hid ⟨[], rfl, rfl⟩, Nat.zero_le _, hit0, Lib.hid ⟨_, _, _, HP4.out, HOk.out, HRn.out⟩, HF4⟩
  case round =>
    clear HP4 HOk HRn HF4 hit0
    obtain ⟨C, pos, hAC, hps, hit, HPs, HF⟩ := hrel
    obtain ⟨wo, rfl⟩ : ∃ wo : World, wo = wr := ⟨_, rfl⟩
    have hpos := itPos hit
    obtain ⟨p, m1, v1, hP, hOk, hRun⟩ := HPs.out
    cases C with
    | nil =>
      have hpe : pos = s.size := by
        obtain ⟨A0, e1, e2⟩ := hAC.out
        rw [HZ.out, e1, List.append_nil, e2]
      have hnx : ∀ ty, (Instr.next (.pointer (some ⟨K, 0, none⟩)) true ty).run Tryz.prog wo = _ := fun ty => Lib.run_next_end_at wo K s pos ty hit (by omega)
      cases hRun
      have hT := sequence_any hP hOk.1
      have HP := Lib.hid hP
      have HOk := Lib.hid hOk
      have hlt := hP.lt
      clear hit hpos hAC hP hOk HPs
      go_wp2_with (go_at_call 20; refine halt_H ?_)
      refine resume_H ?_
      refine hT.mono ?_
      rintro e w5 ⟨rfl, hb5⟩
      have HP5 := Lib.hid (HP.out.below hb5 (Nat.le_refl _))
      have HF5 := Lib.hid (HF.out.below2 hb5 hlt)
      clear hT hb5
      go_wp2
      go_ret
      exact ⟨⟨_, rfl⟩, ⟨_, _, HP5.out⟩, HOk.out, HF5.out⟩
    | cons r C =>
      obtain ⟨A0, hA1, hA2⟩ := hAC.out
      have hdrop : s.data.toList.drop pos = encodeRune (r : Int) ++ enc C := by
        rw [HT.out, hA1, enc_app, enc_cons, hA2, List.drop_left]
      have hRr := HR.out r (by rw [hA1]; simp)
      have hdec : Utf8.decode s pos = (r, (encodeRune (r : Int)).length) := by rw [decode_drop, hdrop]; exact hRr.2 _
      have hlen : s.size = pos + (encodeRune (r : Int)).length + (enc C).length := by
        rw [HZ.out, hA1, enc_app, enc_cons, List.length_append, List.length_append, ← hA2]; omega
      have hw1 : 1 ≤ (encodeRune (r : Int)).length := List.length_pos_iff.2 hRr.1
      have hnx : ∀ ty, (Instr.next (.pointer (some ⟨K, 0, none⟩)) true ty).run Tryz.prog wo = _ := fun ty => Lib.run_next_any_at wo K s pos ty hit (by omega)
      rw [hdec] at hnx
      have hit2 := Lib.iterAt_heap wo K s pos (pos + (encodeRune (r : Int)).length) hit
      have HAC2 := Lib.hid (show ∃ A0, T = A0 ++ C ∧ pos + (encodeRune (r : Int)).length = (enc A0).length from ⟨A0 ++ [r], by rw [hA1]; simp, by rw [enc_app, List.length_append, enc_cons, ← hA2]; simp [enc]⟩)
      have HP2 := Lib.hid (hP.iterAt hit (pos + (encodeRune (r : Int)).length))
      have HF2 := Lib.hid (HF.out.iterAt hit hBK (pos + (encodeRune (r : Int)).length))
      generalize hW : wo.iterAt K s (pos + (encodeRune (r : Int)).length) = W at *
      generalize (encodeRune (r : Int)).length = wd at *
      cases hRun with
      | cons hst hrun2 =>
        rename_i p2
        have hT := consume_any HP2.out hOk hst (HS.out.below HF2.out.below)
        have HOk2 := Lib.hid (hst.ok hOk)
        have HRun2 := Lib.hid hrun2
        clear hit hAC hA1 hA2 hdrop hRr hdec hP hOk hst hrun2 HPs HF hW
        go_wp2_with (go_at_call 14; refine halt_H ?_)
        refine resume_H ?_
        refine hT.mono ?_
        rintro e w5 ⟨rfl, ⟨m5, v5, hP5⟩, hF5⟩
        have hit5 := hF5.it _ _ _ hit2
        have hpos5 := itPos hit5
        have HPs5 := Lib.hid (show ∃ p m v, PSt w5 B b m v p ∧ PsOk p ∧ Runs p C pf from ⟨_, m5, v5, hP5, HOk2.out, HRun2.out⟩)
        have HF5 := Lib.hid (HF2.out.trans hF5.toq)
        clear hT hP5 hF5 hit2
        go_wp2_with fail
        go_roundw
        case rel => exact ⟨C, pos + wd, HAC2, by omega, hit5, HPs5, HF5⟩
        case measure => rw [hpos5, hpos]; omega
end Go.Proofs.YtimdmdjkkgdohaaGreatDoor
