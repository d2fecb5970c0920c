/- TextParse: steps taken one after the other. Good texts alone. Printed by gen_ppO.py. -/
import Derived.Test.YtimdmdjkkgdohaaGreatDoorPpN
namespace Go.Proofs.YtimdmdjkkgdohaaGreatDoor
open Go.RowKit Go.MapKept
set_option linter.unusedVariables false
/-- Blocks below stay. -/
structure Fz (B : Nat) (w w' : World) : Prop where
  below : Below B w w'
theorem Fz.below2 {B : Nat} {a b c : World} (h : Fz B a b) (hb : Below b.heap.size b c) (hB : B ≤ b.heap.size) : Fz B a c := ⟨h.below.trans (hb.mono hB)⟩
theorem runs_ok {p pf : PS} {T : List Nat} (hp : PsOk p) (h : Runs p T pf) : PsOk pf := by
  induction h with
  | nil => exact hp
  | cons hs _ ih => exact ih (hs.ok hp)
theorem own_ne5 {w : World} {B n c : Nat} {v : Value} {xs : List Value} {t : TypeId} {cs : Array Value} (h : w.ownsRow B tS 5 v n xs) (h1 : t ≠ tS) (hb : Blk w c t cs) : some c ≠ v.ownBlock := fun e => by
  rcases h.2 with ⟨e2, _⟩ | ⟨g, cap, cur, e2, _, hgb, _⟩
  · rw [e2] at e; simp [Value.ownBlock] at e
  · rw [e2] at e
    simp [Value.ownBlock] at e
    subst e
    exact Blk.type_ne (t := t) (u := tS) hb hgb h1 rfl
theorem own_map5 {w : World} {B n : Nat} {v : Value} {xs : List Value} (h : w.ownsRow B tS 5 v n xs) : ∀ mb L, PMap w mb L → some mb ≠ v.ownBlock := fun mb L hm e => by
  rcases h.2 with ⟨e2, _⟩ | ⟨g, cap, cur, e2, _, hgb, _⟩
  · rw [e2] at e; simp [Value.ownBlock] at e
  · rw [e2] at e
    simp [Value.ownBlock] at e
    exact hm.ne_blk (t := tS) hgb e.symm
theorem own_grownS {w w' : World} {B n : Nat} {v : Value} {xs : List Value} {t : TypeId} {r : Option Nat} (h : w.ownsRow B t 1 v n xs) (hg : w.grownBy w' r) (hne : ∀ {c : Nat} {cs : Array Value}, Blk w c t cs → some c ≠ r) : w'.ownsRow B t 1 v n xs := by
  refine ⟨h.1, ?_⟩
  rcases h.2 with h0 | ⟨g, cap, cur, hv, hBg, hb, r2⟩
  · exact .inl h0
  · exact .inr ⟨g, cap, cur, hv, hBg, (hg.block g (Array.getElem?_eq_some_iff.1 hb).1 (hne hb)).trans hb, r2⟩
theorem PSt.grownS {w w' : World} {B b : Nat} {m v : Value} {p : PS} {r : Option Nat} (h : PSt w B b m v p) (hg : w.grownBy w' r) (hne : ∀ {c : Nat} {t : TypeId} {cs : Array Value}, t ≠ tS → Blk w c t cs → some c ≠ r) (hm : ∀ mb L, PMap w mb L → some mb ≠ r) : PSt w' B b m v p := by
  refine ⟨h.blk.grown hg (hne (by decide) h.blk), own_grownS h.row hg (fun hb => hne (by decide) hb), ?_, h.Bb⟩
  have hmp := h.map
  cases hc : p.cs with
  | none => rw [hc] at hmp; exact hmp
  | some l =>
    rw [hc] at hmp
    obtain ⟨mb, e, hB, hp⟩ := hmp
    exact ⟨mb, e, hB, hp.keep (hg.block mb hp.lt (hm mb _ hp))⟩
theorem own_some5 {w : World} {B n : Nat} {v : Value} {xs : List Value} (h : w.ownsRow B tS 5 v n xs) (h0 : 0 < n) : ∃ g cap, v = .slice (some ⟨g, 0, none⟩) n cap ∧ n ≤ cap ∧ cap ≤ maxLen := by
  rcases h.2 with ⟨_, hz⟩ | ⟨g, cap, cur, e, hb, hg, h3, h4, _⟩
  · omega
  · exact ⟨g, cap, e, h3, h4⟩
set_option maxHeartbeats 4000000 in
set_option maxRecDepth 100000 in
theorem parsed_any {w : World} {g n cap : Nat} {L : List (Int × Int × ByteArray)} {pf : PS} (h : Steps w g L) (hn : L.length = n) (hn2 : n ≤ 1000000) (hc : n ≤ cap ∧ cap ≤ maxLen) (hS : Spaces w) (hR : Sxs ⟨none, false, 0, []⟩ L pf) :
    Calls Tryz.prog 7 #[.slice (some ⟨g, 0, none⟩) n cap] w (ParsedRet n pf w) := by
  obtain ⟨hc1, hc2⟩ := hc
  have hM : cap ≤ 9223372036854775807 := hc2
  obtain ⟨i0, hi0, hz0, hz1, hz2⟩ := info_parts infoS
  have HSt := Lib.hid h
  have HN := Lib.hid hn
  have HSp := Lib.hid hS
  have HRn := Lib.hid hR
  have hgw := h.1
  clear h hn hS hR hc2
  go_enter Tryz.func7, Tryz.ntmps7
  go_wp2_with fail
  have hW1 : Below w.heap.size w ((w.alloc (.cells #[.map none, .bool false, .int .i64 0, .slice none 0 0] tP)).alloc (.cells #[] tS)) := ((Below.refl _ w).alloc (Nat.le_refl _) _).alloc (by simp) _
  have HP0 := Lib.hid (show PSt ((w.alloc (.cells #[.map none, .bool false, .int .i64 0, .slice none 0 0] tP)).alloc (.cells #[] tS)) w.heap.size w.heap.size (.map none) (.slice none 0 0) ⟨none, false, 0, []⟩ from
    ⟨(Blk.new w tP _).alloc _, World.ownsRow_nil _ _ _ _, rfl, Nat.le_refl _⟩)
  have HO0 := Lib.hid (show ((w.alloc (.cells #[.map none, .bool false, .int .i64 0, .slice none 0 0] tP)).alloc (.cells #[] tS)).ownsRow w.heap.size tS 5 (.slice (some ⟨w.heap.size + 1, 0, none⟩) 0 0) 0 [] from
    ⟨rfl, .inr ⟨w.heap.size + 1, 0, #[], rfl, by omega, by
      have e : (w.alloc (.cells #[.map none, .bool false, .int .i64 0, .slice none 0 0] tP)).heap.size = w.heap.size + 1 := by simp
      rw [← e]; exact heap_alloc_new _ _, Nat.le_refl _, by unfold maxLen; omega, rfl, rfl⟩⟩)
  have HW1 := Lib.hid hW1
  clear hW1
  go_loopw [4, 11] (fun ov iv wr => ∃ (k g1 cap1 : Nat), ov = .slice (some ⟨g1, 0, none⟩) k cap1 ∧ iv = .int .i64 (k : Int) ∧ k ≤ n ∧ k ≤ cap1 ∧ cap1 ≤ 9223372036854775807 ∧ Hid (∃ xs p m v, wr.ownsRow w.heap.size tS 5 (.slice (some ⟨g1, 0, none⟩) k cap1) k xs ∧ Lst wr w.heap.size k xs p ∧ PSt wr w.heap.size w.heap.size m v p ∧ PsOk p ∧ Sxs p (L.drop k) pf) ∧ Hid (Below w.heap.size w wr)) (fun _ iv _ => n - (intOf iv).toNat)
  case atStart => exact ⟨0, w.heap.size + 1, 0, rfl, rfl, by omega, by omega, by omega, Lib.hid ⟨[], _, _, _, HO0.out, .inl ⟨rfl, rfl⟩, HP0.out, ⟨CsOk.nil, by simp⟩, HRn.out⟩, HW1⟩
  case round =>
    clear HP0 HO0 HW1 HRn
    obtain ⟨k, g1, cap1, rfl, rfl, hk, hk1, hk2, HX, HB⟩ := hrel
    obtain ⟨wr, rfl⟩ : ∃ wz : World, wz = wr := ⟨_, rfl⟩
    have hbs := HB.out.size
    obtain ⟨xs, p, m, v, hO, hL, hP, hOk, hSx⟩ := HX.out
    by_cases hlt : k < n
    · have hkL : k < L.length := by rw [HN.out]; exact hlt
      have hdr := List.drop_eq_getElem_cons hkL
      rw [hdr] at hSx
      have hst := (HSt.out.below HB.out (Nat.le_refl _)).2 k _ (List.getElem?_eq_getElem hkL)
      generalize L[k] = x at *
      obtain ⟨f0, f1, f2⟩ := hst
      have hW : ∀ o, Below wr.heap.size wr (wr.alloc o) := fun o => (Below.refl _ wr).alloc (Nat.le_refl _) o
      cases hSx with
      | cons hx hxs =>
        rename_i p1
        have HSt := Lib.hid hxs
        have HO0 := Lib.hid hO
        have HP0 := Lib.hid hP
        have HOk0 := Lib.hid hOk
        clear hxs hO hP hOk hL HX hdr
        cases hx with
        | one hs =>
          have HOk := Lib.hid (hs.ok HOk0.out)
          simp only at f0 f1 f2
          have hT := fun o => consume_any (HP0.out.below (hW o) (Nat.le_refl _)) HOk0.out hs ⟨w, Nat.le_refl _, HSp.out, HB.out.trans ((hW o).mono hbs)⟩
          clear hs
          go_wp2_with (go_at_call 14; refine halt_H ?_)
          refine resume_H ?_
          refine (hT _).mono ?_
          rintro e w2 ⟨rfl, ⟨m2, v2, hP2⟩, hF2⟩
          have HP := Lib.hid hP2
          have HO := Lib.hid (own_fq (own_below HO0.out (hW _) (Nat.le_refl _)) hF2.toq (by decide) (by decide))
          have HF := Lib.hid (show Fz w.heap.size w w2 from ⟨(HB.out.trans ((hW _).mono hbs)).trans hF2.below⟩)
          clear hT hP2 hF2 hW f0 f1 f2
          have hS1 := inSeq_any HP.out
          go_wp2_with (go_at_call 17; refine halt_H ?_)
          refine resume_H ?_
          refine (hS1).mono ?_
          rintro e w3 ⟨rfl, hw⟩
          obtain rfl := hw.symm
          clear hS1
          have hS1 := isOpen_any HP.out
          go_wp2_with (go_at_call 18; refine halt_H ?_)
          refine resume_H ?_
          refine (hS1).mono ?_
          rintro e w3 ⟨rfl, hw⟩
          obtain rfl := hw.symm
          clear hS1
          have hS1 := codes_any HP.out HOk.out.1
          go_wp2_with (go_at_call 19; refine halt_H ?_)
          refine resume_H ?_
          refine (hS1).mono ?_
          rintro e w3 ⟨cv, rfl, hcv, hb3, A3, L3, c3, rfl⟩
          have HP3 := Lib.hid (HP.out.below hb3 (Nat.le_refl _))
          have hsw := HF.out.below.size
          have HC3 := Lib.hid (own_mono hcv hsw)
          have HO3 := Lib.hid (own_below HO.out hb3 (Nat.le_refl _))
          have HF3 := Lib.hid (HF.out.below2 hb3 hsw)
          have hsw3 := HF3.out.below.size
          clear hS1 hcv hb3
          have hS1 := sequence_any HP3.out HOk.out.1
          go_wp2_with (go_at_call 20; refine halt_H ?_)
          refine resume_H ?_
          refine (hS1).mono ?_
          rintro e w4 ⟨rfl, hb4⟩
          have HP4 := Lib.hid (HP3.out.below hb4 (Nat.le_refl _))
          have HC4 := Lib.hid (own_below HC3.out hb4 (Nat.le_refl _))
          have HO4 := Lib.hid (own_below HO3.out hb4 (Nat.le_refl _))
          have HF4 := Lib.hid (HF3.out.below2 hb4 hsw3)
          have hsw4 := HF4.out.below.size
          clear hS1 hb4 HP HP3 HO HO3 HC3 HF HF3
          obtain ⟨sq, hsq⟩ : ∃ sq, (⟨(seqR (p1.cs.getD [])).toArray⟩ : ByteArray) = sq := ⟨_, rfl⟩
          rw [hsq]
          have HSq := Lib.hid hsq
          clear hsq
          obtain ⟨bo, hbo⟩ : ∃ bo, opn p1.cs = bo := ⟨_, rfl⟩
          rw [hbo]
          have HBo := Lib.hid hbo
          clear hbo
          obtain ⟨be, hbe⟩ : ∃ be, p1.e = be := ⟨_, rfl⟩
          rw [hbe]
          have HBe := Lib.hid hbe
          clear hbe hsw hsw3
          go_wp2_with (at_builtin; refine halt_H ?_)
          refine resume_H ?_
          refine wpList_append_own_wide _ rfl _ _ 26 rfl w.heap.size tS i0 (.agg #[.bool false, .bool false, .slice none 0 0, .string ⟨#[]⟩, .string ⟨#[]⟩]) 5 64 Tryz.underlying26 hi0 hz0 hz1 hz2 rfl (by decide) _ k _ rfl (HO4.out.alloc _) ⟨w4.heap.size, 0, none⟩ 1 1 [.bool be, .bool bo, .slice A3 L3 c3, .string sq, .string ⟨#[]⟩] rfl rfl (five_at (heap_alloc_new w4 _)) (by simp [Value.oneCell']) (by unfold maxLen; omega) (by omega) (by simp; omega) ?_
          intro v' w5 hown1 hgrow _
          have hb5 : Below w4.heap.size w4 (w4.alloc (.cells #[.bool be, .bool bo, .slice A3 L3 c3, .string sq, .string ⟨#[]⟩] tS)) := (Below.refl _ w4).alloc (Nat.le_refl _) _
          have hne := fun {c : Nat} {t : TypeId} {cs : Array Value} (h1 : t ≠ tS) (hb : Blk (w4.alloc (.cells #[.bool be, .bool bo, .slice A3 L3 c3, .string sq, .string ⟨#[]⟩] tS)) c t cs) => own_ne5 (HO4.out.alloc (.cells #[.bool be, .bool bo, .slice A3 L3 c3, .string sq, .string ⟨#[]⟩] tS)) h1 hb
          have HP5 := Lib.hid (PSt.grownS (HP4.out.below hb5 (Nat.le_refl _)) hgrow (fun h1 hb => hne h1 hb) (own_map5 (HO4.out.alloc _)))
          have HC5 := Lib.hid (own_grownS (own_below HC4.out hb5 (Nat.le_refl _)) hgrow (fun hb => hne (by decide) hb))
          have HB5 := Lib.hid ((HF4.out.below.alloc hsw4 _).grown hgrow (by simp; omega) (fun k hk => (HO4.out.lt k hk).1))
          obtain ⟨g5, cap5, rfl, hc51, hc52⟩ := own_some5 hown1 (by omega)
          have HO5 := Lib.hid hown1
          have hM5 : cap5 ≤ 9223372036854775807 := hc52
          have HL5 := Lib.hid (show Lst w5 w.heap.size (k + 1) (xs ++ [.bool be, .bool bo, .slice A3 L3 c3, .string sq, .string ⟨#[]⟩]) p1 from .inr ⟨by omega, xs, _, ⟨#[]⟩, by rw [HBe.out, HBo.out, HSq.out], HC5.out⟩)
          clear hown1 hgrow hb5 hne hc52 hsw4
          go_wp2_with fail
          go_roundw
          case rel => exact ⟨k + 1, g5, cap5, rfl, by go_num, by omega, hc51, hM5, Lib.hid ⟨xs ++ _, p1, _, _, HO5.out, HL5.out, HP5.out, HOk.out, HSt.out⟩, HB5⟩
          case measure => simp [intOf]; omega
        | all he hrn hsz hr =>
          simp only at f0 f1 f2
          have hk0 := HOk0.out.1
          have HOk := Lib.hid (runs_ok HOk0.out hr)
          have hT := fun o => parse_any (HP0.out.below (hW o) (Nat.le_refl _)) hk0 he hrn hsz hr ⟨w, Nat.le_refl _, HSp.out, HB.out.trans ((hW o).mono hbs)⟩
          clear he hrn hsz hr hk0
          go_wp2_with (go_at_call 15; refine halt_H ?_)
          refine resume_H ?_
          refine (hT _).mono ?_
          rintro e w2 ⟨⟨q, rfl⟩, ⟨m2, v2, hP2⟩, _, hF2⟩
          have HP := Lib.hid hP2
          have HO := Lib.hid (own_fq (own_below HO0.out (hW _) (Nat.le_refl _)) hF2 (by decide) (by decide))
          have HF := Lib.hid (show Fz w.heap.size w w2 from ⟨(HB.out.trans ((hW _).mono hbs)).trans hF2.below⟩)
          clear hT hP2 hF2 hW f0 f1 f2
          have hS1 := inSeq_any HP.out
          go_wp2_with (go_at_call 17; refine halt_H ?_)
          refine resume_H ?_
          refine (hS1).mono ?_
          rintro e w3 ⟨rfl, hw⟩
          obtain rfl := hw.symm
          clear hS1
          have hS1 := isOpen_any HP.out
          go_wp2_with (go_at_call 18; refine halt_H ?_)
          refine resume_H ?_
          refine (hS1).mono ?_
          rintro e w3 ⟨rfl, hw⟩
          obtain rfl := hw.symm
          clear hS1
          have hS1 := codes_any HP.out HOk.out.1
          go_wp2_with (go_at_call 19; refine halt_H ?_)
          refine resume_H ?_
          refine (hS1).mono ?_
          rintro e w3 ⟨cv, rfl, hcv, hb3, A3, L3, c3, rfl⟩
          have HP3 := Lib.hid (HP.out.below hb3 (Nat.le_refl _))
          have hsw := HF.out.below.size
          have HC3 := Lib.hid (own_mono hcv hsw)
          have HO3 := Lib.hid (own_below HO.out hb3 (Nat.le_refl _))
          have HF3 := Lib.hid (HF.out.below2 hb3 hsw)
          have hsw3 := HF3.out.below.size
          clear hS1 hcv hb3
          have hS1 := sequence_any HP3.out HOk.out.1
          go_wp2_with (go_at_call 20; refine halt_H ?_)
          refine resume_H ?_
          refine (hS1).mono ?_
          rintro e w4 ⟨rfl, hb4⟩
          have HP4 := Lib.hid (HP3.out.below hb4 (Nat.le_refl _))
          have HC4 := Lib.hid (own_below HC3.out hb4 (Nat.le_refl _))
          have HO4 := Lib.hid (own_below HO3.out hb4 (Nat.le_refl _))
          have HF4 := Lib.hid (HF3.out.below2 hb4 hsw3)
          have hsw4 := HF4.out.below.size
          clear hS1 hb4 HP HP3 HO HO3 HC3 HF HF3
          obtain ⟨sq, hsq⟩ : ∃ sq, (⟨(seqR (p1.cs.getD [])).toArray⟩ : ByteArray) = sq := ⟨_, rfl⟩
          rw [hsq]
          have HSq := Lib.hid hsq
          clear hsq
          obtain ⟨bo, hbo⟩ : ∃ bo, opn p1.cs = bo := ⟨_, rfl⟩
          rw [hbo]
          have HBo := Lib.hid hbo
          clear hbo
          obtain ⟨be, hbe⟩ : ∃ be, p1.e = be := ⟨_, rfl⟩
          rw [hbe]
          have HBe := Lib.hid hbe
          clear hbe hsw hsw3
          go_wp2_with (at_builtin; refine halt_H ?_)
          refine resume_H ?_
          refine wpList_append_own_wide _ rfl _ _ 26 rfl w.heap.size tS i0 (.agg #[.bool false, .bool false, .slice none 0 0, .string ⟨#[]⟩, .string ⟨#[]⟩]) 5 64 Tryz.underlying26 hi0 hz0 hz1 hz2 rfl (by decide) _ k _ rfl (HO4.out.alloc _) ⟨w4.heap.size, 0, none⟩ 1 1 [.bool be, .bool bo, .slice A3 L3 c3, .string sq, .string q] rfl rfl (five_at (heap_alloc_new w4 _)) (by simp [Value.oneCell']) (by unfold maxLen; omega) (by omega) (by simp; omega) ?_
          intro v' w5 hown1 hgrow _
          have hb5 : Below w4.heap.size w4 (w4.alloc (.cells #[.bool be, .bool bo, .slice A3 L3 c3, .string sq, .string q] tS)) := (Below.refl _ w4).alloc (Nat.le_refl _) _
          have hne := fun {c : Nat} {t : TypeId} {cs : Array Value} (h1 : t ≠ tS) (hb : Blk (w4.alloc (.cells #[.bool be, .bool bo, .slice A3 L3 c3, .string sq, .string q] tS)) c t cs) => own_ne5 (HO4.out.alloc (.cells #[.bool be, .bool bo, .slice A3 L3 c3, .string sq, .string q] tS)) h1 hb
          have HP5 := Lib.hid (PSt.grownS (HP4.out.below hb5 (Nat.le_refl _)) hgrow (fun h1 hb => hne h1 hb) (own_map5 (HO4.out.alloc _)))
          have HC5 := Lib.hid (own_grownS (own_below HC4.out hb5 (Nat.le_refl _)) hgrow (fun hb => hne (by decide) hb))
          have HB5 := Lib.hid ((HF4.out.below.alloc hsw4 _).grown hgrow (by simp; omega) (fun k hk => (HO4.out.lt k hk).1))
          obtain ⟨g5, cap5, rfl, hc51, hc52⟩ := own_some5 hown1 (by omega)
          have HO5 := Lib.hid hown1
          have hM5 : cap5 ≤ 9223372036854775807 := hc52
          have HL5 := Lib.hid (show Lst w5 w.heap.size (k + 1) (xs ++ [.bool be, .bool bo, .slice A3 L3 c3, .string sq, .string q]) p1 from .inr ⟨by omega, xs, _, q, by rw [HBe.out, HBo.out, HSq.out], HC5.out⟩)
          clear hown1 hgrow hb5 hne hc52 hsw4
          go_wp2_with fail
          go_roundw
          case rel => exact ⟨k + 1, g5, cap5, rfl, by go_num, by omega, hc51, hM5, Lib.hid ⟨xs ++ _, p1, _, _, HO5.out, HL5.out, HP5.out, HOk.out, HSt.out⟩, HB5⟩
          case measure => simp [intOf]; omega
    · have hkn : k = n := by omega
      have hdr : L.drop k = [] := List.drop_eq_nil_of_le (by rw [HN.out]; omega)
      rw [hdr] at hSx
      cases hSx
      rw [hkn] at hO hL
      have HO := Lib.hid hO
      have HL := Lib.hid hL
      have HKn := Lib.hid hkn
      clear hO hL hP hOk HX hdr
      go_wp2
      go_ret
      rw [hkn]
      exact ⟨g1, cap1, xs, rfl, by omega, hk2, HO.out, HL.out, HB.out⟩
end Go.Proofs.YtimdmdjkkgdohaaGreatDoor
