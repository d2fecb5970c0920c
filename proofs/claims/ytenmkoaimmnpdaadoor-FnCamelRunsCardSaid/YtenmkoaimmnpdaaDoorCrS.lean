/- SplitCamelCase at texts of at most 200 letters and digits. -/
import Derived.Test.YtenmkoaimmnpdaaDoorCrN
import Derived.Test.YtenmkoaimmnpdaaDoorCrB
import Derived.Test.YtenmkoaimmnpdaaDoorIter
import Derived.Test.YtenmkoaimmnpdaaDoorShelf
import Derived.Deep.QuietTactic
import Derived.Lib.AppendIntMem
import Derived.Lib.SmallJoins
import Derived.LoopN
import Derived.Deep.RegionWith
import Derived.Deep.DrawnRows
namespace Go.Proofs.YtenmkoaimmnpdaaDoor
open Go.RowKit
set_option linter.unusedVariables false
abbrev Props (w : World) : Prop := Lib.TabIs Tryd.prog w "unicode.properties" .u8 Lib.propertiesTab
abbrev Spaces (w : World) : Prop := Lib.TabIs Tryd.prog w "strings.asciiSpace" .u8 Lib.asciiSpaceTab
theorem gProps : Tryd.prog.globalNamed "unicode.properties" = some 2 := by kernel_rfl
theorem gSpaces : Tryd.prog.globalNamed "strings.asciiSpace" = some 6 := by kernel_rfl
theorem Props.stays {w w' : World} (h : Props w) (hb : Below w.heap.size w w') : Props w' := Go.Joins.tab_stays gProps h hb (Nat.le_refl _)
theorem Spaces.stays {w w' : World} (h : Spaces w) (hb : Below w.heap.size w w') : Spaces w' := Go.Joins.tab_stays gSpaces h hb (Nat.le_refl _)
theorem kinds_check : ∀ n : Fin 256, kd (UInt8.ofNat n.val) ≤ 2 → (Lib.isLowerL n.val = (kd (UInt8.ofNat n.val) == 0) ∧ Lib.isUpperL n.val = (kd (UInt8.ofNat n.val) == 1) ∧ Lib.isDigitL ((n.val : Nat) : Int) = (kd (UInt8.ofNat n.val) == 2)) := by decide +kernel
theorem kinds_of (c : UInt8) (h : kd c ≤ 2) : Lib.isLowerL c.toNat = (kd c == 0) ∧ Lib.isUpperL c.toNat = (kd c == 1) ∧ Lib.isDigitL (c.toNat : Int) = (kd c == 2) := by
  have := kinds_check ⟨c.toNat, c.toNat_lt⟩
  have e : UInt8.ofNat c.toNat = c := by simp
  simp only [e] at this
  exact this h
theorem lower_any (c : UInt8) (h : kd c ≤ 2) (w : World) (hT : Props w) : Calls Tryd.prog 11 #[.int .i32 (c.toNat : Int)] w fun e w' => e = .returned (.bool (kd c == 0)) ∧ w = w' :=
  (Tryd.unicode_IsLower c.toNat w c.toNat_lt hT).mono fun e w' ⟨h1, h2⟩ => ⟨by rw [h1, (kinds_of c h).1], h2.symm⟩
theorem upper_any (c : UInt8) (h : kd c ≤ 2) (w : World) (hT : Props w) : Calls Tryd.prog 12 #[.int .i32 (c.toNat : Int)] w fun e w' => e = .returned (.bool (kd c == 1)) ∧ w = w' :=
  (Tryd.unicode_IsUpper c.toNat w c.toNat_lt hT).mono fun e w' ⟨h1, h2⟩ => ⟨by rw [h1, (kinds_of c h).2.1], h2.symm⟩
theorem digit_any (c : UInt8) (h : kd c ≤ 2) (w : World) : Calls Tryd.prog 13 #[.int .i32 (c.toNat : Int)] w fun e w' => e = .returned (.bool (kd c == 2)) ∧ w = w' :=
  (Tryd.unicode_IsDigit (c.toNat : Int) w (by have := c.toNat_lt; omega)).mono fun e w' ⟨h1, h2⟩ => ⟨by rw [h1, (kinds_of c h).2.2], h2.symm⟩
theorem alnum_asc {l : List UInt8} (h : Alnum l) : asc l := fun c hc => by
  have := h c hc
  unfold kd at this
  split at this
  · omega
  · split at this
    · omega
    · split at this <;> omega
def lc (G : List (List UInt8)) : Int := match G.getLast? with | none => 0 | some g => (hk g : Int) + 1
theorem info_G : (Tryd.prog.info? 29).map (fun i => (i.zero, i.size, i.bytes)) = some (some (.slice none 0 0), 1, 24) := by kernel_rfl
theorem info_R : (Tryd.prog.info? 21).map (fun i => (i.zero, i.size, i.bytes)) = some (some (.int .i32 0), 1, 4) := by kernel_rfl
theorem own_pos {w : World} {B e n : Nat} {v : Value} {xs : List Value} (h : w.ownsRow B e 1 v (n + 1) xs) : ∃ g cap, v = .slice (some ⟨g, 0, none⟩) (n + 1) cap := by
  obtain ⟨g, cap, e, _⟩ := own_pos1 h (by omega)
  exact ⟨g, cap, e⟩
theorem seen_str {w : World} {Bl : Nat} {v : Value} {l : List UInt8} (ha : asc l) (h : SeenR w Bl v l) : (convert 29 9 v).run Tryd.prog w = .ok (.string ⟨l.toArray⟩) w := by
  obtain ⟨g, cap, rfl, _, _, hc⟩ := h.cell
  have := run_convert_runes (P := Tryd.prog) w 29 9 21 ⟨g, 0, none⟩ l.length cap (l.map fun c => (c.toNat : Int)) (by simp) Tryd.underlying29 Tryd.underlying21 Tryd.underlying9 (fun j hj => by
    simp only [List.length_map] at hj
    rw [Addr.add_lit, Nat.zero_add, hc j (by simpa using hj)]
    simp [rv, hj])
  rw [this, List.take_of_length_le (by simp), bytes_asc l ha]
theorem sp_check : ∀ n : Fin 256, kd (UInt8.ofNat n.val) ≤ 2 → Lib.isSp (UInt8.ofNat n.val) = false := by decide +kernel
theorem sp_alnum {c : UInt8} (h : kd c ≤ 2) : Lib.isSp c = false := by
  have := sp_check ⟨c.toNat, c.toNat_lt⟩
  have e : UInt8.ofNat c.toNat = c := by simp
  simp only [e] at this
  exact this h
theorem trim_alnum {l : List UInt8} (h : Alnum l) : Lib.trimSpace l = l :=
  trim_same l (fun c hc => sp_alnum (h c (List.mem_of_head? hc))) (fun c hc => sp_alnum (h c (List.mem_of_getLast? hc)))
theorem trim_any (g : List UInt8) (h : Alnum g) (hl : g.length ≤ 200) (w : World) (hS : Spaces w) : Calls Tryd.prog 14 #[.string ⟨g.toArray⟩] w fun e w' => e = .returned (.string ⟨g.toArray⟩) ∧ Below w.heap.size w w' := by
  refine (Tryd.strings_TrimSpace ⟨g.toArray⟩ w (by rw [mk_size]; omega) (fun j b hb => alnum_asc h b (List.mem_of_getElem? (by simpa using hb))) hS).mono ?_
  rintro e w' ⟨rfl, rfl⟩
  refine ⟨?_, Go.Joins.below_bytesWorld _ _ _ _ (Nat.le_refl _)⟩
  rw [show (⟨g.toArray⟩ : ByteArray).data.toList = g by simp, trim_alnum h]
theorem wf_ne : ∀ (G : List (List UInt8)), WF G → ∀ g ∈ G, g ≠ []
  | [], _, g, h => by cases h
  | a :: G, hw, g, h => by
    rcases List.mem_cons.1 h with rfl | h
    · exact hw.1
    · exact wf_ne G hw.2.2.2 g h
theorem allr_at {w : World} {Bl : Nat} {vs : List Value} {G : List (List UInt8)} (h : AllR w Bl vs G) {i : Nat} {g : List UInt8} (hg : G[i]? = some g) : ∃ v, vs[i]? = some v ∧ SeenR w Bl v g := by
  have hl : i < G.length := (List.getElem?_eq_some_iff.1 hg).1
  have hv : vs[i]? = some (vs[i]'(by rw [h.1]; exact hl)) := List.getElem?_eq_getElem _
  exact ⟨_, hv, h.2 i _ g hv hg⟩
set_option maxHeartbeats 4000000 in
set_option maxRecDepth 100000 in
theorem split_any (s : ByteArray) (w : World) (ha : Alnum s.data.toList) (hs : s.size ≤ 200) (hT : Props w) (hS : Spaces w) : Calls Tryd.prog 9 #[.string s] w (CamelRet w (camel s.data.toList)) := by
  obtain ⟨iG, hiG, hzG0, hzG1, hzG2⟩ := info_parts info_G
  obtain ⟨iR, hiR, hzR0, hzR1, hzR2⟩ := info_parts info_R
  obtain ⟨i0, hi, hz0, hz1, hz2⟩ := info_parts info_strB
  have HAl := Lib.hid ha
  have HAs := Lib.hid (alnum_asc ha)
  have HP := Lib.hid (fun W (hb : Below w.heap.size w W) => hT.stays hb)
  have HSp := Lib.hid (fun W (hb : Below w.heap.size w W) => hS.stays hb)
  have HVa := Lib.hid (valid_any s w HAs.out (by omega))
  have hsz := Lib.hid (Lib.size_eq s)
  clear ha hT hS
  go_enter Tryd.func9, Tryd.ntmps9
  go_wp2_with (go_at_call 10; refine halt_V ?_)
  refine resume_V ?_
  refine HVa.out.mono ?_
  rintro e w1 ⟨rfl, hb⟩
  have HB1 := Lib.hid hb
  have hs1 := hb.size
  clear hb HVa
  obtain ⟨E, hE⟩ : ∃ E, w1.heap.size = E := ⟨_, rfl⟩
  obtain ⟨F, hF⟩ : ∃ F, E + 2 = F := ⟨_, rfl⟩
  go_wp2_with fail
  go_loopw [3, 4] (fun ro lv wr => ∃ (A C : List UInt8) (pos : Nat) (G : List (List UInt8)) (vs : List Value), Hid (s.data.toList = A ++ C) ∧ Hid (pos = A.length) ∧ pos ≤ s.size ∧ Hid (WF G) ∧ Hid (G.flatten = A) ∧ G.length ≤ pos ∧ lv = .int .i64 (lc G) ∧ wr.heap[E + 1]? = some (.stringIter s pos) ∧ Hid (wr.heap[E]? = some (.cells #[] 9 (0, 0))) ∧ Hid (Mk wr F ro G vs) ∧ Hid (Below w.heap.size w wr)) (fun _ _ wr => s.size - wr.iterPos (E + 1))
  case atStart =>
    subst hE hF
    exact ⟨[], s.data.toList, 0, [], [], Lib.hid rfl, Lib.hid rfl, Nat.zero_le _, Lib.hid trivial, Lib.hid rfl, Nat.le_refl _, rfl, itNew (World.size_alloc _ _).symm, Lib.hid (itOld (itNew rfl)), Lib.hid ⟨⟨rfl, .inl ⟨rfl, rfl⟩⟩, (by show w1.heap.size + 2 ≤ ((w1.alloc _).alloc (.stringIter s 0)).heap.size; rw [World.size_alloc, World.size_alloc]; exact Nat.le_refl _), .inl rfl⟩, Lib.hid ((HB1.out.alloc hs1 _).alloc (by rw [World.size_alloc]; omega) _)⟩
  case round =>
    obtain ⟨A, C, pos, G, vs, hL, hpA, hps, HW, HF, hGl0, rfl, hit, HE, HM0, HB⟩ := hrel
    obtain ⟨wo, rfl⟩ : ∃ wo : World, wo = wr := ⟨_, rfl⟩
    have hpos := itPos hit
    cases C with
    | nil =>
      have HGL := Lib.hid (show G.flatten = s.data.toList by rw [HF.out, hL.out, List.append_nil])
      have HWF := Lib.hid HW.out
      have hn200 : G.length ≤ 200 := by omega
      have hpe : pos = s.size := by rw [hsz.out, hL.out, List.append_nil, hpA.out]
      have hnx : ∀ ty, (Instr.next (.pointer (some ⟨E + 1, 0, none⟩)) true ty).run Tryd.prog wo = _ := fun ty => Lib.run_next_end_at wo (E + 1) s pos ty hit (by omega)
      have HO := Lib.hid HM0.out.1
      have HAll := Lib.hid (mk_all HM0.out)
      have hFw := HM0.out.2.1
      obtain ⟨oa, ocap, rfl, hoa⟩ := own_shape HM0.out.1
      have Hoa := Lib.hid hoa
      have HnG := Lib.hid (show G.length = G.length from rfl)
      have Hne := Lib.hid (show ∀ g ∈ G, g ≠ [] from wf_ne G HW.out)
      clear hL hpA hit HW HF HM0 hpos hoa hps hpe hGl0
      generalize hGn : G.length = n at *
      have HGn := Lib.hid hGn
      clear hGn
      go_wp2_with fail
      go_loopw [8] (fun iv wr => ∃ (i : Nat) (D Er : List (List UInt8)) (vs : List Value), Hid (D ++ mv Er = mv G) ∧ Hid (D.length = i) ∧ Hid ((D ++ Er).length = n) ∧ Hid ((D ++ Er).flatten = s.data.toList) ∧ Hid (∀ g ∈ Er, g ≠ []) ∧ i ≤ n ∧ iv = .int .i64 (i : Int) ∧ Hid (wr.ownsRow F eG 1 (.slice oa n ocap) n vs) ∧ Hid (AllR wr wr.heap.size vs (D ++ Er)) ∧ F ≤ wr.heap.size ∧ Hid (wr.heap[E]? = some (.cells #[] 9 (0, 0))) ∧ Hid (Below w.heap.size w wr)) (fun iv _ => n - (intOf iv).toNat)
      case atStart => exact ⟨0, [], G, _, Lib.hid rfl, Lib.hid rfl, HGn, HGL, Hne, Nat.zero_le _, rfl, HO, HAll, hFw, HE, HB⟩
      case round =>
        obtain ⟨i, D, Er, vs2, hmv, hD, hlen, hfl, hne, hin, rfl, hO, hAll, hFr, hE2, HBr⟩ := hrel
        obtain ⟨wq, rfl⟩ : ∃ wq : World, wq = wr := ⟨_, rfl⟩
        have hwr : IntKind.i64.wrap ((n : Int) - 1) = (n : Int) - 1 := IntWalk.i64_in _ (by omega)
        by_cases hlt : i + 1 < n
        · have hlt1 : (i : Int) < (n : Int) - 1 := by omega
          have he1 : decide ((i : Int) < (n : Int) - 1) = true := decide_eq_true hlt1
          obtain ⟨g, h, t, rfl⟩ : ∃ g h t, Er = g :: h :: t := by
            have h1 := hlen.out
            have h2 := hD.out
            rw [List.length_append] at h1
            match Er, h1 with
            | [], h1 => simp at h1; omega
            | [g], h1 => simp at h1; omega
            | g :: h :: t, _ => exact ⟨g, h, t, rfl⟩
          obtain ⟨go, rfl⟩ := Hoa.out (by omega)
          obtain ⟨x, y, rfl⟩ : ∃ x y, g = x :: y := by
            cases g with
            | nil => exact absurd rfl (hne.out [] (by simp))
            | cons x y => exact ⟨x, y, rfl⟩
          obtain ⟨z, h', rfl⟩ : ∃ z h', h = z :: h' := by
            cases h with
            | nil => exact absurd rfl (hne.out [] (by simp))
            | cons x y => exact ⟨x, y, rfl⟩
          obtain ⟨vi, hvi1, hvi2⟩ := allr_at hAll.out (i := i) (g := x :: y) (by rw [← hD.out]; simp)
          obtain ⟨vh, hvh1, hvh2⟩ := allr_at hAll.out (i := i + 1) (g := z :: h') (by rw [← hD.out]; simp)
          obtain ⟨gi, ci, rfl, hgi1, hgi2, hgi3⟩ := hvi2.cell
          obtain ⟨gh, ch, rfl, hgh1, hgh2, hgh3⟩ := hvh2.cell
          have k1 : wq.cell? ⟨go, i, none⟩ = some (.slice (some ⟨gi, 0, none⟩) (x :: y).length ci) := by rw [hO.out.cellAt i (by omega)]; exact hvi1
          have k2 : wq.cell? ⟨go, i + 1, none⟩ = some (.slice (some ⟨gh, 0, none⟩) (z :: h').length ch) := by rw [hO.out.cellAt (i + 1) (by omega)]; exact hvh1
          have k3 : wq.cell? ⟨gi, 0, none⟩ = some (.int .i32 (x.toNat : Int)) := hgi3 0 (by simp)
          have k4 : wq.cell? ⟨gh, 0, none⟩ = some (.int .i32 (z.toNat : Int)) := hgh3 0 (by simp)
          have hkx : kd x ≤ 2 := HAl.out x (by rw [← hfl.out]; simp)
          have hkz : kd z ≤ 2 := HAl.out z (by rw [← hfl.out]; simp)
          have HUx := Lib.hid (upper_any x hkx wq (HP.out wq HBr.out))
          have HLz := Lib.hid (lower_any z hkz wq (HP.out wq HBr.out))
          have Hlast := Lib.hid (fun k (hk : k < (x :: y).length) => hgi3 k hk)
          have Hvi := Lib.hid hvi2
          have Hvh := Lib.hid hvh2
          have hyl : (x :: y).length ≤ 200 ∧ (z :: h').length ≤ 200 := by
            have h1 := congrArg List.length hfl.out
            rw [← hsz.out] at h1
            simp at h1 ⊢
            omega
          have hw1 : IntKind.i64.wrap ((i : Int) + 1) = (i : Int) + 1 := IntWalk.i64_in _ (by omega)
          have HStay := Lib.hid (fun (hc : ¬ (hk (x :: y) = 1 ∧ hk (z :: h') = 0)) => show (D ++ [x :: y]) ++ mv ((z :: h') :: t) = mv G by rw [← hmv.out, mv, if_neg hc]; simp)
          have HMove := Lib.hid (fun (hc : hk (x :: y) = 1 ∧ hk (z :: h') = 0) => show (D ++ [(x :: y).dropLast]) ++ mv ((lastOf (x :: y) :: z :: h') :: t) = mv G by rw [← hmv.out, mv, if_pos hc]; simp)
          have HD2 := Lib.hid (show (D ++ [x :: y]).length = i + 1 by rw [List.length_append, hD.out]; rfl)
          have HL2 := Lib.hid (show ((D ++ [x :: y]) ++ (z :: h') :: t).length = n by rw [← hlen.out]; simp)
          have HF2 := Lib.hid (show ((D ++ [x :: y]) ++ (z :: h') :: t).flatten = s.data.toList by rw [← hfl.out]; simp)
          have HN2 := Lib.hid (show ∀ g ∈ (z :: h') :: t, g ≠ [] from fun g hg => hne.out g (by simp at hg ⊢; rcases hg with rfl | hg; simp; simp [hg]))
          have HA2 := Lib.hid (show AllR wq wq.heap.size vs2 ((D ++ [x :: y]) ++ (z :: h') :: t) by have := hAll.out; simpa using this)
          have hyn : (x :: y).length = y.length + 1 := rfl
          have hhn : (z :: h').length = h'.length + 1 := rfl
          clear hvi1 hvh1 hvi2 hvh2 hgi3 hgh3
          by_cases hx1 : kd x = 1
          · rw [hx1] at HUx
            by_cases hz0 : kd z = 0
            · rw [hz0] at HLz
              obtain ⟨gd, l, hgl⟩ : ∃ gd l, x :: y = gd ++ [l] := by
                rcases List.eq_nil_or_concat (x :: y) with h | ⟨a, b, h⟩
                · cases h
                · exact ⟨a, b, by rw [h, List.concat_eq_append]⟩
              have hgdl : gd.length = y.length := by have := congrArg List.length hgl; simp at this; omega
              have k5 : wq.cell? ⟨gi, y.length, none⟩ = some (.int .i32 (l.toNat : Int)) := by
                rw [Hlast.out y.length (by simp)]
                have : (x :: y)[y.length]'(by simp) = l := by simp only [hgl, ← hgdl]; simp
                rw [this]; rfl
              have HM2 := Lib.hid (show (D ++ [gd]) ++ mv ((l :: z :: h') :: t) = mv G by
                have := HMove.out ⟨hx1, hz0⟩
                rw [hgl, List.dropLast_concat, lastOf_snoc] at this
                exact this)
              have HF3 := Lib.hid (show ((D ++ [gd]) ++ (l :: z :: h') :: t).flatten = s.data.toList by rw [← HF2.out, hgl]; simp)
              have HN3 := Lib.hid (show ∀ g ∈ (l :: z :: h') :: t, g ≠ [] from fun g hg => by
                rcases List.mem_cons.1 hg with rfl | hg
                · simp
                · exact HN2.out g (List.mem_cons_of_mem _ hg))
              have HD3 := Lib.hid (show (D ++ [gd]).length = i + 1 by rw [List.length_append, hD.out]; rfl)
              have HL3 := Lib.hid (show ((D ++ [gd]) ++ (l :: z :: h') :: t).length = n by rw [← HL2.out]; simp)
              have HSet := Lib.hid (show ((D ++ (x :: y) :: (z :: h') :: t).set (i + 1) (l :: z :: h')).set i gd = (D ++ [gd]) ++ (l :: z :: h') :: t by rw [← hD.out]; simp)
              have hgdl2 := Lib.hid hgdl
              have Hgl := Lib.hid hgl
              clear hgl hgdl HStay HMove hx1 hz0 Hlast HD2 HL2 HF2 HN2 HA2
              rw [hyn] at k1
              generalize hym : y.length = m at *
              have e3 : IntKind.i64.wrap ((m : Int) + 1 - 1) = (m : Int) := by rw [show (m : Int) + 1 - 1 = m by omega]; exact IntWalk.i64_in _ (by omega)
              go_wp2_with (go_at_call 12; refine halt_V ?_)
              refine resume_V ?_
              refine HUx.out.mono ?_
              rintro e w2 ⟨rfl, rfl⟩
              go_wp2_with (go_at_call 11; refine halt_V ?_)
              refine resume_V ?_
              refine HLz.out.mono ?_
              rintro e w2 ⟨rfl, rfl⟩
              clear HUx HLz
              have hin2 : i < n := by omega
              have hin3 : (i : Int) + 1 < (n : Int) := by omega
              have hin4 : (0 : Int) ≤ (i : Int) + 1 := by omega
              have hmm : m < m + 1 := Nat.lt_succ_self m
              have hwm : IntKind.i64.wrap (m : Int) = (m : Int) := IntWalk.i64_in _ (by omega)
              have hmi : (m : Int) < (m : Int) + 1 := by omega
              have htn : ((i : Int) + 1).toNat = i + 1 := by omega
              have hgg : gi ≠ go := seen_ne hO.out Hvi.out
              have hgo1 : go < wq.heap.size := cell_lt k1
              have hgi9 : gi < wq.heap.size := cell_lt k5
              have hE9 : E < wq.heap.size := by omega
              have hw9 := HBr.out.size
              go_wp2_with fail
              refine wp_region_noPanic ?_
              refine wp_region_held_drew (S := (fun w' => w'.cell? ⟨go, i, none⟩ = some (.slice (some ⟨gi, 0, none⟩) (m + 1) ci) ∧ w'.cell? ⟨gi, m, none⟩ = some (.int .i32 (l.toNat : Int)))) (by kernel_rfl) (⟨k1, k5⟩) (fun hHeld => ?_)
              replace HBr := Lib.hid (Below.drew HBr.out)
              replace hO := Lib.hid (show (World.drew wq).ownsRow _ _ _ _ _ _ from hO.out)
              replace hAll := Lib.hid (show AllR (World.drew wq) (World.drew wq).heap.size _ _ from hAll.out)
              replace Hvh := Lib.hid (show SeenR (World.drew wq) (World.drew wq).heap.size _ _ from Hvh.out)
              replace Hvi := Lib.hid (show SeenR (World.drew wq) (World.drew wq).heap.size _ _ from Hvi.out)
              replace hE2 := Lib.hid (show (World.drew wq).heap[E]? = _ from hE2.out)
              replace hFr : F ≤ (World.drew wq).heap.size := hFr
              replace k1 : (World.drew wq).cell? _ = _ := k1
              replace k2 : (World.drew wq).cell? _ = _ := k2
              replace k5 : (World.drew wq).cell? _ = _ := k5
              replace hgo1 : go < (World.drew wq).heap.size := hgo1
              replace hgi9 : gi < (World.drew wq).heap.size := hgi9
              replace hE9 : E < (World.drew wq).heap.size := hE9
              replace hw9 : w.heap.size ≤ (World.drew wq).heap.size := hw9
              generalize hwd : World.drew wq = wd at *
              clear hwd
              generalize hBq : wd.heap.size = Bq at *
              refine wpAnyH_take (i := 0) (oi := { dst := some 79, op := Op.move (Operand.tmp 3), type := 27, pos := "fn.go:157", after := #[], guard := none }) (v := ?v2501) rfl (by kernel_rfl) (by kernel_rfl) (by kernel_rfl) (fun _ _ _ h => h) (Or.inl ⟨by rfl, ?hy2501⟩) (by assumption) ?_
              case hy2501 => (intro w hSw; (try dsimp only at hSw); go_simp; (try with_reducible rfl))
              try simp only [Act.put, List.setIfInBounds_toArray, List.set_cons_zero, List.set_cons_succ]
              refine wpAnyH_take (i := 1) (oi := { dst := some 80, op := Op.move (Operand.tmp 8), type := 3, pos := "fn.go:157", after := #[], guard := none }) (v := ?v2502) rfl (by kernel_rfl) (by kernel_rfl) (by kernel_rfl) (fun _ _ _ h => h) (Or.inl ⟨by rfl, ?hy2502⟩) (by assumption) ?_
              case hy2502 => (intro w hSw; (try dsimp only at hSw); go_simp; (try with_reducible rfl))
              try simp only [Act.put, List.setIfInBounds_toArray, List.set_cons_zero, List.set_cons_succ]
              refine wpAnyH_take (i := 2) (oi := { dst := some 81, op := Op.binOp BinOp.add 3 (Operand.tmp 80) (Operand.const (Value.int IntKind.i64 1)) 3, type := 3, pos := "fn.go:157", after := #[{ on := 1, ground := Ground.data }], guard := none }) (v := ?v2503) rfl (by kernel_rfl) (by kernel_rfl) (by kernel_rfl) (fun _ _ _ h => h) (Or.inl ⟨by rfl, ?hy2503⟩) (by assumption) ?_
              case hy2503 => (intro w hSw; (try dsimp only at hSw); go_simp; (try with_reducible rfl))
              try simp only [Act.put, List.setIfInBounds_toArray, List.set_cons_zero, List.set_cons_succ]
              refine wpAnyH_take (i := 3) (oi := { dst := some 82, op := Op.move (Operand.tmp 3), type := 27, pos := "fn.go:157", after := #[], guard := none }) (v := ?v2504) rfl (by kernel_rfl) (by kernel_rfl) (by kernel_rfl) (fun _ _ _ h => h) (Or.inl ⟨by rfl, ?hy2504⟩) (by assumption) ?_
              case hy2504 => (intro w hSw; (try dsimp only at hSw); go_simp; (try with_reducible rfl))
              try simp only [Act.put, List.setIfInBounds_toArray, List.set_cons_zero, List.set_cons_succ]
              refine wpAnyH_take (i := 4) (oi := { dst := some 83, op := Op.move (Operand.tmp 8), type := 3, pos := "fn.go:157", after := #[], guard := none }) (v := ?v2505) rfl (by kernel_rfl) (by kernel_rfl) (by kernel_rfl) (fun _ _ _ h => h) (Or.inl ⟨by rfl, ?hy2505⟩) (by assumption) ?_
              case hy2505 => (intro w hSw; (try dsimp only at hSw); go_simp; (try with_reducible rfl))
              try simp only [Act.put, List.setIfInBounds_toArray, List.set_cons_zero, List.set_cons_succ]
              refine wpAnyH_take (i := 5) (oi := { dst := some 84, op := Op.indexAddr 27 (Operand.tmp 82) (Operand.tmp 83), type := 0, pos := "fn.go:157", after := #[{ on := 3, ground := Ground.data }, { on := 4, ground := Ground.data }], guard := none }) (v := ?v2506) rfl (by kernel_rfl) (by kernel_rfl) (by kernel_rfl) (fun _ _ _ h => h) (Or.inl ⟨by rfl, ?hy2506⟩) (by assumption) ?_
              case hy2506 => (intro w hSw; (try dsimp only at hSw); go_simp; (try with_reducible rfl))
              try simp only [Act.put, List.setIfInBounds_toArray, List.set_cons_zero, List.set_cons_succ]
              refine wpAnyH_take (i := 6) (oi := { dst := some 85, op := Op.load 29 (Operand.tmp 84), type := 29, pos := "fn.go:157", after := #[{ on := 5, ground := Ground.data }], guard := none }) (v := ?v2507) rfl (by kernel_rfl) (by kernel_rfl) (by kernel_rfl) (fun _ _ _ h => h) (Or.inl ⟨by rfl, ?hy2507⟩) (by assumption) ?_
              case hy2507 => (intro w hSw; (try dsimp only at hSw); go_simp; (try with_reducible rfl))
              try simp only [Act.put, List.setIfInBounds_toArray, List.set_cons_zero, List.set_cons_succ]
              refine wpAnyH_take (i := 7) (oi := { dst := some 86, op := Op.move (Operand.tmp 3), type := 27, pos := "fn.go:157", after := #[], guard := none }) (v := ?v2508) rfl (by kernel_rfl) (by kernel_rfl) (by kernel_rfl) (fun _ _ _ h => h) (Or.inl ⟨by rfl, ?hy2508⟩) (by assumption) ?_
              case hy2508 => (intro w hSw; (try dsimp only at hSw); go_simp; (try with_reducible rfl))
              try simp only [Act.put, List.setIfInBounds_toArray, List.set_cons_zero, List.set_cons_succ]
              refine wpAnyH_take (i := 8) (oi := { dst := some 87, op := Op.move (Operand.tmp 8), type := 3, pos := "fn.go:157", after := #[], guard := none }) (v := ?v2509) rfl (by kernel_rfl) (by kernel_rfl) (by kernel_rfl) (fun _ _ _ h => h) (Or.inl ⟨by rfl, ?hy2509⟩) (by assumption) ?_
              case hy2509 => (intro w hSw; (try dsimp only at hSw); go_simp; (try with_reducible rfl))
              try simp only [Act.put, List.setIfInBounds_toArray, List.set_cons_zero, List.set_cons_succ]
              refine wpAnyH_take (i := 9) (oi := { dst := some 88, op := Op.indexAddr 27 (Operand.tmp 86) (Operand.tmp 87), type := 0, pos := "fn.go:157", after := #[{ on := 7, ground := Ground.data }, { on := 8, ground := Ground.data }], guard := none }) (v := ?v2510) rfl (by kernel_rfl) (by kernel_rfl) (by kernel_rfl) (fun _ _ _ h => h) (Or.inl ⟨by rfl, ?hy2510⟩) (by assumption) ?_
              case hy2510 => (intro w hSw; (try dsimp only at hSw); go_simp; (try with_reducible rfl))
              try simp only [Act.put, List.setIfInBounds_toArray, List.set_cons_zero, List.set_cons_succ]
              refine wpAnyH_take (i := 10) (oi := { dst := some 89, op := Op.load 29 (Operand.tmp 88), type := 29, pos := "fn.go:157", after := #[{ on := 9, ground := Ground.data }], guard := none }) (v := ?v2511) rfl (by kernel_rfl) (by kernel_rfl) (by kernel_rfl) (fun _ _ _ h => h) (Or.inl ⟨by rfl, ?hy2511⟩) (by assumption) ?_
              case hy2511 => (intro w hSw; (try dsimp only at hSw); go_simp; (try with_reducible rfl))
              try simp only [Act.put, List.setIfInBounds_toArray, List.set_cons_zero, List.set_cons_succ]
              refine wpAnyH_take (i := 11) (oi := { dst := some 90, op := Op.call { callee := Callee.builtin Builtin.len, args := #[Operand.tmp 89], argTypes := #[29] }, type := 3, pos := "fn.go:157", after := #[{ on := 10, ground := Ground.data }], guard := none }) (v := ?v2512) rfl (by kernel_rfl) (by kernel_rfl) (by kernel_rfl) (fun _ _ _ h => h) (Or.inl ⟨by rfl, ?hy2512⟩) (by assumption) ?_
              case hy2512 => (intro w hSw; (try dsimp only at hSw); go_simp; (try with_reducible rfl))
              try simp only [Act.put, List.setIfInBounds_toArray, List.set_cons_zero, List.set_cons_succ]
              refine wpAnyH_take (i := 12) (oi := { dst := some 91, op := Op.binOp BinOp.sub 3 (Operand.tmp 90) (Operand.const (Value.int IntKind.i64 1)) 3, type := 3, pos := "fn.go:157", after := #[{ on := 11, ground := Ground.data }], guard := none }) (v := ?v2513) rfl (by kernel_rfl) (by kernel_rfl) (by kernel_rfl) (fun _ _ _ h => h) (Or.inl ⟨by rfl, ?hy2513⟩) (by assumption) ?_
              case hy2513 => (intro w hSw; (try dsimp only at hSw); go_simp; (try with_reducible rfl))
              try simp only [Act.put, List.setIfInBounds_toArray, List.set_cons_zero, List.set_cons_succ]
              refine wpAnyH_take (i := 13) (oi := { dst := some 92, op := Op.indexAddr 29 (Operand.tmp 85) (Operand.tmp 91), type := 0, pos := "fn.go:157", after := #[{ on := 6, ground := Ground.data }, { on := 12, ground := Ground.data }], guard := none }) (v := ?v2514) rfl (by kernel_rfl) (by kernel_rfl) (by kernel_rfl) (fun _ _ _ h => h) (Or.inl ⟨by rfl, ?hy2514⟩) (by assumption) ?_
              case hy2514 => (intro w hSw; (try dsimp only at hSw); go_simp; (try with_reducible rfl))
              try simp only [Act.put, List.setIfInBounds_toArray, List.set_cons_zero, List.set_cons_succ]
              refine wpAnyH_take (i := 14) (oi := { dst := some 93, op := Op.load 21 (Operand.tmp 92), type := 21, pos := "fn.go:157", after := #[{ on := 13, ground := Ground.data }], guard := none }) (v := ?v2515) rfl (by kernel_rfl) (by kernel_rfl) (by kernel_rfl) (fun _ _ _ h => h) (Or.inl ⟨by rfl, ?hy2515⟩) (by assumption) ?_
              case hy2515 => (intro w hSw; (try dsimp only at hSw); go_simp; (try with_reducible rfl))
              try simp only [Act.put, List.setIfInBounds_toArray, List.set_cons_zero, List.set_cons_succ]
              refine wpAnyH_take (i := 16) (oi := { dst := some 95, op := Op.move (Operand.tmp 3), type := 27, pos := "fn.go:157", after := #[], guard := none }) (v := ?v2516) rfl (by kernel_rfl) (by kernel_rfl) (by kernel_rfl) (fun _ _ _ h => h) (Or.inl ⟨by rfl, ?hy2516⟩) (by assumption) ?_
              case hy2516 => (intro w hSw; (try dsimp only at hSw); go_simp; (try with_reducible rfl))
              try simp only [Act.put, List.setIfInBounds_toArray, List.set_cons_zero, List.set_cons_succ]
              refine wpAnyH_take (i := 17) (oi := { dst := some 96, op := Op.move (Operand.tmp 8), type := 3, pos := "fn.go:157", after := #[], guard := none }) (v := ?v2517) rfl (by kernel_rfl) (by kernel_rfl) (by kernel_rfl) (fun _ _ _ h => h) (Or.inl ⟨by rfl, ?hy2517⟩) (by assumption) ?_
              case hy2517 => (intro w hSw; (try dsimp only at hSw); go_simp; (try with_reducible rfl))
              try simp only [Act.put, List.setIfInBounds_toArray, List.set_cons_zero, List.set_cons_succ]
              refine wpAnyH_take (i := 18) (oi := { dst := some 97, op := Op.binOp BinOp.add 3 (Operand.tmp 96) (Operand.const (Value.int IntKind.i64 1)) 3, type := 3, pos := "fn.go:157", after := #[{ on := 17, ground := Ground.data }], guard := none }) (v := ?v2518) rfl (by kernel_rfl) (by kernel_rfl) (by kernel_rfl) (fun _ _ _ h => h) (Or.inl ⟨by rfl, ?hy2518⟩) (by assumption) ?_
              case hy2518 => (intro w hSw; (try dsimp only at hSw); go_simp; (try with_reducible rfl))
              try simp only [Act.put, List.setIfInBounds_toArray, List.set_cons_zero, List.set_cons_succ]
              refine wpAnyH_take (i := 19) (oi := { dst := some 98, op := Op.indexAddr 27 (Operand.tmp 95) (Operand.tmp 97), type := 0, pos := "fn.go:157", after := #[{ on := 16, ground := Ground.data }, { on := 18, ground := Ground.data }], guard := none }) (v := ?v2519) rfl (by kernel_rfl) (by kernel_rfl) (by kernel_rfl) (fun _ _ _ h => h) (Or.inl ⟨by rfl, ?hy2519⟩) (by assumption) ?_
              case hy2519 => (intro w hSw; (try dsimp only at hSw); go_simp; (try with_reducible rfl))
              try simp only [Act.put, List.setIfInBounds_toArray, List.set_cons_zero, List.set_cons_succ]
              refine wpAnyH_ready (rs := [15, 20]) (by kernel_rfl) (by simp) ?_
              refine AllReadyH.cons (o := { dst := some 94, op := Op.buildSlice 29 1 #[(0, Operand.tmp 93)], type := 29, pos := "fn.go:157", after := #[{ on := 14, ground := Ground.data }], guard := none }) rfl (fun K hK => ?_) ?_
              · skip
                go_simp
                generalize hwn : World.alloc _ _ = w15
                obtain ⟨hown, KN⟩ := al_own (v := rv l) hwn
                have hB15 := KN.size
                rw [hBq] at hown KN hB15
                have HOw := Lib.hid hown
                clear hwn hown
                replace k1 := (KN.cell (p := ⟨go, i, none⟩) hgo1).trans k1
                replace k2 := (KN.cell (p := ⟨go, i + 1, none⟩) hgo1).trans k2
                replace k5 := (KN.cell (p := ⟨gi, m, none⟩) hgi9).trans k5
                replace hO := Lib.hid (own_toB hO.out hgo1 KN)
                replace hAll := Lib.hid (hAll.out.keep fun v g hs => hs.below KN)
                replace Hvh := Lib.hid (Hvh.out.below KN)
                replace Hvi := Lib.hid (Hvi.out.below KN)
                replace hE2 := Lib.hid ((KN.block E hE9).trans hE2.out)
                replace HBr := Lib.hid (HBr.out.trans (KN.mono hw9))
                clear KN
                refine hK.out _ _ (by exact ⟨k1, k5⟩) (fun hHeld => ?_)
                clear hK K
                try simp only [Act.put, List.setIfInBounds_toArray, List.set_cons_zero, List.set_cons_succ]
                refine wpAnyH_ready (rs := [20]) (by kernel_rfl) (by simp) ?_
                refine AllReadyH.cons (o := { dst := some 99, op := Op.load 29 (Operand.tmp 98), type := 29, pos := "fn.go:157", after := #[{ on := 19, ground := Ground.data }], guard := none }) rfl (fun K hK => ?_) AllReadyH.nil
                go_simp
                refine hK.out _ _ (by exact ⟨k1, k5⟩) (fun hHeld => ?_)
                clear hK K
                try simp only [Act.put, List.setIfInBounds_toArray, List.set_cons_zero, List.set_cons_succ]
                refine wpAnyH_ready (rs := [21]) (by kernel_rfl) (by simp) ?_
                refine AllReadyH.cons (o := { dst := some 100, op := Op.call { callee := Callee.builtin Builtin.append, args := #[Operand.tmp 94, Operand.tmp 99], argTypes := #[29, 29] }, type := 29, pos := "fn.go:157", after := #[{ on := 15, ground := Ground.data }, { on := 20, ground := Ground.data }], guard := none }) rfl (fun K hK => ?_) AllReadyH.nil
                rw [if_pos (by rfl)]
                refine wp_append_own _ _ _ 29 rfl Bq 21 iR (.int .i32 0) 1 4 Tryd.underlying29 hiR hzR0 hzR1 hzR2 rfl (by decide) _ 1 [rv l] rfl HOw.out ⟨gh, 0, none⟩ (z :: h').length ch ((z :: h').map rv) rfl (by simp) (news_at Hvh.out) (by simp [Value.oneCell', rv]) (by unfold maxLen; omega) (by omega) hB15 ?_
                intro v' w21 hown1 hgrow _
                obtain ⟨gv, cv, rfl⟩ := own_pos (n := (z :: h').length) (by rwa [Nat.add_comm] at hown1)
                have HN4 := Lib.hid hown1
                have KN := below_own HOw.out hB15 hgrow
                have hB21 := Nat.le_trans hB15 hgrow.size
                clear hown1 hgrow
                replace k1 := (KN.cell (p := ⟨go, i, none⟩) hgo1).trans k1
                replace k2 := (KN.cell (p := ⟨go, i + 1, none⟩) hgo1).trans k2
                replace k5 := (KN.cell (p := ⟨gi, m, none⟩) hgi9).trans k5
                replace hO := Lib.hid (own_toB hO.out hgo1 KN)
                replace hAll := Lib.hid (hAll.out.keep fun v g hs => hs.below KN)
                replace Hvh := Lib.hid (Hvh.out.below KN)
                replace Hvi := Lib.hid (Hvi.out.below KN)
                replace hE2 := Lib.hid ((KN.block E hE9).trans hE2.out)
                replace HBr := Lib.hid (HBr.out.trans (KN.mono hw9))
                clear KN
                have f1 : w21.frozen? ⟨go, i + 1, none⟩ = false := hO.out.frozenAt (i + 1)
                refine hK.out _ _ (by exact ⟨k1, k5⟩) (fun hHeld => ?_)
                clear hK K
                try simp only [Act.put, List.setIfInBounds_toArray, List.set_cons_zero, List.set_cons_succ]
                refine wpAnyH_take (i := 22) (oi := { dst := some 101, op := Op.indexAddr 27 (Operand.tmp 79) (Operand.tmp 81), type := 0, pos := "fn.go:157", after := #[{ on := 0, ground := Ground.data }, { on := 2, ground := Ground.data }, { on := 0, ground := Ground.phase }, { on := 1, ground := Ground.phase }, { on := 2, ground := Ground.phase }, { on := 3, ground := Ground.phase }, { on := 4, ground := Ground.phase }, { on := 5, ground := Ground.phase }, { on := 6, ground := Ground.phase }, { on := 7, ground := Ground.phase }, { on := 8, ground := Ground.phase }, { on := 9, ground := Ground.phase }, { on := 10, ground := Ground.phase }, { on := 11, ground := Ground.phase }, { on := 12, ground := Ground.phase }, { on := 13, ground := Ground.phase }, { on := 14, ground := Ground.phase }, { on := 15, ground := Ground.phase }, { on := 16, ground := Ground.phase }, { on := 17, ground := Ground.phase }, { on := 18, ground := Ground.phase }, { on := 19, ground := Ground.phase }, { on := 20, ground := Ground.phase }, { on := 21, ground := Ground.phase }], guard := none }) (v := ?v2520) rfl (by kernel_rfl) (by kernel_rfl) (by kernel_rfl) (fun _ _ _ h => h) (Or.inl ⟨by rfl, ?hy2520⟩) (by assumption) ?_
                case hy2520 => (intro w hSw; (try dsimp only at hSw); go_simp; (try with_reducible rfl))
                try simp only [Act.put, List.setIfInBounds_toArray, List.set_cons_zero, List.set_cons_succ]
                refine wpAnyH_ready (rs := [23]) (by kernel_rfl) (by simp) ?_
                refine AllReadyH.cons (o := { dst := none, op := Op.store 29 (Operand.tmp 101) (Operand.tmp 100), type := 0, pos := "fn.go:157", after := #[{ on := 22, ground := Ground.data }, { on := 21, ground := Ground.data }, { on := 21, ground := Ground.chain }, { on := 0, ground := Ground.phase }, { on := 1, ground := Ground.phase }, { on := 2, ground := Ground.phase }, { on := 3, ground := Ground.phase }, { on := 4, ground := Ground.phase }, { on := 5, ground := Ground.phase }, { on := 6, ground := Ground.phase }, { on := 7, ground := Ground.phase }, { on := 8, ground := Ground.phase }, { on := 9, ground := Ground.phase }, { on := 10, ground := Ground.phase }, { on := 11, ground := Ground.phase }, { on := 12, ground := Ground.phase }, { on := 13, ground := Ground.phase }, { on := 14, ground := Ground.phase }, { on := 15, ground := Ground.phase }, { on := 16, ground := Ground.phase }, { on := 17, ground := Ground.phase }, { on := 18, ground := Ground.phase }, { on := 19, ground := Ground.phase }, { on := 20, ground := Ground.phase }, { on := 21, ground := Ground.phase }], guard := none }) rfl (fun K hK => ?_) AllReadyH.nil
                go_simp
                have hv9 := HN4.out
                rw [Nat.add_comm 1 (z :: h').length] at hv9
                have hA21 := hAll.out.keep (Bl' := w21.heap.size) (fun v g hs => hs.more hB21)
                obtain ⟨hO3, hA3, hB3⟩ := store_row (k := i + 1) (v := (.slice (some ⟨gv, 0, none⟩) (h'.length + 1 + 1) cv)) (g := l :: z :: h') hO.out hA21 hlt (SeenR.of_own hv9 (by simp))
                have k1s : (w21.setCell ⟨go, i + 1, none⟩ (.slice (some ⟨gv, 0, none⟩) (h'.length + 1 + 1) cv)).cell? ⟨go, i, none⟩ = _ := (World.cell?_setCell_other _ _ _ _ (by simp)).trans k1
                have k5s : (w21.setCell ⟨go, i + 1, none⟩ (.slice (some ⟨gv, 0, none⟩) (h'.length + 1 + 1) cv)).cell? ⟨gi, m, none⟩ = _ := (World.cell?_setCell_other _ _ _ _ (by simp)).trans k5
                have hvi3 : SeenR (w21.setCell ⟨go, i + 1, none⟩ (.slice (some ⟨gv, 0, none⟩) (h'.length + 1 + 1) cv)) Bq _ _ := seen_set hO.out Hvi.out
                have hE3 := (hB3.block E (by omega)).trans hE2.out
                have hBr3 := HBr.out.trans (hB3.mono (by omega))
                have hsz3 : (w21.setCell ⟨go, i + 1, none⟩ (.slice (some ⟨gv, 0, none⟩) (h'.length + 1 + 1) cv)).heap.size = w21.heap.size := by simp
                rw [← hsz3] at hA3 hB21
                have HO3 := Lib.hid hO3
                have HA3 := Lib.hid hA3
                have HE3 := Lib.hid hE3
                have HBr3 := Lib.hid hBr3
                have Hvi3 := Lib.hid hvi3
                clear hO hAll hE2 HBr Hvi Hvh hO3 hA3 hB3 hE3 hBr3 hvi3 hsz3 hA21 hv9 k1 k5 k2 HN4 f1
                have k1 := k1s
                have k5 := k5s
                clear k1s k5s
                generalize hws : World.setCell _ _ _ = wS at *
                clear hws
                refine hK.out _ _ (by exact ⟨k1, k5⟩) (fun hHeld => ?_)
                clear hK K
                try simp only [Act.put, List.setIfInBounds_toArray, List.set_cons_zero, List.set_cons_succ]
                refine wpAnyH_done (by kernel_rfl) ?_ _
                refine NoPanic.normal ?_
                have hmc : m ≤ ci := by omega
                go_wp2_with fail
                refine wp_region_noPanic ?_
                refine wp_region_held_drew (S := (fun w' => True)) (by kernel_rfl) (trivial) (fun hHeld => ?_)
                replace HBr3 := Lib.hid (Below.drew HBr3.out)
                replace HO3 := Lib.hid (show (World.drew wS).ownsRow _ _ _ _ _ _ from HO3.out)
                replace HA3 := Lib.hid (show AllR (World.drew wS) (World.drew wS).heap.size _ _ from HA3.out)
                replace Hvi3 := Lib.hid (show SeenR (World.drew wS) _ _ _ from Hvi3.out)
                replace HE3 := Lib.hid (show (World.drew wS).heap[E]? = _ from HE3.out)
                replace k1 : (World.drew wS).cell? _ = _ := k1
                replace k5 : (World.drew wS).cell? _ = _ := k5
                replace hB21 : Bq ≤ (World.drew wS).heap.size := hB21
                generalize hwd : World.drew wS = wT at *
                clear hwd
                have f2 : wT.frozen? ⟨go, i, none⟩ = false := HO3.out.frozenAt i
                refine wpAnyH_take (i := 0) (oi := { dst := some 102, op := Op.move (Operand.tmp 3), type := 27, pos := "fn.go:158", after := #[], guard := none }) (v := ?v2601) rfl (by kernel_rfl) (by kernel_rfl) (by kernel_rfl) (fun _ _ _ h => h) (Or.inl ⟨by rfl, ?hy2601⟩) (by assumption) ?_
                case hy2601 => (intro w hSw; (try dsimp only at hSw); go_simp; (try with_reducible rfl))
                try simp only [Act.put, List.setIfInBounds_toArray, List.set_cons_zero, List.set_cons_succ]
                refine wpAnyH_take (i := 1) (oi := { dst := some 103, op := Op.move (Operand.tmp 8), type := 3, pos := "fn.go:158", after := #[], guard := none }) (v := ?v2602) rfl (by kernel_rfl) (by kernel_rfl) (by kernel_rfl) (fun _ _ _ h => h) (Or.inl ⟨by rfl, ?hy2602⟩) (by assumption) ?_
                case hy2602 => (intro w hSw; (try dsimp only at hSw); go_simp; (try with_reducible rfl))
                try simp only [Act.put, List.setIfInBounds_toArray, List.set_cons_zero, List.set_cons_succ]
                refine wpAnyH_take (i := 2) (oi := { dst := some 104, op := Op.move (Operand.tmp 3), type := 27, pos := "fn.go:158", after := #[], guard := none }) (v := ?v2603) rfl (by kernel_rfl) (by kernel_rfl) (by kernel_rfl) (fun _ _ _ h => h) (Or.inl ⟨by rfl, ?hy2603⟩) (by assumption) ?_
                case hy2603 => (intro w hSw; (try dsimp only at hSw); go_simp; (try with_reducible rfl))
                try simp only [Act.put, List.setIfInBounds_toArray, List.set_cons_zero, List.set_cons_succ]
                refine wpAnyH_take (i := 3) (oi := { dst := some 105, op := Op.move (Operand.tmp 8), type := 3, pos := "fn.go:158", after := #[], guard := none }) (v := ?v2604) rfl (by kernel_rfl) (by kernel_rfl) (by kernel_rfl) (fun _ _ _ h => h) (Or.inl ⟨by rfl, ?hy2604⟩) (by assumption) ?_
                case hy2604 => (intro w hSw; (try dsimp only at hSw); go_simp; (try with_reducible rfl))
                try simp only [Act.put, List.setIfInBounds_toArray, List.set_cons_zero, List.set_cons_succ]
                refine wpAnyH_take (i := 4) (oi := { dst := some 106, op := Op.indexAddr 27 (Operand.tmp 104) (Operand.tmp 105), type := 0, pos := "fn.go:158", after := #[{ on := 2, ground := Ground.data }, { on := 3, ground := Ground.data }], guard := none }) (v := ?v2605) rfl (by kernel_rfl) (by kernel_rfl) (by kernel_rfl) (fun _ _ _ h => h) (Or.inl ⟨by rfl, ?hy2605⟩) (by assumption) ?_
                case hy2605 => (intro w hSw; (try dsimp only at hSw); go_simp; (try with_reducible rfl))
                try simp only [Act.put, List.setIfInBounds_toArray, List.set_cons_zero, List.set_cons_succ]
                refine wpAnyH_take (i := 6) (oi := { dst := some 108, op := Op.move (Operand.tmp 3), type := 27, pos := "fn.go:158", after := #[], guard := none }) (v := ?v2606) rfl (by kernel_rfl) (by kernel_rfl) (by kernel_rfl) (fun _ _ _ h => h) (Or.inl ⟨by rfl, ?hy2606⟩) (by assumption) ?_
                case hy2606 => (intro w hSw; (try dsimp only at hSw); go_simp; (try with_reducible rfl))
                try simp only [Act.put, List.setIfInBounds_toArray, List.set_cons_zero, List.set_cons_succ]
                refine wpAnyH_take (i := 7) (oi := { dst := some 109, op := Op.move (Operand.tmp 8), type := 3, pos := "fn.go:158", after := #[], guard := none }) (v := ?v2607) rfl (by kernel_rfl) (by kernel_rfl) (by kernel_rfl) (fun _ _ _ h => h) (Or.inl ⟨by rfl, ?hy2607⟩) (by assumption) ?_
                case hy2607 => (intro w hSw; (try dsimp only at hSw); go_simp; (try with_reducible rfl))
                try simp only [Act.put, List.setIfInBounds_toArray, List.set_cons_zero, List.set_cons_succ]
                refine wpAnyH_take (i := 8) (oi := { dst := some 110, op := Op.indexAddr 27 (Operand.tmp 108) (Operand.tmp 109), type := 0, pos := "fn.go:158", after := #[{ on := 6, ground := Ground.data }, { on := 7, ground := Ground.data }], guard := none }) (v := ?v2608) rfl (by kernel_rfl) (by kernel_rfl) (by kernel_rfl) (fun _ _ _ h => h) (Or.inl ⟨by rfl, ?hy2608⟩) (by assumption) ?_
                case hy2608 => (intro w hSw; (try dsimp only at hSw); go_simp; (try with_reducible rfl))
                try simp only [Act.put, List.setIfInBounds_toArray, List.set_cons_zero, List.set_cons_succ]
                refine wpAnyH_ready (rs := [5, 9]) (by kernel_rfl) (by simp) ?_
                refine AllReadyH.cons (o := { dst := some 107, op := Op.load 29 (Operand.tmp 106), type := 29, pos := "fn.go:158", after := #[{ on := 4, ground := Ground.data }], guard := none }) rfl (fun K hK => ?_) ?_
                · skip
                  go_simp
                  refine hK.out _ _ (trivial) (fun hHeld => ?_)
                  clear hK K
                  try simp only [Act.put, List.setIfInBounds_toArray, List.set_cons_zero, List.set_cons_succ]
                  refine wpAnyH_ready (rs := [9]) (by kernel_rfl) (by simp) ?_
                  refine AllReadyH.cons (o := { dst := some 111, op := Op.load 29 (Operand.tmp 110), type := 29, pos := "fn.go:158", after := #[{ on := 8, ground := Ground.data }], guard := none }) rfl (fun K hK => ?_) AllReadyH.nil
                  go_simp
                  refine hK.out _ _ (trivial) (fun hHeld => ?_)
                  clear hK K
                  try simp only [Act.put, List.setIfInBounds_toArray, List.set_cons_zero, List.set_cons_succ]
                  refine wpAnyH_take (i := 10) (oi := { dst := some 112, op := Op.call { callee := Callee.builtin Builtin.len, args := #[Operand.tmp 111], argTypes := #[29] }, type := 3, pos := "fn.go:158", after := #[{ on := 9, ground := Ground.data }], guard := none }) (v := ?v2609) rfl (by kernel_rfl) (by kernel_rfl) (by kernel_rfl) (fun _ _ _ h => h) (Or.inl ⟨by rfl, ?hy2609⟩) (by assumption) ?_
                  case hy2609 => (intro w hSw; (try dsimp only at hSw); go_simp; (try with_reducible rfl))
                  try simp only [Act.put, List.setIfInBounds_toArray, List.set_cons_zero, List.set_cons_succ]
                  refine wpAnyH_take (i := 11) (oi := { dst := some 113, op := Op.binOp BinOp.sub 3 (Operand.tmp 112) (Operand.const (Value.int IntKind.i64 1)) 3, type := 3, pos := "fn.go:158", after := #[{ on := 10, ground := Ground.data }], guard := none }) (v := ?v2610) rfl (by kernel_rfl) (by kernel_rfl) (by kernel_rfl) (fun _ _ _ h => h) (Or.inl ⟨by rfl, ?hy2610⟩) (by assumption) ?_
                  case hy2610 => (intro w hSw; (try dsimp only at hSw); go_simp; (try with_reducible rfl))
                  try simp only [Act.put, List.setIfInBounds_toArray, List.set_cons_zero, List.set_cons_succ]
                  refine wpAnyH_take (i := 12) (oi := { dst := some 114, op := Op.slice 29 (Operand.tmp 107) none (some (Operand.tmp 113)) none, type := 29, pos := "fn.go:158", after := #[{ on := 5, ground := Ground.data }, { on := 11, ground := Ground.data }], guard := none }) (v := ?v2611) rfl (by kernel_rfl) (by kernel_rfl) (by kernel_rfl) (fun _ _ _ h => h) (Or.inl ⟨by rfl, ?hy2611⟩) (by assumption) ?_
                  case hy2611 => (intro w hSw; (try dsimp only at hSw); go_simp; (try with_reducible rfl))
                  try simp only [Act.put, List.setIfInBounds_toArray, List.set_cons_zero, List.set_cons_succ]
                  refine wpAnyH_take (i := 13) (oi := { dst := some 115, op := Op.indexAddr 27 (Operand.tmp 102) (Operand.tmp 103), type := 0, pos := "fn.go:158", after := #[{ on := 0, ground := Ground.data }, { on := 1, ground := Ground.data }, { on := 0, ground := Ground.phase }, { on := 1, ground := Ground.phase }, { on := 2, ground := Ground.phase }, { on := 3, ground := Ground.phase }, { on := 4, ground := Ground.phase }, { on := 5, ground := Ground.phase }, { on := 6, ground := Ground.phase }, { on := 7, ground := Ground.phase }, { on := 8, ground := Ground.phase }, { on := 9, ground := Ground.phase }, { on := 10, ground := Ground.phase }, { on := 11, ground := Ground.phase }, { on := 12, ground := Ground.phase }], guard := none }) (v := ?v2612) rfl (by kernel_rfl) (by kernel_rfl) (by kernel_rfl) (fun _ _ _ h => h) (Or.inl ⟨by rfl, ?hy2612⟩) (by assumption) ?_
                  case hy2612 => (intro w hSw; (try dsimp only at hSw); go_simp; (try with_reducible rfl))
                  try simp only [Act.put, List.setIfInBounds_toArray, List.set_cons_zero, List.set_cons_succ]
                  refine wpAnyH_ready (rs := [14]) (by kernel_rfl) (by simp) ?_
                  refine AllReadyH.cons (o := { dst := none, op := Op.store 29 (Operand.tmp 115) (Operand.tmp 114), type := 0, pos := "fn.go:158", after := #[{ on := 13, ground := Ground.data }, { on := 12, ground := Ground.data }, { on := 0, ground := Ground.phase }, { on := 1, ground := Ground.phase }, { on := 2, ground := Ground.phase }, { on := 3, ground := Ground.phase }, { on := 4, ground := Ground.phase }, { on := 5, ground := Ground.phase }, { on := 6, ground := Ground.phase }, { on := 7, ground := Ground.phase }, { on := 8, ground := Ground.phase }, { on := 9, ground := Ground.phase }, { on := 10, ground := Ground.phase }, { on := 11, ground := Ground.phase }, { on := 12, ground := Ground.phase }], guard := none }) rfl (fun K hK => ?_) AllReadyH.nil
                  go_simp
                  have hsn := Hvi3.out.init
                  rw [hyn, Nat.add_sub_cancel, Hgl.out, List.dropLast_concat] at hsn
                  obtain ⟨hO4, hA4, hB4⟩ := store_row (k := i) (v := (.slice (some ⟨gi, 0, none⟩) m ci)) (g := gd) HO3.out HA3.out hin2 (hsn.more hB21)
                  have hE4 := (hB4.block E (by omega)).trans HE3.out
                  have hBr4 := HBr3.out.trans (hB4.mono (by omega))
                  have hsz4 : (wT.setCell ⟨go, i, none⟩ (.slice (some ⟨gi, 0, none⟩) m ci)).heap.size = wT.heap.size := by simp
                  rw [← hsz4] at hA4 hB21
                  rw [HSet.out] at hA4
                  have HO4 := Lib.hid hO4
                  have HA4 := Lib.hid hA4
                  have HE4 := Lib.hid hE4
                  have HBr4 := Lib.hid hBr4
                  clear HO3 HA3 HE3 HBr3 Hvi3 hO4 hA4 hB4 hE4 hBr4 hsz4 hsn k1 k5 f2
                  generalize hws : World.setCell _ _ _ = wU at *
                  clear hws
                  refine hK.out _ _ (trivial) (fun hHeld => ?_)
                  clear hK K
                  try simp only [Act.put, List.setIfInBounds_toArray, List.set_cons_zero, List.set_cons_succ]
                  refine wpAnyH_done (by kernel_rfl) ?_ _
                  refine NoPanic.normal ?_
                  go_wp2_with fail
                  go_roundw
                  case rel => exact ⟨i + 1, D ++ [gd], (l :: z :: h') :: t, _, HM2, HD3, HL3, HF3, HN3, by omega, by go_num, HO4, HA4, by omega, HE4, HBr4⟩
                  case measure => simp [intOf]; omega
                refine AllReadyH.cons (o := { dst := some 111, op := Op.load 29 (Operand.tmp 110), type := 29, pos := "fn.go:158", after := #[{ on := 8, ground := Ground.data }], guard := none }) rfl (fun K hK => ?_) ?_
                · skip
                  go_simp
                  refine hK.out _ _ (trivial) (fun hHeld => ?_)
                  clear hK K
                  try simp only [Act.put, List.setIfInBounds_toArray, List.set_cons_zero, List.set_cons_succ]
                  refine wpAnyH_take (i := 10) (oi := { dst := some 112, op := Op.call { callee := Callee.builtin Builtin.len, args := #[Operand.tmp 111], argTypes := #[29] }, type := 3, pos := "fn.go:158", after := #[{ on := 9, ground := Ground.data }], guard := none }) (v := ?v2613) rfl (by kernel_rfl) (by kernel_rfl) (by kernel_rfl) (fun _ _ _ h => h) (Or.inl ⟨by rfl, ?hy2613⟩) (by assumption) ?_
                  case hy2613 => (intro w hSw; (try dsimp only at hSw); go_simp; (try with_reducible rfl))
                  try simp only [Act.put, List.setIfInBounds_toArray, List.set_cons_zero, List.set_cons_succ]
                  refine wpAnyH_take (i := 11) (oi := { dst := some 113, op := Op.binOp BinOp.sub 3 (Operand.tmp 112) (Operand.const (Value.int IntKind.i64 1)) 3, type := 3, pos := "fn.go:158", after := #[{ on := 10, ground := Ground.data }], guard := none }) (v := ?v2614) rfl (by kernel_rfl) (by kernel_rfl) (by kernel_rfl) (fun _ _ _ h => h) (Or.inl ⟨by rfl, ?hy2614⟩) (by assumption) ?_
                  case hy2614 => (intro w hSw; (try dsimp only at hSw); go_simp; (try with_reducible rfl))
                  try simp only [Act.put, List.setIfInBounds_toArray, List.set_cons_zero, List.set_cons_succ]
                  refine wpAnyH_ready (rs := [5]) (by kernel_rfl) (by simp) ?_
                  refine AllReadyH.cons (o := { dst := some 107, op := Op.load 29 (Operand.tmp 106), type := 29, pos := "fn.go:158", after := #[{ on := 4, ground := Ground.data }], guard := none }) rfl (fun K hK => ?_) AllReadyH.nil
                  go_simp
                  refine hK.out _ _ (trivial) (fun hHeld => ?_)
                  clear hK K
                  try simp only [Act.put, List.setIfInBounds_toArray, List.set_cons_zero, List.set_cons_succ]
                  refine wpAnyH_take (i := 12) (oi := { dst := some 114, op := Op.slice 29 (Operand.tmp 107) none (some (Operand.tmp 113)) none, type := 29, pos := "fn.go:158", after := #[{ on := 5, ground := Ground.data }, { on := 11, ground := Ground.data }], guard := none }) (v := ?v2615) rfl (by kernel_rfl) (by kernel_rfl) (by kernel_rfl) (fun _ _ _ h => h) (Or.inl ⟨by rfl, ?hy2615⟩) (by assumption) ?_
                  case hy2615 => (intro w hSw; (try dsimp only at hSw); go_simp; (try with_reducible rfl))
                  try simp only [Act.put, List.setIfInBounds_toArray, List.set_cons_zero, List.set_cons_succ]
                  refine wpAnyH_take (i := 13) (oi := { dst := some 115, op := Op.indexAddr 27 (Operand.tmp 102) (Operand.tmp 103), type := 0, pos := "fn.go:158", after := #[{ on := 0, ground := Ground.data }, { on := 1, ground := Ground.data }, { on := 0, ground := Ground.phase }, { on := 1, ground := Ground.phase }, { on := 2, ground := Ground.phase }, { on := 3, ground := Ground.phase }, { on := 4, ground := Ground.phase }, { on := 5, ground := Ground.phase }, { on := 6, ground := Ground.phase }, { on := 7, ground := Ground.phase }, { on := 8, ground := Ground.phase }, { on := 9, ground := Ground.phase }, { on := 10, ground := Ground.phase }, { on := 11, ground := Ground.phase }, { on := 12, ground := Ground.phase }], guard := none }) (v := ?v2616) rfl (by kernel_rfl) (by kernel_rfl) (by kernel_rfl) (fun _ _ _ h => h) (Or.inl ⟨by rfl, ?hy2616⟩) (by assumption) ?_
                  case hy2616 => (intro w hSw; (try dsimp only at hSw); go_simp; (try with_reducible rfl))
                  try simp only [Act.put, List.setIfInBounds_toArray, List.set_cons_zero, List.set_cons_succ]
                  refine wpAnyH_ready (rs := [14]) (by kernel_rfl) (by simp) ?_
                  refine AllReadyH.cons (o := { dst := none, op := Op.store 29 (Operand.tmp 115) (Operand.tmp 114), type := 0, pos := "fn.go:158", after := #[{ on := 13, ground := Ground.data }, { on := 12, ground := Ground.data }, { on := 0, ground := Ground.phase }, { on := 1, ground := Ground.phase }, { on := 2, ground := Ground.phase }, { on := 3, ground := Ground.phase }, { on := 4, ground := Ground.phase }, { on := 5, ground := Ground.phase }, { on := 6, ground := Ground.phase }, { on := 7, ground := Ground.phase }, { on := 8, ground := Ground.phase }, { on := 9, ground := Ground.phase }, { on := 10, ground := Ground.phase }, { on := 11, ground := Ground.phase }, { on := 12, ground := Ground.phase }], guard := none }) rfl (fun K hK => ?_) AllReadyH.nil
                  go_simp
                  have hsn := Hvi3.out.init
                  rw [hyn, Nat.add_sub_cancel, Hgl.out, List.dropLast_concat] at hsn
                  obtain ⟨hO4, hA4, hB4⟩ := store_row (k := i) (v := (.slice (some ⟨gi, 0, none⟩) m ci)) (g := gd) HO3.out HA3.out hin2 (hsn.more hB21)
                  have hE4 := (hB4.block E (by omega)).trans HE3.out
                  have hBr4 := HBr3.out.trans (hB4.mono (by omega))
                  have hsz4 : (wT.setCell ⟨go, i, none⟩ (.slice (some ⟨gi, 0, none⟩) m ci)).heap.size = wT.heap.size := by simp
                  rw [← hsz4] at hA4 hB21
                  rw [HSet.out] at hA4
                  have HO4 := Lib.hid hO4
                  have HA4 := Lib.hid hA4
                  have HE4 := Lib.hid hE4
                  have HBr4 := Lib.hid hBr4
                  clear HO3 HA3 HE3 HBr3 Hvi3 hO4 hA4 hB4 hE4 hBr4 hsz4 hsn k1 k5 f2
                  generalize hws : World.setCell _ _ _ = wU at *
                  clear hws
                  refine hK.out _ _ (trivial) (fun hHeld => ?_)
                  clear hK K
                  try simp only [Act.put, List.setIfInBounds_toArray, List.set_cons_zero, List.set_cons_succ]
                  refine wpAnyH_done (by kernel_rfl) ?_ _
                  refine NoPanic.normal ?_
                  go_wp2_with fail
                  go_roundw
                  case rel => exact ⟨i + 1, D ++ [gd], (l :: z :: h') :: t, _, HM2, HD3, HL3, HF3, HN3, by omega, by go_num, HO4, HA4, by omega, HE4, HBr4⟩
                  case measure => simp [intOf]; omega
                exact AllReadyH.nil
              refine AllReadyH.cons (o := { dst := some 99, op := Op.load 29 (Operand.tmp 98), type := 29, pos := "fn.go:157", after := #[{ on := 19, ground := Ground.data }], guard := none }) rfl (fun K hK => ?_) ?_
              · skip
                go_simp
                refine hK.out _ _ (by exact ⟨k1, k5⟩) (fun hHeld => ?_)
                clear hK K
                try simp only [Act.put, List.setIfInBounds_toArray, List.set_cons_zero, List.set_cons_succ]
                refine wpAnyH_ready (rs := [15]) (by kernel_rfl) (by simp) ?_
                refine AllReadyH.cons (o := { dst := some 94, op := Op.buildSlice 29 1 #[(0, Operand.tmp 93)], type := 29, pos := "fn.go:157", after := #[{ on := 14, ground := Ground.data }], guard := none }) rfl (fun K hK => ?_) AllReadyH.nil
                go_simp
                generalize hwn : World.alloc _ _ = w15
                obtain ⟨hown, KN⟩ := al_own (v := rv l) hwn
                have hB15 := KN.size
                rw [hBq] at hown KN hB15
                have HOw := Lib.hid hown
                clear hwn hown
                replace k1 := (KN.cell (p := ⟨go, i, none⟩) hgo1).trans k1
                replace k2 := (KN.cell (p := ⟨go, i + 1, none⟩) hgo1).trans k2
                replace k5 := (KN.cell (p := ⟨gi, m, none⟩) hgi9).trans k5
                replace hO := Lib.hid (own_toB hO.out hgo1 KN)
                replace hAll := Lib.hid (hAll.out.keep fun v g hs => hs.below KN)
                replace Hvh := Lib.hid (Hvh.out.below KN)
                replace Hvi := Lib.hid (Hvi.out.below KN)
                replace hE2 := Lib.hid ((KN.block E hE9).trans hE2.out)
                replace HBr := Lib.hid (HBr.out.trans (KN.mono hw9))
                clear KN
                refine hK.out _ _ (by exact ⟨k1, k5⟩) (fun hHeld => ?_)
                clear hK K
                try simp only [Act.put, List.setIfInBounds_toArray, List.set_cons_zero, List.set_cons_succ]
                refine wpAnyH_ready (rs := [21]) (by kernel_rfl) (by simp) ?_
                refine AllReadyH.cons (o := { dst := some 100, op := Op.call { callee := Callee.builtin Builtin.append, args := #[Operand.tmp 94, Operand.tmp 99], argTypes := #[29, 29] }, type := 29, pos := "fn.go:157", after := #[{ on := 15, ground := Ground.data }, { on := 20, ground := Ground.data }], guard := none }) rfl (fun K hK => ?_) AllReadyH.nil
                rw [if_pos (by rfl)]
                refine wp_append_own _ _ _ 29 rfl Bq 21 iR (.int .i32 0) 1 4 Tryd.underlying29 hiR hzR0 hzR1 hzR2 rfl (by decide) _ 1 [rv l] rfl HOw.out ⟨gh, 0, none⟩ (z :: h').length ch ((z :: h').map rv) rfl (by simp) (news_at Hvh.out) (by simp [Value.oneCell', rv]) (by unfold maxLen; omega) (by omega) hB15 ?_
                intro v' w21 hown1 hgrow _
                obtain ⟨gv, cv, rfl⟩ := own_pos (n := (z :: h').length) (by rwa [Nat.add_comm] at hown1)
                have HN4 := Lib.hid hown1
                have KN := below_own HOw.out hB15 hgrow
                have hB21 := Nat.le_trans hB15 hgrow.size
                clear hown1 hgrow
                replace k1 := (KN.cell (p := ⟨go, i, none⟩) hgo1).trans k1
                replace k2 := (KN.cell (p := ⟨go, i + 1, none⟩) hgo1).trans k2
                replace k5 := (KN.cell (p := ⟨gi, m, none⟩) hgi9).trans k5
                replace hO := Lib.hid (own_toB hO.out hgo1 KN)
                replace hAll := Lib.hid (hAll.out.keep fun v g hs => hs.below KN)
                replace Hvh := Lib.hid (Hvh.out.below KN)
                replace Hvi := Lib.hid (Hvi.out.below KN)
                replace hE2 := Lib.hid ((KN.block E hE9).trans hE2.out)
                replace HBr := Lib.hid (HBr.out.trans (KN.mono hw9))
                clear KN
                have f1 : w21.frozen? ⟨go, i + 1, none⟩ = false := hO.out.frozenAt (i + 1)
                refine hK.out _ _ (by exact ⟨k1, k5⟩) (fun hHeld => ?_)
                clear hK K
                try simp only [Act.put, List.setIfInBounds_toArray, List.set_cons_zero, List.set_cons_succ]
                refine wpAnyH_take (i := 22) (oi := { dst := some 101, op := Op.indexAddr 27 (Operand.tmp 79) (Operand.tmp 81), type := 0, pos := "fn.go:157", after := #[{ on := 0, ground := Ground.data }, { on := 2, ground := Ground.data }, { on := 0, ground := Ground.phase }, { on := 1, ground := Ground.phase }, { on := 2, ground := Ground.phase }, { on := 3, ground := Ground.phase }, { on := 4, ground := Ground.phase }, { on := 5, ground := Ground.phase }, { on := 6, ground := Ground.phase }, { on := 7, ground := Ground.phase }, { on := 8, ground := Ground.phase }, { on := 9, ground := Ground.phase }, { on := 10, ground := Ground.phase }, { on := 11, ground := Ground.phase }, { on := 12, ground := Ground.phase }, { on := 13, ground := Ground.phase }, { on := 14, ground := Ground.phase }, { on := 15, ground := Ground.phase }, { on := 16, ground := Ground.phase }, { on := 17, ground := Ground.phase }, { on := 18, ground := Ground.phase }, { on := 19, ground := Ground.phase }, { on := 20, ground := Ground.phase }, { on := 21, ground := Ground.phase }], guard := none }) (v := ?v2521) rfl (by kernel_rfl) (by kernel_rfl) (by kernel_rfl) (fun _ _ _ h => h) (Or.inl ⟨by rfl, ?hy2521⟩) (by assumption) ?_
                case hy2521 => (intro w hSw; (try dsimp only at hSw); go_simp; (try with_reducible rfl))
                try simp only [Act.put, List.setIfInBounds_toArray, List.set_cons_zero, List.set_cons_succ]
                refine wpAnyH_ready (rs := [23]) (by kernel_rfl) (by simp) ?_
                refine AllReadyH.cons (o := { dst := none, op := Op.store 29 (Operand.tmp 101) (Operand.tmp 100), type := 0, pos := "fn.go:157", after := #[{ on := 22, ground := Ground.data }, { on := 21, ground := Ground.data }, { on := 21, ground := Ground.chain }, { on := 0, ground := Ground.phase }, { on := 1, ground := Ground.phase }, { on := 2, ground := Ground.phase }, { on := 3, ground := Ground.phase }, { on := 4, ground := Ground.phase }, { on := 5, ground := Ground.phase }, { on := 6, ground := Ground.phase }, { on := 7, ground := Ground.phase }, { on := 8, ground := Ground.phase }, { on := 9, ground := Ground.phase }, { on := 10, ground := Ground.phase }, { on := 11, ground := Ground.phase }, { on := 12, ground := Ground.phase }, { on := 13, ground := Ground.phase }, { on := 14, ground := Ground.phase }, { on := 15, ground := Ground.phase }, { on := 16, ground := Ground.phase }, { on := 17, ground := Ground.phase }, { on := 18, ground := Ground.phase }, { on := 19, ground := Ground.phase }, { on := 20, ground := Ground.phase }, { on := 21, ground := Ground.phase }], guard := none }) rfl (fun K hK => ?_) AllReadyH.nil
                go_simp
                have hv9 := HN4.out
                rw [Nat.add_comm 1 (z :: h').length] at hv9
                have hA21 := hAll.out.keep (Bl' := w21.heap.size) (fun v g hs => hs.more hB21)
                obtain ⟨hO3, hA3, hB3⟩ := store_row (k := i + 1) (v := (.slice (some ⟨gv, 0, none⟩) (h'.length + 1 + 1) cv)) (g := l :: z :: h') hO.out hA21 hlt (SeenR.of_own hv9 (by simp))
                have k1s : (w21.setCell ⟨go, i + 1, none⟩ (.slice (some ⟨gv, 0, none⟩) (h'.length + 1 + 1) cv)).cell? ⟨go, i, none⟩ = _ := (World.cell?_setCell_other _ _ _ _ (by simp)).trans k1
                have k5s : (w21.setCell ⟨go, i + 1, none⟩ (.slice (some ⟨gv, 0, none⟩) (h'.length + 1 + 1) cv)).cell? ⟨gi, m, none⟩ = _ := (World.cell?_setCell_other _ _ _ _ (by simp)).trans k5
                have hvi3 : SeenR (w21.setCell ⟨go, i + 1, none⟩ (.slice (some ⟨gv, 0, none⟩) (h'.length + 1 + 1) cv)) Bq _ _ := seen_set hO.out Hvi.out
                have hE3 := (hB3.block E (by omega)).trans hE2.out
                have hBr3 := HBr.out.trans (hB3.mono (by omega))
                have hsz3 : (w21.setCell ⟨go, i + 1, none⟩ (.slice (some ⟨gv, 0, none⟩) (h'.length + 1 + 1) cv)).heap.size = w21.heap.size := by simp
                rw [← hsz3] at hA3 hB21
                have HO3 := Lib.hid hO3
                have HA3 := Lib.hid hA3
                have HE3 := Lib.hid hE3
                have HBr3 := Lib.hid hBr3
                have Hvi3 := Lib.hid hvi3
                clear hO hAll hE2 HBr Hvi Hvh hO3 hA3 hB3 hE3 hBr3 hvi3 hsz3 hA21 hv9 k1 k5 k2 HN4 f1
                have k1 := k1s
                have k5 := k5s
                clear k1s k5s
                generalize hws : World.setCell _ _ _ = wS at *
                clear hws
                refine hK.out _ _ (by exact ⟨k1, k5⟩) (fun hHeld => ?_)
                clear hK K
                try simp only [Act.put, List.setIfInBounds_toArray, List.set_cons_zero, List.set_cons_succ]
                refine wpAnyH_done (by kernel_rfl) ?_ _
                refine NoPanic.normal ?_
                have hmc : m ≤ ci := by omega
                go_wp2_with fail
                refine wp_region_noPanic ?_
                refine wp_region_held_drew (S := (fun w' => True)) (by kernel_rfl) (trivial) (fun hHeld => ?_)
                replace HBr3 := Lib.hid (Below.drew HBr3.out)
                replace HO3 := Lib.hid (show (World.drew wS).ownsRow _ _ _ _ _ _ from HO3.out)
                replace HA3 := Lib.hid (show AllR (World.drew wS) (World.drew wS).heap.size _ _ from HA3.out)
                replace Hvi3 := Lib.hid (show SeenR (World.drew wS) _ _ _ from Hvi3.out)
                replace HE3 := Lib.hid (show (World.drew wS).heap[E]? = _ from HE3.out)
                replace k1 : (World.drew wS).cell? _ = _ := k1
                replace k5 : (World.drew wS).cell? _ = _ := k5
                replace hB21 : Bq ≤ (World.drew wS).heap.size := hB21
                generalize hwd : World.drew wS = wT at *
                clear hwd
                have f2 : wT.frozen? ⟨go, i, none⟩ = false := HO3.out.frozenAt i
                refine wpAnyH_take (i := 0) (oi := { dst := some 102, op := Op.move (Operand.tmp 3), type := 27, pos := "fn.go:158", after := #[], guard := none }) (v := ?v2701) rfl (by kernel_rfl) (by kernel_rfl) (by kernel_rfl) (fun _ _ _ h => h) (Or.inl ⟨by rfl, ?hy2701⟩) (by assumption) ?_
                case hy2701 => (intro w hSw; (try dsimp only at hSw); go_simp; (try with_reducible rfl))
                try simp only [Act.put, List.setIfInBounds_toArray, List.set_cons_zero, List.set_cons_succ]
                refine wpAnyH_take (i := 1) (oi := { dst := some 103, op := Op.move (Operand.tmp 8), type := 3, pos := "fn.go:158", after := #[], guard := none }) (v := ?v2702) rfl (by kernel_rfl) (by kernel_rfl) (by kernel_rfl) (fun _ _ _ h => h) (Or.inl ⟨by rfl, ?hy2702⟩) (by assumption) ?_
                case hy2702 => (intro w hSw; (try dsimp only at hSw); go_simp; (try with_reducible rfl))
                try simp only [Act.put, List.setIfInBounds_toArray, List.set_cons_zero, List.set_cons_succ]
                refine wpAnyH_take (i := 2) (oi := { dst := some 104, op := Op.move (Operand.tmp 3), type := 27, pos := "fn.go:158", after := #[], guard := none }) (v := ?v2703) rfl (by kernel_rfl) (by kernel_rfl) (by kernel_rfl) (fun _ _ _ h => h) (Or.inl ⟨by rfl, ?hy2703⟩) (by assumption) ?_
                case hy2703 => (intro w hSw; (try dsimp only at hSw); go_simp; (try with_reducible rfl))
                try simp only [Act.put, List.setIfInBounds_toArray, List.set_cons_zero, List.set_cons_succ]
                refine wpAnyH_take (i := 3) (oi := { dst := some 105, op := Op.move (Operand.tmp 8), type := 3, pos := "fn.go:158", after := #[], guard := none }) (v := ?v2704) rfl (by kernel_rfl) (by kernel_rfl) (by kernel_rfl) (fun _ _ _ h => h) (Or.inl ⟨by rfl, ?hy2704⟩) (by assumption) ?_
                case hy2704 => (intro w hSw; (try dsimp only at hSw); go_simp; (try with_reducible rfl))
                try simp only [Act.put, List.setIfInBounds_toArray, List.set_cons_zero, List.set_cons_succ]
                refine wpAnyH_take (i := 4) (oi := { dst := some 106, op := Op.indexAddr 27 (Operand.tmp 104) (Operand.tmp 105), type := 0, pos := "fn.go:158", after := #[{ on := 2, ground := Ground.data }, { on := 3, ground := Ground.data }], guard := none }) (v := ?v2705) rfl (by kernel_rfl) (by kernel_rfl) (by kernel_rfl) (fun _ _ _ h => h) (Or.inl ⟨by rfl, ?hy2705⟩) (by assumption) ?_
                case hy2705 => (intro w hSw; (try dsimp only at hSw); go_simp; (try with_reducible rfl))
                try simp only [Act.put, List.setIfInBounds_toArray, List.set_cons_zero, List.set_cons_succ]
                refine wpAnyH_take (i := 6) (oi := { dst := some 108, op := Op.move (Operand.tmp 3), type := 27, pos := "fn.go:158", after := #[], guard := none }) (v := ?v2706) rfl (by kernel_rfl) (by kernel_rfl) (by kernel_rfl) (fun _ _ _ h => h) (Or.inl ⟨by rfl, ?hy2706⟩) (by assumption) ?_
                case hy2706 => (intro w hSw; (try dsimp only at hSw); go_simp; (try with_reducible rfl))
                try simp only [Act.put, List.setIfInBounds_toArray, List.set_cons_zero, List.set_cons_succ]
                refine wpAnyH_take (i := 7) (oi := { dst := some 109, op := Op.move (Operand.tmp 8), type := 3, pos := "fn.go:158", after := #[], guard := none }) (v := ?v2707) rfl (by kernel_rfl) (by kernel_rfl) (by kernel_rfl) (fun _ _ _ h => h) (Or.inl ⟨by rfl, ?hy2707⟩) (by assumption) ?_
                case hy2707 => (intro w hSw; (try dsimp only at hSw); go_simp; (try with_reducible rfl))
                try simp only [Act.put, List.setIfInBounds_toArray, List.set_cons_zero, List.set_cons_succ]
                refine wpAnyH_take (i := 8) (oi := { dst := some 110, op := Op.indexAddr 27 (Operand.tmp 108) (Operand.tmp 109), type := 0, pos := "fn.go:158", after := #[{ on := 6, ground := Ground.data }, { on := 7, ground := Ground.data }], guard := none }) (v := ?v2708) rfl (by kernel_rfl) (by kernel_rfl) (by kernel_rfl) (fun _ _ _ h => h) (Or.inl ⟨by rfl, ?hy2708⟩) (by assumption) ?_
                case hy2708 => (intro w hSw; (try dsimp only at hSw); go_simp; (try with_reducible rfl))
                try simp only [Act.put, List.setIfInBounds_toArray, List.set_cons_zero, List.set_cons_succ]
                refine wpAnyH_ready (rs := [5, 9]) (by kernel_rfl) (by simp) ?_
                refine AllReadyH.cons (o := { dst := some 107, op := Op.load 29 (Operand.tmp 106), type := 29, pos := "fn.go:158", after := #[{ on := 4, ground := Ground.data }], guard := none }) rfl (fun K hK => ?_) ?_
                · skip
                  go_simp
                  refine hK.out _ _ (trivial) (fun hHeld => ?_)
                  clear hK K
                  try simp only [Act.put, List.setIfInBounds_toArray, List.set_cons_zero, List.set_cons_succ]
                  refine wpAnyH_ready (rs := [9]) (by kernel_rfl) (by simp) ?_
                  refine AllReadyH.cons (o := { dst := some 111, op := Op.load 29 (Operand.tmp 110), type := 29, pos := "fn.go:158", after := #[{ on := 8, ground := Ground.data }], guard := none }) rfl (fun K hK => ?_) AllReadyH.nil
                  go_simp
                  refine hK.out _ _ (trivial) (fun hHeld => ?_)
                  clear hK K
                  try simp only [Act.put, List.setIfInBounds_toArray, List.set_cons_zero, List.set_cons_succ]
                  refine wpAnyH_take (i := 10) (oi := { dst := some 112, op := Op.call { callee := Callee.builtin Builtin.len, args := #[Operand.tmp 111], argTypes := #[29] }, type := 3, pos := "fn.go:158", after := #[{ on := 9, ground := Ground.data }], guard := none }) (v := ?v2709) rfl (by kernel_rfl) (by kernel_rfl) (by kernel_rfl) (fun _ _ _ h => h) (Or.inl ⟨by rfl, ?hy2709⟩) (by assumption) ?_
                  case hy2709 => (intro w hSw; (try dsimp only at hSw); go_simp; (try with_reducible rfl))
                  try simp only [Act.put, List.setIfInBounds_toArray, List.set_cons_zero, List.set_cons_succ]
                  refine wpAnyH_take (i := 11) (oi := { dst := some 113, op := Op.binOp BinOp.sub 3 (Operand.tmp 112) (Operand.const (Value.int IntKind.i64 1)) 3, type := 3, pos := "fn.go:158", after := #[{ on := 10, ground := Ground.data }], guard := none }) (v := ?v2710) rfl (by kernel_rfl) (by kernel_rfl) (by kernel_rfl) (fun _ _ _ h => h) (Or.inl ⟨by rfl, ?hy2710⟩) (by assumption) ?_
                  case hy2710 => (intro w hSw; (try dsimp only at hSw); go_simp; (try with_reducible rfl))
                  try simp only [Act.put, List.setIfInBounds_toArray, List.set_cons_zero, List.set_cons_succ]
                  refine wpAnyH_take (i := 12) (oi := { dst := some 114, op := Op.slice 29 (Operand.tmp 107) none (some (Operand.tmp 113)) none, type := 29, pos := "fn.go:158", after := #[{ on := 5, ground := Ground.data }, { on := 11, ground := Ground.data }], guard := none }) (v := ?v2711) rfl (by kernel_rfl) (by kernel_rfl) (by kernel_rfl) (fun _ _ _ h => h) (Or.inl ⟨by rfl, ?hy2711⟩) (by assumption) ?_
                  case hy2711 => (intro w hSw; (try dsimp only at hSw); go_simp; (try with_reducible rfl))
                  try simp only [Act.put, List.setIfInBounds_toArray, List.set_cons_zero, List.set_cons_succ]
                  refine wpAnyH_take (i := 13) (oi := { dst := some 115, op := Op.indexAddr 27 (Operand.tmp 102) (Operand.tmp 103), type := 0, pos := "fn.go:158", after := #[{ on := 0, ground := Ground.data }, { on := 1, ground := Ground.data }, { on := 0, ground := Ground.phase }, { on := 1, ground := Ground.phase }, { on := 2, ground := Ground.phase }, { on := 3, ground := Ground.phase }, { on := 4, ground := Ground.phase }, { on := 5, ground := Ground.phase }, { on := 6, ground := Ground.phase }, { on := 7, ground := Ground.phase }, { on := 8, ground := Ground.phase }, { on := 9, ground := Ground.phase }, { on := 10, ground := Ground.phase }, { on := 11, ground := Ground.phase }, { on := 12, ground := Ground.phase }], guard := none }) (v := ?v2712) rfl (by kernel_rfl) (by kernel_rfl) (by kernel_rfl) (fun _ _ _ h => h) (Or.inl ⟨by rfl, ?hy2712⟩) (by assumption) ?_
                  case hy2712 => (intro w hSw; (try dsimp only at hSw); go_simp; (try with_reducible rfl))
                  try simp only [Act.put, List.setIfInBounds_toArray, List.set_cons_zero, List.set_cons_succ]
                  refine wpAnyH_ready (rs := [14]) (by kernel_rfl) (by simp) ?_
                  refine AllReadyH.cons (o := { dst := none, op := Op.store 29 (Operand.tmp 115) (Operand.tmp 114), type := 0, pos := "fn.go:158", after := #[{ on := 13, ground := Ground.data }, { on := 12, ground := Ground.data }, { on := 0, ground := Ground.phase }, { on := 1, ground := Ground.phase }, { on := 2, ground := Ground.phase }, { on := 3, ground := Ground.phase }, { on := 4, ground := Ground.phase }, { on := 5, ground := Ground.phase }, { on := 6, ground := Ground.phase }, { on := 7, ground := Ground.phase }, { on := 8, ground := Ground.phase }, { on := 9, ground := Ground.phase }, { on := 10, ground := Ground.phase }, { on := 11, ground := Ground.phase }, { on := 12, ground := Ground.phase }], guard := none }) rfl (fun K hK => ?_) AllReadyH.nil
                  go_simp
                  have hsn := Hvi3.out.init
                  rw [hyn, Nat.add_sub_cancel, Hgl.out, List.dropLast_concat] at hsn
                  obtain ⟨hO4, hA4, hB4⟩ := store_row (k := i) (v := (.slice (some ⟨gi, 0, none⟩) m ci)) (g := gd) HO3.out HA3.out hin2 (hsn.more hB21)
                  have hE4 := (hB4.block E (by omega)).trans HE3.out
                  have hBr4 := HBr3.out.trans (hB4.mono (by omega))
                  have hsz4 : (wT.setCell ⟨go, i, none⟩ (.slice (some ⟨gi, 0, none⟩) m ci)).heap.size = wT.heap.size := by simp
                  rw [← hsz4] at hA4 hB21
                  rw [HSet.out] at hA4
                  have HO4 := Lib.hid hO4
                  have HA4 := Lib.hid hA4
                  have HE4 := Lib.hid hE4
                  have HBr4 := Lib.hid hBr4
                  clear HO3 HA3 HE3 HBr3 Hvi3 hO4 hA4 hB4 hE4 hBr4 hsz4 hsn k1 k5 f2
                  generalize hws : World.setCell _ _ _ = wU at *
                  clear hws
                  refine hK.out _ _ (trivial) (fun hHeld => ?_)
                  clear hK K
                  try simp only [Act.put, List.setIfInBounds_toArray, List.set_cons_zero, List.set_cons_succ]
                  refine wpAnyH_done (by kernel_rfl) ?_ _
                  refine NoPanic.normal ?_
                  go_wp2_with fail
                  go_roundw
                  case rel => exact ⟨i + 1, D ++ [gd], (l :: z :: h') :: t, _, HM2, HD3, HL3, HF3, HN3, by omega, by go_num, HO4, HA4, by omega, HE4, HBr4⟩
                  case measure => simp [intOf]; omega
                refine AllReadyH.cons (o := { dst := some 111, op := Op.load 29 (Operand.tmp 110), type := 29, pos := "fn.go:158", after := #[{ on := 8, ground := Ground.data }], guard := none }) rfl (fun K hK => ?_) ?_
                · skip
                  go_simp
                  refine hK.out _ _ (trivial) (fun hHeld => ?_)
                  clear hK K
                  try simp only [Act.put, List.setIfInBounds_toArray, List.set_cons_zero, List.set_cons_succ]
                  refine wpAnyH_take (i := 10) (oi := { dst := some 112, op := Op.call { callee := Callee.builtin Builtin.len, args := #[Operand.tmp 111], argTypes := #[29] }, type := 3, pos := "fn.go:158", after := #[{ on := 9, ground := Ground.data }], guard := none }) (v := ?v2713) rfl (by kernel_rfl) (by kernel_rfl) (by kernel_rfl) (fun _ _ _ h => h) (Or.inl ⟨by rfl, ?hy2713⟩) (by assumption) ?_
                  case hy2713 => (intro w hSw; (try dsimp only at hSw); go_simp; (try with_reducible rfl))
                  try simp only [Act.put, List.setIfInBounds_toArray, List.set_cons_zero, List.set_cons_succ]
                  refine wpAnyH_take (i := 11) (oi := { dst := some 113, op := Op.binOp BinOp.sub 3 (Operand.tmp 112) (Operand.const (Value.int IntKind.i64 1)) 3, type := 3, pos := "fn.go:158", after := #[{ on := 10, ground := Ground.data }], guard := none }) (v := ?v2714) rfl (by kernel_rfl) (by kernel_rfl) (by kernel_rfl) (fun _ _ _ h => h) (Or.inl ⟨by rfl, ?hy2714⟩) (by assumption) ?_
                  case hy2714 => (intro w hSw; (try dsimp only at hSw); go_simp; (try with_reducible rfl))
                  try simp only [Act.put, List.setIfInBounds_toArray, List.set_cons_zero, List.set_cons_succ]
                  refine wpAnyH_ready (rs := [5]) (by kernel_rfl) (by simp) ?_
                  refine AllReadyH.cons (o := { dst := some 107, op := Op.load 29 (Operand.tmp 106), type := 29, pos := "fn.go:158", after := #[{ on := 4, ground := Ground.data }], guard := none }) rfl (fun K hK => ?_) AllReadyH.nil
                  go_simp
                  refine hK.out _ _ (trivial) (fun hHeld => ?_)
                  clear hK K
                  try simp only [Act.put, List.setIfInBounds_toArray, List.set_cons_zero, List.set_cons_succ]
                  refine wpAnyH_take (i := 12) (oi := { dst := some 114, op := Op.slice 29 (Operand.tmp 107) none (some (Operand.tmp 113)) none, type := 29, pos := "fn.go:158", after := #[{ on := 5, ground := Ground.data }, { on := 11, ground := Ground.data }], guard := none }) (v := ?v2715) rfl (by kernel_rfl) (by kernel_rfl) (by kernel_rfl) (fun _ _ _ h => h) (Or.inl ⟨by rfl, ?hy2715⟩) (by assumption) ?_
                  case hy2715 => (intro w hSw; (try dsimp only at hSw); go_simp; (try with_reducible rfl))
                  try simp only [Act.put, List.setIfInBounds_toArray, List.set_cons_zero, List.set_cons_succ]
                  refine wpAnyH_take (i := 13) (oi := { dst := some 115, op := Op.indexAddr 27 (Operand.tmp 102) (Operand.tmp 103), type := 0, pos := "fn.go:158", after := #[{ on := 0, ground := Ground.data }, { on := 1, ground := Ground.data }, { on := 0, ground := Ground.phase }, { on := 1, ground := Ground.phase }, { on := 2, ground := Ground.phase }, { on := 3, ground := Ground.phase }, { on := 4, ground := Ground.phase }, { on := 5, ground := Ground.phase }, { on := 6, ground := Ground.phase }, { on := 7, ground := Ground.phase }, { on := 8, ground := Ground.phase }, { on := 9, ground := Ground.phase }, { on := 10, ground := Ground.phase }, { on := 11, ground := Ground.phase }, { on := 12, ground := Ground.phase }], guard := none }) (v := ?v2716) rfl (by kernel_rfl) (by kernel_rfl) (by kernel_rfl) (fun _ _ _ h => h) (Or.inl ⟨by rfl, ?hy2716⟩) (by assumption) ?_
                  case hy2716 => (intro w hSw; (try dsimp only at hSw); go_simp; (try with_reducible rfl))
                  try simp only [Act.put, List.setIfInBounds_toArray, List.set_cons_zero, List.set_cons_succ]
                  refine wpAnyH_ready (rs := [14]) (by kernel_rfl) (by simp) ?_
                  refine AllReadyH.cons (o := { dst := none, op := Op.store 29 (Operand.tmp 115) (Operand.tmp 114), type := 0, pos := "fn.go:158", after := #[{ on := 13, ground := Ground.data }, { on := 12, ground := Ground.data }, { on := 0, ground := Ground.phase }, { on := 1, ground := Ground.phase }, { on := 2, ground := Ground.phase }, { on := 3, ground := Ground.phase }, { on := 4, ground := Ground.phase }, { on := 5, ground := Ground.phase }, { on := 6, ground := Ground.phase }, { on := 7, ground := Ground.phase }, { on := 8, ground := Ground.phase }, { on := 9, ground := Ground.phase }, { on := 10, ground := Ground.phase }, { on := 11, ground := Ground.phase }, { on := 12, ground := Ground.phase }], guard := none }) rfl (fun K hK => ?_) AllReadyH.nil
                  go_simp
                  have hsn := Hvi3.out.init
                  rw [hyn, Nat.add_sub_cancel, Hgl.out, List.dropLast_concat] at hsn
                  obtain ⟨hO4, hA4, hB4⟩ := store_row (k := i) (v := (.slice (some ⟨gi, 0, none⟩) m ci)) (g := gd) HO3.out HA3.out hin2 (hsn.more hB21)
                  have hE4 := (hB4.block E (by omega)).trans HE3.out
                  have hBr4 := HBr3.out.trans (hB4.mono (by omega))
                  have hsz4 : (wT.setCell ⟨go, i, none⟩ (.slice (some ⟨gi, 0, none⟩) m ci)).heap.size = wT.heap.size := by simp
                  rw [← hsz4] at hA4 hB21
                  rw [HSet.out] at hA4
                  have HO4 := Lib.hid hO4
                  have HA4 := Lib.hid hA4
                  have HE4 := Lib.hid hE4
                  have HBr4 := Lib.hid hBr4
                  clear HO3 HA3 HE3 HBr3 Hvi3 hO4 hA4 hB4 hE4 hBr4 hsz4 hsn k1 k5 f2
                  generalize hws : World.setCell _ _ _ = wU at *
                  clear hws
                  refine hK.out _ _ (trivial) (fun hHeld => ?_)
                  clear hK K
                  try simp only [Act.put, List.setIfInBounds_toArray, List.set_cons_zero, List.set_cons_succ]
                  refine wpAnyH_done (by kernel_rfl) ?_ _
                  refine NoPanic.normal ?_
                  go_wp2_with fail
                  go_roundw
                  case rel => exact ⟨i + 1, D ++ [gd], (l :: z :: h') :: t, _, HM2, HD3, HL3, HF3, HN3, by omega, by go_num, HO4, HA4, by omega, HE4, HBr4⟩
                  case measure => simp [intOf]; omega
                exact AllReadyH.nil
              exact AllReadyH.nil
            · have hzb : (kd z == 0) = false := by rw [beq_eq_false_iff_ne]; exact hz0
              rw [hzb] at HLz
              have HS2 := Lib.hid (HStay.out (fun hc => hz0 hc.2))
              clear HStay HMove hz0 hzb hx1
              go_wp2_with (go_at_call 12; refine halt_V ?_)
              refine resume_V ?_
              refine HUx.out.mono ?_
              rintro e w2 ⟨rfl, rfl⟩
              go_wp2_with (go_at_call 11; refine halt_V ?_)
              refine resume_V ?_
              refine HLz.out.mono ?_
              rintro e w2 ⟨rfl, rfl⟩
              go_wp2_with fail
              go_roundw
              case rel => exact ⟨i + 1, D ++ [x :: y], (z :: h') :: t, vs2, HS2, HD2, HL2, HF2, HN2, by omega, by go_num, hO, HA2, hFr, hE2, HBr⟩
              case measure => simp [intOf]; omega
          · have hxb : (kd x == 1) = false := by rw [beq_eq_false_iff_ne]; exact hx1
            rw [hxb] at HUx
            have HS2 := Lib.hid (HStay.out (fun hc => hx1 hc.1))
            clear HStay HMove hx1 hxb
            go_wp2_with (go_at_call 12; refine halt_V ?_)
            refine resume_V ?_
            refine HUx.out.mono ?_
            rintro e w2 ⟨rfl, rfl⟩
            go_wp2_with fail
            go_roundw
            case rel => exact ⟨i + 1, D ++ [x :: y], (z :: h') :: t, vs2, HS2, HD2, HL2, HF2, HN2, by omega, by go_num, hO, HA2, hFr, hE2, HBr⟩
            case measure => simp [intOf]; omega
        · have he1 : ¬ ((i : Int) < (n : Int) - 1) := by omega
          have hM : D ++ Er = mv G := by
            have h1 := hlen.out
            have h2 := hD.out
            rw [List.length_append] at h1
            rw [← hmv.out]
            match Er, h1 with
            | [], _ => simp [mv]
            | [g], _ => simp [mv]
            | g :: h :: t, h1 => simp at h1; omega
          have HK := Lib.hid (show kept (D ++ Er) = camel s.data.toList by rw [hM, mv_camel G HWF.out, HGL.out])
          have HMl := hlen
          have HMf := hfl
          have hEw : w.heap.size ≤ E := by omega
          have HS0 := Lib.hid (show wq.ownsRow w.heap.size 9 1 (.slice (some ⟨E, 0, none⟩) 0 0) 0 [] from ⟨rfl, .inr ⟨E, 0, #[], rfl, hEw, hE2.out, Nat.le_refl _, Nat.zero_le _, rfl, rfl⟩⟩)
          clear hM hmv hD hlen hfl hne HWF HGL hin hlt HGn
          generalize D ++ Er = M at *
          go_wp2_with fail
          go_loopw [2, 118] (fun ov kv wr => ∃ (k : Nat) (ls : List (List UInt8)), k ≤ n ∧ kv = .int .i64 (k : Int) ∧ Hid (ls = kept (M.take k)) ∧ ls.length ≤ k ∧ Hid (wr.ownsRow w.heap.size 9 1 ov ls.length (ls.map strV)) ∧ Hid (wr.ownsRow F eG 1 (.slice oa n ocap) n vs2) ∧ Hid (AllR wr wr.heap.size vs2 M) ∧ Hid (Below w.heap.size w wr)) (fun _ kv _ => n - (intOf kv).toNat)
          case atStart => exact ⟨0, [], Nat.zero_le _, rfl, Lib.hid rfl, Nat.le_refl _, HS0, hO, hAll, HBr⟩
          case round =>
            obtain ⟨k, ls, hkn, rfl, hls, hll, hOv, hO2, hA2, HB2⟩ := hrel
            obtain ⟨wz, rfl⟩ : ∃ wz : World, wz = wr := ⟨_, rfl⟩
            by_cases hk3 : k < n
            · obtain ⟨go, rfl⟩ := Hoa.out (by omega)
              have hkM : k < M.length := by rw [HMl.out]; exact hk3
              obtain ⟨vk, hvk1, hvk2⟩ := allr_at hA2.out (List.getElem?_eq_getElem hkM)
              have hgM : M[k] ∈ M := List.getElem_mem hkM
              have hag : Alnum M[k] := fun c hc => HAl.out c (by rw [← HMf.out]; exact List.mem_flatten.2 ⟨_, hgM, hc⟩)
              have hgl : M[k].length ≤ 200 := by
                have h1 : M[k].length ≤ M.flatten.length := List.Sublist.length_le (List.sublist_flatten_of_mem hgM)
                rw [HMf.out, ← hsz.out] at h1
                omega
              have HT2 := Lib.hid (show M.take (k + 1) = M.take k ++ [M[k]] from List.take_succ_eq_append_getElem hkM)
              have hcv := seen_str (alnum_asc hag) hvk2
              obtain ⟨gk, ck, rfl, -, -, -⟩ := hvk2.cell
              have k1 : wz.cell? ⟨go, k, none⟩ = _ := (hO2.out.cellAt k (by omega)).trans hvk1
              generalize M[k] = g at *
              have Hag := Lib.hid hag
              clear hvk1 hvk2 hgM hag
              cases g with
              | nil =>
                have HL4 := Lib.hid (show ls = kept (M.take (k + 1)) by rw [HT2.out, hls.out]; simp [kept])
                rw [List.length_nil] at k1 hcv
                clear HT2
                go_wp2_with fail
                go_roundw
                case rel => exact ⟨k + 1, ls, by omega, by go_num, HL4, by omega, hOv, hO2, hA2, HB2⟩
                case measure => simp [intOf]; omega
              | cons x y =>
                have HL4 := Lib.hid (show ls ++ [x :: y] = kept (M.take (k + 1)) by rw [HT2.out, hls.out]; simp [kept])
                have HTr := Lib.hid (trim_any (x :: y) Hag.out hgl wz (HSp.out wz HB2.out))
                have hsv := Lib.hid (show strV (x :: y) = .string ⟨(x :: y).toArray⟩ from rfl)
                have hne1 : (⟨(x :: y).toArray⟩ : ByteArray).toList.isEmpty = false := by rw [Lib.toList_data]; rfl
                have hne2 : ((⟨(x :: y).toArray⟩ : ByteArray).toList == [95]) = false := by
                  rw [Lib.toList_data, beq_eq_false_iff_ne]
                  intro e
                  have h95 := Hag.out 95 (by rw [show x :: y = [95] from by simpa using e]; simp)
                  revert h95; decide
                have hgl2 : (x :: y).length = y.length + 1 := rfl
                rw [hgl2] at k1 hcv
                clear HT2 hgl
                generalize (⟨(x :: y).toArray⟩ : ByteArray) = st at *
                go_wp2_with (go_at_call 14; refine halt_V ?_)
                refine resume_V ?_
                refine HTr.out.mono ?_
                rintro e w2 ⟨rfl, hb⟩
                have HOv2 := Lib.hid (own_below hOv.out hb)
                have HO3 := Lib.hid (own_below hO2.out hb)
                have HA3 := Lib.hid (hA2.out.to hb)
                have HB3 := Lib.hid (HB2.out.trans (hb.mono HB2.out.size))
                clear hb HTr hOv hO2 hA2 HB2 hcv k1
                go_wp2_with (at_builtin; refine halt_V ?_)
                refine resume_V ?_
                refine wpList_append_own _ rfl _ _ 24 rfl w.heap.size 9 i0 (.string ⟨#[]⟩) 1 16 Tryd.underlying24 hi hz0 hz1 hz2 rfl (by decide) _ ls.length _ rfl (HOv2.out.alloc _) ⟨w2.heap.size, 0, none⟩ 1 1 [.string st] rfl rfl (oneB_at (heap_alloc_new w2 _)) (by simp [Value.oneCell']) (by unfold maxLen; omega) (by omega) (by have := HB3.out.size; simp; omega) ?_
                intro v' w3 hown1 hgrow _
                have HB4 := Lib.hid ((HB3.out.alloc HB3.out.size _).grown hgrow (by have := HB3.out.size; simp; omega) (fun k hk => (HOv2.out.lt k hk).1))
                have HO4 := Lib.hid (own_keep (HO3.out.alloc _) hgrow (own_tag HO3.out HOv2.out (by decide)))
                have HA4 := Lib.hid (all_grown HA3.out HOv2.out (by decide) hgrow)
                have HOv4 := Lib.hid (show w3.ownsRow w.heap.size 9 1 v' (ls ++ [x :: y]).length ((ls ++ [x :: y]).map strV) by
                  rw [List.length_append, List.length_singleton, List.map_append, List.map_singleton, hsv.out]
                  exact hown1)
                clear hown1 hgrow HOv2 HO3 HA3 HB3
                go_wp2_with fail
                go_roundw
                case rel => exact ⟨k + 1, ls ++ [x :: y], by omega, by go_num, HL4, by simp; omega, HOv4, HO4, HA4, HB4⟩
                case measure => simp [intOf]; omega
            · have HL5 := Lib.hid (show camel s.data.toList = ls by rw [← HK.out, hls.out, List.take_of_length_le (by rw [HMl.out]; omega)])
              go_wp2_with fail
              go_ret
              rw [HL5.out]
              exact ⟨_, rfl, hOv.out, HB2.out⟩
    | cons c C =>
      have hp1 : pos < s.size := by rw [hsz.out, hL.out, hpA.out]; simp
      have hc128 : c.toNat < 128 := HAs.out c (by rw [hL.out]; simp)
      have hkc : kd c ≤ 2 := HAl.out c (by rw [hL.out]; simp)
      have hsc : (s[pos]'hp1) = c := by
        rw [← at_list s pos hp1]
        have h1 := hL.out
        have h2 := hpA.out
        subst h2
        simp [h1]
      have hdec : Utf8.decode s pos = (c.toNat, 1) := by rw [decode_ascii s pos hp1 (by rw [hsc]; exact hc128), hsc]
      have hnx : ∀ ty, (Instr.next (.pointer (some ⟨E + 1, 0, none⟩)) true ty).run Tryd.prog wo = _ := fun ty => Lib.run_next_any_at wo (E + 1) s pos ty hit hp1
      rw [hdec] at hnx
      have hit2 := Lib.iterAt_heap wo (E + 1) s pos (pos + 1) hit
      have HB2 := Lib.hid (Lib.below_iterAt HB.out (show w.heap.size ≤ E + 1 by omega) s (pos + 1))
      have HE2 := Lib.hid ((Lib.iterAt_other wo (E + 1) E s (pos + 1) (by omega)).trans HE.out)
      have HM1 := Lib.hid (show Mk (wo.iterAt (E + 1) s (pos + 1)) F _ G vs from mk_iter HM0.out hit (by omega) (pos + 1))
      have HL2 := Lib.hid (show s.data.toList = (A ++ [c]) ++ C by rw [hL.out]; simp)
      have HP2 := Lib.hid (show pos + 1 = (A ++ [c]).length by rw [hpA.out]; simp)
      have HLo := Lib.hid (fun W hT => lower_any c hkc W hT)
      have HUp := Lib.hid (fun W hT => upper_any c hkc W hT)
      have HDi := Lib.hid (fun W => digit_any c hkc W)
      have hAl : A.length = pos := hpA.out.symm
      generalize hWd : wo.iterAt (E + 1) s (pos + 1) = W at *
      have hWs : F ≤ W.heap.size := HM1.out.2.1
      have hd3 : kd c = 0 ∨ kd c = 1 ∨ kd c = 2 := by omega
      obtain ⟨-, -, hG⟩ := id HM1.out
      clear HM0
      have HM0 := HM1
      clear HM1 hit HB HE hWd hL hpA hsc hdec
      have hc0 : True := trivial
      rcases hd3 with hd | hd | hd
      · rw [hd] at HLo HUp HDi
        rcases hG with rfl | ⟨D, g, Dvs, vl, Bl, rfl, rfl, hg, hFB, hBl, hA, hV⟩
        · have HW2 := Lib.hid (show WF ([] ++ [[c]]) from ⟨by simp, by simp [hk], by simp [nextk], trivial⟩)
          have HF2 := Lib.hid (show ([] ++ [[c]] : List (List UInt8)).flatten = A ++ [c] by rw [← HF.out]; rfl)
          have HC2 := Lib.hid (show Value.int .i64 (1 : Int) = .int .i64 (lc ([] ++ [[c]])) by rw [show lc ([] ++ [[c]]) = (kd c : Int) + 1 from rfl, hd]; rfl)
          have hlc0 : lc [] = 0 := rfl
          rw [hlc0]
          have HM := HM0
          have hGl : ([] : List (List UInt8)).length = 0 := rfl
          clear hd HF HW hc0
          go_wp2_with (go_at_call 11; refine halt_V ?_)
          refine resume_V ?_
          refine (HLo.out W (HP.out W HB2.out)).mono ?_
          rintro e w2 ⟨rfl, rfl⟩
          go_wp2_with (at_builtin; refine halt_V ?_)
          refine resume_V ?_
          refine wpList_append_own _ rfl _ _ 27 rfl F 29 iG (.slice none 0 0) 1 24 Tryd.underlying27 hiG hzG0 hzG1 hzG2 rfl (by decide) _ ([] : List (List UInt8)).length _ rfl ((HM.out.1.alloc _).alloc _) ⟨W.heap.size + 1, 0, none⟩ 1 1 [.slice (some ⟨W.heap.size, 0, none⟩) 1 1] (by first | rfl | simp) rfl (oneB_at (w := (W.alloc (.cells #[rv c] eR)).alloc (.cells #[.slice (some ⟨W.heap.size, 0, none⟩) 1 1] eG)) (by have := heap_alloc_new (W.alloc (.cells #[rv c] eR)) (.cells #[.slice (some ⟨W.heap.size, 0, none⟩) 1 1] eG); simpa using this)) (by simp [Value.oneCell']) (by unfold maxLen; omega) (by omega) (by have := HM.out.2.1; simp; omega) ?_
          intro ro' w3 hown1 hgrow _
          obtain ⟨hM3, hB3⟩ := mk_new HM.out hown1 hgrow
          have HM3 := Lib.hid hM3
          have HB4 := Lib.hid (HB2.out.trans (hB3.mono (by omega)))
          have hit3 := (hB3.block (E + 1) (by omega)).trans hit2
          have HE3 := Lib.hid ((hB3.block E (by omega)).trans HE2.out)
          have hpos3 := itPos hit3
          clear hown1 hgrow hM3 hB3 HM hit2 HE2
          go_wp2_with fail
          go_roundw
          case rel => exact ⟨A ++ [c], C, pos + 1, ([] : List (List UInt8)) ++ [[c]], _, HL2, HP2, by omega, HW2, HF2, by simp <;> omega, HC2.out, hit3, HE3, HM3, HB4⟩
          case measure => rw [hpos3, hpos]; omega
        · have hlk : lc (D ++ [g]) = (hk g : Int) + 1 := by unfold lc; rw [List.getLast?_concat]
          by_cases hsame : hk g = 0
          · have HW2 := Lib.hid (wf_add c D g HW.out (by rw [hd, hsame]))
            have HF2 := Lib.hid (show (D ++ [g ++ [c]]).flatten = A ++ [c] by rw [← HF.out]; simp)
            have HC2 := Lib.hid (show Value.int .i64 (1 : Int) = .int .i64 (lc (D ++ [g ++ [c]])) by unfold lc; rw [List.getLast?_concat]; show _ = Value.int .i64 ((hk (g ++ [c]) : Int) + 1); rw [hk_snoc hg, hsame]; rfl)
            rw [hlk, hsame]
            obtain ⟨go, cap, rfl⟩ := own_pos (n := D.length) (by have := HM0.out.1; rwa [List.length_append, List.length_singleton] at this)
            have HO := Lib.hid (show W.ownsRow F eG 1 (.slice (some ⟨go, 0, none⟩) (D.length + 1) cap) (D.length + 1) (Dvs ++ [vl]) by have := HM0.out.1; rwa [List.length_append, List.length_singleton] at this)
            have hDm : Dvs.length = D.length := hA.1
            have HA := Lib.hid hA
            have HV := Lib.hid hV
            have hgl : g.length ≤ 200 := by have h1 := congrArg List.length HF.out; simp at h1; omega
            have c0 : W.cell? ⟨go, D.length, none⟩ = some vl := by rw [HO.out.cellAt D.length (by omega), ← hDm]; simp
            rw [List.length_append, List.length_singleton] at hGl0
            have hvl := own_shape hV
            obtain ⟨va, vcap, rfl, -⟩ := hvl
            generalize hDm2 : D.length = m at *
            have e3 : IntKind.i64.wrap ((m : Int) + 1 - 1) = (m : Int) := by rw [show (m : Int) + 1 - 1 = m by omega]; exact IntWalk.i64_in _ (by omega)
            have e4 : (m : Int) < (m : Int) + 1 := by omega
            clear hd HF HW hA hV HM0 hlk hc0
            go_wp2_with (go_at_call 11; refine halt_V ?_)
            refine resume_V ?_
            refine (HLo.out W (HP.out W HB2.out)).mono ?_
            rintro e w2 ⟨rfl, rfl⟩
            go_wp2_with (at_builtin; refine halt_V ?_)
            refine resume_V ?_
            refine wpList_append_own _ rfl _ _ 29 rfl Bl 21 iR (.int .i32 0) 1 4 Tryd.underlying29 hiR hzR0 hzR1 hzR2 rfl (by decide) _ g.length _ rfl (HV.out.alloc _) ⟨W.heap.size, 0, none⟩ 1 1 [rv c] rfl rfl (oneB_at (heap_alloc_new W _)) (by simp [Value.oneCell', rv]) (by unfold maxLen; omega) (by omega) (by simp; omega) ?_
            intro v' w3 hown1 hgrow _
            obtain ⟨gv, cv, rfl⟩ := own_pos hown1
            have ho3 : w3.ownsRow F eG 1 (.slice (some ⟨go, 0, none⟩) (m + 1) cap) (m + 1) (Dvs ++ [.slice va g.length vcap]) := own_keep (HO.out.alloc _) hgrow (by
              rcases own_tag HO.out HV.out eG_ne with h | h
              · cases h
              · exact .inr h)
            have d1 : w3.cell? ⟨go, m, none⟩ = some (.slice va g.length vcap) := by
              rw [ho3.cellAt m (by omega), ← hDm]; simp
            have f1 : w3.frozen? ⟨go, m, none⟩ = false := ho3.frozenAt m
            obtain ⟨hM3, hB3⟩ := mk_same HO.out (by rw [hDm2]) hFB hBl HA.out HV.out hown1 hgrow
            rw [show m + 1 - 1 = m from rfl] at hM3 hB3
            have HM3 := Lib.hid hM3
            have HB4 := Lib.hid (HB2.out.trans (hB3.mono (by omega)))
            have hit3 := (hB3.block (E + 1) (by omega)).trans hit2
            have HE3 := Lib.hid ((hB3.block E (by omega)).trans HE2.out)
            have hpos3 := itPos hit3
            clear hown1 hgrow hM3 hB3 HO HV HA hit2 HE2 ho3
            go_wp2_with fail
            go_roundw
            case rel => exact ⟨A ++ [c], C, pos + 1, D ++ [g ++ [c]], _, HL2, HP2, by omega, HW2, HF2, by simp <;> omega, HC2.out, hit3, HE3, HM3, HB4⟩
            case measure => rw [hpos3, hpos]; omega
          · have HW2 := Lib.hid (wf_new c D g HW.out (by rw [hd]; exact fun e => hsame e.symm))
            have HF2 := Lib.hid (show (D ++ [g] ++ [[c]]).flatten = A ++ [c] by rw [← HF.out]; simp)
            have HC2 := Lib.hid (show Value.int .i64 (1 : Int) = .int .i64 (lc (D ++ [g] ++ [[c]])) by unfold lc; rw [List.getLast?_concat]; show _ = Value.int .i64 ((kd c : Int) + 1); rw [hd]; rfl)
            rw [hlk]
            have HM := HM0
            have hne : ((1 : Int) == (hk g : Int) + 1) = false := by rw [beq_eq_false_iff_ne]; omega
            generalize hk g = hkg at *
            generalize D ++ [g] = G at *
            clear hd HF HW hA hV hlk hsame hc0 HM0
            go_wp2_with (go_at_call 11; refine halt_V ?_)
            refine resume_V ?_
            refine (HLo.out W (HP.out W HB2.out)).mono ?_
            rintro e w2 ⟨rfl, rfl⟩
            go_wp2_with (at_builtin; refine halt_V ?_)
            refine resume_V ?_
            refine wpList_append_own _ rfl _ _ 27 rfl F 29 iG (.slice none 0 0) 1 24 Tryd.underlying27 hiG hzG0 hzG1 hzG2 rfl (by decide) _ G.length _ rfl ((HM.out.1.alloc _).alloc _) ⟨W.heap.size + 1, 0, none⟩ 1 1 [.slice (some ⟨W.heap.size, 0, none⟩) 1 1] (by first | rfl | simp) rfl (oneB_at (w := (W.alloc (.cells #[rv c] eR)).alloc (.cells #[.slice (some ⟨W.heap.size, 0, none⟩) 1 1] eG)) (by have := heap_alloc_new (W.alloc (.cells #[rv c] eR)) (.cells #[.slice (some ⟨W.heap.size, 0, none⟩) 1 1] eG); simpa using this)) (by simp [Value.oneCell']) (by unfold maxLen; omega) (by omega) (by have := HM.out.2.1; simp; omega) ?_
            intro ro' w3 hown1 hgrow _
            obtain ⟨hM3, hB3⟩ := mk_new HM.out hown1 hgrow
            have HM3 := Lib.hid hM3
            have HB4 := Lib.hid (HB2.out.trans (hB3.mono (by omega)))
            have hit3 := (hB3.block (E + 1) (by omega)).trans hit2
            have HE3 := Lib.hid ((hB3.block E (by omega)).trans HE2.out)
            have hpos3 := itPos hit3
            clear hown1 hgrow hM3 hB3 HM hit2 HE2
            go_wp2_with fail
            go_roundw
            case rel => exact ⟨A ++ [c], C, pos + 1, G ++ [[c]], _, HL2, HP2, by omega, HW2, HF2, by simp <;> omega, HC2.out, hit3, HE3, HM3, HB4⟩
            case measure => rw [hpos3, hpos]; omega
      · rw [hd] at HLo HUp HDi
        rcases hG with rfl | ⟨D, g, Dvs, vl, Bl, rfl, rfl, hg, hFB, hBl, hA, hV⟩
        · have HW2 := Lib.hid (show WF ([] ++ [[c]]) from ⟨by simp, by simp [hk], by simp [nextk], trivial⟩)
          have HF2 := Lib.hid (show ([] ++ [[c]] : List (List UInt8)).flatten = A ++ [c] by rw [← HF.out]; rfl)
          have HC2 := Lib.hid (show Value.int .i64 (2 : Int) = .int .i64 (lc ([] ++ [[c]])) by rw [show lc ([] ++ [[c]]) = (kd c : Int) + 1 from rfl, hd]; rfl)
          have hlc0 : lc [] = 0 := rfl
          rw [hlc0]
          have HM := HM0
          have hGl : ([] : List (List UInt8)).length = 0 := rfl
          clear hd HF HW hc0
          go_wp2_with (go_at_call 11; refine halt_V ?_)
          refine resume_V ?_
          refine (HLo.out W (HP.out W HB2.out)).mono ?_
          rintro e w2 ⟨rfl, rfl⟩
          go_wp2_with (go_at_call 12; refine halt_V ?_)
          refine resume_V ?_
          refine (HUp.out W (HP.out W HB2.out)).mono ?_
          rintro e w2 ⟨rfl, rfl⟩
          go_wp2_with (at_builtin; refine halt_V ?_)
          refine resume_V ?_
          refine wpList_append_own _ rfl _ _ 27 rfl F 29 iG (.slice none 0 0) 1 24 Tryd.underlying27 hiG hzG0 hzG1 hzG2 rfl (by decide) _ ([] : List (List UInt8)).length _ rfl ((HM.out.1.alloc _).alloc _) ⟨W.heap.size + 1, 0, none⟩ 1 1 [.slice (some ⟨W.heap.size, 0, none⟩) 1 1] (by first | rfl | simp) rfl (oneB_at (w := (W.alloc (.cells #[rv c] eR)).alloc (.cells #[.slice (some ⟨W.heap.size, 0, none⟩) 1 1] eG)) (by have := heap_alloc_new (W.alloc (.cells #[rv c] eR)) (.cells #[.slice (some ⟨W.heap.size, 0, none⟩) 1 1] eG); simpa using this)) (by simp [Value.oneCell']) (by unfold maxLen; omega) (by omega) (by have := HM.out.2.1; simp; omega) ?_
          intro ro' w3 hown1 hgrow _
          obtain ⟨hM3, hB3⟩ := mk_new HM.out hown1 hgrow
          have HM3 := Lib.hid hM3
          have HB4 := Lib.hid (HB2.out.trans (hB3.mono (by omega)))
          have hit3 := (hB3.block (E + 1) (by omega)).trans hit2
          have HE3 := Lib.hid ((hB3.block E (by omega)).trans HE2.out)
          have hpos3 := itPos hit3
          clear hown1 hgrow hM3 hB3 HM hit2 HE2
          go_wp2_with fail
          go_roundw
          case rel => exact ⟨A ++ [c], C, pos + 1, ([] : List (List UInt8)) ++ [[c]], _, HL2, HP2, by omega, HW2, HF2, by simp <;> omega, HC2.out, hit3, HE3, HM3, HB4⟩
          case measure => rw [hpos3, hpos]; omega
        · have hlk : lc (D ++ [g]) = (hk g : Int) + 1 := by unfold lc; rw [List.getLast?_concat]
          by_cases hsame : hk g = 1
          · have HW2 := Lib.hid (wf_add c D g HW.out (by rw [hd, hsame]))
            have HF2 := Lib.hid (show (D ++ [g ++ [c]]).flatten = A ++ [c] by rw [← HF.out]; simp)
            have HC2 := Lib.hid (show Value.int .i64 (2 : Int) = .int .i64 (lc (D ++ [g ++ [c]])) by unfold lc; rw [List.getLast?_concat]; show _ = Value.int .i64 ((hk (g ++ [c]) : Int) + 1); rw [hk_snoc hg, hsame]; rfl)
            rw [hlk, hsame]
            obtain ⟨go, cap, rfl⟩ := own_pos (n := D.length) (by have := HM0.out.1; rwa [List.length_append, List.length_singleton] at this)
            have HO := Lib.hid (show W.ownsRow F eG 1 (.slice (some ⟨go, 0, none⟩) (D.length + 1) cap) (D.length + 1) (Dvs ++ [vl]) by have := HM0.out.1; rwa [List.length_append, List.length_singleton] at this)
            have hDm : Dvs.length = D.length := hA.1
            have HA := Lib.hid hA
            have HV := Lib.hid hV
            have hgl : g.length ≤ 200 := by have h1 := congrArg List.length HF.out; simp at h1; omega
            have c0 : W.cell? ⟨go, D.length, none⟩ = some vl := by rw [HO.out.cellAt D.length (by omega), ← hDm]; simp
            rw [List.length_append, List.length_singleton] at hGl0
            have hvl := own_shape hV
            obtain ⟨va, vcap, rfl, -⟩ := hvl
            generalize hDm2 : D.length = m at *
            have e3 : IntKind.i64.wrap ((m : Int) + 1 - 1) = (m : Int) := by rw [show (m : Int) + 1 - 1 = m by omega]; exact IntWalk.i64_in _ (by omega)
            have e4 : (m : Int) < (m : Int) + 1 := by omega
            clear hd HF HW hA hV HM0 hlk hc0
            go_wp2_with (go_at_call 11; refine halt_V ?_)
            refine resume_V ?_
            refine (HLo.out W (HP.out W HB2.out)).mono ?_
            rintro e w2 ⟨rfl, rfl⟩
            go_wp2_with (go_at_call 12; refine halt_V ?_)
            refine resume_V ?_
            refine (HUp.out W (HP.out W HB2.out)).mono ?_
            rintro e w2 ⟨rfl, rfl⟩
            go_wp2_with (at_builtin; refine halt_V ?_)
            refine resume_V ?_
            refine wpList_append_own _ rfl _ _ 29 rfl Bl 21 iR (.int .i32 0) 1 4 Tryd.underlying29 hiR hzR0 hzR1 hzR2 rfl (by decide) _ g.length _ rfl (HV.out.alloc _) ⟨W.heap.size, 0, none⟩ 1 1 [rv c] rfl rfl (oneB_at (heap_alloc_new W _)) (by simp [Value.oneCell', rv]) (by unfold maxLen; omega) (by omega) (by simp; omega) ?_
            intro v' w3 hown1 hgrow _
            obtain ⟨gv, cv, rfl⟩ := own_pos hown1
            have ho3 : w3.ownsRow F eG 1 (.slice (some ⟨go, 0, none⟩) (m + 1) cap) (m + 1) (Dvs ++ [.slice va g.length vcap]) := own_keep (HO.out.alloc _) hgrow (by
              rcases own_tag HO.out HV.out eG_ne with h | h
              · cases h
              · exact .inr h)
            have d1 : w3.cell? ⟨go, m, none⟩ = some (.slice va g.length vcap) := by
              rw [ho3.cellAt m (by omega), ← hDm]; simp
            have f1 : w3.frozen? ⟨go, m, none⟩ = false := ho3.frozenAt m
            obtain ⟨hM3, hB3⟩ := mk_same HO.out (by rw [hDm2]) hFB hBl HA.out HV.out hown1 hgrow
            rw [show m + 1 - 1 = m from rfl] at hM3 hB3
            have HM3 := Lib.hid hM3
            have HB4 := Lib.hid (HB2.out.trans (hB3.mono (by omega)))
            have hit3 := (hB3.block (E + 1) (by omega)).trans hit2
            have HE3 := Lib.hid ((hB3.block E (by omega)).trans HE2.out)
            have hpos3 := itPos hit3
            clear hown1 hgrow hM3 hB3 HO HV HA hit2 HE2 ho3
            go_wp2_with fail
            go_roundw
            case rel => exact ⟨A ++ [c], C, pos + 1, D ++ [g ++ [c]], _, HL2, HP2, by omega, HW2, HF2, by simp <;> omega, HC2.out, hit3, HE3, HM3, HB4⟩
            case measure => rw [hpos3, hpos]; omega
          · have HW2 := Lib.hid (wf_new c D g HW.out (by rw [hd]; exact fun e => hsame e.symm))
            have HF2 := Lib.hid (show (D ++ [g] ++ [[c]]).flatten = A ++ [c] by rw [← HF.out]; simp)
            have HC2 := Lib.hid (show Value.int .i64 (2 : Int) = .int .i64 (lc (D ++ [g] ++ [[c]])) by unfold lc; rw [List.getLast?_concat]; show _ = Value.int .i64 ((kd c : Int) + 1); rw [hd]; rfl)
            rw [hlk]
            have HM := HM0
            have hne : ((2 : Int) == (hk g : Int) + 1) = false := by rw [beq_eq_false_iff_ne]; omega
            generalize hk g = hkg at *
            generalize D ++ [g] = G at *
            clear hd HF HW hA hV hlk hsame hc0 HM0
            go_wp2_with (go_at_call 11; refine halt_V ?_)
            refine resume_V ?_
            refine (HLo.out W (HP.out W HB2.out)).mono ?_
            rintro e w2 ⟨rfl, rfl⟩
            go_wp2_with (go_at_call 12; refine halt_V ?_)
            refine resume_V ?_
            refine (HUp.out W (HP.out W HB2.out)).mono ?_
            rintro e w2 ⟨rfl, rfl⟩
            go_wp2_with (at_builtin; refine halt_V ?_)
            refine resume_V ?_
            refine wpList_append_own _ rfl _ _ 27 rfl F 29 iG (.slice none 0 0) 1 24 Tryd.underlying27 hiG hzG0 hzG1 hzG2 rfl (by decide) _ G.length _ rfl ((HM.out.1.alloc _).alloc _) ⟨W.heap.size + 1, 0, none⟩ 1 1 [.slice (some ⟨W.heap.size, 0, none⟩) 1 1] (by first | rfl | simp) rfl (oneB_at (w := (W.alloc (.cells #[rv c] eR)).alloc (.cells #[.slice (some ⟨W.heap.size, 0, none⟩) 1 1] eG)) (by have := heap_alloc_new (W.alloc (.cells #[rv c] eR)) (.cells #[.slice (some ⟨W.heap.size, 0, none⟩) 1 1] eG); simpa using this)) (by simp [Value.oneCell']) (by unfold maxLen; omega) (by omega) (by have := HM.out.2.1; simp; omega) ?_
            intro ro' w3 hown1 hgrow _
            obtain ⟨hM3, hB3⟩ := mk_new HM.out hown1 hgrow
            have HM3 := Lib.hid hM3
            have HB4 := Lib.hid (HB2.out.trans (hB3.mono (by omega)))
            have hit3 := (hB3.block (E + 1) (by omega)).trans hit2
            have HE3 := Lib.hid ((hB3.block E (by omega)).trans HE2.out)
            have hpos3 := itPos hit3
            clear hown1 hgrow hM3 hB3 HM hit2 HE2
            go_wp2_with fail
            go_roundw
            case rel => exact ⟨A ++ [c], C, pos + 1, G ++ [[c]], _, HL2, HP2, by omega, HW2, HF2, by simp <;> omega, HC2.out, hit3, HE3, HM3, HB4⟩
            case measure => rw [hpos3, hpos]; omega
      · rw [hd] at HLo HUp HDi
        rcases hG with rfl | ⟨D, g, Dvs, vl, Bl, rfl, rfl, hg, hFB, hBl, hA, hV⟩
        · have HW2 := Lib.hid (show WF ([] ++ [[c]]) from ⟨by simp, by simp [hk], by simp [nextk], trivial⟩)
          have HF2 := Lib.hid (show ([] ++ [[c]] : List (List UInt8)).flatten = A ++ [c] by rw [← HF.out]; rfl)
          have HC2 := Lib.hid (show Value.int .i64 (3 : Int) = .int .i64 (lc ([] ++ [[c]])) by rw [show lc ([] ++ [[c]]) = (kd c : Int) + 1 from rfl, hd]; rfl)
          have hlc0 : lc [] = 0 := rfl
          rw [hlc0]
          have HM := HM0
          have hGl : ([] : List (List UInt8)).length = 0 := rfl
          clear hd HF HW hc0
          go_wp2_with (go_at_call 11; refine halt_V ?_)
          refine resume_V ?_
          refine (HLo.out W (HP.out W HB2.out)).mono ?_
          rintro e w2 ⟨rfl, rfl⟩
          go_wp2_with (go_at_call 12; refine halt_V ?_)
          refine resume_V ?_
          refine (HUp.out W (HP.out W HB2.out)).mono ?_
          rintro e w2 ⟨rfl, rfl⟩
          go_wp2_with (go_at_call 13; refine halt_V ?_)
          refine resume_V ?_
          refine (HDi.out W).mono ?_
          rintro e w2 ⟨rfl, rfl⟩
          go_wp2_with (at_builtin; refine halt_V ?_)
          refine resume_V ?_
          refine wpList_append_own _ rfl _ _ 27 rfl F 29 iG (.slice none 0 0) 1 24 Tryd.underlying27 hiG hzG0 hzG1 hzG2 rfl (by decide) _ ([] : List (List UInt8)).length _ rfl ((HM.out.1.alloc _).alloc _) ⟨W.heap.size + 1, 0, none⟩ 1 1 [.slice (some ⟨W.heap.size, 0, none⟩) 1 1] (by first | rfl | simp) rfl (oneB_at (w := (W.alloc (.cells #[rv c] eR)).alloc (.cells #[.slice (some ⟨W.heap.size, 0, none⟩) 1 1] eG)) (by have := heap_alloc_new (W.alloc (.cells #[rv c] eR)) (.cells #[.slice (some ⟨W.heap.size, 0, none⟩) 1 1] eG); simpa using this)) (by simp [Value.oneCell']) (by unfold maxLen; omega) (by omega) (by have := HM.out.2.1; simp; omega) ?_
          intro ro' w3 hown1 hgrow _
          obtain ⟨hM3, hB3⟩ := mk_new HM.out hown1 hgrow
          have HM3 := Lib.hid hM3
          have HB4 := Lib.hid (HB2.out.trans (hB3.mono (by omega)))
          have hit3 := (hB3.block (E + 1) (by omega)).trans hit2
          have HE3 := Lib.hid ((hB3.block E (by omega)).trans HE2.out)
          have hpos3 := itPos hit3
          clear hown1 hgrow hM3 hB3 HM hit2 HE2
          go_wp2_with fail
          go_roundw
          case rel => exact ⟨A ++ [c], C, pos + 1, ([] : List (List UInt8)) ++ [[c]], _, HL2, HP2, by omega, HW2, HF2, by simp <;> omega, HC2.out, hit3, HE3, HM3, HB4⟩
          case measure => rw [hpos3, hpos]; omega
        · have hlk : lc (D ++ [g]) = (hk g : Int) + 1 := by unfold lc; rw [List.getLast?_concat]
          by_cases hsame : hk g = 2
          · have HW2 := Lib.hid (wf_add c D g HW.out (by rw [hd, hsame]))
            have HF2 := Lib.hid (show (D ++ [g ++ [c]]).flatten = A ++ [c] by rw [← HF.out]; simp)
            have HC2 := Lib.hid (show Value.int .i64 (3 : Int) = .int .i64 (lc (D ++ [g ++ [c]])) by unfold lc; rw [List.getLast?_concat]; show _ = Value.int .i64 ((hk (g ++ [c]) : Int) + 1); rw [hk_snoc hg, hsame]; rfl)
            rw [hlk, hsame]
            obtain ⟨go, cap, rfl⟩ := own_pos (n := D.length) (by have := HM0.out.1; rwa [List.length_append, List.length_singleton] at this)
            have HO := Lib.hid (show W.ownsRow F eG 1 (.slice (some ⟨go, 0, none⟩) (D.length + 1) cap) (D.length + 1) (Dvs ++ [vl]) by have := HM0.out.1; rwa [List.length_append, List.length_singleton] at this)
            have hDm : Dvs.length = D.length := hA.1
            have HA := Lib.hid hA
            have HV := Lib.hid hV
            have hgl : g.length ≤ 200 := by have h1 := congrArg List.length HF.out; simp at h1; omega
            have c0 : W.cell? ⟨go, D.length, none⟩ = some vl := by rw [HO.out.cellAt D.length (by omega), ← hDm]; simp
            rw [List.length_append, List.length_singleton] at hGl0
            have hvl := own_shape hV
            obtain ⟨va, vcap, rfl, -⟩ := hvl
            generalize hDm2 : D.length = m at *
            have e3 : IntKind.i64.wrap ((m : Int) + 1 - 1) = (m : Int) := by rw [show (m : Int) + 1 - 1 = m by omega]; exact IntWalk.i64_in _ (by omega)
            have e4 : (m : Int) < (m : Int) + 1 := by omega
            clear hd HF HW hA hV HM0 hlk hc0
            go_wp2_with (go_at_call 11; refine halt_V ?_)
            refine resume_V ?_
            refine (HLo.out W (HP.out W HB2.out)).mono ?_
            rintro e w2 ⟨rfl, rfl⟩
            go_wp2_with (go_at_call 12; refine halt_V ?_)
            refine resume_V ?_
            refine (HUp.out W (HP.out W HB2.out)).mono ?_
            rintro e w2 ⟨rfl, rfl⟩
            go_wp2_with (go_at_call 13; refine halt_V ?_)
            refine resume_V ?_
            refine (HDi.out W).mono ?_
            rintro e w2 ⟨rfl, rfl⟩
            go_wp2_with (at_builtin; refine halt_V ?_)
            refine resume_V ?_
            refine wpList_append_own _ rfl _ _ 29 rfl Bl 21 iR (.int .i32 0) 1 4 Tryd.underlying29 hiR hzR0 hzR1 hzR2 rfl (by decide) _ g.length _ rfl (HV.out.alloc _) ⟨W.heap.size, 0, none⟩ 1 1 [rv c] rfl rfl (oneB_at (heap_alloc_new W _)) (by simp [Value.oneCell', rv]) (by unfold maxLen; omega) (by omega) (by simp; omega) ?_
            intro v' w3 hown1 hgrow _
            obtain ⟨gv, cv, rfl⟩ := own_pos hown1
            have ho3 : w3.ownsRow F eG 1 (.slice (some ⟨go, 0, none⟩) (m + 1) cap) (m + 1) (Dvs ++ [.slice va g.length vcap]) := own_keep (HO.out.alloc _) hgrow (by
              rcases own_tag HO.out HV.out eG_ne with h | h
              · cases h
              · exact .inr h)
            have d1 : w3.cell? ⟨go, m, none⟩ = some (.slice va g.length vcap) := by
              rw [ho3.cellAt m (by omega), ← hDm]; simp
            have f1 : w3.frozen? ⟨go, m, none⟩ = false := ho3.frozenAt m
            obtain ⟨hM3, hB3⟩ := mk_same HO.out (by rw [hDm2]) hFB hBl HA.out HV.out hown1 hgrow
            rw [show m + 1 - 1 = m from rfl] at hM3 hB3
            have HM3 := Lib.hid hM3
            have HB4 := Lib.hid (HB2.out.trans (hB3.mono (by omega)))
            have hit3 := (hB3.block (E + 1) (by omega)).trans hit2
            have HE3 := Lib.hid ((hB3.block E (by omega)).trans HE2.out)
            have hpos3 := itPos hit3
            clear hown1 hgrow hM3 hB3 HO HV HA hit2 HE2 ho3
            go_wp2_with fail
            go_roundw
            case rel => exact ⟨A ++ [c], C, pos + 1, D ++ [g ++ [c]], _, HL2, HP2, by omega, HW2, HF2, by simp <;> omega, HC2.out, hit3, HE3, HM3, HB4⟩
            case measure => rw [hpos3, hpos]; omega
          · have HW2 := Lib.hid (wf_new c D g HW.out (by rw [hd]; exact fun e => hsame e.symm))
            have HF2 := Lib.hid (show (D ++ [g] ++ [[c]]).flatten = A ++ [c] by rw [← HF.out]; simp)
            have HC2 := Lib.hid (show Value.int .i64 (3 : Int) = .int .i64 (lc (D ++ [g] ++ [[c]])) by unfold lc; rw [List.getLast?_concat]; show _ = Value.int .i64 ((kd c : Int) + 1); rw [hd]; rfl)
            rw [hlk]
            have HM := HM0
            have hne : ((3 : Int) == (hk g : Int) + 1) = false := by rw [beq_eq_false_iff_ne]; omega
            generalize hk g = hkg at *
            generalize D ++ [g] = G at *
            clear hd HF HW hA hV hlk hsame hc0 HM0
            go_wp2_with (go_at_call 11; refine halt_V ?_)
            refine resume_V ?_
            refine (HLo.out W (HP.out W HB2.out)).mono ?_
            rintro e w2 ⟨rfl, rfl⟩
            go_wp2_with (go_at_call 12; refine halt_V ?_)
            refine resume_V ?_
            refine (HUp.out W (HP.out W HB2.out)).mono ?_
            rintro e w2 ⟨rfl, rfl⟩
            go_wp2_with (go_at_call 13; refine halt_V ?_)
            refine resume_V ?_
            refine (HDi.out W).mono ?_
            rintro e w2 ⟨rfl, rfl⟩
            go_wp2_with (at_builtin; refine halt_V ?_)
            refine resume_V ?_
            refine wpList_append_own _ rfl _ _ 27 rfl F 29 iG (.slice none 0 0) 1 24 Tryd.underlying27 hiG hzG0 hzG1 hzG2 rfl (by decide) _ G.length _ rfl ((HM.out.1.alloc _).alloc _) ⟨W.heap.size + 1, 0, none⟩ 1 1 [.slice (some ⟨W.heap.size, 0, none⟩) 1 1] (by first | rfl | simp) rfl (oneB_at (w := (W.alloc (.cells #[rv c] eR)).alloc (.cells #[.slice (some ⟨W.heap.size, 0, none⟩) 1 1] eG)) (by have := heap_alloc_new (W.alloc (.cells #[rv c] eR)) (.cells #[.slice (some ⟨W.heap.size, 0, none⟩) 1 1] eG); simpa using this)) (by simp [Value.oneCell']) (by unfold maxLen; omega) (by omega) (by have := HM.out.2.1; simp; omega) ?_
            intro ro' w3 hown1 hgrow _
            obtain ⟨hM3, hB3⟩ := mk_new HM.out hown1 hgrow
            have HM3 := Lib.hid hM3
            have HB4 := Lib.hid (HB2.out.trans (hB3.mono (by omega)))
            have hit3 := (hB3.block (E + 1) (by omega)).trans hit2
            have HE3 := Lib.hid ((hB3.block E (by omega)).trans HE2.out)
            have hpos3 := itPos hit3
            clear hown1 hgrow hM3 hB3 HM hit2 HE2
            go_wp2_with fail
            go_roundw
            case rel => exact ⟨A ++ [c], C, pos + 1, G ++ [[c]], _, HL2, HP2, by omega, HW2, HF2, by simp <;> omega, HC2.out, hit3, HE3, HM3, HB4⟩
            case measure => rw [hpos3, hpos]; omega
end Go.Proofs.YtenmkoaimmnpdaaDoor
