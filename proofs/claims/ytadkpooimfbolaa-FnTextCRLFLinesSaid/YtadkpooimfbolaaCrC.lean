/- Carriage returns: the walk of ProcessCRLF. Texts of ASCII, at most 100000 bytes. -/
import Derived.Test.YtadkpooimfbolaaCrB
import Derived.WalkKit
import Derived.Handy
import Derived.BigQuiet
import Derived.Deep.DeepCutAuto
import Derived.Deep.CutBlock
import Derived.Deep.DrawnRows
import Derived.Laws.OwnMore
import Derived.Maps.AppendAt
import Derived.WalkLawsBesides
namespace Go.Proofs.Ytadkpooimfbolaa
open Go.RowKit
set_option linter.unusedVariables false
attribute [local go_sem ↓] Go.wp_at_zero Go.wp_at_succ
def bat (l : List UInt8) (k : Nat) : UInt8 := l.getD k 0
theorem ovAll_succ (l : List UInt8) (j : Nat) (h : j < l.length) : ovAll (l.take (j + 1)) = ovStep (ovAll (l.take j)) (bat l j) := by
  unfold ovAll
  rw [List.take_succ_eq_append_getElem h, List.foldl_append]
  simp [bat, h]
theorem ovAll_bd (l : List UInt8) : (ovAll l).2 ≤ (ovAll l).1.length ∧ (ovAll l).1.length ≤ l.length := by
  have key : ∀ (l : List UInt8) (st : List UInt8 × Nat) (c : Nat), st.2 ≤ st.1.length → st.1.length ≤ c → (l.foldl ovStep st).2 ≤ (l.foldl ovStep st).1.length ∧ (l.foldl ovStep st).1.length ≤ c + l.length := by
    intro l
    induction l with
    | nil => intro st c h1 h2; exact ⟨h1, by simpa using h2⟩
    | cons b l ih =>
      intro st c h1 h2
      rw [List.foldl_cons, List.length_cons, show c + (l.length + 1) = c + 1 + l.length by omega]
      refine ih (ovStep st b) (c + 1) ?_ ?_
      · unfold ovStep
        split
        · simp
        · split
          · simp; omega
          · simp; omega
      · unfold ovStep
        split
        · simp; omega
        · split
          · simp; omega
          · simp; omega
  have := key l ([], 0) 0 (by simp) (by simp)
  simpa [ovAll] using this
def mixL (ls : List (List UInt8)) (k : Nat) : List (List UInt8) := (ls.take k).map ovL ++ ls.drop k
theorem mixL_len (ls : List (List UInt8)) (k : Nat) : (mixL ls k).length = ls.length := by
  simp [mixL]; omega
theorem mixL_at (ls : List (List UInt8)) (k : Nat) (h : k < ls.length) : (mixL ls k)[k]? = some ls[k] := by
  unfold mixL
  rw [List.getElem?_append_right (by simp; omega)]
  simp [Nat.min_eq_left (Nat.le_of_lt h), h]
theorem mixL_set (ls : List (List UInt8)) (k : Nat) (h : k < ls.length) : (mixL ls k).set k (ovL ls[k]) = mixL ls (k + 1) := by
  unfold mixL
  have hl : ((ls.take k).map ovL).length = k := by simp; omega
  rw [List.set_append_right k _ (by omega), hl, Nat.sub_self, List.drop_eq_getElem_cons h, List.set_cons_zero, List.take_succ_eq_append_getElem h, List.map_append]
  simp
theorem mixL_same (ls : List (List UInt8)) (k : Nat) (h : k < ls.length) (e : ovL ls[k] = ls[k]) : mixL ls (k + 1) = mixL ls k := by
  rw [← mixL_set ls k h, e]
  have := mixL_at ls k h
  apply List.ext_getElem?
  intro i
  rw [List.getElem?_set]
  split
  · rename_i e1; subst e1; rw [if_pos (by rw [mixL_len]; exact h), this]
  · rfl
theorem own_kept {w w1 : World} {B : Nat} {e : TypeId} {size n : Nat} {v : Value} {xs : List Value} {row : Option Nat} (h : w.ownsRow B e size v n xs) (hg : w.grownBy w1 row) (hne : ∀ g, v.ownBlock = some g → some g ≠ row) : w1.ownsRow B e size v n xs :=
  h.kept hg (by
    cases hv : v.ownBlock with
    | none => exact .inl rfl
    | some g => exact .inr (by have := hne g hv; exact this))
theorem own_tag {w : World} {B B' : Nat} {e e' : TypeId} {s s' n n' : Nat} {v v' : Value} {xs xs' : List Value} (h : w.ownsRow B e s v n xs) (h' : w.ownsRow B' e' s' v' n' xs') (hne : e ≠ e') : ∀ g, v.ownBlock = some g → some g ≠ v'.ownBlock := by
  intro g hg
  rcases h.2 with ⟨rfl, _⟩ | ⟨g1, cap, cur, rfl, _, hgg, _⟩
  · simp [Value.ownBlock] at hg
  · simp [Value.ownBlock] at hg
    subst hg
    exact own_ne h' hgg (fun e1 => hne e1.symm)
theorem ov_asc {l : List UInt8} (h : asc l) : asc (ovAll l).1 := ovStep_mem l ([], 0) (fun b => b.toNat < 128) (by simp) (fun b hb _ => h b hb)
theorem bat_cell (l : List UInt8) (j : Nat) (h : j < l.length) : (rcells l)[j]? = some (.int .i32 (bat l j).toNat) := by
  simp [rcells, bat, h]
theorem rcells_set (l : List UInt8) (j : Nat) (c : UInt8) : (rcells l).set j (.int .i32 c.toNat) = rcells (l.set j c) := by simp [rcells, List.map_set]
theorem made_own (W : World) (B : Nat) (hB : B ≤ W.heap.size) : (W.alloc (.cells #[] 21)).ownsRow B 21 1 (.slice (some ⟨W.heap.size, 0, none⟩) 0 0) 0 [] :=
  World.ownsRow_made W #[] 0 hB (by unfold maxLen; omega) rfl
theorem one_cell {W : World} {v : Value} {t : TypeId} : ∀ j u, [v][j]? = some u → (W.alloc (.cells #[v] t)).cell? ((⟨W.heap.size, 0, none⟩ : Addr).add j) = some u := oneS_at (heap_alloc_new W _)
theorem lens_le : ∀ (ls : List (List UInt8)) (M : Nat), (∀ p ∈ ls, p.length ≤ M) → Lib.lens ls ≤ M * ls.length
  | [], M, _ => by simp [Lib.lens]
  | x :: ls, M, h => by
    have := lens_le ls M (fun p hp => h p (by simp [hp]))
    have hx := h x (by simp)
    unfold Lib.lens at this ⊢
    rw [List.map_cons, List.sum_cons, List.length_cons, Nat.mul_add]
    omega
theorem join_le (ls : List (List UInt8)) (c : UInt8) (M : Nat) (h : ∀ p ∈ ls, p.length ≤ M) : (Lib.join ls [c]).length ≤ (M + 1) * ls.length := by
  cases ls with
  | nil => simp [Lib.join_nil]
  | cons x r =>
    have := lens_le (x :: r) M h
    rw [Lib.join_length, Nat.add_mul]
    simp at this ⊢
    omega
theorem own_pos' {w : World} {B e size n : Nat} {v : Value} {xs : List Value} (h : w.ownsRow B e size v n xs) (hn : 0 < n) : ∃ g cap, v = .slice (some ⟨g, 0, none⟩) n cap ∧ n ≤ cap ∧ cap ≤ maxLen ∧ B ≤ g ∧ g < w.heap.size := by
  rcases h.2 with ⟨_, hz⟩ | ⟨g, cap, cur, e, hb, hg, h1, h2, _⟩
  · omega
  · exact ⟨g, cap, e, h1, h2, hb, (Array.getElem?_eq_some_iff.1 hg).1⟩
theorem own_base {w : World} {B B' e size n : Nat} {v : Value} {xs : List Value} (h : w.ownsRow B e size v n xs) (hB : B' ≤ B) : w.ownsRow B' e size v n xs := by
  refine ⟨h.1, ?_⟩
  rcases h.2 with h0 | ⟨g, cap, cur, e, hb, rest⟩
  · exact .inl h0
  · exact .inr ⟨g, cap, cur, e, by omega, rest⟩
set_option maxHeartbeats 8000000 in
set_option maxRecDepth 100000 in
theorem crlf_any (s : ByteArray) (w : World) (ha : asc s.data.toList) (hs : s.size ≤ 100000) : Calls Try.prog 20 #[.string s] w fun e w' => e = .returned (.string ⟨(crlf s.data.toList).toArray⟩) ∧ Below w.heap.size w w' := by
  obtain ⟨r1, r2, r3⟩ := rep_facts s.data.toList
  have ht : (rep [13, 10] [10] s.data.toList).length ≤ 100000 := by rw [← Lib.size_eq] at r3; omega
  have hat : asc (rep [13, 10] [10] s.data.toList) := fun b hb => ha b (r2 b hb)
  have H1 := fun W => Lib.hid (crlf_1 s W hs)
  generalize hT : rep [13, 10] [10] s.data.toList = t at *
  have HC := Lib.hid (show crlf s.data.toList = if (13 : UInt8) ∈ t then Lib.join ((sp [10] t).map ovL) [10] else t by unfold crlf; rw [hT])
  have H2 := fun W => Lib.hid (crlf_2 t W ht)
  clear r1 r2 r3 hT ha
  by_cases h13 : (13 : UInt8) ∈ t
  · have HC2 := Lib.hid (show crlf s.data.toList = Lib.join ((sp [10] t).map ovL) [10] by rw [HC.out, if_pos h13])
    have hd13 : decide ((13 : UInt8) ∈ t) = true := decide_eq_true h13
    rw [hd13] at H2
    have hcnt := spF_count 10 t.length t (Nat.le_refl _)
    have hmem := spF_mem 10 t.length t (Nat.le_refl _)
    have hlens := sp_lens 10 t.length t (Nat.le_refl _)
    have hne := sp_ne [10] t
    have H3 := fun W => Lib.hid (split_T ⟨t.toArray⟩ ⟨#[10]⟩ W (by decide) (by decide) (by show t.toArray.size ≤ _; simp; omega))
    have e3 : sp (⟨#[10]⟩ : ByteArray).data.toList (⟨t.toArray⟩ : ByteArray).data.toList = sp [10] t := by simp
    rw [e3] at H3
    unfold sp at hne
    generalize hLs : spF [10] t.length t = ls at *
    have eLs : sp [10] t = ls := hLs
    rw [eLs] at HC2 H3
    have hcl : t.count 10 ≤ t.length := List.count_le_length
    have hn : ls.length ≤ 100001 := by omega
    have HM := Lib.hid hmem
    have HL := Lib.hid hlens
    have HA := Lib.hid hat
    clear hcnt hmem hlens hat hLs eLs e3 hd13 h13 HC hcl
    have hpos : 0 < ls.length := List.length_pos_iff.2 hne
    have hmk : ∀ W : World, (Instr.makeSlice 50 (.int .i64 0) (.int .i64 0)).run Try.prog W = .ok (.slice (some ⟨W.heap.size, 0, none⟩) 0 0) (W.alloc (.cells #[] 21)) := fun _ => by kernel_rfl
    obtain ⟨i0, hi, hz0, hz1, hz2⟩ := info_parts info21
    clear hne
    go_enter Try.func20, Try.ntmps20
    go_wp2_with (first
      | (go_at_call 28; refine (H1 _).out.mono ?_; rintro e w1 ⟨rfl, hb1⟩
         have B1 := Lib.hid hb1; clear hb1)
      | (go_at_call 29; refine (H2 _).out.mono ?_; rintro e w2 ⟨rfl, rfl⟩)
      | (go_at_call 30; refine (H3 _).out.mono ?_; rintro e w3 ⟨v, rfl, hv0, hb3⟩
         have B3 := Lib.hid (B1.out.trans (hb3.mono B1.out.size))
         have hv := own_base hv0 B1.out.size
         obtain ⟨g, cap, rfl, hc1, hc2, hg1, hg2⟩ := own_pos' hv hpos
         have HV := Lib.hid hv
         clear hb3 hv0 hv))
    clear H1 H3
    go_loopw [20] (fun i wr => ∃ k : Nat, k ≤ ls.length ∧ i = .int .i64 k ∧ Hid (wr.ownsRow w.heap.size 9 1 (.slice (some ⟨g, 0, none⟩) ls.length cap) ls.length ((mixL ls k).map strV)) ∧ Hid (Below w.heap.size w wr)) (fun i _ => ls.length - (intOf i).toNat)
    case atStart => exact ⟨0, Nat.zero_le _, rfl, Lib.hid (by have := HV.out; simpa [mixL] using this), B3⟩
    case round =>
      obtain ⟨k, hk, rfl, HO, HB⟩ := hrel
      by_cases hlt : k < ls.length
      · have hline : wr.cell? ⟨g, k, none⟩ = some (strV ls[k]) := by
          rw [HO.out.cellAt k (by omega), List.getElem?_map, mixL_at ls k hlt]; rfl
        have hfr := HO.out.frozenAt k
        have hgw := (HO.out.lt g rfl).2
        have hlm := HM.out ls[k] (List.getElem_mem hlt)
        have hll := HL.out ls[k] (List.getElem_mem hlt)
        have hla : asc ls[k] := fun b hb => HA.out b (hlm.2 b hb)
        have HSame := Lib.hid (mixL_same ls k hlt)
        have HSet := Lib.hid (mixL_set ls k hlt)
        have HLk := Lib.hid (mixL_at ls k hlt)
        generalize hln : ls[k] = ln at *
        have hl2 : ln.length ≤ 100000 := by omega
        have HL2 := fun W => Lib.hid (crlf_2 ln W hl2)
        have HLA := Lib.hid hla
        obtain ⟨wo, rfl⟩ : ∃ wo : World, wo = wr := ⟨_, rfl⟩
        unfold strV at hline
        clear hlm hla hll hln
        by_cases hd : (13 : UInt8) ∈ ln
        · have hdd : decide ((13 : UInt8) ∈ ln) = true := decide_eq_true hd
          rw [hdd] at HL2
          have HOv := Lib.hid (show ovL ln = (ovAll ln).1 by unfold ovL; rw [if_pos hd])
          have hcv : ∀ W : World, (convert 9 50 (.string ⟨ln.toArray⟩)).run Try.prog W = .ok (.slice (some ⟨W.heap.size, 0, none⟩) ln.length (grownCap W ln.length 0 21)) (W.drew.alloc (.cells ((rcells ln).toArray ++ Array.replicate (grownCap W ln.length 0 21 - ln.length) (.int .i32 0)) 21)) := by
            intro W
            have := to_runes ⟨ln.toArray⟩ HLA.out (by show ln.toArray.size ≤ _; simp; omega) W
            have e : (⟨ln.toArray⟩ : ByteArray).size = ln.length := by simp [ByteArray.size]
            rw [e] at this
            exact this
          clear hd hdd
          go_wp2_with (go_at_call 29; refine (HL2 _).out.mono ?_; rintro e w2 ⟨rfl, rfl⟩)
          go_upto_region 9 with fail
          go_cut [6, 7] from 28 to 30 (fun v6 v7 wx => ∃ g6 c6 g7 c7, v6 = .slice (some ⟨g6, 0, none⟩) ln.length c6 ∧ v7 = .slice (some ⟨g7, 0, none⟩) 0 c7 ∧ g6 ≠ g7 ∧ wx.ownsRow w.heap.size 21 1 (.slice (some ⟨g6, 0, none⟩) ln.length c6) ln.length (rcells ln) ∧ wx.ownsRow w.heap.size 21 1 (.slice (some ⟨g7, 0, none⟩) 0 c7) 0 [] ∧ Hid (wx.ownsRow w.heap.size 9 1 (.slice (some ⟨g, 0, none⟩) ls.length cap) ls.length ((mixL ls k).map strV)) ∧ Hid (Below w.heap.size w wx))
          case first =>
            go_region
            all_goals
              go_wp2_with fail
              go_meet
            · exact ⟨wo.heap.size, _, wo.heap.size + 1, _, rfl, rfl, by omega, (runes_own wo w.heap.size ln.length _ (rcells ln) HB.out.size (rcells_len ln) (grownCap_ge wo.drew _ _ _) (grownCap_le_maxLen wo.drew _ _ _ (by unfold maxLen; omega))).alloc _,
                by have := made_own (wo.alloc (.cells ((rcells ln).toArray ++ Array.replicate (grownCap wo.drew ln.length 0 21 - ln.length) (.int .i32 0)) 21)) w.heap.size (by rw [World.size_alloc]; exact Nat.le_succ_of_le HB.out.size)
                   rw [World.size_alloc] at this; exact this, Lib.hid ((HO.out.alloc _).alloc _), Lib.hid (((HB.out.alloc HB.out.size _).alloc (by rw [World.size_alloc]; exact Nat.le_succ_of_le HB.out.size) _).drew.drew)⟩
            · exact ⟨wo.heap.size + 1, _, wo.heap.size, _, rfl, rfl, by omega, by
                have := runes_own (wo.alloc (.cells #[] 21)) w.heap.size ln.length (grownCap (wo.alloc (.cells #[] 21)).drew ln.length 0 21) (rcells ln) (by rw [World.size_alloc]; exact Nat.le_succ_of_le HB.out.size) (rcells_len ln) (grownCap_ge (wo.alloc (.cells #[] 21)).drew _ _ _) (grownCap_le_maxLen (wo.alloc (.cells #[] 21)).drew _ _ _ (by unfold maxLen; omega))
                rw [World.size_alloc] at this; exact this, (made_own wo w.heap.size HB.out.size).alloc _, Lib.hid ((HO.out.alloc _).alloc _), Lib.hid (((HB.out.alloc HB.out.size _).alloc (by rw [World.size_alloc]; exact Nat.le_succ_of_le HB.out.size) _).drew.drew)⟩
          case rest =>
            obtain ⟨g6, c6, g7, c7, rfl, rfl, h67, o6, o7, HO, HB⟩ := hcut
            have hc6 : ln.length ≤ c6 ∧ c6 ≤ maxLen := by
              rcases o6.2 with ⟨e, _⟩ | ⟨g', cap', cur, e, _, _, h1, h2, _⟩
              · cases e
              · injection e with e1 e2 e3; omega
            obtain ⟨hc61, hc62⟩ := hc6
            have O6 := Lib.hid o6
            have O7 := Lib.hid o7
            have hlb := ovAll_bd
            have HLB := Lib.hid hlb
            clear o6 o7 hlb hcv
            unfold maxLen at hc62 hc2
            go_wp2_with fail
            go_loopw [7, 8, 9] (fun v7 i r wq => ∃ (j : Nat) (nw : List UInt8) (re : Nat), j ≤ ln.length ∧ i = .int .i64 j ∧ r = .int .i64 re ∧ Hid (ovAll (ln.take j) = (nw, re)) ∧ re ≤ nw.length ∧ nw.length ≤ 100000 ∧ v7.ownBlock ≠ some g6 ∧ wq.ownsRow w.heap.size 21 1 v7 nw.length (rcells nw) ∧ Hid (wq.ownsRow w.heap.size 21 1 (.slice (some ⟨g6, 0, none⟩) ln.length c6) ln.length (rcells ln)) ∧ Hid (wq.ownsRow w.heap.size 9 1 (.slice (some ⟨g, 0, none⟩) ls.length cap) ls.length ((mixL ls k).map strV)) ∧ Hid (Below w.heap.size w wq)) (fun _ i _ _ => ln.length - (intOf i).toNat)
            case atStart => exact ⟨0, [], 0, Nat.zero_le _, rfl, rfl, Lib.hid rfl, Nat.le_refl _, Nat.zero_le _, by simpa [Value.ownBlock] using Ne.symm h67, O7.out, O6, HO, HB⟩
            case round =>
              obtain ⟨j, nw, re, hj, rfl, rfl, HSt, hre, hnw, hne6, hown, O6, HO, HB⟩ := hrel
              obtain ⟨wi, rfl⟩ : ∃ wi : World, wi = wr := ⟨_, rfl⟩
              obtain ⟨a7, cap7, rfl⟩ : ∃ a c, u7 = .slice a nw.length c := by
                rcases hown.2 with ⟨e, hz⟩ | ⟨g', cap', cur, e, _⟩
                · exact ⟨none, 0, by rw [hz]; exact e⟩
                · exact ⟨_, cap', e⟩
              have hc7 : nw.length ≤ cap7 ∧ cap7 ≤ 9223372036854775807 := by
                rcases hown.2 with ⟨e, hz⟩ | ⟨g', cap', cur, e, _, _, h1, h2, _⟩
                · injection e with e1 e2 e3; omega
                · injection e with e1 e2 e3; unfold maxLen at h2; omega
              obtain ⟨hc71, hc72⟩ := hc7
              by_cases hjl : j < ln.length
              · have hcell : wi.cell? ⟨g6, j, none⟩ = some (.int .i32 (bat ln j).toNat) := by
                  rw [O6.out.cellAt j (by omega), bat_cell ln j hjl]
                have hg6 := (O6.out.lt g6 rfl).2
                have HS := Lib.hid (show ovAll (ln.take (j + 1)) = ovStep (nw, re) (bat ln j) by rw [ovAll_succ ln j hjl, HSt.out])
                generalize hcc : bat ln j = cc at *
                clear hcc HSt
                by_cases hc13 : cc = 13
                · have t13 : ((cc.toNat : Int) == 13) = true := by rw [hc13]; rfl
                  have HS2 := Lib.hid (show ovAll (ln.take (j + 1)) = (nw, 0) by rw [HS.out]; simp [ovStep, hc13])
                  clear hc13 HS
                  go_wp2_with fail
                  go_roundw
                  case rel => exact ⟨j + 1, nw, 0, by omega, by go_num, rfl, HS2, Nat.zero_le _, hnw, hne6, hown, O6, HO, HB⟩
                  case measure => simp [intOf]; omega
                · have t13 : ((cc.toNat : Int) == 13) = false := by
                    rw [beq_eq_false_iff_ne]
                    intro e
                    exact hc13 (UInt8.toNat_inj.1 (by show cc.toNat = 13; omega))
                  have h67 : ∀ g, (Value.slice (some ⟨g6, 0, none⟩) ln.length c6).ownBlock = some g → some g ≠ (Value.slice a7 nw.length cap7).ownBlock := by
                    intro g hg e
                    have : g = g6 := by simpa [Value.ownBlock] using hg.symm
                    rw [this] at e
                    exact hne6 e.symm
                  have hn9 := own_tag HO.out hown (by decide)
                  by_cases hrl : re < nw.length
                  · have HS2 := Lib.hid (show ovAll (ln.take (j + 1)) = (nw.set re cc, re + 1) by rw [HS.out]; simp [ovStep, hc13, hrl])
                    obtain ⟨g7, cap7', e7, _, _, hb7, hg7⟩ := own_pos' hown (by omega)
                    injection e7 with e71 e72 e73
                    subst e71; subst e73
                    have d1 : decide ((re : Int) < (nw.length : Int)) = true := decide_eq_true (by omega)
                    have hc7 : ∃ u, wi.cell? ⟨g7, re, none⟩ = some u := ⟨(rcells nw)[re]'(by rw [rcells_len]; exact hrl), by rw [hown.cellAt re (by omega), List.getElem?_eq_getElem]⟩
                    obtain ⟨u7, hc7⟩ := hc7
                    have hf7 := hown.frozenAt re
                    obtain ⟨st1, st2⟩ := hown.stored re (.int .i32 cc.toNat)
                    rw [rcells_set] at st1
                    have O6' := Lib.hid (own_kept O6.out st2 (fun g hg => by have := h67 g hg; simpa [Value.ownBlock] using this))
                    have HO' := Lib.hid (own_kept HO.out st2 (fun g hg => by have := hn9 g hg; simpa [Value.ownBlock] using this))
                    have HB' := Lib.hid (HB.out.setCell (p := ⟨g7, re, none⟩) hb7 (.int .i32 cc.toNat))
                    have Own' := Lib.hid (show (wi.setCell ⟨g7, re, none⟩ (.int .i32 cc.toNat)).ownsRow w.heap.size 21 1 (.slice (some ⟨g7, 0, none⟩) (nw.set re cc).length cap7) (nw.set re cc).length (rcells (nw.set re cc)) by rw [List.length_set]; exact st1)
                    clear hc13 HS st1 st2 hown hn9 h67
                    go_wp2_with fail
                    go_roundw
                    case rel => exact ⟨j + 1, nw.set re cc, re + 1, by omega, by go_num, by go_num, HS2, by rw [List.length_set]; omega, by rw [List.length_set]; exact hnw, hne6, by have := Own'.out; rw [List.length_set] at this ⊢; exact this, O6', HO', HB'⟩
                    case measure => simp [intOf]; omega
                  · have hre2 : re = nw.length := by omega
                    subst hre2
                    have HS2 := Lib.hid (show ovAll (ln.take (j + 1)) = (nw ++ [cc], nw.length + 1) by rw [HS.out]; simp [ovStep, hc13])
                    have d1 : decide ((nw.length : Int) < (nw.length : Int)) = false := decide_eq_false (by omega)
                    have hl1 := (HLB.out (ln.take (j + 1)))
                    rw [HS2.out] at hl1
                    have hl2 : nw.length + 1 ≤ 100000 := by have := hl1.2; simp at this; omega
                    have hBs := HB.out.size
                    clear hc13 HS hl1
                    go_wp2_with (at_builtin; refine halt_T ?_)
                    refine resume_T ?_
                    refine wpList_append_own_at _ rfl _ _ 50 rfl w.heap.size 21 i0 (.int .i32 0) 1 4 Try.underlying50 hi hz0 hz1 hz2 rfl (by decide) _ _ _ rfl (hown.alloc _) ⟨wi.heap.size, 0, none⟩ 1 1 [.int .i32 cc.toNat] rfl rfl one_cell (by simp [Value.oneCell']) (by unfold maxLen; omega) (by omega) (by rw [World.size_alloc]; omega) ?_
                    intro v' w1 hown1 hgrow _ hat
                    have O6' := Lib.hid (own_kept (O6.out.alloc (.cells #[.int .i32 cc.toNat] 21)) hgrow h67)
                    have HO' := Lib.hid (own_kept (HO.out.alloc (.cells #[.int .i32 cc.toNat] 21)) hgrow hn9)
                    have HB' := Lib.hid ((HB.out.alloc hBs (.cells #[.int .i32 cc.toNat] 21)).grown hgrow (by rw [World.size_alloc]; omega) (fun k hk => (hown.lt k hk).1))
                    have hne' : v'.ownBlock ≠ some g6 := by
                      rcases hat with e | e
                      · rw [e]; exact hne6
                      · rw [e, World.size_alloc]
                        intro e2
                        injection e2 with e2
                        omega
                    have Own' := Lib.hid (show w1.ownsRow w.heap.size 21 1 v' (nw ++ [cc]).length (rcells (nw ++ [cc])) by rw [List.length_append, List.length_singleton, rcells_app]; exact hown1)
                    clear hown1 hgrow hown hat hn9 h67
                    go_wp2_with fail
                    go_roundw
                    case rel => exact ⟨j + 1, nw ++ [cc], nw.length + 1, by omega, by go_num, by go_num, HS2, by simp, by simp; omega, hne', Own'.out, O6', HO', HB'⟩
                    case measure => simp [intOf]; omega
              · have e : j = ln.length := by omega
                subst e
                have HS2 := Lib.hid (show ovAll ln = (nw, re) by rw [← HSt.out, List.take_of_length_le (Nat.le_refl _)])
                have hasc : asc nw := by have := ov_asc HLA.out; rw [HS2.out] at this; exact this
                have hcv2 := conv_runes_own hown hasc
                have dd : decide ((ln.length : Int) < (ln.length : Int)) = false := decide_eq_false (by omega)
                have hck : wi.cell? ⟨g, k, none⟩ = some (.string ⟨ln.toArray⟩) := by
                  rw [HO.out.cellAt k (by omega), List.getElem?_map]
                  have := HLk.out
                  rw [this]; rfl
                have hfk := HO.out.frozenAt k
                have hgk := (HO.out.lt g rfl)
                obtain ⟨hgk1, hgk2⟩ := hgk
                obtain ⟨st1, st2⟩ := HO.out.stored k (strV nw)
                have HO' := Lib.hid (show (wi.setCell ⟨g, k, none⟩ (.string ⟨nw.toArray⟩)).ownsRow w.heap.size 9 1 (.slice (some ⟨g, 0, none⟩) ls.length cap) ls.length ((mixL ls (k + 1)).map strV) by
                  rw [← HSet.out, HOv.out, HS2.out, List.map_set]; exact st1)
                have HB' := Lib.hid (HB.out.setCell (p := ⟨g, k, none⟩) hgk1 (.string ⟨nw.toArray⟩))
                clear st1 st2 hasc hown
                go_wp2_with fail
                go_roundw
                case rel => exact ⟨k + 1, by omega, by go_num, HO', HB'⟩
                case measure => simp [intOf]; omega
        · have hdd : decide ((13 : UInt8) ∈ ln) = false := decide_eq_false hd
          rw [hdd] at HL2
          have HS := Lib.hid (HSame.out (by unfold ovL; rw [if_neg hd]))
          clear hd hdd
          go_wp2_with (go_at_call 29; refine (HL2 _).out.mono ?_; rintro e w2 ⟨rfl, rfl⟩)
          go_roundw
          case rel => exact ⟨k + 1, by omega, by go_num, by rw [HS.out]; exact HO, HB⟩
          case measure => simp [intOf]; omega
      · have hd : decide ((k : Int) < (ls.length : Int)) = false := decide_eq_false (by omega)
        have e : k = ls.length := by omega
        subst e
        have hml : mixL ls ls.length = ls.map ovL := by simp [mixL]
        rw [hml] at HO
        have hj := Try.strings_Join g 0 cap ((ls.map ovL).map fun l => (⟨l.toArray⟩ : ByteArray)) ⟨#[10]⟩ wr (fun j x hx => by
          rw [List.getElem?_map, List.getElem?_map, Option.map_eq_some_iff] at hx
          obtain ⟨l, hl, rfl⟩ := hx
          have hjl : j < ls.length := by
            rw [Option.map_eq_some_iff] at hl
            obtain ⟨y, hy, _⟩ := hl
            exact (List.getElem?_eq_some_iff.1 hy).1
          rw [Nat.zero_add, HO.out.cellAt j (by omega), List.getElem?_map, List.getElem?_map, hl]
          rfl) (HO.out.lt g rfl).2 (by simp; omega) (by simp; exact hc1) (by
            have := join_le (ls.map ovL) 10 100000 (fun p hp => by
              obtain ⟨q, hq, rfl⟩ := List.mem_map.1 hp
              have h1 := HL.out q hq
              have h2 : (ovL q).length ≤ q.length := by
                unfold ovL
                split
                · exact (ovAll_bd q).2
                · exact Nat.le_refl _
              omega)
            have e : (((ls.map ovL).map fun l => (⟨l.toArray⟩ : ByteArray)).map (·.data.toList)) = ls.map ovL := by simp [Function.comp_def]
            rw [e]
            rw [List.length_map] at this
            show (Lib.join (ls.map ovL) [10]).length ≤ _
            omega)
        have e : (((ls.map ovL).map fun l => (⟨l.toArray⟩ : ByteArray)).map (·.data.toList)) = ls.map ovL := by simp [Function.comp_def]
        have e2 : ((ls.map ovL).map fun l => (⟨l.toArray⟩ : ByteArray)).length = ls.length := by simp
        rw [e, e2] at hj
        have HJ := Lib.hid hj
        clear hj e e2 hml
        go_wp2_with (go_at_call 31; refine HJ.out.mono ?_; rintro e w4 ⟨rfl, hb4⟩
                     have HB4 := Lib.hid (HB.out.trans (hb4.mono HB.out.size)); clear hb4)
        go_ret
        exact ⟨ret_str (by rw [HC2.out]), HB4.out⟩
  · have HC2 := Lib.hid (show crlf s.data.toList = t by rw [HC.out, if_neg h13])
    have hd13 : decide ((13 : UInt8) ∈ t) = false := decide_eq_false h13
    rw [hd13] at H2
    clear hd13 h13 HC
    go_enter Try.func20, Try.ntmps20
    go_wp2_with (first
      | (go_at_call 28; refine (H1 _).out.mono ?_; rintro e w1 ⟨rfl, hb1⟩
         have B1 := Lib.hid hb1; clear hb1)
      | (go_at_call 29; refine (H2 _).out.mono ?_; rintro e w2 ⟨rfl, rfl⟩))
    go_ret
    exact ⟨ret_str (by rw [HC2.out]), B1.out⟩
end Go.Proofs.Ytadkpooimfbolaa
