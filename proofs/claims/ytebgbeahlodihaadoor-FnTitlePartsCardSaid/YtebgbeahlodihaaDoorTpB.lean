/- FnTitleParts: the walk of the law. No conditions. -/
import Derived.Test.YtebgbeahlodihaaDoorTiB
import Derived.Test.YtebgbeahlodihaaDoorTpA
import Derived.LoopN
namespace Go.Proofs.YtebgbeahlodihaaDoor
open Go.RowKit
set_option linter.unusedVariables false
set_option maxHeartbeats 1000000 in
set_option maxRecDepth 100000 in
theorem title_nil (w : World) (hT : Spaces w) : Calls Tryd.prog 13 #[.string ⟨#[]⟩] w fun e w' => e = .returned (.string ⟨#[]⟩) ∧ Below w.heap.size w w' := by
  obtain ⟨cap, w1, hcv, own0, below0⟩ := to_runes (P := Tryd.prog) w 9 31 21 [] (fun c hc => by cases hc) (by simp) Tryd.underlying9 Tryd.underlying31 Tryd.underlying21
  have hcv2 : (convert 31 9 (.slice (some ⟨w.heap.size, 0, none⟩) 0 cap)).run Tryd.prog w1 = .ok (.string ⟨#[]⟩) w1 := of_runes (P := Tryd.prog) (l := []) (fun c hc => by cases hc) rfl Tryd.underlying31 Tryd.underlying21 Tryd.underlying9 own0
  have HT := Lib.hid (Tryd.strings_TrimSpace ⟨#[]⟩ w1 (by decide) (fun j b hj => by simp at hj) (hT.stays below0))
  have HU := Lib.hid (fun W => Tryd.strings_ToUpper_ascii ⟨#[]⟩ W (by decide) (fun j b hj => by simp at hj))
  have HB0 := Lib.hid below0
  clear below0 own0 hT
  go_enter Tryd.func13, Tryd.ntmps13
  go_wp2_with fail
  refine wp_loop_rounds 1 ?_
  rw [rounds_succ]
  go_wp2_with (go_at_call 16; refine halt_T ?_)
  refine resume_T ?_
  refine HT.out.mono ?_
  rintro e w2 ⟨rfl, hw⟩
  have HW := Lib.hid (show Below w.heap.size w w2 by rw [hw]; exact HB0.out.trans (Go.Joins.below_bytesWorld _ _ _ _ HB0.out.size))
  clear hw HT
  have et : Lib.trimSpace (⟨#[]⟩ : ByteArray).data.toList = [] := rfl
  rw [et]
  go_wp2_with (go_at_call 17; refine halt_T ?_)
  refine resume_T ?_
  refine (HU.out w2).mono ?_
  rintro e w3 ⟨rfl, hb⟩
  have HB3 := Lib.hid (HW.out.trans (hb.mono HW.out.size))
  clear hb
  have eu : Lib.toUpperA (⟨#[]⟩ : ByteArray).data.toList = [] := rfl
  rw [eu]
  go_wp2_with fail
  go_ret
  exact ⟨rfl, HB3.out⟩
theorem implTitle_nil (w : World) (hT : Spaces w) : Calls Tryd.prog 6 #[.string ⟨#[]⟩] w fun e w' => e = .returned (.string ⟨#[]⟩) ∧ Below w.heap.size w w' := by
  have H := Lib.hid (title_nil w hT)
  go_enter Tryd.func6, Tryd.ntmps6
  go_wp2_with (go_at_call 13; refine H.out.mono ?_; rintro e w' ⟨rfl, hb⟩; have HB := Lib.hid hb; clear hb)
  go_ret
  exact ⟨rfl, HB.out⟩
/-- What the law has made of the first words. -/
def Made (ws : List (List UInt8)) (a : List UInt8) : Prop := (ws = [] ∧ a = []) ∨ (ws ≠ [] ∧ Jd ws a)
theorem Made.nil : Made [] [] := .inl ⟨rfl, rfl⟩
theorem Made.title {ws : List (List UInt8)} {a : List UInt8} (h : Made ws a) (W : World) (ha : a.length ≤ 1000) (hT : Spaces W) : Calls Tryd.prog 6 #[.string ⟨a.toArray⟩] W fun e w' => e = .returned (.string ⟨(J32 (ws.map Lib.toUpperA)).toArray⟩) ∧ Below W.heap.size W w' := by
  rcases h with ⟨rfl, rfl⟩ | ⟨h0, h⟩
  · exact implTitle_nil W hT
  · refine (implTitle_any a W h.1 (Jd_ne h) ha (Jd_trim h) hT).mono ?_
    rintro e w' ⟨rfl, hb⟩
    refine ⟨?_, hb⟩
    rw [Jd_mt h, J32_up]
theorem str_self (s : ByteArray) : (⟨s.data.toList.toArray⟩ : ByteArray) = s := by
  apply bytes_ext; simp
def sg (n : Int) : List UInt8 := if n = 0 then [32] else if n = 1 then [95] else [46]
theorem sg_ok (n : Int) : ∃ c, sg n = [c] ∧ sgn c := by
  unfold sg
  split
  · exact ⟨32, rfl, .inl rfl⟩
  · split
    · exact ⟨95, rfl, .inr (.inl rfl)⟩
    · exact ⟨46, rfl, .inr (.inr rfl)⟩
theorem Made.next {ws : List (List UInt8)} {a w : List UInt8} {n : Int} (h : Made ws a) (h0 : ws ≠ []) (hw : letters w) (hw0 : w ≠ []) : Made (ws ++ [w]) (a ++ sg n ++ w) := by
  obtain ⟨c, hc, hs⟩ := sg_ok n
  rcases h with ⟨rfl, _⟩ | ⟨_, h⟩
  · exact absurd rfl h0
  · rw [hc]; exact .inr ⟨by simp, Jd_snoc h hs hw hw0 h0⟩
theorem Made.first {w : List UInt8} (hw : letters w) (hw0 : w ≠ []) : Made ([] ++ [w]) ([] ++ w) := .inr ⟨by simp, Jd_one hw hw0⟩
theorem mapUp_len (ws : List (List UInt8)) (h : ∀ w ∈ ws, w.length ≤ 20) : ∀ v ∈ ws.map Lib.toUpperA, v.length ≤ 20 := fun v hv => by
  obtain ⟨w, hw, rfl⟩ := List.mem_map.1 hv
  simpa [Lib.toUpperA] using h w hw
theorem nums_at {k : IntKind} {w : World} {A : Option Addr} {n cap : Nat} {zs : List Int} (h : Nums k w A n cap zs) {i : Nat} (hi : i < n) : ∃ b o, A = some ⟨b, o, none⟩ ∧ b < w.heap.size ∧ w.cell? ⟨b, o + i, none⟩ = some (.int k (zs.getD i 0)) ∧ (Lit.int k (zs.getD i 0)).wf = true := by
  obtain ⟨b, o, u, hA, hb, hx, hc⟩ := h.1.at_ hi
  have hl : i < zs.length := by have := h.2.1; omega
  rw [List.getElem?_map, List.getElem?_eq_getElem hl] at hx
  simp only [Option.map_some, Option.some.injEq] at hx
  refine ⟨b, o, hA, hb, ?_, ?_⟩
  · rw [hc, ← hx, List.getD_eq_getElem?_getD, List.getElem?_eq_getElem hl]; rfl
  · rw [List.getD_eq_getElem?_getD, List.getElem?_eq_getElem hl]
    exact h.2.2.2.2.2 _ (List.getElem_mem hl)
theorem ixAt (s : ByteArray) (p : Nat) (hp : p < s.size) (W : World) : (Instr.index 9 (.string s) (.int .i64 (p : Int))).run Tryd.prog W = .ok (.int .u8 ((s[p]'hp).toNat : Int)) W := by
  rw [run_index_string W 9 s .i64 (p : Int) Tryd.underlying9, dif_pos ⟨by omega, by omega⟩]; rfl
theorem info_str : (Tryd.prog.info? 9).map (fun i => (i.zero, i.size, i.bytes)) = some (some (.string ⟨#[]⟩), 1, 16) := by kernel_rfl
theorem ne_empty {s : ByteArray} (h : s.size ≠ 0) : s.toList.isEmpty = false := by
  rw [List.isEmpty_eq_false_iff, Lib.toList_data]
  intro e; apply h; rw [Lib.size_eq, e]; rfl
theorem eq_empty {s : ByteArray} (h : s.size = 0) : s.toList.isEmpty = true := by
  rw [List.isEmpty_iff, Lib.toList_data]
  exact List.eq_nil_of_length_eq_zero (by rw [← Lib.size_eq]; exact h)
set_option maxHeartbeats 2000000 in
set_option maxRecDepth 100000 in
theorem lawTp (A : Option Addr) (n cap : Nat) (ss : List ByteArray) (B : Option Addr) (m bcap : Nat) (zs : List Int) (w : World) (h : Strs w A n cap ss) (hz : Nums .u8 w B m bcap zs) (hT : Spaces w) :
    Calls Tryd.prog 4 #[.slice A n cap, .slice B m bcap] w fun e w' => e = .returned (.bool true) ∧ Below w.heap.size w w' := by
  obtain ⟨i0, hi, hz0, hz1, hz2⟩ := info_parts info_str
  have H1 := Lib.hid (fits4_any A n cap ss w h)
  have hnn := h.2.2.2.2.1
  have hmm := hz.2.2.2.2.1
  have HS := Lib.hid h
  have HZ := Lib.hid hz
  have HT := Lib.hid hT
  clear h hz hT
  go_enter Tryd.func4, Tryd.ntmps4
  go_wp2_with (go_at_call 8; refine halt_T ?_)
  refine resume_T ?_
  refine H1.out.mono ?_
  rintro e w1 ⟨b, rfl, rfl⟩
  clear H1
  cases b with
  | false =>
    go_wp2_with fail
    go_ret
    exact ⟨rfl, Below.refl _ _⟩
  | true =>
    by_cases hmb : m ≤ 2147483647
    · have g0 : decide ((2147483647 : Int) < (m : Int)) = false := decide_eq_false (by omega)
      by_cases hn20 : n ≤ 20
      · have g1 : decide ((20 : Int) < (n : Int)) = false := decide_eq_false (by omega)
        go_wp2_with fail
        clear g0 g1
        go_loopw [5, 6, 23] (fun av lv iv wr => ∃ (k : Nat) (ws : List (List UInt8)) (a : List UInt8), k ≤ n ∧ ws.length = k ∧ iv = .int .i64 (k : Int) ∧ av = .string ⟨a.toArray⟩ ∧ Hid (Made ws a) ∧ Hid (∀ v ∈ ws, v.length ≤ 20) ∧ a.length ≤ 21 * k ∧ wr.ownsRow w.heap.size 9 1 lv k ((ws.map Lib.toUpperA).map strV) ∧ Hid (Below w.heap.size w wr)) (fun _ _ iv _ => n - (intOf iv).toNat)
        case atStart => exact ⟨0, [], [], Nat.zero_le _, rfl, rfl, rfl, Lib.hid Made.nil, Lib.hid (fun v hv => by cases hv), Nat.le_refl _, World.ownsRow_nil _ _ _ _, Lib.hid (Below.refl _ _)⟩
        case round =>
          obtain ⟨k, ws, a, hk, hwk, rfl, rfl, hmd, h20, hal, hown, HB⟩ := hrel
          obtain ⟨wo, rfl⟩ : ∃ wo : World, wo = wr := ⟨_, rfl⟩
          by_cases hlt : k < n
          · obtain ⟨b, o, rfl, hb, hc0, hs⟩ := strs_at HS.out hlt
            have hc : wo.cell? ⟨b, o + k, none⟩ = _ := (HB.out.cell hb).trans hc0
            clear hc0
            generalize hsk : ss.getD k ByteArray.empty = s at *
            clear hsk
            go_wp2_with fail
            go_loop [8] (fun jv => ∃ j : Nat, j ≤ s.size ∧ jv = .int .i64 (j : Int) ∧ Hid (∀ t (h : t < s.size), t < j → letter (s[t]'h))) (fun jv => s.size - (intOf jv).toNat)
            case atStart => exact ⟨0, Nat.zero_le _, rfl, Lib.hid (fun t h ht => absurd ht (by omega))⟩
            case round =>
              obtain ⟨j, hj, rfl, hlet⟩ := hrel
              by_cases hjl : j < s.size
              · have hix := ixAt s j hjl wo
                have HK := Lib.hid (kind_any (s[j]'hjl) wo)
                have HL := Lib.hid (show kd (s[j]'hjl) ≤ 1 → ∀ t (h : t < s.size), t < j + 1 → letter (s[t]'h) from fun hk t h ht => by
                  by_cases e : t = j
                  · subst e; exact kd_letter hk
                  · exact hlet.out t h (by omega))
                clear hlet
                generalize ((s[j]'hjl).toNat : Int) = z at *
                generalize kd (s[j]'hjl) = kz at *
                by_cases hkz : kz ≤ 1
                · have HL2 := Lib.hid (HL.out hkz)
                  have g2 : decide ((1 : Int) < kz) = false := decide_eq_false (by omega)
                  clear HL
                  go_wp2_with (go_at_call 9; refine HK.out.mono ?_; rintro e w2 ⟨rfl, rfl⟩)
                  go_round
                  case rel => exact ⟨j + 1, by omega, by go_num, HL2⟩
                  case measure => simp [intOf]; omega
                · have g2 : decide ((1 : Int) < kz) = true := decide_eq_true (by omega)
                  clear HL
                  go_wp2_with (go_at_call 9; refine HK.out.mono ?_; rintro e w2 ⟨rfl, rfl⟩)
                  go_ret
                  exact ⟨rfl, HB.out⟩
              · have hlets := Lib.hid (show letters s.data.toList from fun c hc => by
                  obtain ⟨t, ht, rfl⟩ := List.getElem_of_mem hc
                  have ht' : t < s.size := by rw [Lib.size_eq]; exact ht
                  exact hlet.out t ht' (by omega))
                clear hlet
                by_cases hs0 : s.size = 0
                · have e1 := eq_empty hs0
                  go_wp2_with fail
                  go_ret
                  exact ⟨rfl, HB.out⟩
                · have e1 := ne_empty hs0
                  by_cases hs20 : s.size ≤ 20
                  · have g3 : decide ((20 : Int) < (s.size : Int)) = false := decide_eq_false (by omega)
                    have hsl : s.data.toList.length = s.size := (Lib.size_eq s).symm
                    have hw0 : s.data.toList ≠ [] := fun e => hs0 (by rw [← hsl, e]; rfl)
                    have HU := Lib.hid (fun W => twUpper_any s.data.toList W (by omega))
                    rw [str_self] at HU
                    have hBs := HB.out.size
                    have H20 := Lib.hid (show ∀ v ∈ ws ++ [s.data.toList], v.length ≤ 20 from fun v hv => by
                      rcases List.mem_append.1 hv with hv | hv
                      · exact h20.out v hv
                      · simp at hv; subst hv; omega)
                    have HW := Lib.hid (show (ws ++ [s.data.toList]).length = k + 1 by simp; exact hwk)
                    have HO := Lib.hid (fun (W : World) (v : Value) (h : W.ownsRow w.heap.size 9 1 v (k + 1) ((ws.map Lib.toUpperA).map strV ++ [.string ⟨(Lib.toUpperA s.data.toList).toArray⟩])) => show W.ownsRow w.heap.size 9 1 v (k + 1) (((ws ++ [s.data.toList]).map Lib.toUpperA).map strV) by
                      rw [List.map_append, List.map_append]; exact h)
                    have has := mk_size a
                    by_cases hk0 : k = 0
                    · subst hk0
                      have hc' : wo.cell? ⟨b, o, none⟩ = some (.string s) := hc
                      clear hc
                      have hwe : ws = [] := List.eq_nil_of_length_eq_zero hwk
                      have hae : a = [] := List.eq_nil_of_length_eq_zero (by omega)
                      have HM := Lib.hid (show Made (ws ++ [s.data.toList]) s.data.toList by subst hwe; exact Made.first hlets.out hw0)
                      have HE := Lib.hid (show (⟨a.toArray⟩ : ByteArray) ++ s = ⟨s.data.toList.toArray⟩ by subst hae; apply bytes_ext; simp)
                      have hn1 := hsl
                      clear hmd h20 hlets hw0 hwk hwe hae
                      generalize hgl : s.data.toList = sl at *
                      clear hgl
                      go_wp2_with (go_at_call 7; refine halt_T ?_)
                      refine resume_T ?_
                      refine (HU.out wo).mono ?_
                      rintro e w2 ⟨rfl, hb2⟩
                      have own2 := own_below hown hb2
                      have HB2 := Lib.hid (HB.out.trans (hb2.mono hBs))
                      have hB2s := HB2.out.size
                      clear hb2 hown HU
                      go_wp2_with (at_builtin; refine halt_T ?_)
                      refine resume_T ?_
                      refine wpList_append_own _ rfl _ _ 24 rfl w.heap.size 9 i0 (.string ⟨#[]⟩) 1 16 Tryd.underlying24 hi hz0 hz1 hz2 rfl (by decide) _ _ _ rfl (own2.alloc _) ⟨w2.heap.size, 0, none⟩ 1 1 [.string ⟨(Lib.toUpperA sl).toArray⟩] rfl rfl (oneS_at (heap_alloc_new w2 _)) (by simp [Value.oneCell']) (by unfold maxLen; omega) (by omega) (by simp; omega) ?_
                      intro v' w3 own3 hgrow _
                      have HB3 := Lib.hid ((HB2.out.alloc hB2s _).grown hgrow (by simp; omega) (fun k hk => (own2.lt k hk).1))
                      have own4 := Lib.hid (HO.out w3 v' own3)
                      clear own2 own3 hgrow HO
                      go_wp2_with fail
                      go_roundw
                      case rel => exact ⟨1, ws ++ [sl], sl, by omega, HW.out, by go_num, by rw [HE.out], HM, H20, by omega, own4.out, HB3⟩
                      case measure => simp [intOf]; omega
                    · have hwn : ws ≠ [] := fun e => hk0 (by rw [← hwk, e]; rfl)
                      have HM := Lib.hid (fun nz : Int => show Made (ws ++ [s.data.toList]) (a ++ sg nz ++ s.data.toList) from hmd.out.next hwn hlets.out hw0)
                      have HE := Lib.hid (fun (nz : Int) (q : List UInt8) (hq : sg nz = q) => show (⟨a.toArray⟩ : ByteArray) ++ ⟨q.toArray⟩ ++ s = ⟨(a ++ sg nz ++ s.data.toList).toArray⟩ by rw [hq]; apply bytes_ext; simp)
                      have HA := Lib.hid (fun nz : Int => show (a ++ sg nz ++ s.data.toList).length ≤ 21 * (k + 1) by
                        obtain ⟨c, hc, _⟩ := sg_ok nz
                        rw [hc]; simp only [List.length_append, List.length_singleton]; omega)
                      have hn1 := hsl
                      have gk : decide ((0 : Int) < (k : Int)) = true := decide_eq_true (by omega)
                      have hsg : ∃ nz : Int, (nz = 0 ∨ nz = 1 ∨ nz = 2) ∧ ((k < m ∧ ∃ bb oo zv, B = some ⟨bb, oo, none⟩ ∧ wo.cell? ⟨bb, oo + k, none⟩ = some (.int .u8 zv) ∧ 0 ≤ zv ∧ zv ≤ 255 ∧ zv % 3 = nz) ∨ (m ≤ k ∧ nz = 0)) := by
                        by_cases hkm : k < m
                        · obtain ⟨bb, oo, hB1, hB2, hB3, hB4⟩ := nums_at HZ.out hkm
                          have hwf := wf_u8 hB4
                          exact ⟨zs.getD k 0 % 3, by omega, .inl ⟨hkm, bb, oo, _, hB1, (HB.out.cell hB2).trans hB3, hwf.1, hwf.2, rfl⟩⟩
                        · exact ⟨0, .inl rfl, .inr ⟨by omega, rfl⟩⟩
                      obtain ⟨nz, hnz, hsrc⟩ := hsg
                      have HMz := Lib.hid (HM.out nz)
                      have HAz := Lib.hid (HA.out nz)
                      have HEz := Lib.hid (HE.out nz)
                      clear hmd h20 hlets hw0 hwk hwn HM HA HE
                      generalize hgl : s.data.toList = sl at *
                      clear hgl
                      have HEz0 := HEz
                      clear HEz
                      rcases hsrc with ⟨hkm, bb, oo, zv, rfl, hcz, z0, z1, hz3⟩ | ⟨hkm, hnz0⟩
                      · have g4 : decide ((k : Int) < (m : Int)) = true := decide_eq_true (by omega)
                        rcases hnz with rfl | rfl | rfl
                        · have hsl1 := fun W => slice_str (P := Tryd.prog) Tryd.underlying9 ⟨#[32, 95, 46]⟩ 0 1 0 1 rfl rfl (by decide) (by decide) W
                          have hcut : (⟨#[32, 95, 46]⟩ : ByteArray).extract 0 1 = ⟨#[32]⟩ := by decide
                          rw [hcut] at hsl1
                          have HEz := Lib.hid (HEz0.out [32] rfl)
                          go_wp2_with (go_at_call 7; refine halt_T ?_)
                          refine resume_T ?_
                          refine (HU.out wo).mono ?_
                          rintro e w2 ⟨rfl, hb2⟩
                          have own2 := own_below hown hb2
                          have HB2 := Lib.hid (HB.out.trans (hb2.mono hBs))
                          have hB2s := HB2.out.size
                          clear hb2 hown HU hc
                          go_wp2_with (at_builtin; refine halt_T ?_)
                          refine resume_T ?_
                          refine wpList_append_own _ rfl _ _ 24 rfl w.heap.size 9 i0 (.string ⟨#[]⟩) 1 16 Tryd.underlying24 hi hz0 hz1 hz2 rfl (by decide) _ _ _ rfl (own2.alloc _) ⟨w2.heap.size, 0, none⟩ 1 1 [.string ⟨(Lib.toUpperA sl).toArray⟩] rfl rfl (oneS_at (heap_alloc_new w2 _)) (by simp [Value.oneCell']) (by unfold maxLen; omega) (by omega) (by simp; omega) ?_
                          intro v' w3 own3 hgrow _
                          have HB3 := Lib.hid ((HB2.out.alloc hB2s _).grown hgrow (by simp; omega) (fun k hk => (own2.lt k hk).1))
                          have own4 := Lib.hid (HO.out w3 v' own3)
                          clear own2 own3 hgrow HO
                          go_wp2_with fail
                          go_roundw
                          case rel => exact ⟨k + 1, ws ++ [sl], a ++ sg 0 ++ sl, by omega, HW.out, by go_num, by rw [← HEz.out], HMz, H20, HAz.out, own4.out, HB3⟩
                          case measure => simp [intOf]; omega
                        · have hsl1 := fun W => slice_str (P := Tryd.prog) Tryd.underlying9 ⟨#[32, 95, 46]⟩ 1 2 1 2 rfl rfl (by decide) (by decide) W
                          have hcut : (⟨#[32, 95, 46]⟩ : ByteArray).extract 1 2 = ⟨#[95]⟩ := by decide
                          rw [hcut] at hsl1
                          have HEz := Lib.hid (HEz0.out [95] rfl)
                          go_wp2_with (go_at_call 7; refine halt_T ?_)
                          refine resume_T ?_
                          refine (HU.out wo).mono ?_
                          rintro e w2 ⟨rfl, hb2⟩
                          have own2 := own_below hown hb2
                          have HB2 := Lib.hid (HB.out.trans (hb2.mono hBs))
                          have hB2s := HB2.out.size
                          clear hb2 hown HU hc
                          go_wp2_with (at_builtin; refine halt_T ?_)
                          refine resume_T ?_
                          refine wpList_append_own _ rfl _ _ 24 rfl w.heap.size 9 i0 (.string ⟨#[]⟩) 1 16 Tryd.underlying24 hi hz0 hz1 hz2 rfl (by decide) _ _ _ rfl (own2.alloc _) ⟨w2.heap.size, 0, none⟩ 1 1 [.string ⟨(Lib.toUpperA sl).toArray⟩] rfl rfl (oneS_at (heap_alloc_new w2 _)) (by simp [Value.oneCell']) (by unfold maxLen; omega) (by omega) (by simp; omega) ?_
                          intro v' w3 own3 hgrow _
                          have HB3 := Lib.hid ((HB2.out.alloc hB2s _).grown hgrow (by simp; omega) (fun k hk => (own2.lt k hk).1))
                          have own4 := Lib.hid (HO.out w3 v' own3)
                          clear own2 own3 hgrow HO
                          go_wp2_with fail
                          go_roundw
                          case rel => exact ⟨k + 1, ws ++ [sl], a ++ sg 1 ++ sl, by omega, HW.out, by go_num, by rw [← HEz.out], HMz, H20, HAz.out, own4.out, HB3⟩
                          case measure => simp [intOf]; omega
                        · have hsl1 := fun W => slice_str (P := Tryd.prog) Tryd.underlying9 ⟨#[32, 95, 46]⟩ 2 3 2 3 rfl rfl (by decide) (by decide) W
                          have hcut : (⟨#[32, 95, 46]⟩ : ByteArray).extract 2 3 = ⟨#[46]⟩ := by decide
                          rw [hcut] at hsl1
                          have HEz := Lib.hid (HEz0.out [46] rfl)
                          go_wp2_with (go_at_call 7; refine halt_T ?_)
                          refine resume_T ?_
                          refine (HU.out wo).mono ?_
                          rintro e w2 ⟨rfl, hb2⟩
                          have own2 := own_below hown hb2
                          have HB2 := Lib.hid (HB.out.trans (hb2.mono hBs))
                          have hB2s := HB2.out.size
                          clear hb2 hown HU hc
                          go_wp2_with (at_builtin; refine halt_T ?_)
                          refine resume_T ?_
                          refine wpList_append_own _ rfl _ _ 24 rfl w.heap.size 9 i0 (.string ⟨#[]⟩) 1 16 Tryd.underlying24 hi hz0 hz1 hz2 rfl (by decide) _ _ _ rfl (own2.alloc _) ⟨w2.heap.size, 0, none⟩ 1 1 [.string ⟨(Lib.toUpperA sl).toArray⟩] rfl rfl (oneS_at (heap_alloc_new w2 _)) (by simp [Value.oneCell']) (by unfold maxLen; omega) (by omega) (by simp; omega) ?_
                          intro v' w3 own3 hgrow _
                          have HB3 := Lib.hid ((HB2.out.alloc hB2s _).grown hgrow (by simp; omega) (fun k hk => (own2.lt k hk).1))
                          have own4 := Lib.hid (HO.out w3 v' own3)
                          clear own2 own3 hgrow HO
                          go_wp2_with fail
                          go_roundw
                          case rel => exact ⟨k + 1, ws ++ [sl], a ++ sg 2 ++ sl, by omega, HW.out, by go_num, by rw [← HEz.out], HMz, H20, HAz.out, own4.out, HB3⟩
                          case measure => simp [intOf]; omega
                      · have g4 : decide ((k : Int) < (m : Int)) = false := decide_eq_false (by omega)
                        subst hnz0
                        have hsl1 := fun W => slice_str (P := Tryd.prog) Tryd.underlying9 ⟨#[32, 95, 46]⟩ 0 1 0 1 rfl rfl (by decide) (by decide) W
                        have hcut : (⟨#[32, 95, 46]⟩ : ByteArray).extract 0 1 = ⟨#[32]⟩ := by decide
                        rw [hcut] at hsl1
                        have HEz := Lib.hid (HEz0.out [32] rfl)
                        go_wp2_with (go_at_call 7; refine halt_T ?_)
                        refine resume_T ?_
                        refine (HU.out wo).mono ?_
                        rintro e w2 ⟨rfl, hb2⟩
                        have own2 := own_below hown hb2
                        have HB2 := Lib.hid (HB.out.trans (hb2.mono hBs))
                        have hB2s := HB2.out.size
                        clear hb2 hown HU hc
                        go_wp2_with (at_builtin; refine halt_T ?_)
                        refine resume_T ?_
                        refine wpList_append_own _ rfl _ _ 24 rfl w.heap.size 9 i0 (.string ⟨#[]⟩) 1 16 Tryd.underlying24 hi hz0 hz1 hz2 rfl (by decide) _ _ _ rfl (own2.alloc _) ⟨w2.heap.size, 0, none⟩ 1 1 [.string ⟨(Lib.toUpperA sl).toArray⟩] rfl rfl (oneS_at (heap_alloc_new w2 _)) (by simp [Value.oneCell']) (by unfold maxLen; omega) (by omega) (by simp; omega) ?_
                        intro v' w3 own3 hgrow _
                        have HB3 := Lib.hid ((HB2.out.alloc hB2s _).grown hgrow (by simp; omega) (fun k hk => (own2.lt k hk).1))
                        have own4 := Lib.hid (HO.out w3 v' own3)
                        clear own2 own3 hgrow HO
                        go_wp2_with fail
                        go_roundw
                        case rel => exact ⟨k + 1, ws ++ [sl], a ++ sg 0 ++ sl, by omega, HW.out, by go_num, by rw [← HEz.out], HMz, H20, HAz.out, own4.out, HB3⟩
                        case measure => simp [intOf]; omega
                  · have g3 : decide ((20 : Int) < (s.size : Int)) = true := decide_eq_true (by omega)
                    go_wp2_with fail
                    go_ret
                    exact ⟨rfl, HB.out⟩
          · have hkn : k = n := by omega
            have hlm : (ws.map Lib.toUpperA).length = k := by rw [List.length_map]; exact hwk
            have hown' := hown
            rw [← hlm] at hown'
            obtain ⟨a1, c1, rfl, hs1⟩ := seen_of hown'
            have HSN := Lib.hid hs1
            have HH := Lib.hid (hmd.out.title wo (by omega) (HT.out.stays HB.out))
            have HJ := Lib.hid (fun W (hb : Below wo.heap.size wo W) => twJoin_any a1 c1 (ws.map Lib.toUpperA) W (by rw [hlm]; omega) (mapUp_len ws h20.out) (fun q hq => by
              obtain ⟨g, e1, e2⟩ := HSN.out q hq
              exact ⟨g, e1, (hb.cell (cell_lt e2)).trans e2⟩))
            have hBs := HB.out.size
            rw [hlm]
            rw [hlm] at HJ
            subst hkn
            clear hmd h20 hown hown' hs1 hal
            generalize hgw : ws.map Lib.toUpperA = us at *
            have es := str_same ⟨(J32 us).toArray⟩
            go_wp2_with (go_at_call 6; refine halt_T ?_)
            refine resume_T ?_
            refine HH.out.mono ?_
            rintro e w2 ⟨rfl, hb2⟩
            have HJ2 := Lib.hid (HJ.out w2 hb2)
            have HB2 := Lib.hid (HB.out.trans (hb2.mono hBs))
            clear hb2 HH HJ
            go_wp2_with (go_at_call 10; refine halt_T ?_)
            refine resume_T ?_
            refine HJ2.out.mono ?_
            rintro e w3 ⟨rfl, hw3⟩
            obtain rfl := hw3
            generalize (⟨(J32 us).toArray⟩ : ByteArray) = R at *
            go_wp2_with fail
            go_ret
            exact ⟨rfl, HB2.out⟩
      · have g1 : decide ((20 : Int) < (n : Int)) = true := decide_eq_true (by omega)
        go_wp2_with fail
        go_ret
        exact ⟨rfl, Below.refl _ _⟩
    · have g0 : decide ((2147483647 : Int) < (m : Int)) = true := decide_eq_true (by omega)
      go_wp2_with fail
      go_ret
      exact ⟨rfl, Below.refl _ _⟩
end Go.Proofs.YtebgbeahlodihaaDoor
