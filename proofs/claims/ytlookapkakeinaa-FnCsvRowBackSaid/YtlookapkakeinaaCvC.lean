/- One row in CSV: the walk of csvRenderRow, at a table that asks for no index and no protection. Rows of at most 2000 bytes. -/
import Derived.Test.YtlookapkakeinaaCvP
import Derived.Test.YtlookapkakeinaaBld
import Derived.WalkLawsBesides
namespace Go.Proofs.Ytlookapkakeinaa
open Go.RowKit
set_option linter.unusedVariables false
theorem halt_V {p : Prop} (h : Hid p) : p := h
theorem resume_V {p : Prop} (h : p) : Hid p := h
theorem Bld.keep {B b : Nat} {l : List UInt8} {w w' : World} (h : Bld B b l w) (hb : Below w.heap.size w w') : Bld B b l w' := by
  have hg : w.grownBy w' none := ⟨hb.os, hb.tape, hb.output, hb.size, fun k hk _ => hb.block k hk⟩
  rcases h with h | h
  · have hlt := h.lt
    obtain ⟨hB, v, hk, hown, hne⟩ := h
    exact .inl ⟨hB, v, (hb.block _ hlt).trans hk, hown.kept hg (by cases hv : v.ownBlock <;> simp), hne⟩
  · have hlt := h.lt
    obtain ⟨hB, v, hk, hown, hne⟩ := h
    exact .inr ⟨hB, v, (hb.block _ hlt).trans hk, hown.kept hg (by cases hv : v.ownBlock <;> simp), hne⟩
theorem Bld.lt' {B b : Nat} {l : List UInt8} {w : World} (h : Bld B b l w) : b < w.heap.size := h.elim (fun x => x.lt) (fun x => x.lt)
theorem rc_any (s : ByteArray) (w : World) (hs : s.size ≤ 1000000) : Calls Try.prog 21 #[.string s] w fun e w' => e = .returned (.int .i64 (Lib.runeCount s)) ∧ Below w.heap.size w w' := by
  refine (Try.utf8_RuneCountInString s w (by omega)).mono ?_
  rintro e w' ⟨rfl, pos, rfl⟩
  exact ⟨rfl, (Below.refl _ _).alloc (Nat.le_refl _) _⟩
theorem rc_pos (s : ByteArray) (h : 0 < s.size) : 0 < Lib.runeCount s := by
  unfold Lib.runeCount
  obtain ⟨m, hm⟩ : ∃ m, s.size = m + 1 := ⟨s.size - 1, by omega⟩
  rw [hm]
  rw [Lib.runeCountFrom, if_pos (by omega)]
  omega
theorem put_44 (b : Nat) (l : List UInt8) (w : World) (h : Bld b b l w) (hlen : l.length ≤ 1000000) : Calls Try.prog 14 #[.pointer (some ⟨b, 0, none⟩), .int .i32 44] w fun e w' => e = .returned (.tuple #[.int .i64 1, .nilIface]) ∧ Hid (Bld b b (l ++ [44]) w' ∧ Below b w w') :=
  (wr_rune b b l 44 (by decide) w h (by omega) (by have := h.lt'; omega)).mono (by rintro e w' ⟨rfl, h1, h2, _⟩; exact ⟨rfl, Lib.hid ⟨h1, h2⟩⟩)
theorem put_34 (b : Nat) (l : List UInt8) (w : World) (h : Bld b b l w) (hlen : l.length ≤ 1000000) : Calls Try.prog 14 #[.pointer (some ⟨b, 0, none⟩), .int .i32 34] w fun e w' => e = .returned (.tuple #[.int .i64 1, .nilIface]) ∧ Hid (Bld b b (l ++ [34]) w' ∧ Below b w w') :=
  (wr_rune b b l 34 (by decide) w h (by omega) (by have := h.lt'; omega)).mono (by rintro e w' ⟨rfl, h1, h2, _⟩; exact ⟨rfl, Lib.hid ⟨h1, h2⟩⟩)
theorem put_text (b : Nat) (l : List UInt8) (s : ByteArray) (w : World) (h : Bld b b l w) (hlen : l.length + s.size ≤ 1000000) : Calls Try.prog 16 #[.pointer (some ⟨b, 0, none⟩), .string s] w fun e w' => e = .returned (.tuple #[.int .i64 s.size, .nilIface]) ∧ Hid (Bld b b (l ++ s.data.toList) w' ∧ Below b w w') :=
  (wr_text b b l s w h (by omega) (by have := h.lt'; omega)).mono (by rintro e w' ⟨rfl, h1, h2, _⟩; exact ⟨rfl, Lib.hid ⟨h1, h2⟩⟩)
theorem size_zero {s : ByteArray} (h : ¬ 0 < s.size) : s.data.toList = [] := List.eq_nil_of_length_eq_zero (by rw [← Lib.size_eq]; omega)
theorem bare_of {s : ByteArray} (h : ∀ j (hj : j < s.size), ¬ spec3 (s[j]'hj).toNat) : bare s.data.toList := by
  intro b hb
  obtain ⟨j, hj, rfl⟩ := List.getElem_of_mem hb
  have hj' : j < s.size := by rw [Lib.size_eq]; exact hj
  have h1 := h j hj'
  have e : s[j] = s.data.toList[j] := rfl
  rw [e] at h1
  refine ⟨fun x => h1 ?_, fun x => h1 ?_, fun x => h1 ?_⟩ <;> rw [x] <;> unfold spec3 <;> decide
theorem tot_at (ss : List ByteArray) (n k : Nat) (hk : k < n) (h : tot ss n ≤ 2000) : (ss.getD k ByteArray.empty).size ≤ 2000 := by
  have := tot_le ss (k + 1) n hk
  simp only [tot] at this
  omega
def hintV : Value := .agg #[.bool false, .bool false, .bool false, .bool false, .bool false, .bool false, .bool false, .bool false, .bool false, .bool false, .bool false, .int .i64 0, .int .i64 0, .int .i64 0]
/-- What the walk reads of the table. -/
structure Tab (w : World) (b tb st n : Nat) : Prop where
  below_t : tb < b
  below_s : st < b
  auto : w.cell? ⟨tb, 1, none⟩ = some (.bool false)
  cols : w.cell? ⟨tb, 14, none⟩ = some (.int .i64 n)
  sty : w.cell? ⟨tb, 39, none⟩ = some (.pointer (some ⟨st, 0, none⟩))
  prot : w.cell? ⟨st, 27, none⟩ = some (.bool false)
theorem Tab.keep {w w' : World} {b tb st n : Nat} (h : Tab w b tb st n) (hb : Below b w w') : Tab w' b tb st n :=
  ⟨h.below_t, h.below_s, (hb.cell h.below_t).trans h.auto, (hb.cell h.below_t).trans h.cols, (hb.cell h.below_t).trans h.sty, (hb.cell h.below_s).trans h.prot⟩
set_option maxHeartbeats 4000000 in
set_option maxRecDepth 100000 in
theorem row_any (A : Option Addr) (n cap tb st b : Nat) (ss : List ByteArray) (w : World) (hr : Row w b A n (ss.map Value.string)) (hn : n ≤ 2000) (ht : tot ss n ≤ 2000) (hT : Tab w b tb st n) (hbd : Bld b b [] w) :
    Calls Try.prog 11 #[.pointer (some ⟨tb, 0, none⟩), .pointer (some ⟨b, 0, none⟩), .slice A n cap, hintV] w fun e w' => e = .returned (.tuple #[]) ∧ ∃ l, Wrote ss n l ∧ Bld b b l w' ∧ Below b w w' := by
  have hlt := hbd.lt'
  have HW := fun k => (⟨_, rfl⟩ : ∃ s, s = ss.getD k ByteArray.empty)
  have HC := Lib.hid (fun k (hk : k < n) (W : World) (hb : Below b w W) => show ∃ bb o, A = some ⟨bb, o, none⟩ ∧ bb < b ∧ W.cell? ⟨bb, o + k, none⟩ = some (.string (ss.getD k ByteArray.empty)) by
    obtain ⟨bb, o, u, hA, hb1, hx, hc⟩ := hr.at_ hk
    have hl : k < ss.length := by have := hr.1; rw [List.length_map] at this; omega
    rw [List.getElem?_map, List.getElem?_eq_getElem hl] at hx
    simp only [Option.map_some, Option.some.injEq] at hx
    refine ⟨bb, o, hA, hb1, (hb.cell hb1).trans ?_⟩
    rw [hc, ← hx, List.getD_eq_getElem?_getD, List.getElem?_eq_getElem hl]; rfl)
  have HS := Lib.hid (fun k (hk : k < n) => tot_at ss n k hk ht)
  have HL := Lib.hid (fun k (hk : k ≤ n) (l : List UInt8) (h : Wrote ss k l) => show l.length ≤ 6000 by have := h.len; have := tot_le ss k n hk; omega)
  have HN := Lib.hid (show Calls Try.prog 13 #[.pointer (some ⟨b, 0, none⟩)] (w.alloc (.cells hintV.cells 91)) fun e w' => e = .returned (.int .i64 0) ∧ w' = w.alloc (.cells hintV.cells 91) from wr_len b b [] _ (hbd.keep ((Below.refl _ _).alloc (Nat.le_refl _) _)))
  have HB0 := Lib.hid (show Below b w (w.alloc (.cells hintV.cells 91)) from (Below.refl _ _).alloc (by omega) _)
  have HBd0 := Lib.hid (hbd.keep ((Below.refl _ _).alloc (Nat.le_refl _) (.cells hintV.cells 91)))
  have HT := Lib.hid hT
  clear hr ht hT hbd HW
  unfold hintV at *
  go_enter Try.func11, Try.ntmps11
  go_wp2_with (go_at_call 13; refine HN.out.mono ?_; rintro e w1 ⟨rfl, rfl⟩)
  go_loopw [18] (fun i wr => ∃ (k : Nat) (l : List UInt8), k ≤ n ∧ i = .int .i64 k ∧ Hid (Wrote ss k l) ∧ Hid (Bld b b l wr) ∧ Hid (Below b w wr)) (fun i _ => n - (intOf i).toNat)
  case atStart => exact ⟨0, [], Nat.zero_le _, rfl, Lib.hid (Wrote.nil ss), HBd0, HB0⟩
  case round =>
    obtain ⟨k, l, hk, rfl, hw, hbl, HB⟩ := hrel
    obtain ⟨wo, rfl⟩ : ∃ wo : World, wo = wr := ⟨_, rfl⟩
    by_cases hlt : k < n
    · obtain ⟨bb, o, rfl, hbb, hc⟩ := HC.out k hlt wo HB.out
      have hs := HS.out k hlt
      have hlen := HL.out k hk l hw.out
      have T0 := HT.out.keep HB.out
      have HE0 := Lib.hid (fun (c : List UInt8) (h : k = 0) (he : Enc (ss.getD k ByteArray.empty).data.toList c) => show Wrote ss (k + 1) (l ++ c) by subst h; exact hw.out.first he)
      have HE1 := Lib.hid (fun (c : List UInt8) (h : 0 < k) (he : Enc (ss.getD k ByteArray.empty).data.toList c) => show Wrote ss (k + 1) (l ++ [44] ++ c) from hw.out.next h he)
      generalize hsd : ss.getD k ByteArray.empty = s at *
      have a0 := T0.auto; have s0 := T0.sty; have p0 := T0.prot
      clear hw hsd T0
      by_cases hk0 : k = 0
      · subst hk0
        have hc0 : wo.cell? ⟨bb, o, none⟩ = some (.string s) := by simpa using hc
        go_wp2_with (go_at_call 19; refine halt_V ?_)
        refine resume_V ?_
        refine (has_any s _ (by omega)).mono ?_
        rintro e w2 ⟨q, rfl, hb2, hq⟩
        have HQ := Lib.hid hq
        have HB2 := Lib.hid (HB.out.trans (hb2.mono (Nat.le_of_lt (hbl.out.lt'))))
        have hbl2 := Lib.hid (hbl.out.keep hb2)
        clear hq hb2 hbl HB
        cases q with
        | true =>
          go_wp2_with (go_at_call 14; refine halt_V ?_)
          refine resume_V ?_
          refine (put_34 b l _ hbl2.out (by omega)).mono ?_
          rintro e w3 ⟨rfl, h3⟩
          have HB3 := Lib.hid (HB2.out.trans h3.out.2)
          have hbl3 := Lib.hid h3.out.1
          clear h3 hbl2 HB2
          go_wp2_with (go_at_call 20; refine halt_V ?_)
          refine resume_V ?_
          refine (esc_any s _ _ (by omega)).mono ?_
          rintro e w4 ⟨rfl, hb4⟩
          have HB4 := Lib.hid (HB3.out.trans (hb4.mono (Nat.le_of_lt (hbl3.out.lt'))))
          have hbl4 := Lib.hid (hbl3.out.keep hb4)
          have hd : (⟨(rep [34] [34, 34] s.data.toList).toArray⟩ : ByteArray).data.toList = dbl s.data.toList := by rw [rep_dbl]
          have hdl : (⟨(rep [34] [34, 34] s.data.toList).toArray⟩ : ByteArray).size ≤ 4000 := by rw [Lib.size_eq, hd]; have := dbl_len s.data.toList; have := Lib.size_eq s; omega
          generalize (⟨(rep [34] [34, 34] s.data.toList).toArray⟩ : ByteArray) = d at *
          clear hb4 hbl3 HB3
          go_wp2_with (go_at_call 16; refine halt_V ?_)
          refine resume_V ?_
          refine (put_text b (l ++ [34]) d _ hbl4.out (by rw [List.length_append, List.length_singleton]; omega)).mono ?_
          rintro e w5 ⟨rfl, h5⟩
          have HB5 := Lib.hid (HB4.out.trans h5.out.2)
          have hbl5 := Lib.hid h5.out.1
          clear h5 hbl4 HB4
          have hll : d.data.toList.length ≤ 4000 := by rw [← Lib.size_eq]; exact hdl
          go_wp2_with (go_at_call 14; refine halt_V ?_)
          refine resume_V ?_
          refine (put_34 b (l ++ [34] ++ d.data.toList) _ hbl5.out (by rw [List.length_append, List.length_append, List.length_singleton]; omega)).mono ?_
          rintro e w6 ⟨rfl, h6⟩
          have HB6 := Lib.hid (HB5.out.trans h6.out.2)
          have hbl6 := Lib.hid (show Bld b b (l ++ (34 :: (dbl s.data.toList ++ [34]))) w6 by have := h6.out.1; rw [hd] at this; simpa using this)
          clear h6 hbl5 HB5
          go_wp2_with fail
          go_roundw
          case rel => exact ⟨0 + 1, _, by omega, by go_num, Lib.hid (HE0.out _ trivial (.inl rfl)), hbl6, HB6⟩
          case measure => simp [intOf]; omega
        | false =>
          have hbare := Lib.hid (bare_of (HQ.out rfl))
          go_wp2_with (go_at_call 21; refine halt_V ?_)
          refine resume_V ?_
          refine (rc_any s _ (by omega)).mono ?_
          rintro e w3 ⟨rfl, hb3⟩
          have HB3 := Lib.hid (HB2.out.trans (hb3.mono (Nat.le_of_lt (hbl2.out.lt'))))
          have hbl3 := Lib.hid (hbl2.out.keep hb3)
          clear hb3 hbl2 HB2
          by_cases hz : 0 < s.size
          · have hc1 := rc_pos s hz
            have hc2 : decide ((0 : Int) < ((Lib.runeCount s : Nat) : Int)) = true := decide_eq_true (by omega)
            generalize Lib.runeCount s = rc at *
            go_wp2_with (go_at_call 16; refine halt_V ?_)
            refine resume_V ?_
            refine (put_text b l s _ hbl3.out (by omega)).mono ?_
            rintro e w5 ⟨rfl, h5⟩
            have HB5 := Lib.hid (HB3.out.trans h5.out.2)
            have hbl5 := Lib.hid h5.out.1
            clear h5 hbl3 HB3
            go_wp2_with fail
            go_roundw
            case rel => exact ⟨0 + 1, _, by omega, by go_num, Lib.hid (HE0.out _ trivial (.inr ⟨rfl, hbare.out⟩)), hbl5, HB5⟩
            case measure => simp [intOf]; omega
          · have hc1 : Lib.runeCount s = 0 := by have := Lib.runeCount_le s; omega
            rw [hc1]
            have hbl4 := Lib.hid (show Bld b b (l ++ s.data.toList) w3 by rw [size_zero hz, List.append_nil]; exact hbl3.out)
            go_wp2_with fail
            go_roundw
            case rel => exact ⟨0 + 1, _, by omega, by go_num, Lib.hid (HE0.out _ trivial (.inr ⟨rfl, hbare.out⟩)), hbl4, HB3⟩
            case measure => simp [intOf]; omega
      · have k0 : ((k : Int) == 0) = false := by rw [beq_eq_false_iff_ne]; omega
        have k1 : decide ((0 : Int) < (k : Int)) = true := decide_eq_true (by omega)
        go_wp2_with (go_at_call 14; refine halt_V ?_)
        refine resume_V ?_
        refine (put_44 b l _ hbl.out (by omega)).mono ?_
        rintro e w1 ⟨rfl, h1⟩
        have HB1 := Lib.hid (HB.out.trans h1.out.2)
        have hbl1 := Lib.hid h1.out.1
        have T1 := HT.out.keep HB1.out
        have s1 := T1.sty; have p1 := T1.prot
        have hlen1 : (l ++ [44]).length ≤ 6001 := by rw [List.length_append, List.length_singleton]; omega
        clear h1 T1 hbl HB a0 s0 p0 hc
        generalize l ++ [44] = l1 at *
        go_wp2_with (go_at_call 19; refine halt_V ?_)
        refine resume_V ?_
        refine (has_any s _ (by omega)).mono ?_
        rintro e w2 ⟨q, rfl, hb2, hq⟩
        have HQ := Lib.hid hq
        have HB2 := Lib.hid (HB1.out.trans (hb2.mono (Nat.le_of_lt (hbl1.out.lt'))))
        have hbl2 := Lib.hid (hbl1.out.keep hb2)
        clear hq hb2 hbl1 HB1
        cases q with
        | true =>
          go_wp2_with (go_at_call 14; refine halt_V ?_)
          refine resume_V ?_
          refine (put_34 b l1 _ hbl2.out (by omega)).mono ?_
          rintro e w3 ⟨rfl, h3⟩
          have HB3 := Lib.hid (HB2.out.trans h3.out.2)
          have hbl3 := Lib.hid h3.out.1
          clear h3 hbl2 HB2
          go_wp2_with (go_at_call 20; refine halt_V ?_)
          refine resume_V ?_
          refine (esc_any s _ _ (by omega)).mono ?_
          rintro e w4 ⟨rfl, hb4⟩
          have HB4 := Lib.hid (HB3.out.trans (hb4.mono (Nat.le_of_lt (hbl3.out.lt'))))
          have hbl4 := Lib.hid (hbl3.out.keep hb4)
          have hd : (⟨(rep [34] [34, 34] s.data.toList).toArray⟩ : ByteArray).data.toList = dbl s.data.toList := by rw [rep_dbl]
          have hdl : (⟨(rep [34] [34, 34] s.data.toList).toArray⟩ : ByteArray).size ≤ 4000 := by rw [Lib.size_eq, hd]; have := dbl_len s.data.toList; have := Lib.size_eq s; omega
          generalize (⟨(rep [34] [34, 34] s.data.toList).toArray⟩ : ByteArray) = d at *
          clear hb4 hbl3 HB3
          go_wp2_with (go_at_call 16; refine halt_V ?_)
          refine resume_V ?_
          refine (put_text b (l1 ++ [34]) d _ hbl4.out (by rw [List.length_append, List.length_singleton]; omega)).mono ?_
          rintro e w5 ⟨rfl, h5⟩
          have HB5 := Lib.hid (HB4.out.trans h5.out.2)
          have hbl5 := Lib.hid h5.out.1
          clear h5 hbl4 HB4
          have hll : d.data.toList.length ≤ 4000 := by rw [← Lib.size_eq]; exact hdl
          go_wp2_with (go_at_call 14; refine halt_V ?_)
          refine resume_V ?_
          refine (put_34 b (l1 ++ [34] ++ d.data.toList) _ hbl5.out (by rw [List.length_append, List.length_append, List.length_singleton]; omega)).mono ?_
          rintro e w6 ⟨rfl, h6⟩
          have HB6 := Lib.hid (HB5.out.trans h6.out.2)
          have hbl6 := Lib.hid (show Bld b b (l1 ++ (34 :: (dbl s.data.toList ++ [34]))) w6 by have := h6.out.1; rw [hd] at this; simpa using this)
          clear h6 hbl5 HB5
          go_wp2_with fail
          go_roundw
          case rel => exact ⟨k + 1, _, by omega, by go_num, Lib.hid (HE1.out _ (by omega) (.inl rfl)), hbl6, HB6⟩
          case measure => simp [intOf]; omega
        | false =>
          have hbare := Lib.hid (bare_of (HQ.out rfl))
          go_wp2_with (go_at_call 21; refine halt_V ?_)
          refine resume_V ?_
          refine (rc_any s _ (by omega)).mono ?_
          rintro e w3 ⟨rfl, hb3⟩
          have HB3 := Lib.hid (HB2.out.trans (hb3.mono (Nat.le_of_lt (hbl2.out.lt'))))
          have hbl3 := Lib.hid (hbl2.out.keep hb3)
          clear hb3 hbl2 HB2
          by_cases hz : 0 < s.size
          · have hc1 := rc_pos s hz
            have hc2 : decide ((0 : Int) < ((Lib.runeCount s : Nat) : Int)) = true := decide_eq_true (by omega)
            generalize Lib.runeCount s = rc at *
            go_wp2_with (go_at_call 16; refine halt_V ?_)
            refine resume_V ?_
            refine (put_text b l1 s _ hbl3.out (by omega)).mono ?_
            rintro e w5 ⟨rfl, h5⟩
            have HB5 := Lib.hid (HB3.out.trans h5.out.2)
            have hbl5 := Lib.hid h5.out.1
            clear h5 hbl3 HB3
            go_wp2_with fail
            go_roundw
            case rel => exact ⟨k + 1, _, by omega, by go_num, Lib.hid (HE1.out _ (by omega) (.inr ⟨rfl, hbare.out⟩)), hbl5, HB5⟩
            case measure => simp [intOf]; omega
          · have hc1 : Lib.runeCount s = 0 := by have := Lib.runeCount_le s; omega
            rw [hc1]
            have hbl4 := Lib.hid (show Bld b b (l1 ++ s.data.toList) w3 by rw [size_zero hz, List.append_nil]; exact hbl3.out)
            go_wp2_with fail
            go_roundw
            case rel => exact ⟨k + 1, _, by omega, by go_num, Lib.hid (HE1.out _ (by omega) (.inr ⟨rfl, hbare.out⟩)), hbl4, HB3⟩
            case measure => simp [intOf]; omega
    · have e : k = n := by omega
      subst e
      have t14 := (HT.out.keep HB.out).cols
      go_wp2_with fail
      go_loop [10] (fun i => i = .int .i64 k) (fun _ => 0)
      case atStart => rfl
      case round =>
        subst hrel
        go_wp2_with fail
        go_end0
        exact ⟨rfl, l, hw.out, hbl.out, HB.out⟩
end Go.Proofs.Ytlookapkakeinaa
