/- The text of the codes that are on: Sequence. Good texts alone. -/
import Derived.Test.YtimdmdjkkgdohaaGreatDoorPpK
import Derived.Test.YtimdmdjkkgdohaaGreatDoorBldR
namespace Go.Proofs.YtimdmdjkkgdohaaGreatDoor
open Go.RowKit Go.MapKept
set_option linter.unusedVariables false
theorem Bld.keep {B b : Nat} {l : List UInt8} {w w' : World} (h : Bld B b l w) (hb : Below w.heap.size w w') : Bld B b l w' := by
  have hg : w.grownBy w' none := ⟨hb.os, hb.tape, hb.output, hb.size, fun k hk _ => hb.block k hk⟩
  rcases h with h | h
  · have hlt := h.lt
    obtain ⟨hB, v, hk, hown, hne⟩ := h
    exact .inl ⟨hB, v, (hb.block _ hlt).trans hk, hown.kept hg (by cases hv : v.ownBlock <;> simp), hne⟩
  · have hlt := h.lt
    obtain ⟨hB, v, hk, hown, hne⟩ := h
    exact .inr ⟨hB, v, (hb.block _ hlt).trans hk, hown.kept hg (by cases hv : v.ownBlock <;> simp), hne⟩
theorem Bld.lt' {B b : Nat} {l : List UInt8} {w : World} (h : Bld B b l w) : b < w.heap.size := h.elim (fun x => x.lt) (fun x => x.lt)
theorem own_bk {w w' : World} {B' b n : Nat} {v : Value} {xs : List Value} (h : w.ownsRow B' tI 1 v n xs) (hk : BKept b w w') (hb : b < B') : w'.ownsRow B' tI 1 v n xs := by
  refine ⟨h.1, ?_⟩
  rcases h.2 with h0 | ⟨g, cap, cur, hv, hBg, r, r2⟩
  · exact .inl h0
  · refine .inr ⟨g, cap, cur, hv, hBg, hk g _ r (fun e => ?_) (fun c fz e => ?_), r2⟩
    · injection e with e; omega
    · injection e with _ e; exact absurd e (by decide)
def sT (s : List Int) : Nat → List UInt8
  | 0 => [27, 91]
  | k + 1 => sT s k ++ (if k = 0 then [] else [59]) ++ decL (s.getD k 0).toNat
theorem decL_len (n : Nat) : (decL n).length ≤ 3 := by
  unfold decL
  split
  · simp
  · split <;> simp
theorem sT_len (s : List Int) : ∀ k, (sT s k).length ≤ 2 + 4 * k
  | 0 => by simp [sT]
  | k + 1 => by
    have h1 := sT_len s k
    have h2 := decL_len (s.getD k 0).toNat
    rw [sT, List.length_append, List.length_append]
    have : (if k = 0 then ([] : List UInt8) else [59]).length ≤ 1 := by split <;> simp
    omega
/-- The text of the codes that are on. -/
def seqR (l : List Int) : List UInt8 := if l.length = 0 then [] else sT (srt l) (srt l).length ++ [109]
theorem opn_len (cs : Option (List Int)) : opn cs = decide (0 < (cs.getD []).length) := by cases cs <;> rfl
theorem srt_len (l : List Int) : (srt l).length = l.length := List.length_mergeSort _
theorem srt_ok {l : List Int} (h : CsOk l) (k : Nat) (hk : k < (srt l).length) : ∃ m : Nat, (srt l).getD k 0 = m ∧ m ≤ 107 := by
  have h1 : (srt l).getD k 0 ∈ l := by
    rw [List.getD_eq_getElem?_getD, List.getElem?_eq_getElem hk]
    exact (List.mergeSort_perm l _).mem_iff.1 (List.getElem_mem hk)
  have := attr_le (h.2 _ h1)
  exact ⟨((srt l).getD k 0).toNat, by omega, by omega⟩
def TextRet (q : List UInt8) (w : World) (e : Ending) (w' : World) : Prop := e = .returned (.string ⟨q.toArray⟩) ∧ Below w.heap.size w w'
theorem own_cellI {w : World} {B g n cap : Nat} {s : List Int} (h : w.ownsRow B tI 1 (.slice (some ⟨g, 0, none⟩) n cap) n (s.map (Value.int .i64))) (k : Nat) (hk : k < s.length) : w.cell? ⟨g, k, none⟩ = some (.int .i64 (s.getD k 0)) := by
  have e : (s.map (Value.int .i64))[k]? = some (.int .i64 (s.getD k 0)) := by
    rw [List.getElem?_map, List.getD_eq_getElem?_getD, List.getElem?_eq_getElem hk]; rfl
  have := h.cells (g := g) rfl k _ e
  rwa [Addr.add_lit, Nat.zero_add] at this
set_option maxHeartbeats 2000000 in
set_option maxRecDepth 100000 in
theorem sequence_any {w : World} {B b : Nat} {m v : Value} {p : PS} (h : PSt w B b m v p) (hk : CsOk (p.cs.getD [])) : Calls Tryz.prog 20 #[.pointer (some ⟨b, 0, none⟩)] w (TextRet (seqR (p.cs.getD [])) w) := by
  have hW1 : Below w.heap.size w (w.alloc (.cells #[.pointer none, .slice none 0 0] 62)) := (Below.refl _ w).alloc (Nat.le_refl _) _
  have hI := isOpen_any (h.below hW1 (Nat.le_refl _))
  rw [opn_len] at hI
  have HB1 := Lib.hid (bld_fresh w)
  have HW1 := Lib.hid hW1
  have HC := Lib.hid (fun W (hb : Below w.heap.size w W) => codes_any (h.below hb (Nat.le_refl _)) hk)
  have HK := Lib.hid hk
  have h108 := hk.len
  have hbw := h.blk.lt
  clear h hk hW1
  generalize p.cs.getD [] = l at *
  by_cases hl : l.length = 0
  · have e0 : decide (0 < l.length) = false := decide_eq_false (by omega)
    rw [e0] at hI
    have HR := Lib.hid (show seqR l = [] from if_pos hl)
    have hS := Tryz.Builder_String_any_f w.heap.size w.heap.size [] _ HB1.out (by simp)
    clear hl e0
    go_enter Tryz.func20, Tryz.ntmps20
    go_wp2_with (go_at_call 18; refine halt_H ?_)
    refine resume_H ?_
    refine hI.mono ?_
    rintro e w2 ⟨rfl, rfl⟩
    clear hI
    go_wp2_with (go_at_call 32; refine halt_H ?_)
    refine resume_H ?_
    refine hS.mono ?_
    rintro e w3 ⟨rfl, _, hb3⟩
    have HW3 := Lib.hid (HW1.out.trans hb3)
    clear hS hb3
    go_wp2
    go_ret
    exact ⟨by rw [HR.out]; rfl, HW3.out⟩
  · have e0 : decide (0 < l.length) = true := decide_eq_true (by omega)
    rw [e0] at hI
    have HR := Lib.hid (show seqR l = sT (srt l) (srt l).length ++ [109] from if_neg hl)
    have hn0 : 0 < (srt l).length := by rw [srt_len]; omega
    have hn108 : (srt l).length ≤ 108 := by rw [srt_len]; exact h108
    have HSo := Lib.hid (srt_ok HK.out)
    have hT := wr_text w.heap.size w.heap.size [] ⟨#[27, 91]⟩ _ HB1.out (by decide) (by simp)
    clear hl e0 h108
    go_enter Tryz.func20, Tryz.ntmps20
    go_wp2_with (go_at_call 18; refine halt_H ?_)
    refine resume_H ?_
    refine hI.mono ?_
    rintro e w2 ⟨rfl, rfl⟩
    clear hI
    go_wp2_with (go_at_call 29; refine halt_H ?_)
    refine resume_H ?_
    refine hT.mono ?_
    rintro e w3 ⟨rfl, hB3, hb3, _⟩
    have HB3 := Lib.hid (show Bld w.heap.size w.heap.size (sT (srt l) 0) w3 from hB3)
    have HW3 := Lib.hid (HW1.out.trans hb3)
    have hlt3 := HB3.out.lt'
    clear hT hB3 hb3
    have hC := HC.out w3 HW3.out
    go_wp2_with (go_at_call 19; refine halt_H ?_)
    refine resume_H ?_
    refine hC.mono ?_
    rintro e w4 ⟨v4, rfl, ho4, hb4, _⟩
    have HB4 := Lib.hid (HB3.out.keep hb4)
    have HW4 := Lib.hid (HW3.out.trans (hb4.mono HW3.out.size))
    obtain ⟨g, cap, rfl, hc1, hc2⟩ := own_some ho4 hn0
    have hM : cap ≤ 9223372036854775807 := hc2
    have HO4 := Lib.hid ho4
    obtain ⟨s, hs⟩ : ∃ s, srt l = s := ⟨_, rfl⟩
    obtain ⟨n, hn⟩ : ∃ n, s.length = n := ⟨_, rfl⟩
    rw [hs, hn] at HO4 HR hn0 hn108 hc1 ⊢
    rw [hs] at HB4 HSo
    rw [hn] at HSo
    have HN := Lib.hid hn
    obtain ⟨B4, hB4⟩ : ∃ B4, w3.heap.size = B4 := ⟨_, rfl⟩
    rw [hB4] at HO4 hlt3
    clear hC ho4 hb4 hc2 hn hs HB3 HW3 HC HK hB4
    go_wp2_with fail
    go_loopw [17] (fun iv wr => ∃ k : Nat, iv = .int .i64 (k : Int) ∧ k ≤ n ∧ Hid (Bld w.heap.size w.heap.size (sT s k) wr) ∧ Hid (wr.ownsRow B4 tI 1 (.slice (some ⟨g, 0, none⟩) n cap) n (s.map (Value.int .i64))) ∧ Hid (Below w.heap.size w wr)) (fun iv _ => n - (intOf iv).toNat)
    case atStart => exact ⟨0, rfl, by omega, HB4, HO4, HW4⟩
    case round =>
      clear HB4 HO4 HW4
      obtain ⟨k, rfl, hkn, HB, HO, HW⟩ := hrel
      obtain ⟨wr, rfl⟩ : ∃ wz : World, wz = wr := ⟨_, rfl⟩
      have hlen := sT_len s k
      have hws := HW.out.size
      by_cases hlt : k < n
      · have f0 := own_cellI HO.out k (by rw [HN.out]; exact hlt)
        obtain ⟨c, hc, hc107⟩ := HSo.out k hlt
        rw [hc] at f0
        have HSt := Lib.hid (show sT s (k + 1) = sT s k ++ (if k = 0 then [] else [59]) ++ decL c by rw [sT, hc]; rfl)
        have hIt := fun W => itoaX_any c W (by omega)
        have hdl := decL_len c
        clear hc
        by_cases hk0 : k = 0
        · subst hk0
          rw [if_pos rfl, List.append_nil] at HSt
          go_wp2_with (go_at_call 31; refine halt_H ?_)
          refine resume_H ?_
          refine (hIt _).mono ?_
          rintro e w5 ⟨rfl, hb5⟩
          have HB5 := Lib.hid (HB.out.keep hb5)
          have HO5 := Lib.hid (own_below HO.out hb5 (Nat.le_refl _))
          have HW5 := Lib.hid (HW.out.trans (hb5.mono hws))
          have hT := wr_text w.heap.size w.heap.size _ ⟨(decL c).toArray⟩ w5 HB5.out (by rw [mk_size]; omega) HW5.out.size
          clear hIt hb5 f0
          go_wp2_with (go_at_call 29; refine halt_H ?_)
          refine resume_H ?_
          refine hT.mono ?_
          rintro e w6 ⟨rfl, hB6, hb6, hk6⟩
          have HB6 := Lib.hid (show Bld w.heap.size w.heap.size (sT s (0 + 1)) w6 by rw [HSt.out]; exact hB6)
          have HO6 := Lib.hid (own_bk HO5.out hk6 hlt3)
          have HW6 := Lib.hid (HW5.out.trans hb6)
          clear hT hB6 hb6 hk6
          go_wp2_with fail
          go_roundw
          case rel => exact ⟨0 + 1, by go_num, by omega, HB6, HO6, HW6⟩
          case measure => simp [intOf]; omega
        · have hkp : 0 < k := by omega
          rw [if_neg hk0] at HSt
          have hT : Calls Tryz.prog 30 #[.pointer (some ⟨w.heap.size, 0, none⟩), .int .i32 59] wr _ := wr_rune w.heap.size w.heap.size _ 59 (by decide) wr HB.out (by omega) hws
          clear hk0
          go_wp2_with (go_at_call 30; refine halt_H ?_)
          refine resume_H ?_
          refine hT.mono ?_
          rintro e w5 ⟨rfl, hB5, hb5, hk5⟩
          have HB5 := Lib.hid hB5
          have HO5 := Lib.hid (own_bk HO.out hk5 hlt3)
          have HW5 := Lib.hid (HW.out.trans hb5)
          clear hT hB5 hb5 hk5 f0
          go_wp2_with (go_at_call 31; refine halt_H ?_)
          refine resume_H ?_
          refine (hIt _).mono ?_
          rintro e w6 ⟨rfl, hb6⟩
          have HB6 := Lib.hid (HB5.out.keep hb6)
          have HO6 := Lib.hid (own_below HO5.out hb6 (Nat.le_refl _))
          have HW6 := Lib.hid (HW5.out.trans (hb6.mono HW5.out.size))
          have hT := wr_text w.heap.size w.heap.size _ ⟨(decL c).toArray⟩ w6 HB6.out (by rw [mk_size, List.length_append]; simp; omega) HW6.out.size
          clear hIt hb6
          go_wp2_with (go_at_call 29; refine halt_H ?_)
          refine resume_H ?_
          refine hT.mono ?_
          rintro e w7 ⟨rfl, hB7, hb7, hk7⟩
          have HB7 := Lib.hid (show Bld w.heap.size w.heap.size (sT s (k + 1)) w7 by rw [HSt.out]; exact hB7)
          have HO7 := Lib.hid (own_bk HO6.out hk7 hlt3)
          have HW7 := Lib.hid (HW6.out.trans hb7)
          clear hT hB7 hb7 hk7
          go_wp2_with fail
          go_roundw
          case rel => exact ⟨k + 1, by go_num, by omega, HB7, HO7, HW7⟩
          case measure => simp [intOf]; omega
      · have HKn := Lib.hid (show k = n by omega)
        have hT := wr_text w.heap.size w.heap.size _ ⟨#[109]⟩ wr HB.out (by show _ + 1 ≤ _; omega) hws
        go_wp2_with (go_at_call 29; refine halt_H ?_)
        refine resume_H ?_
        refine hT.mono ?_
        rintro e w6 ⟨rfl, hB6, hb6, hk6⟩
        have HW6 := Lib.hid (HW.out.trans hb6)
        have hS := Tryz.Builder_String_any_f w.heap.size w.heap.size _ w6 hB6 HW6.out.size
        clear hT hb6 hk6
        go_wp2_with (go_at_call 32; refine halt_H ?_)
        refine resume_H ?_
        refine hS.mono ?_
        rintro e w7 ⟨rfl, _, hb7⟩
        have HW7 := Lib.hid (HW6.out.trans hb7)
        clear hS hb7 hB6
        go_wp2
        go_ret
        exact ⟨by rw [HR.out, ← HKn.out]; rfl, HW7.out⟩
end Go.Proofs.YtimdmdjkkgdohaaGreatDoor
