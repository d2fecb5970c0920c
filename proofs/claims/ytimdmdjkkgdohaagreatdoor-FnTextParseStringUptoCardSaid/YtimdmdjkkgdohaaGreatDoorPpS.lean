/- FnTextParseString: the walk of the law. At most 2097152 pieces, each of at most so many codes and bytes. -/
import Derived.Test.YtimdmdjkkgdohaaGreatDoorPpR
import Derived.Test.YtimdmdjkkgdohaaGreatDoorPsQ
import Derived.Deep.RegionHeld3
namespace Go.Proofs.YtimdmdjkkgdohaaGreatDoor
open Go.RowKit Go.MapKept
set_option linter.unusedVariables false
def Small (l : List Pc) (n : Nat) : Prop := n ≤ 2097152 ∧ ∀ j, j < n → (pc l j).n ≤ 2097152 ∧ (pc l j).s.size ≤ 2097152
theorem enc_lo (T : List Nat) (h : ∀ r ∈ T, Rn r) : T.length ≤ (enc T).length := by
  induction T with
  | nil => simp
  | cons r T ih =>
    have h1 := ih (fun x hx => h x (by simp [hx]))
    have h2 := List.length_pos_iff.2 (h r (by simp)).1
    rw [enc_cons, List.length_append, List.length_cons]
    omega
/-- A good text: what both roads need. -/
theorem good_text {l : List Pc} {n : Nat} (hl : l.length = n) (hg : GoodL l) (h0 : (written l n).length ≠ 0) :
    ∃ T cs, written l n = enc T ∧ (∀ r ∈ T, Rn r) ∧ 0 < T.length ∧ T.length ≤ 1000000 ∧ (written l n).length ≤ 1000000 ∧ Runs ⟨none, false, 0, []⟩ T ⟨cs, false, 0, []⟩ := by
  have hg' : GoodTo l n := by rw [← hl]; exact hg.1
  obtain ⟨T, h1, h2, cs, h3⟩ := written_runs l n hg'
  have h4 := (written_ok l n hg').2
  have h5 := hg.2
  have h6 := enc_lo T h2
  have h7 : 0 < T.length := by
    rcases Nat.eq_zero_or_pos T.length with h | h
    · have : T = [] := List.eq_nil_of_length_eq_zero h
      rw [h1, this] at h0
      exact absurd rfl h0
    · exact h
  rw [h1] at h4
  refine ⟨T, cs, h1, h2, h7, by omega, by rw [h1]; omega, h3⟩
theorem steps_one (w : World) (s : ByteArray) : Steps (w.alloc (.cells #[.int .i64 1, .int .i32 0, .string s] tE)) w.heap.size [(1, 0, s)] := by
  refine ⟨by simp, fun i x hx => ?_⟩
  cases i with
  | succ i => simp at hx
  | zero =>
    simp at hx
    subst hx
    have c := fun j => cell_of_row _ w.heap.size j _ tE (0, 0) (heap_alloc_new w (.cells #[.int .i64 1, .int .i32 0, .string s] tE))
    exact ⟨by rw [c]; rfl, by rw [c]; rfl, by rw [c]; rfl⟩
theorem own_lt5 {w : World} {B n g cap : Nat} {xs : List Value} (h : w.ownsRow B tS 5 (.slice (some ⟨g, 0, none⟩) n cap) n xs) : g < w.heap.size := by
  rcases h.2 with ⟨e, _⟩ | ⟨g', cap', cur, e, _, hg, _⟩
  · cases e
  · injection e with e1 _ _
    injection e1 with e1
    injection e1 with e1 _
    subst e1
    exact (Array.getElem?_eq_some_iff.1 hg).1
theorem below3p {w a b : World} (h : Below w.heap.size w a) (k : Below a.heap.size a b) : Below w.heap.size w b := h.trans (k.mono h.size)
/-- The cells of the last state. -/
theorem last_cells {w : World} {B n g cap : Nat} {xs : List Value} {p : PS} (h : w.ownsRow B tS 5 (.slice (some ⟨g, 0, none⟩) (n + 1) cap) (n + 1) xs) (hl : Lst w B (n + 1) xs p) :
    ∃ A L c td, w.cell? ⟨g, n * 5, none⟩ = some (.bool p.e) ∧ w.cell? ⟨g, n * 5 + 1, none⟩ = some (.bool (opn p.cs)) ∧ w.cell? ⟨g, n * 5 + 2, none⟩ = some (.slice A L c) ∧ w.cell? ⟨g, n * 5 + 3, none⟩ = some (.string ⟨(seqR (p.cs.getD [])).toArray⟩) ∧ w.cell? ⟨g, n * 5 + 4, none⟩ = some (.string td) ∧
      w.ownsRow B tI 1 (.slice A L c) L ((srt (p.cs.getD [])).map (Value.int .i64)) ∧ (srt (p.cs.getD [])).length = L := by
  rcases hl with ⟨h0, _⟩ | ⟨_, ys, cv, td, hx, hcv⟩
  · omega
  · obtain ⟨A, L, c, rfl, hL, _, _⟩ := own_sliceB hcv
    have hy : ys.length = n * 5 := by
      have := h.1
      rw [hx, List.length_append] at this
      simp at this
      omega
    have cc := fun j u (hu : ([.bool p.e, .bool (opn p.cs), .slice A L c, .string ⟨(seqR (p.cs.getD [])).toArray⟩, .string td] : List Value)[j]? = some u) => h.cells (g := g) rfl (n * 5 + j) u (by
      rw [hx, List.getElem?_append_right (by omega), hy, Nat.add_sub_cancel_left]; exact hu)
    refine ⟨A, L, c, td, ?_, ?_, ?_, ?_, ?_, by rw [hL] at hcv; exact hcv, hL⟩
    · have := cc 0 _ rfl
      rwa [Addr.add_lit, Nat.zero_add, Nat.add_zero] at this
    · have := cc 1 _ rfl
      rwa [Addr.add_lit, Nat.zero_add] at this
    · have := cc 2 _ rfl
      rwa [Addr.add_lit, Nat.zero_add] at this
    · have := cc 3 _ rfl
      rwa [Addr.add_lit, Nat.zero_add] at this
    · have := cc 4 _ rfl
      rwa [Addr.add_lit, Nat.zero_add] at this
set_option maxHeartbeats 2000000 in
set_option maxRecDepth 100000 in
theorem lawPs (A : Option Addr) (n cap : Nat) (l : List Pc) (w : World) (h : PcArg w w.heap.size A n cap l) (hsm : Small l n) (hT : Pows w) (hS : Spaces w) :
    Calls Tryz.prog 3 #[.slice A n cap] w fun e w' => e = .returned (.bool true) ∧ Below w.heap.size w w' := by
  have H1 := Lib.hid (fits15_any A n cap l w h)
  have hln := Lib.hid h.2.1
  have HG := Lib.hid (fun W (hb : Below w.heap.size w W) => good_any A n cap l W ((h.below hb).more hb.size))
  have W1 := Lib.hid (fun W (hb : Below w.heap.size w W) => written_big A n cap l w.heap.size W hb.size (h.below hb) hsm.2 hsm.1 (hT.stays hb))
  have HS := Lib.hid hS
  clear h hT hS hsm
  go_enter Tryz.func3, Tryz.ntmps3
  go_wp2_with (go_at_call 4; refine halt_H ?_)
  refine resume_H ?_
  refine H1.out.mono ?_
  rintro e w1 ⟨b1, rfl, hb1, -⟩
  have B1 := Lib.hid hb1
  clear hb1 H1
  cases b1 with
  | false =>
    go_wp2_with fail
    go_ret
    exact ⟨rfl, B1.out⟩
  | true =>
    go_wp2_with (go_at_call 5; refine halt_H ?_)
    refine resume_H ?_
    refine (W1.out w1 B1.out).mono ?_
    rintro e w2 ⟨rfl, hb2⟩
    have B2 := Lib.hid (below3p B1.out hb2)
    clear hb2 W1 B1
    go_wp2_with (go_at_call 6; refine halt_H ?_)
    refine resume_H ?_
    refine (HG.out w2 B2.out).mono ?_
    rintro e w3 ⟨b3, rfl, hb3, hg⟩
    have B3 := Lib.hid (below3p B2.out hb3)
    have G := Lib.hid hg
    clear hb3 hg HG B2
    cases b3 with
    | false =>
      go_wp2_with fail
      go_ret
      exact ⟨rfl, B3.out⟩
    | true =>
      by_cases h0 : (written l n).length = 0
      · have he : (written l n).isEmpty = true := by rw [List.isEmpty_iff]; exact List.eq_nil_of_length_eq_zero h0
        clear h0
        go_wp2_with fail
        go_ret
        exact ⟨rfl, B3.out⟩
      · have he := emp_l h0
        obtain ⟨T, cs, hT1, hT2, hT3, hT4, hT5, hT6⟩ := good_text hln.out (G.out rfl) h0
        have hsd : (⟨(written l n).toArray⟩ : ByteArray).data.toList = enc T := by rw [← hT1]
        have hsz : (⟨(written l n).toArray⟩ : ByteArray).size ≤ 1000000 := by rw [mk_size]; exact hT5
        have P1 := Lib.hid (fun W (hb : Below w.heap.size w W) => parsed_any (pf := ⟨cs, false, 0, []⟩) (steps_one W ⟨(written l n).toArray⟩) rfl (by simp) (cap := 1) ⟨Nat.le_refl _, by unfold maxLen; omega⟩ (Spaces.stays (Spaces.stays HS.out hb) ((Below.refl _ W).alloc (Nat.le_refl _) _)) (.cons (.all hsd hT2 hsz hT6) .nil))
        have P2 := Lib.hid (fun W => txSteps_any (w := W) hsd hT2 hsz hT3)
        have P3 := Lib.hid (fun W g cap (hb : Below w.heap.size w W) (hst : Steps W g (stps T)) (hc : T.length ≤ cap ∧ cap ≤ maxLen) => parsed_any (pf := ⟨cs, false, 0, []⟩) hst (by simp [stps]) hT4 hc (HS.out.stays hb) (stps_sxs hT6))
        obtain ⟨s, hs⟩ : ∃ s, (⟨(written l n).toArray⟩ : ByteArray) = s := ⟨_, rfl⟩
        have hse : s.toList.isEmpty = false := by rw [← hs, Lib.toList_data]; exact he
        rw [hs] at P1 P2 ⊢
        clear h0 hT1 hT2 hT5 hT6 hsd hsz hs he G
        go_wp2_with (go_at_call 7; refine halt_H ?_)
        refine resume_H ?_
        refine (P1.out w3 B3.out).mono ?_
        rintro e w4 ⟨g4, cap4, xs4, rfl, hc41, hc42, hO4, hL4, hb4⟩
        obtain ⟨A4, L4, c4, td4, x40, x41, x42, x43, x44, x4r, x4l⟩ := last_cells (n := 0) hO4 hL4
        have hw34 : Below w3.heap.size w3 (w3.alloc (.cells #[.int .i64 1, .int .i32 0, .string s] tE)) := (Below.refl _ w3).alloc (Nat.le_refl _) _
        have B4 := Lib.hid (below3p (below3p B3.out hw34) hb4)
        have HO4 := Lib.hid hO4
        have HX4 := Lib.hid (And.intro x40 (And.intro x41 (And.intro x42 (And.intro x43 x44))))
        have HR4 := Lib.hid (And.intro x4r x4l)
        have hM4 : cap4 ≤ 9223372036854775807 := hc42
        clear hc42 hO4 hL4 hb4 x40 x41 x42 x43 x44 x4r x4l hw34 P1 B3
        go_wp2_with (go_at_call 8; refine halt_H ?_)
        refine resume_H ?_
        refine (P2.out w4).mono ?_
        rintro e w5 ⟨g5, cap5, rfl, hc51, hc52, hst5, hb5⟩
        have B5 := Lib.hid (below3p B4.out hb5)
        have HT3 := P3.out w5 g5 cap5 B5.out hst5 ⟨hc51, hc52⟩
        have HB45 := Lib.hid hb5
        clear hst5 hb5 P2 P3 hc52
        obtain ⟨N, hN⟩ : ∃ N, T.length = N + 1 := ⟨T.length - 1, by omega⟩
        rw [hN] at HT3 hc51 hT4 ⊢
        go_wp2_with (go_at_call 7; refine halt_H ?_)
        refine resume_H ?_
        refine HT3.mono ?_
        rintro e w6 ⟨g6, cap6, xs6, rfl, hc61, hc62, hO6, hL6, hb6⟩
        obtain ⟨A6, L6, c6, td6, x60, x61, x62, x63, x64, x6r, x6l⟩ := last_cells (n := N) hO6 hL6
        have HB46 := Lib.hid (HB45.out.trans (hb6.mono HB45.out.size))
        have B6 := Lib.hid (below3p B5.out hb6)
        have hM6 : cap6 ≤ 9223372036854775807 := hc62
        have hg4 : g4 < w4.heap.size := own_lt5 HO4.out
        have y : ∀ j, w6.cell? ⟨g4, j, none⟩ = w4.cell? ⟨g4, j, none⟩ := fun j => HB46.out.cell (p := ⟨g4, j, none⟩) hg4
        obtain ⟨x40, x41, x42, x43, x44⟩ := HX4.out
        rw [← y] at x40 x41 x42 x43 x44
        have HR6 := Lib.hid (And.intro x6r x6l)
        have HR46 := Lib.hid (own_below HR4.out.1 HB46.out (Nat.le_refl _))
        obtain ⟨bo, hbo⟩ : ∃ bo, opn cs = bo := ⟨_, rfl⟩
        simp only at x40 x41 x43 x60 x61 x63
        rw [hbo] at x41 x61
        obtain ⟨q, hq⟩ : ∃ q, (⟨(seqR (cs.getD [])).toArray⟩ : ByteArray) = q := ⟨_, rfl⟩
        rw [hq] at x43 x63
        simp only [Nat.zero_mul, Nat.zero_add] at x40 x41 x42 x43 x44
        have e1 : (q.toList == q.toList) = true := beq_self_eq_true _
        have n60 := World.new_ne _ _ x60
        have n40 := World.new_ne _ _ x40
        have j0 : (0 : Int) ≤ (N : Int) := by omega
        have jw : IntKind.i64.wrap (N : Int) = (N : Int) := IntWalk.i64_in _ (by omega)
        have j1 : (N : Int) < (N : Int) + 1 := by omega
        obtain rfl : L4 = L6 := HR4.out.2.symm.trans HR6.out.2
        have HAl := Lib.hid (fun W (hb : Below w6.heap.size w6 W) => alike_any (w := W) (own_below HR46.out hb (Nat.le_refl _)) (own_below HR6.out.1 hb (Nat.le_refl _)) HR4.out.2)
        clear hc62 hO6 hL6 hb6 x6r x6l y HX4 HT3 hN hbo hq hg4
        go_wp2_with fail
        go_region_held3 (fun w' => w'.cell? ⟨g4, 0, none⟩ = some (.bool false) ∧ w'.cell? ⟨g4, 1, none⟩ = some (.bool bo) ∧ w'.cell? ⟨g4, 2, none⟩ = some (.slice A4 L4 c4) ∧ w'.cell? ⟨g4, 3, none⟩ = some (.string q) ∧ w'.cell? ⟨g4, 4, none⟩ = some (.string td4) ∧ w'.cell? ⟨g6, N * 5, none⟩ = some (.bool false) ∧ w'.cell? ⟨g6, N * 5 + 1, none⟩ = some (.bool bo) ∧ w'.cell? ⟨g6, N * 5 + 2, none⟩ = some (.slice A6 L4 c6) ∧ w'.cell? ⟨g6, N * 5 + 3, none⟩ = some (.string q) ∧ w'.cell? ⟨g6, N * 5 + 4, none⟩ = some (.string td6)) (go_keep) (fail)
        all_goals
          go_wp2_with (go_at_call 9; refine halt_H ?_)
          refine resume_H ?_
          have hbl := fun (o1 o2 : Obj) => ((Below.refl w6.heap.size w6).alloc (Nat.le_refl _) o1).alloc (by simp) o2
          refine (HAl.out _ (by first | exact (hbl _ _).drew | exact hbl _ _)).mono ?_
          rintro e w7 ⟨rfl, rfl⟩
          go_wp2_with fail
          go_ret
          exact ⟨rfl, below3p B6.out (by first | exact (hbl _ _).drew | exact hbl _ _ | exact (hbl _ _).drew.drew)⟩
end Go.Proofs.YtimdmdjkkgdohaaGreatDoor
