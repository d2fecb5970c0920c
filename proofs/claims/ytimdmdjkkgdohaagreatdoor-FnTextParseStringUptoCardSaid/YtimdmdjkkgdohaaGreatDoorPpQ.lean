/- The steps of a text, character by character: txSteps. Good texts alone. -/
import Derived.Test.YtimdmdjkkgdohaaGreatDoorPpO
namespace Go.Proofs.YtimdmdjkkgdohaaGreatDoor
open Go.RowKit Go.MapKept
open Go.Lib (encodeRune decodeL decodeN)
set_option linter.unusedVariables false
abbrev tE : TypeId := 29
theorem infoE : (Tryz.prog.info? tE).map (fun i => (i.zero, i.size, i.bytes)) = some (some (.agg #[.int .i64 0, .int .i32 0, .string ⟨#[]⟩]), 3, 32) := by kernel_rfl
def st3 (r : Nat) : List Value := [.int .i64 0, .int .i32 (r : Int), .string ⟨#[]⟩]
def stps (T : List Nat) : List (Int × Int × ByteArray) := T.map fun (r : Nat) => ((0 : Int), ((r : Int), (⟨#[]⟩ : ByteArray)))
theorem flat3 : ∀ (T : List Nat) (i j : Nat) (r : Nat), T[i]? = some r → j < 3 → (T.flatMap st3)[i * 3 + j]? = (st3 r)[j]?
  | [], i, j, r, h, _ => by simp at h
  | a :: T, 0, j, r, h, hj => by
    simp at h
    subst h
    rw [List.flatMap_cons, List.getElem?_append_left (by simp [st3]; omega)]
    simp
  | a :: T, i + 1, j, r, h, hj => by
    rw [List.flatMap_cons, List.getElem?_append_right (by simp [st3]; omega)]
    have : (i + 1) * 3 + j - (st3 a).length = i * 3 + j := by simp [st3]; omega
    rw [this]
    exact flat3 T i j r (by simpa using h) hj
theorem flat3_len (T : List Nat) : (T.flatMap st3).length = T.length * 3 := by
  induction T with
  | nil => rfl
  | cons a T ih => rw [List.flatMap_cons, List.length_append, ih]; simp [st3]; omega
theorem steps_own {w : World} {B g n cap : Nat} {T : List Nat} (h : w.ownsRow B tE 3 (.slice (some ⟨g, 0, none⟩) n cap) n (T.flatMap st3)) : Steps w g (stps T) := by
  refine ⟨?_, fun i x hx => ?_⟩
  · rcases h.2 with ⟨e, _⟩ | ⟨g', cap', cur, e, _, hg, _⟩
    · cases e
    · injection e with e1 _ _
      injection e1 with e1
      injection e1 with e1 _
      subst e1
      exact (Array.getElem?_eq_some_iff.1 hg).1
  · unfold stps at hx
    rw [List.getElem?_map, Option.map_eq_some_iff] at hx
    obtain ⟨r, hr, rfl⟩ := hx
    have c := fun j u (hj : j < 3) (hu : (st3 r)[j]? = some u) => h.cells (g := g) rfl (i * 3 + j) u ((flat3 T i j r hr hj).trans hu)
    refine ⟨?_, ?_, ?_⟩
    · have := c 0 _ (by decide) rfl
      rwa [Addr.add_lit, Nat.zero_add, Nat.add_zero] at this
    · have := c 1 _ (by decide) rfl
      rwa [Addr.add_lit, Nat.zero_add] at this
    · have := c 2 _ (by decide) rfl
      rwa [Addr.add_lit, Nat.zero_add] at this
theorem own_it {w : World} {B n k : Nat} {v : Value} {xs : List Value} {s : ByteArray} {pos : Nat} {t : TypeId} {size : Nat} (h : w.ownsRow B t size v n xs) (hk : w.heap[k]? = some (.stringIter s pos)) : some k ≠ v.ownBlock := itNe h hk
def StepsRet (T : List Nat) (w : World) (e : Ending) (w' : World) : Prop := ∃ g cap, e = .returned (.slice (some ⟨g, 0, none⟩) T.length cap) ∧ T.length ≤ cap ∧ cap ≤ maxLen ∧ Steps w' g (stps T) ∧ Below w.heap.size w w'
theorem own_some3 {w : World} {B n : Nat} {v : Value} {xs : List Value} {t : TypeId} {size : Nat} (h : w.ownsRow B t size v n xs) (h0 : 0 < n) : ∃ g cap, v = .slice (some ⟨g, 0, none⟩) n cap ∧ n ≤ cap ∧ cap ≤ maxLen := by
  rcases h.2 with ⟨_, hz⟩ | ⟨g, cap, cur, e, hb, hg, h3, h4, _⟩
  · omega
  · exact ⟨g, cap, e, h3, h4⟩
set_option maxHeartbeats 2000000 in
set_option maxRecDepth 100000 in
theorem txSteps_any {w : World} {T : List Nat} {s : ByteArray} (hT : s.data.toList = enc T) (hr : ∀ r ∈ T, Rn r) (hs : s.size ≤ 1000000) (h0 : 0 < T.length) :
    Calls Tryz.prog 8 #[.string s] w (StepsRet T w) := by
  obtain ⟨i0, hi0, hz0, hz1, hz2⟩ := info_parts infoE
  have HT := Lib.hid hT
  have HR := Lib.hid hr
  have hsz : s.size = (enc T).length := by rw [Lib.size_eq, hT]
  have HZ := Lib.hid hsz
  clear hT hr hsz
  go_enter Tryz.func8, Tryz.ntmps8
  go_wp2_with fail
  go_loopw [3] (fun ov wr => ∃ (A C : List Nat) (pos N : Nat), Hid (T = A ++ C) ∧ Hid (pos = (enc A).length) ∧ Hid (A.length = N) ∧ N ≤ pos ∧ pos ≤ s.size ∧ wr.heap[w.heap.size]? = some (.stringIter s pos) ∧ wr.ownsRow w.heap.size tE 3 ov N (A.flatMap st3) ∧ Hid (Below w.heap.size w wr)) (fun _ wr => s.size - wr.iterPos w.heap.size)
  case atStart => exact ⟨[], T, 0, 0, Lib.hid rfl, Lib.hid rfl, Lib.hid rfl, Nat.le_refl _, Nat.zero_le _, heap_alloc_new w _, World.ownsRow_nil _ _ _ _, Lib.hid ((Below.refl _ w).alloc (Nat.le_refl _) _)⟩
  case round =>
    obtain ⟨A, C, pos, N, hAC, hpA, hNA, hNp, hps, hit, hO, HB⟩ := hrel
    obtain ⟨wo, rfl⟩ : ∃ wo : World, wo = wr := ⟨_, rfl⟩
    have hpos := itPos hit
    have hBs := HB.out.size
    cases C with
    | nil =>
      have hpe : pos = s.size := by rw [HZ.out, hAC.out, List.append_nil, hpA.out]
      have hnx : ∀ ty, (Instr.next (.pointer (some ⟨w.heap.size, 0, none⟩)) true ty).run Tryz.prog wo = _ := fun ty => Lib.run_next_end_at wo w.heap.size s pos ty hit (by omega)
      have hTA : T = A := by rw [hAC.out, List.append_nil]
      have hN0 : 0 < N := by rw [← hNA.out, ← hTA]; exact h0
      obtain ⟨g, cap, rfl, hc1, hc2⟩ := own_some3 hO hN0
      have HS := Lib.hid (show Steps wo g (stps T) by rw [hTA]; exact steps_own hO)
      have HL := Lib.hid (show T.length = N by rw [hTA]; exact hNA.out)
      have HC := Lib.hid (And.intro hc1 hc2)
      clear hit hpos hO hAC hpA hTA hc1 hc2
      go_wp2_with fail
      go_ret
      rw [← HL.out]
      exact ⟨g, cap, rfl, by rw [HL.out]; exact HC.out.1, HC.out.2, HS.out, HB.out⟩
    | cons r C =>
      have hdrop : s.data.toList.drop pos = encodeRune (r : Int) ++ enc C := by
        rw [HT.out, hAC.out, enc_app, enc_cons, hpA.out, List.drop_left]
      have hRr := HR.out r (by rw [hAC.out]; simp)
      have hdec : Utf8.decode s pos = (r, (encodeRune (r : Int)).length) := by rw [decode_drop, hdrop]; exact hRr.2 _
      have hlen : s.size = pos + (encodeRune (r : Int)).length + (enc C).length := by
        rw [HZ.out, hAC.out, enc_app, enc_cons, List.length_append, List.length_append, ← hpA.out]; omega
      have hw1 : 1 ≤ (encodeRune (r : Int)).length := List.length_pos_iff.2 hRr.1
      have hnx : ∀ ty, (Instr.next (.pointer (some ⟨w.heap.size, 0, none⟩)) true ty).run Tryz.prog wo = _ := fun ty => Lib.run_next_any_at wo w.heap.size s pos ty hit (by omega)
      rw [hdec] at hnx
      have hit2 := Lib.iterAt_heap wo w.heap.size s pos (pos + (encodeRune (r : Int)).length) hit
      have HAC2 := Lib.hid (show T = (A ++ [r]) ++ C by rw [hAC.out]; simp)
      have HP2 := Lib.hid (show pos + (encodeRune (r : Int)).length = (enc (A ++ [r])).length by rw [enc_app, List.length_append, enc_cons, ← hpA.out]; simp [enc])
      have HO2 := Lib.hid (itOwn hO hit (pos + (encodeRune (r : Int)).length))
      have HB2 := Lib.hid (Lib.below_iterAt HB.out (Nat.le_refl _) s (pos + (encodeRune (r : Int)).length))
      have HN2 := Lib.hid (show (A ++ [r]).length = N + 1 by rw [List.length_append, hNA.out]; rfl)
      generalize hW : wo.iterAt w.heap.size s (pos + (encodeRune (r : Int)).length) = W at *
      generalize (encodeRune (r : Int)).length = wd at *
      clear hit hAC hpA hNA hdrop hRr hdec hO HB hW hBs
      have hBs := HB2.out.size
      obtain ⟨A1, cap1, rfl⟩ := own_slice HO2.out
      go_wp2_with (at_builtin; refine halt_H ?_)
      refine resume_H ?_
      refine wpList_append_own_wide _ rfl _ _ 30 rfl w.heap.size tE i0 (.agg #[.int .i64 0, .int .i32 0, .string ⟨#[]⟩]) 3 32 Tryz.underlying30 hi0 hz0 hz1 hz2 rfl (by decide) _ N _ rfl (HO2.out.alloc _) ⟨W.heap.size, 0, none⟩ 1 1 [.int .i64 0, .int .i32 (r : Int), .string ⟨#[]⟩] rfl rfl (five_at (heap_alloc_new W _)) (by simp [Value.oneCell']) (by unfold maxLen; omega) (by omega) (by simp; omega) ?_
      intro v' w3 hown1 hgrow _
      have hb3 : Below W.heap.size W (W.alloc (.cells #[.int .i64 0, .int .i32 (r : Int), .string ⟨#[]⟩] tE)) := (Below.refl _ W).alloc (Nat.le_refl _) _
      have hit3 : w3.heap[w.heap.size]? = some (.stringIter s (pos + wd)) := (hgrow.block w.heap.size (by simp; have := it_lt hit2; omega) (itNe (HO2.out.alloc _) ((hb3.block w.heap.size (it_lt hit2)).trans hit2))).trans ((hb3.block w.heap.size (it_lt hit2)).trans hit2)
      have HB3 := Lib.hid ((HB2.out.alloc hBs _).grown hgrow (by simp; omega) (fun k hk => (HO2.out.lt k hk).1))
      have hpos3 := itPos hit3
      have hO3 : w3.ownsRow w.heap.size tE 3 v' (N + 1) ((A ++ [r]).flatMap st3) := by
        rw [List.flatMap_append]
        exact hown1
      obtain ⟨g3, cap3, rfl, _, _⟩ := own_some3 hO3 (by omega)
      clear hown1 hgrow hb3 hit2 HO2
      go_wp2_with fail
      go_roundw
      case rel => exact ⟨A ++ [r], C, pos + wd, N + 1, HAC2, HP2, HN2, by omega, by omega, hit3, hO3, HB3⟩
      case measure => rw [hpos3, hpos]; omega
theorem stps_sxs {p pf : PS} {T : List Nat} (h : Runs p T pf) : Sxs p (stps T) pf := by
  induction h with
  | nil => exact .nil
  | cons hs _ ih => exact .cons (.one hs) ih
end Go.Proofs.YtimdmdjkkgdohaaGreatDoor
