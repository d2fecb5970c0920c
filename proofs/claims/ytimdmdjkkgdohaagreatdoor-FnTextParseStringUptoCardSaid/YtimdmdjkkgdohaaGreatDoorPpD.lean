/- The codes of a sequence: divided, trimmed, none of 256 colors. Good sequences alone. -/
import Derived.Test.YtimdmdjkkgdohaaGreatDoorPpC
import Derived.Lib.Space
namespace Go.Proofs.YtimdmdjkkgdohaaGreatDoor
open Go.RowKit Go.MapKept
set_option linter.unusedVariables false
/-- Pieces with semicolons between. -/
def jn : List (List UInt8) → List UInt8
  | [] => []
  | [a] => a
  | a :: b :: r => a ++ 59 :: jn (b :: r)
theorem sp_jn : ∀ (ps : List (List UInt8)) (f : Nat), ps ≠ [] → (∀ p ∈ ps, (59 : UInt8) ∉ p) → ps.length ≤ f + 1 → spF [59] f (jn ps) = ps
  | [], _, h, _, _ => absurd rfl h
  | [a], f, _, h, _ => spF_none _ _ _ (idx_one_none 59 a (h a (by simp)) [])
  | a :: b :: r, f, _, h, hl => by
    obtain ⟨f, rfl⟩ : ∃ g, f = g + 1 := ⟨f - 1, by simp at hl; omega⟩
    have h1 := idx_at a 59 (jn (b :: r)) (h a (by simp))
    rw [jn, spF_some _ _ _ _ h1]
    have e1 : (a ++ 59 :: jn (b :: r)).take a.length = a := by simp
    have e2 : (a ++ 59 :: jn (b :: r)).drop (a.length + ([59] : List UInt8).length) = jn (b :: r) := by
      rw [List.drop_append]
      simp
    rw [e1, e2, sp_jn (b :: r) f (by simp) (fun p hp => h p (by simp [hp])) (by simp at hl ⊢; omega)]
def pcs (zs : List Int) (n : Nat) : List (List UInt8) := (List.range n).map fun i => Lib.itoa (zs.getD i 0)
theorem pcs_len (zs : List Int) (n : Nat) : (pcs zs n).length = n := by simp [pcs]
theorem pcs_at (zs : List Int) (n i : Nat) (h : i < n) : (pcs zs n)[i]? = some (Lib.itoa (zs.getD i 0)) := by simp [pcs, h]
theorem mid_jn (zs : List Int) (n : Nat) (h0 : 0 < n) (h4 : n ≤ 4) : mid zs n = jn (pcs zs n) := by
  have : n = 1 ∨ n = 2 ∨ n = 3 ∨ n = 4 := by omega
  rcases this with rfl | rfl | rfl | rfl <;> simp [mid, pcs, jn, List.range_succ]
theorem jn_len : ∀ ps : List (List UInt8), (∀ p ∈ ps, 1 ≤ p.length) → ps.length ≤ (jn ps).length + 1
  | [], _ => by simp
  | [a], _ => by simp
  | a :: b :: r, h => by
    have := jn_len (b :: r) (fun p hp => h p (by simp [hp]))
    have := h a (by simp)
    simp [jn] at *
    omega
theorem pcs_ok {zs : List Int} {N n : Nat} (h : ∀ i, i < n → cdB N (zs.getD i 0)) : ∀ p ∈ pcs zs n, Digs p := by
  intro p hp
  obtain ⟨i, hi, rfl⟩ := List.mem_map.1 hp
  exact (digs_itoa (h i (List.mem_range.1 hi))).1
theorem sp_mid {zs : List Int} {N n : Nat} (h : ∀ i, i < n → cdB N (zs.getD i 0)) (h0 : 0 < n) (h4 : n ≤ 4) : sp [59] (mid zs n) = pcs zs n := by
  unfold sp
  rw [mid_jn zs n h0 h4]
  refine sp_jn _ _ (fun e => ?_) (fun p hp hm => ?_) ?_
  · have := pcs_len zs n
    rw [e] at this; simp at this; omega
  · have := (pcs_ok h p hp).1 59 hm
    simp at this
  · exact jn_len _ (fun p hp => (pcs_ok h p hp).2.1)
abbrev Spaces (w : World) : Prop := Lib.TabIs Tryz.prog w "strings.asciiSpace" .u8 Lib.asciiSpaceTab
theorem gSpaces : Tryz.prog.globalNamed "strings.asciiSpace" = some 0 := by kernel_rfl
theorem Spaces.stays {w w' : World} (h : Spaces w) (hb : Below w.heap.size w w') : Spaces w' := Go.Joins.tab_stays gSpaces h hb (Nat.le_refl _)
theorem Spaces.staysB {w w' : World} {B : Nat} (h : Spaces w) (hb : Below B w w') (hB : w.heap.size ≤ B) : Spaces w' := h.stays (hb.mono hB)
theorem trim_none (l : List UInt8) (h : ∀ b ∈ l, Lib.isSp b = false) : Lib.trimSpace l = l := by
  have h1 : ∀ l : List UInt8, (∀ b ∈ l, Lib.isSp b = false) → l.dropWhile Lib.isSp = l := fun l h => by
    cases l with
    | nil => rfl
    | cons a l => rw [List.dropWhile_cons, if_neg (by rw [h a (List.mem_cons_self ..)]; decide)]
  unfold Lib.trimSpace
  rw [h1 l h, h1 l.reverse (fun b hb => h b (List.mem_reverse.1 hb)), List.reverse_reverse]
theorem dig_sp {b : UInt8} (h : 48 ≤ b.toNat ∧ b.toNat ≤ 57) : Lib.isSp b = false := by
  have : ∀ c : Fin 256, 48 ≤ c.val ∧ c.val ≤ 57 → Lib.isSp (UInt8.ofNat c.val) = false := by decide +kernel
  have e := this ⟨b.toNat, b.toNat_lt⟩ h
  simpa using e
theorem trimD (l : List UInt8) (w : World) (hd : Digs l) (hT : Spaces w) : Calls Tryz.prog 49 #[.string ⟨l.toArray⟩] w fun e w' => e = .returned (.string ⟨l.toArray⟩) ∧ Below w.heap.size w w' := by
  refine (Tryz.strings_TrimSpace ⟨l.toArray⟩ w (by rw [mk_size]; have := hd.2.2; omega) (fun j b hj => ?_) hT).mono ?_
  · have := hd.1 b (List.mem_of_getElem? hj)
    omega
  · rintro e w' ⟨rfl, rfl⟩
    have e1 : (⟨l.toArray⟩ : ByteArray).data.toList = l := by simp
    rw [e1, trim_none _ (fun b h => dig_sp (hd.1 b h))]
    exact ⟨rfl, Go.Joins.below_bytesWorld _ _ _ _ (Nat.le_refl _)⟩
abbrev tStr : TypeId := 9
/-- What is stored again changes nothing. -/
theorem own_again {w : World} {B g n cap : Nat} {xs : List Value} {j : Nat} {x : Value} (h : w.ownsRow B tStr 1 (.slice (some ⟨g, 0, none⟩) n cap) n xs) (hj : xs[j]? = some x) : (w.setCell ⟨g, j, none⟩ x).ownsRow B tStr 1 (.slice (some ⟨g, 0, none⟩) n cap) n xs := by
  rcases h.2 with ⟨e, _⟩ | ⟨g', cap', cur, e, hb, hg, h3, h4, h5, h6⟩
  · cases e
  · injection e with e1 _ e3
    injection e1 with e1
    injection e1 with e1 _
    subst e1 e3
    refine ⟨h.1, .inr ⟨g, cap, cur.setIfInBounds j x, rfl, hb, heap_setCell_same w g j cur tStr x hg, h3, h4, by simpa using h5, ?_⟩⟩
    rw [Array.toList_setIfInBounds, List.take_set, h6]
    apply List.ext_getElem?
    intro i
    rw [List.getElem?_set]
    split
    · rename_i e; subst e
      rw [hj]
      have := (List.getElem?_eq_some_iff.1 hj).1
      simp [this]
    · rfl
theorem own_cellS {w : World} {B g n cap : Nat} {xs : List Value} {j : Nat} {x : Value} (h : w.ownsRow B tStr 1 (.slice (some ⟨g, 0, none⟩) n cap) n xs) (hj : xs[j]? = some x) : w.cell? ⟨g, j, none⟩ = some x := by
  have := h.cells (g := g) rfl j x hj
  rwa [Addr.add_lit, Nat.zero_add] at this
theorem own_frozen {w : World} {B g n cap : Nat} {xs : List Value} (h : w.ownsRow B tStr 1 (.slice (some ⟨g, 0, none⟩) n cap) n xs) (j : Nat) : w.frozen? ⟨g, j, none⟩ = false ∧ B ≤ g := by
  rcases h.2 with ⟨e, _⟩ | ⟨g', cap', cur, e, hb, hg, _⟩
  · cases e
  · injection e with e1 _ e3
    injection e1 with e1
    injection e1 with e1 _
    subst e1
    exact ⟨by simp [World.frozen?, hg], hb⟩
theorem own_some {w : World} {B n : Nat} {v : Value} {xs : List Value} {t : TypeId} (h : w.ownsRow B t 1 v n xs) (h0 : 0 < n) : ∃ g cap, v = .slice (some ⟨g, 0, none⟩) n cap ∧ n ≤ cap ∧ cap ≤ maxLen := by
  rcases h.2 with ⟨_, hz⟩ | ⟨g, cap, cur, e, hb, hg, h3, h4, _⟩
  · omega
  · exact ⟨g, cap, e, h3, h4⟩
def PcsRet (zs : List Int) (n : Nat) (w : World) (e : Ending) (w' : World) : Prop := ∃ g cap, e = .returned (.slice (some ⟨g, 0, none⟩) n cap) ∧ n ≤ cap ∧ cap ≤ maxLen ∧ w'.ownsRow w.heap.size tStr 1 (.slice (some ⟨g, 0, none⟩) n cap) n ((pcs zs n).map strV) ∧ Below w.heap.size w w'
set_option maxHeartbeats 1000000 in
set_option maxRecDepth 100000 in
theorem splitTrim_any (a : Value) (zs : List Int) (N n : Nat) (w : World) (h : ∀ i, i < n → cdB N (zs.getD i 0)) (h0 : 0 < n) (h4 : n ≤ 4) (hT : Spaces w) :
    Calls Tryz.prog 39 #[a, .string ⟨(mid zs n).toArray⟩] w (PcsRet zs n w) := by
  have hS := split_T ⟨(mid zs n).toArray⟩ ⟨#[59]⟩ w (by decide) (by decide) (by rw [mk_size]; have := (mid_dgs zs N n h).2; omega)
  have e1 : (⟨(mid zs n).toArray⟩ : ByteArray).data.toList = mid zs n := by simp
  have e2 : (⟨#[59]⟩ : ByteArray).data.toList = [59] := rfl
  rw [e1, e2, sp_mid h h0 h4] at hS
  generalize (mid zs n).toArray = X at *
  have HT := Lib.hid hT
  have HD := Lib.hid (fun i (hi : i < n) => (digs_itoa (h i hi)).1)
  have HA := Lib.hid (fun i (hi : i < n) => show ((pcs zs n).map strV)[i]? = some (strV (Lib.itoa (zs.getD i 0))) by rw [List.getElem?_map, pcs_at zs n i hi]; rfl)
  have HLn := Lib.hid (pcs_len zs n)
  obtain ⟨ps, hps⟩ : ∃ ps, pcs zs n = ps := ⟨_, rfl⟩
  rw [hps] at hS HA HLn
  have HPS := Lib.hid hps
  clear h hT e1 e2 hps
  go_enter Tryz.func39, Tryz.ntmps39
  go_wp2_with (go_at_call 48; refine halt_H ?_)
  refine resume_H ?_
  refine hS.mono ?_
  rintro e w1 ⟨v, rfl, hown, hb⟩
  rw [HLn.out] at hown
  obtain ⟨g, cap, rfl, hc1, hc2⟩ := own_some hown h0
  have hM : cap ≤ 9223372036854775807 := hc2
  have HO := Lib.hid hown
  have HB := Lib.hid hb
  have HM := Lib.hid hc2
  clear hS hown hb hc2
  go_wp2_with fail
  go_loopw [11] (fun iv wr => ∃ k : Nat, iv = .int .i64 (k : Int) ∧ k ≤ n ∧ Hid (wr.ownsRow w.heap.size tStr 1 (.slice (some ⟨g, 0, none⟩) n cap) n (ps.map strV)) ∧ Hid (Below w.heap.size w wr)) (fun iv _ => n - (intOf iv).toNat)
  case atStart => exact ⟨0, rfl, by omega, HO, HB⟩
  case round =>
    clear HO HB
    obtain ⟨k, rfl, hk, HO, HB⟩ := hrel
    obtain ⟨wr, rfl⟩ : ∃ wz : World, wz = wr := ⟨_, rfl⟩
    by_cases hlt : k < n
    · have f0 := own_cellS HO.out (HA.out k hlt)
      have hTr := trimD _ wr (HD.out k hlt) (HT.out.stays HB.out)
      have HX := Lib.hid (show (ps.map strV)[k]? = some (.string ⟨(Lib.itoa (zs.getD k 0)).toArray⟩) from HA.out k hlt)
      unfold strV at f0
      generalize (⟨(Lib.itoa (zs.getD k 0)).toArray⟩ : ByteArray) = x at *
      go_wp2_with (go_at_call 49; refine halt_H ?_)
      refine resume_H ?_
      refine hTr.mono ?_
      rintro e w2 ⟨rfl, hb⟩
      have HO2 := Lib.hid (own_below HO.out hb (Nat.le_refl _))
      have HB2 := Lib.hid (HB.out.trans (hb.mono HB.out.size))
      clear hTr hb f0
      have f0 := own_cellS HO2.out HX.out
      obtain ⟨f1, hBg⟩ := own_frozen HO2.out k
      have HO3 := Lib.hid (own_again HO2.out HX.out)
      have HB3 := Lib.hid (HB2.out.setCell (p := ⟨g, k, none⟩) hBg (.string x))
      go_wp2_with fail
      go_roundw
      case rel => exact ⟨k + 1, by go_num, by omega, HO3, HB3⟩
      case measure => simp [intOf]; omega
    · go_wp2
      go_ret
      exact ⟨g, cap, rfl, hc1, HM.out, by rw [HPS.out]; exact HO.out, HB.out⟩
def FalseRet (w : World) (e : Ending) (w' : World) : Prop := e = .returned (.tuple #[.int .i64 0, .int .i64 0, .bool false]) ∧ Below w.heap.size w w'
theorem attr_not {c : Int} (h : attrB c = true) : c ≠ 0 ∧ c ≠ 22 ∧ c ≠ 23 ∧ c ≠ 24 ∧ c ≠ 25 ∧ c ≠ 27 ∧ c ≠ 29 ∧ c ≠ 38 ∧ c ≠ 39 ∧ c ≠ 48 ∧ c ≠ 49 := by
  refine ⟨?_, ?_, ?_, ?_, ?_, ?_, ?_, ?_, ?_, ?_, ?_⟩ <;> (rintro rfl; revert h; decide)
set_option maxHeartbeats 1000000 in
set_option maxRecDepth 100000 in
theorem p256_any (a : Value) (zs : List Int) (n i g cap B : Nat) (w : World) (h : ∀ i, i < n → cdB n (zs.getD i 0)) (h4 : n ≤ 4) (hi : i < n) (hc : n ≤ cap ∧ cap ≤ maxLen) (ho : w.ownsRow B tStr 1 (.slice (some ⟨g, 0, none⟩) n cap) n ((pcs zs n).map strV)) :
    Calls Tryz.prog 50 #[a, .slice (some ⟨g, 0, none⟩) n cap, .int .i64 (i : Int)] w (FalseRet w) := by
  obtain ⟨hc1, hc2⟩ := hc
  have hM : cap ≤ 9223372036854775807 := hc2
  by_cases h2 : i + 2 < n
  · have hat : attrB (zs.getD i 0) = true := by
      rcases h i hi with h | ⟨_, h⟩
      · exact h
      · omega
    have hA := atoi_code (zs.getD i 0) n w (h i hi)
    have f0 := own_cellS ho (show ((pcs zs n).map strV)[i]? = some (strV (Lib.itoa (zs.getD i 0))) by rw [List.getElem?_map, pcs_at zs n i hi]; rfl)
    obtain ⟨_, _, _, _, _, _, _, e1, _, e2, _⟩ := attr_not hat
    unfold strV at hA f0
    generalize (⟨(Lib.itoa (zs.getD i 0)).toArray⟩ : ByteArray) = x at *
    generalize zs.getD i 0 = c at *
    have q1 : (c == 38) = false := by rw [beq_eq_false_iff_ne]; exact e1
    have q2 : (c == 48) = false := by rw [beq_eq_false_iff_ne]; exact e2
    clear h ho hat e1 e2
    go_enter Tryz.func50, Tryz.ntmps50
    go_wp2_with (go_at_call 53; refine halt_H ?_)
    refine resume_H ?_
    refine hA.mono ?_
    rintro e w1 ⟨rfl, hb⟩
    have HB := Lib.hid hb
    clear hA hb
    go_wp2
    go_ret3
    exact ⟨rfl, HB.out⟩
  · clear h ho
    go_enter Tryz.func50, Tryz.ntmps50
    go_wp2
    go_ret3
    exact ⟨rfl, Below.refl _ _⟩
theorem run_makeM (w : World) : (Instr.makeMap 42 none).run Tryz.prog w = .ok (.map (some w.heap.size)) (w.alloc (.map #[] 0)) := rfl
def MapRet (w : World) (e : Ending) (w' : World) : Prop := ∃ mb, e = .returned (.map (some mb)) ∧ w.heap.size ≤ mb ∧ PMap w' mb [] ∧ Below w.heap.size w w'
set_option maxHeartbeats 1000000 in
set_option maxRecDepth 100000 in
theorem pAll_any (a : Value) (zs : List Int) (n g cap B : Nat) (w : World) (h : ∀ i, i < n → cdB n (zs.getD i 0)) (h4 : n ≤ 4) (hc : n ≤ cap ∧ cap ≤ maxLen) (ho : w.ownsRow B tStr 1 (.slice (some ⟨g, 0, none⟩) n cap) n ((pcs zs n).map strV)) :
    Calls Tryz.prog 40 #[a, .slice (some ⟨g, 0, none⟩) n cap] w (MapRet w) := by
  have hc1 := hc.1
  have hM : cap ≤ 9223372036854775807 := hc.2
  have HK := Lib.hid (fun W i (hb : Below w.heap.size w W) (hi : i < n) => p256_any a zs n i g cap B W h h4 hi hc (own_below ho hb (Nat.le_refl _)))
  clear h ho hc
  have hmm := run_makeM w
  go_enter Tryz.func40, Tryz.ntmps40
  go_wp2_with fail
  go_loopw [6] (fun iv wr => ∃ k : Nat, iv = .int .i64 (k : Int) ∧ k ≤ n ∧ Hid (PMap wr w.heap.size []) ∧ Hid (Below w.heap.size w wr)) (fun iv _ => n - (intOf iv).toNat)
  case atStart => exact ⟨0, rfl, by omega, Lib.hid (PMap.made w), Lib.hid ((Below.refl _ w).alloc (Nat.le_refl _) _)⟩
  case round =>
    obtain ⟨k, rfl, hk, HP, HB⟩ := hrel
    obtain ⟨wr, rfl⟩ : ∃ wz : World, wz = wr := ⟨_, rfl⟩
    by_cases hlt : k < n
    · have hT := HK.out wr k HB.out hlt
      go_wp2_with (go_at_call 50; refine halt_H ?_)
      refine resume_H ?_
      refine hT.mono ?_
      rintro e w2 ⟨rfl, hb⟩
      have HP2 := Lib.hid (HP.out.keep (hb.block _ HP.out.lt))
      have HB2 := Lib.hid (HB.out.trans (hb.mono HB.out.size))
      clear hT hb
      go_wp2_with fail
      go_roundw
      case rel => exact ⟨k + 1, by go_num, by omega, HP2, HB2⟩
      case measure => simp [intOf]; omega
    · go_wp2
      go_ret
      exact ⟨_, rfl, Nat.le_refl _, HP.out, HB.out⟩
end Go.Proofs.YtimdmdjkkgdohaaGreatDoor
