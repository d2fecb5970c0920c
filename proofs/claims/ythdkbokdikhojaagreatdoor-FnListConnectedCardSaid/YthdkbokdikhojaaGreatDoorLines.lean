/- The lines of a text, by the reference: the walk of TxLines. Texts of at most 2^31 bytes. -/
import Derived.Test.YthdkbokdikhojaaGreatDoorProg
import Derived.Test.YthdkbokdikhojaaGreatDoorBase
import Derived.Test.YthdkbokdikhojaaGreatDoorTxt
import Derived.WalkKit
import Derived.Handy
import Derived.Laws.OwnMore
import Derived.Laws.RangeString
import Derived.Laws.RangeAny
import Derived.Lib.RuneCount
import Derived.Lib.OthersKept
import Derived.WalkLawsBesides
namespace Go.Proofs.YthdkbokdikhojaaGreatDoor
open Go.RowKit
set_option linter.unusedVariables false
/-- The lines so far (the last one apart), and what is to come. -/
def linesF (s : ByteArray) : Nat → Nat → List (List UInt8) → List UInt8 → List (List UInt8)
  | 0, _, out, last => out ++ [last]
  | f + 1, pos, out, last =>
    if pos < s.size then
      if (Utf8.decode s pos).1 = 10 then linesF s f (pos + (Utf8.decode s pos).2) (out ++ [last]) []
      else linesF s f (pos + (Utf8.decode s pos).2) out (last ++ (Utf8.encode ((Utf8.decode s pos).1 : Int)).data.toList)
    else out ++ [last]
def linesOf (s : ByteArray) : List (List UInt8) := linesF s s.size 0 [] []
theorem linesF_end (s : ByteArray) (f pos : Nat) (out : List (List UInt8)) (last : List UInt8) (h : ¬ pos < s.size) : linesF s f pos out last = out ++ [last] := by
  cases f with
  | zero => rfl
  | succ f => rw [linesF, if_neg h]
theorem infoStr_N : (Tryz.prog.info? 9).map (fun i => (i.zero, i.size, i.bytes)) = some (some (.string ⟨#[]⟩), 1, 16) := by kernel_rfl
theorem enc_size (r : Int) : (Utf8.encode r).size ≤ 4 := by
  unfold Utf8.encode
  simp only
  repeat' split
  all_goals first | exact Nat.le_of_ble_eq_true rfl | (simp [ByteArray.size]; done) | decide
theorem strV_app (a b : List UInt8) : (⟨a.toArray⟩ : ByteArray) ++ ⟨b.toArray⟩ = ⟨(a ++ b).toArray⟩ := ByteArray.mk_append_mk a b
theorem halt_N {p : Prop} (h : Hid p) : p := h
theorem resume_N {p : Prop} (h : p) : Hid p := h
theorem heap_new' {W : World} {o : Obj} {k : Nat} (h : k = W.heap.size) : (W.alloc o).heap[k]? = some o := by subst h; exact heap_alloc_new W o
theorem own_iterAt {w : World} {B e size n : Nat} {v : Value} {xs : List Value} {k : Nat} {s : ByteArray} {pos : Nat} (h : w.ownsRow B e size v n xs) (hk : w.heap[k]? = some (.stringIter s pos)) (pos' : Nat) : (w.iterAt k s pos').ownsRow B e size v n xs := by
  refine ⟨h.1, ?_⟩
  rcases h.2 with h0 | ⟨g, cap, cur, hv, hb, hg, rest⟩
  · exact .inl h0
  · refine .inr ⟨g, cap, cur, hv, hb, ?_, rest⟩
    rw [Lib.iterAt_other _ _ _ _ _ (fun e => by subst e; rw [hk] at hg; cases hg)]
    exact hg
theorem own_ne_iter {w : World} {B e size n : Nat} {v : Value} {xs : List Value} {k : Nat} {s : ByteArray} {pos : Nat} (h : w.ownsRow B e size v n xs) (hk : w.heap[k]? = some (.stringIter s pos)) : some k ≠ v.ownBlock := by
  rcases h.2 with ⟨rfl, _⟩ | ⟨g, cap, cur, rfl, hb, hg, rest⟩
  · simp [Value.ownBlock]
  · intro e
    simp only [Value.ownBlock, Option.some.injEq] at e
    subst e
    rw [hk] at hg; cases hg
theorem own_pos {w : World} {B e size n : Nat} {v : Value} {xs : List Value} (h : w.ownsRow B e size v (n + 1) xs) : ∃ g cap, v = .slice (some ⟨g, 0, none⟩) (n + 1) cap := by
  rcases h.2 with ⟨_, hz⟩ | ⟨g, cap, cur, e, _⟩
  · omega
  · exact ⟨g, cap, e⟩
theorem iterPos_of {w : World} {k : Nat} {s : ByteArray} {p : Nat} (h : w.heap[k]? = some (.stringIter s p)) : w.iterPos k = p := by simp [World.iterPos, h]
theorem decode_le4 (s : ByteArray) (pos : Nat) : (Utf8.decode s pos).2 ≤ 4 := by
  unfold Utf8.decode
  simp only
  repeat' split
  all_goals simp
set_option maxHeartbeats 4000000 in
set_option maxRecDepth 100000 in
theorem lines_any (s : ByteArray) (w : World) (hs : s.size ≤ 2147483647) : Calls Tryz.prog 28 #[.string s] w (SplitRet w (linesOf s)) := by
  obtain ⟨i0, hi, hz0, hz1, hz2⟩ := info_parts infoStr_N
  go_enter Tryz.func28, Tryz.ntmps28
  go_wp2_with fail
  go_loopw [3] (fun v wr => ∃ (pos f : Nat) (out : List (List UInt8)) (last : List UInt8), Hid (linesOf s = linesF s f pos out last) ∧ s.size ≤ pos + f ∧ pos ≤ s.size + 4 ∧ out.length ≤ pos ∧ last.length ≤ 4 * pos ∧ wr.heap[w.heap.size + 1]? = some (.stringIter s pos) ∧
      wr.ownsRow w.heap.size 9 1 v (out.length + 1) ((out ++ [last]).map strV) ∧ Hid (Below w.heap.size w wr)) (fun _ wr => s.size - wr.iterPos (w.heap.size + 1))
  case atStart =>
    refine ⟨0, s.size, [], [], Lib.hid rfl, by omega, by omega, Nat.le_refl _, Nat.le_refl _, ?_, ?_, Lib.hid (((Below.refl _ _).alloc (Nat.le_refl _) _).alloc (by simp) _)⟩
    · exact heap_new' (by simp)
    · exact (World.ownsRow_lit w #[.string ⟨#[]⟩] 1 (Nat.le_refl _) (by unfold maxLen; omega) rfl).alloc _
  case round =>
    obtain ⟨pos, f, out, last, hc, hf, hp4, ho, hl, hit, hown, HB⟩ := hrel
    obtain ⟨wo, rfl⟩ : ∃ wo : World, wo = wr := ⟨_, rfl⟩
    by_cases hp : pos < s.size
    · have hnx : ∀ ty, (Instr.next (.pointer (some ⟨w.heap.size + 1, 0, none⟩)) true ty).run Tryz.prog wo = _ := fun ty => Lib.run_next_any_at wo (w.heap.size + 1) s pos ty hit hp
      have hwd := Lib.decode_width_pos s pos hp
      have hpos := iterPos_of hit
      obtain ⟨f, rfl⟩ : ∃ f', f = f' + 1 := ⟨f - 1, by omega⟩
      have own2 := Go.Proofs.YthdkbokdikhojaaGreatDoor.own_iterAt hown hit (pos + (Utf8.decode s pos).2)
      have hit2 := Lib.iterAt_heap wo (w.heap.size + 1) s pos (pos + (Utf8.decode s pos).2) hit
      have HB2 := Lib.hid (Lib.below_iterAt HB.out (show w.heap.size ≤ w.heap.size + 1 by omega) s (pos + (Utf8.decode s pos).2))
      have hw4 : (Utf8.decode s pos).2 ≤ 4 := decode_le4 s pos
      have HF := Lib.hid (show linesF s (f + 1) pos out last = (if (Utf8.decode s pos).1 = 10 then linesF s f (pos + (Utf8.decode s pos).2) (out ++ [last]) [] else linesF s f (pos + (Utf8.decode s pos).2) out (last ++ (Utf8.encode ((Utf8.decode s pos).1 : Int)).data.toList)) by rw [linesF, if_pos hp])
      generalize hW : wo.iterAt (w.heap.size + 1) s (pos + (Utf8.decode s pos).2) = W at *
      generalize hd1 : (Utf8.decode s pos).1 = r at *
      generalize hd2 : (Utf8.decode s pos).2 = wd at *
      have hBs := HB2.out.size
      clear hit hown HB hW
      by_cases h10 : r = 10
      · have h10' : ((r : Int) == 10) = true := by rw [beq_iff_eq]; omega
        have HF2 := Lib.hid (show linesOf s = linesF s f (pos + wd) (out ++ [last]) [] by rw [hc.out, HF.out, if_pos h10])
        clear h10 hc HF
        go_wp2_with (at_builtin; refine halt_N ?_)
        refine resume_N ?_
        refine wpList_append_own _ rfl _ _ 45 rfl w.heap.size 9 i0 (.string ⟨#[]⟩) 1 16 Tryz.underlying45 hi hz0 hz1 hz2 rfl (by decide) _ _ _ rfl (own2.alloc _) ⟨W.heap.size, 0, none⟩ 1 1 [.string ⟨#[]⟩] rfl rfl (oneS_at (heap_alloc_new W _)) (by simp [Value.oneCell']) (by unfold maxLen; omega) (by omega) (by simp; omega) ?_
        intro v' w1 hown1 hgrow _
        have HB1 := Lib.hid ((HB2.out.alloc hBs _).grown hgrow (by simp; omega) (fun k hk => (own2.lt k hk).1))
        have hit3 : w1.heap[w.heap.size + 1]? = some (.stringIter s (pos + wd)) := (hgrow.block _ (by rw [World.size_alloc]; have := (Array.getElem?_eq_some_iff.1 hit2).1; omega) (Go.Proofs.YthdkbokdikhojaaGreatDoor.own_ne_iter own2 hit2)).trans ((Below.heap_alloc W _ _ (Array.getElem?_eq_some_iff.1 hit2).1).trans hit2)
        have hown2 : w1.ownsRow w.heap.size 9 1 v' ((out ++ [last]).length + 1) ((out ++ [last] ++ [[]]).map strV) := by
          rw [List.length_append, List.length_singleton]
          simpa [strV] using hown1
        have Hit3 := Lib.hid hit3
        clear hown1 hgrow own2 hit2 hit3
        have hpos3 := iterPos_of Hit3.out
        go_wp2_with fail
        go_roundw
        case rel => exact ⟨pos + wd, f, out ++ [last], [], HF2, by omega, by omega, by simp; omega, Nat.zero_le _, Hit3.out, hown2, HB1⟩
        case measure => rw [hpos3, hpos]; omega
      · have h10' : ((r : Int) == 10) = false := by rw [beq_eq_false_iff_ne]; omega
        have HF2 := Lib.hid (show linesOf s = linesF s f (pos + wd) out (last ++ (Utf8.encode (r : Int)).data.toList) by rw [hc.out, HF.out, if_neg h10])
        obtain ⟨g, cap, rfl⟩ := own_pos own2
        have hcell : W.cell? ⟨g, out.length, none⟩ = some (strV last) := by
          rw [own2.cellAt out.length (by omega)]
          simp
        have hfr := own2.frozenAt out.length
        obtain ⟨st1, st2⟩ := own2.stored out.length (strV (last ++ (Utf8.encode (r : Int)).data.toList))
        have hit3 : (W.setCell ⟨g, out.length, none⟩ (strV (last ++ (Utf8.encode (r : Int)).data.toList))).heap[w.heap.size + 1]? = some (.stringIter s (pos + wd)) := (st2.block _ (Array.getElem?_eq_some_iff.1 hit2).1 (Go.Proofs.YthdkbokdikhojaaGreatDoor.own_ne_iter own2 hit2)).trans hit2
        have hg := (own2.lt g rfl).1
        have hown2 : (W.setCell ⟨g, out.length, none⟩ (strV (last ++ (Utf8.encode (r : Int)).data.toList))).ownsRow w.heap.size 9 1 (.slice (some ⟨g, 0, none⟩) (out.length + 1) cap) (out.length + 1) ((out ++ [last ++ (Utf8.encode (r : Int)).data.toList]).map strV) := by
          have e : ((out ++ [last]).map strV).set out.length (strV (last ++ (Utf8.encode (r : Int)).data.toList)) = (out ++ [last ++ (Utf8.encode (r : Int)).data.toList]).map strV := by simp
          rw [← e]; exact st1
        have HB3 := Lib.hid (HB2.out.setCell (p := ⟨g, out.length, none⟩) hg (strV (last ++ (Utf8.encode (r : Int)).data.toList)))
        have Hown2 := Lib.hid hown2
        have Hit3 := Lib.hid hit3
        have en4 := enc_size (r : Int)
        have e1 : (0 : Int) ≤ (out.length : Int) := by omega
        have e2 : (out.length : Int) < (out.length : Int) + 1 := by omega
        have e3 : IntKind.i64.wrap ((out.length : Int) + 1 - 1) = (out.length : Int) := by rw [show (out.length : Int) + 1 - 1 = out.length by omega]; exact IntWalk.i64_in _ (by omega)
        have hadd : (⟨last.toArray⟩ : ByteArray) ++ Utf8.encode (r : Int) = ⟨(last ++ (Utf8.encode (r : Int)).data.toList).toArray⟩ := by
          apply WideShapes.bytes_inj; simp
        have hsl : (⟨last.toArray⟩ : ByteArray).size = last.length := by simp [ByteArray.size]
        have hel : (Utf8.encode (r : Int)).data.toList.length ≤ 4 := by rw [← Lib.size_eq]; exact en4
        have Hel := Lib.hid hel
        unfold strV at hcell Hown2 HB3 Hit3
        clear h10 hc HF hit3 hown2 st1 st2 own2 hit2 hel
        have hpos3 := iterPos_of Hit3.out
        go_wp2_with fail
        go_roundw
        case rel => exact ⟨pos + wd, f, out, last ++ (Utf8.encode (r : Int)).data.toList, HF2, by omega, by omega, by omega, by rw [List.length_append]; have := Hel.out; omega, Hit3.out, Hown2.out, HB3⟩
        case measure => rw [hpos3, hpos]; omega
    · have hnx : ∀ ty, (Instr.next (.pointer (some ⟨w.heap.size + 1, 0, none⟩)) true ty).run Tryz.prog wo = _ := fun ty => Lib.run_next_end_at wo (w.heap.size + 1) s pos ty hit hp
      have HF2 := Lib.hid (show linesOf s = out ++ [last] by rw [hc.out, linesF_end s f pos out last hp])
      have Hown := Lib.hid hown
      clear hit hc hown
      go_wp2_with fail
      go_ret
      exact ⟨_, rfl, by rw [HF2.out, List.length_append]; exact Hown.out, HB.out⟩
end Go.Proofs.YthdkbokdikhojaaGreatDoor
