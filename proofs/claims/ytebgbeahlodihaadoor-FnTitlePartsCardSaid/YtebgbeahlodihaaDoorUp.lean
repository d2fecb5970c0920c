/- A text in capitals: the walk of spec.TwUpper. Texts of at most 1000000 bytes. -/
import Derived.Test.YtebgbeahlodihaaDoorProg
import Derived.Test.YtebgbeahlodihaaDoorBase
import Derived.Test.YtebgbeahlodihaaDoorTxt
import Derived.Test.YtebgbeahlodihaaDoorTiP
import Derived.Lib.ConvBytes
import Derived.Lib.SmallJoins
import Derived.Lib.Case
import Derived.WalkKit
import Derived.Handy
import Derived.BigQuiet
namespace Go.Proofs.YtebgbeahlodihaaDoor
open Go.RowKit
set_option linter.unusedVariables false
/-- A row of bytes of the call's own, as '[]byte(s)' lays it. -/
def BRow (w : World) (g n : Nat) (l : List UInt8) : Prop := l.length = n ∧ ∃ cur fz, w.heap[g]? = some (.cells cur 5 fz) ∧ n ≤ fz.1 ∧ cur.toList.take n = bcells l
theorem BRow.cell {w : World} {g n : Nat} {l : List UInt8} (h : BRow w g n l) (j : Nat) (hj : j < l.length) : w.cell? ⟨g, j, none⟩ = some (.int .u8 (l[j].toNat : Int)) := by
  obtain ⟨hl, cur, fz, hg, _, ht⟩ := h
  rw [cell_of_row w g j cur _ fz hg]
  have h1 : (cur.toList.take n)[j]? = some (.int .u8 (l[j].toNat : Int)) := by rw [ht]; simp [bcells, hj]
  rw [List.getElem?_take, if_pos (by omega)] at h1
  simpa using h1
theorem BRow.frozen {w : World} {g n : Nat} {l : List UInt8} (h : BRow w g n l) (j : Nat) (hj : j < n) : w.frozen? ⟨g, j, none⟩ = false := by
  obtain ⟨hl, cur, fz, hg, hf, ht⟩ := h
  simp [World.frozen?, hg]
  omega
theorem BRow.stored {w : World} {g n : Nat} {l : List UInt8} (h : BRow w g n l) (j : Nat) (c : UInt8) : BRow (w.setCell ⟨g, j, none⟩ (.int .u8 (c.toNat : Int))) g n (l.set j c) := by
  obtain ⟨hl, cur, fz, hg, hf, ht⟩ := h
  refine ⟨by simpa using hl, cur.setIfInBounds j (.int .u8 (c.toNat : Int)), fz, ?_, hf, ?_⟩
  · rw [setCell_eq_setRow w g j cur _ fz _ hg]
    exact setRow_heap w g cur _ _ _ hg
  · rw [Array.toList_setIfInBounds, List.take_set, ht]
    simp [bcells]
theorem BRow.made (w : World) (s : ByteArray) : BRow (Lib.bytesWorld w 5 s) w.heap.size s.size s.data.toList := by
  refine ⟨(Lib.size_eq s).symm, Lib.bytesCells w 5 s, _, Lib.bytesWorld_at_new w _ s, ?_, ?_⟩
  · simp [Lib.bytesCells]
  · unfold Lib.bytesCells bcells
    rw [Array.toList_append, List.take_append_of_le_length (by simp)]
    rw [List.take_of_length_le (by simp)]
    simp
theorem BRow.text {P : Program} {w : World} {g n cap : Nat} {src dst : TypeId} {l : List UInt8} (h : BRow w g n l) (hs : P.underlying src = some (.slice 5)) (he : P.underlying 5 = some (.int .u8)) (hd : P.underlying dst = some .string) :
    (convert src dst (.slice (some ⟨g, 0, none⟩) n cap)).run P w = .ok (.string ⟨l.toArray⟩) w := by
  have hl := h.1
  subst hl
  have := run_convert_bytes_arg (P := P) w src 5 hs he g 0 l.length cap (l.map fun b => (b.toNat : Int)) (by simp) (fun i hi => by
    rw [Nat.zero_add, h.cell i hi]
    simp [List.getD_eq_getElem?_getD, hi]) dst hd
  rw [this]
  congr 2
  apply WideShapes.bytes_inj
  rw [strOfNums_data]
  simp [Function.comp_def]
theorem up_low {c : UInt8} (h1 : 97 ≤ c.toNat) (h2 : c.toNat ≤ 122) : ((Lib.upperB c).toNat : Int) = (c.toNat : Int) - 32 := by
  have : ∀ c : Fin 256, 97 ≤ c.val → c.val ≤ 122 → ((Lib.upperB (UInt8.ofNat c.val)).toNat : Int) = (c.val : Int) - 32 := by decide +kernel
  have hb := c.toNat_lt
  have e := this ⟨c.toNat, hb⟩ h1 h2
  simpa using e
theorem up_not {c : UInt8} (h : ¬ (97 ≤ c.toNat ∧ c.toNat ≤ 122)) : Lib.upperB c = c := by
  have : ∀ c : Fin 256, ¬ (97 ≤ c.val ∧ c.val ≤ 122) → Lib.upperB (UInt8.ofNat c.val) = UInt8.ofNat c.val := by decide +kernel
  have hb := c.toNat_lt
  have e := this ⟨c.toNat, hb⟩ h
  simpa using e
theorem set_mid (f : UInt8 → UInt8) (l : List UInt8) (k : Nat) (h : k < l.length) (x : UInt8) : ((l.take k).map f ++ l.drop k).set k x = (l.take k).map f ++ x :: l.drop (k + 1) := by
  have hk : ((l.take k).map f).length = k := by simp; omega
  rw [List.drop_eq_getElem_cons h, List.set_append_right _ _ (by omega), hk, Nat.sub_self, List.set_cons_zero]
theorem set_up (f : UInt8 → UInt8) (l : List UInt8) (k : Nat) (h : k < l.length) : ((l.take k).map f ++ l.drop k).set k (f l[k]) = (l.take (k + 1)).map f ++ l.drop (k + 1) := by
  rw [set_mid f l k h, List.take_succ_eq_append_getElem h]; simp only [List.map_append, List.map_cons, List.map_nil, List.append_assoc, List.cons_append, List.nil_append]
theorem set_same (f : UInt8 → UInt8) (l : List UInt8) (k : Nat) (h : k < l.length) : ((l.take k).map f ++ l.drop k).set k l[k] = (l.take k).map f ++ l.drop k := by
  rw [set_mid f l k h, ← List.drop_eq_getElem_cons h]
def UpRet (l : List UInt8) (w : World) (e : Ending) (w' : World) : Prop := e = .returned (.string ⟨(Lib.toUpperA l).toArray⟩) ∧ Below w.heap.size w w'
set_option maxHeartbeats 1000000 in
set_option maxRecDepth 100000 in
theorem twUpper_any (l : List UInt8) (w : World) (hl : l.length ≤ 1000000) : Calls Tryd.prog 7 #[.string ⟨l.toArray⟩] w (UpRet l w) := by
  have hcv := Lib.run_convert_string_bytes (P := Tryd.prog) w 9 25 5 ⟨l.toArray⟩ Tryd.underlying9 Tryd.underlying25 Tryd.underlying5
  have hm := BRow.made w ⟨l.toArray⟩
  have hb0 := Go.Joins.below_bytesWorld w.heap.size w 5 ⟨l.toArray⟩ (Nat.le_refl _)
  rw [mk_size] at hcv hm
  have HM := Lib.hid (show BRow (Lib.bytesWorld w 5 ⟨l.toArray⟩) w.heap.size l.length l from hm)
  have HB0 := Lib.hid hb0
  clear hm hb0
  generalize Lib.bytesWorld w 5 ⟨l.toArray⟩ = w1 at *
  generalize grownCap w l.length 0 5 = cap at *
  generalize hn : l.length = n at *
  have HN := Lib.hid hn
  clear hn
  go_enter Tryd.func7, Tryd.ntmps7
  go_wp2_with fail
  go_loopw [4] (fun iv wr => ∃ k : Nat, k ≤ n ∧ iv = .int .i64 (k : Int) ∧ Hid (BRow wr w.heap.size n ((l.take k).map Lib.upperB ++ l.drop k)) ∧ Hid (Below w.heap.size w wr)) (fun iv _ => n - (intOf iv).toNat)
  case atStart => exact ⟨0, Nat.zero_le _, rfl, Lib.hid (by simpa using HM.out), HB0⟩
  case round =>
    obtain ⟨k, hk, rfl, HR, HB⟩ := hrel
    obtain ⟨wo, rfl⟩ : ∃ wo : World, wo = wr := ⟨_, rfl⟩
    by_cases hlt : k < n
    · have hkl : k < l.length := by rw [HN.out]; exact hlt
      have hlen : ((l.take k).map Lib.upperB ++ l.drop k).length = l.length := by simp; omega
      have hc : wo.cell? ⟨w.heap.size, k, none⟩ = some (.int .u8 (l[k].toNat : Int)) := by
        rw [HR.out.cell k (by omega)]
        rw [List.getElem_append_right (by simp; omega)]
        simp
        congr 3
        simp [Nat.min_eq_left (Nat.le_of_lt hkl)]
      have hfr := HR.out.frozen k hlt
      have hset := set_up Lib.upperB l k hkl
      by_cases hlow : 97 ≤ l[k].toNat ∧ l[k].toNat ≤ 122
      · have HS := Lib.hid (show BRow (wo.setCell ⟨w.heap.size, k, none⟩ (.int .u8 ((l[k].toNat : Int) - 32))) w.heap.size n ((l.take (k + 1)).map Lib.upperB ++ l.drop (k + 1)) by
          rw [← hset, ← up_low hlow.1 hlow.2]; exact HR.out.stored k _)
        have HB2 := Lib.hid (HB.out.setCell (p := ⟨w.heap.size, k, none⟩) (Nat.le_refl _) (.int .u8 ((l[k].toNat : Int) - 32)))
        have g1 : (97 : Int) ≤ (l[k].toNat : Int) := by omega
        have g2 : (l[k].toNat : Int) ≤ 122 := by omega
        clear HR hset hlow hlen
        generalize (l[k].toNat : Int) = z at *
        go_wp2_with fail
        go_roundw
        case rel => exact ⟨k + 1, by omega, by go_num, HS, HB2⟩
        case measure => simp [intOf]; omega
      · have hu : Lib.upperB l[k] = l[k] := up_not hlow
        have HS := Lib.hid (show BRow wo w.heap.size n ((l.take (k + 1)).map Lib.upperB ++ l.drop (k + 1)) by
          rw [← hset, hu]
          have e := set_same Lib.upperB l k hkl
          rw [e]; exact HR.out)
        have hcs : (l[k].toNat : Int) < 97 ∨ (97 ≤ (l[k].toNat : Int) ∧ 122 < (l[k].toNat : Int)) := by omega
        clear HR hset hlow hlen hu
        generalize (l[k].toNat : Int) = z at *
        rcases hcs with g1 | ⟨g1, g2⟩
        all_goals
          go_wp2_with fail
          go_roundw
          case rel => exact ⟨k + 1, by omega, by go_num, HS, HB⟩
          case measure => simp [intOf]; omega
    · have hkn : k = n := by omega
      have HT := HR.out
      rw [hkn, ← HN.out, List.take_length, List.drop_length, List.append_nil] at HT
      have hcv2 := BRow.text (P := Tryd.prog) (cap := cap) HT Tryd.underlying25 Tryd.underlying5 Tryd.underlying9
      rw [HN.out] at hcv2
      clear HT HR hcv
      subst hkn
      go_wp2_with fail
      go_ret
      exact ⟨rfl, HB.out⟩
end Go.Proofs.YtebgbeahlodihaaDoor
