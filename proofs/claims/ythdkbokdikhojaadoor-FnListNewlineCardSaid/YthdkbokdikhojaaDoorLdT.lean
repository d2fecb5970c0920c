/- A list in a style: spec.LsStyled. -/
import Derived.Test.YthdkbokdikhojaaDoorLdS
import Derived.Test.YthdkbokdikhojaaDoorLsR
namespace Go.Proofs.YthdkbokdikhojaaDoor
open Go.RowKit
set_option linter.unusedVariables false
/-- What LsStyled asks of a style. -/
structure Styled (z : Int) (s1 s2 s3 s4 s5 s6 s7 s8 : ByteArray) : Prop where
  z0 : z = 0
  nl : s7 = ⟨#[10]⟩
  all : ∀ s ∈ [s1, s2, s3, s4, s5, s6, s8], s.size ≤ 20 ∧ simp false s = true
  nw5 : nw s5 = true
def sev (L : List ByteArray) (k : Nat) : ByteArray := L.getD k ⟨#[]⟩
theorem below_cell {B : Nat} {w w' : World} (hb : Below B w w') {k j : Nat} {cs : Array Value} {t : TypeId} {fr : Nat × Nat} {v : Value} (h : w.heap[k]? = some (.cells cs t fr)) (hk : k < B) (hv : cs[j]? = some v) : w'.cell? ⟨k, j, none⟩ = some v := by
  rw [cell_of_row w' k j cs t fr ((hb.block _ hk).trans h)]; exact hv
set_option maxHeartbeats 8000000 in
set_option maxRecDepth 100000 in
theorem styled_any (z : Int) (s1 s2 s3 s4 s5 s6 s7 s8 : ByteArray) (w : World) (hz : -9223372036854775808 ≤ z ∧ z ≤ 9223372036854775807) :
    Calls Tryd.prog 9 #[styA z s1 s2 s3 s4 s5 s6 s7 s8] w (BoolIff w (Styled z s1 s2 s3 s4 s5 s6 s7 s8)) := by
  obtain ⟨L, hL⟩ : ∃ L : List ByteArray, L = [s1, s2, s3, s4, s5, s6, s8] := ⟨_, rfl⟩
  obtain ⟨W, hW⟩ : ∃ W : World, W = (w.alloc (.cells #[.int .i64 z, .string s1, .string s2, .string s3, .string s4, .string s5, .string s6, .string s7, .string s8] 24)).alloc (.cells #[.string s1, .string s2, .string s3, .string s4, .string s5, .string s6, .string s8] 9) := ⟨_, rfl⟩
  have hw0 : W.heap[w.heap.size]? = some (.cells #[.int .i64 z, .string s1, .string s2, .string s3, .string s4, .string s5, .string s6, .string s7, .string s8] 24 (0, 0)) := by
    rw [hW, Below.heap_alloc _ _ _ (by simp)]; exact heap_alloc_new w _
  have hw1 : W.heap[w.heap.size + 1]? = some (.cells #[.string s1, .string s2, .string s3, .string s4, .string s5, .string s6, .string s8] 9 (0, 0)) := by
    rw [hW]
    have := heap_alloc_new (w.alloc (.cells #[.int .i64 z, .string s1, .string s2, .string s3, .string s4, .string s5, .string s6, .string s7, .string s8] 24)) (.cells #[.string s1, .string s2, .string s3, .string s4, .string s5, .string s6, .string s8] 9)
    rw [World.size_alloc] at this
    exact this
  have HB := Lib.hid (show Below w.heap.size w W by rw [hW]; exact ((Below.refl _ _).alloc (Nat.le_refl _) _).alloc (by simp) _)
  have hsz : W.heap.size = w.heap.size + 2 := by rw [hW]; simp
  have HR : Hid (∀ k, k < 7 → (#[Value.string s1, .string s2, .string s3, .string s4, .string s5, .string s6, .string s8] : Array Value)[k]? = some (.string (sev L k))) := Lib.hid (by
    intro k hk
    subst hL
    have : k = 0 ∨ k = 1 ∨ k = 2 ∨ k = 3 ∨ k = 4 ∨ k = 5 ∨ k = 6 := by omega
    rcases this with rfl | rfl | rfl | rfl | rfl | rfl | rfl <;> rfl)
  have HLm : Hid (∀ s ∈ [s1, s2, s3, s4, s5, s6, s8], ∃ k, k < 7 ∧ s = sev L k) := Lib.hid (by
    intro s hs
    subst hL
    simp only [List.mem_cons, List.not_mem_nil, or_false] at hs
    rcases hs with rfl | rfl | rfl | rfl | rfl | rfl | rfl
    · exact ⟨0, by omega, rfl⟩
    · exact ⟨1, by omega, rfl⟩
    · exact ⟨2, by omega, rfl⟩
    · exact ⟨3, by omega, rfl⟩
    · exact ⟨4, by omega, rfl⟩
    · exact ⟨5, by omega, rfl⟩
    · exact ⟨6, by omega, rfl⟩)
  have HLn : Hid (∀ k, k < 7 → sev L k ∈ [s1, s2, s3, s4, s5, s6, s8]) := Lib.hid (by
    intro k hk
    have : k = 0 ∨ k = 1 ∨ k = 2 ∨ k = 3 ∨ k = 4 ∨ k = 5 ∨ k = 6 := by omega
    subst hL
    rcases this with rfl | rfl | rfl | rfl | rfl | rfl | rfl <;> simp [sev])
  have HW0 := Lib.hid hw0
  have HW1 := Lib.hid hw1
  clear hL hw0 hw1
  unfold styA
  go_enter Tryd.func9, Tryd.ntmps9
  go_wp2_with fail
  rw [← hW]
  clear hW
  go_loopw [23] (fun v wr => ∃ k : Nat, k ≤ 7 ∧ v = .int .i64 k ∧ Hid (∀ j, j < k → (sev L j).size ≤ 20 ∧ simp false (sev L j) = true) ∧ Hid (Below W.heap.size W wr)) (fun v _ => 7 - (intOf v).toNat)
  case atStart => exact ⟨0, by omega, rfl, Lib.hid (fun j hj => by omega), Lib.hid (Below.refl _ _)⟩
  case round =>
    obtain ⟨k, hk, rfl, hA, hb⟩ := hrel
    obtain ⟨wo, rfl⟩ : ∃ wo : World, wo = wr := ⟨_, rfl⟩
    by_cases hlt : k < 7
    · have hc : wo.cell? ⟨w.heap.size + 1, k, none⟩ = some (.string (sev L k)) := below_cell hb.out HW1.out (by omega) (HR.out k hlt)
      have gk : decide ((k : Int) < 7) = true := decide_eq_true (by omega)
      by_cases h20 : (sev L k).size ≤ 20
      · have g20 : decide (((sev L k).size : Int) > 20) = false := by simp; omega
        have H20 := Lib.hid h20
        have HS := Lib.hid (simple_any (sev L k) false wo)
        clear h20
        generalize hsk : sev L k = sk at *
        have HE := Lib.hid hsk
        clear hsk
        cases hsm : simp false sk with
        | true =>
          rw [hsm] at HS
          have HM := Lib.hid hsm
          clear hsm
          go_wp2_with (go_at_call 13; refine HS.out.mono ?_; rintro e w1 ⟨rfl, k1⟩; have K1 := Lib.hid k1; clear k1)
          go_roundw
          case rel => exact ⟨k + 1, by omega, by go_num, Lib.hid (fun j hj => by
            by_cases hjk : j = k
            · subst hjk; rw [HE.out]; exact ⟨H20.out, HM.out⟩
            · exact hA.out j (by omega)), Lib.hid (hb.out.trans (K1.out.mono hb.out.size))⟩
          case measure => simp [intOf]; omega
        | false =>
          rw [hsm] at HS
          have HF := Lib.hid hsm
          clear hsm
          go_wp2_with (go_at_call 13; refine HS.out.mono ?_; rintro e w1 ⟨rfl, k1⟩; have K1 := Lib.hid k1; clear k1)
          go_ret
          exact ⟨false, rfl, (HB.out.trans ((hb.out.trans (K1.out.mono hb.out.size)).mono (by omega))), (fun h => by cases h), (fun hS => by have := (hS.all _ (HLn.out k hlt)).2; rw [HE.out, HF.out] at this; cases this)⟩
      · have g20 : decide (((sev L k).size : Int) > 20) = true := by simp; omega
        have H20 := Lib.hid h20
        clear h20
        go_wp2_with fail
        go_ret
        exact ⟨false, rfl, HB.out.trans (hb.out.mono (by omega)), (fun h => by cases h), (fun hS => absurd (hS.all _ (HLn.out k hlt)).1 H20.out)⟩
    · have hke : k = 7 := by omega
      subst hke
      have e7 : ((7 : Nat) : Int) = 7 := rfl
      rw [e7]
      have hc5 : wo.cell? ⟨w.heap.size, 5, none⟩ = some (.string s5) := below_cell hb.out HW0.out (by omega) rfl
      go_wp2_with fail
      have HX := Lib.hid (show ∀ s ∈ [s1, s2, s3, s4, s5, s6, s8], s.size ≤ 20 ∧ simp false s = true from fun s hs => by
        obtain ⟨j, hj, rfl⟩ := HLm.out s hs
        exact hA.out j hj)
      have HBo := Lib.hid (HB.out.trans (hb.out.mono (by omega)))
      have HC0 := Lib.hid (fun (w' : World) (hw : Below wo.heap.size wo w') => show w'.cell? ⟨w.heap.size, 0, none⟩ = some (.int .i64 z) ∧ w'.cell? ⟨w.heap.size, 7, none⟩ = some (.string s7) from
        ⟨below_cell (hb.out.trans (hw.mono hb.out.size)) HW0.out (by omega) rfl, below_cell (hb.out.trans (hw.mono hb.out.size)) HW0.out (by omega) rfl⟩)
      have hz5 : s5.size ≤ 20 := (HX.out s5 (by simp)).1
      clear hA hb HW0 HW1 HR HLm HB hsz hc5
      go_loopw [] (fun w' => ∃ (pos b : Nat), w' = wo.iter s5 pos ∧ Hid (nw s5 = nwF s5 b pos) ∧ s5.size ≤ pos + b) (fun w' => s5.size - w'.iterPos wo.heap.size)
      case atStart => exact ⟨0, s5.size, rfl, Lib.hid rfl, by omega⟩
      case round =>
        obtain ⟨pos, b, rfl, hc, hb⟩ := hrel
        by_cases hp : pos < s5.size
        · have hnx : ∀ ty, (Instr.next (.pointer (some ⟨wo.heap.size, 0, none⟩)) true ty).run Tryd.prog (wo.iter s5 pos) = _ := fun ty => run_next_any wo s5 pos ty hp
          have hwd := Lib.decode_width_pos s5 pos hp
          obtain ⟨b, rfl⟩ : ∃ b', b = b' + 1 := ⟨b - 1, by omega⟩
          have Hs := Lib.hid (show nwF s5 (b + 1) pos = (!wideI ((Utf8.decode s5 pos).1 : Int) && nwF s5 b (pos + (Utf8.decode s5 pos).2)) by rw [nwF, if_pos hp])
          have HK := fun W => Lib.hid (wide_any ((Utf8.decode s5 pos).1 : Int) W)
          generalize hd1 : (Utf8.decode s5 pos).1 = r at *
          generalize hd2 : (Utf8.decode s5 pos).2 = wd at *
          cases hk : wideI (r : Int) with
          | false =>
            rw [hk] at HK Hs
            clear hk
            go_wp2_with (go_at_call 17; refine (HK _).out.mono ?_; rintro e w' ⟨rfl, rfl⟩)
            go_roundw
            case rel => exact ⟨pos + wd, b, rfl, Lib.hid (by rw [hc.out, Hs.out]; simp), by omega⟩
            case measure => simp; omega
          | true =>
            rw [hk] at HK Hs
            clear hk
            go_wp2_with (go_at_call 17; refine (HK _).out.mono ?_; rintro e w' ⟨rfl, rfl⟩)
            go_ret
            exact ⟨false, rfl, HBo.out.trans (((Below.refl _ _).alloc (Nat.le_refl _) _).mono (by have := HBo.out.size; omega)), (fun h => by cases h), (fun hS => by have := hS.nw5; rw [hc.out, Hs.out] at this; simp at this)⟩
        · have hnx : ∀ ty, (Instr.next (.pointer (some ⟨wo.heap.size, 0, none⟩)) true ty).run Tryd.prog (wo.iter s5 pos) = _ := fun ty => run_next_end wo s5 pos ty hp
          have HN := Lib.hid (show nw s5 = true by rw [hc.out, nwF_end s5 b pos hp])
          have hbi : Below wo.heap.size wo (wo.iter s5 pos) := (Below.refl _ _).alloc (Nat.le_refl _) _
          obtain ⟨c0, c7⟩ := HC0.out _ hbi
          have HBi := Lib.hid (HBo.out.trans (hbi.mono (by have := HBo.out.size; omega)))
          clear hbi
          by_cases hz0 : z = 0
          · subst hz0
            by_cases h7 : s7 = ⟨#[10]⟩
            · subst h7
              go_wp2_with fail
              go_ret
              exact ⟨true, rfl, HBi.out, fun _ => ⟨rfl, rfl, HX.out, HN.out⟩, fun _ => rfl⟩
            · have h7' : (s7.toList == [10]) = false := by
                rw [beq_eq_false_iff_ne, Lib.toList_data]
                intro e
                exact h7 (WideShapes.bytes_inj (by rw [e]))
              have H7 := Lib.hid h7
              clear h7
              go_wp2_with fail
              go_ret
              exact ⟨false, rfl, HBi.out, (fun h => by cases h), (fun hS => absurd hS.nl H7.out)⟩
          · have hz1 : (z == 0) = false := by rw [beq_eq_false_iff_ne]; exact hz0
            go_wp2_with fail
            go_ret
            exact ⟨false, rfl, HBi.out, (fun h => by cases h), (fun hS => absurd hS.z0 hz0)⟩
end Go.Proofs.YthdkbokdikhojaaDoor
