/- A list as the reference draws it: TxTimes, LsBullet. -/
import Derived.Test.YthdkbokdikhojaaDoorLdU
namespace Go.Proofs.YthdkbokdikhojaaDoor
open Go.RowKit
set_option linter.unusedVariables false
theorem infoB_V : (Tryd.prog.info? 5).map (fun i => (i.zero, i.size, i.bytes)) = some (some (.int .u8 0), 1, 1) := by kernel_rfl
theorem repeatL_one (k : Nat) : Lib.repeatL [32] (k + 1) = Lib.repeatL [32] k ++ [32] := by
  induction k with
  | zero => rfl
  | succ k ih =>
    show [32] ++ Lib.repeatL [32] (k + 1) = ([32] ++ Lib.repeatL [32] k) ++ [32]
    rw [ih, List.append_assoc]
theorem repeatL_length (k : Nat) : (Lib.repeatL [32] k).length = k := by
  induction k with
  | zero => rfl
  | succ k ih => rw [repeatL_one, List.length_append, ih]; rfl
theorem own_to {w : World} {B : Nat} {e : TypeId} {size n n' : Nat} {v : Value} {xs : List Value} (h : n = n') (hown : w.ownsRow B e size v n xs) : w.ownsRow B e size v n' xs := h ▸ hown
set_option maxHeartbeats 1000000 in
set_option maxRecDepth 100000 in
theorem times_any (m : Nat) (w : World) (hm : m ≤ 1000) :
    Calls Tryd.prog 35 #[.string ⟨#[32]⟩, .int .i64 m] w fun e w' => e = .returned (.string (spaces m)) ∧ Below w.heap.size w w' := by
  obtain ⟨i0, hi, hz0, hz1, hz2⟩ := info_parts infoB_V
  obtain ⟨w1, hmk, own0, grow0⟩ := run_make_own (P := Tryd.prog) w w.heap.size 60 5 i0 (.int .u8 0) 1 Tryd.underlying60 hi hz0 hz1 .i64 .i64 m (by rw [hz2]; omega) (by unfold maxLen; omega) (Nat.le_refl _)
  have hmx : max (m : Int) 0 = m := by omega
  have h1m : ((1 : Int) * (m : Int)) = m := by omega
  go_enter Tryd.func35, Tryd.ntmps35
  go_wp2_with fail
  generalize hv0 : Value.slice (some ⟨w.heap.size, 0, none⟩) 0 m = v0 at *
  have HB1 := Lib.hid ((Below.refl w.heap.size w).grown grow0 (Nat.le_refl _) (fun k hk => by cases hk))
  clear hv0 grow0 hmk hmx h1m
  go_loopw [5, 13] (fun v iv wr => ∃ (k : Nat), k ≤ m ∧ iv = .int .i64 (k : Int) ∧ wr.ownsRow w.heap.size 5 1 v k (bcells (Lib.repeatL [32] k)) ∧ Hid (Below w.heap.size w wr)) (fun _ iv _ => m - (intOf iv).toNat)
  case atStart => exact ⟨0, Nat.zero_le _, rfl, own0, HB1⟩
  case round =>
    obtain ⟨k, hk, rfl, hown, HB⟩ := hrel
    obtain ⟨wo, rfl⟩ : ∃ wo : World, wo = wr := ⟨_, rfl⟩
    have hBs := HB.out.size
    by_cases hlt : k < m
    · have b1 : k + (⟨#[32]⟩ : ByteArray).size ≤ maxLen := by unfold maxLen; show k + 1 ≤ _; omega
      have b2 : k + (⟨#[32]⟩ : ByteArray).size ≤ 140737488355328 := by show k + 1 ≤ _; omega
      have HR := Lib.hid (repeatL_one k)
      go_wp2_with (at_builtin; refine halt_U ?_)
      refine resume_U ?_
      refine Lib.wpList_append_own_string _ rfl _ _ 60 9 rfl w.heap.size 5 i0 Tryd.underlying60 Tryd.underlying9 hi hz0 hz1 hz2 _ k _ rfl hown (⟨#[32]⟩ : ByteArray) rfl b1 b2 hBs ?_
      intro v' w2 hown1 hgrow _
      rw [bcells_str, ← bcells_append, show (⟨#[32]⟩ : ByteArray).data.toList = [32] from rfl, ← HR.out, show k + (⟨#[32]⟩ : ByteArray).size = k + 1 from rfl] at hown1
      have HB2 := Lib.hid (HB.out.grown hgrow hBs (fun k hk => (hown.lt k hk).1))
      clear hgrow hown
      go_wp2_with fail
      go_roundw
      case rel => exact ⟨k + 1, by omega, by go_num, hown1, HB2⟩
      case measure => simp [intOf]; omega
    · have hke : k = m := by omega
      subst hke
      have hown' := own_to (repeatL_length k).symm hown
      have hcv := conv_own (P := Tryd.prog) Tryd.underlying60 Tryd.underlying5 Tryd.underlying9 hown'
      clear hown hown'
      go_wp2_with fail
      go_ret
      exact ⟨rfl, HB.out⟩
def bulW (D : LD) (l : List (ByteArray × Int)) (n k : Nat) : ByteArray :=
  if n = 1 then D.s1 else if k = 0 then D.s2 else if more (lv l k) ((lvs l).drop (k + 1)) then (if firstW l k then D.s3 else D.s4) else D.s6
abbrev boxO (D : LD) : Obj := .cells #[.int .i64 0, .string D.s1, .string D.s2, .string D.s3, .string D.s4, .string D.s5, .string D.s6, .string D.s7, .string D.s8] 24
def styD (D : LD) : Value := .agg #[.int .i64 0, .string D.s1, .string D.s2, .string D.s3, .string D.s4, .string D.s5, .string D.s6, .string D.s7, .string D.s8]
def BxC (b : Nat) (D : LD) (w : World) : Prop := w.cell? ⟨b, 0, none⟩ = some (.int .i64 0) ∧ w.cell? ⟨b, 1, none⟩ = some (.string D.s1) ∧ w.cell? ⟨b, 2, none⟩ = some (.string D.s2) ∧ w.cell? ⟨b, 3, none⟩ = some (.string D.s3) ∧ w.cell? ⟨b, 4, none⟩ = some (.string D.s4) ∧ w.cell? ⟨b, 5, none⟩ = some (.string D.s5) ∧ w.cell? ⟨b, 6, none⟩ = some (.string D.s6) ∧ w.cell? ⟨b, 7, none⟩ = some (.string D.s7) ∧ w.cell? ⟨b, 8, none⟩ = some (.string D.s8)
theorem BxC.of {b : Nat} {D : LD} {w : World} (h : w.heap[b]? = some (.cells #[.int .i64 0, .string D.s1, .string D.s2, .string D.s3, .string D.s4, .string D.s5, .string D.s6, .string D.s7, .string D.s8] 24 (0, 0))) : BxC b D w := by
  have q := fun k => cell_of_row w b k _ 24 (0, 0) h
  exact ⟨q 0, q 1, q 2, q 3, q 4, q 5, q 6, q 7, q 8⟩
theorem BxC.below {b : Nat} {D : LD} {w w' : World} {B : Nat} (h : BxC b D w) (hb : Below B w w') (hlt : b < B) : BxC b D w' := by
  have c := fun k => hb.cell (p := ⟨b, k, none⟩) hlt
  obtain ⟨h0, h1, h2, h3, h4, h5, h6, h7, h8⟩ := h
  exact ⟨(c 0).trans h0, (c 1).trans h1, (c 2).trans h2, (c 3).trans h3, (c 4).trans h4, (c 5).trans h5, (c 6).trans h6, (c 7).trans h7, (c 8).trans h8⟩
theorem BxC.new (D : LD) (w : World) : BxC w.heap.size D (w.alloc (boxO D)) := BxC.of (heap_alloc_new w (boxO D))
set_option maxHeartbeats 2000000 in
set_option maxRecDepth 100000 in
theorem lsBullet_any (D : LD) (A : Option Addr) (n cap : Nat) (l : List (ByteArray × Int)) (at_ : Nat) (B : Nat) (w : World) (hB : B ≤ w.heap.size) (h : LsArg w B A n cap l) (hat : at_ < n) :
    Calls Tryd.prog 37 #[.slice A n cap, .int .i64 at_, styD D] w fun e w' => e = .returned (.string (bulW D l n at_)) ∧ Below w.heap.size w w' := by
  have hm := h.2.2.2
  have hnc := h.2.2.1
  unfold maxLen at hm
  have hBa := (Below.refl w.heap.size w).alloc (Nat.le_refl _) (boxO D)
  have hsz : w.heap.size < (w.alloc (boxO D)).heap.size := by simp
  have hAa := h.below (hBa.mono hB)
  have HM := Lib.hid (lsMore_any A n cap l at_ (lv l at_) B _ (Nat.le_of_lt (Nat.lt_of_le_of_lt hB hsz)) hAa hat)
  have HF := Lib.hid (fun (w' : World) (hb : Below B (w.alloc (boxO D)) w') (hs : B ≤ w'.heap.size) => lsFirst_any A n cap l at_ B w' hs (hAa.below hb) hat)
  have HN := Lib.hid (BxC.new D w)
  have HBa := Lib.hid hBa
  have HS := Lib.hid hsz
  obtain ⟨b, o, rfl, hb, hc⟩ := hAa.cell hat
  obtain ⟨-, d1⟩ := hc at_ hat
  have hBw := Lib.hid hB
  obtain ⟨M, hM⟩ : ∃ M, more (lv l at_) ((lvs l).drop (at_ + 1)) = M := ⟨_, rfl⟩
  have HV := Lib.hid (show bulW D l n at_ = if n = 1 then D.s1 else if at_ = 0 then D.s2 else if M then (if firstW l at_ then D.s3 else D.s4) else D.s6 by unfold bulW; rw [hM])
  rw [hM] at HM
  unfold styD
  clear hM h hAa hc hBa hsz
  generalize lv l at_ = z at *
  go_enter Tryd.func37, Tryd.ntmps37
  generalize hwa : w.alloc (.cells #[.int .i64 0, .string D.s1, .string D.s2, .string D.s3, .string D.s4, .string D.s5, .string D.s6, .string D.s7, .string D.s8] 24) = wa at *
  go_wp2_with (go_at_call 16; refine halt_U ?_)
  refine resume_U ?_
  refine HM.out.mono ?_
  rintro e w1 ⟨rfl, k1⟩
  have HX := Lib.hid (HN.out.below k1 HS.out)
  have HW1 := Lib.hid (HBa.out.trans (k1.mono (Nat.le_of_lt HS.out)))
  have HF1 := Lib.hid (HF.out w1 (k1.mono (Nat.le_trans hBw.out (Nat.le_of_lt HS.out))) (Nat.le_trans hBw.out (Nat.le_trans (Nat.le_of_lt HS.out) k1.size)))
  have hw1 : w.heap.size < w1.heap.size := Nat.lt_of_lt_of_le HS.out k1.size
  have HW := Lib.hid hw1
  obtain ⟨x0, x1, x2, x3, x4, x5, x6, x7, x8⟩ := HX.out
  clear k1 HM HF HN HBa HS hBw hwa d1 hw1
  by_cases h1 : n = 1
  · subst h1
    go_wp2_with fail
    go_ret
    exact ⟨rfl, HW1.out⟩
  · have g1 : ((n : Int) == 1) = false := by rw [beq_eq_false_iff_ne]; omega
    have HN1 := Lib.hid h1
    clear h1
    by_cases h2 : at_ = 0
    · subst h2
      go_wp2_with fail
      go_ret
      exact ⟨ret_str (by rw [HV.out, if_neg HN1.out]; simp), HW1.out⟩
    · have g2 : ((at_ : Int) == 0) = false := by rw [beq_eq_false_iff_ne]; omega
      have HN2 := Lib.hid h2
      clear h2
      cases M with
      | false =>
        go_wp2_with fail
        go_ret
        exact ⟨ret_str (by rw [HV.out, if_neg HN1.out, if_neg HN2.out]; rfl), HW1.out⟩
      | true =>
        cases hf : firstW l at_ with
        | true =>
          rw [hf] at HF1 HV
          clear hf
          go_wp2_with (go_at_call 55; refine HF1.out.mono ?_; rintro e w2 ⟨rfl, k2⟩; have x3' := (k2.cell (p := ⟨w.heap.size, 3, none⟩) HW.out).trans x3; have K2 := Lib.hid k2; clear k2 x0 x1 x2 x3 x4 x5 x6 x7 x8)
          go_ret
          exact ⟨ret_str (by rw [HV.out, if_neg HN1.out, if_neg HN2.out]; rfl), HW1.out.trans (K2.out.mono (Nat.le_of_lt HW.out))⟩
        | false =>
          rw [hf] at HF1 HV
          clear hf
          go_wp2_with (go_at_call 55; refine HF1.out.mono ?_; rintro e w2 ⟨rfl, k2⟩; have x4' := (k2.cell (p := ⟨w.heap.size, 4, none⟩) HW.out).trans x4; have K2 := Lib.hid k2; clear k2 x0 x1 x2 x3 x4 x5 x6 x7 x8)
          go_ret
          exact ⟨ret_str (by rw [HV.out, if_neg HN1.out, if_neg HN2.out]; rfl), HW1.out.trans (K2.out.mono (Nat.le_of_lt HW.out))⟩
end Go.Proofs.YthdkbokdikhojaaDoor
