/- shift: a decimal times a power of two. Shifts of at most 300000. -/
import Derived.Test.YtilkcnoooecngaaGreatDoorBtG
namespace Go.Proofs.YtilkcnoooecngaaGreatDoor
open Go.RowKit
set_option linter.unusedVariables false
/-- A decimal halved, doubled, shifted: told. -/
def HalfR (k : Nat) (a b : List Nat × Int) : Prop := ∃ r i, Halfd a.1 k r i ∧ b = (trimD r, a.2 - ((i : Int) - 1))
def DblR (k : Nat) (a b : List Nat × Int) : Prop := ∃ r i, Dbld a.1 (2 ^ k) r i ∧ b = (trimD r, a.2 + (i : Int))
theorem HalfR.uniq {k : Nat} {a b c : List Nat × Int} (h : HalfR k a b) (h' : HalfR k a c) : b = c := by
  obtain ⟨r, i, h1, rfl⟩ := h
  obtain ⟨r', i', h1', rfl⟩ := h'
  obtain ⟨rfl, rfl⟩ := h1.uniq h1'
  rfl
theorem DblR.uniq {k : Nat} {a b c : List Nat × Int} (h : DblR k a b) (h' : DblR k a c) : b = c := by
  obtain ⟨r, i, h1, rfl⟩ := h
  obtain ⟨r', i', h1', rfl⟩ := h'
  obtain ⟨rfl, rfl⟩ := h1.uniq h1'
  rfl
inductive ShiftR : Int → List Nat × Int → List Nat × Int → Prop
  | up {z : Int} {a b c : List Nat × Int} (hz : 59 < z) (h : DblR 59 a b) (k : ShiftR (z - 59) b c) : ShiftR z a c
  | down {z : Int} {a b c : List Nat × Int} (hz : z < -59) (h : HalfR 59 a b) (k : ShiftR (z + 59) b c) : ShiftR z a c
  | dbl {z : Int} {a b : List Nat × Int} (k : Nat) (hz : z = k) (h0 : 0 < k) (h1 : k ≤ 59) (h : DblR k a b) : ShiftR z a b
  | hlf {z : Int} {a b : List Nat × Int} (k : Nat) (hz : z = -(k : Int)) (h0 : 0 < k) (h1 : k ≤ 59) (h : HalfR k a b) : ShiftR z a b
  | non {z : Int} {a : List Nat × Int} (hz : z = 0) : ShiftR z a a
theorem ShiftR.uniq {z : Int} {a b c : List Nat × Int} (h : ShiftR z a b) (h' : ShiftR z a c) : b = c := by
  induction h with
  | up hz h k ih =>
    cases h' with
    | up hz' h' k' => obtain rfl := h.uniq h'; exact ih k'
    | down hz' h' k' => omega
    | dbl k' hz' h0 h1 h' => omega
    | hlf k' hz' h0 h1 h' => omega
    | non hz' => omega
  | down hz h k ih =>
    cases h' with
    | up hz' h' k' => omega
    | down hz' h' k' => obtain rfl := h.uniq h'; exact ih k'
    | dbl k' hz' h0 h1 h' => omega
    | hlf k' hz' h0 h1 h' => omega
    | non hz' => omega
  | dbl k hz h0 h1 h =>
    cases h' with
    | up hz' h' k' => omega
    | down hz' h' k' => omega
    | dbl k' hz' h0 h1 h' =>
      obtain rfl : k = k' := by omega
      exact h.uniq h'
    | hlf k' hz' h0 h1 h' => omega
    | non hz' => omega
  | hlf k hz h0 h1 h =>
    cases h' with
    | up hz' h' k' => omega
    | down hz' h' k' => omega
    | dbl k' hz' h0 h1 h' => omega
    | hlf k' hz' h0 h1 h' =>
      obtain rfl : k = k' := by omega
      exact h.uniq h'
    | non hz' => omega
  | non hz =>
    cases h' with
    | up hz' h' k' => omega
    | down hz' h' k' => omega
    | dbl k' hz' h0 h1 h' => omega
    | hlf k' hz' h0 h1 h' => omega
    | non hz' => rfl
def ShiftRet (B b : Nat) (K : Int) (ds : List Nat) (dp : Int) (w : World) (e : Ending) (w' : World) : Prop :=
  e = .returned (.tuple #[]) ∧ (∃ (v' : Value) (r : List Nat) (dp' : Int), Good r ∧ r.length ≤ ds.length + 2 * K.natAbs + 70 ∧ (dp' - dp).natAbs ≤ K.natAbs + 20 ∧ Dec w' B b v' r dp' ∧ ShiftR K (ds, dp) (r, dp')) ∧ Fm B w w'
theorem half_step {B b k : Nat} {v : Value} {ds : List Nat} {dp : Int} {w : World} (h : Dec w B b v ds dp) (hg : Good ds) (hl : ds.length ≤ 100000000) (hk1 : 1 ≤ k) (hk2 : k ≤ 59) (hdp : -1000000 ≤ dp ∧ dp ≤ 1000000) :
    Calls Tryz.prog 70 #[.pointer (some ⟨b, 0, none⟩), .int .i64 (k : Int)] w (fun e w' => e = .returned (.tuple #[]) ∧ (∃ (v' : Value) (r : List Nat) (dp' : Int), Good r ∧ r.length ≤ ds.length + 63 ∧ (dp' - dp).natAbs ≤ 20 ∧ Dec w' B b v' r dp' ∧ HalfR k (ds, dp) (r, dp')) ∧ Fm B w w') := by
  refine (half_any B b k v ds dp w h hg hl hk1 hk2 hdp).mono ?_
  rintro e w' ⟨rfl, ⟨v', r, i, hH, hD⟩, k⟩
  have h1 := hH.pos
  have h2 := hH.few
  have h3 := hH.len
  have h4 := trimD_len r
  exact ⟨rfl, ⟨v', trimD r, _, (trimD_good hH.good).1, by omega, by omega, hD, r, i, hH, rfl⟩, k⟩
theorem double_step {B b k : Nat} {v : Value} {ds : List Nat} {dp : Int} {w : World} (h : Dec w B b v ds dp) (hg : Good ds) (hl : ds.length ≤ 100000000) (hk1 : 1 ≤ k) (hk2 : k ≤ 59) (hdp : -1000000 ≤ dp ∧ dp ≤ 1000000) :
    Calls Tryz.prog 71 #[.pointer (some ⟨b, 0, none⟩), .int .i64 (k : Int)] w (fun e w' => e = .returned (.tuple #[]) ∧ (∃ (v' : Value) (r : List Nat) (dp' : Int), Good r ∧ r.length ≤ ds.length + 63 ∧ (dp' - dp).natAbs ≤ 20 ∧ Dec w' B b v' r dp' ∧ DblR k (ds, dp) (r, dp')) ∧ Fm B w w') := by
  refine (double_any B b k v ds dp w h hg hl hk1 hk2 hdp).mono ?_
  rintro e w' ⟨rfl, ⟨v', r, i, hH, hD⟩, k⟩
  have h2 := hH.few
  have h3 := hH.len
  have h4 := trimD_len r
  exact ⟨rfl, ⟨v', trimD r, _, (trimD_good hH.good).1, by omega, by omega, hD, r, i, hH, rfl⟩, k⟩
set_option maxHeartbeats 2000000 in
set_option maxRecDepth 100000 in
theorem shift_any (B b : Nat) (K : Int) (v : Value) (ds : List Nat) (dp : Int) (w : World) (h : Dec w B b v ds dp) (hg : Good ds) (hl : ds.length ≤ 50000000) (hK : -300000 ≤ K ∧ K ≤ 300000) (hdp : -500000 ≤ dp ∧ dp ≤ 500000) :
    Calls Tryz.prog 68 #[.pointer (some ⟨b, 0, none⟩), .int .i64 K] w (ShiftRet B b K ds dp w) := by
  have HH := Lib.hid (show ∃ (v' : Value) (r : List Nat) (dp' : Int), Good r ∧ r.length + 2 * K.natAbs ≤ ds.length + 2 * K.natAbs ∧ (dp' - dp).natAbs + K.natAbs ≤ K.natAbs ∧ Dec w B b v' r dp' ∧ Fm B w w ∧ ∀ c, ShiftR K (r, dp') c → ShiftR K (ds, dp) c from ⟨v, ds, dp, hg, by omega, by omega, h, Fm.refl _ _, fun _ h => h⟩)
  obtain ⟨hK1, hK2⟩ := hK
  clear h hg
  go_enter Tryz.func68, Tryz.ntmps68
  go_wp2_with fail
  go_loopw [1] (fun kv wr => ∃ (z : Int), kv = .int .i64 z ∧ -300000 ≤ z ∧ z ≤ 300000 ∧ Hid (∃ (v' : Value) (r : List Nat) (dp' : Int), Good r ∧ r.length + 2 * z.natAbs ≤ ds.length + 2 * K.natAbs ∧ (dp' - dp).natAbs + z.natAbs ≤ K.natAbs ∧ Dec wr B b v' r dp' ∧ Fm B w wr ∧ ∀ c, ShiftR z (r, dp') c → ShiftR K (ds, dp) c)) (fun kv _ => (intOf kv).toNat)
  case atStart => exact ⟨K, rfl, hK1, hK2, HH⟩
  case round =>
    obtain ⟨z, rfl, hz1, hz2, HH1⟩ := hrel
    by_cases h59 : z > 59
    · obtain ⟨v', r, dp', hg, h1, h2, hD, hB, hq⟩ := HH1.out
      have HQ := Lib.hid hq
      clear hq
      have hT : Calls Tryz.prog 71 #[.pointer (some ⟨b, 0, none⟩), .int .i64 59] wr _ := double_step (k := 59) hD hg (by omega) (by omega) (by omega) (by omega)
      have HB := Lib.hid hB
      have H12 := Lib.hid (And.intro h1 h2)
      clear hD hg hB h1 h2
      go_wp2_with (go_at_call 71; refine halt_H ?_)
      refine resume_H ?_
      refine hT.mono ?_
      rintro e w1 ⟨rfl, ⟨v1, r1, dp1, hg1, hl1, hdp1, hD1, hR1⟩, k1⟩
      have HH2 := Lib.hid (show ∃ (v' : Value) (r : List Nat) (dp' : Int), Good r ∧ r.length + 2 * (z - 59).natAbs ≤ ds.length + 2 * K.natAbs ∧ (dp' - dp).natAbs + (z - 59).natAbs ≤ K.natAbs ∧ Dec w1 B b v' r dp' ∧ Fm B w w1 ∧ ∀ c, ShiftR (z - 59) (r, dp') c → ShiftR K (ds, dp) c from
        ⟨v1, r1, dp1, hg1, by have := H12.out.1; omega, by have := H12.out.2; omega, hD1, HB.out.trans k1, fun c hc => HQ.out c (.up (by omega) hR1 hc)⟩)
      clear hT hg1 hl1 hdp1 hD1 hR1 k1
      go_wp2_with fail
      go_roundw
      case rel => exact ⟨z - 59, rfl, by omega, by omega, HH2⟩
      case measure => simp [intOf]; omega
    · go_wp2_with fail
      go_loopw [1] (fun kv wr => ∃ (z : Int), kv = .int .i64 z ∧ -300000 ≤ z ∧ z ≤ 59 ∧ Hid (∃ (v' : Value) (r : List Nat) (dp' : Int), Good r ∧ r.length + 2 * z.natAbs ≤ ds.length + 2 * K.natAbs ∧ (dp' - dp).natAbs + z.natAbs ≤ K.natAbs ∧ Dec wr B b v' r dp' ∧ Fm B w wr ∧ ∀ c, ShiftR z (r, dp') c → ShiftR K (ds, dp) c)) (fun kv _ => (- intOf kv).toNat)
      case atStart => exact ⟨z, rfl, hz1, by omega, HH1⟩
      case round =>
        clear HH1 h59 hz1 hz2
        rename_i zz
        obtain ⟨z, rfl, hz1, hz2, HH1⟩ := hrel
        obtain ⟨v', r, dp', hg, h1, h2, hD, hB, hq⟩ := HH1.out
        have HQ := Lib.hid hq
        clear hq
        have HB := Lib.hid hB
        have H12 := Lib.hid (And.intro h1 h2)
        by_cases h59 : z < -59
        · have hT : Calls Tryz.prog 70 #[.pointer (some ⟨b, 0, none⟩), .int .i64 59] wr _ := half_step (k := 59) hD hg (by omega) (by omega) (by omega) (by omega)
          clear hD hg hB h1 h2
          go_wp2_with (go_at_call 70; refine halt_H ?_)
          refine resume_H ?_
          refine hT.mono ?_
          rintro e w1 ⟨rfl, ⟨v1, r1, dp1, hg1, hl1, hdp1, hD1, hR1⟩, k1⟩
          have HH2 := Lib.hid (show ∃ (v' : Value) (r : List Nat) (dp' : Int), Good r ∧ r.length + 2 * (z + 59).natAbs ≤ ds.length + 2 * K.natAbs ∧ (dp' - dp).natAbs + (z + 59).natAbs ≤ K.natAbs ∧ Dec w1 B b v' r dp' ∧ Fm B w w1 ∧ ∀ c, ShiftR (z + 59) (r, dp') c → ShiftR K (ds, dp) c from
            ⟨v1, r1, dp1, hg1, by have := H12.out.1; omega, by have := H12.out.2; omega, hD1, HB.out.trans k1, fun c hc => HQ.out c (.down (by omega) hR1 hc)⟩)
          clear hT hg1 hl1 hdp1 hD1 hR1 k1
          go_wp2_with fail
          go_roundw
          case rel => exact ⟨z + 59, rfl, by omega, by omega, HH2⟩
          case measure => simp [intOf]; omega
        · rcases Int.lt_trichotomy z 0 with hlt | rfl | hgt
          · obtain ⟨k, hk⟩ : ∃ k : Nat, -z = (k : Int) := ⟨(-z).toNat, by omega⟩
            have hT := half_step (k := k) hD hg (by omega) (by omega) (by omega) (by omega)
            have g0 : decide (z > 0) = false := decide_eq_false (by omega)
            have g1 : decide (z < 0) = true := decide_eq_true (by omega)
            clear hD hg hB h1 h2
            go_wp2_with (go_at_call 70; refine halt_H ?_)
            refine resume_H ?_
            refine hT.mono ?_
            rintro e w1 ⟨rfl, ⟨v1, r1, dp1, hg1, hl1, hdp1, hD1, hR1⟩, k1⟩
            have HD1 := Lib.hid hD1
            have HR1 := Lib.hid hR1
            have HG1 := Lib.hid hg1
            have HK1 := Lib.hid (HB.out.trans k1)
            have HL1 := Lib.hid (And.intro hl1 hdp1)
            clear hT hg1 hl1 hdp1 hD1 hR1 k1
            go_wp2
            go_end0
            exact ⟨rfl, ⟨v1, r1, dp1, HG1.out, by have := HL1.out.1; have := H12.out.1; omega, by have := HL1.out.2; have := H12.out.2; omega, HD1.out, HQ.out _ (.hlf k (by omega) (by omega) (by omega) HR1.out)⟩, HK1.out⟩
          · have HD1 := Lib.hid hD
            have HG1 := Lib.hid hg
            clear hD hg hB h1 h2
            go_wp2
            go_end0
            exact ⟨rfl, ⟨v', r, dp', HG1.out, by have := H12.out.1; omega, by have := H12.out.2; omega, HD1.out, HQ.out _ (.non rfl)⟩, HB.out⟩
          · obtain ⟨k, rfl⟩ : ∃ k : Nat, z = (k : Int) := ⟨z.toNat, by omega⟩
            have hT := double_step (k := k) hD hg (by omega) (by omega) (by omega) (by omega)
            have hk0 : 0 < k := by omega
            clear hD hg hB h1 h2
            go_wp2_with (go_at_call 71; refine halt_H ?_)
            refine resume_H ?_
            refine hT.mono ?_
            rintro e w1 ⟨rfl, ⟨v1, r1, dp1, hg1, hl1, hdp1, hD1, hR1⟩, k1⟩
            have HD1 := Lib.hid hD1
            have HR1 := Lib.hid hR1
            have HG1 := Lib.hid hg1
            have HK1 := Lib.hid (HB.out.trans k1)
            have HL1 := Lib.hid (And.intro hl1 hdp1)
            clear hT hg1 hl1 hdp1 hD1 hR1 k1
            go_wp2
            go_end0
            exact ⟨rfl, ⟨v1, r1, dp1, HG1.out, by have := HL1.out.1; have := H12.out.1; omega, by have := HL1.out.2; have := H12.out.2; omega, HD1.out, HQ.out _ (.dbl k rfl (by omega) (by omega) HR1.out)⟩, HK1.out⟩
end Go.Proofs.YtilkcnoooecngaaGreatDoor
