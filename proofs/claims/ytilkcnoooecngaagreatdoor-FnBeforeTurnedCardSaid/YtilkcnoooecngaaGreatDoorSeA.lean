/- Go's own atof64exact: where it answers, the exponent is at most 37, the mantissa below 2^52. -/
import Derived.Test.YtilkcnoooecngaaGreatDoorSdR
namespace Go.Proofs.YtilkcnoooecngaaGreatDoor
open Go.RowKit
set_option linter.unusedVariables false
/-- The exact powers of ten, as they lie. -/
structure S10 (w : World) (pb po pc : Nat) : Prop where
  i0 : w.cell? ⟨4, 0, none⟩ = some (.int .u64 52)
  pv : w.cell? ⟨8, 0, none⟩ = some (.slice (some ⟨pb, po, none⟩) 23 pc)
  pt : ∀ i, i < 23 → ∃ x : Nat, w.cell? ⟨pb, po + i, none⟩ = some (.float .f64 x)
def ExRet (m : Nat) (p : Int) (w : World) (e : Ending) (w' : World) : Prop := Below w.heap.size w w' ∧ ∃ (f : Nat) (ok : Bool), e = .returned (.tuple #[.float .f64 f, .bool ok]) ∧ (ok = true → m < 4503599627370496 ∧ p ≤ 37)
theorem run_mulf (x y : Nat) (w : World) : ∃ r q, (binOp .mul 24 (.float .f64 x) (.float .f64 y)).run Tryz.prog w = .ok (.float .f64 r) (w.drewN q) := by
  have e : binOp .mul 24 (.float .f64 x) (.float .f64 y) = Op.floatArith .mul .f64 x y := by rfl
  rw [e]
  unfold Op.floatArith
  simp only [Sem.run_bind, Sem.run_pure, Result.andThen_ok]
  cases hd : FloatKind.f64.format.mul x y with
  | some r => exact ⟨r, 0, rfl⟩
  | none =>
    simp only [Sem.run_bind, Sem.run_pure, run_choose]
    split
    · exact ⟨_, 0, rfl⟩
    · exact ⟨_, 1, rfl⟩
theorem run_quof (x y : Nat) (w : World) : ∃ r q, (binOp .quo 24 (.float .f64 x) (.float .f64 y)).run Tryz.prog w = .ok (.float .f64 r) (w.drewN q) := by
  have e : binOp .quo 24 (.float .f64 x) (.float .f64 y) = Op.floatArith .quo .f64 x y := by rfl
  rw [e]
  unfold Op.floatArith
  simp only [Sem.run_bind, Sem.run_pure, Result.andThen_ok]
  cases hd : FloatKind.f64.format.div x y with
  | some r => exact ⟨r, 0, rfl⟩
  | none =>
    simp only [Sem.run_bind, Sem.run_pure, run_choose]
    split
    · exact ⟨_, 0, rfl⟩
    · exact ⟨_, 1, rfl⟩
set_option maxHeartbeats 2000000 in
set_option maxRecDepth 100000 in
theorem ex_any {pb po pc : Nat} (m : Nat) (p : Int) (ng : Bool) (w : World) (hS : S10 w pb po pc) (hm : m < 18446744073709551616) (hp1 : -300000 ≤ p) (hp2 : p ≤ 300000) :
    Calls Tryz.prog 54 #[.int .u64 (m : Int), .int .i64 p, .bool ng] w (ExRet m p w) := by
  have i0 := hS.i0
  have pv := hS.pv
  have HS := Lib.hid hS
  clear hS
  by_cases hm52 : m < 4503599627370496
  · have g1 : ((m : Int) / 4503599627370496 != 0) = false := by
      have : (m : Int) / 4503599627370496 = 0 := by omega
      rw [this]; rfl
    have hneg : ∀ (x : Nat) (W : World), (Op.unary .neg (.float .f64 x)).run Tryz.prog W = .ok (.float .f64 (Op.negFloat .f64 x)) W := fun _ _ => rfl
    go_enter Tryz.func54, Tryz.ntmps54
    go_upto_if 15 with fail
    go_cut [6] (fun a wx => (∃ f : Nat, a = .float .f64 f) ∧ wx = w)
    case first =>
      as_aux_lemma =>
      cases ng
      · go_wp2_with fail
        go_meet
        exact ⟨⟨_, rfl⟩, rfl⟩
      · go_wp2_with fail
        go_meet
        exact ⟨⟨_, rfl⟩, rfl⟩
    case rest =>
    as_aux_lemma =>
    obtain ⟨⟨f, rfl⟩, rfl⟩ := hcut
    clear hneg g1
    rcases (show p = 0 ∨ 37 < p ∨ p < -22 ∨ (0 < p ∧ p ≤ 22) ∨ (22 < p ∧ p ≤ 37) ∨ (-22 ≤ p ∧ p < 0) by omega) with h | h | h | ⟨h, h'⟩ | ⟨h, h'⟩ | ⟨h, h'⟩
    · subst h
      go_wp2_with fail
      go_ret2
      exact ⟨Below.refl _ _, _, _, rfl, fun _ => ⟨hm52, by decide⟩⟩
    · go_wp2_with fail
      go_ret2
      exact ⟨Below.refl _ _, _, _, rfl, fun h => by cases h⟩
    · go_wp2_with fail
      go_ret2
      exact ⟨Below.refl _ _, _, _, rfl, fun h => by cases h⟩
    · obtain ⟨n, rfl⟩ : ∃ n : Nat, p = n := ⟨p.toNat, by omega⟩
      obtain ⟨x, hx⟩ := HS.out.pt n (by omega)
      obtain ⟨b1, hb1⟩ : ∃ b, (FloatKind.f64.format.order f 4831355200913801216 == some Ordering.gt) = b := ⟨_, rfl⟩
      obtain ⟨b2, hb2⟩ : ∃ b, (FloatKind.f64.format.order f 14054727237768577024 == some Ordering.lt) = b := ⟨_, rfl⟩
      obtain ⟨r, q, hr⟩ := run_mulf f x wc
      cases b1
      · cases b2
        · go_wp2_with fail
          go_ret2
          exact ⟨Below.drewK _ _ _, _, _, rfl, fun _ => ⟨hm52, by omega⟩⟩
        · go_wp2_with fail
          go_ret2
          exact ⟨Below.refl _ _, _, _, rfl, fun h => by cases h⟩
      · go_wp2_with fail
        go_ret2
        exact ⟨Below.refl _ _, _, _, rfl, fun h => by cases h⟩
    · obtain ⟨n, hpn⟩ : ∃ n : Nat, p - 22 = n := ⟨(p - 22).toNat, by omega⟩
      obtain ⟨x, hx⟩ := HS.out.pt n (by omega)
      obtain ⟨y, hy⟩ := HS.out.pt 22 (by omega)
      obtain ⟨r, q, hr⟩ := run_mulf f x wc
      obtain ⟨b1, hb1⟩ : ∃ b, (FloatKind.f64.format.order r 4831355200913801216 == some Ordering.gt) = b := ⟨_, rfl⟩
      obtain ⟨b2, hb2⟩ : ∃ b, (FloatKind.f64.format.order r 14054727237768577024 == some Ordering.lt) = b := ⟨_, rfl⟩
      obtain ⟨r2, q2, hr2⟩ := run_mulf r y (wc.drewN q)
      cases b1
      · cases b2
        · go_wp2_with fail
          go_ret2
          exact ⟨by (try simp only [World.drewN_drewN]); exact Below.drewK _ _ _, _, _, rfl, fun _ => ⟨hm52, by omega⟩⟩
        · go_wp2_with fail
          go_ret2
          exact ⟨Below.drewK _ _ _, _, _, rfl, fun h => by cases h⟩
      · go_wp2_with fail
        go_ret2
        exact ⟨Below.drewK _ _ _, _, _, rfl, fun h => by cases h⟩
    · obtain ⟨n, rfl⟩ : ∃ n : Nat, p = -(n : Int) := ⟨(-p).toNat, by omega⟩
      obtain ⟨x, hx⟩ := HS.out.pt n (by omega)
      obtain ⟨r, q, hr⟩ := run_quof f x wc
      go_wp2_with fail
      go_ret2
      exact ⟨Below.drewK _ _ _, _, _, rfl, fun _ => ⟨hm52, by omega⟩⟩
  · have g1 : ((m : Int) / 4503599627370496 != 0) = true := by rw [bne_iff_ne]; omega
    go_enter Tryz.func54, Tryz.ntmps54
    go_wp2_with fail
    go_ret2
    exact ⟨Below.refl _ _, _, _, rfl, fun h => by cases h⟩
end Go.Proofs.YtilkcnoooecngaaGreatDoor
