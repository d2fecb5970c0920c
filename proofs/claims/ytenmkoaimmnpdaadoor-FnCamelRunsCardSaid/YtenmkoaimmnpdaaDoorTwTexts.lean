/- Comparing two rows of texts of the call's own: the walk of spec.TwTexts at equal rows. No conditions. -/
import Derived.Test.YtenmkoaimmnpdaaDoorProg
import Derived.Test.YtenmkoaimmnpdaaDoorBase
import Derived.Test.YtenmkoaimmnpdaaDoorTxt
import Derived.WalkKit
import Derived.Handy
import Derived.BigQuiet
namespace Go.Proofs.YtenmkoaimmnpdaaDoor
open Go.RowKit
set_option linter.unusedVariables false
theorem own_tag {w : World} {B B' : Nat} {e e' : TypeId} {s s' n n' : Nat} {v v' : Value} {xs xs' : List Value} (h : w.ownsRow B e s v n xs) (h' : w.ownsRow B' e' s' v' n' xs') (hne : e ≠ e') : v.ownBlock = none ∨ v.ownBlock ≠ v'.ownBlock := by
  rcases h.2 with ⟨rfl, _⟩ | ⟨g, cap, cur, rfl, _, hg, _⟩
  · exact .inl rfl
  · refine .inr ?_
    rcases h'.2 with ⟨rfl, _⟩ | ⟨g', cap', cur', rfl, _, hg', _⟩
    · simp [Value.ownBlock]
    · intro x
      simp only [Value.ownBlock, Option.some.injEq] at x
      subst x
      rw [hg] at hg'
      simp only [Option.some.injEq, Obj.cells.injEq] at hg'
      exact hne hg'.2.1
theorem own_below {w w1 : World} {B e size n : Nat} {v : Value} {xs : List Value} (h : w.ownsRow B e size v n xs) (hb : Below w.heap.size w w1) : w1.ownsRow B e size v n xs :=
  h.kept (row := none) ⟨hb.os, hb.tape, hb.output, hb.size, fun k hk _ => hb.block k hk⟩ (by cases hv : v.ownBlock <;> simp)
theorem own_pos1 {w : World} {B e size n : Nat} {v : Value} {xs : List Value} (h : w.ownsRow B e size v n xs) (hn : 0 < n) : ∃ g cap, v = .slice (some ⟨g, 0, none⟩) n cap ∧ g < w.heap.size := by
  rcases h.2 with ⟨_, h0⟩ | ⟨g, cap, cur, rfl, hb, hg, _⟩
  · omega
  · exact ⟨g, cap, rfl, (Array.getElem?_eq_some_iff.1 hg).1⟩
theorem own_shape {w : World} {B e size n : Nat} {v : Value} {xs : List Value} (h : w.ownsRow B e size v n xs) : ∃ a cap, v = .slice a n cap ∧ (0 < n → ∃ g, a = some ⟨g, 0, none⟩) := by
  rcases h.2 with ⟨rfl, h0⟩ | ⟨g, cap, cur, rfl, hb, hg, _⟩
  · subst h0; exact ⟨none, 0, rfl, fun h => absurd h (by omega)⟩
  · exact ⟨_, cap, rfl, fun _ => ⟨g, rfl⟩⟩
/-- A row of texts, as a reader sees it. -/
def Seen (w : World) (a : Option Addr) (ls : List (List UInt8)) : Prop := ∀ k, k < ls.length → ∃ g, a = some ⟨g, 0, none⟩ ∧ w.cell? ⟨g, k, none⟩ = some (strV (ls.getD k []))
theorem seen_of {w : World} {B : Nat} {v : Value} {e : TypeId} {ls : List (List UInt8)} (h : w.ownsRow B e 1 v ls.length (ls.map strV)) : ∃ a cap, v = .slice a ls.length cap ∧ Seen w a ls := by
  obtain ⟨a, cap, rfl, hg⟩ := own_shape h
  refine ⟨a, cap, rfl, fun k hk => ?_⟩
  obtain ⟨g, rfl⟩ := hg (by omega)
  refine ⟨g, rfl, ?_⟩
  rw [h.cellAt k (by omega)]
  simp [hk]
theorem cell_lt {w : World} {a : Addr} {v : Value} (h : w.cell? a = some v) : a.block < w.heap.size := by
  rcases Nat.lt_or_ge a.block w.heap.size with h1 | h1
  · exact h1
  · exfalso
    unfold World.cell? at h
    rw [Array.getElem?_eq_none h1] at h
    simp at h
theorem str_same (s : ByteArray) : (s.toList == s.toList) = true := beq_self_eq_true _
def lget (ls : List (List UInt8)) (k : Nat) : ByteArray := ⟨(ls.getD k []).toArray⟩
theorem Seen.cell {w : World} {a : Option Addr} {ls : List (List UInt8)} (h : Seen w a ls) (k : Nat) (hk : k < ls.length) : ∃ g, a = some ⟨g, 0, none⟩ ∧ w.cell? ⟨g, k, none⟩ = some (.string (lget ls k)) := h k hk
set_option maxHeartbeats 1000000 in
theorem twTexts_any (a b : Option Addr) (ca cb : Nat) (ls : List (List UInt8)) (w : World) (hl : ls.length ≤ 1000000) (ha : Seen w a ls) (hb : Seen w b ls) :
    Calls Tryd.prog 5 #[.slice a ls.length ca, .slice b ls.length cb] w fun e w' => e = .returned (.bool true) ∧ Below w.heap.size w w' := by
  have HA := Lib.hid ha
  have HB := Lib.hid hb
  clear ha hb
  generalize hn : ls.length = n at *
  have hn' := Lib.hid hn
  clear hn
  go_enter Tryd.func5, Tryd.ntmps5
  go_wp2_with fail
  go_loopw [5] (fun iv wr => ∃ k : Nat, k ≤ n ∧ iv = .int .i64 (k : Int) ∧ Hid (Below w.heap.size w wr)) (fun iv _ => n - (intOf iv).toNat)
  case atStart => exact ⟨0, Nat.zero_le _, rfl, Lib.hid (Below.refl _ _)⟩
  case round =>
    obtain ⟨k, hk, rfl, HW⟩ := hrel
    obtain ⟨wo, rfl⟩ : ∃ wo : World, wo = wr := ⟨_, rfl⟩
    by_cases hlt : k < n
    · obtain ⟨g1, rfl, hc1⟩ := HA.out.cell k (by have := hn'.out; omega)
      obtain ⟨g2, rfl, hc2⟩ := HB.out.cell k (by have := hn'.out; omega)
      have hb1 : g1 < w.heap.size := cell_lt hc1
      have hb2 : g2 < w.heap.size := cell_lt hc2
      have hd1 : wo.cell? ⟨g1, k, none⟩ = _ := (HW.out.cell hb1).trans hc1
      have hd2 : wo.cell? ⟨g2, k, none⟩ = _ := (HW.out.cell hb2).trans hc2
      clear hc1 hc2
      have es := str_same (lget ls k)
      generalize lget ls k = x at *
      go_wp2_with fail
      go_region
      go_wp2_with fail
      go_roundw
      case rel => exact ⟨k + 1, by omega, by go_num, Lib.hid (Below.drew HW.out)⟩
      case measure => simp [intOf]; omega
    · go_wp2_with fail
      go_ret
      exact ⟨rfl, HW.out⟩
end Go.Proofs.YtenmkoaimmnpdaaDoor
