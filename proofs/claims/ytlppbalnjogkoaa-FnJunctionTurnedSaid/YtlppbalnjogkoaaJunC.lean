/- What stands between two columns: the walk of the functions of BoxStyle, and of the choice of the character; for every box. No conditions. -/
import Derived.Test.YtlppbalnjogkoaaJunA
import Derived.WalkKit
import Derived.Handy
import Derived.Deep.QuietTactic
import Derived.Deep.WholeRow
import Derived.BigQuiet
import Derived.Deep.RegionHeld3
import Derived.WalkLawsBesides
namespace Go.Proofs.Ytlppbalnjogkoaa
open Go.RowKit
set_option linter.unusedVariables false
variable {P : Program}
theorem horiz_any (s : ByteArray) (w : World) : Calls Try.prog 60 #[.string s] w fun e w' => e = .returned (.pointer (some ⟨w.heap.size, 0, none⟩)) ∧ w.alloc (.cells #[.string s, .string s, .string s, .string s, .string s, .string s, .string s, .string s, .string s, .string s, .string s] 149) = w' := by
  go_enter Try.func60, Try.ntmps60
  go_wp2
  go_ret
  exact ⟨rfl, rfl⟩
theorem ensure_any (gs : Nat) (s : ByteArray) (w : World) (h6 : w.cell? ⟨gs, 7, none⟩ = some (.string s)) (hH : w.cell? ⟨gs, 19, none⟩ = some (.pointer none)) (hf : w.frozen? ⟨gs, 19, none⟩ = false) (hlt : gs < w.heap.size) :
    Calls Try.prog 59 #[.pointer (some ⟨gs, 1, none⟩)] w fun e w' => e = .returned (.tuple #[]) ∧ (w.setCell ⟨gs, 19, none⟩ (.pointer (some ⟨w.heap.size, 0, none⟩))).alloc (.cells #[.string s, .string s, .string s, .string s, .string s, .string s, .string s, .string s, .string s, .string s, .string s] 149) = w' := by
  go_enter Try.func59, Try.ntmps59
  go_wp2_with (go_at_call 60; refine (horiz_any _ _).mono ?_; rintro e w' ⟨rfl, rfl⟩)
  go_end0
  exact ⟨rfl, rfl⟩
theorem middle_any (gs : Nat) (s : ByteArray) (w : World) (h6 : w.cell? ⟨gs, 7, none⟩ = some (.string s)) (hH : w.cell? ⟨gs, 19, none⟩ = some (.pointer none)) (hf : w.frozen? ⟨gs, 19, none⟩ = false) (hlt : gs < w.heap.size) :
    Calls Try.prog 58 #[.pointer (some ⟨gs, 1, none⟩), .int .i64 6] w fun e w' => e = .returned (.string s) ∧ (w.setCell ⟨gs, 19, none⟩ (.pointer (some ⟨w.heap.size, 0, none⟩))).alloc (.cells #[.string s, .string s, .string s, .string s, .string s, .string s, .string s, .string s, .string s, .string s, .string s] 149) = w' := by
  go_enter Try.func58, Try.ntmps58
  go_wp2_with (go_at_call 59; refine (ensure_any gs s _ h6 hH hf hlt).mono ?_; rintro e w' ⟨rfl, rfl⟩)
  go_ret
  exact ⟨rfl, rfl⟩
def jun (a b l r : Bool) (e6 mh top bot mv le ri mid : ByteArray) : ByteArray :=
  if a && b && l && r then e6 else if a && b then mh else if a then top else if b then bot else if l && r then mv else if l then le else if r then ri else mid
abbrev hint6 : Value := .agg #[.bool false, .bool false, .bool false, .bool false, .bool false, .bool false, .bool false, .bool false, .bool false, .bool false, .bool false, .int .i64 0, .int .i64 0, .int .i64 6]
theorem keep1 {w : World} {gs gt : Nat} {v : Value} {A B : Obj} {x : Value} {o : Nat} (h : w.cell? ⟨gt, o, none⟩ = some x) (hne : gt ≠ gs) (hgt : gt < w.heap.size) :
    (((w.setCell ⟨gs, 19, none⟩ v).alloc A).alloc B).drew.cell? ⟨gt, o, none⟩ = some x := by
  show (((w.setCell ⟨gs, 19, none⟩ v).alloc A).alloc B).cell? ⟨gt, o, none⟩ = some x
  rw [World.cell?_alloc_past _ _ _ (by simp; omega), World.cell?_alloc_past _ _ _ (by simp; omega), World.cell?_setCell_other _ _ _ _ (by simp)]
  exact h
theorem keep2 {w : World} {gs : Nat} {v : Value} {cs : Array Value} {t : TypeId} {B : Obj} {x : Value} {o : Nat} (h : cs[o]? = some x) :
    (((w.setCell ⟨gs, 19, none⟩ v).alloc (.cells cs t)).alloc B).drew.cell? ⟨w.heap.size, o, none⟩ = some x := by
  show (((w.setCell ⟨gs, 19, none⟩ v).alloc (.cells cs t)).alloc B).cell? ⟨w.heap.size, o, none⟩ = some x
  rw [World.cell?_alloc_past _ _ _ (by simp), World.cell?_alloc_at _ _ _ _ (by simp)]
  exact h
theorem endA {w : World} {gs : Nat} {A : Obj} (hlt : gs < w.heap.size) : Below gs w (w.alloc A) := (Below.refl _ _).alloc (by omega) _
theorem endB {w : World} {gs : Nat} {v : Value} {A B : Obj} (hlt : gs < w.heap.size) : Below gs w (((w.setCell ⟨gs, 19, none⟩ v).alloc A).alloc B).drew := by
  have h1 : Below gs w (w.setCell ⟨gs, 19, none⟩ v) := (Below.refl gs w).setCell (Nat.le_refl _) v
  exact ((h1.alloc (by simp; omega) A).alloc (by simp; omega) B).drew
set_option maxHeartbeats 4000000 in
set_option maxRecDepth 100000 in
theorem column_any (a b l r : Bool) (gt gs : Nat) (e6 mh top bot mv le ri mid : ByteArray) (w : World) (ht : w.cell? ⟨gt, 39, none⟩ = some (.pointer (some ⟨gs, 0, none⟩)))
    (c4 : w.cell? ⟨gs, 4, none⟩ = some (.string e6)) (c7 : w.cell? ⟨gs, 7, none⟩ = some (.string mh)) (c17 : w.cell? ⟨gs, 17, none⟩ = some (.string top)) (c3 : w.cell? ⟨gs, 3, none⟩ = some (.string bot))
    (c9 : w.cell? ⟨gs, 9, none⟩ = some (.string mv)) (c6 : w.cell? ⟨gs, 6, none⟩ = some (.string le)) (c14 : w.cell? ⟨gs, 14, none⟩ = some (.string ri)) (c8 : w.cell? ⟨gs, 8, none⟩ = some (.string mid))
    (hH : w.cell? ⟨gs, 19, none⟩ = some (.pointer none)) (hf : w.frozen? ⟨gs, 19, none⟩ = false) (hlt : gs < w.heap.size) (hgt : gt < w.heap.size) (hne : gt ≠ gs) :
    Calls Try.prog 55 #[.pointer (some ⟨gt, 0, none⟩), .bool a, .bool b, .bool l, .bool r, hint6] w fun e w' => e = .returned (.string (jun a b l r e6 mh top bot mv le ri mid)) ∧ Below gs w w' := by
  by_cases hab : a = true ∧ b = true ∧ ¬ (l = true ∧ r = true)
  · obtain ⟨rfl, rfl, hlr⟩ := hab
    have hl2 : (w.alloc (.cells #[.bool false, .bool false, .bool false, .bool false, .bool false, .bool false, .bool false, .bool false, .bool false, .bool false, .bool false, .int .i64 0, .int .i64 0, .int .i64 6] 137)).heap.size = w.heap.size + 1 := by simp
    have hm := fun W h6 hH hf hlt => Lib.hid (middle_any gs mh W h6 hH hf hlt)
    cases l <;> cases r
    all_goals first
      | exact absurd ⟨rfl, rfl⟩ hlr
      | (go_enter Try.func55, Try.ntmps55
         go_wp2_with fail
         go_region_held3 (fun w' => w'.cell? ⟨gt, 39, none⟩ = some (.pointer (some ⟨gs, 0, none⟩)) ∧ w'.cell? ⟨w.heap.size, 13, none⟩ = some (.int .i64 6)) (first | exact ⟨keep1 ht hne hgt, keep2 rfl⟩ | go_keep)
           ((go_at_call 58; refine Calls.mono (Hid.out (hm _ ?_ ?_ ?_ ?_)) ?_; go_simp; go_simp; go_simp; (simp; omega); rintro e w' ⟨rfl, rfl⟩))
         go_wp2_with fail
         go_ret
         refine ⟨rfl, ?_⟩
         exact endB hlt)
  · cases a <;> cases b <;> cases l <;> cases r
    all_goals first
      | (exfalso; exact hab (by decide))
      | (clear hab
         go_enter Try.func55, Try.ntmps55
         go_wp2
         go_ret
         refine ⟨rfl, ?_⟩
         exact endA hlt)
end Go.Proofs.Ytlppbalnjogkoaa
