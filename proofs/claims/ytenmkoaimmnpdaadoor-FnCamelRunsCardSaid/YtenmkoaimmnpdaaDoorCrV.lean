/- The kinds of letters: TwKind; utf8.ValidString at texts of letters below 128. No conditions. -/
import Derived.Test.YtenmkoaimmnpdaaDoorProg
import Derived.Test.YtenmkoaimmnpdaaDoorTiP
import Derived.Test.YtenmkoaimmnpdaaDoorCrP
import Derived.WalkArith
import Derived.Laws.Shifts
import Derived.Handy
import Derived.BigQuiet
import Derived.Deep.RegionHeld3
import Derived.Deep.DeepCutAuto
import Derived.Deep.CutBlock
import Derived.IntWalk
namespace Go.Proofs.YtenmkoaimmnpdaaDoor
open Go.RowKit
set_option linter.unusedVariables false
theorem halt_V {p : Prop} (h : Hid p) : p := h
theorem resume_V {p : Prop} (h : p) : Hid p := h
theorem ixAt (s : ByteArray) (p : Nat) (hp : p < s.size) (W : World) : (Instr.index 9 (.string s) (.int .i64 (p : Int))).run Tryd.prog W = .ok (.int .u8 ((s[p]'hp).toNat : Int)) W := by
  rw [run_index_string W 9 s .i64 (p : Int) Tryd.underlying9, dif_pos ⟨by omega, by omega⟩]; rfl
set_option maxHeartbeats 1000000 in
theorem kind_any (c : UInt8) (w : World) : Calls Tryd.prog 8 #[.int .u8 (c.toNat : Int)] w fun e w' => e = .returned (.int .i64 (kd c : Int)) ∧ w = w' := by
  have hb := c.toNat_lt
  have hc : (97 ≤ c.toNat ∧ c.toNat ≤ 122) ∨ (65 ≤ c.toNat ∧ c.toNat ≤ 90) ∨ (48 ≤ c.toNat ∧ c.toNat ≤ 57) ∨ (c.toNat < 48) ∨ (57 < c.toNat ∧ c.toNat < 65) ∨ (90 < c.toNat ∧ c.toNat < 97) ∨ (122 < c.toNat) := by omega
  have key : ∀ v : Int, (kd c : Int) = v → (e : Ending) → e = .returned (.int .i64 v) → e = .returned (.int .i64 (kd c : Int)) := fun v h e he => by rw [he, h]
  rcases hc with ⟨h1, h2⟩ | ⟨h1, h2⟩ | ⟨h1, h2⟩ | h1 | ⟨h1, h2⟩ | ⟨h1, h2⟩ | h1
  · have e : (kd c : Int) = 0 := by unfold kd; rw [if_pos ⟨h1, h2⟩]; rfl
    rw [e]
    have g1 : decide ((97 : Int) ≤ (c.toNat : Int)) = true := decide_eq_true (by omega)
    have g2 : decide ((c.toNat : Int) ≤ 122) = true := decide_eq_true (by omega)
    clear e h1 h2 hb key
    generalize (c.toNat : Int) = z at *
    go_enter Tryd.func8, Tryd.ntmps8
    go_wp2_with fail
    go_ret
    exact ⟨rfl, rfl⟩
  · have e : (kd c : Int) = 1 := by unfold kd; rw [if_neg (by omega), if_pos ⟨h1, h2⟩]; rfl
    rw [e]
    have g1 : decide ((97 : Int) ≤ (c.toNat : Int)) = false := decide_eq_false (by omega)
    have g2 : decide ((65 : Int) ≤ (c.toNat : Int)) = true := decide_eq_true (by omega)
    have g3 : decide ((c.toNat : Int) ≤ 90) = true := decide_eq_true (by omega)
    clear e h1 h2 hb key
    generalize (c.toNat : Int) = z at *
    go_enter Tryd.func8, Tryd.ntmps8
    go_wp2_with fail
    go_ret
    exact ⟨rfl, rfl⟩
  · have e : (kd c : Int) = 2 := by unfold kd; rw [if_neg (by omega), if_neg (by omega), if_pos ⟨h1, h2⟩]; rfl
    rw [e]
    have g1 : decide ((97 : Int) ≤ (c.toNat : Int)) = false := decide_eq_false (by omega)
    have g2 : decide ((65 : Int) ≤ (c.toNat : Int)) = false := decide_eq_false (by omega)
    have g3 : decide ((48 : Int) ≤ (c.toNat : Int)) = true := decide_eq_true (by omega)
    have g4 : decide ((c.toNat : Int) ≤ 57) = true := decide_eq_true (by omega)
    clear e h1 h2 hb key
    generalize (c.toNat : Int) = z at *
    go_enter Tryd.func8, Tryd.ntmps8
    go_wp2_with fail
    go_ret
    exact ⟨rfl, rfl⟩
  · have e : (kd c : Int) = 3 := by unfold kd; rw [if_neg (by omega), if_neg (by omega), if_neg (by omega)]; rfl
    rw [e]
    have g0 : decide ((97 : Int) ≤ (c.toNat : Int)) = false := decide_eq_false (by omega)
    have g1 : decide ((65 : Int) ≤ (c.toNat : Int)) = false := decide_eq_false (by omega)
    have g2 : decide ((48 : Int) ≤ (c.toNat : Int)) = false := decide_eq_false (by omega)
    clear e h1 hb key
    generalize (c.toNat : Int) = z at *
    go_enter Tryd.func8, Tryd.ntmps8
    go_wp2_with fail
    go_ret
    exact ⟨rfl, rfl⟩
  · have e : (kd c : Int) = 3 := by unfold kd; rw [if_neg (by omega), if_neg (by omega), if_neg (by omega)]; rfl
    rw [e]
    have g0 : decide ((97 : Int) ≤ (c.toNat : Int)) = false := decide_eq_false (by omega)
    have g1 : decide ((65 : Int) ≤ (c.toNat : Int)) = false := decide_eq_false (by omega)
    have g2 : decide ((48 : Int) ≤ (c.toNat : Int)) = true := decide_eq_true (by omega)
    have g3 : decide ((c.toNat : Int) ≤ 57) = false := decide_eq_false (by omega)
    clear e h1 h2 hb key
    generalize (c.toNat : Int) = z at *
    go_enter Tryd.func8, Tryd.ntmps8
    go_wp2_with fail
    go_ret
    exact ⟨rfl, rfl⟩
  · have e : (kd c : Int) = 3 := by unfold kd; rw [if_neg (by omega), if_neg (by omega), if_neg (by omega)]; rfl
    rw [e]
    have g0 : decide ((97 : Int) ≤ (c.toNat : Int)) = false := decide_eq_false (by omega)
    have g1 : decide ((65 : Int) ≤ (c.toNat : Int)) = true := decide_eq_true (by omega)
    have g2 : decide ((c.toNat : Int) ≤ 90) = false := decide_eq_false (by omega)
    have g3 : decide ((48 : Int) ≤ (c.toNat : Int)) = true := decide_eq_true (by omega)
    have g4 : decide ((c.toNat : Int) ≤ 57) = false := decide_eq_false (by omega)
    clear e h1 h2 hb key
    generalize (c.toNat : Int) = z at *
    go_enter Tryd.func8, Tryd.ntmps8
    go_wp2_with fail
    go_ret
    exact ⟨rfl, rfl⟩
  · have e : (kd c : Int) = 3 := by unfold kd; rw [if_neg (by omega), if_neg (by omega), if_neg (by omega)]; rfl
    rw [e]
    have g0 : decide ((97 : Int) ≤ (c.toNat : Int)) = true := decide_eq_true (by omega)
    have g1 : decide ((c.toNat : Int) ≤ 122) = false := decide_eq_false (by omega)
    have g2 : decide ((65 : Int) ≤ (c.toNat : Int)) = true := decide_eq_true (by omega)
    have g3 : decide ((c.toNat : Int) ≤ 90) = false := decide_eq_false (by omega)
    have g4 : decide ((48 : Int) ≤ (c.toNat : Int)) = true := decide_eq_true (by omega)
    have g5 : decide ((c.toNat : Int) ≤ 57) = false := decide_eq_false (by omega)
    clear e h1 hb key
    generalize (c.toNat : Int) = z at *
    go_enter Tryd.func8, Tryd.ntmps8
    go_wp2_with fail
    go_ret
    exact ⟨rfl, rfl⟩
set_option maxHeartbeats 2000000 in
set_option maxRecDepth 100000 in
theorem word_any (s : ByteArray) (w : World) (h : 8 ≤ s.size) : Calls Tryd.prog 15 #[.string s] w fun e w' => (∃ k : Int, e = .returned (.int .u64 k)) ∧ Below w.heap.size w w' := by
  have i0 : ∀ W, (Instr.index 9 (.string s) (.int .i64 0)).run Tryd.prog W = .ok (.int .u8 ((s[0]'(by omega)).toNat : Int)) W := fun W => ixAt s 0 (by omega) W
  generalize ((s[0]'(by omega)).toNat : Int) = b0 at i0
  have i1 : ∀ W, (Instr.index 9 (.string s) (.int .i64 1)).run Tryd.prog W = .ok (.int .u8 ((s[1]'(by omega)).toNat : Int)) W := fun W => ixAt s 1 (by omega) W
  generalize ((s[1]'(by omega)).toNat : Int) = b1 at i1
  have i2 : ∀ W, (Instr.index 9 (.string s) (.int .i64 2)).run Tryd.prog W = .ok (.int .u8 ((s[2]'(by omega)).toNat : Int)) W := fun W => ixAt s 2 (by omega) W
  generalize ((s[2]'(by omega)).toNat : Int) = b2 at i2
  have i3 : ∀ W, (Instr.index 9 (.string s) (.int .i64 3)).run Tryd.prog W = .ok (.int .u8 ((s[3]'(by omega)).toNat : Int)) W := fun W => ixAt s 3 (by omega) W
  generalize ((s[3]'(by omega)).toNat : Int) = b3 at i3
  have i4 : ∀ W, (Instr.index 9 (.string s) (.int .i64 4)).run Tryd.prog W = .ok (.int .u8 ((s[4]'(by omega)).toNat : Int)) W := fun W => ixAt s 4 (by omega) W
  generalize ((s[4]'(by omega)).toNat : Int) = b4 at i4
  have i5 : ∀ W, (Instr.index 9 (.string s) (.int .i64 5)).run Tryd.prog W = .ok (.int .u8 ((s[5]'(by omega)).toNat : Int)) W := fun W => ixAt s 5 (by omega) W
  generalize ((s[5]'(by omega)).toNat : Int) = b5 at i5
  have i6 : ∀ W, (Instr.index 9 (.string s) (.int .i64 6)).run Tryd.prog W = .ok (.int .u8 ((s[6]'(by omega)).toNat : Int)) W := fun W => ixAt s 6 (by omega) W
  generalize ((s[6]'(by omega)).toNat : Int) = b6 at i6
  have i7 : ∀ W, (Instr.index 9 (.string s) (.int .i64 7)).run Tryd.prog W = .ok (.int .u8 ((s[7]'(by omega)).toNat : Int)) W := fun W => ixAt s 7 (by omega) W
  generalize ((s[7]'(by omega)).toNat : Int) = b7 at i7
  clear h
  go_enter Tryd.func15, Tryd.ntmps15
  go_wp2_with fail
  refine wp_region_noPanic ?_
  refine wp_region_held_drew (S := (fun w' => True)) (by kernel_rfl) (trivial) (fun hHeld => ?_)
  refine wpAnyH_take (i := 0) (oi := { dst := some 21, op := Op.move (Operand.tmp 0), type := 9, pos := "utf8.go:466", after := #[], guard := none }) (v := ?v1) rfl (by kernel_rfl) (by kernel_rfl) (by kernel_rfl) (fun _ _ _ h => h) (Or.inl ⟨by rfl, ?hy1⟩) (by assumption) ?_
  case hy1 => (intro w hSw; (try dsimp only at hSw); go_simp; (try with_reducible rfl))
  try simp only [Act.put, List.setIfInBounds_toArray, List.set_cons_zero, List.set_cons_succ]
  refine wpAnyH_take (i := 1) (oi := { dst := some 22, op := Op.index 9 (Operand.tmp 21) (Operand.const (Value.int IntKind.i64 0)), type := 5, pos := "utf8.go:466", after := #[{ on := 0, ground := Ground.data }], guard := none }) (v := ?v2) rfl (by kernel_rfl) (by kernel_rfl) (by kernel_rfl) (fun _ _ _ h => h) (Or.inl ⟨by rfl, ?hy2⟩) (by assumption) ?_
  case hy2 => (intro w hSw; (try dsimp only at hSw); go_simp; (try with_reducible rfl))
  try simp only [Act.put, List.setIfInBounds_toArray, List.set_cons_zero, List.set_cons_succ]
  refine wpAnyH_take (i := 2) (oi := { dst := some 23, op := Op.convert 5 42 (Operand.tmp 22), type := 42, pos := "utf8.go:466", after := #[{ on := 1, ground := Ground.data }], guard := none }) (v := ?v3) rfl (by kernel_rfl) (by kernel_rfl) (by kernel_rfl) (fun _ _ _ h => h) (Or.inl ⟨by rfl, ?hy3⟩) (by assumption) ?_
  case hy3 => (intro w hSw; (try dsimp only at hSw); go_simp; (try with_reducible rfl))
  try simp only [Act.put, List.setIfInBounds_toArray, List.set_cons_zero, List.set_cons_succ]
  generalize IntKind.u64.wrap b0 = c23 at *
  refine wpAnyH_take (i := 3) (oi := { dst := some 24, op := Op.move (Operand.tmp 0), type := 9, pos := "utf8.go:466", after := #[], guard := none }) (v := ?v4) rfl (by kernel_rfl) (by kernel_rfl) (by kernel_rfl) (fun _ _ _ h => h) (Or.inl ⟨by rfl, ?hy4⟩) (by assumption) ?_
  case hy4 => (intro w hSw; (try dsimp only at hSw); go_simp; (try with_reducible rfl))
  try simp only [Act.put, List.setIfInBounds_toArray, List.set_cons_zero, List.set_cons_succ]
  refine wpAnyH_take (i := 4) (oi := { dst := some 25, op := Op.index 9 (Operand.tmp 24) (Operand.const (Value.int IntKind.i64 1)), type := 5, pos := "utf8.go:466", after := #[{ on := 3, ground := Ground.data }], guard := none }) (v := ?v5) rfl (by kernel_rfl) (by kernel_rfl) (by kernel_rfl) (fun _ _ _ h => h) (Or.inl ⟨by rfl, ?hy5⟩) (by assumption) ?_
  case hy5 => (intro w hSw; (try dsimp only at hSw); go_simp; (try with_reducible rfl))
  try simp only [Act.put, List.setIfInBounds_toArray, List.set_cons_zero, List.set_cons_succ]
  refine wpAnyH_take (i := 5) (oi := { dst := some 26, op := Op.convert 5 42 (Operand.tmp 25), type := 42, pos := "utf8.go:466", after := #[{ on := 4, ground := Ground.data }], guard := none }) (v := ?v6) rfl (by kernel_rfl) (by kernel_rfl) (by kernel_rfl) (fun _ _ _ h => h) (Or.inl ⟨by rfl, ?hy6⟩) (by assumption) ?_
  case hy6 => (intro w hSw; (try dsimp only at hSw); go_simp; (try with_reducible rfl))
  try simp only [Act.put, List.setIfInBounds_toArray, List.set_cons_zero, List.set_cons_succ]
  generalize IntKind.u64.wrap b1 = c26 at *
  refine wpAnyH_take (i := 6) (oi := { dst := some 27, op := Op.binOp BinOp.shl 42 (Operand.tmp 26) (Operand.const (Value.int IntKind.u64 8)) 36, type := 42, pos := "utf8.go:466", after := #[{ on := 5, ground := Ground.data }], guard := none }) (v := ?v7) rfl (by kernel_rfl) (by kernel_rfl) (by kernel_rfl) (fun _ _ _ h => h) (Or.inl ⟨by rfl, ?hy7⟩) (by assumption) ?_
  case hy7 => (intro w hSw; (try dsimp only at hSw); go_simp; (try with_reducible rfl))
  try simp only [Act.put, List.setIfInBounds_toArray, List.set_cons_zero, List.set_cons_succ]
  generalize IntKind.u64.wrap (c26 * 256) = d27 at *
  refine wpAnyH_take (i := 7) (oi := { dst := some 28, op := Op.binOp BinOp.or 42 (Operand.tmp 23) (Operand.tmp 27) 42, type := 42, pos := "utf8.go:466", after := #[{ on := 2, ground := Ground.data }, { on := 6, ground := Ground.data }], guard := none }) (v := ?v8) rfl (by kernel_rfl) (by kernel_rfl) (by kernel_rfl) (fun _ _ _ h => h) (Or.inl ⟨by rfl, ?hy8⟩) (by assumption) ?_
  case hy8 => (intro w hSw; (try dsimp only at hSw); go_simp; (try with_reducible rfl))
  try simp only [Act.put, List.setIfInBounds_toArray, List.set_cons_zero, List.set_cons_succ]
  generalize Go.bits BinOp.or IntKind.u64 c23 d27 = o28 at *
  refine wpAnyH_take (i := 8) (oi := { dst := some 29, op := Op.move (Operand.tmp 0), type := 9, pos := "utf8.go:466", after := #[], guard := none }) (v := ?v9) rfl (by kernel_rfl) (by kernel_rfl) (by kernel_rfl) (fun _ _ _ h => h) (Or.inl ⟨by rfl, ?hy9⟩) (by assumption) ?_
  case hy9 => (intro w hSw; (try dsimp only at hSw); go_simp; (try with_reducible rfl))
  try simp only [Act.put, List.setIfInBounds_toArray, List.set_cons_zero, List.set_cons_succ]
  refine wpAnyH_take (i := 9) (oi := { dst := some 30, op := Op.index 9 (Operand.tmp 29) (Operand.const (Value.int IntKind.i64 2)), type := 5, pos := "utf8.go:466", after := #[{ on := 8, ground := Ground.data }], guard := none }) (v := ?v10) rfl (by kernel_rfl) (by kernel_rfl) (by kernel_rfl) (fun _ _ _ h => h) (Or.inl ⟨by rfl, ?hy10⟩) (by assumption) ?_
  case hy10 => (intro w hSw; (try dsimp only at hSw); go_simp; (try with_reducible rfl))
  try simp only [Act.put, List.setIfInBounds_toArray, List.set_cons_zero, List.set_cons_succ]
  refine wpAnyH_take (i := 10) (oi := { dst := some 31, op := Op.convert 5 42 (Operand.tmp 30), type := 42, pos := "utf8.go:466", after := #[{ on := 9, ground := Ground.data }], guard := none }) (v := ?v11) rfl (by kernel_rfl) (by kernel_rfl) (by kernel_rfl) (fun _ _ _ h => h) (Or.inl ⟨by rfl, ?hy11⟩) (by assumption) ?_
  case hy11 => (intro w hSw; (try dsimp only at hSw); go_simp; (try with_reducible rfl))
  try simp only [Act.put, List.setIfInBounds_toArray, List.set_cons_zero, List.set_cons_succ]
  generalize IntKind.u64.wrap b2 = c31 at *
  refine wpAnyH_take (i := 11) (oi := { dst := some 32, op := Op.binOp BinOp.shl 42 (Operand.tmp 31) (Operand.const (Value.int IntKind.u64 16)) 36, type := 42, pos := "utf8.go:466", after := #[{ on := 10, ground := Ground.data }], guard := none }) (v := ?v12) rfl (by kernel_rfl) (by kernel_rfl) (by kernel_rfl) (fun _ _ _ h => h) (Or.inl ⟨by rfl, ?hy12⟩) (by assumption) ?_
  case hy12 => (intro w hSw; (try dsimp only at hSw); go_simp; (try with_reducible rfl))
  try simp only [Act.put, List.setIfInBounds_toArray, List.set_cons_zero, List.set_cons_succ]
  generalize IntKind.u64.wrap (c31 * 65536) = d32 at *
  refine wpAnyH_take (i := 12) (oi := { dst := some 33, op := Op.binOp BinOp.or 42 (Operand.tmp 28) (Operand.tmp 32) 42, type := 42, pos := "utf8.go:466", after := #[{ on := 7, ground := Ground.data }, { on := 11, ground := Ground.data }], guard := none }) (v := ?v13) rfl (by kernel_rfl) (by kernel_rfl) (by kernel_rfl) (fun _ _ _ h => h) (Or.inl ⟨by rfl, ?hy13⟩) (by assumption) ?_
  case hy13 => (intro w hSw; (try dsimp only at hSw); go_simp; (try with_reducible rfl))
  try simp only [Act.put, List.setIfInBounds_toArray, List.set_cons_zero, List.set_cons_succ]
  generalize Go.bits BinOp.or IntKind.u64 o28 d32 = o33 at *
  refine wpAnyH_take (i := 13) (oi := { dst := some 34, op := Op.move (Operand.tmp 0), type := 9, pos := "utf8.go:466", after := #[], guard := none }) (v := ?v14) rfl (by kernel_rfl) (by kernel_rfl) (by kernel_rfl) (fun _ _ _ h => h) (Or.inl ⟨by rfl, ?hy14⟩) (by assumption) ?_
  case hy14 => (intro w hSw; (try dsimp only at hSw); go_simp; (try with_reducible rfl))
  try simp only [Act.put, List.setIfInBounds_toArray, List.set_cons_zero, List.set_cons_succ]
  refine wpAnyH_take (i := 14) (oi := { dst := some 35, op := Op.index 9 (Operand.tmp 34) (Operand.const (Value.int IntKind.i64 3)), type := 5, pos := "utf8.go:466", after := #[{ on := 13, ground := Ground.data }], guard := none }) (v := ?v15) rfl (by kernel_rfl) (by kernel_rfl) (by kernel_rfl) (fun _ _ _ h => h) (Or.inl ⟨by rfl, ?hy15⟩) (by assumption) ?_
  case hy15 => (intro w hSw; (try dsimp only at hSw); go_simp; (try with_reducible rfl))
  try simp only [Act.put, List.setIfInBounds_toArray, List.set_cons_zero, List.set_cons_succ]
  refine wpAnyH_take (i := 15) (oi := { dst := some 36, op := Op.convert 5 42 (Operand.tmp 35), type := 42, pos := "utf8.go:466", after := #[{ on := 14, ground := Ground.data }], guard := none }) (v := ?v16) rfl (by kernel_rfl) (by kernel_rfl) (by kernel_rfl) (fun _ _ _ h => h) (Or.inl ⟨by rfl, ?hy16⟩) (by assumption) ?_
  case hy16 => (intro w hSw; (try dsimp only at hSw); go_simp; (try with_reducible rfl))
  try simp only [Act.put, List.setIfInBounds_toArray, List.set_cons_zero, List.set_cons_succ]
  generalize IntKind.u64.wrap b3 = c36 at *
  refine wpAnyH_take (i := 16) (oi := { dst := some 37, op := Op.binOp BinOp.shl 42 (Operand.tmp 36) (Operand.const (Value.int IntKind.u64 24)) 36, type := 42, pos := "utf8.go:466", after := #[{ on := 15, ground := Ground.data }], guard := none }) (v := ?v17) rfl (by kernel_rfl) (by kernel_rfl) (by kernel_rfl) (fun _ _ _ h => h) (Or.inl ⟨by rfl, ?hy17⟩) (by assumption) ?_
  case hy17 => (intro w hSw; (try dsimp only at hSw); go_simp; (try with_reducible rfl))
  try simp only [Act.put, List.setIfInBounds_toArray, List.set_cons_zero, List.set_cons_succ]
  generalize IntKind.u64.wrap (c36 * 16777216) = d37 at *
  refine wpAnyH_take (i := 17) (oi := { dst := some 38, op := Op.binOp BinOp.or 42 (Operand.tmp 33) (Operand.tmp 37) 42, type := 42, pos := "utf8.go:466", after := #[{ on := 12, ground := Ground.data }, { on := 16, ground := Ground.data }], guard := none }) (v := ?v18) rfl (by kernel_rfl) (by kernel_rfl) (by kernel_rfl) (fun _ _ _ h => h) (Or.inl ⟨by rfl, ?hy18⟩) (by assumption) ?_
  case hy18 => (intro w hSw; (try dsimp only at hSw); go_simp; (try with_reducible rfl))
  try simp only [Act.put, List.setIfInBounds_toArray, List.set_cons_zero, List.set_cons_succ]
  generalize Go.bits BinOp.or IntKind.u64 o33 d37 = o38 at *
  refine wpAnyH_take (i := 18) (oi := { dst := some 39, op := Op.move (Operand.tmp 0), type := 9, pos := "utf8.go:466", after := #[], guard := none }) (v := ?v19) rfl (by kernel_rfl) (by kernel_rfl) (by kernel_rfl) (fun _ _ _ h => h) (Or.inl ⟨by rfl, ?hy19⟩) (by assumption) ?_
  case hy19 => (intro w hSw; (try dsimp only at hSw); go_simp; (try with_reducible rfl))
  try simp only [Act.put, List.setIfInBounds_toArray, List.set_cons_zero, List.set_cons_succ]
  refine wpAnyH_take (i := 19) (oi := { dst := some 40, op := Op.index 9 (Operand.tmp 39) (Operand.const (Value.int IntKind.i64 4)), type := 5, pos := "utf8.go:466", after := #[{ on := 18, ground := Ground.data }], guard := none }) (v := ?v20) rfl (by kernel_rfl) (by kernel_rfl) (by kernel_rfl) (fun _ _ _ h => h) (Or.inl ⟨by rfl, ?hy20⟩) (by assumption) ?_
  case hy20 => (intro w hSw; (try dsimp only at hSw); go_simp; (try with_reducible rfl))
  try simp only [Act.put, List.setIfInBounds_toArray, List.set_cons_zero, List.set_cons_succ]
  refine wpAnyH_take (i := 20) (oi := { dst := some 41, op := Op.convert 5 42 (Operand.tmp 40), type := 42, pos := "utf8.go:466", after := #[{ on := 19, ground := Ground.data }], guard := none }) (v := ?v21) rfl (by kernel_rfl) (by kernel_rfl) (by kernel_rfl) (fun _ _ _ h => h) (Or.inl ⟨by rfl, ?hy21⟩) (by assumption) ?_
  case hy21 => (intro w hSw; (try dsimp only at hSw); go_simp; (try with_reducible rfl))
  try simp only [Act.put, List.setIfInBounds_toArray, List.set_cons_zero, List.set_cons_succ]
  generalize IntKind.u64.wrap b4 = c41 at *
  refine wpAnyH_take (i := 21) (oi := { dst := some 42, op := Op.binOp BinOp.shl 42 (Operand.tmp 41) (Operand.const (Value.int IntKind.u64 32)) 36, type := 42, pos := "utf8.go:466", after := #[{ on := 20, ground := Ground.data }], guard := none }) (v := ?v22) rfl (by kernel_rfl) (by kernel_rfl) (by kernel_rfl) (fun _ _ _ h => h) (Or.inl ⟨by rfl, ?hy22⟩) (by assumption) ?_
  case hy22 => (intro w hSw; (try dsimp only at hSw); go_simp; (try with_reducible rfl))
  try simp only [Act.put, List.setIfInBounds_toArray, List.set_cons_zero, List.set_cons_succ]
  generalize IntKind.u64.wrap (c41 * 4294967296) = d42 at *
  refine wpAnyH_take (i := 22) (oi := { dst := some 43, op := Op.binOp BinOp.or 42 (Operand.tmp 38) (Operand.tmp 42) 42, type := 42, pos := "utf8.go:466", after := #[{ on := 17, ground := Ground.data }, { on := 21, ground := Ground.data }], guard := none }) (v := ?v23) rfl (by kernel_rfl) (by kernel_rfl) (by kernel_rfl) (fun _ _ _ h => h) (Or.inl ⟨by rfl, ?hy23⟩) (by assumption) ?_
  case hy23 => (intro w hSw; (try dsimp only at hSw); go_simp; (try with_reducible rfl))
  try simp only [Act.put, List.setIfInBounds_toArray, List.set_cons_zero, List.set_cons_succ]
  generalize Go.bits BinOp.or IntKind.u64 o38 d42 = o43 at *
  refine wpAnyH_take (i := 23) (oi := { dst := some 44, op := Op.move (Operand.tmp 0), type := 9, pos := "utf8.go:466", after := #[], guard := none }) (v := ?v24) rfl (by kernel_rfl) (by kernel_rfl) (by kernel_rfl) (fun _ _ _ h => h) (Or.inl ⟨by rfl, ?hy24⟩) (by assumption) ?_
  case hy24 => (intro w hSw; (try dsimp only at hSw); go_simp; (try with_reducible rfl))
  try simp only [Act.put, List.setIfInBounds_toArray, List.set_cons_zero, List.set_cons_succ]
  refine wpAnyH_take (i := 24) (oi := { dst := some 45, op := Op.index 9 (Operand.tmp 44) (Operand.const (Value.int IntKind.i64 5)), type := 5, pos := "utf8.go:466", after := #[{ on := 23, ground := Ground.data }], guard := none }) (v := ?v25) rfl (by kernel_rfl) (by kernel_rfl) (by kernel_rfl) (fun _ _ _ h => h) (Or.inl ⟨by rfl, ?hy25⟩) (by assumption) ?_
  case hy25 => (intro w hSw; (try dsimp only at hSw); go_simp; (try with_reducible rfl))
  try simp only [Act.put, List.setIfInBounds_toArray, List.set_cons_zero, List.set_cons_succ]
  refine wpAnyH_take (i := 25) (oi := { dst := some 46, op := Op.convert 5 42 (Operand.tmp 45), type := 42, pos := "utf8.go:466", after := #[{ on := 24, ground := Ground.data }], guard := none }) (v := ?v26) rfl (by kernel_rfl) (by kernel_rfl) (by kernel_rfl) (fun _ _ _ h => h) (Or.inl ⟨by rfl, ?hy26⟩) (by assumption) ?_
  case hy26 => (intro w hSw; (try dsimp only at hSw); go_simp; (try with_reducible rfl))
  try simp only [Act.put, List.setIfInBounds_toArray, List.set_cons_zero, List.set_cons_succ]
  generalize IntKind.u64.wrap b5 = c46 at *
  refine wpAnyH_take (i := 26) (oi := { dst := some 47, op := Op.binOp BinOp.shl 42 (Operand.tmp 46) (Operand.const (Value.int IntKind.u64 40)) 36, type := 42, pos := "utf8.go:466", after := #[{ on := 25, ground := Ground.data }], guard := none }) (v := ?v27) rfl (by kernel_rfl) (by kernel_rfl) (by kernel_rfl) (fun _ _ _ h => h) (Or.inl ⟨by rfl, ?hy27⟩) (by assumption) ?_
  case hy27 => (intro w hSw; (try dsimp only at hSw); go_simp; (try with_reducible rfl))
  try simp only [Act.put, List.setIfInBounds_toArray, List.set_cons_zero, List.set_cons_succ]
  generalize IntKind.u64.wrap (c46 * 1099511627776) = d47 at *
  refine wpAnyH_take (i := 27) (oi := { dst := some 48, op := Op.binOp BinOp.or 42 (Operand.tmp 43) (Operand.tmp 47) 42, type := 42, pos := "utf8.go:466", after := #[{ on := 22, ground := Ground.data }, { on := 26, ground := Ground.data }], guard := none }) (v := ?v28) rfl (by kernel_rfl) (by kernel_rfl) (by kernel_rfl) (fun _ _ _ h => h) (Or.inl ⟨by rfl, ?hy28⟩) (by assumption) ?_
  case hy28 => (intro w hSw; (try dsimp only at hSw); go_simp; (try with_reducible rfl))
  try simp only [Act.put, List.setIfInBounds_toArray, List.set_cons_zero, List.set_cons_succ]
  generalize Go.bits BinOp.or IntKind.u64 o43 d47 = o48 at *
  refine wpAnyH_take (i := 28) (oi := { dst := some 49, op := Op.move (Operand.tmp 0), type := 9, pos := "utf8.go:466", after := #[], guard := none }) (v := ?v29) rfl (by kernel_rfl) (by kernel_rfl) (by kernel_rfl) (fun _ _ _ h => h) (Or.inl ⟨by rfl, ?hy29⟩) (by assumption) ?_
  case hy29 => (intro w hSw; (try dsimp only at hSw); go_simp; (try with_reducible rfl))
  try simp only [Act.put, List.setIfInBounds_toArray, List.set_cons_zero, List.set_cons_succ]
  refine wpAnyH_take (i := 29) (oi := { dst := some 50, op := Op.index 9 (Operand.tmp 49) (Operand.const (Value.int IntKind.i64 6)), type := 5, pos := "utf8.go:466", after := #[{ on := 28, ground := Ground.data }], guard := none }) (v := ?v30) rfl (by kernel_rfl) (by kernel_rfl) (by kernel_rfl) (fun _ _ _ h => h) (Or.inl ⟨by rfl, ?hy30⟩) (by assumption) ?_
  case hy30 => (intro w hSw; (try dsimp only at hSw); go_simp; (try with_reducible rfl))
  try simp only [Act.put, List.setIfInBounds_toArray, List.set_cons_zero, List.set_cons_succ]
  refine wpAnyH_take (i := 30) (oi := { dst := some 51, op := Op.convert 5 42 (Operand.tmp 50), type := 42, pos := "utf8.go:466", after := #[{ on := 29, ground := Ground.data }], guard := none }) (v := ?v31) rfl (by kernel_rfl) (by kernel_rfl) (by kernel_rfl) (fun _ _ _ h => h) (Or.inl ⟨by rfl, ?hy31⟩) (by assumption) ?_
  case hy31 => (intro w hSw; (try dsimp only at hSw); go_simp; (try with_reducible rfl))
  try simp only [Act.put, List.setIfInBounds_toArray, List.set_cons_zero, List.set_cons_succ]
  generalize IntKind.u64.wrap b6 = c51 at *
  refine wpAnyH_take (i := 31) (oi := { dst := some 52, op := Op.binOp BinOp.shl 42 (Operand.tmp 51) (Operand.const (Value.int IntKind.u64 48)) 36, type := 42, pos := "utf8.go:466", after := #[{ on := 30, ground := Ground.data }], guard := none }) (v := ?v32) rfl (by kernel_rfl) (by kernel_rfl) (by kernel_rfl) (fun _ _ _ h => h) (Or.inl ⟨by rfl, ?hy32⟩) (by assumption) ?_
  case hy32 => (intro w hSw; (try dsimp only at hSw); go_simp; (try with_reducible rfl))
  try simp only [Act.put, List.setIfInBounds_toArray, List.set_cons_zero, List.set_cons_succ]
  generalize IntKind.u64.wrap (c51 * 281474976710656) = d52 at *
  refine wpAnyH_take (i := 32) (oi := { dst := some 53, op := Op.binOp BinOp.or 42 (Operand.tmp 48) (Operand.tmp 52) 42, type := 42, pos := "utf8.go:466", after := #[{ on := 27, ground := Ground.data }, { on := 31, ground := Ground.data }], guard := none }) (v := ?v33) rfl (by kernel_rfl) (by kernel_rfl) (by kernel_rfl) (fun _ _ _ h => h) (Or.inl ⟨by rfl, ?hy33⟩) (by assumption) ?_
  case hy33 => (intro w hSw; (try dsimp only at hSw); go_simp; (try with_reducible rfl))
  try simp only [Act.put, List.setIfInBounds_toArray, List.set_cons_zero, List.set_cons_succ]
  generalize Go.bits BinOp.or IntKind.u64 o48 d52 = o53 at *
  refine wpAnyH_take (i := 33) (oi := { dst := some 54, op := Op.move (Operand.tmp 0), type := 9, pos := "utf8.go:466", after := #[], guard := none }) (v := ?v34) rfl (by kernel_rfl) (by kernel_rfl) (by kernel_rfl) (fun _ _ _ h => h) (Or.inl ⟨by rfl, ?hy34⟩) (by assumption) ?_
  case hy34 => (intro w hSw; (try dsimp only at hSw); go_simp; (try with_reducible rfl))
  try simp only [Act.put, List.setIfInBounds_toArray, List.set_cons_zero, List.set_cons_succ]
  refine wpAnyH_take (i := 34) (oi := { dst := some 55, op := Op.index 9 (Operand.tmp 54) (Operand.const (Value.int IntKind.i64 7)), type := 5, pos := "utf8.go:466", after := #[{ on := 33, ground := Ground.data }], guard := none }) (v := ?v35) rfl (by kernel_rfl) (by kernel_rfl) (by kernel_rfl) (fun _ _ _ h => h) (Or.inl ⟨by rfl, ?hy35⟩) (by assumption) ?_
  case hy35 => (intro w hSw; (try dsimp only at hSw); go_simp; (try with_reducible rfl))
  try simp only [Act.put, List.setIfInBounds_toArray, List.set_cons_zero, List.set_cons_succ]
  refine wpAnyH_take (i := 35) (oi := { dst := some 56, op := Op.convert 5 42 (Operand.tmp 55), type := 42, pos := "utf8.go:466", after := #[{ on := 34, ground := Ground.data }], guard := none }) (v := ?v36) rfl (by kernel_rfl) (by kernel_rfl) (by kernel_rfl) (fun _ _ _ h => h) (Or.inl ⟨by rfl, ?hy36⟩) (by assumption) ?_
  case hy36 => (intro w hSw; (try dsimp only at hSw); go_simp; (try with_reducible rfl))
  try simp only [Act.put, List.setIfInBounds_toArray, List.set_cons_zero, List.set_cons_succ]
  generalize IntKind.u64.wrap b7 = c56 at *
  refine wpAnyH_take (i := 36) (oi := { dst := some 57, op := Op.binOp BinOp.shl 42 (Operand.tmp 56) (Operand.const (Value.int IntKind.u64 56)) 36, type := 42, pos := "utf8.go:466", after := #[{ on := 35, ground := Ground.data }], guard := none }) (v := ?v37) rfl (by kernel_rfl) (by kernel_rfl) (by kernel_rfl) (fun _ _ _ h => h) (Or.inl ⟨by rfl, ?hy37⟩) (by assumption) ?_
  case hy37 => (intro w hSw; (try dsimp only at hSw); go_simp; (try with_reducible rfl))
  try simp only [Act.put, List.setIfInBounds_toArray, List.set_cons_zero, List.set_cons_succ]
  generalize IntKind.u64.wrap (c56 * 72057594037927936) = d57 at *
  refine wpAnyH_take (i := 37) (oi := { dst := some 58, op := Op.binOp BinOp.or 42 (Operand.tmp 53) (Operand.tmp 57) 42, type := 42, pos := "utf8.go:466", after := #[{ on := 32, ground := Ground.data }, { on := 36, ground := Ground.data }], guard := none }) (v := ?v38) rfl (by kernel_rfl) (by kernel_rfl) (by kernel_rfl) (fun _ _ _ h => h) (Or.inl ⟨by rfl, ?hy38⟩) (by assumption) ?_
  case hy38 => (intro w hSw; (try dsimp only at hSw); go_simp; (try with_reducible rfl))
  try simp only [Act.put, List.setIfInBounds_toArray, List.set_cons_zero, List.set_cons_succ]
  generalize Go.bits BinOp.or IntKind.u64 o53 d57 = o58 at *
  refine wpAnyH_take (i := 38) (oi := { dst := some 2, op := Op.assign (Operand.tmp 58), type := 12, pos := "utf8.go:466", after := #[{ on := 37, ground := Ground.data }, { on := 0, ground := Ground.phase }, { on := 1, ground := Ground.phase }, { on := 2, ground := Ground.phase }, { on := 3, ground := Ground.phase }, { on := 4, ground := Ground.phase }, { on := 5, ground := Ground.phase }, { on := 6, ground := Ground.phase }, { on := 7, ground := Ground.phase }, { on := 8, ground := Ground.phase }, { on := 9, ground := Ground.phase }, { on := 10, ground := Ground.phase }, { on := 11, ground := Ground.phase }, { on := 12, ground := Ground.phase }, { on := 13, ground := Ground.phase }, { on := 14, ground := Ground.phase }, { on := 15, ground := Ground.phase }, { on := 16, ground := Ground.phase }, { on := 17, ground := Ground.phase }, { on := 18, ground := Ground.phase }, { on := 19, ground := Ground.phase }, { on := 20, ground := Ground.phase }, { on := 21, ground := Ground.phase }, { on := 22, ground := Ground.phase }, { on := 23, ground := Ground.phase }, { on := 24, ground := Ground.phase }, { on := 25, ground := Ground.phase }, { on := 26, ground := Ground.phase }, { on := 27, ground := Ground.phase }, { on := 28, ground := Ground.phase }, { on := 29, ground := Ground.phase }, { on := 30, ground := Ground.phase }, { on := 31, ground := Ground.phase }, { on := 32, ground := Ground.phase }, { on := 33, ground := Ground.phase }, { on := 34, ground := Ground.phase }, { on := 35, ground := Ground.phase }, { on := 36, ground := Ground.phase }, { on := 37, ground := Ground.phase }], guard := none }) (v := ?v39) rfl (by kernel_rfl) (by kernel_rfl) (by kernel_rfl) (fun _ _ _ h => h) (Or.inl ⟨by rfl, ?hy39⟩) (by assumption) ?_
  case hy39 => (intro w hSw; (try dsimp only at hSw); go_simp; (try with_reducible rfl))
  try simp only [Act.put, List.setIfInBounds_toArray, List.set_cons_zero, List.set_cons_succ]
  refine wpAnyH_done (by kernel_rfl) ?_ _
  refine NoPanic.normal ?_
  go_wp2_with fail
  go_ret
  exact ⟨⟨_, rfl⟩, (Below.refl _ _).drew⟩

end Go.Proofs.YtenmkoaimmnpdaaDoor
