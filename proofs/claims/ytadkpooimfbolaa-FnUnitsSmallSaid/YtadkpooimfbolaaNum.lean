/- Numbers below 1000, written in base 10: the walks of FormatUint, FormatInt and Decimal. Numbers from 0 to 999. -/
import Derived.Test.YtadkpooimfbolaaProg
import Derived.Test.YtadkpooimfbolaaBase
import Derived.WalkKit
import Derived.Handy
import Derived.BigQuiet
import Derived.IntWalk
import Derived.Deep.QuietTactic
import Derived.Deep.RegionWith
import Derived.Deep.DrawnRows
import Derived.Laws.BytesArg
import Derived.WalkLawsBesides
namespace Go.Proofs.Ytadkpooimfbolaa
open Go.RowKit
set_option linter.unusedVariables false
attribute [local go_sem ↓] Go.wp_at_zero Go.wp_at_succ
def dg (n : Nat) : UInt8 := UInt8.ofNat (48 + n % 10)
def dig3 (n : Nat) : ByteArray := if n < 10 then ⟨#[dg n]⟩ else if n < 100 then ⟨#[dg (n / 10), dg n]⟩ else ⟨#[dg (n / 10 / 10), dg (n / 10), dg n]⟩
theorem dig_index (d : Nat) (h : d < 10) (w : World) : (Instr.index 9 (.string ⟨#[48, 49, 50, 51, 52, 53, 54, 55, 56, 57, 97, 98, 99, 100, 101, 102, 103, 104, 105, 106, 107, 108, 109, 110, 111, 112, 113, 114, 115, 116, 117, 118, 119, 120, 121, 122]⟩) (.int .u64 (d : Int))).run Try.prog w = .ok (.int .u8 (48 + (d : Int))) w := by
  have key : ∀ d : Fin 10, ∀ hd : d.val < (⟨#[48, 49, 50, 51, 52, 53, 54, 55, 56, 57, 97, 98, 99, 100, 101, 102, 103, 104, 105, 106, 107, 108, 109, 110, 111, 112, 113, 114, 115, 116, 117, 118, 119, 120, 121, 122]⟩ : ByteArray).size, (((⟨#[48, 49, 50, 51, 52, 53, 54, 55, 56, 57, 97, 98, 99, 100, 101, 102, 103, 104, 105, 106, 107, 108, 109, 110, 111, 112, 113, 114, 115, 116, 117, 118, 119, 120, 121, 122]⟩ : ByteArray)[d.val]'hd).toNat = 48 + d.val) := by decide +kernel
  have hk := key ⟨d, h⟩ (by show d < 36; omega)
  rw [run_index_string w 9 _ .u64 (d : Int) Try.underlying9, dif_pos ⟨by omega, by show (d : Int) < 36; omega⟩]
  exact congrArg (fun x : Nat => Result.ok (Value.int .u8 (x : Int)) w) hk
theorem strDigs (ds : List Nat) : strOfNums (ds.map fun d : Nat => 48 + (d : Int)) = ⟨(ds.map fun d => UInt8.ofNat (48 + d)).toArray⟩ := by
  apply WideShapes.bytes_inj
  rw [strOfNums_data, List.map_map]
  simp only [List.map_inj_left, Function.comp]
  intro d _
  rw [show (48 + (d : Int)).toNat = 48 + d by omega]
theorem cv_bytes' (W : World) (b : Nat) (d : Int) (h : W.cell? ⟨b, 0, none⟩ = some (.int .u8 d)) : (convert 46 9 (.slice (some ⟨b, 0, none⟩) 1 1)).run Try.prog W = .ok (.string (strOfNums [d])) W :=
  run_convert_bytes_arg (P := Try.prog) W 46 5 Try.underlying46 Try.underlying5 b 0 1 1 [d] rfl (fun i hi => by
    have : i = 0 := by omega
    subst this; exact h) 9 Try.underlying9
theorem gate_cv {P : Program} {ops : Array Oper} {rest : List Oper} {o : Oper} {a : Act} {w : World} {Q : Exit → Act → World → Prop} {s d : TypeId} {p : Operand} (_ho : o.op = .convert s d p) (h : wpList P ops Q (o :: rest) a w) : wpList P ops Q (o :: rest) a w := h
theorem wpList_conv {ops : Array Oper} {rest : List Oper} {a : Act} {w : World} {Q : Exit → Act → World → Prop} {dst : Option Tmp} {x : Operand} {ty : TypeId} {ps : String} {af : Array Edge} (b off n cap : Nat) (hx : a.eval x = .slice (some ⟨b, off, none⟩) n cap) (xs : List Int) (hl : xs.length = n)
    (hc : ∀ i, i < n → w.cell? ⟨b, off + i, none⟩ = some (.int .u8 (xs.getD i 0))) (h : wpList Try.prog ops Q rest (a.put dst (.string (strOfNums xs))) w) : wpList Try.prog ops Q (⟨dst, .convert 46 9 x, ty, ps, af, none⟩ :: rest) a w := by
  refine wpList_plain rfl fun K hK' => ?_
  have hrun := run_convert_bytes_arg (P := Try.prog) w 46 5 Try.underlying46 Try.underlying5 b off n cap xs hl hc 9 Try.underlying9
  unfold Oper.wp execOp
  simp only [hx, Sem.run_bind, hrun, Result.andThen_ok, Sem.run_pure]
  exact hK' _ _ h
def UintRet (n : Nat) (w : World) (e : Ending) (w' : World) : Prop := e = .returned (.string (dig3 n)) ∧ Below w.heap.size w w'
set_option maxHeartbeats 4000000 in
set_option maxRecDepth 100000 in
theorem uint1 (n : Nat) (w : World) (h : n < 10) : Calls Try.prog 63 #[.int .u64 n, .int .i64 10] w (UintRet n w) := by
  have ix0 := fun W => dig_index (n % 10) (Nat.mod_lt _ (by omega)) W
  have hd : strOfNums [(48 + ((n % 10) : Nat) : Int)] = dig3 n := by
    have := strDigs [(n % 10)]
    simp only [List.map] at this
    rw [this]
    unfold dig3
    rw [if_pos (by omega)]
    rfl
  have HD := Lib.hid hd
  clear hd
  simp only [Int.natCast_emod, Int.cast_ofNat_Int] at HD ix0
  have n0 : (0 : Int) ≤ (n : Int) := by omega
  have n1 : (n : Int) < 1000 := by omega
  have z1 : decide ((0 : Int) < (n : Int) / 10) = false := decide_eq_false (by omega)
  go_enter Try.func63, Try.ntmps63
  go_wp2_with fail
  refine wp_loop_rounds 2 ?_
  rw [rounds_succ]
  go_wp2_with fail
  rw [rounds_succ]
  go_wp2_with ((with_reducible refine gate_cv (s := 46) (d := 9) rfl ?_); refine wpList_conv w.heap.size 63 1 1 rfl [(48 + ((n % 10) : Nat) : Int)] rfl (fun i hi => ?_) ?_)
  case refine_1 =>
    match i, hi with
    | 0, _ => exact cell_of_row _ _ _ _ _ _ (heap_alloc_new w _)
  go_ret
  exact ⟨ret_str HD.out, (Below.refl _ _).alloc (Nat.le_refl _) _⟩
set_option maxHeartbeats 4000000 in
set_option maxRecDepth 100000 in
theorem uint2 (n : Nat) (w : World) (h : 10 ≤ n) (h2 : n < 100) : Calls Try.prog 63 #[.int .u64 n, .int .i64 10] w (UintRet n w) := by
  have ix0 := fun W => dig_index (n % 10) (Nat.mod_lt _ (by omega)) W
  have ix1 := fun W => dig_index (n / 10 % 10) (Nat.mod_lt _ (by omega)) W
  have hd : strOfNums [(48 + ((n / 10 % 10) : Nat) : Int), (48 + ((n % 10) : Nat) : Int)] = dig3 n := by
    have := strDigs [(n / 10 % 10), (n % 10)]
    simp only [List.map] at this
    rw [this]
    unfold dig3
    rw [if_neg (by omega), if_pos (by omega)]
    rfl
  have HD := Lib.hid hd
  clear hd
  simp only [Int.natCast_emod, Int.natCast_ediv, Int.cast_ofNat_Int] at HD ix0 ix1
  have n0 : (0 : Int) ≤ (n : Int) := by omega
  have n1 : (n : Int) < 1000 := by omega
  have z1 : decide ((0 : Int) < (n : Int) / 10) = true := decide_eq_true (by omega)
  have z2 : decide ((0 : Int) < (n : Int) / 10 / 10) = false := decide_eq_false (by omega)
  go_enter Try.func63, Try.ntmps63
  go_wp2_with fail
  refine wp_loop_rounds 3 ?_
  rw [rounds_succ]
  go_wp2_with fail
  rw [rounds_succ]
  go_wp2_with fail
  rw [rounds_succ]
  go_wp2_with ((with_reducible refine gate_cv (s := 46) (d := 9) rfl ?_); refine wpList_conv w.heap.size 62 2 2 rfl [(48 + ((n / 10 % 10) : Nat) : Int), (48 + ((n % 10) : Nat) : Int)] rfl (fun i hi => ?_) ?_)
  case refine_1 =>
    match i, hi with
    | 0, _ => exact cell_of_row _ _ _ _ _ _ (heap_alloc_new w _)
    | 1, _ => exact cell_of_row _ _ _ _ _ _ (heap_alloc_new w _)
  go_ret
  exact ⟨ret_str HD.out, (Below.refl _ _).alloc (Nat.le_refl _) _⟩
set_option maxHeartbeats 4000000 in
set_option maxRecDepth 100000 in
theorem uint3 (n : Nat) (w : World) (h : 100 ≤ n) (h2 : n < 1000) : Calls Try.prog 63 #[.int .u64 n, .int .i64 10] w (UintRet n w) := by
  have ix0 := fun W => dig_index (n % 10) (Nat.mod_lt _ (by omega)) W
  have ix1 := fun W => dig_index (n / 10 % 10) (Nat.mod_lt _ (by omega)) W
  have ix2 := fun W => dig_index (n / 10 / 10 % 10) (Nat.mod_lt _ (by omega)) W
  have hd : strOfNums [(48 + ((n / 10 / 10 % 10) : Nat) : Int), (48 + ((n / 10 % 10) : Nat) : Int), (48 + ((n % 10) : Nat) : Int)] = dig3 n := by
    have := strDigs [(n / 10 / 10 % 10), (n / 10 % 10), (n % 10)]
    simp only [List.map] at this
    rw [this]
    unfold dig3
    rw [if_neg (by omega), if_neg (by omega)]
    rfl
  have HD := Lib.hid hd
  clear hd
  simp only [Int.natCast_emod, Int.natCast_ediv, Int.cast_ofNat_Int] at HD ix0 ix1 ix2
  have n0 : (0 : Int) ≤ (n : Int) := by omega
  have n1 : (n : Int) < 1000 := by omega
  have z1 : decide ((0 : Int) < (n : Int) / 10) = true := decide_eq_true (by omega)
  have z2 : decide ((0 : Int) < (n : Int) / 10 / 10) = true := decide_eq_true (by omega)
  have z3 : decide ((0 : Int) < (n : Int) / 10 / 10 / 10) = false := decide_eq_false (by omega)
  go_enter Try.func63, Try.ntmps63
  go_wp2_with fail
  refine wp_loop_rounds 4 ?_
  rw [rounds_succ]
  go_wp2_with fail
  rw [rounds_succ]
  go_wp2_with fail
  rw [rounds_succ]
  go_wp2_with fail
  rw [rounds_succ]
  go_wp2_with ((with_reducible refine gate_cv (s := 46) (d := 9) rfl ?_); refine wpList_conv w.heap.size 61 3 3 rfl [(48 + ((n / 10 / 10 % 10) : Nat) : Int), (48 + ((n / 10 % 10) : Nat) : Int), (48 + ((n % 10) : Nat) : Int)] rfl (fun i hi => ?_) ?_)
  case refine_1 =>
    match i, hi with
    | 0, _ => exact cell_of_row _ _ _ _ _ _ (heap_alloc_new w _)
    | 1, _ => exact cell_of_row _ _ _ _ _ _ (heap_alloc_new w _)
    | 2, _ => exact cell_of_row _ _ _ _ _ _ (heap_alloc_new w _)
  go_ret
  exact ⟨ret_str HD.out, (Below.refl _ _).alloc (Nat.le_refl _) _⟩
end Go.Proofs.Ytadkpooimfbolaa
