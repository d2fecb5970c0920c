/- One row in CSV: the walks of ZzCsvRow and impl.CsvRow. Rows of at most 2000 bytes. -/
import Derived.Test.YtlookapkakeinaaCvC
namespace Go.Proofs.Ytlookapkakeinaa
open Go.RowKit
set_option linter.unusedVariables false
def tabQ (n : Int) (p : Option Addr) : Array Value := #[.int .i64 0, .bool false, .int .i64 0, .string ⟨#[]⟩, .slice none 0 0, .slice none 0 0, .map none, .string ⟨#[]⟩, .bool false, .string ⟨#[]⟩, .int .i64 0, .slice none 0 0, .map none, .int .i64 0, .int .i64 n, .int .i64 0, .int .i64 0, .slice none 0 0, .int .i64 0, .string ⟨#[]⟩, .slice none 0 0, .slice none 0 0, .map none, .slice none 0 0, .slice none 0 0, .slice none 0 0, .map none, .slice none 0 0, .slice none 0 0, .map none, .slice none 0 0, .nilFunc, .nilFunc, .map none, .map none, .map none, .slice none 0 0, .slice none 0 0, .slice none 0 0, .pointer p, .bool false, .bool false, .string ⟨#[]⟩]
theorem tabQ_built (n : Int) (p : Option Addr) : Try.prog.built 84 [(14, .int .i64 n), (1, .bool false), (37, .pointer p)] = some (tabQ n p) := by kernel_rfl
def tabK (x1 x2 x3 : Value) : Sem Value := Instr.build 84 #[(14, x1), (1, x2), (37, x3)]
theorem tabK_run (n : Int) (p : Option Addr) (W : World) : (tabK (.int .i64 n) (.bool false) (.pointer p)).run Try.prog W = .ok (.agg (tabQ n p)) W := run_build _ _ _ _ (tabQ_built n p)
theorem tab_exec (ρ : Operand → Value) (d : Option Tmp) (t : TypeId) (ps : String) (af : Array Edge) (g : Option (Nat × Bool)) :
    execOp ρ ⟨d, .build 84 #[(14, .tmp 13), (1, .tmp 14), (37, .tmp 18)], t, ps, af, g⟩ = (tabK (ρ (.tmp 13)) (ρ (.tmp 14)) (ρ (.tmp 18)) >>= fun v => pure (.value v)) := by
  simp [execOp, tabK]
def styQ : Array Value := #[.string ⟨#[]⟩, .string ⟨#[]⟩, .string ⟨#[]⟩, .string ⟨#[]⟩, .string ⟨#[]⟩, .string ⟨#[]⟩, .string ⟨#[]⟩, .string ⟨#[]⟩, .string ⟨#[]⟩, .string ⟨#[]⟩, .string ⟨#[]⟩, .string ⟨#[]⟩, .string ⟨#[]⟩, .string ⟨#[]⟩, .string ⟨#[]⟩, .string ⟨#[]⟩, .string ⟨#[]⟩, .string ⟨#[]⟩, .string ⟨#[]⟩, .pointer none, .slice none 0 0, .slice none 0 0, .slice none 0 0, .slice none 0 0, .slice none 0 0, .slice none 0 0, .slice none 0 0, .bool false, .int .i64 0, .int .i64 0, .int .i64 0, .int .i64 0, .int .i64 0, .int .i64 0, .int .i64 0, .int .i64 0, .int .i64 0, .int .i64 0, .bool false, .string ⟨#[]⟩, .string ⟨#[]⟩, .bool false, .string ⟨#[]⟩, .bool false, .bool false, .bool false, .bool false, .bool false, .bool false, .bool false, .bool false, .int .i64 0, .int .i64 0, .int .i64 0, .slice none 0 0, .int .i64 0]
theorem styQ_built : Try.prog.built 61 [(3, .agg #[.bool false])] = some styQ := by kernel_rfl
theorem styQ_27 : styQ[27]? = some (.bool false) := by kernel_rfl
def styK (x1 : Value) : Sem Value := Instr.build 61 #[(3, x1)]
theorem styK_run (W : World) : (styK (.agg #[.bool false])).run Try.prog W = .ok (.agg styQ) W := run_build _ _ _ _ styQ_built
theorem sty_exec (ρ : Operand → Value) (d : Option Tmp) (t : TypeId) (ps : String) (af : Array Edge) (g : Option (Nat × Bool)) :
    execOp ρ ⟨d, .build 61 #[(3, .tmp 16)], t, ps, af, g⟩ = (styK (ρ (.tmp 16)) >>= fun v => pure (.value v)) := by
  simp [execOp, styK]
attribute [local go_sem ↓] tab_exec sty_exec
attribute [local go_sem] tabK_run styK_run
theorem cell_at {W : World} {g k : Nat} {cs : Array Value} {t : TypeId} {v : Value} (h : W.heap[g]? = some (.cells cs t)) (hk : cs[k]? = some v) : W.cell? ⟨g, k, none⟩ = some v := by
  rw [cell_of_row W g k cs t (0, 0) h]; exact hk
def zzW (w : World) (n : Int) : World := ((w.alloc (.cells styQ 61)).alloc (.cells (tabQ n (some ⟨w.heap.size, 0, none⟩)) 84)).alloc (.cells #[.pointer none, .slice none 0 0] 87)
theorem zzW_size (w : World) (n : Int) : (zzW w n).heap.size = w.heap.size + 3 := by simp [zzW]
theorem zzW_tab (w : World) (n : Nat) : Tab (zzW w n) (w.heap.size + 2) (w.heap.size + 1) w.heap.size n := by
  have h0 : (zzW w n).heap[w.heap.size]? = some (.cells styQ 61) := by
    unfold zzW
    rw [Below.heap_alloc _ _ _ (by simp; omega), Below.heap_alloc _ _ _ (by simp)]
    exact heap_alloc_new w _
  have h1 : (zzW w n).heap[w.heap.size + 1]? = some (.cells (tabQ n (some ⟨w.heap.size, 0, none⟩)) 84) := by
    unfold zzW
    rw [Below.heap_alloc _ _ _ (by simp)]
    have := heap_alloc_new (w.alloc (.cells styQ 61)) (.cells (tabQ n (some ⟨w.heap.size, 0, none⟩)) 84)
    rw [World.size_alloc] at this
    exact this
  exact ⟨by omega, by omega, cell_at h1 rfl, cell_at h1 rfl, cell_at h1 rfl, cell_at h0 styQ_27⟩
theorem zzW_bld (w : World) (n : Int) : Bld (w.heap.size + 2) (w.heap.size + 2) [] (zzW w n) := by
  have := bld_fresh ((w.alloc (.cells styQ 61)).alloc (.cells (tabQ n (some ⟨w.heap.size, 0, none⟩)) 84))
  rw [World.size_alloc, World.size_alloc] at this
  exact this
theorem zzW_below (w : World) (n : Int) : Below w.heap.size w (zzW w n) := (((Below.refl _ _).alloc (Nat.le_refl _) _).alloc (by simp) _).alloc (by simp; omega) _
set_option maxHeartbeats 4000000 in
set_option maxRecDepth 100000 in
theorem zz_any (A : Option Addr) (n cap : Nat) (ss : List ByteArray) (w : World) (hr : Row w w.heap.size A n (ss.map Value.string)) (hn : n ≤ 2000) (ht : tot ss n ≤ 2000) :
    Calls Try.prog 10 #[.slice A n cap, .int .i64 n, .bool false, .bool false, .int .i64 0] w fun e w' => ∃ l, e = .returned (.string ⟨l.toArray⟩) ∧ Wrote ss n l ∧ Below w.heap.size w w' := by
  have HR := Lib.hid (row_any A n cap (w.heap.size + 1) w.heap.size (w.heap.size + 2) ss (zzW w n) ((hr.below (zzW_below w n)).more (by omega)) hn ht (zzW_tab w n) (zzW_bld w n))
  have HZ := Lib.hid (zzW_size w n)
  have HB := Lib.hid (zzW_below w n)
  clear hr ht
  go_enter Try.func10, Try.ntmps10
  go_wp2_with (go_at_call 11; refine halt_V ?_)
  refine resume_V ?_
  refine HR.out.mono ?_
  rintro e w1 ⟨rfl, l, hw, hb, hB⟩
  have HW := Lib.hid hw
  have HB1 := Lib.hid (HB.out.trans (hB.mono (by omega)))
  have hsz : w.heap.size + 2 ≤ w1.heap.size := by have := hB.size; have := HZ.out; omega
  have HS := Lib.hid (Try.Builder_String_any_f (w.heap.size + 2) (w.heap.size + 2) l w1 hb hsz)
  clear hw hb hB
  go_wp2_with (go_at_call 12; refine HS.out.mono ?_; rintro e w2 ⟨rfl, hB2⟩; have HB2 := Lib.hid hB2; clear hB2)
  go_ret
  exact ⟨l, rfl, HW.out, HB1.out.trans (HB2.out.2.mono (by omega))⟩
theorem csv_any (A : Option Addr) (n cap : Nat) (ss : List ByteArray) (w : World) (hr : Row w w.heap.size A n (ss.map Value.string)) (hn : n ≤ 2000) (ht : tot ss n ≤ 2000) :
    Calls Try.prog 7 #[.slice A n cap, .int .i64 n, .bool false, .bool false, .int .i64 0] w fun e w' => ∃ l, e = .returned (.string ⟨l.toArray⟩) ∧ Wrote ss n l ∧ Below w.heap.size w w' := by
  have H := Lib.hid (zz_any A n cap ss w hr hn ht)
  clear hr ht
  go_enter Try.func7, Try.ntmps7
  go_wp2_with (go_at_call 10; refine H.out.mono ?_; rintro e w1 ⟨l, rfl, hw, hb⟩; have HW := Lib.hid hw; have HB := Lib.hid hb; clear hw hb)
  go_ret
  exact ⟨l, rfl, HW.out, HB.out⟩
end Go.Proofs.Ytlookapkakeinaa
