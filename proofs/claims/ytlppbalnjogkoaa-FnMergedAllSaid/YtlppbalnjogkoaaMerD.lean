import Derived.Test.YtlppbalnjogkoaaMerC
import Derived.Test.YtlppbalnjogkoaaTabA
import Derived.WalkKit
import Derived.Handy
import Derived.Deep.QuietTactic
import Derived.BigQuiet
import Derived.Laws.OwnMore
import Derived.WalkLawsBesides
namespace Go.Proofs.Ytlppbalnjogkoaa
open Go.RowKit
set_option linter.unusedVariables false
abbrev tabM (n : Int) (m : Option Nat) : Array Value := (tabA n none 0 0 none none 0 0 none).set! 22 (.map m)
theorem tabM_built (n : Int) (m : Option Nat) : Try.prog.built 132 [(14, .int .i64 n), (20, .map m)] = some (tabM n m) := by kernel_rfl
def tabMK (x1 x2 : Value) : Sem Value := Instr.build 132 #[(14, x1), (20, x2)]
theorem tabMK_run (n : Int) (m : Option Nat) (W : World) : (tabMK (.int .i64 n) (.map m)).run Try.prog W = .ok (.agg (tabM n m)) W := run_build _ _ _ _ (tabM_built n m)
theorem tabM_exec (ρ : Operand → Value) (d : Option Tmp) (t : TypeId) (ps : String) (af : Array Edge) (g : Option (Nat × Bool)) :
    execOp ρ ⟨d, .build 132 #[(14, .tmp 6), (20, .tmp 9)], t, ps, af, g⟩ = (tabMK (ρ (.tmp 6)) (ρ (.tmp 9)) >>= fun v => pure (.value v)) := by
  simp [execOp, tabMK]
attribute [local go_sem ↓] tabM_exec
attribute [local go_sem] tabMK_run
theorem gate_is (P : Program) {ops : Array Oper} {rest : List Oper} {o : Oper} {a : Act} {w : World} {Q : Exit → Act → World → Prop} {t : TypeId} {p k v : Operand} (_ho : o.op = .insert t p k v) (h : wpList P ops Q (o :: rest) a w) : wpList P ops Q (o :: rest) a w := h
theorem rowF_miss (q : Value) (h : q ≠ .int .i64 0) : rowF q = (fun _ => none : Value → Option Value) q := by
  cases q with
  | int k n =>
    cases k <;> try rfl
    simp only [rowF]
    rw [if_neg (fun e => h (by rw [e]))]
  | _ => rfl
theorem Strs.below {w0 w1 : World} {n cap : Nat} {A : Option Addr} {xs : List ByteArray} (h : Strs w0 A n cap xs) (hb : Below w0.heap.size w0 w1) : Strs w1 A n cap xs :=
  ⟨(h.1.below hb).more hb.size, h.2⟩
set_option maxHeartbeats 4000000 in
set_option maxRecDepth 100000 in
theorem zzMerged_any (A : Option Addr) (n cap : Nat) (ss : List ByteArray) (m : Int) (w : World) (h : Strs w A n cap ss) (hn : n ≤ 100) (hm : 0 ≤ m ∧ m ≤ 200) :
    Calls Try.prog 45 #[.slice A n cap, .int .i64 m] w (MapRet ss m w) := by
  have hmm := @run_makeMap Try.prog
  have M0 := MapIs.made w (.int .i64)
  have HM0 := Lib.hid M0
  have HH := Lib.hid h
  clear M0 h
  go_enter Try.func45, Try.ntmps45
  go_wp2_with (first
    | ((with_reducible refine gate_is Try.prog (t := 109) rfl ?_); (refine wpList_insert_is HM0.out (g := rowF) (kv := .int .i64 0) (vv := .agg #[.bool true, .int .i64 0]) Try.underlying109 Try.underlying3 ?_ ?_ ?_ ?_ ?_ ?_ ?_); rfl; rfl; rfl; exact (show MapKept.IsKey (.int .i64) (.int .i64 0) from rfl); rfl; exact rowF_miss; intro w1 hM1 hg1 hz1)
    | (go_at_call 52; refine halt_here ?_))
  have hsz : w1.heap.size = w.heap.size + 1 := by rw [hz1]; simp
  have B1 : Below w.heap.size w w1 := ((Below.refl w.heap.size w).alloc (Nat.le_refl _) _).grown hg1 (by simp) (fun q hq => by cases hq; exact Nat.le_refl _)
  refine resume ?_
  refine (getMerged_any A n cap ss m (w.heap.size + 1) w.heap.size _ ((HH.out.below B1).below (((Below.refl w1.heap.size w1).alloc (Nat.le_refl _) _))) hn hm ?_ (hM1.alloc _) ?_ ?_).mono ?_
  · rw [← hsz]; exact (cell_of_row _ _ 22 _ 132 (0, 0) (heap_alloc_new w1 _))
  · simp; omega
  · rw [← hsz]; exact (cell_of_row _ _ 14 _ 132 (0, 0) (heap_alloc_new w1 _))
  · rintro e w' ⟨g, rfl, hM, hb, hge⟩
    go_wp2
    go_ret
    exact ⟨g, rfl, hM, (B1.alloc B1.size _).trans (hb.mono (by simp; omega)), by simp at hge; omega⟩
end Go.Proofs.Ytlppbalnjogkoaa
