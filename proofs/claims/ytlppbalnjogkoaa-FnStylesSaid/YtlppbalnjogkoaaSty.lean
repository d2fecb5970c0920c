/- Each style has the name that the list of names gives it: the walks, for every number. No conditions. -/
import Derived.Test.YtlppbalnjogkoaaProg
import Derived.Test.YtlppbalnjogkoaaBase
import Derived.Test.YtlppbalnjogkoaaIMap
import Derived.WalkKit
import Derived.Handy
import Derived.WalkLawsBesides
namespace Go.Proofs.Ytlppbalnjogkoaa
open Go.RowKit
set_option linter.unusedVariables false
def nmL : List ByteArray := [⟨#[110, 111, 116, 104, 105, 110, 103]⟩, ⟨#[97, 115, 99, 105, 105]⟩, ⟨#[108, 105, 103, 104, 116]⟩, ⟨#[104, 101, 97, 118, 121]⟩, ⟨#[100, 111, 117, 98, 108, 101]⟩, ⟨#[100, 111, 117, 98, 108, 101, 108, 111, 110, 103]⟩, ⟨#[108, 105, 103, 104, 116, 104, 101, 97, 118, 121]⟩, ⟨#[104, 101, 97, 118, 121, 108, 105, 103, 104, 116]⟩, ⟨#[108, 105, 103, 104, 116, 100, 111, 117, 98, 108, 101]⟩, ⟨#[100, 111, 117, 98, 108, 101, 108, 105, 103, 104, 116]⟩, ⟨#[114, 111, 117, 110, 100, 101, 100]⟩, ⟨#[109, 97, 114, 107, 100, 111, 119, 110]⟩, ⟨#[103, 114, 97, 112, 104, 105, 99, 97, 108]⟩, ⟨#[109, 101, 114, 103, 101, 114]⟩, ⟨#[108, 105, 103, 104, 116]⟩, ⟨#[100, 111, 116, 116, 101, 100]⟩, ⟨#[97, 114, 114, 111, 119]⟩, ⟨#[115, 116, 97, 114, 114, 121]⟩, ⟨#[104, 101, 97, 114, 116, 115]⟩, ⟨#[99, 105, 114, 99, 117, 105, 116]⟩, ⟨#[110, 97, 116, 117, 114, 101]⟩, ⟨#[97, 114, 116, 105, 115, 116, 105, 99]⟩, ⟨#[56, 98, 105, 116]⟩, ⟨#[99, 104, 97, 111, 115]⟩, ⟨#[100, 111, 116, 115]⟩, ⟨#[98, 108, 111, 99, 107, 115]⟩, ⟨#[122, 101, 110]⟩, ⟨#[118, 105, 110, 116, 97, 103, 101]⟩, ⟨#[115, 107, 101, 116, 99, 104]⟩, ⟨#[97, 114, 114, 111, 119, 100, 111, 117, 98, 108, 101]⟩, ⟨#[99, 101, 108, 101, 115, 116, 105, 97, 108]⟩, ⟨#[99, 121, 98, 101, 114]⟩, ⟨#[114, 117, 110, 105, 99]⟩, ⟨#[105, 110, 100, 117, 115, 116, 114, 105, 97, 108]⟩, ⟨#[105, 110, 107]⟩, ⟨#[97, 114, 99, 97, 100, 101]⟩, ⟨#[98, 108, 111, 115, 115, 111, 109]⟩, ⟨#[102, 114, 111, 115, 116, 101, 100]⟩, ⟨#[109, 111, 115, 97, 105, 99]⟩, ⟨#[117, 102, 111]⟩, ⟨#[115, 116, 101, 97, 109, 112, 117, 110, 107]⟩, ⟨#[103, 97, 108, 97, 120, 121]⟩, ⟨#[106, 97, 122, 122]⟩, ⟨#[112, 117, 122, 122, 108, 101]⟩, ⟨#[104, 121, 112, 110, 111]⟩]
def spL : List ByteArray := [⟨#[110, 111, 116, 104, 105, 110, 103]⟩, ⟨#[97, 115, 99, 105, 105]⟩, ⟨#[108, 105, 103, 104, 116]⟩, ⟨#[104, 101, 97, 118, 121]⟩, ⟨#[100, 111, 117, 98, 108, 101]⟩, ⟨#[100, 111, 117, 98, 108, 101, 108, 111, 110, 103]⟩, ⟨#[108, 105, 103, 104, 116, 104, 101, 97, 118, 121]⟩, ⟨#[104, 101, 97, 118, 121, 108, 105, 103, 104, 116]⟩, ⟨#[108, 105, 103, 104, 116, 100, 111, 117, 98, 108, 101]⟩, ⟨#[100, 111, 117, 98, 108, 101, 108, 105, 103, 104, 116]⟩, ⟨#[114, 111, 117, 110, 100, 101, 100]⟩, ⟨#[109, 97, 114, 107, 100, 111, 119, 110]⟩, ⟨#[103, 114, 97, 112, 104, 105, 99, 97, 108]⟩, ⟨#[109, 101, 114, 103, 101, 114]⟩, ⟨#[]⟩, ⟨#[100, 111, 116, 116, 101, 100]⟩, ⟨#[97, 114, 114, 111, 119]⟩, ⟨#[115, 116, 97, 114, 114, 121]⟩, ⟨#[104, 101, 97, 114, 116, 115]⟩, ⟨#[99, 105, 114, 99, 117, 105, 116]⟩, ⟨#[110, 97, 116, 117, 114, 101]⟩, ⟨#[97, 114, 116, 105, 115, 116, 105, 99]⟩, ⟨#[56, 98, 105, 116]⟩, ⟨#[99, 104, 97, 111, 115]⟩, ⟨#[100, 111, 116, 115]⟩, ⟨#[98, 108, 111, 99, 107, 115]⟩, ⟨#[122, 101, 110]⟩, ⟨#[118, 105, 110, 116, 97, 103, 101]⟩, ⟨#[115, 107, 101, 116, 99, 104]⟩, ⟨#[97, 114, 114, 111, 119, 100, 111, 117, 98, 108, 101]⟩, ⟨#[99, 101, 108, 101, 115, 116, 105, 97, 108]⟩, ⟨#[99, 121, 98, 101, 114]⟩, ⟨#[114, 117, 110, 105, 99]⟩, ⟨#[105, 110, 100, 117, 115, 116, 114, 105, 97, 108]⟩, ⟨#[105, 110, 107]⟩, ⟨#[97, 114, 99, 97, 100, 101]⟩, ⟨#[98, 108, 111, 115, 115, 111, 109]⟩, ⟨#[102, 114, 111, 115, 116, 101, 100]⟩, ⟨#[109, 111, 115, 97, 105, 99]⟩, ⟨#[117, 102, 111]⟩, ⟨#[115, 116, 101, 97, 109, 112, 117, 110, 107]⟩, ⟨#[103, 97, 108, 97, 120, 121]⟩, ⟨#[106, 97, 122, 122]⟩, ⟨#[112, 117, 122, 122, 108, 101]⟩, ⟨#[104, 121, 112, 110, 111]⟩]
def styFi (i : Nat) : Value → Option Value
  | .int .i64 n => if 0 ≤ n ∧ n < i then (nmL[n.toNat]?).map .string else none
  | _ => none
theorem halt_here {p : Prop} (h : Hid p) : p := h
theorem resume {p : Prop} (h : p) : Hid p := h
theorem styFi_miss (i : Nat) (m : Value) (h : m ≠ .int .i64 i) : styFi (i + 1) m = styFi i m := by
  cases m with
  | int k n =>
    cases k <;> try rfl
    have hn : n ≠ i := fun e => h (by rw [e])
    simp only [styFi]
    by_cases h1 : 0 ≤ n ∧ n < (i : Int)
    · rw [if_pos h1, if_pos (by omega)]
    · rw [if_neg h1, if_neg (by omega)]
  | _ => rfl
theorem styFi_hit (i : Nat) (s : ByteArray) (h : nmL[i]? = some s) : styFi (i + 1) (.int .i64 i) = some (.string s) := by
  simp only [styFi]
  rw [if_pos (by omega), Int.toNat_natCast, h]
  rfl
theorem styFi_zero : styFi 0 = fun _ => none := by
  funext k
  cases k with
  | int k n =>
    cases k <;> try rfl
    simp only [styFi]
    rw [if_neg (by omega)]
  | _ => rfl
set_option maxRecDepth 100000 in
theorem sty_insert {ops : Array Oper} {rest : List Oper} {a : Act} {w w0 : World} {Q : Exit → Act → World → Prop} {b i : Nat} {p : Operand} {n : Int} {s : ByteArray} {ty : TypeId} {ps : String} {af : Array Edge} (h : MapIs (.int .i64) w b (styFi i)) (hB : Below b w0 w)
    (hn : n = (i : Int)) (hs : nmL[i]? = some s) (hp : a.eval p = .map (some b))
    (hK : ∀ w', MapIs (.int .i64) w' b (styFi (i + 1)) → Below b w0 w' → wpList Try.prog ops Q rest a w') : wpList Try.prog ops Q (⟨none, .insert 103 p (.const (.int .i64 n)) (.const (.string s)), ty, ps, af, none⟩ :: rest) a w := by
  refine wpList_plain rfl fun K hK' => ?_
  obtain ⟨w', hrun, hm, hg, hz⟩ := h.run_update (P := Try.prog) (t := 103) Try.underlying103 Try.underlying105 (show MapKept.IsKey (.int .i64) (.int .i64 i) from rfl) (styFi_hit i s hs) (styFi_miss i)
  subst hn
  unfold Oper.wp execOp
  have e1 : a.eval (.const (.int .i64 (i : Int))) = .int .i64 i := rfl
  have e2 : a.eval (.const (.string s)) = .string s := rfl
  simp only [hp, e1, e2, Sem.run_bind, hrun, Result.andThen_ok, Sem.run_pure]
  show K a w'
  exact hK' _ _ (hK w' hm (hB.grown hg (Nat.le_of_lt h.lt) (fun g hg => by cases hg; exact Nat.le_refl _)))
theorem gate_lk {ops : Array Oper} {rest : List Oper} {o : Oper} {a : Act} {w : World} {Q : Exit → Act → World → Prop} {t : TypeId} {p k : Operand} {ok : Bool} (_ho : o.op = .lookup t p k ok) (h : wpList Try.prog ops Q (o :: rest) a w) : wpList Try.prog ops Q (o :: rest) a w := h
theorem gate_ins {ops : Array Oper} {rest : List Oper} {o : Oper} {a : Act} {w : World} {Q : Exit → Act → World → Prop} {t : TypeId} {p k v : Operand} (_ho : o.op = .insert t p k v) (h : wpList Try.prog ops Q (o :: rest) a w) : wpList Try.prog ops Q (o :: rest) a w := h
set_option maxHeartbeats 4000000 in
set_option maxRecDepth 100000 in
theorem styles_any (w : World) : Calls Try.prog 49 #[] w fun e w' => e = .returned (.map (some w.heap.size)) ∧ MapIs (.int .i64) w' w.heap.size (styFi 45) ∧ Below w.heap.size w w' := by
  have hmm := @run_makeMap Try.prog
  have hM := MapIs.made w (.int .i64)
  rw [← styFi_zero] at hM
  have hB : Below w.heap.size w (w.alloc (.map #[] 0)) := (Below.refl _ _).alloc (Nat.le_refl _) _
  go_enter Try.func49, Try.ntmps49
  go_wp2_with (first | ((with_reducible refine gate_ins (t := 103) rfl ?_); (refine sty_insert hM hB ?_ ?_ ?_ ?_); rfl; rfl; rfl; clear hM hB; intro w1 hM hB))
  go_ret
  exact ⟨rfl, hM, hB⟩
theorem name_any (s : ByteArray) (w : World) : Calls Try.prog 51 #[.string s] w fun e w' => e = .returned (.string s) ∧ w = w' := by
  go_enter Try.func51, Try.ntmps51
  go_wp2
  go_ret
  exact ⟨rfl, rfl⟩
def SomeS (w : World) (e : Ending) (w' : World) : Prop := ∃ s : ByteArray, e = .returned (.string s) ∧ w = w'
def arV : Value := .agg #[.string ⟨#[78, 111, 110, 101]⟩, .string ⟨#[65, 83, 67, 73, 73]⟩, .string ⟨#[76, 105, 103, 104, 116]⟩, .string ⟨#[72, 101, 97, 118, 121]⟩, .string ⟨#[68, 111, 117, 98, 108, 101]⟩, .string ⟨#[68, 111, 117, 98, 108, 101, 76, 111, 110, 103]⟩, .string ⟨#[76, 105, 103, 104, 116, 72, 101, 97, 118, 121]⟩, .string ⟨#[72, 101, 97, 118, 121, 76, 105, 103, 104, 116]⟩, .string ⟨#[76, 105, 103, 104, 116, 68, 111, 117, 98, 108, 101]⟩, .string ⟨#[68, 111, 117, 98, 108, 101, 76, 105, 103, 104, 116]⟩, .string ⟨#[82, 111, 117, 110, 100, 101, 100]⟩, .string ⟨#[77, 97, 114, 107, 100, 111, 119, 110]⟩, .string ⟨#[71, 114, 97, 112, 104, 105, 99, 97, 108]⟩, .string ⟨#[77, 101, 114, 103, 101, 114]⟩, .string ⟨#[68, 101, 102, 97, 117, 108, 116]⟩, .string ⟨#[68, 111, 116, 116, 101, 100]⟩, .string ⟨#[65, 114, 114, 111, 119]⟩, .string ⟨#[83, 116, 97, 114, 114, 121]⟩, .string ⟨#[72, 101, 97, 114, 116, 115]⟩, .string ⟨#[67, 105, 114, 99, 117, 105, 116]⟩, .string ⟨#[78, 97, 116, 117, 114, 101]⟩, .string ⟨#[65, 114, 116, 105, 115, 116, 105, 99]⟩, .string ⟨#[56, 66, 105, 116]⟩, .string ⟨#[67, 104, 97, 111, 115]⟩, .string ⟨#[68, 111, 116, 115]⟩, .string ⟨#[66, 108, 111, 99, 107, 115]⟩, .string ⟨#[90, 101, 110]⟩, .string ⟨#[86, 105, 110, 116, 97, 103, 101]⟩, .string ⟨#[83, 107, 101, 116, 99, 104]⟩, .string ⟨#[65, 114, 114, 111, 119, 68, 111, 117, 98, 108, 101]⟩, .string ⟨#[67, 101, 108, 101, 115, 116, 105, 97, 108]⟩, .string ⟨#[67, 121, 98, 101, 114]⟩, .string ⟨#[82, 117, 110, 105, 99]⟩, .string ⟨#[73, 110, 100, 117, 115, 116, 114, 105, 97, 108]⟩, .string ⟨#[73, 110, 107]⟩, .string ⟨#[65, 114, 99, 97, 100, 101]⟩, .string ⟨#[66, 108, 111, 115, 115, 111, 109]⟩, .string ⟨#[70, 114, 111, 115, 116, 101, 100]⟩, .string ⟨#[77, 111, 115, 97, 105, 99]⟩, .string ⟨#[85, 70, 79]⟩, .string ⟨#[83, 116, 101, 97, 109, 112, 117, 110, 107]⟩, .string ⟨#[71, 97, 108, 97, 120, 121]⟩, .string ⟨#[74, 97, 122, 122]⟩, .string ⟨#[80, 117, 122, 122, 108, 101]⟩, .string ⟨#[72, 121, 112, 110, 111]⟩]
theorem arr_at (i : Nat) (hi : i < 45) : ∃ s : ByteArray, ∀ w : World, (Instr.index 142 (.agg #[.string ⟨#[78, 111, 110, 101]⟩, .string ⟨#[65, 83, 67, 73, 73]⟩, .string ⟨#[76, 105, 103, 104, 116]⟩, .string ⟨#[72, 101, 97, 118, 121]⟩, .string ⟨#[68, 111, 117, 98, 108, 101]⟩, .string ⟨#[68, 111, 117, 98, 108, 101, 76, 111, 110, 103]⟩, .string ⟨#[76, 105, 103, 104, 116, 72, 101, 97, 118, 121]⟩, .string ⟨#[72, 101, 97, 118, 121, 76, 105, 103, 104, 116]⟩, .string ⟨#[76, 105, 103, 104, 116, 68, 111, 117, 98, 108, 101]⟩, .string ⟨#[68, 111, 117, 98, 108, 101, 76, 105, 103, 104, 116]⟩, .string ⟨#[82, 111, 117, 110, 100, 101, 100]⟩, .string ⟨#[77, 97, 114, 107, 100, 111, 119, 110]⟩, .string ⟨#[71, 114, 97, 112, 104, 105, 99, 97, 108]⟩, .string ⟨#[77, 101, 114, 103, 101, 114]⟩, .string ⟨#[68, 101, 102, 97, 117, 108, 116]⟩, .string ⟨#[68, 111, 116, 116, 101, 100]⟩, .string ⟨#[65, 114, 114, 111, 119]⟩, .string ⟨#[83, 116, 97, 114, 114, 121]⟩, .string ⟨#[72, 101, 97, 114, 116, 115]⟩, .string ⟨#[67, 105, 114, 99, 117, 105, 116]⟩, .string ⟨#[78, 97, 116, 117, 114, 101]⟩, .string ⟨#[65, 114, 116, 105, 115, 116, 105, 99]⟩, .string ⟨#[56, 66, 105, 116]⟩, .string ⟨#[67, 104, 97, 111, 115]⟩, .string ⟨#[68, 111, 116, 115]⟩, .string ⟨#[66, 108, 111, 99, 107, 115]⟩, .string ⟨#[90, 101, 110]⟩, .string ⟨#[86, 105, 110, 116, 97, 103, 101]⟩, .string ⟨#[83, 107, 101, 116, 99, 104]⟩, .string ⟨#[65, 114, 114, 111, 119, 68, 111, 117, 98, 108, 101]⟩, .string ⟨#[67, 101, 108, 101, 115, 116, 105, 97, 108]⟩, .string ⟨#[67, 121, 98, 101, 114]⟩, .string ⟨#[82, 117, 110, 105, 99]⟩, .string ⟨#[73, 110, 100, 117, 115, 116, 114, 105, 97, 108]⟩, .string ⟨#[73, 110, 107]⟩, .string ⟨#[65, 114, 99, 97, 100, 101]⟩, .string ⟨#[66, 108, 111, 115, 115, 111, 109]⟩, .string ⟨#[70, 114, 111, 115, 116, 101, 100]⟩, .string ⟨#[77, 111, 115, 97, 105, 99]⟩, .string ⟨#[85, 70, 79]⟩, .string ⟨#[83, 116, 101, 97, 109, 112, 117, 110, 107]⟩, .string ⟨#[71, 97, 108, 97, 120, 121]⟩, .string ⟨#[74, 97, 122, 122]⟩, .string ⟨#[80, 117, 122, 122, 108, 101]⟩, .string ⟨#[72, 121, 112, 110, 111]⟩]) (.int .i64 i)).run Try.prog w = .ok (.string s) w := by
  match i, hi with
  | 0, _ => exact ⟨⟨#[78, 111, 110, 101]⟩, fun _ => by kernel_rfl⟩
  | 1, _ => exact ⟨⟨#[65, 83, 67, 73, 73]⟩, fun _ => by kernel_rfl⟩
  | 2, _ => exact ⟨⟨#[76, 105, 103, 104, 116]⟩, fun _ => by kernel_rfl⟩
  | 3, _ => exact ⟨⟨#[72, 101, 97, 118, 121]⟩, fun _ => by kernel_rfl⟩
  | 4, _ => exact ⟨⟨#[68, 111, 117, 98, 108, 101]⟩, fun _ => by kernel_rfl⟩
  | 5, _ => exact ⟨⟨#[68, 111, 117, 98, 108, 101, 76, 111, 110, 103]⟩, fun _ => by kernel_rfl⟩
  | 6, _ => exact ⟨⟨#[76, 105, 103, 104, 116, 72, 101, 97, 118, 121]⟩, fun _ => by kernel_rfl⟩
  | 7, _ => exact ⟨⟨#[72, 101, 97, 118, 121, 76, 105, 103, 104, 116]⟩, fun _ => by kernel_rfl⟩
  | 8, _ => exact ⟨⟨#[76, 105, 103, 104, 116, 68, 111, 117, 98, 108, 101]⟩, fun _ => by kernel_rfl⟩
  | 9, _ => exact ⟨⟨#[68, 111, 117, 98, 108, 101, 76, 105, 103, 104, 116]⟩, fun _ => by kernel_rfl⟩
  | 10, _ => exact ⟨⟨#[82, 111, 117, 110, 100, 101, 100]⟩, fun _ => by kernel_rfl⟩
  | 11, _ => exact ⟨⟨#[77, 97, 114, 107, 100, 111, 119, 110]⟩, fun _ => by kernel_rfl⟩
  | 12, _ => exact ⟨⟨#[71, 114, 97, 112, 104, 105, 99, 97, 108]⟩, fun _ => by kernel_rfl⟩
  | 13, _ => exact ⟨⟨#[77, 101, 114, 103, 101, 114]⟩, fun _ => by kernel_rfl⟩
  | 14, _ => exact ⟨⟨#[68, 101, 102, 97, 117, 108, 116]⟩, fun _ => by kernel_rfl⟩
  | 15, _ => exact ⟨⟨#[68, 111, 116, 116, 101, 100]⟩, fun _ => by kernel_rfl⟩
  | 16, _ => exact ⟨⟨#[65, 114, 114, 111, 119]⟩, fun _ => by kernel_rfl⟩
  | 17, _ => exact ⟨⟨#[83, 116, 97, 114, 114, 121]⟩, fun _ => by kernel_rfl⟩
  | 18, _ => exact ⟨⟨#[72, 101, 97, 114, 116, 115]⟩, fun _ => by kernel_rfl⟩
  | 19, _ => exact ⟨⟨#[67, 105, 114, 99, 117, 105, 116]⟩, fun _ => by kernel_rfl⟩
  | 20, _ => exact ⟨⟨#[78, 97, 116, 117, 114, 101]⟩, fun _ => by kernel_rfl⟩
  | 21, _ => exact ⟨⟨#[65, 114, 116, 105, 115, 116, 105, 99]⟩, fun _ => by kernel_rfl⟩
  | 22, _ => exact ⟨⟨#[56, 66, 105, 116]⟩, fun _ => by kernel_rfl⟩
  | 23, _ => exact ⟨⟨#[67, 104, 97, 111, 115]⟩, fun _ => by kernel_rfl⟩
  | 24, _ => exact ⟨⟨#[68, 111, 116, 115]⟩, fun _ => by kernel_rfl⟩
  | 25, _ => exact ⟨⟨#[66, 108, 111, 99, 107, 115]⟩, fun _ => by kernel_rfl⟩
  | 26, _ => exact ⟨⟨#[90, 101, 110]⟩, fun _ => by kernel_rfl⟩
  | 27, _ => exact ⟨⟨#[86, 105, 110, 116, 97, 103, 101]⟩, fun _ => by kernel_rfl⟩
  | 28, _ => exact ⟨⟨#[83, 107, 101, 116, 99, 104]⟩, fun _ => by kernel_rfl⟩
  | 29, _ => exact ⟨⟨#[65, 114, 114, 111, 119, 68, 111, 117, 98, 108, 101]⟩, fun _ => by kernel_rfl⟩
  | 30, _ => exact ⟨⟨#[67, 101, 108, 101, 115, 116, 105, 97, 108]⟩, fun _ => by kernel_rfl⟩
  | 31, _ => exact ⟨⟨#[67, 121, 98, 101, 114]⟩, fun _ => by kernel_rfl⟩
  | 32, _ => exact ⟨⟨#[82, 117, 110, 105, 99]⟩, fun _ => by kernel_rfl⟩
  | 33, _ => exact ⟨⟨#[73, 110, 100, 117, 115, 116, 114, 105, 97, 108]⟩, fun _ => by kernel_rfl⟩
  | 34, _ => exact ⟨⟨#[73, 110, 107]⟩, fun _ => by kernel_rfl⟩
  | 35, _ => exact ⟨⟨#[65, 114, 99, 97, 100, 101]⟩, fun _ => by kernel_rfl⟩
  | 36, _ => exact ⟨⟨#[66, 108, 111, 115, 115, 111, 109]⟩, fun _ => by kernel_rfl⟩
  | 37, _ => exact ⟨⟨#[70, 114, 111, 115, 116, 101, 100]⟩, fun _ => by kernel_rfl⟩
  | 38, _ => exact ⟨⟨#[77, 111, 115, 97, 105, 99]⟩, fun _ => by kernel_rfl⟩
  | 39, _ => exact ⟨⟨#[85, 70, 79]⟩, fun _ => by kernel_rfl⟩
  | 40, _ => exact ⟨⟨#[83, 116, 101, 97, 109, 112, 117, 110, 107]⟩, fun _ => by kernel_rfl⟩
  | 41, _ => exact ⟨⟨#[71, 97, 108, 97, 120, 121]⟩, fun _ => by kernel_rfl⟩
  | 42, _ => exact ⟨⟨#[74, 97, 122, 122]⟩, fun _ => by kernel_rfl⟩
  | 43, _ => exact ⟨⟨#[80, 117, 122, 122, 108, 101]⟩, fun _ => by kernel_rfl⟩
  | 44, _ => exact ⟨⟨#[72, 121, 112, 110, 111]⟩, fun _ => by kernel_rfl⟩
  | i + 45, h => exact absurd h (by omega)
set_option maxHeartbeats 4000000 in
set_option maxRecDepth 100000 in
theorem border_any (i : Nat) (hi : i < 45) (w : World) : Calls Try.prog 50 #[.int .i64 i] w (SomeS w) := by
  obtain ⟨s, hs⟩ := arr_at i hi
  go_enter Try.func50, Try.ntmps50
  go_wp2
  go_ret
  exact ⟨s, rfl, rfl⟩
set_option maxHeartbeats 4000000 in
set_option maxRecDepth 100000 in
theorem specStyles_any (w : World) : Calls Try.prog 33 #[] w fun e w' => e = .returned (.slice (some ⟨w.heap.size, 0, none⟩) 45 45) ∧ w.alloc (.cells #[.string ⟨#[110, 111, 116, 104, 105, 110, 103]⟩, .string ⟨#[97, 115, 99, 105, 105]⟩, .string ⟨#[108, 105, 103, 104, 116]⟩, .string ⟨#[104, 101, 97, 118, 121]⟩, .string ⟨#[100, 111, 117, 98, 108, 101]⟩, .string ⟨#[100, 111, 117, 98, 108, 101, 108, 111, 110, 103]⟩, .string ⟨#[108, 105, 103, 104, 116, 104, 101, 97, 118, 121]⟩, .string ⟨#[104, 101, 97, 118, 121, 108, 105, 103, 104, 116]⟩, .string ⟨#[108, 105, 103, 104, 116, 100, 111, 117, 98, 108, 101]⟩, .string ⟨#[100, 111, 117, 98, 108, 101, 108, 105, 103, 104, 116]⟩, .string ⟨#[114, 111, 117, 110, 100, 101, 100]⟩, .string ⟨#[109, 97, 114, 107, 100, 111, 119, 110]⟩, .string ⟨#[103, 114, 97, 112, 104, 105, 99, 97, 108]⟩, .string ⟨#[109, 101, 114, 103, 101, 114]⟩, .string ⟨#[]⟩, .string ⟨#[100, 111, 116, 116, 101, 100]⟩, .string ⟨#[97, 114, 114, 111, 119]⟩, .string ⟨#[115, 116, 97, 114, 114, 121]⟩, .string ⟨#[104, 101, 97, 114, 116, 115]⟩, .string ⟨#[99, 105, 114, 99, 117, 105, 116]⟩, .string ⟨#[110, 97, 116, 117, 114, 101]⟩, .string ⟨#[97, 114, 116, 105, 115, 116, 105, 99]⟩, .string ⟨#[56, 98, 105, 116]⟩, .string ⟨#[99, 104, 97, 111, 115]⟩, .string ⟨#[100, 111, 116, 115]⟩, .string ⟨#[98, 108, 111, 99, 107, 115]⟩, .string ⟨#[122, 101, 110]⟩, .string ⟨#[118, 105, 110, 116, 97, 103, 101]⟩, .string ⟨#[115, 107, 101, 116, 99, 104]⟩, .string ⟨#[97, 114, 114, 111, 119, 100, 111, 117, 98, 108, 101]⟩, .string ⟨#[99, 101, 108, 101, 115, 116, 105, 97, 108]⟩, .string ⟨#[99, 121, 98, 101, 114]⟩, .string ⟨#[114, 117, 110, 105, 99]⟩, .string ⟨#[105, 110, 100, 117, 115, 116, 114, 105, 97, 108]⟩, .string ⟨#[105, 110, 107]⟩, .string ⟨#[97, 114, 99, 97, 100, 101]⟩, .string ⟨#[98, 108, 111, 115, 115, 111, 109]⟩, .string ⟨#[102, 114, 111, 115, 116, 101, 100]⟩, .string ⟨#[109, 111, 115, 97, 105, 99]⟩, .string ⟨#[117, 102, 111]⟩, .string ⟨#[115, 116, 101, 97, 109, 112, 117, 110, 107]⟩, .string ⟨#[103, 97, 108, 97, 120, 121]⟩, .string ⟨#[106, 97, 122, 122]⟩, .string ⟨#[112, 117, 122, 122, 108, 101]⟩, .string ⟨#[104, 121, 112, 110, 111]⟩] 9) = w' := by
  go_enter Try.func33, Try.ntmps33
  go_wp2
  go_ret
  exact ⟨rfl, rfl⟩
def nmAt (i : Nat) : ByteArray := nmL.getD i ByteArray.empty
def spAt (i : Nat) : ByteArray := spL.getD i ByteArray.empty
theorem styFi_at (i : Nat) (hi : i < 45) : styFi 45 (.int .i64 i) = some (.string (nmAt i)) := by
  have hl : nmL.length = 45 := rfl
  unfold nmAt
  simp only [styFi]
  rw [if_pos (by omega), Int.toNat_natCast, List.getElem?_eq_getElem (by omega), List.getD_eq_getElem?_getD, List.getElem?_eq_getElem (by omega)]
  rfl
def StyT (i : Nat) (w : World) (e : Ending) (w' : World) : Prop := ∃ s : ByteArray, e = .returned (.tuple #[.string s, .string (nmAt i), .bool true]) ∧ Below w.heap.size w w'
set_option maxHeartbeats 4000000 in
set_option maxRecDepth 100000 in
theorem styleText_any (i : Nat) (hi : i < 45) (w : World) : Calls Try.prog 34 #[.int .i64 i] w (StyT i w) := by
  have hat := Lib.hid (styFi_at i hi)
  have hz : ∀ W : World, (zeroValue 101).run Try.prog W = .ok (.string ⟨#[]⟩) W := fun _ => by kernel_rfl
  go_enter Try.func34, Try.ntmps34
  go_wp2_with (first
    | (go_at_call 49; refine (styles_any _).mono ?_; rintro e w1 ⟨rfl, hM, hB⟩)
    | ((with_reducible refine gate_lk (t := 103) rfl ?_); (refine wpList_lookup_is hM (kv := .int .i64 i) (r := .tuple #[.string (nmAt i), .bool true]) Try.underlying103 Try.underlying105 ?_ ?_ ?_ (hz _) ?_ ?_); rfl; rfl; exact (show MapKept.IsKey (.int .i64) (.int .i64 i) from rfl); (rw [hat.out]; rfl))
    | (go_at_call 50; refine (border_any i hi _).mono ?_; rintro e w2 ⟨s, rfl, rfl⟩)
    | (go_at_call 51; refine (name_any _ _).mono ?_; rintro e w2 ⟨rfl, rfl⟩))
  go_ret3
  exact ⟨_, rfl, hB⟩
theorem sp_or (i : Nat) (hi : i < 45) : spAt i = ⟨#[]⟩ ∨ (nmAt i = spAt i ∧ (spAt i).toList.isEmpty = false) := by
  have : ∀ i : Fin 45, spAt i.1 = ⟨#[]⟩ ∨ (nmAt i.1 = spAt i.1 ∧ (spAt i.1).toList.isEmpty = false) := by decide +kernel
  exact this ⟨i, hi⟩
theorem sp_cell (i : Nat) (hi : i < 45) : (#[.string ⟨#[110, 111, 116, 104, 105, 110, 103]⟩, .string ⟨#[97, 115, 99, 105, 105]⟩, .string ⟨#[108, 105, 103, 104, 116]⟩, .string ⟨#[104, 101, 97, 118, 121]⟩, .string ⟨#[100, 111, 117, 98, 108, 101]⟩, .string ⟨#[100, 111, 117, 98, 108, 101, 108, 111, 110, 103]⟩, .string ⟨#[108, 105, 103, 104, 116, 104, 101, 97, 118, 121]⟩, .string ⟨#[104, 101, 97, 118, 121, 108, 105, 103, 104, 116]⟩, .string ⟨#[108, 105, 103, 104, 116, 100, 111, 117, 98, 108, 101]⟩, .string ⟨#[100, 111, 117, 98, 108, 101, 108, 105, 103, 104, 116]⟩, .string ⟨#[114, 111, 117, 110, 100, 101, 100]⟩, .string ⟨#[109, 97, 114, 107, 100, 111, 119, 110]⟩, .string ⟨#[103, 114, 97, 112, 104, 105, 99, 97, 108]⟩, .string ⟨#[109, 101, 114, 103, 101, 114]⟩, .string ⟨#[]⟩, .string ⟨#[100, 111, 116, 116, 101, 100]⟩, .string ⟨#[97, 114, 114, 111, 119]⟩, .string ⟨#[115, 116, 97, 114, 114, 121]⟩, .string ⟨#[104, 101, 97, 114, 116, 115]⟩, .string ⟨#[99, 105, 114, 99, 117, 105, 116]⟩, .string ⟨#[110, 97, 116, 117, 114, 101]⟩, .string ⟨#[97, 114, 116, 105, 115, 116, 105, 99]⟩, .string ⟨#[56, 98, 105, 116]⟩, .string ⟨#[99, 104, 97, 111, 115]⟩, .string ⟨#[100, 111, 116, 115]⟩, .string ⟨#[98, 108, 111, 99, 107, 115]⟩, .string ⟨#[122, 101, 110]⟩, .string ⟨#[118, 105, 110, 116, 97, 103, 101]⟩, .string ⟨#[115, 107, 101, 116, 99, 104]⟩, .string ⟨#[97, 114, 114, 111, 119, 100, 111, 117, 98, 108, 101]⟩, .string ⟨#[99, 101, 108, 101, 115, 116, 105, 97, 108]⟩, .string ⟨#[99, 121, 98, 101, 114]⟩, .string ⟨#[114, 117, 110, 105, 99]⟩, .string ⟨#[105, 110, 100, 117, 115, 116, 114, 105, 97, 108]⟩, .string ⟨#[105, 110, 107]⟩, .string ⟨#[97, 114, 99, 97, 100, 101]⟩, .string ⟨#[98, 108, 111, 115, 115, 111, 109]⟩, .string ⟨#[102, 114, 111, 115, 116, 101, 100]⟩, .string ⟨#[109, 111, 115, 97, 105, 99]⟩, .string ⟨#[117, 102, 111]⟩, .string ⟨#[115, 116, 101, 97, 109, 112, 117, 110, 107]⟩, .string ⟨#[103, 97, 108, 97, 120, 121]⟩, .string ⟨#[106, 97, 122, 122]⟩, .string ⟨#[112, 117, 122, 122, 108, 101]⟩, .string ⟨#[104, 121, 112, 110, 111]⟩] : Array Value)[i]? = some (.string (spAt i)) := by
  unfold spAt
  have h : (#[.string ⟨#[110, 111, 116, 104, 105, 110, 103]⟩, .string ⟨#[97, 115, 99, 105, 105]⟩, .string ⟨#[108, 105, 103, 104, 116]⟩, .string ⟨#[104, 101, 97, 118, 121]⟩, .string ⟨#[100, 111, 117, 98, 108, 101]⟩, .string ⟨#[100, 111, 117, 98, 108, 101, 108, 111, 110, 103]⟩, .string ⟨#[108, 105, 103, 104, 116, 104, 101, 97, 118, 121]⟩, .string ⟨#[104, 101, 97, 118, 121, 108, 105, 103, 104, 116]⟩, .string ⟨#[108, 105, 103, 104, 116, 100, 111, 117, 98, 108, 101]⟩, .string ⟨#[100, 111, 117, 98, 108, 101, 108, 105, 103, 104, 116]⟩, .string ⟨#[114, 111, 117, 110, 100, 101, 100]⟩, .string ⟨#[109, 97, 114, 107, 100, 111, 119, 110]⟩, .string ⟨#[103, 114, 97, 112, 104, 105, 99, 97, 108]⟩, .string ⟨#[109, 101, 114, 103, 101, 114]⟩, .string ⟨#[]⟩, .string ⟨#[100, 111, 116, 116, 101, 100]⟩, .string ⟨#[97, 114, 114, 111, 119]⟩, .string ⟨#[115, 116, 97, 114, 114, 121]⟩, .string ⟨#[104, 101, 97, 114, 116, 115]⟩, .string ⟨#[99, 105, 114, 99, 117, 105, 116]⟩, .string ⟨#[110, 97, 116, 117, 114, 101]⟩, .string ⟨#[97, 114, 116, 105, 115, 116, 105, 99]⟩, .string ⟨#[56, 98, 105, 116]⟩, .string ⟨#[99, 104, 97, 111, 115]⟩, .string ⟨#[100, 111, 116, 115]⟩, .string ⟨#[98, 108, 111, 99, 107, 115]⟩, .string ⟨#[122, 101, 110]⟩, .string ⟨#[118, 105, 110, 116, 97, 103, 101]⟩, .string ⟨#[115, 107, 101, 116, 99, 104]⟩, .string ⟨#[97, 114, 114, 111, 119, 100, 111, 117, 98, 108, 101]⟩, .string ⟨#[99, 101, 108, 101, 115, 116, 105, 97, 108]⟩, .string ⟨#[99, 121, 98, 101, 114]⟩, .string ⟨#[114, 117, 110, 105, 99]⟩, .string ⟨#[105, 110, 100, 117, 115, 116, 114, 105, 97, 108]⟩, .string ⟨#[105, 110, 107]⟩, .string ⟨#[97, 114, 99, 97, 100, 101]⟩, .string ⟨#[98, 108, 111, 115, 115, 111, 109]⟩, .string ⟨#[102, 114, 111, 115, 116, 101, 100]⟩, .string ⟨#[109, 111, 115, 97, 105, 99]⟩, .string ⟨#[117, 102, 111]⟩, .string ⟨#[115, 116, 101, 97, 109, 112, 117, 110, 107]⟩, .string ⟨#[103, 97, 108, 97, 120, 121]⟩, .string ⟨#[106, 97, 122, 122]⟩, .string ⟨#[112, 117, 122, 122, 108, 101]⟩, .string ⟨#[104, 121, 112, 110, 111]⟩] : Array Value) = (spL.map Value.string).toArray := rfl
  have hl : spL.length = 45 := rfl
  rw [h, List.getElem?_toArray, List.getElem?_map, List.getD_eq_getElem?_getD, List.getElem?_eq_getElem (by omega)]
  rfl
set_option maxHeartbeats 4000000 in
set_option maxRecDepth 100000 in
theorem law_styles (n : Int) (w : World) (hn : 0 ≤ n ∧ n ≤ 255) : Calls Try.prog 13 #[.int .u8 n] w fun e w' => e = .returned (.bool true) ∧ Below w.heap.size w w' := by
  obtain ⟨n0, n1⟩ := hn
  obtain ⟨i, hi, hl⟩ : ∃ i : Nat, n % 45 = (i : Int) ∧ i < 45 := ⟨(n % 45).toNat, by omega, by omega⟩
  have hor := sp_or i hl
  have hcl := sp_cell i hl
  have hi0 : (0 : Int) ≤ (i : Int) := by omega
  have hi1 : (i : Int) < 45 := by omega
  generalize hA : (#[.string ⟨#[110, 111, 116, 104, 105, 110, 103]⟩, .string ⟨#[97, 115, 99, 105, 105]⟩, .string ⟨#[108, 105, 103, 104, 116]⟩, .string ⟨#[104, 101, 97, 118, 121]⟩, .string ⟨#[100, 111, 117, 98, 108, 101]⟩, .string ⟨#[100, 111, 117, 98, 108, 101, 108, 111, 110, 103]⟩, .string ⟨#[108, 105, 103, 104, 116, 104, 101, 97, 118, 121]⟩, .string ⟨#[104, 101, 97, 118, 121, 108, 105, 103, 104, 116]⟩, .string ⟨#[108, 105, 103, 104, 116, 100, 111, 117, 98, 108, 101]⟩, .string ⟨#[100, 111, 117, 98, 108, 101, 108, 105, 103, 104, 116]⟩, .string ⟨#[114, 111, 117, 110, 100, 101, 100]⟩, .string ⟨#[109, 97, 114, 107, 100, 111, 119, 110]⟩, .string ⟨#[103, 114, 97, 112, 104, 105, 99, 97, 108]⟩, .string ⟨#[109, 101, 114, 103, 101, 114]⟩, .string ⟨#[]⟩, .string ⟨#[100, 111, 116, 116, 101, 100]⟩, .string ⟨#[97, 114, 114, 111, 119]⟩, .string ⟨#[115, 116, 97, 114, 114, 121]⟩, .string ⟨#[104, 101, 97, 114, 116, 115]⟩, .string ⟨#[99, 105, 114, 99, 117, 105, 116]⟩, .string ⟨#[110, 97, 116, 117, 114, 101]⟩, .string ⟨#[97, 114, 116, 105, 115, 116, 105, 99]⟩, .string ⟨#[56, 98, 105, 116]⟩, .string ⟨#[99, 104, 97, 111, 115]⟩, .string ⟨#[100, 111, 116, 115]⟩, .string ⟨#[98, 108, 111, 99, 107, 115]⟩, .string ⟨#[122, 101, 110]⟩, .string ⟨#[118, 105, 110, 116, 97, 103, 101]⟩, .string ⟨#[115, 107, 101, 116, 99, 104]⟩, .string ⟨#[97, 114, 114, 111, 119, 100, 111, 117, 98, 108, 101]⟩, .string ⟨#[99, 101, 108, 101, 115, 116, 105, 97, 108]⟩, .string ⟨#[99, 121, 98, 101, 114]⟩, .string ⟨#[114, 117, 110, 105, 99]⟩, .string ⟨#[105, 110, 100, 117, 115, 116, 114, 105, 97, 108]⟩, .string ⟨#[105, 110, 107]⟩, .string ⟨#[97, 114, 99, 97, 100, 101]⟩, .string ⟨#[98, 108, 111, 115, 115, 111, 109]⟩, .string ⟨#[102, 114, 111, 115, 116, 101, 100]⟩, .string ⟨#[109, 111, 115, 97, 105, 99]⟩, .string ⟨#[117, 102, 111]⟩, .string ⟨#[115, 116, 101, 97, 109, 112, 117, 110, 107]⟩, .string ⟨#[103, 97, 108, 97, 120, 121]⟩, .string ⟨#[106, 97, 122, 122]⟩, .string ⟨#[112, 117, 122, 122, 108, 101]⟩, .string ⟨#[104, 121, 112, 110, 111]⟩] : Array Value) = A at hcl
  go_enter Try.func13, Try.ntmps13
  go_wp2_with (first
    | (go_at_call 33; refine (specStyles_any _).mono ?_; rintro e w1 ⟨rfl, rfl⟩; rw [hA])
    | (go_at_call 34; refine (styleText_any i hl _).mono ?_; rintro e w2 ⟨s, rfl, hB⟩; refine halt_here ?_))
  refine resume ?_
  have hc2 : w2.cell? ⟨w.heap.size, i, none⟩ = some (.string (spAt i)) := by
    rw [hB.cell (p := ⟨w.heap.size, i, none⟩) (by simp), World.cell?_alloc_at _ _ _ _ rfl]
    exact hcl
  have BB : Below w.heap.size w w2 := ((Below.refl _ _).alloc (Nat.le_refl _) _).trans (hB.mono (by simp))
  clear hA hcl hB
  rcases hor with h | ⟨h1, h2⟩
  · rw [h] at hc2
    go_wp2
    go_ret
    exact ⟨rfl, BB⟩
  · rw [h1]
    clear h1
    go_wp2
    go_ret
    exact ⟨ret_true (by simp), BB⟩
end Go.Proofs.Ytlppbalnjogkoaa
