/- Numbers, and bytes, below 1000 are told by their digits: the walks of FormatNumber, FormatBytes and of the law. Numbers from 0 to 999; else nothing is asked. -/
import Derived.Test.YtadkpooimfbolaaNumB
import Derived.Test.YtadkpooimfbolaaIMap
import Derived.WalkKit
import Derived.Handy
import Derived.BigQuiet
import Derived.Deep.QuietTactic
import Derived.Deep.RegionWith
import Derived.Deep.DrawnRows
import Derived.WalkLawsBesides
namespace Go.Proofs.Ytadkpooimfbolaa
open Go.RowKit
set_option linter.unusedVariables false
attribute [local go_sem ↓] Go.wp_at_zero Go.wp_at_succ
open Classical in
noncomputable def upd (f : Value → Option Value) (k v : Value) : Value → Option Value := fun q => if q = k then some v else f q
theorem upd_hit (f : Value → Option Value) (k v : Value) : upd f k v k = some v := by unfold upd; rw [if_pos rfl]
theorem upd_miss (f : Value → Option Value) (k v q : Value) (h : q ≠ k) : upd f k v q = f q := by unfold upd; rw [if_neg h]
set_option maxRecDepth 100000 in
theorem un_insert {ops : Array Oper} {rest : List Oper} {a : Act} {w w0 : World} {Q : Exit → Act → World → Prop} {b : Nat} {f : Value → Option Value} {p : Operand} {n : Int} {s : ByteArray} {ty : TypeId} {ps : String} {af : Array Edge} (h : MapIs (.int .i64) w b f) (hB : Below b w0 w) (hp : a.eval p = .map (some b))
    (hK : ∀ w', MapIs (.int .i64) w' b (upd f (.int .i64 n) (.string s)) → Below b w0 w' → wpList Try.prog ops Q rest a w') : wpList Try.prog ops Q (⟨none, .insert 66 p (.const (.int .i64 n)) (.const (.string s)), ty, ps, af, none⟩ :: rest) a w := by
  refine wpList_plain rfl fun K hK' => ?_
  obtain ⟨w', hrun, hm, hg, hz⟩ := h.run_update (P := Try.prog) (t := 66) Try.underlying66 Try.underlying2 (show MapKept.IsKey (.int .i64) (.int .i64 n) from rfl) (upd_hit f (.int .i64 n) (.string s)) (fun m hm => upd_miss _ _ _ _ hm)
  unfold Oper.wp execOp
  have e1 : a.eval (.const (.int .i64 n)) = .int .i64 n := rfl
  have e2 : a.eval (.const (.string s)) = .string s := rfl
  simp only [hp, e1, e2, Sem.run_bind, hrun, Result.andThen_ok, Sem.run_pure]
  show K a w'
  exact hK' _ _ (hK w' hm (hB.grown hg (Nat.le_of_lt h.lt) (fun g hg => by cases hg; exact Nat.le_refl _)))
theorem gate_ins {ops : Array Oper} {rest : List Oper} {o : Oper} {a : Act} {w : World} {Q : Exit → Act → World → Prop} {t : TypeId} {p k v : Operand} (_ho : o.op = .insert t p k v) (h : wpList Try.prog ops Q (o :: rest) a w) : wpList Try.prog ops Q (o :: rest) a w := h
def TxtRet (n : Nat) (t : ByteArray) (w : World) (e : Ending) (w' : World) : Prop := e = .returned (.string (dig3 n ++ t)) ∧ Below w.heap.size w w'
theorem scales_any (w : World) : Calls Try.prog 50 #[] w fun e w' => e = .returned (.slice (some ⟨w.heap.size, 0, none⟩) 5 5) ∧ w.alloc (.cells #[.int .i64 1000000000000000, .int .i64 1000000000000, .int .i64 1000000000, .int .i64 1000000, .int .i64 1000] 2) = w' := by
  go_enter Try.func50, Try.ntmps50
  go_wp2
  go_ret
  exact ⟨rfl, rfl⟩
set_option maxHeartbeats 4000000 in
set_option maxRecDepth 100000 in
theorem format_any (n m : Nat) (t : ByteArray) (f : Value → Option Value) (w : World) (h : n < 1000) (hM : MapIs (.int .i64) w m f) (hf : f (.int .i64 0) = some (.string t)) (ht : t.size ≤ 10) :
    Calls Try.prog 41 #[.int .i64 n, .map (some m)] w (TxtRet n t w) := by
  have n0 : (0 : Int) ≤ (n : Int) := by omega
  have n1 : (n : Int) < 1000 := by omega
  have hs1 := dig3_size n
  have hlk : ∀ W, MapIs (.int .i64) W m f → (Instr.lookup 66 (.map (some m)) (.int .i64 0) false).run Try.prog W = .ok (.string t) W := by
    intro W hW
    have := hW.run_lookup (P := Try.prog) (t := 66) (kt := 2) (et := 9) (k := .int .i64 0) (z := .string ⟨#[]⟩) Try.underlying66 Try.underlying2 rfl (by kernel_rfl) false
    rw [hf] at this
    exact this
  have Hlk := Lib.hid hlk
  have HM := Lib.hid hM
  have H := fun W => Lib.hid (formatInt_any n W h)
  have hml : m < w.heap.size := hM.lt
  have d1 : decide ((1000000000000000 : Int) ≤ (n : Int)) = false := decide_eq_false (by omega)
  have d2 : decide ((1000000000000 : Int) ≤ (n : Int)) = false := decide_eq_false (by omega)
  have d3 : decide ((1000000000 : Int) ≤ (n : Int)) = false := decide_eq_false (by omega)
  have d4 : decide ((1000000 : Int) ≤ (n : Int)) = false := decide_eq_false (by omega)
  have d5 : decide ((1000 : Int) ≤ (n : Int)) = false := decide_eq_false (by omega)
  clear hlk hM h hf n1
  go_enter Try.func41, Try.ntmps41
  go_wp2_with (go_at_call 50; refine (scales_any _).mono ?_; rintro e w1 ⟨rfl, rfl⟩)
  refine wp_loop_rounds 6 ?_
  rw [rounds_succ]
  go_wp2_with fail
  rw [rounds_succ]
  go_wp2_with fail
  rw [rounds_succ]
  go_wp2_with fail
  rw [rounds_succ]
  go_wp2_with fail
  rw [rounds_succ]
  go_wp2_with fail
  rw [rounds_succ]
  go_wp2_with fail
  have l0 := fun o => Hlk.out ((w.alloc o).drew) ((HM.out.alloc o).drew)
  go_region_with ((go_at_call 52; refine (H _).out.mono ?_; rintro e w1 ⟨rfl, hb⟩
                   have hb' : Below (w.heap.size + 1) (w.alloc (.cells #[.int .i64 1000000000000000, .int .i64 1000000000000, .int .i64 1000000000, .int .i64 1000000, .int .i64 1000] 2)) w1 := ⟨hb.os, hb.tape, hb.output, hb.size, fun k hk => hb.block k (by show k < (w.alloc _).heap.size; simp; omega)⟩
                   have l1 := Hlk.out w1 ((HM.out.alloc _).below hb' (by omega))))
  all_goals
    have HB := Lib.hid (((Below.refl _ _).alloc (Nat.le_refl _) _).trans (hb'.mono (B' := w.heap.size) (by omega)))
    clear hb hb' l0 l1
    go_wp2
    go_ret
    exact ⟨rfl, HB.out⟩
set_option maxHeartbeats 4000000 in
set_option maxRecDepth 100000 in
theorem number_any (n : Nat) (w : World) (h : n < 1000) : Calls Try.prog 26 #[.int .i64 n] w (TxtRet n ⟨#[]⟩ w) := by
  have hmm := @run_makeMap Try.prog
  have hM := MapIs.made w (.int .i64)
  have hB : Below w.heap.size w (w.alloc (.map #[] 0)) := (Below.refl _ _).alloc (Nat.le_refl _) _
  go_enter Try.func26, Try.ntmps26
  go_wp2_with (first
    | ((with_reducible refine gate_ins (t := 66) rfl ?_); (refine un_insert hM hB ?_ ?_); rfl; clear hM hB; intro w1 hM hB)
    | (go_at_call 41; (refine (format_any n w.heap.size ⟨#[]⟩ _ _ h hM (upd_hit _ _ _) (Nat.zero_le _)).mono ?_); rintro e w2 ⟨rfl, hb⟩
       have HB := Lib.hid (hB.trans (hb.mono hB.size)); clear hb hM hB))
  go_ret
  exact ⟨rfl, HB.out⟩
set_option maxHeartbeats 4000000 in
set_option maxRecDepth 100000 in
theorem bytes_any (n : Nat) (w : World) (h : n < 1000) : Calls Try.prog 27 #[.int .i64 n] w (TxtRet n ⟨#[66]⟩ w) := by
  have hmm := @run_makeMap Try.prog
  have hM := MapIs.made w (.int .i64)
  have hB : Below w.heap.size w (w.alloc (.map #[] 0)) := (Below.refl _ _).alloc (Nat.le_refl _) _
  go_enter Try.func27, Try.ntmps27
  go_wp2_with (first
    | ((with_reducible refine gate_ins (t := 66) rfl ?_); (refine un_insert hM hB ?_ ?_); rfl; clear hM hB; intro w1 hM hB)
    | (go_at_call 41; (refine (format_any n w.heap.size ⟨#[66]⟩ _ _ h hM (upd_hit _ _ _) (Nat.le_of_ble_eq_true rfl)).mono ?_); rintro e w2 ⟨rfl, hb⟩
       have HB := Lib.hid (hB.trans (hb.mono hB.size)); clear hb hM hB))
  go_ret
  exact ⟨rfl, HB.out⟩
theorem implN_any (n : Nat) (w : World) (h : n < 1000) : Calls Try.prog 18 #[.int .i64 n] w (TxtRet n ⟨#[]⟩ w) := by
  have H := fun W => Lib.hid (number_any n W h)
  go_enter Try.func18, Try.ntmps18
  go_wp2_with (go_at_call 26; refine (H _).out.mono ?_; rintro e w1 ⟨rfl, hb⟩)
  go_ret
  exact ⟨rfl, hb⟩
theorem implB_any (n : Nat) (w : World) (h : n < 1000) : Calls Try.prog 19 #[.int .i64 n] w (TxtRet n ⟨#[66]⟩ w) := by
  have H := fun W => Lib.hid (bytes_any n W h)
  go_enter Try.func19, Try.ntmps19
  go_wp2_with (go_at_call 27; refine (H _).out.mono ?_; rintro e w1 ⟨rfl, hb⟩)
  go_ret
  exact ⟨rfl, hb⟩
theorem dig_empty (n : Nat) : dig3 n ++ (⟨#[]⟩ : ByteArray) = dig3 n := by
  apply WideShapes.bytes_inj; simp
set_option maxHeartbeats 1000000 in
theorem lawUnits (v : Int) (w : World) (hv : -9223372036854775808 ≤ v ∧ v ≤ 9223372036854775807) : Calls Try.prog 6 #[.int .i64 v] w fun e w' => e = .returned (.bool true) ∧ Below w.heap.size w w' := by
  obtain ⟨v0, v1⟩ := hv
  by_cases h0 : v < 0
  · go_enter Try.func6, Try.ntmps6
    go_wp2
    go_ret
    exact ⟨rfl, Below.refl _ _⟩
  · by_cases h1 : 999 < v
    · have e1 : decide (v < 0) = false := by simpa using h0
      go_enter Try.func6, Try.ntmps6
      go_wp2
      go_ret
      exact ⟨rfl, Below.refl _ _⟩
    · obtain ⟨n, rfl⟩ : ∃ n : Nat, v = n := ⟨v.toNat, by omega⟩
      have hn : n < 1000 := by omega
      have e1 : decide ((n : Int) < 0) = false := decide_eq_false (by omega)
      have e2 : decide ((999 : Int) < (n : Int)) = false := decide_eq_false (by omega)
      have hs1 := dig3_size n
      have HD := fun W => Lib.hid (decimal_any n W hn)
      have HN := fun W => Lib.hid (implN_any n W hn)
      have HBy := fun W => Lib.hid (implB_any n W hn)
      have de := dig_empty n
      have q1 : (dig3 n).toList == (dig3 n).toList := by simp
      clear h0 h1 v0 v1
      go_enter Try.func6, Try.ntmps6
      go_wp2_with (first
        | (go_at_call 17; refine (HD _).out.mono ?_; rintro e w1 ⟨rfl, hb1⟩
           have B1 := Lib.hid hb1; clear hb1)
        | (go_at_call 18; refine (HN _).out.mono ?_; rintro e w2 ⟨rfl, hb2⟩
           have B2 := Lib.hid (B1.out.trans (hb2.mono B1.out.size)); clear hb2)
        | (go_at_call 19; refine (HBy _).out.mono ?_; rintro e w3 ⟨rfl, hb3⟩
           have B3 := Lib.hid (B2.out.trans (hb3.mono B2.out.size)); clear hb3))
      go_ret
      exact ⟨ret_true (by simp), B3.out⟩
end Go.Proofs.Ytadkpooimfbolaa
