/- The columns that the table merges: the walks of getRowConfig and getMergedColumnIndices. Rows of at most 100 texts, 0 to 200 columns. -/
import Derived.Test.YtlppbalnjogkoaaMerB
import Derived.WalkKit
import Derived.Handy
import Derived.Deep.QuietTactic
import Derived.BigQuiet
import Derived.Laws.OwnMore
import Derived.WalkLawsBesides
namespace Go.Proofs.Ytlppbalnjogkoaa
open Go.RowKit
set_option linter.unusedVariables false
abbrev hint1 : Value := .agg #[.bool false, .bool false, .bool false, .bool false, .bool false, .bool false, .bool false, .bool false, .bool false, .bool false, .bool false, .int .i64 0, .int .i64 1, .int .i64 0]
def rowF : Value → Option Value
  | .int .i64 n => if n = 0 then some (.agg #[.bool true, .int .i64 0]) else none
  | _ => none
theorem gate_lk (P : Program) {ops : Array Oper} {rest : List Oper} {o : Oper} {a : Act} {w : World} {Q : Exit → Act → World → Prop} {t : TypeId} {p k : Operand} {ok : Bool} (_ho : o.op = .lookup t p k ok) (h : wpList P ops Q (o :: rest) a w) : wpList P ops Q (o :: rest) a w := h
set_option maxHeartbeats 2000000 in
set_option maxRecDepth 100000 in
theorem rowConfig_any (gt gm : Nat) (w : World) (ht : w.cell? ⟨gt, 22, none⟩ = some (.map (some gm))) (hM : MapIs (.int .i64) w gm rowF) (hgt : gt < w.heap.size) :
    Calls Try.prog 57 #[.pointer (some ⟨gt, 0, none⟩), hint1] w fun e w' => e = .returned (.agg #[.bool true, .int .i64 0]) ∧ Below w.heap.size w w' := by
  have hz : ∀ W : World, (zeroValue 108).run Try.prog W = .ok (.agg #[.bool false, .int .i64 0]) W := fun _ => by kernel_rfl
  have hlt := hM.lt
  go_enter Try.func57, Try.ntmps57
  go_wp2_with ((with_reducible refine gate_lk Try.prog (t := 109) rfl ?_); (refine wpList_lookup_is ((hM.alloc _).alloc _) (kv := .int .i64 0) (r := .agg #[.bool true, .int .i64 0]) Try.underlying109 Try.underlying3 ?_ ?_ ?_ (hz _) ?_ ?_); rfl; rfl; exact (show MapKept.IsKey (.int .i64) (.int .i64 0) from rfl); rfl)
  refine bodyPost_ret (v := .agg #[.bool true, .int .i64 0]) ?_ rfl ⟨rfl, ?_⟩
  · exact results_cell_row rfl _ _ (w.heap.size + 1) 108 _ (0, 0) _ rfl (heap_alloc2_new _ _ _) Try.underlying108 rfl (by kernel_rfl)
  · exact ((Below.refl _ _).alloc (Nat.le_refl _) _).alloc (by simp) _
def MapRet (ss : List ByteArray) (m : Int) (w : World) (e : Ending) (w' : World) : Prop :=
  ∃ g, e = .returned (.map (some g)) ∧ MapIs (.int .i64) w' g (pmap (runs ss m 0)) ∧ Below w.heap.size w w' ∧ w.heap.size ≤ g
theorem gate_up (P : Program) {ops : Array Oper} {rest : List Oper} {o : Oper} {a : Act} {w : World} {Q : Exit → Act → World → Prop} {t : TypeId} {p k v : Operand} (_ho : o.op = .mapUpdate t p k v) (h : wpList P ops Q (o :: rest) a w) : wpList P ops Q (o :: rest) a w := h
/-- One step of the scan: the state of the map and of the counter at a round's head. -/
def Scan (ss : List ByteArray) (n gm : Nat) (w0 wr : World) (k : Nat) (pre : List (Int × Int)) (c8 : Value) (j : Nat) : Prop :=
  (c8 = .int .i64 k ∧ k + 1 ≤ j ∧ (k + 1 < n → j < n) ∧ (k < n → rend ss k k = rend ss k (j - 1)) ∧ MapIs (.int .i64) wr gm (pmap pre) ∧ Below w0.heap.size w0 wr) ∨
  (j = n ∧ k < n ∧ k < rend ss k k ∧ c8 = .int .i64 (rend ss k k : Nat) ∧ MapIs (.int .i64) wr gm (pmap (pre ++ [((k : Int), ((rend ss k k : Nat) : Int))])) ∧ Below w0.heap.size w0 wr)
/-- The outer loop's state. -/
def Outer (ss : List ByteArray) (m : Int) (gm : Nat) (w0 wr : World) (c8 : Value) : Prop :=
  ∃ (k : Nat) (pre : List (Int × Int)), c8 = .int .i64 k ∧ k ≤ 300 ∧ runs ss m 0 = pre ++ runs ss m k ∧ (∀ p ∈ pre, p.1 < (k : Int)) ∧ MapIs (.int .i64) wr gm (pmap pre) ∧ Below w0.heap.size w0 wr
theorem outer_hit {ss : List ByteArray} {m : Int} {gm k e : Nat} {w0 wr : World} {pre : List (Int × Int)} (hpre : runs ss m 0 = pre ++ runs ss m k) (hp : ∀ p ∈ pre, p.1 < (k : Int)) (hk : k < ss.length) (hn : ss.length ≤ 100) (he : rend ss k k = e) (hlt : k < e) (hm : (k : Int) < m - 1)
    (hM : MapIs (.int .i64) wr gm (pmap (pre ++ [((k : Int), (e : Int))]))) (hB : Below w0.heap.size w0 wr) : Outer ss m gm w0 wr (.int .i64 ((e : Int) + 1)) := by
  subst he
  have hr := rend_lt ss k k hk
  refine ⟨rend ss k k + 1, pre ++ [((k : Int), ((rend ss k k : Nat) : Int))], by go_num, by omega, ?_, ?_, hM, hB⟩
  · rw [hpre, runs_hit ss m k hk hlt (by omega), List.append_assoc]; rfl
  · intro p hp'
    rcases List.mem_append.1 hp' with h | h
    · have := hp p h; omega
    · simp at h; subst h; simp; omega
theorem outer_miss {ss : List ByteArray} {m : Int} {gm k : Nat} {w0 wr : World} {pre : List (Int × Int)} (hpre : runs ss m 0 = pre ++ runs ss m k) (hp : ∀ p ∈ pre, p.1 < (k : Int)) (hk : k ≤ 299) (he : k < ss.length → rend ss k k = k)
    (hM : MapIs (.int .i64) wr gm (pmap pre)) (hB : Below w0.heap.size w0 wr) : Outer ss m gm w0 wr (.int .i64 ((k : Int) + 1)) := by
  refine ⟨k + 1, pre, by go_num, by omega, ?_, fun p h => by have := hp p h; omega, hM, hB⟩
  rw [hpre]
  by_cases h : k < ss.length
  · rw [runs_miss ss m k (by rw [he h]; omega) h, he h]
  · rw [runs_end ss m k h, runs_end ss m (k + 1) (by omega)]
theorem scan_round {ss : List ByteArray} {n gm k j : Nat} {w0 wr w2 : World} {pre : List (Int × Int)} (hB : Below w0.heap.size w0 wr) (hg : wr.grownBy w2 (some gm)) (h0 : w0.heap.size ≤ gm) : Below w0.heap.size w0 w2 :=
  hB.grown hg hB.size (fun q hq => by cases hq; exact h0)
set_option maxHeartbeats 4000000 in
set_option maxRecDepth 100000 in
theorem getMerged_any (A : Option Addr) (n cap : Nat) (ss : List ByteArray) (m : Int) (gt gm : Nat) (w : World) (h : Strs w A n cap ss) (hn : n ≤ 100) (hm : 0 ≤ m ∧ m ≤ 200)
    (ht : w.cell? ⟨gt, 22, none⟩ = some (.map (some gm))) (hM : MapIs (.int .i64) w gm rowF) (hgt : gt < w.heap.size) (hnum : w.cell? ⟨gt, 14, none⟩ = some (.int .i64 m)) :
    Calls Try.prog 52 #[.pointer (some ⟨gt, 0, none⟩), .slice A n cap, hint1] w (MapRet ss m w) := by
  obtain ⟨m0, m1⟩ := hm
  have hl := h.2.1
  have hmm := @run_makeMap Try.prog
  have hgm := hM.lt
  have hfd : ∀ W : World, (Instr.field 108 (.agg #[.bool true, .int .i64 0]) 0).run Try.prog W = .ok (.bool true) W := fun _ => by kernel_rfl
  go_enter Try.func52, Try.ntmps52
  go_wp2_with (go_at_call 57; (refine (rowConfig_any gt gm _ ?_ ((hM.alloc _)) ?_).mono ?_); (rw [World.cell?_alloc_past _ _ _ hgt]; exact ht); (simp; omega); rintro e w1 ⟨rfl, hb1⟩)
  have B1 : Below w.heap.size w w1 := ((Below.refl w.heap.size w).alloc (Nat.le_refl _) _).trans (hb1.mono (by simp))
  have B2 : Below w.heap.size w (w1.alloc (.map #[] 0)) := B1.alloc B1.size _
  have z1 : w.heap.size ≤ w1.heap.size := B1.size
  have M0 := MapIs.made w1 (.int .i64)
  rw [← pmap_nil] at M0
  clear hmm hM ht hb1 B1
  generalize hw2 : w1.alloc (.map #[] 0) = w2 at M0 B2 ⊢
  clear hw2
  generalize hg : w1.heap.size = g at *
  clear hg
  go_loopw [8] (fun c8 wr => Outer ss m g w wr c8) (fun c8 _ => (m - intOf c8).toNat)
  case atStart => exact ⟨0, [], rfl, by omega, rfl, by simp, M0, B2⟩
  case round =>
    obtain ⟨k, pre, rfl, hk3, hpre, hp, hM, hB⟩ := hrel
    obtain ⟨wo, rfl⟩ : ∃ wo : World, wo = wr := ⟨_, rfl⟩
    have hnw : wo.cell? ⟨gt, 14, none⟩ = some (.int .i64 m) := (hB.cell (p := ⟨gt, 14, none⟩) hgt).trans hnum
    have Hpre := Lib.hid hpre
    have Hp := Lib.hid hp
    have Hl := Lib.hid hl
    have HM := Lib.hid M0
    have HN := Lib.hid hnum
    have HH := Lib.hid h
    clear hpre hp hl M0 hnum h B2 hfd
    by_cases hlt : (k : Int) < m - 1
    · go_wp2_with fail
      go_loopw [8, 9] (fun c8 c9 wq => ∃ j : Nat, c9 = .int .i64 j ∧ j ≤ 400 ∧ Scan ss n g w wq k pre c8 j) (fun _ c9 _ => n - (intOf c9).toNat)
      case atStart => exact ⟨k + 1, by go_num, by omega, .inl ⟨rfl, Nat.le_refl _, fun e => e, fun _ => rfl, hM, hB⟩⟩
      case round =>
        obtain ⟨j, rfl, hj4, hscan⟩ := hrel
        obtain ⟨wi, rfl⟩ : ∃ wi : World, wi = wr := ⟨_, rfl⟩
        clear hM hB hnw
        by_cases hj : j < n
        · rcases hscan with ⟨rfl, hkj, hlo, hre, hM, hB⟩ | ⟨rfl, _⟩
          · obtain ⟨b, o, rfl, hb, hc⟩ := HH.out.cell hj
            have hcw : ∀ q, q < n → wi.cell? ⟨b, o + q, none⟩ = some (.string (cel ss q)) := fun q hq => (hB.cell (p := ⟨b, o + q, none⟩) hb).trans (hc q hq)
            have ck := hcw k (by omega)
            have cj := hcw j hj
            have hkn : k < n := by omega
            have Hre := Lib.hid (hre hkn)
            clear hcw hc hre hlo
            have e0 : (0 : Int) ≤ (k : Int) := by omega
            have e1 : (k : Int) < (n : Int) := by omega
            have e2 : (0 : Int) ≤ (j : Int) := by omega
            have e3 : (j : Int) < (n : Int) := by omega
            have hMd := fun a => (show MapIs (.int .i64) (wi.drewN a) g (pmap pre) from hM)
            have HMd := Lib.hid hMd
            clear hMd
            by_cases he : (cel ss k).data.toList = (cel ss j).data.toList
            · have hb1 := beq_true_of he
              have He := Lib.hid he.symm
              clear he
              go_wp2_with fail
              go_quiet (fail)
              have Hr1 := Lib.hid (Hre.out.trans (rend_step ss k (j - 1) (by have := Hl.out; omega) (by rw [show j - 1 + 1 = j by omega]; exact He.out)))
              by_cases hlast : j + 1 = n
              · have Hr := Lib.hid (Hr1.out.trans ((congrArg (rend ss k) (show j - 1 + 1 = j by omega)).trans (rend_stop ss k j (by have := Hl.out; omega))))
                have t1 : ((j : Int) == (n : Int) - 1) = true := by simp; omega
                have Hlast := Lib.hid hlast
                clear hlast
                go_wp2_with ((with_reducible refine gate_up Try.prog (t := 133) rfl ?_); (refine wpList_update_is (HMd.out _) (g := pmap (pre ++ [((k : Int), (j : Int))])) (kv := .int .i64 k) (vv := .int .i64 ((j : Int))) Try.underlying133 Try.underlying3 ?_ ?_ ?_ ?_ ?_ ?_ ?_); rfl; rfl; rfl; exact (show MapKept.IsKey (.int .i64) (.int .i64 k) from rfl); exact pmap_hit pre _ _ Hp.out; exact (fun q hq => pmap_miss pre _ _ q hq); intro w5 hM5 hg5 hz5)
                go_roundw
                case rel => exact ⟨j + 1, by go_num, by omega, .inr ⟨Hlast.out, hkn, by rw [Hr.out]; omega, by rw [Hr.out], by rw [Hr.out]; exact hM5, scan_round (k := k) (j := j) (n := n) (ss := ss) (pre := pre) (below_drewN hB _) hg5 z1⟩⟩
                case measure => simp [intOf]; omega
              · have t1 : ((j : Int) == (n : Int) - 1) = false := by simp; omega
                go_wp2
                go_roundw
                case rel => exact ⟨j + 1, by go_num, by omega, .inl ⟨rfl, by omega, fun _ => by omega, fun _ => Hr1.out.trans (congrArg (rend ss k) (show j - 1 + 1 = j + 1 - 1 by omega)), HMd.out _, below_drewN hB _⟩⟩
                case measure => simp [intOf]; omega
            · have hb1 := beq_false_of he
              have He := Lib.hid (fun e => he (Eq.symm e) : ¬ (cel ss j).data.toList = (cel ss k).data.toList)
              clear he
              go_wp2_with fail
              go_quiet (fail)
              have Hr := Lib.hid (Hre.out.trans (rend_stop ss k (j - 1) (fun e => He.out (by have := e.2; rwa [show j - 1 + 1 = j by omega] at this))))
              have Hj1 := Lib.hid (show ((j - 1 : Nat) : Int) = (j : Int) - 1 by omega)
              by_cases hkl : k = j - 1
              · have t1 : ((k : Int) != (j : Int) - 1) = false := by simp; omega
                have Hkl := Lib.hid hkl
                clear hkl
                go_wp2
                go_roundw
                case rel => exact outer_miss Hpre.out Hp.out (by omega) (fun _ => by rw [Hr.out, ← Hkl.out]) (HMd.out _) (below_drewN hB _)
                case measure => simp [intOf]; omega
              · have t1 : ((k : Int) != (j : Int) - 1) = true := by simp; omega
                go_wp2_with ((with_reducible refine gate_up Try.prog (t := 133) rfl ?_); (refine wpList_update_is (HMd.out _) (g := pmap (pre ++ [((k : Int), (j : Int) - 1)])) (kv := .int .i64 k) (vv := .int .i64 ((j : Int) - 1)) Try.underlying133 Try.underlying3 ?_ ?_ ?_ ?_ ?_ ?_ ?_); rfl; rfl; rfl; exact (show MapKept.IsKey (.int .i64) (.int .i64 k) from rfl); exact pmap_hit pre _ _ Hp.out; exact (fun q hq => pmap_miss pre _ _ q hq); intro w5 hM5 hg5 hz5)
                go_roundw
                case rel => 
                  have := outer_hit Hpre.out Hp.out (by have := Hl.out; omega) (by have := Hl.out; omega) Hr.out (by omega) hlt (by rw [Hj1.out]; exact hM5) (scan_round (k := k) (j := j) (n := n) (ss := ss) (pre := pre) (below_drewN hB _) hg5 z1)
                  rw [Hj1.out] at this
                  simpa using this
                case measure => simp [intOf]; omega
          · exact absurd hj (by omega)
        · rcases hscan with ⟨rfl, hkj, hlo, hre, hM, hB⟩ | ⟨rfl, hkn, hkr, rfl, hM, hB⟩
          · have hkn : ¬ k + 1 < n := fun e => hj (hlo e)
            have HE := Lib.hid (show k < ss.length → rend ss k k = k from fun _ => rend_stop ss k k (fun e => hkn (by have := Hl.out; have := e.1; omega)))
            clear hre hlo
            go_wp2
            go_roundw
            case rel => exact outer_miss Hpre.out Hp.out (by omega) HE.out hM hB
            case measure => simp [intOf]; omega
          · have hrl := rend_lt ss k k (by have := Hl.out; omega)
            have hrl2 := Hl.out
            generalize hre : rend ss k k = e at *
            have Hre := Lib.hid hre
            clear hre
            have hrl3 : e ≤ 100 := by omega
            clear hrl2
            go_wp2
            go_roundw
            case rel => exact outer_hit Hpre.out Hp.out (by have := Hl.out; omega) (by have := Hl.out; omega) Hre.out hkr hlt hM hB
            case measure => simp [intOf]; omega
    · go_wp2
      go_ret
      refine ⟨g, rfl, ?_, hB, z1⟩
      have : runs ss m k = [] := runs_none ss m k (by omega)
      rw [Hpre.out, this, List.append_nil]
      exact hM
end Go.Proofs.Ytlppbalnjogkoaa
