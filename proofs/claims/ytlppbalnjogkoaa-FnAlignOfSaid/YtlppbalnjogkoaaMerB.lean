/- The runs that the reference tells of a row: the walk of spec.MergedOf. Rows of at most 100 texts, 0 to 200 columns. -/
import Derived.Test.YtlppbalnjogkoaaMerA
import Derived.Test.YtlppbalnjogkoaaMerP
import Derived.WalkKit
import Derived.Handy
import Derived.Deep.QuietTactic
import Derived.BigQuiet
import Derived.Laws.OwnMore
import Derived.WalkLawsBesides
namespace Go.Proofs.Ytlppbalnjogkoaa
open Go.RowKit
set_option linter.unusedVariables false
def pc (l : List (Int × Int)) : List Value := l.flatMap fun p => [.int .i64 p.1, .int .i64 p.2]
theorem pc_snoc (l : List (Int × Int)) (p q : Int) : pc (l ++ [(p, q)]) = pc l ++ [.int .i64 p, .int .i64 q] := by simp [pc]
theorem pc_at (l : List (Int × Int)) : ∀ i p, l[i]? = some p → (pc l)[i * 2]? = some (.int .i64 p.1) ∧ (pc l)[i * 2 + 1]? = some (.int .i64 p.2) := by
  induction l with
  | nil => intro i p h; simp at h
  | cons x l ih =>
    intro i p h
    have e : pc (x :: l) = .int .i64 x.1 :: .int .i64 x.2 :: pc l := by simp [pc]
    cases i with
    | zero => simp at h; subst h; rw [e]; exact ⟨rfl, rfl⟩
    | succ i =>
      have h' : l[i]? = some p := by simpa using h
      have := ih i p h'
      rw [e, show (i + 1) * 2 = i * 2 + 1 + 1 by omega]
      simpa using this
theorem pairs_of {w : World} {B : Nat} {a : Option Addr} {cap : Nat} {l : List (Int × Int)} (h : w.ownsRow B 41 2 (.slice a l.length cap) l.length (pc l)) : PairsAt w a l := by
  intro i p hp
  obtain ⟨h1, h2⟩ := pc_at l i p hp
  have hi : i < l.length := (List.getElem?_eq_some_iff.1 hp).1
  rcases h.2 with ⟨he, _⟩ | ⟨g, cap', cur, he, _, _, _⟩
  · injection he with e1 e2 e3
    rw [e2] at hi; omega
  · injection he with e1 e2 e3
    subst e1
    have hc := h.cells (g := g) rfl
    refine ⟨g, 0, rfl, ?_, ?_⟩
    · have := hc _ _ h1
      simp only [Addr.add] at this
      split at this
      · rename_i h0; rw [h0]; exact this
      · simpa using this
    · have := hc _ _ h2
      simpa [Addr.add] using this
theorem info41 : (Try.prog.info? 41).map (fun i => (i.zero, i.size, i.bytes)) = some (some (.agg #[.int .i64 0, .int .i64 0]), 2, 16) := by kernel_rfl
theorem append_pair {ops : Array Oper} {rest : List Oper} {a : Act} {Q : Exit → Act → World → Prop} {dst : Option Tmp} {s x : Operand} {ty : TypeId} {ps : String} {af : Array Edge} {w0 w : World} {B g : Nat} {v : Value} {l : List (Int × Int)} {p q : Int}
    (h : w.ownsRow B 41 2 v l.length (pc l)) (HB : Below B w0 w) (hs : a.eval s = v) (hx : a.eval x = .slice (some ⟨g, 0, none⟩) 1 1) (hblk : w.heap[g]? = some (.cells #[.int .i64 p, .int .i64 q] 41 (0, 0))) (hlen : l.length ≤ 1000000) (hB : B ≤ w.heap.size)
    (hK : ∀ v' w', w'.ownsRow B 41 2 v' (l ++ [(p, q)]).length (pc (l ++ [(p, q)])) → Below B w0 w' → wpList Try.prog ops Q rest (a.put dst v') w') :
    wpList Try.prog ops Q (⟨dst, .call { callee := .builtin .append, args := #[s, x], argTypes := #[39, 39] }, ty, ps, af, none⟩ :: rest) a w := by
  obtain ⟨i0, hi, hz0, hz1, hz2⟩ := info_parts info41
  refine wpList_append_own _ rfl s x 39 rfl B 41 i0 (.agg #[.int .i64 0, .int .i64 0]) 2 16 Try.underlying39 hi hz0 hz1 hz2 rfl (by decide) v l.length (pc l) hs h ⟨g, 0, none⟩ 1 1 [.int .i64 p, .int .i64 q] hx rfl ?_ (by simp [Value.oneCell']) (by unfold maxLen; omega) (by omega) hB ?_
  · intro j u hj
    have : w.cell? ⟨g, j, none⟩ = some u := by
      rw [cell_of_row w g j _ 41 (0, 0) hblk]
      rw [← Array.getElem?_toList]
      exact hj
    cases j with
    | zero => exact this
    | succ j => simpa [Addr.add] using this
  · intro v' w' hown hg _
    refine hK v' w' (by rw [pc_snoc]; simpa using hown) (HB.grown hg hB (fun k hk => (h.lt k hk).1))
theorem beq_false_of {a b : ByteArray} (h : ¬ a.data.toList = b.data.toList) : (a.toList == b.toList) = false := by
  rw [Lib.toList_data, Lib.toList_data]; simpa using h
theorem beq_true_of {a b : ByteArray} (h : a.data.toList = b.data.toList) : (a.toList == b.toList) = true := by
  rw [Lib.toList_data, Lib.toList_data]; simpa using h
theorem Strs.cell {w : World} {A : Option Addr} {n cap : Nat} {ss : List ByteArray} (h : Strs w A n cap ss) {k : Nat} (hk : k < n) : ∃ b o, A = some ⟨b, o, none⟩ ∧ b < w.heap.size ∧ ∀ j, j < n → w.cell? ⟨b, o + j, none⟩ = some (.string (cel ss j)) := by
  obtain ⟨b, o, rfl, hb, _⟩ := h.at_ hk
  refine ⟨b, o, rfl, hb, fun j hj => ?_⟩
  obtain ⟨b', o', e, _, hc, _⟩ := h.at_ hj
  injection e with e
  injection e with e1 e2
  subst e1; subst e2
  exact hc
def RunsRet (ss : List ByteArray) (m : Int) (w : World) (e : Ending) (w' : World) : Prop :=
  ∃ v, e = .returned v ∧ w'.ownsRow w.heap.size 41 2 v (runs ss m 0).length (pc (runs ss m 0)) ∧ Below w.heap.size w w'
theorem below_drewN {B : Nat} {a w : World} (h : Below B a w) (n : Nat) : Below B a (w.drewN n) := ⟨h.os, h.tape, h.output, h.size, h.block⟩
theorem own_da {w : World} {B : Nat} {v : Value} {n : Nat} {xs : List Value} (h : w.ownsRow B 41 2 v n xs) (k : Nat) (o : Obj) : ((w.drewN k).alloc o).ownsRow B 41 2 v n xs := World.ownsRow.alloc (w := w.drewN k) h o
theorem new_da (w : World) (k : Nat) (o : Obj) : ((w.drewN k).alloc o).heap[w.heap.size]? = some o := heap_alloc_new (w.drewN k) o
theorem le_da {w : World} {B : Nat} (h : B ≤ w.heap.size) (k : Nat) (o : Obj) : B ≤ ((w.drewN k).alloc o).heap.size := by rw [World.size_alloc]; exact Nat.le_succ_of_le h
set_option maxHeartbeats 2000000 in
set_option maxRecDepth 100000 in
theorem specMerged_any (A : Option Addr) (n cap : Nat) (ss : List ByteArray) (m : Int) (w : World) (h : Strs w A n cap ss) (hn : n ≤ 100) (hm : 0 ≤ m ∧ m ≤ 200) :
    Calls Try.prog 27 #[.slice A n cap, .int .i64 m] w (RunsRet ss m w) := by
  obtain ⟨m0, m1⟩ := hm
  have hl := h.2.1
  go_enter Try.func27, Try.ntmps27
  go_wp2_with fail
  go_loopw [5, 6] (fun v i wr => ∃ (k : Nat) (pre : List (Int × Int)), k ≤ n ∧ i = .int .i64 k ∧ runs ss m 0 = pre ++ runs ss m k ∧ pre.length ≤ k ∧ wr.ownsRow w.heap.size 41 2 v pre.length (pc pre) ∧ Below w.heap.size w wr) (fun _ i _ => n - (intOf i).toNat)
  case atStart => exact ⟨0, [], Nat.zero_le _, rfl, rfl, Nat.le_refl _, World.ownsRow_nil _ _ _ _, Below.refl _ _⟩
  case round =>
    obtain ⟨i, pre, hi, rfl, hpre, hpl, hown, hB⟩ := hrel
    by_cases hlt : i < n
    · obtain ⟨b, o, rfl, hb, hc⟩ := h.cell hlt
      obtain ⟨wo, rfl⟩ : ∃ wo : World, wo = wr := ⟨_, rfl⟩
      have hcw : ∀ j, j < n → wo.cell? ⟨b, o + j, none⟩ = some (.string (cel ss j)) := fun j hj => (hB.cell (p := ⟨b, o + j, none⟩) hb).trans (hc j hj)
      have Hcw := Lib.hid hcw
      have Hpre := Lib.hid hpre
      have Hl := Lib.hid hl
      clear hcw hc h hpre hl
      go_wp2_with fail
      go_loopw [7] (fun q wq => ∃ k : Nat, i ≤ k ∧ k < n ∧ q = .int .i64 k ∧ Hid (rend ss i i = rend ss i k) ∧ ∃ a, wq = wo.drewN a) (fun q _ => n - (intOf q).toNat)
      case atStart => exact ⟨i, Nat.le_refl _, hlt, rfl, Lib.hid rfl, 0, rfl⟩
      case round =>
        obtain ⟨k, hik, hk, rfl, hr, a, rfl⟩ := hrel
        have ci := Hcw.out i hlt
        by_cases hk1 : k + 1 < n
        · have ck := Hcw.out (k + 1) hk1
          have cke : wo.cell? ⟨b, o + (k + 1), none⟩ = some (.string (cel ss (k + 1))) := ck
          have e0 : (0 : Int) ≤ (i : Int) := by omega
          have e1 : (i : Int) < (n : Int) := by omega
          have e2 : (0 : Int) ≤ (k : Int) + 1 := by omega
          have e3 : (k : Int) + 1 < (n : Int) := by omega
          have e4 : ((k : Int) + 1).toNat = k + 1 := by omega
          have e5 : IntKind.i64.wrap ((k : Int) + 1) = (k : Int) + 1 := IntWalk.i64_in _ (by omega)
          by_cases he : (cel ss (k + 1)).data.toList = (cel ss i).data.toList
          · have hb1 := beq_true_of he
            have hk' := Lib.hid (hr.out.trans (rend_step ss i k (by have := Hl.out; omega) he))
            clear he hr
            go_wp2_with fail
            go_quiet (fail)
            go_wp2
            go_roundw
            case rel => exact ⟨k + 1, by omega, by omega, by go_num, hk', _, rfl⟩
            case measure => simp [intOf]; omega
          · have hb1 := beq_false_of he
            have hk' := Lib.hid (hr.out.trans (rend_stop ss i k (fun e => he e.2)))
            clear he hr
            go_wp2_with fail
            go_quiet (fail)
            have hi0 : (0 : Int) ≤ (i : Int) := by omega
            by_cases hc : i < k ∧ (i : Int) ≤ m - 2
            · obtain ⟨c1, c2⟩ := hc
              have c3 : (i : Int) < (k : Int) := by omega
              go_wp2_with (at_builtin; (refine append_pair (B := w.heap.size) (w0 := w) (g := wo.heap.size) (l := pre) (p := i) (q := k) (own_da hown _ _) ((below_drewN hB _).alloc hB.size _) rfl rfl (new_da wo _ _) (by omega) (le_da hB.size _ _) ?_); intro v' w' hown' hB')
              go_roundw
              case rel => exact ⟨k + 1, pre ++ [((i : Int), (k : Int))], by omega, by go_num, by rw [Hpre.out, runs_hit ss m i (by have := Hl.out; omega) (by rw [hk'.out]; exact c1) c2, hk'.out, List.append_assoc]; rfl, by simp; omega, hown', hB'⟩
              case measure => simp [intOf]; omega
            · by_cases c1 : (i : Int) < (k : Int)
              · have c2 : ¬ (i : Int) ≤ m - 2 := fun e => hc ⟨by omega, e⟩
                go_wp2
                go_roundw
                case rel => exact ⟨k + 1, pre, by omega, by go_num, by rw [Hpre.out, runs_miss ss m i (by rw [hk'.out]; exact hc) (by have := Hl.out; omega), hk'.out], by omega, hown, below_drewN hB _⟩
                case measure => simp [intOf]; omega
              · go_wp2
                go_roundw
                case rel => exact ⟨k + 1, pre, by omega, by go_num, by rw [Hpre.out, runs_miss ss m i (by rw [hk'.out]; exact hc) (by have := Hl.out; omega), hk'.out], by omega, hown, below_drewN hB _⟩
                case measure => simp [intOf]; omega
        · have hk' := Lib.hid (hr.out.trans (rend_stop ss i k (fun e => hk1 (by have := Hl.out; omega))))
          clear hr
          have hd : decide ((k : Int) + 1 < (n : Int)) = false := by simp; omega
          have e5 : IntKind.i64.wrap ((k : Int) + 1) = (k : Int) + 1 := IntWalk.i64_in _ (by omega)
          go_wp2_with fail
          go_quiet (fail)
          have hi0 : (0 : Int) ≤ (i : Int) := by omega
          by_cases hc : i < k ∧ (i : Int) ≤ m - 2
          · obtain ⟨c1, c2⟩ := hc
            have c3 : (i : Int) < (k : Int) := by omega
            go_wp2_with (at_builtin; (refine append_pair (B := w.heap.size) (w0 := w) (g := wo.heap.size) (l := pre) (p := i) (q := k) (own_da hown _ _) ((below_drewN hB _).alloc hB.size _) rfl rfl (new_da wo _ _) (by omega) (le_da hB.size _ _) ?_); intro v' w' hown' hB')
            go_roundw
            case rel => exact ⟨k + 1, pre ++ [((i : Int), (k : Int))], by omega, by go_num, by rw [Hpre.out, runs_hit ss m i (by have := Hl.out; omega) (by rw [hk'.out]; exact c1) c2, hk'.out, List.append_assoc]; rfl, by simp; omega, hown', hB'⟩
            case measure => simp [intOf]; omega
          · by_cases c1 : (i : Int) < (k : Int)
            · have c2 : ¬ (i : Int) ≤ m - 2 := fun e => hc ⟨by omega, e⟩
              go_wp2
              go_roundw
              case rel => exact ⟨k + 1, pre, by omega, by go_num, by rw [Hpre.out, runs_miss ss m i (by rw [hk'.out]; exact hc) (by have := Hl.out; omega), hk'.out], by omega, hown, below_drewN hB _⟩
              case measure => simp [intOf]; omega
            · go_wp2
              go_roundw
              case rel => exact ⟨k + 1, pre, by omega, by go_num, by rw [Hpre.out, runs_miss ss m i (by rw [hk'.out]; exact hc) (by have := Hl.out; omega), hk'.out], by omega, hown, below_drewN hB _⟩
              case measure => simp [intOf]; omega
    · go_wp2
      go_ret
      have : runs ss m i = [] := runs_end ss m i (by omega)
      rw [this, List.append_nil] at hpre
      exact ⟨_, rfl, by rw [hpre]; exact hown, hB⟩
end Go.Proofs.Ytlppbalnjogkoaa
