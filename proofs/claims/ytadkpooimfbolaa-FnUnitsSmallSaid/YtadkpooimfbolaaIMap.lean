/- Maps with bool, whole-number or string keys, read as a function from keys to values: looking up, storing, making. No conditions. -/
import Derived.WalkKit
import Derived.MapKept
import Derived.Maps.Own
namespace Go.Proofs.Ytadkpooimfbolaa
open Go.RowKit Go.MapKept
set_option linter.unusedVariables false

/-- Block b is a map whose keys are of kind d and whose entries are f. -/
def MapIs (d : TypeDesc) (w : World) (b : Nat) (f : Value → Option Value) : Prop :=
  ∃ es clock, w.heap[b]? = some (.map es clock) ∧ Stamped es clock ∧ (∀ x ∈ es.toList, IsKey d x.key) ∧ (∀ x ∈ es.toList, f x.key = some x.val) ∧ ∀ k v, f k = some v → ∃ x ∈ es.toList, x.key = k

section
variable {d : TypeDesc} {w w' : World} {b : Nat} {f g : Value → Option Value} {P : Program}

theorem MapIs.made (w : World) (d : TypeDesc) : MapIs d (w.alloc (.map #[] 0)) w.heap.size (fun _ => none) :=
  ⟨#[], 0, heap_alloc_new w _, stamped_empty 0, by simp, by simp, by simp⟩
theorem MapIs.lt (h : MapIs d w b f) : b < w.heap.size := by
  obtain ⟨es, clock, hb, _⟩ := h
  exact (Array.getElem?_eq_some_iff.1 hb).1
theorem MapIs.keep (h : MapIs d w b f) (hk : w'.heap[b]? = w.heap[b]?) : MapIs d w' b f := by
  obtain ⟨es, clock, hb, h⟩ := h
  exact ⟨es, clock, hk.trans hb, h⟩
theorem MapIs.drew (h : MapIs d w b f) : MapIs d w.drew b f := h
theorem MapIs.alloc (h : MapIs d w b f) (o : Obj) : MapIs d (w.alloc o) b f := h.keep (Below.heap_alloc w o b h.lt)
theorem MapIs.below {B : Nat} (h : MapIs d w b f) (hb : Below B w w') (hB : b < B) : MapIs d w' b f := h.keep (hb.block b hB)
theorem MapIs.grown {row : Option Nat} (h : MapIs d w b f) (hg : w.grownBy w' row) (hr : some b ≠ row) : MapIs d w' b f := h.keep (hg.block b h.lt hr)

/-- What is found. -/
theorem MapIs.find (h : MapIs d w b f) {k : Value} (hk : IsKey d k) :
    ∃ es clock, w.heap[b]? = some (.map es clock) ∧ ((f k = none ∧ Instr.findNow d k es.toList 0 = some none) ∨ ∃ j v, f k = some v ∧ Instr.findNow d k es.toList 0 = some (some (j, v))) := by
  obtain ⟨es, clock, hb, hst, hkeys, hf, hs⟩ := h
  refine ⟨es, clock, hb, ?_⟩
  rcases findNow_spec hk es.toList 0 hkeys with ⟨h1, h2⟩ | ⟨j, e, h1, h2, h3⟩
  · left
    refine ⟨?_, h1⟩
    cases hfk : f k with
    | none => rfl
    | some v =>
      obtain ⟨x, hx, e⟩ := hs k v hfk
      exact absurd e (h2 x hx)
  · right
    refine ⟨0 + j, e.val, ?_, h1⟩
    rw [← h3]
    exact hf e (List.mem_of_getElem? h2)

theorem MapIs.run_lookup (h : MapIs d w b f) {t kt et : TypeId} {k z : Value} (ht : P.underlying t = some (.map kt et)) (hd : P.underlying kt = some d) (hk : IsKey d k) (hz : (zeroValue et).run P w = .ok z w) (ok : Bool) :
    (Instr.lookup t (.map (some b)) k ok).run P w = .ok (if ok = true then .tuple #[(f k).getD z, .bool (f k).isSome] else (f k).getD z) w := by
  obtain ⟨es, clock, hb, hc⟩ := h.find hk
  have hc0 := MapKept.run_checkKey (P := P) (w := w) hd hk es.isEmpty 9999
  rcases hc with ⟨hn, hf⟩ | ⟨j, v, hv, hf⟩
  · have hrun := MapKept.run_findKey (w := w) hd hf
    simp only [Instr.lookup, Sem.run_bind, run_underlying ht, Result.andThen_ok, MapKept.run_getObj_map hb, Sem.run_pure, hc0, hrun, hz, hn]
    cases ok <;> rfl
  · have hrun := MapKept.run_findKey (w := w) hd hf
    simp only [Instr.lookup, Sem.run_bind, run_underlying ht, Result.andThen_ok, MapKept.run_getObj_map hb, Sem.run_pure, hc0, hrun, hv]
    cases ok <;> rfl
/-- A nil map has nothing. -/
theorem run_lookup_nil {t kt et : TypeId} {k z : Value} (ht : P.underlying t = some (.map kt et)) (hd : P.underlying kt = some d) (hk : IsKey d k) (hz : (zeroValue et).run P w = .ok z w) (ok : Bool) :
    (Instr.lookup t (.map none) k ok).run P w = .ok (if ok = true then .tuple #[z, .bool false] else z) w := by
  have hc0 := MapKept.run_checkKey (P := P) (w := w) hd hk (#[] : Array MapEntry).isEmpty 9999
  have hrun := MapKept.run_findKey (P := P) (w := w) (k := k) (l := []) (a := none) hd rfl
  simp only [Instr.lookup, Sem.run_bind, run_underlying ht, Result.andThen_ok, Sem.run_pure, hc0, hrun, hz]

theorem grown_set {o o' : Obj} (hb : w.heap[b]? = some o) : w.grownBy { w with heap := w.heap.setIfInBounds b o' } (some b) :=
  ⟨rfl, rfl, rfl, by simp, fun k hk hne => (MapKept.heap_set hb).2 k (fun e => hne (by rw [e]))⟩

theorem MapIs.run_update (h : MapIs d w b f) {t kt et : TypeId} {k v : Value} (ht : P.underlying t = some (.map kt et)) (hd : P.underlying kt = some d) (hk : IsKey d k) (h1 : g k = some v) (h2 : ∀ m, m ≠ k → g m = f m) :
    ∃ w', (Instr.mapUpdate t (.map (some b)) k v).run P w = .ok () w' ∧ MapIs d w' b g ∧ w.grownBy w' (some b) ∧ w'.heap.size = w.heap.size := by
  obtain ⟨es, clock, hb, hst, hkeys, hf, hs⟩ := h
  have hc0 := MapKept.run_checkKey (P := P) (w := w) hd hk false 9999
  rcases findNow_spec hk es.toList 0 hkeys with ⟨hn, hne⟩ | ⟨j, e, hfd, hj, he⟩
  · have hrun := MapKept.run_findKey (P := P) (w := w) hd hn
    refine ⟨{ w with heap := w.heap.setIfInBounds b (.map (es.push { key := k, val := v, born := clock }) (clock + 1)) }, ?_, ?_, grown_set hb, by simp⟩
    · simp only [Instr.mapUpdate, Sem.run_bind, run_underlying ht, Result.andThen_ok, MapKept.run_getObj_map hb, hc0, hrun, MapKept.run_setObj_map _ hb]
    · refine ⟨_, _, (MapKept.heap_set hb).1, stamped_push hst hne, ?_, ?_, ?_⟩
      · intro x hx
        rw [Array.toList_push] at hx
        rcases List.mem_append.1 hx with hx | hx
        · exact hkeys x hx
        · simp at hx; subst hx; exact hk
      · intro x hx
        rw [Array.toList_push] at hx
        rcases List.mem_append.1 hx with hx | hx
        · rw [h2 _ (hne x hx)]; exact hf x hx
        · simp at hx; subst hx; exact h1
      · intro k' v' hg
        rw [Array.toList_push]
        by_cases hkk : k' = k
        · exact ⟨_, List.mem_append_right _ (List.mem_singleton.2 rfl), hkk.symm⟩
        · rw [h2 _ hkk] at hg
          obtain ⟨x, hx, e⟩ := hs k' v' hg
          exact ⟨x, List.mem_append_left _ hx, e⟩
  · have hrun := MapKept.run_findKey (P := P) (w := w) hd hfd
    have hj' : es[j]? = some e := by rw [← Array.getElem?_toList]; exact hj
    have hkey : ((es[0 + j]?.map (·.key)).getD k) = k := by rw [Nat.zero_add, hj']; exact he
    refine ⟨{ w with heap := w.heap.setIfInBounds b (.map (es.modify (0 + j) fun e => { e with key := k, val := v }) clock) }, ?_, ?_, grown_set hb, by simp⟩
    · simp only [Instr.mapUpdate, Sem.run_bind, run_underlying ht, Result.andThen_ok, MapKept.run_getObj_map hb, hc0, hrun, hkey, MapKept.run_keyThatStays hk, MapKept.run_setObj_map _ hb]
    · rw [Nat.zero_add]
      have hjl : j < es.size := (Array.getElem?_eq_some_iff.1 hj').1
      have hat : ∀ i x, (es.modify j fun e => { e with key := k, val := v })[i]? = some x → (i = j ∧ x.key = k ∧ x.val = v) ∨ (i ≠ j ∧ es[i]? = some x) := by
        intro i x hx
        rw [Array.getElem?_modify] at hx
        split at hx
        · rename_i e1
          subst e1
          rw [hj'] at hx
          simp only [Option.map_some, Option.some.injEq] at hx
          subst hx
          exact .inl ⟨rfl, rfl, rfl⟩
        · rename_i e1
          exact .inr ⟨fun e2 => e1 e2.symm, hx⟩
      have hoff : ∀ i x, i ≠ j → es[i]? = some x → x.key ≠ k := by
        intro i x hi hx e1
        have h3 := ((stamped_iff es clock).1 hst).2.2
        rw [List.pairwise_iff_getElem] at h3
        have hil : i < es.size := (Array.getElem?_eq_some_iff.1 hx).1
        have ex : es[i] = x := (Array.getElem?_eq_some_iff.1 hx).2
        have ej : es[j] = e := (Array.getElem?_eq_some_iff.1 hj').2
        rcases Nat.lt_or_gt_of_ne hi with hlt | hlt
        · have := h3 i j (by simpa using hil) (by simpa using hjl) hlt
          simp only [Array.getElem_toList] at this
          rw [ex, ej, he] at this
          exact this e1
        · have := h3 j i (by simpa using hjl) (by simpa using hil) hlt
          simp only [Array.getElem_toList] at this
          rw [ex, ej, he] at this
          exact this e1.symm
      have hm : ∀ x ∈ (es.modify j fun e => { e with key := k, val := v }).toList, (x.key = k ∧ x.val = v) ∨ (x ∈ es.toList ∧ x.key ≠ k) := by
        intro x hx
        obtain ⟨i, hi⟩ := List.getElem?_of_mem hx
        rw [Array.getElem?_toList] at hi
        rcases hat i x hi with ⟨_, h3⟩ | ⟨h3, h4⟩
        · exact .inl h3
        · exact .inr ⟨by rw [← Array.getElem?_toList] at h4; exact List.mem_of_getElem? h4, hoff i x h3 h4⟩
      refine ⟨_, _, (MapKept.heap_set hb).1, stamped_modify hst j _ (fun _ _ => rfl) (fun e' _ h4 => ?_), ?_, ?_, ?_⟩
      · rw [hj'] at h4
        cases h4
        exact he.symm
      · intro x hx
        rcases hm x hx with ⟨h3, _⟩ | ⟨h3, _⟩
        · rw [h3]; exact hk
        · exact hkeys x h3
      · intro x hx
        rcases hm x hx with ⟨h3, h4⟩ | ⟨h3, h4⟩
        · rw [h3, h4]; exact h1
        · rw [h2 _ h4]; exact hf x h3
      · intro k' v' hg
        by_cases hkk : k' = k
        · refine ⟨{ e with key := k, val := v }, ?_, hkk.symm⟩
          have : (es.modify j fun e => { e with key := k, val := v })[j]? = some { e with key := k, val := v } := by rw [Array.getElem?_modify, if_pos rfl, hj']; rfl
          rw [← Array.getElem?_toList] at this
          exact List.mem_of_getElem? this
        · rw [h2 _ hkk] at hg
          obtain ⟨x, hx, e3⟩ := hs k' v' hg
          obtain ⟨i, hi⟩ := List.getElem?_of_mem hx
          have hij : i ≠ j := by
            rintro rfl
            rw [hj] at hi
            cases hi
            exact hkk (e3.symm.trans he)
          have : (es.modify j fun e => { e with key := k, val := v })[i]? = some x := by
            rw [Array.getElem?_modify, if_neg (fun e4 => hij e4.symm), ← Array.getElem?_toList]; exact hi
          rw [← Array.getElem?_toList] at this
          exact ⟨x, List.mem_of_getElem? this, e3⟩
theorem wpList_lookup_is {ops : Array Oper} {rest : List Oper} {a : Act} {Q : Exit → Act → World → Prop} {dst : Option Tmp} {t kt et ty : TypeId} {m k : Operand} {ok : Bool} {ps : String} {af : Array Edge} (h : MapIs d w b f) {kv z : Value} (ht : P.underlying t = some (.map kt et)) (hd : P.underlying kt = some d)
    (hm : a.eval m = .map (some b)) (hkk : a.eval k = kv) (hk : IsKey d kv) (hz : (zeroValue et).run P w = .ok z w) {r : Value} (hr : (if ok = true then .tuple #[(f kv).getD z, .bool (f kv).isSome] else (f kv).getD z) = r)
    (hK : wpList P ops Q rest (a.put dst r) w) : wpList P ops Q (⟨dst, .lookup t m k ok, ty, ps, af, none⟩ :: rest) a w := by
  refine wpList_plain rfl fun K hK' => ?_
  have hrun := h.run_lookup (P := P) ht hd hk hz ok
  unfold Oper.wp execOp
  simp only [hm, hkk, Sem.run_bind, hrun, Result.andThen_ok, Sem.run_pure, hr]
  exact hK' _ _ hK
theorem wpList_update_is {ops : Array Oper} {rest : List Oper} {a : Act} {Q : Exit → Act → World → Prop} {t kt et ty : TypeId} {m k v : Operand} {ps : String} {af : Array Edge} (h : MapIs d w b f) {kv vv : Value} (ht : P.underlying t = some (.map kt et)) (hd : P.underlying kt = some d)
    (hm : a.eval m = .map (some b)) (hkk : a.eval k = kv) (hvv : a.eval v = vv) (hk : IsKey d kv) (h1 : g kv = some vv) (h2 : ∀ q, q ≠ kv → g q = f q)
    (hK : ∀ w', MapIs d w' b g → w.grownBy w' (some b) → w'.heap.size = w.heap.size → wpList P ops Q rest a w') : wpList P ops Q (⟨none, .mapUpdate t m k v, ty, ps, af, none⟩ :: rest) a w := by
  refine wpList_plain rfl fun K hK' => ?_
  obtain ⟨w', hrun, hm', hg, hz⟩ := h.run_update (P := P) ht hd hk h1 h2
  unfold Oper.wp execOp
  simp only [hm, hkk, hvv, Sem.run_bind, hrun, Result.andThen_ok, Sem.run_pure]
  show K a w'
  exact hK' _ _ (hK w' hm' hg hz)
theorem wpList_insert_is {ops : Array Oper} {rest : List Oper} {a : Act} {Q : Exit → Act → World → Prop} {t kt et ty : TypeId} {m k v : Operand} {ps : String} {af : Array Edge} (h : MapIs d w b f) {kv vv : Value} (ht : P.underlying t = some (.map kt et)) (hd : P.underlying kt = some d)
    (hm : a.eval m = .map (some b)) (hkk : a.eval k = kv) (hvv : a.eval v = vv) (hk : IsKey d kv) (h1 : g kv = some vv) (h2 : ∀ q, q ≠ kv → g q = f q)
    (hK : ∀ w', MapIs d w' b g → w.grownBy w' (some b) → w'.heap.size = w.heap.size → wpList P ops Q rest a w') : wpList P ops Q (⟨none, .insert t m k v, ty, ps, af, none⟩ :: rest) a w := by
  refine wpList_plain rfl fun K hK' => ?_
  obtain ⟨w', hrun, hm', hg, hz⟩ := h.run_update (P := P) ht hd hk h1 h2
  unfold Oper.wp execOp
  simp only [hm, hkk, hvv, Sem.run_bind, hrun, Result.andThen_ok, Sem.run_pure]
  show K a w'
  exact hK' _ _ (hK w' hm' hg hz)
end
end Go.Proofs.Ytadkpooimfbolaa
