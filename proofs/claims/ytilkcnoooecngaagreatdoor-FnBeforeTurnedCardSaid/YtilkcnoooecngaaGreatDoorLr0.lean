/- Words for a cache: blocks of cells, stores into them, maps of pointers, doubly linked entries. No conditions. -/
import Derived.Test.YtilkcnoooecngaaGreatDoorBase
import Derived.MapKept
import Derived.WalkKit
import Derived.Handy
import Derived.LaidEqlPtr
namespace Go.Proofs.YtilkcnoooecngaaGreatDoor
open Go.RowKit Go.MapKept
set_option linter.unusedVariables false
/-- Block b holds the cells cs. -/
def Blk (w : World) (b : Nat) (t : TypeId) (cs : Array Value) : Prop := w.heap[b]? = some (.cells cs t (0, 0))
section
variable {w w' : World} {b : Nat} {t : TypeId} {cs : Array Value} {P : Program}
theorem Blk.cell (h : Blk w b t cs) (i : Nat) {v : Value} (hv : cs[i]? = some v) : w.cell? ⟨b, i, none⟩ = some v := by
  unfold Blk at h
  rw [cell_of_row w b i cs t (0, 0) h]; exact hv
theorem Blk.frozen (h : Blk w b t cs) (i : Nat) : w.frozen? ⟨b, i, none⟩ = false := by
  unfold Blk at h
  simp [World.frozen?, h]
theorem Blk.lt (h : Blk w b t cs) : b < w.heap.size := (Array.getElem?_eq_some_iff.1 h).1
theorem Blk.keep (h : Blk w b t cs) (hk : w'.heap[b]? = w.heap[b]?) : Blk w' b t cs := hk.trans h
theorem Blk.alloc (h : Blk w b t cs) (o : Obj) : Blk (w.alloc o) b t cs := h.keep (Below.heap_alloc w o b h.lt)
theorem Blk.new (w : World) (t : TypeId) (cs : Array Value) : Blk (w.alloc (.cells cs t)) w.heap.size t cs := heap_alloc_new w _
theorem Blk.grown {r : Option Nat} (h : Blk w b t cs) (hg : w.grownBy w' r) (hr : some b ≠ r) : Blk w' b t cs := h.keep (hg.block b h.lt hr)
theorem Blk.below {B : Nat} (h : Blk w b t cs) (hb : Below B w w') (hB : b < B) : Blk w' b t cs := h.keep (hb.block b hB)
theorem Blk.set (h : Blk w b t cs) (o : Nat) (v : Value) : Blk (w.setCell ⟨b, o, none⟩ v) b t (cs.setIfInBounds o v) := heap_setCell_same w b o cs t v h
/-- One cell of a block is written: the block, the others, the size. -/
structure Put (w w' : World) (b : Nat) : Prop where
  grown : w.grownBy w' (some b)
  size : w'.heap.size = w.heap.size
theorem Put.keep (h : Put w w' b) {c : Nat} (hc : c < w.heap.size) (hne : c ≠ b) : w'.heap[c]? = w.heap[c]? := h.grown.block c hc (fun e => hne (by injection e))
theorem Put.blk (h : Put w w' b) {c : Nat} {u : TypeId} {ds : Array Value} (hc : Blk w c u ds) (hne : c ≠ b) : Blk w' c u ds := hc.keep (h.keep hc.lt hne)
theorem Put.below (h : Put w w' b) {B : Nat} {w0 : World} (hb : Below B w0 w) (hB : B ≤ w.heap.size) (hbB : B ≤ b) : Below B w0 w' := hb.grown h.grown hB (fun k hk => by injection hk with hk; omega)
theorem put_set (w : World) (b o : Nat) (v : Value) : Put w (w.setCell ⟨b, o, none⟩ v) b :=
  ⟨⟨rfl, rfl, rfl, by simp, fun k hk hne => heap_setCell_other w ⟨b, o, none⟩ k v (fun e => hne (by rw [e]))⟩, by simp⟩
theorem wpList_put {ops : Array Oper} {rest : List Oper} {a : Act} {Q : Exit → Act → World → Prop} {ty t2 : TypeId} {x y : Operand} {ps : String} {af : Array Edge} {o : Nat} {v : Value} (h : Blk w b t cs) (ho : o < cs.size)
    (hx : a.eval x = .pointer (some ⟨b, o, none⟩)) (hy : a.eval y = v) (hv : v.oneCell' = true) (hi : (P.info? ty).map (·.size) = some 1)
    (hK : ∀ w', Blk w' b t (cs.setIfInBounds o v) → Put w w' b → wpList P ops Q rest (a.put none undef) w') : wpList P ops Q (⟨none, .store ty x y, t2, ps, af, none⟩ :: rest) a w := by
  refine wpList_plain rfl fun K hK' => ?_
  have hc : w.cell? ⟨b, o, none⟩ = some cs[o] := h.cell o (Array.getElem?_eq_getElem ho)
  have hf := h.frozen o
  obtain ⟨i, hi1, hi2⟩ := Option.map_eq_some_iff.1 hi
  have hcs : v.cells = #[v] := by cases v <;> first | rfl | simp [Value.oneCell'] at hv
  unfold Oper.wp execOp
  simp only [hx, hy, Instr.storeAt, Instr.sureAddr, Sem.run_bind, Sem.run_pure, Result.andThen_ok, storeVar, sizeOf, typeInfo]
  simp [hi1, hi2, hcs, storeCells, run_store, hv, Addr.add, hc, hf, Result.andThen]
  exact hK' _ _ (hK _ (h.set o v) (put_set w b o v))
end
theorem gate_st {P : Program} {ops : Array Oper} {rest : List Oper} {o : Oper} {a : Act} {w : World} {Q : Exit → Act → World → Prop} {t : TypeId} {p v : Operand} (_ho : o.op = .store t p v) (h : wpList P ops Q (o :: rest) a w) : wpList P ops Q (o :: rest) a w := h
theorem gate_del {P : Program} {ops : Array Oper} {rest : List Oper} {o : Oper} {a : Act} {w : World} {Q : Exit → Act → World → Prop} {m k : Operand} {ts : Array TypeId} (_ho : o.op = .call { callee := .builtin .delete, args := #[m, k], argTypes := ts }) (h : wpList P ops Q (o :: rest) a w) : wpList P ops Q (o :: rest) a w := h
theorem gate_len {P : Program} {ops : Array Oper} {rest : List Oper} {o : Oper} {a : Act} {w : World} {Q : Exit → Act → World → Prop} {m : Operand} {ts : Array TypeId} (_ho : o.op = .call { callee := .builtin .len, args := #[m], argTypes := ts }) (h : wpList P ops Q (o :: rest) a w) : wpList P ops Q (o :: rest) a w := h
theorem gate_lk {P : Program} {ops : Array Oper} {rest : List Oper} {o : Oper} {a : Act} {w : World} {Q : Exit → Act → World → Prop} {t : TypeId} {p k : Operand} {ok : Bool} (_ho : o.op = .lookup t p k ok) (h : wpList P ops Q (o :: rest) a w) : wpList P ops Q (o :: rest) a w := h
theorem gate_up {P : Program} {ops : Array Oper} {rest : List Oper} {o : Oper} {a : Act} {w : World} {Q : Exit → Act → World → Prop} {t : TypeId} {p k v : Operand} (_ho : o.op = .mapUpdate t p k v) (h : wpList P ops Q (o :: rest) a w) : wpList P ops Q (o :: rest) a w := h
theorem halt_L {p : Prop} (h : Hid p) : p := h
theorem resume_L {p : Prop} (h : p) : Hid p := h

/-- Block b is a map with the keys and values of l, in some order, each key once. -/
def PMap (w : World) (b : Nat) (l : List (Int × Value)) : Prop :=
  ∃ es clock, w.heap[b]? = some (.map es clock) ∧ Stamped es clock ∧ (es.toList.map fun e => (e.key, e.val)).Perm (l.map fun p => (Value.int .i64 p.1, p.2))
section
variable {w w' : World} {b : Nat} {l : List (Int × Value)} {P : Program}
theorem PMap.made (w : World) : PMap (w.alloc (.map #[] 0)) w.heap.size [] := ⟨#[], 0, heap_alloc_new w _, stamped_empty 0, List.Perm.refl _⟩
theorem PMap.lt (h : PMap w b l) : b < w.heap.size := by
  obtain ⟨es, clock, hb, _⟩ := h
  exact (Array.getElem?_eq_some_iff.1 hb).1
theorem PMap.keep (h : PMap w b l) (hk : w'.heap[b]? = w.heap[b]?) : PMap w' b l := by
  obtain ⟨es, clock, hb, h⟩ := h
  exact ⟨es, clock, hk.trans hb, h⟩
theorem PMap.alloc (h : PMap w b l) (o : Obj) : PMap (w.alloc o) b l := h.keep (Below.heap_alloc w o b h.lt)
theorem PMap.perm {l' : List (Int × Value)} (h : PMap w b l) (hp : l.Perm l') : PMap w b l' := by
  obtain ⟨es, clock, hb, hs, hq⟩ := h
  exact ⟨es, clock, hb, hs, hq.trans (hp.map _)⟩
theorem Put.pmap {c : Nat} (h : Put w w' c) (hm : PMap w b l) (hne : b ≠ c) : PMap w' b l := hm.keep (h.keep hm.lt hne)
theorem PMap.ne_blk (h : PMap w b l) {c : Nat} {t : TypeId} {cs : Array Value} (hc : Blk w c t cs) : c ≠ b := by
  rintro rfl
  obtain ⟨es, clock, hb, _⟩ := h
  unfold Blk at hc
  rw [hb] at hc; cases hc
theorem PMap.isKeys (h : PMap w b l) : ∃ es clock, w.heap[b]? = some (.map es clock) ∧ Stamped es clock ∧ (es.toList.map fun e => (e.key, e.val)).Perm (l.map fun p => (Value.int .i64 p.1, p.2)) ∧ ∀ x ∈ es.toList, ∃ p ∈ l, x.key = .int .i64 p.1 ∧ x.val = p.2 := by
  obtain ⟨es, clock, hb, hs, hq⟩ := h
  refine ⟨es, clock, hb, hs, hq, fun x hx => ?_⟩
  have : (x.key, x.val) ∈ l.map fun p => (Value.int .i64 p.1, p.2) := hq.mem_iff.1 (List.mem_map.2 ⟨x, hx, rfl⟩)
  obtain ⟨p, hp, e⟩ := List.mem_map.1 this
  simp only [Prod.mk.injEq] at e
  exact ⟨p, hp, e.1.symm, e.2.symm⟩
theorem PMap.run_len (h : PMap w b l) {t kt et : TypeId} (ht : P.underlying t = some (.map kt et)) (ty : TypeId) : (Builtin.len_ #[t] ty #[.map (some b)]).run P w = .ok (.int .i64 l.length) w := by
  obtain ⟨es, clock, hb, hs, hq⟩ := h
  have e : es.size = l.length := by have := hq.length_eq; simpa using this
  simp [Builtin.len_, run_underlying ht, MapKept.run_getObj_map hb, goInt, Result.andThen, e]
/-- What is found under a key. -/
theorem PMap.find (h : PMap w b l) (k : Int) : ∃ es clock, w.heap[b]? = some (.map es clock) ∧ Stamped es clock ∧ (es.toList.map fun e => (e.key, e.val)).Perm (l.map fun p => (Value.int .i64 p.1, p.2)) ∧
    ((∃ v, (k, v) ∈ l ∧ ∃ j, Instr.findNow (.int .i64) (.int .i64 k) es.toList 0 = some (some (j, v)) ∧ ∃ e, es.toList[j]? = some e ∧ e.key = .int .i64 k ∧ e.val = v) ∨ ((∀ p ∈ l, p.1 ≠ k) ∧ Instr.findNow (.int .i64) (.int .i64 k) es.toList 0 = some none ∧ ∀ x ∈ es.toList, x.key ≠ .int .i64 k)) := by
  obtain ⟨es, clock, hb, hs, hq, hk⟩ := h.isKeys
  have hK : IsKey (.int .i64) (.int .i64 k) := rfl
  have hks : ∀ x ∈ es.toList, IsKey (.int .i64) x.key := fun x hx => by
    obtain ⟨p, _, e, _⟩ := hk x hx
    rw [e]; rfl
  refine ⟨es, clock, hb, hs, hq, ?_⟩
  rcases findNow_spec hK es.toList 0 hks with ⟨h1, h2⟩ | ⟨j, e, h1, h2, h3⟩
  · right
    refine ⟨fun p hp e => ?_, h1, h2⟩
    have : (Value.int .i64 p.1, p.2) ∈ es.toList.map fun e => (e.key, e.val) := hq.mem_iff.2 (List.mem_map.2 ⟨p, hp, rfl⟩)
    obtain ⟨x, hx, e2⟩ := List.mem_map.1 this
    simp only [Prod.mk.injEq] at e2
    exact h2 x hx (by rw [e2.1, e])
  · left
    obtain ⟨p, hp, e1, e2⟩ := hk e (List.mem_of_getElem? h2)
    rw [h3] at e1
    injection e1 with _ e1
    refine ⟨e.val, by rw [e1, e2]; exact hp, 0 + j, h1, e, by simpa using h2, h3, rfl⟩
theorem uniq {l : List (Int × Value)} (hd : (l.map (·.1)).Nodup) {k : Int} {v v' : Value} (h1 : (k, v) ∈ l) (h2 : (k, v') ∈ l) : v = v' := by
  induction l with
  | nil => simp at h1
  | cons p l ih =>
    rw [List.map_cons, List.nodup_cons] at hd
    rcases List.mem_cons.1 h1 with e1 | m1
    · rcases List.mem_cons.1 h2 with e2 | m2
      · rw [← e1] at e2; injection e2 with _ e2; exact e2.symm
      · exact absurd (List.mem_map.2 ⟨_, m2, by rw [← e1]⟩) hd.1
    · rcases List.mem_cons.1 h2 with e2 | m2
      · exact absurd (List.mem_map.2 ⟨_, m1, by rw [← e2]⟩) hd.1
      · exact ih hd.2 m1 m2
theorem PMap.run_lookup_hit (h : PMap w b l) (hd : (l.map (·.1)).Nodup) {t kt et : TypeId} {k : Int} {v z : Value} (hv : (k, v) ∈ l) (ht : P.underlying t = some (.map kt et)) (hkt : P.underlying kt = some (.int .i64)) (hz : (zeroValue et).run P w = .ok z w) :
    (Instr.lookup t (.map (some b)) (.int .i64 k) true).run P w = .ok (.tuple #[v, .bool true]) w := by
  obtain ⟨es, clock, hb, hs, hq, hc⟩ := h.find k
  have hK : IsKey (.int .i64) (.int .i64 k) := rfl
  have hc0 := MapKept.run_checkKey (P := P) (w := w) hkt hK es.isEmpty 9999
  rcases hc with ⟨v', hv', j, hf, _⟩ | ⟨hn, _⟩
  · have hrun := MapKept.run_findKey (P := P) (w := w) hkt hf
    have e : v' = v := uniq hd hv' hv
    subst e
    simp only [Instr.lookup, Sem.run_bind, run_underlying ht, Result.andThen_ok, MapKept.run_getObj_map hb, Sem.run_pure, hc0, hrun]
    rfl
  · exact absurd rfl (hn _ hv)
theorem PMap.run_lookup_miss (h : PMap w b l) {t kt et : TypeId} {k : Int} {z : Value} (hv : ∀ p ∈ l, p.1 ≠ k) (ht : P.underlying t = some (.map kt et)) (hkt : P.underlying kt = some (.int .i64)) (hz : (zeroValue et).run P w = .ok z w) :
    (Instr.lookup t (.map (some b)) (.int .i64 k) true).run P w = .ok (.tuple #[z, .bool false]) w := by
  obtain ⟨es, clock, hb, hs, hq, hc⟩ := h.find k
  have hK : IsKey (.int .i64) (.int .i64 k) := rfl
  have hc0 := MapKept.run_checkKey (P := P) (w := w) hkt hK es.isEmpty 9999
  rcases hc with ⟨v', hv', j, hf, _⟩ | ⟨hn, hf, _⟩
  · exact absurd rfl (hv _ hv')
  · have hrun := MapKept.run_findKey (P := P) (w := w) hkt hf
    simp only [Instr.lookup, Sem.run_bind, run_underlying ht, Result.andThen_ok, MapKept.run_getObj_map hb, Sem.run_pure, hc0, hrun, hz]
    rfl
theorem put_obj {o o' : Obj} (hb : w.heap[b]? = some o) : Put w { w with heap := w.heap.setIfInBounds b o' } b :=
  ⟨⟨rfl, rfl, rfl, by simp, fun k hk hne => (MapKept.heap_set hb).2 k (fun e => hne (by rw [e]))⟩, by simp⟩
theorem PMap.run_new (h : PMap w b l) {t kt et : TypeId} {k : Int} {v : Value} (hv : ∀ p ∈ l, p.1 ≠ k) (ht : P.underlying t = some (.map kt et)) (hkt : P.underlying kt = some (.int .i64)) :
    ∃ w', (Instr.mapUpdate t (.map (some b)) (.int .i64 k) v).run P w = .ok () w' ∧ PMap w' b ((k, v) :: l) ∧ Put w w' b := by
  obtain ⟨es, clock, hb, hs, hq, hc⟩ := h.find k
  have hK : IsKey (.int .i64) (.int .i64 k) := rfl
  have hc0 := MapKept.run_checkKey (P := P) (w := w) hkt hK false 9999
  rcases hc with ⟨v', hv', j, hf, _⟩ | ⟨hn, hf, hne⟩
  · exact absurd rfl (hv _ hv')
  · have hrun := MapKept.run_findKey (P := P) (w := w) hkt hf
    refine ⟨{ w with heap := w.heap.setIfInBounds b (.map (es.push { key := .int .i64 k, val := v, born := clock }) (clock + 1)) }, ?_, ⟨_, _, (MapKept.heap_set hb).1, stamped_push hs hne, ?_⟩, put_obj hb⟩
    · simp only [Instr.mapUpdate, Sem.run_bind, run_underlying ht, Result.andThen_ok, MapKept.run_getObj_map hb, hc0, hrun, MapKept.run_setObj_map _ hb]
    · rw [Array.toList_push, List.map_append, List.map_cons]
      exact List.perm_append_comm.trans (List.Perm.cons _ hq)
theorem PMap.run_del {l1 l2 : List (Int × Value)} {k : Int} {v : Value} (h : PMap w b (l1 ++ (k, v) :: l2)) (hd : ((l1 ++ (k, v) :: l2).map (·.1)).Nodup) {t kt et : TypeId} (ht : P.underlying t = some (.map kt et)) (hkt : P.underlying kt = some (.int .i64)) (ty : TypeId) :
    ∃ w', (Builtin.delete_ #[t, kt] ty #[.map (some b), .int .i64 k]).run P w = .ok (.tuple #[]) w' ∧ PMap w' b (l1 ++ l2) ∧ Put w w' b := by
  obtain ⟨es, clock, hb, hs, hq, hc⟩ := h.find k
  have hK : IsKey (.int .i64) (.int .i64 k) := rfl
  have hc0 := MapKept.run_checkKey (P := P) (w := w) hkt hK es.isEmpty 9999
  rcases hc with ⟨v', hv', j, hf, e, he, hek, hev⟩ | ⟨hn, _⟩
  · have hrun := MapKept.run_findKey (P := P) (w := w) hkt hf
    have ev : v' = v := uniq hd hv' (by simp)
    subst ev
    have hjl : j < es.size := by have := (List.getElem?_eq_some_iff.1 he).1; simpa using this
    have hes : es.toList = es.toList.take j ++ e :: es.toList.drop (j + 1) := by
      have h1 := List.take_append_drop j es.toList
      rw [List.drop_eq_getElem_cons (by simpa using hjl), (List.getElem?_eq_some_iff.1 he).2] at h1
      exact h1.symm
    have her : (es.eraseIdxIfInBounds j).toList = es.toList.take j ++ es.toList.drop (j + 1) := by
      unfold Array.eraseIdxIfInBounds
      rw [dif_pos hjl, Array.toList_eraseIdx, List.eraseIdx_eq_take_drop_succ]
    refine ⟨{ w with heap := w.heap.setIfInBounds b (.map (es.eraseIdxIfInBounds j) clock) }, ?_, ⟨_, _, (MapKept.heap_set hb).1, stamped_erase hs _, ?_⟩, put_obj hb⟩
    · simp [Builtin.delete_, run_underlying ht, MapKept.run_getObj_map hb, hc0, hrun, MapKept.run_setObj_map _ hb, Result.andThen]
    · rw [her, List.map_append]
      rw [hes, List.map_append, List.map_cons, List.map_append, List.map_cons, hek, hev] at hq
      have p1 := (List.perm_middle.symm.trans hq).trans List.perm_middle
      have := p1.cons_inv
      rwa [List.map_append]
  · exact absurd rfl (hn (k, v) (by simp))
end
end Go.Proofs.YtilkcnoooecngaaGreatDoor
