/- The codes that are on, in their order: Codes. Good texts alone. -/
import Derived.Test.YtimdmdjkkgdohaaGreatDoorPpG
import Derived.Laws.IdiomRangeMap
import Derived.Maps.RangeRun
import Derived.Maps.Range
import Derived.Sort.OwnSortedInts
namespace Go.Proofs.YtimdmdjkkgdohaaGreatDoor
open Go.RowKit Go.MapKept
open Go.ChangeMaps (setBlock)
set_option linter.unusedVariables false
/-- Block r goes over the map mb, whose keys are l; those of done have come. -/
structure CI (w : World) (mb r : Nat) (l done : List Int) : Prop where
  ex : ∃ es clock since seen c0, w.heap[mb]? = some (.map es clock) ∧ Stamped es clock ∧ (es.toList.map fun e => (e.key, e.val)).Perm ((mks l).map fun p => (Value.int .i64 p.1, p.2)) ∧
    w.heap[r]? = some (.mapIter (some mb) since seen c0) ∧ (∀ x ∈ es.toList, x.born < since) ∧ since ≤ c0 ∧ since ≤ clock ∧ (∀ x ∈ es.toList, ∀ c, x.key = .int .i64 c → (seen.contains x.born = true ↔ c ∈ done))
  nd : done.Nodup
  sub : ∀ c ∈ done, c ∈ l
theorem ents_of {es : Array MapEntry} {l : List Int} (h : (es.toList.map fun e => (e.key, e.val)).Perm ((mks l).map fun p => (Value.int .i64 p.1, p.2))) :
    (∀ x ∈ es.toList, ∃ c ∈ l, x.key = .int .i64 c ∧ x.val = .bool true) ∧ ∀ c ∈ l, ∃ x ∈ es.toList, x.key = .int .i64 c := by
  constructor
  · intro x hx
    have h1 : (x.key, x.val) ∈ (mks l).map fun p => (Value.int .i64 p.1, p.2) := h.mem_iff.1 (List.mem_map.2 ⟨x, hx, rfl⟩)
    obtain ⟨p, hp, e⟩ := List.mem_map.1 h1
    obtain ⟨c, hc, rfl⟩ := List.mem_map.1 hp
    simp only [Prod.mk.injEq] at e
    exact ⟨c, hc, e.1.symm, e.2.symm⟩
  · intro c hc
    have h1 : (Value.int .i64 c, Value.bool true) ∈ es.toList.map fun e => (e.key, e.val) := h.mem_iff.2 (List.mem_map.2 ⟨(c, .bool true), List.mem_map.2 ⟨c, hc, rfl⟩, rfl⟩)
    obtain ⟨x, hx, e⟩ := List.mem_map.1 h1
    simp only [Prod.mk.injEq] at e
    exact ⟨x, hx, e.1⟩
theorem CI.start {w : World} {mb : Nat} {l : List Int} (h : PMap w mb (mks l)) : ∃ o, (Instr.range 42 (.map (some mb))).run Tryz.prog w = .ok (.pointer (some ⟨w.heap.size, 0, none⟩)) (w.alloc o) ∧ CI (w.alloc o) mb w.heap.size l [] := by
  have hlt := h.lt
  obtain ⟨es, clock, hb, hs, hq⟩ := h
  refine ⟨_, run_range_map w _ _ _ mb es clock Tryz.underlying42 hb, ⟨es, clock, clock, #[], clock, (heap_alloc_old w _ hlt).trans hb, hs, hq, heap_alloc_new w _, ((stamped_iff es clock).1 hs).1, Nat.le_refl _, Nat.le_refl _, fun x _ c _ => by simp⟩, List.nodup_nil, fun c hc => by cases hc⟩
theorem CI.next {w : World} {mb r : Nat} {l done : List Int} (h : CI w mb r l done) (ty : TypeId) :
    ((∀ c ∈ l, c ∈ done) ∧ (Instr.next (.pointer (some ⟨r, 0, none⟩)) false ty).run Tryz.prog w = .ok (.tuple #[.bool false]) w) ∨
    ∃ c w', c ∈ l ∧ (Instr.next (.pointer (some ⟨r, 0, none⟩)) false ty).run Tryz.prog w = .ok (.tuple #[.bool true, .int .i64 c, .bool true]) w' ∧ CI w' mb r l (done ++ [c]) ∧ w.grownBy w' (some r) ∧ w'.heap.size = w.heap.size ∧
      (Instr.entry (.pointer (some ⟨r, 0, none⟩))).run Tryz.prog w' = .ok (.tuple #[.int .i64 c, .bool true]) w' ∧ w'.rangeLeft mb r < w.rangeLeft mb r := by
  obtain ⟨⟨es, clock, since, seen, c0, hb, hs, hq, hr, hold, hsc, hsk, hk⟩, hnd, hsub⟩ := h
  obtain ⟨h1, h2⟩ := ents_of hq
  obtain ⟨s1, s2, s3⟩ := (stamped_iff es clock).1 hs
  have hne : mb ≠ r := by rintro rfl; rw [hb] at hr; cases hr
  rcases run_next_at (P := Tryz.prog) w ty r mb since c0 seen es clock hr hb hold hsc with ⟨h0, hrun⟩ | ⟨e, he, w1, hal, hrun⟩
  · refine .inl ⟨fun c hc => ?_, hrun⟩
    obtain ⟨x, hx, hxk⟩ := h2 c hc
    exact (hk x hx c hxk).1 (all_seen es seen h0 x hx)
  · obtain ⟨hem, hes⟩ := mem_left he
    obtain ⟨c, hc, hek, hev⟩ := h1 e hem
    have hcd : c ∉ done := fun hm => by
      have := (hk e hem c hek).2 hm
      rw [hes] at this; cases this
    have hr1 : w1.heap[r]? = some (.mapIter (some mb) since seen c0) := by rcases hal with rfl | rfl <;> exact hr
    have hb1 : w1.heap[mb]? = some (.map es clock) := by rcases hal with rfl | rfl <;> exact hb
    have hset := MapKept.heap_set (o' := .mapIter (some mb) since (seen.push e.born) clock) hr1
    have hb' : (setBlock w1 r (.mapIter (some mb) since (seen.push e.born) clock)).heap[mb]? = some (.map es clock) := (hset.2 mb hne).trans hb1
    refine .inr ⟨c, setBlock w1 r (.mapIter (some mb) since (seen.push e.born) clock), hc, ?_, ⟨⟨es, clock, since, seen.push e.born, clock, hb', hs, hq, hset.1, hold, hsk, hsk, fun x hx d hd => ?_⟩, ?_, ?_⟩, ?_, ?_, ?_, ?_⟩
    · rw [hrun, hek, hev]
    · rw [contains_push, Bool.or_eq_true, hk x hx d hd, List.mem_append, List.mem_singleton]
      refine or_congr Iff.rfl ⟨fun hbn => ?_, fun hdc => ?_⟩
      · have := born_inj s2 hx hem (beq_iff_eq.1 hbn)
        subst this
        rw [hek] at hd
        injection hd with _ hd
        exact hd.symm
      · subst hdc
        have := entry_eq_of_key s3 hx hem (hd.trans hek.symm)
        subst this
        exact beq_self_eq_true _
    · refine List.nodup_append.2 ⟨hnd, by simp, fun a ha b hb => ?_⟩
      simp at hb; subst hb
      exact fun e => hcd (e ▸ ha)
    · intro d hd
      rcases List.mem_append.1 hd with hd | hd
      · exact hsub d hd
      · simp at hd; subst hd; exact hc
    · rcases hal with rfl | rfl <;> exact ⟨rfl, rfl, rfl, by simp [setBlock], fun i _ hi => hset.2 i (fun e1 => hi (by rw [e1]))⟩
    · rcases hal with rfl | rfl <;> simp [setBlock]
    · rw [← hek, ← hev]
      exact run_entry_at _ r mb since seen es clock e hset.1 hb' hem s2
    · have hr' : (setBlock w1 r (.mapIter (some mb) since (seen.push e.born) clock)).heap[r]? = some (.mapIter (some mb) since (seen.push e.born) clock) := hset.1
      unfold World.rangeLeft
      rw [hb', hr', hb, hr]
      exact left_shrinks es seen e he
theorem CI.keep {w w' : World} {mb r : Nat} {l done : List Int} (h : CI w mb r l done) (h1 : w'.heap[mb]? = w.heap[mb]?) (h2 : w'.heap[r]? = w.heap[r]?) : CI w' mb r l done ∧ w'.rangeLeft mb r = w.rangeLeft mb r := by
  obtain ⟨⟨es, clock, since, seen, c0, hb, hs, hq, hr, rest⟩, hnd, hsub⟩ := h
  refine ⟨⟨⟨es, clock, since, seen, c0, h1.trans hb, hs, hq, h2.trans hr, rest⟩, hnd, hsub⟩, ?_⟩
  unfold World.rangeLeft
  rw [h1, h2]
theorem CI.lts {w : World} {mb r : Nat} {l done : List Int} (h : CI w mb r l done) : mb < w.heap.size ∧ r < w.heap.size ∧ (∀ {t : TypeId} {cs : Array Value} {c : Nat}, Blk w c t cs → c ≠ mb ∧ c ≠ r) := by
  obtain ⟨⟨es, clock, since, seen, c0, hb, hs, hq, hr, _⟩, _, _⟩ := h
  refine ⟨(Array.getElem?_eq_some_iff.1 hb).1, (Array.getElem?_eq_some_iff.1 hr).1, fun {t cs c} hc => ⟨?_, ?_⟩⟩
  · rintro rfl; unfold Blk at hc; rw [hb] at hc; cases hc
  · rintro rfl; unfold Blk at hc; rw [hr] at hc; cases hc
theorem CI.perm {w : World} {mb r : Nat} {l done : List Int} (h : CI w mb r l done) (hl : l.Nodup) (ha : ∀ c ∈ l, c ∈ done) : done.Perm l :=
  (List.perm_ext_iff_of_nodup h.nd hl).2 fun c => ⟨h.sub c, ha c⟩
theorem gate_rg {P : Program} {ops : Array Oper} {rest : List Oper} {o : Oper} {a : Act} {w : World} {Q : Exit → Act → World → Prop} {t : TypeId} {p : Operand} (_ho : o.op = .range t p) (h : wpList P ops Q (o :: rest) a w) : wpList P ops Q (o :: rest) a w := h
theorem gate_nx {P : Program} {ops : Array Oper} {rest : List Oper} {o : Oper} {a : Act} {w : World} {Q : Exit → Act → World → Prop} {p : Operand} {b : Bool} (_ho : o.op = .next p b) (h : wpList P ops Q (o :: rest) a w) : wpList P ops Q (o :: rest) a w := h
set_option maxRecDepth 100000 in
theorem wpList_rg {w : World} {mb : Nat} {ops : Array Oper} {rest : List Oper} {a : Act} {Q : Exit → Act → World → Prop} {mo : Operand} {d : Option Tmp} {ty : TypeId} {ps : String} {af : Array Edge} {l : List Int} (h : PMap w mb (mks l)) (hm : a.eval mo = .map (some mb))
    (hK : ∀ w', CI w' mb w.heap.size l [] → Below w.heap.size w w' → w'.heap.size = w.heap.size + 1 → wpList Tryz.prog ops Q rest (a.put d (.pointer (some ⟨w.heap.size, 0, none⟩))) w') : wpList Tryz.prog ops Q (⟨d, .range 42 mo, ty, ps, af, none⟩ :: rest) a w := by
  refine wpList_plain rfl fun K' hK' => ?_
  obtain ⟨o, hrun, hci⟩ := CI.start h
  unfold Oper.wp execOp
  simp only [hm, Sem.run_bind, hrun, Result.andThen_ok, Sem.run_pure]
  exact hK' _ _ (hK _ hci ((Below.refl _ w).alloc (Nat.le_refl _) o) (by simp))
set_option maxRecDepth 100000 in
theorem wpList_nx {w : World} {mb r : Nat} {ops : Array Oper} {rest : List Oper} {a : Act} {Q : Exit → Act → World → Prop} {it : Operand} {d : Option Tmp} {ty : TypeId} {ps : String} {af : Array Edge} {l done : List Int} (h : CI w mb r l done) (hm : a.eval it = .pointer (some ⟨r, 0, none⟩))
    (hD : (∀ c ∈ l, c ∈ done) → wpList Tryz.prog ops Q rest (a.put d (.tuple #[.bool false])) w)
    (hK : ∀ c w', c ∈ l → CI w' mb r l (done ++ [c]) → w.grownBy w' (some r) → w'.heap.size = w.heap.size → (Instr.entry (.pointer (some ⟨r, 0, none⟩))).run Tryz.prog w' = .ok (.tuple #[.int .i64 c, .bool true]) w' → w'.rangeLeft mb r < w.rangeLeft mb r →
      wpList Tryz.prog ops Q rest (a.put d (.tuple #[.bool true, .int .i64 c, .bool true])) w') : wpList Tryz.prog ops Q (⟨d, .next it false, ty, ps, af, none⟩ :: rest) a w := by
  refine wpList_plain rfl fun K' hK' => ?_
  unfold Oper.wp execOp
  rcases h.next ty with ⟨ha, hrun⟩ | ⟨c, w', hc, hrun, hci, hg, hsz, hen, hlt⟩
  · simp only [hm, Sem.run_bind, hrun, Result.andThen_ok, Sem.run_pure]
    exact hK' _ _ (hD ha)
  · simp only [hm, Sem.run_bind, hrun, Result.andThen_ok, Sem.run_pure]
    exact hK' _ _ (hK c w' hc hci hg hsz hen hlt)
abbrev tI : TypeId := 3
theorem infoI1 : (Tryz.prog.info? tI).map (fun i => (i.zero, i.size, i.bytes)) = some (some (.int .i64 0), 1, 8) := by kernel_rfl
/-- The codes in their order. -/
def srt (l : List Int) : List Int := l.mergeSort fun x y => decide (x ≤ y)
theorem srt_perm {a b : List Int} (h : a.Perm b) : srt a = srt b := by
  have hs : ∀ l : List Int, (srt l).Pairwise (· ≤ ·) := fun l => by
    have := List.pairwise_mergeSort (le := fun x y : Int => decide (x ≤ y)) (fun a b c h1 h2 => by simp at *; omega) (fun a b => by simp; omega) l
    exact this.imp (fun h => by simpa using h)
  exact sorted_uniq _ _ (hs a) (hs b) (((List.mergeSort_perm a _).trans h).trans (List.mergeSort_perm b _).symm)
def CodesRet (l : List Int) (w : World) (e : Ending) (w' : World) : Prop := ∃ v, e = .returned v ∧ w'.ownsRow w.heap.size tI 1 v (srt l).length ((srt l).map (Value.int .i64)) ∧ Below w.heap.size w w' ∧ ∃ A L cap, v = .slice A L cap
end Go.Proofs.YtimdmdjkkgdohaaGreatDoor
