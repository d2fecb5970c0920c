/- Pieces of text that came in, and how much they hold: for the second form of the statement. No conditions. -/
import Derived.Test.YtimdmdjkkgdohaaGreatDoorRows
import Derived.Test.YtimdmdjkkgdohaaGreatDoorSjArg
import Derived.Test.YtimdmdjkkgdohaaGreatDoorPpS
namespace Go.Proofs.YtimdmdjkkgdohaaGreatDoor
open Go.RowKit Go.ChangeShapes Go.WideShapes Go.Deep
set_option linter.unusedVariables false
theorem bulk_one {H : Type} (d : DataW H) : 1 ≤ Rows.uptoBulk d := by
  cases d with
  | lit l => cases l <;> simp [Rows.uptoBulk]
  | nil => simp [Rows.uptoBulk]
  | ptr d => simp [Rows.uptoBulk]
  | slice elems spare => simp [Rows.uptoBulk]
  | agg parts => simp [Rows.uptoBulk]
  | iface t d => simp [Rows.uptoBulk]
  | map entries => simp [Rows.uptoBulk]
  | held h => simp [Rows.uptoBulk]
theorem bulk_part {H : Type} {d : DataW H} {l : List (DataW H)} (h : d ∈ l) : Rows.uptoBulk d ≤ Rows.uptoBulkAll l := by
  induction l with
  | nil => cases h
  | cons x r ih =>
    simp only [Rows.uptoBulkAll]
    cases List.mem_cons.1 h with
    | inl e => subst e; omega
    | inr e => have := ih e; omega
theorem bulk_len {H : Type} (l : List (DataW H)) : l.length ≤ Rows.uptoBulkAll l := by
  induction l with
  | nil => simp [Rows.uptoBulkAll]
  | cons x r ih => have := bulk_one x; simp only [Rows.uptoBulkAll, List.length_cons]; omega
theorem bulk_slice {H : Type} (elems spare : List (DataW H)) : elems.length + spare.length + 1 ≤ Rows.uptoBulk (.slice elems spare) := by
  have h1 := bulk_len elems
  have h2 := bulk_len spare
  simp only [Rows.uptoBulk]
  omega
theorem bulk_elems {H : Type} (elems spare : List (DataW H)) : Rows.uptoBulkAll elems ≤ Rows.uptoBulk (.slice elems spare) := by
  simp only [Rows.uptoBulk]
  omega
section
variable {H : Type} {enc : TypeId × Value → H} {P : Program} {w : World} {base : Nat} {spare : Nat → Bool} {held : Bool}
theorem args_recsB {t e : TypeId} {fs : Array Field} {a : Option Addr} {len cap : Nat} {d : DataW H} {ps : List MemPlace}
    (hu : P.underlying t = some (.slice e)) (he : P.underlying e = some (.struct fs)) (hone : oneCellFields P fs = true) (hC : P.cellsOf e = fs.size) (h0 : 0 < fs.size)
    (h : DataW.Trod enc P w base spare held t (.slice a len cap) d ps) :
    ∃ rows : List (List Value), Recs w w.heap.size fs.size a len rows ∧ len ≤ cap ∧ cap ≤ maxLen ∧ len ≤ Rows.uptoBulk d ∧
      ∀ r ∈ rows, ∃ n, ∀ (i : Nat) (f : Field) (c : Value), fs[i]? = some f → r[i]? = some c → ∃ y, DataW.trod enc P w base spare held n f.type [c] = some y ∧ Rows.uptoBulk y.1 ≤ Rows.uptoBulk d := by
  obtain ⟨fuel, hf⟩ := h
  rcases open_slice hu hf with ⟨hcs, hd⟩ | ⟨ad, l, c, m, n, D, Pl, hcs, hb, hl, hm, hmm, hd, hx⟩
  · simp [Value.cells] at hcs
    obtain ⟨rfl, rfl, rfl⟩ := hcs
    exact ⟨[], ⟨rfl, by simp, fun h => absurd h (by omega)⟩, by omega, by simp [maxLen], Nat.zero_le _, by simp⟩
  · simp [Value.cells] at hcs
    obtain ⟨rfl, rfl, rfl⟩ := hcs
    have hlm : len ≤ m := by rw [hmm]; split <;> omega
    rw [hC] at hx
    have key : ∀ i, i < len → ∃ cs', w.cells? base (ad.add (i * fs.size)) fs.size = some cs' ∧ DataW.trod enc P w base spare held n e cs' = some (D i, Pl i) := fun i hi => hx i (by omega)
    let rows := (List.range len).map fun i => (w.cells? base (ad.add (i * fs.size)) fs.size).getD []
    have hrow : ∀ (i : Nat) (r : List Value), rows[i]? = some r → i < len ∧ w.cells? base (ad.add (i * fs.size)) fs.size = some r ∧ DataW.trod enc P w base spare held n e r = some (D i, Pl i) := by
      intro i r hr
      simp only [rows, List.getElem?_map, Option.map_eq_some_iff] at hr
      obtain ⟨j, hj, rfl⟩ := hr
      obtain ⟨hj1, hj2⟩ := List.getElem?_eq_some_iff.1 hj
      simp at hj1 hj2
      subst hj2
      obtain ⟨cs', h1, h2⟩ := key i hj1
      rw [h1]
      exact ⟨hj1, rfl, h2⟩
    have hmem : ∀ r ∈ rows, ∃ i, rows[i]? = some r := fun r hr => List.getElem?_of_mem hr
    have hrl : rows.length = len := by simp [rows]
    injection hd with hd _
    have hdl : len ≤ Rows.uptoBulk d := by
      rw [hd]
      have := bulk_slice ((List.range len).map D) ((List.range (m - len)).map fun j => D (len + j))
      simp only [List.length_map, List.length_range] at this
      omega
    have hdi : ∀ i, i < len → Rows.uptoBulk (D i) ≤ Rows.uptoBulk d := by
      intro i hi
      rw [hd]
      exact Nat.le_trans (bulk_part (List.mem_map.2 ⟨i, List.mem_range.2 hi, rfl⟩)) (bulk_elems _ _)
    refine ⟨rows, ⟨hrl, fun r hr => ?_, fun hn => ?_⟩, hl, hm, hdl, fun r hr => ?_⟩
    · obtain ⟨i, hi⟩ := hmem r hr
      exact (World.cells?_some (hrow i r hi).2.1).2.1
    · obtain ⟨b, o, sp⟩ := ad
      have cell : ∀ (i : Nat) (r : List Value), rows[i]? = some r → ∀ (j : Nat) (u : Value), r[j]? = some u → w.cell? ((⟨b, o, sp⟩ : Addr).add (i * fs.size + j)) = some u := by
        intro i r hr j u hu
        obtain ⟨h1, h2, h3⟩ := World.cells?_some (hrow i r hr).2.1
        have hj : j < fs.size := by rw [← h2]; exact (List.getElem?_eq_some_iff.1 hu).1
        have := h3 j hj
        rw [Addr.add_add] at this
        rw [this, hu]
      have r0 : ∃ r, rows[0]? = some r := ⟨rows[0]'(by omega), List.getElem?_eq_getElem (by omega)⟩
      obtain ⟨r, hr⟩ := r0
      have hr2 : r.length = fs.size := (World.cells?_some (hrow 0 r hr).2.1).2.1
      have c0 := cell 0 r hr 0 r[0] (List.getElem?_eq_getElem (by omega))
      have c0' : w.cell? ⟨b, o, sp⟩ = some r[0] := by simpa [Addr.add] using c0
      have hs : sp = none := World.cell?_spot c0'
      subst hs
      have hlt : b < w.heap.size := World.block_lt_of_cell? _ _ c0'
      refine ⟨b, o, rfl, hlt, fun i r hr j u hu => ?_⟩
      have := cell i r hr j u hu
      rwa [Addr.add_lit] at this
    · obtain ⟨i, hi⟩ := hmem r hr
      obtain ⟨xs, k, _, hag, hlen, hxl, hg⟩ := DataW.trod_struct he (hrow i r hi).2.2
      injection hag with hag _
      refine ⟨k, fun j f c hf hc => ?_⟩
      obtain ⟨o, ko⟩ := hone_of hone j f hf
      have := hg j f hf
      rw [o, ko] at this
      have hj : j < r.length := (List.getElem?_eq_some_iff.1 hc).1
      have e1 : (List.drop j r).take 1 = [c] := by
        rw [List.drop_eq_getElem_cons hj]
        have := (List.getElem?_eq_some_iff.1 hc).2
        simp [this]
      rw [e1] at this
      have hjf : j < xs.length := by rw [hxl]; exact (Array.getElem?_eq_some_iff.1 hf).1
      rw [List.getElem?_eq_getElem hjf] at this
      refine ⟨_, this, Nat.le_trans ?_ (hdi i (hrow i r hi).1)⟩
      have e : ∀ l : List (DataW H), Rows.uptoBulkAll l ≤ Rows.uptoBulk (DataW.agg l) := fun l => by simp only [Rows.uptoBulk]; omega
      rw [hag]
      refine Nat.le_trans ?_ (e _)
      exact bulk_part (List.mem_map.2 ⟨_, List.getElem_mem hjf, rfl⟩)
end
section
variable {H : Type} {enc : TypeId × Value → H} {W : World} {base : Nat} {spare : Nat → Bool} {held : Bool}
theorem args_TxPieceB {a : Option Addr} {len cap : Nat} {d : DataW H} {ps : List MemPlace} (h : DataW.Trod enc Tryz.prog W base spare held 22 (.slice a len cap) d ps) : ∃ l, PcArg W W.heap.size a len cap l ∧ len ≤ Rows.uptoBulk d ∧ ∀ x ∈ l, x.n ≤ Rows.uptoBulk d ∧ x.s.size ≤ Rows.uptoBulk d := by
  obtain ⟨rows, hr, h1, h2, hle, hf⟩ := args_recsB Tryz.underlying22 Tryz.underlying37 (by kernel_rfl) (by kernel_rfl) (by decide) h
  obtain ⟨l, rfl, hl⟩ := rows_map (f := pcRow) (p := fun x => PcOk W W.heap.size x ∧ x.n ≤ Rows.uptoBulk d ∧ x.s.size ≤ Rows.uptoBulk d) rows (fun r hm => by
    obtain ⟨n, hn⟩ := hf r hm
    have hl := hr.2.1 r hm
    match r, hl with
    | [c0, c1], _ =>
      obtain ⟨y0, g0, u0⟩ := hn 0 _ c0 rfl rfl
      obtain ⟨y1, g1, u1⟩ := hn 1 _ c1 rfl rfl
      obtain ⟨s, e1, ey, hs⟩ := DataW.trod_string Tryz.underlying9 g1
      have us : s.size ≤ Rows.uptoBulk d := by
        refine Nat.le_trans ?_ u1
        rw [ey, Lib.size_eq]
        simp only [Rows.uptoBulk]
        omega
      simp at e1
      subst e1
      rcases ChangeShapes.open_ints Tryz.underlying32 Tryz.underlying3 (by kernel_rfl) g0 with ⟨hcs, _⟩ | ⟨x, n1, c, zs, hcs, _, hl1, hm1, hz, ez, hcell, hwf⟩
      · simp at hcs
        subst hcs
        exact ⟨⟨none, 0, 0, [], s⟩, rfl, ⟨Row.nil _ _, Nat.le_refl _, by simp [maxLen], hs, fun z hz => by cases hz⟩, Nat.zero_le _, us⟩
      · simp at hcs
        subst hcs
        have hl2 : n1 ≤ zs.length := by rw [hz]; split <;> omega
        have un : n1 ≤ Rows.uptoBulk d := by
          refine Nat.le_trans ?_ u0
          rw [ez]
          refine Nat.le_trans ?_ (bulk_slice _ _)
          have : (ChangeShapes.lits (H := H) .i64 (zs.take n1)).length = n1 := by simp [ChangeShapes.lits]; omega
          omega
        refine ⟨⟨some x, n1, c, zs.take n1, s⟩, rfl, ⟨row_of (by simp; omega) (fun i u hi => ?_), hl1, hm1, hs, fun z hz => hwf z (List.mem_of_mem_take hz)⟩, un, us⟩
        rw [List.getElem?_map, List.getElem?_take] at hi
        split at hi
        · rename_i hil
          rw [hcell i (by omega)]
          rw [List.getD_eq_getElem?_getD]
          rw [Option.map_eq_some_iff] at hi
          obtain ⟨z, h1, h2⟩ := hi
          rw [h1, ← h2]; rfl
        · simp at hi)
  exact ⟨l, ⟨hr, by simpa using hr.1, h1, h2, fun x hx => (hl x hx).1⟩, hle, fun x hx => (hl x hx).2⟩
theorem small_of {W : World} {B : Nat} {A : Option Addr} {n cap : Nat} {l : List Pc} {m : Nat} (h : PcArg W B A n cap l) (hn : n ≤ m) (hx : ∀ x ∈ l, x.n ≤ m ∧ x.s.size ≤ m) (hm : m ≤ 2097152) : Small l n := by
  refine ⟨by omega, fun j hj => ?_⟩
  have hl := h.2.1
  have e : pc l j = l[j]'(by omega) := by unfold pc; rw [List.getD_eq_getElem?_getD, List.getElem?_eq_getElem (by omega)]; rfl
  rw [e]
  have := hx _ (List.getElem_mem (show j < l.length by omega))
  omega
end
end Go.Proofs.YtimdmdjkkgdohaaGreatDoor
