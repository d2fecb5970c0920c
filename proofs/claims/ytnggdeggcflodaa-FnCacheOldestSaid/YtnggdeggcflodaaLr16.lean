/- What the law on the oldest entries says of what came out: the oldest entries, one after the other. No conditions. -/
import Derived.Test.YtnggdeggcflodaaLr15
namespace Go.Proofs.Ytnggdeggcflodaa
open Go.RowKit Go.MapKept Go.ChangeShapes Go.WideShapes Go.Deep
set_option linter.unusedVariables false
abbrev o4 : Op3 := (4, 0, 0)
theorem runE_old (n : Nat) (l : List Op3) (i : Nat) : runE n (l ++ List.replicate i o4) = (runE n l).drop i := by
  induction i with
  | zero => simp
  | succ i ih =>
    rw [List.replicate_succ', ← List.append_assoc, runE_snoc, ih]
    simp [stepE]
theorem few_old {l : List Op3} (h : Few l) (i : Nat) : Few (l ++ List.replicate i o4) := by
  intro o ho
  rcases List.mem_append.1 ho with ho | ho
  · exact h o ho
  · rw [List.eq_of_mem_replicate ho]; decide
/-- The cells of a list of calls. -/
def ocs (l : List Op3) : List Value := l.flatMap opRow
theorem ocs_app (l l' : List Op3) : ocs (l ++ l') = ocs l ++ ocs l' := by simp [ocs]
theorem ocs_len (l : List Op3) : (ocs l).length = l.length * 3 := by
  induction l with
  | nil => rfl
  | cons x l ih =>
    have e : ocs (x :: l) = opRow x ++ ocs l := by simp [ocs]
    rw [e]; simp [ih, opRow]; omega
theorem ocs_at (l : List Op3) : ∀ (i : Nat) (o : Op3) (r : Nat) (u : Value), l[i]? = some o → (opRow o)[r]? = some u → (ocs l)[i * 3 + r]? = some u := by
  induction l with
  | nil => intro i o r u h; simp at h
  | cons x l ih =>
    intro i o r u h hr
    have hr3 : r < 3 := by have := (List.getElem?_eq_some_iff.1 hr).1; simpa [opRow] using this
    have e : ocs (x :: l) = opRow x ++ ocs l := by simp [ocs]
    have el : (opRow x).length = 3 := rfl
    rw [e]
    cases i with
    | zero =>
      simp at h
      subst h
      rw [List.getElem?_append_left (by omega)]
      simpa using hr
    | succ i =>
      have h' : l[i]? = some o := by simpa using h
      rw [List.getElem?_append_right (by omega), el, show (i + 1) * 3 + r - 3 = i * 3 + r by omega]
      exact ih i o r u h' hr
theorem ocs_one (l : List Op3) : ∀ u ∈ ocs l, u.oneCell' = true := by
  intro u hu
  simp only [ocs, List.mem_flatMap] at hu
  obtain ⟨p, _, hu⟩ := hu
  simp [opRow] at hu
  rcases hu with rfl | rfl | rfl <;> rfl
theorem ocs_inv (l : List Op3) {j : Nat} {u : Value} (h : (ocs l)[j]? = some u) : ∃ o, l[j / 3]? = some o ∧ (opRow o)[j % 3]? = some u := by
  have hj := (List.getElem?_eq_some_iff.1 h).1
  rw [ocs_len] at hj
  have hi : j / 3 < l.length := by omega
  refine ⟨l[j / 3], List.getElem?_eq_getElem hi, ?_⟩
  have h3 : j % 3 < (opRow l[j / 3]).length := by simp [opRow]; omega
  have := ocs_at l (j / 3) _ (j % 3) _ (List.getElem?_eq_getElem hi) (List.getElem?_eq_getElem h3)
  rw [show j / 3 * 3 + j % 3 = j by omega, h] at this
  rw [List.getElem?_eq_getElem h3]
  exact this.symm
/-- Calls that came in, as the cells of one row. -/
theorem OpArg.news {w : World} {B n cap : Nat} {A : Option Addr} {l : List Op3} (h : OpArg w B A n cap l) {b o : Nat} (hA : A = some ⟨b, o, none⟩) (j : Nat) (u : Value) (hu : (ocs l)[j]? = some u) : w.cell? ((⟨b, o, none⟩ : Addr).add j) = some u := by
  obtain ⟨op, h1, h2⟩ := ocs_inv l hu
  have hn := h.len
  have hi : j / 3 < n := by rw [← hn]; exact (List.getElem?_eq_some_iff.1 h1).1
  obtain ⟨b', o', e, _, hc⟩ := h.1.2.2 (by omega)
  rw [hA] at e
  injection e with e
  injection e with e1 e2
  subst e1; subst e2
  have := hc (j / 3) (opRow op) (by rw [List.getElem?_map, h1]; rfl) (j % 3) u h2
  rw [Addr.add_lit, show o + j = o + (j / 3 * 3 + j % 3) by omega]
  exact this
/-- A row of the call's own as calls that came in. -/
theorem oparg_of {w : World} {B n g cap : Nat} {l : List Op3} (h : w.ownsRow B tX 3 (.slice (some ⟨g, 0, none⟩) n cap) n (ocs l)) (hl : l.length = n) : OpArg w w.heap.size (some ⟨g, 0, none⟩) n cap l := by
  have hc : ∀ j u, (ocs l)[j]? = some u → w.cell? ((⟨g, 0, none⟩ : Addr).add j) = some u := h.cells rfl
  rcases h.2 with ⟨e, _⟩ | ⟨g', cap', cur, e, _, hgb, h3, h4, _⟩
  · cases e
  · injection e with e1 e2 e3
    injection e1 with e1
    injection e1 with e1
    subst e1; subst e3
    refine ⟨⟨by simpa using hl, fun r hr => ?_, fun _ => ⟨g, 0, rfl, (Array.getElem?_eq_some_iff.1 hgb).1, fun i r hr j u hu => ?_⟩⟩, h3, h4⟩
    · obtain ⟨o, _, rfl⟩ := List.mem_map.1 hr; rfl
    · rw [List.getElem?_map, Option.map_eq_some_iff] at hr
      obtain ⟨o, ho, rfl⟩ := hr
      have := hc (i * 3 + j) u (ocs_at l i o j u ho hu)
      rwa [Addr.add_lit] at this
theorem Spc.below {w w' : World} {B cb n B2 : Nat} {E : List (Int × Int)} (h : Spc w B cb n E) (hb : Below B2 w w') (hB : w.heap.size ≤ B2) : Spc w' B cb n E := by
  obtain ⟨v, h1, h2, r, h⟩ := h
  refine ⟨v, h1, h2, ⟨r.blk.below hb (by have := r.blk.lt; omega), ?_, r.Bc⟩, h⟩
  refine ⟨r.row.1, ?_⟩
  rcases r.row.2 with h0 | ⟨g, cap, cur, hv, hgb, hg, rest⟩
  · exact .inl h0
  · exact .inr ⟨g, cap, cur, hv, hgb, (hb.block g (by have := (Array.getElem?_eq_some_iff.1 hg).1; omega)).trans hg, rest⟩
section
variable {H : Type} {enc : TypeId × Value → H} {W : World} {base : Nat} {spare : Nat → Bool} {held : Bool}
theorem rows_map {α : Type} {f : α → List Value} : ∀ (rows : List (List Value)), (∀ r ∈ rows, ∃ x, r = f x) → ∃ l : List α, rows = l.map f
  | [], _ => ⟨[], rfl⟩
  | r :: rows, h => by
    obtain ⟨x, rfl⟩ := h r (by simp)
    obtain ⟨l, rfl⟩ := rows_map rows (fun r hr => h r (by simp [hr]))
    exact ⟨x :: l, rfl⟩
theorem args_CacheOp {a : Option Addr} {len cap : Nat} {d : DataW H} {ps : List MemPlace} (h : DataW.Trod enc Try.prog W base spare held 22 (.slice a len cap) d ps) : ∃ l, OpArg W W.heap.size a len cap l := by
  obtain ⟨rows, hr, h1, h2, hf⟩ := args_recs Try.underlying22 Try.underlying33 (by kernel_rfl) (by kernel_rfl) (by decide) h
  obtain ⟨l, rfl⟩ := rows_map (f := opRow) rows (fun r hm => by
    obtain ⟨n, hn⟩ := hf r hm
    have hl := hr.2.1 r hm
    match r, hl with
    | [c0, c1, c2], _ =>
      obtain ⟨y0, g0⟩ := hn 0 _ c0 rfl rfl
      obtain ⟨y1, g1⟩ := hn 1 _ c1 rfl rfl
      obtain ⟨y2, g2⟩ := hn 2 _ c2 rfl rfl
      obtain ⟨z0, e0, _⟩ := DataW.trod_int Try.underlying3 g0
      obtain ⟨z1, e1, _⟩ := DataW.trod_int Try.underlying3 g1
      obtain ⟨z2, e2, _⟩ := DataW.trod_int Try.underlying3 g2
      simp at e0 e1 e2
      subst e0; subst e1; subst e2
      exact ⟨(z0, z1, z2), rfl⟩)
  exact ⟨l, hr, h1, h2⟩
end
end Go.Proofs.Ytnggdeggcflodaa
