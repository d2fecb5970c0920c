/- Slices of structs of plain cells that came in, opened to rows of cells. No conditions. -/
import Derived.Test.YtimdmdjkkgdohaaGreatDoorBase
import Derived.DataElems
namespace Go.Proofs.YtimdmdjkkgdohaaGreatDoor
open Go.RowKit Go.ChangeShapes Go.WideShapes Go.Deep
set_option linter.unusedVariables false

/-- A slice of n structs, each of C cells, that reads as rows of cells; nil let in; it lies below block B. -/
def Recs (w : World) (B C : Nat) (a : Option Addr) (n : Nat) (rows : List (List Value)) : Prop :=
  rows.length = n ∧ (∀ r ∈ rows, r.length = C) ∧ (0 < n → ∃ b o, a = some ⟨b, o, none⟩ ∧ b < B ∧ ∀ (i : Nat) (r : List Value), rows[i]? = some r → ∀ (j : Nat) (u : Value), r[j]? = some u → w.cell? ⟨b, o + (i * C + j), none⟩ = some u)
theorem Recs.keep {w w' : World} {B C n : Nat} {a : Option Addr} {rows : List (List Value)} (h : Recs w B C a n rows) (hk : ∀ p : Addr, p.block < B → w'.cell? p = w.cell? p) : Recs w' B C a n rows :=
  ⟨h.1, h.2.1, fun hn => by
    obtain ⟨b, o, e, hb, hc⟩ := h.2.2 hn
    exact ⟨b, o, e, hb, fun i r hr j u hu => (hk _ hb).trans (hc i r hr j u hu)⟩⟩
theorem Recs.more {w : World} {B B' C n : Nat} {a : Option Addr} {rows : List (List Value)} (h : Recs w B C a n rows) (hB : B ≤ B') : Recs w B' C a n rows :=
  ⟨h.1, h.2.1, fun hn => by
    obtain ⟨b, o, e, hb, hc⟩ := h.2.2 hn
    exact ⟨b, o, e, by omega, hc⟩⟩
theorem Recs.below {w w' : World} {B C n : Nat} {a : Option Addr} {rows : List (List Value)} (h : Recs w B C a n rows) (hb : Below B w w') : Recs w' B C a n rows := h.keep fun _ hp => hb.cell hp

section
variable {H : Type} {enc : TypeId × Value → H} {P : Program} {w : World} {base : Nat} {spare : Nat → Bool} {held : Bool}
theorem args_recs {t e : TypeId} {fs : Array Field} {a : Option Addr} {len cap : Nat} {d : DataW H} {ps : List MemPlace}
    (hu : P.underlying t = some (.slice e)) (he : P.underlying e = some (.struct fs)) (hone : oneCellFields P fs = true) (hC : P.cellsOf e = fs.size) (h0 : 0 < fs.size)
    (h : DataW.Trod enc P w base spare held t (.slice a len cap) d ps) :
    ∃ rows : List (List Value), Recs w w.heap.size fs.size a len rows ∧ len ≤ cap ∧ cap ≤ maxLen ∧
      ∀ r ∈ rows, ∃ n, ∀ (i : Nat) (f : Field) (c : Value), fs[i]? = some f → r[i]? = some c → ∃ y, DataW.trod enc P w base spare held n f.type [c] = some y := by
  obtain ⟨fuel, hf⟩ := h
  rcases open_slice hu hf with ⟨hcs, _⟩ | ⟨ad, l, c, m, n, D, Pl, hcs, hb, hl, hm, hmm, _, hx⟩
  · simp [Value.cells] at hcs
    obtain ⟨rfl, rfl, rfl⟩ := hcs
    exact ⟨[], ⟨rfl, by simp, fun h => absurd h (by omega)⟩, by omega, by simp [maxLen], by simp⟩
  · simp [Value.cells] at hcs
    obtain ⟨rfl, rfl, rfl⟩ := hcs
    have hlm : len ≤ m := by rw [hmm]; split <;> omega
    rw [hC] at hx
    have key : ∀ i, i < len → ∃ cs', w.cells? base (ad.add (i * fs.size)) fs.size = some cs' ∧ DataW.trod enc P w base spare held n e cs' = some (D i, Pl i) := fun i hi => hx i (by omega)
    let rows := (List.range len).map fun i => (w.cells? base (ad.add (i * fs.size)) fs.size).getD []
    have hrow : ∀ (i : Nat) (r : List Value), rows[i]? = some r → i < len ∧ w.cells? base (ad.add (i * fs.size)) fs.size = some r ∧ DataW.trod enc P w base spare held n e r = some (D i, Pl i) := by
      intro i r hr
      simp only [rows, List.getElem?_map, Option.map_eq_some_iff] at hr
      obtain ⟨j, hj, rfl⟩ := hr
      obtain ⟨hj1, hj2⟩ := List.getElem?_eq_some_iff.1 hj
      simp at hj1 hj2
      subst hj2
      obtain ⟨cs', h1, h2⟩ := key i hj1
      rw [h1]
      exact ⟨hj1, rfl, h2⟩
    have hmem : ∀ r ∈ rows, ∃ i, rows[i]? = some r := fun r hr => List.getElem?_of_mem hr
    have hrl : rows.length = len := by simp [rows]
    refine ⟨rows, ⟨hrl, fun r hr => ?_, fun hn => ?_⟩, hl, hm, fun r hr => ?_⟩
    · obtain ⟨i, hi⟩ := hmem r hr
      exact (World.cells?_some (hrow i r hi).2.1).2.1
    · obtain ⟨b, o, sp⟩ := ad
      have cell : ∀ (i : Nat) (r : List Value), rows[i]? = some r → ∀ (j : Nat) (u : Value), r[j]? = some u → w.cell? ((⟨b, o, sp⟩ : Addr).add (i * fs.size + j)) = some u := by
        intro i r hr j u hu
        obtain ⟨h1, h2, h3⟩ := World.cells?_some (hrow i r hr).2.1
        have hj : j < fs.size := by rw [← h2]; exact (List.getElem?_eq_some_iff.1 hu).1
        have := h3 j hj
        rw [Addr.add_add] at this
        rw [this, hu]
      have r0 : ∃ r, rows[0]? = some r := ⟨rows[0]'(by omega), List.getElem?_eq_getElem (by omega)⟩
      obtain ⟨r, hr⟩ := r0
      have hr2 : r.length = fs.size := (World.cells?_some (hrow 0 r hr).2.1).2.1
      have c0 := cell 0 r hr 0 r[0] (List.getElem?_eq_getElem (by omega))
      have c0' : w.cell? ⟨b, o, sp⟩ = some r[0] := by simpa [Addr.add] using c0
      have hs : sp = none := World.cell?_spot c0'
      subst hs
      have hlt : b < w.heap.size := World.block_lt_of_cell? _ _ c0'
      refine ⟨b, o, rfl, hlt, fun i r hr j u hu => ?_⟩
      have := cell i r hr j u hu
      rwa [Addr.add_lit] at this
    · obtain ⟨i, hi⟩ := hmem r hr
      obtain ⟨xs, k, _, _, hlen, hxl, hg⟩ := DataW.trod_struct he (hrow i r hi).2.2
      refine ⟨k, fun j f c hf hc => ?_⟩
      obtain ⟨o, ko⟩ := hone_of hone j f hf
      have := hg j f hf
      rw [o, ko] at this
      have hj : j < r.length := (List.getElem?_eq_some_iff.1 hc).1
      have e1 : (List.drop j r).take 1 = [c] := by
        rw [List.drop_eq_getElem_cons hj]
        have := (List.getElem?_eq_some_iff.1 hc).2
        simp [this]
      rw [e1] at this
      have hjf : j < xs.length := by rw [hxl]; exact (Array.getElem?_eq_some_iff.1 hf).1
      rw [List.getElem?_eq_getElem hjf] at this
      exact ⟨_, this⟩
end
end Go.Proofs.YtimdmdjkkgdohaaGreatDoor
