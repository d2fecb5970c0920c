/- Rows of runes in the making: the last one grows, or a new one begins. No conditions. -/
import Derived.Test.YtenmkoaimmnpdaaDoorCrM
import Derived.Test.YtenmkoaimmnpdaaDoorIter
import Derived.Lib.FrozenHead2
namespace Go.Proofs.YtenmkoaimmnpdaaDoor
open Go.RowKit
set_option linter.unusedVariables false
/-- The rows that are done, the last one that grows, and the row that holds them all. -/
def Mk (w : World) (F : Nat) (ro : Value) (G : List (List UInt8)) (vs : List Value) : Prop :=
  w.ownsRow F eG 1 ro G.length vs ∧ F ≤ w.heap.size ∧ (G = [] ∨ ∃ D g Dvs vl Bl, G = D ++ [g] ∧ vs = Dvs ++ [vl] ∧ g ≠ [] ∧ F ≤ Bl ∧ Bl ≤ w.heap.size ∧ AllR w Bl Dvs D ∧ w.ownsRow Bl eR 1 vl g.length (g.map rv))
theorem eG_ne : eG ≠ eR := by decide
theorem own_keep {w w' : World} {B e n : Nat} {v : Value} {xs : List Value} {b : Option Nat} (h : w.ownsRow B e 1 v n xs) (hg : w.grownBy w' b) (hne : v.ownBlock = none ∨ v.ownBlock ≠ b) : w'.ownsRow B e 1 v n xs := h.kept hg hne
theorem below_setCell {B : Nat} {w : World} {p : Addr} (h : B ≤ p.block) (v : Value) : Below B w (w.setCell p v) := (Below.refl B w).setCell (p := p) h v
theorem mk_same {w w2 : World} {F n cap go : Nat} {D : List (List UInt8)} {g : List UInt8} {Dvs : List Value} {vl v' : Value} {Bl : Nat} {c : UInt8}
    (ho : w.ownsRow F eG 1 (.slice (some ⟨go, 0, none⟩) n cap) n (Dvs ++ [vl])) (hn : n = D.length + 1) (hF : F ≤ Bl) (hBl : Bl ≤ w.heap.size) (hA : AllR w Bl Dvs D) (hv : w.ownsRow Bl eR 1 vl g.length (g.map rv))
    (h2 : w2.ownsRow Bl eR 1 v' (g.length + 1) (g.map rv ++ [rv c])) (hg : (w.alloc (.cells #[rv c] eR)).grownBy w2 vl.ownBlock) :
    Mk (w2.setCell ⟨go, n - 1, none⟩ v') F (.slice (some ⟨go, 0, none⟩) n cap) (D ++ [g ++ [c]]) (Dvs ++ [v']) ∧ Below F w (w2.setCell ⟨go, n - 1, none⟩ v') := by
  have hgo : F ≤ go := (ho.lt go rfl).1
  have hgw : go < w.heap.size := (ho.lt go rfl).2
  have ho1 : w2.ownsRow F eG 1 (.slice (some ⟨go, 0, none⟩) n cap) n (Dvs ++ [vl]) := own_keep (ho.alloc _) hg (by
    rcases own_tag ho hv eG_ne with h | h
    · cases h
    · exact .inr h)
  have hb : Below Bl w w2 := ((Below.refl Bl w).alloc hBl _).grown hg (by simp; omega) (fun k hk => (hv.lt k hk).1)
  have hDl := hA.1
  have ho2 := own_set ho1 (k := n - 1) (by omega) v'
  have hset : (Dvs ++ [vl]).set (n - 1) v' = Dvs ++ [v'] := by
    rw [show n - 1 = Dvs.length by omega, List.set_append_right _ _ (Nat.le_refl _), Nat.sub_self]; rfl
  rw [hset] at ho2
  obtain ⟨cur, hcell⟩ : ∃ cur, w2.heap[go]? = some (.cells cur eG (0, 0)) := by
    rcases ho1.2 with ⟨h, _⟩ | ⟨g', cap', cur, hv', _, hh, _⟩
    · cases h
    · cases hv'; exact ⟨cur, hh⟩
  have hk : ∀ k, k < w2.heap.size → k ≠ go → (w2.setCell ⟨go, n - 1, none⟩ v').heap[k]? = w2.heap[k]? := fun k _ hne => heap_setCell_other w2 ⟨go, n - 1, none⟩ k v' (fun e => hne e)
  have hA2 : AllR (w2.setCell ⟨go, n - 1, none⟩ v') Bl Dvs D := hA.keep fun v g hs => (hs.below hb).other hcell eG_ne hk
  have hsz : (w2.setCell ⟨go, n - 1, none⟩ v').heap.size = w2.heap.size := by simp
  have h3 : (w2.setCell ⟨go, n - 1, none⟩ v').ownsRow Bl eR 1 v' (g ++ [c]).length ((g ++ [c]).map rv) := by
    rw [List.length_append, List.map_append]
    refine ownsRow_setCell_other h2 (fun e => ?_) v'
    rcases own_tag ho1 h2 eG_ne with h | h
    · cases h
    · exact h (by rw [e]; rfl)
  refine ⟨⟨by rw [List.length_append]; exact hn ▸ ho2, by rw [hsz]; have := hb.size; omega, .inr ⟨D, g ++ [c], Dvs, v', Bl, rfl, rfl, by simp, hF, by rw [hsz]; have := hb.size; omega, hA2, h3⟩⟩, (hb.mono hF).trans (below_setCell hgo v')⟩
theorem mk_all {w : World} {F : Nat} {ro : Value} {G : List (List UInt8)} {vs : List Value} (h : Mk w F ro G vs) : AllR w w.heap.size vs G := by
  obtain ⟨ho, hF, h | ⟨D, g, Dvs, vl, Bl, rfl, rfl, hg, h1, h2, hA, hv⟩⟩ := h
  · subst h
    have : vs = [] := List.eq_nil_of_length_eq_zero (by have := ho.1; simpa using this)
    subst this; exact AllR.nil _ _
  · exact (hA.keep fun v g hs => hs.more h2).snoc (SeenR.of_own hv hg)
theorem mk_iter {w : World} {F k p : Nat} {s : ByteArray} {ro : Value} {G : List (List UInt8)} {vs : List Value} (h : Mk w F ro G vs) (hit : w.heap[k]? = some (.stringIter s p)) (hk : k < F) (p' : Nat) : Mk (w.iterAt k s p') F ro G vs := by
  have ho : ∀ g, g ≠ k → (w.iterAt k s p').heap[g]? = w.heap[g]? := fun g hg => Lib.iterAt_other w k g s p' hg
  obtain ⟨h1, h2, h3⟩ := h
  refine ⟨itOwn h1 hit p', by rw [Lib.iterAt_size]; exact h2, h3.imp id ?_⟩
  rintro ⟨D, g, Dvs, vl, Bl, e1, e2, e3, e4, e5, e6, e7⟩
  refine ⟨D, g, Dvs, vl, Bl, e1, e2, e3, e4, by rw [Lib.iterAt_size]; exact e5, e6.keep fun v l hs => hs.keep (Nat.le_refl _) fun q cur fz _ hc => ho q ?_, itOwn e7 hit p'⟩
  rintro rfl
  rw [hit] at hc
  cases hc
theorem mk_new {w w2 : World} {F : Nat} {ro ro' : Value} {G : List (List UInt8)} {vs : List Value} {c : UInt8} (h : Mk w F ro G vs)
    (h2 : w2.ownsRow F eG 1 ro' (G.length + 1) (vs ++ [.slice (some ⟨w.heap.size, 0, none⟩) 1 1]))
    (hg : ((w.alloc (.cells #[rv c] eR)).alloc (.cells #[.slice (some ⟨w.heap.size, 0, none⟩) 1 1] eG)).grownBy w2 ro.ownBlock) :
    Mk w2 F ro' (G ++ [[c]]) (vs ++ [.slice (some ⟨w.heap.size, 0, none⟩) 1 1]) ∧ Below F w w2 := by
  have hA := mk_all h
  obtain ⟨ho, hF, -⟩ := h
  have hsz : w.heap.size + 2 ≤ w2.heap.size := by have := hg.size; simpa using this
  have hb : Below F w w2 := (((Below.refl F w).alloc hF _).alloc (by simp; omega) _).grown hg (by simp; omega) (fun k hk => (ho.lt k hk).1)
  have hkeep : ∀ k cur fz, k < w.heap.size → w.heap[k]? = some (.cells cur eR fz) → w2.heap[k]? = w.heap[k]? := fun k cur fz hk hc => by
    rw [hg.block k (by simp; omega) (fun e => by
      rcases ho.2 with ⟨hv, _⟩ | ⟨g', cap', cur', hv, _, hh, _⟩
      · rw [hv] at e; cases e
      · rw [hv] at e
        injection e with e
        subst e
        rw [hc] at hh
        simp only [Option.some.injEq, Obj.cells.injEq] at hh
        exact eG_ne hh.2.1.symm)]
    rw [Below.heap_alloc _ _ _ (by simp; omega), Below.heap_alloc _ _ _ hk]
  refine ⟨⟨by rw [List.length_append]; exact h2, by omega, .inr ⟨G, [c], vs, _, w.heap.size, rfl, rfl, by simp, hF, by omega, hA.keep fun v g hs => hs.keep (Nat.le_refl _) hkeep, ?_⟩⟩, hb⟩
  have hnew : w2.heap[w.heap.size]? = some (.cells #[rv c] eR (0, 0)) := by
    rw [hg.block _ (by simp; omega) (fun e => by have := (ho.lt _ e.symm).2; omega), Below.heap_alloc _ _ _ (by simp)]
    exact heap_alloc_new w _
  exact ⟨rfl, .inr ⟨w.heap.size, 1, #[rv c], rfl, Nat.le_refl _, hnew, Nat.le_refl _, by simp [maxLen], rfl, rfl⟩⟩
theorem store_row {w : World} {F n go cap k Bl : Nat} {vs : List Value} {G : List (List UInt8)} {v : Value} {g : List UInt8} (ho : w.ownsRow F eG 1 (.slice (some ⟨go, 0, none⟩) n cap) n vs) (hA : AllR w Bl vs G) (hk : k < n) (hv : SeenR w Bl v g) :
    (w.setCell ⟨go, k, none⟩ v).ownsRow F eG 1 (.slice (some ⟨go, 0, none⟩) n cap) n (vs.set k v) ∧ AllR (w.setCell ⟨go, k, none⟩ v) Bl (vs.set k v) (G.set k g) ∧ Below F w (w.setCell ⟨go, k, none⟩ v) := by
  obtain ⟨cur, hcell⟩ : ∃ cur, w.heap[go]? = some (.cells cur eG (0, 0)) := by
    rcases ho.2 with ⟨h, _⟩ | ⟨g', cap', cur, hv', _, hh, _⟩
    · cases h
    · cases hv'; exact ⟨cur, hh⟩
  have hkk : ∀ q, q < w.heap.size → q ≠ go → (w.setCell ⟨go, k, none⟩ v).heap[q]? = w.heap[q]? := fun q _ hne => heap_setCell_other w ⟨go, k, none⟩ q v (fun e => hne e)
  exact ⟨own_set ho hk v, (hA.set hv).keep fun u l hs => hs.other hcell eG_ne hkk, below_setCell (ho.lt go rfl).1 v⟩
theorem AllR.to {w w' : World} {vs : List Value} {G : List (List UInt8)} (h : AllR w w.heap.size vs G) (hb : Below w.heap.size w w') : AllR w' w'.heap.size vs G := h.keep fun v g hs => (hs.below hb).more hb.size
theorem SeenR.to {w w' : World} {v : Value} {g : List UInt8} (h : SeenR w w.heap.size v g) (hb : Below w.heap.size w w') : SeenR w' w'.heap.size v g := (h.below hb).more hb.size
theorem own_to {w w' : World} {B e n : Nat} {v : Value} {xs : List Value} (h : w.ownsRow B e 1 v n xs) (hb : Below w.heap.size w w') : w'.ownsRow B e 1 v n xs := own_below h hb
theorem al_own {w w' : World} {v : Value} (h : w.alloc (.cells #[v] eR) = w') : w'.ownsRow w.heap.size eR 1 (.slice (some ⟨w.heap.size, 0, none⟩) 1 1) 1 [v] ∧ Below w.heap.size w w' := by
  subst h
  exact ⟨⟨rfl, .inr ⟨w.heap.size, 1, #[v], rfl, Nat.le_refl _, heap_alloc_new w _, Nat.le_refl _, by simp [maxLen], rfl, rfl⟩⟩, (Below.refl _ _).alloc (Nat.le_refl _) _⟩
theorem own_toB {w w' : World} {F e n cap go Bq : Nat} {xs : List Value} (h : w.ownsRow F e 1 (.slice (some ⟨go, 0, none⟩) n cap) n xs) (hgo : go < Bq) (hb : Below Bq w w') : w'.ownsRow F e 1 (.slice (some ⟨go, 0, none⟩) n cap) n xs := by
  refine ⟨h.1, ?_⟩
  rcases h.2 with ⟨h2, _⟩ | ⟨g, c, cur, hv, hF, hh, r⟩
  · cases h2
  · cases hv
    exact .inr ⟨go, cap, cur, rfl, hF, (hb.block go hgo).trans hh, r⟩
theorem below_own {w w' : World} {B n : Nat} {v : Value} {xs : List Value} (h : w.ownsRow B eR 1 v n xs) (hB : B ≤ w.heap.size) (hg : w.grownBy w' v.ownBlock) : Below B w w' := (Below.refl B w).grown hg hB (fun k hk => (h.lt k hk).1)
theorem seen_ne {w : World} {F n cap go gi k ci Bl : Nat} {xs : List Value} {l : List UInt8} (ho : w.ownsRow F eG 1 (.slice (some ⟨go, 0, none⟩) n cap) n xs) (hs : SeenR w Bl (.slice (some ⟨gi, 0, none⟩) k ci) l) : gi ≠ go := by
  rintro rfl
  obtain ⟨g, c, cur, fz, e, _, _, _, hh, _⟩ := hs
  cases e
  rcases ho.2 with ⟨h2, _⟩ | ⟨g', c', cur', hv, _, hh', _⟩
  · cases h2
  · cases hv
    rw [hh] at hh'
    simp only [Option.some.injEq, Obj.cells.injEq] at hh'
    exact eG_ne hh'.2.1.symm
theorem seen_set {w : World} {F n go cap k Bl : Nat} {vs : List Value} {u v : Value} {l : List UInt8} (ho : w.ownsRow F eG 1 (.slice (some ⟨go, 0, none⟩) n cap) n vs) (hs : SeenR w Bl u l) : SeenR (w.setCell ⟨go, k, none⟩ v) Bl u l := by
  obtain ⟨cur, hcell⟩ : ∃ cur, w.heap[go]? = some (.cells cur eG (0, 0)) := by
    rcases ho.2 with ⟨h, _⟩ | ⟨g', cap', cur, hv', _, hh, _⟩
    · cases h
    · cases hv'; exact ⟨cur, hh⟩
  exact hs.other hcell eG_ne (fun q _ hne => heap_setCell_other w ⟨go, k, none⟩ q v (fun e => hne e))
theorem all_grown {w w' : World} {o : Obj} {vs : List Value} {G : List (List UInt8)} {B n : Nat} {e : TypeId} {v : Value} {xs : List Value} (h : AllR w w.heap.size vs G) (hv : w.ownsRow B e 1 v n xs) (he : e ≠ eR) (hg : (w.alloc o).grownBy w' v.ownBlock) : AllR w' w'.heap.size vs G := by
  have hsz : w.heap.size ≤ w'.heap.size := by have := hg.size; simp at this; omega
  refine h.keep fun u l hs => hs.keep hsz fun k cur fz hk hc => ?_
  rw [hg.block k (by simp; omega) (fun e1 => ?_), Below.heap_alloc _ _ _ hk]
  rcases hv.2 with ⟨h1, _⟩ | ⟨g', cap', cur', h1, _, hh, _⟩
  · rw [h1] at e1; cases e1
  · rw [h1] at e1
    injection e1 with e1
    subst e1
    rw [hc] at hh
    simp only [Option.some.injEq, Obj.cells.injEq] at hh
    exact he hh.2.1.symm
theorem news_at {w : World} {Bl g n cap : Nat} {l : List UInt8} (h : SeenR w Bl (.slice (some ⟨g, 0, none⟩) n cap) l) : ∀ (j : Nat) u, (l.map rv)[j]? = some u → w.cell? ((⟨g, 0, none⟩ : Addr).add j) = some u := by
  intro j u hj
  obtain ⟨g', c', e, _, _, hc⟩ := h.cell
  cases e
  rw [List.getElem?_map, Option.map_eq_some_iff] at hj
  obtain ⟨c, h1, rfl⟩ := hj
  obtain ⟨hl, rfl⟩ := List.getElem?_eq_some_iff.1 h1
  rw [Addr.add_lit, Nat.zero_add]
  exact hc j hl
end Go.Proofs.YtenmkoaimmnpdaaDoor
