/- Pieces of text with their codes, that came in as an argument. No conditions. -/
import Derived.Test.YtimdmdjkkgdohaaGreatDoorProg
import Derived.Test.YtimdmdjkkgdohaaGreatDoorBase
import Derived.Test.YtimdmdjkkgdohaaGreatDoorRecs
import Derived.KernelRfl
namespace Go.Proofs.YtimdmdjkkgdohaaGreatDoor
open Go.RowKit Go.ChangeShapes Go.WideShapes Go.Deep
set_option linter.unusedVariables false
structure Pc where
  a : Option Addr
  n : Nat
  cap : Nat
  zs : List Int
  s : ByteArray
def pcRow (x : Pc) : List Value := [.slice x.a x.n x.cap, .string x.s]
def PcOk (w : World) (B : Nat) (x : Pc) : Prop := Row w B x.a x.n (x.zs.map (Value.int .i64)) ∧ x.n ≤ x.cap ∧ x.cap ≤ maxLen ∧ x.s.size ≤ maxLen ∧ ∀ z ∈ x.zs, (Lit.int .i64 z).wf = true
def PcArg (w : World) (B : Nat) (A : Option Addr) (n cap : Nat) (l : List Pc) : Prop := Recs w B 2 A n (l.map pcRow) ∧ l.length = n ∧ n ≤ cap ∧ cap ≤ maxLen ∧ ∀ x ∈ l, PcOk w B x
def pc0 : Pc := ⟨none, 0, 0, [], ⟨#[]⟩⟩
def pc (l : List Pc) (k : Nat) : Pc := l.getD k pc0
theorem PcArg.below {w w' : World} {B : Nat} {A : Option Addr} {n cap : Nat} {l : List Pc} (h : PcArg w B A n cap l) (hb : Below B w w') : PcArg w' B A n cap l :=
  ⟨h.1.below hb, h.2.1, h.2.2.1, h.2.2.2.1, fun x hx => ⟨(h.2.2.2.2 x hx).1.below hb, (h.2.2.2.2 x hx).2⟩⟩
theorem PcArg.more {w : World} {B B' : Nat} {A : Option Addr} {n cap : Nat} {l : List Pc} (h : PcArg w B A n cap l) (hB : B ≤ B') : PcArg w B' A n cap l :=
  ⟨h.1.more hB, h.2.1, h.2.2.1, h.2.2.2.1, fun x hx => ⟨(h.2.2.2.2 x hx).1.more hB, (h.2.2.2.2 x hx).2⟩⟩
theorem PcArg.cell {w : World} {B : Nat} {A : Option Addr} {n cap : Nat} {l : List Pc} (h : PcArg w B A n cap l) {k : Nat} (hk : k < n) :
    ∃ b o, A = some ⟨b, o, none⟩ ∧ b < B ∧ w.cell? ⟨b, o + k * 2, none⟩ = some (.slice (pc l k).a (pc l k).n (pc l k).cap) ∧ w.cell? ⟨b, o + k * 2 + 1, none⟩ = some (.string (pc l k).s) ∧ PcOk w B (pc l k) := by
  obtain ⟨⟨h1, h2, h3⟩, hl, _, _, hok⟩ := h
  obtain ⟨b, o, e, hb, hc⟩ := h3 (by omega)
  have hd : pc l k = l[k]'(by omega) := by unfold pc; rw [List.getD_eq_getElem?_getD, List.getElem?_eq_getElem (by omega)]; rfl
  have hr : (l.map pcRow)[k]? = some (pcRow (l[k]'(by omega))) := by rw [List.getElem?_map, List.getElem?_eq_getElem (by omega)]; rfl
  refine ⟨b, o, e, hb, ?_, ?_, ?_⟩
  · rw [hd]; exact hc k _ hr 0 _ rfl
  · rw [hd]; exact hc k _ hr 1 _ rfl
  · rw [hd]; exact hok _ (List.getElem_mem _)
theorem PcOk.code {w : World} {B : Nat} {x : Pc} (h : PcOk w B x) {i : Nat} (hi : i < x.n) : ∃ b o, x.a = some ⟨b, o, none⟩ ∧ b < B ∧ w.cell? ⟨b, o + i, none⟩ = some (.int .i64 (x.zs.getD i 0)) ∧ (Lit.int .i64 (x.zs.getD i 0)).wf = true := by
  obtain ⟨b, o, u, hA, hb, hx, hc⟩ := h.1.at_ hi
  have hl0 := h.1.1
  rw [List.length_map] at hl0
  have hl : i < x.zs.length := by omega
  rw [List.getElem?_map, List.getElem?_eq_getElem hl] at hx
  simp only [Option.map_some, Option.some.injEq] at hx
  refine ⟨b, o, hA, hb, ?_, ?_⟩
  · rw [hc, ← hx, List.getD_eq_getElem?_getD, List.getElem?_eq_getElem hl]; rfl
  · rw [List.getD_eq_getElem?_getD, List.getElem?_eq_getElem hl]
    exact h.2.2.2.2 _ (List.getElem_mem hl)
section
variable {H : Type} {enc : TypeId × Value → H} {W : World} {base : Nat} {spare : Nat → Bool} {held : Bool}
theorem rows_map {α : Type} {f : α → List Value} {p : α → Prop} : ∀ (rows : List (List Value)), (∀ r ∈ rows, ∃ x, r = f x ∧ p x) → ∃ l : List α, rows = l.map f ∧ ∀ x ∈ l, p x
  | [], _ => ⟨[], rfl, fun x hx => by cases hx⟩
  | r :: rows, h => by
    obtain ⟨x, rfl, hx⟩ := h r (by simp)
    obtain ⟨l, rfl, hl⟩ := rows_map rows (fun r hr => h r (by simp [hr]))
    exact ⟨x :: l, rfl, fun y hy => by rcases List.mem_cons.1 hy with rfl | hy; exact hx; exact hl y hy⟩
theorem args_TxPiece {a : Option Addr} {len cap : Nat} {d : DataW H} {ps : List MemPlace} (h : DataW.Trod enc Tryz.prog W base spare held 22 (.slice a len cap) d ps) : ∃ l, PcArg W W.heap.size a len cap l := by
  obtain ⟨rows, hr, h1, h2, hf⟩ := args_recs Tryz.underlying22 Tryz.underlying37 (by kernel_rfl) (by kernel_rfl) (by decide) h
  obtain ⟨l, rfl, hl⟩ := rows_map (f := pcRow) (p := PcOk W W.heap.size) rows (fun r hm => by
    obtain ⟨n, hn⟩ := hf r hm
    have hl := hr.2.1 r hm
    match r, hl with
    | [c0, c1], _ =>
      obtain ⟨y0, g0⟩ := hn 0 _ c0 rfl rfl
      obtain ⟨y1, g1⟩ := hn 1 _ c1 rfl rfl
      obtain ⟨s, e1, _, hs⟩ := DataW.trod_string Tryz.underlying9 g1
      simp at e1
      subst e1
      rcases ChangeShapes.open_ints Tryz.underlying32 Tryz.underlying3 (by kernel_rfl) g0 with ⟨hcs, _⟩ | ⟨x, n1, c, zs, hcs, _, hl1, hm1, hz, _, hcell, hwf⟩
      · simp at hcs
        subst hcs
        exact ⟨⟨none, 0, 0, [], s⟩, rfl, Row.nil _ _, Nat.le_refl _, by simp [maxLen], hs, fun z hz => by cases hz⟩
      · simp at hcs
        subst hcs
        have hl2 : n1 ≤ zs.length := by rw [hz]; split <;> omega
        refine ⟨⟨some x, n1, c, zs.take n1, s⟩, rfl, row_of (by simp; omega) (fun i u hi => ?_), hl1, hm1, hs, fun z hz => hwf z (List.mem_of_mem_take hz)⟩
        rw [List.getElem?_map, List.getElem?_take] at hi
        split at hi
        · rename_i hil
          rw [hcell i (by omega)]
          rw [List.getD_eq_getElem?_getD]
          rw [Option.map_eq_some_iff] at hi
          obtain ⟨z, h1, h2⟩ := hi
          rw [h1, ← h2]; rfl
        · simp at hi)
  exact ⟨l, hr, by simpa using hr.1, h1, h2, hl⟩
end
end Go.Proofs.YtimdmdjkkgdohaaGreatDoor
