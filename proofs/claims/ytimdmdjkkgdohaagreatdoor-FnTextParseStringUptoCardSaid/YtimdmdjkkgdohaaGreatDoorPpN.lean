/- Steps of a parser, as they lie in memory; what they make of it. No conditions. -/
import Derived.Test.YtimdmdjkkgdohaaGreatDoorPpM
import Derived.Deep.DeepAppendWide
namespace Go.Proofs.YtimdmdjkkgdohaaGreatDoor
open Go.RowKit Go.MapKept
set_option linter.unusedVariables false
abbrev tS : TypeId := 34
inductive Sx : PS → Int × Int × ByteArray → PS → Prop
  | one {p p1 r t} : Stp p r p1 → Sx p (0, ((r : Nat) : Int), t) p1
  | all {cs T pf s} : s.data.toList = enc T → (∀ r ∈ T, Rn r) → s.size ≤ 1000000 → Runs ⟨cs, false, 0, []⟩ T pf → Sx ⟨cs, false, 0, []⟩ (1, 0, s) pf
inductive Sxs : PS → List (Int × Int × ByteArray) → PS → Prop
  | nil {p} : Sxs p [] p
  | cons {p x p1 L p2} : Sx p x p1 → Sxs p1 L p2 → Sxs p (x :: L) p2
/-- Steps in block g. -/
def Steps (w : World) (g : Nat) (L : List (Int × Int × ByteArray)) : Prop := g < w.heap.size ∧ ∀ i x, L[i]? = some x → w.cell? ⟨g, i * 3, none⟩ = some (.int .i64 x.1) ∧ w.cell? ⟨g, i * 3 + 1, none⟩ = some (.int .i32 x.2.1) ∧ w.cell? ⟨g, i * 3 + 2, none⟩ = some (.string x.2.2)
theorem Steps.below {w w' : World} {g S : Nat} {L : List (Int × Int × ByteArray)} (h : Steps w g L) (hb : Below S w w') (hS : w.heap.size ≤ S) : Steps w' g L :=
  ⟨by have := h.1; have := hb.size; omega, fun i x hx => by
    obtain ⟨h1, h2, h3⟩ := h.2 i x hx
    have hg := h.1
    exact ⟨(hb.cell (p := ⟨g, i * 3, none⟩) (by simp; omega)).trans h1, (hb.cell (p := ⟨g, i * 3 + 1, none⟩) (by simp; omega)).trans h2, (hb.cell (p := ⟨g, i * 3 + 2, none⟩) (by simp; omega)).trans h3⟩⟩
theorem own_fq {w w' : World} {B B' size n : Nat} {v : Value} {xs : List Value} {t : TypeId} (h : w.ownsRow B' t size v n xs) (hf : Fq B w w') (h1 : t ≠ tU) (h2 : t ≠ tP) : w'.ownsRow B' t size v n xs := by
  refine ⟨h.1, ?_⟩
  rcases h.2 with h0 | ⟨g, cap, cur, hv, hBg, r, r2⟩
  · exact .inl h0
  · exact .inr ⟨g, cap, cur, hv, hBg, hf.fr g t cur h1 h2 r, r2⟩
theorem infoS : (Tryz.prog.info? tS).map (fun i => (i.zero, i.size, i.bytes)) = some (some (.agg #[.bool false, .bool false, .slice none 0 0, .string ⟨#[]⟩, .string ⟨#[]⟩]), 5, 64) := by kernel_rfl
/-- What the last state tells. -/
def Lst (wr : World) (B k : Nat) (xs : List Value) (p : PS) : Prop := k = 0 ∧ xs = [] ∨ 0 < k ∧ ∃ ys cv td, xs = ys ++ [.bool p.e, .bool (opn p.cs), cv, .string ⟨(seqR (p.cs.getD [])).toArray⟩, .string td] ∧ wr.ownsRow B tI 1 cv (srt (p.cs.getD [])).length ((srt (p.cs.getD [])).map (Value.int .i64))
theorem five_at {W : World} {b : Nat} {cs : Array Value} {t : TypeId} (h : W.heap[b]? = some (.cells cs t (0, 0))) : ∀ j u, cs.toList[j]? = some u → W.cell? ((⟨b, 0, none⟩ : Addr).add j) = some u := by
  intro j u hj
  rw [Addr.add_lit, Nat.zero_add, cell_of_row W b j cs t (0, 0) h]
  simpa using hj
def ParsedRet (n : Nat) (pf : PS) (w : World) (e : Ending) (w' : World) : Prop := ∃ g cap xs, e = .returned (.slice (some ⟨g, 0, none⟩) n cap) ∧ n ≤ cap ∧ cap ≤ maxLen ∧ w'.ownsRow w.heap.size tS 5 (.slice (some ⟨g, 0, none⟩) n cap) n xs ∧ Lst w' w.heap.size n xs pf ∧ Below w.heap.size w w'
end Go.Proofs.YtimdmdjkkgdohaaGreatDoor
