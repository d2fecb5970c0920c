/- Reading a list back: the walk of LsBack, at lines that are made of connectors, a bullet and a text. No conditions. -/
import Derived.Test.YthdkbokdikhojaaGreatDoorLkD
import Derived.Test.YthdkbokdikhojaaGreatDoorLdV0
import Derived.Laws.OwnMore
namespace Go.Proofs.YthdkbokdikhojaaGreatDoor
open Go.RowKit
set_option linter.unusedVariables false
def itmCells (l : List (ByteArray × Int)) : List Value := l.flatMap fun x => [.string x.1, .int .i64 x.2]
theorem itmCells_snoc (l : List (ByteArray × Int)) (t : ByteArray) (z : Int) : itmCells (l ++ [(t, z)]) = itmCells l ++ [.string t, .int .i64 z] := by simp [itmCells]
theorem take_itm (l : List (ByteArray × Int)) (k : Nat) (h : k < l.length) : l.take (k + 1) = l.take k ++ [(tx l k, lv l k)] := by
  rw [List.take_succ_eq_append_getElem h, tx, lv, List.getD_eq_getElem?_getD, List.getElem?_eq_getElem h]; rfl
theorem infoItm : (Tryz.prog.info? 35).map (fun i => (i.zero, i.size, i.bytes)) = some (some (.agg #[.string ⟨#[]⟩, .int .i64 0]), 2, 24) := by kernel_rfl
theorem own_other {w : World} {B : Nat} {e e' : TypeId} {size n g : Nat} {v : Value} {xs : List Value} {cs : Array Value} {fr : Nat × Nat} (h : w.ownsRow B e size v n xs) (hg : w.heap[g]? = some (.cells cs e' fr)) (hne : e ≠ e') : some g ≠ v.ownBlock := by
  rcases h.2 with ⟨rfl, _⟩ | ⟨g', cap, cur, rfl, _, hgg, _⟩
  · simp [Value.ownBlock]
  · intro e1
    simp [Value.ownBlock] at e1
    subst e1
    rw [hgg] at hg
    simp at hg
    exact hne hg.2.1
theorem append_itm {ops : Array Oper} {rest : List Oper} {a : Act} {Q : Exit → Act → World → Prop} {dst : Option Tmp} {s x : Operand} {ty : TypeId} {ps : String} {af : Array Edge} {w0 w : World} {B g : Nat} {v : Value} {l : List (ByteArray × Int)} {t : ByteArray} {z : Int}
    (h : w.ownsRow B 35 2 v l.length (itmCells l)) (HB : Below B w0 w) (hs : a.eval s = v) (hx : a.eval x = .slice (some ⟨g, 0, none⟩) 1 1) (hblk : w.heap[g]? = some (.cells #[.string t, .int .i64 z] 35 (0, 0))) (hlen : l.length ≤ 1000000) (hB : B ≤ w.heap.size)
    (hK : ∀ v' w', w'.ownsRow B 35 2 v' (l ++ [(t, z)]).length (itmCells (l ++ [(t, z)])) → Below B w0 w' → w.grownBy w' v.ownBlock → wpList Tryz.prog ops Q rest (a.put dst v') w') :
    wpList Tryz.prog ops Q (⟨dst, .call { callee := .builtin .append, args := #[s, x], argTypes := #[22, 22] }, ty, ps, af, none⟩ :: rest) a w := by
  obtain ⟨i0, hi, hz0, hz1, hz2⟩ := info_parts infoItm
  refine wpList_append_own _ rfl s x 22 rfl B 35 i0 (.agg #[.string ⟨#[]⟩, .int .i64 0]) 2 24 Tryz.underlying22 hi hz0 hz1 hz2 rfl (by decide) v l.length (itmCells l) hs h ⟨g, 0, none⟩ 1 1 [.string t, .int .i64 z] hx rfl ?_ (by simp [Value.oneCell']) (by unfold maxLen; omega) (by omega) hB ?_
  · intro j u hj
    have : w.cell? ⟨g, j, none⟩ = some u := by
      rw [cell_of_row w g j _ 35 (0, 0) hblk]
      rw [← Array.getElem?_toList]
      exact hj
    rw [Addr.add_lit, Nat.zero_add]
    exact this
  · intro v' w' hown hg _
    refine hK v' w' (by rw [itmCells_snoc]; simpa using hown) (HB.grown hg hB (fun k hk => (h.lt k hk).1)) hg
theorem itm_at (l : List (ByteArray × Int)) : ∀ k, k < l.length → (itmCells l)[k * 2]? = some (.string (tx l k)) ∧ (itmCells l)[k * 2 + 1]? = some (.int .i64 (lv l k)) := by
  induction l with
  | nil => intro k h; simp at h
  | cons x l ih =>
    intro k h
    have e : itmCells (x :: l) = .string x.1 :: .int .i64 x.2 :: itmCells l := by simp [itmCells]
    cases k with
    | zero => rw [e]; exact ⟨rfl, rfl⟩
    | succ k =>
      have := ih k (by simpa using h)
      rw [e, show (k + 1) * 2 = k * 2 + 1 + 1 by omega]
      simpa [tx, lv] using this
theorem itm_arg {w : World} {B n : Nat} {v : Value} {l : List (ByteArray × Int)} (h : w.ownsRow B 35 2 v n (itmCells l)) (hn : l.length = n) : ∃ A cap, v = .slice A n cap ∧ LsArg w w.heap.size A n cap l := by
  rcases h.2 with ⟨rfl, hz⟩ | ⟨g, cap, cur, rfl, hB, hg, hc1, hc2, hrest⟩
  · subst hz
    have hl : l = [] := List.eq_nil_of_length_eq_zero hn
    subst hl
    exact ⟨none, 0, rfl, ⟨rfl, by simp, fun h0 => absurd h0 (by omega)⟩, rfl, Nat.le_refl _, by unfold maxLen; omega⟩
  · refine ⟨_, cap, rfl, ⟨by simpa using hn, fun r hr => ?_, fun _ => ⟨g, 0, rfl, (Array.getElem?_eq_some_iff.1 hg).1, fun i r hi j u hj => ?_⟩⟩, hn, hc1, hc2⟩
    · obtain ⟨x, _, rfl⟩ := List.mem_map.1 hr; rfl
    · rw [List.getElem?_map, Option.map_eq_some_iff] at hi
      obtain ⟨x, hx, rfl⟩ := hi
      have hil : i < l.length := (List.getElem?_eq_some_iff.1 hx).1
      have hcl := h.cells (g := g) rfl
      obtain ⟨c1, c2⟩ := itm_at l i hil
      have a1 := hcl _ _ c1
      have a2 := hcl _ _ c2
      rw [Addr.add_lit, Nat.zero_add] at a1 a2
      have ex : (tx l i, lv l i) = x := by
        unfold tx lv
        rw [List.getD_eq_getElem?_getD, hx]; rfl
      subst ex
      rw [Nat.zero_add]
      rcases j with _ | _ | j
      · simp [lsRow] at hj; subst hj; exact a1
      · simp [lsRow] at hj; subst hj; exact a2
      · simp [lsRow] at hj
/-- What is asked of a style's connector, its blanks and its bullets. -/
structure BackS (V bl : ByteArray) (b : Nat → ByteArray) : Prop where
  ne : V.toList.isEmpty = false
  sV : V.size ≤ 20
  sbl : bl.size ≤ 20
  sb : ∀ i, i < 5 → (b i).size ≤ 20
  vb : ∀ rest, V.data.toList.isPrefixOf (bl.data.toList ++ rest) = false
  vu : ∀ i rest, i < 5 → V.data.toList.isPrefixOf ((b i).data.toList ++ (32 :: rest)) = false
  lu : ∀ i rest, i < 5 → bl.data.toList.isPrefixOf ((b i).data.toList ++ (32 :: rest)) = false
  bb : ∀ i j rest, i < 5 → j < 5 → ((b j).data.toList ++ [32]).isPrefixOf ((b i).data.toList ++ (32 :: rest)) = decide (b j = b i)
structure BackL (V bl : ByteArray) (b : Nat → ByteArray) (l : List UInt8) (t : ByteArray) (z : Int) : Prop where
  has : ∃ (P : List ByteArray) (i : Nat), l = (P.flatMap (·.data.toList)) ++ ((b i).data.toList ++ (32 :: t.data.toList)) ∧ (∀ p ∈ P, p = V ∨ p = bl) ∧ z = P.length ∧ P.length ≤ 60 ∧ i < 5
def mb (v : Value) : Nat := match v with | .bool true => 1 | _ => 0
def pc (P : List ByteArray) (j : Nat) : ByteArray := P.getD j ⟨#[]⟩
theorem pc_drop (P : List ByteArray) (j : Nat) (h : j < P.length) : P.drop j = pc P j :: P.drop (j + 1) := by
  rw [List.drop_eq_getElem_cons h, pc, List.getD_eq_getElem?_getD, List.getElem?_eq_getElem h]; rfl
theorem pc_mem (P : List ByteArray) (j : Nat) (h : j < P.length) : pc P j ∈ P := by
  rw [pc, List.getD_eq_getElem?_getD, List.getElem?_eq_getElem h]; exact List.getElem_mem h
def rst (P : List ByteArray) (tail : List UInt8) (j : Nat) : List UInt8 := (P.drop j).flatMap (·.data.toList) ++ tail
theorem rst_at (P : List ByteArray) (tail : List UInt8) (j : Nat) (h : j < P.length) : rst P tail j = (pc P j).data.toList ++ rst P tail (j + 1) := by
  unfold rst; rw [pc_drop P j h]; simp
theorem rst_end (P : List ByteArray) (tail : List UInt8) : rst P tail P.length = tail := by simp [rst]
theorem pre_app (a b : List UInt8) : a.isPrefixOf (a ++ b) = true := by rw [List.isPrefixOf_iff_prefix]; exact List.prefix_append a b
def fnd (b : Nat → ByteArray) (u : ByteArray) : Nat → Bool
  | 0 => false
  | j + 1 => fnd b u j || decide (b j = u)
theorem fnd_hit (b : Nat → ByteArray) (u : ByteArray) : ∀ n i, i < n → b i = u → fnd b u n = true
  | 0, i, h, _ => absurd h (by omega)
  | n + 1, i, h, e => by
    rw [fnd]
    by_cases hi : i = n
    · subst hi; simp [e]
    · rw [fnd_hit b u n i (by omega) e]; rfl
end Go.Proofs.YthdkbokdikhojaaGreatDoor
