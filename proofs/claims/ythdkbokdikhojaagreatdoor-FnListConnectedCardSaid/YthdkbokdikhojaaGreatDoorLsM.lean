/- The steps of a list make that list; as many items are told as were appended: the walk of FnListLength. No conditions. -/
import Derived.Test.YthdkbokdikhojaaGreatDoorLsE
import Derived.WalkKit
import Derived.Handy
import Derived.BigQuiet
import Derived.WalkLawsBesides
namespace Go.Proofs.YthdkbokdikhojaaGreatDoor
open Go.RowKit
set_option linter.unusedVariables false
theorem run_ind (its : List (Int × ByteArray)) (lev : Int) : ∀ j : Nat, (j = 0 ∨ (j = 1 ∧ its ≠ [] ∧ lev ≤ lastL its)) → (indS j).foldl run1 (its, lev) = (its, lev + j)
  | 0, _ => by simp [indS]
  | j + 1, h => by
    have e : j = 0 := by omega
    subst e
    obtain ⟨_, h1, h2⟩ := h.resolve_left (by omega)
    simp [indS, run1, indL, h1]
    omega
theorem run_un (its : List (Int × ByteArray)) (lev : Int) : ∀ j : Nat, (j : Int) ≤ lev → (unS j).foldl run1 (its, lev) = (its, lev - j)
  | 0, _ => by simp [unS]
  | j + 1, h => by
    rw [unS_snoc, List.foldl_append, run_un its lev j (by omega)]
    simp [run1, unL]
    omega
def itemsTo (l : List (ByteArray × Int)) (k : Nat) : List (Int × ByteArray) := (List.range k).map fun j => (lv l j, tx l j)
theorem itemsTo_succ (l : List (ByteArray × Int)) (k : Nat) : itemsTo l (k + 1) = itemsTo l k ++ [(lv l k, tx l k)] := by simp [itemsTo, List.range_succ]
theorem itemsTo_last (l : List (ByteArray × Int)) (k : Nat) : lastL (itemsTo l (k + 1)) = lv l k := by rw [itemsTo_succ]; simp [lastL]
theorem runs_steps {l : List (ByteArray × Int)} {n : Nat} (h : RightTo l n) : ∀ k, k ≤ n → runs (stepsTo l k) = (itemsTo l k, prv l k)
  | 0, _ => by simp [runs, stepsTo, itemsTo, prv]
  | k + 1, hk => by
    have ih := runs_steps h k (by omega)
    have hq := h k (by omega)
    have p0 : 0 ≤ prv l k := by
      unfold prv; split
      · omega
      · exact (h (k - 1) (by omega)).1
    have p1 : lv l k ≤ (if k = 0 then 0 else prv l k + 1) := by
      have := hq.2.2.1
      unfold prv
      split
      · rename_i e; rw [if_pos e] at this; exact this
      · rename_i e; rw [if_neg e] at this; simpa [e] using this
    unfold runs at ih ⊢
    rw [stepsTo, List.foldl_append, List.foldl_append, List.foldl_append, ih]
    rw [run_ind]
    · rw [run_un]
      · have e2 : prv l (k + 1) = lv l k := by unfold prv; simp
        rw [itemsTo_succ, e2]
        simp only [List.foldl_cons, List.foldl_nil, run1, if_true]
        have : prv l k + ((lv l k - prv l k).toNat : Int) - ((prv l k - lv l k).toNat : Int) = lv l k := by have := hq.1; omega
        rw [this]
      · have := hq.1; omega
    · by_cases e : lv l k ≤ prv l k
      · left; omega
      · right
        by_cases ek : k = 0
        · subst ek; simp [prv] at p1 e; omega
        · rw [if_neg ek] at p1
          refine ⟨by omega, ?_, ?_⟩
          · obtain ⟨j, rfl⟩ : ∃ j, k = j + 1 := ⟨k - 1, by omega⟩
            rw [itemsTo_succ]; simp
          · obtain ⟨j, rfl⟩ : ∃ j, k = j + 1 := ⟨k - 1, by omega⟩
            rw [itemsTo_last]; simp [prv]
theorem simple_clean {t : ByteArray} (h : simp false t = true) (hs : t.size ≤ 1000) : clean t := by
  refine ⟨hs, fun hb => ?_, fun hb => ?_⟩
  · have := simp_bytes h _ hb
    simp at this
  · have := simp_bytes h _ hb
    simp at this
theorem steps_ok {l : List (ByteArray × Int)} {n : Nat} (h : RightTo l n) : ∀ k, k ≤ n → ∀ x ∈ stepsTo l k, (x.1 = 0 ∨ x.1 = 2 ∨ x.1 = 3) ∧ clean x.2
  | 0, _ => by simp [stepsTo]
  | k + 1, hk => by
    intro x hx
    simp only [stepsTo, List.mem_append, List.mem_singleton] at hx
    rcases hx with ((hx | hx) | hx) | rfl
    · exact steps_ok h k (by omega) x hx
    · have := (List.mem_replicate.1 hx).2; subst this; exact ⟨.inr (.inl rfl), clean_empty⟩
    · have := (List.mem_replicate.1 hx).2; subst this; exact ⟨.inr (.inr rfl), clean_empty⟩
    · have := h k (by omega)
      exact ⟨.inl rfl, simple_clean this.2.2.2.2 (Nat.le_trans this.2.2.2.1 (by omega))⟩
/-- The list that the steps of a list make. -/
theorem made_any (base : Nat) (v : Value) (l : List (ByteArray × Int)) (w : World) (hr : RightL l) (h : w.ownsRow base 55 3 v (stepsTo l l.length).length (stpCells (stepsTo l l.length))) :
    Calls Tryz.prog 30 #[v] w (ListRet w (itemsTo l l.length)) := by
  have hl := stepsTo_len hr.1 hr.2 l.length (Nat.le_refl _)
  have := listOf_any base v (stepsTo l l.length) w h (by have := hr.2; omega) (fun k hk => by
    have := steps_ok hr.1 l.length (Nat.le_refl _) ((stepsTo l l.length)[k]) (List.getElem_mem hk)
    simpa [sk, st_, hk] using this)
  rw [runs_steps hr.1 l.length (Nat.le_refl _)] at this
  exact this
end Go.Proofs.YthdkbokdikhojaaGreatDoor
