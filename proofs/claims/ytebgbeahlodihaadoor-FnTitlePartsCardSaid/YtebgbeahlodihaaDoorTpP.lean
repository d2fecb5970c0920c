/- Words joined by one sign each, and their title, in plain Lean. No conditions. -/
import Derived.Test.YtebgbeahlodihaaDoorTiP
namespace Go.Proofs.YtebgbeahlodihaaDoor
set_option linter.unusedVariables false
def letter (c : UInt8) : Prop := 65 ≤ c.toNat ∧ c.toNat ≤ 90 ∨ 97 ≤ c.toNat ∧ c.toNat ≤ 122
def letters (w : List UInt8) : Prop := ∀ c ∈ w, letter c
def sgn (c : UInt8) : Prop := c = 32 ∨ c = 95 ∨ c = 46
theorem letter_plain {p q : Option UInt8} {c : UInt8} (h : letter c) : mk1 p c q = c := by
  unfold mk1
  rw [if_neg (fun e => by subst e; revert h; unfold letter; decide), if_neg (fun e => by subst e; revert h; unfold letter; decide)]
theorem letter_nd {c : UInt8} (h : letter c) : nd c = true := by
  unfold letter at h; unfold nd; simp; omega
theorem sgn_turn {c x : UInt8} {q : Option UInt8} (h : sgn c) (hx : letter x) : mk1 (some x) c q = 32 := by
  rcases h with rfl | rfl | rfl
  · unfold mk1; rw [if_neg (by decide), if_neg (by decide)]
  · unfold mk1; rw [if_pos rfl]
  · unfold mk1; rw [if_neg (by decide), if_pos rfl, show ndO (some x) = true from letter_nd hx]; rfl
theorem mt_word : ∀ (w : List UInt8), letters w → w ≠ [] → ∀ p, ∃ y, letter y ∧ w.getLast? = some y ∧ ∀ r, mt p (w ++ r) = w ++ mt (some y) r
  | [], _, h, _ => absurd rfl h
  | [c], h, _, p => ⟨c, h c (by simp), rfl, fun r => by
      show mk1 p c r.head? :: mt (some (mk1 p c r.head?)) r = _
      rw [letter_plain (h c (by simp))]; rfl⟩
  | c :: d :: w, h, _, p => by
    obtain ⟨y, hy, hl, hr⟩ := mt_word (d :: w) (fun x hx => h x (List.mem_cons_of_mem _ hx)) (by simp) (some c)
    refine ⟨y, hy, by rw [List.getLast?_cons_cons]; exact hl, fun r => ?_⟩
    show mk1 p c ((d :: w) ++ r).head? :: mt (some (mk1 p c ((d :: w) ++ r).head?)) ((d :: w) ++ r) = _
    rw [letter_plain (h c (by simp)), hr r]; rfl
def J32 : List (List UInt8) → List UInt8
  | [] => []
  | w :: ws => w ++ ws.flatMap (fun v => 32 :: v)
theorem J32_snoc (a : List (List UInt8)) (w : List UInt8) (h : a ≠ []) : J32 (a ++ [w]) = J32 a ++ 32 :: w := by
  cases a with
  | nil => exact absurd rfl h
  | cons x xs => simp [J32]
theorem J32_one (w : List UInt8) : J32 [w] = w := by simp [J32]
def Jd (ws : List (List UInt8)) (a : List UInt8) : Prop :=
  asc a ∧ J32 ws ≠ [] ∧ (∀ c, (J32 ws).head? = some c → letter c) ∧ (∀ c, (J32 ws).getLast? = some c → letter c) ∧ ∃ x, letter x ∧ ∀ r, mt none (a ++ r) = J32 ws ++ mt (some x) r
theorem letter_asc {c : UInt8} (h : letter c) : c.toNat < 128 := by unfold letter at h; omega
theorem Jd_one {w : List UInt8} (hw : letters w) (h0 : w ≠ []) : Jd [w] w := by
  obtain ⟨y, hy, hl, hr⟩ := mt_word w hw h0 none
  rw [Jd, J32_one]
  refine ⟨fun c hc => letter_asc (hw c hc), h0, fun c hc => ?_, fun c hc => ?_, y, hy, hr⟩
  · exact hw c (List.mem_of_mem_head? (by rw [hc]; simp))
  · exact hw c (List.mem_of_getLast? hc)
theorem Jd_snoc {ws : List (List UInt8)} {a w : List UInt8} {c : UInt8} (h : Jd ws a) (hc : sgn c) (hw : letters w) (h0 : w ≠ []) (hws : ws ≠ []) : Jd (ws ++ [w]) (a ++ [c] ++ w) := by
  obtain ⟨ha, hn, h1, h2, x, hx, hr⟩ := h
  obtain ⟨y, hy, hl, hr2⟩ := mt_word w hw h0 (some 32)
  have hsa : c.toNat < 128 := by rcases hc with rfl | rfl | rfl <;> decide
  rw [Jd, J32_snoc ws w hws]
  refine ⟨?_, by simp, ?_, ?_, y, hy, ?_⟩
  · intro d hd
    rcases List.mem_append.1 hd with hd | hd
    · rcases List.mem_append.1 hd with hd | hd
      · exact ha d hd
      · simp at hd; subst hd; exact hsa
    · exact letter_asc (hw d hd)
  · intro d hd
    rw [List.head?_append] at hd
    cases he : (J32 ws).head? with
    | none => simp at he; exact absurd he hn
    | some z => rw [he] at hd; simp at hd; subst hd; exact h1 _ he
  · intro d hd
    have e : (J32 ws ++ 32 :: w).getLast? = some y := by rw [List.getLast?_append, List.getLast?_cons, hl]; simp
    rw [e] at hd; cases hd; exact hy
  · intro r
    rw [List.append_assoc, List.append_assoc, hr]
    show J32 ws ++ (mk1 (some x) c (w ++ r).head? :: mt (some (mk1 (some x) c (w ++ r).head?)) (w ++ r)) = _
    rw [sgn_turn hc hx, hr2 r]; simp
theorem letter_sp {c : UInt8} (h : letter c) : Lib.isSp c = false := by
  have : ∀ c : Fin 256, (65 ≤ c.val ∧ c.val ≤ 90 ∨ 97 ≤ c.val ∧ c.val ≤ 122) → Lib.isSp (UInt8.ofNat c.val) = false := by decide +kernel
  have hb := c.toNat_lt
  have e := this ⟨c.toNat, hb⟩ h
  simpa using e
theorem Jd_mt {ws : List (List UInt8)} {a : List UInt8} (h : Jd ws a) : mt none a = J32 ws := by
  obtain ⟨_, _, _, _, x, _, hr⟩ := h
  have := hr []
  simpa [mt] using this
theorem Jd_trim {ws : List (List UInt8)} {a : List UInt8} (h : Jd ws a) : Lib.trimSpace (mt none a) = mt none a := by
  rw [Jd_mt h]
  exact trim_same _ (fun c hc => letter_sp (h.2.2.1 c hc)) (fun c hc => letter_sp (h.2.2.2.1 c hc))
theorem Jd_ne {ws : List (List UInt8)} {a : List UInt8} (h : Jd ws a) : a ≠ [] := fun e => by
  have h1 := Jd_mt h
  subst e
  exact h.2.1 (by rw [← h1]; rfl)
theorem J32_up (ws : List (List UInt8)) : Lib.toUpperA (J32 ws) = J32 (ws.map Lib.toUpperA) := by
  cases ws with
  | nil => rfl
  | cons w ws =>
    have h32 : Lib.upperB 32 = 32 := by decide
    simp only [J32, Lib.toUpperA, List.map_append, List.map_cons, List.append_cancel_left_eq]
    induction ws with
    | nil => rfl
    | cons v vs ih => simp only [List.flatMap_cons, List.map_append, List.map_cons, ih, h32]; rfl
theorem J32_len (ws : List (List UInt8)) (h : ∀ w ∈ ws, w.length ≤ 20) : (J32 ws).length ≤ 21 * ws.length := by
  have key : ∀ l : List (List UInt8), (∀ w ∈ l, w.length ≤ 20) → (l.flatMap (fun v => (32 : UInt8) :: v)).length ≤ 21 * l.length := by
    intro l
    induction l with
    | nil => intro _; simp
    | cons v vs ih =>
      intro hl
      have h1 := hl v (by simp)
      have h2 := ih (fun w hw => hl w (by simp [hw]))
      simp only [List.flatMap_cons, List.length_append, List.length_cons] at h2 ⊢; omega
  cases ws with
  | nil => simp [J32]
  | cons w ws =>
    have h1 := h w (by simp)
    have h2 := key ws (fun v hv => h v (by simp [hv]))
    simp only [J32, List.length_append, List.length_cons]; omega
theorem J32_take (ls : List (List UInt8)) (k : Nat) (h : k < ls.length) : J32 (ls.take (k + 1)) = if k = 0 then ls.getD 0 [] else J32 (ls.take k) ++ [32] ++ ls.getD k [] := by
  rw [List.take_succ_eq_append_getElem h]
  by_cases h0 : k = 0
  · subst h0
    rw [if_pos rfl, List.take_zero, List.nil_append, J32_one]; simp [h]
  · rw [if_neg h0, J32_snoc _ _ (by intro e; have := congrArg List.length e; rw [List.length_take, List.length_nil] at this; omega)]
    simp [h]
end Go.Proofs.YtebgbeahlodihaaDoor
