/- Texts in small and in capital letters, rune by rune, and what is left of them without sequences: plain Lean. No conditions. -/
import Derived.Test.YtmllpoafjcldgaaDoorSjB
import Derived.Lib.MapLaws
namespace Go.Proofs.YtmllpoafjcldgaaDoor
open Go.Lib (encodeRune decodeL decodeN mapD toLowerU toUpperU toR caseA caseT CaseRow lookupIdx lookupGo convertR)
set_option linter.unusedVariables false
theorem u8n (x : Nat) (h : x < 256) : (UInt8.ofNat x).toNat = x := by simp; omega
theorem z8 (z : Int) (m : Nat) (h : z = m) : z.toNat.toUInt8 = UInt8.ofNat m := by subst h; rfl
theorem rn_valid (r : Nat) (h : r < 55296 ∨ (57344 ≤ r ∧ r ≤ 1114111)) : Rn r := by
  by_cases h1 : r < 128
  · exact (rn_ascii h1).1
  · by_cases h2 : r < 2048
    · have e : encodeRune (r : Int) = [UInt8.ofNat (192 + r / 64), UInt8.ofNat (128 + r % 64)] := by
        unfold encodeRune; rw [Lib.encodeRuneZ_two (by omega) (by omega)]
        simp only [List.map_cons, List.map_nil]
        rw [z8 _ (192 + r / 64) (by omega), z8 _ (128 + r % 64) (by omega)]
      refine ⟨by rw [e]; simp, fun rest => ?_⟩
      rw [e, Lib.decodeL_N]
      simp only [List.cons_append, List.nil_append, List.getD_cons_zero, List.getD_cons_succ, List.length_cons]
      rw [u8n _ (by omega), u8n _ (by omega)]
      unfold decodeN
      rw [if_neg (by omega), if_pos ⟨by omega, by omega, by omega⟩, if_pos (by omega)]
      simp; omega
    · by_cases h3 : r < 65536
      · have e : encodeRune (r : Int) = [UInt8.ofNat (224 + r / 4096), UInt8.ofNat (128 + r / 64 % 64), UInt8.ofNat (128 + r % 64)] := by
          unfold encodeRune; rw [Lib.encodeRuneZ_three (by omega)]
          simp only [List.map_cons, List.map_nil]
          rw [z8 _ (224 + r / 4096) (by omega), z8 _ (128 + r / 64 % 64) (by omega), z8 _ (128 + r % 64) (by omega)]
        refine ⟨by rw [e]; simp, fun rest => ?_⟩
        rw [e, Lib.decodeL_N]
        simp only [List.cons_append, List.nil_append, List.getD_cons_zero, List.getD_cons_succ, List.length_cons]
        rw [u8n _ (by omega), u8n _ (by omega), u8n _ (by omega)]
        unfold decodeN
        rw [if_neg (by omega), if_neg (by omega), if_pos ⟨by omega, ⟨by omega, by omega⟩, by omega, by omega⟩, if_pos ⟨by omega, by omega⟩]
        simp; omega
      · have e : encodeRune (r : Int) = [UInt8.ofNat (240 + r / 262144), UInt8.ofNat (128 + r / 4096 % 64), UInt8.ofNat (128 + r / 64 % 64), UInt8.ofNat (128 + r % 64)] := by
          unfold encodeRune; rw [Lib.encodeRuneZ_four (by omega) (by omega)]
          simp only [List.map_cons, List.map_nil]
          rw [z8 _ (240 + r / 262144) (by omega), z8 _ (128 + r / 4096 % 64) (by omega), z8 _ (128 + r / 64 % 64) (by omega), z8 _ (128 + r % 64) (by omega)]
        refine ⟨by rw [e]; simp, fun rest => ?_⟩
        rw [e, Lib.decodeL_N]
        simp only [List.cons_append, List.nil_append, List.getD_cons_zero, List.getD_cons_succ, List.length_cons]
        rw [u8n _ (by omega), u8n _ (by omega), u8n _ (by omega), u8n _ (by omega)]
        unfold decodeN
        rw [if_neg (by omega), if_neg (by omega), if_neg (by omega), if_pos ⟨by omega, ⟨by omega, by omega⟩, ⟨by omega, by omega⟩, by omega, by omega⟩, if_pos ⟨by omega, by omega⟩]
        simp; omega
/-- The rune that is written for z. -/
def norm (z : Int) : Nat := if (0 ≤ z ∧ z < 55296) ∨ (57344 ≤ z ∧ z ≤ 1114111) then z.toNat else 65533
theorem norm_rn (z : Int) : Rn (norm z) := by
  unfold norm
  split
  · exact rn_valid _ (by omega)
  · exact rn_valid _ (by omega)
theorem norm_enc (z : Int) : encodeRune (norm z : Int) = encodeRune z := by
  unfold norm
  split
  · rename_i h; rw [Int.toNat_of_nonneg (by omega)]
  · unfold encodeRune
    rw [Lib.encodeRuneZ_bad (r := z) (by omega)]; rfl
theorem norm_27 {z : Int} (h : norm z = 27) : z = 27 := by
  unfold norm at h
  split at h
  · omega
  · omega
theorem look_ok (T : Array CaseRow) (r : Int) : ∀ (f lo hi i : Nat), lookupIdx T r f lo hi = some i → i < hi ∧ ((T.getD i (0, 0, 0, 0, 0)).1 : Int) ≤ r ∧ r ≤ ((T.getD i (0, 0, 0, 0, 0)).2.1 : Int)
  | 0, lo, hi, i, h => by simp [lookupIdx] at h
  | f + 1, lo, hi, i, h => by
    rw [lookupIdx] at h
    split at h
    · rename_i hlt
      split at h
      · rename_i hin
        injection h with h
        subst h
        exact ⟨by omega, hin.1, hin.2⟩
      · split at h
        · obtain ⟨a, b, c⟩ := look_ok T r f _ _ i h
          exact ⟨by omega, b, c⟩
        · exact look_ok T r f _ _ i h
    · cases h
theorem case_check : (caseT.all fun x => ([0, 1] : List Nat).all fun c => if CaseRow.delta x c > 1114111 then decide (28 ≤ x.1) else decide (28 ≤ (x.1 : Int) + CaseRow.delta x c)) = true := by decide +kernel
theorem toR_lo (c : Nat) (hc : c = 0 ∨ c = 1) (r : Int) (hr : 28 ≤ r) : 28 ≤ toR caseA c r := by
  unfold toR lookupGo
  cases hl : lookupIdx caseA r (caseA.size + 1) 0 caseA.size with
  | none => exact hr
  | some i =>
    obtain ⟨h1, h2, h3⟩ := look_ok caseA r _ _ _ i hl
    show 28 ≤ convertR c r (caseA.getD i (0, 0, 0, 0, 0))
    have hm : caseA.getD i (0, 0, 0, 0, 0) ∈ caseT := by
      have : caseA.getD i (0, 0, 0, 0, 0) = caseA[i] := by simp [Array.getD, h1]
      rw [this]
      have := Array.getElem_mem (xs := caseA) h1
      exact List.mem_toArray.1 this
    have hk := List.all_eq_true.1 (List.all_eq_true.1 case_check _ hm) c (by rcases hc with rfl | rfl <;> simp)
    generalize caseA.getD i (0, 0, 0, 0, 0) = x at *
    unfold convertR
    split at hk
    · rename_i hd
      rw [if_pos hd]
      have := of_decide_eq_true hk
      omega
    · rename_i hd
      rw [if_neg hd]
      have := of_decide_eq_true hk
      omega
theorem low_facts (r : Nat) : 0 ≤ toLowerU r ∧ (toLowerU r = 27 → r = 27) := by
  unfold toLowerU
  split
  · split
    · exact ⟨by omega, by omega⟩
    · exact ⟨by omega, by omega⟩
  · have := toR_lo 1 (.inr rfl) r (by omega)
    exact ⟨by omega, by omega⟩
theorem up_facts (r : Nat) : 0 ≤ toUpperU r ∧ (toUpperU r = 27 → r = 27) := by
  unfold toUpperU
  split
  · split
    · exact ⟨by omega, by omega⟩
    · exact ⟨by omega, by omega⟩
  · have := toR_lo 0 (.inl rfl) r (by omega)
    exact ⟨by omega, by omega⟩
def lowN (r : Nat) : Nat := norm (toLowerU r)
def upN (r : Nat) : Nat := norm (toUpperU r)
theorem lowN_27 {r : Nat} (h : lowN r = 27) : r = 27 := (low_facts r).2 (norm_27 h)
theorem upN_27 {r : Nat} (h : upN r = 27) : r = 27 := (up_facts r).2 (norm_27 h)
theorem lowN_fix {r : Nat} (h : r < 128) (h2 : ¬ (65 ≤ r ∧ r ≤ 90)) : lowN r = r := by
  unfold lowN toLowerU
  rw [if_pos (by omega), if_neg (by omega)]
  unfold norm
  rw [if_pos (by omega)]; simp
theorem mapD_enc (f : Int → Int) : ∀ T : List Nat, (∀ r ∈ T, Rn r) → (∀ r ∈ T, 0 ≤ f (r : Int)) → mapD f (enc T) = enc (T.map fun (r : Nat) => norm (f (r : Int)))
  | [], _, _ => rfl
  | r :: T, h, hf => by
    have hR := h r (by simp)
    have hne : enc (r :: T) ≠ [] := by rw [enc_cons]; intro e; exact hR.1 (List.append_eq_nil_iff.1 e).1
    rw [Lib.mapD_step f _ hne, enc_cons, hR.2]
    simp only
    rw [if_pos (hf r (by simp)), List.drop_left, mapD_enc f T (fun x hx => h x (by simp [hx])) (fun x hx => hf x (by simp [hx])), List.map_cons, enc_cons, norm_enc]
/-- In sequences f changes nothing. -/
def okF (f : Nat → Nat) : Bool → List Nat → Prop
  | _, [] => True
  | e, r :: T => ((e || r == 27) = true → f r = r) ∧ okF f (nx e r) T
theorem okF_app (f : Nat → Nat) : ∀ (A B : List Nat) (e : Bool), okF f e A → okF f (fin e A) B → okF f e (A ++ B)
  | [], B, e, _, h => h
  | r :: A, B, e, h, h2 => ⟨h.1, okF_app f A B _ h.2 h2⟩
theorem okF_text (f : Nat → Nat) : ∀ T : List Nat, (∀ r ∈ T, r ≠ 27) → okF f false T
  | [], _ => trivial
  | r :: T, h => by
    have h27 : (r == 27) = false := by rw [beq_eq_false_iff_ne]; exact h r (by simp)
    refine ⟨by simp [h27], ?_⟩
    have : nx false r = false := by simp [nx, h27]
    rw [this]
    exact okF_text f T (fun x hx => h x (by simp [hx]))
theorem okF_fix (f : Nat → Nat) : ∀ (T : List Nat) (e : Bool), (∀ r ∈ T, f r = r) → okF f e T
  | [], _, _ => trivial
  | r :: T, e, h => ⟨fun _ => h r (by simp), okF_fix f T _ (fun x hx => h x (by simp [hx]))⟩
theorem stR_map (f : Nat → Nat) (hf : ∀ r, f r = 27 → r = 27) : ∀ (T : List Nat) (e : Bool), okF f e T → stR e (T.map f) = (stR e T).map f
  | [], e, _ => rfl
  | r :: T, e, h => by
    by_cases he : (e || r == 27) = true
    · have hr := h.1 he
      rw [List.map_cons, hr, stR, stR, if_pos he, stR_map f hf T _ h.2]
      simp
    · have he2 : e = false := by cases e <;> simp_all
      subst he2
      have h27 : (r == 27) = false := by simpa using he
      have hn : (f r == 27) = false := by
        rw [beq_eq_false_iff_ne] at h27 ⊢
        exact fun e => h27 (hf r e)
      have n1 : nx false r = false := by simp [nx, h27]
      have n2 : nx false (f r) = false := by simp [nx, hn]
      have ho := h.2
      rw [n1] at ho
      rw [List.map_cons, stR, stR, n1, n2, stR_map f hf T false ho]
      simp [h27, hn]
/-- In capitals, sequences apart. -/
def upT : Bool → List Nat → List Nat
  | _, [] => []
  | e, r :: T => (if (e || r == 27) = true then r else upN r) :: upT (nx e r) T
theorem stR_up : ∀ (T : List Nat) (e : Bool), stR e (upT e T) = (stR e T).map upN
  | [], e => rfl
  | r :: T, e => by
    by_cases he : (e || r == 27) = true
    · rw [upT, if_pos he, stR, stR, if_pos he, stR_up T]
      simp
    · have he2 : e = false := by cases e <;> simp_all
      subst he2
      have h27 : (r == 27) = false := by simpa using he
      have hn : (upN r == 27) = false := by
        rw [beq_eq_false_iff_ne] at h27 ⊢
        exact fun e => h27 (upN_27 e)
      have n1 : nx false r = false := by simp [nx, h27]
      have n2 : nx false (upN r) = false := by simp [nx, hn]
      rw [upT, if_neg he, stR, stR, n1, n2, stR_up T false]
      simp [h27, hn]
theorem stR_no27 : ∀ (T : List Nat) (e : Bool), ∀ r ∈ stR e T, r ≠ 27
  | [], e, r, h => by cases h
  | x :: T, e, r, h => by
    rw [stR] at h
    rcases List.mem_append.1 h with h | h
    · split at h
      · cases h
      · rename_i hx
        simp at h hx
        subst h
        exact hx.2
    · exact stR_no27 T _ r h
theorem upT_text : ∀ T : List Nat, (∀ r ∈ T, r ≠ 27) → upT false T = T.map upN
  | [], _ => rfl
  | r :: T, h => by
    have h27 : (r == 27) = false := by rw [beq_eq_false_iff_ne]; exact h r (by simp)
    have n1 : nx false r = false := by simp [nx, h27]
    rw [upT, n1, upT_text T (fun x hx => h x (by simp [hx]))]
    simp [h27]
theorem strip_up (T : List Nat) : stR false (upT false T) = upT false (stR false T) := by
  rw [stR_up, upT_text _ (stR_no27 T false)]
theorem strip_low (T : List Nat) (h : okF lowN false T) : stR false (T.map lowN) = (stR false T).map lowN := stR_map lowN (fun r => lowN_27) T false h
theorem upT_rn : ∀ (T : List Nat) (e : Bool), (∀ r ∈ T, Rn r) → ∀ r ∈ upT e T, Rn r
  | [], e, _, r, h => by cases h
  | x :: T, e, hT, r, h => by
    rw [upT] at h
    rcases List.mem_cons.1 h with rfl | h
    · split
      · exact hT x (by simp)
      · exact norm_rn _
    · exact upT_rn T _ (fun y hy => hT y (by simp [hy])) r h
theorem upT_app : ∀ (A B : List Nat) (e : Bool), upT e (A ++ B) = upT e A ++ upT (fin e A) B
  | [], B, e => rfl
  | r :: A, B, e => by rw [List.cons_append, upT, upT, fin, upT_app A B]; rfl
def outU (e : Bool) (r : Nat) : Int := if (e || r == 27) = true then (r : Int) else toUpperU r
theorem enc_out (e : Bool) (r : Nat) : enc (upT e [r]) = encodeRune (outU e r) := by
  rw [upT, upT, enc_cons]
  unfold outU
  split
  · simp [enc]
  · rw [show (upN r : Int) = (norm (toUpperU r) : Int) from rfl, norm_enc]; simp [enc]
theorem outU_bd (e : Bool) (r : Nat) (h : r ≤ 1114111) : 0 ≤ outU e r ∧ outU e r ≤ 2147483647 := by
  unfold outU
  split
  · omega
  · refine ⟨(up_facts r).1, ?_⟩
    unfold toUpperU
    split
    · split <;> omega
    · unfold toR lookupGo
      cases hl : lookupIdx caseA r (caseA.size + 1) 0 caseA.size with
      | none => show (r : Int) ≤ _; omega
      | some i =>
        obtain ⟨h1, h2, h3⟩ := look_ok caseA r _ _ _ i hl
        show convertR 0 r (caseA.getD i (0, 0, 0, 0, 0)) ≤ _
        generalize caseA.getD i (0, 0, 0, 0, 0) = x at *
        unfold convertR
        split <;> omega
theorem stR_rn : ∀ (T : List Nat) (e : Bool), (∀ r ∈ T, Rn r) → ∀ r ∈ stR e T, Rn r
  | [], e, _, r, h => by cases h
  | x :: T, e, hT, r, h => by
    rw [stR] at h
    rcases List.mem_append.1 h with h | h
    · split at h
      · cases h
      · simp at h; subst h; exact hT _ (by simp)
    · exact stR_rn T _ (fun y hy => hT y (by simp [hy])) r h
theorem enc_rn_len (r : Nat) : (encodeRune (r : Int)).length ≤ 4 := by
  unfold encodeRune
  rw [List.length_map]
  exact (Lib.encodeRuneZ_length (r : Int)).2
theorem enc_len (T : List Nat) : (enc T).length ≤ 4 * T.length := by
  induction T with
  | nil => simp [enc]
  | cons r T ih => rw [enc_cons, List.length_append, List.length_cons]; have := enc_rn_len r; omega
theorem enc_len_lo (T : List Nat) (h : ∀ r ∈ T, Rn r) : T.length ≤ (enc T).length := by
  induction T with
  | nil => simp
  | cons r T ih =>
    rw [enc_cons, List.length_append, List.length_cons]
    have := List.length_pos_iff.2 (h r (by simp)).1
    have := ih (fun x hx => h x (by simp [hx]))
    omega
theorem upT_len : ∀ (T : List Nat) (e : Bool), (upT e T).length = T.length
  | [], e => rfl
  | r :: T, e => by rw [upT, List.length_cons, List.length_cons, upT_len T]
theorem simp_T2 (lines : Bool) (s : ByteArray) : ∀ f pos, simpF lines s f pos = true → s.size ≤ pos + f → ∃ T, s.data.toList.drop pos = enc T ∧ ∀ r ∈ T, Rn r ∧ r ≠ 27 ∧ r ≠ 65533
  | 0, pos, _, hs => ⟨[], by rw [List.drop_eq_nil_of_le (by rw [← Lib.size_eq]; omega)]; rfl, fun r hr => by cases hr⟩
  | f + 1, pos, h, hs => by
    by_cases hp : pos < s.size
    · rw [simpF, if_pos hp, Bool.and_eq_true] at h
      obtain ⟨h1, h2⟩ := h
      have hw := Lib.decode_width_pos s pos hp
      obtain ⟨T, hT, hr⟩ := simp_T2 lines s f _ h2 (by omega)
      rw [decode_drop] at h1 hT
      have hne : s.data.toList.drop pos ≠ [] := by
        intro e; have := congrArg List.length e; rw [List.length_drop, ← Lib.size_eq] at this; simp at this; omega
      have hk : (decodeL (s.data.toList.drop pos)).1 ≠ 65533 ∧ (decodeL (s.data.toList.drop pos)).1 ≠ 27 := by
        generalize (decodeL (s.data.toList.drop pos)).1 = r at h1
        constructor
        · intro e; subst e; revert h1; cases lines <;> decide
        · intro e; subst e; revert h1; cases lines <;> decide
      obtain ⟨hR, hE⟩ := rn_of _ hne (fun x => hk.1 x.1)
      refine ⟨(decodeL (s.data.toList.drop pos)).1 :: T, ?_, fun r hm => ?_⟩
      · rw [enc_cons, hE, ← hT, ← List.drop_drop, List.take_append_drop]
      · rcases List.mem_cons.1 hm with rfl | hm
        · exact ⟨hR, hk.2, hk.1⟩
        · exact hr r hm
    · exact ⟨[], by rw [List.drop_eq_nil_of_le (by rw [← Lib.size_eq]; omega)]; rfl, fun r hr => by cases hr⟩
/-- A text of pieces, as runes. -/
def OkL (l : List UInt8) : Prop := ∃ T, l = enc T ∧ (∀ r ∈ T, Rn r ∧ r ≠ 65533) ∧ fin false T = false ∧ okF lowN false T
theorem OkL.nil : OkL [] := ⟨[], rfl, (fun r hr => by cases hr), rfl, trivial⟩
theorem OkL.app {a b : List UInt8} (ha : OkL a) (hb : OkL b) : OkL (a ++ b) := by
  obtain ⟨A, rfl, a1, a2, a3⟩ := ha
  obtain ⟨B, rfl, b1, b2, b3⟩ := hb
  refine ⟨A ++ B, by rw [enc_app], fun r hr => (List.mem_append.1 hr).elim (a1 r) (b1 r), by rw [fin_app, a2, b2], okF_app lowN A B false a3 (by rw [a2]; exact b3)⟩
theorem OkL.text {lines : Bool} {s : ByteArray} (h : simp lines s = true) : OkL s.data.toList := by
  obtain ⟨T, hT, hr⟩ := simp_T2 lines s s.size 0 h (by omega)
  rw [List.drop_zero] at hT
  exact ⟨T, hT, fun r hm => ⟨(hr r hm).1, (hr r hm).2.2⟩, fin_no27 T (fun r hm => (hr r hm).2.1), okF_text lowN T (fun r hm => (hr r hm).2.1)⟩
def DMid (X : List UInt8) : Prop := ∀ c ∈ X, (48 ≤ c.toNat ∧ c.toNat ≤ 57) ∨ c.toNat = 59 ∨ c.toNat = 91
theorem itoa_dmid (n : Nat) (h : n ≤ 107) : DMid (Lib.itoa (n : Int)) := by
  have key : ∀ n : Fin 108, ((Lib.itoa ((n.val : Nat) : Int)).all fun c => decide (48 ≤ c.toNat) && decide (c.toNat ≤ 57)) = true := by decide +kernel
  have k1 := key ⟨n, by omega⟩
  intro c hc
  have := List.all_eq_true.1 k1 c hc
  left
  simpa using this
theorem mid_dmid (zs : List Int) : ∀ n, (∀ i, i < n → 0 ≤ zs.getD i 0 ∧ zs.getD i 0 ≤ 107) → DMid (mid zs n)
  | 0, _ => fun c hc => by cases hc
  | n + 1, h => by
    have h1 := mid_dmid zs n (fun i hi => h i (by omega))
    have hz := h n (by omega)
    obtain ⟨m, hm⟩ : ∃ m : Nat, zs.getD n 0 = m := ⟨(zs.getD n 0).toNat, by omega⟩
    have h3 := itoa_dmid m (by omega)
    rw [mid, hm]
    intro c hc
    rcases List.mem_append.1 hc with hc | hc
    · rcases List.mem_append.1 hc with hc | hc
      · exact h1 c hc
      · split at hc
        · cases hc
        · simp at hc; subst hc; right; left; decide
    · exact h3 c hc
theorem OkL.seq {X : List UInt8} (h : DMid X) : OkL (27 :: X ++ [109]) := by
  have ha : ∀ c ∈ (27 :: X ++ [109] : List UInt8), c.toNat < 128 ∧ ¬ (65 ≤ c.toNat ∧ c.toNat ≤ 90) ∨ c.toNat = 91 := by
    intro c hc
    simp only [List.mem_append, List.mem_cons, List.not_mem_nil, or_false] at hc
    rcases hc with (rfl | hc) | rfl
    · left; decide
    · rcases h c hc with h | h | h <;> omega
    · left; decide
  obtain ⟨e1, e2⟩ := enc_ascii_l (27 :: X ++ [109]) (fun c hc => by rcases ha c hc with h | h <;> omega)
  refine ⟨_, e1, fun r hr => ⟨e2 r hr, by obtain ⟨c, hc, rfl⟩ := List.mem_map.1 hr; rcases ha c hc with h | h <;> omega⟩, ?_, okF_fix lowN _ _ (fun r hr => ?_)⟩
  · simp only [List.map_append, List.map_cons, List.map_nil, List.cons_append]
    show fin (nx false (UInt8.toNat 27)) _ = false
    have n1 : nx false (UInt8.toNat 27) = true := by decide
    rw [n1, fin_app, fin_no109 _ (fun r hr => by obtain ⟨c, hc, rfl⟩ := List.mem_map.1 hr; rcases h c hc with h | h | h <;> omega)]
    rfl
  · obtain ⟨c, hc, rfl⟩ := List.mem_map.1 hr
    rcases ha c hc with h | h
    · exact lowN_fix h.1 h.2
    · exact lowN_fix (by omega) (by omega)
theorem seq_okL {x : Pc} (h : GoodP x) : OkL (seqOf x) := by
  unfold seqOf
  split
  · exact OkL.nil
  · refine OkL.seq (X := 91 :: mid x.zs x.n) (fun c hc => ?_)
    rcases List.mem_cons.1 hc with rfl | hc
    · right; right; decide
    · exact mid_dmid x.zs x.n h.2.2.2 c hc
theorem written_okL (l : List Pc) : ∀ n, GoodTo l n → OkL (written l n)
  | 0, _ => OkL.nil
  | n + 1, h => (written_okL l n (fun j hj => h j (by omega))).app ((seq_okL (h n (by omega))).app (OkL.text (h n (by omega)).2.1))
end Go.Proofs.YtmllpoafjcldgaaDoor
