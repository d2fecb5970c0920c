/- Texts as runes, and what is left of them without escape sequences, in plain Lean. No conditions. -/
import Derived.Test.YtimdmdjkkgdohaaGreatDoorBase
import Derived.Test.YtimdmdjkkgdohaaGreatDoorUni
import Derived.Lib.MapLaws
import Derived.Lib.TrimUEq
import Derived.Lib.RuneBytes
import Derived.Shelf.Strconv.Itoa3
namespace Go.Proofs.YtimdmdjkkgdohaaGreatDoor
open Go.Lib (encodeRune decodeL decodeN)
set_option linter.unusedVariables false
def enc (T : List Nat) : List UInt8 := T.flatMap (fun (r : Nat) => encodeRune (r : Int))
theorem enc_app (A B : List Nat) : enc (A ++ B) = enc A ++ enc B := by simp [enc]
theorem enc_cons (r : Nat) (T : List Nat) : enc (r :: T) = encodeRune (r : Int) ++ enc T := by simp [enc]
/-- A rune whose bytes are read back, whatever stands behind them. -/
def Rn (r : Nat) : Prop := encodeRune (r : Int) ≠ [] ∧ ∀ rest, decodeL (encodeRune (r : Int) ++ rest) = (r, (encodeRune (r : Int)).length)
theorem rn_of (l : List UInt8) (hne : l ≠ []) (hv : ¬ ((decodeL l).1 = 65533 ∧ (decodeL l).2 = 1)) : Rn (decodeL l).1 ∧ encodeRune ((decodeL l).1 : Int) = l.take (decodeL l).2 := by
  have he := Lib.encode_decode l hne hv
  have hn : 0 < l.length := List.length_pos_iff.2 hne
  have hd := Lib.decodeL_N l
  have key : ∀ rest, decodeL (l.take (decodeL l).2 ++ rest) = ((decodeL l).1, (decodeL l).2) ∧ (l.take (decodeL l).2).length = (decodeL l).2 ∧ 1 ≤ (decodeL l).2 := by
    intro rest
    rcases Lib.decodeN_shape l.length (l.getD 0 0).toNat (l.getD 1 0).toNat (l.getD 2 0).toNat (l.getD 3 0).toNat with ⟨h1, h2⟩ | ⟨h1, h2, h3, h4, h5⟩ | ⟨h1, h2, h3, h4, h5, h6, h7⟩ | ⟨h1, h2, h3, h4, h5, h6, h7, h8⟩ | h
    · rw [hd, h2]
      simp only
      rw [Lib.takeA l hn, Lib.decodeL_N]
      refine ⟨?_, rfl, Nat.le_refl _⟩
      exact Lib.decodeN_ascii _ _ _ _ _ h1
    · rw [hd, h5]
      simp only
      rw [Lib.takeB l h2, Lib.decodeL_N]
      refine ⟨?_, rfl, by omega⟩
      show decodeN (rest.length + 1 + 1) (l.getD 0 0).toNat (l.getD 1 0).toNat _ _ = _
      unfold decodeN
      rw [if_neg (by omega), if_pos ⟨h1, by omega, h3⟩, if_pos h4]
    · rw [hd, h7]
      simp only
      rw [Lib.takeC l h2, Lib.decodeL_N]
      refine ⟨?_, rfl, by omega⟩
      show decodeN (rest.length + 1 + 1 + 1) (l.getD 0 0).toNat (l.getD 1 0).toNat (l.getD 2 0).toNat _ = _
      unfold decodeN
      rw [if_neg (by omega), if_neg (by omega), if_pos ⟨h1, ⟨by omega, h3⟩, by omega, h4⟩, if_pos ⟨h5, by omega⟩]
    · rw [hd, h8]
      simp only
      rw [Lib.takeD l h2, Lib.decodeL_N]
      refine ⟨?_, rfl, by omega⟩
      show decodeN (rest.length + 1 + 1 + 1 + 1) (l.getD 0 0).toNat (l.getD 1 0).toNat (l.getD 2 0).toNat (l.getD 3 0).toNat = _
      unfold decodeN
      rw [if_neg (by omega), if_neg (by omega), if_neg (by omega), if_pos ⟨h1, ⟨by omega, h3⟩, ⟨by omega, h4⟩, by omega, h5⟩, if_pos ⟨h6, by omega⟩]
    · exfalso; apply hv; rw [hd, h]; exact ⟨rfl, rfl⟩
  refine ⟨⟨?_, fun rest => ?_⟩, he⟩
  · rw [he]; intro e
    have k := key []
    rw [e] at k; simp at k; omega
  · rw [he, (key rest).2.1]; exact (key rest).1
theorem decode_drop (s : ByteArray) (pos : Nat) : Utf8.decode s pos = decodeL (s.data.toList.drop pos) := by
  rw [Lib.decode_N, Lib.decodeL_N, List.length_drop]
  simp only [List.getD_eq_getElem?_getD, List.getElem?_drop, Nat.add_zero]
theorem rn_ascii {c : Nat} (h : c < 128) : Rn c ∧ encodeRune (c : Int) = [UInt8.ofNat c] := by
  have h0 : (0 : Int) ≤ (c : Int) := by omega
  have h1 : (c : Int) ≤ 127 := by omega
  have e : encodeRune (c : Int) = [UInt8.ofNat c] := by
    unfold encodeRune; rw [Lib.encodeRuneZ_one h0 h1]; simp
  refine ⟨⟨by rw [e]; simp, fun rest => ?_⟩, e⟩
  rw [e, Lib.decodeL_N]
  have hc : ((([UInt8.ofNat c] ++ rest).getD 0 0).toNat) = c := by simp; omega
  rw [hc, Lib.decodeN_ascii _ _ _ _ _ h]; rfl
/-- The bytes of ASCII are their own runes. -/
theorem enc_ascii_l (q : List UInt8) (h : ∀ c ∈ q, c.toNat < 128) : q = enc (q.map UInt8.toNat) ∧ ∀ r ∈ q.map UInt8.toNat, Rn r := by
  constructor
  · induction q with
    | nil => rfl
    | cons c q ih =>
      rw [List.map_cons, enc_cons, (rn_ascii (h c (by simp))).2, ← ih (fun d hd => h d (by simp [hd]))]; simp
  · intro r hr
    obtain ⟨c, hc, rfl⟩ := List.mem_map.1 hr
    exact (rn_ascii (h c hc)).1
def nx (e : Bool) (r : Nat) : Bool := (e || r == 27) && r != 109
def stR : Bool → List Nat → List Nat
  | _, [] => []
  | e, r :: T => (if (e || r == 27) = true then [] else [r]) ++ stR (nx e r) T
def fin : Bool → List Nat → Bool
  | e, [] => e
  | e, r :: T => fin (nx e r) T
theorem stR_app : ∀ (A B : List Nat) (e : Bool), stR e (A ++ B) = stR e A ++ stR (fin e A) B
  | [], B, e => rfl
  | r :: A, B, e => by simp [stR, fin, stR_app A B]
theorem fin_app : ∀ (A B : List Nat) (e : Bool), fin e (A ++ B) = fin (fin e A) B
  | [], B, e => rfl
  | r :: A, B, e => by simp [fin, fin_app A B]
/-- What a text is, as runes. -/
def OkS (l : List UInt8) : Prop := ∃ T, l = enc T ∧ (∀ r ∈ T, Rn r) ∧ fin false T = false
theorem OkS.nil : OkS [] := ⟨[], rfl, (fun r hr => by cases hr), rfl⟩
theorem OkS.app {a b : List UInt8} (ha : OkS a) (hb : OkS b) : OkS (a ++ b) := by
  obtain ⟨A, rfl, h1, h2⟩ := ha
  obtain ⟨B, rfl, h3, h4⟩ := hb
  refine ⟨A ++ B, (enc_app A B).symm, fun r hr => ?_, by rw [fin_app, h2, h4]⟩
  rcases List.mem_append.1 hr with h | h
  · exact h1 r h
  · exact h3 r h
theorem fin_no27 : ∀ (T : List Nat), (∀ r ∈ T, r ≠ 27) → fin false T = false
  | [], _ => rfl
  | r :: T, h => by
    have h0 := h r (by simp)
    have e : nx false r = false := by simp [nx, h0]
    rw [fin, e]; exact fin_no27 T (fun x hx => h x (by simp [hx]))
theorem fin_no109 : ∀ (T : List Nat), (∀ r ∈ T, r ≠ 109) → fin true T = true
  | [], _ => rfl
  | r :: T, h => by
    have h0 := h r (by simp)
    have e : nx true r = true := by simp [nx, h0]
    rw [fin, e]; exact fin_no109 T (fun x hx => h x (by simp [hx]))
theorem simp_T (lines : Bool) (s : ByteArray) : ∀ f pos, simpF lines s f pos = true → s.size ≤ pos + f → ∃ T, s.data.toList.drop pos = enc T ∧ ∀ r ∈ T, Rn r ∧ r ≠ 27
  | 0, pos, _, hs => ⟨[], by rw [List.drop_eq_nil_of_le (by rw [← Lib.size_eq]; omega)]; rfl, fun r hr => by cases hr⟩
  | f + 1, pos, h, hs => by
    by_cases hp : pos < s.size
    · rw [simpF, if_pos hp, Bool.and_eq_true] at h
      obtain ⟨h1, h2⟩ := h
      have hw := Lib.decode_width_pos s pos hp
      obtain ⟨T, hT, hr⟩ := simp_T lines s f _ h2 (by omega)
      rw [decode_drop] at h1 hT
      have hne : s.data.toList.drop pos ≠ [] := by
        intro e; have := congrArg List.length e; rw [List.length_drop, ← Lib.size_eq] at this; simp at this; omega
      have hk : (decodeL (s.data.toList.drop pos)).1 ≠ 65533 ∧ (decodeL (s.data.toList.drop pos)).1 ≠ 27 := by
        generalize (decodeL (s.data.toList.drop pos)).1 = r at h1
        constructor
        · intro e; subst e; revert h1; cases lines <;> decide
        · intro e; subst e; revert h1; cases lines <;> decide
      obtain ⟨hR, hE⟩ := rn_of _ hne (fun x => hk.1 x.1)
      refine ⟨(decodeL (s.data.toList.drop pos)).1 :: T, ?_, fun r hm => ?_⟩
      · rw [enc_cons, hE, ← hT, ← List.drop_drop, List.take_append_drop]
      · rcases List.mem_cons.1 hm with rfl | hm
        · exact ⟨hR, hk.2⟩
        · exact hr r hm
    · exact ⟨[], by rw [List.drop_eq_nil_of_le (by rw [← Lib.size_eq]; omega)]; rfl, fun r hr => by cases hr⟩
theorem OkS.text {lines : Bool} {s : ByteArray} (h : simp lines s = true) : OkS s.data.toList := by
  obtain ⟨T, hT, hr⟩ := simp_T lines s s.size 0 h (by omega)
  rw [List.drop_zero] at hT
  exact ⟨T, hT, fun r hm => (hr r hm).1, fin_no27 T (fun r hm => (hr r hm).2)⟩
/-- The bytes between the first two and the last of a sequence. -/
def Mid (X : List UInt8) : Prop := ∀ c ∈ X, c.toNat < 128 ∧ c.toNat ≠ 109
theorem Mid.app {A B : List UInt8} (ha : Mid A) (hb : Mid B) : Mid (A ++ B) := fun c hc => by
  rcases List.mem_append.1 hc with h | h
  · exact ha c h
  · exact hb c h
theorem OkS.seq {X : List UInt8} (h : Mid X) : OkS (27 :: X ++ [109]) := by
  have ha : ∀ c ∈ (27 :: X ++ [109] : List UInt8), c.toNat < 128 := by
    intro c hc
    simp only [List.mem_append, List.mem_cons, List.not_mem_nil, or_false] at hc
    rcases hc with (rfl | hc) | rfl
    · decide
    · exact (h c hc).1
    · decide
  obtain ⟨e1, e2⟩ := enc_ascii_l _ ha
  refine ⟨_, e1, e2, ?_⟩
  simp only [List.map_append, List.map_cons, List.map_nil, List.cons_append]
  show fin (nx false (UInt8.toNat 27)) _ = false
  have n1 : nx false (UInt8.toNat 27) = true := by decide
  rw [n1, fin_app, fin_no109 _ (fun r hr => by obtain ⟨c, hc, rfl⟩ := List.mem_map.1 hr; exact (h c hc).2)]
  rfl
theorem itoa_mid (n : Nat) (h : n ≤ 107) : Mid (Lib.itoa (n : Int)) ∧ (Lib.itoa (n : Int)).length ≤ 3 := by
  have key : ∀ n : Fin 108, ((Lib.itoa ((n.val : Nat) : Int)).all fun c => decide (c.toNat < 128) && decide (c.toNat ≠ 109)) = true ∧ (Lib.itoa ((n.val : Nat) : Int)).length ≤ 3 := by decide +kernel
  obtain ⟨k1, k2⟩ := key ⟨n, by omega⟩
  refine ⟨fun c hc => ?_, k2⟩
  have := List.all_eq_true.1 k1 c hc
  simpa using this
end Go.Proofs.YtimdmdjkkgdohaaGreatDoor
