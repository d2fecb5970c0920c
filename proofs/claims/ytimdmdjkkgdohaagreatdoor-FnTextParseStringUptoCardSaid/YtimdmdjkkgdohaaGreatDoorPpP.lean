/- The parser of escape sequences over good texts, in plain Lean. No conditions. -/
import Derived.Test.YtimdmdjkkgdohaaGreatDoorPsB
namespace Go.Proofs.YtimdmdjkkgdohaaGreatDoor
open Go.Lib (encodeRune decodeL decodeN)
set_option linter.unusedVariables false
/-- A digit or a semicolon. -/
def dgs (c : UInt8) : Prop := (48 ≤ c.toNat ∧ c.toNat ≤ 57) ∨ c.toNat = 59
/-- What the parser knows: the codes that are on (none: no map yet), whether it is within a sequence, the sequence's kind and bytes. -/
structure PS where
  cs : Option (List Int)
  e : Bool
  k : Int
  q : List UInt8
def ins (l : List Int) (c : Int) : List Int := if c = 0 then [] else if c ∈ l then l else l ++ [c]
def insTo (l : List Int) (zs : List Int) : Nat → List Int
  | 0 => l
  | n + 1 => ins (insTo l zs n) (zs.getD n 0)
/-- A code of a good sequence of n codes. -/
def cdB (n : Nat) (c : Int) : Prop := attrB c = true ∨ c = 0 ∧ n ≤ 1
inductive Stp : PS → Nat → PS → Prop
  | out {cs r} : r ≠ 27 → Stp ⟨cs, false, 0, []⟩ r ⟨cs, false, 0, []⟩
  | esc {cs} : Stp ⟨cs, false, 0, []⟩ 27 ⟨cs, true, 0, [27]⟩
  | br {cs} : Stp ⟨cs, true, 0, [27]⟩ 91 ⟨cs, true, 1, [27, 91]⟩
  | mid {cs m c} : dgs c → m.length ≤ 30 → Stp ⟨cs, true, 1, 27 :: 91 :: m⟩ c.toNat ⟨cs, true, 1, 27 :: 91 :: (m ++ [c])⟩
  | fin {cs zs n} : 0 < n → n ≤ 4 → (∀ i, i < n → cdB n (zs.getD i 0)) → Stp ⟨cs, true, 1, 27 :: 91 :: mid zs n⟩ 109 ⟨some (insTo (cs.getD []) zs n), false, 0, []⟩
inductive Runs : PS → List Nat → PS → Prop
  | nil {p} : Runs p [] p
  | cons {p r p1 T p2} : Stp p r p1 → Runs p1 T p2 → Runs p (r :: T) p2
theorem Runs.app {p p1 p2 : PS} {A B : List Nat} (h : Runs p A p1) (k : Runs p1 B p2) : Runs p (A ++ B) p2 := by
  induction h with
  | nil => exact k
  | cons s _ ih => exact .cons s (ih k)
theorem runs_text (cs : Option (List Int)) : ∀ T : List Nat, (∀ r ∈ T, r ≠ 27) → Runs ⟨cs, false, 0, []⟩ T ⟨cs, false, 0, []⟩
  | [], _ => .nil
  | r :: T, h => .cons (.out (h r (by simp))) (runs_text cs T (fun x hx => h x (by simp [hx])))
theorem runs_mid (cs : Option (List Int)) : ∀ (X m : List UInt8), (∀ c ∈ X, dgs c) → (m ++ X).length ≤ 31 → Runs ⟨cs, true, 1, 27 :: 91 :: m⟩ (X.map UInt8.toNat) ⟨cs, true, 1, 27 :: 91 :: (m ++ X)⟩
  | [], m, _, _ => by rw [List.append_nil]; exact .nil
  | c :: X, m, h, hl => by
    have h1 := runs_mid cs X (m ++ [c]) (fun x hx => h x (by simp [hx])) (by simpa using hl)
    rw [List.append_assoc] at h1
    exact .cons (.mid (h c (by simp)) (by simp at hl; omega)) h1
theorem itoa_dgs (n : Nat) (h : n ≤ 107) : (∀ c ∈ Lib.itoa (n : Int), 48 ≤ c.toNat ∧ c.toNat ≤ 57) ∧ 1 ≤ (Lib.itoa (n : Int)).length ∧ (Lib.itoa (n : Int)).length ≤ 3 := by
  have key : ∀ n : Fin 108, ((Lib.itoa ((n.val : Nat) : Int)).all fun c => decide (48 ≤ c.toNat) && decide (c.toNat ≤ 57)) = true ∧ 1 ≤ (Lib.itoa ((n.val : Nat) : Int)).length ∧ (Lib.itoa ((n.val : Nat) : Int)).length ≤ 3 := by decide +kernel
  obtain ⟨k1, k2⟩ := key ⟨n, by omega⟩
  refine ⟨fun c hc => ?_, k2⟩
  have := List.all_eq_true.1 k1 c hc
  simpa using this
theorem cdB_nat {n : Nat} {c : Int} (h : cdB n c) : ∃ m : Nat, c = m ∧ m ≤ 107 := by
  have : 0 ≤ c ∧ c ≤ 107 := by
    rcases h with h | ⟨h, _⟩
    · have := attr_le h; omega
    · omega
  exact ⟨c.toNat, by omega, by omega⟩
theorem mid_dgs (zs : List Int) (N : Nat) : ∀ n, (∀ i, i < n → cdB N (zs.getD i 0)) → (∀ c ∈ mid zs n, dgs c) ∧ (mid zs n).length ≤ 4 * n
  | 0, _ => ⟨(fun c hc => by cases hc), by simp [mid]⟩
  | n + 1, h => by
    obtain ⟨h1, h2⟩ := mid_dgs zs N n (fun i hi => h i (by omega))
    obtain ⟨m, hm, hm2⟩ := cdB_nat (h n (by omega))
    obtain ⟨h3, h4, h5⟩ := itoa_dgs m hm2
    rw [mid, hm]
    refine ⟨fun c hc => ?_, ?_⟩
    · rcases List.mem_append.1 hc with hc | hc
      · rcases List.mem_append.1 hc with hc | hc
        · exact h1 c hc
        · split at hc
          · cases hc
          · simp at hc; subst hc; exact .inr rfl
      · exact .inl (h3 c hc)
    · rw [List.length_append, List.length_append]
      have : (if n = 0 then ([] : List UInt8) else [59]).length ≤ 1 := by split <;> simp
      omega
theorem good_cdB {x : Pc} (h : GoodP x) : ∀ i, i < x.n → cdB x.n (x.zs.getD i 0) := h.2.2.1.2
theorem runs_seq (cs : Option (List Int)) {x : Pc} (h : GoodP x) : ∃ cs', Runs ⟨cs, false, 0, []⟩ ((seqOf x).map UInt8.toNat) ⟨cs', false, 0, []⟩ := by
  unfold seqOf
  split
  · exact ⟨cs, .nil⟩
  · have hd := mid_dgs x.zs x.n x.n (good_cdB h)
    have h4 := h.2.2.1.1
    refine ⟨some (insTo (cs.getD []) x.zs x.n), ?_⟩
    rw [List.cons_append, List.cons_append, List.map_cons, List.map_cons, List.map_append]
    refine .cons .esc (.cons .br (Runs.app (runs_mid cs (mid x.zs x.n) [] hd.1 (by simp; omega)) (.cons (.fin (by omega) h4 (good_cdB h)) .nil)))
/-- A text of pieces: its runes, and what the parser makes of them. -/
theorem written_runs (l : List Pc) : ∀ n, GoodTo l n → ∃ T, written l n = enc T ∧ (∀ r ∈ T, Rn r) ∧ ∃ cs, Runs ⟨none, false, 0, []⟩ T ⟨cs, false, 0, []⟩
  | 0, _ => ⟨[], rfl, (fun r hr => by cases hr), none, .nil⟩
  | n + 1, h => by
    obtain ⟨T, h1, h2, cs, h3⟩ := written_runs l n (fun j hj => h j (by omega))
    have hg := h n (by omega)
    obtain ⟨cs', h4⟩ := runs_seq cs hg
    obtain ⟨X, h5, h6⟩ := simp_T true (pc l n).s _ 0 hg.2.1 (by omega)
    rw [List.drop_zero] at h5
    have ha : ∀ c ∈ seqOf (pc l n), c.toNat < 128 := by
      intro c hc
      unfold seqOf at hc
      split at hc
      · cases hc
      · have hd := (mid_dgs (pc l n).zs (pc l n).n (pc l n).n (good_cdB hg)).1
        simp only [List.cons_append, List.mem_cons, List.mem_append, List.not_mem_nil, or_false] at hc
        rcases hc with rfl | rfl | hc | rfl
        · decide
        · decide
        · have := hd c hc; unfold dgs at this; omega
        · decide
    obtain ⟨h7, h8⟩ := enc_ascii_l _ ha
    refine ⟨T ++ ((seqOf (pc l n)).map UInt8.toNat ++ X), by rw [written, h1, enc_app, enc_app, ← h7, ← h5], fun r hr => ?_, cs', Runs.app h3 (Runs.app h4 (runs_text cs' X (fun r hr => (h6 r hr).2)))⟩
    rcases List.mem_append.1 hr with hr | hr
    · exact h2 r hr
    · rcases List.mem_append.1 hr with hr | hr
      · exact h8 r hr
      · exact (h6 r hr).1
/-- The codes that are on are attributes, each once. -/
def CsOk (l : List Int) : Prop := l.Nodup ∧ ∀ c ∈ l, attrB c = true
theorem CsOk.nil : CsOk [] := ⟨List.nodup_nil, fun c hc => by cases hc⟩
theorem CsOk.ins {l : List Int} (h : CsOk l) {n : Nat} {c : Int} (hc : cdB n c) : CsOk (ins l c) := by
  unfold Go.Proofs.YtimdmdjkkgdohaaGreatDoor.ins
  split
  · exact CsOk.nil
  · rename_i h0
    split
    · exact h
    · rename_i h1
      refine ⟨List.nodup_append.2 ⟨h.1, by simp, fun a ha b hb => ?_⟩, fun d hd => ?_⟩
      · simp at hb; subst hb; intro e; subst e; exact h1 ha
      · rcases List.mem_append.1 hd with hd | hd
        · exact h.2 d hd
        · simp at hd; subst hd
          rcases hc with hc | hc
          · exact hc
          · exact absurd hc.1 h0
theorem CsOk.insTo {l : List Int} (h : CsOk l) {zs : List Int} {N : Nat} : ∀ n, (∀ i, i < n → cdB N (zs.getD i 0)) → CsOk (insTo l zs n)
  | 0, _ => h
  | n + 1, hc => (CsOk.insTo h n (fun i hi => hc i (by omega))).ins (hc n (by omega))
def PsOk (p : PS) : Prop := CsOk (p.cs.getD []) ∧ p.q.length ≤ 40
theorem Stp.ok {p p1 : PS} {r : Nat} (h : Stp p r p1) (hp : PsOk p) : PsOk p1 := by
  cases h with
  | out _ => exact hp
  | esc => exact ⟨hp.1, by simp⟩
  | br => exact ⟨hp.1, by simp⟩
  | mid _ hl => exact ⟨hp.1, by simp; omega⟩
  | fin h1 h2 h3 => exact ⟨hp.1.insTo _ h3, by simp⟩
theorem nd_len : ∀ (m : Nat) (l : List Nat), l.Nodup → (∀ x ∈ l, x < m) → l.length ≤ m
  | 0, l, _, h => by
    cases l with
    | nil => simp
    | cons a l => exact absurd (h a (by simp)) (by omega)
  | m + 1, l, hn, h => by
    by_cases hm : m ∈ l
    · have h1 := nd_len m (l.erase m) (hn.erase m) (fun x hx => by
        have h2 := (List.Nodup.mem_erase_iff hn).1 hx
        have := h x h2.2
        have := h2.1
        omega)
      rw [List.length_erase_of_mem hm] at h1
      omega
    · exact Nat.le_succ_of_le (nd_len m l hn (fun x hx => by
        have := h x hx
        have : x ≠ m := fun e => hm (by rw [← e]; exact hx)
        omega))
theorem CsOk.len {l : List Int} (h : CsOk l) : l.length ≤ 108 := by
  have hr : ∀ c ∈ l, 1 ≤ c ∧ c ≤ 107 := fun c hc => attr_le (h.2 c hc)
  have h1 := nd_len 108 (l.map Int.toNat) ?_ (fun x hx => by
    obtain ⟨c, hc, rfl⟩ := List.mem_map.1 hx
    have := hr c hc
    omega)
  · simpa using h1
  · rw [List.nodup_iff_pairwise_ne, List.pairwise_map]
    refine List.Pairwise.imp_of_mem ?_ (List.nodup_iff_pairwise_ne.1 h.1)
    intro a b ha hb hab e
    have := hr a ha
    have := hr b hb
    exact hab (by omega)
theorem sorted_uniq : ∀ (a b : List Int), a.Pairwise (· ≤ ·) → b.Pairwise (· ≤ ·) → a.Perm b → a = b
  | [], b, _, _, h => (List.nil_perm.1 h).symm
  | x :: a, [], _, _, h => absurd h.symm.nil_eq (by simp)
  | x :: a, y :: b, ha, hb, h => by
    rw [List.pairwise_cons] at ha hb
    have hxy : x = y := by
      have h1 : y ∈ x :: a := h.mem_iff.2 (by simp)
      have h2 : x ∈ y :: b := h.mem_iff.1 (by simp)
      rcases List.mem_cons.1 h1 with e | h1
      · exact e.symm
      · rcases List.mem_cons.1 h2 with e | h2
        · exact e
        · have := ha.1 y h1
          have := hb.1 x h2
          omega
    subst hxy
    rw [sorted_uniq a b ha.2 hb.2 h.cons_inv]
end Go.Proofs.YtimdmdjkkgdohaaGreatDoor
