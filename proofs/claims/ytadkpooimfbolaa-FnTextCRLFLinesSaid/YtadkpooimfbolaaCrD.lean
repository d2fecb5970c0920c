/- FnTextCRLFLines: the walk of the law. Texts of ASCII that the law lets by; else nothing is asked. -/
import Derived.Test.YtadkpooimfbolaaCrC
import Derived.Test.YtadkpooimfbolaaLines
import Derived.WalkKit
import Derived.Handy
import Derived.BigQuiet
import Derived.WalkLawsBesides
namespace Go.Proofs.Ytadkpooimfbolaa
open Go.RowKit
set_option linter.unusedVariables false
theorem linesF_ascii (s : ByteArray) (h : asc s.data.toList) : ∀ (f pos : Nat) (out : List (List UInt8)) (last : List UInt8), s.size ≤ pos + f → (linesF s f pos out last).length = out.length + 1 + (s.data.toList.drop pos).count 10
  | 0, pos, out, last, hf => by
    rw [List.drop_eq_nil_of_le (by rw [← Lib.size_eq]; omega)]
    simp [linesF]
  | f + 1, pos, out, last, hf => by
    rw [linesF]
    by_cases hp : pos < s.size
    · have hp' : pos < s.data.toList.length := by rw [← Lib.size_eq]; exact hp
      have ha : (s[pos]'hp).toNat < 128 := h _ (List.getElem_mem hp')
      rw [if_pos hp, decode_ascii s pos hp ha, List.drop_eq_getElem_cons hp']
      simp only
      have e : s[pos] = s.data.toList[pos] := rfl
      by_cases h10 : (s[pos]'hp).toNat = 10
      · rw [if_pos h10, linesF_ascii s h f (pos + 1) _ _ (by omega)]
        have : s.data.toList[pos] = 10 := by rw [← e]; exact UInt8.toNat_inj.1 h10
        rw [this, List.count_cons_self]
        simp; omega
      · rw [if_neg h10, linesF_ascii s h f (pos + 1) _ _ (by omega)]
        have : s.data.toList[pos] ≠ 10 := by rw [← e]; intro e2; exact h10 (by rw [e2]; rfl)
        rw [List.count_cons_of_ne this]
    · rw [if_neg hp, List.drop_eq_nil_of_le (by rw [← Lib.size_eq]; omega)]
      simp
theorem linesOf_ascii (s : ByteArray) (h : asc s.data.toList) : (linesOf s).length = 1 + s.data.toList.count 10 := by
  unfold linesOf
  rw [linesF_ascii s h s.size 0 [] [] (by omega)]
  simp
def retOk (b : UInt8) : Prop := 32 ≤ b.toNat ∧ b.toNat ≤ 126 ∨ b.toNat = 10 ∨ b.toNat = 13
def RetsRet (s : ByteArray) (w : World) (e : Ending) (w' : World) : Prop := ∃ b : Bool, e = .returned (.bool b) ∧ w = w' ∧ (b = true → s.size ≤ 1000 ∧ ∀ b ∈ s.data.toList, retOk b)
set_option maxHeartbeats 4000000 in
set_option maxRecDepth 100000 in
theorem returns_any (s : ByteArray) (w : World) (hs : s.size ≤ 2147483647) : Calls Try.prog 7 #[.string s] w (RetsRet s w) := by
  go_enter Try.func7, Try.ntmps7
  go_wp2_with fail
  go_loop [3] (fun i => ∃ k : Nat, k ≤ s.size ∧ i = .int .i64 k ∧ Hid (∀ j (hj : j < s.size), j < k → retOk (s[j]'hj))) (fun i => s.size - (intOf i).toNat)
  case atStart => exact ⟨0, Nat.zero_le _, rfl, Lib.hid (fun j hj h => absurd h (by omega))⟩
  case round =>
    obtain ⟨k, hk, rfl, HO⟩ := hrel
    by_cases hlt : k < s.size
    · have HO2 := Lib.hid (show retOk (s[k]'hlt) → ∀ j (hj : j < s.size), j < k + 1 → retOk (s[j]'hj) from fun h j hj hjk => by
        by_cases e : j = k
        · subst e; exact h
        · exact HO.out j hj (by omega))
      have hix : (Instr.index 9 (.string s) (.int .i64 (k : Int))).run Try.prog w = .ok (.int .u8 ((s[k]'hlt).toNat : Int)) w := by
        rw [run_index_string w 9 s .i64 (k : Int) Try.underlying9, dif_pos ⟨by omega, by omega⟩]; rfl
      have hb := (s[k]'hlt).toNat_lt
      generalize hc : (s[k]'hlt).toNat = c at *
      have hok : retOk (s[k]'hlt) ↔ (32 ≤ c ∧ c ≤ 126 ∨ c = 10 ∨ c = 13) := by unfold retOk; rw [hc]
      have HOk := Lib.hid hok
      clear hok hc
      by_cases h1 : 32 ≤ c ∧ c ≤ 126
      · obtain ⟨h1, h2⟩ := h1
        have t1 : decide ((c : Int) < 32) = false := decide_eq_false (by omega)
        have t2 : decide ((126 : Int) < (c : Int)) = false := decide_eq_false (by omega)
        go_wp2_with fail
        go_round
        case rel => exact ⟨k + 1, by omega, by go_num, Lib.hid (HO2.out (HOk.out.2 (.inl ⟨h1, h2⟩)))⟩
        case measure => simp [intOf]; omega
      · have t0 : c < 32 ∨ 126 < c := by omega
        by_cases h10 : c = 10
        · subst h10
          go_wp2_with fail
          go_round
          case rel => exact ⟨k + 1, by omega, by go_num, Lib.hid (HO2.out (HOk.out.2 (.inr (.inl rfl))))⟩
          case measure => simp [intOf]; omega
        · by_cases h13 : c = 13
          · subst h13
            go_wp2_with fail
            go_round
            case rel => exact ⟨k + 1, by omega, by go_num, Lib.hid (HO2.out (HOk.out.2 (.inr (.inr rfl))))⟩
            case measure => simp [intOf]; omega
          · have t3 : ((c : Int) != 10) = true := by rw [bne_iff_ne]; omega
            have t4 : ((c : Int) != 13) = true := by rw [bne_iff_ne]; omega
            have t5 : ((c : Int) == 10) = false := by rw [beq_eq_false_iff_ne]; omega
            have t6 : ((c : Int) == 13) = false := by rw [beq_eq_false_iff_ne]; omega
            rcases t0 with t0 | t0
            · go_wp2_with fail
              go_ret
              exact ⟨false, rfl, rfl, fun h => by cases h⟩
            · have t1 : decide ((c : Int) < 32) = false := decide_eq_false (by omega)
              have t2 : decide ((126 : Int) < (c : Int)) = true := decide_eq_true (by omega)
              go_wp2_with fail
              go_ret
              exact ⟨false, rfl, rfl, fun h => by cases h⟩
    · have e : k = s.size := by omega
      subst e
      by_cases h : (s.size : Int) ≤ 1000
      · have d : decide ((s.size : Int) ≤ 1000) = true := by simpa using h
        go_wp2_with fail
        go_ret
        exact ⟨true, rfl, rfl, fun _ => ⟨by omega, fun b hb => by
          obtain ⟨j, hj, rfl⟩ := List.getElem_of_mem hb
          have hj' : j < s.size := by rw [Lib.size_eq]; exact hj
          exact HO.out j hj' hj'⟩⟩
      · have d : decide ((s.size : Int) ≤ 1000) = false := by simpa using h
        go_wp2_with fail
        go_ret
        exact ⟨false, rfl, rfl, fun h => by cases h⟩
theorem impl_crlf (s : ByteArray) (w : World) (ha : asc s.data.toList) (hs : s.size ≤ 100000) : Calls Try.prog 8 #[.string s] w fun e w' => e = .returned (.string ⟨(crlf s.data.toList).toArray⟩) ∧ Below w.heap.size w w' := by
  have H := Lib.hid (crlf_any s w ha hs)
  clear ha
  go_enter Try.func8, Try.ntmps8
  go_wp2_with (go_at_call 20; refine H.out.mono ?_; rintro e w1 ⟨rfl, hb⟩)
  go_ret
  exact ⟨rfl, hb⟩
theorem spF_lens (c : UInt8) : ∀ (f : Nat) (s : List UInt8), s.length ≤ f → Lib.lens (spF [c] f s) + (spF [c] f s).length = s.length + 1
  | 0, s, h => by
    have : s = [] := List.eq_nil_of_length_eq_zero (by omega)
    subst this; simp [spF, Lib.lens]
  | f + 1, s, h => by
    cases hi : idx [c] s with
    | none => rw [spF_none _ _ _ hi]; simp [Lib.lens]
    | some n =>
      have hl := (idx_some _ _ _ hi).1
      simp at hl
      have ih := spF_lens c f (s.drop (n + 1)) (by rw [List.length_drop]; omega)
      rw [spF_some _ _ _ _ hi]
      simp only [List.length_cons, List.length_nil, Nat.zero_add] at ih ⊢
      rw [List.length_drop] at ih
      unfold Lib.lens at ih ⊢
      rw [List.map_cons, List.sum_cons, List.length_take, Nat.min_eq_left (by omega)]
      omega
theorem ov_lens : ∀ ls : List (List UInt8), Lib.lens (ls.map ovL) ≤ Lib.lens ls
  | [] => Nat.le_refl _
  | x :: ls => by
    have ih := ov_lens ls
    have h2 : (ovL x).length ≤ x.length := by
      unfold ovL
      split
      · exact (ovAll_bd x).2
      · exact Nat.le_refl _
    unfold Lib.lens at ih ⊢
    simp only [List.map_cons, List.sum_cons]
    omega
theorem crlf_len (s : List UInt8) : (crlf s).length ≤ s.length := by
  obtain ⟨r1, r2, r3⟩ := rep_facts s
  unfold crlf
  split
  · generalize rep [13, 10] [10] s = t at *
    have hl := spF_lens 10 t.length t (Nat.le_refl _)
    have hne := sp_ne [10] t
    unfold sp at hne ⊢
    generalize spF [10] t.length t = ls at *
    have ho := ov_lens ls
    cases ls with
    | nil => exact absurd rfl hne
    | cons x r =>
      rw [List.map_cons] at ho ⊢
      rw [Lib.join_length]
      simp at hl ho ⊢
      omega
  · exact r3
theorem asc_of {s : ByteArray} (h : ∀ b ∈ s.data.toList, retOk b) : asc s.data.toList := fun b hb => by
  have := h b hb
  unfold retOk at this
  omega
theorem own_form9 {w : World} {B n : Nat} {v : Value} {xs : List Value} (h : w.ownsRow B 9 1 v n xs) : ∃ a c, v = .slice a n c := by
  rcases h.2 with ⟨e, hz⟩ | ⟨g', cap', cur, e, _⟩
  · exact ⟨none, 0, by rw [hz]; exact e⟩
  · exact ⟨_, cap', e⟩
theorem halt_D {p : Prop} (h : Hid p) : p := h
theorem resume_D {p : Prop} (h : p) : Hid p := h
def LineRet (W : World) (n : Nat) (e : Ending) (w' : World) : Prop := ∃ a c, e = .returned (.slice a n c) ∧ Below W.heap.size W w'
theorem lines_ret (s : ByteArray) (W : World) (hs : s.size ≤ 2147483647) : Calls Try.prog 9 #[.string s] W (LineRet W (linesOf s).length) :=
  (lines_any s W hs).mono (by
    rintro e w' ⟨v, rfl, hv, hb⟩
    obtain ⟨a, c, rfl⟩ := own_form9 hv
    exact ⟨a, c, rfl, hb⟩)
set_option maxHeartbeats 4000000 in
set_option maxRecDepth 100000 in
theorem lawCr (s : ByteArray) (w : World) (hb : s.size ≤ 140737488351232) : Calls Try.prog 3 #[.string s] w fun e w' => e = .returned (.bool true) ∧ Below w.heap.size w w' := by
  by_cases h0 : (2147483647 : Int) < (s.size : Int)
  · go_enter Try.func3, Try.ntmps3
    go_wp2
    go_ret
    exact ⟨rfl, Below.refl _ _⟩
  · have d0 : decide ((2147483647 : Int) < (s.size : Int)) = false := by simpa using h0
    have HR := Lib.hid (returns_any s w (by omega))
    go_enter Try.func3, Try.ntmps3
    go_wp2_with (go_at_call 7; refine HR.out.mono ?_; rintro e w1 ⟨x, rfl, rfl, hx⟩; have HX := Lib.hid hx; clear hx; cases x)
    · go_wp2
      go_ret
      exact ⟨rfl, Below.refl _ _⟩
    · have h1 := (HX.out trivial).1
      have ha : asc s.data.toList := asc_of (HX.out trivial).2
      obtain ⟨f1, f2, f3⟩ := crlf_facts s.data.toList
      have hl := crlf_len s.data.toList
      rw [← Lib.size_eq] at hl
      have HT := fun W => Lib.hid (impl_crlf s W ha (by omega))
      have hta : asc (⟨(crlf s.data.toList).toArray⟩ : ByteArray).data.toList := fun b hb => by
        have hb' : b ∈ crlf s.data.toList := by simpa using hb
        rcases f3 b hb' with h | h
        · exact ha b h
        · subst h; decide
      have HT2 := fun W => Lib.hid (show Calls Try.prog 8 #[.string ⟨(crlf s.data.toList).toArray⟩] W fun e w' => e = .returned (.string ⟨(crlf s.data.toList).toArray⟩) ∧ Below W.heap.size W w' by
        have := impl_crlf ⟨(crlf s.data.toList).toArray⟩ W hta (by show (crlf s.data.toList).toArray.size ≤ _; simp; omega)
        have e : crlf (⟨(crlf s.data.toList).toArray⟩ : ByteArray).data.toList = crlf s.data.toList := by
          rw [show (⟨(crlf s.data.toList).toArray⟩ : ByteArray).data.toList = crlf s.data.toList by simp]
          exact crlf_again _ f2
        rw [e] at this
        exact this)
      have L1 := fun W => Lib.hid (lines_ret s W (by omega))
      have L2 := fun W => Lib.hid (lines_ret ⟨(crlf s.data.toList).toArray⟩ W (by show (crlf s.data.toList).toArray.size ≤ _; simp; omega))
      have n1 := linesOf_ascii s ha
      have n2 := linesOf_ascii ⟨(crlf s.data.toList).toArray⟩ hta
      have n3 : (linesOf ⟨(crlf s.data.toList).toArray⟩).length = (linesOf s).length := by
        rw [n1, n2, show (⟨(crlf s.data.toList).toArray⟩ : ByteArray).data.toList = crlf s.data.toList by simp, f1]
      have hsz : (⟨(crlf s.data.toList).toArray⟩ : ByteArray).size ≤ 1000 := by show (crlf s.data.toList).toArray.size ≤ _; simp; omega
      have hno : ∀ k (hk : k < (⟨(crlf s.data.toList).toArray⟩ : ByteArray).size), ((⟨(crlf s.data.toList).toArray⟩ : ByteArray)[k]'hk).toNat ≠ 13 := by
        intro k hk e
        have : (⟨(crlf s.data.toList).toArray⟩ : ByteArray)[k] ∈ crlf s.data.toList := by
          have hk' : k < (crlf s.data.toList).length := by simpa [ByteArray.size] using hk
          have : (⟨(crlf s.data.toList).toArray⟩ : ByteArray)[k] = (crlf s.data.toList)[k] := by simp [ByteArray.getElem_eq_getElem_data]
          rw [this]; exact List.getElem_mem hk'
        rw [UInt8.toNat_inj.1 (show ((⟨(crlf s.data.toList).toArray⟩ : ByteArray)[k]).toNat = (13 : UInt8).toNat from e)] at this
        exact f2 this
      have HNo := Lib.hid hno
      have N3 := Lib.hid n3
      generalize hT : (⟨(crlf s.data.toList).toArray⟩ : ByteArray) = T at *
      clear hno n1 n2 n3 hta ha f1 f2 f3 hl hT
      go_wp2_with (go_at_call 8; refine (HT _).out.mono ?_; rintro e w2 ⟨rfl, hb2⟩; have HB2 := Lib.hid hb2; clear hb2)
      go_loop [4] (fun i => ∃ k : Nat, k ≤ T.size ∧ i = .int .i64 k) (fun i => T.size - (intOf i).toNat)
      case atStart => exact ⟨0, Nat.zero_le _, rfl⟩
      case round =>
        obtain ⟨k, hk, rfl⟩ := hrel
        by_cases hlt : k < T.size
        · have hix : (Instr.index 9 (.string T) (.int .i64 (k : Int))).run Try.prog w2 = .ok (.int .u8 ((T[k]'hlt).toNat : Int)) w2 := by
            rw [run_index_string w2 9 T .i64 (k : Int) Try.underlying9, dif_pos ⟨by omega, by omega⟩]; rfl
          have h13 : (((T[k]'hlt).toNat : Int) == 13) = false := by
            rw [beq_eq_false_iff_ne]
            intro e
            exact HNo.out k hlt (by omega)
          generalize (T[k]'hlt).toNat = c at *
          go_wp2_with fail
          go_round
          case rel => exact ⟨k + 1, by omega, by go_num⟩
          case measure => simp [intOf]; omega
        · have dk : decide ((k : Int) < (T.size : Int)) = false := decide_eq_false (by omega)
          have hl3 : ((((linesOf T).length : Nat) : Int) == (((linesOf s).length : Nat) : Int)) = true := by rw [beq_iff_eq]; have := N3.out; omega
          generalize hn3 : (linesOf T).length = n3 at *
          generalize hn4 : (linesOf s).length = n4 at *
          clear hn3 hn4
          have L1' : ∀ W, Hid (Calls Try.prog 9 #[.string s] W (LineRet W n4)) := L1
          have L2' : ∀ W, Hid (Calls Try.prog 9 #[.string T] W (LineRet W n3)) := L2
          clear L1 L2
          go_wp2_with (go_at_call 9; refine halt_D ?_)
          refine resume_D ?_
          refine (L2' _).out.mono ?_
          rintro e w3 ⟨a3, c3, rfl, hb3⟩
          have HB3 := Lib.hid (HB2.out.trans (hb3.mono HB2.out.size))
          clear hb3
          go_wp2_with (go_at_call 9; refine halt_D ?_)
          refine resume_D ?_
          refine (L1' _).out.mono ?_
          rintro e w4 ⟨a4, c4, rfl, hb4⟩
          have HB4 := Lib.hid (HB3.out.trans (hb4.mono HB3.out.size))
          clear hb4
          go_wp2_with (go_at_call 8; refine halt_D ?_)
          refine resume_D ?_
          refine (HT2 _).out.mono ?_
          rintro e w5 ⟨rfl, hb5⟩
          have HB5 := Lib.hid (HB4.out.trans (hb5.mono HB4.out.size))
          clear hb5
          go_wp2_with fail
          go_ret
          exact ⟨rfl, HB5.out⟩
end Go.Proofs.Ytadkpooimfbolaa
