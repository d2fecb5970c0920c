/- Reading one field of a row in CSV: the walk of spec.field, where the field is bare or quoted. Texts of at most 1000000 bytes. -/
import Derived.Test.YtlookapkakeinaaCvP
import Derived.WalkLawsBesides
namespace Go.Proofs.Ytlookapkakeinaa
open Go.RowKit
set_option linter.unusedVariables false
theorem halt_E {p : Prop} (h : Hid p) : p := h
theorem resume_E {p : Prop} (h : p) : Hid p := h
theorem at_drop {s : ByteArray} {p : Nat} {x : UInt8} {r : List UInt8} (h : s.data.toList.drop p = x :: r) : ∃ hp : p < s.size, s[p]'hp = x ∧ s.data.toList.drop (p + 1) = r := by
  have hp : p < s.data.toList.length := by
    rcases Nat.lt_or_ge p s.data.toList.length with h1 | h1
    · exact h1
    · rw [List.drop_eq_nil_of_le h1] at h; cases h
  rw [List.drop_eq_getElem_cons hp] at h
  injection h with h1 h2
  exact ⟨by rw [Lib.size_eq]; exact hp, h1, h2⟩
theorem end_drop {s : ByteArray} {p : Nat} (h : s.data.toList.drop p = []) : s.size ≤ p := by
  have := congrArg List.length h
  rw [List.length_drop, ← Lib.size_eq] at this
  simp at this; omega
theorem idx_at (s : ByteArray) (p : Nat) (hp : p < s.size) (hs : s.size ≤ 1000000) (W : World) : (Instr.index 9 (.string s) (.int .i64 (p : Int))).run Try.prog W = .ok (.int .u8 ((s[p]'hp).toNat : Int)) W := by
  rw [run_index_string W 9 s .i64 (p : Int) Try.underlying9, dif_pos ⟨by omega, by omega⟩]; rfl
def FieldRet (w : World) (c : List UInt8) (p : Nat) (e : Ending) (w' : World) : Prop := e = .returned (.tuple #[.string ⟨c.toArray⟩, .int .i64 (p : Int), .bool true]) ∧ Below w.heap.size w w'
theorem info5 : (Try.prog.info? 5).map (fun i => (i.zero, i.size, i.bytes)) = some (some (.int .u8 0), 1, 1) := by kernel_rfl
set_option maxHeartbeats 4000000 in
set_option maxRecDepth 100000 in
theorem field_bare (s : ByteArray) (i : Nat) (c rest : List UInt8) (w : World) (hd : s.data.toList.drop i = c ++ rest) (hs : s.size ≤ 1000000) (hi2 : i ≤ s.size) (hb : bare c) (hr : rest = [] ∨ ∃ r, rest = 44 :: r) :
    Calls Try.prog 9 #[.string s, .int .i64 (i : Int), .int .u8 44] w (FieldRet w c (i + c.length)) := by
  obtain ⟨i0, hi, hz0, hz1, hz2⟩ := info_parts info5
  have hlen : i + c.length ≤ s.size := by
    have := congrArg List.length hd
    rw [List.length_drop, ← Lib.size_eq, List.length_append] at this
    omega
  have HD := Lib.hid (fun k (hk : k < c.length) => show ∃ hp : i + k < s.size, (s[i + k]'hp) = c[k] by
    have h1 : s.data.toList.drop (i + k) = c[k] :: (c.drop (k + 1) ++ rest) := by
      rw [← List.drop_drop, hd, List.drop_append_of_le_length (by omega), List.drop_eq_getElem_cons hk, List.cons_append]
    obtain ⟨hp, h2, _⟩ := at_drop h1
    exact ⟨hp, h2⟩)
  have HE := Lib.hid (show s.size ≤ i + c.length ∨ ∃ hp : i + c.length < s.size, (s[i + c.length]'hp) = 44 by
    have h1 : s.data.toList.drop (i + c.length) = rest := by rw [← List.drop_drop, hd, List.drop_left]
    rcases hr with rfl | ⟨r, rfl⟩
    · exact .inl (end_drop h1)
    · obtain ⟨hp, h2, _⟩ := at_drop h1
      exact .inr ⟨hp, h2⟩)
  have H0 := Lib.hid (show i < s.size → ∀ hp : i < s.size, (((s[i]'hp).toNat : Int) != 34) = true from fun _ hp => by
    rw [bne_iff_ne]
    by_cases hc : 0 < c.length
    · obtain ⟨hp2, h2⟩ := HD.out 0 hc
      have h3 := (hb c[0] (List.getElem_mem hc)).1
      simp only [Nat.add_zero] at h2
      rw [h2]
      intro e
      exact h3 (UInt8.toNat_inj.1 (by show _ = 34; omega))
    · have hc0 : c.length = 0 := by omega
      rcases HE.out with h1 | ⟨hp2, h2⟩
      · omega
      · simp only [hc0, Nat.add_zero] at h2
        rw [h2]; decide)
  have HBb := Lib.hid hb
  clear hd hb hr
  by_cases hlt0 : i < s.size
  · have hix0 := idx_at s i hlt0 hs w
    have hq := H0.out hlt0 hlt0
    generalize (s[i]'hlt0).toNat = b0 at *
    clear H0
    go_enter Try.func9, Try.ntmps9
    go_wp2_with fail
    clear hix0 hq
    go_loopw [1, 9] (fun iv v wr => ∃ p k : Nat, k ≤ c.length ∧ k ≤ p ∧ p ≤ s.size ∧ Hid (p = i + k) ∧ iv = .int .i64 (p : Int) ∧ wr.ownsRow w.heap.size 5 1 v k (bcells (c.take k)) ∧ Hid (Below w.heap.size w wr)) (fun iv _ _ => s.size + 1 - (intOf iv).toNat)
    case atStart => exact ⟨i, 0, Nat.zero_le _, Nat.zero_le _, hi2, Lib.hid rfl, rfl, World.ownsRow_nil _ _ _ _, Lib.hid (Below.refl _ _)⟩
    case round =>
      obtain ⟨p, k, hk, hkp, hps0, hpk, rfl, hown, HB⟩ := hrel
      obtain ⟨wo, rfl⟩ : ∃ wo : World, wo = wr := ⟨_, rfl⟩
      by_cases hlt : k < c.length
      · obtain ⟨hp, hx⟩ := HD.out k hlt
        have hps : p < s.size := by have := hpk.out; omega
        have hix := idx_at s p hps hs wo
        have hxb := HBb.out c[k] (List.getElem_mem hlt)
        have hnext := Lib.hid (show bcells (c.take k) ++ [.int .u8 (c[k].toNat : Int)] = bcells (c.take (k + 1)) by rw [List.take_succ_eq_append_getElem hlt, bcells_append]; rfl)
        have e0 : (s[p]'hps) = c[k] := by have := hpk.out; subst this; exact hx
        rw [e0] at hix
        have g1 : ((c[k].toNat : Int) != 44) = true := by rw [bne_iff_ne]; intro e; exact hxb.2.1 (UInt8.toNat_inj.1 (by show _ = 44; omega))
        have g2 : ((c[k].toNat : Int) != 10) = true := by rw [bne_iff_ne]; intro e; exact hxb.2.2 (UInt8.toNat_inj.1 (by show _ = 10; omega))
        have g3 : ((c[k].toNat : Int) == 34) = false := by rw [beq_eq_false_iff_ne]; intro e; exact hxb.1 (UInt8.toNat_inj.1 (by show _ = 34; omega))
        have hbl := c[k].toNat_lt
        generalize c[k].toNat = b at *
        have hBs := HB.out.size
        clear hx hxb e0 hp
        go_wp2_with (at_builtin; refine halt_E ?_)
        refine resume_E ?_
        refine wpList_append_own _ rfl _ _ 32 rfl w.heap.size 5 i0 (.int .u8 0) 1 1 Try.underlying32 hi hz0 hz1 hz2 rfl (by decide) _ k _ rfl (hown.alloc _) ⟨wo.heap.size, 0, none⟩ 1 1 [.int .u8 (b : Int)] rfl rfl (oneS_at (heap_alloc_new wo _)) (by simp [Value.oneCell']) (by unfold maxLen; omega) (by omega) (by simp; omega) ?_
        intro v' w1 hown1 hgrow _
        rw [hnext.out] at hown1
        have HB1 := Lib.hid ((HB.out.alloc hBs _).grown hgrow (by simp; omega) (fun k hk => (hown.lt k hk).1))
        clear hown hgrow HB
        go_wp2_with fail
        go_roundw
        case rel => exact ⟨p + 1, k + 1, by omega, by omega, by omega, Lib.hid (by have := hpk.out; omega), by go_num, hown1, HB1⟩
        case measure => simp [intOf]; omega
      · have hkc : k = c.length := by omega
        subst hkc
        rw [List.take_length] at hown
        have hcv := conv_own (P := Try.prog) (src := 32) (e := 5) (dst := 9) Try.underlying32 Try.underlying5 Try.underlying9 hown
        clear hown
        rcases HE.out with he | ⟨hp, hx⟩
        · have hge : s.size ≤ p := by have := hpk.out; omega
          have g0 : decide ((p : Int) < (s.size : Int)) = false := decide_eq_false (by omega)
          go_wp2_with fail
          go_ret3
          exact ⟨by rw [← hpk.out]; rfl, HB.out⟩
        · have hps : p < s.size := by have := hpk.out; omega
          have hix := idx_at s p hps hs wo
          have e0 : (s[p]'hps) = 44 := by have := hpk.out; subst this; exact hx
          rw [e0] at hix
          have hix' : (Instr.index 9 (.string s) (.int .i64 (p : Int))).run Try.prog wo = .ok (.int .u8 44) wo := hix
          have g0 : decide ((p : Int) < (s.size : Int)) = true := decide_eq_true (by omega)
          clear hix hx e0
          go_wp2_with fail
          go_ret3
          exact ⟨by rw [← hpk.out]; rfl, HB.out⟩
  · have g00 : decide ((i : Int) < (s.size : Int)) = false := decide_eq_false (by omega)
    clear H0
    go_enter Try.func9, Try.ntmps9
    go_wp2_with fail
    go_loopw [1, 9] (fun iv v wr => ∃ p k : Nat, k ≤ c.length ∧ k ≤ p ∧ p ≤ s.size ∧ Hid (p = i + k) ∧ iv = .int .i64 (p : Int) ∧ wr.ownsRow w.heap.size 5 1 v k (bcells (c.take k)) ∧ Hid (Below w.heap.size w wr)) (fun iv _ _ => s.size + 1 - (intOf iv).toNat)
    case atStart => exact ⟨i, 0, Nat.zero_le _, Nat.zero_le _, hi2, Lib.hid rfl, rfl, World.ownsRow_nil _ _ _ _, Lib.hid (Below.refl _ _)⟩
    case round =>
      obtain ⟨p, k, hk, hkp, hps0, hpk, rfl, hown, HB⟩ := hrel
      obtain ⟨wo, rfl⟩ : ∃ wo : World, wo = wr := ⟨_, rfl⟩
      by_cases hlt : k < c.length
      · exfalso; omega
      · have hkc : k = c.length := by omega
        subst hkc
        rw [List.take_length] at hown
        have hcv := conv_own (P := Try.prog) (src := 32) (e := 5) (dst := 9) Try.underlying32 Try.underlying5 Try.underlying9 hown
        clear hown
        rcases HE.out with he | ⟨hp, hx⟩
        · have hge : s.size ≤ p := by have := hpk.out; omega
          have g0 : decide ((p : Int) < (s.size : Int)) = false := decide_eq_false (by omega)
          go_wp2_with fail
          go_ret3
          exact ⟨by rw [← hpk.out]; rfl, HB.out⟩
        · have hps : p < s.size := by have := hpk.out; omega
          have hix := idx_at s p hps hs wo
          have e0 : (s[p]'hps) = 44 := by have := hpk.out; subst this; exact hx
          rw [e0] at hix
          have hix' : (Instr.index 9 (.string s) (.int .i64 (p : Int))).run Try.prog wo = .ok (.int .u8 44) wo := hix
          have g0 : decide ((p : Int) < (s.size : Int)) = true := decide_eq_true (by omega)
          clear hix hx e0
          go_wp2_with fail
          go_ret3
          exact ⟨by rw [← hpk.out]; rfl, HB.out⟩
set_option maxHeartbeats 4000000 in
set_option maxRecDepth 100000 in
theorem field_quoted (s : ByteArray) (i : Nat) (c rest : List UInt8) (w : World) (hd : s.data.toList.drop i = 34 :: (dbl c ++ 34 :: rest)) (hs : s.size ≤ 1000000) (hr : rest = [] ∨ ∃ r, rest = 44 :: r) :
    Calls Try.prog 9 #[.string s, .int .i64 (i : Int), .int .u8 44] w (FieldRet w c (i + (dbl c).length + 2)) := by
  obtain ⟨i0, hi, hz0, hz1, hz2⟩ := info_parts info5
  obtain ⟨hp0, hx0, hd0⟩ := at_drop hd
  have hix0 := idx_at s i hp0 hs w
  rw [hx0] at hix0
  have hix00 : (Instr.index 9 (.string s) (.int .i64 (i : Int))).run Try.prog w = .ok (.int .u8 34) w := hix0
  have HR := Lib.hid hr
  have g01 : decide ((s.size : Int) ≤ (i : Int)) = false := decide_eq_false (by omega)
  have g02 : decide (s.size ≤ i) = false := decide_eq_false (by omega)
  have HD0 := Lib.hid hd0
  clear hix0 hx0 hd hd0 hr
  go_enter Try.func9, Try.ntmps9
  go_wp2_with fail
  clear hp0 hix00 g01 g02
  go_loopw [1, 9] (fun iv v wr => ∃ (p : Nat) (a b : List UInt8), Hid (c = a ++ b) ∧ Hid (s.data.toList.drop p = dbl b ++ 34 :: rest) ∧ Hid (p = i + 1 + (dbl a).length) ∧ iv = .int .i64 (p : Int) ∧ a.length ≤ p ∧ wr.ownsRow w.heap.size 5 1 v a.length (bcells a) ∧ Hid (Below w.heap.size w wr)) (fun iv _ _ => s.size + 1 - (intOf iv).toNat)
  case atStart => exact ⟨i + 1, [], c, Lib.hid rfl, HD0, Lib.hid rfl, by go_num, Nat.zero_le _, World.ownsRow_nil _ _ _ _, Lib.hid (Below.refl _ _)⟩
  case round =>
    obtain ⟨p, a, b, hc, hd, hp, rfl, hap, hown, HB⟩ := hrel
    obtain ⟨wo, rfl⟩ : ∃ wo : World, wo = wr := ⟨_, rfl⟩
    have hBs := HB.out.size
    cases b with
    | nil =>
      obtain ⟨hps, hx, hd1⟩ := at_drop (show s.data.toList.drop p = 34 :: rest from hd.out)
      have hix := idx_at s p hps hs wo
      rw [hx] at hix
      have hix' : (Instr.index 9 (.string s) (.int .i64 (p : Int))).run Try.prog wo = .ok (.int .u8 34) wo := hix
      have hca : c = a := by rw [hc.out, List.append_nil]
      subst hca
      have hcv := conv_own (P := Try.prog) (src := 32) (e := 5) (dst := 9) Try.underlying32 Try.underlying5 Try.underlying9 hown
      have HP := Lib.hid (show ((p : Int) + 1 : Int) = ((i + (dbl c).length + 2 : Nat) : Int) by have := hp.out; omega)
      clear hix hx hown
      rcases HR.out with he | ⟨r, he⟩
      · rw [he] at hd1
        have hz := end_drop hd1
        have g0 : decide ((p : Int) + 1 < (s.size : Int)) = false := decide_eq_false (by omega)
        clear hd1 he
        go_wp2_with fail
        go_ret3
        exact ⟨by rw [← HP.out]; rfl, HB.out⟩
      · rw [he] at hd1
        obtain ⟨hps2, hx2, _⟩ := at_drop hd1
        have hix2 := idx_at s (p + 1) hps2 hs wo
        rw [hx2] at hix2
        have hix2' : (Instr.index 9 (.string s) (.int .i64 ((p : Int) + 1))).run Try.prog wo = .ok (.int .u8 44) wo := hix2
        have g0 : decide ((p : Int) + 1 < (s.size : Int)) = true := decide_eq_true (by omega)
        clear hd1 he hix2 hx2
        go_wp2_with fail
        go_ret3
        exact ⟨by rw [← HP.out]; rfl, HB.out⟩
    | cons x b =>
      by_cases hx34 : x = 34
      · subst hx34
        have hd1 : s.data.toList.drop p = 34 :: 34 :: (dbl b ++ 34 :: rest) := by rw [hd.out]; simp [dbl]
        obtain ⟨hps, hx, hd2⟩ := at_drop hd1
        obtain ⟨hps2, hx2, hd3⟩ := at_drop hd2
        have hix := idx_at s p hps hs wo
        rw [hx] at hix
        have hix' : (Instr.index 9 (.string s) (.int .i64 (p : Int))).run Try.prog wo = .ok (.int .u8 34) wo := hix
        have hix2 := idx_at s (p + 1) hps2 hs wo
        rw [hx2] at hix2
        have hix2' : (Instr.index 9 (.string s) (.int .i64 ((p : Int) + 1))).run Try.prog wo = .ok (.int .u8 34) wo := hix2
        have g0 : decide ((p : Int) + 1 < (s.size : Int)) = true := decide_eq_true (by omega)
        have HN := Lib.hid (show bcells a ++ [.int .u8 34] = bcells (a ++ [34]) by rw [bcells_append]; rfl)
        have HD3 := Lib.hid (show s.data.toList.drop (p + 2) = dbl b ++ 34 :: rest from hd3)
        have HC := Lib.hid (show c = (a ++ [34]) ++ b by rw [hc.out]; simp)
        have HP := Lib.hid (show p + 2 = i + 1 + (dbl (a ++ [34])).length by rw [dbl_app]; simp [dbl]; have := hp.out; omega)
        clear hix hix2 hx hx2 hd1 hd2 hd3 hc hd hp
        go_wp2_with (at_builtin; refine halt_E ?_)
        refine resume_E ?_
        refine wpList_append_own _ rfl _ _ 32 rfl w.heap.size 5 i0 (.int .u8 0) 1 1 Try.underlying32 hi hz0 hz1 hz2 rfl (by decide) _ _ _ rfl (hown.alloc _) ⟨wo.heap.size, 0, none⟩ 1 1 [.int .u8 34] rfl rfl (oneS_at (heap_alloc_new wo _)) (by simp [Value.oneCell']) (by unfold maxLen; omega) (by omega) (by simp; omega) ?_
        intro v' w1 hown1 hgrow _
        rw [HN.out] at hown1
        have HB1 := Lib.hid ((HB.out.alloc hBs _).grown hgrow (by simp; omega) (fun k hk => (hown.lt k hk).1))
        clear hown hgrow HB
        go_wp2_with fail
        go_roundw
        case rel => exact ⟨p + 2, a ++ [34], b, HC, HD3, HP, by go_num, by simp; omega, by simpa using hown1, HB1⟩
        case measure => simp [intOf]; omega
      · have hd1 : s.data.toList.drop p = x :: (dbl b ++ 34 :: rest) := by rw [hd.out, dbl, if_neg hx34, List.cons_append]
        obtain ⟨hps, hx, hd2⟩ := at_drop hd1
        have hix := idx_at s p hps hs wo
        rw [hx] at hix
        have g1 : ((x.toNat : Int) != 34) = true := by rw [bne_iff_ne]; intro e; exact hx34 (UInt8.toNat_inj.1 (by show _ = 34; omega))
        have HN := Lib.hid (show bcells a ++ [.int .u8 (x.toNat : Int)] = bcells (a ++ [x]) by rw [bcells_append]; rfl)
        have HD3 := Lib.hid hd2
        have HC := Lib.hid (show c = (a ++ [x]) ++ b by rw [hc.out]; simp)
        have HP := Lib.hid (show p + 1 = i + 1 + (dbl (a ++ [x])).length by rw [dbl_app]; simp [dbl, hx34]; have := hp.out; omega)
        have hbl := x.toNat_lt
        clear hx hd1 hd2 hc hd hp hx34
        go_wp2_with (at_builtin; refine halt_E ?_)
        refine resume_E ?_
        refine wpList_append_own _ rfl _ _ 32 rfl w.heap.size 5 i0 (.int .u8 0) 1 1 Try.underlying32 hi hz0 hz1 hz2 rfl (by decide) _ _ _ rfl (hown.alloc _) ⟨wo.heap.size, 0, none⟩ 1 1 [.int .u8 (x.toNat : Int)] rfl rfl (oneS_at (heap_alloc_new wo _)) (by simp [Value.oneCell']) (by unfold maxLen; omega) (by omega) (by simp; omega) ?_
        intro v' w1 hown1 hgrow _
        rw [HN.out] at hown1
        have HB1 := Lib.hid ((HB.out.alloc hBs _).grown hgrow (by simp; omega) (fun k hk => (hown.lt k hk).1))
        clear hown hgrow HB
        go_wp2_with fail
        go_roundw
        case rel => exact ⟨p + 1, a ++ [x], b, HC, HD3, HP, by go_num, by simp; omega, by simpa using hown1, HB1⟩
        case measure => simp [intOf]; omega
end Go.Proofs.Ytlookapkakeinaa
