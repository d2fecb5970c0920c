/- Reading a row in CSV back: the walks of spec.Rows at what one row in CSV is, and of SameGrid at equal rows. Rows of at most 2000 bytes. -/
import Derived.Test.YtlookapkakeinaaCvE
import Derived.LoopN
namespace Go.Proofs.Ytlookapkakeinaa
open Go.RowKit
set_option linter.unusedVariables false
theorem halt_F {p : Prop} (h : Hid p) : p := h
theorem resume_F {p : Prop} (h : p) : Hid p := h
theorem field_at (s : ByteArray) (i : Nat) (c e rest : List UInt8) (w : World) (he : Enc c e) (hd : s.data.toList.drop i = e ++ rest) (hs : s.size ≤ 1000000) (hi2 : i ≤ s.size) (hr : rest = [] ∨ ∃ r, rest = 44 :: r) :
    Calls Try.prog 9 #[.string s, .int .i64 (i : Int), .int .u8 44] w (FieldRet w c (i + e.length)) := by
  rcases he with he | ⟨he, hb⟩
  · subst he
    have h := field_quoted s i c rest w (by rw [hd]; simp) hs hr
    have e1 : i + (dbl c).length + 2 = i + (34 :: (dbl c ++ [34])).length := by simp; omega
    rw [e1] at h
    exact h
  · subst he
    exact field_bare s i e rest w hd hs hi2 hb hr
theorem own_tag {w : World} {B B' : Nat} {e e' : TypeId} {s s' n n' : Nat} {v v' : Value} {xs xs' : List Value} (h : w.ownsRow B e s v n xs) (h' : w.ownsRow B' e' s' v' n' xs') (hne : e ≠ e') : v.ownBlock = none ∨ v.ownBlock ≠ v'.ownBlock := by
  rcases h.2 with ⟨rfl, _⟩ | ⟨g, cap, cur, rfl, _, hg, _⟩
  · exact .inl rfl
  · refine .inr ?_
    rcases h'.2 with ⟨rfl, _⟩ | ⟨g', cap', cur', rfl, _, hg', _⟩
    · simp [Value.ownBlock]
    · intro x
      simp only [Value.ownBlock, Option.some.injEq] at x
      subst x
      rw [hg] at hg'
      simp only [Option.some.injEq, Obj.cells.injEq] at hg'
      exact hne hg'.2.1
theorem own_below {w w1 : World} {B e size n : Nat} {v : Value} {xs : List Value} (h : w.ownsRow B e size v n xs) (hb : Below w.heap.size w w1) : w1.ownsRow B e size v n xs :=
  h.kept (row := none) ⟨hb.os, hb.tape, hb.output, hb.size, fun k hk _ => hb.block k hk⟩ (by cases hv : v.ownBlock <;> simp)
theorem infoS : (Try.prog.info? 9).map (fun i => (i.zero, i.size, i.bytes)) = some (some (.string ⟨#[]⟩), 1, 16) := by kernel_rfl
theorem infoL : (Try.prog.info? 22).map (fun i => (i.zero, i.size, i.bytes)) = some (some (.slice none 0 0), 1, 24) := by kernel_rfl
theorem own_pos1 {w : World} {B e size n : Nat} {v : Value} {xs : List Value} (h : w.ownsRow B e size v n xs) (hn : 0 < n) : ∃ g cap, v = .slice (some ⟨g, 0, none⟩) n cap ∧ g < w.heap.size := by
  rcases h.2 with ⟨_, h0⟩ | ⟨g, cap, cur, rfl, hb, hg, _⟩
  · omega
  · exact ⟨g, cap, rfl, (Array.getElem?_eq_some_iff.1 hg).1⟩
def RowsRet (w : World) (n : Nat) (ss : List ByteArray) (e : Ending) (w' : World) : Prop := ∃ g1 c1 g2 c2, e = .returned (.tuple #[.slice (some ⟨g1, 0, none⟩) 1 c1, .bool true]) ∧ Below w.heap.size w w' ∧ g1 < w'.heap.size ∧ g2 < w'.heap.size ∧ w'.cell? ⟨g1, 0, none⟩ = some (.slice (some ⟨g2, 0, none⟩) n c2) ∧ ∀ k, k < n → w'.cell? ⟨g2, k, none⟩ = some (.string (ss.getD k ByteArray.empty))
theorem str_self (s : ByteArray) : (⟨s.data.toList.toArray⟩ : ByteArray) = s := by
  apply bytes_ext; simp
def sv (ss : List ByteArray) (k : Nat) : Value := .string (ss.getD k ByteArray.empty)
def svs (ss : List ByteArray) (k : Nat) : List Value := (List.range k).map (sv ss)
theorem svs_succ (ss : List ByteArray) (k : Nat) : svs ss k ++ [sv ss k] = svs ss (k + 1) := by simp [svs, List.range_succ]
set_option maxHeartbeats 4000000 in
set_option maxRecDepth 100000 in
theorem rows_any (s : ByteArray) (n : Nat) (ss : List ByteArray) (cs : List (List UInt8)) (w : World) (hn : cs.length = n) (h0 : 0 < n) (hn2 : n ≤ 2000) (hs : s.size ≤ 1000000) (hd : s.data.toList = jn cs) (he : ∀ i (h : i < cs.length), Enc (ss.getD i ByteArray.empty).data.toList cs[i]) :
    Calls Try.prog 6 #[.string s, .int .u8 44] w (RowsRet w n ss) := by
  obtain ⟨i9, hi9, hy0, hy1, hy2⟩ := info_parts infoS
  obtain ⟨i2, hi2, hz0, hz1, hz2⟩ := info_parts infoL
  have HF := Lib.hid (fun (k : Nat) (hk : k < n) (p : Nat) (hp : p ≤ s.size) (hx : s.data.toList.drop p = jn (cs.drop k)) (W : World) => show ∃ q, p ≤ q ∧ q ≤ s.size ∧ Calls Try.prog 9 #[.string s, .int .i64 (p : Int), .int .u8 44] W (FieldRet W (ss.getD k ByteArray.empty).data.toList q) ∧
      ((k + 1 = n ∧ s.size ≤ q) ∨ (k + 1 < n ∧ ∃ hq : q < s.size, s[q]'hq = 44 ∧ s.data.toList.drop (q + 1) = jn (cs.drop (k + 1)))) by
    have hk' : k < cs.length := by omega
    have h1 := jn_at cs k hk'
    rw [← hx] at h1
    have hl : p + cs[k].length ≤ s.size := by
      have := congrArg List.length h1
      rw [List.length_drop, ← Lib.size_eq, List.length_append] at this
      omega
    have h2 : s.data.toList.drop (p + cs[k].length) = (if k + 1 < cs.length then 44 :: jn (cs.drop (k + 1)) else []) := by rw [← List.drop_drop, h1, List.drop_left]
    refine ⟨p + cs[k].length, by omega, hl, ?_, ?_⟩
    · refine field_at s p _ _ _ W (he k hk') h1 hs hp ?_
      split
      · exact .inr ⟨_, rfl⟩
      · exact .inl rfl
    · by_cases h3 : k + 1 < cs.length
      · rw [if_pos h3] at h2
        obtain ⟨hq, h4, h5⟩ := at_drop h2
        exact .inr ⟨by omega, hq, h4, h5⟩
      · rw [if_neg h3] at h2
        exact .inl ⟨by omega, end_drop h2⟩)
  have HD := Lib.hid (show s.data.toList.drop 0 = jn (cs.drop 0) by simpa using hd)
  clear hd he
  go_enter Try.func6, Try.ntmps6
  go_wp2_with fail
  refine wp_loop_rounds 1 ?_
  rw [rounds_succ]
  go_wp2_with fail
  go_loopw [7, 8] (fun iv lv wr => ∃ k p : Nat, k < n ∧ k ≤ p ∧ p ≤ s.size ∧ iv = .int .i64 (p : Int) ∧ Hid (s.data.toList.drop p = jn (cs.drop k)) ∧ wr.ownsRow w.heap.size 9 1 lv k (svs ss k) ∧ Hid (Below w.heap.size w wr)) (fun iv _ _ => s.size + 1 - (intOf iv).toNat)
  case atStart => exact ⟨0, 0, h0, Nat.le_refl _, Nat.zero_le _, rfl, HD, World.ownsRow_nil _ _ _ _, Lib.hid (Below.refl _ _)⟩
  case round =>
    obtain ⟨k, p, hk, hkp, hp, rfl, hx, hown, HB⟩ := hrel
    obtain ⟨wo, rfl⟩ : ∃ wo : World, wo = wr := ⟨_, rfl⟩
    obtain ⟨q, hpq, hq, hcall, hcase⟩ := HF.out k hk p hp hx.out wo
    have HC := Lib.hid hcall
    have HK := Lib.hid hcase
    clear hcall hcase hx
    go_wp2_with (go_at_call 9; refine halt_F ?_)
    refine resume_F ?_
    refine HC.out.mono ?_
    rintro e w1 ⟨rfl, hb1⟩
    rw [str_self]
    have own1 := own_below hown hb1
    have HB1 := Lib.hid (HB.out.trans (hb1.mono HB.out.size))
    have hBs := HB1.out.size
    have hbk : k + 1 ≤ maxLen := by unfold maxLen; omega
    have hby : (k + 1) * 16 ≤ 140737488355328 := by omega
    have hNx := Lib.hid (show svs ss k ++ [Value.string (ss.getD k ByteArray.empty)] = svs ss (k + 1) from svs_succ ss k)
    generalize ss.getD k ByteArray.empty = sk at *
    clear hb1 hown HC HB
    go_wp2_with (at_builtin; refine halt_F ?_)
    refine resume_F ?_
    refine wpList_append_own _ rfl _ _ 22 rfl w.heap.size 9 i9 (.string ⟨#[]⟩) 1 16 Try.underlying22 hi9 hy0 hy1 hy2 rfl (by decide) _ k _ rfl (own1.alloc _) ⟨w1.heap.size, 0, none⟩ 1 1 [.string sk] rfl rfl (oneS_at (heap_alloc_new w1 _)) (by simp [Value.oneCell']) (by unfold maxLen; omega) (by omega) (by simp; omega) ?_
    intro v' w2 own2 hgrow _
    rw [hNx.out] at own2
    have HB2 := Lib.hid ((HB1.out.alloc hBs _).grown hgrow (by simp; omega) (fun k hk => (own1.lt k hk).1))
    clear own1 hgrow HB1
    rcases HK.out with ⟨hkn, hsq⟩ | ⟨hkn, hq2, hx2, hd2⟩
    · subst hkn
      obtain ⟨g2, c2, rfl, hg2⟩ := own_pos1 own2 (by omega)
      have hB2 := HB2.out.size
      have g0 : decide ((s.size : Int) ≤ (q : Int)) = true := decide_eq_true (by omega)
      clear HK HF
      go_wp2_with (at_builtin; refine halt_F ?_)
      refine resume_F ?_
      refine wpList_append_own _ rfl _ _ 25 rfl w.heap.size 22 i2 (.slice none 0 0) 1 24 Try.underlying25 hi2 hz0 hz1 hz2 rfl (by decide) _ 0 [] rfl ((World.ownsRow_nil _ _ _ _).alloc _) ⟨w2.heap.size, 0, none⟩ 1 1 [.slice (some ⟨g2, 0, none⟩) (k + 1) c2] rfl rfl (oneS_at (heap_alloc_new w2 _)) (by simp [Value.oneCell']) (by unfold maxLen; omega) (by omega) (by simp; omega) ?_
      intro v3 w3 own3 hgrow3x _
      have hgrow3 : (w2.alloc (.cells #[.slice (some ⟨g2, 0, none⟩) (k + 1) c2] 22)).grownBy w3 none := hgrow3x
      clear hgrow3x
      have own2b := (own2.alloc (.cells #[.slice (some ⟨g2, 0, none⟩) (k + 1) c2] 22)).kept hgrow3 (.inr (by simp [Value.ownBlock]))
      have HB3 := Lib.hid ((HB2.out.alloc hB2 _).grown hgrow3 (by simp; omega) (fun k hk => by cases hk))
      obtain ⟨g1, c1, rfl, hg1⟩ := own_pos1 own3 (by omega)
      have hc1 : w3.cell? ⟨g1, 0, none⟩ = some (.slice (some ⟨g2, 0, none⟩) (k + 1) c2) := by
        rw [own3.cellAt 0 (by omega)]; rfl
      have hc2 := Lib.hid (fun j (hj : j < k + 1) => show w3.cell? ⟨g2, j, none⟩ = some (.string (ss.getD j ByteArray.empty)) by
        rw [own2b.cellAt j (by omega)]
        simp [svs, sv, hj])
      have hg2' := (own2b.lt g2 rfl).2
      have HC1 := Lib.hid hc1
      clear own3 own2b hgrow3 own2 hc1 HB2
      go_wp2_with fail
      go_ret2
      exact ⟨g1, c1, g2, c2, rfl, HB3.out, hg1, hg2', HC1.out, hc2.out⟩
    · have hix := idx_at s q hq2 hs w2
      rw [hx2] at hix
      have hix' : (Instr.index 9 (.string s) (.int .i64 (q : Int))).run Try.prog w2 = .ok (.int .u8 44) w2 := hix
      have g0 : decide ((s.size : Int) ≤ (q : Int)) = false := decide_eq_false (by omega)
      have HD2 := Lib.hid hd2
      clear HK hix hx2 hd2
      go_wp2_with fail
      go_roundw
      case rel => exact ⟨k + 1, q + 1, hkn, by omega, by omega, by go_num, HD2, own2, HB2⟩
      case measure => simp [intOf]; omega
end Go.Proofs.Ytlookapkakeinaa
