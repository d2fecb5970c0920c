/- The reference's cache: put, got. At most 100000 entries, each key once. -/
import Derived.Test.YtnggdeggcflodaaLr8
namespace Go.Proofs.Ytnggdeggcflodaa
open Go.RowKit Go.MapKept
set_option linter.unusedVariables false
abbrev Keys (E : List (Int × Int)) : Prop := (E.map (·.1)).Nodup
theorem outE_not {k : Int} {E : List (Int × Int)} : ∀ p ∈ outE k E, p.1 ≠ k := by
  intro p hp
  unfold outE at hp
  rw [List.mem_filter] at hp
  simpa using hp.2
theorem outE_nop {k : Int} {E : List (Int × Int)} (h : ∀ p ∈ E, p.1 ≠ k) : outE k E = E := by
  unfold outE
  rw [List.filter_eq_self]
  intro p hp
  simpa using h p hp
theorem keys_mid {E1 E2 : List (Int × Int)} {p : Int × Int} (h : Keys (E1 ++ p :: E2)) : (∀ q ∈ E1, q.1 ≠ p.1) ∧ ∀ q ∈ E2, q.1 ≠ p.1 := by
  unfold Keys at h
  rw [List.map_append, List.map_cons, List.nodup_append] at h
  obtain ⟨_, h2, h3⟩ := h
  rw [List.nodup_cons] at h2
  exact ⟨fun y hy => h3 _ (List.mem_map_of_mem hy) _ (by simp), fun y hy e => h2.1 (e ▸ List.mem_map_of_mem hy)⟩
theorem outE_pmid {E1 E2 : List (Int × Int)} {p : Int × Int} (h : Keys (E1 ++ p :: E2)) : outE p.1 (E1 ++ p :: E2) = E1 ++ E2 := by
  obtain ⟨h1, h2⟩ := keys_mid h
  have e1 : outE p.1 E1 = E1 := outE_nop h1
  have e2 : outE p.1 E2 = E2 := outE_nop h2
  unfold outE at e1 e2 ⊢
  rw [List.filter_append, List.filter_cons, e1, e2]
  simp
theorem find_pmid {E1 E2 : List (Int × Int)} {p : Int × Int} (h : Keys (E1 ++ p :: E2)) : (E1 ++ p :: E2).find? (fun q => decide (q.1 = p.1)) = some p := by
  obtain ⟨h1, _⟩ := keys_mid h
  rw [List.find?_append, List.find?_eq_none.2 (fun q hq => by simpa using h1 q hq)]
  simp
theorem find_pnone {k : Int} {E : List (Int × Int)} (h : ∀ p ∈ E, p.1 ≠ k) : E.find? (fun q => decide (q.1 = k)) = none := List.find?_eq_none.2 (fun q hq => by simpa using h q hq)
theorem keys_out {k : Int} {E : List (Int × Int)} (h : Keys E) : Keys (outE k E) := (List.filter_sublist.map _).nodup h
theorem keys_snoc {k v : Int} {E : List (Int × Int)} (h : Keys E) (hk : ∀ p ∈ E, p.1 ≠ k) : Keys (E ++ [(k, v)]) := by
  unfold Keys at h ⊢
  rw [List.map_append, List.nodup_append]
  refine ⟨h, by simp, fun a ha b hb => ?_⟩
  obtain ⟨p, hp, rfl⟩ := List.mem_map.1 ha
  simp at hb
  subst hb
  exact hk p hp
theorem keys_put {n : Nat} {k v : Int} {E : List (Int × Int)} (h : Keys E) : Keys (putE n k v E) := by
  unfold putE
  split
  · exact keys_snoc ((List.tail_sublist _).map _ |>.nodup (keys_out h)) fun p hp => outE_not p (List.mem_of_mem_tail hp)
  · exact keys_snoc (keys_out h) outE_not
theorem keys_get {k : Int} {E : List (Int × Int)} (h : Keys E) : Keys (getE k E) := by
  unfold getE
  split
  · exact h
  · rename_i p hp
    have : p.1 = k := by simpa using List.find?_some hp
    obtain ⟨pk, pv⟩ := p
    simp only at this
    subst this
    exact keys_snoc (keys_out h) outE_not
/-- The reference's cache with the entries E. -/
def Spc (w : World) (B cb n : Nat) (E : List (Int × Int)) : Prop := ∃ v h1 h2, SpcR w B cb n h1 h2 v E ∧ Keys E ∧ E.length ≤ n ∧ 1 ≤ n ∧ n ≤ 100000
theorem info39 : (Try.prog.info? tP).map (fun i => (i.zero, i.size, i.bytes)) = some (some (.agg #[.int .i64 0, .int .i64 0]), 2, 16) := infoP
theorem pc_snoc (l : List (Int × Int)) (p q : Int) : pc (l ++ [(p, q)]) = pc l ++ [.int .i64 p, .int .i64 q] := by simp [pc]
theorem append_pair {ops : Array Oper} {rest : List Oper} {a : Act} {Q : Exit → Act → World → Prop} {dst : Option Tmp} {s x : Operand} {ty : TypeId} {ps : String} {af : Array Edge} {w : World} {B g : Nat} {v : Value} {l : List (Int × Int)} {p q : Int}
    (h : w.ownsRow B tP 2 v l.length (pc l)) (hs : a.eval s = v) (hx : a.eval x = .slice (some ⟨g, 0, none⟩) 1 1) (hblk : Blk w g tP #[.int .i64 p, .int .i64 q]) (hlen : l.length ≤ 1000000) (hB : B ≤ w.heap.size)
    (hK : ∀ A cap w', w'.ownsRow B tP 2 (.slice A (l.length + 1) cap) (l ++ [(p, q)]).length (pc (l ++ [(p, q)])) → w.grownBy w' v.ownBlock → wpList Try.prog ops Q rest (a.put dst (.slice A (l.length + 1) cap)) w') :
    wpList Try.prog ops Q (⟨dst, .call { callee := .builtin .append, args := #[s, x], argTypes := #[28, 28] }, ty, ps, af, none⟩ :: rest) a w := by
  obtain ⟨i0, hi, hz0, hz1, hz2⟩ := info_parts info39
  refine wpList_append_own _ rfl s x 28 rfl B tP i0 (.agg #[.int .i64 0, .int .i64 0]) 2 16 Try.underlying28 hi hz0 hz1 hz2 rfl (by decide) v l.length (pc l) hs h ⟨g, 0, none⟩ 1 1 [.int .i64 p, .int .i64 q] hx rfl (World.news_of_block hblk) (by simp [Value.oneCell']) (by unfold maxLen; omega) (by omega) hB ?_
  intro v' w' hown hg _
  obtain ⟨A, cap, rfl⟩ := own_slice hown
  refine hK A cap w' (by rw [pc_snoc]; simpa using hown) hg
/-- Behind the append of an entry and its store. -/
theorem SpcR.push {w w1 w2 : World} {B cb : Nat} {n h1 h2 p q : Int} {v v' : Value} {l : List (Int × Int)} (h : SpcR w B cb n h1 h2 v l) (hg : w.grownBy w1 v.ownBlock) (ho : w1.ownsRow B tP 2 v' (l ++ [(p, q)]).length (pc (l ++ [(p, q)])))
    (g2 : Blk w2 cb tS #[.int .i64 n, v', .int .i64 h1, .int .i64 h2]) (g3 : Put w1 w2 cb) : SpcR w2 B cb n h1 h2 v' (l ++ [(p, q)]) ∧ Sx B w w2 := by
  have hne : some cb ≠ v.ownBlock := fun e => by
    rcases h.row.2 with ⟨rfl, _⟩ | ⟨g, cap, cur, rfl, _, hgb, _⟩
    · simp [Value.ownBlock] at e
    · simp [Value.ownBlock] at e
      subst e
      exact Blk.type_ne (t := tP) (u := tS) hgb h.blk (by decide) rfl
  have g1 := h.blk.grown hg hne
  have hB := h.lt
  have hs := hg.size
  refine ⟨⟨g2, ?_, h.Bc⟩, ?_⟩
  · refine ho.kept g3.grown ?_
    by_cases hn : v'.ownBlock = none
    · exact .inl hn
    · refine .inr fun e => ?_
      rcases ho.2 with ⟨rfl, _⟩ | ⟨g, cap, cur, rfl, _, hgb, _⟩
      · simp [Value.ownBlock] at e
      · simp [Value.ownBlock] at e
        subst e
        exact Blk.type_ne (t := tP) (u := tS) hgb g1 (by decide) rfl
  · exact ((Sx.refl B w).grown hg h.row hB).put g3 (by omega) h.Bc g1
theorem SpcR.grown_none {w w' : World} {B cb : Nat} {n h1 h2 : Int} {v : Value} {l : List (Int × Int)} (h : SpcR w B cb n h1 h2 v l) (hg : w.grownBy w' none) : SpcR w' B cb n h1 h2 v l :=
  ⟨h.blk.grown hg (by simp), h.row.kept hg (by cases hv : v.ownBlock <;> simp), h.Bc⟩
theorem placed {E : List (Int × Int)} {k : Int} {i : Nat} (hi : i < E.length) (hp : ∃ p, E[i]? = some p ∧ p.1 = k) : ∃ E1 p E2, E = E1 ++ p :: E2 ∧ E1.length = i ∧ p.1 = k := by
  obtain ⟨p, hp, e⟩ := hp
  refine ⟨E.take i, p, E.drop (i + 1), ?_, by simp; omega, e⟩
  have h1 := List.take_append_drop i E
  rw [List.drop_eq_getElem_cons hi] at h1
  rw [List.getElem?_eq_getElem hi] at hp
  cases hp
  exact h1.symm
def PutRet (B cb n : Nat) (E : List (Int × Int)) (w : World) (e : Ending) (w' : World) : Prop := (∃ A l c, e = .returned (.slice A l c)) ∧ Spc w' B cb n E ∧ Sx B w w'
theorem infoSl : (Try.prog.info? 28).map (·.size) = some 1 := by kernel_rfl
set_option maxHeartbeats 2000000 in
set_option maxRecDepth 100000 in
theorem put_any (B cb n : Nat) (E : List (Int × Int)) (k v : Int) (w : World) (h : Spc w B cb n E) :
    Calls Try.prog 8 #[.pointer (some ⟨cb, 0, none⟩), .int .i64 k, .int .i64 v] w (PutRet B cb n (putE n k v E) w) := by
  obtain ⟨v0, h1, h2, hR, hK, hn1, hn2, hn3⟩ := h
  have hP := place_any B cb n h1 h2 k v0 E w hR (by omega)
  have HR := Lib.hid hR
  have HK := Lib.hid hK
  clear hR hK
  go_enter Try.func8, Try.ntmps8
  go_wp2_with (go_at_call 10; refine hP.mono ?_)
  rintro e w1 ⟨rfl, hcase⟩
  clear hP
  rcases hcase with ⟨i, hi, hp, _, rfl⟩ | ⟨hno, rfl⟩
  · obtain ⟨E1, p, E2, rfl, rfl, rfl⟩ := placed hi hp
    have hT := taken_any B cb n h1 h2 v0 E1 p E2 w HR.out (by omega)
    have HE := Lib.hid (outE_pmid HK.out)
    have hi0 : (0 : Int) ≤ (E1.length : Int) := by omega
    have Hz := Lib.hid hn1
    clear hi hp hn1
    go_wp2_with (go_at_call 11; refine hT.mono ?_)
    rintro e w1 ⟨rfl, ⟨v1, r1⟩, b1⟩
    have hz : (E1 ++ E2).length < n := by have := Hz.out; simp at this ⊢; omega
    have HR1 := Lib.hid r1
    have HB1 := Lib.hid b1
    have HF := Lib.hid (show putE n p.1 v (E1 ++ p :: E2) = (E1 ++ E2) ++ [(p.1, v)] by unfold putE; rw [HE.out, if_neg (by omega)])
    clear hT r1 b1 hi0
    generalize (E1 ++ E2) = E' at *
    obtain ⟨A, cap, rfl, hc1, hc2, _⟩ := HR1.out.form
    have f1 : w1.cell? ⟨cb, 1, none⟩ = some (.slice A E'.length cap) := HR1.out.blk.cell 1 rfl
    have f0 : w1.cell? ⟨cb, 0, none⟩ = some (.int .i64 n) := HR1.out.blk.cell 0 rfl
    have d0 : decide (n ≤ E'.length) = false := decide_eq_false (by omega)
    go_wp2_with fail
    go_quiet (fail)
    have HR2 := Lib.hid (HR1.out.drewN nq)
    have HB2 := Lib.hid (HB1.out.trans (Sx.drewK B w1 nq))
    have g1 : (w1.drewN nq).cell? ⟨cb, 1, none⟩ = some (.slice A E'.length cap) := f1
    generalize hw2 : w1.drewN nq = w2 at *
    clear hw2 f0 f1 HR1 HB1 d0
    go_wp2_with (at_builtin; refine halt_L ?_)
    refine resume_L ?_
    refine append_pair (HR2.out.row.alloc _) rfl rfl (Blk.new w2 tP #[.int .i64 p.1, .int .i64 v]) (by omega) (by have := HR2.out.lt; simp; omega) ?_
    intro A3 c3 w3 ho3 hg3
    have hb3 := (HR2.out.alloc (.cells #[.int .i64 p.1, .int .i64 v] tP)).blk.grown hg3 (fun e => (HR2.out.alloc (.cells #[.int .i64 p.1, .int .i64 v] tP)).ne_own e)
    have HO3 := Lib.hid ho3
    have HG3 := Lib.hid hg3
    clear g1 ho3 hg3
    go_wp2_with ((with_reducible refine gate_st (t := 28) rfl ?_); refine halt_L ?_)
    refine resume_L ?_
    refine wpList_put hb3 (o := 1) (v := .slice A3 (E'.length + 1) c3) (by simp) rfl rfl rfl infoSl ?_
    intro w4 hb4 p4
    obtain ⟨r4, b4⟩ := (HR2.out.alloc (.cells #[.int .i64 p.1, .int .i64 v] tP)).push HG3.out HO3.out hb4 p4
    go_wp2
    go_ret
    refine ⟨⟨_, _, _, rfl⟩, ⟨_, h1, h2, by rw [HF.out]; exact r4, keys_put HK.out, by rw [HF.out]; simp; omega, hn2, hn3⟩, (HB2.out.alloc HR2.out.lt _).trans b4⟩
  · have HE := Lib.hid (outE_nop hno)
    by_cases hfull : n ≤ E.length
    · rcases E with _ | ⟨p, E'⟩
      · exact absurd hfull (by simp; omega)
      have hz : n ≤ E'.length + 1 := by simpa using hfull
      have hz2 : E'.length < n := by simp at hn1; omega
      have HF := Lib.hid (show putE n k v (p :: E') = E' ++ [(k, v)] by unfold putE; rw [HE.out, if_pos hfull]; rfl)
      have HB := Lib.hid (Sx.refl B w)
      obtain ⟨A, cap, rfl, hc1, hc2, _⟩ := HR.out.form
      have f1 : w.cell? ⟨cb, 1, none⟩ = some (.slice A (p :: E').length cap) := HR.out.blk.cell 1 rfl
      have f0 : w.cell? ⟨cb, 0, none⟩ = some (.int .i64 n) := HR.out.blk.cell 0 rfl
      have d0 : decide (n ≤ (p :: E').length) = true := decide_eq_true (by omega)
      go_wp2_with fail
      go_quiet (fail)
      have hT := taken_any B cb n h1 h2 _ [] p E' (w.drewN nq) (HR.out.drewN nq) (by simp; omega)
      have HB1 := Lib.hid (Sx.drewK B w nq)
      generalize hw2 : w.drewN nq = w1 at *
      clear hw2 f0 f1 d0 hfull hn1
      go_wp2_with (go_at_call 11; refine hT.mono ?_)
      rintro e w2 ⟨rfl, ⟨v1, r1⟩, b1⟩
      rw [List.nil_append] at r1
      obtain ⟨i0, hi, hz0, hz1, hzz⟩ := info_parts info39
      have HR1 := Lib.hid (r1.alloc (.cells #[.int .i64 p.1, .int .i64 p.2] tP))
      have HB1b := Lib.hid ((HB1.out.trans b1).alloc r1.lt (.cells #[.int .i64 p.1, .int .i64 p.2] tP))
      have hNB := Blk.new w2 tP #[.int .i64 p.1, .int .i64 p.2]
      have HNB := Lib.hid hNB
      have HL1 := Lib.hid r1.lt
      clear hT r1 b1 hNB
      go_wp2_with (at_builtin; refine halt_L ?_)
      refine resume_L ?_
      refine wpList_append_own _ rfl _ _ 28 rfl w2.heap.size tP i0 (.agg #[.int .i64 0, .int .i64 0]) 2 16 Try.underlying28 hi hz0 hz1 hzz rfl (by decide) _ 0 [] rfl (World.ownsRow_nil _ _ _ _) ⟨w2.heap.size, 0, none⟩ 1 1 [.int .i64 p.1, .int .i64 p.2] rfl rfl (World.news_of_block HNB.out) (by simp [Value.oneCell']) (by unfold maxLen; omega) (by omega) (by simp) ?_
      intro v3 w3 ho3 hg3 _
      obtain ⟨A0, c0, rfl⟩ := own_slice ho3
      have hno3 : ∀ q, (none : Option Nat) = some q → B ≤ q := fun q hq => by cases hq
      have HR3 := Lib.hid (HR1.out.grown_none hg3)
      have HB3 := Lib.hid (HB1b.out.grown_none hg3 (by have := HL1.out; simp; omega))
      clear hno3 HR1 HB1b HNB ho3 hg3
      obtain ⟨A, cap, rfl, hc1, hc2, _⟩ := HR3.out.form
      have g1 : w3.cell? ⟨cb, 1, none⟩ = some (.slice A E'.length cap) := HR3.out.blk.cell 1 rfl
      have HR2 := HR3
      have HB2 := HB3
      clear HR3 HB3
      go_wp2_with (at_builtin; refine halt_L ?_)
      refine resume_L ?_
      refine append_pair (HR2.out.row.alloc _) rfl rfl (Blk.new w3 tP #[.int .i64 k, .int .i64 v]) (by omega) (by have := HR2.out.lt; simp; omega) ?_
      intro A3 c3 w4 ho3 hg3
      have hb3 := (HR2.out.alloc (.cells #[.int .i64 k, .int .i64 v] tP)).blk.grown hg3 (fun e => (HR2.out.alloc (.cells #[.int .i64 k, .int .i64 v] tP)).ne_own e)
      have HO3 := Lib.hid ho3
      have HG3 := Lib.hid hg3
      clear g1 ho3 hg3
      go_wp2_with ((with_reducible refine gate_st (t := 28) rfl ?_); refine halt_L ?_)
      refine resume_L ?_
      refine wpList_put hb3 (o := 1) (v := .slice A3 (E'.length + 1) c3) (by simp) rfl rfl rfl infoSl ?_
      intro w5 hb4 p4
      obtain ⟨r4, b4⟩ := (HR2.out.alloc (.cells #[.int .i64 k, .int .i64 v] tP)).push HG3.out HO3.out hb4 p4
      go_wp2
      go_ret
      refine ⟨⟨_, _, _, rfl⟩, ⟨_, h1, h2, by rw [HF.out]; exact r4, keys_put HK.out, by rw [HF.out]; simp; omega, hn2, hn3⟩, (HB2.out.alloc HR2.out.lt _).trans b4⟩
    · have hz : E.length < n := by omega
      have HF := Lib.hid (show putE n k v E = E ++ [(k, v)] by unfold putE; rw [HE.out, if_neg hfull])
      have HB := Lib.hid (Sx.refl B w)
      obtain ⟨A, cap, rfl, hc1, hc2, _⟩ := HR.out.form
      have f1 : w.cell? ⟨cb, 1, none⟩ = some (.slice A E.length cap) := HR.out.blk.cell 1 rfl
      have f0 : w.cell? ⟨cb, 0, none⟩ = some (.int .i64 n) := HR.out.blk.cell 0 rfl
      have d0 : decide (n ≤ E.length) = false := decide_eq_false (by omega)
      have HR1 := HR
      have HB1 := HB
      clear HR HB hfull
      go_wp2_with fail
      go_quiet (fail)
      have HR2 := Lib.hid (HR1.out.drewN nq)
      have HB2 := Lib.hid (HB1.out.trans (Sx.drewK B w nq))
      have g1 : (w.drewN nq).cell? ⟨cb, 1, none⟩ = some (.slice A E.length cap) := f1
      generalize hw2 : w.drewN nq = w2 at *
      clear hw2 f0 f1 HR1 HB1 d0
      go_wp2_with (at_builtin; refine halt_L ?_)
      refine resume_L ?_
      refine append_pair (HR2.out.row.alloc _) rfl rfl (Blk.new w2 tP #[.int .i64 k, .int .i64 v]) (by omega) (by have := HR2.out.lt; simp; omega) ?_
      intro A3 c3 w3 ho3 hg3
      have hb3 := (HR2.out.alloc (.cells #[.int .i64 k, .int .i64 v] tP)).blk.grown hg3 (fun e => (HR2.out.alloc (.cells #[.int .i64 k, .int .i64 v] tP)).ne_own e)
      have HO3 := Lib.hid ho3
      have HG3 := Lib.hid hg3
      clear g1 ho3 hg3
      go_wp2_with ((with_reducible refine gate_st (t := 28) rfl ?_); refine halt_L ?_)
      refine resume_L ?_
      refine wpList_put hb3 (o := 1) (v := .slice A3 (E.length + 1) c3) (by simp) rfl rfl rfl infoSl ?_
      intro w4 hb4 p4
      obtain ⟨r4, b4⟩ := (HR2.out.alloc (.cells #[.int .i64 k, .int .i64 v] tP)).push HG3.out HO3.out hb4 p4
      go_wp2
      go_ret
      refine ⟨⟨_, _, _, rfl⟩, ⟨_, h1, h2, by rw [HF.out]; exact r4, keys_put HK.out, by rw [HF.out]; simp; omega, hn2, hn3⟩, (HB2.out.alloc HR2.out.lt _).trans b4⟩
end Go.Proofs.Ytnggdeggcflodaa
