/- What the calls of a cache do to its entries, the oldest one first: Get, Len, Cap, HitRate, Purge, Add, GetOrCompute; a cache made. No conditions. -/
import Derived.Test.YtnggdeggcflodaaLr5
import Derived.Laws.Cover2
namespace Go.Proofs.Ytnggdeggcflodaa
open Go.RowKit Go.MapKept
set_option linter.unusedVariables false
def getE (k : Int) (E : List (Int × Int)) : List (Int × Int) := match E.find? fun p => decide (p.1 = k) with | none => E | some p => outE k E ++ [p]
def putE (n : Nat) (k v : Int) (E : List (Int × Int)) : List (Int × Int) := (if n ≤ (outE k E).length then (outE k E).tail else outE k E) ++ [(k, v)]
def compE (n : Nat) (k v : Int) (E : List (Int × Int)) : List (Int × Int) := match E.find? fun p => decide (p.1 = k) with | none => putE n k v E | some p => outE k E ++ [p]
theorem find_none {k : Int} {L : List Nd} (h : ∀ x ∈ L, x.k ≠ k) : (EL L).find? (fun p => decide (p.1 = k)) = none := by
  rw [List.find?_eq_none]
  intro p hp
  simp only [EL, List.mem_reverse, List.mem_map] at hp
  obtain ⟨x, hx, rfl⟩ := hp
  simpa using h x hx
theorem find_mid {l1 l2 : List Nd} {x : Nd} (h : ((l1 ++ x :: l2).map Nd.k).Nodup) : (EL (l1 ++ x :: l2)).find? (fun p => decide (p.1 = x.k)) = some (x.k, x.v) := by
  obtain ⟨h1, h2⟩ := mid_keys h
  rw [EL_app, EL_cons, List.append_assoc, List.find?_append, find_none h2]
  simp
theorem getE_none {k : Int} {L : List Nd} (h : ∀ x ∈ L, x.k ≠ k) : getE k (EL L) = EL L := by unfold getE; rw [find_none h]
theorem getE_mid {l1 l2 : List Nd} {x : Nd} (h : ((l1 ++ x :: l2).map Nd.k).Nodup) : getE x.k (EL (l1 ++ x :: l2)) = EL (x :: (l1 ++ l2)) := by
  unfold getE
  rw [find_mid h, outE_mid h, EL_cons]
theorem compE_mid {n : Nat} {v : Int} {l1 l2 : List Nd} {x : Nd} (h : ((l1 ++ x :: l2).map Nd.k).Nodup) : compE n x.k v (EL (l1 ++ x :: l2)) = EL (x :: (l1 ++ l2)) := by
  unfold compE
  rw [find_mid h, outE_mid h, EL_cons]
theorem compE_none {n : Nat} {k v : Int} {L : List Nd} (h : ∀ x ∈ L, x.k ≠ k) : compE n k v (EL L) = putE n k v (EL L) := by unfold compE; rw [find_none h]
theorem putE_mid {n : Nat} {v : Int} {l1 l2 : List Nd} {x : Nd} (h : ((l1 ++ x :: l2).map Nd.k).Nodup) (hn : (l1 ++ x :: l2).length ≤ n) : putE n x.k v (EL (l1 ++ x :: l2)) = EL ({ x with v := v } :: (l1 ++ l2)) := by
  unfold putE
  rw [outE_mid h, EL_cons, if_neg]
  simp [EL] at hn ⊢; omega
theorem putE_fits {n : Nat} {k v : Int} {L : List Nd} {g : Nat} (h : ∀ x ∈ L, x.k ≠ k) (hn : L.length < n) : putE n k v (EL L) = EL (⟨g, k, v⟩ :: L) := by
  unfold putE
  rw [outE_none h, EL_cons, if_neg]
  simp [EL]; omega
theorem putE_full {n : Nat} {k v : Int} {l : List Nd} {x : Nd} {g : Nat} (h : ∀ y ∈ l ++ [x], y.k ≠ k) (hn : n ≤ (l ++ [x]).length) : putE n k v (EL (l ++ [x])) = EL (⟨g, k, v⟩ :: l) := by
  unfold putE
  rw [outE_none h, EL_cons, if_pos]
  · simp [EL]
  · simpa [EL] using hn
theorem run_makeMap_hint (n : Int) (w : World) : (Instr.makeMap tM (some (.int .i64 n))).run Try.prog w = .ok (.map (some w.heap.size)) (w.alloc (.map #[] 0)) := by
  simp only [Instr.makeMap, Sem.run_bind, run_underlying (P := Try.prog) (w := w) Try.underlying58, asInt, asIntOf, Sem.run_pure, Result.andThen_ok]
  rfl
theorem run_quo (x y : Nat) (w : World) : ∃ r q, (binOp .quo 27 (.float .f64 x) (.float .f64 y)).run Try.prog w = .ok (.float .f64 r) (w.drewN q) := by
  have e : binOp .quo 27 (.float .f64 x) (.float .f64 y) = Op.floatArith .quo .f64 x y := by rfl
  rw [e]
  unfold Op.floatArith
  cases hd : FloatKind.f64.format.div x y with
  | some r => exact ⟨r, 0, rfl⟩
  | none =>
    simp only [Sem.run_bind, Sem.run_pure, Result.andThen_ok, run_choose]
    split
    · exact ⟨_, 0, rfl⟩
    · exact ⟨_, 1, rfl⟩
theorem info64 : (Try.prog.info? 2).map (·.size) = some 1 := by kernel_rfl
theorem infoI : (Try.prog.info? 3).map (·.size) = some 1 := by kernel_rfl
theorem infoM : (Try.prog.info? tM).map (·.size) = some 1 := by kernel_rfl
theorem Lru.put_c {w w1 : World} {B c m : Nat} {n h1 h2 z1 z2 : Int} {L : List Nd} (h : Lru w B c m n L h1 h2) (hp : Put w w1 c)
    (hb : Blk w1 c tL (lruC (.int .i64 n) (.map (some m)) (pt (hdO L none)) (pt (ltO none L)) .nilFunc (.int .i64 z1) (.int .i64 z2))) : Lru w1 B c m n L z1 z2 ∧ Kx B w w1 := by
  refine ⟨⟨hb, hp.pmap h.map (Ne.symm h.ne_m), h.chain.keep fun x hx => ?_, h.gs, h.ks, h.Bc, h.Bm, h.Bg⟩, (Kx.refl B w).put hp h.lt h.Bc fun cs t hb => .inl ?_⟩
  · obtain ⟨_, _, hb⟩ := h.chain.at_ hx
    exact hp.keep hb.lt (h.chain.ne h.blk hx)
  · have := h.blk
    unfold Blk at this hb
    rw [hb] at this
    injection this with this
    injection this with _ this
theorem Lru.put_x {w w1 : World} {B c m : Nat} {n h1 h2 v : Int} {l1 l2 : List Nd} {x : Nd} {p q : Value} (h : Lru w B c m n (l1 ++ x :: l2) h1 h2) (hp : Put w w1 x.g)
    (hx : Blk w x.g tE #[.int .i64 x.k, .int .i64 x.v, p, q]) (hb : Blk w1 x.g tE #[.int .i64 x.k, .int .i64 v, p, q]) : Lru w1 B c m n (l1 ++ { x with v := v } :: l2) h1 h2 ∧ Kx B w w1 := by
  obtain ⟨c1, hx2, c2⟩ := chain_app.1 h.chain
  obtain ⟨g1, g4, g2⟩ := nd_app h.gs
  have ehd : hdO (l1 ++ x :: l2) none = hdO (l1 ++ { x with v := v } :: l2) none := by cases l1 <;> rfl
  have elt : ltO none (l1 ++ x :: l2) = ltO none (l1 ++ { x with v := v } :: l2) := by rw [ltO_app, ltO_app]; rfl
  have hmem : x ∈ l1 ++ x :: l2 := by simp
  have epq : p = pt (ltO none l1) ∧ q = pt (hdO l2 none) := by
    unfold Blk at hx hx2
    rw [hx] at hx2
    injection hx2 with hx2
    injection hx2 with hx2
    have := congrArg Array.toList hx2
    simp at this
    exact this
  obtain ⟨rfl, rfl⟩ := epq
  refine ⟨⟨?_, ?_, ?_, ?_, ?_, h.Bc, h.Bm, ?_⟩, (Kx.refl B w).put hp h.lt (h.Bg x hmem) fun cs t hb => .inr ?_⟩
  · rw [← ehd, ← elt]
    exact hp.blk h.blk (Ne.symm (h.chain.ne h.blk hmem))
  · have := hp.pmap h.map (Ne.symm (h.x_ne_m hmem))
    rw [List.map_append, List.map_cons] at this ⊢
    exact this
  · refine chain_app.2 ⟨?_, hb, ?_⟩
    · exact c1.keep fun y hy => by
        obtain ⟨_, _, hb⟩ := c1.at_ hy
        exact hp.keep hb.lt (g2 y hy x (by simp))
    · exact c2.keep fun y hy => by
        obtain ⟨_, _, hb⟩ := c2.at_ hy
        exact hp.keep hb.lt (nd_ne g4 hy)
  · have := h.gs
    rw [List.map_append, List.map_cons] at this ⊢
    exact this
  · have := h.ks
    rw [List.map_append, List.map_cons] at this ⊢
    exact this
  · intro y hy
    rcases List.mem_append.1 hy with hy | hy
    · exact h.Bg y (by simp [hy])
    · rcases List.mem_cons.1 hy with rfl | hy
      · exact h.Bg x hmem
      · exact h.Bg y (by simp [hy])
  · unfold Blk at hx hb
    rw [hx] at hb
    injection hb with hb
    injection hb with _ hb
    exact hb.symm
theorem Lru.wide {w w2 : World} {B c m : Nat} {n h1 h2 : Int} {L : List Nd} {x : Nd} (h : Lru w B c m n L h1 h2) (hB : B ≤ w.heap.size) (hx : x.g = w.heap.size) {w1 : World} (hc2 : Blk w1 c tL (lruC (.int .i64 n) (.map (some m)) (pt (hdO (x :: L) none)) (pt (ltO none (x :: L))) .nilFunc (.int .i64 h1) (.int .i64 h2)))
    (hch : Chain w1 none (x :: L) none) {o : Array Value} (hm : Mod (w.alloc (.cells o tE)) w1 (SubS c (x :: L))) (hk : ∀ y ∈ L, y.k ≠ x.k) (hp : PMap w2 m ((x.k, pt (some x.g)) :: L.map fun x => (x.k, pt (some x.g)))) (h12 : Put w1 w2 m) : Lru w2 B c m n (x :: L) h1 h2 ∧ Kx B w w2 := by
  have ha := h.alloc (.cells o tE)
  have hgs : ((x :: L).map Nd.g).Nodup := by
    rw [List.map_cons, List.nodup_cons]
    refine ⟨fun hm => ?_, h.gs⟩
    obtain ⟨y, hy, e⟩ := List.mem_map.1 hm
    obtain ⟨_, _, hb⟩ := h.chain.at_ hy
    have := hb.lt
    omega
  have hsz : w1.heap.size = w.heap.size + 1 := by rw [hm.size]; simp
  have hsub : ∀ k, SubS c (x :: L) k → B ≤ k ∧ ∃ t cs, Blk (w.alloc (.cells o tE)) k t cs ∧ (t = tL ∨ t = tE) := fun k hk => by
    rcases hk with rfl | ⟨y, hy, rfl⟩
    · exact ⟨h.Bc, _, _, ha.blk, .inl rfl⟩
    · rcases List.mem_cons.1 hy with rfl | hy
      · rw [hx]; exact ⟨hB, _, _, Blk.new w tE o, .inr rfl⟩
      · obtain ⟨_, _, hb⟩ := ha.chain.at_ hy
        exact ⟨h.Bg y hy, _, _, hb, .inr rfl⟩
  have k1 : Kx B w w1 := ((Kx.refl B w).alloc hB _).trans (hm.kx (by simp; omega) hsub)
  have nm : ¬ SubS c (x :: L) m := by
    rintro (e | ⟨y, hy, e⟩)
    · exact h.ne_m e.symm
    · rcases List.mem_cons.1 hy with rfl | hy
      · have := h.map.lt; omega
      · exact h.x_ne_m hy e
  refine ⟨⟨h12.blk hc2 h.ne_m, hp, hch.keep fun y hy => ?_, hgs, ?_, h.Bc, h.Bm, ?_⟩, k1.put h12 (by omega) h.Bm fun cs t hb => ?_⟩
  · obtain ⟨_, _, hb⟩ := hch.at_ hy
    refine h12.keep hb.lt ?_
    intro e
    exact nm (.inr ⟨y, hy, e⟩)
  · rw [List.map_cons, List.nodup_cons]
    refine ⟨fun hm => ?_, h.ks⟩
    obtain ⟨y, hy, e⟩ := List.mem_map.1 hm
    exact hk y hy e
  · intro y hy
    rcases List.mem_cons.1 hy with rfl | hy
    · omega
    · exact h.Bg y hy
  · exfalso
    have hM := ha.map.keep (w' := w1) (hm.block m ha.map.lt nm)
    exact hM.ne_blk hb rfl
theorem wpList_new {w : World} {b : Nat} {ops : Array Oper} {rest : List Oper} {a : Act} {Q : Exit → Act → World → Prop} {mo ko vo : Operand} {ty : TypeId} {ps : String} {af : Array Edge} {L : List Nd} {x : Nd} (h : PMap w b (L.map fun x => (x.k, pt (some x.g)))) (hd : ∀ y ∈ L, y.k ≠ x.k)
    (hm : a.eval mo = .map (some b)) (hk : a.eval ko = .int .i64 x.k) (hv : a.eval vo = .pointer (some ⟨x.g, 0, none⟩))
    (hK : ∀ w', PMap w' b ((x.k, pt (some x.g)) :: L.map fun x => (x.k, pt (some x.g))) → Put w w' b → wpList Try.prog ops Q rest a w') : wpList Try.prog ops Q (⟨none, .mapUpdate tM mo ko vo, ty, ps, af, none⟩ :: rest) a w := by
  refine wpList_plain rfl fun K' hK' => ?_
  obtain ⟨w', hrun, r1, r2⟩ := h.run_new (k := x.k) (v := pt (some x.g)) (P := Try.prog) (fun p hp => by
    obtain ⟨y, hy, rfl⟩ := List.mem_map.1 hp
    exact hd y hy) Try.underlying58 Try.underlying3
  rw [pt_some] at hrun
  unfold Oper.wp execOp
  simp only [hm, hk, hv, Sem.run_bind, hrun, Result.andThen_ok, Sem.run_pure]
  show K' a w'
  exact hK' _ _ (hK w' r1 r2)
set_option maxHeartbeats 1000000 in
set_option maxRecDepth 100000 in
theorem len_any (B c n : Nat) (E : List (Int × Int)) (w : World) (h : Cach w B c n E) :
    Calls Try.prog 22 #[pt (some c)] w (AnyRet B c n E w fun e => ∃ z, e = .returned (.int .i64 z)) := by
  obtain ⟨m, L, h1, h2, hl, rfl, hn1, hn2, hn3⟩ := h
  have f0 : w.cell? ⟨c, 0, none⟩ = some (.int .i64 n) := hl.blk.cell 0 rfl
  have f1 : w.cell? ⟨c, 1, none⟩ = some (.map (some m)) := hl.blk.cell 1 rfl
  have e0 : decide (n = 0) = false := decide_eq_false (by omega)
  have Hn := Lib.hid (show L.length ≤ n ∧ 1 ≤ n ∧ n ≤ 100000 from ⟨hn1, hn2, hn3⟩)
  clear hn1 hn2 hn3
  have hlen := hl.map.run_len Try.underlying58 3
  go_enter Try.func22, Try.ntmps22
  simp only [pt_some]
  go_wp2
  go_ret
  exact ⟨⟨_, rfl⟩, ⟨m, L, h1, h2, hl, rfl, Hn.out⟩, Kx.refl _ _⟩
set_option maxHeartbeats 1000000 in
set_option maxRecDepth 100000 in
theorem cap_any (B c n : Nat) (E : List (Int × Int)) (w : World) (h : Cach w B c n E) :
    Calls Try.prog 23 #[pt (some c)] w (AnyRet B c n E w fun e => ∃ z, e = .returned (.int .i64 z)) := by
  obtain ⟨m, L, h1, h2, hl, rfl, hn1, hn2, hn3⟩ := h
  have f0 : w.cell? ⟨c, 0, none⟩ = some (.int .i64 n) := hl.blk.cell 0 rfl
  have f1 : w.cell? ⟨c, 1, none⟩ = some (.map (some m)) := hl.blk.cell 1 rfl
  have e0 : decide (n = 0) = false := decide_eq_false (by omega)
  have Hn := Lib.hid (show L.length ≤ n ∧ 1 ≤ n ∧ n ≤ 100000 from ⟨hn1, hn2, hn3⟩)
  clear hn1 hn2 hn3
  go_enter Try.func23, Try.ntmps23
  simp only [pt_some]
  go_wp2
  go_ret
  exact ⟨⟨_, rfl⟩, ⟨m, L, h1, h2, hl, rfl, Hn.out⟩, Kx.refl _ _⟩
set_option maxHeartbeats 1000000 in
set_option maxRecDepth 100000 in
theorem rate_any (B c n : Nat) (E : List (Int × Int)) (w : World) (h : Cach w B c n E) :
    Calls Try.prog 24 #[pt (some c)] w (AnyRet B c n E w fun e => ∃ z, e = .returned (.float .f64 z)) := by
  obtain ⟨m, L, h1, h2, hl, rfl, hn1, hn2, hn3⟩ := h
  have f0 : w.cell? ⟨c, 0, none⟩ = some (.int .i64 n) := hl.blk.cell 0 rfl
  have f1 : w.cell? ⟨c, 1, none⟩ = some (.map (some m)) := hl.blk.cell 1 rfl
  have e0 : decide (n = 0) = false := decide_eq_false (by omega)
  have Hn := Lib.hid (show L.length ≤ n ∧ 1 ≤ n ∧ n ≤ 100000 from ⟨hn1, hn2, hn3⟩)
  clear hn1 hn2 hn3
  have f5 : w.cell? ⟨c, 5, none⟩ = some (.int .i64 h1) := hl.blk.cell 5 rfl
  have f6 : w.cell? ⟨c, 6, none⟩ = some (.int .i64 h2) := hl.blk.cell 6 rfl
  go_enter Try.func24, Try.ntmps24
  simp only [pt_some]
  obtain ⟨r, q, hq⟩ := run_quo (floatOfInt .f64 h1) (floatOfInt .f64 (wrap64 (h1 + h2))) w
  go_wp2
  · go_ret
    exact ⟨⟨_, rfl⟩, ⟨m, L, h1, h2, hl, rfl, Hn.out⟩, Kx.refl _ _⟩
  · go_ret
    exact ⟨⟨_, rfl⟩, ⟨m, L, h1, h2, hl.drewN q, rfl, Hn.out⟩, (Kx.refl _ _).drewN q⟩
set_option maxHeartbeats 1000000 in
set_option maxRecDepth 100000 in
theorem get_any (B c n : Nat) (E : List (Int × Int)) (k : Int) (w : World) (h : Cach w B c n E) :
    Calls Try.prog 16 #[pt (some c), .int .i64 k] w (AnyRet B c n (getE k E) w fun e => ∃ z b, e = .returned (.tuple #[.int .i64 z, .bool b])) := by
  obtain ⟨m, L, h1, h2, hl, rfl, hn1, hn2, hn3⟩ := h
  have f0 : w.cell? ⟨c, 0, none⟩ = some (.int .i64 n) := hl.blk.cell 0 rfl
  have f1 : w.cell? ⟨c, 1, none⟩ = some (.map (some m)) := hl.blk.cell 1 rfl
  have e0 : decide (n = 0) = false := decide_eq_false (by omega)
  have Hn := Lib.hid (show L.length ≤ n ∧ 1 ≤ n ∧ n ≤ 100000 from ⟨hn1, hn2, hn3⟩)
  clear hn1 hn2 hn3
  have f5 : w.cell? ⟨c, 5, none⟩ = some (.int .i64 h1) := hl.blk.cell 5 rfl
  have f6 : w.cell? ⟨c, 6, none⟩ = some (.int .i64 h2) := hl.blk.cell 6 rfl
  rcases hl.find k with ⟨l1, x, l2, rfl, hxk, f2⟩ | ⟨hno, f2⟩
  · have HF := Lib.hid hl
    have Hk := Lib.hid hxk
    clear hl hxk
    go_enter Try.func16, Try.ntmps16
    simp only [pt_some]
    go_wp2_with ((with_reducible refine gate_st (t := 2) rfl ?_); refine halt_L ?_)
    refine resume_L ?_
    refine wpList_put HF.out.blk (v := .int .i64 _) (by simp) rfl rfl rfl info64 ?_
    intro w1 hb1 p1
    obtain ⟨r1, k1⟩ := Lru.put_c HF.out p1 hb1
    have hM := move_any B c m n l1 x l2 _ _ w1 r1
    simp only [pt_some] at hM
    clear f0 f1 f2 f5 f6
    go_wp2_with (go_at_call 25; refine hM.mono ?_)
    rintro e w2 ⟨rfl, r2, k2⟩
    have f1 : w2.cell? ⟨x.g, 1, none⟩ = some (.int .i64 x.v) := r2.chain.1.cell 1 rfl
    clear hM
    go_wp2
    go_ret2
    refine ⟨⟨_, _, rfl⟩, ⟨m, _, _, _, r2, ?_, ?_, Hn.out.2⟩, k1.trans k2⟩
    · rw [← Hk.out, getE_mid HF.out.ks]
    · have := Hn.out.1
      simp at this ⊢; omega
  · have HE := Lib.hid (getE_none hno)
    have HF := Lib.hid hl
    clear hno hl
    go_enter Try.func16, Try.ntmps16
    simp only [pt_some]
    go_wp2_with ((with_reducible refine gate_st (t := 2) rfl ?_); refine halt_L ?_)
    refine resume_L ?_
    refine wpList_put HF.out.blk (v := .int .i64 _) (by simp) rfl rfl rfl info64 ?_
    intro w1 hb1 p1
    obtain ⟨r1, k1⟩ := Lru.put_c HF.out p1 hb1
    clear f0 f1 f2 f5 f6
    go_wp2
    go_ret2
    exact ⟨⟨_, _, rfl⟩, ⟨m, L, _, _, r1, HE.out.symm, Hn.out⟩, k1⟩
set_option maxHeartbeats 1000000 in
set_option maxRecDepth 100000 in
theorem purge_any (B c n : Nat) (E : List (Int × Int)) (w : World) (h : Cach w B c n E) :
    Calls Try.prog 21 #[pt (some c)] w (AnyRet B c n [] w fun e => e = .returned (.tuple #[])) := by
  obtain ⟨m, L, h1, h2, hl, rfl, hn1, hn2, hn3⟩ := h
  have f0 : w.cell? ⟨c, 0, none⟩ = some (.int .i64 n) := hl.blk.cell 0 rfl
  have f1 : w.cell? ⟨c, 1, none⟩ = some (.map (some m)) := hl.blk.cell 1 rfl
  have e0 : decide (n = 0) = false := decide_eq_false (by omega)
  have Hn := Lib.hid (show L.length ≤ n ∧ 1 ≤ n ∧ n ≤ 100000 from ⟨hn1, hn2, hn3⟩)
  clear hn1 hn2 hn3
  have f4 : w.cell? ⟨c, 4, none⟩ = some .nilFunc := hl.blk.cell 4 rfl
  have g4 := neq_nilFunc w
  have hmm := run_makeMap_hint n w
  have HF := Lib.hid hl
  clear hl
  go_enter Try.func21, Try.ntmps21
  simp only [pt_some]
  go_wp2_with ((with_reducible refine gate_st (t := 58) rfl ?_); refine halt_L ?_)
  refine resume_L ?_
  have hm0 := PMap.made w
  refine wpList_put (HF.out.blk.alloc _) (v := .map (some w.heap.size)) (by simp) rfl rfl rfl infoM ?_
  intro w1 hb1 p1
  have q1 := p1.pmap hm0 (by have := HF.out.blk.lt; omega)
  clear hmm f0 f1 f4 g4 hm0
  go_wp2_with ((with_reducible refine gate_st (t := 59) rfl ?_); refine halt_L ?_)
  refine resume_L ?_
  refine wpList_put hb1 (v := .pointer none) (by simp) rfl rfl rfl infoE ?_
  intro w2 hb2 p2
  have q2 := p2.pmap q1 (by have := HF.out.blk.lt; omega)
  go_wp2_with ((with_reducible refine gate_st (t := 59) rfl ?_); refine halt_L ?_)
  refine resume_L ?_
  refine wpList_put hb2 (v := .pointer none) (by simp) rfl rfl rfl infoE ?_
  intro w3 hb3 p3
  have q3 := p3.pmap q2 (by have := HF.out.blk.lt; omega)
  go_wp2_with ((with_reducible refine gate_st (t := 2) rfl ?_); refine halt_L ?_)
  refine resume_L ?_
  refine wpList_put hb3 (v := .int .i64 0) (by simp) rfl rfl rfl info64 ?_
  intro w4 hb4 p4
  have q4 := p4.pmap q3 (by have := HF.out.blk.lt; omega)
  go_wp2_with ((with_reducible refine gate_st (t := 2) rfl ?_); refine halt_L ?_)
  refine resume_L ?_
  refine wpList_put hb4 (v := .int .i64 0) (by simp) rfl rfl rfl info64 ?_
  intro w5 hb5 p5
  have q5 := p5.pmap q4 (by have := HF.out.blk.lt; omega)
  go_wp2
  go_end0
  have h := HF.out
  have hB := h.lt
  have h0 := h.blk.lt
  have tl : ∀ {W : World} {cs : Array Value}, Blk W c tL cs → ∀ cs' t, Blk W c t cs' → t = tL ∨ t = tE := fun {W cs} h1 cs' t h2 => by
    unfold Blk at h1 h2
    rw [h1] at h2
    injection h2 with h2
    injection h2 with _ h2
    exact .inl h2.symm
  have s0 : (w.alloc (.map #[] 0)).heap.size = w.heap.size + 1 := by simp
  refine ⟨rfl, ⟨w.heap.size, [], 0, 0, ⟨hb5, q5, trivial, List.nodup_nil, List.nodup_nil, h.Bc, hB, by simp⟩, rfl, Nat.zero_le _, Hn.out.2⟩, ?_⟩
  have k0 : Kx B w (w.alloc (.map #[] 0)) := (Kx.refl B w).alloc hB _
  have k1 := k0.put p1 (by omega) h.Bc (tl (h.blk.alloc _))
  have k2 := k1.put p2 (by have := p1.size; omega) h.Bc (tl hb1)
  have k3 := k2.put p3 (by have := p1.size; have := p2.size; omega) h.Bc (tl hb2)
  have k4 := k3.put p4 (by have := p1.size; have := p2.size; have := p3.size; omega) h.Bc (tl hb3)
  exact k4.put p5 (by have := p1.size; have := p2.size; have := p3.size; have := p4.size; omega) h.Bc (tl hb4)
end Go.Proofs.Ytnggdeggcflodaa
