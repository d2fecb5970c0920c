/- What the calls of a cache do to its entries, the oldest one first: Add, GetOrCompute; a cache made. No conditions. -/
import Derived.Test.YtnggdeggcflodaaLr6
import Derived.Shelf.Abstract
namespace Go.Proofs.Ytnggdeggcflodaa
open Go.RowKit Go.MapKept
set_option linter.unusedVariables false
theorem Lru.fresh {w : World} {B c m : Nat} {n h1 h2 : Int} {L : List Nd} (h : Lru w B c m n L h1 h2) (k v : Int) : (((⟨w.heap.size, k, v⟩ : Nd) :: L).map Nd.g).Nodup := by
  rw [List.map_cons, List.nodup_cons]
  refine ⟨fun hm => ?_, h.gs⟩
  obtain ⟨y, hy, e⟩ := List.mem_map.1 hm
  obtain ⟨_, _, hb⟩ := h.chain.at_ hy
  have := hb.lt
  simp at e
  omega
theorem Lru.map_after {w w1 : World} {B c m : Nat} {n h1 h2 k v : Int} {L : List Nd} (h : Lru w B c m n L h1 h2) {o : Array Value} (hm : Mod (w.alloc (.cells o tE)) w1 (SubS c ((⟨w.heap.size, k, v⟩ : Nd) :: L))) : PMap w1 m (L.map fun x => (x.k, pt (some x.g))) := by
  have ha := h.alloc (.cells o tE)
  refine ha.map.keep (hm.block m ha.map.lt ?_)
  rintro (e | ⟨y, hy, e⟩)
  · exact h.ne_m e.symm
  · rcases List.mem_cons.1 hy with rfl | hy
    · have := h.map.lt; simp at e; omega
    · exact h.x_ne_m hy e
set_option maxHeartbeats 1000000 in
set_option maxRecDepth 100000 in
theorem add_any (B c n : Nat) (E : List (Int × Int)) (k v : Int) (w : World) (h : Cach w B c n E) :
    Calls Try.prog 15 #[pt (some c), .int .i64 k, .int .i64 v] w (AnyRet B c n (putE n k v E) w IsBoolE) := by
  obtain ⟨m, L, h1, h2, hl, rfl, hn1, hn2, hn3⟩ := h
  have f0 : w.cell? ⟨c, 0, none⟩ = some (.int .i64 n) := hl.blk.cell 0 rfl
  have f1 : w.cell? ⟨c, 1, none⟩ = some (.map (some m)) := hl.blk.cell 1 rfl
  have e0 : decide (n = 0) = false := decide_eq_false (by omega)
  have Hn := Lib.hid (show L.length ≤ n ∧ 1 ≤ n ∧ n ≤ 100000 from ⟨hn1, hn2, hn3⟩)
  clear hn1 hn2 hn3
  rcases hl.find k with ⟨l1, x, l2, rfl, hxk, f2⟩ | ⟨hno, f2⟩
  · obtain ⟨p, q, hbx⟩ := hl.chain.at_ (x := x) (by simp)
    have HF := Lib.hid hl
    have Hk := Lib.hid hxk
    have HX := Lib.hid hbx
    clear hl hxk hbx
    go_enter Try.func15, Try.ntmps15
    simp only [pt_some]
    go_wp2_with ((with_reducible refine gate_st (t := 3) rfl ?_); refine halt_L ?_)
    refine resume_L ?_
    refine wpList_put HX.out (v := .int .i64 v) (by simp) rfl rfl rfl infoI ?_
    intro w1 hb1 p1
    obtain ⟨r1, k1⟩ := Lru.put_x HF.out p1 HX.out hb1
    have hM := move_any B c m n l1 { x with v := v } l2 _ _ w1 r1
    simp only [pt_some] at hM
    clear f0 f1 f2 hb1
    go_wp2_with (go_at_call 25; refine hM.mono ?_)
    rintro e w2 ⟨rfl, r2, k2⟩
    clear hM
    go_wp2
    go_ret
    refine ⟨⟨_, rfl⟩, ⟨m, _, _, _, r2, ?_, ?_, Hn.out.2⟩, k1.trans k2⟩
    · rw [← Hk.out, putE_mid HF.out.ks Hn.out.1]
    · have := Hn.out.1
      simp at this ⊢; omega
  · have hlen := fun q => (hl.drewN q).map.run_len Try.underlying58 3
    by_cases hfull : n ≤ L.length
    · have d1 : decide (n ≤ L.length) = true := decide_eq_true hfull
      rcases snoc_cases L with rfl | ⟨l, x, rfl⟩
      · exact absurd hfull (by have := Hn.out.2.1; simp; omega)
      have HF := Lib.hid hl
      have Hno := Lib.hid hno
      have HFull := Lib.hid hfull
      have hz : n ≤ l.length + 1 := by simpa using hfull
      clear hl hno hfull
      go_enter Try.func15, Try.ntmps15
      simp only [pt_some]
      go_wp2_with fail
      go_quiet (fail)
      have hO := oldest_any B c m n l x h1 h2 (w.drewN nq) (HF.out.drewN nq)
      simp only [pt_some] at hO
      clear f0 f1 f2 hlen
      go_wp2_with (go_at_call 26; refine hO.mono ?_)
      rintro e w1 ⟨rfl, r1, k1⟩
      have HL := Lib.hid r1
      have HK1 := Lib.hid (((Kx.refl B w).drewN nq).trans k1)
      have Hno0 := Lib.hid (show ∀ y ∈ l, y.k ≠ k from fun y hy => Hno.out y (by simp [hy]))
      clear hO r1 k1
      have hA := add_chain c _ _ _ _ _ l ⟨w1.heap.size, k, v⟩ (.pointer none) (.pointer none) (w1.alloc (.cells #[.int .i64 k, .int .i64 v, .pointer none, .pointer none] tE)) (HL.out.alloc _).blk (HL.out.alloc _).chain (Blk.new w1 tE _) (HL.out.fresh k v)
      simp only [pt_some] at hA
      go_wp2_with (go_at_call 27; refine hA.mono ?_)
      rintro e w3 ⟨rfl, hc3, hch3, hm3⟩
      have g1 : w3.cell? ⟨c, 1, none⟩ = some (.map (some m)) := hc3.cell 1 rfl
      have HC3 := Lib.hid hc3
      have HH3 := Lib.hid hch3
      have HM3 := Lib.hid hm3
      clear hA hc3 hch3 hm3
      go_wp2_with ((with_reducible refine gate_up rfl ?_); refine halt_L ?_)
      refine resume_L ?_
      refine wpList_new (L := l) (x := ⟨w1.heap.size, k, v⟩) (HL.out.map_after HM3.out) Hno0.out rfl rfl rfl ?_
      intro w4 hp4 h34
      obtain ⟨r4, k4⟩ := Lru.wide HL.out HL.out.lt rfl HC3.out HH3.out HM3.out Hno0.out hp4 h34
      go_wp2
      go_ret
      refine ⟨⟨_, rfl⟩, ⟨m, _, _, _, r4, (putE_full Hno.out HFull.out).symm, ?_, Hn.out.2⟩, HK1.out.trans k4⟩
      have := Hn.out.1
      simp at this ⊢; omega
    · have d1 : decide (n ≤ L.length) = false := decide_eq_false hfull
      have HF := Lib.hid hl
      have Hno0 := Lib.hid hno
      have HFull := Lib.hid hfull
      have hz : L.length < n := by omega
      clear hl hno hfull
      go_enter Try.func15, Try.ntmps15
      simp only [pt_some]
      go_wp2_with fail
      go_quiet (fail)
      have HL := Lib.hid (HF.out.drewN nq)
      have HK1 := Lib.hid ((Kx.refl B w).drewN nq)
      clear f0 f1 f2 hlen
      generalize hw1 : w.drewN nq = w1 at *
      have hA := add_chain c _ _ _ _ _ L ⟨w1.heap.size, k, v⟩ (.pointer none) (.pointer none) (w1.alloc (.cells #[.int .i64 k, .int .i64 v, .pointer none, .pointer none] tE)) (HL.out.alloc _).blk (HL.out.alloc _).chain (Blk.new w1 tE _) (HL.out.fresh k v)
      simp only [pt_some] at hA
      go_wp2_with (go_at_call 27; refine hA.mono ?_)
      rintro e w3 ⟨rfl, hc3, hch3, hm3⟩
      have g1 : w3.cell? ⟨c, 1, none⟩ = some (.map (some m)) := hc3.cell 1 rfl
      have HC3 := Lib.hid hc3
      have HH3 := Lib.hid hch3
      have HM3 := Lib.hid hm3
      clear hA hc3 hch3 hm3
      go_wp2_with ((with_reducible refine gate_up rfl ?_); refine halt_L ?_)
      refine resume_L ?_
      refine wpList_new (L := L) (x := ⟨w1.heap.size, k, v⟩) (HL.out.map_after HM3.out) Hno0.out rfl rfl rfl ?_
      intro w4 hp4 h34
      obtain ⟨r4, k4⟩ := Lru.wide HL.out HL.out.lt rfl HC3.out HH3.out HM3.out Hno0.out hp4 h34
      go_wp2
      go_ret
      refine ⟨⟨_, rfl⟩, ⟨m, _, _, _, r4, (putE_fits Hno0.out (by have := HFull.out; omega)).symm, ?_, Hn.out.2⟩, HK1.out.trans k4⟩
      have := HFull.out
      simp; omega

abbrev tO : TypeId := 30
abbrev tX : TypeId := 33
/-- What is no part of a cache, but for block o, stays; below block B all stays. -/
structure Kxo (B o : Nat) (w w' : World) : Prop where
  below : Below B w w'
  keep : ∀ (k : Nat) (cs : Array Value) (t : TypeId), Blk w k t cs → t ≠ tL → t ≠ tE → k ≠ o → Blk w' k t cs
theorem Kx.o {B : Nat} {w w' : World} (h : Kx B w w') (o : Nat) : Kxo B o w w' := ⟨h.below, fun k cs t hb h1 h2 _ => h.keep k cs t hb h1 h2⟩
theorem Kxo.trans {B o : Nat} {a b c : World} (h : Kxo B o a b) (h2 : Kxo B o b c) : Kxo B o a c := ⟨h.below.trans h2.below, fun k cs t hb h3 h4 h5 => h2.keep k cs t (h.keep k cs t hb h3 h4 h5) h3 h4 h5⟩
theorem Put.kxo {B o : Nat} {w w' : World} (h : Put w w' o) (hB : B ≤ w.heap.size) (ho : B ≤ o) : Kxo B o w w' := ⟨h.below (Below.refl B w) hB ho, fun k cs t hb _ _ h5 => h.blk hb h5⟩
theorem infoB : (Try.prog.info? 4).map (·.size) = some 1 := by kernel_rfl
def CloRet (go : Nat) (oc : Array Value) (v : Int) (w : World) (e : Ending) (w' : World) : Prop := e = .returned (.int .i64 v) ∧ Blk w' go tO (oc.setIfInBounds 4 (.bool true)) ∧ Put w w' go
set_option maxHeartbeats 1000000 in
set_option maxRecDepth 100000 in
theorem clo_any (go gx : Nat) (oc xc : Array Value) (v : Int) (w : World) (ho : Blk w go tO oc) (h6 : oc.size = 6) (hx : Blk w gx tX xc) (hv : xc[2]? = some (.int .i64 v)) :
    Calls Try.prog 18 #[.pointer (some ⟨go, 0, none⟩), .pointer (some ⟨gx, 0, none⟩)] w (CloRet go oc v w) := by
  have hne : gx ≠ go := hx.type_ne ho (by decide)
  go_enter Try.func18, Try.ntmps18
  go_wp2_with ((with_reducible refine gate_st (t := 4) rfl ?_); refine halt_L ?_)
  refine resume_L ?_
  refine wpList_put ho (o := 4) (v := .bool true) (by rw [h6]; decide) rfl rfl rfl infoB ?_
  intro w1 hb1 p1
  have f0 : w1.cell? ⟨gx, 2, none⟩ = some (.int .i64 v) := (p1.blk hx hne).cell 2 hv
  go_wp2
  go_ret
  exact ⟨rfl, hb1, p1⟩
def CompRet (B c n go : Nat) (E : List (Int × Int)) (oc : Array Value) (w : World) (e : Ending) (w' : World) : Prop :=
  (∃ z, e = .returned (.int .i64 z)) ∧ Cach w' B c n E ∧ Kxo B go w w' ∧ ∃ oc', Blk w' go tO oc' ∧ (oc' = oc ∨ oc' = oc.setIfInBounds 4 (.bool true))
set_option maxHeartbeats 1000000 in
set_option maxRecDepth 100000 in
theorem comp_any (B c n : Nat) (E : List (Int × Int)) (k v : Int) (go gx : Nat) (oc xc : Array Value) (w : World) (h : Cach w B c n E) (ho : Blk w go tO oc) (h6 : oc.size = 6) (hx : Blk w gx tX xc) (hv : xc[2]? = some (.int .i64 v)) (hBo : B ≤ go) :
    Calls Try.prog 17 #[pt (some c), .int .i64 k, .func (.func 18) #[] #[.pointer (some ⟨go, 0, none⟩), .pointer (some ⟨gx, 0, none⟩)]] w (CompRet B c n go (compE n k v E) oc w) := by
  obtain ⟨m, L, h1, h2, hl, rfl, hn1, hn2, hn3⟩ := h
  have f0 : w.cell? ⟨c, 0, none⟩ = some (.int .i64 n) := hl.blk.cell 0 rfl
  have f1 : w.cell? ⟨c, 1, none⟩ = some (.map (some m)) := hl.blk.cell 1 rfl
  have e0 : decide (n = 0) = false := decide_eq_false (by omega)
  have Hn := Lib.hid (show L.length ≤ n ∧ 1 ≤ n ∧ n ≤ 100000 from ⟨hn1, hn2, hn3⟩)
  clear hn1 hn2 hn3
  have f5 : w.cell? ⟨c, 5, none⟩ = some (.int .i64 h1) := hl.blk.cell 5 rfl
  have f6 : w.cell? ⟨c, 6, none⟩ = some (.int .i64 h2) := hl.blk.cell 6 rfl
  rcases hl.find k with ⟨l1, x, l2, rfl, hxk, f2⟩ | ⟨hno, f2⟩
  · have hM := move_any B c m n l1 x l2 h1 h2 w hl
    have HF := Lib.hid hl
    have Hk := Lib.hid hxk
    clear hl hxk hx hv
    go_enter Try.func17, Try.ntmps17
    simp only [pt_some]
    simp only [pt_some] at hM
    go_wp2_with (go_at_call 25; refine hM.mono ?_)
    rintro e w1 ⟨rfl, r1, k1⟩
    have g5 : w1.cell? ⟨c, 5, none⟩ = some (.int .i64 h1) := r1.blk.cell 5 rfl
    have HR := Lib.hid r1
    clear hM f0 f1 f2 f5 f6 r1
    go_wp2_with ((with_reducible refine gate_st (t := 2) rfl ?_); refine halt_L ?_)
    refine resume_L ?_
    refine wpList_put HR.out.blk (v := .int .i64 _) (by simp) rfl rfl rfl info64 ?_
    intro w2 hb2 p2
    obtain ⟨r2, k2⟩ := Lru.put_c HR.out p2 hb2
    have f1 : w2.cell? ⟨x.g, 1, none⟩ = some (.int .i64 x.v) := r2.chain.1.cell 1 rfl
    clear g5 hb2
    go_wp2
    go_ret
    refine ⟨⟨_, rfl⟩, ⟨m, _, _, _, r2, ?_, ?_, Hn.out.2⟩, (k1.trans k2).o go, oc, (k1.trans k2).keep _ _ _ ho (by decide) (by decide), .inl rfl⟩
    · rw [← Hk.out, compE_mid HF.out.ks]
    · have := Hn.out.1
      simp at this ⊢; omega
  · have HF := Lib.hid hl
    have Hno := Lib.hid hno
    have HO0 := Lib.hid ho
    have HX0 := Lib.hid hx
    clear hno hl ho hx
    go_enter Try.func17, Try.ntmps17
    simp only [pt_some]
    go_wp2_with ((with_reducible refine gate_st (t := 2) rfl ?_); refine halt_L ?_)
    refine resume_L ?_
    refine wpList_put HF.out.blk (v := .int .i64 _) (by simp) rfl rfl rfl info64 ?_
    intro w1 hb1 p1
    obtain ⟨r1, k1⟩ := Lru.put_c HF.out p1 hb1
    have HR1 := Lib.hid r1
    have HK := Lib.hid k1
    have HCl := Lib.hid (clo_any go gx oc xc v w1 (k1.keep _ _ _ HO0.out (by decide) (by decide)) h6 (k1.keep _ _ _ HX0.out (by decide) (by decide)) hv)
    clear f0 f1 f2 f5 f6 hb1 r1 k1 p1
    go_wp2_with (go_at_fn 18; refine halt_L ?_)
    refine resume_L ?_
    refine HCl.out.mono ?_
    rintro e w2 ⟨rfl, ho2, p2⟩
    have HO2 := Lib.hid ho2
    have hgn : ∀ q, some go = some q → ∃ t cs, Blk w1 q t cs ∧ t ≠ tL ∧ t ≠ tE := fun q hq => by
      injection hq with hq
      subst hq
      exact ⟨tO, oc, HK.out.keep _ _ _ HO0.out (by decide) (by decide), by decide, by decide⟩
    have hl2 := HR1.out.grown p2.grown hgn
    have HKo := Lib.hid ((HK.out.o go).trans (p2.kxo HR1.out.lt hBo))
    clear ho2 hgn HCl p2 HK HR1
    have g0 : w2.cell? ⟨c, 0, none⟩ = some (.int .i64 n) := hl2.blk.cell 0 rfl
    have g1 : w2.cell? ⟨c, 1, none⟩ = some (.map (some m)) := hl2.blk.cell 1 rfl
    rcases hl2.find k with ⟨l1, x, l2, rfl, hxk, f2⟩ | ⟨hno, f2⟩
    · exact absurd hxk (Hno.out x (by simp))
    have hlen := fun q => (hl2.drewN q).map.run_len Try.underlying58 3
    by_cases hfull : n ≤ L.length
    · have d1 : decide (n ≤ L.length) = true := decide_eq_true hfull
      rcases snoc_cases L with rfl | ⟨l, x, rfl⟩
      · exact absurd hfull (by have := Hn.out.2.1; simp; omega)
      have HF2 := Lib.hid hl2
      have HFull := Lib.hid hfull
      have hz : n ≤ l.length + 1 := by simpa using hfull
      clear hl2 hno hfull
      go_wp2_with fail
      go_quiet (fail)
      have hO := oldest_any B c m n l x _ _ (w2.drewN nq) (HF2.out.drewN nq)
      simp only [pt_some] at hO
      clear g0 f2 hlen g1
      go_wp2_with (go_at_call 26; refine hO.mono ?_)
      rintro e w2b ⟨rfl, r1, k1⟩
      have HL := Lib.hid r1
      have HK1 := Lib.hid (HKo.out.trans ((((Kx.refl B w2).drewN nq).trans k1).o go))
      have HO := Lib.hid ((((Kx.refl B w2).drewN nq).trans k1).keep _ _ _ HO2.out (by decide) (by decide))
      have Hno0 := Lib.hid (show ∀ y ∈ l, y.k ≠ k from fun y hy => Hno.out y (by simp [hy]))
      clear hO r1 k1
      have hA := add_chain c _ _ _ _ _ l ⟨w2b.heap.size, k, v⟩ (.pointer none) (.pointer none) (w2b.alloc (.cells #[.int .i64 k, .int .i64 v, .pointer none, .pointer none] tE)) (HL.out.alloc _).blk (HL.out.alloc _).chain (Blk.new w2b tE _) (HL.out.fresh k v)
      simp only [pt_some] at hA
      go_wp2_with (go_at_call 27; refine hA.mono ?_)
      rintro e w3 ⟨rfl, hc3, hch3, hm3⟩
      have g1 : w3.cell? ⟨c, 1, none⟩ = some (.map (some m)) := hc3.cell 1 rfl
      have HC3 := Lib.hid hc3
      have HH3 := Lib.hid hch3
      have HM3 := Lib.hid hm3
      clear hA hc3 hch3 hm3
      go_wp2_with ((with_reducible refine gate_up rfl ?_); refine halt_L ?_)
      refine resume_L ?_
      refine wpList_new (L := l) (x := ⟨w2b.heap.size, k, v⟩) (HL.out.map_after HM3.out) Hno0.out rfl rfl rfl ?_
      intro w4 hp4 h34
      obtain ⟨r4, k4⟩ := Lru.wide HL.out HL.out.lt rfl HC3.out HH3.out HM3.out Hno0.out hp4 h34
      go_wp2
      go_ret
      refine ⟨⟨_, rfl⟩, ⟨m, _, _, _, r4, ((compE_none Hno.out).trans (putE_full Hno.out HFull.out)).symm, ?_, Hn.out.2⟩, HK1.out.trans (k4.o go), _, k4.keep _ _ _ HO.out (by decide) (by decide), .inr rfl⟩
      have := Hn.out.1
      simp at this ⊢; omega
    · have d1 : decide (n ≤ L.length) = false := decide_eq_false hfull
      have HF2 := Lib.hid hl2
      have Hno0 := Lib.hid hno
      have HFull := Lib.hid hfull
      have hz : L.length < n := by omega
      clear hl2 hno hfull
      go_wp2_with fail
      go_quiet (fail)
      have HL := Lib.hid (HF2.out.drewN nq)
      have HK1 := Lib.hid (HKo.out.trans (((Kx.refl B w2).drewN nq).o go))
      have HO := Lib.hid (((Kx.refl B w2).drewN nq).keep _ _ _ HO2.out (by decide) (by decide))
      clear g0 f2 hlen g1
      generalize hw1 : w2.drewN nq = w2b at *
      have hA := add_chain c _ _ _ _ _ L ⟨w2b.heap.size, k, v⟩ (.pointer none) (.pointer none) (w2b.alloc (.cells #[.int .i64 k, .int .i64 v, .pointer none, .pointer none] tE)) (HL.out.alloc _).blk (HL.out.alloc _).chain (Blk.new w2b tE _) (HL.out.fresh k v)
      simp only [pt_some] at hA
      go_wp2_with (go_at_call 27; refine hA.mono ?_)
      rintro e w3 ⟨rfl, hc3, hch3, hm3⟩
      have g1 : w3.cell? ⟨c, 1, none⟩ = some (.map (some m)) := hc3.cell 1 rfl
      have HC3 := Lib.hid hc3
      have HH3 := Lib.hid hch3
      have HM3 := Lib.hid hm3
      clear hA hc3 hch3 hm3
      go_wp2_with ((with_reducible refine gate_up rfl ?_); refine halt_L ?_)
      refine resume_L ?_
      refine wpList_new (L := L) (x := ⟨w2b.heap.size, k, v⟩) (HL.out.map_after HM3.out) Hno0.out rfl rfl rfl ?_
      intro w4 hp4 h34
      obtain ⟨r4, k4⟩ := Lru.wide HL.out HL.out.lt rfl HC3.out HH3.out HM3.out Hno0.out hp4 h34
      go_wp2
      go_ret
      refine ⟨⟨_, rfl⟩, ⟨m, _, _, _, r4, ((compE_none Hno0.out).trans (putE_fits Hno0.out hz)).symm, ?_, Hn.out.2⟩, HK1.out.trans (k4.o go), _, k4.keep _ _ _ HO.out (by decide) (by decide), .inr rfl⟩
      simp; omega
def NewRet (n : Nat) (w : World) (e : Ending) (w' : World) : Prop := ∃ c, e = .returned (pt (some c)) ∧ Cach w' w.heap.size c n [] ∧ Below w.heap.size w w' ∧ Kx w.heap.size w w'
set_option maxHeartbeats 1000000 in
set_option maxRecDepth 100000 in
theorem evict_any (n : Nat) (w : World) (hn : 1 ≤ n) (hn2 : n ≤ 100000) :
    Calls Try.prog 13 #[.int .i64 n, .nilFunc] w (NewRet n w) := by
  have e0 : decide (n = 0) = false := decide_eq_false (by omega)
  have e1 : decide ((100000 : Int) < (n : Int)) = false := decide_eq_false (by omega)
  have hmm := run_makeMap_hint n w
  go_enter Try.func13, Try.ntmps13
  go_wp2
  go_ret
  have hb := Blk.new (w.alloc (.map #[] 0)) tL (lruC (.int .i64 n) (.map (some w.heap.size)) (.pointer none) (.pointer none) .nilFunc (.int .i64 0) (.int .i64 0))
  have hs : (w.alloc (.map #[] 0)).heap.size = w.heap.size + 1 := by simp
  refine ⟨w.heap.size + 1, rfl, ⟨w.heap.size, [], 0, 0, ⟨?_, (PMap.made w).alloc _, trivial, List.nodup_nil, List.nodup_nil, by omega, Nat.le_refl _, by simp⟩, rfl, Nat.zero_le _, hn, hn2⟩, ?_, ?_⟩
  · rw [hs] at hb; exact hb
  · exact ((Below.refl _ _).alloc (Nat.le_refl _) _).alloc (by simp) _
  · exact ((Kx.refl _ _).alloc (Nat.le_refl _) _).alloc (by simp) _
set_option maxHeartbeats 1000000 in
set_option maxRecDepth 100000 in
theorem new_any (n : Nat) (w : World) (hn : 1 ≤ n) (hn2 : n ≤ 100000) :
    Calls Try.prog 12 #[.int .i64 n] w (NewRet n w) := by
  have hE := evict_any n w hn hn2
  go_enter Try.func12, Try.ntmps12
  go_wp2_with (go_at_call 13; refine hE.mono ?_)
  rintro e w1 ⟨c, rfl, h1, h2, h3⟩
  go_wp2
  go_ret
  exact ⟨c, rfl, h1, h2, h3⟩
end Go.Proofs.Ytnggdeggcflodaa
