/- impl.CacheRun without a callback: what it gives for each call. At most 1000 calls, sizes of 1 to 1000. -/
import Derived.Test.YtnggdeggcflodaaLr14
import Derived.LoopN
namespace Go.Proofs.Ytnggdeggcflodaa
open Go.RowKit Go.MapKept
set_option linter.unusedVariables false
attribute [local go_sem] run_store_float
abbrev tG : TypeId := 28
/-- What RemoveOldest tells in row i of what came out. -/
def told (xs : List Value) (i : Nat) (E : List (Int × Int)) : Prop :=
  match E with
  | [] => xs[i * 6]? = some (.bool false)
  | p :: _ => xs[i * 6]? = some (.bool true) ∧ xs[i * 6 + 1]? = some (.int .i64 p.1) ∧ xs[i * 6 + 2]? = some (.int .i64 p.2)
def Told (n : Nat) (l : List Op3) (xs : List Value) (q : Nat) : Prop := ∀ i (h : i < l.length), i < q → l[i].1 = 4 → told xs i (runE n (l.take i))
theorem told_app {xs ys : List Value} {i q : Nat} {E : List (Int × Int)} (h : told xs i E) : told (xs ++ ys) i E := by
  have key : ∀ j v, xs[j]? = some v → (xs ++ ys)[j]? = some v := fun j v hv => by
    rw [List.getElem?_append_left (List.getElem?_eq_some_iff.1 hv).1]; exact hv
  unfold told at *
  split at h
  · exact key _ _ h
  · exact ⟨key _ _ h.1, key _ _ h.2.1, key _ _ h.2.2⟩
theorem told_last {xs : List Value} {q : Nat} {E : List (Int × Int)} {o0 o1 o2 o3 o4 o5 : Value} (hx : xs.length = q * 6) (h : match E with | [] => o0 = .bool false | p :: _ => o0 = .bool true ∧ o1 = .int .i64 p.1 ∧ o2 = .int .i64 p.2) : told (xs ++ [o0, o1, o2, o3, o4, o5]) q E := by
  have k0 : (xs ++ [o0, o1, o2, o3, o4, o5])[q * 6]? = some o0 := by rw [List.getElem?_append_right (by omega), hx]; simp
  have k1 : (xs ++ [o0, o1, o2, o3, o4, o5])[q * 6 + 1]? = some o1 := by rw [List.getElem?_append_right (by omega), hx]; simp
  have k2 : (xs ++ [o0, o1, o2, o3, o4, o5])[q * 6 + 2]? = some o2 := by rw [List.getElem?_append_right (by omega), hx]; simp
  unfold told
  split at h
  · rw [k0, h]
  · rw [k0, k1, k2, h.1, h.2.1, h.2.2]; exact ⟨rfl, rfl, rfl⟩
theorem Told.next {n : Nat} {l : List Op3} {xs : List Value} {q : Nat} {o0 o1 o2 o3 o4 o5 : Value} (h : Told n l xs q) (hx : xs.length = q * 6) (hq : q < l.length)
    (hd : l[q].1 = 4 → match runE n (l.take q) with | [] => o0 = .bool false | p :: _ => o0 = .bool true ∧ o1 = .int .i64 p.1 ∧ o2 = .int .i64 p.2) : Told n l (xs ++ [o0, o1, o2, o3, o4, o5]) (q + 1) := by
  intro i hi hlt h4
  by_cases e : i = q
  · subst e
    exact told_last hx (hd h4)
  · exact told_app (q := q) (h i hi (by omega) h4)
theorem infoOut : (Try.prog.info? tO).map (fun i => (i.zero, i.size, i.bytes)) = some (some (.agg outZ), 6, 64) := by kernel_rfl
theorem infoF : (Try.prog.info? 27).map (·.size) = some 1 := by kernel_rfl
theorem Cach.mono {w : World} {B B' c n : Nat} {E : List (Int × Int)} (h : Cach w B c n E) (hB : B' ≤ B) : Cach w B' c n E := by
  obtain ⟨m, L, h1, h2, hl, h⟩ := h
  exact ⟨m, L, h1, h2, ⟨hl.blk, hl.map, hl.chain, hl.gs, hl.ks, Nat.le_trans hB hl.Bc, Nat.le_trans hB hl.Bm, fun x hx => Nat.le_trans hB (hl.Bg x hx)⟩, h⟩
theorem row_keep {w w' : World} {B n : Nat} {v : Value} {xs : List Value} (h : w.ownsRow B tO 6 v n xs) (hk : ∀ g cs, v.ownBlock = some g → Blk w g tO cs → Blk w' g tO cs) : w'.ownsRow B tO 6 v n xs := by
  refine ⟨h.1, ?_⟩
  rcases h.2 with h0 | ⟨g, cap, cur, rfl, hb, hg, r⟩
  · exact .inl h0
  · exact .inr ⟨g, cap, cur, rfl, hb, hk g cur rfl hg, r⟩
/-- Inside a round: the cache, what came out so far, the callback's cell, the round's own cell. -/
structure Rd (w W : World) (B c gb go n : Nat) (E : List (Int × Int)) (v : Value) (q : Nat) (xs : List Value) (oc : Array Value) : Prop where
  cach : Cach W B c n E
  row : W.ownsRow B tO 6 v q xs
  gone : Blk W gb tG #[.slice none 0 0]
  o : Blk W go tO oc
  below : Below w.heap.size w W
  nego : ¬ some go = v.ownBlock
  Bgo : B ≤ go
  wB : w.heap.size ≤ B
theorem Rd.kx {w W W' : World} {B c gb go n q : Nat} {E E' : List (Int × Int)} {v : Value} {xs : List Value} {oc : Array Value} (h : Rd w W B c gb go n E v q xs oc) (hl : Left B c n E' W W') : Rd w W' B c gb go n E' v q xs oc :=
  ⟨hl.cach, row_keep h.row fun g cs _ hb => hl.kx.keep g cs tO hb (by decide) (by decide), hl.kx.keep _ _ _ h.gone (by decide) (by decide), hl.kx.keep _ _ _ h.o (by decide) (by decide), h.below.trans (hl.kx.below.mono h.wB), h.nego, h.Bgo, h.wB⟩
theorem Rd.kxo {w W W' : World} {B c gb go n q : Nat} {E E' : List (Int × Int)} {v : Value} {xs : List Value} {oc oc' : Array Value} (h : Rd w W B c gb go n E v q xs oc) (hc : Cach W' B c n E') (hk : Kxo B go W W') (ho : Blk W' go tO oc') : Rd w W' B c gb go n E' v q xs oc' :=
  ⟨hc, row_keep h.row fun g cs hg hb => hk.keep g cs tO hb (by decide) (by decide) (fun e => h.nego (by rw [hg, e])), hk.keep _ _ _ h.gone (by decide) (by decide) (h.gone.type_ne h.o (by decide)), ho, h.below.trans (hk.below.mono h.wB), h.nego, h.Bgo, h.wB⟩
theorem Rd.put {w W W' : World} {B c gb go n q : Nat} {E : List (Int × Int)} {v : Value} {xs : List Value} {oc oc' : Array Value} (h : Rd w W B c gb go n E v q xs oc) (hp : Put W W' go) (ho : Blk W' go tO oc') : Rd w W' B c gb go n E v q xs oc' :=
  ⟨h.cach.grown hp.grown (fun k hk => by injection hk with hk; subst hk; exact ⟨tO, oc, h.o, by decide, by decide⟩), row_keep h.row fun g cs hg hb => hp.blk hb (fun e => h.nego (by rw [hg, e])), hp.blk h.gone (h.gone.type_ne h.o (by decide)), ho, hp.below h.below (by have := h.o.lt; have := h.Bgo; have := h.wB; omega) (by have := h.Bgo; have := h.wB; omega), h.nego, h.Bgo, h.wB⟩
theorem own_mono6 {w : World} {B B' n : Nat} {v : Value} {xs : List Value} (h : w.ownsRow B tO 6 v n xs) (hB : B' ≤ B) : w.ownsRow B' tO 6 v n xs := own_mono h hB
def RunRet (w : World) (n N : Nat) (l : List Op3) (e : Ending) (w' : World) : Prop :=
  ∃ A cap xs, e = .returned (.tuple #[.slice A N cap, .bool true]) ∧ w'.ownsRow w.heap.size tO 6 (.slice A N cap) N xs ∧ Told n l xs N ∧ (∀ u ∈ xs, u.oneCell' = true) ∧ Below w.heap.size w w'
/-- At a round's head. -/
structure RunI (w W : World) (B c gb n : Nat) (l : List Op3) (v : Value) (q : Nat) (xs : List Value) : Prop where
  cach : Cach W B c n (runE n (l.take q))
  row : W.ownsRow B tO 6 v q xs
  gone : Blk W gb tG #[.slice none 0 0]
  below : Below w.heap.size w W
  wB : w.heap.size ≤ B
  gbB : w.heap.size ≤ gb
  told : Told n l xs q
  one : ∀ u ∈ xs, u.oneCell' = true
theorem RunI.start {w W w1 : World} {B c gb n : Nat} {l : List Op3} {v : Value} {q : Nat} {xs : List Value} {x : Array Value} (h : RunI w W B c gb n l v q xs) (hp : Put (W.alloc (.cells x tX)) w1 gb) (hg : Blk w1 gb tG #[.slice none 0 0]) :
    Rd w (w1.alloc (.cells outZ tO)) B c gb w1.heap.size n (runE n (l.take q)) v q xs outZ ∧ Blk (w1.alloc (.cells outZ tO)) W.heap.size tX x := by
  have hgl := h.gone.lt
  have hB := h.cach.lt
  have hs1 : w1.heap.size = W.heap.size + 1 := by rw [hp.size]; simp
  have hx : Blk w1 W.heap.size tX x := hp.blk (Blk.new W tX x) (by omega)
  have hg0 := h.gone.alloc (.cells x tX)
  have hc1 : Cach w1 B c n (runE n (l.take q)) := (h.cach.alloc _).grown hp.grown (fun k hk => by injection hk with hk; subst hk; exact ⟨tG, _, hg0, by decide, by decide⟩)
  have hr1 : w1.ownsRow B tO 6 v q xs := row_keep (h.row.alloc _) fun g cs hg hb => hp.blk hb (hb.type_ne hg0 (by decide))
  refine ⟨⟨hc1.alloc _, hr1.alloc _, hg.alloc _, Blk.new w1 tO outZ, (hp.below (h.below.alloc (by have := h.wB; omega) _) (by have := h.wB; simp; omega) h.gbB).alloc (by have := h.wB; omega) _, fun e => ?_, by omega, h.wB⟩, hx.alloc _⟩
  have := (hr1.lt _ e.symm).2
  omega
theorem RunI.next {w W wy w6 : World} {B c gb go n : Nat} {l : List Op3} {v v6 : Value} {q : Nat} {xs : List Value} {E' : List (Int × Int)} {o0 o1 o2 o3 o4 o5 : Value} {x : Array Value} {tx : TypeId} (h : RunI w W B c gb n l v q xs) (hy : Rd w wy B c gb go n E' v q xs #[o0, o1, o2, o3, o4, o5])
    (ho : w6.ownsRow B tO 6 v6 (q + 1) (xs ++ [o0, o1, o2, o3, o4, o5])) (hg : (wy.alloc (.cells x tx)).grownBy w6 v.ownBlock) (hq : q < l.length) (hE : runE n (l.take (q + 1)) = E')
    (h1 : ∀ u ∈ [o0, o1, o2, o3, o4, o5], u.oneCell' = true) (hd : l[q].1 = 4 → match runE n (l.take q) with | [] => o0 = .bool false | p :: _ => o0 = .bool true ∧ o1 = .int .i64 p.1 ∧ o2 = .int .i64 p.2) : RunI w w6 B c gb n l v6 (q + 1) (xs ++ [o0, o1, o2, o3, o4, o5]) := by
  have hrow : ∀ k, v.ownBlock = some k → ∃ cs, Blk (wy.alloc (.cells x tx)) k tO cs := fun k hk => by
    rcases (hy.row.alloc (.cells x tx)).2 with ⟨rfl, _⟩ | ⟨g, cap, cur, rfl, hb, hgg, r⟩
    · simp [Value.ownBlock] at hk
    · simp [Value.ownBlock] at hk
      subst hk
      exact ⟨cur, hgg⟩
  refine ⟨?_, ho, ?_, ?_, h.wB, h.gbB, h.told.next h.row.1 hq hd, fun u hu => by
    rcases List.mem_append.1 hu with hu | hu
    · exact h.one u hu
    · exact h1 u hu⟩
  · rw [hE]
    exact (hy.cach.alloc (.cells x tx)).grown hg fun k hk => by
      obtain ⟨cs, hb⟩ := hrow k hk
      exact ⟨tO, cs, hb, by decide, by decide⟩
  · refine (hy.gone.alloc (.cells x tx)).grown hg fun e => ?_
    obtain ⟨cs, hb⟩ := hrow gb e.symm
    exact (hy.gone.alloc (.cells x tx)).type_ne hb (by decide) rfl
  · have hB := hy.cach.lt
    have hw := h.wB
    exact (hy.below.alloc (by omega) _).grown hg (by simp; omega) (fun k hk => by have := ((hy.row.alloc (.cells x tx)).lt k hk).1; omega)
set_option maxHeartbeats 8000000 in
set_option maxRecDepth 100000 in
theorem round_run (w : World) (A : Option Addr) (N cap n : Nat) (l : List Op3) (hA : OpArg w w.heap.size A N cap l) (hF : Few l) (hN : N ≤ 1000) (hn1 : 1 ≤ n) (hn2 : n ≤ 1000) :
    Calls Try.prog 7 #[.int .i64 n, .bool false, .slice A N cap] w (RunRet w n N l) := by
  have hl := hA.len
  have HA0 := Lib.hid hA
  have HF0 := Lib.hid hF
  have HL := Lib.hid hl
  have HNew := Lib.hid (new_any n (w.alloc (.cells #[.slice none 0 0] tG)) hn1 (by omega))
  clear hA hF hl
  go_enter Try.func7, Try.ntmps7
  go_wp2_with (go_at_call 12; refine HNew.out.mono ?_)
  rintro e w0 ⟨c, rfl, hc, hb, hk⟩
  rw [World.size_alloc] at hc hb hk
  have HC := Lib.hid hc
  have HB := Lib.hid hb
  have HG := Lib.hid (hk.keep _ _ _ (Blk.new w tG #[.slice none 0 0]) (by decide) (by decide))
  clear hc hb hk
  simp only [pt_some]
  go_wp2_with fail
  have HI0 := Lib.hid (show RunI w (w0.alloc (.cells #[] tO)) (w.heap.size + 1) c w.heap.size n l (.slice (some ⟨w0.heap.size, 0, none⟩) 0 0) 0 [] from
    ⟨by simpa [runE] using HC.out.alloc _, World.ownsRow_made w0 #[] 0 HC.out.lt (by simp [maxLen]) rfl, HG.out.alloc _, (((Below.refl w.heap.size w).alloc (Nat.le_refl _) (.cells #[.slice none 0 0] tG)).trans (HB.out.mono (by omega))).alloc (by have := HC.out.lt; omega) _, by omega, Nat.le_refl _, fun i hi h => absurd h (by omega), fun u hu => by cases hu⟩)
  clear HC HB HG HNew
  generalize hwl : w0.alloc (.cells #[] tO) = wl at *
  clear hwl
  generalize hB : w.heap.size + 1 = B at *
  generalize hgb : w.heap.size = gb at *
  go_loopw [10, 25] (fun s10 s25 wr => ∃ (q : Nat) (xs : List Value), q ≤ N ∧ s25 = .int .i64 q ∧ Hid (RunI w wr B c gb n l s10 q xs)) (fun _ s25 _ => N - (intOf s25).toNat)
  case atStart => exact ⟨0, [], Nat.zero_le _, rfl, HI0⟩
  case round =>
    obtain ⟨q, xs, hq, rfl, HR⟩ := hrel
    clear HI0
    by_cases hlt : q < N
    · have hlq : q < l.length := by have := HL.out; omega
      have hbl : Below gb w wr := hgb ▸ HR.out.below
      obtain ⟨b, o, rfl, hb, k0, k1, k2⟩ := (HA0.out.below hbl).at_ hlt hlq
      clear hbl
      have hF := HF0.out l[q] (List.getElem_mem hlq)
      have HSt := Lib.hid (runE_take n l q hlq)
      obtain ⟨d, hd⟩ : ∃ d, l[q].1 = d := ⟨_, rfl⟩
      obtain ⟨k, hk⟩ : ∃ k, l[q].2.1 = k := ⟨_, rfl⟩
      obtain ⟨v, hv⟩ : ∃ v, l[q].2.2 = v := ⟨_, rfl⟩
      rw [hd, hk, hv] at HSt
      rw [hd] at k0 hF
      rw [hk] at k1
      rw [hv] at k2
      have HDq := Lib.hid hd
      clear hd hk hv
      have hix : (q : Int) < (N : Int) := by omega
      obtain ⟨h0, h8⟩ := hF
      have hcase : d = 0 ∨ d = 1 ∨ d = 2 ∨ d = 3 ∨ d = 4 ∨ d = 5 ∨ d = 6 ∨ d = 7 ∨ d = 8 := by omega
      go_wp2_with ((with_reducible refine gate_st (t := 28) rfl ?_); refine halt_L ?_)
      refine resume_L ?_

      refine wpList_put (HR.out.gone.alloc _) (o := 0) (v := .slice none 0 0) (by simp) rfl rfl rfl infoSl ?_
      intro w1 hb1 p1
      obtain ⟨rd, hx⟩ := HR.out.start p1 hb1
      have HRd := Lib.hid rd
      have HX := Lib.hid hx
      have x0 : (w1.alloc (.cells outZ tO)).cell? ⟨wr.heap.size, 0, none⟩ = some (.int .i64 d) := hx.cell 0 rfl
      have x1 : (w1.alloc (.cells outZ tO)).cell? ⟨wr.heap.size, 1, none⟩ = some (.int .i64 k) := hx.cell 1 rfl
      have x2 : (w1.alloc (.cells outZ tO)).cell? ⟨wr.heap.size, 2, none⟩ = some (.int .i64 v) := hx.cell 2 rfl
      clear rd hx hb1 p1 k0 k1 k2 h0 h8
      rcases hcase with rfl | rfl | rfl | rfl | rfl | rfl | rfl | rfl | rfl
      · go_wp2_with (go_at_call 15; refine halt_L ?_)
        generalize hW2 : World.alloc _ _ = W2 at HRd HX ⊢
        clear hW2 x0 x1 x2
        refine resume_L ?_
        refine (add_any B c n (runE n (l.take q)) k v W2 HRd.out.cach).mono ?_
        rintro e w3 ⟨⟨b, rfl⟩, hl⟩
        have HA := Lib.hid (HRd.out.kx hl)
        clear hl HRd HX
        go_wp2_with ((with_reducible refine gate_st (t := 4) rfl ?_); refine halt_L ?_)
        refine resume_L ?_
        refine wpList_put HA.out.o (o := 0) (v := .bool b) (by simp) rfl rfl rfl infoB ?_
        intro v1 hbv1 pv1
        have HBv1 := Lib.hid (HA.out.put pv1 (oc' := #[.bool b, .int .i64 0, .int .i64 0, .float .f64 0, .bool false, .slice none 0 0]) hbv1)
        clear hbv1 pv1 HA
        have g0 : v1.cell? ⟨gb, 0, none⟩ = some (.slice none 0 0) := HBv1.out.gone.cell 0 rfl
        go_wp2_with ((with_reducible refine gate_st (t := 28) rfl ?_); refine halt_L ?_)
        refine resume_L ?_
        refine wpList_put HBv1.out.o (o := 5) (v := .slice none 0 0) (by simp) rfl rfl rfl infoSl ?_
        intro wy hby py
        have HY := Lib.hid (HBv1.out.put py (oc' := #[.bool b, .int .i64 0, .int .i64 0, .float .f64 0, .bool false, .slice none 0 0]) hby)
        have l0 : wy.cell? ⟨w1.heap.size, 0, none⟩ = some (.bool b) := HY.out.o.cell 0 rfl
        have l1 : wy.cell? ⟨w1.heap.size, 1, none⟩ = some (.int .i64 0) := HY.out.o.cell 1 rfl
        have l2 : wy.cell? ⟨w1.heap.size, 2, none⟩ = some (.int .i64 0) := HY.out.o.cell 2 rfl
        have l3 : wy.cell? ⟨w1.heap.size, 3, none⟩ = some (.float .f64 0) := HY.out.o.cell 3 rfl
        have l4 : wy.cell? ⟨w1.heap.size, 4, none⟩ = some (.bool false) := HY.out.o.cell 4 rfl
        have l5 : wy.cell? ⟨w1.heap.size, 5, none⟩ = some (.slice none 0 0) := HY.out.o.cell 5 rfl
        clear g0 hby py
        go_wp2_with (at_builtin; refine halt_L ?_)
        refine resume_L ?_
        obtain ⟨i0, hi0, hz0, hz1, hz2⟩ := info_parts infoOut
        refine wpList_append_own _ rfl _ _ 34 rfl B tO i0 (.agg outZ) 6 64 Try.underlying34 hi0 hz0 hz1 hz2 rfl (by decide) _ q xs rfl (HY.out.row.alloc _) ⟨wy.heap.size, 0, none⟩ 1 1 [.bool b, .int .i64 0, .int .i64 0, .float .f64 0, .bool false, .slice none 0 0] rfl rfl (World.news_of_block (Blk.new wy tO #[.bool b, .int .i64 0, .int .i64 0, .float .f64 0, .bool false, .slice none 0 0])) (by simp [Value.oneCell']) (by unfold maxLen; omega) (by omega) (by have := HY.out.cach.lt; simp; omega) ?_
        intro v6 w6 ho6 hg6 _
        have HN := Lib.hid (HR.out.next HY.out ho6 hg6 hlq (by rw [HSt.out]; simp [stepE]) (by simp [Value.oneCell']) (fun h4 => absurd (HDq.out.symm.trans h4) (by decide)))
        obtain ⟨A6, c6, rfl⟩ := own_slice ho6
        clear l0 l1 l2 l3 l4 l5 ho6 hg6 hi0 hz0 hz1 hz2
        go_wp2_with fail
        go_roundw
        case rel => exact ⟨q + 1, _, by omega, by go_num, HN.out⟩
        case measure => simp [intOf]; omega
      · go_wp2_with (go_at_call 16; refine halt_L ?_)
        generalize hW2 : World.alloc _ _ = W2 at HRd HX ⊢
        clear hW2 x0 x1 x2
        refine resume_L ?_
        refine (get_any B c n (runE n (l.take q)) k W2 HRd.out.cach).mono ?_
        rintro e w3 ⟨⟨z, b, rfl⟩, hl⟩
        have HA := Lib.hid (HRd.out.kx hl)
        clear hl HRd HX
        go_wp2_with ((with_reducible refine gate_st (t := 3) rfl ?_); refine halt_L ?_)
        refine resume_L ?_
        refine wpList_put HA.out.o (o := 2) (v := .int .i64 z) (by simp) rfl rfl rfl infoI ?_
        intro v1 hbv1 pv1
        have HBv1 := Lib.hid (HA.out.put pv1 (oc' := #[.bool false, .int .i64 0, .int .i64 z, .float .f64 0, .bool false, .slice none 0 0]) hbv1)
        clear hbv1 pv1 HA
        go_wp2_with ((with_reducible refine gate_st (t := 4) rfl ?_); refine halt_L ?_)
        refine resume_L ?_
        refine wpList_put HBv1.out.o (o := 0) (v := .bool b) (by simp) rfl rfl rfl infoB ?_
        intro v2 hbv2 pv2
        have HBv2 := Lib.hid (HBv1.out.put pv2 (oc' := #[.bool b, .int .i64 0, .int .i64 z, .float .f64 0, .bool false, .slice none 0 0]) hbv2)
        clear hbv2 pv2 HBv1
        have g0 : v2.cell? ⟨gb, 0, none⟩ = some (.slice none 0 0) := HBv2.out.gone.cell 0 rfl
        go_wp2_with ((with_reducible refine gate_st (t := 28) rfl ?_); refine halt_L ?_)
        refine resume_L ?_
        refine wpList_put HBv2.out.o (o := 5) (v := .slice none 0 0) (by simp) rfl rfl rfl infoSl ?_
        intro wy hby py
        have HY := Lib.hid (HBv2.out.put py (oc' := #[.bool b, .int .i64 0, .int .i64 z, .float .f64 0, .bool false, .slice none 0 0]) hby)
        have l0 : wy.cell? ⟨w1.heap.size, 0, none⟩ = some (.bool b) := HY.out.o.cell 0 rfl
        have l1 : wy.cell? ⟨w1.heap.size, 1, none⟩ = some (.int .i64 0) := HY.out.o.cell 1 rfl
        have l2 : wy.cell? ⟨w1.heap.size, 2, none⟩ = some (.int .i64 z) := HY.out.o.cell 2 rfl
        have l3 : wy.cell? ⟨w1.heap.size, 3, none⟩ = some (.float .f64 0) := HY.out.o.cell 3 rfl
        have l4 : wy.cell? ⟨w1.heap.size, 4, none⟩ = some (.bool false) := HY.out.o.cell 4 rfl
        have l5 : wy.cell? ⟨w1.heap.size, 5, none⟩ = some (.slice none 0 0) := HY.out.o.cell 5 rfl
        clear g0 hby py
        go_wp2_with (at_builtin; refine halt_L ?_)
        refine resume_L ?_
        obtain ⟨i0, hi0, hz0, hz1, hz2⟩ := info_parts infoOut
        refine wpList_append_own _ rfl _ _ 34 rfl B tO i0 (.agg outZ) 6 64 Try.underlying34 hi0 hz0 hz1 hz2 rfl (by decide) _ q xs rfl (HY.out.row.alloc _) ⟨wy.heap.size, 0, none⟩ 1 1 [.bool b, .int .i64 0, .int .i64 z, .float .f64 0, .bool false, .slice none 0 0] rfl rfl (World.news_of_block (Blk.new wy tO #[.bool b, .int .i64 0, .int .i64 z, .float .f64 0, .bool false, .slice none 0 0])) (by simp [Value.oneCell']) (by unfold maxLen; omega) (by omega) (by have := HY.out.cach.lt; simp; omega) ?_
        intro v6 w6 ho6 hg6 _
        have HN := Lib.hid (HR.out.next HY.out ho6 hg6 hlq (by rw [HSt.out]; simp [stepE]) (by simp [Value.oneCell']) (fun h4 => absurd (HDq.out.symm.trans h4) (by decide)))
        obtain ⟨A6, c6, rfl⟩ := own_slice ho6
        clear l0 l1 l2 l3 l4 l5 ho6 hg6 hi0 hz0 hz1 hz2
        go_wp2_with fail
        go_roundw
        case rel => exact ⟨q + 1, _, by omega, by go_num, HN.out⟩
        case measure => simp [intOf]; omega
      · go_wp2_with (go_at_call 17; refine halt_L ?_)
        generalize hW2 : World.alloc _ _ = W2 at HRd HX ⊢
        clear hW2 x0 x1 x2
        refine resume_L ?_
        refine (comp_any B c n (runE n (l.take q)) k v w1.heap.size wr.heap.size outZ #[.int .i64 2, .int .i64 k, .int .i64 v] W2 HRd.out.cach HRd.out.o rfl HX.out rfl HRd.out.Bgo).mono ?_
        rintro e w3 ⟨⟨z, rfl⟩, hc3, hk3, oc3, ho3, hoc⟩
        obtain ⟨a4, ha4⟩ : ∃ a4, Blk w3 w1.heap.size tO #[.bool false, .int .i64 0, .int .i64 0, .float .f64 0, .bool a4, .slice none 0 0] := by
          rcases hoc with rfl | rfl
          · exact ⟨false, ho3⟩
          · exact ⟨true, ho3⟩
        have HA := Lib.hid (HRd.out.kxo hc3 hk3 ha4)
        clear hc3 hk3 ha4 hoc ho3 HRd HX
        go_wp2_with ((with_reducible refine gate_st (t := 3) rfl ?_); refine halt_L ?_)
        refine resume_L ?_
        refine wpList_put HA.out.o (o := 2) (v := .int .i64 z) (by simp) rfl rfl rfl infoI ?_
        intro v1 hbv1 pv1
        have HBv1 := Lib.hid (HA.out.put pv1 (oc' := #[.bool false, .int .i64 0, .int .i64 z, .float .f64 0, .bool a4, .slice none 0 0]) hbv1)
        clear hbv1 pv1 HA
        have g0 : v1.cell? ⟨gb, 0, none⟩ = some (.slice none 0 0) := HBv1.out.gone.cell 0 rfl
        go_wp2_with ((with_reducible refine gate_st (t := 28) rfl ?_); refine halt_L ?_)
        refine resume_L ?_
        refine wpList_put HBv1.out.o (o := 5) (v := .slice none 0 0) (by simp) rfl rfl rfl infoSl ?_
        intro wy hby py
        have HY := Lib.hid (HBv1.out.put py (oc' := #[.bool false, .int .i64 0, .int .i64 z, .float .f64 0, .bool a4, .slice none 0 0]) hby)
        have l0 : wy.cell? ⟨w1.heap.size, 0, none⟩ = some (.bool false) := HY.out.o.cell 0 rfl
        have l1 : wy.cell? ⟨w1.heap.size, 1, none⟩ = some (.int .i64 0) := HY.out.o.cell 1 rfl
        have l2 : wy.cell? ⟨w1.heap.size, 2, none⟩ = some (.int .i64 z) := HY.out.o.cell 2 rfl
        have l3 : wy.cell? ⟨w1.heap.size, 3, none⟩ = some (.float .f64 0) := HY.out.o.cell 3 rfl
        have l4 : wy.cell? ⟨w1.heap.size, 4, none⟩ = some (.bool a4) := HY.out.o.cell 4 rfl
        have l5 : wy.cell? ⟨w1.heap.size, 5, none⟩ = some (.slice none 0 0) := HY.out.o.cell 5 rfl
        clear g0 hby py
        go_wp2_with (at_builtin; refine halt_L ?_)
        refine resume_L ?_
        obtain ⟨i0, hi0, hz0, hz1, hz2⟩ := info_parts infoOut
        refine wpList_append_own _ rfl _ _ 34 rfl B tO i0 (.agg outZ) 6 64 Try.underlying34 hi0 hz0 hz1 hz2 rfl (by decide) _ q xs rfl (HY.out.row.alloc _) ⟨wy.heap.size, 0, none⟩ 1 1 [.bool false, .int .i64 0, .int .i64 z, .float .f64 0, .bool a4, .slice none 0 0] rfl rfl (World.news_of_block (Blk.new wy tO #[.bool false, .int .i64 0, .int .i64 z, .float .f64 0, .bool a4, .slice none 0 0])) (by simp [Value.oneCell']) (by unfold maxLen; omega) (by omega) (by have := HY.out.cach.lt; simp; omega) ?_
        intro v6 w6 ho6 hg6 _
        have HN := Lib.hid (HR.out.next HY.out ho6 hg6 hlq (by rw [HSt.out]; simp [stepE]) (by simp [Value.oneCell']) (fun h4 => absurd (HDq.out.symm.trans h4) (by decide)))
        obtain ⟨A6, c6, rfl⟩ := own_slice ho6
        clear l0 l1 l2 l3 l4 l5 ho6 hg6 hi0 hz0 hz1 hz2
        go_wp2_with fail
        go_roundw
        case rel => exact ⟨q + 1, _, by omega, by go_num, HN.out⟩
        case measure => simp [intOf]; omega
      · go_wp2_with (go_at_call 19; refine halt_L ?_)
        generalize hW2 : World.alloc _ _ = W2 at HRd HX ⊢
        clear hW2 x0 x1 x2
        refine resume_L ?_
        refine (remove_any B c n (runE n (l.take q)) k W2 HRd.out.cach).mono ?_
        rintro e w3 ⟨⟨b, rfl⟩, hl⟩
        have HA := Lib.hid (HRd.out.kx hl)
        clear hl HRd HX
        go_wp2_with ((with_reducible refine gate_st (t := 4) rfl ?_); refine halt_L ?_)
        refine resume_L ?_
        refine wpList_put HA.out.o (o := 0) (v := .bool b) (by simp) rfl rfl rfl infoB ?_
        intro v1 hbv1 pv1
        have HBv1 := Lib.hid (HA.out.put pv1 (oc' := #[.bool b, .int .i64 0, .int .i64 0, .float .f64 0, .bool false, .slice none 0 0]) hbv1)
        clear hbv1 pv1 HA
        have g0 : v1.cell? ⟨gb, 0, none⟩ = some (.slice none 0 0) := HBv1.out.gone.cell 0 rfl
        go_wp2_with ((with_reducible refine gate_st (t := 28) rfl ?_); refine halt_L ?_)
        refine resume_L ?_
        refine wpList_put HBv1.out.o (o := 5) (v := .slice none 0 0) (by simp) rfl rfl rfl infoSl ?_
        intro wy hby py
        have HY := Lib.hid (HBv1.out.put py (oc' := #[.bool b, .int .i64 0, .int .i64 0, .float .f64 0, .bool false, .slice none 0 0]) hby)
        have l0 : wy.cell? ⟨w1.heap.size, 0, none⟩ = some (.bool b) := HY.out.o.cell 0 rfl
        have l1 : wy.cell? ⟨w1.heap.size, 1, none⟩ = some (.int .i64 0) := HY.out.o.cell 1 rfl
        have l2 : wy.cell? ⟨w1.heap.size, 2, none⟩ = some (.int .i64 0) := HY.out.o.cell 2 rfl
        have l3 : wy.cell? ⟨w1.heap.size, 3, none⟩ = some (.float .f64 0) := HY.out.o.cell 3 rfl
        have l4 : wy.cell? ⟨w1.heap.size, 4, none⟩ = some (.bool false) := HY.out.o.cell 4 rfl
        have l5 : wy.cell? ⟨w1.heap.size, 5, none⟩ = some (.slice none 0 0) := HY.out.o.cell 5 rfl
        clear g0 hby py
        go_wp2_with (at_builtin; refine halt_L ?_)
        refine resume_L ?_
        obtain ⟨i0, hi0, hz0, hz1, hz2⟩ := info_parts infoOut
        refine wpList_append_own _ rfl _ _ 34 rfl B tO i0 (.agg outZ) 6 64 Try.underlying34 hi0 hz0 hz1 hz2 rfl (by decide) _ q xs rfl (HY.out.row.alloc _) ⟨wy.heap.size, 0, none⟩ 1 1 [.bool b, .int .i64 0, .int .i64 0, .float .f64 0, .bool false, .slice none 0 0] rfl rfl (World.news_of_block (Blk.new wy tO #[.bool b, .int .i64 0, .int .i64 0, .float .f64 0, .bool false, .slice none 0 0])) (by simp [Value.oneCell']) (by unfold maxLen; omega) (by omega) (by have := HY.out.cach.lt; simp; omega) ?_
        intro v6 w6 ho6 hg6 _
        have HN := Lib.hid (HR.out.next HY.out ho6 hg6 hlq (by rw [HSt.out]; simp [stepE]) (by simp [Value.oneCell']) (fun h4 => absurd (HDq.out.symm.trans h4) (by decide)))
        obtain ⟨A6, c6, rfl⟩ := own_slice ho6
        clear l0 l1 l2 l3 l4 l5 ho6 hg6 hi0 hz0 hz1 hz2
        go_wp2_with fail
        go_roundw
        case rel => exact ⟨q + 1, _, by omega, by go_num, HN.out⟩
        case measure => simp [intOf]; omega
      · go_wp2_with (go_at_call 20; refine halt_L ?_)
        generalize hW2 : World.alloc _ _ = W2 at HRd HX ⊢
        clear hW2 x0 x1 x2
        refine resume_L ?_
        refine (removeOldest_any B c n (runE n (l.take q)) W2 HRd.out.cach).mono ?_
        rintro e w3 ⟨hold, hl⟩
        rcases hE : runE n (l.take q) with _ | ⟨p, E'⟩
        · have HEq := Lib.hid hE
          rw [hE] at hold hl
          clear hE
          unfold OldP at hold
          subst hold
          have HA := Lib.hid (HRd.out.kx hl)
          clear hl HRd HX
          go_wp2_with ((with_reducible refine gate_st (t := 3) rfl ?_); refine halt_L ?_)
          refine resume_L ?_
          refine wpList_put HA.out.o (o := 1) (v := .int .i64 0) (by simp) rfl rfl rfl infoI ?_
          intro v1 hbv1 pv1
          have HBv1 := Lib.hid (HA.out.put pv1 (oc' := #[.bool false, .int .i64 0, .int .i64 0, .float .f64 0, .bool false, .slice none 0 0]) hbv1)
          clear hbv1 pv1 HA
          go_wp2_with ((with_reducible refine gate_st (t := 3) rfl ?_); refine halt_L ?_)
          refine resume_L ?_
          refine wpList_put HBv1.out.o (o := 2) (v := .int .i64 0) (by simp) rfl rfl rfl infoI ?_
          intro v2 hbv2 pv2
          have HBv2 := Lib.hid (HBv1.out.put pv2 (oc' := #[.bool false, .int .i64 0, .int .i64 0, .float .f64 0, .bool false, .slice none 0 0]) hbv2)
          clear hbv2 pv2 HBv1
          go_wp2_with ((with_reducible refine gate_st (t := 4) rfl ?_); refine halt_L ?_)
          refine resume_L ?_
          refine wpList_put HBv2.out.o (o := 0) (v := .bool false) (by simp) rfl rfl rfl infoB ?_
          intro v3 hbv3 pv3
          have HBv3 := Lib.hid (HBv2.out.put pv3 (oc' := #[.bool false, .int .i64 0, .int .i64 0, .float .f64 0, .bool false, .slice none 0 0]) hbv3)
          clear hbv3 pv3 HBv2
          have g0 : v3.cell? ⟨gb, 0, none⟩ = some (.slice none 0 0) := HBv3.out.gone.cell 0 rfl
          go_wp2_with ((with_reducible refine gate_st (t := 28) rfl ?_); refine halt_L ?_)
          refine resume_L ?_
          refine wpList_put HBv3.out.o (o := 5) (v := .slice none 0 0) (by simp) rfl rfl rfl infoSl ?_
          intro wy hby py
          have HY := Lib.hid (HBv3.out.put py (oc' := #[.bool false, .int .i64 0, .int .i64 0, .float .f64 0, .bool false, .slice none 0 0]) hby)
          have l0 : wy.cell? ⟨w1.heap.size, 0, none⟩ = some (.bool false) := HY.out.o.cell 0 rfl
          have l1 : wy.cell? ⟨w1.heap.size, 1, none⟩ = some (.int .i64 0) := HY.out.o.cell 1 rfl
          have l2 : wy.cell? ⟨w1.heap.size, 2, none⟩ = some (.int .i64 0) := HY.out.o.cell 2 rfl
          have l3 : wy.cell? ⟨w1.heap.size, 3, none⟩ = some (.float .f64 0) := HY.out.o.cell 3 rfl
          have l4 : wy.cell? ⟨w1.heap.size, 4, none⟩ = some (.bool false) := HY.out.o.cell 4 rfl
          have l5 : wy.cell? ⟨w1.heap.size, 5, none⟩ = some (.slice none 0 0) := HY.out.o.cell 5 rfl
          clear g0 hby py
          go_wp2_with (at_builtin; refine halt_L ?_)
          refine resume_L ?_
          obtain ⟨i0, hi0, hz0, hz1, hz2⟩ := info_parts infoOut
          refine wpList_append_own _ rfl _ _ 34 rfl B tO i0 (.agg outZ) 6 64 Try.underlying34 hi0 hz0 hz1 hz2 rfl (by decide) _ q xs rfl (HY.out.row.alloc _) ⟨wy.heap.size, 0, none⟩ 1 1 [.bool false, .int .i64 0, .int .i64 0, .float .f64 0, .bool false, .slice none 0 0] rfl rfl (World.news_of_block (Blk.new wy tO #[.bool false, .int .i64 0, .int .i64 0, .float .f64 0, .bool false, .slice none 0 0])) (by simp [Value.oneCell']) (by unfold maxLen; omega) (by omega) (by have := HY.out.cach.lt; simp; omega) ?_
          intro v6 w6 ho6 hg6 _
          have HN := Lib.hid (HR.out.next HY.out ho6 hg6 hlq (HSt.out.trans (by first | (rw [HEq.out]; done) | (rw [HEq.out]; simp [stepE]))) (by simp [Value.oneCell']) (fun h4 => by rw [HEq.out]))
          obtain ⟨A6, c6, rfl⟩ := own_slice ho6
          clear l0 l1 l2 l3 l4 l5 ho6 hg6 hi0 hz0 hz1 hz2
          go_wp2_with fail
          go_roundw
          case rel => exact ⟨q + 1, _, by omega, by go_num, HN.out⟩
          case measure => simp [intOf]; omega
        · have HEq := Lib.hid hE
          rw [hE] at hold hl
          clear hE
          unfold OldP at hold
          subst hold
          have HA := Lib.hid (HRd.out.kx hl)
          clear hl HRd HX
          go_wp2_with ((with_reducible refine gate_st (t := 3) rfl ?_); refine halt_L ?_)
          refine resume_L ?_
          refine wpList_put HA.out.o (o := 1) (v := .int .i64 p.1) (by simp) rfl rfl rfl infoI ?_
          intro v1 hbv1 pv1
          have HBv1 := Lib.hid (HA.out.put pv1 (oc' := #[.bool false, .int .i64 p.1, .int .i64 0, .float .f64 0, .bool false, .slice none 0 0]) hbv1)
          clear hbv1 pv1 HA
          go_wp2_with ((with_reducible refine gate_st (t := 3) rfl ?_); refine halt_L ?_)
          refine resume_L ?_
          refine wpList_put HBv1.out.o (o := 2) (v := .int .i64 p.2) (by simp) rfl rfl rfl infoI ?_
          intro v2 hbv2 pv2
          have HBv2 := Lib.hid (HBv1.out.put pv2 (oc' := #[.bool false, .int .i64 p.1, .int .i64 p.2, .float .f64 0, .bool false, .slice none 0 0]) hbv2)
          clear hbv2 pv2 HBv1
          go_wp2_with ((with_reducible refine gate_st (t := 4) rfl ?_); refine halt_L ?_)
          refine resume_L ?_
          refine wpList_put HBv2.out.o (o := 0) (v := .bool true) (by simp) rfl rfl rfl infoB ?_
          intro v3 hbv3 pv3
          have HBv3 := Lib.hid (HBv2.out.put pv3 (oc' := #[.bool true, .int .i64 p.1, .int .i64 p.2, .float .f64 0, .bool false, .slice none 0 0]) hbv3)
          clear hbv3 pv3 HBv2
          have g0 : v3.cell? ⟨gb, 0, none⟩ = some (.slice none 0 0) := HBv3.out.gone.cell 0 rfl
          go_wp2_with ((with_reducible refine gate_st (t := 28) rfl ?_); refine halt_L ?_)
          refine resume_L ?_
          refine wpList_put HBv3.out.o (o := 5) (v := .slice none 0 0) (by simp) rfl rfl rfl infoSl ?_
          intro wy hby py
          have HY := Lib.hid (HBv3.out.put py (oc' := #[.bool true, .int .i64 p.1, .int .i64 p.2, .float .f64 0, .bool false, .slice none 0 0]) hby)
          have l0 : wy.cell? ⟨w1.heap.size, 0, none⟩ = some (.bool true) := HY.out.o.cell 0 rfl
          have l1 : wy.cell? ⟨w1.heap.size, 1, none⟩ = some (.int .i64 p.1) := HY.out.o.cell 1 rfl
          have l2 : wy.cell? ⟨w1.heap.size, 2, none⟩ = some (.int .i64 p.2) := HY.out.o.cell 2 rfl
          have l3 : wy.cell? ⟨w1.heap.size, 3, none⟩ = some (.float .f64 0) := HY.out.o.cell 3 rfl
          have l4 : wy.cell? ⟨w1.heap.size, 4, none⟩ = some (.bool false) := HY.out.o.cell 4 rfl
          have l5 : wy.cell? ⟨w1.heap.size, 5, none⟩ = some (.slice none 0 0) := HY.out.o.cell 5 rfl
          clear g0 hby py
          go_wp2_with (at_builtin; refine halt_L ?_)
          refine resume_L ?_
          obtain ⟨i0, hi0, hz0, hz1, hz2⟩ := info_parts infoOut
          refine wpList_append_own _ rfl _ _ 34 rfl B tO i0 (.agg outZ) 6 64 Try.underlying34 hi0 hz0 hz1 hz2 rfl (by decide) _ q xs rfl (HY.out.row.alloc _) ⟨wy.heap.size, 0, none⟩ 1 1 [.bool true, .int .i64 p.1, .int .i64 p.2, .float .f64 0, .bool false, .slice none 0 0] rfl rfl (World.news_of_block (Blk.new wy tO #[.bool true, .int .i64 p.1, .int .i64 p.2, .float .f64 0, .bool false, .slice none 0 0])) (by simp [Value.oneCell']) (by unfold maxLen; omega) (by omega) (by have := HY.out.cach.lt; simp; omega) ?_
          intro v6 w6 ho6 hg6 _
          have HN := Lib.hid (HR.out.next HY.out ho6 hg6 hlq (HSt.out.trans (by first | (rw [HEq.out]; done) | (rw [HEq.out]; simp [stepE]))) (by simp [Value.oneCell']) (fun h4 => by rw [HEq.out]; exact ⟨rfl, rfl, rfl⟩))
          obtain ⟨A6, c6, rfl⟩ := own_slice ho6
          clear l0 l1 l2 l3 l4 l5 ho6 hg6 hi0 hz0 hz1 hz2
          go_wp2_with fail
          go_roundw
          case rel => exact ⟨q + 1, _, by omega, by go_num, HN.out⟩
          case measure => simp [intOf]; omega
      · go_wp2_with (go_at_call 21; refine halt_L ?_)
        generalize hW2 : World.alloc _ _ = W2 at HRd HX ⊢
        clear hW2 x0 x1 x2
        refine resume_L ?_
        refine (purge_any B c n (runE n (l.take q)) W2 HRd.out.cach).mono ?_
        rintro e w3 ⟨rfl, hl⟩
        have HA := Lib.hid (HRd.out.kx hl)
        clear hl HRd HX
        have g0 : w3.cell? ⟨gb, 0, none⟩ = some (.slice none 0 0) := HA.out.gone.cell 0 rfl
        go_wp2_with ((with_reducible refine gate_st (t := 28) rfl ?_); refine halt_L ?_)
        refine resume_L ?_
        refine wpList_put HA.out.o (o := 5) (v := .slice none 0 0) (by simp) rfl rfl rfl infoSl ?_
        intro wy hby py
        have HY := Lib.hid (HA.out.put py (oc' := #[.bool false, .int .i64 0, .int .i64 0, .float .f64 0, .bool false, .slice none 0 0]) hby)
        have l0 : wy.cell? ⟨w1.heap.size, 0, none⟩ = some (.bool false) := HY.out.o.cell 0 rfl
        have l1 : wy.cell? ⟨w1.heap.size, 1, none⟩ = some (.int .i64 0) := HY.out.o.cell 1 rfl
        have l2 : wy.cell? ⟨w1.heap.size, 2, none⟩ = some (.int .i64 0) := HY.out.o.cell 2 rfl
        have l3 : wy.cell? ⟨w1.heap.size, 3, none⟩ = some (.float .f64 0) := HY.out.o.cell 3 rfl
        have l4 : wy.cell? ⟨w1.heap.size, 4, none⟩ = some (.bool false) := HY.out.o.cell 4 rfl
        have l5 : wy.cell? ⟨w1.heap.size, 5, none⟩ = some (.slice none 0 0) := HY.out.o.cell 5 rfl
        clear g0 hby py
        go_wp2_with (at_builtin; refine halt_L ?_)
        refine resume_L ?_
        obtain ⟨i0, hi0, hz0, hz1, hz2⟩ := info_parts infoOut
        refine wpList_append_own _ rfl _ _ 34 rfl B tO i0 (.agg outZ) 6 64 Try.underlying34 hi0 hz0 hz1 hz2 rfl (by decide) _ q xs rfl (HY.out.row.alloc _) ⟨wy.heap.size, 0, none⟩ 1 1 [.bool false, .int .i64 0, .int .i64 0, .float .f64 0, .bool false, .slice none 0 0] rfl rfl (World.news_of_block (Blk.new wy tO #[.bool false, .int .i64 0, .int .i64 0, .float .f64 0, .bool false, .slice none 0 0])) (by simp [Value.oneCell']) (by unfold maxLen; omega) (by omega) (by have := HY.out.cach.lt; simp; omega) ?_
        intro v6 w6 ho6 hg6 _
        have HN := Lib.hid (HR.out.next HY.out ho6 hg6 hlq (by rw [HSt.out]; simp [stepE]) (by simp [Value.oneCell']) (fun h4 => absurd (HDq.out.symm.trans h4) (by decide)))
        obtain ⟨A6, c6, rfl⟩ := own_slice ho6
        clear l0 l1 l2 l3 l4 l5 ho6 hg6 hi0 hz0 hz1 hz2
        go_wp2_with fail
        go_roundw
        case rel => exact ⟨q + 1, _, by omega, by go_num, HN.out⟩
        case measure => simp [intOf]; omega
      · go_wp2_with (go_at_call 22; refine halt_L ?_)
        generalize hW2 : World.alloc _ _ = W2 at HRd HX ⊢
        clear hW2 x0 x1 x2
        refine resume_L ?_
        refine (len_any B c n (runE n (l.take q)) W2 HRd.out.cach).mono ?_
        rintro e w3 ⟨⟨z, rfl⟩, hl⟩
        have HA := Lib.hid (HRd.out.kx hl)
        clear hl HRd HX
        go_wp2_with ((with_reducible refine gate_st (t := 3) rfl ?_); refine halt_L ?_)
        refine resume_L ?_
        refine wpList_put HA.out.o (o := 2) (v := .int .i64 z) (by simp) rfl rfl rfl infoI ?_
        intro v1 hbv1 pv1
        have HBv1 := Lib.hid (HA.out.put pv1 (oc' := #[.bool false, .int .i64 0, .int .i64 z, .float .f64 0, .bool false, .slice none 0 0]) hbv1)
        clear hbv1 pv1 HA
        have g0 : v1.cell? ⟨gb, 0, none⟩ = some (.slice none 0 0) := HBv1.out.gone.cell 0 rfl
        go_wp2_with ((with_reducible refine gate_st (t := 28) rfl ?_); refine halt_L ?_)
        refine resume_L ?_
        refine wpList_put HBv1.out.o (o := 5) (v := .slice none 0 0) (by simp) rfl rfl rfl infoSl ?_
        intro wy hby py
        have HY := Lib.hid (HBv1.out.put py (oc' := #[.bool false, .int .i64 0, .int .i64 z, .float .f64 0, .bool false, .slice none 0 0]) hby)
        have l0 : wy.cell? ⟨w1.heap.size, 0, none⟩ = some (.bool false) := HY.out.o.cell 0 rfl
        have l1 : wy.cell? ⟨w1.heap.size, 1, none⟩ = some (.int .i64 0) := HY.out.o.cell 1 rfl
        have l2 : wy.cell? ⟨w1.heap.size, 2, none⟩ = some (.int .i64 z) := HY.out.o.cell 2 rfl
        have l3 : wy.cell? ⟨w1.heap.size, 3, none⟩ = some (.float .f64 0) := HY.out.o.cell 3 rfl
        have l4 : wy.cell? ⟨w1.heap.size, 4, none⟩ = some (.bool false) := HY.out.o.cell 4 rfl
        have l5 : wy.cell? ⟨w1.heap.size, 5, none⟩ = some (.slice none 0 0) := HY.out.o.cell 5 rfl
        clear g0 hby py
        go_wp2_with (at_builtin; refine halt_L ?_)
        refine resume_L ?_
        obtain ⟨i0, hi0, hz0, hz1, hz2⟩ := info_parts infoOut
        refine wpList_append_own _ rfl _ _ 34 rfl B tO i0 (.agg outZ) 6 64 Try.underlying34 hi0 hz0 hz1 hz2 rfl (by decide) _ q xs rfl (HY.out.row.alloc _) ⟨wy.heap.size, 0, none⟩ 1 1 [.bool false, .int .i64 0, .int .i64 z, .float .f64 0, .bool false, .slice none 0 0] rfl rfl (World.news_of_block (Blk.new wy tO #[.bool false, .int .i64 0, .int .i64 z, .float .f64 0, .bool false, .slice none 0 0])) (by simp [Value.oneCell']) (by unfold maxLen; omega) (by omega) (by have := HY.out.cach.lt; simp; omega) ?_
        intro v6 w6 ho6 hg6 _
        have HN := Lib.hid (HR.out.next HY.out ho6 hg6 hlq (by rw [HSt.out]; simp [stepE]) (by simp [Value.oneCell']) (fun h4 => absurd (HDq.out.symm.trans h4) (by decide)))
        obtain ⟨A6, c6, rfl⟩ := own_slice ho6
        clear l0 l1 l2 l3 l4 l5 ho6 hg6 hi0 hz0 hz1 hz2
        go_wp2_with fail
        go_roundw
        case rel => exact ⟨q + 1, _, by omega, by go_num, HN.out⟩
        case measure => simp [intOf]; omega
      · go_wp2_with (go_at_call 23; refine halt_L ?_)
        generalize hW2 : World.alloc _ _ = W2 at HRd HX ⊢
        clear hW2 x0 x1 x2
        refine resume_L ?_
        refine (cap_any B c n (runE n (l.take q)) W2 HRd.out.cach).mono ?_
        rintro e w3 ⟨⟨z, rfl⟩, hl⟩
        have HA := Lib.hid (HRd.out.kx hl)
        clear hl HRd HX
        go_wp2_with ((with_reducible refine gate_st (t := 3) rfl ?_); refine halt_L ?_)
        refine resume_L ?_
        refine wpList_put HA.out.o (o := 2) (v := .int .i64 z) (by simp) rfl rfl rfl infoI ?_
        intro v1 hbv1 pv1
        have HBv1 := Lib.hid (HA.out.put pv1 (oc' := #[.bool false, .int .i64 0, .int .i64 z, .float .f64 0, .bool false, .slice none 0 0]) hbv1)
        clear hbv1 pv1 HA
        have g0 : v1.cell? ⟨gb, 0, none⟩ = some (.slice none 0 0) := HBv1.out.gone.cell 0 rfl
        go_wp2_with ((with_reducible refine gate_st (t := 28) rfl ?_); refine halt_L ?_)
        refine resume_L ?_
        refine wpList_put HBv1.out.o (o := 5) (v := .slice none 0 0) (by simp) rfl rfl rfl infoSl ?_
        intro wy hby py
        have HY := Lib.hid (HBv1.out.put py (oc' := #[.bool false, .int .i64 0, .int .i64 z, .float .f64 0, .bool false, .slice none 0 0]) hby)
        have l0 : wy.cell? ⟨w1.heap.size, 0, none⟩ = some (.bool false) := HY.out.o.cell 0 rfl
        have l1 : wy.cell? ⟨w1.heap.size, 1, none⟩ = some (.int .i64 0) := HY.out.o.cell 1 rfl
        have l2 : wy.cell? ⟨w1.heap.size, 2, none⟩ = some (.int .i64 z) := HY.out.o.cell 2 rfl
        have l3 : wy.cell? ⟨w1.heap.size, 3, none⟩ = some (.float .f64 0) := HY.out.o.cell 3 rfl
        have l4 : wy.cell? ⟨w1.heap.size, 4, none⟩ = some (.bool false) := HY.out.o.cell 4 rfl
        have l5 : wy.cell? ⟨w1.heap.size, 5, none⟩ = some (.slice none 0 0) := HY.out.o.cell 5 rfl
        clear g0 hby py
        go_wp2_with (at_builtin; refine halt_L ?_)
        refine resume_L ?_
        obtain ⟨i0, hi0, hz0, hz1, hz2⟩ := info_parts infoOut
        refine wpList_append_own _ rfl _ _ 34 rfl B tO i0 (.agg outZ) 6 64 Try.underlying34 hi0 hz0 hz1 hz2 rfl (by decide) _ q xs rfl (HY.out.row.alloc _) ⟨wy.heap.size, 0, none⟩ 1 1 [.bool false, .int .i64 0, .int .i64 z, .float .f64 0, .bool false, .slice none 0 0] rfl rfl (World.news_of_block (Blk.new wy tO #[.bool false, .int .i64 0, .int .i64 z, .float .f64 0, .bool false, .slice none 0 0])) (by simp [Value.oneCell']) (by unfold maxLen; omega) (by omega) (by have := HY.out.cach.lt; simp; omega) ?_
        intro v6 w6 ho6 hg6 _
        have HN := Lib.hid (HR.out.next HY.out ho6 hg6 hlq (by rw [HSt.out]; simp [stepE]) (by simp [Value.oneCell']) (fun h4 => absurd (HDq.out.symm.trans h4) (by decide)))
        obtain ⟨A6, c6, rfl⟩ := own_slice ho6
        clear l0 l1 l2 l3 l4 l5 ho6 hg6 hi0 hz0 hz1 hz2
        go_wp2_with fail
        go_roundw
        case rel => exact ⟨q + 1, _, by omega, by go_num, HN.out⟩
        case measure => simp [intOf]; omega
      · go_wp2_with (go_at_call 24; refine halt_L ?_)
        generalize hW2 : World.alloc _ _ = W2 at HRd HX ⊢
        clear hW2 x0 x1 x2
        refine resume_L ?_
        refine (rate_any B c n (runE n (l.take q)) W2 HRd.out.cach).mono ?_
        rintro e w3 ⟨⟨z, rfl⟩, hl⟩
        have HA := Lib.hid (HRd.out.kx hl)
        clear hl HRd HX
        go_wp2_with ((with_reducible refine gate_st (t := 27) rfl ?_); refine halt_L ?_)
        refine resume_L ?_
        refine wpList_put HA.out.o (o := 3) (v := .float .f64 z) (by simp) rfl rfl rfl infoF ?_
        intro v1 hbv1 pv1
        have HBv1 := Lib.hid (HA.out.put pv1 (oc' := #[.bool false, .int .i64 0, .int .i64 0, .float .f64 z, .bool false, .slice none 0 0]) hbv1)
        clear hbv1 pv1 HA
        have g0 : v1.cell? ⟨gb, 0, none⟩ = some (.slice none 0 0) := HBv1.out.gone.cell 0 rfl
        go_wp2_with ((with_reducible refine gate_st (t := 28) rfl ?_); refine halt_L ?_)
        refine resume_L ?_
        refine wpList_put HBv1.out.o (o := 5) (v := .slice none 0 0) (by simp) rfl rfl rfl infoSl ?_
        intro wy hby py
        have HY := Lib.hid (HBv1.out.put py (oc' := #[.bool false, .int .i64 0, .int .i64 0, .float .f64 z, .bool false, .slice none 0 0]) hby)
        have l0 : wy.cell? ⟨w1.heap.size, 0, none⟩ = some (.bool false) := HY.out.o.cell 0 rfl
        have l1 : wy.cell? ⟨w1.heap.size, 1, none⟩ = some (.int .i64 0) := HY.out.o.cell 1 rfl
        have l2 : wy.cell? ⟨w1.heap.size, 2, none⟩ = some (.int .i64 0) := HY.out.o.cell 2 rfl
        have l3 : wy.cell? ⟨w1.heap.size, 3, none⟩ = some (.float .f64 z) := HY.out.o.cell 3 rfl
        have l4 : wy.cell? ⟨w1.heap.size, 4, none⟩ = some (.bool false) := HY.out.o.cell 4 rfl
        have l5 : wy.cell? ⟨w1.heap.size, 5, none⟩ = some (.slice none 0 0) := HY.out.o.cell 5 rfl
        clear g0 hby py
        go_wp2_with (at_builtin; refine halt_L ?_)
        refine resume_L ?_
        obtain ⟨i0, hi0, hz0, hz1, hz2⟩ := info_parts infoOut
        refine wpList_append_own _ rfl _ _ 34 rfl B tO i0 (.agg outZ) 6 64 Try.underlying34 hi0 hz0 hz1 hz2 rfl (by decide) _ q xs rfl (HY.out.row.alloc _) ⟨wy.heap.size, 0, none⟩ 1 1 [.bool false, .int .i64 0, .int .i64 0, .float .f64 z, .bool false, .slice none 0 0] rfl rfl (World.news_of_block (Blk.new wy tO #[.bool false, .int .i64 0, .int .i64 0, .float .f64 z, .bool false, .slice none 0 0])) (by simp [Value.oneCell']) (by unfold maxLen; omega) (by omega) (by have := HY.out.cach.lt; simp; omega) ?_
        intro v6 w6 ho6 hg6 _
        have HN := Lib.hid (HR.out.next HY.out ho6 hg6 hlq (by rw [HSt.out]; simp [stepE]) (by simp [Value.oneCell']) (fun h4 => absurd (HDq.out.symm.trans h4) (by decide)))
        obtain ⟨A6, c6, rfl⟩ := own_slice ho6
        clear l0 l1 l2 l3 l4 l5 ho6 hg6 hi0 hz0 hz1 hz2
        go_wp2_with fail
        go_roundw
        case rel => exact ⟨q + 1, _, by omega, by go_num, HN.out⟩
        case measure => simp [intOf]; omega
    · have hix : (N : Int) ≤ (q : Int) := by omega
      obtain rfl : q = N := by omega
      obtain ⟨A10, c10, rfl⟩ := own_slice HR.out.row
      go_wp2_with fail
      go_ret2
      exact ⟨A10, c10, xs, rfl, own_mono6 HR.out.row HR.out.wB, HR.out.told, HR.out.one, HR.out.below⟩
end Go.Proofs.Ytnggdeggcflodaa
