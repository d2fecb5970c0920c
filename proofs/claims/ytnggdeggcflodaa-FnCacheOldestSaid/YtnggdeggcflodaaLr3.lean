/- A cache as a whole: its own block, its map, its entries; an entry moved ahead, the oldest one taken out. No conditions. -/
import Derived.Test.YtnggdeggcflodaaLr2
import Derived.StillTailTactics
namespace Go.Proofs.Ytnggdeggcflodaa
open Go.RowKit Go.MapKept
set_option linter.unusedVariables false
abbrev tM : TypeId := 58
/-- The cache in block c, from block B on: size n, entries L (the one used last first). -/
structure Lru (w : World) (B c m : Nat) (n : Int) (L : List Nd) (h1 h2 : Int) : Prop where
  blk : Blk w c tL (lruC (.int .i64 n) (.map (some m)) (pt (hdO L none)) (pt (ltO none L)) .nilFunc (.int .i64 h1) (.int .i64 h2))
  map : PMap w m (L.map fun x => (x.k, pt (some x.g)))
  chain : Chain w none L none
  gs : (L.map Nd.g).Nodup
  ks : (L.map Nd.k).Nodup
  Bc : B ≤ c
  Bm : B ≤ m
  Bg : ∀ x ∈ L, B ≤ x.g
/-- What is no part of a cache stays; below block B all stays. -/
structure Kx (B : Nat) (w w' : World) : Prop where
  below : Below B w w'
  keep : ∀ (k : Nat) (cs : Array Value) (t : TypeId), Blk w k t cs → t ≠ tL → t ≠ tE → Blk w' k t cs
theorem Kx.refl (B : Nat) (w : World) : Kx B w w := ⟨Below.refl _ _, fun _ _ _ h _ _ => h⟩
theorem Kx.trans {B : Nat} {a b c : World} (h : Kx B a b) (h2 : Kx B b c) : Kx B a c := ⟨h.below.trans h2.below, fun k cs t hb h3 h4 => h2.keep k cs t (h.keep k cs t hb h3 h4) h3 h4⟩
theorem Kx.alloc {B : Nat} {a w : World} (h : Kx B a w) (hB : B ≤ w.heap.size) (o : Obj) : Kx B a (w.alloc o) := ⟨h.below.alloc hB o, fun k cs t hb h3 h4 => (h.keep k cs t hb h3 h4).alloc o⟩
theorem Kx.put {B b : Nat} {a w w' : World} (h : Kx B a w) (hp : Put w w' b) (hB : B ≤ w.heap.size) (hb : B ≤ b) (hn : ∀ cs t, Blk w b t cs → t = tL ∨ t = tE) : Kx B a w' :=
  ⟨hp.below h.below hB hb, fun k cs t hk h3 h4 => by
    have h5 := h.keep k cs t hk h3 h4
    refine hp.blk h5 ?_
    rintro rfl
    rcases hn _ _ h5 with h6 | h6
    · exact h3 h6
    · exact h4 h6⟩
theorem Kx.drewN {B : Nat} {a w : World} (h : Kx B a w) (n : Nat) : Kx B a (w.drewN n) := ⟨⟨h.below.os, h.below.tape, h.below.output, h.below.size, h.below.block⟩, h.keep⟩
section
variable {w w' : World} {B c m : Nat} {n h1 h2 : Int} {L : List Nd}
theorem Lru.lt (h : Lru w B c m n L h1 h2) : B ≤ w.heap.size := Nat.le_of_lt (Nat.lt_of_le_of_lt h.Bc h.blk.lt)
theorem Lru.drewN (h : Lru w B c m n L h1 h2) (k : Nat) : Lru (w.drewN k) B c m n L h1 h2 := ⟨h.blk, h.map, h.chain.keep (fun _ _ => rfl), h.gs, h.ks, h.Bc, h.Bm, h.Bg⟩
theorem Lru.keep (h : Lru w B c m n L h1 h2) (hk : ∀ k, k < w.heap.size → (k = c ∨ k = m ∨ ∃ x ∈ L, x.g = k) → w'.heap[k]? = w.heap[k]?) : Lru w' B c m n L h1 h2 :=
  ⟨h.blk.keep (hk _ h.blk.lt (.inl rfl)), h.map.keep (hk _ h.map.lt (.inr (.inl rfl))), h.chain.keep (fun x hx => by
    obtain ⟨_, _, hb⟩ := h.chain.at_ hx
    exact hk _ hb.lt (.inr (.inr ⟨x, hx, rfl⟩))), h.gs, h.ks, h.Bc, h.Bm, h.Bg⟩
theorem Lru.alloc (h : Lru w B c m n L h1 h2) (o : Obj) : Lru (w.alloc o) B c m n L h1 h2 := h.keep fun k hk _ => Below.heap_alloc w o k hk
/-- A block of another kind is written, or an append of another kind. -/
theorem Lru.grown {r : Option Nat} (h : Lru w B c m n L h1 h2) (hg : w.grownBy w' r) (hr : ∀ k, r = some k → ∃ t cs, Blk w k t cs ∧ t ≠ tL ∧ t ≠ tE) : Lru w' B c m n L h1 h2 := by
  refine h.keep fun k hk ho => hg.block k hk fun e => ?_
  obtain ⟨t, cs, hb, h3, h4⟩ := hr k e.symm
  rcases ho with rfl | rfl | ⟨x, hx, rfl⟩
  · exact hb.type_ne h.blk h3 rfl
  · exact h.map.ne_blk hb rfl
  · obtain ⟨_, _, hb2⟩ := h.chain.at_ hx
    exact hb.type_ne hb2 h4 rfl
theorem Lru.ne_m (h : Lru w B c m n L h1 h2) : c ≠ m := h.map.ne_blk h.blk
theorem Lru.x_ne_m (h : Lru w B c m n L h1 h2) {x : Nd} (hx : x ∈ L) : x.g ≠ m := by
  obtain ⟨_, _, hb⟩ := h.chain.at_ hx
  exact h.map.ne_blk hb
/-- Behind a change of the cache's own blocks of cells. -/
theorem Mod.kx {B : Nat} {w w' : World} {S : Nat → Prop} (h : Mod w w' S) (hB : B ≤ w.heap.size) (hS : ∀ k, S k → B ≤ k ∧ ∃ t cs, Blk w k t cs ∧ (t = tL ∨ t = tE)) : Kx B w w' := by
  refine ⟨h.below (Below.refl B w) hB fun k hk => (hS k hk).1, fun k cs t hb h3 h4 => hb.keep (h.block k hb.lt fun hk => ?_)⟩
  obtain ⟨_, t', cs', hb', ht⟩ := hS k hk
  unfold Blk at hb hb'
  rw [hb] at hb'
  injection hb' with hb'
  injection hb' with _ hb'
  rcases ht with h5 | h5
  · exact h3 (hb'.trans h5)
  · exact h4 (hb'.trans h5)
theorem Lru.subs (h : Lru w B c m n L h1 h2) {k : Nat} (hk : SubS c L k) : B ≤ k ∧ ∃ t cs, Blk w k t cs ∧ (t = tL ∨ t = tE) := by
  rcases hk with rfl | ⟨x, hx, rfl⟩
  · exact ⟨h.Bc, _, _, h.blk, .inl rfl⟩
  · obtain ⟨_, _, hb⟩ := h.chain.at_ hx
    exact ⟨h.Bg x hx, _, _, hb, .inr rfl⟩
end
theorem infoN : (Try.prog.info? tE).map (fun i => decide (i.size ≠ 0)) = some true := by kernel_rfl
theorem eq_front (w : World) {a b : Nat} (hne : a ≠ b) {ca cb : Array Value} (ha : Blk w a tE ca) (hb : Blk w b tE cb) : (binOp .eql 59 (.pointer (some ⟨a, 0, none⟩)) (.pointer (some ⟨b, 0, none⟩))).run Try.prog w = .ok (.bool false) w := by
  obtain ⟨j, hj, hs⟩ := Option.map_eq_some_iff.1 infoN
  exact run_eql_ptr_other w Try.underlying59 hj (of_decide_eq_true hs) (fun e => hne (by injection e)) ha hb
theorem eq_same (w : World) (a : Nat) : (binOp .eql 59 (.pointer (some ⟨a, 0, none⟩)) (.pointer (some ⟨a, 0, none⟩))).run Try.prog w = .ok (.bool true) w := by
  obtain ⟨j, hj, hs⟩ := Option.map_eq_some_iff.1 infoN
  exact run_eql_ptr_same w ⟨a, 0, none⟩ Try.underlying59 hj
def MovRet (B c m : Nat) (n : Int) (L : List Nd) (h1 h2 : Int) (w : World) (e : Ending) (w' : World) : Prop := e = .returned (.tuple #[]) ∧ Lru w' B c m n L h1 h2 ∧ Kx B w w'
theorem perm_front (l1 l2 : List Nd) (x : Nd) : (x :: (l1 ++ l2)).Perm (l1 ++ x :: l2) := List.perm_middle.symm
set_option maxHeartbeats 1000000 in
set_option maxRecDepth 100000 in
theorem move_any (B c m : Nat) (n : Int) (l1 : List Nd) (x : Nd) (l2 : List Nd) (h1 h2 : Int) (w : World) (h : Lru w B c m n (l1 ++ x :: l2) h1 h2) :
    Calls Try.prog 25 #[pt (some c), pt (some x.g)] w (MovRet B c m n (x :: (l1 ++ l2)) h1 h2 w) := by
  rcases l1 with _ | ⟨a, l1⟩
  · have f0 : w.cell? ⟨c, 2, none⟩ = some (.pointer (some ⟨x.g, 0, none⟩)) := h.blk.cell 2 rfl
    have f1 := eq_same w x.g
    go_enter Try.func25, Try.ntmps25
    simp only [pt_some]
    go_wp2
    go_end0
    exact ⟨rfl, h, Kx.refl _ _⟩
  · have f0 : w.cell? ⟨c, 2, none⟩ = some (.pointer (some ⟨a.g, 0, none⟩)) := h.blk.cell 2 rfl
    have hax : a.g ≠ x.g := (nd_app (l1 := a :: l1) h.gs).2.2 a (by simp) x (by simp)
    have ha := h.chain.1
    obtain ⟨_, _, hx⟩ := h.chain.at_ (x := x) (by simp)
    have f1 := eq_front w hax ha hx
    have hR := rem_chain c _ _ _ _ _ (a :: l1) x l2 w h.blk h.chain h.gs
    have hg : ((x :: (a :: l1 ++ l2)).map Nd.g).Nodup := ((perm_front (a :: l1) l2 x).map Nd.g).nodup_iff.2 h.gs
    have HF := Lib.hid h
    clear ha hx h
    go_enter Try.func25, Try.ntmps25
    simp only [pt_some] at hR ⊢
    go_wp2_with (go_at_call 28; refine hR.mono ?_)
    rintro e w1 ⟨rfl, hc1, hch1, hx1, hm1⟩
    have hA := add_chain c _ _ _ _ _ (a :: l1 ++ l2) x _ _ w1 hc1 hch1 hx1 hg
    simp only [pt_some] at hA
    clear hR f0 f1
    go_wp2_with (go_at_call 27; refine hA.mono ?_)
    rintro e w2 ⟨rfl, hc2, hch2, hm2⟩
    go_wp2
    go_end0
    have h := HF.out
    have hsub : ∀ k, SubS c (x :: (a :: l1 ++ l2)) k → SubS c (a :: l1 ++ x :: l2) k := fun k hk => by
      rcases hk with rfl | ⟨y, hy, e⟩
      · exact .inl rfl
      · exact .inr ⟨y, (perm_front (a :: l1) l2 x).mem_iff.1 hy, e⟩
    have hm := hm1.trans (hm2.mono hsub)
    have nm : ¬ SubS c (a :: l1 ++ x :: l2) m := by
      rintro (e | ⟨y, hy, e⟩)
      · exact h.ne_m e.symm
      · exact h.x_ne_m hy e
    exact ⟨rfl, ⟨hc2, (h.map.keep (hm.block m h.map.lt nm)).perm ((perm_front (a :: l1) l2 x).symm.map _), hch2, hg, ((perm_front (a :: l1) l2 x).map Nd.k).nodup_iff.2 h.ks, h.Bc, h.Bm, fun y hy => h.Bg y ((perm_front (a :: l1) l2 x).mem_iff.1 hy)⟩,
      hm.kx h.lt fun k hk => h.subs hk⟩
end Go.Proofs.Ytnggdeggcflodaa
