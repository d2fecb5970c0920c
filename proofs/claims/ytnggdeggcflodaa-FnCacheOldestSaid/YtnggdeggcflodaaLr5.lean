/- What the calls of a cache do to its entries, the oldest one first: Remove, RemoveOldest, Len, Cap, HitRate, Purge, Get. No conditions. -/
import Derived.Test.YtnggdeggcflodaaLr4
namespace Go.Proofs.Ytnggdeggcflodaa
open Go.RowKit Go.MapKept
set_option linter.unusedVariables false
def EL (L : List Nd) : List (Int × Int) := (L.map fun x => (x.k, x.v)).reverse
def outE (k : Int) (E : List (Int × Int)) : List (Int × Int) := E.filter fun p => decide (p.1 ≠ k)
theorem outE_none {k : Int} {L : List Nd} (h : ∀ x ∈ L, x.k ≠ k) : outE k (EL L) = EL L := by
  unfold outE EL
  rw [List.filter_eq_self]
  intro p hp
  simp only [List.mem_reverse, List.mem_map] at hp
  obtain ⟨x, hx, rfl⟩ := hp
  simpa using h x hx
theorem EL_app (l1 l2 : List Nd) : EL (l1 ++ l2) = EL l2 ++ EL l1 := by simp [EL]
theorem EL_cons (x : Nd) (l : List Nd) : EL (x :: l) = EL l ++ [(x.k, x.v)] := by simp [EL]
theorem mid_keys {l1 l2 : List Nd} {x : Nd} (h : ((l1 ++ x :: l2).map Nd.k).Nodup) : (∀ y ∈ l1, y.k ≠ x.k) ∧ ∀ y ∈ l2, y.k ≠ x.k := by
  rw [List.map_append, List.map_cons, List.nodup_append] at h
  obtain ⟨_, h2, h3⟩ := h
  rw [List.nodup_cons] at h2
  exact ⟨fun y hy => h3 _ (List.mem_map_of_mem hy) _ (by simp), fun y hy e => h2.1 (e ▸ List.mem_map_of_mem hy)⟩
theorem outE_mid {l1 l2 : List Nd} {x : Nd} (h : ((l1 ++ x :: l2).map Nd.k).Nodup) : outE x.k (EL (l1 ++ x :: l2)) = EL (l1 ++ l2) := by
  obtain ⟨h1, h2⟩ := mid_keys h
  have e1 : outE x.k (EL l1) = EL l1 := outE_none h1
  have e2 : outE x.k (EL l2) = EL l2 := outE_none h2
  rw [EL_app, EL_cons, EL_app]
  unfold outE at e1 e2 ⊢
  rw [List.filter_append, List.filter_append, e1, e2]
  simp
/-- A cache of size n in block c, with the entries E, the oldest one first. -/
def Cach (w : World) (B c : Nat) (n : Nat) (E : List (Int × Int)) : Prop := ∃ m L h1 h2, Lru w B c m n L h1 h2 ∧ EL L = E ∧ L.length ≤ n ∧ 1 ≤ n ∧ n ≤ 100000
theorem Cach.lt {w : World} {B c n : Nat} {E : List (Int × Int)} (h : Cach w B c n E) : B ≤ w.heap.size := by
  obtain ⟨m, L, h1, h2, hl, _⟩ := h
  exact hl.lt
theorem Cach.len {w : World} {B c n : Nat} {E : List (Int × Int)} (h : Cach w B c n E) : E.length ≤ n := by
  obtain ⟨m, L, h1, h2, hl, rfl, h3, _⟩ := h
  simpa [EL] using h3
theorem Cach.alloc {w : World} {B c n : Nat} {E : List (Int × Int)} (h : Cach w B c n E) (o : Obj) : Cach (w.alloc o) B c n E := by
  obtain ⟨m, L, h1, h2, hl, h⟩ := h
  exact ⟨m, L, h1, h2, hl.alloc o, h⟩
theorem Cach.drewN {w : World} {B c n : Nat} {E : List (Int × Int)} (h : Cach w B c n E) (k : Nat) : Cach (w.drewN k) B c n E := by
  obtain ⟨m, L, h1, h2, hl, h⟩ := h
  exact ⟨m, L, h1, h2, hl.drewN k, h⟩
theorem Cach.grown {w w' : World} {B c n : Nat} {E : List (Int × Int)} {r : Option Nat} (h : Cach w B c n E) (hg : w.grownBy w' r) (hr : ∀ k, r = some k → ∃ t cs, Blk w k t cs ∧ t ≠ tL ∧ t ≠ tE) : Cach w' B c n E := by
  obtain ⟨m, L, h1, h2, hl, h⟩ := h
  exact ⟨m, L, h1, h2, hl.grown hg hr, h⟩
/-- What a call leaves. -/
structure Left (B c n : Nat) (E : List (Int × Int)) (w w' : World) : Prop where
  cach : Cach w' B c n E
  kx : Kx B w w'
theorem Lru.find {w : World} {B c m : Nat} {n h1 h2 : Int} {L : List Nd} (h : Lru w B c m n L h1 h2) (k : Int) :
    (∃ l1 x l2, L = l1 ++ x :: l2 ∧ x.k = k ∧ (Instr.lookup tM (.map (some m)) (.int .i64 k) true).run Try.prog w = .ok (.tuple #[.pointer (some ⟨x.g, 0, none⟩), .bool true]) w) ∨
    ((∀ x ∈ L, x.k ≠ k) ∧ (Instr.lookup tM (.map (some m)) (.int .i64 k) true).run Try.prog w = .ok (.tuple #[.pointer none, .bool false]) w) := by
  have hz : (zeroValue 59).run Try.prog w = .ok (.pointer none) w := by kernel_rfl
  by_cases hk : ∃ x ∈ L, x.k = k
  · obtain ⟨x, hx, e⟩ := hk
    obtain ⟨l1, l2, rfl⟩ := List.append_of_mem hx
    exact .inl ⟨l1, x, l2, rfl, e, h.map.run_lookup_hit (by rw [keys_of]; exact h.ks) (v := pt (some x.g)) (List.mem_map.2 ⟨x, hx, by rw [e]⟩) Try.underlying58 Try.underlying3 hz⟩
  · refine .inr ⟨fun x hx e => hk ⟨x, hx, e⟩, h.map.run_lookup_miss (fun p hp => ?_) Try.underlying58 Try.underlying3 hz⟩
    obtain ⟨x, hx, rfl⟩ := List.mem_map.1 hp
    exact fun e => hk ⟨x, hx, e⟩
theorem wpList_del2 {w : World} {b : Nat} {ops : Array Oper} {rest : List Oper} {a : Act} {Q : Exit → Act → World → Prop} {dst : Option Tmp} {mo ko : Operand} {ty : TypeId} {ps : String} {af : Array Edge} {l1 l2 : List Nd} {x : Nd} {k : Int} (h : PMap w b ((l1 ++ x :: l2).map fun x => (x.k, pt (some x.g)))) (hd : ((l1 ++ x :: l2).map Nd.k).Nodup)
    (hm : a.eval mo = .map (some b)) (hk : a.eval ko = .int .i64 k) (hxk : x.k = k)
    (hK : ∀ w', PMap w' b ((l1.map fun x => (x.k, pt (some x.g))) ++ (l2.map fun x => (x.k, pt (some x.g)))) → Put w w' b → wpList Try.prog ops Q rest (a.put dst (.tuple #[])) w') : wpList Try.prog ops Q (⟨dst, .call { callee := .builtin .delete, args := #[mo, ko], argTypes := #[tM, 3] }, ty, ps, af, none⟩ :: rest) a w := by
  subst hxk
  rw [List.map_append, List.map_cons] at h
  refine wpList_del h ?_ hm hk hK
  have e := keys_of (l1 ++ x :: l2)
  rw [List.map_append, List.map_cons] at e
  exact e ▸ hd
def IsBoolE (e : Ending) : Prop := ∃ b, e = .returned (.bool b)
def AnyRet (B c n : Nat) (E : List (Int × Int)) (w : World) (P : Ending → Prop) (e : Ending) (w' : World) : Prop := P e ∧ Left B c n E w w'
set_option maxHeartbeats 1000000 in
set_option maxRecDepth 100000 in
theorem remove_any (B c n : Nat) (E : List (Int × Int)) (k : Int) (w : World) (h : Cach w B c n E) :
    Calls Try.prog 19 #[pt (some c), .int .i64 k] w (AnyRet B c n (outE k E) w IsBoolE) := by
  obtain ⟨m, L, h1, h2, hl, rfl, hn1, hn2, hn3⟩ := h
  have f0 : w.cell? ⟨c, 0, none⟩ = some (.int .i64 n) := hl.blk.cell 0 rfl
  have f1 : w.cell? ⟨c, 1, none⟩ = some (.map (some m)) := hl.blk.cell 1 rfl
  have e0 : decide (n = 0) = false := decide_eq_false (by omega)
  have Hn := Lib.hid (show L.length ≤ n ∧ 1 ≤ n ∧ n ≤ 100000 from ⟨hn1, hn2, hn3⟩)
  clear hn1 hn2 hn3
  rcases hl.find k with ⟨l1, x, l2, rfl, hxk, f2⟩ | ⟨hno, f2⟩
  · have hR := rem_chain c _ _ _ _ _ l1 x l2 w hl.blk hl.chain hl.gs
    have HF := Lib.hid hl
    have Hk := Lib.hid hxk
    clear hl hxk
    go_enter Try.func19, Try.ntmps19
    simp only [pt_some] at hR ⊢
    go_wp2_with (go_at_call 28; refine hR.mono ?_)
    rintro e w1 ⟨rfl, hc1, hch1, hx1, hm1⟩
    have g0 : w1.cell? ⟨c, 1, none⟩ = some (.map (some m)) := hc1.cell 1 rfl
    clear f0 f1 f2 hR
    have h := HF.out
    have hM := h.map.keep (w' := w1) (hm1.block m h.map.lt (by
      rintro (e | ⟨y, hy, e⟩)
      · exact h.ne_m e.symm
      · exact h.x_ne_m hy e))
    have HM := Lib.hid hM
    have HC := Lib.hid hc1
    have HH := Lib.hid hch1
    have HD := Lib.hid hm1
    clear h hM hc1 hch1 hm1 hx1
    go_wp2_with ((with_reducible refine gate_del rfl ?_); refine halt_L ?_)
    refine resume_L ?_
    refine wpList_del2 HM.out HF.out.ks rfl rfl Hk.out ?_
    intro w2 hp h12
    obtain ⟨r1, r2⟩ := Lru.out HF.out HC.out HH.out HD.out hp h12
    go_wp2
    go_ret
    refine ⟨⟨_, rfl⟩, ⟨m, l1 ++ l2, h1, h2, r1, ?_, ?_, Hn.out.2⟩, r2⟩
    · rw [← Hk.out, outE_mid HF.out.ks]
    · have := Hn.out.1
      simp at this ⊢; omega
  · have HE := Lib.hid (outE_none hno)
    have HF := Lib.hid hl
    clear hno hl
    go_enter Try.func19, Try.ntmps19
    simp only [pt_some]
    go_wp2
    go_ret
    exact ⟨⟨_, rfl⟩, ⟨m, L, h1, h2, HF.out, HE.out.symm, Hn.out⟩, Kx.refl _ _⟩
def OldP (E : List (Int × Int)) (e : Ending) : Prop := e = .returned (.tuple (match E with | [] => #[.int .i64 0, .int .i64 0, .bool false] | p :: _ => #[.int .i64 p.1, .int .i64 p.2, .bool true]))
set_option maxHeartbeats 1000000 in
set_option maxRecDepth 100000 in
theorem removeOldest_any (B c n : Nat) (E : List (Int × Int)) (w : World) (h : Cach w B c n E) :
    Calls Try.prog 20 #[pt (some c)] w (AnyRet B c n E.tail w (OldP E)) := by
  obtain ⟨m, L, h1, h2, hl, rfl, hn1, hn2, hn3⟩ := h
  have f0 : w.cell? ⟨c, 0, none⟩ = some (.int .i64 n) := hl.blk.cell 0 rfl
  have e0 : decide (n = 0) = false := decide_eq_false (by omega)
  have Hn := Lib.hid (show L.length ≤ n ∧ 1 ≤ n ∧ n ≤ 100000 from ⟨hn1, hn2, hn3⟩)
  clear hn1 hn2 hn3
  rcases snoc_cases L with rfl | ⟨l, x, rfl⟩
  · have f1 : w.cell? ⟨c, 3, none⟩ = some (.pointer none) := hl.blk.cell 3 rfl
    go_enter Try.func20, Try.ntmps20
    simp only [pt_some]
    go_wp2
    go_ret3
    exact ⟨rfl, ⟨m, [], h1, h2, hl, rfl, Hn.out⟩, Kx.refl _ _⟩
  · have hO := oldest_any B c m n l x h1 h2 w hl
    have hbk := hl.blk
    rw [ltO_snoc] at hbk
    have f1 : w.cell? ⟨c, 3, none⟩ = some (.pointer (some ⟨x.g, 0, none⟩)) := hbk.cell 3 rfl
    obtain ⟨_, _, hb⟩ := hl.chain.at_ (x := x) (by simp)
    have f2 : w.cell? ⟨x.g, 0, none⟩ = some (.int .i64 x.k) := hb.cell 0 rfl
    have f3 : w.cell? ⟨x.g, 1, none⟩ = some (.int .i64 x.v) := hb.cell 1 rfl
    clear hl hbk hb
    go_enter Try.func20, Try.ntmps20
    simp only [pt_some] at hO ⊢
    go_wp2_with (go_at_call 26; refine hO.mono ?_)
    rintro e w1 ⟨rfl, r1, r2⟩
    go_wp2
    go_ret3
    have e1 : EL (l ++ [x]) = (x.k, x.v) :: EL l := by simp [EL]
    rw [e1]
    refine ⟨rfl, ⟨m, l, h1, h2, r1, rfl, ?_, Hn.out.2⟩, r2⟩
    have := Hn.out.1
    simp at this; omega
end Go.Proofs.Ytnggdeggcflodaa
