/- Doubly linked entries of a cache: what a chain of entries is; an entry taken out, an entry put ahead. No conditions. -/
import Derived.Test.YtnggdeggcflodaaLr0
import Derived.Test.YtnggdeggcflodaaProg
import Derived.Deep.QuietTactic
import Derived.RegionTactic
import Derived.BigQuiet
namespace Go.Proofs.Ytnggdeggcflodaa
open Go.RowKit Go.MapKept
set_option linter.unusedVariables false
abbrev tL : TypeId := 61
abbrev tE : TypeId := 64
/-- An entry: its block, its key, its value. -/
structure Nd where
  g : Nat
  k : Int
  v : Int
def pt : Option Nat → Value
  | none => .pointer none
  | some g => .pointer (some ⟨g, 0, none⟩)
theorem pt_none : pt none = .pointer none := rfl
theorem pt_some (g : Nat) : pt (some g) = .pointer (some ⟨g, 0, none⟩) := rfl
def hdO : List Nd → Option Nat → Option Nat
  | [], q => q
  | x :: _, _ => some x.g
def ltO : Option Nat → List Nd → Option Nat
  | p, [] => p
  | _, x :: l => ltO (some x.g) l
def Chain (w : World) : Option Nat → List Nd → Option Nat → Prop
  | _, [], _ => True
  | p, x :: l, q => Blk w x.g tE #[.int .i64 x.k, .int .i64 x.v, pt p, pt (hdO l q)] ∧ Chain w (some x.g) l q
theorem hdO_app (l1 l2 : List Nd) (q : Option Nat) : hdO (l1 ++ l2) q = hdO l1 (hdO l2 q) := by cases l1 <;> rfl
theorem ltO_app (p : Option Nat) (l1 l2 : List Nd) : ltO p (l1 ++ l2) = ltO (ltO p l1) l2 := by
  induction l1 generalizing p with
  | nil => rfl
  | cons x l ih => exact ih _
theorem ltO_snoc (p : Option Nat) (l : List Nd) (x : Nd) : ltO p (l ++ [x]) = some x.g := by rw [ltO_app]; rfl
theorem chain_app {w : World} {p q : Option Nat} {l1 l2 : List Nd} : Chain w p (l1 ++ l2) q ↔ Chain w p l1 (hdO l2 q) ∧ Chain w (ltO p l1) l2 q := by
  induction l1 generalizing p with
  | nil => simp [Chain, ltO]
  | cons x l ih => simp only [List.cons_append, Chain, ltO, hdO_app, ih, and_assoc]
theorem Chain.keep {w w' : World} {p q : Option Nat} {l : List Nd} (h : Chain w p l q) (hk : ∀ x ∈ l, w'.heap[x.g]? = w.heap[x.g]?) : Chain w' p l q := by
  induction l generalizing p with
  | nil => trivial
  | cons x l ih => exact ⟨h.1.keep (hk x (by simp)), ih h.2 fun y hy => hk y (by simp [hy])⟩
theorem Chain.at_ {w : World} {p q : Option Nat} {l : List Nd} (h : Chain w p l q) {x : Nd} (hx : x ∈ l) : ∃ p' q', Blk w x.g tE #[.int .i64 x.k, .int .i64 x.v, pt p', pt q'] := by
  induction l generalizing p with
  | nil => cases hx
  | cons y l ih =>
    rcases List.mem_cons.1 hx with rfl | hx
    · exact ⟨_, _, h.1⟩
    · exact ih h.2 hx
/-- The blocks of S alone are turned. -/
structure Mod (w w' : World) (S : Nat → Prop) : Prop where
  os : w'.os = w.os
  tape : w'.tape = w.tape
  output : w'.output = w.output
  size : w'.heap.size = w.heap.size
  block : ∀ k, k < w.heap.size → ¬ S k → w'.heap[k]? = w.heap[k]?
theorem Mod.refl (w : World) (S : Nat → Prop) : Mod w w S := ⟨rfl, rfl, rfl, rfl, fun _ _ _ => rfl⟩
theorem Mod.trans {a b c : World} {S : Nat → Prop} (h : Mod a b S) (h2 : Mod b c S) : Mod a c S :=
  ⟨h2.os.trans h.os, h2.tape.trans h.tape, h2.output.trans h.output, h2.size.trans h.size, fun k hk hS => (h2.block k (by rw [h.size]; exact hk) hS).trans (h.block k hk hS)⟩
theorem Mod.mono {w w' : World} {S T : Nat → Prop} (h : Mod w w' S) (hs : ∀ k, S k → T k) : Mod w w' T := ⟨h.os, h.tape, h.output, h.size, fun k hk hn => h.block k hk fun hh => hn (hs k hh)⟩
theorem Put.mod {w w' : World} {b : Nat} (h : Put w w' b) {S : Nat → Prop} (hS : S b) : Mod w w' S := ⟨h.grown.os, h.grown.tape, h.grown.output, h.size, fun k hk hn => h.keep hk (by rintro rfl; exact hn hS)⟩
theorem Mod.below {w0 w w' : World} {S : Nat → Prop} {B : Nat} (h : Mod w w' S) (hb : Below B w0 w) (hB : B ≤ w.heap.size) (hS : ∀ k, S k → B ≤ k) : Below B w0 w' :=
  hb.trans ⟨h.os, h.tape, h.output, by rw [h.size]; exact Nat.le_refl _, fun k hk => h.block k (by omega) fun hh => by have := hS k hh; omega⟩
theorem drew_mod (w : World) (n : Nat) (S : Nat → Prop) : Mod w (w.drewN n) S := ⟨rfl, rfl, rfl, rfl, fun _ _ _ => rfl⟩
theorem put_drew (w : World) (b o : Nat) (v : Value) : Put w (w.setCell ⟨b, o, none⟩ v).drew b :=
  ⟨⟨rfl, rfl, rfl, (put_set w b o v).grown.size, fun k hk hne => (put_set w b o v).grown.block k hk hne⟩, (put_set w b o v).size⟩
theorem Blk.setd {w : World} {b : Nat} {t : TypeId} {cs : Array Value} (h : Blk w b t cs) (o : Nat) (v : Value) : Blk (w.setCell ⟨b, o, none⟩ v).drew b t (cs.setIfInBounds o v) := h.set o v
theorem infoE : (Try.prog.info? 59).map (·.size) = some 1 := by kernel_rfl

/-- What stands in the cache's own block. -/
abbrev lruC (a0 a1 a2 a3 a4 a5 a6 : Value) : Array Value := #[a0, a1, a2, a3, a4, a5, a6]
theorem snoc_cases {α : Type} (l : List α) : l = [] ∨ ∃ l' a, l = l' ++ [a] := by
  rcases List.eq_nil_or_concat l with h | ⟨l', a, h⟩
  · exact .inl h
  · exact .inr ⟨l', a, by simpa using h⟩
set_option maxHeartbeats 1000000 in
set_option maxRecDepth 100000 in
theorem rem_A (c : Nat) (a0 a1 a2 a3 a4 a5 a6 : Value) (x : Nd) (p q : Option Nat) (w : World) (hc : Blk w c tL (lruC a0 a1 (pt (some x.g)) (pt (some x.g)) a4 a5 a6))
    (hx : Blk w x.g tE #[.int .i64 x.k, .int .i64 x.v, (pt none), (pt none)]) 
    (nxc : x.g ≠ c) :
    Calls Try.prog 28 #[pt (some c), pt (some x.g)] w fun e w' => e = .returned (.tuple #[]) ∧ Blk w' c tL (lruC a0 a1 (pt none) (pt none) a4 a5 a6) ∧ Blk w' x.g tE #[.int .i64 x.k, .int .i64 x.v, pt none, pt none] ∧ Mod w w' (fun k => k = c ∨ k = x.g) := by
  obtain ⟨gx, kx, vx⟩ := x
  simp only at hc hx nxc ⊢
  have f0 : w.cell? ⟨gx, 2, none⟩ = some (.pointer none) := hx.cell 2 rfl
  have f1 : w.cell? ⟨gx, 3, none⟩ = some (.pointer none) := hx.cell 3 rfl
  go_enter Try.func28, Try.ntmps28
  simp only [pt_none, pt_some]
  go_wp2_with ((with_reducible refine gate_st (t := 59) rfl ?_); refine halt_L ?_)
  refine resume_L ?_
  refine wpList_put hc (v := .pointer none) (by simp) rfl rfl rfl infoE ?_
  intro w1 hc1 p1
  have hx1 := p1.blk hx nxc
  clear f0 f1
  have f0 : w1.cell? ⟨gx, 2, none⟩ = some (.pointer none) := hx1.cell 2 rfl
  have f1 : w1.cell? ⟨gx, 3, none⟩ = some (.pointer none) := hx1.cell 3 rfl
  go_wp2_with ((with_reducible refine gate_st (t := 59) rfl ?_); refine halt_L ?_)
  refine resume_L ?_
  refine wpList_put hc1 (v := .pointer none) (by simp) rfl rfl rfl infoE ?_
  intro w2 hc2 p2
  have hx2 := p2.blk hx1 nxc
  clear f0 f1
  go_wp2_with ((with_reducible refine gate_st (t := 59) rfl ?_); refine halt_L ?_)
  refine resume_L ?_
  refine wpList_put hx2 (v := .pointer none) (by simp) rfl rfl rfl infoE ?_
  intro w3 hx3 p3
  have hc3 := p3.blk hc2 (Ne.symm nxc)
  go_wp2_with ((with_reducible refine gate_st (t := 59) rfl ?_); refine halt_L ?_)
  refine resume_L ?_
  refine wpList_put hx3 (v := .pointer none) (by simp) rfl rfl rfl infoE ?_
  intro w4 hx4 p4
  have hc4 := p4.blk hc3 (Ne.symm nxc)
  go_wp2
  go_end0
  refine ⟨rfl, hc4, hx4, ?_⟩
  exact (((p1.mod (by simp)).trans (p2.mod (by simp))).trans (p3.mod (by simp))).trans (p4.mod (by simp))
set_option maxHeartbeats 1000000 in
set_option maxRecDepth 100000 in
theorem rem_B (c : Nat) (a0 a1 a2 a3 a4 a5 a6 : Value) (x : Nd) (b : Nd) (p q : Option Nat) (w : World) (hc : Blk w c tL (lruC a0 a1 (pt (some x.g)) a3 a4 a5 a6))
    (hx : Blk w x.g tE #[.int .i64 x.k, .int .i64 x.v, (pt none), (pt (some b.g))]) (hb : Blk w b.g tE #[.int .i64 b.k, .int .i64 b.v, pt (some x.g), pt q]) 
    (nxb : x.g ≠ b.g) (nbc : b.g ≠ c) (nxc : x.g ≠ c) :
    Calls Try.prog 28 #[pt (some c), pt (some x.g)] w fun e w' => e = .returned (.tuple #[]) ∧ Blk w' c tL (lruC a0 a1 (pt (some b.g)) a3 a4 a5 a6) ∧ Blk w' b.g tE #[.int .i64 b.k, .int .i64 b.v, (pt none), pt q] ∧ Blk w' x.g tE #[.int .i64 x.k, .int .i64 x.v, pt none, pt none] ∧ Mod w w' (fun k => k = c ∨ k = x.g ∨ k = b.g) := by
  obtain ⟨gx, kx, vx⟩ := x
  obtain ⟨gb, kb, vb⟩ := b
  simp only at hc hx hb nxb nbc nxc ⊢
  have f0 : w.cell? ⟨gx, 2, none⟩ = some (.pointer none) := hx.cell 2 rfl
  have f1 : w.cell? ⟨gx, 3, none⟩ = some (.pointer (some ⟨gb, 0, none⟩)) := hx.cell 3 rfl
  go_enter Try.func28, Try.ntmps28
  simp only [pt_none, pt_some]
  go_wp2_with ((with_reducible refine gate_st (t := 59) rfl ?_); refine halt_L ?_)
  refine resume_L ?_
  refine wpList_put hc (v := .pointer (some ⟨gb, 0, none⟩)) (by simp) rfl rfl rfl infoE ?_
  intro w1 hc1 p1
  have hx1 := p1.blk hx nxc
  have hb1 := p1.blk hb nbc
  clear f0 f1
  have f0 : w1.cell? ⟨gx, 2, none⟩ = some (.pointer none) := hx1.cell 2 rfl
  have f1 : w1.cell? ⟨gx, 3, none⟩ = some (.pointer (some ⟨gb, 0, none⟩)) := hx1.cell 3 rfl
  have f2 : w1.cell? ⟨gb, 2, none⟩ = some (.pointer (some ⟨gx, 0, none⟩)) := hb1.cell 2 rfl
  have f3 := hb1.frozen 2
  go_wp2_with fail
  go_region
  have p2 := put_drew w1 gb 2 (.pointer none)
  have hb2 := hb1.setd 2 (.pointer none)
  generalize hw2 : World.drew _ = w2 at p2 hb2 ⊢
  clear hw2
  have hx2 := p2.blk hx1 nxb
  have hc2 := p2.blk hc1 (Ne.symm nbc)
  clear f0 f1 f2 f3
  go_wp2_with ((with_reducible refine gate_st (t := 59) rfl ?_); refine halt_L ?_)
  refine resume_L ?_
  refine wpList_put hx2 (v := .pointer none) (by simp) rfl rfl rfl infoE ?_
  intro w3 hx3 p3
  have hb3 := p3.blk hb2 (Ne.symm nxb)
  have hc3 := p3.blk hc2 (Ne.symm nxc)
  go_wp2_with ((with_reducible refine gate_st (t := 59) rfl ?_); refine halt_L ?_)
  refine resume_L ?_
  refine wpList_put hx3 (v := .pointer none) (by simp) rfl rfl rfl infoE ?_
  intro w4 hx4 p4
  have hb4 := p4.blk hb3 (Ne.symm nxb)
  have hc4 := p4.blk hc3 (Ne.symm nxc)
  go_wp2
  go_end0
  refine ⟨rfl, hc4, hb4, hx4, ?_⟩
  exact (((p1.mod (by simp)).trans (p2.mod (by simp))).trans (p3.mod (by simp))).trans (p4.mod (by simp))
set_option maxHeartbeats 1000000 in
set_option maxRecDepth 100000 in
theorem rem_C (c : Nat) (a0 a1 a2 a3 a4 a5 a6 : Value) (a : Nd) (x : Nd) (p q : Option Nat) (w : World) (hc : Blk w c tL (lruC a0 a1 a2 (pt (some x.g)) a4 a5 a6))
    (ha : Blk w a.g tE #[.int .i64 a.k, .int .i64 a.v, pt p, pt (some x.g)]) (hx : Blk w x.g tE #[.int .i64 x.k, .int .i64 x.v, (pt (some a.g)), (pt none)]) 
    (nax : a.g ≠ x.g) (nac : a.g ≠ c) (nxc : x.g ≠ c) :
    Calls Try.prog 28 #[pt (some c), pt (some x.g)] w fun e w' => e = .returned (.tuple #[]) ∧ Blk w' c tL (lruC a0 a1 a2 (pt (some a.g)) a4 a5 a6) ∧ Blk w' a.g tE #[.int .i64 a.k, .int .i64 a.v, pt p, (pt none)] ∧ Blk w' x.g tE #[.int .i64 x.k, .int .i64 x.v, pt none, pt none] ∧ Mod w w' (fun k => k = c ∨ k = x.g ∨ k = a.g) := by
  obtain ⟨ga, ka, va⟩ := a
  obtain ⟨gx, kx, vx⟩ := x
  simp only at hc ha hx nax nac nxc ⊢
  have f0 : w.cell? ⟨gx, 2, none⟩ = some (.pointer (some ⟨ga, 0, none⟩)) := hx.cell 2 rfl
  have f1 : w.cell? ⟨gx, 3, none⟩ = some (.pointer none) := hx.cell 3 rfl
  have f2 : w.cell? ⟨ga, 3, none⟩ = some (.pointer (some ⟨gx, 0, none⟩)) := ha.cell 3 rfl
  have f3 := ha.frozen 3
  go_enter Try.func28, Try.ntmps28
  simp only [pt_none, pt_some]
  go_wp2_with fail
  go_region
  have p1 := put_drew w ga 3 (.pointer none)
  have ha1 := ha.setd 3 (.pointer none)
  generalize hw1 : World.drew _ = w1 at p1 ha1 ⊢
  clear hw1
  have hx1 := p1.blk hx (Ne.symm nax)
  have hc1 := p1.blk hc (Ne.symm nac)
  clear f0 f1 f2 f3
  have f0 : w1.cell? ⟨gx, 2, none⟩ = some (.pointer (some ⟨ga, 0, none⟩)) := hx1.cell 2 rfl
  have f1 : w1.cell? ⟨gx, 3, none⟩ = some (.pointer none) := hx1.cell 3 rfl
  go_wp2_with ((with_reducible refine gate_st (t := 59) rfl ?_); refine halt_L ?_)
  refine resume_L ?_
  refine wpList_put hc1 (v := .pointer (some ⟨ga, 0, none⟩)) (by simp) rfl rfl rfl infoE ?_
  intro w2 hc2 p2
  have ha2 := p2.blk ha1 nac
  have hx2 := p2.blk hx1 nxc
  clear f0 f1
  go_wp2_with ((with_reducible refine gate_st (t := 59) rfl ?_); refine halt_L ?_)
  refine resume_L ?_
  refine wpList_put hx2 (v := .pointer none) (by simp) rfl rfl rfl infoE ?_
  intro w3 hx3 p3
  have ha3 := p3.blk ha2 nax
  have hc3 := p3.blk hc2 (Ne.symm nxc)
  go_wp2_with ((with_reducible refine gate_st (t := 59) rfl ?_); refine halt_L ?_)
  refine resume_L ?_
  refine wpList_put hx3 (v := .pointer none) (by simp) rfl rfl rfl infoE ?_
  intro w4 hx4 p4
  have ha4 := p4.blk ha3 nax
  have hc4 := p4.blk hc3 (Ne.symm nxc)
  go_wp2
  go_end0
  refine ⟨rfl, hc4, ha4, hx4, ?_⟩
  exact (((p1.mod (by simp)).trans (p2.mod (by simp))).trans (p3.mod (by simp))).trans (p4.mod (by simp))
set_option maxHeartbeats 1000000 in
set_option maxRecDepth 100000 in
theorem rem_D (c : Nat) (a0 a1 a2 a3 a4 a5 a6 : Value) (a : Nd) (x : Nd) (b : Nd) (p q : Option Nat) (w : World) (hc : Blk w c tL (lruC a0 a1 a2 a3 a4 a5 a6))
    (ha : Blk w a.g tE #[.int .i64 a.k, .int .i64 a.v, pt p, pt (some x.g)]) (hx : Blk w x.g tE #[.int .i64 x.k, .int .i64 x.v, (pt (some a.g)), (pt (some b.g))]) (hb : Blk w b.g tE #[.int .i64 b.k, .int .i64 b.v, pt (some x.g), pt q]) 
    (nax : a.g ≠ x.g) (nac : a.g ≠ c) (nab : a.g ≠ b.g) (nxb : x.g ≠ b.g) (nbc : b.g ≠ c) (nxc : x.g ≠ c) :
    Calls Try.prog 28 #[pt (some c), pt (some x.g)] w fun e w' => e = .returned (.tuple #[]) ∧ Blk w' c tL (lruC a0 a1 a2 a3 a4 a5 a6) ∧ Blk w' a.g tE #[.int .i64 a.k, .int .i64 a.v, pt p, (pt (some b.g))] ∧ Blk w' b.g tE #[.int .i64 b.k, .int .i64 b.v, (pt (some a.g)), pt q] ∧ Blk w' x.g tE #[.int .i64 x.k, .int .i64 x.v, pt none, pt none] ∧ Mod w w' (fun k => k = c ∨ k = x.g ∨ k = a.g ∨ k = b.g) := by
  obtain ⟨ga, ka, va⟩ := a
  obtain ⟨gx, kx, vx⟩ := x
  obtain ⟨gb, kb, vb⟩ := b
  simp only at hc ha hx hb nax nac nab nxb nbc nxc ⊢
  have f0 : w.cell? ⟨gx, 2, none⟩ = some (.pointer (some ⟨ga, 0, none⟩)) := hx.cell 2 rfl
  have f1 : w.cell? ⟨gx, 3, none⟩ = some (.pointer (some ⟨gb, 0, none⟩)) := hx.cell 3 rfl
  have f2 : w.cell? ⟨ga, 3, none⟩ = some (.pointer (some ⟨gx, 0, none⟩)) := ha.cell 3 rfl
  have f3 := ha.frozen 3
  go_enter Try.func28, Try.ntmps28
  simp only [pt_none, pt_some]
  go_wp2_with fail
  go_region
  have p1 := put_drew w ga 3 (.pointer (some ⟨gb, 0, none⟩))
  have ha1 := ha.setd 3 (.pointer (some ⟨gb, 0, none⟩))
  generalize hw1 : World.drew _ = w1 at p1 ha1 ⊢
  clear hw1
  have hx1 := p1.blk hx (Ne.symm nax)
  have hb1 := p1.blk hb (Ne.symm nab)
  have hc1 := p1.blk hc (Ne.symm nac)
  clear f0 f1 f2 f3
  have f0 : w1.cell? ⟨gx, 2, none⟩ = some (.pointer (some ⟨ga, 0, none⟩)) := hx1.cell 2 rfl
  have f1 : w1.cell? ⟨gx, 3, none⟩ = some (.pointer (some ⟨gb, 0, none⟩)) := hx1.cell 3 rfl
  have f2 : w1.cell? ⟨gb, 2, none⟩ = some (.pointer (some ⟨gx, 0, none⟩)) := hb1.cell 2 rfl
  have f3 := hb1.frozen 2
  go_wp2_with fail
  go_region
  have p2 := put_drew w1 gb 2 (.pointer (some ⟨ga, 0, none⟩))
  have hb2 := hb1.setd 2 (.pointer (some ⟨ga, 0, none⟩))
  generalize hw2 : World.drew _ = w2 at p2 hb2 ⊢
  clear hw2
  have ha2 := p2.blk ha1 nab
  have hx2 := p2.blk hx1 nxb
  have hc2 := p2.blk hc1 (Ne.symm nbc)
  clear f0 f1 f2 f3
  go_wp2_with ((with_reducible refine gate_st (t := 59) rfl ?_); refine halt_L ?_)
  refine resume_L ?_
  refine wpList_put hx2 (v := .pointer none) (by simp) rfl rfl rfl infoE ?_
  intro w3 hx3 p3
  have ha3 := p3.blk ha2 nax
  have hb3 := p3.blk hb2 (Ne.symm nxb)
  have hc3 := p3.blk hc2 (Ne.symm nxc)
  go_wp2_with ((with_reducible refine gate_st (t := 59) rfl ?_); refine halt_L ?_)
  refine resume_L ?_
  refine wpList_put hx3 (v := .pointer none) (by simp) rfl rfl rfl infoE ?_
  intro w4 hx4 p4
  have ha4 := p4.blk ha3 nax
  have hb4 := p4.blk hb3 (Ne.symm nxb)
  have hc4 := p4.blk hc3 (Ne.symm nxc)
  go_wp2
  go_end0
  refine ⟨rfl, hc4, ha4, hb4, hx4, ?_⟩
  exact (((p1.mod (by simp)).trans (p2.mod (by simp))).trans (p3.mod (by simp))).trans (p4.mod (by simp))
set_option maxHeartbeats 1000000 in
set_option maxRecDepth 100000 in
theorem add_A (c : Nat) (a0 a1 a4 a5 a6 : Value) (x : Nd) (p q : Option Nat) (z : Nat) (w : World) (y0 y1 : Value) (hc : Blk w c tL (lruC a0 a1 (pt none) (pt none) a4 a5 a6))
    (hx : Blk w x.g tE #[.int .i64 x.k, .int .i64 x.v, y0, y1]) 
    (nxc : x.g ≠ c) :
    Calls Try.prog 27 #[pt (some c), pt (some x.g)] w fun e w' => e = .returned (.tuple #[]) ∧ Blk w' c tL (lruC a0 a1 (pt (some x.g)) (pt (some x.g)) a4 a5 a6) ∧ Blk w' x.g tE #[.int .i64 x.k, .int .i64 x.v, pt none, (pt none)] ∧ Mod w w' (fun k => k = c ∨ k = x.g) := by
  obtain ⟨gx, kx, vx⟩ := x
  simp only at hc hx nxc ⊢
  go_enter Try.func27, Try.ntmps27
  simp only [pt_none, pt_some]
  go_wp2_with ((with_reducible refine gate_st (t := 59) rfl ?_); refine halt_L ?_)
  refine resume_L ?_
  refine wpList_put hx (v := .pointer none) (by simp) rfl rfl rfl infoE ?_
  intro w1 hx1 p1
  have hc1 := p1.blk hc (Ne.symm nxc)
  have f0 : w1.cell? ⟨c, 2, none⟩ = some (.pointer none) := hc1.cell 2 rfl
  go_wp2_with ((with_reducible refine gate_st (t := 59) rfl ?_); refine halt_L ?_)
  refine resume_L ?_
  refine wpList_put hx1 (v := .pointer none) (by simp) rfl rfl rfl infoE ?_
  intro w2 hx2 p2
  have hc2 := p2.blk hc1 (Ne.symm nxc)
  clear f0
  have f0 : w2.cell? ⟨c, 2, none⟩ = some (.pointer none) := hc2.cell 2 rfl
  go_wp2_with ((with_reducible refine gate_st (t := 59) rfl ?_); refine halt_L ?_)
  refine resume_L ?_
  refine wpList_put hc2 (v := .pointer (some ⟨gx, 0, none⟩)) (by simp) rfl rfl rfl infoE ?_
  intro w3 hc3 p3
  have hx3 := p3.blk hx2 nxc
  clear f0
  have f0 : w3.cell? ⟨c, 3, none⟩ = some (.pointer none) := hc3.cell 3 rfl
  go_wp2_with ((with_reducible refine gate_st (t := 59) rfl ?_); refine halt_L ?_)
  refine resume_L ?_
  refine wpList_put hc3 (v := .pointer (some ⟨gx, 0, none⟩)) (by simp) rfl rfl rfl infoE ?_
  intro w4 hc4 p4
  have hx4 := p4.blk hx3 nxc
  clear f0
  go_wp2
  go_end0
  refine ⟨rfl, hc4, hx4, ?_⟩
  exact (((p1.mod (by simp)).trans (p2.mod (by simp))).trans (p3.mod (by simp))).trans (p4.mod (by simp))
set_option maxHeartbeats 1000000 in
set_option maxRecDepth 100000 in
theorem add_B (c : Nat) (a0 a1 a4 a5 a6 : Value) (x : Nd) (b : Nd) (p q : Option Nat) (z : Nat) (w : World) (y0 y1 : Value) (hc : Blk w c tL (lruC a0 a1 (pt (some b.g)) (pt (some z)) a4 a5 a6))
    (hx : Blk w x.g tE #[.int .i64 x.k, .int .i64 x.v, y0, y1]) (hb : Blk w b.g tE #[.int .i64 b.k, .int .i64 b.v, pt p, pt q]) 
    (nxb : x.g ≠ b.g) (nbc : b.g ≠ c) (nxc : x.g ≠ c) :
    Calls Try.prog 27 #[pt (some c), pt (some x.g)] w fun e w' => e = .returned (.tuple #[]) ∧ Blk w' c tL (lruC a0 a1 (pt (some x.g)) (pt (some z)) a4 a5 a6) ∧ Blk w' b.g tE #[.int .i64 b.k, .int .i64 b.v, pt (some x.g), pt q] ∧ Blk w' x.g tE #[.int .i64 x.k, .int .i64 x.v, pt none, (pt (some b.g))] ∧ Mod w w' (fun k => k = c ∨ k = x.g ∨ k = b.g) := by
  obtain ⟨gx, kx, vx⟩ := x
  obtain ⟨gb, kb, vb⟩ := b
  simp only at hc hx hb nxb nbc nxc ⊢
  go_enter Try.func27, Try.ntmps27
  simp only [pt_none, pt_some]
  go_wp2_with ((with_reducible refine gate_st (t := 59) rfl ?_); refine halt_L ?_)
  refine resume_L ?_
  refine wpList_put hx (v := .pointer none) (by simp) rfl rfl rfl infoE ?_
  intro w1 hx1 p1
  have hb1 := p1.blk hb (Ne.symm nxb)
  have hc1 := p1.blk hc (Ne.symm nxc)
  have f0 : w1.cell? ⟨c, 2, none⟩ = some (.pointer (some ⟨gb, 0, none⟩)) := hc1.cell 2 rfl
  go_wp2_with ((with_reducible refine gate_st (t := 59) rfl ?_); refine halt_L ?_)
  refine resume_L ?_
  refine wpList_put hx1 (v := .pointer (some ⟨gb, 0, none⟩)) (by simp) rfl rfl rfl infoE ?_
  intro w2 hx2 p2
  have hb2 := p2.blk hb1 (Ne.symm nxb)
  have hc2 := p2.blk hc1 (Ne.symm nxc)
  clear f0
  have f0 : w2.cell? ⟨c, 2, none⟩ = some (.pointer (some ⟨gb, 0, none⟩)) := hc2.cell 2 rfl
  go_wp2_with ((with_reducible refine gate_st (t := 59) rfl ?_); refine halt_L ?_)
  refine resume_L ?_
  refine wpList_put hb2 (v := .pointer (some ⟨gx, 0, none⟩)) (by simp) rfl rfl rfl infoE ?_
  intro w3 hb3 p3
  have hx3 := p3.blk hx2 nxb
  have hc3 := p3.blk hc2 (Ne.symm nbc)
  clear f0
  go_wp2_with ((with_reducible refine gate_st (t := 59) rfl ?_); refine halt_L ?_)
  refine resume_L ?_
  refine wpList_put hc3 (v := .pointer (some ⟨gx, 0, none⟩)) (by simp) rfl rfl rfl infoE ?_
  intro w4 hc4 p4
  have hx4 := p4.blk hx3 nxc
  have hb4 := p4.blk hb3 nbc
  have f0 : w4.cell? ⟨c, 3, none⟩ = some (.pointer (some ⟨z, 0, none⟩)) := hc4.cell 3 rfl
  go_wp2
  go_end0
  refine ⟨rfl, hc4, hb4, hx4, ?_⟩
  exact (((p1.mod (by simp)).trans (p2.mod (by simp))).trans (p3.mod (by simp))).trans (p4.mod (by simp))
end Go.Proofs.Ytnggdeggcflodaa
