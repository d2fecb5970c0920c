/- A cache of entries in a doubly linked list, with a map from keys to entries: removeNode, addToFront, moveToFront over it. No conditions. -/
import Derived.Test.YtnggdeggcflodaaLr1
namespace Go.Proofs.Ytnggdeggcflodaa
open Go.RowKit Go.MapKept
set_option linter.unusedVariables false
theorem Blk.type_ne {w : World} {b c : Nat} {t u : TypeId} {cs ds : Array Value} (h : Blk w b t cs) (h2 : Blk w c u ds) (hne : t ≠ u) : b ≠ c := by
  rintro rfl
  unfold Blk at h h2
  rw [h] at h2
  injection h2 with h2
  injection h2 with _ h2
  exact hne h2
theorem Mod.chain {w w' : World} {S : Nat → Prop} {p q : Option Nat} {l : List Nd} (h : Mod w w' S) (hc : Chain w p l q) (hn : ∀ y ∈ l, ¬ S y.g) : Chain w' p l q := by
  refine hc.keep fun y hy => ?_
  obtain ⟨_, _, hb⟩ := hc.at_ hy
  exact h.block _ hb.lt (hn y hy)
theorem Chain.ne {w : World} {p q : Option Nat} {l : List Nd} {c : Nat} {cs : Array Value} (h : Chain w p l q) (hc : Blk w c tL cs) {x : Nd} (hx : x ∈ l) : x.g ≠ c := by
  obtain ⟨_, _, hb⟩ := h.at_ hx
  exact hb.type_ne hc (by decide)
theorem ltO_some (g : Nat) (l : List Nd) : ∃ z, ltO (some g) l = some z := by
  induction l generalizing g with
  | nil => exact ⟨g, rfl⟩
  | cons x l ih => exact ih x.g
def SubS (c : Nat) (l : List Nd) (k : Nat) : Prop := k = c ∨ ∃ y ∈ l, y.g = k
def RemRet (c : Nat) (a0 a1 a4 a5 a6 : Value) (l1 l2 : List Nd) (x : Nd) (w : World) (e : Ending) (w' : World) : Prop :=
  e = .returned (.tuple #[]) ∧ Blk w' c tL (lruC a0 a1 (pt (hdO (l1 ++ l2) none)) (pt (ltO none (l1 ++ l2))) a4 a5 a6) ∧ Chain w' none (l1 ++ l2) none ∧
    Blk w' x.g tE #[.int .i64 x.k, .int .i64 x.v, .pointer none, .pointer none] ∧ Mod w w' (SubS c (l1 ++ x :: l2))
theorem nd_ne {l : List Nd} {x : Nd} (h : ((x :: l).map Nd.g).Nodup) {y : Nd} (hy : y ∈ l) : y.g ≠ x.g := by
  rw [List.map_cons, List.nodup_cons] at h
  exact fun e => h.1 (e ▸ List.mem_map_of_mem hy)
theorem nd_app {l1 l2 : List Nd} (h : ((l1 ++ l2).map Nd.g).Nodup) : (l1.map Nd.g).Nodup ∧ (l2.map Nd.g).Nodup ∧ ∀ y ∈ l1, ∀ z ∈ l2, y.g ≠ z.g := by
  rw [List.map_append, List.nodup_append] at h
  exact ⟨h.1, h.2.1, fun y hy z hz => h.2.2 _ (List.mem_map_of_mem hy) _ (List.mem_map_of_mem hz)⟩
theorem rem_chain (c : Nat) (a0 a1 a4 a5 a6 : Value) (l1 : List Nd) (x : Nd) (l2 : List Nd) (w : World) (hc : Blk w c tL (lruC a0 a1 (pt (hdO (l1 ++ x :: l2) none)) (pt (ltO none (l1 ++ x :: l2))) a4 a5 a6)) (hch : Chain w none (l1 ++ x :: l2) none)
    (hg : ((l1 ++ x :: l2).map Nd.g).Nodup) : Calls Try.prog 28 #[pt (some c), pt (some x.g)] w (RemRet c a0 a1 a4 a5 a6 l1 l2 x w) := by
  have hnc : ∀ y ∈ l1 ++ x :: l2, y.g ≠ c := fun y hy => hch.ne hc hy
  have hxc : x.g ≠ c := hnc x (by simp)
  rcases snoc_cases l1 with rfl | ⟨l1, a, rfl⟩ <;> rcases l2 with _ | ⟨b, l2⟩
  · have hx := (chain_app.1 hch).2.1
    refine (rem_A c a0 a1 a0 a0 a4 a5 a6 x none none w hc hx hxc).mono ?_
    rintro e w' ⟨rfl, h1, h2, h3⟩
    exact ⟨rfl, h1, trivial, h2, h3.mono fun k hk => by rcases hk with rfl | rfl; exact .inl rfl; exact .inr ⟨x, by simp, rfl⟩⟩
  · have hx := (chain_app.1 hch).2.1
    have hb := (chain_app.1 hch).2.2.1
    have hr := (chain_app.1 hch).2.2.2
    have nxb : x.g ≠ b.g := by simp at hg; exact hg.1.1
    have nb : ∀ y ∈ l2, y.g ≠ b.g := fun y hy => nd_ne (x := b) (l := l2) (by simp at hg ⊢; exact hg.2) hy
    have nx : ∀ y ∈ l2, y.g ≠ x.g := fun y hy => nd_ne (x := x) (l := b :: l2) (by simpa using hg) (by simp [hy])
    refine (rem_B c a0 a1 a0 _ a4 a5 a6 x b none _ w hc hx hb nxb (hnc b (by simp)) hxc).mono ?_
    rintro e w' ⟨rfl, h1, h2, h3, h4⟩
    refine ⟨rfl, h1, ⟨h2, ?_⟩, h3, h4.mono fun k hk => ?_⟩
    · refine h4.chain hr fun y hy hk => ?_
      rcases hk with h | h | h
      · exact hnc y (by simp [hy]) h
      · exact nx y hy h
      · exact nb y hy h
    · rcases hk with rfl | rfl | rfl
      · exact .inl rfl
      · exact .inr ⟨x, by simp, rfl⟩
      · exact .inr ⟨b, by simp, rfl⟩
  · obtain ⟨c1, hx, _⟩ := chain_app.1 hch
    obtain ⟨c1, ha, _⟩ := chain_app.1 c1
    rw [ltO_snoc] at hx
    obtain ⟨g1, _, g2⟩ := nd_app hg
    obtain ⟨_, _, g3⟩ := nd_app g1
    have nax : a.g ≠ x.g := g2 a (by simp) x (by simp)
    have na : ∀ y ∈ l1, y.g ≠ a.g := fun y hy => g3 y hy a (by simp)
    have nx : ∀ y ∈ l1, y.g ≠ x.g := fun y hy => g2 y (by simp [hy]) x (by simp)
    have ehd : hdO (l1 ++ [a] ++ [x]) none = hdO (l1 ++ [a] ++ []) none := by cases l1 <;> rfl
    have elt : ltO none (l1 ++ [a] ++ [x]) = some x.g := ltO_snoc _ _ _
    rw [elt] at hc
    refine (rem_C c a0 a1 _ a0 a4 a5 a6 a x _ none w hc ha hx nax (hnc a (by simp)) hxc).mono ?_
    rintro e w' ⟨rfl, h1, h2, h3, h4⟩
    refine ⟨rfl, ?_, ?_, h3, h4.mono fun k hk => ?_⟩
    · rw [← ehd, List.append_nil, ltO_snoc]; exact h1
    · rw [List.append_nil]
      refine chain_app.2 ⟨?_, h2, trivial⟩
      refine h4.chain c1 fun y hy hk => ?_
      rcases hk with h | h | h
      · exact hnc y (by simp [hy]) h
      · exact nx y hy h
      · exact na y hy h
    · rcases hk with rfl | rfl | rfl
      · exact .inl rfl
      · exact .inr ⟨x, by simp, rfl⟩
      · exact .inr ⟨a, by simp, rfl⟩
  · obtain ⟨c1, hx, hb, hr⟩ := chain_app.1 hch
    obtain ⟨c1, ha, _⟩ := chain_app.1 c1
    rw [ltO_snoc] at hx
    obtain ⟨g1, g4, g2⟩ := nd_app hg
    obtain ⟨_, _, g3⟩ := nd_app g1
    have nax : a.g ≠ x.g := g2 a (by simp) x (by simp)
    have nab : a.g ≠ b.g := g2 a (by simp) b (by simp)
    have nxb : x.g ≠ b.g := Ne.symm (nd_ne g4 (by simp))
    have na : ∀ y ∈ l1, y.g ≠ a.g := fun y hy => g3 y hy a (by simp)
    have nx : ∀ y ∈ l1, y.g ≠ x.g := fun y hy => g2 y (by simp [hy]) x (by simp)
    have nb : ∀ y ∈ l1, y.g ≠ b.g := fun y hy => g2 y (by simp [hy]) b (by simp)
    have ma : ∀ y ∈ l2, y.g ≠ a.g := fun y hy e => g2 a (by simp) y (by simp [hy]) e.symm
    have hg3 : ((x :: b :: l2).map Nd.g).Nodup := g4
    have mx : ∀ y ∈ l2, y.g ≠ x.g := fun y hy => nd_ne hg3 (by simp [hy])
    have hg4 : ((b :: l2).map Nd.g).Nodup := by rw [List.map_cons, List.nodup_cons] at hg3; exact hg3.2
    have mb : ∀ y ∈ l2, y.g ≠ b.g := fun y hy => nd_ne hg4 hy
    have ehd : hdO (l1 ++ [a] ++ x :: b :: l2) none = hdO (l1 ++ [a] ++ b :: l2) none := by cases l1 <;> rfl
    have elt : ltO none (l1 ++ [a] ++ x :: b :: l2) = ltO none (l1 ++ [a] ++ b :: l2) := by simp [ltO_app, ltO]
    rw [elt, ehd] at hc
    refine (rem_D c a0 a1 _ _ a4 a5 a6 a x b _ _ w hc ha hx hb nax (hnc a (by simp)) nab nxb (hnc b (by simp)) hxc).mono ?_
    rintro e w' ⟨rfl, h1, h2, h3, h4, h5⟩
    refine ⟨rfl, h1, ?_, h4, h5.mono fun k hk => ?_⟩
    · refine chain_app.2 ⟨chain_app.2 ⟨?_, h2, trivial⟩, ?_⟩
      · refine h5.chain c1 fun y hy hk => ?_
        rcases hk with h | h | h | h
        · exact hnc y (by simp [hy]) h
        · exact nx y hy h
        · exact na y hy h
        · exact nb y hy h
      · rw [ltO_snoc]
        refine ⟨h3, h5.chain hr fun y hy hk => ?_⟩
        rcases hk with h | h | h | h
        · exact hnc y (by simp [hy]) h
        · exact mx y hy h
        · exact ma y hy h
        · exact mb y hy h
    · rcases hk with rfl | rfl | rfl | rfl
      · exact .inl rfl
      · exact .inr ⟨x, by simp, rfl⟩
      · exact .inr ⟨a, by simp, rfl⟩
      · exact .inr ⟨b, by simp, rfl⟩
def AddRet (c : Nat) (a0 a1 a4 a5 a6 : Value) (L : List Nd) (x : Nd) (w : World) (e : Ending) (w' : World) : Prop :=
  e = .returned (.tuple #[]) ∧ Blk w' c tL (lruC a0 a1 (pt (hdO (x :: L) none)) (pt (ltO none (x :: L))) a4 a5 a6) ∧ Chain w' none (x :: L) none ∧ Mod w w' (SubS c (x :: L))
theorem add_chain (c : Nat) (a0 a1 a4 a5 a6 : Value) (L : List Nd) (x : Nd) (y0 y1 : Value) (w : World) (hc : Blk w c tL (lruC a0 a1 (pt (hdO L none)) (pt (ltO none L)) a4 a5 a6)) (hch : Chain w none L none)
    (hx : Blk w x.g tE #[.int .i64 x.k, .int .i64 x.v, y0, y1]) (hg : ((x :: L).map Nd.g).Nodup) :
    Calls Try.prog 27 #[pt (some c), pt (some x.g)] w (AddRet c a0 a1 a4 a5 a6 L x w) := by
  have hxc : x.g ≠ c := hx.type_ne hc (by decide)
  rcases L with _ | ⟨b, l⟩
  · refine (add_A c a0 a1 a4 a5 a6 x none none 0 w y0 y1 hc hx hxc).mono ?_
    rintro e w' ⟨rfl, h1, h2, h3⟩
    exact ⟨rfl, h1, ⟨h2, trivial⟩, h3.mono fun k hk => by rcases hk with rfl | rfl; exact .inl rfl; exact .inr ⟨x, by simp, rfl⟩⟩
  · have hnb : b.g ≠ x.g := nd_ne hg (by simp)
    have hbc : b.g ≠ c := hch.ne hc (by simp)
    have hb := hch.1
    obtain ⟨z, hz⟩ := ltO_some b.g l
    have e1 : ltO none (b :: l) = some z := hz
    have e2 : ltO none (x :: b :: l) = some z := hz
    rw [e1] at hc
    have hg2 : ((b :: l).map Nd.g).Nodup := by rw [List.map_cons, List.nodup_cons] at hg; exact hg.2
    refine (add_B c a0 a1 a4 a5 a6 x b none _ z w y0 y1 hc hx hb (Ne.symm hnb) hbc hxc).mono ?_
    rintro e w' ⟨rfl, h1, h2, h3, h4⟩
    refine ⟨rfl, by rw [e2]; exact h1, ⟨h3, h2, ?_⟩, h4.mono fun k hk => ?_⟩
    · refine h4.chain hch.2 fun y hy hk => ?_
      rcases hk with h | h | h
      · exact hch.ne hc (x := y) (by simp [hy]) h
      · exact nd_ne hg (y := y) (by simp [hy]) h
      · exact nd_ne hg2 hy h
    · rcases hk with rfl | rfl | rfl
      · exact .inl rfl
      · exact .inr ⟨x, by simp, rfl⟩
      · exact .inr ⟨b, by simp, rfl⟩
end Go.Proofs.Ytnggdeggcflodaa
