/- Steps that are told by what stands: the end is told too. In plain Lean. -/
namespace Go.Proofs.YtilkcnoooecngaaGreatDoor
set_option linter.unusedVariables false
inductive Goes {S : Type} (st : S → S → Prop) (a : S) : S → Prop
  | refl : Goes st a a
  | step {b c : S} (h : Goes st a b) (k : st b c) : Goes st a c
def Done {S : Type} (st : S → S → Prop) (a b : S) : Prop := Goes st a b ∧ ∀ c, ¬ st b c
def Fun2 {S : Type} (st : S → S → Prop) : Prop := ∀ a b c, st a b → st a c → b = c
theorem Goes.both {S : Type} {st : S → S → Prop} (hf : Fun2 st) {a b c : S} (h : Goes st a b) (k : Goes st a c) : Goes st b c ∨ Goes st c b := by
  induction h with
  | refl => exact .inl k
  | step h1 h2 ih =>
    rename_i b d
    rcases ih with h | h
    · have : b = c ∨ Goes st d c := by
        clear k h1
        induction h with
        | refl => exact .inl rfl
        | step x y ih2 =>
          rcases ih2 with rfl | g
          · rw [hf _ _ _ h2 y]; exact .inr .refl
          · exact .inr (.step g y)
      rcases this with rfl | g
      · exact .inr (.step .refl h2)
      · exact .inl g
    · exact .inr (.step h h2)
theorem Goes.stuck {S : Type} {st : S → S → Prop} {a b : S} (h : Goes st a b) (k : ∀ c, ¬ st a c) : b = a := by
  induction h with
  | refl => rfl
  | step x y ih => subst ih; exact absurd y (k _)
theorem Done.uniq {S : Type} {st : S → S → Prop} (hf : Fun2 st) {a b c : S} (h : Done st a b) (k : Done st a c) : b = c := by
  rcases Goes.both hf h.1 k.1 with g | g
  · exact (g.stuck h.2).symm
  · exact g.stuck k.2
/-- Steps by a function. -/
def fs {S : Type} (f : S → Option S) (a b : S) : Prop := f a = some b
theorem fs_fun {S : Type} (f : S → Option S) : Fun2 (fs f) := fun a b c h k => by unfold fs at h k; rw [h] at k; exact Option.some.inj k
abbrev FGo {S : Type} (f : S → Option S) := Goes (fs f)
abbrev FDone {S : Type} (f : S → Option S) := Done (fs f)
theorem FDone.uniq {S : Type} {f : S → Option S} {a b c : S} (h : FDone f a b) (k : FDone f a c) : b = c := Done.uniq (fs_fun f) h k
theorem FGo.step {S : Type} {f : S → Option S} {a b c : S} (h : FGo f a b) (k : f b = some c) : FGo f a c := Goes.step h k
theorem FGo.fin {S : Type} {f : S → Option S} {a b : S} (h : FGo f a b) (k : f b = none) : FDone f a b := ⟨h, fun c e => by unfold fs at e; rw [k] at e; cases e⟩
end Go.Proofs.YtilkcnoooecngaaGreatDoor
