/- Paddings: what the functions of a padding answer, and two structs compared: for every two paddings. No conditions. -/
import Derived.Test.YtlppbalnjogkoaaProg
import Derived.Test.YtlppbalnjogkoaaBase
import Derived.Test.YtlppbalnjogkoaaPFnPaddingx1
import Derived.WalkKit
import Derived.Handy
import Derived.Deep.QuietTactic
import Derived.BigQuiet
import Derived.WalkLawsBesides
namespace Go.Proofs.Ytlppbalnjogkoaa
open Go.RowKit
set_option linter.unusedVariables false
open PFnPadding
theorem bcell {W w1 : World} (n : Nat) (hn : n ≤ W.heap.size) (hb : Below W.heap.size W w1) : (∀ b o, b < n → w1.cell? ⟨b, o, none⟩ = W.cell? ⟨b, o, none⟩) ∧ (∀ b o, b < n → w1.frozen? ⟨b, o, none⟩ = W.frozen? ⟨b, o, none⟩) :=
  ⟨fun b o h => hb.cell (p := ⟨b, o, none⟩) (by show b < _; omega), fun b o h => hb.frozen (p := ⟨b, o, none⟩) (by show b < _; omega)⟩
abbrev padV (l r t b : ByteArray) (o : Bool) : Value := .agg #[.string l, .string r, .string t, .string b, .bool o]
theorem fits_some (l r t b : ByteArray) (o : Bool) : ∃ x, laws_zzFits23.f l r t b o = some x := by
  unfold laws_zzFits23.f
  repeat' split
  all_goals exact ⟨_, rfl⟩
def emp (l r t b : ByteArray) : Bool := l.toList.isEmpty && (r.toList.isEmpty && (t.toList.isEmpty && b.toList.isEmpty))
theorem empty_f (l r t b : ByteArray) (o : Bool) : tw_Padding_Empty.f l r t b o = some (emp l r t b) := by
  unfold tw_Padding_Empty.f emp
  by_cases h1 : l.toList = [] <;> by_cases h2 : r.toList = [] <;> by_cases h3 : t.toList = [] <;> simp [h1, h2, h3] <;> cases b.toList <;> simp
theorem paddable_f (l r t b : ByteArray) (o : Bool) : tw_Padding_Paddable.f l r t b o = some (!emp l r t b || o) := by
  unfold tw_Padding_Paddable.f
  rw [empty_f]
  simp only [Option.bind_some]
  cases emp l r t b <;> simp
def eqv (l r t b : ByteArray) (o : Bool) (l1 r1 t1 b1 : ByteArray) (o1 : Bool) : Bool := l.toList == l1.toList && (r.toList == r1.toList && (t.toList == t1.toList && (b.toList == b1.toList && o == o1)))
theorem equals_f (l r t b : ByteArray) (o : Bool) (l1 r1 t1 b1 : ByteArray) (o1 : Bool) : tw_Padding_Equals.f l r t b o l1 r1 t1 b1 o1 = some (eqv l r t b o l1 r1 t1 b1 o1) := by
  unfold tw_Padding_Equals.f eqv
  by_cases h1 : l.toList = l1.toList <;> by_cases h2 : r.toList = r1.toList <;> by_cases h3 : t.toList = t1.toList <;> by_cases h4 : b.toList = b1.toList <;> simp [h1, h2, h3, h4]
theorem pads_f (l r t b : ByteArray) (o : Bool) (l1 r1 t1 b1 : ByteArray) (o1 : Bool) : impl_TwPaddings.f l r t b o l1 r1 t1 b1 o1 = some (emp l r t b, !emp l r t b || o, eqv l r t b o l1 r1 t1 b1 o1) := by
  unfold impl_TwPaddings.f
  rw [empty_f, paddable_f, equals_f]; rfl
open Go.Proofs.YtlppbalnjogkoaaW.PrintWords in
theorem eqS (l r t b : ByteArray) (o : Bool) (l1 r1 t1 b1 : ByteArray) (o1 : Bool) (W : World) :
    (binOp .eql 28 (padV l r t b o) (padV l1 r1 t1 b1 o1)).run Try.prog W = .ok (.bool (eqv l r t b o l1 r1 t1 b1 o1)) W := by
  rw [run_eql_struct]
  have h : (Op.equalIn 10000 28 (padV l r t b o) (padV l1 r1 t1 b1 o1)).run Try.prog W = .ok (eqv l r t b o l1 r1 t1 b1 o1) W :=
    eqA_of (d := 9999) Try.underlying28 (by kernel_rfl) (eqf_cons rfl (by simp [part, go_sem]) (by simp [part, go_sem]) (run_equalIn_string W 9998 9 l l1 Try.underlying9) (eqf_cons rfl (by simp [part, go_sem]) (by simp [part, go_sem]) (run_equalIn_string W 9998 9 r r1 Try.underlying9) (eqf_cons rfl (by simp [part, go_sem]) (by simp [part, go_sem]) (run_equalIn_string W 9998 9 t t1 Try.underlying9) (eqf_cons rfl (by simp [part, go_sem]) (by simp [part, go_sem]) (run_equalIn_string W 9998 9 b b1 Try.underlying9) (eqf_last rfl (by simp [part, go_sem]) (by simp [part, go_sem]) (run_equalIn_bool' W 9998 4 o o1 Try.underlying4))))))
  rw [h]
  rfl
theorem gt28 : Try.prog.eqGuardType Try.prog.depth 28 = false := by kernel_rfl
end Go.Proofs.Ytlppbalnjogkoaa
