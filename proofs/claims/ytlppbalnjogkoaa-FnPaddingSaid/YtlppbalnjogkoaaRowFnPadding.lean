/- The row of FnPadding: the law answers true for every input, and each argument reads afterwards as it read before. No conditions. -/
import Derived.Test.YtlppbalnjogkoaaRows
import Derived.Test.YtlppbalnjogkoaaPadB
import Derived.Test.YtlppbalnjogkoaaBase
import Derived.WalkKit
import Derived.ProofKit
import Derived.OpenShut
import Derived.ShutString
import Derived.ChangeOld
import Derived.Below
import Derived.SizedLaws
namespace Go.Proofs.Ytlppbalnjogkoaa.fnPadding
open Go.ChangeShapes Go.WideShapes Go.ChangeAt Go.RowKit
open Go.ChangeMaps (open_string shut_string)
set_option linter.unusedVariables false
theorem own : ownKnob Try.prog.godebug = none := by kernel_rfl
theorem laidOut : laidOutB Try.prog = true := by kernel_rfl
set_option maxRecDepth 100000 in
theorem lifted (os : Os) (started : os.Started) (H : Type) (enc : TypeId × Value → H) :
    ReturnsInHanded {} Try.checked os 6 .any (Rows.fnPaddingSpec.pre6 enc Try.prog Try.f6 Rows.fnPaddingRow.domain false) (Rows.fnPaddingSpec.post enc Try.prog Try.f6 false true false false) := by
  refine returnsInHanded_of_change_sized (C := Try.checked) own started (by kernel_rfl) Try.func6
    (ChangeSpec.witness6 (enc := enc) (C := Try.checked) false ⟨#[], #[.agg #[.string ByteArray.empty, .string ByteArray.empty, .string ByteArray.empty, .string ByteArray.empty, .bool false], .agg #[.string ByteArray.empty, .string ByteArray.empty, .string ByteArray.empty, .string ByteArray.empty, .bool false], .bool false], []⟩ 8 (by kernel_rfl) (by kernel_rfl) (by kernel_rfl) (by kernel_rfl)) ?_
  intro W base args ds gs before hval0 hW hcnd hsz0 _
  have hsz : (DataW.weightsEach Try.prog (Try.f6.params.toList ++ Rows.fnPaddingSpec.plain.varTypes Try.prog) (ds ++ gs)).all (· ≤ reachBytes) = true := hsz0
  have hval : ∀ (j : Nat) t v, Try.f6.params[j]? = some t → args[j]? = some v → Value.okWide Try.prog W .any base t v := hval0
  have hW' := hW
  obtain ⟨p, q, hA0, hV, rfl, hfz, hnd⟩ := hW
  have hA : DataW.TrodAll enc Try.prog W 0 (fun _ => true) true Try.f6.params.toList args.toList ds p := hA0
  rw [Try.params6] at hA hval hsz
  obtain ⟨v0, vs0, d0, ds0, p0, q0, hargs, rfl, rfl, h0, r0⟩ := trodAll_cons hA
  obtain ⟨v1, vs1, d1, ds1, p1, q1, rfl, rfl, rfl, h1, r1⟩ := trodAll_cons r0
  obtain ⟨v2, vs2, d2, ds2, p2, q2, rfl, rfl, rfl, h2, r2⟩ := trodAll_cons r1
  obtain ⟨rfl, rfl, rfl⟩ := trodAll_nil r2
  obtain rfl : args = #[v0, v1, v2] := by cases args; simp_all
  obtain ⟨rfl, rfl⟩ := trodVars_none hV
  have k0 := h0
  have lt0 : ∀ x ∈ p0, x.block < W.heap.size := by obtain ⟨m, hm⟩ := k0; exact DataW.trod_lt m _ _ _ hm
  obtain ⟨cs0, ys0, n0, rfl, lc0, rfl, ly0, f0⟩ := open_cells Try.underlying28 (by kernel_rfl) (by kernel_rfl) (hval 0 28 v0 rfl rfl) h0
  obtain ⟨c0_0, c0_1, c0_2, c0_3, c0_4, rfl⟩ := list_of_len5 lc0
  obtain ⟨z0_0, z0_1, z0_2, z0_3, z0_4, rfl⟩ := list_of_len5 ly0
  obtain ⟨a0_0, e0_0, g0_0, w0_0⟩ := DataW.trod_string Try.underlying9 (f0 0 _ _ _ rfl rfl rfl)
  simp only [List.cons.injEq, and_true] at e0_0
  subst e0_0
  obtain ⟨a0_1, e0_1, g0_1, w0_1⟩ := DataW.trod_string Try.underlying9 (f0 1 _ _ _ rfl rfl rfl)
  simp only [List.cons.injEq, and_true] at e0_1
  subst e0_1
  obtain ⟨a0_2, e0_2, g0_2, w0_2⟩ := DataW.trod_string Try.underlying9 (f0 2 _ _ _ rfl rfl rfl)
  simp only [List.cons.injEq, and_true] at e0_2
  subst e0_2
  obtain ⟨a0_3, e0_3, g0_3, w0_3⟩ := DataW.trod_string Try.underlying9 (f0 3 _ _ _ rfl rfl rfl)
  simp only [List.cons.injEq, and_true] at e0_3
  subst e0_3
  obtain ⟨a0_4, e0_4, g0_4⟩ := DataW.trod_bool Try.underlying4 (f0 4 _ _ _ rfl rfl rfl)
  simp only [List.cons.injEq, and_true] at e0_4
  subst e0_4
  have k1 := h1
  have lt1 : ∀ x ∈ p1, x.block < W.heap.size := by obtain ⟨m, hm⟩ := k1; exact DataW.trod_lt m _ _ _ hm
  obtain ⟨cs1, ys1, n1, rfl, lc1, rfl, ly1, f1⟩ := open_cells Try.underlying28 (by kernel_rfl) (by kernel_rfl) (hval 1 28 v1 rfl rfl) h1
  obtain ⟨c1_0, c1_1, c1_2, c1_3, c1_4, rfl⟩ := list_of_len5 lc1
  obtain ⟨z1_0, z1_1, z1_2, z1_3, z1_4, rfl⟩ := list_of_len5 ly1
  obtain ⟨a1_0, e1_0, g1_0, w1_0⟩ := DataW.trod_string Try.underlying9 (f1 0 _ _ _ rfl rfl rfl)
  simp only [List.cons.injEq, and_true] at e1_0
  subst e1_0
  obtain ⟨a1_1, e1_1, g1_1, w1_1⟩ := DataW.trod_string Try.underlying9 (f1 1 _ _ _ rfl rfl rfl)
  simp only [List.cons.injEq, and_true] at e1_1
  subst e1_1
  obtain ⟨a1_2, e1_2, g1_2, w1_2⟩ := DataW.trod_string Try.underlying9 (f1 2 _ _ _ rfl rfl rfl)
  simp only [List.cons.injEq, and_true] at e1_2
  subst e1_2
  obtain ⟨a1_3, e1_3, g1_3, w1_3⟩ := DataW.trod_string Try.underlying9 (f1 3 _ _ _ rfl rfl rfl)
  simp only [List.cons.injEq, and_true] at e1_3
  subst e1_3
  obtain ⟨a1_4, e1_4, g1_4⟩ := DataW.trod_bool Try.underlying4 (f1 4 _ _ _ rfl rfl rfl)
  simp only [List.cons.injEq, and_true] at e1_4
  subst e1_4
  obtain ⟨a2, rfl, rfl, rfl⟩ := open_bool Try.underlying4 (hval 2 4 v2 rfl rfl) h2
  clear hA0 hval0 hsz0 hsz
  refine (padding_all a0_0 a0_1 a0_2 a0_3 a0_4 a1_0 a1_1 a1_2 a1_3 a1_4 a2 W w0_0 w0_1 w0_2 w0_3 w1_0 w1_1 w1_2 w1_3).mono fun e W' ⟨he, bel⟩ => ?_
  subst he
  exact ⟨_, rfl, _, _, _, [], _, [], hW', trodAll_mk1 (shut_bool Try.underlying4 _), (trodAll_cons_mk (Below.trod laidOut (by kernel_rfl) (of_decide_eq_true (by kernel_rfl)) k0 bel lt0) (trodAll_cons_mk (Below.trod laidOut (by kernel_rfl) (of_decide_eq_true (by kernel_rfl)) k1 bel lt1) (trodAll_cons_mk (shut_bool Try.underlying4 _) trodAll_mk0))), rfl, bel.frame _, fun h => by cases h⟩
theorem over : Rows.fnPaddingRow.holds Try.pinned (OpenSpec.ofChange Rows.fnPaddingSpec) :=
  OpenClaim.holds_of_wide 6 Try.f6 rfl rfl rfl rfl rfl rfl rfl ⟨rfl, rfl, rfl, rfl, rfl⟩ rfl rfl rfl rfl rfl (by kernel_rfl) Try.func6 (by kernel_rfl)
    (of_decide_eq_true (by kernel_rfl)) (by unfold Func.isWrapper; first | (rw [if_pos (by decide +kernel)]; kernel_rfl) | (rw [if_neg (by decide +kernel)]; exact ⟨rfl, rfl⟩))
    (fun os started H enc _ => lifted os started H enc)
theorem proved : Rows.FnPaddingSaid := over
#print axioms proved
end Go.Proofs.Ytlppbalnjogkoaa.fnPadding
namespace Go.Proofs.Ytlppbalnjogkoaa
theorem fnPadding_holds : Rows.FnPaddingSaid := fnPadding.proved
end Go.Proofs.Ytlppbalnjogkoaa
