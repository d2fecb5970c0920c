/- The row of FnJunction: the law answers true for every input, and each argument reads afterwards as it read before. No conditions. -/
import Derived.Test.YtlppbalnjogkoaaRows
import Derived.Test.YtlppbalnjogkoaaJunH
import Derived.Test.YtlppbalnjogkoaaBase
import Derived.WalkKit
import Derived.ProofKit
import Derived.OpenShut
import Derived.ShutString
import Derived.ChangeOld
import Derived.Below
import Derived.SizedLaws
namespace Go.Proofs.Ytlppbalnjogkoaa.fnJunction
open Go.ChangeShapes Go.WideShapes Go.ChangeAt Go.RowKit
open Go.ChangeMaps (open_string shut_string)
set_option linter.unusedVariables false
theorem own : ownKnob Try.prog.godebug = none := by kernel_rfl
theorem laidOut : laidOutB Try.prog = true := by kernel_rfl
set_option maxRecDepth 100000 in
theorem lifted (os : Os) (started : os.Started) (H : Type) (enc : TypeId × Value → H) :
    ReturnsInHanded {} Try.checked os 11 .any (Rows.fnJunctionSpec.pre6 enc Try.prog Try.f11 Rows.fnJunctionRow.domain false) (Rows.fnJunctionSpec.post enc Try.prog Try.f11 false true false false) := by
  refine returnsInHanded_of_change_sized (C := Try.checked) own started (by kernel_rfl) Try.func11
    (ChangeSpec.witness6 (enc := enc) (C := Try.checked) false ⟨#[], #[.bool false, .bool false, .bool false, .bool false, .agg #[.string ByteArray.empty, .string ByteArray.empty, .string ByteArray.empty, .string ByteArray.empty, .string ByteArray.empty, .string ByteArray.empty, .string ByteArray.empty, .string ByteArray.empty, .string ByteArray.empty, .string ByteArray.empty, .string ByteArray.empty, .string ByteArray.empty, .string ByteArray.empty, .string ByteArray.empty, .string ByteArray.empty, .string ByteArray.empty, .string ByteArray.empty, .string ByteArray.empty]], []⟩ 8 (by kernel_rfl) (by kernel_rfl) (by kernel_rfl) (by kernel_rfl)) ?_
  intro W base args ds gs before hval0 hW hcnd hsz0 _
  have hsz : (DataW.weightsEach Try.prog (Try.f11.params.toList ++ Rows.fnJunctionSpec.plain.varTypes Try.prog) (ds ++ gs)).all (· ≤ reachBytes) = true := hsz0
  have hval : ∀ (j : Nat) t v, Try.f11.params[j]? = some t → args[j]? = some v → Value.okWide Try.prog W .any base t v := hval0
  have hW' := hW
  obtain ⟨p, q, hA0, hV, rfl, hfz, hnd⟩ := hW
  have hA : DataW.TrodAll enc Try.prog W 0 (fun _ => true) true Try.f11.params.toList args.toList ds p := hA0
  rw [Try.params11] at hA hval hsz
  obtain ⟨v0, vs0, d0, ds0, p0, q0, hargs, rfl, rfl, h0, r0⟩ := trodAll_cons hA
  obtain ⟨v1, vs1, d1, ds1, p1, q1, rfl, rfl, rfl, h1, r1⟩ := trodAll_cons r0
  obtain ⟨v2, vs2, d2, ds2, p2, q2, rfl, rfl, rfl, h2, r2⟩ := trodAll_cons r1
  obtain ⟨v3, vs3, d3, ds3, p3, q3, rfl, rfl, rfl, h3, r3⟩ := trodAll_cons r2
  obtain ⟨v4, vs4, d4, ds4, p4, q4, rfl, rfl, rfl, h4, r4⟩ := trodAll_cons r3
  obtain ⟨rfl, rfl, rfl⟩ := trodAll_nil r4
  obtain rfl : args = #[v0, v1, v2, v3, v4] := by cases args; simp_all
  obtain ⟨rfl, rfl⟩ := trodVars_none hV
  obtain ⟨a0, rfl, rfl, rfl⟩ := open_bool Try.underlying4 (hval 0 4 v0 rfl rfl) h0
  obtain ⟨a1, rfl, rfl, rfl⟩ := open_bool Try.underlying4 (hval 1 4 v1 rfl rfl) h1
  obtain ⟨a2, rfl, rfl, rfl⟩ := open_bool Try.underlying4 (hval 2 4 v2 rfl rfl) h2
  obtain ⟨a3, rfl, rfl, rfl⟩ := open_bool Try.underlying4 (hval 3 4 v3 rfl rfl) h3
  have k4 := h4
  have lt4 : ∀ x ∈ p4, x.block < W.heap.size := by obtain ⟨m, hm⟩ := k4; exact DataW.trod_lt m _ _ _ hm
  obtain ⟨cs4, ys4, n4, rfl, lc4, rfl, ly4, f4⟩ := open_cells Try.underlying49 (by kernel_rfl) (by kernel_rfl) (hval 4 49 v4 rfl rfl) h4
  obtain ⟨c4_0, c4_1, c4_2, c4_3, c4_4, c4_5, c4_6, c4_7, c4_8, c4_9, c4_10, c4_11, c4_12, c4_13, c4_14, c4_15, c4_16, c4_17, rfl⟩ := list_of_len18 lc4
  obtain ⟨z4_0, z4_1, z4_2, z4_3, z4_4, z4_5, z4_6, z4_7, z4_8, z4_9, z4_10, z4_11, z4_12, z4_13, z4_14, z4_15, z4_16, z4_17, rfl⟩ := list_of_len18 ly4
  obtain ⟨a4_0, e4_0, g4_0, w4_0⟩ := DataW.trod_string Try.underlying9 (f4 0 _ _ _ rfl rfl rfl)
  simp only [List.cons.injEq, and_true] at e4_0
  subst e4_0
  obtain ⟨a4_1, e4_1, g4_1, w4_1⟩ := DataW.trod_string Try.underlying9 (f4 1 _ _ _ rfl rfl rfl)
  simp only [List.cons.injEq, and_true] at e4_1
  subst e4_1
  obtain ⟨a4_2, e4_2, g4_2, w4_2⟩ := DataW.trod_string Try.underlying9 (f4 2 _ _ _ rfl rfl rfl)
  simp only [List.cons.injEq, and_true] at e4_2
  subst e4_2
  obtain ⟨a4_3, e4_3, g4_3, w4_3⟩ := DataW.trod_string Try.underlying9 (f4 3 _ _ _ rfl rfl rfl)
  simp only [List.cons.injEq, and_true] at e4_3
  subst e4_3
  obtain ⟨a4_4, e4_4, g4_4, w4_4⟩ := DataW.trod_string Try.underlying9 (f4 4 _ _ _ rfl rfl rfl)
  simp only [List.cons.injEq, and_true] at e4_4
  subst e4_4
  obtain ⟨a4_5, e4_5, g4_5, w4_5⟩ := DataW.trod_string Try.underlying9 (f4 5 _ _ _ rfl rfl rfl)
  simp only [List.cons.injEq, and_true] at e4_5
  subst e4_5
  obtain ⟨a4_6, e4_6, g4_6, w4_6⟩ := DataW.trod_string Try.underlying9 (f4 6 _ _ _ rfl rfl rfl)
  simp only [List.cons.injEq, and_true] at e4_6
  subst e4_6
  obtain ⟨a4_7, e4_7, g4_7, w4_7⟩ := DataW.trod_string Try.underlying9 (f4 7 _ _ _ rfl rfl rfl)
  simp only [List.cons.injEq, and_true] at e4_7
  subst e4_7
  obtain ⟨a4_8, e4_8, g4_8, w4_8⟩ := DataW.trod_string Try.underlying9 (f4 8 _ _ _ rfl rfl rfl)
  simp only [List.cons.injEq, and_true] at e4_8
  subst e4_8
  obtain ⟨a4_9, e4_9, g4_9, w4_9⟩ := DataW.trod_string Try.underlying9 (f4 9 _ _ _ rfl rfl rfl)
  simp only [List.cons.injEq, and_true] at e4_9
  subst e4_9
  obtain ⟨a4_10, e4_10, g4_10, w4_10⟩ := DataW.trod_string Try.underlying9 (f4 10 _ _ _ rfl rfl rfl)
  simp only [List.cons.injEq, and_true] at e4_10
  subst e4_10
  obtain ⟨a4_11, e4_11, g4_11, w4_11⟩ := DataW.trod_string Try.underlying9 (f4 11 _ _ _ rfl rfl rfl)
  simp only [List.cons.injEq, and_true] at e4_11
  subst e4_11
  obtain ⟨a4_12, e4_12, g4_12, w4_12⟩ := DataW.trod_string Try.underlying9 (f4 12 _ _ _ rfl rfl rfl)
  simp only [List.cons.injEq, and_true] at e4_12
  subst e4_12
  obtain ⟨a4_13, e4_13, g4_13, w4_13⟩ := DataW.trod_string Try.underlying9 (f4 13 _ _ _ rfl rfl rfl)
  simp only [List.cons.injEq, and_true] at e4_13
  subst e4_13
  obtain ⟨a4_14, e4_14, g4_14, w4_14⟩ := DataW.trod_string Try.underlying9 (f4 14 _ _ _ rfl rfl rfl)
  simp only [List.cons.injEq, and_true] at e4_14
  subst e4_14
  obtain ⟨a4_15, e4_15, g4_15, w4_15⟩ := DataW.trod_string Try.underlying9 (f4 15 _ _ _ rfl rfl rfl)
  simp only [List.cons.injEq, and_true] at e4_15
  subst e4_15
  obtain ⟨a4_16, e4_16, g4_16, w4_16⟩ := DataW.trod_string Try.underlying9 (f4 16 _ _ _ rfl rfl rfl)
  simp only [List.cons.injEq, and_true] at e4_16
  subst e4_16
  obtain ⟨a4_17, e4_17, g4_17, w4_17⟩ := DataW.trod_string Try.underlying9 (f4 17 _ _ _ rfl rfl rfl)
  simp only [List.cons.injEq, and_true] at e4_17
  subst e4_17
  clear hA0 hval0 hsz0 hsz
  refine (junction_all a0 a1 a2 a3 a4_0 a4_1 a4_2 a4_3 a4_4 a4_5 a4_6 a4_7 a4_8 a4_9 a4_10 a4_11 a4_12 a4_13 a4_14 a4_15 a4_16 a4_17 W w4_0 w4_1 w4_2 w4_3 w4_4 w4_5 w4_6 w4_7 w4_8 w4_9 w4_10 w4_11 w4_12 w4_13 w4_14 w4_15 w4_16 w4_17).mono fun e W' ⟨he, bel⟩ => ?_
  subst he
  exact ⟨_, rfl, _, _, _, [], _, [], hW', trodAll_mk1 (shut_bool Try.underlying4 _), (trodAll_cons_mk (shut_bool Try.underlying4 _) (trodAll_cons_mk (shut_bool Try.underlying4 _) (trodAll_cons_mk (shut_bool Try.underlying4 _) (trodAll_cons_mk (shut_bool Try.underlying4 _) (trodAll_cons_mk (Below.trod laidOut (by kernel_rfl) (of_decide_eq_true (by kernel_rfl)) k4 bel lt4) trodAll_mk0))))), rfl, bel.frame _, fun h => by cases h⟩
theorem over : Rows.fnJunctionRow.holds Try.pinned (OpenSpec.ofChange Rows.fnJunctionSpec) :=
  OpenClaim.holds_of_wide 11 Try.f11 rfl rfl rfl rfl rfl rfl rfl ⟨rfl, rfl, rfl, rfl, rfl⟩ rfl rfl rfl rfl rfl (by kernel_rfl) Try.func11 (by kernel_rfl)
    (of_decide_eq_true (by kernel_rfl)) (by unfold Func.isWrapper; first | (rw [if_pos (by decide +kernel)]; kernel_rfl) | (rw [if_neg (by decide +kernel)]; exact ⟨rfl, rfl⟩))
    (fun os started H enc _ => lifted os started H enc)
theorem proved : Rows.FnJunctionSaid := over
#print axioms proved
end Go.Proofs.Ytlppbalnjogkoaa.fnJunction
namespace Go.Proofs.Ytlppbalnjogkoaa
theorem fnJunction_holds : Rows.FnJunctionSaid := fnJunction.proved
end Go.Proofs.Ytlppbalnjogkoaa
