/- The row of FnListDrawn: the law answers true for every input, and each argument reads afterwards as it read before: the tied card: the listed package variables start as the program text lays them. No other conditions. -/
import Derived.Test.YthdkbokdikhojaaDoorCards
import Derived.Test.YthdkbokdikhojaaDoorTie
import Derived.Test.YthdkbokdikhojaaDoorLdZ
import Derived.Test.YthdkbokdikhojaaDoorBase
import Derived.Test.YthdkbokdikhojaaDoorLsArg
import Derived.WalkKit
import Derived.ProofKit
import Derived.OpenShut
import Derived.ShutString
import Derived.ChangeOld
import Derived.Below
import Derived.SizedLaws
import Derived.LaidMore
import Derived.Lay
import Derived.SevenTiedAt
import Derived.Stop.Joined
namespace Go.Proofs.YthdkbokdikhojaaDoor.fnListDrawn
open Go.ChangeShapes Go.WideShapes Go.ChangeAt Go.RowKit
open Go.ChangeMaps (open_string shut_string)
set_option linter.unusedVariables false
theorem own : ownKnob Tryd.prog.godebug = none := by kernel_rfl
theorem laidOut : laidOutB Tryd.prog = true := by kernel_rfl
set_option maxRecDepth 100000 in
theorem lifted (os : Os) (started : os.Started) (H : Type) (enc : TypeId × Value → H) :
    ReturnsInHanded {} Tryd.checked os 3 .any (fun w args => (Rows.fnListDrawnSpec.pre enc Tryd.prog Tryd.f3 [] false w args ∧ laidMetH Tryd.prog Rows.fnListDrawnRow.laid w) ∧ sizedMet enc Tryd.prog Tryd.f3 (OpenSpec.ofChange Rows.fnListDrawnSpec) false w args) (Rows.fnListDrawnSpec.post enc Tryd.prog Tryd.f3 false true false false) := by
  refine returnsInHanded_of_change_and (C := Tryd.checked) (X := fun w _ => laidMetH Tryd.prog Rows.fnListDrawnRow.laid w) (fun _ _ _ hh h => h.of_heap hh) own started (by kernel_rfl) Tryd.func3
    (ChangeSpec.witness_shaped (enc := enc) (C := Tryd.checked) (os := os) (X := fun w _ => laidMetH Tryd.prog Rows.fnListDrawnRow.laid w) false (World.laidAll Tryd.prog os Rows.fnListDrawnRow.laid) #[.slice none 0 0, .agg #[.int .i64 0, .string ByteArray.empty, .string ByteArray.empty, .string ByteArray.empty, .string ByteArray.empty, .string ByteArray.empty, .string ByteArray.empty, .string ByteArray.empty, .string ByteArray.empty]] 8 (World.laidAll_os _ _ _)
      (World.shaped_of_ZipB (by kernel_rfl) (by kernel_rfl)) (by kernel_rfl) (by kernel_rfl) (by kernel_rfl)
      (by rw [MakeChecks.laidMetH_plain _ _ _ (by kernel_rfl)]; exact laidMet_laidAll _ (by kernel_rfl) (by kernel_rfl))) ?_
  intro W base args ds gs before hval0 hW hcnd hsz0 hL _
  have hsz : (DataW.weightsEach Tryd.prog (Tryd.f3.params.toList ++ Rows.fnListDrawnSpec.plain.varTypes Tryd.prog) (ds ++ gs)).all (· ≤ reachBytes) = true := hsz0
  have hval : ∀ (j : Nat) t v, Tryd.f3.params[j]? = some t → args[j]? = some v → Value.okWide Tryd.prog W .any base t v := hval0
  have hW' := hW
  obtain ⟨p, q, hA0, hV, rfl, hfz, hnd⟩ := hW
  have hA : DataW.TrodAll enc Tryd.prog W 0 (fun _ => true) true Tryd.f3.params.toList args.toList ds p := hA0
  rw [Tryd.params3] at hA hval hsz
  obtain ⟨v0, vs0, d0, ds0, p0, q0, hargs, rfl, rfl, h0, r0⟩ := trodAll_cons hA
  obtain ⟨v1, vs1, d1, ds1, p1, q1, rfl, rfl, rfl, h1, r1⟩ := trodAll_cons r0
  obtain ⟨rfl, rfl, rfl⟩ := trodAll_nil r1
  obtain rfl : args = #[v0, v1] := by cases args; simp_all
  obtain ⟨rfl, rfl⟩ := trodVars_none hV
  have k0 := h0
  have lt0 : ∀ x ∈ p0, x.block < W.heap.size := by obtain ⟨m, hm⟩ := k0; exact DataW.trod_lt m _ _ _ hm
  obtain ⟨a0, len0, cap0, rfl⟩ := okWide_slice Tryd.underlying22 (hval 0 22 v0 rfl rfl)
  obtain ⟨x0, w0⟩ := args_LsItem k0
  have k1 := h1
  have lt1 : ∀ x ∈ p1, x.block < W.heap.size := by obtain ⟨m, hm⟩ := k1; exact DataW.trod_lt m _ _ _ hm
  obtain ⟨cs1, ys1, n1, rfl, lc1, rfl, ly1, f1⟩ := open_cells Tryd.underlying24 (by kernel_rfl) (by kernel_rfl) (hval 1 24 v1 rfl rfl) h1
  obtain ⟨c1_0, c1_1, c1_2, c1_3, c1_4, c1_5, c1_6, c1_7, c1_8, rfl⟩ := list_of_len9 lc1
  obtain ⟨z1_0, z1_1, z1_2, z1_3, z1_4, z1_5, z1_6, z1_7, z1_8, rfl⟩ := list_of_len9 ly1
  obtain ⟨a1_0, e1_0, g1_0, w1_0⟩ := DataW.trod_int Tryd.underlying3 (f1 0 _ _ _ rfl rfl rfl)
  simp only [List.cons.injEq, and_true] at e1_0
  subst e1_0
  obtain ⟨a1_1, e1_1, g1_1, w1_1⟩ := DataW.trod_string Tryd.underlying9 (f1 1 _ _ _ rfl rfl rfl)
  simp only [List.cons.injEq, and_true] at e1_1
  subst e1_1
  obtain ⟨a1_2, e1_2, g1_2, w1_2⟩ := DataW.trod_string Tryd.underlying9 (f1 2 _ _ _ rfl rfl rfl)
  simp only [List.cons.injEq, and_true] at e1_2
  subst e1_2
  obtain ⟨a1_3, e1_3, g1_3, w1_3⟩ := DataW.trod_string Tryd.underlying9 (f1 3 _ _ _ rfl rfl rfl)
  simp only [List.cons.injEq, and_true] at e1_3
  subst e1_3
  obtain ⟨a1_4, e1_4, g1_4, w1_4⟩ := DataW.trod_string Tryd.underlying9 (f1 4 _ _ _ rfl rfl rfl)
  simp only [List.cons.injEq, and_true] at e1_4
  subst e1_4
  obtain ⟨a1_5, e1_5, g1_5, w1_5⟩ := DataW.trod_string Tryd.underlying9 (f1 5 _ _ _ rfl rfl rfl)
  simp only [List.cons.injEq, and_true] at e1_5
  subst e1_5
  obtain ⟨a1_6, e1_6, g1_6, w1_6⟩ := DataW.trod_string Tryd.underlying9 (f1 6 _ _ _ rfl rfl rfl)
  simp only [List.cons.injEq, and_true] at e1_6
  subst e1_6
  obtain ⟨a1_7, e1_7, g1_7, w1_7⟩ := DataW.trod_string Tryd.underlying9 (f1 7 _ _ _ rfl rfl rfl)
  simp only [List.cons.injEq, and_true] at e1_7
  subst e1_7
  obtain ⟨a1_8, e1_8, g1_8, w1_8⟩ := DataW.trod_string Tryd.underlying9 (f1 8 _ _ _ rfl rfl rfl)
  simp only [List.cons.injEq, and_true] at e1_8
  subst e1_8
  clear hA0 hval0 hsz0 hsz
  refine (lawDrawn a0 len0 cap0 x0 a1_0 a1_1 a1_2 a1_3 a1_4 a1_5 a1_6 a1_7 a1_8 W w0 (wf_i64 w1_0) w1_1 w1_2 w1_3 w1_4 w1_5 w1_6 w1_7 w1_8).mono fun e W' ⟨he, bel⟩ => ?_
  subst he
  exact ⟨_, rfl, _, _, _, [], _, [], hW', trodAll_mk1 (shut_bool Tryd.underlying4 _), (trodAll_cons_mk (Below.trod laidOut (by kernel_rfl) (of_decide_eq_true (by kernel_rfl)) k0 bel lt0) (trodAll_cons_mk (Below.trod laidOut (by kernel_rfl) (of_decide_eq_true (by kernel_rfl)) k1 bel lt1) trodAll_mk0)), rfl, bel.frame _, fun h => by cases h⟩
theorem over : Rows.fnListDrawnRow.holds Tryd.pinned (OpenSpec.ofChange Rows.fnListDrawnSpec) :=
  OpenClaim.holds_of_wide 3 Tryd.f3 rfl rfl rfl rfl rfl rfl rfl ⟨rfl, rfl, rfl, rfl, rfl⟩ rfl rfl rfl rfl rfl (by kernel_rfl) Tryd.func3 (by kernel_rfl)
    (of_decide_eq_true (by kernel_rfl)) (by unfold Func.isWrapper; first | (rw [if_pos (by decide +kernel)]; kernel_rfl) | (rw [if_neg (by decide +kernel)]; exact ⟨rfl, rfl⟩))
    (fun os started H enc _ => lifted os started H enc)
theorem said : Rows.FnListDrawnSaid := over
theorem plain (f : FuncId) (fn : Func) (hf : Tryd.pinned.checked.prog.funcNamed "pub-pinstripe/laws.FnListDrawn" = some f) (hfn : Tryd.pinned.checked.prog.funcs[f]? = some fn) :
    true = Tryd.pinned.checked.prog.looks [] ∧ ∀ (j : Nat) t, fn.params[j]? = some t → Tryd.pinned.checked.prog.wantsStandIn t = false := by
  obtain rfl : f = 3 := Option.some.inj ((show Tryd.prog.funcNamed "pub-pinstripe/laws.FnListDrawn" = some 3 by kernel_rfl).symm.trans hf) |>.symm
  obtain rfl : fn = Tryd.f3 := (Option.some.inj (Tryd.func3.symm.trans hfn)).symm
  refine ⟨by kernel_rfl, fun j t ht => ?_⟩
  rw [Tryd.params3] at ht
  have hm : t ∈ [22, 24] := by simpa using Array.mem_of_getElem? ht
  have hall : ([22, 24].all fun u => !Tryd.prog.wantsStandIn u) = true := by kernel_rfl
  exact (show Tryd.prog.wantsStandIn t = false by simpa using List.all_eq_true.1 hall t hm)
theorem card : Rows.FnListDrawnCardSaid :=
  Claim7.holds_tied_plain_at .later [] _ _ _ _ said (fun _ h => by cases h) (by kernel_rfl) (fun _ h => by cases h) fnListDrawn_row_tie rfl ⟨rfl, rfl⟩ (by kernel_rfl) rfl plain (by kernel_rfl)
#print axioms card
end Go.Proofs.YthdkbokdikhojaaDoor.fnListDrawn
namespace Go.Proofs.YthdkbokdikhojaaDoor
theorem fnListDrawn_holds : Rows.FnListDrawnCardSaid := fnListDrawn.card
end Go.Proofs.YthdkbokdikhojaaDoor
