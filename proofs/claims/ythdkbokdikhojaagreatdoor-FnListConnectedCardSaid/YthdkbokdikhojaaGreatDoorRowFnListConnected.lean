/- The row of FnListConnected: the law answers true for every input, and each argument reads afterwards as it read before: the tied card: the listed package variables start as the program text lays them. No other conditions. -/
import Derived.Test.YthdkbokdikhojaaGreatDoorCards
import Derived.Test.YthdkbokdikhojaaGreatDoorTie
import Derived.Test.YthdkbokdikhojaaGreatDoorLkH
import Derived.Test.YthdkbokdikhojaaGreatDoorBase
import Derived.Test.YthdkbokdikhojaaGreatDoorLsArg
import Derived.WalkKit
import Derived.ProofKit
import Derived.OpenShut
import Derived.ShutString
import Derived.ChangeOld
import Derived.Below
import Derived.SizedLaws
import Derived.LaidMore
import Derived.Lay
import Derived.SevenTiedAt
import Derived.Stop.Joined
namespace Go.Proofs.YthdkbokdikhojaaGreatDoor.fnListConnected
open Go.ChangeShapes Go.WideShapes Go.ChangeAt Go.RowKit
open Go.ChangeMaps (open_string shut_string)
set_option linter.unusedVariables false
theorem own : ownKnob Tryz.prog.godebug = none := by kernel_rfl
theorem laidOut : laidOutB Tryz.prog = true := by kernel_rfl
set_option maxRecDepth 100000 in
theorem lifted (os : Os) (started : os.Started) (H : Type) (enc : TypeId × Value → H) :
    ReturnsInHanded {} Tryz.checked os 3 .any (fun w args => (Rows.fnListConnectedSpec.pre enc Tryz.prog Tryz.f3 [] false w args ∧ laidMetH Tryz.prog Rows.fnListConnectedRow.laid w) ∧ sizedMet enc Tryz.prog Tryz.f3 (OpenSpec.ofChange Rows.fnListConnectedSpec) false w args) (Rows.fnListConnectedSpec.post enc Tryz.prog Tryz.f3 false true false false) := by
  refine returnsInHanded_of_change_and (C := Tryz.checked) (X := fun w _ => laidMetH Tryz.prog Rows.fnListConnectedRow.laid w) (fun _ _ _ hh h => h.of_heap hh) own started (by kernel_rfl) Tryz.func3
    (ChangeSpec.witness_shaped (enc := enc) (C := Tryz.checked) (os := os) (X := fun w _ => laidMetH Tryz.prog Rows.fnListConnectedRow.laid w) false (World.laidAll Tryz.prog os Rows.fnListConnectedRow.laid) #[.slice none 0 0, .int .u8 0] 8 (World.laidAll_os _ _ _)
      (World.shaped_of_ZipB (by kernel_rfl) (by kernel_rfl)) (by kernel_rfl) (by kernel_rfl) (by kernel_rfl)
      (by rw [MakeChecks.laidMetH_plain _ _ _ (by kernel_rfl)]; exact laidMet_laidAll _ (by kernel_rfl) (by kernel_rfl))) ?_
  intro W base args ds gs before hval0 hW hcnd hsz0 hL _
  have hsz : (DataW.weightsEach Tryz.prog (Tryz.f3.params.toList ++ Rows.fnListConnectedSpec.plain.varTypes Tryz.prog) (ds ++ gs)).all (· ≤ reachBytes) = true := hsz0
  have hval : ∀ (j : Nat) t v, Tryz.f3.params[j]? = some t → args[j]? = some v → Value.okWide Tryz.prog W .any base t v := hval0
  have hW' := hW
  obtain ⟨p, q, hA0, hV, rfl, hfz, hnd⟩ := hW
  have hA : DataW.TrodAll enc Tryz.prog W 0 (fun _ => true) true Tryz.f3.params.toList args.toList ds p := hA0
  rw [Tryz.params3] at hA hval hsz
  obtain ⟨v0, vs0, d0, ds0, p0, q0, hargs, rfl, rfl, h0, r0⟩ := trodAll_cons hA
  obtain ⟨v1, vs1, d1, ds1, p1, q1, rfl, rfl, rfl, h1, r1⟩ := trodAll_cons r0
  obtain ⟨rfl, rfl, rfl⟩ := trodAll_nil r1
  obtain rfl : args = #[v0, v1] := by cases args; simp_all
  obtain ⟨rfl, rfl⟩ := trodVars_none hV
  have k0 := h0
  have lt0 : ∀ x ∈ p0, x.block < W.heap.size := by obtain ⟨m, hm⟩ := k0; exact DataW.trod_lt m _ _ _ hm
  obtain ⟨a0, len0, cap0, rfl⟩ := okWide_slice Tryz.underlying22 (hval 0 22 v0 rfl rfl)
  obtain ⟨x0, w0⟩ := args_LsItem k0
  obtain ⟨a1, rfl, rfl, rfl, w1⟩ := open_int Tryz.underlying5 (hval 1 5 v1 rfl rfl) h1
  clear hA0 hval0 hsz0 hsz
  refine (lawConn a0 len0 cap0 x0 a1 W w0 (wf_u8 w1)).mono fun e W' ⟨he, bel⟩ => ?_
  subst he
  exact ⟨_, rfl, _, _, _, [], _, [], hW', trodAll_mk1 (shut_bool Tryz.underlying4 _), (trodAll_cons_mk (Below.trod laidOut (by kernel_rfl) (of_decide_eq_true (by kernel_rfl)) k0 bel lt0) (trodAll_cons_mk (shut_int Tryz.underlying5 w1) trodAll_mk0)), rfl, bel.frame _, fun h => by cases h⟩
theorem over : Rows.fnListConnectedRow.holds Tryz.pinned (OpenSpec.ofChange Rows.fnListConnectedSpec) :=
  OpenClaim.holds_of_wide 3 Tryz.f3 rfl rfl rfl rfl rfl rfl rfl ⟨rfl, rfl, rfl, rfl, rfl⟩ rfl rfl rfl rfl rfl (by kernel_rfl) Tryz.func3 (by kernel_rfl)
    (of_decide_eq_true (by kernel_rfl)) (by unfold Func.isWrapper; first | (rw [if_pos (by decide +kernel)]; kernel_rfl) | (rw [if_neg (by decide +kernel)]; exact ⟨rfl, rfl⟩))
    (fun os started H enc _ => lifted os started H enc)
theorem said : Rows.FnListConnectedSaid := over
theorem plain (f : FuncId) (fn : Func) (hf : Tryz.pinned.checked.prog.funcNamed "pub-pinstripe/laws.FnListConnected" = some f) (hfn : Tryz.pinned.checked.prog.funcs[f]? = some fn) :
    true = Tryz.pinned.checked.prog.looks [] ∧ ∀ (j : Nat) t, fn.params[j]? = some t → Tryz.pinned.checked.prog.wantsStandIn t = false := by
  obtain rfl : f = 3 := Option.some.inj ((show Tryz.prog.funcNamed "pub-pinstripe/laws.FnListConnected" = some 3 by kernel_rfl).symm.trans hf) |>.symm
  obtain rfl : fn = Tryz.f3 := (Option.some.inj (Tryz.func3.symm.trans hfn)).symm
  refine ⟨by kernel_rfl, fun j t ht => ?_⟩
  rw [Tryz.params3] at ht
  have hm : t ∈ [22, 5] := by simpa using Array.mem_of_getElem? ht
  have hall : ([22, 5].all fun u => !Tryz.prog.wantsStandIn u) = true := by kernel_rfl
  exact (show Tryz.prog.wantsStandIn t = false by simpa using List.all_eq_true.1 hall t hm)
theorem card : Rows.FnListConnectedCardSaid :=
  Claim7.holds_tied_plain_at .later [] _ _ _ _ said (fun _ h => by cases h) (by kernel_rfl) (fun _ h => by cases h) fnListConnected_row_tie rfl ⟨rfl, rfl⟩ (by kernel_rfl) rfl plain (by kernel_rfl)
#print axioms card
end Go.Proofs.YthdkbokdikhojaaGreatDoor.fnListConnected
namespace Go.Proofs.YthdkbokdikhojaaGreatDoor
theorem fnListConnected_holds : Rows.FnListConnectedCardSaid := fnListConnected.card
end Go.Proofs.YthdkbokdikhojaaGreatDoor
