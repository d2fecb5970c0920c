/- The row of FnTextFormatStrip: the law answers true for every input, and each argument reads afterwards as it read before: the tied card: the listed package variables start as the program text lays them. What it reads is of bulk at most 1048576. No other conditions. -/
import Derived.Test.YtmllpoafjcldgaaDoorCards
import Derived.Test.YtmllpoafjcldgaaDoorTie
import Derived.Test.YtmllpoafjcldgaaDoorFsS
import Derived.Test.YtmllpoafjcldgaaDoorBase
import Derived.Test.YtmllpoafjcldgaaDoorSjL
import Derived.Test.YtmllpoafjcldgaaDoorSjArg
import Derived.Test.YtmllpoafjcldgaaDoorFsA
import Derived.Test.YtmllpoafjcldgaaDoorFsT
import Derived.WalkKit
import Derived.ProofKit
import Derived.OpenShut
import Derived.ShutString
import Derived.ChangeOld
import Derived.Below
import Derived.SizedLaws
import Derived.LaidMore
import Derived.Lay
import Derived.SevenTiedAt
import Derived.Stop.Joined
import Derived.Deep.DeepHandedRow
namespace Go.Proofs.YtmllpoafjcldgaaDoor.fnTextFormatStrip
open Go.ChangeShapes Go.WideShapes Go.ChangeAt Go.RowKit
open Go.ChangeMaps (open_string shut_string)
set_option linter.unusedVariables false
theorem own : ownKnob Tryd.prog.godebug = none := by kernel_rfl
theorem laidOut : laidOutB Tryd.prog = true := by kernel_rfl
theorem reads (os : Os) {H : Type} (enc : TypeId × Value → H) : ∃ places, DataW.whole enc Tryd.prog ((World.laidAll Tryd.prog os Rows.fnTextFormatStripUptoRow.laid).forCall (fun _ _ => 0) ⟨#[], #[.bool false, .slice none 0 0], []⟩).memory Tryd.f3.params.toList Rows.fnTextFormatStripSpec.vars false (#[.bool false, .slice none 0 0] : Array Value).toList 8 = some ([.lit (.bool false), .nil], [], places) := ⟨[], by kernel_rfl⟩
set_option maxRecDepth 100000 in
theorem lifted (os : Os) (started : os.Started) (H : Type) (enc : TypeId × Value → H) (F : Stop.Interp) :
    ReturnsInHanded {} Tryd.checked os 3 .any ((Rows.OpenSpec.upto Rows.fnTextFormatStripSpec).preRow enc Tryd.prog Tryd.f3 Rows.fnTextFormatStripUptoRow.domain false Rows.fnTextFormatStripUptoRow.laid) (((Rows.OpenSpec.upto Rows.fnTextFormatStripSpec).at F).post enc Tryd.prog Tryd.f3 false true false false) := by
  obtain ⟨places, hx⟩ := reads os enc
  have hok : Input.okWideB Tryd.prog ((World.laidAll Tryd.prog os Rows.fnTextFormatStripUptoRow.laid).forCall (fun _ _ => 0) ⟨#[], #[.bool false, .slice none 0 0], []⟩) 3 ⟨#[], #[.bool false, .slice none 0 0], []⟩ = true := by kernel_rfl
  refine returnsInHanded_of_row (C := Tryd.checked) (s := Rows.OpenSpec.upto Rows.fnTextFormatStripSpec) own started (by kernel_rfl) Tryd.func3
    ⟨(World.laidAll Tryd.prog os Rows.fnTextFormatStripUptoRow.laid), fun _ _ => 0, ⟨#[], #[.bool false, .slice none 0 0], []⟩, World.laidAll_os _ _ _, World.shaped_of_ZipB (by kernel_rfl) (by kernel_rfl), (Input.okWide_of_okWideB (base := 0) hok).1,
      (Input.okWide_of_okWideB hok).2,
      OpenSpec.preRow_of_cond 8 hx (by kernel_rfl) (fun k hk => by cases hk; kernel_rfl) (by kernel_rfl) (by rw [MakeChecks.laidMetH_plain _ _ _ (by kernel_rfl)]; exact laidMet_laidAll _ (by kernel_rfl) (by kernel_rfl)),
      by simp only [Assume.holds]; exact ⟨by simp, by simp, fun _ => Modest.zero, by simp, by simp⟩⟩ ?_
  intro W base args ds gs before hval0 hW hcnd hk0 hsz0 hL _ _
  have hval : ∀ (j : Nat) t v, Tryd.f3.params[j]? = some t → args[j]? = some v → Value.okWide Tryd.prog W .any base t v := hval0
  have hW' := hW
  obtain ⟨p, q, hA0, hV, rfl, hfz, hnd⟩ := hW
  have hA : DataW.TrodAll enc Tryd.prog W 0 (fun _ => true) true Tryd.f3.params.toList args.toList ds p := hA0
  rw [Tryd.params3] at hA hval
  obtain ⟨v0, vs0, d0, ds0, p0, q0, hargs, rfl, rfl, h0, r0⟩ := trodAll_cons hA
  obtain ⟨v1, vs1, d1, ds1, p1, q1, rfl, rfl, rfl, h1, r1⟩ := trodAll_cons r0
  obtain ⟨rfl, rfl, rfl⟩ := trodAll_nil r1
  obtain rfl : args = #[v0, v1] := by cases args; simp_all
  obtain ⟨rfl, rfl⟩ := trodVars_none hV
  obtain ⟨a0, rfl, rfl, rfl⟩ := open_bool Tryd.underlying4 (hval 0 4 v0 rfl rfl) h0
  have k1 := h1
  have lt1 : ∀ x ∈ p1, x.block < W.heap.size := by obtain ⟨m, hm⟩ := k1; exact DataW.trod_lt m _ _ _ hm
  obtain ⟨a1, len1, cap1, rfl⟩ := okWide_slice Tryd.underlying22 (hval 1 22 v1 rfl rfl)
  obtain ⟨x1, w1, bl1, bx1⟩ := args_TxPieceB k1
  clear hA0 hval0 hsz0
  have hk1 := of_decide_eq_true (hk0 _ rfl)
  refine (lawFs a0 a1 len1 cap1 x1 W w1 (small_of w1 bl1 bx1 (by have := bulk_part (d := d1) (l := [.lit (.bool a0), d1] ++ []) (by simp); omega)) (pows_of (l := Rows.fnTextFormatStripUptoRow.laid) (by have h := hL; rw [MakeChecks.laidMetH_plain _ _ _ (by kernel_rfl)] at h; exact h) (List.mem_of_getElem? (i := 2) rfl)) (tabs_of (l := Rows.fnTextFormatStripUptoRow.laid) (by have h := hL; rw [MakeChecks.laidMetH_plain _ _ _ (by kernel_rfl)] at h; exact h) (List.mem_of_getElem? (i := 3) rfl) (List.mem_of_getElem? (i := 6) rfl) (List.mem_of_getElem? (i := 9) rfl))).mono fun e W' ⟨he, bel⟩ => ?_
  subst he
  exact ⟨_, rfl, _, _, _, [], _, [], hW', trodAll_mk1 (shut_bool Tryd.underlying4 _), (trodAll_cons_mk (shut_bool Tryd.underlying4 _) (trodAll_cons_mk (Below.trod laidOut (by kernel_rfl) (of_decide_eq_true (by kernel_rfl)) k1 bel lt1) trodAll_mk0)), rfl, bel.frame _, fun h => by cases h⟩
theorem said : Rows.FnTextFormatStripUptoSaid :=
  OpenClaim.holds_of_cond 3 Tryd.f3 rfl rfl rfl rfl rfl rfl rfl ⟨rfl, rfl, rfl, rfl, rfl⟩ rfl rfl rfl rfl rfl (by kernel_rfl) Tryd.func3 (by kernel_rfl)
    (of_decide_eq_true (by kernel_rfl)) (by unfold Func.isWrapper; first | (rw [if_pos (by decide +kernel)]; kernel_rfl) | (rw [if_neg (by decide +kernel)]; exact ⟨rfl, rfl⟩))
    (fun os started H enc _ F => by rw [OpenClaim.pre_eq_preRow]; exact lifted os started H enc F)
theorem plain (f : FuncId) (fn : Func) (hf : Tryd.pinned.checked.prog.funcNamed "pub-pinstripe/laws.FnTextFormatStrip" = some f) (hfn : Tryd.pinned.checked.prog.funcs[f]? = some fn) :
    false = Tryd.pinned.checked.prog.looks [] ∧ ∀ (j : Nat) t, fn.params[j]? = some t → Tryd.pinned.checked.prog.wantsStandIn t = false := by
  obtain rfl : f = 3 := Option.some.inj ((show Tryd.prog.funcNamed "pub-pinstripe/laws.FnTextFormatStrip" = some 3 by kernel_rfl).symm.trans hf) |>.symm
  obtain rfl : fn = Tryd.f3 := (Option.some.inj (Tryd.func3.symm.trans hfn)).symm
  refine ⟨by kernel_rfl, fun j t ht => ?_⟩
  rw [Tryd.params3] at ht
  have hm : t ∈ [4, 22] := by simpa using Array.mem_of_getElem? ht
  have hall : ([4, 22].all fun u => !Tryd.prog.wantsStandIn u) = true := by kernel_rfl
  exact (show Tryd.prog.wantsStandIn t = false by simpa using List.all_eq_true.1 hall t hm)
theorem card : Rows.FnTextFormatStripUptoCardSaid :=
  Claim7.holds_tied_plain_at .later [] _ _ _ _ said (fun _ h => by cases h) (by kernel_rfl) (fun _ h => by cases h) fnTextFormatStripUpto_row_tie rfl ⟨rfl, rfl⟩ (by kernel_rfl) rfl plain (by kernel_rfl)
#print axioms card
end Go.Proofs.YtmllpoafjcldgaaDoor.fnTextFormatStrip
namespace Go.Proofs.YtmllpoafjcldgaaDoor
theorem fnTextFormatStripUpto_holds : Rows.FnTextFormatStripUptoCardSaid := fnTextFormatStrip.card
end Go.Proofs.YtmllpoafjcldgaaDoor
