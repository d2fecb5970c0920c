/- The row of FnListNewline: the law answers true for every input, and each argument reads afterwards as it read before: the tied card: the listed package variables start as the program text lays them. No other conditions. -/
import Derived.Test.YthdkbokdikhojaaDoorCards
import Derived.Test.YthdkbokdikhojaaDoorTie
import Derived.Test.YthdkbokdikhojaaDoorLsP
import Derived.Test.YthdkbokdikhojaaDoorBase
import Derived.WalkKit
import Derived.ProofKit
import Derived.OpenShut
import Derived.ShutString
import Derived.ChangeOld
import Derived.Below
import Derived.SizedLaws
import Derived.LaidMore
import Derived.Lay
import Derived.SevenTiedAt
import Derived.Stop.Joined
namespace Go.Proofs.YthdkbokdikhojaaDoor.fnListNewline
open Go.ChangeShapes Go.WideShapes Go.ChangeAt Go.RowKit
open Go.ChangeMaps (open_string shut_string)
set_option linter.unusedVariables false
theorem own : ownKnob Tryd.prog.godebug = none := by kernel_rfl
theorem laidOut : laidOutB Tryd.prog = true := by kernel_rfl
set_option maxRecDepth 100000 in
theorem lifted (os : Os) (started : os.Started) (H : Type) (enc : TypeId × Value → H) :
    ReturnsInHanded {} Tryd.checked os 4 .any (fun w args => (Rows.fnListNewlineSpec.pre enc Tryd.prog Tryd.f4 [] false w args ∧ laidMetH Tryd.prog Rows.fnListNewlineRow.laid w) ∧ sizedMet enc Tryd.prog Tryd.f4 (OpenSpec.ofChange Rows.fnListNewlineSpec) false w args) (Rows.fnListNewlineSpec.post enc Tryd.prog Tryd.f4 false true false false) := by
  refine returnsInHanded_of_change_and (C := Tryd.checked) (X := fun w _ => laidMetH Tryd.prog Rows.fnListNewlineRow.laid w) (fun _ _ _ hh h => h.of_heap hh) own started (by kernel_rfl) Tryd.func4
    (ChangeSpec.witness_shaped (enc := enc) (C := Tryd.checked) (os := os) (X := fun w _ => laidMetH Tryd.prog Rows.fnListNewlineRow.laid w) false (World.laidAll Tryd.prog os Rows.fnListNewlineRow.laid) #[.string ByteArray.empty, .string ByteArray.empty, .agg #[.int .i64 0, .string ByteArray.empty, .string ByteArray.empty, .string ByteArray.empty, .string ByteArray.empty, .string ByteArray.empty, .string ByteArray.empty, .string ByteArray.empty, .string ByteArray.empty], .string ByteArray.empty] 8 (World.laidAll_os _ _ _)
      (World.shaped_of_ZipB (by kernel_rfl) (by kernel_rfl)) (by kernel_rfl) (by kernel_rfl) (by kernel_rfl)
      (by rw [MakeChecks.laidMetH_plain _ _ _ (by kernel_rfl)]; exact laidMet_laidAll _ (by kernel_rfl) (by kernel_rfl))) ?_
  intro W base args ds gs before hval0 hW hcnd hsz0 hL _
  have hsz : (DataW.weightsEach Tryd.prog (Tryd.f4.params.toList ++ Rows.fnListNewlineSpec.plain.varTypes Tryd.prog) (ds ++ gs)).all (· ≤ reachBytes) = true := hsz0
  have hval : ∀ (j : Nat) t v, Tryd.f4.params[j]? = some t → args[j]? = some v → Value.okWide Tryd.prog W .any base t v := hval0
  have hW' := hW
  obtain ⟨p, q, hA0, hV, rfl, hfz, hnd⟩ := hW
  have hA : DataW.TrodAll enc Tryd.prog W 0 (fun _ => true) true Tryd.f4.params.toList args.toList ds p := hA0
  rw [Tryd.params4] at hA hval hsz
  obtain ⟨v0, vs0, d0, ds0, p0, q0, hargs, rfl, rfl, h0, r0⟩ := trodAll_cons hA
  obtain ⟨v1, vs1, d1, ds1, p1, q1, rfl, rfl, rfl, h1, r1⟩ := trodAll_cons r0
  obtain ⟨v2, vs2, d2, ds2, p2, q2, rfl, rfl, rfl, h2, r2⟩ := trodAll_cons r1
  obtain ⟨v3, vs3, d3, ds3, p3, q3, rfl, rfl, rfl, h3, r3⟩ := trodAll_cons r2
  obtain ⟨rfl, rfl, rfl⟩ := trodAll_nil r3
  obtain rfl : args = #[v0, v1, v2, v3] := by cases args; simp_all
  obtain ⟨rfl, rfl⟩ := trodVars_none hV
  obtain ⟨a0, rfl, rfl, rfl, y0⟩ := open_string Tryd.underlying9 (hval 0 9 v0 rfl rfl) h0
  have w0 : a0.size ≤ 140737488351232 := by
    have z := sized_string hsz (j := 0) (t := 9) rfl rfl
    rw [Array.length_toList] at z
    exact z
  obtain ⟨a1, rfl, rfl, rfl, y1⟩ := open_string Tryd.underlying9 (hval 1 9 v1 rfl rfl) h1
  have w1 : a1.size ≤ 140737488351232 := by
    have z := sized_string hsz (j := 1) (t := 9) rfl rfl
    rw [Array.length_toList] at z
    exact z
  have k2 := h2
  have lt2 : ∀ x ∈ p2, x.block < W.heap.size := by obtain ⟨m, hm⟩ := k2; exact DataW.trod_lt m _ _ _ hm
  obtain ⟨cs2, ys2, n2, rfl, lc2, rfl, ly2, f2⟩ := open_cells Tryd.underlying24 (by kernel_rfl) (by kernel_rfl) (hval 2 24 v2 rfl rfl) h2
  obtain ⟨c2_0, c2_1, c2_2, c2_3, c2_4, c2_5, c2_6, c2_7, c2_8, rfl⟩ := list_of_len9 lc2
  obtain ⟨z2_0, z2_1, z2_2, z2_3, z2_4, z2_5, z2_6, z2_7, z2_8, rfl⟩ := list_of_len9 ly2
  obtain ⟨a2_0, e2_0, g2_0, w2_0⟩ := DataW.trod_int Tryd.underlying3 (f2 0 _ _ _ rfl rfl rfl)
  simp only [List.cons.injEq, and_true] at e2_0
  subst e2_0
  obtain ⟨a2_1, e2_1, g2_1, w2_1⟩ := DataW.trod_string Tryd.underlying9 (f2 1 _ _ _ rfl rfl rfl)
  simp only [List.cons.injEq, and_true] at e2_1
  subst e2_1
  obtain ⟨a2_2, e2_2, g2_2, w2_2⟩ := DataW.trod_string Tryd.underlying9 (f2 2 _ _ _ rfl rfl rfl)
  simp only [List.cons.injEq, and_true] at e2_2
  subst e2_2
  obtain ⟨a2_3, e2_3, g2_3, w2_3⟩ := DataW.trod_string Tryd.underlying9 (f2 3 _ _ _ rfl rfl rfl)
  simp only [List.cons.injEq, and_true] at e2_3
  subst e2_3
  obtain ⟨a2_4, e2_4, g2_4, w2_4⟩ := DataW.trod_string Tryd.underlying9 (f2 4 _ _ _ rfl rfl rfl)
  simp only [List.cons.injEq, and_true] at e2_4
  subst e2_4
  obtain ⟨a2_5, e2_5, g2_5, w2_5⟩ := DataW.trod_string Tryd.underlying9 (f2 5 _ _ _ rfl rfl rfl)
  simp only [List.cons.injEq, and_true] at e2_5
  subst e2_5
  obtain ⟨a2_6, e2_6, g2_6, w2_6⟩ := DataW.trod_string Tryd.underlying9 (f2 6 _ _ _ rfl rfl rfl)
  simp only [List.cons.injEq, and_true] at e2_6
  subst e2_6
  obtain ⟨a2_7, e2_7, g2_7, w2_7⟩ := DataW.trod_string Tryd.underlying9 (f2 7 _ _ _ rfl rfl rfl)
  simp only [List.cons.injEq, and_true] at e2_7
  subst e2_7
  obtain ⟨a2_8, e2_8, g2_8, w2_8⟩ := DataW.trod_string Tryd.underlying9 (f2 8 _ _ _ rfl rfl rfl)
  simp only [List.cons.injEq, and_true] at e2_8
  subst e2_8
  obtain ⟨a3, rfl, rfl, rfl, y3⟩ := open_string Tryd.underlying9 (hval 3 9 v3 rfl rfl) h3
  have w3 : a3.size ≤ 140737488351232 := by
    have z := sized_string hsz (j := 3) (t := 9) rfl rfl
    rw [Array.length_toList] at z
    exact z
  clear hA0 hval0 hsz0 hsz
  refine (lawNewline a0 a1 a2_0 a2_1 a2_2 a2_3 a2_4 a2_5 a2_6 a2_7 a2_8 a3 W w0 w1 (wf_i64 w2_0) w2_1 w2_2 w2_3 w2_4 w2_5 w2_6 w2_7 w2_8 w3).mono fun e W' ⟨he, bel⟩ => ?_
  subst he
  exact ⟨_, rfl, _, _, _, [], _, [], hW', trodAll_mk1 (shut_bool Tryd.underlying4 _), (trodAll_cons_mk (shut_string Tryd.underlying9 y0) (trodAll_cons_mk (shut_string Tryd.underlying9 y1) (trodAll_cons_mk (Below.trod laidOut (by kernel_rfl) (of_decide_eq_true (by kernel_rfl)) k2 bel lt2) (trodAll_cons_mk (shut_string Tryd.underlying9 y3) trodAll_mk0)))), rfl, bel.frame _, fun h => by cases h⟩
theorem over : Rows.fnListNewlineRow.holds Tryd.pinned (OpenSpec.ofChange Rows.fnListNewlineSpec) :=
  OpenClaim.holds_of_wide 4 Tryd.f4 rfl rfl rfl rfl rfl rfl rfl ⟨rfl, rfl, rfl, rfl, rfl⟩ rfl rfl rfl rfl rfl (by kernel_rfl) Tryd.func4 (by kernel_rfl)
    (of_decide_eq_true (by kernel_rfl)) (by unfold Func.isWrapper; first | (rw [if_pos (by decide +kernel)]; kernel_rfl) | (rw [if_neg (by decide +kernel)]; exact ⟨rfl, rfl⟩))
    (fun os started H enc _ => lifted os started H enc)
theorem said : Rows.FnListNewlineSaid := over
theorem plain (f : FuncId) (fn : Func) (hf : Tryd.pinned.checked.prog.funcNamed "pub-pinstripe/laws.FnListNewline" = some f) (hfn : Tryd.pinned.checked.prog.funcs[f]? = some fn) :
    true = Tryd.pinned.checked.prog.looks [] ∧ ∀ (j : Nat) t, fn.params[j]? = some t → Tryd.pinned.checked.prog.wantsStandIn t = false := by
  obtain rfl : f = 4 := Option.some.inj ((show Tryd.prog.funcNamed "pub-pinstripe/laws.FnListNewline" = some 4 by kernel_rfl).symm.trans hf) |>.symm
  obtain rfl : fn = Tryd.f4 := (Option.some.inj (Tryd.func4.symm.trans hfn)).symm
  refine ⟨by kernel_rfl, fun j t ht => ?_⟩
  rw [Tryd.params4] at ht
  have hm : t ∈ [9, 9, 24, 9] := by simpa using Array.mem_of_getElem? ht
  have hall : ([9, 9, 24, 9].all fun u => !Tryd.prog.wantsStandIn u) = true := by kernel_rfl
  exact (show Tryd.prog.wantsStandIn t = false by simpa using List.all_eq_true.1 hall t hm)
theorem card : Rows.FnListNewlineCardSaid :=
  Claim7.holds_tied_plain_at .later [] _ _ _ _ said (fun _ h => by cases h) (by kernel_rfl) (fun _ h => by cases h) fnListNewline_row_tie rfl ⟨rfl, rfl⟩ (by kernel_rfl) rfl plain (by kernel_rfl)
#print axioms card
end Go.Proofs.YthdkbokdikhojaaDoor.fnListNewline
namespace Go.Proofs.YthdkbokdikhojaaDoor
theorem fnListNewline_holds : Rows.FnListNewlineCardSaid := fnListNewline.card
end Go.Proofs.YthdkbokdikhojaaDoor
