/- The reference's cache: Step, whatever is called. At most 100000 entries, each key once. -/
import Derived.Test.YtnggdeggcflodaaLr10
import Derived.Laws.CopyOwn
namespace Go.Proofs.Ytnggdeggcflodaa
open Go.RowKit Go.MapKept
set_option linter.unusedVariables false
theorem wpList_putrow {P : Program} {w : World} {b : Nat} {t : TypeId} {cs ds : Array Value} {ops : Array Oper} {rest : List Oper} {a : Act} {Q : Exit → Act → World → Prop} {ty t2 : TypeId} {x y : Operand} {ps : String} {af : Array Edge} (h : Blk w b t cs)
    (hx : a.eval x = .pointer (some ⟨b, 0, none⟩)) (hy : a.eval y = .agg ds) (hs : cs.size = ds.size) (h1 : ds.all (·.oneCell') = true) (hi : (P.info? ty).map (·.size) = some ds.size)
    (hK : ∀ w', Blk w' b t ds → Put w w' b → wpList P ops Q rest (a.put none undef) w') : wpList P ops Q (⟨none, .store ty x y, t2, ps, af, none⟩ :: rest) a w :=
  wpList_store_row rfl ty x y rfl b ds hx hy t cs h hi hs h1 (hK _ (setRow_heap w b cs ds t (0, 0) h) ⟨⟨rfl, rfl, rfl, by simp, fun k _ hk => setRow_other w b k ds (fun e => hk (by rw [e]))⟩, by simp⟩)
theorem Put.trans {a b c : World} {k : Nat} (h : Put a b k) (h2 : Put b c k) : Put a c k :=
  ⟨⟨h2.grown.os.trans h.grown.os, h2.grown.tape.trans h.grown.tape, h2.grown.output.trans h.grown.output, by rw [h2.size, h.size]; exact Nat.le_refl _, fun q hq hne => (h2.grown.block q (by rw [h.size]; exact hq) hne).trans (h.grown.block q hq hne)⟩, h2.size.trans h.size⟩
theorem set6 {w : World} {b : Nat} {t : TypeId} {x0 x1 x2 x3 x4 x5 : Value} (h : Blk w b t #[x0, x1, x2, x3, x4, x5]) (v0 v1 v2 v3 v4 v5 : Value) :
    Blk ((((((w.setCell ⟨b, 0, none⟩ v0).setCell ⟨b, 1, none⟩ v1).setCell ⟨b, 2, none⟩ v2).setCell ⟨b, 3, none⟩ v3).setCell ⟨b, 4, none⟩ v4).setCell ⟨b, 5, none⟩ v5) b t #[v0, v1, v2, v3, v4, v5] ∧
      Put w ((((((w.setCell ⟨b, 0, none⟩ v0).setCell ⟨b, 1, none⟩ v1).setCell ⟨b, 2, none⟩ v2).setCell ⟨b, 3, none⟩ v3).setCell ⟨b, 4, none⟩ v4).setCell ⟨b, 5, none⟩ v5) b :=
  ⟨(((((h.set 0 v0).set 1 v1).set 2 v2).set 3 v3).set 4 v4).set 5 v5, (((((put_set w b 0 v0).trans (put_set _ b 1 v1)).trans (put_set _ b 2 v2)).trans (put_set _ b 3 v3)).trans (put_set _ b 4 v4)).trans (put_set _ b 5 v5)⟩
theorem run_store_float {P : Program} {w : World} {a : Addr} {m : Mode} (k : FloatKind) (n : Nat) : (store a (.float k n) m).run P w = stored P w a (.float k n) m := run_store P w a _ m rfl
attribute [local go_sem] run_store_float
abbrev outZ : Array Value := #[.bool false, .int .i64 0, .int .i64 0, .float .f64 0, .bool false, .slice none 0 0]
theorem infoO : (Try.prog.info? tO).map (·.size) = some 6 := by kernel_rfl
theorem infoS : (Try.prog.info? tS).map (·.size) = some 4 := by kernel_rfl
theorem infoPP : (Try.prog.info? tP).map (·.size) = some 2 := by kernel_rfl
def stepE (n : Nat) (d k v : Int) (E : List (Int × Int)) : List (Int × Int) :=
  if d = 0 then putE n k v E else if d = 1 then getE k E else if d = 2 then compE n k v E else if d = 3 then outE k E else if d = 4 then E.tail else if d = 5 then [] else E
theorem Spc.alloc {w : World} {B cb n : Nat} {E : List (Int × Int)} (h : Spc w B cb n E) (o : Obj) : Spc (w.alloc o) B cb n E := by
  obtain ⟨v, h1, h2, r, h⟩ := h
  exact ⟨v, h1, h2, r.alloc o, h⟩
theorem Spc.drewN {w : World} {B cb n : Nat} {E : List (Int × Int)} (h : Spc w B cb n E) (q : Nat) : Spc (w.drewN q) B cb n E := by
  obtain ⟨v, h1, h2, r, h⟩ := h
  exact ⟨v, h1, h2, r.drewN q, h⟩
theorem Spc.lt {w : World} {B cb n : Nat} {E : List (Int × Int)} (h : Spc w B cb n E) : B ≤ w.heap.size := by
  obtain ⟨v, h1, h2, r, h⟩ := h
  exact r.lt
theorem SpcR.put_o {w w' : World} {B cb b : Nat} {n h1 h2 : Int} {v : Value} {E : List (Int × Int)} {cs : Array Value} {t : TypeId} (h : SpcR w B cb n h1 h2 v E) (hp : Put w w' b) (hb : Blk w b t cs) (h3 : t ≠ tS) (h4 : t ≠ tP) : SpcR w' B cb n h1 h2 v E := by
  refine ⟨hp.blk h.blk (Ne.symm (hb.type_ne h.blk h3)), h.row.kept hp.grown ?_, h.Bc⟩
  by_cases hn : v.ownBlock = none
  · exact .inl hn
  · refine .inr fun e => ?_
    rcases h.row.2 with ⟨rfl, _⟩ | ⟨g, cap, cur, rfl, _, hgb, _⟩
    · simp [Value.ownBlock] at e
    · simp [Value.ownBlock] at e
      exact Blk.type_ne hb (show Blk w g tP cur from hgb) h4 e.symm
theorem Spc.put_o {w w' : World} {B cb n b : Nat} {E : List (Int × Int)} {cs : Array Value} {t : TypeId} (h : Spc w B cb n E) (hp : Put w w' b) (hb : Blk w b t cs) (h3 : t ≠ tS) (h4 : t ≠ tP) : Spc w' B cb n E := by
  obtain ⟨v, h1, h2, r, h⟩ := h
  exact ⟨v, h1, h2, r.put_o hp hb h3 h4, h⟩
theorem Sx.putnew {B b : Nat} {a w w' : World} (h : Sx B a w) (hp : Put w w' b) (hB : B ≤ w.heap.size) (hBa : B ≤ a.heap.size) (hb : a.heap.size ≤ b) : Sx B a w' :=
  ⟨hp.below h.below hB (by omega), fun k ds t hk h3 h4 => hp.blk (h.keep k ds t hk h3 h4) (by have := hk.lt; omega)⟩
/-- Inside Step: the call in block s, what it gives in block s + 1. -/
structure Ins (w W : World) (B cb n : Nat) (E : List (Int × Int)) (d k v : Int) : Prop where
  spc : Spc W B cb n E
  x : Blk W w.heap.size tX #[.int .i64 d, .int .i64 k, .int .i64 v]
  o : Blk W (w.heap.size + 1) tO outZ
  sx : Sx B w W
theorem ins_start {w : World} {B cb n : Nat} {E : List (Int × Int)} (h : Spc w B cb n E) (d k v : Int) : Ins w ((w.alloc (.cells #[.int .i64 d, .int .i64 k, .int .i64 v] tX)).alloc (.cells outZ tO)) B cb n E d k v :=
  ⟨(h.alloc _).alloc _, (Blk.new w tX _).alloc _, by have := Blk.new (w.alloc (.cells #[.int .i64 d, .int .i64 k, .int .i64 v] tX)) tO outZ; rw [World.size_alloc] at this; exact this, ((Sx.refl B w).alloc h.lt _).alloc (by have := h.lt; simp; omega) _⟩
theorem Ins.next {w W W' : World} {B cb n : Nat} {E E' : List (Int × Int)} {d k v : Int} (h : Ins w W B cb n E d k v) (h2 : Spc W' B cb n E') (h3 : Sx B W W') : Ins w W' B cb n E' d k v :=
  ⟨h2, h3.keep _ _ _ h.x (by decide) (by decide), h3.keep _ _ _ h.o (by decide) (by decide), h.sx.trans h3⟩
def StepRet (B cb n : Nat) (E : List (Int × Int)) (w : World) (e : Ending) (w' : World) : Prop := (∃ v, e = .returned v) ∧ Spc w' B cb n E ∧ Sx B w w'
theorem Ins.fin {w W W' : World} {B cb n : Nat} {E : List (Int × Int)} {d k v : Int} (h : Ins w W B cb n E d k v) (hp : Put W W' (w.heap.size + 1)) (hB : B ≤ w.heap.size) : Spc W' B cb n E ∧ Sx B w W' :=
  ⟨h.spc.put_o hp h.o (by decide) (by decide), h.sx.putnew hp (by have := h.sx.below.size; omega) hB (by omega)⟩
theorem step_quo (w : World) {ops : Array Oper} {o : Oper} {a : Act} {K : Act → World → Prop} {Q : Exit → Act → World → Prop} {X : Prop} (hgd : o.guard = none) (s x : Operand) (t2 : TypeId)
    (ho : o.op = .binOp .quo 27 s x t2) (n1 n2 : Nat) (hs : a.eval s = .float .f64 n1) (hx : a.eval x = .float .f64 n2)
    (h : ∀ r q, K (a.put o.dst (.float .f64 r)) (w.drewN q)) : if Region.wanted o (yielded ops a.tmps) = true then Oper.wp Try.prog o a w K Q else X := by
  have hw : Region.wanted o (yielded ops a.tmps) = true := by simp [Region.wanted, hgd]
  rw [if_pos hw]
  obtain ⟨r, q, hq⟩ := run_quo n1 n2 w
  unfold Oper.wp execOp
  simp only [ho, hs, hx, eqGuard_at_float, Sem.run_bind, hq, Result.andThen_ok, Sem.run_pure]
  exact h r q
set_option maxHeartbeats 4000000 in
set_option maxRecDepth 100000 in
theorem step_0 (B cb n : Nat) (E : List (Int × Int)) (k v : Int) (w : World) (h : Spc w B cb n E) :
    Calls Try.prog 6 #[.pointer (some ⟨cb, 0, none⟩), .agg #[.int .i64 0, .int .i64 k, .int .i64 v]] w (StepRet B cb n (stepE n 0 k v E) w) := by
  have HB := Lib.hid h.lt
  have HI := Lib.hid (ins_start h 0 k v)
  clear h
  go_enter Try.func6, Try.ntmps6
  go_wp2_with (go_at_call 8; refine halt_L ?_)
  generalize hW : World.alloc (World.alloc _ _) _ = W at HI ⊢
  clear hW
  have x1 : W.cell? ⟨w.heap.size, 1, none⟩ = some (.int .i64 k) := HI.out.x.cell 1 rfl
  have x2 : W.cell? ⟨w.heap.size, 2, none⟩ = some (.int .i64 v) := HI.out.x.cell 2 rfl
  refine resume_L ?_
  refine (put_any B cb n E k v W HI.out.spc).mono ?_
  rintro e w2 ⟨⟨A, l, c, rfl⟩, h2, s2⟩
  have HJ := Lib.hid (HI.out.next h2 s2)
  clear x1 x2 h2 s2
  go_wp2_with ((with_reducible refine gate_st (t := 30) rfl ?_); refine halt_L ?_)
  refine resume_L ?_
  refine wpList_putrow HJ.out.o (ds := #[.bool (decide (0 < l)), .int .i64 0, .int .i64 0, .float .f64 0, .bool false, .slice A l c]) rfl rfl rfl (by simp [Value.oneCell']) infoO ?_
  intro wz hbz pz
  obtain ⟨rz, sz⟩ := HJ.out.fin pz HB.out
  go_wp2
  have ez : stepE n 0 k v E = putE n k v E := by simp [stepE]
  rw [← ez] at rz
  refine bodyPost_ret (v := .agg #[.bool (decide (0 < l)), .int .i64 0, .int .i64 0, .float .f64 0, .bool false, .slice A l c]) ?_ rfl ⟨⟨_, rfl⟩, rz, sz⟩
  exact results_cell_row rfl _ _ _ tO _ (0, 0) _ rfl hbz Try.underlying30 rfl (by kernel_rfl)
set_option maxHeartbeats 4000000 in
set_option maxRecDepth 100000 in
theorem step_1 (B cb n : Nat) (E : List (Int × Int)) (k v : Int) (w : World) (h : Spc w B cb n E) :
    Calls Try.prog 6 #[.pointer (some ⟨cb, 0, none⟩), .agg #[.int .i64 1, .int .i64 k, .int .i64 v]] w (StepRet B cb n (stepE n 1 k v E) w) := by
  have HB := Lib.hid h.lt
  have HI := Lib.hid (ins_start h 1 k v)
  clear h
  go_enter Try.func6, Try.ntmps6
  go_wp2_with (go_at_call 9; refine halt_L ?_)
  generalize hW : World.alloc (World.alloc _ _) _ = W at HI ⊢
  clear hW
  have x1 : W.cell? ⟨w.heap.size, 1, none⟩ = some (.int .i64 k) := HI.out.x.cell 1 rfl
  have x2 : W.cell? ⟨w.heap.size, 2, none⟩ = some (.int .i64 v) := HI.out.x.cell 2 rfl
  refine resume_L ?_
  refine (got_any B cb n E k W HI.out.spc).mono ?_
  rintro e w2 ⟨hcase, h2, s2⟩
  have HJ := Lib.hid (HI.out.next h2 s2)
  clear x1 x2 h2 s2
  rcases hcase with ⟨p, hp, rfl⟩ | ⟨hno, rfl⟩
  · go_wp2_with ((with_reducible refine gate_st (t := 30) rfl ?_); refine halt_L ?_)
    refine resume_L ?_
    refine wpList_putrow HJ.out.o (ds := #[.bool true, .int .i64 0, .int .i64 p.2, .float .f64 0, .bool false, .slice none 0 0]) rfl rfl rfl (by simp [Value.oneCell']) infoO ?_
    intro wz hbz pz
    obtain ⟨rz, sz⟩ := HJ.out.fin pz HB.out
    go_wp2
    have ez : stepE n 1 k v E = getE k E := by simp [stepE]
    rw [← ez] at rz
    refine bodyPost_ret (v := .agg #[.bool true, .int .i64 0, .int .i64 p.2, .float .f64 0, .bool false, .slice none 0 0]) ?_ rfl ⟨⟨_, rfl⟩, rz, sz⟩
    exact results_cell_row rfl _ _ _ tO _ (0, 0) _ rfl hbz Try.underlying30 rfl (by kernel_rfl)
  · go_wp2_with ((with_reducible refine gate_st (t := 30) rfl ?_); refine halt_L ?_)
    refine resume_L ?_
    refine wpList_putrow HJ.out.o (ds := #[.bool false, .int .i64 0, .int .i64 0, .float .f64 0, .bool false, .slice none 0 0]) rfl rfl rfl (by simp [Value.oneCell']) infoO ?_
    intro wz hbz pz
    obtain ⟨rz, sz⟩ := HJ.out.fin pz HB.out
    go_wp2
    have ez : stepE n 1 k v E = getE k E := by simp [stepE]
    rw [← ez] at rz
    refine bodyPost_ret (v := .agg #[.bool false, .int .i64 0, .int .i64 0, .float .f64 0, .bool false, .slice none 0 0]) ?_ rfl ⟨⟨_, rfl⟩, rz, sz⟩
    exact results_cell_row rfl _ _ _ tO _ (0, 0) _ rfl hbz Try.underlying30 rfl (by kernel_rfl)
set_option maxHeartbeats 4000000 in
set_option maxRecDepth 100000 in
theorem step_2 (B cb n : Nat) (E : List (Int × Int)) (k v : Int) (w : World) (h : Spc w B cb n E) :
    Calls Try.prog 6 #[.pointer (some ⟨cb, 0, none⟩), .agg #[.int .i64 2, .int .i64 k, .int .i64 v]] w (StepRet B cb n (stepE n 2 k v E) w) := by
  have HB := Lib.hid h.lt
  have HI := Lib.hid (ins_start h 2 k v)
  clear h
  go_enter Try.func6, Try.ntmps6
  go_wp2_with (go_at_call 9; refine halt_L ?_)
  generalize hW : World.alloc (World.alloc _ _) _ = W at HI ⊢
  clear hW
  have x1 : W.cell? ⟨w.heap.size, 1, none⟩ = some (.int .i64 k) := HI.out.x.cell 1 rfl
  have x2 : W.cell? ⟨w.heap.size, 2, none⟩ = some (.int .i64 v) := HI.out.x.cell 2 rfl
  refine resume_L ?_
  refine (got_any B cb n E k W HI.out.spc).mono ?_
  rintro e w2 ⟨hcase, h2, s2⟩
  have HJ := Lib.hid (HI.out.next h2 s2)
  clear x1 x2 h2 s2
  rcases hcase with ⟨p, hp, rfl⟩ | ⟨hno, rfl⟩
  · have HC := Lib.hid (show getE k E = compE n k v E by unfold getE compE; rw [hp])
    clear hp
    go_wp2_with ((with_reducible refine gate_st (t := 30) rfl ?_); refine halt_L ?_)
    refine resume_L ?_
    refine wpList_putrow HJ.out.o (ds := #[.bool false, .int .i64 0, .int .i64 p.2, .float .f64 0, .bool false, .slice none 0 0]) rfl rfl rfl (by simp [Value.oneCell']) infoO ?_
    intro wz hbz pz
    obtain ⟨rz, sz⟩ := HJ.out.fin pz HB.out
    go_wp2
    have ez : stepE n 2 k v E = getE k E := HC.out.symm
    rw [← ez] at rz
    refine bodyPost_ret (v := .agg #[.bool false, .int .i64 0, .int .i64 p.2, .float .f64 0, .bool false, .slice none 0 0]) ?_ rfl ⟨⟨_, rfl⟩, rz, sz⟩
    exact results_cell_row rfl _ _ _ tO _ (0, 0) _ rfl hbz Try.underlying30 rfl (by kernel_rfl)
  · have HG := Lib.hid (show getE k E = E by unfold getE; rw [find_pnone hno])
    have HC := Lib.hid (show putE n k v E = compE n k v E by unfold compE; rw [find_pnone hno])
    rw [HG.out] at HJ
    have x1 : w2.cell? ⟨w.heap.size, 1, none⟩ = some (.int .i64 k) := HJ.out.x.cell 1 rfl
    have x2 : w2.cell? ⟨w.heap.size, 2, none⟩ = some (.int .i64 v) := HJ.out.x.cell 2 rfl
    have HP := Lib.hid (put_any B cb n E k v w2.drew (HJ.out.spc.drewN 1))
    clear hno
    go_wp2_with fail
    go_region_law (first
      | (go_simp; go_at_call 8; (refine HP.out.mono ?_); rintro e w3 ⟨⟨A, l, c, rfl⟩, h3, s3⟩
         have HJ3 := Lib.hid (HJ.out.next h3 ((Sx.drewK B w2 1).trans s3))
         have y2 : w3.cell? ⟨w.heap.size, 2, none⟩ = some (.int .i64 v) := HJ3.out.x.cell 2 rfl
         have oc0 : w3.cell? ⟨w.heap.size + 1, 0, none⟩ = some (.bool false) := HJ3.out.o.cell 0 rfl; have of0 := HJ3.out.o.frozen 0; have oc1 : w3.cell? ⟨w.heap.size + 1, 1, none⟩ = some (.int .i64 0) := HJ3.out.o.cell 1 rfl; have of1 := HJ3.out.o.frozen 1; have oc2 : w3.cell? ⟨w.heap.size + 1, 2, none⟩ = some (.int .i64 0) := HJ3.out.o.cell 2 rfl; have of2 := HJ3.out.o.frozen 2; have oc3 : w3.cell? ⟨w.heap.size + 1, 3, none⟩ = some (.float .f64 0) := HJ3.out.o.cell 3 rfl; have of3 := HJ3.out.o.frozen 3; have oc4 : w3.cell? ⟨w.heap.size + 1, 4, none⟩ = some (.bool false) := HJ3.out.o.cell 4 rfl; have of4 := HJ3.out.o.frozen 4; have oc5 : w3.cell? ⟨w.heap.size + 1, 5, none⟩ = some (.slice none 0 0) := HJ3.out.o.cell 5 rfl; have of5 := HJ3.out.o.frozen 5
         clear h3 s3))
    all_goals
      obtain ⟨HZ, HPz⟩ := set6 HJ3.out.o (.bool false) (.int .i64 0) (.int .i64 v) (.float .f64 0) (.bool true) (.slice A l c)
      obtain ⟨rz, sz⟩ := HJ3.out.fin HPz HB.out
      clear oc0 of0 oc1 of1 oc2 of2 oc3 of3 oc4 of4 oc5 of5 y2
      generalize hwz : World.setCell _ _ _ = wz at *
      clear hwz
      go_wp2_with fail
      have ez : stepE n 2 k v E = putE n k v E := HC.out.symm
      rw [← ez] at rz
      refine bodyPost_ret (v := .agg #[.bool false, .int .i64 0, .int .i64 v, .float .f64 0, .bool true, .slice A l c]) ?_ rfl ⟨⟨_, rfl⟩, rz, sz⟩
      exact results_cell_row rfl _ _ _ tO _ (0, 0) _ rfl HZ Try.underlying30 rfl (by kernel_rfl)
end Go.Proofs.Ytnggdeggcflodaa
