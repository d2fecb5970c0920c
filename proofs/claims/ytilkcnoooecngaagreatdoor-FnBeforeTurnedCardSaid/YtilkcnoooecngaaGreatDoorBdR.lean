/- What listed tables read as, cell for cell: slices, structs, arrays of structs. In plain words, no conditions. -/
import Derived.Test.YtilkcnoooecngaaGreatDoorProg
import Derived.Lib.LaidU8
import Derived.Lib.LaidCase
import GoSem.PinnedTables
namespace Go.Proofs.YtilkcnoooecngaaGreatDoor
open Go.RowKit Go.Lib
set_option linter.unusedVariables false
section
variable {P : Program} {w : World}
theorem laid_place : ∀ {l : List (String × DataW Unit)} {ps : List MemPlace}, DataW.LaidVars P w l ps → ∀ n d, (n, d) ∈ l →
    ∃ g t cs fuel p, P.globalNamed n = some g ∧ (P.globals[g]?).map (·.type) = some t ∧ w.var? P n = some cs ∧ DataW.trod (fun _ => ()) P w 0 (fun _ => true) false fuel t cs.toList = some (d, p) ∧ ∀ i, i < cs.size → MemPlace.cell g i ∈ ps
  | [], _, _, _, _, hm => by cases hm
  | (n', d') :: r, ps, h, n, d, hm => by
    obtain ⟨g, t, cs, fuel, p, q, h1, h2, h3, h4, h5, h6⟩ := h
    rcases List.mem_cons.1 hm with e | e
    · cases e
      refine ⟨g, t, cs, fuel, p, h1, h2, h3, h4, fun i hi => ?_⟩
      rw [h6]
      refine List.mem_append_left _ (List.mem_append_left _ ?_)
      unfold MemPlace.row
      exact List.mem_map.2 ⟨i, List.mem_range.2 hi, by simp⟩
    · obtain ⟨g', t', cs', fuel', p', k1, k2, k3, k4, k5⟩ := laid_place h5 n d e
      refine ⟨g', t', cs', fuel', p', k1, k2, k3, k4, fun i hi => ?_⟩
      rw [h6]
      exact List.mem_append_right _ (k5 i hi)
/-- A listed variable of some cells lies in a row none of whose cells is frozen. -/
theorem laid_row {l : List (String × DataW Unit)} (h : laidMet P l w) {n : String} {d : DataW Unit} (hm : (n, d) ∈ l) {g : Nat} {t : TypeId} {fs : Array Field} (hg : P.globalNamed n = some g) (hy : (P.globals[g]?).map (·.type) = some t)
    (ht : P.underlying t = some (.struct fs)) (hc : 0 < P.cellsOf t) : ∃ c u, w.heap[g]? = some (.cells c u (0, 0)) := by
  obtain ⟨ps, hv, _, hall⟩ := h
  obtain ⟨g', t', cs, fuel, p, h1, h2, h3, h4, h5⟩ := laid_place hv n d hm
  obtain rfl := Option.some.inj (hg.symm.trans h1)
  obtain rfl := Option.some.inj (hy.symm.trans h2)
  obtain ⟨xs, m, _, _, hl, _, _⟩ := DataW.trod_struct ht h4
  exact (hall g 0 (h5 0 (by rw [Array.length_toList] at hl; omega))).1
variable {fuel : Nat} {cs : List Value} {x : DataW Unit × List MemPlace}
theorem int_at {off : Nat} {ty : TypeId} {k : IntKind} (hu : P.underlying ty = some (.int k)) (hc : P.cellsOf ty = 1) (h : DataW.trod (fun _ => ()) P w 0 (fun _ => true) false fuel ty ((cs.drop off).take (P.cellsOf ty)) = some x) : ∃ z, cs[off]? = some (.int k z) ∧ x.1 = .lit (.int k z) := by
  obtain ⟨z, hz, hx, _⟩ := DataW.trod_int hu h
  rw [hc] at hz
  exact ⟨z, Go.Proofs.at_of_take hz, by rw [hx]⟩
theorem str_at {off : Nat} {ty : TypeId} (hu : P.underlying ty = some .string) (hc : P.cellsOf ty = 1) (h : DataW.trod (fun _ => ()) P w 0 (fun _ => true) false fuel ty ((cs.drop off).take (P.cellsOf ty)) = some x) : ∃ s : ByteArray, cs[off]? = some (.string s) ∧ x.1 = .lit (.string s.data.toList) := by
  obtain ⟨z, hz, hx, _⟩ := DataW.trod_string hu h
  rw [hc] at hz
  exact ⟨z, Go.Proofs.at_of_take hz, by rw [hx]⟩
theorem float_cell {ty : TypeId} {k : FloatKind} (hu : P.underlying ty = some (.float k)) (h : DataW.trod (fun _ => ()) P w 0 (fun _ => true) false fuel ty cs = some x) : ∃ b, cs = [.float k b] := by
  cases fuel with
  | zero => simp [DataW.trod] at h
  | succ n =>
    unfold DataW.trod at h
    rw [hu] at h
    split at h <;> simp_all
theorem iface_cell {ty : TypeId} {ms : Array (String × TypeId)} (hu : P.underlying ty = some (.interface ms)) (h : DataW.trod (fun _ => ()) P w 0 (fun _ => true) false fuel ty cs = some x) : cs = [.nilIface] ∨ ∃ u v, cs = [.iface u v] := by
  cases fuel with
  | zero => simp [DataW.trod] at h
  | succ n =>
    unfold DataW.trod at h
    rw [hu] at h
    split at h <;> simp_all
/-- A slice that is listed: where its elements lie, and what each reads as. -/
theorem slice_reads {n : String} {ds : List (DataW Unit)} (h : VarReads P w n (.slice ds [])) {g : Nat} {t e : TypeId} {c : Nat} (hn : P.globalNamed n = some g) (hy : (P.globals[g]?).map (·.type) = some t) (ht : P.underlying t = some (.slice e)) (hc : P.cellsOf e = c) (hc0 : 0 < c) (hd0 : 0 < ds.length) :
    ∃ R oR cap, w.cell? ⟨g, 0, none⟩ = some (.slice (some ⟨R, oR, none⟩) ds.length cap) ∧ ∀ i d, ds[i]? = some d → ∃ fuel ce q, (∀ j, j < c → w.cell? ⟨R, oR + i * c + j, none⟩ = ce[j]?) ∧ ce.length = c ∧ DataW.trod (fun _ => ()) P w 0 (fun _ => true) false fuel e ce = some (d, q) := by
  obtain ⟨g', t', cs, fuel, p, hg, hty, hvar, hd⟩ := h
  obtain rfl := Option.some.inj (hn.symm.trans hg)
  obtain rfl := Option.some.inj (hy.symm.trans hty)
  rcases DataW.trod_slice ht hd with ⟨_, hx'⟩ | ⟨a', len, cap, el, rs, m, rfl, hc0', hx', _, hlc, _, hel, helem, hsp, _⟩
  · cases hx'
  have e0 := congrArg Prod.fst hx'
  simp only [DataW.slice.injEq] at e0
  obtain ⟨eE, _⟩ := e0
  have hlen : len = ds.length := by
    have := congrArg List.length eE
    simp at this
    omega
  have hrow : ∀ i d, ds[i]? = some d → ∃ ce q, (∀ j, j < c → w.cell? ((a'.add (i * c)).add j) = ce[j]?) ∧ ce.length = c ∧ DataW.trod (fun _ => ()) P w 0 (fun _ => true) false m e ce = some (d, q) := by
    intro i d hi
    have hil : i < len := by
      have := (List.getElem?_eq_some_iff.1 hi).1
      omega
    have h1 := helem i hil
    rw [hc] at h1
    obtain ⟨b, hb⟩ : ∃ b, el[i]? = some b := ⟨el[i]'(by omega), List.getElem?_eq_getElem (by omega)⟩
    rw [hb] at h1
    obtain ⟨ce, hce, hte⟩ := Option.bind_eq_some_iff.1 h1
    have hb1 : b.1 = d := by
      have := congrArg (·[i]?) eE
      simp only [List.getElem?_map, hb, Option.map_some] at this
      rw [hi] at this
      exact (Option.some.inj this).symm
    obtain ⟨_, hl, hcc⟩ := World.cells?_some hce
    exact ⟨ce, b.2, hcc, hl, by rw [← hb1]; exact hte⟩
  obtain ⟨R, oR, sR⟩ := a'
  obtain rfl : sR = none := by
    obtain ⟨ce, q, h1, h2, _⟩ := hrow 0 (ds[0]'hd0) (List.getElem?_eq_getElem hd0)
    have h3 := h1 0 hc0
    have : (Addr.add (Addr.add ⟨R, oR, sR⟩ (0 * c)) 0) = ⟨R, oR, sR⟩ := by simp [Addr.add]
    rw [this, List.getElem?_eq_getElem (by omega)] at h3
    exact cell_spot h3
  refine ⟨R, oR, cap, ?_, fun i d hi => ?_⟩
  · rw [World.var?_cell hg hvar 0, ← Array.getElem?_toList, hc0', hlen]
    rfl
  · obtain ⟨ce, q, h1, h2, h3⟩ := hrow i d hi
    refine ⟨m, ce, q, fun j hj => ?_, h2, h3⟩
    have := h1 j hj
    rw [Addr.add_lit, Addr.add_lit] at this
    exact this
end
section
variable {w : World}
theorem info_of {n : String} {g : Nat} {a b : Int} {c : Int} (h : VarReads Tryz.prog w n (.agg [.lit (.int .u64 a), .lit (.int .u64 b), .lit (.int .i64 c)])) (hn : Tryz.prog.globalNamed n = some g) (hy : (Tryz.prog.globals[g]?).map (·.type) = some 90) :
    w.cell? ⟨g, 0, none⟩ = some (.int .u64 a) ∧ w.cell? ⟨g, 1, none⟩ = some (.int .u64 b) ∧ w.cell? ⟨g, 2, none⟩ = some (.int .i64 c) := by
  obtain ⟨g', t', cs, fuel, p, hg, hty, hvar, hd⟩ := h
  obtain rfl := Option.some.inj (hn.symm.trans hg)
  obtain rfl := Option.some.inj (hy.symm.trans hty)
  obtain ⟨xs, m, rfl, hx, hl, hxl, hall⟩ := DataW.trod_struct Tryz.underlying90 hd
  have hx3 : xs.map (·.1) = [.lit (.int .u64 a), .lit (.int .u64 b), .lit (.int .i64 c)] := by
    have := congrArg Prod.fst hx
    simpa using this.symm
  obtain ⟨x0, x1, x2, rfl⟩ : ∃ x0 x1 x2, xs = [x0, x1, x2] := by
    match xs, hx3 with
    | [x0, x1, x2], _ => exact ⟨x0, x1, x2, rfl⟩
  simp only [List.map_cons, List.map_nil, List.cons.injEq, and_true] at hx3
  obtain ⟨e0, e1, e2⟩ := hx3
  obtain ⟨z0, k0, y0⟩ := int_at (x := x0) Tryz.underlying88 (by kernel_rfl) (hall 0 _ rfl)
  obtain ⟨z1, k1, y1⟩ := int_at (x := x1) Tryz.underlying88 (by kernel_rfl) (hall 1 _ rfl)
  obtain ⟨z2, k2, y2⟩ := int_at (x := x2) Tryz.underlying3 (by kernel_rfl) (hall 2 _ rfl)
  rw [e0] at y0; cases y0
  rw [e1] at y1; cases y1
  rw [e2] at y2; cases y2
  refine ⟨?_, ?_, ?_⟩
  · rw [World.var?_cell hg hvar 0, ← Array.getElem?_toList]; exact k0
  · rw [World.var?_cell hg hvar 1, ← Array.getElem?_toList]; exact k1
  · rw [World.var?_cell hg hvar 2, ← Array.getElem?_toList]; exact k2
theorem bool_of {n : String} {g : Nat} {b : Bool} (h : VarReads Tryz.prog w n (.lit (.bool b))) (hn : Tryz.prog.globalNamed n = some g) (hy : (Tryz.prog.globals[g]?).map (·.type) = some 4) : w.cell? ⟨g, 0, none⟩ = some (.bool b) := by
  obtain ⟨g', t', cs, fuel, p, hg, hty, hvar, hd⟩ := h
  obtain rfl := Option.some.inj (hn.symm.trans hg)
  obtain rfl := Option.some.inj (hy.symm.trans hty)
  obtain ⟨b', h1, h2⟩ := DataW.trod_bool Tryz.underlying4 hd
  cases h2
  rw [World.var?_cell hg hvar 0, ← Array.getElem?_toList, h1]
  rfl
theorem err_of {n : String} {g : Nat} {d : DataW Unit} (h : VarReads Tryz.prog w n d) (hn : Tryz.prog.globalNamed n = some g) (hy : (Tryz.prog.globals[g]?).map (·.type) = some 35) : ∃ ev, w.cell? ⟨g, 0, none⟩ = some ev ∧ (ev = .nilIface ∨ ∃ te pe, ev = .iface te pe) := by
  obtain ⟨g', t', cs, fuel, p, hg, hty, hvar, hd⟩ := h
  obtain rfl := Option.some.inj (hn.symm.trans hg)
  obtain rfl := Option.some.inj (hy.symm.trans hty)
  rcases iface_cell Tryz.underlying35 hd with h1 | ⟨u, v, h1⟩
  · exact ⟨.nilIface, by rw [World.var?_cell hg hvar 0, ← Array.getElem?_toList, h1]; rfl, .inl rfl⟩
  · exact ⟨.iface u v, by rw [World.var?_cell hg hvar 0, ← Array.getElem?_toList, h1]; rfl, .inr ⟨_, _, rfl⟩⟩
theorem pow_of {g : Nat} (h : VarReads Tryz.prog w "internal/strconv.pow10Tab" Go.Pinned.pow10Tab) (hn : Tryz.prog.globalNamed "internal/strconv.pow10Tab" = some g) (hy : (Tryz.prog.globals[g]?).map (·.type) = some 151) :
    ∀ i, i < 696 → w.cell? ⟨g, i * 2, none⟩ = some (.int .u64 ((Go.Pinned.pow10Rows.getD i (0, 0)).1 : Nat)) ∧ w.cell? ⟨g, i * 2 + 1, none⟩ = some (.int .u64 ((Go.Pinned.pow10Rows.getD i (0, 0)).2 : Nat)) := by
  intro i hi
  obtain ⟨g', t', cs, fuel, p, hg, hty, hvar, hd⟩ := h
  obtain rfl := Option.some.inj (hn.symm.trans hg)
  obtain rfl := Option.some.inj (hy.symm.trans hty)
  have hlen : Go.Pinned.pow10Rows.length = 696 := by decide +kernel
  obtain ⟨fuel', d, q, hdi, he⟩ := array_elem Tryz.underlying151 hd i hi
  obtain ⟨x, hx⟩ : ∃ x, Go.Pinned.pow10Rows[i]? = some x := ⟨_, List.getElem?_eq_getElem (by omega)⟩
  have hgd : Go.Pinned.pow10Rows.getD i (0, 0) = x := by rw [List.getD_eq_getElem?_getD, hx]; rfl
  rw [List.getElem?_map, hx] at hdi
  simp only [Option.map_some, Option.some.injEq] at hdi
  subst hdi
  have hc2 : Tryz.prog.cellsOf 150 = 2 := by kernel_rfl
  rw [hc2] at he
  rw [hgd]
  obtain ⟨xs, m, rfl, hx2, hl, hxl, hall⟩ := DataW.trod_struct Tryz.underlying150 he
  have hx3 : xs.map (·.1) = [.lit (.int .u64 x.1), .lit (.int .u64 x.2)] := by
    have := congrArg Prod.fst hx2
    simpa using this.symm
  obtain ⟨x0, x1, rfl⟩ : ∃ x0 x1, xs = [x0, x1] := by
    match xs, hx3 with
    | [x0, x1], _ => exact ⟨x0, x1, rfl⟩
  simp only [List.map_cons, List.map_nil, List.cons.injEq, and_true] at hx3
  obtain ⟨e0, e1⟩ := hx3
  obtain ⟨z0, k0, y0⟩ := int_at (x := x0) Tryz.underlying73 (by kernel_rfl) (hall 0 _ rfl)
  obtain ⟨z1, k1, y1⟩ := int_at (x := x1) Tryz.underlying73 (by kernel_rfl) (hall 1 _ rfl)
  rw [e0] at y0; cases y0
  rw [e1] at y1; cases y1
  refine ⟨?_, ?_⟩
  · rw [World.var?_cell hg hvar (i * 2), ← Array.getElem?_toList]
    have k0' : (List.take 2 (List.drop (i * 2) cs.toList))[0]? = some (Value.int IntKind.u64 (x.1 : Nat)) := k0
    rw [List.getElem?_take, if_pos (by decide), List.getElem?_drop, Nat.add_zero] at k0'
    exact k0'
  · rw [World.var?_cell hg hvar (i * 2 + 1), ← Array.getElem?_toList]
    have k1' : (List.take 2 (List.drop (i * 2) cs.toList))[1]? = some (Value.int IntKind.u64 (x.2 : Nat)) := k1
    rw [List.getElem?_take, if_pos (by decide), List.getElem?_drop] at k1'
    exact k1'
theorem cheats_of {g : Nat} (h : VarReads Tryz.prog w "internal/strconv.leftcheats" Go.Pinned.leftcheats) (hn : Tryz.prog.globalNamed "internal/strconv.leftcheats" = some g) (hy : (Tryz.prog.globals[g]?).map (·.type) = some 170) :
    ∃ R oR cap, w.cell? ⟨g, 0, none⟩ = some (.slice (some ⟨R, oR, none⟩) 61 cap) ∧ ∀ i, i < 61 → w.cell? ⟨R, oR + i * 2, none⟩ = some (.int .i64 ((Go.Pinned.cheatRows.getD i (0, [])).1 : Nat)) ∧ w.cell? ⟨R, oR + i * 2 + 1, none⟩ = some (.string ⟨((Go.Pinned.cheatRows.getD i (0, [])).2).toArray⟩) := by
  have hlen : Go.Pinned.cheatRows.length = 61 := by decide +kernel
  obtain ⟨R, oR, cap, h1, h2⟩ := slice_reads h hn hy Tryz.underlying170 (c := 2) (by kernel_rfl) (by decide) (by rw [List.length_map, hlen]; decide)
  rw [List.length_map, hlen] at h1
  refine ⟨R, oR, cap, h1, fun i hi => ?_⟩
  obtain ⟨x, hx⟩ : ∃ x, Go.Pinned.cheatRows[i]? = some x := ⟨_, List.getElem?_eq_getElem (by omega)⟩
  have hgd : Go.Pinned.cheatRows.getD i (0, []) = x := by rw [List.getD_eq_getElem?_getD, hx]; rfl
  obtain ⟨fuel, ce, q, h3, h4, he⟩ := h2 i _ (by rw [List.getElem?_map, hx]; rfl)
  rw [hgd]
  obtain ⟨xs, m, rfl, hx2, hl, hxl, hall⟩ := DataW.trod_struct Tryz.underlying169 he
  have hx3 : xs.map (·.1) = [.lit (.int .i64 x.1), .lit (.string x.2)] := by
    have := congrArg Prod.fst hx2
    simpa using this.symm
  obtain ⟨x0, x1, rfl⟩ : ∃ x0 x1, xs = [x0, x1] := by
    match xs, hx3 with
    | [x0, x1], _ => exact ⟨x0, x1, rfl⟩
  simp only [List.map_cons, List.map_nil, List.cons.injEq, and_true] at hx3
  obtain ⟨e0, e1⟩ := hx3
  obtain ⟨z0, k0, y0⟩ := int_at (x := x0) Tryz.underlying3 (by kernel_rfl) (hall 0 _ rfl)
  obtain ⟨z1, k1, y1⟩ := str_at (x := x1) Tryz.underlying9 (by kernel_rfl) (hall 1 _ rfl)
  rw [e0] at y0; cases y0
  rw [e1] at y1
  injection y1 with y1
  injection y1 with y1
  refine ⟨?_, ?_⟩
  · have := h3 0 (by decide)
    rw [Nat.add_zero] at this
    rw [this]; exact k0
  · rw [h3 1 (by decide), y1]; exact k1
theorem ints_of {n : String} {zs : List Int} {g : Nat} (h : VarReads Tryz.prog w n (.slice (zs.map fun z => .lit (.int .i64 z)) [])) (hn : Tryz.prog.globalNamed n = some g) (hy : (Tryz.prog.globals[g]?).map (·.type) = some 135) (h0 : 0 < zs.length) :
    ∃ R oR cap, w.cell? ⟨g, 0, none⟩ = some (.slice (some ⟨R, oR, none⟩) zs.length cap) ∧ ∀ i z, zs[i]? = some z → w.cell? ⟨R, oR + i, none⟩ = some (.int .i64 z) := by
  obtain ⟨R, oR, cap, h1, h2⟩ := slice_reads h hn hy Tryz.underlying135 (c := 1) (by kernel_rfl) (by decide) (by rw [List.length_map]; exact h0)
  rw [List.length_map] at h1
  refine ⟨R, oR, cap, h1, fun i z hz => ?_⟩
  obtain ⟨fuel, ce, q, h3, h4, he⟩ := h2 i _ (by rw [List.getElem?_map, hz]; rfl)
  obtain ⟨z', hz', hx, _⟩ := DataW.trod_int Tryz.underlying3 he
  cases hx
  have := h3 0 (by decide)
  rw [Nat.mul_one, Nat.add_zero, hz'] at this
  exact this
theorem floats_of {n : String} {zs : List Nat} {g : Nat} (h : VarReads Tryz.prog w n (.slice (zs.map fun z => .lit (.float .f64 z)) [])) (hn : Tryz.prog.globalNamed n = some g) (hy : (Tryz.prog.globals[g]?).map (·.type) = some 136) (h0 : 0 < zs.length) :
    ∃ R oR cap, w.cell? ⟨g, 0, none⟩ = some (.slice (some ⟨R, oR, none⟩) zs.length cap) ∧ ∀ i, i < zs.length → ∃ x : Nat, w.cell? ⟨R, oR + i, none⟩ = some (.float .f64 x) := by
  obtain ⟨R, oR, cap, h1, h2⟩ := slice_reads h hn hy Tryz.underlying136 (c := 1) (by kernel_rfl) (by decide) (by rw [List.length_map]; exact h0)
  rw [List.length_map] at h1
  refine ⟨R, oR, cap, h1, fun i hi => ?_⟩
  obtain ⟨fuel, ce, q, h3, h4, he⟩ := h2 i _ (by rw [List.getElem?_map, List.getElem?_eq_getElem hi]; rfl)
  obtain ⟨z', hz'⟩ := float_cell Tryz.underlying24 he
  have := h3 0 (by decide)
  rw [Nat.mul_one, Nat.add_zero, hz'] at this
  exact ⟨z', this⟩
end
end Go.Proofs.YtilkcnoooecngaaGreatDoor
