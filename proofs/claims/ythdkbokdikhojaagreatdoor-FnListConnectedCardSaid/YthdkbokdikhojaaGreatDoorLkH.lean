/- FnListConnected: the walk of the law. No conditions. -/
import Derived.Test.YthdkbokdikhojaaGreatDoorLkG
import Derived.Deep.RegionHeld3
import Derived.Deep.DeepCutAuto
import Derived.Deep.CutBlock
import Derived.IntWalk
namespace Go.Proofs.YthdkbokdikhojaaGreatDoor
open Go.RowKit
set_option linter.unusedVariables false
def connOut (m : Nat) (l : List (ByteArray × Int)) : ByteArray := ⟨(drawnTo (Lcd m l) l.length).toArray⟩
def styC (m : Nat) : Value := styF 0 (cs m 0) (cs m 1) (cs m 2) (cs m 2) (cs m 3) (cs m 4) ⟨#[10]⟩ ⟨#[]⟩
theorem keep_blk {W W' : World} {k : Nat} {o : Obj} (hb : Below W.heap.size W W') (h : W.heap[k]? = some o) : W'.heap[k]? = some o := (hb.block _ (Array.getElem?_eq_some_iff.1 h).1).trans h
theorem conn_render (m : Nat) (hm : m < 4) (l : List (ByteArray × Int)) (hR : RightL l) (v : Value) (base : Nat) (W : World) (hv : W.ownsRow base 55 3 v (stepsTo l l.length).length (stpCells (stepsTo l l.length))) :
    Calls Tryz.prog 9 #[v, styC m] W fun e w' => e = .returned (.string (connOut m l)) ∧ Below W.heap.size W w' := by
  have h := lr_any v (itemsTo l l.length) (cs m 0) (cs m 1) (cs m 2) (cs m 2) (cs m 3) (cs m 4) ⟨#[10]⟩ ⟨#[]⟩ W (Lcd m l) rfl (lcd_ok hm hR) (lcd_fits hR) (fun W2 hb => made_any base v l W2 hR (own_below hv hb))
  rw [its_len] at h
  exact h
theorem conn_lines (m : Nat) (hm : m < 4) (l : List (ByteArray × Int)) (hR : RightL l) (h0 : 0 < l.length) : linesOf (connOut m l) = (List.range l.length).map (lineB (Lcd m l)) :=
  drawn_lines (Lcd m l) l.length h0 (fun k hk => (lcd_line hm hR k hk).1)
theorem conn_back (m : Nat) (hm : m < 4) (l : List (ByteArray × Int)) (hR : RightL l) (h0 : 0 < l.length) (W : World) :
    Calls Tryz.prog 8 #[.string (connOut m l), styC m] W (BackRet l.length l W) := by
  have hln := conn_lines m hm l hR h0
  have hg : ∀ k, k < l.length → (linesOf (connOut m l)).getD k [] = lineB (Lcd m l) k := fun k hk => by
    rw [hln, List.getD_eq_getElem?_getD, List.getElem?_map, List.getElem?_range hk]; rfl
  have hsz : (connOut m l).size ≤ 2147483647 := by
    have := drawnTo_len (Lcd m l) (lcd_ok hm hR) (lcd_fits hR) l.length (by rw [show (Lcd m l).its.length = l.length from its_len l]; exact Nat.le_refl _)
    have h60 := hR.2
    have e : (connOut m l).size = (drawnTo (Lcd m l) l.length).length := by simp [connOut, ByteArray.size]
    rw [e]
    omega
  exact back_any (connOut m l) (Lcd m l) l.length l (bm m) W hsz hR.2 (by rw [hln]; simp) rfl rfl rfl rfl rfl rfl (backs m hm) (cs_facts m 3 hm (by omega)).2 (rc3 m hm).2
    (fun k hk => by rw [hg k hk]; exact (lcd_line hm hR k hk).2.1) (fun k hk => by rw [hg k hk]; exact (lcd_line hm hR k hk).2.2)
theorem named_any (m : Nat) (hm : m < 4) (W : World) : Calls Tryz.prog 7 #[.int .i64 (6 + m)] W fun e w' => e = .returned (styC m) ∧ Below W.heap.size W w' := by
  rcases lt4 hm with rfl | rfl | rfl | rfl
  · exact named0 W
  · exact named1 W
  · exact named2 W
  · exact named3 W
def BxS (b m : Nat) (w : World) : Prop := w.cell? ⟨b, 0, none⟩ = some (.int .i64 0) ∧ w.cell? ⟨b, 1, none⟩ = some (.string (cs m 0)) ∧ w.cell? ⟨b, 2, none⟩ = some (.string (cs m 1)) ∧ w.cell? ⟨b, 3, none⟩ = some (.string (cs m 2)) ∧ w.cell? ⟨b, 4, none⟩ = some (.string (cs m 2)) ∧ w.cell? ⟨b, 5, none⟩ = some (.string (cs m 3)) ∧ w.cell? ⟨b, 6, none⟩ = some (.string (cs m 4)) ∧ w.cell? ⟨b, 7, none⟩ = some (.string ⟨#[10]⟩) ∧ w.cell? ⟨b, 8, none⟩ = some (.string ⟨#[]⟩)
theorem BxS.new (m : Nat) (w : World) : BxS w.heap.size m (w.alloc (.cells #[.int .i64 0, .string (cs m 0), .string (cs m 1), .string (cs m 2), .string (cs m 2), .string (cs m 3), .string (cs m 4), .string ⟨#[10]⟩, .string ⟨#[]⟩] 25)) := by
  have q := fun k => cell_of_row _ w.heap.size k _ 25 (0, 0) (heap_alloc_new w (.cells #[.int .i64 0, .string (cs m 0), .string (cs m 1), .string (cs m 2), .string (cs m 2), .string (cs m 3), .string (cs m 4), .string ⟨#[10]⟩, .string ⟨#[]⟩] 25))
  exact ⟨q 0, q 1, q 2, q 3, q 4, q 5, q 6, q 7, q 8⟩
theorem BxS.below {b m : Nat} {w w' : World} {B : Nat} (h : BxS b m w) (hb : Below B w w') (hlt : b < B) : BxS b m w' := by
  have c := fun k => hb.cell (p := ⟨b, k, none⟩) hlt
  obtain ⟨h0, h1, h2, h3, h4, h5, h6, h7, h8⟩ := h
  exact ⟨(c 0).trans h0, (c 1).trans h1, (c 2).trans h2, (c 3).trans h3, (c 4).trans h4, (c 5).trans h5, (c 6).trans h6, (c 7).trans h7, (c 8).trans h8⟩
set_option maxHeartbeats 4000000 in
set_option maxRecDepth 100000 in
theorem lawConn (A : Option Addr) (n cap : Nat) (l : List (ByteArray × Int)) (a : Int) (w : World) (h : LsArg w w.heap.size A n cap l) (ha : 0 ≤ a ∧ a ≤ 255) :
    Calls Tryz.prog 3 #[.slice A n cap, .int .u8 a] w fun e w' => e = .returned (.bool true) ∧ Below w.heap.size w w' := by
  have hln := h.2.1
  have HA := Lib.hid (fun (W : World) (hb : Below w.heap.size w W) => show LsArg W W.heap.size A n cap l from (h.below hb).more hb.size)
  have HL := Lib.hid hln
  obtain ⟨a0, a1⟩ := ha
  obtain ⟨m, hm⟩ : ∃ m : Nat, a % 4 = m := ⟨(a % 4).toNat, by omega⟩
  have hm4 : m < 4 := by omega
  have HM4 := Lib.hid hm4
  clear h hln
  go_enter Tryz.func3, Tryz.ntmps3
  go_wp2_with (go_at_call 4; refine halt_U ?_)
  refine resume_U ?_
  refine (fits1_any A n cap l w (HA.out w (Below.refl _ _))).mono ?_
  rintro e w1 ⟨b1, rfl, hb1, -⟩
  have B1 := Lib.hid hb1
  clear hb1
  cases b1
  · go_wp2_with fail
    go_ret
    exact ⟨rfl, B1.out⟩
  go_wp2_with (go_at_call 5; refine halt_U ?_)
  refine resume_U ?_
  refine (right_any A n cap l w1 (HA.out w1 B1.out)).mono ?_
  rintro e w2 ⟨b2, rfl, hb2, hR⟩
  have B2 := Lib.hid (blw B1.out hb2)
  have HR0 := Lib.hid hR
  clear hb2 hR B1
  cases b2
  · go_wp2_with fail
    go_ret
    exact ⟨rfl, B2.out⟩
  have HR := Lib.hid (HR0.out rfl)
  clear HR0
  by_cases h0 : n = 0
  · have g0 : ((n : Int) == 0) = true := by rw [beq_iff_eq]; omega
    clear h0
    go_wp2_with fail
    go_ret
    exact ⟨rfl, B2.out⟩
  have g0 : ((n : Int) == 0) = false := by rw [beq_eq_false_iff_ne]; omega
  have H0 := Lib.hid (show 0 < l.length by have := HL.out; omega)
  clear h0
  go_wp2_with (go_at_call 6; refine halt_U ?_)
  refine resume_U ?_
  refine (names_any A n cap l w2 (HA.out w2 B2.out) (fun k hk => by have := (HR.out.1 k (by have := HL.out; omega)).2.2.2.1; omega)).mono ?_
  rintro e w3 ⟨b3, rfl, hb3⟩
  have B3 := Lib.hid (blw B2.out hb3)
  clear hb3 B2
  cases b3
  · go_wp2_with fail
    go_ret
    exact ⟨rfl, B3.out⟩
  go_wp2_with (go_at_call 7; refine halt_U ?_)
  refine resume_U ?_
  refine (named_any m HM4.out w3).mono ?_
  rintro e w4 ⟨rfl, k4⟩
  have B4 := Lib.hid (blw B3.out k4)
  clear k4 B3
  have HRe := Lib.hid (fun v base W hv => conn_render m HM4.out l HR.out v base W hv)
  have HBk := Lib.hid (fun W => conn_back m HM4.out l HR.out H0.out W)
  rw [HL.out] at HBk
  unfold styC styF at HRe HBk ⊢
  generalize connOut m l = co at *
  clear H0 HM4 hm4 hm
  go_upto_region 6 with (fail)
  have hnew := BxS.new m w4
  have HWx := Lib.hid (B4.out.alloc B4.out.size (.cells #[.int .i64 0, .string (cs m 0), .string (cs m 1), .string (cs m 2), .string (cs m 2), .string (cs m 3), .string (cs m 4), .string ⟨#[10]⟩, .string ⟨#[]⟩] 25))
  have HSy := Lib.hid (show w4.heap.size < (w4.alloc (.cells #[.int .i64 0, .string (cs m 0), .string (cs m 1), .string (cs m 2), .string (cs m 2), .string (cs m 3), .string (cs m 4), .string ⟨#[10]⟩, .string ⟨#[]⟩] 25)).heap.size by simp)
  generalize hwx : w4.alloc (.cells #[.int .i64 0, .string (cs m 0), .string (cs m 1), .string (cs m 2), .string (cs m 2), .string (cs m 3), .string (cs m 4), .string ⟨#[10]⟩, .string ⟨#[]⟩] 25) = wx at *
  have HNy := Lib.hid hnew
  obtain ⟨y0, y1, y2, y3, y4, y5, y6, y7, y8⟩ := hnew
  have HW := Lib.hid (Below.drew HWx.out)
  have HX := Lib.hid (Below.drew (Below.refl wx.heap.size wx))
  generalize hbq : w4.heap.size = yb at *
  clear hwx HWx B4 hbq
  refine wp_region_noPanic ?_
  refine wp_region_held_drew (S := (fun w' => w'.cell? ⟨yb, 0, none⟩ = some (.int .i64 0) ∧ w'.cell? ⟨yb, 1, none⟩ = some (.string (cs m 0)) ∧ w'.cell? ⟨yb, 2, none⟩ = some (.string (cs m 1)) ∧ w'.cell? ⟨yb, 3, none⟩ = some (.string (cs m 2)) ∧ w'.cell? ⟨yb, 4, none⟩ = some (.string (cs m 2)) ∧ w'.cell? ⟨yb, 5, none⟩ = some (.string (cs m 3)) ∧ w'.cell? ⟨yb, 6, none⟩ = some (.string (cs m 4)) ∧ w'.cell? ⟨yb, 7, none⟩ = some (.string ⟨#[10]⟩) ∧ w'.cell? ⟨yb, 8, none⟩ = some (.string ⟨#[]⟩))) (by kernel_rfl) (by (try dsimp only); go_keep) (fun hHeld => ?_)
  generalize hwd : wx.drew = wd at *
  clear hwd
  refine wpAnyH_take (i := 0) (oi := { dst := some 30, op := Op.move (Operand.tmp 0), type := 22, pos := "laws_list_wt04c.go:63", after := #[], guard := none }) (v := ?v1) rfl (by kernel_rfl) (by kernel_rfl) (by kernel_rfl) (fun _ _ _ h => h) (Or.inl ⟨by rfl, ?hy1⟩) (by assumption) ?_
  case hy1 => (intro w hSw; (try dsimp only at hSw); go_simp; (try with_reducible rfl))
  try simp only [Act.put, List.setIfInBounds_toArray, List.set_cons_zero, List.set_cons_succ]
  refine wpAnyH_take (i := 2) (oi := { dst := some 32, op := Op.load 25 (Operand.tmp 5), type := 25, pos := "laws_list_wt04c.go:63", after := #[], guard := none }) (v := ?v2) rfl (by kernel_rfl) (by kernel_rfl) (by kernel_rfl) (fun _ _ _ h => h) (Or.inl ⟨by rfl, ?hy2⟩) (by assumption) ?_
  case hy2 => (intro w hSw; (try dsimp only at hSw); go_simp; (try with_reducible rfl))
  try simp only [Act.put, List.setIfInBounds_toArray, List.set_cons_zero, List.set_cons_succ]
  refine wpAnyH_take (i := 4) (oi := { dst := some 34, op := Op.load 25 (Operand.tmp 5), type := 25, pos := "laws_list_wt04c.go:63", after := #[], guard := none }) (v := ?v3) rfl (by kernel_rfl) (by kernel_rfl) (by kernel_rfl) (fun _ _ _ h => h) (Or.inl ⟨by rfl, ?hy3⟩) (by assumption) ?_
  case hy3 => (intro w hSw; (try dsimp only at hSw); go_simp; (try with_reducible rfl))
  try simp only [Act.put, List.setIfInBounds_toArray, List.set_cons_zero, List.set_cons_succ]
  refine wpAnyH_ready (rs := [1]) (by kernel_rfl) (by simp) ?_
  refine AllReadyH.cons (o := { dst := some 31, op := Op.call { callee := Callee.value (Operand.func 10), args := #[Operand.tmp 30], argTypes := #[22] }, type := 30, pos := "laws_list_wt04c.go:63", after := #[{ on := 0, ground := Ground.data }], guard := none }) rfl (fun K hK => ?_) AllReadyH.nil
  go_simp
  refine (steps_any A n cap l _ (HA.out _ HW.out) HR.out).mono ?_
  rintro e w5 ⟨v1, rfl, hv, kn⟩
  have KN := Lib.hid kn
  have V1 := Lib.hid hv
  clear hv kn
  replace HW := Lib.hid (blw HW.out KN.out)
  replace HX := Lib.hid (blw HX.out KN.out)
  clear KN y0 y1 y2 y3 y4 y5 y6 y7 y8
  obtain ⟨y0, y1, y2, y3, y4, y5, y6, y7, y8⟩ := HNy.out.below HX.out HSy.out
  go_wp2_with fail
  refine hK.out _ _ (by exact ⟨y0, y1, y2, y3, y4, y5, y6, y7, y8⟩) (fun hHeld => ?_)
  clear hK K
  try simp only [Act.put, List.setIfInBounds_toArray, List.set_cons_zero, List.set_cons_succ]
  refine wpAnyH_ready (rs := [3]) (by kernel_rfl) (by simp) ?_
  refine AllReadyH.cons (o := { dst := some 33, op := Op.call { callee := Callee.value (Operand.func 9), args := #[Operand.tmp 31, Operand.tmp 32], argTypes := #[30, 25] }, type := 9, pos := "laws_list_wt04c.go:63", after := #[{ on := 1, ground := Ground.data }, { on := 2, ground := Ground.data }, { on := 1, ground := Ground.chain }], guard := none }) rfl (fun K hK => ?_) AllReadyH.nil
  go_simp
  refine (HRe.out _ _ _ V1.out).mono ?_
  rintro e w6 ⟨rfl, kn⟩
  have KN := Lib.hid kn
  clear kn V1
  replace HW := Lib.hid (blw HW.out KN.out)
  replace HX := Lib.hid (blw HX.out KN.out)
  clear KN y0 y1 y2 y3 y4 y5 y6 y7 y8
  obtain ⟨y0, y1, y2, y3, y4, y5, y6, y7, y8⟩ := HNy.out.below HX.out HSy.out
  go_wp2_with fail
  refine hK.out _ _ (by exact ⟨y0, y1, y2, y3, y4, y5, y6, y7, y8⟩) (fun hHeld => ?_)
  clear hK K
  try simp only [Act.put, List.setIfInBounds_toArray, List.set_cons_zero, List.set_cons_succ]
  refine wpAnyH_ready (rs := [5]) (by kernel_rfl) (by simp) ?_
  refine AllReadyH.cons (o := { dst := some 35, op := Op.call { callee := Callee.value (Operand.func 8), args := #[Operand.tmp 33, Operand.tmp 34], argTypes := #[9, 25] }, type := 27, pos := "laws_list_wt04c.go:63", after := #[{ on := 3, ground := Ground.data }, { on := 4, ground := Ground.data }, { on := 3, ground := Ground.chain }], guard := none }) rfl (fun K hK => ?_) AllReadyH.nil
  go_simp
  refine (HBk.out _).mono ?_
  rintro e w7 ⟨A2, cap2, rfl, ha2, kn⟩
  have KN := Lib.hid kn
  have HA2 := Lib.hid ha2
  clear kn ha2
  replace HW := Lib.hid (blw HW.out KN.out)
  replace HX := Lib.hid (blw HX.out KN.out)
  clear KN y0 y1 y2 y3 y4 y5 y6 y7 y8
  obtain ⟨y0, y1, y2, y3, y4, y5, y6, y7, y8⟩ := HNy.out.below HX.out HSy.out
  go_wp2_with fail
  refine hK.out _ _ (by exact ⟨y0, y1, y2, y3, y4, y5, y6, y7, y8⟩) (fun hHeld => ?_)
  clear hK K
  try simp only [Act.put, List.setIfInBounds_toArray, List.set_cons_zero, List.set_cons_succ]
  refine wpAnyH_take (i := 6) (oi := { dst := some 29, op := Op.move (Operand.tmp 35), type := 27, pos := "laws_list_wt04c.go:63", after := #[{ on := 5, ground := Ground.data }], guard := none }) (v := ?v4) rfl (by kernel_rfl) (by kernel_rfl) (by kernel_rfl) (fun _ _ _ h => h) (Or.inl ⟨by rfl, ?hy4⟩) (by assumption) ?_
  case hy4 => (intro w hSw; (try dsimp only at hSw); go_simp; (try with_reducible rfl))
  try simp only [Act.put, List.setIfInBounds_toArray, List.set_cons_zero, List.set_cons_succ]
  refine wpAnyH_take (i := 7) (oi := { dst := some 36, op := Op.extract (Operand.tmp 29) 0, type := 22, pos := "laws_list_wt04c.go:63", after := #[{ on := 6, ground := Ground.data }], guard := none }) (v := ?v5) rfl (by kernel_rfl) (by kernel_rfl) (by kernel_rfl) (fun _ _ _ h => h) (Or.inl ⟨by rfl, ?hy5⟩) (by assumption) ?_
  case hy5 => (intro w hSw; (try dsimp only at hSw); go_simp; (try with_reducible rfl))
  try simp only [Act.put, List.setIfInBounds_toArray, List.set_cons_zero, List.set_cons_succ]
  refine wpAnyH_take (i := 8) (oi := { dst := some 37, op := Op.extract (Operand.tmp 29) 1, type := 4, pos := "laws_list_wt04c.go:63", after := #[{ on := 6, ground := Ground.data }, { on := 9, ground := Ground.gcOnly Departure.lateStores }], guard := none }) (v := ?v6) rfl (by kernel_rfl) (by kernel_rfl) (by kernel_rfl) (fun _ _ _ h => h) (Or.inl ⟨by rfl, ?hy6⟩) (by assumption) ?_
  case hy6 => (intro w hSw; (try dsimp only at hSw); go_simp; (try with_reducible rfl))
  try simp only [Act.put, List.setIfInBounds_toArray, List.set_cons_zero, List.set_cons_succ]
  refine wpAnyH_take (i := 9) (oi := { dst := some 6, op := Op.assign (Operand.tmp 36), type := 22, pos := "laws_list_wt04c.go:63", after := #[{ on := 7, ground := Ground.data }, { on := 5, ground := Ground.chain }, { on := 0, ground := Ground.phase }, { on := 1, ground := Ground.phase }, { on := 2, ground := Ground.phase }, { on := 3, ground := Ground.phase }, { on := 4, ground := Ground.phase }, { on := 5, ground := Ground.phase }, { on := 6, ground := Ground.phase }, { on := 7, ground := Ground.phase }, { on := 8, ground := Ground.textOnly Departure.lateStores }], guard := none }) (v := ?v7) rfl (by kernel_rfl) (by kernel_rfl) (by kernel_rfl) (fun _ _ _ h => h) (Or.inl ⟨by rfl, ?hy7⟩) (by assumption) ?_
  case hy7 => (intro w hSw; (try dsimp only at hSw); go_simp; (try with_reducible rfl))
  try simp only [Act.put, List.setIfInBounds_toArray, List.set_cons_zero, List.set_cons_succ]
  refine wpAnyH_take (i := 10) (oi := { dst := some 7, op := Op.assign (Operand.tmp 37), type := 4, pos := "laws_list_wt04c.go:63", after := #[{ on := 8, ground := Ground.data }, { on := 9, ground := Ground.chain }, { on := 0, ground := Ground.phase }, { on := 1, ground := Ground.phase }, { on := 2, ground := Ground.phase }, { on := 3, ground := Ground.phase }, { on := 4, ground := Ground.phase }, { on := 5, ground := Ground.phase }, { on := 6, ground := Ground.phase }, { on := 7, ground := Ground.phase }, { on := 8, ground := Ground.phase }, { on := 9, ground := Ground.phase }], guard := none }) (v := ?v8) rfl (by kernel_rfl) (by kernel_rfl) (by kernel_rfl) (fun _ _ _ h => h) (Or.inl ⟨by rfl, ?hy8⟩) (by assumption) ?_
  case hy8 => (intro w hSw; (try dsimp only at hSw); go_simp; (try with_reducible rfl))
  try simp only [Act.put, List.setIfInBounds_toArray, List.set_cons_zero, List.set_cons_succ]
  refine wpAnyH_done (by kernel_rfl) ?_ _
  refine NoPanic.normal ?_
  clear y0 y1 y2 y3 y4 y5 y6 y7 y8
  go_wp2_with (go_at_call 11; refine (same_any A2 A n cap2 cap l _ HA2.out (HA.out _ HW.out)).mono ?_; rintro e w8 ⟨rfl, kn⟩; have KN := Lib.hid (blw HW.out kn); clear kn)
  go_ret
  exact ⟨rfl, KN.out⟩
end Go.Proofs.YthdkbokdikhojaaGreatDoor
