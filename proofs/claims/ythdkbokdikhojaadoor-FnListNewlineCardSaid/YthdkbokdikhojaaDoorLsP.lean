/- FnListNewline: the walk of the law. No conditions. -/
import Derived.Test.YthdkbokdikhojaaDoorLsO
namespace Go.Proofs.YthdkbokdikhojaaDoor
open Go.RowKit
set_option linter.unusedVariables false
def nlX (s1 s8 a b nl : ByteArray) : ByteArray := ⟨(oneL s1 s8 (a.data.toList ++ nl.data.toList ++ b.data.toList)).toArray⟩
structure NlOk (a b nl : ByteArray) : Prop where
  ha : simp false a = true
  hb : simp false b = true
  hn : simp false nl = true
  sa : a.size ≤ 200
  sb : b.size ≤ 200
  sn : nl.size ≤ 20
theorem nl_sizes {z : Int} {s1 s2 s3 s4 s5 s6 s7 s8 nl : ByteArray} (hS : Styled z s1 s2 s3 s4 s5 s6 s7 s8) (hn : nl.size ≤ 1000) : ∀ s ∈ [s1, s2, s3, s4, s5, s6, nl, s8], s.size ≤ 1000 := by
  intro s hs
  simp only [List.mem_cons, List.not_mem_nil, or_false] at hs
  have h := fun s hs => (hS.all s hs).1
  rcases hs with rfl | rfl | rfl | rfl | rfl | rfl | rfl | rfl
  · exact Nat.le_trans (h s (by simp)) (by omega)
  · exact Nat.le_trans (h s (by simp)) (by omega)
  · exact Nat.le_trans (h s (by simp)) (by omega)
  · exact Nat.le_trans (h s (by simp)) (by omega)
  · exact Nat.le_trans (h s (by simp)) (by omega)
  · exact Nat.le_trans (h s (by simp)) (by omega)
  · exact hn
  · exact Nat.le_trans (h s (by simp)) (by omega)
theorem nl_r1 (z : Int) (s1 s2 s3 s4 s5 s6 s7 s8 a b nl : ByteArray) (hS : Styled z s1 s2 s3 s4 s5 s6 s7 s8) (h : NlOk a b nl) (base : Nat) (v : Value) (w : World) (hv : w.ownsRow base 50 3 v 1 (stpCells [(0, a ++ ⟨#[10]⟩ ++ b)])) :
    Calls Tryd.prog 10 #[v, styA z s1 s2 s3 s4 s5 s6 nl s8] w fun e w' => e = .returned (.string (nlX s1 s8 a b nl)) ∧ Below w.heap.size w w' := by
  obtain ⟨c1, c2, e1, e2, n10, hl⟩ := nl_texts a b nl h.ha h.hb h.hn h.sa h.sb h.sn
  have hz := nl_sizes hS (show nl.size ≤ 1000 by have := h.sn; omega)
  obtain rfl := hS.z0
  have hr := render_one s1 s2 s3 s4 s5 s6 nl s8 _ hz c1 (by rw [e1]; exact n10) (by rw [Lib.size_eq, e1]; omega) base v w hv
  rw [e1] at hr
  exact hr
theorem nl_r2 (z : Int) (s1 s2 s3 s4 s5 s6 s7 s8 a b nl : ByteArray) (hS : Styled z s1 s2 s3 s4 s5 s6 s7 s8) (h : NlOk a b nl) (base : Nat) (v : Value) (w : World) (hv : w.ownsRow base 50 3 v 1 (stpCells [(0, a ++ nl ++ b)])) :
    Calls Tryd.prog 10 #[v, styA z s1 s2 s3 s4 s5 s6 s7 s8] w fun e w' => e = .returned (.string (nlX s1 s8 a b nl)) ∧ Below w.heap.size w w' := by
  obtain ⟨c1, c2, e1, e2, n10, hl⟩ := nl_texts a b nl h.ha h.hb h.hn h.sa h.sb h.sn
  have hz := nl_sizes hS (show (⟨#[10]⟩ : ByteArray).size ≤ 1000 by decide)
  obtain rfl := hS.z0
  obtain rfl := hS.nl
  have hr := render_one s1 s2 s3 s4 s5 s6 ⟨#[10]⟩ s8 _ hz c2 (by rw [e2]; exact n10) (by rw [Lib.size_eq, e2]; omega) base v w hv
  rw [e2] at hr
  exact hr
theorem al_bl {W wn : World} {o : Obj} (h : W.alloc o = wn) : Below W.heap.size W wn := h ▸ (Below.refl W.heap.size W).alloc (Nat.le_refl _) o
theorem al_new {W wn : World} {o : Obj} (h : W.alloc o = wn) : wn.heap[W.heap.size]? = some o := h ▸ heap_alloc_new W o
theorem keep_blk {W W' : World} {k : Nat} {o : Obj} (hb : Below W.heap.size W W') (h : W.heap[k]? = some o) : W'.heap[k]? = some o := (hb.block _ (Array.getElem?_eq_some_iff.1 h).1).trans h
set_option maxHeartbeats 8000000 in
set_option maxRecDepth 100000 in
theorem lawNewline (a b : ByteArray) (z : Int) (s1 s2 s3 s4 s5 s6 s7 s8 nl : ByteArray) (w : World) (_ : a.size ≤ 140737488351232) (_ : b.size ≤ 140737488351232) (hz : -9223372036854775808 ≤ z ∧ z ≤ 9223372036854775807)
    (_ : s1.size ≤ maxLen) (_ : s2.size ≤ maxLen) (_ : s3.size ≤ maxLen) (_ : s4.size ≤ maxLen) (_ : s5.size ≤ maxLen) (_ : s6.size ≤ maxLen) (_ : s7.size ≤ maxLen) (_ : s8.size ≤ maxLen) (_ : nl.size ≤ 140737488351232) :
    Calls Tryd.prog 4 #[.string a, .string b, styA z s1 s2 s3 s4 s5 s6 s7 s8, .string nl] w fun e w' => e = .returned (.bool true) ∧ Below w.heap.size w w' := by
  obtain ⟨wa, hwa⟩ : ∃ wa : World, w.alloc (.cells #[.int .i64 z, .string s1, .string s2, .string s3, .string s4, .string s5, .string s6, .string s7, .string s8] 24) = wa := ⟨_, rfl⟩
  have HBa := Lib.hid (show Below w.heap.size w wa by rw [← hwa]; exact (Below.refl w.heap.size w).alloc (Nat.le_refl _) _)
  have HS := Lib.hid (show w.heap.size < wa.heap.size by rw [← hwa]; simp)
  have HN := Lib.hid (show BxZ w.heap.size z s1 s2 s3 s4 s5 s6 s7 s8 wa by rw [← hwa]; exact BxZ.new z s1 s2 s3 s4 s5 s6 s7 s8 w)
  have HZ := Lib.hid hz
  clear hz
  unfold styA at *
  by_cases a1 : (2147483647 : Int) < (a.size : Int)
  · go_enter Tryd.func4, Tryd.ntmps4
    go_wp2_with fail
    go_ret
    exact ⟨rfl, HBa.out⟩
  have ga1 : decide ((2147483647 : Int) < (a.size : Int)) = false := by simpa using a1
  by_cases a2 : (2147483647 : Int) < (b.size : Int)
  · go_enter Tryd.func4, Tryd.ntmps4
    go_wp2_with fail
    go_ret
    exact ⟨rfl, HBa.out⟩
  have ga2 : decide ((2147483647 : Int) < (b.size : Int)) = false := by simpa using a2
  clear a1 a2
  go_enter Tryd.func4, Tryd.ntmps4
  obtain ⟨x0, x1, x2, x3, x4, x5, x6, x7, x8⟩ := HN.out
  go_wp2_with (go_at_call 6; refine halt_U ?_)
  refine resume_U ?_
  refine (fits3_any z s1 s2 s3 s4 s5 s6 s7 s8 wa).mono ?_
  rintro e w1 ⟨b1, rfl, hb1, -⟩
  have B := Lib.hid hb1
  clear hb1 hwa x0 x1 x2 x3 x4 x5 x6 x7 x8
  cases b1
  · go_wp2_with fail
    go_ret
    exact ⟨rfl, HBa.out.trans (B.out.mono (Nat.le_of_lt HS.out))⟩
  have fin := Lib.hid (fun (W : World) (hb : Below wa.heap.size wa W) => HBa.out.trans (hb.mono (Nat.le_of_lt HS.out)))
  by_cases n1 : (2147483647 : Int) < (nl.size : Int)
  · go_wp2_with fail
    go_ret
    exact ⟨rfl, fin.out _ B.out⟩
  have gn1 : decide ((2147483647 : Int) < (nl.size : Int)) = false := by simpa using n1
  clear n1
  by_cases a3 : (200 : Int) < (a.size : Int)
  · go_wp2_with fail
    go_ret
    exact ⟨rfl, fin.out _ B.out⟩
  have ga3 : decide ((200 : Int) < (a.size : Int)) = false := by simpa using a3
  by_cases b3 : (200 : Int) < (b.size : Int)
  · go_wp2_with fail
    go_ret
    exact ⟨rfl, fin.out _ B.out⟩
  have gb3 : decide ((200 : Int) < (b.size : Int)) = false := by simpa using b3
  have sa : a.size ≤ 200 := by omega
  have sb : b.size ≤ 200 := by omega
  clear a3 b3
  have C1 := Lib.hid (simple_any a false w1)
  cases hsa : simp false a
  · rw [hsa] at C1
    clear hsa
    go_wp2_with (go_at_call 13; refine C1.out.mono ?_; rintro e w2 ⟨rfl, k2⟩; have B2 := Lib.hid (below_next B.out k2); clear k2)
    go_ret
    exact ⟨rfl, fin.out _ B2.out⟩
  rw [hsa] at C1
  have HSA := Lib.hid hsa
  clear hsa
  go_wp2_with (go_at_call 13; refine halt_U ?_)
  refine resume_U ?_
  refine C1.out.mono ?_
  rintro e w2 ⟨rfl, k2⟩
  replace B := Lib.hid (below_next B.out k2)
  clear k2 C1
  have C1 := Lib.hid (simple_any b false w2)
  cases hsb : simp false b
  · rw [hsb] at C1
    clear hsb
    go_wp2_with (go_at_call 13; refine C1.out.mono ?_; rintro e w3 ⟨rfl, k2⟩; have B2 := Lib.hid (below_next B.out k2); clear k2)
    go_ret
    exact ⟨rfl, fin.out _ B2.out⟩
  rw [hsb] at C1
  have HSB := Lib.hid hsb
  clear hsb
  go_wp2_with (go_at_call 13; refine halt_U ?_)
  refine resume_U ?_
  refine C1.out.mono ?_
  rintro e w3 ⟨rfl, k2⟩
  replace B := Lib.hid (below_next B.out k2)
  clear k2 C1
  obtain ⟨x0, x1, x2, x3, x4, x5, x6, x7, x8⟩ := HN.out.below B.out HS.out
  have C1 := Lib.hid (styled_any z s1 s2 s3 s4 s5 s6 s7 s8 w3 HZ.out)
  unfold styA at C1
  go_wp2_with (go_at_call 9; refine halt_U ?_)
  refine resume_U ?_
  refine C1.out.mono ?_
  rintro e w4 ⟨b4, rfl, k2, i4⟩
  replace B := Lib.hid (below_next B.out k2)
  have I4 := Lib.hid i4
  clear k2 C1 i4 x0 x1 x2 x3 x4 x5 x6 x7 x8
  cases b4
  · go_wp2_with fail
    go_ret
    exact ⟨rfl, fin.out _ B.out⟩
  have HY := Lib.hid (I4.out.1 rfl)
  clear I4
  by_cases n3 : (20 : Int) < (nl.size : Int)
  · go_wp2_with fail
    go_ret
    exact ⟨rfl, fin.out _ B.out⟩
  have gn3 : decide ((20 : Int) < (nl.size : Int)) = false := by simpa using n3
  have sn : nl.size ≤ 20 := by omega
  clear n3
  cases hem : nl.toList.isEmpty
  rotate_left
  · go_wp2_with fail
    go_ret
    exact ⟨rfl, fin.out _ B.out⟩
  have C1 := Lib.hid (simple_any nl false w4)
  cases hsn : simp false nl
  · rw [hsn] at C1
    clear hsn
    go_wp2_with (go_at_call 13; refine C1.out.mono ?_; rintro e w5 ⟨rfl, k2⟩; have B2 := Lib.hid (below_next B.out k2); clear k2)
    go_ret
    exact ⟨rfl, fin.out _ B2.out⟩
  rw [hsn] at C1
  have HOk := Lib.hid (show NlOk a b nl from ⟨HSA.out, HSB.out, hsn, sa, sb, sn⟩)
  clear hsn HSA HSB
  go_wp2_with (go_at_call 13; refine halt_U ?_)
  refine resume_U ?_
  refine C1.out.mono ?_
  rintro e w5 ⟨rfl, k2⟩
  replace B := Lib.hid (below_next B.out k2)
  clear k2 C1 ga1 ga2 gn1 ga3 gb3 gn3 hem
  obtain ⟨x0, x1, x2, x3, x4, x5, x6, x7, x8⟩ := HN.out.below B.out HS.out
  go_upto_region 7 with (fail)
  have hnew := BxZ.new z s1 s2 s3 s4 s5 s6 nl s8 w5
  have HWx := Lib.hid (B.out.alloc B.out.size (.cells #[.int .i64 z, .string s1, .string s2, .string s3, .string s4, .string s5, .string s6, .string nl, .string s8] 24))
  have HSy := Lib.hid (show w5.heap.size < (w5.alloc (.cells #[.int .i64 z, .string s1, .string s2, .string s3, .string s4, .string s5, .string s6, .string nl, .string s8] 24)).heap.size by simp)
  clear x0 x1 x2 x3 x4 x5 x6 x7 x8
  generalize hwx : w5.alloc (.cells #[.int .i64 z, .string s1, .string s2, .string s3, .string s4, .string s5, .string s6, .string nl, .string s8] 24) = wx at *
  obtain ⟨x0, x1, x2, x3, x4, x5, x6, x7, x8⟩ := HN.out.below HWx.out HS.out
  obtain ⟨y0, y1, y2, y3, y4, y5, y6, y7, y8⟩ := hnew
  have HNy := Lib.hid (show BxZ w5.heap.size z s1 s2 s3 s4 s5 s6 nl s8 wx from ⟨y0, y1, y2, y3, y4, y5, y6, y7, y8⟩)
  have HW := Lib.hid (Below.drew HWx.out)
  have HX := Lib.hid (Below.drew (Below.refl wx.heap.size wx))
  have e1 := add_str a ⟨#[10]⟩ (by show _ + 1 ≤ _; omega)
  have e2 := add_str (a ++ ⟨#[10]⟩) b (by rw [ByteArray.size_append]; show _ + 1 + _ ≤ _; omega)
  have e3 := add_str a nl (by omega)
  have e4 := add_str (a ++ nl) b (by rw [ByteArray.size_append]; omega)
  have HR1 := Lib.hid (fun base v W h => nl_r1 z s1 s2 s3 s4 s5 s6 s7 s8 a b nl HY.out HOk.out base v W h)
  have HR2 := Lib.hid (fun base v W h => nl_r2 z s1 s2 s3 s4 s5 s6 s7 s8 a b nl HY.out HOk.out base v W h)
  unfold styA at HR1 HR2
  generalize nlX s1 s8 a b nl = dx at *
  generalize hbq : w5.heap.size = yb at *
  clear hwx HY HOk HWx B hbq
  refine wp_region_noPanic ?_
  refine wp_region_held_drew (S := (fun w' => w'.cell? ⟨w.heap.size, 0, none⟩ = some (.int .i64 z) ∧ w'.cell? ⟨w.heap.size, 1, none⟩ = some (.string s1) ∧ w'.cell? ⟨w.heap.size, 2, none⟩ = some (.string s2) ∧ w'.cell? ⟨w.heap.size, 3, none⟩ = some (.string s3) ∧ w'.cell? ⟨w.heap.size, 4, none⟩ = some (.string s4) ∧ w'.cell? ⟨w.heap.size, 5, none⟩ = some (.string s5) ∧ w'.cell? ⟨w.heap.size, 6, none⟩ = some (.string s6) ∧ w'.cell? ⟨w.heap.size, 7, none⟩ = some (.string s7) ∧ w'.cell? ⟨w.heap.size, 8, none⟩ = some (.string s8) ∧ w'.cell? ⟨yb, 0, none⟩ = some (.int .i64 z) ∧ w'.cell? ⟨yb, 1, none⟩ = some (.string s1) ∧ w'.cell? ⟨yb, 2, none⟩ = some (.string s2) ∧ w'.cell? ⟨yb, 3, none⟩ = some (.string s3) ∧ w'.cell? ⟨yb, 4, none⟩ = some (.string s4) ∧ w'.cell? ⟨yb, 5, none⟩ = some (.string s5) ∧ w'.cell? ⟨yb, 6, none⟩ = some (.string s6) ∧ w'.cell? ⟨yb, 7, none⟩ = some (.string nl) ∧ w'.cell? ⟨yb, 8, none⟩ = some (.string s8))) (by kernel_rfl) (by (try dsimp only); go_keep) (fun hHeld => ?_)
  generalize hwd : wx.drew = wd at *
  clear hwd
  refine wpAnyH_take (i := 0) (oi := { dst := some 68, op := Op.move (Operand.tmp 0), type := 9, pos := "laws_list_wt04c.go:132", after := #[], guard := none }) (v := ?v1) rfl (by kernel_rfl) (by kernel_rfl) (by kernel_rfl) (fun _ _ _ h => h) (Or.inl ⟨by rfl, ?hy1⟩) (by assumption) ?_
  case hy1 => (intro w hSw; (try dsimp only at hSw); go_simp; (try with_reducible rfl))
  try simp only [Act.put, List.setIfInBounds_toArray, List.set_cons_zero, List.set_cons_succ]
  refine wpAnyH_take (i := 1) (oi := { dst := some 69, op := Op.binOp BinOp.add 9 (Operand.tmp 68) (Operand.const (Value.string { data := #[10] })) 9, type := 9, pos := "laws_list_wt04c.go:132", after := #[{ on := 0, ground := Ground.data }], guard := none }) (v := ?v2) rfl (by kernel_rfl) (by kernel_rfl) (by kernel_rfl) (fun _ _ _ h => h) (Or.inl ⟨by rfl, ?hy2⟩) (by assumption) ?_
  case hy2 => (intro w hSw; (try dsimp only at hSw); go_simp; (try with_reducible rfl))
  try simp only [Act.put, List.setIfInBounds_toArray, List.set_cons_zero, List.set_cons_succ]
  refine wpAnyH_take (i := 2) (oi := { dst := some 70, op := Op.move (Operand.tmp 1), type := 9, pos := "laws_list_wt04c.go:132", after := #[], guard := none }) (v := ?v3) rfl (by kernel_rfl) (by kernel_rfl) (by kernel_rfl) (fun _ _ _ h => h) (Or.inl ⟨by rfl, ?hy3⟩) (by assumption) ?_
  case hy3 => (intro w hSw; (try dsimp only at hSw); go_simp; (try with_reducible rfl))
  try simp only [Act.put, List.setIfInBounds_toArray, List.set_cons_zero, List.set_cons_succ]
  refine wpAnyH_take (i := 3) (oi := { dst := some 71, op := Op.binOp BinOp.add 9 (Operand.tmp 69) (Operand.tmp 70) 9, type := 9, pos := "laws_list_wt04c.go:132", after := #[{ on := 1, ground := Ground.data }, { on := 2, ground := Ground.data }], guard := none }) (v := ?v4) rfl (by kernel_rfl) (by kernel_rfl) (by kernel_rfl) (fun _ _ _ h => h) (Or.inl ⟨by rfl, ?hy4⟩) (by assumption) ?_
  case hy4 => (intro w hSw; (try dsimp only at hSw); go_simp; (try with_reducible rfl))
  try simp only [Act.put, List.setIfInBounds_toArray, List.set_cons_zero, List.set_cons_succ]
  refine wpAnyH_take (i := 4) (oi := { dst := some 72, op := Op.build 34 #[(0, Operand.tmp 71)], type := 34, pos := "laws_list_wt04c.go:132", after := #[{ on := 3, ground := Ground.data }], guard := none }) (v := ?v5) rfl (by kernel_rfl) (by kernel_rfl) (by kernel_rfl) (fun _ _ _ h => h) (Or.inl ⟨by rfl, ?hy5⟩) (by assumption) ?_
  case hy5 => (intro w hSw; (try dsimp only at hSw); go_simp; (try with_reducible rfl))
  try simp only [Act.put, List.setIfInBounds_toArray, List.set_cons_zero, List.set_cons_succ]
  refine wpAnyH_take (i := 7) (oi := { dst := some 75, op := Op.load 24 (Operand.tmp 9), type := 24, pos := "laws_list_wt04c.go:132", after := #[], guard := none }) (v := ?v6) rfl (by kernel_rfl) (by kernel_rfl) (by kernel_rfl) (fun _ _ _ h => h) (Or.inl ⟨by rfl, ?hy6⟩) (by assumption) ?_
  case hy6 => (intro w hSw; (try dsimp only at hSw); go_simp; (try with_reducible rfl))
  try simp only [Act.put, List.setIfInBounds_toArray, List.set_cons_zero, List.set_cons_succ]
  refine wpAnyH_take (i := 9) (oi := { dst := some 77, op := Op.move (Operand.tmp 0), type := 9, pos := "laws_list_wt04c.go:132", after := #[], guard := none }) (v := ?v7) rfl (by kernel_rfl) (by kernel_rfl) (by kernel_rfl) (fun _ _ _ h => h) (Or.inl ⟨by rfl, ?hy7⟩) (by assumption) ?_
  case hy7 => (intro w hSw; (try dsimp only at hSw); go_simp; (try with_reducible rfl))
  try simp only [Act.put, List.setIfInBounds_toArray, List.set_cons_zero, List.set_cons_succ]
  refine wpAnyH_take (i := 10) (oi := { dst := some 78, op := Op.move (Operand.tmp 3), type := 9, pos := "laws_list_wt04c.go:132", after := #[], guard := none }) (v := ?v8) rfl (by kernel_rfl) (by kernel_rfl) (by kernel_rfl) (fun _ _ _ h => h) (Or.inl ⟨by rfl, ?hy8⟩) (by assumption) ?_
  case hy8 => (intro w hSw; (try dsimp only at hSw); go_simp; (try with_reducible rfl))
  try simp only [Act.put, List.setIfInBounds_toArray, List.set_cons_zero, List.set_cons_succ]
  refine wpAnyH_take (i := 11) (oi := { dst := some 79, op := Op.binOp BinOp.add 9 (Operand.tmp 77) (Operand.tmp 78) 9, type := 9, pos := "laws_list_wt04c.go:132", after := #[{ on := 9, ground := Ground.data }, { on := 10, ground := Ground.data }], guard := none }) (v := ?v9) rfl (by kernel_rfl) (by kernel_rfl) (by kernel_rfl) (fun _ _ _ h => h) (Or.inl ⟨by rfl, ?hy9⟩) (by assumption) ?_
  case hy9 => (intro w hSw; (try dsimp only at hSw); go_simp; (try with_reducible rfl))
  try simp only [Act.put, List.setIfInBounds_toArray, List.set_cons_zero, List.set_cons_succ]
  refine wpAnyH_take (i := 12) (oi := { dst := some 80, op := Op.move (Operand.tmp 1), type := 9, pos := "laws_list_wt04c.go:132", after := #[], guard := none }) (v := ?v10) rfl (by kernel_rfl) (by kernel_rfl) (by kernel_rfl) (fun _ _ _ h => h) (Or.inl ⟨by rfl, ?hy10⟩) (by assumption) ?_
  case hy10 => (intro w hSw; (try dsimp only at hSw); go_simp; (try with_reducible rfl))
  try simp only [Act.put, List.setIfInBounds_toArray, List.set_cons_zero, List.set_cons_succ]
  refine wpAnyH_take (i := 13) (oi := { dst := some 81, op := Op.binOp BinOp.add 9 (Operand.tmp 79) (Operand.tmp 80) 9, type := 9, pos := "laws_list_wt04c.go:132", after := #[{ on := 11, ground := Ground.data }, { on := 12, ground := Ground.data }], guard := none }) (v := ?v11) rfl (by kernel_rfl) (by kernel_rfl) (by kernel_rfl) (fun _ _ _ h => h) (Or.inl ⟨by rfl, ?hy11⟩) (by assumption) ?_
  case hy11 => (intro w hSw; (try dsimp only at hSw); go_simp; (try with_reducible rfl))
  try simp only [Act.put, List.setIfInBounds_toArray, List.set_cons_zero, List.set_cons_succ]
  refine wpAnyH_take (i := 14) (oi := { dst := some 82, op := Op.build 34 #[(0, Operand.tmp 81)], type := 34, pos := "laws_list_wt04c.go:132", after := #[{ on := 13, ground := Ground.data }], guard := none }) (v := ?v12) rfl (by kernel_rfl) (by kernel_rfl) (by kernel_rfl) (fun _ _ _ h => h) (Or.inl ⟨by rfl, ?hy12⟩) (by assumption) ?_
  case hy12 => (intro w hSw; (try dsimp only at hSw); go_simp; (try with_reducible rfl))
  try simp only [Act.put, List.setIfInBounds_toArray, List.set_cons_zero, List.set_cons_succ]
  refine wpAnyH_take (i := 17) (oi := { dst := some 85, op := Op.load 24 (Operand.tmp 6), type := 24, pos := "laws_list_wt04c.go:132", after := #[], guard := none }) (v := ?v13) rfl (by kernel_rfl) (by kernel_rfl) (by kernel_rfl) (fun _ _ _ h => h) (Or.inl ⟨by rfl, ?hy13⟩) (by assumption) ?_
  case hy13 => (intro w hSw; (try dsimp only at hSw); go_simp; (try with_reducible rfl))
  try simp only [Act.put, List.setIfInBounds_toArray, List.set_cons_zero, List.set_cons_succ]
  refine wpAnyH_ready (rs := [5, 15]) (by kernel_rfl) (by simp) ?_
  refine AllReadyH.cons (o := { dst := some 73, op := Op.buildSlice 22 1 #[(0, Operand.tmp 72)], type := 22, pos := "laws_list_wt04c.go:132", after := #[{ on := 4, ground := Ground.data }], guard := none }) rfl (fun K hK => ?_) ?_
  · skip
    go_simp
    generalize hwn : World.alloc _ _ = w5
    have KN := Lib.hid (al_bl hwn)
    have NB := Lib.hid (al_new hwn)
    clear hwn
    replace HW := Lib.hid (below_next HW.out KN.out)
    replace HX := Lib.hid (below_next HX.out KN.out)
    clear KN x0 x1 x2 x3 x4 x5 x6 x7 x8 y0 y1 y2 y3 y4 y5 y6 y7 y8
    obtain ⟨x0, x1, x2, x3, x4, x5, x6, x7, x8⟩ := HN.out.below HW.out HS.out
    obtain ⟨y0, y1, y2, y3, y4, y5, y6, y7, y8⟩ := HNy.out.below HX.out HSy.out
    have B1 := NB
    clear NB
    refine hK.out _ _ (by exact ⟨x0, x1, x2, x3, x4, x5, x6, x7, x8, y0, y1, y2, y3, y4, y5, y6, y7, y8⟩) (fun hHeld => ?_)
    clear hK K
    try simp only [Act.put, List.setIfInBounds_toArray, List.set_cons_zero, List.set_cons_succ]
    refine wpAnyH_ready (rs := [6, 15]) (by kernel_rfl) (by simp) ?_
    refine AllReadyH.cons (o := { dst := some 74, op := Op.call { callee := Callee.value (Operand.func 11), args := #[Operand.tmp 73], argTypes := #[22] }, type := 28, pos := "laws_list_wt04c.go:132", after := #[{ on := 5, ground := Ground.data }], guard := none }) rfl (fun K hK => ?_) ?_
    · skip
      go_simp
      refine (steps_one _ _ _ B1.out).mono ?_
      rintro e w6 ⟨v6, rfl, hv, kn⟩
      have KN := Lib.hid kn
      have NV := Lib.hid hv
      clear hv kn
      replace B1 := Lib.hid (keep_blk KN.out B1.out)
      replace HW := Lib.hid (below_next HW.out KN.out)
      replace HX := Lib.hid (below_next HX.out KN.out)
      clear KN x0 x1 x2 x3 x4 x5 x6 x7 x8 y0 y1 y2 y3 y4 y5 y6 y7 y8
      obtain ⟨x0, x1, x2, x3, x4, x5, x6, x7, x8⟩ := HN.out.below HW.out HS.out
      obtain ⟨y0, y1, y2, y3, y4, y5, y6, y7, y8⟩ := HNy.out.below HX.out HSy.out
      have V1 := NV
      clear NV
      go_wp2_with fail
      refine hK.out _ _ (by exact ⟨x0, x1, x2, x3, x4, x5, x6, x7, x8, y0, y1, y2, y3, y4, y5, y6, y7, y8⟩) (fun hHeld => ?_)
      clear hK K
      try simp only [Act.put, List.setIfInBounds_toArray, List.set_cons_zero, List.set_cons_succ]
      refine wpAnyH_ready (rs := [8, 15]) (by kernel_rfl) (by simp) ?_
      refine AllReadyH.cons (o := { dst := some 76, op := Op.call { callee := Callee.value (Operand.func 10), args := #[Operand.tmp 74, Operand.tmp 75], argTypes := #[28, 24] }, type := 9, pos := "laws_list_wt04c.go:132", after := #[{ on := 6, ground := Ground.data }, { on := 7, ground := Ground.data }, { on := 6, ground := Ground.chain }], guard := none }) rfl (fun K hK => ?_) ?_
      · skip
        go_simp
        refine (HR1.out _ _ _ V1.out).mono ?_
        rintro e w8 ⟨rfl, kn⟩
        have KN := Lib.hid kn
        clear kn
        replace B1 := Lib.hid (keep_blk KN.out B1.out)
        replace V1 := Lib.hid (own_below V1.out KN.out)
        replace HW := Lib.hid (below_next HW.out KN.out)
        replace HX := Lib.hid (below_next HX.out KN.out)
        clear KN x0 x1 x2 x3 x4 x5 x6 x7 x8 y0 y1 y2 y3 y4 y5 y6 y7 y8
        obtain ⟨x0, x1, x2, x3, x4, x5, x6, x7, x8⟩ := HN.out.below HW.out HS.out
        obtain ⟨y0, y1, y2, y3, y4, y5, y6, y7, y8⟩ := HNy.out.below HX.out HSy.out
        go_wp2_with fail
        refine hK.out _ _ (by exact ⟨x0, x1, x2, x3, x4, x5, x6, x7, x8, y0, y1, y2, y3, y4, y5, y6, y7, y8⟩) (fun hHeld => ?_)
        clear hK K
        try simp only [Act.put, List.setIfInBounds_toArray, List.set_cons_zero, List.set_cons_succ]
        refine wpAnyH_ready (rs := [15]) (by kernel_rfl) (by simp) ?_
        refine AllReadyH.cons (o := { dst := some 83, op := Op.buildSlice 22 1 #[(0, Operand.tmp 82)], type := 22, pos := "laws_list_wt04c.go:132", after := #[{ on := 14, ground := Ground.data }], guard := none }) rfl (fun K hK => ?_) AllReadyH.nil
        go_simp
        generalize hwn : World.alloc _ _ = w15
        have KN := Lib.hid (al_bl hwn)
        have NB := Lib.hid (al_new hwn)
        clear hwn
        replace B1 := Lib.hid (keep_blk KN.out B1.out)
        replace V1 := Lib.hid (own_below V1.out KN.out)
        replace HW := Lib.hid (below_next HW.out KN.out)
        replace HX := Lib.hid (below_next HX.out KN.out)
        clear KN x0 x1 x2 x3 x4 x5 x6 x7 x8 y0 y1 y2 y3 y4 y5 y6 y7 y8
        obtain ⟨x0, x1, x2, x3, x4, x5, x6, x7, x8⟩ := HN.out.below HW.out HS.out
        obtain ⟨y0, y1, y2, y3, y4, y5, y6, y7, y8⟩ := HNy.out.below HX.out HSy.out
        have B2 := NB
        clear NB
        refine hK.out _ _ (by exact ⟨x0, x1, x2, x3, x4, x5, x6, x7, x8, y0, y1, y2, y3, y4, y5, y6, y7, y8⟩) (fun hHeld => ?_)
        clear hK K
        try simp only [Act.put, List.setIfInBounds_toArray, List.set_cons_zero, List.set_cons_succ]
        refine wpAnyH_ready (rs := [16]) (by kernel_rfl) (by simp) ?_
        refine AllReadyH.cons (o := { dst := some 84, op := Op.call { callee := Callee.value (Operand.func 11), args := #[Operand.tmp 83], argTypes := #[22] }, type := 28, pos := "laws_list_wt04c.go:132", after := #[{ on := 15, ground := Ground.data }, { on := 8, ground := Ground.chain }], guard := none }) rfl (fun K hK => ?_) AllReadyH.nil
        go_simp
        refine (steps_one _ _ _ B2.out).mono ?_
        rintro e w16 ⟨v16, rfl, hv, kn⟩
        have KN := Lib.hid kn
        have NV := Lib.hid hv
        clear hv kn
        replace B1 := Lib.hid (keep_blk KN.out B1.out)
        replace B2 := Lib.hid (keep_blk KN.out B2.out)
        replace V1 := Lib.hid (own_below V1.out KN.out)
        replace HW := Lib.hid (below_next HW.out KN.out)
        replace HX := Lib.hid (below_next HX.out KN.out)
        clear KN x0 x1 x2 x3 x4 x5 x6 x7 x8 y0 y1 y2 y3 y4 y5 y6 y7 y8
        obtain ⟨x0, x1, x2, x3, x4, x5, x6, x7, x8⟩ := HN.out.below HW.out HS.out
        obtain ⟨y0, y1, y2, y3, y4, y5, y6, y7, y8⟩ := HNy.out.below HX.out HSy.out
        have V2 := NV
        clear NV
        go_wp2_with fail
        refine hK.out _ _ (by exact ⟨x0, x1, x2, x3, x4, x5, x6, x7, x8, y0, y1, y2, y3, y4, y5, y6, y7, y8⟩) (fun hHeld => ?_)
        clear hK K
        try simp only [Act.put, List.setIfInBounds_toArray, List.set_cons_zero, List.set_cons_succ]
        refine wpAnyH_ready (rs := [18]) (by kernel_rfl) (by simp) ?_
        refine AllReadyH.cons (o := { dst := some 86, op := Op.call { callee := Callee.value (Operand.func 10), args := #[Operand.tmp 84, Operand.tmp 85], argTypes := #[28, 24] }, type := 9, pos := "laws_list_wt04c.go:132", after := #[{ on := 16, ground := Ground.data }, { on := 17, ground := Ground.data }, { on := 16, ground := Ground.chain }], guard := none }) rfl (fun K hK => ?_) AllReadyH.nil
        go_simp
        refine (HR2.out _ _ _ V2.out).mono ?_
        rintro e w18 ⟨rfl, kn⟩
        have KN := Lib.hid kn
        clear kn
        replace B1 := Lib.hid (keep_blk KN.out B1.out)
        replace B2 := Lib.hid (keep_blk KN.out B2.out)
        replace V1 := Lib.hid (own_below V1.out KN.out)
        replace V2 := Lib.hid (own_below V2.out KN.out)
        replace HW := Lib.hid (below_next HW.out KN.out)
        replace HX := Lib.hid (below_next HX.out KN.out)
        clear KN x0 x1 x2 x3 x4 x5 x6 x7 x8 y0 y1 y2 y3 y4 y5 y6 y7 y8
        obtain ⟨x0, x1, x2, x3, x4, x5, x6, x7, x8⟩ := HN.out.below HW.out HS.out
        obtain ⟨y0, y1, y2, y3, y4, y5, y6, y7, y8⟩ := HNy.out.below HX.out HSy.out
        go_wp2_with fail
        refine hK.out _ _ (by exact ⟨x0, x1, x2, x3, x4, x5, x6, x7, x8, y0, y1, y2, y3, y4, y5, y6, y7, y8⟩) (fun hHeld => ?_)
        clear hK K
        try simp only [Act.put, List.setIfInBounds_toArray, List.set_cons_zero, List.set_cons_succ]
        refine wpAnyH_take (i := 19) (oi := { dst := some 87, op := Op.binOp BinOp.eql 9 (Operand.tmp 76) (Operand.tmp 86) 9, type := 4, pos := "laws_list_wt04c.go:132", after := #[{ on := 8, ground := Ground.data }, { on := 18, ground := Ground.data }], guard := none }) (v := ?v14) rfl (by kernel_rfl) (by kernel_rfl) (by kernel_rfl) (fun _ _ _ h => h) (Or.inl ⟨by rfl, ?hy14⟩) (by assumption) ?_
        case hy14 => (intro w hSw; (try dsimp only at hSw); go_simp; (try with_reducible rfl))
        try simp only [Act.put, List.setIfInBounds_toArray, List.set_cons_zero, List.set_cons_succ]
        refine wpAnyH_take (i := 20) (oi := { dst := some 88, op := Op.move (Operand.tmp 87), type := 4, pos := "laws_list_wt04c.go:132", after := #[{ on := 19, ground := Ground.data }, { on := 18, ground := Ground.chain }], guard := none }) (v := ?v15) rfl (by kernel_rfl) (by kernel_rfl) (by kernel_rfl) (fun _ _ _ h => h) (Or.inl ⟨by rfl, ?hy15⟩) (by assumption) ?_
        case hy15 => (intro w hSw; (try dsimp only at hSw); go_simp; (try with_reducible rfl))
        try simp only [Act.put, List.setIfInBounds_toArray, List.set_cons_zero, List.set_cons_succ]
        refine wpAnyH_ready (rs := [21]) (by kernel_rfl) (by simp) ?_
        refine AllReadyH.cons (o := { dst := some 89, op := Op.call { callee := Callee.value (Operand.func 14), args := #[], argTypes := #[] }, type := 4, pos := "laws_list_wt04c.go:132", after := #[{ on := 20, ground := Ground.chain }, { on := 20, ground := Ground.guard }], guard := some (20, true) }) rfl (fun K hK => ?_) AllReadyH.nil
        go_simp
        refine (alive_any _).mono ?_
        rintro e w21 ⟨rfl, kn⟩
        have KN := Lib.hid kn
        clear kn
        replace B1 := Lib.hid (keep_blk KN.out B1.out)
        replace B2 := Lib.hid (keep_blk KN.out B2.out)
        replace V1 := Lib.hid (own_below V1.out KN.out)
        replace V2 := Lib.hid (own_below V2.out KN.out)
        replace HW := Lib.hid (below_next HW.out KN.out)
        replace HX := Lib.hid (below_next HX.out KN.out)
        clear KN x0 x1 x2 x3 x4 x5 x6 x7 x8 y0 y1 y2 y3 y4 y5 y6 y7 y8
        obtain ⟨x0, x1, x2, x3, x4, x5, x6, x7, x8⟩ := HN.out.below HW.out HS.out
        obtain ⟨y0, y1, y2, y3, y4, y5, y6, y7, y8⟩ := HNy.out.below HX.out HSy.out
        go_wp2_with fail
        refine hK.out _ _ (by exact ⟨x0, x1, x2, x3, x4, x5, x6, x7, x8, y0, y1, y2, y3, y4, y5, y6, y7, y8⟩) (fun hHeld => ?_)
        clear hK K
        try simp only [Act.put, List.setIfInBounds_toArray, List.set_cons_zero, List.set_cons_succ]
        refine wpAnyH_take (i := 22) (oi := { dst := some 90, op := Op.pick (Operand.tmp 88) (Operand.tmp 89) (Operand.const (Value.bool false)), type := 4, pos := "laws_list_wt04c.go:132", after := #[{ on := 20, ground := Ground.data }, { on := 21, ground := Ground.data }], guard := none }) (v := ?v16) rfl (by kernel_rfl) (by kernel_rfl) (by kernel_rfl) (fun _ _ _ h => h) (Or.inl ⟨by rfl, ?hy16⟩) (by assumption) ?_
        case hy16 => (intro w hSw; (try dsimp only at hSw); go_simp; (try with_reducible rfl))
        try simp only [Act.put, List.setIfInBounds_toArray, List.set_cons_zero, List.set_cons_succ]
        refine wpAnyH_take (i := 23) (oi := { dst := some 8, op := Op.assign (Operand.tmp 90), type := 4, pos := "laws_list_wt04c.go:132", after := #[{ on := 22, ground := Ground.data }, { on := 21, ground := Ground.chain }, { on := 0, ground := Ground.phase }, { on := 1, ground := Ground.phase }, { on := 2, ground := Ground.phase }, { on := 3, ground := Ground.phase }, { on := 4, ground := Ground.phase }, { on := 5, ground := Ground.phase }, { on := 6, ground := Ground.phase }, { on := 7, ground := Ground.phase }, { on := 8, ground := Ground.phase }, { on := 9, ground := Ground.phase }, { on := 10, ground := Ground.phase }, { on := 11, ground := Ground.phase }, { on := 12, ground := Ground.phase }, { on := 13, ground := Ground.phase }, { on := 14, ground := Ground.phase }, { on := 15, ground := Ground.phase }, { on := 16, ground := Ground.phase }, { on := 17, ground := Ground.phase }, { on := 18, ground := Ground.phase }, { on := 19, ground := Ground.phase }, { on := 20, ground := Ground.phase }, { on := 21, ground := Ground.phase }, { on := 22, ground := Ground.phase }], guard := none }) (v := ?v17) rfl (by kernel_rfl) (by kernel_rfl) (by kernel_rfl) (fun _ _ _ h => h) (Or.inl ⟨by rfl, ?hy17⟩) (by assumption) ?_
        case hy17 => (intro w hSw; (try dsimp only at hSw); go_simp; (try with_reducible rfl))
        try simp only [Act.put, List.setIfInBounds_toArray, List.set_cons_zero, List.set_cons_succ]
        refine wpAnyH_done (by kernel_rfl) ?_ _
        refine NoPanic.normal ?_
        go_wp2_with fail
        go_ret
        exact ⟨rfl, fin.out _ HW.out⟩
      refine AllReadyH.cons (o := { dst := some 83, op := Op.buildSlice 22 1 #[(0, Operand.tmp 82)], type := 22, pos := "laws_list_wt04c.go:132", after := #[{ on := 14, ground := Ground.data }], guard := none }) rfl (fun K hK => ?_) ?_
      · skip
        go_simp
        generalize hwn : World.alloc _ _ = w15
        have KN := Lib.hid (al_bl hwn)
        have NB := Lib.hid (al_new hwn)
        clear hwn
        replace B1 := Lib.hid (keep_blk KN.out B1.out)
        replace V1 := Lib.hid (own_below V1.out KN.out)
        replace HW := Lib.hid (below_next HW.out KN.out)
        replace HX := Lib.hid (below_next HX.out KN.out)
        clear KN x0 x1 x2 x3 x4 x5 x6 x7 x8 y0 y1 y2 y3 y4 y5 y6 y7 y8
        obtain ⟨x0, x1, x2, x3, x4, x5, x6, x7, x8⟩ := HN.out.below HW.out HS.out
        obtain ⟨y0, y1, y2, y3, y4, y5, y6, y7, y8⟩ := HNy.out.below HX.out HSy.out
        have B2 := NB
        clear NB
        refine hK.out _ _ (by exact ⟨x0, x1, x2, x3, x4, x5, x6, x7, x8, y0, y1, y2, y3, y4, y5, y6, y7, y8⟩) (fun hHeld => ?_)
        clear hK K
        try simp only [Act.put, List.setIfInBounds_toArray, List.set_cons_zero, List.set_cons_succ]
        refine wpAnyH_ready (rs := [8]) (by kernel_rfl) (by simp) ?_
        refine AllReadyH.cons (o := { dst := some 76, op := Op.call { callee := Callee.value (Operand.func 10), args := #[Operand.tmp 74, Operand.tmp 75], argTypes := #[28, 24] }, type := 9, pos := "laws_list_wt04c.go:132", after := #[{ on := 6, ground := Ground.data }, { on := 7, ground := Ground.data }, { on := 6, ground := Ground.chain }], guard := none }) rfl (fun K hK => ?_) AllReadyH.nil
        go_simp
        refine (HR1.out _ _ _ V1.out).mono ?_
        rintro e w8 ⟨rfl, kn⟩
        have KN := Lib.hid kn
        clear kn
        replace B1 := Lib.hid (keep_blk KN.out B1.out)
        replace B2 := Lib.hid (keep_blk KN.out B2.out)
        replace V1 := Lib.hid (own_below V1.out KN.out)
        replace HW := Lib.hid (below_next HW.out KN.out)
        replace HX := Lib.hid (below_next HX.out KN.out)
        clear KN x0 x1 x2 x3 x4 x5 x6 x7 x8 y0 y1 y2 y3 y4 y5 y6 y7 y8
        obtain ⟨x0, x1, x2, x3, x4, x5, x6, x7, x8⟩ := HN.out.below HW.out HS.out
        obtain ⟨y0, y1, y2, y3, y4, y5, y6, y7, y8⟩ := HNy.out.below HX.out HSy.out
        go_wp2_with fail
        refine hK.out _ _ (by exact ⟨x0, x1, x2, x3, x4, x5, x6, x7, x8, y0, y1, y2, y3, y4, y5, y6, y7, y8⟩) (fun hHeld => ?_)
        clear hK K
        try simp only [Act.put, List.setIfInBounds_toArray, List.set_cons_zero, List.set_cons_succ]
        refine wpAnyH_ready (rs := [16]) (by kernel_rfl) (by simp) ?_
        refine AllReadyH.cons (o := { dst := some 84, op := Op.call { callee := Callee.value (Operand.func 11), args := #[Operand.tmp 83], argTypes := #[22] }, type := 28, pos := "laws_list_wt04c.go:132", after := #[{ on := 15, ground := Ground.data }, { on := 8, ground := Ground.chain }], guard := none }) rfl (fun K hK => ?_) AllReadyH.nil
        go_simp
        refine (steps_one _ _ _ B2.out).mono ?_
        rintro e w16 ⟨v16, rfl, hv, kn⟩
        have KN := Lib.hid kn
        have NV := Lib.hid hv
        clear hv kn
        replace B1 := Lib.hid (keep_blk KN.out B1.out)
        replace B2 := Lib.hid (keep_blk KN.out B2.out)
        replace V1 := Lib.hid (own_below V1.out KN.out)
        replace HW := Lib.hid (below_next HW.out KN.out)
        replace HX := Lib.hid (below_next HX.out KN.out)
        clear KN x0 x1 x2 x3 x4 x5 x6 x7 x8 y0 y1 y2 y3 y4 y5 y6 y7 y8
        obtain ⟨x0, x1, x2, x3, x4, x5, x6, x7, x8⟩ := HN.out.below HW.out HS.out
        obtain ⟨y0, y1, y2, y3, y4, y5, y6, y7, y8⟩ := HNy.out.below HX.out HSy.out
        have V2 := NV
        clear NV
        go_wp2_with fail
        refine hK.out _ _ (by exact ⟨x0, x1, x2, x3, x4, x5, x6, x7, x8, y0, y1, y2, y3, y4, y5, y6, y7, y8⟩) (fun hHeld => ?_)
        clear hK K
        try simp only [Act.put, List.setIfInBounds_toArray, List.set_cons_zero, List.set_cons_succ]
        refine wpAnyH_ready (rs := [18]) (by kernel_rfl) (by simp) ?_
        refine AllReadyH.cons (o := { dst := some 86, op := Op.call { callee := Callee.value (Operand.func 10), args := #[Operand.tmp 84, Operand.tmp 85], argTypes := #[28, 24] }, type := 9, pos := "laws_list_wt04c.go:132", after := #[{ on := 16, ground := Ground.data }, { on := 17, ground := Ground.data }, { on := 16, ground := Ground.chain }], guard := none }) rfl (fun K hK => ?_) AllReadyH.nil
        go_simp
        refine (HR2.out _ _ _ V2.out).mono ?_
        rintro e w18 ⟨rfl, kn⟩
        have KN := Lib.hid kn
        clear kn
        replace B1 := Lib.hid (keep_blk KN.out B1.out)
        replace B2 := Lib.hid (keep_blk KN.out B2.out)
        replace V1 := Lib.hid (own_below V1.out KN.out)
        replace V2 := Lib.hid (own_below V2.out KN.out)
        replace HW := Lib.hid (below_next HW.out KN.out)
        replace HX := Lib.hid (below_next HX.out KN.out)
        clear KN x0 x1 x2 x3 x4 x5 x6 x7 x8 y0 y1 y2 y3 y4 y5 y6 y7 y8
        obtain ⟨x0, x1, x2, x3, x4, x5, x6, x7, x8⟩ := HN.out.below HW.out HS.out
        obtain ⟨y0, y1, y2, y3, y4, y5, y6, y7, y8⟩ := HNy.out.below HX.out HSy.out
        go_wp2_with fail
        refine hK.out _ _ (by exact ⟨x0, x1, x2, x3, x4, x5, x6, x7, x8, y0, y1, y2, y3, y4, y5, y6, y7, y8⟩) (fun hHeld => ?_)
        clear hK K
        try simp only [Act.put, List.setIfInBounds_toArray, List.set_cons_zero, List.set_cons_succ]
        refine wpAnyH_take (i := 19) (oi := { dst := some 87, op := Op.binOp BinOp.eql 9 (Operand.tmp 76) (Operand.tmp 86) 9, type := 4, pos := "laws_list_wt04c.go:132", after := #[{ on := 8, ground := Ground.data }, { on := 18, ground := Ground.data }], guard := none }) (v := ?v18) rfl (by kernel_rfl) (by kernel_rfl) (by kernel_rfl) (fun _ _ _ h => h) (Or.inl ⟨by rfl, ?hy18⟩) (by assumption) ?_
        case hy18 => (intro w hSw; (try dsimp only at hSw); go_simp; (try with_reducible rfl))
        try simp only [Act.put, List.setIfInBounds_toArray, List.set_cons_zero, List.set_cons_succ]
        refine wpAnyH_take (i := 20) (oi := { dst := some 88, op := Op.move (Operand.tmp 87), type := 4, pos := "laws_list_wt04c.go:132", after := #[{ on := 19, ground := Ground.data }, { on := 18, ground := Ground.chain }], guard := none }) (v := ?v19) rfl (by kernel_rfl) (by kernel_rfl) (by kernel_rfl) (fun _ _ _ h => h) (Or.inl ⟨by rfl, ?hy19⟩) (by assumption) ?_
        case hy19 => (intro w hSw; (try dsimp only at hSw); go_simp; (try with_reducible rfl))
        try simp only [Act.put, List.setIfInBounds_toArray, List.set_cons_zero, List.set_cons_succ]
        refine wpAnyH_ready (rs := [21]) (by kernel_rfl) (by simp) ?_
        refine AllReadyH.cons (o := { dst := some 89, op := Op.call { callee := Callee.value (Operand.func 14), args := #[], argTypes := #[] }, type := 4, pos := "laws_list_wt04c.go:132", after := #[{ on := 20, ground := Ground.chain }, { on := 20, ground := Ground.guard }], guard := some (20, true) }) rfl (fun K hK => ?_) AllReadyH.nil
        go_simp
        refine (alive_any _).mono ?_
        rintro e w21 ⟨rfl, kn⟩
        have KN := Lib.hid kn
        clear kn
        replace B1 := Lib.hid (keep_blk KN.out B1.out)
        replace B2 := Lib.hid (keep_blk KN.out B2.out)
        replace V1 := Lib.hid (own_below V1.out KN.out)
        replace V2 := Lib.hid (own_below V2.out KN.out)
        replace HW := Lib.hid (below_next HW.out KN.out)
        replace HX := Lib.hid (below_next HX.out KN.out)
        clear KN x0 x1 x2 x3 x4 x5 x6 x7 x8 y0 y1 y2 y3 y4 y5 y6 y7 y8
        obtain ⟨x0, x1, x2, x3, x4, x5, x6, x7, x8⟩ := HN.out.below HW.out HS.out
        obtain ⟨y0, y1, y2, y3, y4, y5, y6, y7, y8⟩ := HNy.out.below HX.out HSy.out
        go_wp2_with fail
        refine hK.out _ _ (by exact ⟨x0, x1, x2, x3, x4, x5, x6, x7, x8, y0, y1, y2, y3, y4, y5, y6, y7, y8⟩) (fun hHeld => ?_)
        clear hK K
        try simp only [Act.put, List.setIfInBounds_toArray, List.set_cons_zero, List.set_cons_succ]
        refine wpAnyH_take (i := 22) (oi := { dst := some 90, op := Op.pick (Operand.tmp 88) (Operand.tmp 89) (Operand.const (Value.bool false)), type := 4, pos := "laws_list_wt04c.go:132", after := #[{ on := 20, ground := Ground.data }, { on := 21, ground := Ground.data }], guard := none }) (v := ?v20) rfl (by kernel_rfl) (by kernel_rfl) (by kernel_rfl) (fun _ _ _ h => h) (Or.inl ⟨by rfl, ?hy20⟩) (by assumption) ?_
        case hy20 => (intro w hSw; (try dsimp only at hSw); go_simp; (try with_reducible rfl))
        try simp only [Act.put, List.setIfInBounds_toArray, List.set_cons_zero, List.set_cons_succ]
        refine wpAnyH_take (i := 23) (oi := { dst := some 8, op := Op.assign (Operand.tmp 90), type := 4, pos := "laws_list_wt04c.go:132", after := #[{ on := 22, ground := Ground.data }, { on := 21, ground := Ground.chain }, { on := 0, ground := Ground.phase }, { on := 1, ground := Ground.phase }, { on := 2, ground := Ground.phase }, { on := 3, ground := Ground.phase }, { on := 4, ground := Ground.phase }, { on := 5, ground := Ground.phase }, { on := 6, ground := Ground.phase }, { on := 7, ground := Ground.phase }, { on := 8, ground := Ground.phase }, { on := 9, ground := Ground.phase }, { on := 10, ground := Ground.phase }, { on := 11, ground := Ground.phase }, { on := 12, ground := Ground.phase }, { on := 13, ground := Ground.phase }, { on := 14, ground := Ground.phase }, { on := 15, ground := Ground.phase }, { on := 16, ground := Ground.phase }, { on := 17, ground := Ground.phase }, { on := 18, ground := Ground.phase }, { on := 19, ground := Ground.phase }, { on := 20, ground := Ground.phase }, { on := 21, ground := Ground.phase }, { on := 22, ground := Ground.phase }], guard := none }) (v := ?v21) rfl (by kernel_rfl) (by kernel_rfl) (by kernel_rfl) (fun _ _ _ h => h) (Or.inl ⟨by rfl, ?hy21⟩) (by assumption) ?_
        case hy21 => (intro w hSw; (try dsimp only at hSw); go_simp; (try with_reducible rfl))
        try simp only [Act.put, List.setIfInBounds_toArray, List.set_cons_zero, List.set_cons_succ]
        refine wpAnyH_done (by kernel_rfl) ?_ _
        refine NoPanic.normal ?_
        go_wp2_with fail
        go_ret
        exact ⟨rfl, fin.out _ HW.out⟩
      exact AllReadyH.nil
    refine AllReadyH.cons (o := { dst := some 83, op := Op.buildSlice 22 1 #[(0, Operand.tmp 82)], type := 22, pos := "laws_list_wt04c.go:132", after := #[{ on := 14, ground := Ground.data }], guard := none }) rfl (fun K hK => ?_) ?_
    · skip
      go_simp
      generalize hwn : World.alloc _ _ = w15
      have KN := Lib.hid (al_bl hwn)
      have NB := Lib.hid (al_new hwn)
      clear hwn
      replace B1 := Lib.hid (keep_blk KN.out B1.out)
      replace HW := Lib.hid (below_next HW.out KN.out)
      replace HX := Lib.hid (below_next HX.out KN.out)
      clear KN x0 x1 x2 x3 x4 x5 x6 x7 x8 y0 y1 y2 y3 y4 y5 y6 y7 y8
      obtain ⟨x0, x1, x2, x3, x4, x5, x6, x7, x8⟩ := HN.out.below HW.out HS.out
      obtain ⟨y0, y1, y2, y3, y4, y5, y6, y7, y8⟩ := HNy.out.below HX.out HSy.out
      have B2 := NB
      clear NB
      refine hK.out _ _ (by exact ⟨x0, x1, x2, x3, x4, x5, x6, x7, x8, y0, y1, y2, y3, y4, y5, y6, y7, y8⟩) (fun hHeld => ?_)
      clear hK K
      try simp only [Act.put, List.setIfInBounds_toArray, List.set_cons_zero, List.set_cons_succ]
      refine wpAnyH_ready (rs := [6]) (by kernel_rfl) (by simp) ?_
      refine AllReadyH.cons (o := { dst := some 74, op := Op.call { callee := Callee.value (Operand.func 11), args := #[Operand.tmp 73], argTypes := #[22] }, type := 28, pos := "laws_list_wt04c.go:132", after := #[{ on := 5, ground := Ground.data }], guard := none }) rfl (fun K hK => ?_) AllReadyH.nil
      go_simp
      refine (steps_one _ _ _ B1.out).mono ?_
      rintro e w6 ⟨v6, rfl, hv, kn⟩
      have KN := Lib.hid kn
      have NV := Lib.hid hv
      clear hv kn
      replace B1 := Lib.hid (keep_blk KN.out B1.out)
      replace B2 := Lib.hid (keep_blk KN.out B2.out)
      replace HW := Lib.hid (below_next HW.out KN.out)
      replace HX := Lib.hid (below_next HX.out KN.out)
      clear KN x0 x1 x2 x3 x4 x5 x6 x7 x8 y0 y1 y2 y3 y4 y5 y6 y7 y8
      obtain ⟨x0, x1, x2, x3, x4, x5, x6, x7, x8⟩ := HN.out.below HW.out HS.out
      obtain ⟨y0, y1, y2, y3, y4, y5, y6, y7, y8⟩ := HNy.out.below HX.out HSy.out
      have V1 := NV
      clear NV
      go_wp2_with fail
      refine hK.out _ _ (by exact ⟨x0, x1, x2, x3, x4, x5, x6, x7, x8, y0, y1, y2, y3, y4, y5, y6, y7, y8⟩) (fun hHeld => ?_)
      clear hK K
      try simp only [Act.put, List.setIfInBounds_toArray, List.set_cons_zero, List.set_cons_succ]
      refine wpAnyH_ready (rs := [8]) (by kernel_rfl) (by simp) ?_
      refine AllReadyH.cons (o := { dst := some 76, op := Op.call { callee := Callee.value (Operand.func 10), args := #[Operand.tmp 74, Operand.tmp 75], argTypes := #[28, 24] }, type := 9, pos := "laws_list_wt04c.go:132", after := #[{ on := 6, ground := Ground.data }, { on := 7, ground := Ground.data }, { on := 6, ground := Ground.chain }], guard := none }) rfl (fun K hK => ?_) AllReadyH.nil
      go_simp
      refine (HR1.out _ _ _ V1.out).mono ?_
      rintro e w8 ⟨rfl, kn⟩
      have KN := Lib.hid kn
      clear kn
      replace B1 := Lib.hid (keep_blk KN.out B1.out)
      replace B2 := Lib.hid (keep_blk KN.out B2.out)
      replace V1 := Lib.hid (own_below V1.out KN.out)
      replace HW := Lib.hid (below_next HW.out KN.out)
      replace HX := Lib.hid (below_next HX.out KN.out)
      clear KN x0 x1 x2 x3 x4 x5 x6 x7 x8 y0 y1 y2 y3 y4 y5 y6 y7 y8
      obtain ⟨x0, x1, x2, x3, x4, x5, x6, x7, x8⟩ := HN.out.below HW.out HS.out
      obtain ⟨y0, y1, y2, y3, y4, y5, y6, y7, y8⟩ := HNy.out.below HX.out HSy.out
      go_wp2_with fail
      refine hK.out _ _ (by exact ⟨x0, x1, x2, x3, x4, x5, x6, x7, x8, y0, y1, y2, y3, y4, y5, y6, y7, y8⟩) (fun hHeld => ?_)
      clear hK K
      try simp only [Act.put, List.setIfInBounds_toArray, List.set_cons_zero, List.set_cons_succ]
      refine wpAnyH_ready (rs := [16]) (by kernel_rfl) (by simp) ?_
      refine AllReadyH.cons (o := { dst := some 84, op := Op.call { callee := Callee.value (Operand.func 11), args := #[Operand.tmp 83], argTypes := #[22] }, type := 28, pos := "laws_list_wt04c.go:132", after := #[{ on := 15, ground := Ground.data }, { on := 8, ground := Ground.chain }], guard := none }) rfl (fun K hK => ?_) AllReadyH.nil
      go_simp
      refine (steps_one _ _ _ B2.out).mono ?_
      rintro e w16 ⟨v16, rfl, hv, kn⟩
      have KN := Lib.hid kn
      have NV := Lib.hid hv
      clear hv kn
      replace B1 := Lib.hid (keep_blk KN.out B1.out)
      replace B2 := Lib.hid (keep_blk KN.out B2.out)
      replace V1 := Lib.hid (own_below V1.out KN.out)
      replace HW := Lib.hid (below_next HW.out KN.out)
      replace HX := Lib.hid (below_next HX.out KN.out)
      clear KN x0 x1 x2 x3 x4 x5 x6 x7 x8 y0 y1 y2 y3 y4 y5 y6 y7 y8
      obtain ⟨x0, x1, x2, x3, x4, x5, x6, x7, x8⟩ := HN.out.below HW.out HS.out
      obtain ⟨y0, y1, y2, y3, y4, y5, y6, y7, y8⟩ := HNy.out.below HX.out HSy.out
      have V2 := NV
      clear NV
      go_wp2_with fail
      refine hK.out _ _ (by exact ⟨x0, x1, x2, x3, x4, x5, x6, x7, x8, y0, y1, y2, y3, y4, y5, y6, y7, y8⟩) (fun hHeld => ?_)
      clear hK K
      try simp only [Act.put, List.setIfInBounds_toArray, List.set_cons_zero, List.set_cons_succ]
      refine wpAnyH_ready (rs := [18]) (by kernel_rfl) (by simp) ?_
      refine AllReadyH.cons (o := { dst := some 86, op := Op.call { callee := Callee.value (Operand.func 10), args := #[Operand.tmp 84, Operand.tmp 85], argTypes := #[28, 24] }, type := 9, pos := "laws_list_wt04c.go:132", after := #[{ on := 16, ground := Ground.data }, { on := 17, ground := Ground.data }, { on := 16, ground := Ground.chain }], guard := none }) rfl (fun K hK => ?_) AllReadyH.nil
      go_simp
      refine (HR2.out _ _ _ V2.out).mono ?_
      rintro e w18 ⟨rfl, kn⟩
      have KN := Lib.hid kn
      clear kn
      replace B1 := Lib.hid (keep_blk KN.out B1.out)
      replace B2 := Lib.hid (keep_blk KN.out B2.out)
      replace V1 := Lib.hid (own_below V1.out KN.out)
      replace V2 := Lib.hid (own_below V2.out KN.out)
      replace HW := Lib.hid (below_next HW.out KN.out)
      replace HX := Lib.hid (below_next HX.out KN.out)
      clear KN x0 x1 x2 x3 x4 x5 x6 x7 x8 y0 y1 y2 y3 y4 y5 y6 y7 y8
      obtain ⟨x0, x1, x2, x3, x4, x5, x6, x7, x8⟩ := HN.out.below HW.out HS.out
      obtain ⟨y0, y1, y2, y3, y4, y5, y6, y7, y8⟩ := HNy.out.below HX.out HSy.out
      go_wp2_with fail
      refine hK.out _ _ (by exact ⟨x0, x1, x2, x3, x4, x5, x6, x7, x8, y0, y1, y2, y3, y4, y5, y6, y7, y8⟩) (fun hHeld => ?_)
      clear hK K
      try simp only [Act.put, List.setIfInBounds_toArray, List.set_cons_zero, List.set_cons_succ]
      refine wpAnyH_take (i := 19) (oi := { dst := some 87, op := Op.binOp BinOp.eql 9 (Operand.tmp 76) (Operand.tmp 86) 9, type := 4, pos := "laws_list_wt04c.go:132", after := #[{ on := 8, ground := Ground.data }, { on := 18, ground := Ground.data }], guard := none }) (v := ?v22) rfl (by kernel_rfl) (by kernel_rfl) (by kernel_rfl) (fun _ _ _ h => h) (Or.inl ⟨by rfl, ?hy22⟩) (by assumption) ?_
      case hy22 => (intro w hSw; (try dsimp only at hSw); go_simp; (try with_reducible rfl))
      try simp only [Act.put, List.setIfInBounds_toArray, List.set_cons_zero, List.set_cons_succ]
      refine wpAnyH_take (i := 20) (oi := { dst := some 88, op := Op.move (Operand.tmp 87), type := 4, pos := "laws_list_wt04c.go:132", after := #[{ on := 19, ground := Ground.data }, { on := 18, ground := Ground.chain }], guard := none }) (v := ?v23) rfl (by kernel_rfl) (by kernel_rfl) (by kernel_rfl) (fun _ _ _ h => h) (Or.inl ⟨by rfl, ?hy23⟩) (by assumption) ?_
      case hy23 => (intro w hSw; (try dsimp only at hSw); go_simp; (try with_reducible rfl))
      try simp only [Act.put, List.setIfInBounds_toArray, List.set_cons_zero, List.set_cons_succ]
      refine wpAnyH_ready (rs := [21]) (by kernel_rfl) (by simp) ?_
      refine AllReadyH.cons (o := { dst := some 89, op := Op.call { callee := Callee.value (Operand.func 14), args := #[], argTypes := #[] }, type := 4, pos := "laws_list_wt04c.go:132", after := #[{ on := 20, ground := Ground.chain }, { on := 20, ground := Ground.guard }], guard := some (20, true) }) rfl (fun K hK => ?_) AllReadyH.nil
      go_simp
      refine (alive_any _).mono ?_
      rintro e w21 ⟨rfl, kn⟩
      have KN := Lib.hid kn
      clear kn
      replace B1 := Lib.hid (keep_blk KN.out B1.out)
      replace B2 := Lib.hid (keep_blk KN.out B2.out)
      replace V1 := Lib.hid (own_below V1.out KN.out)
      replace V2 := Lib.hid (own_below V2.out KN.out)
      replace HW := Lib.hid (below_next HW.out KN.out)
      replace HX := Lib.hid (below_next HX.out KN.out)
      clear KN x0 x1 x2 x3 x4 x5 x6 x7 x8 y0 y1 y2 y3 y4 y5 y6 y7 y8
      obtain ⟨x0, x1, x2, x3, x4, x5, x6, x7, x8⟩ := HN.out.below HW.out HS.out
      obtain ⟨y0, y1, y2, y3, y4, y5, y6, y7, y8⟩ := HNy.out.below HX.out HSy.out
      go_wp2_with fail
      refine hK.out _ _ (by exact ⟨x0, x1, x2, x3, x4, x5, x6, x7, x8, y0, y1, y2, y3, y4, y5, y6, y7, y8⟩) (fun hHeld => ?_)
      clear hK K
      try simp only [Act.put, List.setIfInBounds_toArray, List.set_cons_zero, List.set_cons_succ]
      refine wpAnyH_take (i := 22) (oi := { dst := some 90, op := Op.pick (Operand.tmp 88) (Operand.tmp 89) (Operand.const (Value.bool false)), type := 4, pos := "laws_list_wt04c.go:132", after := #[{ on := 20, ground := Ground.data }, { on := 21, ground := Ground.data }], guard := none }) (v := ?v24) rfl (by kernel_rfl) (by kernel_rfl) (by kernel_rfl) (fun _ _ _ h => h) (Or.inl ⟨by rfl, ?hy24⟩) (by assumption) ?_
      case hy24 => (intro w hSw; (try dsimp only at hSw); go_simp; (try with_reducible rfl))
      try simp only [Act.put, List.setIfInBounds_toArray, List.set_cons_zero, List.set_cons_succ]
      refine wpAnyH_take (i := 23) (oi := { dst := some 8, op := Op.assign (Operand.tmp 90), type := 4, pos := "laws_list_wt04c.go:132", after := #[{ on := 22, ground := Ground.data }, { on := 21, ground := Ground.chain }, { on := 0, ground := Ground.phase }, { on := 1, ground := Ground.phase }, { on := 2, ground := Ground.phase }, { on := 3, ground := Ground.phase }, { on := 4, ground := Ground.phase }, { on := 5, ground := Ground.phase }, { on := 6, ground := Ground.phase }, { on := 7, ground := Ground.phase }, { on := 8, ground := Ground.phase }, { on := 9, ground := Ground.phase }, { on := 10, ground := Ground.phase }, { on := 11, ground := Ground.phase }, { on := 12, ground := Ground.phase }, { on := 13, ground := Ground.phase }, { on := 14, ground := Ground.phase }, { on := 15, ground := Ground.phase }, { on := 16, ground := Ground.phase }, { on := 17, ground := Ground.phase }, { on := 18, ground := Ground.phase }, { on := 19, ground := Ground.phase }, { on := 20, ground := Ground.phase }, { on := 21, ground := Ground.phase }, { on := 22, ground := Ground.phase }], guard := none }) (v := ?v25) rfl (by kernel_rfl) (by kernel_rfl) (by kernel_rfl) (fun _ _ _ h => h) (Or.inl ⟨by rfl, ?hy25⟩) (by assumption) ?_
      case hy25 => (intro w hSw; (try dsimp only at hSw); go_simp; (try with_reducible rfl))
      try simp only [Act.put, List.setIfInBounds_toArray, List.set_cons_zero, List.set_cons_succ]
      refine wpAnyH_done (by kernel_rfl) ?_ _
      refine NoPanic.normal ?_
      go_wp2_with fail
      go_ret
      exact ⟨rfl, fin.out _ HW.out⟩
    exact AllReadyH.nil
  refine AllReadyH.cons (o := { dst := some 83, op := Op.buildSlice 22 1 #[(0, Operand.tmp 82)], type := 22, pos := "laws_list_wt04c.go:132", after := #[{ on := 14, ground := Ground.data }], guard := none }) rfl (fun K hK => ?_) ?_
  · skip
    go_simp
    generalize hwn : World.alloc _ _ = w15
    have KN := Lib.hid (al_bl hwn)
    have NB := Lib.hid (al_new hwn)
    clear hwn
    replace HW := Lib.hid (below_next HW.out KN.out)
    replace HX := Lib.hid (below_next HX.out KN.out)
    clear KN x0 x1 x2 x3 x4 x5 x6 x7 x8 y0 y1 y2 y3 y4 y5 y6 y7 y8
    obtain ⟨x0, x1, x2, x3, x4, x5, x6, x7, x8⟩ := HN.out.below HW.out HS.out
    obtain ⟨y0, y1, y2, y3, y4, y5, y6, y7, y8⟩ := HNy.out.below HX.out HSy.out
    have B2 := NB
    clear NB
    refine hK.out _ _ (by exact ⟨x0, x1, x2, x3, x4, x5, x6, x7, x8, y0, y1, y2, y3, y4, y5, y6, y7, y8⟩) (fun hHeld => ?_)
    clear hK K
    try simp only [Act.put, List.setIfInBounds_toArray, List.set_cons_zero, List.set_cons_succ]
    refine wpAnyH_ready (rs := [5]) (by kernel_rfl) (by simp) ?_
    refine AllReadyH.cons (o := { dst := some 73, op := Op.buildSlice 22 1 #[(0, Operand.tmp 72)], type := 22, pos := "laws_list_wt04c.go:132", after := #[{ on := 4, ground := Ground.data }], guard := none }) rfl (fun K hK => ?_) AllReadyH.nil
    go_simp
    generalize hwn : World.alloc _ _ = w5
    have KN := Lib.hid (al_bl hwn)
    have NB := Lib.hid (al_new hwn)
    clear hwn
    replace B2 := Lib.hid (keep_blk KN.out B2.out)
    replace HW := Lib.hid (below_next HW.out KN.out)
    replace HX := Lib.hid (below_next HX.out KN.out)
    clear KN x0 x1 x2 x3 x4 x5 x6 x7 x8 y0 y1 y2 y3 y4 y5 y6 y7 y8
    obtain ⟨x0, x1, x2, x3, x4, x5, x6, x7, x8⟩ := HN.out.below HW.out HS.out
    obtain ⟨y0, y1, y2, y3, y4, y5, y6, y7, y8⟩ := HNy.out.below HX.out HSy.out
    have B1 := NB
    clear NB
    refine hK.out _ _ (by exact ⟨x0, x1, x2, x3, x4, x5, x6, x7, x8, y0, y1, y2, y3, y4, y5, y6, y7, y8⟩) (fun hHeld => ?_)
    clear hK K
    try simp only [Act.put, List.setIfInBounds_toArray, List.set_cons_zero, List.set_cons_succ]
    refine wpAnyH_ready (rs := [6]) (by kernel_rfl) (by simp) ?_
    refine AllReadyH.cons (o := { dst := some 74, op := Op.call { callee := Callee.value (Operand.func 11), args := #[Operand.tmp 73], argTypes := #[22] }, type := 28, pos := "laws_list_wt04c.go:132", after := #[{ on := 5, ground := Ground.data }], guard := none }) rfl (fun K hK => ?_) AllReadyH.nil
    go_simp
    refine (steps_one _ _ _ B1.out).mono ?_
    rintro e w6 ⟨v6, rfl, hv, kn⟩
    have KN := Lib.hid kn
    have NV := Lib.hid hv
    clear hv kn
    replace B1 := Lib.hid (keep_blk KN.out B1.out)
    replace B2 := Lib.hid (keep_blk KN.out B2.out)
    replace HW := Lib.hid (below_next HW.out KN.out)
    replace HX := Lib.hid (below_next HX.out KN.out)
    clear KN x0 x1 x2 x3 x4 x5 x6 x7 x8 y0 y1 y2 y3 y4 y5 y6 y7 y8
    obtain ⟨x0, x1, x2, x3, x4, x5, x6, x7, x8⟩ := HN.out.below HW.out HS.out
    obtain ⟨y0, y1, y2, y3, y4, y5, y6, y7, y8⟩ := HNy.out.below HX.out HSy.out
    have V1 := NV
    clear NV
    go_wp2_with fail
    refine hK.out _ _ (by exact ⟨x0, x1, x2, x3, x4, x5, x6, x7, x8, y0, y1, y2, y3, y4, y5, y6, y7, y8⟩) (fun hHeld => ?_)
    clear hK K
    try simp only [Act.put, List.setIfInBounds_toArray, List.set_cons_zero, List.set_cons_succ]
    refine wpAnyH_ready (rs := [8]) (by kernel_rfl) (by simp) ?_
    refine AllReadyH.cons (o := { dst := some 76, op := Op.call { callee := Callee.value (Operand.func 10), args := #[Operand.tmp 74, Operand.tmp 75], argTypes := #[28, 24] }, type := 9, pos := "laws_list_wt04c.go:132", after := #[{ on := 6, ground := Ground.data }, { on := 7, ground := Ground.data }, { on := 6, ground := Ground.chain }], guard := none }) rfl (fun K hK => ?_) AllReadyH.nil
    go_simp
    refine (HR1.out _ _ _ V1.out).mono ?_
    rintro e w8 ⟨rfl, kn⟩
    have KN := Lib.hid kn
    clear kn
    replace B1 := Lib.hid (keep_blk KN.out B1.out)
    replace B2 := Lib.hid (keep_blk KN.out B2.out)
    replace V1 := Lib.hid (own_below V1.out KN.out)
    replace HW := Lib.hid (below_next HW.out KN.out)
    replace HX := Lib.hid (below_next HX.out KN.out)
    clear KN x0 x1 x2 x3 x4 x5 x6 x7 x8 y0 y1 y2 y3 y4 y5 y6 y7 y8
    obtain ⟨x0, x1, x2, x3, x4, x5, x6, x7, x8⟩ := HN.out.below HW.out HS.out
    obtain ⟨y0, y1, y2, y3, y4, y5, y6, y7, y8⟩ := HNy.out.below HX.out HSy.out
    go_wp2_with fail
    refine hK.out _ _ (by exact ⟨x0, x1, x2, x3, x4, x5, x6, x7, x8, y0, y1, y2, y3, y4, y5, y6, y7, y8⟩) (fun hHeld => ?_)
    clear hK K
    try simp only [Act.put, List.setIfInBounds_toArray, List.set_cons_zero, List.set_cons_succ]
    refine wpAnyH_ready (rs := [16]) (by kernel_rfl) (by simp) ?_
    refine AllReadyH.cons (o := { dst := some 84, op := Op.call { callee := Callee.value (Operand.func 11), args := #[Operand.tmp 83], argTypes := #[22] }, type := 28, pos := "laws_list_wt04c.go:132", after := #[{ on := 15, ground := Ground.data }, { on := 8, ground := Ground.chain }], guard := none }) rfl (fun K hK => ?_) AllReadyH.nil
    go_simp
    refine (steps_one _ _ _ B2.out).mono ?_
    rintro e w16 ⟨v16, rfl, hv, kn⟩
    have KN := Lib.hid kn
    have NV := Lib.hid hv
    clear hv kn
    replace B1 := Lib.hid (keep_blk KN.out B1.out)
    replace B2 := Lib.hid (keep_blk KN.out B2.out)
    replace V1 := Lib.hid (own_below V1.out KN.out)
    replace HW := Lib.hid (below_next HW.out KN.out)
    replace HX := Lib.hid (below_next HX.out KN.out)
    clear KN x0 x1 x2 x3 x4 x5 x6 x7 x8 y0 y1 y2 y3 y4 y5 y6 y7 y8
    obtain ⟨x0, x1, x2, x3, x4, x5, x6, x7, x8⟩ := HN.out.below HW.out HS.out
    obtain ⟨y0, y1, y2, y3, y4, y5, y6, y7, y8⟩ := HNy.out.below HX.out HSy.out
    have V2 := NV
    clear NV
    go_wp2_with fail
    refine hK.out _ _ (by exact ⟨x0, x1, x2, x3, x4, x5, x6, x7, x8, y0, y1, y2, y3, y4, y5, y6, y7, y8⟩) (fun hHeld => ?_)
    clear hK K
    try simp only [Act.put, List.setIfInBounds_toArray, List.set_cons_zero, List.set_cons_succ]
    refine wpAnyH_ready (rs := [18]) (by kernel_rfl) (by simp) ?_
    refine AllReadyH.cons (o := { dst := some 86, op := Op.call { callee := Callee.value (Operand.func 10), args := #[Operand.tmp 84, Operand.tmp 85], argTypes := #[28, 24] }, type := 9, pos := "laws_list_wt04c.go:132", after := #[{ on := 16, ground := Ground.data }, { on := 17, ground := Ground.data }, { on := 16, ground := Ground.chain }], guard := none }) rfl (fun K hK => ?_) AllReadyH.nil
    go_simp
    refine (HR2.out _ _ _ V2.out).mono ?_
    rintro e w18 ⟨rfl, kn⟩
    have KN := Lib.hid kn
    clear kn
    replace B1 := Lib.hid (keep_blk KN.out B1.out)
    replace B2 := Lib.hid (keep_blk KN.out B2.out)
    replace V1 := Lib.hid (own_below V1.out KN.out)
    replace V2 := Lib.hid (own_below V2.out KN.out)
    replace HW := Lib.hid (below_next HW.out KN.out)
    replace HX := Lib.hid (below_next HX.out KN.out)
    clear KN x0 x1 x2 x3 x4 x5 x6 x7 x8 y0 y1 y2 y3 y4 y5 y6 y7 y8
    obtain ⟨x0, x1, x2, x3, x4, x5, x6, x7, x8⟩ := HN.out.below HW.out HS.out
    obtain ⟨y0, y1, y2, y3, y4, y5, y6, y7, y8⟩ := HNy.out.below HX.out HSy.out
    go_wp2_with fail
    refine hK.out _ _ (by exact ⟨x0, x1, x2, x3, x4, x5, x6, x7, x8, y0, y1, y2, y3, y4, y5, y6, y7, y8⟩) (fun hHeld => ?_)
    clear hK K
    try simp only [Act.put, List.setIfInBounds_toArray, List.set_cons_zero, List.set_cons_succ]
    refine wpAnyH_take (i := 19) (oi := { dst := some 87, op := Op.binOp BinOp.eql 9 (Operand.tmp 76) (Operand.tmp 86) 9, type := 4, pos := "laws_list_wt04c.go:132", after := #[{ on := 8, ground := Ground.data }, { on := 18, ground := Ground.data }], guard := none }) (v := ?v26) rfl (by kernel_rfl) (by kernel_rfl) (by kernel_rfl) (fun _ _ _ h => h) (Or.inl ⟨by rfl, ?hy26⟩) (by assumption) ?_
    case hy26 => (intro w hSw; (try dsimp only at hSw); go_simp; (try with_reducible rfl))
    try simp only [Act.put, List.setIfInBounds_toArray, List.set_cons_zero, List.set_cons_succ]
    refine wpAnyH_take (i := 20) (oi := { dst := some 88, op := Op.move (Operand.tmp 87), type := 4, pos := "laws_list_wt04c.go:132", after := #[{ on := 19, ground := Ground.data }, { on := 18, ground := Ground.chain }], guard := none }) (v := ?v27) rfl (by kernel_rfl) (by kernel_rfl) (by kernel_rfl) (fun _ _ _ h => h) (Or.inl ⟨by rfl, ?hy27⟩) (by assumption) ?_
    case hy27 => (intro w hSw; (try dsimp only at hSw); go_simp; (try with_reducible rfl))
    try simp only [Act.put, List.setIfInBounds_toArray, List.set_cons_zero, List.set_cons_succ]
    refine wpAnyH_ready (rs := [21]) (by kernel_rfl) (by simp) ?_
    refine AllReadyH.cons (o := { dst := some 89, op := Op.call { callee := Callee.value (Operand.func 14), args := #[], argTypes := #[] }, type := 4, pos := "laws_list_wt04c.go:132", after := #[{ on := 20, ground := Ground.chain }, { on := 20, ground := Ground.guard }], guard := some (20, true) }) rfl (fun K hK => ?_) AllReadyH.nil
    go_simp
    refine (alive_any _).mono ?_
    rintro e w21 ⟨rfl, kn⟩
    have KN := Lib.hid kn
    clear kn
    replace B1 := Lib.hid (keep_blk KN.out B1.out)
    replace B2 := Lib.hid (keep_blk KN.out B2.out)
    replace V1 := Lib.hid (own_below V1.out KN.out)
    replace V2 := Lib.hid (own_below V2.out KN.out)
    replace HW := Lib.hid (below_next HW.out KN.out)
    replace HX := Lib.hid (below_next HX.out KN.out)
    clear KN x0 x1 x2 x3 x4 x5 x6 x7 x8 y0 y1 y2 y3 y4 y5 y6 y7 y8
    obtain ⟨x0, x1, x2, x3, x4, x5, x6, x7, x8⟩ := HN.out.below HW.out HS.out
    obtain ⟨y0, y1, y2, y3, y4, y5, y6, y7, y8⟩ := HNy.out.below HX.out HSy.out
    go_wp2_with fail
    refine hK.out _ _ (by exact ⟨x0, x1, x2, x3, x4, x5, x6, x7, x8, y0, y1, y2, y3, y4, y5, y6, y7, y8⟩) (fun hHeld => ?_)
    clear hK K
    try simp only [Act.put, List.setIfInBounds_toArray, List.set_cons_zero, List.set_cons_succ]
    refine wpAnyH_take (i := 22) (oi := { dst := some 90, op := Op.pick (Operand.tmp 88) (Operand.tmp 89) (Operand.const (Value.bool false)), type := 4, pos := "laws_list_wt04c.go:132", after := #[{ on := 20, ground := Ground.data }, { on := 21, ground := Ground.data }], guard := none }) (v := ?v28) rfl (by kernel_rfl) (by kernel_rfl) (by kernel_rfl) (fun _ _ _ h => h) (Or.inl ⟨by rfl, ?hy28⟩) (by assumption) ?_
    case hy28 => (intro w hSw; (try dsimp only at hSw); go_simp; (try with_reducible rfl))
    try simp only [Act.put, List.setIfInBounds_toArray, List.set_cons_zero, List.set_cons_succ]
    refine wpAnyH_take (i := 23) (oi := { dst := some 8, op := Op.assign (Operand.tmp 90), type := 4, pos := "laws_list_wt04c.go:132", after := #[{ on := 22, ground := Ground.data }, { on := 21, ground := Ground.chain }, { on := 0, ground := Ground.phase }, { on := 1, ground := Ground.phase }, { on := 2, ground := Ground.phase }, { on := 3, ground := Ground.phase }, { on := 4, ground := Ground.phase }, { on := 5, ground := Ground.phase }, { on := 6, ground := Ground.phase }, { on := 7, ground := Ground.phase }, { on := 8, ground := Ground.phase }, { on := 9, ground := Ground.phase }, { on := 10, ground := Ground.phase }, { on := 11, ground := Ground.phase }, { on := 12, ground := Ground.phase }, { on := 13, ground := Ground.phase }, { on := 14, ground := Ground.phase }, { on := 15, ground := Ground.phase }, { on := 16, ground := Ground.phase }, { on := 17, ground := Ground.phase }, { on := 18, ground := Ground.phase }, { on := 19, ground := Ground.phase }, { on := 20, ground := Ground.phase }, { on := 21, ground := Ground.phase }, { on := 22, ground := Ground.phase }], guard := none }) (v := ?v29) rfl (by kernel_rfl) (by kernel_rfl) (by kernel_rfl) (fun _ _ _ h => h) (Or.inl ⟨by rfl, ?hy29⟩) (by assumption) ?_
    case hy29 => (intro w hSw; (try dsimp only at hSw); go_simp; (try with_reducible rfl))
    try simp only [Act.put, List.setIfInBounds_toArray, List.set_cons_zero, List.set_cons_succ]
    refine wpAnyH_done (by kernel_rfl) ?_ _
    refine NoPanic.normal ?_
    go_wp2_with fail
    go_ret
    exact ⟨rfl, fin.out _ HW.out⟩
  exact AllReadyH.nil
end Go.Proofs.YthdkbokdikhojaaDoor
