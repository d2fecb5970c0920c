/- FnListDrawn: the walk of the law. No conditions. -/
import Derived.Test.YthdkbokdikhojaaDoorLdY
namespace Go.Proofs.YthdkbokdikhojaaDoor
open Go.RowKit
set_option linter.unusedVariables false
def BxZ (b : Nat) (z : Int) (s1 s2 s3 s4 s5 s6 s7 s8 : ByteArray) (w : World) : Prop := w.cell? ⟨b, 0, none⟩ = some (.int .i64 z) ∧ w.cell? ⟨b, 1, none⟩ = some (.string s1) ∧ w.cell? ⟨b, 2, none⟩ = some (.string s2) ∧ w.cell? ⟨b, 3, none⟩ = some (.string s3) ∧ w.cell? ⟨b, 4, none⟩ = some (.string s4) ∧ w.cell? ⟨b, 5, none⟩ = some (.string s5) ∧ w.cell? ⟨b, 6, none⟩ = some (.string s6) ∧ w.cell? ⟨b, 7, none⟩ = some (.string s7) ∧ w.cell? ⟨b, 8, none⟩ = some (.string s8)
theorem BxZ.new (z : Int) (s1 s2 s3 s4 s5 s6 s7 s8 : ByteArray) (w : World) : BxZ w.heap.size z s1 s2 s3 s4 s5 s6 s7 s8 (w.alloc (.cells #[.int .i64 z, .string s1, .string s2, .string s3, .string s4, .string s5, .string s6, .string s7, .string s8] 24)) := by
  have q := fun k => cell_of_row _ w.heap.size k _ 24 (0, 0) (heap_alloc_new w (.cells #[.int .i64 z, .string s1, .string s2, .string s3, .string s4, .string s5, .string s6, .string s7, .string s8] 24))
  exact ⟨q 0, q 1, q 2, q 3, q 4, q 5, q 6, q 7, q 8⟩
theorem BxZ.below {b : Nat} {z : Int} {s1 s2 s3 s4 s5 s6 s7 s8 : ByteArray} {w w' : World} {B : Nat} (h : BxZ b z s1 s2 s3 s4 s5 s6 s7 s8 w) (hb : Below B w w') (hlt : b < B) : BxZ b z s1 s2 s3 s4 s5 s6 s7 s8 w' := by
  have c := fun k => hb.cell (p := ⟨b, k, none⟩) hlt
  obtain ⟨h0, h1, h2, h3, h4, h5, h6, h7, h8⟩ := h
  exact ⟨(c 0).trans h0, (c 1).trans h1, (c 2).trans h2, (c 3).trans h3, (c 4).trans h4, (c 5).trans h5, (c 6).trans h6, (c 7).trans h7, (c 8).trans h8⟩
theorem below_next {w a b : World} (h : Below w.heap.size w a) (k : Below a.heap.size a b) : Below w.heap.size w b := h.trans (k.mono h.size)
def drawnX (l : List (ByteArray × Int)) (n : Nat) (s1 s2 s3 s4 s5 s6 s8 : ByteArray) : List UInt8 := drawnW (Ldd l s1 s2 s3 s4 s5 s6 s8) l n n
theorem render_c (l : List (ByteArray × Int)) (n : Nat) (z : Int) (s1 s2 s3 s4 s5 s6 s7 s8 : ByteArray) (hn : l.length = n) (hR : RightL l) (hT : topP l n) (hS : Styled z s1 s2 s3 s4 s5 s6 s7 s8) (v : Value) (base : Nat) (W : World) (hv : W.ownsRow base 50 3 v (stepsTo l l.length).length (stpCells (stepsTo l l.length))) :
    Calls Tryd.prog 10 #[v, styA z s1 s2 s3 s4 s5 s6 s7 s8] W fun e w' => e = .returned (.string ⟨(drawnX l n s1 s2 s3 s4 s5 s6 s8).toArray⟩) ∧ Below W.heap.size W w' := by
  have he := drawn_eq (Ldd l s1 s2 s3 s4 s5 s6 s8) l n hn rfl (by have := hR.1; rw [hn] at this; exact this) hT n (Nat.le_refl _)
  have e2 : (itemsTo l l.length).length = n := by rw [its_len, hn]
  obtain rfl := hS.z0
  obtain rfl := hS.nl
  have h := lr_any v (itemsTo l l.length) s1 s2 s3 s4 s5 s6 ⟨#[10]⟩ s8 W (Ldd l s1 s2 s3 s4 s5 s6 s8) rfl (ldd_ok hR hS) (ldd_fits hR) (fun W2 hb => made_any base v l W2 hR (own_below hv hb))
  rw [e2, he] at h
  exact h
theorem drawn_c (A : Option Addr) (n cap : Nat) (l : List (ByteArray × Int)) (z : Int) (s1 s2 s3 s4 s5 s6 s7 s8 : ByteArray) (hn : l.length = n) (hR : RightL l) (hS : Styled z s1 s2 s3 s4 s5 s6 s7 s8) (W : World) (h : LsArg W W.heap.size A n cap l) :
    Calls Tryd.prog 12 #[.slice A n cap, styA z s1 s2 s3 s4 s5 s6 s7 s8] W fun e w' => e = .returned (.string ⟨(drawnX l n s1 s2 s3 s4 s5 s6 s8).toArray⟩) ∧ Below W.heap.size W w' := by
  have hok := ldd_ok hR hS
  have his := ldd_is (l := l) hS
  obtain rfl := hS.z0
  obtain rfl := hS.nl
  exact lsDrawn_any (Ldd l s1 s2 s3 s4 s5 s6 s8) A n cap l W.heap.size W (Nat.le_refl _) h (by have := hR.2; omega) his hok (fun k hk => by
    have h1 := hR.1 k (by omega)
    have h2 := hR.2
    exact ⟨h1.1, by omega, h1.2.2.2.1⟩)
set_option maxHeartbeats 8000000 in
set_option maxRecDepth 100000 in
theorem lawDrawn (A : Option Addr) (n cap : Nat) (l : List (ByteArray × Int)) (z : Int) (s1 s2 s3 s4 s5 s6 s7 s8 : ByteArray) (w : World) (h : LsArg w w.heap.size A n cap l) (hz : -9223372036854775808 ≤ z ∧ z ≤ 9223372036854775807)
    (_ : s1.size ≤ maxLen) (_ : s2.size ≤ maxLen) (_ : s3.size ≤ maxLen) (_ : s4.size ≤ maxLen) (_ : s5.size ≤ maxLen) (_ : s6.size ≤ maxLen) (_ : s7.size ≤ maxLen) (_ : s8.size ≤ maxLen) :
    Calls Tryd.prog 3 #[.slice A n cap, styA z s1 s2 s3 s4 s5 s6 s7 s8] w fun e w' => e = .returned (.bool true) ∧ Below w.heap.size w w' := by
  have hln := h.2.1
  have hnc := h.2.2.1
  have hcm := h.2.2.2
  unfold maxLen at hcm
  obtain ⟨wa, hwa⟩ : ∃ wa : World, w.alloc (.cells #[.int .i64 z, .string s1, .string s2, .string s3, .string s4, .string s5, .string s6, .string s7, .string s8] 24) = wa := ⟨_, rfl⟩
  have HBa := Lib.hid (show Below w.heap.size w wa by rw [← hwa]; exact (Below.refl w.heap.size w).alloc (Nat.le_refl _) _)
  have HS := Lib.hid (show w.heap.size < wa.heap.size by rw [← hwa]; simp)
  have HN := Lib.hid (show BxZ w.heap.size z s1 s2 s3 s4 s5 s6 s7 s8 wa by rw [← hwa]; exact BxZ.new z s1 s2 s3 s4 s5 s6 s7 s8 w)
  have HA := Lib.hid (fun (W : World) (hb : Below wa.heap.size wa W) => show LsArg W W.heap.size A n cap l from (h.below (HBa.out.trans (hb.mono (Nat.le_of_lt HS.out)))).more (Nat.le_trans (Nat.le_of_lt HS.out) hb.size))
  have HL := Lib.hid hln
  have HZ := Lib.hid hz
  clear h hln hz
  unfold styA at *
  go_enter Tryd.func3, Tryd.ntmps3
  go_wp2_with (go_at_call 5; refine halt_U ?_)
  refine resume_U ?_
  refine (fits1_any A n cap l wa (HA.out wa (Below.refl _ _))).mono ?_
  rintro e w1 ⟨b1, rfl, hb1, -⟩
  have B1 := Lib.hid hb1
  clear hb1 hwa
  cases b1 with
  | false =>
    go_wp2_with fail
    go_ret
    exact ⟨rfl, HBa.out.trans (B1.out.mono (Nat.le_of_lt HS.out))⟩
  | true =>
    obtain ⟨x0, x1, x2, x3, x4, x5, x6, x7, x8⟩ := HN.out.below B1.out HS.out
    go_wp2_with (go_at_call 6; refine halt_U ?_)
    refine resume_U ?_
    refine (fits3_any z s1 s2 s3 s4 s5 s6 s7 s8 w1).mono ?_
    rintro e w2 ⟨b2, rfl, hb2, -⟩
    have B2 := Lib.hid (below_next B1.out hb2)
    clear hb2 B1 x0 x1 x2 x3 x4 x5 x6 x7 x8
    cases b2 with
    | false =>
      go_wp2_with fail
      go_ret
      exact ⟨rfl, HBa.out.trans (B2.out.mono (Nat.le_of_lt HS.out))⟩
    | true =>
      obtain ⟨x0, x1, x2, x3, x4, x5, x6, x7, x8⟩ := HN.out.below B2.out HS.out
      have HW2 := Lib.hid (Below.drew B2.out)
      have HSt := Lib.hid (fun W => styled_any z s1 s2 s3 s4 s5 s6 s7 s8 W HZ.out)
      unfold styA at HSt
      clear B2
      go_wp2_with fail
      refine wp_region_noPanic ?_
      refine wp_region_held_drew (S := (fun w' => w'.cell? ⟨w.heap.size, 0, none⟩ = some (.int .i64 z) ∧ w'.cell? ⟨w.heap.size, 1, none⟩ = some (.string s1) ∧ w'.cell? ⟨w.heap.size, 2, none⟩ = some (.string s2) ∧ w'.cell? ⟨w.heap.size, 3, none⟩ = some (.string s3) ∧ w'.cell? ⟨w.heap.size, 4, none⟩ = some (.string s4) ∧ w'.cell? ⟨w.heap.size, 5, none⟩ = some (.string s5) ∧ w'.cell? ⟨w.heap.size, 6, none⟩ = some (.string s6) ∧ w'.cell? ⟨w.heap.size, 7, none⟩ = some (.string s7) ∧ w'.cell? ⟨w.heap.size, 8, none⟩ = some (.string s8))) (by kernel_rfl) (by (try dsimp only); go_keep) (fun hHeld => ?_)
      refine wpAnyH_take (i := 0) (oi := { dst := some 13, op := Op.move (Operand.tmp 0), type := 22, pos := "laws_list_wt04c.go:20", after := #[], guard := none }) (v := ?v1) rfl (by kernel_rfl) (by kernel_rfl) (by kernel_rfl) (fun _ _ _ h => h) (Or.inl ⟨by rfl, ?hy1⟩) (by assumption) ?_
      case hy1 => (intro w hSw; (try dsimp only at hSw); go_simp; (try with_reducible rfl))
      try simp only [Act.put, List.setIfInBounds_toArray, List.set_cons_zero, List.set_cons_succ]
      refine wpAnyH_ready (rs := [1]) (by kernel_rfl) (by simp) ?_
      refine AllReadyH.cons (o := { dst := some 14, op := Op.call { callee := Callee.value (Operand.func 7), args := #[Operand.tmp 13], argTypes := #[22] }, type := 4, pos := "laws_list_wt04c.go:20", after := #[{ on := 0, ground := Ground.data }], guard := none }) rfl (fun K hK => ?_) AllReadyH.nil
      go_simp
      refine (right_iff A n cap l _ (HA.out _ HW2.out)).mono ?_
      rintro e w3 ⟨b3, rfl, k3, i3⟩
      have HW3 := Lib.hid (below_next HW2.out k3)
      have I3 := Lib.hid i3
      clear k3 HW2 i3 x0 x1 x2 x3 x4 x5 x6 x7 x8
      obtain ⟨x0, x1, x2, x3, x4, x5, x6, x7, x8⟩ := HN.out.below HW3.out HS.out
      cases b3
      · clear I3
        go_wp2_with fail
        refine hK.out _ _ (by exact ⟨x0, x1, x2, x3, x4, x5, x6, x7, x8⟩) (fun hHeld => ?_)
        clear hK K
        try simp only [Act.put, List.setIfInBounds_toArray, List.set_cons_zero, List.set_cons_succ]
        refine wpAnyH_take (i := 2) (oi := { dst := some 15, op := Op.unOp UnOp.not 4 (Operand.tmp 14), type := 4, pos := "laws_list_wt04c.go:20", after := #[{ on := 1, ground := Ground.data }], guard := none }) (v := ?v2) rfl (by kernel_rfl) (by kernel_rfl) (by kernel_rfl) (fun _ _ _ h => h) (Or.inl ⟨by rfl, ?hy2⟩) (by assumption) ?_
        case hy2 => (intro w hSw; (try dsimp only at hSw); go_simp; (try with_reducible rfl))
        try simp only [Act.put, List.setIfInBounds_toArray, List.set_cons_zero, List.set_cons_succ]
        refine wpAnyH_take (i := 3) (oi := { dst := some 16, op := Op.move (Operand.tmp 15), type := 4, pos := "laws_list_wt04c.go:20", after := #[{ on := 2, ground := Ground.data }, { on := 1, ground := Ground.chain }], guard := none }) (v := ?v3) rfl (by kernel_rfl) (by kernel_rfl) (by kernel_rfl) (fun _ _ _ h => h) (Or.inl ⟨by rfl, ?hy3⟩) (by assumption) ?_
        case hy3 => (intro w hSw; (try dsimp only at hSw); go_simp; (try with_reducible rfl))
        try simp only [Act.put, List.setIfInBounds_toArray, List.set_cons_zero, List.set_cons_succ]
        refine wpAnyH_take (i := 4) (oi := { dst := some 17, op := Op.move (Operand.tmp 0), type := 22, pos := "laws_list_wt04c.go:20", after := #[{ on := 3, ground := Ground.guard }], guard := some (3, false) }) (v := undef) rfl (by kernel_rfl) (by kernel_rfl) (by kernel_rfl) (fun _ _ _ h => h) (Or.inr ⟨by rfl, rfl⟩) (by assumption) ?_
        try simp only [Act.put, List.setIfInBounds_toArray, List.set_cons_zero, List.set_cons_succ]
        refine wpAnyH_take (i := 5) (oi := { dst := some 18, op := Op.call { callee := Callee.builtin Builtin.len, args := #[Operand.tmp 17], argTypes := #[22] }, type := 3, pos := "laws_list_wt04c.go:20", after := #[{ on := 4, ground := Ground.data }, { on := 3, ground := Ground.guard }], guard := some (3, false) }) (v := undef) rfl (by kernel_rfl) (by kernel_rfl) (by kernel_rfl) (fun _ _ _ h => h) (Or.inr ⟨by rfl, rfl⟩) (by assumption) ?_
        try simp only [Act.put, List.setIfInBounds_toArray, List.set_cons_zero, List.set_cons_succ]
        refine wpAnyH_take (i := 6) (oi := { dst := some 19, op := Op.binOp BinOp.eql 3 (Operand.tmp 18) (Operand.const (Value.int IntKind.i64 0)) 3, type := 4, pos := "laws_list_wt04c.go:20", after := #[{ on := 5, ground := Ground.data }, { on := 3, ground := Ground.guard }], guard := some (3, false) }) (v := undef) rfl (by kernel_rfl) (by kernel_rfl) (by kernel_rfl) (fun _ _ _ h => h) (Or.inr ⟨by rfl, rfl⟩) (by assumption) ?_
        try simp only [Act.put, List.setIfInBounds_toArray, List.set_cons_zero, List.set_cons_succ]
        refine wpAnyH_take (i := 7) (oi := { dst := some 20, op := Op.pick (Operand.tmp 16) (Operand.const (Value.bool true)) (Operand.tmp 19), type := 4, pos := "laws_list_wt04c.go:20", after := #[{ on := 3, ground := Ground.data }, { on := 6, ground := Ground.data }], guard := none }) (v := ?v4) rfl (by kernel_rfl) (by kernel_rfl) (by kernel_rfl) (fun _ _ _ h => h) (Or.inl ⟨by rfl, ?hy4⟩) (by assumption) ?_
        case hy4 => (intro w hSw; (try dsimp only at hSw); go_simp; (try with_reducible rfl))
        try simp only [Act.put, List.setIfInBounds_toArray, List.set_cons_zero, List.set_cons_succ]
        refine wpAnyH_take (i := 8) (oi := { dst := some 21, op := Op.move (Operand.tmp 20), type := 4, pos := "laws_list_wt04c.go:20", after := #[{ on := 7, ground := Ground.data }, { on := 3, ground := Ground.chain }], guard := none }) (v := ?v5) rfl (by kernel_rfl) (by kernel_rfl) (by kernel_rfl) (fun _ _ _ h => h) (Or.inl ⟨by rfl, ?hy5⟩) (by assumption) ?_
        case hy5 => (intro w hSw; (try dsimp only at hSw); go_simp; (try with_reducible rfl))
        try simp only [Act.put, List.setIfInBounds_toArray, List.set_cons_zero, List.set_cons_succ]
        refine wpAnyH_take (i := 9) (oi := { dst := some 22, op := Op.move (Operand.tmp 0), type := 22, pos := "laws_list_wt04c.go:20", after := #[{ on := 8, ground := Ground.guard }], guard := some (8, false) }) (v := undef) rfl (by kernel_rfl) (by kernel_rfl) (by kernel_rfl) (fun _ _ _ h => h) (Or.inr ⟨by rfl, rfl⟩) (by assumption) ?_
        try simp only [Act.put, List.setIfInBounds_toArray, List.set_cons_zero, List.set_cons_succ]
        refine wpAnyH_take (i := 10) (oi := { dst := some 23, op := Op.call { callee := Callee.value (Operand.func 8), args := #[Operand.tmp 22], argTypes := #[22] }, type := 4, pos := "laws_list_wt04c.go:20", after := #[{ on := 9, ground := Ground.data }, { on := 8, ground := Ground.chain }, { on := 8, ground := Ground.guard }], guard := some (8, false) }) (v := undef) rfl (by kernel_rfl) (by kernel_rfl) (by kernel_rfl) (fun _ _ _ h => h) (Or.inr ⟨by rfl, rfl⟩) (by assumption) ?_
        try simp only [Act.put, List.setIfInBounds_toArray, List.set_cons_zero, List.set_cons_succ]
        refine wpAnyH_take (i := 11) (oi := { dst := some 24, op := Op.unOp UnOp.not 4 (Operand.tmp 23), type := 4, pos := "laws_list_wt04c.go:20", after := #[{ on := 10, ground := Ground.data }, { on := 8, ground := Ground.guard }], guard := some (8, false) }) (v := undef) rfl (by kernel_rfl) (by kernel_rfl) (by kernel_rfl) (fun _ _ _ h => h) (Or.inr ⟨by rfl, rfl⟩) (by assumption) ?_
        try simp only [Act.put, List.setIfInBounds_toArray, List.set_cons_zero, List.set_cons_succ]
        refine wpAnyH_take (i := 12) (oi := { dst := some 25, op := Op.pick (Operand.tmp 21) (Operand.const (Value.bool true)) (Operand.tmp 24), type := 4, pos := "laws_list_wt04c.go:20", after := #[{ on := 8, ground := Ground.data }, { on := 11, ground := Ground.data }], guard := none }) (v := ?v6) rfl (by kernel_rfl) (by kernel_rfl) (by kernel_rfl) (fun _ _ _ h => h) (Or.inl ⟨by rfl, ?hy6⟩) (by assumption) ?_
        case hy6 => (intro w hSw; (try dsimp only at hSw); go_simp; (try with_reducible rfl))
        try simp only [Act.put, List.setIfInBounds_toArray, List.set_cons_zero, List.set_cons_succ]
        refine wpAnyH_take (i := 13) (oi := { dst := some 26, op := Op.move (Operand.tmp 25), type := 4, pos := "laws_list_wt04c.go:20", after := #[{ on := 12, ground := Ground.data }, { on := 10, ground := Ground.chain }], guard := none }) (v := ?v7) rfl (by kernel_rfl) (by kernel_rfl) (by kernel_rfl) (fun _ _ _ h => h) (Or.inl ⟨by rfl, ?hy7⟩) (by assumption) ?_
        case hy7 => (intro w hSw; (try dsimp only at hSw); go_simp; (try with_reducible rfl))
        try simp only [Act.put, List.setIfInBounds_toArray, List.set_cons_zero, List.set_cons_succ]
        refine wpAnyH_take (i := 14) (oi := { dst := some 27, op := Op.load 24 (Operand.tmp 3), type := 24, pos := "laws_list_wt04c.go:20", after := #[{ on := 13, ground := Ground.guard }], guard := some (13, false) }) (v := undef) rfl (by kernel_rfl) (by kernel_rfl) (by kernel_rfl) (fun _ _ _ h => h) (Or.inr ⟨by rfl, rfl⟩) (by assumption) ?_
        try simp only [Act.put, List.setIfInBounds_toArray, List.set_cons_zero, List.set_cons_succ]
        refine wpAnyH_take (i := 15) (oi := { dst := some 28, op := Op.call { callee := Callee.value (Operand.func 9), args := #[Operand.tmp 27], argTypes := #[24] }, type := 4, pos := "laws_list_wt04c.go:20", after := #[{ on := 14, ground := Ground.data }, { on := 13, ground := Ground.chain }, { on := 13, ground := Ground.guard }], guard := some (13, false) }) (v := undef) rfl (by kernel_rfl) (by kernel_rfl) (by kernel_rfl) (fun _ _ _ h => h) (Or.inr ⟨by rfl, rfl⟩) (by assumption) ?_
        try simp only [Act.put, List.setIfInBounds_toArray, List.set_cons_zero, List.set_cons_succ]
        refine wpAnyH_take (i := 16) (oi := { dst := some 29, op := Op.unOp UnOp.not 4 (Operand.tmp 28), type := 4, pos := "laws_list_wt04c.go:20", after := #[{ on := 15, ground := Ground.data }, { on := 13, ground := Ground.guard }], guard := some (13, false) }) (v := undef) rfl (by kernel_rfl) (by kernel_rfl) (by kernel_rfl) (fun _ _ _ h => h) (Or.inr ⟨by rfl, rfl⟩) (by assumption) ?_
        try simp only [Act.put, List.setIfInBounds_toArray, List.set_cons_zero, List.set_cons_succ]
        refine wpAnyH_take (i := 17) (oi := { dst := some 30, op := Op.pick (Operand.tmp 26) (Operand.const (Value.bool true)) (Operand.tmp 29), type := 4, pos := "laws_list_wt04c.go:20", after := #[{ on := 13, ground := Ground.data }, { on := 16, ground := Ground.data }], guard := none }) (v := ?v8) rfl (by kernel_rfl) (by kernel_rfl) (by kernel_rfl) (fun _ _ _ h => h) (Or.inl ⟨by rfl, ?hy8⟩) (by assumption) ?_
        case hy8 => (intro w hSw; (try dsimp only at hSw); go_simp; (try with_reducible rfl))
        try simp only [Act.put, List.setIfInBounds_toArray, List.set_cons_zero, List.set_cons_succ]
        refine wpAnyH_take (i := 18) (oi := { dst := some 31, op := Op.move (Operand.tmp 30), type := 4, pos := "laws_list_wt04c.go:20", after := #[{ on := 17, ground := Ground.data }, { on := 15, ground := Ground.chain }], guard := none }) (v := ?v9) rfl (by kernel_rfl) (by kernel_rfl) (by kernel_rfl) (fun _ _ _ h => h) (Or.inl ⟨by rfl, ?hy9⟩) (by assumption) ?_
        case hy9 => (intro w hSw; (try dsimp only at hSw); go_simp; (try with_reducible rfl))
        try simp only [Act.put, List.setIfInBounds_toArray, List.set_cons_zero, List.set_cons_succ]
        refine wpAnyH_take (i := 19) (oi := { dst := some 32, op := Op.move (Operand.tmp 0), type := 22, pos := "laws_list_wt04c.go:20", after := #[{ on := 18, ground := Ground.guard }], guard := some (18, false) }) (v := undef) rfl (by kernel_rfl) (by kernel_rfl) (by kernel_rfl) (fun _ _ _ h => h) (Or.inr ⟨by rfl, rfl⟩) (by assumption) ?_
        try simp only [Act.put, List.setIfInBounds_toArray, List.set_cons_zero, List.set_cons_succ]
        refine wpAnyH_take (i := 20) (oi := { dst := some 33, op := Op.call { callee := Callee.value (Operand.func 11), args := #[Operand.tmp 32], argTypes := #[22] }, type := 28, pos := "laws_list_wt04c.go:20", after := #[{ on := 19, ground := Ground.data }, { on := 18, ground := Ground.chain }, { on := 18, ground := Ground.guard }], guard := some (18, false) }) (v := undef) rfl (by kernel_rfl) (by kernel_rfl) (by kernel_rfl) (fun _ _ _ h => h) (Or.inr ⟨by rfl, rfl⟩) (by assumption) ?_
        try simp only [Act.put, List.setIfInBounds_toArray, List.set_cons_zero, List.set_cons_succ]
        refine wpAnyH_take (i := 21) (oi := { dst := some 34, op := Op.load 24 (Operand.tmp 3), type := 24, pos := "laws_list_wt04c.go:20", after := #[{ on := 18, ground := Ground.guard }], guard := some (18, false) }) (v := undef) rfl (by kernel_rfl) (by kernel_rfl) (by kernel_rfl) (fun _ _ _ h => h) (Or.inr ⟨by rfl, rfl⟩) (by assumption) ?_
        try simp only [Act.put, List.setIfInBounds_toArray, List.set_cons_zero, List.set_cons_succ]
        refine wpAnyH_take (i := 22) (oi := { dst := some 35, op := Op.call { callee := Callee.value (Operand.func 10), args := #[Operand.tmp 33, Operand.tmp 34], argTypes := #[28, 24] }, type := 9, pos := "laws_list_wt04c.go:20", after := #[{ on := 20, ground := Ground.data }, { on := 21, ground := Ground.data }, { on := 20, ground := Ground.chain }, { on := 18, ground := Ground.guard }], guard := some (18, false) }) (v := undef) rfl (by kernel_rfl) (by kernel_rfl) (by kernel_rfl) (fun _ _ _ h => h) (Or.inr ⟨by rfl, rfl⟩) (by assumption) ?_
        try simp only [Act.put, List.setIfInBounds_toArray, List.set_cons_zero, List.set_cons_succ]
        refine wpAnyH_take (i := 23) (oi := { dst := some 36, op := Op.move (Operand.tmp 0), type := 22, pos := "laws_list_wt04c.go:20", after := #[{ on := 18, ground := Ground.guard }], guard := some (18, false) }) (v := undef) rfl (by kernel_rfl) (by kernel_rfl) (by kernel_rfl) (fun _ _ _ h => h) (Or.inr ⟨by rfl, rfl⟩) (by assumption) ?_
        try simp only [Act.put, List.setIfInBounds_toArray, List.set_cons_zero, List.set_cons_succ]
        refine wpAnyH_take (i := 24) (oi := { dst := some 37, op := Op.load 24 (Operand.tmp 3), type := 24, pos := "laws_list_wt04c.go:20", after := #[{ on := 18, ground := Ground.guard }], guard := some (18, false) }) (v := undef) rfl (by kernel_rfl) (by kernel_rfl) (by kernel_rfl) (fun _ _ _ h => h) (Or.inr ⟨by rfl, rfl⟩) (by assumption) ?_
        try simp only [Act.put, List.setIfInBounds_toArray, List.set_cons_zero, List.set_cons_succ]
        refine wpAnyH_take (i := 25) (oi := { dst := some 38, op := Op.call { callee := Callee.value (Operand.func 12), args := #[Operand.tmp 36, Operand.tmp 37], argTypes := #[22, 24] }, type := 9, pos := "laws_list_wt04c.go:20", after := #[{ on := 23, ground := Ground.data }, { on := 24, ground := Ground.data }, { on := 22, ground := Ground.chain }, { on := 18, ground := Ground.guard }], guard := some (18, false) }) (v := undef) rfl (by kernel_rfl) (by kernel_rfl) (by kernel_rfl) (fun _ _ _ h => h) (Or.inr ⟨by rfl, rfl⟩) (by assumption) ?_
        try simp only [Act.put, List.setIfInBounds_toArray, List.set_cons_zero, List.set_cons_succ]
        refine wpAnyH_take (i := 26) (oi := { dst := some 39, op := Op.binOp BinOp.eql 9 (Operand.tmp 35) (Operand.tmp 38) 9, type := 4, pos := "laws_list_wt04c.go:20", after := #[{ on := 22, ground := Ground.data }, { on := 25, ground := Ground.data }, { on := 18, ground := Ground.guard }], guard := some (18, false) }) (v := undef) rfl (by kernel_rfl) (by kernel_rfl) (by kernel_rfl) (fun _ _ _ h => h) (Or.inr ⟨by rfl, rfl⟩) (by assumption) ?_
        try simp only [Act.put, List.setIfInBounds_toArray, List.set_cons_zero, List.set_cons_succ]
        refine wpAnyH_take (i := 27) (oi := { dst := some 40, op := Op.pick (Operand.tmp 31) (Operand.const (Value.bool true)) (Operand.tmp 39), type := 4, pos := "laws_list_wt04c.go:20", after := #[{ on := 18, ground := Ground.data }, { on := 26, ground := Ground.data }], guard := none }) (v := ?v10) rfl (by kernel_rfl) (by kernel_rfl) (by kernel_rfl) (fun _ _ _ h => h) (Or.inl ⟨by rfl, ?hy10⟩) (by assumption) ?_
        case hy10 => (intro w hSw; (try dsimp only at hSw); go_simp; (try with_reducible rfl))
        try simp only [Act.put, List.setIfInBounds_toArray, List.set_cons_zero, List.set_cons_succ]
        refine wpAnyH_take (i := 28) (oi := { dst := some 4, op := Op.assign (Operand.tmp 40), type := 4, pos := "laws_list_wt04c.go:20", after := #[{ on := 27, ground := Ground.data }, { on := 25, ground := Ground.chain }, { on := 0, ground := Ground.phase }, { on := 1, ground := Ground.phase }, { on := 2, ground := Ground.phase }, { on := 3, ground := Ground.phase }, { on := 4, ground := Ground.phase }, { on := 5, ground := Ground.phase }, { on := 6, ground := Ground.phase }, { on := 7, ground := Ground.phase }, { on := 8, ground := Ground.phase }, { on := 9, ground := Ground.phase }, { on := 10, ground := Ground.phase }, { on := 11, ground := Ground.phase }, { on := 12, ground := Ground.phase }, { on := 13, ground := Ground.phase }, { on := 14, ground := Ground.phase }, { on := 15, ground := Ground.phase }, { on := 16, ground := Ground.phase }, { on := 17, ground := Ground.phase }, { on := 18, ground := Ground.phase }, { on := 19, ground := Ground.phase }, { on := 20, ground := Ground.phase }, { on := 21, ground := Ground.phase }, { on := 22, ground := Ground.phase }, { on := 23, ground := Ground.phase }, { on := 24, ground := Ground.phase }, { on := 25, ground := Ground.phase }, { on := 26, ground := Ground.phase }, { on := 27, ground := Ground.phase }], guard := none }) (v := ?v11) rfl (by kernel_rfl) (by kernel_rfl) (by kernel_rfl) (fun _ _ _ h => h) (Or.inl ⟨by rfl, ?hy11⟩) (by assumption) ?_
        case hy11 => (intro w hSw; (try dsimp only at hSw); go_simp; (try with_reducible rfl))
        try simp only [Act.put, List.setIfInBounds_toArray, List.set_cons_zero, List.set_cons_succ]
        refine wpAnyH_done (by kernel_rfl) ?_ _
        refine NoPanic.normal ?_
        go_wp2_with fail
        go_ret
        exact ⟨rfl, HBa.out.trans (HW3.out.mono (Nat.le_of_lt HS.out))⟩
      · have HR := Lib.hid (I3.out.1 rfl)
        clear I3
        go_wp2_with fail
        refine hK.out _ _ (by exact ⟨x0, x1, x2, x3, x4, x5, x6, x7, x8⟩) (fun hHeld => ?_)
        clear hK K
        try simp only [Act.put, List.setIfInBounds_toArray, List.set_cons_zero, List.set_cons_succ]
        refine wpAnyH_take (i := 2) (oi := { dst := some 15, op := Op.unOp UnOp.not 4 (Operand.tmp 14), type := 4, pos := "laws_list_wt04c.go:20", after := #[{ on := 1, ground := Ground.data }], guard := none }) (v := ?v12) rfl (by kernel_rfl) (by kernel_rfl) (by kernel_rfl) (fun _ _ _ h => h) (Or.inl ⟨by rfl, ?hy12⟩) (by assumption) ?_
        case hy12 => (intro w hSw; (try dsimp only at hSw); go_simp; (try with_reducible rfl))
        try simp only [Act.put, List.setIfInBounds_toArray, List.set_cons_zero, List.set_cons_succ]
        refine wpAnyH_take (i := 3) (oi := { dst := some 16, op := Op.move (Operand.tmp 15), type := 4, pos := "laws_list_wt04c.go:20", after := #[{ on := 2, ground := Ground.data }, { on := 1, ground := Ground.chain }], guard := none }) (v := ?v13) rfl (by kernel_rfl) (by kernel_rfl) (by kernel_rfl) (fun _ _ _ h => h) (Or.inl ⟨by rfl, ?hy13⟩) (by assumption) ?_
        case hy13 => (intro w hSw; (try dsimp only at hSw); go_simp; (try with_reducible rfl))
        try simp only [Act.put, List.setIfInBounds_toArray, List.set_cons_zero, List.set_cons_succ]
        refine wpAnyH_take (i := 4) (oi := { dst := some 17, op := Op.move (Operand.tmp 0), type := 22, pos := "laws_list_wt04c.go:20", after := #[{ on := 3, ground := Ground.guard }], guard := some (3, false) }) (v := ?v14) rfl (by kernel_rfl) (by kernel_rfl) (by kernel_rfl) (fun _ _ _ h => h) (Or.inl ⟨by rfl, ?hy14⟩) (by assumption) ?_
        case hy14 => (intro w hSw; (try dsimp only at hSw); go_simp; (try with_reducible rfl))
        try simp only [Act.put, List.setIfInBounds_toArray, List.set_cons_zero, List.set_cons_succ]
        refine wpAnyH_take (i := 5) (oi := { dst := some 18, op := Op.call { callee := Callee.builtin Builtin.len, args := #[Operand.tmp 17], argTypes := #[22] }, type := 3, pos := "laws_list_wt04c.go:20", after := #[{ on := 4, ground := Ground.data }, { on := 3, ground := Ground.guard }], guard := some (3, false) }) (v := ?v15) rfl (by kernel_rfl) (by kernel_rfl) (by kernel_rfl) (fun _ _ _ h => h) (Or.inl ⟨by rfl, ?hy15⟩) (by assumption) ?_
        case hy15 => (intro w hSw; (try dsimp only at hSw); go_simp; (try with_reducible rfl))
        try simp only [Act.put, List.setIfInBounds_toArray, List.set_cons_zero, List.set_cons_succ]
        by_cases hn0 : n = 0
        · have g0 : ((n : Int) == 0) = true := by rw [beq_iff_eq]; omega
          clear hn0
          refine wpAnyH_take (i := 6) (oi := { dst := some 19, op := Op.binOp BinOp.eql 3 (Operand.tmp 18) (Operand.const (Value.int IntKind.i64 0)) 3, type := 4, pos := "laws_list_wt04c.go:20", after := #[{ on := 5, ground := Ground.data }, { on := 3, ground := Ground.guard }], guard := some (3, false) }) (v := ?v16) rfl (by kernel_rfl) (by kernel_rfl) (by kernel_rfl) (fun _ _ _ h => h) (Or.inl ⟨by rfl, ?hy16⟩) (by assumption) ?_
          case hy16 => (intro w hSw; (try dsimp only at hSw); go_simp; (try with_reducible rfl))
          try simp only [Act.put, List.setIfInBounds_toArray, List.set_cons_zero, List.set_cons_succ]
          refine wpAnyH_take (i := 7) (oi := { dst := some 20, op := Op.pick (Operand.tmp 16) (Operand.const (Value.bool true)) (Operand.tmp 19), type := 4, pos := "laws_list_wt04c.go:20", after := #[{ on := 3, ground := Ground.data }, { on := 6, ground := Ground.data }], guard := none }) (v := ?v17) rfl (by kernel_rfl) (by kernel_rfl) (by kernel_rfl) (fun _ _ _ h => h) (Or.inl ⟨by rfl, ?hy17⟩) (by assumption) ?_
          case hy17 => (intro w hSw; (try dsimp only at hSw); go_simp; (try with_reducible rfl))
          try simp only [Act.put, List.setIfInBounds_toArray, List.set_cons_zero, List.set_cons_succ]
          refine wpAnyH_take (i := 8) (oi := { dst := some 21, op := Op.move (Operand.tmp 20), type := 4, pos := "laws_list_wt04c.go:20", after := #[{ on := 7, ground := Ground.data }, { on := 3, ground := Ground.chain }], guard := none }) (v := ?v18) rfl (by kernel_rfl) (by kernel_rfl) (by kernel_rfl) (fun _ _ _ h => h) (Or.inl ⟨by rfl, ?hy18⟩) (by assumption) ?_
          case hy18 => (intro w hSw; (try dsimp only at hSw); go_simp; (try with_reducible rfl))
          try simp only [Act.put, List.setIfInBounds_toArray, List.set_cons_zero, List.set_cons_succ]
          refine wpAnyH_take (i := 9) (oi := { dst := some 22, op := Op.move (Operand.tmp 0), type := 22, pos := "laws_list_wt04c.go:20", after := #[{ on := 8, ground := Ground.guard }], guard := some (8, false) }) (v := undef) rfl (by kernel_rfl) (by kernel_rfl) (by kernel_rfl) (fun _ _ _ h => h) (Or.inr ⟨by rfl, rfl⟩) (by assumption) ?_
          try simp only [Act.put, List.setIfInBounds_toArray, List.set_cons_zero, List.set_cons_succ]
          refine wpAnyH_take (i := 10) (oi := { dst := some 23, op := Op.call { callee := Callee.value (Operand.func 8), args := #[Operand.tmp 22], argTypes := #[22] }, type := 4, pos := "laws_list_wt04c.go:20", after := #[{ on := 9, ground := Ground.data }, { on := 8, ground := Ground.chain }, { on := 8, ground := Ground.guard }], guard := some (8, false) }) (v := undef) rfl (by kernel_rfl) (by kernel_rfl) (by kernel_rfl) (fun _ _ _ h => h) (Or.inr ⟨by rfl, rfl⟩) (by assumption) ?_
          try simp only [Act.put, List.setIfInBounds_toArray, List.set_cons_zero, List.set_cons_succ]
          refine wpAnyH_take (i := 11) (oi := { dst := some 24, op := Op.unOp UnOp.not 4 (Operand.tmp 23), type := 4, pos := "laws_list_wt04c.go:20", after := #[{ on := 10, ground := Ground.data }, { on := 8, ground := Ground.guard }], guard := some (8, false) }) (v := undef) rfl (by kernel_rfl) (by kernel_rfl) (by kernel_rfl) (fun _ _ _ h => h) (Or.inr ⟨by rfl, rfl⟩) (by assumption) ?_
          try simp only [Act.put, List.setIfInBounds_toArray, List.set_cons_zero, List.set_cons_succ]
          refine wpAnyH_take (i := 12) (oi := { dst := some 25, op := Op.pick (Operand.tmp 21) (Operand.const (Value.bool true)) (Operand.tmp 24), type := 4, pos := "laws_list_wt04c.go:20", after := #[{ on := 8, ground := Ground.data }, { on := 11, ground := Ground.data }], guard := none }) (v := ?v19) rfl (by kernel_rfl) (by kernel_rfl) (by kernel_rfl) (fun _ _ _ h => h) (Or.inl ⟨by rfl, ?hy19⟩) (by assumption) ?_
          case hy19 => (intro w hSw; (try dsimp only at hSw); go_simp; (try with_reducible rfl))
          try simp only [Act.put, List.setIfInBounds_toArray, List.set_cons_zero, List.set_cons_succ]
          refine wpAnyH_take (i := 13) (oi := { dst := some 26, op := Op.move (Operand.tmp 25), type := 4, pos := "laws_list_wt04c.go:20", after := #[{ on := 12, ground := Ground.data }, { on := 10, ground := Ground.chain }], guard := none }) (v := ?v20) rfl (by kernel_rfl) (by kernel_rfl) (by kernel_rfl) (fun _ _ _ h => h) (Or.inl ⟨by rfl, ?hy20⟩) (by assumption) ?_
          case hy20 => (intro w hSw; (try dsimp only at hSw); go_simp; (try with_reducible rfl))
          try simp only [Act.put, List.setIfInBounds_toArray, List.set_cons_zero, List.set_cons_succ]
          refine wpAnyH_take (i := 14) (oi := { dst := some 27, op := Op.load 24 (Operand.tmp 3), type := 24, pos := "laws_list_wt04c.go:20", after := #[{ on := 13, ground := Ground.guard }], guard := some (13, false) }) (v := undef) rfl (by kernel_rfl) (by kernel_rfl) (by kernel_rfl) (fun _ _ _ h => h) (Or.inr ⟨by rfl, rfl⟩) (by assumption) ?_
          try simp only [Act.put, List.setIfInBounds_toArray, List.set_cons_zero, List.set_cons_succ]
          refine wpAnyH_take (i := 15) (oi := { dst := some 28, op := Op.call { callee := Callee.value (Operand.func 9), args := #[Operand.tmp 27], argTypes := #[24] }, type := 4, pos := "laws_list_wt04c.go:20", after := #[{ on := 14, ground := Ground.data }, { on := 13, ground := Ground.chain }, { on := 13, ground := Ground.guard }], guard := some (13, false) }) (v := undef) rfl (by kernel_rfl) (by kernel_rfl) (by kernel_rfl) (fun _ _ _ h => h) (Or.inr ⟨by rfl, rfl⟩) (by assumption) ?_
          try simp only [Act.put, List.setIfInBounds_toArray, List.set_cons_zero, List.set_cons_succ]
          refine wpAnyH_take (i := 16) (oi := { dst := some 29, op := Op.unOp UnOp.not 4 (Operand.tmp 28), type := 4, pos := "laws_list_wt04c.go:20", after := #[{ on := 15, ground := Ground.data }, { on := 13, ground := Ground.guard }], guard := some (13, false) }) (v := undef) rfl (by kernel_rfl) (by kernel_rfl) (by kernel_rfl) (fun _ _ _ h => h) (Or.inr ⟨by rfl, rfl⟩) (by assumption) ?_
          try simp only [Act.put, List.setIfInBounds_toArray, List.set_cons_zero, List.set_cons_succ]
          refine wpAnyH_take (i := 17) (oi := { dst := some 30, op := Op.pick (Operand.tmp 26) (Operand.const (Value.bool true)) (Operand.tmp 29), type := 4, pos := "laws_list_wt04c.go:20", after := #[{ on := 13, ground := Ground.data }, { on := 16, ground := Ground.data }], guard := none }) (v := ?v21) rfl (by kernel_rfl) (by kernel_rfl) (by kernel_rfl) (fun _ _ _ h => h) (Or.inl ⟨by rfl, ?hy21⟩) (by assumption) ?_
          case hy21 => (intro w hSw; (try dsimp only at hSw); go_simp; (try with_reducible rfl))
          try simp only [Act.put, List.setIfInBounds_toArray, List.set_cons_zero, List.set_cons_succ]
          refine wpAnyH_take (i := 18) (oi := { dst := some 31, op := Op.move (Operand.tmp 30), type := 4, pos := "laws_list_wt04c.go:20", after := #[{ on := 17, ground := Ground.data }, { on := 15, ground := Ground.chain }], guard := none }) (v := ?v22) rfl (by kernel_rfl) (by kernel_rfl) (by kernel_rfl) (fun _ _ _ h => h) (Or.inl ⟨by rfl, ?hy22⟩) (by assumption) ?_
          case hy22 => (intro w hSw; (try dsimp only at hSw); go_simp; (try with_reducible rfl))
          try simp only [Act.put, List.setIfInBounds_toArray, List.set_cons_zero, List.set_cons_succ]
          refine wpAnyH_take (i := 19) (oi := { dst := some 32, op := Op.move (Operand.tmp 0), type := 22, pos := "laws_list_wt04c.go:20", after := #[{ on := 18, ground := Ground.guard }], guard := some (18, false) }) (v := undef) rfl (by kernel_rfl) (by kernel_rfl) (by kernel_rfl) (fun _ _ _ h => h) (Or.inr ⟨by rfl, rfl⟩) (by assumption) ?_
          try simp only [Act.put, List.setIfInBounds_toArray, List.set_cons_zero, List.set_cons_succ]
          refine wpAnyH_take (i := 20) (oi := { dst := some 33, op := Op.call { callee := Callee.value (Operand.func 11), args := #[Operand.tmp 32], argTypes := #[22] }, type := 28, pos := "laws_list_wt04c.go:20", after := #[{ on := 19, ground := Ground.data }, { on := 18, ground := Ground.chain }, { on := 18, ground := Ground.guard }], guard := some (18, false) }) (v := undef) rfl (by kernel_rfl) (by kernel_rfl) (by kernel_rfl) (fun _ _ _ h => h) (Or.inr ⟨by rfl, rfl⟩) (by assumption) ?_
          try simp only [Act.put, List.setIfInBounds_toArray, List.set_cons_zero, List.set_cons_succ]
          refine wpAnyH_take (i := 21) (oi := { dst := some 34, op := Op.load 24 (Operand.tmp 3), type := 24, pos := "laws_list_wt04c.go:20", after := #[{ on := 18, ground := Ground.guard }], guard := some (18, false) }) (v := undef) rfl (by kernel_rfl) (by kernel_rfl) (by kernel_rfl) (fun _ _ _ h => h) (Or.inr ⟨by rfl, rfl⟩) (by assumption) ?_
          try simp only [Act.put, List.setIfInBounds_toArray, List.set_cons_zero, List.set_cons_succ]
          refine wpAnyH_take (i := 22) (oi := { dst := some 35, op := Op.call { callee := Callee.value (Operand.func 10), args := #[Operand.tmp 33, Operand.tmp 34], argTypes := #[28, 24] }, type := 9, pos := "laws_list_wt04c.go:20", after := #[{ on := 20, ground := Ground.data }, { on := 21, ground := Ground.data }, { on := 20, ground := Ground.chain }, { on := 18, ground := Ground.guard }], guard := some (18, false) }) (v := undef) rfl (by kernel_rfl) (by kernel_rfl) (by kernel_rfl) (fun _ _ _ h => h) (Or.inr ⟨by rfl, rfl⟩) (by assumption) ?_
          try simp only [Act.put, List.setIfInBounds_toArray, List.set_cons_zero, List.set_cons_succ]
          refine wpAnyH_take (i := 23) (oi := { dst := some 36, op := Op.move (Operand.tmp 0), type := 22, pos := "laws_list_wt04c.go:20", after := #[{ on := 18, ground := Ground.guard }], guard := some (18, false) }) (v := undef) rfl (by kernel_rfl) (by kernel_rfl) (by kernel_rfl) (fun _ _ _ h => h) (Or.inr ⟨by rfl, rfl⟩) (by assumption) ?_
          try simp only [Act.put, List.setIfInBounds_toArray, List.set_cons_zero, List.set_cons_succ]
          refine wpAnyH_take (i := 24) (oi := { dst := some 37, op := Op.load 24 (Operand.tmp 3), type := 24, pos := "laws_list_wt04c.go:20", after := #[{ on := 18, ground := Ground.guard }], guard := some (18, false) }) (v := undef) rfl (by kernel_rfl) (by kernel_rfl) (by kernel_rfl) (fun _ _ _ h => h) (Or.inr ⟨by rfl, rfl⟩) (by assumption) ?_
          try simp only [Act.put, List.setIfInBounds_toArray, List.set_cons_zero, List.set_cons_succ]
          refine wpAnyH_take (i := 25) (oi := { dst := some 38, op := Op.call { callee := Callee.value (Operand.func 12), args := #[Operand.tmp 36, Operand.tmp 37], argTypes := #[22, 24] }, type := 9, pos := "laws_list_wt04c.go:20", after := #[{ on := 23, ground := Ground.data }, { on := 24, ground := Ground.data }, { on := 22, ground := Ground.chain }, { on := 18, ground := Ground.guard }], guard := some (18, false) }) (v := undef) rfl (by kernel_rfl) (by kernel_rfl) (by kernel_rfl) (fun _ _ _ h => h) (Or.inr ⟨by rfl, rfl⟩) (by assumption) ?_
          try simp only [Act.put, List.setIfInBounds_toArray, List.set_cons_zero, List.set_cons_succ]
          refine wpAnyH_take (i := 26) (oi := { dst := some 39, op := Op.binOp BinOp.eql 9 (Operand.tmp 35) (Operand.tmp 38) 9, type := 4, pos := "laws_list_wt04c.go:20", after := #[{ on := 22, ground := Ground.data }, { on := 25, ground := Ground.data }, { on := 18, ground := Ground.guard }], guard := some (18, false) }) (v := undef) rfl (by kernel_rfl) (by kernel_rfl) (by kernel_rfl) (fun _ _ _ h => h) (Or.inr ⟨by rfl, rfl⟩) (by assumption) ?_
          try simp only [Act.put, List.setIfInBounds_toArray, List.set_cons_zero, List.set_cons_succ]
          refine wpAnyH_take (i := 27) (oi := { dst := some 40, op := Op.pick (Operand.tmp 31) (Operand.const (Value.bool true)) (Operand.tmp 39), type := 4, pos := "laws_list_wt04c.go:20", after := #[{ on := 18, ground := Ground.data }, { on := 26, ground := Ground.data }], guard := none }) (v := ?v23) rfl (by kernel_rfl) (by kernel_rfl) (by kernel_rfl) (fun _ _ _ h => h) (Or.inl ⟨by rfl, ?hy23⟩) (by assumption) ?_
          case hy23 => (intro w hSw; (try dsimp only at hSw); go_simp; (try with_reducible rfl))
          try simp only [Act.put, List.setIfInBounds_toArray, List.set_cons_zero, List.set_cons_succ]
          refine wpAnyH_take (i := 28) (oi := { dst := some 4, op := Op.assign (Operand.tmp 40), type := 4, pos := "laws_list_wt04c.go:20", after := #[{ on := 27, ground := Ground.data }, { on := 25, ground := Ground.chain }, { on := 0, ground := Ground.phase }, { on := 1, ground := Ground.phase }, { on := 2, ground := Ground.phase }, { on := 3, ground := Ground.phase }, { on := 4, ground := Ground.phase }, { on := 5, ground := Ground.phase }, { on := 6, ground := Ground.phase }, { on := 7, ground := Ground.phase }, { on := 8, ground := Ground.phase }, { on := 9, ground := Ground.phase }, { on := 10, ground := Ground.phase }, { on := 11, ground := Ground.phase }, { on := 12, ground := Ground.phase }, { on := 13, ground := Ground.phase }, { on := 14, ground := Ground.phase }, { on := 15, ground := Ground.phase }, { on := 16, ground := Ground.phase }, { on := 17, ground := Ground.phase }, { on := 18, ground := Ground.phase }, { on := 19, ground := Ground.phase }, { on := 20, ground := Ground.phase }, { on := 21, ground := Ground.phase }, { on := 22, ground := Ground.phase }, { on := 23, ground := Ground.phase }, { on := 24, ground := Ground.phase }, { on := 25, ground := Ground.phase }, { on := 26, ground := Ground.phase }, { on := 27, ground := Ground.phase }], guard := none }) (v := ?v24) rfl (by kernel_rfl) (by kernel_rfl) (by kernel_rfl) (fun _ _ _ h => h) (Or.inl ⟨by rfl, ?hy24⟩) (by assumption) ?_
          case hy24 => (intro w hSw; (try dsimp only at hSw); go_simp; (try with_reducible rfl))
          try simp only [Act.put, List.setIfInBounds_toArray, List.set_cons_zero, List.set_cons_succ]
          refine wpAnyH_done (by kernel_rfl) ?_ _
          refine NoPanic.normal ?_
          go_wp2_with fail
          go_ret
          exact ⟨rfl, HBa.out.trans (HW3.out.mono (Nat.le_of_lt HS.out))⟩
        · have g0 : ((n : Int) == 0) = false := by rw [beq_eq_false_iff_ne]; omega
          clear hn0
          refine wpAnyH_take (i := 6) (oi := { dst := some 19, op := Op.binOp BinOp.eql 3 (Operand.tmp 18) (Operand.const (Value.int IntKind.i64 0)) 3, type := 4, pos := "laws_list_wt04c.go:20", after := #[{ on := 5, ground := Ground.data }, { on := 3, ground := Ground.guard }], guard := some (3, false) }) (v := ?v25) rfl (by kernel_rfl) (by kernel_rfl) (by kernel_rfl) (fun _ _ _ h => h) (Or.inl ⟨by rfl, ?hy25⟩) (by assumption) ?_
          case hy25 => (intro w hSw; (try dsimp only at hSw); go_simp; (try with_reducible rfl))
          try simp only [Act.put, List.setIfInBounds_toArray, List.set_cons_zero, List.set_cons_succ]
          refine wpAnyH_take (i := 7) (oi := { dst := some 20, op := Op.pick (Operand.tmp 16) (Operand.const (Value.bool true)) (Operand.tmp 19), type := 4, pos := "laws_list_wt04c.go:20", after := #[{ on := 3, ground := Ground.data }, { on := 6, ground := Ground.data }], guard := none }) (v := ?v26) rfl (by kernel_rfl) (by kernel_rfl) (by kernel_rfl) (fun _ _ _ h => h) (Or.inl ⟨by rfl, ?hy26⟩) (by assumption) ?_
          case hy26 => (intro w hSw; (try dsimp only at hSw); go_simp; (try with_reducible rfl))
          try simp only [Act.put, List.setIfInBounds_toArray, List.set_cons_zero, List.set_cons_succ]
          refine wpAnyH_take (i := 8) (oi := { dst := some 21, op := Op.move (Operand.tmp 20), type := 4, pos := "laws_list_wt04c.go:20", after := #[{ on := 7, ground := Ground.data }, { on := 3, ground := Ground.chain }], guard := none }) (v := ?v27) rfl (by kernel_rfl) (by kernel_rfl) (by kernel_rfl) (fun _ _ _ h => h) (Or.inl ⟨by rfl, ?hy27⟩) (by assumption) ?_
          case hy27 => (intro w hSw; (try dsimp only at hSw); go_simp; (try with_reducible rfl))
          try simp only [Act.put, List.setIfInBounds_toArray, List.set_cons_zero, List.set_cons_succ]
          refine wpAnyH_take (i := 9) (oi := { dst := some 22, op := Op.move (Operand.tmp 0), type := 22, pos := "laws_list_wt04c.go:20", after := #[{ on := 8, ground := Ground.guard }], guard := some (8, false) }) (v := ?v28) rfl (by kernel_rfl) (by kernel_rfl) (by kernel_rfl) (fun _ _ _ h => h) (Or.inl ⟨by rfl, ?hy28⟩) (by assumption) ?_
          case hy28 => (intro w hSw; (try dsimp only at hSw); go_simp; (try with_reducible rfl))
          try simp only [Act.put, List.setIfInBounds_toArray, List.set_cons_zero, List.set_cons_succ]
          refine wpAnyH_ready (rs := [10]) (by kernel_rfl) (by simp) ?_
          refine AllReadyH.cons (o := { dst := some 23, op := Op.call { callee := Callee.value (Operand.func 8), args := #[Operand.tmp 22], argTypes := #[22] }, type := 4, pos := "laws_list_wt04c.go:20", after := #[{ on := 9, ground := Ground.data }, { on := 8, ground := Ground.chain }, { on := 8, ground := Ground.guard }], guard := some (8, false) }) rfl (fun K hK => ?_) AllReadyH.nil
          go_simp
          refine (lsTop_any A n cap l _ _ (Nat.le_refl _) (HA.out _ HW3.out)).mono ?_
          rintro e w4 ⟨b4, rfl, k4, i4⟩
          have HW4 := Lib.hid (below_next HW3.out k4)
          have I4 := Lib.hid i4
          clear k4 HW3 i4 x0 x1 x2 x3 x4 x5 x6 x7 x8
          obtain ⟨x0, x1, x2, x3, x4, x5, x6, x7, x8⟩ := HN.out.below HW4.out HS.out
          cases b4
          · clear I4
            go_wp2_with fail
            refine hK.out _ _ (by exact ⟨x0, x1, x2, x3, x4, x5, x6, x7, x8⟩) (fun hHeld => ?_)
            clear hK K
            try simp only [Act.put, List.setIfInBounds_toArray, List.set_cons_zero, List.set_cons_succ]
            refine wpAnyH_take (i := 11) (oi := { dst := some 24, op := Op.unOp UnOp.not 4 (Operand.tmp 23), type := 4, pos := "laws_list_wt04c.go:20", after := #[{ on := 10, ground := Ground.data }, { on := 8, ground := Ground.guard }], guard := some (8, false) }) (v := ?v29) rfl (by kernel_rfl) (by kernel_rfl) (by kernel_rfl) (fun _ _ _ h => h) (Or.inl ⟨by rfl, ?hy29⟩) (by assumption) ?_
            case hy29 => (intro w hSw; (try dsimp only at hSw); go_simp; (try with_reducible rfl))
            try simp only [Act.put, List.setIfInBounds_toArray, List.set_cons_zero, List.set_cons_succ]
            refine wpAnyH_take (i := 12) (oi := { dst := some 25, op := Op.pick (Operand.tmp 21) (Operand.const (Value.bool true)) (Operand.tmp 24), type := 4, pos := "laws_list_wt04c.go:20", after := #[{ on := 8, ground := Ground.data }, { on := 11, ground := Ground.data }], guard := none }) (v := ?v30) rfl (by kernel_rfl) (by kernel_rfl) (by kernel_rfl) (fun _ _ _ h => h) (Or.inl ⟨by rfl, ?hy30⟩) (by assumption) ?_
            case hy30 => (intro w hSw; (try dsimp only at hSw); go_simp; (try with_reducible rfl))
            try simp only [Act.put, List.setIfInBounds_toArray, List.set_cons_zero, List.set_cons_succ]
            refine wpAnyH_take (i := 13) (oi := { dst := some 26, op := Op.move (Operand.tmp 25), type := 4, pos := "laws_list_wt04c.go:20", after := #[{ on := 12, ground := Ground.data }, { on := 10, ground := Ground.chain }], guard := none }) (v := ?v31) rfl (by kernel_rfl) (by kernel_rfl) (by kernel_rfl) (fun _ _ _ h => h) (Or.inl ⟨by rfl, ?hy31⟩) (by assumption) ?_
            case hy31 => (intro w hSw; (try dsimp only at hSw); go_simp; (try with_reducible rfl))
            try simp only [Act.put, List.setIfInBounds_toArray, List.set_cons_zero, List.set_cons_succ]
            refine wpAnyH_take (i := 14) (oi := { dst := some 27, op := Op.load 24 (Operand.tmp 3), type := 24, pos := "laws_list_wt04c.go:20", after := #[{ on := 13, ground := Ground.guard }], guard := some (13, false) }) (v := undef) rfl (by kernel_rfl) (by kernel_rfl) (by kernel_rfl) (fun _ _ _ h => h) (Or.inr ⟨by rfl, rfl⟩) (by assumption) ?_
            try simp only [Act.put, List.setIfInBounds_toArray, List.set_cons_zero, List.set_cons_succ]
            refine wpAnyH_take (i := 15) (oi := { dst := some 28, op := Op.call { callee := Callee.value (Operand.func 9), args := #[Operand.tmp 27], argTypes := #[24] }, type := 4, pos := "laws_list_wt04c.go:20", after := #[{ on := 14, ground := Ground.data }, { on := 13, ground := Ground.chain }, { on := 13, ground := Ground.guard }], guard := some (13, false) }) (v := undef) rfl (by kernel_rfl) (by kernel_rfl) (by kernel_rfl) (fun _ _ _ h => h) (Or.inr ⟨by rfl, rfl⟩) (by assumption) ?_
            try simp only [Act.put, List.setIfInBounds_toArray, List.set_cons_zero, List.set_cons_succ]
            refine wpAnyH_take (i := 16) (oi := { dst := some 29, op := Op.unOp UnOp.not 4 (Operand.tmp 28), type := 4, pos := "laws_list_wt04c.go:20", after := #[{ on := 15, ground := Ground.data }, { on := 13, ground := Ground.guard }], guard := some (13, false) }) (v := undef) rfl (by kernel_rfl) (by kernel_rfl) (by kernel_rfl) (fun _ _ _ h => h) (Or.inr ⟨by rfl, rfl⟩) (by assumption) ?_
            try simp only [Act.put, List.setIfInBounds_toArray, List.set_cons_zero, List.set_cons_succ]
            refine wpAnyH_take (i := 17) (oi := { dst := some 30, op := Op.pick (Operand.tmp 26) (Operand.const (Value.bool true)) (Operand.tmp 29), type := 4, pos := "laws_list_wt04c.go:20", after := #[{ on := 13, ground := Ground.data }, { on := 16, ground := Ground.data }], guard := none }) (v := ?v32) rfl (by kernel_rfl) (by kernel_rfl) (by kernel_rfl) (fun _ _ _ h => h) (Or.inl ⟨by rfl, ?hy32⟩) (by assumption) ?_
            case hy32 => (intro w hSw; (try dsimp only at hSw); go_simp; (try with_reducible rfl))
            try simp only [Act.put, List.setIfInBounds_toArray, List.set_cons_zero, List.set_cons_succ]
            refine wpAnyH_take (i := 18) (oi := { dst := some 31, op := Op.move (Operand.tmp 30), type := 4, pos := "laws_list_wt04c.go:20", after := #[{ on := 17, ground := Ground.data }, { on := 15, ground := Ground.chain }], guard := none }) (v := ?v33) rfl (by kernel_rfl) (by kernel_rfl) (by kernel_rfl) (fun _ _ _ h => h) (Or.inl ⟨by rfl, ?hy33⟩) (by assumption) ?_
            case hy33 => (intro w hSw; (try dsimp only at hSw); go_simp; (try with_reducible rfl))
            try simp only [Act.put, List.setIfInBounds_toArray, List.set_cons_zero, List.set_cons_succ]
            refine wpAnyH_take (i := 19) (oi := { dst := some 32, op := Op.move (Operand.tmp 0), type := 22, pos := "laws_list_wt04c.go:20", after := #[{ on := 18, ground := Ground.guard }], guard := some (18, false) }) (v := undef) rfl (by kernel_rfl) (by kernel_rfl) (by kernel_rfl) (fun _ _ _ h => h) (Or.inr ⟨by rfl, rfl⟩) (by assumption) ?_
            try simp only [Act.put, List.setIfInBounds_toArray, List.set_cons_zero, List.set_cons_succ]
            refine wpAnyH_take (i := 20) (oi := { dst := some 33, op := Op.call { callee := Callee.value (Operand.func 11), args := #[Operand.tmp 32], argTypes := #[22] }, type := 28, pos := "laws_list_wt04c.go:20", after := #[{ on := 19, ground := Ground.data }, { on := 18, ground := Ground.chain }, { on := 18, ground := Ground.guard }], guard := some (18, false) }) (v := undef) rfl (by kernel_rfl) (by kernel_rfl) (by kernel_rfl) (fun _ _ _ h => h) (Or.inr ⟨by rfl, rfl⟩) (by assumption) ?_
            try simp only [Act.put, List.setIfInBounds_toArray, List.set_cons_zero, List.set_cons_succ]
            refine wpAnyH_take (i := 21) (oi := { dst := some 34, op := Op.load 24 (Operand.tmp 3), type := 24, pos := "laws_list_wt04c.go:20", after := #[{ on := 18, ground := Ground.guard }], guard := some (18, false) }) (v := undef) rfl (by kernel_rfl) (by kernel_rfl) (by kernel_rfl) (fun _ _ _ h => h) (Or.inr ⟨by rfl, rfl⟩) (by assumption) ?_
            try simp only [Act.put, List.setIfInBounds_toArray, List.set_cons_zero, List.set_cons_succ]
            refine wpAnyH_take (i := 22) (oi := { dst := some 35, op := Op.call { callee := Callee.value (Operand.func 10), args := #[Operand.tmp 33, Operand.tmp 34], argTypes := #[28, 24] }, type := 9, pos := "laws_list_wt04c.go:20", after := #[{ on := 20, ground := Ground.data }, { on := 21, ground := Ground.data }, { on := 20, ground := Ground.chain }, { on := 18, ground := Ground.guard }], guard := some (18, false) }) (v := undef) rfl (by kernel_rfl) (by kernel_rfl) (by kernel_rfl) (fun _ _ _ h => h) (Or.inr ⟨by rfl, rfl⟩) (by assumption) ?_
            try simp only [Act.put, List.setIfInBounds_toArray, List.set_cons_zero, List.set_cons_succ]
            refine wpAnyH_take (i := 23) (oi := { dst := some 36, op := Op.move (Operand.tmp 0), type := 22, pos := "laws_list_wt04c.go:20", after := #[{ on := 18, ground := Ground.guard }], guard := some (18, false) }) (v := undef) rfl (by kernel_rfl) (by kernel_rfl) (by kernel_rfl) (fun _ _ _ h => h) (Or.inr ⟨by rfl, rfl⟩) (by assumption) ?_
            try simp only [Act.put, List.setIfInBounds_toArray, List.set_cons_zero, List.set_cons_succ]
            refine wpAnyH_take (i := 24) (oi := { dst := some 37, op := Op.load 24 (Operand.tmp 3), type := 24, pos := "laws_list_wt04c.go:20", after := #[{ on := 18, ground := Ground.guard }], guard := some (18, false) }) (v := undef) rfl (by kernel_rfl) (by kernel_rfl) (by kernel_rfl) (fun _ _ _ h => h) (Or.inr ⟨by rfl, rfl⟩) (by assumption) ?_
            try simp only [Act.put, List.setIfInBounds_toArray, List.set_cons_zero, List.set_cons_succ]
            refine wpAnyH_take (i := 25) (oi := { dst := some 38, op := Op.call { callee := Callee.value (Operand.func 12), args := #[Operand.tmp 36, Operand.tmp 37], argTypes := #[22, 24] }, type := 9, pos := "laws_list_wt04c.go:20", after := #[{ on := 23, ground := Ground.data }, { on := 24, ground := Ground.data }, { on := 22, ground := Ground.chain }, { on := 18, ground := Ground.guard }], guard := some (18, false) }) (v := undef) rfl (by kernel_rfl) (by kernel_rfl) (by kernel_rfl) (fun _ _ _ h => h) (Or.inr ⟨by rfl, rfl⟩) (by assumption) ?_
            try simp only [Act.put, List.setIfInBounds_toArray, List.set_cons_zero, List.set_cons_succ]
            refine wpAnyH_take (i := 26) (oi := { dst := some 39, op := Op.binOp BinOp.eql 9 (Operand.tmp 35) (Operand.tmp 38) 9, type := 4, pos := "laws_list_wt04c.go:20", after := #[{ on := 22, ground := Ground.data }, { on := 25, ground := Ground.data }, { on := 18, ground := Ground.guard }], guard := some (18, false) }) (v := undef) rfl (by kernel_rfl) (by kernel_rfl) (by kernel_rfl) (fun _ _ _ h => h) (Or.inr ⟨by rfl, rfl⟩) (by assumption) ?_
            try simp only [Act.put, List.setIfInBounds_toArray, List.set_cons_zero, List.set_cons_succ]
            refine wpAnyH_take (i := 27) (oi := { dst := some 40, op := Op.pick (Operand.tmp 31) (Operand.const (Value.bool true)) (Operand.tmp 39), type := 4, pos := "laws_list_wt04c.go:20", after := #[{ on := 18, ground := Ground.data }, { on := 26, ground := Ground.data }], guard := none }) (v := ?v34) rfl (by kernel_rfl) (by kernel_rfl) (by kernel_rfl) (fun _ _ _ h => h) (Or.inl ⟨by rfl, ?hy34⟩) (by assumption) ?_
            case hy34 => (intro w hSw; (try dsimp only at hSw); go_simp; (try with_reducible rfl))
            try simp only [Act.put, List.setIfInBounds_toArray, List.set_cons_zero, List.set_cons_succ]
            refine wpAnyH_take (i := 28) (oi := { dst := some 4, op := Op.assign (Operand.tmp 40), type := 4, pos := "laws_list_wt04c.go:20", after := #[{ on := 27, ground := Ground.data }, { on := 25, ground := Ground.chain }, { on := 0, ground := Ground.phase }, { on := 1, ground := Ground.phase }, { on := 2, ground := Ground.phase }, { on := 3, ground := Ground.phase }, { on := 4, ground := Ground.phase }, { on := 5, ground := Ground.phase }, { on := 6, ground := Ground.phase }, { on := 7, ground := Ground.phase }, { on := 8, ground := Ground.phase }, { on := 9, ground := Ground.phase }, { on := 10, ground := Ground.phase }, { on := 11, ground := Ground.phase }, { on := 12, ground := Ground.phase }, { on := 13, ground := Ground.phase }, { on := 14, ground := Ground.phase }, { on := 15, ground := Ground.phase }, { on := 16, ground := Ground.phase }, { on := 17, ground := Ground.phase }, { on := 18, ground := Ground.phase }, { on := 19, ground := Ground.phase }, { on := 20, ground := Ground.phase }, { on := 21, ground := Ground.phase }, { on := 22, ground := Ground.phase }, { on := 23, ground := Ground.phase }, { on := 24, ground := Ground.phase }, { on := 25, ground := Ground.phase }, { on := 26, ground := Ground.phase }, { on := 27, ground := Ground.phase }], guard := none }) (v := ?v35) rfl (by kernel_rfl) (by kernel_rfl) (by kernel_rfl) (fun _ _ _ h => h) (Or.inl ⟨by rfl, ?hy35⟩) (by assumption) ?_
            case hy35 => (intro w hSw; (try dsimp only at hSw); go_simp; (try with_reducible rfl))
            try simp only [Act.put, List.setIfInBounds_toArray, List.set_cons_zero, List.set_cons_succ]
            refine wpAnyH_done (by kernel_rfl) ?_ _
            refine NoPanic.normal ?_
            go_wp2_with fail
            go_ret
            exact ⟨rfl, HBa.out.trans (HW4.out.mono (Nat.le_of_lt HS.out))⟩
          · have HT := Lib.hid (I4.out.1 rfl)
            clear I4
            go_wp2_with fail
            refine hK.out _ _ (by exact ⟨x0, x1, x2, x3, x4, x5, x6, x7, x8⟩) (fun hHeld => ?_)
            clear hK K
            try simp only [Act.put, List.setIfInBounds_toArray, List.set_cons_zero, List.set_cons_succ]
            refine wpAnyH_take (i := 11) (oi := { dst := some 24, op := Op.unOp UnOp.not 4 (Operand.tmp 23), type := 4, pos := "laws_list_wt04c.go:20", after := #[{ on := 10, ground := Ground.data }, { on := 8, ground := Ground.guard }], guard := some (8, false) }) (v := ?v36) rfl (by kernel_rfl) (by kernel_rfl) (by kernel_rfl) (fun _ _ _ h => h) (Or.inl ⟨by rfl, ?hy36⟩) (by assumption) ?_
            case hy36 => (intro w hSw; (try dsimp only at hSw); go_simp; (try with_reducible rfl))
            try simp only [Act.put, List.setIfInBounds_toArray, List.set_cons_zero, List.set_cons_succ]
            refine wpAnyH_take (i := 12) (oi := { dst := some 25, op := Op.pick (Operand.tmp 21) (Operand.const (Value.bool true)) (Operand.tmp 24), type := 4, pos := "laws_list_wt04c.go:20", after := #[{ on := 8, ground := Ground.data }, { on := 11, ground := Ground.data }], guard := none }) (v := ?v37) rfl (by kernel_rfl) (by kernel_rfl) (by kernel_rfl) (fun _ _ _ h => h) (Or.inl ⟨by rfl, ?hy37⟩) (by assumption) ?_
            case hy37 => (intro w hSw; (try dsimp only at hSw); go_simp; (try with_reducible rfl))
            try simp only [Act.put, List.setIfInBounds_toArray, List.set_cons_zero, List.set_cons_succ]
            refine wpAnyH_take (i := 13) (oi := { dst := some 26, op := Op.move (Operand.tmp 25), type := 4, pos := "laws_list_wt04c.go:20", after := #[{ on := 12, ground := Ground.data }, { on := 10, ground := Ground.chain }], guard := none }) (v := ?v38) rfl (by kernel_rfl) (by kernel_rfl) (by kernel_rfl) (fun _ _ _ h => h) (Or.inl ⟨by rfl, ?hy38⟩) (by assumption) ?_
            case hy38 => (intro w hSw; (try dsimp only at hSw); go_simp; (try with_reducible rfl))
            try simp only [Act.put, List.setIfInBounds_toArray, List.set_cons_zero, List.set_cons_succ]
            refine wpAnyH_take (i := 14) (oi := { dst := some 27, op := Op.load 24 (Operand.tmp 3), type := 24, pos := "laws_list_wt04c.go:20", after := #[{ on := 13, ground := Ground.guard }], guard := some (13, false) }) (v := ?v39) rfl (by kernel_rfl) (by kernel_rfl) (by kernel_rfl) (fun _ _ _ h => h) (Or.inl ⟨by rfl, ?hy39⟩) (by assumption) ?_
            case hy39 => (intro w hSw; (try dsimp only at hSw); go_simp; (try with_reducible rfl))
            try simp only [Act.put, List.setIfInBounds_toArray, List.set_cons_zero, List.set_cons_succ]
            refine wpAnyH_ready (rs := [15]) (by kernel_rfl) (by simp) ?_
            refine AllReadyH.cons (o := { dst := some 28, op := Op.call { callee := Callee.value (Operand.func 9), args := #[Operand.tmp 27], argTypes := #[24] }, type := 4, pos := "laws_list_wt04c.go:20", after := #[{ on := 14, ground := Ground.data }, { on := 13, ground := Ground.chain }, { on := 13, ground := Ground.guard }], guard := some (13, false) }) rfl (fun K hK => ?_) AllReadyH.nil
            go_simp
            refine (HSt.out _).mono ?_
            rintro e w5 ⟨b5, rfl, k5, i5⟩
            have HW5 := Lib.hid (below_next HW4.out k5)
            have I5 := Lib.hid i5
            clear k5 HW4 i5 x0 x1 x2 x3 x4 x5 x6 x7 x8
            obtain ⟨x0, x1, x2, x3, x4, x5, x6, x7, x8⟩ := HN.out.below HW5.out HS.out
            cases b5
            · clear I5
              go_wp2_with fail
              refine hK.out _ _ (by exact ⟨x0, x1, x2, x3, x4, x5, x6, x7, x8⟩) (fun hHeld => ?_)
              clear hK K
              try simp only [Act.put, List.setIfInBounds_toArray, List.set_cons_zero, List.set_cons_succ]
              refine wpAnyH_take (i := 16) (oi := { dst := some 29, op := Op.unOp UnOp.not 4 (Operand.tmp 28), type := 4, pos := "laws_list_wt04c.go:20", after := #[{ on := 15, ground := Ground.data }, { on := 13, ground := Ground.guard }], guard := some (13, false) }) (v := ?v40) rfl (by kernel_rfl) (by kernel_rfl) (by kernel_rfl) (fun _ _ _ h => h) (Or.inl ⟨by rfl, ?hy40⟩) (by assumption) ?_
              case hy40 => (intro w hSw; (try dsimp only at hSw); go_simp; (try with_reducible rfl))
              try simp only [Act.put, List.setIfInBounds_toArray, List.set_cons_zero, List.set_cons_succ]
              refine wpAnyH_take (i := 17) (oi := { dst := some 30, op := Op.pick (Operand.tmp 26) (Operand.const (Value.bool true)) (Operand.tmp 29), type := 4, pos := "laws_list_wt04c.go:20", after := #[{ on := 13, ground := Ground.data }, { on := 16, ground := Ground.data }], guard := none }) (v := ?v41) rfl (by kernel_rfl) (by kernel_rfl) (by kernel_rfl) (fun _ _ _ h => h) (Or.inl ⟨by rfl, ?hy41⟩) (by assumption) ?_
              case hy41 => (intro w hSw; (try dsimp only at hSw); go_simp; (try with_reducible rfl))
              try simp only [Act.put, List.setIfInBounds_toArray, List.set_cons_zero, List.set_cons_succ]
              refine wpAnyH_take (i := 18) (oi := { dst := some 31, op := Op.move (Operand.tmp 30), type := 4, pos := "laws_list_wt04c.go:20", after := #[{ on := 17, ground := Ground.data }, { on := 15, ground := Ground.chain }], guard := none }) (v := ?v42) rfl (by kernel_rfl) (by kernel_rfl) (by kernel_rfl) (fun _ _ _ h => h) (Or.inl ⟨by rfl, ?hy42⟩) (by assumption) ?_
              case hy42 => (intro w hSw; (try dsimp only at hSw); go_simp; (try with_reducible rfl))
              try simp only [Act.put, List.setIfInBounds_toArray, List.set_cons_zero, List.set_cons_succ]
              refine wpAnyH_take (i := 19) (oi := { dst := some 32, op := Op.move (Operand.tmp 0), type := 22, pos := "laws_list_wt04c.go:20", after := #[{ on := 18, ground := Ground.guard }], guard := some (18, false) }) (v := undef) rfl (by kernel_rfl) (by kernel_rfl) (by kernel_rfl) (fun _ _ _ h => h) (Or.inr ⟨by rfl, rfl⟩) (by assumption) ?_
              try simp only [Act.put, List.setIfInBounds_toArray, List.set_cons_zero, List.set_cons_succ]
              refine wpAnyH_take (i := 20) (oi := { dst := some 33, op := Op.call { callee := Callee.value (Operand.func 11), args := #[Operand.tmp 32], argTypes := #[22] }, type := 28, pos := "laws_list_wt04c.go:20", after := #[{ on := 19, ground := Ground.data }, { on := 18, ground := Ground.chain }, { on := 18, ground := Ground.guard }], guard := some (18, false) }) (v := undef) rfl (by kernel_rfl) (by kernel_rfl) (by kernel_rfl) (fun _ _ _ h => h) (Or.inr ⟨by rfl, rfl⟩) (by assumption) ?_
              try simp only [Act.put, List.setIfInBounds_toArray, List.set_cons_zero, List.set_cons_succ]
              refine wpAnyH_take (i := 21) (oi := { dst := some 34, op := Op.load 24 (Operand.tmp 3), type := 24, pos := "laws_list_wt04c.go:20", after := #[{ on := 18, ground := Ground.guard }], guard := some (18, false) }) (v := undef) rfl (by kernel_rfl) (by kernel_rfl) (by kernel_rfl) (fun _ _ _ h => h) (Or.inr ⟨by rfl, rfl⟩) (by assumption) ?_
              try simp only [Act.put, List.setIfInBounds_toArray, List.set_cons_zero, List.set_cons_succ]
              refine wpAnyH_take (i := 22) (oi := { dst := some 35, op := Op.call { callee := Callee.value (Operand.func 10), args := #[Operand.tmp 33, Operand.tmp 34], argTypes := #[28, 24] }, type := 9, pos := "laws_list_wt04c.go:20", after := #[{ on := 20, ground := Ground.data }, { on := 21, ground := Ground.data }, { on := 20, ground := Ground.chain }, { on := 18, ground := Ground.guard }], guard := some (18, false) }) (v := undef) rfl (by kernel_rfl) (by kernel_rfl) (by kernel_rfl) (fun _ _ _ h => h) (Or.inr ⟨by rfl, rfl⟩) (by assumption) ?_
              try simp only [Act.put, List.setIfInBounds_toArray, List.set_cons_zero, List.set_cons_succ]
              refine wpAnyH_take (i := 23) (oi := { dst := some 36, op := Op.move (Operand.tmp 0), type := 22, pos := "laws_list_wt04c.go:20", after := #[{ on := 18, ground := Ground.guard }], guard := some (18, false) }) (v := undef) rfl (by kernel_rfl) (by kernel_rfl) (by kernel_rfl) (fun _ _ _ h => h) (Or.inr ⟨by rfl, rfl⟩) (by assumption) ?_
              try simp only [Act.put, List.setIfInBounds_toArray, List.set_cons_zero, List.set_cons_succ]
              refine wpAnyH_take (i := 24) (oi := { dst := some 37, op := Op.load 24 (Operand.tmp 3), type := 24, pos := "laws_list_wt04c.go:20", after := #[{ on := 18, ground := Ground.guard }], guard := some (18, false) }) (v := undef) rfl (by kernel_rfl) (by kernel_rfl) (by kernel_rfl) (fun _ _ _ h => h) (Or.inr ⟨by rfl, rfl⟩) (by assumption) ?_
              try simp only [Act.put, List.setIfInBounds_toArray, List.set_cons_zero, List.set_cons_succ]
              refine wpAnyH_take (i := 25) (oi := { dst := some 38, op := Op.call { callee := Callee.value (Operand.func 12), args := #[Operand.tmp 36, Operand.tmp 37], argTypes := #[22, 24] }, type := 9, pos := "laws_list_wt04c.go:20", after := #[{ on := 23, ground := Ground.data }, { on := 24, ground := Ground.data }, { on := 22, ground := Ground.chain }, { on := 18, ground := Ground.guard }], guard := some (18, false) }) (v := undef) rfl (by kernel_rfl) (by kernel_rfl) (by kernel_rfl) (fun _ _ _ h => h) (Or.inr ⟨by rfl, rfl⟩) (by assumption) ?_
              try simp only [Act.put, List.setIfInBounds_toArray, List.set_cons_zero, List.set_cons_succ]
              refine wpAnyH_take (i := 26) (oi := { dst := some 39, op := Op.binOp BinOp.eql 9 (Operand.tmp 35) (Operand.tmp 38) 9, type := 4, pos := "laws_list_wt04c.go:20", after := #[{ on := 22, ground := Ground.data }, { on := 25, ground := Ground.data }, { on := 18, ground := Ground.guard }], guard := some (18, false) }) (v := undef) rfl (by kernel_rfl) (by kernel_rfl) (by kernel_rfl) (fun _ _ _ h => h) (Or.inr ⟨by rfl, rfl⟩) (by assumption) ?_
              try simp only [Act.put, List.setIfInBounds_toArray, List.set_cons_zero, List.set_cons_succ]
              refine wpAnyH_take (i := 27) (oi := { dst := some 40, op := Op.pick (Operand.tmp 31) (Operand.const (Value.bool true)) (Operand.tmp 39), type := 4, pos := "laws_list_wt04c.go:20", after := #[{ on := 18, ground := Ground.data }, { on := 26, ground := Ground.data }], guard := none }) (v := ?v43) rfl (by kernel_rfl) (by kernel_rfl) (by kernel_rfl) (fun _ _ _ h => h) (Or.inl ⟨by rfl, ?hy43⟩) (by assumption) ?_
              case hy43 => (intro w hSw; (try dsimp only at hSw); go_simp; (try with_reducible rfl))
              try simp only [Act.put, List.setIfInBounds_toArray, List.set_cons_zero, List.set_cons_succ]
              refine wpAnyH_take (i := 28) (oi := { dst := some 4, op := Op.assign (Operand.tmp 40), type := 4, pos := "laws_list_wt04c.go:20", after := #[{ on := 27, ground := Ground.data }, { on := 25, ground := Ground.chain }, { on := 0, ground := Ground.phase }, { on := 1, ground := Ground.phase }, { on := 2, ground := Ground.phase }, { on := 3, ground := Ground.phase }, { on := 4, ground := Ground.phase }, { on := 5, ground := Ground.phase }, { on := 6, ground := Ground.phase }, { on := 7, ground := Ground.phase }, { on := 8, ground := Ground.phase }, { on := 9, ground := Ground.phase }, { on := 10, ground := Ground.phase }, { on := 11, ground := Ground.phase }, { on := 12, ground := Ground.phase }, { on := 13, ground := Ground.phase }, { on := 14, ground := Ground.phase }, { on := 15, ground := Ground.phase }, { on := 16, ground := Ground.phase }, { on := 17, ground := Ground.phase }, { on := 18, ground := Ground.phase }, { on := 19, ground := Ground.phase }, { on := 20, ground := Ground.phase }, { on := 21, ground := Ground.phase }, { on := 22, ground := Ground.phase }, { on := 23, ground := Ground.phase }, { on := 24, ground := Ground.phase }, { on := 25, ground := Ground.phase }, { on := 26, ground := Ground.phase }, { on := 27, ground := Ground.phase }], guard := none }) (v := ?v44) rfl (by kernel_rfl) (by kernel_rfl) (by kernel_rfl) (fun _ _ _ h => h) (Or.inl ⟨by rfl, ?hy44⟩) (by assumption) ?_
              case hy44 => (intro w hSw; (try dsimp only at hSw); go_simp; (try with_reducible rfl))
              try simp only [Act.put, List.setIfInBounds_toArray, List.set_cons_zero, List.set_cons_succ]
              refine wpAnyH_done (by kernel_rfl) ?_ _
              refine NoPanic.normal ?_
              go_wp2_with fail
              go_ret
              exact ⟨rfl, HBa.out.trans (HW5.out.mono (Nat.le_of_lt HS.out))⟩
            · have HY := Lib.hid (I5.out.1 rfl)
              have HRe := Lib.hid (fun v base W hv => render_c l n z s1 s2 s3 s4 s5 s6 s7 s8 HL.out HR.out HT.out HY.out v base W hv)
              have HDr := Lib.hid (fun W h => drawn_c A n cap l z s1 s2 s3 s4 s5 s6 s7 s8 HL.out HR.out HY.out W h)
              unfold styA at HRe HDr
              generalize (⟨(drawnX l n s1 s2 s3 s4 s5 s6 s8).toArray⟩ : ByteArray) = dx at *
              clear I5
              go_wp2_with fail
              refine hK.out _ _ (by exact ⟨x0, x1, x2, x3, x4, x5, x6, x7, x8⟩) (fun hHeld => ?_)
              clear hK K
              try simp only [Act.put, List.setIfInBounds_toArray, List.set_cons_zero, List.set_cons_succ]
              refine wpAnyH_take (i := 16) (oi := { dst := some 29, op := Op.unOp UnOp.not 4 (Operand.tmp 28), type := 4, pos := "laws_list_wt04c.go:20", after := #[{ on := 15, ground := Ground.data }, { on := 13, ground := Ground.guard }], guard := some (13, false) }) (v := ?v45) rfl (by kernel_rfl) (by kernel_rfl) (by kernel_rfl) (fun _ _ _ h => h) (Or.inl ⟨by rfl, ?hy45⟩) (by assumption) ?_
              case hy45 => (intro w hSw; (try dsimp only at hSw); go_simp; (try with_reducible rfl))
              try simp only [Act.put, List.setIfInBounds_toArray, List.set_cons_zero, List.set_cons_succ]
              refine wpAnyH_take (i := 17) (oi := { dst := some 30, op := Op.pick (Operand.tmp 26) (Operand.const (Value.bool true)) (Operand.tmp 29), type := 4, pos := "laws_list_wt04c.go:20", after := #[{ on := 13, ground := Ground.data }, { on := 16, ground := Ground.data }], guard := none }) (v := ?v46) rfl (by kernel_rfl) (by kernel_rfl) (by kernel_rfl) (fun _ _ _ h => h) (Or.inl ⟨by rfl, ?hy46⟩) (by assumption) ?_
              case hy46 => (intro w hSw; (try dsimp only at hSw); go_simp; (try with_reducible rfl))
              try simp only [Act.put, List.setIfInBounds_toArray, List.set_cons_zero, List.set_cons_succ]
              refine wpAnyH_take (i := 18) (oi := { dst := some 31, op := Op.move (Operand.tmp 30), type := 4, pos := "laws_list_wt04c.go:20", after := #[{ on := 17, ground := Ground.data }, { on := 15, ground := Ground.chain }], guard := none }) (v := ?v47) rfl (by kernel_rfl) (by kernel_rfl) (by kernel_rfl) (fun _ _ _ h => h) (Or.inl ⟨by rfl, ?hy47⟩) (by assumption) ?_
              case hy47 => (intro w hSw; (try dsimp only at hSw); go_simp; (try with_reducible rfl))
              try simp only [Act.put, List.setIfInBounds_toArray, List.set_cons_zero, List.set_cons_succ]
              refine wpAnyH_take (i := 19) (oi := { dst := some 32, op := Op.move (Operand.tmp 0), type := 22, pos := "laws_list_wt04c.go:20", after := #[{ on := 18, ground := Ground.guard }], guard := some (18, false) }) (v := ?v48) rfl (by kernel_rfl) (by kernel_rfl) (by kernel_rfl) (fun _ _ _ h => h) (Or.inl ⟨by rfl, ?hy48⟩) (by assumption) ?_
              case hy48 => (intro w hSw; (try dsimp only at hSw); go_simp; (try with_reducible rfl))
              try simp only [Act.put, List.setIfInBounds_toArray, List.set_cons_zero, List.set_cons_succ]
              refine wpAnyH_take (i := 21) (oi := { dst := some 34, op := Op.load 24 (Operand.tmp 3), type := 24, pos := "laws_list_wt04c.go:20", after := #[{ on := 18, ground := Ground.guard }], guard := some (18, false) }) (v := ?v49) rfl (by kernel_rfl) (by kernel_rfl) (by kernel_rfl) (fun _ _ _ h => h) (Or.inl ⟨by rfl, ?hy49⟩) (by assumption) ?_
              case hy49 => (intro w hSw; (try dsimp only at hSw); go_simp; (try with_reducible rfl))
              try simp only [Act.put, List.setIfInBounds_toArray, List.set_cons_zero, List.set_cons_succ]
              refine wpAnyH_take (i := 23) (oi := { dst := some 36, op := Op.move (Operand.tmp 0), type := 22, pos := "laws_list_wt04c.go:20", after := #[{ on := 18, ground := Ground.guard }], guard := some (18, false) }) (v := ?v50) rfl (by kernel_rfl) (by kernel_rfl) (by kernel_rfl) (fun _ _ _ h => h) (Or.inl ⟨by rfl, ?hy50⟩) (by assumption) ?_
              case hy50 => (intro w hSw; (try dsimp only at hSw); go_simp; (try with_reducible rfl))
              try simp only [Act.put, List.setIfInBounds_toArray, List.set_cons_zero, List.set_cons_succ]
              refine wpAnyH_take (i := 24) (oi := { dst := some 37, op := Op.load 24 (Operand.tmp 3), type := 24, pos := "laws_list_wt04c.go:20", after := #[{ on := 18, ground := Ground.guard }], guard := some (18, false) }) (v := ?v51) rfl (by kernel_rfl) (by kernel_rfl) (by kernel_rfl) (fun _ _ _ h => h) (Or.inl ⟨by rfl, ?hy51⟩) (by assumption) ?_
              case hy51 => (intro w hSw; (try dsimp only at hSw); go_simp; (try with_reducible rfl))
              try simp only [Act.put, List.setIfInBounds_toArray, List.set_cons_zero, List.set_cons_succ]
              refine wpAnyH_ready (rs := [20]) (by kernel_rfl) (by simp) ?_
              refine AllReadyH.cons (o := { dst := some 33, op := Op.call { callee := Callee.value (Operand.func 11), args := #[Operand.tmp 32], argTypes := #[22] }, type := 28, pos := "laws_list_wt04c.go:20", after := #[{ on := 19, ground := Ground.data }, { on := 18, ground := Ground.chain }, { on := 18, ground := Ground.guard }], guard := some (18, false) }) rfl (fun K hK => ?_) AllReadyH.nil
              go_simp
              refine (steps_any A n cap l _ (HA.out _ HW5.out) HR.out).mono ?_
              rintro e w6 ⟨v, rfl, hv, k6⟩
              have HW6 := Lib.hid (below_next HW5.out k6)
              have HV := Lib.hid hv
              clear k6 HW5 hv x0 x1 x2 x3 x4 x5 x6 x7 x8
              obtain ⟨x0, x1, x2, x3, x4, x5, x6, x7, x8⟩ := HN.out.below HW6.out HS.out
              go_wp2_with fail
              refine hK.out _ _ (by exact ⟨x0, x1, x2, x3, x4, x5, x6, x7, x8⟩) (fun hHeld => ?_)
              clear hK K
              try simp only [Act.put, List.setIfInBounds_toArray, List.set_cons_zero, List.set_cons_succ]
              refine wpAnyH_ready (rs := [22]) (by kernel_rfl) (by simp) ?_
              refine AllReadyH.cons (o := { dst := some 35, op := Op.call { callee := Callee.value (Operand.func 10), args := #[Operand.tmp 33, Operand.tmp 34], argTypes := #[28, 24] }, type := 9, pos := "laws_list_wt04c.go:20", after := #[{ on := 20, ground := Ground.data }, { on := 21, ground := Ground.data }, { on := 20, ground := Ground.chain }, { on := 18, ground := Ground.guard }], guard := some (18, false) }) rfl (fun K hK => ?_) AllReadyH.nil
              go_simp
              refine (HRe.out _ _ _ HV.out).mono ?_
              rintro e w7 ⟨rfl, k7⟩
              have HW7 := Lib.hid (below_next HW6.out k7)
              clear k7 HW6 x0 x1 x2 x3 x4 x5 x6 x7 x8
              obtain ⟨x0, x1, x2, x3, x4, x5, x6, x7, x8⟩ := HN.out.below HW7.out HS.out
              go_wp2_with fail
              refine hK.out _ _ (by exact ⟨x0, x1, x2, x3, x4, x5, x6, x7, x8⟩) (fun hHeld => ?_)
              clear hK K
              try simp only [Act.put, List.setIfInBounds_toArray, List.set_cons_zero, List.set_cons_succ]
              refine wpAnyH_ready (rs := [25]) (by kernel_rfl) (by simp) ?_
              refine AllReadyH.cons (o := { dst := some 38, op := Op.call { callee := Callee.value (Operand.func 12), args := #[Operand.tmp 36, Operand.tmp 37], argTypes := #[22, 24] }, type := 9, pos := "laws_list_wt04c.go:20", after := #[{ on := 23, ground := Ground.data }, { on := 24, ground := Ground.data }, { on := 22, ground := Ground.chain }, { on := 18, ground := Ground.guard }], guard := some (18, false) }) rfl (fun K hK => ?_) AllReadyH.nil
              go_simp
              refine (HDr.out _ (HA.out _ HW7.out)).mono ?_
              rintro e w8 ⟨rfl, k8⟩
              have HW8 := Lib.hid (below_next HW7.out k8)
              clear k8 HW7 x0 x1 x2 x3 x4 x5 x6 x7 x8
              obtain ⟨x0, x1, x2, x3, x4, x5, x6, x7, x8⟩ := HN.out.below HW8.out HS.out
              go_wp2_with fail
              refine hK.out _ _ (by exact ⟨x0, x1, x2, x3, x4, x5, x6, x7, x8⟩) (fun hHeld => ?_)
              clear hK K
              try simp only [Act.put, List.setIfInBounds_toArray, List.set_cons_zero, List.set_cons_succ]
              refine wpAnyH_take (i := 26) (oi := { dst := some 39, op := Op.binOp BinOp.eql 9 (Operand.tmp 35) (Operand.tmp 38) 9, type := 4, pos := "laws_list_wt04c.go:20", after := #[{ on := 22, ground := Ground.data }, { on := 25, ground := Ground.data }, { on := 18, ground := Ground.guard }], guard := some (18, false) }) (v := ?v52) rfl (by kernel_rfl) (by kernel_rfl) (by kernel_rfl) (fun _ _ _ h => h) (Or.inl ⟨by rfl, ?hy52⟩) (by assumption) ?_
              case hy52 => (intro w hSw; (try dsimp only at hSw); go_simp; (try with_reducible rfl))
              try simp only [Act.put, List.setIfInBounds_toArray, List.set_cons_zero, List.set_cons_succ]
              refine wpAnyH_take (i := 27) (oi := { dst := some 40, op := Op.pick (Operand.tmp 31) (Operand.const (Value.bool true)) (Operand.tmp 39), type := 4, pos := "laws_list_wt04c.go:20", after := #[{ on := 18, ground := Ground.data }, { on := 26, ground := Ground.data }], guard := none }) (v := ?v53) rfl (by kernel_rfl) (by kernel_rfl) (by kernel_rfl) (fun _ _ _ h => h) (Or.inl ⟨by rfl, ?hy53⟩) (by assumption) ?_
              case hy53 => (intro w hSw; (try dsimp only at hSw); go_simp; (try with_reducible rfl))
              try simp only [Act.put, List.setIfInBounds_toArray, List.set_cons_zero, List.set_cons_succ]
              refine wpAnyH_take (i := 28) (oi := { dst := some 4, op := Op.assign (Operand.tmp 40), type := 4, pos := "laws_list_wt04c.go:20", after := #[{ on := 27, ground := Ground.data }, { on := 25, ground := Ground.chain }, { on := 0, ground := Ground.phase }, { on := 1, ground := Ground.phase }, { on := 2, ground := Ground.phase }, { on := 3, ground := Ground.phase }, { on := 4, ground := Ground.phase }, { on := 5, ground := Ground.phase }, { on := 6, ground := Ground.phase }, { on := 7, ground := Ground.phase }, { on := 8, ground := Ground.phase }, { on := 9, ground := Ground.phase }, { on := 10, ground := Ground.phase }, { on := 11, ground := Ground.phase }, { on := 12, ground := Ground.phase }, { on := 13, ground := Ground.phase }, { on := 14, ground := Ground.phase }, { on := 15, ground := Ground.phase }, { on := 16, ground := Ground.phase }, { on := 17, ground := Ground.phase }, { on := 18, ground := Ground.phase }, { on := 19, ground := Ground.phase }, { on := 20, ground := Ground.phase }, { on := 21, ground := Ground.phase }, { on := 22, ground := Ground.phase }, { on := 23, ground := Ground.phase }, { on := 24, ground := Ground.phase }, { on := 25, ground := Ground.phase }, { on := 26, ground := Ground.phase }, { on := 27, ground := Ground.phase }], guard := none }) (v := ?v54) rfl (by kernel_rfl) (by kernel_rfl) (by kernel_rfl) (fun _ _ _ h => h) (Or.inl ⟨by rfl, ?hy54⟩) (by assumption) ?_
              case hy54 => (intro w hSw; (try dsimp only at hSw); go_simp; (try with_reducible rfl))
              try simp only [Act.put, List.setIfInBounds_toArray, List.set_cons_zero, List.set_cons_succ]
              refine wpAnyH_done (by kernel_rfl) ?_ _
              refine NoPanic.normal ?_
              go_wp2_with fail
              go_ret
              exact ⟨rfl, HBa.out.trans (HW8.out.mono (Nat.le_of_lt HS.out))⟩
end Go.Proofs.YthdkbokdikhojaaDoor
