/- utf8.ValidString at texts of letters below 128. At most 1000000 bytes. -/
import Derived.Test.YtenmkoaimmnpdaaDoorCrV
import Derived.Test.YtenmkoaimmnpdaaDoorTwTexts
namespace Go.Proofs.YtenmkoaimmnpdaaDoor
open Go.RowKit
set_option linter.unusedVariables false
theorem ext_size (t : ByteArray) (a : Nat) : (t.extract a t.size).size = t.size - a := by
  rw [Lib.size_eq, Lib.extract_data, List.length_take, List.length_drop, ← Lib.size_eq]; omega
theorem ext_asc {t : ByteArray} (h : asc t.data.toList) (a : Nat) : asc (t.extract a t.size).data.toList := fun c hc => by
  rw [Lib.extract_data] at hc
  exact h c (List.mem_of_mem_drop (List.mem_of_mem_take hc))
def vlen : Value → Nat
  | .string t => t.size
  | _ => 0
def VRel (w : World) (sv : Value) (wr : World) : Prop := ∃ t : ByteArray, sv = .string t ∧ Hid (asc t.data.toList) ∧ t.size ≤ 1000000 ∧ Hid (Below w.heap.size w wr)
theorem below3w {w a b : World} (h : Below w.heap.size w a) (k : Below a.heap.size a b) : Below w.heap.size w b := h.trans (k.mono h.size)
set_option maxHeartbeats 2000000 in
set_option maxRecDepth 100000 in
theorem valid_any (s : ByteArray) (w : World) (ha : asc s.data.toList) (hs : s.size ≤ 1000000) : Calls Tryd.prog 10 #[.string s] w fun e w' => e = .returned (.bool true) ∧ Below w.heap.size w w' := by
  have HA := Lib.hid ha
  clear ha
  have HW := Lib.hid (fun (t : ByteArray) W (h : 8 ≤ t.size) => word_any t W h)
  go_enter Tryd.func10, Tryd.ntmps10
  go_wp2_with fail
  go_loopw [0] (fun sv wr => VRel w sv wr) (fun sv _ => vlen sv)
  case atStart => exact ⟨s, rfl, HA, hs, Lib.hid (Below.refl _ _)⟩
  case round =>
    obtain ⟨t, rfl, ht, hts, HB⟩ := hrel
    obtain ⟨wo, rfl⟩ : ∃ wo : World, wo = wr := ⟨_, rfl⟩
    by_cases h0 : t.size = 0
    · have e0 : decide ((0 : Int) < (t.size : Int)) = false := decide_eq_false (by omega)
      go_wp2_with fail
      go_ret
      exact ⟨rfl, HB.out⟩
    · have e0 : decide ((0 : Int) < (t.size : Int)) = true := decide_eq_true (by omega)
      have hix : ∀ W, (Instr.index 9 (.string t) (.int .i64 0)).run Tryd.prog W = .ok (.int .u8 ((t[0]'(by omega)).toNat : Int)) W := fun W => ixAt t 0 (by omega) W
      have hc : (t[0]'(by omega)).toNat < 128 := ht.out _ (by
        have : t.data.toList[0]'(by rw [← Lib.size_eq]; omega) = t[0]'(by omega) := rfl
        rw [← this]; exact List.getElem_mem _)
      generalize (t[0]'(by omega)).toNat = b0 at hix hc
      have e1 : decide ((b0 : Int) < 128) = true := decide_eq_true (by omega)
      have hz1 := ext_size t 1
      have ha1 := Lib.hid (ext_asc ht.out 1)
      have hle1 : t.size - 1 < t.size := by omega
      have hle2 : (1 : Int) ≤ (t.size : Int) := by omega
      generalize ht1 : t.extract 1 t.size = t1 at *
      have lt1 : t1.size < t.size := by omega
      clear hz1 hle1
      by_cases h8 : 8 < t1.size
      · have e2 : decide ((8 : Int) < (t1.size : Int)) = true := decide_eq_true (by omega)
        have HW5 := Lib.hid (HW.out t1 wo (by omega))
        go_wp2_with (go_at_call 15; refine halt_V ?_)
        refine resume_V ?_
        refine HW5.out.mono ?_
        rintro e w5 ⟨⟨k5, rfl⟩, hb⟩
        have HC := Lib.hid (below3w HB.out hb)
        clear hb HW5 HB
        cases hq5 : (Go.bits BinOp.and IntKind.u64 k5 9259542123273814144 == 0) with
        | false =>
          go_wp2_with fail
          go_roundw
          case rel => exact ⟨t1, rfl, ha1, by omega, HC⟩
          case measure => show t1.size < t.size; omega
        | true =>
          have hz2 := ext_size t1 8
          have ha2 := Lib.hid (ext_asc ha1.out 8)
          have hle3 : (8 : Int) ≤ (t1.size : Int) := by omega
          generalize ht2 : t1.extract 8 t1.size = t2 at *
          have lt2 : t2.size < t1.size := by omega
          clear hz2
          by_cases h16 : 16 < t2.size
          · have e3 : decide ((16 : Int) < (t2.size : Int)) = true := decide_eq_true (by omega)
            have hle4 : (8 : Int) ≤ (t2.size : Int) := by omega
            go_wp2_with fail
            refine wp_region_noPanic ?_
            refine wp_region_held_drew (S := (fun w' => True)) (by kernel_rfl) (trivial) (fun hHeld => ?_)
            replace HC := Lib.hid (Below.drew HC.out)
            generalize hwd : World.drew _ = wd at *
            clear hwd
            refine wpAnyH_take (i := 0) (oi := { dst := some 27, op := Op.move (Operand.tmp 0), type := 9, pos := "utf8.go:533", after := #[], guard := none }) (v := ?v751) rfl (by kernel_rfl) (by kernel_rfl) (by kernel_rfl) (fun _ _ _ h => h) (Or.inl ⟨by rfl, ?hy751⟩) (by assumption) ?_
            case hy751 => (intro w hSw; (try dsimp only at hSw); go_simp; (try with_reducible rfl))
            try simp only [Act.put, List.setIfInBounds_toArray, List.set_cons_zero, List.set_cons_succ]
            refine wpAnyH_take (i := 1) (oi := { dst := some 28, op := Op.call { callee := Callee.builtin Builtin.len, args := #[Operand.tmp 27], argTypes := #[9] }, type := 3, pos := "utf8.go:533", after := #[{ on := 0, ground := Ground.data }], guard := none }) (v := ?v752) rfl (by kernel_rfl) (by kernel_rfl) (by kernel_rfl) (fun _ _ _ h => h) (Or.inl ⟨by rfl, ?hy752⟩) (by assumption) ?_
            case hy752 => (intro w hSw; (try dsimp only at hSw); go_simp; (try with_reducible rfl))
            try simp only [Act.put, List.setIfInBounds_toArray, List.set_cons_zero, List.set_cons_succ]
            refine wpAnyH_take (i := 2) (oi := { dst := some 29, op := Op.binOp BinOp.gtr 3 (Operand.tmp 28) (Operand.const (Value.int IntKind.i64 16)) 3, type := 4, pos := "utf8.go:533", after := #[{ on := 1, ground := Ground.data }], guard := none }) (v := ?v753) rfl (by kernel_rfl) (by kernel_rfl) (by kernel_rfl) (fun _ _ _ h => h) (Or.inl ⟨by rfl, ?hy753⟩) (by assumption) ?_
            case hy753 => (intro w hSw; (try dsimp only at hSw); go_simp; (try with_reducible rfl))
            try simp only [Act.put, List.setIfInBounds_toArray, List.set_cons_zero, List.set_cons_succ]
            refine wpAnyH_take (i := 3) (oi := { dst := some 30, op := Op.move (Operand.tmp 29), type := 4, pos := "utf8.go:533", after := #[{ on := 2, ground := Ground.data }], guard := none }) (v := ?v754) rfl (by kernel_rfl) (by kernel_rfl) (by kernel_rfl) (fun _ _ _ h => h) (Or.inl ⟨by rfl, ?hy754⟩) (by assumption) ?_
            case hy754 => (intro w hSw; (try dsimp only at hSw); go_simp; (try with_reducible rfl))
            try simp only [Act.put, List.setIfInBounds_toArray, List.set_cons_zero, List.set_cons_succ]
            refine wpAnyH_take (i := 4) (oi := { dst := some 31, op := Op.move (Operand.tmp 0), type := 9, pos := "utf8.go:533", after := #[{ on := 3, ground := Ground.guard }], guard := some (3, true) }) (v := ?v755) rfl (by kernel_rfl) (by kernel_rfl) (by kernel_rfl) (fun _ _ _ h => h) (Or.inl ⟨by rfl, ?hy755⟩) (by assumption) ?_
            case hy755 => (intro w hSw; (try dsimp only at hSw); go_simp; (try with_reducible rfl))
            try simp only [Act.put, List.setIfInBounds_toArray, List.set_cons_zero, List.set_cons_succ]
            refine wpAnyH_take (i := 6) (oi := { dst := some 33, op := Op.move (Operand.tmp 0), type := 9, pos := "utf8.go:533", after := #[{ on := 3, ground := Ground.guard }], guard := some (3, true) }) (v := ?v756) rfl (by kernel_rfl) (by kernel_rfl) (by kernel_rfl) (fun _ _ _ h => h) (Or.inl ⟨by rfl, ?hy756⟩) (by assumption) ?_
            case hy756 => (intro w hSw; (try dsimp only at hSw); go_simp; (try with_reducible rfl))
            try simp only [Act.put, List.setIfInBounds_toArray, List.set_cons_zero, List.set_cons_succ]
            refine wpAnyH_take (i := 7) (oi := { dst := some 34, op := Op.slice 9 (Operand.tmp 33) (some (Operand.const (Value.int IntKind.i64 8))) none none, type := 9, pos := "utf8.go:533", after := #[{ on := 6, ground := Ground.data }, { on := 3, ground := Ground.guard }], guard := some (3, true) }) (v := ?v757) rfl (by kernel_rfl) (by kernel_rfl) (by kernel_rfl) (fun _ _ _ h => h) (Or.inl ⟨by rfl, ?hy757⟩) (by assumption) ?_
            case hy757 => (intro w hSw; (try dsimp only at hSw); go_simp; (try with_reducible rfl))
            try simp only [Act.put, List.setIfInBounds_toArray, List.set_cons_zero, List.set_cons_succ]
            refine wpAnyH_ready (rs := [5]) (by kernel_rfl) (by simp) ?_
            refine AllReadyH.cons (o := { dst := some 32, op := Op.call { callee := Callee.value (Operand.func 15), args := #[Operand.tmp 31], argTypes := #[9] }, type := 12, pos := "utf8.go:533", after := #[{ on := 4, ground := Ground.data }, { on := 3, ground := Ground.chain }, { on := 3, ground := Ground.guard }], guard := some (3, true) }) rfl (fun K hK => ?_) AllReadyH.nil
            go_simp
            refine (HW.out t2 _ (by omega)).mono ?_
            rintro e w6 ⟨⟨k6, rfl⟩, hb⟩
            replace HC := Lib.hid (below3w HC.out hb)
            clear hb
            go_wp2_with fail
            refine hK.out _ _ (trivial) (fun hHeld => ?_)
            clear hK K
            try simp only [Act.put, List.setIfInBounds_toArray, List.set_cons_zero, List.set_cons_succ]
            refine wpAnyH_ready (rs := [8]) (by kernel_rfl) (by simp) ?_
            refine AllReadyH.cons (o := { dst := some 35, op := Op.call { callee := Callee.value (Operand.func 15), args := #[Operand.tmp 34], argTypes := #[9] }, type := 12, pos := "utf8.go:533", after := #[{ on := 7, ground := Ground.data }, { on := 5, ground := Ground.chain }, { on := 3, ground := Ground.guard }], guard := some (3, true) }) rfl (fun K hK => ?_) AllReadyH.nil
            go_simp
            refine (HW.out (t2.extract 8 t2.size) _ (by rw [ext_size]; omega)).mono ?_
            rintro e w7 ⟨⟨k7, rfl⟩, hb⟩
            replace HC := Lib.hid (below3w HC.out hb)
            clear hb
            go_wp2_with fail
            refine hK.out _ _ (trivial) (fun hHeld => ?_)
            clear hK K
            try simp only [Act.put, List.setIfInBounds_toArray, List.set_cons_zero, List.set_cons_succ]
            refine wpAnyH_take (i := 9) (oi := { dst := some 36, op := Op.binOp BinOp.or 12 (Operand.tmp 32) (Operand.tmp 35) 12, type := 12, pos := "utf8.go:533", after := #[{ on := 5, ground := Ground.data }, { on := 8, ground := Ground.data }, { on := 3, ground := Ground.guard }], guard := some (3, true) }) (v := ?v758) rfl (by kernel_rfl) (by kernel_rfl) (by kernel_rfl) (fun _ _ _ h => h) (Or.inl ⟨by rfl, ?hy758⟩) (by assumption) ?_
            case hy758 => (intro w hSw; (try dsimp only at hSw); go_simp; (try with_reducible rfl))
            try simp only [Act.put, List.setIfInBounds_toArray, List.set_cons_zero, List.set_cons_succ]
            refine wpAnyH_take (i := 10) (oi := { dst := some 37, op := Op.binOp BinOp.and 12 (Operand.tmp 36) (Operand.const (Value.int IntKind.u64 9259542123273814144)) 12, type := 12, pos := "utf8.go:533", after := #[{ on := 9, ground := Ground.data }, { on := 3, ground := Ground.guard }], guard := some (3, true) }) (v := ?v759) rfl (by kernel_rfl) (by kernel_rfl) (by kernel_rfl) (fun _ _ _ h => h) (Or.inl ⟨by rfl, ?hy759⟩) (by assumption) ?_
            case hy759 => (intro w hSw; (try dsimp only at hSw); go_simp; (try with_reducible rfl))
            try simp only [Act.put, List.setIfInBounds_toArray, List.set_cons_zero, List.set_cons_succ]
            refine wpAnyH_take (i := 11) (oi := { dst := some 38, op := Op.binOp BinOp.eql 12 (Operand.tmp 37) (Operand.const (Value.int IntKind.u64 0)) 12, type := 4, pos := "utf8.go:533", after := #[{ on := 10, ground := Ground.data }, { on := 3, ground := Ground.guard }], guard := some (3, true) }) (v := ?v760) rfl (by kernel_rfl) (by kernel_rfl) (by kernel_rfl) (fun _ _ _ h => h) (Or.inl ⟨by rfl, ?hy760⟩) (by assumption) ?_
            case hy760 => (intro w hSw; (try dsimp only at hSw); go_simp; (try with_reducible rfl))
            try simp only [Act.put, List.setIfInBounds_toArray, List.set_cons_zero, List.set_cons_succ]
            generalize (Go.bits BinOp.and IntKind.u64 (Go.bits BinOp.or IntKind.u64 k6 k7) 9259542123273814144 == 0) = q7 at *
            refine wpAnyH_take (i := 12) (oi := { dst := some 39, op := Op.pick (Operand.tmp 30) (Operand.tmp 38) (Operand.const (Value.bool false)), type := 4, pos := "utf8.go:533", after := #[{ on := 3, ground := Ground.data }, { on := 11, ground := Ground.data }], guard := none }) (v := ?v761) rfl (by kernel_rfl) (by kernel_rfl) (by kernel_rfl) (fun _ _ _ h => h) (Or.inl ⟨by rfl, ?hy761⟩) (by assumption) ?_
            case hy761 => (intro w hSw; (try dsimp only at hSw); go_simp; (try with_reducible rfl))
            try simp only [Act.put, List.setIfInBounds_toArray, List.set_cons_zero, List.set_cons_succ]
            refine wpAnyH_done (by kernel_rfl) ?_ _
            refine NoPanic.normal ?_
            cases q7 with
            | false =>
              go_wp2_with fail
              go_roundw
              case rel => exact ⟨t2, rfl, ha2, by omega, HC⟩
              case measure => show t2.size < t.size; omega
            | true =>
              have hz3 := ext_size t2 16
              have ha3 := Lib.hid (ext_asc ha2.out 16)
              have hle6 : (16 : Int) ≤ (t2.size : Int) := by omega
              generalize ht3 : t2.extract 16 t2.size = t3 at *
              have lt3 : t3.size < t2.size := by omega
              clear hz3
              go_wp2_with fail
              have HC3 := HC
              clear HC
              go_loopw [0] (fun sv wr => ∃ t4 : ByteArray, sv = .string t4 ∧ Hid (asc t4.data.toList) ∧ t4.size + 1 ≤ t.size ∧ Hid (Below w.heap.size w wr)) (fun sv _ => vlen sv)
              case atStart => exact ⟨t3, rfl, ha3, by omega, HC3⟩
              case round =>
                obtain ⟨t4, rfl, ht4, hts4, HC⟩ := hrel
                by_cases h32 : 32 < t4.size
                · have e4 : decide ((32 : Int) < (t4.size : Int)) = true := decide_eq_true (by omega)
                  have hle4 : (8 : Int) ≤ (t4.size : Int) ∧ (16 : Int) ≤ (t4.size : Int) ∧ (24 : Int) ≤ (t4.size : Int) := by omega
                  go_wp2_with fail
                  refine wp_region_noPanic ?_
                  refine wp_region_held_drew (S := (fun w' => True)) (by kernel_rfl) (trivial) (fun hHeld => ?_)
                  replace HC := Lib.hid (Below.drew HC.out)
                  generalize hwd : World.drew _ = wd at *
                  clear hwd
                  refine wpAnyH_take (i := 0) (oi := { dst := some 42, op := Op.move (Operand.tmp 0), type := 9, pos := "utf8.go:535", after := #[], guard := none }) (v := ?v951) rfl (by kernel_rfl) (by kernel_rfl) (by kernel_rfl) (fun _ _ _ h => h) (Or.inl ⟨by rfl, ?hy951⟩) (by assumption) ?_
                  case hy951 => (intro w hSw; (try dsimp only at hSw); go_simp; (try with_reducible rfl))
                  try simp only [Act.put, List.setIfInBounds_toArray, List.set_cons_zero, List.set_cons_succ]
                  refine wpAnyH_take (i := 1) (oi := { dst := some 43, op := Op.call { callee := Callee.builtin Builtin.len, args := #[Operand.tmp 42], argTypes := #[9] }, type := 3, pos := "utf8.go:535", after := #[{ on := 0, ground := Ground.data }], guard := none }) (v := ?v952) rfl (by kernel_rfl) (by kernel_rfl) (by kernel_rfl) (fun _ _ _ h => h) (Or.inl ⟨by rfl, ?hy952⟩) (by assumption) ?_
                  case hy952 => (intro w hSw; (try dsimp only at hSw); go_simp; (try with_reducible rfl))
                  try simp only [Act.put, List.setIfInBounds_toArray, List.set_cons_zero, List.set_cons_succ]
                  refine wpAnyH_take (i := 2) (oi := { dst := some 44, op := Op.binOp BinOp.gtr 3 (Operand.tmp 43) (Operand.const (Value.int IntKind.i64 32)) 3, type := 4, pos := "utf8.go:535", after := #[{ on := 1, ground := Ground.data }], guard := none }) (v := ?v953) rfl (by kernel_rfl) (by kernel_rfl) (by kernel_rfl) (fun _ _ _ h => h) (Or.inl ⟨by rfl, ?hy953⟩) (by assumption) ?_
                  case hy953 => (intro w hSw; (try dsimp only at hSw); go_simp; (try with_reducible rfl))
                  try simp only [Act.put, List.setIfInBounds_toArray, List.set_cons_zero, List.set_cons_succ]
                  refine wpAnyH_take (i := 3) (oi := { dst := some 45, op := Op.move (Operand.tmp 44), type := 4, pos := "utf8.go:535", after := #[{ on := 2, ground := Ground.data }], guard := none }) (v := ?v954) rfl (by kernel_rfl) (by kernel_rfl) (by kernel_rfl) (fun _ _ _ h => h) (Or.inl ⟨by rfl, ?hy954⟩) (by assumption) ?_
                  case hy954 => (intro w hSw; (try dsimp only at hSw); go_simp; (try with_reducible rfl))
                  try simp only [Act.put, List.setIfInBounds_toArray, List.set_cons_zero, List.set_cons_succ]
                  refine wpAnyH_take (i := 4) (oi := { dst := some 46, op := Op.move (Operand.tmp 0), type := 9, pos := "utf8.go:535", after := #[{ on := 3, ground := Ground.guard }], guard := some (3, true) }) (v := ?v955) rfl (by kernel_rfl) (by kernel_rfl) (by kernel_rfl) (fun _ _ _ h => h) (Or.inl ⟨by rfl, ?hy955⟩) (by assumption) ?_
                  case hy955 => (intro w hSw; (try dsimp only at hSw); go_simp; (try with_reducible rfl))
                  try simp only [Act.put, List.setIfInBounds_toArray, List.set_cons_zero, List.set_cons_succ]
                  refine wpAnyH_take (i := 6) (oi := { dst := some 48, op := Op.move (Operand.tmp 0), type := 9, pos := "utf8.go:535", after := #[{ on := 3, ground := Ground.guard }], guard := some (3, true) }) (v := ?v956) rfl (by kernel_rfl) (by kernel_rfl) (by kernel_rfl) (fun _ _ _ h => h) (Or.inl ⟨by rfl, ?hy956⟩) (by assumption) ?_
                  case hy956 => (intro w hSw; (try dsimp only at hSw); go_simp; (try with_reducible rfl))
                  try simp only [Act.put, List.setIfInBounds_toArray, List.set_cons_zero, List.set_cons_succ]
                  refine wpAnyH_take (i := 7) (oi := { dst := some 49, op := Op.slice 9 (Operand.tmp 48) (some (Operand.const (Value.int IntKind.i64 8))) none none, type := 9, pos := "utf8.go:535", after := #[{ on := 6, ground := Ground.data }, { on := 3, ground := Ground.guard }], guard := some (3, true) }) (v := ?v957) rfl (by kernel_rfl) (by kernel_rfl) (by kernel_rfl) (fun _ _ _ h => h) (Or.inl ⟨by rfl, ?hy957⟩) (by assumption) ?_
                  case hy957 => (intro w hSw; (try dsimp only at hSw); go_simp; (try with_reducible rfl))
                  try simp only [Act.put, List.setIfInBounds_toArray, List.set_cons_zero, List.set_cons_succ]
                  refine wpAnyH_take (i := 10) (oi := { dst := some 52, op := Op.move (Operand.tmp 0), type := 9, pos := "utf8.go:535", after := #[{ on := 3, ground := Ground.guard }], guard := some (3, true) }) (v := ?v958) rfl (by kernel_rfl) (by kernel_rfl) (by kernel_rfl) (fun _ _ _ h => h) (Or.inl ⟨by rfl, ?hy958⟩) (by assumption) ?_
                  case hy958 => (intro w hSw; (try dsimp only at hSw); go_simp; (try with_reducible rfl))
                  try simp only [Act.put, List.setIfInBounds_toArray, List.set_cons_zero, List.set_cons_succ]
                  refine wpAnyH_take (i := 11) (oi := { dst := some 53, op := Op.slice 9 (Operand.tmp 52) (some (Operand.const (Value.int IntKind.i64 16))) none none, type := 9, pos := "utf8.go:535", after := #[{ on := 10, ground := Ground.data }, { on := 3, ground := Ground.guard }], guard := some (3, true) }) (v := ?v959) rfl (by kernel_rfl) (by kernel_rfl) (by kernel_rfl) (fun _ _ _ h => h) (Or.inl ⟨by rfl, ?hy959⟩) (by assumption) ?_
                  case hy959 => (intro w hSw; (try dsimp only at hSw); go_simp; (try with_reducible rfl))
                  try simp only [Act.put, List.setIfInBounds_toArray, List.set_cons_zero, List.set_cons_succ]
                  refine wpAnyH_take (i := 13) (oi := { dst := some 55, op := Op.move (Operand.tmp 0), type := 9, pos := "utf8.go:535", after := #[{ on := 3, ground := Ground.guard }], guard := some (3, true) }) (v := ?v960) rfl (by kernel_rfl) (by kernel_rfl) (by kernel_rfl) (fun _ _ _ h => h) (Or.inl ⟨by rfl, ?hy960⟩) (by assumption) ?_
                  case hy960 => (intro w hSw; (try dsimp only at hSw); go_simp; (try with_reducible rfl))
                  try simp only [Act.put, List.setIfInBounds_toArray, List.set_cons_zero, List.set_cons_succ]
                  refine wpAnyH_take (i := 14) (oi := { dst := some 56, op := Op.slice 9 (Operand.tmp 55) (some (Operand.const (Value.int IntKind.i64 24))) none none, type := 9, pos := "utf8.go:535", after := #[{ on := 13, ground := Ground.data }, { on := 3, ground := Ground.guard }], guard := some (3, true) }) (v := ?v961) rfl (by kernel_rfl) (by kernel_rfl) (by kernel_rfl) (fun _ _ _ h => h) (Or.inl ⟨by rfl, ?hy961⟩) (by assumption) ?_
                  case hy961 => (intro w hSw; (try dsimp only at hSw); go_simp; (try with_reducible rfl))
                  try simp only [Act.put, List.setIfInBounds_toArray, List.set_cons_zero, List.set_cons_succ]
                  refine wpAnyH_ready (rs := [5]) (by kernel_rfl) (by simp) ?_
                  refine AllReadyH.cons (o := { dst := some 47, op := Op.call { callee := Callee.value (Operand.func 15), args := #[Operand.tmp 46], argTypes := #[9] }, type := 12, pos := "utf8.go:535", after := #[{ on := 4, ground := Ground.data }, { on := 3, ground := Ground.chain }, { on := 3, ground := Ground.guard }], guard := some (3, true) }) rfl (fun K hK => ?_) AllReadyH.nil
                  go_simp
                  refine (HW.out t4 _ (by omega)).mono ?_
                  rintro e w10 ⟨⟨k10, rfl⟩, hb⟩
                  replace HC := Lib.hid (below3w HC.out hb)
                  clear hb
                  go_wp2_with fail
                  refine hK.out _ _ (trivial) (fun hHeld => ?_)
                  clear hK K
                  try simp only [Act.put, List.setIfInBounds_toArray, List.set_cons_zero, List.set_cons_succ]
                  refine wpAnyH_ready (rs := [8]) (by kernel_rfl) (by simp) ?_
                  refine AllReadyH.cons (o := { dst := some 50, op := Op.call { callee := Callee.value (Operand.func 15), args := #[Operand.tmp 49], argTypes := #[9] }, type := 12, pos := "utf8.go:535", after := #[{ on := 7, ground := Ground.data }, { on := 5, ground := Ground.chain }, { on := 3, ground := Ground.guard }], guard := some (3, true) }) rfl (fun K hK => ?_) AllReadyH.nil
                  go_simp
                  refine (HW.out (t4.extract 8 t4.size) _ (by rw [ext_size]; omega)).mono ?_
                  rintro e w11 ⟨⟨k11, rfl⟩, hb⟩
                  replace HC := Lib.hid (below3w HC.out hb)
                  clear hb
                  go_wp2_with fail
                  refine hK.out _ _ (trivial) (fun hHeld => ?_)
                  clear hK K
                  try simp only [Act.put, List.setIfInBounds_toArray, List.set_cons_zero, List.set_cons_succ]
                  refine wpAnyH_take (i := 9) (oi := { dst := some 51, op := Op.binOp BinOp.or 12 (Operand.tmp 47) (Operand.tmp 50) 12, type := 12, pos := "utf8.go:535", after := #[{ on := 5, ground := Ground.data }, { on := 8, ground := Ground.data }, { on := 3, ground := Ground.guard }], guard := some (3, true) }) (v := ?v962) rfl (by kernel_rfl) (by kernel_rfl) (by kernel_rfl) (fun _ _ _ h => h) (Or.inl ⟨by rfl, ?hy962⟩) (by assumption) ?_
                  case hy962 => (intro w hSw; (try dsimp only at hSw); go_simp; (try with_reducible rfl))
                  try simp only [Act.put, List.setIfInBounds_toArray, List.set_cons_zero, List.set_cons_succ]
                  refine wpAnyH_ready (rs := [12]) (by kernel_rfl) (by simp) ?_
                  refine AllReadyH.cons (o := { dst := some 54, op := Op.call { callee := Callee.value (Operand.func 15), args := #[Operand.tmp 53], argTypes := #[9] }, type := 12, pos := "utf8.go:535", after := #[{ on := 11, ground := Ground.data }, { on := 8, ground := Ground.chain }, { on := 3, ground := Ground.guard }], guard := some (3, true) }) rfl (fun K hK => ?_) AllReadyH.nil
                  go_simp
                  refine (HW.out (t4.extract 16 t4.size) _ (by rw [ext_size]; omega)).mono ?_
                  rintro e w12 ⟨⟨k12, rfl⟩, hb⟩
                  replace HC := Lib.hid (below3w HC.out hb)
                  clear hb
                  go_wp2_with fail
                  refine hK.out _ _ (trivial) (fun hHeld => ?_)
                  clear hK K
                  try simp only [Act.put, List.setIfInBounds_toArray, List.set_cons_zero, List.set_cons_succ]
                  refine wpAnyH_ready (rs := [15]) (by kernel_rfl) (by simp) ?_
                  refine AllReadyH.cons (o := { dst := some 57, op := Op.call { callee := Callee.value (Operand.func 15), args := #[Operand.tmp 56], argTypes := #[9] }, type := 12, pos := "utf8.go:535", after := #[{ on := 14, ground := Ground.data }, { on := 12, ground := Ground.chain }, { on := 3, ground := Ground.guard }], guard := some (3, true) }) rfl (fun K hK => ?_) AllReadyH.nil
                  go_simp
                  refine (HW.out (t4.extract 24 t4.size) _ (by rw [ext_size]; omega)).mono ?_
                  rintro e w13 ⟨⟨k13, rfl⟩, hb⟩
                  replace HC := Lib.hid (below3w HC.out hb)
                  clear hb
                  go_wp2_with fail
                  refine hK.out _ _ (trivial) (fun hHeld => ?_)
                  clear hK K
                  try simp only [Act.put, List.setIfInBounds_toArray, List.set_cons_zero, List.set_cons_succ]
                  refine wpAnyH_take (i := 16) (oi := { dst := some 58, op := Op.binOp BinOp.or 12 (Operand.tmp 54) (Operand.tmp 57) 12, type := 12, pos := "utf8.go:535", after := #[{ on := 12, ground := Ground.data }, { on := 15, ground := Ground.data }, { on := 3, ground := Ground.guard }], guard := some (3, true) }) (v := ?v963) rfl (by kernel_rfl) (by kernel_rfl) (by kernel_rfl) (fun _ _ _ h => h) (Or.inl ⟨by rfl, ?hy963⟩) (by assumption) ?_
                  case hy963 => (intro w hSw; (try dsimp only at hSw); go_simp; (try with_reducible rfl))
                  try simp only [Act.put, List.setIfInBounds_toArray, List.set_cons_zero, List.set_cons_succ]
                  refine wpAnyH_take (i := 17) (oi := { dst := some 59, op := Op.binOp BinOp.or 12 (Operand.tmp 51) (Operand.tmp 58) 12, type := 12, pos := "utf8.go:535", after := #[{ on := 9, ground := Ground.data }, { on := 16, ground := Ground.data }, { on := 3, ground := Ground.guard }], guard := some (3, true) }) (v := ?v964) rfl (by kernel_rfl) (by kernel_rfl) (by kernel_rfl) (fun _ _ _ h => h) (Or.inl ⟨by rfl, ?hy964⟩) (by assumption) ?_
                  case hy964 => (intro w hSw; (try dsimp only at hSw); go_simp; (try with_reducible rfl))
                  try simp only [Act.put, List.setIfInBounds_toArray, List.set_cons_zero, List.set_cons_succ]
                  refine wpAnyH_take (i := 18) (oi := { dst := some 60, op := Op.binOp BinOp.and 12 (Operand.tmp 59) (Operand.const (Value.int IntKind.u64 9259542123273814144)) 12, type := 12, pos := "utf8.go:535", after := #[{ on := 17, ground := Ground.data }, { on := 3, ground := Ground.guard }], guard := some (3, true) }) (v := ?v965) rfl (by kernel_rfl) (by kernel_rfl) (by kernel_rfl) (fun _ _ _ h => h) (Or.inl ⟨by rfl, ?hy965⟩) (by assumption) ?_
                  case hy965 => (intro w hSw; (try dsimp only at hSw); go_simp; (try with_reducible rfl))
                  try simp only [Act.put, List.setIfInBounds_toArray, List.set_cons_zero, List.set_cons_succ]
                  refine wpAnyH_take (i := 19) (oi := { dst := some 61, op := Op.binOp BinOp.eql 12 (Operand.tmp 60) (Operand.const (Value.int IntKind.u64 0)) 12, type := 4, pos := "utf8.go:535", after := #[{ on := 18, ground := Ground.data }, { on := 3, ground := Ground.guard }], guard := some (3, true) }) (v := ?v966) rfl (by kernel_rfl) (by kernel_rfl) (by kernel_rfl) (fun _ _ _ h => h) (Or.inl ⟨by rfl, ?hy966⟩) (by assumption) ?_
                  case hy966 => (intro w hSw; (try dsimp only at hSw); go_simp; (try with_reducible rfl))
                  try simp only [Act.put, List.setIfInBounds_toArray, List.set_cons_zero, List.set_cons_succ]
                  generalize (Go.bits BinOp.and IntKind.u64 (Go.bits BinOp.or IntKind.u64 (Go.bits BinOp.or IntKind.u64 k10 k11) (Go.bits BinOp.or IntKind.u64 k12 k13)) 9259542123273814144 == 0) = q9 at *
                  refine wpAnyH_take (i := 20) (oi := { dst := some 62, op := Op.pick (Operand.tmp 45) (Operand.tmp 61) (Operand.const (Value.bool false)), type := 4, pos := "utf8.go:535", after := #[{ on := 3, ground := Ground.data }, { on := 19, ground := Ground.data }], guard := none }) (v := ?v967) rfl (by kernel_rfl) (by kernel_rfl) (by kernel_rfl) (fun _ _ _ h => h) (Or.inl ⟨by rfl, ?hy967⟩) (by assumption) ?_
                  case hy967 => (intro w hSw; (try dsimp only at hSw); go_simp; (try with_reducible rfl))
                  try simp only [Act.put, List.setIfInBounds_toArray, List.set_cons_zero, List.set_cons_succ]
                  refine wpAnyH_done (by kernel_rfl) ?_ _
                  refine NoPanic.normal ?_
                  cases q9 with
                  | false =>
                    go_wp2_with fail
                    go_roundw
                    case rel => exact ⟨t4, rfl, ht4, by omega, HC⟩
                    case measure => show t4.size < t.size; omega
                  | true =>
                    have hz5 := ext_size t4 32
                    have ha5 := Lib.hid (ext_asc ht4.out 32)
                    have hle5 : (32 : Int) ≤ (t4.size : Int) := by omega
                    generalize ht5 : t4.extract 32 t4.size = t5 at *
                    have lt5 : t5.size < t4.size := by omega
                    clear hz5
                    go_wp2_with fail
                    go_roundw
                    case rel => exact ⟨t5, rfl, ha5, by omega, HC⟩
                    case measure => show t5.size < t4.size; omega
                · have e4 : decide ((32 : Int) < (t4.size : Int)) = false := decide_eq_false (by omega)
                  go_wp2_with fail
                  refine wp_region_noPanic ?_
                  refine wp_region_held_drew (S := (fun w' => True)) (by kernel_rfl) (trivial) (fun hHeld => ?_)
                  replace HC := Lib.hid (Below.drew HC.out)
                  generalize hwd : World.drew _ = wd at *
                  clear hwd
                  refine wpAnyH_take (i := 0) (oi := { dst := some 42, op := Op.move (Operand.tmp 0), type := 9, pos := "utf8.go:535", after := #[], guard := none }) (v := ?v901) rfl (by kernel_rfl) (by kernel_rfl) (by kernel_rfl) (fun _ _ _ h => h) (Or.inl ⟨by rfl, ?hy901⟩) (by assumption) ?_
                  case hy901 => (intro w hSw; (try dsimp only at hSw); go_simp; (try with_reducible rfl))
                  try simp only [Act.put, List.setIfInBounds_toArray, List.set_cons_zero, List.set_cons_succ]
                  refine wpAnyH_take (i := 1) (oi := { dst := some 43, op := Op.call { callee := Callee.builtin Builtin.len, args := #[Operand.tmp 42], argTypes := #[9] }, type := 3, pos := "utf8.go:535", after := #[{ on := 0, ground := Ground.data }], guard := none }) (v := ?v902) rfl (by kernel_rfl) (by kernel_rfl) (by kernel_rfl) (fun _ _ _ h => h) (Or.inl ⟨by rfl, ?hy902⟩) (by assumption) ?_
                  case hy902 => (intro w hSw; (try dsimp only at hSw); go_simp; (try with_reducible rfl))
                  try simp only [Act.put, List.setIfInBounds_toArray, List.set_cons_zero, List.set_cons_succ]
                  refine wpAnyH_take (i := 2) (oi := { dst := some 44, op := Op.binOp BinOp.gtr 3 (Operand.tmp 43) (Operand.const (Value.int IntKind.i64 32)) 3, type := 4, pos := "utf8.go:535", after := #[{ on := 1, ground := Ground.data }], guard := none }) (v := ?v903) rfl (by kernel_rfl) (by kernel_rfl) (by kernel_rfl) (fun _ _ _ h => h) (Or.inl ⟨by rfl, ?hy903⟩) (by assumption) ?_
                  case hy903 => (intro w hSw; (try dsimp only at hSw); go_simp; (try with_reducible rfl))
                  try simp only [Act.put, List.setIfInBounds_toArray, List.set_cons_zero, List.set_cons_succ]
                  refine wpAnyH_take (i := 3) (oi := { dst := some 45, op := Op.move (Operand.tmp 44), type := 4, pos := "utf8.go:535", after := #[{ on := 2, ground := Ground.data }], guard := none }) (v := ?v904) rfl (by kernel_rfl) (by kernel_rfl) (by kernel_rfl) (fun _ _ _ h => h) (Or.inl ⟨by rfl, ?hy904⟩) (by assumption) ?_
                  case hy904 => (intro w hSw; (try dsimp only at hSw); go_simp; (try with_reducible rfl))
                  try simp only [Act.put, List.setIfInBounds_toArray, List.set_cons_zero, List.set_cons_succ]
                  refine wpAnyH_take (i := 4) (oi := { dst := some 46, op := Op.move (Operand.tmp 0), type := 9, pos := "utf8.go:535", after := #[{ on := 3, ground := Ground.guard }], guard := some (3, true) }) (v := undef) rfl (by kernel_rfl) (by kernel_rfl) (by kernel_rfl) (fun _ _ _ h => h) (Or.inr ⟨by rfl, rfl⟩) (by assumption) ?_
                  try simp only [Act.put, List.setIfInBounds_toArray, List.set_cons_zero, List.set_cons_succ]
                  refine wpAnyH_take (i := 5) (oi := { dst := some 47, op := Op.call { callee := Callee.value (Operand.func 15), args := #[Operand.tmp 46], argTypes := #[9] }, type := 12, pos := "utf8.go:535", after := #[{ on := 4, ground := Ground.data }, { on := 3, ground := Ground.chain }, { on := 3, ground := Ground.guard }], guard := some (3, true) }) (v := undef) rfl (by kernel_rfl) (by kernel_rfl) (by kernel_rfl) (fun _ _ _ h => h) (Or.inr ⟨by rfl, rfl⟩) (by assumption) ?_
                  try simp only [Act.put, List.setIfInBounds_toArray, List.set_cons_zero, List.set_cons_succ]
                  refine wpAnyH_take (i := 6) (oi := { dst := some 48, op := Op.move (Operand.tmp 0), type := 9, pos := "utf8.go:535", after := #[{ on := 3, ground := Ground.guard }], guard := some (3, true) }) (v := undef) rfl (by kernel_rfl) (by kernel_rfl) (by kernel_rfl) (fun _ _ _ h => h) (Or.inr ⟨by rfl, rfl⟩) (by assumption) ?_
                  try simp only [Act.put, List.setIfInBounds_toArray, List.set_cons_zero, List.set_cons_succ]
                  refine wpAnyH_take (i := 7) (oi := { dst := some 49, op := Op.slice 9 (Operand.tmp 48) (some (Operand.const (Value.int IntKind.i64 8))) none none, type := 9, pos := "utf8.go:535", after := #[{ on := 6, ground := Ground.data }, { on := 3, ground := Ground.guard }], guard := some (3, true) }) (v := undef) rfl (by kernel_rfl) (by kernel_rfl) (by kernel_rfl) (fun _ _ _ h => h) (Or.inr ⟨by rfl, rfl⟩) (by assumption) ?_
                  try simp only [Act.put, List.setIfInBounds_toArray, List.set_cons_zero, List.set_cons_succ]
                  refine wpAnyH_take (i := 8) (oi := { dst := some 50, op := Op.call { callee := Callee.value (Operand.func 15), args := #[Operand.tmp 49], argTypes := #[9] }, type := 12, pos := "utf8.go:535", after := #[{ on := 7, ground := Ground.data }, { on := 5, ground := Ground.chain }, { on := 3, ground := Ground.guard }], guard := some (3, true) }) (v := undef) rfl (by kernel_rfl) (by kernel_rfl) (by kernel_rfl) (fun _ _ _ h => h) (Or.inr ⟨by rfl, rfl⟩) (by assumption) ?_
                  try simp only [Act.put, List.setIfInBounds_toArray, List.set_cons_zero, List.set_cons_succ]
                  refine wpAnyH_take (i := 9) (oi := { dst := some 51, op := Op.binOp BinOp.or 12 (Operand.tmp 47) (Operand.tmp 50) 12, type := 12, pos := "utf8.go:535", after := #[{ on := 5, ground := Ground.data }, { on := 8, ground := Ground.data }, { on := 3, ground := Ground.guard }], guard := some (3, true) }) (v := undef) rfl (by kernel_rfl) (by kernel_rfl) (by kernel_rfl) (fun _ _ _ h => h) (Or.inr ⟨by rfl, rfl⟩) (by assumption) ?_
                  try simp only [Act.put, List.setIfInBounds_toArray, List.set_cons_zero, List.set_cons_succ]
                  refine wpAnyH_take (i := 10) (oi := { dst := some 52, op := Op.move (Operand.tmp 0), type := 9, pos := "utf8.go:535", after := #[{ on := 3, ground := Ground.guard }], guard := some (3, true) }) (v := undef) rfl (by kernel_rfl) (by kernel_rfl) (by kernel_rfl) (fun _ _ _ h => h) (Or.inr ⟨by rfl, rfl⟩) (by assumption) ?_
                  try simp only [Act.put, List.setIfInBounds_toArray, List.set_cons_zero, List.set_cons_succ]
                  refine wpAnyH_take (i := 11) (oi := { dst := some 53, op := Op.slice 9 (Operand.tmp 52) (some (Operand.const (Value.int IntKind.i64 16))) none none, type := 9, pos := "utf8.go:535", after := #[{ on := 10, ground := Ground.data }, { on := 3, ground := Ground.guard }], guard := some (3, true) }) (v := undef) rfl (by kernel_rfl) (by kernel_rfl) (by kernel_rfl) (fun _ _ _ h => h) (Or.inr ⟨by rfl, rfl⟩) (by assumption) ?_
                  try simp only [Act.put, List.setIfInBounds_toArray, List.set_cons_zero, List.set_cons_succ]
                  refine wpAnyH_take (i := 12) (oi := { dst := some 54, op := Op.call { callee := Callee.value (Operand.func 15), args := #[Operand.tmp 53], argTypes := #[9] }, type := 12, pos := "utf8.go:535", after := #[{ on := 11, ground := Ground.data }, { on := 8, ground := Ground.chain }, { on := 3, ground := Ground.guard }], guard := some (3, true) }) (v := undef) rfl (by kernel_rfl) (by kernel_rfl) (by kernel_rfl) (fun _ _ _ h => h) (Or.inr ⟨by rfl, rfl⟩) (by assumption) ?_
                  try simp only [Act.put, List.setIfInBounds_toArray, List.set_cons_zero, List.set_cons_succ]
                  refine wpAnyH_take (i := 13) (oi := { dst := some 55, op := Op.move (Operand.tmp 0), type := 9, pos := "utf8.go:535", after := #[{ on := 3, ground := Ground.guard }], guard := some (3, true) }) (v := undef) rfl (by kernel_rfl) (by kernel_rfl) (by kernel_rfl) (fun _ _ _ h => h) (Or.inr ⟨by rfl, rfl⟩) (by assumption) ?_
                  try simp only [Act.put, List.setIfInBounds_toArray, List.set_cons_zero, List.set_cons_succ]
                  refine wpAnyH_take (i := 14) (oi := { dst := some 56, op := Op.slice 9 (Operand.tmp 55) (some (Operand.const (Value.int IntKind.i64 24))) none none, type := 9, pos := "utf8.go:535", after := #[{ on := 13, ground := Ground.data }, { on := 3, ground := Ground.guard }], guard := some (3, true) }) (v := undef) rfl (by kernel_rfl) (by kernel_rfl) (by kernel_rfl) (fun _ _ _ h => h) (Or.inr ⟨by rfl, rfl⟩) (by assumption) ?_
                  try simp only [Act.put, List.setIfInBounds_toArray, List.set_cons_zero, List.set_cons_succ]
                  refine wpAnyH_take (i := 15) (oi := { dst := some 57, op := Op.call { callee := Callee.value (Operand.func 15), args := #[Operand.tmp 56], argTypes := #[9] }, type := 12, pos := "utf8.go:535", after := #[{ on := 14, ground := Ground.data }, { on := 12, ground := Ground.chain }, { on := 3, ground := Ground.guard }], guard := some (3, true) }) (v := undef) rfl (by kernel_rfl) (by kernel_rfl) (by kernel_rfl) (fun _ _ _ h => h) (Or.inr ⟨by rfl, rfl⟩) (by assumption) ?_
                  try simp only [Act.put, List.setIfInBounds_toArray, List.set_cons_zero, List.set_cons_succ]
                  refine wpAnyH_take (i := 16) (oi := { dst := some 58, op := Op.binOp BinOp.or 12 (Operand.tmp 54) (Operand.tmp 57) 12, type := 12, pos := "utf8.go:535", after := #[{ on := 12, ground := Ground.data }, { on := 15, ground := Ground.data }, { on := 3, ground := Ground.guard }], guard := some (3, true) }) (v := undef) rfl (by kernel_rfl) (by kernel_rfl) (by kernel_rfl) (fun _ _ _ h => h) (Or.inr ⟨by rfl, rfl⟩) (by assumption) ?_
                  try simp only [Act.put, List.setIfInBounds_toArray, List.set_cons_zero, List.set_cons_succ]
                  refine wpAnyH_take (i := 17) (oi := { dst := some 59, op := Op.binOp BinOp.or 12 (Operand.tmp 51) (Operand.tmp 58) 12, type := 12, pos := "utf8.go:535", after := #[{ on := 9, ground := Ground.data }, { on := 16, ground := Ground.data }, { on := 3, ground := Ground.guard }], guard := some (3, true) }) (v := undef) rfl (by kernel_rfl) (by kernel_rfl) (by kernel_rfl) (fun _ _ _ h => h) (Or.inr ⟨by rfl, rfl⟩) (by assumption) ?_
                  try simp only [Act.put, List.setIfInBounds_toArray, List.set_cons_zero, List.set_cons_succ]
                  refine wpAnyH_take (i := 18) (oi := { dst := some 60, op := Op.binOp BinOp.and 12 (Operand.tmp 59) (Operand.const (Value.int IntKind.u64 9259542123273814144)) 12, type := 12, pos := "utf8.go:535", after := #[{ on := 17, ground := Ground.data }, { on := 3, ground := Ground.guard }], guard := some (3, true) }) (v := undef) rfl (by kernel_rfl) (by kernel_rfl) (by kernel_rfl) (fun _ _ _ h => h) (Or.inr ⟨by rfl, rfl⟩) (by assumption) ?_
                  try simp only [Act.put, List.setIfInBounds_toArray, List.set_cons_zero, List.set_cons_succ]
                  refine wpAnyH_take (i := 19) (oi := { dst := some 61, op := Op.binOp BinOp.eql 12 (Operand.tmp 60) (Operand.const (Value.int IntKind.u64 0)) 12, type := 4, pos := "utf8.go:535", after := #[{ on := 18, ground := Ground.data }, { on := 3, ground := Ground.guard }], guard := some (3, true) }) (v := undef) rfl (by kernel_rfl) (by kernel_rfl) (by kernel_rfl) (fun _ _ _ h => h) (Or.inr ⟨by rfl, rfl⟩) (by assumption) ?_
                  try simp only [Act.put, List.setIfInBounds_toArray, List.set_cons_zero, List.set_cons_succ]
                  refine wpAnyH_take (i := 20) (oi := { dst := some 62, op := Op.pick (Operand.tmp 45) (Operand.tmp 61) (Operand.const (Value.bool false)), type := 4, pos := "utf8.go:535", after := #[{ on := 3, ground := Ground.data }, { on := 19, ground := Ground.data }], guard := none }) (v := ?v905) rfl (by kernel_rfl) (by kernel_rfl) (by kernel_rfl) (fun _ _ _ h => h) (Or.inl ⟨by rfl, ?hy905⟩) (by assumption) ?_
                  case hy905 => (intro w hSw; (try dsimp only at hSw); go_simp; (try with_reducible rfl))
                  try simp only [Act.put, List.setIfInBounds_toArray, List.set_cons_zero, List.set_cons_succ]
                  refine wpAnyH_done (by kernel_rfl) ?_ _
                  refine NoPanic.normal ?_
                  go_wp2_with fail
                  go_roundw
                  case rel => exact ⟨t4, rfl, ht4, by omega, HC⟩
                  case measure => show t4.size < t.size; omega
          · have e3 : decide ((16 : Int) < (t2.size : Int)) = false := decide_eq_false (by omega)
            go_wp2_with fail
            refine wp_region_noPanic ?_
            refine wp_region_held_drew (S := (fun w' => True)) (by kernel_rfl) (trivial) (fun hHeld => ?_)
            replace HC := Lib.hid (Below.drew HC.out)
            generalize hwd : World.drew _ = wd at *
            clear hwd
            refine wpAnyH_take (i := 0) (oi := { dst := some 27, op := Op.move (Operand.tmp 0), type := 9, pos := "utf8.go:533", after := #[], guard := none }) (v := ?v701) rfl (by kernel_rfl) (by kernel_rfl) (by kernel_rfl) (fun _ _ _ h => h) (Or.inl ⟨by rfl, ?hy701⟩) (by assumption) ?_
            case hy701 => (intro w hSw; (try dsimp only at hSw); go_simp; (try with_reducible rfl))
            try simp only [Act.put, List.setIfInBounds_toArray, List.set_cons_zero, List.set_cons_succ]
            refine wpAnyH_take (i := 1) (oi := { dst := some 28, op := Op.call { callee := Callee.builtin Builtin.len, args := #[Operand.tmp 27], argTypes := #[9] }, type := 3, pos := "utf8.go:533", after := #[{ on := 0, ground := Ground.data }], guard := none }) (v := ?v702) rfl (by kernel_rfl) (by kernel_rfl) (by kernel_rfl) (fun _ _ _ h => h) (Or.inl ⟨by rfl, ?hy702⟩) (by assumption) ?_
            case hy702 => (intro w hSw; (try dsimp only at hSw); go_simp; (try with_reducible rfl))
            try simp only [Act.put, List.setIfInBounds_toArray, List.set_cons_zero, List.set_cons_succ]
            refine wpAnyH_take (i := 2) (oi := { dst := some 29, op := Op.binOp BinOp.gtr 3 (Operand.tmp 28) (Operand.const (Value.int IntKind.i64 16)) 3, type := 4, pos := "utf8.go:533", after := #[{ on := 1, ground := Ground.data }], guard := none }) (v := ?v703) rfl (by kernel_rfl) (by kernel_rfl) (by kernel_rfl) (fun _ _ _ h => h) (Or.inl ⟨by rfl, ?hy703⟩) (by assumption) ?_
            case hy703 => (intro w hSw; (try dsimp only at hSw); go_simp; (try with_reducible rfl))
            try simp only [Act.put, List.setIfInBounds_toArray, List.set_cons_zero, List.set_cons_succ]
            refine wpAnyH_take (i := 3) (oi := { dst := some 30, op := Op.move (Operand.tmp 29), type := 4, pos := "utf8.go:533", after := #[{ on := 2, ground := Ground.data }], guard := none }) (v := ?v704) rfl (by kernel_rfl) (by kernel_rfl) (by kernel_rfl) (fun _ _ _ h => h) (Or.inl ⟨by rfl, ?hy704⟩) (by assumption) ?_
            case hy704 => (intro w hSw; (try dsimp only at hSw); go_simp; (try with_reducible rfl))
            try simp only [Act.put, List.setIfInBounds_toArray, List.set_cons_zero, List.set_cons_succ]
            refine wpAnyH_take (i := 4) (oi := { dst := some 31, op := Op.move (Operand.tmp 0), type := 9, pos := "utf8.go:533", after := #[{ on := 3, ground := Ground.guard }], guard := some (3, true) }) (v := undef) rfl (by kernel_rfl) (by kernel_rfl) (by kernel_rfl) (fun _ _ _ h => h) (Or.inr ⟨by rfl, rfl⟩) (by assumption) ?_
            try simp only [Act.put, List.setIfInBounds_toArray, List.set_cons_zero, List.set_cons_succ]
            refine wpAnyH_take (i := 5) (oi := { dst := some 32, op := Op.call { callee := Callee.value (Operand.func 15), args := #[Operand.tmp 31], argTypes := #[9] }, type := 12, pos := "utf8.go:533", after := #[{ on := 4, ground := Ground.data }, { on := 3, ground := Ground.chain }, { on := 3, ground := Ground.guard }], guard := some (3, true) }) (v := undef) rfl (by kernel_rfl) (by kernel_rfl) (by kernel_rfl) (fun _ _ _ h => h) (Or.inr ⟨by rfl, rfl⟩) (by assumption) ?_
            try simp only [Act.put, List.setIfInBounds_toArray, List.set_cons_zero, List.set_cons_succ]
            refine wpAnyH_take (i := 6) (oi := { dst := some 33, op := Op.move (Operand.tmp 0), type := 9, pos := "utf8.go:533", after := #[{ on := 3, ground := Ground.guard }], guard := some (3, true) }) (v := undef) rfl (by kernel_rfl) (by kernel_rfl) (by kernel_rfl) (fun _ _ _ h => h) (Or.inr ⟨by rfl, rfl⟩) (by assumption) ?_
            try simp only [Act.put, List.setIfInBounds_toArray, List.set_cons_zero, List.set_cons_succ]
            refine wpAnyH_take (i := 7) (oi := { dst := some 34, op := Op.slice 9 (Operand.tmp 33) (some (Operand.const (Value.int IntKind.i64 8))) none none, type := 9, pos := "utf8.go:533", after := #[{ on := 6, ground := Ground.data }, { on := 3, ground := Ground.guard }], guard := some (3, true) }) (v := undef) rfl (by kernel_rfl) (by kernel_rfl) (by kernel_rfl) (fun _ _ _ h => h) (Or.inr ⟨by rfl, rfl⟩) (by assumption) ?_
            try simp only [Act.put, List.setIfInBounds_toArray, List.set_cons_zero, List.set_cons_succ]
            refine wpAnyH_take (i := 8) (oi := { dst := some 35, op := Op.call { callee := Callee.value (Operand.func 15), args := #[Operand.tmp 34], argTypes := #[9] }, type := 12, pos := "utf8.go:533", after := #[{ on := 7, ground := Ground.data }, { on := 5, ground := Ground.chain }, { on := 3, ground := Ground.guard }], guard := some (3, true) }) (v := undef) rfl (by kernel_rfl) (by kernel_rfl) (by kernel_rfl) (fun _ _ _ h => h) (Or.inr ⟨by rfl, rfl⟩) (by assumption) ?_
            try simp only [Act.put, List.setIfInBounds_toArray, List.set_cons_zero, List.set_cons_succ]
            refine wpAnyH_take (i := 9) (oi := { dst := some 36, op := Op.binOp BinOp.or 12 (Operand.tmp 32) (Operand.tmp 35) 12, type := 12, pos := "utf8.go:533", after := #[{ on := 5, ground := Ground.data }, { on := 8, ground := Ground.data }, { on := 3, ground := Ground.guard }], guard := some (3, true) }) (v := undef) rfl (by kernel_rfl) (by kernel_rfl) (by kernel_rfl) (fun _ _ _ h => h) (Or.inr ⟨by rfl, rfl⟩) (by assumption) ?_
            try simp only [Act.put, List.setIfInBounds_toArray, List.set_cons_zero, List.set_cons_succ]
            refine wpAnyH_take (i := 10) (oi := { dst := some 37, op := Op.binOp BinOp.and 12 (Operand.tmp 36) (Operand.const (Value.int IntKind.u64 9259542123273814144)) 12, type := 12, pos := "utf8.go:533", after := #[{ on := 9, ground := Ground.data }, { on := 3, ground := Ground.guard }], guard := some (3, true) }) (v := undef) rfl (by kernel_rfl) (by kernel_rfl) (by kernel_rfl) (fun _ _ _ h => h) (Or.inr ⟨by rfl, rfl⟩) (by assumption) ?_
            try simp only [Act.put, List.setIfInBounds_toArray, List.set_cons_zero, List.set_cons_succ]
            refine wpAnyH_take (i := 11) (oi := { dst := some 38, op := Op.binOp BinOp.eql 12 (Operand.tmp 37) (Operand.const (Value.int IntKind.u64 0)) 12, type := 4, pos := "utf8.go:533", after := #[{ on := 10, ground := Ground.data }, { on := 3, ground := Ground.guard }], guard := some (3, true) }) (v := undef) rfl (by kernel_rfl) (by kernel_rfl) (by kernel_rfl) (fun _ _ _ h => h) (Or.inr ⟨by rfl, rfl⟩) (by assumption) ?_
            try simp only [Act.put, List.setIfInBounds_toArray, List.set_cons_zero, List.set_cons_succ]
            refine wpAnyH_take (i := 12) (oi := { dst := some 39, op := Op.pick (Operand.tmp 30) (Operand.tmp 38) (Operand.const (Value.bool false)), type := 4, pos := "utf8.go:533", after := #[{ on := 3, ground := Ground.data }, { on := 11, ground := Ground.data }], guard := none }) (v := ?v705) rfl (by kernel_rfl) (by kernel_rfl) (by kernel_rfl) (fun _ _ _ h => h) (Or.inl ⟨by rfl, ?hy705⟩) (by assumption) ?_
            case hy705 => (intro w hSw; (try dsimp only at hSw); go_simp; (try with_reducible rfl))
            try simp only [Act.put, List.setIfInBounds_toArray, List.set_cons_zero, List.set_cons_succ]
            refine wpAnyH_done (by kernel_rfl) ?_ _
            refine NoPanic.normal ?_
            go_wp2_with fail
            go_roundw
            case rel => exact ⟨t2, rfl, ha2, by omega, HC⟩
            case measure => show t2.size < t.size; omega
      · have e2 : decide ((8 : Int) < (t1.size : Int)) = false := decide_eq_false (by omega)
        go_wp2_with fail
        go_roundw
        case rel => exact ⟨t1, rfl, ha1, by omega, HB⟩
        case measure => show t1.size < t.size; omega
end Go.Proofs.YtenmkoaimmnpdaaDoor
