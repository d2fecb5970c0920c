/- Go's own errors of strconv: their contracts off the library. Texts of at most 2^48 bytes. -/
import Derived.Test.YtilkcnoooecngaaGreatDoorProg
import Derived.Shelf.Pu.SyntaxError
import Derived.Shelf.Pu.RangeError
namespace Go.Proofs.YtilkcnoooecngaaGreatDoor
open Go.Shelf Go.RowKit
set_option linter.unusedVariables false
def erRen : Go.Shelf.Ren := ⟨fun | 21 => 16 | 22 => 17 | 25 => 25 | n => n, fun | 0 => 0 | 3 => 3 | 4 => 4 | 5 => 5 | 9 => 9 | 24 => 35 | 37 => 56 | 39 => 42 | 44 => 52 | 47 => 103 | 67 => 63 | n => n, fun | 0 => 0 | 1 => 1 | n => n⟩
theorem laysSyn : LaysPu.n21 Tryz.prog erRen := {
  mixed := by kernel_rfl
  f21 := Tryz.func16.trans (congrArg some (by kernel_rfl))
  f25 := Tryz.func25.trans (congrArg some (by kernel_rfl))
  t0 := Tryz.underlying0
  a0 := Tryz.isAgg0
  z0 := Tryz.sizeOf0
  v0 := Tryz.zeroValue0
  i0 := by kernel_rfl
  t3 := Tryz.underlying3
  a3 := Tryz.isAgg3
  z3 := Tryz.sizeOf3
  v3 := Tryz.zeroValue3
  i3 := by kernel_rfl
  t4 := Tryz.underlying4
  a4 := Tryz.isAgg4
  z4 := Tryz.sizeOf4
  v4 := Tryz.zeroValue4
  i4 := by kernel_rfl
  t5 := Tryz.underlying5
  a5 := Tryz.isAgg5
  z5 := Tryz.sizeOf5
  v5 := Tryz.zeroValue5
  i5 := by kernel_rfl
  t9 := Tryz.underlying9
  a9 := Tryz.isAgg9
  z9 := Tryz.sizeOf9
  v9 := Tryz.zeroValue9
  i9 := by kernel_rfl
  t24 := Tryz.underlying35
  a24 := Tryz.isAgg35
  z24 := Tryz.sizeOf35
  v24 := Tryz.zeroValue35
  i24 := by kernel_rfl
  t37 := Tryz.underlying56
  a37 := Tryz.isAgg56
  z37 := Tryz.sizeOf56
  v37 := Tryz.zeroValue56
  i37 := by kernel_rfl
  t39 := Tryz.underlying42
  a39 := Tryz.isAgg42
  z39 := Tryz.sizeOf42
  v39 := Tryz.zeroValue42
  i39 := by kernel_rfl
  t44 := Tryz.underlying52
  a44 := Tryz.isAgg52
  z44 := Tryz.sizeOf52
  v44 := Tryz.zeroValue52
  i44 := by kernel_rfl
  t47 := Tryz.underlying103
  a47 := Tryz.isAgg103
  z47 := Tryz.sizeOf103
  v47 := Tryz.zeroValue103
  i47 := by kernel_rfl
  t67 := Tryz.underlying63
  a67 := Tryz.isAgg63
  z67 := Tryz.sizeOf63
  v67 := Tryz.zeroValue63
  i67 := by kernel_rfl
  g0 := by kernel_rfl
  m0 := by kernel_rfl }
theorem laysRan : LaysPu.n22 Tryz.prog erRen := {
  mixed := by kernel_rfl
  f22 := Tryz.func17.trans (congrArg some (by kernel_rfl))
  f25 := Tryz.func25.trans (congrArg some (by kernel_rfl))
  t0 := Tryz.underlying0
  a0 := Tryz.isAgg0
  z0 := Tryz.sizeOf0
  v0 := Tryz.zeroValue0
  i0 := by kernel_rfl
  t3 := Tryz.underlying3
  a3 := Tryz.isAgg3
  z3 := Tryz.sizeOf3
  v3 := Tryz.zeroValue3
  i3 := by kernel_rfl
  t4 := Tryz.underlying4
  a4 := Tryz.isAgg4
  z4 := Tryz.sizeOf4
  v4 := Tryz.zeroValue4
  i4 := by kernel_rfl
  t5 := Tryz.underlying5
  a5 := Tryz.isAgg5
  z5 := Tryz.sizeOf5
  v5 := Tryz.zeroValue5
  i5 := by kernel_rfl
  t9 := Tryz.underlying9
  a9 := Tryz.isAgg9
  z9 := Tryz.sizeOf9
  v9 := Tryz.zeroValue9
  i9 := by kernel_rfl
  t24 := Tryz.underlying35
  a24 := Tryz.isAgg35
  z24 := Tryz.sizeOf35
  v24 := Tryz.zeroValue35
  i24 := by kernel_rfl
  t37 := Tryz.underlying56
  a37 := Tryz.isAgg56
  z37 := Tryz.sizeOf56
  v37 := Tryz.zeroValue56
  i37 := by kernel_rfl
  t39 := Tryz.underlying42
  a39 := Tryz.isAgg42
  z39 := Tryz.sizeOf42
  v39 := Tryz.zeroValue42
  i39 := by kernel_rfl
  t44 := Tryz.underlying52
  a44 := Tryz.isAgg52
  z44 := Tryz.sizeOf52
  v44 := Tryz.zeroValue52
  i44 := by kernel_rfl
  t47 := Tryz.underlying103
  a47 := Tryz.isAgg103
  z47 := Tryz.sizeOf103
  v47 := Tryz.zeroValue103
  i47 := by kernel_rfl
  t67 := Tryz.underlying63
  a67 := Tryz.isAgg63
  z67 := Tryz.sizeOf63
  v67 := Tryz.zeroValue63
  i67 := by kernel_rfl
  g1 := by kernel_rfl
  m1 := by kernel_rfl }
theorem syn_any (fn s : ByteArray) (ev : Value) (w : World) (hlim : s.size ≤ 281474976710656) (hv : w.cell? ⟨0, 0, none⟩ = some ev) (hev : ev = .nilIface ∨ ∃ te pe, ev = .iface te pe) :
    Calls Tryz.prog 16 #[.string fn, .string s] w fun e w' => (∃ N : Nat, e = .returned (.pointer (some ⟨N, 0, none⟩))) ∧ Below w.heap.size w w' := by
  refine (AnyPu.strconv_syntaxError laysSyn fn s ev w hlim hv hev).mono ?_
  rintro e w' ⟨N, h1, _, _, h2⟩
  exact ⟨⟨N, h1⟩, h2⟩
theorem ran_any (fn s : ByteArray) (ev : Value) (w : World) (hlim : s.size ≤ 281474976710656) (hv : w.cell? ⟨1, 0, none⟩ = some ev) (hev : ev = .nilIface ∨ ∃ te pe, ev = .iface te pe) :
    Calls Tryz.prog 17 #[.string fn, .string s] w fun e w' => (∃ N : Nat, e = .returned (.pointer (some ⟨N, 0, none⟩))) ∧ Below w.heap.size w w' := by
  refine (AnyPu.strconv_rangeError laysRan fn s ev w hlim hv hev).mono ?_
  rintro e w' ⟨N, h1, _, _, h2⟩
  exact ⟨⟨N, h1⟩, h2⟩
end Go.Proofs.YtilkcnoooecngaaGreatDoor
