-- PRINTED BY print.sh 35421559b90ae4d0a3588c463048766b98c2df88dd9212a6774a882060cdf62d: not written by this session
import Derived.Test.YtlppbalnjogkoaaPFnTextAlignHTMLx0
namespace Go.Proofs.Ytlppbalnjogkoaa.PFnTextAlignHTML
open Go.RowKit Go.Proofs.YtlppbalnjogkoaaW.PrintWords Go.Proofs.YtlppbalnjogkoaaW.PrintLast Go.Proofs.YtlppbalnjogkoaaW.PrintMore
attribute [local go_sem] max2_int min2_int max_two min_two max_three min_three max_four min_four   -- for this text's walks alone
set_option linter.unusedVariables false
set_option linter.unusedSimpArgs false

/-! ### text_Align_HTMLProperty: function 37 -/
def text_Align_HTMLProperty.f (a0 : Int) : Option (ByteArray) := if a0 = 1 then (some (⟨#[97, 108, 105, 103, 110, 61, 34, 108, 101, 102, 116, 34]⟩ : ByteArray)) else (if a0 = 2 then (some (⟨#[97, 108, 105, 103, 110, 61, 34, 99, 101, 110, 116, 101, 114, 34]⟩ : ByteArray)) else (if a0 = 3 then (some (⟨#[97, 108, 105, 103, 110, 61, 34, 106, 117, 115, 116, 105, 102, 121, 34]⟩ : ByteArray)) else (if a0 = 4 then (some (⟨#[97, 108, 105, 103, 110, 61, 34, 114, 105, 103, 104, 116, 34]⟩ : ByteArray)) else (some (⟨#[]⟩ : ByteArray)))))
set_option maxHeartbeats 8000000 in
set_option maxRecDepth 100000 in
theorem text_Align_HTMLProperty.calls (a0 : Int) (r : ByteArray) (w : World) (h : text_Align_HTMLProperty.f a0 = some r) :
    Calls Try.prog 37 #[.int .i64 a0] w fun e w' => e = .returned (.string r) ∧ Drawn0 w w' := by
  have H : (if a0 = 1 then (some (⟨#[97, 108, 105, 103, 110, 61, 34, 108, 101, 102, 116, 34]⟩ : ByteArray)) else (if a0 = 2 then (some (⟨#[97, 108, 105, 103, 110, 61, 34, 99, 101, 110, 116, 101, 114, 34]⟩ : ByteArray)) else (if a0 = 3 then (some (⟨#[97, 108, 105, 103, 110, 61, 34, 106, 117, 115, 116, 105, 102, 121, 34]⟩ : ByteArray)) else (if a0 = 4 then (some (⟨#[97, 108, 105, 103, 110, 61, 34, 114, 105, 103, 104, 116, 34]⟩ : ByteArray)) else (some (⟨#[]⟩ : ByteArray)))))) = some r := h
  clear h
  by_cases c2 : a0 = 1
  · rw [if_pos c2] at H
    have c2b0 : (a0 == 1) = true := beq_iff_eq.mpr c2
    have c2b1 : (a0 != 1) = false := bne_eq_false_iff_eq.mpr c2
    clear c2
    obtain rfl := Option.some.inj H
    go_enter Try.func37, Try.ntmps37
    go_wp2
    go_ret
    exact ⟨by first | rfl | (simp; done) | (simp [*]; done), by repeat (first | exact Drawn0.refl _ | apply Drawn0.step)⟩
  · rw [if_neg c2] at H
    have c2b0 : (a0 == 1) = false := beq_eq_false_iff_ne.mpr c2
    have c2b1 : (a0 != 1) = true := bne_iff_ne.mpr c2
    by_cases c3 : a0 = 2
    · rw [if_pos c3] at H
      have c3b0 : (a0 == 2) = true := beq_iff_eq.mpr c3
      have c3b1 : (a0 != 2) = false := bne_eq_false_iff_eq.mpr c3
      clear c3
      obtain rfl := Option.some.inj H
      go_enter Try.func37, Try.ntmps37
      go_wp2
      go_ret
      exact ⟨by first | rfl | (simp; done) | (simp [*]; done), by repeat (first | exact Drawn0.refl _ | apply Drawn0.step)⟩
    · rw [if_neg c3] at H
      have c3b0 : (a0 == 2) = false := beq_eq_false_iff_ne.mpr c3
      have c3b1 : (a0 != 2) = true := bne_iff_ne.mpr c3
      by_cases c4 : a0 = 3
      · rw [if_pos c4] at H
        have c4b0 : (a0 == 3) = true := beq_iff_eq.mpr c4
        have c4b1 : (a0 != 3) = false := bne_eq_false_iff_eq.mpr c4
        clear c4
        obtain rfl := Option.some.inj H
        go_enter Try.func37, Try.ntmps37
        go_wp2
        go_ret
        exact ⟨by first | rfl | (simp; done) | (simp [*]; done), by repeat (first | exact Drawn0.refl _ | apply Drawn0.step)⟩
      · rw [if_neg c4] at H
        have c4b0 : (a0 == 3) = false := beq_eq_false_iff_ne.mpr c4
        have c4b1 : (a0 != 3) = true := bne_iff_ne.mpr c4
        by_cases c5 : a0 = 4
        · rw [if_pos c5] at H
          have c5b0 : (a0 == 4) = true := beq_iff_eq.mpr c5
          have c5b1 : (a0 != 4) = false := bne_eq_false_iff_eq.mpr c5
          clear c5
          obtain rfl := Option.some.inj H
          go_enter Try.func37, Try.ntmps37
          go_wp2
          go_ret
          exact ⟨by first | rfl | (simp; done) | (simp [*]; done), by repeat (first | exact Drawn0.refl _ | apply Drawn0.step)⟩
        · rw [if_neg c5] at H
          have c5b0 : (a0 == 4) = false := beq_eq_false_iff_ne.mpr c5
          have c5b1 : (a0 != 4) = true := bne_iff_ne.mpr c5
          obtain rfl := Option.some.inj H
          go_enter Try.func37, Try.ntmps37
          go_wp2
          go_ret
          exact ⟨by first | rfl | (simp; done) | (simp [*]; done), by repeat (first | exact Drawn0.refl _ | apply Drawn0.step)⟩

/-! ### impl_TextAlignHTML: function 16 -/
def impl_TextAlignHTML.f (a0 : Int) : Option (ByteArray) := (text_Align_HTMLProperty.f a0).bind fun t101 => (some t101)
set_option maxHeartbeats 8000000 in
set_option maxRecDepth 100000 in
theorem impl_TextAlignHTML.calls (a0 : Int) (r : ByteArray) (w : World) (h : impl_TextAlignHTML.f a0 = some r) :
    Calls Try.prog 16 #[.int .i64 a0] w fun e w' => e = .returned (.string r) ∧ Drawn0 w w' := by
  have H : ((text_Align_HTMLProperty.f a0).bind fun t101 => (some t101)) = some r := h
  clear h
  replace H := Option.bind_eq_some_iff.mp H
  obtain ⟨t101, A20, H⟩ := H
  replace H : (some t101) = some r := H
  have A2 := Aside0.mk A20
  clear A20
  obtain rfl := Option.some.inj H
  go_enter Try.func16, Try.ntmps16
  go_wp2_with (first | ((with_reducible refine gate_callee (f := 37) rfl ?_); refine goesL_ (some 4) rfl rfl Try.func37 (by kernel_rfl) rfl #[.int .i64 a0] rfl (by (try simp only [List.map_toArray, List.map_cons, List.map_nil]); first | done | rfl | (simp only [List.length_drop, List.length_take]; rfl)) ?_; (with_reducible refine (text_Align_HTMLProperty.calls a0 t101 _ A2.out).mono ?_); rintro e w' ⟨rfl, ⟨nd, rfl⟩⟩; refine ⟨_, rfl, ?_⟩))
  go_ret
  exact ⟨by first | rfl | (simp; done) | (simp [*]; done), by repeat (first | exact Drawn0.refl _ | apply Drawn0.step)⟩

/-! ### laws_FnTextAlignHTML: function 5 -/
def laws_FnTextAlignHTML.f (a0 : Int) : Option (Bool) := if (Int.tmod a0 4) = 0 then ((impl_TextAlignHTML.f 1).bind fun t102 => (some (t102.toList == ([97, 108, 105, 103, 110, 61, 34, 108, 101, 102, 116, 34] : List UInt8)))) else (if (Int.tmod a0 4) = 1 then ((impl_TextAlignHTML.f 2).bind fun t103 => (some (t103.toList == ([97, 108, 105, 103, 110, 61, 34, 99, 101, 110, 116, 101, 114, 34] : List UInt8)))) else (if (Int.tmod a0 4) = 2 then ((impl_TextAlignHTML.f 3).bind fun t104 => (some (t104.toList == ([97, 108, 105, 103, 110, 61, 34, 106, 117, 115, 116, 105, 102, 121, 34] : List UInt8)))) else ((impl_TextAlignHTML.f 4).bind fun t105 => (some (t105.toList == ([97, 108, 105, 103, 110, 61, 34, 114, 105, 103, 104, 116, 34] : List UInt8))))))
set_option maxHeartbeats 8000000 in
set_option maxRecDepth 100000 in
theorem laws_FnTextAlignHTML.calls (a0 : Int) (r : Bool) (w : World) (h : laws_FnTextAlignHTML.f a0 = some r) :
    Calls Try.prog 5 #[.int .u8 a0] w fun e w' => e = .returned (.bool r) ∧ Drawn0 w w' := by
  have H : (if (Int.tmod a0 4) = 0 then ((impl_TextAlignHTML.f 1).bind fun t102 => (some (t102.toList == ([97, 108, 105, 103, 110, 61, 34, 108, 101, 102, 116, 34] : List UInt8)))) else (if (Int.tmod a0 4) = 1 then ((impl_TextAlignHTML.f 2).bind fun t103 => (some (t103.toList == ([97, 108, 105, 103, 110, 61, 34, 99, 101, 110, 116, 101, 114, 34] : List UInt8)))) else (if (Int.tmod a0 4) = 2 then ((impl_TextAlignHTML.f 3).bind fun t104 => (some (t104.toList == ([97, 108, 105, 103, 110, 61, 34, 106, 117, 115, 116, 105, 102, 121, 34] : List UInt8)))) else ((impl_TextAlignHTML.f 4).bind fun t105 => (some (t105.toList == ([97, 108, 105, 103, 110, 61, 34, 114, 105, 103, 104, 116, 34] : List UInt8))))))) = some r := h
  clear h
  by_cases c2 : (Int.tmod a0 4) = 0
  · rw [if_pos c2] at H
    have c2b0 : ((Int.tmod a0 4) == 0) = true := beq_iff_eq.mpr c2
    have c2b1 : ((Int.tmod a0 4) != 0) = false := bne_eq_false_iff_eq.mpr c2
    clear c2
    replace H := Option.bind_eq_some_iff.mp H
    obtain ⟨t102, A30, H⟩ := H
    replace H : (some (t102.toList == ([97, 108, 105, 103, 110, 61, 34, 108, 101, 102, 116, 34] : List UInt8))) = some r := H
    have A3 := Aside0.mk A30
    clear A30
    obtain rfl := Option.some.inj H
    go_enter Try.func5, Try.ntmps5
    go_wp2_with (first | ((with_reducible refine gate_callee (f := 16) rfl ?_); refine goesL_ (some 7) rfl rfl Try.func16 (by kernel_rfl) rfl #[.int .i64 1] rfl (by (try simp only [List.map_toArray, List.map_cons, List.map_nil]); first | done | rfl | (simp only [List.length_drop, List.length_take]; rfl)) ?_; (with_reducible refine (impl_TextAlignHTML.calls 1 t102 _ A3.out).mono ?_); rintro e w' ⟨rfl, ⟨nd, rfl⟩⟩; refine ⟨_, rfl, ?_⟩))
    go_ret
    exact ⟨by first | rfl | (simp; done) | (simp [*]; done), by repeat (first | exact Drawn0.refl _ | apply Drawn0.step)⟩
  · rw [if_neg c2] at H
    have c2b0 : ((Int.tmod a0 4) == 0) = false := beq_eq_false_iff_ne.mpr c2
    have c2b1 : ((Int.tmod a0 4) != 0) = true := bne_iff_ne.mpr c2
    by_cases c4 : (Int.tmod a0 4) = 1
    · rw [if_pos c4] at H
      have c4b0 : ((Int.tmod a0 4) == 1) = true := beq_iff_eq.mpr c4
      have c4b1 : ((Int.tmod a0 4) != 1) = false := bne_eq_false_iff_eq.mpr c4
      clear c4
      replace H := Option.bind_eq_some_iff.mp H
      obtain ⟨t103, A50, H⟩ := H
      replace H : (some (t103.toList == ([97, 108, 105, 103, 110, 61, 34, 99, 101, 110, 116, 101, 114, 34] : List UInt8))) = some r := H
      have A5 := Aside0.mk A50
      clear A50
      obtain rfl := Option.some.inj H
      go_enter Try.func5, Try.ntmps5
      go_wp2_with (first | ((with_reducible refine gate_callee (f := 16) rfl ?_); refine goesL_ (some 11) rfl rfl Try.func16 (by kernel_rfl) rfl #[.int .i64 2] rfl (by (try simp only [List.map_toArray, List.map_cons, List.map_nil]); first | done | rfl | (simp only [List.length_drop, List.length_take]; rfl)) ?_; (with_reducible refine (impl_TextAlignHTML.calls 2 t103 _ A5.out).mono ?_); rintro e w' ⟨rfl, ⟨nd, rfl⟩⟩; refine ⟨_, rfl, ?_⟩))
      go_ret
      exact ⟨by first | rfl | (simp; done) | (simp [*]; done), by repeat (first | exact Drawn0.refl _ | apply Drawn0.step)⟩
    · rw [if_neg c4] at H
      have c4b0 : ((Int.tmod a0 4) == 1) = false := beq_eq_false_iff_ne.mpr c4
      have c4b1 : ((Int.tmod a0 4) != 1) = true := bne_iff_ne.mpr c4
      by_cases c6 : (Int.tmod a0 4) = 2
      · rw [if_pos c6] at H
        have c6b0 : ((Int.tmod a0 4) == 2) = true := beq_iff_eq.mpr c6
        have c6b1 : ((Int.tmod a0 4) != 2) = false := bne_eq_false_iff_eq.mpr c6
        clear c6
        replace H := Option.bind_eq_some_iff.mp H
        obtain ⟨t104, A70, H⟩ := H
        replace H : (some (t104.toList == ([97, 108, 105, 103, 110, 61, 34, 106, 117, 115, 116, 105, 102, 121, 34] : List UInt8))) = some r := H
        have A7 := Aside0.mk A70
        clear A70
        obtain rfl := Option.some.inj H
        go_enter Try.func5, Try.ntmps5
        go_wp2_with (first | ((with_reducible refine gate_callee (f := 16) rfl ?_); refine goesL_ (some 15) rfl rfl Try.func16 (by kernel_rfl) rfl #[.int .i64 3] rfl (by (try simp only [List.map_toArray, List.map_cons, List.map_nil]); first | done | rfl | (simp only [List.length_drop, List.length_take]; rfl)) ?_; (with_reducible refine (impl_TextAlignHTML.calls 3 t104 _ A7.out).mono ?_); rintro e w' ⟨rfl, ⟨nd, rfl⟩⟩; refine ⟨_, rfl, ?_⟩))
        go_ret
        exact ⟨by first | rfl | (simp; done) | (simp [*]; done), by repeat (first | exact Drawn0.refl _ | apply Drawn0.step)⟩
      · rw [if_neg c6] at H
        have c6b0 : ((Int.tmod a0 4) == 2) = false := beq_eq_false_iff_ne.mpr c6
        have c6b1 : ((Int.tmod a0 4) != 2) = true := bne_iff_ne.mpr c6
        replace H := Option.bind_eq_some_iff.mp H
        obtain ⟨t105, A80, H⟩ := H
        replace H : (some (t105.toList == ([97, 108, 105, 103, 110, 61, 34, 114, 105, 103, 104, 116, 34] : List UInt8))) = some r := H
        have A8 := Aside0.mk A80
        clear A80
        obtain rfl := Option.some.inj H
        go_enter Try.func5, Try.ntmps5
        go_wp2_with (first | ((with_reducible refine gate_callee (f := 16) rfl ?_); refine goesL_ (some 17) rfl rfl Try.func16 (by kernel_rfl) rfl #[.int .i64 4] rfl (by (try simp only [List.map_toArray, List.map_cons, List.map_nil]); first | done | rfl | (simp only [List.length_drop, List.length_take]; rfl)) ?_; (with_reducible refine (impl_TextAlignHTML.calls 4 t105 _ A8.out).mono ?_); rintro e w' ⟨rfl, ⟨nd, rfl⟩⟩; refine ⟨_, rfl, ?_⟩))
        go_ret
        exact ⟨by first | rfl | (simp; done) | (simp [*]; done), by repeat (first | exact Drawn0.refl _ | apply Drawn0.step)⟩

/-- THE ONE PURE STATEMENT of laws_FnTextAlignHTML: yours. -/
def laws_FnTextAlignHTML.Pure : Prop := ∀ (a0 : Int), (Lit.int .u8 a0).wf = true → laws_FnTextAlignHTML.f a0 = some true
theorem laws_FnTextAlignHTML.walk (P : laws_FnTextAlignHTML.Pure) (a0 : Int) (w : World) (w0 : (Lit.int .u8 a0).wf = true) :
    Calls Try.prog 5 #[.int .u8 a0] w fun e w' => e = .returned (.bool true) ∧ Below w.heap.size w w' := by
  have h := P a0 w0
  refine (laws_FnTextAlignHTML.calls a0 true w h).mono ?_
  rintro e w' ⟨rfl, hd⟩
  exact ⟨rfl, hd.below⟩

end Go.Proofs.Ytlppbalnjogkoaa.PFnTextAlignHTML
