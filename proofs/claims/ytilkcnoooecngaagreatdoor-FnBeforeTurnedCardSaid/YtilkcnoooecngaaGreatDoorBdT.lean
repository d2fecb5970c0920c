/- What the listed tables give the law FnBeforeTurned: what strings.ToLower answers, and what lies laid for Go's own ParseFloat. No conditions. -/
import Derived.Test.YtilkcnoooecngaaGreatDoorRows
import Derived.Test.YtilkcnoooecngaaGreatDoorBdL
import Derived.Test.YtilkcnoooecngaaGreatDoorBdR
import Derived.Test.YtilkcnoooecngaaGreatDoorShelf
import Derived.Lib.LaidU8
import Derived.Lib.LaidCase
import Derived.PinnedBridge
namespace Go.Proofs.YtilkcnoooecngaaGreatDoor
open Go.RowKit Go.Lib
set_option linter.unusedVariables false
theorem case_below {g : Nat} {T : Array CaseRow} {w w' : World} (h : CaseVar g T w) (hb : Below w.heap.size w w') : CaseVar g T w' := by
  have lt : ∀ {a : Addr} {v : Value}, w.cell? a = some v → a.block < w.heap.size := fun {a v} hc => by
    rcases Nat.lt_or_ge a.block w.heap.size with h' | h'
    · exact h'
    · simp [World.cell?, Array.getElem?_eq_none h'] at hc
  obtain ⟨R, oR, cap, h1, h2⟩ := h
  refine ⟨R, oR, cap, (hb.cell (lt h1)).trans h1, fun i hi => ?_⟩
  obtain ⟨a1, a2, a3, a4, a5⟩ := h2 i hi
  exact ⟨(hb.cell (lt a1)).trans a1, (hb.cell (lt a2)).trans a2, (hb.cell (lt a3)).trans a3, (hb.cell (lt a4)).trans a4, (hb.cell (lt a5)).trans a5⟩
def lo (s : ByteArray) : ByteArray := ⟨(toLowerD s.data.toList).toArray⟩
theorem low_ok {w : World} (hV : CaseVar (Tryz.lays159_ren.g 13) caseA w) (hT : Utf8Tabs (Tryz.lays159_ren.g 3) (Tryz.lays159_ren.g 4) w) : LowOk lo w := fun W hb s hs =>
  Tryz.strings_ToLower_any s W (by omega) (case_below hV hb) (Utf8Tabs_below hT hb)
theorem accept_eq : (Rows.laid_unicode_utf8_acceptRanges : DataW Unit) = acceptData := by kernel_rfl
theorem first_eq : (Rows.laid_unicode_utf8_first : DataW Unit) = firstData := Pinned.utf8First_eq
theorem case_eq : (Rows.laid_unicode_CaseRanges : DataW Unit) = caseData := Pinned.caseRanges_eq
theorem low_of {l : List (String × DataW Unit)} {W : World} (h : laidMet Tryz.prog l W) (m1 : ("unicode/utf8.acceptRanges", (Rows.laid_unicode_utf8_acceptRanges : DataW Unit)) ∈ l) (m2 : ("unicode.CaseRanges", (Rows.laid_unicode_CaseRanges : DataW Unit)) ∈ l) (m3 : ("unicode/utf8.first", (Rows.laid_unicode_utf8_first : DataW Unit)) ∈ l) : LowOk lo W :=
  low_ok (caseVar_of_reads { Tryz.lays159 with } Tryz.lays159.t206 ⟨by kernel_rfl, by kernel_rfl, by kernel_rfl, by kernel_rfl, by kernel_rfl, by kernel_rfl⟩ (case_eq ▸ laidMet.reads h m2))
    (utf8Tabs_of_reads { Tryz.lays159 with } ⟨by kernel_rfl, by kernel_rfl, by kernel_rfl, by kernel_rfl, by kernel_rfl, by kernel_rfl, by kernel_rfl⟩ (first_eq ▸ laidMet.reads h m3) (accept_eq ▸ laidMet.reads h m1))
def zPow : List Int := [1, 3, 6, 9, 13, 16, 19, 23, 26]
def zTen : List Nat := [4607182418800017408, 4621819117588971520, 4636737291354636288, 4652007308841189376, 4666723172467343360, 4681608360884174848, 4696837146684686336, 4711630319722168320, 4726483295884279808, 4741671816366391296, 4756540486875873280, 4771362005757984768, 4786511204640096256, 4801453603149578240, 4816244402031689728, 4831355200913801216, 4846369599423283200, 4861130398305394688, 4876203697187506176, 4891288408196988160, 4906019910204099648, 4921056587992461136, 4936209963552724370]
theorem zPow_at : ∀ i : Fin 9, zPow[i.val]? = some ((ptab i.val : Nat) : Int) := by decide +kernel
theorem powtab_eq : (Rows.laid_internal_strconv_powtab : DataW Unit) = .slice (zPow.map fun z => .lit (.int .i64 z)) [] := rfl
theorem ten_eq : (Rows.laid_internal_strconv_float64pow10 : DataW Unit) = .slice (zTen.map fun z => .lit (.float .f64 z)) [] := rfl
theorem info_pos : 0 < Tryz.prog.cellsOf 90 := by
  have h : Tryz.prog.cellsOf 90 = 3 := by kernel_rfl
  rw [h]; decide
theorem laid_all {l : List (String × DataW Unit)} {W : World} (h : laidMet Tryz.prog l W)
    (m2 : ("internal/strconv.float32info", (Rows.laid_internal_strconv_float32info : DataW Unit)) ∈ l) (m3 : ("internal/strconv.float64info", (Rows.laid_internal_strconv_float64info : DataW Unit)) ∈ l)
    (m4 : ("internal/strconv.optimize", (Rows.laid_internal_strconv_optimize : DataW Unit)) ∈ l) (m5 : ("internal/strconv.powtab", (Rows.laid_internal_strconv_powtab : DataW Unit)) ∈ l)
    (m6 : ("internal/strconv.float64pow10", (Rows.laid_internal_strconv_float64pow10 : DataW Unit)) ∈ l) (m9 : ("unicode/utf8.acceptRanges", (Rows.laid_unicode_utf8_acceptRanges : DataW Unit)) ∈ l)
    (m10 : ("strconv.ErrRange", (Rows.laid_strconv_ErrRange : DataW Unit)) ∈ l) (m11 : ("strconv.ErrSyntax", (Rows.laid_strconv_ErrSyntax : DataW Unit)) ∈ l)
    (m12 : ("internal/strconv.leftcheats", (Rows.laid_internal_strconv_leftcheats : DataW Unit)) ∈ l) (m13 : ("internal/strconv.pow10Tab", (Rows.laid_internal_strconv_pow10Tab : DataW Unit)) ∈ l)
    (m14 : ("unicode.CaseRanges", (Rows.laid_unicode_CaseRanges : DataW Unit)) ∈ l) (m15 : ("unicode/utf8.first", (Rows.laid_unicode_utf8_first : DataW Unit)) ∈ l) : SLaid W ∧ LowOk lo W := by
  refine ⟨⟨?_, ?_, ?_, ?_, ?_, ?_, ?_, ?_⟩, low_of h m9 m14 m15⟩
  · obtain ⟨i0, i1, i2⟩ := info_of (laidMet.reads h m3) (g := 4) (by kernel_rfl) (by kernel_rfl)
    obtain ⟨R, oR, cap, h1, h2⟩ := ints_of (zs := zPow) (powtab_eq ▸ laidMet.reads h m5) (g := 7) (by kernel_rfl) (by kernel_rfl) (by decide)
    obtain ⟨R2, oR2, cap2, h3, h4⟩ := cheats_of (laidMet.reads h m12) (g := 14) (by kernel_rfl) (by kernel_rfl)
    exact ⟨R, oR, cap, R2, oR2, cap2, i0, i1, i2, h1, fun i hi => h2 i _ (zPow_at ⟨i, hi⟩), h3, fun i hi => (h4 i hi).1, fun i hi => (h4 i hi).2⟩
  · obtain ⟨i0, i1, i2⟩ := info_of (laidMet.reads h m3) (g := 4) (by kernel_rfl) (by kernel_rfl)
    obtain ⟨R, oR, cap, h1, h2⟩ := floats_of (zs := zTen) (ten_eq ▸ laidMet.reads h m6) (g := 8) (by kernel_rfl) (by kernel_rfl) (by decide)
    exact ⟨R, oR, cap, i0, h1, fun i hi => h2 i hi⟩
  · exact pow_of (laidMet.reads h m13) (by kernel_rfl) (by kernel_rfl)
  · exact laid_row h m3 (by kernel_rfl) (by kernel_rfl) Tryz.underlying90 info_pos
  · exact laid_row h m2 (by kernel_rfl) (by kernel_rfl) Tryz.underlying90 info_pos
  · exact bool_of (laidMet.reads h m4) (by kernel_rfl) (by kernel_rfl)
  · exact err_of (laidMet.reads h m11) (by kernel_rfl) (by kernel_rfl)
  · exact err_of (laidMet.reads h m10) (by kernel_rfl) (by kernel_rfl)
theorem lawBtR (a b : ByteArray) (k : Int) (fold : Bool) (w : World) (_ : a.size ≤ 140737488351232) (_ : b.size ≤ 140737488351232) (_ : -9223372036854775808 ≤ k ∧ k ≤ 9223372036854775807) (h : SLaid w ∧ LowOk lo w) :
    Calls Tryz.prog 3 #[.string a, .string b, .int .i64 k, .bool fold] w fun e w' => e = .returned (.bool true) ∧ Below w.heap.size w w' := lawBt lo a b k fold w h.2 h.1
end Go.Proofs.YtilkcnoooecngaaGreatDoor
