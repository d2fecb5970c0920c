/- ParseFloat: an error or none. Texts of at most 100 letters of the law. -/
import Derived.Test.YtefjonnajjpajaaDoorNuRj
namespace Go.Proofs.YtefjonnajjpajaaDoor
open Go.RowKit
set_option linter.unusedVariables false
def FloatRet (t : ByteArray) (w : World) (e : Ending) (w' : World) : Prop :=
  ∃ x y, e = .returned (.tuple #[.float .f64 x, y]) ∧ (y = .nilIface ∧ NumT (bt t) t.size ∨ ¬ NumT (bt t) t.size ∧ ∃ ty v, y = .iface ty v) ∧ Below w.heap.size w w'
theorem foldL (s t : ByteArray) (w : World) (hs : s.size ≤ 100) (hL : ∀ p, p < s.size → Ltr (bt s p)) (ht : 0 < t.size) (ht2 : t.size ≤ 1000) (hc : bt t 0 = 110 ∨ bt t 0 = 105) :
    Calls Tryd.prog 14 #[.string s, .string t] w fun e w' => e = .returned (.bool false) ∧ w' = w := by
  refine fold_no s t w (by omega) ht ht2 fun h0 => ?_
  have h1 := hL 0 h0
  rw [bt_eq s 0 h0, bt_eq t 0 ht]
  unfold Ltr isD at h1
  omega
def tNan : ByteArray := ⟨#[110, 97, 110]⟩
def tInf : ByteArray := ⟨#[105, 110, 102]⟩
def tInfy : ByteArray := ⟨#[105, 110, 102, 105, 110, 105, 116, 121]⟩
theorem BitsRet_any {B b : Nat} {v : Value} {ds : List Nat} {dp : Int} {w : World} (h : Dec w B b v ds dp) (hg : ds = [] ∨ Good ds) (hl : ds.length ≤ 1000) (hdp : -200 ≤ dp ∧ dp ≤ 200) :
    Calls Tryd.prog 22 #[.pointer (some ⟨b, 0, none⟩), .agg #[.int .i64 52, .int .i64 11, .int .i64 (-1023)]] w (BitsRet B w) := by
  rcases hg with rfl | hg
  · exact bits_zero B b v dp w h
  · exact bits_good B b v ds dp w h hg hl hdp
theorem ltr95 {c : Nat} (h : Ltr c) : c ≠ 95 := by unfold Ltr isD at h; omega
end Go.Proofs.YtefjonnajjpajaaDoor
