/- A list made by steps: the walks of AppendItem, Indent, UnIndent, listOf. Texts without tabs and carriage returns, at most 1000 bytes each. -/
import Derived.Test.YthdkbokdikhojaaGreatDoorProg
import Derived.Test.YthdkbokdikhojaaGreatDoorBase
import Derived.Test.YthdkbokdikhojaaGreatDoorLstB
import Derived.Test.YthdkbokdikhojaaGreatDoorLsB
import Derived.Test.YthdkbokdikhojaaGreatDoorTxtTICR
import Derived.Test.YthdkbokdikhojaaGreatDoorTxtLICR
import Derived.WalkKit
import Derived.Handy
import Derived.BigQuiet
import Derived.Deep.QuietTactic
import Derived.Deep.AppendLies
import Derived.Deep.RegionLaw
import Derived.Laws.OwnMore
import Derived.WalkLawsBesides
namespace Go.Proofs.YthdkbokdikhojaaGreatDoor
open Go.RowKit
set_option linter.unusedVariables false
attribute [local go_sem ↓] Go.wp_at_zero Go.wp_at_succ
def clean (s : ByteArray) : Prop := s.size ≤ 1000 ∧ (9 : UInt8) ∉ s.data.toList ∧ (13 : UInt8) ∉ s.data.toList
theorem clean_empty : clean ⟨#[]⟩ := ⟨Nat.zero_le _, by simp, by simp⟩
set_option maxRecDepth 100000 in
theorem zzText_any (s : ByteArray) (w : World) : Calls Tryz.prog 65 #[.iface 9 (.string s)] w fun e w' => e = .returned (.string s) ∧ w = w' := by
  have hta : (Instr.typeAssert (.iface 9 (.string s)) 20 9 true).run Tryz.prog w = .ok (.tuple #[.string s, .bool true]) w := by kernel_rfl
  go_enter Tryz.func65, Tryz.ntmps65
  go_wp2
  go_ret
  exact ⟨rfl, rfl⟩
theorem str_eq (s : ByteArray) : (⟨s.data.toList.toArray⟩ : ByteArray) = s := WideShapes.bytes_inj (by simp)
theorem tab_none (s : ByteArray) (w : World) (h : clean s) : Calls Tryz.prog 59 #[.string s, .string ⟨#[9]⟩, .string ⟨#[32, 32, 32, 32]⟩] w fun e w' => e = .returned (.string s) ∧ Below w.heap.size w w' := by
  refine (replace_L s ⟨#[9]⟩ ⟨#[32, 32, 32, 32]⟩ w (by decide) (by decide) (by have := h.1; show s.size * 5 ≤ _; omega)).mono ?_
  rintro e w' ⟨rfl, hb⟩
  refine ⟨ret_str ?_, hb⟩
  rw [rep_none _ _ _ (idx_one_none 9 _ h.2.1 []), str_eq]
theorem crlf_none (s : ByteArray) (w : World) (h : clean s) : Calls Tryz.prog 66 #[.string s] w fun e w' => e = .returned (.string s) ∧ Below w.heap.size w w' := by
  have h1 : Calls Tryz.prog 79 #[.string s, .string ⟨#[13, 10]⟩, .string ⟨#[10]⟩] w fun e w' => e = .returned (.string s) ∧ Below w.heap.size w w' := by
    refine (replace_T s ⟨#[13, 10]⟩ ⟨#[10]⟩ w (by decide) (by decide) (by have := h.1; show s.size * 2 ≤ _; omega)).mono ?_
    rintro e w' ⟨rfl, hb⟩
    refine ⟨ret_str ?_, hb⟩
    rw [rep_none _ _ _ (idx_one_none 13 _ h.2.2 [10]), str_eq]
  have h2 : ∀ W, Calls Tryz.prog 80 #[.string s, .string ⟨#[13]⟩] W fun e w' => e = .returned (.bool false) ∧ W = w' := by
    intro W
    refine (contains_T s ⟨#[13]⟩ W (by have := h.1; omega) (by decide)).mono ?_
    rintro e w' ⟨rfl, rfl⟩
    refine ⟨ret_bool ?_, rfl⟩
    rw [idx_one_none 13 _ h.2.2 []]; rfl
  have H1 := Lib.hid h1
  have H2 := Lib.hid h2
  clear h1 h2 h
  go_enter Tryz.func66, Tryz.ntmps66
  go_wp2_with (first
    | (go_at_call 79; refine H1.out.mono ?_; rintro e w1 ⟨rfl, hb⟩; have HB := Lib.hid hb; clear hb)
    | (go_at_call 80; refine (H2.out _).mono ?_; rintro e w2 ⟨rfl, rfl⟩))
  go_ret
  exact ⟨rfl, HB.out⟩
def AnRet (w : World) (lev : Int) (s : ByteArray) (e : Ending) (w' : World) : Prop :=
  ∃ p, e = .returned (.pointer (some ⟨p, 0, none⟩)) ∧ w.heap.size ≤ p ∧ w'.heap[p]? = some (.cells #[.int .i64 lev, .string s] 72 (0, 0)) ∧ Below w.heap.size w w'
theorem analyze_any (gl : Nat) (lev : Int) (s : ByteArray) (w : World) (h4 : w.cell? ⟨gl, 4, none⟩ = some (.int .i64 lev)) (h : clean s) :
    Calls Tryz.prog 50 #[.pointer (some ⟨gl, 0, none⟩), .iface 9 (.string s)] w (AnRet w lev s) := by
  have hlt : gl < w.heap.size := World.block_lt_of_cell? _ _ h4
  have H := Lib.hid h
  clear h
  go_enter Tryz.func50, Tryz.ntmps50
  go_wp2_with (first
    | (go_at_call 65; refine (zzText_any s _).mono ?_; rintro e w1 ⟨rfl, rfl⟩)
    | (go_at_call 59; refine (tab_none s _ H.out).mono ?_; rintro e w1 ⟨rfl, hb1⟩
       have HB1 := Lib.hid hb1; clear hb1)
    | (go_at_call 66; refine (crlf_none s _ H.out).mono ?_; rintro e w2 ⟨rfl, hb2⟩
       have HB2 := Lib.hid (HB1.out.trans (hb2.mono HB1.out.size)); clear hb2
       have k4 : w2.cell? ⟨gl, 4, none⟩ = some (.int .i64 lev) := (HB2.out.cell (p := ⟨gl, 4, none⟩) hlt).trans h4))
  go_ret
  exact ⟨w2.heap.size, rfl, HB2.out.size, heap_alloc_new _ _, HB2.out.alloc HB2.out.size _⟩
theorem own_below {w w1 : World} {B : Nat} {e : TypeId} {size n : Nat} {v : Value} {xs : List Value} (h : w.ownsRow B e size v n xs) (hb : Below w.heap.size w w1) : w1.ownsRow B e size v n xs := by
  refine ⟨h.1, ?_⟩
  rcases h.2 with hn | ⟨g, cap, cur, e, hb1, hg, rest⟩
  · exact .inl hn
  · exact .inr ⟨g, cap, cur, e, hb1, (hb.block g (Array.getElem?_eq_some_iff.1 hg).1).trans hg, rest⟩
end Go.Proofs.YthdkbokdikhojaaGreatDoor
