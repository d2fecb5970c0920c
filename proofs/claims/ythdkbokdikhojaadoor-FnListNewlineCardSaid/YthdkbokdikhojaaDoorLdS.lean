/- A list in a style: what the statement asks of the style (zzFits3, spec.LsStyled), and the columns of a text without wide characters (spec.TxWidth). -/
import Derived.Test.YthdkbokdikhojaaDoorLsA
import Derived.Test.YthdkbokdikhojaaDoorUniW
import Derived.LoopN
namespace Go.Proofs.YthdkbokdikhojaaDoor
open Go.RowKit
set_option linter.unusedVariables false
theorem lt_of_at {w : World} {k : Nat} {o : Obj} (h : w.heap[k]? = some o) : k < w.heap.size := (Array.getElem?_eq_some_iff.1 h).1
def styA (z : Int) (s1 s2 s3 s4 s5 s6 s7 s8 : ByteArray) : Value := .agg #[.int .i64 z, .string s1, .string s2, .string s3, .string s4, .string s5, .string s6, .string s7, .string s8]
set_option maxHeartbeats 4000000 in
set_option maxRecDepth 100000 in
theorem fits3_any (z : Int) (s1 s2 s3 s4 s5 s6 s7 s8 : ByteArray) (w : World) : Calls Tryd.prog 6 #[styA z s1 s2 s3 s4 s5 s6 s7 s8] w (BoolRet w True) := by
  unfold styA
  go_enter Tryd.func6, Tryd.ntmps6
  go_wp2_with fail
  all_goals
    go_ret
    exact ⟨_, rfl, (Below.refl _ _).alloc (Nat.le_refl _) _, fun _ => trivial⟩
/-- No wide characters. -/
def nwF (s : ByteArray) : Nat → Nat → Bool
  | 0, _ => true
  | f + 1, pos => if pos < s.size then !wideI ((Utf8.decode s pos).1 : Int) && nwF s f (pos + (Utf8.decode s pos).2) else true
def nw (s : ByteArray) : Bool := nwF s s.size 0
theorem nwF_end (s : ByteArray) (f pos : Nat) (h : ¬ pos < s.size) : nwF s f pos = true := by
  cases f with
  | zero => rfl
  | succ f => rw [nwF, if_neg h]
theorem knI_10 {r : Int} (h : knI r = true) : r ≠ 10 := by
  rintro rfl
  simp [knI, boxI, wideI] at h
set_option maxHeartbeats 4000000 in
set_option maxRecDepth 100000 in
theorem columns_any (r : Int) (w : World) (h : wideI r = false) : Calls Tryd.prog 54 #[.int .i32 r] w fun e w' => e = .returned (.int .i64 1) ∧ w = w' := by
  have HW := Lib.hid (wide_any r w)
  rw [h] at HW
  clear h
  go_enter Tryd.func54, Tryd.ntmps54
  go_wp2_with (go_at_call 17; refine HW.out.mono ?_; rintro e w' ⟨rfl, rfl⟩)
  go_ret
  exact ⟨rfl, rfl⟩
set_option maxHeartbeats 4000000 in
set_option maxRecDepth 100000 in
theorem width_any (s : ByteArray) (w : World) (hs : s.size ≤ 1000) (h1 : simp false s = true) (h2 : nw s = true) : Calls Tryd.prog 36 #[.string s] w fun e w' => e = .returned (.int .i64 (Lib.runeCount s)) ∧ Below w.heap.size w w' := by
  have H1 := Lib.hid h1
  have H2 := Lib.hid h2
  have hrl := Lib.runeCount_le s
  clear h1 h2
  go_enter Tryd.func36, Tryd.ntmps36
  go_wp2_with fail
  go_loopw [3] (fun v w' => ∃ (pos b n : Nat), w' = w.iter s pos ∧ v = .int .i64 n ∧ Hid (Lib.runeCount s = n + Lib.runeCountFrom s b pos) ∧ Hid (simpF false s b pos = true) ∧ Hid (nwF s b pos = true) ∧ s.size ≤ pos + b) (fun _ w' => s.size - w'.iterPos w.heap.size)
  case atStart => exact ⟨0, s.size, 0, rfl, rfl, Lib.hid (by unfold Lib.runeCount; omega), H1, H2, by omega⟩
  case round =>
    obtain ⟨pos, b, n, rfl, rfl, hc, hsF, hnF, hb⟩ := hrel
    by_cases hp : pos < s.size
    · have hnx : ∀ ty, (Instr.next (.pointer (some ⟨w.heap.size, 0, none⟩)) true ty).run Tryd.prog (w.iter s pos) = _ := fun ty => run_next_any w s pos ty hp
      have hwd := Lib.decode_width_pos s pos hp
      obtain ⟨b, rfl⟩ : ∃ b', b = b' + 1 := ⟨b - 1, by omega⟩
      have hs2 := hsF.out
      have hn2 := hnF.out
      have hc2 := hc.out
      rw [simpF, if_pos hp, Bool.and_eq_true] at hs2
      rw [nwF, if_pos hp, Bool.and_eq_true] at hn2
      rw [Lib.runeCountFrom, if_pos hp] at hc2
      have hnle : n ≤ 1000 := by omega
      have hkn : knI ((Utf8.decode s pos).1 : Int) = true := by have := hs2.1; simpa using this
      have h10 := knI_10 hkn
      have hwi : wideI ((Utf8.decode s pos).1 : Int) = false := by have := hn2.1; simpa using this
      have HC := fun W => Lib.hid (columns_any ((Utf8.decode s pos).1 : Int) W hwi)
      have HS := Lib.hid hs2.2
      have HN := Lib.hid hn2.2
      have HR := Lib.hid hc2
      clear hs2 hn2 hc2 hkn hwi hc hsF hnF hrl
      generalize hd1 : (Utf8.decode s pos).1 = r at *
      generalize hd2 : (Utf8.decode s pos).2 = wd at *
      have h10' : ((r : Int) != 10) = true := by rw [bne_iff_ne]; exact h10
      have h10'' : ((r : Int) == 10) = false := by rw [beq_eq_false_iff_ne]; exact h10
      clear h10
      go_wp2_with (go_at_call 54; refine (HC _).out.mono ?_; rintro e w' ⟨rfl, rfl⟩)
      go_roundw
      case rel => exact ⟨pos + wd, b, n + 1, rfl, by go_num, Lib.hid (by have := HR.out; omega), HS, HN, by omega⟩
      case measure => simp; omega
    · have hnx : ∀ ty, (Instr.next (.pointer (some ⟨w.heap.size, 0, none⟩)) true ty).run Tryd.prog (w.iter s pos) = _ := fun ty => run_next_end w s pos ty hp
      have HE := Lib.hid (show Lib.runeCount s = n by have := hc.out; rw [Lib.runeCountFrom_end s b pos hp] at this; omega)
      go_wp2
      go_ret
      exact ⟨ret_i64 (by rw [HE.out]), (Below.refl _ _).alloc (Nat.le_refl _) _⟩
end Go.Proofs.YthdkbokdikhojaaDoor
