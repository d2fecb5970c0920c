/- The width of a text without wide characters; TxTimes. -/
import Derived.Test.YthdkbokdikhojaaGreatDoorLsA
import Derived.Test.YthdkbokdikhojaaGreatDoorUniW
import Derived.Test.YthdkbokdikhojaaGreatDoorLdA
import Derived.LoopN
import Derived.Laws.MakeOwn
namespace Go.Proofs.YthdkbokdikhojaaGreatDoor
open Go.RowKit
set_option linter.unusedVariables false
theorem halt_U {p : Prop} (h : Hid p) : p := h
theorem resume_U {p : Prop} (h : p) : Hid p := h
theorem spaces_size (n : Nat) : (spaces n).size = n := by
  have : (Lib.repeatL [32] n).length = n := by
    induction n with
    | zero => rfl
    | succ n ih => rw [show Lib.repeatL [32] (n + 1) = [32] ++ Lib.repeatL [32] n from rfl, List.length_append, ih]; simp; omega
  simp [spaces, ByteArray.size, this]
/-- No wide characters. -/
def nwF (s : ByteArray) : Nat → Nat → Bool
  | 0, _ => true
  | f + 1, pos => if pos < s.size then !wideI ((Utf8.decode s pos).1 : Int) && nwF s f (pos + (Utf8.decode s pos).2) else true
def nw (s : ByteArray) : Bool := nwF s s.size 0
theorem nwF_end (s : ByteArray) (f pos : Nat) (h : ¬ pos < s.size) : nwF s f pos = true := by
  cases f with
  | zero => rfl
  | succ f => rw [nwF, if_neg h]
theorem knI_10 {r : Int} (h : knI r = true) : r ≠ 10 := by
  rintro rfl
  simp [knI, boxI, wideI] at h
set_option maxHeartbeats 4000000 in
set_option maxRecDepth 100000 in
theorem columns_any (r : Int) (w : World) (h : wideI r = false) : Calls Tryz.prog 36 #[.int .i32 r] w fun e w' => e = .returned (.int .i64 1) ∧ w = w' := by
  have HW := Lib.hid (wide_any r w)
  rw [h] at HW
  clear h
  go_enter Tryz.func36, Tryz.ntmps36
  go_wp2_with (go_at_call 49; refine HW.out.mono ?_; rintro e w' ⟨rfl, rfl⟩)
  go_ret
  exact ⟨rfl, rfl⟩
set_option maxHeartbeats 4000000 in
set_option maxRecDepth 100000 in
theorem width_any (s : ByteArray) (w : World) (hs : s.size ≤ 1000) (h1 : simp false s = true) (h2 : nw s = true) : Calls Tryz.prog 27 #[.string s] w fun e w' => e = .returned (.int .i64 (Lib.runeCount s)) ∧ Below w.heap.size w w' := by
  have H1 := Lib.hid h1
  have H2 := Lib.hid h2
  have hrl := Lib.runeCount_le s
  clear h1 h2
  go_enter Tryz.func27, Tryz.ntmps27
  go_wp2_with fail
  go_loopw [3] (fun v w' => ∃ (pos b n : Nat), w' = w.iter s pos ∧ v = .int .i64 n ∧ Hid (Lib.runeCount s = n + Lib.runeCountFrom s b pos) ∧ Hid (simpF false s b pos = true) ∧ Hid (nwF s b pos = true) ∧ s.size ≤ pos + b) (fun _ w' => s.size - w'.iterPos w.heap.size)
  case atStart => exact ⟨0, s.size, 0, rfl, rfl, Lib.hid (by unfold Lib.runeCount; omega), H1, H2, by omega⟩
  case round =>
    obtain ⟨pos, b, n, rfl, rfl, hc, hsF, hnF, hb⟩ := hrel
    by_cases hp : pos < s.size
    · have hnx : ∀ ty, (Instr.next (.pointer (some ⟨w.heap.size, 0, none⟩)) true ty).run Tryz.prog (w.iter s pos) = _ := fun ty => run_next_any w s pos ty hp
      have hwd := Lib.decode_width_pos s pos hp
      obtain ⟨b, rfl⟩ : ∃ b', b = b' + 1 := ⟨b - 1, by omega⟩
      have hs2 := hsF.out
      have hn2 := hnF.out
      have hc2 := hc.out
      rw [simpF, if_pos hp, Bool.and_eq_true] at hs2
      rw [nwF, if_pos hp, Bool.and_eq_true] at hn2
      rw [Lib.runeCountFrom, if_pos hp] at hc2
      have hnle : n ≤ 1000 := by omega
      have hkn : knI ((Utf8.decode s pos).1 : Int) = true := by have := hs2.1; simpa using this
      have h10 := knI_10 hkn
      have hwi : wideI ((Utf8.decode s pos).1 : Int) = false := by have := hn2.1; simpa using this
      have HC := fun W => Lib.hid (columns_any ((Utf8.decode s pos).1 : Int) W hwi)
      have HS := Lib.hid hs2.2
      have HN := Lib.hid hn2.2
      have HR := Lib.hid hc2
      clear hs2 hn2 hc2 hkn hwi hc hsF hnF hrl
      generalize hd1 : (Utf8.decode s pos).1 = r at *
      generalize hd2 : (Utf8.decode s pos).2 = wd at *
      have h10' : ((r : Int) != 10) = true := by rw [bne_iff_ne]; exact h10
      have h10'' : ((r : Int) == 10) = false := by rw [beq_eq_false_iff_ne]; exact h10
      clear h10
      go_wp2_with (go_at_call 36; refine (HC _).out.mono ?_; rintro e w' ⟨rfl, rfl⟩)
      go_roundw
      case rel => exact ⟨pos + wd, b, n + 1, rfl, by go_num, Lib.hid (by have := HR.out; omega), HS, HN, by omega⟩
      case measure => simp; omega
    · have hnx : ∀ ty, (Instr.next (.pointer (some ⟨w.heap.size, 0, none⟩)) true ty).run Tryz.prog (w.iter s pos) = _ := fun ty => run_next_end w s pos ty hp
      have HE := Lib.hid (show Lib.runeCount s = n by have := hc.out; rw [Lib.runeCountFrom_end s b pos hp] at this; omega)
      go_wp2
      go_ret
      exact ⟨ret_i64 (by rw [HE.out]), (Below.refl _ _).alloc (Nat.le_refl _) _⟩
theorem infoB_V : (Tryz.prog.info? 5).map (fun i => (i.zero, i.size, i.bytes)) = some (some (.int .u8 0), 1, 1) := by kernel_rfl
theorem repeatL_one (k : Nat) : Lib.repeatL [32] (k + 1) = Lib.repeatL [32] k ++ [32] := by
  induction k with
  | zero => rfl
  | succ k ih =>
    show [32] ++ Lib.repeatL [32] (k + 1) = ([32] ++ Lib.repeatL [32] k) ++ [32]
    rw [ih, List.append_assoc]
theorem repeatL_length (k : Nat) : (Lib.repeatL [32] k).length = k := by
  induction k with
  | zero => rfl
  | succ k ih => rw [repeatL_one, List.length_append, ih]; rfl
theorem own_to {w : World} {B : Nat} {e : TypeId} {size n n' : Nat} {v : Value} {xs : List Value} (h : n = n') (hown : w.ownsRow B e size v n xs) : w.ownsRow B e size v n' xs := h ▸ hown
set_option maxHeartbeats 1000000 in
set_option maxRecDepth 100000 in
theorem times_any (m : Nat) (w : World) (hm : m ≤ 1000) :
    Calls Tryz.prog 26 #[.string ⟨#[32]⟩, .int .i64 m] w fun e w' => e = .returned (.string (spaces m)) ∧ Below w.heap.size w w' := by
  obtain ⟨i0, hi, hz0, hz1, hz2⟩ := info_parts infoB_V
  obtain ⟨w1, hmk, own0, grow0⟩ := run_make_own (P := Tryz.prog) w w.heap.size 57 5 i0 (.int .u8 0) 1 Tryz.underlying57 hi hz0 hz1 .i64 .i64 m (by rw [hz2]; omega) (by unfold maxLen; omega) (Nat.le_refl _)
  have hmx : max (m : Int) 0 = m := by omega
  have h1m : ((1 : Int) * (m : Int)) = m := by omega
  go_enter Tryz.func26, Tryz.ntmps26
  go_wp2_with fail
  generalize hv0 : Value.slice (some ⟨w.heap.size, 0, none⟩) 0 m = v0 at *
  have HB1 := Lib.hid ((Below.refl w.heap.size w).grown grow0 (Nat.le_refl _) (fun k hk => by cases hk))
  clear hv0 grow0 hmk hmx h1m
  go_loopw [5, 13] (fun v iv wr => ∃ (k : Nat), k ≤ m ∧ iv = .int .i64 (k : Int) ∧ wr.ownsRow w.heap.size 5 1 v k (bcells (Lib.repeatL [32] k)) ∧ Hid (Below w.heap.size w wr)) (fun _ iv _ => m - (intOf iv).toNat)
  case atStart => exact ⟨0, Nat.zero_le _, rfl, own0, HB1⟩
  case round =>
    obtain ⟨k, hk, rfl, hown, HB⟩ := hrel
    obtain ⟨wo, rfl⟩ : ∃ wo : World, wo = wr := ⟨_, rfl⟩
    have hBs := HB.out.size
    by_cases hlt : k < m
    · have b1 : k + (⟨#[32]⟩ : ByteArray).size ≤ maxLen := by unfold maxLen; show k + 1 ≤ _; omega
      have b2 : k + (⟨#[32]⟩ : ByteArray).size ≤ 140737488355328 := by show k + 1 ≤ _; omega
      have HR := Lib.hid (repeatL_one k)
      go_wp2_with (at_builtin; refine halt_U ?_)
      refine resume_U ?_
      refine Lib.wpList_append_own_string _ rfl _ _ 57 9 rfl w.heap.size 5 i0 Tryz.underlying57 Tryz.underlying9 hi hz0 hz1 hz2 _ k _ rfl hown (⟨#[32]⟩ : ByteArray) rfl b1 b2 hBs ?_
      intro v' w2 hown1 hgrow _
      rw [bcells_str, ← bcells_append, show (⟨#[32]⟩ : ByteArray).data.toList = [32] from rfl, ← HR.out, show k + (⟨#[32]⟩ : ByteArray).size = k + 1 from rfl] at hown1
      have HB2 := Lib.hid (HB.out.grown hgrow hBs (fun k hk => (hown.lt k hk).1))
      clear hgrow hown
      go_wp2_with fail
      go_roundw
      case rel => exact ⟨k + 1, by omega, by go_num, hown1, HB2⟩
      case measure => simp [intOf]; omega
    · have hke : k = m := by omega
      subst hke
      have hown' := own_to (repeatL_length k).symm hown
      have hcv := conv_own (P := Tryz.prog) Tryz.underlying57 Tryz.underlying5 Tryz.underlying9 hown'
      clear hown hown'
      go_wp2_with fail
      go_ret
      exact ⟨rfl, HB.out⟩
abbrev boxO (D : LD) : Obj := .cells #[.int .i64 0, .string D.s1, .string D.s2, .string D.s3, .string D.s4, .string D.s5, .string D.s6, .string D.s7, .string D.s8] 25
def BxC (b : Nat) (D : LD) (w : World) : Prop := w.cell? ⟨b, 0, none⟩ = some (.int .i64 0) ∧ w.cell? ⟨b, 1, none⟩ = some (.string D.s1) ∧ w.cell? ⟨b, 2, none⟩ = some (.string D.s2) ∧ w.cell? ⟨b, 3, none⟩ = some (.string D.s3) ∧ w.cell? ⟨b, 4, none⟩ = some (.string D.s4) ∧ w.cell? ⟨b, 5, none⟩ = some (.string D.s5) ∧ w.cell? ⟨b, 6, none⟩ = some (.string D.s6) ∧ w.cell? ⟨b, 7, none⟩ = some (.string D.s7) ∧ w.cell? ⟨b, 8, none⟩ = some (.string D.s8)
theorem BxC.of {b : Nat} {D : LD} {w : World} (h : w.heap[b]? = some (.cells #[.int .i64 0, .string D.s1, .string D.s2, .string D.s3, .string D.s4, .string D.s5, .string D.s6, .string D.s7, .string D.s8] 25 (0, 0))) : BxC b D w := by
  have q := fun k => cell_of_row w b k _ 25 (0, 0) h
  exact ⟨q 0, q 1, q 2, q 3, q 4, q 5, q 6, q 7, q 8⟩
theorem BxC.below {b : Nat} {D : LD} {w w' : World} {B : Nat} (h : BxC b D w) (hb : Below B w w') (hlt : b < B) : BxC b D w' := by
  have c := fun k => hb.cell (p := ⟨b, k, none⟩) hlt
  obtain ⟨h0, h1, h2, h3, h4, h5, h6, h7, h8⟩ := h
  exact ⟨(c 0).trans h0, (c 1).trans h1, (c 2).trans h2, (c 3).trans h3, (c 4).trans h4, (c 5).trans h5, (c 6).trans h6, (c 7).trans h7, (c 8).trans h8⟩
theorem BxC.new (D : LD) (w : World) : BxC w.heap.size D (w.alloc (boxO D)) := BxC.of (heap_alloc_new w (boxO D))
end Go.Proofs.YthdkbokdikhojaaGreatDoor
