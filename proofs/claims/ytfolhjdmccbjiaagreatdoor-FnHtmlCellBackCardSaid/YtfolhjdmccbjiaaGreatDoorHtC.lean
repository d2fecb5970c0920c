/- A cell in HTML: the walks of htmlRenderColumn, ZzHTMLColumn, impl.HtmlCell and the law. Texts of at most 1000 bytes. -/
import Derived.Test.YtfolhjdmccbjiaaGreatDoorHtB
import Derived.Test.YtfolhjdmccbjiaaGreatDoorBldR
namespace Go.Proofs.YtfolhjdmccbjiaaGreatDoor
open Go.RowKit
set_option linter.unusedVariables false
theorem Bld.keep {B b : Nat} {l : List UInt8} {w w' : World} (h : Bld B b l w) (hb : Below w.heap.size w w') : Bld B b l w' := by
  have hg : w.grownBy w' none := ⟨hb.os, hb.tape, hb.output, hb.size, fun k hk _ => hb.block k hk⟩
  rcases h with h | h
  · have hlt := h.lt
    obtain ⟨hB, v, hk, hown, hne⟩ := h
    exact .inl ⟨hB, v, (hb.block _ hlt).trans hk, hown.kept hg (by cases hv : v.ownBlock <;> simp), hne⟩
  · have hlt := h.lt
    obtain ⟨hB, v, hk, hown, hne⟩ := h
    exact .inr ⟨hB, v, (hb.block _ hlt).trans hk, hown.kept hg (by cases hv : v.ownBlock <;> simp), hne⟩
theorem lt_of_at {w : World} {k : Nat} {o : Obj} (h : w.heap[k]? = some o) : k < w.heap.size := (Array.getElem?_eq_some_iff.1 h).1
def optQ : Array Value := #[.bool false, .string ⟨#[]⟩, .string ⟨#[]⟩, .bool true, .string ⟨#[10]⟩]
theorem optQ_built : Tryz.prog.built 28 [(0, .bool false), (3, .bool true), (4, .string ⟨#[10]⟩)] = some optQ := by kernel_rfl
def optK (x1 x2 x3 : Value) : Sem Value := Instr.build 28 #[(0, x1), (3, x2), (4, x3)]
theorem optK_run (W : World) : (optK (.bool false) (.bool true) (.string ⟨#[10]⟩)).run Tryz.prog W = .ok (.agg optQ) W := run_build _ _ _ _ optQ_built
theorem opt_exec (ρ : Operand → Value) (d : Option Tmp) (t : TypeId) (ps : String) (af : Array Edge) (g : Option (Nat × Bool)) :
    execOp ρ ⟨d, .build 28 #[(0, .tmp 10), (3, .tmp 11), (4, .tmp 12)], t, ps, af, g⟩ = (optK (ρ (.tmp 10)) (ρ (.tmp 11)) (ρ (.tmp 12)) >>= fun v => pure (.value v)) := by
  simp [execOp, optK]
def styQ : Array Value := #[.string ⟨#[]⟩, .string ⟨#[]⟩, .string ⟨#[]⟩, .string ⟨#[]⟩, .string ⟨#[]⟩, .string ⟨#[]⟩, .string ⟨#[]⟩, .string ⟨#[]⟩, .string ⟨#[]⟩, .string ⟨#[]⟩, .string ⟨#[]⟩, .string ⟨#[]⟩, .string ⟨#[]⟩, .string ⟨#[]⟩, .string ⟨#[]⟩, .string ⟨#[]⟩, .string ⟨#[]⟩, .string ⟨#[]⟩, .string ⟨#[]⟩, .pointer none, .slice none 0 0, .slice none 0 0, .slice none 0 0, .slice none 0 0, .slice none 0 0, .slice none 0 0, .slice none 0 0, .bool false, .int .i64 0, .int .i64 0, .int .i64 0, .int .i64 0, .int .i64 0, .int .i64 0, .int .i64 0, .int .i64 0, .int .i64 0, .int .i64 0, .bool false, .string ⟨#[]⟩, .string ⟨#[]⟩, .bool true, .string ⟨#[10]⟩, .bool false, .bool false, .bool false, .bool false, .bool false, .bool false, .bool false, .bool false, .int .i64 0, .int .i64 0, .int .i64 0, .slice none 0 0, .int .i64 0]
theorem styQ_built : Tryz.prog.built 60 [(5, .agg optQ)] = some styQ := by kernel_rfl
def styK (x1 : Value) : Sem Value := Instr.build 60 #[(5, x1)]
theorem styK_run (W : World) : (styK (.agg #[.bool false, .string ⟨#[]⟩, .string ⟨#[]⟩, .bool true, .string ⟨#[10]⟩])).run Tryz.prog W = .ok (.agg styQ) W := run_build _ _ _ _ styQ_built
theorem sty_exec (ρ : Operand → Value) (d : Option Tmp) (t : TypeId) (ps : String) (af : Array Edge) (g : Option (Nat × Bool)) :
    execOp ρ ⟨d, .build 60 #[(5, .tmp 6)], t, ps, af, g⟩ = (styK (ρ (.tmp 6)) >>= fun v => pure (.value v)) := by
  simp [execOp, styK]
def tabQ (p : Option Addr) : Array Value := #[.int .i64 0, .bool false, .int .i64 0, .string ⟨#[]⟩, .slice none 0 0, .slice none 0 0, .map none, .string ⟨#[]⟩, .bool false, .string ⟨#[]⟩, .int .i64 0, .slice none 0 0, .map none, .int .i64 0, .int .i64 0, .int .i64 0, .int .i64 0, .slice none 0 0, .int .i64 0, .string ⟨#[]⟩, .slice none 0 0, .slice none 0 0, .map none, .slice none 0 0, .slice none 0 0, .slice none 0 0, .map none, .slice none 0 0, .slice none 0 0, .map none, .slice none 0 0, .nilFunc, .nilFunc, .map none, .map none, .map none, .slice none 0 0, .slice none 0 0, .slice none 0 0, .pointer p, .bool false, .bool false, .string ⟨#[]⟩]
theorem tabQ_built (p : Option Addr) : Tryz.prog.built 83 [(37, .pointer p)] = some (tabQ p) := by kernel_rfl
def tabK (x1 : Value) : Sem Value := Instr.build 83 #[(37, x1)]
theorem tabK_run (p : Option Addr) (W : World) : (tabK (.pointer p)).run Tryz.prog W = .ok (.agg (tabQ p)) W := run_build _ _ _ _ (tabQ_built p)
theorem tab_exec (ρ : Operand → Value) (d : Option Tmp) (t : TypeId) (ps : String) (af : Array Edge) (g : Option (Nat × Bool)) :
    execOp ρ ⟨d, .build 83 #[(37, .tmp 8)], t, ps, af, g⟩ = (tabK (ρ (.tmp 8)) >>= fun v => pure (.value v)) := by
  simp [execOp, tabK]
attribute [local go_sem ↓] opt_exec sty_exec tab_exec
attribute [local go_sem] optK_run styK_run tabK_run
theorem cell_at {W : World} {g k : Nat} {cs : Array Value} {t : TypeId} {v : Value} (h : W.heap[g]? = some (.cells cs t)) (hk : cs[k]? = some v) : W.cell? ⟨g, k, none⟩ = some v := by
  rw [cell_of_row W g k cs t (0, 0) h]; exact hk
theorem tabQ_39 (p : Option Addr) : (tabQ p)[39]? = some (.pointer p) := by kernel_rfl
theorem styQ_38 : styQ[38]? = some (.bool false) := by kernel_rfl
theorem styQ_41 : styQ[41]? = some (.bool true) := by kernel_rfl
theorem styQ_42 : styQ[42]? = some (.string ⟨#[10]⟩) := by kernel_rfl
def escS (s : ByteArray) : ByteArray := ⟨(esc s.data.toList).toArray⟩
set_option maxHeartbeats 2000000 in
set_option maxRecDepth 100000 in
/-- One cell, into a fresh builder. -/
theorem col_any (tb st B b : Nat) (s : ByteArray) (w : World) (hs : s.size ≤ 1000) (h1 : w.heap[tb]? = some (.cells (tabQ (some ⟨st, 0, none⟩)) 83)) (h2 : w.heap[st]? = some (.cells styQ 60)) (hB : Bld B b [] w) (hBw : B ≤ w.heap.size) :
    Calls Tryz.prog 7 #[.pointer (some ⟨tb, 0, none⟩), .pointer (some ⟨b, 0, none⟩), .string s] w fun e w' => e = .returned (.tuple #[]) ∧ Bld B b (esc s.data.toList) w' ∧ Below B w w' ∧ w.heap.size ≤ w'.heap.size := by
  have lt1 : tb < w.heap.size := lt_of_at h1
  have lt2 : st < w.heap.size := lt_of_at h2
  have c39 : w.cell? ⟨tb, 39, none⟩ = some (.pointer (some ⟨st, 0, none⟩)) := cell_at h1 (tabQ_39 _)
  have c38 : w.cell? ⟨st, 38, none⟩ = some (.bool false) := cell_at h2 styQ_38
  have c41 : w.cell? ⟨st, 41, none⟩ = some (.bool true) := cell_at h2 styQ_41
  have HE : Hid (Calls Tryz.prog 10 #[.string s] w fun e w' => e = .returned (.string ⟨(esc s.data.toList).toArray⟩) ∧ Below w.heap.size w w') := Lib.hid (esc_any s w hs)
  have HK : Hid (∀ w1, Below w.heap.size w w1 → w1.cell? ⟨tb, 39, none⟩ = some (.pointer (some ⟨st, 0, none⟩)) ∧ w1.cell? ⟨st, 42, none⟩ = some (.string ⟨#[10]⟩) ∧ Bld B b [] w1) := Lib.hid (by
    intro w1 hb
    exact ⟨cell_at (by rw [hb.block tb lt1]; exact h1) (tabQ_39 _), cell_at (by rw [hb.block st lt2]; exact h2) styQ_42, hB.keep hb⟩)
  have hl : (esc s.data.toList).length ≤ 5000 := by
    have := esc_len s.data.toList
    rw [← Lib.size_eq] at this; omega
  have HZ := Lib.hid (show (⟨(esc s.data.toList).toArray⟩ : ByteArray).size = (esc s.data.toList).length from mkH_size _)
  have HD := Lib.hid (show (⟨(esc s.data.toList).toArray⟩ : ByteArray).data.toList = esc s.data.toList from rfl)
  have hnl : ((⟨#[10]⟩ : ByteArray).toList != (⟨#[10]⟩ : ByteArray).toList) = false := bne_self_eq_false _
  clear h1 h2 hB lt1 lt2
  generalize (⟨(esc s.data.toList).toArray⟩ : ByteArray) = es at *
  generalize esc s.data.toList = el at *
  go_enter Tryz.func7, Tryz.ntmps7
  go_wp2_with (go_at_call 10; refine HE.out.mono ?_; rintro e w1 ⟨rfl, hb⟩; obtain ⟨c39', c42, hB1⟩ := HK.out w1 hb; have HB := Lib.hid hb; have HB1 := Lib.hid hB1; clear hb hB1)
  have HW := Lib.hid (wr_text B b [] es w1 HB1.out (by have := HZ.out; simp only [List.length_nil]; omega) (by have := HB.out.size; omega))
  go_wp2_with (go_at_call 12; refine HW.out.mono ?_; rintro e w2 ⟨rfl, hb1, hb2, hb3⟩; have HF := Lib.hid hb1; have HG := Lib.hid hb2; clear hb1 hb2 hb3)
  go_end0
  exact ⟨rfl, by have := HF.out; rw [List.nil_append, HD.out] at this; exact this, (HB.out.mono hBw).trans HG.out, Nat.le_trans HB.out.size HG.out.size⟩
def zzW (w : World) : World := (((w.alloc (.cells optQ 28)).alloc (.cells #[.pointer none, .slice none 0 0] 33)).alloc (.cells styQ 60)).alloc (.cells (tabQ (some ⟨w.heap.size + 2, 0, none⟩)) 83)
theorem zzW_size (w : World) : (zzW w).heap.size = w.heap.size + 4 := by simp [zzW]
theorem zzW_below (w : World) : Below w.heap.size w (zzW w) := ((((Below.refl _ _).alloc (Nat.le_refl _) _).alloc (by simp) _).alloc (by simp; omega) _).alloc (by simp; omega) _
theorem zzW_sty (w : World) : (zzW w).heap[w.heap.size + 2]? = some (.cells styQ 60) := by
  unfold zzW
  rw [Below.heap_alloc _ _ _ (by simp)]
  have := heap_alloc_new ((w.alloc (.cells optQ 28)).alloc (.cells #[.pointer none, .slice none 0 0] 33)) (.cells styQ 60)
  rw [World.size_alloc, World.size_alloc] at this
  exact this
theorem zzW_tab (w : World) : (zzW w).heap[w.heap.size + 3]? = some (.cells (tabQ (some ⟨w.heap.size + 2, 0, none⟩)) 83) := by
  have := heap_alloc_new (((w.alloc (.cells optQ 28)).alloc (.cells #[.pointer none, .slice none 0 0] 33)).alloc (.cells styQ 60)) (.cells (tabQ (some ⟨w.heap.size + 2, 0, none⟩)) 83)
  rw [World.size_alloc, World.size_alloc, World.size_alloc] at this
  exact this
theorem zzW_bld (w : World) : Bld (w.heap.size + 1) (w.heap.size + 1) [] (zzW w) := by
  have := bld_fresh (w.alloc (.cells optQ 28))
  rw [World.size_alloc] at this
  exact this.keep ((((Below.refl _ _).alloc (Nat.le_refl _) _).alloc (by simp) _))
set_option maxHeartbeats 4000000 in
set_option maxRecDepth 100000 in
theorem zz_any (s : ByteArray) (w : World) (hs : s.size ≤ 1000) :
    Calls Tryz.prog 6 #[.string s, .agg optQ] w fun e w' => e = .returned (.string ⟨(esc s.data.toList).toArray⟩) ∧ Below w.heap.size w w' := by
  have HC := Lib.hid (col_any (w.heap.size + 3) (w.heap.size + 2) (w.heap.size + 1) (w.heap.size + 1) s (zzW w) hs (zzW_tab w) (zzW_sty w) (zzW_bld w) (by rw [zzW_size]; omega))
  have HZ := Lib.hid (zzW_size w)
  have HB := Lib.hid (zzW_below w)
  have q0 : optQ[0]? = some (.bool false) := rfl
  have q1 : optQ[1]? = some (.string ⟨#[]⟩) := rfl
  have q2 : optQ[2]? = some (.string ⟨#[]⟩) := rfl
  have q3 : optQ[3]? = some (.bool true) := rfl
  have q4 : optQ[4]? = some (.string ⟨#[10]⟩) := rfl
  go_enter Tryz.func6, Tryz.ntmps6
  go_wp2_with (go_at_call 7; refine halt_H ?_)
  refine resume_H ?_
  refine HC.out.mono ?_
  rintro e w1 ⟨rfl, hb1, hb2, hb3⟩
  have HS := Lib.hid (Tryz.Builder_String_any_f (w.heap.size + 1) (w.heap.size + 1) (esc s.data.toList) w1 hb1 (by have := HZ.out; omega))
  have HB1 := Lib.hid (HB.out.trans (hb2.mono (by omega)))
  clear hb1 hb2 hb3
  go_wp2_with (go_at_call 8; refine HS.out.mono ?_; rintro e w2 ⟨rfl, hc1, hc2⟩; have HB2 := Lib.hid hc2; clear hc1 hc2)
  go_ret
  exact ⟨rfl, HB1.out.trans (HB2.out.mono (by omega))⟩
set_option maxHeartbeats 4000000 in
set_option maxRecDepth 100000 in
theorem html_any (s : ByteArray) (w : World) (hs : s.size ≤ 1000) :
    Calls Tryz.prog 4 #[.string s, .bool false, .bool true, .string ⟨#[10]⟩] w fun e w' => e = .returned (.string ⟨(esc s.data.toList).toArray⟩) ∧ Below w.heap.size w w' := by
  have H := Lib.hid (zz_any s w hs)
  go_enter Tryz.func4, Tryz.ntmps4
  go_wp2_with (go_at_call 6; refine H.out.mono ?_; rintro e w1 ⟨rfl, hb⟩; have HB := Lib.hid hb; clear hb)
  go_ret
  exact ⟨rfl, HB.out⟩
set_option maxHeartbeats 4000000 in
set_option maxRecDepth 100000 in
theorem law_any (s : ByteArray) (w : World) (_ : s.size ≤ 140737488351232) :
    Calls Tryz.prog 3 #[.string s] w fun e w' => e = .returned (.bool true) ∧ Below w.heap.size w w' := by
  by_cases h1 : (s.size : Int) > 2147483647
  · have g1 : decide ((s.size : Int) > 2147483647) = true := decide_eq_true h1
    go_enter Tryz.func3, Tryz.ntmps3
    go_wp2_with fail
    go_ret
    exact ⟨rfl, Below.refl _ _⟩
  · have g1 : decide ((s.size : Int) > 2147483647) = false := decide_eq_false h1
    by_cases h2 : (s.size : Int) > 1000
    · have g2 : decide ((s.size : Int) > 1000) = true := decide_eq_true h2
      go_enter Tryz.func3, Tryz.ntmps3
      go_wp2_with fail
      go_ret
      exact ⟨rfl, Below.refl _ _⟩
    · have g2 : decide ((s.size : Int) > 1000) = false := decide_eq_false h2
      have hs : s.size ≤ 1000 := by omega
      have HH := Lib.hid (html_any s w hs)
      have HU : Hid (∀ w1, Calls Tryz.prog 5 #[.string ⟨(esc s.data.toList).toArray⟩] w1 fun e w' => e = .returned (.tuple #[.string s, .bool true]) ∧ Below w1.heap.size w1 w') := Lib.hid (fun w1 => un_any s w1 hs)
      have hss : (s.toList == s.toList) = true := beq_self_eq_true _
      generalize (⟨(esc s.data.toList).toArray⟩ : ByteArray) = es at *
      go_enter Tryz.func3, Tryz.ntmps3
      go_wp2_with (go_at_call 4; refine HH.out.mono ?_; rintro e w1 ⟨rfl, hb⟩; have HB := Lib.hid hb; clear hb)
      go_wp2_with (go_at_call 5; refine (HU.out _).mono ?_; rintro e w2 ⟨rfl, hb⟩; have HB2 := Lib.hid hb; clear hb)
      go_ret
      exact ⟨rfl, HB.out.trans (HB2.out.mono HB.out.size)⟩
end Go.Proofs.YtfolhjdmccbjiaaGreatDoor
