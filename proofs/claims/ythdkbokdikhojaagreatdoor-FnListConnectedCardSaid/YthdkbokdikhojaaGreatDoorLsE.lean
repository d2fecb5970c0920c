/- A list made by steps: the walks of Indent, UnIndent and listOf; the steps of a list make that list. Texts without tabs and carriage returns, at most 1000 bytes each. -/
import Derived.Test.YthdkbokdikhojaaGreatDoorLsD
import Derived.WalkKit
import Derived.Handy
import Derived.BigQuiet
import Derived.Deep.QuietTactic
import Derived.Laws.OwnMore
import Derived.WalkLawsBesides
namespace Go.Proofs.YthdkbokdikhojaaGreatDoor
open Go.RowKit
set_option linter.unusedVariables false
def lastL (its : List (Int × ByteArray)) : Int := match its.getLast? with | some x => x.1 | none => 0
def indL (its : List (Int × ByteArray)) (lev : Int) : Int := if its = [] then lev else if lastL its < lev then lev else lev + 1
def unL (lev : Int) : Int := if 0 < lev then lev - 1 else lev
theorem lastL_at (its : List (Int × ByteArray)) (m : Nat) (h : its.length = m + 1) : lastL its = (its[m]'(by omega)).1 := by
  unfold lastL
  have e : its.length - 1 = m := by omega
  rw [List.getLast?_eq_getElem?, e, List.getElem?_eq_getElem (show m < its.length by omega)]
theorem AppRet.same {w w' : World} {gl B : Nat} {a : Int} {sp css : ByteArray} {v : Value} {lev : Int} {st : Option Addr} {its : List (Int × ByteArray)} (h1 : w'.heap[gl]? = some (lstO a sp css v lev st)) (hI : Items w B v its) (hB : gl < B)
    (hk : ∀ k, k ≠ gl → w'.heap[k]? = w.heap[k]?) (hb : Below gl w w') : AppRet w gl B a sp css lev st its (.returned (.tuple #[])) w' :=
  ⟨v, rfl, h1, hI.keep fun k o h2 h3 => (hk k (by omega)).trans h3, hb⟩
set_option maxHeartbeats 4000000 in
set_option maxRecDepth 100000 in
theorem indent_any (gl B : Nat) (a : Int) (sp css : ByteArray) (v : Value) (lev : Int) (st : Option Addr) (its : List (Int × ByteArray)) (w : World) (hgl : w.heap[gl]? = some (lstO a sp css v lev st)) (hI : Items w B v its) (hB : gl < B) (h0 : 0 ≤ lev) (h1 : lev ≤ 1000000) (hl : its.length ≤ 100000) :
    Calls Tryz.prog 39 #[.pointer (some ⟨gl, 0, none⟩)] w (AppRet w gl B a sp css (indL its lev) st its) := by
  have c4 : w.cell? ⟨gl, 4, none⟩ = some (.int .i64 lev) := cell_of_row w gl 4 _ 62 (0, 0) hgl
  have f4 : w.frozen? ⟨gl, 4, none⟩ = false := by simp [World.frozen?, hgl]
  obtain ⟨A, cap, rfl, hc1, hc2⟩ := hI.form
  by_cases hz : its.length = 0
  · have c3 : w.cell? ⟨gl, 3, none⟩ = some (.slice A 0 cap) := by rw [← hz]; exact cell_of_row w gl 3 _ 62 (0, 0) hgl
    have e0 : its = [] := List.eq_nil_of_length_eq_zero hz
    have HA := Lib.hid (show AppRet w gl B a sp css (indL its lev) st its (.returned (.tuple #[])) w by
      have : indL its lev = lev := by unfold indL; rw [if_pos e0]
      rw [this]
      exact AppRet.same hgl hI hB (fun _ _ => rfl) (Below.refl _ _))
    clear e0 hz hc1 hgl hI
    go_enter Tryz.func39, Tryz.ntmps39
    go_wp2
    go_end0
    exact HA.out
  · obtain ⟨m, hm⟩ : ∃ m, its.length = m + 1 := ⟨its.length - 1, by omega⟩
    have c3 : w.cell? ⟨gl, 3, none⟩ = some (.slice A (m + 1) cap) := by rw [← hm]; exact cell_of_row w gl 3 _ 62 (0, 0) hgl
    obtain ⟨g, p, rfl, hg, hp, cg, hpb⟩ := hI.at_ (k := m) (by omega)
    have cp : w.cell? ⟨p, 0, none⟩ = some (.int .i64 (lastL its)) := by rw [lastL_at its m hm]; exact cell_of_row w p 0 _ 72 (0, 0) hpb
    have hne : its ≠ [] := fun e => by rw [e] at hz; exact hz rfl
    have e1 : (0 : Int) ≤ (m : Int) := by omega
    have e2 : (m : Int) < (m : Int) + 1 := by omega
    have e3 : ((m : Int) + 1 - 1) = m := by omega
    have e4 : ((m : Int)).toNat = m := by omega
    have e5 : IntKind.i64.wrap ((m : Int) + 1 - 1) = (m : Int) := by rw [e3]; exact IntWalk.i64_in _ (by omega)
    have Hgl := Lib.hid hgl
    have HI := Lib.hid hI
    by_cases h2 : lastL its < lev
    · have HA := Lib.hid (show ∀ n, AppRet w gl B a sp css (indL its lev) st its (.returned (.tuple #[])) (w.drewN n) by
        intro n
        have : indL its lev = lev := by unfold indL; rw [if_neg hne, if_pos h2]
        rw [this]
        exact AppRet.same (w' := w.drewN n) hgl hI hB (fun _ _ => rfl) ⟨rfl, rfl, rfl, Nat.le_refl _, fun _ _ => rfl⟩)
      clear hgl hI hpb hne hz hc1
      go_enter Tryz.func39, Tryz.ntmps39
      go_wp2_with fail
      go_quiet (fail)
      go_wp2
      go_end0
      exact HA.out _
    · have HA := Lib.hid (show ∀ n, AppRet w gl B a sp css (indL its lev) st its (.returned (.tuple #[])) ((w.setCell ⟨gl, 4, none⟩ (.int .i64 (lev + 1))).drewN n) by
        intro n
        have : indL its lev = lev + 1 := by unfold indL; rw [if_neg hne, if_neg h2]
        rw [this]
        exact AppRet.same (w' := (w.setCell ⟨gl, 4, none⟩ (.int .i64 (lev + 1))).drewN n) (heap_setCell_same w gl 4 _ 62 _ hgl) hI hB (fun k hk => heap_setCell_other w ⟨gl, 4, none⟩ k _ hk) ⟨rfl, rfl, rfl, by show w.heap.size ≤ (w.setCell _ _).heap.size; simp, fun k hk => heap_setCell_other w ⟨gl, 4, none⟩ k _ (show k ≠ gl by omega)⟩)
      have h2' : lev ≤ lastL its := by omega
      clear hgl hI hpb hne hz hc1 h2
      go_enter Tryz.func39, Tryz.ntmps39
      go_wp2_with fail
      go_quiet (fail)
      go_wp2
      go_end0
      exact HA.out _
set_option maxHeartbeats 1000000 in
theorem unIndent_any (gl B : Nat) (a : Int) (sp css : ByteArray) (v : Value) (lev : Int) (st : Option Addr) (its : List (Int × ByteArray)) (w : World) (hgl : w.heap[gl]? = some (lstO a sp css v lev st)) (hI : Items w B v its) (hB : gl < B) (h0 : 0 ≤ lev) (h1 : lev ≤ 1000000) :
    Calls Tryz.prog 40 #[.pointer (some ⟨gl, 0, none⟩)] w (AppRet w gl B a sp css (unL lev) st its) := by
  have c4 : w.cell? ⟨gl, 4, none⟩ = some (.int .i64 lev) := cell_of_row w gl 4 _ 62 (0, 0) hgl
  have f4 : w.frozen? ⟨gl, 4, none⟩ = false := by simp [World.frozen?, hgl]
  by_cases h2 : 0 < lev
  · have HA := Lib.hid (show AppRet w gl B a sp css (unL lev) st its (.returned (.tuple #[])) (w.setCell ⟨gl, 4, none⟩ (.int .i64 (lev - 1))) by
      have : unL lev = lev - 1 := by unfold unL; rw [if_pos h2]
      rw [this]
      exact AppRet.same (heap_setCell_same w gl 4 _ 62 _ hgl) hI hB (fun k hk => heap_setCell_other w ⟨gl, 4, none⟩ k _ hk) ((Below.refl gl w).setCell (p := ⟨gl, 4, none⟩) (Nat.le_refl _) _))
    clear hgl hI
    go_enter Tryz.func40, Tryz.ntmps40
    go_wp2
    go_end0
    exact HA.out
  · have HA := Lib.hid (show AppRet w gl B a sp css (unL lev) st its (.returned (.tuple #[])) w by
      have : unL lev = lev := by unfold unL; rw [if_neg h2]
      rw [this]
      exact AppRet.same hgl hI hB (fun _ _ => rfl) (Below.refl _ _))
    clear hgl hI
    go_enter Tryz.func40, Tryz.ntmps40
    go_wp2
    go_end0
    exact HA.out
def run1 (s : List (Int × ByteArray) × Int) (x : Int × ByteArray) : List (Int × ByteArray) × Int :=
  if x.1 = 0 then (s.1 ++ [(s.2, x.2)], s.2) else if x.1 = 2 then (s.1, indL s.1 s.2) else if x.1 = 3 then (s.1, unL s.2) else s
theorem indL_bd (its : List (Int × ByteArray)) (lev : Int) : lev ≤ indL its lev ∧ indL its lev ≤ lev + 1 := by
  unfold indL; split
  · omega
  · split <;> omega
theorem unL_bd (lev : Int) (h : 0 ≤ lev) : 0 ≤ unL lev ∧ unL lev ≤ lev := by unfold unL; split <;> omega
theorem run1_bd (s : List (Int × ByteArray) × Int) (x : Int × ByteArray) (c : Nat) (h0 : 0 ≤ s.2) (h1 : s.2 ≤ c) (h2 : s.1.length ≤ c) : 0 ≤ (run1 s x).2 ∧ (run1 s x).2 ≤ (c + 1 : Nat) ∧ (run1 s x).1.length ≤ c + 1 := by
  have a := indL_bd s.1 s.2
  have b := unL_bd s.2 h0
  unfold run1
  split
  · simp; omega
  · split
    · simp; omega
    · split
      · simp; omega
      · omega
def runs (S : List (Int × ByteArray)) : List (Int × ByteArray) × Int := S.foldl run1 ([], 0)
theorem runs_bd (S : List (Int × ByteArray)) : 0 ≤ (runs S).2 ∧ (runs S).2 ≤ S.length ∧ (runs S).1.length ≤ S.length := by
  have key : ∀ (S : List (Int × ByteArray)) (s : List (Int × ByteArray) × Int) (c : Nat), 0 ≤ s.2 → s.2 ≤ c → s.1.length ≤ c → 0 ≤ (S.foldl run1 s).2 ∧ (S.foldl run1 s).2 ≤ ((c + S.length : Nat) : Int) ∧ (S.foldl run1 s).1.length ≤ c + S.length := by
    intro S
    induction S with
    | nil => intro s c h0 h1 h2; exact ⟨h0, by simpa using h1, by simpa using h2⟩
    | cons x S ih =>
      intro s c h0 h1 h2
      obtain ⟨a, b, d⟩ := run1_bd s x c h0 h1 h2
      have := ih (run1 s x) (c + 1) a b d
      rw [List.foldl_cons, List.length_cons]
      rw [show c + (S.length + 1) = c + 1 + S.length by omega]
      exact this
  have := key S ([], 0) 0 (by simp) (by simp) (by simp)
  rw [Nat.zero_add] at this
  exact this
theorem runs_snoc (S : List (Int × ByteArray)) (x : Int × ByteArray) : runs (S ++ [x]) = run1 (runs S) x := by simp [runs]
def sk (S : List (Int × ByteArray)) (k : Nat) : Int := (S.getD k (0, ⟨#[]⟩)).1
def st_ (S : List (Int × ByteArray)) (k : Nat) : ByteArray := (S.getD k (0, ⟨#[]⟩)).2
theorem take_stp (S : List (Int × ByteArray)) (k : Nat) (h : k < S.length) : S.take (k + 1) = S.take k ++ [(sk S k, st_ S k)] := by
  rw [List.take_succ_eq_append_getElem h, sk, st_, List.getD_eq_getElem?_getD, List.getElem?_eq_getElem h]; rfl
theorem stp_at (S : List (Int × ByteArray)) : ∀ k, k < S.length → (stpCells S)[k * 3]? = some (.int .i64 (sk S k)) ∧ (stpCells S)[k * 3 + 1]? = some (.string (st_ S k)) ∧ (stpCells S)[k * 3 + 2]? = some (.slice none 0 0) := by
  induction S with
  | nil => intro k h; simp at h
  | cons x S ih =>
    intro k h
    have e : stpCells (x :: S) = .int .i64 x.1 :: .string x.2 :: .slice none 0 0 :: stpCells S := by simp [stpCells]
    cases k with
    | zero => rw [e]; exact ⟨rfl, rfl, rfl⟩
    | succ k =>
      have := ih k (by simpa using h)
      rw [e, show (k + 1) * 3 = k * 3 + 1 + 1 + 1 by omega]
      simpa [sk, st_] using this
theorem stp_cells {w : World} {B : Nat} {A : Option Addr} {cap : Nat} {S : List (Int × ByteArray)} (h : w.ownsRow B 55 3 (.slice A S.length cap) S.length (stpCells S)) (h0 : 0 < S.length) :
    ∃ g, A = some ⟨g, 0, none⟩ ∧ g < w.heap.size ∧ ∀ k, k < S.length → w.cell? ⟨g, k * 3, none⟩ = some (.int .i64 (sk S k)) ∧ w.cell? ⟨g, k * 3 + 1, none⟩ = some (.string (st_ S k)) ∧ w.cell? ⟨g, k * 3 + 2, none⟩ = some (.slice none 0 0) := by
  rcases h.2 with ⟨he, hz⟩ | ⟨g, cap', cur, he, _, hg, _⟩
  · omega
  · injection he with e1 e2 e3
    subst e1
    refine ⟨g, rfl, (Array.getElem?_eq_some_iff.1 hg).1, fun k hk => ?_⟩
    have hc := h.cells (g := g) rfl
    obtain ⟨a, b, c⟩ := stp_at S k hk
    have a' := hc _ _ a
    have b' := hc _ _ b
    have c' := hc _ _ c
    rw [Addr.add_lit, Nat.zero_add] at a' b' c'
    exact ⟨a', b', c'⟩
def ListRet (w : World) (its : List (Int × ByteArray)) (e : Ending) (w' : World) : Prop :=
  ∃ gl B v lev, e = .returned (.pointer (some ⟨gl, 0, none⟩)) ∧ w.heap.size ≤ gl ∧ gl < B ∧ w'.heap[gl]? = some (lstO 0 ⟨#[]⟩ ⟨#[]⟩ v lev none) ∧ Items w' B v its ∧ Below w.heap.size w w'
set_option maxHeartbeats 8000000 in
set_option maxRecDepth 100000 in
theorem listOf_any (base : Nat) (v : Value) (S : List (Int × ByteArray)) (w : World) (h : w.ownsRow base 55 3 v S.length (stpCells S)) (hlen : S.length ≤ 20000) (hS : ∀ k, k < S.length → (sk S k = 0 ∨ sk S k = 2 ∨ sk S k = 3) ∧ clean (st_ S k)) :
    Calls Tryz.prog 30 #[v] w (ListRet w (runs S).1) := by
  obtain ⟨A, cap, rfl⟩ : ∃ A cap, v = .slice A S.length cap := by
    rcases h.2 with ⟨e, hz⟩ | ⟨g, cap, cur, e, _⟩
    · exact ⟨none, 0, by rw [hz]; exact e⟩
    · exact ⟨_, cap, e⟩
  have hcap : S.length ≤ cap := by
    rcases h.2 with ⟨e, hz⟩ | ⟨g, cap', cur, e, _, _, h1, h2, _⟩
    · omega
    · injection e with e1 e2 e3; omega
  have HS := Lib.hid hS
  clear hS
  go_enter Tryz.func30, Tryz.ntmps30
  go_wp2_with fail
  go_loopw [13] (fun i wr => ∃ (k : Nat) (v : Value) (lev : Int) (its : List (Int × ByteArray)), k ≤ S.length ∧ i = .int .i64 k ∧ 0 ≤ lev ∧ lev ≤ k ∧ its.length ≤ k ∧ Hid (runs (S.take k) = (its, lev)) ∧ Hid (wr.heap[w.heap.size]? = some (lstO 0 ⟨#[]⟩ ⟨#[]⟩ v lev none)) ∧ Hid (Items wr (w.heap.size + 1) v its) ∧ Hid (Below w.heap.size w wr)) (fun i _ => S.length - (intOf i).toNat)
  case atStart => exact ⟨0, .slice none 0 0, 0, [], Nat.zero_le _, rfl, by omega, by simp, by simp, Lib.hid rfl, Lib.hid (heap_alloc_new w _), Lib.hid (Items.nil _ _), Lib.hid ((Below.refl _ _).alloc (Nat.le_refl _) _)⟩
  case round =>
    obtain ⟨k, v, lev, its, hk, rfl, hl0, hl1, hit, HR, HL, HI, HB⟩ := hrel
    by_cases hlt : k < S.length
    · obtain ⟨g, rfl, hg, hc⟩ := stp_cells h (by omega)
      obtain ⟨c0, c1, c2⟩ := hc k hlt
      have d0 : wr.cell? ⟨g, k * 3, none⟩ = some (.int .i64 (sk S k)) := (HB.out.cell (p := ⟨g, k * 3, none⟩) hg).trans c0
      have d1 : wr.cell? ⟨g, k * 3 + 1, none⟩ = some (.string (st_ S k)) := (HB.out.cell (p := ⟨g, k * 3 + 1, none⟩) hg).trans c1
      have d2 : wr.cell? ⟨g, k * 3 + 2, none⟩ = some (.slice none 0 0) := (HB.out.cell (p := ⟨g, k * 3 + 2, none⟩) hg).trans c2
      have hgw : g < wr.heap.size := by have := HB.out.size; omega
      have hlw : w.heap.size < wr.heap.size := (Array.getElem?_eq_some_iff.1 HL.out).1
      clear hc c0 c1 c2
      obtain ⟨wo, rfl⟩ : ∃ wo : World, wo = wr := ⟨_, rfl⟩
      obtain ⟨hk3, hcl⟩ := HS.out k hlt
      have Hcl := Lib.hid hcl
      have HR' := Lib.hid (show runs (S.take (k + 1)) = run1 (its, lev) (sk S k, st_ S k) by rw [take_stp S k hlt, runs_snoc, HR.out])
      have own_next : ∀ o : Obj, Hid (Items (wo.alloc o) (w.heap.size + 1) v its) ∧ (wo.alloc o).heap[w.heap.size]? = some (lstO 0 ⟨#[]⟩ ⟨#[]⟩ v lev none) ∧ Below w.heap.size w (wo.alloc o) := fun o =>
        ⟨HI.out.keep fun q x _ hx => hp_alloc hx, hp_alloc HL.out, HB.out.alloc HB.out.size _⟩
      have ON := Lib.hid own_next
      clear own_next hcl h
      generalize hsk : sk S k = kd at *
      generalize hst : st_ S k = tk at *
      clear hsk hst
      rcases hk3 with rfl | rfl | rfl
      · have HA := fun W h1 h2 h3 => Lib.hid (appendItem_any w.heap.size (w.heap.size + 1) 0 ⟨#[]⟩ ⟨#[]⟩ v lev none its tk W h1 h2 (by omega) h3 Hcl.out (by omega))
        go_wp2_with (go_at_call 37; refine (HA (wo.alloc _) (ON.out _).2.1 (ON.out _).1.out (by simp; omega)).out.mono ?_; rintro e w1 ⟨v', rfl, k1, k2, k3⟩
                     have K1 := Lib.hid k1; have K2 := Lib.hid k2; have K3 := Lib.hid ((ON.out _).2.2.trans k3); clear k1 k2 k3)
        go_roundw
        case rel => exact ⟨k + 1, v', lev, its ++ [(lev, tk)], by omega, by go_num, hl0, by omega, by simp; omega, Lib.hid (by rw [HR'.out]; simp [run1]), K1, K2, K3⟩
        case measure => simp [intOf]; omega
      · have HA := fun W h1 h2 => Lib.hid (indent_any w.heap.size (w.heap.size + 1) 0 ⟨#[]⟩ ⟨#[]⟩ v lev none its W h1 h2 (by omega) hl0 (by omega) (by omega))
        have hbd := indL_bd its lev
        obtain ⟨hb1, hb2⟩ := hbd
        go_wp2_with (go_at_call 39; refine (HA (wo.alloc _) (ON.out _).2.1 (ON.out _).1.out).out.mono ?_; rintro e w1 ⟨v', rfl, k1, k2, k3⟩
                     have K1 := Lib.hid k1; have K2 := Lib.hid k2; have K3 := Lib.hid ((ON.out _).2.2.trans k3); clear k1 k2 k3)
        go_roundw
        case rel => exact ⟨k + 1, v', indL its lev, its, by omega, by go_num, by omega, by omega, by omega, Lib.hid (by rw [HR'.out]; simp [run1]), K1, K2, K3⟩
        case measure => simp [intOf]; omega
      · have HA := fun W h1 h2 => Lib.hid (unIndent_any w.heap.size (w.heap.size + 1) 0 ⟨#[]⟩ ⟨#[]⟩ v lev none its W h1 h2 (by omega) hl0 (by omega))
        have hbd := unL_bd lev hl0
        obtain ⟨hb1, hb2⟩ := hbd
        go_wp2_with (go_at_call 40; refine (HA (wo.alloc _) (ON.out _).2.1 (ON.out _).1.out).out.mono ?_; rintro e w1 ⟨v', rfl, k1, k2, k3⟩
                     have K1 := Lib.hid k1; have K2 := Lib.hid k2; have K3 := Lib.hid ((ON.out _).2.2.trans k3); clear k1 k2 k3)
        go_roundw
        case rel => exact ⟨k + 1, v', unL lev, its, by omega, by go_num, by omega, by omega, by omega, Lib.hid (by rw [HR'.out]; simp [run1]), K1, K2, K3⟩
        case measure => simp [intOf]; omega
    · have hd : decide ((k : Int) < (S.length : Int)) = false := decide_eq_false (by omega)
      have Hk := Lib.hid (show runs S = (its, lev) by rw [← HR.out, List.take_of_length_le (by omega)])
      go_wp2_with fail
      go_ret
      exact ⟨w.heap.size, w.heap.size + 1, v, lev, rfl, Nat.le_refl _, Nat.lt_succ_self _, HL.out, by rw [Hk.out]; exact HI.out, HB.out⟩
end Go.Proofs.YthdkbokdikhojaaGreatDoor
