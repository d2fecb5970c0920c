/- Reading an escaped text back: the walk of spec.Unescaped. Texts of at most 1000 bytes, escaped. -/
import Derived.Test.YtfolhjdmccbjiaaGreatDoorHtA
import Derived.LoopN
import Derived.WalkSmall
import Derived.IntWalk
namespace Go.Proofs.YtfolhjdmccbjiaaGreatDoor
open Go.RowKit
set_option linter.unusedVariables false
theorem drop_head {x : ByteArray} {p : Nat} {a : UInt8} {l : List UInt8} (h : x.data.toList.drop p = a :: l) : ∃ hp : p < x.size, x[p]'hp = a ∧ x.data.toList.drop (p + 1) = l := by
  have hp : p < x.data.toList.length := by
    rcases Nat.lt_or_ge p x.data.toList.length with h1 | h1
    · exact h1
    · rw [List.drop_eq_nil_of_le h1] at h; cases h
  rw [List.drop_eq_getElem_cons hp] at h
  obtain ⟨h1, h2⟩ := List.cons.inj h
  exact ⟨by rw [Lib.size_eq]; exact hp, h1, h2⟩
theorem cut_take (x : ByteArray) (p n : Nat) : x.extract p (p + n) = ⟨((x.data.toList.drop p).take n).toArray⟩ := by
  apply bytes_ext
  rw [Lib.extract_data, Nat.add_sub_cancel_left]
theorem appH (a b : List UInt8) : (⟨a.toArray⟩ : ByteArray) ++ ⟨b.toArray⟩ = ⟨(a ++ b).toArray⟩ := by
  apply bytes_ext; simp
theorem beq_l {a b : List UInt8} : ((⟨a.toArray⟩ : ByteArray).toList == (⟨b.toArray⟩ : ByteArray).toList) = decide (a = b) := by
  rw [Lib.toList_data, Lib.toList_data, Bool.eq_iff_iff]; simp
def namesV : Array Value := #[.string ⟨#[38, 97, 109, 112, 59]⟩, .string ⟨#[38, 108, 116, 59]⟩, .string ⟨#[38, 103, 116, 59]⟩, .string ⟨#[38, 35, 51, 52, 59]⟩, .string ⟨#[38, 35, 51, 57, 59]⟩]
def saysV : Array Value := #[.string ⟨#[38]⟩, .string ⟨#[60]⟩, .string ⟨#[62]⟩, .string ⟨#[34]⟩, .string ⟨#[39]⟩]
theorem names_at (k : Nat) (h : k < 5) : namesV[k]? = some (.string ⟨(nm k).toArray⟩) := by
  match k, h with
  | 0, _ => rfl
  | 1, _ => rfl
  | 2, _ => rfl
  | 3, _ => rfl
  | 4, _ => rfl
theorem says_at (k : Nat) (h : k < 5) : saysV[k]? = some (.string ⟨[sy k].toArray⟩) := by
  match k, h with
  | 0, _ => rfl
  | 1, _ => rfl
  | 2, _ => rfl
  | 3, _ => rfl
  | 4, _ => rfl
def UnRet (s : ByteArray) (w : World) (e : Ending) (w' : World) : Prop := e = .returned (.tuple #[.string s, .bool true]) ∧ Below w.heap.size w w'
def Left (s x : ByteArray) (o : List UInt8) (p : Nat) : Prop := ∃ rest, s.data.toList = o ++ rest ∧ x.data.toList.drop p = esc rest
set_option maxHeartbeats 1000000 in
set_option maxRecDepth 100000 in
theorem un_any (s : ByteArray) (w : World) (hs : s.size ≤ 1000) : Calls Tryz.prog 5 #[.string ⟨(esc s.data.toList).toArray⟩] w (UnRet s w) := by
  obtain ⟨x, hx⟩ : ∃ x : ByteArray, x = ⟨(esc s.data.toList).toArray⟩ := ⟨_, rfl⟩
  have hxl : x.data.toList = esc s.data.toList := by rw [hx]
  rw [← hx]
  have hxs : x.size ≤ 5000 := by
    have := esc_len s.data.toList
    rw [Lib.size_eq, hxl]; rw [← Lib.size_eq] at this; omega
  have hxi : (x.size : Int) ≤ 5000 := by omega
  have HX := Lib.hid (show Left s x [] 0 from ⟨s.data.toList, rfl, by rw [List.drop_zero]; exact hxl⟩)
  have HSL := Lib.hid (show s.data.toList.length ≤ 1000 by rw [← Lib.size_eq]; exact hs)
  clear hx hxl
  have HB := Lib.hid (show Below w.heap.size w ((w.alloc (.cells namesV 9)).alloc (.cells saysV 9)) from ((Below.refl _ _).alloc (Nat.le_refl _) _).alloc (by simp) _)
  have HN := Lib.hid (fun k (hk : k < 5) => show ((w.alloc (.cells namesV 9)).alloc (.cells saysV 9)).cell? ⟨w.heap.size, k, none⟩ = some (.string ⟨(nm k).toArray⟩) by
    rw [cell_of_row _ w.heap.size k namesV 9 (0, 0) (by rw [Below.heap_alloc _ _ _ (by simp)]; exact heap_alloc_new w _)]
    exact names_at k hk)
  have HS := Lib.hid (fun k (hk : k < 5) => show ((w.alloc (.cells namesV 9)).alloc (.cells saysV 9)).cell? ⟨w.heap.size + 1, k, none⟩ = some (.string ⟨[sy k].toArray⟩) by
    rw [cell_of_row _ (w.heap.size + 1) k saysV 9 (0, 0) (by have := heap_alloc_new (w.alloc (.cells namesV 9)) (.cells saysV 9); rw [World.size_alloc] at this; exact this)]
    exact says_at k hk)
  unfold namesV saysV at HB HN HS
  go_enter Tryz.func5, Tryz.ntmps5
  go_wp2_with fail
  generalize (w.alloc (.cells #[.string ⟨#[38, 97, 109, 112, 59]⟩, .string ⟨#[38, 108, 116, 59]⟩, .string ⟨#[38, 103, 116, 59]⟩, .string ⟨#[38, 35, 51, 52, 59]⟩, .string ⟨#[38, 35, 51, 57, 59]⟩] 9)).alloc (.cells #[.string ⟨#[38]⟩, .string ⟨#[60]⟩, .string ⟨#[62]⟩, .string ⟨#[34]⟩, .string ⟨#[39]⟩] 9) = W at *
  go_loopw [6, 7, 8, 9] (fun ov iv _ _ wr => (∃ n, wr = W.drewN n) ∧ ∃ (p : Nat) (o : List UInt8), p ≤ x.size ∧ iv = .int .i64 (p : Int) ∧ ov = .string ⟨o.toArray⟩ ∧ o.length ≤ 1000 ∧ Hid (Left s x o p)) (fun _ iv _ _ _ => x.size - (intOf iv).toNat)
  case atStart => exact ⟨⟨0, rfl⟩, 0, [], Nat.zero_le _, rfl, rfl, Nat.zero_le _, HX⟩
  case round =>
    obtain ⟨⟨q, rfl⟩, p, o, hp, rfl, rfl, hol, hL⟩ := hrel
    have hos := mkH_size o
    obtain ⟨rest, hL1, hL2⟩ := hL.out
    cases rest with
    | nil =>
      have hpe : x.size ≤ p := by
        have := congrArg List.length hL2
        rw [List.length_drop, ← Lib.size_eq] at this
        simp [esc] at this; omega
      have HF := Lib.hid (show (⟨o.toArray⟩ : ByteArray) = s by
        apply bytes_ext; rw [hL1]; simp)
      clear hL hL1 hL2
      go_wp2_with fail
      go_ret2
      exact ⟨by rw [HF.out]; rfl, HB.out.trans ⟨rfl, rfl, rfl, Nat.le_refl _, fun _ _ => rfl⟩⟩
    | cons c r =>
      rw [esc_cons] at hL2
      have hro : o.length + 1 ≤ 1000 := by
        have h1 := HSL.out
        rw [hL1, List.length_append, List.length_cons] at h1; omega
      rcases escB_cases c with ⟨t, ht5, hct, hce⟩ | ⟨n0, n1, n2, n3, n4, hce⟩
      · rw [hce] at hL2
        obtain ⟨hd, hnh⟩ := nm_head t
        have hL3 := hL2
        rw [hnh] at hL3
        obtain ⟨hpx, hx38, _⟩ := drop_head hL3
        have hix : ∀ V, (Instr.index 9 (.string x) (.int .i64 (p : Int))).run Tryz.prog V = .ok (.int .u8 38) V := by
          intro V
          have := ixH x p hpx V
          rw [hx38] at this
          exact this
        have hsz1 : p + (nm t).length ≤ x.size := by
          have := congrArg List.length hL2
          rw [List.length_drop, ← Lib.size_eq, List.length_append] at this; omega
        have HC := Lib.hid (fun k => show x.extract p (p + (nm k).length) = ⟨((nm t ++ esc r).take (nm k).length).toArray⟩ by rw [cut_take, hL2])
        have HL5 := Lib.hid (show Left s x (o ++ [sy t]) (p + (nm t).length) from ⟨r, by rw [hL1, hct]; simp, by rw [← List.drop_drop, hL2, List.drop_left]⟩)
        have hnt := nm_len t
        clear hL hL1 hL2 hL3 hnh hx38 hce
        go_wp2_with fail
        go_loopw [6, 7, 8, 9] (fun ov iv fv kv wr => (∃ n, wr = W.drewN n) ∧ ∃ k : Nat, k ≤ 5 ∧ kv = .int .i64 (k : Int) ∧ ((fv = .bool false ∧ k ≤ t ∧ iv = .int .i64 (p : Int) ∧ ov = .string ⟨o.toArray⟩) ∨ (fv = .bool true ∧ iv = .int .i64 ((p : Int) + ((nm t).length : Int)) ∧ ov = .string ⟨(o ++ [sy t]).toArray⟩))) (fun _ _ _ kv _ => 6 - (intOf kv).toNat)
        case atStart => exact ⟨⟨q, rfl⟩, 0, by omega, rfl, .inl ⟨rfl, by omega, rfl, rfl⟩⟩
        case round =>
          obtain ⟨⟨q1, rfl⟩, k, hk5, rfl, hst⟩ := hrel
          rcases hst with ⟨rfl, hkt, rfl, rfl⟩ | ⟨rfl, rfl, rfl⟩
          · have hn := HN.out k (by omega)
            have hsy := HS.out k (by omega)
            have hnk := nm_len k
            have hnz := mkH_size (nm k)
            have hwv : IntKind.i64.wrap ((p : Int) + ((nm k).length : Int)) = (p : Int) + ((nm k).length : Int) := IntWalk.i64_in _ (by omega)
            have gk : decide ((k : Int) < 5) = true := decide_eq_true (by omega)
            by_cases hkt2 : k = t
            · subst hkt2
              have gl : decide ((p : Int) + ((nm k).length : Int) ≤ (x.size : Int)) = true := decide_eq_true (by omega)
              have hsl := fun V => slice_str (P := Tryz.prog) Tryz.underlying9 x (p : Int) ((p : Int) + ((nm k).length : Int)) p (p + (nm k).length) rfl (by simp) (by omega) (by omega) V
              rw [HC.out, nm_same] at hsl
              have HA := Lib.hid (appH o [sy k])
              have hz1 := mkH_size [sy k]
              have hb : (p : Int) + ((nm k).length : Int) ≤ 5000 := by omega
              have hbb : ((⟨(nm k).toArray⟩ : ByteArray).toList == (⟨(nm k).toArray⟩ : ByteArray).toList) = true := beq_self_eq_true _
              clear HC
              generalize hnn : (nm k).length = len at *
              generalize (⟨(nm k).toArray⟩ : ByteArray) = nk at *
              generalize (⟨[sy k].toArray⟩ : ByteArray) = sk at *
              go_wp2_with fail
              go_quiet (fail)
              go_wp2
              go_roundw
              case rel => exact ⟨⟨_, rfl⟩, k + 1, by omega, by go_num, .inr ⟨rfl, rfl, by rw [HA.out]⟩⟩
              case measure => simp [intOf]; omega
            · by_cases gl0 : p + (nm k).length ≤ x.size
              · have gl : decide ((p : Int) + ((nm k).length : Int) ≤ (x.size : Int)) = true := decide_eq_true (by omega)
                have hsl := fun V => slice_str (P := Tryz.prog) Tryz.underlying9 x (p : Int) ((p : Int) + ((nm k).length : Int)) p (p + (nm k).length) rfl (by simp) (by omega) (by omega) V
                rw [HC.out] at hsl
                have hne := nm_other k t (by omega) ht5 (esc r)
                have hbb : ((⟨((nm t ++ esc r).take (nm k).length).toArray⟩ : ByteArray).toList == (⟨(nm k).toArray⟩ : ByteArray).toList) = false := by rw [beq_l]; exact decide_eq_false hne
                have hb : (p : Int) + ((nm k).length : Int) ≤ 5000 := by omega
                clear HC hne
                generalize (⟨((nm t ++ esc r).take (nm k).length).toArray⟩ : ByteArray) = cut at *
                generalize (⟨(nm k).toArray⟩ : ByteArray) = nk at *
                generalize hnn : (nm k).length = len at *
                go_wp2_with fail
                go_quiet (fail)
                go_wp2
                go_roundw
                case rel => exact ⟨⟨_, rfl⟩, k + 1, by omega, by go_num, .inl ⟨rfl, by omega, rfl, rfl⟩⟩
                case measure => simp [intOf]; omega
              · have gl : decide ((p : Int) + ((nm k).length : Int) ≤ (x.size : Int)) = false := decide_eq_false (by omega)
                have hb : (p : Int) + ((nm k).length : Int) ≤ 6000 := by omega
                generalize (⟨(nm k).toArray⟩ : ByteArray) = nk at *
                generalize hnn : (nm k).length = len at *
                go_wp2_with fail
                go_quiet (fail)
                go_wp2
                go_roundw
                case rel => exact ⟨⟨_, rfl⟩, k + 1, by omega, by go_num, .inl ⟨rfl, by omega, rfl, rfl⟩⟩
                case measure => simp [intOf]; omega
          · have hz2 : (o ++ [sy t]).length ≤ 1000 := by simp; omega
            generalize hnn : (nm t).length = len at *
            by_cases gk : (k : Int) < 5
            · have gk2 : decide ((k : Int) < 5) = true := decide_eq_true gk
              go_wp2_with fail
              go_roundw
              case rel => exact ⟨⟨_, rfl⟩, p + len, o ++ [sy t], by omega, by go_num, rfl, hz2, HL5⟩
              case measure => simp [intOf]; omega
            · have gk2 : decide ((k : Int) < 5) = false := decide_eq_false gk
              go_wp2_with fail
              go_roundw
              case rel => exact ⟨⟨_, rfl⟩, p + len, o ++ [sy t], by omega, by go_num, rfl, hz2, HL5⟩
              case measure => simp [intOf]; omega
      · rw [hce] at hL2
        obtain ⟨hpx, hxc, hL3⟩ := drop_head hL2
        have hix : ∀ V, (Instr.index 9 (.string x) (.int .i64 (p : Int))).run Tryz.prog V = .ok (.int .u8 (c.toNat : Int)) V := by
          intro V
          have := ixH x p hpx V
          rw [hxc] at this
          exact this
        have hsl := fun V => slice_str (P := Tryz.prog) Tryz.underlying9 x (p : Int) ((p : Int) + 1) p (p + 1) rfl (by simp) (by omega) (by omega) V
        rw [cut_take, hL2] at hsl
        have e0 : ((c.toNat : Int) != 38) = true := by rw [bne_iff_ne]; exact fun e => n0 (UInt8.toNat_inj.1 (by show _ = 38; omega))
        have e1 : ((c.toNat : Int) == 60) = false := by rw [beq_eq_false_iff_ne]; exact fun e => n1 (UInt8.toNat_inj.1 (by show _ = 60; omega))
        have e2 : ((c.toNat : Int) == 62) = false := by rw [beq_eq_false_iff_ne]; exact fun e => n2 (UInt8.toNat_inj.1 (by show _ = 62; omega))
        have e3 : ((c.toNat : Int) == 34) = false := by rw [beq_eq_false_iff_ne]; exact fun e => n3 (UInt8.toNat_inj.1 (by show _ = 34; omega))
        have e4 : ((c.toNat : Int) == 39) = false := by rw [beq_eq_false_iff_ne]; exact fun e => n4 (UInt8.toNat_inj.1 (by show _ = 39; omega))
        have HA := Lib.hid (show (⟨o.toArray⟩ : ByteArray) ++ ⟨((([c] : List UInt8) ++ esc r).take 1).toArray⟩ = ⟨(o ++ [c]).toArray⟩ from appH o [c])
        have hz1 : (⟨((([c] : List UInt8) ++ esc r).take 1).toArray⟩ : ByteArray).size = 1 := rfl
        have HL5 := Lib.hid (show Left s x (o ++ [c]) (p + 1) from ⟨r, by rw [hL1]; simp, hL3⟩)
        have hz2 : (o ++ [c]).length ≤ 1000 := by simp; omega
        clear hL hL1 hL2 hL3 hxc hce n0 n1 n2 n3 n4
        generalize (⟨((([c] : List UInt8) ++ esc r).take 1).toArray⟩ : ByteArray) = cb at *
        generalize (c.toNat : Int) = z at *
        go_wp2_with fail
        go_roundw
        case rel => exact ⟨⟨_, rfl⟩, p + 1, o ++ [c], by omega, by go_num, by rw [← HA.out], hz2, HL5⟩
        case measure => simp [intOf]; omega
end Go.Proofs.YtfolhjdmccbjiaaGreatDoor
