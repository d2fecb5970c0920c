/- The columns that the table merges: the walk of impl.MergedOf. Rows of at most 100 texts, 0 to 200 columns. -/
import Derived.Test.YtlppbalnjogkoaaMerD
import Derived.WalkKit
import Derived.Handy
import Derived.Deep.QuietTactic
import Derived.BigQuiet
import Derived.Laws.OwnMore
import Derived.WalkLawsBesides
namespace Go.Proofs.Ytlppbalnjogkoaa
open Go.RowKit
set_option linter.unusedVariables false
theorem own_more {w : World} {B B' : Nat} {e : TypeId} {size n : Nat} {v : Value} {xs : List Value} (h : w.ownsRow B' e size v n xs) (hb : B ≤ B') : w.ownsRow B e size v n xs := by
  refine ⟨h.1, ?_⟩
  rcases h.2 with h | ⟨g, cap, cur, h1, h2, h3⟩
  · exact .inl h
  · exact .inr ⟨g, cap, cur, h1, Nat.le_trans hb h2, h3⟩
theorem zero3 : ∀ W : World, (zeroValue 3).run Try.prog W = .ok (.int .i64 0) W := fun _ => by kernel_rfl
set_option maxHeartbeats 4000000 in
set_option maxRecDepth 100000 in
theorem implMerged_any (A : Option Addr) (n cap : Nat) (ss : List ByteArray) (m : Int) (w : World) (h : Strs w A n cap ss) (hn : n ≤ 100) (hm : 0 ≤ m ∧ m ≤ 200) :
    Calls Try.prog 24 #[.slice A n cap, .int .i64 m] w (RunsRet ss m w) := by
  have hl := h.2.1
  have HH := Lib.hid h
  have Hs := Lib.hid (runs_sorted ss m _ 0 rfl)
  have Hmem := Lib.hid (runs_mem ss m _ 0 rfl)
  clear h
  generalize hR : runs ss m 0 = R at Hs Hmem
  have HR := Lib.hid hR
  clear hR
  go_enter Try.func24, Try.ntmps24
  go_wp2_with (go_at_call 45; (refine (zzMerged_any A n cap ss m w HH.out hn hm).mono ?_); rintro e w1 ⟨g, rfl, hM, hb1, hge⟩)
  rw [HR.out] at hM
  have HM := Lib.hid hM
  have HB := Lib.hid hb1
  have hglt := hM.lt
  clear hM hb1
  go_wp2_with fail
  go_loopw [6, 15] (fun v i wr => ∃ k : Nat, k ≤ n ∧ i = .int .i64 k ∧ (upto R k).length ≤ k ∧ wr.ownsRow w1.heap.size 41 2 v (upto R k).length (pc (upto R k)) ∧ Below w1.heap.size w1 wr) (fun _ i _ => n - (intOf i).toNat)
  case atStart =>
    have e : upto R 0 = [] := upto_zero R (fun p hp => by obtain ⟨s, h1, _⟩ := Hmem.out p hp; omega)
    exact ⟨0, Nat.zero_le _, rfl, by rw [e]; exact Nat.le_refl _, by rw [e]; exact World.ownsRow_nil _ _ _ _, Below.refl _ _⟩
  case round =>
    obtain ⟨k, hk, rfl, hlen, hown, hB⟩ := hrel
    have hMk := HM.out.below hB hglt
    have HMk := Lib.hid hMk
    clear hMk
    obtain ⟨wo, rfl⟩ : ∃ wo : World, wo = wr := ⟨_, rfl⟩
    by_cases hlt : k < n
    · cases hf : pmap R (.int .i64 k) with
      | none =>
        have hu := upto_miss R k hf
        have hr : (if true = true then Value.tuple #[(pmap R (.int .i64 k)).getD (.int .i64 0), .bool (pmap R (.int .i64 k)).isSome] else (pmap R (.int .i64 k)).getD (.int .i64 0)) = .tuple #[.int .i64 0, .bool false] := by rw [hf]; rfl
        have Hr := Lib.hid hr
        have Hu := Lib.hid hu
        clear hr hu hf
        go_wp2_with ((with_reducible refine gate_lk Try.prog (t := 65) rfl ?_); (refine wpList_lookup_is HMk.out (kv := .int .i64 k) (r := .tuple #[.int .i64 0, .bool false]) Try.underlying65 Try.underlying3 ?_ ?_ ?_ (zero3 _) ?_ ?_); rfl; rfl; exact (show MapKept.IsKey (.int .i64) (.int .i64 k) from rfl); exact Hr.out)
        go_roundw
        case rel => exact ⟨k + 1, by omega, by go_num, by rw [Hu.out]; omega, by rw [Hu.out]; exact hown, hB⟩
        case measure => simp [intOf]; omega
      | some e =>
        obtain ⟨x, rfl, hx, hu⟩ := upto_hit R Hs.out k e hf
        obtain ⟨x0, x1, x2, x3, x4, x5, x6⟩ := Hmem.out _ hx
        have x7 : (k : Int) ≤ x := x5
        have x8 : x < ss.length := x6
        clear x1 x2 x3 x4 x5 x6
        have hr : (if true = true then Value.tuple #[(pmap R (.int .i64 k)).getD (.int .i64 0), .bool (pmap R (.int .i64 k)).isSome] else (pmap R (.int .i64 k)).getD (.int .i64 0)) = .tuple #[.int .i64 x, .bool true] := by rw [hf]; rfl
        have Hr := Lib.hid hr
        have Hu := Lib.hid hu
        clear hr hu hf
        go_wp2_with (first
          | ((with_reducible refine gate_lk Try.prog (t := 65) rfl ?_); (refine wpList_lookup_is HMk.out (kv := .int .i64 k) (r := .tuple #[.int .i64 x, .bool true]) Try.underlying65 Try.underlying3 ?_ ?_ ?_ (zero3 _) ?_ ?_); rfl; rfl; exact (show MapKept.IsKey (.int .i64) (.int .i64 k) from rfl); exact Hr.out)
          | (at_builtin; (refine append_pair (B := w1.heap.size) (w0 := w1) (g := wo.heap.size) (l := upto R k) (p := k) (q := x) (hown.alloc _) (hB.alloc hB.size _) rfl rfl (heap_alloc_new wo _) (by omega) (by rw [World.size_alloc]; have := hB.size; omega) ?_); intro v' w' hown' hB'))
        go_roundw
        case rel => exact ⟨k + 1, by omega, by go_num, by rw [Hu.out]; simp; omega, by rw [Hu.out]; exact hown', hB'⟩
        case measure => simp [intOf]; omega
    · go_wp2
      go_ret
      have e : upto R k = R := upto_all R k (fun p hp => by obtain ⟨s, h1, _, h2, _⟩ := Hmem.out p hp; omega)
      rw [e] at hown
      refine ⟨_, rfl, by rw [HR.out]; exact own_more hown (HB.out.size), HB.out.trans (hB.mono HB.out.size)⟩
end Go.Proofs.Ytlppbalnjogkoaa
