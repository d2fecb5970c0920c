/- Lists of calls of a cache: what they do, one after the other; whether they are few; the reference's cache made, and one call made of it. No conditions. -/
import Derived.Test.YtnggdeggcflodaaLr13
import Derived.Test.YtnggdeggcflodaaRecs
namespace Go.Proofs.Ytnggdeggcflodaa
open Go.RowKit Go.MapKept
set_option linter.unusedVariables false
abbrev Op3 := Int × Int × Int
def opRow (o : Op3) : List Value := [.int .i64 o.1, .int .i64 o.2.1, .int .i64 o.2.2]
def runE (n : Nat) (l : List Op3) : List (Int × Int) := l.foldl (fun E o => stepE n o.1 o.2.1 o.2.2 E) []
theorem runE_snoc (n : Nat) (l : List Op3) (o : Op3) : runE n (l ++ [o]) = stepE n o.1 o.2.1 o.2.2 (runE n l) := by simp [runE]
theorem runE_take (n : Nat) (l : List Op3) (q : Nat) (hq : q < l.length) : runE n (l.take (q + 1)) = stepE n l[q].1 l[q].2.1 l[q].2.2 (runE n (l.take q)) := by
  rw [List.take_succ_eq_append_getElem hq, runE_snoc]
/-- Calls that lie below block B. -/
def OpArg (w : World) (B : Nat) (A : Option Addr) (n cap : Nat) (l : List Op3) : Prop := Recs w B 3 A n (l.map opRow) ∧ n ≤ cap ∧ cap ≤ maxLen
theorem OpArg.len {w : World} {B n cap : Nat} {A : Option Addr} {l : List Op3} (h : OpArg w B A n cap l) : l.length = n := by have := h.1.1; simpa using this
theorem OpArg.below {w w' : World} {B n cap : Nat} {A : Option Addr} {l : List Op3} (h : OpArg w B A n cap l) (hb : Below B w w') : OpArg w' B A n cap l := ⟨h.1.below hb, h.2⟩
theorem OpArg.at_ {w : World} {B n cap : Nat} {A : Option Addr} {l : List Op3} (h : OpArg w B A n cap l) {q : Nat} (hq : q < n) (hl : q < l.length) :
    ∃ b o, A = some ⟨b, o, none⟩ ∧ b < B ∧ w.cell? ⟨b, o + q * 3, none⟩ = some (.int .i64 l[q].1) ∧ w.cell? ⟨b, o + q * 3 + 1, none⟩ = some (.int .i64 l[q].2.1) ∧ w.cell? ⟨b, o + q * 3 + 2, none⟩ = some (.int .i64 l[q].2.2) := by
  obtain ⟨b, o, rfl, hb, hc⟩ := h.1.2.2 (by omega)
  have hr : (l.map opRow)[q]? = some (opRow l[q]) := by rw [List.getElem?_map, List.getElem?_eq_getElem hl]; rfl
  exact ⟨b, o, rfl, hb, hc q _ hr 0 _ rfl, hc q _ hr 1 _ rfl, hc q _ hr 2 _ rfl⟩
def Few (l : List Op3) : Prop := ∀ o ∈ l, 0 ≤ o.1 ∧ o.1 ≤ 8
def FewRet (l : List Op3) (w : World) (e : Ending) (w' : World) : Prop := w = w' ∧ ∃ b, e = .returned (.bool b) ∧ (b = true → Few l)
set_option maxHeartbeats 2000000 in
set_option maxRecDepth 100000 in
theorem few_any (B : Nat) (A : Option Addr) (n cap : Nat) (l : List Op3) (w : World) (h : OpArg w B A n cap l) :
    Calls Try.prog 4 #[.slice A n cap] w (FewRet l w) := by
  have hl := h.len
  have hc1 := h.2.1
  have hc2 := h.2.2
  unfold maxLen at hc2
  go_enter Try.func4, Try.ntmps4
  by_cases hn : n ≤ 2000
  · have d0 : decide ((2000 : Int) < (n : Int)) = false := decide_eq_false (by omega)
    have HL := Lib.hid hl
    have HH := Lib.hid h
    clear hl h
    go_wp2_with fail
    go_loop [3] (fun i => ∃ q : Nat, q ≤ n ∧ i = .int .i64 q ∧ Hid (Few (l.take q))) (fun i => n - (intOf i).toNat)
    case atStart => exact ⟨0, Nat.zero_le _, rfl, Lib.hid fun o ho => by simp at ho⟩
    case round =>
      obtain ⟨q, hq, rfl, HQ⟩ := hrel
      by_cases hlt : q < n
      · have hlq : q < l.length := by have := HL.out; omega
        obtain ⟨b, o, rfl, hb, k0, _, _⟩ := HH.out.at_ hlt hlq
        have HN := Lib.hid (show 0 ≤ l[q].1 ∧ l[q].1 ≤ 8 → Few (l.take (q + 1)) from fun hd o ho => by
          rw [List.take_succ_eq_append_getElem hlq] at ho
          rcases List.mem_append.1 ho with ho | ho
          · exact HQ.out o ho
          · simp at ho
            subst ho
            exact hd)
        generalize l[q].1 = d at *
        have hix : (q : Int) < (n : Int) := by omega
        by_cases h1 : d < 0
        · have e1 : decide (d < 0) = true := decide_eq_true h1
          clear HN HQ h1
          go_wp2_with fail
          go_ret
          exact ⟨rfl, false, rfl, fun h => by cases h⟩
        · have e1 : decide (d < 0) = false := decide_eq_false h1
          by_cases h2 : 8 < d
          · have e2 : decide (8 < d) = true := decide_eq_true h2
            clear HN HQ h1 h2
            go_wp2_with fail
            go_ret
            exact ⟨rfl, false, rfl, fun h => by cases h⟩
          · have e2 : decide (8 < d) = false := decide_eq_false h2
            have HN2 := Lib.hid (HN.out ⟨by omega, by omega⟩)
            clear HN HQ h1 h2
            go_wp2_with fail
            go_round
            case rel => exact ⟨q + 1, by omega, by go_num, HN2⟩
            case measure => simp [intOf]; omega
      · have hix : (n : Int) ≤ (q : Int) := by omega
        have HN := Lib.hid (show Few l from fun o ho => HQ.out o (by rw [List.take_of_length_le (by have := HL.out; omega)]; exact ho))
        clear HQ
        go_wp2_with fail
        go_ret
        exact ⟨rfl, true, rfl, fun _ => HN.out⟩
  · have d0 : decide ((2000 : Int) < (n : Int)) = true := decide_eq_true (by omega)
    clear h
    go_wp2_with fail
    go_ret
    exact ⟨rfl, false, rfl, fun h => by cases h⟩
theorem step_any (B cb n : Nat) (E : List (Int × Int)) (d k v : Int) (w : World) (h : Spc w B cb n E) (h0 : 0 ≤ d) (h8 : d ≤ 8) :
    Calls Try.prog 6 #[.pointer (some ⟨cb, 0, none⟩), .agg #[.int .i64 d, .int .i64 k, .int .i64 v]] w (StepRet B cb n (stepE n d k v E) w) := by
  have : d = 0 ∨ d = 1 ∨ d = 2 ∨ d = 3 ∨ d = 4 ∨ d = 5 ∨ d = 6 ∨ d = 7 ∨ d = 8 := by omega
  rcases this with rfl | rfl | rfl | rfl | rfl | rfl | rfl | rfl | rfl
  · exact step_0 B cb n E k v w h
  · exact step_1 B cb n E k v w h
  · exact step_2 B cb n E k v w h
  · exact step_3 B cb n E k v w h
  · exact step_4 B cb n E k v w h
  · exact step_5 B cb n E k v w h
  · exact step_6 B cb n E k v w h
  · exact step_7 B cb n E k v w h
  · exact step_8 B cb n E k v w h
def MadeRet (n : Nat) (w : World) (e : Ending) (w' : World) : Prop := ∃ cb, e = .returned (.tuple #[.pointer (some ⟨cb, 0, none⟩), .bool true]) ∧ Spc w' w.heap.size cb n [] ∧ Below w.heap.size w w'
set_option maxHeartbeats 1000000 in
set_option maxRecDepth 100000 in
theorem made_any (n : Nat) (w : World) (h1 : 1 ≤ n) (h2 : n ≤ 100000) : Calls Try.prog 5 #[.int .i64 n] w (MadeRet n w) := by
  have e0 : decide (n = 0) = false := decide_eq_false (by omega)
  have e1 : min (n : Int) 100000 = n := by omega
  go_enter Try.func5, Try.ntmps5
  go_wp2
  go_ret2
  refine ⟨w.heap.size, rfl, ⟨.slice none 0 0, 0, 0, ⟨?_, World.ownsRow_nil _ _ _ _, Nat.le_refl _⟩, List.nodup_nil, Nat.zero_le _, h1, h2⟩, (Below.refl _ _).alloc (Nat.le_refl _) _⟩
  exact Blk.new w tS _
end Go.Proofs.Ytnggdeggcflodaa
