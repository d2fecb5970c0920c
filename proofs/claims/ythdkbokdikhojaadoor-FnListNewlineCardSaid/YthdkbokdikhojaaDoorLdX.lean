/- A list as the reference draws it: LsDrawn, lsTop; that the package draws the same. -/
import Derived.Test.YthdkbokdikhojaaDoorLdW
import Derived.Test.YthdkbokdikhojaaDoorLsM
namespace Go.Proofs.YthdkbokdikhojaaDoor
open Go.RowKit
set_option linter.unusedVariables false
def topP (l : List (ByteArray × Int)) (n : Nat) : Prop := n = 1 ∨ (1 < n ∧ more 0 ((lvs l).drop 1) = true)
set_option maxHeartbeats 1000000 in
set_option maxRecDepth 100000 in
theorem lsTop_any (A : Option Addr) (n cap : Nat) (l : List (ByteArray × Int)) (B : Nat) (w : World) (hB : B ≤ w.heap.size) (h : LsArg w B A n cap l) :
    Calls Tryd.prog 8 #[.slice A n cap] w (BoolIff w (topP l n)) := by
  have hm := h.2.2.2
  have hnc := h.2.2.1
  unfold maxLen at hm
  by_cases h1 : n = 1
  · subst h1
    clear h
    go_enter Tryd.func8, Tryd.ntmps8
    go_wp2_with fail
    go_ret
    exact ⟨true, rfl, Below.refl _ _, (fun _ => .inl rfl), (fun _ => rfl)⟩
  · have g1 : ((n : Int) == 1) = false := by rw [beq_eq_false_iff_ne]; omega
    by_cases h2 : 1 < n
    · have HM := Lib.hid (lsMore_any A n cap l 0 0 B w hB h (by omega))
      have HP := Lib.hid (show topP l n ↔ more 0 ((lvs l).drop 1) = true from ⟨fun h => (h.resolve_left h1).2, fun h => .inr ⟨h2, h⟩⟩)
      have g2 : decide ((1 : Int) < (n : Int)) = true := decide_eq_true (by omega)
      rw [show (0 + 1 : Nat) = 1 from rfl] at HM
      clear h h1 h2
      generalize more 0 (List.drop 1 (lvs l)) = M at *
      go_enter Tryd.func8, Tryd.ntmps8
      go_wp2_with (go_at_call 16; refine HM.out.mono ?_; rintro e w1 ⟨rfl, k1⟩; have K1 := Lib.hid k1; clear k1)
      go_ret
      exact ⟨M, rfl, K1.out, HP.out.symm⟩
    · have g2 : decide ((1 : Int) < (n : Int)) = false := decide_eq_false (by omega)
      have HP := Lib.hid (show ¬ topP l n from fun h => h.elim h1 (fun h => h2 h.1))
      clear h h1 h2
      go_enter Tryd.func8, Tryd.ntmps8
      go_wp2_with fail
      go_ret
      exact ⟨false, rfl, Below.refl _ _, (fun h => by cases h), (fun h => absurd h HP.out)⟩
def drawnW (D : LD) (l : List (ByteArray × Int)) (n : Nat) : Nat → List UInt8
  | 0 => []
  | k + 1 => drawnW D l n k ++ ((if k = 0 then [] else [10]) ++ lineW D l n k)
theorem lineW_len (D : LD) (l : List (ByteArray × Int)) (n k : Nat) (hO : D.ok) (hlv : lv l k ≤ 60) (htx : (tx l k).size ≤ 200) : (lineW D l n k).length ≤ 63000 := by
  have h1 := pfxS_len D hO k (lv l k).toNat
  have h2 := bulW_len D l n k hO
  unfold lineW
  simp only [List.length_append, ← Lib.size_eq, List.length_cons, List.length_nil]
  omega
theorem drawnW_len (D : LD) (l : List (ByteArray × Int)) (n : Nat) (hO : D.ok) (hR : ∀ k, k < n → lv l k ≤ 60 ∧ (tx l k).size ≤ 200) : ∀ k, k ≤ n → (drawnW D l n k).length ≤ 63001 * k
  | 0, _ => by simp [drawnW]
  | k + 1, hk => by
    have ih := drawnW_len D l n hO hR k (by omega)
    obtain ⟨a, b⟩ := hR k (by omega)
    have h1 := lineW_len D l n k hO a b
    have h2 : (if k = 0 then ([] : List UInt8) else [10]).length ≤ 1 := by split <;> simp
    rw [drawnW, List.length_append, List.length_append]
    omega
theorem mkl_size (l : List UInt8) : (⟨l.toArray⟩ : ByteArray).size = l.length := by simp [ByteArray.size]
set_option maxHeartbeats 2000000 in
set_option maxRecDepth 100000 in
theorem lsDrawn_any (D : LD) (A : Option Addr) (n cap : Nat) (l : List (ByteArray × Int)) (B : Nat) (w : World) (hB : B ≤ w.heap.size) (h : LsArg w B A n cap l) (hn : n ≤ 60) (hD : LdIs D l) (hO : D.ok) (hR : ∀ k, k < n → 0 ≤ lv l k ∧ lv l k ≤ 60 ∧ (tx l k).size ≤ 200) :
    Calls Tryd.prog 12 #[.slice A n cap, styD D] w fun e w' => e = .returned (.string ⟨(drawnW D l n n).toArray⟩) ∧ Below w.heap.size w w' := by
  have hm := h.2.2.2
  have hnc := h.2.2.1
  unfold maxLen at hm
  have hBa := (Below.refl w.heap.size w).alloc (Nat.le_refl _) (boxO D)
  have hsz : w.heap.size < (w.alloc (boxO D)).heap.size := by simp
  have hAa := h.below (hBa.mono hB)
  have HLi := Lib.hid (fun (w' : World) (hb : Below (w.alloc (boxO D)).heap.size (w.alloc (boxO D)) w') (k : Nat) (hk : k < n) =>
    lsLine_any D A n cap l k B w' (Nat.le_trans (Nat.le_trans hB (Nat.le_of_lt hsz)) hb.size) (hAa.below (hb.mono (Nat.le_trans hB (Nat.le_of_lt hsz)))) hk hD hO ⟨(hR k hk).1, (hR k hk).2.1⟩ (hR k hk).2.2)
  have HLen := Lib.hid (fun k => drawnW_len D l n hO (fun k hk => (hR k hk).2) k)
  have HLl := Lib.hid (fun k (hk : k < n) => lineW_len D l n k hO (hR k hk).2.1 (hR k hk).2.2)
  have HN := Lib.hid (BxC.new D w)
  have HBa := Lib.hid hBa
  have HS := Lib.hid hsz
  unfold styD at *
  clear h hAa hBa hsz hD hO hR
  go_enter Tryd.func12, Tryd.ntmps12
  generalize hwa : w.alloc (.cells #[.int .i64 0, .string D.s1, .string D.s2, .string D.s3, .string D.s4, .string D.s5, .string D.s6, .string D.s7, .string D.s8] 24) = wa at *
  go_wp2_with fail
  go_loopw [5, 9] (fun ov iv wr => ∃ (k : Nat) (q : ByteArray), k ≤ n ∧ iv = .int .i64 (k : Int) ∧ ov = .string q ∧ q.size ≤ 63001 * k ∧ Hid (q = ⟨(drawnW D l n k).toArray⟩) ∧ Hid (Below wa.heap.size wa wr)) (fun _ iv _ => n - (intOf iv).toNat)
  case atStart => exact ⟨0, ⟨#[]⟩, Nat.zero_le _, rfl, rfl, Nat.le_refl _, Lib.hid rfl, Lib.hid (Below.refl _ _)⟩
  case round =>
    obtain ⟨k, q, hk, rfl, rfl, hqs, hq, HW⟩ := hrel
    obtain ⟨wo, rfl⟩ : ∃ wo : World, wo = wr := ⟨_, rfl⟩
    by_cases hlt : k < n
    · obtain ⟨x0, x1, x2, x3, x4, x5, x6, x7, x8⟩ := HN.out.below HW.out HS.out
      have HC := Lib.hid (HLi.out wo HW.out k hlt)
      have hll := HLl.out k hlt
      have hws := HW.out.size
      have HE := Lib.hid (show drawnW D l n (k + 1) = drawnW D l n k ++ ((if k = 0 then [] else [10]) ++ lineW D l n k) from rfl)
      have hlz : (⟨(lineW D l n k).toArray⟩ : ByteArray).size ≤ 63000 := by rw [mkl_size]; exact hll
      clear hll
      by_cases h0 : k = 0
      · subst h0
        generalize hline : lineW D l n 0 = ln at *
        rw [show ((0 : Nat) : Int) = 0 from rfl] at HC
        go_wp2_with (go_at_call 22; refine HC.out.mono ?_; rintro e w1 ⟨rfl, k1⟩; have K1 := Lib.hid (HW.out.trans (k1.mono hws)); clear k1 x0 x1 x2 x3 x4 x5 x6 x7 x8)
        go_roundw
        case rel => exact ⟨1, _, by omega, rfl, rfl, by rw [ByteArray.size_append]; omega, Lib.hid (by rw [hq.out, HE.out]; exact mk_app _ _ _ (by simp)), K1⟩
        case measure => simp [intOf]; omega
      · have hk0 : 0 < k := by omega
        have H0 := Lib.hid h0
        clear h0
        generalize hline : lineW D l n k = ln at *
        have a1 := add_str q ⟨#[10]⟩ (by show _ + 1 ≤ _; omega)
        have a2 := add_str (q ++ ⟨#[10]⟩) ⟨ln.toArray⟩ (by rw [ByteArray.size_append]; show _ + 1 + _ ≤ _; omega)
        go_wp2_with (go_at_call 22; refine HC.out.mono ?_; rintro e w1 ⟨rfl, k1⟩; have K1 := Lib.hid (HW.out.trans (k1.mono hws)); clear k1 x0 x1 x2 x3 x4 x5 x6 x7 x8)
        go_roundw
        case rel => exact ⟨k + 1, _, by omega, by go_num, rfl, by rw [ByteArray.size_append, ByteArray.size_append]; show _ + 1 + _ ≤ _; omega, Lib.hid (by rw [hq.out, HE.out, if_neg H0.out, mk_app _ ⟨#[10]⟩ _ rfl, mk_app _ _ ln (by simp), List.append_assoc]), K1⟩
        case measure => simp [intOf]; omega
    · have hke : k = n := by omega
      subst hke
      go_wp2_with fail
      go_ret
      exact ⟨ret_str (by rw [hq.out]), HBa.out.trans (HW.out.mono (Nat.le_of_lt HS.out))⟩
end Go.Proofs.YthdkbokdikhojaaDoor
