/- The kinds of letters; joining texts by blanks; reading over rows of texts: the walks of TwKind, TwJoin and zzFits4. Rows of at most 20 texts of at most 20 bytes where a text is made. -/
import Derived.Test.YtebgbeahlodihaaDoorProg
import Derived.Test.YtebgbeahlodihaaDoorBase
import Derived.Test.YtebgbeahlodihaaDoorTxt
import Derived.Test.YtebgbeahlodihaaDoorTpP
import Derived.Test.YtebgbeahlodihaaDoorRow2
import Derived.WalkKit
import Derived.Handy
import Derived.BigQuiet
namespace Go.Proofs.YtebgbeahlodihaaDoor
open Go.RowKit
set_option linter.unusedVariables false
theorem strs_at {w : World} {A : Option Addr} {n cap : Nat} {ss : List ByteArray} (h : Strs w A n cap ss) {k : Nat} (hk : k < n) : ∃ b o, A = some ⟨b, o, none⟩ ∧ b < w.heap.size ∧ w.cell? ⟨b, o + k, none⟩ = some (.string (ss.getD k ByteArray.empty)) ∧ (ss.getD k ByteArray.empty).size ≤ 140737488351232 := by
  obtain ⟨b, o, u, hA, hb, hx, hc⟩ := h.1.at_ hk
  have hl : k < ss.length := by have := h.2.1; omega
  rw [List.getElem?_map, List.getElem?_eq_getElem hl] at hx
  simp only [Option.map_some, Option.some.injEq] at hx
  refine ⟨b, o, hA, hb, ?_, ?_⟩
  · rw [hc, ← hx, List.getD_eq_getElem?_getD, List.getElem?_eq_getElem hl]; rfl
  · rw [List.getD_eq_getElem?_getD, List.getElem?_eq_getElem hl]
    exact h.2.2.2.2.2 _ (List.getElem_mem hl)
def SomeB (w : World) (e : Ending) (w' : World) : Prop := ∃ b : Bool, e = .returned (.bool b) ∧ w = w'
set_option maxHeartbeats 1000000 in
theorem fits4_any (A : Option Addr) (n cap : Nat) (ss : List ByteArray) (w : World) (h : Strs w A n cap ss) : Calls Tryd.prog 8 #[.slice A n cap] w (SomeB w) := by
  have hn := h.2.2.2.2.1
  go_enter Tryd.func8, Tryd.ntmps8
  go_wp2_with fail
  all_goals first
    | (go_ret; exact ⟨_, rfl, rfl⟩)
    | skip
  go_loop [10] (fun i => ∃ k : Nat, k ≤ n ∧ i = .int .i64 k) (fun i => n - (intOf i).toNat)
  case atStart => exact ⟨0, Nat.zero_le _, rfl⟩
  case round =>
    obtain ⟨k, hk, rfl⟩ := hrel
    by_cases hlt : k < n
    · obtain ⟨b, o, rfl, hb, hc, hs⟩ := strs_at h hlt
      clear h
      go_wp2
      · go_ret
        exact ⟨_, rfl, rfl⟩
      · go_round
        case rel => exact ⟨k + 1, by omega, by go_num⟩
        case measure => simp [intOf]; omega
    · go_wp2
      go_ret
      exact ⟨_, rfl, rfl⟩
def kd (c : UInt8) : Int := if 97 ≤ c.toNat ∧ c.toNat ≤ 122 then 0 else if 65 ≤ c.toNat ∧ c.toNat ≤ 90 then 1 else if 48 ≤ c.toNat ∧ c.toNat ≤ 57 then 2 else 3
theorem kd_letter {c : UInt8} (h : kd c ≤ 1) : letter c := by
  unfold kd at h; unfold letter
  split at h
  · right; assumption
  · split at h
    · left; assumption
    · split at h <;> omega
theorem kind_any (c : UInt8) (w : World) : Calls Tryd.prog 9 #[.int .u8 (c.toNat : Int)] w fun e w' => e = .returned (.int .i64 (kd c)) ∧ w = w' := by
  have hb := c.toNat_lt
  have hc : (97 ≤ c.toNat ∧ c.toNat ≤ 122) ∨ (65 ≤ c.toNat ∧ c.toNat ≤ 90) ∨ (48 ≤ c.toNat ∧ c.toNat ≤ 57) ∨ (c.toNat < 48) ∨ (57 < c.toNat ∧ c.toNat < 65) ∨ (90 < c.toNat ∧ c.toNat < 97) ∨ (122 < c.toNat) := by omega
  have key : ∀ v : Int, kd c = v → (e : Ending) → e = .returned (.int .i64 v) → e = .returned (.int .i64 (kd c)) := fun v h e he => by rw [he, h]
  rcases hc with ⟨h1, h2⟩ | ⟨h1, h2⟩ | ⟨h1, h2⟩ | h1 | ⟨h1, h2⟩ | ⟨h1, h2⟩ | h1
  · have e : kd c = 0 := by unfold kd; rw [if_pos ⟨h1, h2⟩]
    rw [e]
    have g1 : decide ((97 : Int) ≤ (c.toNat : Int)) = true := decide_eq_true (by omega)
    have g2 : decide ((c.toNat : Int) ≤ 122) = true := decide_eq_true (by omega)
    clear e h1 h2 hb key
    generalize (c.toNat : Int) = z at *
    go_enter Tryd.func9, Tryd.ntmps9
    go_wp2_with fail
    go_ret
    exact ⟨rfl, rfl⟩
  · have e : kd c = 1 := by unfold kd; rw [if_neg (by omega), if_pos ⟨h1, h2⟩]
    rw [e]
    have g1 : decide ((97 : Int) ≤ (c.toNat : Int)) = false := decide_eq_false (by omega)
    have g2 : decide ((65 : Int) ≤ (c.toNat : Int)) = true := decide_eq_true (by omega)
    have g3 : decide ((c.toNat : Int) ≤ 90) = true := decide_eq_true (by omega)
    clear e h1 h2 hb key
    generalize (c.toNat : Int) = z at *
    go_enter Tryd.func9, Tryd.ntmps9
    go_wp2_with fail
    go_ret
    exact ⟨rfl, rfl⟩
  · have e : kd c = 2 := by unfold kd; rw [if_neg (by omega), if_neg (by omega), if_pos ⟨h1, h2⟩]
    rw [e]
    have g1 : decide ((97 : Int) ≤ (c.toNat : Int)) = false := decide_eq_false (by omega)
    have g2 : decide ((65 : Int) ≤ (c.toNat : Int)) = false := decide_eq_false (by omega)
    have g3 : decide ((48 : Int) ≤ (c.toNat : Int)) = true := decide_eq_true (by omega)
    have g4 : decide ((c.toNat : Int) ≤ 57) = true := decide_eq_true (by omega)
    clear e h1 h2 hb key
    generalize (c.toNat : Int) = z at *
    go_enter Tryd.func9, Tryd.ntmps9
    go_wp2_with fail
    go_ret
    exact ⟨rfl, rfl⟩
  · have e : kd c = 3 := by unfold kd; rw [if_neg (by omega), if_neg (by omega), if_neg (by omega)]
    rw [e]
    have g0 : decide ((97 : Int) ≤ (c.toNat : Int)) = false := decide_eq_false (by omega)
    have g1 : decide ((65 : Int) ≤ (c.toNat : Int)) = false := decide_eq_false (by omega)
    have g2 : decide ((48 : Int) ≤ (c.toNat : Int)) = false := decide_eq_false (by omega)
    clear e h1 hb key
    generalize (c.toNat : Int) = z at *
    go_enter Tryd.func9, Tryd.ntmps9
    go_wp2_with fail
    go_ret
    exact ⟨rfl, rfl⟩
  · have e : kd c = 3 := by unfold kd; rw [if_neg (by omega), if_neg (by omega), if_neg (by omega)]
    rw [e]
    have g0 : decide ((97 : Int) ≤ (c.toNat : Int)) = false := decide_eq_false (by omega)
    have g1 : decide ((65 : Int) ≤ (c.toNat : Int)) = false := decide_eq_false (by omega)
    have g2 : decide ((48 : Int) ≤ (c.toNat : Int)) = true := decide_eq_true (by omega)
    have g3 : decide ((c.toNat : Int) ≤ 57) = false := decide_eq_false (by omega)
    clear e h1 h2 hb key
    generalize (c.toNat : Int) = z at *
    go_enter Tryd.func9, Tryd.ntmps9
    go_wp2_with fail
    go_ret
    exact ⟨rfl, rfl⟩
  · have e : kd c = 3 := by unfold kd; rw [if_neg (by omega), if_neg (by omega), if_neg (by omega)]
    rw [e]
    have g0 : decide ((97 : Int) ≤ (c.toNat : Int)) = false := decide_eq_false (by omega)
    have g1 : decide ((65 : Int) ≤ (c.toNat : Int)) = true := decide_eq_true (by omega)
    have g2 : decide ((c.toNat : Int) ≤ 90) = false := decide_eq_false (by omega)
    have g3 : decide ((48 : Int) ≤ (c.toNat : Int)) = true := decide_eq_true (by omega)
    have g4 : decide ((c.toNat : Int) ≤ 57) = false := decide_eq_false (by omega)
    clear e h1 h2 hb key
    generalize (c.toNat : Int) = z at *
    go_enter Tryd.func9, Tryd.ntmps9
    go_wp2_with fail
    go_ret
    exact ⟨rfl, rfl⟩
  · have e : kd c = 3 := by unfold kd; rw [if_neg (by omega), if_neg (by omega), if_neg (by omega)]
    rw [e]
    have g0 : decide ((97 : Int) ≤ (c.toNat : Int)) = true := decide_eq_true (by omega)
    have g1 : decide ((c.toNat : Int) ≤ 122) = false := decide_eq_false (by omega)
    have g2 : decide ((65 : Int) ≤ (c.toNat : Int)) = true := decide_eq_true (by omega)
    have g3 : decide ((c.toNat : Int) ≤ 90) = false := decide_eq_false (by omega)
    have g4 : decide ((48 : Int) ≤ (c.toNat : Int)) = true := decide_eq_true (by omega)
    have g5 : decide ((c.toNat : Int) ≤ 57) = false := decide_eq_false (by omega)
    clear e h1 hb key
    generalize (c.toNat : Int) = z at *
    go_enter Tryd.func9, Tryd.ntmps9
    go_wp2_with fail
    go_ret
    exact ⟨rfl, rfl⟩
def JoinRet (ls : List (List UInt8)) (w : World) (e : Ending) (w' : World) : Prop := e = .returned (.string ⟨(J32 ls).toArray⟩) ∧ w' = w
theorem app_mk (a b : List UInt8) : (⟨a.toArray⟩ : ByteArray) ++ ⟨b.toArray⟩ = ⟨(a ++ b).toArray⟩ := by
  apply bytes_ext; simp
set_option maxHeartbeats 1000000 in
theorem twJoin_any (a : Option Addr) (cap : Nat) (ls : List (List UInt8)) (w : World) (hl : ls.length ≤ 20) (h20 : ∀ v ∈ ls, v.length ≤ 20) (hs : Seen w a ls) : Calls Tryd.prog 10 #[.slice a ls.length cap, .string ⟨#[32]⟩] w (JoinRet ls w) := by
  have HS := Lib.hid hs
  have H20 := Lib.hid h20
  clear hs h20
  generalize hn : ls.length = n at *
  have HN := Lib.hid hn
  clear hn
  go_enter Tryd.func10, Tryd.ntmps10
  go_wp2_with fail
  go_loop [5, 6] (fun ov iv => ∃ (k : Nat) (o : List UInt8), k ≤ n ∧ iv = .int .i64 (k : Int) ∧ ov = .string ⟨o.toArray⟩ ∧ Hid (J32 (ls.take k) = o) ∧ o.length ≤ 21 * k) (fun _ iv => n - (intOf iv).toNat)
  case atStart => exact ⟨0, [], Nat.zero_le _, rfl, rfl, Lib.hid rfl, Nat.le_refl _⟩
  case round =>
    obtain ⟨k, o, hk, rfl, rfl, ho, hol⟩ := hrel
    by_cases hlt : k < n
    · obtain ⟨g, rfl, hc⟩ := HS.out.cell k (by rw [HN.out]; exact hlt)
      have ht := J32_take ls k (by rw [HN.out]; exact hlt)
      have hvl : (ls.getD k []).length ≤ 20 := by
        have h1 : k < ls.length := by rw [HN.out]; exact hlt
        rw [List.getD_eq_getElem?_getD, List.getElem?_eq_getElem h1]
        exact H20.out _ (List.getElem_mem h1)
      by_cases h0 : k = 0
      · subst h0
        have ho0 : o = [] := by have := ho.out; simp [J32] at this; exact this
        subst ho0
        have HT := Lib.hid (show J32 (ls.take 1) = ls.getD 0 [] by rw [if_pos rfl] at ht; exact ht)
        have hz : (lget ls 0).size = (ls.getD 0 []).length := mk_size _
        have HG := Lib.hid (show lget ls 0 = ⟨(ls.getD 0 []).toArray⟩ from rfl)
        clear ht ho
        generalize lget ls 0 = v at *
        generalize ls.getD 0 [] = vl at *
        have HE := Lib.hid (show (⟨([] : List UInt8).toArray⟩ : ByteArray) ++ v = ⟨vl.toArray⟩ by rw [HG.out]; exact app_mk [] vl)
        go_wp2_with fail
        go_round
        case rel => exact ⟨1, vl, by omega, by go_num, by first | rw [← HE.out] | (rw [← HG.out]; simp), HT, by omega⟩
        case measure => simp [intOf]; omega
      · have HT := Lib.hid (show J32 (ls.take (k + 1)) = o ++ [32] ++ ls.getD k [] by rw [ht, if_neg h0, ho.out])
        have hz : (lget ls k).size = (ls.getD k []).length := mk_size _
        have HG := Lib.hid (show lget ls k = ⟨(ls.getD k []).toArray⟩ from rfl)
        have hos := mk_size o
        have hk0 : decide ((0 : Int) < (k : Int)) = true := decide_eq_true (by omega)
        clear ht ho
        generalize lget ls k = v at *
        generalize ls.getD k [] = vl at *
        have HE := Lib.hid (show (⟨o.toArray⟩ : ByteArray) ++ ⟨#[32]⟩ ++ v = ⟨(o ++ [32] ++ vl).toArray⟩ by rw [HG.out, ← app_mk, ← app_mk])
        go_wp2_with fail
        go_round
        case rel => exact ⟨k + 1, o ++ [32] ++ vl, by omega, by go_num, by rw [← HE.out], HT, by simp; omega⟩
        case measure => simp [intOf]; omega
    · have hkn : k = n := by omega
      have HJ := Lib.hid (show J32 ls = o by have := ho.out; rw [hkn, ← HN.out, List.take_length] at this; exact this)
      clear ho
      subst hkn
      go_wp2_with fail
      go_ret
      exact ⟨by rw [HJ.out]; rfl, rfl⟩
end Go.Proofs.YtebgbeahlodihaaDoor
