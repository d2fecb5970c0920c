/- The first place of a text in another, and replacing: the walks of zzIndex, zzContains and zzReplaceAll of the package pub-pinstripe/pub/gopretty/text. Texts of at most 2^40 bytes, and what is made of them. -/
import Derived.Test.YtimdmdjkkgdohaaGreatDoorProg
import Derived.Test.YtimdmdjkkgdohaaGreatDoorBase
import Derived.Test.YtimdmdjkkgdohaaGreatDoorTxt
import Derived.WalkKit
import Derived.Handy
import Derived.Lib.AppendStr
import Derived.Laws.OwnMore
import Derived.WalkLawsBesides
namespace Go.Proofs.YtimdmdjkkgdohaaGreatDoor
open Go.RowKit
set_option linter.unusedVariables false
set_option maxHeartbeats 1000000 in
set_option maxRecDepth 100000 in
theorem index_T (s sub : ByteArray) (w : World) (hs : s.size ≤ 1099511627776) (hb : sub.size ≤ 1099511627776) :
    Calls Tryz.prog 63 #[.string s, .string sub] w fun e w' => e = .returned (.int .i64 (zidx s sub)) ∧ w = w' := by
  have hz := Lib.hid (Lib.size_eq s)
  have hzb := Lib.hid (Lib.size_eq sub)
  go_enter Tryz.func63, Tryz.ntmps63
  go_wp2_with fail
  go_loop [5] (fun i => ∃ k : Nat, k ≤ s.size ∧ i = .int .i64 k ∧ Hid (idx sub.data.toList s.data.toList = (idx sub.data.toList (s.data.toList.drop k)).map (· + k))) (fun i => s.size + 1 - (intOf i).toNat)
  case atStart => exact ⟨0, Nat.zero_le _, rfl, Lib.hid (by simp)⟩
  case round =>
    obtain ⟨k, hk, rfl, hf⟩ := hrel
    by_cases hlt : k + sub.size ≤ s.size
    · have g1 : decide ((k : Int) + (sub.size : Int) ≤ (s.size : Int)) = true := by simp; omega
      have tb := take_beq s sub k
      have hsl := slice_str (P := Tryz.prog) Tryz.underlying9 s (k : Int) ((k : Int) + (sub.size : Int)) k (k + sub.size) rfl (by simp) (by omega) hlt w
      by_cases hp : sub.data.toList.isPrefixOf (s.data.toList.drop k) = true
      · rw [hp] at tb
        have hi := idx_hit _ _ hp
        have Hi := Lib.hid (zidx_some (s := s) (sub := sub) (n := k) (by rw [hf.out, hi]; simp))
        clear hi hp
        go_wp2
        go_ret
        exact ⟨ret_i64 Hi.out.symm, rfl⟩
      · have hp' : sub.data.toList.isPrefixOf (s.data.toList.drop k) = false := Bool.eq_false_iff.2 hp
        rw [hp'] at tb
        have hlt2 : k < s.size := by
          rcases Nat.lt_or_ge k s.size with h | h
          · exact h
          · exfalso
            have h0 : sub.size = 0 := by omega
            have e0 : sub.data.toList = [] := List.eq_nil_of_length_eq_zero (by rw [← hzb.out]; exact h0)
            rw [e0] at hp
            exact hp (by simp)
        have Hf := Lib.hid (show idx sub.data.toList s.data.toList = (idx sub.data.toList (s.data.toList.drop (k + 1))).map (· + (k + 1)) by
          rw [hf.out, idx_step _ _ _ (by rw [← hz.out]; exact hlt2) hp, Option.map_map]
          congr 1
          funext x
          simp; omega)
        clear hp hp'
        go_wp2
        go_round
        case rel => exact ⟨k + 1, by omega, by go_num, Hf⟩
        case measure => simp [intOf]; omega
    · have g1 : decide ((k : Int) + (sub.size : Int) ≤ (s.size : Int)) = false := by simp; omega
      have Hi := Lib.hid (zidx_none (s := s) (sub := sub) (by
        rw [hf.out, idx_long _ _ (by rw [List.length_drop, ← hz.out, ← hzb.out]; omega)]; rfl))
      go_wp2
      go_ret
      exact ⟨ret_i64 Hi.out.symm, rfl⟩
end Go.Proofs.YtimdmdjkkgdohaaGreatDoor
