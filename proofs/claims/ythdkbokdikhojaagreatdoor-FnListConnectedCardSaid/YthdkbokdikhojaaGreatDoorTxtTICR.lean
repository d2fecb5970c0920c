/- The first place of a text in another, and replacing: the walks of zzIndex, zzContains and zzReplaceAll of the package pub-pinstripe/pub/gopretty/text. Texts of at most 2^40 bytes, and what is made of them. -/
import Derived.Test.YthdkbokdikhojaaGreatDoorProg
import Derived.Test.YthdkbokdikhojaaGreatDoorBase
import Derived.Test.YthdkbokdikhojaaGreatDoorTxt
import Derived.WalkKit
import Derived.Handy
import Derived.Lib.AppendStr
import Derived.Laws.OwnMore
import Derived.WalkLawsBesides
namespace Go.Proofs.YthdkbokdikhojaaGreatDoor
open Go.RowKit
set_option linter.unusedVariables false
set_option maxHeartbeats 1000000 in
set_option maxRecDepth 100000 in
theorem index_T (s sub : ByteArray) (w : World) (hs : s.size ≤ 1099511627776) (hb : sub.size ≤ 1099511627776) :
    Calls Tryz.prog 95 #[.string s, .string sub] w fun e w' => e = .returned (.int .i64 (zidx s sub)) ∧ w = w' := by
  have hz := Lib.hid (Lib.size_eq s)
  have hzb := Lib.hid (Lib.size_eq sub)
  go_enter Tryz.func95, Tryz.ntmps95
  go_wp2_with fail
  go_loop [5] (fun i => ∃ k : Nat, k ≤ s.size ∧ i = .int .i64 k ∧ Hid (idx sub.data.toList s.data.toList = (idx sub.data.toList (s.data.toList.drop k)).map (· + k))) (fun i => s.size + 1 - (intOf i).toNat)
  case atStart => exact ⟨0, Nat.zero_le _, rfl, Lib.hid (by simp)⟩
  case round =>
    obtain ⟨k, hk, rfl, hf⟩ := hrel
    by_cases hlt : k + sub.size ≤ s.size
    · have g1 : decide ((k : Int) + (sub.size : Int) ≤ (s.size : Int)) = true := by simp; omega
      have tb := take_beq s sub k
      have hsl := slice_str (P := Tryz.prog) Tryz.underlying9 s (k : Int) ((k : Int) + (sub.size : Int)) k (k + sub.size) rfl (by simp) (by omega) hlt w
      by_cases hp : sub.data.toList.isPrefixOf (s.data.toList.drop k) = true
      · rw [hp] at tb
        have hi := idx_hit _ _ hp
        have Hi := Lib.hid (zidx_some (s := s) (sub := sub) (n := k) (by rw [hf.out, hi]; simp))
        clear hi hp
        go_wp2
        go_ret
        exact ⟨ret_i64 Hi.out.symm, rfl⟩
      · have hp' : sub.data.toList.isPrefixOf (s.data.toList.drop k) = false := Bool.eq_false_iff.2 hp
        rw [hp'] at tb
        have hlt2 : k < s.size := by
          rcases Nat.lt_or_ge k s.size with h | h
          · exact h
          · exfalso
            have h0 : sub.size = 0 := by omega
            have e0 : sub.data.toList = [] := List.eq_nil_of_length_eq_zero (by rw [← hzb.out]; exact h0)
            rw [e0] at hp
            exact hp (by simp)
        have Hf := Lib.hid (show idx sub.data.toList s.data.toList = (idx sub.data.toList (s.data.toList.drop (k + 1))).map (· + (k + 1)) by
          rw [hf.out, idx_step _ _ _ (by rw [← hz.out]; exact hlt2) hp, Option.map_map]
          congr 1
          funext x
          simp; omega)
        clear hp hp'
        go_wp2
        go_round
        case rel => exact ⟨k + 1, by omega, by go_num, Hf⟩
        case measure => simp [intOf]; omega
    · have g1 : decide ((k : Int) + (sub.size : Int) ≤ (s.size : Int)) = false := by simp; omega
      have Hi := Lib.hid (zidx_none (s := s) (sub := sub) (by
        rw [hf.out, idx_long _ _ (by rw [List.length_drop, ← hz.out, ← hzb.out]; omega)]; rfl))
      go_wp2
      go_ret
      exact ⟨ret_i64 Hi.out.symm, rfl⟩
theorem contains_T (s sub : ByteArray) (w : World) (hs : s.size ≤ 1099511627776) (hb : sub.size ≤ 1099511627776) :
    Calls Tryz.prog 80 #[.string s, .string sub] w fun e w' => e = .returned (.bool (idx sub.data.toList s.data.toList).isSome) ∧ w = w' := by
  have H := Lib.hid (index_T s sub w hs hb)
  cases hi : idx sub.data.toList s.data.toList with
  | none =>
    have hz := zidx_none hi
    rw [hz] at H
    clear hz hi
    go_enter Tryz.func80, Tryz.ntmps80
    go_wp2_with (go_at_call 95; refine H.out.mono ?_; rintro e w' ⟨rfl, rfl⟩)
    go_ret
    exact ⟨rfl, rfl⟩
  | some n =>
    have hz := zidx_some hi
    rw [hz] at H
    clear hz hi
    go_enter Tryz.func80, Tryz.ntmps80
    go_wp2_with (go_at_call 95; refine H.out.mono ?_; rintro e w' ⟨rfl, rfl⟩)
    go_ret
    exact ⟨rfl, rfl⟩
theorem halt_T {p : Prop} (h : Hid p) : p := h
theorem resume_T {p : Prop} (h : p) : Hid p := h
theorem infoByte_T : (Tryz.prog.info? 5).map (fun i => (i.zero, i.size, i.bytes)) = some (some (.int .u8 0), 1, 1) := by kernel_rfl
set_option maxHeartbeats 4000000 in
set_option maxRecDepth 100000 in
theorem replace_T (s old new : ByteArray) (w : World) (ho : 0 < old.size) (ho2 : old.size ≤ 1000) (hb : s.size * (new.size + 1) ≤ 1099511627776) :
    Calls Tryz.prog 79 #[.string s, .string old, .string new] w fun e w' => e = .returned (.string ⟨(rep old.data.toList new.data.toList s.data.toList).toArray⟩) ∧ Below w.heap.size w w' := by
  obtain ⟨i0, hi, hz0, hz1, hz2⟩ := info_parts infoByte_T
  have hso : s.size ≤ s.size * (new.size + 1) := Nat.le_mul_of_pos_right _ (by omega)
  have g0' : ((old.size : Int) == 0) = false := by rw [beq_eq_false_iff_ne]; omega
  generalize hM : s.size * (new.size + 1) = M at hb hso
  have HM := Lib.hid hM
  clear hM
  have hzo := Lib.hid (Lib.size_eq old)
  have hzs := Lib.hid (Lib.size_eq s)
  have hzn := Lib.hid (Lib.size_eq new)
  go_enter Tryz.func79, Tryz.ntmps79
  go_wp2_with fail
  go_loopw [0, 7] (fun sv v wr => ∃ (sc : ByteArray) (out : List UInt8) (f : Nat), sv = .string sc ∧ sc.size ≤ s.size ∧ sc.size ≤ f ∧ Hid (out.length + sc.size * (new.size + 1) ≤ M) ∧ out.length + sc.size ≤ M ∧ Hid (rep old.data.toList new.data.toList s.data.toList = out ++ repF old.data.toList new.data.toList f sc.data.toList) ∧
      wr.ownsRow w.heap.size 5 1 v out.length (bcells out) ∧ Hid (Below w.heap.size w wr)) (fun sv _ _ => (strOf sv).size)
  case atStart => exact ⟨s, [], s.size, rfl, Nat.le_refl _, Nat.le_refl _, Lib.hid (by rw [HM.out]; simp), by simpa using hso, Lib.hid (by rw [hzs.out]; rfl), World.ownsRow_nil _ _ _ _, Lib.hid (Below.refl _ _)⟩
  case round =>
    obtain ⟨sc, out, f, rfl, hsc, hf, hlen, hlen1, hrep, hown, HB⟩ := hrel
    obtain ⟨wo, rfl⟩ : ∃ wo : World, wo = wr := ⟨_, rfl⟩
    have Hx := Lib.hid (index_T sc old wo (by omega) (by omega))
    have hzc := Lib.hid (Lib.size_eq sc)
    have hBs := HB.out.size
    cases hix : idx old.data.toList sc.data.toList with
    | none =>
      rw [zidx_none hix] at Hx
      have Hrep := Lib.hid (show rep old.data.toList new.data.toList s.data.toList = out ++ sc.data.toList by rw [hrep.out, repF_none _ _ _ _ hix])
      clear hix hrep
      have b1 : out.length + sc.size ≤ maxLen := by unfold maxLen; omega
      have b2 : out.length + sc.size ≤ 140737488355328 := by omega
      go_wp2_with (first
        | (go_at_call 95; refine Hx.out.mono ?_; rintro e w' ⟨rfl, rfl⟩)
        | (at_builtin; refine halt_T ?_))
      refine resume_T ?_
      refine Lib.wpList_append_own_string _ rfl _ _ 57 9 rfl w.heap.size 5 i0 Tryz.underlying57 Tryz.underlying9 hi hz0 hz1 hz2 _ _ _ rfl hown sc rfl b1 b2 hBs ?_
      intro v' w1 hown1 hgrow _
      rw [bcells_str, ← bcells_append, show out.length + sc.size = (out ++ sc.data.toList).length by rw [List.length_append, ← hzc.out]] at hown1
      have hcv : (convert 57 9 v').run Tryz.prog w1 = .ok (.string ⟨(out ++ sc.data.toList).toArray⟩) w1 := conv_own Tryz.underlying57 Tryz.underlying5 Tryz.underlying9 hown1
      have HB1 := Lib.hid (HB.out.grown hgrow hBs (fun k hk => (hown.lt k hk).1))
      clear hown1 hgrow
      go_wp2
      go_ret
      exact ⟨ret_str (by rw [Hrep.out]), HB1.out⟩
    | some n =>
      rw [zidx_some hix] at Hx
      obtain ⟨hn1, hn2⟩ := idx_some _ _ _ hix
      rw [← hzc.out, ← hzo.out] at hn1
      obtain ⟨f', rfl⟩ : ∃ f', f = f' + 1 := ⟨f - 1, by omega⟩
      have hs2 : (sc.extract (n + old.size) sc.size).size = sc.size - (n + old.size) := by
        rw [Lib.size_eq, Lib.extract_data, List.length_take, List.length_drop, ← hzc.out]; omega
      have hs1 : (sc.extract 0 n).size = n := by
        rw [Lib.size_eq, Lib.extract_data, List.length_take, List.length_drop, ← hzc.out]; omega
      have d1 : (sc.extract 0 n).data.toList = sc.data.toList.take n := by rw [Lib.extract_data]; simp
      have d2 : (sc.extract (n + old.size) sc.size).data.toList = sc.data.toList.drop (n + old.size) := by
        rw [Lib.extract_data, List.take_of_length_le (by rw [List.length_drop, ← hzc.out]; omega)]
      have Hrep := Lib.hid (show rep old.data.toList new.data.toList s.data.toList = (out ++ sc.data.toList.take n ++ new.data.toList) ++ repF old.data.toList new.data.toList f' (sc.extract (n + old.size) sc.size).data.toList by
        rw [hrep.out, repF_some _ _ _ _ _ hix, d2, ← hzo.out]; simp [List.append_assoc])
      have Hout : out.length + n + new.size + (sc.size - (n + old.size)) * (new.size + 1) ≤ M := by
        have h1 := hlen.out
        have h2 : sc.size = (sc.size - (n + old.size)) + (n + old.size) := by omega
        rw [h2, Nat.add_mul] at h1
        have h3 : (n + old.size) * (new.size + 1) = n * new.size + n + old.size * new.size + old.size := by
          rw [Nat.add_mul, Nat.mul_add, Nat.mul_add]; omega
        have h4 : new.size ≤ old.size * new.size := Nat.le_mul_of_pos_left _ ho
        omega
      have h5 : sc.size - (n + old.size) ≤ (sc.size - (n + old.size)) * (new.size + 1) := Nat.le_mul_of_pos_right _ (by omega)
      have hoM : out.length + n + new.size + (sc.size - (n + old.size)) ≤ M := by omega
      have HO := Lib.hid Hout
      have Hd1 := Lib.hid d1
      have Hs1 := Lib.hid hs1
      have Hs2 := Lib.hid hs2
      clear hix hrep d2 Hout h5 d1 hs2 hs1 hn2
      have b1 : out.length + (sc.extract 0 n).size ≤ maxLen := by unfold maxLen; rw [Hs1.out]; omega
      have b2 : out.length + (sc.extract 0 n).size ≤ 140737488355328 := by rw [Hs1.out]; omega
      have hsA := fun W => slice_str_hi (P := Tryz.prog) Tryz.underlying9 sc (n : Int) n rfl (by omega) W
      have hsB := fun W => slice_str_lo (P := Tryz.prog) Tryz.underlying9 sc ((n : Int) + (old.size : Int)) (n + old.size) (by simp) (by omega) W
      go_wp2_with (first
        | (go_at_call 95; refine Hx.out.mono ?_; rintro e w' ⟨rfl, rfl⟩)
        | (at_builtin; refine Lib.wpList_append_own_string (o := ⟨some 58, _, _, _, _, _⟩) _ rfl (.tmp 54) (.tmp 57) 57 9 rfl w.heap.size 5 i0 Tryz.underlying57 Tryz.underlying9 hi hz0 hz1 hz2 _ _ _ rfl hown (sc.extract 0 n) rfl b1 b2 hBs ?_
           intro v' w1 hown1 hgrow _
           rw [bcells_str, ← bcells_append, Hd1.out, show out.length + (sc.extract 0 n).size = (out ++ sc.data.toList.take n).length by rw [List.length_append, ← Hd1.out, ← Lib.size_eq]] at hown1
           have HB1 := Lib.hid (HB.out.grown hgrow hBs (fun k hk => (hown.lt k hk).1))
           have hBs1 := HB1.out.size
           have hL1 : (out ++ sc.data.toList.take n).length = out.length + n := by rw [List.length_append, ← Hd1.out, ← Lib.size_eq, Hs1.out]
           have b3 : (out ++ sc.data.toList.take n).length + new.size ≤ maxLen := by unfold maxLen; rw [hL1]; omega
           have b4 : (out ++ sc.data.toList.take n).length + new.size ≤ 140737488355328 := by rw [hL1]; omega
           have HL1 := Lib.hid hL1
           clear hgrow hL1)
        | (at_builtin; refine Lib.wpList_append_own_string (o := ⟨some 60, _, _, _, _, _⟩) _ rfl (.tmp 58) (.tmp 59) 57 9 rfl w.heap.size 5 i0 Tryz.underlying57 Tryz.underlying9 hi hz0 hz1 hz2 _ _ _ rfl hown1 new rfl b3 b4 hBs1 ?_
           intro v2 w2 hown2 hgrow2 _
           rw [bcells_str, ← bcells_append, show (out ++ sc.data.toList.take n).length + new.size = (out ++ sc.data.toList.take n ++ new.data.toList).length by rw [List.length_append (bs := new.data.toList), ← hzn.out]] at hown2
           have HB2 := Lib.hid (HB1.out.grown hgrow2 hBs1 (fun k hk => (hown1.lt k hk).1))
           clear hgrow2))
      go_roundw
      case rel =>
        refine ⟨sc.extract (n + old.size) sc.size, out ++ sc.data.toList.take n ++ new.data.toList, f', rfl, by rw [Hs2.out]; omega, by rw [Hs2.out]; omega, Lib.hid ?_, ?_, Hrep, hown2, HB2⟩
        · rw [List.length_append (bs := new.data.toList), HL1.out, Hs2.out, ← hzn.out]; exact HO.out
        · rw [List.length_append (bs := new.data.toList), HL1.out, Hs2.out, ← hzn.out]; exact hoM
      case measure => simp [strOf]; omega
end Go.Proofs.YthdkbokdikhojaaGreatDoor
