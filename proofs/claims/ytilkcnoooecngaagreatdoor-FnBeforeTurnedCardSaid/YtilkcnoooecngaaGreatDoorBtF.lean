/- FormatUint in base 10 and newDecimal, told. Numbers below 2^64. -/
import Derived.Test.YtilkcnoooecngaaGreatDoorBtC
import Derived.Test.YtilkcnoooecngaaGreatDoorBRow
namespace Go.Proofs.YtilkcnoooecngaaGreatDoor
open Go.RowKit
set_option linter.unusedVariables false
/-- The digits of a number, the greatest first. -/
def decD (n : Nat) : List Nat := if n < 10 then [n] else decD (n / 10) ++ [n % 10]
termination_by n
decreasing_by omega
theorem decD_lt {n : Nat} (h : n < 10) : decD n = [n] := by rw [decD, if_pos h]
theorem decD_ge {n : Nat} (h : 10 ≤ n) : decD n = decD (n / 10) ++ [n % 10] := by rw [decD, if_neg (by omega)]
theorem decD_len : ∀ (k n : Nat), n < 10 ^ (k + 1) → (decD n).length ≤ k + 1
  | 0, n, h => by rw [decD_lt (by simpa using h)]; simp
  | k + 1, n, h => by
    by_cases h1 : n < 10
    · rw [decD_lt h1]; simp
    · rw [decD_ge (by omega)]
      have := decD_len k (n / 10) (by rw [Nat.pow_succ] at h; omega)
      simp; omega
theorem vD_snoc (a : List Nat) (d : Nat) : vD (a ++ [d]) = vD a * 10 + d := by
  induction a with
  | nil => simp [vD]
  | cons x a ih => simp only [List.cons_append, vD, ih, List.length_append, List.length_cons, List.length_nil, Nat.zero_add, Nat.pow_succ, Nat.add_mul]; rw [Nat.mul_assoc]; omega
theorem decD_val (n : Nat) : vD (decD n) = n := by
  induction n using Nat.strongRecOn with
  | _ n ih =>
    by_cases h : n < 10
    · rw [decD_lt h]; simp [vD]
    · rw [decD_ge (by omega), vD_snoc, ih _ (by omega)]; omega
theorem decD_dig (n : Nat) : Dig (decD n) := by
  induction n using Nat.strongRecOn with
  | _ n ih =>
    by_cases h : n < 10
    · rw [decD_lt h]; exact Dig.one h
    · rw [decD_ge (by omega)]; exact (ih _ (by omega)).app (Dig.one (by omega))
theorem decD_head (n : Nat) (h0 : 0 < n) : ∃ d t, decD n = d :: t ∧ d ≠ 0 := by
  induction n using Nat.strongRecOn with
  | _ n ih =>
    by_cases h : n < 10
    · rw [decD_lt h]; exact ⟨n, [], rfl, by omega⟩
    · obtain ⟨d, t, e, h1⟩ := ih (n / 10) (by omega) (by omega)
      rw [decD_ge (by omega), e]; exact ⟨d, t ++ [n % 10], rfl, h1⟩
theorem decD_good {n : Nat} (h : 0 < n) : Good (decD n) := ⟨decD_dig n, decD_head n h⟩
/-- Digits are written, Q is left. -/
def Wr (n Q : Nat) (ds : List Nat) : Prop := (ds = [] ∧ Q = n) ∨ (ds ≠ [] ∧ decD n = (if Q = 0 then [] else decD Q) ++ ds)
theorem Wr.step {n Q : Nat} {ds : List Nat} (h : Wr n Q ds) (hq : ds = [] ∨ 0 < Q) : Wr n (Q / 10) (Q % 10 :: ds) := by
  refine .inr ⟨by simp, ?_⟩
  have key : decD Q = (if Q / 10 = 0 then [] else decD (Q / 10)) ++ [Q % 10] := by
    by_cases h1 : Q < 10
    · rw [decD_lt h1, if_pos (by omega), show Q % 10 = Q by omega]; rfl
    · rw [decD_ge (by omega), if_neg (by omega)]
  rcases h with ⟨rfl, rfl⟩ | ⟨h1, h2⟩
  · exact key
  · have hq0 : Q ≠ 0 := by
      rcases hq with h | h
      · exact absurd h h1
      · omega
    rw [h2, if_neg hq0, key]; simp
theorem Wr.len {n Q : Nat} {ds : List Nat} (h : Wr n Q ds) (hn : n < 10 ^ 20) (hq : ds = [] ∨ 0 < Q) : ds.length ≤ 19 := by
  rcases h with ⟨rfl, rfl⟩ | ⟨h1, h2⟩
  · simp
  · have hq0 : Q ≠ 0 := by
      rcases hq with h | h
      · exact absurd h h1
      · omega
    have := decD_len 19 n hn
    rw [h2, if_neg hq0, List.length_append] at this
    obtain ⟨d, t, e, _⟩ := decD_head Q (by omega)
    rw [e] at this; simp at this; omega
theorem Wr.fin {n : Nat} {ds : List Nat} (h : Wr n 0 ds) (h0 : ds ≠ []) : ds = decD n := by
  rcases h with ⟨h1, _⟩ | ⟨_, h2⟩
  · exact absurd h1 h0
  · rw [h2]; simp
def dg1 (d : Nat) : UInt8 := UInt8.ofNat (48 + d)
theorem dg1_nat {d : Nat} (h : d < 10) : (dg1 d).toNat = d + 48 := by
  unfold dg1
  rw [UInt8.toNat_ofNat']; omega
def DIG : ByteArray := ⟨#[48, 49, 50, 51, 52, 53, 54, 55, 56, 57, 97, 98, 99, 100, 101, 102, 103, 104, 105, 106, 107, 108, 109, 110, 111, 112, 113, 114, 115, 116, 117, 118, 119, 120, 121, 122]⟩
theorem ixD (d : Nat) (hd : d < 10) (W : World) : (Instr.index 9 (.string DIG) (.int .u64 (d : Int))).run Tryz.prog W = .ok (.int .u8 ((dg1 d).toNat : Int)) W := by
  rw [run_index_string W 9 DIG .u64 (d : Int) Tryz.underlying9, dif_pos ⟨by omega, by rw [show DIG.size = 36 from rfl]; omega⟩]
  have : d = 0 ∨ d = 1 ∨ d = 2 ∨ d = 3 ∨ d = 4 ∨ d = 5 ∨ d = 6 ∨ d = 7 ∨ d = 8 ∨ d = 9 := by omega
  rcases this with rfl | rfl | rfl | rfl | rfl | rfl | rfl | rfl | rfl | rfl <;> rfl
theorem infoU1 : (Tryz.prog.info? tU).map (·.size) = some 1 := by kernel_rfl
def decB (n : Nat) : ByteArray := ⟨((decD n).map dg1).toArray⟩
def FmtRet (n : Nat) (w : World) (e : Ending) (w' : World) : Prop := e = .returned (.string (decB n)) ∧ Below w.heap.size w w'
set_option maxRecDepth 100000 in
theorem conv_digits {W : World} {A cap k : Nat} {t : TypeId} {cs : Array Value} {ds : List UInt8} (h : Blk W A t cs) (hd : cs.toList.drop k = bcells ds) :
    (convert 56 9 (.slice (some ⟨A, k, none⟩) ds.length cap)).run Tryz.prog W = .ok (.string ⟨ds.toArray⟩) W := by
  have := run_convert_bytes_arg (P := Tryz.prog) W 56 5 Tryz.underlying56 Tryz.underlying5 A k ds.length cap (ds.map fun b => (b.toNat : Int)) (by simp) (fun i hi => by
    have h1 : (cs.toList.drop k)[i]? = some (.int .u8 (ds[i].toNat : Int)) := by rw [hd]; simp [bcells, hi]
    rw [List.getElem?_drop] at h1
    rw [h.cell (k + i) (v := .int .u8 (ds[i].toNat : Int)) (by simpa using h1)]
    simp [List.getD_eq_getElem?_getD, hi]) 9 Tryz.underlying9
  rw [this]
  congr 2
  apply WideShapes.bytes_inj
  rw [strOfNums_data]
  simp [Function.comp_def]
abbrev tA : TypeId := 167
theorem sizeU (W : World) : (sizeOf tU).run Tryz.prog W = .ok 1 W := by
  obtain ⟨i, hi1, hi2⟩ := Option.map_eq_some_iff.1 infoU1
  simp [sizeOf, typeInfo, hi1, hi2]
theorem slice64 (W : World) (b I : Nat) (hI : I < 64) : (Instr.sliceAt tA (.pointer (some ⟨b, 0, none⟩)) (some (.int .i64 (I : Int))) none none).run Tryz.prog W = .ok (.slice (some ⟨b, I, none⟩) (64 - I) (64 - I)) W := by
  have hal : Tryz.prog.arrayLen tA = 64 := by kernel_rfl
  have hel : Tryz.prog.elem tA = tU := by kernel_rfl
  rw [run_sliceAt_array_l W tA ⟨b, 0, none⟩ (by rw [hal, hel]; exact Tryz.underlying167) .i64 (I : Int) (by omega) (by rw [hal]; omega), hal, hel, sizeU]
  have hne : 64 ≠ I := by omega
  simp [slicedAt, hne, Result.andThen, Addr.add_lit]
theorem drop_set (cs : Array Value) (J : Nat) (v : Value) (hJ : J < cs.size) (l : List Value) (h : cs.toList.drop (J + 1) = l) : (cs.setIfInBounds J v).toList.drop J = v :: l := by
  rw [Array.toList_setIfInBounds, List.drop_set, if_neg (by omega)]
  rw [Nat.sub_self, List.drop_eq_getElem_cons (by simpa using hJ), List.set_cons_zero, h]
set_option maxHeartbeats 2000000 in
set_option maxRecDepth 100000 in
theorem fmtU_any (n : Nat) (w : World) (hn : n ≤ 18446744073709551615) : Calls Tryz.prog 95 #[.int .u64 (n : Int), .int .i64 10] w (FmtRet n w) := by
  have HN := Lib.hid (show n < 10 ^ 20 by omega)
  have HN64 := Lib.hid hn
  clear hn
  go_enter Tryz.func95, Tryz.ntmps95
  go_wp2_with fail
  go_loopw [0, 6] (fun nv iv wr => ∃ (Q I : Nat) (ds : List Nat) (cs : Array Value), nv = .int .u64 (Q : Int) ∧ iv = .int .i64 (I : Int) ∧ I ≤ 64 ∧ Q ≤ 18446744073709551615 ∧ Hid (I + ds.length = 64) ∧ Hid (Wr n Q ds) ∧ Hid (Blk wr w.heap.size tA cs) ∧ Hid (cs.size = 64) ∧ Hid (cs.toList.drop I = bcells (ds.map dg1)) ∧ Hid (Below w.heap.size w wr)) (fun _ iv _ => (intOf iv).toNat)
  case atStart => exact ⟨n, 64, [], _, rfl, rfl, by omega, HN64.out, Lib.hid rfl, Lib.hid (.inl ⟨rfl, rfl⟩), Lib.hid (Blk.new w tA _), Lib.hid rfl, Lib.hid rfl, Lib.hid ((Below.refl _ w).alloc (Nat.le_refl _) _)⟩
  case round =>
    obtain ⟨Q, I, ds, cs, rfl, rfl, hI, hQ, HIK, HD, HBk, HCs, HDr, HB⟩ := hrel
    obtain ⟨wr, rfl⟩ : ∃ wz : World, wz = wr := ⟨_, rfl⟩
    obtain ⟨d, hd⟩ : ∃ d, Q % 10 = d := ⟨_, rfl⟩
    obtain ⟨q, hq⟩ : ∃ q, Q / 10 = q := ⟨_, rfl⟩
    have hdI : (Q : Int) % 10 = (d : Int) := by omega
    have hqI : (Q : Int) / 10 = (q : Int) := by omega
    have hd10 : d < 10 := by omega
    have hq9 : q ≤ 18446744073709551615 := by omega
    have hix := ixD d hd10
    unfold DIG at hix
    have hA := HBk.out.lt
    have HDq := Lib.hid (And.intro hd hq)
    clear hd hq
    by_cases hk : I = 64
    · subst hk
      have HE := Lib.hid (show ds = [] from List.eq_nil_of_length_eq_zero (by have := HIK.out; omega))
      have HS := Lib.hid (HD.out.step (.inl HE.out))
      clear hI
      go_wp2_with ((with_reducible refine gate_st (t := 5) rfl ?_); refine halt_L ?_)
      refine resume_L ?_
      refine wpList_put HBk.out (o := 63) (v := .int .u8 ((dg1 d).toNat : Int)) (by rw [HCs.out]; decide) rfl rfl rfl infoU1 ?_
      intro w2 hb2 p2
      have HB2 := Lib.hid (p2.below HB.out HB.out.size (Nat.le_refl _))
      have HBk2 := Lib.hid hb2
      clear hb2 p2
      go_wp2_with fail
      go_roundw
      case rel => exact ⟨q, 63, d :: ds, cs.setIfInBounds 63 (.int .u8 ((dg1 d).toNat : Int)), rfl, by go_num, by omega, hq9, Lib.hid (by rw [HE.out]; rfl), Lib.hid (by rw [← HDq.out.1, ← HDq.out.2]; exact HS.out), HBk2, Lib.hid (by simp; exact HCs.out), Lib.hid (drop_set cs 63 _ (by rw [HCs.out]; decide) _ HDr.out), HB2⟩
      case measure => simp [intOf]
    · have hz : ((I : Int) == 64) = false := by rw [beq_eq_false_iff_ne]; omega
      by_cases hQ0 : 0 < Q
      · have HS := Lib.hid (HD.out.step (.inr hQ0))
        have HL := Lib.hid (HD.out.len HN.out (.inr hQ0))
        obtain ⟨J, rfl⟩ : ∃ J, I = J + 1 := ⟨I - 1, by have := HIK.out; have := HL.out; omega⟩
        clear hz
        have hz : (((J + 1 : Nat) : Int) == 64) = false := by rw [beq_eq_false_iff_ne]; omega
        go_wp2_with ((with_reducible refine gate_st (t := 5) rfl ?_); refine halt_L ?_)
        refine resume_L ?_
        refine wpList_put HBk.out (o := J) (v := .int .u8 ((dg1 d).toNat : Int)) (by rw [HCs.out]; omega) rfl rfl rfl infoU1 ?_
        intro w2 hb2 p2
        have HB2 := Lib.hid (p2.below HB.out HB.out.size (Nat.le_refl _))
        have HBk2 := Lib.hid hb2
        clear hb2 p2
        go_wp2_with fail
        go_roundw
        case rel => exact ⟨q, J, d :: ds, cs.setIfInBounds J (.int .u8 ((dg1 d).toNat : Int)), rfl, by go_num, by omega, hq9, Lib.hid (by have := HIK.out; simp; omega), Lib.hid (by rw [← HDq.out.1, ← HDq.out.2]; exact HS.out), HBk2, Lib.hid (by simp; exact HCs.out), Lib.hid (drop_set cs J _ (by rw [HCs.out]; omega) _ HDr.out), HB2⟩
        case measure => simp [intOf]
      · obtain rfl : Q = 0 := by omega
        have HF := Lib.hid (HD.out.fin (by intro e; have := HIK.out; rw [e] at this; simp at this; omega))
        have hcv := fun cap => conv_digits (cap := cap) HBk.out HDr.out
        rw [List.length_map, show ds.length = 64 - I by have := HIK.out; omega] at hcv
        have hsl := slice64 wr w.heap.size I (by omega)
        clear hix hd10 hqI hdI hQ0
        go_wp2_with fail
        go_ret
        exact ⟨by rw [HF.out]; rfl, HB.out⟩
end Go.Proofs.YtilkcnoooecngaaGreatDoor
