/- Go's own decimals of 800 digits: how they lie; trim. Go's own rightShift, told by what counts. Shifts of 1 to 60. Go's own leftShift: the sheet of new digits; prefixIsLessThan. Go's own prefixIsLessThan. Digits; sheets of at most 60 digits. -/
import Derived.Test.YtilkcnoooecngaaGreatDoorSdR
import Derived.Deep.QuietTactic
import Derived.RegionTactic
import Derived.Deep.CutBlock
import Derived.Deep.LoopGhost
import GoSem.PinnedTables
namespace Go.Proofs.YtilkcnoooecngaaGreatDoor
open Go.RowKit
set_option linter.unusedVariables false
abbrev tS : TypeId := 98
/-- The cells of a decimal: 800 digits, how many, the point, the sign, whether digits were cut. -/
def sCells (D : Nat → Nat) (nd dp : Int) (ng tr : Bool) : Array Value := ((List.range 800).map (fun i => Value.int .u8 (D i : Nat))).toArray ++ #[.int .i64 nd, .int .i64 dp, .bool ng, .bool tr]
section
variable {D : Nat → Nat} {nd dp : Int} {ng tr : Bool}
theorem sc_size : (sCells D nd dp ng tr).size = 804 := by simp [sCells]
theorem sc_dig {i : Nat} (h : i < 800) : (sCells D nd dp ng tr)[i]? = some (.int .u8 (D i : Nat)) := by
  unfold sCells
  rw [Array.getElem?_append_left (by simpa using h)]
  simp [h]
theorem sc_hi {k : Nat} : (sCells D nd dp ng tr)[800 + k]? = (#[Value.int .i64 nd, .int .i64 dp, .bool ng, .bool tr] : Array Value)[k]? := by
  unfold sCells
  rw [Array.getElem?_append_right (by simp)]
  simp
theorem sc_nd : (sCells D nd dp ng tr)[800]? = some (.int .i64 nd) := sc_hi (k := 0)
theorem sc_dp : (sCells D nd dp ng tr)[801]? = some (.int .i64 dp) := sc_hi (k := 1)
theorem sc_ng : (sCells D nd dp ng tr)[802]? = some (.bool ng) := sc_hi (k := 2)
theorem sc_tr : (sCells D nd dp ng tr)[803]? = some (.bool tr) := sc_hi (k := 3)
def upd (D : Nat → Nat) (i c : Nat) : Nat → Nat := fun j => if j = i then c else D j
theorem sc_set {i c : Nat} (h : i < 800) : (sCells D nd dp ng tr).setIfInBounds i (.int .u8 (c : Nat)) = sCells (upd D i c) nd dp ng tr := by
  apply Array.ext_getElem?
  intro j
  rw [Array.getElem?_setIfInBounds, sc_size]
  by_cases hj : i = j
  · subst hj
    rw [if_pos rfl, if_pos (by omega), sc_dig h]
    simp [upd]
  · rw [if_neg hj]
    by_cases h8 : j < 800
    · rw [sc_dig h8, sc_dig h8]
      have : ¬ j = i := fun e => hj e.symm
      simp [upd, this]
    · obtain ⟨k, rfl⟩ : ∃ k, j = 800 + k := ⟨j - 800, by omega⟩
      rw [sc_hi, sc_hi]
theorem sc_set_hi {k : Nat} {v : Value} {nd' dp' : Int} {ng' tr' : Bool} (hk : k < 4) (h : (#[Value.int .i64 nd, .int .i64 dp, .bool ng, .bool tr] : Array Value).setIfInBounds k v = #[Value.int .i64 nd', .int .i64 dp', .bool ng', .bool tr']) : (sCells D nd dp ng tr).setIfInBounds (800 + k) v = sCells D nd' dp' ng' tr' := by
  apply Array.ext_getElem?
  intro j
  rw [Array.getElem?_setIfInBounds, sc_size]
  by_cases h8 : j < 800
  · rw [if_neg (by omega), sc_dig h8, sc_dig h8]
  · obtain ⟨m, rfl⟩ : ∃ m, j = 800 + m := ⟨j - 800, by omega⟩
    rw [sc_hi, sc_hi, ← h, Array.getElem?_setIfInBounds]
    by_cases e : k = m
    · subst e
      rw [if_pos rfl, if_pos rfl, if_pos (by omega), if_pos (by simpa using hk)]
    · rw [if_neg (by omega), if_neg e]
theorem sc_set_nd (n : Int) : (sCells D nd dp ng tr).setIfInBounds 800 (.int .i64 n) = sCells D n dp ng tr := sc_set_hi (k := 0) (by decide) rfl
theorem sc_set_dp (n : Int) : (sCells D nd dp ng tr).setIfInBounds 801 (.int .i64 n) = sCells D nd n ng tr := sc_set_hi (k := 1) (by decide) rfl
theorem sc_set_ng (b : Bool) : (sCells D nd dp ng tr).setIfInBounds 802 (.bool b) = sCells D nd dp b tr := sc_set_hi (k := 2) (by decide) rfl
theorem sc_set_tr (b : Bool) : (sCells D nd dp ng tr).setIfInBounds 803 (.bool b) = sCells D nd dp ng b := sc_set_hi (k := 3) (by decide) rfl
end
/-- A decimal in block b. -/
def SD (w : World) (b : Nat) (D : Nat → Nat) (nd dp : Int) (ng tr : Bool) : Prop := Blk w b tS (sCells D nd dp ng tr)
section
variable {w w' : World} {b : Nat} {D : Nat → Nat} {nd dp : Int} {ng tr : Bool}
theorem SD.blk (h : SD w b D nd dp ng tr) : Blk w b tS (sCells D nd dp ng tr) := h
theorem SD.cdig (h : SD w b D nd dp ng tr) {i : Nat} (hi : i < 800) : w.cell? ⟨b, i, none⟩ = some (.int .u8 (D i : Nat)) := h.blk.cell i (sc_dig hi)
theorem SD.cnd (h : SD w b D nd dp ng tr) : w.cell? ⟨b, 800, none⟩ = some (.int .i64 nd) := h.blk.cell 800 sc_nd
theorem SD.cdp (h : SD w b D nd dp ng tr) : w.cell? ⟨b, 801, none⟩ = some (.int .i64 dp) := h.blk.cell 801 sc_dp
theorem SD.cng (h : SD w b D nd dp ng tr) : w.cell? ⟨b, 802, none⟩ = some (.bool ng) := h.blk.cell 802 sc_ng
theorem SD.ctr (h : SD w b D nd dp ng tr) : w.cell? ⟨b, 803, none⟩ = some (.bool tr) := h.blk.cell 803 sc_tr
theorem Put.drewN {c : Nat} (h : Put w w' c) (n : Nat) : Put w (w'.drewN n) c := ⟨⟨h.grown.1, h.grown.2, h.grown.3, h.grown.size, h.grown.block⟩, h.size⟩
theorem Put.refl (w : World) (c : Nat) : Put w w c := ⟨⟨rfl, rfl, rfl, Nat.le_refl _, fun _ _ _ => rfl⟩, rfl⟩
theorem SD.drewN (h : SD w b D nd dp ng tr) (n : Nat) : SD (w.drewN n) b D nd dp ng tr := h
end
/-- The digits as they lie. -/
def Rep (D : Nat → Nat) (l : List Nat) : Prop := ∀ i, i < l.length → D i = dg l i + 48
theorem Rep.take {D : Nat → Nat} {l : List Nat} {d : Nat} (h : Rep D (l ++ [d])) : Rep D l ∧ D l.length = d + 48 := by
  refine ⟨fun i hi => ?_, ?_⟩
  · have := h i (by simp; omega)
    rw [this]
    unfold dg
    rw [List.getD_eq_getElem?_getD, List.getD_eq_getElem?_getD, List.getElem?_append_left hi]
  · have := h l.length (by simp)
    rw [this]
    simp [dg]
/-- How many digits the block tells. -/
def sdN (w : World) (b : Nat) : Nat := match w.cell? ⟨b, 800, none⟩ with | some (.int _ n) => n.toNat | _ => 0
theorem SD.csdN {w : World} {b : Nat} {D : Nat → Nat} {nd dp : Int} {ng tr : Bool} (h : SD w b D nd dp ng tr) : sdN w b = nd.toNat := by
  have := h.cnd
  unfold sdN
  rw [this]
def STrimRet (b : Nat) (D : Nat → Nat) (l : List Nat) (dp : Int) (ng tr : Bool) (w : World) (e : Ending) (w' : World) : Prop :=
  e = .returned (.tuple #[]) ∧ SD w' b D ((trimD l).length : Int) (if trimD l = [] then 0 else dp) ng tr ∧ Put w w' b
set_option maxHeartbeats 2000000 in
set_option maxRecDepth 100000 in
theorem strim_any (b : Nat) (D : Nat → Nat) (l : List Nat) (dp : Int) (ng tr : Bool) (w : World) (h : SD w b D (l.length : Int) dp ng tr) (hR : Rep D l) (hl : l.length ≤ 800) (hd : ∀ d ∈ l, d < 10) :
    Calls Tryz.prog 110 #[.pointer (some ⟨b, 0, none⟩)] w (STrimRet b D l dp ng tr w) := by
  have HD := Lib.hid (show ∃ m : List Nat, SD w b D (m.length : Int) dp ng tr ∧ Rep D m ∧ m.length ≤ 800 ∧ (∀ d ∈ m, d < 10) ∧ trimD m = trimD l ∧ Put w w b from ⟨l, h, hR, hl, hd, rfl, Put.refl _ _⟩)
  clear h hR hl hd
  go_enter Tryz.func110, Tryz.ntmps110
  go_wp2_with fail
  go_loopw [] (fun wr => ∃ m : List Nat, SD wr b D (m.length : Int) dp ng tr ∧ Rep D m ∧ m.length ≤ 800 ∧ (∀ d ∈ m, d < 10) ∧ trimD m = trimD l ∧ Put w wr b) (fun wr => sdN wr b)
  · exact HD.out
  clear HD
  obtain ⟨m, hD, hR, hl, hd, ht, hP⟩ := hrel
  have f0 := hD.cnd
  have HP := Lib.hid hP
  have HT := Lib.hid ht
  rcases snoc_cases m with rfl | ⟨m, a, rfl⟩
  · have HD := Lib.hid hD
    simp only [List.length_nil] at f0
    clear hD hR hl hd ht hP
    go_wp2_with fail
    go_quiet (fail)
    go_wp2_with ((with_reducible refine gate_st (t := 3) rfl ?_); refine halt_L ?_)
    refine resume_L ?_
    refine wpList_put (HD.out.drewN nq).blk (o := 801) (v := .int .i64 0) (by rw [sc_size]; decide) rfl rfl rfl infoI ?_
    intro w2 hb2 p2
    rw [sc_set_dp] at hb2
    have HP2 := Lib.hid ((HP.out.drewN nq).trans p2)
    go_wp2
    go_end0
    unfold STrimRet
    rw [← HT.out]
    exact ⟨rfl, hb2, HP2.out⟩
  · obtain ⟨hR1, hR2⟩ := hR.take
    obtain ⟨n, hn⟩ : ∃ n, m.length = n := ⟨_, rfl⟩
    have f1 := hD.cdig (i := n) (by simp at hl; omega)
    rw [← hn, hR2, hn] at f1
    have hl2 : n + 1 ≤ 800 := by simp at hl; omega
    have ha := hd a (by simp)
    simp only [List.length_append, List.length_cons, List.length_nil, Nat.zero_add, hn] at f0
    have HD := Lib.hid (show SD wr b D ((n + 1 : Nat) : Int) dp ng tr by have := hD; simp only [List.length_append, List.length_cons, List.length_nil, Nat.zero_add, hn] at this; exact this)
    have HR1 := Lib.hid hR1
    have Hd := Lib.hid (fun d hd' => hd d (List.mem_append_left [a] hd'))
    have HN := Lib.hid hn
    have f2 : wr.frozen? ⟨b, 800, none⟩ = false := hD.blk.frozen 800
    clear hD hR hR1 hR2 hl hd ht hP hn
    by_cases h0 : a = 0
    · subst h0
      go_wp2_with fail
      go_quiet (fail)
      go_wp2_with ((with_reducible refine gate_st (t := 3) rfl ?_); refine halt_L ?_)
      refine resume_L ?_
      refine wpList_put (HD.out.drewN nq).blk (o := 800) (v := .int .i64 (n : Int)) (by rw [sc_size]; decide) rfl rfl rfl infoI ?_
      intro w2 hb2 p2
      rw [sc_set_nd] at hb2
      have HP2 := Lib.hid ((HP.out.drewN nq).trans p2)
      have hb2 : SD w2 b D (n : Int) dp ng tr := hb2
      have m1 := hb2.csdN
      have m0 := HD.out.csdN
      clear f0 f1 f2 p2
      go_wp2_with fail
      go_roundw
      case rel => exact ⟨_, _, _, _, _, _, _, _, _, _, _, _, _, _, _, _, _, _, _, _, _, _, _, _, _, ⟨m, by rw [HN.out]; exact hb2, HR1.out, by have := HN.out; omega, Hd.out, by rw [← HT.out, trimD_snoc0], HP2.out⟩, rfl⟩
      case measure => rw [m0, m1]; simp
    · have q0 : ((a : Int) + 48 == 48) = false := by rw [beq_eq_false_iff_ne]; omega
      have HA := Lib.hid h0
      clear h0
      go_wp2_with fail
      go_quiet (fail)
      go_wp2
      go_end0
      refine ⟨rfl, ?_, HP.out.drewN nq⟩
      rw [← HT.out, trimD_snoc _ HA.out, if_neg (by simp), List.length_append, HN.out]
      exact HD.out.drewN nq
end Go.Proofs.YtilkcnoooecngaaGreatDoor
namespace Go.Proofs.YtilkcnoooecngaaGreatDoor
open Go.RowKit
set_option linter.unusedVariables false
/-- What halving gives, by what it counts. -/
structure SHd (l : List Nat) (k : Nat) (r : List Nat) (i : Nat) : Prop where
  pos : 1 ≤ i
  few : i ≤ 20
  good : Good r
  len : r.length ≤ l.length + k + 4
  grow : 2 ^ k < 10 ^ i
  one : i = 1 → hd r = hd l / 2 ^ k
  low : l.length ≤ i + r.length
  val : vD l * 10 ^ (i + r.length - l.length) = vD r * 10 * 2 ^ k
theorem Hf.few20 {l : List Nat} {k i n : Nat} (h : Hf l k i n) (hk : k ≤ 60) (hn : n < 2 ^ k) : i < 20 := by
  rcases h.rng with ⟨rfl, _⟩ | ⟨h1, h2, _⟩
  · decide
  · have h3 : 2 ^ k ≤ 2 ^ 60 := Nat.pow_le_pow_right (by decide) hk
    have h4 : (2 : Nat) ^ 60 < 10 ^ 19 := by decide
    have h5 : 10 ^ (i - 1) < 10 ^ 19 := by omega
    have := (Nat.pow_lt_pow_iff_right (by decide)).1 h5
    omega
theorem Hs.fin20 {l : List Nat} {k i1 n1 i : Nat} {o : List Nat} (h1 : Hf l k i1 n1) (h : Hs l k i1 n1 i o 0) (hn : 2 ^ k ≤ n1) (hf : i1 ≤ 20) (hil : l.length ≤ i) : SHd l k o i1 := by
  have hp := Nat.two_pow_pos k
  have hv := hs_val (hf_val h1.run) h.run
  simp only at hv
  obtain ⟨v1, v2⟩ := hv
  rcases h.head with ⟨rfl, h0⟩ | ⟨t, rfl⟩
  · omega
  have hi : 1 ≤ i1 ∧ 10 ^ (i1 - 1) ≤ n1 ∧ n1 < 10 ^ i1 := by
    rcases h1.rng with ⟨_, h0⟩ | hr
    · omega
    · exact hr
  subst v2
  rw [pre_ge l hil, Nat.add_zero] at v1
  refine ⟨hi.1, hf, ⟨h.dig, _, t, rfl, ?_⟩, h.few, by omega, fun he => ?_, hil, v1⟩
  · have := Nat.div_pos hn hp; omega
  · rw [← h1.one he]; rfl
def cat (o : List Nat) (D : Nat → Nat) : Nat → Nat := fun j => if j < o.length then dg o j + 48 else D j
theorem cat_nil (D : Nat → Nat) : cat [] D = D := by funext j; simp [cat]
theorem dg_snoc_lt {o : List Nat} {q j : Nat} (h : j < o.length) : dg (o ++ [q]) j = dg o j := by
  unfold dg
  rw [List.getD_eq_getElem?_getD, List.getD_eq_getElem?_getD, List.getElem?_append_left h]
theorem dg_snoc_eq (o : List Nat) (q : Nat) : dg (o ++ [q]) o.length = q := by simp [dg]
theorem upd_cat (o : List Nat) (D : Nat → Nat) (q : Nat) : upd (cat o D) o.length (q + 48) = cat (o ++ [q]) D := by
  funext j
  unfold upd cat
  simp only [List.length_append, List.length_singleton]
  by_cases h : j = o.length
  · subst h
    rw [if_pos rfl, if_pos (by omega), dg_snoc_eq]
  · rw [if_neg h]
    by_cases h2 : j < o.length
    · rw [if_pos h2, if_pos (by omega), dg_snoc_lt h2]
    · rw [if_neg h2, if_neg (by omega)]
theorem sc_ext {D D' : Nat → Nat} {nd dp : Int} {ng tr : Bool} (h : ∀ j, j < 800 → D j = D' j) : sCells D nd dp ng tr = sCells D' nd dp ng tr := by
  unfold sCells
  rw [List.map_congr_left (f := fun i => Value.int .u8 (D i : Nat)) (g := fun i => Value.int .u8 (D' i : Nat)) (fun j hj => by rw [h j (List.mem_range.1 hj)])]
theorem cat_far {o : List Nat} {D : Nat → Nat} {q : Nat} (ho : 800 ≤ o.length) {nd dp : Int} {ng tr : Bool} : sCells (cat (o ++ [q]) D) nd dp ng tr = sCells (cat o D) nd dp ng tr := sc_ext fun j hj => by
  unfold cat
  rw [if_pos (by simp; omega), if_pos (by omega), dg_snoc_lt (by omega)]
theorem rep_cat (o : List Nat) (D : Nat → Nat) : Rep (cat o D) (o.take 800) := fun i hi => by
  have h2 : i < o.length := by simp at hi; omega
  have h3 : i < 800 := by simp at hi; omega
  unfold cat
  rw [if_pos h2]
  congr 1
  unfold dg
  rw [List.getD_eq_getElem?_getD, List.getD_eq_getElem?_getD, List.getElem?_take_of_lt h3]
theorem infoBo : (Tryz.prog.info? 4).map (·.size) = some 1 := by kernel_rfl
theorem infoU8 : (Tryz.prog.info? 5).map (·.size) = some 1 := by kernel_rfl
theorem dg_pre {a b : List Nat} {i : Nat} (h : i < a.length) : dg (a ++ b) i = dg a i := by
  unfold dg
  rw [List.getD_eq_getElem?_getD, List.getD_eq_getElem?_getD, List.getElem?_append_left h]
theorem rep_trim {D : Nat → Nat} {l : List Nat} (h : Rep D l) : Rep D (trimD l) := fun i hi => by
  obtain ⟨m, hm⟩ := trimD_app l
  have h2 : i < l.length := Nat.lt_of_lt_of_le hi (trimD_len l)
  rw [h i h2]
  congr 1
  rw [hm]
  conv => rhs; rw [← hm]
  exact dg_pre hi
/-- rightShift: the digits are those of the half, cut at 800. -/
def RsRet (b k : Nat) (l : List Nat) (dp : Int) (ng : Bool) (w : World) (e : Ending) (w' : World) : Prop :=
  e = .returned (.tuple #[]) ∧ Put w w' b ∧ ∃ (r : List Nat) (i : Nat) (D' : Nat → Nat) (tr' : Bool), SHd l k r i ∧ SD w' b D' ((trimD (r.take 800)).length : Int) (dp - ((i : Int) - 1)) ng tr' ∧ Rep D' (trimD (r.take 800))
theorem good_take {r : List Nat} (h : Good r) : Good (r.take 800) := by
  obtain ⟨hd, d, t, rfl, h0⟩ := h
  exact ⟨fun x hx => hd x (List.mem_of_mem_take hx), d, t.take 799, rfl, h0⟩
set_option maxHeartbeats 8000000 in
set_option maxRecDepth 100000 in
theorem rs_any (b k : Nat) (D : Nat → Nat) (l : List Nat) (dp : Int) (ng tr : Bool) (w : World) (h : SD w b D (l.length : Int) dp ng tr) (hR : Rep D l) (hl : l.length ≤ 800) (hg : Good l) (hk1 : 1 ≤ k) (hk2 : k ≤ 60) (hdp : -1000000 ≤ dp ∧ dp ≤ 1000000) :
    Calls Tryz.prog 100 #[.pointer (some ⟨b, 0, none⟩), .int .u64 (k : Int)] w (RsRet b k l dp ng w) := by
  obtain ⟨hdp1, hdp2⟩ := hdp
  obtain ⟨L, hL⟩ : ∃ L, l.length = L := ⟨_, rfl⟩
  rw [hL] at h hl
  have HL := Lib.hid hL
  have HD := Lib.hid h
  have HG := Lib.hid hg
  have HR := Lib.hid (show ∀ i, i < L → D i = dg l i + 48 from fun i hi => hR i (by rw [hL]; exact hi))
  obtain ⟨p, hp⟩ : ∃ p, 2 ^ k = p := ⟨_, rfl⟩
  have hpI : (2 : Int) ^ k = (p : Int) := by subst hp; simp
  have HP := Lib.hid hp
  have hp1 : 1 ≤ p := by subst hp; exact Nat.two_pow_pos k
  have hp2 : p ≤ 1152921504606846976 := by
    subst hp
    exact Nat.pow_le_pow_right (n := 2) (by decide) hk2
  have hkI : (k : Int) ≤ 60 := by omega
  have hL0 : 1 ≤ L := by
    obtain ⟨_, d, t, e, _⟩ := hg
    rw [← hL, e]; simp
  clear h hg hR hL hp
  go_enter Tryz.func100, Tryz.ntmps100
  go_upto_block 0 with fail
  go_cut [4, 6] (fun x4 x6 wx => ∃ (i n : Nat), x4 = .int .i64 (i : Int) ∧ x6 = .int .u64 (n : Int) ∧ i ≤ 20 ∧ n < 10 * p ∧ p ≤ n ∧ Hid (Hf l k i n) ∧ wx = w)
  case first =>
    as_aux_lemma =>
    have f0 := HD.out.cnd
    go_wp2_with fail
    go_loopw [4, 6] (fun iv nv wr => ∃ (i n : Nat), nv = .int .u64 (n : Int) ∧ iv = .int .i64 (i : Int) ∧ i ≤ 20 ∧ i ≤ L ∧ n < 10 * p ∧ Hid (Hf l k i n) ∧ wr = w) (fun iv _ _ => L - (intOf iv).toNat)
    case atStart => exact ⟨0, 0, rfl, rfl, by omega, by omega, by omega, Lib.hid (Hf.start l k), rfl⟩
    case round =>
      obtain ⟨i, n, rfl, rfl, hi, hiL, hn, HF, rfl⟩ := hrel
      by_cases hlt : n < p
      · have e0 : ((n : Int) / (p : Int) == 0) = true := by rw [beq_iff_eq]; exact Int.ediv_eq_zero_of_lt (by omega) (by omega)
        by_cases hlt2 : i < L
        · have hS := HF.out.step HG.out (by rw [HP.out]; exact hlt)
          have hfew := HF.out.few20 hk2 (by rw [HP.out]; exact hlt)
          have f1 := HD.out.cdig (i := i) (by omega)
          rw [HR.out i hlt2] at f1
          have hx10 := dg_lt HG.out.1 i
          generalize hx : dg l i = x at *
          have HS := Lib.hid hS
          have HF2 := Lib.hid hfew
          clear hx hS hfew
          go_wp2_with fail
          go_roundw
          case rel => exact ⟨i + 1, n * 10 + x, by go_num, by go_num, by have := HF2.out; omega, by omega, by omega, HS, trivial⟩
          case measure => simp [intOf]; omega
        · obtain rfl : i = L := by omega
          have hn0 : 1 ≤ n := by
            rcases HF.out.rng with ⟨h0, _⟩ | ⟨_, h2, _⟩
            · omega
            · have := Nat.pow_pos (n := i - 1) (show 0 < 10 by decide); omega
          have en : ((n : Int) == 0) = false := by rw [beq_eq_false_iff_ne]; omega
          have HI := Lib.hid (show i ≤ 20 ∧ n < p from ⟨hi, hlt⟩)
          have HN0 := Lib.hid hn0
          go_wp2_with fail
          go_loopw [4, 6] (fun iv nv wr2 => ∃ (j m : Nat), nv = .int .u64 (m : Int) ∧ iv = .int .i64 (j : Int) ∧ j ≤ 20 ∧ i ≤ j ∧ m < 10 * p ∧ Hid (Hf l k j m) ∧ wr2 = wr) (fun iv _ _ => 20 - (intOf iv).toNat)
          case atStart => exact ⟨i, n, rfl, rfl, hi, by omega, hn, HF, rfl⟩
          case round =>
            clear e0 en hlt hn HF
            obtain ⟨j, m, rfl, rfl, hj, hij, hm, HF, rfl⟩ := hrel
            by_cases hlt : m < p
            · have e0 : ((m : Int) / (p : Int) == 0) = true := by rw [beq_iff_eq]; exact Int.ediv_eq_zero_of_lt (by omega) (by omega)
              have hS := HF.out.step HG.out (by rw [HP.out]; exact hlt)
              have hfew := HF.out.few20 hk2 (by rw [HP.out]; exact hlt)
              rw [dg_out (by rw [HL.out]; exact hij), Nat.add_zero] at hS
              have HS := Lib.hid hS
              have HF2 := Lib.hid hfew
              clear hS hfew
              go_wp2_with fail
              go_roundw
              case rel => exact ⟨j + 1, m * 10, by go_num, by go_num, by have := HF2.out; omega, by omega, by omega, HS, trivial⟩
              case measure => have := HF2.out; simp [intOf]; omega
            · have e0 : ((m : Int) / (p : Int) == 0) = false := by
                rw [beq_eq_false_iff_ne]
                intro e
                have := Nat.div_pos (show p ≤ m by omega) (show 0 < p by omega)
                rw [← Int.natCast_ediv] at e
                omega
              go_wp2_with fail
              go_meet
              exact ⟨j, m, rfl, rfl, hj, hm, by omega, HF, rfl⟩
      · have e0 : ((n : Int) / (p : Int) == 0) = false := by
          rw [beq_eq_false_iff_ne]
          intro e
          have := Nat.div_pos (show p ≤ n by omega) (show 0 < p by omega)
          rw [← Int.natCast_ediv] at e
          omega
        go_wp2_with fail
        go_meet
        exact ⟨i, n, rfl, rfl, hi, hn, by omega, HF, rfl⟩
  case rest =>
  as_aux_lemma =>
  obtain ⟨i, n1, rfl, rfl, hi, hn, hpn, HF, rfl⟩ := hcut
  obtain ⟨w, rfl⟩ : ∃ z : World, z = wc := ⟨_, rfl⟩
  have f0 := HD.out.cdp
  go_wp2_with ((with_reducible refine gate_st (t := 3) rfl ?_); refine halt_L ?_)
  refine resume_L ?_
  refine wpList_put HD.out.blk (o := 801) (v := .int .i64 (dp - ((i : Int) - 1))) (by rw [sc_size]; decide) rfl rfl rfl infoI ?_
  intro w1 hb1 p1
  rw [sc_set_dp] at hb1
  have HD1 := Lib.hid (show SD w1 b D (L : Int) (dp - ((i : Int) - 1)) ng tr from hb1)
  have HK1 := Lib.hid p1
  clear hb1 p1 f0
  obtain ⟨dp2, hdp2⟩ : ∃ z, dp - ((i : Int) - 1) = z := ⟨_, rfl⟩
  have HDP := Lib.hid hdp2
  rw [hdp2] at HD1
  go_upto_block 4 with fail
  go_cut [5, 6] (fun x5 x6 wx => ∃ (j m : Nat) (o : List Nat), x5 = .int .i64 (o.length : Int) ∧ x6 = .int .u64 (m : Int) ∧ o.length ≤ 800 ∧ L ≤ j ∧ m < 10 * p ∧ Hid (Hs l k i n1 j o m) ∧ Hid (SD wx b (cat o D) (L : Int) dp2 ng tr) ∧ Hid (Put w wx b))
  case first =>
    as_aux_lemma =>
    go_wp2_with fail
    go_loopw [4, 5, 6] (fun iv ov nv wr => ∃ (j m : Nat) (o : List Nat), iv = .int .i64 (j : Int) ∧ ov = .int .i64 (o.length : Int) ∧ nv = .int .u64 (m : Int) ∧ o.length ≤ j - i ∧ (j ≤ L ∨ j = i) ∧ i ≤ j ∧ j ≤ 900 ∧ m < 10 * p ∧ Hid (Hs l k i n1 j o m) ∧ Hid (SD wr b (cat o D) (L : Int) dp2 ng tr) ∧ Hid (Put w wr b)) (fun iv _ _ _ => L - (intOf iv).toNat)
    case atStart => exact ⟨i, n1, [], rfl, rfl, rfl, by simp, .inr rfl, Nat.le_refl _, by omega, hn, Lib.hid (Hs.start HF.out), Lib.hid (by rw [cat_nil]; exact HD1.out), HK1⟩
    case round =>
      obtain ⟨j, m, o, rfl, rfl, rfl, ho, hjL, hij, hj9, hm, HH, HDr, HK⟩ := hrel
      obtain ⟨wr, rfl⟩ : ∃ wz : World, wz = wr := ⟨_, rfl⟩
      have f0 := HDr.out.cnd
      obtain ⟨O, hO⟩ : ∃ O, o.length = O := ⟨_, rfl⟩
      have HO := Lib.hid hO
      rw [hO] at ho ⊢
      have hipos : 1 ≤ i := by
        have := HF.out.rng
        rcases this with ⟨_, h0⟩ | ⟨h1, _⟩
        · omega
        · exact h1
      by_cases hlt : j < L
      · have hS := HH.out.step HG.out (.inl (by rw [HL.out]; exact hlt))
        have f1 := HDr.out.cdig (i := j) (by omega)
        rw [show cat o D j = dg l j + 48 by unfold cat; rw [if_neg (by omega)]; exact HR.out j hlt] at f1
        have hx10 := dg_lt HG.out.1 j
        obtain ⟨q, hq⟩ : ∃ q, m / p = q := ⟨_, rfl⟩
        have hqI : (m : Int) / (p : Int) = (q : Int) := by rw [← Int.natCast_ediv, hq]
        have hq10 : q < 10 := hq ▸ div_lt10 hm
        obtain ⟨r, hr⟩ : ∃ r, m % p = r := ⟨_, rfl⟩
        have hrp : r < p := hr ▸ Nat.mod_lt _ hp1
        have eAnd : bits .and .u64 (m : Int) ((p : Int) - 1) = (r : Int) := by
          rw [show ((p : Int) - 1) = ((p - 1 : Nat) : Int) by omega, bits_and_u64_nat _ _ (by omega) (by omega), ← HP.out, Nat.and_two_pow_sub_one_eq_mod, HP.out, hr]
        rw [HP.out, hq, hr] at hS
        generalize hx : dg l j = x at *
        have HS := Lib.hid hS
        clear hS hq hr hx hO
        go_wp2_with ((with_reducible refine gate_st (t := 5) rfl ?_); refine halt_L ?_)
        refine resume_L ?_
        refine wpList_put HDr.out.blk (o := O) (v := .int .u8 ((q + 48 : Nat) : Int)) (by rw [sc_size]; omega) rfl (by first | rfl | (simp; done)) rfl infoU8 ?_
        intro w2 hb2 p2
        rw [sc_set (by omega), ← HO.out, upd_cat] at hb2
        have HD2 := Lib.hid (show SD w2 b (cat (o ++ [q]) D) (L : Int) dp2 ng tr from hb2)
        have HK2 := Lib.hid (HK.out.trans p2)
        clear hb2 p2 f0 f1
        go_wp2_with fail
        go_roundw
        case rel => exact ⟨j + 1, r * 10 + x, o ++ [q], by go_num, by rw [List.length_append, HO.out]; go_num, by go_num, by rw [List.length_append, HO.out]; simp; omega, .inl (by omega), by omega, by omega, by omega, HS, HD2, HK2⟩
        case measure => simp [intOf]; omega
      · have HS := HH
        clear hO
        go_wp2_with fail
        go_meet
        exact ⟨j, m, o, by rw [HO.out], rfl, by rw [HO.out]; omega, by omega, hm, HH, HDr, HK⟩
  case rest =>
  as_aux_lemma =>
  obtain ⟨j, m, o, rfl, rfl, ho, hj, hm, HH, HDr, HK⟩ := hcut
  obtain ⟨wq, rfl⟩ : ∃ z : World, z = wc := ⟨_, rfl⟩
  have HI := Lib.hid (And.intro hi hpn)
  clear hpn hn HD1 HK1 hi
  go_wp2_with fail
  go_loopg [5, 6] (L + k + 4) (fun g ov nv wr => ∃ (j m W : Nat) (o : List Nat) (tr' : Bool), ov = .int .i64 (W : Int) ∧ nv = .int .u64 (m : Int) ∧ W ≤ 800 ∧ L ≤ j ∧ m < 10 * p ∧ Hid (W = min o.length 800) ∧ Hid (Hs l k i n1 j o m) ∧ Hid (SD wr b (cat o D) (L : Int) dp2 ng tr') ∧ Hid (Put w wr b) ∧ Hid (L + k + 4 ≤ j + g))
  case atStart => exact ⟨j, m, o.length, o, tr, rfl, rfl, ho, hj, hm, Lib.hid (by omega), HH, HDr, HK, Lib.hid (by omega)⟩
  case round =>
    clear ho hj hm HH HDr HK
    obtain ⟨j, m, W, o, tr, rfl, rfl, hW, hj, hm, HW, HH, HDr, HK, HGk⟩ := hrel
    obtain ⟨wr, rfl⟩ : ∃ wz : World, wz = wr := ⟨_, rfl⟩
    by_cases hm0 : 0 < m
    · have HGk2 := Lib.hid (show L + k + 4 ≤ j + 1 + (gk - 1) ∧ gk - 1 < gk by have h1 := HH.out.lt (.inr hm0); have h2 := HGk.out; rw [HL.out] at h1; omega)
      have hS := HH.out.step HG.out (.inr hm0)
      obtain ⟨q, hq⟩ : ∃ q, m / p = q := ⟨_, rfl⟩
      have hqI : (m : Int) / (p : Int) = (q : Int) := by rw [← Int.natCast_ediv, hq]
      have hq10 : q < 10 := hq ▸ div_lt10 hm
      obtain ⟨r, hr⟩ : ∃ r, m % p = r := ⟨_, rfl⟩
      have hrp : r < p := hr ▸ Nat.mod_lt _ hp1
      have eAnd : bits .and .u64 (m : Int) ((p : Int) - 1) = (r : Int) := by
        rw [show ((p : Int) - 1) = ((p - 1 : Nat) : Int) by omega, bits_and_u64_nat _ _ (by omega) (by omega), ← HP.out, Nat.and_two_pow_sub_one_eq_mod, HP.out, hr]
      rw [HP.out, hq, hr, dg_out (by rw [HL.out]; omega), Nat.add_zero] at hS
      have HS := Lib.hid hS
      have g0 : decide ((m : Int) > 0) = true := decide_eq_true (by omega)
      clear hS hq hr
      by_cases hW8 : W < 800
      · have HWo := Lib.hid (show o.length = W by have := HW.out; omega)
        go_wp2_with ((with_reducible refine gate_st (t := 5) rfl ?_); refine halt_L ?_)
        refine resume_L ?_
        refine wpList_put HDr.out.blk (o := W) (v := .int .u8 ((q + 48 : Nat) : Int)) (by rw [sc_size]; omega) rfl (by first | rfl | (simp; done)) rfl infoU8 ?_
        intro w2 hb2 p2
        rw [sc_set (by omega), ← HWo.out, upd_cat] at hb2
        have HD2 := Lib.hid (show SD w2 b (cat (o ++ [q]) D) (L : Int) dp2 ng tr from hb2)
        have HK2 := Lib.hid (HK.out.trans p2)
        clear hb2 p2
        go_wp2_with fail
        go_roundg (gk - 1)
        case rel => exact ⟨j + 1, r * 10, W + 1, o ++ [q], tr, by go_num, by go_num, by omega, by omega, by omega, Lib.hid (by rw [List.length_append, HWo.out]; simp; omega), HS, HD2, HK2, Lib.hid HGk2.out.1⟩
        case measure => exact HGk2.out.2
      · have HWo := Lib.hid (show 800 ≤ o.length by have := HW.out; omega)
        by_cases hq0 : q = 0
        · subst hq0
          have HD2 := Lib.hid (show SD wr b (cat (o ++ [0]) D) (L : Int) dp2 ng tr by unfold SD; rw [cat_far HWo.out]; exact HDr.out)
          go_wp2_with fail
          go_roundg (gk - 1)
          case rel => exact ⟨j + 1, r * 10, W, o ++ [0], tr, rfl, by go_num, by omega, by omega, by omega, Lib.hid (by have := HWo.out; rw [List.length_append]; simp; omega), HS, HD2, HK, Lib.hid HGk2.out.1⟩
          case measure => exact HGk2.out.2
        · have dq : decide ((q : Int) > 0) = true := decide_eq_true (by omega)
          have f3 := HDr.out.ctr
          go_wp2_with ((with_reducible refine gate_st (t := 4) rfl ?_); refine halt_L ?_)
          refine resume_L ?_
          refine wpList_put HDr.out.blk (o := 803) (v := .bool true) (by rw [sc_size]; decide) rfl rfl rfl infoBo ?_
          intro w2 hb2 p2
          rw [sc_set_tr, ← cat_far (q := q) HWo.out] at hb2
          have HD2 := Lib.hid (show SD w2 b (cat (o ++ [q]) D) (L : Int) dp2 ng true from hb2)
          have HK2 := Lib.hid (HK.out.trans p2)
          clear hb2 p2 f3
          go_wp2_with fail
          go_roundg (gk - 1)
          case rel => exact ⟨j + 1, r * 10, W, o ++ [q], true, rfl, by go_num, by omega, by omega, by omega, Lib.hid (by have := HWo.out; rw [List.length_append]; simp; omega), HS, HD2, HK2, Lib.hid HGk2.out.1⟩
          case measure => exact HGk2.out.2
    · obtain rfl : m = 0 := by omega
      have hF := Hs.fin20 HF.out HH.out (by rw [HP.out]; exact HI.out.2) HI.out.1 (by rw [HL.out]; exact hj)
      have HFin := Lib.hid hF
      have hlen : (o.take 800).length = W := by rw [List.length_take]; have := HW.out; omega
      have HLn := Lib.hid hlen
      have f0 := HDr.out.cnd
      clear hF hlen
      go_wp2_with ((with_reducible refine gate_st (t := 3) rfl ?_); refine halt_L ?_)
      refine resume_L ?_
      refine wpList_put HDr.out.blk (o := 800) (v := .int .i64 (W : Int)) (by rw [sc_size]; decide) rfl rfl rfl infoI ?_
      intro w2 hb2 p2
      rw [sc_set_nd] at hb2
      have HK2 := Lib.hid (HK.out.trans p2)
      have hT := strim_any b (cat o D) (o.take 800) dp2 ng tr w2 (by rw [HLn.out]; exact hb2) (rep_cat o D) (by rw [HLn.out]; exact hW) (fun d hd => HFin.out.good.1 d (List.mem_of_mem_take hd))
      clear hb2 p2 f0
      go_wp2_with (go_at_call 110; refine halt_H ?_)
      refine resume_H ?_
      refine hT.mono ?_
      rintro en w3 ⟨rfl, hD3, p3⟩
      have hne : trimD (o.take 800) ≠ [] := by
        obtain ⟨⟨_, d, t, e, _⟩, _⟩ := trimD_good (good_take HFin.out.good)
        rw [e]; simp
      rw [if_neg hne] at hD3
      have HD3 := Lib.hid hD3
      have HK3 := Lib.hid (HK2.out.trans p3)
      clear hT hD3 p3 hne
      go_wp2
      go_end0
      refine ⟨rfl, HK3.out, o, i, cat o D, tr, HFin.out, by rw [HDP.out]; exact HD3.out, ?_⟩
      exact rep_trim (rep_cat o D)
end Go.Proofs.YtilkcnoooecngaaGreatDoor
namespace Go.Proofs.YtilkcnoooecngaaGreatDoor
open Go.RowKit
set_option linter.unusedVariables false
def cheatD (k : Nat) : Nat := (Go.Pinned.cheatRows.getD k (0, [])).1
def cheatS (k : Nat) : List UInt8 := (Go.Pinned.cheatRows.getD k (0, [])).2
def digs (c : List UInt8) : List Nat := c.map fun x => x.toNat - 48
def cheatOk (k : Nat) : Bool := Nat.beq ((cheatS k).length + cheatD k) (k + 1) && Nat.beq (vD (digs (cheatS k))) (5 ^ k) && (cheatS k).all (fun x => Nat.ble 48 x.toNat && Nat.ble x.toNat 57) && Nat.ble (2 ^ k) (10 ^ cheatD k) && ((cheatS k).getLast? == some 53) && Nat.ble 1 (cheatD k) && Nat.ble (cheatD k) 19 && Nat.ble (cheatS k).length 60
theorem cheat_all : ∀ k : Fin 59, cheatOk (k + 1) = true := by decide +kernel
theorem cheat_ok {k : Nat} (h1 : 1 ≤ k) (h2 : k ≤ 59) : (cheatS k).length + cheatD k = k + 1 ∧ vD (digs (cheatS k)) = 5 ^ k ∧ (∀ x ∈ cheatS k, 48 ≤ x.toNat ∧ x.toNat ≤ 57) ∧ 2 ^ k ≤ 10 ^ cheatD k ∧ (cheatS k).getLast? = some 53 ∧ 1 ≤ cheatD k ∧ cheatD k ≤ 19 ∧ (cheatS k).length ≤ 60 := by
  have h := cheat_all ⟨k - 1, by omega⟩
  rw [show (⟨k - 1, by omega⟩ : Fin 59).val + 1 = k by simp; omega] at h
  unfold cheatOk at h
  simp only [Bool.and_eq_true, Nat.ble_eq, Nat.beq_eq, List.all_eq_true, beq_iff_eq] at h
  obtain ⟨⟨⟨⟨⟨⟨⟨a, b⟩, c⟩, d⟩, e⟩, f⟩, g⟩, i⟩ := h
  exact ⟨a, b, c, d, e, f, g, i⟩
/-- Is the leading prefix less? -/
def pLess : List Nat → List Nat → Bool
  | _, [] => false
  | [], _ :: _ => true
  | x :: l, y :: c => if x = y then pLess l c else decide (x < y)
theorem pLess_false : ∀ (l c : List Nat), Dig l → Dig c → pLess l c = false → vD c * 10 ^ l.length ≤ vD l * 10 ^ c.length
  | l, [], _, _, _ => by simp [vD]
  | [], _ :: _, _, _, h => by simp [pLess] at h
  | x :: l, y :: c, hl, hc, h => by
    have hl' : Dig l := fun d hd => hl d (by simp [hd])
    have hc' : Dig c := fun d hd => hc d (by simp [hd])
    have u1 := vD_lt hl'
    have u2 := vD_lt hc'
    unfold pLess at h
    simp only [vD, List.length_cons, Nat.pow_succ]
    by_cases e : x = y
    · subst e
      rw [if_pos rfl] at h
      have ih := pLess_false l c hl' hc' h
      have e1 : (x * 10 ^ c.length + vD c) * (10 ^ l.length * 10) = x * (10 ^ c.length * 10 ^ l.length) * 10 + vD c * 10 ^ l.length * 10 := by rw [Nat.add_mul]; congr 1 <;> ac_rfl
      have e2 : (x * 10 ^ l.length + vD l) * (10 ^ c.length * 10) = x * (10 ^ c.length * 10 ^ l.length) * 10 + vD l * 10 ^ c.length * 10 := by rw [Nat.add_mul]; congr 1 <;> ac_rfl
      rw [e1, e2]
      omega
    · rw [if_neg e] at h
      have hxy : y + 1 ≤ x := by have := of_decide_eq_false h; omega
      have a1 : (y * 10 ^ c.length + vD c) * (10 ^ l.length * 10) ≤ ((y + 1) * 10 ^ c.length) * (10 ^ l.length * 10) := Nat.mul_le_mul_right _ (by rw [Nat.add_mul]; omega)
      have a2 : ((y + 1) * 10 ^ c.length) * (10 ^ l.length * 10) ≤ (x * 10 ^ c.length) * (10 ^ l.length * 10) := Nat.mul_le_mul_right _ (Nat.mul_le_mul_right _ hxy)
      have a3 : (x * 10 ^ l.length) * (10 ^ c.length * 10) ≤ (x * 10 ^ l.length + vD l) * (10 ^ c.length * 10) := Nat.mul_le_mul_right _ (by omega)
      have e1 : (x * 10 ^ c.length) * (10 ^ l.length * 10) = (x * 10 ^ l.length) * (10 ^ c.length * 10) := by ac_rfl
      omega
theorem pLess_true : ∀ (l c : List Nat), Dig l → Dig c → (∃ c' d, c = c' ++ [d] ∧ d ≠ 0) → pLess l c = true → vD l * 10 ^ c.length < vD c * 10 ^ l.length
  | l, [], _, _, _, h => by simp [pLess] at h
  | [], y :: c, _, hc, ⟨c', d, e, h0⟩, _ => by
    have : 0 < vD (y :: c) := by rw [e, vD_snoc]; omega
    simp [vD] at this ⊢
    omega
  | x :: l, y :: c, hl, hc, hlast, h => by
    have hl' : Dig l := fun d hd => hl d (by simp [hd])
    have hc' : Dig c := fun d hd => hc d (by simp [hd])
    have u1 := vD_lt hl'
    unfold pLess at h
    simp only [vD, List.length_cons, Nat.pow_succ]
    by_cases e : x = y
    · subst e
      rw [if_pos rfl] at h
      have hl2 : ∃ c' d, c = c' ++ [d] ∧ d ≠ 0 := by
        obtain ⟨c', d, e, h0⟩ := hlast
        cases c' with
        | nil =>
          simp at e
          rw [e.2] at h
          cases l <;> simp [pLess] at h
        | cons z c' =>
          simp at e
          exact ⟨c', d, e.2, h0⟩
      have ih := pLess_true l c hl' hc' hl2 h
      have e1 : (x * 10 ^ c.length + vD c) * (10 ^ l.length * 10) = x * (10 ^ c.length * 10 ^ l.length) * 10 + vD c * 10 ^ l.length * 10 := by rw [Nat.add_mul]; congr 1 <;> ac_rfl
      have e2 : (x * 10 ^ l.length + vD l) * (10 ^ c.length * 10) = x * (10 ^ c.length * 10 ^ l.length) * 10 + vD l * 10 ^ c.length * 10 := by rw [Nat.add_mul]; congr 1 <;> ac_rfl
      rw [e1, e2]
      omega
    · rw [if_neg e] at h
      have hxy : x + 1 ≤ y := of_decide_eq_true h
      have a1 : (x * 10 ^ l.length + vD l) * (10 ^ c.length * 10) < ((x + 1) * 10 ^ l.length) * (10 ^ c.length * 10) := Nat.mul_lt_mul_of_pos_right (by rw [Nat.add_mul]; omega) (Nat.mul_pos (Nat.pow_pos (by decide)) (by decide))
      have a2 : ((x + 1) * 10 ^ l.length) * (10 ^ c.length * 10) ≤ (y * 10 ^ l.length) * (10 ^ c.length * 10) := Nat.mul_le_mul_right _ (Nat.mul_le_mul_right _ hxy)
      have a3 : (y * 10 ^ c.length) * (10 ^ l.length * 10) ≤ (y * 10 ^ c.length + vD c) * (10 ^ l.length * 10) := Nat.mul_le_mul_right _ (by omega)
      have e1 : (y * 10 ^ c.length) * (10 ^ l.length * 10) = (y * 10 ^ l.length) * (10 ^ c.length * 10) := by ac_rfl
      omega
/-- The new digits of a shift. -/
def newE (l : List Nat) (k : Nat) : Nat := if pLess l (digs (cheatS k)) = true then cheatD k - 1 else cheatD k
theorem digs_dig {c : List UInt8} (h : ∀ x ∈ c, 48 ≤ x.toNat ∧ x.toNat ≤ 57) : Dig (digs c) := by
  intro d hd
  obtain ⟨x, hx, rfl⟩ := List.mem_map.1 hd
  have := h x hx
  omega
theorem newE_ok {l : List Nat} {k : Nat} (hg : Good l) (h1 : 1 ≤ k) (h2 : k ≤ 59) : vD l * 2 ^ k < 10 ^ (l.length + newE l k) ∧ 10 ^ (l.length + newE l k) ≤ vD l * 2 ^ k * 10 ∧ newE l k ≤ 19 := by
  obtain ⟨a, b, c, d, e, f, g, _⟩ := cheat_ok h1 h2
  have hc := digs_dig c
  have hlen : (digs (cheatS k)).length = (cheatS k).length := by simp [digs]
  have hlast : ∃ c' d, digs (cheatS k) = c' ++ [d] ∧ d ≠ 0 := by
    rcases snoc_cases (cheatS k) with h0 | ⟨c', x, h0⟩
    · rw [h0] at e; cases e
    · rw [h0] at e
      simp at e
      refine ⟨digs c', 5, ?_, by decide⟩
      rw [h0, e]; simp [digs]
  have h10 : (10 : Nat) ^ k = 2 ^ k * 5 ^ k := by rw [← Nat.mul_pow]
  have hlt := vD_lt hg.1
  have p5 : 0 < (5 : Nat) ^ k := Nat.pow_pos (by decide)
  unfold newE
  by_cases hp : pLess l (digs (cheatS k)) = true
  · rw [if_pos hp]
    have t := pLess_true l _ hg.1 hc hlast hp
    rw [b, hlen] at t
    refine ⟨?_, ?_, by omega⟩
    · -- vD l * 10^m < 5^k * 10^L
      have t2 : vD l * 10 ^ (cheatS k).length * 2 ^ k < 5 ^ k * 10 ^ l.length * 2 ^ k := Nat.mul_lt_mul_of_pos_right t (Nat.two_pow_pos k)
      have e1 : 5 ^ k * 10 ^ l.length * 2 ^ k = 10 ^ (l.length + (cheatD k - 1)) * 10 ^ (cheatS k).length := by
        rw [← Nat.pow_add, show l.length + (cheatD k - 1) + (cheatS k).length = k + l.length by omega, Nat.pow_add, h10]; ac_rfl
      have e2 : vD l * 10 ^ (cheatS k).length * 2 ^ k = vD l * 2 ^ k * 10 ^ (cheatS k).length := by ac_rfl
      rw [e1, e2] at t2
      exact Nat.lt_of_mul_lt_mul_right t2
    · -- from below: at least l.length + D - 2
      obtain ⟨_, d0, t0, rfl, h0⟩ := hg
      have g1 := vD_ge d0 t0
      have g2 : 1 * 10 ^ t0.length ≤ d0 * 10 ^ t0.length := Nat.mul_le_mul_right _ (by omega)
      have g3 : 10 ^ t0.length * 2 ^ k ≤ vD (d0 :: t0) * 2 ^ k := Nat.mul_le_mul_right _ (by omega)
      have g4 : 10 ^ (cheatD k - 1) ≤ 2 ^ k := by
        have : 10 ^ (cheatD k - 1) * 5 ^ k ≤ 2 ^ k * 5 ^ k := by
          rw [← h10, ← b]
          have u := vD_lt hc
          rw [hlen] at u
          have : 10 ^ (cheatD k - 1) * vD (digs (cheatS k)) ≤ 10 ^ (cheatD k - 1) * 10 ^ (cheatS k).length := Nat.mul_le_mul_left _ (Nat.le_of_lt u)
          rw [← Nat.pow_add, show cheatD k - 1 + (cheatS k).length = k by omega] at this
          exact this
        exact Nat.le_of_mul_le_mul_right this p5
      rw [List.length_cons, show t0.length + 1 + (cheatD k - 1) = t0.length + (cheatD k - 1) + 1 by omega, Nat.pow_succ, Nat.pow_add]
      have g5 : 10 ^ t0.length * 10 ^ (cheatD k - 1) ≤ 10 ^ t0.length * 2 ^ k := Nat.mul_le_mul_left _ g4
      omega
  · rw [if_neg hp]
    have t := pLess_false l _ hg.1 hc (by simpa using hp)
    rw [b, hlen] at t
    refine ⟨?_, ?_, g⟩
    · rw [Nat.pow_add]
      have g1 : vD l * 2 ^ k < 10 ^ l.length * 2 ^ k := Nat.mul_lt_mul_of_pos_right hlt (Nat.two_pow_pos k)
      have g2 : 10 ^ l.length * 2 ^ k ≤ 10 ^ l.length * 10 ^ cheatD k := Nat.mul_le_mul_left _ d
      omega
    · have t2 : 5 ^ k * 10 ^ l.length * 2 ^ k ≤ vD l * 10 ^ (cheatS k).length * 2 ^ k := Nat.mul_le_mul_right _ t
      have e1 : 5 ^ k * 10 ^ l.length * 2 ^ k * 10 = 10 ^ (l.length + cheatD k) * 10 ^ (cheatS k).length := by
        rw [← Nat.pow_add, show l.length + cheatD k + (cheatS k).length = k + l.length + 1 by omega, Nat.pow_succ, Nat.pow_add, h10]; ac_rfl
      have e2 : vD l * 10 ^ (cheatS k).length * 2 ^ k * 10 = vD l * 2 ^ k * 10 * 10 ^ (cheatS k).length := by ac_rfl
      have t3 := Nat.mul_le_mul_right 10 t2
      rw [e1, e2] at t3
      exact Nat.le_of_mul_le_mul_right t3 (Nat.pow_pos (by decide))
end Go.Proofs.YtilkcnoooecngaaGreatDoor
namespace Go.Proofs.YtilkcnoooecngaaGreatDoor
open Go.RowKit
set_option linter.unusedVariables false
theorem drop_dg {l : List Nat} {i : Nat} (h : i < l.length) : l.drop i = dg l i :: l.drop (i + 1) := by
  rw [List.drop_eq_getElem_cons h]
  congr 1
  unfold dg
  rw [List.getD_eq_getElem?_getD, List.getElem?_eq_getElem h]; rfl
theorem pl_end {l c : List Nat} {i : Nat} (h : c.length ≤ i) : pLess (l.drop i) (c.drop i) = false := by
  rw [List.drop_of_length_le h]
  cases l.drop i <;> rfl
theorem pl_short {l c : List Nat} {i : Nat} (h : i < c.length) (h2 : l.length ≤ i) : pLess (l.drop i) (c.drop i) = true := by
  rw [drop_dg h, List.drop_of_length_le h2]; rfl
theorem pl_step {l c : List Nat} {i : Nat} (h : i < c.length) (h2 : i < l.length) : pLess (l.drop i) (c.drop i) = if dg l i = dg c i then pLess (l.drop (i + 1)) (c.drop (i + 1)) else decide (dg l i < dg c i) := by
  rw [drop_dg h, drop_dg h2]; rfl
theorem dg_digs {c : ByteArray} {i : Nat} (h : i < c.size) : dg (digs c.data.toList) i = bt c i - 48 := by
  have h' : i < c.data.toList.length := h
  unfold dg digs bt
  rw [List.getD_eq_getElem?_getD, List.getElem?_map, List.getD_eq_getElem?_getD, List.getElem?_eq_getElem h']; rfl
theorem bt_mem {c : ByteArray} {i : Nat} (h : i < c.size) : ∃ x ∈ c.data.toList, bt c i = x.toNat := by
  have h' : i < c.data.toList.length := h
  refine ⟨c.data.toList[i], List.getElem_mem h', ?_⟩
  unfold bt
  rw [List.getD_eq_getElem?_getD, List.getElem?_eq_getElem h']; rfl
def PlRet (l : List Nat) (c : ByteArray) (w : World) (e : Ending) (w' : World) : Prop := e = .returned (.bool (pLess l (digs c.data.toList))) ∧ ∃ m, w' = w.drewN m
set_option maxHeartbeats 4000000 in
set_option maxRecDepth 100000 in
theorem pl_any (b cap : Nat) (D : Nat → Nat) (l : List Nat) (c : ByteArray) (nd dp : Int) (ng tr : Bool) (w : World) (h : SD w b D nd dp ng tr) (hR : Rep D l) (hl : l.length ≤ 800) (hg : Dig l) (hc : ∀ x ∈ c.data.toList, 48 ≤ x.toNat ∧ x.toNat ≤ 57) (hc2 : c.size ≤ 60) :
    Calls Tryz.prog 109 #[.slice (some ⟨b, 0, none⟩) l.length cap, .string c] w (PlRet l c w) := by
  obtain ⟨L, hL⟩ : ∃ L, l.length = L := ⟨_, rfl⟩
  rw [hL] at hl ⊢
  have HL := Lib.hid hL
  obtain ⟨n, hn⟩ : ∃ n, c.size = n := ⟨_, rfl⟩
  have HN := Lib.hid hn
  rw [hn] at hc2
  have HD := Lib.hid h
  have HR := Lib.hid hR
  have HG := Lib.hid hg
  have HC := Lib.hid hc
  have hcl : (digs c.data.toList).length = n := by rw [← hn]; simp [digs]
  have HCl := Lib.hid hcl
  clear h hR hg hc hL hcl
  unfold PlRet
  obtain ⟨R, hRR⟩ : ∃ R, pLess l (digs c.data.toList) = R := ⟨_, rfl⟩
  have HRR := Lib.hid hRR
  rw [hRR]
  clear hRR
  go_enter Tryz.func109, Tryz.ntmps109
  go_wp2_with fail
  go_loopw [5] (fun iv wr => ∃ (i m : Nat), iv = .int .i64 (i : Int) ∧ i ≤ n ∧ Hid (pLess (l.drop i) ((digs c.data.toList).drop i) = R) ∧ wr = w.drewN m) (fun iv _ => n - (intOf iv).toNat)
  case atStart => exact ⟨0, 0, rfl, by omega, HRR, rfl⟩
  case round =>
    obtain ⟨i, m, rfl, hi, HX, rfl⟩ := hrel
    by_cases hlt : i < n
    · by_cases hiL : i < L
      · have f1 := HD.out.cdig (i := i) (by omega)
        rw [HR.out i (by rw [HL.out]; exact hiL)] at f1
        have i1 := ixB c i (by rw [HN.out]; exact hlt)
        have hx10 := dg_lt HG.out i
        have hy : 48 ≤ bt c i ∧ bt c i ≤ 57 := by
          obtain ⟨x, hx, e⟩ := bt_mem (c := c) (i := i) (by rw [HN.out]; exact hlt)
          rw [e]; exact HC.out x hx
        have hst := pl_step (l := l) (c := digs c.data.toList) (i := i) (by rw [HCl.out]; exact hlt) (by rw [HL.out]; exact hiL)
        rw [HX.out, dg_digs (by rw [HN.out]; exact hlt)] at hst
        obtain ⟨y, hyy⟩ : ∃ y, bt c i = y + 48 := ⟨bt c i - 48, by omega⟩
        rw [hyy] at i1 hst
        rw [Nat.add_sub_cancel] at hst
        generalize dg l i = x at *
        have hy9 : y < 10 := by omega
        clear hy hyy
        by_cases hxy : x = y
        · subst hxy
          rw [if_pos rfl] at hst
          have HS := Lib.hid hst.symm
          have q1 : ((x : Int) + 48 != (x : Int) + 48) = false := by simp
          clear hst HX
          go_wp2_with fail
          go_quiet (fail)
          go_wp2_with fail
          go_roundw
          case rel => exact ⟨i + 1, m + nq, by go_num, by omega, HS, rfl⟩
          case measure => simp [intOf]; omega
        · rw [if_neg hxy] at hst
          have HS := Lib.hid hst
          have q1 : ((x : Int) + 48 != (y : Int) + 48) = true := by rw [bne_iff_ne]; omega
          clear hst HX
          go_wp2_with fail
          go_quiet (fail)
          go_wp2_with fail
          go_quiet (fail)
          go_wp2
          go_ret
          refine ⟨?_, _, (World.drewN_drewN _ _ _).trans (World.drewN_drewN _ _ _)⟩
          rw [HS.out]
          refine congrArg Ending.returned (congrArg Value.bool ?_)
          exact decide_eq_decide.2 (by omega)
      · have HS := Lib.hid (show true = R by rw [← HX.out]; exact (pl_short (by rw [HCl.out]; exact hlt) (by rw [HL.out]; omega)).symm)
        go_wp2
        go_ret
        exact ⟨by rw [← HS.out]; rfl, m, rfl⟩
    · have HS := Lib.hid (show false = R by rw [← HX.out]; exact (pl_end (by rw [HCl.out]; omega)).symm)
      go_wp2
      go_ret
      exact ⟨by rw [← HS.out]; rfl, m, rfl⟩
end Go.Proofs.YtilkcnoooecngaaGreatDoor
