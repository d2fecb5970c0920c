/- ParseSeq, and the parser's step: Consume. Good texts alone. Printed by gen_ppF.py. -/
import Derived.Test.YtimdmdjkkgdohaaGreatDoorPpE
import Derived.StillTailTactics
import Derived.Lib.SlBytesConst
namespace Go.Proofs.YtimdmdjkkgdohaaGreatDoor
open Go.RowKit Go.MapKept
set_option linter.unusedVariables false
/-- strings.asciiSpace as it was laid, in blocks below B. -/
def SpB (B : Nat) (w : World) : Prop := ∃ w0, w0.heap.size ≤ B ∧ Spaces w0 ∧ Below B w0 w
theorem SpB.now {B : Nat} {w : World} (h : SpB B w) : Spaces w := by
  obtain ⟨w0, h1, h2, h3⟩ := h
  exact Go.Joins.tab_stays gSpaces h2 h3 h1
theorem SpB.below {B : Nat} {w w' : World} (h : SpB B w) (hb : Below B w w') : SpB B w' := by
  obtain ⟨w0, h1, h2, h3⟩ := h
  exact ⟨w0, h1, h2, h3.trans hb⟩
theorem eql_nil0 (w : World) : (binOp .eql 42 (.map none) (.map none)).run Tryz.prog w = .ok (.bool true) w := by kernel_rfl
theorem eql_nil1 (c : Nat) (w : World) : (binOp .eql 42 (.map (some c)) (.map none)).run Tryz.prog w = .ok (.bool false) w := by kernel_rfl
def SeqRet (B b : Nat) (p : PS) (l : List Int) (w : World) (e : Ending) (w' : World) : Prop := e = .returned (.tuple #[]) ∧ (∃ m' v', PSt w' B b m' v' ⟨some l, p.e, p.k, p.q⟩) ∧ Fp B w w'
set_option maxHeartbeats 2000000 in
set_option maxRecDepth 100000 in
theorem parseSeq_any {w : World} {B b n : Nat} {m v : Value} {p : PS} {zs : List Int} (h : PSt w B b m v p) (hk : CsOk (p.cs.getD [])) (hc : ∀ i, i < n → cdB n (zs.getD i 0)) (h0 : 0 < n) (h4 : n ≤ 4) (hS : SpB B w) :
    Calls Tryz.prog 26 #[.pointer (some ⟨b, 0, none⟩), .string ⟨(27 :: 91 :: (mid zs n ++ [109])).toArray⟩, .int .i64 1] w (SeqRet B b p (insTo (p.cs.getD []) zs n) w) := by
  obtain ⟨cs, pe, pk, pq⟩ := p
  have HS := Lib.hid hS
  have HC := Lib.hid hc
  have HK := Lib.hid hk
  have HP := Lib.hid h
  have f0 := h.cell0
  have hmp := h.map
  have hBw := h.lt
  clear h hS hc hk
  cases cs with
  | none =>
    obtain rfl : m = .map none := hmp
    have hmm := run_makeM w
    have hnl := eql_nil0 w
    go_enter Tryz.func26, Tryz.ntmps26
    go_wp2_with ((with_reducible refine gate_st (t := 42) rfl ?_); refine halt_L ?_)
    refine resume_L ?_
    have hb1 := (Below.refl w.heap.size w).alloc (Nat.le_refl _) (.map #[] 0)
    have HP1 := Lib.hid (HP.out.below hb1 (Nat.le_refl _))
    have HM1 := Lib.hid (PMap.made w)
    have HF1 := Lib.hid ((Fp.refl B w).belowT hb1 hBw)
    refine wpList_put HP1.out.blk (o := 0) (v := .map (some w.heap.size)) (by simp) rfl rfl rfl infoMp ?_
    intro w2 hb2 p2
    have HP2 := Lib.hid (show PSt w2 B b (.map (some w.heap.size)) v ⟨some [], pe, pk, pq⟩ from HP1.out.put p2 hb2 HP1.out.row ⟨_, rfl, hBw, HM1.out⟩)
    have HF2 := Lib.hid (HF1.out.put HP1.out.blk HP1.out.lt HP1.out.Bb p2)
    clear hb1 hb2 p2 f0 hmm hnl
    have hSp := ((HS.out.below HF2.out.below).now)
    have hT := strip_any (.pointer (some ⟨b, 0, none⟩)) (mid zs n) w2 (mid_dgs zs n n HC.out).1 (by have := (mid_dgs zs n n HC.out).2; omega)
    have HSp := Lib.hid hSp
    clear hSp
    go_wp2_with (go_at_call 38; refine halt_H ?_)
    refine resume_H ?_
    refine (hT).mono ?_
    rintro e w3 ⟨rfl, hb3⟩
    have hbs3 := hb3.size
    have HB3 := Lib.hid hb3
    clear hT hb3
    have hT := splitTrim_any (.pointer (some ⟨b, 0, none⟩)) zs n n w3 HC.out h0 h4 (HSp.out.stays HB3.out)
    go_wp2_with (go_at_call 39; refine halt_H ?_)
    refine resume_H ?_
    refine (hT).mono ?_
    rintro e w4 ⟨g, cap, rfl, hc1, hc2, ho, hb4⟩
    have HO4 := Lib.hid ho
    have HB4 := Lib.hid (HB3.out.trans (hb4.mono hbs3))
    have hbs4 := HB4.out.size
    have HC4 := Lib.hid (And.intro hc1 hc2)
    clear hT ho hb4 hc2
    have hT := pAll_any (.pointer (some ⟨b, 0, none⟩)) zs n g cap w3.heap.size w4 HC.out h4 HC4.out HO4.out
    go_wp2_with (go_at_call 40; refine halt_H ?_)
    refine resume_H ?_
    refine (hT).mono ?_
    rintro e w5 ⟨mb, rfl, hmb, hm, hb5⟩
    have HB5 := Lib.hid (HB4.out.trans (hb5.mono hbs4))
    have HO5 := Lib.hid (own_below HO4.out hb5 (Nat.le_refl _))
    have HM5 := Lib.hid hm
    have HP5 := Lib.hid (HP2.out.below HB5.out (Nat.le_refl _))
    have HF5 := Lib.hid (HF2.out.belowT HB5.out HP2.out.lt)
    have hne : (.map (some w.heap.size) : Value) ≠ .map (some mb) := fun e => by
      obtain ⟨m0, e0, _, hm0⟩ := HP2.out.map
      rw [e0] at e
      injection e with e; injection e with e
      have := hm0.lt
      omega
    have hT := regularAll_any HP5.out rfl (l := []) HK.out HC.out h4 HC4.out HO5.out HM5.out hne
    clear hm hb5 hne hmb hbs3 hbs4
    go_wp2_with (go_at_call 41; refine halt_H ?_)
    refine resume_H ?_
    refine (hT).mono ?_
    rintro e w6 ⟨rfl, ⟨m6, v6, hP6⟩, hF6⟩
    have HP6 := Lib.hid hP6
    have HF6 := Lib.hid (HF5.out.trans hF6)
    clear hT hP6 hF6
    go_wp2
    go_end0
    exact ⟨rfl, ⟨m6, v6, HP6.out⟩, HF6.out⟩
  | some l =>
    obtain ⟨mb0, rfl, hB0, hm0⟩ := hmp
    have HF2 := Lib.hid (Fp.refl B w)
    have hnl := eql_nil1 mb0 w
    go_enter Tryz.func26, Tryz.ntmps26
    clear hm0 hB0
    have hSp := ((HS.out.below HF2.out.below).now)
    have hT := strip_any (.pointer (some ⟨b, 0, none⟩)) (mid zs n) w (mid_dgs zs n n HC.out).1 (by have := (mid_dgs zs n n HC.out).2; omega)
    have HSp := Lib.hid hSp
    clear hSp
    go_wp2_with (go_at_call 38; refine halt_H ?_)
    refine resume_H ?_
    refine (hT).mono ?_
    rintro e w3 ⟨rfl, hb3⟩
    have hbs3 := hb3.size
    have HB3 := Lib.hid hb3
    clear hT hb3
    have hT := splitTrim_any (.pointer (some ⟨b, 0, none⟩)) zs n n w3 HC.out h0 h4 (HSp.out.stays HB3.out)
    go_wp2_with (go_at_call 39; refine halt_H ?_)
    refine resume_H ?_
    refine (hT).mono ?_
    rintro e w4 ⟨g, cap, rfl, hc1, hc2, ho, hb4⟩
    have HO4 := Lib.hid ho
    have HB4 := Lib.hid (HB3.out.trans (hb4.mono hbs3))
    have hbs4 := HB4.out.size
    have HC4 := Lib.hid (And.intro hc1 hc2)
    clear hT ho hb4 hc2
    have hT := pAll_any (.pointer (some ⟨b, 0, none⟩)) zs n g cap w3.heap.size w4 HC.out h4 HC4.out HO4.out
    go_wp2_with (go_at_call 40; refine halt_H ?_)
    refine resume_H ?_
    refine (hT).mono ?_
    rintro e w5 ⟨mb, rfl, hmb, hm, hb5⟩
    have HB5 := Lib.hid (HB4.out.trans (hb5.mono hbs4))
    have HO5 := Lib.hid (own_below HO4.out hb5 (Nat.le_refl _))
    have HM5 := Lib.hid hm
    have HP5 := Lib.hid (HP.out.below HB5.out (Nat.le_refl _))
    have HF5 := Lib.hid (HF2.out.belowT HB5.out HP.out.lt)
    have hne : (.map (some mb0) : Value) ≠ .map (some mb) := fun e => by
      obtain ⟨m0, e0, _, hm0⟩ := HP.out.map
      rw [e0] at e
      injection e with e; injection e with e
      have := hm0.lt
      omega
    have hT := regularAll_any HP5.out rfl (l := l) HK.out HC.out h4 HC4.out HO5.out HM5.out hne
    clear hm hb5 hne hmb hbs3 hbs4
    go_wp2_with (go_at_call 41; refine halt_H ?_)
    refine resume_H ?_
    refine (hT).mono ?_
    rintro e w6 ⟨rfl, ⟨m6, v6, hP6⟩, hF6⟩
    have HP6 := Lib.hid hP6
    have HF6 := Lib.hid (HF5.out.trans hF6)
    clear hT hP6 hF6
    go_wp2
    go_end0
    exact ⟨rfl, ⟨m6, v6, HP6.out⟩, HF6.out⟩
/-- What has come is no hyperlink. -/
def Nlk (q : List UInt8) : Prop := q = [27] ∨ ∃ m, q = 27 :: 91 :: m
theorem Nlk.pre {q : List UInt8} (h : Nlk q) : Lib.hasPrefix (Lib.bytesOf (q.map fun c => (c.toNat : Int))) (Lib.bytesOf [27, 93, 56, 59]) = false := by
  have e : Lib.bytesOf (q.map fun c => (c.toNat : Int)) = q := by
    unfold Lib.bytesOf
    rw [List.map_map]
    conv => rhs; rw [← List.map_id q]
    apply List.map_congr_left
    intro c _
    simp
  rw [e]
  rcases h with rfl | ⟨m, rfl⟩
  · decide
  · unfold Lib.hasPrefix
    simp [Lib.bytesOf, List.isPrefixOf]
theorem Nlk.pos {q : List UInt8} (h : Nlk q) : 0 < q.length := by
  rcases h with rfl | ⟨m, rfl⟩ <;> simp
theorem own_byte {w : World} {B g cap : Nat} {q : List UInt8} (h : w.ownsRow B tU 1 (.slice (some ⟨g, 0, none⟩) q.length cap) q.length (bcells q)) : ∀ i, i < q.length → w.cell? ⟨g, 0 + i, none⟩ = some (.int .u8 ((q.map fun c => (c.toNat : Int)).getD i 0)) := by
  intro i hi
  have e : (bcells q)[i]? = some (.int .u8 ((q.map fun c => (c.toNat : Int)).getD i 0)) := by
    rw [List.getD_eq_getElem?_getD, List.getElem?_map, List.getElem?_eq_getElem hi]
    simp [bcells, hi]
  have := h.cells (g := g) rfl i _ e
  rwa [Addr.add_lit] at this
set_option maxHeartbeats 1000000 in
set_option maxRecDepth 100000 in
theorem isStop_any {w : World} {B b : Nat} {m v : Value} {p : PS} (h : PSt w B b m v p) (hq : Nlk p.q) (hl : p.q.length ≤ 1000) (hk : p.k = 0 ∨ p.k = 1) (r : Int) (t : Bool) (ht : t = (decide (p.k = 1) && decide (r = 109))) :
    Calls Tryz.prog 27 #[.pointer (some ⟨b, 0, none⟩), .int .i32 r] w fun e w' => e = .returned (.bool t) ∧ Below w.heap.size w w' := by
  obtain ⟨cs, pe, pk, q⟩ := p
  simp only at hq hl hk ht
  obtain ⟨g, cap, rfl, hc1, hc2⟩ := own_some h.row hq.pos
  have hM : cap ≤ 9223372036854775807 := hc2
  have f2 := h.cell2
  have f3 := h.cell3
  simp only at f2 f3 hc1
  have HP := Lib.hid h
  have hx : (q.map fun c => (c.toNat : Int)).length = q.length := by simp
  have hpre := hq.pre
  have HX := Lib.hid (fun W (hb : Below w.heap.size w W) g2 (h2 : ∀ i, i < 4 → W.cell? ⟨g2, 0 + i, none⟩ = some (.int .u8 (([27, 93, 56, 59] : List Int).getD i 0))) => Tryz.bytes_HasPrefix g 0 q.length cap g2 0 4 4 _ [27, 93, 56, 59] W hx rfl hc1 (own_byte (own_below HP.out.row hb (Nat.le_refl _))) h2)
  simp only [hpre] at HX
  have hb1 : Below w.heap.size w (w.alloc (.cells #[.int .u8 27, .int .u8 93, .int .u8 56, .int .u8 59] tU (4, 5))) := (Below.refl w.heap.size w).alloc (Nat.le_refl _) _
  have hT := HX.out _ hb1 w.heap.size (fun i hi => by
    rw [Nat.zero_add, cell_of_row _ _ _ _ _ _ (heap_alloc_new w _)]
    have : i = 0 ∨ i = 1 ∨ i = 2 ∨ i = 3 := by omega
    rcases this with rfl | rfl | rfl | rfl <;> rfl)
  have HB1 := Lib.hid hb1
  have f2' := (HP.out.below hb1 (Nat.le_refl _)).cell2
  simp only at f2'
  have hcv : (convert tB tB (.slice (some ⟨w.heap.size, 0, none⟩) 4 4)).run Tryz.prog (w.alloc (.cells #[.int .u8 27, .int .u8 93, .int .u8 56, .int .u8 59] tU)) = .ok (.slice (some ⟨w.heap.size, 0, none⟩) 4 4) (w.alloc (.cells #[.int .u8 27, .int .u8 93, .int .u8 56, .int .u8 59] tU (4, 5))) := Lib.run_convert_bytes_const w tB tU #[.int .u8 27, .int .u8 93, .int .u8 56, .int .u8 59] 4 4 Tryz.underlying44 Tryz.underlying5
  clear hx hpre HX hb1 h hq
  generalize q.length = L at *
  by_cases hr : r = 109
  · subst hr
    rcases hk with rfl | rfl
    all_goals
      obtain rfl := ht
      go_enter Tryz.func27, Tryz.ntmps27
      go_wp2_with (go_at_call 25; refine halt_H ?_)
      refine resume_H ?_
      refine hT.mono ?_
      rintro e w1 ⟨rfl, rfl⟩
      clear hT
      go_wp2
      go_ret
      exact ⟨rfl, HB1.out⟩
  · have q1 : (r == 109) = false := by rw [beq_eq_false_iff_ne]; exact hr
    have q2 : decide (r = 109) = false := decide_eq_false hr
    rw [q2, Bool.and_false] at ht
    subst ht
    clear hr q2
    rcases hk with rfl | rfl
    all_goals
      go_enter Tryz.func27, Tryz.ntmps27
      go_wp2_with (go_at_call 25; refine halt_H ?_)
      refine resume_H ?_
      refine hT.mono ?_
      rintro e w1 ⟨rfl, rfl⟩
      clear hT
      go_wp2
      go_ret
      exact ⟨rfl, HB1.out⟩
end Go.Proofs.YtimdmdjkkgdohaaGreatDoor
