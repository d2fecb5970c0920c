/- The codes of a sequence taken in: processCode, processRegularCodes, ParseSeq. Good sequences alone. -/
import Derived.Test.YtimdmdjkkgdohaaGreatDoorPpD
namespace Go.Proofs.YtimdmdjkkgdohaaGreatDoor
open Go.RowKit Go.MapKept
set_option linter.unusedVariables false
section
variable {w w' : World} {b : Nat} {l : List (Int × Value)} {P : Program}
/-- A value stored again under its key changes nothing. -/
theorem PMap.run_same (h : PMap w b l) (hd : (l.map (·.1)).Nodup) {t kt et : TypeId} {k : Int} {v : Value} (hv : (k, v) ∈ l) (ht : P.underlying t = some (.map kt et)) (hkt : P.underlying kt = some (.int .i64)) :
    ∃ w', (Instr.mapUpdate t (.map (some b)) (.int .i64 k) v).run P w = .ok () w' ∧ PMap w' b l ∧ Put w w' b := by
  obtain ⟨es, clock, hb, hs, hq, hc⟩ := h.find k
  have hK : IsKey (.int .i64) (.int .i64 k) := rfl
  have hc0 := MapKept.run_checkKey (P := P) (w := w) hkt hK false 9999
  rcases hc with ⟨v', hv', j, hf, e, hj, hek, hev⟩ | ⟨hn, _⟩
  · obtain rfl : v' = v := uniq hd hv' hv
    have hrun := MapKept.run_findKey (P := P) (w := w) hkt hf
    have hj' : es[j]? = some e := by rw [← Array.getElem?_toList]; exact hj
    have hkey : ((es[j]?.map (·.key)).getD (.int .i64 k)) = .int .i64 k := by rw [hj']; exact hek
    have hsame : (es.modify j fun e => { e with key := .int .i64 k, val := v' }) = es := by
      apply Array.ext_getElem?
      intro i
      rw [Array.getElem?_modify]
      split
      · rename_i e1
        subst e1
        rw [hj']
        simp only [Option.map_some, Option.some.injEq]
        obtain ⟨k0, v0, b0⟩ := e
        simp only at hek hev
        subst hek hev
        rfl
      · rfl
    refine ⟨{ w with heap := w.heap.setIfInBounds b (.map es clock) }, ?_, ⟨es, clock, (MapKept.heap_set hb).1, hs, hq⟩, put_obj hb⟩
    simp only [Instr.mapUpdate, Sem.run_bind, run_underlying ht, Result.andThen_ok, MapKept.run_getObj_map hb, hc0, hrun, hkey, MapKept.run_keyThatStays hK, MapKept.run_setObj_map _ hb, hsame]
  · exact absurd rfl (hn (k, v) hv)
end
theorem mks_fst (l : List Int) : (mks l).map (·.1) = l := by simp [mks, Function.comp_def]
theorem PMap.run_ins {w : World} {b : Nat} {l : List Int} (h : PMap w b (mks l)) (hn : l.Nodup) {c : Int} (hc : c ≠ 0) :
    ∃ w', (Instr.mapUpdate 42 (.map (some b)) (.int .i64 c) (.bool true)).run Tryz.prog w = .ok () w' ∧ PMap w' b (mks (ins l c)) ∧ Put w w' b := by
  unfold ins
  rw [if_neg hc]
  by_cases hm : c ∈ l
  · rw [if_pos hm]
    exact h.run_same (by rw [mks_fst]; exact hn) (List.mem_map.2 ⟨c, hm, rfl⟩) Tryz.underlying42 Tryz.underlying3
  · rw [if_neg hm]
    obtain ⟨w', h1, h2, h3⟩ := h.run_new (P := Tryz.prog) (k := c) (v := .bool true) (fun p hp => by
      obtain ⟨x, hx, rfl⟩ := List.mem_map.1 hp
      intro e
      exact hm (by rw [← e]; exact hx)) Tryz.underlying42 Tryz.underlying3
    refine ⟨w', h1, h2.perm ?_, h3⟩
    unfold mks
    rw [List.map_append]
    exact (List.perm_append_comm (l₁ := [(c, Value.bool true)])).trans (List.Perm.refl _)
set_option maxRecDepth 100000 in
theorem wpList_ins {w : World} {b : Nat} {ops : Array Oper} {rest : List Oper} {a : Act} {Q : Exit → Act → World → Prop} {mo ko vo : Operand} {ty : TypeId} {ps : String} {af : Array Edge} {l : List Int} {c : Int} (h : PMap w b (mks l)) (hn : l.Nodup) (hc : c ≠ 0)
    (hm : a.eval mo = .map (some b)) (hk : a.eval ko = .int .i64 c) (hv : a.eval vo = .bool true)
    (hK : ∀ w', PMap w' b (mks (ins l c)) → Put w w' b → wpList Tryz.prog ops Q rest a w') : wpList Tryz.prog ops Q (⟨none, .mapUpdate 42 mo ko vo, ty, ps, af, none⟩ :: rest) a w := by
  refine wpList_plain rfl fun K' hK' => ?_
  obtain ⟨w', hrun, r1, r2⟩ := h.run_ins hn hc
  unfold Oper.wp execOp
  simp only [hm, hk, hv, Sem.run_bind, hrun, Result.andThen_ok, Sem.run_pure]
  show K' a w'
  exact hK' _ _ (hK w' r1 r2)
theorem Fp.mput {B mb : Nat} {a w w' : World} {L : List (Int × Value)} (h : Fp B a w) (hm : PMap w mb L) (hB : B ≤ w.heap.size) (hbB : B ≤ mb) (p : Put w w' mb) : Fp B a w' :=
  ⟨p.below h.below hB hbB, fun i t ds h0 h1 hc => p.blk (h.fr i t ds h0 h1 hc) (hm.ne_blk (h.fr i t ds h0 h1 hc)), fun k s pos hk => (p.keep (it_lt (h.it k s pos hk)) (fun e => by
    obtain ⟨es, clock, hb, _⟩ := hm
    have := h.it k s pos hk
    rw [e, hb] at this; cases this)).trans (h.it k s pos hk)⟩
theorem own_mput {w w' : World} {B mb n : Nat} {v : Value} {xs : List Value} {u : TypeId} {L : List (Int × Value)} (h : w.ownsRow B u 1 v n xs) (hm : PMap w mb L) (p : Put w w' mb) : w'.ownsRow B u 1 v n xs := by
  refine h.kept p.grown ?_
  by_cases hn : v.ownBlock = none
  · exact .inl hn
  · refine .inr fun e => ?_
    rcases h.2 with ⟨rfl, _⟩ | ⟨g, cap, cur, rfl, _, hgb, _⟩
    · simp [Value.ownBlock] at e
    · simp [Value.ownBlock] at e
      exact hm.ne_blk (t := u) hgb e
theorem PSt.mput {w w' : World} {B b mb : Nat} {v : Value} {p : PS} {l l' : List Int} (h : PSt w B b (.map (some mb)) v p) (hl : p.cs = some l) (hm : PMap w mb (mks l)) (hp : Put w w' mb) (hm' : PMap w' mb (mks l')) (hB : B ≤ mb) : PSt w' B b (.map (some mb)) v ⟨some l', p.e, p.k, p.q⟩ :=
  ⟨hp.blk h.blk (hm.ne_blk h.blk), own_mput h.row hm hp, ⟨mb, rfl, hB, hm'⟩, h.Bb⟩
/-- What a code makes of the parser: other maps stay. -/
def CodeRet (B b : Nat) (m : Value) (p : PS) (l : List Int) (w : World) (e : Ending) (w' : World) : Prop :=
  e = .returned (.tuple #[]) ∧ (∃ m' v', PSt w' B b m' v' ⟨some l, p.e, p.k, p.q⟩ ∧ (∀ c, c < w.heap.size → m ≠ .map (some c) → m' ≠ .map (some c))) ∧ Fp B w w' ∧ (∀ c L, m ≠ .map (some c) → PMap w c L → PMap w' c L)
set_option maxHeartbeats 1000000 in
theorem regular_any (a : Value) (c : Int) (w : World) (hc : c ≤ 107) : Calls Tryz.prog 70 #[a, .int .i64 c] w fun e w' => e = .returned (.bool true) ∧ w' = w := by
  go_enter Tryz.func70, Tryz.ntmps70
  go_wp2
  go_ret
  exact ⟨rfl, rfl⟩
set_option maxHeartbeats 1000000 in
set_option maxRecDepth 100000 in
theorem code_any {w : World} {B b n : Nat} {m v : Value} {p : PS} {l : List Int} (h : PSt w B b m v p) (hl : p.cs = some l) (hn : l.Nodup) (c : Int) (hc : cdB n c) :
    Calls Tryz.prog 54 #[.pointer (some ⟨b, 0, none⟩), .int .i64 c] w (CodeRet B b m p (ins l c) w) := by
  have hBw := h.lt
  rcases hc with hc | ⟨rfl, _⟩
  · obtain ⟨e0, e1, e2, e3, e4, e5, e6, e7, e8, e9, e10⟩ := attr_not hc
    have hR := fun W => regular_any (.pointer (some ⟨b, 0, none⟩)) c W (attr_le hc).2
    have q0 : (c == 0) = false := by rw [beq_eq_false_iff_ne]; exact e0
    have q1 : (c == 22) = false := by rw [beq_eq_false_iff_ne]; exact e1
    have q2 : (c == 23) = false := by rw [beq_eq_false_iff_ne]; exact e2
    have q3 : (c == 24) = false := by rw [beq_eq_false_iff_ne]; exact e3
    have q4 : (c == 25) = false := by rw [beq_eq_false_iff_ne]; exact e4
    have q5 : (c == 27) = false := by rw [beq_eq_false_iff_ne]; exact e5
    have q6 : (c == 29) = false := by rw [beq_eq_false_iff_ne]; exact e6
    have q7 : (c == 39) = false := by rw [beq_eq_false_iff_ne]; exact e8
    have q8 : (c == 49) = false := by rw [beq_eq_false_iff_ne]; exact e10
    have H0 := Lib.hid e0
    clear hc e0 e1 e2 e3 e4 e5 e6 e7 e8 e9 e10
    have hmp := h.map
    rw [hl] at hmp
    obtain ⟨mb, rfl, hB, hm⟩ := hmp
    have f0 := h.cell0
    have HP := Lib.hid h
    have HM := Lib.hid hm
    have HN := Lib.hid hn
    clear h hm hn
    go_enter Tryz.func54, Tryz.ntmps54
    go_wp2_with (go_at_call 70; refine halt_H ?_)
    refine resume_H ?_
    refine (hR _).mono ?_
    rintro e w1 ⟨rfl, hw⟩
    obtain rfl := hw.symm
    clear hR
    go_wp2_with ((with_reducible refine gate_up rfl ?_); refine halt_L ?_)
    refine resume_L ?_
    refine wpList_ins HM.out HN.out H0.out rfl rfl rfl ?_
    intro w2 hm2 p2
    have HP2 := Lib.hid (HP.out.mput hl HM.out p2 hm2 hB)
    have HF2 := Lib.hid ((Fp.refl B w).mput HM.out hBw hB p2)
    have HO2 := Lib.hid (show ∀ c L, Value.map (some mb) ≠ .map (some c) → PMap w c L → PMap w2 c L from fun c L hne hL => p2.pmap hL (fun e => hne (by rw [e])))
    clear hm2 p2 f0
    go_wp2
    go_end0
    exact ⟨rfl, ⟨_, _, HP2.out, fun c _ hne => hne⟩, HF2.out, HO2.out⟩
  · have HP := Lib.hid h
    have hmm := run_makeM w
    have hbs := h.blk.lt
    clear h
    go_enter Tryz.func54, Tryz.ntmps54
    go_wp2_with ((with_reducible refine gate_st (t := 42) rfl ?_); refine halt_L ?_)
    refine resume_L ?_
    have hb1 := (Below.refl w.heap.size w).alloc (Nat.le_refl _) (.map #[] 0)
    have HP1 := Lib.hid (HP.out.below hb1 (Nat.le_refl _))
    have HM1 := Lib.hid (PMap.made w)
    have HF1 := Lib.hid ((Fp.refl B w).belowT hb1 hBw)
    refine wpList_put HP1.out.blk (o := 0) (v := .map (some w.heap.size)) (by simp) rfl rfl rfl infoMp ?_
    intro w2 hb2 p2
    have HP2 := Lib.hid (show PSt w2 B b (.map (some w.heap.size)) v ⟨some [], p.e, p.k, p.q⟩ from HP1.out.put p2 hb2 HP1.out.row ⟨_, rfl, hBw, HM1.out⟩)
    have HF2 := Lib.hid (HF1.out.put HP1.out.blk HP1.out.lt HP1.out.Bb p2)
    have HO2 := Lib.hid (show ∀ c L, m ≠ .map (some c) → PMap w c L → PMap w2 c L from fun c L hne hL => p2.pmap (hL.alloc _) (fun e => (hL.alloc (.map #[] 0)).ne_blk HP1.out.blk e.symm))
    clear hb1 hb2 p2
    go_wp2
    go_end0
    have e1 : ins l 0 = [] := if_pos rfl
    rw [e1]
    exact ⟨rfl, ⟨_, _, HP2.out, fun c hc _ e => by injection e with e; injection e with e; omega⟩, HF2.out, HO2.out⟩
theorem own_fp {w w' : World} {B B' n : Nat} {v : Value} {xs : List Value} {t : TypeId} (h : w.ownsRow B' t 1 v n xs) (hf : Fp B w w') (h1 : t ≠ tU) (h2 : t ≠ tP) : w'.ownsRow B' t 1 v n xs := by
  refine ⟨h.1, ?_⟩
  rcases h.2 with h0 | ⟨g, cap, cur, hv, hBg, r, r2⟩
  · exact .inl h0
  · exact .inr ⟨g, cap, cur, hv, hBg, hf.fr g t cur h1 h2 r, r2⟩
theorem insTo_cs {l : List Int} {zs : List Int} : ∀ k, insTo l zs (k + 1) = ins (insTo l zs k) (zs.getD k 0) := fun _ => rfl
def RegRet (B b : Nat) (p : PS) (l : List Int) (w : World) (e : Ending) (w' : World) : Prop := e = .returned (.tuple #[]) ∧ (∃ m' v', PSt w' B b m' v' ⟨some l, p.e, p.k, p.q⟩) ∧ Fp B w w'
theorem run_look0 {w : World} {mb : Nat} (h : PMap w mb []) (k : Int) : (Instr.lookup 42 (.map (some mb)) (.int .i64 k) false).run Tryz.prog w = .ok (.bool false) w := by
  obtain ⟨es, clock, hb, hs, hq, hc⟩ := h.find k
  have hK : IsKey (.int .i64) (.int .i64 k) := rfl
  have hc0 := MapKept.run_checkKey (P := Tryz.prog) (w := w) Tryz.underlying3 hK es.isEmpty 9999
  rcases hc with ⟨v', hv', _⟩ | ⟨hn, hf, _⟩
  · cases hv'
  · have hrun := MapKept.run_findKey (P := Tryz.prog) (w := w) Tryz.underlying3 hf
    have hz : (zeroValue 4).run Tryz.prog w = .ok (.bool false) w := by rw [Tryz.zeroValue4]
    simp only [Instr.lookup, Sem.run_bind, run_underlying (P := Tryz.prog) (w := w) Tryz.underlying42, Result.andThen_ok, MapKept.run_getObj_map hb, Sem.run_pure, hc0, hrun, hz]
    rfl
set_option maxHeartbeats 1000000 in
set_option maxRecDepth 100000 in
theorem regularAll_any {w : World} {B b n g cap B' mb : Nat} {m v : Value} {p : PS} {l zs : List Int} (h : PSt w B b m v p) (hl : p.cs = some l) (hk : CsOk l) (hc : ∀ i, i < n → cdB n (zs.getD i 0)) (h4 : n ≤ 4) (hcap : n ≤ cap ∧ cap ≤ maxLen)
    (ho : w.ownsRow B' tStr 1 (.slice (some ⟨g, 0, none⟩) n cap) n ((pcs zs n).map strV)) (hm : PMap w mb []) (hne : m ≠ .map (some mb)) :
    Calls Tryz.prog 41 #[.pointer (some ⟨b, 0, none⟩), .slice (some ⟨g, 0, none⟩) n cap, .map (some mb)] w (RegRet B b p (insTo l zs n) w) := by
  obtain ⟨hc1, hc2⟩ := hcap
  have hM : cap ≤ 9223372036854775807 := hc2
  have HH := Lib.hid (show ∃ (m' v' : Value), PSt w B b m' v' ⟨some (insTo l zs 0), p.e, p.k, p.q⟩ ∧ m' ≠ .map (some mb) from ⟨m, v, by rw [show insTo l zs 0 = l from rfl, ← hl]; exact h, hne⟩)
  have HM := Lib.hid hm
  have HO := Lib.hid ho
  have HC := Lib.hid hc
  have HA := Lib.hid (fun i (hi : i < n) => show ((pcs zs n).map strV)[i]? = some (strV (Lib.itoa (zs.getD i 0))) by rw [List.getElem?_map, pcs_at zs n i hi]; rfl)
  have HCs := Lib.hid (fun k (hk' : k ≤ n) => hk.insTo (zs := zs) k (fun i hi => hc i (by omega)))
  have hBw := h.lt
  clear h hm ho hc hk hne hc2
  go_enter Tryz.func41, Tryz.ntmps41
  go_wp2_with fail
  go_loopw [12] (fun iv wr => ∃ k : Nat, iv = .int .i64 (k : Int) ∧ k ≤ n ∧ Hid (∃ (m' v' : Value), PSt wr B b m' v' ⟨some (insTo l zs k), p.e, p.k, p.q⟩ ∧ m' ≠ .map (some mb)) ∧ Hid (PMap wr mb []) ∧ Hid (Fp B w wr)) (fun iv _ => n - (intOf iv).toNat)
  case atStart => exact ⟨0, rfl, by omega, HH, HM, Lib.hid (Fp.refl _ _)⟩
  case round =>
    clear HH HM
    obtain ⟨k, rfl, hkn, HH, HM, HF⟩ := hrel
    obtain ⟨wr, rfl⟩ : ∃ wz : World, wz = wr := ⟨_, rfl⟩
    by_cases hlt : k < n
    · have f0 := own_cellS (own_fp HO.out HF.out (by decide) (by decide)) (HA.out k hlt)
      have hlk := run_look0 HM.out (k : Int)
      have hA := atoi_code (zs.getD k 0) n wr (HC.out k hlt)
      obtain ⟨m1, v1, hP1, hne1⟩ := HH.out
      have hCode := fun (W : World) (hP : PSt W B b m1 v1 ⟨some (insTo l zs k), p.e, p.k, p.q⟩) => code_any hP rfl (HCs.out k hkn).1 (zs.getD k 0) (HC.out k hlt)
      have HCode := Lib.hid hCode
      have HP1 := Lib.hid (And.intro hP1 hne1)
      clear hP1 hne1 hCode
      unfold strV at hA f0
      generalize (⟨(Lib.itoa (zs.getD k 0)).toArray⟩ : ByteArray) = x at *
      obtain ⟨c, hc0⟩ : ∃ c, zs.getD k 0 = c := ⟨_, rfl⟩
      rw [hc0] at hA HCode
      have HC0 := Lib.hid hc0
      clear hc0
      go_wp2_with (go_at_call 53; refine halt_H ?_)
      refine resume_H ?_
      refine hA.mono ?_
      rintro e w2 ⟨rfl, hb⟩
      have HP2 := Lib.hid (HP1.out.1.below hb (Nat.le_refl _))
      have HM2 := Lib.hid (HM.out.keep (hb.block mb HM.out.lt))
      have HF2 := Lib.hid (HF.out.belowT hb HP1.out.1.lt)
      have hT := HCode.out w2 HP2.out
      clear hA hb f0 hlk
      go_wp2_with (go_at_call 54; refine halt_H ?_)
      refine resume_H ?_
      refine hT.mono ?_
      rintro e w3 ⟨rfl, ⟨m3, v3, hP3, hne3⟩, hF3, hO3⟩
      have HP3 := Lib.hid (show ∃ (m' v' : Value), PSt w3 B b m' v' ⟨some (insTo l zs (k + 1)), p.e, p.k, p.q⟩ ∧ m' ≠ .map (some mb) from ⟨m3, v3, by rw [insTo_cs, HC0.out]; exact hP3, hne3 mb HM2.out.lt HP1.out.2⟩)
      have HM3 := Lib.hid (hO3 mb [] HP1.out.2 HM2.out)
      have HF3 := Lib.hid (HF2.out.trans hF3)
      clear hT hP3 hne3 hF3 hO3
      go_wp2_with fail
      go_roundw
      case rel => exact ⟨k + 1, by go_num, by omega, HP3, HM3, HF3⟩
      case measure => simp [intOf]; omega
    · have HKe := Lib.hid (show k = n by omega)
      go_wp2
      go_end0
      obtain ⟨m1, v1, hP1, _⟩ := HH.out
      rw [HKe.out] at hP1
      exact ⟨rfl, ⟨m1, v1, hP1⟩, HF.out⟩
end Go.Proofs.YtimdmdjkkgdohaaGreatDoor
