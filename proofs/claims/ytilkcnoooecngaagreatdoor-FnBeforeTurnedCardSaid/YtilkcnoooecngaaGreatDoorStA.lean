/- Go's own atof64: no error where the light ParseFloat tells none. Texts of at most 800 bytes. -/
import Derived.Test.YtilkcnoooecngaaGreatDoorSlD
namespace Go.Proofs.YtilkcnoooecngaaGreatDoor
open Go.RowKit
set_option linter.unusedVariables false
abbrev eSyn : Value := .iface 41 (.int .i64 2)
def ErOk (er : Value) : Prop := er = .nilIface ∨ er = eRange ∨ er = eSyn
def SaRet (s : ByteArray) (w : World) (e : Ending) (w' : World) : Prop := Below w.heap.size w w' ∧ ∃ (f n : Nat) (er : Value), e = .returned (.tuple #[.float .f64 f, .int .i64 (n : Int), er]) ∧ ErOk er ∧ n ≤ 1100 ∧ (er = .nilIface → n = s.size → GoodS s) ∧ (Folds s wNan → er = .nilIface ∧ n = 3 ∧ f = NANB)
theorem dec_good {s : ByteArray} {mant : Nat} {exp : Int} {ng tr : Bool} (hm : mant < 18446744073709551616) (h : RfOk s mant exp ng tr false s.size)
    (hc : mant = 0 ∨ (tr = false ∧ ¬ ∃ q : Nat, exp = q ∧ TT ≤ mant * 10 ^ q) ∨ ¬ ∃ q : Nat, exp = q ∧ TT ≤ (mant + 1) * 10 ^ q) : GoodS s := by
  obtain ⟨i, dot, ds, dp, z, h1, h2, h3, h4, h5, h6⟩ := rf_dec hm h
  refine good_dec h1 h2 h3 h4 ?_
  by_cases h0 : mant = 0
  · exact .inl (h5 h0)
  · refine .inr fun hT => ?_
    obtain ⟨a, b⟩ := h6 h0 hT
    rcases hc with hc | ⟨hc, hd⟩ | hc
    · exact h0 hc
    · exact hd (b hc)
    · exact hc a
theorem set_good {s : ByteArray} {mant : Nat} {exp : Int} {ng tr : Bool} (hm : mant < 18446744073709551616) (h : RfOk s mant exp ng tr false s.size) {i : Nat} {dot : Bool} {ds : List Nat} {dp z : Int}
    (h1 : FDone (rdF (bt (stripB s)) (stripB s).size) (0, false, false, [], 0) (i, true, dot, ds, dp)) (h2 : tailRes 101 false (bt (stripB s)) (stripB s).size i = some z) (hT : ds = [] ∨ ¬ GeT (ds, dp + z)) : GoodS s := by
  obtain ⟨_, _, _, _, _, _, _, h3, h4, _, _⟩ := rf_dec hm h
  exact good_dec h1 h2 h3 h4 hT
theorem zc_eq : Tryz.zeroCells98 = sCells (fun _ => 0) 0 0 false false := by kernel_rfl
theorem SD_new (w : World) : SD (w.alloc (.cells Tryz.zeroCells98 98)) w.heap.size (fun _ => 0) 0 0 false false := by
  unfold SD
  rw [← zc_eq]
  exact Blk.new w _ _
theorem sub_one {P : Nat → Prop} {exp : Int} (h : exp < 0) : ¬ ∃ q : Nat, exp = q ∧ P q := by rintro ⟨q, h1, _⟩; omega
set_option maxHeartbeats 8000000 in
set_option maxRecDepth 100000 in
theorem sa_any (s : ByteArray) (w : World) (hs : s.size ≤ 800) (hL : SLaid w) : Calls Tryz.prog 24 #[.string s] w (SaRet s w) := by
  have HL := Lib.hid hL
  have HS := Lib.hid hs
  have hSp := fun W => sp_any s W (by omega)
  have hRf := fun W => rf_any s W (by omega)
  clear hL
  go_enter Tryz.func24, Tryz.ntmps24
  go_wp2_with (go_at_call 43; refine halt_H ?_)
  refine resume_H ?_
  refine (hSp _).mono ?_
  rintro e w1 ⟨hw, f0, n0, ok, rfl, hn0, hgood, hnan⟩
  obtain rfl := hw.symm
  have HGd := Lib.hid hgood
  have HNn := Lib.hid hnan
  clear hw hgood hnan hSp
  cases ok
  rotate_left
  · go_wp2_with fail
    go_ret3
    exact ⟨Below.refl _ _, f0, n0, .nilIface, rfl, .inl rfl, hn0, fun _ h => good_spec (HGd.out (by first | rfl | trivial) h), fun hf => ⟨rfl, (HNn.out hf).2⟩⟩
  have HNo := Lib.hid (show ¬ Folds s wNan from fun hf => by have := (HNn.out hf).1; cases this)
  clear HGd HNn hn0
  go_wp2_with (go_at_call 44; refine halt_H ?_)
  refine resume_H ?_
  refine (hRf _).mono ?_
  rintro e w2 ⟨hw, mant, exp, ng, tr, hx, i, ok, rfl, hm64, hex, hi, hok⟩
  obtain rfl := hw.symm
  clear hw hRf
  obtain ⟨hex1, hex2⟩ := hex
  cases ok
  · clear hok
    go_wp2_with fail
    go_ret3
    exact ⟨Below.refl _ _, 0, i, eSyn, rfl, .inr (.inr rfl), by omega, fun h => (by cases h), fun hf => absurd hf HNo.out⟩
  have HR := Lib.hid (hok rfl)
  clear hok
  have hsl := fun W => slice_str_hi Tryz.underlying9 s (i : Int) i rfl hi W
  obtain ⟨sk, hsk⟩ : ∃ x, s.extract 0 i = x := ⟨_, rfl⟩
  have HSk := Lib.hid hsk
  have hskz : sk.size ≤ 800 := by rw [← hsk]; simp; omega
  simp only [hsk] at hsl
  clear hsk
  obtain ⟨pb, po, pc, cb, co, cap, hFb⟩ := HL.out.fb
  cases hx
  rotate_left
  · have hT := ah_any sk mant exp ng tr w hm64 hex1 hex2 (rf_tr HR.out) hFb.i0 hFb.i1 hFb.i2 HL.out.o4 HL.out.o2
    clear hFb
    go_wp2_with (go_at_call 45; refine halt_H ?_)
    refine resume_H ?_
    refine hT.mono ?_
    rintro e w3 ⟨hb, f, er, rfl, her⟩
    have HB := Lib.hid hb
    have HE := Lib.hid her
    have hero : ErOk er := by
      rcases her with h | ⟨h, _⟩
      · exact .inr (.inl h)
      · exact .inl h
    have HEr := Lib.hid hero
    clear hb her hT hero
    go_wp2_with fail
    go_ret3
    refine ⟨HB.out, f, i, er, rfl, HEr.out, by omega, fun hn hsz => ?_, fun hf => absurd hf HNo.out⟩
    subst hsz
    obtain ⟨u1, u2, u3, x, u4, u5⟩ := rf_hex HR.out
    refine good_hex u1 u2 u4 ?_
    rcases HE.out with h | ⟨_, h⟩
    · rw [h] at hn; cases hn
    · by_cases h0 : mant = 0
      · left
        cases tr
        · exact h0
        · have := u3 rfl; omega
      · right
        rw [← u5 h0]
        exact h
  have h19 := rf_19 HR.out
  have HM64 := Lib.hid hm64
  have hfb := sfrombits
  have o1 := HL.out.opt
  obtain ⟨sgv, hsgv⟩ : ∃ x : Nat, x = if ng = true then 9223372036854775808 else 0 := ⟨_, rfl⟩
  have HSv := Lib.hid hsgv
  have hsg : Sgn sgv := by
    rw [hsgv]
    unfold Sgn
    split
    · exact .inr rfl
    · exact .inl rfl
  have HSg := Lib.hid hsg
  have hsl64 : sgv < 18446744073709551616 := by rcases hsg with h | h <;> rw [h] <;> decide
  clear hFb hsgv hsg
  go_upto_region 11 with fail
  go_cut [16] (fun a wx => a = .int .u64 (sgv : Int) ∧ wx = w)
  case first =>
    as_aux_lemma =>
    have hT := fun W => bool64_any ng W
    cases ng
    · have HX := Lib.hid (show sgv = 0 by rw [HSv.out]; rfl)
      go_wp2_with (go_at_call 52; refine (hT _).mono ?_; rintro e w9 ⟨rfl, rfl⟩)
      go_meet
      exact ⟨by rw [HX.out]; rfl, rfl⟩
    · have HX := Lib.hid (show sgv = 9223372036854775808 by rw [HSv.out]; rfl)
      go_wp2_with (go_at_call 52; refine (hT _).mono ?_; rintro e w9 ⟨rfl, rfl⟩)
      go_meet
      exact ⟨by rw [HX.out]; rfl, rfl⟩
  case rest =>
  as_aux_lemma =>
  obtain ⟨rfl, rfl⟩ := hcut
  obtain ⟨w, rfl⟩ : ∃ z : World, z = wc := ⟨_, rfl⟩
  by_cases hm0 : mant = 0
  · have HG := Lib.hid (show i = s.size → GoodS s from fun h => by
      have hr := HR.out
      subst h
      exact dec_good hm64 hr (.inl hm0))
    subst hm0
    clear h19 hm64
    go_wp2_with fail
    go_ret3
    exact ⟨Below.refl _ _, _, i, .nilIface, rfl, .inl rfl, by omega, fun _ h => HG.out h, fun hf => absurd hf HNo.out⟩
  have g0 : ((mant : Int) == 0) = false := by rw [beq_eq_false_iff_ne]; omega
  by_cases h310 : exp > 310
  · go_wp2_with fail
    go_ret3
    exact ⟨Below.refl _ _, _, i, eRange, rfl, .inr (.inl rfl), by omega, fun h => (by cases h), fun hf => absurd hf HNo.out⟩
  by_cases h345 : exp < -345
  · have HG := Lib.hid (show i = s.size → GoodS s from fun h => by
      have hr := HR.out
      subst h
      exact dec_good hm64 hr (.inr (.inr (sub_one (by omega)))))
    go_wp2_with fail
    go_ret3
    exact ⟨Below.refl _ _, _, i, .nilIface, rfl, .inl rfl, by omega, fun _ h => HG.out h, fun hf => absurd hf HNo.out⟩
  have hpr : -345 ≤ exp ∧ exp ≤ 310 := by omega
  have HPr := Lib.hid hpr
  have h1m : 1 ≤ mant := by omega
  cases tr
  · obtain ⟨pb2, po2, pc2, hEx⟩ := HL.out.ex
    have hT := ex_any mant exp ng w hEx hm64 hex1 hex2
    clear o1 hEx
    go_wp2_with (go_at_call 54; refine halt_H ?_)
    refine resume_H ?_
    refine hT.mono ?_
    rintro e w3 ⟨hb3, fe, oke, rfl, hoke⟩
    have HB3 := Lib.hid hb3
    have HL3 := Lib.hid (HL.out.below hb3)
    have HOk := Lib.hid hoke
    clear hT hb3 hoke
    cases oke
    rotate_left
    · have HG := Lib.hid (show i = s.size → GoodS s from fun h => by
        have hr := HR.out
        subst h
        obtain ⟨a, b⟩ := HOk.out (by first | rfl | trivial)
        refine dec_good HM64.out hr (.inr (.inl ⟨rfl, ?_⟩))
        rintro ⟨q, h1, h2⟩
        have := exact_lt (q := q) a (by omega)
        omega)
      go_wp2_with fail
      go_ret3
      exact ⟨HB3.out, _, i, .nilIface, rfl, .inl rfl, by omega, fun _ h => HG.out h, fun hf => absurd hf HNo.out⟩
    have hT := pf64_any mant sgv exp w3 HL3.out.tb HSg.out h1m hm64 HPr.out
    go_wp2_with (go_at_call 55; refine halt_H ?_)
    refine resume_H ?_
    refine hT.mono ?_
    rintro e w4 ⟨hb4, hr4⟩
    have HB4 := Lib.hid (HB3.out.trans (hb4.mono HB3.out.size))
    clear hT hb4
    rcases hr4 with rfl | ⟨hq, f1, hf1, rfl⟩
    · go_wp2_with fail
      go_ret3
      exact ⟨HB4.out, _, i, eRange, rfl, .inr (.inl rfl), by omega, fun h => (by cases h), fun hf => absurd hf HNo.out⟩
    · have HG := Lib.hid (show i = s.size → GoodS s from fun h => by
        have hr := HR.out
        subst h
        refine dec_good HM64.out hr (.inr (.inl ⟨rfl, ?_⟩))
        rintro ⟨q, h1, h2⟩
        exact hq q h1 h2)
      clear hq hf1
      go_wp2_with fail
      go_ret3
      exact ⟨HB4.out, _, i, .nilIface, rfl, .inl rfl, by omega, fun _ h => HG.out h, fun hf => absurd hf HNo.out⟩
  · have hT := pf64_any mant sgv exp w HL.out.tb HSg.out h1m hm64 HPr.out
    clear o1
    go_wp2_with (go_at_call 55; refine halt_H ?_)
    refine resume_H ?_
    refine hT.mono ?_
    rintro e w3 ⟨hb3, hr3⟩
    have HB3 := Lib.hid hb3
    have HL3 := Lib.hid (HL.out.below hb3)
    obtain ⟨f1, er1, he1, HE1⟩ : ∃ (f1 : Nat) (er1 : Value), e = .returned (.tuple #[.float .f64 f1, er1]) ∧ Hid (er1 = eRange ∨ er1 = .nilIface ∧ FinB f1) := by
      rcases hr3 with h | ⟨_, n, hn, h⟩
      · exact ⟨_, _, h, Lib.hid (.inl rfl)⟩
      · exact ⟨_, _, h, Lib.hid (.inr ⟨rfl, hn⟩)⟩
    subst he1
    clear hT hb3 hr3
    have hT : Calls Tryz.prog 55 #[.int .u64 ((mant : Int) + 1), .int .i64 exp, .int .u64 (sgv : Int)] w3 (PfRet (mant + 1) sgv exp w3) := pf64_any (mant + 1) sgv exp w3 HL3.out.tb HSg.out (by omega) (by omega) HPr.out
    go_wp2_with (go_at_call 55; refine halt_H ?_)
    refine resume_H ?_
    refine hT.mono ?_
    rintro e w4 ⟨hb4, hr4⟩
    have HB4 := Lib.hid (HB3.out.trans (hb4.mono HB3.out.size))
    have HL4 := Lib.hid (HL3.out.below hb4)
    obtain ⟨f2, er2, he2, HE2⟩ : ∃ (f2 : Nat) (er2 : Value), e = .returned (.tuple #[.float .f64 f2, er2]) ∧ Hid (f2 = sgv ||| infB ∨ ∀ q : Nat, exp = q → ¬ TT ≤ (mant + 1) * 10 ^ q) := by
      rcases hr4 with h | ⟨hq, n, hn, h⟩
      · exact ⟨_, _, h, Lib.hid (.inl rfl)⟩
      · exact ⟨_, _, h, Lib.hid (.inr hq)⟩
    subst he2
    clear hT hb4 hr4
    obtain ⟨bq, hbq⟩ : ∃ b, (FloatKind.f64.format.order f1 f2 == some Ordering.eq) = b := ⟨_, rfl⟩
    have HBq := Lib.hid hbq
    have HErO := Lib.hid (show ErOk er1 by
      rcases HE1.out with h | ⟨h, _⟩
      · exact .inr (.inl h)
      · exact .inl h)
    cases bq
    rotate_left
    · have HG := Lib.hid (show er1 = .nilIface → i = s.size → GoodS s from fun he h => by
        have hr := HR.out
        subst h
        refine dec_good HM64.out hr (.inr (.inr ?_))
        rcases HE1.out with h1 | ⟨_, h1⟩
        · rw [h1] at he; cases he
        · rcases HE2.out with h2 | h2
          · have h3 : ord f1 f2 = some .eq := by
              have := HBq.out
              rw [beq_iff_eq] at this
              exact this
            rw [h2] at h3
            exact absurd h3 (fin_inf h1 HSg.out)
          · rintro ⟨q, h3, h4⟩
            exact h2 q h3 h4)
      go_wp2_with fail
      go_ret3
      exact ⟨HB4.out, _, i, er1, rfl, HErO.out, by omega, fun he h => HG.out he h, fun hf => absurd hf HNo.out⟩
    have hD := SD_new w4
    have hT := set_any sk _ hD hskz
    have HD := Lib.hid hD
    clear hD
    go_wp2_with (go_at_call 50; refine halt_H ?_)
    refine resume_H ?_
    refine hT.mono ?_
    rintro e w5 ⟨oks, rfl, hp5, hset⟩
    have HA := Lib.hid ((Below.refl w4.heap.size w4).alloc (Nat.le_refl _) (.cells Tryz.zeroCells98 98))
    have HA5 := Lib.hid (show Below w4.heap.size w4 w5 from hp5.below HA.out (by simp) (Nat.le_refl _))
    have HB5 := Lib.hid (HB4.out.trans (HA5.out.mono HB4.out.size))
    have HL5 := Lib.hid (HL4.out.below HA5.out)
    have HSt := Lib.hid hset
    have hb5 : w4.heap.size < w5.heap.size := by rw [hp5.size]; simp
    clear hT hp5 hset HD HA
    cases oks
    · go_wp2_with fail
      go_ret3
      exact ⟨HB5.out, 0, i, eSyn, rfl, .inr (.inr rfl), by omega, fun h => (by cases h), fun hf => absurd hf HNo.out⟩
    obtain ⟨i', dot, ds, dp, z, D, ng', k1, k2, k3, k4, k5, k6, k7, k8⟩ := HSt.out (by first | rfl | trivial)
    have hT : Calls Tryz.prog 51 #[.pointer (some ⟨w4.heap.size, 0, none⟩), .pointer (some ⟨4, 0, none⟩)] w5 (fun e w' => (∃ (zb : Int) (ov : Bool), e = .returned (.tuple #[.int .u64 zb, .bool ov]) ∧ (ds = [] ∨ (GeT (ds, dp + z) → ov = true))) ∧ Put w5 w' w4.heap.size) := by
      rcases k5 with h | h
      · subst h
        refine (fb0_any k3 HL5.out).mono ?_
        rintro e w' ⟨⟨zb, ov, h1⟩, h2⟩
        exact ⟨⟨zb, ov, h1, .inl rfl⟩, h2⟩
      · obtain ⟨pb3, po3, pc3, cb3, co3, cap3, hF3⟩ := HL4.out.fb
        refine (fb_any (l := ds) (dp := dp + z) (ng := ng') ⟨D, false, k3, k4, k6, h⟩ (hF3.below HA5.out) (SFx.fresh hF3 (Nat.le_refl _)) ⟨by omega, by omega⟩).mono ?_
        rintro e w' ⟨⟨zb, ov, h1, _, _, h2⟩, h3⟩
        exact ⟨⟨zb, ov, h1, .inr h2⟩, h3⟩
    have HK := Lib.hid (And.intro k1 k2)
    clear k1 k2 k3 k4 k5 k6 k7 k8 HSt
    go_wp2_with (go_at_call 51; refine halt_H ?_)
    refine resume_H ?_
    refine hT.mono ?_
    rintro e w6 ⟨⟨zb, ov, rfl, hov⟩, hp6⟩
    have HB6 := Lib.hid (show Below w.heap.size w w6 from hp6.below HB5.out (by have := HB4.out.size; omega) (HB4.out.size))
    have HOv := Lib.hid hov
    clear hT hp6 hov
    cases ov
    · have HG := Lib.hid (show i = s.size → GoodS s from fun h => by
        have hr := HR.out
        have hk := HK.out
        have hss : sk = s := by
          rw [← HSk.out, h]
          exact ext_all s
        subst h
        rw [hss] at hk
        refine set_good HM64.out hr hk.1 hk.2 ?_
        rcases HOv.out with h | h
        · exact .inl h
        · exact .inr (fun hT => by have := h hT; cases this))
      go_wp2_with fail
      go_ret3
      exact ⟨HB6.out, _, i, .nilIface, rfl, .inl rfl, by omega, fun _ h => HG.out h, fun hf => absurd hf HNo.out⟩
    · go_wp2_with fail
      go_ret3
      exact ⟨HB6.out, _, i, eRange, rfl, .inr (.inl rfl), by omega, fun h => (by cases h), fun hf => absurd hf HNo.out⟩
end Go.Proofs.YtilkcnoooecngaaGreatDoor
