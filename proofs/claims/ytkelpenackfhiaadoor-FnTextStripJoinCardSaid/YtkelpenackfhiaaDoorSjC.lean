/- FnTextStripJoin: the walk of the law. No conditions. -/
import Derived.Test.YtkelpenackfhiaaDoorSjB
import Derived.Test.YtkelpenackfhiaaDoorSjS
namespace Go.Proofs.YtkelpenackfhiaaDoor
open Go.RowKit
set_option linter.unusedVariables false
theorem strip_a (w : World) : Calls Tryd.prog 12 #[.string ⟨#[97]⟩] w fun e w' => e = .returned (.string ⟨#[97]⟩) ∧ Below w.heap.size w w' := by
  have e1 : Lib.encodeRune ((97 : Nat) : Int) = [97] := (rn_ascii (by decide : 97 < 128)).2
  have e2 : enc [97] = [97] := by rw [enc_cons, e1]; rfl
  have e3 : stR false [97] = [97] := by decide
  refine (implStrip_any ⟨#[97]⟩ [97] w (by rw [e2]) (fun r hr => by simp at hr; subst hr; exact (rn_ascii (by decide)).1) (by decide)).mono ?_
  rintro e w' ⟨rfl, hb⟩
  refine ⟨?_, hb⟩
  rw [e3, e2]
theorem str_eq2 (s : ByteArray) : (s.toList == s.toList) = true := beq_self_eq_true _
theorem below3 {w a b : World} (h : Below w.heap.size w a) (k : Below a.heap.size a b) : Below w.heap.size w b := h.trans (k.mono h.size)
set_option maxHeartbeats 2000000 in
set_option maxRecDepth 100000 in
theorem lawSj (A : Option Addr) (n cap : Nat) (l : List Pc) (B : Option Addr) (m bcap : Nat) (p : List Pc) (w : World) (h : PcArg w w.heap.size A n cap l) (hz : PcArg w w.heap.size B m bcap p) (hT : Pows w) :
    Calls Tryd.prog 4 #[.slice A n cap, .slice B m bcap] w fun e w' => e = .returned (.bool true) ∧ Below w.heap.size w w' := by
  have H1 := Lib.hid (fits15_any A n cap l w h)
  have hln := h.2.1
  have hlm := hz.2.1
  have HF := Lib.hid (fun W (hb : Below w.heap.size w W) => fits15_any B m bcap p W ((hz.below hb).more hb.size))
  have HG := Lib.hid (fun W (hb : Below w.heap.size w W) => good_any A n cap l W ((h.below hb).more hb.size))
  have HG2 := Lib.hid (fun W (hb : Below w.heap.size w W) => good_any B m bcap p W ((hz.below hb).more hb.size))
  have HA := Lib.hid h
  have HB := Lib.hid hz
  have HP := Lib.hid hT
  clear h hz hT
  go_enter Tryd.func4, Tryd.ntmps4
  go_wp2_with (go_at_call 9; refine halt_S ?_)
  refine resume_S ?_
  refine H1.out.mono ?_
  rintro e w1 ⟨b1, rfl, hb1, -⟩
  have B1 := Lib.hid hb1
  clear hb1 H1
  cases b1 with
  | false =>
    go_wp2_with fail
    go_ret
    exact ⟨rfl, B1.out⟩
  | true =>
    go_wp2_with (go_at_call 9; refine halt_S ?_)
    refine resume_S ?_
    refine (HF.out w1 B1.out).mono ?_
    rintro e w2 ⟨b2, rfl, hb2, -⟩
    have B2 := Lib.hid (below3 B1.out hb2)
    clear hb2 HF B1
    cases b2 with
    | false =>
      go_wp2_with fail
      go_ret
      exact ⟨rfl, B2.out⟩
    | true =>
      go_wp2_with (go_at_call 10; refine halt_S ?_)
      refine resume_S ?_
      refine (HG.out w2 B2.out).mono ?_
      rintro e w3 ⟨b3, rfl, hb3, hg1⟩
      have B3 := Lib.hid (below3 B2.out hb3)
      have G1 := Lib.hid hg1
      clear hb3 hg1 HG B2
      cases b3 with
      | false =>
        go_wp2_with fail
        go_ret
        exact ⟨rfl, B3.out⟩
      | true =>
        go_wp2_with (go_at_call 10; refine halt_S ?_)
        refine resume_S ?_
        refine (HG2.out w3 B3.out).mono ?_
        rintro e w4 ⟨b4, rfl, hb4, hg2⟩
        have B4 := Lib.hid (below3 B3.out hb4)
        have G2 := Lib.hid hg2
        clear hb4 hg2 HG2 B3
        cases b4 with
        | false =>
          go_wp2_with fail
          go_ret
          exact ⟨rfl, B4.out⟩
        | true =>
          obtain ⟨g1, g1n⟩ := G1.out trivial
          obtain ⟨g2, g2n⟩ := G2.out rfl
          rw [hln] at g1 g1n
          rw [hlm] at g2 g2n
          obtain ⟨ok1, len1⟩ := written_ok l n g1
          obtain ⟨ok2, len2⟩ := written_ok p m g2
          obtain ⟨Ta, ta, ra, fa⟩ := ok1
          obtain ⟨Tb, tb, rb, fb⟩ := ok2
          have W1 := Lib.hid (fun W (hb : Below w.heap.size w W) => written_any A n cap l w.heap.size W hb.size (HA.out.below hb) g1 g1n (HP.out.stays hb))
          have W2 := Lib.hid (fun W (hb : Below w.heap.size w W) => written_any B m bcap p w.heap.size W hb.size (HB.out.below hb) g2 g2n (HP.out.stays hb))
          have hs1 := mk_size (written l n)
          have hs2 := mk_size (written p m)
          have hl1 : (written l n).length ≤ 21200 := by omega
          have hl2 : (written p m).length ≤ 21200 := by omega
          have S1 := Lib.hid (fun W => implStrip_any ⟨(written l n).toArray⟩ Ta W ta ra (by rw [hs1]; omega))
          have S2 := Lib.hid (fun W => implStrip_any ⟨(written p m).toArray⟩ Tb W tb rb (by rw [hs2]; omega))
          have S3 := Lib.hid (fun W => implStrip_any (⟨(written l n).toArray⟩ ++ ⟨(written p m).toArray⟩) (Ta ++ Tb) W (by rw [app_mk]; show written l n ++ written p m = _; rw [enc_app, ← ta, ← tb]) (fun r hr => by
            rcases List.mem_append.1 hr with h | h
            · exact ra r h
            · exact rb r h) (by rw [app_mk, mk_size, List.length_append]; omega))
          have HE := Lib.hid (show (⟨(enc (stR false (Ta ++ Tb))).toArray⟩ : ByteArray) = ⟨(enc (stR false Ta)).toArray⟩ ++ ⟨(enc (stR false Tb)).toArray⟩ by rw [app_mk, stR_app, fa, enc_app])
          have z1 := mk_size (enc (stR false Ta))
          have z2 := mk_size (enc (stR false Tb))
          have z3 := enc_stR_len Ta false
          have z4 := enc_stR_len Tb false
          rw [← ta] at z3
          rw [← tb] at z4
          have S4 := Lib.hid (fun W => strip_a W)
          clear g1 g2 ta ra fa tb rb fb len1 len2 G1 G2 HA HB HP
          generalize written l n = sa at *
          generalize written p m = sb at *
          go_wp2_with (go_at_call 11; refine halt_S ?_)
          refine resume_S ?_
          refine (W1.out w4 B4.out).mono ?_
          rintro e w5 ⟨rfl, hb5⟩
          have B5 := Lib.hid (below3 B4.out hb5)
          clear hb5 W1 B4
          go_wp2_with (go_at_call 11; refine halt_S ?_)
          refine resume_S ?_
          refine (W2.out w5 B5.out).mono ?_
          rintro e w6 ⟨rfl, hb6⟩
          have B6 := Lib.hid (below3 B5.out hb6)
          clear hb6 W2 B5
          go_wp2_with (go_at_call 12; refine halt_S ?_)
          refine resume_S ?_
          refine (S3.out w6).mono ?_
          rintro e w7 ⟨rfl, hb7⟩
          have B7 := Lib.hid (below3 B6.out hb7)
          rw [HE.out]
          clear hb7 S3 B6 HE
          go_wp2_with (go_at_call 12; refine halt_S ?_)
          refine resume_S ?_
          refine (S1.out w7).mono ?_
          rintro e w8 ⟨rfl, hb8⟩
          have B8 := Lib.hid (below3 B7.out hb8)
          clear hb8 S1 B7
          go_wp2_with (go_at_call 12; refine halt_S ?_)
          refine resume_S ?_
          refine (S2.out w8).mono ?_
          rintro e w9 ⟨rfl, hb9⟩
          have B9 := Lib.hid (below3 B8.out hb9)
          clear hb9 S2 B8
          generalize (⟨(enc (stR false Ta)).toArray⟩ : ByteArray) = ya at *
          generalize (⟨(enc (stR false Tb)).toArray⟩ : ByteArray) = yb at *
          go_wp2_with (go_at_call 12; refine halt_S ?_)
          refine resume_S ?_
          refine (S4.out w9).mono ?_
          rintro e w10 ⟨rfl, hb10⟩
          have B10 := Lib.hid (below3 B9.out hb10)
          clear hb10 S4 B9
          go_wp2_with fail
          go_ret
          exact ⟨rfl, B10.out⟩
end Go.Proofs.YtkelpenackfhiaaDoor
