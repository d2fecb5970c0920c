/- FnTextFormatStrip: the walk of the law. At most 2097152 pieces, each of at most so many codes and bytes. -/
import Derived.Test.YtmllpoafjcldgaaDoorFsR
import Derived.Test.YtmllpoafjcldgaaDoorFsQ
namespace Go.Proofs.YtmllpoafjcldgaaDoor
open Go.RowKit
open Go.Lib (encodeRune)
set_option linter.unusedVariables false
theorem halt_Fs {p : Prop} (h : Hid p) : p := h
theorem resume_Fs {p : Prop} (h : p) : Hid p := h
theorem str_eqs (s : ByteArray) : (s.toList == s.toList) = true := beq_self_eq_true _
theorem below3s {w a b : World} (h : Below w.heap.size w a) (k : Below a.heap.size a b) : Below w.heap.size w b := h.trans (k.mono h.size)
def Small (l : List Pc) (n : Nat) : Prop := n ≤ 2097152 ∧ ∀ j, j < n → (pc l j).n ≤ 2097152 ∧ (pc l j).s.size ≤ 2097152
set_option maxHeartbeats 2000000 in
set_option maxRecDepth 100000 in
theorem lawFs (u : Bool) (A : Option Addr) (n cap : Nat) (l : List Pc) (w : World) (h : PcArg w w.heap.size A n cap l) (hsm : Small l n) (hT : Pows w) (hV : Tabs w) :
    Calls Tryd.prog 3 #[.bool u, .slice A n cap] w fun e w' => e = .returned (.bool true) ∧ Below w.heap.size w w' := by
  have H1 := Lib.hid (fits15_any A n cap l w h)
  have hln := Lib.hid h.2.1
  have HG := Lib.hid (fun W (hb : Below w.heap.size w W) => good_any A n cap l W ((h.below hb).more hb.size))
  have W1 := Lib.hid (fun W (hb : Below w.heap.size w W) => written_big A n cap l w.heap.size W hb.size (h.below hb) hsm.2 hsm.1 (hT.stays hb))
  have HV := Lib.hid (fun W (hb : Below w.heap.size w W) => hV.stays hb)
  clear h hT hV hsm
  obtain ⟨fc, hfc⟩ : ∃ fc, fcode u = fc := ⟨_, rfl⟩
  have key : ∀ w2 : World, Below w.heap.size w w2 → ∀ e w3, BoolRet w2 (GoodL l) e w3 → True := fun _ _ _ _ _ => trivial
  have F1 := Lib.hid (fun (s : ByteArray) (T : List Nat) W (h1 : s.data.toList = enc T) (h2 : ∀ r ∈ T, Rn r ∧ r ≠ 65533) (h3 : s.size ≤ 1000000) (hb : Below w.heap.size w W) => format_any u s T W h1 h2 h3 (HV.out W hb))
  have F2 := Lib.hid (fun W (hb : Below w.heap.size w W) => format_one u W (HV.out W hb))
  have HS := Lib.hid (strip_fmt u)
  have HR := Lib.hid (fmt_rn u)
  have HL := Lib.hid (fmt_len u)
  have HU := Lib.hid (show fc = if u = true then 3 else 1 from hfc.symm)
  rw [hfc] at F1 F2
  generalize fmtT u = ft at *
  clear hfc HV
  cases u with
  | true =>
    obtain rfl : fc = 3 := HU.out
    clear HU
    go_enter Tryd.func3, Tryd.ntmps3
    go_wp2_with (go_at_call 4; refine halt_Fs ?_)
    refine resume_Fs ?_
    refine H1.out.mono ?_
    rintro e w1 ⟨b1, rfl, hb1, -⟩
    have B1 := Lib.hid hb1
    clear hb1 H1
    cases b1 with
    | false =>
      go_wp2_with fail
      go_ret
      exact ⟨rfl, B1.out⟩
    | true =>
      go_wp2_with (go_at_call 5; refine halt_Fs ?_)
      refine resume_Fs ?_
      refine (W1.out w1 B1.out).mono ?_
      rintro e w2 ⟨rfl, hb2⟩
      have B2 := Lib.hid (below3s B1.out hb2)
      clear hb2 W1 B1
      go_wp2_with (go_at_call 6; refine halt_Fs ?_)
      refine resume_Fs ?_
      refine (HG.out w2 B2.out).mono ?_
      rintro e w3 ⟨b3, rfl, hb3, hg⟩
      have B3 := Lib.hid (below3s B2.out hb3)
      have G := Lib.hid hg
      clear hb3 hg HG B2
      cases b3 with
      | false =>
        go_wp2_with fail
        go_ret
        exact ⟨rfl, B3.out⟩
      | true =>
        obtain ⟨g1, g1n⟩ := G.out rfl
        rw [hln.out] at g1 g1n
        have len1 := (written_ok l n g1).2
        obtain ⟨T, tT, tr, -, tok⟩ := written_okL l n g1
        have tl := enc_len_lo T (fun r h => (tr r h).1)
        rw [← tT] at tl
        have hs1 := mk_size (written l n)
        have C1 := Lib.hid (fun W hb => F1.out ⟨(written l n).toArray⟩ T W tT tr (by rw [hs1]; omega) hb)
        have C2 := Lib.hid (fun W => implStrip_any ⟨(enc (ft T)).toArray⟩ (ft T) W rfl (HR.out T (fun r h => (tr r h).1)) (by rw [mk_size]; have := HL.out T; omega))
        have C3 := Lib.hid (fun W => implStrip_any ⟨(written l n).toArray⟩ T W tT (fun r h => (tr r h).1) (by rw [hs1]; omega))
        have C4 := Lib.hid (fun W hb => F1.out ⟨(enc (stR false T)).toArray⟩ (stR false T) W rfl (fun r h => tr r (mem_stR T false r h)) (by
          rw [mk_size]
          have := enc_stR_len T false
          rw [← tT] at this
          omega) hb)
        unfold StripRet at C2
        rw [HS.out T tok] at C2
        clear F1 HS HR HL tT tr tok tl len1 g1 g1n G hs1 hln
        go_wp2_with (go_at_call 8; refine halt_Fs ?_)
        refine resume_Fs ?_
        refine (C1.out w3 B3.out).mono ?_
        rintro e w4 ⟨rfl, hb4⟩
        have B4 := Lib.hid (below3s B3.out hb4)
        clear hb4 C1 B3
        go_wp2_with (go_at_call 7; refine halt_Fs ?_)
        refine resume_Fs ?_
        refine (C2.out w4).mono ?_
        rintro e w5 ⟨rfl, hb5⟩
        have B5 := Lib.hid (below3s B4.out hb5)
        clear hb5 C2 B4
        go_wp2_with (go_at_call 7; refine halt_Fs ?_)
        refine resume_Fs ?_
        refine (C3.out w5).mono ?_
        rintro e w6 ⟨rfl, hb6⟩
        have B6 := Lib.hid (below3s B5.out hb6)
        clear hb6 C3 B5
        go_wp2_with (go_at_call 8; refine halt_Fs ?_)
        refine resume_Fs ?_
        refine (C4.out w6 B6.out).mono ?_
        rintro e w7 ⟨rfl, hb7⟩
        have B7 := Lib.hid (below3s B6.out hb7)
        clear hb7 C4 B6
        have E := str_eqs ⟨(enc (ft (stR false T))).toArray⟩
        generalize (⟨(enc (ft (stR false T))).toArray⟩ : ByteArray) = y3 at *
        go_wp2_with (go_at_call 8; refine halt_Fs ?_)
        refine resume_Fs ?_
        refine (F2.out w7 B7.out).mono ?_
        rintro e w8 ⟨rfl, hb8⟩
        have B8 := Lib.hid (below3s B7.out hb8)
        clear hb8 F2 B7
        go_wp2_with fail
        go_ret
        exact ⟨rfl, B8.out⟩
  | false =>
    obtain rfl : fc = 1 := HU.out
    clear HU
    go_enter Tryd.func3, Tryd.ntmps3
    go_wp2_with (go_at_call 4; refine halt_Fs ?_)
    refine resume_Fs ?_
    refine H1.out.mono ?_
    rintro e w1 ⟨b1, rfl, hb1, -⟩
    have B1 := Lib.hid hb1
    clear hb1 H1
    cases b1 with
    | false =>
      go_wp2_with fail
      go_ret
      exact ⟨rfl, B1.out⟩
    | true =>
      go_wp2_with (go_at_call 5; refine halt_Fs ?_)
      refine resume_Fs ?_
      refine (W1.out w1 B1.out).mono ?_
      rintro e w2 ⟨rfl, hb2⟩
      have B2 := Lib.hid (below3s B1.out hb2)
      clear hb2 W1 B1
      go_wp2_with (go_at_call 6; refine halt_Fs ?_)
      refine resume_Fs ?_
      refine (HG.out w2 B2.out).mono ?_
      rintro e w3 ⟨b3, rfl, hb3, hg⟩
      have B3 := Lib.hid (below3s B2.out hb3)
      have G := Lib.hid hg
      clear hb3 hg HG B2
      cases b3 with
      | false =>
        go_wp2_with fail
        go_ret
        exact ⟨rfl, B3.out⟩
      | true =>
        obtain ⟨g1, g1n⟩ := G.out rfl
        rw [hln.out] at g1 g1n
        have len1 := (written_ok l n g1).2
        obtain ⟨T, tT, tr, -, tok⟩ := written_okL l n g1
        have tl := enc_len_lo T (fun r h => (tr r h).1)
        rw [← tT] at tl
        have hs1 := mk_size (written l n)
        have C1 := Lib.hid (fun W hb => F1.out ⟨(written l n).toArray⟩ T W tT tr (by rw [hs1]; omega) hb)
        have C2 := Lib.hid (fun W => implStrip_any ⟨(enc (ft T)).toArray⟩ (ft T) W rfl (HR.out T (fun r h => (tr r h).1)) (by rw [mk_size]; have := HL.out T; omega))
        have C3 := Lib.hid (fun W => implStrip_any ⟨(written l n).toArray⟩ T W tT (fun r h => (tr r h).1) (by rw [hs1]; omega))
        have C4 := Lib.hid (fun W hb => F1.out ⟨(enc (stR false T)).toArray⟩ (stR false T) W rfl (fun r h => tr r (mem_stR T false r h)) (by
          rw [mk_size]
          have := enc_stR_len T false
          rw [← tT] at this
          omega) hb)
        unfold StripRet at C2
        rw [HS.out T tok] at C2
        clear F1 HS HR HL tT tr tok tl len1 g1 g1n G hs1 hln
        go_wp2_with (go_at_call 8; refine halt_Fs ?_)
        refine resume_Fs ?_
        refine (C1.out w3 B3.out).mono ?_
        rintro e w4 ⟨rfl, hb4⟩
        have B4 := Lib.hid (below3s B3.out hb4)
        clear hb4 C1 B3
        go_wp2_with (go_at_call 7; refine halt_Fs ?_)
        refine resume_Fs ?_
        refine (C2.out w4).mono ?_
        rintro e w5 ⟨rfl, hb5⟩
        have B5 := Lib.hid (below3s B4.out hb5)
        clear hb5 C2 B4
        go_wp2_with (go_at_call 7; refine halt_Fs ?_)
        refine resume_Fs ?_
        refine (C3.out w5).mono ?_
        rintro e w6 ⟨rfl, hb6⟩
        have B6 := Lib.hid (below3s B5.out hb6)
        clear hb6 C3 B5
        go_wp2_with (go_at_call 8; refine halt_Fs ?_)
        refine resume_Fs ?_
        refine (C4.out w6 B6.out).mono ?_
        rintro e w7 ⟨rfl, hb7⟩
        have B7 := Lib.hid (below3s B6.out hb7)
        clear hb7 C4 B6
        have E := str_eqs ⟨(enc (ft (stR false T))).toArray⟩
        generalize (⟨(enc (ft (stR false T))).toArray⟩ : ByteArray) = y3 at *
        go_wp2_with (go_at_call 8; refine halt_Fs ?_)
        refine resume_Fs ?_
        refine (F2.out w7 B7.out).mono ?_
        rintro e w8 ⟨rfl, hb8⟩
        have B8 := Lib.hid (below3s B7.out hb8)
        clear hb8 F2 B7
        go_wp2_with fail
        go_ret
        exact ⟨rfl, B8.out⟩
end Go.Proofs.YtmllpoafjcldgaaDoor
