/- FnTitleDots: the walk of the law. No conditions. -/
import Derived.Test.YtebgbeahlodihaaDoorTiA
import Derived.Test.YtebgbeahlodihaaDoorUp
namespace Go.Proofs.YtebgbeahlodihaaDoor
open Go.RowKit
set_option linter.unusedVariables false
theorem gate_cv {P : Program} {ops : Array Oper} {rest : List Oper} {o : Oper} {a : Act} {w : World} {Q : Exit → Act → World → Prop} {s d : TypeId} {p : Operand} (_ho : o.op = .convert s d p) (h : wpList P ops Q (o :: rest) a w) : wpList P ops Q (o :: rest) a w := h
theorem implTitle_any (l : List UInt8) (w : World) (ha : asc l) (h0 : l ≠ []) (hl : l.length ≤ 1000) (ht : Lib.trimSpace (mt none l) = mt none l) (hT : Spaces w) :
    Calls Tryd.prog 6 #[.string ⟨l.toArray⟩] w (TitleRet l w) := by
  have H := Lib.hid (title_any l w ha h0 hl ht hT)
  go_enter Tryd.func6, Tryd.ntmps6
  go_wp2_with (go_at_call 13; refine H.out.mono ?_; rintro e w' ⟨rfl, hb⟩; have HB := Lib.hid hb; clear hb)
  go_ret
  exact ⟨rfl, HB.out⟩
theorem enc_u8 (c : UInt8) (h : c.toNat < 128) : Utf8.encode (c.toNat : Int) = ⟨#[c]⟩ := by
  rw [enc_ascii c.toNat h]; simp
theorem join3 (a b c : UInt8) : (⟨#[a]⟩ : ByteArray) ++ ⟨#[b]⟩ ++ ⟨#[c]⟩ = ⟨[a, b, c].toArray⟩ := by
  apply bytes_ext; simp
theorem str_eq {a b : ByteArray} (h : a = b) : (b.toList == a.toList) = true := by subst h; exact beq_self_eq_true _
theorem sp_dig {c : UInt8} (h1 : 48 ≤ c.toNat) (h2 : c.toNat ≤ 122) : Lib.isSp c = false := by
  have : ∀ c : Fin 256, 48 ≤ c.val → c.val ≤ 122 → Lib.isSp (UInt8.ofNat c.val) = false := by decide +kernel
  have hb := c.toNat_lt
  have e := this ⟨c.toNat, hb⟩ h1 h2
  simpa using e
theorem mk_plain {p q : Option UInt8} {c : UInt8} (h1 : c.toNat ≠ 95) (h2 : c.toNat ≠ 46) : mk1 p c q = c := by
  unfold mk1
  rw [if_neg (fun e => h1 (by rw [e]; rfl)), if_neg (fun e => h2 (by rw [e]; rfl))]
theorem dots_dig {x y : UInt8} (x1 : 48 ≤ x.toNat) (x2 : x.toNat ≤ 57) (y1 : 48 ≤ y.toNat) (y2 : y.toNat ≤ 57) : asc [x, 46, y] ∧ Lib.trimSpace (mt none [x, 46, y]) = mt none [x, 46, y] ∧ Lib.toUpperA (mt none [x, 46, y]) = [x, 46, y] := by
  have nx : nd x = false := by unfold nd; simp [x1, x2]
  have ny : nd y = false := by unfold nd; simp [y1, y2]
  have e : mt none [x, 46, y] = [x, 46, y] := by
    simp only [mt, mk_plain (show x.toNat ≠ 95 by omega) (show x.toNat ≠ 46 by omega), mk_plain (show y.toNat ≠ 95 by omega) (show y.toNat ≠ 46 by omega)]
    simp [mk1, ndO, nx, ny]
  rw [e]
  refine ⟨?_, trim_same _ ?_ ?_, ?_⟩
  · intro c hc; simp at hc; rcases hc with rfl | rfl | rfl
    · omega
    · decide
    · omega
  · intro c hc; simp at hc; subst hc; exact sp_dig x1 (by omega)
  · intro c hc; simp at hc; subst hc; exact sp_dig y1 (by omega)
  · simp only [Lib.toUpperA, List.map, up_not (show ¬ (97 ≤ x.toNat ∧ x.toNat ≤ 122) by omega), up_not (show ¬ (97 ≤ y.toNat ∧ y.toNat ≤ 122) by omega), up_not (show ¬ (97 ≤ (46 : UInt8).toNat ∧ (46 : UInt8).toNat ≤ 122) by decide)]
theorem dots_let {x y : UInt8} (x1 : 97 ≤ x.toNat) (x2 : x.toNat ≤ 122) (y1 : 97 ≤ y.toNat) (y2 : y.toNat ≤ 122) : asc [x, 46, y] ∧ Lib.trimSpace (mt none [x, 46, y]) = mt none [x, 46, y] ∧ mt none [x, 46, y] = [x, 32, y] := by
  have nx : nd x = true := by unfold nd; simp; omega
  have e : mt none [x, 46, y] = [x, 32, y] := by
    simp only [mt, mk_plain (show x.toNat ≠ 95 by omega) (show x.toNat ≠ 46 by omega), mk_plain (show y.toNat ≠ 95 by omega) (show y.toNat ≠ 46 by omega)]
    simp [mk1, ndO, nx]
  rw [e]
  refine ⟨?_, trim_same _ ?_ ?_, rfl⟩
  · intro c hc; simp at hc; rcases hc with rfl | rfl | rfl
    · omega
    · decide
    · omega
  · intro c hc; simp at hc; subst hc; exact sp_dig (by omega) x2
  · intro c hc; simp at hc; subst hc; exact sp_dig (by omega) y2
set_option maxHeartbeats 1000000 in
set_option maxRecDepth 100000 in
theorem lawTiDots (a b : Int) (w : World) (ha : 0 ≤ a ∧ a ≤ 255) (hb : 0 ≤ b ∧ b ≤ 255) (hT : Spaces w) : Calls Tryd.prog 3 #[.int .u8 a, .int .u8 b] w fun e w' => e = .returned (.bool true) ∧ Below w.heap.size w w' := by
  obtain ⟨an, rfl⟩ : ∃ n : Nat, a = n := ⟨a.toNat, by omega⟩
  obtain ⟨bn, rfl⟩ : ∃ n : Nat, b = n := ⟨b.toNat, by omega⟩
  have h1 : ∃ c : UInt8, 48 ≤ c.toNat ∧ c.toNat ≤ 57 ∧ 48 + (an : Int) % 10 = (c.toNat : Int) := ⟨UInt8.ofNat (48 + an % 10), by simp; omega, by simp; omega, by simp; omega⟩
  have h2 : ∃ c : UInt8, 48 ≤ c.toNat ∧ c.toNat ≤ 57 ∧ 48 + (bn : Int) % 10 = (c.toNat : Int) := ⟨UInt8.ofNat (48 + bn % 10), by simp; omega, by simp; omega, by simp; omega⟩
  have h3 : ∃ c : UInt8, 97 ≤ c.toNat ∧ c.toNat ≤ 122 ∧ 97 + (an : Int) % 26 = (c.toNat : Int) := ⟨UInt8.ofNat (97 + an % 26), by simp; omega, by simp; omega, by simp; omega⟩
  have h4 : ∃ c : UInt8, 97 ≤ c.toNat ∧ c.toNat ≤ 122 ∧ 97 + (bn : Int) % 26 = (c.toNat : Int) := ⟨UInt8.ofNat (97 + bn % 26), by simp; omega, by simp; omega, by simp; omega⟩
  obtain ⟨x, x1, x2, hx⟩ := h1
  obtain ⟨y, y1, y2, hy⟩ := h2
  obtain ⟨u, u1, u2, hu⟩ := h3
  obtain ⟨v, v1, v2, hv⟩ := h4
  have ex := enc_u8 x (by omega)
  have ey := enc_u8 y (by omega)
  have eu := enc_u8 u (by omega)
  have ev := enc_u8 v (by omega)
  have A1 := Lib.hid (dots_dig x1 x2 y1 y2)
  have A2 := Lib.hid (dots_let u1 u2 v1 v2)
  have X1 := Lib.hid (join3 x 46 y)
  have X2 := Lib.hid (join3 u 46 v)
  have X3 := Lib.hid (join3 u 32 v)
  have HT := Lib.hid hT
  have bx := x.toNat_lt
  have by_ := y.toNat_lt
  have bu := u.toNat_lt
  have bv := v.toNat_lt
  have zx : (0 : Int) ≤ (x.toNat : Int) ∧ (x.toNat : Int) ≤ 255 := by omega
  have zy : (0 : Int) ≤ (y.toNat : Int) ∧ (y.toNat : Int) ≤ 255 := by omega
  have zu : (0 : Int) ≤ (u.toNat : Int) ∧ (u.toNat : Int) ≤ 255 := by omega
  have zv : (0 : Int) ≤ (v.toNat : Int) ∧ (v.toNat : Int) ≤ 255 := by omega
  have H1 := Lib.hid (fun W (h : Spaces W) => implTitle_any [x, 46, y] W A1.out.1 (by simp) (by simp) A1.out.2.1 h)
  have H2 := Lib.hid (fun W (h : Spaces W) => implTitle_any [u, 46, v] W A2.out.1 (by simp) (by simp) A2.out.2.1 h)
  have H3 := Lib.hid (fun W => twUpper_any [u, 32, v] W (by simp))
  clear x1 x2 y1 y2 u1 u2 v1 v2 hT
  go_enter Tryd.func3, Tryd.ntmps3
  go_wp2_with (go_at_call 6; refine halt_T ?_)
  refine resume_T ?_
  rw [X1.out]
  refine (H1.out w HT.out).mono ?_
  rintro e w1 ⟨rfl, hb1⟩
  rw [A1.out.2.2, ← X1.out]
  have HT1 := Lib.hid (HT.out.stays hb1)
  have B1 := Lib.hid hb1
  clear hb1 H1 A1 X1 ex ey hx hy hu hv eu ev zx zy zu zv bx by_ bu bv ha hb
  have sx : (⟨#[x]⟩ : ByteArray).size = 1 := rfl
  have sy : (⟨#[y]⟩ : ByteArray).size = 1 := rfl
  have su : (⟨#[u]⟩ : ByteArray).size = 1 := rfl
  have sv : (⟨#[v]⟩ : ByteArray).size = 1 := rfl
  generalize (⟨#[x]⟩ : ByteArray) = Xb at *
  generalize (⟨#[y]⟩ : ByteArray) = Yb at *
  generalize (⟨#[u]⟩ : ByteArray) = Ub at *
  generalize (⟨#[v]⟩ : ByteArray) = Vb at *
  go_wp2_with (go_at_call 6; refine halt_T ?_)
  refine resume_T ?_
  rw [X2.out]
  refine (H2.out w1 HT1.out).mono ?_
  rintro e w2 ⟨rfl, hb2⟩
  rw [A2.out.2.2]
  have B2 := Lib.hid (B1.out.trans (hb2.mono B1.out.size))
  clear hb2 H2 A2 X2
  have es2 := str_eq (show (⟨(Lib.toUpperA [u, 32, v]).toArray⟩ : ByteArray) = ⟨(Lib.toUpperA [u, 32, v]).toArray⟩ from rfl)
  go_wp2_with (go_at_call 7; refine halt_T ?_)
  refine resume_T ?_
  rw [X3.out]
  refine (H3.out w2).mono ?_
  rintro e w3 ⟨rfl, hb3⟩
  have B3 := Lib.hid (B2.out.trans (hb3.mono B2.out.size))
  clear hb3 H3 X3
  generalize (⟨(Lib.toUpperA [u, 32, v]).toArray⟩ : ByteArray) = R at *
  go_wp2_with fail
  go_ret
  exact ⟨rfl, B3.out⟩
end Go.Proofs.YtebgbeahlodihaaDoor
