/- Rendering a list: what its inner functions write into a builder that the call made itself. Lists of at most 1000 items, texts of at most 1000 bytes. -/
import Derived.Test.YthdkbokdikhojaaGreatDoorLstB
import Derived.Test.YthdkbokdikhojaaGreatDoorTxt
import Derived.Test.YthdkbokdikhojaaGreatDoorBldR
namespace Go.Proofs.YthdkbokdikhojaaGreatDoor
open Go.RowKit
set_option linter.unusedVariables false
def zat (zs : List Int) (k : Nat) : Int := zs.getD k 0
def more (lev : Int) : List Int → Bool
  | [] => false
  | z :: l => if z < lev then false else if z = lev then true else more lev l
theorem more_end (zs : List Int) (lev : Int) (k : Nat) (h : zs.length ≤ k) : more lev (zs.drop k) = false := by rw [List.drop_eq_nil_of_le h]; rfl
theorem more_at (zs : List Int) (lev : Int) (k : Nat) (h : k < zs.length) : more lev (zs.drop k) = if zat zs k < lev then false else if zat zs k = lev then true else more lev (zs.drop (k + 1)) := by
  rw [List.drop_eq_getElem_cons h, more, zat, List.getD_eq_getElem?_getD, List.getElem?_eq_getElem h]; rfl
theorem Bld.keep {B b : Nat} {l : List UInt8} {w w' : World} (h : Bld B b l w) (hb : Below w.heap.size w w') : Bld B b l w' := by
  have hg : w.grownBy w' none := ⟨hb.os, hb.tape, hb.output, hb.size, fun k hk _ => hb.block k hk⟩
  rcases h with h | h
  · have hlt := h.lt
    obtain ⟨hB, v, hk, hown, hne⟩ := h
    exact .inl ⟨hB, v, (hb.block _ hlt).trans hk, hown.kept hg (by cases hv : v.ownBlock <;> simp), hne⟩
  · have hlt := h.lt
    obtain ⟨hB, v, hk, hown, hne⟩ := h
    exact .inr ⟨hB, v, (hb.block _ hlt).trans hk, hown.kept hg (by cases hv : v.ownBlock <;> simp), hne⟩
theorem Bld.lt' {B b : Nat} {l : List UInt8} {w : World} (h : Bld B b l w) : b < w.heap.size := h.elim (fun x => x.lt) (fun x => x.lt)
/-- What a list and its style hold. -/
structure LD where
  sp : ByteArray
  s1 : ByteArray
  s2 : ByteArray
  s3 : ByteArray
  s4 : ByteArray
  s5 : ByteArray
  s6 : ByteArray
  s7 : ByteArray
  s8 : ByteArray
  its : List (Int × ByteArray)
def LD.lvs (D : LD) : List Int := D.its.map Prod.fst
structure LD.ok (D : LD) : Prop where
  hsp : D.sp.size ≤ 1000
  h1 : D.s1.size ≤ 1000
  h2 : D.s2.size ≤ 1000
  h3 : D.s3.size ≤ 1000
  h4 : D.s4.size ≤ 1000
  h5 : D.s5.size ≤ 1000
  h6 : D.s6.size ≤ 1000
  h7 : D.s7.size ≤ 1000
  h8 : D.s8.size ≤ 1000
  hn : D.its.length ≤ 1000
  hx : ∀ x ∈ D.its, 0 ≤ x.1 ∧ x.1 ≤ 1000 ∧ x.2.size ≤ 1000
/-- A list in memory, below block b. -/
structure Sc (b gl gs : Nat) (A : Option Addr) (cap : Nat) (D : LD) (w : World) : Prop where
  gl_lt : gl < b
  gs_lt : gs < b
  lst : ∃ a css lev, w.heap[gl]? = some (lstO a D.sp css (.slice A D.its.length cap) lev (some ⟨gs, 0, none⟩))
  sty : ∃ s9, w.heap[gs]? = some (styO 0 D.s1 D.s2 D.s3 D.s4 D.s5 D.s6 D.s7 D.s8 s9)
  item : ∀ k (hk : k < D.its.length), ∃ g p, A = some ⟨g, 0, none⟩ ∧ g < b ∧ p < b ∧ w.cell? ⟨g, k, none⟩ = some (.pointer (some ⟨p, 0, none⟩)) ∧ w.heap[p]? = some (.cells #[.int .i64 (D.its[k]).1, .string (D.its[k]).2] 72 (0, 0))
  caps : D.its.length ≤ cap ∧ cap ≤ maxLen
theorem Sc.below {b gl gs : Nat} {A : Option Addr} {cap : Nat} {D : LD} {w w' : World} (h : Sc b gl gs A cap D w) (hb : Below b w w') : Sc b gl gs A cap D w' := by
  obtain ⟨h1, h2, ⟨a, css, lev, h3⟩, ⟨s9, h4⟩, h5, h6⟩ := h
  refine ⟨h1, h2, ⟨a, css, lev, (hb.block _ h1).trans h3⟩, ⟨s9, (hb.block _ h2).trans h4⟩, fun k hk => ?_, h6⟩
  obtain ⟨g, p, e, hg, hp, hc, ho⟩ := h5 k hk
  exact ⟨g, p, e, hg, hp, by rw [hb.cell (p := ⟨g, k, none⟩) hg]; exact hc, (hb.block _ hp).trans ho⟩
theorem Sc.cells {b gl gs : Nat} {A : Option Addr} {cap : Nat} {D : LD} {w : World} (h : Sc b gl gs A cap D w) :
    w.cell? ⟨gl, 1, none⟩ = some (.string D.sp) ∧ w.cell? ⟨gl, 3, none⟩ = some (.slice A D.its.length cap) ∧ w.cell? ⟨gl, 5, none⟩ = some (.pointer (some ⟨gs, 0, none⟩)) ∧
    w.cell? ⟨gs, 0, none⟩ = some (.int .i64 0) ∧ w.cell? ⟨gs, 1, none⟩ = some (.string D.s1) ∧ w.cell? ⟨gs, 2, none⟩ = some (.string D.s2) ∧ w.cell? ⟨gs, 3, none⟩ = some (.string D.s3) ∧ w.cell? ⟨gs, 4, none⟩ = some (.string D.s4) ∧
    w.cell? ⟨gs, 5, none⟩ = some (.string D.s5) ∧ w.cell? ⟨gs, 6, none⟩ = some (.string D.s6) ∧ w.cell? ⟨gs, 7, none⟩ = some (.string D.s7) ∧ w.cell? ⟨gs, 8, none⟩ = some (.string D.s8) := by
  obtain ⟨a, css, lev, h3⟩ := h.lst
  obtain ⟨s9, h4⟩ := h.sty
  have q := fun k => cell_of_row w gl k _ 62 (0, 0) h3
  have r := fun k => cell_of_row w gs k _ 41 (0, 0) h4
  exact ⟨q 1, q 3, q 5, r 0, r 1, r 2, r 3, r 4, r 5, r 6, r 7, r 8⟩
/-- A hint that is no longer written stays. -/
def Kp (b : Nat) (w w' : World) : Prop := ∀ (k : Nat) (cs : Array Value), k ≠ b → w.heap[k]? = some (.cells cs 75 (0, 0)) → w'.heap[k]? = some (.cells cs 75 (0, 0))
theorem Kp.refl (b : Nat) (w : World) : Kp b w w := fun _ _ _ h => h
theorem Kp.trans {b : Nat} {w w' w2 : World} (h : Kp b w w') (g : Kp b w' w2) : Kp b w w2 := fun k cs hk hh => g k cs hk (h k cs hk hh)
theorem Kp.of_below (b : Nat) {w w' : World} (h : Below w.heap.size w w') : Kp b w w' := fun k cs hk hh => (h.block k (Array.getElem?_eq_some_iff.1 hh).1).trans hh
theorem Kp.of_others {b : Nat} {w w' : World} (h : BKept b w w') : Kp b w w' := fun k cs hk hh => h k _ hh (fun e => hk (Option.some.inj e)) (fun c fz e => by injection e with e1 e2; exact absurd e2 (by decide))
/-- What writes to the builder. -/
theorem put_s {b : Nat} {l : List UInt8} {w : World} (h : Bld b b l w) (W : World) (hW : Below w.heap.size w W) (s : ByteArray) (hs : s.size ≤ 1000000) (hl : l.length ≤ 1000000000) :
    Calls Tryz.prog 63 #[.pointer (some ⟨b, 0, none⟩), .string s] W fun e w' => e = .returned (.tuple #[.int .i64 s.size, .nilIface]) ∧ Bld b b (l ++ s.data.toList) w' ∧ Below b W w' ∧ Kp b W w' := by
  have hb := h.lt'
  refine (wr_text b b l s W (h.keep hW) (by omega) (by have := hW.size; omega)).mono ?_
  rintro e w' ⟨h1, h2, h3, h4⟩
  exact ⟨h1, h2, h3, Kp.of_others h4⟩
theorem put_r {b : Nat} {l : List UInt8} {w : World} (h : Bld b b l w) (W : World) (hW : Below w.heap.size w W) (c : UInt8) (hc : c.toNat < 128) (hl : l.length ≤ 1000000000) :
    Calls Tryz.prog 56 #[.pointer (some ⟨b, 0, none⟩), .int .i32 c.toNat] W fun e w' => e = .returned (.tuple #[.int .i64 1, .nilIface]) ∧ Bld b b (l ++ [c]) w' ∧ Below b W w' ∧ Kp b W w' := by
  have hb := h.lt'
  refine (wr_rune b b l c hc W (h.keep hW) (by omega) (by have := hW.size; omega)).mono ?_
  rintro e w' ⟨h1, h2, h3, h4⟩
  exact ⟨h1, h2, h3, Kp.of_others h4⟩
set_option maxHeartbeats 4000000 in
set_option maxRecDepth 100000 in
theorem more_any (b gl gs : Nat) (A : Option Addr) (cap : Nat) (D : LD) (lev : Int) (p : Nat) (w : World) (h : Sc b gl gs A cap D w) (hD : D.ok) (hp : p < D.its.length) :
    Calls Tryz.prog 45 #[.pointer (some ⟨gl, 0, none⟩), .int .i64 lev, .int .i64 p] w fun e w' => e = .returned (.bool (more lev (D.lvs.drop (p + 1)))) ∧ w = w' := by
  have c3 := h.cells.2.1
  have hn := hD.hn
  have hll : D.lvs.length = D.its.length := by simp [LD.lvs]
  obtain ⟨g, q, rfl, -, -, -, -⟩ := h.item p hp
  have Item := Lib.hid (show ∀ k, k < D.its.length → ∃ q, w.cell? ⟨g, k, none⟩ = some (.pointer (some ⟨q, 0, none⟩)) ∧ w.cell? ⟨q, 0, none⟩ = some (.int .i64 (zat D.lvs k)) by
    intro k hk
    obtain ⟨g', q, e, _, _, h1, h2⟩ := h.item k hk
    injection e with e
    injection e with e1 e2
    subst e1
    refine ⟨q, h1, ?_⟩
    rw [cell_of_row w q 0 _ 72 (0, 0) h2]
    simp [LD.lvs, zat, hk])
  obtain ⟨hn', hc2⟩ := h.caps
  clear h hD
  generalize D.lvs = zs at *
  generalize D.its.length = n at *
  have Hz := Lib.hid hll
  clear hll
  unfold maxLen at hc2
  go_enter Tryz.func45, Tryz.ntmps45
  go_wp2_with fail
  go_loop [7] (fun i => ∃ k : Nat, p < k ∧ k ≤ n ∧ i = .int .i64 k ∧ Hid (more lev (zs.drop (p + 1)) = more lev (zs.drop k))) (fun i => n - (intOf i).toNat)
  case atStart => exact ⟨p + 1, by omega, by omega, by go_num, Lib.hid rfl⟩
  case round =>
    obtain ⟨k, hpk, hk, rfl, hf⟩ := hrel
    have g0 : decide ((0 : Int) ≤ (k : Int)) = true := by simp
    by_cases hlt : k < n
    · obtain ⟨q, cq, cl⟩ := Item.out k hlt
      have hm := Lib.hid (more_at zs lev k (by have := Hz.out; omega))
      have g1 : decide ((k : Int) < (n : Int)) = true := by simpa using hlt
      by_cases h1 : zat zs k < lev
      · go_wp2
        go_ret
        exact ⟨ret_bool (by rw [hf.out, hm.out, if_pos h1]), rfl⟩
      · by_cases h2 : zat zs k = lev
        · have h2' : (zat zs k == lev) = true := by simpa using h2
          have H2 := Lib.hid h2
          clear h2
          go_wp2
          go_ret
          exact ⟨ret_bool (by rw [hf.out, hm.out, if_neg (by have := H2.out; omega), if_pos H2.out]), rfl⟩
        · have h2' : (zat zs k == lev) = false := by simpa using h2
          go_wp2
          go_round
          case rel => exact ⟨k + 1, by omega, by omega, by go_num, Lib.hid (by rw [hf.out, hm.out, if_neg (by omega), if_neg h2])⟩
          case measure => simp [intOf]; omega
    · have g1 : decide ((k : Int) < (n : Int)) = false := by simp; omega
      go_wp2
      go_ret
      exact ⟨ret_bool (by rw [hf.out, more_end zs lev k (by have := Hz.out; omega)]), rfl⟩
end Go.Proofs.YthdkbokdikhojaaGreatDoor
