/- Whether one of a level is still to come behind a place of a list: the walks of the package's function, of its door and of the law. No conditions but the law's own. -/
import Derived.Test.YtadkpooimfbolaaLstA
import Derived.Test.YtadkpooimfbolaaLstB
import Derived.WalkKit
import Derived.Handy
import Derived.Deep.QuietTactic
import Derived.BigQuiet
import Derived.Laws.OwnMore
import Derived.WalkLawsBesides
namespace Go.Proofs.Ytadkpooimfbolaa
open Go.RowKit
set_option linter.unusedVariables false
theorem Items.push {w W w1 : World} {B : Nat} {v v' : Value} {l : List (Int × ByteArray)} {x : Int × ByteArray} {p : Nat} {ps : List Nat}
    (h1 : ps.length = l.length) (h2 : w.ownsRow B 77 1 v l.length (ps.map fun p => .pointer (some ⟨p, 0, none⟩)))
    (h3 : ∀ (j : Nat) (p : Nat) (x : Int × ByteArray), ps[j]? = some p → l[j]? = some x → B ≤ p ∧ w.heap[p]? = some (.cells #[.int .i64 x.1, .string x.2] 79 (0, 0)))
    (ext : ∀ (k : Nat) (o : Obj), w.heap[k]? = some o → W.heap[k]? = some o) (hp : W.heap[p]? = some (.cells #[.int .i64 x.1, .string x.2] 79 (0, 0))) (hBp : B ≤ p) (hg : W.grownBy w1 v.ownBlock)
    (hown : w1.ownsRow B 77 1 v' (l.length + 1) ((ps.map fun p => .pointer (some ⟨p, 0, none⟩)) ++ [.pointer (some ⟨p, 0, none⟩)])) : Items w1 B v' (l ++ [x]) := by
  have far : ∀ (q : Nat) (o : Array Value), W.heap[q]? = some (.cells o 79 (0, 0)) → w1.heap[q]? = some (.cells o 79 (0, 0)) := by
    intro q o hq
    refine (hg.block q (Array.getElem?_eq_some_iff.1 hq).1 fun e => ?_).trans hq
    rcases h2.2 with ⟨rfl, _⟩ | ⟨g, cap, cur, rfl, _, hgg, _⟩
    · simp [Value.ownBlock] at e
    · simp [Value.ownBlock] at e
      subst e
      rw [ext _ _ hgg] at hq
      simp at hq
  refine ⟨ps ++ [p], by simp [h1], ?_, ?_⟩
  · simpa using hown
  · intro j q y hq hy
    by_cases hj : j < ps.length
    · rw [List.getElem?_append_left hj] at hq
      rw [List.getElem?_append_left (by omega)] at hy
      obtain ⟨a, b⟩ := h3 j q y hq hy
      exact ⟨a, far _ _ (ext _ _ b)⟩
    · have hj2 : j = ps.length := by
        have := (List.getElem?_eq_some_iff.1 hq).1
        simp at this
        omega
      subst hj2
      simp at hq
      rw [h1] at hy
      simp at hy
      subst hq; subst hy
      exact ⟨hBp, far _ _ hp⟩
theorem one_at {W : World} {b : Nat} {v : Value} {t : TypeId} (h : W.heap[b]? = some (.cells #[v] t (0, 0))) : ∀ j u, [v][j]? = some u → W.cell? ((⟨b, 0, none⟩ : Addr).add j) = some u := by
  intro j u hj
  cases j with
  | succ j => simp at hj
  | zero =>
    simp at hj
    subst hj
    exact cell_of_row W b 0 _ t (0, 0) h
theorem hp_new {W : World} {o : Obj} {k : Nat} (h : k = W.heap.size) : (W.alloc o).heap[k]? = some o := by subst h; exact heap_alloc_new W o
theorem hp_alloc {W : World} {o x : Obj} {k : Nat} (h : W.heap[k]? = some o) : (W.alloc x).heap[k]? = some o := (Below.heap_alloc W x k (Array.getElem?_eq_some_iff.1 h).1).trans h
theorem own_form {w : World} {B : Nat} {e : TypeId} {size n : Nat} {v : Value} {xs : List Value} (h : w.ownsRow B e size v n xs) : ∃ a cap, v = .slice a n cap := by
  rcases h.2 with ⟨rfl, rfl⟩ | ⟨g, cap, cur, rfl, _⟩
  · exact ⟨none, 0, rfl⟩
  · exact ⟨_, cap, rfl⟩
theorem info77 : (Try.prog.info? 77).map (fun i => (i.zero, i.size, i.bytes)) = some (some (.pointer none), 1, 8) := by kernel_rfl
def lvs (zs : List Int) : List (Int × ByteArray) := zs.map fun z => (z, ⟨#[]⟩)
def LevRet (w : World) (zs : List Int) (o : Obj) (e : Ending) (w' : World) : Prop :=
  ∃ gl gs B a v sp css, e = .returned (.pointer (some ⟨gl, 0, none⟩)) ∧ Below w.heap.size w w' ∧ w'.heap[gl]? = some (lstO a sp css v 0 (some ⟨gs, 0, none⟩)) ∧ w'.heap[gs]? = some o ∧ gs ≠ gl ∧ gl < B ∧ Items w' B v (lvs zs)
theorem take_snoc' (zs : List Int) (k : Nat) (h : k < zs.length) : zs.take (k + 1) = zs.take k ++ [zat zs k] := by
  rw [List.take_succ_eq_append_getElem h, zat, List.getD_eq_getElem?_getD, List.getElem?_eq_getElem h]; rfl
set_option maxHeartbeats 4000000 in
set_option maxRecDepth 100000 in
theorem levels_any (A : Option Addr) (n cap : Nat) (zs : List Int) (fmt : Int) (s1 s2 s3 s4 s5 s6 s7 s8 s9 : ByteArray) (w : World) (h : Nums .i64 w A n cap zs) (hn : n ≤ 1000) (hz : ∀ j, j < n → 0 ≤ zat zs j ∧ zat zs j ≤ 1000)
    (h5 : s5.size ≤ 1000) (h7 : s7.size ≤ 1000) (h8 : s8.size ≤ 1000) :
    Calls Try.prog 32 #[.slice A n cap, .agg #[.int .i64 fmt, .string s1, .string s2, .string s3, .string s4, .string s5, .string s6, .string s7, .string s8, .string s9]] w (LevRet w zs (styO fmt s1 s2 s3 s4 s5 s6 s7 s8 s9)) := by
  obtain ⟨i0, hi, hz0, hz1, hz2⟩ := info_parts info77
  have Hl := Lib.hid h.2.1
  have Hz := Lib.hid hz
  clear hz
  go_enter Try.func32, Try.ntmps32
  go_wp2_with fail
  go_loopw [12] (fun i wr => ∃ (k : Nat) (v : Value), k ≤ n ∧ i = .int .i64 k ∧ Hid (wr.heap[w.heap.size + 1]? = some (lstO 0 ⟨#[]⟩ ⟨#[]⟩ v 0 (some ⟨w.heap.size, 0, none⟩))) ∧ Hid (wr.heap[w.heap.size]? = some (styO fmt s1 s2 s3 s4 s5 s6 s7 s8 s9)) ∧ Hid (Items wr (w.heap.size + 2) v (lvs (zs.take k))) ∧ Hid (Below w.heap.size w wr)) (fun i _ => n - (intOf i).toNat)
  case atStart =>
    refine ⟨0, .slice none 0 0, Nat.zero_le _, rfl, Lib.hid ?_, Lib.hid ?_, Lib.hid (Items.nil _ _), Lib.hid (((Below.refl _ _).alloc (Nat.le_refl _) _).alloc (by simp) _)⟩
    · exact hp_new (by simp)
    · exact hp_alloc (hp_new rfl)
  case round =>
    obtain ⟨k, v, hk, rfl, HL, HS, HI, HB⟩ := hrel
    by_cases hlt : k < n
    · obtain ⟨b, o, rfl, hb, hcell⟩ := h.cell hlt
      have hck : wr.cell? ⟨b, o + k, none⟩ = some (.int .i64 (zat zs k)) := (HB.out.cell (p := ⟨b, o + k, none⟩) hb).trans (hcell k hlt)
      have c3 : wr.cell? ⟨w.heap.size + 1, 3, none⟩ = some v := cell_of_row wr (w.heap.size + 1) 3 _ 61 (0, 0) HL.out
      have f3 : wr.frozen? ⟨w.heap.size + 1, 3, none⟩ = false := by simp [World.frozen?, HL.out]
      have z1 : w.heap.size + 1 < wr.heap.size := World.block_lt_of_cell? _ _ c3
      clear hcell
      obtain ⟨wo, rfl⟩ : ∃ wo : World, wo = wr := ⟨_, rfl⟩
      obtain ⟨ps, i1, i2, i3⟩ := HI.out
      have I1 := Lib.hid i1
      have I3 := Lib.hid i3
      have hlen : (lvs (zs.take k)).length = k := by simp [lvs]; have := Hl.out; omega
      have Hlen := Lib.hid hlen
      have hsz : (lvs (zs.take k)).length ≤ 1000 := by omega
      clear i1 i3 hlen HI
      go_wp2_with (at_builtin; refine wpList_append_own _ rfl _ _ 58 rfl (w.heap.size + 2) 77 i0 (.pointer none) 1 8 Try.underlying58 hi hz0 hz1 hz2 rfl (by decide) v _ _ rfl ((i2.alloc _).alloc _) ⟨wo.heap.size + 1, 0, none⟩ 1 1 [.pointer (some ⟨wo.heap.size, 0, none⟩)] rfl rfl ?c1 ?c2 ?c3 ?c4 ?c5 ?_)
      case c1 => exact one_at (hp_new (by simp))
      case c2 => simp [Value.oneCell']
      case c3 => unfold maxLen; omega
      case c4 => omega
      case c5 => simp; omega
      intro v' w1 hown hgrow _
      obtain ⟨ax, cx, rfl⟩ := own_form hown
      generalize hvv : Value.slice ax ((lvs (zs.take k)).length + 1) cx = v' at hown
      have hne1 : ∀ q, q < w.heap.size + 2 → some q ≠ v.ownBlock := fun q hq e => by have := (i2.lt q e.symm).1; omega
      have gl1 : w1.heap[w.heap.size + 1]? = some (lstO 0 ⟨#[]⟩ ⟨#[]⟩ v 0 (some ⟨w.heap.size, 0, none⟩)) := (hgrow.block (w.heap.size + 1) (by simp; omega) (hne1 _ (by omega))).trans (hp_alloc (hp_alloc HL.out))
      have gs1 : w1.heap[w.heap.size]? = some (styO fmt s1 s2 s3 s4 s5 s6 s7 s8 s9) := (hgrow.block w.heap.size (by simp; omega) (hne1 _ (by omega))).trans (hp_alloc (hp_alloc HS.out))
      have I1' : Items w1 (w.heap.size + 2) v' (lvs (zs.take k) ++ [(zat zs k, ⟨#[]⟩)]) :=
        Items.push I1.out i2 I3.out (fun k o h => hp_alloc (hp_alloc h)) (p := wo.heap.size) (hp_alloc (hp_new rfl)) (by omega) hgrow hown
      have e1 : lvs (zs.take (k + 1)) = lvs (zs.take k) ++ [(zat zs k, ⟨#[]⟩)] := by
        rw [take_snoc' zs k (by have := Hl.out; omega)]; simp [lvs]
      rw [← e1] at I1'
      have B1 : Below w.heap.size w w1 := ((HB.out.alloc HB.out.size _).alloc (by simp; omega) _).grown hgrow (by simp; omega) (fun q hq => by have := (i2.lt q hq).1; omega)
      have c31 : w1.cell? ⟨w.heap.size + 1, 3, none⟩ = some v := cell_of_row w1 (w.heap.size + 1) 3 _ 61 (0, 0) gl1
      have f31 : w1.frozen? ⟨w.heap.size + 1, 3, none⟩ = false := by simp [World.frozen?, gl1]
      have r1 : (w1.setCell ⟨w.heap.size + 1, 3, none⟩ v').heap[w.heap.size + 1]? = some (lstO 0 ⟨#[]⟩ ⟨#[]⟩ v' 0 (some ⟨w.heap.size, 0, none⟩)) := heap_setCell_same w1 _ 3 _ 61 v' gl1
      have r2 : (w1.setCell ⟨w.heap.size + 1, 3, none⟩ v').heap[w.heap.size]? = some (styO fmt s1 s2 s3 s4 s5 s6 s7 s8 s9) := (heap_setCell_other w1 _ _ v' (by simp)).trans gs1
      have r3 : Items (w1.setCell ⟨w.heap.size + 1, 3, none⟩ v') (w.heap.size + 2) v' (lvs (zs.take (k + 1))) := I1'.keep fun q o hq ho => (heap_setCell_other w1 _ q v' (by simp; omega)).trans ho
      have r4 : Below w.heap.size w (w1.setCell ⟨w.heap.size + 1, 3, none⟩ v') := B1.setCell (by simp) _
      have R1 := Lib.hid r1
      have R2 := Lib.hid r2
      have R3 := Lib.hid r3
      have R4 := Lib.hid r4
      subst hvv
      clear e1 I1' gl1 gs1 hne1 hgrow hown B1 r1 r2 r3 r4 i2
      go_wp2_with fail
      go_roundw
      case rel => exact ⟨k + 1, _, by omega, by go_num, R1, R2, R3, R4⟩
      case measure => simp [intOf]; omega
    · have hd : decide ((k : Int) < (n : Int)) = false := by simp; omega
      have e : k = n := by omega
      subst e
      have hkl : zs.take k = zs := List.take_of_length_le (by have := Hl.out; omega)
      rw [hkl] at HI
      have HI2 := Lib.hid HI.out
      clear hkl HI
      have init : Calls Try.prog 46 #[.pointer (some ⟨w.heap.size + 1, 0, none⟩)] wr fun e w' => e = .returned (.tuple #[]) ∧ ∃ a', LW wr (w.heap.size + 1) (lstO a' (spaces (Lib.runeCount s5)) (cssOf ⟨#[]⟩) v 0 (some ⟨w.heap.size, 0, none⟩)) w' :=
        init_any (w.heap.size + 1) w.heap.size (w.heap.size + 2) 0 ⟨#[]⟩ ⟨#[]⟩ v 0 (lvs zs) fmt s1 s2 s3 s4 s5 s6 s7 s8 s9 wr HL.out HS.out (by omega) (by omega) HI2.out h5 h7 h8 (by simp [lvs]; have := Hl.out; omega) (fun x hx => by
          simp only [lvs, List.mem_map] at hx
          obtain ⟨z, hz, rfl⟩ := hx
          obtain ⟨j, hj, rfl⟩ := List.getElem_of_mem hz
          have := Hz.out j (by have := Hl.out; omega)
          rw [zat, List.getD_eq_getElem?_getD, List.getElem?_eq_getElem hj] at this
          exact ⟨this.1, this.2, Nat.zero_le 1000⟩)
      have Init := Lib.hid init
      clear init
      go_wp2_with (go_at_call 46; refine Init.out.mono ?_; rintro e w1 ⟨rfl, a', hW⟩)
      go_ret
      refine ⟨w.heap.size + 1, w.heap.size, w.heap.size + 2, a', v, _, _, rfl, ?_, hW.2, hW.other (by omega) HS.out, by omega, by omega, HI2.out.keep fun q o hq ho => hW.other (by omega) ho⟩
      exact HB.out.grown hW.1 HB.out.size (fun q hq => by cases hq; omega)
set_option maxHeartbeats 4000000 in
set_option maxRecDepth 100000 in
theorem hasMore_any (gl B : Nat) (o : Obj) (a : Int) (sp css : ByteArray) (v : Value) (lv : Int) (st : Option Addr) (zs : List Int) (lev : Int) (p : Nat) (w : World) (hgl : w.heap[gl]? = some (lstO a sp css v lv st)) (hI : Items w B v (lvs zs)) (hp : p < zs.length) (hn : zs.length ≤ 1000) :
    Calls Try.prog 33 #[.pointer (some ⟨gl, 0, none⟩), .int .i64 lev, .int .i64 p] w fun e w' => e = .returned (.bool (more lev (zs.drop (p + 1)))) ∧ w = w' := by
  obtain ⟨A, cap, rfl, hc1, hc2⟩ := hI.form
  have hll : (lvs zs).length = zs.length := by simp [lvs]
  have c3 : w.cell? ⟨gl, 3, none⟩ = some (.slice A zs.length cap) := by rw [← hll]; exact cell_of_row w gl 3 _ 61 (0, 0) hgl
  obtain ⟨g, q, rfl, hjunk⟩ := hI.at_ (k := p) (by omega)
  clear hjunk
  have item : ∀ k, k < zs.length → ∃ q, w.cell? ⟨g, k, none⟩ = some (.pointer (some ⟨q, 0, none⟩)) ∧ w.cell? ⟨q, 0, none⟩ = some (.int .i64 (zat zs k)) := by
    intro k hk
    obtain ⟨g', q, e, _, _, h1, h2⟩ := hI.at_ (k := k) (by omega)
    injection e with e
    injection e with e1 e2
    subst e1
    refine ⟨q, h1, ?_⟩
    have := cell_of_row w q 0 _ 79 (0, 0) h2
    rw [this]
    simp [lvs, zat, hk]
  have Item := Lib.hid item
  clear item hI hgl hll
  have hn' : zs.length ≤ cap := by simp [lvs] at hc1; exact hc1
  clear hc1
  generalize hL : zs.length = n at *
  have Hz := Lib.hid hL
  clear hL
  unfold maxLen at hc2
  go_enter Try.func33, Try.ntmps33
  go_wp2_with fail
  go_loop [7] (fun i => ∃ k : Nat, p < k ∧ k ≤ n ∧ i = .int .i64 k ∧ Hid (more lev (zs.drop (p + 1)) = more lev (zs.drop k))) (fun i => n - (intOf i).toNat)
  case atStart => exact ⟨p + 1, by omega, by omega, by go_num, Lib.hid rfl⟩
  case round =>
    obtain ⟨k, hpk, hk, rfl, hf⟩ := hrel
    have g0 : decide ((0 : Int) ≤ (k : Int)) = true := by simp
    by_cases hlt : k < n
    · obtain ⟨q, cq, cl⟩ := Item.out k hlt
      have hm := Lib.hid (more_at zs lev k (by have := Hz.out; omega))
      have g1 : decide ((k : Int) < (n : Int)) = true := by simpa using hlt
      by_cases h1 : zat zs k < lev
      · go_wp2
        go_ret
        exact ⟨ret_bool (by rw [hf.out, hm.out, if_pos h1]), rfl⟩
      · by_cases h2 : zat zs k = lev
        · have h2' : (zat zs k == lev) = true := by simpa using h2
          have H2 := Lib.hid h2
          clear h2
          go_wp2
          go_ret
          exact ⟨ret_bool (by rw [hf.out, hm.out, if_neg (by have := H2.out; omega), if_pos H2.out]), rfl⟩
        · have h2' : (zat zs k == lev) = false := by simpa using h2
          go_wp2
          go_round
          case rel => exact ⟨k + 1, by omega, by omega, by go_num, Lib.hid (by rw [hf.out, hm.out, if_neg (by omega), if_neg h2])⟩
          case measure => simp [intOf]; omega
    · have g1 : decide ((k : Int) < (n : Int)) = false := by simp; omega
      go_wp2
      go_ret
      exact ⟨ret_bool (by rw [hf.out, more_end zs lev k (by have := Hz.out; omega)]), rfl⟩
theorem zzMore_any (A : Option Addr) (n cap : Nat) (zs : List Int) (lev : Int) (p : Nat) (w : World) (h : Nums .i64 w A n cap zs) (hn : n ≤ 1000) (hz : ∀ j, j < n → 0 ≤ zat zs j ∧ zat zs j ≤ 1000) (hp : p < n) :
    Calls Try.prog 21 #[.slice A n cap, .int .i64 lev, .int .i64 p] w fun e w' => e = .returned (.bool (more lev (zs.drop (p + 1)))) ∧ Below w.heap.size w w' := by
  have hl := Lib.hid h.2.1
  have hlev := Lib.hid (levels_any A n cap zs 0 ⟨#[]⟩ ⟨#[]⟩ ⟨#[]⟩ ⟨#[]⟩ ⟨#[]⟩ ⟨#[]⟩ ⟨#[]⟩ ⟨#[]⟩ ⟨#[]⟩ w h hn hz (Nat.zero_le _) (Nat.zero_le _) (Nat.zero_le _))
  clear hz
  go_enter Try.func21, Try.ntmps21
  go_wp2_with (first
    | (go_at_call 32; refine hlev.out.mono ?_; rintro e w1 ⟨gl, gs, B, a, v, sp, css, rfl, hB, hgl, hgs, hne, hlt, hI⟩
       have HB := Lib.hid hB
       have HM := Lib.hid (hasMore_any gl B (lstO 0 ⟨#[]⟩ ⟨#[]⟩ v 0 none) a sp css v 0 _ zs lev p w1 hgl hI (by have := hl.out; omega) (by have := hl.out; omega))
       clear hB hgl hgs hI)
    | (go_at_call 33; refine HM.out.mono ?_; rintro e w2 ⟨rfl, rfl⟩))
  go_ret
  exact ⟨rfl, HB.out⟩
theorem listMore_any (A : Option Addr) (n cap : Nat) (zs : List Int) (lev : Int) (p : Nat) (w : World) (h : Nums .i64 w A n cap zs) (hn : n ≤ 1000) (hz : ∀ j, j < n → 0 ≤ zat zs j ∧ zat zs j ≤ 1000) (hp : p < n) :
    Calls Try.prog 11 #[.slice A n cap, .int .i64 lev, .int .i64 p] w fun e w' => e = .returned (.bool (more lev (zs.drop (p + 1)))) ∧ Below w.heap.size w w' := by
  have H := Lib.hid (zzMore_any A n cap zs lev p w h hn hz hp)
  clear hz h
  go_enter Try.func11, Try.ntmps11
  go_wp2_with (go_at_call 21; refine H.out.mono ?_; rintro e w1 ⟨rfl, hb⟩)
  go_ret
  exact ⟨rfl, hb⟩
theorem below_nums {k : IntKind} {w w' : World} {A : Option Addr} {n cap : Nat} {zs : List Int} (h : Nums k w A n cap zs) (hb : Below w.heap.size w w') : Nums k w' A n cap zs :=
  ⟨(h.1.below hb).more hb.size, h.2⟩
set_option maxHeartbeats 1000000 in
theorem lawMore (A : Option Addr) (n cap : Nat) (zs : List Int) (lev p : Int) (w : World) (h : Nums .i64 w A n cap zs) (h1 : -9223372036854775808 ≤ lev ∧ lev ≤ 9223372036854775807) (h2 : -9223372036854775808 ≤ p ∧ p ≤ 9223372036854775807) :
    Calls Try.prog 4 #[.slice A n cap, .int .i64 lev, .int .i64 p] w fun e w' => e = .returned (.bool true) ∧ Below w.heap.size w w' := by
  clear h1 h2
  by_cases hb : 2147483647 < n
  · go_enter Try.func4, Try.ntmps4
    go_wp2
    go_ret
    exact ⟨rfl, Below.refl _ _⟩
  · have hd : decide ((2147483647 : Int) < (n : Int)) = false := by simp; omega
    have hf := Lib.hid (fits_any A n cap zs 60 0 20 w h)
    by_cases hp : 0 ≤ p ∧ p < n
    · obtain ⟨q, rfl⟩ : ∃ q : Nat, p = q := ⟨p.toNat, by omega⟩
      have hq : q < n := by omega
      have g1 : decide ((q : Int) < 0) = false := by simp
      have g2 : decide ((n : Int) ≤ (q : Int)) = false := by simp; omega
      clear hp
      have H := Lib.hid h
      clear h
      go_enter Try.func4, Try.ntmps4
      go_wp2_with (go_at_call 10; refine hf.out.mono ?_; rintro e w1 ⟨b, rfl, rfl, hfit⟩
                   have hFit := Lib.hid hfit; clear hfit; cases b)
      · go_wp2
        go_ret
        exact ⟨rfl, Below.refl _ _⟩
      · have h60 : n ≤ 60 := by have := (hFit.out trivial).1; omega
        have Hz := Lib.hid (fun j hj => (hFit.out trivial).2 j hj)
        have HM := Lib.hid (listMore_any A n cap zs lev q w H.out (by omega) (fun j hj => ⟨(Hz.out j hj).1, by have := (Hz.out j hj).2; omega⟩) hq)
        go_wp2_with (first
          | (go_at_call 11; refine HM.out.mono ?_; rintro e w1 ⟨rfl, hB⟩
             have HB := Lib.hid hB
             have HS := Lib.hid (specMore_any A n cap zs lev q w1 (below_nums H.out hB) hq)
             clear hB)
          | (go_at_call 12; refine HS.out.mono ?_; rintro e w2 ⟨rfl, rfl⟩))
        go_ret
        exact ⟨ret_true (by simp), HB.out⟩
    · by_cases hp0 : p < 0
      · have g1 : decide (p < 0) = true := by simpa using hp0
        go_enter Try.func4, Try.ntmps4
        go_wp2_with (go_at_call 10; refine hf.out.mono ?_; rintro e w1 ⟨b, rfl, rfl, hfit⟩
                     have hFit := Lib.hid hfit; clear hfit; cases b)
        all_goals
          go_wp2
          go_ret
          exact ⟨rfl, Below.refl _ _⟩
      · have g1 : decide (p < 0) = false := by simpa using hp0
        have g2 : decide ((n : Int) ≤ p) = true := by simp; omega
        go_enter Try.func4, Try.ntmps4
        go_wp2_with (go_at_call 10; refine hf.out.mono ?_; rintro e w1 ⟨b, rfl, rfl, hfit⟩
                     have hFit := Lib.hid hfit; clear hfit; cases b)
        all_goals
          go_wp2
          go_ret
          exact ⟨rfl, Below.refl _ _⟩
end Go.Proofs.Ytadkpooimfbolaa
