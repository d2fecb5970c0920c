/- The list as the package keeps it: its block, its items, its style; what is worked out ahead of rendering. Texts of at most 1000 bytes, at most 1000 items. -/
import Derived.Test.YthdkbokdikhojaaGreatDoorProg
import Derived.Test.YthdkbokdikhojaaGreatDoorBase
import Derived.Test.YthdkbokdikhojaaGreatDoorShelf
import Derived.WalkKit
import Derived.Handy
import Derived.Deep.QuietTactic
import Derived.Deep.RegionHeld3
import Derived.Deep.RegionWith
import Derived.Deep.DeepCutAuto
import Derived.Deep.CutBlock
import Derived.IntWalk
import Derived.Deep.DrawnRows
import Derived.BigQuiet
import Derived.WalkLawsBesides
namespace Go.Proofs.YthdkbokdikhojaaGreatDoor
open Go.RowKit
set_option linter.unusedVariables false
attribute [local go_sem ↓] Go.wp_at_zero Go.wp_at_succ
abbrev lstO (a : Int) (sp css : ByteArray) (v : Value) (lev : Int) (sty : Option Addr) : Obj := .cells #[.int .i64 a, .string sp, .string css, v, .int .i64 lev, .pointer sty] 62 (0, 0)
abbrev styO (fmt : Int) (s1 s2 s3 s4 s5 s6 s7 s8 s9 : ByteArray) : Obj := .cells #[.int .i64 fmt, .string s1, .string s2, .string s3, .string s4, .string s5, .string s6, .string s7, .string s8, .string s9] 41 (0, 0)
/-- The items of a list, in memory: a row of pointers, each to a block with a level and a text. -/
def Items (w : World) (B : Nat) (v : Value) (l : List (Int × ByteArray)) : Prop :=
  ∃ ps : List Nat, ps.length = l.length ∧ w.ownsRow B 70 1 v l.length (ps.map fun p => .pointer (some ⟨p, 0, none⟩)) ∧
    ∀ (j p : Nat) (x : Int × ByteArray), ps[j]? = some p → l[j]? = some x → B ≤ p ∧ w.heap[p]? = some (.cells #[.int .i64 x.1, .string x.2] 72 (0, 0))
theorem Items.nil (w : World) (B : Nat) : Items w B (.slice none 0 0) [] := ⟨[], rfl, World.ownsRow_nil _ _ _ _, by simp⟩
theorem Items.keep {w w' : World} {B : Nat} {v : Value} {l : List (Int × ByteArray)} (h : Items w B v l) (hk : ∀ k o, B ≤ k → w.heap[k]? = some o → w'.heap[k]? = some o) : Items w' B v l := by
  obtain ⟨ps, h1, h2, h3⟩ := h
  refine ⟨ps, h1, ?_, fun j p x hp hx => ⟨(h3 j p x hp hx).1, hk _ _ (h3 j p x hp hx).1 (h3 j p x hp hx).2⟩⟩
  refine ⟨h2.1, ?_⟩
  rcases h2.2 with hn | ⟨g, cap, cur, e, hb, hg, rest⟩
  · exact .inl hn
  · exact .inr ⟨g, cap, cur, e, hb, hk _ _ hb hg, rest⟩
theorem Items.form {w : World} {B : Nat} {v : Value} {l : List (Int × ByteArray)} (h : Items w B v l) : ∃ a cap, v = .slice a l.length cap ∧ l.length ≤ cap ∧ cap ≤ maxLen := by
  obtain ⟨ps, h1, h2, h3⟩ := h
  rcases h2.2 with ⟨e, hz⟩ | ⟨g, cap, cur, e, hb, hg, hc, hm, _⟩
  · exact ⟨none, 0, by rw [hz]; exact e, by omega, by simp [maxLen]⟩
  · exact ⟨_, cap, e, hc, hm⟩
theorem Items.at_ {w : World} {B : Nat} {a : Option Addr} {cap : Nat} {l : List (Int × ByteArray)} (h : Items w B (.slice a l.length cap) l) {k : Nat} (hk : k < l.length) :
    ∃ g p, a = some ⟨g, 0, none⟩ ∧ B ≤ g ∧ B ≤ p ∧ w.cell? ⟨g, k, none⟩ = some (.pointer (some ⟨p, 0, none⟩)) ∧ w.heap[p]? = some (.cells #[.int .i64 (l[k]).1, .string (l[k]).2] 72 (0, 0)) := by
  obtain ⟨ps, h1, h2, h3⟩ := h
  have hp : ps[k]? = some ps[k] := List.getElem?_eq_getElem (by omega)
  have hx : l[k]? = some l[k] := List.getElem?_eq_getElem hk
  obtain ⟨b1, b2⟩ := h3 k _ _ hp hx
  rcases h2.2 with ⟨e, hz⟩ | ⟨g, cap', cur, e, hb, hg, hc, hm, _⟩
  · omega
  · injection e with e1 e2 e3
    subst e1; subst e3
    have := h2.cellAt k (by omega)
    refine ⟨g, ps[k], rfl, hb, b1, ?_, b2⟩
    rw [this, List.getElem?_map, hp]; rfl
theorem rc_any (s : ByteArray) (w : World) (hs : s.size ≤ 1000) : Calls Tryz.prog 53 #[.string s] w fun e w' => e = .returned (.int .i64 (Lib.runeCount s)) ∧ ∃ pos, w.alloc (.stringIter s pos) = w' :=
  (Tryz.utf8_RuneCountInString s w (by omega)).mono fun e w' ⟨h1, pos, h2⟩ => ⟨h1, pos, h2.symm⟩
/-- Behind some work on a list, block gl alone may be another, and it holds this. -/
def LW (w : World) (gl : Nat) (o : Obj) (w' : World) : Prop := w.grownBy w' (some gl) ∧ w'.heap[gl]? = some o
theorem LW.refl {w : World} {gl : Nat} {o : Obj} (h : w.heap[gl]? = some o) : LW w gl o w := ⟨⟨rfl, rfl, rfl, Nat.le_refl _, fun _ _ _ => rfl⟩, h⟩
theorem LW.drew {w w' : World} {gl : Nat} {o : Obj} (h : LW w gl o w') : LW w gl o w'.drew := ⟨⟨h.1.os, h.1.tape, h.1.output, h.1.size, h.1.block⟩, h.2⟩
theorem LW.lt {w w' : World} {gl : Nat} {o : Obj} (h : LW w gl o w') : gl < w'.heap.size := (Array.getElem?_eq_some_iff.1 h.2).1
theorem LW.alloc {w w' : World} {gl : Nat} {o : Obj} (h : LW w gl o w') (x : Obj) : LW w gl o (w'.alloc x) :=
  ⟨⟨h.1.os, h.1.tape, h.1.output, Nat.le_trans h.1.size (by simp), fun k hk hne => (Below.heap_alloc w' x k (Nat.lt_of_lt_of_le hk h.1.size)).trans (h.1.block k hk hne)⟩, (Below.heap_alloc w' x gl h.lt).trans h.2⟩
theorem LW.below {w w' w2 : World} {gl : Nat} {o : Obj} (h : LW w gl o w') (hb : Below w'.heap.size w' w2) : LW w gl o w2 :=
  ⟨⟨hb.os.trans h.1.os, hb.tape.trans h.1.tape, hb.output.trans h.1.output, Nat.le_trans h.1.size hb.size, fun k hk hne => (hb.block k (Nat.lt_of_lt_of_le hk h.1.size)).trans (h.1.block k hk hne)⟩, (hb.block gl h.lt).trans h.2⟩
theorem LW.cell {w w' : World} {gl : Nat} {cs : Array Value} {t : TypeId} {fr : Nat × Nat} (h : LW w gl (.cells cs t fr) w') (j : Nat) : w'.cell? ⟨gl, j, none⟩ = cs[j]? := cell_of_row w' gl j cs t fr h.2
theorem LW.free {w w' : World} {gl : Nat} {cs : Array Value} {t : TypeId} (h : LW w gl (.cells cs t (0, 0)) w') (j : Nat) : w'.frozen? ⟨gl, j, none⟩ = false := by simp [World.frozen?, h.2]
theorem LW.other {w w' : World} {gl : Nat} {o x : Obj} {k : Nat} (h : LW w gl o w') (hk : k ≠ gl) (hx : w.heap[k]? = some x) : w'.heap[k]? = some x := (h.1.block k (Array.getElem?_eq_some_iff.1 hx).1 (by simpa using hk)).trans hx
theorem LW.set {w w' : World} {gl : Nat} {cs : Array Value} {t : TypeId} {j : Nat} (h : LW w gl (.cells cs t (0, 0)) w') (v : Value) : LW w gl (.cells (cs.setIfInBounds j v) t (0, 0)) (w'.setCell ⟨gl, j, none⟩ v) := by
  refine ⟨⟨h.1.os, h.1.tape, h.1.output, Nat.le_trans h.1.size (by simp), fun k hk hne => (Below.heap_setCell w' _ v k (fun e => hne (by rw [e]))).trans (h.1.block k hk hne)⟩, ?_⟩
  exact heap_setCell_same w' gl j cs t v h.2
theorem abs_code {P : Program} {c : Code} {Q : Exit → Act → World → Prop} {a : Act} {w : World} (S : World → Prop) (hS : S w) (h : ∀ w', S w' → Code.wp P c Q a w') : Code.wp P c Q a w := h w hS
theorem style_set (gl gs : Nat) (w : World) (h : w.cell? ⟨gl, 5, none⟩ = some (.pointer (some ⟨gs, 0, none⟩))) : Calls Tryz.prog 51 #[.pointer (some ⟨gl, 0, none⟩)] w fun e w' => e = .returned (.pointer (some ⟨gs, 0, none⟩)) ∧ w = w' := by
  go_enter Tryz.func51, Tryz.ntmps51
  go_wp2
  go_ret
  exact ⟨rfl, rfl⟩
def spaces (n : Nat) : ByteArray := ⟨(Lib.repeatL [32] n).toArray⟩
theorem rep_any (n : Nat) (w : World) (hn : n ≤ 1000) : Calls Tryz.prog 52 #[.string ⟨#[32]⟩, .int .i64 n] w fun e w' => e = .returned (.string (spaces n)) ∧ Below w.heap.size w w' :=
  Tryz.strings_Repeat ⟨#[32]⟩ n w (by omega) (by show 1 * n ≤ _; omega)
def cssOf (css : ByteArray) : ByteArray := if css.data.toList = [] then ⟨#[103, 111, 45, 112, 114, 101, 116, 116, 121, 45, 116, 97, 98, 108, 101]⟩ else css
theorem LW.facts {w W : World} {gl gs p : Nat} {a : Int} {sp css : ByteArray} {v : Value} {lev fmt lk : Int} {s1 s2 s3 s4 s5 s6 s7 s8 s9 tk : ByteArray} (h : LW w gl (lstO a sp css v lev (some ⟨gs, 0, none⟩)) W) (hne : gs ≠ gl) (hgs : w.heap[gs]? = some (styO fmt s1 s2 s3 s4 s5 s6 s7 s8 s9))
    (hp : w.heap[p]? = some (.cells #[.int .i64 lk, .string tk] 72 (0, 0))) (hpg : p ≠ gl) :
    W.cell? ⟨gl, 0, none⟩ = some (.int .i64 a) ∧ W.cell? ⟨gl, 5, none⟩ = some (.pointer (some ⟨gs, 0, none⟩)) ∧ W.frozen? ⟨gl, 0, none⟩ = false ∧ W.cell? ⟨gs, 5, none⟩ = some (.string s5) ∧ W.cell? ⟨gs, 7, none⟩ = some (.string s7) ∧ W.cell? ⟨gs, 8, none⟩ = some (.string s8) ∧
      W.cell? ⟨p, 0, none⟩ = some (.int .i64 lk) ∧ W.cell? ⟨p, 1, none⟩ = some (.string tk) ∧ gl < W.heap.size ∧ gs < W.heap.size ∧ p < W.heap.size := by
  have g1 := h.other hne hgs
  have g2 := h.other hpg hp
  exact ⟨h.cell 0, h.cell 5, h.free 0, cell_of_row W gs 5 _ 41 (0, 0) g1, cell_of_row W gs 7 _ 41 (0, 0) g1, cell_of_row W gs 8 _ 41 (0, 0) g1, cell_of_row W p 0 _ 72 (0, 0) g2, cell_of_row W p 1 _ 72 (0, 0) g2, h.lt, (Array.getElem?_eq_some_iff.1 g1).1, (Array.getElem?_eq_some_iff.1 g2).1⟩
theorem first_set {w W : World} {gl gs : Nat} {a : Int} {sp css : ByteArray} {v : Value} {lev : Int} (h : LW w gl (lstO a sp css v lev (some ⟨gs, 0, none⟩)) W) (o : Obj) (b : Int) : Hid (LW w gl (lstO b sp css v lev (some ⟨gs, 0, none⟩)) (((W.setCell ⟨gl, 0, none⟩ (.int .i64 b)).alloc o).drew)) :=
  ((h.set (j := 0) (.int .i64 b)).alloc o).drew
set_option maxHeartbeats 4000000 in
set_option maxRecDepth 100000 in
theorem init_any (gl gs B : Nat) (a : Int) (sp css : ByteArray) (v : Value) (lev : Int) (l : List (Int × ByteArray)) (fmt : Int) (s1 s2 s3 s4 s5 s6 s7 s8 s9 : ByteArray) (w : World)
    (hgl : w.heap[gl]? = some (lstO a sp css v lev (some ⟨gs, 0, none⟩))) (hgs : w.heap[gs]? = some (styO fmt s1 s2 s3 s4 s5 s6 s7 s8 s9)) (hne : gs ≠ gl) (hB : gl < B) (hI : Items w B v l)
    (h5 : s5.size ≤ 1000) (h7 : s7.size ≤ 1000) (h8 : s8.size ≤ 1000) (hl : l.length ≤ 1000) (hx : ∀ x ∈ l, 0 ≤ x.1 ∧ x.1 ≤ 1000 ∧ x.2.size ≤ 1000) :
    Calls Tryz.prog 43 #[.pointer (some ⟨gl, 0, none⟩)] w fun e w' => e = .returned (.tuple #[]) ∧ ∃ a', 0 ≤ a' ∧ a' ≤ 2000000000 ∧ LW w gl (lstO a' (spaces (Lib.runeCount s5)) (cssOf css) v lev (some ⟨gs, 0, none⟩)) w' := by
  have hL0 := LW.refl hgl
  have c5 : w.cell? ⟨gl, 5, none⟩ = some (.pointer (some ⟨gs, 0, none⟩)) := hL0.cell 5
  have e5 : w.cell? ⟨gs, 5, none⟩ = some (.string s5) := cell_of_row w gs 5 _ 41 (0, 0) hgs
  have f1 := hL0.free 1
  have q5 := Lib.runeCount_le s5
  go_enter Tryz.func43, Tryz.ntmps43
  go_wp2_with (first
    | (go_at_call 51; (refine (style_set gl gs _ c5).mono ?_); rintro e w' ⟨rfl, rfl⟩)
    | (go_at_call 53; (refine (rc_any s5 _ h5).mono ?_); rintro e w1 ⟨rfl, pos, rfl⟩)
    | (go_at_call 52; (refine (rep_any (Lib.runeCount s5) _ (by omega)).mono ?_); rintro e w2 ⟨rfl, hb⟩
       have hL1 : LW w gl _ w2 := (hL0.alloc (.stringIter s5 pos)).below hb
       have f1 := hL1.free 1
       have f0 := hL1.free 0
       have c1 : w2.cell? ⟨gl, 1, none⟩ = some (.string sp) := hL1.cell 1
       have c0 : w2.cell? ⟨gl, 0, none⟩ = some (.int .i64 a) := hL1.cell 0
       have c3 : w2.cell? ⟨gl, 3, none⟩ = some v := hL1.cell 3
       obtain ⟨A, cap, rfl, hc1, hc2⟩ := hI.form))
  have hL2 : LW w gl (lstO 0 (spaces (Lib.runeCount s5)) css (.slice A l.length cap) lev (some ⟨gs, 0, none⟩)) _ := (hL1.set (j := 1) (.string (spaces (Lib.runeCount s5)))).set (j := 0) (.int .i64 0)
  have HL2 := Lib.hid hL2
  have HI := Lib.hid hI
  have HX := Lib.hid hx
  have Hgs := Lib.hid hgs
  clear hL0 hL1 hL2 c5 e5 f1 f0 c1 c0 c3 hI hx hgs hgl hc1
  go_loopw [26] (fun i wr => ∃ (k : Nat) (a : Int), k ≤ l.length ∧ i = .int .i64 k ∧ 0 ≤ a ∧ a ≤ k * 2000000 ∧ Hid (LW w gl (lstO a (spaces (Lib.runeCount s5)) css (.slice A l.length cap) lev (some ⟨gs, 0, none⟩)) wr)) (fun i _ => l.length - (intOf i).toNat)
  case atStart => exact ⟨0, 0, Nat.zero_le _, rfl, by omega, by omega, HL2⟩
  case round =>
    obtain ⟨k, a, hk, rfl, ha0, ha1, HL⟩ := hrel
    by_cases hlt : k < l.length
    · obtain ⟨g, p, rfl, hg, hp, cgw, hpb⟩ := HI.out.at_ hlt
      have hpg : p ≠ gl := by omega
      generalize hx1 : (l[k]).1 = lk at hpb
      generalize hx2 : (l[k]).2 = tk at hpb
      have Hpb := Lib.hid hpb
      have hlk := HX.out _ (List.getElem_mem hlt)
      rw [hx1, hx2] at hlk
      obtain ⟨lk0, lk1, htk⟩ := hlk
      have cg : wr.cell? ⟨g, k, none⟩ = some (.pointer (some ⟨p, 0, none⟩)) := by
        obtain ⟨hg1, hg2⟩ := HL.out
        exact hg1.cell cgw (by simp; omega)
      clear hx1 hx2 hpb cgw
      have hk' : k < 1000 := by omega
      obtain ⟨c0, c5, f0, e5, e7, e8, cp0, cp1, z1, z2, z3⟩ := HL.out.facts hne Hgs.out Hpb.out hpg
      go_upto_region 6 with fail
      go_cut [] from 30 to 44 (fun wx => ∃ a' : Int, 0 ≤ a' ∧ a' ≤ k * 2000000 + 1000 ∧ Hid (LW w gl (lstO a' (spaces (Lib.runeCount s5)) css (.slice (some ⟨g, 0, none⟩) l.length cap) lev (some ⟨gs, 0, none⟩)) wx))
      case first =>
        have qq := Lib.runeCount_le s8
        have hN : 0 ≤ a + (Lib.runeCount s8 : Int) ∧ a + (Lib.runeCount s8 : Int) ≤ k * 2000000 + 1000 := ⟨by omega, by omega⟩
        have w1 : IntKind.i64.wrap (a + (Lib.runeCount s8 : Int)) = a + (Lib.runeCount s8 : Int) := IntWalk.i64_in _ (by omega)
        go_region_with ((go_at_call 53; (refine (rc_any s8 _ h8).mono ?_); rintro e w1 ⟨rfl, pos1, rfl⟩))
        all_goals
          go_wp2_with fail
          go_meet
          exact ⟨a + (Lib.runeCount s8 : Int), hN.1, hN.2, first_set HL.out (.stringIter _ pos1) _⟩
      case rest =>
        obtain ⟨a2, a0, a1, HL'⟩ := hcut
        clear c0 c5 f0 e5 e7 e8 cp0 cp1 z1 z2 z3 HL
        have HL := HL'; clear HL'
        clear cg
        by_cases hlk : 0 < lk
        · obtain ⟨c0, c5, f0, e5, e7, e8, cp0, cp1, z1, z2, z3⟩ := HL.out.facts hne Hgs.out Hpb.out hpg
          go_upto_region 8 with fail
          go_cut [] from 45 to 69 (fun wx => ∃ a' : Int, 0 ≤ a' ∧ a' ≤ k * 2000000 + 1001000 ∧ Hid (LW w gl (lstO a' (spaces (Lib.runeCount s5)) css (.slice (some ⟨g, 0, none⟩) l.length cap) lev (some ⟨gs, 0, none⟩)) wx))
          case first =>
            have qq := Lib.runeCount_le s5
            have m0 : 0 ≤ (Lib.runeCount s5 : Int) * lk := Int.mul_nonneg (by omega) (by omega)
            have m1 : (Lib.runeCount s5 : Int) * lk ≤ 1000 * 1000 := Int.mul_le_mul (by omega) lk1 lk0 (by omega)
            generalize hm : (Lib.runeCount s5 : Int) * lk = mm at m0 m1
            have w2 : IntKind.i64.wrap mm = mm := IntWalk.i64_in _ (by omega)
            have w1 : IntKind.i64.wrap (a2 + mm) = a2 + mm := IntWalk.i64_in _ (by omega)
            have hN : 0 ≤ a2 + mm ∧ a2 + mm ≤ k * 2000000 + 1001000 := ⟨by omega, by omega⟩
            go_region_with ((go_at_call 53; (refine (rc_any s5 _ h5).mono ?_); rintro e w1 ⟨rfl, pos1, rfl⟩))
            all_goals
              go_wp2_with fail
              go_meet
              exact ⟨a2 + mm, hN.1, hN.2, first_set HL.out (.stringIter _ pos1) _⟩
          case rest =>
            obtain ⟨a3, a0, a1, HL'⟩ := hcut
            clear c0 c5 f0 e5 e7 e8 cp0 cp1 z1 z2 z3 HL
            have HL := HL'; clear HL'
            obtain ⟨c0, c5, f0, e5, e7, e8, cp0, cp1, z1, z2, z3⟩ := HL.out.facts hne Hgs.out Hpb.out hpg
            go_upto_region 9 with fail
            go_cut [] from 70 to 84 (fun wx => ∃ a' : Int, 0 ≤ a' ∧ a' ≤ k * 2000000 + 1002000 ∧ Hid (LW w gl (lstO a' (spaces (Lib.runeCount s5)) css (.slice (some ⟨g, 0, none⟩) l.length cap) lev (some ⟨gs, 0, none⟩)) wx))
            case first =>
              have qq := Lib.runeCount_le s5
              have hN : 0 ≤ a3 + (Lib.runeCount s5 : Int) ∧ a3 + (Lib.runeCount s5 : Int) ≤ k * 2000000 + 1002000 := ⟨by omega, by omega⟩
              have w1 : IntKind.i64.wrap (a3 + (Lib.runeCount s5 : Int)) = a3 + (Lib.runeCount s5 : Int) := IntWalk.i64_in _ (by omega)
              go_region_with ((go_at_call 53; (refine (rc_any s5 _ h5).mono ?_); rintro e w1 ⟨rfl, pos1, rfl⟩))
              all_goals
                go_wp2_with fail
                go_meet
                exact ⟨a3 + (Lib.runeCount s5 : Int), hN.1, hN.2, first_set HL.out (.stringIter _ pos1) _⟩
            case rest =>
              obtain ⟨a4, a0, a1, HL'⟩ := hcut
              clear c0 c5 f0 e5 e7 e8 cp0 cp1 z1 z2 z3 HL
              have HL := HL'; clear HL'
              obtain ⟨c0, c5, f0, e5, e7, e8, cp0, cp1, z1, z2, z3⟩ := HL.out.facts hne Hgs.out Hpb.out hpg
              go_upto_region 10 with fail
              go_cut [] from 85 to 96 (fun wx => ∃ a' : Int, 0 ≤ a' ∧ a' ≤ k * 2000000 + 1003000 ∧ Hid (LW w gl (lstO a' (spaces (Lib.runeCount s5)) css (.slice (some ⟨g, 0, none⟩) l.length cap) lev (some ⟨gs, 0, none⟩)) wx))
              case first =>
                have qq := Lib.runeCount_le tk
                have hN : 0 ≤ a4 + (Lib.runeCount tk : Int) ∧ a4 + (Lib.runeCount tk : Int) ≤ k * 2000000 + 1003000 := ⟨by omega, by omega⟩
                have w1 : IntKind.i64.wrap (a4 + (Lib.runeCount tk : Int)) = a4 + (Lib.runeCount tk : Int) := IntWalk.i64_in _ (by omega)
                go_region_with ((go_at_call 53; (refine (rc_any tk _ htk).mono ?_); rintro e w1 ⟨rfl, pos1, rfl⟩))
                all_goals
                  go_wp2_with fail
                  go_meet
                  exact ⟨a4 + (Lib.runeCount tk : Int), hN.1, hN.2, first_set HL.out (.stringIter _ pos1) _⟩
              case rest =>
                obtain ⟨a5, a0, a1, HL'⟩ := hcut
                clear c0 c5 f0 e5 e7 e8 cp0 cp1 z1 z2 z3 HL
                have HL := HL'; clear HL'
                obtain ⟨c0, c5, f0, e5, e7, e8, cp0, cp1, z1, z2, z3⟩ := HL.out.facts hne Hgs.out Hpb.out hpg
                go_wp2_with fail
                have qq := Lib.runeCount_le s7
                have hN : 0 ≤ a5 + (Lib.runeCount s7 : Int) ∧ a5 + (Lib.runeCount s7 : Int) ≤ (k + 1) * 2000000 := ⟨by omega, by omega⟩
                have w1 : IntKind.i64.wrap (a5 + (Lib.runeCount s7 : Int)) = a5 + (Lib.runeCount s7 : Int) := IntWalk.i64_in _ (by omega)
                have hk9 : k + 1 ≤ l.length := hlt
                go_region_with ((go_at_call 53; (refine (rc_any s7 _ h7).mono ?_); rintro e w1 ⟨rfl, pos1, rfl⟩))
                all_goals
                  go_wp2_with fail
                  go_roundw
                  case rel => exact ⟨k + 1, a5 + (Lib.runeCount s7 : Int), hk9, by go_num, hN.1, by push_cast; exact hN.2, first_set HL.out (.stringIter _ pos1) _⟩
                  case measure => simp [intOf]; omega
        · have hlk' : decide (0 < lk) = false := by simpa using hlk
          obtain ⟨c0, c5, f0, e5, e7, e8, cp0, cp1, z1, z2, z3⟩ := HL.out.facts hne Hgs.out Hpb.out hpg
          go_upto_region 9 with fail
          go_cut [] from 70 to 84 (fun wx => ∃ a' : Int, 0 ≤ a' ∧ a' ≤ k * 2000000 + 1002000 ∧ Hid (LW w gl (lstO a' (spaces (Lib.runeCount s5)) css (.slice (some ⟨g, 0, none⟩) l.length cap) lev (some ⟨gs, 0, none⟩)) wx))
          case first =>
            have qq := Lib.runeCount_le s5
            have hN : 0 ≤ a2 + (Lib.runeCount s5 : Int) ∧ a2 + (Lib.runeCount s5 : Int) ≤ k * 2000000 + 1002000 := ⟨by omega, by omega⟩
            have w1 : IntKind.i64.wrap (a2 + (Lib.runeCount s5 : Int)) = a2 + (Lib.runeCount s5 : Int) := IntWalk.i64_in _ (by omega)
            go_region_with ((go_at_call 53; (refine (rc_any s5 _ h5).mono ?_); rintro e w1 ⟨rfl, pos1, rfl⟩))
            all_goals
              go_wp2_with fail
              go_meet
              exact ⟨a2 + (Lib.runeCount s5 : Int), hN.1, hN.2, first_set HL.out (.stringIter _ pos1) _⟩
          case rest =>
            obtain ⟨a4, a0, a1, HL'⟩ := hcut
            clear c0 c5 f0 e5 e7 e8 cp0 cp1 z1 z2 z3 HL
            have HL := HL'; clear HL'
            obtain ⟨c0, c5, f0, e5, e7, e8, cp0, cp1, z1, z2, z3⟩ := HL.out.facts hne Hgs.out Hpb.out hpg
            go_upto_region 10 with fail
            go_cut [] from 85 to 96 (fun wx => ∃ a' : Int, 0 ≤ a' ∧ a' ≤ k * 2000000 + 1003000 ∧ Hid (LW w gl (lstO a' (spaces (Lib.runeCount s5)) css (.slice (some ⟨g, 0, none⟩) l.length cap) lev (some ⟨gs, 0, none⟩)) wx))
            case first =>
              have qq := Lib.runeCount_le tk
              have hN : 0 ≤ a4 + (Lib.runeCount tk : Int) ∧ a4 + (Lib.runeCount tk : Int) ≤ k * 2000000 + 1003000 := ⟨by omega, by omega⟩
              have w1 : IntKind.i64.wrap (a4 + (Lib.runeCount tk : Int)) = a4 + (Lib.runeCount tk : Int) := IntWalk.i64_in _ (by omega)
              go_region_with ((go_at_call 53; (refine (rc_any tk _ htk).mono ?_); rintro e w1 ⟨rfl, pos1, rfl⟩))
              all_goals
                go_wp2_with fail
                go_meet
                exact ⟨a4 + (Lib.runeCount tk : Int), hN.1, hN.2, first_set HL.out (.stringIter _ pos1) _⟩
            case rest =>
              obtain ⟨a5, a0, a1, HL'⟩ := hcut
              clear c0 c5 f0 e5 e7 e8 cp0 cp1 z1 z2 z3 HL
              have HL := HL'; clear HL'
              obtain ⟨c0, c5, f0, e5, e7, e8, cp0, cp1, z1, z2, z3⟩ := HL.out.facts hne Hgs.out Hpb.out hpg
              go_wp2_with fail
              have qq := Lib.runeCount_le s7
              have hN : 0 ≤ a5 + (Lib.runeCount s7 : Int) ∧ a5 + (Lib.runeCount s7 : Int) ≤ (k + 1) * 2000000 := ⟨by omega, by omega⟩
              have w1 : IntKind.i64.wrap (a5 + (Lib.runeCount s7 : Int)) = a5 + (Lib.runeCount s7 : Int) := IntWalk.i64_in _ (by omega)
              have hk9 : k + 1 ≤ l.length := hlt
              go_region_with ((go_at_call 53; (refine (rc_any s7 _ h7).mono ?_); rintro e w1 ⟨rfl, pos1, rfl⟩))
              all_goals
                go_wp2_with fail
                go_roundw
                case rel => exact ⟨k + 1, a5 + (Lib.runeCount s7 : Int), hk9, by go_num, hN.1, by push_cast; exact hN.2, first_set HL.out (.stringIter _ pos1) _⟩
                case measure => simp [intOf]; omega
    · have hd : decide ((k : Int) < (l.length : Int)) = false := by simp; omega
      have HA := Lib.hid (show a ≤ 2000000000 by omega)
      have c2 : wr.cell? ⟨gl, 2, none⟩ = some (.string css) := HL.out.cell 2
      have f2 := HL.out.free 2
      by_cases hcs : css.data.toList = []
      · have hb : css.toList.isEmpty = true := by rw [Lib.toList_data, hcs]; rfl
        have E : cssOf css = ⟨#[103, 111, 45, 112, 114, 101, 116, 116, 121, 45, 116, 97, 98, 108, 101]⟩ := by unfold cssOf; rw [if_pos hcs]
        have HE := Lib.hid E
        clear hcs E
        go_wp2_with fail
        go_end0
        refine ⟨rfl, a, ha0, HA.out, ?_⟩
        rw [HE.out]
        exact HL.out.set (j := 2) _
      · have hb : css.toList.isEmpty = false := by rw [Lib.toList_data]; simpa using hcs
        have E : cssOf css = css := by unfold cssOf; rw [if_neg hcs]
        have HE := Lib.hid E
        clear hcs E
        go_wp2_with fail
        go_end0
        refine ⟨rfl, a, ha0, HA.out, ?_⟩
        rw [HE.out]
        exact HL.out
end Go.Proofs.YthdkbokdikhojaaGreatDoor
