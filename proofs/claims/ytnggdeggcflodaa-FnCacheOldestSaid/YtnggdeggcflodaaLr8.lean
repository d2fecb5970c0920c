/- The reference's cache: its entries in a slice, the oldest one first: place, taken. At most 1000 entries. -/
import Derived.Test.YtnggdeggcflodaaLr7
import Derived.Laws.OwnMore
import Derived.Deep.RegionHeld3
import Derived.Deep.AppendLies
import Derived.Deep.MidRow
import Derived.Deep.RegionLaw
import Derived.Deep.RegionLawGrows
namespace Go.Proofs.Ytnggdeggcflodaa
open Go.RowKit Go.MapKept
set_option linter.unusedVariables false
abbrev tS : TypeId := 38
abbrev tP : TypeId := 39
def pc (l : List (Int × Int)) : List Value := l.flatMap fun p => [.int .i64 p.1, .int .i64 p.2]
theorem pc_app (l l' : List (Int × Int)) : pc (l ++ l') = pc l ++ pc l' := by simp [pc]
theorem pc_len (l : List (Int × Int)) : (pc l).length = l.length * 2 := by
  induction l with
  | nil => rfl
  | cons x l ih =>
    have e : pc (x :: l) = .int .i64 x.1 :: .int .i64 x.2 :: pc l := by simp [pc]
    rw [e]; simp [ih]; omega
theorem pc_at (l : List (Int × Int)) : ∀ i p, l[i]? = some p → (pc l)[i * 2]? = some (.int .i64 p.1) ∧ (pc l)[i * 2 + 1]? = some (.int .i64 p.2) := by
  induction l with
  | nil => intro i p h; simp at h
  | cons x l ih =>
    intro i p h
    have e : pc (x :: l) = .int .i64 x.1 :: .int .i64 x.2 :: pc l := by simp [pc]
    cases i with
    | zero => simp at h; subst h; rw [e]; exact ⟨rfl, rfl⟩
    | succ i =>
      have h' : l[i]? = some p := by simpa using h
      have := ih i p h'
      rw [e, show (i + 1) * 2 = i * 2 + 1 + 1 by omega]
      simpa using this
theorem pc_one (l : List (Int × Int)) : ∀ u ∈ pc l, u.oneCell' = true := by
  intro u hu
  simp only [pc, List.mem_flatMap] at hu
  obtain ⟨p, _, hu⟩ := hu
  simp at hu
  rcases hu with rfl | rfl <;> rfl
/-- The entries lie in block g. -/
def At (w : World) (g : Nat) (E : List (Int × Int)) : Prop := ∀ (j : Nat) (u : Value), (pc E)[j]? = some u → w.cell? ⟨g, j, none⟩ = some u
theorem At.key {w : World} {g : Nat} {E : List (Int × Int)} (h : At w g E) {i : Nat} {p : Int × Int} (hp : E[i]? = some p) : w.cell? ⟨g, i * 2, none⟩ = some (.int .i64 p.1) := h _ _ (pc_at E i p hp).1
theorem At.val {w : World} {g : Nat} {E : List (Int × Int)} (h : At w g E) {i : Nat} {p : Int × Int} (hp : E[i]? = some p) : w.cell? ⟨g, i * 2 + 1, none⟩ = some (.int .i64 p.2) := h _ _ (pc_at E i p hp).2
theorem at_of {w : World} {B n g cap : Nat} {E : List (Int × Int)} (h : w.ownsRow B tP 2 (.slice (some ⟨g, 0, none⟩) n cap) n (pc E)) : At w g E := by
  intro j u hu
  have := h.cells (g := g) rfl j u hu
  rwa [Addr.add_lit, Nat.zero_add] at this
/-- The reference's cache in block cb, from block B on. -/
structure SpcR (w : World) (B cb : Nat) (n h1 h2 : Int) (v : Value) (E : List (Int × Int)) : Prop where
  blk : Blk w cb tS #[.int .i64 n, v, .int .i64 h1, .int .i64 h2]
  row : w.ownsRow B tP 2 v E.length (pc E)
  Bc : B ≤ cb
theorem SpcR.lt {w : World} {B cb : Nat} {n h1 h2 : Int} {v : Value} {E : List (Int × Int)} (h : SpcR w B cb n h1 h2 v E) : B ≤ w.heap.size := by have := h.blk.lt; have := h.Bc; omega
theorem own_drewN {w : World} {B e size n : Nat} {v : Value} {xs : List Value} (h : w.ownsRow B e size v n xs) (k : Nat) : (w.drewN k).ownsRow B e size v n xs := h
theorem Below.drewK (B : Nat) (w : World) (n : Nat) : Below B w (w.drewN n) := ⟨rfl, rfl, rfl, Nat.le_refl _, fun _ _ => rfl⟩
theorem SpcR.ne_own {w : World} {B cb : Nat} {n h1 h2 : Int} {v : Value} {E : List (Int × Int)} (h : SpcR w B cb n h1 h2 v E) : ¬ some cb = v.ownBlock := fun e => by
  rcases h.row.2 with ⟨rfl, _⟩ | ⟨g, cap, cur, rfl, _, hgb, _⟩
  · simp [Value.ownBlock] at e
  · simp [Value.ownBlock] at e
    subst e
    exact Blk.type_ne (t := tP) (u := tS) hgb h.blk (by decide) rfl
theorem SpcR.drewN {w : World} {B cb : Nat} {n h1 h2 : Int} {v : Value} {E : List (Int × Int)} (h : SpcR w B cb n h1 h2 v E) (k : Nat) : SpcR (w.drewN k) B cb n h1 h2 v E := ⟨h.blk, h.row, h.Bc⟩
theorem SpcR.alloc {w : World} {B cb : Nat} {n h1 h2 : Int} {v : Value} {E : List (Int × Int)} (h : SpcR w B cb n h1 h2 v E) (o : Obj) : SpcR (w.alloc o) B cb n h1 h2 v E := ⟨h.blk.alloc o, h.row.alloc o, h.Bc⟩
theorem SpcR.form {w : World} {B cb : Nat} {n h1 h2 : Int} {v : Value} {E : List (Int × Int)} (h : SpcR w B cb n h1 h2 v E) : ∃ A cap, v = .slice A E.length cap ∧ E.length ≤ cap ∧ cap ≤ maxLen ∧ (0 < E.length → ∃ g, A = some ⟨g, 0, none⟩ ∧ B ≤ g ∧ g < w.heap.size ∧ g ≠ cb ∧ At w g E) := by
  rcases h.row.2 with ⟨e, hz⟩ | ⟨g, cap, cur, e, hb, hg, h3, h4, _⟩
  · exact ⟨none, 0, by rw [hz]; exact e, by omega, by simp [maxLen], fun h => absurd h (by omega)⟩
  · refine ⟨some ⟨g, 0, none⟩, cap, e, h3, h4, fun _ => ⟨g, rfl, hb, (Array.getElem?_eq_some_iff.1 hg).1, ?_, at_of (e ▸ h.row)⟩⟩
    exact Blk.type_ne (t := tP) (u := tS) hg h.blk (by decide)
/-- What is no part of the reference's cache stays; below block B all stays. -/
structure Sx (B : Nat) (w w' : World) : Prop where
  below : Below B w w'
  keep : ∀ (k : Nat) (cs : Array Value) (t : TypeId), Blk w k t cs → t ≠ tS → t ≠ tP → Blk w' k t cs
theorem Sx.refl (B : Nat) (w : World) : Sx B w w := ⟨Below.refl _ _, fun _ _ _ h _ _ => h⟩
theorem Sx.trans {B : Nat} {a b c : World} (h : Sx B a b) (h2 : Sx B b c) : Sx B a c := ⟨h.below.trans h2.below, fun k cs t hb h3 h4 => h2.keep k cs t (h.keep k cs t hb h3 h4) h3 h4⟩
theorem Sx.alloc {B : Nat} {a w : World} (h : Sx B a w) (hB : B ≤ w.heap.size) (o : Obj) : Sx B a (w.alloc o) := ⟨h.below.alloc hB o, fun k cs t hb h3 h4 => (h.keep k cs t hb h3 h4).alloc o⟩
theorem Sx.drewK (B : Nat) (w : World) (n : Nat) : Sx B w (w.drewN n) := ⟨Below.drewK B w n, fun _ _ _ h _ _ => h⟩
theorem Sx.put {B cb : Nat} {a w w' : World} {cs : Array Value} (h : Sx B a w) (hp : Put w w' cb) (hB : B ≤ w.heap.size) (hc : B ≤ cb) (hb : Blk w cb tS cs) : Sx B a w' :=
  ⟨hp.below h.below hB hc, fun k ds t hk h3 h4 => hp.blk (h.keep k ds t hk h3 h4) ((h.keep k ds t hk h3 h4).type_ne hb h3)⟩
theorem Sx.grown {B n : Nat} {a w w' : World} {v : Value} {xs : List Value} (h : Sx B a w) (hg : w.grownBy w' v.ownBlock) (ho : w.ownsRow B tP 2 v n xs) (hB : B ≤ w.heap.size) : Sx B a w' :=
  ⟨h.below.grown hg hB (fun k hk => (ho.lt k hk).1), fun k ds t hk h3 h4 => (h.keep k ds t hk h3 h4).grown hg fun e => by
    rcases ho.2 with ⟨rfl, _⟩ | ⟨g, cap, cur, rfl, _, hgb, _⟩
    · simp [Value.ownBlock] at e
    · simp [Value.ownBlock] at e
      exact Blk.type_ne (h.keep k ds t hk h3 h4) (show Blk w g tP cur from hgb) h4 e⟩
theorem Sx.grown_none {B : Nat} {a w w' : World} (h : Sx B a w) (hg : w.grownBy w' none) (hB : B ≤ w.heap.size) : Sx B a w' :=
  ⟨h.below.grown hg hB (fun k hk => by cases hk), fun k ds t hk h3 h4 => (h.keep k ds t hk h3 h4).grown hg (by simp)⟩
def PlaceRet (E : List (Int × Int)) (k : Int) (w : World) (e : Ending) (w' : World) : Prop :=
  w = w' ∧ ((∃ i : Nat, i < E.length ∧ (∃ p, E[i]? = some p ∧ p.1 = k) ∧ (∀ j p, j < i → E[j]? = some p → p.1 ≠ k) ∧ e = .returned (.int .i64 i)) ∨ ((∀ p ∈ E, p.1 ≠ k) ∧ e = .returned (.int .i64 (-1))))
set_option maxHeartbeats 1000000 in
set_option maxRecDepth 100000 in
theorem place_any (B cb : Nat) (n h1 h2 k : Int) (v : Value) (E : List (Int × Int)) (w : World) (h : SpcR w B cb n h1 h2 v E) (hE : E.length ≤ 100000) :
    Calls Try.prog 10 #[.pointer (some ⟨cb, 0, none⟩), .int .i64 k] w (PlaceRet E k w) := by
  obtain ⟨A, cap, rfl, hc1, hc2, hA⟩ := h.form
  have f1 : w.cell? ⟨cb, 1, none⟩ = some (.slice A E.length cap) := h.blk.cell 1 rfl
  clear h
  go_enter Try.func10, Try.ntmps10
  go_wp2_with fail
  go_loop [5] (fun i => ∃ q : Nat, q ≤ E.length ∧ i = .int .i64 q ∧ Hid (∀ j p, j < q → E[j]? = some p → p.1 ≠ k)) (fun i => E.length - (intOf i).toNat)
  case atStart => exact ⟨0, Nat.zero_le _, rfl, Lib.hid fun j p hj => absurd hj (by omega)⟩
  case round =>
    obtain ⟨q, hq, rfl, HQ⟩ := hrel
    by_cases hlt : q < E.length
    · obtain ⟨g, rfl, _, _, _, hat⟩ := hA (by omega)
      have hp : E[q]? = some E[q] := List.getElem?_eq_getElem hlt
      have ck := hat.key hp
      have hix : (q : Int) < (E.length : Int) := by omega
      have HP := Lib.hid hp
      have HAt := Lib.hid hat
      have HQ2 := Lib.hid (show E[q].1 ≠ k → ∀ j p, j < q + 1 → E[j]? = some p → p.1 ≠ k from fun hne j p hj hjp => by
        by_cases e : j = q
        · subst e
          rw [hp] at hjp
          cases hjp
          exact hne
        · exact HQ.out j p (by omega) hjp)
      clear hp hat hA
      generalize E[q] = p at *
      obtain ⟨pk, pv⟩ := p
      simp only at ck HQ2
      by_cases he : pk = k
      · have hb : (pk == k) = true := by rw [beq_iff_eq]; exact he
        have He := Lib.hid he
        clear he
        go_wp2_with fail
        go_ret
        exact ⟨rfl, .inl ⟨q, hlt, ⟨_, HP.out, He.out⟩, HQ.out, rfl⟩⟩
      · have hb : (pk == k) = false := by rw [beq_eq_false_iff_ne]; exact he
        have HN := Lib.hid (HQ2.out he)
        clear he HQ HQ2
        go_wp2_with fail
        go_round
        case rel => exact ⟨q + 1, by omega, by go_num, HN⟩
        case measure => simp [intOf]; omega
    · have hix : (E.length : Int) ≤ (q : Int) := by omega
      have HN := Lib.hid (show ∀ p ∈ E, p.1 ≠ k from fun p hp => by
        obtain ⟨i, hi⟩ := List.getElem?_of_mem hp
        exact HQ.out i p (by have := (List.getElem?_eq_some_iff.1 hi).1; omega) hi)
      clear HQ hA
      go_wp2_with fail
      go_ret
      exact ⟨rfl, .inr ⟨HN.out, rfl⟩⟩
theorem step_append_own {P : Program} (w : World) {ops : Array Oper} {o : Oper} {a : Act} {K : Act → World → Prop} {Q : Exit → Act → World → Prop} {X : Prop} (hgd : o.guard = none) (s x : Operand) (t : TypeId)
    (ho : o.op = .call { callee := .builtin .append, args := #[s, x], argTypes := #[t, t] })
    (base : Nat) (e : TypeId) (i : TypeInfo) (z : Value) (size bytes : Nat) (ht : P.underlying t = some (.slice e)) (hi : P.info? e = some i) (hz : i.zero = some z)
    (hsize : i.size = size) (hby : i.bytes = bytes) (hzs : z.cells.size = size) (hsz : 0 < size)
    (v : Value) (n : Nat) (xs : List Value) (hs : a.eval s = v) (hown : w.ownsRow base e size v n xs)
    (ad : Addr) (m c : Nat) (news : List Value) (hx : a.eval x = .slice (some ad) m c) (hl : news.length = m * size) (hnews : ∀ j u, news[j]? = some u → w.cell? (ad.add j) = some u) (h1 : ∀ u ∈ news, u.oneCell' = true)
    (h63 : n + m ≤ maxLen) (hbytes : (n + m) * bytes ≤ 140737488355328) (hbase : base ≤ w.heap.size)
    (h : ∀ v' w', w'.ownsRow base e size v' (n + m) (xs ++ news) → w.grownBy w' v.ownBlock → K (a.put o.dst v') w') : if Region.wanted o (yielded ops a.tmps) = true then Oper.wp P o a w K Q else X := by
  have hw : Region.wanted o (yielded ops a.tmps) = true := by simp [Region.wanted, hgd]
  rw [if_pos hw]
  exact wp_append_own w s x t ho base e i z size bytes ht hi hz hsize hby hzs hsz v n xs hs hown ad m c news hx hl hnews h1 h63 hbytes hbase fun v' w' h1 h2 _ => h v' w' h1 h2
theorem ownsRow_setCell_other2 {w : World} {base : Nat} {e : TypeId} {size : Nat} {v : Value} {n : Nat} {xs : List Value} (h : w.ownsRow base e size v n xs) {a : Addr} (ha : v.ownBlock ≠ some a.block) (u : Value) : (w.setCell a u).ownsRow base e size v n xs := by
  obtain ⟨h1, h2⟩ := h
  refine ⟨h1, ?_⟩
  rcases h2 with h2 | ⟨g, cap, cur, hv, hg, hh, r⟩
  · exact Or.inl h2
  · exact Or.inr ⟨g, cap, cur, hv, hg, by rw [Below.heap_setCell _ _ _ _ (fun e => ha (by rw [hv]; simp [Value.ownBlock, e]))]; exact hh, r⟩
theorem own_slice {w : World} {B e size n : Nat} {v : Value} {xs : List Value} (h : w.ownsRow B e size v n xs) : ∃ A cap, v = .slice A n cap := by
  rcases h.2 with ⟨rfl, rfl⟩ | ⟨g, cap, cur, rfl, _⟩
  · exact ⟨_, _, rfl⟩
  · exact ⟨_, _, rfl⟩
theorem infoP : (Try.prog.info? tP).map (fun i => (i.zero, i.size, i.bytes)) = some (some (.agg #[.int .i64 0, .int .i64 0]), 2, 16) := by kernel_rfl
theorem own_mono {w : World} {B B' e size n : Nat} {v : Value} {xs : List Value} (h : w.ownsRow B e size v n xs) (hB : B' ≤ B) : w.ownsRow B' e size v n xs := by
  refine ⟨h.1, ?_⟩
  rcases h.2 with h0 | ⟨g, cap, cur, hv, hb, r⟩
  · exact .inl h0
  · exact .inr ⟨g, cap, cur, hv, by omega, r⟩
theorem At.keep {w w' : World} {g : Nat} {E : List (Int × Int)} (h : At w g E) (hk : w'.heap[g]? = w.heap[g]?) : At w' g E := fun j u hu => (World.cell?_of_block (w := w) (w' := w') (a := ⟨g, j, none⟩) hk).trans (h j u hu)
/-- The world inside taken. -/
structure Tk (w W : World) (s : Nat) (pk pv : Int) : Prop where
  below : Below s w W
  r : Blk W s tP #[.int .i64 0, .int .i64 0]
  e : Blk W (s + 1) tP #[.int .i64 pk, .int .i64 pv]
  lt : s + 2 ≤ W.heap.size
theorem Tk.alloc {w W : World} {s : Nat} {pk pv : Int} (h : Tk w W s pk pv) (o : Obj) : Tk w (W.alloc o) s pk pv := ⟨h.below.alloc (by have := h.lt; omega) o, h.r.alloc o, h.e.alloc o, by have := h.lt; simp; omega⟩
theorem Tk.drew {w W : World} {s : Nat} {pk pv : Int} (h : Tk w W s pk pv) : Tk w W.drew s pk pv := ⟨⟨h.below.os, h.below.tape, h.below.output, h.below.size, h.below.block⟩, h.r, h.e, h.lt⟩
theorem Tk.grown {w W W' : World} {s : Nat} {pk pv : Int} {r : Option Nat} (h : Tk w W s pk pv) (hg : W.grownBy W' r) (hr : ∀ k, r = some k → s + 2 ≤ k) : Tk w W' s pk pv :=
  ⟨h.below.grown hg (by have := h.lt; omega) (fun k hk => by have := hr k hk; omega), h.r.grown hg (fun e => by have := hr s e.symm; omega), h.e.grown hg (fun e => by have := hr (s + 1) e.symm; omega), by have := h.lt; have := hg.size; omega⟩
set_option maxHeartbeats 4000000 in
set_option maxRecDepth 100000 in
theorem taken_any (B cb : Nat) (n h1 h2 : Int) (v : Value) (E1 : List (Int × Int)) (p : Int × Int) (E2 : List (Int × Int)) (w : World) (h : SpcR w B cb n h1 h2 v (E1 ++ p :: E2)) (hE : (E1 ++ p :: E2).length ≤ 100000) :
    Calls Try.prog 11 #[.pointer (some ⟨cb, 0, none⟩), .int .i64 E1.length] w fun e w' => e = .returned (.agg #[.int .i64 p.1, .int .i64 p.2]) ∧ (∃ v', SpcR w' B cb n h1 h2 v' (E1 ++ E2)) ∧ Sx B w w' := by
  obtain ⟨i0, hi0, hz0, hz1, hz2⟩ := info_parts infoP
  obtain ⟨A, cap, rfl, hc1, hc2, hA⟩ := h.form
  obtain ⟨g, rfl, hgB, hgl, hgc, hat⟩ := hA (by simp; omega)
  have hcl := h.blk.lt
  have hp : (E1 ++ p :: E2)[E1.length]? = some p := by simp
  have f1 : w.cell? ⟨cb, 1, none⟩ = some (.slice (some ⟨g, 0, none⟩) (E1 ++ p :: E2).length cap) := h.blk.cell 1 rfl
  have ck := hat.key hp
  have cv := hat.val hp
  have hlt : E1.length < (E1 ++ p :: E2).length := by simp
  have HH := Lib.hid h
  have HL := Lib.hid (show (E1 ++ p :: E2).length = E1.length + 1 + E2.length by simp; omega)
  have HAt := Lib.hid hat
  clear h hA hat hp
  generalize hN : (E1 ++ p :: E2).length = N at *
  generalize hi : E1.length = i at *
  have hix : (i : Int) < (N : Int) := by omega
  have hix2 : (i : Int) ≤ (cap : Int) := by omega
  have hix3 : (i : Int) + 1 ≤ (N : Int) := by omega
  have hix4 : ((i : Int) + 1).toNat = i + 1 := by omega
  have h0i : (0 : Int) ≤ (i : Int) + 1 := by omega
  have hiw : IntKind.i64.wrap ((i : Int) + 1) = (i : Int) + 1 := IntWalk.i64_in _ (by omega)
  obtain ⟨pk, pv⟩ := p
  simp only at ck cv ⊢
  go_enter Try.func11, Try.ntmps11
  go_wp2_with fail
  have HT : Hid (Tk w ((w.alloc (.cells #[.int .i64 0, .int .i64 0] tP)).alloc (.cells #[.int .i64 pk, .int .i64 pv] tP)) w.heap.size pk pv) :=
    ⟨((Below.refl _ _).alloc (Nat.le_refl _) _).alloc (by simp) _, (Blk.new w _ _).alloc _, by have := Blk.new (w.alloc (.cells #[.int .i64 0, .int .i64 0] tP)) tP #[.int .i64 pk, .int .i64 pv]; rw [World.size_alloc] at this; exact this, by simp⟩
  generalize hwx : (World.alloc (World.alloc _ _) _) = wx at HT ⊢
  clear hwx
  have hx1 := HT.out.below.size
  have f1x : wx.cell? ⟨cb, 1, none⟩ = some (.slice (some ⟨g, 0, none⟩) N cap) := (HT.out.below.cell (p := ⟨cb, 1, none⟩) hcl).trans f1
  have hcx : cb < wx.heap.size := by omega
  have f1a : (wx.alloc (.cells #[] tP)).cell? ⟨cb, 1, none⟩ = some (.slice (some ⟨g, 0, none⟩) N cap) := (World.cell?_alloc_past _ _ _ hcx).trans f1x
  clear ck cv
  obtain ⟨a2, hif, ha2⟩ : ∃ a2 : Nat, (if cap = i + 1 then (some ⟨g, 0, none⟩ : Option Addr) else some ⟨g, (i + 1) * 2, none⟩) = some ⟨g, a2, none⟩ ∧ (0 < E2.length → a2 = (i + 1) * 2) := by
    by_cases hcap : cap = i + 1
    · exact ⟨0, by rw [if_pos hcap], fun h => by have := HL.out; omega⟩
    · exact ⟨_, by rw [if_neg hcap], fun _ => rfl⟩
  have HW2 := Lib.hid (show ∀ W : World, W.heap[g]? = w.heap[g]? → ∀ j u, (pc E2)[j]? = some u → W.cell? ((⟨g, a2, none⟩ : Addr).add j) = some u from fun W hW j u hu => by
    have h1 : At W g (E1 ++ (pk, pv) :: E2) := HAt.out.keep hW
    have h0 : 0 < E2.length := by
      have := (List.getElem?_eq_some_iff.1 hu).1
      rw [pc_len] at this
      omega
    rw [Addr.add_lit, ha2 h0]
    refine h1 _ u ?_
    have e : pc (E1 ++ (pk, pv) :: E2) = pc (E1 ++ [(pk, pv)]) ++ pc E2 := by rw [← pc_app]; simp
    have el : (pc (E1 ++ [(pk, pv)])).length = (i + 1) * 2 := by rw [pc_len]; simp [hi]
    rw [e, List.getElem?_append_right (by omega), el]
    simpa using hu)
  have HN3 := Lib.hid (show (pc E2).length = (N - (i + 1)) * 2 by rw [pc_len]; have := HL.out; omega)
  have HG := Lib.hid (show ∀ W : World, Tk w W w.heap.size pk pv → W.heap[g]? = w.heap[g]? from fun W h => h.below.block g hgl)
  clear ha2
  have HN2 := Lib.hid (show (pc E1).length = i * 2 by rw [pc_len, hi])
  have HW1 := Lib.hid (show ∀ j u, (pc E1)[j]? = some u → (wx.alloc (.cells #[] tP)).drew.cell? ((⟨g, 0, none⟩ : Addr).add j) = some u from fun j u hu => by
    have h1 : At wx g (E1 ++ (pk, pv) :: E2) := HAt.out.keep (HT.out.below.block g hgl)
    have h2 : At (wx.alloc (.cells #[] tP)) g (E1 ++ (pk, pv) :: E2) := h1.keep (Below.heap_alloc _ _ _ (by omega))
    rw [Addr.add_lit, Nat.zero_add]
    refine h2 j u ?_
    rw [pc_app, List.getElem?_append_left (List.getElem?_eq_some_iff.1 hu).1]
    exact hu)
  have HO0 := Lib.hid (show (wx.alloc (.cells #[] tP)).drew.ownsRow (w.heap.size + 2) tP 2 (.slice (some ⟨wx.heap.size, 0, none⟩) 0 0) 0 [] from own_drewN (World.ownsRow_made wx #[] 0 HT.out.lt (by simp [maxLen]) rfl) 1)
  have HTA := Lib.hid (HT.out.alloc (.cells #[] tP)).drew
  have HT2 := HT.out.lt
  go_region_law (first
    | (refine step_append_own _ rfl (.tmp 14) (.tmp 20) 28 rfl (w.heap.size + 2) tP i0 (.agg #[.int .i64 0, .int .i64 0]) 2 16 Try.underlying28 hi0 hz0 hz1 hz2 rfl (by decide) (.slice (some ⟨wx.heap.size, 0, none⟩) 0 0) 0 [] rfl HO0.out ⟨g, 0, none⟩ i cap (pc E1) rfl HN2.out HW1.out (pc_one _) (by unfold maxLen; omega) (by omega) (by simp; omega) ?_
       intro v2 w2 ho2 hg2
       rw [Nat.zero_add, List.nil_append] at ho2
       obtain ⟨A2, c2, rfl⟩ := own_slice ho2
       have HT3 := Lib.hid (HTA.out.grown hg2 (fun k hk => by simp [Value.ownBlock] at hk; omega))
       have HO2 := Lib.hid ho2
       have f2 : w2.cell? ⟨cb, 1, none⟩ = some (.slice (some ⟨g, 0, none⟩) N cap) := (HT3.out.below.cell (p := ⟨cb, 1, none⟩) hcl).trans f1
       clear ho2 hg2)
    | (go_loud (refine step_append_own w2 rfl (.tmp 21) (.tmp 28) 28 rfl (w.heap.size + 2) tP i0 (.agg #[.int .i64 0, .int .i64 0]) 2 16 Try.underlying28 hi0 hz0 hz1 hz2 rfl (by decide) (.slice A2 i c2) i _ rfl (HO2.out) ⟨g, a2, none⟩ (N - (i + 1)) (cap - (i + 1)) (pc E2) rfl HN3.out (HW2.out w2 (HG.out w2 HT3.out)) (pc_one _) (by unfold maxLen; omega) (by omega) (by have := HT3.out.lt; omega) ?_)
       intro v3 w3 ho3 hg3
       obtain ⟨A3, c3, rfl⟩ := own_slice ho3
       have HT4 := Lib.hid (HT3.out.grown hg3 (fun k hk => (HO2.out.lt k hk).1))
       have HO3 := Lib.hid ho3
       have HB3 := Lib.hid (HH.out.blk.below HT4.out.below hcl)
       have f3 : w3.cell? ⟨cb, 1, none⟩ = some (.slice (some ⟨g, 0, none⟩) N cap) := (HT4.out.below.cell (p := ⟨cb, 1, none⟩) hcl).trans f1
       have z3 : w3.frozen? ⟨cb, 1, none⟩ = false := HB3.out.frozen 1
       clear ho3 hg3))
  all_goals
    have hT4 := HT4.out
    have hO3 := HO3.out
    have hB3 := HB3.out
    have hs := hT4.lt
    have p5 := put_set w3 cb 1 (.slice A3 (i + (N - (i + 1))) c3)
    have b5 := hB3.set 1 (.slice A3 (i + (N - (i + 1))) c3)
    have e5 := p5.blk hT4.e (by omega)
    have r5 := p5.blk hT4.r (by omega)
    have k5 := p5.below (hT4.below.mono (B' := B) (by have := HH.out.lt; omega)) (by have := HH.out.lt; omega) HH.out.Bc
    have o5 := ownsRow_setCell_other2 hO3 (a := ⟨cb, 1, none⟩) (fun e => by have := (hO3.lt cb e).1; omega) (.slice A3 (i + (N - (i + 1))) c3)
    generalize hw5 : World.setCell _ _ _ = w5 at *
    clear hw5
    have l0 : w5.cell? ⟨w.heap.size + 1, 0, none⟩ = some (.int .i64 pk) := e5.cell 0 rfl
    have l1 : w5.cell? ⟨w.heap.size + 1, 1, none⟩ = some (.int .i64 pv) := e5.cell 1 rfl
    have m0 : w5.cell? ⟨w.heap.size, 0, none⟩ = some (.int .i64 0) := r5.cell 0 rfl
    have m1 : w5.cell? ⟨w.heap.size, 1, none⟩ = some (.int .i64 0) := r5.cell 1 rfl
    have n0 := r5.frozen 0
    have n1 := r5.frozen 1
    have HR5 := Lib.hid r5
    have HB5 := Lib.hid b5
    have HO5 := Lib.hid o5
    have HK5 := Lib.hid k5
    have HP5 := Lib.hid p5
    have HKp := Lib.hid (show ∀ (k : Nat) (cs : Array Value) (t : TypeId), Blk w k t cs → t ≠ tS → Blk w5 k t cs from fun k cs t hk h3 => p5.blk (hk.below hT4.below hk.lt) (hk.type_ne HH.out.blk h3))
    clear hT4 hO3 hB3 e5 r5 b5 o5 k5 p5 f3 z3 f2 f1x f1a f1 hif
    go_wp2_with fail
    have q1 := put_set w5 w.heap.size 0 (.int .i64 pk)
    have q2 := put_set (w5.setCell ⟨w.heap.size, 0, none⟩ (.int .i64 pk)) w.heap.size 1 (.int .i64 pv)
    have zs := HP5.out.size
    refine bodyPost_ret (v := .agg #[.int .i64 pk, .int .i64 pv]) ?_ rfl ⟨rfl, ⟨.slice A3 (i + (N - (i + 1))) c3, ?_, ?_, HH.out.Bc⟩, ?_⟩
    · exact results_cell_row rfl _ _ w.heap.size tP _ (0, 0) _ rfl ((HR5.out.set 0 (.int .i64 pk)).set 1 (.int .i64 pv)) Try.underlying39 rfl (by kernel_rfl)
    · exact q2.blk (q1.blk HB5.out (by omega)) (by omega)
    · have o6 := ownsRow_setCell_other2 HO5.out (a := ⟨w.heap.size, 0, none⟩) (fun e => by have := (HO5.out.lt w.heap.size e).1; omega) (.int .i64 pk)
      have o7 := ownsRow_setCell_other2 o6 (a := ⟨w.heap.size, 1, none⟩) (fun e => by have := (o6.lt w.heap.size e).1; omega) (.int .i64 pv)
      have el : (E1 ++ E2).length = i + (N - (i + 1)) := by rw [List.length_append, hi]; have := HL.out; omega
      rw [el, pc_app]
      exact own_mono o7 (by have := HH.out.lt; omega)
    · refine ⟨?_, fun k cs t hk h3 _ => q2.blk (q1.blk (HKp.out k cs t hk h3) (by have := hk.lt; omega)) (by have := hk.lt; omega)⟩
      exact q2.below (q1.below HK5.out (by have := HH.out.lt; omega) (by have := HH.out.lt; omega)) (by have := q1.size; have := HH.out.lt; omega) (by have := HH.out.lt; omega)
end Go.Proofs.Ytnggdeggcflodaa
