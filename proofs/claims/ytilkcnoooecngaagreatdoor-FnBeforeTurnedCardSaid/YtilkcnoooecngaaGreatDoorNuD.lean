/- Decimals of lightstrconv: their digits in a row of the call's own; trim. No conditions. -/
import Derived.Test.YtilkcnoooecngaaGreatDoorLr0
import Derived.Test.YtilkcnoooecngaaGreatDoorProg
import Derived.Deep.QuietTactic
import Derived.RegionTactic
import Derived.BigQuiet
import Derived.BigRegion
import Derived.Laws.OwnMore
import Derived.Deep.AppendLies
import Derived.Laws.CopyOwn
namespace Go.Proofs.YtilkcnoooecngaaGreatDoor
open Go.RowKit
set_option linter.unusedVariables false
abbrev tD : TypeId := 114
abbrev tU : TypeId := 5
abbrev tB : TypeId := 56
def dc (d : Nat) : Value := .int .u8 (d : Int)
theorem own_mono {w : World} {B B' e size n : Nat} {v : Value} {xs : List Value} (h : w.ownsRow B e size v n xs) (hB : B' ≤ B) : w.ownsRow B' e size v n xs := by
  refine ⟨h.1, ?_⟩
  rcases h.2 with h0 | ⟨g, cap, cur, hv, hb, r⟩
  · exact .inl h0
  · exact .inr ⟨g, cap, cur, hv, by omega, r⟩
theorem own_slice {w : World} {B e size n : Nat} {v : Value} {xs : List Value} (h : w.ownsRow B e size v n xs) : ∃ A cap, v = .slice A n cap := by
  rcases h.2 with ⟨rfl, rfl⟩ | ⟨g, cap, cur, rfl, _⟩
  · exact ⟨_, _, rfl⟩
  · exact ⟨_, _, rfl⟩
theorem own_drewN {w : World} {B e size n : Nat} {v : Value} {xs : List Value} (h : w.ownsRow B e size v n xs) (k : Nat) : (w.drewN k).ownsRow B e size v n xs := h
theorem Blk.type_ne {w : World} {b c : Nat} {t u : TypeId} {cs ds : Array Value} (h : Blk w b t cs) (h2 : Blk w c u ds) (hne : t ≠ u) : b ≠ c := by
  rintro rfl
  unfold Blk at h h2
  rw [h] at h2
  injection h2 with h2
  injection h2 with _ h2
  exact hne h2
theorem Below.drewK (B : Nat) (w : World) (n : Nat) : Below B w (w.drewN n) := ⟨rfl, rfl, rfl, Nat.le_refl _, fun _ _ => rfl⟩
/-- Blocks below B stay, and whatever is no decimal and no row of bytes. -/
structure Fm (B : Nat) (w w' : World) : Prop where
  below : Below B w w'
  fr : ∀ c t cs, t ≠ tU → t ≠ tD → Blk w c t cs → Blk w' c t cs
theorem Fm.refl (B : Nat) (w : World) : Fm B w w := ⟨Below.refl _ _, fun _ _ _ _ _ h => h⟩
theorem Fm.trans {B : Nat} {a b c : World} (h : Fm B a b) (h2 : Fm B b c) : Fm B a c := ⟨h.below.trans h2.below, fun i t cs h0 h1 hb => h2.fr i t cs h0 h1 (h.fr i t cs h0 h1 hb)⟩
theorem Fm.drewN {B : Nat} {a b : World} (h : Fm B a b) (n : Nat) : Fm B a (b.drewN n) := ⟨h.below.trans (Below.drewK B b n), h.fr⟩
theorem Fm.belowS {B : Nat} {a b c : World} (h : Fm B a b) (hb : Below a.heap.size b c) (hB : B ≤ a.heap.size) : Fm B a c := ⟨h.below.trans (hb.mono hB), fun i t cs h0 h1 hc => (h.fr i t cs h0 h1 hc).below hb hc.lt⟩
theorem Fm.belowT {B : Nat} {a b c : World} (h : Fm B a b) (hb : Below b.heap.size b c) (hB : B ≤ b.heap.size) : Fm B a c := ⟨h.below.trans (hb.mono hB), fun i t cs h0 h1 hc => (h.fr i t cs h0 h1 hc).below hb (h.fr i t cs h0 h1 hc).lt⟩
theorem Fm.put {B b : Nat} {a w w' : World} {cs : Array Value} (h : Fm B a w) (hb : Blk w b tD cs) (hB : B ≤ w.heap.size) (hbB : B ≤ b) (p : Put w w' b) : Fm B a w' :=
  ⟨p.below h.below hB hbB, fun i t ds h0 h1 hc => p.blk (h.fr i t ds h0 h1 hc) (Blk.type_ne (h.fr i t ds h0 h1 hc) hb h1)⟩
theorem put_drew (w : World) (b o : Nat) (v : Value) : Put w (w.setCell ⟨b, o, none⟩ v).drew b :=
  ⟨⟨rfl, rfl, rfl, (put_set w b o v).grown.size, fun k hk hne => (put_set w b o v).grown.block k hk hne⟩, (put_set w b o v).size⟩
theorem Blk.setd {w : World} {b : Nat} {t : TypeId} {cs : Array Value} (h : Blk w b t cs) (o : Nat) (v : Value) : Blk (w.setCell ⟨b, o, none⟩ v).drew b t (cs.setIfInBounds o v) := h.set o v
theorem infoU : (Tryz.prog.info? tU).map (fun i => (i.zero, i.size, i.bytes)) = some (some (.int .u8 0), 1, 1) := by kernel_rfl
theorem infoB : (Tryz.prog.info? tB).map (·.size) = some 1 := by kernel_rfl
theorem infoI : (Tryz.prog.info? 3).map (·.size) = some 1 := by kernel_rfl
/-- A decimal in block b, from block B on: its digits, its point. -/
structure Dec (w : World) (B b : Nat) (v : Value) (ds : List Nat) (dp : Int) : Prop where
  blk : Blk w b tD #[v, .int .i64 dp]
  row : w.ownsRow B tU 1 v ds.length (ds.map dc)
  Bb : B ≤ b
section
variable {w w' : World} {B b : Nat} {v : Value} {ds : List Nat} {dp : Int}
theorem Dec.lt (h : Dec w B b v ds dp) : B ≤ w.heap.size := by have := h.blk.lt; have := h.Bb; omega
theorem Dec.drewN (h : Dec w B b v ds dp) (k : Nat) : Dec (w.drewN k) B b v ds dp := ⟨h.blk, h.row, h.Bb⟩
theorem Dec.alloc (h : Dec w B b v ds dp) (o : Obj) : Dec (w.alloc o) B b v ds dp := ⟨h.blk.alloc o, h.row.alloc o, h.Bb⟩
theorem Dec.ne_own (h : Dec w B b v ds dp) : ¬ some b = v.ownBlock := fun e => by
  rcases h.row.2 with ⟨rfl, _⟩ | ⟨g, cap, cur, rfl, _, hgb, _⟩
  · simp [Value.ownBlock] at e
  · simp [Value.ownBlock] at e
    subst e
    exact Blk.type_ne (t := tU) (u := tD) hgb h.blk (by decide) rfl
/-- Its point is moved, its digits are replaced by others of the call's own. -/
theorem Dec.put {v' : Value} {ds' : List Nat} {dp' : Int} (h : Dec w B b v ds dp) (hr : w.ownsRow B tU 1 v' ds'.length (ds'.map dc)) (hp : Put w w' b) (hb : Blk w' b tD #[v', .int .i64 dp']) : Dec w' B b v' ds' dp' := by
  refine ⟨hb, hr.kept hp.grown ?_, h.Bb⟩
  by_cases hn : v'.ownBlock = none
  · exact .inl hn
  · refine .inr fun e => ?_
    rcases hr.2 with ⟨rfl, _⟩ | ⟨g, cap, cur, rfl, _, hgb, _⟩
    · simp [Value.ownBlock] at e
    · simp [Value.ownBlock] at e
      subst e
      exact Blk.type_ne (t := tU) (u := tD) hgb h.blk (by decide) rfl
theorem Dec.form (h : Dec w B b v ds dp) : ∃ A cap, v = .slice A ds.length cap ∧ ds.length ≤ cap ∧ cap ≤ maxLen ∧ (0 < ds.length → ∃ g, A = some ⟨g, 0, none⟩ ∧ B ≤ g ∧ g < w.heap.size ∧ g ≠ b ∧ ∀ j d, ds[j]? = some d → w.cell? ⟨g, j, none⟩ = some (dc d)) := by
  rcases h.row.2 with ⟨e, hz⟩ | ⟨g, cap, cur, e, hb, hg, h3, h4, _⟩
  · exact ⟨none, 0, by rw [hz]; exact e, by omega, by simp [maxLen], fun h => absurd h (by omega)⟩
  · refine ⟨some ⟨g, 0, none⟩, cap, e, h3, h4, fun _ => ⟨g, rfl, hb, (Array.getElem?_eq_some_iff.1 hg).1, Blk.type_ne (t := tU) (u := tD) hg h.blk (by decide), fun j d hd => ?_⟩⟩
    have := h.row.cells (g := g) (by rw [e]; rfl) j (dc d) (by rw [List.getElem?_map, hd]; rfl)
    rwa [Addr.add_lit, Nat.zero_add] at this
/-- A shorter row. -/
theorem own_take {n : Nat} {xs : List Value} {A : Option Addr} {cap : Nat} (h : w.ownsRow B tU 1 (.slice A n cap) n xs) {m : Nat} (hm : m ≤ n) (h0 : 0 < n) : w.ownsRow B tU 1 (.slice A m cap) m (xs.take m) := by
  rcases h.2 with ⟨e, hz⟩ | ⟨g, cap', cur, e, hb, hg, h3, h4, h5, h6⟩
  · omega
  · injection e with e1 e2 e3
    subst e3
    refine ⟨by have := h.1; simp; omega, .inr ⟨g, cap, cur, by rw [e1], hb, hg, by omega, h4, h5, ?_⟩⟩
    rw [← h6, List.take_take]
    congr 1
    omega
end
/-- What trim leaves of digits. -/
def trimD (ds : List Nat) : List Nat := (ds.reverse.dropWhile (· == 0)).reverse
theorem trimD_snoc0 (ds : List Nat) : trimD (ds ++ [0]) = trimD ds := by simp [trimD]
theorem trimD_snoc (ds : List Nat) {d : Nat} (h : d ≠ 0) : trimD (ds ++ [d]) = ds ++ [d] := by
  unfold trimD
  rw [List.reverse_append]
  simp [h]
theorem trimD_nil : trimD [] = [] := rfl
theorem snoc_cases {α : Type} (l : List α) : l = [] ∨ ∃ l' a, l = l' ++ [a] := by
  rcases List.eq_nil_or_concat l with h | ⟨l', a, h⟩
  · exact .inl h
  · exact .inr ⟨l', a, by simpa using h⟩
/-- The length that the block's first cell tells. -/
def dlen (w : World) (b : Nat) : Nat := match w.cell? ⟨b, 0, none⟩ with | some (.slice _ n _) => n | _ => 0
theorem Dec.dlen_eq {w : World} {B b : Nat} {v : Value} {ds : List Nat} {dp : Int} (h : Dec w B b v ds dp) : dlen w b = ds.length := by
  obtain ⟨A, cap, e, _⟩ := h.form
  have hc := h.blk.cell 0 (v := v) rfl
  unfold dlen
  rw [hc, e]
def TrimRet (B b : Nat) (ds : List Nat) (dp : Int) (w : World) (e : Ending) (w' : World) : Prop :=
  e = .returned (.pointer (some ⟨b, 0, none⟩)) ∧ (∃ v', Dec w' B b v' (trimD ds) (if trimD ds = [] then 0 else dp)) ∧ Fm B w w'
set_option maxHeartbeats 2000000 in
set_option maxRecDepth 100000 in
theorem trim_any (B b : Nat) (v : Value) (ds : List Nat) (dp : Int) (w : World) (h : Dec w B b v ds dp) (hl : ds.length ≤ 300000000) (hd : ∀ d ∈ ds, d < 256) :
    Calls Tryz.prog 66 #[.pointer (some ⟨b, 0, none⟩)] w (TrimRet B b ds dp w) := by
  have HD := Lib.hid (show ∃ (v' : Value) (l : List Nat), Dec w B b v' l dp ∧ trimD l = trimD ds ∧ Fm B w w ∧ l.length ≤ 300000000 ∧ (∀ d ∈ l, d < 256) from ⟨v, ds, h, rfl, Fm.refl _ _, hl, hd⟩)
  clear h hl hd
  go_enter Tryz.func66, Tryz.ntmps66
  go_wp2_with fail
  go_loopw [] (fun wr => ∃ (v' : Value) (l : List Nat), Dec wr B b v' l dp ∧ trimD l = trimD ds ∧ Fm B w wr ∧ l.length ≤ 300000000 ∧ (∀ d ∈ l, d < 256)) (fun wr => dlen wr b)
  · exact HD.out
  clear HD
  obtain ⟨v', l, hD, ht, hB, hl, hd⟩ := hrel
  rcases snoc_cases l with rfl | ⟨l', a, rfl⟩
  · have e := hD.form
    simp only [List.length_nil] at e
    obtain ⟨A, cap, rfl, hc1, hc2, _⟩ := e
    have f0 : wr.cell? ⟨b, 0, none⟩ = some (.slice A 0 cap) := hD.blk.cell 0 rfl
    have HD := Lib.hid hD
    have HB := Lib.hid hB
    have HT := Lib.hid ht
    clear hD hB hd hl ht hc1 hc2
    go_wp2_with fail
    go_quiet (fail)
    go_wp2_with ((with_reducible refine gate_st (t := 3) rfl ?_); refine halt_L ?_)
    refine resume_L ?_
    refine wpList_put (HD.out.drewN nq).blk (v := .int .i64 0) (by simp) rfl rfl rfl infoI ?_
    intro w2 hb2 p2
    have e2 : Dec w2 B b (.slice A 0 cap) [] 0 := (HD.out.drewN nq).put (HD.out.drewN nq).row p2 hb2
    have k2 := (HB.out.drewN nq).put (HD.out.drewN nq).blk (HD.out.drewN nq).lt HD.out.Bb p2
    go_wp2
    go_ret
    refine ⟨rfl, ⟨.slice A 0 cap, ?_⟩, k2⟩
    rw [← HT.out, trimD_nil, if_pos rfl]
    exact e2
  · have e := hD.form
    simp only [List.length_append, List.length_cons, List.length_nil, Nat.zero_add] at e hl
    obtain ⟨A, cap, rfl, hc1, hc2, hg⟩ := e
    obtain ⟨g, rfl, hBg, hgs, hgb, hc⟩ := hg (by omega)
    have hM : cap ≤ 9223372036854775807 := hc2
    have f0 : wr.cell? ⟨b, 0, none⟩ = some (.slice (some ⟨g, 0, none⟩) (l'.length + 1) cap) := by
      have := hD.blk.cell 0 rfl
      exact this
    have f2 : wr.frozen? ⟨b, 0, none⟩ = false := hD.blk.frozen 0
    have f1 : wr.cell? ⟨g, l'.length, none⟩ = some (.int .u8 a) := hc l'.length a (by simp)
    obtain ⟨n, hn⟩ : ∃ n, l'.length = n := ⟨_, rfl⟩
    simp only [hn] at hl hc1 f0 f1
    have HN := Lib.hid hn
    have e1 : ((n : Int) + 1 == 0) = false := by rw [beq_eq_false_iff_ne]; omega
    have HD := Lib.hid hD
    have HB := Lib.hid hB
    have HT := Lib.hid ht
    have Hd := Lib.hid hd
    have Hg := Lib.hid hgb
    clear hD hB hd hg hc hc2 hn ht hBg hgs hgb
    by_cases ha : a = 0
    · subst ha
      go_wp2_with fail
      go_quiet (fail)
      go_wp2_with fail
      go_region
      have hD2 := HD.out.drewN (nq + 1)
      have p2 := put_set (wr.drewN (nq + 1)) b 0 (.slice (some ⟨g, 0, none⟩) n cap)
      have hb2 := hD2.blk.set 0 (.slice (some ⟨g, 0, none⟩) n cap)
      generalize hw2 : World.setCell _ _ _ = w2 at p2 hb2 ⊢
      clear hw2
      have hr1 : (wr.drewN (nq + 1)).ownsRow B tU 1 (.slice (some ⟨g, 0, none⟩) (n + 1) cap) (n + 1) ((l' ++ [0]).map dc) := by
        obtain rfl := HN.out
        have := hD2.row
        simp only [List.length_append, List.length_cons, List.length_nil, Nat.zero_add] at this
        exact this
      have hr2 := own_take hr1 (m := n) (by omega) (by omega)
      have e3 : Dec w2 B b (.slice (some ⟨g, 0, none⟩) n cap) l' dp := hD2.put (by
        obtain rfl := HN.out
        simpa using hr2) p2 hb2
      have k2 := (HB.out.drewN (nq + 1)).put hD2.blk hD2.lt hD2.Bb p2
      clear f0 f1 f2 p2 hb2 hr2 hD2
      have m1 := e3.dlen_eq
      have m0 := HD.out.dlen_eq
      go_roundw
      case rel => exact ⟨_, _, _, _, _, _, _, _, _, _, _, _, _, _, _, _, _, _, _, _, _, _, _, _, _, _, _, _, _, _, _, _, _, _, _, ⟨_, l', e3, by rw [← HT.out, trimD_snoc0], k2, by have := HN.out; omega, fun d hd => Hd.out d (by simp [hd])⟩, rfl⟩
      case measure => rw [m0, m1]; simp
    · have e0 : ((a : Int) == 0) = false := by rw [beq_eq_false_iff_ne]; omega
      have HA := Lib.hid ha
      clear ha
      go_wp2_with fail
      go_quiet (fail)
      go_wp2
      go_ret
      refine ⟨rfl, ⟨.slice (some ⟨g, 0, none⟩) (l'.length + 1) cap, ?_⟩, HB.out.drewN nq⟩
      rw [← HT.out, trimD_snoc _ HA.out, if_neg (by simp)]
      exact HD.out.drewN nq
end Go.Proofs.YtilkcnoooecngaaGreatDoor
