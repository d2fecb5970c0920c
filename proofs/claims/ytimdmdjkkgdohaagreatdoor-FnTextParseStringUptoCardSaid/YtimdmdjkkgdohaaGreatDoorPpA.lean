/- The parser in the heap; InSequence, IsOpen, Reset, AppendRune at ASCII. No conditions. -/
import Derived.Test.YtimdmdjkkgdohaaGreatDoorPpP
import Derived.Test.YtimdmdjkkgdohaaGreatDoorLr0
import Derived.Test.YtimdmdjkkgdohaaGreatDoorTxt
import Derived.Deep.QuietTactic
import Derived.RegionTactic
import Derived.BigQuiet
import Derived.BigRegion
import Derived.Laws.OwnMore
import Derived.Deep.AppendLies
import Derived.Laws.CopyOwn
import Derived.WalkLawsBesides
namespace Go.Proofs.YtimdmdjkkgdohaaGreatDoor
open Go.RowKit
set_option linter.unusedVariables false
abbrev tP : TypeId := 46
abbrev tU : TypeId := 5
abbrev tB : TypeId := 44
theorem halt_H {p : Prop} (h : Hid p) : p := h
theorem resume_H {p : Prop} (h : p) : Hid p := h
theorem own_slice {w : World} {B e size n : Nat} {v : Value} {xs : List Value} (h : w.ownsRow B e size v n xs) : ∃ A cap, v = .slice A n cap := by
  rcases h.2 with ⟨rfl, rfl⟩ | ⟨g, cap, cur, rfl, _⟩
  · exact ⟨_, _, rfl⟩
  · exact ⟨_, _, rfl⟩
theorem own_mono {w : World} {B B' e size n : Nat} {v : Value} {xs : List Value} (h : w.ownsRow B e size v n xs) (hB : B' ≤ B) : w.ownsRow B' e size v n xs := by
  refine ⟨h.1, ?_⟩
  rcases h.2 with h0 | ⟨g, cap, cur, hv, hb, r⟩
  · exact .inl h0
  · exact .inr ⟨g, cap, cur, hv, by omega, r⟩
theorem own_none {w : World} {B e size n cap : Nat} {A : Option Addr} {xs : List Value} (h : w.ownsRow B e size (.slice A n cap) n xs) : w.ownsRow B e size (.slice A 0 cap) 0 [] := by
  rcases h.2 with ⟨e, rfl⟩ | ⟨g, cap', cur, e, hb, hg, h3, h4, h5, h6⟩
  · injection e with e1 e2 e3
    subst e1 e3
    exact World.ownsRow_nil _ _ _ _
  · injection e with e1 e2 e3
    subst e3
    exact ⟨by simp, .inr ⟨g, cap, cur, by rw [e1], hb, hg, by omega, h4, h5, by simp⟩⟩
theorem Blk.type_ne {w : World} {b c : Nat} {t u : TypeId} {cs ds : Array Value} (h : Blk w b t cs) (h2 : Blk w c u ds) (hne : t ≠ u) : b ≠ c := by
  rintro rfl
  unfold Blk at h h2
  rw [h] at h2
  injection h2 with h2
  injection h2 with _ h2
  exact hne h2
theorem Below.drewK (B : Nat) (w : World) (n : Nat) : Below B w (w.drewN n) := ⟨rfl, rfl, rfl, Nat.le_refl _, fun _ _ => rfl⟩
/-- Blocks below B stay, and whatever is no parser and no row of bytes. -/
structure Fp (B : Nat) (w w' : World) : Prop where
  below : Below B w w'
  fr : ∀ c t cs, t ≠ tU → t ≠ tP → Blk w c t cs → Blk w' c t cs
  it : ∀ (k : Nat) (s : ByteArray) (pos : Nat), w.heap[k]? = some (Obj.stringIter s pos) → w'.heap[k]? = some (Obj.stringIter s pos)
theorem Blk.it_ne {w : World} {b k : Nat} {t : TypeId} {cs : Array Value} {s : ByteArray} {pos : Nat} (h : Blk w b t cs) (hk : w.heap[k]? = some (Obj.stringIter s pos)) : k ≠ b := by
  rintro rfl
  unfold Blk at h
  rw [h] at hk; cases hk
theorem it_lt {w : World} {k : Nat} {s : ByteArray} {pos : Nat} (hk : w.heap[k]? = some (Obj.stringIter s pos)) : k < w.heap.size := (Array.getElem?_eq_some_iff.1 hk).1
theorem Fp.refl (B : Nat) (w : World) : Fp B w w := ⟨Below.refl _ _, fun _ _ _ _ _ h => h, fun _ _ _ h => h⟩
theorem Fp.trans {B : Nat} {a b c : World} (h : Fp B a b) (h2 : Fp B b c) : Fp B a c := ⟨h.below.trans h2.below, fun i t cs h0 h1 hb => h2.fr i t cs h0 h1 (h.fr i t cs h0 h1 hb), fun k s pos hk => h2.it k s pos (h.it k s pos hk)⟩
theorem Fp.drewN {B : Nat} {a b : World} (h : Fp B a b) (n : Nat) : Fp B a (b.drewN n) := ⟨h.below.trans (Below.drewK B b n), h.fr, h.it⟩
theorem Fp.belowT {B : Nat} {a b c : World} (h : Fp B a b) (hb : Below b.heap.size b c) (hB : B ≤ b.heap.size) : Fp B a c := ⟨h.below.trans (hb.mono hB), fun i t cs h0 h1 hc => (h.fr i t cs h0 h1 hc).below hb (h.fr i t cs h0 h1 hc).lt, fun k s pos hk => (hb.block k (it_lt (h.it k s pos hk))).trans (h.it k s pos hk)⟩
theorem Fp.put {B b : Nat} {a w w' : World} {cs : Array Value} (h : Fp B a w) (hb : Blk w b tP cs) (hB : B ≤ w.heap.size) (hbB : B ≤ b) (p : Put w w' b) : Fp B a w' :=
  ⟨p.below h.below hB hbB, fun i t ds h0 h1 hc => p.blk (h.fr i t ds h0 h1 hc) (Blk.type_ne (h.fr i t ds h0 h1 hc) hb h1), fun k s pos hk => (p.keep (it_lt (h.it k s pos hk)) (hb.it_ne (h.it k s pos hk))).trans (h.it k s pos hk)⟩
/-- The codes that are on, as a map's entries. -/
def mks (l : List Int) : List (Int × Value) := l.map fun c => (c, .bool true)
def MSt (w : World) (B : Nat) (m : Value) : Option (List Int) → Prop
  | none => m = .map none
  | some l => ∃ mb, m = .map (some mb) ∧ B ≤ mb ∧ PMap w mb (mks l)
theorem MSt.put {w w' : World} {B b : Nat} {m : Value} {cs : Option (List Int)} {ds : Array Value} {t : TypeId} (h : MSt w B m cs) (hb : Blk w b t ds) (p : Put w w' b) : MSt w' B m cs := by
  cases cs with
  | none => exact h
  | some l =>
    obtain ⟨mb, e, hB, hm⟩ := h
    exact ⟨mb, e, hB, p.pmap hm (fun e => hm.ne_blk hb e.symm)⟩
theorem MSt.below {w w' : World} {B S : Nat} {m : Value} {cs : Option (List Int)} (h : MSt w B m cs) (hb : Below S w w') (hS : w.heap.size ≤ S) : MSt w' B m cs := by
  cases cs with
  | none => exact h
  | some l =>
    obtain ⟨mb, e, hB, hm⟩ := h
    exact ⟨mb, e, hB, hm.keep (hb.block mb (by have := hm.lt; omega))⟩
theorem own_put {w w' : World} {B b n : Nat} {v : Value} {xs : List Value} {t u : TypeId} {ds : Array Value} (h : w.ownsRow B u 1 v n xs) (hb : Blk w b t ds) (hne : u ≠ t) (p : Put w w' b) : w'.ownsRow B u 1 v n xs := by
  refine h.kept p.grown ?_
  by_cases hn : v.ownBlock = none
  · exact .inl hn
  · refine .inr fun e => ?_
    rcases h.2 with ⟨rfl, _⟩ | ⟨g, cap, cur, rfl, _, hgb, _⟩
    · simp [Value.ownBlock] at e
    · simp [Value.ownBlock] at e
      subst e
      exact Blk.type_ne (t := u) (u := t) hgb hb hne rfl
theorem own_below {w w' : World} {B S e size n : Nat} {v : Value} {xs : List Value} (h : w.ownsRow B e size v n xs) (hb : Below S w w') (hS : w.heap.size ≤ S) : w'.ownsRow B e size v n xs := by
  refine ⟨h.1, ?_⟩
  rcases h.2 with h0 | ⟨g, cap, cur, hv, hBg, r, r2⟩
  · exact .inl h0
  · exact .inr ⟨g, cap, cur, hv, hBg, (hb.block g (by have := (Array.getElem?_eq_some_iff.1 r).1; omega)).trans r, r2⟩
theorem MSt.grown {w w' : World} {B e size n : Nat} {v m : Value} {cs : Option (List Int)} {xs : List Value} (h : MSt w B m cs) (ho : w.ownsRow B e size v n xs) (hg : w.grownBy w' v.ownBlock) : MSt w' B m cs := by
  cases cs with
  | none => exact h
  | some l =>
    obtain ⟨mb, e, hB, hm⟩ := h
    refine ⟨mb, e, hB, hm.keep (hg.block mb hm.lt (fun e2 => ?_))⟩
    rcases ho.2 with ⟨rfl, _⟩ | ⟨g, cap, cur, rfl, _, hgb, _⟩
    · simp [Value.ownBlock] at e2
    · simp [Value.ownBlock] at e2
      exact hm.ne_blk (t := _) hgb e2.symm
/-- The parser in block b, whose parts lie from block B on. -/
structure PSt (w : World) (B b : Nat) (m v : Value) (p : PS) : Prop where
  blk : Blk w b tP #[m, .bool p.e, .int .i64 p.k, v]
  row : w.ownsRow B tU 1 v p.q.length (bcells p.q)
  map : MSt w B m p.cs
  Bb : B ≤ b
section
variable {w w' : World} {B b : Nat} {m v : Value} {p : PS}
theorem PSt.lt (h : PSt w B b m v p) : B ≤ w.heap.size := by have := h.blk.lt; have := h.Bb; omega
theorem PSt.below {S : Nat} (h : PSt w B b m v p) (hb : Below S w w') (hS : w.heap.size ≤ S) : PSt w' B b m v p := ⟨h.blk.below hb (by have := h.blk.lt; omega), own_below h.row hb hS, h.map.below hb hS, h.Bb⟩
theorem PSt.drewN (h : PSt w B b m v p) (k : Nat) : PSt (w.drewN k) B b m v p := ⟨h.blk, h.row, by
  have := h.map
  cases hc : p.cs with
  | none => rw [hc] at this; exact this
  | some l => rw [hc] at this; exact this, h.Bb⟩
/-- A cell of the parser's own is turned. -/
theorem PSt.put {v' m' : Value} {p' : PS} (h : PSt w B b m v p) (hp : Put w w' b) (hb : Blk w' b tP #[m', .bool p'.e, .int .i64 p'.k, v']) (hr : w.ownsRow B tU 1 v' p'.q.length (bcells p'.q)) (hm : MSt w B m' p'.cs) : PSt w' B b m' v' p' :=
  ⟨hb, own_put hr h.blk (by decide) hp, hm.put h.blk hp, h.Bb⟩
theorem PSt.form (h : PSt w B b m v p) : ∃ A cap, v = .slice A p.q.length cap ∧ p.q.length ≤ cap ∧ cap ≤ maxLen := by
  rcases h.row.2 with ⟨e, hz⟩ | ⟨g, cap, cur, e, _, _, h3, h4, _⟩
  · exact ⟨none, 0, by rw [hz]; exact e, by omega, by simp [maxLen]⟩
  · exact ⟨some ⟨g, 0, none⟩, cap, e, h3, h4⟩
theorem PSt.cell1 (h : PSt w B b m v p) : w.cell? ⟨b, 1, none⟩ = some (.bool p.e) := h.blk.cell 1 rfl
theorem PSt.cell2 (h : PSt w B b m v p) : w.cell? ⟨b, 2, none⟩ = some (.int .i64 p.k) := h.blk.cell 2 rfl
theorem PSt.cell0 (h : PSt w B b m v p) : w.cell? ⟨b, 0, none⟩ = some m := h.blk.cell 0 rfl
theorem PSt.cell3 (h : PSt w B b m v p) : w.cell? ⟨b, 3, none⟩ = some v := h.blk.cell 3 rfl
end
theorem infoBo : (Tryz.prog.info? 4).map (·.size) = some 1 := by kernel_rfl
theorem infoK : (Tryz.prog.info? 43).map (·.size) = some 1 := by kernel_rfl
theorem infoB : (Tryz.prog.info? tB).map (·.size) = some 1 := by kernel_rfl
theorem infoMp : (Tryz.prog.info? 42).map (·.size) = some 1 := by kernel_rfl
theorem infoU : (Tryz.prog.info? tU).map (fun i => (i.zero, i.size, i.bytes)) = some (some (.int .u8 0), 1, 1) := by kernel_rfl
set_option maxHeartbeats 1000000 in
theorem inSeq_any {w : World} {B b : Nat} {m v : Value} {p : PS} (h : PSt w B b m v p) : Calls Tryz.prog 17 #[.pointer (some ⟨b, 0, none⟩)] w fun e w' => e = .returned (.bool p.e) ∧ w' = w := by
  have f1 := h.cell1
  go_enter Tryz.func17, Tryz.ntmps17
  go_wp2
  go_ret
  exact ⟨rfl, rfl⟩
/-- How many codes are on. -/
def opn (cs : Option (List Int)) : Bool := match cs with | none => false | some l => decide (0 < l.length)
set_option maxHeartbeats 1000000 in
theorem isOpen_any {w : World} {B b : Nat} {m v : Value} {p : PS} (h : PSt w B b m v p) : Calls Tryz.prog 18 #[.pointer (some ⟨b, 0, none⟩)] w fun e w' => e = .returned (.bool (opn p.cs)) ∧ w' = w := by
  have f0 := h.cell0
  have hm := h.map
  cases hc : p.cs with
  | none =>
    rw [hc] at hm
    obtain rfl : m = .map none := hm
    go_enter Tryz.func18, Tryz.ntmps18
    go_wp2
    go_ret
    exact ⟨rfl, rfl⟩
  | some l =>
    rw [hc] at hm
    obtain ⟨mb, rfl, hB, hm⟩ := hm
    have hlen := fun ty => hm.run_len (P := Tryz.prog) Tryz.underlying42 ty
    have e1 : (mks l).length = l.length := by simp [mks]
    rw [e1] at hlen
    go_enter Tryz.func18, Tryz.ntmps18
    go_wp2
    go_ret
    refine ⟨?_, rfl⟩
    simp [opn]
def ResetRet (B b : Nat) (p : PS) (w : World) (e : Ending) (w' : World) : Prop := e = .returned (.tuple #[]) ∧ (∃ m v, PSt w' B b m v ⟨p.cs, false, 0, []⟩) ∧ Fp B w w'
set_option maxHeartbeats 1000000 in
set_option maxRecDepth 100000 in
theorem reset_any {w : World} {B b : Nat} {m v : Value} {p : PS} (h : PSt w B b m v p) : Calls Tryz.prog 16 #[.pointer (some ⟨b, 0, none⟩)] w (ResetRet B b p w) := by
  obtain ⟨A, cap, rfl, hc1, hc2⟩ := h.form
  have hM : cap ≤ 9223372036854775807 := hc2
  have HP := Lib.hid h
  clear h hc2
  go_enter Tryz.func16, Tryz.ntmps16
  go_wp2_with ((with_reducible refine gate_st (t := 4) rfl ?_); refine halt_L ?_)
  refine resume_L ?_
  refine wpList_put HP.out.blk (o := 1) (v := .bool false) (by simp) rfl rfl rfl infoBo ?_
  intro w1 hb1 p1
  have HP1 := Lib.hid (show PSt w1 B b m _ ⟨p.cs, false, p.k, p.q⟩ from HP.out.put p1 hb1 HP.out.row HP.out.map)
  have HF1 := Lib.hid ((Fp.refl B w).put HP.out.blk HP.out.lt HP.out.Bb p1)
  clear hb1 p1
  go_wp2_with ((with_reducible refine gate_st (t := 43) rfl ?_); refine halt_L ?_)
  refine resume_L ?_
  refine wpList_put HP1.out.blk (o := 2) (v := .int .i64 0) (by simp) rfl rfl rfl infoK ?_
  intro w2 hb2 p2
  have HP2 := Lib.hid (show PSt w2 B b m _ ⟨p.cs, false, 0, p.q⟩ from HP1.out.put p2 hb2 HP1.out.row HP1.out.map)
  have HF2 := Lib.hid (HF1.out.put HP1.out.blk HP1.out.lt HP1.out.Bb p2)
  have f3 := HP2.out.cell3
  clear hb2 p2
  go_wp2_with ((with_reducible refine gate_st (t := 44) rfl ?_); refine halt_L ?_)
  refine resume_L ?_
  refine wpList_put HP2.out.blk (o := 3) (v := .slice A 0 cap) (by simp) rfl rfl rfl infoB ?_
  intro w3 hb3 p3
  have HP3 := Lib.hid (show PSt w3 B b m (.slice A 0 cap) ⟨p.cs, false, 0, []⟩ from HP2.out.put p3 hb3 (own_none HP2.out.row) HP2.out.map)
  have HF3 := Lib.hid (HF2.out.put HP2.out.blk HP2.out.lt HP2.out.Bb p3)
  clear hb3 p3 f3
  go_wp2
  go_end0
  exact ⟨rfl, ⟨m, _, HP3.out⟩, HF3.out⟩
def AppRet (B : Nat) (v : Value) (q : List UInt8) (c : UInt8) (w : World) (e : Ending) (w' : World) : Prop := ∃ v', e = .returned v' ∧ w'.ownsRow B tU 1 v' (q ++ [c]).length (bcells (q ++ [c])) ∧ ∃ o, (w.alloc o).grownBy w' v.ownBlock
set_option maxHeartbeats 1000000 in
set_option maxRecDepth 100000 in
theorem appRune_any (B : Nat) (v : Value) (q : List UInt8) (c : UInt8) (w : World) (hc : c.toNat < 128) (hq : q.length ≤ 1000) (hB : B ≤ w.heap.size) (ho : w.ownsRow B tU 1 v q.length (bcells q)) :
    Calls Tryz.prog 24 #[v, .int .i32 (c.toNat : Int)] w (AppRet B v q c w) := by
  obtain ⟨i0, hi0, hz0, hz1, hz2⟩ := info_parts infoU
  have HO := Lib.hid ho
  have HQ := Lib.hid hq
  clear ho
  have e0 : c = UInt8.ofNat c.toNat := by simp
  obtain ⟨n, hn⟩ : ∃ n, c.toNat = n := ⟨_, rfl⟩
  rw [hn] at hc ⊢
  have HN := Lib.hid hn
  clear hn e0
  go_enter Tryz.func24, Tryz.ntmps24
  go_wp2_with (at_builtin; refine halt_H ?_)
  refine resume_H ?_
  refine wpList_append_own _ rfl _ _ 44 rfl B 5 i0 (.int .u8 0) 1 1 Tryz.underlying44 hi0 hz0 hz1 hz2 rfl (by decide) _ _ _ rfl (HO.out.alloc _) ⟨w.heap.size, 0, none⟩ 1 1 [.int .u8 (n : Int)] rfl rfl (oneS_at (heap_alloc_new w _)) (by simp [Value.oneCell']) (by unfold maxLen; omega) (by omega) (by simp; omega) ?_
  intro v' w3 hown1 hgrow _
  have HO1 := Lib.hid hown1
  have HG1 := Lib.hid hgrow
  clear hown1 hgrow
  go_wp2
  go_ret
  refine ⟨v', rfl, ?_, _, HG1.out⟩
  have := HO1.out
  rw [bcells_append, List.length_append]
  show w3.ownsRow B tU 1 v' (q.length + 1) (bcells q ++ [.int .u8 (c.toNat : Int)])
  rw [HN.out]
  exact this
end Go.Proofs.YtimdmdjkkgdohaaGreatDoor
