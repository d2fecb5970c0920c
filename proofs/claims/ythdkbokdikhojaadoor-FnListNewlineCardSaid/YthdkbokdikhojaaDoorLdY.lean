/- FnListDrawn: what the package draws is what the reference draws; the walk of the law. No conditions. -/
import Derived.Test.YthdkbokdikhojaaDoorLdX
import Derived.Test.YthdkbokdikhojaaDoorLdE
import Derived.Test.YthdkbokdikhojaaDoorLsM
namespace Go.Proofs.YthdkbokdikhojaaDoor
open Go.RowKit
set_option linter.unusedVariables false
theorem its_lvs (l : List (ByteArray × Int)) : (itemsTo l l.length).map Prod.fst = lvs l := by
  apply List.ext_getElem?
  intro k
  unfold itemsTo lvs
  rw [List.map_map, List.getElem?_map, List.getElem?_map]
  by_cases h : k < l.length
  · rw [List.getElem?_range h, List.getElem?_eq_getElem h]
    simp [lv, h]
  · rw [List.getElem?_eq_none (by simp; omega), List.getElem?_eq_none (by omega)]; rfl
theorem its_tx (l : List (ByteArray × Int)) (k : Nat) (h : k < l.length) : ((itemsTo l l.length).getD k (0, ⟨#[]⟩)).2 = tx l k := by
  unfold itemsTo
  rw [List.getD_eq_getElem?_getD, List.getElem?_map, List.getElem?_range h]; rfl
theorem its_len (l : List (ByteArray × Int)) : (itemsTo l l.length).length = l.length := by simp [itemsTo]
theorem no10_simp {t : ByteArray} (h : simp false t = true) : (10 : UInt8) ∉ t.data.toList := fun hb => by
  have := simp_bytes h _ hb
  simp at this
/-- What the package draws, line by line, is what the reference draws. -/
theorem drawn_eq (D : LD) (l : List (ByteArray × Int)) (n : Nat) (hn : l.length = n) (hits : D.its = itemsTo l l.length) (hR : RightTo l n) (hT : topP l n) : ∀ k, k ≤ n → drawnTo D k = drawnW D l n k
  | 0, _ => rfl
  | k + 1, hk => by
    have ih := drawn_eq D l n hn hits hR hT k (by omega)
    have hlv : D.lvs = lvs l := by unfold LD.lvs; rw [hits]; exact its_lvs l
    have hz : ∀ j, zat D.lvs j = lv l j := fun j => by rw [hlv, lvs_at]
    have htx : txt D k = tx l k := by unfold txt; rw [hits]; exact its_tx l k (by omega)
    have hq := hR k (by omega)
    have hf : fin D (txt D k) = tx l k := by
      unfold fin
      rw [htx, if_neg (fun h => no10_simp hq.2.2.2.2 h.1)]
    have hfirst : firstB D k = firstW l k := by unfold firstB firstW; rw [hz, hz]
    have hlast : lastB D k = !more (lv l k) ((lvs l).drop (k + 1)) := by unfold lastB; rw [hz, hlv]
    have hlev : levN D k = (lv l k).toNat := by unfold levN; rw [hz]
    have hdl : D.its.length = n := by rw [hits, its_len, hn]
    have hlast0 : k + 1 = n → more (lv l k) ((lvs l).drop (k + 1)) = false := fun e => more_end _ _ _ (by rw [lvs_len]; omega)
    have hb : bulS D (topB k) (firstB D k) (firstB D k && lastB D k) (lastB D k) (botB D k) = bulW D l n k := by
      unfold bulS bulW
      rw [hfirst, hlast]
      unfold topB botB
      rw [hdl]
      by_cases h1 : n = 1
      · have h0 : k = 0 := by omega
        subst h0
        rw [if_pos h1, hlast0 (by omega)]
        simp [firstW]
      · rw [if_neg h1]
        by_cases h0 : k = 0
        · subst h0
          have hm : more (lv l 0) ((lvs l).drop 1) = true := by
            have e0 : lv l 0 = 0 := by have := hq.2.2.1; simp at this; have := hq.1; omega
            rw [e0]
            exact (hT.resolve_left h1).2
          rw [if_pos rfl, hm]
          simp
        · rw [if_neg h0]
          cases hm : more (lv l k) ((lvs l).drop (k + 1)) with
          | true =>
            have hbk : ¬ k + 1 = n := fun e => by rw [hlast0 e] at hm; cases hm
            cases hw : firstW l k <;> simp [h0, hbk]
          | false =>
            cases hw : firstW l k <;> simp [h0]
    rw [drawnTo, drawnW, ih]
    congr 1
    rw [lineL, lineW, hb, hlev, hf]
    simp [List.append_assoc]
def Ldd (l : List (ByteArray × Int)) (s1 s2 s3 s4 s5 s6 s8 : ByteArray) : LD := ⟨spaces (Lib.runeCount s5), s1, s2, s3, s4, s5, s6, ⟨#[10]⟩, s8, itemsTo l l.length⟩
theorem its_mem (l : List (ByteArray × Int)) (x : Int × ByteArray) (h : x ∈ itemsTo l l.length) : ∃ k, k < l.length ∧ x = (lv l k, tx l k) := by
  unfold itemsTo at h
  obtain ⟨k, hk, rfl⟩ := List.mem_map.1 h
  exact ⟨k, by simpa using hk, rfl⟩
theorem ldd_ok {l : List (ByteArray × Int)} {s1 s2 s3 s4 s5 s6 s7 s8 : ByteArray} {z : Int} (hR : RightL l) (hS : Styled z s1 s2 s3 s4 s5 s6 s7 s8) : (Ldd l s1 s2 s3 s4 s5 s6 s8).ok := by
  have hb : ∀ s ∈ [s1, s2, s3, s4, s5, s6, s8], s.size ≤ 1000 := fun s hs => Nat.le_trans (hS.all s hs).1 (by omega)
  refine ⟨?_, hb s1 (by simp), hb s2 (by simp), hb s3 (by simp), hb s4 (by simp), hb s5 (by simp), hb s6 (by simp), ?_, hb s8 (by simp), ?_, ?_⟩
  · show (spaces (Lib.runeCount s5)).size ≤ 1000
    rw [spaces_size]
    exact Nat.le_trans (Lib.runeCount_le s5) (hb s5 (by simp))
  · show 1 ≤ 1000; omega
  · show (itemsTo l l.length).length ≤ 1000
    rw [its_len]; have := hR.2; omega
  · intro x hx
    obtain ⟨k, hk, rfl⟩ := its_mem l x hx
    have := hR.1 k hk
    have := hR.2
    exact ⟨by omega, by show lv l k ≤ 1000; omega, by show (tx l k).size ≤ 1000; omega⟩
theorem ldd_is {l : List (ByteArray × Int)} {s1 s2 s3 s4 s5 s6 s7 s8 : ByteArray} {z : Int} (hS : Styled z s1 s2 s3 s4 s5 s6 s7 s8) : LdIs (Ldd l s1 s2 s3 s4 s5 s6 s8) l := by
  have h5 := hS.all s5 (by simp)
  exact ⟨its_lvs l, rfl, h5.1, (hS.all s8 (by simp)).1, h5.2, hS.nw5⟩
theorem ldd_fits {l : List (ByteArray × Int)} {s1 s2 s3 s4 s5 s6 s8 : ByteArray} (hR : RightL l) : (Ldd l s1 s2 s3 s4 s5 s6 s8).fits := by
  have hz : ∀ j, zat (Ldd l s1 s2 s3 s4 s5 s6 s8).lvs j = lv l j := fun j => by
    rw [show (Ldd l s1 s2 s3 s4 s5 s6 s8).lvs = lvs l from its_lvs l, lvs_at]
  have hd : (Ldd l s1 s2 s3 s4 s5 s6 s8).its.length = l.length := its_len l
  have hf : ∀ k, k < l.length → fin (Ldd l s1 s2 s3 s4 s5 s6 s8) (txt (Ldd l s1 s2 s3 s4 s5 s6 s8) k) = tx l k := fun k hk => by
    have htx : txt (Ldd l s1 s2 s3 s4 s5 s6 s8) k = tx l k := its_tx l k hk
    unfold fin
    rw [htx, if_neg (fun h => no10_simp (hR.1 k hk).2.2.2.2 h.1)]
  refine ⟨by rw [hd]; exact hR.2, fun k hk => ?_, fun k hk => ?_, fun k hk => ?_⟩
  · rw [hd] at hk
    rw [hz]
    have := hR.1 k hk
    have := hR.2
    omega
  · rw [hd] at hk
    rw [hf k hk]
    have := (hR.1 k hk).2.2.2.1
    omega
  · rw [hd] at hk
    rw [hf k hk]
    exact no10_simp (hR.1 k hk).2.2.2.2
end Go.Proofs.YthdkbokdikhojaaDoor
