/- FnListConnected: what is drawn in a connected style is read back. No conditions. -/
import Derived.Test.YthdkbokdikhojaaGreatDoorLkF
import Derived.Test.YthdkbokdikhojaaGreatDoorLsM
import Derived.Test.YthdkbokdikhojaaGreatDoorLdE
namespace Go.Proofs.YthdkbokdikhojaaGreatDoor
open Go.RowKit
set_option linter.unusedVariables false
def lvs (l : List (ByteArray × Int)) : List Int := l.map Prod.snd
theorem lvs_at (l : List (ByteArray × Int)) (k : Nat) : zat (lvs l) k = lv l k := by
  unfold zat lvs lv
  rw [List.getD_eq_getElem?_getD, List.getD_eq_getElem?_getD, List.getElem?_map]
  cases l[k]? <;> rfl
theorem its_lvs (l : List (ByteArray × Int)) : (itemsTo l l.length).map Prod.fst = lvs l := by
  apply List.ext_getElem?
  intro k
  unfold itemsTo lvs
  rw [List.map_map, List.getElem?_map, List.getElem?_map]
  by_cases h : k < l.length
  · rw [List.getElem?_range h, List.getElem?_eq_getElem h]
    simp [lv, h]
  · rw [List.getElem?_eq_none (by simp; omega), List.getElem?_eq_none (by omega)]; rfl
theorem its_tx (l : List (ByteArray × Int)) (k : Nat) (h : k < l.length) : ((itemsTo l l.length).getD k (0, ⟨#[]⟩)).2 = tx l k := by
  unfold itemsTo
  rw [List.getD_eq_getElem?_getD, List.getElem?_map, List.getElem?_range h]; rfl
theorem its_len (l : List (ByteArray × Int)) : (itemsTo l l.length).length = l.length := by simp [itemsTo]
theorem no10_simp {t : ByteArray} (h : simp false t = true) : (10 : UInt8) ∉ t.data.toList := fun hb => by
  have := simp_bytes h _ hb
  simp at this
theorem its_mem (l : List (ByteArray × Int)) (x : Int × ByteArray) (h : x ∈ itemsTo l l.length) : ∃ k, k < l.length ∧ x = (lv l k, tx l k) := by
  unfold itemsTo at h
  obtain ⟨k, hk, rfl⟩ := List.mem_map.1 h
  exact ⟨k, by simpa using hk, rfl⟩
/-- A connected style. -/
def Lcd (m : Nat) (l : List (ByteArray × Int)) : LD := ⟨spaces (Lib.runeCount (cs m 3)), cs m 0, cs m 1, cs m 2, cs m 2, cs m 3, cs m 4, ⟨#[10]⟩, ⟨#[]⟩, itemsTo l l.length⟩
def bmi (i : Nat) : Nat := match i with | 0 => 0 | 1 => 1 | 2 => 2 | 3 => 2 | _ => 4
def bm (m i : Nat) : ByteArray := cs m (bmi i)
theorem lt4 {m : Nat} (h : m < 4) : m = 0 ∨ m = 1 ∨ m = 2 ∨ m = 3 := by omega
theorem lt5 {m : Nat} (h : m < 5) : m = 0 ∨ m = 1 ∨ m = 2 ∨ m = 3 ∨ m = 4 := by omega
theorem cs_facts (m k : Nat) (hm : m < 4) (hk : k < 5) : (cs m k).size ≤ 7 ∧ simp false (cs m k) = true := by
  rcases lt4 hm with rfl | rfl | rfl | rfl <;> rcases lt5 hk with rfl | rfl | rfl | rfl | rfl <;> exact ⟨by decide, by decide +kernel⟩
theorem rc3 (m : Nat) (hm : m < 4) : Lib.runeCount (cs m 3) = 3 ∧ nw (cs m 3) = true := by
  rcases lt4 hm with rfl | rfl | rfl | rfl <;> exact ⟨by decide +kernel, by decide +kernel⟩
theorem sp3 : spaces 3 = ⟨#[32, 32, 32]⟩ := rfl
theorem backs (m : Nat) (hm : m < 4) : BackS (cs m 3) (spaces (Lib.runeCount (cs m 3))) (bm m) := by
  rw [(rc3 m hm).1, sp3]
  refine ⟨?_, ?_, by decide, ?_, ?_, ?_, ?_, ?_⟩
  · rcases lt4 hm with rfl | rfl | rfl | rfl <;> decide +kernel
  · have := (cs_facts m 3 hm (by omega)).1; omega
  · intro i hi
    unfold bm
    have hb : bmi i < 5 := by unfold bmi; split <;> omega
    have := (cs_facts m (bmi i) hm hb).1
    omega
  · rcases lt4 hm with rfl | rfl | rfl | rfl <;> (intro rest; rfl)
  · intro i rest hi
    rcases lt4 hm with rfl | rfl | rfl | rfl <;> rcases lt5 hi with rfl | rfl | rfl | rfl | rfl <;> rfl
  · intro i rest hi
    rcases lt4 hm with rfl | rfl | rfl | rfl <;> rcases lt5 hi with rfl | rfl | rfl | rfl | rfl <;> rfl
  · intro i j rest hi hj
    rcases lt4 hm with rfl | rfl | rfl | rfl <;> rcases lt5 hi with rfl | rfl | rfl | rfl | rfl <;> rcases lt5 hj with rfl | rfl | rfl | rfl | rfl <;> first
      | (rw [decide_eq_true (by decide)]; rfl)
      | (rw [decide_eq_false (by decide)]; rfl)
theorem lcd_ok {l : List (ByteArray × Int)} {m : Nat} (hm : m < 4) (hR : RightL l) : (Lcd m l).ok := by
  have hb : ∀ k, k < 5 → (cs m k).size ≤ 1000 := fun k hk => by have := (cs_facts m k hm hk).1; omega
  refine ⟨?_, hb 0 (by omega), hb 1 (by omega), hb 2 (by omega), hb 2 (by omega), hb 3 (by omega), hb 4 (by omega), ?_, ?_, ?_, ?_⟩
  · show (spaces (Lib.runeCount (cs m 3))).size ≤ 1000
    rw [spaces_size, (rc3 m hm).1]; omega
  · show 1 ≤ 1000; omega
  · show 0 ≤ 1000; omega
  · show (itemsTo l l.length).length ≤ 1000
    rw [its_len]; have := hR.2; omega
  · intro x hx
    obtain ⟨k, hk, rfl⟩ := its_mem l x hx
    have := hR.1 k hk
    have := hR.2
    exact ⟨by omega, by show lv l k ≤ 1000; omega, by show (tx l k).size ≤ 1000; omega⟩
theorem lcd_fin {l : List (ByteArray × Int)} {m : Nat} (hR : RightL l) (k : Nat) (hk : k < l.length) : fin (Lcd m l) (txt (Lcd m l) k) = tx l k := by
  have htx : txt (Lcd m l) k = tx l k := its_tx l k hk
  unfold fin
  rw [htx, if_neg (fun h => no10_simp (hR.1 k hk).2.2.2.2 h.1)]
theorem lcd_zat (l : List (ByteArray × Int)) (m j : Nat) : zat (Lcd m l).lvs j = lv l j := by
  rw [show (Lcd m l).lvs = lvs l from its_lvs l, lvs_at]
theorem lcd_fits {l : List (ByteArray × Int)} {m : Nat} (hR : RightL l) : (Lcd m l).fits := by
  have hd : (Lcd m l).its.length = l.length := its_len l
  refine ⟨by rw [hd]; exact hR.2, fun k hk => ?_, fun k hk => ?_, fun k hk => ?_⟩
  · rw [hd] at hk
    rw [lcd_zat]
    have := hR.1 k hk
    have := hR.2
    omega
  · rw [hd] at hk
    rw [lcd_fin hR k hk]
    have := (hR.1 k hk).2.2.2.1
    omega
  · rw [hd] at hk
    rw [lcd_fin hR k hk]
    exact no10_simp (hR.1 k hk).2.2.2.2
theorem bul_is (m : Nat) (l : List (ByteArray × Int)) (top first only last bottom : Bool) : ∃ i, i < 5 ∧ bulS (Lcd m l) top first only last bottom = bm m i := by
  unfold bulS
  repeat' split
  · exact ⟨0, by omega, rfl⟩
  · exact ⟨4, by omega, rfl⟩
  · exact ⟨1, by omega, rfl⟩
  · exact ⟨2, by omega, rfl⟩
  · exact ⟨4, by omega, rfl⟩
  · exact ⟨4, by omega, rfl⟩
  · exact ⟨3, by omega, rfl⟩
theorem rt_pfx (m : Nat) (hm : m < 4) (l : List (ByteArray × Int)) (idx : Nat) : ∀ k, RT (pfxS (Lcd m l) idx k)
  | 0 => by
    have : pfxS (Lcd m l) idx 0 = [] := by simp [pfxS, Lcd]
    rw [this]; exact RT.nil
  | k + 1 => by
    rw [pfxS_succ]
    refine RT.app (rt_pfx m hm l idx k) ?_
    split
    · exact RT.text (cs_facts m 3 hm (by omega)).2
    · exact RT.blank _
theorem lcd_line {l : List (ByteArray × Int)} {m : Nat} (hm : m < 4) (hR : RightL l) (k : Nat) (hk : k < l.length) :
    RT (lineB (Lcd m l) k) ∧ BackL (cs m 3) (spaces (Lib.runeCount (cs m 3))) (bm m) (lineB (Lcd m l) k) (tx l k) (lv l k) ∧ (lineB (Lcd m l) k).length ≤ 100000 := by
  have hq := hR.1 k hk
  have h60 := hR.2
  have hlev : levN (Lcd m l) k = (lv l k).toNat := by unfold levN; rw [lcd_zat]
  obtain ⟨i, hi, hbul⟩ := bul_is m l (topB k) (firstB (Lcd m l) k) (firstB (Lcd m l) k && lastB (Lcd m l) k) (lastB (Lcd m l) k) (botB (Lcd m l) k)
  have hb : bmi i < 5 := by unfold bmi; split <;> omega
  have hcs := cs_facts m (bmi i) hm hb
  have hpl := pfxS_len (Lcd m l) (lcd_ok hm hR) k (lv l k).toNat
  unfold lineB
  rw [hbul, hlev, lcd_fin hR k hk]
  refine ⟨?_, ⟨?_⟩, ?_⟩
  · exact RT.app (rt_pfx m hm l k _) (RT.app (RT.text hcs.2) (RT.app (RT.text (s := ⟨#[32]⟩) (by decide +kernel)) (RT.text hq.2.2.2.2)))
  · refine ⟨(List.range (lv l k).toNat).map (fun (lev : Nat) => if more (lev : Int) ((Lcd m l).lvs.drop (k + 1)) then cs m 3 else spaces (Lib.runeCount (cs m 3))), i, ?_, ?_, ?_, ?_, hi⟩
    · unfold pfxS
      rw [List.flatMap_map]
      rfl
    · intro p hp
      obtain ⟨x, _, rfl⟩ := List.mem_map.1 hp
      split
      · exact .inl rfl
      · exact .inr rfl
    · simp; omega
    · simp; omega
  · have hbs : (bm m i).size ≤ 7 := hcs.1
    simp only [List.length_append, ← Lib.size_eq, List.length_cons, List.length_nil]
    omega
end Go.Proofs.YthdkbokdikhojaaGreatDoor
