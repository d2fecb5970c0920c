/- Title: the walk of the package's Title at ASCII texts that neither begin nor end with a space behind the turning of signs. Texts of 1 to 1000 letters. -/
import Derived.Test.YtebgbeahlodihaaDoorProg
import Derived.Test.YtebgbeahlodihaaDoorShelf
import Derived.Test.YtebgbeahlodihaaDoorTiP
import Derived.Test.YtebgbeahlodihaaDoorIter
import Derived.Lib.SmallJoins
import Derived.WalkKit
import Derived.Handy
import Derived.BigQuiet
namespace Go.Proofs.YtebgbeahlodihaaDoor
open Go.RowKit
set_option linter.unusedVariables false
theorem halt_T {p : Prop} (h : Hid p) : p := h
theorem resume_T {p : Prop} (h : p) : Hid p := h
theorem numSp_any (c : UInt8) (w : World) : Calls Tryd.prog 15 #[.int .i32 (c.toNat : Int)] w fun e w' => e = .returned (.bool (!nd c)) ∧ w = w' := by
  have hc : (c.toNat = 32) ∨ (48 ≤ c.toNat ∧ c.toNat ≤ 57) ∨ (c.toNat < 48 ∧ c.toNat ≠ 32) ∨ (57 < c.toNat) := by omega
  have hv : ∀ b : Bool, nd c = b → Ending.returned (.bool (!nd c)) = Ending.returned (.bool (!b)) := fun b h => by rw [h]
  rcases hc with h | ⟨h1, h2⟩ | ⟨h1, h2⟩ | h1
  · have e : nd c = false := by unfold nd; simp [h]
    rw [e, h]
    go_enter Tryd.func15, Tryd.ntmps15
    go_wp2
    go_ret
    exact ⟨rfl, rfl⟩
  · have e : nd c = false := by unfold nd; simp [h1, h2]
    rw [e]
    have g1 : decide ((48 : Int) ≤ (c.toNat : Int)) = true := decide_eq_true (by omega)
    have g2 : decide ((c.toNat : Int) ≤ 57) = true := decide_eq_true (by omega)
    clear e h1 h2 hv
    generalize (c.toNat : Int) = z at *
    go_enter Tryd.func15, Tryd.ntmps15
    go_wp2_with fail
    go_ret
    exact ⟨rfl, rfl⟩
  · have e : nd c = true := by unfold nd; simp [h2]; omega
    rw [e]
    have g1 : decide ((48 : Int) ≤ (c.toNat : Int)) = false := decide_eq_false (by omega)
    have g2 : ((c.toNat : Int) == 32) = false := by rw [beq_eq_false_iff_ne]; omega
    clear e h1 h2 hv
    generalize (c.toNat : Int) = z at *
    go_enter Tryd.func15, Tryd.ntmps15
    go_wp2_with fail
    go_ret
    exact ⟨rfl, rfl⟩
  · have e : nd c = true := by unfold nd; simp; omega
    rw [e]
    have g1 : decide ((48 : Int) ≤ (c.toNat : Int)) = true := decide_eq_true (by omega)
    have g3 : decide ((c.toNat : Int) ≤ 57) = false := decide_eq_false (by omega)
    have g2 : ((c.toNat : Int) == 32) = false := by rw [beq_eq_false_iff_ne]; omega
    clear e h1 hv
    generalize (c.toNat : Int) = z at *
    go_enter Tryd.func15, Tryd.ntmps15
    go_wp2_with fail
    go_ret
    exact ⟨rfl, rfl⟩
abbrev Spaces (w : World) : Prop := Lib.TabIs Tryd.prog w "strings.asciiSpace" .u8 Lib.asciiSpaceTab
theorem gSpaces : Tryd.prog.globalNamed "strings.asciiSpace" = some 0 := by kernel_rfl
theorem Spaces.stays {w w' : World} (h : Spaces w) (hb : Below w.heap.size w w') : Spaces w' := Go.Joins.tab_stays gSpaces h hb (Nat.le_refl _)
theorem mid_cells {done r : List UInt8} {c : UInt8} : ((done ++ c :: r).map rv)[done.length]? = some (.int .i32 (c.toNat : Int)) := by
  rw [List.getElem?_map, List.getElem?_append_right (Nat.le_refl _)]; simp [rv]
def TitleRet (l : List UInt8) (w : World) (e : Ending) (w' : World) : Prop := e = .returned (.string ⟨(Lib.toUpperA (mt none l)).toArray⟩) ∧ Below w.heap.size w w'
set_option maxHeartbeats 600000 in
set_option maxRecDepth 100000 in
theorem title_any (l : List UInt8) (w : World) (ha : asc l) (h0 : l ≠ []) (hl : l.length ≤ 1000) (ht : Lib.trimSpace (mt none l) = mt none l) (hT : Spaces w) :
    Calls Tryd.prog 13 #[.string ⟨l.toArray⟩] w (TitleRet l w) := by
  obtain ⟨cap, w1, hcv, own0, below0⟩ := to_runes (P := Tryd.prog) w 9 31 21 l ha (by omega) Tryd.underlying9 Tryd.underlying31 Tryd.underlying21
  have hm : asc (mt none l) := mt_asc l none ha
  have hml := mt_length l none
  have hsz := mk_size l
  have HM := Lib.hid hm
  have HT := Lib.hid (fun W (hb : Below w.heap.size w W) => Tryd.strings_TrimSpace ⟨(mt none l).toArray⟩ W (by rw [mk_size]; omega) (fun j b hj => hm b (List.mem_of_getElem? (by simpa using hj))) (hT.stays hb))
  have HU := Lib.hid (fun W => Tryd.strings_ToUpper_ascii ⟨(mt none l).toArray⟩ W (by rw [mk_size]; omega) (fun j b hj => hm b (List.mem_of_getElem? (by simpa using hj))))
  simp only [ht] at HT HU
  have hn : 0 < l.length := List.length_pos_iff.2 h0
  generalize hnn : l.length = n at *
  have HL := Lib.hid hnn
  have HB0 := Lib.hid below0
  clear below0 ha h0 ht hT hm hnn
  go_enter Tryd.func13, Tryd.ntmps13
  go_wp2_with fail
  go_loopw [13] (fun iv wr => ∃ (done rest : List UInt8), done.length + rest.length = n ∧ iv = .int .i64 (done.length : Int) ∧ Hid (mt none l = done ++ mt done.getLast? rest) ∧ wr.ownsRow w.heap.size 21 1 (.slice (some ⟨w.heap.size, 0, none⟩) n cap) n ((done ++ rest).map rv) ∧ Hid (Below w.heap.size w wr)) (fun iv _ => n - (intOf iv).toNat)
  case atStart => exact ⟨[], l, by simpa using HL.out, rfl, Lib.hid rfl, own0, HB0⟩
  case round =>
    obtain ⟨done, rest, hlen, rfl, hmt, hown, HB⟩ := hrel
    obtain ⟨wo, rfl⟩ : ∃ wo : World, wo = wr := ⟨_, rfl⟩
    cases rest with
    | nil =>
      have hdn : done.length = n := by simpa using hlen
      have hfin : mt none l = done := by rw [hmt.out]; simp [mt]
      rw [List.append_nil, ← hfin] at hown
      have hcv2 := of_runes (P := Tryd.prog) HM.out (by rw [hml]) Tryd.underlying31 Tryd.underlying21 Tryd.underlying9 hown
      have HX := Lib.hid (HT.out wo HB.out)
      have hms := mk_size (mt none l)
      rw [hml] at hms
      clear hown hmt hlen
      clear hfin
      obtain ⟨m, hmm⟩ : ∃ m, m = mt none l := ⟨_, rfl⟩
      rw [← hmm] at HU HM hms hml hcv2 HX
      have HMm := Lib.hid hmm.symm
      clear HT HB0 hcv own0 hmm
      go_wp2_with (go_at_call 16; refine halt_T ?_)
      refine resume_T ?_
      refine HX.out.mono ?_
      rintro e w2 ⟨rfl, hw⟩
      have HW := Lib.hid (show Below w.heap.size w w2 by rw [hw]; exact HB.out.trans (Go.Joins.below_bytesWorld _ _ _ _ HB.out.size))
      have HU2 := Lib.hid (HU.out w2)
      clear hw HX hcv2 HU
      go_wp2_with (go_at_call 17; refine halt_T ?_)
      refine resume_T ?_
      refine HU2.out.mono ?_
      rintro e w3 ⟨rfl, hb⟩
      have HB3 := Lib.hid (HW.out.trans (hb.mono HW.out.size))
      clear hb
      go_wp2_with fail
      go_ret
      exact ⟨by rw [HMm.out]; rfl, HB3.out⟩
    | cons c r =>
      have HN := Lib.hid (mt_step hmt.out)
      have hci : wo.cell? ⟨w.heap.size, done.length, none⟩ = some (.int .i32 (c.toNat : Int)) := by
        rw [hown.cellAt done.length (by simp at hlen; omega)]
        exact mid_cells
      have hkn : done.length < n := by simp at hlen; omega
      have hfr := hown.frozenAt done.length
      obtain ⟨st1, st2⟩ := hown.stored done.length (.int .i32 32)
      have hset : ((done ++ c :: r).map rv).set done.length (.int .i32 32) = ((done ++ [32]) ++ r).map rv := by simp [rv]
      rw [hset] at st1
      have HS := Lib.hid st1
      have HB2 := Lib.hid (HB.out.setCell (p := ⟨w.heap.size, done.length, none⟩) (Nat.le_refl _) (.int .i32 32))
      have HO := Lib.hid (show wo.ownsRow w.heap.size 21 1 (.slice (some ⟨w.heap.size, 0, none⟩) n cap) n (((done ++ [c]) ++ r).map rv) by simpa using hown)
      have HL2 := Lib.hid (fun d : UInt8 => show (done ++ [d]).length + r.length = n by simp at hlen ⊢; omega)
      have hlc : ∀ d : UInt8, ((done ++ [d]).length : Int) = (done.length : Int) + 1 := fun d => by simp
      have HLC := Lib.hid hlc
      clear st1 st2 hset hlc HT HU HB0 hcv own0 hmt
      by_cases h95 : c = 95
      · have HD := Lib.hid (show mk1 done.getLast? c r.head? = 32 by unfold mk1; rw [if_pos h95])
        have hz : ((c.toNat : Int) == 95) = true := by subst h95; decide
        clear hown h95
        generalize hk : done.length = k at *
        generalize (c.toNat : Int) = z at *
        go_wp2_with fail
        go_roundw
        case rel => exact ⟨done ++ [32], r, HL2.out 32, by rw [HLC.out], Lib.hid (by rw [← HD.out]; exact HN.out), HS.out, HB2⟩
        case measure => simp [intOf]; omega
      · by_cases h46 : c = 46
        · subst h46
          have hzc : wo.cell? ⟨w.heap.size, done.length, none⟩ = some (.int .i32 46) := hci
          clear hci
          have HX := Lib.hid (fun (q : List UInt8) (x : UInt8) (hd : done = q ++ [x]) => show wo.cell? ⟨w.heap.size, done.length - 1, none⟩ = some (.int .i32 (x.toNat : Int)) by
            rw [hown.cellAt (done.length - 1) (by omega)]
            rw [hd]; simp [rv])
          have HY := Lib.hid (fun (y : UInt8) (t : List UInt8) (hr : r = y :: t) => show wo.cell? ⟨w.heap.size, done.length + 1, none⟩ = some (.int .i32 (y.toNat : Int)) by
            rw [hown.cellAt (done.length + 1) (by rw [hr] at hlen; simp at hlen; omega)]
            rw [hr]; simp [rv])
          have hDr : r = [] ∨ ∃ y t, r = y :: t := by cases r with | nil => exact .inl rfl | cons y t => exact .inr ⟨y, t, rfl⟩
          clear hown
          rcases List.eq_nil_or_concat done with hd | ⟨q, x, hd⟩
          · have hP : ndO done.getLast? = false := by rw [hd]; rfl
            have hk0 : ((done.length : Int) != 0) = false := by rw [hd]; rfl
            clear hd HX
            rcases hDr with hr | ⟨y, t, hr⟩
            · have HD := Lib.hid (show mk1 done.getLast? 46 r.head? = 46 by unfold mk1; rw [if_neg (by decide), if_pos rfl, hP, hr]; rfl)
              have hg : ((done.length : Int) != (n : Int) - 1) = false := by rw [bne_eq_false_iff_eq]; rw [hr] at hlen; simp at hlen; omega
              clear hlen hP hr
              generalize hk : done.length = k at *
              go_wp2_with fail
              go_roundw
              case rel => exact ⟨done ++ [46], r, HL2.out 46, by rw [HLC.out], Lib.hid (by have := HN.out; rw [HD.out] at this; exact this), HO.out, HB⟩
              case measure => simp [intOf]; omega
            · have hg : ((done.length : Int) != (n : Int) - 1) = true := by rw [bne_iff_ne]; rw [hr] at hlen; simp at hlen; omega
              have hb1 : done.length + 1 < n := by rw [hr] at hlen; simp at hlen; omega
              have hcy := HY.out y t hr
              have HQ := Lib.hid (fun W => numSp_any y W)
              cases hy : nd y with
              | true =>
                have HD := Lib.hid (show mk1 done.getLast? 46 r.head? = 32 by unfold mk1; rw [if_neg (by decide), if_pos rfl, hP, hr]; simp [ndO, hy])
                rw [hy] at HQ
                clear hlen hP hr hy
                generalize hk : done.length = k at *
                generalize (y.toNat : Int) = yz at *
                go_wp2_with (go_at_call 15; refine halt_T ?_)
                refine resume_T ?_
                refine (HQ.out _).mono ?_
                rintro e w2 ⟨rfl, rfl⟩
                go_wp2_with fail
                go_roundw
                case rel => exact ⟨done ++ [32], r, HL2.out 32, by rw [HLC.out], Lib.hid (by rw [← HD.out]; exact HN.out), HS.out, HB2⟩
                case measure => simp [intOf]; omega
              | false =>
                have HD := Lib.hid (show mk1 done.getLast? 46 r.head? = 46 by unfold mk1; rw [if_neg (by decide), if_pos rfl, hP, hr]; simp [ndO, hy])
                rw [hy] at HQ
                clear hlen hP hr hy
                generalize hk : done.length = k at *
                generalize (y.toNat : Int) = yz at *
                go_wp2_with (go_at_call 15; refine halt_T ?_)
                refine resume_T ?_
                refine (HQ.out _).mono ?_
                rintro e w2 ⟨rfl, rfl⟩
                go_wp2_with fail
                go_roundw
                case rel => exact ⟨done ++ [46], r, HL2.out 46, by rw [HLC.out], Lib.hid (by have := HN.out; rw [HD.out] at this; exact this), HO.out, HB⟩
                case measure => simp [intOf]; omega
          · have hk0 : ((done.length : Int) != 0) = true := by rw [bne_iff_ne, hd]; simp; omega
            have hk1 : 1 ≤ done.length := by rw [hd]; simp
            have hcx := HX.out q x (by simpa using hd)
            have HP := Lib.hid (fun W => numSp_any x W)
            cases hx : nd x with
            | true =>
              have HD := Lib.hid (show mk1 done.getLast? 46 r.head? = 32 by unfold mk1; rw [if_neg (by decide), if_pos rfl, hd]; simp [ndO, hx])
              rw [hx] at HP
              clear hlen hd hx HX HY hDr
              generalize hk : done.length = k at *
              generalize (x.toNat : Int) = xz at *
              go_wp2_with (go_at_call 15; refine halt_T ?_)
              refine resume_T ?_
              refine (HP.out _).mono ?_
              rintro e w2 ⟨rfl, rfl⟩
              go_wp2_with fail
              go_roundw
              case rel => exact ⟨done ++ [32], r, HL2.out 32, by rw [HLC.out], Lib.hid (by rw [← HD.out]; exact HN.out), HS.out, HB2⟩
              case measure => simp [intOf]; omega
            | false =>
              have hP : ndO done.getLast? = false := by rw [hd]; simp [ndO, hx]
              rw [hx] at HP
              clear hd hx HX
              generalize (x.toNat : Int) = xz at *
              rcases hDr with hr | ⟨y, t, hr⟩
              · have HD := Lib.hid (show mk1 done.getLast? 46 r.head? = 46 by unfold mk1; rw [if_neg (by decide), if_pos rfl, hP, hr]; rfl)
                have hg : ((done.length : Int) != (n : Int) - 1) = false := by rw [bne_eq_false_iff_eq]; rw [hr] at hlen; simp at hlen; omega
                clear hlen hP hr
                generalize hk : done.length = k at *
                go_wp2_with (go_at_call 15; refine halt_T ?_)
                refine resume_T ?_
                refine (HP.out _).mono ?_
                rintro e w2 ⟨rfl, rfl⟩
                go_wp2_with fail
                go_roundw
                case rel => exact ⟨done ++ [46], r, HL2.out 46, by rw [HLC.out], Lib.hid (by have := HN.out; rw [HD.out] at this; exact this), HO.out, HB⟩
                case measure => simp [intOf]; omega
              · have hg : ((done.length : Int) != (n : Int) - 1) = true := by rw [bne_iff_ne]; rw [hr] at hlen; simp at hlen; omega
                have hb1 : done.length + 1 < n := by rw [hr] at hlen; simp at hlen; omega
                have hcy := HY.out y t hr
                have HQ := Lib.hid (fun W => numSp_any y W)
                cases hy : nd y with
                | true =>
                  have HD := Lib.hid (show mk1 done.getLast? 46 r.head? = 32 by unfold mk1; rw [if_neg (by decide), if_pos rfl, hP, hr]; simp [ndO, hy])
                  rw [hy] at HQ
                  clear hlen hP hr hy
                  generalize hk : done.length = k at *
                  generalize (y.toNat : Int) = yz at *
                  go_wp2_with (go_at_call 15; refine halt_T ?_)
                  refine resume_T ?_
                  refine (HP.out _).mono ?_
                  rintro e w2 ⟨rfl, rfl⟩
                  go_wp2_with (go_at_call 15; refine halt_T ?_)
                  refine resume_T ?_
                  refine (HQ.out _).mono ?_
                  rintro e w2 ⟨rfl, rfl⟩
                  go_wp2_with fail
                  go_roundw
                  case rel => exact ⟨done ++ [32], r, HL2.out 32, by rw [HLC.out], Lib.hid (by rw [← HD.out]; exact HN.out), HS.out, HB2⟩
                  case measure => simp [intOf]; omega
                | false =>
                  have HD := Lib.hid (show mk1 done.getLast? 46 r.head? = 46 by unfold mk1; rw [if_neg (by decide), if_pos rfl, hP, hr]; simp [ndO, hy])
                  rw [hy] at HQ
                  clear hlen hP hr hy
                  generalize hk : done.length = k at *
                  generalize (y.toNat : Int) = yz at *
                  go_wp2_with (go_at_call 15; refine halt_T ?_)
                  refine resume_T ?_
                  refine (HP.out _).mono ?_
                  rintro e w2 ⟨rfl, rfl⟩
                  go_wp2_with (go_at_call 15; refine halt_T ?_)
                  refine resume_T ?_
                  refine (HQ.out _).mono ?_
                  rintro e w2 ⟨rfl, rfl⟩
                  go_wp2_with fail
                  go_roundw
                  case rel => exact ⟨done ++ [46], r, HL2.out 46, by rw [HLC.out], Lib.hid (by have := HN.out; rw [HD.out] at this; exact this), HO.out, HB⟩
                  case measure => simp [intOf]; omega
        · have HD := Lib.hid (show mk1 done.getLast? c r.head? = c by unfold mk1; rw [if_neg h95, if_neg h46])
          have hz : ((c.toNat : Int) == 95) = false := by rw [beq_eq_false_iff_ne]; exact fun e => h95 (UInt8.toNat_inj.1 (by show _ = 95; omega))
          have hz2 : ((c.toNat : Int) == 46) = false := by rw [beq_eq_false_iff_ne]; exact fun e => h46 (UInt8.toNat_inj.1 (by show _ = 46; omega))
          have HCC := Lib.hid (show mt none l = (done ++ [c]) ++ mt (done ++ [c]).getLast? r by have := HN.out; rw [HD.out] at this; exact this)
          clear hown h95 h46 HN HD
          generalize hk : done.length = k at *
          generalize (c.toNat : Int) = z at *
          go_wp2_with fail
          go_roundw
          case rel => exact ⟨done ++ [c], r, HL2.out c, by rw [HLC.out], HCC, HO.out, HB⟩
          case measure => simp [intOf]; omega
end Go.Proofs.YtebgbeahlodihaaDoor
