/- Rendering a list: Render. Lists of at most 60 items, texts of at most 1000 bytes. -/
import Derived.Test.YthdkbokdikhojaaGreatDoorLdC
import Derived.Deep.RegionHeld3
import Derived.Deep.DeepCutAuto
import Derived.Deep.CutBlock
import Derived.IntWalk
namespace Go.Proofs.YthdkbokdikhojaaGreatDoor
open Go.RowKit
set_option linter.unusedVariables false
def levN (D : LD) (k : Nat) : Nat := (zat D.lvs k).toNat
def txt (D : LD) (k : Nat) : ByteArray := (D.its.getD k (0, ⟨#[]⟩)).2
def topB (k : Nat) : Bool := decide (k = 0)
def firstB (D : LD) (k : Nat) : Bool := decide (k = 0 ∨ zat D.lvs (k - 1) < zat D.lvs k)
def lastB (D : LD) (k : Nat) : Bool := !more (zat D.lvs k) (D.lvs.drop (k + 1))
def botB (D : LD) (k : Nat) : Bool := decide (k + 1 = D.its.length)
def drawnTo (D : LD) : Nat → List UInt8
  | 0 => []
  | k + 1 => drawnTo D k ++ lineL D k (levN D k) (topB k) (firstB D k) (firstB D k && lastB D k) (lastB D k) (botB D k) (fin D (txt D k))
/-- What a list must be, so that it is drawn line by line. -/
structure LD.fits (D : LD) : Prop where
  few : D.its.length ≤ 60
  lev : ∀ k, k < D.its.length → 0 ≤ zat D.lvs k ∧ zat D.lvs k ≤ 60
  sz : ∀ k, k < D.its.length → (fin D (txt D k)).size ≤ 300000
  no10 : ∀ k, k < D.its.length → (10 : UInt8) ∉ (fin D (txt D k)).data.toList
theorem bulS_len (D : LD) (hD : D.ok) (top first only last bottom : Bool) : (bulS D top first only last bottom).size ≤ 1000 := by
  have h1 := hD.h1; have h2 := hD.h2; have h3 := hD.h3; have h4 := hD.h4; have h6 := hD.h6
  unfold bulS; repeat' split
  all_goals assumption
theorem lineL_len (D : LD) (hD : D.ok) (idx n : Nat) (hn : n ≤ 60) (top first only last bottom : Bool) (t : ByteArray) (ht : t.size ≤ 300000) : (lineL D idx n top first only last bottom t).length ≤ 400000 := by
  have h1 := pfxS_len D hD idx n
  have h2 := bulS_len D hD top first only last bottom
  have h3 : (if idx = 0 then ([] : List UInt8) else [10]).length ≤ 1 := by split <;> simp
  unfold lineL
  simp only [List.length_append, ← Lib.size_eq, List.length_cons, List.length_nil]
  omega
theorem drawnTo_len (D : LD) (hD : D.ok) (hF : D.fits) : ∀ k, k ≤ D.its.length → (drawnTo D k).length ≤ k * 400000
  | 0, _ => by simp [drawnTo]
  | k + 1, h => by
    have h1 := drawnTo_len D hD hF k (by omega)
    have hl := hF.lev k (by omega)
    have h2 := lineL_len D hD k (levN D k) (by unfold levN; omega) (topB k) (firstB D k) (firstB D k && lastB D k) (lastB D k) (botB D k) (fin D (txt D k)) (hF.sz k (by omega))
    rw [drawnTo, List.length_append]; omega
theorem Sc.make {b gl gs : Nat} {a : Int} {css : ByteArray} {lev : Int} {A : Option Addr} {cap : Nat} {D : LD} {w : World} {B : Nat} {s9 : ByteArray} (hb : b = w.heap.size) (hgl : w.heap[gl]? = some (lstO a D.sp css (.slice A D.its.length cap) lev (some ⟨gs, 0, none⟩))) (hgs : w.heap[gs]? = some (styO 0 D.s1 D.s2 D.s3 D.s4 D.s5 D.s6 D.s7 D.s8 s9)) (hI : Items w B (.slice A D.its.length cap) D.its) :
    Sc b gl gs A cap D w := by
  subst hb
  obtain ⟨A', cap', e, hc1, hc2⟩ := hI.form
  injection e with e1 e2 e3
  subst e3
  refine ⟨(Array.getElem?_eq_some_iff.1 hgl).1, (Array.getElem?_eq_some_iff.1 hgs).1, ⟨a, css, lev, hgl⟩, ⟨s9, hgs⟩, fun k hk => ?_, hc1, hc2⟩
  obtain ⟨g, p, e, hg, hp, h1, h2⟩ := hI.at_ hk
  exact ⟨g, p, e, World.block_lt_of_cell? _ _ h1, (Array.getElem?_eq_some_iff.1 h2).1, h1, h2⟩
set_option maxRecDepth 100000 in
theorem rnd_any (gl b : Nat) (l : List UInt8) (w : World) (hB : Bld b b l w) :
    Calls Tryz.prog 47 #[.pointer (some ⟨gl, 0, none⟩), .pointer (some ⟨b, 0, none⟩)] w fun e w' => e = .returned (.string ⟨l.toArray⟩) ∧ Below b w w' := by
  have hb := hB.lt'
  have H := Lib.hid (Tryz.Builder_String_any_f b b l w hB (by omega))
  clear hB
  go_enter Tryz.func47, Tryz.ntmps47
  go_wp2_with (go_at_call 64; refine H.out.mono ?_; rintro e w1 ⟨rfl, k1, k2⟩; have K2 := Lib.hid k2; clear k1 k2)
  go_ret
  exact ⟨rfl, K2.out⟩
def Sd (b gl gs : Nat) (A : Option Addr) (cap : Nat) (D : LD) (w : World) : Prop := Sc b gl gs A cap D w ∧ b ≤ w.heap.size
theorem Sd.dr {b gl gs : Nat} {A : Option Addr} {cap : Nat} {D : LD} {w : World} (h : Hid (Sd b gl gs A cap D w)) : Hid (Sd b gl gs A cap D w.drew) := Lib.hid ⟨h.out.1.below ⟨rfl, rfl, rfl, Nat.le_refl _, fun _ _ => rfl⟩, h.out.2⟩
theorem Sd.al {b gl gs : Nat} {A : Option Addr} {cap : Nat} {D : LD} {w : World} (o : Obj) (h : Hid (Sd b gl gs A cap D w)) : Hid (Sd b gl gs A cap D (w.alloc o)) := Lib.hid ⟨h.out.1.below ((Below.refl b w).alloc h.out.2 o), by have := h.out.2; simp; omega⟩
theorem Sd.st {b gl gs : Nat} {A : Option Addr} {cap : Nat} {D : LD} {w : World} (q j : Nat) (v : Value) (hq : b ≤ q) (h : Hid (Sd b gl gs A cap D w)) : Hid (Sd b gl gs A cap D (w.setCell ⟨q, j, none⟩ v)) := Lib.hid ⟨h.out.1.below ((Below.refl b w).setCell (p := ⟨q, j, none⟩) hq v), by have := h.out.2; simpa using this⟩
set_option maxHeartbeats 8000000 in
set_option maxRecDepth 100000 in
theorem render_any (gl gs B : Nat) (a : Int) (sp css : ByteArray) (v : Value) (lev : Int) (its : List (Int × ByteArray)) (s1 s2 s3 s4 s5 s6 s7 s8 s9 : ByteArray) (w : World) (D : LD)
    (hDe : D = ⟨spaces (Lib.runeCount s5), s1, s2, s3, s4, s5, s6, s7, s8, its⟩) (hD : D.ok) (hF : D.fits)
    (hgl : w.heap[gl]? = some (lstO a sp css v lev (some ⟨gs, 0, none⟩))) (hgs : w.heap[gs]? = some (styO 0 s1 s2 s3 s4 s5 s6 s7 s8 s9)) (hne : gs ≠ gl) (hB : gl < B) (hI : Items w B v its) :
    Calls Tryz.prog 33 #[.pointer (some ⟨gl, 0, none⟩)] w fun e w' => e = .returned (.string ⟨(drawnTo D its.length).toArray⟩) ∧ Below gl w w' := by
  have HI0 := Lib.hid (init_any gl gs B a sp css v lev its 0 s1 s2 s3 s4 s5 s6 s7 s8 s9 w hgl hgs hne hB hI (by subst hDe; exact hD.h5) (by subst hDe; exact hD.h7) (by subst hDe; exact hD.h8) (by subst hDe; exact hD.hn) (by subst hDe; exact hD.hx))
  have hglt := (Array.getElem?_eq_some_iff.1 hgl).1
  have HI := Lib.hid hI
  have HGS := Lib.hid hgs
  have HD := Lib.hid hD
  have HF := Lib.hid hF
  have HE := Lib.hid hDe
  clear hI hgs hgl hD hF hDe
  go_enter Tryz.func33, Tryz.ntmps33
  go_wp2_with (first
    | (go_at_call 43; refine HI0.out.mono ?_; rintro e w1 ⟨rfl, a', ha0, ha1, hL⟩
       have HLW := Lib.hid hL
       have c0 : (w1.alloc (.cells #[.pointer none, .slice none 0 0] 68)).cell? ⟨gl, 0, none⟩ = some (.int .i64 a') := (hL.alloc _).cell 0
       clear hL)
    | (go_at_call 44; refine halt_L ?_))
  refine resume_L ?_
  obtain ⟨na, hna⟩ : ∃ na : Nat, a' = na := ⟨a'.toNat, by omega⟩
  rw [hna]
  refine (Tryz.Builder_Grow_fresh w1.heap.size w1.heap.size na _ (Nat.le_refl _) (heap_alloc_new w1 _) (by simp) (by omega)).mono ?_
  rintro e w3 ⟨rfl, hbd, hb3⟩
  have hI1 : Items w1 B v its := HI.out.keep (fun k o hk ho => HLW.out.other (by omega) ho)
  have hgs1 := HLW.out.other hne HGS.out
  obtain ⟨A, cap, rfl, hc1, hc2⟩ := hI1.form
  have hS0 : Sc w1.heap.size gl gs A cap D w1 := by
    rw [HE.out]
    exact Sc.make rfl HLW.out.2 hgs1 hI1
  have hS3 : Sc w1.heap.size gl gs A cap D w3 := (hS0.below ((Below.refl _ _).alloc (Nat.le_refl _) _)).below hb3
  have HB3 := Lib.hid (show Bld w1.heap.size w1.heap.size [] w3 from Lib.IsBuilderF.of (.inr hbd))
  have HW3 := Lib.hid (show Below gl w w3 from (((Below.refl gl w).grown HLW.out.1 (Nat.le_of_lt hglt) (fun k hk => by injection hk with hk; omega)).trans (((Below.refl _ _).alloc (Nat.le_refl _) _).mono (Nat.le_of_lt hS0.gl_lt))).trans (hb3.mono (Nat.le_of_lt hS0.gl_lt)))
  have HS3 := Lib.hid hS3
  have c3 := hS3.cells.2.1
  have hDn := Lib.hid (show D.its.length = its.length by rw [HE.out])
  have hfew := HF.out.few
  rw [hDn.out] at c3 hfew
  clear hS0 hS3 hbd hb3 hI1 hgs1 HLW c0 HI HI0 HGS ha0 ha1 hna hB hne
  go_wp2_with fail
  clear c3
  generalize hb : w1.heap.size = b at *
  go_loopw [19] (fun v wr => ∃ k : Nat, k ≤ its.length ∧ v = .int .i64 k ∧ Hid (Bld b b (drawnTo D k) wr) ∧ Hid (Below b w3 wr)) (fun v _ => its.length - (intOf v).toNat)
  case atStart => exact ⟨0, Nat.zero_le _, rfl, HB3, Lib.hid (Below.refl _ _)⟩
  case round =>
    obtain ⟨k, hk, rfl, HBk, HWk⟩ := hrel
    obtain ⟨wo, rfl⟩ : ∃ wo : World, wo = wr := ⟨_, rfl⟩
    by_cases hlt : k < its.length
    · have hS := HS3.out.below HWk.out
      have hkD : k < D.its.length := by rw [hDn.out]; exact hlt
      obtain ⟨g, p, rfl, hg, hp, hcg, hpo⟩ := hS.item k hkD
      have ez : (D.its[k]).1 = zat D.lvs k := by simp [zat, LD.lvs, hkD]
      have et : (D.its[k]).2 = txt D k := by simp [txt, hkD]
      rw [ez, et] at hpo
      obtain ⟨z0, z1⟩ := HF.out.lev k hkD
      have c3 := hS.cells.2.1
      rw [hDn.out] at c3
      have p0 : wo.cell? ⟨p, 0, none⟩ = some (.int .i64 (zat D.lvs k)) := cell_of_row wo p 0 _ 72 (0, 0) hpo
      have HPO := Lib.hid hpo
      have HS := Lib.hid hS
      have hgl := hS.gl_lt
      have hbo := HBk.out.lt'
      have g19 : decide ((k : Int) < (its.length : Int)) = true := decide_eq_true (by omega)
      clear ez et hpo hS
      go_upto_region 7 with fail
      go_cut [6] from 24 to 62 (fun v wx => ∃ q : Nat, v = .pointer (some ⟨q, 0, none⟩) ∧ wo.heap.size ≤ q ∧ Hid (wx.heap[q]? = some (.cells #[.bool (topB k), .bool (firstB D k), .bool false, .bool (lastB D k), .bool (botB D k)] 75 (0, 0))) ∧ Hid (Below wo.heap.size wo wx))
      case first =>
        have HM := Lib.hid (fun (w' : World) (hs : Sc b gl gs (some ⟨g, 0, none⟩) cap D w') => more_any b gl gs _ cap D (zat D.lvs k) k w' hs HD.out hkD)
        have HSd : Hid (Sd b gl gs (some ⟨g, 0, none⟩) cap D wo) := Lib.hid ⟨HS.out, by omega⟩
        have k1 := fun (w' : World) => Sd.dr (b := b) (gl := gl) (gs := gs) (A := some ⟨g, 0, none⟩) (cap := cap) (D := D) (w := w')
        have k2 := fun (w' : World) (o : Obj) => Sd.al (b := b) (gl := gl) (gs := gs) (A := some ⟨g, 0, none⟩) (cap := cap) (D := D) (w := w') o
        have k3 := fun (w' : World) (q j : Nat) (v : Value) => Sd.st (b := b) (gl := gl) (gs := gs) (A := some ⟨g, 0, none⟩) (cap := cap) (D := D) (w := w') q j v
        have hbo2 : b ≤ wo.heap.size := by omega
        have n1 := World.new_ne wo _ c3
        have n2 := World.new_ne wo _ p0
        dsimp only at n1 n2
        have wn : IntKind.i64.wrap ((its.length : Int) - 1) = (its.length : Int) - 1 := IntWalk.i64_in _ (by omega)
        by_cases hk0 : k = 0
        · subst hk0
          have HE0 := Lib.hid (show (#[.bool true, .bool true, .bool false, .bool (!more (zat D.lvs 0) D.lvs.tail), .bool ((0 : Int) == (its.length : Int) - 1)] : Array Value) = #[.bool (topB 0), .bool (firstB D 0), .bool false, .bool (lastB D 0), .bool (botB D 0)] by
            have h1 : topB 0 = true := rfl
            have h2 : firstB D 0 = true := by simp [firstB]
            have h3 : lastB D 0 = !more (zat D.lvs 0) D.lvs.tail := by simp [lastB]
            have h4 : botB D 0 = ((0 : Int) == (its.length : Int) - 1) := by unfold botB; rw [hDn.out, Bool.eq_iff_iff]; simp; omega
            rw [h1, h2, h3, h4])
          clear HD HF HE HB3 HW3 HS3 HBk HWk HPO hc1 hg hcg hp hk hlt hkD z0 z1 hgl hDn hfew g19 HS
          refine wp_region_noPanic ?_
          refine wp_region_held_drew (S := (fun w' => w'.cell? ⟨gl, 3, none⟩ = some (.slice (some ⟨g, 0, none⟩) its.length cap) ∧ w'.cell? ⟨p, 0, none⟩ = some (.int .i64 (zat D.lvs 0)) ∧ Hid (Sd b gl gs (some ⟨g, 0, none⟩) cap D w'))) (by kernel_rfl) (by (try dsimp only); go_keep) (fun hHeld => ?_)
          refine wpAnyH_take (i := 0) (oi := { dst := some 24, op := Op.move (Operand.tmp 4), type := 3, pos := "render.go:23", after := #[], guard := none }) (v := ?v1) rfl (by kernel_rfl) (by kernel_rfl) (by kernel_rfl) (fun _ _ _ h => h) (Or.inl ⟨by rfl, ?hy1⟩) (by assumption) ?_
          case hy1 => (intro w hSw; (try dsimp only at hSw); go_simp; (try with_reducible rfl))
          try simp only [Act.put, List.setIfInBounds_toArray, List.set_cons_zero, List.set_cons_succ]
          refine wpAnyH_take (i := 1) (oi := { dst := some 25, op := Op.binOp BinOp.eql 3 (Operand.tmp 24) (Operand.const (Value.int IntKind.i64 0)) 3, type := 4, pos := "render.go:23", after := #[{ on := 0, ground := Ground.data }], guard := none }) (v := ?v2) rfl (by kernel_rfl) (by kernel_rfl) (by kernel_rfl) (fun _ _ _ h => h) (Or.inl ⟨by rfl, ?hy2⟩) (by assumption) ?_
          case hy2 => (intro w hSw; (try dsimp only at hSw); go_simp; (try with_reducible rfl))
          try simp only [Act.put, List.setIfInBounds_toArray, List.set_cons_zero, List.set_cons_succ]
          refine wpAnyH_take (i := 2) (oi := { dst := some 26, op := Op.move (Operand.tmp 4), type := 3, pos := "render.go:23", after := #[], guard := none }) (v := ?v3) rfl (by kernel_rfl) (by kernel_rfl) (by kernel_rfl) (fun _ _ _ h => h) (Or.inl ⟨by rfl, ?hy3⟩) (by assumption) ?_
          case hy3 => (intro w hSw; (try dsimp only at hSw); go_simp; (try with_reducible rfl))
          try simp only [Act.put, List.setIfInBounds_toArray, List.set_cons_zero, List.set_cons_succ]
          refine wpAnyH_take (i := 3) (oi := { dst := some 27, op := Op.binOp BinOp.eql 3 (Operand.tmp 26) (Operand.const (Value.int IntKind.i64 0)) 3, type := 4, pos := "render.go:23", after := #[{ on := 2, ground := Ground.data }], guard := none }) (v := ?v4) rfl (by kernel_rfl) (by kernel_rfl) (by kernel_rfl) (fun _ _ _ h => h) (Or.inl ⟨by rfl, ?hy4⟩) (by assumption) ?_
          case hy4 => (intro w hSw; (try dsimp only at hSw); go_simp; (try with_reducible rfl))
          try simp only [Act.put, List.setIfInBounds_toArray, List.set_cons_zero, List.set_cons_succ]
          refine wpAnyH_take (i := 4) (oi := { dst := some 28, op := Op.move (Operand.tmp 27), type := 4, pos := "render.go:23", after := #[{ on := 3, ground := Ground.data }], guard := none }) (v := ?v5) rfl (by kernel_rfl) (by kernel_rfl) (by kernel_rfl) (fun _ _ _ h => h) (Or.inl ⟨by rfl, ?hy5⟩) (by assumption) ?_
          case hy5 => (intro w hSw; (try dsimp only at hSw); go_simp; (try with_reducible rfl))
          try simp only [Act.put, List.setIfInBounds_toArray, List.set_cons_zero, List.set_cons_succ]
          refine wpAnyH_take (i := 5) (oi := { dst := some 29, op := Op.move (Operand.tmp 5), type := 70, pos := "render.go:23", after := #[{ on := 4, ground := Ground.guard }], guard := some (4, false) }) (v := undef) rfl (by kernel_rfl) (by kernel_rfl) (by kernel_rfl) (fun _ _ _ h => h) (Or.inr ⟨by rfl, rfl⟩) (by assumption) ?_
          try simp only [Act.put, List.setIfInBounds_toArray, List.set_cons_zero, List.set_cons_succ]
          refine wpAnyH_take (i := 6) (oi := { dst := some 30, op := Op.nilCheck (Operand.tmp 29), type := 0, pos := "render.go:23", after := #[{ on := 5, ground := Ground.data }, { on := 4, ground := Ground.guard }], guard := some (4, false) }) (v := undef) rfl (by kernel_rfl) (by kernel_rfl) (by kernel_rfl) (fun _ _ _ h => h) (Or.inr ⟨by rfl, rfl⟩) (by assumption) ?_
          try simp only [Act.put, List.setIfInBounds_toArray, List.set_cons_zero, List.set_cons_succ]
          refine wpAnyH_take (i := 7) (oi := { dst := some 31, op := Op.fieldAddr 72 (Operand.tmp 30) 0, type := 0, pos := "render.go:23", after := #[{ on := 6, ground := Ground.data }, { on := 4, ground := Ground.guard }], guard := some (4, false) }) (v := undef) rfl (by kernel_rfl) (by kernel_rfl) (by kernel_rfl) (fun _ _ _ h => h) (Or.inr ⟨by rfl, rfl⟩) (by assumption) ?_
          try simp only [Act.put, List.setIfInBounds_toArray, List.set_cons_zero, List.set_cons_succ]
          refine wpAnyH_take (i := 8) (oi := { dst := some 32, op := Op.load 3 (Operand.tmp 31), type := 3, pos := "render.go:23", after := #[{ on := 7, ground := Ground.data }, { on := 4, ground := Ground.guard }], guard := some (4, false) }) (v := undef) rfl (by kernel_rfl) (by kernel_rfl) (by kernel_rfl) (fun _ _ _ h => h) (Or.inr ⟨by rfl, rfl⟩) (by assumption) ?_
          try simp only [Act.put, List.setIfInBounds_toArray, List.set_cons_zero, List.set_cons_succ]
          refine wpAnyH_take (i := 9) (oi := { dst := some 33, op := Op.move (Operand.tmp 0), type := 49, pos := "render.go:23", after := #[{ on := 4, ground := Ground.guard }], guard := some (4, false) }) (v := undef) rfl (by kernel_rfl) (by kernel_rfl) (by kernel_rfl) (fun _ _ _ h => h) (Or.inr ⟨by rfl, rfl⟩) (by assumption) ?_
          try simp only [Act.put, List.setIfInBounds_toArray, List.set_cons_zero, List.set_cons_succ]
          refine wpAnyH_take (i := 10) (oi := { dst := some 34, op := Op.nilCheck (Operand.tmp 33), type := 0, pos := "render.go:23", after := #[{ on := 9, ground := Ground.data }, { on := 4, ground := Ground.guard }], guard := some (4, false) }) (v := undef) rfl (by kernel_rfl) (by kernel_rfl) (by kernel_rfl) (fun _ _ _ h => h) (Or.inr ⟨by rfl, rfl⟩) (by assumption) ?_
          try simp only [Act.put, List.setIfInBounds_toArray, List.set_cons_zero, List.set_cons_succ]
          refine wpAnyH_take (i := 11) (oi := { dst := some 35, op := Op.fieldAddr 62 (Operand.tmp 34) 3, type := 0, pos := "render.go:23", after := #[{ on := 10, ground := Ground.data }, { on := 4, ground := Ground.guard }], guard := some (4, false) }) (v := undef) rfl (by kernel_rfl) (by kernel_rfl) (by kernel_rfl) (fun _ _ _ h => h) (Or.inr ⟨by rfl, rfl⟩) (by assumption) ?_
          try simp only [Act.put, List.setIfInBounds_toArray, List.set_cons_zero, List.set_cons_succ]
          refine wpAnyH_take (i := 12) (oi := { dst := some 36, op := Op.load 59 (Operand.tmp 35), type := 59, pos := "render.go:23", after := #[{ on := 11, ground := Ground.data }, { on := 4, ground := Ground.guard }], guard := some (4, false) }) (v := undef) rfl (by kernel_rfl) (by kernel_rfl) (by kernel_rfl) (fun _ _ _ h => h) (Or.inr ⟨by rfl, rfl⟩) (by assumption) ?_
          try simp only [Act.put, List.setIfInBounds_toArray, List.set_cons_zero, List.set_cons_succ]
          refine wpAnyH_take (i := 13) (oi := { dst := some 37, op := Op.move (Operand.tmp 4), type := 3, pos := "render.go:23", after := #[{ on := 4, ground := Ground.guard }], guard := some (4, false) }) (v := undef) rfl (by kernel_rfl) (by kernel_rfl) (by kernel_rfl) (fun _ _ _ h => h) (Or.inr ⟨by rfl, rfl⟩) (by assumption) ?_
          try simp only [Act.put, List.setIfInBounds_toArray, List.set_cons_zero, List.set_cons_succ]
          refine wpAnyH_take (i := 14) (oi := { dst := some 38, op := Op.binOp BinOp.sub 3 (Operand.tmp 37) (Operand.const (Value.int IntKind.i64 1)) 3, type := 3, pos := "render.go:23", after := #[{ on := 13, ground := Ground.data }, { on := 4, ground := Ground.guard }], guard := some (4, false) }) (v := undef) rfl (by kernel_rfl) (by kernel_rfl) (by kernel_rfl) (fun _ _ _ h => h) (Or.inr ⟨by rfl, rfl⟩) (by assumption) ?_
          try simp only [Act.put, List.setIfInBounds_toArray, List.set_cons_zero, List.set_cons_succ]
          refine wpAnyH_take (i := 15) (oi := { dst := some 39, op := Op.indexAddr 59 (Operand.tmp 36) (Operand.tmp 38), type := 0, pos := "render.go:23", after := #[{ on := 12, ground := Ground.data }, { on := 14, ground := Ground.data }, { on := 4, ground := Ground.guard }], guard := some (4, false) }) (v := undef) rfl (by kernel_rfl) (by kernel_rfl) (by kernel_rfl) (fun _ _ _ h => h) (Or.inr ⟨by rfl, rfl⟩) (by assumption) ?_
          try simp only [Act.put, List.setIfInBounds_toArray, List.set_cons_zero, List.set_cons_succ]
          refine wpAnyH_take (i := 16) (oi := { dst := some 40, op := Op.load 70 (Operand.tmp 39), type := 70, pos := "render.go:23", after := #[{ on := 15, ground := Ground.data }, { on := 4, ground := Ground.guard }], guard := some (4, false) }) (v := undef) rfl (by kernel_rfl) (by kernel_rfl) (by kernel_rfl) (fun _ _ _ h => h) (Or.inr ⟨by rfl, rfl⟩) (by assumption) ?_
          try simp only [Act.put, List.setIfInBounds_toArray, List.set_cons_zero, List.set_cons_succ]
          refine wpAnyH_take (i := 17) (oi := { dst := some 41, op := Op.nilCheck (Operand.tmp 40), type := 0, pos := "render.go:23", after := #[{ on := 16, ground := Ground.data }, { on := 4, ground := Ground.guard }], guard := some (4, false) }) (v := undef) rfl (by kernel_rfl) (by kernel_rfl) (by kernel_rfl) (fun _ _ _ h => h) (Or.inr ⟨by rfl, rfl⟩) (by assumption) ?_
          try simp only [Act.put, List.setIfInBounds_toArray, List.set_cons_zero, List.set_cons_succ]
          refine wpAnyH_take (i := 18) (oi := { dst := some 42, op := Op.fieldAddr 72 (Operand.tmp 41) 0, type := 0, pos := "render.go:23", after := #[{ on := 17, ground := Ground.data }, { on := 4, ground := Ground.guard }], guard := some (4, false) }) (v := undef) rfl (by kernel_rfl) (by kernel_rfl) (by kernel_rfl) (fun _ _ _ h => h) (Or.inr ⟨by rfl, rfl⟩) (by assumption) ?_
          try simp only [Act.put, List.setIfInBounds_toArray, List.set_cons_zero, List.set_cons_succ]
          refine wpAnyH_take (i := 19) (oi := { dst := some 43, op := Op.load 3 (Operand.tmp 42), type := 3, pos := "render.go:23", after := #[{ on := 18, ground := Ground.data }, { on := 4, ground := Ground.guard }], guard := some (4, false) }) (v := undef) rfl (by kernel_rfl) (by kernel_rfl) (by kernel_rfl) (fun _ _ _ h => h) (Or.inr ⟨by rfl, rfl⟩) (by assumption) ?_
          try simp only [Act.put, List.setIfInBounds_toArray, List.set_cons_zero, List.set_cons_succ]
          refine wpAnyH_take (i := 20) (oi := { dst := some 44, op := Op.binOp BinOp.gtr 3 (Operand.tmp 32) (Operand.tmp 43) 3, type := 4, pos := "render.go:23", after := #[{ on := 8, ground := Ground.data }, { on := 19, ground := Ground.data }, { on := 4, ground := Ground.guard }], guard := some (4, false) }) (v := undef) rfl (by kernel_rfl) (by kernel_rfl) (by kernel_rfl) (fun _ _ _ h => h) (Or.inr ⟨by rfl, rfl⟩) (by assumption) ?_
          try simp only [Act.put, List.setIfInBounds_toArray, List.set_cons_zero, List.set_cons_succ]
          refine wpAnyH_take (i := 21) (oi := { dst := some 45, op := Op.pick (Operand.tmp 28) (Operand.const (Value.bool true)) (Operand.tmp 44), type := 4, pos := "render.go:23", after := #[{ on := 4, ground := Ground.data }, { on := 20, ground := Ground.data }], guard := none }) (v := ?v6) rfl (by kernel_rfl) (by kernel_rfl) (by kernel_rfl) (fun _ _ _ h => h) (Or.inl ⟨by rfl, ?hy6⟩) (by assumption) ?_
          case hy6 => (intro w hSw; (try dsimp only at hSw); go_simp; (try with_reducible rfl))
          try simp only [Act.put, List.setIfInBounds_toArray, List.set_cons_zero, List.set_cons_succ]
          refine wpAnyH_take (i := 22) (oi := { dst := some 46, op := Op.move (Operand.tmp 0), type := 49, pos := "render.go:23", after := #[], guard := none }) (v := ?v7) rfl (by kernel_rfl) (by kernel_rfl) (by kernel_rfl) (fun _ _ _ h => h) (Or.inl ⟨by rfl, ?hy7⟩) (by assumption) ?_
          case hy7 => (intro w hSw; (try dsimp only at hSw); go_simp; (try with_reducible rfl))
          try simp only [Act.put, List.setIfInBounds_toArray, List.set_cons_zero, List.set_cons_succ]
          refine wpAnyH_take (i := 23) (oi := { dst := some 47, op := Op.move (Operand.tmp 5), type := 70, pos := "render.go:23", after := #[], guard := none }) (v := ?v8) rfl (by kernel_rfl) (by kernel_rfl) (by kernel_rfl) (fun _ _ _ h => h) (Or.inl ⟨by rfl, ?hy8⟩) (by assumption) ?_
          case hy8 => (intro w hSw; (try dsimp only at hSw); go_simp; (try with_reducible rfl))
          try simp only [Act.put, List.setIfInBounds_toArray, List.set_cons_zero, List.set_cons_succ]
          refine wpAnyH_take (i := 24) (oi := { dst := some 48, op := Op.nilCheck (Operand.tmp 47), type := 0, pos := "render.go:23", after := #[{ on := 23, ground := Ground.data }], guard := none }) (v := ?v9) rfl (by kernel_rfl) (by kernel_rfl) (by kernel_rfl) (fun _ _ _ h => h) (Or.inl ⟨by rfl, ?hy9⟩) (by assumption) ?_
          case hy9 => (intro w hSw; (try dsimp only at hSw); go_simp; (try with_reducible rfl))
          try simp only [Act.put, List.setIfInBounds_toArray, List.set_cons_zero, List.set_cons_succ]
          refine wpAnyH_take (i := 25) (oi := { dst := some 49, op := Op.fieldAddr 72 (Operand.tmp 48) 0, type := 0, pos := "render.go:23", after := #[{ on := 24, ground := Ground.data }], guard := none }) (v := ?v10) rfl (by kernel_rfl) (by kernel_rfl) (by kernel_rfl) (fun _ _ _ h => h) (Or.inl ⟨by rfl, ?hy10⟩) (by assumption) ?_
          case hy10 => (intro w hSw; (try dsimp only at hSw); go_simp; (try with_reducible rfl))
          try simp only [Act.put, List.setIfInBounds_toArray, List.set_cons_zero, List.set_cons_succ]
          refine wpAnyH_take (i := 26) (oi := { dst := some 50, op := Op.load 3 (Operand.tmp 49), type := 3, pos := "render.go:23", after := #[{ on := 25, ground := Ground.data }], guard := none }) (v := ?v11) rfl (by kernel_rfl) (by kernel_rfl) (by kernel_rfl) (fun _ _ _ h => h) (Or.inl ⟨by rfl, ?hy11⟩) (by assumption) ?_
          case hy11 => (intro w hSw; (try dsimp only at hSw); go_simp; (try with_reducible rfl))
          try simp only [Act.put, List.setIfInBounds_toArray, List.set_cons_zero, List.set_cons_succ]
          refine wpAnyH_take (i := 27) (oi := { dst := some 51, op := Op.move (Operand.tmp 4), type := 3, pos := "render.go:23", after := #[], guard := none }) (v := ?v12) rfl (by kernel_rfl) (by kernel_rfl) (by kernel_rfl) (fun _ _ _ h => h) (Or.inl ⟨by rfl, ?hy12⟩) (by assumption) ?_
          case hy12 => (intro w hSw; (try dsimp only at hSw); go_simp; (try with_reducible rfl))
          try simp only [Act.put, List.setIfInBounds_toArray, List.set_cons_zero, List.set_cons_succ]
          refine wpAnyH_take (i := 30) (oi := { dst := some 54, op := Op.move (Operand.tmp 4), type := 3, pos := "render.go:23", after := #[], guard := none }) (v := ?v13) rfl (by kernel_rfl) (by kernel_rfl) (by kernel_rfl) (fun _ _ _ h => h) (Or.inl ⟨by rfl, ?hy13⟩) (by assumption) ?_
          case hy13 => (intro w hSw; (try dsimp only at hSw); go_simp; (try with_reducible rfl))
          try simp only [Act.put, List.setIfInBounds_toArray, List.set_cons_zero, List.set_cons_succ]
          refine wpAnyH_take (i := 31) (oi := { dst := some 55, op := Op.move (Operand.tmp 0), type := 49, pos := "render.go:23", after := #[], guard := none }) (v := ?v14) rfl (by kernel_rfl) (by kernel_rfl) (by kernel_rfl) (fun _ _ _ h => h) (Or.inl ⟨by rfl, ?hy14⟩) (by assumption) ?_
          case hy14 => (intro w hSw; (try dsimp only at hSw); go_simp; (try with_reducible rfl))
          try simp only [Act.put, List.setIfInBounds_toArray, List.set_cons_zero, List.set_cons_succ]
          refine wpAnyH_take (i := 32) (oi := { dst := some 56, op := Op.nilCheck (Operand.tmp 55), type := 0, pos := "render.go:23", after := #[{ on := 31, ground := Ground.data }], guard := none }) (v := ?v15) rfl (by kernel_rfl) (by kernel_rfl) (by kernel_rfl) (fun _ _ _ h => h) (Or.inl ⟨by rfl, ?hy15⟩) (by assumption) ?_
          case hy15 => (intro w hSw; (try dsimp only at hSw); go_simp; (try with_reducible rfl))
          try simp only [Act.put, List.setIfInBounds_toArray, List.set_cons_zero, List.set_cons_succ]
          refine wpAnyH_take (i := 33) (oi := { dst := some 57, op := Op.fieldAddr 62 (Operand.tmp 56) 3, type := 0, pos := "render.go:23", after := #[{ on := 32, ground := Ground.data }], guard := none }) (v := ?v16) rfl (by kernel_rfl) (by kernel_rfl) (by kernel_rfl) (fun _ _ _ h => h) (Or.inl ⟨by rfl, ?hy16⟩) (by assumption) ?_
          case hy16 => (intro w hSw; (try dsimp only at hSw); go_simp; (try with_reducible rfl))
          try simp only [Act.put, List.setIfInBounds_toArray, List.set_cons_zero, List.set_cons_succ]
          refine wpAnyH_take (i := 34) (oi := { dst := some 58, op := Op.load 59 (Operand.tmp 57), type := 59, pos := "render.go:23", after := #[{ on := 33, ground := Ground.data }], guard := none }) (v := ?v17) rfl (by kernel_rfl) (by kernel_rfl) (by kernel_rfl) (fun _ _ _ h => h) (Or.inl ⟨by rfl, ?hy17⟩) (by assumption) ?_
          case hy17 => (intro w hSw; (try dsimp only at hSw); go_simp; (try with_reducible rfl))
          try simp only [Act.put, List.setIfInBounds_toArray, List.set_cons_zero, List.set_cons_succ]
          refine wpAnyH_take (i := 35) (oi := { dst := some 59, op := Op.call { callee := Callee.builtin Builtin.len, args := #[Operand.tmp 58], argTypes := #[59] }, type := 3, pos := "render.go:23", after := #[{ on := 34, ground := Ground.data }], guard := none }) (v := ?v18) rfl (by kernel_rfl) (by kernel_rfl) (by kernel_rfl) (fun _ _ _ h => h) (Or.inl ⟨by rfl, ?hy18⟩) (by assumption) ?_
          case hy18 => (intro w hSw; (try dsimp only at hSw); go_simp; (try with_reducible rfl))
          try simp only [Act.put, List.setIfInBounds_toArray, List.set_cons_zero, List.set_cons_succ]
          refine wpAnyH_take (i := 36) (oi := { dst := some 60, op := Op.binOp BinOp.sub 3 (Operand.tmp 59) (Operand.const (Value.int IntKind.i64 1)) 3, type := 3, pos := "render.go:23", after := #[{ on := 35, ground := Ground.data }], guard := none }) (v := ?v19) rfl (by kernel_rfl) (by kernel_rfl) (by kernel_rfl) (fun _ _ _ h => h) (Or.inl ⟨by rfl, ?hy19⟩) (by assumption) ?_
          case hy19 => (intro w hSw; (try dsimp only at hSw); go_simp; (try with_reducible rfl))
          try simp only [Act.put, List.setIfInBounds_toArray, List.set_cons_zero, List.set_cons_succ]
          refine wpAnyH_take (i := 37) (oi := { dst := some 61, op := Op.binOp BinOp.eql 3 (Operand.tmp 54) (Operand.tmp 60) 3, type := 4, pos := "render.go:23", after := #[{ on := 30, ground := Ground.data }, { on := 36, ground := Ground.data }], guard := none }) (v := ?v20) rfl (by kernel_rfl) (by kernel_rfl) (by kernel_rfl) (fun _ _ _ h => h) (Or.inl ⟨by rfl, ?hy20⟩) (by assumption) ?_
          case hy20 => (intro w hSw; (try dsimp only at hSw); go_simp; (try with_reducible rfl))
          try simp only [Act.put, List.setIfInBounds_toArray, List.set_cons_zero, List.set_cons_succ]
          refine wpAnyH_ready (rs := [28, 39]) (by kernel_rfl) (by simp) ?_
          refine AllReadyH.cons (o := { dst := some 52, op := Op.call { callee := Callee.value (Operand.func 45), args := #[Operand.tmp 46, Operand.tmp 50, Operand.tmp 51], argTypes := #[49, 3, 3] }, type := 4, pos := "render.go:26", after := #[{ on := 22, ground := Ground.data }, { on := 26, ground := Ground.data }, { on := 27, ground := Ground.data }, { on := 4, ground := Ground.chain }], guard := none }) rfl (fun K hK => ?_) ?_
          · go_simp
            have hq := hHeld
            (try dsimp only at hq)
            refine (HM.out _ hq.2.2.out.1).mono ?_
            rintro e w' ⟨rfl, rfl⟩
            clear hq
            go_wp2_with fail
            refine hK.out _ _ (by (try dsimp only); go_keep) (fun hHeld => ?_)
            clear hK K
            try simp only [Act.put, List.setIfInBounds_toArray, List.set_cons_zero, List.set_cons_succ]
            refine wpAnyH_take (i := 29) (oi := { dst := some 53, op := Op.unOp UnOp.not 4 (Operand.tmp 52), type := 4, pos := "render.go:23", after := #[{ on := 28, ground := Ground.data }], guard := none }) (v := ?v21) rfl (by kernel_rfl) (by kernel_rfl) (by kernel_rfl) (fun _ _ _ h => h) (Or.inl ⟨by rfl, ?hy21⟩) (by assumption) ?_
            case hy21 => (intro w hSw; (try dsimp only at hSw); go_simp; (try with_reducible rfl))
            try simp only [Act.put, List.setIfInBounds_toArray, List.set_cons_zero, List.set_cons_succ]
            refine wpAnyH_take (i := 38) (oi := { dst := some 62, op := Op.build 75 #[(0, Operand.tmp 25), (1, Operand.tmp 45), (3, Operand.tmp 53), (4, Operand.tmp 61)], type := 75, pos := "render.go:23", after := #[{ on := 1, ground := Ground.data }, { on := 21, ground := Ground.data }, { on := 29, ground := Ground.data }, { on := 37, ground := Ground.data }], guard := none }) (v := ?v22) rfl (by kernel_rfl) (by kernel_rfl) (by kernel_rfl) (fun _ _ _ h => h) (Or.inl ⟨by rfl, ?hy22⟩) (by assumption) ?_
            case hy22 => (intro w hSw; (try dsimp only at hSw); go_simp; (try with_reducible rfl))
            try simp only [Act.put, List.setIfInBounds_toArray, List.set_cons_zero, List.set_cons_succ]
            refine wpAnyH_ready (rs := [39]) (by kernel_rfl) (by simp) ?_
            refine AllReadyH.cons (o := { dst := some 6, op := Op.alloc 75, type := 0, pos := "render.go:23", after := #[], guard := none }) rfl (fun K hK => ?_) ?_
            · go_simp
              refine hK.out _ _ (by (try dsimp only); go_keep) (fun hHeld => ?_)
              clear hK K
              try simp only [Act.put, List.setIfInBounds_toArray, List.set_cons_zero, List.set_cons_succ]
              refine wpAnyH_ready (rs := [40]) (by kernel_rfl) (by simp) ?_
              refine AllReadyH.cons (o := { dst := none, op := Op.store 75 (Operand.tmp 6) (Operand.tmp 62), type := 0, pos := "render.go:23", after := #[{ on := 39, ground := Ground.data }, { on := 38, ground := Ground.data }, { on := 28, ground := Ground.chain }, { on := 0, ground := Ground.phase }, { on := 1, ground := Ground.phase }, { on := 2, ground := Ground.phase }, { on := 3, ground := Ground.phase }, { on := 4, ground := Ground.phase }, { on := 5, ground := Ground.phase }, { on := 6, ground := Ground.phase }, { on := 7, ground := Ground.phase }, { on := 8, ground := Ground.phase }, { on := 9, ground := Ground.phase }, { on := 10, ground := Ground.phase }, { on := 11, ground := Ground.phase }, { on := 12, ground := Ground.phase }, { on := 13, ground := Ground.phase }, { on := 14, ground := Ground.phase }, { on := 15, ground := Ground.phase }, { on := 16, ground := Ground.phase }, { on := 17, ground := Ground.phase }, { on := 18, ground := Ground.phase }, { on := 19, ground := Ground.phase }, { on := 20, ground := Ground.phase }, { on := 21, ground := Ground.phase }, { on := 22, ground := Ground.phase }, { on := 23, ground := Ground.phase }, { on := 24, ground := Ground.phase }, { on := 25, ground := Ground.phase }, { on := 26, ground := Ground.phase }, { on := 27, ground := Ground.phase }, { on := 28, ground := Ground.phase }, { on := 29, ground := Ground.phase }, { on := 30, ground := Ground.phase }, { on := 31, ground := Ground.phase }, { on := 32, ground := Ground.phase }, { on := 33, ground := Ground.phase }, { on := 34, ground := Ground.phase }, { on := 35, ground := Ground.phase }, { on := 36, ground := Ground.phase }, { on := 37, ground := Ground.phase }, { on := 38, ground := Ground.phase }, { on := 39, ground := Ground.phase }], guard := none }) rfl (fun K hK => ?_) ?_
              · go_simp
                refine hK.out _ _ (by (try dsimp only); go_keep) (fun hHeld => ?_)
                clear hK K
                try simp only [Act.put, List.setIfInBounds_toArray, List.set_cons_zero, List.set_cons_succ]
                refine wpAnyH_done (by kernel_rfl) ?_ _
                refine NoPanic.normal ?_
                go_wp2_with fail
                go_meet
                exact ⟨wo.heap.size, rfl, Nat.le_refl _, Lib.hid (by rw [← HE0.out]; exact heap_alloc_new wo _), Lib.hid (((Below.refl wo.heap.size wo).alloc (Nat.le_refl _) _).trans ⟨rfl, rfl, rfl, Nat.le_refl _, fun _ _ => rfl⟩)⟩
              exact AllReadyH.nil
            exact AllReadyH.nil
          refine AllReadyH.cons (o := { dst := some 6, op := Op.alloc 75, type := 0, pos := "render.go:23", after := #[], guard := none }) rfl (fun K hK => ?_) ?_
          · go_simp
            refine hK.out _ _ (by (try dsimp only); go_keep) (fun hHeld => ?_)
            clear hK K
            try simp only [Act.put, List.setIfInBounds_toArray, List.set_cons_zero, List.set_cons_succ]
            refine wpAnyH_ready (rs := [28]) (by kernel_rfl) (by simp) ?_
            refine AllReadyH.cons (o := { dst := some 52, op := Op.call { callee := Callee.value (Operand.func 45), args := #[Operand.tmp 46, Operand.tmp 50, Operand.tmp 51], argTypes := #[49, 3, 3] }, type := 4, pos := "render.go:26", after := #[{ on := 22, ground := Ground.data }, { on := 26, ground := Ground.data }, { on := 27, ground := Ground.data }, { on := 4, ground := Ground.chain }], guard := none }) rfl (fun K hK => ?_) ?_
            · go_simp
              have hq := hHeld
              (try dsimp only at hq)
              refine (HM.out _ hq.2.2.out.1).mono ?_
              rintro e w' ⟨rfl, rfl⟩
              clear hq
              go_wp2_with fail
              refine hK.out _ _ (by (try dsimp only); go_keep) (fun hHeld => ?_)
              clear hK K
              try simp only [Act.put, List.setIfInBounds_toArray, List.set_cons_zero, List.set_cons_succ]
              refine wpAnyH_take (i := 29) (oi := { dst := some 53, op := Op.unOp UnOp.not 4 (Operand.tmp 52), type := 4, pos := "render.go:23", after := #[{ on := 28, ground := Ground.data }], guard := none }) (v := ?v23) rfl (by kernel_rfl) (by kernel_rfl) (by kernel_rfl) (fun _ _ _ h => h) (Or.inl ⟨by rfl, ?hy23⟩) (by assumption) ?_
              case hy23 => (intro w hSw; (try dsimp only at hSw); go_simp; (try with_reducible rfl))
              try simp only [Act.put, List.setIfInBounds_toArray, List.set_cons_zero, List.set_cons_succ]
              refine wpAnyH_take (i := 38) (oi := { dst := some 62, op := Op.build 75 #[(0, Operand.tmp 25), (1, Operand.tmp 45), (3, Operand.tmp 53), (4, Operand.tmp 61)], type := 75, pos := "render.go:23", after := #[{ on := 1, ground := Ground.data }, { on := 21, ground := Ground.data }, { on := 29, ground := Ground.data }, { on := 37, ground := Ground.data }], guard := none }) (v := ?v24) rfl (by kernel_rfl) (by kernel_rfl) (by kernel_rfl) (fun _ _ _ h => h) (Or.inl ⟨by rfl, ?hy24⟩) (by assumption) ?_
              case hy24 => (intro w hSw; (try dsimp only at hSw); go_simp; (try with_reducible rfl))
              try simp only [Act.put, List.setIfInBounds_toArray, List.set_cons_zero, List.set_cons_succ]
              refine wpAnyH_ready (rs := [40]) (by kernel_rfl) (by simp) ?_
              refine AllReadyH.cons (o := { dst := none, op := Op.store 75 (Operand.tmp 6) (Operand.tmp 62), type := 0, pos := "render.go:23", after := #[{ on := 39, ground := Ground.data }, { on := 38, ground := Ground.data }, { on := 28, ground := Ground.chain }, { on := 0, ground := Ground.phase }, { on := 1, ground := Ground.phase }, { on := 2, ground := Ground.phase }, { on := 3, ground := Ground.phase }, { on := 4, ground := Ground.phase }, { on := 5, ground := Ground.phase }, { on := 6, ground := Ground.phase }, { on := 7, ground := Ground.phase }, { on := 8, ground := Ground.phase }, { on := 9, ground := Ground.phase }, { on := 10, ground := Ground.phase }, { on := 11, ground := Ground.phase }, { on := 12, ground := Ground.phase }, { on := 13, ground := Ground.phase }, { on := 14, ground := Ground.phase }, { on := 15, ground := Ground.phase }, { on := 16, ground := Ground.phase }, { on := 17, ground := Ground.phase }, { on := 18, ground := Ground.phase }, { on := 19, ground := Ground.phase }, { on := 20, ground := Ground.phase }, { on := 21, ground := Ground.phase }, { on := 22, ground := Ground.phase }, { on := 23, ground := Ground.phase }, { on := 24, ground := Ground.phase }, { on := 25, ground := Ground.phase }, { on := 26, ground := Ground.phase }, { on := 27, ground := Ground.phase }, { on := 28, ground := Ground.phase }, { on := 29, ground := Ground.phase }, { on := 30, ground := Ground.phase }, { on := 31, ground := Ground.phase }, { on := 32, ground := Ground.phase }, { on := 33, ground := Ground.phase }, { on := 34, ground := Ground.phase }, { on := 35, ground := Ground.phase }, { on := 36, ground := Ground.phase }, { on := 37, ground := Ground.phase }, { on := 38, ground := Ground.phase }, { on := 39, ground := Ground.phase }], guard := none }) rfl (fun K hK => ?_) ?_
              · go_simp
                refine hK.out _ _ (by (try dsimp only); go_keep) (fun hHeld => ?_)
                clear hK K
                try simp only [Act.put, List.setIfInBounds_toArray, List.set_cons_zero, List.set_cons_succ]
                refine wpAnyH_done (by kernel_rfl) ?_ _
                refine NoPanic.normal ?_
                go_wp2_with fail
                go_meet
                exact ⟨wo.heap.size, rfl, Nat.le_refl _, Lib.hid (by rw [← HE0.out]; exact heap_alloc_new wo _), Lib.hid (((Below.refl wo.heap.size wo).alloc (Nat.le_refl _) _).trans ⟨rfl, rfl, rfl, Nat.le_refl _, fun _ _ => rfl⟩)⟩
              exact AllReadyH.nil
            exact AllReadyH.nil
          exact AllReadyH.nil
        · obtain ⟨m, rfl⟩ : ∃ m, k = m + 1 := ⟨k - 1, by omega⟩
          obtain ⟨g', p1, e1, -, -, q0, q1'⟩ := HS.out.item m (by omega)
          injection e1 with e1
          injection e1 with e1 e2
          subst e1
          have q1 : wo.cell? ⟨p1, 0, none⟩ = some (.int .i64 (zat D.lvs m)) := by
            rw [cell_of_row wo p1 0 _ 72 (0, 0) q1']
            have hm : m < D.its.length := by omega
            simp [zat, LD.lvs, hm]
          have n3 := World.new_ne wo _ q0
          have n4 := World.new_ne wo _ q1
          have b0 : (0 : Int) ≤ (m : Int) := by omega
          have b1 : (m : Int) < (its.length : Int) := by omega
          have wm : IntKind.i64.wrap (m : Int) = (m : Int) := IntWalk.i64_in _ (by omega)
          have wm1 : IntKind.i64.wrap ((m : Int) + 1 - 1) = (m : Int) := by rw [Int.add_sub_cancel]; exact wm
          have em : ((m : Int) + 1 == 0) = false := by rw [beq_eq_false_iff_ne]; omega
          dsimp only at n3 n4
          have HE0 := Lib.hid (show (#[.bool false, .bool (decide (zat D.lvs m < zat D.lvs (m + 1))), .bool false, .bool (!more (zat D.lvs (m + 1)) (List.drop (m + 1 + 1) D.lvs)), .bool ((m : Int) + 1 == (its.length : Int) - 1)] : Array Value) = #[.bool (topB (m + 1)), .bool (firstB D (m + 1)), .bool false, .bool (lastB D (m + 1)), .bool (botB D (m + 1))] by
            have h1 : topB (m + 1) = false := by simp [topB]
            have h2 : firstB D (m + 1) = decide (zat D.lvs m < zat D.lvs (m + 1)) := by simp [firstB]
            have h3 : lastB D (m + 1) = !more (zat D.lvs (m + 1)) (List.drop (m + 1 + 1) D.lvs) := rfl
            have h4 : botB D (m + 1) = ((m : Int) + 1 == (its.length : Int) - 1) := by unfold botB; rw [hDn.out, Bool.eq_iff_iff]; simp; omega
            rw [h1, h2, h3, h4])
          clear q1' e2 HD HF HE HB3 HW3 HS3 HBk HWk HPO hc1 hg hcg hp hk hlt hkD z0 z1 hgl hDn hfew g19 HS hk0
          refine wp_region_noPanic ?_
          refine wp_region_held_drew (S := (fun w' => w'.cell? ⟨gl, 3, none⟩ = some (.slice (some ⟨g, 0, none⟩) its.length cap) ∧ w'.cell? ⟨p, 0, none⟩ = some (.int .i64 (zat D.lvs (m + 1))) ∧ w'.cell? ⟨g, m, none⟩ = some (.pointer (some ⟨p1, 0, none⟩)) ∧ w'.cell? ⟨p1, 0, none⟩ = some (.int .i64 (zat D.lvs m)) ∧ Hid (Sd b gl gs (some ⟨g, 0, none⟩) cap D w'))) (by kernel_rfl) (by (try dsimp only); go_keep) (fun hHeld => ?_)
          refine wpAnyH_take (i := 0) (oi := { dst := some 24, op := Op.move (Operand.tmp 4), type := 3, pos := "render.go:23", after := #[], guard := none }) (v := ?v25) rfl (by kernel_rfl) (by kernel_rfl) (by kernel_rfl) (fun _ _ _ h => h) (Or.inl ⟨by rfl, ?hy25⟩) (by assumption) ?_
          case hy25 => (intro w hSw; (try dsimp only at hSw); go_simp; (try with_reducible rfl))
          try simp only [Act.put, List.setIfInBounds_toArray, List.set_cons_zero, List.set_cons_succ]
          refine wpAnyH_take (i := 1) (oi := { dst := some 25, op := Op.binOp BinOp.eql 3 (Operand.tmp 24) (Operand.const (Value.int IntKind.i64 0)) 3, type := 4, pos := "render.go:23", after := #[{ on := 0, ground := Ground.data }], guard := none }) (v := ?v26) rfl (by kernel_rfl) (by kernel_rfl) (by kernel_rfl) (fun _ _ _ h => h) (Or.inl ⟨by rfl, ?hy26⟩) (by assumption) ?_
          case hy26 => (intro w hSw; (try dsimp only at hSw); go_simp; (try with_reducible rfl))
          try simp only [Act.put, List.setIfInBounds_toArray, List.set_cons_zero, List.set_cons_succ]
          refine wpAnyH_take (i := 2) (oi := { dst := some 26, op := Op.move (Operand.tmp 4), type := 3, pos := "render.go:23", after := #[], guard := none }) (v := ?v27) rfl (by kernel_rfl) (by kernel_rfl) (by kernel_rfl) (fun _ _ _ h => h) (Or.inl ⟨by rfl, ?hy27⟩) (by assumption) ?_
          case hy27 => (intro w hSw; (try dsimp only at hSw); go_simp; (try with_reducible rfl))
          try simp only [Act.put, List.setIfInBounds_toArray, List.set_cons_zero, List.set_cons_succ]
          refine wpAnyH_take (i := 3) (oi := { dst := some 27, op := Op.binOp BinOp.eql 3 (Operand.tmp 26) (Operand.const (Value.int IntKind.i64 0)) 3, type := 4, pos := "render.go:23", after := #[{ on := 2, ground := Ground.data }], guard := none }) (v := ?v28) rfl (by kernel_rfl) (by kernel_rfl) (by kernel_rfl) (fun _ _ _ h => h) (Or.inl ⟨by rfl, ?hy28⟩) (by assumption) ?_
          case hy28 => (intro w hSw; (try dsimp only at hSw); go_simp; (try with_reducible rfl))
          try simp only [Act.put, List.setIfInBounds_toArray, List.set_cons_zero, List.set_cons_succ]
          refine wpAnyH_take (i := 4) (oi := { dst := some 28, op := Op.move (Operand.tmp 27), type := 4, pos := "render.go:23", after := #[{ on := 3, ground := Ground.data }], guard := none }) (v := ?v29) rfl (by kernel_rfl) (by kernel_rfl) (by kernel_rfl) (fun _ _ _ h => h) (Or.inl ⟨by rfl, ?hy29⟩) (by assumption) ?_
          case hy29 => (intro w hSw; (try dsimp only at hSw); go_simp; (try with_reducible rfl))
          try simp only [Act.put, List.setIfInBounds_toArray, List.set_cons_zero, List.set_cons_succ]
          refine wpAnyH_take (i := 5) (oi := { dst := some 29, op := Op.move (Operand.tmp 5), type := 70, pos := "render.go:23", after := #[{ on := 4, ground := Ground.guard }], guard := some (4, false) }) (v := ?v30) rfl (by kernel_rfl) (by kernel_rfl) (by kernel_rfl) (fun _ _ _ h => h) (Or.inl ⟨by rfl, ?hy30⟩) (by assumption) ?_
          case hy30 => (intro w hSw; (try dsimp only at hSw); go_simp; (try with_reducible rfl))
          try simp only [Act.put, List.setIfInBounds_toArray, List.set_cons_zero, List.set_cons_succ]
          refine wpAnyH_take (i := 6) (oi := { dst := some 30, op := Op.nilCheck (Operand.tmp 29), type := 0, pos := "render.go:23", after := #[{ on := 5, ground := Ground.data }, { on := 4, ground := Ground.guard }], guard := some (4, false) }) (v := ?v31) rfl (by kernel_rfl) (by kernel_rfl) (by kernel_rfl) (fun _ _ _ h => h) (Or.inl ⟨by rfl, ?hy31⟩) (by assumption) ?_
          case hy31 => (intro w hSw; (try dsimp only at hSw); go_simp; (try with_reducible rfl))
          try simp only [Act.put, List.setIfInBounds_toArray, List.set_cons_zero, List.set_cons_succ]
          refine wpAnyH_take (i := 7) (oi := { dst := some 31, op := Op.fieldAddr 72 (Operand.tmp 30) 0, type := 0, pos := "render.go:23", after := #[{ on := 6, ground := Ground.data }, { on := 4, ground := Ground.guard }], guard := some (4, false) }) (v := ?v32) rfl (by kernel_rfl) (by kernel_rfl) (by kernel_rfl) (fun _ _ _ h => h) (Or.inl ⟨by rfl, ?hy32⟩) (by assumption) ?_
          case hy32 => (intro w hSw; (try dsimp only at hSw); go_simp; (try with_reducible rfl))
          try simp only [Act.put, List.setIfInBounds_toArray, List.set_cons_zero, List.set_cons_succ]
          refine wpAnyH_take (i := 8) (oi := { dst := some 32, op := Op.load 3 (Operand.tmp 31), type := 3, pos := "render.go:23", after := #[{ on := 7, ground := Ground.data }, { on := 4, ground := Ground.guard }], guard := some (4, false) }) (v := ?v33) rfl (by kernel_rfl) (by kernel_rfl) (by kernel_rfl) (fun _ _ _ h => h) (Or.inl ⟨by rfl, ?hy33⟩) (by assumption) ?_
          case hy33 => (intro w hSw; (try dsimp only at hSw); go_simp; (try with_reducible rfl))
          try simp only [Act.put, List.setIfInBounds_toArray, List.set_cons_zero, List.set_cons_succ]
          refine wpAnyH_take (i := 9) (oi := { dst := some 33, op := Op.move (Operand.tmp 0), type := 49, pos := "render.go:23", after := #[{ on := 4, ground := Ground.guard }], guard := some (4, false) }) (v := ?v34) rfl (by kernel_rfl) (by kernel_rfl) (by kernel_rfl) (fun _ _ _ h => h) (Or.inl ⟨by rfl, ?hy34⟩) (by assumption) ?_
          case hy34 => (intro w hSw; (try dsimp only at hSw); go_simp; (try with_reducible rfl))
          try simp only [Act.put, List.setIfInBounds_toArray, List.set_cons_zero, List.set_cons_succ]
          refine wpAnyH_take (i := 10) (oi := { dst := some 34, op := Op.nilCheck (Operand.tmp 33), type := 0, pos := "render.go:23", after := #[{ on := 9, ground := Ground.data }, { on := 4, ground := Ground.guard }], guard := some (4, false) }) (v := ?v35) rfl (by kernel_rfl) (by kernel_rfl) (by kernel_rfl) (fun _ _ _ h => h) (Or.inl ⟨by rfl, ?hy35⟩) (by assumption) ?_
          case hy35 => (intro w hSw; (try dsimp only at hSw); go_simp; (try with_reducible rfl))
          try simp only [Act.put, List.setIfInBounds_toArray, List.set_cons_zero, List.set_cons_succ]
          refine wpAnyH_take (i := 11) (oi := { dst := some 35, op := Op.fieldAddr 62 (Operand.tmp 34) 3, type := 0, pos := "render.go:23", after := #[{ on := 10, ground := Ground.data }, { on := 4, ground := Ground.guard }], guard := some (4, false) }) (v := ?v36) rfl (by kernel_rfl) (by kernel_rfl) (by kernel_rfl) (fun _ _ _ h => h) (Or.inl ⟨by rfl, ?hy36⟩) (by assumption) ?_
          case hy36 => (intro w hSw; (try dsimp only at hSw); go_simp; (try with_reducible rfl))
          try simp only [Act.put, List.setIfInBounds_toArray, List.set_cons_zero, List.set_cons_succ]
          refine wpAnyH_take (i := 12) (oi := { dst := some 36, op := Op.load 59 (Operand.tmp 35), type := 59, pos := "render.go:23", after := #[{ on := 11, ground := Ground.data }, { on := 4, ground := Ground.guard }], guard := some (4, false) }) (v := ?v37) rfl (by kernel_rfl) (by kernel_rfl) (by kernel_rfl) (fun _ _ _ h => h) (Or.inl ⟨by rfl, ?hy37⟩) (by assumption) ?_
          case hy37 => (intro w hSw; (try dsimp only at hSw); go_simp; (try with_reducible rfl))
          try simp only [Act.put, List.setIfInBounds_toArray, List.set_cons_zero, List.set_cons_succ]
          refine wpAnyH_take (i := 13) (oi := { dst := some 37, op := Op.move (Operand.tmp 4), type := 3, pos := "render.go:23", after := #[{ on := 4, ground := Ground.guard }], guard := some (4, false) }) (v := ?v38) rfl (by kernel_rfl) (by kernel_rfl) (by kernel_rfl) (fun _ _ _ h => h) (Or.inl ⟨by rfl, ?hy38⟩) (by assumption) ?_
          case hy38 => (intro w hSw; (try dsimp only at hSw); go_simp; (try with_reducible rfl))
          try simp only [Act.put, List.setIfInBounds_toArray, List.set_cons_zero, List.set_cons_succ]
          refine wpAnyH_take (i := 14) (oi := { dst := some 38, op := Op.binOp BinOp.sub 3 (Operand.tmp 37) (Operand.const (Value.int IntKind.i64 1)) 3, type := 3, pos := "render.go:23", after := #[{ on := 13, ground := Ground.data }, { on := 4, ground := Ground.guard }], guard := some (4, false) }) (v := ?v39) rfl (by kernel_rfl) (by kernel_rfl) (by kernel_rfl) (fun _ _ _ h => h) (Or.inl ⟨by rfl, ?hy39⟩) (by assumption) ?_
          case hy39 => (intro w hSw; (try dsimp only at hSw); go_simp; (try with_reducible rfl))
          try simp only [Act.put, List.setIfInBounds_toArray, List.set_cons_zero, List.set_cons_succ]
          refine wpAnyH_take (i := 15) (oi := { dst := some 39, op := Op.indexAddr 59 (Operand.tmp 36) (Operand.tmp 38), type := 0, pos := "render.go:23", after := #[{ on := 12, ground := Ground.data }, { on := 14, ground := Ground.data }, { on := 4, ground := Ground.guard }], guard := some (4, false) }) (v := ?v40) rfl (by kernel_rfl) (by kernel_rfl) (by kernel_rfl) (fun _ _ _ h => h) (Or.inl ⟨by rfl, ?hy40⟩) (by assumption) ?_
          case hy40 => (intro w hSw; (try dsimp only at hSw); go_simp; (try with_reducible rfl))
          try simp only [Act.put, List.setIfInBounds_toArray, List.set_cons_zero, List.set_cons_succ]
          refine wpAnyH_take (i := 16) (oi := { dst := some 40, op := Op.load 70 (Operand.tmp 39), type := 70, pos := "render.go:23", after := #[{ on := 15, ground := Ground.data }, { on := 4, ground := Ground.guard }], guard := some (4, false) }) (v := ?v41) rfl (by kernel_rfl) (by kernel_rfl) (by kernel_rfl) (fun _ _ _ h => h) (Or.inl ⟨by rfl, ?hy41⟩) (by assumption) ?_
          case hy41 => (intro w hSw; (try dsimp only at hSw); go_simp; (try with_reducible rfl))
          try simp only [Act.put, List.setIfInBounds_toArray, List.set_cons_zero, List.set_cons_succ]
          refine wpAnyH_take (i := 17) (oi := { dst := some 41, op := Op.nilCheck (Operand.tmp 40), type := 0, pos := "render.go:23", after := #[{ on := 16, ground := Ground.data }, { on := 4, ground := Ground.guard }], guard := some (4, false) }) (v := ?v42) rfl (by kernel_rfl) (by kernel_rfl) (by kernel_rfl) (fun _ _ _ h => h) (Or.inl ⟨by rfl, ?hy42⟩) (by assumption) ?_
          case hy42 => (intro w hSw; (try dsimp only at hSw); go_simp; (try with_reducible rfl))
          try simp only [Act.put, List.setIfInBounds_toArray, List.set_cons_zero, List.set_cons_succ]
          refine wpAnyH_take (i := 18) (oi := { dst := some 42, op := Op.fieldAddr 72 (Operand.tmp 41) 0, type := 0, pos := "render.go:23", after := #[{ on := 17, ground := Ground.data }, { on := 4, ground := Ground.guard }], guard := some (4, false) }) (v := ?v43) rfl (by kernel_rfl) (by kernel_rfl) (by kernel_rfl) (fun _ _ _ h => h) (Or.inl ⟨by rfl, ?hy43⟩) (by assumption) ?_
          case hy43 => (intro w hSw; (try dsimp only at hSw); go_simp; (try with_reducible rfl))
          try simp only [Act.put, List.setIfInBounds_toArray, List.set_cons_zero, List.set_cons_succ]
          refine wpAnyH_take (i := 19) (oi := { dst := some 43, op := Op.load 3 (Operand.tmp 42), type := 3, pos := "render.go:23", after := #[{ on := 18, ground := Ground.data }, { on := 4, ground := Ground.guard }], guard := some (4, false) }) (v := ?v44) rfl (by kernel_rfl) (by kernel_rfl) (by kernel_rfl) (fun _ _ _ h => h) (Or.inl ⟨by rfl, ?hy44⟩) (by assumption) ?_
          case hy44 => (intro w hSw; (try dsimp only at hSw); go_simp; (try with_reducible rfl))
          try simp only [Act.put, List.setIfInBounds_toArray, List.set_cons_zero, List.set_cons_succ]
          refine wpAnyH_take (i := 20) (oi := { dst := some 44, op := Op.binOp BinOp.gtr 3 (Operand.tmp 32) (Operand.tmp 43) 3, type := 4, pos := "render.go:23", after := #[{ on := 8, ground := Ground.data }, { on := 19, ground := Ground.data }, { on := 4, ground := Ground.guard }], guard := some (4, false) }) (v := ?v45) rfl (by kernel_rfl) (by kernel_rfl) (by kernel_rfl) (fun _ _ _ h => h) (Or.inl ⟨by rfl, ?hy45⟩) (by assumption) ?_
          case hy45 => (intro w hSw; (try dsimp only at hSw); go_simp; (try with_reducible rfl))
          try simp only [Act.put, List.setIfInBounds_toArray, List.set_cons_zero, List.set_cons_succ]
          refine wpAnyH_take (i := 21) (oi := { dst := some 45, op := Op.pick (Operand.tmp 28) (Operand.const (Value.bool true)) (Operand.tmp 44), type := 4, pos := "render.go:23", after := #[{ on := 4, ground := Ground.data }, { on := 20, ground := Ground.data }], guard := none }) (v := ?v46) rfl (by kernel_rfl) (by kernel_rfl) (by kernel_rfl) (fun _ _ _ h => h) (Or.inl ⟨by rfl, ?hy46⟩) (by assumption) ?_
          case hy46 => (intro w hSw; (try dsimp only at hSw); go_simp; (try with_reducible rfl))
          try simp only [Act.put, List.setIfInBounds_toArray, List.set_cons_zero, List.set_cons_succ]
          refine wpAnyH_take (i := 22) (oi := { dst := some 46, op := Op.move (Operand.tmp 0), type := 49, pos := "render.go:23", after := #[], guard := none }) (v := ?v47) rfl (by kernel_rfl) (by kernel_rfl) (by kernel_rfl) (fun _ _ _ h => h) (Or.inl ⟨by rfl, ?hy47⟩) (by assumption) ?_
          case hy47 => (intro w hSw; (try dsimp only at hSw); go_simp; (try with_reducible rfl))
          try simp only [Act.put, List.setIfInBounds_toArray, List.set_cons_zero, List.set_cons_succ]
          refine wpAnyH_take (i := 23) (oi := { dst := some 47, op := Op.move (Operand.tmp 5), type := 70, pos := "render.go:23", after := #[], guard := none }) (v := ?v48) rfl (by kernel_rfl) (by kernel_rfl) (by kernel_rfl) (fun _ _ _ h => h) (Or.inl ⟨by rfl, ?hy48⟩) (by assumption) ?_
          case hy48 => (intro w hSw; (try dsimp only at hSw); go_simp; (try with_reducible rfl))
          try simp only [Act.put, List.setIfInBounds_toArray, List.set_cons_zero, List.set_cons_succ]
          refine wpAnyH_take (i := 24) (oi := { dst := some 48, op := Op.nilCheck (Operand.tmp 47), type := 0, pos := "render.go:23", after := #[{ on := 23, ground := Ground.data }], guard := none }) (v := ?v49) rfl (by kernel_rfl) (by kernel_rfl) (by kernel_rfl) (fun _ _ _ h => h) (Or.inl ⟨by rfl, ?hy49⟩) (by assumption) ?_
          case hy49 => (intro w hSw; (try dsimp only at hSw); go_simp; (try with_reducible rfl))
          try simp only [Act.put, List.setIfInBounds_toArray, List.set_cons_zero, List.set_cons_succ]
          refine wpAnyH_take (i := 25) (oi := { dst := some 49, op := Op.fieldAddr 72 (Operand.tmp 48) 0, type := 0, pos := "render.go:23", after := #[{ on := 24, ground := Ground.data }], guard := none }) (v := ?v50) rfl (by kernel_rfl) (by kernel_rfl) (by kernel_rfl) (fun _ _ _ h => h) (Or.inl ⟨by rfl, ?hy50⟩) (by assumption) ?_
          case hy50 => (intro w hSw; (try dsimp only at hSw); go_simp; (try with_reducible rfl))
          try simp only [Act.put, List.setIfInBounds_toArray, List.set_cons_zero, List.set_cons_succ]
          refine wpAnyH_take (i := 26) (oi := { dst := some 50, op := Op.load 3 (Operand.tmp 49), type := 3, pos := "render.go:23", after := #[{ on := 25, ground := Ground.data }], guard := none }) (v := ?v51) rfl (by kernel_rfl) (by kernel_rfl) (by kernel_rfl) (fun _ _ _ h => h) (Or.inl ⟨by rfl, ?hy51⟩) (by assumption) ?_
          case hy51 => (intro w hSw; (try dsimp only at hSw); go_simp; (try with_reducible rfl))
          try simp only [Act.put, List.setIfInBounds_toArray, List.set_cons_zero, List.set_cons_succ]
          refine wpAnyH_take (i := 27) (oi := { dst := some 51, op := Op.move (Operand.tmp 4), type := 3, pos := "render.go:23", after := #[], guard := none }) (v := ?v52) rfl (by kernel_rfl) (by kernel_rfl) (by kernel_rfl) (fun _ _ _ h => h) (Or.inl ⟨by rfl, ?hy52⟩) (by assumption) ?_
          case hy52 => (intro w hSw; (try dsimp only at hSw); go_simp; (try with_reducible rfl))
          try simp only [Act.put, List.setIfInBounds_toArray, List.set_cons_zero, List.set_cons_succ]
          refine wpAnyH_take (i := 30) (oi := { dst := some 54, op := Op.move (Operand.tmp 4), type := 3, pos := "render.go:23", after := #[], guard := none }) (v := ?v53) rfl (by kernel_rfl) (by kernel_rfl) (by kernel_rfl) (fun _ _ _ h => h) (Or.inl ⟨by rfl, ?hy53⟩) (by assumption) ?_
          case hy53 => (intro w hSw; (try dsimp only at hSw); go_simp; (try with_reducible rfl))
          try simp only [Act.put, List.setIfInBounds_toArray, List.set_cons_zero, List.set_cons_succ]
          refine wpAnyH_take (i := 31) (oi := { dst := some 55, op := Op.move (Operand.tmp 0), type := 49, pos := "render.go:23", after := #[], guard := none }) (v := ?v54) rfl (by kernel_rfl) (by kernel_rfl) (by kernel_rfl) (fun _ _ _ h => h) (Or.inl ⟨by rfl, ?hy54⟩) (by assumption) ?_
          case hy54 => (intro w hSw; (try dsimp only at hSw); go_simp; (try with_reducible rfl))
          try simp only [Act.put, List.setIfInBounds_toArray, List.set_cons_zero, List.set_cons_succ]
          refine wpAnyH_take (i := 32) (oi := { dst := some 56, op := Op.nilCheck (Operand.tmp 55), type := 0, pos := "render.go:23", after := #[{ on := 31, ground := Ground.data }], guard := none }) (v := ?v55) rfl (by kernel_rfl) (by kernel_rfl) (by kernel_rfl) (fun _ _ _ h => h) (Or.inl ⟨by rfl, ?hy55⟩) (by assumption) ?_
          case hy55 => (intro w hSw; (try dsimp only at hSw); go_simp; (try with_reducible rfl))
          try simp only [Act.put, List.setIfInBounds_toArray, List.set_cons_zero, List.set_cons_succ]
          refine wpAnyH_take (i := 33) (oi := { dst := some 57, op := Op.fieldAddr 62 (Operand.tmp 56) 3, type := 0, pos := "render.go:23", after := #[{ on := 32, ground := Ground.data }], guard := none }) (v := ?v56) rfl (by kernel_rfl) (by kernel_rfl) (by kernel_rfl) (fun _ _ _ h => h) (Or.inl ⟨by rfl, ?hy56⟩) (by assumption) ?_
          case hy56 => (intro w hSw; (try dsimp only at hSw); go_simp; (try with_reducible rfl))
          try simp only [Act.put, List.setIfInBounds_toArray, List.set_cons_zero, List.set_cons_succ]
          refine wpAnyH_take (i := 34) (oi := { dst := some 58, op := Op.load 59 (Operand.tmp 57), type := 59, pos := "render.go:23", after := #[{ on := 33, ground := Ground.data }], guard := none }) (v := ?v57) rfl (by kernel_rfl) (by kernel_rfl) (by kernel_rfl) (fun _ _ _ h => h) (Or.inl ⟨by rfl, ?hy57⟩) (by assumption) ?_
          case hy57 => (intro w hSw; (try dsimp only at hSw); go_simp; (try with_reducible rfl))
          try simp only [Act.put, List.setIfInBounds_toArray, List.set_cons_zero, List.set_cons_succ]
          refine wpAnyH_take (i := 35) (oi := { dst := some 59, op := Op.call { callee := Callee.builtin Builtin.len, args := #[Operand.tmp 58], argTypes := #[59] }, type := 3, pos := "render.go:23", after := #[{ on := 34, ground := Ground.data }], guard := none }) (v := ?v58) rfl (by kernel_rfl) (by kernel_rfl) (by kernel_rfl) (fun _ _ _ h => h) (Or.inl ⟨by rfl, ?hy58⟩) (by assumption) ?_
          case hy58 => (intro w hSw; (try dsimp only at hSw); go_simp; (try with_reducible rfl))
          try simp only [Act.put, List.setIfInBounds_toArray, List.set_cons_zero, List.set_cons_succ]
          refine wpAnyH_take (i := 36) (oi := { dst := some 60, op := Op.binOp BinOp.sub 3 (Operand.tmp 59) (Operand.const (Value.int IntKind.i64 1)) 3, type := 3, pos := "render.go:23", after := #[{ on := 35, ground := Ground.data }], guard := none }) (v := ?v59) rfl (by kernel_rfl) (by kernel_rfl) (by kernel_rfl) (fun _ _ _ h => h) (Or.inl ⟨by rfl, ?hy59⟩) (by assumption) ?_
          case hy59 => (intro w hSw; (try dsimp only at hSw); go_simp; (try with_reducible rfl))
          try simp only [Act.put, List.setIfInBounds_toArray, List.set_cons_zero, List.set_cons_succ]
          refine wpAnyH_take (i := 37) (oi := { dst := some 61, op := Op.binOp BinOp.eql 3 (Operand.tmp 54) (Operand.tmp 60) 3, type := 4, pos := "render.go:23", after := #[{ on := 30, ground := Ground.data }, { on := 36, ground := Ground.data }], guard := none }) (v := ?v60) rfl (by kernel_rfl) (by kernel_rfl) (by kernel_rfl) (fun _ _ _ h => h) (Or.inl ⟨by rfl, ?hy60⟩) (by assumption) ?_
          case hy60 => (intro w hSw; (try dsimp only at hSw); go_simp; (try with_reducible rfl))
          try simp only [Act.put, List.setIfInBounds_toArray, List.set_cons_zero, List.set_cons_succ]
          refine wpAnyH_ready (rs := [28, 39]) (by kernel_rfl) (by simp) ?_
          refine AllReadyH.cons (o := { dst := some 52, op := Op.call { callee := Callee.value (Operand.func 45), args := #[Operand.tmp 46, Operand.tmp 50, Operand.tmp 51], argTypes := #[49, 3, 3] }, type := 4, pos := "render.go:26", after := #[{ on := 22, ground := Ground.data }, { on := 26, ground := Ground.data }, { on := 27, ground := Ground.data }, { on := 4, ground := Ground.chain }], guard := none }) rfl (fun K hK => ?_) ?_
          · go_simp
            have hq := hHeld
            (try dsimp only at hq)
            refine (HM.out _ hq.2.2.2.2.out.1).mono ?_
            rintro e w' ⟨rfl, rfl⟩
            clear hq
            go_wp2_with fail
            refine hK.out _ _ (by (try dsimp only); go_keep) (fun hHeld => ?_)
            clear hK K
            try simp only [Act.put, List.setIfInBounds_toArray, List.set_cons_zero, List.set_cons_succ]
            refine wpAnyH_take (i := 29) (oi := { dst := some 53, op := Op.unOp UnOp.not 4 (Operand.tmp 52), type := 4, pos := "render.go:23", after := #[{ on := 28, ground := Ground.data }], guard := none }) (v := ?v61) rfl (by kernel_rfl) (by kernel_rfl) (by kernel_rfl) (fun _ _ _ h => h) (Or.inl ⟨by rfl, ?hy61⟩) (by assumption) ?_
            case hy61 => (intro w hSw; (try dsimp only at hSw); go_simp; (try with_reducible rfl))
            try simp only [Act.put, List.setIfInBounds_toArray, List.set_cons_zero, List.set_cons_succ]
            refine wpAnyH_take (i := 38) (oi := { dst := some 62, op := Op.build 75 #[(0, Operand.tmp 25), (1, Operand.tmp 45), (3, Operand.tmp 53), (4, Operand.tmp 61)], type := 75, pos := "render.go:23", after := #[{ on := 1, ground := Ground.data }, { on := 21, ground := Ground.data }, { on := 29, ground := Ground.data }, { on := 37, ground := Ground.data }], guard := none }) (v := ?v62) rfl (by kernel_rfl) (by kernel_rfl) (by kernel_rfl) (fun _ _ _ h => h) (Or.inl ⟨by rfl, ?hy62⟩) (by assumption) ?_
            case hy62 => (intro w hSw; (try dsimp only at hSw); go_simp; (try with_reducible rfl))
            try simp only [Act.put, List.setIfInBounds_toArray, List.set_cons_zero, List.set_cons_succ]
            refine wpAnyH_ready (rs := [39]) (by kernel_rfl) (by simp) ?_
            refine AllReadyH.cons (o := { dst := some 6, op := Op.alloc 75, type := 0, pos := "render.go:23", after := #[], guard := none }) rfl (fun K hK => ?_) ?_
            · go_simp
              refine hK.out _ _ (by (try dsimp only); go_keep) (fun hHeld => ?_)
              clear hK K
              try simp only [Act.put, List.setIfInBounds_toArray, List.set_cons_zero, List.set_cons_succ]
              refine wpAnyH_ready (rs := [40]) (by kernel_rfl) (by simp) ?_
              refine AllReadyH.cons (o := { dst := none, op := Op.store 75 (Operand.tmp 6) (Operand.tmp 62), type := 0, pos := "render.go:23", after := #[{ on := 39, ground := Ground.data }, { on := 38, ground := Ground.data }, { on := 28, ground := Ground.chain }, { on := 0, ground := Ground.phase }, { on := 1, ground := Ground.phase }, { on := 2, ground := Ground.phase }, { on := 3, ground := Ground.phase }, { on := 4, ground := Ground.phase }, { on := 5, ground := Ground.phase }, { on := 6, ground := Ground.phase }, { on := 7, ground := Ground.phase }, { on := 8, ground := Ground.phase }, { on := 9, ground := Ground.phase }, { on := 10, ground := Ground.phase }, { on := 11, ground := Ground.phase }, { on := 12, ground := Ground.phase }, { on := 13, ground := Ground.phase }, { on := 14, ground := Ground.phase }, { on := 15, ground := Ground.phase }, { on := 16, ground := Ground.phase }, { on := 17, ground := Ground.phase }, { on := 18, ground := Ground.phase }, { on := 19, ground := Ground.phase }, { on := 20, ground := Ground.phase }, { on := 21, ground := Ground.phase }, { on := 22, ground := Ground.phase }, { on := 23, ground := Ground.phase }, { on := 24, ground := Ground.phase }, { on := 25, ground := Ground.phase }, { on := 26, ground := Ground.phase }, { on := 27, ground := Ground.phase }, { on := 28, ground := Ground.phase }, { on := 29, ground := Ground.phase }, { on := 30, ground := Ground.phase }, { on := 31, ground := Ground.phase }, { on := 32, ground := Ground.phase }, { on := 33, ground := Ground.phase }, { on := 34, ground := Ground.phase }, { on := 35, ground := Ground.phase }, { on := 36, ground := Ground.phase }, { on := 37, ground := Ground.phase }, { on := 38, ground := Ground.phase }, { on := 39, ground := Ground.phase }], guard := none }) rfl (fun K hK => ?_) ?_
              · go_simp
                refine hK.out _ _ (by (try dsimp only); go_keep) (fun hHeld => ?_)
                clear hK K
                try simp only [Act.put, List.setIfInBounds_toArray, List.set_cons_zero, List.set_cons_succ]
                refine wpAnyH_done (by kernel_rfl) ?_ _
                refine NoPanic.normal ?_
                go_wp2_with fail
                go_meet
                exact ⟨wo.heap.size, rfl, Nat.le_refl _, Lib.hid (by rw [← HE0.out]; exact heap_alloc_new wo _), Lib.hid (((Below.refl wo.heap.size wo).alloc (Nat.le_refl _) _).trans ⟨rfl, rfl, rfl, Nat.le_refl _, fun _ _ => rfl⟩)⟩
              exact AllReadyH.nil
            exact AllReadyH.nil
          refine AllReadyH.cons (o := { dst := some 6, op := Op.alloc 75, type := 0, pos := "render.go:23", after := #[], guard := none }) rfl (fun K hK => ?_) ?_
          · go_simp
            refine hK.out _ _ (by (try dsimp only); go_keep) (fun hHeld => ?_)
            clear hK K
            try simp only [Act.put, List.setIfInBounds_toArray, List.set_cons_zero, List.set_cons_succ]
            refine wpAnyH_ready (rs := [28]) (by kernel_rfl) (by simp) ?_
            refine AllReadyH.cons (o := { dst := some 52, op := Op.call { callee := Callee.value (Operand.func 45), args := #[Operand.tmp 46, Operand.tmp 50, Operand.tmp 51], argTypes := #[49, 3, 3] }, type := 4, pos := "render.go:26", after := #[{ on := 22, ground := Ground.data }, { on := 26, ground := Ground.data }, { on := 27, ground := Ground.data }, { on := 4, ground := Ground.chain }], guard := none }) rfl (fun K hK => ?_) ?_
            · go_simp
              have hq := hHeld
              (try dsimp only at hq)
              refine (HM.out _ hq.2.2.2.2.out.1).mono ?_
              rintro e w' ⟨rfl, rfl⟩
              clear hq
              go_wp2_with fail
              refine hK.out _ _ (by (try dsimp only); go_keep) (fun hHeld => ?_)
              clear hK K
              try simp only [Act.put, List.setIfInBounds_toArray, List.set_cons_zero, List.set_cons_succ]
              refine wpAnyH_take (i := 29) (oi := { dst := some 53, op := Op.unOp UnOp.not 4 (Operand.tmp 52), type := 4, pos := "render.go:23", after := #[{ on := 28, ground := Ground.data }], guard := none }) (v := ?v63) rfl (by kernel_rfl) (by kernel_rfl) (by kernel_rfl) (fun _ _ _ h => h) (Or.inl ⟨by rfl, ?hy63⟩) (by assumption) ?_
              case hy63 => (intro w hSw; (try dsimp only at hSw); go_simp; (try with_reducible rfl))
              try simp only [Act.put, List.setIfInBounds_toArray, List.set_cons_zero, List.set_cons_succ]
              refine wpAnyH_take (i := 38) (oi := { dst := some 62, op := Op.build 75 #[(0, Operand.tmp 25), (1, Operand.tmp 45), (3, Operand.tmp 53), (4, Operand.tmp 61)], type := 75, pos := "render.go:23", after := #[{ on := 1, ground := Ground.data }, { on := 21, ground := Ground.data }, { on := 29, ground := Ground.data }, { on := 37, ground := Ground.data }], guard := none }) (v := ?v64) rfl (by kernel_rfl) (by kernel_rfl) (by kernel_rfl) (fun _ _ _ h => h) (Or.inl ⟨by rfl, ?hy64⟩) (by assumption) ?_
              case hy64 => (intro w hSw; (try dsimp only at hSw); go_simp; (try with_reducible rfl))
              try simp only [Act.put, List.setIfInBounds_toArray, List.set_cons_zero, List.set_cons_succ]
              refine wpAnyH_ready (rs := [40]) (by kernel_rfl) (by simp) ?_
              refine AllReadyH.cons (o := { dst := none, op := Op.store 75 (Operand.tmp 6) (Operand.tmp 62), type := 0, pos := "render.go:23", after := #[{ on := 39, ground := Ground.data }, { on := 38, ground := Ground.data }, { on := 28, ground := Ground.chain }, { on := 0, ground := Ground.phase }, { on := 1, ground := Ground.phase }, { on := 2, ground := Ground.phase }, { on := 3, ground := Ground.phase }, { on := 4, ground := Ground.phase }, { on := 5, ground := Ground.phase }, { on := 6, ground := Ground.phase }, { on := 7, ground := Ground.phase }, { on := 8, ground := Ground.phase }, { on := 9, ground := Ground.phase }, { on := 10, ground := Ground.phase }, { on := 11, ground := Ground.phase }, { on := 12, ground := Ground.phase }, { on := 13, ground := Ground.phase }, { on := 14, ground := Ground.phase }, { on := 15, ground := Ground.phase }, { on := 16, ground := Ground.phase }, { on := 17, ground := Ground.phase }, { on := 18, ground := Ground.phase }, { on := 19, ground := Ground.phase }, { on := 20, ground := Ground.phase }, { on := 21, ground := Ground.phase }, { on := 22, ground := Ground.phase }, { on := 23, ground := Ground.phase }, { on := 24, ground := Ground.phase }, { on := 25, ground := Ground.phase }, { on := 26, ground := Ground.phase }, { on := 27, ground := Ground.phase }, { on := 28, ground := Ground.phase }, { on := 29, ground := Ground.phase }, { on := 30, ground := Ground.phase }, { on := 31, ground := Ground.phase }, { on := 32, ground := Ground.phase }, { on := 33, ground := Ground.phase }, { on := 34, ground := Ground.phase }, { on := 35, ground := Ground.phase }, { on := 36, ground := Ground.phase }, { on := 37, ground := Ground.phase }, { on := 38, ground := Ground.phase }, { on := 39, ground := Ground.phase }], guard := none }) rfl (fun K hK => ?_) ?_
              · go_simp
                refine hK.out _ _ (by (try dsimp only); go_keep) (fun hHeld => ?_)
                clear hK K
                try simp only [Act.put, List.setIfInBounds_toArray, List.set_cons_zero, List.set_cons_succ]
                refine wpAnyH_done (by kernel_rfl) ?_ _
                refine NoPanic.normal ?_
                go_wp2_with fail
                go_meet
                exact ⟨wo.heap.size, rfl, Nat.le_refl _, Lib.hid (by rw [← HE0.out]; exact heap_alloc_new wo _), Lib.hid (((Below.refl wo.heap.size wo).alloc (Nat.le_refl _) _).trans ⟨rfl, rfl, rfl, Nat.le_refl _, fun _ _ => rfl⟩)⟩
              exact AllReadyH.nil
            exact AllReadyH.nil
          exact AllReadyH.nil
      case rest =>
        obtain ⟨q, rfl, hq, HQ, HBq⟩ := hcut
        have hx := HQ.out
        have x1 : wc.cell? ⟨q, 1, none⟩ = some (.bool (firstB D k)) := cell_of_row wc q 1 _ 75 (0, 0) hx
        have x3 : wc.cell? ⟨q, 3, none⟩ = some (.bool (lastB D k)) := cell_of_row wc q 3 _ 75 (0, 0) hx
        have fz : ∀ j, wc.frozen? ⟨q, j, none⟩ = false := fun j => by simp [World.frozen?, hx]
        have hfx := fz 2
        have HT := Lib.hid (HF.out.lev k hkD)
        have HZ1 := Lib.hid (HF.out.sz k hkD)
        have HZ2 := Lib.hid (HF.out.no10 k hkD)
        have hlvN := Lib.hid (show zat D.lvs k = ((levN D k : Nat) : Int) by unfold levN; omega)
        have hlb : (drawnTo D k).length ≤ 700000000 := by
          have := drawnTo_len D HD.out HF.out k (by omega); omega
        have htx : (txt D k).size ≤ 1000 := by
          have h1 := (HD.out.hx _ (List.getElem_mem hkD)).2.2
          have e : (D.its[k]).2 = txt D k := by simp [txt, hkD]
          rw [← e]; exact h1
        have hIt := Lib.hid (fun (W : World) (hW : Below b wo W) (hBl : Bld b b (drawnTo D k) W) (F L : Bool) => item_any b gl gs (some ⟨g, 0, none⟩) cap D (drawnTo D k) k p (levN D k) (txt D k) (topB k) F (F && L) L (botB D k) W (HS.out.below hW) HD.out hBl hlb hkD hp
          (by rw [← hlvN.out]; exact (hW.block p hp).trans HPO.out) (by have := HT.out; unfold levN; omega) htx (by have := HZ1.out; omega) HZ2.out)
        have HDT := Lib.hid (show drawnTo D (k + 1) = drawnTo D k ++ lineL D k (levN D k) (topB k) (firstB D k) (firstB D k && lastB D k) (lastB D k) (botB D k) (fin D (txt D k)) from rfl)
        have HBb := Lib.hid (HBq.out.mono (Nat.le_of_lt hbo))
        have HKq := Lib.hid (HBk.out.keep HBq.out)
        have hqb : b ≤ q := by omega
        have x0 : wc.cell? ⟨q, 0, none⟩ = some (.bool (topB k)) := cell_of_row wc q 0 _ 75 (0, 0) hx
        have x2 : wc.cell? ⟨q, 2, none⟩ = some (.bool false) := cell_of_row wc q 2 _ 75 (0, 0) hx
        have x4 : wc.cell? ⟨q, 4, none⟩ = some (.bool (botB D k)) := cell_of_row wc q 4 _ 75 (0, 0) hx
        have HW2 := Lib.hid (show Below b wo (wc.setCell ⟨q, 2, none⟩ (.bool true)) from HBb.out.setCell (p := ⟨q, 2, none⟩) hqb _)
        have HK2 := Lib.hid (HBk.out.keep (HBq.out.setCell (p := ⟨q, 2, none⟩) hq (.bool true)))
        clear fz hg hcg hp hk z0 z1 hgl hbo HS HPO HBq hx HQ HZ1 HZ2 HT hlvN htx c3 p0
        generalize firstB D k = F at *
        generalize lastB D k = L at *
        generalize topB k = T at *
        generalize botB D k = M at *
        unfold hintV at hIt
        cases F with
        | false =>
          go_wp2_with (go_at_call 46; refine (hIt.out _ HBb.out HKq.out false L).mono ?_; rintro e w5 ⟨rfl, k1, k2⟩; have K1 := Lib.hid k1; have K2 := Lib.hid k2; clear k1 k2)
          go_roundw
          case rel => exact ⟨k + 1, by omega, by go_num, Lib.hid (by rw [HDT.out]; exact K1.out), Lib.hid ((HWk.out.trans HBb.out).trans K2.out)⟩
          case measure => simp [intOf]; omega
        | true =>
          cases L with
          | false =>
            go_wp2_with (go_at_call 46; refine (hIt.out _ HBb.out HKq.out true false).mono ?_; rintro e w5 ⟨rfl, k1, k2⟩; have K1 := Lib.hid k1; have K2 := Lib.hid k2; clear k1 k2)
            go_roundw
            case rel => exact ⟨k + 1, by omega, by go_num, Lib.hid (by rw [HDT.out]; exact K1.out), Lib.hid ((HWk.out.trans HBb.out).trans K2.out)⟩
            case measure => simp [intOf]; omega
          | true =>
            go_wp2_with (go_at_call 46; refine (hIt.out _ HW2.out HK2.out true true).mono ?_; rintro e w5 ⟨rfl, k1, k2⟩; have K1 := Lib.hid k1; have K2 := Lib.hid k2; clear k1 k2)
            go_roundw
            case rel => exact ⟨k + 1, by omega, by go_num, Lib.hid (by rw [HDT.out]; exact K1.out), Lib.hid ((HWk.out.trans HW2.out).trans K2.out)⟩
            case measure => simp [intOf]; omega
    · have hke : k = its.length := by omega
      subst hke
      have g19 : decide ((its.length : Int) < (its.length : Int)) = false := by simp
      have hbw := HBk.out.lt'
      have HR := Lib.hid (rnd_any gl b (drawnTo D its.length) wo HBk.out)
      have HG := Lib.hid (HS3.out.gl_lt)
      go_wp2_with (go_at_call 47; refine HR.out.mono ?_; rintro e w5 ⟨rfl, k1⟩; have K1 := Lib.hid k1; clear k1)
      go_ret
      exact ⟨rfl, (HW3.out.trans (HWk.out.mono (Nat.le_of_lt HG.out))).trans (K1.out.mono (Nat.le_of_lt HG.out))⟩
end Go.Proofs.YthdkbokdikhojaaGreatDoor
