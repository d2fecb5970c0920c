/- toUpper, Format.Apply and impl.TextFormat, in small and in capital letters. Texts of known runes, at most 1000000 bytes. -/
import Derived.Test.YtmllpoafjcldgaaDoorFsN
import Derived.Test.YtmllpoafjcldgaaDoorShelf
namespace Go.Proofs.YtmllpoafjcldgaaDoor
open Go.RowKit
open Go.Lib (encodeRune toUpperU toLowerU caseA CaseRow CaseVar decodeL toLowerD)
set_option linter.unusedVariables false
theorem halt_Fr {p : Prop} (h : Hid p) : p := h
theorem resume_Fr {p : Prop} (h : p) : Hid p := h
def StrR (q : List UInt8) (w : World) (e : Ending) (w' : World) : Prop := e = .returned (.string ⟨q.toArray⟩) ∧ Below w.heap.size w w'
set_option maxHeartbeats 1000000 in
set_option maxRecDepth 100000 in
theorem up_any (s : ByteArray) (T : List Nat) (w : World) (hT : s.data.toList = enc T) (hr : ∀ r ∈ T, Rn r ∧ r ≠ 65533) (hs : s.size ≤ 1000000) (hV : ∀ W, Below w.heap.size w W → CaseIn W) :
    Calls Tryd.prog 21 #[.string s] w (StrR (enc (upT false T)) w) := by
  have HM := Lib.hid (fun W (h1 : Below w.heap.size w W) (h2 : CB w.heap.size false W) (h3 : w.heap.size < W.heap.size) => map_any w.heap.size w.heap.size s T false W hT hr hs (Nat.le_refl _) h3 h2 (fun W' h => hV W' (h1.trans h)))
  clear hT hr hs hV
  go_enter Tryd.func21, Tryd.ntmps21
  go_wp2_with (go_at_call 30; refine halt_Fr ?_)
  refine resume_Fr ?_
  refine (HM.out _ ?_ ?_ ?_).mono ?_
  · exact (Below.refl _ _).alloc (Nat.le_refl _) _
  · exact heap_alloc_new _ _
  · simp
  rintro e w1 ⟨rfl, -, hb⟩
  have HB := Lib.hid hb
  clear hb
  go_wp2_with fail
  go_ret
  exact ⟨rfl, ((Below.refl _ _).alloc (Nat.le_refl _) _).trans HB.out⟩
abbrev Tabs (w : World) : Prop := CaseVar (Tryd.lays159_ren.g 13) caseA w ∧ Lib.Utf8Tabs (Tryd.lays159_ren.g 3) (Tryd.lays159_ren.g 4) w
theorem case_below {g : Nat} {T : Array CaseRow} {w w' : World} (h : CaseVar g T w) (hb : Below w.heap.size w w') : CaseVar g T w' := by
  have lt : ∀ {a : Addr} {v : Value}, w.cell? a = some v → a.block < w.heap.size := fun {a v} hc => by
    rcases Nat.lt_or_ge a.block w.heap.size with h' | h'
    · exact h'
    · simp [World.cell?, Array.getElem?_eq_none h'] at hc
  obtain ⟨R, oR, cap, h1, h2⟩ := h
  refine ⟨R, oR, cap, (hb.cell (lt h1)).trans h1, fun i hi => ?_⟩
  obtain ⟨a1, a2, a3, a4, a5⟩ := h2 i hi
  exact ⟨(hb.cell (lt a1)).trans a1, (hb.cell (lt a2)).trans a2, (hb.cell (lt a3)).trans a3, (hb.cell (lt a4)).trans a4, (hb.cell (lt a5)).trans a5⟩
theorem Tabs.stays {w w' : World} (h : Tabs w) (hb : Below w.heap.size w w') : Tabs w' := ⟨case_below h.1 hb, Utf8Tabs_below h.2 hb⟩
def fmtT (u : Bool) (T : List Nat) : List Nat := if u = true then upT false T else T.map lowN
def fcode (u : Bool) : Int := if u = true then 3 else 1
set_option maxHeartbeats 1000000 in
set_option maxRecDepth 100000 in
theorem apply_any (u : Bool) (s : ByteArray) (T : List Nat) (w : World) (hT : s.data.toList = enc T) (hr : ∀ r ∈ T, Rn r ∧ r ≠ 65533) (hs : s.size ≤ 1000000) (hV : Tabs w) :
    Calls Tryd.prog 14 #[.int .i64 (fcode u), .string s] w (StrR (enc (fmtT u T)) w) := by
  cases u with
  | true =>
    have H := Lib.hid (up_any s T w hT hr hs (fun W hb => (hV.stays hb).1))
    clear hT hr hs hV
    show Calls Tryd.prog _ #[.int .i64 3, .string s] w (StrR (enc (upT false T)) w)
    go_enter Tryd.func14, Tryd.ntmps14
    go_wp2_with (go_at_call 21; refine H.out.mono ?_; rintro e w' ⟨rfl, hb⟩; have HB := Lib.hid hb; clear hb)
    go_ret
    exact ⟨rfl, HB.out⟩
  | false =>
    have H := Lib.hid (Tryd.strings_ToLower_any s w (by omega) hV.1 hV.2)
    have HE := Lib.hid (show toLowerD s.data.toList = enc (T.map lowN) by
      rw [hT]
      exact mapD_enc toLowerU T (fun r h => (hr r h).1) (fun r _ => (low_facts r).1))
    clear hT hr hs hV
    rw [HE.out] at H
    show Calls Tryd.prog _ #[.int .i64 1, .string s] w (StrR (enc (T.map lowN)) w)
    go_enter Tryd.func14, Tryd.ntmps14
    go_wp2_with (go_at_call 19; refine H.out.mono ?_; rintro e w' ⟨rfl, hb⟩; have HB := Lib.hid hb; clear hb)
    go_ret
    exact ⟨rfl, HB.out⟩
theorem format_any (u : Bool) (s : ByteArray) (T : List Nat) (w : World) (hT : s.data.toList = enc T) (hr : ∀ r ∈ T, Rn r ∧ r ≠ 65533) (hs : s.size ≤ 1000000) (hV : Tabs w) :
    Calls Tryd.prog 8 #[.int .i64 (fcode u), .string s] w (StrR (enc (fmtT u T)) w) := by
  have H := Lib.hid (apply_any u s T w hT hr hs hV)
  clear hT hr hs hV
  generalize fcode u = z at *
  go_enter Tryd.func8, Tryd.ntmps8
  go_wp2_with (go_at_call 14; refine H.out.mono ?_; rintro e w' ⟨rfl, hb⟩; have HB := Lib.hid hb; clear hb)
  go_ret
  exact ⟨rfl, HB.out⟩
theorem mem_stR : ∀ (T : List Nat) (e : Bool), ∀ r ∈ stR e T, r ∈ T
  | [], e, r, h => by cases h
  | x :: T, e, r, h => by
    rw [stR] at h
    rcases List.mem_append.1 h with h | h
    · split at h
      · cases h
      · simp at h; subst h; simp
    · exact List.mem_cons_of_mem _ (mem_stR T _ r h)
theorem strip_fmt (u : Bool) (T : List Nat) (h : okF lowN false T) : stR false (fmtT u T) = fmtT u (stR false T) := by
  cases u with
  | true => exact strip_up T
  | false => exact strip_low T h
theorem fmt_rn (u : Bool) (T : List Nat) (h : ∀ r ∈ T, Rn r) : ∀ r ∈ fmtT u T, Rn r := by
  cases u with
  | true => exact upT_rn T false h
  | false => intro r hr; obtain ⟨x, _, rfl⟩ := List.mem_map.1 (show r ∈ T.map lowN from hr); exact norm_rn _
theorem fmt_len (u : Bool) (T : List Nat) : (enc (fmtT u T)).length ≤ 4 * T.length := by
  refine Nat.le_trans (enc_len _) ?_
  cases u with
  | true => rw [show fmtT true T = upT false T from rfl, upT_len]; exact Nat.le_refl _
  | false => rw [show fmtT false T = T.map lowN from rfl, List.length_map]; exact Nat.le_refl _
theorem enc49 : enc [49] = [49] := by
  have e1 : encodeRune ((49 : Nat) : Int) = [49] := (rn_ascii (by decide : 49 < 128)).2
  rw [enc_cons, e1]; rfl
theorem fmt49 (u : Bool) : fmtT u [49] = [49] := by
  cases u <;> decide
theorem format_one (u : Bool) (w : World) (hV : Tabs w) : Calls Tryd.prog 8 #[.int .i64 (fcode u), .string ⟨#[49]⟩] w fun e w' => e = .returned (.string ⟨#[49]⟩) ∧ Below w.heap.size w w' := by
  refine (format_any u ⟨#[49]⟩ [49] w (by rw [enc49]) (fun r hr => by simp at hr; subst hr; exact ⟨(rn_ascii (by decide)).1, by decide⟩) (by decide) hV).mono ?_
  rintro e w' ⟨rfl, hb⟩
  refine ⟨?_, hb⟩
  rw [fmt49, enc49]
end Go.Proofs.YtmllpoafjcldgaaDoor
