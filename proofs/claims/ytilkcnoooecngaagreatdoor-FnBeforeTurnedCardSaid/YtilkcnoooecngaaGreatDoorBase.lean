/- Small words that the other texts share: arguments opened to cells, lists of strings and numbers that came in, bytes. No conditions. -/
import Derived.WalkKit
import Derived.ProofKit
import Derived.OpenShut
import Derived.ChangeOld
import Derived.SizedLaws
import Derived.SliceStrings
import Derived.Deep.Slices
import Derived.Deep.Fields
import Derived.Lib.Strings
import Derived.Lib.Hide
import Derived.Laws.Cover4
namespace Go.Proofs.YtilkcnoooecngaaGreatDoor
open Go.RowKit Go.ChangeShapes Go.WideShapes Go.Deep
set_option linter.unusedVariables false

theorem ret_true {b : Bool} (h : b = true) : Ending.returned (.bool b) = .returned (.bool true) := by rw [h]
theorem ret_bool {a b : Bool} (h : a = b) : Ending.returned (.bool a) = .returned (.bool b) := by rw [h]
theorem ret_i64 {a b : Int} (h : a = b) : Ending.returned (.int .i64 a) = .returned (.int .i64 b) := by rw [h]
theorem ret_str {a b : ByteArray} (h : a = b) : Ending.returned (.string a) = .returned (.string b) := by rw [h]
theorem wf_u8 {n : Int} (h : (Lit.int .u8 n).wf = true) : 0 ≤ n ∧ n ≤ 255 := bounds_u8 h
theorem wf_i32 {n : Int} (h : (Lit.int .i32 n).wf = true) : -2147483648 ≤ n ∧ n ≤ 2147483647 := bounds_i32 h
theorem wf_i64 {n : Int} (h : (Lit.int .i64 n).wf = true) : -9223372036854775808 ≤ n ∧ n ≤ 9223372036854775807 := bounds_i64 h

theorem bytesLess_eq : ∀ (x y : List UInt8), Op.bytesLess x y = decide (x < y)
  | [], [] => by simp [Op.bytesLess]
  | _ :: _, [] => by simp [Op.bytesLess]
  | [], _ :: _ => by simp [Op.bytesLess]
  | a :: x, b :: y => by
    rw [Op.bytesLess, bytesLess_eq x y]
    simp only [List.cons_lt_cons_iff]
    by_cases h1 : a < b <;> by_cases h2 : a = b <;> by_cases h3 : x < y <;> simp [h1, h2, h3]
theorem enc_ascii (c : Nat) (h : c < 128) : Utf8.encode (c : Int) = ⟨#[UInt8.ofNat c]⟩ := by
  have : ∀ c : Fin 128, Utf8.encode ((c : Nat) : Int) = ⟨#[UInt8.ofNat c]⟩ := by decide +kernel
  exact this ⟨c, h⟩
theorem bytes_ext {a b : ByteArray} (h : a.data.toList = b.data.toList) : a = b := WideShapes.bytes_inj h
theorem beq_bytes (a b : ByteArray) : (a.toList == b.toList) = decide (a = b) := by
  rw [Lib.toList_data, Lib.toList_data, Bool.eq_iff_iff]
  simp only [beq_iff_eq, decide_eq_true_eq]
  exact ⟨bytes_ext, fun h => by rw [h]⟩

section
variable {H : Type} {enc : TypeId × Value → H} {P : Program} {w : World} {base : Nat} {spare : Nat → Bool} {held : Bool}
/-- A struct of plain cells, by value: its cells, and each field's reading. -/
theorem open_cells {r : Reach} {b0 : Nat} {t : TypeId} {fs : Array Field} {v : Value} {d : DataW H} {p : List MemPlace} (hs : P.underlying t = some (.struct fs)) (hone : oneCellFields P fs = true) (hC : P.cellsOf t = fs.size)
    (hv : Value.okWide P w r b0 t v) (h : DataW.Trod enc P w base spare held t v d p) :
    ∃ (cs : List Value) (ys : List (DataW H × List MemPlace)) (n : Nat), v = .agg cs.toArray ∧ cs.length = fs.size ∧ d = .agg (ys.map (·.1)) ∧ ys.length = fs.size ∧
      ∀ (i : Nat) (f : Field) (c : Value) (y : DataW H × List MemPlace), fs[i]? = some f → cs[i]? = some c → ys[i]? = some y → DataW.trod enc P w base spare held n f.type [c] = some y := by
  obtain ⟨cs, rfl, hsz⟩ := okWide_struct hs hv
  obtain ⟨l⟩ := cs
  obtain ⟨fuel, hf⟩ := h
  obtain ⟨xs, n, _, hx, _, hlen, hg⟩ := DataW.trod_struct hs hf
  simp only [Prod.mk.injEq] at hx
  have hl : l.length = fs.size := by simpa using hsz.trans hC
  refine ⟨l, xs, n, rfl, hl, hx.1, hlen, fun i f c y hfi hc hy => ?_⟩
  obtain ⟨o, k⟩ := hone_of hone i f hfi
  have := hg i f hfi
  rw [o, k, hy] at this
  rw [← this]
  have hi : i < l.length := (List.getElem?_eq_some_iff.1 hc).1
  have e : (List.drop i l).take 1 = [c] := by
    rw [List.drop_eq_getElem_cons hi]
    have := (List.getElem?_eq_some_iff.1 hc).2
    simp [this]
  show _ = DataW.trod enc P w base spare held n f.type ((List.drop i (Value.agg l.toArray).cells.toList).take 1)
  show _ = DataW.trod enc P w base spare held n f.type ((List.drop i l).take 1)
  rw [e]

/-- A slice of n one-cell elements that reads as a list, nil let in; it lies below block B. -/
def Row (w : World) (B : Nat) (a : Option Addr) (n : Nat) (xs : List Value) : Prop :=
  xs.length = n ∧ (0 < n → ∃ ad : Addr, a = some ad ∧ ad.spot = none ∧ ad.block < B ∧ ∀ j u, xs[j]? = some u → w.cell? (ad.add j) = some u)

theorem block_add (a : Addr) (n : Nat) : (a.add n).block = a.block := by unfold Addr.add; split <;> rfl
theorem Row.nil (w : World) (B : Nat) : Row w B none 0 [] := ⟨rfl, fun h => absurd h (by omega)⟩
theorem Row.at_ {w : World} {B n : Nat} {a : Option Addr} {xs : List Value} (h : Row w B a n xs) {k : Nat} (hk : k < n) :
    ∃ b o u, a = some ⟨b, o, none⟩ ∧ b < B ∧ xs[k]? = some u ∧ w.cell? ⟨b, o + k, none⟩ = some u := by
  obtain ⟨ad, e, hsp, hb, hc⟩ := h.2 (by omega)
  have hl : k < xs.length := by have := h.1; omega
  obtain ⟨b, o, sp⟩ := ad
  simp only at hsp hb
  subst hsp
  refine ⟨b, o, xs[k], e, hb, List.getElem?_eq_getElem hl, ?_⟩
  have := hc k _ (List.getElem?_eq_getElem hl)
  by_cases h0 : k = 0
  · subst h0; simpa [Addr.add] using this
  · simpa [Addr.add, h0] using this
theorem Row.keep {w w' : World} {B n : Nat} {a : Option Addr} {xs : List Value} (h : Row w B a n xs) (hk : ∀ p : Addr, p.block < B → w'.cell? p = w.cell? p) : Row w' B a n xs :=
  ⟨h.1, fun hn => by
    obtain ⟨ad, e, hs, hb, hc⟩ := h.2 hn
    exact ⟨ad, e, hs, hb, fun j u hu => (hk _ (by rw [block_add]; exact hb)).trans (hc j u hu)⟩⟩
theorem Row.more {w : World} {B B' n : Nat} {a : Option Addr} {xs : List Value} (h : Row w B a n xs) (hB : B ≤ B') : Row w B' a n xs :=
  ⟨h.1, fun hn => by
    obtain ⟨ad, e, hs, hb, hc⟩ := h.2 hn
    exact ⟨ad, e, hs, by omega, hc⟩⟩
theorem Row.below {w w' : World} {B n : Nat} {a : Option Addr} {xs : List Value} (h : Row w B a n xs) (hb : Below B w w') : Row w' B a n xs := h.keep fun _ hp => hb.cell hp

/-- A []string that came in: at most 2^47 bytes each string, 2^47 / 16 of them; it reads as a list. -/
def Strs (w : World) (a : Option Addr) (n cap : Nat) (ss : List ByteArray) : Prop :=
  Row w w.heap.size a n (ss.map Value.string) ∧ ss.length = n ∧ n ≤ cap ∧ cap ≤ maxLen ∧ n * 16 ≤ 140737488351232 ∧ ∀ s ∈ ss, s.size ≤ 140737488351232
/-- A []int (or of another kind) that came in. -/
def Nums (k : IntKind) (w : World) (a : Option Addr) (n cap : Nat) (zs : List Int) : Prop :=
  Row w w.heap.size a n (zs.map (Value.int k)) ∧ zs.length = n ∧ n ≤ cap ∧ cap ≤ maxLen ∧ n ≤ 140737488351232 ∧ ∀ z ∈ zs, (Lit.int k z).wf = true

theorem row_of {w : World} {ad : Addr} {n : Nat} {xs : List Value} (hl : xs.length = n) (hc : ∀ j u, xs[j]? = some u → w.cell? (ad.add j) = some u) : Row w w.heap.size (some ad) n xs := by
  refine ⟨hl, fun hn => ?_⟩
  have h0 : 0 < xs.length := by omega
  have c0 := hc 0 _ (List.getElem?_eq_getElem h0)
  have c0' : w.cell? ad = some xs[0] := by simpa [Addr.add] using c0
  refine ⟨ad, rfl, World.cell?_spot c0', ?_, hc⟩
  rcases Nat.lt_or_ge ad.block w.heap.size with h | h
  · exact h
  · exfalso
    unfold World.cell? at c0'
    rw [Array.getElem?_eq_none h] at c0'
    simp at c0'

theorem mem_weightsAll {e : TypeId} : ∀ {l : List (DataW H)} {d : DataW H}, d ∈ l → ∀ n ∈ d.weights P e, n ∈ DataW.weightsAll P e l
  | [], _, h => by simp at h
  | x :: l, d, h => by
    intro n hn
    rw [DataW.weightsAll]
    rcases List.mem_cons.1 h with rfl | h
    · exact List.mem_append_left _ hn
    · exact List.mem_append_right _ (mem_weightsAll h n hn)
theorem sized_elem_string {ts : List TypeId} {ds : List (DataW H)} (h : (DataW.weightsEach P ts ds).all (· ≤ reachBytes) = true) {j : Nat} {t e : TypeId} {elems spr : List (DataW H)} (ht : ts[j]? = some t) (hd : ds[j]? = some (.slice elems spr)) (hu : P.underlying t = some (.slice e))
    {l : List UInt8} (hs : (DataW.lit (.string l) : DataW H) ∈ elems ++ spr) : l.length ≤ reachBytes := by
  have hm : l.length ∈ DataW.weights P t (.slice elems spr) := by
    rw [DataW.weights, hu]
    simp only [List.mem_cons, List.mem_append]
    right
    rcases List.mem_append.1 hs with h1 | h1
    · left; exact mem_weightsAll h1 _ (by simp [DataW.weights])
    · right; exact mem_weightsAll h1 _ (by simp [DataW.weights])
  have := DataW.weights_mem_each ht hd _ hm
  simpa using List.all_eq_true.1 h _ this

theorem args_strs {t e : TypeId} {a : Option Addr} {len cap : Nat} {d : DataW H} {ps : List MemPlace} {ts : List TypeId} {ds : List (DataW H)} {j : Nat}
    (hsz : (DataW.weightsEach P ts ds).all (· ≤ reachBytes) = true) (ht : ts[j]? = some t) (hd : ds[j]? = some d) (hu : P.underlying t = some (.slice e)) (he : P.underlying e = some .string) (hc : P.cellsOf e = 1) (hB : P.bytesOf e = 16)
    (h : DataW.Trod enc P w base spare held t (.slice a len cap) d ps) (hlt : ∀ x ∈ ps, x.block < w.heap.size) : ∃ ss, Strs w a len cap ss := by
  obtain ⟨fuel, hf⟩ := h
  rcases open_strings hu he hc hf with ⟨hcs, _⟩ | ⟨x, l, c, ss, hcs, _, hl, hm, hz, hx, hcell, hsm⟩
  · simp [Value.cells] at hcs
    obtain ⟨rfl, rfl, rfl⟩ := hcs
    exact ⟨[], Row.nil _ _, rfl, by omega, by simp [maxLen], by omega, by simp⟩
  · simp [Value.cells] at hcs
    obtain ⟨rfl, rfl, rfl⟩ := hcs
    obtain ⟨hx, _⟩ := Prod.mk.inj hx
    subst hx
    have hl2 : len ≤ ss.length := by rw [hz]; split <;> omega
    have z := sized_slice hsz ht hd hu
    rw [hB] at z
    have e1 : (strs (H := H) (ss.take len)).length + (strs (H := H) (ss.drop len)).length = ss.length := by simp [strs]; omega
    rw [e1] at z
    have z' : ss.length * 16 ≤ 140737488351232 := z
    have each : ∀ s ∈ ss, s.size ≤ 140737488351232 := by
      intro s hs
      have hs' : (DataW.lit (.string s.data.toList) : DataW H) ∈ strs (ss.take len) ++ strs (ss.drop len) := by
        have : strs (H := H) (ss.take len) ++ strs (ss.drop len) = strs ss := by unfold strs; rw [← List.map_append, List.take_append_drop]
        rw [this]
        exact List.mem_map.2 ⟨s, hs, rfl⟩
      exact sized_elem_string hsz ht hd hu hs'
    refine ⟨ss.take len, row_of (by simp; omega) (fun i u hi => ?_), by simp; omega, hl, hm, by omega, fun s hs => each s (List.mem_of_mem_take hs)⟩
    rw [List.getElem?_map, List.getElem?_take] at hi
    split at hi
    · rename_i hil
      rw [hcell i (by omega)]
      rw [List.getD_eq_getElem?_getD]
      rw [Option.map_eq_some_iff] at hi
      obtain ⟨s, h1, h2⟩ := hi
      rw [h1, ← h2]; rfl
    · simp at hi
theorem args_ints {t e : TypeId} {k : IntKind} {a : Option Addr} {len cap : Nat} {d : DataW H} {ps : List MemPlace} {ts : List TypeId} {ds : List (DataW H)} {j : Nat}
    (hsz : (DataW.weightsEach P ts ds).all (· ≤ reachBytes) = true) (ht : ts[j]? = some t) (hd : ds[j]? = some d) (hu : P.underlying t = some (.slice e)) (he : P.underlying e = some (.int k)) (hc : P.cellsOf e = 1) (hB : decide (0 < P.bytesOf e) = true)
    (h : DataW.Trod enc P w base spare held t (.slice a len cap) d ps) (hlt : ∀ x ∈ ps, x.block < w.heap.size) : ∃ zs, Nums k w a len cap zs := by
  obtain ⟨fuel, hf⟩ := h
  rcases ChangeShapes.open_ints hu he hc hf with ⟨hcs, _⟩ | ⟨x, l, c, zs, hcs, _, hl, hm, hz, hx, hcell, hwf⟩
  · simp [Value.cells] at hcs
    obtain ⟨rfl, rfl, rfl⟩ := hcs
    exact ⟨[], Row.nil _ _, rfl, by omega, by simp [maxLen], by omega, by simp⟩
  · simp [Value.cells] at hcs
    obtain ⟨rfl, rfl, rfl⟩ := hcs
    obtain ⟨hx, _⟩ := Prod.mk.inj hx
    subst hx
    have hl2 : len ≤ zs.length := by rw [hz]; split <;> omega
    have z := sized_slice hsz ht hd hu
    have hB' : 0 < P.bytesOf e := of_decide_eq_true hB
    have e1 : (lits (H := H) k (zs.take len)).length + (lits (H := H) k (zs.drop len)).length = zs.length := by simp [lits]; omega
    rw [e1] at z
    have z' : zs.length ≤ 140737488351232 := by
      have : zs.length * 1 ≤ zs.length * P.bytesOf e := Nat.mul_le_mul_left _ hB'
      have z2 : zs.length * P.bytesOf e ≤ 140737488351232 := z
      omega
    refine ⟨zs.take len, row_of (by simp; omega) (fun i u hi => ?_), by simp; omega, hl, hm, by omega, fun z hz => hwf z (List.mem_of_mem_take hz)⟩
    rw [List.getElem?_map, List.getElem?_take] at hi
    split at hi
    · rename_i hil
      rw [hcell i (by omega)]
      rw [List.getD_eq_getElem?_getD]
      rw [Option.map_eq_some_iff] at hi
      obtain ⟨s, h1, h2⟩ := hi
      rw [h1, ← h2]; rfl
    · simp at hi
end

theorem list_of_len2 {α : Type} {l : List α} (h : l.length = 2) : ∃ x0 x1, l = [x0, x1] :=
  match l, h with
  | [x0, x1], _ => ⟨_, _, rfl⟩

theorem list_of_len3 {α : Type} {l : List α} (h : l.length = 3) : ∃ x0 x1 x2, l = [x0, x1, x2] :=
  match l, h with
  | [x0, x1, x2], _ => ⟨_, _, _, rfl⟩

theorem list_of_len4 {α : Type} {l : List α} (h : l.length = 4) : ∃ x0 x1 x2 x3, l = [x0, x1, x2, x3] :=
  match l, h with
  | [x0, x1, x2, x3], _ => ⟨_, _, _, _, rfl⟩

theorem list_of_len5 {α : Type} {l : List α} (h : l.length = 5) : ∃ x0 x1 x2 x3 x4, l = [x0, x1, x2, x3, x4] :=
  match l, h with
  | [x0, x1, x2, x3, x4], _ => ⟨_, _, _, _, _, rfl⟩

theorem list_of_len7 {α : Type} {l : List α} (h : l.length = 7) : ∃ x0 x1 x2 x3 x4 x5 x6, l = [x0, x1, x2, x3, x4, x5, x6] :=
  match l, h with
  | [x0, x1, x2, x3, x4, x5, x6], _ => ⟨_, _, _, _, _, _, _, rfl⟩

theorem list_of_len8 {α : Type} {l : List α} (h : l.length = 8) : ∃ x0 x1 x2 x3 x4 x5 x6 x7, l = [x0, x1, x2, x3, x4, x5, x6, x7] :=
  match l, h with
  | [x0, x1, x2, x3, x4, x5, x6, x7], _ => ⟨_, _, _, _, _, _, _, _, rfl⟩

theorem list_of_len9 {α : Type} {l : List α} (h : l.length = 9) : ∃ x0 x1 x2 x3 x4 x5 x6 x7 x8, l = [x0, x1, x2, x3, x4, x5, x6, x7, x8] :=
  match l, h with
  | [x0, x1, x2, x3, x4, x5, x6, x7, x8], _ => ⟨_, _, _, _, _, _, _, _, _, rfl⟩

theorem list_of_len18 {α : Type} {l : List α} (h : l.length = 18) : ∃ x0 x1 x2 x3 x4 x5 x6 x7 x8 x9 x10 x11 x12 x13 x14 x15 x16 x17, l = [x0, x1, x2, x3, x4, x5, x6, x7, x8, x9, x10, x11, x12, x13, x14, x15, x16, x17] :=
  match l, h with
  | [x0, x1, x2, x3, x4, x5, x6, x7, x8, x9, x10, x11, x12, x13, x14, x15, x16, x17], _ => ⟨_, _, _, _, _, _, _, _, _, _, _, _, _, _, _, _, _, _, rfl⟩

end Go.Proofs.YtilkcnoooecngaaGreatDoor
