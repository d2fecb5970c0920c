/- FnJunctionTurned: the walk of the law, for every box and every merging. No conditions. -/
import Derived.Test.YtlppbalnjogkoaaJunG
import Derived.WalkKit
import Derived.Handy
import Derived.Deep.RegionHeld3
import Derived.Deep.WholeRow
import Derived.WalkLawsBesides
namespace Go.Proofs.Ytlppbalnjogkoaa
open Go.RowKit
set_option linter.unusedVariables false
variable {P : Program}
def stK (p v : Value) : Sem Unit := Instr.storeAt 49 p v
theorem st_exec (ρ : Operand → Value) (p x : Operand) (d : Option Tmp) (t : TypeId) (ps : String) (af : Array Edge) (g : Option (Nat × Bool)) :
    execOp ρ ⟨d, .store 49 p x, t, ps, af, g⟩ = (do stK (ρ p) (ρ x); pure .skip) := rfl
theorem stK_row (g : Nat) (old cs : Array Value) (ho : old.size = 18) (hs : cs.size = 18) (h1 : cs.all (·.oneCell') = true) (W : World) (h : W.heap[g]? = some (.cells old 49 (0, 0))) : (stK (.pointer (some ⟨g, 0, none⟩)) (.agg cs)).run Try.prog W = .ok () (W.setRow g cs) := by
  have h49 : (Try.prog.info? 49).map (·.size) = some cs.size := by rw [hs]; kernel_rfl
  unfold stK
  simp only [Instr.storeAt, Instr.sureAddr, Sem.run_bind, Sem.run_pure, Result.andThen]
  exact run_storeVar_row W g 49 49 old cs h h49 (by rw [ho, hs]) h1
theorem setRow_past (W : World) (o : Obj) (g : Nat) (cs : Array Value) (hg : g < W.heap.size) : (W.alloc o).setRow g cs = (W.setRow g cs).alloc o := by
  simp only [World.setRow, World.alloc]
  congr 1
  apply Array.ext_getElem?
  intro i
  rw [Array.getElem?_modify]
  by_cases h : g = i
  · subst h
    simp [Array.getElem?_push, Array.getElem?_modify, Nat.ne_of_lt hg]
  · simp [Array.getElem?_push, Array.getElem?_modify, h]
theorem stK_1 (n : Nat) (old cs : Array Value) (ho : old.size = 18) (hs : cs.size = 18) (h1 : cs.all (·.oneCell') = true) (W : World) (hn : n = W.heap.size) :
    (stK (.pointer (some ⟨n, 0, none⟩)) (.agg cs)).run Try.prog (W.alloc (.cells old 49)).drew = .ok () (W.alloc (.cells cs 49)).drew := by
  rw [stK_row n old cs ho hs h1 _ (by subst hn; exact heap_alloc_new W _)]
  congr 1
  show ((W.alloc (.cells old 49)).setRow n cs).drew = _
  rw [setRow_at W old cs 49 n hn]
theorem stK_2 (n : Nat) (old cs : Array Value) (o : Obj) (ho : old.size = 18) (hs : cs.size = 18) (h1 : cs.all (·.oneCell') = true) (W : World) (hn : n = W.heap.size) :
    (stK (.pointer (some ⟨n, 0, none⟩)) (.agg cs)).run Try.prog ((W.alloc (.cells old 49)).alloc o).drew = .ok () ((W.alloc (.cells cs 49)).alloc o).drew := by
  rw [stK_row n old cs ho hs h1 _ (by subst hn; exact (Below.heap_alloc (W.alloc (.cells old 49)) o W.heap.size (by simp)).trans (heap_alloc_new W _))]
  congr 1
  show (((W.alloc (.cells old 49)).alloc o).setRow n cs).drew = _
  rw [setRow_past _ _ _ _ (by simp; omega), setRow_at W old cs 49 n hn]
theorem SAd {W : World} {g : Nat} {o o' : Obj} (h : W.heap[g]? = some o) : (W.alloc o').heap[g]? = some o := (Below.heap_alloc W o' g (Array.getElem?_eq_some_iff.1 h).1).trans h
attribute [local go_sem ↓] ld_exec st_exec
theorem turn1 (a b l r : Bool) (b0 b1 b2 b3 b4 b5 b6 b7 b8 b9 b10 b11 b12 b13 b14 b15 b16 b17 : ByteArray) : specJ a b r l b0 b1 b2 b3 b4 b13 b6 b7 b8 b9 b10 b11 b12 b5 b14 b15 b16 b17 = specJ a b l r b0 b1 b2 b3 b4 b5 b6 b7 b8 b9 b10 b11 b12 b13 b14 b15 b16 b17 := by cases a <;> cases b <;> cases l <;> cases r <;> rfl
theorem turn2 (a b l r : Bool) (b0 b1 b2 b3 b4 b5 b6 b7 b8 b9 b10 b11 b12 b13 b14 b15 b16 b17 : ByteArray) : specJ b a l r b0 b1 b16 b3 b4 b5 b6 b7 b8 b9 b10 b11 b12 b13 b14 b15 b2 b17 = specJ a b l r b0 b1 b2 b3 b4 b5 b6 b7 b8 b9 b10 b11 b12 b13 b14 b15 b16 b17 := by cases a <;> cases b <;> cases l <;> cases r <;> rfl
theorem jside (a b l r : Bool) (b0 b1 b2 b3 b4 b5 b6 b7 b8 b9 b10 b11 b12 b13 b14 b15 b16 b17 : ByteArray) (w : World) :
    Calls Try.prog 31 #[.bool a, .bool b, .bool r, .bool l, .agg #[.string b0, .string b1, .string b2, .string b3, .string b4, .string b13, .string b6, .string b7, .string b8, .string b9, .string b10, .string b11, .string b12, .string b5, .string b14, .string b15, .string b16, .string b17]] w fun e w' => e = .returned (.string (specJ a b l r b0 b1 b2 b3 b4 b5 b6 b7 b8 b9 b10 b11 b12 b13 b14 b15 b16 b17)) ∧ Below w.heap.size w w' := by
  have h := junction_any a b r l b0 b1 b2 b3 b4 b13 b6 b7 b8 b9 b10 b11 b12 b5 b14 b15 b16 b17 w
  rwa [turn1] at h
theorem jover (a b l r : Bool) (b0 b1 b2 b3 b4 b5 b6 b7 b8 b9 b10 b11 b12 b13 b14 b15 b16 b17 : ByteArray) (w : World) :
    Calls Try.prog 31 #[.bool b, .bool a, .bool l, .bool r, .agg #[.string b0, .string b1, .string b16, .string b3, .string b4, .string b5, .string b6, .string b7, .string b8, .string b9, .string b10, .string b11, .string b12, .string b13, .string b14, .string b15, .string b2, .string b17]] w fun e w' => e = .returned (.string (specJ a b l r b0 b1 b2 b3 b4 b5 b6 b7 b8 b9 b10 b11 b12 b13 b14 b15 b16 b17)) ∧ Below w.heap.size w w' := by
  have h := junction_any b a l r b0 b1 b16 b3 b4 b5 b6 b7 b8 b9 b10 b11 b12 b13 b14 b15 b2 b17 w
  rwa [turn2] at h
theorem jx (w : World) :
    Calls Try.prog 31 #[.bool false, .bool false, .bool false, .bool false, .agg #[.string ⟨#[]⟩, .string ⟨#[]⟩, .string ⟨#[]⟩, .string ⟨#[]⟩, .string ⟨#[]⟩, .string ⟨#[]⟩, .string ⟨#[]⟩, .string ⟨#[120]⟩, .string ⟨#[]⟩, .string ⟨#[]⟩, .string ⟨#[]⟩, .string ⟨#[]⟩, .string ⟨#[]⟩, .string ⟨#[]⟩, .string ⟨#[]⟩, .string ⟨#[]⟩, .string ⟨#[]⟩, .string ⟨#[]⟩]] w fun e w' => e = .returned (.string ⟨#[120]⟩) ∧ Below w.heap.size w w' := junction_any false false false false ⟨#[]⟩ ⟨#[]⟩ ⟨#[]⟩ ⟨#[]⟩ ⟨#[]⟩ ⟨#[]⟩ ⟨#[]⟩ ⟨#[120]⟩ ⟨#[]⟩ ⟨#[]⟩ ⟨#[]⟩ ⟨#[]⟩ ⟨#[]⟩ ⟨#[]⟩ ⟨#[]⟩ ⟨#[]⟩ ⟨#[]⟩ ⟨#[]⟩ w
theorem abs_list {ops : Array Oper} {rest : List Oper} {a : Act} {w : World} {Q : Exit → Act → World → Prop} (S : World → Prop) (hS : S w) (h : ∀ w', S w' → wpList P ops Q rest a w') : wpList P ops Q rest a w := h w hS
set_option maxHeartbeats 4000000 in
set_option maxRecDepth 100000 in
theorem lawT_any (a b l r : Bool) (b0 b1 b2 b3 b4 b5 b6 b7 b8 b9 b10 b11 b12 b13 b14 b15 b16 b17 : ByteArray) (w : World) :
    Calls Try.prog 12 #[.bool a, .bool b, .bool l, .bool r, boxV b0 b1 b2 b3 b4 b5 b6 b7 b8 b9 b10 b11 b12 b13 b14 b15 b16 b17] w fun e w' => e = .returned (.bool true) ∧ Below w.heap.size w w' := by
  have hld := ldK_run w.heap.size #[.string b0, .string b1, .string b2, .string b3, .string b4, .string b5, .string b6, .string b7, .string b8, .string b9, .string b10, .string b11, .string b12, .string b13, .string b14, .string b15, .string b16, .string b17] rfl
  have hl0 := hld _ (heap_alloc_new w _)
  go_enter Try.func12, Try.ntmps12
  go_wp2_with (go_at_call 30; refine halt_here ?_)
  refine resume ?_
  refine (fits11_any _ _ _ _ _ _ _ _ _ _ _ _ _ _ _ _ _ _ _).mono ?_
  rintro e w0 ⟨x, rfl, hb0⟩
  have S0 : w0.heap[w.heap.size]? = some (.cells #[.string b0, .string b1, .string b2, .string b3, .string b4, .string b5, .string b6, .string b7, .string b8, .string b9, .string b10, .string b11, .string b12, .string b13, .string b14, .string b15, .string b16, .string b17] 49 (0, 0)) := keepS hb0 (heap_alloc_new w _)
  have B0 : Below w.heap.size w w0 := ((Below.refl w.heap.size w).alloc (Nat.le_refl _) _).trans (hb0.mono (by simp))
  have z0 : w.heap.size < w0.heap.size := (Array.getElem?_eq_some_iff.1 S0).1
  cases x
  · go_wp2
    go_ret
    exact ⟨rfl, B0⟩
  · have hone : (#[.string b0, .string b1, .string b2, .string b3, .string b4, .string b5, .string b6, .string b7, .string b8, .string b9, .string b10, .string b11, .string b12, .string b13, .string b14, .string b15, .string b16, .string b17] : Array Value).all (·.oneCell') = true := by simp [Value.oneCell']
    have s1 := fun (n : Nat) (W : World) (hn : n = W.heap.size) => stK_1 n #[.string ⟨#[]⟩, .string ⟨#[]⟩, .string ⟨#[]⟩, .string ⟨#[]⟩, .string ⟨#[]⟩, .string ⟨#[]⟩, .string ⟨#[]⟩, .string ⟨#[]⟩, .string ⟨#[]⟩, .string ⟨#[]⟩, .string ⟨#[]⟩, .string ⟨#[]⟩, .string ⟨#[]⟩, .string ⟨#[]⟩, .string ⟨#[]⟩, .string ⟨#[]⟩, .string ⟨#[]⟩, .string ⟨#[]⟩] #[.string b0, .string b1, .string b2, .string b3, .string b4, .string b5, .string b6, .string b7, .string b8, .string b9, .string b10, .string b11, .string b12, .string b13, .string b14, .string b15, .string b16, .string b17] rfl rfl hone W hn
    have s2 := fun (n : Nat) (o : Obj) (W : World) (hn : n = W.heap.size) => stK_2 n #[.string ⟨#[]⟩, .string ⟨#[]⟩, .string ⟨#[]⟩, .string ⟨#[]⟩, .string ⟨#[]⟩, .string ⟨#[]⟩, .string ⟨#[]⟩, .string ⟨#[]⟩, .string ⟨#[]⟩, .string ⟨#[]⟩, .string ⟨#[]⟩, .string ⟨#[]⟩, .string ⟨#[]⟩, .string ⟨#[]⟩, .string ⟨#[]⟩, .string ⟨#[]⟩, .string ⟨#[]⟩, .string ⟨#[]⟩] #[.string b0, .string b1, .string b2, .string b3, .string b4, .string b5, .string b6, .string b7, .string b8, .string b9, .string b10, .string b11, .string b12, .string b13, .string b14, .string b15, .string b16, .string b17] o rfl rfl hone W hn
    clear hone
    go_wp2_with fail
    go_region_held3 (fun w' => w'.heap[w.heap.size]? = some (.cells #[.string b0, .string b1, .string b2, .string b3, .string b4, .string b5, .string b6, .string b7, .string b8, .string b9, .string b10, .string b11, .string b12, .string b13, .string b14, .string b15, .string b16, .string b17] 49 (0, 0))) (first | exact S0 | exact SAd S0 | exact SAd (SAd S0)) (fail)
    · clear s1 s2
      have c0 : ∀ o, w0.cell? ⟨w.heap.size, o, none⟩ = (#[.string b0, .string b1, .string b2, .string b3, .string b4, .string b5, .string b6, .string b7, .string b8, .string b9, .string b10, .string b11, .string b12, .string b13, .string b14, .string b15, .string b16, .string b17] : Array Value)[o]? := fun o => cell_of_row w0 w.heap.size o _ 49 (0, 0) S0
      go_wp2_with fail
      go_region
      go_wp2_with fail
      go_region
      go_wp2_with ((with_reducible refine gate_ld (t := 49) rfl ?_); refine halt_here ?_)
      refine resume ?_
      refine abs_list (S := fun w' => w'.heap[w.heap.size]? = some (.cells #[.string b0, .string b1, .string b2, .string b3, .string b4, .string b5, .string b6, .string b7, .string b8, .string b9, .string b10, .string b11, .string b12, .string b13, .string b14, .string b15, .string b16, .string b17] 49 (0, 0)) ∧ w'.heap[w0.heap.size]? = some (.cells #[.string b0, .string b1, .string b2, .string b3, .string b4, .string b13, .string b6, .string b7, .string b8, .string b9, .string b10, .string b11, .string b12, .string b5, .string b14, .string b15, .string b16, .string b17] 49 (0, 0)) ∧ w'.heap[w0.heap.size + 1]? = some (.cells #[.string b0, .string b1, .string b16, .string b3, .string b4, .string b5, .string b6, .string b7, .string b8, .string b9, .string b10, .string b11, .string b12, .string b13, .string b14, .string b15, .string b2, .string b17] 49 (0, 0)) ∧ Below w.heap.size w w') ?_ ?_
      · exact ⟨SAd (SAd S0), by first | exact heap_alloc2_old _ _ _ | exact heap_alloc2_new _ _ _, by first | exact heap_alloc2_old _ _ _ | exact heap_alloc2_new _ _ _, (((B0.alloc (by omega) _).alloc (by simp; omega) _).drew.drew.drew)⟩
      · rintro w3 ⟨H0, H1, H2, BB⟩
        have hls := ldK_run (w0.heap.size) #[.string b0, .string b1, .string b2, .string b3, .string b4, .string b13, .string b6, .string b7, .string b8, .string b9, .string b10, .string b11, .string b12, .string b5, .string b14, .string b15, .string b16, .string b17] rfl
        have hlo := ldK_run (w0.heap.size + 1) #[.string b0, .string b1, .string b16, .string b3, .string b4, .string b5, .string b6, .string b7, .string b8, .string b9, .string b10, .string b11, .string b12, .string b13, .string b14, .string b15, .string b2, .string b17] rfl
        clear hl0 c0
        go_wp2_with (first
          | (go_at_call 31; (with_reducible refine (junction_any a b l r b0 b1 b2 b3 b4 b5 b6 b7 b8 b9 b10 b11 b12 b13 b14 b15 b16 b17 _).mono ?_); rintro e wn ⟨rfl, hb⟩; have H0 := keepS hb H0; have H1 := keepS hb H1; have H2 := keepS hb H2; have BB := BB.trans (hb.mono BB.size))
          | (go_at_call 31; (with_reducible refine (jside a b l r b0 b1 b2 b3 b4 b5 b6 b7 b8 b9 b10 b11 b12 b13 b14 b15 b16 b17 _).mono ?_); rintro e wn ⟨rfl, hb⟩; have H0 := keepS hb H0; have H1 := keepS hb H1; have H2 := keepS hb H2; have BB := BB.trans (hb.mono BB.size))
          | (go_at_call 31; (with_reducible refine (jover a b l r b0 b1 b2 b3 b4 b5 b6 b7 b8 b9 b10 b11 b12 b13 b14 b15 b16 b17 _).mono ?_); rintro e wn ⟨rfl, hb⟩; have H0 := keepS hb H0; have H1 := keepS hb H1; have H2 := keepS hb H2; have BB := BB.trans (hb.mono BB.size))
          | (go_at_call 31; (with_reducible refine (jx _).mono ?_); rintro e wn ⟨rfl, hb⟩; have H0 := keepS hb H0; have H1 := keepS hb H1; have H2 := keepS hb H2; have BB := BB.trans (hb.mono BB.size)))
        go_ret
        exact ⟨ret_true (by simp), BB⟩
    · clear s1 s2
      have c0 : ∀ o, w0.cell? ⟨w.heap.size, o, none⟩ = (#[.string b0, .string b1, .string b2, .string b3, .string b4, .string b5, .string b6, .string b7, .string b8, .string b9, .string b10, .string b11, .string b12, .string b13, .string b14, .string b15, .string b16, .string b17] : Array Value)[o]? := fun o => cell_of_row w0 w.heap.size o _ 49 (0, 0) S0
      go_wp2_with fail
      go_region
      go_wp2_with fail
      go_region
      go_wp2_with ((with_reducible refine gate_ld (t := 49) rfl ?_); refine halt_here ?_)
      refine resume ?_
      refine abs_list (S := fun w' => w'.heap[w.heap.size]? = some (.cells #[.string b0, .string b1, .string b2, .string b3, .string b4, .string b5, .string b6, .string b7, .string b8, .string b9, .string b10, .string b11, .string b12, .string b13, .string b14, .string b15, .string b16, .string b17] 49 (0, 0)) ∧ w'.heap[w0.heap.size + 1]? = some (.cells #[.string b0, .string b1, .string b2, .string b3, .string b4, .string b13, .string b6, .string b7, .string b8, .string b9, .string b10, .string b11, .string b12, .string b5, .string b14, .string b15, .string b16, .string b17] 49 (0, 0)) ∧ w'.heap[w0.heap.size]? = some (.cells #[.string b0, .string b1, .string b16, .string b3, .string b4, .string b5, .string b6, .string b7, .string b8, .string b9, .string b10, .string b11, .string b12, .string b13, .string b14, .string b15, .string b2, .string b17] 49 (0, 0)) ∧ Below w.heap.size w w') ?_ ?_
      · exact ⟨SAd (SAd S0), by first | exact heap_alloc2_old _ _ _ | exact heap_alloc2_new _ _ _, by first | exact heap_alloc2_old _ _ _ | exact heap_alloc2_new _ _ _, (((B0.alloc (by omega) _).alloc (by simp; omega) _).drew.drew.drew)⟩
      · rintro w3 ⟨H0, H1, H2, BB⟩
        have hls := ldK_run (w0.heap.size + 1) #[.string b0, .string b1, .string b2, .string b3, .string b4, .string b13, .string b6, .string b7, .string b8, .string b9, .string b10, .string b11, .string b12, .string b5, .string b14, .string b15, .string b16, .string b17] rfl
        have hlo := ldK_run (w0.heap.size) #[.string b0, .string b1, .string b16, .string b3, .string b4, .string b5, .string b6, .string b7, .string b8, .string b9, .string b10, .string b11, .string b12, .string b13, .string b14, .string b15, .string b2, .string b17] rfl
        clear hl0 c0
        go_wp2_with (first
          | (go_at_call 31; (with_reducible refine (junction_any a b l r b0 b1 b2 b3 b4 b5 b6 b7 b8 b9 b10 b11 b12 b13 b14 b15 b16 b17 _).mono ?_); rintro e wn ⟨rfl, hb⟩; have H0 := keepS hb H0; have H1 := keepS hb H1; have H2 := keepS hb H2; have BB := BB.trans (hb.mono BB.size))
          | (go_at_call 31; (with_reducible refine (jside a b l r b0 b1 b2 b3 b4 b5 b6 b7 b8 b9 b10 b11 b12 b13 b14 b15 b16 b17 _).mono ?_); rintro e wn ⟨rfl, hb⟩; have H0 := keepS hb H0; have H1 := keepS hb H1; have H2 := keepS hb H2; have BB := BB.trans (hb.mono BB.size))
          | (go_at_call 31; (with_reducible refine (jover a b l r b0 b1 b2 b3 b4 b5 b6 b7 b8 b9 b10 b11 b12 b13 b14 b15 b16 b17 _).mono ?_); rintro e wn ⟨rfl, hb⟩; have H0 := keepS hb H0; have H1 := keepS hb H1; have H2 := keepS hb H2; have BB := BB.trans (hb.mono BB.size))
          | (go_at_call 31; (with_reducible refine (jx _).mono ?_); rintro e wn ⟨rfl, hb⟩; have H0 := keepS hb H0; have H1 := keepS hb H1; have H2 := keepS hb H2; have BB := BB.trans (hb.mono BB.size)))
        go_ret
        exact ⟨ret_true (by simp), BB⟩
theorem junction_all (a b l r : Bool) (b0 b1 b2 b3 b4 b5 b6 b7 b8 b9 b10 b11 b12 b13 b14 b15 b16 b17 : ByteArray) (w : World) (h0 : b0.size ≤ maxLen) (h1 : b1.size ≤ maxLen) (h2 : b2.size ≤ maxLen) (h3 : b3.size ≤ maxLen) (h4 : b4.size ≤ maxLen) (h5 : b5.size ≤ maxLen) (h6 : b6.size ≤ maxLen) (h7 : b7.size ≤ maxLen) (h8 : b8.size ≤ maxLen) (h9 : b9.size ≤ maxLen) (h10 : b10.size ≤ maxLen) (h11 : b11.size ≤ maxLen) (h12 : b12.size ≤ maxLen) (h13 : b13.size ≤ maxLen) (h14 : b14.size ≤ maxLen) (h15 : b15.size ≤ maxLen) (h16 : b16.size ≤ maxLen) (h17 : b17.size ≤ maxLen) :
    Calls Try.prog 11 #[.bool a, .bool b, .bool l, .bool r, boxV b0 b1 b2 b3 b4 b5 b6 b7 b8 b9 b10 b11 b12 b13 b14 b15 b16 b17] w fun e w' => e = .returned (.bool true) ∧ Below w.heap.size w w' := lawJ_any a b l r b0 b1 b2 b3 b4 b5 b6 b7 b8 b9 b10 b11 b12 b13 b14 b15 b16 b17 w
theorem turned_all (a b l r : Bool) (b0 b1 b2 b3 b4 b5 b6 b7 b8 b9 b10 b11 b12 b13 b14 b15 b16 b17 : ByteArray) (w : World) (h0 : b0.size ≤ maxLen) (h1 : b1.size ≤ maxLen) (h2 : b2.size ≤ maxLen) (h3 : b3.size ≤ maxLen) (h4 : b4.size ≤ maxLen) (h5 : b5.size ≤ maxLen) (h6 : b6.size ≤ maxLen) (h7 : b7.size ≤ maxLen) (h8 : b8.size ≤ maxLen) (h9 : b9.size ≤ maxLen) (h10 : b10.size ≤ maxLen) (h11 : b11.size ≤ maxLen) (h12 : b12.size ≤ maxLen) (h13 : b13.size ≤ maxLen) (h14 : b14.size ≤ maxLen) (h15 : b15.size ≤ maxLen) (h16 : b16.size ≤ maxLen) (h17 : b17.size ≤ maxLen) :
    Calls Try.prog 12 #[.bool a, .bool b, .bool l, .bool r, boxV b0 b1 b2 b3 b4 b5 b6 b7 b8 b9 b10 b11 b12 b13 b14 b15 b16 b17] w fun e w' => e = .returned (.bool true) ∧ Below w.heap.size w w' := lawT_any a b l r b0 b1 b2 b3 b4 b5 b6 b7 b8 b9 b10 b11 b12 b13 b14 b15 b16 b17 w
end Go.Proofs.Ytlppbalnjogkoaa
