/- TwCamel: a text divided where its kind changes. Texts of at most 200 letters and digits. -/
import Derived.Test.YtenmkoaimmnpdaaDoorCrA
import Derived.Test.YtenmkoaimmnpdaaDoorCrW
namespace Go.Proofs.YtenmkoaimmnpdaaDoor
open Go.RowKit
set_option linter.unusedVariables false
theorem info_strB : (Tryd.prog.info? 9).map (fun i => (i.zero, i.size, i.bytes)) = some (some (.string ⟨#[]⟩), 1, 16) := by kernel_rfl
theorem oneB_at {w : World} {b : Nat} {v : Value} {t : TypeId} {fz : Nat × Nat} (h : w.heap[b]? = some (.cells #[v] t fz)) : ∀ j u, ([v] : List Value)[j]? = some u → w.cell? ((⟨b, 0, none⟩ : Addr).add j) = some u := by
  intro j u hj
  rw [Addr.add_lit, Nat.zero_add, cell_of_row w b j #[v] t fz h, ← Array.getElem?_toList]
  exact hj
theorem spC_cons (cur : List UInt8) (x : UInt8) (rest : List UInt8) : spC cur (x :: rest) = if cutB (kd (lastOf cur)) (kd x) (rest.head?.map kd) = true then cur :: spC [x] rest else spC (cur ++ [x]) rest := by rw [spC]
theorem ext_mid (s : ByteArray) (P cur R : List UInt8) (h : s.data.toList = P ++ cur ++ R) : s.extract P.length (P.length + cur.length) = ⟨cur.toArray⟩ := by
  apply bytes_ext
  rw [Lib.extract_data, h, List.append_assoc, List.drop_left, Nat.add_sub_cancel_left, List.take_left]
theorem ext_tail (s : ByteArray) (P cur : List UInt8) (h : s.data.toList = P ++ cur) : s.extract P.length s.size = ⟨cur.toArray⟩ := by
  apply bytes_ext
  rw [Lib.extract_data, h, List.drop_left, List.take_of_length_le (by rw [Lib.size_eq, h, List.length_append]; omega)]
theorem at_mid (s : ByteArray) (A R : List UInt8) (x : UInt8) (h : s.data.toList = A ++ x :: R) : ∃ hp : A.length < s.size, s[A.length]'hp = x := by
  have hp : A.length < s.size := by rw [Lib.size_eq, h]; simp
  refine ⟨hp, ?_⟩
  rw [← at_list s A.length hp]
  simp [h]
def CamelRet (w : World) (ls : List (List UInt8)) (e : Ending) (w' : World) : Prop := ∃ v, e = .returned v ∧ w'.ownsRow w.heap.size 9 1 v ls.length (ls.map strV) ∧ Below w.heap.size w w'
set_option maxHeartbeats 4000000 in
set_option maxRecDepth 100000 in
theorem camel_any (s : ByteArray) (w : World) (ha : Alnum s.data.toList) (hs : s.size ≤ 200) : Calls Tryd.prog 7 #[.string s] w (CamelRet w (camel s.data.toList)) := by
  obtain ⟨i0, hi, hz0, hz1, hz2⟩ := info_parts info_strB
  have HL := Lib.hid ha
  clear ha
  have HKd := Lib.hid (fun (c : UInt8) W => kind_any c W)
  have hsz := Lib.hid (Lib.size_eq s)
  cases hd : s.data.toList with
  | nil =>
    have h0 : s.size = 0 := by rw [hsz.out, hd]; rfl
    have e1 : decide ((1 : Int) < (s.size : Int)) = false := decide_eq_false (by omega)
    have e0 : decide ((0 : Int) < (s.size : Int)) = false := decide_eq_false (by omega)
    go_enter Tryd.func7, Tryd.ntmps7
    go_wp2_with fail
    go_loop [3, 4, 5] (fun ov fv iv => ov = .slice none 0 0 ∧ fv = .int .i64 0 ∧ iv = .int .i64 1) (fun _ _ _ => 0)
    case atStart => exact ⟨rfl, rfl, rfl⟩
    case round =>
      obtain ⟨rfl, rfl, rfl⟩ := hrel
      go_wp2_with fail
      go_ret
      exact ⟨_, rfl, ⟨rfl, .inl ⟨rfl, rfl⟩⟩, Below.refl _ _⟩
  | cons x0 r0 =>
    have hpos : 1 ≤ s.size := by rw [hsz.out, hd]; simp
    have HD := Lib.hid hd
    clear hd
    go_enter Tryd.func7, Tryd.ntmps7
    go_wp2_with fail
    go_loopw [3, 4, 5] (fun ov fv iv wr => ∃ (P cur rest : List UInt8) (ls : List (List UInt8)) (f k : Nat), Hid (s.data.toList = P ++ cur ++ rest) ∧ Hid (f = P.length) ∧ Hid (k = P.length + cur.length) ∧ f < k ∧ k ≤ s.size ∧ fv = .int .i64 (f : Int) ∧ iv = .int .i64 (k : Int) ∧ Hid (ls ++ spC cur rest = camel (x0 :: r0)) ∧ ls.length ≤ k ∧ Hid (wr.ownsRow w.heap.size 9 1 ov ls.length (ls.map strV)) ∧ Hid (Below w.heap.size w wr)) (fun _ _ iv _ => s.size - (intOf iv).toNat)
    case atStart => exact ⟨[], [x0], r0, [], 0, 1, Lib.hid (by rw [HD.out]; rfl), Lib.hid rfl, Lib.hid rfl, by omega, hpos, rfl, rfl, Lib.hid rfl, by simp, Lib.hid ⟨rfl, .inl ⟨rfl, rfl⟩⟩, Lib.hid (Below.refl _ _)⟩
    case round =>
      obtain ⟨P, cur, rest, ls, f, k, hL, hf, hk, hfk, hks, rfl, rfl, hc, hls, hO, HB⟩ := hrel
      obtain ⟨wo, rfl⟩ : ∃ wo : World, wo = wr := ⟨_, rfl⟩
      cases rest with
      | nil =>
        have hke : k = s.size := by rw [hsz.out, hL.out, hk.out]; simp
        have hx := ext_tail s P cur (by rw [hL.out]; simp)
        rw [← hf.out] at hx
        have HC := Lib.hid (show camel (x0 :: r0) = ls ++ [cur] by rw [← hc.out]; rfl)
        have hlf : f < s.size := by omega
        have hno : ¬ (k < s.size) := by omega
        clear hL hf hk hc hke
        go_wp2_with (at_builtin; refine halt_V ?_)
        refine resume_V ?_
        refine wpList_append_own _ rfl _ _ 24 rfl w.heap.size 9 i0 (.string ⟨#[]⟩) 1 16 Tryd.underlying24 hi hz0 hz1 hz2 rfl (by decide) _ ls.length _ rfl (hO.out.alloc _) ⟨wo.heap.size, 0, none⟩ 1 1 [.string ⟨cur.toArray⟩] rfl rfl (oneB_at (heap_alloc_new wo _)) (by simp [Value.oneCell']) (by unfold maxLen; omega) (by omega) (by have := HB.out.size; simp; omega) ?_
        intro v' w1 hown1 hgrow _
        have HB1 := Lib.hid ((HB.out.alloc HB.out.size _).grown hgrow (by have := HB.out.size; simp; omega) (fun k hk => (hO.out.lt k hk).1))
        have HO1 := Lib.hid (show w1.ownsRow w.heap.size 9 1 v' (camel (x0 :: r0)).length ((camel (x0 :: r0)).map strV) by
          rw [HC.out, List.length_append, List.length_singleton, List.map_append]
          exact hown1)
        clear hown1 hgrow hO HB hx
        go_wp2_with fail
        go_ret
        exact ⟨_, rfl, HO1.out, HB1.out⟩
      | cons c rest =>
        obtain ⟨cur', p, rfl⟩ : ∃ cur' p, cur = cur' ++ [p] := by
          rcases List.eq_nil_or_concat cur with rfl | ⟨a, b, h⟩
          · exfalso; have h1 := hk.out; have h2 := hf.out; simp at h1; omega
          · exact ⟨a, b, by rw [h, List.concat_eq_append]⟩
        have hx := ext_mid s P (cur' ++ [p]) (c :: rest) hL.out
        rw [← hk.out, ← hf.out] at hx
        obtain ⟨hp1, hp2⟩ := at_mid s (P ++ (cur' ++ [p])) rest c hL.out
        obtain ⟨hq1, hq2⟩ := at_mid s (P ++ cur') (c :: rest) p (by rw [hL.out]; simp)
        have hk1 : (P ++ (cur' ++ [p])).length = k := by rw [hk.out, List.length_append]
        have hk2 : (P ++ cur').length = k - 1 := by rw [hk.out]; simp
        have hix : ∀ W, (Instr.index 9 (.string s) (.int .i64 (k : Int))).run Tryd.prog W = .ok (.int .u8 (c.toNat : Int)) W := fun W => by
          have := ixAt s _ hp1 W
          rw [hp2, hk1] at this; exact this
        have hixp : ∀ W, (Instr.index 9 (.string s) (.int .i64 ((k : Int) - 1))).run Tryd.prog W = .ok (.int .u8 (p.toNat : Int)) W := fun W => by
          have := ixAt s _ hq1 W
          rw [hq2, hk2] at this
          rw [show (k : Int) - 1 = ((k - 1 : Nat) : Int) by omega]; exact this
        have hwr : IntKind.i64.wrap ((k : Int) - 1) = (k : Int) - 1 := IntWalk.i64_in _ (by omega)
        have hks2 : k < s.size := by rw [← hk1]; exact hp1
        have HN0 := Lib.hid (show rest = [] → s.size = k + 1 from fun h => by rw [hsz.out, hL.out, hk.out, h]; simp; omega)
        have HN1 := Lib.hid (show ∀ n r, rest = n :: r → k + 1 < s.size ∧ ∀ W, (Instr.index 9 (.string s) (.int .i64 ((k : Int) + 1))).run Tryd.prog W = .ok (.int .u8 (n.toNat : Int)) W from fun n r h => by
          obtain ⟨hn1, hn2⟩ := at_mid s (P ++ (cur' ++ [p]) ++ [c]) r n (by rw [hL.out, h]; simp)
          have hk3 : (P ++ (cur' ++ [p]) ++ [c]).length = k + 1 := by rw [List.length_append, hk1]; rfl
          refine ⟨by rw [← hk3]; exact hn1, fun W => ?_⟩
          have := ixAt s _ hn1 W
          rw [hn2, hk3] at this
          rw [show (k : Int) + 1 = ((k + 1 : Nat) : Int) by omega]; exact this)
        have hdc : kd c ≤ 2 := HL.out c (by rw [hL.out]; simp)
        have hdp : kd p ≤ 2 := HL.out p (by rw [hL.out]; simp)
        have HS := Lib.hid hc.out
        rw [spC_cons, lastOf_snoc] at HS
        have HL2 := Lib.hid (show s.data.toList = P ++ (cur' ++ [p]) ++ [c] ++ rest by rw [hL.out]; simp)
        have HL3 := Lib.hid (show s.data.toList = P ++ (cur' ++ [p] ++ [c]) ++ rest by rw [hL.out]; simp)
        have HK2 := Lib.hid (show k = (P ++ (cur' ++ [p])).length from hk1.symm)
        have HK3 := Lib.hid (show k + 1 = (P ++ (cur' ++ [p])).length + [c].length by rw [hk1]; rfl)
        have HK4 := Lib.hid (show k + 1 = P.length + (cur' ++ [p] ++ [c]).length by rw [hk.out]; simp only [List.length_append, List.length_singleton]; omega)
        have HKc := Lib.hid (fun W => HKd.out c W)
        clear hL hk hc hp1 hp2 hq1 hq2 hk1 hk2
        generalize cur' ++ [p] = cur at *
        have HKp := Lib.hid (fun W => HKd.out p W)
        generalize hgc : kd c = dc at *
        generalize hgp : kd p = dp at *
        clear hgc hgp
        have hfk1 : f ≤ k := by omega
        have hfk2 : (f : Int) ≤ (k : Int) := by omega
        have hks3 : (k : Int) ≤ (s.size : Int) := by omega
        have hfk4 : (0 : Int) ≤ (f : Int) := by omega
        go_wp2_with fail
        refine wp_region_noPanic ?_
        refine wp_region_held_drew (S := (fun w' => True)) (by kernel_rfl) (trivial) (fun hHeld => ?_)
        replace HB := Lib.hid (Below.drew HB.out)
        replace hO := Lib.hid (show (World.drew wo).ownsRow _ _ _ _ _ _ from hO.out)
        generalize hwd : World.drew wo = wd at *
        clear hwd
        refine wpAnyH_take (i := 0) (oi := { dst := some 15, op := Op.move (Operand.tmp 0), type := 9, pos := "tw.go:372", after := #[], guard := none }) (v := ?v1) rfl (by kernel_rfl) (by kernel_rfl) (by kernel_rfl) (fun _ _ _ h => h) (Or.inl ⟨by rfl, ?hy1⟩) (by assumption) ?_
        case hy1 => (intro w hSw; (try dsimp only at hSw); go_simp; (try with_reducible rfl))
        try simp only [Act.put, List.setIfInBounds_toArray, List.set_cons_zero, List.set_cons_succ]
        refine wpAnyH_take (i := 1) (oi := { dst := some 16, op := Op.move (Operand.tmp 5), type := 3, pos := "tw.go:372", after := #[], guard := none }) (v := ?v2) rfl (by kernel_rfl) (by kernel_rfl) (by kernel_rfl) (fun _ _ _ h => h) (Or.inl ⟨by rfl, ?hy2⟩) (by assumption) ?_
        case hy2 => (intro w hSw; (try dsimp only at hSw); go_simp; (try with_reducible rfl))
        try simp only [Act.put, List.setIfInBounds_toArray, List.set_cons_zero, List.set_cons_succ]
        refine wpAnyH_take (i := 2) (oi := { dst := some 17, op := Op.index 9 (Operand.tmp 15) (Operand.tmp 16), type := 5, pos := "tw.go:372", after := #[{ on := 0, ground := Ground.data }, { on := 1, ground := Ground.data }], guard := none }) (v := ?v3) rfl (by kernel_rfl) (by kernel_rfl) (by kernel_rfl) (fun _ _ _ h => h) (Or.inl ⟨by rfl, ?hy3⟩) (by assumption) ?_
        case hy3 => (intro w hSw; (try dsimp only at hSw); go_simp; (try with_reducible rfl))
        try simp only [Act.put, List.setIfInBounds_toArray, List.set_cons_zero, List.set_cons_succ]
        refine wpAnyH_take (i := 4) (oi := { dst := some 19, op := Op.move (Operand.tmp 0), type := 9, pos := "tw.go:372", after := #[], guard := none }) (v := ?v4) rfl (by kernel_rfl) (by kernel_rfl) (by kernel_rfl) (fun _ _ _ h => h) (Or.inl ⟨by rfl, ?hy4⟩) (by assumption) ?_
        case hy4 => (intro w hSw; (try dsimp only at hSw); go_simp; (try with_reducible rfl))
        try simp only [Act.put, List.setIfInBounds_toArray, List.set_cons_zero, List.set_cons_succ]
        refine wpAnyH_take (i := 5) (oi := { dst := some 20, op := Op.move (Operand.tmp 5), type := 3, pos := "tw.go:372", after := #[], guard := none }) (v := ?v5) rfl (by kernel_rfl) (by kernel_rfl) (by kernel_rfl) (fun _ _ _ h => h) (Or.inl ⟨by rfl, ?hy5⟩) (by assumption) ?_
        case hy5 => (intro w hSw; (try dsimp only at hSw); go_simp; (try with_reducible rfl))
        try simp only [Act.put, List.setIfInBounds_toArray, List.set_cons_zero, List.set_cons_succ]
        refine wpAnyH_take (i := 6) (oi := { dst := some 21, op := Op.binOp BinOp.sub 3 (Operand.tmp 20) (Operand.const (Value.int IntKind.i64 1)) 3, type := 3, pos := "tw.go:372", after := #[{ on := 5, ground := Ground.data }], guard := none }) (v := ?v6) rfl (by kernel_rfl) (by kernel_rfl) (by kernel_rfl) (fun _ _ _ h => h) (Or.inl ⟨by rfl, ?hy6⟩) (by assumption) ?_
        case hy6 => (intro w hSw; (try dsimp only at hSw); go_simp; (try with_reducible rfl))
        try simp only [Act.put, List.setIfInBounds_toArray, List.set_cons_zero, List.set_cons_succ]
        refine wpAnyH_take (i := 7) (oi := { dst := some 22, op := Op.index 9 (Operand.tmp 19) (Operand.tmp 21), type := 5, pos := "tw.go:372", after := #[{ on := 4, ground := Ground.data }, { on := 6, ground := Ground.data }], guard := none }) (v := ?v7) rfl (by kernel_rfl) (by kernel_rfl) (by kernel_rfl) (fun _ _ _ h => h) (Or.inl ⟨by rfl, ?hy7⟩) (by assumption) ?_
        case hy7 => (intro w hSw; (try dsimp only at hSw); go_simp; (try with_reducible rfl))
        try simp only [Act.put, List.setIfInBounds_toArray, List.set_cons_zero, List.set_cons_succ]
        refine wpAnyH_ready (rs := [3]) (by kernel_rfl) (by simp) ?_
        refine AllReadyH.cons (o := { dst := some 18, op := Op.call { callee := Callee.value (Operand.func 8), args := #[Operand.tmp 17], argTypes := #[5] }, type := 3, pos := "tw.go:372", after := #[{ on := 2, ground := Ground.data }], guard := none }) rfl (fun K hK => ?_) AllReadyH.nil
        go_simp
        refine (HKc.out _).mono ?_
        rintro e w5 ⟨rfl, rfl⟩
        go_wp2_with fail
        refine hK.out _ _ (trivial) (fun hHeld => ?_)
        clear hK K
        try simp only [Act.put, List.setIfInBounds_toArray, List.set_cons_zero, List.set_cons_succ]
        refine wpAnyH_ready (rs := [8]) (by kernel_rfl) (by simp) ?_
        refine AllReadyH.cons (o := { dst := some 23, op := Op.call { callee := Callee.value (Operand.func 8), args := #[Operand.tmp 22], argTypes := #[5] }, type := 3, pos := "tw.go:372", after := #[{ on := 7, ground := Ground.data }, { on := 3, ground := Ground.chain }], guard := none }) rfl (fun K hK => ?_) AllReadyH.nil
        go_simp
        refine (HKp.out _).mono ?_
        rintro e w6 ⟨rfl, rfl⟩
        go_wp2_with fail
        refine hK.out _ _ (trivial) (fun hHeld => ?_)
        clear hK K
        try simp only [Act.put, List.setIfInBounds_toArray, List.set_cons_zero, List.set_cons_succ]
        refine wpAnyH_take (i := 9) (oi := { dst := some 6, op := Op.assign (Operand.tmp 18), type := 3, pos := "tw.go:372", after := #[{ on := 3, ground := Ground.data }, { on := 8, ground := Ground.chain }, { on := 0, ground := Ground.phase }, { on := 1, ground := Ground.phase }, { on := 2, ground := Ground.phase }, { on := 3, ground := Ground.phase }, { on := 4, ground := Ground.textOnly Departure.lateStores }, { on := 5, ground := Ground.textOnly Departure.lateStores }, { on := 6, ground := Ground.textOnly Departure.lateStores }, { on := 7, ground := Ground.textOnly Departure.lateStores }, { on := 8, ground := Ground.textOnly Departure.lateStoresUnsure }], guard := none }) (v := ?v8) rfl (by kernel_rfl) (by kernel_rfl) (by kernel_rfl) (fun _ _ _ h => h) (Or.inl ⟨by rfl, ?hy8⟩) (by assumption) ?_
        case hy8 => (intro w hSw; (try dsimp only at hSw); go_simp; (try with_reducible rfl))
        try simp only [Act.put, List.setIfInBounds_toArray, List.set_cons_zero, List.set_cons_succ]
        refine wpAnyH_take (i := 10) (oi := { dst := some 7, op := Op.assign (Operand.tmp 23), type := 3, pos := "tw.go:372", after := #[{ on := 8, ground := Ground.data }, { on := 9, ground := Ground.chain }, { on := 0, ground := Ground.phase }, { on := 1, ground := Ground.phase }, { on := 2, ground := Ground.phase }, { on := 3, ground := Ground.phase }, { on := 4, ground := Ground.phase }, { on := 5, ground := Ground.phase }, { on := 6, ground := Ground.phase }, { on := 7, ground := Ground.phase }, { on := 8, ground := Ground.phase }, { on := 9, ground := Ground.phase }], guard := none }) (v := ?v9) rfl (by kernel_rfl) (by kernel_rfl) (by kernel_rfl) (fun _ _ _ h => h) (Or.inl ⟨by rfl, ?hy9⟩) (by assumption) ?_
        case hy9 => (intro w hSw; (try dsimp only at hSw); go_simp; (try with_reducible rfl))
        try simp only [Act.put, List.setIfInBounds_toArray, List.set_cons_zero, List.set_cons_succ]
        refine wpAnyH_done (by kernel_rfl) ?_ _
        refine NoPanic.normal ?_
        have hd3 : dc = 0 ∨ dc = 1 ∨ dc = 2 := by omega
        have he3 : dp = 0 ∨ dp = 1 ∨ dp = 2 := by omega
        rcases hd3 with rfl | rfl | rfl
        · rcases he3 with rfl | rfl | rfl
          · have HS2 := Lib.hid (show ls ++ spC (cur ++ [c]) rest = camel (x0 :: r0) by
              rw [← HS.out, if_neg (by simp [cutB])])
            clear HS
            clear hx
            go_wp2_with fail
            go_roundw
            case rel => exact ⟨P, cur ++ [c], rest, ls, f, k + 1, HL3, hf, HK4, by omega, by omega, rfl, by go_num, HS2, by omega, hO, HB⟩
            case measure => simp [intOf]; omega
          · have HS2 := Lib.hid (show ls ++ spC (cur ++ [c]) rest = camel (x0 :: r0) by
              rw [← HS.out, if_neg (by simp [cutB])])
            clear HS
            clear hx
            go_wp2_with fail
            go_roundw
            case rel => exact ⟨P, cur ++ [c], rest, ls, f, k + 1, HL3, hf, HK4, by omega, by omega, rfl, by go_num, HS2, by omega, hO, HB⟩
            case measure => simp [intOf]; omega
          · have HS2 := Lib.hid (show (ls ++ [cur]) ++ spC [c] rest = camel (x0 :: r0) by
              rw [← HS.out, if_pos (by simp [cutB])]; simp)
            clear HS
            go_wp2_with (at_builtin; refine halt_V ?_)
            refine resume_V ?_
            refine wpList_append_own _ rfl _ _ 24 rfl w.heap.size 9 i0 (.string ⟨#[]⟩) 1 16 Tryd.underlying24 hi hz0 hz1 hz2 rfl (by decide) _ ls.length _ rfl (hO.out.alloc _) ⟨wd.heap.size, 0, none⟩ 1 1 [.string ⟨cur.toArray⟩] rfl rfl (oneB_at (heap_alloc_new wd _)) (by simp [Value.oneCell']) (by unfold maxLen; omega) (by omega) (by have := HB.out.size; simp; omega) ?_
            intro v' w1 hown1 hgrow _
            have HB1 := Lib.hid ((HB.out.alloc HB.out.size _).grown hgrow (by have := HB.out.size; simp; omega) (fun k hk => (hO.out.lt k hk).1))
            have HO1 := Lib.hid (show w1.ownsRow w.heap.size 9 1 v' (ls ++ [cur]).length ((ls ++ [cur]).map strV) by
              rw [List.length_append, List.length_singleton, List.map_append]
              exact hown1)
            clear hown1 hgrow hO HB hx
            go_wp2_with fail
            go_roundw
            case rel => exact ⟨P ++ cur, [c], rest, ls ++ [cur], k, k + 1, HL2, HK2, HK3, by omega, by omega, rfl, by go_num, HS2, by simp; omega, HO1, HB1⟩
            case measure => simp [intOf]; omega
        · rcases he3 with rfl | rfl | rfl
          · have HS2 := Lib.hid (show (ls ++ [cur]) ++ spC [c] rest = camel (x0 :: r0) by
              rw [← HS.out, if_pos (by simp [cutB])]; simp)
            clear HS
            go_wp2_with (at_builtin; refine halt_V ?_)
            refine resume_V ?_
            refine wpList_append_own _ rfl _ _ 24 rfl w.heap.size 9 i0 (.string ⟨#[]⟩) 1 16 Tryd.underlying24 hi hz0 hz1 hz2 rfl (by decide) _ ls.length _ rfl (hO.out.alloc _) ⟨wd.heap.size, 0, none⟩ 1 1 [.string ⟨cur.toArray⟩] rfl rfl (oneB_at (heap_alloc_new wd _)) (by simp [Value.oneCell']) (by unfold maxLen; omega) (by omega) (by have := HB.out.size; simp; omega) ?_
            intro v' w1 hown1 hgrow _
            have HB1 := Lib.hid ((HB.out.alloc HB.out.size _).grown hgrow (by have := HB.out.size; simp; omega) (fun k hk => (hO.out.lt k hk).1))
            have HO1 := Lib.hid (show w1.ownsRow w.heap.size 9 1 v' (ls ++ [cur]).length ((ls ++ [cur]).map strV) by
              rw [List.length_append, List.length_singleton, List.map_append]
              exact hown1)
            clear hown1 hgrow hO HB hx
            go_wp2_with fail
            go_roundw
            case rel => exact ⟨P ++ cur, [c], rest, ls ++ [cur], k, k + 1, HL2, HK2, HK3, by omega, by omega, rfl, by go_num, HS2, by simp; omega, HO1, HB1⟩
            case measure => simp [intOf]; omega
          · cases rest with
            | nil =>
              have e5 : decide ((k : Int) + 1 < (s.size : Int)) = false := decide_eq_false (by have := HN0.out rfl; omega)
              have h5 : ¬ ((k : Int) + 1 < (s.size : Int)) := by have := HN0.out rfl; omega
              have HS2 := Lib.hid (show ls ++ spC (cur ++ [c]) [] = camel (x0 :: r0) by
                rw [← HS.out, if_neg (by simp [cutB])])
              clear HS
              clear hx
              go_wp2_with fail
              go_roundw
              case rel => exact ⟨P, cur ++ [c], [], ls, f, k + 1, HL3, hf, HK4, by omega, by omega, rfl, by go_num, HS2, by omega, hO, HB⟩
              case measure => simp [intOf]; omega
            | cons n rest =>
              obtain ⟨hn1, hn2⟩ := HN1.out n rest rfl
              have e5 : decide ((k : Int) + 1 < (s.size : Int)) = true := decide_eq_true (by omega)
              have h5 : (k : Int) + 1 < (s.size : Int) := by omega
              have hixn := hn2
              have HKn := Lib.hid (fun W => HKd.out n W)
              by_cases hn0 : kd n = 0
              · rw [hn0] at HKn
                have HS2 := Lib.hid (show (ls ++ [cur]) ++ spC [c] (n :: rest) = camel (x0 :: r0) by
                  rw [← HS.out, if_pos (by simp [cutB, hn0])]; simp)
                clear HS
                clear hn0 hn2
                go_wp2_with (go_at_call 8; refine halt_V ?_)
                refine resume_V ?_
                refine (HKn.out _).mono ?_
                rintro e w7 ⟨rfl, rfl⟩
                go_wp2_with (at_builtin; refine halt_V ?_)
                refine resume_V ?_
                refine wpList_append_own _ rfl _ _ 24 rfl w.heap.size 9 i0 (.string ⟨#[]⟩) 1 16 Tryd.underlying24 hi hz0 hz1 hz2 rfl (by decide) _ ls.length _ rfl (hO.out.alloc _) ⟨wd.heap.size, 0, none⟩ 1 1 [.string ⟨cur.toArray⟩] rfl rfl (oneB_at (heap_alloc_new wd _)) (by simp [Value.oneCell']) (by unfold maxLen; omega) (by omega) (by have := HB.out.size; simp; omega) ?_
                intro v' w1 hown1 hgrow _
                have HB1 := Lib.hid ((HB.out.alloc HB.out.size _).grown hgrow (by have := HB.out.size; simp; omega) (fun k hk => (hO.out.lt k hk).1))
                have HO1 := Lib.hid (show w1.ownsRow w.heap.size 9 1 v' (ls ++ [cur]).length ((ls ++ [cur]).map strV) by
                  rw [List.length_append, List.length_singleton, List.map_append]
                  exact hown1)
                clear hown1 hgrow hO HB hx
                go_wp2_with fail
                go_roundw
                case rel => exact ⟨P ++ cur, [c], n :: rest, ls ++ [cur], k, k + 1, HL2, HK2, HK3, by omega, by omega, rfl, by go_num, HS2, by simp; omega, HO1, HB1⟩
                case measure => simp [intOf]; omega
              · have hnb : ((kd n : Int) == 0) = false := by rw [beq_eq_false_iff_ne]; omega
                have HS2 := Lib.hid (show ls ++ spC (cur ++ [c]) (n :: rest) = camel (x0 :: r0) by
                  rw [← HS.out, if_neg (by simp [cutB, hn0])])
                clear HS
                clear hn0 hn2
                generalize kd n = dn at *
                clear hx
                go_wp2_with (go_at_call 8; refine halt_V ?_)
                refine resume_V ?_
                refine (HKn.out _).mono ?_
                rintro e w7 ⟨rfl, rfl⟩
                go_wp2_with fail
                go_roundw
                case rel => exact ⟨P, cur ++ [c], n :: rest, ls, f, k + 1, HL3, hf, HK4, by omega, by omega, rfl, by go_num, HS2, by omega, hO, HB⟩
                case measure => simp [intOf]; omega
          · have HS2 := Lib.hid (show (ls ++ [cur]) ++ spC [c] rest = camel (x0 :: r0) by
              rw [← HS.out, if_pos (by simp [cutB])]; simp)
            clear HS
            go_wp2_with (at_builtin; refine halt_V ?_)
            refine resume_V ?_
            refine wpList_append_own _ rfl _ _ 24 rfl w.heap.size 9 i0 (.string ⟨#[]⟩) 1 16 Tryd.underlying24 hi hz0 hz1 hz2 rfl (by decide) _ ls.length _ rfl (hO.out.alloc _) ⟨wd.heap.size, 0, none⟩ 1 1 [.string ⟨cur.toArray⟩] rfl rfl (oneB_at (heap_alloc_new wd _)) (by simp [Value.oneCell']) (by unfold maxLen; omega) (by omega) (by have := HB.out.size; simp; omega) ?_
            intro v' w1 hown1 hgrow _
            have HB1 := Lib.hid ((HB.out.alloc HB.out.size _).grown hgrow (by have := HB.out.size; simp; omega) (fun k hk => (hO.out.lt k hk).1))
            have HO1 := Lib.hid (show w1.ownsRow w.heap.size 9 1 v' (ls ++ [cur]).length ((ls ++ [cur]).map strV) by
              rw [List.length_append, List.length_singleton, List.map_append]
              exact hown1)
            clear hown1 hgrow hO HB hx
            go_wp2_with fail
            go_roundw
            case rel => exact ⟨P ++ cur, [c], rest, ls ++ [cur], k, k + 1, HL2, HK2, HK3, by omega, by omega, rfl, by go_num, HS2, by simp; omega, HO1, HB1⟩
            case measure => simp [intOf]; omega
        · rcases he3 with rfl | rfl | rfl
          · have HS2 := Lib.hid (show (ls ++ [cur]) ++ spC [c] rest = camel (x0 :: r0) by
              rw [← HS.out, if_pos (by simp [cutB])]; simp)
            clear HS
            go_wp2_with (at_builtin; refine halt_V ?_)
            refine resume_V ?_
            refine wpList_append_own _ rfl _ _ 24 rfl w.heap.size 9 i0 (.string ⟨#[]⟩) 1 16 Tryd.underlying24 hi hz0 hz1 hz2 rfl (by decide) _ ls.length _ rfl (hO.out.alloc _) ⟨wd.heap.size, 0, none⟩ 1 1 [.string ⟨cur.toArray⟩] rfl rfl (oneB_at (heap_alloc_new wd _)) (by simp [Value.oneCell']) (by unfold maxLen; omega) (by omega) (by have := HB.out.size; simp; omega) ?_
            intro v' w1 hown1 hgrow _
            have HB1 := Lib.hid ((HB.out.alloc HB.out.size _).grown hgrow (by have := HB.out.size; simp; omega) (fun k hk => (hO.out.lt k hk).1))
            have HO1 := Lib.hid (show w1.ownsRow w.heap.size 9 1 v' (ls ++ [cur]).length ((ls ++ [cur]).map strV) by
              rw [List.length_append, List.length_singleton, List.map_append]
              exact hown1)
            clear hown1 hgrow hO HB hx
            go_wp2_with fail
            go_roundw
            case rel => exact ⟨P ++ cur, [c], rest, ls ++ [cur], k, k + 1, HL2, HK2, HK3, by omega, by omega, rfl, by go_num, HS2, by simp; omega, HO1, HB1⟩
            case measure => simp [intOf]; omega
          · have HS2 := Lib.hid (show (ls ++ [cur]) ++ spC [c] rest = camel (x0 :: r0) by
              rw [← HS.out, if_pos (by simp [cutB])]; simp)
            clear HS
            go_wp2_with (at_builtin; refine halt_V ?_)
            refine resume_V ?_
            refine wpList_append_own _ rfl _ _ 24 rfl w.heap.size 9 i0 (.string ⟨#[]⟩) 1 16 Tryd.underlying24 hi hz0 hz1 hz2 rfl (by decide) _ ls.length _ rfl (hO.out.alloc _) ⟨wd.heap.size, 0, none⟩ 1 1 [.string ⟨cur.toArray⟩] rfl rfl (oneB_at (heap_alloc_new wd _)) (by simp [Value.oneCell']) (by unfold maxLen; omega) (by omega) (by have := HB.out.size; simp; omega) ?_
            intro v' w1 hown1 hgrow _
            have HB1 := Lib.hid ((HB.out.alloc HB.out.size _).grown hgrow (by have := HB.out.size; simp; omega) (fun k hk => (hO.out.lt k hk).1))
            have HO1 := Lib.hid (show w1.ownsRow w.heap.size 9 1 v' (ls ++ [cur]).length ((ls ++ [cur]).map strV) by
              rw [List.length_append, List.length_singleton, List.map_append]
              exact hown1)
            clear hown1 hgrow hO HB hx
            go_wp2_with fail
            go_roundw
            case rel => exact ⟨P ++ cur, [c], rest, ls ++ [cur], k, k + 1, HL2, HK2, HK3, by omega, by omega, rfl, by go_num, HS2, by simp; omega, HO1, HB1⟩
            case measure => simp [intOf]; omega
          · have HS2 := Lib.hid (show ls ++ spC (cur ++ [c]) rest = camel (x0 :: r0) by
              rw [← HS.out, if_neg (by simp [cutB])])
            clear HS
            clear hx
            go_wp2_with fail
            go_roundw
            case rel => exact ⟨P, cur ++ [c], rest, ls, f, k + 1, HL3, hf, HK4, by omega, by omega, rfl, by go_num, HS2, by omega, hO, HB⟩
            case measure => simp [intOf]; omega
end Go.Proofs.YtenmkoaimmnpdaaDoor
