/- The oldest entry of a cache taken out; Remove, RemoveOldest, Len, Cap, Purge. No conditions. -/
import Derived.Test.YtnggdeggcflodaaLr3
namespace Go.Proofs.Ytnggdeggcflodaa
open Go.RowKit Go.MapKept
set_option linter.unusedVariables false
theorem wpList_del {w : World} {b : Nat} {ops : Array Oper} {rest : List Oper} {a : Act} {Q : Exit → Act → World → Prop} {dst : Option Tmp} {mo ko : Operand} {ty : TypeId} {ps : String} {af : Array Edge} {l1 l2 : List (Int × Value)} {k : Int} {v : Value} (h : PMap w b (l1 ++ (k, v) :: l2)) (hd : ((l1 ++ (k, v) :: l2).map (·.1)).Nodup)
    (hm : a.eval mo = .map (some b)) (hk : a.eval ko = .int .i64 k)
    (hK : ∀ w', PMap w' b (l1 ++ l2) → Put w w' b → wpList Try.prog ops Q rest (a.put dst (.tuple #[])) w') : wpList Try.prog ops Q (⟨dst, .call { callee := .builtin .delete, args := #[mo, ko], argTypes := #[tM, 3] }, ty, ps, af, none⟩ :: rest) a w := by
  refine wpList_plain rfl fun K' hK' => ?_
  obtain ⟨w', hrun, r1, r2⟩ := h.run_del hd (P := Try.prog) Try.underlying58 Try.underlying3 ty
  unfold Oper.wp
  simp [execOp, resolve, invoke, builtin, hm, hk, hrun, Result.andThen]
  exact hK' _ _ (hK w' r1 r2)
theorem keys_of (L : List Nd) : ((L.map fun x => (x.k, pt (some x.g))).map (·.1)) = L.map Nd.k := by simp [List.map_map, Function.comp_def]
theorem nd_sub {α : Type} {L L' : List Nd} {f : Nd → α} (h : (L.map f).Nodup) (hs : L'.Sublist L) : (L'.map f).Nodup := (hs.map f).nodup h
theorem mid_sub (l1 l2 : List Nd) (x : Nd) : (l1 ++ l2).Sublist (l1 ++ x :: l2) := List.Sublist.append (List.Sublist.refl _) (List.sublist_cons_self _ _)
/-- Behind removeNode and delete. -/
theorem Lru.out {w w1 w2 : World} {B c m : Nat} {n h1 h2 : Int} {l1 l2 : List Nd} {x : Nd} (h : Lru w B c m n (l1 ++ x :: l2) h1 h2)
    (hc1 : Blk w1 c tL (lruC (.int .i64 n) (.map (some m)) (pt (hdO (l1 ++ l2) none)) (pt (ltO none (l1 ++ l2))) .nilFunc (.int .i64 h1) (.int .i64 h2))) (hch1 : Chain w1 none (l1 ++ l2) none) (hm1 : Mod w w1 (SubS c (l1 ++ x :: l2)))
    (hp : PMap w2 m ((l1.map fun x => (x.k, pt (some x.g))) ++ (l2.map fun x => (x.k, pt (some x.g))))) (h12 : Put w1 w2 m) : Lru w2 B c m n (l1 ++ l2) h1 h2 ∧ Kx B w w2 := by
  have hk1 : Kx B w w1 := hm1.kx h.lt fun k hk => h.subs hk
  have hmem : ∀ y ∈ l1 ++ l2, y ∈ l1 ++ x :: l2 := fun y hy => (mid_sub l1 l2 x).subset hy
  have hsz : w1.heap.size = w.heap.size := hm1.size
  refine ⟨⟨h12.blk hc1 h.ne_m, by rw [List.map_append]; exact hp, hch1.keep fun y hy => ?_, nd_sub h.gs (mid_sub _ _ _), nd_sub h.ks (mid_sub _ _ _), h.Bc, h.Bm, fun y hy => h.Bg y (hmem y hy)⟩, ?_⟩
  · obtain ⟨_, _, hb⟩ := hch1.at_ hy
    exact h12.keep hb.lt (h.x_ne_m (hmem y hy))
  · refine hk1.put h12 (by rw [hsz]; exact h.lt) h.Bm fun cs t hb => ?_
    exfalso
    have hM := h.map.keep (w' := w1) (hm1.block m h.map.lt (by
      rintro (e | ⟨y, hy, e⟩)
      · exact h.ne_m e.symm
      · exact h.x_ne_m hy e))
    exact hM.ne_blk hb rfl
theorem neq_nilFunc (w : World) : (binOp .neq 57 .nilFunc .nilFunc).run Try.prog w = .ok (.bool false) w := by kernel_rfl
set_option maxHeartbeats 1000000 in
set_option maxRecDepth 100000 in
theorem oldest_any (B c m : Nat) (n : Int) (l : List Nd) (x : Nd) (h1 h2 : Int) (w : World) (h : Lru w B c m n (l ++ [x]) h1 h2) :
    Calls Try.prog 26 #[pt (some c)] w (MovRet B c m n l h1 h2 w) := by
  have hR := rem_chain c _ _ _ _ _ l x [] w h.blk h.chain h.gs
  have hbk := h.blk
  rw [ltO_snoc] at hbk
  have f0 : w.cell? ⟨c, 3, none⟩ = some (.pointer (some ⟨x.g, 0, none⟩)) := hbk.cell 3 rfl
  have f1 : w.cell? ⟨c, 4, none⟩ = some .nilFunc := hbk.cell 4 rfl
  have f2 := neq_nilFunc w
  have HF := Lib.hid h
  clear h hbk
  go_enter Try.func26, Try.ntmps26
  simp only [pt_some] at hR ⊢
  go_wp2_with (go_at_call 28; refine hR.mono ?_)
  rintro e w1 ⟨rfl, hc1, hch1, hx1, hm1⟩
  have g0 : w1.cell? ⟨c, 1, none⟩ = some (.map (some m)) := hc1.cell 1 rfl
  have g1 : w1.cell? ⟨x.g, 0, none⟩ = some (.int .i64 x.k) := hx1.cell 0 rfl
  clear f0 f1 f2 hR
  go_wp2_with fail
  go_still_tail 8, (by kernel_rfl)
  have h := HF.out
  have hM := h.map.keep (w' := w1) (hm1.block m h.map.lt (by
      rintro (e | ⟨y, hy, e⟩)
      · exact h.ne_m e.symm
      · exact h.x_ne_m hy e))
  change wpList _ _ _ _ _ w1.drew
  have hMd : PMap w1.drew m ((l.map fun x => (x.k, pt (some x.g))) ++ (x.k, pt (some x.g)) :: ([] : List Nd).map fun x => (x.k, pt (some x.g))) := by
    have := hM.keep (w' := w1.drew) rfl
    rw [List.map_append] at this; exact this
  refine wpList_del hMd ?_ rfl rfl ?_
  · have e := keys_of (l ++ [x])
    rw [List.map_append] at e
    exact e ▸ h.ks
  intro w2 hp h12
  have hd1 : Mod w1 w1.drew (SubS c (l ++ x :: [])) := drew_mod w1 1 _
  obtain ⟨r1, r2⟩ := Lru.out h (w1 := w1.drew) (w2 := w2) hc1 (hch1.keep fun _ _ => rfl) (hm1.trans hd1) hp h12
  rw [List.append_nil] at r1
  go_wp2
  go_end0
  exact ⟨rfl, r1, r2⟩
end Go.Proofs.Ytnggdeggcflodaa
