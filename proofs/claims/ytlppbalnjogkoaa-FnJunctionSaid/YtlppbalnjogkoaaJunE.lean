/- What stands between two columns, and turned: the walks of the laws, for every box and every merging. No conditions. -/
import Derived.Test.YtlppbalnjogkoaaJunB
import Derived.Test.YtlppbalnjogkoaaJunC
import Derived.Test.YtlppbalnjogkoaaJunD
import Derived.WalkKit
import Derived.Handy
import Derived.Deep.QuietTactic
import Derived.Deep.WholeRow
import Derived.BigQuiet
import Derived.Laws.CopyOwn
import Derived.WalkLawsBesides
namespace Go.Proofs.Ytlppbalnjogkoaa
open Go.RowKit
set_option linter.unusedVariables false
variable {P : Program}
set_option maxHeartbeats 4000000 in
set_option maxRecDepth 100000 in
theorem zzj_any (a b l r : Bool) (S : Array Value) (e6 mh top bot mv le ri mid : ByteArray) (w : World) (hs : S.size = 56) (h1 : S.all (·.oneCell') = true)
    (c4 : S[4]? = some (.string e6)) (c7 : S[7]? = some (.string mh)) (c17 : S[17]? = some (.string top)) (c3 : S[3]? = some (.string bot))
    (c9 : S[9]? = some (.string mv)) (c6 : S[6]? = some (.string le)) (c14 : S[14]? = some (.string ri)) (c8 : S[8]? = some (.string mid)) (c19 : S[19]? = some (.pointer none)) :
    Calls Try.prog 47 #[.bool a, .bool b, .bool l, .bool r, .agg S] w fun e w' => e = .returned (.string (jun a b l r e6 mh top bot mv le ri mid)) ∧ Below w.heap.size w w' := by
  have h97 : (Try.prog.info? 97).map (·.size) = some S.size := by rw [hs]; kernel_rfl
  have HS := Lib.hid hs
  have H1 := Lib.hid h1
  clear hs h1
  go_enter Try.func47, Try.ntmps47
  go_wp2_with (first
    | ((with_reducible refine gate_ld (t := 97) rfl ?_)
       refine wpList_load_row ?hgd 97 (.tmp 9) ?ho w.heap.size ?hx 97 (cs := S) (fr := (0, 0)) (d := _) ?hg Try.underlying97 ?hd ?hi ?_
       (case hgd => rfl)
       (case ho => rfl)
       (case hx => rfl)
       (case hg => exact heap_alloc_new _ _)
       (case hd => rfl)
       (case hi => exact h97))
    | (go_at_call 53; refine (columns_nil S _ HS.out H1.out).mono ?_; rintro e w1 ⟨rfl, hb1, ht, hc, hf, hz⟩; generalize hgs : (w.alloc (Obj.cells S 97)).heap.size = gs at hb1 ht hc hf hz ⊢)
    | (go_at_call 55; refine halt_here ?_))
  refine resume ?_
  have hgs' : gs = w.heap.size + 1 := by rw [← hgs]; simp
  refine (column_any a b l r (gs + 4) gs e6 mh top bot mv le ri mid w1 ht ((hc 4).trans c4) ((hc 7).trans c7) ((hc 17).trans c17) ((hc 3).trans c3) ((hc 9).trans c9) ((hc 6).trans c6) ((hc 14).trans c14) ((hc 8).trans c8) ((hc 19).trans c19) (hf 19) (by omega) (by omega) (by omega)).mono ?_
  rintro e w2 ⟨rfl, hb2⟩
  go_wp2
  go_ret
  refine ⟨rfl, ?_⟩
  exact ((Below.refl w.heap.size w).alloc (Nat.le_refl _) _).trans ((hb1.mono (by omega)).trans (hb2.mono (by omega)))
end Go.Proofs.Ytlppbalnjogkoaa
