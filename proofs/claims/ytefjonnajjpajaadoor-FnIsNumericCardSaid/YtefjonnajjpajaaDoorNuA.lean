/- TwNumber: tells whether the text is a number. -/
import Derived.Test.YtefjonnajjpajaaDoorBase
import Derived.Test.YtefjonnajjpajaaDoorProg
import Derived.Test.YtefjonnajjpajaaDoorNuP
import Derived.WalkKit
import Derived.Handy
namespace Go.Proofs.YtefjonnajjpajaaDoor
open Go.RowKit
set_option linter.unusedVariables false
theorem ixB (s : ByteArray) (p : Nat) (hp : p < s.size) (W : World) : (Instr.index 9 (.string s) (.int .i64 (p : Int))).run Tryd.prog W = .ok (.int .u8 (bt s p : Nat)) W := by
  rw [run_index_string W 9 s .i64 (p : Int) Tryd.underlying9, dif_pos ⟨by omega, by omega⟩, ← bt_eq s p hp]; rfl
theorem ixB0 (s : ByteArray) (hp : 0 < s.size) (W : World) : (Instr.index 9 (.string s) (.int .i64 0)).run Tryd.prog W = .ok (.int .u8 (bt s 0 : Nat)) W := ixB s 0 hp W
def NumRet (t : ByteArray) (w : World) (e : Ending) (w' : World) : Prop := (∃ b : Bool, e = .returned (.bool b) ∧ (b = true ↔ NumT (bt t) t.size)) ∧ w' = w
end Go.Proofs.YtefjonnajjpajaaDoor
