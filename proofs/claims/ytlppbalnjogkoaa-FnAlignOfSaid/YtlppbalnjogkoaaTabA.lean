/- The table that the doors of go-pretty build: what the build operation lays. No conditions. -/
import Derived.Test.YtlppbalnjogkoaaJunA
import Derived.WalkKit
namespace Go.Proofs.Ytlppbalnjogkoaa
open Go.RowKit
abbrev tabA (n : Int) (a11 : Option Addr) (l11 c11 : Nat) (m : Option Nat) (a4 : Option Addr) (l4 c4 : Nat) (p : Option Addr) : Array Value := #[.int .i64 0, .bool false, .int .i64 0, .string ⟨#[]⟩, .slice a4 l4 c4, .slice none 0 0, .map m, .string ⟨#[]⟩, .bool false, .string ⟨#[]⟩, .int .i64 0, .slice a11 l11 c11, .map none, .int .i64 0, .int .i64 n, .int .i64 0, .int .i64 0, .slice none 0 0, .int .i64 0, .string ⟨#[]⟩, .slice none 0 0, .slice none 0 0, .map none, .slice none 0 0, .slice none 0 0, .slice none 0 0, .map none, .slice none 0 0, .slice none 0 0, .map none, .slice none 0 0, .nilFunc, .nilFunc, .map none, .map none, .map none, .slice none 0 0, .slice none 0 0, .slice none 0 0, .pointer p, .bool false, .bool false, .string ⟨#[]⟩]
theorem tab_built (n : Int) (a11 : Option Addr) (l11 c11 : Nat) (m : Option Nat) (a4 : Option Addr) (l4 c4 : Nat) (p : Option Addr) :
    Try.prog.built 132 [(14, .int .i64 n), (11, .slice a11 l11 c11), (6, .map m), (4, .slice a4 l4 c4), (37, .pointer p)] = some (tabA n a11 l11 c11 m a4 l4 c4 p) := by kernel_rfl
theorem tab_run (n : Int) (a11 : Option Addr) (l11 c11 : Nat) (m : Option Nat) (a4 : Option Addr) (l4 c4 : Nat) (p : Option Addr) (W : World) :
    (Instr.build 132 #[(14, .int .i64 n), (11, .slice a11 l11 c11), (6, .map m), (4, .slice a4 l4 c4), (37, .pointer p)]).run Try.prog W = .ok (.agg (tabA n a11 l11 c11 m a4 l4 c4 p)) W := run_build _ _ _ _ (tab_built n a11 l11 c11 m a4 l4 c4 p)
def tabK (x1 x2 x3 x4 x5 : Value) : Sem Value := Instr.build 132 #[(14, x1), (11, x2), (6, x3), (4, x4), (37, x5)]
theorem tabK_run (n : Int) (a11 : Option Addr) (l11 c11 : Nat) (m : Option Nat) (a4 : Option Addr) (l4 c4 : Nat) (p : Option Addr) (W : World) :
    (tabK (.int .i64 n) (.slice a11 l11 c11) (.map m) (.slice a4 l4 c4) (.pointer p)).run Try.prog W = .ok (.agg (tabA n a11 l11 c11 m a4 l4 c4 p)) W := tab_run n a11 l11 c11 m a4 l4 c4 p W
theorem tab_exec (ρ : Operand → Value) (d : Option Tmp) (t : TypeId) (ps : String) (af : Array Edge) (g : Option (Nat × Bool)) :
    execOp ρ ⟨d, .build 132 #[(14, .tmp 12), (11, .tmp 15), (6, .tmp 16), (4, .tmp 19), (37, .tmp 5)], t, ps, af, g⟩ = (tabK (ρ (.tmp 12)) (ρ (.tmp 15)) (ρ (.tmp 16)) (ρ (.tmp 19)) (ρ (.tmp 5)) >>= fun v => pure (.value v)) := by
  simp [execOp, tabK]

end Go.Proofs.Ytlppbalnjogkoaa
