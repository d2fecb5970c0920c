/- Two errors that are texts: '!=' between them. No conditions. -/
import Derived.Test.YtefjonnajjpajaaDoorNuI
import Derived.LaidEql
namespace Go.Proofs.YtefjonnajjpajaaDoor
open Go.RowKit
set_option linter.unusedVariables false
theorem run_equalIn_text {P : Program} (w : World) (d : Nat) {ti tn : TypeId} {ms : Array (String × TypeId)} {i : TypeInfo} (a b : ByteArray)
    (hi : P.underlying ti = some (.interface ms)) (hn : P.underlying tn = some .string) (hinfo : P.info? tn = some i) (hcomp : i.comparable = true) :
    (Op.equalIn (d + 2) ti (.iface tn (.string a)) (.iface tn (.string b))).run P w = .ok (a == b) w := by
  simp [Op.equalIn, run_underlying hi, run_underlying hn, typeInfo, hinfo, hcomp]
theorem run_neq_text {P : Program} (w : World) {ti tn : TypeId} {ms : Array (String × TypeId)} {i : TypeInfo} (a b : ByteArray)
    (hi : P.underlying ti = some (.interface ms)) (hn : P.underlying tn = some .string) (hinfo : P.info? tn = some i) (hcomp : i.comparable = true) :
    (binOp .neq ti (.iface tn (.string a)) (.iface tn (.string b))).run P w = .ok (.bool (!(a == b))) w := by
  simp only [binOp]
  simp [Op.equal, Op.maxDepth, run_equalIn_text w 9998 a b hi hn hinfo hcomp]
theorem errInfo : (Tryd.prog.info? tErr).map (·.comparable) = some true := by kernel_rfl
theorem neq_err (a b : ByteArray) (w : World) : (binOp .neq 25 (.iface tErr (.string a)) (.iface tErr (.string b))).run Tryd.prog w = .ok (.bool (!(a == b))) w := by
  obtain ⟨i, h1, h2⟩ := Option.map_eq_some_iff.1 errInfo
  exact run_neq_text w a b Tryd.underlying25 Tryd.underlying54 h1 h2
theorem neq_sr (w : World) : (binOp .neq 25 (.iface tErr (.string sSyn)) (.iface tErr (.string sRng))).run Tryd.prog w = .ok (.bool true) w := by
  rw [neq_err, show (sSyn == sRng) = false by decide +kernel]; rfl
theorem neq_rr (w : World) : (binOp .neq 25 (.iface tErr (.string sRng)) (.iface tErr (.string sRng))).run Tryd.prog w = .ok (.bool false) w := by
  rw [neq_err, show (sRng == sRng) = true by decide +kernel]; rfl
end Go.Proofs.YtefjonnajjpajaaDoor
