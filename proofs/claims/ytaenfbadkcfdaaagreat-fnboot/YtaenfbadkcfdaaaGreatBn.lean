/-
  callError, of an error that is none of the package's.
-/
import Derived.Test.YtaenfbadkcfdaaaGreatSt
import Derived.WalkKit
import Derived.ProofKit
namespace Go.Proofs
open Go.RowKit
set_option linter.unusedVariables false
theorem eq_err (p : Option Addr) (s : ByteArray) (w : World) : (binOp .eql 84 (.iface 233 (.pointer p)) (.iface 155 (.string s))).run Tryz.prog w = .ok (.bool false) w := by kernel_rfl
theorem eq_errnil (p : Option Addr) (w : World) : (binOp .eql 84 (.iface 233 (.pointer p)) .nilIface).run Tryz.prog w = .ok (.bool false) w := by kernel_rfl
set_option maxRecDepth 100000 in
set_option maxHeartbeats 1000000 in
theorem callError_other (p : Option Addr) (w : World) : Calls Tryz.prog 36 #[.iface 233 (.pointer p)] w fun e w' => e = .returned (.int .i64 9) ∧ w' = w := by
  have e1 := eq_err p
  have e2 := eq_errnil p
  go_enter Tryz.func36, Tryz.ntmps36
  go_wp2
  go_ret
  exact ⟨rfl, rfl⟩
theorem eq_nilnil (w : World) : (binOp .eql 84 .nilIface .nilIface).run Tryz.prog w = .ok (.bool true) w := by kernel_rfl
set_option maxRecDepth 100000 in
set_option maxHeartbeats 1000000 in
theorem callError_nil (w : World) : Calls Tryz.prog 36 #[.nilIface] w fun e w' => e = .returned (.int .i64 0) ∧ w' = w := by
  have e2 := eq_nilnil
  go_enter Tryz.func36, Tryz.ntmps36
  go_wp2
  go_ret
  exact ⟨rfl, rfl⟩
end Go.Proofs
