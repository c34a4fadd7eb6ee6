/-
  FnBoot's runs: 8 peers. (Printed by gen_runs.py.)
-/
import Derived.Test.YtaenfbadkcfdaaaGreatSt
import Derived.Test.YtaenfbadkcfdaaaGreatSk
import Derived.KernelRfl
noncomputable section
namespace Go.Sx
set_option maxRecDepth 100000

theorem run_M8_false_false_false : isTrue (runBoot TT FT (kM 8 false false false)) = true := by kernel_rfl
theorem run_M8_false_true_false : isTrue (runBoot TT FT (kM 8 false true false)) = true := by kernel_rfl
theorem run_M8_true_false_false : isTrue (runBoot TT FT (kM 8 true false false)) = true := by kernel_rfl
theorem run_M8_true_true_false : isTrue (runBoot TT FT (kM 8 true true false)) = true := by kernel_rfl
theorem run_M8 (b l : Bool) : isTrue (runBoot TT FT (kM 8 b l false)) = true := by
  cases b <;> cases l
  · exact run_M8_false_false_false
  · exact run_M8_false_true_false
  · exact run_M8_true_false_false
  · exact run_M8_true_true_false
end Go.Sx
end
