/-
  FnBoot's runs: 7 peers. (Printed by gen_runs.py.)
-/
import Derived.Test.YtaenfbadkcfdaaaGreatSt
import Derived.Test.YtaenfbadkcfdaaaGreatSk
import Derived.KernelRfl
noncomputable section
namespace Go.Sx
set_option maxRecDepth 100000

theorem run_M7_false_false_false : isTrue (runBoot TT FT (kM 7 false false false)) = true := by kernel_rfl
theorem run_M7_false_true_false : isTrue (runBoot TT FT (kM 7 false true false)) = true := by kernel_rfl
theorem run_M7_true_false_false : isTrue (runBoot TT FT (kM 7 true false false)) = true := by kernel_rfl
theorem run_M7_true_true_false : isTrue (runBoot TT FT (kM 7 true true false)) = true := by kernel_rfl
theorem run_M7 (b l : Bool) : isTrue (runBoot TT FT (kM 7 b l false)) = true := by
  cases b <;> cases l
  · exact run_M7_false_false_false
  · exact run_M7_false_true_false
  · exact run_M7_true_false_false
  · exact run_M7_true_true_false
end Go.Sx
end
