/-
  FnBoot's runs: 3 peers. (Printed by gen_runs.py.)
-/
import Derived.Test.YtaenfbadkcfdaaaGreatSt
import Derived.Test.YtaenfbadkcfdaaaGreatSk
import Derived.KernelRfl
noncomputable section
namespace Go.Sx
set_option maxRecDepth 100000

theorem run_M3_false_false_false : isTrue (runBoot TT FT (kM 3 false false false)) = true := by kernel_rfl
theorem run_M3_false_true_false : isTrue (runBoot TT FT (kM 3 false true false)) = true := by kernel_rfl
theorem run_M3_true_false_false : isTrue (runBoot TT FT (kM 3 true false false)) = true := by kernel_rfl
theorem run_M3_true_true_false : isTrue (runBoot TT FT (kM 3 true true false)) = true := by kernel_rfl
theorem run_M3 (b l : Bool) : isTrue (runBoot TT FT (kM 3 b l false)) = true := by
  cases b <;> cases l
  · exact run_M3_false_false_false
  · exact run_M3_false_true_false
  · exact run_M3_true_false_false
  · exact run_M3_true_true_false
end Go.Sx
end
/-
  FnBoot's runs: 4 peers. (Printed by gen_runs.py.)
-/
noncomputable section
namespace Go.Sx
set_option maxRecDepth 100000

theorem run_M4_false_false_false : isTrue (runBoot TT FT (kM 4 false false false)) = true := by kernel_rfl
theorem run_M4_false_true_false : isTrue (runBoot TT FT (kM 4 false true false)) = true := by kernel_rfl
theorem run_M4_true_false_false : isTrue (runBoot TT FT (kM 4 true false false)) = true := by kernel_rfl
theorem run_M4_true_true_false : isTrue (runBoot TT FT (kM 4 true true false)) = true := by kernel_rfl
theorem run_M4 (b l : Bool) : isTrue (runBoot TT FT (kM 4 b l false)) = true := by
  cases b <;> cases l
  · exact run_M4_false_false_false
  · exact run_M4_false_true_false
  · exact run_M4_true_false_false
  · exact run_M4_true_true_false
end Go.Sx
end
