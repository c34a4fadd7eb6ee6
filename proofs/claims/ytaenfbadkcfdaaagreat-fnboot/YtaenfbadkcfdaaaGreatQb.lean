/-
  FnBoot's runs: 1 peers. (Printed by gen_runs.py.)
-/
import Derived.Test.YtaenfbadkcfdaaaGreatSt
import Derived.Test.YtaenfbadkcfdaaaGreatSk
import Derived.KernelRfl
noncomputable section
namespace Go.Sx
set_option maxRecDepth 100000

theorem run_M1_false_false_false : isTrue (runBoot TT FT (kM 1 false false false)) = true := by kernel_rfl
theorem run_M1_false_true_false : isTrue (runBoot TT FT (kM 1 false true false)) = true := by kernel_rfl
theorem run_M1_true_false_false : isTrue (runBoot TT FT (kM 1 true false false)) = true := by kernel_rfl
theorem run_M1_true_true_false : isTrue (runBoot TT FT (kM 1 true true false)) = true := by kernel_rfl
theorem run_M1 (b l : Bool) : isTrue (runBoot TT FT (kM 1 b l false)) = true := by
  cases b <;> cases l
  · exact run_M1_false_false_false
  · exact run_M1_false_true_false
  · exact run_M1_true_false_false
  · exact run_M1_true_true_false
end Go.Sx
end
/-
  FnBoot's runs: 2 peers. (Printed by gen_runs.py.)
-/
noncomputable section
namespace Go.Sx
set_option maxRecDepth 100000

theorem run_M2_false_false_false : isTrue (runBoot TT FT (kM 2 false false false)) = true := by kernel_rfl
theorem run_M2_false_true_false : isTrue (runBoot TT FT (kM 2 false true false)) = true := by kernel_rfl
theorem run_M2_true_false_false : isTrue (runBoot TT FT (kM 2 true false false)) = true := by kernel_rfl
theorem run_M2_true_true_false : isTrue (runBoot TT FT (kM 2 true true false)) = true := by kernel_rfl
theorem run_M2 (b l : Bool) : isTrue (runBoot TT FT (kM 2 b l false)) = true := by
  cases b <;> cases l
  · exact run_M2_false_false_false
  · exact run_M2_false_true_false
  · exact run_M2_true_false_false
  · exact run_M2_true_true_false
end Go.Sx
end
