/-
  FnBoot's runs: 9 peers. (Printed by gen_runs.py.)
-/
import Derived.Test.YtaenfbadkcfdaaaGreatSt
import Derived.Test.YtaenfbadkcfdaaaGreatSk
import Derived.KernelRfl
noncomputable section
namespace Go.Sx
set_option maxRecDepth 100000

theorem run_M9_false_true_false : isTrue (runBoot TT FT (kM 9 false true false)) = true := by kernel_rfl
end Go.Sx
end
