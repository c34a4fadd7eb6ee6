/-
  FnBoot's runs: 8 peers. (Printed by gen_runs.py.)
-/
import Derived.Test.YtaenfbadkcfdaaaGreatSt
import Derived.Test.YtaenfbadkcfdaaaGreatSk
import Derived.KernelRfl
noncomputable section
namespace Go.Sx
set_option maxRecDepth 100000

theorem run_M8_0 : (isTrue (runBoot TT FT (kM 8 false false false))) = true := by kernel_rfl
theorem run_M8_1 : (isTrue (runBoot TT FT (kM 8 false true false))) = true := by kernel_rfl
theorem run_M8_2 : (isTrue (runBoot TT FT (kM 8 true false false))) = true := by kernel_rfl
theorem run_M8_3 : (isTrue (runBoot TT FT (kM 8 true true false))) = true := by kernel_rfl
theorem run_M8 (b l : Bool) : isTrue (runBoot TT FT (kM 8 b l false)) = true := by
  have h := run_M8_0
  have a0 := h
  clear h
  have h := run_M8_1
  have b0 := h
  clear h
  have h := run_M8_2
  have c0 := h
  clear h
  have h := run_M8_3
  have d0 := h
  clear h
  cases b <;> cases l
  · exact a0
  · exact b0
  · exact c0
  · exact d0
end Go.Sx
end
