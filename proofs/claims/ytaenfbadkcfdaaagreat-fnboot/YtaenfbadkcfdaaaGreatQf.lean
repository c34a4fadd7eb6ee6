/-
  FnBoot's runs: 6 peers. (Printed by gen_runs.py.)
-/
import Derived.Test.YtaenfbadkcfdaaaGreatSt
import Derived.Test.YtaenfbadkcfdaaaGreatSk
import Derived.KernelRfl
noncomputable section
namespace Go.Sx
set_option maxRecDepth 100000

theorem run_M6_0 : (isTrue (runBoot TT FT (kM 6 false false false)) && (isTrue (runBoot TT FT (kM 6 false true false)))) = true := by kernel_rfl
theorem run_M6_1 : (isTrue (runBoot TT FT (kM 6 true false false)) && (isTrue (runBoot TT FT (kM 6 true true false)))) = true := by kernel_rfl
theorem run_M6 (b l : Bool) : isTrue (runBoot TT FT (kM 6 b l false)) = true := by
  have h := run_M6_0
  obtain ⟨a0, h⟩ := and2 h
  have a1 := h
  clear h
  have h := run_M6_1
  obtain ⟨b0, h⟩ := and2 h
  have b1 := h
  clear h
  cases b <;> cases l
  · exact a0
  · exact a1
  · exact b0
  · exact b1
end Go.Sx
end
