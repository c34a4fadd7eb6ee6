/-
  FnBoot's runs: 1 peers. (Printed by gen_runs.py.)
-/
import Derived.Test.YtaenfbadkcfdaaaGreatSt
import Derived.Test.YtaenfbadkcfdaaaGreatSk
import Derived.KernelRfl
noncomputable section
namespace Go.Sx
set_option maxRecDepth 100000

theorem run_M1_0 : (isTrue (runBoot TT FT (kM 1 false false false)) && (isTrue (runBoot TT FT (kM 1 false true false)))) = true := by kernel_rfl
theorem run_M1_1 : (isTrue (runBoot TT FT (kM 1 true false false)) && (isTrue (runBoot TT FT (kM 1 true true false)))) = true := by kernel_rfl
theorem run_M1 (b l : Bool) : isTrue (runBoot TT FT (kM 1 b l false)) = true := by
  have h := run_M1_0
  obtain ⟨a0, h⟩ := and2 h
  have a1 := h
  clear h
  have h := run_M1_1
  obtain ⟨b0, h⟩ := and2 h
  have b1 := h
  clear h
  cases b <;> cases l
  · exact a0
  · exact a1
  · exact b0
  · exact b1
end Go.Sx
end
/-
  FnBoot's runs: 2 peers. (Printed by gen_runs.py.)
-/
noncomputable section
namespace Go.Sx
set_option maxRecDepth 100000

theorem run_M2_0 : (isTrue (runBoot TT FT (kM 2 false false false)) && (isTrue (runBoot TT FT (kM 2 false true false)))) = true := by kernel_rfl
theorem run_M2_1 : (isTrue (runBoot TT FT (kM 2 true false false)) && (isTrue (runBoot TT FT (kM 2 true true false)))) = true := by kernel_rfl
theorem run_M2 (b l : Bool) : isTrue (runBoot TT FT (kM 2 b l false)) = true := by
  have h := run_M2_0
  obtain ⟨a0, h⟩ := and2 h
  have a1 := h
  clear h
  have h := run_M2_1
  obtain ⟨b0, h⟩ := and2 h
  have b1 := h
  clear h
  cases b <;> cases l
  · exact a0
  · exact a1
  · exact b0
  · exact b1
end Go.Sx
end
