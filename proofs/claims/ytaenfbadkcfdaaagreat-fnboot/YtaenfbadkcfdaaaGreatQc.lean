/-
  FnBoot's runs: 3 peers. (Printed by gen_runs.py.)
-/
import Derived.Test.YtaenfbadkcfdaaaGreatSt
import Derived.Test.YtaenfbadkcfdaaaGreatSk
import Derived.KernelRfl
noncomputable section
namespace Go.Sx
set_option maxRecDepth 100000

theorem run_M3_0 : (isTrue (runBoot TT FT (kM 3 false false false)) && (isTrue (runBoot TT FT (kM 3 false true false)))) = true := by kernel_rfl
theorem run_M3_1 : (isTrue (runBoot TT FT (kM 3 true false false)) && (isTrue (runBoot TT FT (kM 3 true true false)))) = true := by kernel_rfl
theorem run_M3 (b l : Bool) : isTrue (runBoot TT FT (kM 3 b l false)) = true := by
  have h := run_M3_0
  obtain ⟨a0, h⟩ := and2 h
  have a1 := h
  clear h
  have h := run_M3_1
  obtain ⟨b0, h⟩ := and2 h
  have b1 := h
  clear h
  cases b <;> cases l
  · exact a0
  · exact a1
  · exact b0
  · exact b1
end Go.Sx
end
/-
  FnBoot's runs: 4 peers. (Printed by gen_runs.py.)
-/
noncomputable section
namespace Go.Sx
set_option maxRecDepth 100000

theorem run_M4_0 : (isTrue (runBoot TT FT (kM 4 false false false)) && (isTrue (runBoot TT FT (kM 4 false true false)))) = true := by kernel_rfl
theorem run_M4_1 : (isTrue (runBoot TT FT (kM 4 true false false)) && (isTrue (runBoot TT FT (kM 4 true true false)))) = true := by kernel_rfl
theorem run_M4 (b l : Bool) : isTrue (runBoot TT FT (kM 4 b l false)) = true := by
  have h := run_M4_0
  obtain ⟨a0, h⟩ := and2 h
  have a1 := h
  clear h
  have h := run_M4_1
  obtain ⟨b0, h⟩ := and2 h
  have b1 := h
  clear h
  cases b <;> cases l
  · exact a0
  · exact a1
  · exact b0
  · exact b1
end Go.Sx
end
