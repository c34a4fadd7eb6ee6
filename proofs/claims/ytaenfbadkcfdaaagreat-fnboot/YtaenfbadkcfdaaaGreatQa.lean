/-
  FnBoot's runs: guards, and entries that can not be. (Printed by gen_runs.py.)
-/
import Derived.Test.YtaenfbadkcfdaaaGreatSt
import Derived.Test.YtaenfbadkcfdaaaGreatSk
import Derived.KernelRfl
noncomputable section
namespace Go.Sx
set_option maxRecDepth 100000

theorem run_G1 : isTrue (runBoot TT FT (kG1)) = true := by kernel_rfl
theorem run_G2 : isTrue (runBoot TT FT (kG2)) = true := by kernel_rfl
theorem run_G3_false : isTrue (runBoot TT FT (kG3 false)) = true := by kernel_rfl
theorem run_G3_true : isTrue (runBoot TT FT (kG3 true)) = true := by kernel_rfl
theorem run_G3 (b : Bool) : isTrue (runBoot TT FT (kG3 b)) = true := by cases b; exact run_G3_false; exact run_G3_true
theorem run_G4_false : isTrue (runBoot TT FT (kG4 false)) = true := by kernel_rfl
theorem run_G4_true : isTrue (runBoot TT FT (kG4 true)) = true := by kernel_rfl
theorem run_G4 (b : Bool) : isTrue (runBoot TT FT (kG4 b)) = true := by cases b; exact run_G4_false; exact run_G4_true
theorem run_G7_false : isTrue (runBoot TT FT (kG7 false)) = true := by kernel_rfl
theorem run_G7_true : isTrue (runBoot TT FT (kG7 true)) = true := by kernel_rfl
theorem run_G7 (b : Bool) : isTrue (runBoot TT FT (kG7 b)) = true := by cases b; exact run_G7_false; exact run_G7_true
theorem run_G5 : isTrue (runBoot TT FT (kG5)) = true := by kernel_rfl
theorem run_G6 : isTrue (runBoot TT FT (kG6)) = true := by kernel_rfl
theorem run_B1_0_false_false : isTrue (runBoot TT FT (kB1 0 false false)) = true := by kernel_rfl
theorem run_B1_0_false_true : isTrue (runBoot TT FT (kB1 0 false true)) = true := by kernel_rfl
theorem run_B1_0_true_false : isTrue (runBoot TT FT (kB1 0 true false)) = true := by kernel_rfl
theorem run_B1_0_true_true : isTrue (runBoot TT FT (kB1 0 true true)) = true := by kernel_rfl
theorem run_B2_0 : isTrue (runBoot TT FT (kB2 0)) = true := by kernel_rfl
theorem run_B1_1_false_false : isTrue (runBoot TT FT (kB1 1 false false)) = true := by kernel_rfl
theorem run_B1_1_false_true : isTrue (runBoot TT FT (kB1 1 false true)) = true := by kernel_rfl
theorem run_B1_1_true_false : isTrue (runBoot TT FT (kB1 1 true false)) = true := by kernel_rfl
theorem run_B1_1_true_true : isTrue (runBoot TT FT (kB1 1 true true)) = true := by kernel_rfl
theorem run_B2_1 : isTrue (runBoot TT FT (kB2 1)) = true := by kernel_rfl
theorem run_B1_2_false_false : isTrue (runBoot TT FT (kB1 2 false false)) = true := by kernel_rfl
theorem run_B1_2_false_true : isTrue (runBoot TT FT (kB1 2 false true)) = true := by kernel_rfl
theorem run_B1_2_true_false : isTrue (runBoot TT FT (kB1 2 true false)) = true := by kernel_rfl
theorem run_B1_2_true_true : isTrue (runBoot TT FT (kB1 2 true true)) = true := by kernel_rfl
theorem run_B2_2 : isTrue (runBoot TT FT (kB2 2)) = true := by kernel_rfl
theorem run_B1_3_false_false : isTrue (runBoot TT FT (kB1 3 false false)) = true := by kernel_rfl
theorem run_B1_3_false_true : isTrue (runBoot TT FT (kB1 3 false true)) = true := by kernel_rfl
theorem run_B1_3_true_false : isTrue (runBoot TT FT (kB1 3 true false)) = true := by kernel_rfl
theorem run_B1_3_true_true : isTrue (runBoot TT FT (kB1 3 true true)) = true := by kernel_rfl
theorem run_B2_3 : isTrue (runBoot TT FT (kB2 3)) = true := by kernel_rfl
theorem run_B1_4_false_false : isTrue (runBoot TT FT (kB1 4 false false)) = true := by kernel_rfl
theorem run_B1_4_false_true : isTrue (runBoot TT FT (kB1 4 false true)) = true := by kernel_rfl
theorem run_B1_4_true_false : isTrue (runBoot TT FT (kB1 4 true false)) = true := by kernel_rfl
theorem run_B1_4_true_true : isTrue (runBoot TT FT (kB1 4 true true)) = true := by kernel_rfl
theorem run_B2_4 : isTrue (runBoot TT FT (kB2 4)) = true := by kernel_rfl
theorem run_B1_5_false_false : isTrue (runBoot TT FT (kB1 5 false false)) = true := by kernel_rfl
theorem run_B1_5_false_true : isTrue (runBoot TT FT (kB1 5 false true)) = true := by kernel_rfl
theorem run_B1_5_true_false : isTrue (runBoot TT FT (kB1 5 true false)) = true := by kernel_rfl
theorem run_B1_5_true_true : isTrue (runBoot TT FT (kB1 5 true true)) = true := by kernel_rfl
theorem run_B2_5 : isTrue (runBoot TT FT (kB2 5)) = true := by kernel_rfl
theorem run_B1_6_false_false : isTrue (runBoot TT FT (kB1 6 false false)) = true := by kernel_rfl
theorem run_B1_6_false_true : isTrue (runBoot TT FT (kB1 6 false true)) = true := by kernel_rfl
theorem run_B1_6_true_false : isTrue (runBoot TT FT (kB1 6 true false)) = true := by kernel_rfl
theorem run_B1_6_true_true : isTrue (runBoot TT FT (kB1 6 true true)) = true := by kernel_rfl
theorem run_B2_6 : isTrue (runBoot TT FT (kB2 6)) = true := by kernel_rfl
theorem run_B1_7_false_false : isTrue (runBoot TT FT (kB1 7 false false)) = true := by kernel_rfl
theorem run_B1_7_false_true : isTrue (runBoot TT FT (kB1 7 false true)) = true := by kernel_rfl
theorem run_B1_7_true_false : isTrue (runBoot TT FT (kB1 7 true false)) = true := by kernel_rfl
theorem run_B1_7_true_true : isTrue (runBoot TT FT (kB1 7 true true)) = true := by kernel_rfl
theorem run_B2_7 : isTrue (runBoot TT FT (kB2 7)) = true := by kernel_rfl
theorem run_B1_8_false_false : isTrue (runBoot TT FT (kB1 8 false false)) = true := by kernel_rfl
theorem run_B1_8_false_true : isTrue (runBoot TT FT (kB1 8 false true)) = true := by kernel_rfl
theorem run_B1_8_true_false : isTrue (runBoot TT FT (kB1 8 true false)) = true := by kernel_rfl
theorem run_B1_8_true_true : isTrue (runBoot TT FT (kB1 8 true true)) = true := by kernel_rfl
theorem run_B2_8 : isTrue (runBoot TT FT (kB2 8)) = true := by kernel_rfl
theorem run_B1 (i : Nat) (hi : i < 9) (b l : Bool) : isTrue (runBoot TT FT (kB1 i b l)) = true := by
  match i, hi with
  | 0, _ => cases b <;> cases l; exact run_B1_0_false_false; exact run_B1_0_false_true; exact run_B1_0_true_false; exact run_B1_0_true_true
  | 1, _ => cases b <;> cases l; exact run_B1_1_false_false; exact run_B1_1_false_true; exact run_B1_1_true_false; exact run_B1_1_true_true
  | 2, _ => cases b <;> cases l; exact run_B1_2_false_false; exact run_B1_2_false_true; exact run_B1_2_true_false; exact run_B1_2_true_true
  | 3, _ => cases b <;> cases l; exact run_B1_3_false_false; exact run_B1_3_false_true; exact run_B1_3_true_false; exact run_B1_3_true_true
  | 4, _ => cases b <;> cases l; exact run_B1_4_false_false; exact run_B1_4_false_true; exact run_B1_4_true_false; exact run_B1_4_true_true
  | 5, _ => cases b <;> cases l; exact run_B1_5_false_false; exact run_B1_5_false_true; exact run_B1_5_true_false; exact run_B1_5_true_true
  | 6, _ => cases b <;> cases l; exact run_B1_6_false_false; exact run_B1_6_false_true; exact run_B1_6_true_false; exact run_B1_6_true_true
  | 7, _ => cases b <;> cases l; exact run_B1_7_false_false; exact run_B1_7_false_true; exact run_B1_7_true_false; exact run_B1_7_true_true
  | 8, _ => cases b <;> cases l; exact run_B1_8_false_false; exact run_B1_8_false_true; exact run_B1_8_true_false; exact run_B1_8_true_true
  | n + 9, h => omega
theorem run_B2 (i : Nat) (hi : i < 9) : isTrue (runBoot TT FT (kB2 i)) = true := by
  match i, hi with
  | 0, _ => exact run_B2_0
  | 1, _ => exact run_B2_1
  | 2, _ => exact run_B2_2
  | 3, _ => exact run_B2_3
  | 4, _ => exact run_B2_4
  | 5, _ => exact run_B2_5
  | 6, _ => exact run_B2_6
  | 7, _ => exact run_B2_7
  | 8, _ => exact run_B2_8
  | n + 9, h => omega
end Go.Sx
end
/-
  FnBoot's runs: 0 peers. (Printed by gen_runs.py.)
-/
noncomputable section
namespace Go.Sx
set_option maxRecDepth 100000

theorem run_M0_0 : (isTrue (runBoot TT FT (kM 0 false false false)) && (isTrue (runBoot TT FT (kM 0 false false true)) && (isTrue (runBoot TT FT (kM 0 false true false)) && (isTrue (runBoot TT FT (kM 0 false true true)))))) = true := by kernel_rfl
theorem run_M0_1 : (isTrue (runBoot TT FT (kM 0 true false false)) && (isTrue (runBoot TT FT (kM 0 true false true)) && (isTrue (runBoot TT FT (kM 0 true true false)) && (isTrue (runBoot TT FT (kM 0 true true true)))))) = true := by kernel_rfl
theorem run_M0 (b l pn : Bool) : isTrue (runBoot TT FT (kM 0 b l pn)) = true := by
  have h := run_M0_0
  obtain ⟨a0, h⟩ := and2 h
  obtain ⟨a1, h⟩ := and2 h
  obtain ⟨a2, h⟩ := and2 h
  have a3 := h
  clear h
  have h := run_M0_1
  obtain ⟨b0, h⟩ := and2 h
  obtain ⟨b1, h⟩ := and2 h
  obtain ⟨b2, h⟩ := and2 h
  have b3 := h
  clear h
  cases b <;> cases l <;> cases pn
  · exact a0
  · exact a1
  · exact a2
  · exact a3
  · exact b0
  · exact b1
  · exact b2
  · exact b3
end Go.Sx
end
