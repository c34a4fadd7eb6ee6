/-
  (*raft).zzIntn: the next number of those that are given.
-/
import Derived.Test.YtaenfbadkcfdaaaGreatSt
import Derived.WalkKit
import Derived.ProofKit
import Derived.Deep.Quiet
import Derived.Deep.QuietTactic
namespace Go.Proofs
open Go.RowKit
set_option linter.unusedVariables false
set_option maxRecDepth 100000 in
set_option maxHeartbeats 800000 in
theorem intn_none (pb : Nat) (el : Int) (base : Option Addr) (c : Nat) (w : World) (h38 : w.cell? ⟨pb, 38, none⟩ = some (.slice base 0 c)) :
    Calls Tryz.prog 268 #[.pointer (some ⟨pb, 0, none⟩), .int .i64 el] w fun e w' => e = .returned (.int .i64 0) ∧ w' = w := by
  go_enter Tryz.func268, Tryz.ntmps268
  go_wp2
  go_ret
  exact ⟨rfl, rfl⟩
set_option maxRecDepth 100000 in
set_option maxHeartbeats 1600000 in
theorem intn_some (pb b o n c k : Nat) (x el : Int) (hn : 0 < n) (hn2 : n ≤ 30) (hk : k ≤ 100) (he : 2 ≤ el) (he2 : el ≤ 30) (hbp : b ≠ pb) (w : World) (h38 : w.cell? ⟨pb, 38, none⟩ = some (.slice (some ⟨b, o, none⟩) n c)) (h39 : w.cell? ⟨pb, 39, none⟩ = some (.int .i64 k))
    (hf : w.frozen? ⟨pb, 39, none⟩ = false) (m : Nat) (hm : m = k % n) (hx : w.cell? ⟨b, o + m, none⟩ = some (.int .i64 x)) :
    Calls Tryz.prog 268 #[.pointer (some ⟨pb, 0, none⟩), .int .i64 el] w fun e w' => e = .returned (.int .i64 (IntKind.u64.wrap x % el)) ∧ ∃ d, w' = (w.drewN d).setCell ⟨pb, 39, none⟩ (.int .i64 (k + 1)) := by
  have hn0 : ¬ n = 0 := by omega
  have hmn : m < n := by rw [hm]; exact Nat.mod_lt _ hn
  have htm : (k : Int).tmod (n : Int) = (m : Int) := by rw [hm, Int.natCast_emod]; exact Int.tmod_eq_emod_of_nonneg (by omega)
  have hel0 : ¬ el = 0 := by omega
  have hwk : IntKind.i64.wrap ((k : Int) + 1) = (k : Int) + 1 := IntWalk.i64_in _ (by omega)
  have hwe : IntKind.u64.wrap el = el := IntWalk.u64_in _ (by omega)
  obtain ⟨y, hy⟩ : ∃ y, y = IntKind.u64.wrap x := ⟨_, rfl⟩
  have hyr : 0 ≤ y ∧ y ≤ 18446744073709551615 := by rw [hy]; simp [IntKind.wrap, IntKind.bits, IntKind.signed]; omega
  rw [← hy]
  have hwx : IntKind.u64.wrap x = y := hy.symm
  have hyt : y.tmod el = y % el := Int.tmod_eq_emod_of_nonneg hyr.1
  have hye : 0 ≤ y % el ∧ y % el < el := ⟨Int.emod_nonneg _ hel0, Int.emod_lt_of_pos _ (by omega)⟩
  have hw64 : wrap64 (y % el) = y % el := by have := IntWalk.i64_in (y % el) (by omega); simpa [wrap64, IntKind.wrap_i64] using this
  clear hm hy
  go_enter Tryz.func268, Tryz.ntmps268
  go_wp2
  go_quiet (fail)
  go_wp2
  go_ret
  exact ⟨rfl, nq, rfl⟩
end Go.Proofs
