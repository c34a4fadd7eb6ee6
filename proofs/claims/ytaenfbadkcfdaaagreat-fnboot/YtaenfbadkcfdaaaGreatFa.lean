/-
  FnBoot's row: closed facts.
-/
import Derived.Test.YtaenfbadkcfdaaaGreatRows
import Derived.WalkKit
import Derived.ProofKit
import Derived.OpenShut
noncomputable section
namespace Go.Proofs.YtaenfbadkcfdaaaGreat.fnBoot
theorem fact1 : Tryz.pinned.checked.prog.funcNamed Rows.fnBootRow.func = some 3 := by kernel_rfl
theorem fact3 : Func.isInstance Tryz.pinned.checked.prog Tryz.f3 Rows.fnBootRow.origin Rows.fnBootRow.targs := of_decide_eq_true (by kernel_rfl)
theorem fact4 : Func.isWrapper Tryz.pinned.checked.prog Tryz.f3 Rows.fnBootRow.wrapper Rows.fnBootRow.mainSum := by
  unfold Func.isWrapper
  first | (rw [if_pos (by decide +kernel)]; kernel_rfl) | (rw [if_neg (by decide +kernel)]; exact ⟨rfl, rfl⟩)
theorem and_mk {a b : Bool} (ha : a = true) (hb : b = true) : (a && b) = true := by rw [ha, hb]; rfl
set_option maxHeartbeats 40000000 in
set_option maxRecDepth 100000 in
theorem fact2 : joinedFacts Tryz.pinned.checked.prog 3 Tryz.f3 (OpenSpec.ofChange Rows.fnBootSpec).bare Rows.fnBootRow = true := by
  unfold joinedFacts
  repeat' with_reducible apply and_mk
  all_goals as_aux_lemma => kernel_rfl
end Go.Proofs.YtaenfbadkcfdaaaGreat.fnBoot
end
