/-
  bytesOf.
-/
import Derived.Test.YtaenfbadkcfdaaaGreatBd
import Derived.Laws.IdiomStrings
import Derived.Laws.Strings
namespace Go.Proofs
open Go.RowKit
set_option linter.unusedVariables false
/-- what bytesOf makes of a string -/
def BoEnd (w : World) (s : ByteArray) (e : Ending) (w' : World) : Prop :=
  (s.size = 0 ∧ e = .returned (.slice none 0 0) ∧ w' = w) ∨
  (s.size ≠ 0 ∧ ∃ c xs fz, e = .returned (.slice (some ⟨w.heap.size, 0, none⟩) s.size c) ∧ s.size ≤ c ∧ Below w.heap.size w w' ∧ w'.heap[w.heap.size]? = some (.cells xs 5 fz) ∧ ∀ (j : Nat) (b : UInt8), s.data[j]? = some b → xs[j]? = some (.int .u8 b.toNat))
theorem toList_data (s : ByteArray) : s.toList = s.data.toList := by
  have h := ByteArray.toList_mk s.data.toList
  rw [Array.toArray_toList] at h
  exact h
set_option maxRecDepth 100000 in
set_option maxHeartbeats 4000000 in
theorem bytesOf_any (s : ByteArray) (hs : s.size ≤ maxLen) (w : World) : Calls Tryz.prog 27 #[.string s] w (BoEnd w s) := by
  by_cases h0 : s.size = 0
  · have hl : s.toList = [] := by
      rw [toList_data]
      have : s.data.size = 0 := h0
      simpa using Array.eq_empty_of_size_eq_zero this
    go_enter Tryz.func27, Tryz.ntmps27
    go_wp2
    go_ret
    exact .inl ⟨h0, rfl, rfl⟩
  · have hl : s.toList.isEmpty = false := by
      rw [toList_data]
      have : s.data.size ≠ 0 := h0
      simpa [List.isEmpty_iff] using fun e => this (by simp [e])
    have hconv := run_bytes_of_string (P := Tryz.prog) w 9 82 5 s Tryz.underlying9 Tryz.underlying82 Tryz.underlying5
    have hend : BoEnd w s (.returned (.slice (some ⟨w.heap.size, 0, none⟩) s.size (grownCap w s.size 0 5)))
      (w.drew.alloc (.cells (bytesRow s (grownCap w s.size 0 5)) 5 ((bytesRow s (grownCap w s.size 0 5)).size, (bytesRow s (grownCap w s.size 0 5)).size + 1))) := by
      refine .inr ⟨h0, _, bytesRow s (grownCap w s.size 0 5), _, rfl, ?_, ((Below.refl w.heap.size w).drew).alloc (Nat.le_refl _) _, heap_alloc_eq rfl, fun j b hj => ?_⟩
      · exact grownCap_ge w s.size 0 5
      · have hlt : j < s.data.size := (Array.getElem?_eq_some_iff.1 hj).1
        unfold bytesRow
        rw [Array.getElem?_append_left (by simpa using hlt)]
        simp [hj]
    generalize grownCap w s.size 0 5 = c at hconv hend
    generalize w.drew.alloc _ = W at hconv hend
    go_enter Tryz.func27, Tryz.ntmps27
    go_wp2
    go_ret
    exact hend
end Go.Proofs
