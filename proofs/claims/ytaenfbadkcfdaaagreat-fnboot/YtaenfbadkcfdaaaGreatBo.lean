/-
  spec.Once, spec.Has: of a row of numbers.
-/
import Derived.Test.YtaenfbadkcfdaaaGreatBl
import Derived.Test.YtaenfbadkcfdaaaGreatBm
namespace Go.Proofs
open Go.RowKit
set_option linter.unusedVariables false
set_option linter.unusedSimpArgs false
set_option maxHeartbeats 800000 in
theorem has_none (ad : Option Addr) (cap : Nat) (x : Int) (w : World) : Calls Tryz.prog 25 #[.slice ad 0 cap, .int .u64 x] w (Tells False w) := by
  go_enter Tryz.func25, Tryz.ntmps25
  go_wp2
  go_loop [9] (fun i => i = .int .i64 0) (fun i => 0)
  case atStart => rfl
  case round =>
    subst hrel
    go_wp2
    go_ret
    exact ⟨_, rfl, by simp, rfl⟩
set_option maxHeartbeats 800000 in
theorem has_some (b o n cap : Nat) (xs : List Int) (x : Int) (w : World) (hX : XsAt w b o xs) (hn : n ≤ xs.length) (hlen : xs.length ≤ 9223372036854775807) :
    Calls Tryz.prog 25 #[.slice (some ⟨b, o, none⟩) n cap, .int .u64 x] w (Tells (x ∈ xs.take n) w) := by
  go_enter Tryz.func25, Tryz.ntmps25
  go_wp2
  go_loop [9] (fun i => ∃ k : Nat, k ≤ n ∧ i = .int .i64 k ∧ x ∉ xs.take k) (fun i => n - (intOf i).toNat)
  case atStart => exact ⟨0, Nat.zero_le _, rfl, by simp⟩
  case round =>
    obtain ⟨k, hk, rfl, hno⟩ := hrel
    by_cases hlt : k < n
    · obtain ⟨y, hy⟩ : ∃ y, xs[k]? = some y := ⟨xs[k]'(by omega), List.getElem?_eq_getElem _⟩
      have hc := hX.2 k y hy
      have ht := take_snoc hy
      by_cases hxy : y = x
      · subst hxy
        have hin : y ∈ xs.take n := by
          have h1 : y ∈ xs.take (k + 1) := by rw [ht]; simp
          exact (List.take_subset_take_left xs (by omega : k + 1 ≤ n)) h1
        clear hno
        go_wp2
        go_ret
        exact ⟨_, rfl, by simp [hin], rfl⟩
      · have hno2 : x ∉ xs.take (k + 1) := by
          rw [ht]
          simp only [List.mem_append, List.mem_singleton, not_or]
          exact ⟨hno, fun e => hxy e.symm⟩
        clear hno
        go_wp2
        go_round
        case rel => exact ⟨k + 1, by omega, by go_num, hno2⟩
        case measure => simp [intOf]; omega
    · have hke : k = n := by omega
      subst hke
      clear hlt
      have hl : ¬ ((k : Int) < (k : Int)) := by omega
      go_wp2
      go_ret
      exact ⟨_, rfl, by simp [hno], rfl⟩
set_option maxHeartbeats 800000 in
theorem once_none (ad : Option Addr) (cap : Nat) (w : World) : Calls Tryz.prog 8 #[.slice ad 0 cap] w (Tells True w) := by
  go_enter Tryz.func8, Tryz.ntmps8
  go_wp2
  go_loop [7] (fun i => i = .int .i64 0) (fun i => 0)
  case atStart => rfl
  case round =>
    subst hrel
    go_wp2
    go_ret
    exact ⟨_, rfl, by simp, rfl⟩
theorem nodup_snoc {xs : List Int} {k : Nat} {y : Int} (hy : xs[k]? = some y) (h : (xs.take k).Nodup) (hn : y ∉ xs.take k) : (xs.take (k + 1)).Nodup := by
  rw [take_snoc hy, List.nodup_append]
  refine ⟨h, by simp, ?_⟩
  intro a ha b hb e
  simp at hb
  subst hb; subst e
  exact hn ha
theorem not_nodup {xs : List Int} {k : Nat} {y : Int} (hy : xs[k]? = some y) (hin : y ∈ xs.take k) : ¬ xs.Nodup := by
  intro h
  have h1 : (xs.take (k + 1)).Nodup := h.sublist (List.take_sublist _ _)
  rw [take_snoc hy, List.nodup_append] at h1
  exact h1.2.2 y hin y (by simp) rfl
set_option maxHeartbeats 1600000 in
theorem once_some (b o cap : Nat) (xs : List Int) (w : World) (hX : XsAt w b o xs) (hlen : xs.length ≤ 9223372036854775807) (hcap : xs.length ≤ cap) (hcap2 : cap ≤ 9223372036854775807) :
    Calls Tryz.prog 8 #[.slice (some ⟨b, o, none⟩) xs.length cap] w (Tells xs.Nodup w) := by
  obtain ⟨N, hN⟩ : ∃ N, N = xs.length := ⟨_, rfl⟩
  have HN : Hid (N = xs.length) := Lib.hid hN
  rw [← hN] at hlen hcap ⊢
  clear hN
  go_enter Tryz.func8, Tryz.ntmps8
  go_wp2
  go_loop [7] (fun i => ∃ k : Nat, k ≤ N ∧ i = .int .i64 k ∧ (xs.take k).Nodup) (fun i => N - (intOf i).toNat)
  case atStart => exact ⟨0, Nat.zero_le _, rfl, by simp⟩
  case round =>
    obtain ⟨k, hk, rfl, hnd⟩ := hrel
    by_cases hlt : k < N
    · obtain ⟨y, hy⟩ : ∃ y, xs[k]? = some y := ⟨xs[k]'(by have := HN.out; omega), List.getElem?_eq_getElem _⟩
      have hc := hX.2 k y hy
      have hfit : k ≤ cap := by omega
      have hhas := has_some b o k cap xs y w hX (by have := HN.out; omega) (by have := HN.out; omega)
      go_wp2_with (go_at_call 25; refine hhas.mono ?_; rintro e w' ⟨t, rfl, hiff, rfl⟩)
      · have hin : y ∈ xs.take k := by rw [← hiff]; simp_all
        have hno := not_nodup hy hin
        go_ret
        exact ⟨_, rfl, by simp [hno], rfl⟩
      · have hnot : y ∉ xs.take k := by rw [← hiff]; simp_all
        have hnd2 := nodup_snoc hy hnd hnot
        go_round
        case rel => exact ⟨k + 1, by omega, by go_num, hnd2⟩
        case measure => simp [intOf]; omega
    · have hke : k = N := by omega
      have hyes : xs.Nodup := by
        rw [List.take_of_length_le (by have := HN.out; omega)] at hnd
        exact hnd
      subst hke
      clear hlt hnd
      have hl : ¬ ((k : Int) < (k : Int)) := by omega
      go_wp2
      go_ret
      exact ⟨_, rfl, by simp [hyes], rfl⟩
end Go.Proofs
