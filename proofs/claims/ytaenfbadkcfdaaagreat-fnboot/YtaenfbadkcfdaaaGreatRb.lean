/-
  ready: where a later guard says no. (Printed by gen_ready4.py.)
-/
import Derived.Test.YtaenfbadkcfdaaaGreatRa
namespace Go.Proofs
open Go.RowKit
open Go.Sx (Setup0)
set_option linter.unusedVariables false
set_option linter.unusedSimpArgs false

set_option maxRecDepth 100000 in
set_option maxHeartbeats 16000000 in
theorem ready_none_tt_d (id el hb ms mc mu inf : Int) (pv nf sd : Bool) (rp : Option Addr) (rc vb vo vc rb ro : Nat) (w : World) (c0 : 0 < id) (c1 : id < 1099511627776) (c2 : 1 ≤ hb) (c3 : hb < el) (c4 : el ≤ 30) (hno : Hid (¬ (1 ≤ inf ∧ inf ≤ 100 ∧ 1048576 ≤ ms ∧ 1048576 ≤ mc ∧ mu = 0))) :
    Calls Tryz.prog 7 #[.agg #[.int .u64 id, .int .i64 el, .int .i64 hb, .slice rp 0 rc, .bool pv, .bool true, .bool true, .bool nf, .bool sd, .int .u64 ms, .int .u64 mc, .int .u64 mu, .int .i64 inf, .string .empty, .int .u64 1, .int .u64 1, .slice (some ⟨vb, vo, none⟩) 1 vc, .slice none 0 0, .slice none 0 0, .slice none 0 0, .bool false, .slice none 0 0, .int .u64 1, .int .u64 0, .int .u64 1, .int .u64 0]] w (TellsB (Fine id el hb ms mc mu inf true true ∧ RandFit w rb ro 0 el) w) := by
  go_enter Tryz.func7, Tryz.ntmps7
  go_wp2_with (go_at_call 9; refine (known_yes c0 c1 _).mono ?_; rintro e w' ⟨rfl, rfl⟩)
  go_loop [46] (fun i => i = .int .i64 0) (fun i => 0)
  case atStart => rfl
  case round =>
    subst hrel
    by_cases d1 : 1 ≤ inf
    rotate_left
    · go_wp2
      go_ret
      exact ⟨_, rfl, ⟨fun h => (by cases h), fun h => (by have h1 := h.1.finf; omega)⟩, (Below.refl _ _).alloc (Nat.le_refl _) _⟩
    by_cases d2 : inf ≤ 100
    rotate_left
    · go_wp2
      go_ret
      exact ⟨_, rfl, ⟨fun h => (by cases h), fun h => (by have h1 := h.1.finf1; omega)⟩, (Below.refl _ _).alloc (Nat.le_refl _) _⟩
    by_cases d3 : 1048576 ≤ ms
    rotate_left
    · go_wp2
      go_ret
      exact ⟨_, rfl, ⟨fun h => (by cases h), fun h => (by have h1 := h.1.fms; omega)⟩, (Below.refl _ _).alloc (Nat.le_refl _) _⟩
    by_cases d4 : 1048576 ≤ mc
    rotate_left
    · go_wp2
      go_ret
      exact ⟨_, rfl, ⟨fun h => (by cases h), fun h => (by have h1 := h.1.fmc; omega)⟩, (Below.refl _ _).alloc (Nat.le_refl _) _⟩
    by_cases d5 : mu = 0
    rotate_left
    · go_wp2
      go_ret
      exact ⟨_, rfl, ⟨fun h => (by cases h), fun h => (by have h1 := h.1.fmu; omega)⟩, (Below.refl _ _).alloc (Nat.le_refl _) _⟩
    exact absurd ⟨d1, d2, d3, d4, d5⟩ hno.out

set_option maxRecDepth 100000 in
set_option maxHeartbeats 16000000 in
theorem ready_some_tt_d (id el hb ms mc mu inf : Int) (pv nf sd : Bool) (rn : Nat) (rc vb vo vc rb ro : Nat) (w : World) (c0 : 0 < id) (c1 : id < 1099511627776) (c2 : 1 ≤ hb) (c3 : hb < el) (c4 : el ≤ 30) (c5 : rn ≤ 10)
    (hrb : rb < w.heap.size) (hrc : ∀ j, j < rn → ∃ x, w.cell? ⟨rb, ro + j, none⟩ = some (.int .i64 x)) (hfit : Hid (RandFit w rb ro rn el)) (hno : Hid (¬ (1 ≤ inf ∧ inf ≤ 100 ∧ 1048576 ≤ ms ∧ 1048576 ≤ mc ∧ mu = 0))) :
    Calls Tryz.prog 7 #[.agg #[.int .u64 id, .int .i64 el, .int .i64 hb, .slice (some ⟨rb, ro, none⟩) rn rc, .bool pv, .bool true, .bool true, .bool nf, .bool sd, .int .u64 ms, .int .u64 mc, .int .u64 mu, .int .i64 inf, .string .empty, .int .u64 1, .int .u64 1, .slice (some ⟨vb, vo, none⟩) 1 vc, .slice none 0 0, .slice none 0 0, .slice none 0 0, .bool false, .slice none 0 0, .int .u64 1, .int .u64 0, .int .u64 1, .int .u64 0]] w (TellsB (Fine id el hb ms mc mu inf true true ∧ RandFit w rb ro rn el) w) := by
  go_enter Tryz.func7, Tryz.ntmps7
  go_wp2_with (go_at_call 9; refine (known_yes c0 c1 _).mono ?_; rintro e w' ⟨rfl, rfl⟩)
  go_loop [4, 46, 49] (fun u i z => ∃ k : Nat, k ≤ rn ∧ i = .int .i64 k) (fun u i z => rn - (intOf i).toNat)
  case atStart => exact ⟨0, Nat.zero_le _, rfl⟩
  case round =>
    obtain ⟨k, hk, rfl⟩ := hrel
    by_cases hlt : k < rn
    · obtain ⟨x, hx⟩ := hrc k hlt
      have hx2 : ∀ (xs : Array Value), (w.alloc (.cells xs 33)).cell? ⟨rb, ro + k, none⟩ = some (.int .i64 x) := by
        intro xs; rw [((Below.refl w.heap.size w).alloc (Nat.le_refl _) _).cell (p := ⟨rb, ro + k, none⟩) hrb]; exact hx
      obtain ⟨hx0, hx1⟩ := hfit.out.2 k hlt x hx
      go_wp2
      go_round
      case rel => exact ⟨k + 1, by omega, by go_num⟩
      case measure => simp [intOf]; omega
    · have hke : k = rn := by omega
      subst hke
      clear hlt
      have hl : ¬ ((k : Int) < (k : Int)) := by omega
      by_cases d1 : 1 ≤ inf
      rotate_left
      · go_wp2
        go_ret
        exact ⟨_, rfl, ⟨fun h => (by cases h), fun h => (by have h1 := h.1.finf; omega)⟩, (Below.refl _ _).alloc (Nat.le_refl _) _⟩
      by_cases d2 : inf ≤ 100
      rotate_left
      · go_wp2
        go_ret
        exact ⟨_, rfl, ⟨fun h => (by cases h), fun h => (by have h1 := h.1.finf1; omega)⟩, (Below.refl _ _).alloc (Nat.le_refl _) _⟩
      by_cases d3 : 1048576 ≤ ms
      rotate_left
      · go_wp2
        go_ret
        exact ⟨_, rfl, ⟨fun h => (by cases h), fun h => (by have h1 := h.1.fms; omega)⟩, (Below.refl _ _).alloc (Nat.le_refl _) _⟩
      by_cases d4 : 1048576 ≤ mc
      rotate_left
      · go_wp2
        go_ret
        exact ⟨_, rfl, ⟨fun h => (by cases h), fun h => (by have h1 := h.1.fmc; omega)⟩, (Below.refl _ _).alloc (Nat.le_refl _) _⟩
      by_cases d5 : mu = 0
      rotate_left
      · go_wp2
        go_ret
        exact ⟨_, rfl, ⟨fun h => (by cases h), fun h => (by have h1 := h.1.fmu; omega)⟩, (Below.refl _ _).alloc (Nat.le_refl _) _⟩
      exact absurd ⟨d1, d2, d3, d4, d5⟩ hno.out

end Go.Proofs
