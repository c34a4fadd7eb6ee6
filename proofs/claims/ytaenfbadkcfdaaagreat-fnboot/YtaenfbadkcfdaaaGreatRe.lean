/-
  ready: where a first guard says no. (Printed by gen_ready4.py.)
-/
import Derived.Test.YtaenfbadkcfdaaaGreatRa
namespace Go.Proofs
open Go.RowKit
open Go.Sx (Setup0)
set_option linter.unusedVariables false
set_option linter.unusedSimpArgs false

set_option maxRecDepth 100000 in
set_option maxHeartbeats 16000000 in
theorem ready_c1 (id el hb ms mc mu inf : Int) (pv cq ls nf sd : Bool) (rp : Option Addr) (rn rc vb vo vc rb ro : Nat) (w : World) (c1 : ¬ (0 < id ∧ id < 1099511627776)) :
    Calls Tryz.prog 7 #[.agg #[.int .u64 id, .int .i64 el, .int .i64 hb, .slice rp rn rc, .bool pv, .bool cq, .bool ls, .bool nf, .bool sd, .int .u64 ms, .int .u64 mc, .int .u64 mu, .int .i64 inf, .string .empty, .int .u64 1, .int .u64 1, .slice (some ⟨vb, vo, none⟩) 1 vc, .slice none 0 0, .slice none 0 0, .slice none 0 0, .bool false, .slice none 0 0, .int .u64 1, .int .u64 0, .int .u64 1, .int .u64 0]] w (TellsB (Fine id el hb ms mc mu inf cq ls ∧ RandFit w rb ro rn el) w) := by
  have hno : Hid (¬ (0 < id ∧ id < 1099511627776)) := Lib.hid c1
  have hk := known_no c1
  clear c1
  go_enter Tryz.func7, Tryz.ntmps7
  go_wp2_with (go_at_call 9; refine (hk _).mono ?_; rintro e w' ⟨rfl, rfl⟩)
  go_ret
  exact ⟨_, rfl, ⟨fun h => (by cases h), fun h => (absurd (And.intro h.1.fid0 h.1.fid1) hno.out)⟩, (Below.refl _ _).alloc (Nat.le_refl _) _⟩

set_option maxRecDepth 100000 in
set_option maxHeartbeats 16000000 in
theorem ready_c2 (id el hb ms mc mu inf : Int) (pv cq ls nf sd : Bool) (rp : Option Addr) (rn rc vb vo vc rb ro : Nat) (w : World) (c0 : 0 < id) (c1 : id < 1099511627776) (c2 : ¬ 1 ≤ hb) :
    Calls Tryz.prog 7 #[.agg #[.int .u64 id, .int .i64 el, .int .i64 hb, .slice rp rn rc, .bool pv, .bool cq, .bool ls, .bool nf, .bool sd, .int .u64 ms, .int .u64 mc, .int .u64 mu, .int .i64 inf, .string .empty, .int .u64 1, .int .u64 1, .slice (some ⟨vb, vo, none⟩) 1 vc, .slice none 0 0, .slice none 0 0, .slice none 0 0, .bool false, .slice none 0 0, .int .u64 1, .int .u64 0, .int .u64 1, .int .u64 0]] w (TellsB (Fine id el hb ms mc mu inf cq ls ∧ RandFit w rb ro rn el) w) := by
  go_enter Tryz.func7, Tryz.ntmps7
  go_wp2_with (go_at_call 9; refine (known_yes c0 c1 _).mono ?_; rintro e w' ⟨rfl, rfl⟩)
  go_ret
  exact ⟨_, rfl, ⟨fun h => (by cases h), fun h => (by have h1 := h.1.fhb; omega)⟩, (Below.refl _ _).alloc (Nat.le_refl _) _⟩

set_option maxRecDepth 100000 in
set_option maxHeartbeats 16000000 in
theorem ready_c3 (id el hb ms mc mu inf : Int) (pv cq ls nf sd : Bool) (rp : Option Addr) (rn rc vb vo vc rb ro : Nat) (w : World) (c0 : 0 < id) (c1 : id < 1099511627776) (c2 : 1 ≤ hb) (c3 : ¬ hb < el) :
    Calls Tryz.prog 7 #[.agg #[.int .u64 id, .int .i64 el, .int .i64 hb, .slice rp rn rc, .bool pv, .bool cq, .bool ls, .bool nf, .bool sd, .int .u64 ms, .int .u64 mc, .int .u64 mu, .int .i64 inf, .string .empty, .int .u64 1, .int .u64 1, .slice (some ⟨vb, vo, none⟩) 1 vc, .slice none 0 0, .slice none 0 0, .slice none 0 0, .bool false, .slice none 0 0, .int .u64 1, .int .u64 0, .int .u64 1, .int .u64 0]] w (TellsB (Fine id el hb ms mc mu inf cq ls ∧ RandFit w rb ro rn el) w) := by
  go_enter Tryz.func7, Tryz.ntmps7
  go_wp2_with (go_at_call 9; refine (known_yes c0 c1 _).mono ?_; rintro e w' ⟨rfl, rfl⟩)
  go_ret
  exact ⟨_, rfl, ⟨fun h => (by cases h), fun h => (by have h1 := h.1.fel; omega)⟩, (Below.refl _ _).alloc (Nat.le_refl _) _⟩

set_option maxRecDepth 100000 in
set_option maxHeartbeats 16000000 in
theorem ready_c4 (id el hb ms mc mu inf : Int) (pv cq ls nf sd : Bool) (rp : Option Addr) (rn rc vb vo vc rb ro : Nat) (w : World) (c0 : 0 < id) (c1 : id < 1099511627776) (c2 : 1 ≤ hb) (c3 : hb < el) (c4 : ¬ el ≤ 30) :
    Calls Tryz.prog 7 #[.agg #[.int .u64 id, .int .i64 el, .int .i64 hb, .slice rp rn rc, .bool pv, .bool cq, .bool ls, .bool nf, .bool sd, .int .u64 ms, .int .u64 mc, .int .u64 mu, .int .i64 inf, .string .empty, .int .u64 1, .int .u64 1, .slice (some ⟨vb, vo, none⟩) 1 vc, .slice none 0 0, .slice none 0 0, .slice none 0 0, .bool false, .slice none 0 0, .int .u64 1, .int .u64 0, .int .u64 1, .int .u64 0]] w (TellsB (Fine id el hb ms mc mu inf cq ls ∧ RandFit w rb ro rn el) w) := by
  go_enter Tryz.func7, Tryz.ntmps7
  go_wp2_with (go_at_call 9; refine (known_yes c0 c1 _).mono ?_; rintro e w' ⟨rfl, rfl⟩)
  go_ret
  exact ⟨_, rfl, ⟨fun h => (by cases h), fun h => (by have h1 := h.1.fel1; omega)⟩, (Below.refl _ _).alloc (Nat.le_refl _) _⟩

set_option maxRecDepth 100000 in
set_option maxHeartbeats 16000000 in
theorem ready_c5 (id el hb ms mc mu inf : Int) (pv cq ls nf sd : Bool) (rp : Option Addr) (rn rc vb vo vc rb ro : Nat) (w : World) (c0 : 0 < id) (c1 : id < 1099511627776) (c2 : 1 ≤ hb) (c3 : hb < el) (c4 : el ≤ 30) (c5 : ¬ rn ≤ 10) :
    Calls Tryz.prog 7 #[.agg #[.int .u64 id, .int .i64 el, .int .i64 hb, .slice rp rn rc, .bool pv, .bool cq, .bool ls, .bool nf, .bool sd, .int .u64 ms, .int .u64 mc, .int .u64 mu, .int .i64 inf, .string .empty, .int .u64 1, .int .u64 1, .slice (some ⟨vb, vo, none⟩) 1 vc, .slice none 0 0, .slice none 0 0, .slice none 0 0, .bool false, .slice none 0 0, .int .u64 1, .int .u64 0, .int .u64 1, .int .u64 0]] w (TellsB (Fine id el hb ms mc mu inf cq ls ∧ RandFit w rb ro rn el) w) := by
  go_enter Tryz.func7, Tryz.ntmps7
  go_wp2_with (go_at_call 9; refine (known_yes c0 c1 _).mono ?_; rintro e w' ⟨rfl, rfl⟩)
  go_ret
  exact ⟨_, rfl, ⟨fun h => (by cases h), fun h => (by have h1 := h.2.1; omega)⟩, (Below.refl _ _).alloc (Nat.le_refl _) _⟩

set_option maxRecDepth 100000 in
set_option maxHeartbeats 16000000 in
theorem ready_c6 (id el hb ms mc mu inf : Int) (pv cq ls nf sd : Bool) (rp : Option Addr) (rn rc vb vo vc rb ro : Nat) (w : World) (c0 : 0 < id) (c1 : id < 1099511627776) (c2 : 1 ≤ hb) (c3 : hb < el) (c4 : el ≤ 30) (c5 : rn ≤ 10) :
    Calls Tryz.prog 7 #[.agg #[.int .u64 id, .int .i64 el, .int .i64 hb, .slice rp rn rc, .bool pv, .bool false, .bool true, .bool nf, .bool sd, .int .u64 ms, .int .u64 mc, .int .u64 mu, .int .i64 inf, .string .empty, .int .u64 1, .int .u64 1, .slice (some ⟨vb, vo, none⟩) 1 vc, .slice none 0 0, .slice none 0 0, .slice none 0 0, .bool false, .slice none 0 0, .int .u64 1, .int .u64 0, .int .u64 1, .int .u64 0]] w (TellsB (Fine id el hb ms mc mu inf false true ∧ RandFit w rb ro rn el) w) := by
  go_enter Tryz.func7, Tryz.ntmps7
  go_wp2_with (go_at_call 9; refine (known_yes c0 c1 _).mono ?_; rintro e w' ⟨rfl, rfl⟩)
  go_ret
  exact ⟨_, rfl, ⟨fun h => (by cases h), fun h => (by cases h.1.fls rfl)⟩, (Below.refl _ _).alloc (Nat.le_refl _) _⟩

end Go.Proofs
/-
  ready: a walk over what is drawn from, where that is not fit. (Printed by gen_ready4.py.)
-/
namespace Go.Proofs
open Go.RowKit
open Go.Sx (Setup0)
set_option linter.unusedVariables false
set_option linter.unusedSimpArgs false

set_option maxRecDepth 100000 in
set_option maxHeartbeats 16000000 in
theorem ready_some_tt_rf (id el hb ms mc mu inf : Int) (pv nf sd : Bool) (rn : Nat) (rc vb vo vc rb ro : Nat) (w : World) (c0 : 0 < id) (c1 : id < 1099511627776) (c2 : 1 ≤ hb) (c3 : hb < el) (c4 : el ≤ 30) (c5 : rn ≤ 10)
    (hrb : rb < w.heap.size) (hrc : ∀ j, j < rn → ∃ x, w.cell? ⟨rb, ro + j, none⟩ = some (.int .i64 x)) (hnr : Hid (¬ RandFit w rb ro rn el)) :
    Calls Tryz.prog 7 #[.agg #[.int .u64 id, .int .i64 el, .int .i64 hb, .slice (some ⟨rb, ro, none⟩) rn rc, .bool pv, .bool true, .bool true, .bool nf, .bool sd, .int .u64 ms, .int .u64 mc, .int .u64 mu, .int .i64 inf, .string .empty, .int .u64 1, .int .u64 1, .slice (some ⟨vb, vo, none⟩) 1 vc, .slice none 0 0, .slice none 0 0, .slice none 0 0, .bool false, .slice none 0 0, .int .u64 1, .int .u64 0, .int .u64 1, .int .u64 0]] w (TellsB (Fine id el hb ms mc mu inf true true ∧ RandFit w rb ro rn el) w) := by
  go_enter Tryz.func7, Tryz.ntmps7
  go_wp2_with (go_at_call 9; refine (known_yes c0 c1 _).mono ?_; rintro e w' ⟨rfl, rfl⟩)
  go_loop [4, 46, 49] (fun u i z => ∃ k : Nat, k ≤ rn ∧ i = .int .i64 k ∧ ∀ j, j < k → ∀ x, w.cell? ⟨rb, ro + j, none⟩ = some (.int .i64 x) → 0 ≤ x ∧ x < el) (fun u i z => rn - (intOf i).toNat)
  case atStart => exact ⟨0, Nat.zero_le _, rfl, fun j hj => by omega⟩
  case round =>
    obtain ⟨k, hk, rfl, hall⟩ := hrel
    by_cases hlt : k < rn
    · obtain ⟨x, hx⟩ := hrc k hlt
      have hx2 : ∀ (xs : Array Value), (w.alloc (.cells xs 33)).cell? ⟨rb, ro + k, none⟩ = some (.int .i64 x) := by
        intro xs; rw [((Below.refl w.heap.size w).alloc (Nat.le_refl _) _).cell (p := ⟨rb, ro + k, none⟩) hrb]; exact hx
      by_cases hx0 : 0 ≤ x
      rotate_left
      · clear hall
        go_wp2
        go_ret
        exact ⟨_, rfl, ⟨fun h => (by cases h), fun h => (absurd h.2 hnr.out)⟩, (Below.refl _ _).alloc (Nat.le_refl _) _⟩
      by_cases hx1 : x < el
      rotate_left
      · clear hall
        go_wp2
        go_ret
        exact ⟨_, rfl, ⟨fun h => (by cases h), fun h => (absurd h.2 hnr.out)⟩, (Below.refl _ _).alloc (Nat.le_refl _) _⟩
      · have hall2 : ∀ j, j < k + 1 → ∀ x, w.cell? ⟨rb, ro + j, none⟩ = some (.int .i64 x) → 0 ≤ x ∧ x < el := by
          intro j hj y hy
          by_cases e : j = k
          · subst e
            rw [hx] at hy
            cases hy
            exact ⟨hx0, hx1⟩
          · exact hall j (by omega) y hy
        have hh := Lib.hid hall2
        clear hall hall2
        go_wp2
        go_round
        case rel => exact ⟨k + 1, by omega, by go_num, hh.out⟩
        case measure => simp [intOf]; omega
    · have hke : k = rn := by omega
      subst hke
      exact absurd ⟨c5, hall⟩ hnr.out

set_option maxRecDepth 100000 in
set_option maxHeartbeats 16000000 in
theorem ready_some_f_rf (id el hb ms mc mu inf : Int) (pv nf sd : Bool) (cq : Bool) (rn : Nat) (rc vb vo vc rb ro : Nat) (w : World) (c0 : 0 < id) (c1 : id < 1099511627776) (c2 : 1 ≤ hb) (c3 : hb < el) (c4 : el ≤ 30) (c5 : rn ≤ 10)
    (hrb : rb < w.heap.size) (hrc : ∀ j, j < rn → ∃ x, w.cell? ⟨rb, ro + j, none⟩ = some (.int .i64 x)) (hnr : Hid (¬ RandFit w rb ro rn el)) :
    Calls Tryz.prog 7 #[.agg #[.int .u64 id, .int .i64 el, .int .i64 hb, .slice (some ⟨rb, ro, none⟩) rn rc, .bool pv, .bool cq, .bool false, .bool nf, .bool sd, .int .u64 ms, .int .u64 mc, .int .u64 mu, .int .i64 inf, .string .empty, .int .u64 1, .int .u64 1, .slice (some ⟨vb, vo, none⟩) 1 vc, .slice none 0 0, .slice none 0 0, .slice none 0 0, .bool false, .slice none 0 0, .int .u64 1, .int .u64 0, .int .u64 1, .int .u64 0]] w (TellsB (Fine id el hb ms mc mu inf cq false ∧ RandFit w rb ro rn el) w) := by
  go_enter Tryz.func7, Tryz.ntmps7
  go_wp2_with (go_at_call 9; refine (known_yes c0 c1 _).mono ?_; rintro e w' ⟨rfl, rfl⟩)
  go_loop [4, 46, 49] (fun u i z => ∃ k : Nat, k ≤ rn ∧ i = .int .i64 k ∧ ∀ j, j < k → ∀ x, w.cell? ⟨rb, ro + j, none⟩ = some (.int .i64 x) → 0 ≤ x ∧ x < el) (fun u i z => rn - (intOf i).toNat)
  case atStart => exact ⟨0, Nat.zero_le _, rfl, fun j hj => by omega⟩
  case round =>
    obtain ⟨k, hk, rfl, hall⟩ := hrel
    by_cases hlt : k < rn
    · obtain ⟨x, hx⟩ := hrc k hlt
      have hx2 : ∀ (xs : Array Value), (w.alloc (.cells xs 33)).cell? ⟨rb, ro + k, none⟩ = some (.int .i64 x) := by
        intro xs; rw [((Below.refl w.heap.size w).alloc (Nat.le_refl _) _).cell (p := ⟨rb, ro + k, none⟩) hrb]; exact hx
      by_cases hx0 : 0 ≤ x
      rotate_left
      · clear hall
        go_wp2
        go_ret
        exact ⟨_, rfl, ⟨fun h => (by cases h), fun h => (absurd h.2 hnr.out)⟩, (Below.refl _ _).alloc (Nat.le_refl _) _⟩
      by_cases hx1 : x < el
      rotate_left
      · clear hall
        go_wp2
        go_ret
        exact ⟨_, rfl, ⟨fun h => (by cases h), fun h => (absurd h.2 hnr.out)⟩, (Below.refl _ _).alloc (Nat.le_refl _) _⟩
      · have hall2 : ∀ j, j < k + 1 → ∀ x, w.cell? ⟨rb, ro + j, none⟩ = some (.int .i64 x) → 0 ≤ x ∧ x < el := by
          intro j hj y hy
          by_cases e : j = k
          · subst e
            rw [hx] at hy
            cases hy
            exact ⟨hx0, hx1⟩
          · exact hall j (by omega) y hy
        have hh := Lib.hid hall2
        clear hall hall2
        go_wp2
        go_round
        case rel => exact ⟨k + 1, by omega, by go_num, hh.out⟩
        case measure => simp [intOf]; omega
    · have hke : k = rn := by omega
      subst hke
      exact absurd ⟨c5, hall⟩ hnr.out

end Go.Proofs
