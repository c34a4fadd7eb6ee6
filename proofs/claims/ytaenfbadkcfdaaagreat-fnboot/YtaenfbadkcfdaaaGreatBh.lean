/-
  slices.Sort at []uint64, of few elements. (The walk of insertionSortOrdered is the library's worked one, turned to this program's numbers.)
-/
import Derived.Test.YtaenfbadkcfdaaaGreatSt
import Derived.Test.YtaenfbadkcfdaaaGreatBf
import Derived.Sort.Walk0
import Derived.Sort.LotA
import Derived.Sort.WalkA
import Derived.WalkKit
import Derived.BigGuard
import Derived.BigCall
import Derived.CellFam
import Derived.Deep.Draws
import Derived.Deep.QuietTactic
import Derived.BigQuiet
namespace Go.Proofs
open Go.RowKit Go.Sort
set_option linter.unusedVariables false
set_option maxHeartbeats 1000000 in
theorem isNaN_u64 (x : Int) (w : World) : Calls Tryz.prog 371 #[.int .u64 x] w fun e w' => e = .returned (.bool false) ∧ w' = w := by
  go_enter Tryz.func371, Tryz.ntmps371
  go_wp2
  go_ret
  exact ⟨by simp, rfl⟩
set_option maxHeartbeats 1000000 in
theorem less_u64 (x y : Int) (w : World) : Calls Tryz.prog 355 #[.int .u64 x, .int .u64 y] w fun e w' => e = .returned (.bool (Sort.ltInt x y)) ∧ w' = w := by
  go_enter Tryz.func355, Tryz.ntmps355
  go_wp2_with (go_at_call 371; refine (isNaN_u64 _ _).mono ?_; rintro e w' ⟨rfl, rfl⟩)
  go_ret
  exact ⟨rfl, rfl⟩
set_option maxRecDepth 100000 in
set_option maxHeartbeats 1600000 in
theorem insertionSort_u64 (blk off cap a b : Nat) (d : Array Int) (w : World) (hH : Holds (Value.int .u64) w blk off d) (hab : a ≤ b) (hb : b ≤ d.size) (hsz : d.size < 4611686018427387904) :
    Calls Tryz.prog 349 #[.slice (some ⟨blk, off, none⟩) d.size cap, .int .i64 a, .int .i64 b] w fun e w' =>
      e = .returned (.tuple #[]) ∧ ∃ n, w' = putRow (Value.int .u64) (Sort.ahead w n) blk off (Sort.insertionSort ltInt d a b) := by
  go_enter Tryz.func349, Tryz.ntmps349
  go_wp2
  go_loopw [6] (fun vi wr => ∃ (i n : Nat) (dk : Array Int), vi = .int .i64 i ∧ a < i ∧ i ≤ b + 1 ∧ dk.size = d.size ∧ wr = putRow (Value.int .u64) (Sort.ahead w n) blk off dk ∧
      insOuter ltInt a b i dk = insOuter ltInt a b (a + 1) d) (fun vi _ => b + 1 - (intOf vi).toNat)
  case atStart => exact ⟨a + 1, 0, d, by go_num, by omega, by omega, rfl, (putRow_self _ _ _ _ _ hH).symm, rfl⟩
  case round =>
    obtain ⟨i, n, dk, rfl, hai, hib, hsk, hwr, hO⟩ := hrel
    have HO : Hid (insOuter ltInt a b i dk = insOuter ltInt a b (a + 1) d) := hO
    clear hO
    go_wp2
    · -- i < b: the inner loop
      go_loopw [7] (fun vj wr2 => ∃ (j m : Nat) (dj : Array Int), vj = .int .i64 j ∧ a ≤ j ∧ j ≤ i ∧ dj.size = d.size ∧ wr2 = putRow (Value.int .u64) (Sort.ahead w m) blk off dj ∧
          insInner ltInt a j dj = insInner ltInt a i dk) (fun vj _ => (intOf vj).toNat)
      case atStart => exact ⟨i, n, dk, rfl, by omega, Nat.le_refl _, hsk, rfl, rfl⟩
      case round =>
        obtain ⟨j, m, dj, rfl, haj, hji, hsj, hw2, hI⟩ := hrel
        have hlt : i < b := by assumption
        -- the row's contents under a name of their own (the authors' find: with 'j < d.size' at hand the walk's simp turns 'dj[j]!' into 'dj[j]'); its two families: Derived/CellFam.lean serves every load and store from them
        obtain ⟨G, hG⟩ : ∃ G : Nat → Int, ∀ t, G t = dj[t]! := ⟨fun t => dj[t]!, fun _ => rfl⟩
        have hcw : ∀ t, t < d.size → wr.cell? ⟨blk, off + t, none⟩ = some (.int .u64 (G t)) := fun t ht => by
          rw [hw2, hG]; exact cell?_putRow _ _ _ _ d dj (holds_ahead _ _ _ _ _ _ hH) hsj t (by omega)
        have hfw : ∀ t, t < d.size → wr.frozen? ⟨blk, off + t, none⟩ = false := fun t ht => by
          rw [hw2, frozen?_putRow]; exact ((holds_ahead _ _ m _ _ _ hH) t ht).2
        have HW : Hid (wr = putRow (Value.int .u64) (Sort.ahead w m) blk off dj) := hw2
        have HG : Hid (∀ t, G t = dj[t]!) := hG
        have HI : Hid (insInner ltInt a j dj = insInner ltInt a i dk) := hI
        clear hw2 hG hI hH
        -- out of the inner loop: dj is what the inner loop makes of dk: the outer round's end
        have out : (j ≤ a ∨ ltInt dj[j]! dj[j - 1]! = false) → ∀ q, ∃ i' n' dk', Value.int .i64 ((i : Int) + 1) = .int .i64 (i' : Nat) ∧ a < i' ∧ i' ≤ b + 1 ∧ dk'.size = d.size ∧
            wr.drewN q = putRow (Value.int .u64) (Sort.ahead w n') blk off dk' ∧ insOuter ltInt a b i' dk' = insOuter ltInt a b (a + 1) d := fun hs q =>
          ⟨i + 1, m + q, dj, by go_num, by omega, by omega, hsj, by rw [HW.out]; exact putRow_drewN _ _ _ _ _ _ _,
            by rw [← HO.out, insOuter_go _ _ _ _ _ hlt, ← HI.out, insInner_stop _ _ _ _ hs]⟩
        have OUT : Hid _ := out
        clear out
        go_wp2
        by_cases hja : a < j
        · go_quiet (first | (go_at_call 355; refine Calls.quiet_of_same (less_u64 _ _ _)))
          go_wp2
          · -- Less: the swap, j--
            have hl : ltInt (G j) (G (j - 1)) = true := by assumption
            go_region
            all_goals go_wp2
            go_roundw
            case rel =>
              refine ⟨j - 1, m + (nq + 1), swp dj j (j - 1), by congr 1; omega, by omega, by omega, by rw [size_swp]; exact hsj, ?_, ?_⟩
              · rw [HW.out, HG.out, HG.out]
                exact swap_worldA _ w m (nq + 1) blk off dj j (j - 1) (by omega) (by omega)
              · rw [← HI.out, insInner_go ltInt a j dj hja (by rw [← HG.out, ← HG.out]; exact hl)]
            case measure => simp [intOf]; omega
          · -- not Less
            have hl : ltInt (G j) (G (j - 1)) = false := by assumption
            go_roundw
            case rel => exact OUT.out (Or.inr (by rw [← HG.out, ← HG.out]; exact hl)) nq
            case measure => simp [intOf]; omega
        · go_quiet (first | (go_at_call 355; refine Calls.quiet_of_same (less_u64 _ _ _)))
          go_wp2
          go_roundw
          case rel => exact OUT.out (Or.inl (by omega)) nq
          case measure => simp [intOf]; omega
    · -- the outer loop is at its end
      have hge : ¬ i < b := by assumption
      go_end0
      exact ⟨rfl, n, by unfold Sort.insertionSort; rw [← HO.out, insOuter_stop _ _ _ _ _ hge]⟩

set_option maxRecDepth 100000 in
set_option maxHeartbeats 1600000 in
theorem len_small (n : Nat) (hn : n ≤ 12) (w : World) : Calls Tryz.prog 323 #[.int .u64 n] w fun e w' => (∃ k : Int, e = .returned (.int .i64 k)) ∧ w' = w := by
  rcases (by omega : n = 0 ∨ n = 1 ∨ n = 2 ∨ n = 3 ∨ n = 4 ∨ n = 5 ∨ n = 6 ∨ n = 7 ∨ n = 8 ∨ n = 9 ∨ n = 10 ∨ n = 11 ∨ n = 12) with rfl | rfl | rfl | rfl | rfl | rfl | rfl | rfl | rfl | rfl | rfl | rfl | rfl
  all_goals
    go_enter Tryz.func323, Tryz.ntmps323
    go_wp2
    go_ret
    exact ⟨⟨_, rfl⟩, rfl⟩
set_option maxRecDepth 100000 in
set_option maxHeartbeats 3200000 in
theorem pdq_small (blk off cap : Nat) (d : Array Int) (limit : Int) (w : World) (hH : Holds (Value.int .u64) w blk off d) (hn : d.size ≤ 12) :
    Calls Tryz.prog 322 #[.slice (some ⟨blk, off, none⟩) d.size cap, .int .i64 0, .int .i64 d.size, .int .i64 limit] w fun e w' =>
      e = .returned (.tuple #[]) ∧ ∃ n, w' = putRow (Value.int .u64) (Sort.ahead w n) blk off (Sort.insertionSort ltInt d 0 d.size) := by
  have hc := insertionSort_u64 blk off cap 0 d.size d w hH (Nat.zero_le _) (Nat.le_refl _) (by omega)
  clear hH
  go_enter Tryz.func322, Tryz.ntmps322
  go_wp2
  go_loopw [1, 2] (fun a b wr => a = .int .i64 0 ∧ b = .int .i64 d.size ∧ wr = w) (fun a b wr => 0)
  case atStart => exact ⟨rfl, rfl, rfl⟩
  case round =>
    obtain ⟨rfl, rfl, rfl⟩ := hrel
    go_wp2_with (first | (go_at_call 349; refine hc.mono ?_; rintro e w' ⟨rfl, n, hw⟩))
    refine bodyPost_ret (results_none rfl _ _ _) rfl ?_
    exact ⟨rfl, n, by first | exact hw | rfl⟩
set_option maxRecDepth 100000 in
set_option maxHeartbeats 1600000 in
theorem sort_small (blk off cap : Nat) (d : Array Int) (w : World) (hH : Holds (Value.int .u64) w blk off d) (hn : d.size ≤ 12) :
    Calls Tryz.prog 269 #[.slice (some ⟨blk, off, none⟩) d.size cap] w fun e w' =>
      e = .returned (.tuple #[]) ∧ ∃ n, w' = putRow (Value.int .u64) (Sort.ahead w n) blk off (Sort.insertionSort ltInt d 0 d.size) := by
  have hc := fun limit => pdq_small blk off cap d limit w hH hn
  have hl := len_small d.size hn w
  clear hH
  go_enter Tryz.func269, Tryz.ntmps269
  go_wp2_with (first
    | (go_at_call 323; refine hl.mono ?_; rintro e w' ⟨⟨k, rfl⟩, rfl⟩)
    | (go_at_call 322; refine (hc _).mono ?_; rintro e w' ⟨rfl, n, hw⟩))
  go_end0
  exact ⟨rfl, n, by first | exact hw | rfl⟩
end Go.Proofs
