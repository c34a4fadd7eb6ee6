/-
  The guards of sizes: what they return, and that they leave memory as it was.
-/
import Derived.Test.YtaenfbadkcfdaaaGreatProg
import Derived.WalkKit
import Derived.ProofKit
namespace Go.Proofs
open Go.RowKit
set_option linter.unusedVariables false
set_option linter.unusedSimpArgs false
/-- some bool, that is true just if P is -/
def Tells (P : Prop) (w : World) (e : Ending) (w' : World) : Prop := ∃ b : Bool, e = .returned (.bool b) ∧ (b = true ↔ P) ∧ w' = w
def TellsB (P : Prop) (w : World) (e : Ending) (w' : World) : Prop := ∃ b : Bool, e = .returned (.bool b) ∧ (b = true ↔ P) ∧ Below w.heap.size w w'
def Fit8 (w : World) (blk off n : Nat) : Prop := n ≤ 2147483647 ∧ ∀ j, j < n → ∀ s, w.cell? ⟨blk, off + j, none⟩ = some (.string s) → s.size ≤ 2147483647
set_option maxHeartbeats 400000 in
theorem fits8_none (ad : Option Addr) (cap : Nat) (w : World) : Calls Tryz.prog 6 #[.slice ad 0 cap] w (Tells True w) := by
  go_enter Tryz.func6, Tryz.ntmps6
  go_wp2
  go_loop [10] (fun i => i = .int .i64 0) (fun i => 0)
  case atStart => rfl
  case round =>
    subst hrel
    go_wp2
    go_ret
    exact ⟨_, rfl, by simp, rfl⟩
set_option maxHeartbeats 400000 in
theorem fits8_some (blk off n cap : Nat) (w : World) (hc : ∀ j, j < n → ∃ s : ByteArray, s.size ≤ maxLen ∧ w.cell? ⟨blk, off + j, none⟩ = some (.string s)) :
    Calls Tryz.prog 6 #[.slice (some ⟨blk, off, none⟩) n cap] w (Tells (Fit8 w blk off n) w) := by
  by_cases hbig : n > 2147483647
  · go_enter Tryz.func6, Tryz.ntmps6
    go_wp2
    go_ret
    exact ⟨_, rfl, by simp [Fit8]; omega, rfl⟩
  · go_enter Tryz.func6, Tryz.ntmps6
    go_wp2
    go_loop [10] (fun i => ∃ k : Nat, k ≤ n ∧ i = .int .i64 k ∧ ∀ j, j < k → ∀ s, w.cell? ⟨blk, off + j, none⟩ = some (.string s) → s.size ≤ 2147483647) (fun i => n - (intOf i).toNat)
    case atStart => exact ⟨0, Nat.zero_le _, rfl, fun j hj => by omega⟩
    case round =>
      obtain ⟨k, hk, rfl, hall⟩ := hrel
      by_cases hlt : k < n
      · obtain ⟨s, hs, hck⟩ := hc k hlt
        unfold maxLen at hs
        by_cases hbs : s.size > 2147483647
        · have hno : ¬ Fit8 w blk off n := fun h => by have := h.2 k hlt s hck; omega
          clear hall
          go_wp2
          go_ret
          exact ⟨_, rfl, by simp [hno], rfl⟩
        · have hall2 : ∀ j, j < k + 1 → ∀ s, w.cell? ⟨blk, off + j, none⟩ = some (.string s) → s.size ≤ 2147483647 := by
            intro j hj s2 h2
            by_cases e : j = k
            · subst e
              rw [hck] at h2
              cases h2
              omega
            · exact hall j (by omega) s2 h2
          clear hall
          go_wp2
          go_round
          case rel => exact ⟨k + 1, by omega, by go_num, hall2⟩
          case measure => simp [intOf]; omega
      · have hyes : Fit8 w blk off n := ⟨by omega, fun j hj => hall j (by omega)⟩
        clear hall
        go_wp2
        go_ret
        exact ⟨_, rfl, by simp [hyes], rfl⟩
theorem alloc_cell (w : World) (xs : Array Value) (e : TypeId) (j : Nat) : (w.alloc (.cells xs e)).cell? ⟨w.heap.size, j, none⟩ = xs[j]? := by
  have : (w.alloc (.cells xs e)).heap[w.heap.size]? = some (.cells xs e (0, 0)) := by show (w.heap.push _)[_]? = _; simp
  unfold World.cell?
  rw [this]
  rfl
set_option maxHeartbeats 400000 in
theorem fits5_any (a b c : Value) (s : ByteArray) (hs : s.size ≤ maxLen) (w : World) : Calls Tryz.prog 46 #[.agg #[a, b, c, .string s]] w (TellsB (s.size ≤ 2147483647) w) := by
  unfold maxLen at hs
  by_cases hb : s.size > 2147483647
  · go_enter Tryz.func46, Tryz.ntmps46
    go_wp2
    go_ret
    exact ⟨_, rfl, by simp; omega, (Below.refl _ _).alloc (Nat.le_refl _) _⟩
  · go_enter Tryz.func46, Tryz.ntmps46
    go_wp2
    go_ret
    exact ⟨_, rfl, by simp; omega, (Below.refl _ _).alloc (Nat.le_refl _) _⟩
def Fit3 (n1 n2 n3 n4 : Nat) : Prop := n1 ≤ 2147483647 ∧ n2 ≤ 2147483647 ∧ n3 ≤ 2147483647 ∧ n4 ≤ 2147483647
set_option maxHeartbeats 400000 in
theorem fits3_any (p1 p2 p3 p4 : Option Addr) (n1 n2 n3 n4 c1 c2 c3 c4 : Nat) (a : Value) (w : World) :
    Calls Tryz.prog 45 #[.agg #[.slice p1 n1 c1, .slice p2 n2 c2, .slice p3 n3 c3, .slice p4 n4 c4, a]] w (TellsB (Fit3 n1 n2 n3 n4) w) := by
  unfold Fit3
  go_enter Tryz.func45, Tryz.ntmps45
  go_wp2
  all_goals go_ret
  all_goals exact ⟨_, rfl, by simp; omega, (Below.refl _ _).alloc (Nat.le_refl _) _⟩
set_option maxHeartbeats 1000000 in
theorem fits2_any (s : ByteArray) (hs : s.size ≤ maxLen) (p1 p2 p3 p4 : Option Addr) (n1 n2 n3 n4 c1 c2 c3 c4 : Nat) (x y a : Value) (w : World) :
    Calls Tryz.prog 19 #[.agg #[.string s, x, y, .slice p1 n1 c1, .slice p2 n2 c2, .slice p3 n3 c3, .slice p4 n4 c4, a]] w (TellsB (s.size ≤ 2147483647 ∧ Fit3 n1 n2 n3 n4) w) := by
  unfold maxLen at hs
  by_cases hbs : s.size > 2147483647
  · go_enter Tryz.func19, Tryz.ntmps19
    go_wp2
    go_ret
    exact ⟨_, rfl, by simp; omega, (Below.refl _ _).alloc (Nat.le_refl _) _⟩
  · go_enter Tryz.func19, Tryz.ntmps19
    go_wp2_with (go_at_call 45; refine (fits3_any _ _ _ _ _ _ _ _ _ _ _ _ _ _).mono ?_; rintro e w' ⟨b, rfl, hiff, hb⟩; cases b)
    all_goals go_ret
    all_goals exact ⟨_, rfl, by rw [← hiff]; first | (simp; done) | (simp; omega), ((Below.refl _ _).alloc (Nat.le_refl _) _).trans (hb.mono (by simp))⟩
set_option maxHeartbeats 1000000 in
theorem fits4_none (ad : Option Addr) (cap : Nat) (w : World) : Calls Tryz.prog 20 #[.slice ad 0 cap] w (TellsB True w) := by
  go_enter Tryz.func20, Tryz.ntmps20
  go_wp2
  go_loopw [10] (fun i w' => i = .int .i64 0 ∧ w' = w) (fun i w' => 0)
  case atStart => exact ⟨rfl, rfl⟩
  case round =>
    obtain ⟨rfl, rfl⟩ := hrel
    go_wp2
    go_ret
    exact ⟨_, rfl, by simp, Below.refl _ _⟩
def Fit4 (w : World) (blk off n : Nat) : Prop := n ≤ 2147483647 ∧ ∀ j, j < n → ∀ s, w.cell? ⟨blk, off + j * 4 + 3, none⟩ = some (.string s) → s.size ≤ 2147483647
set_option maxHeartbeats 1000000 in
theorem fits4_some (blk off n cap : Nat) (w : World) (hb : blk < w.heap.size)
    (hc : ∀ j, j < n → ∃ (x y z : Int) (s : ByteArray), s.size ≤ maxLen ∧ w.cell? ⟨blk, off + j * 4, none⟩ = some (.int .u64 x) ∧ w.cell? ⟨blk, off + j * 4 + 1, none⟩ = some (.int .u64 y) ∧ w.cell? ⟨blk, off + j * 4 + 2, none⟩ = some (.int .i64 z) ∧ w.cell? ⟨blk, off + j * 4 + 3, none⟩ = some (.string s)) :
    Calls Tryz.prog 20 #[.slice (some ⟨blk, off, none⟩) n cap] w (TellsB (Fit4 w blk off n) w) := by
  by_cases hbig : n > 2147483647
  · go_enter Tryz.func20, Tryz.ntmps20
    go_wp2
    go_ret
    exact ⟨_, rfl, by simp [Fit4]; omega, Below.refl _ _⟩
  · go_enter Tryz.func20, Tryz.ntmps20
    go_wp2
    go_loopw [10] (fun i w' => ∃ k : Nat, k ≤ n ∧ i = .int .i64 k ∧ Below w.heap.size w w' ∧ ∀ j, j < k → ∀ s, w.cell? ⟨blk, off + j * 4 + 3, none⟩ = some (.string s) → s.size ≤ 2147483647) (fun i w' => n - (intOf i).toNat)
    case atStart => exact ⟨0, Nat.zero_le _, rfl, Below.refl _ _, fun j hj => by omega⟩
    case round =>
      obtain ⟨k, hk, rfl, hbw, hall⟩ := hrel
      by_cases hlt : k < n
      · obtain ⟨x, y, z, s, hs, h0, h1, h2, h3⟩ := hc k hlt
        have h3' := h3
        rw [← hbw.cell (p := ⟨blk, off + k * 4, none⟩) hb] at h0
        rw [← hbw.cell (p := ⟨blk, off + k * 4 + 1, none⟩) hb] at h1
        rw [← hbw.cell (p := ⟨blk, off + k * 4 + 2, none⟩) hb] at h2
        rw [← hbw.cell (p := ⟨blk, off + k * 4 + 3, none⟩) hb] at h3
        have hz := hbw.size
        have hwr : ∀ w', Below (wr.alloc (.cells #[.int .u64 x, .int .u64 y, .int .i64 z, .string s] 44)).heap.size (wr.alloc (.cells #[.int .u64 x, .int .u64 y, .int .i64 z, .string s] 44)) w' → Below w.heap.size w w' := fun w' hb' => hbw.trans (((Below.refl _ _).alloc hz _).trans (hb'.mono (by simp; omega)))
        have hall2 : s.size ≤ 2147483647 → ∀ j, j < k + 1 → ∀ s, w.cell? ⟨blk, off + j * 4 + 3, none⟩ = some (.string s) → s.size ≤ 2147483647 := by
          intro hsz j hj s2 h9
          by_cases e : j = k
          · subst e
            rw [h3'] at h9
            cases h9
            exact hsz
          · exact hall j (by omega) s2 h9
        have hno : ¬ s.size ≤ 2147483647 → ¬ Fit4 w blk off n := fun hbs h => hbs (h.2 k hlt s h3')
        clear hall h3'
        go_wp2_with (go_at_call 46; refine (fits5_any _ _ _ _ hs _).mono ?_; rintro e w' ⟨b, rfl, hiff, hb'⟩; cases b)
        · have hno2 := hno (by simpa using hiff)
          go_ret
          exact ⟨_, rfl, by simp [hno2], hwr _ hb'⟩
        · have hall3 := hall2 (by simpa using hiff)
          go_roundw
          case rel => exact ⟨k + 1, by omega, by go_num, hwr _ hb', hall3⟩
          case measure => simp [intOf]; omega
      · have hyes : Fit4 w blk off n := ⟨by omega, fun j hj => hall j (by omega)⟩
        clear hall
        go_wp2
        go_ret
        exact ⟨_, rfl, by simp [hyes], hbw⟩
set_option maxRecDepth 100000 in
set_option maxHeartbeats 2000000 in
theorem fits1_any (a0 a1 a2 a9 a10 a11 a12 a14 a15 a22 a23 a24 a25 : Int) (b4 b5 b6 b7 b8 b20 : Bool) (pr : Option Addr) (nr cr : Nat) (s : ByteArray) (hs : s.size ≤ maxLen)
    (p1 p2 p3 p4 : Option Addr) (n1 n2 n3 n4 c1 c2 c3 c4 : Nat) (pl : Option Addr) (nl cl : Nat) (w : World) (F4 : Prop)
    (hL : ∀ w', Below w.heap.size w w' → Calls Tryz.prog 20 #[.slice pl nl cl] w' (TellsB F4 w')) :
    Calls Tryz.prog 5 #[.agg #[.int .u64 a0, .int .i64 a1, .int .i64 a2, .slice pr nr cr, .bool b4, .bool b5, .bool b6, .bool b7, .bool b8, .int .u64 a9, .int .u64 a10, .int .u64 a11, .int .i64 a12,
      .string s, .int .u64 a14, .int .u64 a15, .slice p1 n1 c1, .slice p2 n2 c2, .slice p3 n3 c3, .slice p4 n4 c4, .bool b20, .slice pl nl cl, .int .u64 a22, .int .u64 a23, .int .u64 a24, .int .u64 a25]] w
      (TellsB (nr ≤ 2147483647 ∧ (s.size ≤ 2147483647 ∧ Fit3 n1 n2 n3 n4) ∧ F4) w) := by
  by_cases hbig : nr > 2147483647
  · go_enter Tryz.func5, Tryz.ntmps5
    go_wp2
    go_ret
    exact ⟨_, rfl, by simp; omega, (Below.refl _ _).alloc (Nat.le_refl _) _⟩
  · have hle : nr ≤ 2147483647 := by omega
    go_enter Tryz.func5, Tryz.ntmps5
    go_wp2_with (first
      | (go_at_call 19; refine (fits2_any s hs _ _ _ _ _ _ _ _ _ _ _ _ _ _ _ _).mono ?_; rintro e w' ⟨b, rfl, hiff, hb⟩; have hw1 : Below w.heap.size w w' := ((Below.refl _ _).alloc (Nat.le_refl _) _).trans (hb.mono (by simp))
         have hc21 : w'.cell? ⟨w.heap.size, 21, none⟩ = some (.slice pl nl cl) := by rw [hb.cell (p := ⟨w.heap.size, 21, none⟩) (by simp), alloc_cell]; rfl)
      | (go_at_call 20; refine (hL _ hw1).mono ?_; rintro e w'' ⟨b2, rfl, hiff2, hb2⟩; have hw2 := hw1.trans (hb2.mono hw1.size)))
    · have hno : ¬ (s.size ≤ 2147483647 ∧ Fit3 n1 n2 n3 n4) := by rw [← hiff]; simp_all
      go_ret
      exact ⟨_, rfl, ⟨fun h => (by cases h), fun h => absurd h.2.1 hno⟩, hw1⟩
    · have hno : ¬ F4 := by rw [← hiff2]; simp_all
      go_ret
      exact ⟨_, rfl, ⟨fun h => (by cases h), fun h => absurd h.2.2 hno⟩, hw2⟩
    · have h1 : s.size ≤ 2147483647 ∧ Fit3 n1 n2 n3 n4 := by rw [← hiff]; simp_all
      have h2 : F4 := by rw [← hiff2]; simp_all
      go_ret
      exact ⟨_, rfl, ⟨fun _ => ⟨hle, h1, h2⟩, fun _ => rfl⟩, hw2⟩
end Go.Proofs
