/-
  The written form of a change: its numbers and its text.
-/
import Derived.Test.YtaenfbadkcfdaaaGreatProg
import Derived.WalkKit
import Derived.ProofKit
import Derived.KernelRfl
import Derived.Lib.Hide
import Derived.Maps.AppendAt
def U64 : Nat := 18446744073709551616
namespace Go.Proofs
open Go.RowKit
set_option linter.unusedVariables false
theorem Tryz.info5 : (Tryz.prog.info? 5).map (fun i => (i.zero, i.size, i.bytes)) = some (some (.int .u8 0), 1, 1) := by kernel_rfl
/-- a number's bytes, as they are written -/
def vb (n : Nat) : List Nat := if n < 128 then [n] else (n % 128 + 128) :: vb (n / 128)
termination_by n
def u8s (l : List Nat) : List Value := l.map fun (n : Nat) => Value.int .u8 (n : Int)
def NumEnd (B : Nat) (w : World) (l : List Nat) (e : Ending) (w' : World) : Prop := ∃ v, e = .returned v ∧ w'.ownsRow B 5 1 v l.length (u8s l) ∧ Below B w w' ∧ v ≠ .slice none 0 0
def NRel (B : Nat) (w : World) (tot : List Nat) (v i : Value) (wr : World) : Prop :=
  ∃ (m : Nat) (acc : List Nat), i = .int .u64 m ∧ m < U64 ∧ wr.ownsRow B 5 1 v acc.length (u8s acc) ∧ Below B w wr ∧ acc ++ vb m = tot ∧ v ≠ .slice none 0 0
def mOf : Value → Nat
  | .int _ n => n.toNat
  | _ => 0
theorem vb_small {m : Nat} (h : m < 128) : vb m = [m] := by rw [vb, if_pos h]
theorem vb_big {m : Nat} (h : ¬ m < 128) : vb m = (m % 128 + 128) :: vb (m / 128) := by rw [vb, if_neg h]
theorem or128 : ∀ x : Fin 256, bits BinOp.or IntKind.u8 ((x.val : Nat) : Int) 128 = ((x.val % 128 + 128 : Nat) : Int) := by decide +kernel
theorem or128_mod (m : Nat) : bits BinOp.or IntKind.u8 ((m : Int) % 256) 128 = ((m % 128 + 128 : Nat) : Int) := by
  have h := or128 ⟨m % 256, Nat.mod_lt _ (by decide)⟩
  simp only at h
  have e : ((m % 256 : Nat) : Int) = (m : Int) % 256 := by omega
  rw [e] at h
  rw [h]
  congr 2
  omega
theorem vb_len : ∀ (k n : Nat), n < 128 ^ (k + 1) → (vb n).length ≤ k + 1
  | 0, n, h => by rw [vb_small (by simpa using h)]; simp
  | k + 1, n, h => by
    by_cases hlt : n < 128
    · rw [vb_small hlt]; simp
    · rw [vb_big hlt]
      have : n / 128 < 128 ^ (k + 1) := by
        rw [Nat.div_lt_iff_lt_mul (by decide)]
        rw [Nat.pow_succ] at h
        exact h
      have := vb_len k (n / 128) this
      simp; omega
theorem vb_len10 {n : Nat} (h : n < U64) : (vb n).length ≤ 10 := vb_len 9 n (by unfold U64 at h; exact Nat.lt_trans h (by decide))
theorem u8s_snoc (l : List Nat) (x : Nat) : u8s l ++ [Value.int .u8 (x : Int)] = u8s (l ++ [x]) := by simp [u8s]
theorem NRel_len {B : Nat} {w wr : World} {tot : List Nat} {v : Value} {m : Nat} {acc : List Nat} (htot : acc ++ vb m = tot) (hl : tot.length ≤ 1000100) : acc.length ≤ 1000100 := by
  have := congrArg List.length htot
  simp at this; omega
set_option maxRecDepth 100000 in
set_option maxHeartbeats 1000000 in
theorem number2_any (B : Nat) (v : Value) (l : List Nat) (n : Nat) (hn : n < U64) (hl : l.length ≤ 1000000) (w : World) (hB : B ≤ w.heap.size)
    (hown : w.ownsRow B 5 1 v l.length (u8s l)) : Calls Tryz.prog 83 #[v, .int .i64 2, .int .u64 n] w (NumEnd B w (l ++ [16] ++ vb n)) := by
  obtain ⟨i0, hi, hz0, hz1, hz2⟩ := info_parts Tryz.info5
  have htl : (l ++ [16] ++ vb n).length ≤ 1000100 := by have := vb_len10 hn; simp; omega
  generalize htot0 : l ++ [16] ++ vb n = tot at htl ⊢
  have HT0 : Hid (l ++ [16] ++ vb n = tot) := Lib.hid htot0
  clear htot0
  go_enter Tryz.func83, Tryz.ntmps83
  go_wp2_with (first
      | (at_builtin; refine wpList_append_own _ rfl _ _ 82 rfl B 5 i0 (.int .u8 0) 1 1 Tryz.underlying82 hi hz0 hz1 hz2 rfl (by decide) _ _ _ rfl (hown.alloc _) ⟨w.heap.size, 0, none⟩ 1 1 [.int .u8 16] rfl rfl (cell_one_new _ _ _) (fun x hx => by simp at hx; subst hx; rfl) (by unfold maxLen; omega) (by omega) (by simp; omega) ?_; intro v' w1 hown' hgrow1 hnil1))
  have hnn : v' ≠ .slice none 0 0 := fun e => by have := (hnil1.1 e).2; cases this
  have hB1 : Below B w w1 := ((Below.refl B w).alloc hB _).grown hgrow1 (by simp; omega) (fun k hk => (hown.lt k hk).1)
  clear hnil1 hgrow1
  have hR : NRel B w tot v' (.int .u64 n) w1 := ⟨n, l ++ [16], rfl, hn, by simpa [u8s] using hown', hB1, HT0.out, hnn⟩
  clear hown' hB1 hnn
  go_loopw [0, 2] (fun v i wr => NRel B w tot v i wr) (fun v i wr => mOf i)
  case atStart => exact hR
  case round =>
    clear hR hown
    obtain ⟨m, acc, rfl, hm, hown, hBw, htot, hnn⟩ := hrel
    have hsz := hBw.size
    have hlen : acc.length ≤ 1000100 := NRel_len (B := B) (w := w) (wr := wr) (v := v) htot htl
    by_cases hlt : m < 128
    · have HT : Hid (acc ++ vb m = tot) := Lib.hid htot
      clear htot
      go_wp2_with (first
        | (at_builtin; refine wpList_append_own _ rfl _ _ 82 rfl B 5 i0 (.int .u8 0) 1 1 Tryz.underlying82 hi hz0 hz1 hz2 rfl (by decide) _ _ _ rfl (hown.alloc _) ⟨wr.heap.size, 0, none⟩ 1 1 [_] rfl rfl (cell_one_new _ _ _) (fun x hx => by simp at hx; subst hx; rfl) (by unfold maxLen; omega) (by omega) (by simp; omega) ?_; intro v' w1 hown' hgrow1 hnil1))
      have hnn' : v' ≠ .slice none 0 0 := fun e => by have := (hnil1.1 e).2; cases this
      have hB1 : Below B w w1 := (hBw.alloc (by omega) _).grown hgrow1 (by simp; omega) (fun k hk => (hown.lt k hk).1)
      go_ret
      have e : tot = acc ++ [m] := by rw [← HT.out, vb_small hlt]
      rw [u8s_snoc] at hown'
      rw [e]
      exact ⟨v', rfl, by simpa using hown', hB1, hnn'⟩
    · have HT : Hid (acc ++ vb m = tot) := Lib.hid htot
      clear htot
      go_wp2_with (first
        | (at_builtin; refine wpList_append_own _ rfl _ _ 82 rfl B 5 i0 (.int .u8 0) 1 1 Tryz.underlying82 hi hz0 hz1 hz2 rfl (by decide) _ _ _ rfl (hown.alloc _) ⟨wr.heap.size, 0, none⟩ 1 1 [_] rfl rfl (cell_one_new _ _ _) (fun x hx => by simp at hx; subst hx; rfl) (by unfold maxLen; omega) (by omega) (by simp; omega) ?_; intro v' w1 hown' hgrow1 hnil1))
      have hnn' : v' ≠ .slice none 0 0 := fun e => by have := (hnil1.1 e).2; cases this
      have hB1 : Below B w w1 := (hBw.alloc (by omega) _).grown hgrow1 (by simp; omega) (fun k hk => (hown.lt k hk).1)
      rw [or128_mod, u8s_snoc] at hown'
      go_roundw
      case rel => exact ⟨m / 128, acc ++ [m % 128 + 128], by go_num, Nat.lt_of_le_of_lt (Nat.div_le_self _ _) hm, by simpa using hown', hB1, by rw [← HT.out, vb_big hlt]; simp, hnn'⟩
      case measure => simp [mOf]; omega
set_option maxRecDepth 100000 in
set_option maxHeartbeats 1000000 in
theorem number3_any (B : Nat) (v : Value) (l : List Nat) (n : Nat) (hn : n < U64) (hl : l.length ≤ 1000000) (w : World) (hB : B ≤ w.heap.size)
    (hown : w.ownsRow B 5 1 v l.length (u8s l)) : Calls Tryz.prog 83 #[v, .int .i64 3, .int .u64 n] w (NumEnd B w (l ++ [24] ++ vb n)) := by
  obtain ⟨i0, hi, hz0, hz1, hz2⟩ := info_parts Tryz.info5
  have htl : (l ++ [24] ++ vb n).length ≤ 1000100 := by have := vb_len10 hn; simp; omega
  generalize htot0 : l ++ [24] ++ vb n = tot at htl ⊢
  have HT0 : Hid (l ++ [24] ++ vb n = tot) := Lib.hid htot0
  clear htot0
  go_enter Tryz.func83, Tryz.ntmps83
  go_wp2_with (first
      | (at_builtin; refine wpList_append_own _ rfl _ _ 82 rfl B 5 i0 (.int .u8 0) 1 1 Tryz.underlying82 hi hz0 hz1 hz2 rfl (by decide) _ _ _ rfl (hown.alloc _) ⟨w.heap.size, 0, none⟩ 1 1 [.int .u8 24] rfl rfl (cell_one_new _ _ _) (fun x hx => by simp at hx; subst hx; rfl) (by unfold maxLen; omega) (by omega) (by simp; omega) ?_; intro v' w1 hown' hgrow1 hnil1))
  have hnn : v' ≠ .slice none 0 0 := fun e => by have := (hnil1.1 e).2; cases this
  have hB1 : Below B w w1 := ((Below.refl B w).alloc hB _).grown hgrow1 (by simp; omega) (fun k hk => (hown.lt k hk).1)
  clear hnil1 hgrow1
  have hR : NRel B w tot v' (.int .u64 n) w1 := ⟨n, l ++ [24], rfl, hn, by simpa [u8s] using hown', hB1, HT0.out, hnn⟩
  clear hown' hB1 hnn
  go_loopw [0, 2] (fun v i wr => NRel B w tot v i wr) (fun v i wr => mOf i)
  case atStart => exact hR
  case round =>
    clear hR hown
    obtain ⟨m, acc, rfl, hm, hown, hBw, htot, hnn⟩ := hrel
    have hsz := hBw.size
    have hlen : acc.length ≤ 1000100 := NRel_len (B := B) (w := w) (wr := wr) (v := v) htot htl
    by_cases hlt : m < 128
    · have HT : Hid (acc ++ vb m = tot) := Lib.hid htot
      clear htot
      go_wp2_with (first
        | (at_builtin; refine wpList_append_own _ rfl _ _ 82 rfl B 5 i0 (.int .u8 0) 1 1 Tryz.underlying82 hi hz0 hz1 hz2 rfl (by decide) _ _ _ rfl (hown.alloc _) ⟨wr.heap.size, 0, none⟩ 1 1 [_] rfl rfl (cell_one_new _ _ _) (fun x hx => by simp at hx; subst hx; rfl) (by unfold maxLen; omega) (by omega) (by simp; omega) ?_; intro v' w1 hown' hgrow1 hnil1))
      have hnn' : v' ≠ .slice none 0 0 := fun e => by have := (hnil1.1 e).2; cases this
      have hB1 : Below B w w1 := (hBw.alloc (by omega) _).grown hgrow1 (by simp; omega) (fun k hk => (hown.lt k hk).1)
      go_ret
      have e : tot = acc ++ [m] := by rw [← HT.out, vb_small hlt]
      rw [u8s_snoc] at hown'
      rw [e]
      exact ⟨v', rfl, by simpa using hown', hB1, hnn'⟩
    · have HT : Hid (acc ++ vb m = tot) := Lib.hid htot
      clear htot
      go_wp2_with (first
        | (at_builtin; refine wpList_append_own _ rfl _ _ 82 rfl B 5 i0 (.int .u8 0) 1 1 Tryz.underlying82 hi hz0 hz1 hz2 rfl (by decide) _ _ _ rfl (hown.alloc _) ⟨wr.heap.size, 0, none⟩ 1 1 [_] rfl rfl (cell_one_new _ _ _) (fun x hx => by simp at hx; subst hx; rfl) (by unfold maxLen; omega) (by omega) (by simp; omega) ?_; intro v' w1 hown' hgrow1 hnil1))
      have hnn' : v' ≠ .slice none 0 0 := fun e => by have := (hnil1.1 e).2; cases this
      have hB1 : Below B w w1 := (hBw.alloc (by omega) _).grown hgrow1 (by simp; omega) (fun k hk => (hown.lt k hk).1)
      rw [or128_mod, u8s_snoc] at hown'
      go_roundw
      case rel => exact ⟨m / 128, acc ++ [m % 128 + 128], by go_num, Nat.lt_of_le_of_lt (Nat.div_le_self _ _) hm, by simpa using hown', hB1, by rw [← HT.out, vb_big hlt]; simp, hnn'⟩
      case measure => simp [mOf]; omega
theorem add_none (b o j : Nat) : (⟨b, o, none⟩ : Addr).add j = ⟨b, o + j, none⟩ := by
  unfold Addr.add
  split
  · rename_i h; subst h; rfl
  · rfl
theorem text_cells {B tb to : Nat} {w w2 : World} {tx : List Nat} (hB2 : Below B w w2) (htb : tb < B) (hc : ∀ j u, (u8s tx)[j]? = some u → w.cell? ⟨tb, to + j, none⟩ = some u) :
    ∀ j u, (u8s tx)[j]? = some u → w2.cell? ((⟨tb, to, none⟩ : Addr).add j) = some u := fun j u hj => by
  rw [add_none, hB2.cell (p := ⟨tb, to + j, none⟩) htb]
  exact hc j u hj
theorem u8s_one (tx : List Nat) : ∀ x ∈ u8s tx, x.oneCell' = true := fun x hx => by
  simp [u8s] at hx
  obtain ⟨_, _, rfl⟩ := hx
  rfl
set_option maxRecDepth 100000 in
set_option maxHeartbeats 2000000 in
theorem text_any (B : Nat) (v : Value) (l : List Nat) (tb to tc : Nat) (tx : List Nat) (htx : tx.length ≤ 100) (hl : l.length ≤ 1000000) (w : World) (hB : B ≤ w.heap.size)
    (hown : w.ownsRow B 5 1 v l.length (u8s l)) (htb : tb < B) (hc : ∀ j u, (u8s tx)[j]? = some u → w.cell? ⟨tb, to + j, none⟩ = some u) :
    Calls Tryz.prog 84 #[v, .int .i64 4, .slice (some ⟨tb, to, none⟩) tx.length tc] w (NumEnd B w (l ++ [34, tx.length] ++ tx)) := by
  obtain ⟨i0, hi, hz0, hz1, hz2⟩ := info_parts Tryz.info5
  have hlu : (u8s tx).length = tx.length := by simp [u8s]
  obtain ⟨L, hL⟩ : ∃ L, L = tx.length := ⟨_, rfl⟩
  rw [← hL] at htx hlu ⊢
  have HL : Hid (L = tx.length) := Lib.hid hL
  clear hL
  have HLU : Hid ((u8s tx).length = L) := Lib.hid hlu
  clear hlu
  go_enter Tryz.func84, Tryz.ntmps84
  go_wp2_with (first
      | (at_builtin; refine wpList_append_own _ rfl _ _ 82 rfl B 5 i0 (.int .u8 0) 1 1 Tryz.underlying82 hi hz0 hz1 hz2 rfl (by decide) _ _ _ rfl (hown.alloc _) ⟨w.heap.size, 0, none⟩ 1 1 [_] rfl rfl (cell_one_new _ _ _) (fun x hx => by simp at hx; subst hx; rfl) (by unfold maxLen; omega) (by omega) (by simp; omega) ?_; intro v' w1 hown' hgrow1 hnil1))
  have e34 : bits BinOp.or IntKind.i64 32 2 % 256 = ((34 : Nat) : Int) := by decide +kernel
  rw [e34, u8s_snoc] at hown'
  have hnn : v' ≠ .slice none 0 0 := fun e => by have := (hnil1.1 e).2; cases this
  have hB1 : Below B w w1 := ((Below.refl B w).alloc hB _).grown hgrow1 (by simp; omega) (fun k hk => (hown.lt k hk).1)
  clear hnil1 hgrow1
  have hown2 : w1.ownsRow B 5 1 v' (l ++ [34]).length (u8s (l ++ [34])) := by simpa using hown'
  clear hown' hown
  have hll : (l ++ [34]).length ≤ 1000001 := by simp; omega
  have HLT : Hid (l ++ [34, L] ++ tx = (l ++ [34]) ++ [L] ++ tx) := Lib.hid (by simp)
  generalize hl2 : l ++ [34] = l2 at hown2 hll HLT
  clear hl2
  have hR : v' = v' ∧ w1 = w1 := ⟨rfl, rfl⟩
  go_loopw [0, 7] (fun v i wr => v = v' ∧ i = .int .u64 L ∧ wr = w1) (fun v i wr => 0)
  case atStart => exact ⟨rfl, rfl, rfl⟩
  case round =>
    obtain ⟨rfl, rfl, rfl⟩ := hrel
    have hsz := hB1.size
    have hlt : ¬ (128 ≤ L) := by omega
    go_wp2_with (first
      | (at_builtin; refine wpList_append_own _ rfl (.tmp 28) (.tmp 31) 82 rfl B 5 i0 (.int .u8 0) 1 1 Tryz.underlying82 hi hz0 hz1 hz2 rfl (by decide) _ _ _ rfl (hown2.alloc _) ⟨wr.heap.size, 0, none⟩ 1 1 [.int .u8 L] rfl rfl (cell_one_new _ _ _) (fun x hx => by simp at hx; subst hx; rfl) (by unfold maxLen; omega) (by omega) (by simp; omega) ?_; intro v2 w2 hown3 hgrow2 hnil2
         have hnn2 : v2 ≠ .slice none 0 0 := fun e => by have := (hnil2.1 e).2; cases this
         have hB2 : Below B w w2 := (hB1.alloc (by omega) _).grown hgrow2 (by simp; omega) (fun k hk => (hown2.lt k hk).1)
         have hsz2 := hB2.size
         clear hnil2 hgrow2)
      | (at_builtin; refine wpList_append_own _ rfl (.tmp 32) (.tmp 33) 82 rfl B 5 i0 (.int .u8 0) 1 1 Tryz.underlying82 hi hz0 hz1 hz2 rfl (by decide) _ _ _ rfl hown3 ⟨tb, to, none⟩ L tc (u8s tx) rfl (by have := HLU.out; omega) (text_cells hB2 htb hc) (u8s_one tx) (by unfold maxLen; omega) (by omega) (by omega) ?_; intro v3 w3 hown4 hgrow3 hnil3))
    have hnn3 : v3 ≠ .slice none 0 0 := fun e => hnn2 (hnil3.1 e).1
    have hB3 : Below B w w3 := hB2.grown hgrow3 (by omega) (fun k hk => (hown3.lt k hk).1)
    clear hnil3 hgrow3
    have hfin : w3.ownsRow B 5 1 v3 (l ++ [34, L] ++ tx).length (u8s (l ++ [34, L] ++ tx)) := by
      rw [HLT.out]
      rw [u8s_snoc] at hown4
      have e1 : u8s (l2 ++ [L]) ++ u8s tx = u8s (l2 ++ [L] ++ tx) := by simp [u8s]
      rw [e1] at hown4
      have e2 : (l2 ++ [L] ++ tx).length = l2.length + 1 + L := by have h1 := HL.out; simp only [List.length_append, List.length_cons, List.length_nil]; omega
      rw [e2]
      exact hown4
    have hgoal : NumEnd B w (l ++ [34, L] ++ tx) (.returned v3) w3 := ⟨v3, rfl, hfin, hB3, hnn3⟩
    go_ret
    simpa using hgoal
/-- the written form of a change that adds a voter -/
def changeB (id : Nat) (tx : List Nat) : List Nat := [16, 0, 24] ++ vb id ++ (if tx = [] then [] else [34, tx.length] ++ tx)
/-- the context's slice, as bytesOf has made it -/
def CtxV (w : World) (tx : List Nat) (v : Value) : Prop :=
  (tx = [] ∧ v = .slice none 0 0) ∨ (tx ≠ [] ∧ ∃ tb to tc, v = .slice (some ⟨tb, to, none⟩) tx.length tc ∧ tb < w.heap.size ∧ ∀ j u, (u8s tx)[j]? = some u → w.cell? ⟨tb, to + j, none⟩ = some u)
theorem ownsRow_empty (w : World) : (w.alloc (.cells #[] 5)).ownsRow w.heap.size 5 1 (.slice (some ⟨w.heap.size, 0, none⟩) 0 0) ([] : List Nat).length (u8s []) := by
  refine ⟨rfl, .inr ⟨w.heap.size, 0, #[], rfl, Nat.le_refl _, ?_, Nat.le_refl _, Nat.zero_le _, rfl, rfl⟩⟩
  show (w.heap.push _)[_]? = _
  simp
theorem cells_at {w w1 : World} {p tp np : Nat} {x0 x1 x2 x3 xt xn : Value} (hB : Below w.heap.size w w1) (hp : p < w.heap.size) (htp : tp < w.heap.size) (hnp : np < w.heap.size)
    (c0 : w.cell? ⟨p, 0, none⟩ = some x0) (c1 : w.cell? ⟨p, 1, none⟩ = some x1) (c2 : w.cell? ⟨p, 2, none⟩ = some x2) (c3 : w.cell? ⟨p, 3, none⟩ = some x3) (ct : w.cell? ⟨tp, 0, none⟩ = some xt) (cn : w.cell? ⟨np, 0, none⟩ = some xn) :
    w1.cell? ⟨p, 0, none⟩ = some x0 ∧ w1.cell? ⟨p, 1, none⟩ = some x1 ∧ w1.cell? ⟨p, 2, none⟩ = some x2 ∧ w1.cell? ⟨p, 3, none⟩ = some x3 ∧ w1.cell? ⟨tp, 0, none⟩ = some xt ∧ w1.cell? ⟨np, 0, none⟩ = some xn :=
  ⟨by rw [hB.cell (p := ⟨p, 0, none⟩) hp]; exact c0, by rw [hB.cell (p := ⟨p, 1, none⟩) hp]; exact c1, by rw [hB.cell (p := ⟨p, 2, none⟩) hp]; exact c2, by rw [hB.cell (p := ⟨p, 3, none⟩) hp]; exact c3,
   by rw [hB.cell (p := ⟨tp, 0, none⟩) htp]; exact ct, by rw [hB.cell (p := ⟨np, 0, none⟩) hnp]; exact cn⟩
theorem neq_nil0 (w : World) : (binOp .neq 82 (.slice none 0 0) (.slice none 0 0)).run Tryz.prog w = .ok (.bool false) w := by kernel_rfl
theorem neq_nil1 (a : Addr) (n c : Nat) (w : World) : (binOp .neq 82 (.slice (some a) n c) (.slice none 0 0)).run Tryz.prog w = .ok (.bool true) w := by kernel_rfl
theorem U64_pos : 0 < U64 := by unfold U64; decide
theorem vb0 : vb 0 = [0] := vb_small (by decide)
theorem number2_to {B : Nat} {v : Value} {l tot : List Nat} {n : Nat} {w : World} (ht : Hid (l ++ [2 * 8] ++ vb n = tot)) (hn : n < U64) (hl : l.length ≤ 1000000) (hB : B ≤ w.heap.size) (hown : w.ownsRow B 5 1 v l.length (u8s l)) :
    Calls Tryz.prog 83 #[v, .int .i64 2, .int .u64 n] w (NumEnd B w tot) := by
  rw [← ht.out]; exact number2_any B v l n hn hl w hB hown
theorem number2_zero {B : Nat} {v : Value} {l tot : List Nat} {w : World} (ht : Hid (l ++ [2 * 8] ++ vb 0 = tot)) (hl : l.length ≤ 1000000) (hB : B ≤ w.heap.size) (hown : w.ownsRow B 5 1 v l.length (u8s l)) :
    Calls Tryz.prog 83 #[v, .int .i64 2, .int .u64 0] w (NumEnd B w tot) := by
  rw [← ht.out]; exact number2_any B v l 0 U64_pos hl w hB hown
theorem number3_to {B : Nat} {v : Value} {l tot : List Nat} {n : Nat} {w : World} (ht : Hid (l ++ [3 * 8] ++ vb n = tot)) (hn : n < U64) (hl : l.length ≤ 1000000) (hB : B ≤ w.heap.size) (hown : w.ownsRow B 5 1 v l.length (u8s l)) :
    Calls Tryz.prog 83 #[v, .int .i64 3, .int .u64 n] w (NumEnd B w tot) := by
  rw [← ht.out]; exact number3_any B v l n hn hl w hB hown
theorem text_to {B : Nat} {v : Value} {l tx tot : List Nat} {tb to tc L : Nat} {w : World} (hL : Hid (L = tx.length)) (ht : Hid (l ++ [34, tx.length] ++ tx = tot)) (htx : L ≤ 100) (hl : l.length ≤ 1000000) (hB : B ≤ w.heap.size)
    (hown : w.ownsRow B 5 1 v l.length (u8s l)) (htb : tb < B) (hc : ∀ j u, (u8s tx)[j]? = some u → w.cell? ⟨tb, to + j, none⟩ = some u) :
    Calls Tryz.prog 84 #[v, .int .i64 4, .slice (some ⟨tb, to, none⟩) L tc] w (NumEnd B w tot) := by
  have h1 := hL.out; subst h1
  rw [← ht.out]; exact text_any B v l tb to tc tx htx hl w hB hown htb hc
theorem change_lens {id : Nat} (hid : id < U64) : ∃ l1 l2 : List Nat, Hid ([] ++ [2 * 8] ++ vb 0 = l1) ∧ Hid (l1 ++ [3 * 8] ++ vb id = l2) ∧ l1.length ≤ 1000 ∧ l2.length ≤ 1000 ∧ Hid (l2 = [16, 0, 24] ++ vb id) :=
  ⟨_, _, Lib.hid rfl, Lib.hid rfl, by simp [vb0], by have := vb_len10 hid; simp [vb0]; omega, Lib.hid (by simp [vb0])⟩
set_option maxRecDepth 100000 in
set_option maxHeartbeats 2000000 in
theorem marshal_any (p tp np id : Nat) (tx : List Nat) (cv : Value) (htx : tx.length ≤ 100) (hid : id < U64) (w : World) (hp : p < w.heap.size) (htp : tp < w.heap.size) (hnp : np < w.heap.size)
    (c0 : w.cell? ⟨p, 0, none⟩ = some (.pointer (some ⟨tp, 0, none⟩))) (c1 : w.cell? ⟨p, 1, none⟩ = some (.pointer (some ⟨np, 0, none⟩))) (c2 : w.cell? ⟨p, 2, none⟩ = some cv) (c3 : w.cell? ⟨p, 3, none⟩ = some (.pointer none))
    (ct : w.cell? ⟨tp, 0, none⟩ = some (.int .i32 0)) (cn : w.cell? ⟨np, 0, none⟩ = some (.int .u64 id)) (hcv : CtxV w tx cv) :
    Calls Tryz.prog 47 #[.pointer (some ⟨p, 0, none⟩)] w (NumEnd w.heap.size w (changeB id tx)) := by
  obtain ⟨l1, l2, H1, H2, hl1, hl2, H3⟩ := change_lens hid
  rcases hcv with ⟨hnil, rfl⟩ | ⟨hne, tb, to, tc, rfl, htb, hc⟩
  · have HE : Hid (changeB id tx = l2) := Lib.hid (by rw [H3.out, hnil]; simp [changeB])
    clear hnil
    generalize changeB id tx = cb at HE ⊢
    have hq0 := neq_nil0
    go_enter Tryz.func47, Tryz.ntmps47
    go_wp2_with (first
      | (go_at_call 83; ((with_reducible refine (number2_zero (l := []) H1 (by simp) (by simp) (ownsRow_empty w)).mono ?_); rintro e w1 ⟨v1, rfl, hown1, hb1, hn1⟩)
         have hB1 : Below w.heap.size w w1 := ((Below.refl _ _).alloc (Nat.le_refl _) _).trans hb1
         obtain ⟨d0, d1, d2, d3, dt, dn⟩ := cells_at hB1 hp htp hnp c0 c1 c2 c3 ct cn)
      | (go_at_call 83; ((with_reducible refine (number3_to H2 hid (by omega) hB1.size hown1).mono ?_); rintro e w2 ⟨v2, rfl, hown2, hb2, hn2⟩)
         have hB2 : Below w.heap.size w w2 := hB1.trans hb2
         obtain ⟨e0, e1, e2, e3, et, en⟩ := cells_at hB2 hp htp hnp c0 c1 c2 c3 ct cn))
    go_ret
    rw [HE.out]
    exact ⟨v2, rfl, hown2, hB2, hn2⟩
  · obtain ⟨L, hL⟩ : ∃ L, L = tx.length := ⟨_, rfl⟩
    have HE : Hid (l2 ++ [34, tx.length] ++ tx = changeB id tx) := Lib.hid (by rw [H3.out]; simp [changeB, hne])
    have HL : Hid (L = tx.length) := Lib.hid hL
    rw [← hL] at htx c2
    clear hL hne
    generalize changeB id tx = cb at HE ⊢
    have hq1 := neq_nil1
    go_enter Tryz.func47, Tryz.ntmps47
    go_wp2_with (first
      | (go_at_call 83; ((with_reducible refine (number2_zero (l := []) H1 (by simp) (by simp) (ownsRow_empty w)).mono ?_); rintro e w1 ⟨v1, rfl, hown1, hb1, hn1⟩)
         have hB1 : Below w.heap.size w w1 := ((Below.refl _ _).alloc (Nat.le_refl _) _).trans hb1
         obtain ⟨d0, d1, d2, d3, dt, dn⟩ := cells_at hB1 hp htp hnp c0 c1 c2 c3 ct cn)
      | (go_at_call 83; ((with_reducible refine (number3_to H2 hid (by omega) hB1.size hown1).mono ?_); rintro e w2 ⟨v2, rfl, hown2, hb2, hn2⟩)
         have hB2 : Below w.heap.size w w2 := hB1.trans hb2
         obtain ⟨e0, e1, e2, e3, et, en⟩ := cells_at hB2 hp htp hnp c0 c1 c2 c3 ct cn)
      | (go_at_call 84; ((with_reducible refine (text_to HL HE htx (by omega) hB2.size hown2 htb (fun j u hj => by rw [hB2.cell (p := ⟨tb, to + j, none⟩) htb]; exact hc j u hj)).mono ?_); rintro e w3 ⟨v3, rfl, hown3, hb3, hn3⟩)
         have hB3 : Below w.heap.size w w3 := hB2.trans hb3))
    go_ret
    exact ⟨v3, rfl, hown3, hB3, hn3⟩
end Go.Proofs
