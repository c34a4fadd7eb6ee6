/-
  FnBoot returns true for every input, and each argument reads behind the call as it read before. No condition.
-/
import Derived.Test.YtaenfbadkcfdaaaGreatRows
import Derived.Test.YtaenfbadkcfdaaaGreatBt
import Derived.Test.YtaenfbadkcfdaaaGreatFa
import Derived.WalkKit
import Derived.ProofKit
import Derived.OpenShut
import Derived.WideKeyArgs
import Derived.ChangeSlices
import Derived.SliceStrings
import Derived.Deep.Slices
namespace Go.Sx
open Go.RowKit (Below)
open Go.Proofs
open Go.ChangeShapes Go.ChangeMaps Go.WideShapes Go.ChangeAt Go.Deep
set_option linter.unusedVariables false
set_option linter.unusedSimpArgs false
set_option maxRecDepth 100000
theorem types33 : Tryz.prog.cellTypes Tryz.prog.depth 33 = some [22,3,3,23,4,4,4,4,4,22,22,22,3,9,22,22,24,24,24,24,4,29,22,22,22,22] := by kernel_rfl
theorem u34 : Tryz.prog.underlying 34 = some (.slice 9) := by kernel_rfl
theorem cells33 : Tryz.prog.cellsOf 33 = 26 := by kernel_rfl
theorem cells23 : Tryz.prog.cellsOf 23 = 1 := by kernel_rfl
theorem cells29 : Tryz.prog.cellsOf 29 = 1 := by kernel_rfl
theorem cells44 : Tryz.prog.cellsOf 44 = 4 := by kernel_rfl
section
variable {W : World} {r : Reach} {b : Nat} {u : TypeId} {v : Value}
theorem cw_int {k : IntKind} (hu : Tryz.prog.underlying u = some (.int k)) (h : Cell.okWide Tryz.prog W r b u v) : ∃ n, v = .int k n ∧ k.min ≤ n ∧ n ≤ k.max := by
  unfold Cell.okWide at h
  rw [hu] at h
  unfold Cell.ok at h
  rw [hu] at h
  cases v <;> simp at h
  obtain ⟨rfl, h1, h2⟩ := h
  exact ⟨_, rfl, h1, h2⟩
theorem cw_bool (hu : Tryz.prog.underlying u = some .bool) (h : Cell.okWide Tryz.prog W r b u v) : ∃ t, v = .bool t := by
  unfold Cell.okWide at h
  rw [hu] at h
  unfold Cell.ok at h
  rw [hu] at h
  cases v <;> simp at h
  exact ⟨_, rfl⟩
theorem cw_str (hu : Tryz.prog.underlying u = some .string) (h : Cell.okWide Tryz.prog W r b u v) : ∃ s, v = .string s ∧ s.size ≤ maxLen := by
  unfold Cell.okWide at h
  rw [hu] at h
  unfold Cell.ok at h
  rw [hu] at h
  cases v with
  | string s =>
    refine ⟨s, rfl, ?_⟩
    have h2 : (s.size : Int) ≤ IntKind.i64.max := h
    simp [IntKind.max, IntKind.signed, IntKind.bits] at h2
    unfold maxLen
    omega
  | _ => simp at h
theorem cw_slice {e : TypeId} (hu : Tryz.prog.underlying u = some (.slice e)) (h : Cell.okWide Tryz.prog W r b u v) : ∃ s : Sl, v = s.val ∧ s.OK W := by
  unfold Cell.okWide at h
  rw [hu] at h
  unfold Cell.ok at h
  rw [hu] at h
  cases v with
  | slice p n c =>
    cases p with
    | none =>
      simp at h
      have hn : n = 0 ∧ c = 0 := by
        cases n with
        | zero => cases c with
          | zero => exact ⟨rfl, rfl⟩
          | succ c => simp at h
        | succ n => simp at h
      exact ⟨⟨none, n, c⟩, rfl, fun _ => hn, by simp; omega, by simp; omega, fun a ha => by cases ha⟩
    | some a =>
      obtain ⟨h1, h2, _, hs, row, cells, hsh, _⟩ := h
      simp [IntKind.max, IntKind.signed, IntKind.bits] at h2
      refine ⟨⟨some a, n, c⟩, rfl, (fun h => by cases h), h1, by simp; omega, fun a' ha => ?_⟩
      cases ha
      refine ⟨hs, ?_⟩
      unfold World.shape? at hsh
      split at hsh
      · rename_i cs e2 fz hb
        exact ⟨cs, e2, fz, hb⟩
      · cases hsh
  | _ => simp at h
end
theorem list26 {α : Type} {l : List α} (h : l.length = 26) : ∃ c0 c1 c2 c3 c4 c5 c6 c7 c8 c9 c10 c11 c12 c13 c14 c15 c16 c17 c18 c19 c20 c21 c22 c23 c24 c25, l = [c0, c1, c2, c3, c4, c5, c6, c7, c8, c9, c10, c11, c12, c13, c14, c15, c16, c17, c18, c19, c20, c21, c22, c23, c24, c25] := by
  obtain ⟨c0, l0, rfl, g0⟩ := len_succ (n := 25) h
  obtain ⟨c1, l1, rfl, g1⟩ := len_succ (n := 24) g0
  obtain ⟨c2, l2, rfl, g2⟩ := len_succ (n := 23) g1
  obtain ⟨c3, l3, rfl, g3⟩ := len_succ (n := 22) g2
  obtain ⟨c4, l4, rfl, g4⟩ := len_succ (n := 21) g3
  obtain ⟨c5, l5, rfl, g5⟩ := len_succ (n := 20) g4
  obtain ⟨c6, l6, rfl, g6⟩ := len_succ (n := 19) g5
  obtain ⟨c7, l7, rfl, g7⟩ := len_succ (n := 18) g6
  obtain ⟨c8, l8, rfl, g8⟩ := len_succ (n := 17) g7
  obtain ⟨c9, l9, rfl, g9⟩ := len_succ (n := 16) g8
  obtain ⟨c10, l10, rfl, g10⟩ := len_succ (n := 15) g9
  obtain ⟨c11, l11, rfl, g11⟩ := len_succ (n := 14) g10
  obtain ⟨c12, l12, rfl, g12⟩ := len_succ (n := 13) g11
  obtain ⟨c13, l13, rfl, g13⟩ := len_succ (n := 12) g12
  obtain ⟨c14, l14, rfl, g14⟩ := len_succ (n := 11) g13
  obtain ⟨c15, l15, rfl, g15⟩ := len_succ (n := 10) g14
  obtain ⟨c16, l16, rfl, g16⟩ := len_succ (n := 9) g15
  obtain ⟨c17, l17, rfl, g17⟩ := len_succ (n := 8) g16
  obtain ⟨c18, l18, rfl, g18⟩ := len_succ (n := 7) g17
  obtain ⟨c19, l19, rfl, g19⟩ := len_succ (n := 6) g18
  obtain ⟨c20, l20, rfl, g20⟩ := len_succ (n := 5) g19
  obtain ⟨c21, l21, rfl, g21⟩ := len_succ (n := 4) g20
  obtain ⟨c22, l22, rfl, g22⟩ := len_succ (n := 3) g21
  obtain ⟨c23, l23, rfl, g23⟩ := len_succ (n := 2) g22
  obtain ⟨c24, l24, rfl, g24⟩ := len_succ (n := 1) g23
  obtain ⟨c25, l25, rfl, g25⟩ := len_succ (n := 0) g24
  obtain rfl := List.eq_nil_of_length_eq_zero g25
  exact ⟨c0, c1, c2, c3, c4, c5, c6, c7, c8, c9, c10, c11, c12, c13, c14, c15, c16, c17, c18, c19, c20, c21, c22, c23, c24, c25, rfl⟩
theorem add_spot {a : Addr} {i : Nat} (h : a.spot = none) : a.add i = ⟨a.block, a.off + i, none⟩ := by
  cases a with
  | mk b o s =>
    simp at h
    subst h
    by_cases hi : i = 0
    · subst hi; simp [Addr.add]
    · simp [Addr.add, hi]
section
variable {H : Type} {enc : TypeId × Value → H} {W : World} {base : Nat}
theorem entry_cells {n : Nat} {cs : List Value} {z : DataW H × List MemPlace} (h : DataW.trod enc Tryz.prog W 0 (fun _ => true) true n 44 cs = some z) : ∃ (x y k : Int) (s : ByteArray), cs = [.int .u64 x, .int .u64 y, .int .i64 k, .string s] ∧ s.size ≤ maxLen := by
  obtain ⟨xs, m, rfl, rfl, hl, hxl, hf⟩ := DataW.trod_struct Tryz.underlying44 h
  rw [cells44] at hl
  have hl4 : cs.length = 3 + 1 := hl
  obtain ⟨c0, l0, rfl, h0⟩ := len_succ hl4
  obtain ⟨c1, l1, rfl, h1⟩ := len_succ h0
  obtain ⟨c2, l2, rfl, h2⟩ := len_succ h1
  obtain ⟨c3, l3, rfl, h3⟩ := len_succ h2
  obtain rfl := List.eq_nil_of_length_eq_zero h3
  have hx4 : xs.length = 4 := hxl
  have f0 : DataW.trod enc Tryz.prog W 0 (fun _ => true) true m 22 (List.take (Tryz.prog.cellsOf 22) [c0, c1, c2, c3]) = xs[0]? := hf 0 _ rfl
  have f1 : DataW.trod enc Tryz.prog W 0 (fun _ => true) true m 22 (List.take (Tryz.prog.cellsOf 22) [c1, c2, c3]) = xs[1]? := hf 1 _ rfl
  have f2 : DataW.trod enc Tryz.prog W 0 (fun _ => true) true m 3 (List.take (Tryz.prog.cellsOf 3) [c2, c3]) = xs[2]? := hf 2 _ rfl
  have f3 : DataW.trod enc Tryz.prog W 0 (fun _ => true) true m 9 (List.take (Tryz.prog.cellsOf 9) [c3]) = xs[3]? := hf 3 _ rfl
  rw [cells22] at f0 f1
  rw [cells3] at f2
  rw [cells9] at f3
  rw [List.getElem?_eq_getElem (by omega)] at f0 f1 f2 f3
  obtain ⟨x, hx, _⟩ := DataW.trod_int Tryz.underlying22 f0
  obtain ⟨y, hy, _⟩ := DataW.trod_int Tryz.underlying22 f1
  obtain ⟨k, hk, _⟩ := DataW.trod_int Tryz.underlying3 f2
  simp at hx hy hk
  subst hx; subst hy; subst hk
  obtain ⟨s, hs, _, hsz⟩ := DataW.trod_string Tryz.underlying9 f3
  simp at hs
  subst hs
  exact ⟨x, y, k, s, rfl, hsz⟩
theorem inp_of {v0 v1 v2 : Value} {d0 d1 d2 : DataW H} {p0 p1 p2 : List MemPlace} (hv0 : Value.okWide Tryz.prog W .any base 33 v0) (hv1 : Value.okWide Tryz.prog W .any base 24 v1) (hv2 : Value.okWide Tryz.prog W .any base 34 v2)
    (h0 : DataW.Trod enc Tryz.prog W 0 (fun _ => true) true 33 v0 d0 p0) (h1 : DataW.Trod enc Tryz.prog W 0 (fun _ => true) true 24 v1 d1 p1) (h2 : DataW.Trod enc Tryz.prog W 0 (fun _ => true) true 34 v2 d2 p2) :
    ∃ I : Inp, I.OK ∧ I.W = W ∧ v0 = I.setup ∧ v1 = I.peers.val ∧ v2 = I.ctx.val := by
  unfold Value.okWide at hv0 hv1 hv2
  rw [Tryz.underlying33] at hv0
  rw [Tryz.underlying24] at hv1
  rw [u34] at hv2
  obtain ⟨cs, rfl, hsz, ts, hts, _, hrow⟩ := hv0
  rw [types33] at hts
  cases hts
  rw [cells33] at hsz
  obtain ⟨l⟩ := cs
  have hl : l.length = 26 := by simpa using hsz
  obtain ⟨c0, c1, c2, c3, c4, c5, c6, c7, c8, c9, c10, c11, c12, c13, c14, c15, c16, c17, c18, c19, c20, c21, c22, c23, c24, c25, rfl⟩ := list26 hl
  have k0 : Cell.okWide Tryz.prog W .any base 22 c0 := by
    obtain ⟨u, hu, h⟩ := hrow 0 c0 rfl
    cases hu; exact h
  have k1 : Cell.okWide Tryz.prog W .any base 3 c1 := by
    obtain ⟨u, hu, h⟩ := hrow 1 c1 rfl
    cases hu; exact h
  have k2 : Cell.okWide Tryz.prog W .any base 3 c2 := by
    obtain ⟨u, hu, h⟩ := hrow 2 c2 rfl
    cases hu; exact h
  have k3 : Cell.okWide Tryz.prog W .any base 23 c3 := by
    obtain ⟨u, hu, h⟩ := hrow 3 c3 rfl
    cases hu; exact h
  have k4 : Cell.okWide Tryz.prog W .any base 4 c4 := by
    obtain ⟨u, hu, h⟩ := hrow 4 c4 rfl
    cases hu; exact h
  have k5 : Cell.okWide Tryz.prog W .any base 4 c5 := by
    obtain ⟨u, hu, h⟩ := hrow 5 c5 rfl
    cases hu; exact h
  have k6 : Cell.okWide Tryz.prog W .any base 4 c6 := by
    obtain ⟨u, hu, h⟩ := hrow 6 c6 rfl
    cases hu; exact h
  have k7 : Cell.okWide Tryz.prog W .any base 4 c7 := by
    obtain ⟨u, hu, h⟩ := hrow 7 c7 rfl
    cases hu; exact h
  have k8 : Cell.okWide Tryz.prog W .any base 4 c8 := by
    obtain ⟨u, hu, h⟩ := hrow 8 c8 rfl
    cases hu; exact h
  have k9 : Cell.okWide Tryz.prog W .any base 22 c9 := by
    obtain ⟨u, hu, h⟩ := hrow 9 c9 rfl
    cases hu; exact h
  have k10 : Cell.okWide Tryz.prog W .any base 22 c10 := by
    obtain ⟨u, hu, h⟩ := hrow 10 c10 rfl
    cases hu; exact h
  have k11 : Cell.okWide Tryz.prog W .any base 22 c11 := by
    obtain ⟨u, hu, h⟩ := hrow 11 c11 rfl
    cases hu; exact h
  have k12 : Cell.okWide Tryz.prog W .any base 3 c12 := by
    obtain ⟨u, hu, h⟩ := hrow 12 c12 rfl
    cases hu; exact h
  have k13 : Cell.okWide Tryz.prog W .any base 9 c13 := by
    obtain ⟨u, hu, h⟩ := hrow 13 c13 rfl
    cases hu; exact h
  have k14 : Cell.okWide Tryz.prog W .any base 22 c14 := by
    obtain ⟨u, hu, h⟩ := hrow 14 c14 rfl
    cases hu; exact h
  have k15 : Cell.okWide Tryz.prog W .any base 22 c15 := by
    obtain ⟨u, hu, h⟩ := hrow 15 c15 rfl
    cases hu; exact h
  have k16 : Cell.okWide Tryz.prog W .any base 24 c16 := by
    obtain ⟨u, hu, h⟩ := hrow 16 c16 rfl
    cases hu; exact h
  have k17 : Cell.okWide Tryz.prog W .any base 24 c17 := by
    obtain ⟨u, hu, h⟩ := hrow 17 c17 rfl
    cases hu; exact h
  have k18 : Cell.okWide Tryz.prog W .any base 24 c18 := by
    obtain ⟨u, hu, h⟩ := hrow 18 c18 rfl
    cases hu; exact h
  have k19 : Cell.okWide Tryz.prog W .any base 24 c19 := by
    obtain ⟨u, hu, h⟩ := hrow 19 c19 rfl
    cases hu; exact h
  have k20 : Cell.okWide Tryz.prog W .any base 4 c20 := by
    obtain ⟨u, hu, h⟩ := hrow 20 c20 rfl
    cases hu; exact h
  have k21 : Cell.okWide Tryz.prog W .any base 29 c21 := by
    obtain ⟨u, hu, h⟩ := hrow 21 c21 rfl
    cases hu; exact h
  have k22 : Cell.okWide Tryz.prog W .any base 22 c22 := by
    obtain ⟨u, hu, h⟩ := hrow 22 c22 rfl
    cases hu; exact h
  have k23 : Cell.okWide Tryz.prog W .any base 22 c23 := by
    obtain ⟨u, hu, h⟩ := hrow 23 c23 rfl
    cases hu; exact h
  have k24 : Cell.okWide Tryz.prog W .any base 22 c24 := by
    obtain ⟨u, hu, h⟩ := hrow 24 c24 rfl
    cases hu; exact h
  have k25 : Cell.okWide Tryz.prog W .any base 22 c25 := by
    obtain ⟨u, hu, h⟩ := hrow 25 c25 rfl
    cases hu; exact h
  obtain ⟨x0, rfl, m0, n0⟩ := cw_int Tryz.underlying22 k0
  obtain ⟨x1, rfl, m1, n1⟩ := cw_int Tryz.underlying3 k1
  obtain ⟨x2, rfl, m2, n2⟩ := cw_int Tryz.underlying3 k2
  obtain ⟨x3, rfl, m3⟩ := cw_slice Tryz.underlying23 k3
  obtain ⟨x4, rfl⟩ := cw_bool Tryz.underlying4 k4
  obtain ⟨x5, rfl⟩ := cw_bool Tryz.underlying4 k5
  obtain ⟨x6, rfl⟩ := cw_bool Tryz.underlying4 k6
  obtain ⟨x7, rfl⟩ := cw_bool Tryz.underlying4 k7
  obtain ⟨x8, rfl⟩ := cw_bool Tryz.underlying4 k8
  obtain ⟨x9, rfl, m9, n9⟩ := cw_int Tryz.underlying22 k9
  obtain ⟨x10, rfl, m10, n10⟩ := cw_int Tryz.underlying22 k10
  obtain ⟨x11, rfl, m11, n11⟩ := cw_int Tryz.underlying22 k11
  obtain ⟨x12, rfl, m12, n12⟩ := cw_int Tryz.underlying3 k12
  obtain ⟨x13, rfl, m13⟩ := cw_str Tryz.underlying9 k13
  obtain ⟨x14, rfl, m14, n14⟩ := cw_int Tryz.underlying22 k14
  obtain ⟨x15, rfl, m15, n15⟩ := cw_int Tryz.underlying22 k15
  obtain ⟨x16, rfl, m16⟩ := cw_slice Tryz.underlying24 k16
  obtain ⟨x17, rfl, m17⟩ := cw_slice Tryz.underlying24 k17
  obtain ⟨x18, rfl, m18⟩ := cw_slice Tryz.underlying24 k18
  obtain ⟨x19, rfl, m19⟩ := cw_slice Tryz.underlying24 k19
  obtain ⟨x20, rfl⟩ := cw_bool Tryz.underlying4 k20
  obtain ⟨x21, rfl, m21⟩ := cw_slice Tryz.underlying29 k21
  obtain ⟨x22, rfl, m22, n22⟩ := cw_int Tryz.underlying22 k22
  obtain ⟨x23, rfl, m23, n23⟩ := cw_int Tryz.underlying22 k23
  obtain ⟨x24, rfl, m24, n24⟩ := cw_int Tryz.underlying22 k24
  obtain ⟨x25, rfl, m25, n25⟩ := cw_int Tryz.underlying22 k25
  obtain ⟨sp, rfl, hsp⟩ := cw_slice Tryz.underlying24 hv1
  obtain ⟨sc, rfl, hsc⟩ := cw_slice u34 hv2
  -- what is drawn from, and the log
  obtain ⟨fuel, hf0⟩ := h0
  obtain ⟨xs, m, rfl, _, _, hxl, hf⟩ := DataW.trod_struct Tryz.underlying33 hf0
  have hx17 : xs.length = 17 := hxl
  have f3 : DataW.trod enc Tryz.prog W 0 (fun _ => true) true m 23 (List.take (Tryz.prog.cellsOf 23) [x3.val, .bool x4, .bool x5, .bool x6, .bool x7, .bool x8, .int .u64 x9, .int .u64 x10, .int .u64 x11, .int .i64 x12, .string x13, .int .u64 x14, .int .u64 x15, x16.val, x17.val, x18.val, x19.val, .bool x20, x21.val, .int .u64 x22, .int .u64 x23, .int .u64 x24, .int .u64 x25]) = xs[3]? := hf 3 _ rfl
  have f14 : DataW.trod enc Tryz.prog W 0 (fun _ => true) true m 29 (List.take (Tryz.prog.cellsOf 29) [x21.val, .int .u64 x22, .int .u64 x23, .int .u64 x24, .int .u64 x25]) = xs[14]? := hf 14 _ rfl
  rw [cells23] at f3
  rw [cells29] at f14
  rw [List.getElem?_eq_getElem (by omega)] at f3 f14
  have hrand : ∀ j, j < x3.n → ∃ x, x3.at W j (.int .i64 x) := by
    intro j hj
    rcases open_ints Tryz.underlying23 Tryz.underlying3 cells3 f3 with ⟨h, _⟩ | ⟨a, len, cap, zs, h, _, hle, _, hzl, _, hc, _⟩
    · simp [Sl.val] at h; omega
    · simp [Sl.val] at h
      obtain ⟨ha, hn, hc'⟩ := h
      obtain ⟨hs, _⟩ := m3.blk a ha
      have := hc j (by simp at hzl; omega)
      rw [add_spot hs] at this
      exact ⟨_, a, ha, this⟩
  have hlog : ∀ j, j < x21.n → ∃ (x y z : Int) (s : ByteArray), s.size ≤ maxLen ∧ x21.at W (j * 4) (.int .u64 x) ∧ x21.at W (j * 4 + 1) (.int .u64 y) ∧ x21.at W (j * 4 + 2) (.int .i64 z) ∧ x21.at W (j * 4 + 3) (.string s) := by
    intro j hj
    rcases open_slice Tryz.underlying29 f14 with ⟨h, _⟩ | ⟨a, len, cap, mm, n, D, Pl, h, _, hle, _, hmm, _, hc⟩
    · simp [Sl.val] at h; omega
    · simp [Sl.val] at h
      obtain ⟨ha, hn, hc'⟩ := h
      obtain ⟨hs, _⟩ := m21.blk a ha
      simp at hmm
      obtain ⟨cs', h1, h2⟩ := hc j (by omega)
      obtain ⟨x, y, k, s, rfl, hsz⟩ := entry_cells h2
      rw [cells44] at h1
      obtain ⟨_, _, hcell⟩ := World.cells?_some h1
      have g0 := hcell 0
      have g1 := hcell 1
      have g2 := hcell 2
      have g3 := hcell 3
      rw [add_spot hs] at g0 g1 g2 g3
      rw [add_spot rfl] at g0 g1 g2 g3
      refine ⟨x, y, k, s, hsz, ⟨a, ha, ?_⟩, ⟨a, ha, ?_⟩, ⟨a, ha, ?_⟩, ⟨a, ha, ?_⟩⟩
      · simpa using g0
      · simpa [Nat.add_assoc] using g1
      · simpa [Nat.add_assoc] using g2
      · simpa [Nat.add_assoc] using g3
  have hpeers : ∃ ids : List Int, ids.length = sp.n ∧ (∀ j x, ids[j]? = some x → sp.at W j (.int .u64 x)) ∧ ∀ x ∈ ids, 0 ≤ x ∧ x ≤ 18446744073709551615 := by
    obtain ⟨fu, hp⟩ := h1
    rcases open_ints Tryz.underlying24 Tryz.underlying22 cells22 hp with ⟨h, _⟩ | ⟨a, len, cap, zs, h, _, hle, _, hzl, _, hc, hwf⟩
    · simp [Sl.val, Value.cells] at h
      exact ⟨[], by simp; omega, fun j x hj => by simp at hj, fun x hx => by simp at hx⟩
    · simp [Sl.val, Value.cells] at h
      obtain ⟨ha, hn, hc'⟩ := h
      obtain ⟨hs, _⟩ := hsp.blk a ha
      simp at hzl
      refine ⟨zs.take len, by simp; omega, ?_, ?_⟩
      · intro j x hj
        have hj2 := (List.getElem?_eq_some_iff.1 hj).1
        simp at hj2
        rw [List.getElem?_take_of_lt (by omega)] at hj
        have := hc j (by omega)
        rw [add_spot hs, List.getD_eq_getElem?_getD, hj] at this
        exact ⟨a, ha, this⟩
      · intro x hx
        have := hwf x (List.mem_of_mem_take hx)
        simpa [Lit.wf, IntKind.min, IntKind.max, IntKind.signed, IntKind.bits] using this
  have hctx : ∃ ss : List ByteArray, ss.length = sc.n ∧ (∀ j s, ss[j]? = some s → sc.at W j (.string s)) ∧ ∀ s ∈ ss, s.size ≤ maxLen := by
    obtain ⟨fu, hp⟩ := h2
    rcases open_strings u34 Tryz.underlying9 cells9 hp with ⟨h, _⟩ | ⟨a, len, cap, zs, h, _, hle, _, hzl, _, hc, hwf⟩
    · simp [Sl.val, Value.cells] at h
      exact ⟨[], by simp; omega, fun j x hj => by simp at hj, fun x hx => by simp at hx⟩
    · simp [Sl.val, Value.cells] at h
      obtain ⟨ha, hn, hc'⟩ := h
      obtain ⟨hs, _⟩ := hsc.blk a ha
      simp at hzl
      refine ⟨zs.take len, by simp; omega, ?_, ?_⟩
      · intro j x hj
        have hj2 := (List.getElem?_eq_some_iff.1 hj).1
        simp at hj2
        rw [List.getElem?_take_of_lt (by omega)] at hj
        have := hc j (by omega)
        rw [add_spot hs, List.getD_eq_getElem?_getD, hj] at this
        exact ⟨a, ha, this⟩
      · exact fun s hs' => hwf s (List.mem_of_mem_take hs')
  obtain ⟨ids, hpn, hpc, hpr⟩ := hpeers
  obtain ⟨strs, hxn, hxc, hxr⟩ := hctx
  have hms : x9 ≤ 18446744073709551615 := by simpa [IntKind.max, IntKind.signed, IntKind.bits] using n9
  have hmc : x10 ≤ 18446744073709551615 := by simpa [IntKind.max, IntKind.signed, IntKind.bits] using n10
  exact ⟨⟨x0, x1, x2, x3, x4, x5, x6, x7, x8, x9, x10, x11, x12, x13, x14, x15, x16, x17, x18, x19, x20, x21, x22, x23, x24, x25, sp, ids, sc, strs, W⟩, ⟨m3, hrand, m13, m21, hlog, hsp, hpn, hpc, hpr, hsc, hxn, hxc, hxr, hms, hmc⟩, rfl, rfl, rfl, rfl⟩
end
end Go.Sx
namespace Go.Proofs.YtaenfbadkcfdaaaGreat.fnBoot
open Go.ChangeShapes Go.WideShapes Go.ChangeAt Go.RowKit
set_option linter.unusedVariables false
set_option maxRecDepth 100000
theorem laid : laidOutB Tryz.prog = true := by kernel_rfl
theorem own : ownKnob Tryz.prog.godebug = none := by kernel_rfl
theorem same_at {W W' : World} (hB : Below W.heap.size W W') {p : MemPlace} (hp : p.block < W.heap.size) : W.sameAt W' p := by
  cases p with
  | cell b o => exact hB.cell (p := ⟨b, o, none⟩) hp
  | map b => exact hB.block b hp
theorem rec33 : Tryz.prog.readableRec 33 = true := by kernel_rfl
theorem rec24 : Tryz.prog.readableRec 24 = true := by kernel_rfl
theorem rec34 : Tryz.prog.readableRec 34 = true := by kernel_rfl
theorem row33 : 33 < Tryz.prog.types.size := of_decide_eq_true (by kernel_rfl)
theorem row24 : 24 < Tryz.prog.types.size := of_decide_eq_true (by kernel_rfl)
theorem row34 : 34 < Tryz.prog.types.size := of_decide_eq_true (by kernel_rfl)
/-- the row's step, of a world that has only grown -/
theorem post_grown {H : Type} {enc : TypeId × Value → H} {P : Program} {f : Func} {s : ChangeSpec} {apart fresh handsOn again : Bool} {W W' : World} {args : Array Value} {v : Value} {ds gs : List (DataW H)} {before pa pv : List MemPlace}
    (hW : DataW.Whole enc P f.params.toList s.vars apart W args.toList ds gs before) (hB : Below W.heap.size W W')
    (hres : ∀ (b : Nat) (sp : Nat → Bool) (hd : Bool), DataW.TrodAll enc P W' b sp hd f.resultTypes.toList (v.resultList f.resultTypes.size) (s.fn H (ds ++ gs)).results [])
    (hargs : ∀ sp : Nat → Bool, (∀ p ∈ before, sp p.block = true) → DataW.TrodAll enc P W' 0 sp true f.params.toList args.toList (s.fn H (ds ++ gs)).args pa)
    (hvars : ∀ sp : Nat → Bool, (∀ p ∈ before, sp p.block = true) → DataW.TrodVars enc P W' sp s.vars (s.fn H (ds ++ gs)).vars pv)
    (hps : before = pa ++ pv)
    (hok : ∀ (j : Nat) (t : TypeId) (r : Value), f.resultTypes[j]? = some t → (v.resultList f.resultTypes.size)[j]? = some r → Value.okWide P W' .any 0 t r) :
    s.post enc P f apart fresh handsOn again W args v W' := by
  have hin : ∀ p ∈ before, (fun b => decide (b < W.heap.size)) p.block = true := fun p hp => decide_eq_true (hW.lt p hp)
  have hfz : ∀ b o, MemPlace.cell b o ∈ before → W'.frozen? ⟨b, o, none⟩ = W.frozen? ⟨b, o, none⟩ := fun b o hp => by
    have h2 : b < W.heap.size := of_decide_eq_true (hin _ hp)
    unfold World.frozen?
    rw [hB.block b h2]
  refine ⟨ds, gs, before, [], pa, pv, hW, hres _ _ _, hargs _ hin, hvars _ hin, hB.frame _, fun _ => ?_⟩
  obtain ⟨_, _, _, _, _, hz, hn⟩ := hW
  refine ⟨hok, _, _, ([] ++ pa) ++ pv, ⟨[] ++ pa, pv, trodAll_append (hargs _ (fun _ _ => rfl)) (hres _ _ _), hvars _ (fun _ _ => rfl), rfl, ?_, ?_⟩, ?_⟩
  · intro b o hp
    have hp' : MemPlace.cell b o ∈ before := by rw [hps]; simpa using hp
    rw [hfz b o hp']
    exact hz b o hp'
  · intro ha
    have := hn ha
    rw [hps] at this
    simpa using this
  · intro p hp _
    rw [hps]
    simpa using hp
/-- what the walk gives, for every argument -/
theorem contract (H : Type) (enc : TypeId × Value → H) (W : World) (base : Nat) (args : Array Value) (ds gs : List (DataW H)) (before : List MemPlace)
    (hval : ∀ (j : Nat) t v, Tryz.f3.params[j]? = some t → args[j]? = some v → Value.okWide Tryz.prog W .any base t v)
    (hW : DataW.Whole enc Tryz.prog Tryz.f3.params.toList Rows.fnBootSpec.vars false W args.toList ds gs before) :
    Calls Tryz.prog 3 args W fun e W' => ∃ v, e = .returned v ∧ Rows.fnBootSpec.post enc Tryz.prog Tryz.f3 false true false false W args v W' := by
  have hW' := hW
  obtain ⟨p, q, hA0, hV, rfl, hfz, hnd⟩ := hW
  have hA : DataW.TrodAll enc Tryz.prog W 0 (fun _ => true) true Tryz.f3.params.toList args.toList ds p := hA0
  rw [Tryz.params3] at hA hval
  obtain ⟨v0, vs0, d0, ds0, p0, q0, hargs, rfl, rfl, h0, r0⟩ := trodAll_cons hA
  obtain ⟨v1, vs1, d1, ds1, p1, q1, rfl, rfl, rfl, h1, r1⟩ := trodAll_cons r0
  obtain ⟨v2, vs2, d2, ds2, p2, q2, rfl, rfl, rfl, h2, r2⟩ := trodAll_cons r1
  obtain ⟨rfl, rfl, rfl⟩ := trodAll_nil r2
  obtain rfl : args = #[v0, v1, v2] := by cases args; simp_all
  obtain ⟨rfl, rfl⟩ := trodVars_none hV
  obtain ⟨I, hI, rfl, rfl, rfl, rfl⟩ := Go.Sx.inp_of (hval 0 33 v0 rfl rfl) (hval 1 24 v1 rfl rfl) (hval 2 34 v2 rfl rfl) h0 h1 h2
  refine (Go.Sx.boot_true hI).mono fun e W' ⟨he, hB⟩ => ?_
  subst he
  simp only [List.append_nil] at hW'
  have hlt : ∀ x ∈ p0 ++ (p1 ++ p2), x.block < I.W.heap.size := fun x hx => hW'.lt x hx
  have hargs : ∀ sp : Nat → Bool, (∀ p ∈ p0 ++ (p1 ++ p2), sp p.block = true) → DataW.TrodAll enc Tryz.prog W' 0 sp true [33, 24, 34] [I.setup, I.peers.val, I.ctx.val] [d0, d1, d2] (p0 ++ (p1 ++ p2)) := fun sp hs => by
    have t0 := WideElems.Trod_stays (sp' := sp) laid rec33 row33 h0 (fun x hx => same_at hB (hlt x (by simp [hx]))) (fun x hx => hs x (by simp [hx]))
    have t1 := WideElems.Trod_stays (sp' := sp) laid rec24 row24 h1 (fun x hx => same_at hB (hlt x (by simp [hx]))) (fun x hx => hs x (by simp [hx]))
    have t2 := WideElems.Trod_stays (sp' := sp) laid rec34 row34 h2 (fun x hx => same_at hB (hlt x (by simp [hx]))) (fun x hx => hs x (by simp [hx]))
    have := trodAll_cons_mk t0 (trodAll_cons_mk t1 (trodAll_cons_mk t2 trodAll_mk0))
    simpa using this
  have hres : ∀ (b : Nat) (sp : Nat → Bool) (hd : Bool), DataW.TrodAll enc Tryz.prog W' b sp hd [4] [.bool true] [.lit (.bool true)] [] := fun b sp hd => trodAll_cons_mk (shut_bool Tryz.underlying4 _) trodAll_mk0
  have hold : ∀ p ∈ p0 ++ (p1 ++ p2), (fun b => decide (b < I.W.heap.size)) p.block = true := fun p hp => by simpa using hlt p hp
  refine ⟨_, rfl, ?_⟩
  exact post_grown (pa := p0 ++ (p1 ++ p2)) (pv := []) hW' hB (fun b sp hd => hres b sp hd) (fun sp hs => hargs sp hs) (fun _ _ => rfl) (by simp) (ok_one (by kernel_rfl) rfl (okWide_bool_mk Tryz.underlying4 _))
theorem lifted (os : Os) (started : os.Started) (H : Type) (enc : TypeId × Value → H) :
    ReturnsInHanded {} Tryz.checked os 3 .any (Rows.fnBootSpec.pre6 enc Tryz.prog Tryz.f3 Rows.fnBootRow.domain false) (Rows.fnBootSpec.post enc Tryz.prog Tryz.f3 false true false false) := by
  refine returnsInHanded_of_change (C := Tryz.checked) own started (by kernel_rfl) Tryz.func3
    (ChangeSpec.witness6 (enc := enc) (C := Tryz.checked) false ⟨#[], #[.agg #[.int .u64 0, .int .i64 0, .int .i64 0, .slice none 0 0, .bool false, .bool false, .bool false, .bool false, .bool false, .int .u64 0, .int .u64 0, .int .u64 0, .int .i64 0, .string .empty, .int .u64 0, .int .u64 0, .slice none 0 0, .slice none 0 0, .slice none 0 0, .slice none 0 0, .bool false, .slice none 0 0, .int .u64 0, .int .u64 0, .int .u64 0, .int .u64 0], .slice none 0 0, .slice none 0 0], []⟩ 8 (by kernel_rfl) (by kernel_rfl) (by kernel_rfl) (by kernel_rfl)) ?_
  intro W base args ds gs before hval hW _ _
  exact contract H enc W base args ds gs before hval hW
theorem over : Rows.fnBootRow.holds Tryz.pinned (OpenSpec.ofChange Rows.fnBootSpec) :=
  OpenClaim.holds_of_wide 3 Tryz.f3 rfl rfl rfl rfl rfl rfl rfl ⟨rfl, rfl, rfl, rfl, rfl⟩ rfl rfl rfl rfl rfl fact1 Tryz.func3 fact2 fact3 fact4
    (fun os started H enc _ => lifted os started H enc)
/-- ████ THE STATEMENT ████ -/
theorem proved : Rows.FnBootSaid :=
  over
#print axioms proved
end Go.Proofs.YtaenfbadkcfdaaaGreat.fnBoot
