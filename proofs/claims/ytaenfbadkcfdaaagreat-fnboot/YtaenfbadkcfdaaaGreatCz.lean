/-
  Slice: its contract.
-/
import Derived.Test.YtaenfbadkcfdaaaGreatCm
import Derived.Test.YtaenfbadkcfdaaaGreatBi
import Derived.Test.YtaenfbadkcfdaaaGreatBl
noncomputable section
namespace Go.Sx
open Go.RowKit (Below)
open Go.Proofs
set_option linter.unusedVariables false
set_option linter.unusedSimpArgs false
section
variable {ρ : Env} {c : Cfg} {α : Al} {P : Program} {s s' : St} {w w' : World}
/-- int 100 + 16 m + k is the k-th of the first m ids, in order -/
def SortOK (ρ : Env) : Prop := ∀ m, m ≤ 9 → ∀ ts : List Int, ts.Perm ((List.range m).map ρ.int) → ts.Pairwise (· ≤ ·) → ts = (List.range m).map fun k => ρ.int (100 + 16 * m + k)
theorem cells22 : Tryz.prog.cellsOf 22 = 1 := by kernel_rfl
theorem idKeys_ok : ∀ {x : List (C × T1)} {ord : List MapEntry} {k : Nat}, idKeys x k = true → All2 (EntR ρ α) x ord → ord.map intKey = (List.range x.length).map fun i => ρ.int (k + i)
  | [], [], _, _, _ => rfl
  | [], _ :: _, _, _, h => h.elim
  | _ :: _, [], _, _, h => h.elim
  | p :: x, m :: ord, k, h, ha => by
    unfold idKeys at h
    split at h
    · simp at *
    · rename_i kx i t es heq
      cases heq
      rw [Bool.and_eq_true] at h
      have hi : i = _ := Nat.eq_of_beq_eq_true h.1
      subst hi
      have hm := int_of ha.1 rfl
      have ih := idKeys_ok h.2 ha.2
      rw [List.map_cons, ih, List.length_cons, List.range_succ_eq_map, List.map_cons, List.map_map]
      have e1 : intKey m = ρ.int (i + 0) := intKey_of hm
      rw [e1]
      congr 1
      apply List.map_congr_left
      intro j _
      show ρ.int (i + 1 + j) = ρ.int (i + (j + 1))
      congr 1
      omega
    · cases h
theorem sortedC_get : ∀ (n m k j : Nat), j < n → (sortedC m k n)[j]? = some (.a (.int .u64 (.var (100 + 16 * m + (k + j)))))
  | 0, _, _, _, h => by omega
  | n + 1, m, k, 0, _ => rfl
  | n + 1, m, k, j + 1, h => by
    simp only [sortedC, List.getElem?_cons_succ]
    rw [sortedC_get n m (k + 1) j (by omega)]
    have : k + 1 + j = k + (j + 1) := by omega
    rw [this]
theorem sortedC_length : ∀ (n m k : Nat), (sortedC m k n).length = n
  | 0, _, _ => rfl
  | n + 1, m, k => by simp [sortedC, sortedC_length n m (k + 1)]

theorem con_slice (hf : FactsOK ρ c.facts) (hS : SortOK ρ) : ConOK Tryz.prog ρ 278 (cSlice c) := by
  intro call hcall args s v s' h α w vals hR hv
  unfold cSlice at h
  split at h
  rotate_left
  · cases h
  rename_i mc hargs
  obtain ⟨a0, ha0, hm0⟩ := Option.bind_eq_some_iff.1 hargs
  have := oneArg_eq ha0; subst this
  have := cellOf_eq hm0; subst this
  obtain ⟨u, rfl, hx⟩ := args_one hv
  split at h
  rotate_left
  · cases h
  rename_i x hmap
  obtain ⟨bm, ents, ord, rfl, hM, hp, ha⟩ := mapOf_ok hR (show CR ρ α _ u from hx) hmap
  split at h
  · rename_i h0
    simp at h
    obtain ⟨rfl, rfl⟩ := h
    have h0 := Nat.eq_of_beq_eq_true h0
    rw [len_eq] at h0
    have h1 := ha.length
    have h2 := hp.length_eq
    have he : ents = [] := List.eq_nil_of_length_eq_zero (by omega)
    subst he
    refine (slice_empty bm w hM).mono ?_
    rintro e w' ⟨rfl, hB⟩
    exact ⟨_, rfl, Post.grow hR hB ⟨rfl, rfl, fun e he => by cases he; rfl⟩⟩
  · rename_i h0
    split at h
    rotate_left
    · cases h
    rename_i hs
    rw [Bool.and_eq_true] at hs
    simp only [force_eq] at h
    split at h
    rotate_left
    · cases h
    rename_i r s1 hno
    simp only [Option.some.injEq, Prod.mk.injEq] at h
    obtain ⟨rfl, rfl⟩ := h
    obtain ⟨hr, hfree, rfl⟩ := newO_eq hno
    obtain ⟨hSet, _, _⟩ := setOK_ok hf hs.2 ha hp
    have hxl := ha.length
    have hpl := hp.length_eq
    rw [len_eq] at h0
    have hne : ents ≠ [] := by
      intro e
      subst e
      simp at hpl
      have : x.length = 0 := by omega
      rw [this] at h0
      simp at h0
    have hid := idKeys_ok (ρ := ρ) hs.1 ha
    refine (slice_some bm ents hSet.keys hne hSet.len w hM).mono ?_
    rintro e w' ⟨g, cap, cur, ts, rfl, hg, hB, hb, hcs, hle, htake, hperm, hsort⟩
    have hts := hS x.length (by have := hSet.len; omega) ts (by
      refine hperm.trans ((hp.map intKey).trans ?_)
      rw [hid]
      simp) hsort
    rw [len_eq]
    have hrow : OR Tryz.prog ρ (α.with r ⟨g, 0, 1, cap⟩) w' ⟨g, 0, 1, cap⟩ (.row (sortedC x.length 0 x.length) 22) := by
      refine ⟨cur, hb, cells22.symm, by simp; omega, by rw [sortedC_length]; simp; omega, ?_⟩
      intro j cc hj
      have hjl : j < x.length := by
        have := (List.getElem?_eq_some_iff.1 hj).1
        rwa [sortedC_length] at this
      rw [sortedC_get _ _ _ _ hjl] at hj
      cases hj
      have h5 : (cur.toList.take ents.length)[j]? = (ts.map (Value.int .u64))[j]? := by rw [htake]
      rw [List.getElem?_take_of_lt (by omega)] at h5
      refine ⟨.int .u64 (ρ.int (100 + 16 * x.length + j)), ?_, ?_⟩
      · show cur[0 + j]? = _
        rw [Nat.zero_add, ← Array.getElem?_toList, h5, hts]
        simp [hjl]
      · show _ = Value.int .u64 (ρ.int (100 + 16 * x.length + (0 + j)))
        rw [Nat.zero_add]
    have := Rel.new hR hfree hB hg hrow (s.ctr + 1)
    refine ⟨_, rfl, _, this.1, this.2, ⟨⟨g, 0, 1, cap⟩, ⟨g, 0, none⟩, ents.length, cap, by simp [Al.with], rfl, ?_, hle, by simp, .inr (by simp), by simp⟩⟩
    show (ents.length : Int) = ((x.length : Nat) : Int)
    omega
end
end Go.Sx
end
/-
  spec.Set: its contract.
-/
noncomputable section
namespace Go.Proofs
open Go.RowKit
set_option linter.unusedVariables false
set_option maxHeartbeats 800000 in
theorem set_none (ad : Option Addr) (cap : Nat) (w : World) : Calls Tryz.prog 81 #[.slice ad 0 cap] w fun e w' => e = .returned (.slice none 0 0) ∧ w' = w := by
  go_enter Tryz.func81, Tryz.ntmps81
  go_wp2
  go_loopw [3] (fun v wr => v = .slice none 0 0 ∧ wr = w) (fun v wr => 0)
  case atStart => exact ⟨rfl, rfl⟩
  case round =>
    obtain ⟨rfl, rfl⟩ := hrel
    go_wp2
    go_ret
    exact ⟨rfl, rfl⟩
end Go.Proofs
namespace Go.Sx
open Go.RowKit (Below)
open Go.Proofs
set_option linter.unusedVariables false
set_option linter.unusedSimpArgs false
section
variable {ρ : Env} {c : Cfg} {α : Al} {P : Program} {s s' : St} {w w' : World}
theorem idC_get : ∀ (n k j : Nat), j < n → (idC k n)[j]? = some (.a (.int .u64 (.var (k + j))))
  | 0, _, _, h => by omega
  | n + 1, k, 0, _ => rfl
  | n + 1, k, j + 1, h => by
    simp only [idC, List.getElem?_cons_succ]
    rw [idC_get n (k + 1) j (by omega)]
    have : k + 1 + j = k + (j + 1) := by omega
    rw [this]
theorem idC_length : ∀ (n k : Nat), (idC k n).length = n
  | 0, _ => rfl
  | n + 1, k => by simp [idC, idC_length n (k + 1)]
theorem ids_nodup (hf : FactsOK ρ c.facts) {n : Nat} (h : distinctK c ((idC 0 n).map fun x => (x, .agg [])) = true) : ((List.range n).map ρ.int).Nodup := by
  have ha : All2 (EntR ρ (fun _ => none)) ((idC 0 n).map fun x => (x, T1.agg [])) ((List.range n).map fun i => (⟨.int .u64 (ρ.int i), .agg #[], 0⟩ : MapEntry)) := by
    refine All2.of_get (by simp [idC_length]) ?_
    intro i a b h1 h2
    rw [List.getElem?_map] at h1 h2
    by_cases hi : i < n
    · rw [idC_get _ _ _ hi] at h1
      rw [List.getElem?_range hi] at h2
      simp at h1 h2
      subst h1; subst h2
      exact ⟨rfl, #[], rfl, trivial⟩
    · rw [List.getElem?_eq_none (by simp; omega)] at h2
      simp at h2
  obtain ⟨_, h2, _⟩ := distinctK_ok hf h ha
  rw [List.map_map] at h2
  have h3 : ((List.range n).map ρ.int).map (fun i => Value.int .u64 i) = (List.range n).map ((fun (m : MapEntry) => m.key) ∘ fun i => (⟨.int .u64 (ρ.int i), .agg #[], 0⟩ : MapEntry)) := by rw [List.map_map]; rfl
  rw [← h3] at h2
  exact List.Pairwise.of_map _ (fun a b hab e => hab (by rw [e])) h2
theorem cell_lt {a : Addr} {v : Value} (h : w.cell? a = some v) : a.block < w.heap.size := by
  unfold World.cell? at h
  by_cases hb : a.block < w.heap.size
  · exact hb
  · rw [Array.getElem?_eq_none (by omega)] at h
    simp at h
theorem con_set (hf : FactsOK ρ c.facts) (hS : SortOK ρ) : ConOK Tryz.prog ρ 81 (cSet c) := by
  intro call hcall args s v s' h α w vals hR hv
  unfold cSet at h
  split at h
  rotate_left
  · cases h
  rename_i x hargs
  have := oneArg_eq hargs; subst this
  obtain ⟨u, rfl, hx⟩ := args_one hv
  split at h
  rotate_left
  · cases h
  rename_i cs hcs
  obtain ⟨base, ln, cp, vs, rfl, hall, hvl, hcells, _⟩ := cellsOfSlice_ok (P := Tryz.prog) hR cells22 hcs hx
  have hl := hall.length
  rw [Nat.mul_one] at hvl
  split at h
  · rename_i h0
    simp at h
    obtain ⟨rfl, rfl⟩ := h
    have h0 := Nat.eq_of_beq_eq_true h0
    rw [len_eq] at h0
    have : ln = 0 := by omega
    subst this
    refine (set_none base cp w).mono ?_
    rintro e w' ⟨rfl, rfl⟩
    exact ⟨_, rfl, Post.here hR ⟨rfl, rfl, fun e he => by cases he; rfl⟩⟩
  · rename_i h0
    split at h
    rotate_left
    · cases h
    rename_i hs
    rw [Bool.and_eq_true, Bool.and_eq_true, Bool.or_eq_true] at hs
    obtain ⟨⟨hs1, hs2⟩, hs3⟩ := hs
    simp only [force_eq] at h
    split at h
    rotate_left
    · cases h
    rename_i r s1 hno
    simp only [Option.some.injEq, Prod.mk.injEq] at h
    obtain ⟨rfl, rfl⟩ := h
    obtain ⟨hr, hfree, rfl⟩ := newO_eq hno
    rw [len_eq] at h0 hs1 hs2 hs3
    simp only [len_eq]
    have hn0 : cs.length ≠ 0 := fun e => by rw [e] at h0; cases h0
    have hn9 := Nat.le_of_ble_eq_true hs2
    have hnd := ids_nodup hf hs3
    obtain ⟨n, hn⟩ : ∃ n, cs.length = n := ⟨_, rfl⟩
    rw [hn] at hn0 hn9 hnd hl hs1
    simp only [hn]
    obtain ⟨ts, _, htp, htS⟩ := sorted_facts ((List.range n).map ρ.int)
    have hts := hS n hn9 ts htp htS
    have hlt : ts.Pairwise (· < ·) := by
      have hnd2 : ts.Nodup := htp.nodup_iff.2 hnd
      have := List.Pairwise.and htS hnd2
      exact this.imp fun ⟨h1, h2⟩ => by omega
    obtain ⟨ad, hbase⟩ : ∃ b, base = some ⟨b, (base.getD ⟨0, 0, none⟩).off, none⟩ := by
      have hx' := hx
      unfold cellsOfSlice at hcs
      split at hcs
      · simp at hcs; subst hcs; simp at hn; exact absurd hn.symm hn0
      · obtain ⟨l, a, ln', c', _, hval, hln, hlc, _, had, _⟩ := hx'
        cases hval
        rcases had with rfl | rfl
        · omega
        · exact ⟨_, rfl⟩
      · cases hcs
    obtain ⟨o, ho⟩ : ∃ o, o = (base.getD ⟨0, 0, none⟩).off := ⟨_, rfl⟩
    rw [← ho] at hbase
    subst hbase
    have hcell := hcells _ rfl
    -- what the row holds
    obtain ⟨xs, hxs, hp⟩ : ∃ xs : List Int, vs = xs.map (Value.int .u64) ∧ ts.Perm xs := by
      rcases hs1 with hs1 | hs1
      · have := beqCs_eq hs1
        refine ⟨ts, ?_, List.Perm.refl _⟩
        apply List.ext_getElem?
        intro j
        by_cases hj : j < n
        · obtain ⟨v, hv1, hv2⟩ := hall.get j (.a (.int .u64 (.var (100 + 16 * n + (0 + j))))) (by rw [this]; exact sortedC_get n n 0 j hj)
          rw [hv1, hts, show v = _ from hv2]
          simp [hj, E.den]
        · rw [List.getElem?_eq_none (by omega), List.getElem?_eq_none (by rw [hts]; simp; omega)]
      · have := beqCs_eq hs1
        refine ⟨(List.range n).map ρ.int, ?_, htp⟩
        apply List.ext_getElem?
        intro j
        by_cases hj : j < n
        · obtain ⟨v, hv1, hv2⟩ := hall.get j (.a (.int .u64 (.var (0 + j)))) (by rw [this]; exact idC_get n 0 j hj)
          rw [hv1, show v = _ from hv2]
          simp [hj, E.den]
        · rw [List.getElem?_eq_none (by omega), List.getElem?_eq_none (by simp; omega)]
    have hxl : xs.length = n := by rw [hxs] at hl; simpa using hl.symm
    have hX : XsAt w ad o xs := by
      have hc : ∀ j x, xs[j]? = some x → w.cell? ⟨ad, o + j, none⟩ = some (.int .u64 x) := by
        intro j x hj
        have h1 := hcell j (.int .u64 x) (by rw [hxs, List.getElem?_map, hj]; rfl)
        by_cases h0 : j = 0
        · subst h0; simpa [Addr.add] using h1
        · simpa [Addr.add, h0] using h1
      refine ⟨?_, hc⟩
      have h1 := hc 0 (xs[0]'(by omega)) (List.getElem?_eq_getElem _)
      exact cell_lt h1
    have hln : ln = xs.length := by omega
    rw [hln]
    refine (set_any ad o cp xs ts hp hlt (by omega) w hX).mono ?_
    rintro e w' ⟨u, rfl, hrow, hB⟩
    have htl : ts.length = n := by rw [hts]; simp
    rcases hrow.2 with ⟨rfl, h9⟩ | ⟨g, cap, cur, rfl, hg, hb, h1, h2, h3, h4⟩
    · omega
    have hOR : OR Tryz.prog ρ (α.with r ⟨g, 0, 1, cap⟩) w' ⟨g, 0, 1, cap⟩ (.row (sortedC n 0 n) 22) := by
      refine ⟨cur, hb, cells22.symm, by simp; omega, by rw [sortedC_length]; simp; omega, ?_⟩
      intro j cc hj
      have hjl : j < n := by
        have := (List.getElem?_eq_some_iff.1 hj).1
        rwa [sortedC_length] at this
      rw [sortedC_get _ _ _ _ hjl] at hj
      cases hj
      have h5 : (cur.toList.take (ts.length * 1))[j]? = (ts.map U64v)[j]? := by rw [h4]
      rw [List.getElem?_take_of_lt (by omega)] at h5
      refine ⟨.int .u64 (ρ.int (100 + 16 * n + j)), ?_, ?_⟩
      · show cur[0 + j]? = _
        rw [Nat.zero_add, ← Array.getElem?_toList, h5, hts]
        simp [hjl, U64v]
      · show _ = Value.int .u64 (ρ.int (100 + 16 * n + (0 + j)))
        rw [Nat.zero_add]
    have := Rel.new hR hfree hB hg hOR (s.ctr + 1)
    refine ⟨_, rfl, _, this.1, this.2, ⟨⟨g, 0, 1, cap⟩, ⟨g, 0, none⟩, ts.length, cap, by simp [Al.with], rfl, ?_, by omega, by simp, .inr (by simp), by simp⟩⟩
    show (ts.length : Int) = ((n : Nat) : Int)
    omega
end
end Go.Sx
end
