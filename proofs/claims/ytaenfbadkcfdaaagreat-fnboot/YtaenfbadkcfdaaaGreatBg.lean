/-
  (*Config).Clone$1: a set's copy.
-/
import Derived.Test.YtaenfbadkcfdaaaGreatSt
import Derived.Test.YtaenfbadkcfdaaaGreatBf
import Derived.WalkKit
import Derived.ProofKit
namespace Go.Proofs
open Go.RowKit
set_option linter.unusedVariables false
def Units (kv : List (Value × Value)) : Prop := ∀ p ∈ kv, p.2 = .agg #[]
def unitKvs (es : List MapEntry) : List (Value × Value) := es.map fun m => (m.key, .agg #[])
/-- the copy, while it is made: from w on -/
def CloneRel (w : World) (bm r o : Nat) (es : List MapEntry) (wr : World) : Prop :=
  ∃ vis, IterAt wr r (some bm) es vis ∧ OwnM wr o (unitKvs vis) ∧ Below w.heap.size w wr
def CloneEnd (w : World) (es : List MapEntry) (e : Ending) (w' : World) : Prop :=
  ∃ b vis, e = .returned (.map (some b)) ∧ w.heap.size ≤ b ∧ Below w.heap.size w w' ∧ vis.Perm es ∧ OwnM w' b (unitKvs vis)
theorem eqM_some (b : Nat) (w : World) : (binOp .eql 166 (.map (some b)) (.map none)).run Tryz.prog w = .ok (.bool false) w := by kernel_rfl
theorem eqM_none (w : World) : (binOp .eql 166 (.map none) (.map none)).run Tryz.prog w = .ok (.bool true) w := by kernel_rfl
set_option maxRecDepth 100000 in
theorem clone_nil (w : World) : Calls Tryz.prog 324 #[.map none] w fun e w' => e = .returned (.map none) ∧ w' = w := by
  have he := eqM_none
  go_enter Tryz.func324, Tryz.ntmps324
  go_wp2
  go_ret
  exact ⟨rfl, rfl⟩
set_option maxRecDepth 100000 in
set_option maxHeartbeats 800000 in
theorem clone_some (bm : Nat) (es : List MapEntry) (hk : U64s es) (hnd : (es.map (·.key)).Nodup) (hlen : es.length ≤ 1000) (w : World) (hM : MapAt w (some bm) es) :
    Calls Tryz.prog 324 #[.map (some bm)] w (CloneEnd w es) := by
  have hlt : bm < w.heap.size := by obtain ⟨_, _, h, _⟩ := hM; exact (Array.getElem?_eq_some_iff.1 h).1
  have he := eqM_some bm
  have hln : (Builtin.len_ #[166] 3 #[.map (some bm)]).run Tryz.prog w = .ok (.int .i64 (es.length : Int)) w := by
    obtain ⟨ents, clock, hb, rfl, _⟩ := hM
    simp [Builtin.len_, run_underlying Tryz.underlying166, Go.Sx.run_getMap hb, goInt]
  have hmk : (Instr.makeMap 166 (some (.int .i64 (es.length : Int)))).run Tryz.prog w = .ok (.map (some w.heap.size)) (w.alloc (.map #[] 0)) := by
    simp [Instr.makeMap, asInt, asIntOf]
  have hM1 : MapAt (w.alloc (.map #[] 0)) (some bm) es := hM.block fun b hb => by cases hb; exact heap_alloc_old _ _ hlt
  obtain ⟨o, hrg, hI, hM2⟩ := range_any (P := Tryz.prog) Tryz.underlying166 hM1
  have hs1 : (w.alloc (.map #[] 0)).heap.size = w.heap.size + 1 := by show (w.heap.push _).size = _; simp
  rw [hs1] at hrg hI
  have hR : CloneRel w bm (w.heap.size + 1) w.heap.size es ((w.alloc (.map #[] 0)).alloc o) :=
    ⟨[], hI, (OwnM.made w).block (heap_alloc_old _ _ (by omega)), ((Below.refl _ _).alloc (Nat.le_refl _) _).alloc (by omega) _⟩
  clear hI hM2 hM1 hM
  go_enter Tryz.func324, Tryz.ntmps324
  go_wp2
  clear hrg hmk hln he
  go_loopw [4] (fun k wr => CloneRel w bm (w.heap.size + 1) w.heap.size es wr) (fun k wr => es.length - seenAt wr (w.heap.size + 1))
  case atStart => exact hR
  case round =>
    clear hR
    obtain ⟨vis, hI, hO, hB⟩ := hrel
    rcases next_any (P := Tryz.prog) 0 hI (fun b hb => by cases hb; omega) with ⟨hperm, hnext⟩ | ⟨e, w2, he, hev, hlt2, hnext, hentry, hOnly, hI2⟩
    · go_wp2
      go_ret
      exact ⟨w.heap.size, vis, rfl, Nat.le_refl _, hB, hperm, hO⟩
    · obtain ⟨a, ha⟩ := hk e he
      rw [ha] at hnext hentry
      have hO2 := hO.block (hOnly.block w.heap.size (by omega))
      have hnew : ∀ p ∈ unitKvs vis, ∃ a', p.1 = .int .u64 a' ∧ a' ≠ a := fun p hp => by
        obtain ⟨m, hm, rfl⟩ := List.mem_map.1 hp
        exact fresh_key hk hnd hI he hev ha m hm
      obtain ⟨w3, hput, hO3, hOnly3⟩ := OwnM.put Tryz.underlying166 Tryz.underlying22 hO2 hnew (.agg #[])
      go_wp2
      go_roundw
      case rel =>
        have hb3 : w3.heap[w.heap.size + 1]? = w2.heap[w.heap.size + 1]? := hOnly3.block _ (by omega)
        refine ⟨vis ++ [e], hI2.block (fun b hb => by cases hb; exact hOnly3.block _ (by omega)) hb3, ?_, ?_⟩
        · rw [unitKvs, List.map_append]
          simpa [unitKvs, ha] using hO3
        · have := hB.size
          exact (hB.trans (hOnly.below (by omega) this)).trans (hOnly3.below (Nat.le_refl _) (by rw [hOnly.size]; exact this))
      case measure =>
        have hb3 : w3.heap[w.heap.size + 1]? = w2.heap[w.heap.size + 1]? := hOnly3.block _ (by omega)
        have hI3 := hI2.block (w' := w3) (fun b hb => by cases hb; exact hOnly3.block _ (by omega)) hb3
        rw [hI3.seen, hI.seen]
        simp
        omega
end Go.Proofs
/-
  JointConfig.IDs: the ids of both halves; the second is empty.
-/
namespace Go.Proofs
open Go.RowKit
set_option linter.unusedVariables false
/-- the ids, while they are gathered from the k-th half: from w on -/
def IdsRel (B o : Nat) (w : World) (es : List MapEntry) (k : Nat) (wr : World) : Prop :=
  ∃ vis, vis.Perm (if k = 0 then [] else es) ∧ OwnM wr o (unitKvs vis) ∧ Below B w wr
/-- inside -/
def IdsIn (B o r : Nat) (w : World) (bm : Option Nat) (es : List MapEntry) (pre : List MapEntry) (wr : World) : Prop :=
  ∃ vis, IterAt wr r bm es vis ∧ OwnM wr o (unitKvs (pre ++ vis)) ∧ Below B w wr ∧ r < wr.heap.size
theorem idx0 (a b : Option Nat) (w : World) : (Instr.index 169 (.agg #[.map a, .map b]) (.int .i64 0)).run Tryz.prog w = .ok (.map a) w := by kernel_rfl
theorem idx1 (a b : Option Nat) (w : World) : (Instr.index 169 (.agg #[.map a, .map b]) (.int .i64 1)).run Tryz.prog w = .ok (.map b) w := by kernel_rfl
set_option maxRecDepth 100000 in
set_option maxHeartbeats 1600000 in
theorem ids_any (m0 m1 : Option Nat) (es : List MapEntry) (hk : U64s es) (hnd : (es.map (·.key)).Nodup) (w : World) (hM0 : MapAt w m0 es) (hM1 : MapAt w m1 []) :
    Calls Tryz.prog 188 #[.agg #[.map m0, .map m1]] w (CloneEnd w es) := by
  have hlt0 : ∀ b, m0 = some b → b < w.heap.size := fun b hb => by subst hb; obtain ⟨_, _, h, _⟩ := hM0; exact (Array.getElem?_eq_some_iff.1 h).1
  have hlt1 : ∀ b, m1 = some b → b < w.heap.size := fun b hb => by subst hb; obtain ⟨_, _, h, _⟩ := hM1; exact (Array.getElem?_eq_some_iff.1 h).1
  have hmk := @run_makeMap Tryz.prog
  go_enter Tryz.func188, Tryz.ntmps188
  go_wp2
  have hR : IdsRel w.heap.size (w.heap.size + 1) w es 0 ((w.alloc (.cells #[.map m0, .map m1] 169)).alloc (.map #[] 0)) := by
    refine ⟨[], List.Perm.refl _, ?_, ((Below.refl _ _).alloc (Nat.le_refl _) _).alloc (by simp) _⟩
    have := OwnM.made (w.alloc (.cells #[.map m0, .map m1] 169))
    have hs1 : (w.alloc (.cells #[.map m0, .map m1] 169)).heap.size = w.heap.size + 1 := by show (w.heap.push _).size = _; simp
    rw [hs1] at this
    exact this
  go_loopw [9] (fun i wr => ∃ k : Nat, i = .int .i64 k ∧ k ≤ 2 ∧ IdsRel w.heap.size (w.heap.size + 1) w es k wr) (fun i wr => 2 - (intOf i).toNat)
  case atStart => exact ⟨0, rfl, by omega, hR⟩
  case round =>
    clear hR hmk
    obtain ⟨k, rfl, hk2, vis, hperm, hO, hB⟩ := hrel
    have holt : w.heap.size + 1 < wr.heap.size := by obtain ⟨_, ⟨_, _, h, _⟩, _⟩ := hO; exact (Array.getElem?_eq_some_iff.1 h).1
    rcases (by omega : k = 0 ∨ k = 1 ∨ k = 2) with rfl | rfl | rfl
    · have hv0 : vis = [] := List.perm_nil.1 hperm
      subst hv0
      have hM0r : MapAt wr m0 es := hM0.block fun b hb => hB.block b (hlt0 b hb)
      obtain ⟨o, hrg, hI, hM0'⟩ := range_any (P := Tryz.prog) Tryz.underlying167 hM0r
      have hsz : (wr.alloc o).heap.size = wr.heap.size + 1 := by show (wr.heap.push _).size = _; simp
      have hRi : IdsIn w.heap.size (w.heap.size + 1) wr.heap.size w m0 es [] (wr.alloc o) :=
        ⟨[], hI, hO.block (heap_alloc_old _ _ holt), hB.alloc hB.size _, by omega⟩
      have hrlt : ∀ b, m0 = some b → b ≠ wr.heap.size := fun b hb => by have := hlt0 b hb; have := hB.size; omega
      have holt2 : ∀ b, m0 = some b → b ≠ w.heap.size + 1 := fun b hb => by have := hlt0 b hb; omega
      obtain ⟨R, hRe⟩ : ∃ R, R = wr.heap.size := ⟨_, rfl⟩
      rw [← hRe] at hrg hRi hrlt holt
      have hRge := hB.size
      rw [← hRe] at hRge
      clear hI hM0' hM0r hsz hRe
      have hix := idx0
      go_wp2
      clear hrg hix
      go_loopw [6] (fun q wq => IdsIn w.heap.size (w.heap.size + 1) R w m0 es [] wq) (fun q wq => es.length - seenAt wq R)
      case atStart => exact hRi
      case round =>
        clear hRi hO hB hperm
        obtain ⟨vis, hI, hO, hB, hRlt⟩ := hrel
        rcases next_any (P := Tryz.prog) 0 hI hrlt with ⟨hperm, hnext⟩ | ⟨e, w2, he, hev, hlt2, hnext, hentry, hOnly, hI2⟩
        · go_wp2
          go_roundw
          case rel => exact ⟨1, rfl, by omega, vis, by simpa using hperm, by simpa using hO, hB⟩
          case measure => simp [intOf]
        · obtain ⟨a, ha⟩ := hk e he
          rw [ha] at hnext hentry
          have hO2 := hO.block (hOnly.block (w.heap.size + 1) (by omega))
          have hnew : ∀ p ∈ unitKvs ([] ++ vis), ∃ a', p.1 = .int .u64 a' ∧ a' ≠ a := fun p hp => by
            obtain ⟨m, hm, rfl⟩ := List.mem_map.1 hp
            exact fresh_key hk hnd hI he hev ha m (by simpa using hm)
          obtain ⟨w3, hput, hO3, hOnly3⟩ := OwnM.put Tryz.underlying166 Tryz.underlying22 hO2 hnew (.agg #[])
          have hb3 : w3.heap[R]? = w2.heap[R]? := hOnly3.block _ (by omega)
          have hI3 := hI2.block (w' := w3) (fun b hb => hOnly3.block _ (holt2 b hb)) hb3
          have hRel3 : IdsIn w.heap.size (w.heap.size + 1) R w m0 es [] w3 := by
            refine ⟨vis ++ [e], hI3, ?_, ?_, by rw [hOnly3.size, hOnly.size]; exact hRlt⟩
            · simpa [unitKvs, ha] using hO3
            · have := hB.size
              exact (hB.trans (hOnly.below (by omega) this)).trans (hOnly3.below (by omega) (by rw [hOnly.size]; exact this))
          have hm3 : es.length - seenAt w3 R < es.length - seenAt wr R := by
            rw [hI3.seen' he, hI.seen' he]
            simp
            omega
          clear hI3 hI2 hO3 hO2 hnew hOnly3 hOnly hb3
          go_wp2
          go_roundw
          case rel => exact hRel3
          case measure => exact hm3
    · rw [if_neg (by decide)] at hperm
      have hM1r : MapAt wr m1 [] := hM1.block fun b hb => hB.block b (hlt1 b hb)
      obtain ⟨o, hrg, hI, hM1'⟩ := range_any (P := Tryz.prog) Tryz.underlying167 hM1r
      have hRi : IdsIn w.heap.size (w.heap.size + 1) wr.heap.size w m1 [] vis (wr.alloc o) :=
        ⟨[], hI, by simpa using hO.block (heap_alloc_old _ _ holt), hB.alloc hB.size _, by show _ < (wr.heap.push _).size; simp⟩
      have hrlt : ∀ b, m1 = some b → b ≠ wr.heap.size := fun b hb => by have := hlt1 b hb; have := hB.size; omega
      obtain ⟨R, hRe⟩ : ∃ R, R = wr.heap.size := ⟨_, rfl⟩
      rw [← hRe] at hrg hRi hrlt
      clear hI hM1' hM1r hRe
      have hix := idx1
      go_wp2
      clear hrg hix
      go_loopw [6] (fun q wq => IdsIn w.heap.size (w.heap.size + 1) R w m1 [] vis wq) (fun q wq => 0)
      case atStart => exact hRi
      case round =>
        clear hRi hO hB
        obtain ⟨vis1, hI, hO, hB, hRlt⟩ := hrel
        rcases next_any (P := Tryz.prog) 0 hI hrlt with ⟨hperm1, hnext⟩ | ⟨e, w2, he, _⟩
        · have hv0 : vis1 = [] := List.perm_nil.1 hperm1
          subst hv0
          go_wp2
          go_roundw
          case rel => exact ⟨2, rfl, by omega, vis, by simpa using hperm, by simpa using hO, hB⟩
          case measure => simp [intOf]
        · simp at he
    · rw [if_neg (by decide)] at hperm
      go_wp2
      go_ret
      exact ⟨w.heap.size + 1, vis, rfl, by omega, hB, hperm, hO⟩
end Go.Proofs
/-
  symdiff: how many ids are in one set alone.
-/
namespace Go.Proofs
open Go.RowKit
set_option linter.unusedVariables false
open Classical in
noncomputable def miss (es es' : List MapEntry) : Nat := (es.filter fun m => decide (∀ m' ∈ es', m'.key ≠ m.key)).length
theorem miss_snoc_in {vis es' : List MapEntry} {e : MapEntry} (h : ∃ m ∈ es', m.key = e.key) : miss (vis ++ [e]) es' = miss vis es' := by
  obtain ⟨m, hm, he⟩ := h
  have : ¬ ∀ m' ∈ es', m'.key ≠ e.key := fun h => h m hm he
  simp [miss, this]
theorem miss_snoc_out {vis es' : List MapEntry} {e : MapEntry} (h : ∀ m ∈ es', m.key ≠ e.key) : miss (vis ++ [e]) es' = miss vis es' + 1 := by
  have h' : ∀ m' ∈ es', ¬ m'.key = e.key := h
  simp [miss]
  rw [List.filter_cons_of_pos (by simpa using h')]
  simp
theorem miss_perm {a b es' : List MapEntry} (h : a.Perm b) : miss a es' = miss b es' := (h.filter _).length_eq
theorem miss_le {a b : List MapEntry} : miss a b ≤ a.length := List.length_filter_le _ _
/-- the count, ahead of round k -/
def symN (es0 es1 : List MapEntry) : Nat → Nat → Prop
  | 0, n => n = 0
  | 1, n => n = miss es0 es1
  | _, n => n = miss es0 es1 + miss es1 es0
structure SymRel (w : World) (m0 m1 : Option Nat) (wr : World) : Prop where
  below : Below w.heap.size w wr
  lt : w.heap.size < wr.heap.size
  c0 : wr.cell? ⟨w.heap.size, 0, none⟩ = some (.map m0)
  c1 : wr.cell? ⟨w.heap.size, 1, none⟩ = some (.map m1)
  c2 : wr.cell? ⟨w.heap.size, 2, none⟩ = some (.map m1)
  c3 : wr.cell? ⟨w.heap.size, 3, none⟩ = some (.map m0)
/-- inside: the set a is ranged over, b is asked -/
def SymIn (w : World) (m0 m1 ma mb : Option Nat) (ea eb : List MapEntry) (q base : Nat) (n : Value) (wr : World) : Prop :=
  ∃ vis, n = .int .i64 ((base + miss vis eb : Nat) : Int) ∧ IterAt wr (q + 1) ma ea vis ∧ SymRel w m0 m1 wr ∧ wr.cell? ⟨q, 0, none⟩ = some (.map ma) ∧ wr.cell? ⟨q, 1, none⟩ = some (.map mb) ∧ q + 1 < wr.heap.size
theorem zero324 (w : World) : (zeroValue 324).run Tryz.prog w = .ok (.agg #[]) w := by kernel_rfl
theorem cell_alloc1 {w : World} {o : Obj} {b k : Nat} (h : b < w.heap.size) : (w.alloc o).cell? ⟨b, k, none⟩ = w.cell? ⟨b, k, none⟩ := by
  unfold World.cell?; rw [show (w.alloc o).heap[b]? = w.heap[b]? from heap_alloc_old _ _ h]
theorem cell_alloc2 {w : World} {o o' : Obj} {b k : Nat} (h : b < w.heap.size) : ((w.alloc o).alloc o').cell? ⟨b, k, none⟩ = w.cell? ⟨b, k, none⟩ := by
  have hs : b < (w.alloc o).heap.size := by show _ < (w.heap.push _).size; simp; omega
  rw [cell_alloc1 hs, cell_alloc1 h]
theorem cell_only {w w' : World} {r b k : Nat} (h : Only r w w') (hb : b ≠ r) : w'.cell? ⟨b, k, none⟩ = w.cell? ⟨b, k, none⟩ := by
  unfold World.cell?; rw [show w'.heap[b]? = w.heap[b]? from h.block b hb]
set_option maxRecDepth 100000 in
set_option maxHeartbeats 1600000 in
theorem symdiff_any (m0 m1 : Option Nat) (es0 es1 : List MapEntry) (hk0 : U64s es0) (hk1 : U64s es1) (hu0 : ∀ m ∈ es0, m.val = .agg #[]) (hu1 : ∀ m ∈ es1, m.val = .agg #[]) (hl0 : es0.length ≤ 1000) (hl1 : es1.length ≤ 1000) (w : World) (hM0 : MapAt w m0 es0) (hM1 : MapAt w m1 es1) :
    Calls Tryz.prog 182 #[.map m0, .map m1] w fun e w' => e = .returned (.int .i64 ((miss es0 es1 + miss es1 es0 : Nat) : Int)) ∧ Below w.heap.size w w' := by
  have hlt0 : ∀ b, m0 = some b → b < w.heap.size := fun b hb => by subst hb; obtain ⟨_, _, h, _⟩ := hM0; exact (Array.getElem?_eq_some_iff.1 h).1
  have hlt1 : ∀ b, m1 = some b → b < w.heap.size := fun b hb => by subst hb; obtain ⟨_, _, h, _⟩ := hM1; exact (Array.getElem?_eq_some_iff.1 h).1
  go_enter Tryz.func182, Tryz.ntmps182
  go_wp2
  have hR : SymRel w m0 m1 (w.alloc (.cells #[.map m0, .map m1, .map m1, .map m0] 168)) := by
    have hb : (w.alloc (.cells #[.map m0, .map m1, .map m1, .map m0] 168)).heap[w.heap.size]? = some (.cells #[.map m0, .map m1, .map m1, .map m0] 168) := heap_alloc_new _ _
    exact ⟨(Below.refl _ _).alloc (Nat.le_refl _) _, by show _ < (w.heap.push _).size; simp, by rw [cell_of hb]; rfl, by rw [cell_of hb]; rfl, by rw [cell_of hb]; rfl, by rw [cell_of hb]; rfl⟩
  go_loopw [5, 21] (fun n i wr => ∃ k c : Nat, i = .int .i64 k ∧ k ≤ 2 ∧ n = .int .i64 c ∧ symN es0 es1 k c ∧ SymRel w m0 m1 wr) (fun n i wr => 2 - (intOf i).toNat)
  case atStart => exact ⟨0, 0, rfl, by omega, rfl, rfl, hR⟩
  case round =>
    clear hR
    obtain ⟨k, c, rfl, hk2, rfl, hsym, hrel⟩ := hrel
    obtain ⟨hB, holt, c0, c1, c2, c3⟩ := hrel
    obtain ⟨wo, rfl⟩ : ∃ wo, wo = wr := ⟨_, rfl⟩
    rcases (by omega : k = 0 ∨ k = 1 ∨ k = 2) with rfl | rfl | rfl
    · have hc : (c : Int) = (0 : Nat) := by rw [show c = _ from hsym]
      have hMa : MapAt (wo.alloc (.cells #[.map m0, .map m1] 168)) m0 es0 := hM0.block fun b hb => (heap_alloc_old _ _ (Nat.lt_of_lt_of_le (hlt0 b hb) hB.size)).trans (hB.block b (hlt0 b hb))
      obtain ⟨o, hrg, hI, hMa'⟩ := range_any (P := Tryz.prog) Tryz.underlying167 hMa
      have hs1 : (wo.alloc (.cells #[.map m0, .map m1] 168)).heap.size = wo.heap.size + 1 := by show (wo.heap.push _).size = _; simp
      rw [hs1] at hrg hI
      have hBo := hB.size
      have hRi : SymIn w m0 m1 m0 m1 es0 es1 wo.heap.size 0 (.int .i64 c) ((wo.alloc (.cells #[.map m0, .map m1] 168)).alloc o) := by
        refine ⟨[], by rw [hc]; simp [miss], hI, ⟨(hB.alloc hB.size _).alloc (by omega) _, ?_, ?_, ?_, ?_, ?_⟩, ?_, ?_, ?_⟩
        · show _ < ((wo.heap.push _).push _).size; simp; omega
        · rw [cell_alloc2 (by omega)]; exact c0
        · rw [cell_alloc2 (by omega)]; exact c1
        · rw [cell_alloc2 (by omega)]; exact c2
        · rw [cell_alloc2 (by omega)]; exact c3
        · have hb : ((wo.alloc (.cells #[.map m0, .map m1] 168)).alloc o).heap[wo.heap.size]? = some (.cells #[.map m0, .map m1] 168) := (heap_alloc_old _ _ (by omega)).trans (heap_alloc_new _ _)
          rw [cell_of hb]; rfl
        · have hb : ((wo.alloc (.cells #[.map m0, .map m1] 168)).alloc o).heap[wo.heap.size]? = some (.cells #[.map m0, .map m1] 168) := (heap_alloc_old _ _ (by omega)).trans (heap_alloc_new _ _)
          rw [cell_of hb]; rfl
        · show _ < ((wo.heap.push _).push _).size; simp
      have hrlt : ∀ b, m0 = some b → b ≠ wo.heap.size + 1 := fun b hb => by have := hlt0 b hb; omega
      clear hI hMa hMa' hs1
      go_wp2
      clear hrg
      go_loopw [5] (fun n wq => SymIn w m0 m1 m0 m1 es0 es1 wo.heap.size 0 n wq) (fun n wq => es0.length - seenAt wq (wo.heap.size + 1))
      case atStart => exact hRi
      case round =>
        clear hRi hB c0 c1 c2 c3 holt hc hsym
        obtain ⟨vis, rfl, hI, ⟨hB, holt, c0, c1, c2, c3⟩, d0, d1, hRlt⟩ := hrel
        rcases next_any (P := Tryz.prog) 0 hI hrlt with ⟨hperm, hnext⟩ | ⟨e, w2, he, hev, hlt2, hnext, hentry, hOnly, hI2⟩
        · go_wp2
          go_roundw
          case rel => exact ⟨1, 0 + miss es0 es1, rfl, by omega, by rw [miss_perm hperm], by simp [symN], ⟨hB, holt, c0, c1, c2, c3⟩⟩
          case measure => simp [intOf]
        · obtain ⟨a, ha⟩ := hk0 e he
          rw [ha] at hnext hentry
          have hB2 : Below w.heap.size w w2 := hB.trans (hOnly.below (by omega) hB.size)
          have hMb2 : MapAt w2 m1 es1 := hM1.block fun b hb => hB2.block b (hlt1 b hb)
          have hmle := miss_le (a := vis) (b := es1)
          have hble : 0 ≤ 1000 := by first | omega | exact Nat.le_trans miss_le hl0
          have hsz2 := hOnly.size
          have e0 : w2.cell? ⟨w.heap.size, 0, none⟩ = some (.map m0) := by rw [cell_only hOnly (by omega)]; exact c0
          have e1 : w2.cell? ⟨w.heap.size, 1, none⟩ = some (.map m1) := by rw [cell_only hOnly (by omega)]; exact c1
          have e2 : w2.cell? ⟨w.heap.size, 2, none⟩ = some (.map m1) := by rw [cell_only hOnly (by omega)]; exact c2
          have e3 : w2.cell? ⟨w.heap.size, 3, none⟩ = some (.map m0) := by rw [cell_only hOnly (by omega)]; exact c3
          have f0 : w2.cell? ⟨wo.heap.size, 0, none⟩ = some (.map m0) := by rw [cell_only hOnly (by omega)]; exact d0
          have f1 : w2.cell? ⟨wo.heap.size, 1, none⟩ = some (.map m1) := by rw [cell_only hOnly (by omega)]; exact d1
          have key : ∀ n : Nat, n = 0 + miss (vis ++ [e]) es1 → SymIn w m0 m1 m0 m1 es0 es1 wo.heap.size 0 (.int .i64 n) (w2.alloc (.cells #[] 324)) := fun n hn => by
            subst hn
            refine ⟨vis ++ [e], rfl, hI2.block (fun b hb => heap_alloc_old _ _ (by rw [hsz2]; exact Nat.lt_of_lt_of_le (hlt0 b hb) hB.size)) (heap_alloc_old _ _ (by omega)), ⟨hB2.alloc (by rw [hsz2]; exact hB.size) _, ?_, ?_, ?_, ?_, ?_⟩, ?_, ?_, ?_⟩
            · show _ < (w2.heap.push _).size; simp; omega
            · rw [cell_alloc1 (by omega)]; exact e0
            · rw [cell_alloc1 (by omega)]; exact e1
            · rw [cell_alloc1 (by omega)]; exact e2
            · rw [cell_alloc1 (by omega)]; exact e3
            · rw [cell_alloc1 (by omega)]; exact f0
            · rw [cell_alloc1 (by omega)]; exact f1
            · show _ < (w2.heap.push _).size; simp; omega
          have hmeas : es0.length - seenAt (w2.alloc (.cells #[] 324)) (wo.heap.size + 1) < es0.length - seenAt wr (wo.heap.size + 1) := by
            have hI3 := hI2.block (w' := w2.alloc (.cells #[] 324)) (fun b hb => heap_alloc_old _ _ (by rw [hsz2]; exact Nat.lt_of_lt_of_le (hlt0 b hb) hB.size)) (heap_alloc_old _ _ (by omega))
            rw [hI3.seen' he, hI.seen' he]
            simp
            omega
          clear hI2 hI c0 c1 c2 c3 d0 d1 hOnly
          rcases look_any Tryz.underlying167 Tryz.underlying22 zero324 hMb2 hk1 a with ⟨m, hm, hmk, hlook, _⟩ | ⟨hno, hlook, _⟩
          · rw [hu1 m hm] at hlook
            have hsn := key (0 + miss vis es1) (by rw [miss_snoc_in ⟨m, hm, hmk.trans ha.symm⟩])
            clear key
            go_wp2
            go_roundw
            case rel => first | exact hsn | (push_cast at hsn; simpa using hsn)
            case measure => exact hmeas
          · have hsn := key (0 + miss vis es1 + 1) (by rw [miss_snoc_out (fun m hm => by rw [ha]; exact hno m hm)]; omega)
            clear key
            go_wp2
            go_roundw
            case rel => first | exact hsn | (push_cast at hsn; simpa using hsn)
            case measure => exact hmeas
    · have hc : (c : Int) = (miss es0 es1 : Nat) := by rw [show c = _ from hsym]
      have hMa : MapAt (wo.alloc (.cells #[.map m1, .map m0] 168)) m1 es1 := hM1.block fun b hb => (heap_alloc_old _ _ (Nat.lt_of_lt_of_le (hlt1 b hb) hB.size)).trans (hB.block b (hlt1 b hb))
      obtain ⟨o, hrg, hI, hMa'⟩ := range_any (P := Tryz.prog) Tryz.underlying167 hMa
      have hs1 : (wo.alloc (.cells #[.map m1, .map m0] 168)).heap.size = wo.heap.size + 1 := by show (wo.heap.push _).size = _; simp
      rw [hs1] at hrg hI
      have hBo := hB.size
      have hRi : SymIn w m0 m1 m1 m0 es1 es0 wo.heap.size (miss es0 es1) (.int .i64 c) ((wo.alloc (.cells #[.map m1, .map m0] 168)).alloc o) := by
        refine ⟨[], by rw [hc]; simp [miss], hI, ⟨(hB.alloc hB.size _).alloc (by omega) _, ?_, ?_, ?_, ?_, ?_⟩, ?_, ?_, ?_⟩
        · show _ < ((wo.heap.push _).push _).size; simp; omega
        · rw [cell_alloc2 (by omega)]; exact c0
        · rw [cell_alloc2 (by omega)]; exact c1
        · rw [cell_alloc2 (by omega)]; exact c2
        · rw [cell_alloc2 (by omega)]; exact c3
        · have hb : ((wo.alloc (.cells #[.map m1, .map m0] 168)).alloc o).heap[wo.heap.size]? = some (.cells #[.map m1, .map m0] 168) := (heap_alloc_old _ _ (by omega)).trans (heap_alloc_new _ _)
          rw [cell_of hb]; rfl
        · have hb : ((wo.alloc (.cells #[.map m1, .map m0] 168)).alloc o).heap[wo.heap.size]? = some (.cells #[.map m1, .map m0] 168) := (heap_alloc_old _ _ (by omega)).trans (heap_alloc_new _ _)
          rw [cell_of hb]; rfl
        · show _ < ((wo.heap.push _).push _).size; simp
      have hrlt : ∀ b, m1 = some b → b ≠ wo.heap.size + 1 := fun b hb => by have := hlt1 b hb; omega
      clear hI hMa hMa' hs1
      go_wp2
      clear hrg
      go_loopw [5] (fun n wq => SymIn w m0 m1 m1 m0 es1 es0 wo.heap.size (miss es0 es1) n wq) (fun n wq => es1.length - seenAt wq (wo.heap.size + 1))
      case atStart => exact hRi
      case round =>
        clear hRi hB c0 c1 c2 c3 holt hc hsym
        obtain ⟨vis, rfl, hI, ⟨hB, holt, c0, c1, c2, c3⟩, d0, d1, hRlt⟩ := hrel
        rcases next_any (P := Tryz.prog) 0 hI hrlt with ⟨hperm, hnext⟩ | ⟨e, w2, he, hev, hlt2, hnext, hentry, hOnly, hI2⟩
        · go_wp2
          go_roundw
          case rel => exact ⟨2, miss es0 es1 + miss es1 es0, rfl, by omega, by rw [miss_perm hperm], by simp [symN], ⟨hB, holt, c0, c1, c2, c3⟩⟩
          case measure => simp [intOf]
        · obtain ⟨a, ha⟩ := hk1 e he
          rw [ha] at hnext hentry
          have hB2 : Below w.heap.size w w2 := hB.trans (hOnly.below (by omega) hB.size)
          have hMb2 : MapAt w2 m0 es0 := hM0.block fun b hb => hB2.block b (hlt0 b hb)
          have hmle := miss_le (a := vis) (b := es0)
          have hble : miss es0 es1 ≤ 1000 := by first | omega | exact Nat.le_trans miss_le hl0
          have hsz2 := hOnly.size
          have e0 : w2.cell? ⟨w.heap.size, 0, none⟩ = some (.map m0) := by rw [cell_only hOnly (by omega)]; exact c0
          have e1 : w2.cell? ⟨w.heap.size, 1, none⟩ = some (.map m1) := by rw [cell_only hOnly (by omega)]; exact c1
          have e2 : w2.cell? ⟨w.heap.size, 2, none⟩ = some (.map m1) := by rw [cell_only hOnly (by omega)]; exact c2
          have e3 : w2.cell? ⟨w.heap.size, 3, none⟩ = some (.map m0) := by rw [cell_only hOnly (by omega)]; exact c3
          have f0 : w2.cell? ⟨wo.heap.size, 0, none⟩ = some (.map m1) := by rw [cell_only hOnly (by omega)]; exact d0
          have f1 : w2.cell? ⟨wo.heap.size, 1, none⟩ = some (.map m0) := by rw [cell_only hOnly (by omega)]; exact d1
          have key : ∀ n : Nat, n = miss es0 es1 + miss (vis ++ [e]) es0 → SymIn w m0 m1 m1 m0 es1 es0 wo.heap.size (miss es0 es1) (.int .i64 n) (w2.alloc (.cells #[] 324)) := fun n hn => by
            subst hn
            refine ⟨vis ++ [e], rfl, hI2.block (fun b hb => heap_alloc_old _ _ (by rw [hsz2]; exact Nat.lt_of_lt_of_le (hlt1 b hb) hB.size)) (heap_alloc_old _ _ (by omega)), ⟨hB2.alloc (by rw [hsz2]; exact hB.size) _, ?_, ?_, ?_, ?_, ?_⟩, ?_, ?_, ?_⟩
            · show _ < (w2.heap.push _).size; simp; omega
            · rw [cell_alloc1 (by omega)]; exact e0
            · rw [cell_alloc1 (by omega)]; exact e1
            · rw [cell_alloc1 (by omega)]; exact e2
            · rw [cell_alloc1 (by omega)]; exact e3
            · rw [cell_alloc1 (by omega)]; exact f0
            · rw [cell_alloc1 (by omega)]; exact f1
            · show _ < (w2.heap.push _).size; simp; omega
          have hmeas : es1.length - seenAt (w2.alloc (.cells #[] 324)) (wo.heap.size + 1) < es1.length - seenAt wr (wo.heap.size + 1) := by
            have hI3 := hI2.block (w' := w2.alloc (.cells #[] 324)) (fun b hb => heap_alloc_old _ _ (by rw [hsz2]; exact Nat.lt_of_lt_of_le (hlt1 b hb) hB.size)) (heap_alloc_old _ _ (by omega))
            rw [hI3.seen' he, hI.seen' he]
            simp
            omega
          clear hI2 hI c0 c1 c2 c3 d0 d1 hOnly
          rcases look_any Tryz.underlying167 Tryz.underlying22 zero324 hMb2 hk0 a with ⟨m, hm, hmk, hlook, _⟩ | ⟨hno, hlook, _⟩
          · rw [hu0 m hm] at hlook
            have hsn := key (miss es0 es1 + miss vis es0) (by rw [miss_snoc_in ⟨m, hm, hmk.trans ha.symm⟩])
            clear key
            go_wp2
            go_roundw
            case rel => first | exact hsn | (push_cast at hsn; simpa using hsn)
            case measure => exact hmeas
          · have hsn := key (miss es0 es1 + miss vis es0 + 1) (by rw [miss_snoc_out (fun m hm => by rw [ha]; exact hno m hm)]; omega)
            clear key
            go_wp2
            go_roundw
            case rel => first | exact hsn | (push_cast at hsn; simpa using hsn)
            case measure => exact hmeas
    · go_wp2
      go_ret
      exact ⟨by rw [show c = _ from hsym]; rfl, hB⟩
end Go.Proofs
/-
  Changer.checkAndCopy: the configuration by its own Clone, the progress map by a loop.
-/
namespace Go.Proofs
open Go.RowKit
set_option linter.unusedVariables false
/-- a Progress: its block holds nine cells -/
def PrAt (w : World) (v : Value) (xs : Array Value) : Prop := ∃ b, v = .pointer (some ⟨b, 0, none⟩) ∧ w.heap[b]? = some (.cells xs 310 (0, 0)) ∧
  ∃ (a0 a1 a2 a3 a4 : Int) (b5 b6 b8 : Bool) (p7 : Option Addr), xs = #[.int .u64 a0, .int .u64 a1, .int .u64 a2, .int .u64 a3, .int .u64 a4, .bool b5, .bool b6, .pointer p7, .bool b8]
def cfgCells (n0 n1 : Option Nat) (b : Bool) (n3 n4 : Option Nat) : Array Value := #[.map n0, .map n1, .bool b, .map n3, .map n4]
/-- the copies -/
def ptrKvs (f : Nat → Nat) (vis : List MapEntry) : List (Value × Value) := vis.map fun m => (m.key, .pointer (some ⟨f m.born, 0, none⟩))
structure Copied (w3 : World) (lo mo : Nat) (vis : List MapEntry) (f : Nat → Nat) (wr : World) : Prop where
  own : OwnM wr mo (ptrKvs f vis)
  below : Below w3.heap.size w3 wr
  copy : ∀ m ∈ vis, ∀ xs, PrAt w3 m.val xs → wr.heap[f m.born]? = some (.cells xs 310 (0, 0))
  hi : ∀ m ∈ vis, lo < f m.born ∧ f m.born < wr.heap.size
  inj : ∀ m ∈ vis, ∀ m' ∈ vis, f m.born = f m'.born → m.born = m'.born
theorem Copied.block {w3 wr w' : World} {lo mo : Nat} {vis : List MapEntry} {f : Nat → Nat} (h : Copied w3 lo mo vis f wr) (hB : Below w3.heap.size w3 w') (hs : wr.heap.size ≤ w'.heap.size) (hm : w'.heap[mo]? = wr.heap[mo]?) (hk : ∀ k, lo < k → k < wr.heap.size → w'.heap[k]? = wr.heap[k]?) : Copied w3 lo mo vis f w' :=
  ⟨h.own.block hm, hB, fun m hm xs hx => by obtain ⟨h1, h2⟩ := h.hi m hm; rw [hk _ h1 h2]; exact h.copy m hm xs hx, fun m hm => ⟨(h.hi m hm).1, Nat.lt_of_lt_of_le (h.hi m hm).2 hs⟩, h.inj⟩
/-- ahead of the last call -/
def CopyEnd (w3 : World) (rb : Nat) (es : List MapEntry) (w9 : World) : Prop := ∃ vis f, vis.Perm es ∧ Copied w3 (w3.heap.size + 2) (w3.heap.size + 1) vis f w9
def CopyLoop (w3 : World) (R : Nat) (m5 : Option Nat) (es : List MapEntry) (d0 d1 : Option Nat) (d2 : Bool) (d3 d4 : Option Nat) (wr : World) : Prop :=
  ∃ vis f, IterAt wr R m5 es vis ∧ Copied w3 R (w3.heap.size + 1) vis f wr ∧ wr.heap[w3.heap.size]? = some (.cells #[.map d0, .map d1, .bool d2, .map d3, .map d4] 171 (0, 0)) ∧ R < wr.heap.size
set_option maxRecDepth 100000 in
set_option maxHeartbeats 3200000 in
theorem copy_any (c0 c1 c2 c3 c4 c5 c6 c7 c8 c9 : Value) (R3 : Option Nat → Option Nat → Bool → Option Nat → Option Nat → World → Prop) (R9 : Value → Value → Value → World → Prop) (w : World)
    (H271 : Calls Tryz.prog 271 #[.pointer (some ⟨w.heap.size, 0, none⟩)] ((w.alloc (.cells #[c0, c1, c2, c3, c4, c5, c6, c7, c8, c9] 242)).alloc (.cells #[.map none, .map none, .bool false, .map none, .map none] 171)) fun e w3 => ∃ d0 d1 d2 d3 d4, e = .returned (.agg #[.map d0, .map d1, .bool d2, .map d3, .map d4]) ∧ R3 d0 d1 d2 d3 d4 w3)
    (H3 : ∀ d0 d1 d2 d3 d4 w3, R3 d0 d1 d2 d3 d4 w3 → w.heap.size + 2 ≤ w3.heap.size ∧ ∃ m5 es, w3.cell? ⟨w.heap.size, 5, none⟩ = some (.map m5) ∧ MapAt w3 m5 es ∧ U64s es ∧ (es.map (·.key)).Nodup ∧ (∀ m ∈ es, ∃ xs, PrAt w3 m.val xs) ∧
      ∀ w9, CopyEnd w3 (w.heap.size + 1) es w9 → Calls Tryz.prog 180 #[.agg #[.map d0, .map d1, .bool d2, .map d3, .map d4], .map (some (w3.heap.size + 1))] w9 fun e wx => ∃ e0 e1 e2 e3 e4 y z, e = .returned (.tuple #[.agg #[.map e0, .map e1, .bool e2, .map e3, .map e4], y, z]) ∧ R9 (.agg #[.map e0, .map e1, .bool e2, .map e3, .map e4]) y z wx ∧
        ∃ f0 f1 f2 f3 f4, wx.heap[w.heap.size + 1]? = some (.cells #[.map f0, .map f1, .bool f2, .map f3, .map f4] 171 (0, 0))) :
    Calls Tryz.prog 173 #[.agg #[c0, c1, c2, c3, c4, c5, c6, c7, c8, c9]] w fun e wx => ∃ x y z w9, e = .returned (.tuple #[x, y, z]) ∧ R9 x y z w9 ∧ Only (w.heap.size + 1) w9 wx := by
  have hmk := @run_makeMap Tryz.prog
  go_enter Tryz.func173, Tryz.ntmps173
  go_wp2_with (first | (go_at_call 271; refine H271.mono ?_; rintro e w3 ⟨d0, d1, d2, d3, d4, rfl, h3⟩
                        obtain ⟨hw3, m5, es, h5, hM, hk, hnd, hpr, H180⟩ := H3 _ _ _ _ _ _ h3
                        have g5 : ∀ x y, ((w3.alloc x).alloc y).cell? ⟨w.heap.size, 5, none⟩ = some (.map m5) := fun x y => by rw [cell_alloc2 (by omega)]; exact h5
                        have hlt5 : ∀ b, m5 = some b → b < w3.heap.size := fun b hb => by subst hb; obtain ⟨_, _, h, _⟩ := hM; exact (Array.getElem?_eq_some_iff.1 h).1
                        have hsz1 : ∀ x : Obj, (w3.alloc x).heap.size = w3.heap.size + 1 := fun x => by show (w3.heap.push _).size = _; simp
                        have hsz2 : ∀ x y : Obj, ((w3.alloc x).alloc y).heap.size = w3.heap.size + 2 := fun x y => by show ((w3.heap.push _).push _).size = _; simp
                        have hM2 : MapAt ((w3.alloc (.cells #[.map d0, .map d1, .bool d2, .map d3, .map d4] 171)).alloc (.map #[] 0)) m5 es := hM.block fun b hb => (heap_alloc_old _ _ (by have := hlt5 b hb; rw [hsz1]; omega)).trans (heap_alloc_old _ _ (hlt5 b hb))
                        obtain ⟨o, hrg, hI, hM2'⟩ := range_any (P := Tryz.prog) Tryz.underlying173 hM2
                        rw [hsz2] at hrg hI
                        clear H271 H3 hM2 hM2' hsz2 hsz1))
  have hR : CopyLoop w3 (w3.heap.size + 2) m5 es d0 d1 d2 d3 d4 (((w3.alloc (.cells #[.map d0, .map d1, .bool d2, .map d3, .map d4] 171)).alloc (.map #[] 0)).alloc o) := by
    have hsz1 : ∀ x : Obj, (w3.alloc x).heap.size = w3.heap.size + 1 := fun x => by show (w3.heap.push _).size = _; simp
    have hsz2 : ∀ x y : Obj, ((w3.alloc x).alloc y).heap.size = w3.heap.size + 2 := fun x y => by show ((w3.heap.push _).push _).size = _; simp
    refine ⟨[], fun _ => 0, hI, ⟨?_, (((Below.refl _ _).alloc (Nat.le_refl _) _).alloc (by rw [hsz1]; omega) _).alloc (by rw [hsz2]; omega) _, by simp, by simp, by simp⟩, ?_, ?_⟩
    · have hO := OwnM.made (w3.alloc (.cells #[.map d0, .map d1, .bool d2, .map d3, .map d4] 171))
      rw [hsz1] at hO
      exact hO.block (heap_alloc_old _ _ (by rw [hsz2]; omega))
    · refine (heap_alloc_old _ _ (by rw [hsz2]; omega)).trans ((heap_alloc_old _ _ (by rw [hsz1]; omega)).trans (heap_alloc_new _ _))
    · show _ < (((w3.heap.push _).push _).push _).size; simp
  clear hI hrg g5 hmk
  go_loopw [7] (fun u wr => CopyLoop w3 (w3.heap.size + 2) m5 es d0 d1 d2 d3 d4 wr) (fun u wr => es.length - seenAt wr (w3.heap.size + 2))
  case atStart => exact hR
  case round =>
    clear hR
    obtain ⟨vis, f, hI, hC, hd, hRlt⟩ := hrel
    have hB := hC.below
    have hBs := hB.size
    rcases next_any (P := Tryz.prog) 0 hI (fun b hb => by have := hlt5 b hb; omega) with ⟨hperm, hnext⟩ | ⟨e, w2, he, hev, hlt2, hnext, hentry, hOnly, hI2⟩
    · have e0 : wr.cell? ⟨w3.heap.size, 0, none⟩ = some (.map d0) := by rw [cell_of hd]; rfl
      have e1 : wr.cell? ⟨w3.heap.size, 1, none⟩ = some (.map d1) := by rw [cell_of hd]; rfl
      have e2 : wr.cell? ⟨w3.heap.size, 2, none⟩ = some (.bool d2) := by rw [cell_of hd]; rfl
      have e3 : wr.cell? ⟨w3.heap.size, 3, none⟩ = some (.map d3) := by rw [cell_of hd]; rfl
      have e4 : wr.cell? ⟨w3.heap.size, 4, none⟩ = some (.map d4) := by rw [cell_of hd]; rfl
      have H := H180 wr ⟨vis, f, hperm, hC⟩
      clear H180 hC hI
      go_wp2_with (first | (go_at_call 180; refine H.mono ?_; rintro e w9 ⟨x0, x1, x2, x3, x4, y, z, rfl, h9, f0, f1, f2, f3, f4, hrb⟩
                            have q0 : w9.cell? ⟨w.heap.size + 1, 0, none⟩ = some (.map f0) := by rw [cell_of hrb]; rfl
                            have q1 : w9.cell? ⟨w.heap.size + 1, 1, none⟩ = some (.map f1) := by rw [cell_of hrb]; rfl
                            have q2 : w9.cell? ⟨w.heap.size + 1, 2, none⟩ = some (.bool f2) := by rw [cell_of hrb]; rfl
                            have q3 : w9.cell? ⟨w.heap.size + 1, 3, none⟩ = some (.map f3) := by rw [cell_of hrb]; rfl
                            have q4 : w9.cell? ⟨w.heap.size + 1, 4, none⟩ = some (.map f4) := by rw [cell_of hrb]; rfl
                            have hz0 : w9.frozen? ⟨w.heap.size + 1, 0, none⟩ = false := by simp [World.frozen?, hrb]
                            have hz1 : w9.frozen? ⟨w.heap.size + 1, 1, none⟩ = false := by simp [World.frozen?, hrb]
                            have hz2 : w9.frozen? ⟨w.heap.size + 1, 2, none⟩ = false := by simp [World.frozen?, hrb]
                            have hz3 : w9.frozen? ⟨w.heap.size + 1, 3, none⟩ = false := by simp [World.frozen?, hrb]
                            have hz4 : w9.frozen? ⟨w.heap.size + 1, 4, none⟩ = false := by simp [World.frozen?, hrb]))
      refine bodyPost_ret (v := .tuple #[.agg #[.map x0, .map x1, .bool x2, .map x3, .map x4], y, z]) ?_ rfl ⟨_, _, _, w9, rfl, h9, ((((Only.set _ _ _).trans (Only.set _ _ _)).trans (Only.set _ _ _)).trans (Only.set _ _ _)).trans (Only.set _ _ _)⟩
      simp [results, Tryz.results173, go_sem, q0, q1, q2, q3, q4]
    · obtain ⟨a, ha⟩ := hk e he
      obtain ⟨xs, b, hval, hb, a0, a1, a2, a3, a4, b5, b6, b8, p7, hxs⟩ := hpr e he
      have hblt : b < w3.heap.size := (Array.getElem?_eq_some_iff.1 hb).1
      rw [ha, hval] at hnext hentry
      have hsz := hOnly.size
      have hb2 : w2.heap[b]? = some (.cells xs 310 (0, 0)) := (hOnly.block b (by omega)).trans ((hB.block b hblt).trans hb)
      have hB2 : Below w3.heap.size w3 w2 := hB.trans (hOnly.below (by omega) hBs)
      have hC2 : Copied w3 (w3.heap.size + 2) (w3.heap.size + 1) vis f w2 := hC.block hB2 (by omega) (hOnly.block _ (by omega)) (fun k h1 h2 => hOnly.block k (by omega))
      have hC3 : Copied w3 (w3.heap.size + 2) (w3.heap.size + 1) vis f (w2.alloc (.cells xs 310)) := hC2.block (hB2.alloc hB2.size _) (by show _ ≤ (w2.heap.push _).size; simp) (heap_alloc_old _ _ (by omega)) (fun k h1 h2 => heap_alloc_old _ _ h2)
      have hnew : ∀ p ∈ ptrKvs f vis, ∃ a', p.1 = .int .u64 a' ∧ a' ≠ a := fun p hp => by
        obtain ⟨m, hm, rfl⟩ := List.mem_map.1 hp
        exact fresh_key hk hnd hI he hev ha m hm
      obtain ⟨w4, hput, hO4, hOnly4⟩ := OwnM.put Tryz.underlying173 Tryz.underlying22 hC3.own hnew (.pointer (some ⟨w2.heap.size, 0, none⟩))
      have hsz3 : (w2.alloc (.cells xs 310)).heap.size = w2.heap.size + 1 := by show (w2.heap.push _).size = _; simp
      have hsz4 := hOnly4.size
      have hnb : ∀ m ∈ vis, m.born ≠ e.born := fun m hm h => hev (hI.born_inj hm he h ▸ hm)
      obtain ⟨f', hfe, hfn⟩ : ∃ f' : Nat → Nat, f' e.born = w2.heap.size ∧ ∀ n, n ≠ e.born → f' n = f n := ⟨fun n => if n = e.born then w2.heap.size else f n, if_pos rfl, fun n h => if_neg h⟩
      have hfv : ∀ m ∈ vis, f' m.born = f m.born := fun m hm => hfn _ (hnb m hm)
      have hI4 : IterAt w4 (w3.heap.size + 2) m5 es (vis ++ [e]) := hI2.block (fun b' hb' => by
          have := hlt5 b' hb'
          exact (hOnly4.block _ (by omega)).trans (heap_alloc_old _ _ (by omega))) ((hOnly4.block _ (by omega)).trans (heap_alloc_old _ _ (by omega)))
      have hRel : CopyLoop w3 (w3.heap.size + 2) m5 es d0 d1 d2 d3 d4 w4 := by
        refine ⟨vis ++ [e], f', hI4, ⟨?_, ?_, ?_, ?_, ?_⟩, ?_, by omega⟩
        · have : ptrKvs f' (vis ++ [e]) = ptrKvs f vis ++ [(.int .u64 a, .pointer (some ⟨w2.heap.size, 0, none⟩))] := by
            simp only [ptrKvs, List.map_append, List.map_cons, List.map_nil, ha, hfe]
            congr 1
            exact List.map_congr_left fun m hm => by rw [hfv m hm]
          rw [this]
          exact hO4
        · exact (hB2.alloc hB2.size _).trans (hOnly4.below (by omega) (by omega))
        · intro m hm ys hy
          rcases List.mem_append.1 hm with hm | hm
          · rw [hfv m hm]
            obtain ⟨h1, h2⟩ := hC2.hi m hm
            rw [hOnly4.block _ (by omega)]
            exact hC3.copy m hm ys hy
          · simp at hm
            subst hm
            rw [hfe, hOnly4.block _ (by omega)]
            obtain ⟨b', hv', hb', _⟩ := hy
            rw [hval] at hv'
            cases hv'
            rw [hb] at hb'
            cases hb'
            exact heap_alloc_new _ _
        · intro m hm
          rcases List.mem_append.1 hm with hm | hm
          · rw [hfv m hm]
            obtain ⟨h1, h2⟩ := hC2.hi m hm
            omega
          · simp at hm
            subst hm
            rw [hfe]
            omega
        · intro m hm m' hm' heq
          rcases List.mem_append.1 hm with hm | hm <;> rcases List.mem_append.1 hm' with hm' | hm'
          · rw [hfv m hm, hfv m' hm'] at heq
            exact hC2.inj m hm m' hm' heq
          · have hm2 : m' = e := by simpa using hm'
            rw [hfv m hm, hm2, hfe] at heq
            have := (hC2.hi m hm).2
            omega
          · have hm2 : m = e := by simpa using hm
            rw [hfv m' hm', hm2, hfe] at heq
            have := (hC2.hi m' hm').2
            omega
          · simp at hm hm'
            rw [hm, hm']
        · rw [hOnly4.block _ (by omega)]
          exact (heap_alloc_old _ _ (by omega)).trans ((hOnly.block _ (by omega)).trans hd)
      have hmeas : es.length - seenAt w4 (w3.heap.size + 2) < es.length - seenAt wr (w3.heap.size + 2) := by
        rw [hI4.seen' he, hI.seen' he]
        simp
        omega
      have g0 : w2.cell? ⟨b, 0, none⟩ = some (.int .u64 a0) := by rw [cell_of hb2, hxs]; rfl
      have g1 : w2.cell? ⟨b, 1, none⟩ = some (.int .u64 a1) := by rw [cell_of hb2, hxs]; rfl
      have g2 : w2.cell? ⟨b, 2, none⟩ = some (.int .u64 a2) := by rw [cell_of hb2, hxs]; rfl
      have g3 : w2.cell? ⟨b, 3, none⟩ = some (.int .u64 a3) := by rw [cell_of hb2, hxs]; rfl
      have g4 : w2.cell? ⟨b, 4, none⟩ = some (.int .u64 a4) := by rw [cell_of hb2, hxs]; rfl
      have g5 : w2.cell? ⟨b, 5, none⟩ = some (.bool b5) := by rw [cell_of hb2, hxs]; rfl
      have g6 : w2.cell? ⟨b, 6, none⟩ = some (.bool b6) := by rw [cell_of hb2, hxs]; rfl
      have g7 : w2.cell? ⟨b, 7, none⟩ = some (.pointer p7) := by rw [cell_of hb2, hxs]; rfl
      have g8 : w2.cell? ⟨b, 8, none⟩ = some (.bool b8) := by rw [cell_of hb2, hxs]; rfl
      rw [hxs] at hput
      clear hC hC2 hC3 hI hI2 hI4 hO4 hOnly4 hOnly hd hB hB2 hnew hnb hfv hfe H180 hsz hsz3 hsz4 hb2
      go_wp2
      go_roundw
      case rel => exact hRel
      case measure => exact hmeas
end Go.Proofs
