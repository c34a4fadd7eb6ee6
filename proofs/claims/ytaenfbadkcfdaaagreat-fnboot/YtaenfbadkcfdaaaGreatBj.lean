/-
  checkInvariants, of a configuration without learners and without a second half.
-/
import Derived.Test.YtaenfbadkcfdaaaGreatBg
import Derived.Deep.RegionHeld3
namespace Go.Proofs
open Go.RowKit
set_option linter.unusedVariables false
/-- what is known behind the first region -/
structure InvMem (w : World) (v0 v1 : Value) (es : List MapEntry) (wr : World) : Prop where
  below : Below w.heap.size w wr
  lt : w.heap.size < wr.heap.size
  c0 : wr.cell? ⟨w.heap.size, 0, none⟩ = some v0
  c1 : wr.cell? ⟨w.heap.size, 1, none⟩ = some v1
  c2 : wr.cell? ⟨w.heap.size, 2, none⟩ = some (.bool false)
  c3 : wr.cell? ⟨w.heap.size, 3, none⟩ = some (.map none)
  c4 : wr.cell? ⟨w.heap.size, 4, none⟩ = some (.map none)
structure InvIn (w : World) (m0 : Option Nat) (es es1 : List MapEntry) (b q : Nat) (wr : World) : Prop where
  mem : InvMem w (.map m0) (.map none) es wr
  map : MapAt wr (some b) es1
  r0 : wr.cell? ⟨q, 0, none⟩ = some (.map (some b))
  r1 : wr.cell? ⟨q, 1, none⟩ = some (.map none)
  r2 : wr.cell? ⟨q, 2, none⟩ = some (.map none)
  lt : q < wr.heap.size
def IdsEndX (w : World) (v0 v1 : Value) (es : List MapEntry) (e : Ending) (w' : World) : Prop :=
  ∃ b vis, e = .returned (.map (some b)) ∧ w.heap.size < b ∧ InvMem w v0 v1 es w' ∧ vis.Perm es ∧ OwnM w' b (unitKvs vis)
theorem InvIn.of_block {w : World} {m0 : Option Nat} {es es1 : List MapEntry} {b q : Nat} {wr w' : World} (h : InvIn w m0 es es1 b q wr) (hB : Below w.heap.size w w') (hs : wr.heap.size ≤ w'.heap.size)
    (h1 : w'.heap[w.heap.size]? = wr.heap[w.heap.size]?) (h2 : w'.heap[b]? = wr.heap[b]?) (h3 : w'.heap[q]? = wr.heap[q]?) : InvIn w m0 es es1 b q w' := by
  have hc : ∀ k, w'.cell? ⟨w.heap.size, k, none⟩ = wr.cell? ⟨w.heap.size, k, none⟩ := fun k => by unfold World.cell?; rw [h1]
  have hq : ∀ k, w'.cell? ⟨q, k, none⟩ = wr.cell? ⟨q, k, none⟩ := fun k => by unfold World.cell?; rw [h3]
  obtain ⟨⟨a1, a2, a3, a4, a5, a6, a7⟩, b1, b2, b3, b4, b5⟩ := h
  exact ⟨⟨hB, Nat.lt_of_lt_of_le a2 hs, by rw [hc]; exact a3, by rw [hc]; exact a4, by rw [hc]; exact a5, by rw [hc]; exact a6, by rw [hc]; exact a7⟩, b1.block (fun b' e => by cases e; exact h2), by rw [hq]; exact b2, by rw [hq]; exact b3, by rw [hq]; exact b4, Nat.lt_of_lt_of_le b5 hs⟩
theorem InvIn.alloc {w : World} {m0 : Option Nat} {es es1 : List MapEntry} {b q : Nat} {wr : World} (h : InvIn w m0 es es1 b q wr) (hb : b < wr.heap.size) (hq : q < wr.heap.size) (o : Obj) : InvIn w m0 es es1 b q (wr.alloc o) :=
  h.of_block (h.mem.below.alloc h.mem.below.size _) (by show _ ≤ (wr.heap.push _).size; simp) (heap_alloc_old _ _ h.mem.lt) (heap_alloc_old _ _ hb) (heap_alloc_old _ _ hq)
theorem InvIn.only {w : World} {m0 : Option Nat} {es es1 : List MapEntry} {b q R : Nat} {wr w' : World} (h : InvIn w m0 es es1 b q wr) (hO : Only R wr w') (hb : b ≠ R) (hq : q ≠ R) (hw : w.heap.size ≠ R) (hR : w.heap.size ≤ R) : InvIn w m0 es es1 b q w' :=
  h.of_block (h.mem.below.trans (hO.below hR h.mem.below.size)) (by rw [hO.size]; exact Nat.le_refl _) (hO.block _ hw) (hO.block _ hb) (hO.block _ hq)
theorem len_none (w : World) : (Builtin.len_ #[167] 3 #[.map none]).run Tryz.prog w = .ok (.int .i64 0) w := by kernel_rfl
theorem neqM_none (w : World) : (binOp .neq 167 (.map none) (.map none)).run Tryz.prog w = .ok (.bool false) w := by kernel_rfl
theorem neqM_none2 (w : World) : (binOp .neq 166 (.map none) (.map none)).run Tryz.prog w = .ok (.bool false) w := by kernel_rfl
theorem zero305 (w : World) : (zeroValue 305).run Tryz.prog w = .ok (.pointer none) w := by kernel_rfl
set_option maxRecDepth 100000 in
set_option maxHeartbeats 1600000 in
theorem inv_any (m0 : Option Nat) (trk : Nat) (es tes : List MapEntry) (hk : U64s es) (hnd : (es.map (·.key)).Nodup) (w : World) (hM0 : MapAt w m0 es)  (hT : MapAt w (some trk) tes) (hTk : U64s tes)
    (hin : ∀ m ∈ es, ∃ t ∈ tes, t.key = m.key ) :
    Calls Tryz.prog 272 #[.agg #[.map m0, .map none, .bool false, .map none, .map none], .map (some trk)] w fun e w' => e = .returned .nilIface ∧ Below w.heap.size w w' := by
  have hlt0 : ∀ b, m0 = some b → b < w.heap.size := fun b hb => by subst hb; obtain ⟨_, _, h, _⟩ := hM0; exact (Array.getElem?_eq_some_iff.1 h).1
  have htlt : trk < w.heap.size := by obtain ⟨_, _, h, _⟩ := hT; exact (Array.getElem?_eq_some_iff.1 h).1
  go_enter Tryz.func272, Tryz.ntmps272
  go_wp2
  have hI0 : InvMem w (.map m0) (.map none) es (w.alloc (.cells #[.map m0, .map none, .bool false, .map none, .map none] 171)) := by
    have hb : (w.alloc (.cells #[.map m0, .map none, .bool false, .map none, .map none] 171)).heap[w.heap.size]? = some (.cells #[.map m0, .map none, .bool false, .map none, .map none] 171) := heap_alloc_new _ _
    exact ⟨(Below.refl _ _).alloc (Nat.le_refl _) _, by show _ < (w.heap.push _).size; simp, by rw [cell_of hb]; rfl, by rw [cell_of hb]; rfl, by rw [cell_of hb]; rfl, by rw [cell_of hb]; rfl, by rw [cell_of hb]; rfl⟩
  obtain ⟨W0, hW0⟩ : ∃ W0, W0 = (w.alloc (.cells #[.map m0, .map none, .bool false, .map none, .map none] 171)).drew := ⟨_, rfl⟩
  have hI1 : InvMem w (.map m0) (.map none) es W0 := by rw [hW0]; exact ⟨hI0.below.drew, hI0.lt, hI0.c0, hI0.c1, hI0.c2, hI0.c3, hI0.c4⟩
  have hkeep : ∀ w', Below W0.heap.size W0 w' → InvMem w (.map m0) (.map none) es w' := fun w' hB => by
    have hc : ∀ k, w'.cell? ⟨w.heap.size, k, none⟩ = W0.cell? ⟨w.heap.size, k, none⟩ := fun k => hB.cell (p := ⟨w.heap.size, k, none⟩) hI1.lt
    exact ⟨hI1.below.trans (hB.mono hI1.below.size), Nat.lt_of_lt_of_le hI1.lt hB.size, by rw [hc]; exact hI1.c0, by rw [hc]; exact hI1.c1, by rw [hc]; exact hI1.c2, by rw [hc]; exact hI1.c3, by rw [hc]; exact hI1.c4⟩
  have hcall := ids_any m0 none es hk hnd W0 (hM0.block fun b hb => hI1.below.block b (hlt0 b hb)) rfl
  rw [hW0] at hcall hkeep
  clear hW0 hI1
  go_region_held3 (fun wr => wr.cell? ⟨w.heap.size, 0, none⟩ = some (.map m0) ∧ wr.cell? ⟨w.heap.size, 1, none⟩ = some (.map none) ∧ wr.cell? ⟨w.heap.size, 2, none⟩ = some (.bool false) ∧ wr.cell? ⟨w.heap.size, 3, none⟩ = some (.map none) ∧ wr.cell? ⟨w.heap.size, 4, none⟩ = some (.map none))
    (first | exact ⟨hI0.c0, hI0.c1, hI0.c2, hI0.c3, hI0.c4⟩ | (have hK := hkeep _ (by assumption); exact ⟨hK.c0, hK.c1, hK.c2, hK.c3, hK.c4⟩) | go_keep)
    (first
      | (go_at_call 188; refine hcall.mono ?_; rintro e w' ⟨b, vis, rfl, hb, hB, hvp, hO⟩))
  obtain ⟨es1, hMb, hkv⟩ := hO
  have hkeys : ∀ m ∈ es1, ∃ m' ∈ es, m'.key = m.key := fun m hm => by
    have h1 : (m.key, m.val) ∈ unitKvs vis := by rw [← hkv]; exact List.mem_map_of_mem (f := fun m : MapEntry => (m.key, m.val)) hm
    obtain ⟨m', hm', e⟩ := List.mem_map.1 h1
    exact ⟨m', hvp.subset hm', congrArg Prod.fst e⟩
  have hk1 : U64s es1 := fun m hm => by obtain ⟨m', hm', e⟩ := hkeys m hm; rw [← e]; exact hk m' hm'
  have hin1 : ∀ m ∈ es1, ∃ t ∈ tes, t.key = m.key := fun m hm => by obtain ⟨m', hm', e⟩ := hkeys m hm; obtain ⟨t, ht, e'⟩ := hin m' hm'; exact ⟨t, ht, e'.trans e⟩
  have hK := hkeep _ hB
  have hbw : w.heap.size < b := Nat.lt_of_lt_of_le (by show _ < (w.heap.push _).size; simp) hb
  have hbq : b < w'.heap.size := by obtain ⟨_, _, h, _⟩ := hMb; exact (Array.getElem?_eq_some_iff.1 h).1
  have hR : InvIn w m0 es es1 b w'.heap.size (w'.alloc (.cells #[.map (some b), .map none, .map none] 166)) := by
    have hq : (w'.alloc (.cells #[.map (some b), .map none, .map none] 166)).heap[w'.heap.size]? = some (.cells #[.map (some b), .map none, .map none] 166) := heap_alloc_new _ _
    have hlt := hK.lt
    refine ⟨⟨hK.below.alloc hK.below.size _, ?_, ?_, ?_, ?_, ?_, ?_⟩, hMb.block fun b' e => by cases e; exact heap_alloc_old _ _ hbq, ?_, ?_, ?_, ?_⟩
    · show _ < (w'.heap.push _).size; simp; omega
    · rw [cell_alloc1 hlt]; exact hK.c0
    · rw [cell_alloc1 hlt]; exact hK.c1
    · rw [cell_alloc1 hlt]; exact hK.c2
    · rw [cell_alloc1 hlt]; exact hK.c3
    · rw [cell_alloc1 hlt]; exact hK.c4
    · rw [cell_of hq]; rfl
    · rw [cell_of hq]; rfl
    · rw [cell_of hq]; rfl
    · show _ < (w'.heap.push _).size; simp
  obtain ⟨q, hq⟩ : ∃ q, q = w'.heap.size := ⟨_, rfl⟩
  obtain ⟨W1, hW1⟩ : ∃ W1, W1 = w'.alloc (.cells #[.map (some b), .map none, .map none] 166) := ⟨_, rfl⟩
  rw [← hq, ← hW1] at hR ⊢
  rw [← hq] at hbq
  clear hI0 hcall hK hkeep hB hMb hkv hvp hkeys hb hq hW1
  go_wp2
  go_loopw [27] (fun i wr => ∃ k : Nat, i = .int .i64 k ∧ k ≤ 3 ∧ InvIn w m0 es es1 b q wr) (fun i wr => 3 - (intOf i).toNat)
  case atStart => exact ⟨0, rfl, by omega, hR⟩
  case round =>
    clear hR
    obtain ⟨k, rfl, hk3, hIn⟩ := hrel
    obtain ⟨wo, rfl⟩ : ∃ wo, wo = wr := ⟨_, rfl⟩
    have hB := hIn.mem.below
    have hlt := hIn.mem.lt
    have hqlt := hIn.lt
    have c0 := hIn.mem.c0
    have c1 := hIn.mem.c1
    have c2 := hIn.mem.c2
    have c3 := hIn.mem.c3
    have c4 := hIn.mem.c4
    have r0 := hIn.r0
    have r1 := hIn.r1
    have r2 := hIn.r2
    rcases (by omega : k = 0 ∨ k = 1 ∨ k = 2 ∨ k = 3) with rfl | rfl | rfl | rfl
    · obtain ⟨o, hrg, hI, hMb'⟩ := range_any (P := Tryz.prog) Tryz.underlying166 hIn.map
      obtain ⟨R, hRe⟩ : ∃ R, R = wo.heap.size := ⟨_, rfl⟩
      rw [← hRe] at hrg hI
      have hIn1 : InvIn w m0 es es1 b q (wo.alloc o) := hIn.alloc (by omega) (by omega) o
      have hRlt : R < (wo.alloc o).heap.size := by rw [hRe]; show _ < (wo.heap.push _).size; simp
      have hbR : b ≠ R := by omega
      have hqR : q < R := by omega
      clear hRe hMb'
      go_wp2
      clear hrg hIn c0 c1 c2 c3 c4 r0 r1 r2 hB hlt hqlt
      go_loopw [7] (fun u wq => ∃ vis, IterAt wq R (some b) es1 vis ∧ InvIn w m0 es es1 b q wq ∧ R < wq.heap.size) (fun u wq => es1.length - seenAt wq R)
      case atStart => exact ⟨[], hI, hIn1, hRlt⟩
      case round =>
        clear hI hIn1 hRlt
        obtain ⟨vis, hI, hIn, hRlt⟩ := hrel
        rcases next_any (P := Tryz.prog) 0 hI (fun b' e => by cases e; exact hbR) with ⟨hperm, hnext⟩ | ⟨e, w2, he, hev, hlt2, hnext, hentry, hOnly, hI2⟩
        · go_wp2
          go_roundw
          case rel => exact ⟨1, rfl, by omega, hIn⟩
          case measure => simp [intOf]
        · obtain ⟨a, ha⟩ := hk1 e he
          rw [ha] at hnext hentry
          have hIn2 : InvIn w m0 es es1 b q w2 := hIn.only hOnly hbR (by omega) (by omega) (by omega)
          have hT2 : MapAt w2 (some trk) tes := hT.block fun b' e => by cases e; exact hIn2.mem.below.block _ htlt
          rcases look_any Tryz.underlying173 Tryz.underlying22 zero305 hT2 hTk a with ⟨m, hm, hmk, hlook, _⟩ | ⟨hno, _⟩
          · have hm2 : es1.length - seenAt w2 R < es1.length - seenAt wr R := by
              rw [hI2.seen' he, hI.seen' he]
              simp
              omega
            have hR2 : R < w2.heap.size := by rw [hOnly.size]; exact hRlt
            have hnot : (Op.unary .not (.bool true)).run Tryz.prog w2 = .ok (.bool false) w2 := rfl
            clear hI hIn hOnly
            go_wp2
            go_roundw
            case rel => exact ⟨vis ++ [e], hI2, hIn2, hR2⟩
            case measure => exact hm2
          · obtain ⟨t, ht, hte⟩ := hin1 e he
            exact absurd (hte.trans ha) (hno t ht)
    · obtain ⟨o, hrg, hI, _⟩ := range_any (P := Tryz.prog) (w := wo) (bm := none) Tryz.underlying166 rfl
      obtain ⟨R, hRe⟩ : ∃ R, R = wo.heap.size := ⟨_, rfl⟩
      rw [← hRe] at hrg hI
      have hIn1 : InvIn w m0 es es1 b q (wo.alloc o) := hIn.alloc (by omega) (by omega) o
      clear hRe
      go_wp2
      clear hrg hIn c0 c1 c2 c3 c4 r0 r1 r2 hB hlt hqlt
      go_loopw [7] (fun u wq => IterAt wq R none [] [] ∧ InvIn w m0 es es1 b q wq) (fun u wq => 0)
      case atStart => exact ⟨hI, hIn1⟩
      case round =>
        clear hI hIn1
        obtain ⟨hI, hIn⟩ := hrel
        rcases next_any (P := Tryz.prog) 0 hI (fun b' e => by cases e) with ⟨hperm, hnext⟩ | ⟨e, w2, he, _⟩
        · go_wp2
          go_roundw
          case rel => exact ⟨2, rfl, by omega, hIn⟩
          case measure => simp [intOf]
        · simp at he
    · obtain ⟨o, hrg, hI, _⟩ := range_any (P := Tryz.prog) (w := wo) (bm := none) Tryz.underlying166 rfl
      obtain ⟨R, hRe⟩ : ∃ R, R = wo.heap.size := ⟨_, rfl⟩
      rw [← hRe] at hrg hI
      have hIn1 : InvIn w m0 es es1 b q (wo.alloc o) := hIn.alloc (by omega) (by omega) o
      clear hRe
      go_wp2
      clear hrg hIn c0 c1 c2 c3 c4 r0 r1 r2 hB hlt hqlt
      go_loopw [7] (fun u wq => IterAt wq R none [] [] ∧ InvIn w m0 es es1 b q wq) (fun u wq => 0)
      case atStart => exact ⟨hI, hIn1⟩
      case round =>
        clear hI hIn1
        obtain ⟨hI, hIn⟩ := hrel
        rcases next_any (P := Tryz.prog) 0 hI (fun b' e => by cases e) with ⟨hperm, hnext⟩ | ⟨e, w2, he, _⟩
        · go_wp2
          go_roundw
          case rel => exact ⟨3, rfl, by omega, hIn⟩
          case measure => simp [intOf]
        · simp at he
    · obtain ⟨o, hrg, hI, _⟩ := range_any (P := Tryz.prog) (w := wo) (bm := none) Tryz.underlying166 rfl
      obtain ⟨R, hRe⟩ : ∃ R, R = wo.heap.size := ⟨_, rfl⟩
      rw [← hRe] at hrg hI
      have hIn1 : InvIn w m0 es es1 b q (wo.alloc o) := hIn.alloc (by omega) (by omega) o
      clear hRe
      go_wp2
      clear hrg hIn c0 c1 c2 c3 c4 r0 r1 r2 hB hlt hqlt
      go_loopw [10] (fun u wq => IterAt wq R none [] [] ∧ InvIn w m0 es es1 b q wq) (fun u wq => 0)
      case atStart => exact ⟨hI, hIn1⟩
      case round =>
        clear hI hIn1
        obtain ⟨hI, hIn⟩ := hrel
        obtain ⟨wo2, rfl⟩ : ∃ wo, wo = wr := ⟨_, rfl⟩
        rcases next_any (P := Tryz.prog) 0 hI (fun b' e => by cases e) with ⟨hperm, hnext⟩ | ⟨e, w2, he, _⟩
        · have hlt := hIn.mem.lt
          have c3 := hIn.mem.c3
          have hqlt := hIn.lt
          obtain ⟨o2, hrg, hI2, _⟩ := range_any (P := Tryz.prog) (w := wo2) (bm := none) Tryz.underlying166 rfl
          obtain ⟨R2, hRe⟩ : ∃ R, R = wo2.heap.size := ⟨_, rfl⟩
          have hblt : b < wo2.heap.size := by obtain ⟨_, _, h, _⟩ := hIn.map; exact (Array.getElem?_eq_some_iff.1 h).1
          rw [← hRe] at hrg hI2
          have hIn2 : InvIn w m0 es es1 b q (wo2.alloc o2) := hIn.alloc hblt hqlt o2
          clear hRe
          go_wp2
          clear hrg hnext hIn c3 hlt hqlt hI
          go_loopw [13] (fun u wq => IterAt wq R2 none [] [] ∧ InvIn w m0 es es1 b q wq) (fun u wq => 0)
          case atStart => exact ⟨hI2, hIn2⟩
          case round =>
            clear hI2 hIn2
            obtain ⟨hI, hIn⟩ := hrel
            rcases next_any (P := Tryz.prog) 0 hI (fun b' e => by cases e) with ⟨hperm, hnext⟩ | ⟨e, w2, he, _⟩
            · have hlt := hIn.mem.lt
              have c0 := hIn.mem.c0
              have c1 := hIn.mem.c1
              have c2 := hIn.mem.c2
              have c3 := hIn.mem.c3
              have c4 := hIn.mem.c4
              have hln := len_none
              have hne := neqM_none
              have hne2 := neqM_none2
              have hnot : ∀ (x : Bool) (w : World), (Op.unary .not (.bool x)).run Tryz.prog w = .ok (.bool (!x)) w := fun _ _ => rfl
              have n0 : ¬ w.heap.size = wr.heap.size := by omega
              have n1 : ¬ w.heap.size = wr.heap.size + 1 := by omega
              have n2 : ¬ w.heap.size = wr.heap.size + 2 := by omega
              have n3 : ¬ w.heap.size = wr.heap.size + 1 + 1 := by omega
              have hBe : ∀ x y z, Below w.heap.size w (((wr.alloc x).alloc y).alloc z) := fun x y z => ((hIn.mem.below.alloc hIn.mem.below.size _).alloc (by show _ ≤ (wr.heap.push _).size; simp; omega) _).alloc (by show _ ≤ ((wr.heap.push _).push _).size; simp; omega) _
              have g4 : ∀ x y z, (((wr.alloc x).alloc y).alloc z).cell? ⟨w.heap.size, 4, none⟩ = some (.map none) := fun x y z => by
                rw [cell_alloc1 (by show _ < ((wr.heap.push _).push _).size; simp; omega), cell_alloc2 hlt]; exact c4
              have g2 : ∀ x y z, (((wr.alloc x).alloc y).alloc z).cell? ⟨w.heap.size, 2, none⟩ = some (.bool false) := fun x y z => by
                rw [cell_alloc1 (by show _ < ((wr.heap.push _).push _).size; simp; omega), cell_alloc2 hlt]; exact c2
              go_wp2
              go_ret
              exact ⟨rfl, hBe _ _ _⟩
            · simp at he
        · simp at he
end Go.Proofs
