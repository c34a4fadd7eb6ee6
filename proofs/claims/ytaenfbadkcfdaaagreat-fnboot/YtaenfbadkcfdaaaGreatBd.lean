/-
  A change is read back (ZzUnmarshal).
-/
import Derived.Test.YtaenfbadkcfdaaaGreatBc
import Derived.Handy
namespace Go.Proofs
open Go.RowKit
set_option linter.unusedVariables false
/-- what ZzUnmarshal leaves -/
def UnEnd (w : World) (p id : Nat) (e : Ending) (w' : World) : Prop :=
  ∃ a b xc, e = .returned .nilIface ∧ a ≠ b ∧ w.heap.size ≤ a ∧ w.heap.size ≤ b ∧ w'.heap[p]? = some (.cells #[.pointer (some ⟨a, 0, none⟩), .pointer (some ⟨b, 0, none⟩), xc, .pointer none] 93 (0, 0)) ∧ (∃ q n c, xc = .slice q n c) ∧
    w'.heap[a]? = some (.cells #[.int .i32 0] 89 (0, 0)) ∧ w'.heap[b]? = some (.cells #[.int .u64 id] 22 (0, 0)) ∧ w.grownBy w' (some p)
theorem heap_set_same {w : World} {p k : Nat} {cs : Array Value} {e : TypeId} {fz : Nat × Nat} {v : Value} (h : w.heap[p]? = some (.cells cs e fz)) : (w.setCell ⟨p, k, none⟩ v).heap[p]? = some (.cells (cs.setIfInBounds k v) e fz) := by
  unfold World.setCell
  simp only [Array.getElem?_modify, if_true, h]
  rfl
theorem heap_set_ne {w : World} {p k b : Nat} {v : Value} (h : b ≠ p) : (w.setCell ⟨p, k, none⟩ v).heap[b]? = w.heap[b]? := by
  unfold World.setCell
  simp only [Array.getElem?_modify]
  rw [if_neg (Ne.symm h)]
theorem heap_alloc_ne {w : World} {o : Obj} {b : Nat} (h : b ≠ w.heap.size) : (w.alloc o).heap[b]? = w.heap[b]? := by
  show (w.heap.push o)[b]? = _
  rw [Array.getElem?_push, if_neg h]
theorem heap_alloc_eq {w : World} {o : Obj} {b : Nat} (h : b = w.heap.size) : (w.alloc o).heap[b]? = some o := by
  show (w.heap.push o)[b]? = _
  rw [h]; simp
theorem FCs2 {w0 : World} {g0 id : Nat} {css : List Value} (h : FCs w0 g0 [.f2 0, .f3 id] css) : css = [.int .i64 2, .bool false, .int .u64 0, .slice none 0 0, .int .i64 3, .bool false, .int .u64 id, .slice none 0 0] := by
  obtain ⟨c0, r, rfl, h1, c1, r1, rfl, h2, h3⟩ := h
  rw [show c0 = _ from h1, show c1 = _ from h2, show r1 = _ from h3]; rfl
theorem FCs3 {w0 : World} {g0 id L : Nat} {tx : List Nat} {css : List Value} (hL : Hid (L = tx.length)) (h : FCs w0 g0 [.f2 0, .f3 id, .f4 tx] css) : ∃ to tc, css = [.int .i64 2, .bool false, .int .u64 0, .slice none 0 0, .int .i64 3, .bool false, .int .u64 id, .slice none 0 0, .int .i64 4, .bool true, .int .u64 L, .slice (some ⟨g0, to, none⟩) L tc] ∧ BytesAt w0 g0 to tx := by
  obtain ⟨c0, r, rfl, h1, c1, r1, rfl, h2, c2, r2, rfl, ⟨to, tc, h3, h4⟩, h5⟩ := h
  refine ⟨to, tc, ?_, h4⟩
  rw [show c0 = _ from h1, show c1 = _ from h2, h3, show r2 = _ from h5, hL.out]; rfl
theorem own_form {w : World} {base : Nat} {v : Value} {n : Nat} {xs : List Value} (h : w.ownsRow base 351 4 v n xs) (hn : 0 < n) : ∃ g cap, v = .slice (some ⟨g, 0, none⟩) n cap ∧ base ≤ g ∧ g < w.heap.size := by
  rcases h.2 with ⟨_, h0⟩ | ⟨g, cap, cur, hv, hb, hg, _⟩
  · omega
  · exact ⟨g, cap, hv, hb, by rcases Nat.lt_or_ge g w.heap.size with h' | h'; exact h'; simp [Array.getElem?_eq_none h'] at hg⟩
theorem own_cells {w : World} {base go n fc : Nat} {css : List Value} (h : w.ownsRow base 351 4 (.slice (some ⟨go, 0, none⟩) n fc) n css) : ∀ j u, css[j]? = some u → j < n * 4 → w.cell? ⟨go, j, none⟩ = some u := fun j u hj hlt => by
  rw [World.ownsRow.cellAt h j hlt]; exact hj
theorem blk_cells {w : World} {p : Nat} {cs : Array Value} {e : TypeId} (h : w.heap[p]? = some (.cells cs e (0, 0))) : (∀ k, w.cell? ⟨p, k, none⟩ = cs[k]?) ∧ ∀ k, w.frozen? ⟨p, k, none⟩ = false := by
  refine ⟨fun k => ?_, fun k => ?_⟩
  · unfold World.cell?; rw [h]; rfl
  · unfold World.frozen?; rw [h]; simp
set_option maxRecDepth 100000 in
set_option maxHeartbeats 4000000 in
theorem unmarshal2 (p g o cap id : Nat) (hid : id < 4398046511104) (w : World) (hp : p < w.heap.size) (hg : g < w.heap.size)
    (hpc : w.heap[p]? = some (.cells #[.pointer none, .pointer none, .slice none 0 0, .pointer none] 93 (0, 0))) (hcap : (changeB id []).length ≤ cap) (hb : BytesAt w g o (changeB id [])) :
    Calls Tryz.prog 130 #[.pointer (some ⟨p, 0, none⟩), .slice (some ⟨g, o, none⟩) (changeB id []).length cap] w (UnEnd w p id) := by
  have he : changeB id [] = encs [.f2 0, .f3 id] := by simp [changeB, encs, Fld.enc, vb0]
  rw [he] at hcap hb ⊢
  have hlen : (encs [Fld.f2 0, .f3 id]).length ≤ 1000 := by have := vb_len 5 id (Nat.lt_of_lt_of_le hid (by decide)); simp [encs, Fld.enc, vb0]; omega
  have hok : ∀ f ∈ [Fld.f2 0, .f3 id], f.ok := by intro f hf; simp at hf; rcases hf with rfl | rfl; exact (by show (0 : Nat) < _; decide); exact hid
  have hcall := fields_any g o cap [.f2 0, .f3 id] (by simp) hok hlen hcap w hg hb
  obtain ⟨N, hN⟩ : ∃ N, N = (encs [Fld.f2 0, .f3 id]).length := ⟨_, rfl⟩
  rw [← hN] at hcall ⊢
  clear hN hok hlen hb hcap he
  go_enter Tryz.func130, Tryz.ntmps130
  go_wp2_with fail
  ((with_reducible refine hcall.mono ?_); rintro e w1 ⟨ov, css, rfl, hown, HCs, hB⟩)
  obtain ⟨go, fc, rfl, hgo, hgl⟩ := own_form hown (by simp)
  have hcs := FCs2 HCs
  subst hcs
  have hcell := own_cells hown
  have f0 := hcell 0 _ rfl (by simp)
  have f1 := hcell 1 _ rfl (by simp)
  have f2 := hcell 2 _ rfl (by simp)
  have f3 := hcell 3 _ rfl (by simp)
  have f4 := hcell 4 _ rfl (by simp)
  have f5 := hcell 5 _ rfl (by simp)
  have f6 := hcell 6 _ rfl (by simp)
  have f7 := hcell 7 _ rfl (by simp)
  obtain ⟨hpc1, hpf1⟩ := blk_cells ((hB.block p hp).trans hpc)
  have p0 := hpc1 0
  have p1 := hpc1 1
  have p2 := hpc1 2
  have q0 := hpf1 0
  have q1 := hpf1 1
  have q2 := hpf1 2
  simp only [List.getElem?_toArray, List.getElem?_cons_zero, List.getElem?_cons_succ] at p0 p1 p2
  have hne1 : go ≠ p := by omega
  have hne2 : p ≠ go := by omega
  have hsz := hB.size
  have hpl : p < w1.heap.size := by omega
  have hA0 : p ≠ w1.heap.size := by omega
  have hB0 : p < w1.heap.size + 1 := by omega
  have hA1 : p ≠ w1.heap.size + 1 := by omega
  have hB1 : p < w1.heap.size + 1 + 1 := by omega
  have hA2 : p ≠ w1.heap.size + 1 + 1 := by omega
  have hB2 : p < w1.heap.size + 1 + 1 + 1 := by omega
  have hA3 : p ≠ w1.heap.size + 1 + 1 + 1 := by omega
  have hB3 : p < w1.heap.size + 1 + 1 + 1 + 1 := by omega
  have hA4 : p ≠ w1.heap.size + 1 + 1 + 1 + 1 := by omega
  have hB4 : p < w1.heap.size + 1 + 1 + 1 + 1 + 1 := by omega
  have hA5 : p ≠ w1.heap.size + 1 + 1 + 1 + 1 + 1 := by omega
  have hB5 : p < w1.heap.size + 1 + 1 + 1 + 1 + 1 + 1 := by omega
  clear hcell hpc1 hpf1 hown HCs hcall
  go_wp2
  go_rounds 3
  have hp1 : w1.heap[p]? = _ := (hB.block p hp).trans hpc
  have hend : ∀ W, W = ((((((w1.setCell { block := p, off := 0 } (Value.pointer (some { block := w1.heap.size + 1, off := 0 }))).setCell { block := p, off := 1 } (Value.pointer (some { block := w1.heap.size + 1 + 1 + 1, off := 0 }))).alloc
                  (Obj.cells #[Value.int IntKind.i64 2, Value.bool false, Value.int IntKind.u64 0, Value.slice none 0 0] 351)).alloc (Obj.cells #[Value.int IntKind.i32 0] 89)).alloc
          (Obj.cells #[Value.int IntKind.i64 3, Value.bool false, Value.int IntKind.u64 id, Value.slice none 0 0] 351)).alloc (Obj.cells #[Value.int IntKind.u64 id] 22)) → UnEnd w p id (.returned .nilIface) W := by
    rintro W rfl
    refine ⟨w1.heap.size + 1, w1.heap.size + 1 + 1 + 1, .slice none 0 0, rfl, by omega, by omega, by omega, ?_, ⟨_, _, _, rfl⟩, ?_, ?_, ?_⟩
    · rw [heap_alloc_ne (by simp; omega), heap_alloc_ne (by simp; omega), heap_alloc_ne (by simp; omega), heap_alloc_ne (by simp; omega), heap_set_same (heap_set_same hp1)]
      rfl
    · rw [heap_alloc_ne (by simp), heap_alloc_ne (by simp), heap_alloc_eq (by simp)]
    · rw [heap_alloc_eq (by simp)]
    · refine ⟨hB.os, hB.tape, hB.output, by simp; omega, fun k hk hne => ?_⟩
      have hkp : k ≠ p := fun e => hne (by rw [e])
      rw [heap_alloc_ne (by simp; omega), heap_alloc_ne (by simp; omega), heap_alloc_ne (by simp; omega), heap_alloc_ne (by simp; omega), heap_set_ne hkp, heap_set_ne hkp]
      exact hB.block k hk
  go_ret
  exact hend _ rfl
/-- the world behind two fields -/
def twoDone (w1 : World) (p id : Nat) : World := ((((((w1.setCell { block := p, off := 0 } (Value.pointer (some { block := w1.heap.size + 1, off := 0 }))).setCell { block := p, off := 1 } (Value.pointer (some { block := w1.heap.size + 1 + 1 + 1, off := 0 }))).alloc
                  (Obj.cells #[Value.int IntKind.i64 2, Value.bool false, Value.int IntKind.u64 0, Value.slice none 0 0] 351)).alloc (Obj.cells #[Value.int IntKind.i32 0] 89)).alloc
          (Obj.cells #[Value.int IntKind.i64 3, Value.bool false, Value.int IntKind.u64 id, Value.slice none 0 0] 351)).alloc (Obj.cells #[Value.int IntKind.u64 id] 22))
theorem twoDone_facts {w w1 W : World} {p id go : Nat} (hW : W = twoDone w1 p id) (hp : p < w.heap.size) (hB : Below w.heap.size w w1) (hpc : w.heap[p]? = some (.cells #[.pointer none, .pointer none, .slice none 0 0, .pointer none] 93 (0, 0)))
    (hgo : w.heap.size ≤ go) (hgl : go < w1.heap.size) :
    W.heap[p]? = some (.cells #[.pointer (some ⟨w1.heap.size + 1, 0, none⟩), .pointer (some ⟨w1.heap.size + 1 + 1 + 1, 0, none⟩), .slice none 0 0, .pointer none] 93 (0, 0)) ∧
    W.heap[w1.heap.size + 1]? = some (.cells #[.int .i32 0] 89 (0, 0)) ∧ W.heap[w1.heap.size + 1 + 1 + 1]? = some (.cells #[.int .u64 id] 22 (0, 0)) ∧ w.grownBy W (some p) ∧ W.heap.size = w1.heap.size + 4 ∧ (∀ j, W.cell? ⟨go, j, none⟩ = w1.cell? ⟨go, j, none⟩) := by
  subst hW
  have hp1 : w1.heap[p]? = _ := (hB.block p hp).trans hpc
  have hsz := hB.size
  unfold twoDone
  refine ⟨?_, ?_, ?_, ⟨hB.os, hB.tape, hB.output, by simp; omega, fun k hk hne => ?_⟩, by simp, fun j => ?_⟩
  · rw [heap_alloc_ne (by simp; omega), heap_alloc_ne (by simp; omega), heap_alloc_ne (by simp; omega), heap_alloc_ne (by simp; omega), heap_set_same (heap_set_same hp1)]
    rfl
  · rw [heap_alloc_ne (by simp), heap_alloc_ne (by simp), heap_alloc_eq (by simp)]
  · rw [heap_alloc_eq (by simp)]
  · have hkp : k ≠ p := fun e => hne (by rw [e])
    rw [heap_alloc_ne (by simp; omega), heap_alloc_ne (by simp; omega), heap_alloc_ne (by simp; omega), heap_alloc_ne (by simp; omega), heap_set_ne hkp, heap_set_ne hkp]
    exact hB.block k hk
  · apply World.cell?_of_block
    have hkp : go ≠ p := by omega
    rw [heap_alloc_ne (by simp; omega), heap_alloc_ne (by simp; omega), heap_alloc_ne (by simp; omega), heap_alloc_ne (by simp; omega), heap_set_ne hkp, heap_set_ne hkp]
theorem ownsRow_empty_at {w : World} {b base : Nat} (hb : b = w.heap.size) (hbase : base ≤ b) : (w.alloc (.cells #[] 5)).ownsRow base 5 1 (.slice (some ⟨b, 0, none⟩) 0 0) 0 [] := by
  subst hb
  refine ⟨rfl, .inr ⟨w.heap.size, 0, #[], rfl, hbase, ?_, Nat.le_refl _, Nat.zero_le _, rfl, rfl⟩⟩
  show (w.heap.push _)[_]? = _
  simp
theorem cell_old {W : World} {o1 o2 : Obj} {g k : Nat} (hg : g < W.heap.size) : ((W.alloc o1).alloc o2).cell? ⟨g, k, none⟩ = W.cell? ⟨g, k, none⟩ := by
  apply World.cell?_of_block
  show ((W.alloc o1).alloc o2).heap[g]? = W.heap[g]?
  rw [heap_alloc_ne (by simp; omega), heap_alloc_ne (by omega)]
theorem own_slice {w : World} {base e size n : Nat} {v : Value} {xs : List Value} (h : w.ownsRow base e size v n xs) : ∃ q m c, v = .slice q m c := by
  rcases h.2 with ⟨h0, _⟩ | ⟨g, cap, cur, hv, _⟩
  · exact ⟨_, _, _, h0⟩
  · exact ⟨_, _, _, hv⟩
theorem grown_old {W w3 : World} {o1 o2 : Obj} {row : Option Nat} (h : ((W.alloc o1).alloc o2).grownBy w3 row) (hr : ∀ k, row = some k → W.heap.size ≤ k) : ∀ k, k < W.heap.size → w3.heap[k]? = W.heap[k]? := fun k hk => by
  rw [h.block k (by simp; omega) (fun e => by have := hr k e.symm; omega), heap_alloc_ne (by simp; omega), heap_alloc_ne (by omega)]
/-- the third field's end -/
theorem three_done {w W2 w3 : World} {p id a b : Nat} {v' : Value} (hp : p < w.heap.size) (hw : w.heap.size ≤ W2.heap.size) (k0 : W2.heap[p]? = some (.cells #[.pointer (some ⟨a, 0, none⟩), .pointer (some ⟨b, 0, none⟩), .slice none 0 0, .pointer none] 93 (0, 0)))
    (k1 : W2.heap[a]? = some (.cells #[.int .i32 0] 89 (0, 0))) (k2 : W2.heap[b]? = some (.cells #[.int .u64 id] 22 (0, 0))) (k3 : w.grownBy W2 (some p)) (ha : w.heap.size ≤ a) (ha2 : a < W2.heap.size) (hb : w.heap.size ≤ b) (hb2 : b < W2.heap.size) (hab : a ≠ b)
    (hv : ∃ q n c, v' = .slice q n c) (hold : ∀ k, k < W2.heap.size → w3.heap[k]? = W2.heap[k]?) (hos : w3.os = W2.os) (ht : w3.tape = W2.tape) (ho : w3.output = W2.output) (hs : W2.heap.size ≤ w3.heap.size) :
    UnEnd w p id (.returned .nilIface) (w3.setCell ⟨p, 2, none⟩ v') := by
  refine ⟨a, b, v', rfl, hab, ha, hb, ?_, hv, ?_, ?_, ?_⟩
  · rw [heap_set_same ((hold p (by omega)).trans k0)]; rfl
  · rw [heap_set_ne (by omega), hold a ha2]; exact k1
  · rw [heap_set_ne (by omega), hold b hb2]; exact k2
  · refine ⟨hos.trans k3.os, ht.trans k3.tape, ho.trans k3.output, by simp; omega, fun k hk hne => ?_⟩
    have hkp : k ≠ p := fun e => hne (by rw [e])
    rw [heap_set_ne hkp, hold k (by omega)]
    exact k3.block k hk hne
theorem third_facts {w W2 w3 : World} {p id a b : Nat} {v' : Value} {o1 o2 : Obj} {row : Option Nat} {base e size n : Nat} {xs : List Value} (hgrow3 : ((W2.alloc o1).alloc o2).grownBy w3 row) (hrow : row = some (W2.heap.size + 1)) (hown' : w3.ownsRow base e size v' n xs)
    (hp : p < w.heap.size) (hw : w.heap.size ≤ W2.heap.size) (k0 : W2.heap[p]? = some (.cells #[.pointer (some ⟨a, 0, none⟩), .pointer (some ⟨b, 0, none⟩), .slice none 0 0, .pointer none] 93 (0, 0)))
    (k1 : W2.heap[a]? = some (.cells #[.int .i32 0] 89 (0, 0))) (k2 : W2.heap[b]? = some (.cells #[.int .u64 id] 22 (0, 0))) (k3 : w.grownBy W2 (some p)) (ha : w.heap.size ≤ a) (ha2 : a < W2.heap.size) (hb : w.heap.size ≤ b) (hb2 : b < W2.heap.size) (hab : a ≠ b) :
    w3.cell? ⟨p, 2, none⟩ = some (.slice none 0 0) ∧ w3.frozen? ⟨p, 2, none⟩ = false ∧ UnEnd w p id (.returned .nilIface) (w3.setCell ⟨p, 2, none⟩ v') := by
  have hold := grown_old hgrow3 (fun k hk => by rw [hrow] at hk; cases hk; omega)
  obtain ⟨c1, c2⟩ := blk_cells ((hold p (by omega)).trans k0)
  refine ⟨by rw [c1]; rfl, c2 2, three_done hp hw k0 k1 k2 k3 ha ha2 hb hb2 hab (own_slice hown') hold hgrow3.os hgrow3.tape hgrow3.output (by have := hgrow3.size; simp at this; omega)⟩
set_option maxRecDepth 100000 in
set_option maxHeartbeats 4000000 in
theorem unmarshal3 (p g o cap id : Nat) (tx : List Nat) (htx1 : 1 ≤ tx.length) (htx : tx.length ≤ 100) (hid : id < 4398046511104) (w : World) (hp : p < w.heap.size) (hg : g < w.heap.size)
    (hpc : w.heap[p]? = some (.cells #[.pointer none, .pointer none, .slice none 0 0, .pointer none] 93 (0, 0))) (hcap : (changeB id tx).length ≤ cap) (hb : BytesAt w g o (changeB id tx)) :
    Calls Tryz.prog 130 #[.pointer (some ⟨p, 0, none⟩), .slice (some ⟨g, o, none⟩) (changeB id tx).length cap] w (UnEnd w p id) := by
  have hne0 : tx ≠ [] := by intro e; rw [e] at htx1; simp at htx1
  have he : changeB id tx = encs [.f2 0, .f3 id, .f4 tx] := by simp [changeB, encs, Fld.enc, vb0, hne0]
  rw [he] at hcap hb ⊢
  have hlen : (encs [Fld.f2 0, .f3 id, .f4 tx]).length ≤ 1000 := by have := vb_len 5 id (Nat.lt_of_lt_of_le hid (by decide)); simp [encs, Fld.enc, vb0]; omega
  have hok : ∀ f ∈ [Fld.f2 0, .f3 id, .f4 tx], f.ok := by intro f hf; simp at hf; rcases hf with rfl | rfl | rfl; exact (by show (0 : Nat) < _; decide); exact hid; exact ⟨htx1, htx⟩
  have hcall := fields_any g o cap [.f2 0, .f3 id, .f4 tx] (by simp) hok hlen hcap w hg hb
  obtain ⟨N, hN⟩ : ∃ N, N = (encs [Fld.f2 0, .f3 id, .f4 tx]).length := ⟨_, rfl⟩
  rw [← hN] at hcall ⊢
  clear hN hok hlen hb hcap he hne0
  obtain ⟨i5, hi5, hz0, hz1, hz2⟩ := info_parts Tryz.info5
  obtain ⟨L, hL⟩ : ∃ L, L = tx.length := ⟨_, rfl⟩
  rw [← hL] at htx1 htx
  have HL : Hid (L = tx.length) := Lib.hid hL
  have HU : Hid ((u8s tx).length = L * 1) := Lib.hid (by rw [hL]; simp [u8s])
  have hq1 := neq_nil1
  clear hL
  go_enter Tryz.func130, Tryz.ntmps130
  go_wp2_with fail
  ((with_reducible refine hcall.mono ?_); rintro e w1 ⟨ov, css, rfl, hown, HCs, hB⟩)
  obtain ⟨go, fc, rfl, hgo, hgl⟩ := own_form hown (by simp)
  obtain ⟨to, tc, hcs, htext⟩ := FCs3 HL HCs
  subst hcs
  have hcell := own_cells hown
  have f0 := hcell 0 _ rfl (by simp)
  have f1 := hcell 1 _ rfl (by simp)
  have f2 := hcell 2 _ rfl (by simp)
  have f3 := hcell 3 _ rfl (by simp)
  have f4 := hcell 4 _ rfl (by simp)
  have f5 := hcell 5 _ rfl (by simp)
  have f6 := hcell 6 _ rfl (by simp)
  have f7 := hcell 7 _ rfl (by simp)
  have f8 := hcell 8 _ rfl (by simp)
  have f9 := hcell 9 _ rfl (by simp)
  have f10 := hcell 10 _ rfl (by simp)
  have f11 := hcell 11 _ rfl (by simp)
  obtain ⟨hpc1, hpf1⟩ := blk_cells ((hB.block p hp).trans hpc)
  have p0 := hpc1 0
  have p1 := hpc1 1
  have p2 := hpc1 2
  have q0 := hpf1 0
  have q1 := hpf1 1
  have q2 := hpf1 2
  simp only [List.getElem?_toArray, List.getElem?_cons_zero, List.getElem?_cons_succ] at p0 p1 p2
  have hne1 : go ≠ p := by omega
  have hne2 : p ≠ go := by omega
  have hsz := hB.size
  have hpl : p < w1.heap.size := by omega
  have hA0 : p ≠ w1.heap.size := by omega
  have hB0 : p < w1.heap.size + 1 := by omega
  have hA1 : p ≠ w1.heap.size + 1 := by omega
  have hB1 : p < w1.heap.size + 1 + 1 := by omega
  have hA2 : p ≠ w1.heap.size + 1 + 1 := by omega
  have hB2 : p < w1.heap.size + 1 + 1 + 1 := by omega
  have hA3 : p ≠ w1.heap.size + 1 + 1 + 1 := by omega
  have hB3 : p < w1.heap.size + 1 + 1 + 1 + 1 := by omega
  have hA4 : p ≠ w1.heap.size + 1 + 1 + 1 + 1 := by omega
  have hB4 : p < w1.heap.size + 1 + 1 + 1 + 1 + 1 := by omega
  have hA5 : p ≠ w1.heap.size + 1 + 1 + 1 + 1 + 1 := by omega
  have hB5 : p < w1.heap.size + 1 + 1 + 1 + 1 + 1 + 1 := by omega
  have hD0 : go < w1.heap.size + 1 := by omega
  have hC1 : go ≠ w1.heap.size + 1 := by omega
  have hD1 : go < w1.heap.size + 1 + 1 := by omega
  have hC2 : go ≠ w1.heap.size + 1 + 1 := by omega
  have hD2 : go < w1.heap.size + 1 + 1 + 1 := by omega
  have hC3 : go ≠ w1.heap.size + 1 + 1 + 1 := by omega
  have hD3 : go < w1.heap.size + 1 + 1 + 1 + 1 := by omega
  have hC4 : go ≠ w1.heap.size + 1 + 1 + 1 + 1 := by omega
  have hD4 : go < w1.heap.size + 1 + 1 + 1 + 1 + 1 := by omega
  have hC5 : go ≠ w1.heap.size + 1 + 1 + 1 + 1 + 1 := by omega
  have hD5 : go < w1.heap.size + 1 + 1 + 1 + 1 + 1 + 1 := by omega
  have hC6 : go ≠ w1.heap.size + 1 + 1 + 1 + 1 + 1 + 1 := by omega
  have hD6 : go < w1.heap.size + 1 + 1 + 1 + 1 + 1 + 1 + 1 := by omega
  clear hcell hpc1 hpf1 hown HCs hcall
  go_wp2
  refine wp_loop_rounds 4 ?_
  rw [rounds_succ]; go_wp2
  rw [rounds_succ]; go_wp2
  obtain ⟨W2, hW2⟩ : ∃ W2, W2 = twoDone w1 p id := ⟨_, rfl⟩
  have hWe := hW2
  unfold twoDone at hWe
  rw [← hWe]
  obtain ⟨k0, k1, k2, k3, k4, k5⟩ := twoDone_facts hW2 hp hB hpc hgo hgl
  have hgp : g ≠ p := by
    intro e
    subst e
    have h1 := htext.get (j := 0) (c := tx[0]'(by have := HL.out; omega)) (by simp)
    obtain ⟨h2, _⟩ := blk_cells hpc
    rw [h2] at h1
    match to with
    | 0 => simp at h1
    | 1 => simp at h1
    | 2 => simp at h1
    | 3 => simp at h1
    | n + 4 => simp at h1
  have htext2 : BytesAt W2 g to tx := fun j u hj => by
    rw [World.cell?_of_block (w := w) (k3.block g hg (by intro e; exact hgp (by simpa using e)))]
    exact htext j u hj
  have hs1 : w1.heap.size + 1 + 1 + 1 < W2.heap.size := by omega
  have hs2 : w.heap.size ≤ W2.heap.size := by omega
  rw [← k5 8] at f8
  rw [← k5 9] at f9
  rw [← k5 10] at f10
  rw [← k5 11] at f11
  obtain ⟨hpc2, hpf2⟩ := blk_cells k0
  have r2 := hpc2 2
  have s2 := hpf2 2
  simp only [List.getElem?_toArray, List.getElem?_cons_zero, List.getElem?_cons_succ] at r2
  have hgl2 : go < W2.heap.size := by omega
  have hab : w1.heap.size + 1 ≠ w1.heap.size + 1 + 1 + 1 := by omega
  have hale : w.heap.size ≤ w1.heap.size + 1 := by omega
  have halt : w1.heap.size + 1 < W2.heap.size := by omega
  have hble : w.heap.size ≤ w1.heap.size + 1 + 1 + 1 := by omega
  clear hWe hW2 k4 k5 f0 f1 f2 f3 f4 f5 f6 f7 p0 p1 p2 q0 q1 q2 hpc2 hpf2 hpc
  clear hA0 hB0 hA1 hB1 hA2 hB2 hA3 hB3 hA4 hB4 hA5 hB5 hD0 hC1 hD1 hC2 hD2 hC3 hD3 hC4 hD4 hC5 hD5 hC6 hD6
  generalize w1.heap.size + 1 + 1 + 1 = b at *
  generalize w1.heap.size + 1 = a at *
  have hA0 : p ≠ W2.heap.size := by omega
  have hA1 : p ≠ W2.heap.size + 1 := by omega
  have hB0 : p < W2.heap.size + 1 := by omega
  have hB1 : p < W2.heap.size + 1 + 1 := by omega
  have hC0 : go ≠ W2.heap.size := by omega
  have hC1 : go ≠ W2.heap.size + 1 := by omega
  have hD0 : go < W2.heap.size + 1 := by omega
  have hD1 : go < W2.heap.size + 1 + 1 := by omega
  have hg2 : g < W2.heap.size := by omega
  have hU := u8s_one tx
  have K0 := Lib.hid k0
  have K1 := Lib.hid k1
  have K2 := Lib.hid k2
  clear k0 k1 k2
  have htc : ∀ j u, (u8s tx)[j]? = some u → ∀ S E : Obj, ((W2.alloc S).alloc E).cell? ((⟨g, to, none⟩ : Addr).add j) = some u := fun j u hj S E => by
    rw [add_none, cell_old hg2]
    exact htext2 j u hj
  rw [rounds_succ]
  go_wp2_with (first
      | (at_builtin; refine wpList_append_own _ rfl (.tmp 78) (.tmp 80) 82 rfl (W2.heap.size + 1) 5 i5 (.int .u8 0) 1 1 Tryz.underlying82 hi5 hz0 hz1 hz2 rfl (by decide) _ _ _ rfl (ownsRow_empty_at (by simp) (Nat.le_refl _)) ⟨g, to, none⟩ L tc (u8s tx) rfl HU.out (fun j u hj => htc j u hj _ _) hU (by unfold maxLen; omega) (by omega) (by simp) ?_; intro v' w3 hown' hgrow3 hnil3
         obtain ⟨x3, m3, c3, rfl⟩ := own_slice hown'
         obtain ⟨r3, s3, hend⟩ := third_facts hgrow3 rfl hown' hp hs2 K0.out K1.out K2.out k3 hale halt hble hs1 hab
         clear hgrow3 hnil3 hown'))
  rw [rounds_succ]
  go_wp2
  go_ret
  exact hend
end Go.Proofs
