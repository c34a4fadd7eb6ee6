/-
  MajorityConfig.Slice: the ids, sorted.
-/
import Derived.Test.YtaenfbadkcfdaaaGreatBh
import Derived.Test.YtaenfbadkcfdaaaGreatBg
import Derived.Maps.AppendAt
import Derived.Sort.OwnSortedInts
namespace Go.Proofs
open Go.RowKit Go.Sort
set_option linter.unusedVariables false
theorem info22 : (Tryz.prog.info? 22).map (fun i => (i.zero, i.size, i.bytes)) = some (some (.int .u64 0), 1, 8) := by kernel_rfl
/-- a key's number -/
def intKey (m : MapEntry) : Int := match m.key with | .int _ a => a | _ => 0
theorem intKey_of {m : MapEntry} {a : Int} (h : m.key = .int .u64 a) : intKey m = a := by unfold intKey; rw [h]
def SliceEnd (w : World) (es : List MapEntry) (e : Ending) (w' : World) : Prop :=
  ∃ (g cap : Nat) (cur : Array Value) (ts : List Int), e = .returned (.slice (some ⟨g, 0, none⟩) es.length cap) ∧ w.heap.size ≤ g ∧ Below w.heap.size w w' ∧ w'.heap[g]? = some (.cells cur 22 (0, 0)) ∧ cur.size = cap ∧ es.length ≤ cap ∧
    cur.toList.take es.length = ts.map (Value.int .u64) ∧ ts.Perm (es.map intKey) ∧ ts.Pairwise (· ≤ ·)
theorem heap_sortedU {w : World} {g n : Nat} {cur : Array Value} {e : TypeId} {fr : Nat × Nat} (d : Array Int) (hb : w.heap[g]? = some (.cells cur e fr)) :
    (putRow (Value.int .u64) (Sort.ahead w n) g 0 d).heap[g]? = some (.cells (putCells (Value.int .u64) 0 d cur) e fr) := by
  simp [putRow, mapBlock, Sort.ahead, Array.getElem?_modify, hb, onCells]
theorem only_sortedU {w : World} {g n : Nat} (d : Array Int) : Only g w (putRow (Value.int .u64) (Sort.ahead w n) g 0 d) := by
  refine ⟨rfl, rfl, rfl, by simp [Sort.ahead], fun k hne => ?_⟩
  have : g ≠ k := fun e => hne e.symm
  simp [putRow, mapBlock, Sort.ahead, Array.getElem?_modify, this]
theorem take_putCellsU (cur : Array Value) (ts : List Int) (h : ts.length ≤ cur.size) : (putCells (Value.int .u64) 0 ts.toArray cur).toList.take ts.length = ts.map (Value.int .u64) := by
  apply List.ext_getElem?
  intro j
  by_cases hj : j < ts.length
  · rw [List.getElem?_take_of_lt hj, Array.getElem?_toList]
    simp [putCells, hj, show j < cur.size by omega]
  · rw [List.getElem?_take_eq_none (by omega), List.getElem?_eq_none (by simp; omega)]
theorem holds_of_blockU {w : World} {g : Nat} {cur : Array Value} {e : TypeId} {ss : List Int} (hb : w.heap[g]? = some (.cells cur e (0, 0))) (ht : cur.toList.take ss.length = ss.map (Value.int .u64)) : Holds (Value.int .u64) w g 0 ss.toArray := by
  intro j hj
  have hj' : j < ss.length := by simpa using hj
  refine ⟨?_, by simp [World.frozen?, hb]⟩
  have h1 : (cur.toList.take ss.length)[j]? = (ss.map (Value.int .u64))[j]? := by rw [ht]
  rw [List.getElem?_take_of_lt hj'] at h1
  simp only [World.cell?, hb, Nat.zero_add]
  simp only [Option.isSome_none, Bool.false_eq_true, if_false]
  rw [← Array.getElem?_toList, h1]
  simp [hj']
theorem sorted_facts (ks : List Int) : ∃ ts : List Int, (Sort.insertionSort ltInt ks.toArray 0 ks.length) = ts.toArray ∧ ts.Perm ks ∧ ts.Pairwise (· ≤ ·) := by
  obtain ⟨hP, hS⟩ := insertionSort_holds (lt := ltInt) swo_ltInt ks.toArray 0 ks.length (Nat.zero_le _) (by simp)
  have h := sorted_unique_holds (lt := ltInt) swo_ltInt (fun x y h1 h2 => by simp only [ltInt, decide_eq_false_iff_not] at h1 h2; omega) ks.toArray _ (by simpa using hP) (by simpa using hS)
  refine ⟨ks.mergeSort (fun x y => !ltInt y x), ?_, List.mergeSort_perm _ _, ?_⟩
  · apply Array.ext'
    rw [h]
  · have hp := List.pairwise_mergeSort (le := fun x y : Int => !ltInt y x) (fun a b c h1 h2 => by simp only [ltInt, Bool.not_eq_true', decide_eq_false_iff_not] at *; omega) (fun a b => by simp only [ltInt, Bool.or_eq_true, Bool.not_eq_true', decide_eq_false_iff_not]; omega) ks
    exact hp.imp fun {a b} hab => by simp only [ltInt, Bool.not_eq_true', decide_eq_false_iff_not] at hab; omega
/-- while the keys are gathered -/
def SlRel (w : World) (bm : Option Nat) (R : Nat) (es : List MapEntry) (v : Value) (wr : World) : Prop :=
  ∃ vis, IterAt wr R bm es vis ∧ wr.ownsRow w.heap.size 22 1 v vis.length (vis.map (·.key)) ∧ Below w.heap.size w wr ∧ v.ownBlock ≠ some R ∧ R < wr.heap.size ∧ (v = .slice none 0 0 → vis = [])
theorem own_only {w w' : World} {B e n : Nat} {R : Nat} {v : Value} {xs : List Value} (h : w.ownsRow B e 1 v n xs) (hO : Only R w w') (hne : v.ownBlock ≠ some R) : w'.ownsRow B e 1 v n xs := by
  refine ⟨h.1, ?_⟩
  rcases h.2 with hn | ⟨g, cap, cur, rfl, hb, hgg, rest⟩
  · exact .inl hn
  · exact .inr ⟨g, cap, cur, rfl, hb, (hO.block g (fun e => hne (by simp [Value.ownBlock, e]))).trans hgg, rest⟩
set_option maxRecDepth 100000 in
set_option maxHeartbeats 600000 in
theorem slice_some (bm : Option Nat) (es : List MapEntry) (hk : U64s es) (hne : es ≠ []) (hlen : es.length ≤ 9) (w : World) (hM : MapAt w bm es) : Calls Tryz.prog 278 #[.map bm] w (SliceEnd w es) := by
  have hlt0 : ∀ b, bm = some b → b < w.heap.size := fun b hb => by subst hb; obtain ⟨_, _, h, _⟩ := hM; exact (Array.getElem?_eq_some_iff.1 h).1
  obtain ⟨i0, hi, hz0, hz1, hz2⟩ := info_parts info22
  obtain ⟨o, hrg, hI, hM'⟩ := range_any (P := Tryz.prog) Tryz.underlying167 hM
  have hR : SlRel w bm w.heap.size es (.slice none 0 0) (w.alloc o) := ⟨[], hI, ⟨rfl, .inl ⟨rfl, rfl⟩⟩, (Below.refl _ _).alloc (Nat.le_refl _) _, by simp [Value.ownBlock], by show _ < (w.heap.push _).size; simp, fun _ => rfl⟩
  clear hI hM'
  go_enter Tryz.func278, Tryz.ntmps278
  go_wp2
  clear hrg
  go_loopw [3, 4] (fun v u wr => SlRel w bm w.heap.size es v wr) (fun v u wr => es.length - seenAt wr w.heap.size)
  case atStart => exact hR
  case round =>
    clear hR
    obtain ⟨vis, hI, hrow, hB, hob, hRlt, hvn⟩ := hrel
    rcases next_any (P := Tryz.prog) 0 hI (fun b hb => by have := hlt0 b hb; omega) with ⟨hperm, hnext⟩ | ⟨e, w2, he, hev, hlt2, hnext, hentry, hOnly, hI2⟩
    · have hvl : vis.length = es.length := hperm.length_eq
      rcases hrow.2 with ⟨hnil, h0⟩ | ⟨g, cap, cur, rfl, hbase, hb, h1, h2, h3, h4⟩
      · exact absurd (by rw [hvn hnil] at hperm; exact List.nil_perm.1 hperm) hne
      · have hks : vis.map (·.key) = (vis.map intKey).map (Value.int .u64) := by
          rw [List.map_map]
          apply List.map_congr_left
          intro m hm
          obtain ⟨a, ha⟩ := hk m (hI.sub m hm)
          simp [Function.comp, intKey, ha]
        have hH : Holds (Value.int .u64) wr g 0 (vis.map intKey).toArray := holds_of_blockU hb (by rw [List.length_map]; rw [Nat.mul_one] at h4; rw [h4, hks])
        obtain ⟨ts, hts, htp, htS⟩ := sorted_facts (vis.map intKey)
        have hc := sort_small g 0 cap (vis.map intKey).toArray wr hH (by simp; omega)
        have hse : (vis.map intKey).toArray.size = vis.length := by simp
        rw [hse] at hc
        have hle : (vis.map intKey).length = vis.length := by simp
        rw [hle] at hts
        rw [hts] at hc
        obtain ⟨cu, hcu⟩ : ∃ cu, cu = putCells (Value.int .u64) 0 ts.toArray cur := ⟨_, rfl⟩
        have hcs : cu.size = cap := by rw [hcu]; simp [putCells, h3]
        have htl : ts.length = es.length := by have := htp.length_eq; simp at this; omega
        have hct : cu.toList.take es.length = ts.map (Value.int .u64) := by rw [hcu, ← htl]; exact take_putCellsU cur ts (by omega)
        have hc2 := hc.mono (R' := fun e w' => e = .returned (.tuple #[]) ∧ Only g wr w' ∧ w'.heap[g]? = some (.cells cu 22 (0, 0))) (by
          rintro e w' ⟨rfl, n, rfl⟩
          exact ⟨rfl, only_sortedU _, by rw [hcu]; exact heap_sortedU _ hb⟩)
        have hesc : es.length ≤ cap := by omega
        rw [hvl] at hc2 ⊢
        clear hH hts hse hle hI hc hcu hvl h1 h2 h3 h4 hks
        go_wp2_with (first | (go_at_call 269; refine hc2.mono ?_; rintro e w' ⟨rfl, hO, hg⟩))
        go_ret
        exact ⟨g, cap, cu, ts, rfl, hbase, hB.trans (hO.below hbase hB.size), hg, hcs, hesc, hct, htp.trans (hperm.map _), htS⟩
    · obtain ⟨a, ha⟩ := hk e he
      rw [ha] at hnext hentry
      have hrow2 := own_only hrow hOnly hob
      have hB2 : w.heap.size ≤ w2.heap.size := by rw [hOnly.size]; exact hB.size
      have hvl : vis.length ≤ 9 := by omega
      go_wp2_with (first
        | (at_builtin; refine wpList_append_own_at _ rfl _ _ 24 rfl w.heap.size 22 i0 (.int .u64 0) 1 8 Tryz.underlying24 hi hz0 hz1 hz2 rfl (by decide) _ _ _ rfl (hrow2.alloc _) ⟨w2.heap.size, 0, none⟩ 1 1 [.int .u64 a] rfl rfl (cell_one_new _ _ _) (fun x hx => by simp at hx; subst hx; rfl) (by unfold maxLen; omega) (by omega) (by simp; omega) ?_; intro v' w3 hown' hgrow hnil hloc))
      have hsz2 := hOnly.size
      have hsa : ∀ x : Obj, (w2.alloc x).heap.size = w2.heap.size + 1 := fun x => by show (w2.heap.push _).size = _; simp
      have hge : ∀ k, u3.ownBlock = some k → w.heap.size ≤ k := fun k hk => (hrow2.lt k hk).1
      have hblk : ∀ k, k < w2.heap.size → u3.ownBlock ≠ some k → w3.heap[k]? = w2.heap[k]? := fun k hk hne => (hgrow.block k (by rw [hsa]; omega) (fun e => hne e.symm)).trans (heap_alloc_old _ _ hk)
      have hI3 : IterAt w3 w.heap.size bm es (vis ++ [e]) := hI2.block (fun b hb => hblk b (by have := hlt0 b hb; omega) (fun e => by have := hge b e; have := hlt0 b hb; omega)) (hblk _ (by omega) hob)
      go_roundw
      case rel =>
        refine ⟨vis ++ [e], hI3, by simpa [ha] using hown', ?_, ?_, ?_, ?_⟩
        · exact ((hB.trans (hOnly.below (Nat.le_refl _) hB.size)).alloc hB2 _).grown hgrow (by rw [hsa]; omega) hge
        · rcases hloc with h | h
          · rw [h]; exact hob
          · rw [h, hsa]; intro e; have := Option.some.inj e; omega
        · have := hgrow.size
          rw [hsa] at this
          omega
        · intro h
          have := (hnil.1 h).2
          omega
      case measure =>
        rw [hI3.seen' he, hI.seen' he]
        simp
        omega
set_option maxRecDepth 100000 in
set_option maxHeartbeats 600000 in
theorem ins_nil (w : World) : Calls Tryz.prog 349 #[.slice none 0 0, .int .i64 0, .int .i64 0] w fun e w' => e = .returned (.tuple #[]) ∧ w' = w := by
  go_enter Tryz.func349, Tryz.ntmps349
  go_wp2
  go_loopw [6] (fun i wr => i = .int .i64 1 ∧ wr = w) (fun i wr => 0)
  case atStart => exact ⟨rfl, rfl⟩
  case round =>
    obtain ⟨rfl, rfl⟩ := hrel
    go_wp2
    go_end0
    exact ⟨rfl, rfl⟩
set_option maxRecDepth 100000 in
set_option maxHeartbeats 600000 in
theorem pdq_nil (limit : Int) (w : World) : Calls Tryz.prog 322 #[.slice none 0 0, .int .i64 0, .int .i64 0, .int .i64 limit] w fun e w' => e = .returned (.tuple #[]) ∧ w' = w := by
  have hc := ins_nil w
  go_enter Tryz.func322, Tryz.ntmps322
  go_wp2
  go_loopw [1, 2] (fun a b wr => a = .int .i64 0 ∧ b = .int .i64 0 ∧ wr = w) (fun a b wr => 0)
  case atStart => exact ⟨rfl, rfl, rfl⟩
  case round =>
    obtain ⟨rfl, rfl, rfl⟩ := hrel
    go_wp2_with (first | (go_at_call 349; refine hc.mono ?_; rintro e w' ⟨rfl, rfl⟩))
    refine bodyPost_ret (results_none rfl _ _ _) rfl ?_
    exact ⟨rfl, rfl⟩
set_option maxRecDepth 100000 in
set_option maxHeartbeats 600000 in
theorem sort_nil (w : World) : Calls Tryz.prog 269 #[.slice none 0 0] w fun e w' => e = .returned (.tuple #[]) ∧ w' = w := by
  have hc := fun limit => pdq_nil limit w
  have hl := len_small 0 (by omega) w
  go_enter Tryz.func269, Tryz.ntmps269
  go_wp2_with (first
    | (go_at_call 323; refine hl.mono ?_; rintro e w' ⟨⟨k, rfl⟩, rfl⟩)
    | (go_at_call 322; refine (hc _).mono ?_; rintro e w' ⟨rfl, rfl⟩))
  go_end0
  exact ⟨rfl, rfl⟩
set_option maxRecDepth 100000 in
set_option maxHeartbeats 600000 in
theorem slice_empty (bm : Option Nat) (w : World) (hM : MapAt w bm []) : Calls Tryz.prog 278 #[.map bm] w fun e w' => e = .returned (.slice none 0 0) ∧ Below w.heap.size w w' := by
  have hlt0 : ∀ b, bm = some b → b < w.heap.size := fun b hb => by subst hb; obtain ⟨_, _, h, _⟩ := hM; exact (Array.getElem?_eq_some_iff.1 h).1
  obtain ⟨o, hrg, hI, hM'⟩ := range_any (P := Tryz.prog) Tryz.underlying167 hM
  have hR : IterAt (w.alloc o) w.heap.size bm [] [] ∧ Below w.heap.size w (w.alloc o) := ⟨hI, (Below.refl _ _).alloc (Nat.le_refl _) _⟩
  clear hI hM'
  go_enter Tryz.func278, Tryz.ntmps278
  go_wp2
  clear hrg
  go_loopw [3] (fun v wr => v = .slice none 0 0 ∧ IterAt wr w.heap.size bm [] [] ∧ Below w.heap.size w wr) (fun v wr => 0)
  case atStart => exact ⟨rfl, hR⟩
  case round =>
    clear hR
    obtain ⟨rfl, hI, hB⟩ := hrel
    rcases next_any (P := Tryz.prog) 0 hI (fun b hb => by have := hlt0 b hb; omega) with ⟨hperm, hnext⟩ | ⟨e, w2, he, _⟩
    · have hc := sort_nil wr
      go_wp2_with (first | (go_at_call 269; refine hc.mono ?_; rintro e w' ⟨rfl, rfl⟩))
      go_ret
      exact ⟨rfl, hB⟩
    · simp at he
end Go.Proofs
