/-
  Maps: ranging over one that is nil or not, in whatever order; a new entry; a look.
-/
import Derived.Test.YtaenfbadkcfdaaaGreatSd
import Derived.Maps.RangeRun
import Derived.Below
namespace Go.Proofs
open Go.RowKit (Below)
open Go.Sx (findNow_not findNow_at run_getMap run_setMap setIf_get setIf_other)
set_option linter.unusedVariables false
variable {P : Program} {w w' : World}

/-- what a map holds -/
def MapAt (w : World) : Option Nat → List MapEntry → Prop
  | none, es => es = []
  | some b, es => ∃ ents clock, w.heap[b]? = some (.map ents clock) ∧ ents.toList = es ∧ (∀ x ∈ es, x.born < clock) ∧ (es.map (·.born)).Nodup
/-- an iterator over it, which has handed vis out -/
def IterAt (w : World) (r : Nat) : Option Nat → List MapEntry → List MapEntry → Prop
  | none, es, vis => es = [] ∧ vis = [] ∧ ∃ s q l, w.heap[r]? = some (.mapIter none s q l)
  | some b, es, vis => ∃ ents clock seen c0, w.heap[b]? = some (.map ents clock) ∧ ents.toList = es ∧ (∀ x ∈ es, x.born < clock) ∧ (es.map (·.born)).Nodup ∧
      w.heap[r]? = some (.mapIter (some b) clock seen c0) ∧ clock ≤ c0 ∧ seen.toList = vis.map (·.born) ∧ vis.Nodup ∧ ∀ e ∈ vis, e ∈ es
/-- one block is written, at most -/
structure Only (b : Nat) (w w' : World) : Prop where
  os : w'.os = w.os
  tape : w'.tape = w.tape
  output : w'.output = w.output
  size : w'.heap.size = w.heap.size
  block : ∀ k, k ≠ b → w'.heap[k]? = w.heap[k]?
theorem Only.refl (b : Nat) (w : World) : Only b w w := ⟨rfl, rfl, rfl, rfl, fun _ _ => rfl⟩
theorem Only.trans {b : Nat} {w w1 w2 : World} (h : Only b w w1) (h' : Only b w1 w2) : Only b w w2 := ⟨h'.os.trans h.os, h'.tape.trans h.tape, h'.output.trans h.output, h'.size.trans h.size, fun k hk => (h'.block k hk).trans (h.block k hk)⟩
theorem Only.below {b n : Nat} (h : Only b w w') (hn : n ≤ b) (hs : n ≤ w.heap.size) : Below n w w' := ⟨h.os, h.tape, h.output, by rw [h.size]; exact Nat.le_refl _, fun k hk => h.block k (by omega)⟩
theorem Only.drew {b : Nat} : Only b w w.drew := ⟨rfl, rfl, rfl, rfl, fun _ _ => rfl⟩

theorem MapAt.block {bm : Option Nat} {es : List MapEntry} (h : MapAt w bm es) (hk : ∀ b, bm = some b → w'.heap[b]? = w.heap[b]?) : MapAt w' bm es := by
  cases bm with
  | none => exact h
  | some b => obtain ⟨ents, clock, h1, h2⟩ := h; exact ⟨ents, clock, (hk b rfl).trans h1, h2⟩
theorem IterAt.block {r : Nat} {bm : Option Nat} {es vis : List MapEntry} (h : IterAt w r bm es vis) (hk : ∀ b, bm = some b → w'.heap[b]? = w.heap[b]?) (hr : w'.heap[r]? = w.heap[r]?) : IterAt w' r bm es vis := by
  cases bm with
  | none => obtain ⟨h1, h2, s, q, l, h3⟩ := h; exact ⟨h1, h2, s, q, l, hr.trans h3⟩
  | some b => obtain ⟨ents, clock, seen, c0, h1, h2, h3, h4, h5, h6⟩ := h; exact ⟨ents, clock, seen, c0, (hk b rfl).trans h1, h2, h3, h4, hr.trans h5, h6⟩

theorem range_any {ty kt e : TypeId} (hu : P.underlying ty = some (.map kt e)) {bm : Option Nat} {es : List MapEntry} (h : MapAt w bm es) :
    ∃ o, (Instr.range ty (.map bm)).run P w = .ok (.pointer (some ⟨w.heap.size, 0, none⟩)) (w.alloc o) ∧ IterAt (w.alloc o) w.heap.size bm es [] ∧ MapAt (w.alloc o) bm es := by
  cases bm with
  | none => exact ⟨_, run_range_nilMap w ty kt e hu, ⟨h, rfl, _, _, _, heap_alloc_new _ _⟩, h⟩
  | some b =>
    obtain ⟨ents, clock, h1, h2, h3, h4⟩ := h
    have hlt : b < w.heap.size := (Array.getElem?_eq_some_iff.1 h1).1
    exact ⟨_, run_range_map w ty kt e b ents clock hu h1, ⟨ents, clock, #[], clock, (heap_alloc_old _ _ hlt).trans h1, h2, h3, h4, heap_alloc_new _ _, Nat.le_refl _, rfl, List.nodup_nil, fun e he => by simp at he⟩, ents, clock, (heap_alloc_old _ _ hlt).trans h1, h2, h3, h4⟩

theorem next_any (ty : TypeId) {r : Nat} {bm : Option Nat} {es vis : List MapEntry} (h : IterAt w r bm es vis) (hne : ∀ b, bm = some b → b ≠ r) :
    (vis.Perm es ∧ (Instr.next (.pointer (some ⟨r, 0, none⟩)) false ty).run P w = .ok (.tuple #[.bool false]) w) ∨
    ∃ e w2, e ∈ es ∧ e ∉ vis ∧ vis.length < es.length ∧ (Instr.next (.pointer (some ⟨r, 0, none⟩)) false ty).run P w = .ok (.tuple #[.bool true, e.key, e.val]) w2 ∧
      (Instr.entry (.pointer (some ⟨r, 0, none⟩))).run P w2 = .ok (.tuple #[e.key, e.val]) w2 ∧ Only r w w2 ∧ IterAt w2 r bm es (vis ++ [e]) := by
  cases bm with
  | none =>
    obtain ⟨rfl, rfl, s, q, l, hr⟩ := h
    left
    refine ⟨List.Perm.refl _, ?_⟩
    simp [Instr.next, getObj, Sem.run, hr]
  | some b =>
    obtain ⟨ents, clock, seen, c0, hb, rfl, hborn, hnd, hr, hc0, hseen, hvnd, hsub⟩ := h
    have hleft : ∀ e, e ∈ (leftOf ents seen).toList ↔ e ∈ ents.toList ∧ e ∉ vis := by
      intro e
      have hmem : e.born ∈ seen.toList ↔ e.born ∈ vis.map (·.born) := by rw [hseen]
      simp only [leftOf, Array.toList_filter, List.mem_filter, Bool.not_eq_true']
      constructor
      · rintro ⟨h1, h2⟩
        refine ⟨h1, fun hv => ?_⟩
        have : seen.contains e.born = true := by
          simp only [Array.contains_iff_mem, ← Array.mem_toList_iff]
          exact hmem.2 (List.mem_map_of_mem hv)
        rw [this] at h2
        cases h2
      · rintro ⟨h1, h2⟩
        refine ⟨h1, ?_⟩
        rw [Bool.eq_false_iff]
        intro h3
        simp only [Array.contains_iff_mem, ← Array.mem_toList_iff] at h3
        obtain ⟨e', he', heq⟩ := List.mem_map.1 (hmem.1 h3)
        exact h2 (by rw [← nodup_inj hnd (hsub e' he') h1 heq]; exact he')
    rcases run_next_at (P := P) w ty r b clock c0 seen ents clock hr hb hborn hc0 with ⟨h0, hrun⟩ | ⟨e, he, w1, hw1, hrun⟩
    · left
      refine ⟨?_, hrun⟩
      have hall : ∀ e ∈ ents.toList, e ∈ vis := fun e he => by
        by_cases hv : e ∈ vis
        · exact hv
        · have := (hleft e).2 ⟨he, hv⟩
          have hz : leftOf ents seen = #[] := Array.eq_empty_of_size_eq_zero h0
          rw [hz] at this
          simp at this
      exact (List.perm_ext_iff_of_nodup hvnd (nodup_of_map hnd)).2 fun e => ⟨hsub e, hall e⟩
    · right
      obtain ⟨hees, hev⟩ := (hleft e).1 he
      have hbr : b ≠ r := hne b rfl
      have ho1 : Only r w w1 := by rcases hw1 with rfl | rfl; exact Only.refl _ _; exact Only.drew
      have hr1 : w1.heap[r]? = some (.mapIter (some b) clock seen c0) := by rcases hw1 with rfl | rfl <;> exact hr
      have hrr : (Go.ChangeMaps.setBlock w1 r (.mapIter (some b) clock (seen.push e.born) clock)).heap[r]? = some (.mapIter (some b) clock (seen.push e.born) clock) := setIf_get hr1
      have hbb : (Go.ChangeMaps.setBlock w1 r (.mapIter (some b) clock (seen.push e.born) clock)).heap[b]? = some (.map ents clock) := by
        refine (setIf_other hbr).trans ((ho1.block b hbr).trans hb)
      refine ⟨e, _, hees, hev, ?_, hrun, run_entry_at _ r b clock seen ents clock e hrr hbb hees hnd, ho1.trans ⟨rfl, rfl, rfl, by simp [Go.ChangeMaps.setBlock], fun k hk => setIf_other hk⟩, ?_⟩
      · have hnd' : (vis ++ [e]).Nodup := by
          rw [List.nodup_append]
          exact ⟨hvnd, by simp, fun a ha b hb => by simp at hb; subst hb; intro h; subst h; exact hev ha⟩
        have hs : ∀ x ∈ vis ++ [e], x ∈ ents.toList := fun x hx => by
          rcases List.mem_append.1 hx with h | h
          · exact hsub x h
          · simp at h; subst h; exact hees
        have := sub_len hnd' hs
        simp at this ⊢
        omega
      · refine ⟨ents, clock, _, clock, hbb, rfl, hborn, hnd, hrr, Nat.le_refl _, by simp [hseen], ?_, ?_⟩
        · rw [List.nodup_append]
          exact ⟨hvnd, by simp, fun a ha b hb => by simp at hb; subst hb; intro h; subst h; exact hev ha⟩
        · intro x hx
          rcases List.mem_append.1 hx with h | h
          · exact hsub x h
          · simp at h; subst h; exact hees
where
  nodup_inj {l : List MapEntry} (h : (l.map (·.born)).Nodup) {a b : MapEntry} (ha : a ∈ l) (hb : b ∈ l) (e : a.born = b.born) : a = b := by
    induction l with
    | nil => simp at ha
    | cons x l ih =>
      simp only [List.map_cons, List.nodup_cons, List.mem_map, not_exists, not_and] at h
      rcases List.mem_cons.1 ha with ha | ha
      · subst ha
        rcases List.mem_cons.1 hb with rfl | hb
        · rfl
        · exact absurd e.symm (h.1 b hb)
      · rcases List.mem_cons.1 hb with hb | hb
        · subst hb
          exact absurd e (h.1 a (by assumption))
        · exact ih h.2 (by assumption) hb
  nodup_of_map {l : List MapEntry} (h : (l.map (·.born)).Nodup) : l.Nodup := by
    induction l with
    | nil => exact List.nodup_nil
    | cons x l ih =>
      simp only [List.map_cons, List.nodup_cons, List.mem_map, not_exists, not_and] at h
      rw [List.nodup_cons]
      exact ⟨fun hx => h.1 x hx rfl, ih h.2⟩
  sub_len : ∀ {l m : List MapEntry}, l.Nodup → (∀ x ∈ l, x ∈ m) → l.length ≤ m.length
    | [], m, _, _ => Nat.zero_le _
    | x :: l, m, hn, hs => by
      rw [List.nodup_cons] at hn
      obtain ⟨A, B, rfl⟩ := List.append_of_mem (hs x (by simp))
      have := sub_len (l := l) (m := A ++ B) hn.2 fun y hy => by
        have hy' := hs y (by simp [hy])
        simp only [List.mem_append, List.mem_cons] at hy' ⊢
        rcases hy' with h | rfl | h
        · exact .inl h
        · exact absurd hy hn.1
        · exact .inr h
      simp at this ⊢
      omega

/-- entries as pairs -/
def kvs (es : List MapEntry) : List (Value × Value) := es.map fun m => (m.key, m.val)
/-- a map that reads as pairs, in that order -/
def OwnM (w : World) (b : Nat) (kv : List (Value × Value)) : Prop := ∃ es, MapAt w (some b) es ∧ kvs es = kv

theorem OwnM.put {ty kt e : TypeId} (hu : P.underlying ty = some (.map kt e)) (hk : P.underlying kt = some (.int .u64)) {b : Nat} {kv : List (Value × Value)} (h : OwnM w b kv) {a : Int} (hnew : ∀ p ∈ kv, ∃ a', p.1 = .int .u64 a' ∧ a' ≠ a) (x : Value) :
    ∃ w', (Instr.mapUpdate ty (.map (some b)) (.int .u64 a) x).run P w = .ok () w' ∧ OwnM w' b (kv ++ [(.int .u64 a, x)]) ∧ Only b w w' := by
  obtain ⟨es, ⟨ents, clock, hb, rfl, hborn, hnd⟩, rfl⟩ := h
  have hfind : (Instr.findKey kt (.int .u64 a) ents.toList).run P w = .ok none w := by
    have hall : ∀ m ∈ ents.toList, Instr.sameNow (.int .u64) (.int .u64 a) m.key = some false := fun m hm => by
      obtain ⟨a', ha, hne⟩ := hnew (m.key, m.val) (List.mem_map_of_mem (f := fun m : MapEntry => (m.key, m.val)) hm)
      have ha : m.key = .int .u64 a' := ha
      rw [ha]
      simp [Instr.sameNow, Ne.symm hne]
    simp [Instr.findKey, run_underlying hk, findNow_not hall]
  have hck : (Instr.checkKey false 10000 kt (.int .u64 a)).run P w = .ok () w := Go.Sx.run_checkKey (k := .int .u64) (kc := .a (.int .u64 (.lit 0))) hk rfl
  refine ⟨{ w with heap := w.heap.setIfInBounds b (.map (ents.push { key := .int .u64 a, val := x, born := clock }) (clock + 1)) }, ?_, ⟨_, ⟨_, clock + 1, setIf_get hb, rfl, ?_, ?_⟩, ?_⟩, ⟨rfl, rfl, rfl, by simp, fun k hk => setIf_other hk⟩⟩
  · simp [Instr.mapUpdate, run_underlying hu, run_getMap hb, hck, hfind, run_setMap hb]
  · intro q hq
    simp only [Array.toList_push, List.mem_append, List.mem_singleton] at hq
    rcases hq with hq | rfl
    · exact Nat.lt_succ_of_lt (hborn q hq)
    · exact Nat.lt_succ_self _
  · simp only [Array.toList_push, List.map_append, List.map_cons, List.map_nil]
    rw [List.nodup_append]
    refine ⟨hnd, by simp, ?_⟩
    intro x hx y hy
    simp only [List.mem_singleton] at hy
    subst hy
    obtain ⟨q, hq, rfl⟩ := List.mem_map.1 hx
    exact Nat.ne_of_lt (hborn q hq)
  · simp [kvs]
theorem OwnM.block {b : Nat} {kv : List (Value × Value)} (h : OwnM w b kv) (hk : w'.heap[b]? = w.heap[b]?) : OwnM w' b kv := by
  obtain ⟨es, h1, h2⟩ := h
  exact ⟨es, h1.block (fun b' e => by cases e; exact hk), h2⟩
theorem OwnM.made (w : World) : OwnM (w.alloc (.map #[] 0)) w.heap.size [] := ⟨[], ⟨#[], 0, heap_alloc_new _ _, rfl, by simp, by simp⟩, rfl⟩

theorem findNow_cases {a : Int} : ∀ {es : List MapEntry} (n : Nat), (∀ m ∈ es, ∃ a', m.key = .int .u64 a') →
    (∃ m ∈ es, m.key = .int .u64 a ∧ ∃ i, Instr.findNow (.int .u64) (.int .u64 a) es n = some (some (i, m.val))) ∨ ((∀ m ∈ es, m.key ≠ .int .u64 a) ∧ Instr.findNow (.int .u64) (.int .u64 a) es n = some none)
  | [], n, _ => .inr ⟨by simp, rfl⟩
  | e :: es, n, h => by
    obtain ⟨a', ha⟩ := h e (by simp)
    by_cases haa : a' = a
    · subst haa
      refine .inl ⟨e, by simp, ha, n, ?_⟩
      simp [Instr.findNow, ha, Instr.sameNow]
    · have hs : Instr.sameNow (.int .u64) (.int .u64 a) e.key = some false := by rw [ha]; simp [Instr.sameNow, Ne.symm haa]
      rcases findNow_cases (a := a) (es := es) (n + 1) (fun m hm => h m (by simp [hm])) with ⟨m, hm, hk, i, hi⟩ | ⟨h1, h2⟩
      · exact .inl ⟨m, by simp [hm], hk, i, by simp only [Instr.findNow, hs]; exact hi⟩
      · refine .inr ⟨fun m hm => ?_, by simp only [Instr.findNow, hs]; exact h2⟩
        rcases List.mem_cons.1 hm with rfl | hm
        · rw [ha]
          intro e
          cases e
          exact haa rfl
        · exact h1 m hm

theorem look_any {ty kt e : TypeId} (hu : P.underlying ty = some (.map kt e)) (hk : P.underlying kt = some (.int .u64)) {z : Value} (hz : ∀ w, (zeroValue e).run P w = .ok z w) {bm : Option Nat} {es : List MapEntry} (h : MapAt w bm es)
    (hkeys : ∀ m ∈ es, ∃ a', m.key = .int .u64 a') (a : Int) :
    (∃ m ∈ es, m.key = .int .u64 a ∧ (Instr.lookup ty (.map bm) (.int .u64 a) true).run P w = .ok (.tuple #[m.val, .bool true]) w ∧ (Instr.lookup ty (.map bm) (.int .u64 a) false).run P w = .ok m.val w) ∨
    ((∀ m ∈ es, m.key ≠ .int .u64 a) ∧ (Instr.lookup ty (.map bm) (.int .u64 a) true).run P w = .ok (.tuple #[z, .bool false]) w ∧ (Instr.lookup ty (.map bm) (.int .u64 a) false).run P w = .ok z w) := by
  have hck : ∀ b, (Instr.checkKey b 10000 kt (.int .u64 a)).run P w = .ok () w := fun b => Go.Sx.run_checkKey (k := .int .u64) (kc := .a (.int .u64 (.lit 0))) hk rfl
  cases bm with
  | none =>
    have h0 : es = [] := h
    subst h0
    right
    refine ⟨by simp, ?_, ?_⟩
    · have hfind : (Instr.findKey kt (.int .u64 a) []).run P w = .ok none w := by simp [Instr.findKey, run_underlying hk, Instr.findNow]
      simp [Instr.lookup, run_underlying hu, hck, hfind, hz]
    · have hfind : (Instr.findKey kt (.int .u64 a) []).run P w = .ok none w := by simp [Instr.findKey, run_underlying hk, Instr.findNow]
      simp [Instr.lookup, run_underlying hu, hck, hfind, hz]
  | some b =>
    obtain ⟨ents, clock, hb, rfl, hborn, hnd⟩ := h
    rcases findNow_cases (a := a) 0 hkeys with ⟨m, hm, hmk, i, hf⟩ | ⟨h1, hf⟩
    · have hfind : (Instr.findKey kt (.int .u64 a) ents.toList).run P w = .ok (some (i, m.val)) w := by simp [Instr.findKey, run_underlying hk, hf]
      exact .inl ⟨m, hm, hmk, by simp [Instr.lookup, run_underlying hu, run_getMap hb, hck, hfind], by simp [Instr.lookup, run_underlying hu, run_getMap hb, hck, hfind]⟩
    · have hfind : (Instr.findKey kt (.int .u64 a) ents.toList).run P w = .ok none w := by simp [Instr.findKey, run_underlying hk, hf]
      exact .inr ⟨h1, by simp [Instr.lookup, run_underlying hu, run_getMap hb, hck, hfind, hz], by simp [Instr.lookup, run_underlying hu, run_getMap hb, hck, hfind, hz]⟩

/-- how many an iterator has handed out -/
def seenAt (w : World) (r : Nat) : Nat := match w.heap[r]? with
  | some (.mapIter _ _ seen _) => seen.size
  | _ => 0
theorem IterAt.seen {r : Nat} {b : Nat} {es vis : List MapEntry} (h : IterAt w r (some b) es vis) : seenAt w r = vis.length := by
  obtain ⟨ents, clock, seen, c0, h1, h2, h3, h4, h5, h6, h7, h8⟩ := h
  unfold seenAt
  rw [h5]
  have := congrArg List.length h7
  simpa using this
def U64s (es : List MapEntry) : Prop := ∀ m ∈ es, ∃ a, m.key = .int .u64 a
theorem IterAt.sub {r : Nat} {bm : Option Nat} {es vis : List MapEntry} (h : IterAt w r bm es vis) : ∀ e ∈ vis, e ∈ es := by
  cases bm with
  | none => obtain ⟨rfl, rfl, _⟩ := h; simp
  | some b => obtain ⟨_, _, _, _, _, _, _, _, _, _, _, _, h⟩ := h; exact h
theorem key_inj {l : List MapEntry} (h : (l.map (·.key)).Nodup) {a b : MapEntry} (ha : a ∈ l) (hb : b ∈ l) (e : a.key = b.key) : a = b := by
  induction l with
  | nil => simp at ha
  | cons x l ih =>
    simp only [List.map_cons, List.nodup_cons, List.mem_map, not_exists, not_and] at h
    rcases List.mem_cons.1 ha with ha | ha
    · subst ha
      rcases List.mem_cons.1 hb with rfl | hb
      · rfl
      · exact absurd e.symm (h.1 b hb)
    · rcases List.mem_cons.1 hb with hb | hb
      · subst hb
        exact absurd e (h.1 a (by assumption))
      · exact ih h.2 (by assumption) hb
theorem fresh_key {r : Nat} {bm : Option Nat} {es vis : List MapEntry} {e : MapEntry} {a : Int} (hk : U64s es) (hnd : (es.map (·.key)).Nodup) (hI : IterAt w r bm es vis) (he : e ∈ es) (hev : e ∉ vis) (ha : e.key = .int .u64 a) :
    ∀ m ∈ vis, ∃ a', m.key = .int .u64 a' ∧ a' ≠ a := fun m hm => by
  obtain ⟨a', ha'⟩ := hk m (hI.sub m hm)
  refine ⟨a', ha', fun e' => ?_⟩
  subst e'
  exact hev (key_inj hnd (hI.sub m hm) he (ha'.trans ha.symm) ▸ hm)
theorem IterAt.seen' {r : Nat} {bm : Option Nat} {es vis : List MapEntry} (h : IterAt w r bm es vis) {e : MapEntry} (he : e ∈ es) : seenAt w r = vis.length := by
  cases bm with
  | none => obtain ⟨rfl, _⟩ := h; simp at he
  | some b => exact h.seen
theorem cell_of {w : World} {b : Nat} {cs : Array Value} {e : TypeId} {fz : Nat × Nat} (h : w.heap[b]? = some (.cells cs e fz)) (k : Nat) : w.cell? ⟨b, k, none⟩ = cs[k]? := by
  unfold World.cell?; rw [h]; rfl
theorem IterAt.born_inj {r : Nat} {bm : Option Nat} {es vis : List MapEntry} (h : IterAt w r bm es vis) {a b : MapEntry} (ha : a ∈ vis) (hb : b ∈ es) (e : a.born = b.born) : a = b := by
  have ha' := h.sub a ha
  cases bm with
  | none => obtain ⟨rfl, _⟩ := h; simp at hb
  | some m => obtain ⟨_, _, _, _, _, _, _, hnd, _⟩ := h; exact next_any.nodup_inj hnd ha' hb e
theorem Only.set (b k : Nat) (v : Value) : Only b w (w.setCell ⟨b, k, none⟩ v) := ⟨rfl, rfl, rfl, by simp [World.setCell], fun k hk => by
  unfold World.setCell
  simp only [Array.getElem?_modify]
  rw [if_neg (Ne.symm hk)]⟩
end Go.Proofs
