/-
  checkAndCopy: its contract.
-/
import Derived.Test.YtaenfbadkcfdaaaGreatCg
import Derived.Test.YtaenfbadkcfdaaaGreatCm
import Derived.Test.YtaenfbadkcfdaaaGreatBg
noncomputable section
namespace Go.Sx
open Go.RowKit (Below)
open Go.Proofs
set_option linter.unusedVariables false
set_option linter.unusedSimpArgs false
section
variable {ρ : Env} {c : Cfg} {α : Al} {P : Program} {s s' : St} {w w' : World}

theorem shape_ok : ∀ {ps : List (C → Bool)} {cs : List C} {xs : List Value}, shape ps cs = true → All2 (CR ρ α) cs xs → All2 (fun p x => ∃ c, p c = true ∧ CR ρ α c x) ps xs
  | [], [], [], _, _ => trivial
  | p :: ps, c :: cs, x :: xs, h, ha => by
    simp only [shape, Bool.and_eq_true] at h
    exact ⟨⟨c, h.1, ha.1⟩, shape_ok h.2 ha.2⟩
  | [], [], _ :: _, _, h => h.elim
  | [], _ :: _, _, h, _ => by simp [shape] at h
  | _ :: _, [], _, h, _ => by simp [shape] at h
  | _ :: _, _ :: _, [], _, h => h.elim
theorem isU64_val {c : C} {x : Value} (h : isU64 c = true) (hr : CR ρ α c x) : ∃ a, x = .int .u64 a := by
  cases c with
  | a y => cases y with
    | int k e => cases k <;> simp [isU64] at h
                 exact ⟨_, hr⟩
    | _ => simp [isU64] at h
  | _ => simp [isU64] at h
theorem isBoolC_val {c : C} {x : Value} (h : isBoolC c = true) (hr : CR ρ α c x) : ∃ a, x = .bool a := by
  cases c with
  | a y => cases y with
    | bool b => exact ⟨_, hr⟩
    | _ => simp [isBoolC] at h
  | _ => simp [isBoolC] at h
theorem isPtrC_val {c : C} {x : Value} (h : isPtrC c = true) (hr : CR ρ α c x) : ∃ a, x = .pointer a := by
  cases c with
  | a y => cases y with
    | ptr b => cases b with
      | none => exact ⟨_, hr⟩
      | some b => obtain ⟨l, _, e⟩ := hr; exact ⟨_, e⟩
    | _ => simp [isPtrC] at h
  | _ => simp [isPtrC] at h
theorem isMapC_val {c : C} {x : Value} (h : isMapC c = true) (hr : CR ρ α c x) : ∃ a, x = .map a := by
  cases c with
  | a y => cases y with
    | map b => cases b with
      | none => exact ⟨_, hr⟩
      | some b => obtain ⟨l, _, e⟩ := hr; exact ⟨_, e⟩
    | _ => simp [isMapC] at h
  | _ => simp [isMapC] at h
theorem All2.uncons {β γ : Type} {R : β → γ → Prop} {a : β} {bs : List β} : ∀ {l : List γ}, All2 R (a :: bs) l → ∃ x xs, l = x :: xs ∧ R a x ∧ All2 R bs xs
  | [], h => h.elim
  | x :: xs, h => ⟨x, xs, rfl, h.1, h.2⟩
theorem All2.unnil {β γ : Type} {R : β → γ → Prop} : ∀ {l : List γ}, All2 R ([] : List β) l → l = []
  | [], _ => rfl
  | _ :: _, h => h.elim
theorem prShape_val {pc : List C} {xs : Array Value} (h : shape prShape pc = true) (ha : All2 (CR ρ α) pc xs.toList) :
    ∃ (a0 a1 a2 a3 a4 : Int) (b5 b6 b8 : Bool) (p7 : Option Addr), xs = #[.int .u64 a0, .int .u64 a1, .int .u64 a2, .int .u64 a3, .int .u64 a4, .bool b5, .bool b6, .pointer p7, .bool b8] := by
  have h2 := shape_ok h ha
  obtain ⟨x0, l0, e0, ⟨c0, g0, r0⟩, h2⟩ := h2.uncons
  obtain ⟨x1, l1, e1, ⟨c1, g1, r1⟩, h2⟩ := h2.uncons
  obtain ⟨x2, l2, e2, ⟨c2, g2, r2⟩, h2⟩ := h2.uncons
  obtain ⟨x3, l3, e3, ⟨c3, g3, r3⟩, h2⟩ := h2.uncons
  obtain ⟨x4, l4, e4, ⟨c4, g4, r4⟩, h2⟩ := h2.uncons
  obtain ⟨x5, l5, e5, ⟨c5, g5, r5⟩, h2⟩ := h2.uncons
  obtain ⟨x6, l6, e6, ⟨c6, g6, r6⟩, h2⟩ := h2.uncons
  obtain ⟨x7, l7, e7, ⟨c7, g7, r7⟩, h2⟩ := h2.uncons
  obtain ⟨x8, l8, e8, ⟨c8, g8, r8⟩, h2⟩ := h2.uncons
  have e9 := h2.unnil
  obtain ⟨a0, v0⟩ := isU64_val g0 r0
  obtain ⟨a1, v1⟩ := isU64_val g1 r1
  obtain ⟨a2, v2⟩ := isU64_val g2 r2
  obtain ⟨a3, v3⟩ := isU64_val g3 r3
  obtain ⟨a4, v4⟩ := isU64_val g4 r4
  obtain ⟨b5, v5⟩ := isBoolC_val g5 r5
  obtain ⟨b6, v6⟩ := isBoolC_val g6 r6
  obtain ⟨p7, v7⟩ := isPtrC_val g7 r7
  obtain ⟨b8, v8⟩ := isBoolC_val g8 r8
  refine ⟨a0, a1, a2, a3, a4, b5, b6, b8, p7, ?_⟩
  apply Array.ext'
  rw [e0, e1, e2, e3, e4, e5, e6, e7, e8, e9, v0, v1, v2, v3, v4, v5, v6, v7, v8]
theorem cfgShape_val {pc : List C} {xs : Array Value} (h : shape cfgShape pc = true) (ha : All2 (CR ρ α) pc xs.toList) :
    ∃ d0 d1 d2 d3 d4, xs = #[.map d0, .map d1, .bool d2, .map d3, .map d4] := by
  have h2 := shape_ok h ha
  obtain ⟨x0, l0, e0, ⟨c0, g0, r0⟩, h2⟩ := h2.uncons
  obtain ⟨x1, l1, e1, ⟨c1, g1, r1⟩, h2⟩ := h2.uncons
  obtain ⟨x2, l2, e2, ⟨c2, g2, r2⟩, h2⟩ := h2.uncons
  obtain ⟨x3, l3, e3, ⟨c3, g3, r3⟩, h2⟩ := h2.uncons
  obtain ⟨x4, l4, e4, ⟨c4, g4, r4⟩, h2⟩ := h2.uncons
  have e5 := h2.unnil
  obtain ⟨a0, v0⟩ := isMapC_val g0 r0
  obtain ⟨a1, v1⟩ := isMapC_val g1 r1
  obtain ⟨a2, v2⟩ := isBoolC_val g2 r2
  obtain ⟨a3, v3⟩ := isMapC_val g3 r3
  obtain ⟨a4, v4⟩ := isMapC_val g4 r4
  refine ⟨a0, a1, a2, a3, a4, ?_⟩
  apply Array.ext'
  rw [e0, e1, e2, e3, e4, e5, v0, v1, v2, v3, v4]
theorem aggOf'_eq {v : V} {cs : List C} (h : aggOf' v = some cs) : v = .agg cs := by
  cases v <;> simp [aggOf'] at h
  rw [h]
theorem blkOf_eq {o : Option Obj} {cs : List C} (h : blkOf o = some cs) : ∃ e, o = some (.blk cs e) := by
  match o with
  | none => simp [blkOf] at h
  | some x => cases x <;> simp [blkOf] at h
              exact ⟨_, by rw [h]⟩
theorem blk310_eq {o : Option Obj} {cs : List C} (h : blk310 o = some cs) : o = some (.blk cs 310) := by
  unfold blk310 at h
  split at h
  · simp at h; rw [h]
  · cases h
theorem ptrT_eq {t : T1} {q : Nat} (h : ptrT t = some q) : t = .sc (.a (.ptr (some (q, 0)))) := by
  unfold ptrT at h
  split at h
  · simp at h; rw [h]
  · cases h
theorem resThree_eq {v : V} {cs : List C} {a b : C} (h : resThree v = some (cs, a, b)) : v = .tup [.agg cs, .sc a, .sc b] := by
  unfold resThree at h
  split at h
  · simp at h; obtain ⟨rfl, rfl, rfl⟩ := h; rfl
  · cases h

/-- the entries' new values -/
def moved (f : Nat → Nat) (m : MapEntry) : MapEntry := { m with val := .pointer (some ⟨f m.born, 0, none⟩) }

/-- the copies' names -/
theorem copy_rel {w0 : World} {s0 : St} {α0 : Al} {f : Nat → Nat} : ∀ {es : List (C × T1)} {ord : List MapEntry} {s s' : St} {out : List (C × T1)} {α : Al}, copyProgress es s = some (out, s') → Rel P ρ α s w → Fr α0 s0 w0 α s w → All2 (EntR ρ α) es ord →
    (∀ m ∈ ord, ∀ xs, PrAt w m.val xs → w.heap[f m.born]? = some (.cells xs 310 (0, 0))) → (∀ m ∈ ord, ¬ Used α s (f m.born) ∧ w0.heap.size ≤ f m.born ∧ ρ.w0.heap.size ≤ f m.born) → (ord.map fun m => f m.born).Nodup →
    ∃ α', Rel P ρ α' s' w ∧ Fr α0 s0 w0 α' s' w ∧ α.le α' ∧ All2 (EntR ρ α') out (ord.map (moved f)) ∧ (∀ b, Used α' s' b → Used α s b ∨ ∃ m ∈ ord, f m.born = b)
  | [], [], s, s', out, α, h, hR, hF, ha, hcp, hfr, hnd => by
    simp [copyProgress] at h
    obtain ⟨rfl, rfl⟩ := h
    exact ⟨α, hR, hF, Al.le.refl _, trivial, fun b hb => .inl hb⟩
  | [], _ :: _, _, _, _, _, _, _, _, h, _, _, _ => h.elim
  | _ :: _, [], _, _, _, _, _, _, _, h, _, _, _ => h.elim
  | p :: es, m :: ord, s, s', out, α, h, hR, hF, ha, hcp, hfr, hnd => by
    simp only [copyProgress] at h
    split at h
    · rename_i q hq
      split at h
      · rename_i pc hpc
        split at h
        · rename_i hsh
          split at h
          · rename_i n s1 hno
            split at h
            · rename_i l s2 hrec
              simp at h
              obtain ⟨rfl, rfl⟩ := h
              obtain ⟨hn, hfree, rfl⟩ := newO_eq hno
              have hqm := blk310_eq hpc
              have hval := ha.1.2
              rw [ptrT_eq hq] at hval
              obtain ⟨lq, hlq, hmv⟩ : ∃ l : Loc, α q = some l ∧ m.val = .pointer (some ⟨l.block, l.base + 0, none⟩) := hval
              obtain ⟨xs, hb, hxs, hbase, hesz, hcap⟩ := hR.obj _ _ _ hqm hlq
              have hpr : PrAt w m.val xs := ⟨lq.block, by rw [hmv, hbase], hb, prShape_val hsh hxs⟩
              have hcopy := hcp m (by simp) xs hpr
              obtain ⟨hnu, hge, hge0⟩ := hfr m (by simp)
              have hle : α.le (α.with n ⟨f m.born, 0, 1, xs.size⟩) := Al.le_with ((hR.dom n).2 hfree)
              have hR1 := Rel.add (o := .blk pc 310) (l := ⟨f m.born, 0, 1, xs.size⟩) hR hfree ⟨xs, hcopy, hxs.mono fun _ _ => CR.mono hle, rfl, rfl, rfl⟩ hge0
                (fun m' o' l' hm' hl' hlv e => hnu ⟨m', o', l', hm', hlv, hl', e⟩) (s.ctr + 1)
              have hF1 := Fr.add (o := .blk pc 310) (l := ⟨f m.born, 0, 1, xs.size⟩) hF ((hR.dom n).2 hfree) hge (s.ctr + 1)
              rw [List.map_cons, List.nodup_cons] at hnd
              have hused1 : ∀ b, Used (α.with n ⟨f m.born, 0, 1, xs.size⟩) ⟨s.mem.put n (.blk pc 310), s.ctr + 1⟩ b → Used α s b ∨ b = f m.born := by
                rintro b ⟨k, o', l', hk, hlv, hl', rfl⟩
                simp only [Al.with, PT.get_put] at hk hl'
                split at hk
                · rename_i e
                  rw [if_pos e] at hl'
                  cases hl'
                  exact .inr rfl
                · rename_i e
                  rw [if_neg e] at hl'
                  exact .inl ⟨k, o', l', hk, hlv, hl', rfl⟩
              obtain ⟨α', hR', hF', hle', ha', hu'⟩ := copy_rel hrec hR1 hF1 (ha.2.mono fun _ _ h => ⟨CR.mono hle h.1, T1R.mono hle h.2⟩) (fun m' hm' => hcp m' (by simp [hm']))
                (fun m' hm' => by
                  obtain ⟨a1, a2, a3⟩ := hfr m' (by simp [hm'])
                  refine ⟨fun hu => ?_, a2, a3⟩
                  rcases hused1 _ hu with hu | hu
                  · exact a1 hu
                  · exact hnd.1 (List.mem_map.2 ⟨m', hm', hu⟩)) hnd.2
              refine ⟨α', hR', hF', hle.trans hle', ⟨⟨CR.mono (hle.trans hle') ha.1.1, ?_⟩, ha'⟩, ?_⟩
              · exact ⟨⟨f m.born, 0, 1, xs.size⟩, hle' _ _ (by simp [Al.with]), rfl⟩
              · intro b hb
                rcases hu' b hb with hb | ⟨m', hm', e⟩
                · rcases hused1 b hb with hb | rfl
                  · exact .inl hb
                  · exact .inr ⟨m, by simp, rfl⟩
                · exact .inr ⟨m', by simp [hm'], e⟩
            · cases h
          · cases h
        · cases h
      · cases h
    · cases h

theorem copy_pr {s1 : St} (hR : Rel P ρ α s1 w) : ∀ {es : List (C × T1)} {ord : List MapEntry} {s s' : St} {out : List (C × T1)}, (∀ n o, s1.mem.get n = some o → s.mem.get n = some o) → copyProgress es s = some (out, s') → All2 (EntR ρ α) es ord →
    ∀ m ∈ ord, ∃ xs, PrAt w m.val xs
  | [], [], _, _, _, _, _, _, m, hm => by simp at hm
  | [], _ :: _, _, _, _, _, _, h, _, _ => h.elim
  | _ :: _, [], _, _, _, _, _, h, _, _ => h.elim
  | p :: es, m :: ord, s, s', out, hsub, h, ha, m', hm' => by
    simp only [copyProgress] at h
    split at h
    · rename_i q hq
      split at h
      · rename_i pc hpc
        split at h
        · rename_i hsh
          split at h
          · rename_i n s1' hno
            split at h
            · rename_i l s2 hrec
              obtain ⟨hn, hfree, rfl⟩ := newO_eq hno
              rcases List.mem_cons.1 hm' with rfl | hm'
              · have hval := ha.1.2
                rw [ptrT_eq hq] at hval
                obtain ⟨lq, hlq, hmv⟩ : ∃ l : Loc, α q = some l ∧ m'.val = .pointer (some ⟨l.block, l.base + 0, none⟩) := hval
                obtain ⟨o, ho⟩ : ∃ o, s1.mem.get q = some o := by
                  cases h1 : s1.mem.get q with
                  | none => rw [(hR.dom q).2 h1] at hlq; cases hlq
                  | some o => exact ⟨o, rfl⟩
                have h2 := hsub _ _ ho
                rw [blk310_eq hpc] at h2
                cases h2
                obtain ⟨xs, hb, hxs, hbase, hesz, hcap⟩ := hR.obj _ _ _ ho hlq
                exact ⟨xs, lq.block, by rw [hmv, hbase], hb, prShape_val hsh hxs⟩
              · refine copy_pr hR (fun k o hk => ?_) hrec ha.2 m' hm'
                have h3 := hsub k o hk
                show (s.mem.put n _).get k = some o
                rw [PT.get_put]
                split
                · rename_i e
                  subst e
                  rw [hfree] at h3
                  cases h3
                · exact h3
            · cases h
          · cases h
        · cases h
      · cases h
    · cases h

theorem len_succ {β : Type} {l : List β} {n : Nat} (h : l.length = n + 1) : ∃ a m, l = a :: m ∧ m.length = n := by
  cases l with
  | nil => simp at h
  | cons a m => exact ⟨a, m, rfl, by simpa using h⟩

set_option maxHeartbeats 1600000 in
theorem con_checkCopy (hc : CfgOK Tryz.prog ρ c) : ConOK Tryz.prog ρ 173 (cCheckAndCopy c 271 180) := by
  intro call hcall args s v s' h α w vals hR hv
  unfold cCheckAndCopy at h
  split at h
  rotate_left
  · cases h
  rename_i cs hargs
  split at h
  rotate_left
  · cases h
  rename_i hlen
  split at h
  rotate_left
  · cases h
  rename_i p s1 hno1
  split at h
  rotate_left
  · cases h
  rename_i cfg s2 hcl
  split at h
  rotate_left
  · cases h
  rename_i cc cs' hcc hcs'
  split at h
  rotate_left
  · cases h
  rename_i pm hsh hpm
  split at h
  rotate_left
  · cases h
  rename_i es hmap
  split at h
  rotate_left
  · cases h
  rename_i hdk
  split at h
  rotate_left
  · cases h
  rename_i out s3 hcp
  split at h
  rotate_left
  · cases h
  rename_i m s4 hno2
  split at h
  rotate_left
  · cases h
  rename_i r s5 hcr
  split at h
  rotate_left
  · cases h
  rename_i rc ra rb hres
  split at h
  rotate_left
  · cases h
  rename_i hrc
  simp only [Option.some.injEq, Prod.mk.injEq] at h
  obtain ⟨rfl, rfl⟩ := h
  obtain ⟨a0, ha0, hm0⟩ := Option.bind_eq_some_iff.1 hargs
  have := oneArg_eq ha0; subst this
  have := aggOf'_eq hm0; subst this
  have := aggOf'_eq hcc; subst this
  have := resThree_eq hres; subst this
  obtain ⟨e', hpblk⟩ := blkOf_eq hcs'
  obtain ⟨u, rfl, hx⟩ := args_one hv
  obtain ⟨xs, rfl, hxs⟩ : ∃ xs, u = .agg xs ∧ All2 (CR ρ α) cs xs.toList := hx
  have hlen := Nat.eq_of_beq_eq_true hlen
  rw [len_eq] at hlen
  have hxl : xs.toList.length = 10 := by rw [← hxs.length, hlen]
  obtain ⟨c0, l0, e0, hl⟩ := len_succ hxl
  obtain ⟨c1, l1, e1, hl⟩ := len_succ hl
  obtain ⟨c2, l2, e2, hl⟩ := len_succ hl
  obtain ⟨c3, l3, e3, hl⟩ := len_succ hl
  obtain ⟨c4, l4, e4, hl⟩ := len_succ hl
  obtain ⟨c5, l5, e5, hl⟩ := len_succ hl
  obtain ⟨c6, l6, e6, hl⟩ := len_succ hl
  obtain ⟨c7, l7, e7, hl⟩ := len_succ hl
  obtain ⟨c8, l8, e8, hl⟩ := len_succ hl
  obtain ⟨c9, l9, e9, hl⟩ := len_succ hl
  have e10 := List.eq_nil_of_length_eq_zero hl
  have hxe : xs = #[c0, c1, c2, c3, c4, c5, c6, c7, c8, c9] := by
    apply Array.ext'
    rw [e0, e1, e2, e3, e4, e5, e6, e7, e8, e9, e10]
  clear e0 e1 e2 e3 e4 e5 e6 e7 e8 e9 e10 hxl hl
  obtain ⟨hp, hfree1, rfl⟩ := newO_eq hno1
  obtain ⟨hm, hfree2, rfl⟩ := newO_eq hno2
  -- the box
  obtain ⟨w1, hw1⟩ : ∃ w1, w1 = w.alloc (.cells xs 242) := ⟨_, rfl⟩
  obtain ⟨w2, hw2⟩ : ∃ w2, w2 = w1.alloc (.cells #[.map none, .map none, .bool false, .map none, .map none] 171) := ⟨_, rfl⟩
  have hs1 : w1.heap.size = w.heap.size + 1 := by rw [hw1]; show (w.heap.push _).size = _; simp
  have hs2 : w2.heap.size = w.heap.size + 2 := by rw [hw2]; show (w1.heap.push _).size = _; simp [hs1]
  have hB01 : Below w.heap.size w w1 := by rw [hw1]; exact (Below.refl _ _).alloc (Nat.le_refl _) _
  have hB12 : Below w1.heap.size w1 w2 := by rw [hw2]; exact (Below.refl _ _).alloc (Nat.le_refl _) _
  have hrb2 : w2.heap[w.heap.size + 1]? = some (.cells #[.map none, .map none, .bool false, .map none, .map none] 171 (0, 0)) := by rw [hw2, ← hs1]; exact heap_alloc_new _ _
  have hαp : α p = none := (hR.dom p).2 hfree1
  have hle1 : α.le (α.with p ⟨w.heap.size, 0, 1, xs.size⟩) := Al.le_with hαp
  obtain ⟨hR1, hF1⟩ := Rel.new (o := .blk cs 242) (l := ⟨w.heap.size, 0, 1, xs.size⟩) hR hfree1 hB01 (Nat.le_refl _) ⟨xs, by rw [hw1]; exact heap_alloc_new _ _, hxs.mono fun _ _ => CR.mono hle1, rfl, rfl, rfl⟩ (s.ctr + 1)
  have hR2 := hR1.grow hB12
  have hF2 := Fr.grow (α.with p ⟨w.heap.size, 0, 1, xs.size⟩) ⟨s.mem.put p (.blk cs 242), s.ctr + 1⟩ hB12
  -- the block of the result: not known to anyone
  have hnu0 : ¬ Used α s (w.heap.size + 1) := fun ⟨n, o, l, hn, hl, hαl, e⟩ => by have := (hR.obj n o l hn hαl).lt hl; omega
  have hnu1 : ¬ Used (α.with p ⟨w.heap.size, 0, 1, xs.size⟩) ⟨s.mem.put p (.blk cs 242), s.ctr + 1⟩ (w.heap.size + 1) := fun ⟨n, o, l, hn, hl, hαl, e⟩ => by have := (hR1.obj n o l hn hαl).lt hl; omega
  have mine_used : ∀ {α : Al} {s : St} {b : Nat}, Mine α s b → Used α s b := fun ⟨n, o, l, hn, hl, hαl, e⟩ => ⟨n, o, l, hn, Obj.live_of_own hl, hαl, e⟩
  have hmain := copy_any c0 c1 c2 c3 c4 c5 c6 c7 c8 c9
    (fun d0 d1 d2 d3 d4 w3 => ∃ α2, Rel Tryz.prog ρ α2 s2 w3 ∧ Fr (α.with p ⟨w.heap.size, 0, 1, xs.size⟩) ⟨s.mem.put p (.blk cs 242), s.ctr + 1⟩ w2 α2 s2 w3 ∧ All2 (CR ρ α2) cc [.map d0, .map d1, .bool d2, .map d3, .map d4])
    (fun x y z wx => ∃ α5, Rel Tryz.prog ρ α5 s5 wx ∧ Fr α s w α5 s5 wx ∧ VR ρ α5 (.tup [.agg rc, .sc ra, .sc rb]) (.tuple #[x, y, z]) ∧ ¬ Used α5 s5 (w.heap.size + 1)) w ?_ ?_
  · rw [← hxe] at hmain
    refine hmain.mono ?_
    rintro e wx ⟨x, y, z, w9, rfl, ⟨α5, hR5, hF5, hv5, hnu5⟩, hO⟩
    have hge : ρ.w0.heap.size ≤ w.heap.size := hR.size
    exact ⟨_, rfl, α5, hR5.unused hnu5 (by omega) hO.block hO.size hO.os hO.tape hO.output, ⟨hF5.le, by rw [hO.size]; exact hF5.size, fun b hb hm => (hO.block b (by omega)).trans (hF5.kept b hb hm), hF5.mine, hF5.used⟩, hv5⟩
  · rw [← hxe, ← hw1, ← hw2]
    refine (hcall 271 _ _ _ _ hcl _ w2 #[.pointer (some ⟨w.heap.size, 0, none⟩)] hR2 ⟨⟨⟨w.heap.size, 0, 1, xs.size⟩, by simp [Al.with], rfl⟩, trivial⟩).mono ?_
    rintro e w3 ⟨x, rfl, α2, hR3, hF3, ys, rfl, hys⟩
    obtain ⟨d0, d1, d2, d3, d4, rfl⟩ := cfgShape_val hsh hys
    exact ⟨d0, d1, d2, d3, d4, rfl, α2, hR3, hF3, hys⟩
  · rintro d0 d1 d2 d3 d4 w3 ⟨α2, hR3, hF3, hcfg⟩
    have hsz3 := hF3.size
    have hlp : α2 p = some ⟨w.heap.size, 0, 1, xs.size⟩ := hF3.le _ _ (by simp [Al.with])
    obtain ⟨xs', hb', hxs', _⟩ := hR3.obj _ _ _ hpblk hlp
    rw [nth_eq] at hpm
    obtain ⟨v5, hv5, hr5⟩ := hxs'.get 5 _ hpm
    obtain ⟨m5, ents, ord, rfl, hM, hperm, ha⟩ := mapOf_ok hR3 hr5 hmap
    obtain ⟨hk, hndk, _⟩ := distinctK_ok hc.facts hdk ha
    have hpr := copy_pr hR3 (fun _ _ h => h) hcp ha
    refine ⟨by omega, m5, ents, ?_, hM, fun q hq => hk q (hperm.subset hq), ((hperm.map _).nodup_iff).2 hndk, fun q hq => hpr q (hperm.subset hq), ?_⟩
    · rw [cell_of hb']
      simpa using hv5
    · rintro w9 ⟨vis, f, hvp, hC⟩
      have hB := hC.below
      have hR9 := hR3.grow hB
      have hF9 := Fr.grow α2 s2 hB
      have hvo : vis.Perm ord := hvp.trans hperm
      have hordb : (ord.map (·.born)).Nodup := by
        have : (ents.map (·.born)).Nodup := by
          cases m5 with
          | none => rw [show ents = [] from hM]; simp
          | some b => obtain ⟨_, _, _, _, _, h⟩ := hM; exact h
        exact ((hperm.map _).nodup_iff).1 this
      have hge3 : ρ.w0.heap.size ≤ w3.heap.size := hR3.size
      have hPr9 : ∀ q ∈ ord, ∀ ys, PrAt w9 q.val ys → w9.heap[f q.born]? = some (.cells ys 310 (0, 0)) := fun q hq ys hy => by
        obtain ⟨zs, hz⟩ := hpr q hq
        obtain ⟨b1, hq1, hb1, _⟩ := hy
        have hz' := hz
        obtain ⟨b2, hq2, hb2, _⟩ := hz
        rw [hq1] at hq2
        cases hq2
        have hlt : b1 < w3.heap.size := (Array.getElem?_eq_some_iff.1 hb2).1
        rw [hB.block b1 hlt, hb2] at hb1
        cases hb1
        exact hC.copy q (hvo.symm.subset hq) _ hz'
      have hfinj : (ord.map fun q => f q.born).Nodup := by
        have hi : ∀ a ∈ ord, ∀ b ∈ ord, f a.born = f b.born → a.born = b.born := fun a ha b hb => hC.inj a (hvo.symm.subset ha) b (hvo.symm.subset hb)
        clear ha hPr9 hpr hvo hvp hk hndk hperm
        induction ord with
        | nil => simp
        | cons q l ih =>
          simp only [List.map_cons, List.nodup_cons] at hordb ⊢
          refine ⟨fun hin => ?_, ih hordb.2 fun a ha b hb => hi a (by simp [ha]) b (by simp [hb])⟩
          obtain ⟨q', hq', e⟩ := List.mem_map.1 hin
          exact hordb.1 (List.mem_map.2 ⟨q', hq', hi q' (by simp [hq']) q (by simp) e⟩)
      obtain ⟨α3, hRa, hFa, hlea, haa, hua⟩ := copy_rel (f := f) (α0 := α) (s0 := s) (w0 := w) hcp hR9 (((hF1.trans hF2).trans hF3).trans hF9) ha hPr9
        (fun q hq => by
          obtain ⟨h1, h2⟩ := hC.hi q (hvo.symm.subset hq)
          exact ⟨fun ⟨n, o, l, hn, hl, hαl, e⟩ => by have := (hR3.obj n o l hn hαl).lt hl; omega, by omega, by omega⟩) hfinj
      -- the map
      obtain ⟨es', ⟨ents', clock, hbm, rfl, hborn', hnd'⟩, hkv⟩ := hC.own
      have h1 : (kvs ents'.toList).Perm (ptrKvs f ord) := by rw [hkv]; exact hvo.map _
      obtain ⟨ord', h2, h3⟩ := perm_map (fun m : MapEntry => (m.key, m.val)) h1
      have hαm : α3 m = none := (hRa.dom m).2 hfree2
      have hleb := Al.le_with (l := ⟨w3.heap.size + 1, 0, 1, 0⟩) hαm
      have hmp : OR Tryz.prog ρ (α3.with m ⟨w3.heap.size + 1, 0, 1, 0⟩) w9 ⟨w3.heap.size + 1, 0, 1, 0⟩ (.mp out) := by
        refine ⟨ents', clock, ord', hbm, h2, ?_, hborn', hnd'⟩
        have hlen2 : ord'.length = ord.length := by have := congrArg List.length h3; simpa [ptrKvs] using this
        refine All2.of_get (by rw [hlen2]; have := haa.length; simpa using this) fun i q z hq hz => ?_
        obtain ⟨z0, hz0, hr⟩ := haa.get i q hq
        have h4 : (ord'.map fun m => (m.key, m.val))[i]? = (ptrKvs f ord)[i]? := by rw [h3]
        simp only [List.getElem?_map, Option.map_eq_some_iff] at hz0
        obtain ⟨y, hy, rfl⟩ := hz0
        simp only [ptrKvs, List.getElem?_map, hz, hy, Option.map_some, Option.some.injEq, Prod.mk.injEq] at h4
        refine ⟨by rw [h4.1]; exact CR.mono hleb hr.1, by rw [h4.2]; exact T1R.mono hleb hr.2⟩
      have hnmo : ∀ m' o' l', s3.mem.get m' = some o' → α3 m' = some l' → o'.live = true → l'.block ≠ w3.heap.size + 1 := fun m' o' l' hm' hl' hlv e => by
        rcases hua _ ⟨m', o', l', hm', hlv, hl', rfl⟩ with ⟨n, o, l, hn, hl, hαl, e2⟩ | ⟨q, hq, e2⟩
        · have := (hR3.obj n o l hn hαl).lt hl; omega
        · have := (hC.hi q (hvo.symm.subset hq)).1; omega
      have hRb := Rel.add (o := .mp out) (l := ⟨w3.heap.size + 1, 0, 1, 0⟩) hRa hfree2 hmp (by show _ ≤ w3.heap.size + 1; omega) hnmo (s3.ctr + 1)
      have hFb := Fr.add (o := .mp out) (l := ⟨w3.heap.size + 1, 0, 1, 0⟩) hFa hαm (by show _ ≤ w3.heap.size + 1; omega) (s3.ctr + 1)
      have hnub : ¬ Used (α3.with m ⟨w3.heap.size + 1, 0, 1, 0⟩) ⟨s3.mem.put m (.mp out), s3.ctr + 1⟩ (w.heap.size + 1) := by
        rintro ⟨n, o, l, hn, hl, hαl, e⟩
        simp only [Al.with, PT.get_put] at hn hαl
        split at hn
        · rename_i e'
          rw [if_pos e'] at hαl
          cases hαl
          have : w3.heap.size + 1 = w.heap.size + 1 := e
          omega
        · rename_i e'
          rw [if_neg e'] at hαl
          rcases hua _ ⟨n, o, l, hn, hl, hαl, e⟩ with hu | ⟨q, hq, e2⟩
          · rcases hF3.used _ hu with hu | hu
            · exact hnu1 hu
            · omega
          · have := (hC.hi q (hvo.symm.subset hq)).1; omega
      have hrb9 : w9.heap[w.heap.size + 1]? = some (.cells #[.map none, .map none, .bool false, .map none, .map none] 171 (0, 0)) := by
        rw [hB.block _ (by omega), hF3.kept _ (by omega) (fun hm => hnu1 (mine_used hm))]
        exact hrb2
      have hle25 : α2.le (α3.with m ⟨w3.heap.size + 1, 0, 1, 0⟩) := hlea.trans hleb
      refine (hcall 180 _ _ _ _ hcr _ w9 #[.agg #[.map d0, .map d1, .bool d2, .map d3, .map d4], .map (some (w3.heap.size + 1))] hRb ⟨⟨_, rfl, hcfg.mono fun _ _ => CR.mono hle25⟩, ⟨⟨w3.heap.size + 1, 0, 1, 0⟩, by simp [Al.with], rfl⟩, trivial⟩).mono ?_
      rintro e wx ⟨x, rfl, α5, hR5, hF5, hvx⟩
      obtain ⟨zs, rfl, hzs⟩ := hvx
      obtain ⟨z0, q0, t0, ⟨az, hz0, haz⟩, hzs'⟩ := hzs.uncons
      obtain ⟨z1, q1, t1, hz1, hzs'⟩ := hzs'.uncons
      obtain ⟨z2, q2, t2, hz2, hzs'⟩ := hzs'.uncons
      have t3 := hzs'.unnil
      subst hz0
      obtain ⟨e0, e1, e2, e3, e4, rfl⟩ := cfgShape_val hrc haz
      have hzse : zs = #[.agg #[.map e0, .map e1, .bool e2, .map e3, .map e4], z1, z2] := by
        apply Array.ext'
        rw [t0, t1, t2, t3]
      subst hzse
      have hrbx : wx.heap[w.heap.size + 1]? = some (.cells #[.map none, .map none, .bool false, .map none, .map none] 171 (0, 0)) := by
        rw [hF5.kept _ (by have := hB.size; omega) (fun hm => hnub (mine_used hm))]
        exact hrb9
      refine ⟨e0, e1, e2, e3, e4, z1, z2, rfl, ⟨α5, hR5, hFb.trans hF5, ⟨_, rfl, hzs⟩, fun hu => ?_⟩, none, none, false, none, none, hrbx⟩
      rcases hF5.used _ hu with hu | hu
      · exact hnub hu
      · have := hB.size; omega
end
end Go.Sx
end
