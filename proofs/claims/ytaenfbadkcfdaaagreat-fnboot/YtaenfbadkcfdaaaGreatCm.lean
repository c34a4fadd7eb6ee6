/-
  The contracts of the functions on sets.
-/
import Derived.Test.YtaenfbadkcfdaaaGreatCa
import Derived.Test.YtaenfbadkcfdaaaGreatBg
import Derived.Test.YtaenfbadkcfdaaaGreatBk
import Derived.Test.YtaenfbadkcfdaaaGreatBj
noncomputable section
namespace Go.Sx
open Go.RowKit (Below)
open Go.Proofs
set_option linter.unusedVariables false
set_option linter.unusedSimpArgs false
section
variable {ρ : Env} {c : Cfg} {α : Al} {P : Program} {s s' : St} {w w' : World}

theorem mapOf_ok (hR : Rel P ρ α s w) {m : C} {v : Value} (hv : CR ρ α m v) {x : List (C × T1)} (h : mapOf s m = some x) :
    ∃ bm es ord, v = .map bm ∧ MapAt w bm es ∧ es.Perm ord ∧ All2 (EntR ρ α) x ord := by
  unfold mapOf at h
  split at h
  · simp at h; subst h
    exact ⟨none, [], [], hv, rfl, List.Perm.refl _, trivial⟩
  · rename_i n
    split at h
    · rename_i es hm
      simp at h; subst h
      obtain ⟨l, hl, rfl⟩ : ∃ l, α n = some l ∧ v = .map (some l.block) := hv
      obtain ⟨ents, clock, ord, hb, hp, ha, hborn, hnd⟩ := hR.obj _ _ _ hm hl
      exact ⟨some l.block, ents.toList, ord, rfl, ⟨ents, clock, hb, rfl, hborn, hnd⟩, hp, ha⟩
    · cases h
  · cases h

theorem int_of {e : E} {p : C × T1} {m : MapEntry} (h : EntR ρ α p m) (hp : p.1 = .a (.int .u64 e)) : m.key = .int .u64 (e.den ρ) := by
  obtain ⟨h1, _⟩ := h
  rw [hp] at h1
  exact h1

theorem eq_int (hf : FactsOK ρ c.facts) {e : E} {y : C} {b : Bool} {u : Value} (h : eqCell c (.a (.int .u64 e)) y = some b) (hy : CR ρ α y u) : (b = true → u = .int .u64 (e.den ρ)) ∧ (b = false → u ≠ .int .u64 (e.den ρ)) := by
  cases y with
  | a q => cases q with
    | int k2 e2 =>
      have h2 : u = .int k2 (e2.den ρ) := hy
      simp only [eqCell] at h
      split at h
      · rename_i hkk
        subst hkk
        have hd2 := decideCmp_ok hf h
        simp only [cmpLit, Option.some.injEq] at hd2
        subst h2
        constructor
        · rintro rfl
          have : e.den ρ = e2.den ρ := by simpa using hd2
          rw [this]
        · rintro rfl
          have : e.den ρ ≠ e2.den ρ := by simpa using hd2
          intro e
          injection e with _ e
          exact this e.symm
      · cases h
    | _ => simp [eqCell] at h
  | _ => simp [eqCell] at h

theorem distinctK_ok (hf : FactsOK ρ c.facts) : ∀ {x : List (C × T1)} {ord : List MapEntry}, distinctK c x = true → All2 (EntR ρ α) x ord → U64s ord ∧ (ord.map (·.key)).Nodup ∧ ∀ p ∈ x, ∃ e, p.1 = .a (.int .u64 e)
  | [], [], _, _ => ⟨fun m hm => by simp at hm, by simp, fun p hp => by simp at hp⟩
  | [], _ :: _, _, h => h.elim
  | _ :: _, [], _, h => h.elim
  | p :: x, m :: ord, h, ha => by
    unfold distinctK at h
    split at h
    · simp at *
    · rename_i e t es heq
      cases heq
      rw [Bool.and_eq_true] at h
      obtain ⟨h1, h2, h3⟩ := distinctK_ok hf h.2 ha.2
      have hm := int_of ha.1 rfl
      refine ⟨fun q hq => ?_, ?_, fun q hq => ?_⟩
      · rcases List.mem_cons.1 hq with rfl | hq
        · exact ⟨_, hm⟩
        · exact h1 q hq
      · rw [List.map_cons, List.nodup_cons]
        refine ⟨fun hin => ?_, h2⟩
        obtain ⟨q, hq, hqk⟩ := List.mem_map.1 hin
        obtain ⟨p', hp', hr⟩ := ha.2.mem q hq
        exact (eq_int hf (noneOf_ok h.1 p' hp') hr.1).2 rfl (hqk.trans hm)
      · rcases List.mem_cons.1 hq with rfl | hq
        · exact ⟨_, rfl⟩
        · exact h3 q hq
    · cases h
theorem unitsT_ok : ∀ {x : List (C × T1)} {ord : List MapEntry}, unitsT x = true → All2 (EntR ρ α) x ord → (∀ m ∈ ord, m.val = .agg #[]) ∧ ∀ p ∈ x, p.2 = .agg []
  | [], [], _, _ => ⟨fun m hm => by simp at hm, fun p hp => by simp at hp⟩
  | [], _ :: _, _, h => h.elim
  | _ :: _, [], _, h => h.elim
  | p :: x, m :: ord, h, ha => by
    unfold unitsT at h
    split at h
    · simp at *
    · rename_i k es heq
      cases heq
      obtain ⟨h1, h2⟩ := unitsT_ok h ha.2
      obtain ⟨xs, e, hxs⟩ : ∃ xs, m.val = .agg xs ∧ All2 (CR ρ α) [] xs.toList := ha.1.2
      have : xs = #[] := by
        apply Array.ext'
        have := hxs.length
        simp at this
        simpa using this.symm
      subst this
      refine ⟨fun q hq => ?_, fun q hq => ?_⟩
      · rcases List.mem_cons.1 hq with rfl | hq
        · exact e
        · exact h1 q hq
      · rcases List.mem_cons.1 hq with rfl | hq
        · rfl
        · exact h2 q hq
    · cases h
structure SetIs (ord : List MapEntry) : Prop where
  keys : U64s ord
  nodup : (ord.map (·.key)).Nodup
  units : ∀ m ∈ ord, m.val = .agg #[]
  len : ord.length ≤ 9
theorem setOK_ok (hf : FactsOK ρ c.facts) {x : List (C × T1)} {ord es : List MapEntry} (h : setOK c x = true) (ha : All2 (EntR ρ α) x ord) (hp : es.Perm ord) : SetIs es ∧ (∀ p ∈ x, ∃ e, p.1 = .a (.int .u64 e)) ∧ ∀ p ∈ x, p.2 = .agg [] := by
  simp only [setOK, Bool.and_eq_true] at h
  obtain ⟨⟨h1, h2⟩, h3⟩ := h
  obtain ⟨a1, a2, a3⟩ := distinctK_ok hf h1 ha
  obtain ⟨b1, b2⟩ := unitsT_ok h2 ha
  have h3 := Nat.le_of_ble_eq_true h3
  rw [len_eq] at h3
  have := ha.length
  exact ⟨⟨fun m hm => a1 m (hp.subset hm), ((hp.map _).nodup_iff).2 a2, fun m hm => b1 m (hp.subset hm), by rw [hp.length_eq]; omega⟩, a3, b2⟩

theorem perm_map {β γ : Type} (f : β → γ) : ∀ {m : List γ} {l : List β}, (l.map f).Perm m → ∃ l', l.Perm l' ∧ l'.map f = m
  | [], l, h => ⟨[], by have := h.eq_nil; simp at this; subst this; exact List.Perm.refl _, rfl⟩
  | y :: m, l, h => by
    have hy : y ∈ l.map f := h.symm.subset (by simp)
    obtain ⟨x, hx, rfl⟩ := List.mem_map.1 hy
    obtain ⟨A, B, rfl⟩ := List.append_of_mem hx
    have h2 : ((A ++ B).map f).Perm m := by
      rw [List.map_append, List.map_cons] at h
      rw [List.map_append]
      exact List.Perm.cons_inv (List.perm_middle.symm.trans h)
    obtain ⟨l', h3, h4⟩ := perm_map f h2
    exact ⟨x :: l', List.perm_middle.trans (List.Perm.cons x h3), by rw [List.map_cons, h4]⟩

/-- a set that was made anew -/
theorem made_set {x : List (C × T1)} {ord vis es : List MapEntry} (ha : All2 (EntR ρ α) x ord) (hu : ∀ p ∈ x, p.2 = .agg []) (hp : es.Perm ord) (hv : vis.Perm es) {b : Nat} (hO : OwnM w b (unitKvs vis)) {n : Nat} {l : Loc} (hl : l.block = b) : OR P ρ α w l (.mp x) := by
  obtain ⟨es', ⟨ents, clock, hb, rfl, hborn, hnd⟩, hkv⟩ := hO
  have h1 : (kvs ents.toList).Perm (unitKvs ord) := by rw [hkv]; exact (hv.trans hp).map _
  obtain ⟨ord', h2, h3⟩ := perm_map (fun m : MapEntry => (m.key, m.val)) h1
  refine ⟨ents, clock, ord', by rw [hl]; exact hb, h2, ?_, hborn, hnd⟩
  have hlen : ord'.length = ord.length := by have := congrArg List.length h3; simpa [unitKvs] using this
  refine All2.of_get (by rw [hlen]; exact ha.length) fun i p m hp hm => ?_
  obtain ⟨m0, hm0, hr⟩ := ha.get i p hp
  have h4 : (ord'.map fun m => (m.key, m.val))[i]? = (unitKvs ord)[i]? := by rw [h3]
  simp only [unitKvs, List.getElem?_map, hm, hm0, Option.map_some, Option.some.injEq, Prod.mk.injEq] at h4
  refine ⟨by rw [h4.1]; exact hr.1, ?_⟩
  rw [h4.2, hu p (List.mem_of_getElem? hp)]
  exact ⟨#[], rfl, trivial⟩

theorem oneArg_eq {l : List V} {v : V} (h : oneArg l = some v) : l = [v] := by
  match l with
  | [] => simp [oneArg] at h
  | [a] => simp [oneArg] at h; rw [h]
  | a :: b :: t => simp [oneArg] at h
theorem twoArgs_eq {l : List V} {v w : V} (h : twoArgs l = some (v, w)) : l = [v, w] := by
  match l with
  | [] => simp [twoArgs] at h
  | [a] => simp [twoArgs] at h
  | [a, b] => simp [twoArgs] at h; rw [h.1, h.2]
  | a :: b :: d :: t => simp [twoArgs] at h
theorem cellOf_eq {v : V} {c : C} (h : cellOf v = some c) : v = .sc c := by
  cases v <;> simp [cellOf] at h
  rw [h]
theorem cellsTwo_eq {v : V} {a b : C} (h : cellsTwo v = some (a, b)) : v = .agg [a, b] := by
  cases v with
  | agg l =>
    match l with
    | [] => simp [cellsTwo] at h
    | [x] => simp [cellsTwo] at h
    | [x, y] => simp [cellsTwo] at h; rw [h.1, h.2]
    | x :: y :: z :: t => simp [cellsTwo] at h
  | sc => simp [cellsTwo] at h
  | tup => simp [cellsTwo] at h
theorem isNilMap_eq {c : C} (h : isNilMap c = true) : c = .a (.map none) := by
  cases c with
  | a x =>
    cases x with
    | map m => cases m with
      | none => rfl
      | some => simp [isNilMap] at h
    | _ => simp [isNilMap] at h
  | _ => simp [isNilMap] at h

theorem args_one {v : V} {vals : Array Value} (hv : All2 (VR ρ α) [v] vals.toList) : ∃ u, vals = #[u] ∧ VR ρ α v u := by
  obtain ⟨u, hu, hx⟩ := hv.one
  exact ⟨u, by apply Array.ext'; simpa using hu, hx⟩
theorem args_two {v v' : V} {vals : Array Value} (hv : All2 (VR ρ α) [v, v'] vals.toList) : ∃ u u', vals = #[u, u'] ∧ VR ρ α v u ∧ VR ρ α v' u' := by
  obtain ⟨u0, h0, hx0⟩ := hv.get 0 _ rfl
  obtain ⟨u1, h1, hx1⟩ := hv.get 1 _ rfl
  have hlen := hv.length
  refine ⟨u0, u1, ?_, hx0, hx1⟩
  apply Array.ext'
  apply List.ext_getElem?
  intro k
  match k with
  | 0 => simpa using h0
  | 1 => simpa using h1
  | k + 2 =>
    rw [List.getElem?_eq_none (by simp at hlen ⊢; omega)]
    simp

theorem con_clone1 (hf : FactsOK ρ c.facts) : ConOK Tryz.prog ρ 324 (cClone1 c) := by
  intro call hcall args s v s' h α w vals hR hv
  unfold cClone1 at h
  split at h
  · rename_i mc hargs
    obtain ⟨a0, ha0, hm0⟩ := Option.bind_eq_some_iff.1 hargs
    have := oneArg_eq ha0; subst this
    have := cellOf_eq hm0; subst this
    obtain ⟨u, rfl, hx⟩ := args_one hv
    split at h
    · rename_i hnil
      simp at h
      obtain ⟨rfl, rfl⟩ := h
      have := isNilMap_eq hnil; subst this
      have hue : u = .map none := hx
      subst hue
      refine (clone_nil w).mono ?_
      rintro e w' ⟨rfl, rfl⟩
      exact ⟨_, rfl, Post.here hR rfl⟩
    · rename_i hnil
      split at h
      · rename_i es hm
        split at h
        · rename_i hs
          split at h
          · rename_i n s1 hno
            simp at h
            obtain ⟨rfl, rfl⟩ := h
            obtain ⟨hn, hfree, rfl⟩ := newO_eq hno
            obtain ⟨bm, ents, ord, hbmv, hM, hp, ha⟩ := mapOf_ok hR (show CR ρ α _ u from hx) hm
            obtain ⟨hS, _, hun⟩ := setOK_ok hf hs ha hp
            obtain ⟨b0, rfl⟩ : ∃ b0, bm = some b0 := by
              cases bm with
              | some b => exact ⟨b, rfl⟩
              | none =>
                subst hbmv
                unfold mapOf at hm
                split at hm
                · simp [isNilMap] at hnil
                · rename_i mm
                  obtain ⟨l0, _, hbm⟩ : ∃ l : Loc, α mm = some l ∧ Value.map none = .map (some l.block) := hx
                  cases hbm
                · cases hm
            subst hbmv
            refine (clone_some _ ents hS.keys hS.nodup (by have := hS.len; omega) w hM).mono ?_
            rintro e w' ⟨b, vis, rfl, hb, hB, hvp, hO⟩
            have hle : α.le (α.with n ⟨b, 0, 1, 0⟩) := Al.le_with ((hR.dom n).2 hfree)
            have := Rel.new (o := .mp es) (l := ⟨b, 0, 1, 0⟩) hR hfree hB hb (made_set (n := n) (ha.mono fun p m h => ⟨CR.mono hle h.1, T1R.mono hle h.2⟩) hun hp hvp hO rfl) (s.ctr + 1)
            exact ⟨_, rfl, _, this.1, this.2, ⟨b, 0, 1, 0⟩, by simp [Al.with], rfl⟩
          · cases h
        · cases h
      · cases h
  · cases h

theorem con_ids (hf : FactsOK ρ c.facts) : ConOK Tryz.prog ρ 188 (cIDs c) := by
  intro call hcall args s v s' h α w vals hR hv
  unfold cIDs at h
  split at h
  · rename_i a b hargs
    obtain ⟨a0, ha0, hm0⟩ := Option.bind_eq_some_iff.1 hargs
    have := oneArg_eq ha0; subst this
    have := cellsTwo_eq hm0; subst this
    obtain ⟨u, rfl, hx⟩ := args_one hv
    split at h
    · rename_i x hma hmb
      split at h
      · rename_i hs
        split at h
        · rename_i n s1 hno
          simp at h
          obtain ⟨rfl, rfl⟩ := h
          obtain ⟨hn, hfree, rfl⟩ := newO_eq hno
          obtain ⟨xs, rfl, hxs⟩ : ∃ xs, u = .agg xs ∧ All2 (CR ρ α) [a, b] xs.toList := hx
          obtain ⟨u0, hu0, hr0⟩ := hxs.get 0 _ rfl
          obtain ⟨u1, hu1, hr1⟩ := hxs.get 1 _ rfl
          have hlen := hxs.length
          have hxe : xs = #[u0, u1] := by
            apply Array.ext'
            apply List.ext_getElem?
            intro k
            match k with
            | 0 => simpa using hu0
            | 1 => simpa using hu1
            | k + 2 =>
              rw [List.getElem?_eq_none (by simp at hlen ⊢; omega)]
              simp
          subst hxe
          obtain ⟨bm, ents, ord, rfl, hM, hp, ha⟩ := mapOf_ok hR hr0 hma
          obtain ⟨bm1, ents1, ord1, rfl, hM1, hp1, ha1⟩ := mapOf_ok hR hr1 hmb
          have he1 : ents1 = [] := by
            have h1 := ha1.length
            have h2 := hp1.length_eq
            exact List.eq_nil_of_length_eq_zero (by rw [h2, ← h1]; rfl)
          subst he1
          obtain ⟨hS, _, hun⟩ := setOK_ok hf hs ha hp
          refine (ids_any bm bm1 ents hS.keys hS.nodup w hM hM1).mono ?_
          rintro e w' ⟨b, vis, rfl, hb, hB, hvp, hO⟩
          have hle : α.le (α.with n ⟨b, 0, 1, 0⟩) := Al.le_with ((hR.dom n).2 hfree)
          have := Rel.new (o := .mp x) (l := ⟨b, 0, 1, 0⟩) hR hfree hB hb (made_set (n := n) (ha.mono fun p m h => ⟨CR.mono hle h.1, T1R.mono hle h.2⟩) hun hp hvp hO rfl) (s.ctr + 1)
          exact ⟨_, rfl, _, this.1, this.2, ⟨b, 0, 1, 0⟩, by simp [Al.with], rfl⟩
        · cases h
      · cases h
    · cases h
  · cases h

theorem notIn_ok (hf : FactsOK ρ c.facts) {y : List (C × T1)} {oy : List MapEntry} (hy : All2 (EntR ρ α) y oy) : ∀ {x : List (C × T1)} {ox : List MapEntry} {n : Nat}, (∀ p ∈ x, ∃ e, p.1 = .a (.int .u64 e)) → notIn c y x = some n → All2 (EntR ρ α) x ox → miss ox oy = n
  | [], [], n, _, h, _ => by simp [notIn] at h; subst h; simp [miss]
  | [], _ :: _, _, _, _, h => h.elim
  | _ :: _, [], _, _, _, h => h.elim
  | p :: x, m :: ox, n, hk, h, ha => by
    obtain ⟨k, t⟩ := p
    obtain ⟨e, he⟩ := hk (k, t) (by simp)
    have he : k = .a (.int .u64 e) := he
    subst he
    have hm := int_of ha.1 rfl
    have hcons1 : (∀ m' ∈ oy, m'.key ≠ m.key) → miss (m :: ox) oy = miss ox oy + 1 := fun hq => by
      unfold miss
      rw [List.filter_cons_of_pos (by simpa using hq)]
      rfl
    have hcons0 : ¬ (∀ m' ∈ oy, m'.key ≠ m.key) → miss (m :: ox) oy = miss ox oy := fun hq => by
      unfold miss
      rw [List.filter_cons_of_neg (by simpa using hq)]
    simp only [notIn] at h
    split at h
    · rename_i q n' hfm hni
      simp at h; subst h
      have ih := notIn_ok hf hy (fun p hp => hk p (by simp [hp])) hni ha.2
      obtain ⟨i, v⟩ := q
      obtain ⟨A, k', B, rfl, _, hkey, _, _⟩ := findMap_some hfm
      obtain ⟨m', hm', hr⟩ := hy.get A.length (k', v) (by simp)
      have hmk := (eq_int hf hkey hr.1).1 rfl
      rw [hcons0 (fun hq => hq m' (List.mem_of_getElem? hm') (hmk.trans hm.symm)), ih]
    · rename_i n' hfm hni
      simp at h; subst h
      have ih := notIn_ok hf hy (fun p hp => hk p (by simp [hp])) hni ha.2
      rw [hcons1, ih]
      intro m' hm' e'
      obtain ⟨p', hp', hr⟩ := hy.mem m' hm'
      exact (eq_int hf (findMap_none hfm p' hp') hr.1).2 rfl (e'.trans hm)
    · cases h

theorem miss_perm2 {a b b' : List MapEntry} (h : b.Perm b') : miss a b = miss a b' := by
  unfold miss
  congr 1
  apply List.filter_congr
  intro m _
  exact decide_eq_decide.2 ⟨fun h1 m' hm' => h1 m' (h.symm.subset hm'), fun h1 m' hm' => h1 m' (h.subset hm')⟩

theorem con_symdiff (hf : FactsOK ρ c.facts) : ConOK Tryz.prog ρ 182 (cSymdiff c) := by
  intro call hcall args s v s' h α w vals hR hv
  unfold cSymdiff at h
  split at h
  · rename_i a b hargs
    have := twoArgs_eq hargs; subst this
    obtain ⟨u0, u1, rfl, hx0, hx1⟩ := args_two hv
    split at h
    · rename_i x y hma hmb
      obtain ⟨ca, hca, hma⟩ := Option.bind_eq_some_iff.1 hma
      obtain ⟨cb, hcb, hmb⟩ := Option.bind_eq_some_iff.1 hmb
      have := cellOf_eq hca; subst this
      have := cellOf_eq hcb; subst this
      split at h
      · rename_i hs
        rw [Bool.and_eq_true] at hs
        split at h
        · rename_i n m hn hm
          simp only [force_eq, Option.some.injEq, Prod.mk.injEq] at h
          obtain ⟨rfl, rfl⟩ := h
          obtain ⟨bm, ents, ord, rfl, hM, hp, ha⟩ := mapOf_ok hR (show CR ρ α _ u0 from hx0) hma
          obtain ⟨bm1, ents1, ord1, rfl, hM1, hp1, ha1⟩ := mapOf_ok hR (show CR ρ α _ u1 from hx1) hmb
          obtain ⟨hS, hkx, _⟩ := setOK_ok hf hs.1 ha hp
          obtain ⟨hS1, hky, _⟩ := setOK_ok hf hs.2 ha1 hp1
          have e1 : miss ents ents1 = n := by rw [miss_perm hp, miss_perm2 hp1]; exact notIn_ok hf ha1 hkx hn ha
          have e2 : miss ents1 ents = m := by rw [miss_perm hp1, miss_perm2 hp]; exact notIn_ok hf ha hky hm ha1
          refine (symdiff_any bm bm1 ents ents1 hS.keys hS1.keys hS.units hS1.units (by have := hS.len; omega) (by have := hS1.len; omega) w hM hM1).mono ?_
          rintro e w' ⟨rfl, hB⟩
          rw [e1, e2]
          exact ⟨_, rfl, Post.grow hR hB rfl⟩
        · cases h
      · cases h
    · cases h
  · cases h
end
end Go.Sx
end
/-
  zzIntn: its contract.
-/
noncomputable section
namespace Go.Sx
open Go.RowKit (Below)
open Go.Proofs
set_option linter.unusedVariables false
set_option linter.unusedSimpArgs false
section
variable {ρ : Env} {c : Cfg} {α : Al} {P : Program} {s s' : St} {w w' : World}

/-- the numbers that are drawn -/
structure RandOK (ρ : Env) : Prop where
  el : 2 ≤ ρ.int 21 ∧ ρ.int 21 ≤ 30
  rand : (∃ base cap, ρ.val 50 = .slice base 0 cap ∧ ∀ k, k < 50 → ρ.int (300 + k) = 0 ∧ ρ.int (351 + k) = 0) ∨
    (∃ b o n cap, ρ.val 50 = .slice (some ⟨b, o, none⟩) n cap ∧ 0 < n ∧ n ≤ 30 ∧ b < ρ.w0.heap.size ∧ ∀ k, k < 50 → ∃ x, ρ.w0.cell? ⟨b, o + k % n, none⟩ = some (.int .i64 x) ∧ ρ.int (300 + k) = IntKind.u64.wrap x % ρ.int 21 ∧ ρ.int (351 + k) = k + 1)

theorem drop_two {l : List C} {n : Nat} {a b : C} {r : List C} (h : dropR l n = a :: b :: r) : l[n]? = some a ∧ l[n + 1]? = some b := by
  rw [dropR_eq] at h
  have h0 : (l.drop n)[0]? = some a := by rw [h]; rfl
  have h1 : (l.drop n)[1]? = some b := by rw [h]; rfl
  rw [List.getElem?_drop] at h0 h1
  exact ⟨h0, h1⟩

theorem num_of {kE : E} {k : Nat} (hk : (match kE with | .lit 0 => some 0 | .var i => (match Nat.ble 351 i && Nat.ble i 399 with | true => some (i - 350) | false => none) | _ => none : Option Nat) = some k) :
    k < 50 ∧ (kE.den ρ = 0 ∧ k = 0 ∨ ∃ j, k = j + 1 ∧ kE = .var (351 + j)) := by
  split at hk
  · have := Option.some.inj hk
    exact ⟨by omega, .inl ⟨rfl, this.symm⟩⟩
  · rename_i i
    split at hk
    · rename_i hi
      simp only [Bool.and_eq_true] at hi
      have h1 := Nat.le_of_ble_eq_true hi.1
      have h2 := Nat.le_of_ble_eq_true hi.2
      have h3 := Option.some.inj hk
      refine ⟨by omega, .inr ⟨i - 351, by omega, ?_⟩⟩
      have : 351 + (i - 351) = i := by omega
      rw [this]
    · cases hk
  · cases hk
theorem All2.splice1 {cs : List C} {xs : Array Value} (h : All2 (CR ρ α) cs xs.toList) {off : Nat} {a : C} {v : Value} (ho : off < cs.length) (ha : CR ρ α a v) : All2 (CR ρ α) (splice cs off [a]) (xs.setIfInBounds off v).toList := by
  have hlen := h.length
  refine All2.of_get (by rw [splice_eq, seg_length (show off + [a].length ≤ cs.length from ho), hlen]; simp) ?_
  intro i b z hb hz
  rw [splice_eq, seg_get (show off + [a].length ≤ cs.length from ho)] at hb
  simp only [Array.getElem?_toList, Array.getElem?_setIfInBounds] at hz
  by_cases e : off = i
  · subst e
    rw [if_pos (by simp)] at hb
    simp at hb
    subst hb
    rw [if_pos rfl] at hz
    split at hz
    · cases hz; exact ha
    · cases hz
  · rw [if_neg (by simp; omega)] at hb
    rw [if_neg e] at hz
    obtain ⟨x, hx, hr⟩ := h.get i b hb
    simp only [Array.getElem?_toList] at hx
    rw [hx] at hz
    cases hz
    exact hr

theorem con_intn (hc : RandOK ρ) : ConOK Tryz.prog ρ 268 cIntn := by
  intro call hcall args s v s' h α w vals hR hv
  unfold cIntn at h
  split at h
  · rename_i r
    split at h
    · rename_i cs e hm
      split at h
      · rename_i kE tl hdrop
        obtain ⟨h38, h39⟩ := drop_two hdrop
        obtain ⟨k, hk49, hkden, h⟩ : ∃ k, k < 50 ∧ (kE.den ρ = 0 ∧ k = 0 ∨ ∃ j, k = j + 1 ∧ kE = .var (351 + j)) ∧ (force (300 + k) fun v => force (351 + k) fun n => forceL (splice cs 39 [C.a (.int .i64 (.var n))]) fun l => match s.set r (.blk l e) with
          | some s => some (vint .i64 (.var v), s)
          | none => none) = some (v, s') := by
          split at h
          · rename_i k hk
            refine ⟨k, ?_, ?_, h⟩
            · exact (num_of (ρ := ρ) hk).1
            · exact (num_of (ρ := ρ) hk).2
          · cases h
        simp only [force_eq, forceL_eq, St.set, PT.putK_k, Option.some.injEq, Prod.mk.injEq] at h
        obtain ⟨rfl, rfl⟩ := h
        obtain ⟨u0, u1, hvals, hx0, hx1⟩ : ∃ u0 u1, vals = #[u0, u1] ∧ VR ρ α (.sc (.a (.ptr (some (r, 0))))) u0 ∧ VR ρ α (.sc (.a (.int .i64 (.var 21)))) u1 := by
          obtain ⟨u0, h0, hx0⟩ := hv.get 0 _ rfl
          obtain ⟨u1, h1, hx1⟩ := hv.get 1 _ rfl
          have hlen := hv.length
          refine ⟨u0, u1, ?_, hx0, hx1⟩
          apply Array.ext'
          apply List.ext_getElem?
          intro k
          match k with
          | 0 => simpa using h0
          | 1 => simpa using h1
          | k + 2 =>
            rw [List.getElem?_eq_none (by simp at hlen ⊢; omega)]
            simp
        subst hvals
        obtain ⟨l, hl, hu0⟩ : ∃ l, α r = some l ∧ u0 = .pointer (some ⟨l.block, l.base + 0, none⟩) := hx0
        have hu1 : u1 = .int .i64 (ρ.int 21) := hx1
        obtain ⟨xs, hb, hxs, hbase, hesz, hcap⟩ := hR.obj _ _ _ hm hl
        rw [hbase] at hu0
        subst hu0 hu1
        obtain ⟨y38, hy38, hz38⟩ := hxs.get 38 _ h38
        obtain ⟨y39, hy39, hz39⟩ := hxs.get 39 _ h39
        have hz38 : y38 = ρ.val 50 := hz38.1
        have hz39 : y39 = .int .i64 (kE.den ρ) := hz39
        subst hz38 hz39
        have hlt := (hR.obj _ _ _ hm hl).lt rfl
        have hge := hR.fresh _ _ _ hm rfl hl
        have c38 : w.cell? ⟨l.block, 38, none⟩ = some (ρ.val 50) := by rw [cells_nats hb]; simpa using hy38
        have c39 : w.cell? ⟨l.block, 39, none⟩ = some (.int .i64 (kE.den ρ)) := by rw [cells_nats hb]; simpa using hy39
        have hf : w.frozen? ⟨l.block, 39, none⟩ = false := by simp [World.frozen?, hb]
        have hlen40 : 40 ≤ cs.length := by
          have := (List.getElem?_eq_some_iff.1 h39).1
          omega
        have hxlen := hxs.length
        rcases hc.rand with ⟨base, cap, hval, hks⟩ | ⟨b, o, n, cap, hval, hn, hn30, hbw, hks⟩
        · rw [hval] at c38
          obtain ⟨h300, h351⟩ := hks k hk49
          have hkd : kE.den ρ = 0 := by
            rcases hkden with ⟨h, _⟩ | ⟨j, hj, rfl⟩
            · exact h
            · exact (hks j (by omega)).2
          refine (intn_none l.block (ρ.int 21) base cap w c38).mono ?_
          rintro e' w' ⟨rfl, rfl⟩
          have hxe : xs.setIfInBounds 39 (.int .i64 0) = xs := by
            rw [hkd] at hy39
            have h39' : xs[39]? = some (.int .i64 0) := by simpa using hy39
            apply Array.ext (by simp)
            intro i h1 h2
            by_cases e : 39 = i
            · subst e
              rw [Array.getElem?_eq_getElem h2] at h39'
              simpa using (Option.some.inj h39').symm
            · rw [Array.getElem_setIfInBounds_ne (by simpa using h2) e]
          have hall := hxs.splice1 (off := 39) (a := C.a (.int .i64 (.var (351 + k)))) (v := .int .i64 0) (by omega) (by show _ = Value.int .i64 (ρ.int (351 + k)); rw [h351])
          rw [hxe] at hall
          have hup := Rel.upd (o' := .blk (splice cs 39 [C.a (.int .i64 (.var (351 + k)))]) e) (w' := w') hR hm rfl hl (fun _ _ => rfl) rfl rfl rfl rfl
            ⟨xs, hb, hall, hbase, hesz, hcap⟩ (.inl rfl) s.ctr
          exact ⟨_, rfl, _, hup.1, hup.2, by show _ = Value.int .i64 (ρ.int (300 + k)); rw [h300]⟩
        · rw [hval] at c38
          obtain ⟨x, hx, h300, h351⟩ := hks k hk49
          have hkd : kE.den ρ = (k : Int) := by
            rcases hkden with ⟨h, hk0⟩ | ⟨j, hj, rfl⟩
            · rw [h, hk0]; rfl
            · obtain ⟨_, _, _, h2⟩ := hks j (by omega)
              show ρ.int (351 + j) = _
              rw [h2, hj]; rfl
          rw [hkd] at c39
          have hx' : w.cell? ⟨b, o + k % n, none⟩ = some (.int .i64 x) := by
            rw [hR.below.cell (p := ⟨b, o + k % n, none⟩) hbw]; exact hx
          refine (intn_some l.block b o n cap k x (ρ.int 21) hn hn30 (by omega) hc.el.1 hc.el.2 (by omega) w c38 c39 hf (k % n) rfl hx').mono ?_
          rintro e' w' ⟨rfl, d, rfl⟩
          have hall := hxs.splice1 (off := 39) (a := C.a (.int .i64 (.var (351 + k)))) (v := .int .i64 (k + 1)) (by omega) (by show _ = Value.int .i64 (ρ.int (351 + k)); rw [h351])
          have hup := Rel.upd (o' := .blk (splice cs 39 [C.a (.int .i64 (.var (351 + k)))]) e) (w' := (w.drewN d).setCell ⟨l.block, 39, none⟩ (.int .i64 (k + 1))) hR hm rfl hl
            (fun b hb => by rw [heap_set_ne hb]; rfl) (by simp [World.setCell]) rfl rfl rfl
            ⟨_, heap_set_same (w := w.drewN d) hb, hall, hbase, hesz, by simpa using hcap⟩ (.inl rfl) s.ctr
          exact ⟨_, rfl, _, hup.1, hup.2, by show _ = Value.int .i64 (ρ.int (300 + k)); rw [h300]⟩
      · cases h
    · cases h
  · cases h
end
end Go.Sx
end
/-
  checkInvariants: its contract.
-/
noncomputable section
namespace Go.Sx
open Go.RowKit (Below)
open Go.Proofs
set_option linter.unusedVariables false
set_option linter.unusedSimpArgs false
section
variable {ρ : Env} {c : Cfg} {α : Al} {P : Program} {s s' : St} {w w' : World}
theorem cellsFive_eq {v : V} {a b d e f : C} (h : cellsFive v = some (a, b, d, e, f)) : v = .agg [a, b, d, e, f] := by
  cases v with
  | agg l =>
    match l with
    | [] => simp [cellsFive] at h
    | [x] => simp [cellsFive] at h
    | [x, y] => simp [cellsFive] at h
    | [x, y, z] => simp [cellsFive] at h
    | [x, y, z, u] => simp [cellsFive] at h
    | [x, y, z, u, v] =>
      simp [cellsFive] at h
      obtain ⟨rfl, rfl, rfl, rfl, rfl⟩ := h
      rfl
    | x :: y :: z :: u :: v :: q :: t => simp [cellsFive] at h
  | sc => simp [cellsFive] at h
  | tup => simp [cellsFive] at h
theorem trkOf_eq {v : V} {m : Nat} (h : trkOf v = some m) : v = .sc (.a (.map (some m))) := by
  cases v with
  | sc x =>
    cases x with
    | a y =>
      cases y with
      | map o => cases o with
        | none => simp [trkOf] at h
        | some k => simp [trkOf] at h; rw [h]
      | _ => simp [trkOf] at h
    | _ => simp [trkOf] at h
  | agg => simp [trkOf] at h
  | tup => simp [trkOf] at h
theorem isFalse_eq {x : C} (h : isFalse x = true) : x = .a (.bool (.lit false)) := by
  cases x with
  | a y =>
    cases y with
    | bool b => cases b with
      | lit q => cases q with
        | false => rfl
        | true => simp [isFalse] at h
      | _ => simp [isFalse] at h
    | _ => simp [isFalse] at h
  | _ => simp [isFalse] at h
theorem allIn_ok (hf : FactsOK ρ c.facts) {t : List (C × T1)} {ot : List MapEntry} (ht : All2 (EntR ρ α) t ot) : ∀ {x : List (C × T1)} {ox : List MapEntry}, (∀ p ∈ x, ∃ e, p.1 = .a (.int .u64 e)) → allIn c t x = true → All2 (EntR ρ α) x ox → ∀ m ∈ ox, ∃ m' ∈ ot, m'.key = m.key
  | [], [], _, _, _, m, hm => by simp at hm
  | [], _ :: _, _, _, h, _, _ => h.elim
  | _ :: _, [], _, _, h, _, _ => h.elim
  | p :: x, m :: ox, hk, h, ha, q, hq => by
    obtain ⟨k, tv⟩ := p
    obtain ⟨e, he⟩ := hk (k, tv) (by simp)
    have he : k = .a (.int .u64 e) := he
    subst he
    have hm := int_of ha.1 rfl
    simp only [allIn] at h
    split at h
    · rename_i pr hfm
      rcases List.mem_cons.1 hq with rfl | hq
      · obtain ⟨i, v⟩ := pr
        obtain ⟨A, k', B, rfl, _, hkey, _, _⟩ := findMap_some hfm
        obtain ⟨m', hm', hr⟩ := ht.get A.length (k', v) (by simp)
        exact ⟨m', List.mem_of_getElem? hm', ((eq_int hf hkey hr.1).1 rfl).trans hm.symm⟩
      · exact allIn_ok hf ht (fun p hp => hk p (by simp [hp])) h ha.2 q hq
    · cases h

theorem con_checkInv (hf : FactsOK ρ c.facts) : ConOK Tryz.prog ρ 272 (cCheckInv c) := by
  intro call hcall args s v s' h α w vals hR hv
  unfold cCheckInv at h
  split at h
  · rename_i cfg trk hargs
    have := twoArgs_eq hargs; subst this
    obtain ⟨u0, u1, rfl, hx0, hx1⟩ := args_two hv
    split at h
    · rename_i v0 v1 au l0 l1 m hcfg htrk
      have := cellsFive_eq hcfg; subst this
      have := trkOf_eq htrk; subst this
      split at h
      · rename_i hn
        simp only [Bool.and_eq_true] at hn
        obtain ⟨⟨⟨n1, n2⟩, n3⟩, n4⟩ := hn
        have := isNilMap_eq n1; subst this
        have := isFalse_eq n2; subst this
        have := isNilMap_eq n3; subst this
        have := isNilMap_eq n4; subst this
        split at h
        · rename_i x t hma hmt
          split at h
          · rename_i hs
            simp at h
            obtain ⟨rfl, rfl⟩ := h
            simp only [Bool.and_eq_true] at hs
            obtain ⟨⟨hs1, hs2⟩, hs3⟩ := hs
            obtain ⟨xs, rfl, hxs⟩ : ∃ xs, u0 = .agg xs ∧ All2 (CR ρ α) [v0, .a (.map none), .a (.bool (.lit false)), .a (.map none), .a (.map none)] xs.toList := hx0
            obtain ⟨y0, hy0, hr0⟩ := hxs.get 0 _ rfl
            obtain ⟨y1, hy1, hr1⟩ := hxs.get 1 _ rfl
            obtain ⟨y2, hy2, hr2⟩ := hxs.get 2 _ rfl
            obtain ⟨y3, hy3, hr3⟩ := hxs.get 3 _ rfl
            obtain ⟨y4, hy4, hr4⟩ := hxs.get 4 _ rfl
            have hr1 : y1 = .map none := hr1
            have hr2 : y2 = .bool false := hr2
            have hr3 : y3 = .map none := hr3
            have hr4 : y4 = .map none := hr4
            subst hr1 hr2 hr3 hr4
            have hlen := hxs.length
            have hxe : xs = #[y0, .map none, .bool false, .map none, .map none] := by
              apply Array.ext'
              apply List.ext_getElem?
              intro k
              match k with
              | 0 => simpa using hy0
              | 1 => simpa using hy1
              | 2 => simpa using hy2
              | 3 => simpa using hy3
              | 4 => simpa using hy4
              | k + 5 =>
                rw [List.getElem?_eq_none (by simp at hlen ⊢; omega)]
                simp
            subst hxe
            obtain ⟨bm, ents, ord, rfl, hM, hp, ha⟩ := mapOf_ok hR hr0 hma
            obtain ⟨bt, tes, ordt, hbt, hMt, hpt, hat⟩ := mapOf_ok hR (show CR ρ α (.a (.map (some m))) u1 from hx1) hmt
            obtain ⟨lt, hlt, hu1⟩ : ∃ l : Loc, α m = some l ∧ u1 = .map (some l.block) := hx1
            rw [hu1] at hbt
            cases hbt
            subst hu1
            obtain ⟨hS, hkx, _⟩ := setOK_ok hf hs1 ha hp
            obtain ⟨htk, _, _⟩ := distinctK_ok hf hs2 hat
            have hall := allIn_ok hf hat hkx hs3 ha
            refine (inv_any bm lt.block ents tes hS.keys hS.nodup w hM hMt (fun q hq => htk q (hpt.subset hq)) ?_).mono ?_
            · intro q hq
              obtain ⟨m', hm', e⟩ := hall q (hp.subset hq)
              exact ⟨m', hpt.symm.subset hm', e⟩
            · rintro e w' ⟨rfl, hB⟩
              exact ⟨_, rfl, Post.grow hR hB rfl⟩
          · cases h
        · cases h
      · cases h
    · cases h
  · cases h
end
end Go.Sx
end
