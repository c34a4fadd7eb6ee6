/-
  A function that is run under several states of knowledge, one of which holds.
-/
import Derived.Test.YtaenfbadkcfdaaaGreatSd
import Derived.Test.YtaenfbadkcfdaaaGreatSk
noncomputable section
namespace Go.Sx
open Go.RowKit (Below)
set_option linter.unusedVariables false
set_option linter.unusedSimpArgs false

theorem beqEs_eq : ∀ {a b : List (C × T1)}, beqEs a b = true → a = b
  | [], [], _ => rfl
  | (a, x) :: l, (b, y) :: m, h => by
    simp only [beqEs, Bool.and_eq_true] at h
    rw [C.beq_eq h.1.1, T1.beq_eq h.1.2, beqEs_eq h.2]
  | [], _ :: _, h => by simp [beqEs] at h
  | _ :: _, [], h => by simp [beqEs] at h
theorem Obj.beq_eq {a b : Obj} (h : Obj.beq a b = true) : a = b := by
  unfold Obj.beq at h
  split at h
  · simp only [Bool.and_eq_true] at h; rw [Nat.eq_of_beq_eq_true h.1, beqCs_eq h.2]
  · simp only [Bool.and_eq_true] at h; rw [Nat.eq_of_beq_eq_true h.1, beqCs_eq h.2]
  · simp only [Bool.and_eq_true] at h; rw [Nat.eq_of_beq_eq_true h.1, beqCs_eq h.2]
  · rw [S.beq_eq h]
  · rw [beqEs_eq h]
  · rfl
  · rw [Nat.eq_of_beq_eq_true h]
  · rfl
  · cases h
theorem PT.beq_eq {α : Type} {f : α → α → Bool} (hf : ∀ a b, f a b = true → a = b) : ∀ {a b : PT α}, PT.beq f a b = true → a = b
  | .leaf, .leaf, _ => rfl
  | .node l v r, .node l' v' r', h => by
    simp only [PT.beq, Bool.and_eq_true] at h
    rw [PT.beq_eq hf h.1.2, PT.beq_eq hf h.2]
    have h1 := h.1.1
    split at h1
    · rfl
    · rw [hf _ _ h1]
    · cases h1
  | .leaf, .node .., h => by simp [PT.beq] at h
  | .node .., .leaf, h => by simp [PT.beq] at h
theorem PT.meet_get {α : Type} {f : α → α → Bool} (hf : ∀ a b, f a b = true → a = b) : ∀ {a b : PT α} {n : Nat} {x : α}, (PT.meet f a b).get n = some x → a.get n = some x ∧ b.get n = some x
  | .node l v r, .node l' v' r', n, x, h => by
    simp only [PT.meet, PT.get_node] at h ⊢
    by_cases h0 : n = 0
    · rw [if_pos h0] at h
      rw [if_pos h0, if_pos h0]
      split at h
      · rename_i y z
        split at h
        · rename_i hyz
          cases h
          exact ⟨rfl, by rw [hf _ _ hyz]⟩
        · cases h
      · cases h
    · rw [if_neg h0] at h
      rw [if_neg h0, if_neg h0]
      by_cases h1 : n % 2 = 1
      · rw [if_pos h1] at h
        rw [if_pos h1, if_pos h1]
        exact PT.meet_get hf h
      · rw [if_neg h1] at h
        rw [if_neg h1, if_neg h1]
        exact PT.meet_get hf h
  | .leaf, b, n, x, h => by cases b <;> simp [PT.meet] at h
  | .node l v r, .leaf, n, x, h => by simp [PT.meet] at h
theorem xbeq_eq : ∀ {a b : X}, xbeq a b = true → a = b := by
  intro a b h
  unfold xbeq at h
  split at h
  · rfl
  · rw [Nat.eq_of_beq_eq_true h]
  · rfl
  · cases h

section
variable {P : Program} {ρ : Env} {c : Cfg} {α : Al} {s s' : St} {w w' : World} {t t' : Tm} {a : Act}

/-- r says no more than r1 -/
def Weaker (r r1 : X × Tm × St) : Prop := r.1 = r1.1 ∧ r.2.2.mem = r1.2.2.mem ∧ ∀ n v, r.2.1.get n = some v → r1.2.1.get n = some v
theorem Weaker.refl (r : X × Tm × St) : Weaker r r := ⟨rfl, rfl, fun _ _ h => h⟩

theorem joinGo_weaker : ∀ (fs : List Ex) (t : Tm) (s : St) (r0 r : X × Tm × St), joinGo fs t s r0 = some r → Weaker r r0 ∧ ∀ f ∈ fs, ∃ r1, f t s = some r1 ∧ Weaker r r1
  | [], t, s, r0, r, h => by
    simp [joinGo] at h
    subst h
    exact ⟨Weaker.refl _, fun f hf => by simp at hf⟩
  | f :: fs, t, s, (x, t1, s1), r, h => by
    simp only [joinGo] at h
    split at h
    · rename_i y t2 s2 hf
      split at h
      · rename_i hb
        rw [Bool.and_eq_true] at hb
        have hx := xbeq_eq hb.1
        have hm := PT.beq_eq (fun a b => Obj.beq_eq) hb.2
        obtain ⟨⟨h1, h2, h3⟩, h4⟩ := joinGo_weaker fs t s _ _ h
        refine ⟨⟨h1, h2, fun n v hn => (PT.meet_get (fun a b => V.beq_eq) (h3 n v hn)).1⟩, ?_⟩
        intro g hg
        rcases List.mem_cons.1 hg with rfl | hg
        · exact ⟨_, hf, h1.trans hx, h2.trans hm, fun n v hn => (PT.meet_get (fun a b => V.beq_eq) (h3 n v hn)).2⟩
        · exact h4 g hg
      · cases h
    · cases h

theorem joinX_ok {nt : Nat} {code : Code} {fs : List Ex} {f : Ex} (hf : f ∈ fs) (hok : CodeOK P ρ nt f code) : CodeOK P ρ nt (joinX fs) code := fun t s x t' s' h α a w hR ht hn => by
  have key : ∃ r1, f t s = some r1 ∧ Weaker (x, t', s') r1 := by
    cases fs with
    | nil => simp at hf
    | cons g gs =>
      simp only [joinX] at h
      split at h
      · rename_i r0 hg
        obtain ⟨h1, h2⟩ := joinGo_weaker gs t s _ _ h
        rcases List.mem_cons.1 hf with rfl | hf
        · exact ⟨_, hg, h1⟩
        · exact h2 f hf
      · cases h
  obtain ⟨⟨x1, t1, s1⟩, h1, hx, hm, htt⟩ := key
  simp only at hx hm htt
  subst hx
  refine wp_mono (hok t s _ _ _ h1 α a w hR ht hn) ?_
  rintro e a' w' ⟨hx, hd, hn', α', hR', hF', ht'⟩
  refine ⟨hx, hd, hn', α', ?_, ?_, fun i v hi => ht' i v (htt i v hi)⟩
  · have := hR'.ctr s'.ctr
    rw [← hm] at this
    exact this
  · have := hF'.ctr s.ctr s'.ctr
    rw [← hm] at this
    exact this

theorem execS_ok {cs : List Cfg} {c' : Cfg} (hc : CfgOK P ρ c) (hmem : c' ∈ cs) (hc' : CfgOK P ρ c') (hL : LensOK ρ) {call : CallF} (hcall : CallOK P ρ call) {lf nt k : Nat} :
    ∀ code, CodeOK P ρ nt (execS c cs call lf nt k code) code := by
  intro code
  induction code with
  | seq x y hx hy =>
    simp only [execS]
    have hex : CodeOK P ρ nt (execC c call lf nt x) x := execC_ok hc hL hcall (draw_ok hc hL hcall) x
    split
    · split
      · refine seq_ok hex ?_
        exact joinX_ok (List.mem_map.2 ⟨c', hmem, rfl⟩) (execC_ok hc' hL hcall (draw_ok hc' hL hcall) y)
      · exact seq_ok hex hy
    · exact none_ok
  | _ => exact none_ok

theorem mapLen_le (s : St) (args : List V) (d : Nat) : mapLen s args d ≤ d := by
  unfold mapLen
  split
  · split
    · split
      · rename_i h; exact Nat.le_of_ble_eq_true h
      · exact Nat.le_refl _
    · exact Nat.le_refl _
  · exact Nat.le_refl _
theorem con_fork {d : Nat} {cs : Nat → List Cfg} (hc : CfgOK P ρ c) (hcs : ∀ n, n ≤ d → ∃ c' ∈ cs n, CfgOK P ρ c') (hL : LensOK ρ) {f : FuncId} {fn : Func} (hfn : c.fn.get f = some fn) (lf k : Nat) : ConOK P ρ f (cFork c d cs lf k fn) := by
  intro call ih args s v s' h' α w vals hR hv
  obtain ⟨c', hmem, hc'⟩ := hcs (mapLen s args d) (mapLen_le s args d)
  unfold cFork at h'
  simp only [force_eq] at h'
  split at h'
  · rename_i body hb
    obtain ⟨hf, _, _⟩ := hc.fn _ _ hfn
    refine calls_of_wp hf hb ?_
    have hlen := hv.length
    simp only [Array.length_toList] at hlen
    have hsz : (vals ++ Array.replicate (fn.ntmps - vals.size) undef).size = Nat.max fn.ntmps (len args) := by
      simp only [Array.size_append, Array.size_replicate, len_eq, hlen]
      show _ = max _ _
      omega
    have key : ∀ x t1 s1, execS c (cs (mapLen s args d)) call lf (Nat.max fn.ntmps (len args)) k body (tmOf args 0 .leaf) s = some (x, t1, s1) → (x = .normal ∨ x = .ret) → ∀ vs, resultsV c t1 s1 fn.results.toList = some vs →
        packV vs = v → s1 = s' →
        body.wp P (bodyPost P fn fun e w' => ∃ x, e = .returned x ∧ Post P ρ α s w v s' x w') { tmps := vals ++ Array.replicate (fn.ntmps - vals.size) undef, defers := [] } w := by
      intro x t1 s1 hex hx vs hvs hv1 hs1
      subst hs1
      refine wp_mono (execS_ok hc hmem hc' hL ih body _ _ _ _ _ hex α _ w hR (tmOf_tm hv _) hsz) ?_
      rintro e a1 w1 ⟨hxr, hde, _, α1, hR1, hF1, ht1⟩
      obtain ⟨y, hy, hvy⟩ := results_ok hc hR1 ht1 hvs
      rw [hv1] at hvy
      have : bodyPost P fn (fun e w' => ∃ x, e = .returned x ∧ Post P ρ α s w v s1 x w') .ret a1 w1 := ⟨hde, y, hy, y, rfl, α1, hR1, hF1, hvy⟩
      rcases hx with rfl | rfl
      · cases e <;> simp [XR] at hxr
        exact this
      · cases e <;> simp [XR] at hxr
        exact this
    split at h'
    · simp at h'
    · simp at h'
    · rename_i x t1 s1 hne hex
      have hx : x = .normal ∨ x = .ret := by
        cases x with
        | normal => exact .inl rfl
        | ret => exact .inr rfl
        | exit i => exact (hne i rfl).elim
      split at h'
      · rename_i v1 hvs
        simp at h'
        exact key _ _ _ hex hx _ hvs h'.1 h'.2
      · rename_i vs hne2 hvs
        simp at h'
        exact key _ _ _ hex hx _ hvs ((packV_many hne2).trans h'.1) h'.2
      · simp at h'
  · simp at h'
end
end Go.Sx
end
/-
  A test that nothing decides: whether there is a context i. Both ways are walked; what they come to is told in one.
-/
noncomputable section
namespace Go.Sx
open Go.RowKit (Below)
set_option linter.unusedVariables false
set_option linter.unusedSimpArgs false
section
variable {P : Program} {ρ : Env} {c : Cfg} {α : Al} {s s' : St} {w w' : World} {t t' : Tm} {a : Act}

/-- the contexts: name 2, so many as int 62 says; where there is none, string i is empty -/
structure CtxOK (P : Program) (ρ : Env) : Prop where
  loc : ∃ l, ρ.al 2 = some l ∧ l.block < ρ.w0.heap.size ∧ ∃ xs e fz, ρ.w0.heap[l.block]? = some (.cells xs e fz) ∧ ∀ j : Nat, j < 9 → (j : Int) < ρ.int 62 → xs[l.base + j]? = some (.string (ρ.str j))
  pad : ∀ j : Nat, j < 9 → ρ.int 62 ≤ j → (ρ.str j).size = 0
  len : LensOK ρ

def flags (o : Obj) : Bool × Bool := (o.own, o.live)
def Alike (s s' : St) : Prop := ∀ n, (s.mem.get n).map flags = (s'.mem.get n).map flags
theorem Alike.symm (h : Alike s s') : Alike s' s := fun n => (h n).symm
theorem Alike.obj (h : Alike s s') {n : Nat} {o : Obj} (hn : s.mem.get n = some o) : ∃ o', s'.mem.get n = some o' ∧ o'.own = o.own ∧ o'.live = o.live := by
  have := h n
  rw [hn] at this
  cases ho : s'.mem.get n with
  | none => rw [ho] at this; simp at this
  | some o' =>
    rw [ho] at this
    simp [flags] at this
    exact ⟨o', rfl, this.1.symm, this.2.symm⟩
theorem Alike.mine (h : Alike s s') {b : Nat} (hm : Mine α s b) : Mine α s' b := by
  obtain ⟨n, o, l, h1, h2, h3, h4⟩ := hm
  obtain ⟨o', h5, h6, _⟩ := h.obj h1
  exact ⟨n, o', l, h5, h6.trans h2, h3, h4⟩
theorem Alike.used (h : Alike s s') {b : Nat} (hm : Used α s b) : Used α s' b := by
  obtain ⟨n, o, l, h1, h2, h3, h4⟩ := hm
  obtain ⟨o', h5, _, h6⟩ := h.obj h1
  exact ⟨n, o', l, h5, h6.trans h2, h3, h4⟩
theorem Alike.fr (h : Alike s s') : Fr α s w α s' w := ⟨Al.le.refl _, Nat.le_refl _, fun _ _ _ => rfl, fun _ hm => .inl (h.symm.mine hm), fun _ hm => .inl (h.symm.used hm)⟩
theorem alike_put {m : PT Obj} {k n : Nat} {o o' : Obj} (hn : m.get n = some o) (h1 : o'.own = o.own) (h2 : o'.live = o.live) (c : Nat) : Alike ⟨m, k⟩ ⟨m.put n o', c⟩ := by
  intro i
  simp only [PT.get_put]
  split
  · rename_i e; subst e; rw [hn]; simp [flags, h1, h2]
  · rfl
theorem Rel.alike (h : Rel P ρ α s w) (ha : Alike s s') (ho : ∀ n o l, s'.mem.get n = some o → α n = some l → OR P ρ α w l o) : Rel P ρ α s' w where
  dom n := by
    rw [h.dom n]
    have := ha n
    constructor
    · intro e; rw [e] at this; simpa using this.symm
    · intro e; rw [e] at this; simpa using this
  obj := ho
  apart n m o o' l l' h1 h2 h3 h4 h5 h6 h7 := by
    obtain ⟨p, hp, hp1, _⟩ := ha.symm.obj h1
    obtain ⟨q, hq, _, hq1⟩ := ha.symm.obj h2
    exact h.apart n m p q l l' hp hq (hp1.trans h3) (hq1.trans h4) h5 h6 h7
  fresh n o l h1 h2 h3 := by
    obtain ⟨p, hp, hp1, _⟩ := ha.symm.obj h1
    exact h.fresh n p l hp (hp1.trans h2) h3
  below := h.below
  init := h.init

theorem emptyStr_ok {f : Facts} (hf : FactsOK ρ f) (hL : LensOK ρ) {j : Nat} (h : emptyStr f j = true) : (ρ.str j).size = 0 := by
  unfold emptyStr at h
  split at h
  · rename_i l hh hr
    rw [Bool.and_eq_true] at h
    have h1 := of_decide_eq_true h.1
    have h2 := of_decide_eq_true h.2
    have h3 := hf.rng _ _ _ hr
    have h4 := hL j
    omega
  · cases h
theorem empty_ba {x : ByteArray} (h : x.size = 0) : x = ⟨#[]⟩ := by
  cases x with
  | mk d =>
    have : d = #[] := by simpa [ByteArray.size] using h
    rw [this]

/-- names more, that hold no letter -/
def ghosts (α : Al) (m : PT Obj) (b : Nat) : Al := fun n => match α n with
  | some l => some l
  | none => match m.get n with
    | some _ => some ⟨b, 0, 1, 0⟩
    | none => none
theorem ghosts_le (α : Al) (m : PT Obj) (b : Nat) : α.le (ghosts α m b) := fun n l h => by simp [ghosts, h]
section weak
variable {f : Facts} {m : PT Obj} {β : Al}
theorem weakC_ok (hf : FactsOK ρ f) (hL : LensOK ρ) (hβ : ∀ n o, m.get n = some o → ∃ l, β n = some l) {x1 x2 : C} {v : Value} (h : weakC f m x1 x2 = true) (hv : CR ρ β x2 v) : CR ρ β x1 v := by
  unfold weakC at h
  rw [Bool.or_eq_true] at h
  rcases h with h | h
  · rw [C.beq_eq h]; exact hv
  · split at h
    · rename_i n j
      rw [Bool.and_eq_true] at h
      have hz := emptyStr_ok hf hL h.1
      have h2 := h.2
      split at h2
      · rename_i o ho
        obtain ⟨l, hl⟩ := hβ n o ho
        refine ⟨l, hl, fun _ => hv.1, fun hne => absurd hz hne⟩
      · cases h2
    · cases h
theorem weakCs_ok (hf : FactsOK ρ f) (hL : LensOK ρ) (hβ : ∀ n o, m.get n = some o → ∃ l, β n = some l) : ∀ {l1 l2 : List C} {vs : List Value}, weakCs f m l1 l2 = true → All2 (CR ρ β) l2 vs → All2 (CR ρ β) l1 vs
  | [], [], [], _, _ => trivial
  | [], [], _ :: _, _, h => h.elim
  | [], _ :: _, _, h, _ => by cases h
  | _ :: _, [], _, h, _ => by cases h
  | _ :: _, _ :: _, [], _, h => h.elim
  | a :: as, b :: bs, v :: vs, h, hv => by
    simp only [weakCs, Bool.and_eq_true] at h
    exact ⟨weakC_ok hf hL hβ h.1 hv.1, weakCs_ok hf hL hβ h.2 hv.2⟩
theorem weakO_ok (hf : FactsOK ρ f) (hL : LensOK ρ) (hβ : ∀ n o, m.get n = some o → ∃ l, β n = some l) {o1 o2 : Obj} {l : Loc} (h : weakO f m o1 o2 = true) (ho : OR P ρ β w l o2) : OR P ρ β w l o1 ∧ flags o1 = flags o2 := by
  unfold weakO at h
  split at h
  · rename_i l1 e1 l2 e2
    rw [Bool.and_eq_true] at h
    have := Nat.eq_of_beq_eq_true h.1
    subst this
    obtain ⟨xs, h1, h2, h3⟩ := ho
    exact ⟨⟨xs, h1, weakCs_ok hf hL hβ h.2 h2, h3⟩, rfl⟩
  · rw [Obj.beq_eq h]; exact ⟨ho, rfl⟩
end weak
theorem weakM_get {f : Facts} {m : PT Obj} : ∀ {m1 m2 : PT Obj}, weakM f m m1 m2 = true → ∀ n, weakV f m (m1.get n) (m2.get n) = true
  | .leaf, .leaf, _, n => by simp [PT.get, weakV]
  | .leaf, .node _ _ _, h, _ => by cases h
  | .node l v r, .leaf, h, n => by
    simp only [weakM, Bool.and_eq_true] at h
    have hl : ∀ k, (PT.leaf : PT Obj).get k = none := fun k => rfl
    rw [PT.get_node, hl]
    split
    · exact h.1.1
    · split
      · have := weakM_get h.1.2 (n / 2); rwa [hl] at this
      · have := weakM_get h.2 (n / 2 - 1); rwa [hl] at this
  | .node l v r, .node l' v' r', h, n => by
    simp only [weakM, Bool.and_eq_true] at h
    rw [PT.get_node, PT.get_node]
    split
    · exact h.1.1
    · split
      · exact weakM_get h.1.2 (n / 2)
      · exact weakM_get h.2 (n / 2 - 1)
theorem softT_get {f : Facts} : ∀ {t1 t2 : Tm} {n : Nat} {v : V}, (softT f t1 t2).get n = some v → ∃ x y, t1.get n = some x ∧ t2.get n = some y ∧ softV f x y = some v
  | .leaf, _, _, _, h => by simp only [softT] at h; cases h
  | .node _ _ _, .leaf, _, _, h => by simp only [softT] at h; cases h
  | .node l v r, .node l' v' r', n, u, h => by
    simp only [softT] at h
    rw [PT.get_node] at h
    rw [PT.get_node, PT.get_node]
    split at h
    · rename_i h0
      rw [if_pos h0, if_pos h0]
      split at h
      · rename_i x y
        exact ⟨x, y, rfl, rfl, h⟩
      · cases h
    · rename_i h0
      rw [if_neg h0, if_neg h0]
      split at h
      · rename_i h1
        rw [if_pos h1, if_pos h1]
        exact softT_get h
      · rename_i h1
        rw [if_neg h1, if_neg h1]
        exact softT_get h
theorem softV_fst {f : Facts} {x y v : V} (h : softV f x y = some v) : v = x := by
  unfold softV at h
  split at h
  · split at h
    · cases h; rfl
    · cases h
  · split at h
    · cases h; rfl
    · cases h
theorem softV_ok {f : Facts} (hf : FactsOK ρ f) (hL : LensOK ρ) {x y v : V} (h : softV f x y = some v) {u : Value} : (v = x) ∧ (VR ρ α y u → VR ρ α v u) := by
  unfold softV at h
  split at h
  · rename_i j
    split at h
    · rename_i he
      cases h
      refine ⟨rfl, fun hy => ?_⟩
      have hz := emptyStr_ok hf hL he
      have hy' : u = .string ⟨#[]⟩ := hy
      show u = .string (ρ.str j)
      rw [hy', empty_ba hz]
    · cases h
  · split at h
    · rename_i he
      cases h
      have := V.beq_eq he
      exact ⟨rfl, fun hy => by rw [this]; exact hy⟩
    · cases h

/-- the other way: the names that it lacks hold nothing -/
theorem Rel.ghosts (h : Rel P ρ α s w) {f : Facts} (hf : FactsOK ρ f) (hL : LensOK ρ) {m1 : PT Obj} (hm : weakM f m1 m1 s.mem = true) {b : Nat} (hb : b < ρ.w0.heap.size) (hbu : Used α s b) (c : Nat) :
    Rel P ρ (ghosts α m1 b) ⟨m1, c⟩ w ∧ Fr α s w (ghosts α m1 b) ⟨m1, c⟩ w := by
  have hle := ghosts_le α m1 b
  have hg := weakM_get hm
  have hβ : ∀ n o, m1.get n = some o → ∃ l, Sx.ghosts α m1 b n = some l := by
    intro n o hn
    unfold Sx.ghosts
    cases hα : α n with
    | some l => exact ⟨l, rfl⟩
    | none => simp [hn]
  -- what lies under a name
  have key : ∀ n o, m1.get n = some o → (∃ o2, s.mem.get n = some o2 ∧ weakO f m1 o o2 = true) ∨ (s.mem.get n = none ∧ ∃ j, o = .bytes (.var j) ∧ emptyStr f j = true) := by
    intro n o hn
    have := hg n
    rw [hn] at this
    cases h2 : s.mem.get n with
    | some y => rw [h2] at this; exact .inl ⟨y, rfl, this⟩
    | none =>
      rw [h2] at this
      unfold weakV at this
      split at this
      · rename_i e _; cases e
      · rename_i e; cases e
      · rename_i j e _
        cases e
        exact .inr ⟨rfl, j, rfl, this⟩
      · cases this
  have key2 : ∀ n o2, s.mem.get n = some o2 → ∃ o, m1.get n = some o := by
    intro n o2 hn
    have := hg n
    rw [hn] at this
    cases ho : m1.get n with
    | some o => exact ⟨o, rfl⟩
    | none => rw [ho] at this; simp [weakV] at this
  have hsm : b < w.heap.size := Nat.lt_of_lt_of_le hb h.size
  have ownk : ∀ n o l, m1.get n = some o → o.own = true → Sx.ghosts α m1 b n = some l → ∃ o2, s.mem.get n = some o2 ∧ o2.own = true ∧ o2.live = o.live ∧ α n = some l := by
    intro n o l hn ho hl
    rcases key n o hn with ⟨o2, h2, hw⟩ | ⟨h2, j, rfl, _⟩
    · cases hα : α n with
      | none => rw [(h.dom n).1 hα] at h2; cases h2
      | some l0 =>
        have := hle n l0 hα
        rw [this] at hl; cases hl
        have hob := (h.obj n o2 l h2 hα).mono _ _ _ _ _ hle
        have hfl := (weakO_ok (P := P) hf hL hβ hw hob).2
        simp [flags] at hfl
        exact ⟨o2, h2, hfl.1.symm.trans ho, hfl.2.symm, rfl⟩
    · cases ho
  refine ⟨⟨?_, ?_, ?_, ?_, h.below, h.init.trans hle⟩, ⟨hle, Nat.le_refl _, fun _ _ _ => rfl, ?_, ?_⟩⟩
  · intro n
    constructor
    · intro hn
      cases ho : m1.get n with
      | none => rfl
      | some o => obtain ⟨l, hl⟩ := hβ n o ho; rw [hl] at hn; cases hn
    · intro hn
      unfold Sx.ghosts
      cases hα : α n with
      | some l =>
        have : s.mem.get n ≠ none := fun e => by rw [(h.dom n).2 e] at hα; cases hα
        cases h2 : s.mem.get n with
        | none => exact absurd h2 this
        | some o2 => obtain ⟨o, ho⟩ := key2 n o2 h2; change m1.get n = none at hn; rw [ho] at hn; cases hn
      | none => simp only; change m1.get n = none at hn; rw [hn]
  · intro n o l hn hl
    rcases key n o hn with ⟨o2, h2, hw⟩ | ⟨h2, j, rfl, he⟩
    · cases hα : α n with
      | none => rw [(h.dom n).1 hα] at h2; cases h2
      | some l0 =>
        have := hle n l0 hα
        rw [this] at hl; cases hl
        exact (weakO_ok hf hL hβ hw ((h.obj n o2 l h2 hα).mono _ _ _ _ _ hle)).1
    · have hα := (h.dom n).2 h2
      change m1.get n = _ at hn
      simp only [Sx.ghosts, hα, hn, Option.some.injEq] at hl
      subst hl
      refine ⟨rfl, .inr ⟨emptyStr_ok hf hL he, ?_⟩⟩
      show (w.heap[b]?).isSome = true
      rw [Array.getElem?_eq_getElem hsm]; rfl
  · intro n k o o' l l' h1 h2 h3 h4 h5 h6 h7
    obtain ⟨o2, a1, a2, a3, a4⟩ := ownk n o l h1 h3 h6
    rcases key k o' h2 with ⟨o3, h8, hw⟩ | ⟨h8, j, rfl, _⟩
    · cases hα : α k with
      | none => rw [(h.dom k).1 hα] at h8; cases h8
      | some l0 =>
        have := hle k l0 hα
        rw [this] at h7; cases h7
        have hfl := (weakO_ok (P := P) hf hL hβ hw ((h.obj k o3 l' h8 hα).mono _ _ _ _ _ hle)).2
        simp [flags] at hfl
        exact h.apart n k o2 o3 l l' a1 h8 a2 (hfl.2.symm.trans h4) h5 a4 hα
    · have hα := (h.dom k).2 h8
      change m1.get k = _ at h2
      simp only [Sx.ghosts, hα, h2, Option.some.injEq] at h7
      subst h7
      have := h.fresh n o2 l a1 a2 a4
      show l.block ≠ b
      omega
  · intro n o l h1 h3 h6
    obtain ⟨o2, a1, a2, a3, a4⟩ := ownk n o l h1 h3 h6
    exact h.fresh n o2 l a1 a2 a4
  · rintro x ⟨n, o, l, h1, h3, h6, rfl⟩
    obtain ⟨o2, a1, a2, a3, a4⟩ := ownk n o l h1 h3 h6
    exact .inl ⟨n, o2, l, a1, a2, a4, rfl⟩
  · rintro x ⟨n, o, l, h1, h3, h6, rfl⟩
    rcases key n o h1 with ⟨o2, h2, hw⟩ | ⟨h2, j, rfl, he⟩
    · cases hα : α n with
      | none => rw [(h.dom n).1 hα] at h2; cases h2
      | some l0 =>
        have := hle n l0 hα
        rw [this] at h6; cases h6
        have hfl := (weakO_ok (P := P) hf hL hβ hw ((h.obj n o2 l h2 hα).mono _ _ _ _ _ hle)).2
        simp [flags] at hfl
        exact .inl ⟨n, o2, l, h2, hfl.2.symm.trans h3, hα, rfl⟩
    · have hα := (h.dom n).2 h2
      change m1.get n = _ at h1
      simp only [Sx.ghosts, hα, h1, Option.some.injEq] at h6
      subst h6
      exact .inl hbu

theorem factsIn_ok {f : Facts} (hf : FactsOK ρ f) {i : Nat} {l h : Int} (h62 : f.rng.get 62 = some (l, h)) (hi : (i : Int) < ρ.int 62) : FactsOK ρ (factsIn f i h) where
  rng k a b hk := by
    simp only [factsIn, PT.get_put] at hk
    split at hk
    · rename_i e
      subst e
      simp only [Option.some.injEq, Prod.mk.injEq] at hk
      obtain ⟨rfl, rfl⟩ := hk
      refine ⟨?_, (hf.rng _ _ _ h62).2⟩
      show ((i + 1 : Nat) : Int) ≤ _
      omega
    · exact hf.rng k a b hk
  cls := hf.cls
  bools := hf.bools
  cmps := hf.cmps
theorem factsOut_ok {f : Facts} (hf : FactsOK ρ f) (hC : CtxOK P ρ) {i : Nat} {l h : Int} (h62 : f.rng.get 62 = some (l, h)) (hi9 : i < 9) (hi : ρ.int 62 ≤ (i : Int)) : FactsOK ρ (factsOut f i l) where
  rng k a b hk := by
    simp only [factsOut, PT.get_put] at hk
    split at hk
    · rename_i e
      subst e
      simp only [Option.some.injEq, Prod.mk.injEq] at hk
      obtain ⟨rfl, rfl⟩ := hk
      have h1 := hC.len i
      have h2 := hC.pad i hi9 hi
      omega
    · split at hk
      · rename_i e
        subst e
        simp only [Option.some.injEq, Prod.mk.injEq] at hk
        obtain ⟨rfl, rfl⟩ := hk
        exact ⟨(hf.rng _ _ _ h62).1, hi⟩
      · exact hf.rng k a b hk
  cls := hf.cls
  bools := hf.bools
  cmps := hf.cmps
theorem CfgOK.with_facts (hc : CfgOK P ρ c) {f : Facts} (hf : FactsOK ρ f) : CfgOK P ρ { c with facts := f } := ⟨hc.ty, hc.fn, hf, hc.mixed⟩
theorem testOf_ok {v : V} {i : Nat} (h : testOf v = some i) : v = .sc (.a (.bool (.cmp .lss (.lit (.ofNat i)) (.var 62)))) ∧ i < 9 := by
  unfold testOf at h
  split at h
  · split at h
    · rename_i j hj
      cases h
      exact ⟨rfl, by have := Nat.le_of_ble_eq_true hj; omega⟩
    · cases h
  · cases h
theorem strN_get : ∀ (n k j : Nat) (c : C), (strN k n)[j]? = some c → c = .a (.str (.var (k + j))) ∧ j < n
  | 0, _, _, _, h => by simp [strN] at h
  | n + 1, k, 0, c, h => by simp [strN] at h; exact ⟨h.symm, by omega⟩
  | n + 1, k, j + 1, c, h => by
    simp only [strN, List.getElem?_cons_succ] at h
    obtain ⟨h1, h2⟩ := strN_get n (k + 1) j c h
    have e : k + 1 + j = k + (j + 1) := by omega
    exact ⟨by rw [h1, e], by omega⟩
theorem isNormal_eq {x : X} (h : isNormal x = true) : x = .normal := by cases x <;> simp_all [isNormal]

theorem soft_ok (hc : CfgOK P ρ c) (hC : CtxOK P ρ) {call : CallF} (hcall : CallOK P ρ call) {lf nt : Nat} {q : Operand} {x y : Code} {s s' : St} {t t' : Tm} {z : X} {v : V} (hv : ev t q = some v)
    (h : soft c call lf nt x y t s v = some (z, t', s')) {α : Al} {a : Act} {w : World} (hR : Rel P ρ α s w) (ht : TmR ρ α t a.tmps) (hn : a.tmps.size = nt) :
    (Code.cond q x y).wp P (EP P ρ α s w nt a.defers z t' s') a w := by
  have hL := hC.len
  unfold soft at h
  split at h
  rotate_left
  · cases h
  rename_i i l hh e hi h62 h2
  obtain ⟨rfl, hi9⟩ := testOf_ok hi
  split at h
  rotate_left
  · cases h
  rename_i x1 t1 s1 hx1
  split at h
  rotate_left
  · cases h
  rename_i x2 t2 s2 hx2
  split at h
  rotate_left
  · cases h
  rename_i cs1 e1 hs1
  split at h
  rotate_left
  · cases h
  rename_i hnorm
  rw [Bool.and_eq_true, Bool.and_eq_true] at hnorm
  obtain ⟨⟨hn1, hn2⟩, he⟩ := hnorm
  have hn1 := isNormal_eq hn1
  have hn2 := isNormal_eq hn2
  have he := Nat.eq_of_beq_eq_true he
  subst hn1; subst hn2; subst he
  split at h
  rotate_left
  · cases h
  rename_i hw
  simp only [Option.some.injEq, Prod.mk.injEq] at h
  obtain ⟨rfl, rfl, rfl⟩ := h
  have hval : a.eval q = .bool ((cmpLit .lss (.ofNat i) (ρ.int 62)).getD false) := ev_ok ht hv
  have hval' : a.eval q = .bool (decide ((i : Int) < ρ.int 62)) := hval
  obtain ⟨l2, hl2, hlt2, xs, e2, fz, hb2, hcells⟩ := hC.loc
  have hα2 := hR.init _ _ hl2
  obtain ⟨⟨_, _, _, _, _⟩, hesz⟩ : OR P ρ α w l2 (.ro [] e) := hR.obj _ _ _ h2 hα2
  by_cases hin : (i : Int) < ρ.int 62
  · refine wp_cond_true (by rw [hval']; simp [hin]) ?_
    have hc1 := hc.with_facts (factsIn_ok hc.facts h62 hin)
    have hal : Alike s ⟨s.mem.put 2 (.ro (strN 0 (i + 1)) e), s.ctr⟩ := alike_put (o' := .ro (strN 0 (i + 1)) e) h2 rfl rfl s.ctr
    have hwb : w.heap[l2.block]? = some (.cells xs e2 fz) := by rw [hR.below.block _ hlt2]; exact hb2
    have hR1 : Rel P ρ α ⟨s.mem.put 2 (.ro (strN 0 (i + 1)) e), s.ctr⟩ w := hR.alike hal (by
      intro n o l hm hl
      simp only [PT.get_put] at hm
      split at hm
      · rename_i en
        subst en
        rw [hα2] at hl; cases hl; cases hm
        refine ⟨⟨xs, e2, fz, hwb, ?_⟩, hesz⟩
        intro j cc hj
        obtain ⟨rfl, hjn⟩ := strN_get _ _ _ _ hj
        refine ⟨_, hcells j (by omega) (by omega), ?_⟩
        show _ = Value.string (ρ.str (0 + j))
        rw [Nat.zero_add]
      · exact hR.obj n o l hm hl)
    refine wp_mono (execC_ok hc1 hL hcall (draw_ok hc1 hL hcall) x _ _ _ _ _ hx1 α a w hR1 ht hn) ?_
    rintro ex a1 w1 ⟨hxr, hd, hsz, α1, hRa, hFa, hta⟩
    refine ⟨hxr, hd, hsz, α1, ?_, ?_, ?_⟩
    · have hal1 : Alike s1 ⟨s1.mem.put 2 (.ro [] e), s1.ctr⟩ := alike_put (o' := .ro [] e) hs1 rfl rfl s1.ctr
      refine hRa.alike hal1 ?_
      intro n o l hm hl
      simp only [PT.get_put] at hm
      split at hm
      · rename_i en
        subst en
        cases hm
        obtain ⟨⟨ys, ey, fy, hby, _⟩, hez⟩ := hRa.obj _ _ _ hs1 hl
        exact ⟨⟨ys, ey, fy, hby, fun j cc hj => by simp at hj⟩, hez⟩
      · exact hRa.obj n o l hm hl
    · have hal1 : Alike s1 ⟨s1.mem.put 2 (.ro [] e), s1.ctr⟩ := alike_put (o' := .ro [] e) hs1 rfl rfl s1.ctr
      exact (hal.fr.trans hFa).trans hal1.fr
    · intro k u hk
      obtain ⟨p1, p2, h1, _, h3⟩ := softT_get hk
      rw [softV_fst h3]
      exact hta k p1 h1
  · refine wp_cond_false (by rw [hval']; simp [hin]) ?_
    have hf2 := factsOut_ok (P := P) hc.facts hC h62 hi9 (by omega)
    have hc2 := hc.with_facts hf2
    refine wp_mono (execC_ok hc2 hL hcall (draw_ok hc2 hL hcall) y _ _ _ _ _ hx2 α a w hR ht hn) ?_
    rintro ex a1 w1 ⟨hxr, hd, hsz, α1, hRa, hFa, hta⟩
    -- name 2 is known behind it, too
    have hα12 := hFa.le _ _ hα2
    have hused : Used α1 s2 l2.block := by
      have hg := weakM_get hw 2
      rw [PT.get_put, if_pos rfl] at hg
      cases h22 : s2.mem.get 2 with
      | none => rw [h22] at hg; simp [weakV] at hg
      | some o2 =>
        rw [h22] at hg
        have hg' : weakO (factsOut c.facts i l) (s1.mem.put 2 (.ro [] e)) (.ro [] e) o2 = true := hg
        simp only [weakO] at hg'
        have := Obj.beq_eq hg'
        subst this
        exact ⟨2, _, l2, h22, rfl, hα12, rfl⟩
    obtain ⟨hR3, hF3⟩ := hRa.ghosts hf2 hL hw hlt2 hused s1.ctr
    refine ⟨hxr, hd, hsz, _, hR3, hFa.trans hF3, ?_⟩
    intro k u hk
    obtain ⟨p1, p2, _, h1, h3⟩ := softT_get hk
    exact (softV_ok hf2 hL h3).2 (VR.mono (ghosts_le _ _ _) (hta k p2 h1))

theorem condJ_ok (hc : CfgOK P ρ c) (hC : CtxOK P ρ) {call : CallF} (hcall : CallOK P ρ call) {lf nt : Nat} {f g : Ex} {q : Operand} {x y : Code} (hf : CodeOK P ρ nt f x) (hg : CodeOK P ρ nt g y) :
    CodeOK P ρ nt (fun t s => onTestJ c call lf nt x y f g t s (ev t q)) (.cond q x y) := fun t s z t' s' h α a w hR ht hn => by
  simp only [onTestJ] at h
  split at h
  · rename_i v hv
    split at h
    · rename_i hk
      exact wp_cond_true (knownB_ok hc hk (ev_ok ht hv)) (hf t s z t' s' h α a w hR ht hn)
    · rename_i hk
      exact wp_cond_false (knownB_ok hc hk (ev_ok ht hv)) (hg t s z t' s' h α a w hR ht hn)
    · exact soft_ok hc hC hcall hv h hR ht hn
  · simp at h

theorem execJ_ok (hc : CfgOK P ρ c) (hC : CtxOK P ρ) {call : CallF} (hcall : CallOK P ρ call) {lf nt : Nat} (code : Code) :
    CodeOK P ρ nt (execJ c call lf nt code) code := by
  have hL := hC.len
  have hd := draw_ok hc hL hcall
  induction code with
  | skip => exact skip_ok
  | region id ops draw =>
    cases draw with
    | false => exact plain_ok hc hL hcall
    | true => exact hd id nt ops
  | seq x y hx hy => exact seq_ok hx hy
  | cond q x y hx hy => exact condJ_ok hc hC hcall hx hy
  | block id x hx => exact block_ok hx
  | loop x hx => exact loop_ok hx
  | rangeFunc => exact none_ok
  | exit id => exact exit_ok
  | scope => exact none_ok
  | label => exact none_ok
  | goto => exact none_ok
  | ret => exact ret_ok
  | refuse => exact none_ok

theorem con_soft (hc : CfgOK P ρ c) (hC : CtxOK P ρ) {f : FuncId} {fn : Func} (hfn : c.fn.get f = some fn) (lf : Nat) : ConOK P ρ f (cSoft c lf fn) := by
  intro call ih args s v s' h' α w vals hR hv
  unfold cSoft at h'
  split at h'
  · rename_i body hb
    obtain ⟨hf, _, _⟩ := hc.fn _ _ hfn
    refine calls_of_wp hf hb ?_
    have hlen := hv.length
    simp only [Array.length_toList] at hlen
    have hsz : (vals ++ Array.replicate (fn.ntmps - vals.size) undef).size = Nat.max fn.ntmps (len args) := by
      simp only [Array.size_append, Array.size_replicate, len_eq, hlen]
      show _ = max _ _
      omega
    have key : ∀ x t1 s1, execJ c call lf (Nat.max fn.ntmps (len args)) body (tmOf args 0 .leaf) s = some (x, t1, s1) → (x = .normal ∨ x = .ret) → ∀ vs, resultsV c t1 s1 fn.results.toList = some vs →
        packV vs = v → s1 = s' →
        body.wp P (bodyPost P fn fun e w' => ∃ x, e = .returned x ∧ Post P ρ α s w v s' x w') { tmps := vals ++ Array.replicate (fn.ntmps - vals.size) undef, defers := [] } w := by
      intro x t1 s1 hex hx vs hvs hv1 hs1
      subst hs1
      refine wp_mono (execJ_ok hc hC ih body _ _ _ _ _ hex α _ w hR (tmOf_tm hv _) hsz) ?_
      rintro e a1 w1 ⟨hxr, hde, _, α1, hR1, hF1, ht1⟩
      obtain ⟨y, hy, hvy⟩ := results_ok hc hR1 ht1 hvs
      rw [hv1] at hvy
      have : bodyPost P fn (fun e w' => ∃ x, e = .returned x ∧ Post P ρ α s w v s1 x w') .ret a1 w1 := ⟨hde, y, hy, y, rfl, α1, hR1, hF1, hvy⟩
      rcases hx with rfl | rfl
      · cases e <;> simp [XR] at hxr
        exact this
      · cases e <;> simp [XR] at hxr
        exact this
    split at h'
    · simp at h'
    · simp at h'
    · rename_i x t1 s1 hne hex
      have hx : x = .normal ∨ x = .ret := by
        cases x with
        | normal => exact .inl rfl
        | ret => exact .inr rfl
        | exit i => exact (hne i rfl).elim
      split at h'
      · rename_i v1 hvs
        simp at h'
        exact key _ _ _ hex hx _ hvs h'.1 h'.2
      · rename_i vs hne2 hvs
        simp at h'
        exact key _ _ _ hex hx _ hvs ((packV_many hne2).trans h'.1) h'.2
      · simp at h'
  · simp at h'
end
end Go.Sx
end
