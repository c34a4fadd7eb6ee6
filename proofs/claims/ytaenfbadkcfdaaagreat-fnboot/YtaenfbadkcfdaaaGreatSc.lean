/-
  The executor's operations (third part): arithmetic, comparison, conversion.
-/
import Derived.Test.YtaenfbadkcfdaaaGreatSb
import Derived.Laws.Strings
import Derived.Laws.StructEq
import Derived.Laws.BytesString
import Derived.Laws.AppendOwn
noncomputable section
namespace Go.Sx
set_option linter.unusedVariables false
set_option linter.unusedSimpArgs false

/-- how long strings are -/
def LensOK (ρ : Env) : Prop := ∀ i, ρ.int (500 + i) = (ρ.str i).size

section
variable {P : Program} {ρ : Env} {c : Cfg} {α : Al} {s s' : St} {w : World} {t : Tm} {a : Act} {v : V} {o : Oper} {nm : Nat}

theorem S.lenE_den (hl : LensOK ρ) (x : S) : x.lenE.den ρ = (x.den ρ).size := by
  cases x with
  | lit l => simp [S.lenE, S.den, E.den, ByteArray.size]
  | var i => simp [S.lenE, S.den, E.den, hl i]

theorem intOp_ok (hf : FactsOK ρ c.facts) {op : BinOp} {k : IntKind} {x y : E} (hns : op ≠ .shl ∧ op ≠ .shr) (h : intOp c.facts op k x y = some v) (ty : TypeId) :
    ∃ z, (binOp op ty (.int k (x.den ρ)) (.int k (y.den ρ))).run P w = .ok z w ∧ VR ρ α v z := by
  unfold intOp at h
  cases op <;> simp only [reduceCtorEq] at h <;> try (simp at h; done)
  case add =>
    refine ⟨.int k (k.wrap (x.den ρ + y.den ρ)), by simp [binOp, Op.intArith], ?_⟩
    split at h
    · simp only [forceI_eq, Option.some.injEq] at h
      subst h
      rfl
    · rename_i n hn
      simp at h; subst h
      show _ = _
      split
      · rename_i h0; subst h0; simp [E.den, E.mkCv_den hf]
      · rfl
    · simp at h; subst h; rfl
  case sub =>
    refine ⟨.int k (k.wrap (x.den ρ - y.den ρ)), by simp [binOp, Op.intArith], ?_⟩
    split at h
    · simp only [forceI_eq, Option.some.injEq] at h
      subst h
      rfl
    · simp at h; subst h; rfl
  case mul =>
    refine ⟨.int k (k.wrap (x.den ρ * y.den ρ)), by simp [binOp, Op.intArith], ?_⟩
    split at h
    · simp only [forceI_eq, Option.some.injEq] at h
      subst h
      rfl
    · simp at h
  all_goals
    simp only [Option.some.injEq] at h
    subst h
    refine ⟨.bool ((mkCmp c.facts _ x y).den ρ), ?_, rfl⟩
    rw [mkCmp_den hf rfl]
    simp [binOp, Op.intCmp]

theorem bytes_beq (x y : List UInt8) : ((⟨x.toArray⟩ : ByteArray).toList == (⟨y.toArray⟩ : ByteArray).toList) = (x == y) := by simp [ByteArray.toList_mk]

theorem strOp_ok {op : BinOp} {x y : S} (h : strOp op x y = some v) (ty : TypeId) :
    ∃ z, (binOp op ty (.string (x.den ρ)) (.string (y.den ρ))).run P w = .ok z w ∧ VR ρ α v z := by
  unfold strOp at h
  cases op <;> simp only [reduceCtorEq] at h <;> try (simp at h; done)
  case eql =>
    refine ⟨.bool ((x.den ρ).toList == (y.den ρ).toList), by simp [binOp, Op.stringOp], ?_⟩
    split at h
    · rename_i hb
      simp at h; subst h
      rw [S.beq_eq hb]
      show _ = _
      simp [B.den]
    · split at h
      · simp at h; subst h
        show _ = _
        simp only [S.den, bytes_beq, B.den]
      · simp at h
  case neq =>
    refine ⟨.bool !((x.den ρ).toList == (y.den ρ).toList), by simp [binOp, Op.stringOp], ?_⟩
    split at h
    · rename_i hb
      simp at h; subst h
      rw [S.beq_eq hb]
      show _ = _
      simp [B.den]
    · split at h
      · simp at h; subst h
        show _ = _
        simp only [S.den, bytes_beq, B.den]
      · simp at h

theorem byteArray_beq (x y : List UInt8) : ((⟨x.toArray⟩ : ByteArray) == (⟨y.toArray⟩ : ByteArray)) = (x == y) := by
  rw [beq_toListBytes, bytes_beq]
theorem byteArray_self (x : ByteArray) : (x == x) = true := by
  rw [beq_toListBytes]; simp

/-- '==' of two values of one cell, at any depth above none -/
theorem eqCell_ok (hf : FactsOK ρ c.facts) {d : Nat} {ty : TypeId} {k : K} {x y : C} {u z : Value} {b : Bool} (hk : KOK P ty k) (hfit : fitsK k x = true) (h : eqCell c x y = some b)
    (hu : CR ρ α x u) (hz : CR ρ α y z) : (Op.equalIn (d + 1) ty u z).run P w = .ok b w := by
  unfold eqCell at h
  split at h
  · -- ints
    rename_i k1 e1 k2 e2
    split at h
    · rename_i hkk
      subst hkk
      have h1 : u = .int k1 (e1.den ρ) := hu
      have h2 : z = .int k1 (e2.den ρ) := hz
      cases k <;> simp [fitsK] at hfit
      have hd := decideCmp_ok hf h
      simp only [cmpLit, Option.some.injEq] at hd
      have hk' : P.underlying ty = _ := hk
      simp [Op.equalIn, run_underlying hk', h1, h2, hd]
    · simp at h
  · -- strings
    rename_i s1 s2
    have h1 : u = .string (s1.den ρ) := hu
    have h2 : z = .string (s2.den ρ) := hz
    cases k <;> simp [fitsK] at hfit
    have hk' : P.underlying ty = _ := hk
    split at h
    · rename_i hb
      simp at h; subst h
      rw [S.beq_eq hb] at h1
      simp [Op.equalIn, run_underlying hk', h1, h2, byteArray_self]
    · split at h
      · simp at h; subst h
        simp [Op.equalIn, run_underlying hk', h1, h2, S.den, byteArray_beq]
      · simp at h
  · -- bools
    rename_i b1 b2
    have h1 : u = .bool (b1.den ρ) := hu
    have h2 : z = .bool (b2.den ρ) := hz
    cases k <;> simp [fitsK] at hfit
    have hk' : P.underlying ty = _ := hk
    split at h
    · rename_i x1 x2 e1 e2
      simp at h; subst h
      simp [Op.equalIn, run_underlying hk', h1, h2, B.known_ok hf e1, B.known_ok hf e2]
    · simp at h
  · -- pointers
    rename_i q
    simp at h; subst h
    have h1 : u = .pointer none := hu
    cases k <;> simp [fitsK] at hfit
    have hk' : P.underlying ty = _ := hk
    cases q with
    | none => have h2 : z = .pointer none := hz; simp [Op.equalIn, run_underlying hk', h1, h2]
    | some q => obtain ⟨l, _, h2⟩ := hz; simp [Op.equalIn, run_underlying hk', h1, h2]
  · simp at h; subst h
    obtain ⟨l, _, h1⟩ := hu
    have h2 : z = .pointer none := hz
    cases k <;> simp [fitsK] at hfit
    have hk' : P.underlying ty = _ := hk
    simp [Op.equalIn, run_underlying hk', h1, h2]
  · -- slices
    rename_i q _ _
    simp at h; subst h
    have h1 := hu.1
    cases k <;> simp [fitsK] at hfit
    have hk' : P.underlying ty = _ := hk
    cases q with
    | none => have h2 := hz.1; simp [Op.equalIn, run_underlying hk', h1, h2]
    | some q => obtain ⟨l, aa, ln, cp, _, h2, _⟩ := hz; simp [Op.equalIn, run_underlying hk', h1, h2]
  · simp at h; subst h
    obtain ⟨l, aa, ln, cp, _, h1, _⟩ := hu
    have h2 := hz.1
    cases k <;> simp [fitsK] at hfit
    have hk' : P.underlying ty = _ := hk
    simp [Op.equalIn, run_underlying hk', h1, h2]
  · -- maps
    rename_i q
    simp at h; subst h
    have h1 : u = .map none := hu
    cases k <;> simp [fitsK] at hfit
    have hk' : P.underlying ty = _ := hk
    cases q with
    | none => have h2 : z = .map none := hz; simp [Op.equalIn, run_underlying hk', h1, h2]
    | some q => obtain ⟨l, _, h2⟩ := hz; simp [Op.equalIn, run_underlying hk', h1, h2]
  · simp at h; subst h
    obtain ⟨l, _, h1⟩ := hu
    have h2 : z = .map none := hz
    cases k <;> simp [fitsK] at hfit
    have hk' : P.underlying ty = _ := hk
    simp [Op.equalIn, run_underlying hk', h1, h2]
  · -- functions
    simp at h; subst h
    have h1 : u = .nilFunc := hu
    have h2 : z = .nilFunc := hz
    cases k <;> simp [fitsK] at hfit
    obtain ⟨a1, a2, a3, hk'⟩ := hk
    simp [Op.equalIn, run_underlying hk', h1, h2]
  · simp at h; subst h
    have h1 : u = .nilFunc := hu
    obtain ⟨xs, ys, h2, _⟩ := hz
    cases k <;> simp [fitsK] at hfit
    obtain ⟨a1, a2, a3, hk'⟩ := hk
    simp [Op.equalIn, run_underlying hk', h1, h2]
  · simp at h; subst h
    obtain ⟨xs, ys, h1, _⟩ := hu
    have h2 : z = .nilFunc := hz
    cases k <;> simp [fitsK] at hfit
    obtain ⟨a1, a2, a3, hk'⟩ := hk
    simp [Op.equalIn, run_underlying hk', h1, h2]
  · -- interfaces
    simp at h; subst h
    have h1 : u = .nilIface := hu
    obtain ⟨y1, h2, _⟩ := hz
    cases k <;> simp [fitsK] at hfit
    obtain ⟨a1, hk'⟩ := hk
    simp [Op.equalIn, run_underlying hk', h1, h2]
  · simp at h; subst h
    obtain ⟨y1, h1, _⟩ := hu
    have h2 : z = .nilIface := hz
    cases k <;> simp [fitsK] at hfit
    obtain ⟨a1, hk'⟩ := hk
    simp [Op.equalIn, run_underlying hk', h1, h2]
  · simp at h

/-- a field that is of one cell -/
theorem plainField_ok (hc : CfgOK P ρ c) {f : Nat × TypeId} (h : plainField c.ty f = true) : ∃ ti, TIok P f.2 ti ∧ ti.agg = false ∧ (ti.k = .bool ∨ ti.k = .str ∨ ∃ k, ti.k = .int k) := by
  unfold plainField at h
  split at h
  · rename_i k hk; exact ⟨_, hc.ty _ _ hk, by simp [TI.agg], .inr (.inr ⟨_, rfl⟩)⟩
  · rename_i hk; exact ⟨_, hc.ty _ _ hk, by simp [TI.agg], .inr (.inl rfl)⟩
  · rename_i hk; exact ⟨_, hc.ty _ _ hk, by simp [TI.agg], .inl rfl⟩
  · simp at h

theorem AR.of_nilIface {x : A} (h : AR ρ α x .nilIface) : (∃ i, x = .ob i) ∨ x = .any := by
  cases x with
  | ptr p => cases p with
    | none => cases (show Value.nilIface = _ from h)
    | some p => obtain ⟨l, _, e⟩ := h; cases e
  | slice p len cap => cases p with
    | none => cases h.1
    | some p => obtain ⟨l, a, ln, c, _, e, _⟩ := h; cases e
  | map m => cases m with
    | none => cases (show Value.nilIface = _ from h)
    | some p => obtain ⟨l, _, e⟩ := h; cases e
  | ob i => exact .inl ⟨i, rfl⟩
  | any => exact .inr rfl
  | ms n i =>
    obtain ⟨l, _, h1, h2⟩ := h
    by_cases hz : (ρ.str i).size = 0
    · cases h1 hz
    · obtain ⟨c, e⟩ := h2 hz; cases e
  | bool b => cases (show Value.nilIface = _ from h)
  | int k e => cases (show Value.nilIface = _ from h)
  | str s => cases (show Value.nilIface = _ from h)

/-- no number, no string -/
def plainEq : Value → Bool
  | .int _ _ | .float _ _ | .complex _ _ _ | .string _ => false
  | _ => true
theorem binOp_eql_plain {u : Value} (h : plainEq u = true) (ty : TypeId) (z : Value) : binOp .eql ty u z = (do pure (.bool (← Op.equal ty u z))) := by
  cases u <;> simp [plainEq] at h <;> simp [binOp]
theorem binOp_neq_plain {u : Value} (h : plainEq u = true) (ty : TypeId) (z : Value) : binOp .neq ty u z = (do pure (.bool (!(← Op.equal ty u z)))) := by
  cases u <;> simp [plainEq] at h <;> simp [binOp]
theorem eqV_plain {ty : TypeId} {x y : Operand} {A B : V} {u : Value} {b : Bool} (h : eqV c ty x y A B = some b) (hu : VR ρ α A u)
    (hi : ∀ k e k' e', A = .sc (.a (.int k e)) → B = .sc (.a (.int k' e')) → False) (hs : ∀ e e', A = .sc (.a (.str e)) → B = .sc (.a (.str e')) → False) : plainEq u = true := by
  unfold eqV at h
  split at h
  · rename_i a1 b1
    rw [iteB_eq] at h
    split at h
    · split at h
      · rw [show u = .nilIface from hu]; rfl
      · cases a1 with
        | func fn f cs => obtain ⟨xs, ys, e, _⟩ := hu; rw [e]; rfl
        | nilFunc => rw [show u = .nilFunc from hu]; rfl
        | nilIface => rw [show u = .nilIface from hu]; rfl
        | iface t q => obtain ⟨q', e, _⟩ := hu; rw [e]; rfl
        | a q =>
          cases q with
          | int k e =>
            cases b1 with
            | a q' => cases q' with
              | int k' e' => exact (hi _ _ _ _ rfl rfl).elim
              | _ => simp [eqCell] at h
            | _ => simp [eqCell] at h
          | str e =>
            cases b1 with
            | a q' => cases q' with
              | str e' => exact (hs _ _ rfl rfl).elim
              | _ => simp [eqCell] at h
            | _ => simp [eqCell] at h
          | bool e => rw [show u = _ from hu]; rfl
          | ob i => simp [eqCell] at h
          | any => simp [eqCell] at h
          | ms n i => simp [eqCell] at h
          | ptr p => cases p with
            | none => rw [show u = _ from hu]; rfl
            | some p => obtain ⟨l, _, e⟩ := hu; rw [e]; rfl
          | slice p len cap => cases p with
            | none => rw [hu.1]; rfl
            | some p => obtain ⟨l, a, ln, c, _, e, _⟩ := hu; rw [e]; rfl
          | map m => cases m with
            | none => rw [show u = _ from hu]; rfl
            | some p => obtain ⟨l, _, e⟩ := hu; rw [e]; rfl
    · simp at h
  · obtain ⟨xs, e, _⟩ := hu; rw [e]; rfl
  · simp at h

theorem eqFields_ok (hc : CfgOK P ρ c) {d : Nat} {xs ys : List C} {us zs : Array Value} (hx : All2 (CR ρ α) xs us.toList) (hy : All2 (CR ρ α) ys zs.toList) :
    ∀ {fds : List Field} {b : Bool}, (∀ f ∈ fds, f.name ≠ "_") → (fds.map fun f => (f.offset, f.type)).all (fun f => plainField c.ty f && (match xs[f.1]? with | some x => fitsT c f.2 x | none => false)) = true →
      eqFields c xs ys (fds.map fun f => (f.offset, f.type)) = some b → (Op.eqFields (d + 1) us zs fds).run P w = .ok b w
  | [], b, _, _, h => by simp [eqFields] at h; subst h; simp [Op.eqFields]
  | f :: fds, b, hn, hpl, h => by
    simp only [List.map_cons, List.all_cons, Bool.and_eq_true] at hpl
    obtain ⟨⟨hp1, hp2⟩, hp3⟩ := hpl
    obtain ⟨ti, hti, hag, hk⟩ := plainField_ok hc hp1
    simp only [List.map_cons, eqFields] at h
    split at h
    · rename_i x y hxo hyo
      rw [hxo] at hp2
      obtain ⟨u, hu, hxu⟩ := hx.get _ _ hxo
      obtain ⟨z, hz, hyz⟩ := hy.get _ _ hyo
      have hu' : us[f.offset]? = some u := by simpa using hu
      have hz' : zs[f.offset]? = some z := by simpa using hz
      have hag' := run_isAgg_of (w := w) hti
      rw [hag] at hag'
      have h1 : (part f.type us f.offset).run P w = .ok u w := by
        simp only [part, Sem.run_bind, hag', Result.andThen_ok, Bool.false_eq_true, if_false, hu', Sem.run_pure]
      have h2 : (part f.type zs f.offset).run P w = .ok z w := by
        simp only [part, Sem.run_bind, hag', Result.andThen_ok, Bool.false_eq_true, if_false, hz', Sem.run_pure]
      have heq : ∀ r, eqCell c x y = some r → (Op.equalIn (d + 1) f.type u z).run P w = .ok r w := fun r hr => by
        unfold fitsT at hp2
        simp only at hp2
        split at hp2
        · rename_i ti' hti'
          exact eqCell_ok hc.facts (hc.ty _ _ hti').kind hp2 hr hxu hyz
        · simp at hp2
      have hname : f.name ≠ "_" := hn f (by simp)
      split at h
      · rename_i hr
        have ih := eqFields_ok hc (d := d) hx hy (fun f hf => hn f (by simp [hf])) hp3 h
        simp only [Op.eqFields, if_pos hname, Sem.run_bind, h1, h2, heq _ hr, Result.andThen_ok, Bool.not_true, Bool.false_eq_true, if_false, ih]
      · rename_i hr
        simp at h; subst h
        simp only [Op.eqFields, if_pos hname, Sem.run_bind, h1, h2, heq _ hr, Result.andThen_ok, Bool.not_false, if_true, Sem.run_pure]
      · simp at h
    · simp at h

theorem not_guardType (hc : CfgOK P ρ c) {f : Nat × TypeId} (h : plainField c.ty f = true) (d : Nat) : P.eqGuardType (d + 1) f.2 = false := by
  obtain ⟨ti, hti, _, hk⟩ := plainField_ok hc h
  have := hti.kind
  rcases hk with e | e | ⟨k, e⟩ <;> rw [e] at this <;> simp only [KOK] at this <;> simp [Program.eqGuardType, this]

theorem equalIn_nil (d : Nat) {ty : TypeId} {ms : Array (String × TypeId)} (h : P.underlying ty = some (.interface ms)) : (Op.equalIn (d + 1) ty .nilIface .nilIface).run P w = .ok true w := by
  simp [Op.equalIn, run_underlying h]

theorem eqV_ok (hc : CfgOK P ρ c) {ty : TypeId} {x y : Operand} {A B : V} {u z : Value} {b : Bool} (h : eqV c ty x y A B = some b) (hu : VR ρ α A u) (hz : VR ρ α B z)
    (hcx : isConst x = true → ∃ k, x = .const k) (hcy : isConst y = true → ∃ k, y = .const k) :
    (∀ op, (eqGuard op ty x y u z).run P w = .ok () w) ∧ (Op.equal ty u z).run P w = .ok b w := by
  unfold eqV at h
  split at h
  · rename_i a1 b1
    rw [iteB_eq] at h
    split at h
    · rename_i hfit
      unfold fitsT at hfit
      split at hfit
      · rename_i ti hti
        have hk := (hc.ty _ _ hti).kind
        split at h
        · -- nil, both
          have h1 : u = .nilIface := hu
          have h2 : z = .nilIface := hz
          rw [iteB_eq, iteB_eq] at h
          have hb : b = true ∧ (isConst x = true ∨ isConst y = true) := by
            split at h
            · rename_i hcc; simp at h; exact ⟨h, .inl hcc⟩
            · split at h
              · rename_i hcc; simp at h; exact ⟨h, .inr hcc⟩
              · simp at h
          obtain ⟨rfl, hcon⟩ := hb
          constructor
          · intro op
            rw [h1, h2]
            rcases hcon with hcc | hcc
            · obtain ⟨k, rfl⟩ := hcx hcc
              simp [eqGuard_nil_constL]
            · obtain ⟨k, rfl⟩ := hcy hcc
              simp [eqGuard_nil_constR]
          · cases hkk : ti.k <;> rw [hkk] at hfit hk <;> simp [fitsK] at hfit
            obtain ⟨ms, hk'⟩ := hk
            rw [h1, h2]
            exact equalIn_nil 9999 hk'
        · rename_i hnn
          refine ⟨fun op => ?_, ?_⟩
          · have hfl := CR.flat hu
            have : eqGuard op ty x y u z = pure () := by
              cases u <;> first
                | exact hfl.elim
                | (cases op <;> rfl)
                | skip
              have hfz := CR.flat hz
              cases z <;> first
                | exact hfz.elim
                | (cases op <;> rfl)
                | skip
              exfalso
              have ha : a1 = .nilIface ∨ ∃ q, a1 = .a q := by
                cases a1 with
                | a q => exact .inr ⟨q, rfl⟩
                | func fn f cs => obtain ⟨xs, ys, e, _⟩ := hu; cases e
                | nilFunc => have : Value.nilIface = .nilFunc := hu; cases this
                | iface t1 q => obtain ⟨q', e, _⟩ := hu; cases e
                | nilIface => exact .inl rfl
              have hb' : b1 = .nilIface ∨ ∃ q, b1 = .a q := by
                cases b1 with
                | a q => exact .inr ⟨q, rfl⟩
                | func fn f cs => obtain ⟨xs, ys, e, _⟩ := hz; cases e
                | nilFunc => have : Value.nilIface = .nilFunc := hz; cases this
                | iface t1 q => obtain ⟨q', e, _⟩ := hz; cases e
                | nilIface => exact .inl rfl
              rcases ha with rfl | ⟨q, rfl⟩
              · rcases hb' with rfl | ⟨q, rfl⟩
                · exact hnn rfl rfl
                · simp [eqCell] at h
              · rcases AR.of_nilIface hu with ⟨i, rfl⟩ | rfl <;> cases hkk : ti.k <;> rw [hkk] at hfit <;> simp [fitsK] at hfit
            rw [this]; rfl
          · exact eqCell_ok hc.facts hk hfit h hu hz
      · simp at hfit
    · simp at h
  · rename_i xs ys
    obtain ⟨us, rfl, hxs⟩ := hu
    obtain ⟨zs, rfl, hys⟩ := hz
    split at h
    · rename_i fs hfs
      split at h
      · rename_i hall
        have hk := (hc.ty _ _ hfs).kind
        obtain ⟨fields, hu', hfl, hst, hnm, _⟩ := hk
        subst hfl
        have hg : P.eqGuardType P.depth ty = false := by
          have hd : P.depth = (2 * (P.types.size + Made.depth) + 1) + 1 := rfl
          rw [hd]
          simp only [Program.eqGuardType, hu']
          rw [← Array.any_toList, List.any_eq_false]
          intro f hf
          simp only [Bool.and_eq_true, not_and, Bool.not_eq_true]
          intro _
          have := (List.all_eq_true.1 hall) (f.offset, f.type) (List.mem_map.2 ⟨f, hf, rfl⟩)
          simp only [Bool.and_eq_true] at this
          exact not_guardType hc this.1 _
        refine ⟨fun op => run_eqGuard_agg w op ty x y us zs hg, ?_⟩
        have hfo : P.fieldsOf ty = fields := by simp [Program.fieldsOf, hu']
        have := run_equalIn_struct w 9999 ty us zs (by rw [hfo]; exact hu') hst
        simp only [Op.equal, Op.maxDepth]
        rw [this, hfo]
        exact eqFields_ok hc (d := 9998) hxs hys hnm hall h
      · simp at h
    · simp at h
  · simp at h

theorem op_binOp (hc : CfgOK P ρ c) (hR : Rel P ρ α s w) (ht : TmR ρ α t a.tmps) {op : BinOp} {xt : TypeId} {x y : Operand} {yt : TypeId} (ho : o.op = .binOp op xt x y yt) (h : opBin c t s op xt x y = some (v, s')) : OpV P ρ α s w v s' o a := by
  unfold opBin at h
  split at h
  · rename_i A hA
    split at h
    · rename_i B hB
      obtain ⟨h1, rfl⟩ := pv_some h
      have hu := ev_ok ht hA
      have hz := ev_ok ht hB
      have key : ∃ r, (eqGuard op xt x y (a.eval x) (a.eval y)).run P w = .ok () w ∧ (binOp op xt (a.eval x) (a.eval y)).run P w = .ok r w ∧ VR ρ α v r := by
        unfold binV at h1
        split at h1
        · rename_i k e k' e'
          have e1 : a.eval x = .int k (e.den ρ) := hu
          have e2 : a.eval y = .int k' (e'.den ρ) := hz
          split at h1
          · rename_i hkk
            subst hkk
            have hns : op ≠ .shl ∧ op ≠ .shr := by constructor <;> (intro hh; subst hh; simp [intOp] at h1)
            obtain ⟨r, hr, hv⟩ := intOp_ok (P := P) (α := α) (w := w) hc.facts hns h1 xt
            refine ⟨r, ?_, by rw [e1, e2]; exact hr, hv⟩
            rw [e1]; simp [eqGuard_at_int]
          · simp at h1
        · rename_i s1 s2
          have e1 : a.eval x = .string (s1.den ρ) := hu
          have e2 : a.eval y = .string (s2.den ρ) := hz
          obtain ⟨r, hr, hv⟩ := strOp_ok (P := P) (α := α) (ρ := ρ) (w := w) h1 xt
          refine ⟨r, ?_, by rw [e1, e2]; exact hr, hv⟩
          rw [e1]; simp [eqGuard_at_string]
        · rename_i hni hns
          have hconst : ∀ q : Operand, isConst q = true → ∃ k, q = .const k := fun q hq => by cases q <;> simp [isConst] at hq; exact ⟨_, rfl⟩
          have hgen : ∀ r, eqV c xt x y A B = some r → (binOp .eql xt (a.eval x) (a.eval y)).run P w = .ok (.bool r) w ∧ (binOp .neq xt (a.eval x) (a.eval y)).run P w = .ok (.bool !r) w ∧ (∀ op, (eqGuard op xt x y (a.eval x) (a.eval y)).run P w = .ok () w) := fun r hr => by
            obtain ⟨hg, heq⟩ := eqV_ok (w := w) hc hr hu hz (hconst x) (hconst y)
            have hp := eqV_plain hr hu (fun k e k' e' h1 h2 => hni k e k' e' h1 h2) (fun e e' h1 h2 => hns e e' h1 h2)
            refine ⟨?_, ?_, hg⟩
            · rw [binOp_eql_plain hp]; simp [heq]
            · rw [binOp_neq_plain hp]; simp [heq]
          split at h1
          · cases hr : eqV c xt x y A B with
            | none => rw [hr] at h1; simp at h1
            | some r =>
              rw [hr] at h1; simp at h1; subst h1
              obtain ⟨g1, g2, g3⟩ := hgen r hr
              exact ⟨_, g3 _, g1, rfl⟩
          · cases hr : eqV c xt x y A B with
            | none => rw [hr] at h1; simp at h1
            | some r =>
              rw [hr] at h1; simp at h1; subst h1
              obtain ⟨g1, g2, g3⟩ := hgen r hr
              exact ⟨_, g3 _, g2, rfl⟩
          · simp at h1
      obtain ⟨r, hg, hr, hv⟩ := key
      refine OpV.val hR hv ?_
      unfold execOp; rw [ho]
      simp [hg, hr]
    · simp at h
  · simp at h

theorem op_convert (hc : CfgOK P ρ c) (hL : LensOK ρ) (hR : Rel P ρ α s w) (ht : TmR ρ α t a.tmps) {src dst : TypeId} {x : Operand} (ho : o.op = .convert src dst x) (h : opConv c t s src dst x = some (v, s')) : OpV P ρ α s w v s' o a := by
  unfold opConv at h
  split at h
  · rename_i si hsi
    split at h
    · rename_i di hdi
      split at h
      · rename_i y hy
        obtain ⟨h1, rfl⟩ := pv_some h
        have hv := ev_ok ht (atomOf_some hy)
        have hsk := (hc.ty _ _ hsi).kind
        have hdk := (hc.ty _ _ hdi).kind
        have key : ∃ z, (convert src dst (a.eval x)).run P w = .ok z w ∧ VR ρ α v z := by
          unfold convA at h1
          split at h1
          · -- to a number
            rename_i k hk
            rw [hk] at hdk
            split at h1
            · rename_i k' e
              simp at h1; subst h1
              have hx : a.eval x = .int k' (e.den ρ) := hv
              have hd' : P.underlying dst = some (.int k) := hdk
              have hs' : ∃ d, P.underlying src = some d := by
                cases hag : si.agg with
                | false => exact ((hc.ty _ _ hsi).plain hag).imp fun _ hh => hh.1
                | true =>
                  unfold TI.agg at hag
                  split at hag
                  · rename_i fs e2; rw [e2] at hsk; obtain ⟨f, hf, _⟩ := hsk; exact ⟨_, hf⟩
                  · rename_i n e2 e3; rw [e3] at hsk; exact ⟨_, hsk⟩
                  · simp at hag
              obtain ⟨sd, hs'⟩ := hs'
              refine ⟨.int k (k.wrap (e.den ρ)), ?_, ?_⟩
              · simp [convert, run_underlying hs', run_underlying hd', hx, Conv.intToInt]
              · show _ = _
                rw [E.mkCv_den hc.facts]
            · simp at h1
          · -- to a string
            rename_i hk
            rw [hk] at hdk
            have hd' : P.underlying dst = some .string := hdk
            unfold toStr at h1
            split at h1
            · rename_i e he
              rw [he] at hsk
              have hs' : P.underlying src = some (.slice e) := hsk
              split at h1
              · rename_i ei hei
                have hek := (hc.ty _ _ hei).kind
                split at h1
                · rename_i hk8
                  rw [hk8] at hek
                  have he' : P.underlying e = some (.int .u8) := hek
                  split at h1
                  · -- a nil slice
                    simp at h1; subst h1
                    have hx := hv.1
                    refine ⟨.string .empty, ?_, rfl⟩
                    simp [convert, run_underlying hs', run_underlying hd', run_underlying he', hx, Conv.bytesToString]
                  · rename_i n len cap
                    split at h1
                    · rename_i q hq
                      rw [iteB_eq] at h1
                      split at h1
                      · rename_i hlen
                        simp at h1; subst h1
                        obtain ⟨l, ad, ln, cp, hl, hx, hln, hlc, hcap, had, _⟩ := hv
                        obtain ⟨hesz, hcase⟩ := hR.obj _ _ _ hq hl
                        have hcell : ∀ (j : Nat) (b : UInt8), (q.den ρ).data[j]? = some b → w.cell? ((⟨l.block, l.base + 0 * l.esz, none⟩ : Addr).add j) = some (.int .u8 b.toNat) := by
                          intro j b hjb
                          rcases hcase with ⟨xs, e2, fz, hb, hcells⟩ | ⟨h0, _⟩
                          · rw [cell_at hb]; simpa using hcells j b hjb
                          · have := (Array.getElem?_eq_some_iff.1 hjb).1
                            have h00 : (q.den ρ).data.size = 0 := h0
                            omega
                        have hsize : ln = (q.den ρ).size := by
                          have := E.beq_eq hlen
                          rw [this, S.lenE_den hL] at hln
                          exact_mod_cast hln
                        refine ⟨.string (q.den ρ), ?_, rfl⟩
                        have hload : (loadCells ad ln).run P w = .ok ((((q.den ρ).data.toList.map fun b => (b.toNat : Int)).map (Value.int .u8))).toArray w := by
                          have := run_loadCells_list (P := P) w ad (((q.den ρ).data.toList.map fun b => (b.toNat : Int)).map (Value.int .u8)) (fun j u hj => by
                            simp only [List.getElem?_map, Option.map_eq_some_iff] at hj
                            obtain ⟨_, ⟨b, hb1, rfl⟩, hb2⟩ := hj
                            have hjlt : j < (q.den ρ).data.size := by
                              have := (List.getElem?_eq_some_iff.1 hb1).1
                              simpa using this
                            have hne : cp ≠ 0 := by
                              have : (q.den ρ).size = (q.den ρ).data.size := rfl
                              omega
                            rcases had with h0 | h0
                            · exact absurd h0 hne
                            · rw [h0, ← hb2]
                              exact hcell j b (by simpa using hb1))
                          have hlen2 : (((q.den ρ).data.toList.map fun b => (b.toNat : Int)).map (Value.int .u8)).length = ln := by
                            simp only [List.length_map, Array.length_toList]
                            rw [hsize]; rfl
                          rw [hlen2] at this
                          exact this
                        have hfold : ∀ (l : List UInt8) (acc : ByteArray), (l.map fun b => (b.toNat : Int)).foldl (fun r n => r.push (UInt8.ofNat n.toNat)) acc = ⟨acc.data ++ l.toArray⟩ := by
                          intro l
                          induction l with
                          | nil => intro acc; simp
                          | cons b l ih =>
                            intro acc
                            simp only [List.map_cons, List.foldl_cons]
                            rw [ih]
                            simp [ByteArray.push]
                        rw [hx, run_convert_bytes_string w src dst e _ _ _ hs' he' hd', run_bytesToString w ad ln cp _ hload, hfold]
                        simp
                      · simp at h1
                    · simp at h1
                  · simp at h1
                · simp at h1
              · simp at h1
            · rename_i he
              rw [he] at hsk
              have hs' : P.underlying src = some .string := hsk
              split at h1
              · rename_i q
                simp at h1; subst h1
                have hx : a.eval x = .string (q.den ρ) := hv
                refine ⟨.string (q.den ρ), ?_, rfl⟩
                simp [convert, run_underlying hs', run_underlying hd', hx]
              · simp at h1
            · simp at h1
          · simp at h1
        obtain ⟨z, hz, hvz⟩ := key
        refine OpV.val hR hvz ?_
        unfold execOp; rw [ho]
        simp [hz]
      · simp at h
    · simp at h
  · simp at h
end

end Go.Sx
end
/-
  The executor's operations (fourth part): slices and arrays.
-/
noncomputable section
namespace Go.Sx
set_option linter.unusedVariables false
set_option linter.unusedSimpArgs false

section
variable {P : Program} {ρ : Env} {c : Cfg} {α : Al} {s s' : St} {w : World} {t : Tm} {a : Act} {v : V} {o : Oper} {nm : Nat}

theorem add_mid (b o j : Nat) : (⟨b, o, none⟩ : Addr).add j = ⟨b, o + j, none⟩ := by unfold Addr.add; split <;> simp_all

/-- the elements' size, of an object -/
theorem elemsAre_ok (hR : Rel P ρ α s w) {n e size : Nat} {l : Loc} (hl : α n = some l) (hs : P.cellsOf e = size) (h : elemsAre s n e size = true) : l.esz = size := by
  unfold elemsAre at h
  split at h
  · rename_i cs e' hm
    obtain ⟨xs, _, h1, _⟩ := hR.obj _ _ _ hm hl
    rw [nbeq] at h; rw [h1, h, hs]
  · rename_i cs e' hm
    have := (hR.obj _ _ _ hm hl).2
    rw [nbeq] at h; rw [this, h, hs]
  · rename_i cs e' hm
    obtain ⟨xs, _, _, _, h1, _⟩ := hR.obj _ _ _ hm hl
    rw [nbeq] at h; omega
  · rename_i x hm
    have h1 := (hR.obj _ _ _ hm hl).1
    rw [nbeq] at h; omega
  · simp at h

theorem cellsOf_ok {e : TypeId} {ti : TI} (h : TIok P e ti) : P.cellsOf e = ti.size := by
  obtain ⟨i, z, hi, hs, _⟩ := h.info
  simp [Program.cellsOf, hi, hs]

theorem op_indexAddr (hc : CfgOK P ρ c) (hR : Rel P ρ α s w) (ht : TmR ρ α t a.tmps) {ty : TypeId} {x ix : Operand} (ho : o.op = .indexAddr ty x ix) (h : opIndexAddr c t s ty x ix = some (v, s')) : OpV P ρ α s w v s' o a := by
  unfold opIndexAddr at h
  split at h
  · rename_i j hj
    obtain ⟨k, hix⟩ := natOf_ok ht hj
    split at h
    · -- a slice
      rename_i p ln cap hx
      unfold sliceElem at h
      split at h
      · rename_i e ti he
        obtain ⟨hu, hti⟩ := elemTI_ok hc he
        rw [iteB_eq] at h
        split at h
        · rename_i hel
          split at h
          · rename_i hlt
            simp only [force_eq, Option.some.injEq, Prod.mk.injEq] at h
            obtain ⟨rfl, rfl⟩ := h
            obtain ⟨l, ad, n, cp, hl, hval, hln, hlc, hcap, had, _⟩ := ev_ok ht hx
            have hesz := elemsAre_ok hR hl (cellsOf_ok hti) hel
            have hd := decideCmp_ok hc.facts hlt
            simp only [cmpLit, E.den, Option.some.injEq, decide_eq_true_eq, ← hln] at hd
            have hjn : j < n := by exact_mod_cast hd
            have had' : ad = ⟨l.block, l.base + p.2 * l.esz, none⟩ := by
              rcases had with h0 | h0
              · omega
              · exact h0
            obtain ⟨i, z, hi, hs, _⟩ := hti.info
            refine OpV.val (x := .pointer (some ⟨l.block, l.base + (p.2 + j) * ti.size, none⟩)) hR ⟨l, hl, rfl⟩ ?_
            have hadd : ad.add (j * ti.size) = ⟨l.block, l.base + (p.2 + j) * ti.size, none⟩ := by
              rw [had', add_mid, hesz, Nat.add_mul, Nat.add_assoc]
            have hin : (0 : Int) ≤ (j : Int) ∧ (j : Int) < (n : Int) := ⟨by omega, by omega⟩
            unfold execOp; rw [ho]
            simp [Instr.indexAt, hix, asIntOf, run_underlying hu, hval, hjn, run_size hi, hs, hadd]
          · simp at h
        · simp at h
      · simp at h
    · -- an array
      rename_i p hx
      unfold arrElem at h
      split at h
      · rename_i xi hxi
        split at h
        · rename_i len e hk
          have hu := (hc.ty _ _ hxi).kind
          rw [hk] at hu
          have hu' : P.underlying ty = some (.array len e) := hu
          split at h
          · rename_i ti hti
            rw [Bool.cond_eq_ite] at h
            split at h
            · rename_i hle
              rw [Nat.ble_eq] at hle
              simp only [force_eq, Option.some.injEq, Prod.mk.injEq] at h
              obtain ⟨rfl, rfl⟩ := h
              obtain ⟨l, hl, hval⟩ := ev_ok ht hx
              obtain ⟨i, z, hi, hs, _⟩ := (hc.ty _ _ hti).info
              refine OpV.val (x := .pointer (some ⟨l.block, l.base + (p.2 + j * ti.size), none⟩)) hR ⟨l, hl, rfl⟩ ?_
              have hjn : j < len := by omega
              have hadd : (⟨l.block, l.base + p.2, none⟩ : Addr).add (j * ti.size) = ⟨l.block, l.base + (p.2 + j * ti.size), none⟩ := by
                rw [add_mid, Nat.add_assoc]
              unfold execOp; rw [ho]
              simp [Instr.indexAt, hix, asIntOf, run_underlying hu', hval, Instr.sureAddr, hjn, run_size hi, hs, hadd]
            · simp at h
          · simp at h
        · simp at h
      · simp at h
    · simp at h
  · simp at h

theorem op_index (hc : CfgOK P ρ c) (hR : Rel P ρ α s w) (ht : TmR ρ α t a.tmps) {ty : TypeId} {x ix : Operand} (ho : o.op = .index ty x ix) (h : opIndex c t s ty x ix = some (v, s')) : OpV P ρ α s w v s' o a := by
  unfold opIndex at h
  split at h
  · rename_i j hj
    obtain ⟨k, hix⟩ := natOf_ok ht hj
    split at h
    · rename_i cs hx
      unfold aggElem at h
      split at h
      · rename_i xi hxi
        split at h
        · rename_i len e hk
          have hu := (hc.ty _ _ hxi).kind
          rw [hk] at hu
          have hu' : P.underlying ty = some (.array len e) := hu
          split at h
          · rename_i ti hti
            rw [Bool.cond_eq_ite] at h
            split at h
            · rename_i hle
              rw [Nat.ble_eq] at hle
              obtain ⟨h1, rfl⟩ := pv_some h
              obtain ⟨xs, hval, hxs⟩ := ev_ok ht hx
              obtain ⟨i, z, hi, hs, _⟩ := (hc.ty _ _ hti).info
              obtain ⟨y, hy, hv⟩ := partOf_ok (w := w) (hc.ty _ _ hti) hxs h1
              refine OpV.val hR hv ?_
              have hjn : j < len := by omega
              unfold execOp; rw [ho]
              simp [Instr.index, hix, asIntOf, run_underlying hu', hval, hjn, run_size hi, hs, hy]
            · simp at h
          · simp at h
        · simp at h
      · simp at h
    · rename_i l hx
      unfold strElem at h
      split at h
      · rename_i xi hxi
        split at h
        · rename_i b hk hb
          have hu := (hc.ty _ _ hxi).kind
          rw [hk] at hu
          have hu' : P.underlying ty = some .string := hu
          rw [nth_eq] at hb
          simp only [forceI_eq, Option.some.injEq, Prod.mk.injEq] at h
          obtain ⟨rfl, rfl⟩ := h
          have hval : a.eval x = .string ⟨l.toArray⟩ := ev_ok ht hx
          refine OpV.val (x := .int .u8 b.toNat) hR rfl ?_
          have hlt : j < l.length := (List.getElem?_eq_some_iff.1 hb).1
          have hge : (⟨l.toArray⟩ : ByteArray)[j]? = some b := by
            have h1 : j < (⟨l.toArray⟩ : ByteArray).size := by simpa [ByteArray.size] using hlt
            rw [getElem?_pos (⟨l.toArray⟩ : ByteArray) j h1]
            have := (List.getElem?_eq_some_iff.1 hb).2
            show some (l.toArray[j]) = some b
            simpa using this
          unfold execOp; rw [ho]
          simp [Instr.index, hix, asIntOf, run_underlying hu', hval, hge]
        · simp at h
      · simp at h
    · simp at h
  · simp at h

/-- the elements of a slice -/
theorem cellsOfSlice_ok (hR : Rel P ρ α s w) {e : TypeId} {size : Nat} {x : V} {cs : List C} {val : Value} (hs : P.cellsOf e = size) (h : cellsOfSlice s e size x = some cs) (hv : VR ρ α x val) :
    ∃ (base : Option Addr) (ln cp : Nat) (vs : List Value), val = .slice base ln cp ∧ All2 (CR ρ α) cs vs ∧ vs.length = ln * size ∧
      (∀ ad, base = some ad → ∀ j u, vs[j]? = some u → w.cell? (ad.add j) = some u) ∧ (base = none → ln = 0) := by
  unfold cellsOfSlice at h
  split at h
  · simp at h; subst h
    refine ⟨none, 0, 0, [], hv.1, trivial, by simp, by simp, fun _ => rfl⟩
  · rename_i p n cap
    split at h
    · rename_i row hrow
      unfold cutOf at h
      rw [iteB_eq] at h
      split at h
      · rename_i hle
        simp only [Nat.ble_eq, len_eq] at hle
        simp only [takeR_eq, dropR_eq, Option.some.injEq] at h
        subst h
        obtain ⟨l, ad, ln, cp, hl, hval, hln, hlc, hcap, had, _⟩ := hv
        have hn : n.toNat = ln := by
          simp only [E.den] at hln
          omega
        have hcov : ∃ xs e' fz, w.heap[l.block]? = some (.cells xs e' fz) ∧ Cov ρ α row xs l.base ∧ l.esz = size := by
          unfold rowCells at hrow
          split at hrow
          · rename_i cs' e' hm
            rw [iteB_eq] at hrow
            split at hrow
            · rename_i he
              rw [nbeq] at he
              simp at hrow; subst hrow
              obtain ⟨xs, hb, h1, _, _, h5⟩ := hR.obj _ _ _ hm hl
              exact ⟨xs, _, _, hb, h5, by rw [h1, he, hs]⟩
            · simp at hrow
          · rename_i cs' e' hm
            rw [iteB_eq] at hrow
            split at hrow
            · rename_i he
              rw [nbeq] at he
              simp at hrow; subst hrow
              obtain ⟨⟨xs, e2, fz, hb, h5⟩, h1⟩ := hR.obj _ _ _ hm hl
              exact ⟨xs, _, _, hb, h5, by rw [h1, he, hs]⟩
            · simp at hrow
          · simp at hrow
        obtain ⟨xs, e', fz, hb, hcells, hesz⟩ := hcov
        rw [hn] at hle ⊢
        refine ⟨some ad, ln, cp, (List.range (ln * size)).map (fun j => xs.getD (l.base + p.2 * size + j) undef), hval, ?_, by simp, ?_, by simp⟩
        · apply All2.of_get
          · simp; omega
          · intro j c' b hj hb'
            simp only [List.getElem?_take, List.getElem?_drop] at hj
            split at hj
            · rename_i hlt
              obtain ⟨x, hx, hcx⟩ := hcells _ _ hj
              simp [hlt] at hb'
              have : b = x := by
                rw [← hb', show l.base + p.2 * size + j = l.base + (p.2 * size + j) by omega, hx]; rfl
              exact this ▸ hcx
            · simp at hj
        · intro ad' hadeq j u hj
          cases hadeq
          simp only [List.getElem?_map, Option.map_eq_some_iff] at hj
          obtain ⟨j', hj1, hj2⟩ := hj
          have hjlt : j < ln * size := by
            have := (List.getElem?_eq_some_iff.1 hj1).1
            simpa using this
          have hj' : j' = j := by
            simp [hjlt] at hj1
            exact hj1.symm
          subst hj'
          have hln0 : ln ≠ 0 := by rintro rfl; simp at hjlt
          have had' : ad = ⟨l.block, l.base + p.2 * l.esz, none⟩ := by
            rcases had with h0 | h0
            · omega
            · exact h0
          rw [had', cell_at hb, hesz]
          have hlt2 : p.2 * size + j' < row.length := by omega
          obtain ⟨x, hx, _⟩ := hcells (p.2 * size + j') row[p.2 * size + j'] (List.getElem?_eq_getElem hlt2)
          rw [← hj2]
          simp only [Array.getD_eq_getD_getElem?]
          rw [show l.base + p.2 * size + j' = l.base + (p.2 * size + j') by omega, hx]
          rfl
      · simp at h
    · simp at h
  · simp at h

/-! ### Slice expressions -/
/-- bounds that hold -/
def OptR (ρ : Env) (α : Al) (x : Option V) (y : Option Value) : Prop := match x, y with | none, none => True | some x, some y => VR ρ α x y | _, _ => False

theorem boundV_ok {d n : Nat} {x : Option V} {y : Option Value} (h : boundV d x = some n) (hx : OptR ρ α x y) :
    (∃ k, y = some (.int k n)) ∨ (y = none ∧ n = d) := by
  cases x with
  | none => cases y with
    | none => simp [boundV] at h; exact .inr ⟨rfl, h.symm⟩
    | some y => exact hx.elim
  | some x => cases y with
    | none => exact hx.elim
    | some y =>
      obtain ⟨k, e⟩ := litNat_ok (show litNat x = some n from h) hx
      exact .inl ⟨k, by rw [e]⟩

theorem run_bound {x : Value} {k : IntKind} {n y : Nat} {code : BoundsCode} (h : n ≤ y) (hx : x = .int k n) : (Instr.sliceBound x y code).run P w = .ok n w := by
  simp [Instr.sliceBound, hx, asIntOf, h]

/-- the bounds of a slice expression, and what it makes -/
theorem cutSlice_ok {p : Option (Nat × Nat)} {n cp real : Nat} {known isS : Bool} {lo hi mx : Option V} {lo' hi' mx' : Option Value} (h : cutSlice p n cp known lo hi mx = some v)
    (hlo : OptR ρ α lo lo') (hhi : OptR ρ α hi hi') (hmx : OptR ρ α mx mx') (hreal : cp ≤ real) (hk : known = true → cp = real) :
    ∃ l h m, (Instr.sliceBounds isS n real lo' hi' mx').run P w = .ok (l, h, m) w ∧ l ≤ h ∧ h ≤ m ∧ m ≤ real ∧
      (v = partsOf p l h m true ∨ (v = partsOf p l h cp false ∧ m = real ∧ known = false)) := by
  unfold cutSlice at h
  split at h
  · rename_i l hl
    split at h
    · rename_i hh hhb
      have bl := boundV_ok (ρ := ρ) (α := α) hl hlo
      have bh := boundV_ok (ρ := ρ) (α := α) hhb hhi
      split at h
      · -- no third bound
        rw [iteB_eq, iteB_eq] at h
        split at h
        · rename_i h1
          split at h
          · rename_i h2
            rw [Nat.ble_eq] at h1 h2
            simp at h
            have hmx' : mx' = none := by cases mx' with | none => rfl | some _ => exact hmx.elim
            subst hmx'
            refine ⟨l, hh, real, ?_, h1, by omega, Nat.le_refl _, ?_⟩
            · rcases bl with ⟨k1, e1⟩ | ⟨e1, e1'⟩ <;> rcases bh with ⟨k2, e2⟩ | ⟨e2, e2'⟩ <;> simp only [Instr.sliceBounds, e1, e2, Sem.run_bind, Sem.run_pure, Result.andThen_ok] <;> (try subst e1') <;> (try subst e2') <;>
                simp [run_bound (P := P) (w := w) (show hh ≤ real by omega) rfl, run_bound (P := P) (w := w) h1 rfl]
            · cases known with
              | true => rw [← hk rfl]; exact .inl h.symm
              | false => exact .inr ⟨h.symm, rfl, rfl⟩
          · simp at h
        · simp at h
      · -- a third bound
        rename_i mv
        split at h
        · simp at h
        · rename_i hv
          split at h
          · rename_i m hm
            rw [iteB_eq, iteB_eq, iteB_eq] at h
            split at h
            · rename_i h1
              split at h
              · rename_i h2
                split at h
                · rename_i h3
                  rw [Nat.ble_eq] at h1 h2 h3
                  simp at h
                  cases mx' with
                  | none => exact hmx.elim
                  | some mval =>
                    cases hi' with
                    | none => exact hhi.elim
                    | some hval =>
                      obtain ⟨k3, e3⟩ := litNat_ok hm hmx
                      rcases bh with ⟨k2, e2⟩ | ⟨e2, _⟩
                      · cases e2
                        subst e3
                        refine ⟨l, hh, m, ?_, h1, h2, by omega, .inl h.symm⟩
                        rcases bl with ⟨k1, e1⟩ | ⟨e1, e1'⟩ <;> simp only [Instr.sliceBounds, e1, Sem.run_bind, Sem.run_pure, Result.andThen_ok] <;> (try subst e1') <;>
                          simp [run_bound (P := P) (w := w) (show m ≤ real by omega) rfl, run_bound (P := P) (w := w) h2 rfl, run_bound (P := P) (w := w) h1 rfl]
                      · cases e2
                · simp at h
              · simp at h
            · simp at h
          · simp at h
    · simp at h
  · simp at h

/-- the slice that a slice expression makes -/
theorem partsOf_ok {q : Nat × Nat} {l h m real size : Nat} {loc : Loc} {ad : Addr} (hl : α q.1 = some loc) (hesz : loc.esz = size) (hcap : q.2 + real ≤ loc.cap)
    (had : real = 0 ∨ ad = ⟨loc.block, loc.base + q.2 * loc.esz, none⟩) (h1 : l ≤ h) (h2 : h ≤ m) (h3 : m ≤ real) :
    VR ρ α (partsOf (some q) l h m true) (.slice (some (if m = l then ad else ad.add (l * size))) (h - l) (m - l)) ∧
    (∀ cp, m = real → q.2 + real = loc.cap → VR ρ α (partsOf (some q) l h cp false) (.slice (some (if m = l then ad else ad.add (l * size))) (h - l) (m - l))) := by
  have hadd : m ≠ l → ad.add (l * size) = ⟨loc.block, loc.base + (q.2 + l) * loc.esz, none⟩ := fun hne => by
    rcases had with h0 | h0
    · omega
    · rw [h0, add_mid, hesz, Nat.add_mul, Nat.add_assoc]
  constructor
  · by_cases hml : m = l
    · have : Nat.beq m l = true := by rw [nbeq]; exact hml
      simp only [partsOf, this, iteB_true, if_pos hml]
      exact ⟨loc, ad, h - l, m - l, hl, rfl, by simp [E.den], by omega, by omega, .inl (by omega), by simp [E.den]⟩
    · have : Nat.beq m l = false := by rw [Bool.eq_false_iff, ne_eq, nbeq]; exact hml
      simp only [partsOf, this, iteB_true, iteB_false, if_neg hml]
      exact ⟨loc, _, h - l, m - l, hl, rfl, by simp [E.den], by omega, by simp only; omega, .inr (hadd hml), by simp [E.den]⟩
  · intro cp hmr hcp
    simp only [partsOf, iteB_false]
    refine ⟨loc, _, h - l, m - l, hl, rfl, by simp [E.den], by omega, by simp only; omega, ?_, by simp only; omega⟩
    by_cases hml : m = l
    · exact .inl (by omega)
    · rw [if_neg hml]; exact .inr (hadd hml)

theorem evO_ok (ht : TmR ρ α t a.tmps) {x : Option Operand} {y : Option V} (h : evO t x = some y) : OptR ρ α y (x.map a.eval) := by
  cases x with
  | none => simp [evO] at h; subst h; trivial
  | some x =>
    simp only [evO] at h
    split at h
    · rename_i v hv
      simp at h; subst h
      exact ev_ok ht hv
    · simp at h

theorem op_slice (hc : CfgOK P ρ c) (hR : Rel P ρ α s w) (ht : TmR ρ α t a.tmps) {ty : TypeId} {x : Operand} {lo hi mx : Option Operand} (ho : o.op = .slice ty x lo hi mx) (h : opSlice c t s ty x lo hi mx = some (v, s')) : OpV P ρ α s w v s' o a := by
  unfold opSlice at h
  split at h
  · rename_i X hX
    split at h
    · rename_i L hL
      split at h
      · rename_i H hH
        split at h
        · rename_i M hM
          obtain ⟨h1, rfl⟩ := pv_some h
          have hlo := evO_ok ht hL
          have hhi := evO_ok ht hH
          have hmx := evO_ok ht hM
          have hv := ev_ok ht hX
          have key : ∃ z, (Instr.sliceAt ty (a.eval x) (lo.map a.eval) (hi.map a.eval) (mx.map a.eval)).run P w = .ok z w ∧ VR ρ α v z := by
            unfold sliceV at h1
            split at h1
            · rename_i ti hti
              have hk := (hc.ty _ _ hti).kind
              split at h1
              · -- a slice
                rename_i e he
                rw [he] at hk
                have hu : P.underlying ty = some (.slice e) := hk
                split at h1
                · rename_i p n cap
                  split at h1
                  · rename_i ei hei
                    obtain ⟨i, z, hinf, hs, _⟩ := (hc.ty _ _ hei).info
                    rw [iteB_eq] at h1
                    split at h1
                    · rename_i hel
                      have fin : ∀ (cp : Nat) (known : Bool), cutSlice p n.toNat cp known L H M = some v → (known = true → ∃ z, cap = some z ∧ (cp : Int) = max (z.den ρ) 0) → (known = false → cap = none ∧ cp = n.toNat) →
                          ∃ z, (Instr.sliceAt ty (a.eval x) (lo.map a.eval) (hi.map a.eval) (mx.map a.eval)).run P w = .ok z w ∧ VR ρ α v z := by
                        intro cp known hcut hk1 hk2
                        cases p with
                        | none =>
                          obtain ⟨hval, hn0, hcap⟩ := hv
                          have hn0' : n.toNat = 0 := by simp only [E.den] at hn0; omega
                          have hcp : cp = 0 := by
                            cases known with
                            | true => obtain ⟨z, hz, hz2⟩ := hk1 rfl; have := hcap z hz; omega
                            | false => rw [(hk2 rfl).2, hn0']
                          obtain ⟨l, hh, m, hrun, g1, g2, g3, hvv⟩ := cutSlice_ok (P := P) (w := w) (isS := true) (real := 0) hcut hlo hhi hmx (by omega) (fun _ => hcp)
                          have e1 : m = 0 := by omega
                          have e2 : hh = 0 := by omega
                          have e3 : l = 0 := by omega
                          subst e1; subst e2; subst e3
                          rw [hn0'] at hrun
                          refine ⟨.slice none 0 0, ?_, ?_⟩
                          · simp [Instr.sliceAt, run_underlying hu, Instr.slice, hval, hrun, run_size hinf]
                          · rcases hvv with rfl | ⟨rfl, _⟩
                            · exact ⟨rfl, rfl, by simp [partsOf, E.den]⟩
                            · exact ⟨rfl, rfl, by simp [partsOf, E.den]⟩
                        | some q =>
                          obtain ⟨loc, ad, ln, cr, hl, hval, hln, hlc, hcap, had, hcc⟩ := hv
                          have hesz := elemsAre_ok hR hl (cellsOf_ok (hc.ty _ _ hei)) hel
                          have hn : n.toNat = ln := by simp only [E.den] at hln; omega
                          have hcr : cp ≤ cr ∧ (known = true → cp = cr) := by
                            cases known with
                            | true =>
                              obtain ⟨z, hz, hz2⟩ := hk1 rfl
                              rw [hz] at hcc
                              simp only at hcc
                              constructor
                              · omega
                              · intro _; omega
                            | false => exact ⟨by rw [(hk2 rfl).2, hn]; exact hlc, by simp⟩
                          obtain ⟨l, hh, m, hrun, g1, g2, g3, hvv⟩ := cutSlice_ok (P := P) (w := w) (isS := true) (real := cr) hcut hlo hhi hmx hcr.1 hcr.2
                          rw [hn] at hrun
                          have hp := partsOf_ok (ρ := ρ) hl hesz hcap had g1 g2 g3
                          refine ⟨.slice (some (if m = l then ad else ad.add (l * ei.size))) (hh - l) (m - l), ?_, ?_⟩
                          · have : (if m = l then some ad else (some ad).map (·.add (l * ei.size))) = some (if m = l then ad else ad.add (l * ei.size)) := by split <;> rfl
                            simp only [Instr.sliceAt, run_underlying hu, Sem.run_bind, Result.andThen_ok, Instr.slice, hval, hrun, run_size hinf, hs, this, Sem.run_pure]
                          · rcases hvv with rfl | ⟨rfl, hm, hkf⟩
                            · exact hp.1
                            · have := (hk2 hkf).1
                              rw [this] at hcc
                              exact hp.2 _ hm hcc
                      split at h1
                      · exact fin _ _ h1 (by simp) (fun _ => ⟨rfl, rfl⟩)
                      · rename_i cp
                        exact fin _ _ h1 (fun _ => ⟨_, rfl, by simp only [E.den]; omega⟩) (by simp)
                      · simp at h1
                    · simp at h1
                  · simp at h1
                · simp at h1
              · -- an array's address
                rename_i n e he
                rw [he] at hk
                have hu : P.underlying ty = some (.array n e) := hk
                split at h1
                · rename_i q
                  split at h1
                  · rename_i ei hei
                    obtain ⟨i, z, hinf, hs, _⟩ := (hc.ty _ _ hei).info
                    rw [iteB_eq, iteB_eq, iteB_eq] at h1
                    split at h1
                    · rename_i c1
                      split at h1
                      · rename_i c2
                        split at h1
                        · rename_i c3
                          rw [nbeq] at c1 c2
                          obtain ⟨loc, hl, hval⟩ := hv
                          unfold blkLen at c3
                          split at c3
                          · rename_i cs ec hm
                            rw [nbeq, len_eq] at c3
                            obtain ⟨xs, hb, hal, h0, he1, hcap⟩ := hR.obj _ _ _ hm hl
                            have hlen : xs.size = n := by have := hal.length; simp at this; omega
                            obtain ⟨l, hh, m, hrun, g1, g2, g3, hvv⟩ := cutSlice_ok (P := P) (w := w) (isS := false) (real := n) h1 hlo hhi hmx (Nat.le_refl _) (fun _ => rfl)
                            have hp := partsOf_ok (ρ := ρ) (size := ei.size) (ad := ⟨loc.block, loc.base + q.2, none⟩) hl (by omega) (by rw [hcap, hlen, c2]; omega) (.inr (by rw [c2, h0]; simp)) g1 g2 g3
                            refine ⟨.slice (some (if m = l then ⟨loc.block, loc.base + q.2, none⟩ else (⟨loc.block, loc.base + q.2, none⟩ : Addr).add (l * ei.size))) (hh - l) (m - l), ?_, ?_⟩
                            · simp only [Instr.sliceAt, run_underlying hu, Sem.run_bind, Result.andThen_ok, hval, Instr.sureAddr, Sem.run_pure, hrun, run_size hinf, hs]
                            · rcases hvv with rfl | ⟨rfl, hm2, _⟩
                              · exact hp.1
                              · exact hp.2 _ hm2 (by rw [hcap, hlen, c2]; omega)
                          · simp at c3
                        · simp at h1
                      · simp at h1
                    · simp at h1
                  · simp at h1
                · simp at h1
              · simp at h1
            · simp at h1
          obtain ⟨z, hz, hvz⟩ := key
          refine OpV.val hR hvz ?_
          unfold execOp; rw [ho]
          simp only [Sem.run_bind, hz, Result.andThen_ok, Sem.run_pure]
        · simp at h
      · simp at h
    · simp at h
  · simp at h
end

end Go.Sx
end
/-
  The executor's builtin functions: length, capacity, least and greatest, copy, append.
-/
noncomputable section
namespace Go.Sx
set_option linter.unusedVariables false
set_option linter.unusedSimpArgs false

section
variable {P : Program} {ρ : Env} {c : Cfg} {α : Al} {s s' : St} {w : World} {t : Tm} {a : Act} {v : V} {o : Oper} {nm : Nat}

/-- what a builtin function's run leads to -/
abbrev BOK (P : Program) (ρ : Env) (α : Al) (s : St) (w : World) (v : V) (s' : St) (x : Sem Value) : Prop :=
  ∃ z w', x.run P w = .ok z w' ∧ Post P ρ α s w v s' z w'

/-- one that only looks -/
def BOV (P : Program) (ρ : Env) (α : Al) (s : St) (w : World) (v : V) (s' : St) (x : Sem Value) : Prop := s' = s ∧ ∃ z, x.run P w = .ok z w ∧ VR ρ α v z
theorem BOV.ok {x : Sem Value} (h : BOV P ρ α s w v s' x) (hR : Rel P ρ α s w) : BOK P ρ α s w v s' x := by
  obtain ⟨rfl, z, hz, hv⟩ := h
  exact ⟨z, w, hz, Post.here hR hv⟩

theorem len_ok (hc : CfgOK P ρ c) (hL : LensOK ρ) (hR : Rel P ρ α s w) {ty rt : TypeId} {ts : Array TypeId} {x : V} {y : Value} (h0 : ts[0]? = some ty) (hv : VR ρ α x y) (h : pv s (lenV c s ty x) = some (v, s')) :
    BOV P ρ α s w v s' (Builtin.len_ ts rt #[y]) := by
  obtain ⟨h1, rfl⟩ := pv_some h
  have key : ∃ z, (Builtin.len_ ts rt #[y]).run P w = .ok z w ∧ VR ρ α v z := by
    unfold lenV at h1
    split at h1
    · -- a slice
      rename_i p ln cap
      split at h1
      · rename_i e _ _ hti
        simp at h1; subst h1
        have hk := (hc.ty _ _ hti).kind
        have hu : P.underlying ty = some (.slice _) := hk
        cases p with
        | none =>
          obtain ⟨hy, hl0, _⟩ := hv
          refine ⟨goInt 0, ?_, ?_⟩
          · simp [Builtin.len_, h0, run_underlying hu, hy]
          · show _ = _
            rw [hl0]; rfl
        | some p =>
          obtain ⟨l, ad, n, cp, _, hy, hln, _⟩ := hv
          refine ⟨goInt n, ?_, ?_⟩
          · simp [Builtin.len_, h0, run_underlying hu, hy]
          · show _ = _
            rw [← hln]; rfl
      · simp at h1
    · -- a string
      rename_i x
      have hy : y = .string (x.den ρ) := hv
      split at h1
      · rename_i hti
        have hk := (hc.ty _ _ hti).kind
        have hu : P.underlying ty = some .string := hk
        refine ⟨goInt (x.den ρ).size, by simp [Builtin.len_, h0, run_underlying hu, hy], ?_⟩
        split at h1
        · rename_i l
          simp only [force_eq, len_eq, Option.some.injEq] at h1
          subst h1
          show _ = _
          simp [goInt, E.den, S.den, ByteArray.size]
        · rename_i i
          simp only [Option.some.injEq] at h1
          subst h1
          show _ = _
          simp only [goInt, E.den, S.den, hL i]
      · simp at h1
    · -- a map
      rename_i m
      split at h1
      · rename_i hti
        have hk := (hc.ty _ _ hti).kind
        have hu : P.underlying ty = some (.map _ _) := hk
        split at h1
        · simp at h1; subst h1
          have hy : y = .map none := hv
          exact ⟨goInt 0, by simp [Builtin.len_, h0, run_underlying hu, hy], rfl⟩
        · rename_i m
          obtain ⟨l, hl, hy⟩ := hv
          split at h1
          · rename_i es hm
            simp only [force_eq, len_eq, Option.some.injEq] at h1
            subst h1
            obtain ⟨ents, clock, ord, hb, hp, ha, _⟩ := hR.obj _ _ _ hm hl
            have hlen : ents.size = es.length := by
              have := hp.length_eq
              have := ha.length
              simp at *
              omega
            refine ⟨goInt ents.size, ?_, ?_⟩
            · have hg : (getObj l.block).run P w = .ok (.map ents clock) w := by simp [getObj, Sem.run, hb]
              simp [Builtin.len_, h0, run_underlying hu, hy, hg]
            · show _ = _
              rw [hlen]; rfl
          · simp at h1
      · simp at h1
    · simp at h1
  obtain ⟨z, hz, hvz⟩ := key
  exact ⟨rfl, z, hz, hvz⟩

theorem cap_ok (hc : CfgOK P ρ c) (hR : Rel P ρ α s w) {ty rt : TypeId} {ts : Array TypeId} {p : Option (Nat × Nat)} {ln e : E} {y : Value} (h0 : ts[0]? = some ty) (hv : VR ρ α (.sc (.a (.slice p ln (some e)))) y)
    (hk : isSliceT c ty = true) : BOV P ρ α s w (vint .i64 e) s (Builtin.cap_ ts rt #[y]) := by
  unfold isSliceT at hk
  split at hk
  · rename_i ti hti
    split at hk
    · rename_i el he
      have hkd := (hc.ty _ _ hti).kind
      rw [he] at hkd
      have hu : P.underlying ty = some (.slice el) := hkd
      cases p with
      | none =>
        obtain ⟨hy, _, hc0⟩ := hv
        refine ⟨rfl, goInt 0, by simp [Builtin.cap_, h0, run_underlying hu, hy], ?_⟩
        show _ = _
        rw [hc0 e rfl]; rfl
      | some p =>
        obtain ⟨l, ad, n, cp, _, hy, _, _, _, _, hcc⟩ := hv
        simp only at hcc
        refine ⟨rfl, goInt cp, by simp [Builtin.cap_, h0, run_underlying hu, hy], ?_⟩
        show _ = _
        rw [← hcc]; rfl
    · simp at hk
  · simp at hk

theorem minMax_ok (hc : CfgOK P ρ c) (hR : Rel P ρ α s w) {b : Bool} {ts : Array TypeId} {rt : TypeId} {x y : V} {u z : Value} (hx : VR ρ α x u) (hy : VR ρ α y z) (h : pv s (minMax c b x y) = some (v, s')) :
    BOV P ρ α s w v s' (if b then Builtin.max_ ts rt #[u, z] else Builtin.min_ ts rt #[u, z]) := by
  obtain ⟨h1, rfl⟩ := pv_some h
  unfold minMax at h1
  split at h1
  · rename_i k e k' e'
    split at h1
    · rename_i hkk
      subst hkk
      have e1 : u = .int k (e.den ρ) := hx
      have e2 : z = .int k (e'.den ρ) := hy
      split at h1
      · rename_i hd
        simp at h1; subst h1
        have hd' := decideCmp_ok hc.facts hd
        cases b with
        | true =>
          simp only [if_true, cmpLit, Option.some.injEq, decide_eq_true_eq] at hd'
          refine ⟨rfl, .int k (e'.den ρ), ?_, rfl⟩
          simp [Builtin.max_, Builtin.max2, e1, e2]
          omega
        | false =>
          simp only [Bool.false_eq_true, if_false, cmpLit, Option.some.injEq, decide_eq_true_eq] at hd'
          refine ⟨rfl, .int k (e'.den ρ), ?_, rfl⟩
          simp [Builtin.min_, Builtin.min2, e1, e2]
          omega
      · rename_i hd
        simp at h1; subst h1
        have hd' := decideCmp_ok hc.facts hd
        cases b with
        | true =>
          simp only [if_true, cmpLit, Option.some.injEq, decide_eq_false_iff_not] at hd'
          refine ⟨rfl, .int k (e.den ρ), ?_, rfl⟩
          simp [Builtin.max_, Builtin.max2, e1, e2]
          omega
        | false =>
          simp only [Bool.false_eq_true, if_false, cmpLit, Option.some.injEq, decide_eq_false_iff_not] at hd'
          refine ⟨rfl, .int k (e.den ρ), ?_, rfl⟩
          simp [Builtin.min_, Builtin.min2, e1, e2]
          omega
      · simp at h1
    · simp at h1
  · simp at h1

/-- the elements that 'firstCells' reads -/
theorem run_first {base : Option Addr} {ln cp : Nat} {vs : List Value} {size n : Nat} (hl : vs.length = ln * size) (hn : n ≤ ln)
    (hr : ∀ ad, base = some ad → ∀ j u, vs[j]? = some u → w.cell? (ad.add j) = some u) (h0 : base = none → ln = 0) :
    (Builtin.firstCells size n (.slice base ln cp)).run P w = .ok (vs.take (n * size)).toArray w := by
  cases base with
  | none =>
    have : ln = 0 := h0 rfl
    subst this
    have : vs = [] := List.eq_nil_of_length_eq_zero (by simpa using hl)
    subst this
    simp [Builtin.firstCells]
  | some ad =>
    have hle : n * size ≤ ln * size := Nat.mul_le_mul_right _ hn
    have := run_loadCells_list (P := P) w ad (vs.take (n * size)) (fun j u hj => by
      rw [List.getElem?_take] at hj
      split at hj
      · exact hr ad rfl j u hj
      · cases hj)
    have hlen : (vs.take (n * size)).length = n * size := by simp; omega
    rw [hlen] at this
    exact this

/-- a row's cells, behind a store at a place of one of its elements -/
theorem copy_ok (hc : CfgOK P ρ c) (hR : Rel P ρ α s w) {ty rt : TypeId} {ts : Array TypeId} {d x : V} {u z : Value} (h0 : ts[0]? = some ty) (hd : VR ρ α d u) (hx : VR ρ α x z) (h : copyV c s ty d x = some (v, s')) :
    BOK P ρ α s w v s' (Builtin.copy_ ts rt #[u, z]) := by
  unfold copyV at h
  split at h
  · rename_i p hp
    obtain ⟨e, ti⟩ := p
    obtain ⟨hu, hti⟩ := elemTI_ok hc hp
    rw [iteB_eq] at h
    split at h
    · rename_i hsz
      simp only [Nat.ble_eq] at hsz
      split at h
      · rename_i new hnew
        obtain ⟨base, ln, cp, vs, hz, hall, hvl, hrd, hnone⟩ := cellsOfSlice_ok hR (cellsOf_ok hti) hnew hx
        obtain ⟨i, zz, hi, hs, _⟩ := hti.info
        have hnl : new.length = ln * ti.size := by rw [hall.length]; exact hvl
        have hdiv : new.length / ti.size = ln := by rw [hnl]; exact Nat.mul_div_cancel _ hsz
        unfold copyTo at h
        split at h
        · rename_i q n cap
          simp only [len_eq, hdiv, force_eq, takeR_eq] at h
          cases q with
          | none =>
            simp only [Option.some.injEq, Prod.mk.injEq] at h
            obtain ⟨rfl, rfl⟩ := h
            obtain ⟨hu0, hn0, _⟩ := hd
            have hn' : n.toNat = 0 := by simp only [E.den] at hn0; omega
            have hf := run_first (P := P) (w := w) (cp := cp) (n := 0) (size := i.size) (ln := ln) (vs := vs) (base := base) (by rw [hs]; exact hvl) (Nat.zero_le _) hrd hnone
            refine ⟨goInt 0, w, ?_, Post.here hR ?_⟩
            · simp [Builtin.copy_, h0, run_underlying hu, hu0, hz, Builtin.lenOf, run_size hi, hf]
            · show _ = _
              rw [hn']; simp [E.den, goInt]
          | some q =>
            simp only at h
            split at h
            · rename_i row hrow
              obtain ⟨rfl, hst⟩ := mk_some h
              obtain ⟨l, ad, dl, dc, hl, hval, hln, hlc, hcap, had, _⟩ := hd
              have hdn : n.toNat = dl := by simp only [E.den] at hln; omega
              rw [hdn] at hst ⊢
              have hel : elemsAre s q.1 e ti.size = true := by
                unfold rowCells at hrow
                unfold elemsAre
                split at hrow
                · rename_i hm; rw [hm]; rw [iteB_eq] at hrow; split at hrow <;> simp_all
                · rename_i hm; rw [hm]; rw [iteB_eq] at hrow; split at hrow <;> simp_all
                · simp at hrow
              have hesz := elemsAre_ok hR hl (cellsOf_ok hti) hel
              have hf := run_first (P := P) (w := w) (cp := cp) (n := Nat.min ln dl) (size := i.size) (ln := ln) (vs := vs) (base := base) (by rw [hs]; exact hvl) (Nat.min_le_left _ _) hrd hnone
              have hall' := hall.take (Nat.min ln dl * ti.size)
              obtain ⟨w', hw, hR', hF⟩ := storeCells_ok hR hl hall' hst
              refine ⟨goInt (Nat.min ln dl : Nat), w', ?_, α, hR', hF, rfl⟩
              have hw2 : (Go.storeCells ad (vs.take (Nat.min ln dl * ti.size))).run P w = .ok () w' := by
                by_cases hz0 : dc = 0
                · have hd0 : dl = 0 := by omega
                  have hm0 : Nat.min ln dl = 0 := by rw [hd0]; exact Nat.min_zero _
                  rw [hm0] at hw ⊢
                  simp only [Nat.zero_mul, List.take_zero, Go.storeCells] at hw ⊢
                  exact hw
                · have had' : ad = ⟨l.block, l.base + q.2 * l.esz, none⟩ := by
                    rcases had with h0 | h0
                    · exact absurd h0 hz0
                    · exact h0
                  rw [had', hesz]; exact hw
              rw [hs] at hf
              simp [Builtin.copy_, h0, run_underlying hu, hval, hz, Builtin.lenOf, run_size hi, hs, hf, hw2]
            · simp at h
        · simp at h
      · simp at h
    · simp at h
  · simp at h
end

end Go.Sx
end
/-
  The executor's append.
-/
noncomputable section
namespace Go.Sx
open Go.RowKit (Below)
set_option linter.unusedVariables false
set_option linter.unusedSimpArgs false

section
variable {P : Program} {ρ : Env} {c : Cfg} {α : Al} {s s' : St} {w w' : World} {t : Tm} {a : Act} {v : V} {o : Oper} {nm : Nat}

/-- a name more, for a block that is there -/
theorem Rel.add (h : Rel P ρ α s w) {n : Nat} {o : Obj} {l : Loc} (hn : s.mem.get n = none) (ho : OR P ρ (α.with n l) w l o) (hf : ρ.w0.heap.size ≤ l.block)
    (hap : ∀ m o' l', s.mem.get m = some o' → α m = some l' → o'.live = true → l'.block ≠ l.block) (c : Nat) : Rel P ρ (α.with n l) ⟨s.mem.put n o, c⟩ w := by
  have hα : α n = none := (h.dom n).2 hn
  have hle := Al.le_with (l := l) hα
  refine ⟨?_, ?_, ?_, ?_, h.below, h.init.trans hle⟩
  · intro m
    simp only [Al.with, PT.get_put]
    split
    · simp
    · exact h.dom m
  · intro m o' l' hm hl'
    simp only [Al.with, PT.get_put] at hm hl'
    split at hm
    · rename_i e
      subst e
      simp only [if_true] at hl'
      cases hm; cases hl'; exact ho
    · rename_i e
      rw [if_neg e] at hl'
      exact (h.obj m o' l' hm hl').mono _ _ _ _ _ hle
  · intro m m' o1 o2 l1 l2 h1 h2 how hlv hne ha1 ha2
    simp only [Al.with, PT.get_put] at h1 h2 ha1 ha2
    split at h1
    · rename_i e
      subst e
      rw [if_neg (Ne.symm hne)] at h2 ha2
      simp only [if_true] at ha1
      cases ha1
      exact (hap _ _ _ h2 ha2 hlv).symm
    · rename_i e
      rw [if_neg e] at ha1
      split at h2
      · rename_i e'
        subst e'
        simp only [if_true] at ha2
        cases ha2
        exact hap _ _ _ h1 ha1 (Obj.live_of_own how)
      · rename_i e'
        rw [if_neg e'] at ha2
        exact h.apart m m' o1 o2 l1 l2 h1 h2 how hlv hne ha1 ha2
  · intro m o' l' hm how hl'
    simp only [Al.with, PT.get_put] at hm hl'
    split at hm
    · rename_i e
      subst e
      simp only [if_true] at hl'
      cases hl'
      exact hf
    · rename_i e
      rw [if_neg e] at hl'
      exact h.fresh m o' l' hm how hl'

/-- a new name takes a row over -/
theorem Rel.take (h : Rel P ρ α s w) {n nm : Nat} {o o' : Obj} {l l' : Loc} (hn : s.mem.get n = some o) (how : o.own = true) (hl : α n = some l) (hnm : s.mem.get nm = none) (hne : nm ≠ n)
    (hk : ∀ b, b ≠ l.block → w'.heap[b]? = w.heap[b]?) (hs : w'.heap.size = w.heap.size) (hos : w'.os = w.os) (ht : w'.tape = w.tape) (hout : w'.output = w.output)
    (hb : l'.block = l.block) (ho : OR P ρ (α.with nm l') w' l' o') (hown : o'.own = true) (c : Nat) :
    Rel P ρ (α.with nm l') ⟨(s.mem.put n .gone).put nm o', c⟩ w' ∧ Fr α s w (α.with nm l') ⟨(s.mem.put n .gone).put nm o', c⟩ w' := by
  obtain ⟨hR1, hF1⟩ := Rel.upd (o' := .gone) h hn how hl hk hs hos ht hout trivial (.inr rfl) c
  have hnm' : (s.mem.put n .gone).get nm = none := by rw [PT.get_put, if_neg hne]; exact hnm
  have hα : α nm = none := (h.dom nm).2 hnm
  refine ⟨Rel.add hR1 hnm' ho (by rw [hb]; exact h.fresh n o l hn how hl) ?_ c, ⟨Al.le_with hα, by omega, fun b hbl hm => hF1.kept b hbl hm, ?_, ?_⟩⟩
  · intro m om lm hm hlm hlive
    simp only [PT.get_put] at hm
    split at hm
    · cases hm; simp [Obj.live] at hlive
    · rename_i e
      rw [hb]
      exact (h.apart n m o om l lm hn hm how hlive (Ne.symm e) hl hlm).symm
  · rintro b ⟨m, om, lm, hm, hom, hlm, rfl⟩
    simp only [PT.get_put, Al.with] at hm hlm
    split at hm
    · rename_i e
      subst e
      simp only [if_true] at hlm
      cases hlm
      exact .inl ⟨n, o, l, hn, how, hl, hb.symm⟩
    · rename_i e
      rw [if_neg e] at hlm
      split at hm
      · cases hm; simp [Obj.own] at hom
      · exact .inl ⟨m, om, lm, hm, hom, hlm, rfl⟩
  · rintro b ⟨m, om, lm, hm, hom, hlm, rfl⟩
    simp only [PT.get_put, Al.with] at hm hlm
    split at hm
    · rename_i e
      subst e
      simp only [if_true] at hlm
      cases hlm
      exact .inl ⟨n, o, l, hn, Obj.live_of_own how, hl, hb.symm⟩
    · rename_i e
      rw [if_neg e] at hlm
      split at hm
      · cases hm; simp [Obj.live] at hom
      · exact .inl ⟨m, om, lm, hm, hom, hlm, rfl⟩

/-- append, with room -/
theorem run_append_fit {ty rt e : TypeId} {i : TypeInfo} (hu : P.underlying ty = some (.slice e)) (hi : P.info? e = some i) {b1 b2 : Option Addr} {ln cr n c2 : Nat} {news : List Value}
    (hl2 : news.length = n * i.size) (hr2 : ∀ ad, b2 = some ad → ∀ j u, news[j]? = some u → w.cell? (ad.add j) = some u) (h2 : b2 = none → n = 0) (hroom : ln + n ≤ cr) :
    (Builtin.append_ #[ty, ty] rt #[.slice b1 ln cr, .slice b2 n c2]).run P w =
      ((match b1 with | some ad => Go.storeCells (ad.add (ln * i.size)) news | none => pure () : Sem Unit).run P w).andThen fun _ w' => .ok (.slice b1 (ln + n) cr) w' := by
  have hf := run_first (P := P) (w := w) (cp := c2) (size := i.size) (n := n) (ln := n) (vs := news) (base := b2) hl2 (Nat.le_refl _) hr2 h2
  rw [List.take_of_length_le (by omega)] at hf
  cases b1 with
  | none => simp [Builtin.append_, run_underlying hu, run_size hi, Builtin.lenOf, hroom, hf]
  | some ad => simp [Builtin.append_, run_underlying hu, run_size hi, Builtin.lenOf, hroom, hf]

/-- append, without -/
theorem run_append_new {ty rt e : TypeId} {i : TypeInfo} {z : Value} (hu : P.underlying ty = some (.slice e)) (hi : P.info? e = some i) (hz : i.zero = some z) {b1 b2 : Option Addr} {ln cr n c1 c2 : Nat} {olds news : List Value}
    (hl1 : olds.length = ln * i.size) (hr1 : ∀ ad, b1 = some ad → ∀ j u, olds[j]? = some u → w.cell? (ad.add j) = some u) (h1 : b1 = none → ln = 0)
    (hl2 : news.length = n * i.size) (hr2 : ∀ ad, b2 = some ad → ∀ j u, news[j]? = some u → w.cell? (ad.add j) = some u) (h2 : b2 = none → n = 0)
    (hg : cr < ln + n) (h63 : ((ln + n : Nat) : Int) ≤ 9223372036854775807) (hfit : Builtin.nextslicecap (ln + n) cr * i.bytes ≤ 281474976710656) :
    (Builtin.append_ #[ty, ty] rt #[.slice b1 ln cr, .slice b2 n c2]).run P w =
      .ok (.slice (some ⟨w.heap.size, 0, none⟩) (ln + n) (grownCap w (ln + n) cr e))
        (w.drew.alloc (.cells (olds.toArray ++ news.toArray ++ Builtin.zeroCells z.cells (grownCap w (ln + n) cr e - (ln + n))) e)) := by
  have hn : ¬ (ln + n ≤ cr) := by omega
  have h63' : ¬ (9223372036854775807 < ((ln : Int) + (n : Int))) := by omega
  have h48' : ¬ (281474976710656 < Builtin.nextslicecap (ln + n) cr * i.bytes) := by omega
  have hf := run_first (P := P) (w := w.drew) (cp := c2) (size := i.size) (n := n) (ln := n) (vs := news) (base := b2) hl2 (Nat.le_refl _) (by simpa using hr2) h2
  have hfo := run_first (P := P) (w := w.drew) (cp := cr) (size := i.size) (n := ln) (ln := ln) (vs := olds) (base := b1) hl1 (Nat.le_refl _) (by simpa using hr1) h1
  rw [List.take_of_length_le (by omega)] at hf hfo
  simp [Builtin.append_, run_underlying hu, sizeOf, typeInfo, zeroValue, hi, hz, Builtin.lenOf, hn, h63', h48', Question.forced, hf, hfo, newRow, grownCap]
  congr 2
  apply Array.ext'
  simp [List.append_assoc]

/-- what a grown row holds -/
theorem grown_ok (hR : Rel P ρ α s w) {e : TypeId} {ti : TI} (hti : TIok P e ti) {m : Nat} {l : List C} {vs : List Value} {z : Value} {i : TypeInfo} (hi : P.info? e = some i) (hz : i.zero = some z)
    (hs : i.size = ti.size) (hzs : z.cells.size = ti.size) (hal : All2 (CR ρ α) l vs) (hvl : vs.length = m * ti.size) {cap : Nat} (hcap : m ≤ cap)
    (h : alloc s nm (.row l e) = some s') :
    Post P ρ α s w (.sc (.a (.slice (some (nm, 0)) (.lit (m : Nat)) none))) s' (.slice (some ⟨w.heap.size, 0, none⟩) m cap) (w.drew.alloc (.cells (vs.toArray ++ Builtin.zeroCells z.cells (cap - m)) e)) := by
  obtain ⟨hn, rfl⟩ := alloc_eq h
  have hα : α nm = none := (hR.dom nm).2 hn
  have hcell := cellsOf_ok hti
  have hB : Below w.heap.size w (w.drew.alloc (.cells (vs.toArray ++ Builtin.zeroCells z.cells (cap - m)) e)) := by
    have := below_alloc w.drew (.cells (vs.toArray ++ Builtin.zeroCells z.cells (cap - m)) e)
    exact ⟨rfl, rfl, rfl, by simp, this.block⟩
  have hsz : (vs.toArray ++ Builtin.zeroCells z.cells (cap - m)).size = cap * ti.size := by
    simp only [Array.size_append, List.size_toArray, hvl, size_zeroCells, hzs, ← Nat.add_mul]
    congr 1; omega
  have hg := alloc_get w.drew (.cells (vs.toArray ++ Builtin.zeroCells z.cells (cap - m)) e)
  have hll := hal.length
  have := Rel.new (o := .row l e) (l := ⟨w.heap.size, 0, ti.size, cap⟩) hR hn hB (Nat.le_refl _)
    ⟨vs.toArray ++ Builtin.zeroCells z.cells (cap - m), hg, hcell.symm, by rw [hsz]; simp, by
      show l.length ≤ cap * ti.size
      rw [hll, hvl]; exact Nat.mul_le_mul_right _ hcap, by
      intro j c hj
      obtain ⟨x, hx, hcx⟩ := hal.get j c hj
      refine ⟨x, ?_, CR.mono (Al.le_with hα) hcx⟩
      have hjl : j < vs.length := (List.getElem?_eq_some_iff.1 hx).1
      simp only [Nat.zero_add]
      rw [Array.getElem?_append_left (by simpa using hjl)]
      simpa using hx⟩ s.ctr
  refine ⟨_, this.1, this.2, ⟨⟨w.heap.size, 0, ti.size, cap⟩, _, m, cap, by simp [Al.with], rfl, by simp [E.den], hcap, by simp, .inr (by simp), by simp⟩⟩

theorem append_ok (hc : CfgOK P ρ c) (hR : Rel P ρ α s w) {ty rt : TypeId} {x y : V} {u z : Value} (hx : VR ρ α x u) (hy : VR ρ α y z) (h : appendV c nm s ty x y = some (v, s')) :
    BOK P ρ α s w v s' (Builtin.append_ #[ty, ty] rt #[u, z]) := by
  unfold appendV at h
  split at h
  · rename_i p hp
    obtain ⟨e, ti⟩ := p
    obtain ⟨hu, hti⟩ := elemTI_ok hc hp
    rw [iteB_eq, iteB_eq] at h
    split at h
    · rename_i hsz
      split at h
      · rename_i hby
        simp only [Nat.ble_eq] at hsz hby
        split at h
        · rename_i old hold
          split at h
          · rename_i new hnew
            obtain ⟨b1, ln, cr, vs1, hu1, hal1, hl1, hr1, hn1⟩ := cellsOfSlice_ok hR (cellsOf_ok hti) hold hx
            obtain ⟨b2, n, c2, vs2, hu2, hal2, hl2, hr2, hn2⟩ := cellsOfSlice_ok hR (cellsOf_ok hti) hnew hy
            obtain ⟨i, zz, hi, hs, hbs, hz, _, hzs, _⟩ := hti.info
            have hdiv : new.length / ti.size = n := by rw [hal2.length, hl2]; exact Nat.mul_div_cancel _ hsz
            simp only [len_eq, hdiv] at h
            unfold appendTo at h
            split at h
            · rename_i q len cap
              have hlen : len.toNat = ln ∧ (∀ cp, cap = some (.lit cp) → cp.toNat = cr) := by
                cases q with
                | none =>
                  obtain ⟨hv, h0, hcc⟩ := hx
                  rw [hu1] at hv
                  cases hv
                  simp only [E.den] at h0
                  refine ⟨by omega, fun cp hcp => ?_⟩
                  have := hcc _ hcp
                  simp only [E.den] at this
                  omega
                | some q =>
                  obtain ⟨l, ad, n1, c1, _, hv, h0, _, _, _, hcc⟩ := hx
                  rw [hu1] at hv
                  cases hv
                  simp only [E.den] at h0
                  refine ⟨by omega, fun cp hcp => ?_⟩
                  rw [hcp] at hcc
                  simp only [E.den] at hcc
                  omega
              simp only [force_eq, hlen.1, iteB_eq, Nat.ble_eq] at h
              split at h
              · rename_i hmax
                have hal12 := hal1.append hal2
                have hl12 : (vs1 ++ vs2).length = (ln + n) * ti.size := by simp [hl1, hl2, Nat.add_mul]
                have hfits : ∀ cc, cc < ln + n → Builtin.nextslicecap (ln + n) cc * i.bytes ≤ 281474976710656 := fun cc hcc => growslice_fits hcc (by
                  rw [hbs]
                  exact Nat.le_trans (Nat.mul_le_mul hmax hby) (by omega))
                -- the new row
                have fresh : ∀ vv ss, appendNew nm s e (ln + n) (app old new) = some (vv, ss) → cr < ln + n → BOK P ρ α s w vv ss (Builtin.append_ #[ty, ty] rt #[u, z]) := by
                  intro vv ss hnw hlt
                  simp only [appendNew, forceL_eq, app_eq] at hnw
                  obtain ⟨rfl, hall⟩ := mk_some hnw
                  have hrun := run_append_new (P := P) (w := w) (rt := rt) (c1 := cr) (c2 := c2) hu hi hz (by rw [hs]; exact hl1) hr1 hn1 (by rw [hs]; exact hl2) hr2 hn2 hlt (by omega) (hfits cr hlt)
                  have hge := grownCap_ge w (ln + n) cr e
                  have hp := grown_ok hR hti hi hz hs hzs hal12 hl12 hge hall
                  refine ⟨_, _, by rw [hu1, hu2]; exact hrun, ?_⟩
                  have e1 : (vs1 ++ vs2).toArray ++ Builtin.zeroCells zz.cells (grownCap w (ln + n) cr e - (ln + n)) = vs1.toArray ++ vs2.toArray ++ Builtin.zeroCells zz.cells (grownCap w (ln + n) cr e - (ln + n)) := by simp
                  rw [e1] at hp
                  exact hp
                split at h
                · -- a capacity that is known
                  rename_i cp
                  rw [hlen.2 cp rfl] at h
                  split at h
                  · rename_i hroom
                    have hrun := run_append_fit (P := P) (w := w) (rt := rt) (b1 := b1) (c2 := c2) hu hi (by rw [hs]; exact hl2) hr2 hn2 hroom
                    unfold appendFit at h
                    split at h
                    · simp only [Option.some.injEq, Prod.mk.injEq] at h
                      obtain ⟨rfl, rfl⟩ := h
                      obtain ⟨hv, h0, _⟩ := hx
                      rw [hu1] at hv
                      cases hv
                      refine ⟨.slice none 0 0, w, ?_, Post.here hR ⟨rfl, rfl, by simp [E.den]⟩⟩
                      have : n = 0 := by omega
                      subst this
                      rw [hu1, hu2, hrun]
                      simp
                    · rename_i q
                      split at h
                      · rename_i row hrow
                        obtain ⟨rfl, hst⟩ := mk_some h
                        obtain ⟨l, ad, n1, c1, hl, hv, hln1, hlc, hcap, had, hcc⟩ := hx
                        rw [hu1] at hv
                        cases hv
                        have hel : elemsAre s q.1 e ti.size = true := by
                          unfold rowCells at hrow
                          unfold elemsAre
                          split at hrow
                          · rename_i hm; rw [hm]; rw [iteB_eq] at hrow; split at hrow <;> simp_all
                          · rename_i hm; rw [hm]; rw [iteB_eq] at hrow; split at hrow <;> simp_all
                          · simp at hrow
                        have hesz := elemsAre_ok hR hl (cellsOf_ok hti) hel
                        obtain ⟨w', hw, hR', hF⟩ := storeCells_ok hR hl hal2 hst
                        refine ⟨.slice (some ad) (ln + n) cr, w', ?_, α, hR', hF, ⟨l, ad, ln + n, cr, hl, rfl, by simp [E.den], hroom, hcap, had, hcc⟩⟩
                        rw [hu1, hu2, hrun]
                        have hw2 : (Go.storeCells (ad.add (ln * i.size)) vs2).run P w = .ok () w' := by
                          by_cases hz0 : cr = 0
                          · have hn0 : n = 0 := by omega
                            have : vs2 = [] := List.eq_nil_of_length_eq_zero (by rw [hl2, hn0]; simp)
                            subst this
                            exact hw
                          · have had' : ad = ⟨l.block, l.base + q.2 * l.esz, none⟩ := by
                              rcases had with h0 | h0
                              · exact absurd h0 hz0
                              · exact h0
                            rw [had', hesz, add_mid, hs, Nat.add_assoc, ← Nat.add_mul]
                            exact hw
                        simp [hw2]
                      · simp at h
                  · rename_i hroom
                    exact fresh _ _ h (by omega)
                · -- a capacity that is not known
                  split at h
                  · rename_i q
                    unfold appendOwn at h
                    split at h
                    · rename_i s1 hs1
                      unfold goneRow at hs1
                      split at hs1
                      · rename_i row e' hm
                        rw [iteB_eq] at hs1
                        split at hs1
                        · rename_i he
                          rw [nbeq] at he
                          rw [he] at hm
                          rw [St.set_eq] at hs1
                          simp only [Option.some.injEq] at hs1
                          subst hs1
                          simp only [appendNew, forceL_eq, app_eq] at h
                          obtain ⟨rfl, hall⟩ := mk_some h
                          obtain ⟨hnm1, rfl⟩ := alloc_eq hall
                          have hne : nm ≠ q.1 := by
                            rintro rfl
                            simp [PT.get_put] at hnm1
                          have hnm : s.mem.get nm = none := by
                            simpa only [PT.get_put, if_neg hne] using hnm1
                          obtain ⟨l, ad, n1, c1, hl, hv, hln1, hlc, hcap, had, hcc⟩ := hx
                          rw [hu1] at hv
                          cases hv
                          simp only at hcc
                          obtain ⟨xs, hb, hesz0, hrowsz, hrowl, hcov⟩ := hR.obj _ _ _ hm hl
                          have hesz : l.esz = ti.size := by rw [hesz0]; exact cellsOf_ok hti
                          have hα : α nm = none := (hR.dom nm).2 hnm
                          by_cases hroom : ln + n ≤ cr
                          · -- in place
                            have hrun := run_append_fit (P := P) (w := w) (rt := rt) (b1 := some ad) (c2 := c2) hu hi (by rw [hs]; exact hl2) hr2 hn2 hroom
                            have hold2 : old = (row.drop (q.2 * ti.size)).take (ln * ti.size) ∧ q.2 * ti.size + ln * ti.size ≤ row.length := by
                              simp only [cellsOfSlice, rowCells, hm, iteB_eq, Nat.beq_refl, if_true, cutOf, hlen.1, len_eq, Nat.ble_eq, takeR_eq, dropR_eq] at hold
                              split at hold
                              · rename_i hle
                                exact ⟨(Option.some.inj hold).symm, hle⟩
                              · cases hold
                            have hnc : n * ti.size + ln * ti.size ≤ cr * ti.size := by
                              rw [← Nat.add_mul]; exact Nat.mul_le_mul_right _ (by omega)
                            have hcc2 : q.2 * ti.size + cr * ti.size = l.cap * ti.size := by rw [← Nat.add_mul, hcc]
                            rw [hesz] at hrowsz hrowl
                            have hoff : (q.2 + ln) * ti.size = q.2 * ti.size + ln * ti.size := Nat.add_mul _ _ _
                            have hst := run_storeCells_at P l.block (l.base + (q.2 + ln) * ti.size) e vs2 0 xs w hb (by omega) (fun v hv => by
                              obtain ⟨j, hj⟩ := List.getElem?_of_mem hv
                              obtain ⟨cc, _, hcj⟩ := hal2.get' j v hj
                              exact flat.one (CR.flat hcj))
                            simp only [Nat.add_zero] at hst
                            have hseg : (xs.toList.take (l.base + (q.2 + ln) * ti.size) ++ vs2 ++ xs.toList.drop (l.base + (q.2 + ln) * ti.size + vs2.length)).length = xs.size := by
                              rw [seg_length (by simp; omega)]; simp
                            have hw2 : (Go.storeCells (ad.add (ln * i.size)) vs2).run P w = .ok () (w.setRow l.block (xs.toList.take (l.base + (q.2 + ln) * ti.size) ++ vs2 ++ xs.toList.drop (l.base + (q.2 + ln) * ti.size + vs2.length)).toArray) := by
                              by_cases hz0 : cr = 0
                              · have hn0 : n = 0 := by omega
                                have : vs2 = [] := List.eq_nil_of_length_eq_zero (by rw [hl2, hn0]; simp)
                                subst this
                                exact hst
                              · have had' : ad = ⟨l.block, l.base + q.2 * l.esz, none⟩ := by
                                  rcases had with h0 | h0
                                  · exact absurd h0 hz0
                                  · exact h0
                                rw [had', hesz, add_mid, hs, Nat.add_assoc, ← Nat.add_mul]
                                exact hst
                            have hll := hal12.length
                            have hT := Rel.take (w' := w.setRow l.block (xs.toList.take (l.base + (q.2 + ln) * ti.size) ++ vs2 ++ xs.toList.drop (l.base + (q.2 + ln) * ti.size + vs2.length)).toArray)
                              (l' := ⟨l.block, l.base + q.2 * ti.size, ti.size, cr⟩) (o' := .row (old ++ new) e) hR hm rfl hl hnm hne (fun b hnb => setRow_other w l.block b _ hnb) (setRow_size _ _ _) rfl rfl rfl rfl
                              ⟨_, setRow_heap w l.block xs _ e _ hb, (cellsOf_ok hti).symm, by
                                simp only [List.size_toArray, hseg]; omega, by
                                show (old ++ new).length ≤ cr * ti.size
                                rw [hll, hl12, Nat.add_mul]; omega, by
                                intro j cj hj
                                simp only [List.getElem?_toArray]
                                rw [seg_get (by simp; omega)]
                                have hol : old.length = ln * ti.size := by rw [hal1.length, hl1]
                                by_cases hjo : j < ln * ti.size
                                · rw [if_neg (by omega)]
                                  rw [List.getElem?_append_left (by omega), hold2.1] at hj
                                  simp only [List.getElem?_take, hjo, if_true, List.getElem?_drop] at hj
                                  obtain ⟨x, hx1, hx2⟩ := hcov _ _ hj
                                  refine ⟨x, ?_, CR.mono (Al.le_with hα) hx2⟩
                                  rw [show l.base + q.2 * ti.size + j = l.base + (q.2 * ti.size + j) by omega]
                                  simpa using hx1
                                · rw [List.getElem?_append_right (by omega), hol] at hj
                                  obtain ⟨x, hx1, hx2⟩ := hal2.get _ _ hj
                                  have hjl : j - ln * ti.size < vs2.length := (List.getElem?_eq_some_iff.1 hx1).1
                                  rw [if_pos (by omega), show l.base + q.2 * ti.size + j - (l.base + (q.2 + ln) * ti.size) = j - ln * ti.size by omega]
                                  exact ⟨x, hx1, CR.mono (Al.le_with hα) hx2⟩⟩ rfl s.ctr
                            refine ⟨.slice (some ad) (ln + n) cr, _, by
                              rw [hu1, hu2, hrun]
                              show ((Go.storeCells (ad.add (ln * i.size)) vs2).run P w).andThen _ = _
                              rw [hw2]; rfl, _, hT.1, hT.2, ?_⟩
                            refine ⟨⟨l.block, l.base + q.2 * ti.size, ti.size, cr⟩, ad, ln + n, cr, by simp [Al.with], rfl, by simp [E.den], hroom, by simp, ?_, by simp⟩
                            rcases had with h0 | h0
                            · exact .inl h0
                            · exact .inr (by rw [h0, hesz]; simp)
                          · -- in a new row
                            have hlt : cr < ln + n := by omega
                            have hrun := run_append_new (P := P) (w := w) (rt := rt) (c1 := cr) (c2 := c2) hu hi hz (by rw [hs]; exact hl1) hr1 hn1 (by rw [hs]; exact hl2) hr2 hn2 hlt (by omega) (hfits cr hlt)
                            have hge := grownCap_ge w (ln + n) cr e
                            obtain ⟨hR1, hF1⟩ := Rel.upd (w' := w) (o' := .gone) hR hm rfl hl (fun _ _ => rfl) rfl rfl rfl rfl trivial (.inr rfl) s.ctr
                            obtain ⟨α', hR2, hF2, hv2⟩ := grown_ok hR1 hti hi hz hs hzs hal12 hl12 hge hall
                            refine ⟨_, _, by rw [hu1, hu2]; exact hrun, α', ?_, ?_, hv2⟩
                            · have e1 : (vs1 ++ vs2).toArray ++ Builtin.zeroCells zz.cells (grownCap w (ln + n) cr e - (ln + n)) = vs1.toArray ++ vs2.toArray ++ Builtin.zeroCells zz.cells (grownCap w (ln + n) cr e - (ln + n)) := by simp
                              rw [e1] at hR2
                              exact hR2
                            · have e1 : (vs1 ++ vs2).toArray ++ Builtin.zeroCells zz.cells (grownCap w (ln + n) cr e - (ln + n)) = vs1.toArray ++ vs2.toArray ++ Builtin.zeroCells zz.cells (grownCap w (ln + n) cr e - (ln + n)) := by simp
                              rw [e1] at hF2
                              exact hF1.trans hF2
                        · simp at hs1
                      · simp at hs1
                    · simp at h
                  · simp at h
                · simp at h
              · simp at h
            · simp at h
          · simp at h
        · simp at h
      · simp at h
    · simp at h
  · simp at h
end

end Go.Sx
end
