/-
  The executor's operations on maps.
-/
import Derived.Test.YtaenfbadkcfdaaaGreatSc
import Derived.Calls
import Derived.Tactics
import Derived.Orders
noncomputable section
namespace Go.Sx
set_option linter.unusedVariables false
set_option linter.unusedSimpArgs false

section
variable {P : Program} {ρ : Env} {c : Cfg} {α : Al} {s s' : St} {w w' : World} {t : Tm} {a : Act} {v : V} {o : Oper} {nm : Nat}

theorem All2.split {β γ : Type} {R : β → γ → Prop} : ∀ {A : List β} {x : β} {B : List β} {l : List γ}, All2 R (A ++ x :: B) l → ∃ A1 y B1, l = A1 ++ y :: B1 ∧ All2 R A A1 ∧ R x y ∧ All2 R B B1
  | [], x, B, [], h => h.elim
  | [], x, B, y :: l, h => ⟨[], y, l, rfl, trivial, h.1, h.2⟩
  | z :: A, x, B, [], h => h.elim
  | z :: A, x, B, y :: l, h => by
    obtain ⟨A1, y1, B1, e, h1, h2, h3⟩ := All2.split h.2
    exact ⟨y :: A1, y1, B1, by rw [e]; rfl, ⟨h.1, h1⟩, h2, h3⟩
theorem All2.join {β γ : Type} {R : β → γ → Prop} : ∀ {A : List β} {x : β} {B : List β} {A1 : List γ} {y : γ} {B1 : List γ}, All2 R A A1 → R x y → All2 R B B1 → All2 R (A ++ x :: B) (A1 ++ y :: B1)
  | A, x, B, A1, y, B1, h1, h2, h3 => h1.append ⟨h2, h3⟩
theorem All2.mem {β γ : Type} {R : β → γ → Prop} : ∀ {l : List β} {m : List γ}, All2 R l m → ∀ y ∈ m, ∃ x ∈ l, R x y
  | [], [], _, y, hy => by simp at hy
  | x :: l, z :: m, h, y, hy => by
    rcases List.mem_cons.1 hy with rfl | hy
    · exact ⟨x, by simp, h.1⟩
    · obtain ⟨x', hx', hr⟩ := All2.mem h.2 y hy
      exact ⟨x', by simp [hx'], hr⟩
  | [], _ :: _, h, _, _ => h.elim
  | _ :: _, [], h, _, _ => h.elim

theorem noneOf_ok {k : C} : ∀ {es : List (C × T1)}, noneOf c k es = true → ∀ p ∈ es, eqCell c k p.1 = some false
  | [], _, p, hp => by simp at hp
  | q :: es, h, p, hp => by
    simp only [noneOf] at h
    split at h
    · rename_i he
      rcases List.mem_cons.1 hp with rfl | hp
      · exact he
      · exact noneOf_ok h p hp
    · simp at h

theorem findMap_some {k : C} : ∀ {es : List (C × T1)} {n i : Nat} {v : T1}, findMap c k es n = some (some (i, v)) →
    ∃ A k' B, es = A ++ (k', v) :: B ∧ i = n + A.length ∧ eqCell c k k' = some true ∧ (∀ p ∈ A, eqCell c k p.1 = some false) ∧ ∀ p ∈ B, eqCell c k p.1 = some false
  | [], n, i, v, h => by simp [findMap] at h
  | (k', v') :: es, n, i, v, h => by
    simp only [findMap] at h
    split at h
    · rename_i he
      rw [iteB_eq] at h
      split at h
      · rename_i hn
        simp at h
        obtain ⟨rfl, rfl⟩ := h
        exact ⟨[], k', es, rfl, by simp, he, by simp, noneOf_ok hn⟩
      · simp at h
    · rename_i he
      obtain ⟨A, k2, B, e1, e2, e3, e4, e5⟩ := findMap_some h
      refine ⟨(k', v') :: A, k2, B, by rw [e1]; rfl, by simp [e2]; omega, e3, ?_, e5⟩
      intro p hp
      rcases List.mem_cons.1 hp with rfl | hp
      · exact he
      · exact e4 p hp
    · simp at h
theorem findMap_none {k : C} : ∀ {es : List (C × T1)} {n : Nat}, findMap c k es n = some none → ∀ p ∈ es, eqCell c k p.1 = some false
  | [], n, h, p, hp => by simp at hp
  | (k', v') :: es, n, h, p, hp => by
    simp only [findMap] at h
    split at h
    · rw [iteB_eq] at h
      split at h <;> simp at h
    · rename_i he
      rcases List.mem_cons.1 hp with rfl | hp
      · exact he
      · exact findMap_none h p hp
    · simp at h

/-- keys that are compared at once -/
theorem sameNow_ok (hf : FactsOK ρ c.facts) {kt : TypeId} {k : K} {x y : C} {u z : Value} {b : Bool} {d : TypeDesc} (hk : KOK P kt k) (hp : plainKey k x = true) (hd : P.underlying kt = some d) (h : eqCell c x y = some b)
    (hu : CR ρ α x u) (hz : CR ρ α y z) : Instr.sameNow d u z = some b ∧ (b = true → Instr.sameBits 10000 z u = true) := by
  cases k <;> cases x <;> simp [plainKey] at hp
  case bool.a q =>
    cases q <;> simp [plainKey] at hp
    rename_i e
    have hd' : d = .bool := by
      have : P.underlying kt = some .bool := hk
      rw [hd] at this; exact Option.some.inj this
    have h1 : u = .bool (e.den ρ) := hu
    unfold eqCell at h
    split at h <;> simp_all
    rename_i e2 _
    have h2 : z = .bool (e2.den ρ) := hz
    split at h
    · rename_i x1 x2 g1 g2
      simp at h; subst h
      rw [B.known_ok hf g1, h2, B.known_ok hf g2]
      simp [Instr.sameNow, Instr.sameBits]
      intro hh; simp [hh]
    · simp at h
  case int.a kk q =>
    cases q <;> simp [plainKey] at hp
    rename_i k1 e
    have hd' : d = .int kk := by
      have : P.underlying kt = some (.int kk) := hk
      rw [hd] at this; exact Option.some.inj this
    have h1 : u = .int k1 (e.den ρ) := hu
    cases y with
    | a q' => cases q' with
      | int k2 e2 =>
        have h2 : z = .int k2 (e2.den ρ) := hz
        simp only [eqCell] at h
        split at h
        · rename_i hkk
          subst hkk
          have hd2 := decideCmp_ok hf h
          simp only [cmpLit, Option.some.injEq] at hd2
          rw [hd', h1, h2]
          simp only [Instr.sameNow, if_true, hd2, true_and]
          intro hb
          rw [hb] at hd2
          have : e.den ρ = e2.den ρ := by simpa using hd2
          simp [Instr.sameBits, this]
        · simp at h
      | _ => simp [eqCell] at h
    | _ => simp [eqCell] at h
  case str.a q =>
    cases q <;> simp [plainKey] at hp
    rename_i e
    have hd' : d = .string := by
      have : P.underlying kt = some .string := hk
      rw [hd] at this; exact Option.some.inj this
    have h1 : u = .string (e.den ρ) := hu
    cases y with
    | a q' => cases q' with
      | str e2 =>
        have h2 : z = .string (e2.den ρ) := hz
        simp only [eqCell] at h
        rw [hd', h1, h2]
        split at h
        · rename_i hb
          simp at h; subst h
          rw [S.beq_eq hb]
          simp [Instr.sameNow, Instr.sameBits, byteArray_self]
        · split at h
          · rename_i l1 l2 _
            simp at h; subst h
            simp only [Instr.sameNow, S.den, byteArray_beq, true_and]
            intro hb
            have : l1 = l2 := by simpa using hb
            simp [Instr.sameBits, this, byteArray_self]
          · simp at h
      | _ => simp [eqCell] at h
    | _ => simp [eqCell] at h

/-- an entry of a map that is told from the others -/
theorem findNow_at {d : TypeDesc} {k : Value} {m : MapEntry} {B : List MapEntry} : ∀ {A : List MapEntry} {n : Nat}, (∀ e ∈ A, Instr.sameNow d k e.key = some false) → Instr.sameNow d k m.key = some true →
    Instr.findNow d k (A ++ m :: B) n = some (some (n + A.length, m.val))
  | [], n, _, h => by simp [Instr.findNow, h]
  | e :: A, n, hA, h => by
    have he := hA e (by simp)
    simp only [List.cons_append, Instr.findNow, he]
    rw [findNow_at (fun e' he' => hA e' (by simp [he'])) h]
    simp; omega
theorem findNow_not {d : TypeDesc} {k : Value} : ∀ {A : List MapEntry} {n : Nat}, (∀ e ∈ A, Instr.sameNow d k e.key = some false) → Instr.findNow d k A n = some none
  | [], n, _ => rfl
  | e :: A, n, hA => by
    have he := hA e (by simp)
    simp only [Instr.findNow, he]
    exact findNow_not (fun e' he' => hA e' (by simp [he']))

abbrev EntR (ρ : Env) (α : Al) (p : C × T1) (m : MapEntry) : Prop := CR ρ α p.1 m.key ∧ T1R ρ α p.2 m.val

/-- what a lookup of a key comes to, in the map itself -/
theorem find_some (hf : FactsOK ρ c.facts) {kt : TypeId} {k : K} {kc : C} {kv : Value} {d : TypeDesc} {es : List (C × T1)} {ents ord : List MapEntry} {i : Nat} {tv : T1}
    (hk : KOK P kt k) (hp : plainKey k kc = true) (hd : P.underlying kt = some d) (hkv : CR ρ α kc kv) (hperm : List.Perm ents ord) (ha : All2 (EntR ρ α) es ord)
    (h : findMap c kc es 0 = some (some (i, tv))) :
    ∃ A B m Ao Bo Ae ke Be, ents = A ++ m :: B ∧ ord = Ao ++ m :: Bo ∧ es = Ae ++ (ke, tv) :: Be ∧ i = Ae.length ∧ List.Perm (A ++ B) (Ao ++ Bo) ∧ All2 (EntR ρ α) Ae Ao ∧ All2 (EntR ρ α) Be Bo ∧ EntR ρ α (ke, tv) m ∧
      (Instr.findKey kt kv ents).run P w = .ok (some (A.length, m.val)) w ∧ Instr.sameBits 10000 m.key kv = true := by
  obtain ⟨Ae, ke, Be, rfl, hi, hkey, hA, hB⟩ := findMap_some h
  obtain ⟨Ao, m, Bo, rfl, h1, h2, h3⟩ := All2.split ha
  have hm : m ∈ ents := hperm.symm.subset (by simp)
  obtain ⟨A, B, rfl⟩ := List.append_of_mem hm
  have hperm' : List.Perm (A ++ B) (Ao ++ Bo) := by
    have e1 : List.Perm (m :: (A ++ B)) (A ++ m :: B) := List.perm_middle.symm
    have e2 : List.Perm (Ao ++ m :: Bo) (m :: (Ao ++ Bo)) := List.perm_middle
    exact List.Perm.cons_inv ((e1.trans hperm).trans e2)
  have hall : ∀ e ∈ Ao ++ Bo, Instr.sameNow d kv e.key = some false := fun e he => by
    rcases List.mem_append.1 he with he | he
    · obtain ⟨p, hp1, hp2⟩ := h1.mem e he
      exact (sameNow_ok hf hk hp hd (hA p hp1) hkv hp2.1).1
    · obtain ⟨p, hp1, hp2⟩ := h3.mem e he
      exact (sameNow_ok hf hk hp hd (hB p hp1) hkv hp2.1).1
  have hsame := sameNow_ok hf hk hp hd hkey hkv h2.1
  have hfn : Instr.findNow d kv (A ++ m :: B) 0 = some (some (0 + A.length, m.val)) :=
    findNow_at (fun e he => hall e (hperm'.subset (by simp [he]))) hsame.1
  refine ⟨A, B, m, Ao, Bo, Ae, ke, Be, rfl, rfl, rfl, by simpa using hi, hperm', h1, h3, h2, ?_, hsame.2 rfl⟩
  simp [Instr.findKey, run_underlying hd, hfn]
theorem find_none (hf : FactsOK ρ c.facts) {kt : TypeId} {k : K} {kc : C} {kv : Value} {d : TypeDesc} {es : List (C × T1)} {ents ord : List MapEntry}
    (hk : KOK P kt k) (hp : plainKey k kc = true) (hd : P.underlying kt = some d) (hkv : CR ρ α kc kv) (hperm : List.Perm ents ord) (ha : All2 (EntR ρ α) es ord)
    (h : findMap c kc es 0 = some none) : (Instr.findKey kt kv ents).run P w = .ok none w := by
  have hall : ∀ e ∈ ents, Instr.sameNow d kv e.key = some false := fun e he => by
    obtain ⟨p, hp1, hp2⟩ := ha.mem e (hperm.subset he)
    exact (sameNow_ok hf hk hp hd (findMap_none h p hp1) hkv hp2.1).1
  simp [Instr.findKey, run_underlying hd, findNow_not hall]

theorem run_checkKey {kt : TypeId} {k : K} {kc : C} {kv : Value} {b : Bool} (hk : KOK P kt k) (hp : plainKey k kc = true) : (Instr.checkKey b 10000 kt kv).run P w = .ok () w := by
  have : ∀ n, (Instr.checkKey b (n + 1) kt kv).run P w = .ok () w := fun n => by
    cases k <;> cases kc <;> simp [plainKey] at hp
    case bool.a => have hd : P.underlying kt = some .bool := hk; simp [Instr.checkKey, run_underlying hd]
    case int.a kk _ => have hd : P.underlying kt = some (.int kk) := hk; simp [Instr.checkKey, run_underlying hd]
    case str.a => have hd : P.underlying kt = some .string := hk; simp [Instr.checkKey, run_underlying hd]
  exact this 9999
end

end Go.Sx
end
/-
  The executor's operations on maps, in the world.
-/
noncomputable section
namespace Go.Sx
open Go.RowKit (Below)
set_option linter.unusedVariables false
set_option linter.unusedSimpArgs false

section
variable {P : Program} {ρ : Env} {c : Cfg} {α : Al} {s s' : St} {w w' : World} {t : Tm} {a : Act} {v : V} {o : Oper} {nm : Nat}

theorem mapElem_ok (hc : CfgOK P ρ c) {ty e : TypeId} {k : C} (h : mapElem c ty k = some e) : ∃ kt kk d, P.underlying ty = some (.map kt e) ∧ KOK P kt kk ∧ plainKey kk k = true ∧ P.underlying kt = some d := by
  unfold mapElem at h
  split at h
  · rename_i ti hti
    have hk := (hc.ty _ _ hti).kind
    split at h
    · rename_i kt e' hte
      rw [hte] at hk
      split at h
      · rename_i kti hkti
        rw [iteB_eq] at h
        split at h
        · rename_i hp
          simp at h; subst h
          have hkk := (hc.ty _ _ hkti).kind
          refine ⟨kt, kti.k, ?_⟩
          cases hq : kti.k <;> rw [hq] at hkk hp <;> cases k <;> simp [plainKey] at hp
          case bool.a => exact ⟨_, hk, hkk, by simp [plainKey, hp], hkk⟩
          case int.a => exact ⟨_, hk, hkk, by simp [plainKey, hp], hkk⟩
          case str.a => exact ⟨_, hk, hkk, by simp [plainKey, hp], hkk⟩
        · simp at h
      · simp at h
    · simp at h
  · simp at h

theorem mapAt_ok (hR : Rel P ρ α s w) {r : Nat} {es : List (C × T1)} {l : Loc} (hl : α r = some l) (h : mapAt s r = some es) :
    s.mem.get r = some (.mp es) ∧ ∃ ents clock ord, w.heap[l.block]? = some (.map ents clock) ∧ List.Perm ents.toList ord ∧ All2 (EntR ρ α) es ord ∧ (∀ m ∈ ents.toList, m.born < clock) ∧ (ents.toList.map (·.born)).Nodup := by
  unfold mapAt at h
  split at h
  · rename_i es' hm
    simp at h; subst h
    exact ⟨hm, hR.obj _ _ _ hm hl⟩
  · simp at h

theorem run_getMap {b : Nat} {ents : Array MapEntry} {clock : Nat} (h : w.heap[b]? = some (.map ents clock)) : (getObj b).run P w = .ok (.map ents clock) w := by simp [getObj, Sem.run, h]
theorem run_setMap {b : Nat} {ents : Array MapEntry} {clock : Nat} {ob : Go.Obj} (h : w.heap[b]? = some (.map ents clock)) : (setObj b ob).run P w = .ok () { w with heap := w.heap.setIfInBounds b ob } := by simp [setObj, Sem.run, h]

theorem zeroT_ok {e : TypeId} {ti : TI} {z : T1} (hti : TIok P e ti) (h : zeroT ti = some z) : ∃ y, (zeroValue e).run P w = .ok y w ∧ T1R ρ α z y := by
  obtain ⟨i, zz, hi, _, _, hz, hcs, hsz, hagg, hflat, _⟩ := hti.info
  refine ⟨zz, run_zero hi hz, ?_⟩
  have hcells := csOfValues_ok ρ α hcs
  unfold zeroT at h
  split at h
  · rename_i ha
    simp at h; subst h
    obtain ⟨cs, rfl⟩ := hagg ha
    exact ⟨cs, rfl, hcells⟩
  · rename_i ha
    have hf := hflat (by simpa using ha)
    split at h
    · rename_i q hq
      simp at h; subst h
      rw [hq, flat.cells hf] at hcells
      exact hcells.1
    · simp at h

theorem T1R.toV {x : T1} {y : Value} (h : T1R ρ α x y) : VR ρ α x.toV y := by cases x <;> exact h
theorem toT1_ok {x : V} {z : T1} {y : Value} (h : x.toT1 = some z) (hx : VR ρ α x y) : T1R ρ α z y := by
  cases x <;> simp [V.toT1] at h <;> subst h <;> exact hx

theorem op_lookup (hc : CfgOK P ρ c) (hR : Rel P ρ α s w) (ht : TmR ρ α t a.tmps) {ty : TypeId} {m k : Operand} {ok : Bool} (ho : o.op = .lookup ty m k ok) (h : opLookup c t s ty m k ok = some (v, s')) : OpV P ρ α s w v s' o a := by
  unfold opLookup at h
  split at h
  · rename_i M hM
    split at h
    · rename_i K hK
      obtain ⟨h1, rfl⟩ := pv_some h
      have hm := ev_ok ht hM
      have hk := ev_ok ht hK
      unfold lookupV at h1
      split at h1
      · rename_i mr
        split at h1
        · rename_i kc
          unfold lookC at h1
          split at h1
          · rename_i e he
            obtain ⟨kt, kk, d, hu, hkk, hpk, hd⟩ := mapElem_ok hc he
            split at h1
            · rename_i es hes
              have hkv : CR ρ α kc (a.eval k) := hk
              -- the map
              have hmap : ∃ ents ord, ((a.eval m = .map none ∧ ents = #[]) ∨ ∃ b clock, a.eval m = .map (some b) ∧ w.heap[b]? = some (.map ents clock)) ∧ List.Perm ents.toList ord ∧ All2 (EntR ρ α) es ord := by
                cases mr with
                | none =>
                  have hval : a.eval m = .map none := hm
                  simp [entriesOf] at hes
                  subst hes
                  exact ⟨#[], [], .inl ⟨hval, rfl⟩, List.Perm.refl _, trivial⟩
                | some r =>
                  obtain ⟨l, hl, hval⟩ := hm
                  obtain ⟨_, ents, clock, ord, hb, hp, ha, _⟩ := mapAt_ok hR hl hes
                  exact ⟨ents, ord, .inr ⟨_, clock, hval, hb⟩, hp, ha⟩
              obtain ⟨ents, ord, hread, hperm, hall⟩ := hmap
              have hck := run_checkKey (P := P) (w := w) (b := ents.isEmpty) (kv := a.eval k) hkk hpk
              split at h1
              · -- it is there
                rename_i p hfm
                obtain ⟨i, tv⟩ := p
                simp at h1; subst h1
                obtain ⟨A, B, me, Ao, Bo, Ae, ke, Be, _, _, _, _, _, _, _, hent, hfind, _⟩ := find_some (P := P) (w := w) hc.facts hkk hpk hd hkv hperm hall hfm
                refine OpV.val (x := if ok then .tuple #[me.val, .bool true] else me.val) hR ?_ ?_
                · cases ok with
                  | true => exact ⟨_, rfl, hent.2, rfl, trivial⟩
                  | false => exact T1R.toV hent.2
                · unfold execOp; rw [ho]
                  rcases hread with ⟨hval, rfl⟩ | ⟨b, clock, hval, hb⟩
                  · simp at hfind hck
                    simp [Instr.lookup, run_underlying hu, hval, hck, hfind]
                  · simp [Instr.lookup, run_underlying hu, hval, run_getMap hb, hck, hfind]
              · -- it is not
                rename_i hfm
                have hfind := find_none (P := P) (w := w) hc.facts hkk hpk hd hkv hperm hall hfm
                unfold lookZ at h1
                split at h1
                · rename_i ti hti
                  split at h1
                  · rename_i z hz
                    obtain ⟨y, hy, hzy⟩ := zeroT_ok (ρ := ρ) (α := α) (w := w) (hc.ty _ _ hti) hz
                    have hv : VR ρ α v (if ok then .tuple #[y, .bool false] else y) := by
                      cases ok with
                      | true => simp at h1; subst h1; exact ⟨_, rfl, hzy, rfl, trivial⟩
                      | false => simp at h1; subst h1; exact T1R.toV hzy
                    refine OpV.val hR hv ?_
                    unfold execOp; rw [ho]
                    rcases hread with ⟨hval, rfl⟩ | ⟨b, clock, hval, hb⟩
                    · simp at hfind hck
                      simp [Instr.lookup, run_underlying hu, hval, hck, hfind, hy]
                    · simp [Instr.lookup, run_underlying hu, hval, run_getMap hb, hck, hfind, hy]
                  · simp at h1
                · simp at h1
              · simp at h1
            · simp at h1
          · simp at h1
        · simp at h1
      · simp at h1
    · simp at h
  · simp at h

theorem setIf_get {b : Nat} {ob ob' : Go.Obj} (h : w.heap[b]? = some ob') : ({ w with heap := w.heap.setIfInBounds b ob } : World).heap[b]? = some ob := by
  have hlt : b < w.heap.size := (Array.getElem?_eq_some_iff.1 h).1
  simp [Array.getElem?_setIfInBounds, hlt]
theorem setIf_other {b k : Nat} {ob : Go.Obj} (h : k ≠ b) : ({ w with heap := w.heap.setIfInBounds b ob } : World).heap[k]? = w.heap[k]? := by
  simp [Array.getElem?_setIfInBounds, Ne.symm h]

theorem setAt_mid {β : Type} (A B : List β) (x y : β) : setAt (A ++ x :: B) A.length y = A ++ y :: B := by
  induction A with
  | nil => rfl
  | cons z A ih => simp [setAt, ih]
theorem modify_mid {β : Type} (A B : List β) (x : β) (f : β → β) : (A ++ x :: B).modify A.length f = A ++ f x :: B := by
  induction A with
  | nil => rfl
  | cons z A ih => simp [ih]
theorem eraseIdx_mid {β : Type} (A B : List β) (x : β) : (A ++ x :: B).eraseIdx A.length = A ++ B := by
  induction A with
  | nil => rfl
  | cons z A ih => simp [ih]

/-- an entry written, or one more -/
theorem put_ok (hc : CfgOK P ρ c) (hR : Rel P ρ α s w) {ty : TypeId} {m k x : V} {mv kv xv : Value} (hm : VR ρ α m mv) (hk : VR ρ α k kv) (hx : VR ρ α x xv) (h : mapPut c s ty m k x = some s') :
    ∃ w', (Instr.mapUpdate ty mv kv xv).run P w = .ok () w' ∧ Rel P ρ α s' w' ∧ Fr α s w α s' w' := by
  unfold mapPut at h
  split at h
  · rename_i r
    split at h
    · rename_i kc
      split at h
      · rename_i e he
        obtain ⟨kt, kk, d, hu, hkk, hpk, hd⟩ := mapElem_ok hc he
        split at h
        · rename_i tv htv
          split at h
          · rename_i es hes
            obtain ⟨l, hl, rfl⟩ := hm
            obtain ⟨hmem, ents, clock, ord, hb, hp, ha, hborn, hnd⟩ := mapAt_ok hR hl hes
            have hkv : CR ρ α kc kv := hk
            have hck := run_checkKey (P := P) (w := w) (b := false) (kv := kv) hkk hpk
            have hxv := toT1_ok htv hx
            unfold putC at h
            split at h
            · -- the entry is there
              rename_i p hfm
              obtain ⟨i, tv0⟩ := p
              simp only [forceL_eq, St.set_eq, Option.some.injEq] at h
              subst h
              obtain ⟨A, B, me, Ao, Bo, Ae, ke, Be, e1, e2, e3, hi, hperm, h1, h2, hent, hfind, hbits⟩ := find_some (P := P) (w := w) hc.facts hkk hpk hd hkv hp ha hfm
              subst hi
              have hget : ents[A.length]? = some me := by
                have : ents.toList[A.length]? = some me := by rw [e1]; simp
                simpa using this
              have hmod : (ents.modify A.length fun e => { e with key := kv, val := xv }).toList = A ++ { me with key := kv, val := xv } :: B := by
                rw [Array.toList_modify, e1, modify_mid]
              refine ⟨{ w with heap := w.heap.setIfInBounds l.block (.map (ents.modify A.length fun e => { e with key := kv, val := xv }) clock) }, ?_, ?_⟩
              · simp [Instr.mapUpdate, run_underlying hu, run_getMap hb, hck, hfind, hget, Instr.keyThatStays, hbits, run_setMap hb]
              · refine Rel.upd hR hmem rfl hl (fun b hne => setIf_other hne) (by simp) rfl rfl rfl ?_ (.inl rfl) _
                refine ⟨_, clock, Ao ++ { me with key := kv, val := xv } :: Bo, setIf_get hb, ?_, ?_, ?_, ?_⟩
                · rw [hmod]
                  exact (List.perm_middle.trans ((List.Perm.cons _ hperm))).trans List.perm_middle.symm
                · rw [e3, setAt_mid]
                  exact All2.join h1 ⟨hkv, hxv⟩ h2
                · intro q hq
                  rw [hmod] at hq
                  rcases List.mem_append.1 hq with hq | hq
                  · exact hborn q (by rw [e1]; simp [hq])
                  · rcases List.mem_cons.1 hq with rfl | hq
                    · exact hborn me (by rw [e1]; simp)
                    · exact hborn q (by rw [e1]; simp [hq])
                · rw [hmod]
                  rw [e1] at hnd
                  simpa using hnd
            · -- it is not
              rename_i hfm
              simp only [forceL_eq, app_eq, St.set_eq, Option.some.injEq] at h
              subst h
              have hfind := find_none (P := P) (w := w) hc.facts hkk hpk hd hkv hp ha hfm
              refine ⟨{ w with heap := w.heap.setIfInBounds l.block (.map (ents.push { key := kv, val := xv, born := clock }) (clock + 1)) }, ?_, ?_⟩
              · simp [Instr.mapUpdate, run_underlying hu, run_getMap hb, hck, hfind, run_setMap hb]
              · refine Rel.upd hR hmem rfl hl (fun b hne => setIf_other hne) (by simp) rfl rfl rfl ?_ (.inl rfl) _
                refine ⟨_, clock + 1, ord ++ [{ key := kv, val := xv, born := clock }], setIf_get hb, ?_, ?_, ?_, ?_⟩
                · simpa using hp.append_right [({ key := kv, val := xv, born := clock } : MapEntry)]
                · exact ha.append ⟨⟨hkv, hxv⟩, trivial⟩
                · intro q hq
                  simp only [Array.toList_push, List.mem_append, List.mem_singleton] at hq
                  rcases hq with hq | rfl
                  · exact Nat.lt_succ_of_lt (hborn q hq)
                  · exact Nat.lt_succ_self _
                · simp only [Array.toList_push, List.map_append, List.map_cons, List.map_nil]
                  rw [List.nodup_append]
                  refine ⟨hnd, by simp, ?_⟩
                  intro x hx y hy
                  simp only [List.mem_singleton] at hy
                  subst hy
                  obtain ⟨q, hq, rfl⟩ := List.mem_map.1 hx
                  exact Nat.ne_of_lt (hborn q hq)
            · simp at h
          · simp at h
        · simp at h
      · simp at h
    · simp at h
  · simp at h

/-- an entry taken away -/
theorem del_ok (hc : CfgOK P ρ c) (hR : Rel P ρ α s w) {ty rt : TypeId} {ts : Array TypeId} {m k : V} {mv kv : Value} (h0 : ts[0]? = some ty) (hm : VR ρ α m mv) (hk : VR ρ α k kv) (h : mapDel c s ty m k = some s') :
    BOK P ρ α s w undefV s' (Builtin.delete_ ts rt #[mv, kv]) := by
  unfold mapDel at h
  split at h
  · rename_i mr
    split at h
    · rename_i kc
      split at h
      · rename_i e he
        obtain ⟨kt, kk, d, hu, hkk, hpk, hd⟩ := mapElem_ok hc he
        have hkv : CR ρ α kc kv := hk
        split at h
        · simp at h; subst h
          have hval : mv = .map none := hm
          have hck := run_checkKey (P := P) (w := w) (b := true) (kv := kv) hkk hpk
          exact ⟨.tuple #[], w, by simp [Builtin.delete_, h0, run_underlying hu, hval, hck], Post.here hR (undefV_ok _ _)⟩
        · rename_i r
          split at h
          · rename_i es hes
            obtain ⟨l, hl, rfl⟩ := hm
            obtain ⟨hmem, ents, clock, ord, hb, hp, ha, hborn, hnd⟩ := mapAt_ok hR hl hes
            have hck := run_checkKey (P := P) (w := w) (b := ents.isEmpty) (kv := kv) hkk hpk
            unfold delC at h
            split at h
            · rename_i p hfm
              obtain ⟨i, tv0⟩ := p
              simp only [forceL_eq, St.set_eq, Option.some.injEq] at h
              subst h
              obtain ⟨A, B, me, Ao, Bo, Ae, ke, Be, e1, e2, e3, hi, hperm, h1, h2, hent, hfind, hbits⟩ := find_some (P := P) (w := w) hc.facts hkk hpk hd hkv hp ha hfm
              subst hi
              have herase : (ents.eraseIdxIfInBounds A.length).toList = A ++ B := by
                have : (ents.eraseIdxIfInBounds A.length).toList = ents.toList.eraseIdx A.length := by simp
                rw [this, e1, eraseIdx_mid]
              refine ⟨.tuple #[], { w with heap := w.heap.setIfInBounds l.block (.map (ents.eraseIdxIfInBounds A.length) clock) }, ?_, α, ?_⟩
              · simp [Builtin.delete_, h0, run_underlying hu, run_getMap hb, hck, hfind, run_setMap hb]
              · have := Rel.upd (w' := { w with heap := w.heap.setIfInBounds l.block (.map (ents.eraseIdxIfInBounds A.length) clock) }) (o' := .mp (es.eraseIdx Ae.length)) hR hmem rfl hl (fun b hne => setIf_other hne) (by simp) rfl rfl rfl
                  ⟨_, clock, Ao ++ Bo, setIf_get hb, by rw [herase]; exact hperm, by rw [e3, eraseIdx_mid]; exact h1.append h2, by
                    intro q hq
                    rw [herase] at hq
                    exact hborn q (by rw [e1]; rcases List.mem_append.1 hq with hq | hq <;> simp [hq]), by
                    rw [herase]
                    rw [e1] at hnd
                    exact hnd.sublist ((List.Sublist.append (List.Sublist.refl A) (List.sublist_cons_self me B)).map _)⟩ (.inl rfl) s.ctr
                exact ⟨this.1, this.2, undefV_ok _ _⟩
            · rename_i hfm
              simp only [Option.some.injEq] at h
              subst h
              have hfind := find_none (P := P) (w := w) hc.facts hkk hpk hd hkv hp ha hfm
              refine ⟨.tuple #[], { w with heap := w.heap.setIfInBounds l.block (.map ents clock) }, ?_, ?_⟩
              · simp [Builtin.delete_, h0, run_underlying hu, run_getMap hb, hck, hfind, run_setMap hb]
              · have hlt : l.block < w.heap.size := (Array.getElem?_eq_some_iff.1 hb).1
                have hh : w.heap.setIfInBounds l.block (.map ents clock) = w.heap := by
                  apply Array.ext_getElem?
                  intro i
                  rw [Array.getElem?_setIfInBounds]
                  by_cases hi : l.block = i
                  · subst hi; rw [if_pos rfl, if_pos hlt, hb]
                  · simp [hi]
                have hw : ({ w with heap := w.heap.setIfInBounds l.block (.map ents clock) } : World) = w := by rw [hh]
                rw [hw]
                exact Post.here hR (undefV_ok _ _)
            · simp at h
          · simp at h
      · simp at h
    · simp at h
  · simp at h
end

end Go.Sx
end
/-
  The executor's operations: map writes, iterators, calls; and all of them together.
-/
noncomputable section
namespace Go.Sx
open Go.RowKit (Below)
set_option linter.unusedVariables false
set_option linter.unusedSimpArgs false

section
variable {P : Program} {ρ : Env} {c : Cfg} {α : Al} {s s' : St} {w w' : World} {t : Tm} {a : Act} {v : V} {o : Oper} {nm : Nat}

theorem op_mapPut (hc : CfgOK P ρ c) (hR : Rel P ρ α s w) (ht : TmR ρ α t a.tmps) {ty : TypeId} {m k x : Operand} (ho : o.op = .mapUpdate ty m k x ∨ o.op = .insert ty m k x) (h : opMapPut c t s ty m k x = some (v, s')) : OpOK P ρ α s w v s' o a := by
  unfold opMapPut at h
  split at h
  · rename_i M hM
    split at h
    · rename_i K hK
      split at h
      · rename_i X hX
        obtain ⟨rfl, h1⟩ := mk_some h
        obtain ⟨w', hw, hR', hF⟩ := put_ok hc hR (ev_ok ht hM) (ev_ok ht hK) (ev_ok ht hX) h1
        have : (execOp a.eval o).run P w = .ok .skip w' := by
          unfold execOp
          rcases ho with e | e <;> rw [e] <;> simp [hw]
        unfold OpOK
        rw [this]
        exact ⟨α, hR', hF, undefV_ok _ _⟩
      · simp at h
    · simp at h
  · simp at h

theorem op_range (hc : CfgOK P ρ c) (hR : Rel P ρ α s w) (ht : TmR ρ α t a.tmps) {ty : TypeId} {x : Operand} (ho : o.op = .range ty x) (h : opRange c t nm s ty x = some (v, s')) : OpOK P ρ α s w v s' o a := by
  unfold opRange at h
  split at h
  · rename_i ti hti
    have hk := (hc.ty _ _ hti).kind
    split at h
    · rename_i kt et hkt
      rw [hkt] at hk
      have hu : P.underlying ty = some (.map kt et) := hk
      split at h
      · rename_i X hX
        have hv := ev_ok ht hX
        unfold iterOver at h
        split at h
        · rename_i m
          split at h
          · rename_i es hes
            obtain ⟨rfl, hal⟩ := mk_some h
            obtain ⟨hn, rfl⟩ := alloc_eq hal
            have hα : α nm = none := (hR.dom nm).2 hn
            cases m with
            | none =>
              have hval : a.eval x = .map none := hv
              have hrun : (Instr.range ty (a.eval x)).run P w = .ok (.pointer (some ⟨w.heap.size, 0, none⟩)) (w.alloc (.mapIter none 0 #[] 0)) := by
                simp [Instr.range, run_underlying hu, hval, World.alloc_eq]
              have := Rel.new (o := .it none) (l := ⟨w.heap.size, 0, 1, 0⟩) hR hn (below_alloc w (.mapIter none 0 #[] 0)) (Nat.le_refl _) ⟨0, 0, rfl, alloc_get w _⟩ s.ctr
              unfold OpOK execOp; rw [ho]
              simp only [Sem.run_bind, hrun, Result.andThen_ok, Sem.run_pure]
              exact ⟨_, this.1, this.2, ptr_of (l := ⟨w.heap.size, 0, 1, 0⟩) rfl rfl (by simp [Al.with])⟩
            | some r =>
              obtain ⟨l, hl, hval⟩ := hv
              obtain ⟨_, ents, clock, ord, hb, _⟩ := mapAt_ok hR hl hes
              have hrun : (Instr.range ty (a.eval x)).run P w = .ok (.pointer (some ⟨w.heap.size, 0, none⟩)) (w.alloc (.mapIter (some l.block) clock #[] clock)) := by
                simp [Instr.range, run_underlying hu, hval, run_getMap hb, World.alloc_eq]
              have := Rel.new (o := .it (some r)) (l := ⟨w.heap.size, 0, 1, 0⟩) hR hn (below_alloc w (.mapIter (some l.block) clock #[] clock)) (Nat.le_refl _) ⟨clock, clock, rfl, l, Al.le_with hα _ _ hl, alloc_get w _⟩ s.ctr
              unfold OpOK execOp; rw [ho]
              simp only [Sem.run_bind, hrun, Result.andThen_ok, Sem.run_pure]
              exact ⟨_, this.1, this.2, ptr_of (l := ⟨w.heap.size, 0, 1, 0⟩) rfl rfl (by simp [Al.with])⟩
          · simp at h
        · simp at h
      · simp at h
    · simp at h
  · simp at h

theorem op_next (hR : Rel P ρ α s w) (ht : TmR ρ α t a.tmps) {x : Operand} {b : Bool} (ho : o.op = .next x b) (h : opNext t s x b = some (v, s')) : OpV P ρ α s w v s' o a := by
  unfold opNext at h
  split at h
  · simp at h
  · split at h
    · rename_i p hp
      obtain ⟨l, hl, hval⟩ := ptrOf_ok ht hp
      rw [Bool.cond_eq_ite] at h
      split at h
      · rename_i hz
        rw [nbeq] at hz
        split at h
        · rename_i m hm
          split at h
          · rename_i hes
            simp at h
            obtain ⟨rfl, rfl⟩ := h
            obtain ⟨since, last, hbase, hit⟩ := hR.obj _ _ _ hm hl
            rw [hz, hbase] at hval
            refine OpV.val (x := .tuple #[.bool false]) hR ⟨_, rfl, rfl, trivial⟩ ?_
            cases m with
            | none =>
              have hg : (getObj l.block).run P w = .ok (.mapIter none since #[] last) w := by simp [getObj, Sem.run, hit]
              unfold execOp; rw [ho]
              simp [Instr.next, hval, hg]
            | some r =>
              obtain ⟨l', hl', hit⟩ := hit
              obtain ⟨_, ents, clock, ord, hb, hp', ha, _⟩ := mapAt_ok hR hl' hes
              have hord : ord = [] := by cases ord with | nil => rfl | cons _ _ => exact ha.elim
              subst hord
              have hents : ents = #[] := by
                have := hp'.eq_nil
                apply Array.ext'
                simpa using this
              subst hents
              have hg : (getObj l.block).run P w = .ok (.mapIter (some l'.block) since #[] last) w := by simp [getObj, Sem.run, hit]
              unfold execOp; rw [ho]
              simp [Instr.next, hval, hg, run_getMap hb, Question.forced]
          · simp at h
        · simp at h
      · simp at h
    · simp at h

/-! ### Calls -/
/-- what the executor's calls are, in the world -/
def CallOK (P : Program) (ρ : Env) (call : CallF) : Prop := ∀ g args s v s', call g args s = some (v, s') → ∀ α w vals, Rel P ρ α s w → All2 (VR ρ α) args vals.toList →
  Calls P g vals w fun e w' => ∃ x, e = .returned x ∧ Post P ρ α s w v s' x w'

theorem evs_ok (ht : TmR ρ α t a.tmps) : ∀ {l : List Operand} {vs : List V}, evs t l = some vs → All2 (VR ρ α) vs (l.map a.eval)
  | [], vs, h => by simp [evs] at h; subst h; trivial
  | x :: l, vs, h => by
    simp only [evs] at h
    split at h
    · rename_i y ys hy hys
      simp at h; subst h
      exact ⟨ev_ok ht hy, evs_ok ht hys⟩
    · simp at h

theorem run_callFunc (hc : CfgOK P ρ c) {g : FuncId} {fn : Func} (h : c.fn.get g = some fn) (args : Array Value) : (callFunc g args).run P w = .ok (.enter g args) w := by
  obtain ⟨h1, h2, h3⟩ := hc.fn _ _ h
  have h4 : fn.body.isNone = false := by cases hb : fn.body <;> simp_all
  simp only [callFunc, Sem.run_bind, run_program, Result.andThen_ok, h1, h3, Bool.false_eq_true, if_false, h4, Sem.run_pure]

theorem lift_ok : ∀ {l : List A} {m : List Value}, All2 (AR ρ α) l m → All2 (VR ρ α) (lift l) m
  | [], [], _ => trivial
  | _ :: _, _ :: _, h => ⟨h.1, lift_ok h.2⟩
  | [], _ :: _, h => h.elim
  | _ :: _, [], h => h.elim

theorem callFn_ok (hc : CfgOK P ρ c) {call : CallF} (hcall : CallOK P ρ call) (hR : Rel P ρ α s w) {g : FuncId} {args : List V} {vals : Array Value} (hargs : All2 (VR ρ α) args vals.toList)
    (h : callFn c call g args s = some (v, s')) : Yld P (Post P ρ α s w v s') ((callFunc g vals).run P w) := by
  unfold callFn at h
  split at h
  · rename_i fn hfn
    rw [run_callFunc hc hfn]
    exact hcall _ _ _ _ _ h _ _ _ hR hargs
  · simp at h

theorem BOK.yld {x : Sem Value} (h : BOK P ρ α s w v s' x) : Yld P (Post P ρ α s w v s') ((do pure (Next.value (← x)) : Sem Next).run P w) := by
  obtain ⟨z, w', hz, hp⟩ := h
  simp only [Sem.run_bind, hz, Result.andThen_ok, Sem.run_pure]
  exact hp

theorem All2.two {β γ : Type} {R : β → γ → Prop} {x y : β} {l : List γ} (h : All2 R [x, y] l) : ∃ u z, l = [u, z] ∧ R x u ∧ R y z := by
  match l, h with
  | [u, z], h => exact ⟨u, z, rfl, h.1, h.2.1⟩
theorem All2.one {β γ : Type} {R : β → γ → Prop} {x : β} {l : List γ} (h : All2 R [x] l) : ∃ u, l = [u] ∧ R x u := by
  match l, h with
  | [u], h => exact ⟨u, rfl, h.1⟩

theorem builtin_ok (hc : CfgOK P ρ c) (hL : LensOK ρ) (hR : Rel P ρ α s w) {b : Builtin} {args : List V} {vals : List Value} {t0 t1 : TypeId} {ts : Array TypeId} {rt : TypeId} {cs : Array Bool}
    (hts : (ts = #[t0] ∧ t1 ≠ t0) ∨ ts = #[t0, t1]) (hargs : All2 (VR ρ α) args vals) (h : callBuiltin c nm s t0 t1 b args = some (v, s')) :
    Yld P (Post P ρ α s w v s') ((builtin b ts rt cs vals.toArray).run P w) := by
  have h0 : ts[0]? = some t0 := by rcases hts with ⟨rfl, _⟩ | rfl <;> rfl
  unfold callBuiltin at h
  split at h
  · -- len
    split at h
    · obtain ⟨u, rfl, hu⟩ := hargs.one
      exact BOK.yld ((len_ok hc hL hR h0 hu h).ok hR)
    · simp at h
  · -- append
    split at h
    · obtain ⟨u, z, rfl, hu, hz⟩ := hargs.two
      rw [iteB_eq] at h
      split at h
      · rename_i he
        rw [nbeq] at he
        subst he
        rcases hts with ⟨_, hne⟩ | rfl
        · exact absurd rfl hne
        exact BOK.yld (append_ok hc hR hu hz h)
      · simp at h
    · simp at h
  · -- copy
    split at h
    · obtain ⟨u, z, rfl, hu, hz⟩ := hargs.two
      exact BOK.yld (copy_ok hc hR h0 hu hz h)
    · simp at h
  · -- cap
    split at h
    · obtain ⟨u, rfl, hu⟩ := hargs.one
      rw [iteB_eq] at h
      split at h
      · rename_i hk
        simp at h
        obtain ⟨rfl, rfl⟩ := h
        exact BOK.yld ((cap_ok hc hR h0 hu hk).ok hR)
      · simp at h
    · simp at h
  · -- max
    split at h
    · obtain ⟨u, z, rfl, hu, hz⟩ := hargs.two
      exact BOK.yld ((minMax_ok (b := true) (ts := ts) (rt := rt) hc hR hu hz h).ok hR)
    · simp at h
  · split at h
    · obtain ⟨u, z, rfl, hu, hz⟩ := hargs.two
      exact BOK.yld ((minMax_ok (b := false) (ts := ts) (rt := rt) hc hR hu hz h).ok hR)
    · simp at h
  · -- delete
    split at h
    · obtain ⟨u, z, rfl, hu, hz⟩ := hargs.two
      obtain ⟨rfl, h1⟩ := mk_some h
      exact BOK.yld (del_ok hc hR h0 hu hz h1)
    · simp at h
  · simp at h

theorem op_call (hc : CfgOK P ρ c) (hL : LensOK ρ) {call : CallF} (hcall : CallOK P ρ call) (hR : Rel P ρ α s w) (ht : TmR ρ α t a.tmps) {cl : Call} (ho : o.op = .call cl) (h : opCall c call t nm s cl = some (v, s')) : OpOK P ρ α s w v s' o a := by
  unfold opCall at h
  split at h
  · rename_i args hargs
    have hvals := evs_ok ht hargs
    have hvals' : All2 (VR ρ α) args (cl.args.map a.eval).toList := by simpa using hvals
    split at h
    · -- a function's value
      rename_i f hf
      unfold callValue at h
      split at h
      · rename_i g first caps hev
        obtain ⟨xs, ys, hval, hx, hy⟩ := ev_ok ht hev
        have hall : All2 (VR ρ α) (app (lift first) (app args (lift caps))) ((xs ++ cl.args.map a.eval) ++ ys).toList := by
          simp only [app_eq, Array.toList_append, List.append_assoc]
          exact (lift_ok hx).append (hvals'.append (lift_ok hy))
        have := callFn_ok hc hcall hR hall h
        unfold OpOK execOp; rw [ho]
        simp only [resolve, hf, hval, Deferred.ofValue, Sem.run_bind, Sem.run_pure, Result.andThen_ok, invoke]
        exact this
      · simp at h
    · -- a method
      rename_i r name hr
      unfold callInvoke at h
      split at h
      · rename_i ty y hev
        split at h
        · rename_i g b hm
          split at h
          · rename_i b' hb'
            rw [iteB_eq] at h
            split at h
            · rename_i hbb
              have hbb' : b = b' := by simpa using hbb
              subst hbb'
              obtain ⟨yv, hval, hy⟩ := ev_ok ht hev
              have hall : All2 (VR ρ α) (.sc (.a y) :: args) (#[yv] ++ cl.args.map a.eval).toList := by
                simp only [Array.toList_append]
                exact ⟨hy, hvals'⟩
              have hfin := callFn_ok hc hcall hR hall h
              have hmeth : (method (P.types.size + Made.depth) ty yv name).run P w = .ok (g, yv) w := by
                unfold methodOf at hm
                split at hm
                · rename_i ti hti
                  obtain ⟨i, z, hi, _, _, _, _, _, _, _, hms⟩ := (hc.ty _ _ hti).info
                  obtain ⟨me, hfind, hpath, hfunc⟩ := hms _ _ _ hm
                  have hk := (hc.ty _ _ hti).kind
                  have hdep : ∃ d, P.types.size + Made.depth = d + 1 := by
                    have h1 : 0 < Made.depth := by decide
                    exact ⟨P.types.size + Made.depth - 1, by omega⟩
                  obtain ⟨d, hd⟩ := hdep
                  have hu : ∃ dd, P.underlying ty = some dd ∧ (match dd with | .pointer _ => true | _ => false) = b := by
                    unfold ptrK at hb'
                    rw [hti] at hb'
                    simp only at hb'
                    cases hkk : ti.k <;> rw [hkk] at hb' hk <;> simp at hb' <;> subst hb' <;> (try simp only [KOK] at hk)
                    all_goals first
                      | exact ⟨_, hk, rfl⟩
                      | (obtain ⟨x1, h1, _⟩ := hk; exact ⟨_, h1, rfl⟩)
                      | (obtain ⟨x1, x2, x3, h1⟩ := hk; exact ⟨_, h1, rfl⟩)
                      | (obtain ⟨x1, h1⟩ := hk; exact ⟨_, h1, rfl⟩)
                  obtain ⟨dd, hdd, hpb⟩ := hu
                  rw [hd]
                  cases dd <;> subst hpb <;> simp [method, run_info hi, hfind, hpath, hfunc, follow, receiverAt, run_underlying hdd, Place.get]
                · simp at hm
              unfold OpOK execOp; rw [ho]
              have e0 : (#[Value.iface ty yv] ++ cl.args.map a.eval)[0]? = some (Value.iface ty yv) := by rw [Array.getElem?_append_left (by simp)]; rfl
              have e1 : (#[Value.iface ty yv] ++ cl.args.map a.eval).extract 1 (#[Value.iface ty yv] ++ cl.args.map a.eval).size = cl.args.map a.eval := by
                apply Array.ext'
                simp [List.take_of_length_le]
              simp only [resolve, hr, hval, Sem.run_bind, Sem.run_pure, Result.andThen_ok, invoke, e0, e1, callMethod, run_program, hmeth]
              exact hfin
            · simp at h
          · simp at h
        · simp at h
      · simp at h
    · -- a builtin function
      rename_i b hb
      unfold callTyped at h
      have hrun : ∀ t0 t1, ((cl.argTypes = #[t0] ∧ t1 ≠ t0) ∨ cl.argTypes = #[t0, t1]) → callBuiltin c nm s t0 t1 b args = some (v, s') → OpOK P ρ α s w v s' o a := by
        intro t0 t1 hts hcb
        have := builtin_ok (rt := o.type) (cs := (cl.args.map fun | .const _ => true | _ => false)) hc hL hR hts hvals hcb
        unfold OpOK execOp; rw [ho]
        simp only [resolve, hb, Sem.run_bind, Sem.run_pure, Result.andThen_ok, invoke]
        have e : cl.args.map a.eval = (cl.args.toList.map a.eval).toArray := by apply Array.ext'; simp
        rw [e]
        exact this
      split at h
      · rename_i t0 hts
        exact hrun t0 (t0 + 1) (.inl ⟨by apply Array.ext'; simpa using hts, Nat.succ_ne_self t0⟩) h
      · rename_i t0 t1 hts
        exact hrun t0 t1 (.inr (by apply Array.ext'; simpa using hts)) h
      · simp at h
  · simp at h

theorem builtinV_ok (hc : CfgOK P ρ c) (hL : LensOK ρ) (hR : Rel P ρ α s w) {b : Builtin} {args : List V} {vals : List Value} {t0 t1 : TypeId} {ts : Array TypeId} {rt : TypeId} {cs : Array Bool}
    (hb : b = .len ∨ b = .cap ∨ b = .max ∨ b = .min) (hts : (ts = #[t0] ∧ t1 ≠ t0) ∨ ts = #[t0, t1]) (hargs : All2 (VR ρ α) args vals) (h : callBuiltin c nm s t0 t1 b args = some (v, s')) :
    s' = s ∧ ∃ x, (builtin b ts rt cs vals.toArray).run P w = .ok (.value x) w ∧ VR ρ α v x := by
  have h0 : ts[0]? = some t0 := by rcases hts with ⟨rfl, _⟩ | rfl <;> rfl
  have fin : ∀ {x : Sem Value}, BOV P ρ α s w v s' x → s' = s ∧ ∃ y, ((do pure (Next.value (← x)) : Sem Next)).run P w = .ok (.value y) w ∧ VR ρ α v y := by
    rintro x ⟨e, z, hz, hv⟩
    exact ⟨e, z, by simp only [Sem.run_bind, hz, Result.andThen_ok, Sem.run_pure], hv⟩
  unfold callBuiltin at h
  rcases hb with rfl | rfl | rfl | rfl <;> simp only at h
  · split at h
    · obtain ⟨u, rfl, hu⟩ := hargs.one
      exact fin (len_ok hc hL hR h0 hu h)
    · simp at h
  · split at h
    · obtain ⟨u, rfl, hu⟩ := hargs.one
      rw [iteB_eq] at h
      split at h
      · rename_i hk
        simp at h
        obtain ⟨rfl, rfl⟩ := h
        exact fin (cap_ok hc hR h0 hu hk)
      · simp at h
    · simp at h
  · split at h
    · obtain ⟨u, z, rfl, hu, hz⟩ := hargs.two
      exact fin (minMax_ok (b := true) (ts := ts) (rt := rt) hc hR hu hz h)
    · simp at h
  · split at h
    · obtain ⟨u, z, rfl, hu, hz⟩ := hargs.two
      exact fin (minMax_ok (b := false) (ts := ts) (rt := rt) hc hR hu hz h)
    · simp at h

theorem op_callV (hc : CfgOK P ρ c) (hL : LensOK ρ) {call : CallF} (hR : Rel P ρ α s w) (ht : TmR ρ α t a.tmps) {cl : Call} (ho : o.op = .call cl) (hp : pasOp (.call cl) = true) (h : opCall c call t nm s cl = some (v, s')) : OpV P ρ α s w v s' o a := by
  obtain ⟨b, hb, hbp⟩ : ∃ b, cl.callee = .builtin b ∧ (b = .len ∨ b = .cap ∨ b = .max ∨ b = .min) := by
    unfold pasOp at hp
    simp only at hp
    split at hp
    · exact ⟨_, by assumption, by simp⟩
    · exact ⟨_, by assumption, by simp⟩
    · exact ⟨_, by assumption, by simp⟩
    · exact ⟨_, by assumption, by simp⟩
    · simp at hp
  unfold opCall at h
  split at h
  · rename_i args hargs
    have hvals := evs_ok ht hargs
    rw [hb] at h
    simp only at h
    unfold callTyped at h
    have hrun : ∀ t0 t1, ((cl.argTypes = #[t0] ∧ t1 ≠ t0) ∨ cl.argTypes = #[t0, t1]) → callBuiltin c nm s t0 t1 b args = some (v, s') → OpV P ρ α s w v s' o a := by
      intro t0 t1 hts hcb
      obtain ⟨e, x, hx, hv⟩ := builtinV_ok (rt := o.type) (cs := (cl.args.map fun | .const _ => true | _ => false)) hc hL hR hbp hts hvals hcb
      refine ⟨e, x, ?_, hv⟩
      unfold execOp; rw [ho]
      simp only [resolve, hb, Sem.run_bind, Sem.run_pure, Result.andThen_ok, invoke]
      have e : cl.args.map a.eval = (cl.args.toList.map a.eval).toArray := by apply Array.ext'; simp
      rw [e]
      exact hx
    split at h
    · rename_i t0 hts
      exact hrun t0 (t0 + 1) (.inl ⟨by apply Array.ext'; simpa using hts, Nat.succ_ne_self t0⟩) h
    · rename_i t0 t1 hts
      exact hrun t0 t1 (.inr (by apply Array.ext'; simpa using hts)) h
    · simp at h
  · simp at h

/-- operations that only look -/
theorem opP_ok (hc : CfgOK P ρ c) (hL : LensOK ρ) {call : CallF} (hR : Rel P ρ α s w) (ht : TmR ρ α t a.tmps) (hp : pasOp o.op = true) (h : opV c call t nm s o.op = some (v, s')) : OpV P ρ α s w v s' o a := by
  cases ho : o.op <;> rw [ho] at h hp <;> simp only [opV] at h
  all_goals first
    | (simp at h; done)
    | (simp [pasOp] at hp; done)
    | exact op_move hR ht (.inl ho) h
    | exact op_move hR ht (.inr ho) h
    | exact op_pick hc hR ht ho h
    | exact op_build hc hR ht ho h
    | exact op_load hc hR ht ho h
    | exact op_nil hR ht ho h
    | exact op_binOp hc hR ht ho h
    | exact op_convert hc hL hR ht ho h
    | exact op_iface hc hR ht ho h
    | exact op_func hR ht ho h
    | exact op_slice hc hR ht ho h
    | exact op_fieldAddr hc hR ht ho h
    | exact op_field hc hR ht ho h
    | exact op_indexAddr hc hR ht ho h
    | exact op_index hc hR ht ho h
    | exact op_lookup hc hR ht ho h
    | exact op_next hR ht ho h
    | exact op_extract hR ht ho h
    | exact op_callV hc hL hR ht ho hp h
    | (split at h
       · exact op_not hc hR ht ho h
       · simp at h)

/-- ALL OPERATIONS -/
theorem opV_ok (hc : CfgOK P ρ c) (hL : LensOK ρ) {call : CallF} (hcall : CallOK P ρ call) (hR : Rel P ρ α s w) (ht : TmR ρ α t a.tmps) (h : opV c call t nm s o.op = some (v, s')) : OpOK P ρ α s w v s' o a := by
  cases ho : o.op <;> rw [ho] at h <;> simp only [opV] at h
  all_goals first
    | (simp at h; done)
    | exact (op_move hR ht (.inl ho) h).ok hR
    | exact (op_move hR ht (.inr ho) h).ok hR
    | exact (op_pick hc hR ht ho h).ok hR
    | exact op_alloc hc hR ho h
    | exact op_box hR ht ho h
    | exact (op_build hc hR ht ho h).ok hR
    | exact op_buildSlice hc hR ht ho h
    | exact (op_load hc hR ht ho h).ok hR
    | exact op_store hc hR ht ho h
    | exact (op_nil hR ht ho h).ok hR
    | exact (op_binOp hc hR ht ho h).ok hR
    | exact (op_convert hc hL hR ht ho h).ok hR
    | exact (op_iface hc hR ht ho h).ok hR
    | exact (op_func hR ht ho h).ok hR
    | exact op_makeMap hc hR ht ho h
    | exact op_makeSlice hc hR ht ho h
    | exact (op_slice hc hR ht ho h).ok hR
    | exact (op_fieldAddr hc hR ht ho h).ok hR
    | exact (op_field hc hR ht ho h).ok hR
    | exact (op_indexAddr hc hR ht ho h).ok hR
    | exact (op_index hc hR ht ho h).ok hR
    | exact (op_lookup hc hR ht ho h).ok hR
    | exact op_mapPut hc hR ht (.inl ho) h
    | exact op_mapPut hc hR ht (.inr ho) h
    | exact op_range hc hR ht ho h
    | exact (op_next hR ht ho h).ok hR
    | exact (op_extract hR ht ho h).ok hR
    | exact op_call hc hL hcall hR ht ho h
    | (split at h
       · exact (op_not hc hR ht ho h).ok hR
       · simp at h)
end

end Go.Sx
end
/-
  The executor on regions, code and calls.
-/
noncomputable section
namespace Go.Sx
open Go.RowKit (Below)
set_option linter.unusedVariables false
set_option linter.unusedSimpArgs false

section
variable {P : Program} {ρ : Env} {c : Cfg} {α : Al} {s s' : St} {w w' : World} {t t' : Tm} {a : Act} {v : V} {o : Oper} {nm : Nat}

def XR : X → Exit → Prop
  | .normal, .normal => True
  | .exit i, .exit j => i = j
  | .ret, .ret => True
  | _, _ => False

/-- what a piece of code leads to, from a state and a world, with nt temporaries and the deferred calls d -/
def EP (P : Program) (ρ : Env) (α : Al) (s : St) (w : World) (nt : Nat) (d : List Deferred) (x : X) (t' : Tm) (s' : St) : Exit → Act → World → Prop :=
  fun e a' w' => XR x e ∧ a'.defers = d ∧ a'.tmps.size = nt ∧ ∃ α', Rel P ρ α' s' w' ∧ Fr α s w α' s' w' ∧ TmR ρ α' t' a'.tmps

theorem EP.from {α1 : Al} {s1 : St} {w1 : World} {nt : Nat} {d : List Deferred} {x : X} {e : Exit} {a' : Act} (hF : Fr α s w α1 s1 w1) (h : EP P ρ α1 s1 w1 nt d x t' s' e a' w') : EP P ρ α s w nt d x t' s' e a' w' := by
  obtain ⟨h1, h2, h3, α', hR, hF', ht⟩ := h
  exact ⟨h1, h2, h3, α', hR, hF.trans hF', ht⟩

theorem put_size (a : Act) (d : Option Tmp) (v : Value) : (a.put d v).tmps.size = a.tmps.size := by cases d <;> simp [Act.put]
theorem put_defers (a : Act) (d : Option Tmp) (v : Value) : (a.put d v).defers = a.defers := by cases d <;> rfl

theorem wanted_ok (hc : CfgOK P ρ c) {ops : Array Oper} {b : Bool} (ht : TmR ρ α t a.tmps) (h : wantedV c ops.toList t o.guard = some b) : Region.wanted o (yielded ops a.tmps) = b := by
  rw [wantedV_eq] at h
  unfold wantedVImpl at h
  unfold Region.wanted
  split at h
  · rename_i hg
    simp at h; subst h
    rw [hg]
  · rename_i j want hg
    rw [hg]
    split at h
    · rename_i oj hoj
      rw [nth_eq] at hoj
      have hoj' : ops[j]? = some oj := by simpa using hoj
      split at h
      · rename_i d hd
        obtain ⟨q0, hq0⟩ : ∃ q0, t.get d = some q0 := by
          cases hq0 : t.get d with
          | none => rw [hq0] at h; cases h
          | some q0 => exact ⟨q0, rfl⟩
        rw [hq0] at h
        simp only at h
        have hv := ht d q0 hq0
        have hy : ((ops[j]?).bind (·.dst)).bind (a.tmps[·]?) = a.tmps[d]? := by simp [hoj', hd]
        simp only [yielded, hy]
        unfold wantedG at h
        split at h
        · rename_i q
          split at h
          · rename_i x hx
            simp at h; subst h
            have hval : a.tmps.getD d undef = .bool (q.den ρ) := hv
            rw [B.known_ok hc.facts hx] at hval
            have hget : a.tmps[d]? = some (.bool x) := by
              simp only [Array.getD_eq_getD_getElem?] at hval
              cases hh : a.tmps[d]? with
              | none => rw [hh] at hval; simp [undef] at hval
              | some y => rw [hh] at hval; simp at hval; rw [hval]
            rw [hget]
            cases x <;> cases want <;> rfl
          · simp at h
        · simp at h; subst h
          obtain ⟨xs, hval, _⟩ := hv
          have hget : ∀ b, a.tmps[d]? ≠ some (.bool b) := fun b hb => by
            simp [Array.getD_eq_getD_getElem?, hb] at hval
          split
          · rename_i b hb; exact absurd hb (hget b)
          · rfl
        · simp at h
      · simp at h
    · simp at h

/-- the operations of a region, in their order -/
theorem runOps_ok (hc : CfgOK P ρ c) (hL : LensOK ρ) {call : CallF} (hcall : CallOK P ρ call) {ops : Array Oper} {nt : Nat} {d : List Deferred} {α0 : Al} {s0 : St} {w0 : World} :
    ∀ (l : List Oper) (nm : Nat) (t : Tm) (s : St) (α : Al) (a : Act) (w : World), runOps c call nt ops.toList l nm t s = some (t', s') → Rel P ρ α s w → TmR ρ α t a.tmps → a.tmps.size = nt → a.defers = d →
      Fr α0 s0 w0 α s w → wpList P ops (EP P ρ α0 s0 w0 nt d .normal t' s') l a w
  | [], nm, t, s, α, a, w, h, hR, ht, hn, hd, hF => by
    have h' : some (t, s) = some (t', s') := h
    simp only [Option.some.injEq, Prod.mk.injEq] at h'
    obtain ⟨rfl, rfl⟩ := h'
    exact ⟨trivial, hd, hn, α, hR, hF, ht⟩
  | o :: l, nm, t, s, α, a, w, h, hR, ht, hn, hd, hF => by
    have h' : step1 c call nt ops.toList o (runOps c call nt ops.toList l) nm t s = some (t', s') := h
    rw [step1_eq] at h'
    unfold step1Impl at h'
    have putK : ∀ (v : V) (x : Value) (s1 : St) (α1 : Al) (w1 : World), putV nt t o.dst v (fun t => runOps c call nt ops.toList l (Nat.succ nm) t s1) = some (t', s') → Rel P ρ α1 s1 w1 → Fr α s w α1 s1 w1 → VR ρ α1 v x →
        wpList P ops (EP P ρ α0 s0 w0 nt d .normal t' s') l (a.put o.dst x) w1 := by
      intro v x s1 α1 w1 hp hR1 hF1 hv
      have ht1 := TmR.mono hF1.le ht
      have rest : ∀ t1, runOps c call nt ops.toList l (Nat.succ nm) t1 s1 = some (t', s') → TmR ρ α1 t1 (a.put o.dst x).tmps → wpList P ops (EP P ρ α0 s0 w0 nt d .normal t' s') l (a.put o.dst x) w1 := fun t1 h1 ht2 =>
        runOps_ok hc hL hcall (ops := ops) (d := d) l (Nat.succ nm) t1 s1 α1 (a.put o.dst x) w1 h1 hR1 ht2 (by rw [put_size]; exact hn) (by rw [put_defers]; exact hd) (hF.trans hF1)
      rw [putV_eq] at hp
      unfold putVImpl at hp
      cases hdst : o.dst with
      | none =>
        rw [hdst] at hp rest
        exact rest t hp ht1
      | some i =>
        rw [hdst] at hp rest
        simp only [iteB_eq, Nat.ble_eq] at hp
        split at hp
        · rename_i hlt
          rw [PT.putK_k] at hp
          exact rest _ hp (TmR.put ht1 hv (by omega))
        · simp at hp
    unfold wpList
    split at h'
    · rename_i hw
      rw [wanted_ok hc ht hw]
      simp only [if_true, force_eq] at h' ⊢
      split at h'
      · rename_i v1 s1 hop
        refine .inl (Yld.wp (opV_ok hc hL hcall hR ht hop) ?_)
        rintro x w1 ⟨α1, hR1, hF1, hv1⟩
        exact putK v1 x s1 α1 w1 h' hR1 hF1 hv1
      · simp at h'
    · rename_i hw
      rw [wanted_ok hc ht hw]
      simp only [Bool.false_eq_true, if_false, force_eq] at h' ⊢
      exact putK undefV undef s α w h' hR (Fr.refl _ _ _) (undefV_ok _ _)
    · simp at h'
end

end Go.Sx
end
/-
  The executor on code.
-/
noncomputable section
namespace Go.Sx
open Go.RowKit (Below)
set_option linter.unusedVariables false
set_option linter.unusedSimpArgs false

section
variable {P : Program} {ρ : Env} {c : Cfg} {α : Al} {s s' : St} {w w' : World} {t t' : Tm} {a : Act} {v : V} {o : Oper} {nm : Nat}

/-- what the executor's function on a piece of code is, in the world -/
def CodeOK (P : Program) (ρ : Env) (nt : Nat) (f : Ex) (code : Code) : Prop :=
  ∀ t s x t' s', f t s = some (x, t', s') → ∀ α a w, Rel P ρ α s w → TmR ρ α t a.tmps → a.tmps.size = nt → code.wp P (EP P ρ α s w nt a.defers x t' s') a w

theorem skip_ok {nt : Nat} : CodeOK P ρ nt (fun t s => some (.normal, t, s)) .skip := fun t s x t' s' h α a w hR ht hn => by
  simp at h
  obtain ⟨rfl, rfl, rfl⟩ := h
  exact wp_skip ⟨trivial, rfl, hn, α, hR, Fr.refl _ _ _, ht⟩
theorem exit_ok {nt id : Nat} : CodeOK P ρ nt (fun t s => some (.exit id, t, s)) (.exit id) := fun t s x t' s' h α a w hR ht hn => by
  simp at h
  obtain ⟨rfl, rfl, rfl⟩ := h
  exact wp_exit ⟨rfl, rfl, hn, α, hR, Fr.refl _ _ _, ht⟩
theorem ret_ok {nt : Nat} : CodeOK P ρ nt (fun t s => some (.ret, t, s)) .ret := fun t s x t' s' h α a w hR ht hn => by
  simp at h
  obtain ⟨rfl, rfl, rfl⟩ := h
  exact wp_ret ⟨trivial, rfl, hn, α, hR, Fr.refl _ _ _, ht⟩

theorem XR.normal {x : X} {e : Exit} (h : XR x e) : (x = .normal ∧ e = .normal) ∨ (∃ i, x = .exit i ∧ e = .exit i) ∨ (x = .ret ∧ e = .ret) := by
  cases x <;> cases e <;> simp [XR] at h
  · exact .inl ⟨rfl, rfl⟩
  · subst h; exact .inr (.inl ⟨_, rfl, rfl⟩)
  · exact .inr (.inr ⟨rfl, rfl⟩)

theorem seq_ok {nt : Nat} {f g : Ex} {x y : Code} (hf : CodeOK P ρ nt f x) (hg : CodeOK P ρ nt g y) : CodeOK P ρ nt (fun t s => thenX g (f t s)) (.seq x y) := fun t s z t' s' h α a w hR ht hn => by
  refine wp_seq ?_
  simp only at h
  cases hft : f t s with
  | none => rw [hft] at h; simp [thenX] at h
  | some r =>
    obtain ⟨x1, t1, s1⟩ := r
    rw [hft] at h
    refine wp_mono (hf t s x1 t1 s1 hft α a w hR ht hn) ?_
    rintro e a1 w1 ⟨hx, hd, hn1, α1, hR1, hF1, ht1⟩
    rcases XR.normal hx with ⟨rfl, rfl⟩ | ⟨i, rfl, rfl⟩ | ⟨rfl, rfl⟩
    · have := hg t1 s1 z t' s' h α1 a1 w1 hR1 ht1 hn1
      rw [hd] at this
      exact wp_mono this fun e a2 w2 hh => EP.from hF1 hh
    · simp [thenX] at h
      obtain ⟨rfl, rfl, rfl⟩ := h
      exact ⟨rfl, hd, hn1, α1, hR1, hF1, ht1⟩
    · simp [thenX] at h
      obtain ⟨rfl, rfl, rfl⟩ := h
      exact ⟨trivial, hd, hn1, α1, hR1, hF1, ht1⟩

theorem cond_ok (hc : CfgOK P ρ c) {nt : Nat} {f g : Ex} {q : Operand} {x y : Code} (hf : CodeOK P ρ nt f x) (hg : CodeOK P ρ nt g y) : CodeOK P ρ nt (fun t s => onTest c f g t s (ev t q)) (.cond q x y) := fun t s z t' s' h α a w hR ht hn => by
  simp only [onTest] at h
  split at h
  · rename_i v hv
    split at h
    · rename_i hk
      exact wp_cond_true (knownB_ok hc hk (ev_ok ht hv)) (hf t s z t' s' h α a w hR ht hn)
    · rename_i hk
      exact wp_cond_false (knownB_ok hc hk (ev_ok ht hv)) (hg t s z t' s' h α a w hR ht hn)
    · simp at h
  · simp at h

theorem block_ok {nt id : Nat} {f : Ex} {x : Code} (hf : CodeOK P ρ nt f x) : CodeOK P ρ nt (fun t s => outOf id (f t s)) (.block id x) := fun t s z t' s' h α a w hR ht hn => by
  refine wp_block ?_
  simp only at h
  cases hft : f t s with
  | none => rw [hft] at h; simp [outOf] at h
  | some r =>
    obtain ⟨x1, t1, s1⟩ := r
    rw [hft] at h
    refine wp_mono (hf t s x1 t1 s1 hft α a w hR ht hn) ?_
    rintro e a1 w1 ⟨hx, hd, hn1, α1, hR1, hF1, ht1⟩
    rcases XR.normal hx with ⟨rfl, rfl⟩ | ⟨i, rfl, rfl⟩ | ⟨rfl, rfl⟩
    · simp [outOf] at h
      obtain ⟨rfl, rfl, rfl⟩ := h
      exact ⟨trivial, hd, hn1, α1, hR1, hF1, ht1⟩
    · simp only [outOf, iteB_eq, nbeq] at h
      split at h
      · rename_i hi
        subst hi
        simp at h
        obtain ⟨rfl, rfl, rfl⟩ := h
        simp only [Exit.inBlock, if_true]
        exact ⟨trivial, hd, hn1, α1, hR1, hF1, ht1⟩
      · rename_i hi
        simp at h
        obtain ⟨rfl, rfl, rfl⟩ := h
        simp only [Exit.inBlock, hi, if_false]
        exact ⟨rfl, hd, hn1, α1, hR1, hF1, ht1⟩
    · simp [outOf] at h
      obtain ⟨rfl, rfl, rfl⟩ := h
      exact ⟨trivial, hd, hn1, α1, hR1, hF1, ht1⟩

theorem least {I : Nat → Prop} : (∃ n, I n) → ∃ n, I n ∧ ∀ m, I m → n ≤ m := by
  rintro ⟨n, hn⟩
  induction n using Nat.strongRecOn with
  | _ n ih =>
    by_cases h : ∃ m, m < n ∧ I m
    · obtain ⟨m, hm, hI⟩ := h; exact ih m hm hI
    · exact ⟨n, hn, fun m hm => by
        by_cases hlt : m < n
        · exact absurd ⟨m, hlt, hm⟩ h
        · omega⟩

theorem iter_succ (f : Ex) (n : Nat) (t : Tm) (s : St) : iter f (n + 1) t s = iterK (iter f n) (f t s) := rfl

theorem loop_ok {nt lf : Nat} {f : Ex} {x : Code} (hf : CodeOK P ρ nt f x) : CodeOK P ρ nt (iter f lf) (.loop x) := fun t s z t' s' h α a w hR ht hn => by
  -- the invariant: so many rounds are left
  let I : Nat → Act → World → Prop := fun n a1 w1 => ∃ t1 s1 α1, iter f n t1 s1 = some (z, t', s') ∧ Rel P ρ α1 s1 w1 ∧ TmR ρ α1 t1 a1.tmps ∧ a1.tmps.size = nt ∧ a1.defers = a.defers ∧ Fr α s w α1 s1 w1
  classical
  let μ : Act → World → Nat := fun a1 w1 => if hh : ∃ n, I n a1 w1 then Classical.choose (least hh) else 0
  refine wp_loop (fun a1 w1 => ∃ n, I n a1 w1) μ ⟨lf, t, s, α, h, hR, ht, hn, rfl, Fr.refl _ _ _⟩ ?_
  intro a1 w1 hI
  have hμ : μ a1 w1 = Classical.choose (least hI) := dif_pos hI
  obtain ⟨t1, s1, α1, hit, hR1, ht1, hn1, hd1, hF1⟩ := (Classical.choose_spec (least hI)).1
  cases hm : Classical.choose (least hI) with
  | zero => rw [hm] at hit; cases hit
  | succ n =>
    rw [hm, iter_succ] at hit
    cases hft : f t1 s1 with
    | none => rw [hft] at hit; simp [iterK] at hit
    | some r =>
      obtain ⟨x2, t2, s2⟩ := r
      rw [hft] at hit
      refine wp_mono (hf t1 s1 x2 t2 s2 hft α1 a1 w1 hR1 ht1 hn1) ?_
      rintro e a2 w2 ⟨hx, hd2, hn2, α2, hR2, hF2, ht2⟩
      rcases XR.normal hx with ⟨rfl, rfl⟩ | ⟨i, rfl, rfl⟩ | ⟨rfl, rfl⟩
      · have hI2 : I n a2 w2 := ⟨t2, s2, α2, hit, hR2, ht2, hn2, hd2.trans hd1, hF1.trans hF2⟩
        refine ⟨⟨n, hI2⟩, ?_⟩
        have h2 : ∃ n, I n a2 w2 := ⟨n, hI2⟩
        have : μ a2 w2 = Classical.choose (least h2) := dif_pos h2
        rw [this, hμ, hm]
        exact Nat.lt_succ_of_le ((Classical.choose_spec (least h2)).2 _ hI2)
      · simp [iterK] at hit
        obtain ⟨rfl, rfl, rfl⟩ := hit
        exact ⟨rfl, hd2.trans hd1, hn2, α2, hR2, hF1.trans hF2, ht2⟩
      · simp [iterK] at hit
        obtain ⟨rfl, rfl, rfl⟩ := hit
        exact ⟨trivial, hd2.trans hd1, hn2, α2, hR2, hF1.trans hF2, ht2⟩
end

end Go.Sx
end
/-
  The executor on whole code, and on calls.
-/
noncomputable section
namespace Go.Sx
open Go.RowKit (Below)
set_option linter.unusedVariables false
set_option linter.unusedSimpArgs false

section
variable {P : Program} {ρ : Env} {c : Cfg} {α : Al} {s s' : St} {w w' : World} {t t' : Tm} {a : Act} {v : V} {o : Oper} {nm : Nat}

theorem withCtr_eq (n : Nat) (s : St) (k : St → Option (X × Tm × St)) : withCtr n s k = k ⟨s.mem, n⟩ := by
  cases s; simp [withCtr, force_eq]

theorem plain_ok (hc : CfgOK P ρ c) (hL : LensOK ρ) {call : CallF} (hcall : CallOK P ρ call) {id nt : Nat} {ops : Array Oper} :
    CodeOK P ρ nt (fun t s => runPlain c call nt ops.toList t s) (.region id ops false) := fun t s x t' s' h α a w hR ht hn => by
  simp only [runPlain, withCtr_eq] at h
  split at h
  · rename_i t1 s1 hrun
    simp at h
    obtain ⟨rfl, rfl, rfl⟩ := h
    refine wp_region_list ?_
    have hF0 : Fr α s w α ⟨s.mem, s.ctr + len ops.toList⟩ w := (Fr.refl α s w).ctr s.ctr _
    exact runOps_ok hc hL hcall (ops := ops) (d := a.defers) ops.toList s.ctr t _ α a w hrun (hR.ctr _) ht hn rfl hF0
  · simp at h

/-- a region whose order is drawn -/
def DrawOK (P : Program) (ρ : Env) (c : Cfg) (call : CallF) : Prop := ∀ id nt ops, CodeOK P ρ nt (fun t s => runDraw c call nt ops.toList t s) (.region id ops true)

theorem none_ok {nt : Nat} {code : Code} : CodeOK P ρ nt (fun t s => none) code := fun t s x t' s' h => by simp at h

theorem execC_ok (hc : CfgOK P ρ c) (hL : LensOK ρ) {call : CallF} (hcall : CallOK P ρ call) (hd : DrawOK P ρ c call) {lf nt : Nat} (code : Code) :
    CodeOK P ρ nt (execC c call lf nt code) code := by
  induction code with
  | skip => exact skip_ok
  | region id ops draw =>
    cases draw with
    | false => exact plain_ok hc hL hcall
    | true => exact hd id nt ops
  | seq x y hx hy => exact seq_ok hx hy
  | cond q x y hx hy => exact cond_ok hc hx hy
  | block id x hx => exact block_ok hx
  | loop x hx => exact loop_ok hx
  | rangeFunc => exact none_ok
  | exit id => exact exit_ok
  | scope => exact none_ok
  | label => exact none_ok
  | goto => exact none_ok
  | ret => exact ret_ok
  | refuse => exact none_ok

theorem tmOf_ok : ∀ (vs : List V) (i : Nat) (t : Tm), tmOf vs i t = (vs.zipIdx i).foldl (fun t p => t.put p.2 p.1) t
  | [], i, t => rfl
  | v :: vs, i, t => by
    simp only [tmOf, PT.putK_k, List.zipIdx_cons, List.foldl_cons]
    exact tmOf_ok vs (i + 1) _

theorem tmOf_get : ∀ (vs : List V) (i : Nat) (t : Tm) (j : Nat), (tmOf vs i t).get j = if i ≤ j ∧ j < i + vs.length then vs[j - i]? else t.get j
  | [], i, t, j => by
    have : ¬ (i ≤ j ∧ j < i + 0) := by omega
    simp only [tmOf, List.length_nil, if_neg this]
  | v :: vs, i, t, j => by
    simp only [tmOf, PT.putK_k]
    rw [tmOf_get vs (i + 1)]
    by_cases h1 : i + 1 ≤ j ∧ j < i + 1 + vs.length
    · have h2 : i ≤ j ∧ j < i + (vs.length + 1) := by omega
      rw [if_pos h1, List.length_cons, if_pos h2]
      have : j - i = (j - (i + 1)) + 1 := by omega
      rw [this, List.getElem?_cons_succ]
    · rw [if_neg h1, PT.get_put]
      by_cases h3 : j = i
      · subst h3
        simp
      · have h2 : ¬ (i ≤ j ∧ j < i + (vs.length + 1)) := by omega
        rw [if_neg h3, List.length_cons, if_neg h2]

theorem tmOf_tm {vs : List V} {vals : Array Value} (hv : All2 (VR ρ α) vs vals.toList) (n : Nat) : TmR ρ α (tmOf vs 0 .leaf) (vals ++ Array.replicate n undef) := by
  intro i z hz
  have hlen := hv.length
  simp only [Array.length_toList] at hlen
  rw [tmOf_get] at hz
  by_cases hi : i < vs.length
  · rw [if_pos (by omega), Nat.sub_zero] at hz
    obtain ⟨x, hx, hvx⟩ := hv.get i z hz
    have : vals[i]? = some x := by simpa using hx
    simp only [Array.getD_eq_getD_getElem?]
    rw [Array.getElem?_append_left (by omega), this]
    exact hvx
  · rw [if_neg (by omega), PT.get_leaf] at hz
    cases hz

theorem results_list (hc : CfgOK P ρ c) (hR : Rel P ρ α s w) {tmps : Array Value} (ht : TmR ρ α t tmps) : ∀ (rs : List ResultVar) (vs : List T1), resultsV c t s rs = some vs →
    ∃ xs : List Value, (rs.mapM (m := Sem) fun
      | .tmp i => pure (tmps.getD i undef)
      | .cell a ty => do loadVar ty (← asAddr (tmps.getD a undef))).run P w = .ok xs w ∧ All2 (T1R ρ α) vs xs
  | [], vs, h => by
    simp [resultsV] at h; subst h
    exact ⟨[], by simp [List.mapM_nil], trivial⟩
  | r :: rs, vs, h => by
    simp only [resultsV] at h
    split at h
    · rename_i v1 vs1 h1 h2
      simp at h; subst h
      obtain ⟨xs, hxs, hall⟩ := results_list hc hR ht rs vs1 h2
      simp only [List.mapM_cons, Sem.run_bind]
      cases r with
      | tmp i =>
        simp only [resultV] at h1
        split at h1
        · rename_i z hz
          refine ⟨tmps.getD i undef :: xs, ?_, toT1_ok h1 (ht i z hz), hall⟩
          simp only [Sem.run_pure, Result.andThen_ok, hxs]
        · cases h1
      | cell a' ty =>
        simp only [resultV] at h1
        split at h1
        · rename_i n off ha
          cases hld : loadAt c s ty n off with
          | none => rw [hld] at h1; simp at h1
          | some z =>
            rw [hld] at h1
            simp only [Option.bind_some] at h1
            have hva := ht a' _ ha
            obtain ⟨l, hl, hval⟩ : ∃ l, α n = some l ∧ tmps.getD a' undef = .pointer (some ⟨l.block, l.base + off, none⟩) := hva
            obtain ⟨x, hx, hvx⟩ := loadAt_ok hc hR hl hld
            refine ⟨x :: xs, ?_, toT1_ok h1 hvx, hall⟩
            have hasA : (asAddr (tmps.getD a' undef)).run P w = .ok ⟨l.block, l.base + off, none⟩ w := by rw [hval]; rfl
            simp only [Sem.run_bind, Sem.run_pure, Result.andThen_ok, hasA, hx, hxs]
        · simp at h1
    · simp at h

def packV : List T1 → V
  | [v] => v.toV
  | vs => .tup vs
theorem packV_many {vs : List T1} (h : ∀ v, vs = [v] → False) : packV vs = .tup vs := by
  unfold packV
  split
  · exact absurd rfl (h _)
  · rfl

theorem results_ok (hc : CfgOK P ρ c) (hR : Rel P ρ α s w) {tmps : Array Value} (ht : TmR ρ α t tmps) {fn : Func} {vs : List T1} (h : resultsV c t s fn.results.toList = some vs) :
    ∃ x, (results fn tmps).run P w = .ok x w ∧ VR ρ α (packV vs) x := by
  obtain ⟨xs, hxs, hall⟩ := results_list hc hR ht _ _ h
  have hrun : (results fn tmps).run P w = .ok (if h : xs.toArray.size = 1 then xs.toArray[0] else .tuple xs.toArray) w := by
    unfold results
    rw [Array.mapM_eq_mapM_toList]
    have hxs' : (List.mapM (fun x => match x with
      | ResultVar.tmp i => pure (tmps.getD i undef)
      | ResultVar.cell a ty => do loadVar ty (← asAddr (tmps.getD a undef))) fn.results.toList).run P w = .ok xs w := hxs
    simp only [Sem.run_bind, Sem.run_map, Result.andThen_ok, Sem.run_pure]
    erw [hxs']
    rfl
  refine ⟨_, hrun, ?_⟩
  cases xs with
  | nil =>
    cases vs with
    | nil => exact ⟨#[], rfl, trivial⟩
    | cons => exact hall.elim
  | cons x xs =>
    cases vs with
    | nil => exact hall.elim
    | cons v vs =>
      cases xs with
      | nil =>
        cases vs with
        | nil => exact T1R.toV hall.1
        | cons => exact hall.2.elim
      | cons x2 xs =>
        cases vs with
        | nil => exact hall.2.elim
        | cons v2 vs => 
          rw [dif_neg (by simp)]
          exact ⟨_, rfl, by simpa using hall⟩

/-- a contract is sound -/
def ConOK (P : Program) (ρ : Env) (f : FuncId) (k : Contract) : Prop :=
  ∀ call, CallOK P ρ call → ∀ args s v s', k call args s = some (v, s') → ∀ α w vals, Rel P ρ α s w → All2 (VR ρ α) args vals.toList →
    Calls P f vals w fun e w' => ∃ x, e = .returned x ∧ Post P ρ α s w v s' x w'

theorem callN_ok (hc : CfgOK P ρ c) (hL : LensOK ρ) (hd : ∀ call, CallOK P ρ call → DrawOK P ρ c call) {con : FuncId → Option Contract} (hcon : ∀ f k, con f = some k → ConOK P ρ f k) {lf : Nat} :
    ∀ n, CallOK P ρ (callN c lf con n)
  | 0 => fun g args s v s' h => by cases h
  | n + 1 => fun g args s v s' h α w vals hR hv => by
    have ih := callN_ok hc hL hd hcon (lf := lf) n
    have h' : (match con g with
      | some k => k (callN c lf con n) args s
      | none => match c.fn.get g with
        | some fn => match fn.body with
          | some body => match execC c (callN c lf con n) lf (Nat.max fn.ntmps (len args)) body (tmOf args 0 .leaf) s with
            | some (.exit _, _, _) | none => none
            | some (_, t, s) => match resultsV c t s fn.results.toList with
              | some [v] => some (v.toV, s)
              | some vs => some (.tup vs, s)
              | none => none
          | none => none
        | none => none) = some (v, s') := h
    clear h
    split at h'
    · rename_i k hk
      exact hcon g k hk _ ih _ _ _ _ h' _ _ _ hR hv
    · split at h'
      · rename_i fn hfn
        split at h'
        · rename_i body hb
          obtain ⟨hf, _, _⟩ := hc.fn _ _ hfn
          refine calls_of_wp hf hb ?_
          have hlen := hv.length
          simp only [Array.length_toList] at hlen
          have hsz : (vals ++ Array.replicate (fn.ntmps - vals.size) undef).size = Nat.max fn.ntmps (len args) := by
            simp only [Array.size_append, Array.size_replicate, len_eq, hlen]
            show _ = max _ _
            omega
          have key : ∀ x t1 s1, execC c (callN c lf con n) lf (Nat.max fn.ntmps (len args)) body (tmOf args 0 .leaf) s = some (x, t1, s1) → (x = .normal ∨ x = .ret) → ∀ vs, resultsV c t1 s1 fn.results.toList = some vs →
              packV vs = v → s1 = s' →
              body.wp P (bodyPost P fn fun e w' => ∃ x, e = .returned x ∧ Post P ρ α s w v s' x w') { tmps := vals ++ Array.replicate (fn.ntmps - vals.size) undef, defers := [] } w := by
            intro x t1 s1 hex hx vs hvs hv1 hs1
            subst hs1
            refine wp_mono (execC_ok hc hL ih (hd _ ih) body _ _ _ _ _ hex α _ w hR (tmOf_tm hv _) hsz) ?_
            rintro e a1 w1 ⟨hxr, hde, _, α1, hR1, hF1, ht1⟩
            obtain ⟨y, hy, hvy⟩ := results_ok hc hR1 ht1 hvs
            rw [hv1] at hvy
            have : bodyPost P fn (fun e w' => ∃ x, e = .returned x ∧ Post P ρ α s w v s1 x w') .ret a1 w1 := ⟨hde, y, hy, y, rfl, α1, hR1, hF1, hvy⟩
            rcases hx with rfl | rfl
            · cases e <;> simp [XR] at hxr
              exact this
            · cases e <;> simp [XR] at hxr
              exact this
          split at h'
          · simp at h'
          · simp at h'
          · rename_i x t1 s1 hne hex
            have hx : x = .normal ∨ x = .ret := by
              cases x with
              | normal => exact .inl rfl
              | ret => exact .inr rfl
              | exit i => exact (hne i rfl).elim
            split at h'
            · rename_i v1 hvs
              simp at h'
              exact key _ _ _ hex hx _ hvs h'.1 h'.2
            · rename_i vs hne2 hvs
              simp at h'
              exact key _ _ _ hex hx _ hvs ((packV_many hne2).trans h'.1) h'.2
            · simp at h'
        · simp at h'
      · simp at h'
end

end Go.Sx
end
/-
  A region that draws its order.
-/
noncomputable section
namespace Go.Sx
open Go.RowKit (Below)
set_option linter.unusedVariables false
set_option linter.unusedSimpArgs false

/-- an activation of which only some temporaries are seen -/
def _root_.Go.Act.only (a : Act) (ds : List Nat) : Act := { a with tmps := a.tmps.mapIdx fun j x => if j ∈ ds then x else undef }
theorem only_get (a : Act) {ds : List Nat} {d : Nat} (h : d ∈ ds) : (a.only ds).tmps[d]? = a.tmps[d]? := by
  simp only [Act.only, Array.getElem?_mapIdx, h, if_true]
  cases a.tmps[d]? <;> rfl
theorem only_out (a : Act) {ds : List Nat} {d : Nat} (h : d ∉ ds) : (a.only ds).tmps.getD d undef = undef := by
  simp only [Act.only, Array.getD_eq_getD_getElem?, Array.getElem?_mapIdx, h, if_false]
  cases a.tmps[d]? <;> rfl
theorem only_exec (a : Act) {ops : Array Oper} {o : Oper} {ds : List Nat} (hs : ∀ cs b, o.op ≠ .select cs b) (h : ∀ d ∈ o.looksAt ops, d ∈ ds) : execOp (a.only ds).eval o = execOp a.eval o :=
  execOp_congr o hs fun x hx => by
    cases x with
    | tmp d =>
      have : d ∈ ds := h d (List.mem_append_left _ (List.mem_filterMap.2 ⟨.tmp d, by simpa using hx, rfl⟩))
      simp only [Act.eval, Array.getD_eq_getD_getElem?, only_get a this]
    | _ => rfl
theorem only_wanted (a : Act) {ops : Array Oper} {o : Oper} {ds : List Nat} (h : ∀ d ∈ o.looksAt ops, d ∈ ds) : Region.wanted o (yielded ops (a.only ds).tmps) = Region.wanted o (yielded ops a.tmps) := by
  unfold Region.wanted
  cases hg : o.guard with
  | none => rfl
  | some gw =>
    obtain ⟨g, want⟩ := gw
    have hy : yielded ops (a.only ds).tmps g = yielded ops a.tmps g := by
      unfold yielded
      cases ht : (ops[g]?).bind (·.dst) with
      | none => rfl
      | some t =>
        have : t ∈ ds := h t (by simp [Oper.looksAt, hg, ht])
        simp only [Option.bind_some, only_get a this]
    simp only [hy]

section
variable {P : Program} {ρ : Env} {c : Cfg} {α : Al} {s s' : St} {w w' : World} {t t' : Tm} {a : Act} {v : V} {o : Oper} {nm : Nat}

/-- a plan of a region, as the executor has found it -/
structure Pl (c : Cfg) (call : CallF) (ops : Array Oper) (nt base : Nat) (t0 : Tm) (s0 : St) (t' : Tm) (s' : St) where
  R : Nat → DR
  S : Nat → St
  f : Nat
  hop : ∀ i, i < ops.size → ops[i]? = some (R i).o
  edge : ∀ i, i < ops.size → ∀ e ∈ (R i).o.after, Region.binds .any e = true → e.on < i
  clos : ∀ i, i < ops.size → ∀ j, (R i).m.testBit j = true → ∃ e ∈ (R i).o.after, Region.binds .any e = true ∧ (e.on = j ∨ (R e.on).m.testBit j = true)
  dstu : ∀ i j d, i < ops.size → j < ops.size → (R i).o.dst = some d → (R j).o.dst = some d → i = j
  dlt : ∀ i d, i < ops.size → (R i).o.dst = some d → d < nt
  reads : ∀ i j d, i < ops.size → j < ops.size → d ∈ looks ops.toList (R i).o → (R j).o.dst = some d → j = i ∨ (R i).m.testBit j = true ∨ (R j).m.testBit i = true
  nosel : ∀ i, i < ops.size → ∀ cs b, (R i).o.op ≠ .select cs b
  tout : ∀ i d, i < ops.size → d ∉ looks ops.toList (R i).o → (R i).t.get d = none
  tgetv : ∀ i j d, i < ops.size → j < i → d ∈ looks ops.toList (R i).o → (R j).o.dst = some d → (R i).t.get d = some (R j).v
  tget0 : ∀ i d, i < ops.size → d ∈ looks ops.toList (R i).o → (∀ j, j < i → (R j).o.dst ≠ some d) → (R i).t.get d = t0.get d
  want : ∀ i, i < ops.size → wantedV c ops.toList (R i).t (R i).o.guard = some (R i).b
  unw : ∀ i, i < ops.size → (R i).b = false → (R i).v = undefV ∧ S (i + 1) = S i
  hS0 : S 0 = s0
  hSn : S ops.size = s'
  pasS : ∀ i, i < ops.size → (R i).act = false → S (i + 1) = S i
  actS : ∀ i, i < ops.size → (R i).act = true → (R i).b = true → opV c call (R i).t (base + i) (S i) (R i).o.op = some ((R i).v, S (i + 1))
  pasV : ∀ i p, i < ops.size → (R i).act = false → (R i).b = true → p ≤ ops.size → (p = ops.size ∨ (R p).act = true) →
    (∀ k, k < ops.size → p ≤ k → (R k).act = true → (R i).m.testBit k = false) → (∀ k, k < p → (R k).act = true → (R k).m.testBit i = false) →
    ∃ z, opV c call (R i).t (base + i) (S p) (R i).o.op = some ((R i).v, z)
  chain : ∀ k i, k < i → i < ops.size → (R k).act = true → (R i).act = true → (R i).m.testBit k = true ∨ i = f
  free : f < ops.size → (R f).act = true ∧ (R f).b = true ∧ (∃ ty, (R f).o.op = .alloc ty) ∧
    ∀ i, i < ops.size → i ≠ f → (R i).m.testBit f = true → ∀ k, k < f → (R k).act = true → (R i).m.testBit k = true
  tfinv : ∀ j d, j < ops.size → (R j).o.dst = some d → t'.get d = some (R j).v
  tfin0 : ∀ d, (∀ j, j < ops.size → (R j).o.dst ≠ some d) → t'.get d = t0.get d

theorem tmpsL_mem {d : Nat} {l : List Operand} (h : .tmp d ∈ l) : d ∈ tmpsL l := by
  induction l with
  | nil => cases h
  | cons x l ih =>
    rcases List.mem_cons.1 h with e | h1
    · rw [← e]; exact List.mem_cons_self ..
    · cases x with
      | tmp e => exact List.mem_cons_of_mem _ (ih h1)
      | _ => exact ih h1
theorem looksAt_sub {ops : Array Oper} {o : Oper} : ∀ d ∈ o.looksAt ops, d ∈ looks ops.toList o := by
  intro d hd
  unfold looks
  rw [app_eq]
  rcases List.mem_append.1 hd with h | h
  · obtain ⟨x, hx, hxd⟩ := List.mem_filterMap.1 h
    cases x <;> simp at hxd
    subst hxd
    exact List.mem_append_left _ (tmpsL_mem hx)
  · refine List.mem_append_right _ ?_
    cases hg : o.guard with
    | none => rw [hg] at h; simp at h
    | some gw =>
      obtain ⟨g, want⟩ := gw
      rw [hg] at h
      simp only [guardL, nth_eq]
      cases hx : ops[g]? with
      | none => simp [hx] at h
      | some x =>
        have hx' : ops.toList[g]? = some x := by simpa using hx
        rw [hx']
        simp only [hx, Option.bind_some] at h
        cases hdst : x.dst with
        | none => simp [hdst] at h
        | some e => simpa [hdst] using h

section inv
variable {call : CallF} {ops : Array Oper} {nt base : Nat} {t0 : Tm} {s0 : St} (pl : Pl c call ops nt base t0 s0 t' s')

theorem Pl.lt : ∀ (i : Nat), i < ops.size → ∀ j, (pl.R i).m.testBit j = true → j < i := by
  intro i
  induction i using Nat.strongRecOn with
  | _ i ih =>
    intro hi j hj
    obtain ⟨e, he, hb, h⟩ := pl.clos i hi j hj
    have h1 := pl.edge i hi e he hb
    rcases h with rfl | h
    · exact h1
    · exact Nat.lt_trans (ih e.on h1 (by omega) j h) h1

/-- the temporaries, where the operations of L are done; those of X are not told -/
structure Temps (ρ : Env) (L : Nat → Prop) (X : Nat → Prop) (α : Al) (a : Act) : Prop where
  done : ∀ j d, j < ops.size → L j → ¬ X j → (pl.R j).o.dst = some d → VR ρ α (pl.R j).v (a.tmps.getD d undef)
  other : ∀ d v, (∀ j, j < ops.size → L j → (pl.R j).o.dst ≠ some d) → t0.get d = some v → VR ρ α v (a.tmps.getD d undef)

variable {pl} {L X : Nat → Prop}
theorem Temps.mono {β : Al} (h : Temps pl ρ L X α a) (hle : α.le β) : Temps pl ρ L X β a :=
  ⟨fun j d hj hL hX hd => VR.mono hle (h.done j d hj hL hX hd), fun d v hd ht => VR.mono hle (h.other d v hd ht)⟩

theorem getD_put (a : Act) (e : Option Nat) (x : Value) (d : Nat) (h : e ≠ some d) : (a.put e x).tmps.getD d undef = a.tmps.getD d undef := by
  cases e with
  | none => rfl
  | some e =>
    have : e ≠ d := fun hh => h (by rw [hh])
    simp [Act.put, Array.getD_eq_getD_getElem?, Array.getElem?_setIfInBounds_ne this]
theorem getD_put_self (a : Act) (x : Value) (d : Nat) (h : d < a.tmps.size) : (a.put (some d) x).tmps.getD d undef = x := by
  simp [Act.put, Array.getD_eq_getD_getElem?, h]

theorem Temps.put (h : Temps pl ρ L X α a) (hsz : a.tmps.size = nt) {i : Nat} (hi : i < ops.size) {x : Value} (hv : ¬ X i → VR ρ α (pl.R i).v x) : Temps pl ρ (fun k => L k ∨ k = i) X α (a.put (pl.R i).o.dst x) := by
  refine ⟨fun j d hj hL hX hd => ?_, fun d v hd htv => ?_⟩
  · by_cases hji : j = i
    · subst hji
      rw [hd, getD_put_self _ _ _ (by rw [hsz]; exact pl.dlt j d hj hd)]
      exact hv hX
    · rw [getD_put _ _ _ _ fun he => hji (pl.dstu j i d hj hi hd he)]
      exact h.done j d hj (hL.resolve_right hji) hX hd
  · rw [getD_put _ _ _ _ (hd i hi (.inr rfl))]
    exact h.other d v (fun j hj hL => hd j hj (.inl hL)) htv

/-- what an operation that may come next looks at -/
theorem Temps.look (h : Temps pl ρ L X α a) (hclo : ∀ i, i < ops.size → L i → ∀ j, (pl.R i).m.testBit j = true → L j) {i : Nat} (hi : i < ops.size) (hn : ¬ L i) (hr : ∀ j, (pl.R i).m.testBit j = true → L j)
    (hX : ∀ j, (pl.R i).m.testBit j = true → ¬ X j) : TmR ρ α (pl.R i).t (a.only (looks ops.toList (pl.R i).o)).tmps := by
  intro d z hz
  by_cases hd : d ∈ looks ops.toList (pl.R i).o
  · have e : (a.only (looks ops.toList (pl.R i).o)).tmps.getD d undef = a.tmps.getD d undef := by
      simp only [Array.getD_eq_getD_getElem?, only_get a hd]
    rw [e]
    by_cases hex : ∃ j, j < ops.size ∧ (pl.R j).o.dst = some d
    · obtain ⟨j, hj, hjd⟩ := hex
      have un : ∀ k, k < ops.size → (pl.R k).o.dst = some d → k = j := fun k hk hkd => pl.dstu k j d hk hj hkd hjd
      rcases pl.reads i j d hi hj hd hjd with rfl | hm | hm
      · rw [pl.tget0 j d hi hd fun k hk hkd => by have := un k (by omega) hkd; omega] at hz
        exact h.other d z (fun k hk hL hkd => by have := un k hk hkd; subst this; exact hn hL) hz
      · rw [pl.tgetv i j d hi (pl.lt i hi j hm) hd hjd] at hz
        cases hz
        exact h.done j d hj (hr j hm) (hX j hm) hjd
      · have hij := pl.lt j hj i hm
        rw [pl.tget0 i d hi hd fun k hk hkd => by have := un k (by omega) hkd; omega] at hz
        exact h.other d z (fun k hk hL hkd => by have := un k hk hkd; subst this; exact hn (hclo k hk hL i hm)) hz
    · have hno : ∀ k, k < ops.size → (pl.R k).o.dst ≠ some d := fun k hk hkd => hex ⟨k, hk, hkd⟩
      rw [pl.tget0 i d hi hd fun k hk => hno k (by omega)] at hz
      exact h.other d z (fun k hk _ => hno k hk) hz
  · rw [pl.tout i d hi hd] at hz
    cases hz

/-- what a lone allocation has made ahead of its place in the text -/
def Early (pl : Pl c call ops nt base t0 s0 t' s') (P : Program) (ρ : Env) (w0 : World) (q : Nat) (α : Al) (a : Act) (w : World) : Prop :=
  ∃ l ty ti, (pl.R pl.f).o.op = .alloc ty ∧ c.ty.get ty = some ti ∧ OR P ρ α w l (.blk ti.zero ty) ∧ ρ.w0.heap.size ≤ l.block ∧ w0.heap.size ≤ l.block ∧ ¬ Used α (pl.S q) l.block ∧
    ∀ d, (pl.R pl.f).o.dst = some d → a.tmps.getD d undef = .pointer (some ⟨l.block, l.base + 0, none⟩)

/-- the acts ahead of q are done, and no other, but for the lone allocation -/
structure At (pl : Pl c call ops nt base t0 s0 t' s') (P : Program) (ρ : Env) (α0 : Al) (w0 : World) (L : Nat → Prop) (a : Act) (w : World) (q : Nat) (α : Al) : Prop where
  le : q ≤ ops.size
  ahead : ∀ k, k < q → (pl.R k).act = true → L k
  behind : ∀ k, k < ops.size → q ≤ k → (pl.R k).act = true → L k → k = pl.f
  rel : Rel P ρ α (pl.S q) w
  fr : Fr α0 s0 w0 α (pl.S q) w
  temps : Temps pl ρ L (fun j => j = pl.f ∧ q ≤ j) α a
  early : L pl.f → q ≤ pl.f → pl.f < ops.size → Early pl P ρ w0 q α a w

theorem At.adv (hc : CfgOK P ρ c) {α0 : Al} {w0 : World} : ∀ (m q : Nat) (α : Al), ops.size - q = m → At pl P ρ α0 w0 L a w q α →
    ∃ p β, At pl P ρ α0 w0 L a w p β ∧ (p = ops.size ∨ (p < ops.size ∧ (pl.R p).act = true ∧ ¬ L p))
  | 0, q, α, hm, h => ⟨q, α, h, .inl (by have := h.le; omega)⟩
  | m + 1, q, α, hm, h => by
    have hq : q < ops.size := by omega
    cases hact : (pl.R q).act with
    | false =>
      have hS := pl.pasS q hq hact
      refine At.adv hc m (q + 1) α (by omega) ⟨by omega, ?_, ?_, ?_, ?_, ?_, ?_⟩
      · intro k hk ha
        by_cases hkq : k = q
        · subst hkq; rw [hact] at ha; simp at ha
        · exact h.ahead k (by omega) ha
      · exact fun k hk hqk ha hL => h.behind k hk (by omega) ha hL
      · rw [hS]; exact h.rel
      · rw [hS]; exact h.fr
      · refine ⟨fun j d hj hL hX hd => h.temps.done j d hj hL (fun hx => hX ⟨hx.1, ?_⟩) hd, h.temps.other⟩
        obtain ⟨rfl, hx⟩ := hx
        rcases Nat.lt_or_ge q pl.f with h1 | h1
        · exact h1
        · have : pl.f = q := by omega
          have := (pl.free hj).1
          simp_all
      · intro hL hle hf
        have := h.early hL (by omega) hf
        unfold Early at *
        rw [hS]; exact this
    | true =>
      by_cases hL : L q
      · -- the lone allocation takes its place
        have hqf := h.behind q hq (Nat.le_refl _) hact hL
        obtain ⟨l, ty, ti, hop, hti, hor, hw0, hws, hnu, hd⟩ := h.early (hqf ▸ hL) (by omega) (hqf ▸ hq)
        have hA := pl.actS q hq hact (by rw [hqf]; exact (pl.free (hqf ▸ hq)).2.1)
        rw [← hqf] at hop hd
        rw [hop] at hA
        simp only [opV, opAlloc, hti] at hA
        obtain ⟨hv, hal⟩ := mk_some hA
        obtain ⟨hn, hs1⟩ := alloc_eq hal
        have hα : α (base + q) = none := (h.rel.dom _).2 hn
        have hle := Al.le_with (l := l) hα
        have hR := Rel.add (l := l) h.rel hn (hor.mono _ _ _ _ _ hle) hw0 (fun m o' l' hm hl' hlv he => hnu ⟨m, o', l', hm, hlv, hl', he⟩) (pl.S q).ctr
        rw [← hs1] at hR
        refine At.adv hc m (q + 1) (α.with (base + q) l) (by omega) ⟨by omega, ?_, ?_, hR, ?_, ?_, ?_⟩
        · intro k hk ha
          by_cases hkq : k = q
          · subst hkq; exact hL
          · exact h.ahead k (by omega) ha
        · exact fun k hk hqk ha hL => h.behind k hk (by omega) ha hL
        · rw [hs1]
          refine ⟨h.fr.le.trans hle, h.fr.size, h.fr.kept, ?_, ?_⟩
          · rintro b ⟨m, om, lm, hm, hom, hlm, rfl⟩
            simp only [PT.get_put, Al.with] at hm hlm
            split at hm
            · rename_i e
              subst e
              simp only [if_true] at hlm
              cases hlm
              exact .inr hws
            · rename_i e
              rw [if_neg e] at hlm
              exact h.fr.mine _ ⟨m, om, lm, hm, hom, hlm, rfl⟩
          · rintro b ⟨m, om, lm, hm, hom, hlm, rfl⟩
            simp only [PT.get_put, Al.with] at hm hlm
            split at hm
            · rename_i e
              subst e
              simp only [if_true] at hlm
              cases hlm
              exact .inr hws
            · rename_i e
              rw [if_neg e] at hlm
              exact h.fr.used _ ⟨m, om, lm, hm, hom, hlm, rfl⟩
        · refine ⟨fun j d hj hLj hX hdj => ?_, (h.temps.mono hle).other⟩
          by_cases hjq : j = q
          · subst hjq
            rw [← hv, hd d hdj]
            exact ⟨l, by simp [Al.with], rfl⟩
          · exact (h.temps.mono hle).done j d hj hLj (fun hx => hjq (hx.1.trans hqf.symm)) hdj
        · intro _ hle2 _
          omega
      · exact ⟨q, α, h, .inr ⟨hq, hact, hL⟩⟩

theorem Temps.weak {X' : Nat → Prop} (h : Temps pl ρ L X α a) (hx : ∀ j, L j → X j → X' j) : Temps pl ρ L X' α a :=
  ⟨fun j d hj hL hX hd => h.done j d hj hL (fun hh => hX (hx j hL hh)) hd, h.other⟩

theorem Rel.grow (h : Rel P ρ α s w) (hB : Below w.heap.size w w') : Rel P ρ α s w' := by
  refine ⟨h.dom, fun n o l hn hl => ?_, h.apart, h.fresh, h.below.trans (hB.mono h.size), h.init⟩
  have h1 := h.obj n o l hn hl
  by_cases hv : o.live = true
  · exact OR.of_block _ _ _ _ _ (hB.block _ (h1.lt hv)) h1
  · cases o <;> simp_all [Obj.live, OR]
theorem Fr.grow (α : Al) (s : St) (hB : Below w.heap.size w w') : Fr α s w α s w' := ⟨Al.le.refl _, hB.size, fun b hb _ => hB.block b hb, fun _ h => .inl h, fun _ h => .inl h⟩

theorem Early.put {w0 : World} {q i : Nat} {x : Value} (h : Early pl P ρ w0 q α a w) (hi : i < ops.size) (hf : pl.f < ops.size) (hne : i ≠ pl.f) : Early pl P ρ w0 q α (a.put (pl.R i).o.dst x) w := by
  obtain ⟨l, ty, ti, h1, h2, h3, h4, h5, h6, h7⟩ := h
  exact ⟨l, ty, ti, h1, h2, h3, h4, h5, h6, fun d hd => by rw [getD_put _ _ _ _ fun he => hne (pl.dstu i pl.f d hi hf he hd)]; exact h7 d hd⟩

theorem At.pas {α0 : Al} {w0 : World} {p i : Nat} {x : Value} (h : At pl P ρ α0 w0 L a w p α) (hsz : a.tmps.size = nt) (hi : i < ops.size) (hp : (pl.R i).act = false) (hv : VR ρ α (pl.R i).v x) :
    At pl P ρ α0 w0 (fun k => L k ∨ k = i) (a.put (pl.R i).o.dst x) w p α := by
  have hne : pl.f < ops.size → i ≠ pl.f := fun hf e => by have := (pl.free hf).1; rw [← e, hp] at this; simp at this
  refine ⟨h.le, fun k hk ha => .inl (h.ahead k hk ha), ?_, h.rel, h.fr, h.temps.put hsz hi fun _ => hv, ?_⟩
  · rintro k hk hpk ha (hL | rfl)
    · exact h.behind k hk hpk ha hL
    · rw [hp] at ha; simp at ha
  · intro hL hle hf
    exact (h.early (hL.resolve_right fun e => hne hf e.symm) hle hf).put hi hf (hne hf)

theorem At.act {α0 β : Al} {w0 : World} {p : Nat} {x : Value} (h : At pl P ρ α0 w0 L a w p α) (hsz : a.tmps.size = nt) (hp : p < ops.size) (hn : ¬ L p) (hR : Rel P ρ β (pl.S (p + 1)) w') (hF : Fr α (pl.S p) w β (pl.S (p + 1)) w')
    (hv : VR ρ β (pl.R p).v x) : At pl P ρ α0 w0 (fun k => L k ∨ k = p) (a.put (pl.R p).o.dst x) w' (p + 1) β := by
  refine ⟨by omega, ?_, ?_, hR, h.fr.trans hF, ?_, ?_⟩
  · intro k hk ha
    by_cases hkp : k = p
    · exact .inr hkp
    · exact .inl (h.ahead k (by omega) ha)
  · rintro k hk hpk ha (hL | rfl)
    · exact h.behind k hk (by omega) ha hL
    · omega
  · refine Temps.put ((h.temps.mono hF.le).weak fun j hL hX => ⟨hX.1, ?_⟩) hsz hp fun _ => hv
    rcases Nat.lt_or_ge p j with h1 | h1
    · exact h1
    · have : j = p := by omega
      subst this; exact absurd hL hn
  · intro hL hle hf
    have hne : p ≠ pl.f := by omega
    have hE := (h.early (hL.resolve_right fun e => hne e.symm) (by omega) hf).put (x := x) hp hf hne
    obtain ⟨l, ty, ti, h1, h2, h3, h4, h5, h6, h7⟩ := hE
    have hlt := h3.lt rfl
    have hnm : ¬ Mine α (pl.S p) l.block := fun ⟨m, o', l', hm, ho, hl', e⟩ => h6 ⟨m, o', l', hm, Obj.live_of_own ho, hl', e⟩
    refine ⟨l, ty, ti, h1, h2, OR.of_block _ _ _ _ _ (hF.kept _ hlt hnm) (h3.mono _ _ _ _ _ hF.le), h4, h5, fun hu => ?_, h7⟩
    rcases hF.used _ hu with h8 | h8
    · exact h6 h8
    · omega

theorem At.lone {α0 : Al} {w0 : World} {p : Nat} {ty : TypeId} {ti : TI} {xs : Array Value} (h : At pl P ρ α0 w0 L a w p α) (hsz : a.tmps.size = nt) (hf : pl.f < ops.size) (hpf : p < pl.f) (hn : ¬ L pl.f)
    (hop : (pl.R pl.f).o.op = .alloc ty) (hti : c.ty.get ty = some ti) (hxs : All2 (CR ρ α) ti.zero xs.toList) :
    At pl P ρ α0 w0 (fun k => L k ∨ k = pl.f) (a.put (pl.R pl.f).o.dst (.pointer (some ⟨w.heap.size, 0, none⟩))) (w.alloc (.cells xs ty)) p α := by
  have hB := below_alloc w (.cells xs ty)
  refine ⟨h.le, fun k hk ha => .inl (h.ahead k hk ha), ?_, h.rel.grow hB, h.fr.trans (Fr.grow _ _ hB), ?_, ?_⟩
  · rintro k hk hpk ha (hL | rfl)
    · exact h.behind k hk hpk ha hL
    · rfl
  · exact h.temps.put hsz hf fun hX => absurd ⟨rfl, Nat.le_of_lt hpf⟩ hX
  · intro _ _ _
    refine ⟨⟨w.heap.size, 0, 1, xs.size⟩, ty, ti, hop, hti, ⟨xs, alloc_get w _, hxs, rfl, rfl, rfl⟩, h.rel.size, h.fr.size, ?_, ?_⟩
    · rintro ⟨m, o', l', hm, hlv, hl', e⟩
      have := (h.rel.obj m o' l' hm hl').lt hlv
      simp only at e
      omega
    · intro d hd
      rw [hd, getD_put_self _ _ _ (by rw [hsz]; exact pl.dlt _ d hf hd)]

abbrev Lb (listed : Array Bool) (k : Nat) : Prop := listed.getD k false = true
theorem Lb_set {listed : Array Bool} {i : Nat} (hi : i < listed.size) : Lb (listed.setIfInBounds i true) = fun k => Lb listed k ∨ k = i := by
  funext k
  apply propext
  by_cases h : k = i
  · subst h
    simp [Lb, hi]
  · simp [Lb, getD_set_ne false (Ne.symm h), h]

/-- THE INVARIANT, in any order -/
structure Inv (pl : Pl c call ops nt base t0 s0 t' s') (P : Program) (ρ : Env) (α0 : Al) (w0 : World) (d : List Deferred) (listed : Array Bool) (a : Act) (w : World) : Prop where
  size : listed.size = ops.size
  clo : ∀ i, i < ops.size → Lb listed i → ∀ j, (pl.R i).m.testBit j = true → Lb listed j
  defers : a.defers = d
  tsz : a.tmps.size = nt
  ex : ∃ p α, At pl P ρ α0 w0 (Lb listed) a w p α ∧ (p = ops.size ∨ (p < ops.size ∧ (pl.R p).act = true ∧ ¬ Lb listed p))

theorem Inv.step (hc : CfgOK P ρ c) (hL : LensOK ρ) (hcall : CallOK P ρ call) {α0 : Al} {w0 : World} {d : List Deferred} {listed : Array Bool} {Q : Exit → Act → World → Prop} {i : Nat}
    (h : Inv pl P ρ α0 w0 d listed a w) (hi : i ∈ Region.ready .any ops listed) : wpOp P ops Q i (Inv pl P ρ α0 w0 d (listed.setIfInBounds i true)) a w := by
  obtain ⟨hun, o, ho, hall⟩ := mem_ready.1 hi
  have hin : i < ops.size := (Array.getElem?_eq_some_iff.1 ho).1
  have hls : i < listed.size := by rw [h.size]; exact hin
  have hn : ¬ Lb listed i := by
    intro hh
    simp only [Lb, Array.getD_eq_getD_getElem?, Array.getElem?_eq_getElem hls, Option.getD_some] at hh hun
    rw [hun] at hh; cases hh
  have hoi := pl.hop i hin
  have e : o = (pl.R i).o := by rw [ho] at hoi; simpa using hoi
  subst e
  have hr : ∀ j, (pl.R i).m.testBit j = true → Lb listed j := by
    intro j hj
    obtain ⟨e, he, hb, hh⟩ := pl.clos i hin j hj
    have h1 := hall e he hb
    rcases hh with rfl | hh
    · exact h1
    · exact h.clo e.on (by have := pl.edge i hin e he hb; omega) h1 j hh
  obtain ⟨p, α, hA, hp⟩ := h.ex
  have hX : ∀ j, (pl.R i).m.testBit j = true → ¬ (j = pl.f ∧ p ≤ j) := by
    rintro j hj ⟨rfl, hpj⟩
    have hfi := pl.lt i hin _ hj
    rcases hp with rfl | ⟨hp, hact, hnp⟩
    · omega
    · have hfn : pl.f < ops.size := by omega
      by_cases hpf : p = pl.f
      · subst hpf; exact hnp (hr _ hj)
      · exact hnp (hr _ ((pl.free hfn).2.2.2 i hin (by omega) hj p (by omega) hact))
  have htm := hA.temps.look h.clo hin hn hr hX
  have hds : ∀ d ∈ (pl.R i).o.looksAt ops, d ∈ looks ops.toList (pl.R i).o := looksAt_sub
  have hw : Region.wanted (pl.R i).o (yielded ops a.tmps) = (pl.R i).b := by
    rw [← only_wanted a hds]
    exact wanted_ok hc htm (pl.want i hin)
  have hx : execOp (a.only (looks ops.toList (pl.R i).o)).eval (pl.R i).o = execOp a.eval (pl.R i).o := only_exec a (pl.nosel i hin) hds
  have hclo' : ∀ k, k < ops.size → Lb (listed.setIfInBounds i true) k → ∀ j, (pl.R k).m.testBit j = true → Lb (listed.setIfInBounds i true) j := by
    rw [Lb_set hls]
    rintro k hk (hk1 | rfl) j hj
    · exact .inl (h.clo k hk hk1 j hj)
    · exact .inl (hr j hj)
  have fin : ∀ x w' q β, At pl P ρ α0 w0 (fun k => Lb listed k ∨ k = i) (a.put (pl.R i).o.dst x) w' q β → Inv pl P ρ α0 w0 d (listed.setIfInBounds i true) (a.put (pl.R i).o.dst x) w' := by
    intro x w' q β hA'
    obtain ⟨p', β', hA2, hp2⟩ := At.adv hc _ q β rfl hA'
    refine ⟨by simpa using h.size, hclo', by rw [put_defers]; exact h.defers, by rw [put_size]; exact h.tsz, p', β', ?_⟩
    rw [Lb_set hls]
    exact ⟨hA2, hp2⟩
  unfold wpOp
  rw [hoi]
  simp only [hw]
  cases hact : (pl.R i).act with
  | false =>
    -- it only looks
    cases hb : (pl.R i).b with
    | false =>
      simp only [Bool.false_eq_true, if_false]
      exact fin _ _ p α (hA.pas h.tsz hin hact (by rw [(pl.unw i hin hb).1]; exact undefV_ok _ _))
    | true =>
      simp only [if_true]
      obtain ⟨z, hz⟩ := pl.pasV i p hin hact hb hA.le (hp.imp id fun hh => hh.2.1) (by
        intro k hk hpk hka
        cases hbit : (pl.R i).m.testBit k with
        | false => rfl
        | true => exact absurd ⟨hA.behind k hk hpk hka (hr k hbit), hpk⟩ (hX k hbit)) (by
        intro k hk hka
        cases hbit : (pl.R k).m.testBit i with
        | false => rfl
        | true => exact absurd (h.clo k (by have := hA.le; omega) (hA.ahead k hk hka) i hbit) hn)
      obtain ⟨_, x, hrun, hv⟩ := opP_ok hc hL hA.rel htm (by simpa [DR.act] using hact) hz
      rw [hx] at hrun
      refine .inl (Yld.wp (K := fun y w' => y = x ∧ w' = w) (by rw [hrun]; exact ⟨rfl, rfl⟩) ?_)
      rintro y w' ⟨rfl, rfl⟩
      exact fin _ _ p α (hA.pas h.tsz hin hact hv)
  | true =>
    obtain ⟨hpn, hpa, hpl⟩ : p < ops.size ∧ (pl.R p).act = true ∧ ¬ Lb listed p := by
      rcases hp with rfl | hp
      · exact absurd (hA.ahead i hin hact) hn
      · exact hp
    by_cases hip : i = p
    · subst hip
      cases hb : (pl.R i).b with
      | false =>
        simp only [Bool.false_eq_true, if_false]
        obtain ⟨hv, hS⟩ := pl.unw i hin hb
        exact fin _ _ (i + 1) α (hA.act h.tsz hin hn (by rw [hS]; exact hA.rel) (by rw [hS]; exact Fr.refl _ _ _) (by rw [hv]; exact undefV_ok _ _))
      | true =>
        simp only [if_true]
        have hop := opV_ok hc hL hcall hA.rel htm (pl.actS i hin hact hb)
        unfold OpOK at hop
        rw [hx] at hop
        refine .inl (Yld.wp hop ?_)
        rintro x w' ⟨β, hR, hF, hv⟩
        exact fin _ _ (i + 1) β (hA.act h.tsz hin hn hR hF hv)
    · have hpi : p < i := by
        rcases Nat.lt_or_ge p i with h1 | h1
        · exact h1
        · exact absurd (hA.ahead i (by omega) hact) hn
      rcases pl.chain p i hpi hin hpa hact with h1 | rfl
      · exact absurd (hr p h1) hpl
      · obtain ⟨_, hb, ⟨ty, hty⟩, _⟩ := pl.free hin
        simp only [hb, if_true]
        have hA2 := pl.actS _ hin hact hb
        rw [hty] at hA2
        simp only [opV, opAlloc] at hA2
        split at hA2
        · rename_i ti hti
          obtain ⟨iinfo, z, hinfo, _, _, hz, hcs, hsz, _⟩ := (hc.ty _ _ hti).info
          refine .inl (Yld.wp (K := fun y w' => y = .pointer (some ⟨w.heap.size, 0, none⟩) ∧ w' = w.alloc (.cells z.cells ty)) ?_ ?_)
          · unfold execOp; rw [hty]
            simp only [Instr.alloc, Sem.run_bind, run_zero hinfo hz, Result.andThen_ok, newVar, newRow, run_newObj, Sem.run_pure]
            exact ⟨rfl, rfl⟩
          · rintro y w' ⟨rfl, rfl⟩
            exact fin _ _ p α (hA.lone h.tsz hin hpi hn hty hti (csOfValues_ok ρ α hcs))
        · simp at hA2

theorem ready_nil {listed : Array Bool} (pl : Pl c call ops nt base t0 s0 t' s') (hs : listed.size = ops.size) (h : Region.ready .any ops listed = []) : ∀ i, i < ops.size → Lb listed i := by
  intro i
  induction i using Nat.strongRecOn with
  | _ i ih =>
    intro hi
    cases hb : listed.getD i false with
    | true => exact hb
    | false =>
      have : i ∈ Region.ready .any ops listed := mem_ready.2 ⟨by
        have hl : i < listed.size := by omega
        simp only [Array.getD_eq_getD_getElem?, Array.getElem?_eq_getElem hl, Option.getD_some] at hb ⊢
        exact hb, _, pl.hop i hi, fun e he hbd => ih e.on (pl.edge i hi e he hbd) (by have := pl.edge i hi e he hbd; omega)⟩
      rw [h] at this
      cases this

theorem Inv.done {α0 : Al} {w0 : World} {d : List Deferred} {listed : Array Bool} (h : Inv pl P ρ α0 w0 d listed a w) (hall : ∀ i, i < ops.size → Lb listed i) : EP P ρ α0 s0 w0 nt d .normal t' s' .normal a w := by
  obtain ⟨p, α, hA, hp⟩ := h.ex
  have hpn : p = ops.size := by
    rcases hp with hp | ⟨hp, _, hn⟩
    · exact hp
    · exact absurd (hall p hp) hn
  subst hpn
  have hR := hA.rel
  have hF := hA.fr
  rw [pl.hSn] at hR hF
  refine ⟨trivial, h.defers, h.tsz, α, hR, hF, fun e z hz => ?_⟩
  by_cases hex : ∃ j, j < ops.size ∧ (pl.R j).o.dst = some e
  · obtain ⟨j, hj, hjd⟩ := hex
    rw [pl.tfinv j e hj hjd] at hz
    cases hz
    exact hA.temps.done j e hj (hall j hj) (by omega) hjd
  · have hno : ∀ k, k < ops.size → (pl.R k).o.dst ≠ some e := fun k hk hkd => hex ⟨k, hk, hkd⟩
    rw [pl.tfin0 e hno] at hz
    exact hA.temps.other e z (fun j hj _ => hno j hj) hz

theorem Inv.wpAny (hc : CfgOK P ρ c) (hL : LensOK ρ) (hcall : CallOK P ρ call) {α0 : Al} {w0 : World} {d : List Deferred} : ∀ (fuel : Nat) (listed : Array Bool) (a : Act) (w : World),
    Inv pl P ρ α0 w0 d listed a w → listed.toList.count false ≤ fuel → Go.wpAny P .any ops (EP P ρ α0 s0 w0 nt d .normal t' s') fuel listed a w
  | 0, listed, a, w, h, hf => by
    have hall : ∀ i, i < ops.size → Lb listed i := by
      intro i hi
      have hl : i < listed.size := by rw [h.size]; exact hi
      cases hb : listed.getD i false with
      | true => exact hb
      | false =>
        have : false ∈ listed.toList := by
          simp only [Array.getD_eq_getD_getElem?, Array.getElem?_eq_getElem hl, Option.getD_some] at hb
          rw [← hb]
          exact Array.getElem_mem_toList hl
        have := List.count_pos_iff.2 this
        omega
    refine ⟨?_, h.done hall⟩
    apply List.eq_nil_iff_forall_not_mem.2
    intro i hi
    obtain ⟨hun, o, ho, _⟩ := mem_ready.1 hi
    have hin : i < ops.size := (Array.getElem?_eq_some_iff.1 ho).1
    have hl : i < listed.size := by rw [h.size]; exact hin
    have := hall i hin
    simp only [Lb, Array.getD_eq_getD_getElem?, Array.getElem?_eq_getElem hl, Option.getD_some] at this hun
    rw [hun] at this; cases this
  | fuel + 1, listed, a, w, h, hf => by
    refine ⟨fun hn => h.done (ready_nil pl h.size hn), fun i hi => ?_⟩
    refine wpOp_mono (fun a' w' h' => Inv.wpAny hc hL hcall fuel _ a' w' h' ?_) (h.step hc hL hcall hi)
    obtain ⟨hun, o, ho, _⟩ := mem_ready.1 hi
    have hin : i < ops.size := (Array.getElem?_eq_some_iff.1 ho).1
    have hl : i < listed.size := by rw [h.size]; exact hin
    have hli : i < listed.toList.length := by simpa using hl
    have hv : listed.toList[i] = false := by
      simp only [Array.getD_eq_getD_getElem?, Array.getElem?_eq_getElem hl, Option.getD_some] at hun
      simpa using hun
    rw [Array.toList_setIfInBounds, List.count_set hli, hv]
    change _ - 1 + 0 ≤ fuel
    omega

/-- A REGION WITH A PLAN -/
theorem Pl.ok (pl : Pl c call ops nt base t0 s0 t' s') (hc : CfgOK P ρ c) (hL : LensOK ρ) (hcall : CallOK P ρ call) {id : Nat} (hR : Rel P ρ α s0 w) (ht : TmR ρ α t0 a.tmps) (hsz : a.tmps.size = nt) :
    (Code.region id ops true).wp P (EP P ρ α s0 w nt a.defers .normal t' s') a w := by
  refine wp_region_any hc.mixed ?_
  have hsame : Rel P ρ α s0 { w with drawn := w.drawn + 1 } := hR.same rfl rfl rfl rfl
  refine Inv.wpAny (pl := pl) hc hL hcall ops.size _ a _ ?_ (by simp [List.count_le_length]) 
  have hno : ∀ k, ¬ Lb (Array.replicate ops.size false) k := by
    intro k hk
    simp only [Lb, Array.getD_eq_getD_getElem?, Array.getElem?_replicate] at hk
    split at hk <;> simp at hk
  have hA : At pl P ρ α w (Lb (Array.replicate ops.size false)) a { w with drawn := w.drawn + 1 } 0 α := by
    refine ⟨by omega, fun k hk => by omega, fun k _ _ _ hk => absurd hk (hno k), by rw [pl.hS0]; exact hsame, by rw [pl.hS0]; exact Fr.same_heap _ _ rfl, ⟨fun j d _ hk => absurd hk (hno j), fun d v _ hv => ht d v hv⟩, fun hk => absurd hk (hno _)⟩
  obtain ⟨p, β, hA2, hp⟩ := At.adv hc _ 0 α rfl hA
  exact ⟨by simp, fun i _ hk => absurd hk (hno i), rfl, hsz, p, β, hA2, hp⟩
end inv
end

end Go.Sx
end
/-
  What an operation takes of the temporaries, and that looking leaves the state as it is.
-/
noncomputable section
namespace Go.Sx
open Go.RowKit (Below)
set_option linter.unusedVariables false
set_option linter.unusedSimpArgs false

section
variable {c : Cfg} {s s' s1 : St} {t t' : Tm} {v : V} {nm : Nat} {call : CallF}

theorem evs_congr : ∀ {l : List Operand}, (∀ x ∈ l, ev t x = ev t' x) → evs t l = evs t' l
  | [], _ => rfl
  | x :: l, h => by simp only [evs]; rw [h x (List.mem_cons_self ..), evs_congr fun y hy => h y (List.mem_cons_of_mem _ hy)]
theorem evAtoms_congr : ∀ {l : List Operand}, (∀ x ∈ l, ev t x = ev t' x) → evAtoms t l = evAtoms t' l
  | [], _ => rfl
  | x :: l, h => by simp only [evAtoms]; rw [h x (List.mem_cons_self ..), evAtoms_congr fun y hy => h y (List.mem_cons_of_mem _ hy)]
theorem evParts_congr : ∀ {l : List (Nat × Operand)}, (∀ p ∈ l, ev t p.2 = ev t' p.2) → evParts t l = evParts t' l
  | [], _ => rfl
  | (i, x) :: l, h => by simp only [evParts]; rw [h (i, x) (List.mem_cons_self ..), evParts_congr fun y hy => h y (List.mem_cons_of_mem _ hy)]
theorem evO_congr {o : Option Operand} (h : ∀ x, o = some x → ev t x = ev t' x) : evO t o = evO t' o := by
  cases o with
  | none => rfl
  | some x => simp only [evO]; rw [h x rfl]

theorem opV_congr {o : Op} (h : ∀ x ∈ o.operands.toList, ev t x = ev t' x) : opV c call t nm s o = opV c call t' nm s o := by
  cases o with
  | build ty ps =>
    have : evParts t ps.toList = evParts t' ps.toList := evParts_congr fun p hp => h p.2 (by simp only [Op.operands, List.toList_toArray]; exact List.mem_map_of_mem hp)
    simp only [opV, opBuild, this]
  | buildSlice ty n ps =>
    have : evParts t ps.toList = evParts t' ps.toList := evParts_congr fun p hp => h p.2 (by simp only [Op.operands, List.toList_toArray]; exact List.mem_map_of_mem hp)
    simp only [opV, opBuildSlice, this]
  | makeFunc fn first caps =>
    have h1 : evAtoms t first.toList = evAtoms t' first.toList := evAtoms_congr fun p hp => h p (by simp [Op.operands] at hp ⊢; exact .inl hp)
    have h2 : evAtoms t caps.toList = evAtoms t' caps.toList := evAtoms_congr fun p hp => h p (by simp [Op.operands] at hp ⊢; exact .inr hp)
    simp only [opV, opFunc, h1, h2]
  | makeMap ty r =>
    cases r with
    | none => rfl
    | some x => simp only [opV, opMap]; rw [h x (by simp [Op.operands])]
  | slice ty x lo hi mx =>
    have h0 := h x (by simp [Op.operands])
    have h1 : evO t lo = evO t' lo := evO_congr fun y hy => h y (by simp [Op.operands, hy])
    have h2 : evO t hi = evO t' hi := evO_congr fun y hy => h y (by simp [Op.operands, hy])
    have h3 : evO t mx = evO t' mx := evO_congr fun y hy => h y (by simp [Op.operands, hy])
    simp only [opV, opSlice, h0, h1, h2, h3]
  | call cl =>
    have h1 : evs t cl.args.toList = evs t' cl.args.toList := evs_congr fun p hp => h p (by simp [Op.operands, Call.operands] at hp ⊢; exact .inr hp)
    simp only [opV, opCall, h1]
    cases hc : cl.callee with
    | value f =>
      have := h f (by simp [Op.operands, Call.operands, hc])
      simp only [this]
    | invoke r name =>
      have := h r (by simp [Op.operands, Call.operands, hc])
      simp only [this]
    | builtin b => rfl
  | unOp op ty x =>
    have := h x (by simp [Op.operands])
    simp only [opV, this]
  | _ =>
    simp [Op.operands] at h
    first
      | rfl
      | simp only [opV, opPick, opBox, opMapPut, opLoad, opStore, opBin, opConv, opIface, opMake, opFieldAddr, opField, opIndexAddr, opIndex, opLookup, opRange, opNext, opExtract, h]

theorem pv_same {x : Option V} (h : pv s x = some (v, s1)) : s1 = s := by
  cases x with
  | none => cases h
  | some y => simp [pv] at h; exact h.2.symm
theorem onB_same {q : V} {x y : R} (hx : x = some (v, s1) → s1 = s) (hy : y = some (v, s1) → s1 = s) (h : onB c q x y = some (v, s1)) : s1 = s := by
  unfold onB at h
  split at h
  · exact hx h
  · exact hy h
  · cases h
/-- what only looks leaves the state as it is -/
theorem pas_same {o : Op} (hp : pasOp o = true) (h : opV c call t nm s o = some (v, s1)) : s1 = s := by
  have some_same : ∀ {a : V}, some (a, s) = some (v, s1) → s1 = s := fun h => by simp at h; exact h.2.symm
  cases o <;> simp only [pasOp] at hp <;> first | (cases hp; done) | skip
  case move x => exact pv_same h
  case assign x => exact pv_same h
  case pick q a b =>
    simp only [opV, opPick] at h
    split at h
    · exact onB_same pv_same pv_same h
    · cases h
  case build ty ps =>
    simp only [opV, opBuild] at h
    split at h
    · split at h
      · unfold buildK at h
        have agg : ∀ {x : Option (List C)}, aggOf s x = some (v, s1) → s1 = s := fun {x} hx => by
          cases x with
          | none => cases hx
          | some l => exact some_same hx
        split at h
        · exact agg h
        · split at h
          · exact agg h
          · cases h
        · cases h
      · cases h
    · cases h
  case load ty a =>
    simp only [opV, opLoad] at h
    split at h
    · exact pv_same h
    · cases h
  case nilCheck x =>
    simp only [opV] at h
    unfold opNil at h
    split at h <;> first | (cases h; done) | exact some_same h
  case binOp op xt x y yt =>
    simp only [opV, opBin] at h
    split at h
    · split at h
      · exact pv_same h
      · cases h
    · cases h
  case unOp op ty x =>
    simp only [opV] at h
    split at h
    · unfold opNot at h
      split at h
      · exact onB_same some_same some_same h
      · cases h
    · cases h
  case convert src dst x =>
    simp only [opV, opConv] at h
    repeat' split at h
    all_goals first | (cases h; done) | exact pv_same h
  case makeInterface xt x =>
    simp only [opV, opIface, iteB_eq] at h
    repeat' split at h
    all_goals first | (cases h; done) | exact some_same h
  case makeFunc fn first caps =>
    simp only [opV, opFunc] at h
    repeat' split at h
    all_goals first | (cases h; done) | exact some_same h
  case slice ty x lo hi mx =>
    simp only [opV, opSlice] at h
    repeat' split at h
    all_goals first | (cases h; done) | exact pv_same h
  case fieldAddr st x f =>
    simp only [opV, opFieldAddr, fieldAt, Bool.cond_eq_ite, force_eq] at h
    repeat' split at h
    all_goals first | (cases h; done) | exact some_same h
  case field xt x f =>
    simp only [opV, opField] at h
    repeat' split at h
    all_goals first | (cases h; done) | exact pv_same h
  case indexAddr ty x ix =>
    simp only [opV, opIndexAddr, sliceElem, arrElem, Bool.cond_eq_ite, iteB_eq, force_eq] at h
    repeat' split at h
    all_goals first | (cases h; done) | exact some_same h
  case index ty x ix =>
    simp only [opV, opIndex, aggElem, strElem, Bool.cond_eq_ite, forceI_eq] at h
    repeat' split at h
    all_goals first | (cases h; done) | exact some_same h | exact pv_same h
  case lookup ty m k ok =>
    simp only [opV, opLookup] at h
    repeat' split at h
    all_goals first | (cases h; done) | exact pv_same h
  case next it isS =>
    simp only [opV, opNext, Bool.cond_eq_ite] at h
    repeat' split at h
    all_goals first | (cases h; done) | exact some_same h
  case extract x i =>
    simp only [opV, opExtract] at h
    repeat' split at h
    all_goals first | (cases h; done) | exact some_same h
  case call cl =>
    simp only [opV, opCall] at h
    split at h
    · rename_i args hargs
      cases hc : cl.callee with
      | value f => rw [hc] at hp; cases hp
      | invoke r name => rw [hc] at hp; cases hp
      | builtin b =>
        rw [hc] at h hp
        simp only at h hp
        have key : ∀ {t0 t1 : TypeId}, callBuiltin c nm s t0 t1 b args = some (v, s1) → s1 = s := fun {t0 t1} hh => by
          unfold callBuiltin at hh
          split at hh <;> first | (cases hp; done) | skip
          all_goals (try (split at hh)) <;> first | (cases hh; done) | exact pv_same hh | skip
          all_goals
            simp only [iteB_eq] at hh
            split at hh
            · exact some_same hh
            · cases hh
        unfold callTyped at h
        split at h
        · exact key h
        · exact key h
        · cases h
    · cases h
end
end Go.Sx
end
/-
  The executor's plan of a region that draws its order.
-/
noncomputable section
namespace Go.Sx
open Go.RowKit (Below)
set_option linter.unusedVariables false
set_option linter.unusedSimpArgs false

section
theorem S.beq_eq' : ∀ {a b : S}, a.beq b = true → a = b
  | .lit a, .lit b, h => by simp only [S.beq, beq_iff_eq] at h; rw [h]
  | .var a, .var b, h => by simp only [S.beq, beq_iff_eq] at h; rw [h]
theorem A.beq_eq : ∀ {a b : A}, a.beq b = true → a = b := by
  intro a b h
  unfold A.beq at h
  split at h
  · simp at h; rw [h]
  · simp at h; rw [h]
  · simp only [Bool.and_eq_true, decide_eq_true_eq] at h
    rw [h.1.1, E.beq_eq h.1.2, E.beq_eq h.2]
  · simp only [Bool.and_eq_true, decide_eq_true_eq] at h
    rw [h.1, E.beq_eq h.2]
  · rw [S.beq_eq' h]
  · simp at h; rw [h]
  · simp only [Bool.and_eq_true, beq_iff_eq] at h
    obtain ⟨⟨h1, h2⟩, h3⟩ := h
    rw [h1, E.beq_eq h2]
    split at h3
    · rw [E.beq_eq h3]
    · rfl
    · cases h3
  · simp at h; rw [h]
  · simp at h; rw [h]
  · simp only [Bool.and_eq_true, beq_iff_eq] at h; rw [h.1, h.2]
  · rfl
  · cases h
theorem beqAs_eq : ∀ {a b : List A}, beqAs a b = true → a = b
  | [], [], _ => rfl
  | a :: as, b :: bs, h => by
    simp only [beqAs, Bool.and_eq_true] at h
    rw [A.beq_eq h.1, beqAs_eq h.2]
theorem C.beq_eq : ∀ {a b : C}, a.beq b = true → a = b
  | .a x, .a y, h => by rw [A.beq_eq (a := x) (b := y) h]
  | .func f x y, .func f' x' y', h => by
    simp only [C.beq, Bool.and_eq_true, decide_eq_true_eq] at h
    rw [h.1.1, beqAs_eq h.1.2, beqAs_eq h.2]
  | .nilFunc, .nilFunc, _ => rfl
  | .iface t x, .iface t' y, h => by
    simp only [C.beq, Bool.and_eq_true, beq_iff_eq] at h
    rw [h.1, A.beq_eq h.2]
  | .nilIface, .nilIface, _ => rfl
theorem beqCs_eq : ∀ {a b : List C}, beqCs a b = true → a = b
  | [], [], _ => rfl
  | a :: as, b :: bs, h => by
    simp only [beqCs, Bool.and_eq_true] at h
    rw [C.beq_eq h.1, beqCs_eq h.2]
theorem T1.beq_eq : ∀ {a b : T1}, a.beq b = true → a = b
  | .sc a, .sc b, h => by rw [C.beq_eq (a := a) (b := b) h]
  | .agg a, .agg b, h => by rw [beqCs_eq (a := a) (b := b) h]
theorem beqTs_eq : ∀ {a b : List T1}, beqTs a b = true → a = b
  | [], [], _ => rfl
  | a :: as, b :: bs, h => by
    simp only [beqTs, Bool.and_eq_true] at h
    rw [T1.beq_eq h.1, beqTs_eq h.2]
theorem V.beq_eq : ∀ {a b : V}, a.beq b = true → a = b
  | .sc a, .sc b, h => by rw [C.beq_eq (a := a) (b := b) h]
  | .agg a, .agg b, h => by rw [beqCs_eq (a := a) (b := b) h]
  | .tup a, .tup b, h => by rw [beqTs_eq (a := a) (b := b) h]
end

section
variable {P : Program} {ρ : Env} {c : Cfg} {α : Al} {s s' : St} {w w' : World} {t t' : Tm} {a : Act} {v : V} {o : Oper} {nm : Nat}

instance : Inhabited DR := ⟨⟨0, default, 0, .leaf, false, default, default⟩⟩

theorem bitB_eq (m i : Nat) : bitB m i = m.testBit i := by
  unfold bitB Nat.testBit
  have h1 : Nat.land (Nat.shiftRight m i) 1 = (m >>> i) % 2 := by
    show (m >>> i) &&& 1 = _
    exact Nat.and_one_is_mod _
  have h2 : 1 &&& (m >>> i) = (m >>> i) % 2 := by rw [Nat.and_comm]; exact Nat.and_one_is_mod _
  rw [h1, h2]
  have : (m >>> i) % 2 = 0 ∨ (m >>> i) % 2 = 1 := by omega
  rcases this with h | h <;> rw [h] <;> rfl

theorem maskOf_spec {ms : List Nat} {i : Nat} : ∀ {es : List Edge} {acc m : Nat}, maskOf ms i es acc = some m →
    (∀ e ∈ es, Region.binds .any e = true → e.on < i) ∧ ∀ j, m.testBit j = true → acc.testBit j = true ∨ ∃ e ∈ es, Region.binds .any e = true ∧ (e.on = j ∨ ∃ x, ms[e.on]? = some x ∧ x.testBit j = true)
  | [], acc, m, h => by
    simp [maskOf] at h; subst h
    exact ⟨fun e he => (by cases he), fun j hj => .inl hj⟩
  | e :: es, acc, m, h => by
    have lift : ∀ {j : Nat}, (∃ e' ∈ es, Region.binds .any e' = true ∧ (e'.on = j ∨ ∃ x, ms[e'.on]? = some x ∧ x.testBit j = true)) →
        ∃ e' ∈ e :: es, Region.binds .any e' = true ∧ (e'.on = j ∨ ∃ x, ms[e'.on]? = some x ∧ x.testBit j = true) := fun ⟨e', he, hh⟩ => ⟨e', List.mem_cons_of_mem _ he, hh⟩
    simp only [maskOf] at h
    split at h
    · rename_i hb
      obtain ⟨h1, h2⟩ := maskOf_spec h
      refine ⟨fun e' he' hb' => ?_, fun j hj => (h2 j hj).imp id lift⟩
      rcases List.mem_cons.1 he' with rfl | he'
      · rw [hb] at hb'; cases hb'
      · exact h1 e' he' hb'
    · rename_i hb
      split at h
      · simp at h
      · rename_i hlt
        have hlt' : e.on < i := Nat.le_of_ble_eq_true hlt
        have hedge : ∀ {m' : Nat} {acc' : Nat}, maskOf ms i es acc' = some m' → ∀ e' ∈ e :: es, Region.binds .any e' = true → e'.on < i := fun hm e' he' hb' => by
          rcases List.mem_cons.1 he' with rfl | he'
          · exact hlt'
          · exact (maskOf_spec hm).1 e' he' hb'
        split at h
        · exact ⟨hedge h, fun j hj => ((maskOf_spec h).2 j hj).imp id lift⟩
        · split at h
          · rename_i x hx
            rw [force_eq] at h
            refine ⟨hedge h, fun j hj => ?_⟩
            rcases (maskOf_spec h).2 j hj with h3 | h3
            · have e1 : Nat.lor (Nat.lor acc (Nat.shiftLeft 1 e.on)) x = acc ||| (1 <<< e.on) ||| x := rfl
              rw [e1, Nat.testBit_or, Nat.testBit_or, Nat.one_shiftLeft, Nat.testBit_two_pow] at h3
              simp only [Bool.or_eq_true, decide_eq_true_eq] at h3
              rcases h3 with (h3 | h3) | h3
              · exact .inl h3
              · exact .inr ⟨e, List.mem_cons_self .., hb, .inl h3⟩
              · rw [nth_eq] at hx
                exact .inr ⟨e, List.mem_cons_self .., hb, .inr ⟨x, hx, h3⟩⟩
            · exact .inr (lift h3)
          · simp at h

theorem masksOf_spec : ∀ {os : List Oper} {i : Nat} {ms out : List Nat}, masksOf os i ms = some out → ms.length = i →
    ∃ tail, out = ms ++ tail ∧ tail.length = os.length ∧ ∀ (k : Nat) (o : Oper) (m : Nat), os[k]? = some o → tail[k]? = some m →
      (∀ e ∈ o.after, Region.binds .any e = true → e.on < i + k) ∧ ∀ j, m.testBit j = true → ∃ e ∈ o.after, Region.binds .any e = true ∧ (e.on = j ∨ ∃ x, out[e.on]? = some x ∧ x.testBit j = true)
  | [], i, ms, out, h, hl => by
    simp [masksOf] at h; subst h
    exact ⟨[], by simp, rfl, fun k o m hk => by simp at hk⟩
  | o :: os, i, ms, out, h, hl => by
    simp only [masksOf] at h
    split at h
    · rename_i m hm
      obtain ⟨tail, h1, h2, h3⟩ := masksOf_spec h (by rw [app_eq]; simp [hl])
      rw [app_eq] at h1
      refine ⟨m :: tail, by rw [h1]; simp, by simp [h2], fun k o' m' hk hk' => ?_⟩
      cases k with
      | zero =>
        simp only [List.getElem?_cons_zero, Option.some.injEq] at hk hk'
        subst hk; subst hk'
        obtain ⟨h4, h5⟩ := maskOf_spec hm
        refine ⟨fun e he hb => h4 e (by simpa using he) hb, fun j hj => ?_⟩
        rcases h5 j hj with h6 | ⟨e, he, hb, h6⟩
        · simp at h6
        · refine ⟨e, by simpa using he, hb, h6.imp id ?_⟩
          rintro ⟨x, hx, hxj⟩
          refine ⟨x, ?_, hxj⟩
          rw [h1, List.append_assoc, List.getElem?_append_left (List.getElem?_eq_some_iff.1 hx).1]
          exact hx
      | succ k =>
        simp only [List.getElem?_cons_succ] at hk hk'
        obtain ⟨h4, h5⟩ := h3 k o' m' hk hk'
        exact ⟨fun e he hb => by have := h4 e he hb; omega, h5⟩
    · simp at h

theorem restrK_eq {β : Type} {t : Tm} : ∀ {ds : List Nat} {u : Tm}, ∃ x, (∀ k : Tm → β, restrK t ds u k = k x) ∧ ∀ d, x.get d = if d ∈ ds ∧ (t.get d).isSome then t.get d else u.get d
  | [], u => ⟨u, fun k => rfl, fun d => by simp⟩
  | e :: ds, u => by
    cases he : t.get e with
    | none =>
      obtain ⟨x, h1, h2⟩ := restrK_eq (β := β) (t := t) (ds := ds) (u := u)
      refine ⟨x, fun k => by rw [restrK, he]; exact h1 k, fun d => ?_⟩
      rw [h2]
      by_cases hd : d = e
      · subst hd; simp [he]
      · simp [hd]
    | some v =>
      obtain ⟨x, h1, h2⟩ := restrK_eq (β := β) (t := t) (ds := ds) (u := u.put e v)
      refine ⟨x, fun k => by rw [restrK, he]; simp only [PT.putK_k]; exact h1 k, fun d => ?_⟩
      rw [h2, PT.get_put]
      by_cases hd : d ∈ ds ∧ (t.get d).isSome
      · simp [hd]
      · by_cases hde : d = e
        · subst hde; simp [he]
        · simp [hd, hde]

def putO (t : Tm) (d : Option Nat) (v : V) : Tm := match d with
  | some d => t.put d v
  | none => t
def tmAt : List DR → Tm → Nat → Tm
  | [], t, _ => t
  | _ :: _, t, 0 => t
  | r :: l, t, j + 1 => tmAt l (putO t r.o.dst r.v) j
def stAt (recs : List DR) (s' : St) (j : Nat) : St := match recs[j]? with
  | some r => r.s
  | none => s'

theorem putO_ne {t : Tm} {e : Option Nat} {v : V} {d : Nat} (h : e ≠ some d) : (putO t e v).get d = t.get d := by
  cases e with
  | none => rfl
  | some e =>
    have : d ≠ e := fun hh => h (by rw [hh])
    simp only [putO, PT.get_put, if_neg this]
theorem putO_self {t : Tm} {v : V} {d : Nat} : (putO t (some d) v).get d = some v := by
  simp only [putO, PT.get_put, if_true]

theorem tmAt_other {d : Nat} : ∀ {recs : List DR} {t : Tm} {j : Nat}, (∀ (k : Nat) r, k < j → recs[k]? = some r → r.o.dst ≠ some d) → (tmAt recs t j).get d = t.get d
  | [], t, j, h => rfl
  | r :: l, t, 0, h => rfl
  | r :: l, t, j + 1, h => by
    rw [tmAt, tmAt_other fun k r' hk hr => h (k + 1) r' (by omega) (by simpa using hr), putO_ne (h 0 r (by omega) rfl)]
theorem tmAt_get {d : Nat} : ∀ {recs : List DR} {t : Tm} {j k : Nat} {r : DR}, k < j → recs[k]? = some r → r.o.dst = some d → (∀ (k' : Nat) r', recs[k']? = some r' → r'.o.dst = some d → k' = k) → (tmAt recs t j).get d = some r.v
  | [], t, j, k, r, hk, hr, hd, hu => by simp at hr
  | r0 :: l, t, 0, k, r, hk, hr, hd, hu => by omega
  | r0 :: l, t, j + 1, 0, r, hk, hr, hd, hu => by
    simp at hr; subst hr
    rw [tmAt, tmAt_other (recs := l) fun k' r' _ hr' hd' => by have := hu (k' + 1) r' (by simpa using hr') hd'; omega, hd, putO_self]
  | r0 :: l, t, j + 1, k + 1, r, hk, hr, hd, hu => by
    rw [tmAt]
    exact tmAt_get (recs := l) (k := k) (by omega) (by simpa using hr) hd fun k' r' hr' hd' => by have := hu (k' + 1) r' (by simpa using hr') hd'; omega

/-- what a record says -/
structure RecOK (c : Cfg) (call : CallF) (nt base : Nat) (all : List Oper) (t : Tm) (recs : List DR) (s' : St) (i j : Nat) (r : DR) : Prop where
  idx : r.i = i + j
  dlt : ∀ d, r.o.dst = some d → d < nt
  want : wantedV c all r.t r.o.guard = some r.b
  out : ∀ d, d ∉ looks all r.o → r.t.get d = none
  inn : ∀ d, d ∈ looks all r.o → r.t.get d = (tmAt recs t j).get d
  unw : r.b = false → r.v = undefV ∧ stAt recs s' (j + 1) = r.s
  pas : r.act = false → stAt recs s' (j + 1) = r.s
  any : r.b = true → ∃ z, opV c call r.t (base + r.i) r.s r.o.op = some (r.v, z)
  act : r.act = true → r.b = true → opV c call r.t (base + r.i) r.s r.o.op = some (r.v, stAt recs s' (j + 1))

theorem RecOK.cons {call : CallF} {nt base : Nat} {all : List Oper} {recs : List DR} {i j : Nat} {r r0 : DR} (h : RecOK c call nt base all (putO t r0.o.dst r0.v) recs s' (i + 1) j r) : RecOK c call nt base all t (r0 :: recs) s' i (j + 1) r :=
  ⟨by rw [h.idx]; omega, h.dlt, h.want, h.out, h.inn, h.unw, h.pas, h.any, h.act⟩

theorem drawGo_spec {call : CallF} {nt base : Nat} {all : List Oper} : ∀ {os : List Oper} {ms : List Nat} {i : Nat} {t : Tm} {s : St} {recs : List DR}, drawGo c call nt base all os ms i t s = some (recs, t', s') →
    recs.length = os.length ∧ stAt recs s' 0 = s ∧ t' = tmAt recs t recs.length ∧ ∀ (j : Nat) r, recs[j]? = some r → os[j]? = some r.o ∧ ms[j]? = some r.m ∧ RecOK c call nt base all t recs s' i j r
  | [], ms, i, t, s, recs, h => by
    simp [drawGo] at h
    obtain ⟨rfl, rfl, rfl⟩ := h
    exact ⟨rfl, rfl, rfl, fun j r hr => by simp at hr⟩
  | o :: os, ms, i, t, s, recs, h => by
    cases ms with
    | nil => simp [drawGo] at h
    | cons m ms =>
      simp only [drawGo] at h
      obtain ⟨x, hx, hget⟩ := restrK_eq (β := Option (List DR × Tm × St)) (t := t) (ds := looks all o) (u := .leaf)
      rw [hx] at h
      have hout : ∀ d, d ∉ looks all o → x.get d = none := fun d hd => by rw [hget, if_neg (fun hh => hd hh.1), PT.get_leaf]
      have hinn : ∀ d, d ∈ looks all o → x.get d = t.get d := fun d hd => by
        rw [hget]
        cases hs : (t.get d).isSome with
        | true => rw [if_pos ⟨hd, rfl⟩]
        | false =>
          rw [if_neg (fun hh => by cases hh.2), PT.get_leaf]
          cases ht : t.get d with
          | none => rfl
          | some v => rw [ht] at hs; cases hs
      have putE : ∀ {β : Type} {d : Option Nat} {v : V} {k : Tm → Option β} {r : β}, putV nt t d v k = some r → (∀ e, d = some e → e < nt) ∧ k (putO t d v) = some r := by
        intro β d v k r hp
        rw [putV_eq] at hp
        unfold putVImpl at hp
        cases d with
        | none => exact ⟨fun e he => (by cases he), hp⟩
        | some d =>
          simp only [iteB_eq, Nat.ble_eq] at hp
          split at hp
          · rename_i hlt
            rw [PT.putK_k] at hp
            exact ⟨fun e he => (by cases he; omega), hp⟩
          · simp at hp
      have fin : ∀ (b : Bool) (v : V) (s1 : St) (l : List DR), wantedV c all x o.guard = some b → (∀ e, o.dst = some e → e < nt) → drawGo c call nt base all os ms (i + 1) (putO t o.dst v) s1 = some (l, t', s') →
          (b = false → v = undefV ∧ s1 = s) → ((!(pasOp o.op)) = false → s1 = s) → ((!(pasOp o.op)) = true → b = true → opV c call x (base + i) s o.op = some (v, s1)) → (b = true → ∃ z, opV c call x (base + i) s o.op = some (v, z)) → recs = ⟨i, o, m, x, b, v, s⟩ :: l →
          recs.length = (o :: os).length ∧ stAt recs s' 0 = s ∧ t' = tmAt recs t recs.length ∧ ∀ (j : Nat) r, recs[j]? = some r → (o :: os)[j]? = some r.o ∧ (m :: ms)[j]? = some r.m ∧ RecOK c call nt base all t recs s' i j r := by
        intro b v s1 l hw hd hgo hunw hpas hact hany hrecs
        obtain ⟨h1, h2, h3, h4⟩ := drawGo_spec hgo
        subst hrecs
        have hs1 : stAt ((⟨i, o, m, x, b, v, s⟩ : DR) :: l) s' (0 + 1) = s1 := h2
        refine ⟨by simp [h1], rfl, h3, fun j r hr => ?_⟩
        cases j with
        | zero =>
          simp at hr; subst hr
          exact ⟨rfl, rfl, ⟨rfl, hd, hw, hout, hinn, fun hb => ⟨(hunw hb).1, by rw [hs1]; exact (hunw hb).2⟩, fun ha => by rw [hs1]; exact hpas ha, hany, fun ha hb => by rw [hs1]; exact hact ha hb⟩⟩
        | succ j =>
          simp at hr
          obtain ⟨h5, h6, h7⟩ := h4 j r hr
          exact ⟨h5, h6, h7.cons (r0 := ⟨i, o, m, x, b, v, s⟩)⟩
      split at h
      · simp at h
      · rename_i hw
        obtain ⟨hd, h⟩ := putE h
        rw [force_eq] at h
        split at h
        · rename_i l t1 s1 hgo
          simp at h
          obtain ⟨hr, rfl, rfl⟩ := h
          exact fin false undefV s l hw hd hgo (fun _ => ⟨rfl, rfl⟩) (fun _ => rfl) (fun _ hb => by cases hb) (fun hb => by cases hb) hr.symm
        · simp at h
      · rename_i hw
        rw [force_eq] at h
        split at h
        · simp at h
        · rename_i v s1 hop
          obtain ⟨hd, h⟩ := putE h
          rw [force_eq] at h
          split at h
          · rename_i l t1 s2 hgo
            simp at h
            obtain ⟨hr, rfl, rfl⟩ := h
            refine fin true v _ l hw hd hgo (fun hb => by cases hb) (fun hp => ?_) (fun hp _ => ?_) (fun _ => ⟨_, hop⟩) hr.symm
            · have : pasOp o.op = true := by simpa using hp
              rw [this]
            · have : pasOp o.op = false := by simpa using hp
              rw [this]; exact hop
          · simp at h

theorem actBits_spec : ∀ {recs : List DR} {k : Nat}, (actBits recs).testBit k = true ↔ ∃ r ∈ recs, r.act = true ∧ r.i = k
  | [], k => by simp [actBits]
  | r :: l, k => by
    simp only [actBits]
    split
    · rename_i h
      have e1 : Nat.lor (actBits l) (Nat.shiftLeft 1 r.i) = actBits l ||| (1 <<< r.i) := rfl
      rw [e1, Nat.testBit_or, Nat.one_shiftLeft, Nat.testBit_two_pow, Bool.or_eq_true, actBits_spec, decide_eq_true_eq]
      constructor
      · rintro (⟨r', h1, h2⟩ | h1)
        · exact ⟨r', List.mem_cons_of_mem _ h1, h2⟩
        · exact ⟨r, List.mem_cons_self .., h, h1⟩
      · rintro ⟨r', h1, h2, h3⟩
        rcases List.mem_cons.1 h1 with rfl | h1
        · exact .inr h3
        · exact .inl ⟨r', h1, h2, h3⟩
    · rename_i h
      rw [actBits_spec]
      constructor
      · rintro ⟨r', h1, h2⟩
        exact ⟨r', List.mem_cons_of_mem _ h1, h2⟩
      · rintro ⟨r', h1, h2, h3⟩
        rcases List.mem_cons.1 h1 with rfl | h1
        · rw [h] at h2; cases h2
        · exact ⟨r', h1, h2, h3⟩
theorem below_spec {n i k : Nat} : (below n i).testBit k = true ↔ n.testBit k = true ∧ k < i := by
  have e1 : below n i = n &&& (2 ^ i - 1) := rfl
  simp only [e1, Nat.testBit_and, Nat.testBit_two_pow_sub_one, Bool.and_eq_true, decide_eq_true_eq]
theorem subB_spec {x y : Nat} : subB x y = true ↔ ∀ k, x.testBit k = true → y.testBit k = true := by
  have e1 : subB x y = Nat.beq (x &&& y) x := rfl
  rw [e1, Nat.beq_eq]
  constructor
  · intro h k hk
    have : (x &&& y).testBit k = true := by rw [h]; exact hk
    rw [Nat.testBit_and, Bool.and_eq_true] at this
    exact this.2
  · intro h
    apply Nat.eq_of_testBit_eq
    intro k
    rw [Nat.testBit_and]
    cases hx : x.testBit k with
    | false => rfl
    | true => rw [h k hx]; rfl
theorem wrOf_spec : ∀ {l : List DR} {w w' : PT (Nat × Nat)}, wrOf l w = some w' → (∀ d x, w.get d = some x → w'.get d = some x) ∧ ∀ r ∈ l, ∀ d, r.o.dst = some d → w'.get d = some (r.i, r.m)
  | [], w, w', h => by
    simp [wrOf] at h; subst h
    exact ⟨fun _ _ h => h, fun r hr => by cases hr⟩
  | r :: l, w, w', h => by
    simp only [wrOf] at h
    split at h
    · rename_i hd
      obtain ⟨h1, h2⟩ := wrOf_spec h
      refine ⟨h1, fun r' hr' d hd' => ?_⟩
      rcases List.mem_cons.1 hr' with rfl | hr'
      · rw [hd] at hd'; cases hd'
      · exact h2 r' hr' d hd'
    · rename_i d hd
      split at h
      · cases h
      · rename_i hget
        rw [PT.putK_k] at h
        obtain ⟨h1, h2⟩ := wrOf_spec h
        refine ⟨fun d' x hx => h1 d' x ?_, fun r' hr' d' hd' => ?_⟩
        · rw [PT.get_put]
          split
          · rename_i e; subst e; rw [hget] at hx; cases hx
          · exact hx
        · rcases List.mem_cons.1 hr' with rfl | hr'
          · rw [hd] at hd'
            cases hd'
            exact h1 d _ (by rw [PT.get_put, if_pos rfl])
          · exact h2 r' hr' d' hd'
theorem readOK_spec {w : PT (Nat × Nat)} {r : DR} : ∀ {ds : List Nat}, readOK w r ds = true → ∀ d ∈ ds, ∀ j m, w.get d = some (j, m) → j = r.i ∨ r.m.testBit j = true ∨ m.testBit r.i = true
  | [], _, d, hd => by cases hd
  | e :: ds, h, d, hd => by
    simp only [readOK, Bool.and_eq_true] at h
    rcases List.mem_cons.1 hd with rfl | hd
    · intro j m hjm
      have h1 := h.1
      rw [hjm] at h1
      simp only [Bool.or_eq_true, Nat.beq_eq, bitB_eq] at h1
      rcases h1 with (h1 | h1) | h1
      · exact .inl h1
      · exact .inr (.inl h1)
      · exact .inr (.inr h1)
    · exact readOK_spec h.2 d hd
theorem accM_spec {p k : Nat} : ∀ {l : List DR}, (accM l p).testBit k = true → ∃ r ∈ l, r.act = true ∧ r.i < p ∧ r.m.testBit k = true
  | [], h => by simp [accM] at h
  | r :: l, h => by
    simp only [accM] at h
    split at h
    · rename_i hc
      have e1 : Nat.lor (accM l p) r.m = accM l p ||| r.m := rfl
      rw [e1, Nat.testBit_or, Bool.or_eq_true] at h
      simp only [Bool.and_eq_true, Nat.ble_eq] at hc
      rcases h with h | h
      · obtain ⟨r', h1, h2⟩ := accM_spec h
        exact ⟨r', List.mem_cons_of_mem _ h1, h2⟩
      · exact ⟨r, List.mem_cons_self .., hc.1, hc.2, h⟩
    · obtain ⟨r', h1, h2⟩ := accM_spec h
      exact ⟨r', List.mem_cons_of_mem _ h1, h2⟩
theorem forceL_eq' {α β : Type} (l : List α) (k : List α → β) : forceL l k = k l := forceL_eq l k
/-- what does not look at memory -/
theorem pure_any {call : CallF} {o : Op} {z : St} (hp : pureOp o = true) (h : opV c call t nm s o = some (v, z)) (s2 : St) : opV c call t nm s2 o = some (v, s2) := by
  have hpv : ∀ {x : Option V} {z : St}, pv s x = some (v, z) → pv s2 x = some (v, s2) := by
    intro x z hx
    cases x with
    | none => cases hx
    | some y => simp [pv] at hx ⊢; exact hx.1
  have honB : ∀ {q : V} {x y x' y' : R} {z : St}, (∀ z, x = some (v, z) → x' = some (v, s2)) → (∀ z, y = some (v, z) → y' = some (v, s2)) → onB c q x y = some (v, z) → onB c q x' y' = some (v, s2) := by
    intro q x y x' y' z h1 h2 h3
    unfold onB at *
    split at h3
    · exact h1 _ h3
    · exact h2 _ h3
    · cases h3
  cases o <;> simp only [pureOp] at hp <;> first | (cases hp; done) | skip
  case move x => simp only [opV] at h ⊢; exact hpv h
  case assign x => simp only [opV] at h ⊢; exact hpv h
  case pick q a b =>
    simp only [opV, opPick] at h ⊢
    split at h
    · exact honB (fun _ => hpv) (fun _ => hpv) h
    · cases h
  case nilCheck x =>
    simp only [opV] at h ⊢
    unfold opNil at *
    split at h <;> first | (cases h; done) | skip
    rename_i v0 h1 h2 h3 h4 h5 h6
    simp only [Option.some.injEq, Prod.mk.injEq] at h
    obtain ⟨rfl, _⟩ := h
    rfl
  case binOp op xt x y yt =>
    simp only [opV, opBin] at h ⊢
    split at h
    · split at h
      · exact hpv h
      · cases h
    · cases h
  case unOp op ty x =>
    simp only [opV] at h ⊢
    split at h
    · simp only [opNot] at h ⊢
      split at h
      · exact honB (fun _ hh => by simp at hh ⊢; exact hh.1) (fun _ hh => by simp at hh ⊢; exact hh.1) h
      · cases h
    · cases h
  case fieldAddr st x f =>
    simp only [opV, opFieldAddr] at h ⊢
    split at h
    · unfold fieldAt at *
      split at h
      · simp only [Bool.cond_eq_ite] at h ⊢
        split at h
        · cases h
        · rename_i hz
          rw [if_neg hz]
          simp only [force_eq, Option.some.injEq, Prod.mk.injEq] at h ⊢
          exact ⟨h.1, trivial⟩
      · cases h
    · cases h
  case field xt x f =>
    simp only [opV, opField] at h ⊢
    split at h
    · split at h
      · exact hpv h
      · cases h
    · cases h
  case extract x i =>
    simp only [opV, opExtract] at h ⊢
    split at h
    · split at h
      · simp only [Option.some.injEq, Prod.mk.injEq] at h ⊢
        exact ⟨h.1, trivial⟩
      · cases h
    · cases h

/-- the plan of what was drawn -/
theorem plan_core {call : CallF} {nt : Nat} {ops : Array Oper} {ms : List Nat} {recs : List DR} {s1 : St} {t1 : Tm} {wr : PT (Nat × Nat)} (hms : masksOf ops.toList 0 [] = some ms)
    (hgo : drawGo c call nt s.ctr ops.toList ops.toList ms 0 t ⟨s.mem, s.ctr + len ops.toList⟩ = some (recs, t1, s1)) (hwr0 : wrOf recs .leaf = some wr)
    (hall : ∀ r ∈ recs, noSel r.o.op = true ∧ readOK wr r (looks ops.toList r.o) = true ∧ chainOK (actBits recs) (findFree (actBits recs) recs (len ops.toList)) r = true ∧ freeOK (actBits recs) (findFree (actBits recs) recs (len ops.toList)) r = true)
    (hpas : ∀ R : Nat → DR, (∀ i, i < ops.size → recs[i]? = some (R i)) → (∀ i, i < ops.size → (R i).i = i) → (∀ i, i < ops.size → R i ∈ recs) →
      (∀ i, i < ops.size → ops.toList[i]? = some (R i).o ∧ ms[i]? = some (R i).m ∧ RecOK c call nt s.ctr ops.toList t recs s1 0 i (R i)) →
      (∀ k, (actBits recs).testBit k = true ↔ k < ops.size ∧ (R k).act = true) → (∀ i, i < ops.size → stAt recs s1 i = (R i).s) →
      ∀ i p, i < ops.size → (R i).act = false → (R i).b = true → pureOp (R i).o.op = false → p ≤ ops.size → (p = ops.size ∨ (R p).act = true) →
      (∀ k, k < ops.size → p ≤ k → (R k).act = true → (R i).m.testBit k = false) → (∀ k, k < p → (R k).act = true → (R k).m.testBit i = false) →
      ∃ z, opV c call (R i).t (s.ctr + i) (stAt recs s1 p) (R i).o.op = some ((R i).v, z)) :
    Nonempty (Pl c call ops nt s.ctr t ⟨s.mem, s.ctr + len ops.toList⟩ t1 s1) := by
  obtain ⟨tail, hms1, hms2, hms3⟩ := masksOf_spec hms rfl
  simp only [List.nil_append] at hms1
  subst hms1
  obtain ⟨hlen, hst0, htm, hrec⟩ := drawGo_spec hgo
  have hwr := (wrOf_spec hwr0).2
  have hn : recs.length = ops.size := by simpa using hlen
  let R : Nat → DR := fun i => (recs[i]?).getD default
  have hR : ∀ i, i < ops.size → recs[i]? = some (R i) := fun i hi => by
    have : i < recs.length := by omega
    simp [R, this]
  have hmem : ∀ i, i < ops.size → R i ∈ recs := fun i hi => List.mem_of_getElem? (hR i hi)
  have hrc := fun i hi => hrec i (R i) (hR i hi)
  have hidx : ∀ i, i < ops.size → (R i).i = i := fun i hi => by rw [(hrc i hi).2.2.idx]; omega
  have hmr : ∀ r ∈ recs, ∃ k, k < ops.size ∧ r = R k := fun r hr => by
    obtain ⟨k, hk⟩ := List.getElem?_of_mem hr
    have hkn : k < ops.size := by rw [← hn]; exact (List.getElem?_eq_some_iff.1 hk).1
    exact ⟨k, hkn, by rw [hR k hkn] at hk; simpa using hk.symm⟩
  have hact : ∀ k, (actBits recs).testBit k = true ↔ k < ops.size ∧ (R k).act = true := fun k => by
    rw [actBits_spec]
    constructor
    · rintro ⟨r, hr, h1, h2⟩
      obtain ⟨k', hk', rfl⟩ := hmr r hr
      rw [hidx k' hk'] at h2
      subst h2
      exact ⟨hk', h1⟩
    · rintro ⟨h1, h2⟩
      exact ⟨R k, hmem k h1, h2, hidx k h1⟩
  have hdst : ∀ i j d, i < ops.size → j < ops.size → (R i).o.dst = some d → (R j).o.dst = some d → i = j := fun i j d hi hj hdi hdj => by
    have h1 := hwr _ (hmem i hi) d hdi
    have h2 := hwr _ (hmem j hj) d hdj
    rw [h1, hidx i hi, hidx j hj] at h2
    simp only [Option.some.injEq, Prod.mk.injEq] at h2
    exact h2.1
  have hS : ∀ i, i < ops.size → stAt recs s1 i = (R i).s := fun i hi => by simp only [stAt, hR i hi]
  have uniq : ∀ k d, k < ops.size → (R k).o.dst = some d → ∀ k' r', recs[k']? = some r' → r'.o.dst = some d → k' = k := fun k d hk hkd k' r' hr' hd' => by
    have hk' : k' < ops.size := by rw [← hn]; exact (List.getElem?_eq_some_iff.1 hr').1
    have : r' = R k' := by rw [hR k' hk'] at hr'; simpa using hr'.symm
    subst this
    exact hdst k' k d hk' hk hd' hkd
  refine ⟨⟨R, stAt recs s1, findFree (actBits recs) recs (len ops.toList), ?_, ?_, ?_, hdst, ?_, ?_, ?_, ?_, ?_, ?_, ?_, ?_, hst0, ?_, ?_, ?_, ?_, ?_, ?_, ?_, ?_⟩⟩
  · intro i hi
    have := (hrc i hi).1
    simpa using this
  · intro i hi e he hb
    obtain ⟨h1, h2, _⟩ := hrc i hi
    have := (hms3 i _ _ h1 h2).1 e he hb
    omega
  · intro i hi j hj
    obtain ⟨h1, h2, _⟩ := hrc i hi
    obtain ⟨h3, h4⟩ := hms3 i _ _ h1 h2
    obtain ⟨e, he, hb, h5⟩ := h4 j hj
    refine ⟨e, he, hb, h5.imp id ?_⟩
    rintro ⟨y, hy, hyj⟩
    have hei : e.on < ops.size := by have := h3 e he hb; omega
    have := (hrc e.on hei).2.1
    rw [this] at hy
    simp only [Option.some.injEq] at hy
    rw [hy]; exact hyj
  · exact fun i d hi hd => (hrc i hi).2.2.dlt d hd
  · intro i j d hi hj hd hjd
    have h1 := (hall _ (hmem i hi)).2.1
    have h2 := readOK_spec h1 d hd _ _ (hwr _ (hmem j hj) d hjd)
    rw [hidx i hi, hidx j hj] at h2
    exact h2
  · intro i hi cs b hop
    have h1 := (hall _ (hmem i hi)).1
    rw [hop] at h1
    simp [noSel] at h1
  · exact fun i d hi hd => (hrc i hi).2.2.out d hd
  · intro i j d hi hj hd hjd
    rw [(hrc i hi).2.2.inn d hd]
    exact tmAt_get hj (hR j (by omega)) hjd (uniq j d (by omega) hjd)
  · intro i d hi hd hno
    rw [(hrc i hi).2.2.inn d hd]
    refine tmAt_other fun k r hk hr => ?_
    have : r = R k := by rw [hR k (by omega)] at hr; simpa using hr.symm
    subst this
    exact hno k hk
  · exact fun i hi => (hrc i hi).2.2.want
  · intro i hi hb
    obtain ⟨h1, h2⟩ := (hrc i hi).2.2.unw hb
    exact ⟨h1, by rw [h2, hS i hi]⟩
  · simp only [stAt, List.getElem?_eq_none (Nat.le_of_eq hn)]
  · intro i hi ha
    rw [(hrc i hi).2.2.pas ha, hS i hi]
  · intro i hi ha hb
    have := (hrc i hi).2.2.act ha hb
    rw [hidx i hi] at this
    rw [hS i hi]; exact this
  · intro i p hi ha hb hp hpa h1 h2
    cases hpu : pureOp (R i).o.op with
    | true =>
      obtain ⟨z, hz⟩ := (hrc i hi).2.2.any hb
      rw [hidx i hi] at hz
      exact ⟨_, pure_any hpu hz _⟩
    | false => exact hpas R hR hidx hmem hrc hact hS i p hi ha hb hpu hp hpa h1 h2
  · intro k i hki hi hak hai
    have h1 := (hall _ (hmem i hi)).2.2.1
    unfold chainOK at h1
    simp only [hai, Bool.not_true, Bool.false_or, Bool.or_eq_true, hidx i hi, Nat.beq_eq] at h1
    rcases h1 with h1 | h1
    · exact .inl (subB_spec.1 h1 k (below_spec.2 ⟨(hact k).2 ⟨by omega, hak⟩, hki⟩))
    · exact .inr h1
  · intro hf
    have h1 := (hall _ (hmem _ hf)).2.2.2
    unfold freeOK at h1
    simp only [hidx _ hf, Nat.beq_refl] at h1
    rw [Bool.and_eq_true] at h1
    obtain ⟨ty, hty⟩ : ∃ ty, (R (findFree (actBits recs) recs (len ops.toList))).o.op = .alloc ty := by
      have := h1.1
      unfold isAlloc at this
      split at this
      · exact ⟨_, by assumption⟩
      · cases this
    refine ⟨by unfold DR.act; rw [hty]; rfl, h1.2, ⟨ty, hty⟩, ?_⟩
    intro i hi hne hm k hk hka
    have h2 := (hall _ (hmem i hi)).2.2.2
    unfold freeOK at h2
    have : Nat.beq (R i).i (findFree (actBits recs) recs (len ops.toList)) = false := by
      cases hb : Nat.beq (R i).i (findFree (actBits recs) recs (len ops.toList)) with
      | false => rfl
      | true => rw [Nat.beq_eq, hidx i hi] at hb; exact absurd hb hne
    rw [this] at h2
    simp only [bitB_eq, hm, Bool.not_true, Bool.false_or] at h2
    exact subB_spec.1 h2 k (below_spec.2 ⟨(hact k).2 ⟨by omega, hka⟩, hk⟩)
  · intro j d hj hd
    rw [htm, hn]
    exact tmAt_get hj (hR j hj) hd (uniq j d hj hd)
  · intro d hno
    rw [htm, hn]
    refine tmAt_other fun k r hk hr => ?_
    have : r = R k := by rw [hR k hk] at hr; simpa using hr.symm
    subst this
    exact hno k hk

theorem ev_agree {x t : Tm} {o : Oper} {all : List Oper} (h : ∀ d, d ∈ looks all o → x.get d = t.get d) : ∀ y ∈ o.op.operands.toList, ev x y = ev t y := by
  intro y hy
  cases y with
  | tmp d =>
    simp only [ev]
    refine h d ?_
    unfold looks
    rw [app_eq]
    exact List.mem_append_left _ (tmpsL_mem hy)
  | _ => rfl
theorem wanted_agree {x t : Tm} {o : Oper} {all : List Oper} (h : ∀ d, d ∈ looks all o → x.get d = t.get d) : wantedV c all x o.guard = wantedV c all t o.guard := by
  cases hg : o.guard with
  | none => rfl
  | some gw =>
    obtain ⟨g, want⟩ := gw
    simp only [wantedV_eq, wantedVImpl, nth_eq]
    cases hx : all[g]? with
    | none => rfl
    | some y =>
      simp only
      cases hd : y.dst with
      | none => rfl
      | some d =>
        simp only
        rw [h d (by unfold looks; rw [app_eq]; exact List.mem_append_right _ (by rw [hg]; simp [guardL, hx, hd]))]
theorem putV_some {β : Type} {nt : Nat} {t : Tm} {d : Option Nat} {v : V} {k : Tm → Option β} {r : β} (h : putV nt t d v k = some r) : (∀ {γ : Type} (k' : Tm → Option γ), putV nt t d v k' = k' (putO t d v)) ∧ k (putO t d v) = some r := by
  cases d with
  | none => exact ⟨fun _ => rfl, h⟩
  | some d =>
    simp only [putV_eq, putVImpl, iteB_eq, Nat.ble_eq] at h ⊢
    split at h
    · rename_i hlt
      rw [PT.putK_k] at h
      exact ⟨fun k' => by rw [if_pos hlt, PT.putK_k]; rfl, h⟩
    · cases h

/-- a plain run, drawn -/
theorem draw_of_run {call : CallF} {nt base : Nat} {all : List Oper} : ∀ {os : List Oper} {ms : List Nat} {i : Nat} {t : Tm} {s : St} {t' : Tm} {s' : St}, ms.length = os.length → runOps c call nt all os (base + i) t s = some (t', s') →
    ∃ recs, drawGo c call nt base all os ms i t s = some (recs, t', s')
  | [], ms, i, t, s, t', s', hl, h => by
    have : some (t, s) = some (t', s') := h
    simp at this
    obtain ⟨rfl, rfl⟩ := this
    exact ⟨[], rfl⟩
  | o :: os, [], i, t, s, t', s', hl, h => by simp at hl
  | o :: os, m :: ms, i, t, s, t', s', hl, h => by
    obtain ⟨x, hx, hget⟩ := restrK_eq (β := Option (List DR × Tm × St)) (t := t) (ds := looks all o) (u := .leaf)
    have hinn : ∀ d, d ∈ looks all o → x.get d = t.get d := fun d hd => by
      rw [hget]
      cases hs : (t.get d).isSome with
      | true => rw [if_pos ⟨hd, rfl⟩]
      | false =>
        rw [if_neg (fun hh => by cases hh.2), PT.get_leaf]
        cases ht : t.get d with
        | none => rfl
        | some v => rw [ht] at hs; cases hs
    have h' : step1 c call nt all o (runOps c call nt all os) (base + i) t s = some (t', s') := h
    rw [step1_eq] at h'
    unfold step1Impl at h'
    simp only [drawGo]
    rw [hx, wanted_agree hinn]
    cases hw : wantedV c all t o.guard with
    | none => rw [hw] at h'; cases h'
    | some b =>
      rw [hw] at h'
      cases b with
      | false =>
        simp only [force_eq] at h' ⊢
        obtain ⟨h1, h2⟩ := putV_some h'
        obtain ⟨l, hl'⟩ := draw_of_run (i := i + 1) (ms := ms) (by simpa using hl) h2
        rw [h1]
        exact ⟨_, by rw [hl']⟩
      | true =>
        simp only [force_eq] at h' ⊢
        rw [opV_congr (ev_agree hinn)]
        cases hop : opV c call t (base + i) s o.op with
        | none => rw [hop] at h'; cases h'
        | some r =>
          obtain ⟨v, s1⟩ := r
          rw [hop] at h'
          simp only at h' ⊢
          obtain ⟨h1, h2⟩ := putV_some h'
          obtain ⟨l, hl'⟩ := draw_of_run (i := i + 1) (ms := ms) (by simpa using hl) h2
          rw [h1]
          cases hp : pasOp o.op with
          | false => exact ⟨_, by simp only [hl']; rfl⟩
          | true =>
            rw [pas_same hp hop] at hl'
            exact ⟨_, by simp only [hl']; rfl⟩

/-! the fixed part of what was drawn -/
def sk (r : DR) : DR := skel r.i r.o r.m
theorem skels_get : ∀ {os : List Oper} {ms : List Nat} {i j : Nat} {o : Oper} {m : Nat}, os[j]? = some o → ms[j]? = some m → (skels os ms i)[j]? = some (skel (i + j) o m)
  | [], ms, i, j, o, m, h, _ => by simp at h
  | o0 :: os, [], i, j, o, m, _, h => by simp at h
  | o0 :: os, m0 :: ms, i, 0, o, m, h1, h2 => by
    simp at h1 h2; subst h1; subst h2; rfl
  | o0 :: os, m0 :: ms, i, j + 1, o, m, h1, h2 => by
    simp at h1 h2
    have := skels_get (i := i + 1) h1 h2
    rw [Nat.add_right_comm, Nat.add_assoc] at this
    simpa [skels] using this
theorem skels_len : ∀ {os : List Oper} {ms : List Nat} {i : Nat}, ms.length = os.length → (skels os ms i).length = os.length
  | [], ms, i, h => by simp [skels]
  | o0 :: os, [], i, h => by simp at h
  | o0 :: os, m0 :: ms, i, h => by
    simp at h
    simp [skels, skels_len h]
theorem actBits_sk : ∀ {l : List DR}, actBits (l.map sk) = actBits l
  | [] => rfl
  | r :: l => by
    simp only [List.map_cons, actBits, actBits_sk]
    rfl
theorem findFree_sk {acts : Nat} : ∀ {l : List DR} {n : Nat}, findFree acts (l.map sk) n = findFree acts l n
  | [], n => rfl
  | r :: l, n => by
    simp only [List.map_cons, findFree, findFree_sk]
    rfl
theorem wrOf_sk : ∀ {l : List DR} {w : PT (Nat × Nat)}, wrOf (l.map sk) w = wrOf l w
  | [], w => rfl
  | r :: l, w => by
    have ih : ∀ w, wrOf (l.map sk) w = wrOf l w := fun w => wrOf_sk
    simp only [List.map_cons, wrOf, ih]
    rfl
theorem accM_sk {p : Nat} : ∀ {l : List DR}, accM (l.map sk) p = accM l p
  | [] => rfl
  | r :: l => by
    simp only [List.map_cons, accM, accM_sk]
    rfl
theorem readOK_sk {w : PT (Nat × Nat)} {r : DR} : ∀ {ds : List Nat}, readOK w (sk r) ds = readOK w r ds
  | [] => rfl
  | d :: ds => by
    simp only [readOK, readOK_sk]
    rfl
theorem statS_spec {acts f : Nat} {all : List Oper} {w : PT (Nat × Nat)} : ∀ {l : List DR}, statS acts f all w l = true → ∀ r ∈ l,
    noSel r.o.op = true ∧ readOK w r (looks all r.o) = true ∧ chainOK acts f r = true ∧ freeOK acts f r = true
  | [], _, r, hr => by cases hr
  | r0 :: l, h, r, hr => by
    simp only [statS, Bool.and_eq_true] at h
    rcases List.mem_cons.1 hr with rfl | hr
    · exact ⟨h.1.1.1.1, h.1.1.1.2, h.1.1.2, h.1.2⟩
    · exact statS_spec h.2 r hr
theorem noGuards_spec {f : Nat} : ∀ {l : List DR}, noGuards f l = true → ∀ r ∈ l, Nat.beq r.i f = false ∨ noGuard r.o.guard = true
  | [], _, r, hr => by cases hr
  | r0 :: l, h, r, hr => by
    simp only [noGuards, Bool.and_eq_true] at h
    rcases List.mem_cons.1 hr with rfl | hr
    · have := h.1
      simpa using this
    · exact noGuards_spec h.2 r hr
theorem needL_mem {acts p pm u : Nat} {r : DR} (ha : again acts p pm u r = true) : ∀ {l : List DR}, r ∈ l → r.i ∈ needL acts p pm u l
  | [], h => by cases h
  | r0 :: l, h => by
    simp only [needL]
    rcases List.mem_cons.1 h with rfl | h
    · rw [ha]; exact List.mem_cons_self ..
    · split
      · exact List.mem_cons_of_mem _ (needL_mem ha h)
      · exact needL_mem ha h
theorem consN_here {p j : Nat} {l : List (Nat × List Nat)} {x : List Nat} (h : j ∈ x) : (p, x) ∈ consN p l x := by
  cases x with
  | nil => cases h
  | cons y ys => exact List.mem_cons_self ..
theorem consN_there {p : Nat} {l : List (Nat × List Nat)} {x : List Nat} {q : Nat × List Nat} (h : q ∈ l) : q ∈ consN p l x := by
  cases x with
  | nil => exact h
  | cons y ys => exact List.mem_cons_of_mem _ h
theorem needs_n {n acts j : Nat} {recs : List DR} (h : j ∈ needAt acts recs n) : ∀ {l : List DR}, (n, needAt acts recs n) ∈ needs n acts recs l
  | [] => consN_here h
  | r :: l => by
    simp only [needs]
    split
    · exact consN_there (needs_n h)
    · exact needs_n h
theorem needs_act {n acts j : Nat} {recs : List DR} {r : DR} (ha : r.act = true) (h : j ∈ needAt acts recs r.i) : ∀ {l : List DR}, r ∈ l → (r.i, needAt acts recs r.i) ∈ needs n acts recs l
  | [], hr => by cases hr
  | r0 :: l, hr => by
    simp only [needs]
    rcases List.mem_cons.1 hr with rfl | hr
    · rw [ha]; exact consN_here h
    · split
      · exact consN_there (needs_act ha h hr)
      · exact needs_act ha h hr
theorem relookL_spec {call : CallF} {base : Nat} {recs : List DR} : ∀ {l : List Nat}, relookL c call base recs s l = true → ∀ j ∈ l, relook c call base s recs[j]? = true
  | [], _, j, hj => by cases hj
  | i :: l, h, j, hj => by
    simp only [relookL, Bool.and_eq_true, nth_eq] at h
    rcases List.mem_cons.1 hj with rfl | hj
    · exact h.1
    · exact relookL_spec h.2 j hj
theorem relooks_spec {call : CallF} {base : Nat} {recs : List DR} : ∀ {l : List (Nat × List Nat)}, relooks c call base recs s' l = true → ∀ q ∈ l, ∀ j ∈ q.2, relook c call base (stAt recs s' q.1) recs[j]? = true
  | [], _, q, hq => by cases hq
  | q0 :: l, h, q, hq => by
    simp only [relooks, Bool.and_eq_true, nth_eq] at h
    rcases List.mem_cons.1 hq with rfl | hq
    · intro j hj
      have e : stOf s' recs[q.1]? = stAt recs s' q.1 := by
        unfold stAt
        cases recs[q.1]? <;> rfl
      rw [← e]
      exact relookL_spec h.1 j hj
    · exact relooks_spec h.2 q hq

theorem restrK_id {β : Type} {t : Tm} {k : Tm → β} : ∀ {ds : List Nat} {u : Tm}, restrK t ds u k = k (restrK t ds u id)
  | [], u => rfl
  | d :: ds, u => by
    simp only [restrK]
    cases t.get d with
    | none => exact restrK_id
    | some v => simp only [PT.putK_k]; exact restrK_id
theorem restrT_agree {t : Tm} {ds : List Nat} : ∀ d, d ∈ ds → (restrT t ds).get d = t.get d := by
  obtain ⟨x, hx, hget⟩ := restrK_eq (β := Tm) (t := t) (ds := ds) (u := .leaf)
  have e : restrT t ds = x := hx id
  intro d hd
  rw [e, hget]
  cases hs : (t.get d).isSome with
  | true => rw [if_pos ⟨hd, rfl⟩]
  | false =>
    rw [if_neg (fun hh => by cases hh.2), PT.get_leaf]
    cases ht : t.get d with
    | none => rfl
    | some v => rw [ht] at hs; cases hs
theorem drawF_eq {call : CallF} {nt base : Nat} {all : List Oper} : ∀ {os : List Oper} {ms : List Nat} {i : Nat} {t : Tm} {s : St}, drawF c call nt base all os ms i t s = drawGo c call nt base all os ms i t s
  | [], ms, i, t, s => rfl
  | o :: os, [], i, t, s => by simp only [drawGo]; rfl
  | o :: os, m :: ms, i, t, s => by
    have h : drawF c call nt base all (o :: os) (m :: ms) i t s = drawOp c call nt base all o (drawF c call nt base all os) ms i m t s (wantedV c all t o.guard) := rfl
    have hag := restrT_agree (t := t) (ds := looks all o)
    have cons : ∀ (r : DR) (i1 : Nat) (t1 : Tm) (s1 : St), drawCons r (drawF c call nt base all os ms i1 t1 s1) = (match drawGo c call nt base all os ms i1 t1 s1 with
        | some (l, t', s') => some (r :: l, t', s')
        | none => none) := fun r i1 t1 s1 => by
      rw [drawF_eq]
      cases drawGo c call nt base all os ms i1 t1 s1 with
      | none => rfl
      | some x => rfl
    rw [h]
    simp only [drawGo]
    rw [restrK_id]
    change _ = (match wantedV c all (restrT t (looks all o)) o.guard with | none => _ | some false => _ | some true => _)
    rw [wanted_agree hag]
    cases wantedV c all t o.guard with
    | none => rfl
    | some b =>
      cases b with
      | false =>
        simp only [drawOp, force_eq, cons]
        rfl
      | true =>
        simp only [drawOp, force_eq]
        rw [show opV c call (restrK t (looks all o) PT.leaf id) (base + i) s o.op = opV c call t (base + i) s o.op from opV_congr (ev_agree hag)]
        cases hop : opV c call t (base + i) s o.op with
        | none => rfl
        | some r =>
          obtain ⟨v, s1⟩ := r
          simp only [drawTo, force_eq, cons]
          cases hp : pasOp o.op with
          | false => rfl
          | true => rw [pas_same hp hop]; rfl

/-- the plan, by what the text says, and by what had to be looked at once more -/
theorem plan_any {call : CallF} {nt : Nat} {ops : Array Oper} {ms : List Nat} {recs : List DR} {s1 : St} {t1 : Tm} {wr : PT (Nat × Nat)} (hms : masksOf ops.toList 0 [] = some ms)
    (hgo : drawGo c call nt s.ctr ops.toList ops.toList ms 0 t ⟨s.mem, s.ctr + len ops.toList⟩ = some (recs, t1, s1)) (hwr0 : wrOf (skels ops.toList ms 0) .leaf = some wr)
    (hst : statS (actBits (skels ops.toList ms 0)) (findFree (actBits (skels ops.toList ms 0)) (skels ops.toList ms 0) (len ops.toList)) ops.toList wr (skels ops.toList ms 0) = true)
    (hfr : noGuards (findFree (actBits (skels ops.toList ms 0)) (skels ops.toList ms 0) (len ops.toList)) (skels ops.toList ms 0) = true ∨ freeB recs[findFree (actBits (skels ops.toList ms 0)) (skels ops.toList ms 0) (len ops.toList)]? = true)
    (hnd : ∀ q ∈ needs (len ops.toList) (actBits (skels ops.toList ms 0)) (skels ops.toList ms 0) (skels ops.toList ms 0), ∀ j ∈ q.2, relook c call s.ctr (stAt recs s1 q.1) recs[j]? = true) :
    Nonempty (Pl c call ops nt s.ctr t ⟨s.mem, s.ctr + len ops.toList⟩ t1 s1) := by
  obtain ⟨tail, hms1, hms2, hms3⟩ := masksOf_spec hms rfl
  simp only [List.nil_append] at hms1
  subst hms1
  obtain ⟨hlen, hst0, htm, hrec⟩ := drawGo_spec hgo
  have hn : recs.length = ops.size := by simpa using hlen
  have hK : skels ops.toList ms 0 = recs.map sk := by
    refine List.ext_getElem? fun j => ?_
    by_cases hj : j < recs.length
    · have hr : recs[j]? = some recs[j] := by simp [hj]
      obtain ⟨h1, h2, h3⟩ := hrec j _ hr
      rw [skels_get h1 h2, List.getElem?_map, hr]
      have := h3.idx
      simp only [Option.map_some, sk, this]
    · rw [List.getElem?_eq_none (by rw [skels_len hms2]; omega), List.getElem?_eq_none (by simpa using hj)]
  rw [hK] at hwr0 hst hfr hnd
  rw [wrOf_sk] at hwr0
  rw [actBits_sk] at hst hfr hnd
  rw [findFree_sk] at hst hfr
  have hall := fun r hr => statS_spec hst (sk r) (List.mem_map_of_mem hr)
  refine plan_core hms hgo hwr0 (fun r hr => ⟨(hall r hr).1, by rw [← readOK_sk]; exact (hall r hr).2.1, (hall r hr).2.2.1, ?_⟩) ?_
  · obtain ⟨_, _, _, h4⟩ := hall r hr
    unfold freeOK at h4 ⊢
    have e : (sk r).i = r.i := rfl
    have e2 : (sk r).m = r.m := rfl
    have e3 : (sk r).o = r.o := rfl
    rw [e, e2, e3] at h4
    cases hb : Nat.beq r.i (findFree (actBits recs) recs (len ops.toList)) with
    | false => rw [hb] at h4; exact h4
    | true =>
      rw [hb] at h4
      obtain ⟨j, hj⟩ := List.getElem?_of_mem hr
      have hrb : r.b = true := by
        rcases hfr with hfr | hfr
        · have h5 := noGuards_spec hfr (sk r) (List.mem_map_of_mem hr)
          rw [e, e3, hb] at h5
          have hg : noGuard r.o.guard = true := h5.resolve_left (by simp)
          have hwant := (hrec j r hj).2.2.want
          have hgn : r.o.guard = none := by
            cases hh : r.o.guard with
            | none => rfl
            | some x => rw [hh] at hg; cases hg
          rw [hgn] at hwant
          simp only [wantedV_eq, wantedVImpl, Option.some.injEq] at hwant
          exact hwant.symm
        · have hi := (hrec j r hj).2.2.idx
          rw [Nat.zero_add] at hi
          have hf := Nat.eq_of_beq_eq_true hb
          rw [← hf, hi, hj] at hfr
          exact hfr
      simp only [Bool.and_eq_true] at h4 ⊢
      exact ⟨h4.1, hrb⟩
  · intro R hR hidx hmem hrc hact hS i p hi ha hb hpu hp hpa h1 h2
    have hmr : ∀ r ∈ recs, ∃ k, k < ops.size ∧ r = R k := fun r hr => by
      obtain ⟨k, hk⟩ := List.getElem?_of_mem hr
      have hkn : k < ops.size := by rw [← hn]; exact (List.getElem?_eq_some_iff.1 hk).1
      exact ⟨k, hkn, by rw [hR k hkn] at hk; simpa using hk.symm⟩
    have e9 : Nat.sub (Nat.pow 2 p) 1 = 2 ^ p - 1 := rfl
    cases hag : again (actBits recs) p (Nat.sub (Nat.pow 2 p) 1) (accM (recs.map sk) p) (sk (R i)) with
    | true =>
      have hj : i ∈ needAt (actBits recs) (recs.map sk) p := by
        unfold needAt
        rw [force_eq, force_eq]
        have := needL_mem hag (List.mem_map_of_mem (f := sk) (hmem i hi))
        rwa [show (sk (R i)).i = i from hidx i hi] at this
      have hrl : relook c call s.ctr (stAt recs s1 p) recs[i]? = true := by
        rcases Nat.lt_or_ge p ops.size with hlt | hge
        · have hpa := hpa.resolve_left (by omega)
          have hip : (sk (R p)).i = p := hidx p hlt
          have := needs_act (n := len ops.toList) (r := sk (R p)) (recs := recs.map sk) hpa (by rw [hip]; exact hj) (List.mem_map_of_mem (hmem p hlt))
          rw [hip] at this
          exact hnd _ this i hj
        · have hpe : p = ops.size := by omega
          have hl : len ops.toList = p := by rw [len_eq, hpe]; simp
          have hj2 := hj
          rw [← hl] at hj2
          have := needs_n hj2 (l := recs.map sk)
          have h3 := hnd _ this i hj2
          rw [show ((len ops.toList, needAt (actBits recs) (recs.map sk) (len ops.toList)) : Nat × List Nat).1 = p from hl] at h3
          exact h3
      rw [hR i hi] at hrl
      simp only [relook, force_eq] at hrl
      rw [hb, hidx i hi] at hrl
      simp only [Bool.not_true, Bool.false_or] at hrl
      split at hrl
      · rename_i v z hz
        rw [V.beq_eq hrl] at hz
        exact ⟨z, hz⟩
      · simp at hrl
    | false =>
      have hsame : Nat.land (actBits recs) (2 ^ p - 1) = below (actBits recs) i := by
        unfold again at hag
        have ha' : (sk (R i)).act = false := ha
        have hpu' : pureOp (sk (R i)).o.op = false := hpu
        rw [ha', hpu', accM_sk, e9] at hag
        have e1 : subB ((R i).m &&& actBits recs) (2 ^ p - 1) = true := subB_spec.2 fun k hk => by
          rw [Nat.testBit_and, Bool.and_eq_true] at hk
          obtain ⟨hkn, hka⟩ := (hact k).1 hk.2
          rw [Nat.testBit_two_pow_sub_one, decide_eq_true_eq]
          rcases Nat.lt_or_ge k p with h4 | h4
          · exact h4
          · have := h1 k hkn h4 hka
            rw [this] at hk
            cases hk.1
        have e0 : Nat.land (sk (R i)).m (actBits recs) = (R i).m &&& actBits recs := rfl
        have e2 : bitB (accM recs p) i = false := by
          rw [bitB_eq]
          cases hbit : (accM recs p).testBit i with
          | false => rfl
          | true =>
            obtain ⟨x, hx, hxa, hxp, hxm⟩ := accM_spec hbit
            obtain ⟨k, hk, rfl⟩ := hmr x hx
            rw [hidx k hk] at hxp
            have := h2 k hxp hxa
            rw [this] at hxm
            cases hxm
        rw [e0, e1, show (sk (R i)).i = i from hidx i hi, e2] at hag
        simp only [Bool.or_self, Bool.not_false, Bool.true_and, Bool.false_or, Bool.not_eq_false'] at hag
        exact Nat.eq_of_beq_eq_true hag
      have hbit : ∀ k, k < ops.size → (R k).act = true → (k < p ↔ k < i) := fun k hk hka => by
        have hk1 : (actBits recs).testBit k = true := (hact k).2 ⟨hk, hka⟩
        have e1 : (Nat.land (actBits recs) (2 ^ p - 1)).testBit k = decide (k < p) := by
          have : Nat.land (actBits recs) (2 ^ p - 1) = actBits recs &&& (2 ^ p - 1) := rfl
          rw [this, Nat.testBit_and, hk1, Nat.testBit_two_pow_sub_one, Bool.true_and]
        have e2 : (below (actBits recs) i).testBit k = true ↔ k < i := by rw [below_spec]; exact ⟨fun h => h.2, fun h => ⟨hk1, h⟩⟩
        rw [hsame] at e1
        rw [e1, decide_eq_true_eq] at e2
        exact e2
      have hstep : ∀ n a, a + n ≤ ops.size → (∀ k, a ≤ k → k < a + n → (R k).act = false) → stAt recs s1 (a + n) = stAt recs s1 a := by
        intro n
        induction n with
        | zero => intro a _ _; rfl
        | succ n ih =>
          intro a han hna
          have hk : a + n < ops.size := by omega
          have := (hrc (a + n) hk).2.2.pas (hna (a + n) (by omega) (by omega))
          have e : stAt recs s1 (a + (n + 1)) = (R (a + n)).s := this
          rw [e, ← hS (a + n) hk]
          exact ih a (by omega) fun k h3 h4 => hna k h3 (by omega)
      have hsti : stAt recs s1 p = stAt recs s1 i := by
        rcases Nat.le_total i p with h3 | h3
        · have := hstep (p - i) i (by omega) fun k h4 h5 => by
            cases hk : (R k).act with
            | false => rfl
            | true => have := (hbit k (by omega) hk).1 (by omega); omega
          rwa [show i + (p - i) = p by omega] at this
        · have := hstep (i - p) p (by omega) fun k h4 h5 => by
            cases hk : (R k).act with
            | false => rfl
            | true => have := (hbit k (by omega) hk).2 (by omega); omega
          rw [show p + (i - p) = i by omega] at this
          exact this.symm
      obtain ⟨z, hz⟩ := (hrc i hi).2.2.any hb
      rw [hidx i hi] at hz
      exact ⟨z, by rw [hsti, hS i hi]; exact hz⟩

theorem plan_of {call : CallF} {nt : Nat} {ops : Array Oper} {x : X} (h : runDraw c call nt ops.toList t s = some (x, t', s')) : x = .normal ∧ Nonempty (Pl c call ops nt s.ctr t ⟨s.mem, s.ctr + len ops.toList⟩ t' s') := by
  unfold runDraw at h
  split at h
  · simp at h
  · rename_i ms hms
    rw [force_eq, force_eq] at h
    unfold drawW at h
    split at h
    · simp at h
    · rename_i wr hwr
      split at h
      · rename_i hst
        cases hq : (noGuards (findFree (actBits (skels ops.toList ms 0)) (skels ops.toList ms 0) (len ops.toList)) (skels ops.toList ms 0) && isNil (needs (len ops.toList) (actBits (skels ops.toList ms 0)) (skels ops.toList ms 0) (skels ops.toList ms 0))) with
        | true =>
          rw [hq] at h
          simp only [Bool.and_eq_true] at hq
          simp only [drawQ, runPlain, withCtr_eq] at h
          split at h
          · rename_i t1 s1 hrun
            simp at h
            obtain ⟨rfl, rfl, rfl⟩ := h
            obtain ⟨tail, hms1, hms2, hms3⟩ := masksOf_spec hms rfl
            simp only [List.nil_append] at hms1
            subst hms1
            obtain ⟨recs, hgo⟩ := draw_of_run (base := s.ctr) (i := 0) (ms := ms) hms2 hrun
            refine ⟨rfl, plan_any hms hgo hwr hst (.inl hq.1) fun q hq2 => ?_⟩
            have := hq.2
            cases hnl : needs (len ops.toList) (actBits (skels ops.toList ms 0)) (skels ops.toList ms 0) (skels ops.toList ms 0) with
            | nil => rw [hnl] at hq2; cases hq2
            | cons a l => rw [hnl] at this; cases this
          · simp at h
        | false =>
          rw [hq] at h
          simp only [drawQ, drawn, withCtr_eq, drawF_eq] at h
          split at h
          · rename_i recs t1 s1 hgo
            split at h
            · rename_i hok
              simp at h
              obtain ⟨rfl, rfl, rfl⟩ := h
              simp only [Bool.and_eq_true, Bool.or_eq_true, nth_eq] at hok
              exact ⟨rfl, plan_any hms hgo hwr hst hok.1 (relooks_spec hok.2)⟩
            · simp at h
          · simp at h
      · simp at h

/-- REGIONS THAT DRAW THEIR ORDER -/
theorem draw_ok (hc : CfgOK P ρ c) (hL : LensOK ρ) {call : CallF} (hcall : CallOK P ρ call) : DrawOK P ρ c call := fun id nt ops t s x t' s' h α a w hR ht hn => by
  obtain ⟨rfl, ⟨pl⟩⟩ := plan_of h
  refine wp_mono (pl.ok hc hL hcall (hR.ctr _) ht hn) ?_
  rintro e a' w' ⟨h1, h2, h3, α', h4, h5, h6⟩
  exact ⟨h1, h2, h3, α', h4, h5.ctr s.ctr _, h6⟩

/-- CALLS -/
theorem call_ok (hc : CfgOK P ρ c) (hL : LensOK ρ) {con : FuncId → Option Contract} (hcon : ∀ f k, con f = some k → ConOK P ρ f k) (lf n : Nat) : CallOK P ρ (callN c lf con n) :=
  callN_ok hc hL (fun call hcall => draw_ok hc hL hcall) hcon n
end

end Go.Sx
end
