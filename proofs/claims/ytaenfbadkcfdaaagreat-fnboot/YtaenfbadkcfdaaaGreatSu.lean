/-
  The executor's tables say what the program says: a check, and what it shows.
-/
import Derived.Test.YtaenfbadkcfdaaaGreatSd
import Derived.Test.YtaenfbadkcfdaaaGreatSt
import Derived.KernelRfl
noncomputable section
namespace Go.Sx
set_option linter.unusedVariables false
set_option linter.unusedSimpArgs false

def PT.allP {α : Type} (p : Nat → α → Prop) : PT α → Nat → Nat → Prop
  | .leaf, _, _ => True
  | .node l v r, a, b => (match v with | some x => p b x | none => True) ∧ PT.allP p l (2 * a) (a + b) ∧ PT.allP p r (2 * a) (2 * a + b)
theorem PT.allP_get {α : Type} {p : Nat → α → Prop} : ∀ {t : PT α} {a b n : Nat} {x : α}, PT.allP p t a b → t.get n = some x → p (a * n + b) x
  | .leaf, _, _, _, _, _, h => by cases h
  | .node l v r, a, b, n, x, hp, h => by
    rw [PT.get_node] at h
    obtain ⟨h1, h2, h3⟩ := hp
    split at h
    · rename_i h0
      subst h0; subst h
      simpa using h1
    · rename_i h0
      split at h
      · rename_i ho
        have := PT.allP_get h2 h
        have e : 2 * a * (n / 2) + (a + b) = a * n + b := by
          have : n = 2 * (n / 2) + 1 := by omega
          generalize n / 2 = m at *
          subst this
          rw [Nat.mul_add, Nat.mul_one, ← Nat.mul_assoc, Nat.mul_comm a 2]
          omega
        rwa [e] at this
      · rename_i ho
        have := PT.allP_get h3 h
        have e : 2 * a * (n / 2 - 1) + (2 * a + b) = a * n + b := by
          have : n = 2 * (n / 2 - 1) + 2 := by omega
          generalize n / 2 - 1 = m at *
          subst this
          rw [Nat.mul_add, ← Nat.mul_assoc, Nat.mul_comm a 2]
          omega
        rwa [e] at this
def PT.allB {α : Type} (p : Nat → α → Bool) : PT α → Nat → Nat → Bool
  | .leaf, _, _ => true
  | .node l v r, a, b => (match v with | some x => p b x | none => true) && (PT.allB p l (2 * a) (a + b) && PT.allB p r (2 * a) (2 * a + b))
theorem PT.allB_allP {α : Type} {p : Nat → α → Bool} : ∀ {t : PT α} {a b : Nat}, PT.allB p t a b = true → PT.allP (fun n x => p n x = true) t a b
  | .leaf, _, _, _ => trivial
  | .node l v r, a, b, h => by
    simp only [PT.allB, Bool.and_eq_true] at h
    refine ⟨?_, PT.allB_allP h.2.1, PT.allB_allP h.2.2⟩
    cases v with
    | none => trivial
    | some x => exact h.1

def flatB : Value → Bool
  | .agg _ => false
  | .tuple _ => false
  | _ => true
def aggB : Value → Bool
  | .agg _ => true
  | _ => false
theorem flatB_ok {v : Value} (h : flatB v = true) : flat v := by cases v <;> simp_all [flatB, flat]
theorem aggB_ok {v : Value} (h : aggB v = true) : ∃ cs, v = .agg cs := by cases v <;> simp_all [aggB]
def fsB : List Field → List (Nat × TypeId) → Bool
  | [], [] => true
  | f :: fs, (o, t) :: l => Nat.beq f.offset o && Nat.beq f.type t && fsB fs l
  | _, _ => false
theorem fsB_ok : ∀ {fs : List Field} {l : List (Nat × TypeId)}, fsB fs l = true → fs.map (fun f => (f.offset, f.type)) = l
  | [], [], _ => rfl
  | [], _ :: _, h => by cases h
  | _ :: _, [], h => by cases h
  | f :: fs, (o, t) :: l, h => by
    simp only [fsB, Bool.and_eq_true] at h
    rw [List.map_cons, fsB_ok h.2, Nat.eq_of_beq_eq_true h.1.1, Nat.eq_of_beq_eq_true h.1.2]
def namesB : List Field → Bool
  | [] => true
  | f :: fs => !(f.name == "_") && namesB fs
theorem namesB_ok : ∀ {fs : List Field}, namesB fs = true → ∀ f ∈ fs, f.name ≠ "_"
  | [], _, _, h => by cases h
  | f :: fs, h, g, hg => by
    simp only [namesB, Bool.and_eq_true] at h
    rcases List.mem_cons.1 hg with rfl | hg
    · simpa using h.1
    · exact namesB_ok h.2 g hg
def KB (P : Program) (t : TypeId) : K → Bool
  | .bool => match P.underlying t with | some .bool => true | _ => false
  | .int k => match P.underlying t with | some (.int j) => decide (j = k) | _ => false
  | .str => match P.underlying t with | some .string => true | _ => false
  | .ptr e => match P.underlying t with | some (.pointer d) => Nat.beq d e | _ => false
  | .slice e => match P.underlying t with | some (.slice d) => Nat.beq d e | _ => false
  | .arr n e => match P.underlying t with | some (.array m d) => Nat.beq m n && Nat.beq d e | _ => false
  | .map k v => match P.underlying t with | some (.map a b) => Nat.beq a k && Nat.beq b v | _ => false
  | .struct fs => match P.underlying t with
    | some (.struct fields) => fsB fields.toList fs && !(P.stoodInHeld t) && namesB fields.toList && (fields.toList.mapM (fun f => (P.info? f.type).map fun i => (f.offset, i.size))).isSome
    | _ => false
  | .func => match P.underlying t with | some (.func _ _ _) => true | _ => false
  | .iface => match P.underlying t with | some (.interface _) => true | _ => false
  | .other => true
theorem KB_ok {P : Program} {t : TypeId} {k : K} (h : KB P t k = true) : KOK P t k := by
  cases k with
  | other => trivial
  | struct fs =>
    simp only [KB] at h
    split at h
    · rename_i fields hu
      simp only [Bool.and_eq_true, Bool.not_eq_true'] at h
      exact ⟨fields, hu, fsB_ok h.1.1.1, h.1.1.2, namesB_ok h.1.2, Option.isSome_iff_exists.1 h.2⟩
    · cases h
  | func =>
    simp only [KB] at h
    split at h
    · rename_i a b c hu; exact ⟨a, b, c, hu⟩
    · cases h
  | iface =>
    simp only [KB] at h
    split at h
    · rename_i a hu; exact ⟨a, hu⟩
    · cases h
  | int k =>
    simp only [KB] at h
    split at h
    · rename_i j hu
      have := of_decide_eq_true h
      subst this
      exact hu
    · cases h
  | arr n e =>
    simp only [KB] at h
    split at h
    · rename_i m d hu
      rw [Bool.and_eq_true] at h
      have h1 := Nat.eq_of_beq_eq_true h.1
      have h2 := Nat.eq_of_beq_eq_true h.2
      subst h1; subst h2; exact hu
    · cases h
  | map a b =>
    simp only [KB] at h
    split at h
    · rename_i m d hu
      rw [Bool.and_eq_true] at h
      have h1 := Nat.eq_of_beq_eq_true h.1
      have h2 := Nat.eq_of_beq_eq_true h.2
      subst h1; subst h2; exact hu
    · cases h
  | ptr e =>
    simp only [KB] at h
    split at h
    · rename_i d hu
      have h1 := Nat.eq_of_beq_eq_true h
      subst h1; exact hu
    · cases h
  | slice e =>
    simp only [KB] at h
    split at h
    · rename_i d hu
      have h1 := Nat.eq_of_beq_eq_true h
      subst h1; exact hu
    · cases h
  | bool =>
    simp only [KB] at h
    split at h
    · rename_i hu; exact hu
    · cases h
  | str =>
    simp only [KB] at h
    split at h
    · rename_i hu; exact hu
    · cases h
def msB (i : TypeInfo) : List (String × FuncId × Bool) → Bool
  | [] => true
  | (n, f, b) :: l => (match i.methods.find? (·.name == n) with
    | some m => m.path.size == 0 && (match m.func with | some (f', b') => Nat.beq f' f && b' == b | none => false)
    | none => false) && msB i l
theorem msB_ok {i : TypeInfo} : ∀ {l : List (String × FuncId × Bool)}, msB i l = true → ∀ name f b, (l.find? (fun m => m.1 == name)).map (·.2) = some (f, b) → ∃ m, i.methods.find? (·.name == name) = some m ∧ m.path = #[] ∧ m.func = some (f, b)
  | [], _, _, _, _, h => by cases h
  | (n, f0, b0) :: l, h, name, f, b, hf => by
    simp only [msB, Bool.and_eq_true] at h
    rw [List.find?_cons] at hf
    by_cases hn : n == name
    · simp only [hn, Option.map_some, Option.some.injEq, Prod.mk.injEq] at hf
      obtain ⟨rfl, rfl⟩ := hf
      have := beq_iff_eq.1 hn
      subst this
      have h1 := h.1
      split at h1
      · rename_i m hm
        rw [Bool.and_eq_true] at h1
        obtain ⟨h2, h3⟩ := h1
        split at h3
        · rename_i f' b' hfn
          rw [Bool.and_eq_true] at h3
          have e1 := Nat.eq_of_beq_eq_true h3.1
          have e2 := beq_iff_eq.1 h3.2
          subst e1; subst e2
          exact ⟨m, hm, by simpa using h2, hfn⟩
        · cases h3
      · cases h1
    · simp only [hn] at hf
      exact msB_ok h.2 name f b hf
def tiB (P : Program) (t : TypeId) (ti : TI) : Bool :=
  match P.info? t with
  | some i => match i.zero with
    | some z => Nat.beq i.size ti.size && Nat.beq i.bytes ti.bytes && (match csOfValues z.cells.toList with | some l => beqCs l ti.zero | none => false) && Nat.beq z.cells.size ti.size &&
      (match ti.agg with | true => aggB z | false => flatB z) && msB i ti.ms && KB P t ti.k &&
      (match ti.agg with
        | true => true
        | false => match P.underlying t with | some (.struct _) => false | some (.array _ _) => false | some _ => true | none => false)
    | none => false
  | none => false
theorem tiB_ok {P : Program} {t : TypeId} {ti : TI} (h : tiB P t ti = true) : TIok P t ti := by
  unfold tiB at h
  split at h
  rotate_left
  · cases h
  rename_i i hi
  split at h
  rotate_left
  · cases h
  rename_i z hz
  simp only [Bool.and_eq_true] at h
  obtain ⟨⟨⟨⟨⟨⟨⟨h1, h2⟩, h3⟩, h4⟩, h5⟩, h6⟩, h7⟩, h8⟩ := h
  refine ⟨⟨i, z, hi, Nat.eq_of_beq_eq_true h1, Nat.eq_of_beq_eq_true h2, hz, ?_, Nat.eq_of_beq_eq_true h4, ?_, ?_, msB_ok h6⟩, KB_ok h7, ?_⟩
  · split at h3
    · rename_i l hl
      rw [hl, beqCs_eq h3]
    · cases h3
  · intro ha
    rw [ha] at h5
    exact aggB_ok h5
  · intro ha
    rw [ha] at h5
    exact flatB_ok h5
  · intro ha
    rw [ha] at h8
    simp only at h8
    split at h8
    · cases h8
    · cases h8
    · rename_i d h9 h10 hu
      exact ⟨d, hu, h9, h10⟩
    · cases h8
def fnOK (P : Program) (f : FuncId) (fn : Func) : Prop := P.funcs[f]? = some fn ∧ fn.body.isSome = true ∧ (fn.name == "runtime.NumGoroutine") = false
end Go.Sx
end
noncomputable section
namespace Go.Sx
set_option maxRecDepth 100000
set_option maxHeartbeats 4000000
theorem tt_all : PT.allB (tiB Go.Proofs.Tryz.prog) TT 1 0 = true := by kernel_rfl
theorem ft_all : PT.allP (fnOK Go.Proofs.Tryz.prog) FT 1 0 := ⟨trivial, ⟨trivial, ⟨⟨Go.Proofs.Tryz.func3, by kernel_rfl, by kernel_rfl⟩, ⟨⟨Go.Proofs.Tryz.func7, by kernel_rfl, by kernel_rfl⟩, ⟨⟨Go.Proofs.Tryz.func15, by kernel_rfl, by kernel_rfl⟩, ⟨⟨Go.Proofs.Tryz.func31, by kernel_rfl, by kernel_rfl⟩, ⟨⟨Go.Proofs.Tryz.func63, by kernel_rfl, by kernel_rfl⟩, ⟨⟨Go.Proofs.Tryz.func127, by kernel_rfl, by kernel_rfl⟩, ⟨⟨Go.Proofs.Tryz.func255, by kernel_rfl, by kernel_rfl⟩, trivial, trivial⟩, ⟨⟨Go.Proofs.Tryz.func383, by kernel_rfl, by kernel_rfl⟩, trivial, trivial⟩⟩, ⟨⟨Go.Proofs.Tryz.func191, by kernel_rfl, by kernel_rfl⟩, ⟨⟨Go.Proofs.Tryz.func319, by kernel_rfl, by kernel_rfl⟩, trivial, trivial⟩, trivial⟩⟩, ⟨⟨Go.Proofs.Tryz.func95, by kernel_rfl, by kernel_rfl⟩, ⟨⟨Go.Proofs.Tryz.func159, by kernel_rfl, by kernel_rfl⟩, ⟨⟨Go.Proofs.Tryz.func287, by kernel_rfl, by kernel_rfl⟩, trivial, trivial⟩, trivial⟩, ⟨⟨Go.Proofs.Tryz.func223, by kernel_rfl, by kernel_rfl⟩, ⟨⟨Go.Proofs.Tryz.func351, by kernel_rfl, by kernel_rfl⟩, trivial, trivial⟩, trivial⟩⟩⟩, ⟨⟨Go.Proofs.Tryz.func47, by kernel_rfl, by kernel_rfl⟩, ⟨⟨Go.Proofs.Tryz.func79, by kernel_rfl, by kernel_rfl⟩, ⟨⟨Go.Proofs.Tryz.func143, by kernel_rfl, by kernel_rfl⟩, ⟨⟨Go.Proofs.Tryz.func271, by kernel_rfl, by kernel_rfl⟩, trivial, trivial⟩, ⟨⟨Go.Proofs.Tryz.func399, by kernel_rfl, by kernel_rfl⟩, trivial, trivial⟩⟩, ⟨⟨Go.Proofs.Tryz.func207, by kernel_rfl, by kernel_rfl⟩, ⟨⟨Go.Proofs.Tryz.func335, by kernel_rfl, by kernel_rfl⟩, trivial, trivial⟩, trivial⟩⟩, ⟨⟨Go.Proofs.Tryz.func111, by kernel_rfl, by kernel_rfl⟩, ⟨⟨Go.Proofs.Tryz.func175, by kernel_rfl, by kernel_rfl⟩, ⟨⟨Go.Proofs.Tryz.func303, by kernel_rfl, by kernel_rfl⟩, trivial, trivial⟩, ⟨⟨Go.Proofs.Tryz.func431, by kernel_rfl, by kernel_rfl⟩, trivial, trivial⟩⟩, ⟨⟨Go.Proofs.Tryz.func239, by kernel_rfl, by kernel_rfl⟩, ⟨⟨Go.Proofs.Tryz.func367, by kernel_rfl, by kernel_rfl⟩, trivial, trivial⟩, trivial⟩⟩⟩⟩, ⟨⟨Go.Proofs.Tryz.func23, by kernel_rfl, by kernel_rfl⟩, ⟨⟨Go.Proofs.Tryz.func39, by kernel_rfl, by kernel_rfl⟩, ⟨⟨Go.Proofs.Tryz.func71, by kernel_rfl, by kernel_rfl⟩, ⟨⟨Go.Proofs.Tryz.func135, by kernel_rfl, by kernel_rfl⟩, ⟨⟨Go.Proofs.Tryz.func263, by kernel_rfl, by kernel_rfl⟩, trivial, trivial⟩, ⟨⟨Go.Proofs.Tryz.func391, by kernel_rfl, by kernel_rfl⟩, trivial, trivial⟩⟩, ⟨⟨Go.Proofs.Tryz.func199, by kernel_rfl, by kernel_rfl⟩, ⟨⟨Go.Proofs.Tryz.func327, by kernel_rfl, by kernel_rfl⟩, trivial, trivial⟩, trivial⟩⟩, ⟨⟨Go.Proofs.Tryz.func103, by kernel_rfl, by kernel_rfl⟩, ⟨⟨Go.Proofs.Tryz.func167, by kernel_rfl, by kernel_rfl⟩, ⟨⟨Go.Proofs.Tryz.func295, by kernel_rfl, by kernel_rfl⟩, trivial, trivial⟩, trivial⟩, ⟨⟨Go.Proofs.Tryz.func231, by kernel_rfl, by kernel_rfl⟩, ⟨⟨Go.Proofs.Tryz.func359, by kernel_rfl, by kernel_rfl⟩, trivial, trivial⟩, trivial⟩⟩⟩, ⟨⟨Go.Proofs.Tryz.func55, by kernel_rfl, by kernel_rfl⟩, ⟨⟨Go.Proofs.Tryz.func87, by kernel_rfl, by kernel_rfl⟩, ⟨⟨Go.Proofs.Tryz.func151, by kernel_rfl, by kernel_rfl⟩, ⟨⟨Go.Proofs.Tryz.func279, by kernel_rfl, by kernel_rfl⟩, trivial, trivial⟩, ⟨⟨Go.Proofs.Tryz.func407, by kernel_rfl, by kernel_rfl⟩, trivial, trivial⟩⟩, ⟨⟨Go.Proofs.Tryz.func215, by kernel_rfl, by kernel_rfl⟩, ⟨⟨Go.Proofs.Tryz.func343, by kernel_rfl, by kernel_rfl⟩, trivial, trivial⟩, trivial⟩⟩, ⟨⟨Go.Proofs.Tryz.func119, by kernel_rfl, by kernel_rfl⟩, ⟨⟨Go.Proofs.Tryz.func183, by kernel_rfl, by kernel_rfl⟩, ⟨⟨Go.Proofs.Tryz.func311, by kernel_rfl, by kernel_rfl⟩, trivial, trivial⟩, trivial⟩, ⟨⟨Go.Proofs.Tryz.func247, by kernel_rfl, by kernel_rfl⟩, ⟨⟨Go.Proofs.Tryz.func375, by kernel_rfl, by kernel_rfl⟩, trivial, trivial⟩, trivial⟩⟩⟩⟩⟩, ⟨⟨Go.Proofs.Tryz.func11, by kernel_rfl, by kernel_rfl⟩, ⟨⟨Go.Proofs.Tryz.func19, by kernel_rfl, by kernel_rfl⟩, ⟨⟨Go.Proofs.Tryz.func35, by kernel_rfl, by kernel_rfl⟩, ⟨⟨Go.Proofs.Tryz.func67, by kernel_rfl, by kernel_rfl⟩, ⟨⟨Go.Proofs.Tryz.func131, by kernel_rfl, by kernel_rfl⟩, ⟨⟨Go.Proofs.Tryz.func259, by kernel_rfl, by kernel_rfl⟩, trivial, trivial⟩, ⟨⟨Go.Proofs.Tryz.func387, by kernel_rfl, by kernel_rfl⟩, trivial, trivial⟩⟩, ⟨⟨Go.Proofs.Tryz.func195, by kernel_rfl, by kernel_rfl⟩, ⟨⟨Go.Proofs.Tryz.func323, by kernel_rfl, by kernel_rfl⟩, trivial, trivial⟩, trivial⟩⟩, ⟨⟨Go.Proofs.Tryz.func99, by kernel_rfl, by kernel_rfl⟩, ⟨⟨Go.Proofs.Tryz.func163, by kernel_rfl, by kernel_rfl⟩, ⟨⟨Go.Proofs.Tryz.func291, by kernel_rfl, by kernel_rfl⟩, trivial, trivial⟩, trivial⟩, ⟨⟨Go.Proofs.Tryz.func227, by kernel_rfl, by kernel_rfl⟩, ⟨⟨Go.Proofs.Tryz.func355, by kernel_rfl, by kernel_rfl⟩, trivial, trivial⟩, trivial⟩⟩⟩, ⟨⟨Go.Proofs.Tryz.func51, by kernel_rfl, by kernel_rfl⟩, ⟨⟨Go.Proofs.Tryz.func83, by kernel_rfl, by kernel_rfl⟩, ⟨⟨Go.Proofs.Tryz.func147, by kernel_rfl, by kernel_rfl⟩, ⟨⟨Go.Proofs.Tryz.func275, by kernel_rfl, by kernel_rfl⟩, trivial, trivial⟩, ⟨⟨Go.Proofs.Tryz.func403, by kernel_rfl, by kernel_rfl⟩, trivial, trivial⟩⟩, ⟨⟨Go.Proofs.Tryz.func211, by kernel_rfl, by kernel_rfl⟩, ⟨⟨Go.Proofs.Tryz.func339, by kernel_rfl, by kernel_rfl⟩, trivial, trivial⟩, trivial⟩⟩, ⟨⟨Go.Proofs.Tryz.func115, by kernel_rfl, by kernel_rfl⟩, ⟨⟨Go.Proofs.Tryz.func179, by kernel_rfl, by kernel_rfl⟩, ⟨⟨Go.Proofs.Tryz.func307, by kernel_rfl, by kernel_rfl⟩, trivial, trivial⟩, trivial⟩, ⟨⟨Go.Proofs.Tryz.func243, by kernel_rfl, by kernel_rfl⟩, ⟨⟨Go.Proofs.Tryz.func371, by kernel_rfl, by kernel_rfl⟩, trivial, trivial⟩, trivial⟩⟩⟩⟩, ⟨⟨Go.Proofs.Tryz.func27, by kernel_rfl, by kernel_rfl⟩, ⟨⟨Go.Proofs.Tryz.func43, by kernel_rfl, by kernel_rfl⟩, ⟨⟨Go.Proofs.Tryz.func75, by kernel_rfl, by kernel_rfl⟩, ⟨⟨Go.Proofs.Tryz.func139, by kernel_rfl, by kernel_rfl⟩, ⟨⟨Go.Proofs.Tryz.func267, by kernel_rfl, by kernel_rfl⟩, trivial, trivial⟩, ⟨⟨Go.Proofs.Tryz.func395, by kernel_rfl, by kernel_rfl⟩, trivial, trivial⟩⟩, ⟨⟨Go.Proofs.Tryz.func203, by kernel_rfl, by kernel_rfl⟩, ⟨⟨Go.Proofs.Tryz.func331, by kernel_rfl, by kernel_rfl⟩, trivial, trivial⟩, trivial⟩⟩, ⟨⟨Go.Proofs.Tryz.func107, by kernel_rfl, by kernel_rfl⟩, ⟨⟨Go.Proofs.Tryz.func171, by kernel_rfl, by kernel_rfl⟩, ⟨⟨Go.Proofs.Tryz.func299, by kernel_rfl, by kernel_rfl⟩, trivial, trivial⟩, trivial⟩, ⟨⟨Go.Proofs.Tryz.func235, by kernel_rfl, by kernel_rfl⟩, ⟨⟨Go.Proofs.Tryz.func363, by kernel_rfl, by kernel_rfl⟩, trivial, trivial⟩, trivial⟩⟩⟩, ⟨⟨Go.Proofs.Tryz.func59, by kernel_rfl, by kernel_rfl⟩, ⟨⟨Go.Proofs.Tryz.func91, by kernel_rfl, by kernel_rfl⟩, ⟨⟨Go.Proofs.Tryz.func155, by kernel_rfl, by kernel_rfl⟩, ⟨⟨Go.Proofs.Tryz.func283, by kernel_rfl, by kernel_rfl⟩, trivial, trivial⟩, trivial⟩, ⟨⟨Go.Proofs.Tryz.func219, by kernel_rfl, by kernel_rfl⟩, ⟨⟨Go.Proofs.Tryz.func347, by kernel_rfl, by kernel_rfl⟩, trivial, trivial⟩, trivial⟩⟩, ⟨⟨Go.Proofs.Tryz.func123, by kernel_rfl, by kernel_rfl⟩, ⟨⟨Go.Proofs.Tryz.func187, by kernel_rfl, by kernel_rfl⟩, ⟨⟨Go.Proofs.Tryz.func315, by kernel_rfl, by kernel_rfl⟩, trivial, trivial⟩, trivial⟩, ⟨⟨Go.Proofs.Tryz.func251, by kernel_rfl, by kernel_rfl⟩, ⟨⟨Go.Proofs.Tryz.func379, by kernel_rfl, by kernel_rfl⟩, trivial, trivial⟩, trivial⟩⟩⟩⟩⟩⟩, ⟨⟨Go.Proofs.Tryz.func5, by kernel_rfl, by kernel_rfl⟩, ⟨⟨Go.Proofs.Tryz.func9, by kernel_rfl, by kernel_rfl⟩, ⟨⟨Go.Proofs.Tryz.func17, by kernel_rfl, by kernel_rfl⟩, ⟨⟨Go.Proofs.Tryz.func33, by kernel_rfl, by kernel_rfl⟩, ⟨⟨Go.Proofs.Tryz.func65, by kernel_rfl, by kernel_rfl⟩, ⟨⟨Go.Proofs.Tryz.func129, by kernel_rfl, by kernel_rfl⟩, ⟨⟨Go.Proofs.Tryz.func257, by kernel_rfl, by kernel_rfl⟩, trivial, trivial⟩, ⟨⟨Go.Proofs.Tryz.func385, by kernel_rfl, by kernel_rfl⟩, trivial, trivial⟩⟩, ⟨⟨Go.Proofs.Tryz.func193, by kernel_rfl, by kernel_rfl⟩, ⟨⟨Go.Proofs.Tryz.func321, by kernel_rfl, by kernel_rfl⟩, trivial, trivial⟩, trivial⟩⟩, ⟨⟨Go.Proofs.Tryz.func97, by kernel_rfl, by kernel_rfl⟩, ⟨⟨Go.Proofs.Tryz.func161, by kernel_rfl, by kernel_rfl⟩, ⟨⟨Go.Proofs.Tryz.func289, by kernel_rfl, by kernel_rfl⟩, trivial, trivial⟩, trivial⟩, ⟨⟨Go.Proofs.Tryz.func225, by kernel_rfl, by kernel_rfl⟩, ⟨⟨Go.Proofs.Tryz.func353, by kernel_rfl, by kernel_rfl⟩, trivial, trivial⟩, trivial⟩⟩⟩, ⟨⟨Go.Proofs.Tryz.func49, by kernel_rfl, by kernel_rfl⟩, ⟨⟨Go.Proofs.Tryz.func81, by kernel_rfl, by kernel_rfl⟩, ⟨⟨Go.Proofs.Tryz.func145, by kernel_rfl, by kernel_rfl⟩, ⟨⟨Go.Proofs.Tryz.func273, by kernel_rfl, by kernel_rfl⟩, trivial, trivial⟩, ⟨⟨Go.Proofs.Tryz.func401, by kernel_rfl, by kernel_rfl⟩, trivial, trivial⟩⟩, ⟨⟨Go.Proofs.Tryz.func209, by kernel_rfl, by kernel_rfl⟩, ⟨⟨Go.Proofs.Tryz.func337, by kernel_rfl, by kernel_rfl⟩, trivial, trivial⟩, trivial⟩⟩, ⟨⟨Go.Proofs.Tryz.func113, by kernel_rfl, by kernel_rfl⟩, ⟨⟨Go.Proofs.Tryz.func177, by kernel_rfl, by kernel_rfl⟩, ⟨⟨Go.Proofs.Tryz.func305, by kernel_rfl, by kernel_rfl⟩, trivial, trivial⟩, ⟨⟨Go.Proofs.Tryz.func433, by kernel_rfl, by kernel_rfl⟩, trivial, trivial⟩⟩, ⟨⟨Go.Proofs.Tryz.func241, by kernel_rfl, by kernel_rfl⟩, ⟨⟨Go.Proofs.Tryz.func369, by kernel_rfl, by kernel_rfl⟩, trivial, trivial⟩, trivial⟩⟩⟩⟩, ⟨⟨Go.Proofs.Tryz.func25, by kernel_rfl, by kernel_rfl⟩, ⟨⟨Go.Proofs.Tryz.func41, by kernel_rfl, by kernel_rfl⟩, ⟨⟨Go.Proofs.Tryz.func73, by kernel_rfl, by kernel_rfl⟩, ⟨⟨Go.Proofs.Tryz.func137, by kernel_rfl, by kernel_rfl⟩, ⟨⟨Go.Proofs.Tryz.func265, by kernel_rfl, by kernel_rfl⟩, trivial, trivial⟩, ⟨⟨Go.Proofs.Tryz.func393, by kernel_rfl, by kernel_rfl⟩, trivial, trivial⟩⟩, ⟨⟨Go.Proofs.Tryz.func201, by kernel_rfl, by kernel_rfl⟩, ⟨⟨Go.Proofs.Tryz.func329, by kernel_rfl, by kernel_rfl⟩, trivial, trivial⟩, trivial⟩⟩, ⟨⟨Go.Proofs.Tryz.func105, by kernel_rfl, by kernel_rfl⟩, ⟨⟨Go.Proofs.Tryz.func169, by kernel_rfl, by kernel_rfl⟩, ⟨⟨Go.Proofs.Tryz.func297, by kernel_rfl, by kernel_rfl⟩, trivial, trivial⟩, ⟨⟨Go.Proofs.Tryz.func425, by kernel_rfl, by kernel_rfl⟩, trivial, trivial⟩⟩, ⟨⟨Go.Proofs.Tryz.func233, by kernel_rfl, by kernel_rfl⟩, ⟨⟨Go.Proofs.Tryz.func361, by kernel_rfl, by kernel_rfl⟩, trivial, trivial⟩, trivial⟩⟩⟩, ⟨⟨Go.Proofs.Tryz.func57, by kernel_rfl, by kernel_rfl⟩, ⟨⟨Go.Proofs.Tryz.func89, by kernel_rfl, by kernel_rfl⟩, ⟨⟨Go.Proofs.Tryz.func153, by kernel_rfl, by kernel_rfl⟩, ⟨⟨Go.Proofs.Tryz.func281, by kernel_rfl, by kernel_rfl⟩, trivial, trivial⟩, ⟨⟨Go.Proofs.Tryz.func409, by kernel_rfl, by kernel_rfl⟩, trivial, trivial⟩⟩, ⟨⟨Go.Proofs.Tryz.func217, by kernel_rfl, by kernel_rfl⟩, ⟨⟨Go.Proofs.Tryz.func345, by kernel_rfl, by kernel_rfl⟩, trivial, trivial⟩, trivial⟩⟩, ⟨⟨Go.Proofs.Tryz.func121, by kernel_rfl, by kernel_rfl⟩, ⟨⟨Go.Proofs.Tryz.func185, by kernel_rfl, by kernel_rfl⟩, ⟨⟨Go.Proofs.Tryz.func313, by kernel_rfl, by kernel_rfl⟩, trivial, trivial⟩, trivial⟩, ⟨⟨Go.Proofs.Tryz.func249, by kernel_rfl, by kernel_rfl⟩, ⟨⟨Go.Proofs.Tryz.func377, by kernel_rfl, by kernel_rfl⟩, trivial, trivial⟩, trivial⟩⟩⟩⟩⟩, ⟨⟨Go.Proofs.Tryz.func13, by kernel_rfl, by kernel_rfl⟩, ⟨⟨Go.Proofs.Tryz.func21, by kernel_rfl, by kernel_rfl⟩, ⟨⟨Go.Proofs.Tryz.func37, by kernel_rfl, by kernel_rfl⟩, ⟨⟨Go.Proofs.Tryz.func69, by kernel_rfl, by kernel_rfl⟩, ⟨⟨Go.Proofs.Tryz.func133, by kernel_rfl, by kernel_rfl⟩, ⟨⟨Go.Proofs.Tryz.func261, by kernel_rfl, by kernel_rfl⟩, trivial, trivial⟩, ⟨⟨Go.Proofs.Tryz.func389, by kernel_rfl, by kernel_rfl⟩, trivial, trivial⟩⟩, ⟨⟨Go.Proofs.Tryz.func197, by kernel_rfl, by kernel_rfl⟩, ⟨⟨Go.Proofs.Tryz.func325, by kernel_rfl, by kernel_rfl⟩, trivial, trivial⟩, trivial⟩⟩, ⟨⟨Go.Proofs.Tryz.func101, by kernel_rfl, by kernel_rfl⟩, ⟨⟨Go.Proofs.Tryz.func165, by kernel_rfl, by kernel_rfl⟩, ⟨⟨Go.Proofs.Tryz.func293, by kernel_rfl, by kernel_rfl⟩, trivial, trivial⟩, trivial⟩, ⟨⟨Go.Proofs.Tryz.func229, by kernel_rfl, by kernel_rfl⟩, ⟨⟨Go.Proofs.Tryz.func357, by kernel_rfl, by kernel_rfl⟩, trivial, trivial⟩, trivial⟩⟩⟩, ⟨⟨Go.Proofs.Tryz.func53, by kernel_rfl, by kernel_rfl⟩, ⟨⟨Go.Proofs.Tryz.func85, by kernel_rfl, by kernel_rfl⟩, ⟨⟨Go.Proofs.Tryz.func149, by kernel_rfl, by kernel_rfl⟩, ⟨⟨Go.Proofs.Tryz.func277, by kernel_rfl, by kernel_rfl⟩, trivial, trivial⟩, ⟨⟨Go.Proofs.Tryz.func405, by kernel_rfl, by kernel_rfl⟩, trivial, trivial⟩⟩, ⟨⟨Go.Proofs.Tryz.func213, by kernel_rfl, by kernel_rfl⟩, ⟨⟨Go.Proofs.Tryz.func341, by kernel_rfl, by kernel_rfl⟩, trivial, trivial⟩, trivial⟩⟩, ⟨⟨Go.Proofs.Tryz.func117, by kernel_rfl, by kernel_rfl⟩, ⟨⟨Go.Proofs.Tryz.func181, by kernel_rfl, by kernel_rfl⟩, ⟨⟨Go.Proofs.Tryz.func309, by kernel_rfl, by kernel_rfl⟩, trivial, trivial⟩, trivial⟩, ⟨⟨Go.Proofs.Tryz.func245, by kernel_rfl, by kernel_rfl⟩, ⟨⟨Go.Proofs.Tryz.func373, by kernel_rfl, by kernel_rfl⟩, trivial, trivial⟩, trivial⟩⟩⟩⟩, ⟨⟨Go.Proofs.Tryz.func29, by kernel_rfl, by kernel_rfl⟩, ⟨⟨Go.Proofs.Tryz.func45, by kernel_rfl, by kernel_rfl⟩, ⟨⟨Go.Proofs.Tryz.func77, by kernel_rfl, by kernel_rfl⟩, ⟨⟨Go.Proofs.Tryz.func141, by kernel_rfl, by kernel_rfl⟩, ⟨⟨Go.Proofs.Tryz.func269, by kernel_rfl, by kernel_rfl⟩, trivial, trivial⟩, ⟨⟨Go.Proofs.Tryz.func397, by kernel_rfl, by kernel_rfl⟩, trivial, trivial⟩⟩, ⟨⟨Go.Proofs.Tryz.func205, by kernel_rfl, by kernel_rfl⟩, ⟨⟨Go.Proofs.Tryz.func333, by kernel_rfl, by kernel_rfl⟩, trivial, trivial⟩, trivial⟩⟩, ⟨⟨Go.Proofs.Tryz.func109, by kernel_rfl, by kernel_rfl⟩, ⟨⟨Go.Proofs.Tryz.func173, by kernel_rfl, by kernel_rfl⟩, ⟨⟨Go.Proofs.Tryz.func301, by kernel_rfl, by kernel_rfl⟩, trivial, trivial⟩, ⟨⟨Go.Proofs.Tryz.func429, by kernel_rfl, by kernel_rfl⟩, trivial, trivial⟩⟩, ⟨⟨Go.Proofs.Tryz.func237, by kernel_rfl, by kernel_rfl⟩, ⟨⟨Go.Proofs.Tryz.func365, by kernel_rfl, by kernel_rfl⟩, trivial, trivial⟩, trivial⟩⟩⟩, ⟨⟨Go.Proofs.Tryz.func61, by kernel_rfl, by kernel_rfl⟩, ⟨⟨Go.Proofs.Tryz.func93, by kernel_rfl, by kernel_rfl⟩, ⟨⟨Go.Proofs.Tryz.func157, by kernel_rfl, by kernel_rfl⟩, ⟨⟨Go.Proofs.Tryz.func285, by kernel_rfl, by kernel_rfl⟩, trivial, trivial⟩, trivial⟩, ⟨⟨Go.Proofs.Tryz.func221, by kernel_rfl, by kernel_rfl⟩, ⟨⟨Go.Proofs.Tryz.func349, by kernel_rfl, by kernel_rfl⟩, trivial, trivial⟩, trivial⟩⟩, ⟨⟨Go.Proofs.Tryz.func125, by kernel_rfl, by kernel_rfl⟩, ⟨⟨Go.Proofs.Tryz.func189, by kernel_rfl, by kernel_rfl⟩, ⟨⟨Go.Proofs.Tryz.func317, by kernel_rfl, by kernel_rfl⟩, trivial, trivial⟩, trivial⟩, ⟨⟨Go.Proofs.Tryz.func253, by kernel_rfl, by kernel_rfl⟩, ⟨⟨Go.Proofs.Tryz.func381, by kernel_rfl, by kernel_rfl⟩, trivial, trivial⟩, trivial⟩⟩⟩⟩⟩⟩⟩, ⟨⟨Go.Proofs.Tryz.func2, by kernel_rfl, by kernel_rfl⟩, ⟨⟨Go.Proofs.Tryz.func4, by kernel_rfl, by kernel_rfl⟩, ⟨⟨Go.Proofs.Tryz.func8, by kernel_rfl, by kernel_rfl⟩, ⟨⟨Go.Proofs.Tryz.func16, by kernel_rfl, by kernel_rfl⟩, ⟨⟨Go.Proofs.Tryz.func32, by kernel_rfl, by kernel_rfl⟩, ⟨⟨Go.Proofs.Tryz.func64, by kernel_rfl, by kernel_rfl⟩, ⟨⟨Go.Proofs.Tryz.func128, by kernel_rfl, by kernel_rfl⟩, ⟨⟨Go.Proofs.Tryz.func256, by kernel_rfl, by kernel_rfl⟩, trivial, trivial⟩, ⟨⟨Go.Proofs.Tryz.func384, by kernel_rfl, by kernel_rfl⟩, trivial, trivial⟩⟩, ⟨⟨Go.Proofs.Tryz.func192, by kernel_rfl, by kernel_rfl⟩, ⟨⟨Go.Proofs.Tryz.func320, by kernel_rfl, by kernel_rfl⟩, trivial, trivial⟩, trivial⟩⟩, ⟨⟨Go.Proofs.Tryz.func96, by kernel_rfl, by kernel_rfl⟩, ⟨⟨Go.Proofs.Tryz.func160, by kernel_rfl, by kernel_rfl⟩, ⟨⟨Go.Proofs.Tryz.func288, by kernel_rfl, by kernel_rfl⟩, trivial, trivial⟩, trivial⟩, ⟨⟨Go.Proofs.Tryz.func224, by kernel_rfl, by kernel_rfl⟩, ⟨⟨Go.Proofs.Tryz.func352, by kernel_rfl, by kernel_rfl⟩, trivial, trivial⟩, trivial⟩⟩⟩, ⟨⟨Go.Proofs.Tryz.func48, by kernel_rfl, by kernel_rfl⟩, ⟨⟨Go.Proofs.Tryz.func80, by kernel_rfl, by kernel_rfl⟩, ⟨⟨Go.Proofs.Tryz.func144, by kernel_rfl, by kernel_rfl⟩, ⟨⟨Go.Proofs.Tryz.func272, by kernel_rfl, by kernel_rfl⟩, trivial, trivial⟩, ⟨⟨Go.Proofs.Tryz.func400, by kernel_rfl, by kernel_rfl⟩, trivial, trivial⟩⟩, ⟨⟨Go.Proofs.Tryz.func208, by kernel_rfl, by kernel_rfl⟩, ⟨⟨Go.Proofs.Tryz.func336, by kernel_rfl, by kernel_rfl⟩, trivial, trivial⟩, trivial⟩⟩, ⟨⟨Go.Proofs.Tryz.func112, by kernel_rfl, by kernel_rfl⟩, ⟨⟨Go.Proofs.Tryz.func176, by kernel_rfl, by kernel_rfl⟩, ⟨⟨Go.Proofs.Tryz.func304, by kernel_rfl, by kernel_rfl⟩, trivial, trivial⟩, ⟨⟨Go.Proofs.Tryz.func432, by kernel_rfl, by kernel_rfl⟩, trivial, trivial⟩⟩, ⟨⟨Go.Proofs.Tryz.func240, by kernel_rfl, by kernel_rfl⟩, ⟨⟨Go.Proofs.Tryz.func368, by kernel_rfl, by kernel_rfl⟩, trivial, trivial⟩, trivial⟩⟩⟩⟩, ⟨⟨Go.Proofs.Tryz.func24, by kernel_rfl, by kernel_rfl⟩, ⟨⟨Go.Proofs.Tryz.func40, by kernel_rfl, by kernel_rfl⟩, ⟨⟨Go.Proofs.Tryz.func72, by kernel_rfl, by kernel_rfl⟩, ⟨⟨Go.Proofs.Tryz.func136, by kernel_rfl, by kernel_rfl⟩, ⟨⟨Go.Proofs.Tryz.func264, by kernel_rfl, by kernel_rfl⟩, trivial, trivial⟩, ⟨⟨Go.Proofs.Tryz.func392, by kernel_rfl, by kernel_rfl⟩, trivial, trivial⟩⟩, ⟨⟨Go.Proofs.Tryz.func200, by kernel_rfl, by kernel_rfl⟩, ⟨⟨Go.Proofs.Tryz.func328, by kernel_rfl, by kernel_rfl⟩, trivial, trivial⟩, trivial⟩⟩, ⟨⟨Go.Proofs.Tryz.func104, by kernel_rfl, by kernel_rfl⟩, ⟨⟨Go.Proofs.Tryz.func168, by kernel_rfl, by kernel_rfl⟩, ⟨⟨Go.Proofs.Tryz.func296, by kernel_rfl, by kernel_rfl⟩, trivial, trivial⟩, trivial⟩, ⟨⟨Go.Proofs.Tryz.func232, by kernel_rfl, by kernel_rfl⟩, ⟨⟨Go.Proofs.Tryz.func360, by kernel_rfl, by kernel_rfl⟩, trivial, trivial⟩, trivial⟩⟩⟩, ⟨⟨Go.Proofs.Tryz.func56, by kernel_rfl, by kernel_rfl⟩, ⟨⟨Go.Proofs.Tryz.func88, by kernel_rfl, by kernel_rfl⟩, ⟨⟨Go.Proofs.Tryz.func152, by kernel_rfl, by kernel_rfl⟩, ⟨⟨Go.Proofs.Tryz.func280, by kernel_rfl, by kernel_rfl⟩, trivial, trivial⟩, ⟨⟨Go.Proofs.Tryz.func408, by kernel_rfl, by kernel_rfl⟩, trivial, trivial⟩⟩, ⟨⟨Go.Proofs.Tryz.func216, by kernel_rfl, by kernel_rfl⟩, ⟨⟨Go.Proofs.Tryz.func344, by kernel_rfl, by kernel_rfl⟩, trivial, trivial⟩, trivial⟩⟩, ⟨⟨Go.Proofs.Tryz.func120, by kernel_rfl, by kernel_rfl⟩, ⟨⟨Go.Proofs.Tryz.func184, by kernel_rfl, by kernel_rfl⟩, ⟨⟨Go.Proofs.Tryz.func312, by kernel_rfl, by kernel_rfl⟩, trivial, trivial⟩, trivial⟩, ⟨⟨Go.Proofs.Tryz.func248, by kernel_rfl, by kernel_rfl⟩, ⟨⟨Go.Proofs.Tryz.func376, by kernel_rfl, by kernel_rfl⟩, trivial, trivial⟩, trivial⟩⟩⟩⟩⟩, ⟨⟨Go.Proofs.Tryz.func12, by kernel_rfl, by kernel_rfl⟩, ⟨⟨Go.Proofs.Tryz.func20, by kernel_rfl, by kernel_rfl⟩, ⟨⟨Go.Proofs.Tryz.func36, by kernel_rfl, by kernel_rfl⟩, ⟨⟨Go.Proofs.Tryz.func68, by kernel_rfl, by kernel_rfl⟩, ⟨⟨Go.Proofs.Tryz.func132, by kernel_rfl, by kernel_rfl⟩, ⟨⟨Go.Proofs.Tryz.func260, by kernel_rfl, by kernel_rfl⟩, trivial, trivial⟩, ⟨⟨Go.Proofs.Tryz.func388, by kernel_rfl, by kernel_rfl⟩, trivial, trivial⟩⟩, ⟨⟨Go.Proofs.Tryz.func196, by kernel_rfl, by kernel_rfl⟩, ⟨⟨Go.Proofs.Tryz.func324, by kernel_rfl, by kernel_rfl⟩, trivial, trivial⟩, trivial⟩⟩, ⟨⟨Go.Proofs.Tryz.func100, by kernel_rfl, by kernel_rfl⟩, ⟨⟨Go.Proofs.Tryz.func164, by kernel_rfl, by kernel_rfl⟩, ⟨⟨Go.Proofs.Tryz.func292, by kernel_rfl, by kernel_rfl⟩, trivial, trivial⟩, trivial⟩, ⟨⟨Go.Proofs.Tryz.func228, by kernel_rfl, by kernel_rfl⟩, ⟨⟨Go.Proofs.Tryz.func356, by kernel_rfl, by kernel_rfl⟩, trivial, trivial⟩, trivial⟩⟩⟩, ⟨⟨Go.Proofs.Tryz.func52, by kernel_rfl, by kernel_rfl⟩, ⟨⟨Go.Proofs.Tryz.func84, by kernel_rfl, by kernel_rfl⟩, ⟨⟨Go.Proofs.Tryz.func148, by kernel_rfl, by kernel_rfl⟩, ⟨⟨Go.Proofs.Tryz.func276, by kernel_rfl, by kernel_rfl⟩, trivial, trivial⟩, ⟨⟨Go.Proofs.Tryz.func404, by kernel_rfl, by kernel_rfl⟩, trivial, trivial⟩⟩, ⟨⟨Go.Proofs.Tryz.func212, by kernel_rfl, by kernel_rfl⟩, ⟨⟨Go.Proofs.Tryz.func340, by kernel_rfl, by kernel_rfl⟩, trivial, trivial⟩, trivial⟩⟩, ⟨⟨Go.Proofs.Tryz.func116, by kernel_rfl, by kernel_rfl⟩, ⟨⟨Go.Proofs.Tryz.func180, by kernel_rfl, by kernel_rfl⟩, ⟨⟨Go.Proofs.Tryz.func308, by kernel_rfl, by kernel_rfl⟩, trivial, trivial⟩, ⟨⟨Go.Proofs.Tryz.func436, by kernel_rfl, by kernel_rfl⟩, trivial, trivial⟩⟩, ⟨⟨Go.Proofs.Tryz.func244, by kernel_rfl, by kernel_rfl⟩, ⟨⟨Go.Proofs.Tryz.func372, by kernel_rfl, by kernel_rfl⟩, trivial, trivial⟩, trivial⟩⟩⟩⟩, ⟨⟨Go.Proofs.Tryz.func28, by kernel_rfl, by kernel_rfl⟩, ⟨⟨Go.Proofs.Tryz.func44, by kernel_rfl, by kernel_rfl⟩, ⟨⟨Go.Proofs.Tryz.func76, by kernel_rfl, by kernel_rfl⟩, ⟨⟨Go.Proofs.Tryz.func140, by kernel_rfl, by kernel_rfl⟩, ⟨⟨Go.Proofs.Tryz.func268, by kernel_rfl, by kernel_rfl⟩, trivial, trivial⟩, ⟨⟨Go.Proofs.Tryz.func396, by kernel_rfl, by kernel_rfl⟩, trivial, trivial⟩⟩, ⟨⟨Go.Proofs.Tryz.func204, by kernel_rfl, by kernel_rfl⟩, ⟨⟨Go.Proofs.Tryz.func332, by kernel_rfl, by kernel_rfl⟩, trivial, trivial⟩, trivial⟩⟩, ⟨⟨Go.Proofs.Tryz.func108, by kernel_rfl, by kernel_rfl⟩, ⟨⟨Go.Proofs.Tryz.func172, by kernel_rfl, by kernel_rfl⟩, ⟨⟨Go.Proofs.Tryz.func300, by kernel_rfl, by kernel_rfl⟩, trivial, trivial⟩, trivial⟩, ⟨⟨Go.Proofs.Tryz.func236, by kernel_rfl, by kernel_rfl⟩, ⟨⟨Go.Proofs.Tryz.func364, by kernel_rfl, by kernel_rfl⟩, trivial, trivial⟩, trivial⟩⟩⟩, ⟨⟨Go.Proofs.Tryz.func60, by kernel_rfl, by kernel_rfl⟩, ⟨⟨Go.Proofs.Tryz.func92, by kernel_rfl, by kernel_rfl⟩, ⟨⟨Go.Proofs.Tryz.func156, by kernel_rfl, by kernel_rfl⟩, ⟨⟨Go.Proofs.Tryz.func284, by kernel_rfl, by kernel_rfl⟩, trivial, trivial⟩, trivial⟩, ⟨⟨Go.Proofs.Tryz.func220, by kernel_rfl, by kernel_rfl⟩, ⟨⟨Go.Proofs.Tryz.func348, by kernel_rfl, by kernel_rfl⟩, trivial, trivial⟩, trivial⟩⟩, ⟨⟨Go.Proofs.Tryz.func124, by kernel_rfl, by kernel_rfl⟩, ⟨⟨Go.Proofs.Tryz.func188, by kernel_rfl, by kernel_rfl⟩, ⟨⟨Go.Proofs.Tryz.func316, by kernel_rfl, by kernel_rfl⟩, trivial, trivial⟩, trivial⟩, ⟨⟨Go.Proofs.Tryz.func252, by kernel_rfl, by kernel_rfl⟩, ⟨⟨Go.Proofs.Tryz.func380, by kernel_rfl, by kernel_rfl⟩, trivial, trivial⟩, trivial⟩⟩⟩⟩⟩⟩, ⟨⟨Go.Proofs.Tryz.func6, by kernel_rfl, by kernel_rfl⟩, ⟨⟨Go.Proofs.Tryz.func10, by kernel_rfl, by kernel_rfl⟩, ⟨⟨Go.Proofs.Tryz.func18, by kernel_rfl, by kernel_rfl⟩, ⟨⟨Go.Proofs.Tryz.func34, by kernel_rfl, by kernel_rfl⟩, ⟨⟨Go.Proofs.Tryz.func66, by kernel_rfl, by kernel_rfl⟩, ⟨⟨Go.Proofs.Tryz.func130, by kernel_rfl, by kernel_rfl⟩, ⟨⟨Go.Proofs.Tryz.func258, by kernel_rfl, by kernel_rfl⟩, trivial, trivial⟩, ⟨⟨Go.Proofs.Tryz.func386, by kernel_rfl, by kernel_rfl⟩, trivial, trivial⟩⟩, ⟨⟨Go.Proofs.Tryz.func194, by kernel_rfl, by kernel_rfl⟩, ⟨⟨Go.Proofs.Tryz.func322, by kernel_rfl, by kernel_rfl⟩, trivial, trivial⟩, trivial⟩⟩, ⟨⟨Go.Proofs.Tryz.func98, by kernel_rfl, by kernel_rfl⟩, ⟨⟨Go.Proofs.Tryz.func162, by kernel_rfl, by kernel_rfl⟩, ⟨⟨Go.Proofs.Tryz.func290, by kernel_rfl, by kernel_rfl⟩, trivial, trivial⟩, trivial⟩, ⟨⟨Go.Proofs.Tryz.func226, by kernel_rfl, by kernel_rfl⟩, ⟨⟨Go.Proofs.Tryz.func354, by kernel_rfl, by kernel_rfl⟩, trivial, trivial⟩, trivial⟩⟩⟩, ⟨⟨Go.Proofs.Tryz.func50, by kernel_rfl, by kernel_rfl⟩, ⟨⟨Go.Proofs.Tryz.func82, by kernel_rfl, by kernel_rfl⟩, ⟨⟨Go.Proofs.Tryz.func146, by kernel_rfl, by kernel_rfl⟩, ⟨⟨Go.Proofs.Tryz.func274, by kernel_rfl, by kernel_rfl⟩, trivial, trivial⟩, ⟨⟨Go.Proofs.Tryz.func402, by kernel_rfl, by kernel_rfl⟩, trivial, trivial⟩⟩, ⟨⟨Go.Proofs.Tryz.func210, by kernel_rfl, by kernel_rfl⟩, ⟨⟨Go.Proofs.Tryz.func338, by kernel_rfl, by kernel_rfl⟩, trivial, trivial⟩, trivial⟩⟩, ⟨⟨Go.Proofs.Tryz.func114, by kernel_rfl, by kernel_rfl⟩, ⟨⟨Go.Proofs.Tryz.func178, by kernel_rfl, by kernel_rfl⟩, ⟨⟨Go.Proofs.Tryz.func306, by kernel_rfl, by kernel_rfl⟩, trivial, trivial⟩, ⟨⟨Go.Proofs.Tryz.func434, by kernel_rfl, by kernel_rfl⟩, trivial, trivial⟩⟩, ⟨⟨Go.Proofs.Tryz.func242, by kernel_rfl, by kernel_rfl⟩, ⟨⟨Go.Proofs.Tryz.func370, by kernel_rfl, by kernel_rfl⟩, trivial, trivial⟩, trivial⟩⟩⟩⟩, ⟨⟨Go.Proofs.Tryz.func26, by kernel_rfl, by kernel_rfl⟩, ⟨⟨Go.Proofs.Tryz.func42, by kernel_rfl, by kernel_rfl⟩, ⟨⟨Go.Proofs.Tryz.func74, by kernel_rfl, by kernel_rfl⟩, ⟨⟨Go.Proofs.Tryz.func138, by kernel_rfl, by kernel_rfl⟩, ⟨⟨Go.Proofs.Tryz.func266, by kernel_rfl, by kernel_rfl⟩, trivial, trivial⟩, ⟨⟨Go.Proofs.Tryz.func394, by kernel_rfl, by kernel_rfl⟩, trivial, trivial⟩⟩, ⟨⟨Go.Proofs.Tryz.func202, by kernel_rfl, by kernel_rfl⟩, ⟨⟨Go.Proofs.Tryz.func330, by kernel_rfl, by kernel_rfl⟩, trivial, trivial⟩, trivial⟩⟩, ⟨⟨Go.Proofs.Tryz.func106, by kernel_rfl, by kernel_rfl⟩, ⟨⟨Go.Proofs.Tryz.func170, by kernel_rfl, by kernel_rfl⟩, ⟨⟨Go.Proofs.Tryz.func298, by kernel_rfl, by kernel_rfl⟩, trivial, trivial⟩, ⟨⟨Go.Proofs.Tryz.func426, by kernel_rfl, by kernel_rfl⟩, trivial, trivial⟩⟩, ⟨⟨Go.Proofs.Tryz.func234, by kernel_rfl, by kernel_rfl⟩, ⟨⟨Go.Proofs.Tryz.func362, by kernel_rfl, by kernel_rfl⟩, trivial, trivial⟩, trivial⟩⟩⟩, ⟨⟨Go.Proofs.Tryz.func58, by kernel_rfl, by kernel_rfl⟩, ⟨⟨Go.Proofs.Tryz.func90, by kernel_rfl, by kernel_rfl⟩, ⟨⟨Go.Proofs.Tryz.func154, by kernel_rfl, by kernel_rfl⟩, ⟨⟨Go.Proofs.Tryz.func282, by kernel_rfl, by kernel_rfl⟩, trivial, trivial⟩, trivial⟩, ⟨⟨Go.Proofs.Tryz.func218, by kernel_rfl, by kernel_rfl⟩, ⟨⟨Go.Proofs.Tryz.func346, by kernel_rfl, by kernel_rfl⟩, trivial, trivial⟩, trivial⟩⟩, ⟨⟨Go.Proofs.Tryz.func122, by kernel_rfl, by kernel_rfl⟩, ⟨⟨Go.Proofs.Tryz.func186, by kernel_rfl, by kernel_rfl⟩, ⟨⟨Go.Proofs.Tryz.func314, by kernel_rfl, by kernel_rfl⟩, trivial, trivial⟩, trivial⟩, ⟨⟨Go.Proofs.Tryz.func250, by kernel_rfl, by kernel_rfl⟩, ⟨⟨Go.Proofs.Tryz.func378, by kernel_rfl, by kernel_rfl⟩, trivial, trivial⟩, trivial⟩⟩⟩⟩⟩, ⟨⟨Go.Proofs.Tryz.func14, by kernel_rfl, by kernel_rfl⟩, ⟨⟨Go.Proofs.Tryz.func22, by kernel_rfl, by kernel_rfl⟩, ⟨⟨Go.Proofs.Tryz.func38, by kernel_rfl, by kernel_rfl⟩, ⟨⟨Go.Proofs.Tryz.func70, by kernel_rfl, by kernel_rfl⟩, ⟨⟨Go.Proofs.Tryz.func134, by kernel_rfl, by kernel_rfl⟩, ⟨⟨Go.Proofs.Tryz.func262, by kernel_rfl, by kernel_rfl⟩, trivial, trivial⟩, ⟨⟨Go.Proofs.Tryz.func390, by kernel_rfl, by kernel_rfl⟩, trivial, trivial⟩⟩, ⟨⟨Go.Proofs.Tryz.func198, by kernel_rfl, by kernel_rfl⟩, ⟨⟨Go.Proofs.Tryz.func326, by kernel_rfl, by kernel_rfl⟩, trivial, trivial⟩, trivial⟩⟩, ⟨⟨Go.Proofs.Tryz.func102, by kernel_rfl, by kernel_rfl⟩, ⟨⟨Go.Proofs.Tryz.func166, by kernel_rfl, by kernel_rfl⟩, ⟨⟨Go.Proofs.Tryz.func294, by kernel_rfl, by kernel_rfl⟩, trivial, trivial⟩, trivial⟩, ⟨⟨Go.Proofs.Tryz.func230, by kernel_rfl, by kernel_rfl⟩, ⟨⟨Go.Proofs.Tryz.func358, by kernel_rfl, by kernel_rfl⟩, trivial, trivial⟩, trivial⟩⟩⟩, ⟨⟨Go.Proofs.Tryz.func54, by kernel_rfl, by kernel_rfl⟩, ⟨⟨Go.Proofs.Tryz.func86, by kernel_rfl, by kernel_rfl⟩, ⟨⟨Go.Proofs.Tryz.func150, by kernel_rfl, by kernel_rfl⟩, ⟨⟨Go.Proofs.Tryz.func278, by kernel_rfl, by kernel_rfl⟩, trivial, trivial⟩, ⟨⟨Go.Proofs.Tryz.func406, by kernel_rfl, by kernel_rfl⟩, trivial, trivial⟩⟩, ⟨⟨Go.Proofs.Tryz.func214, by kernel_rfl, by kernel_rfl⟩, ⟨⟨Go.Proofs.Tryz.func342, by kernel_rfl, by kernel_rfl⟩, trivial, trivial⟩, trivial⟩⟩, ⟨⟨Go.Proofs.Tryz.func118, by kernel_rfl, by kernel_rfl⟩, ⟨⟨Go.Proofs.Tryz.func182, by kernel_rfl, by kernel_rfl⟩, ⟨⟨Go.Proofs.Tryz.func310, by kernel_rfl, by kernel_rfl⟩, trivial, trivial⟩, ⟨⟨Go.Proofs.Tryz.func438, by kernel_rfl, by kernel_rfl⟩, trivial, trivial⟩⟩, ⟨⟨Go.Proofs.Tryz.func246, by kernel_rfl, by kernel_rfl⟩, ⟨⟨Go.Proofs.Tryz.func374, by kernel_rfl, by kernel_rfl⟩, trivial, trivial⟩, trivial⟩⟩⟩⟩, ⟨⟨Go.Proofs.Tryz.func30, by kernel_rfl, by kernel_rfl⟩, ⟨⟨Go.Proofs.Tryz.func46, by kernel_rfl, by kernel_rfl⟩, ⟨⟨Go.Proofs.Tryz.func78, by kernel_rfl, by kernel_rfl⟩, ⟨⟨Go.Proofs.Tryz.func142, by kernel_rfl, by kernel_rfl⟩, ⟨⟨Go.Proofs.Tryz.func270, by kernel_rfl, by kernel_rfl⟩, trivial, trivial⟩, ⟨⟨Go.Proofs.Tryz.func398, by kernel_rfl, by kernel_rfl⟩, trivial, trivial⟩⟩, ⟨⟨Go.Proofs.Tryz.func206, by kernel_rfl, by kernel_rfl⟩, ⟨⟨Go.Proofs.Tryz.func334, by kernel_rfl, by kernel_rfl⟩, trivial, trivial⟩, trivial⟩⟩, ⟨⟨Go.Proofs.Tryz.func110, by kernel_rfl, by kernel_rfl⟩, ⟨⟨Go.Proofs.Tryz.func174, by kernel_rfl, by kernel_rfl⟩, ⟨⟨Go.Proofs.Tryz.func302, by kernel_rfl, by kernel_rfl⟩, trivial, trivial⟩, ⟨⟨Go.Proofs.Tryz.func430, by kernel_rfl, by kernel_rfl⟩, trivial, trivial⟩⟩, ⟨⟨Go.Proofs.Tryz.func238, by kernel_rfl, by kernel_rfl⟩, ⟨⟨Go.Proofs.Tryz.func366, by kernel_rfl, by kernel_rfl⟩, trivial, trivial⟩, trivial⟩⟩⟩, ⟨⟨Go.Proofs.Tryz.func62, by kernel_rfl, by kernel_rfl⟩, ⟨⟨Go.Proofs.Tryz.func94, by kernel_rfl, by kernel_rfl⟩, ⟨⟨Go.Proofs.Tryz.func158, by kernel_rfl, by kernel_rfl⟩, ⟨⟨Go.Proofs.Tryz.func286, by kernel_rfl, by kernel_rfl⟩, trivial, trivial⟩, trivial⟩, ⟨⟨Go.Proofs.Tryz.func222, by kernel_rfl, by kernel_rfl⟩, ⟨⟨Go.Proofs.Tryz.func350, by kernel_rfl, by kernel_rfl⟩, trivial, trivial⟩, trivial⟩⟩, ⟨⟨Go.Proofs.Tryz.func126, by kernel_rfl, by kernel_rfl⟩, ⟨⟨Go.Proofs.Tryz.func190, by kernel_rfl, by kernel_rfl⟩, ⟨⟨Go.Proofs.Tryz.func318, by kernel_rfl, by kernel_rfl⟩, trivial, trivial⟩, trivial⟩, ⟨⟨Go.Proofs.Tryz.func254, by kernel_rfl, by kernel_rfl⟩, ⟨⟨Go.Proofs.Tryz.func382, by kernel_rfl, by kernel_rfl⟩, trivial, trivial⟩, trivial⟩⟩⟩⟩⟩⟩⟩⟩
end Go.Sx
end
/-
  A run of the executor over this program, and what it shows.
-/
noncomputable section
namespace Go.Sx
open Go.RowKit (Below)
open Go.Proofs
set_option linter.unusedVariables false
theorem cfg_ok {ρ : Env} {f : Facts} (hf : FactsOK ρ f) : CfgOK Tryz.prog ρ { ty := TT, fn := FT, facts := f } where
  ty t ti h := by
    have := PT.allP_get (PT.allB_allP tt_all) h
    simp only [Nat.one_mul, Nat.add_zero] at this
    exact tiB_ok this
  fn f fn h := by
    have := PT.allP_get ft_all h
    simp only [Nat.one_mul, Nat.add_zero] at this
    exact this
  facts := hf
  mixed := by kernel_rfl
theorem rel_start {ρ : Env} {mem : PT Obj} (c : Nat) (hdom : ∀ n, ρ.al n = none ↔ mem.get n = none)
    (hobj : ∀ n o l, mem.get n = some o → ρ.al n = some l → OR Tryz.prog ρ ρ.al ρ.w0 l o ∧ o.own = false) : Rel Tryz.prog ρ ρ.al ⟨mem, c⟩ ρ.w0 where
  dom := hdom
  obj n o l h1 h2 := (hobj n o l h1 h2).1
  apart n m o o' l l' h1 h2 h3 h4 h5 h6 h7 := by rw [(hobj n o l h1 h6).2] at h3; cases h3
  fresh n o l h1 h2 h3 := by rw [(hobj n o l h1 h3).2] at h2; cases h2
  below := Below.refl _ _
  init := Al.le.refl _
theorem sx_run {ρ : Env} {f : Facts} (hf : FactsOK ρ f) (hL : LensOK ρ) {con : FuncId → Option Contract} (hcon : ∀ g k, con g = some k → ConOK Tryz.prog ρ g k) {g : FuncId} {args : List V} {s s' : St} {v : V} {lf n : Nat}
    (h : callN { ty := TT, fn := FT, facts := f } lf con n g args s = some (v, s')) {vals : Array Value} (hR : Rel Tryz.prog ρ ρ.al s ρ.w0) (hv : All2 (VR ρ ρ.al) args vals.toList) :
    Calls Tryz.prog g vals ρ.w0 fun e w' => ∃ x, e = .returned x ∧ ∃ α, VR ρ α v x ∧ Below ρ.w0.heap.size ρ.w0 w' :=
  (call_ok (cfg_ok hf) hL hcon lf n g args s v s' h ρ.al ρ.w0 vals hR hv).mono fun e w' ⟨x, he, α, hR', _, hx⟩ => ⟨x, he, α, hx, hR'.below⟩
end Go.Sx
end
