/-
  FnBoot's input, and what the symbols stand for.
-/
import Derived.Test.YtaenfbadkcfdaaaGreatSf
import Derived.Test.YtaenfbadkcfdaaaGreatCy
import Derived.Test.YtaenfbadkcfdaaaGreatCm
import Derived.Test.YtaenfbadkcfdaaaGreatCz
import Derived.Test.YtaenfbadkcfdaaaGreatSk
import Derived.Test.YtaenfbadkcfdaaaGreatRa
import Derived.Test.YtaenfbadkcfdaaaGreatBo
import Derived.Test.YtaenfbadkcfdaaaGreatBn
import Derived.Test.YtaenfbadkcfdaaaGreatRf
noncomputable section
namespace Go.Sx
open Go.RowKit (Below)
open Go.Proofs
set_option linter.unusedVariables false
set_option linter.unusedSimpArgs false

structure Sl where
  p : Option Addr
  n : Nat
  c : Nat
def Sl.val (s : Sl) : Value := .slice s.p s.n s.c
structure Sl.OK (w : World) (s : Sl) : Prop where
  nil : s.p = none → s.n = 0 ∧ s.c = 0
  le : s.n ≤ s.c
  max : s.c ≤ 9223372036854775807
  blk : ∀ a, s.p = some a → a.spot = none ∧ ∃ xs e fz, w.heap[a.block]? = some (.cells xs e fz)
/-- the cell j of a row -/
def Sl.at (w : World) (s : Sl) (j : Nat) (v : Value) : Prop := ∃ a, s.p = some a ∧ w.cell? ⟨a.block, a.off + j, none⟩ = some v
structure Inp where
  id : Int
  el : Int
  hb : Int
  rand : Sl
  pv : Bool
  cq : Bool
  ls : Bool
  nf : Bool
  sd : Bool
  ms : Int
  mc : Int
  mu : Int
  inf : Int
  bd : ByteArray
  a14 : Int
  a15 : Int
  s16 : Sl
  s17 : Sl
  s18 : Sl
  s19 : Sl
  b20 : Bool
  s21 : Sl
  a22 : Int
  a23 : Int
  a24 : Int
  a25 : Int
  peers : Sl
  ids : List Int
  ctx : Sl
  strs : List ByteArray
  W : World
def Inp.setup (I : Inp) : Value := .agg #[.int .u64 I.id, .int .i64 I.el, .int .i64 I.hb, I.rand.val, .bool I.pv, .bool I.cq, .bool I.ls, .bool I.nf, .bool I.sd, .int .u64 I.ms, .int .u64 I.mc, .int .u64 I.mu, .int .i64 I.inf,
  .string I.bd, .int .u64 I.a14, .int .u64 I.a15, I.s16.val, I.s17.val, I.s18.val, I.s19.val, .bool I.b20, I.s21.val, .int .u64 I.a22, .int .u64 I.a23, .int .u64 I.a24, .int .u64 I.a25]
structure Inp.OK (I : Inp) : Prop where
  rand : I.rand.OK I.W
  randC : ∀ j, j < I.rand.n → ∃ x, I.rand.at I.W j (.int .i64 x)
  bd : I.bd.size ≤ maxLen
  s21 : I.s21.OK I.W
  s21C : ∀ j, j < I.s21.n → ∃ (x y z : Int) (s : ByteArray), s.size ≤ maxLen ∧ I.s21.at I.W (j * 4) (.int .u64 x) ∧ I.s21.at I.W (j * 4 + 1) (.int .u64 y) ∧ I.s21.at I.W (j * 4 + 2) (.int .i64 z) ∧ I.s21.at I.W (j * 4 + 3) (.string s)
  peers : I.peers.OK I.W
  pn : I.ids.length = I.peers.n
  pC : ∀ j x, I.ids[j]? = some x → I.peers.at I.W j (.int .u64 x)
  pR : ∀ x ∈ I.ids, 0 ≤ x ∧ x ≤ 18446744073709551615
  ctx : I.ctx.OK I.W
  xn : I.strs.length = I.ctx.n
  xC : ∀ j s, I.strs[j]? = some s → I.ctx.at I.W j (.string s)
  xR : ∀ s ∈ I.strs, s.size ≤ maxLen
  ms : I.ms ≤ 18446744073709551615
  mc : I.mc ≤ 18446744073709551615

def bytesOfNats (l : List Nat) : ByteArray := ⟨(l.map UInt8.ofNat).toArray⟩
theorem nats_of {l : List Nat} (h : ∀ x ∈ l, x < 256) : nats (bytesOfNats l) = l := by
  unfold nats bytesOfNats
  simp only [List.map_map]
  have : l.map (UInt8.toNat ∘ UInt8.ofNat) = l.map id := List.map_congr_left (fun x hx => by simp [Function.comp]; have := h x hx; omega)
  rw [this, List.map_id]
theorem vb_lt : ∀ (n : Nat), ∀ x ∈ vb n, x < 256 := by
  intro n
  induction n using Nat.strongRecOn with
  | ind n ih =>
    intro x hx
    by_cases h : n < 128
    · rw [vb_small h] at hx; simp at hx; omega
    · rw [vb_big h] at hx
      rcases List.mem_cons.1 hx with rfl | hx
      · omega
      · exact ih (n / 128) (by omega) x hx
theorem vb_len : ∀ (k n : Nat), n < 128 ^ (k + 1) → (vb n).length ≤ k + 1
  | 0, n, h => by rw [vb_small (by simpa using h)]; simp
  | k + 1, n, h => by
    by_cases hs : n < 128
    · rw [vb_small hs]; simp
    · rw [vb_big hs]
      have := vb_len k (n / 128) (by rw [Nat.div_lt_iff_lt_mul (by omega)]; rw [Nat.pow_succ] at h; exact h)
      simp; omega
theorem nats_lt (s : ByteArray) : ∀ x ∈ nats s, x < 256 := by
  intro x hx
  simp [nats] at hx
  obtain ⟨a, _, rfl⟩ := hx
  exact a.toNat_lt
theorem changeB_lt {id : Nat} {tx : List Nat} (hl : tx.length ≤ 100) (h : ∀ x ∈ tx, x < 256) : ∀ x ∈ changeB id tx, x < 256 := by
  intro x hx
  unfold changeB at hx
  simp only [List.mem_append, List.mem_cons, List.not_mem_nil, or_false] at hx
  rcases hx with (hx | hx) | hx
  · omega
  · exact vb_lt id x hx
  · split at hx
    · simp at hx
    · simp only [List.mem_append, List.mem_cons, List.not_mem_nil, or_false] at hx
      rcases hx with hx | hx
      · omega
      · exact h x hx
theorem changeB_len {id : Nat} {tx : List Nat} (hid : id < 1099511627776) (hl : tx.length ≤ 100) : 1 ≤ (changeB id tx).length ∧ (changeB id tx).length ≤ 120 := by
  have := vb_len 5 id (by omega)
  unfold changeB
  split <;> simp <;> omega

/-- string i -/
def Inp.str (I : Inp) (i : Nat) : ByteArray :=
  if i < 9 then I.strs.getD i .empty
  else if i < 20 then .empty
  else if i < 29 then (if (I.strs.getD (i - 20) .empty).size ≤ 100 ∧ I.ids.getD (i - 20) 0 < 1099511627776 then bytesOfNats (changeB (I.ids.getD (i - 20) 0).toNat (nats (I.strs.getD (i - 20) .empty))) else .empty)
  else .empty
noncomputable def Inp.draw (I : Inp) (k : Nat) : Int := if I.rand.n = 0 then 0 else
  match I.rand.p with
  | some a => match I.W.cell? ⟨a.block, a.off + k % I.rand.n, none⟩ with
    | some (.int .i64 x) => IntKind.u64.wrap x % I.el
    | _ => 0
  | none => 0
def sortI (l : List Int) : List Int := (Sort.insertionSort Sort.ltInt l.toArray 0 l.length).toList
/-- int i -/
noncomputable def Inp.int (I : Inp) (i : Nat) : Int :=
  if i < 9 then I.ids.getD i 0
  else if i = 20 then I.id else if i = 21 then I.el else if i = 22 then I.hb else if i = 23 then I.ms else if i = 24 then I.mc else if i = 25 then I.inf else if i = 26 then I.mu
  else if i = 62 then I.ctx.n else if i = 63 then I.peers.n
  else if i < 100 then 0
  else if i < 300 then (sortI ((List.range ((i - 100) / 16)).map fun j => I.ids.getD j 0)).getD ((i - 100) % 16) 0
  else if i < 350 then I.draw (i - 300)
  else if i < 351 then 0
  else if i < 500 then (if I.rand.n = 0 then 0 else ((i - 350 : Nat) : Int))
  else (I.str (i - 500)).size
def Inp.val (I : Inp) (i : Nat) : Value := match i with
  | 50 => I.rand.val | 51 => .string I.bd | 52 => .int .u64 I.a14 | 53 => .int .u64 I.a15 | 54 => I.s16.val | 55 => I.s17.val | 56 => I.s18.val | 57 => I.s19.val | 58 => .bool I.b20 | 59 => I.s21.val
  | 60 => .int .u64 I.a22 | 61 => .int .u64 I.a23 | 62 => .int .u64 I.a24 | 63 => .int .u64 I.a25 | 64 => I.peers.val | 65 => I.ctx.val | _ => .bool true
def Sl.loc (s : Sl) : Loc := ⟨(s.p.getD ⟨0, 0, none⟩).block, (s.p.getD ⟨0, 0, none⟩).off, 1, s.c⟩
def Inp.al (I : Inp) (u1 u2 : Bool) : Al := fun n => if n = 1 then (if u1 then some I.peers.loc else none) else if n = 2 then (if u2 then some I.ctx.loc else none) else none
open Classical in
/-- what the guards tell -/
noncomputable def Inp.bool (I : Inp) (f1 f8 rd : Prop) (i : Nat) : Bool := match i with
  | 0 => I.pv | 1 => I.cq | 2 => I.ls | 3 => I.nf | 4 => I.sd | 40 => decide f1 | 41 => decide f8 | 42 => decide rd | 43 => decide I.ids.Nodup | _ => false
noncomputable def Inp.env (I : Inp) (f1 f8 rd : Prop) (u1 u2 : Bool) : Env := ⟨I.int, I.bool f1 f8 rd, I.str, I.val, I.W, I.al u1 u2⟩
theorem Inp.lens (I : Inp) (f1 f8 rd : Prop) (u1 u2 : Bool) : LensOK (I.env f1 f8 rd u1 u2) := fun i => by
  show I.int (500 + i) = (I.str i).size
  have h : ¬ 500 + i < 9 := by omega
  simp only [Inp.int]
  rw [if_neg (by omega), if_neg (by omega), if_neg (by omega), if_neg (by omega), if_neg (by omega), if_neg (by omega), if_neg (by omega), if_neg (by omega), if_neg (by omega), if_neg (by omega), if_neg (by omega), if_neg (by omega), if_neg (by omega), if_neg (by omega), if_neg (by omega)]
  rw [show 500 + i - 500 = i by omega]
theorem getD_size {l : List ByteArray} (h : ∀ s ∈ l, s.size ≤ maxLen) (i : Nat) : (l.getD i .empty).size ≤ maxLen := by
  rw [List.getD_eq_getElem?_getD]
  cases e : l[i]? with
  | none => simp [maxLen]
  | some s => exact h s (List.mem_of_getElem? e)
theorem bytes_size (l : List Nat) : (bytesOfNats l).size = l.length := by simp [bytesOfNats, ByteArray.size]
theorem Inp.strs_ok {I : Inp} (h : I.OK) {f1 f8 rd : Prop} {u1 u2 : Bool} : StrsOK (I.env f1 f8 rd u1 u2) := fun i => by
  show (I.str i).size ≤ maxLen
  have he : (ByteArray.empty).size ≤ maxLen := by simp [maxLen]
  unfold Inp.str
  split
  · exact getD_size h.xR i
  · split
    · exact he
    · split
      · split
        · rename_i hc
          rw [bytes_size]
          have := (changeB_len (id := (I.ids.getD (i - 20) 0).toNat) (tx := nats (I.strs.getD (i - 20) .empty)) (by omega) (by rw [nats_len]; exact hc.1)).2
          unfold maxLen
          omega
        · exact he
      · exact he
theorem Inp.mar_ok {I : Inp} (h : I.OK) {f1 f8 rd : Prop} {u1 u2 : Bool} {K : Nat} (hK : K ≤ 9) (hid : ∀ i, i < K → 0 < I.ids.getD i 0 ∧ I.ids.getD i 0 < 1099511627776) (hs : ∀ i, i < K → (I.strs.getD i .empty).size ≤ 100) :
    MarOK (I.env f1 f8 rd u1 u2) K := fun i hi => by
  obtain ⟨h0, h1⟩ := hid i hi
  have h2 := hs i hi
  have e1 : (I.env f1 f8 rd u1 u2).str i = I.strs.getD i .empty := by
    show I.str i = _
    rw [Inp.str, if_pos (by omega)]
  have e2 : (I.env f1 f8 rd u1 u2).str (20 + i) = bytesOfNats (changeB (I.ids.getD i 0).toNat (nats (I.strs.getD i .empty))) := by
    show I.str (20 + i) = _
    rw [Inp.str, if_neg (by omega), if_neg (by omega), if_pos (by omega)]
    rw [show 20 + i - 20 = i by omega, if_pos ⟨h2, h1⟩]
  refine ⟨(I.ids.getD i 0).toNat, ?_, by omega, by rw [e1]; exact h2, ?_⟩
  · show I.int i = _
    rw [Inp.int, if_pos (by omega)]
    omega
  · rw [e2, e1]
    exact nats_of (changeB_lt (by rw [nats_len]; exact h2) (nats_lt _))
theorem sorted_unique {a b : List Int} (hp : a.Perm b) (ha : a.Pairwise (· ≤ ·)) (hb : b.Pairwise (· ≤ ·)) : a = b :=
  hp.eq_of_pairwise (fun x y _ _ h1 h2 => Int.le_antisymm h1 h2) ha hb
theorem Inp.sort_ok (I : Inp) (f1 f8 rd : Prop) (u1 u2 : Bool) : SortOK (I.env f1 f8 rd u1 u2) := fun m hm ts hp hs => by
  have e1 : (List.range m).map (I.env f1 f8 rd u1 u2).int = (List.range m).map fun j => I.ids.getD j 0 := List.map_congr_left (fun j hj => by
    have := List.mem_range.1 hj
    show I.int j = _
    rw [Inp.int, if_pos (by omega)])
  rw [e1] at hp
  obtain ⟨us, hus, hup, huS⟩ := sorted_facts ((List.range m).map fun j => I.ids.getD j 0)
  have hst : sortI ((List.range m).map fun j => I.ids.getD j 0) = us := by
    unfold sortI
    rw [hus]
  have htu : ts = us := sorted_unique (hp.trans hup.symm) hs huS
  have hul : us.length = m := by have := hup.length_eq; simpa using this
  apply List.ext_getElem?
  intro k
  by_cases hk : k < m
  · rw [List.getElem?_map, List.getElem?_range hk]
    show ts[k]? = some (I.int (100 + 16 * m + k))
    have hd : (100 + 16 * m + k - 100) / 16 = m := by omega
    have hmo : (100 + 16 * m + k - 100) % 16 = k := by omega
    simp only [Inp.int]
    rw [if_neg (by omega), if_neg (by omega), if_neg (by omega), if_neg (by omega), if_neg (by omega), if_neg (by omega), if_neg (by omega), if_neg (by omega), if_neg (by omega), if_neg (by omega), if_neg (by omega), if_pos (by omega)]
    rw [hd, hmo, hst, htu, List.getD_eq_getElem?_getD, List.getElem?_eq_getElem (by omega)]
    rfl
  · rw [List.getElem?_eq_none (by rw [htu]; omega), List.getElem?_eq_none (by simp; omega)]
end Go.Sx
end
/-
  FnBoot's guards: their contracts.
-/
noncomputable section
namespace Go.Sx
open Go.RowKit (Below)
open Go.Proofs
set_option linter.unusedVariables false
set_option linter.unusedSimpArgs false
section
variable {ρ : Env} {c : Cfg} {α : Al} {P : Program} {s s' : St} {w w' : World}
theorem beqVs_eq : ∀ {a b : List V}, cBool.beqVs a b = true → a = b
  | [], [], _ => rfl
  | [], _ :: _, h => by cases h
  | _ :: _, [], h => by cases h
  | a :: x, b :: y, h => by
    simp only [cBool.beqVs, Bool.and_eq_true] at h
    rw [V.beq_eq h.1, beqVs_eq h.2]
theorem con_cBool {f : FuncId} {args0 : List V} {i : Nat}
    (h : ∀ s α w vals, Rel Tryz.prog ρ α s w → All2 (VR ρ α) args0 vals.toList → Calls Tryz.prog f vals w fun e w' => e = .returned (.bool (ρ.bool i)) ∧ Below w.heap.size w w') : ConOK Tryz.prog ρ f (cBool args0 i) := by
  intro call hcall args s v s' hk α w vals hR hv
  unfold cBool at hk
  split at hk
  rotate_left
  · cases hk
  rename_i hb
  have := beqVs_eq hb
  subst this
  simp only [Option.some.injEq, Prod.mk.injEq] at hk
  obtain ⟨rfl, rfl⟩ := hk
  refine (h s α w vals hR hv).mono ?_
  rintro e w' ⟨rfl, hB⟩
  exact ⟨_, rfl, Post.grow hR hB rfl⟩

theorem All2.eq_map {β γ : Type} {R : β → γ → Prop} {g : β → γ} : ∀ {l : List β} {m : List γ}, (∀ a ∈ l, ∀ b, R a b → b = g a) → All2 R l m → m = l.map g
  | [], [], _, _ => rfl
  | [], _ :: _, _, h => h.elim
  | _ :: _, [], _, h => h.elim
  | a :: l, b :: m, h, hh => by
    rw [List.map_cons, h a (by simp) b hh.1, All2.eq_map (fun x hx => h x (List.mem_cons_of_mem _ hx)) hh.2]
theorem All2.cut {β γ : Type} {R : β → γ → Prop} : ∀ {l1 l2 : List β} {m : List γ}, All2 R (l1 ++ l2) m → ∃ m1 m2, m = m1 ++ m2 ∧ All2 R l1 m1 ∧ All2 R l2 m2
  | [], l2, m, h => ⟨[], m, rfl, trivial, h⟩
  | _ :: _, _, [], h => h.elim
  | a :: l1, l2, b :: m, h => by
    obtain ⟨m1, m2, e, h1, h2⟩ := All2.cut (l1 := l1) h.2
    exact ⟨b :: m1, m2, by rw [e]; rfl, ⟨h.1, h1⟩, h2⟩
/-- what a cell's value is, if it is no place -/
def cval (ρ : Env) : C → Value
  | .a (.int k e) => .int k (e.den ρ)
  | .a (.bool b) => .bool (b.den ρ)
  | .a (.str s) => .string (s.den ρ)
  | .a (.ob i) => ρ.val i
  | .a (.slice none _ _) => .slice none 0 0
  | _ => .bool false
def plainC : C → Bool
  | .a (.int _ _) | .a (.bool _) | .a (.str _) | .a (.ob _) | .a (.slice none _ _) => true
  | _ => false
theorem cval_eq {x : C} (hx : plainC x = true) {v : Value} (h : CR ρ α x v) : v = cval ρ x := by
  unfold plainC at hx
  split at hx
  · exact h
  · exact h
  · exact h
  · exact h.1
  · exact h.1
  · cases hx
theorem cvals_eq {l : List C} (hl : l.all plainC = true) {m : List Value} (h : All2 (CR ρ α) l m) : m = l.map (cval ρ) :=
  All2.eq_map (fun a ha b hb => cval_eq (List.all_eq_true.1 hl a ha) hb) h
end

section inp
variable {I : Inp} {f1 f8 rd : Prop} {u1 u2 : Bool} {α : Al} {s : St} {w : World}
theorem args_one' {ρ : Env} {α : Al} {v : V} {vals : Array Value} (hv : All2 (VR ρ α) [v] vals.toList) : ∃ u, vals = #[u] ∧ VR ρ α v u := args_one hv
theorem setup_val {mu : E} (hmu : mu.den (I.env f1 f8 rd u1 u2) = I.mu) {v : Value} (h : VR (I.env f1 f8 rd u1 u2) α (sArg mu) v) : v = I.setup := by
  obtain ⟨xs, rfl, hall⟩ := h
  have := cvals_eq (by rfl) hall
  unfold Inp.setup
  congr 1
  apply Array.toList_inj.1
  rw [this]
  simp only [List.map_cons, List.map_nil, cval, uv, ov, bv, E.den, B.den, hmu]
  rfl

theorem Sl.OK.lt {W : World} {s : Sl} (h : s.OK W) {a : Addr} (hp : s.p = some a) : a.block < W.heap.size := by
  obtain ⟨_, xs, e, fz, hb⟩ := h.blk a hp
  exact (Array.getElem?_eq_some_iff.1 hb).1
theorem Sl.OK.at_iff {W w : World} {s : Sl} (h : s.OK W) (hB : Below W.heap.size W w) {j : Nat} {v : Value} : s.at w j v ↔ s.at W j v := by
  constructor
  · rintro ⟨a, ha, hc⟩
    exact ⟨a, ha, by rw [← hB.cell (p := ⟨a.block, a.off + j, none⟩) (show a.block < _ from h.lt ha)]; exact hc⟩
  · rintro ⟨a, ha, hc⟩
    exact ⟨a, ha, by rw [hB.cell (p := ⟨a.block, a.off + j, none⟩) (show a.block < _ from h.lt ha)]; exact hc⟩
theorem Sl.OK.some_of {W : World} {s : Sl} (h : s.OK W) (hn : s.n ≠ 0) : ∃ b o, s.p = some ⟨b, o, none⟩ ∧ b < W.heap.size := by
  cases hp : s.p with
  | none => exact absurd (h.nil hp).1 hn
  | some a =>
    have hl := h.lt hp
    obtain ⟨hs, _⟩ := h.blk a hp
    cases a with
    | mk b o sp =>
      simp at hs
      subst hs
      exact ⟨b, o, rfl, hl⟩
theorem Sl.at_eq {w : World} {s : Sl} {b o j : Nat} {v : Value} (hp : s.p = some ⟨b, o, none⟩) : s.at w j v ↔ w.cell? ⟨b, o + j, none⟩ = some v := by
  constructor
  · rintro ⟨a, ha, hc⟩
    rw [hp] at ha; cases ha; exact hc
  · intro h; exact ⟨_, hp, h⟩
def Inp.F4 (I : Inp) : Prop := I.s21.n ≤ 2147483647 ∧ ∀ j, j < I.s21.n → ∀ s, I.s21.at I.W (j * 4 + 3) (.string s) → s.size ≤ 2147483647
def Inp.F1 (I : Inp) : Prop := I.rand.n ≤ 2147483647 ∧ (I.bd.size ≤ 2147483647 ∧ Fit3 I.s16.n I.s17.n I.s18.n I.s19.n) ∧ I.F4
def Inp.F8 (I : Inp) : Prop := I.ctx.n ≤ 2147483647 ∧ ∀ j, j < I.ctx.n → ∀ s, I.ctx.at I.W j (.string s) → s.size ≤ 2147483647
def Inp.Rd (I : Inp) : Prop := Fine I.id I.el I.hb I.ms I.mc I.mu I.inf I.cq I.ls ∧ RandFit I.W I.rand.loc.block I.rand.loc.base I.rand.n I.el
noncomputable abbrev Inp.ρ (I : Inp) (u1 u2 : Bool) : Env := I.env I.F1 I.F8 I.Rd u1 u2
theorem bool_dec {p : Prop} {b : Bool} (h : b = true ↔ p) : b = @decide p (Classical.propDecidable p) := by
  by_cases hp : p
  · rw [h.2 hp]; simp [hp]
  · cases b with
    | true => exact absurd (h.1 rfl) hp
    | false => simp [hp]
theorem fits4_inp (hI : I.OK) (hB : Below I.W.heap.size I.W w) : Calls Tryz.prog 20 #[I.s21.val] w (TellsB I.F4 w) := by
  by_cases hn : I.s21.n = 0
  · have hF : I.F4 := ⟨by omega, fun j hj => by omega⟩
    unfold Sl.val
    rw [hn]
    refine (fits4_none _ _ w).mono ?_
    rintro e w' ⟨b, rfl, hiff, hB'⟩
    exact ⟨b, rfl, by rw [hiff]; simp [hF], hB'⟩
  · obtain ⟨b, o, hp, hlt⟩ := hI.s21.some_of hn
    have hlw : b < w.heap.size := Nat.lt_of_lt_of_le hlt hB.size
    have hat : ∀ j v, I.s21.at I.W j v → w.cell? ⟨b, o + j, none⟩ = some v := fun j v h => (Sl.at_eq hp).1 ((hI.s21.at_iff hB).2 h)
    unfold Sl.val
    rw [hp]
    refine (fits4_some b o I.s21.n I.s21.c w hlw ?_).mono ?_
    · intro j hj
      obtain ⟨x, y, z, s, hs, h0, h1, h2, h3⟩ := hI.s21C j hj
      refine ⟨x, y, z, s, hs, hat _ _ h0, ?_, ?_, ?_⟩
      · have := hat _ _ h1; rwa [← Nat.add_assoc] at this
      · have := hat _ _ h2; rwa [← Nat.add_assoc] at this
      · have := hat _ _ h3; rwa [← Nat.add_assoc] at this
    · rintro e w' ⟨t, rfl, hiff, hB'⟩
      refine ⟨t, rfl, ?_, hB'⟩
      rw [hiff]
      unfold Fit4 Inp.F4
      refine and_congr Iff.rfl (forall_congr' fun j => forall_congr' fun hj => forall_congr' fun s => ?_)
      rw [Nat.add_assoc, ← Sl.at_eq hp, hI.s21.at_iff hB]
theorem con_fits1 (hI : I.OK) {mu : E} (hmu : mu.den (I.ρ u1 u2) = I.mu) : ConOK Tryz.prog (I.ρ u1 u2) 5 (cBool [sArg mu] 40) := by
  refine con_cBool fun s α w vals hR hv => ?_
  obtain ⟨v, rfl, hx⟩ := args_one' hv
  have := setup_val hmu hx
  subst this
  refine (fits1_any _ _ _ _ _ _ _ _ _ _ _ _ _ _ _ _ _ _ _ _ _ _ _ hI.bd _ _ _ _ _ _ _ _ _ _ _ _ _ _ _ w I.F4 (fun w' hB => fits4_inp hI (hR.below.trans (hB.mono hR.below.size)))).mono ?_
  rintro e w' ⟨b, rfl, hiff, hB⟩
  refine ⟨?_, hB⟩
  have : b = (I.ρ u1 u2).bool 40 := bool_dec hiff
  rw [this]
/-- a slice's value, but for where an empty one lies -/
def PV (s : Sl) (v : Value) : Prop := ∃ p, v = .slice p s.n s.c ∧ (p = s.p ∨ s.n = 0)
theorem con_fits8 (hI : I.OK) {cv : V} (hcv : ∀ s α w v, Rel Tryz.prog (I.ρ u1 u2) α s w → VR (I.ρ u1 u2) α cv v → PV I.ctx v) : ConOK Tryz.prog (I.ρ u1 u2) 6 (cBool [cv] 41) := by
  refine con_cBool fun s α w vals hR hv => ?_
  obtain ⟨v, rfl, hx⟩ := args_one' hv
  obtain ⟨p, rfl, hp⟩ := hcv s α w v hR hx
  have hB : Below I.W.heap.size I.W w := hR.below
  by_cases hn : I.ctx.n = 0
  · have hF : I.F8 := ⟨by omega, fun j hj => by omega⟩
    rw [hn]
    refine (fits8_none _ _ w).mono ?_
    rintro e w' ⟨b, rfl, hiff, rfl⟩
    refine ⟨?_, Below.refl _ _⟩
    have : b = (I.ρ u1 u2).bool 41 := bool_dec (by rw [hiff]; simp [hF])
    rw [this]
  · obtain rfl : p = I.ctx.p := hp.resolve_right hn
    obtain ⟨b, o, hp, hlt⟩ := hI.ctx.some_of hn
    rw [hp]
    refine (fits8_some b o I.ctx.n I.ctx.c w ?_).mono ?_
    · intro j hj
      obtain ⟨s, hs⟩ : ∃ s, I.strs[j]? = some s := ⟨I.strs[j]'(by rw [hI.xn]; exact hj), List.getElem?_eq_getElem _⟩
      exact ⟨s, hI.xR s (List.mem_of_getElem? hs), (Sl.at_eq hp).1 ((hI.ctx.at_iff hB).2 (hI.xC j s hs))⟩
    · rintro e w' ⟨t, rfl, hiff, rfl⟩
      refine ⟨?_, Below.refl _ _⟩
      have : t = (I.ρ u1 u2).bool 41 := bool_dec (by
        rw [hiff]
        unfold Fit8 Inp.F8
        refine and_congr Iff.rfl (forall_congr' fun j => forall_congr' fun hj => forall_congr' fun s => ?_)
        rw [← Sl.at_eq hp, hI.ctx.at_iff hB])
      rw [this]
theorem con_once (hI : I.OK) {pv : V} (hpv : ∀ s α w v, Rel Tryz.prog (I.ρ u1 u2) α s w → VR (I.ρ u1 u2) α pv v → PV I.peers v) : ConOK Tryz.prog (I.ρ u1 u2) 8 (cBool [pv] 43) := by
  refine con_cBool fun s α w vals hR hv => ?_
  obtain ⟨v, rfl, hx⟩ := args_one' hv
  obtain ⟨p, rfl, hp⟩ := hpv s α w v hR hx
  have hB : Below I.W.heap.size I.W w := hR.below
  by_cases hn : I.peers.n = 0
  · have hF : I.ids.Nodup := by
      have : I.ids = [] := List.eq_nil_of_length_eq_zero (by rw [hI.pn, hn])
      rw [this]; simp
    rw [hn]
    refine (once_none _ _ w).mono ?_
    rintro e w' ⟨b, rfl, hiff, rfl⟩
    refine ⟨?_, Below.refl _ _⟩
    have : b = (I.ρ u1 u2).bool 43 := by
      show b = decide I.ids.Nodup
      rw [hiff.2 trivial]; simp [hF]
    rw [this]
  · obtain rfl : p = I.peers.p := hp.resolve_right hn
    obtain ⟨b, o, hp, hlt⟩ := hI.peers.some_of hn
    rw [hp, ← hI.pn]
    have hle := hI.peers.le
    have hmx := hI.peers.max
    refine (once_some b o I.peers.c I.ids w ⟨Nat.lt_of_lt_of_le hlt hB.size, fun j x hj => (Sl.at_eq hp).1 ((hI.peers.at_iff hB).2 (hI.pC j x hj))⟩ (by rw [hI.pn]; omega) (by rw [hI.pn]; exact hle) hmx).mono ?_
    rintro e w' ⟨t, rfl, hiff, rfl⟩
    refine ⟨?_, Below.refl _ _⟩
    have : t = (I.ρ u1 u2).bool 43 := by
      show t = decide I.ids.Nodup
      by_cases hd : I.ids.Nodup
      · rw [hiff.2 hd]; simp [hd]
      · cases t with
        | true => exact absurd (hiff.1 rfl) hd
        | false => simp [hd]
    rw [this]
end inp
end Go.Sx
end
/-
  FnBoot's guards: ready's contract. (Printed by gen_guard2.py.)
-/
noncomputable section
namespace Go.Sx
open Go.RowKit (Below)
open Go.Proofs
set_option linter.unusedVariables false
set_option linter.unusedSimpArgs false
section inp
variable {I : Inp} {u1 u2 : Bool} {α : Al} {s : St} {w : World} {vb vo vc : Nat}
def Inp.set0 (I : Inp) : Setup0 := ⟨I.id, I.el, I.hb, I.rand.val, I.pv, I.cq, I.ls, I.nf, I.sd, I.ms, I.mc, I.mu, I.inf⟩
theorem randFit_iff (hI : I.OK) (hB : Below I.W.heap.size I.W w) {b o : Nat} (hp : I.rand.p = some ⟨b, o, none⟩) : RandFit w b o I.rand.n I.el ↔ RandFit I.W I.rand.loc.block I.rand.loc.base I.rand.n I.el := by
  have e1 : I.rand.loc.block = b := by simp [Sl.loc, hp]
  have e2 : I.rand.loc.base = o := by simp [Sl.loc, hp]
  rw [e1, e2]
  unfold RandFit
  refine and_congr Iff.rfl (forall_congr' fun j => forall_congr' fun hj => forall_congr' fun x => ?_)
  rw [hB.cell (p := ⟨b, o + j, none⟩) (show b < _ from hI.rand.lt hp)]
theorem yes_inp (hI : I.OK) (hB : Below I.W.heap.size I.W w) (hvc : w.cell? ⟨vb, vo, none⟩ = some (.int .u64 1)) (hvc1 : 1 ≤ vc) (hR : I.Rd) : Calls Tryz.prog 7 #[I.set0.val vb vo vc] w fun e w' => e = .returned (.bool true) ∧ Below w.heap.size w w' := by
  obtain ⟨hF, hr, hc⟩ := hR
  cases hp : I.rand.p with
  | none =>
    obtain ⟨h1, h2⟩ := hI.rand.nil hp
    exact readyNil I.set0 (by show I.rand.val = _; unfold Sl.val; rw [hp, h1, h2]) hvc hvc1 hF hI.ms hI.mc
  | some a =>
    obtain ⟨hsp, xs, e, fz, hb⟩ := hI.rand.blk a hp
    have hlt := hI.rand.lt hp
    have ha : a = ⟨a.block, a.off, none⟩ := by cases a; simp at hsp; subst hsp; rfl
    have e1 : I.rand.loc.block = a.block := by simp [Sl.loc, hp]
    have e2 : I.rand.loc.base = a.off := by simp [Sl.loc, hp]
    rw [e1, e2] at hc
    have hx : ∀ j, ∃ x : Int, j < I.rand.n → w.cell? ⟨a.block, a.off + j, none⟩ = some (.int .i64 x) ∧ 0 ≤ x ∧ x < I.el := by
      intro j
      by_cases hj : j < I.rand.n
      · obtain ⟨x, hx⟩ := hI.randC j hj
        have hx2 : I.W.cell? ⟨a.block, a.off + j, none⟩ = some (.int .i64 x) := by
          obtain ⟨a', ha', hc'⟩ := hx
          rw [hp] at ha'; cases ha'; exact hc'
        refine ⟨x, fun _ => ⟨?_, hc j hj x hx2⟩⟩
        rw [hB.cell (p := ⟨a.block, a.off + j, none⟩) (show a.block < _ from hlt)]
        exact hx2
      · exact ⟨0, fun h => absurd h hj⟩
    obtain ⟨X, hX⟩ := Classical.axiomOfChoice hx
    refine readyRow I.set0 (rb := a.block) (ro := a.off) (rn := I.rand.n) (rc := I.rand.c) (a := a) (by show I.rand.val = _; unfold Sl.val; rw [hp]) (.inr ha) hI.rand.le ⟨xs, e, fz, by rw [hB.block _ hlt]; exact hb⟩ hvc hvc1 hF hI.ms hI.mc hr (X := X) (fun j hj => hX j hj)
theorem ready_inp (hI : I.OK) (hB : Below I.W.heap.size I.W w) (hvc : w.cell? ⟨vb, vo, none⟩ = some (.int .u64 1)) (hvc1 : 1 ≤ vc) : Calls Tryz.prog 7 #[I.set0.val vb vo vc] w (TellsB I.Rd w) := by
  have hy := fun h => yes_inp hI hB hvc hvc1 h
  by_cases hn : I.rand.n = 0
  · have hrf : ∀ (w : World) (b o : Nat), RandFit w b o 0 I.el := fun w b o => ⟨by omega, fun j hj => by omega⟩
    have hRd : I.Rd ↔ Fine I.id I.el I.hb I.ms I.mc I.mu I.inf I.cq I.ls ∧ RandFit w 0 0 0 I.el := by
      unfold Inp.Rd
      rw [hn]
      exact and_congr Iff.rfl ⟨fun _ => hrf _ _ _, fun _ => hrf _ _ _⟩
    have hv : I.set0.val vb vo vc = .agg #[.int .u64 I.id, .int .i64 I.el, .int .i64 I.hb, .slice I.rand.p 0 I.rand.c, .bool I.pv, .bool I.cq, .bool I.ls, .bool I.nf, .bool I.sd, .int .u64 I.ms, .int .u64 I.mc, .int .u64 I.mu, .int .i64 I.inf, .string .empty, .int .u64 1, .int .u64 1, .slice (some ⟨vb, vo, none⟩) 1 vc, .slice none 0 0, .slice none 0 0, .slice none 0 0, .bool false, .slice none 0 0, .int .u64 1, .int .u64 0, .int .u64 1, .int .u64 0] := by
      unfold Setup0.val Inp.set0 Sl.val
      rw [hn]
    rw [hv] at hy ⊢
    have key : Calls Tryz.prog 7 #[.agg #[.int .u64 I.id, .int .i64 I.el, .int .i64 I.hb, .slice I.rand.p 0 I.rand.c, .bool I.pv, .bool I.cq, .bool I.ls, .bool I.nf, .bool I.sd, .int .u64 I.ms, .int .u64 I.mc, .int .u64 I.mu, .int .i64 I.inf, .string .empty, .int .u64 1, .int .u64 1, .slice (some ⟨vb, vo, none⟩) 1 vc, .slice none 0 0, .slice none 0 0, .slice none 0 0, .bool false, .slice none 0 0, .int .u64 1, .int .u64 0, .int .u64 1, .int .u64 0]] w (TellsB (Fine I.id I.el I.hb I.ms I.mc I.mu I.inf I.cq I.ls ∧ RandFit w 0 0 0 I.el) w) := by
      have hy2 : Fine I.id I.el I.hb I.ms I.mc I.mu I.inf I.cq I.ls → RandFit w 0 0 0 I.el → _ := fun h1 h2 => hy (hRd.2 ⟨h1, h2⟩)
      cases hls : I.ls <;> cases hcq : I.cq <;> rw [hls, hcq] at hy2
      · exact ready_none_ff _ _ _ _ _ _ _ _ _ _ _ _ _ _ _ _ _ _ hy2
      · exact ready_none_ft _ _ _ _ _ _ _ _ _ _ _ _ _ _ _ _ _ _ hy2
      · exact ready_none_tf _ _ _ _ _ _ _ _ _ _ _ _ _ _ _ _ _ _
      · exact ready_none_tt _ _ _ _ _ _ _ _ _ _ _ _ _ _ _ _ _ _ hy2
    refine key.mono ?_
    rintro e w' ⟨b, rfl, hiff, hB'⟩
    exact ⟨b, rfl, by rw [hiff, hRd], hB'⟩
  · obtain ⟨b, o, hp, hlt⟩ := hI.rand.some_of hn
    have hRd : I.Rd ↔ Fine I.id I.el I.hb I.ms I.mc I.mu I.inf I.cq I.ls ∧ RandFit w b o I.rand.n I.el := and_congr Iff.rfl (randFit_iff hI hB hp).symm
    have hv : I.set0.val vb vo vc = .agg #[.int .u64 I.id, .int .i64 I.el, .int .i64 I.hb, .slice (some ⟨b, o, none⟩) I.rand.n I.rand.c, .bool I.pv, .bool I.cq, .bool I.ls, .bool I.nf, .bool I.sd, .int .u64 I.ms, .int .u64 I.mc, .int .u64 I.mu, .int .i64 I.inf, .string .empty, .int .u64 1, .int .u64 1, .slice (some ⟨vb, vo, none⟩) 1 vc, .slice none 0 0, .slice none 0 0, .slice none 0 0, .bool false, .slice none 0 0, .int .u64 1, .int .u64 0, .int .u64 1, .int .u64 0] := by
      unfold Setup0.val Inp.set0 Sl.val
      rw [hp]
    rw [hv] at hy ⊢
    have hlw : b < w.heap.size := Nat.lt_of_lt_of_le hlt hB.size
    have hrc : ∀ j, j < I.rand.n → ∃ x, w.cell? ⟨b, o + j, none⟩ = some (.int .i64 x) := fun j hj => by
      obtain ⟨x, hx⟩ := hI.randC j hj
      exact ⟨x, (Sl.at_eq hp).1 ((hI.rand.at_iff hB).2 hx)⟩
    have key : Calls Tryz.prog 7 #[.agg #[.int .u64 I.id, .int .i64 I.el, .int .i64 I.hb, .slice (some ⟨b, o, none⟩) I.rand.n I.rand.c, .bool I.pv, .bool I.cq, .bool I.ls, .bool I.nf, .bool I.sd, .int .u64 I.ms, .int .u64 I.mc, .int .u64 I.mu, .int .i64 I.inf, .string .empty, .int .u64 1, .int .u64 1, .slice (some ⟨vb, vo, none⟩) 1 vc, .slice none 0 0, .slice none 0 0, .slice none 0 0, .bool false, .slice none 0 0, .int .u64 1, .int .u64 0, .int .u64 1, .int .u64 0]] w (TellsB (Fine I.id I.el I.hb I.ms I.mc I.mu I.inf I.cq I.ls ∧ RandFit w b o I.rand.n I.el) w) := by
      have hy2 : Fine I.id I.el I.hb I.ms I.mc I.mu I.inf I.cq I.ls → RandFit w b o I.rand.n I.el → _ := fun h1 h2 => hy (hRd.2 ⟨h1, h2⟩)
      cases hls : I.ls <;> cases hcq : I.cq <;> rw [hls, hcq] at hy2
      · exact ready_some_ff _ _ _ _ _ _ _ _ _ _ _ _ _ _ _ _ _ _ hlw hrc hy2
      · exact ready_some_ft _ _ _ _ _ _ _ _ _ _ _ _ _ _ _ _ _ _ hlw hrc hy2
      · exact ready_some_tf _ _ _ _ _ _ _ _ _ _ _ _ _ _ _ _ _ _ hlw hrc
      · exact ready_some_tt _ _ _ _ _ _ _ _ _ _ _ _ _ _ _ _ _ _ hlw hrc hy2
    refine key.mono ?_
    rintro e w' ⟨t, rfl, hiff, hB'⟩
    exact ⟨t, rfl, by rw [hiff, hRd], hB'⟩
theorem slOf_eq (hI : I.OK) {c : C} {r : Nat} {cp : Option E} (h : slOf c = some (r, cp)) : c = .a (.slice (some (r, 0)) (.lit 1) cp) := by
  unfold slOf at h
  split at h
  · cases h; rfl
  · cases h
theorem oneRow_eq (hI : I.OK) {o : Option Obj} (h : oneRow o = true) : ∃ r e, o = some (.row (.a (.int .u64 (.lit 1)) :: r) e) := by
  unfold oneRow at h
  split at h
  · exact ⟨_, _, rfl⟩
  · cases h
theorem con_ready (hI : I.OK) {mu : E} (hmu : mu.den (I.ρ u1 u2) = I.mu) : ConOK Tryz.prog (I.ρ u1 u2) 7 (cReady mu) := by
  intro call hcall args s v s' h α w vals hR hv
  unfold cReady at h
  split at h
  rotate_left
  · cases h
  rename_i cs hargs
  obtain ⟨a0, ha0, ha1⟩ := Option.bind_eq_some_iff.1 hargs
  have := oneArg_eq ha0; subst this
  have := aggOf'_eq ha1; subst this
  split at h
  rotate_left
  · cases h
  rename_i r cp hsl
  obtain ⟨c16, h16, hc16⟩ := Option.bind_eq_some_iff.1 hsl
  split at h
  rotate_left
  · cases h
  rename_i hb
  rw [Bool.and_eq_true] at hb
  simp only [Option.some.injEq, Prod.mk.injEq] at h
  obtain ⟨rfl, rfl⟩ := h
  obtain ⟨rest, e, hrow⟩ := oneRow_eq hI hb.1
  have hcs := beqCs_eq hb.2
  obtain ⟨u, rfl, hx⟩ := args_one' hv
  obtain ⟨xs, rfl, hall⟩ := hx
  rw [hcs] at hall
  have hsp : setupAt mu r cp = (setupAt mu r cp).take 16 ++ (.a (.slice (some (r, 0)) (.lit 1) cp) :: (setupAt mu r cp).drop 17) := rfl
  rw [hsp] at hall
  obtain ⟨m1, m2, hxs, hm1, hm2⟩ := All2.cut hall
  cases m2 with
  | nil => exact hm2.elim
  | cons v16 m3 =>
    obtain ⟨hv16, hm3⟩ := hm2
    have e1 := cvals_eq (by rfl) hm1
    have e3 := cvals_eq (by rfl) hm3
    obtain ⟨l, a, ln, c, hα, rfl, hln, hle, hcap, ha, _⟩ := hv16
    have hln1 : ln = 1 := by
      have : (ln : Int) = 1 := hln
      omega
    subst hln1
    have ha' : a = ⟨l.block, l.base + 0 * l.esz, none⟩ := ha.resolve_left (by omega)
    subst ha'
    obtain ⟨ys, hbk, hz1, hz2, hz3, hz4⟩ := hR.obj _ _ _ hrow hα
    obtain ⟨y, hy, hyv⟩ := hz4 0 _ rfl
    have hyv' : y = .int .u64 1 := hyv
    subst hyv'
    have hcell : w.cell? ⟨l.block, l.base + 0 * l.esz, none⟩ = some (.int .u64 1) := by
      unfold World.cell?
      rw [hbk]
      simpa using hy
    have hval : (Value.agg xs) = I.set0.val l.block (l.base + 0 * l.esz) c := by
      unfold Setup0.val Inp.set0
      congr 1
      apply Array.toList_inj.1
      rw [hxs, e1, e3]
      simp only [setupAt, List.take, List.drop, List.map_cons, List.map_nil, cval, uv, ov, bv, nils, E.den, B.den, S.den, hmu, List.cons_append, List.nil_append]
      rfl
    rw [hval]
    refine (ready_inp hI hR.below hcell hle).mono ?_
    rintro e w' ⟨b, rfl, hiff, hB⟩
    have : b = (I.ρ u1 u2).bool 42 := bool_dec hiff
    exact ⟨_, rfl, Post.grow hR hB (by show _ = Value.bool ((I.ρ u1 u2).bool 42); rw [this])⟩
end inp
end Go.Sx
end
/-
  FnBoot, by class: what a run of the executor shows.
-/
noncomputable section
namespace Go.Sx
open Go.RowKit (Below)
open Go.Proofs
set_option linter.unusedVariables false
set_option linter.unusedSimpArgs false
theorem con_callErr {ρ : Env} : ConOK Tryz.prog ρ 36 cCallErr := by
  intro call hcall args s v s' h α w vals hR hv
  unfold cCallErr at h
  split at h
  · rename_i hargs
    obtain ⟨a0, ha0, hm0⟩ := Option.bind_eq_some_iff.1 hargs
    have := oneArg_eq ha0; subst this
    have := cellOf_eq hm0; subst this
    obtain ⟨u, rfl, hx⟩ := args_one hv
    simp only [Option.some.injEq, Prod.mk.injEq] at h
    obtain ⟨rfl, rfl⟩ := h
    rw [show u = _ from hx]
    refine (callError_nil w).mono ?_
    rintro e w' ⟨rfl, rfl⟩
    exact ⟨_, rfl, Post.here hR rfl⟩
  · rename_i p hargs
    obtain ⟨a0, ha0, hm0⟩ := Option.bind_eq_some_iff.1 hargs
    have := oneArg_eq ha0; subst this
    have := cellOf_eq hm0; subst this
    obtain ⟨u, rfl, hx⟩ := args_one hv
    simp only [Option.some.injEq, Prod.mk.injEq] at h
    obtain ⟨rfl, rfl⟩ := h
    obtain ⟨y, rfl, hy⟩ := hx
    obtain ⟨q, rfl⟩ : ∃ q, y = .pointer q := by
      cases p with
      | none => exact ⟨none, hy⟩
      | some p => obtain ⟨l, _, e⟩ := hy; exact ⟨_, e⟩
    refine (callError_other q w).mono ?_
    rintro e w' ⟨rfl, rfl⟩
    exact ⟨_, rfl, Post.here hR rfl⟩
  · cases h
theorem isTrue_eq {o : Option V} (h : isTrue o = true) : o = some (vbool (.lit true)) := by
  unfold isTrue at h
  split at h
  · rfl
  · cases h
theorem sArg_rep {I : Inp} {u1 u2 : Bool} {mu : E} (hmu : mu.den (I.ρ u1 u2) = I.mu) (α : Al) : VR (I.ρ u1 u2) α (sArg mu) I.setup := by
  refine ⟨_, rfl, ?_⟩
  refine ⟨rfl, rfl, rfl, ⟨rfl, trivial⟩, rfl, rfl, rfl, rfl, rfl, rfl, rfl, ?_, rfl, ⟨rfl, trivial⟩, ⟨rfl, trivial⟩, ⟨rfl, trivial⟩, ⟨rfl, trivial⟩, ⟨rfl, trivial⟩, ⟨rfl, trivial⟩, ⟨rfl, trivial⟩, ⟨rfl, trivial⟩, ⟨rfl, trivial⟩, ⟨rfl, trivial⟩, ⟨rfl, trivial⟩, ⟨rfl, trivial⟩, ⟨rfl, trivial⟩, trivial⟩
  show _ = Value.int .u64 (mu.den (I.ρ u1 u2))
  rw [hmu]
/-- what a class says of an input -/
structure InCls (k : Cls) (I : Inp) (u1 u2 : Bool) : Prop where
  mu : k.mu.den (I.ρ u1 u2) = I.mu
  pv : ∀ s α w v, Rel Tryz.prog (I.ρ u1 u2) α s w → VR (I.ρ u1 u2) α k.pv v → PV I.peers v
  cv : ∀ s α w v, Rel Tryz.prog (I.ρ u1 u2) α s w → VR (I.ρ u1 u2) α k.cv v → PV I.ctx v
  pr : VR (I.ρ u1 u2) (I.al u1 u2) k.pv I.peers.val
  cr : VR (I.ρ u1 u2) (I.al u1 u2) k.cv I.ctx.val
  rel : Rel Tryz.prog (I.ρ u1 u2) (I.al u1 u2) ⟨mem0 k, 100⟩ I.W
  facts : FactsOK (I.ρ u1 u2) (factsOf k)
  mar : 1 ≤ k.lvl → MarOK (I.ρ u1 u2) k.K
  rand : k.lvl = 2 → RandOK (I.ρ u1 u2)
  self : k.lvl = 2 → ∀ n, n ≤ k.np → ∃ j ∈ selves n, FactsOK (I.ρ u1 u2) (factsSelf k n j)
  ctx : k.lvl = 2 → usesName 2 k.cv = true → CtxOK Tryz.prog (I.ρ u1 u2)
theorem ft_get {f : FuncId} {fn : Func} (h : FT.get f = some fn) : FT.get f = some fn := h
theorem con_all {k : Cls} {I : Inp} {u1 u2 : Bool} (hI : I.OK) (h : InCls k I u1 u2) : ∀ f c, conOf TT FT k f = some c → ConOK Tryz.prog (I.ρ u1 u2) f c := by
  intro f c hc
  have hcfg : CfgOK Tryz.prog (I.ρ u1 u2) (cfgOf TT FT k) := cfg_ok h.facts
  have hL : LensOK (I.ρ u1 u2) := I.lens _ _ _ _ _
  unfold conOf at hc
  split at hc
  · split at hc
    · rename_i h2
      split at hc
      · rename_i fn hfn
        simp only [Option.some.injEq] at hc
        subst hc
        exact con_soft hcfg (h.ctx h2.1 h2.2) hfn 100
      · cases hc
    · cases hc
  · split at hc
    · rename_i h2
      split at hc
      · rename_i fn hfn
        simp only [Option.some.injEq] at hc
        subst hc
        exact con_soft hcfg (h.ctx h2.1 h2.2) hfn 100
      · cases hc
    · cases hc
  · simp only [Option.some.injEq] at hc; subst hc; exact con_fits1 hI h.mu
  · simp only [Option.some.injEq] at hc; subst hc; exact con_fits8 hI h.cv
  · simp only [Option.some.injEq] at hc; subst hc; exact con_ready hI h.mu
  · simp only [Option.some.injEq] at hc; subst hc; exact con_once hI h.pv
  · split at hc
    · simp only [Option.some.injEq] at hc; subst hc; exact con_bytesOf (I.strs_ok hI)
    · cases hc
  · split at hc
    · rename_i h1; simp only [Option.some.injEq] at hc; subst hc; exact con_marshal h.facts hL (h.mar h1)
    · cases hc
  · split at hc
    · simp only [Option.some.injEq] at hc; subst hc; exact con_guarded hcfg
    · cases hc
  · split at hc
    · simp only [Option.some.injEq] at hc; subst hc; exact con_callErr
    · cases hc
  · split at hc
    · simp only [Option.some.injEq] at hc; subst hc; exact con_set h.facts (I.sort_ok _ _ _ _ _)
    · cases hc
  · split at hc
    · rename_i h2
      split at hc
      · rename_i fn hfn
        simp only [Option.some.injEq] at hc
        subst hc
        exact con_fork hcfg (fun n hn => by
          obtain ⟨j, hj, hfj⟩ := h.self h2 n hn
          exact ⟨_, List.mem_map.2 ⟨j, hj, rfl⟩, cfg_ok hfj⟩) hL hfn 100 4
      · cases hc
    · cases hc
  · split at hc
    · rename_i h2; simp only [Option.some.injEq] at hc; subst hc; exact con_unmarshal hL (h.mar (by omega))
    · cases hc
  · split at hc
    · simp only [Option.some.injEq] at hc; subst hc; exact con_checkCopy hcfg
    · cases hc
  · split at hc
    · simp only [Option.some.injEq] at hc; subst hc; exact con_symdiff h.facts
    · cases hc
  · split at hc
    · simp only [Option.some.injEq] at hc; subst hc; exact con_ids h.facts
    · cases hc
  · split at hc
    · rename_i h2; simp only [Option.some.injEq] at hc; subst hc; exact con_intn (h.rand h2)
    · cases hc
  · split at hc
    · simp only [Option.some.injEq] at hc; subst hc; exact con_checkInv h.facts
    · cases hc
  · split at hc
    · simp only [Option.some.injEq] at hc; subst hc; exact con_slice h.facts (I.sort_ok _ _ _ _ _)
    · cases hc
  · split at hc
    · simp only [Option.some.injEq] at hc; subst hc; exact con_clone1 h.facts
    · cases hc
  · cases hc
theorem class_ok {k : Cls} {I : Inp} {u1 u2 : Bool} (hI : I.OK) (h : InCls k I u1 u2) (hrun : isTrue (runBoot TT FT k) = true) :
    Calls Tryz.prog 3 #[I.setup, I.peers.val, I.ctx.val] I.W fun e w' => e = .returned (.bool true) ∧ Below I.W.heap.size I.W w' := by
  have hr := isTrue_eq hrun
  unfold runBoot at hr
  obtain ⟨⟨v1, s1⟩, h1, rfl⟩ := Option.map_eq_some_iff.1 hr
  refine (sx_run (ρ := I.ρ u1 u2) h.facts (I.lens _ _ _ _ _) (con_all hI h) h1 h.rel (vals := #[I.setup, I.peers.val, I.ctx.val]) ⟨sArg_rep h.mu _, h.pr, h.cr, trivial⟩).mono ?_
  rintro e w' ⟨x, rfl, α, hx, hB⟩
  rw [show x = _ from hx]
  exact ⟨rfl, hB⟩
end Go.Sx
end
/-
  FnBoot: which inputs lie in which class.
-/
noncomputable section
namespace Go.Sx
open Go.RowKit (Below)
open Go.Proofs
set_option linter.unusedVariables false
set_option linter.unusedSimpArgs false
theorem nodup_inj {l : List Int} (h : l.Nodup) {i j : Nat} (hi : i < l.length) (hj : j < l.length) (e : l[i] = l[j]) : i = j := by
  have hp := List.pairwise_iff_getElem.1 h
  rcases Nat.lt_trichotomy i j with h1 | h1 | h1
  · exact absurd e (hp i j hi hj h1)
  · exact h1
  · exact absurd e.symm (hp j i hj hi h1)
theorem cells9 : Tryz.prog.cellsOf 9 = 1 := by kernel_rfl
section
variable {I : Inp} {u1 u2 : Bool}
theorem int_lt9 {j : Nat} (h : j < 9) : I.int j = I.ids.getD j 0 := by rw [Inp.int, if_pos h]
theorem str_lt9 {j : Nat} (h : j < 9) : I.str j = I.strs.getD j .empty := by rw [Inp.str, if_pos h]
theorem int62 : I.int 62 = I.ctx.n := by simp [Inp.int]
theorem int63 : I.int 63 = I.peers.n := by simp [Inp.int]
theorem int20 : I.int 20 = I.id := by simp [Inp.int]
theorem int21 : I.int 21 = I.el := by simp [Inp.int]
theorem int22 : I.int 22 = I.hb := by simp [Inp.int]
theorem int23 : I.int 23 = I.ms := by simp [Inp.int]
theorem int24 : I.int 24 = I.mc := by simp [Inp.int]
theorem int25 : I.int 25 = I.inf := by simp [Inp.int]
theorem int26 : I.int 26 = I.mu := by simp [Inp.int]
theorem int_len (i : Nat) : I.int (500 + i) = (I.str i).size := I.lens True True True true true i
theorem int_draw {k : Nat} (h : k < 50) : I.int (300 + k) = I.draw k := by
  simp only [Inp.int]
  rw [if_neg (by omega), if_neg (by omega), if_neg (by omega), if_neg (by omega), if_neg (by omega), if_neg (by omega), if_neg (by omega), if_neg (by omega), if_neg (by omega), if_neg (by omega), if_neg (by omega), if_neg (by omega), if_pos (by omega), show 300 + k - 300 = k by omega]
theorem int_cnt {k : Nat} (h : k < 50) : I.int (351 + k) = if I.rand.n = 0 then 0 else ((k + 1 : Nat) : Int) := by
  simp only [Inp.int]
  rw [if_neg (by omega), if_neg (by omega), if_neg (by omega), if_neg (by omega), if_neg (by omega), if_neg (by omega), if_neg (by omega), if_neg (by omega), if_neg (by omega), if_neg (by omega), if_neg (by omega), if_neg (by omega), if_neg (by omega), if_neg (by omega), if_pos (by omega), show 351 + k - 350 = k + 1 by omega]

/-! #### places -/
theorem sl_pv {ρ : Env} {α : Al} {m : Nat} {e : E} {s : Sl} {W : World} (hs : s.OK W) {a : Addr} (hp : s.p = some a) (hal : ρ.al m = some s.loc) (hle : Al.le ρ.al α) (he : e.den ρ = s.n) {v : Value} (h : VR ρ α (.sc (sl m e)) v) : PV s v := by
  obtain ⟨l, b, ln, c, hα, rfl, hln, hlc, hcap, ha, hc⟩ := h
  have : α m = some s.loc := hle _ _ hal
  rw [this] at hα
  cases hα
  have hcc : c = s.c := by
    have : 0 + c = s.loc.cap := hc
    simpa [Sl.loc] using this
  subst hcc
  have hln' : ln = s.n := by rw [he] at hln; omega
  subst hln'
  refine ⟨some b, rfl, ?_⟩
  rcases ha with h0 | rfl
  · exact .inr (by have := hs.le; omega)
  · left
    obtain ⟨hsp, _⟩ := hs.blk a hp
    rw [hp]
    cases a with
    | mk b o sp =>
      simp at hsp
      subst hsp
      simp [Sl.loc, hp]
theorem sl_rep {ρ : Env} {m : Nat} {e : E} {s : Sl} {W : World} (hs : s.OK W) {a : Addr} (hp : s.p = some a) (hal : ρ.al m = some s.loc) (he : e.den ρ = s.n) : VR ρ ρ.al (.sc (sl m e)) s.val := by
  obtain ⟨hsp, _⟩ := hs.blk a hp
  refine ⟨s.loc, a, s.n, s.c, hal, by unfold Sl.val; rw [hp], he.symm, hs.le, by simp [Sl.loc], .inr ?_, by simp [Sl.loc]⟩
  cases a with
  | mk b o sp =>
    simp at hsp
    subst hsp
    simp [Sl.loc, hp]
theorem nil_pv {ρ : Env} {α : Al} {s : Sl} {W : World} (hs : s.OK W) (hp : s.p = none) {v : Value} (h : VR ρ α nilV v) : PV s v := by
  obtain ⟨h1, h2⟩ := hs.nil hp
  exact ⟨none, by rw [h1, h2]; exact h.1, .inl hp.symm⟩
theorem nil_rep {ρ : Env} {α : Al} {s : Sl} {W : World} (hs : s.OK W) (hp : s.p = none) : VR ρ α nilV s.val := by
  obtain ⟨h1, h2⟩ := hs.nil hp
  refine ⟨by unfold Sl.val; rw [hp, h1, h2], rfl, fun e he => by cases he; rfl⟩
theorem idCs_get {n j : Nat} {c : C} (h : (idCs n)[j]? = some c) : c = .a (.int .u64 (.var j)) ∧ j < n := by
  unfold idCs at h
  by_cases hj : j < n
  · rw [idC_get _ _ _ hj] at h
    cases h
    exact ⟨by rw [Nat.zero_add], hj⟩
  · rw [List.getElem?_eq_none (by rw [idC_length]; omega)] at h
    cases h
theorem strCs_get {n j : Nat} {c : C} (h : (strCs n)[j]? = some c) : c = .a (.str (.var j)) ∧ j < n := by
  unfold strCs at h
  rw [List.getElem?_map] at h
  by_cases hj : j < n
  · rw [List.getElem?_range hj] at h
    simp at h
    exact ⟨h.symm, hj⟩
  · rw [List.getElem?_eq_none (by simp; omega)] at h
    cases h
theorem start_rel (hI : I.OK) {k : Cls} (h1 : usesName 1 k.pv = u1) (h2 : usesName 2 k.cv = u2) (hp : u1 = true → I.peers.p ≠ none) (hx : u2 = true → I.ctx.p ≠ none) (hnp : k.np ≤ 9) (hnp2 : k.np ≤ I.ids.length) (hnc : k.nc ≤ 9) (hnc2 : k.nc ≤ I.strs.length) :
    Rel Tryz.prog (I.ρ u1 u2) (I.al u1 u2) ⟨mem0 k, 100⟩ I.W := by
  have hmem : ∀ n, (mem0 k).get n = if n = 1 then (if u1 then some (.ro (idCs k.np) 22) else none) else if n = 2 then (if u2 then some (.ro (strCs k.nc) 9) else none) else none := by
    intro n
    unfold mem0
    rw [h1, h2]
    cases u1 <;> cases u2 <;> simp only [if_true, if_false, Bool.false_eq_true, PT.get_put]
    · simp [PT.get]
    · by_cases e2 : n = 2
      · subst e2; simp
      · simp [e2, PT.get]
    · by_cases e1 : n = 1
      · subst e1; simp
      · simp [e1, PT.get]
    · by_cases e2 : n = 2
      · subst e2; simp
      · by_cases e1 : n = 1
        · subst e1; simp
        · simp [e1, e2, PT.get]
  refine rel_start (ρ := I.ρ u1 u2) 100 (fun n => ?_) (fun n o l ha hb => ?_)
  · rw [hmem]
    show (if n = 1 then _ else _) = none ↔ _
    by_cases e1 : n = 1
    · subst e1; cases u1 <;> simp
    · by_cases e2 : n = 2
      · subst e2; cases u2 <;> simp
      · simp [e1, e2]
  · rw [hmem] at ha
    have hb' : (if n = 1 then (if u1 then some I.peers.loc else none) else if n = 2 then (if u2 then some I.ctx.loc else none) else none) = some l := hb
    by_cases e1 : n = 1
    · subst e1
      cases u1 with
      | false => simp at ha
      | true =>
        simp at ha hb'
        subst ha; subst hb'
        refine ⟨⟨?_, cells22.symm⟩, rfl⟩
        obtain ⟨a, hpa⟩ := Option.ne_none_iff_exists'.1 (hp rfl)
        obtain ⟨hsp, xs, e, fz, hbk⟩ := hI.peers.blk a hpa
        have eb : I.peers.loc.block = a.block := by simp [Sl.loc, hpa]
        have eo : I.peers.loc.base = a.off := by simp [Sl.loc, hpa]
        refine ⟨xs, e, fz, by rw [eb]; exact hbk, ?_⟩
        intro j c hj
        obtain ⟨rfl, hjn⟩ := idCs_get hj
        obtain ⟨a', ha', hc'⟩ := hI.pC j (I.ids[j]'(by omega)) (List.getElem?_eq_getElem _)
        rw [hpa] at ha'; cases ha'
        refine ⟨_, ?_, rfl⟩
        show xs[I.peers.loc.base + j]? = some (.int .u64 (I.int j))
        rw [eo, int_lt9 (by omega), List.getD_eq_getElem?_getD, List.getElem?_eq_getElem (by omega)]
        unfold World.cell? at hc'
        simp only at hc'
        rw [hbk] at hc'
        simpa using hc'
    · by_cases e2 : n = 2
      · subst e2
        cases u2 with
        | false => simp at ha
        | true =>
          simp at ha hb'
          subst ha; subst hb'
          refine ⟨⟨?_, cells9.symm⟩, rfl⟩
          obtain ⟨a, hpa⟩ := Option.ne_none_iff_exists'.1 (hx rfl)
          obtain ⟨hsp, xs, e, fz, hbk⟩ := hI.ctx.blk a hpa
          have eb : I.ctx.loc.block = a.block := by simp [Sl.loc, hpa]
          have eo : I.ctx.loc.base = a.off := by simp [Sl.loc, hpa]
          refine ⟨xs, e, fz, by rw [eb]; exact hbk, ?_⟩
          intro j c hj
          obtain ⟨rfl, hjn⟩ := strCs_get hj
          obtain ⟨a', ha', hc'⟩ := hI.xC j (I.strs[j]'(by omega)) (List.getElem?_eq_getElem _)
          rw [hpa] at ha'; cases ha'
          refine ⟨_, ?_, rfl⟩
          show xs[I.ctx.loc.base + j]? = some (.string (I.str j))
          rw [eo, str_lt9 (by omega), List.getD_eq_getElem?_getD, List.getElem?_eq_getElem (by omega)]
          unfold World.cell? at hc'
          simp only at hc'
          rw [hbk] at hc'
          simpa using hc'
      · simp [e1, e2] at ha
/-! #### what is known -/
theorem facts_of {k : Cls} (hr : ∀ p ∈ k.rng, p.2.1 ≤ I.int p.1 ∧ I.int p.1 ≤ p.2.2) (hb : ∀ p ∈ k.bools, (I.ρ u1 u2).bool p.1 = p.2) (hd : k.dist ≤ 9 ∧ k.dist ≤ I.ids.length ∧ (k.dist ≠ 0 → I.ids.Nodup)) (hc : k.lvl = 2 → I.hb < I.el) :
    FactsOK (I.ρ u1 u2) (factsOf k) where
  rng i l h hk := hr _ (ofList_get _ hk)
  bools i b hk := hb _ (ofList_get _ hk)
  cls i j c h1 h2 hne := by
    have m1 := ofList_get _ h1
    have m2 := ofList_get _ h2
    simp only [List.mem_map, List.mem_range, Prod.mk.injEq] at m1 m2
    obtain ⟨i', hi, rfl, rfl⟩ := m1
    obtain ⟨j', hj, rfl, _⟩ := m2
    show I.int i' ≠ I.int j'
    rw [int_lt9 (by omega), int_lt9 (by omega), List.getD_eq_getElem?_getD, List.getD_eq_getElem?_getD, List.getElem?_eq_getElem (by omega), List.getElem?_eq_getElem (by omega)]
    intro e
    have hnd := hd.2.2 (by omega)
    exact hne (nodup_inj hnd (by omega) (by omega) (by simpa using e))
  cmps op i j b hk := by
    unfold factsOf at hk
    simp only at hk
    split at hk
    · rename_i h2
      simp only [List.mem_cons, List.not_mem_nil, or_false, Prod.mk.injEq] at hk
      obtain ⟨rfl, rfl, rfl, rfl⟩ := hk
      show some (decide (I.int 21 ≤ I.int 22)) = some false
      have := hc h2
      rw [int21, int22]
      simp; omega
    · simp at hk
theorem facts_self {k : Cls} (hF : FactsOK (I.ρ u1 u2) (factsOf k)) (hnp : k.np ≤ 9) (hnp2 : k.np ≤ I.ids.length) (hnd : I.ids.Nodup) (hc : I.hb < I.el) (n : Nat) (hn : n ≤ k.np) : ∃ j ∈ selves n, FactsOK (I.ρ u1 u2) (factsSelf k n j) := by
  have key : ∃ j ∈ selves n, ∀ i, i < n → ((I.id = I.int i) ↔ j = some i) := by
    by_cases h : ∃ i, i < n ∧ I.id = I.int i
    · obtain ⟨i, hi, he⟩ := h
      refine ⟨some i, by simp [selves, hi], fun i' hi' => ⟨fun e => ?_, fun e => by cases e; exact he⟩⟩
      have e2 : I.int i = I.int i' := he.symm.trans e
      rw [int_lt9 (by omega), int_lt9 (by omega), List.getD_eq_getElem?_getD, List.getD_eq_getElem?_getD, List.getElem?_eq_getElem (by omega), List.getElem?_eq_getElem (by omega)] at e2
      have e3 : i = i' := nodup_inj hnd (by omega) (by omega) (by simpa using e2)
      rw [e3]
    · refine ⟨none, by simp [selves], fun i hi => ⟨fun e => absurd ⟨i, hi, e⟩ h, fun e => by cases e⟩⟩
  obtain ⟨j, hj, hk⟩ := key
  refine ⟨j, hj, ⟨hF.rng, hF.cls, hF.bools, ?_⟩⟩
  intro op a b t h
  rcases List.mem_cons.1 h with h | h
  · simp only [Prod.mk.injEq] at h
    obtain ⟨rfl, rfl, rfl, rfl⟩ := h
    show some (decide (I.int 21 ≤ I.int 22)) = some false
    rw [int21, int22]
    simp; omega
  · simp only [selfCmps, List.mem_flatMap, List.mem_range, List.mem_cons, List.not_mem_nil, or_false, Prod.mk.injEq] at h
    obtain ⟨i, hi, h | h⟩ := h
    · obtain ⟨rfl, rfl, rfl, rfl⟩ := h
      show some (I.int 20 == I.int b) = some (j == some b)
      rw [int20]
      congr 1
      rw [Bool.eq_iff_iff]
      simp [hk b hi]
    · obtain ⟨rfl, rfl, rfl, rfl⟩ := h
      show some (I.int a == I.int 20) = some (j == some a)
      rw [int20]
      congr 1
      rw [Bool.eq_iff_iff]
      simp [← hk a hi]
      exact eq_comm
theorem rand_of (hI : I.OK) (hR : I.Rd) : RandOK (I.ρ u1 u2) := by
  obtain ⟨hF, hr, hc⟩ := hR
  have hel : 2 ≤ I.el ∧ I.el ≤ 30 := ⟨by have := hF.fhb; have := hF.fel; omega, hF.fel1⟩
  refine ⟨by show 2 ≤ I.int 21 ∧ I.int 21 ≤ 30; rw [int21]; exact hel, ?_⟩
  by_cases hn : I.rand.n = 0
  · left
    refine ⟨I.rand.p, I.rand.c, by show I.rand.val = _; unfold Sl.val; rw [hn], fun k hk => ⟨?_, ?_⟩⟩
    · show I.int (300 + k) = 0
      rw [int_draw hk]; simp [Inp.draw, hn]
    · show I.int (351 + k) = 0
      rw [int_cnt hk]; simp [hn]
  · right
    obtain ⟨b, o, hp, hlt⟩ := hI.rand.some_of hn
    refine ⟨b, o, I.rand.n, I.rand.c, by show I.rand.val = _; unfold Sl.val; rw [hp], by omega, by omega, hlt, fun k hk => ?_⟩
    obtain ⟨x, hx⟩ := hI.randC (k % I.rand.n) (Nat.mod_lt _ (by omega))
    have hx' := (Sl.at_eq hp).1 hx
    refine ⟨x, hx', ?_, ?_⟩
    · show I.int (300 + k) = _ % I.int 21
      rw [int_draw hk, int21]
      unfold Inp.draw
      rw [if_neg hn, hp]
      simp only [hx']
    · show I.int (351 + k) = _
      rw [int_cnt hk, if_neg hn]; simp
theorem ctx_of (hI : I.OK) (hp : I.ctx.p ≠ none) (hu : u2 = true) : CtxOK Tryz.prog (I.ρ u1 u2) where
  loc := by
    obtain ⟨a, hpa⟩ := Option.ne_none_iff_exists'.1 hp
    obtain ⟨hsp, xs, e, fz, hbk⟩ := hI.ctx.blk a hpa
    have eb : I.ctx.loc.block = a.block := by simp [Sl.loc, hpa]
    have eo : I.ctx.loc.base = a.off := by simp [Sl.loc, hpa]
    refine ⟨I.ctx.loc, by show I.al u1 u2 2 = _; simp [Inp.al, hu], by rw [eb]; exact hI.ctx.lt hpa, xs, e, fz, by rw [eb]; exact hbk, ?_⟩
    intro j h9 hj
    have hj' : (j : Int) < I.int 62 := hj
    rw [int62] at hj'
    have hjn : j < I.strs.length := by rw [hI.xn]; omega
    obtain ⟨a', ha', hc'⟩ := hI.xC j (I.strs[j]'hjn) (List.getElem?_eq_getElem _)
    rw [hpa] at ha'; cases ha'
    show xs[I.ctx.loc.base + j]? = some (.string (I.str j))
    rw [eo, str_lt9 h9, List.getD_eq_getElem?_getD, List.getElem?_eq_getElem hjn]
    unfold World.cell? at hc'
    simp only at hc'
    rw [hbk] at hc'
    simpa using hc'
  pad j hj h := by
    have h' : I.int 62 ≤ j := h
    rw [int62] at h'
    show (I.str j).size = 0
    rw [str_lt9 hj, List.getD_eq_getElem?_getD, List.getElem?_eq_none (by rw [hI.xn]; omega)]
    rfl
  len := I.lens _ _ _ _ _
end
end Go.Sx
end
