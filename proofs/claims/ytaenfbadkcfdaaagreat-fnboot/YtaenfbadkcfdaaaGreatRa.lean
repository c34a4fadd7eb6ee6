/-
  What 'ready' calls, on what FnBoot hands it.
-/
import Derived.Test.YtaenfbadkcfdaaaGreatSu
import Derived.Test.YtaenfbadkcfdaaaGreatCz
import Derived.Test.YtaenfbadkcfdaaaGreatBo
noncomputable section
namespace Go.Sx
open Go.RowKit (Below)
open Go.Proofs
set_option linter.unusedVariables false
set_option maxRecDepth 100000
def facts00 : Facts := { rng := .leaf, cls := .leaf, bools := .leaf, cmps := [] }
theorem facts00_ok (ρ : Env) : FactsOK ρ facts00 where
  rng i l h e := by cases e
  cls i j c e := by cases e
  bools i b e := by cases e
  cmps op i j b h := by cases h
noncomputable def run00 (g : FuncId) (args : List V) (s : St) : Option V := (callN { ty := TT, fn := FT, facts := facts00 } 100 (fun _ => none) 20 g args s).map (·.1)
theorem run00_ok {ρ : Env} (hL : LensOK ρ) {g : FuncId} {args : List V} {s : St} {v : V} (h : run00 g args s = some v) {vals : Array Value} (hR : Rel Tryz.prog ρ ρ.al s ρ.w0) (hv : All2 (VR ρ ρ.al) args vals.toList) :
    Calls Tryz.prog g vals ρ.w0 fun e w' => ∃ x, e = .returned x ∧ ∃ α, VR ρ α v x ∧ Below ρ.w0.heap.size ρ.w0 w' := by
  unfold run00 at h
  obtain ⟨⟨v1, s1⟩, h1, rfl⟩ := Option.map_eq_some_iff.1 h
  exact sx_run (facts00_ok ρ) hL (fun g k e => by cases e) h1 hR hv
/-- an environment for a run of a part -/
def envAt (w : World) (int : Nat → Int) (bool : Nat → Bool) (val : Nat → Value) (al : Al) : Env :=
  { int := fun i => if i < 500 then int i else 0, bool, str := fun _ => .empty, val, w0 := w, al }
theorem envAt_lens (w : World) (int : Nat → Int) (bool : Nat → Bool) (val : Nat → Value) (al : Al) : LensOK (envAt w int bool val al) := fun i => by
  show (if 500 + i < 500 then _ else _) = _
  rw [if_neg (by omega)]
  rfl
theorem cell_block {w : World} {b o : Nat} {v : Value} (h : w.cell? ⟨b, o, none⟩ = some v) : ∃ xs e fz, w.heap[b]? = some (.cells xs e fz) ∧ xs[o]? = some v := by
  unfold World.cell? at h
  split at h
  · rename_i xs e fz hb
    exact ⟨xs, e, fz, hb, by simpa using h⟩
  · cases h
theorem rel_none {w : World} {int : Nat → Int} {bool : Nat → Bool} {val : Nat → Value} : Rel Tryz.prog (envAt w int bool val (fun _ => none)) (fun _ => none) ⟨.leaf, 100⟩ w :=
  rel_start (ρ := envAt w int bool val (fun _ => none)) 100 (fun n => ⟨fun _ => rfl, fun _ => rfl⟩) (fun n o l h => by cases h)

theorem members_run : run00 21 [.agg [.a (.slice (some (1, 0)) (.lit 1) none), .a (.slice none (.lit 0) (some (.lit 0))), .a (.slice none (.lit 0) (some (.lit 0))), .a (.slice none (.lit 0) (some (.lit 0))), .a (.bool (.lit false))]]
    ⟨PT.leaf.put 1 (.ro [.a (.int .u64 (.lit 1))] 22), 100⟩ = some (vbool (.lit true)) := by kernel_rfl
theorem row_run : run00 22 [vint .u64 (.lit 1), vint .u64 (.lit 1), .sc (.a (.slice none (.lit 0) (some (.lit 0)))), vint .u64 (.lit 1)] ⟨.leaf, 100⟩ = some (vbool (.lit true)) := by kernel_rfl
def nl : C := .a (.slice none (.lit 0) (some (.lit 0)))
/-- a set-up, as FnBoot turns it -/
def setupC (mu : E) : List C := [.a (.int .u64 (.var 20)), .a (.int .i64 (.var 21)), .a (.int .i64 (.var 22)), .a (.ob 50), .a (.bool (.var 0)), .a (.bool (.var 1)), .a (.bool (.var 2)), .a (.bool (.var 3)), .a (.bool (.var 4)),
  .a (.int .u64 (.var 23)), .a (.int .u64 (.var 24)), .a (.int .u64 mu), .a (.int .i64 (.var 25)), .a (.str (.lit [])), .a (.int .u64 (.lit 1)), .a (.int .u64 (.lit 1)), .a (.slice (some (1, 0)) (.lit 1) none), nl, nl, nl, .a (.bool (.lit false)), nl,
  .a (.int .u64 (.lit 1)), .a (.int .u64 (.lit 0)), .a (.int .u64 (.lit 1)), .a (.int .u64 (.lit 0))]
noncomputable def run2 (g1 g2 : FuncId) (args : List V) (s : St) : Option V := (callN { ty := TT, fn := FT, facts := facts00 } 100 (fun _ => none) 20 g1 args s).bind fun r => (callN { ty := TT, fn := FT, facts := facts00 } 100 (fun _ => none) 20 g2 [r.1] r.2).map (·.1)
theorem of_run : run2 23 24 [.agg (setupC (.var 26))] ⟨PT.leaf.put 1 (.ro [.a (.int .u64 (.lit 1))] 22), 100⟩ = some (.tup [.sc (.a (.int .u64 (.lit 1))), .sc (.a (.int .u64 (.lit 1)))]) := by kernel_rfl
theorem run2_ok {ρ : Env} (hL : LensOK ρ) {g1 g2 : FuncId} {args : List V} {s : St} {v : V} (h : run2 g1 g2 args s = some v) {vals : Array Value} (hR : Rel Tryz.prog ρ ρ.al s ρ.w0) (hv : All2 (VR ρ ρ.al) args vals.toList) :
    Calls Tryz.prog g1 vals ρ.w0 fun e w' => ∃ x, e = .returned x ∧ Below ρ.w0.heap.size ρ.w0 w' ∧ Calls Tryz.prog g2 #[x] w' fun e w'' => ∃ y, e = .returned y ∧ ∃ α, VR ρ α v y ∧ Below ρ.w0.heap.size ρ.w0 w'' := by
  unfold run2 at h
  obtain ⟨⟨v1, s1⟩, h1, h2⟩ := Option.bind_eq_some_iff.1 h
  obtain ⟨⟨v2, s2⟩, h3, rfl⟩ := Option.map_eq_some_iff.1 h2
  have hcall := call_ok (cfg_ok (facts00_ok ρ)) hL (con := fun _ => none) (fun g k e => by cases e) 100 20
  refine (hcall g1 args s v1 s1 h1 ρ.al ρ.w0 vals hR hv).mono ?_
  rintro e w' ⟨x, rfl, α, hR1, hF1, hx⟩
  refine ⟨x, rfl, hR1.below, ?_⟩
  refine (hcall g2 [v1] s1 v2 s2 h3 α w' #[x] hR1 ⟨hx, trivial⟩).mono ?_
  rintro e w'' ⟨y, rfl, α', hR2, hF2, hy⟩
  exact ⟨y, rfl, α', hy, hR2.below⟩

/-- a node's set-up -/
structure Setup0 where
  id : Int
  el : Int
  hb : Int
  rand : Value
  pv : Bool
  cq : Bool
  ls : Bool
  nf : Bool
  sd : Bool
  ms : Int
  mc : Int
  mu : Int
  inf : Int
def Setup0.val (S : Setup0) (vb vo vc : Nat) : Value := .agg #[.int .u64 S.id, .int .i64 S.el, .int .i64 S.hb, S.rand, .bool S.pv, .bool S.cq, .bool S.ls, .bool S.nf, .bool S.sd, .int .u64 S.ms, .int .u64 S.mc, .int .u64 S.mu, .int .i64 S.inf,
  .string .empty, .int .u64 1, .int .u64 1, .slice (some ⟨vb, vo, none⟩) 1 vc, .slice none 0 0, .slice none 0 0, .slice none 0 0, .bool false, .slice none 0 0, .int .u64 1, .int .u64 0, .int .u64 1, .int .u64 0]
def Setup0.int (S : Setup0) (i : Nat) : Int := match i with
  | 20 => S.id | 21 => S.el | 22 => S.hb | 23 => S.ms | 24 => S.mc | 25 => S.inf | 26 => S.mu | _ => 0
def Setup0.bool (S : Setup0) (i : Nat) : Bool := match i with
  | 0 => S.pv | 1 => S.cq | 2 => S.ls | 3 => S.nf | 4 => S.sd | _ => false
def oneAl (l : Loc) : Al := fun n => if n = 1 then some l else none
def Setup0.env (S : Setup0) (w : World) (l : Loc) : Env := envAt w S.int S.bool (fun _ => S.rand) (oneAl l)
theorem Setup0.rel (S : Setup0) {w : World} {vb vo vc : Nat} (hc : w.cell? ⟨vb, vo, none⟩ = some (.int .u64 1)) : Rel Tryz.prog (S.env w ⟨vb, vo, 1, vc⟩) (oneAl ⟨vb, vo, 1, vc⟩) ⟨PT.leaf.put 1 (.ro [.a (.int .u64 (.lit 1))] 22), 100⟩ w := by
  refine rel_start (ρ := S.env w ⟨vb, vo, 1, vc⟩) 100 (fun n => ?_) (fun n o l h1 h2 => ?_)
  · rw [PT.get_put]
    show (if n = 1 then _ else _) = none ↔ _
    by_cases h : n = 1 <;> simp [h, PT.get]
  · rw [PT.get_put] at h1
    have h2' : (if n = 1 then some (⟨vb, vo, 1, vc⟩ : Loc) else none) = some l := h2
    by_cases h : n = 1
    · simp [h] at h1 h2'
      subst h1; subst h2'
      obtain ⟨xs, e, fz, hb, hx⟩ := cell_block hc
      refine ⟨⟨⟨xs, e, fz, hb, ?_⟩, cells22.symm⟩, rfl⟩
      intro j c hj
      match j, hj with
      | 0, hj => 
        simp at hj; subst hj
        exact ⟨_, hx, rfl⟩
      | j + 1, hj => simp at hj
    · simp [h] at h2'
theorem Setup0.rep (S : Setup0) (hr : flat S.rand) (w : World) (vb vo vc : Nat) (h1 : 1 ≤ vc) : VR (S.env w ⟨vb, vo, 1, vc⟩) (oneAl ⟨vb, vo, 1, vc⟩) (.agg (setupC (.var 26))) (S.val vb vo vc) := by
  have nil : AR (S.env w ⟨vb, vo, 1, vc⟩) (oneAl ⟨vb, vo, 1, vc⟩) (.slice none (.lit 0) (some (.lit 0))) (.slice none 0 0) := ⟨rfl, rfl, fun e he => by cases he; rfl⟩
  refine ⟨_, rfl, rfl, rfl, rfl, ⟨rfl, hr⟩, rfl, rfl, rfl, rfl, rfl, rfl, rfl, rfl, rfl, rfl, rfl, rfl, ?_, nil, nil, nil, rfl, nil, rfl, rfl, rfl, rfl, trivial⟩
  exact ⟨⟨vb, vo, 1, vc⟩, ⟨vb, vo, none⟩, 1, vc, rfl, rfl, rfl, h1, by simp, .inr (by simp), by simp⟩
theorem Setup0.of_last (S : Setup0) (hr : flat S.rand) {w : World} {vb vo vc : Nat} (hc : w.cell? ⟨vb, vo, none⟩ = some (.int .u64 1)) (h1 : 1 ≤ vc) :
    Calls Tryz.prog 23 #[S.val vb vo vc] w fun e w' => ∃ x, e = .returned x ∧ Below w.heap.size w w' ∧ Calls Tryz.prog 24 #[x] w' fun e w'' => e = .returned (.tuple #[.int .u64 1, .int .u64 1]) ∧ Below w.heap.size w w'' := by
  refine (run2_ok (ρ := S.env w ⟨vb, vo, 1, vc⟩) (envAt_lens _ _ _ _ _) of_run (vals := #[S.val vb vo vc]) (S.rel hc) ⟨S.rep hr w vb vo vc h1, trivial⟩).mono ?_
  rintro e w' ⟨x, rfl, hB, hcall⟩
  refine ⟨x, rfl, hB, hcall.mono ?_⟩
  rintro e w'' ⟨y, rfl, α, hy, hB2⟩
  obtain ⟨xs, rfl, hxs⟩ := hy
  match xs, hxs with
  | ⟨[a, b]⟩, hxs =>
    obtain ⟨ha, hb, _⟩ := hxs
    rw [show a = _ from ha, show b = _ from hb]
    exact ⟨rfl, hB2⟩
theorem members_one {w : World} {vb vo vc : Nat} (hc : w.cell? ⟨vb, vo, none⟩ = some (.int .u64 1)) (h1 : 1 ≤ vc) :
    Calls Tryz.prog 21 #[.agg #[.slice (some ⟨vb, vo, none⟩) 1 vc, .slice none 0 0, .slice none 0 0, .slice none 0 0, .bool false]] w fun e w' => e = .returned (.bool true) ∧ Below w.heap.size w w' := by
  let S : Setup0 := ⟨0, 0, 0, .bool true, false, false, false, false, false, 0, 0, 0, 0⟩
  have nil : AR (S.env w ⟨vb, vo, 1, vc⟩) (oneAl ⟨vb, vo, 1, vc⟩) (.slice none (.lit 0) (some (.lit 0))) (.slice none 0 0) := ⟨rfl, rfl, fun e he => by cases he; rfl⟩
  refine (run00_ok (ρ := S.env w ⟨vb, vo, 1, vc⟩) (envAt_lens _ _ _ _ _) members_run (S.rel hc) (vals := #[.agg #[.slice (some ⟨vb, vo, none⟩) 1 vc, .slice none 0 0, .slice none 0 0, .slice none 0 0, .bool false]])
    ⟨⟨_, rfl, ⟨⟨vb, vo, 1, vc⟩, ⟨vb, vo, none⟩, 1, vc, rfl, rfl, rfl, h1, by simp, .inr (by simp), by simp⟩, nil, nil, nil, rfl, trivial⟩, trivial⟩).mono ?_
  rintro e w' ⟨x, rfl, α, hx, hB⟩
  rw [show x = _ from hx]
  exact ⟨rfl, hB⟩
theorem row_one (w : World) : Calls Tryz.prog 22 #[.int .u64 1, .int .u64 1, .slice none 0 0, .int .u64 1] w fun e w' => e = .returned (.bool true) ∧ Below w.heap.size w w' := by
  refine (run00_ok (ρ := envAt w (fun _ => 0) (fun _ => true) (fun _ => .bool true) (fun _ => none)) (envAt_lens _ _ _ _ _) row_run rel_none (vals := #[.int .u64 1, .int .u64 1, .slice none 0 0, .int .u64 1])
    ⟨rfl, rfl, ⟨rfl, rfl, fun e he => by cases he; rfl⟩, rfl, trivial⟩).mono ?_
  rintro e w' ⟨x, rfl, α, hx, hB⟩
  rw [show x = _ from hx]
  exact ⟨rfl, hB⟩
end Go.Sx
end
/-
  ready: what it tells of a set-up that FnBoot hands it: beginnings. (Printed by gen_ready.py.)
-/
namespace Go.Proofs
open Go.RowKit
open Go.Sx (Setup0)
set_option linter.unusedVariables false
set_option linter.unusedSimpArgs false
/-- what is drawn from is fit -/
def RandFit (w : World) (b o n : Nat) (el : Int) : Prop := n ≤ 10 ∧ ∀ j, j < n → ∀ x, w.cell? ⟨b, o + j, none⟩ = some (.int .i64 x) → 0 ≤ x ∧ x < el
structure Fine (id el hb ms mc mu inf : Int) (cq ls : Bool) : Prop where
  fid0 : 0 < id
  fid1 : id < 1099511627776
  fhb : 1 ≤ hb
  fel : hb < el
  fel1 : el ≤ 30
  fls : ls = true → cq = true
  finf : 1 ≤ inf
  finf1 : inf ≤ 100
  fms : 1048576 ≤ ms
  fmc : 1048576 ≤ mc
  fmu : mu = 0
theorem alloc_size (w : World) (o : Obj) : (w.alloc o).heap.size = w.heap.size + 1 := by show (w.heap.push _).size = _; simp
theorem known_any (id : Int) (w : World) : Calls Tryz.prog 9 #[.int .u64 id] w (Tells (0 < id ∧ id < 1099511627776) w) := by
  by_cases h1 : 0 < id
  · by_cases h2 : id < 1099511627776
    · go_enter Tryz.func9, Tryz.ntmps9
      go_wp2
      go_ret
      exact ⟨_, rfl, by simp [h1, h2], rfl⟩
    · go_enter Tryz.func9, Tryz.ntmps9
      go_wp2
      go_ret
      exact ⟨_, rfl, by simp [h1, h2], rfl⟩
  · go_enter Tryz.func9, Tryz.ntmps9
    go_wp2
    go_ret
    exact ⟨_, rfl, ⟨fun h => (by cases h), fun h => (by have h2 := h.1; omega)⟩, rfl⟩
theorem known_yes {id : Int} (h0 : 0 < id) (h1 : id < 1099511627776) (w : World) : Calls Tryz.prog 9 #[.int .u64 id] w (fun e w' => e = .returned (.bool true) ∧ w' = w) :=
  (known_any id w).mono (by rintro e w'' ⟨b, rfl, hiff, rfl⟩; exact ⟨by rw [hiff.2 ⟨h0, h1⟩], rfl⟩)
theorem known_no {id : Int} (h : ¬ (0 < id ∧ id < 1099511627776)) (w : World) : Calls Tryz.prog 9 #[.int .u64 id] w (fun e w' => e = .returned (.bool false) ∧ w' = w) :=
  (known_any id w).mono (by rintro e w'' ⟨b, rfl, hiff, rfl⟩; cases b; exact ⟨rfl, rfl⟩; exact absurd (hiff.1 rfl) h)
theorem box_cells {id el hb ms mc mu inf : Int} {pv cq ls nf sd : Bool} {rp : Option Addr} {rn rc vb vo vc : Nat} {w w' : World} {e : TypeId}
    (hB : Below (w.heap.size + 1) (w.alloc (.cells #[.int .u64 id, .int .i64 el, .int .i64 hb, .slice rp rn rc, .bool pv, .bool cq, .bool ls, .bool nf, .bool sd, .int .u64 ms, .int .u64 mc, .int .u64 mu, .int .i64 inf, .string .empty, .int .u64 1, .int .u64 1, .slice (some ⟨vb, vo, none⟩) 1 vc, .slice none 0 0, .slice none 0 0, .slice none 0 0, .bool false, .slice none 0 0, .int .u64 1, .int .u64 0, .int .u64 1, .int .u64 0] e)) w') :
    w'.cell? ⟨w.heap.size, 0, none⟩ = some (.int .u64 id) ∧ w'.cell? ⟨w.heap.size, 1, none⟩ = some (.int .i64 el) ∧ w'.cell? ⟨w.heap.size, 2, none⟩ = some (.int .i64 hb) ∧ w'.cell? ⟨w.heap.size, 3, none⟩ = some (.slice rp rn rc) ∧ w'.cell? ⟨w.heap.size, 4, none⟩ = some (.bool pv) ∧ w'.cell? ⟨w.heap.size, 5, none⟩ = some (.bool cq) ∧ w'.cell? ⟨w.heap.size, 6, none⟩ = some (.bool ls) ∧ w'.cell? ⟨w.heap.size, 7, none⟩ = some (.bool nf) ∧ w'.cell? ⟨w.heap.size, 8, none⟩ = some (.bool sd) ∧ w'.cell? ⟨w.heap.size, 9, none⟩ = some (.int .u64 ms) ∧ w'.cell? ⟨w.heap.size, 10, none⟩ = some (.int .u64 mc) ∧ w'.cell? ⟨w.heap.size, 11, none⟩ = some (.int .u64 mu) ∧ w'.cell? ⟨w.heap.size, 12, none⟩ = some (.int .i64 inf) ∧ w'.cell? ⟨w.heap.size, 13, none⟩ = some (.string .empty) ∧ w'.cell? ⟨w.heap.size, 14, none⟩ = some (.int .u64 1) ∧ w'.cell? ⟨w.heap.size, 15, none⟩ = some (.int .u64 1) ∧ w'.cell? ⟨w.heap.size, 16, none⟩ = some (.slice (some ⟨vb, vo, none⟩) 1 vc) ∧ w'.cell? ⟨w.heap.size, 17, none⟩ = some (.slice none 0 0) ∧ w'.cell? ⟨w.heap.size, 18, none⟩ = some (.slice none 0 0) ∧ w'.cell? ⟨w.heap.size, 19, none⟩ = some (.slice none 0 0) ∧ w'.cell? ⟨w.heap.size, 20, none⟩ = some (.bool false) ∧ w'.cell? ⟨w.heap.size, 21, none⟩ = some (.slice none 0 0) ∧ w'.cell? ⟨w.heap.size, 22, none⟩ = some (.int .u64 1) ∧ w'.cell? ⟨w.heap.size, 23, none⟩ = some (.int .u64 0) ∧ w'.cell? ⟨w.heap.size, 24, none⟩ = some (.int .u64 1) ∧ w'.cell? ⟨w.heap.size, 25, none⟩ = some (.int .u64 0) := by
  have h : ∀ k, w'.cell? ⟨w.heap.size, k, none⟩ = (#[.int .u64 id, .int .i64 el, .int .i64 hb, .slice rp rn rc, .bool pv, .bool cq, .bool ls, .bool nf, .bool sd, .int .u64 ms, .int .u64 mc, .int .u64 mu, .int .i64 inf, .string .empty, .int .u64 1, .int .u64 1, .slice (some ⟨vb, vo, none⟩) 1 vc, .slice none 0 0, .slice none 0 0, .slice none 0 0, .bool false, .slice none 0 0, .int .u64 1, .int .u64 0, .int .u64 1, .int .u64 0] : Array Value)[k]? := fun k => by
    rw [hB.cell (p := ⟨w.heap.size, k, none⟩) (by simp), alloc_cell]
  exact ⟨h 0, h 1, h 2, h 3, h 4, h 5, h 6, h 7, h 8, h 9, h 10, h 11, h 12, h 13, h 14, h 15, h 16, h 17, h 18, h 19, h 20, h 21, h 22, h 23, h 24, h 25⟩
end Go.Proofs
/-
  ready: of a fit set-up: by the executor.
-/
noncomputable section
namespace Go.Sx
open Go.RowKit (Below)
open Go.Proofs
set_option linter.unusedVariables false
set_option maxRecDepth 100000
def rowN : Nat → Nat → List C
  | _, 0 => []
  | k, n + 1 => .a (.int .i64 (.var (300 + k))) :: rowN (k + 1) n
def setupR (rd : C) : List C := [.a (.int .u64 (.var 20)), .a (.int .i64 (.var 21)), .a (.int .i64 (.var 22)), rd, .a (.bool (.var 0)), .a (.bool (.var 1)), .a (.bool (.var 2)), .a (.bool (.var 3)), .a (.bool (.var 4)),
  .a (.int .u64 (.var 23)), .a (.int .u64 (.var 24)), .a (.int .u64 (.lit 0)), .a (.int .i64 (.var 25)), .a (.str (.lit [])), .a (.int .u64 (.lit 1)), .a (.int .u64 (.lit 1)), .a (.slice (some (1, 0)) (.lit 1) none), nl, nl, nl, .a (.bool (.lit false)), nl,
  .a (.int .u64 (.lit 1)), .a (.int .u64 (.lit 0)), .a (.int .u64 (.lit 1)), .a (.int .u64 (.lit 0))]
def factsR (r : Nat) (lease : Bool) : Facts :=
  { rng := PT.ofList ([(20, ((1 : Int), 1099511627775)), (21, (2, 30)), (22, (1, 29)), (23, (1048576, 18446744073709551615)), (24, (1048576, 18446744073709551615)), (25, (1, 100))] ++ (List.range r).map fun j => (300 + j, ((0 : Int), 29))),
    cls := .leaf, bools := PT.ofList ((2, lease) :: if lease then [(1, true)] else []), cmps := (.leq, 21, 22, false) :: (List.range r).map fun j => (.geq, 300 + j, 21, false) }
/-- r: none: nil -/
def rdOf : Option Nat → C
  | none => nl
  | some n => .a (.slice (some (3, 0)) (.lit n) none)
def memR : Option Nat → PT Obj
  | none => PT.leaf.put 1 (.ro [.a (.int .u64 (.lit 1))] 22)
  | some n => (PT.leaf.put 1 (.ro [.a (.int .u64 (.lit 1))] 22)).put 3 (.ro (rowN 0 n) 3)
noncomputable def runR (r : Option Nat) (lease : Bool) : Option V := (callN { ty := TT, fn := FT, facts := factsR (r.getD 0) lease } 100 (fun _ => none) 20 7 [.agg (setupR (rdOf r))] ⟨memR r, 100⟩).map (·.1)
def yesV : Option V → Bool
  | some (.sc (.a (.bool (.lit true)))) => true
  | _ => false
def allR : Nat → Bool → Bool → Bool
  | 0, _, _ => true
  | n + 1, l, b => b && allR n l b
theorem r_nil : yesV (runR none true) = true ∧ yesV (runR none false) = true := by constructor <;> kernel_rfl
theorem r_0 : yesV (runR (some 0) true) = true ∧ yesV (runR (some 0) false) = true := by constructor <;> kernel_rfl
theorem r_1 : yesV (runR (some 1) true) = true ∧ yesV (runR (some 1) false) = true := by constructor <;> kernel_rfl
theorem r_2 : yesV (runR (some 2) true) = true ∧ yesV (runR (some 2) false) = true := by constructor <;> kernel_rfl
theorem r_3 : yesV (runR (some 3) true) = true ∧ yesV (runR (some 3) false) = true := by constructor <;> kernel_rfl
theorem r_4 : yesV (runR (some 4) true) = true ∧ yesV (runR (some 4) false) = true := by constructor <;> kernel_rfl
theorem r_5 : yesV (runR (some 5) true) = true ∧ yesV (runR (some 5) false) = true := by constructor <;> kernel_rfl
theorem r_6 : yesV (runR (some 6) true) = true ∧ yesV (runR (some 6) false) = true := by constructor <;> kernel_rfl
theorem r_7 : yesV (runR (some 7) true) = true ∧ yesV (runR (some 7) false) = true := by constructor <;> kernel_rfl
theorem r_8 : yesV (runR (some 8) true) = true ∧ yesV (runR (some 8) false) = true := by constructor <;> kernel_rfl
theorem r_9 : yesV (runR (some 9) true) = true ∧ yesV (runR (some 9) false) = true := by constructor <;> kernel_rfl
theorem r_10 : yesV (runR (some 10) true) = true ∧ yesV (runR (some 10) false) = true := by constructor <;> kernel_rfl
theorem r_all (r : Nat) (h : r ≤ 10) (l : Bool) : yesV (runR (some r) l) = true := by
  match r, h with
  | 0, _ => cases l; exact r_0.2; exact r_0.1
  | 1, _ => cases l; exact r_1.2; exact r_1.1
  | 2, _ => cases l; exact r_2.2; exact r_2.1
  | 3, _ => cases l; exact r_3.2; exact r_3.1
  | 4, _ => cases l; exact r_4.2; exact r_4.1
  | 5, _ => cases l; exact r_5.2; exact r_5.1
  | 6, _ => cases l; exact r_6.2; exact r_6.1
  | 7, _ => cases l; exact r_7.2; exact r_7.1
  | 8, _ => cases l; exact r_8.2; exact r_8.1
  | 9, _ => cases l; exact r_9.2; exact r_9.1
  | 10, _ => cases l; exact r_10.2; exact r_10.1
  | n + 11, h => omega
theorem yesV_eq {o : Option V} (h : yesV o = true) : o = some (vbool (.lit true)) := by
  unfold yesV at h
  split at h
  · rfl
  · cases h
end Go.Sx
end
/-
  ready: of a fit set-up.
-/
noncomputable section
namespace Go.Sx
open Go.RowKit (Below)
open Go.Proofs
set_option linter.unusedVariables false
set_option linter.unusedSimpArgs false
theorem rowN_get : ∀ (n k j : Nat) (c : C), (rowN k n)[j]? = some c → c = .a (.int .i64 (.var (300 + (k + j)))) ∧ j < n
  | 0, _, _, _, h => by simp [rowN] at h
  | n + 1, k, 0, c, h => by simp [rowN] at h; exact ⟨h.symm, by omega⟩
  | n + 1, k, j + 1, c, h => by
    simp only [rowN, List.getElem?_cons_succ] at h
    obtain ⟨h1, h2⟩ := rowN_get n (k + 1) j c h
    have e : k + 1 + j = k + (j + 1) := by omega
    exact ⟨by rw [h1, e], by omega⟩
def Setup0.intR (S : Setup0) (X : Nat → Int) (i : Nat) : Int := if i < 300 then S.int i else X (i - 300)
def twoAl (l : Loc) (r : Option Loc) : Al := fun n => if n = 1 then some l else if n = 3 then r else none
def Setup0.envR (S : Setup0) (X : Nat → Int) (w : World) (l : Loc) (r : Option Loc) : Env := envAt w (S.intR X) S.bool (fun _ => S.rand) (twoAl l r)
theorem ofList_get {α : Type} (l : List (Nat × α)) : ∀ {n : Nat} {x : α}, (PT.ofList l).get n = some x → (n, x) ∈ l := by
  have key : ∀ (l : List (Nat × α)) (t : PT α) (n : Nat) (x : α), (l.foldl (fun t p => t.put p.1 p.2) t).get n = some x → (n, x) ∈ l ∨ t.get n = some x := by
    intro l
    induction l with
    | nil => intro t n x h; exact .inr h
    | cons p l ih =>
      intro t n x h
      rcases ih (t.put p.1 p.2) n x h with h1 | h1
      · exact .inl (List.mem_cons_of_mem _ h1)
      · rw [PT.get_put] at h1
        split at h1
        · rename_i e
          simp only [Option.some.injEq] at h1
          subst h1; subst e
          exact .inl (by simp)
        · exact .inr h1
  intro n x h
  rcases key l .leaf n x h with h1 | h1
  · exact h1
  · cases h1
theorem factsR_ok (S : Setup0) {X : Nat → Int} {w : World} {l : Loc} {rl : Option Loc} {r : Nat} (hr : r ≤ 10) (hF : Fine S.id S.el S.hb S.ms S.mc S.mu S.inf S.cq S.ls) (hms : S.ms ≤ 18446744073709551615) (hmc : S.mc ≤ 18446744073709551615)
    (hX : ∀ j, j < r → 0 ≤ X j ∧ X j < S.el) : FactsOK (S.envR X w l rl) (factsR r S.ls) where
  rng i a b h := by
    have h1 := ofList_get _ h
    simp only [List.mem_append, List.mem_cons, List.not_mem_nil, or_false, List.mem_map, List.mem_range, Prod.mk.injEq] at h1
    have hf := hF
    obtain ⟨f0, f1, f2, f3, f4, f5, f6, f7, f8, f9, f10⟩ := hf
    rcases h1 with (⟨rfl, rfl, rfl⟩ | ⟨rfl, rfl, rfl⟩ | ⟨rfl, rfl, rfl⟩ | ⟨rfl, rfl, rfl⟩ | ⟨rfl, rfl, rfl⟩ | ⟨rfl, rfl, rfl⟩) | ⟨j, hj, rfl, rfl, rfl⟩
    · show 1 ≤ S.id ∧ S.id ≤ _; omega
    · show 2 ≤ S.el ∧ S.el ≤ _; omega
    · show 1 ≤ S.hb ∧ S.hb ≤ _; omega
    · show _ ≤ S.ms ∧ S.ms ≤ _; omega
    · show _ ≤ S.mc ∧ S.mc ≤ _; omega
    · show _ ≤ S.inf ∧ S.inf ≤ _; omega
    · have := hX j hj
      have e : (S.envR X w l rl).int (300 + j) = X j := by
        show (if 300 + j < 500 then S.intR X (300 + j) else 0) = _
        rw [if_pos (by omega), Setup0.intR, if_neg (by omega), show 300 + j - 300 = j by omega]
      rw [e]
      omega
  cls i j c h := by cases h
  bools i b h := by
    have h1 := ofList_get _ h
    rcases List.mem_cons.1 h1 with h1 | h1
    · simp only [Prod.mk.injEq] at h1
      obtain ⟨rfl, rfl⟩ := h1
      rfl
    · split at h1
      · rename_i hl
        simp only [List.mem_cons, List.not_mem_nil, or_false, Prod.mk.injEq] at h1
        obtain ⟨rfl, rfl⟩ := h1
        exact hF.fls hl
      · simp at h1
  cmps op i j b h := by
    rcases List.mem_cons.1 h with h | h
    · simp only [Prod.mk.injEq] at h
      obtain ⟨rfl, rfl, rfl, rfl⟩ := h
      show some (decide (S.el ≤ S.hb)) = _
      have := hF.fel
      simp; omega
    · simp only [List.mem_map, List.mem_range, Prod.mk.injEq] at h
      obtain ⟨k, hk, rfl, rfl, rfl, rfl⟩ := h
      have := hX k hk
      have e : (S.envR X w l rl).int (300 + k) = X k := by
        show (if 300 + k < 500 then S.intR X (300 + k) else 0) = _
        rw [if_pos (by omega), Setup0.intR, if_neg (by omega), show 300 + k - 300 = k by omega]
      rw [e]
      show some (decide (X k ≥ S.el)) = _
      simp; omega
theorem runR_ok (S : Setup0) {X : Nat → Int} {w : World} {l : Loc} {rl : Option Loc} {r : Option Nat} (hr : r.getD 0 ≤ 10) (hF : Fine S.id S.el S.hb S.ms S.mc S.mu S.inf S.cq S.ls) (hms : S.ms ≤ 18446744073709551615) (hmc : S.mc ≤ 18446744073709551615)
    (hX : ∀ j, j < r.getD 0 → 0 ≤ X j ∧ X j < S.el) {vals : Array Value} (hR : Rel Tryz.prog (S.envR X w l rl) (twoAl l rl) ⟨memR r, 100⟩ w)
    (hv : All2 (VR (S.envR X w l rl) (twoAl l rl)) [.agg (setupR (rdOf r))] vals.toList) (hrun : yesV (runR r S.ls) = true) :
    Calls Tryz.prog 7 vals w fun e w' => e = .returned (.bool true) ∧ Below w.heap.size w w' := by
  have h := yesV_eq hrun
  unfold runR at h
  obtain ⟨⟨v1, s1⟩, h1, rfl⟩ := Option.map_eq_some_iff.1 h
  refine (sx_run (ρ := S.envR X w l rl) (factsR_ok S hr hF hms hmc hX) (envAt_lens _ _ _ _ _) (fun g k e => by cases e) h1 hR hv).mono ?_
  rintro e w' ⟨x, rfl, α, hx, hB⟩
  rw [show x = _ from hx]
  exact ⟨rfl, hB⟩
theorem setupR_rep (S : Setup0) {X : Nat → Int} {w : World} {rl : Option Loc} {vb vo vc : Nat} (h1 : 1 ≤ vc) (hmu : S.mu = 0) {rd : C} (hrd : CR (S.envR X w ⟨vb, vo, 1, vc⟩ rl) (twoAl ⟨vb, vo, 1, vc⟩ rl) rd S.rand) :
    VR (S.envR X w ⟨vb, vo, 1, vc⟩ rl) (twoAl ⟨vb, vo, 1, vc⟩ rl) (.agg (setupR rd)) (S.val vb vo vc) := by
  have nil : AR (S.envR X w ⟨vb, vo, 1, vc⟩ rl) (twoAl ⟨vb, vo, 1, vc⟩ rl) (.slice none (.lit 0) (some (.lit 0))) (.slice none 0 0) := ⟨rfl, rfl, fun e he => by cases he; rfl⟩
  refine ⟨_, rfl, rfl, rfl, rfl, hrd, rfl, rfl, rfl, rfl, rfl, rfl, rfl, ?_, rfl, rfl, rfl, rfl, ?_, nil, nil, nil, rfl, nil, rfl, rfl, rfl, rfl, trivial⟩
  · show _ = Value.int .u64 0
    rw [hmu]
  · exact ⟨⟨vb, vo, 1, vc⟩, ⟨vb, vo, none⟩, 1, vc, rfl, rfl, rfl, h1, by simp, .inr (by simp), by simp⟩
theorem one_ro {ρ : Env} {α : Al} {w : World} {vb vo vc : Nat} (hc : w.cell? ⟨vb, vo, none⟩ = some (.int .u64 1)) : OR Tryz.prog ρ α w ⟨vb, vo, 1, vc⟩ (.ro [.a (.int .u64 (.lit 1))] 22) := by
  obtain ⟨xs, e, fz, hb, hx⟩ := cell_block hc
  refine ⟨⟨xs, e, fz, hb, ?_⟩, cells22.symm⟩
  intro j c hj
  match j, hj with
  | 0, hj => 
    simp at hj; subst hj
    exact ⟨_, hx, rfl⟩
  | j + 1, hj => simp at hj
theorem cells3 : Tryz.prog.cellsOf 3 = 1 := by kernel_rfl
/-- nothing to draw from: nil -/
theorem readyNil (S : Setup0) (hrand : S.rand = .slice none 0 0) {w : World} {vb vo vc : Nat} (hc : w.cell? ⟨vb, vo, none⟩ = some (.int .u64 1)) (h1 : 1 ≤ vc)
    (hF : Fine S.id S.el S.hb S.ms S.mc S.mu S.inf S.cq S.ls) (hms : S.ms ≤ 18446744073709551615) (hmc : S.mc ≤ 18446744073709551615) :
    Calls Tryz.prog 7 #[S.val vb vo vc] w fun e w' => e = .returned (.bool true) ∧ Below w.heap.size w w' := by
  refine runR_ok (r := none) S (X := fun _ => 0) (l := ⟨vb, vo, 1, vc⟩) (rl := none) (by simp) hF hms hmc (fun j hj => by simp at hj) ?_ ⟨setupR_rep S h1 hF.fmu (rd := rdOf none) ?_, trivial⟩ ?_
  · refine rel_start (ρ := S.envR _ w ⟨vb, vo, 1, vc⟩ none) 100 (fun n => ?_) (fun n o l ha hb => ?_)
    · show (if n = 1 then _ else if n = 3 then _ else _) = none ↔ (PT.put _ _ _).get n = none
      rw [PT.get_put]
      by_cases h : n = 1
      · simp [h]
      · simp [h, PT.get]
    · change (PT.put _ _ _).get n = _ at ha
      rw [PT.get_put] at ha
      have hb' : (if n = 1 then some (⟨vb, vo, 1, vc⟩ : Loc) else if n = 3 then none else none) = some l := hb
      by_cases h : n = 1
      · simp [h] at ha hb'
        subst ha; subst hb'
        exact ⟨one_ro hc, rfl⟩
      · simp [h] at hb'
  · rw [hrand]
    exact ⟨rfl, rfl, fun e he => by cases he; rfl⟩
  · cases S.ls; exact r_nil.2; exact r_nil.1
/-- .. a row -/
theorem readyRow (S : Setup0) {rb ro rn rc : Nat} {a : Addr} (hrand : S.rand = .slice (some a) rn rc) (ha : rc = 0 ∨ a = ⟨rb, ro, none⟩) (hle : rn ≤ rc) {w : World} (hblk : ∃ xs e fz, w.heap[rb]? = some (.cells xs e fz)) {vb vo vc : Nat} (hc : w.cell? ⟨vb, vo, none⟩ = some (.int .u64 1)) (h1 : 1 ≤ vc)
    (hF : Fine S.id S.el S.hb S.ms S.mc S.mu S.inf S.cq S.ls) (hms : S.ms ≤ 18446744073709551615) (hmc : S.mc ≤ 18446744073709551615) (hr : rn ≤ 10) {X : Nat → Int} (hX : ∀ j, j < rn → w.cell? ⟨rb, ro + j, none⟩ = some (.int .i64 (X j)) ∧ 0 ≤ X j ∧ X j < S.el) :
    Calls Tryz.prog 7 #[S.val vb vo vc] w fun e w' => e = .returned (.bool true) ∧ Below w.heap.size w w' := by
  refine runR_ok (r := some rn) S (X := X) (l := ⟨vb, vo, 1, vc⟩) (rl := some ⟨rb, ro, 1, rc⟩) hr hF hms hmc (fun j hj => (hX j hj).2) ?_ ⟨setupR_rep S h1 hF.fmu (rd := rdOf (some rn)) ?_, trivial⟩ (r_all rn hr S.ls)
  · refine rel_start (ρ := S.envR _ w ⟨vb, vo, 1, vc⟩ (some ⟨rb, ro, 1, rc⟩)) 100 (fun n => ?_) (fun n o l ha hb => ?_)
    · show (if n = 1 then _ else if n = 3 then _ else _) = none ↔ (PT.put (PT.put _ _ _) _ _).get n = none
      rw [PT.get_put, PT.get_put]
      by_cases h : n = 1
      · simp [h]
      · by_cases h3 : n = 3
        · simp [h3]
        · simp [h, h3, PT.get]
    · change (PT.put (PT.put _ _ _) _ _).get n = _ at ha
      rw [PT.get_put, PT.get_put] at ha
      have hb' : (if n = 1 then some (⟨vb, vo, 1, vc⟩ : Loc) else if n = 3 then some ⟨rb, ro, 1, rc⟩ else none) = some l := hb
      by_cases h : n = 1
      · simp [h] at ha hb'
        subst ha; subst hb'
        exact ⟨one_ro hc, rfl⟩
      · by_cases h3 : n = 3
        · simp [h3] at ha hb'
          subst ha; subst hb'
          obtain ⟨xs, e, fz, hbk⟩ := hblk
          refine ⟨⟨⟨xs, e, fz, hbk, ?_⟩, cells3.symm⟩, rfl⟩
          intro j c hj
          obtain ⟨rfl, hjn⟩ := rowN_get _ _ _ _ hj
          refine ⟨.int .i64 (X j), ?_, ?_⟩
          · have := (hX j hjn).1
            unfold World.cell? at this
            rw [hbk] at this
            simpa using this
          · show _ = Value.int .i64 ((S.envR X w ⟨vb, vo, 1, vc⟩ (some ⟨rb, ro, 1, rc⟩)).int (300 + (0 + j)))
            show _ = Value.int .i64 (if 300 + (0 + j) < 500 then S.intR X (300 + (0 + j)) else 0)
            rw [if_pos (by omega), Setup0.intR, if_neg (by omega), show 300 + (0 + j) - 300 = j by omega]
        · simp [h, h3] at hb'
  · rw [hrand]
    refine ⟨⟨rb, ro, 1, rc⟩, a, rn, rc, rfl, rfl, rfl, hle, by simp, ?_, by simp⟩
    rcases ha with h | h
    · exact .inl h
    · exact .inr (by rw [h]; simp)
end Go.Sx
end
