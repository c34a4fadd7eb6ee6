/-
  impl.guarded: a call under a deferred 'recover'.
-/
import Derived.Test.YtaenfbadkcfdaaaGreatSd
import Derived.Test.YtaenfbadkcfdaaaGreatSk
import Derived.Test.YtaenfbadkcfdaaaGreatSt
import Derived.Defers
import Derived.Recover
import Derived.Test.YtaenfbadkcfdaaaGreatBd
import Derived.Tactics
import Derived.Tactics2
import Derived.Laws.Pointers
noncomputable section
namespace Go.Proofs
open Go.RowKit (Below)
set_option linter.unusedVariables false

theorem recover_idle (p : Addr) (b : Bool) (w : World) (hc : w.cell? p = some (.bool b)) (hz : w.frozen? p = false) :
    CallsD Tryz.prog 51 #[.pointer (some p)] .returning w fun e u' w' => e = .returned (.tuple #[]) ∧ u' = .returning ∧ w' = w.setCell p (.bool false) := by
  refine callsD_of_wpS Tryz.func51 rfl fun c₀ cs hu => ?_
  apply wpS_region
  simp [wpOpsS, go_sem, recoverD, hu, Tryz.ntmps51, hc, hz]
  cases c₀
  simp_all [bodyPostS, results, Tryz.results51]

set_option maxRecDepth 100000 in
theorem guarded_any (g : FuncId) (xs ys : Array Value) (R : World → Prop) (w : World)
    (henter : ∀ w1 : World, (callFunc g (xs ++ ys)).run Tryz.prog w1 = .ok (.enter g (xs ++ ys)) w1)
    (hset : ∀ w1, R w1 → w1.heap[w.heap.size]? = some (.cells #[.bool false] 4 (0, 0)) → R (w1.setCell ⟨w.heap.size, 0, none⟩ (.bool false)))
    (hcall : Calls Tryz.prog g (xs ++ ys) (w.alloc (.cells #[.bool false] 4)) fun e w' => ∃ x, e = .returned x ∧ R w' ∧ w'.heap[w.heap.size]? = some (.cells #[.bool false] 4 (0, 0))) :
    Calls Tryz.prog 31 #[.func (.func g) xs ys] w fun e w' => e = .returned (.bool false) ∧ R w' := by
  have hmf : ∀ (fn : Fn) (first cap : Array Value) (w : World), (Instr.makeFunc fn first cap).run Tryz.prog w = .ok (.func fn first cap) w := fun _ _ _ _ => rfl
  go_enter_defers Tryz.func31, Tryz.ntmps31
  go_wp2
  refine hcall.mono ?_
  rintro e w1 ⟨x, rfl, hR, hb⟩
  have hc1 : w1.cell? ⟨w.heap.size, 0, none⟩ = some (.bool false) := by simp [World.cell?, hb]
  have hz1 : w1.frozen? ⟨w.heap.size, 0, none⟩ = false := by simp [World.frozen?, hb]
  go_wp2
  refine leaves_cons (f := 51) (args := #[.pointer (some ⟨w.heap.size, 0, none⟩)]) (by simp) (by simp [go_sem]) ?_
  have hb2 := heap_set_same (k := 0) (v := .bool false) hb
  refine (recover_idle ⟨w.heap.size, 0, none⟩ false _ ?_ ?_).mono ?_
  · simp [World.cell?, hb2]
  · simp [World.frozen?, hb2]
  rintro e u' w'' ⟨rfl, rfl, rfl⟩
  have hR2 := hset _ (hset _ hR hb) hb2
  have hb3 := heap_set_same (k := 0) (v := .bool false) hb2
  have hc3 : ((w1.setCell ⟨w.heap.size, 0, none⟩ (.bool false)).setCell ⟨w.heap.size, 0, none⟩ (.bool false)).cell? ⟨w.heap.size, 0, none⟩ = some (.bool false) := by simp [World.cell?, hb3]
  simp [Leaves, settle, results, Tryz.results31, go_sem, hc3]
  exact hR2
end Go.Proofs
namespace Go.Sx
open Go.RowKit (Below)
open Go.Proofs
set_option linter.unusedVariables false
set_option linter.unusedSimpArgs false
section
variable {ρ : Env} {c : Cfg} {α : Al} {P : Program} {s s' : St} {w w' : World}
/-- a block that nothing knows is written -/
theorem Rel.unused (h : Rel P ρ α s w) {b : Nat} (hu : ¬ Used α s b) (hb : ρ.w0.heap.size ≤ b) (hk : ∀ k, k ≠ b → w'.heap[k]? = w.heap[k]?) (hs : w'.heap.size = w.heap.size) (hos : w'.os = w.os) (ht : w'.tape = w.tape) (hout : w'.output = w.output) :
    Rel P ρ α s w' := by
  refine ⟨h.dom, fun n o l hn hl => ?_, h.apart, h.fresh, h.below.trans ⟨hos, ht, hout, by omega, fun k hlt => hk k (by omega)⟩, h.init⟩
  have h1 := h.obj n o l hn hl
  by_cases hv : o.live = true
  · exact OR.of_block _ _ _ _ _ (hk _ fun e => hu ⟨n, o, l, hn, hv, hl, e⟩) h1
  · cases o <;> simp_all [Obj.live, OR]
theorem All2.map_atoms {l : List A} {xs : List Value} (h : All2 (AR ρ α) l xs) : All2 (VR ρ α) (l.map fun a => V.sc (.a a)) xs := by
  induction l generalizing xs with
  | nil => cases xs with
    | nil => trivial
    | cons => exact h.elim
  | cons a l ih => cases xs with
    | nil => exact h.elim
    | cons x xs => exact ⟨h.1, ih h.2⟩

theorem con_guarded (hc : CfgOK Tryz.prog ρ c) : ConOK Tryz.prog ρ 31 (cGuarded c) := by
  intro call hcall args s v s' h α w vals hR hv
  unfold cGuarded at h
  split at h
  · rename_i g first caps
    split at h
    · rename_i fn v1 s1 hfn hcl
      simp at h
      obtain ⟨rfl, rfl⟩ := h
      obtain ⟨u, hu, hx⟩ := hv.one
      have hvals : vals = #[u] := by apply Array.ext'; simpa using hu
      obtain ⟨xs, ys, hue, h1, h2⟩ : ∃ xs ys, u = .func (.func g) xs ys ∧ All2 (AR ρ α) first xs.toList ∧ All2 (AR ρ α) caps ys.toList := hx
      subst hvals hue
      have hB : Below w.heap.size w (w.alloc (.cells #[.bool false] 4)) := (Below.refl _ _).alloc (Nat.le_refl _) _
      have hR1 := hR.grow hB
      have hsz : (w.alloc (.cells #[.bool false] 4)).heap.size = w.heap.size + 1 := by show (w.heap.push _).size = _; simp
      refine (guarded_any g xs ys (fun w' => ∃ α', Rel Tryz.prog ρ α' s1 w' ∧ Fr α s w α' s1 w' ∧ ¬ Used α' s1 w.heap.size) w (fun _ => run_callFunc hc hfn _) ?_ ?_).mono ?_
      · rintro w1 ⟨α', hR', hF', hnu⟩ hb
        have hk : ∀ k, k ≠ w.heap.size → (w1.setCell ⟨w.heap.size, 0, none⟩ (.bool false)).heap[k]? = w1.heap[k]? := fun k hk => heap_set_ne hk
        have hs : (w1.setCell ⟨w.heap.size, 0, none⟩ (.bool false)).heap.size = w1.heap.size := by simp [World.setCell]
        refine ⟨α', hR'.unused hnu hR.size hk hs rfl rfl rfl, ⟨hF'.le, by rw [hs]; exact hF'.size, fun b hb hm => (hk b (by omega)).trans (hF'.kept b hb hm), hF'.mine, hF'.used⟩, hnu⟩
      · refine (hcall g _ _ _ _ hcl α _ (xs ++ ys) hR1 ?_).mono ?_
        · rw [Array.toList_append]
          exact (All2.map_atoms h1).append (All2.map_atoms h2)
        · rintro e w' ⟨x, rfl, α', hR', hF', hvx⟩
          have hnm : ¬ Used α s w.heap.size := fun ⟨n, o, l, hn, hl, hαl, e⟩ => by have := (hR.obj n o l hn hαl).lt hl; omega
          have hnm' : ¬ Mine α s w.heap.size := fun ⟨n, o, l, hn, hl, hαl, e⟩ => by have := (hR.obj n o l hn hαl).lt (Obj.live_of_own hl); omega
          refine ⟨x, rfl, ⟨α', hR', (Fr.grow α s hB).trans hF', fun hu => ?_⟩, ?_⟩
          · rcases hF'.used _ hu with h | h
            · exact hnm h
            · omega
          · rw [hF'.kept _ (by omega) hnm']
            show (w.heap.push _)[_]? = _
            simp
      · rintro e w' ⟨rfl, α', hR', hF', _⟩
        exact ⟨_, rfl, α', hR', hF', rfl⟩
    · cases h
  · cases h
end
end Go.Sx
end
