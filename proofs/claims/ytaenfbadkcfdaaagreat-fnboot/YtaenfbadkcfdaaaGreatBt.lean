/-
  FnBoot answers true, whatever its input.
-/
import Derived.Test.YtaenfbadkcfdaaaGreatIn
import Derived.Test.YtaenfbadkcfdaaaGreatQa
import Derived.Test.YtaenfbadkcfdaaaGreatQb
import Derived.Test.YtaenfbadkcfdaaaGreatQc
import Derived.Test.YtaenfbadkcfdaaaGreatQe
import Derived.Test.YtaenfbadkcfdaaaGreatQf
import Derived.Test.YtaenfbadkcfdaaaGreatQg
import Derived.Test.YtaenfbadkcfdaaaGreatQh
import Derived.Test.YtaenfbadkcfdaaaGreatQi
import Derived.Test.YtaenfbadkcfdaaaGreatQj
import Derived.Test.YtaenfbadkcfdaaaGreatQk
import Derived.Test.YtaenfbadkcfdaaaGreatQl
noncomputable section
namespace Go.Sx
open Go.RowKit (Below)
open Go.Proofs
set_option linter.unusedVariables false
set_option linter.unusedSimpArgs false
theorem run_M9 (b l : Bool) : isTrue (runBoot TT FT (kM 9 b l false)) = true := by
  cases b <;> cases l
  · exact run_M9_false_false_false
  · exact run_M9_false_true_false
  · exact run_M9_true_false_false
  · exact run_M9_true_true_false
theorem run_M (n : Nat) (h0 : n ≠ 0) (hn : n ≤ 9) (b l : Bool) : isTrue (runBoot TT FT (kM n b l false)) = true := by
  match n, h0, hn with
  | 0, h, _ => exact absurd rfl h
  | 1, _, _ => exact run_M1 b l
  | 2, _, _ => exact run_M2 b l
  | 3, _, _ => exact run_M3 b l
  | 4, _, _ => exact run_M4 b l
  | 5, _, _ => exact run_M5 b l
  | 6, _, _ => exact run_M6 b l
  | 7, _, _ => exact run_M7 b l
  | 8, _, _ => exact run_M8 b l
  | 9, _, _ => exact run_M9 b l
  | n + 10, _, h => omega
section
variable {I : Inp} {u1 u2 : Bool}
theorem not_none {α : Type} {o : Option α} (h : o ≠ none) : ∃ a, o = some a := Option.ne_none_iff_exists'.1 h
theorem p_any (hI : I.OK) {b : Bool} (h1 : b = true → I.peers.p ≠ none) (h2 : b = false → I.peers.p = none) :
    (∀ s α w v, Rel Tryz.prog (I.ρ b u2) α s w → VR (I.ρ b u2) α (pAny b) v → PV I.peers v) ∧ VR (I.ρ b u2) (I.al b u2) (pAny b) I.peers.val := by
  cases b with
  | true =>
    obtain ⟨a, ha⟩ := not_none (h1 rfl)
    exact ⟨fun s α w v hR hv => sl_pv (e := .var 63) hI.peers ha rfl hR.init (show I.int 63 = _ from int63) hv, sl_rep (e := .var 63) (ρ := I.ρ true u2) hI.peers ha rfl (show I.int 63 = _ from int63)⟩
  | false => exact ⟨fun s α w v hR hv => nil_pv hI.peers (h2 rfl) hv, nil_rep hI.peers (h2 rfl)⟩
theorem p_lit (hI : I.OK) {n : Nat} (hn : I.peers.n = n) (h1 : I.peers.p ≠ none) :
    (∀ s α w v, Rel Tryz.prog (I.ρ true u2) α s w → VR (I.ρ true u2) α (.sc (sl 1 (.lit n))) v → PV I.peers v) ∧ VR (I.ρ true u2) (I.al true u2) (.sc (sl 1 (.lit n))) I.peers.val := by
  obtain ⟨a, ha⟩ := not_none h1
  exact ⟨fun s α w v hR hv => sl_pv hI.peers ha rfl hR.init (by rw [hn]; rfl) hv, sl_rep (ρ := I.ρ true u2) hI.peers ha rfl (by rw [hn]; rfl)⟩
theorem c_any (hI : I.OK) {b : Bool} (h1 : b = true → I.ctx.p ≠ none) (h2 : b = false → I.ctx.p = none) :
    (∀ s α w v, Rel Tryz.prog (I.ρ u1 b) α s w → VR (I.ρ u1 b) α (cAny b) v → PV I.ctx v) ∧ VR (I.ρ u1 b) (I.al u1 b) (cAny b) I.ctx.val := by
  cases b with
  | true =>
    obtain ⟨a, ha⟩ := not_none (h1 rfl)
    have hal : (I.ρ u1 true).al 2 = some I.ctx.loc := by show I.al u1 true 2 = _; simp [Inp.al]
    exact ⟨fun s α w v hR hv => sl_pv (e := .var 62) hI.ctx ha hal hR.init (show I.int 62 = _ from int62) hv, sl_rep (e := .var 62) (ρ := I.ρ u1 true) hI.ctx ha hal (show I.int 62 = _ from int62)⟩
  | false => exact ⟨fun s α w v hR hv => nil_pv hI.ctx (h2 rfl) hv, nil_rep hI.ctx (h2 rfl)⟩
theorem p_ov : (∀ s α w v, Rel Tryz.prog (I.ρ u1 u2) α s w → VR (I.ρ u1 u2) α (.sc (ov 64)) v → PV I.peers v) ∧ VR (I.ρ u1 u2) (I.al u1 u2) (.sc (ov 64)) I.peers.val :=
  ⟨fun s α w v hR hv => ⟨I.peers.p, hv.1, .inl rfl⟩, ⟨rfl, trivial⟩⟩
theorem c_ov : (∀ s α w v, Rel Tryz.prog (I.ρ u1 u2) α s w → VR (I.ρ u1 u2) α (.sc (ov 65)) v → PV I.ctx v) ∧ VR (I.ρ u1 u2) (I.al u1 u2) (.sc (ov 65)) I.ctx.val :=
  ⟨fun s α w v hR hv => ⟨I.ctx.p, hv.1, .inl rfl⟩, ⟨rfl, trivial⟩⟩
theorem b40 (h : I.F1) : (I.ρ u1 u2).bool 40 = true := by show @decide _ (Classical.propDecidable _) = true; simp [h]
theorem b40n (h : ¬ I.F1) : (I.ρ u1 u2).bool 40 = false := by show @decide _ (Classical.propDecidable _) = false; simp [h]
theorem b41 (h : I.F8) : (I.ρ u1 u2).bool 41 = true := by show @decide _ (Classical.propDecidable _) = true; simp [h]
theorem b41n (h : ¬ I.F8) : (I.ρ u1 u2).bool 41 = false := by show @decide _ (Classical.propDecidable _) = false; simp [h]
theorem b42 (h : I.Rd) : (I.ρ u1 u2).bool 42 = true := by show @decide _ (Classical.propDecidable _) = true; simp [h]
theorem b42n (h : ¬ I.Rd) : (I.ρ u1 u2).bool 42 = false := by show @decide _ (Classical.propDecidable _) = false; simp [h]
theorem b43 (h : I.ids.Nodup) : (I.ρ u1 u2).bool 43 = true := by show decide _ = true; simp [h]
theorem b43n (h : ¬ I.ids.Nodup) : (I.ρ u1 u2).bool 43 = false := by show decide _ = false; simp [h]

/-- a class of the guards -/
theorem guard_in (hI : I.OK) {k : Cls} (hl : k.lvl = 0) (hnp : k.np = 0) (hnc : k.nc = 0) (hd : k.dist = 0) (hmu : k.mu = .var 26) (h1 : usesName 1 k.pv = u1) (h2 : usesName 2 k.cv = u2) (hp : u1 = true → I.peers.p ≠ none) (hx : u2 = true → I.ctx.p ≠ none)
    (hpv : (∀ s α w v, Rel Tryz.prog (I.ρ u1 u2) α s w → VR (I.ρ u1 u2) α k.pv v → PV I.peers v) ∧ VR (I.ρ u1 u2) (I.al u1 u2) k.pv I.peers.val)
    (hcv : (∀ s α w v, Rel Tryz.prog (I.ρ u1 u2) α s w → VR (I.ρ u1 u2) α k.cv v → PV I.ctx v) ∧ VR (I.ρ u1 u2) (I.al u1 u2) k.cv I.ctx.val)
    (hr : ∀ p ∈ k.rng, p.2.1 ≤ I.int p.1 ∧ I.int p.1 ≤ p.2.2) (hb : ∀ p ∈ k.bools, (I.ρ u1 u2).bool p.1 = p.2) : InCls k I u1 u2 where
  mu := by rw [hmu]; exact int26
  pv := hpv.1
  cv := hcv.1
  pr := hpv.2
  cr := hcv.2
  rel := start_rel hI h1 h2 hp hx (by omega) (by omega) (by omega) (by omega)
  facts := facts_of hr hb ⟨by omega, by omega, by omega⟩ (by omega)
  mar h := by omega
  rand h := by omega
  self h := by omega
  ctx h := by omega

/-! #### what is known in a class -/
def Good (I : Inp) (m : Nat) : Prop := ∀ j, j < m → (0 < I.ids.getD j 0 ∧ I.ids.getD j 0 < 1099511627776) ∧ (I.strs.getD j .empty).size ≤ 100
theorem good_rng {m : Nat} (hm : m ≤ 9) (h : ∀ j, j < m → 0 < I.ids.getD j 0 ∧ I.ids.getD j 0 < 1099511627776) : ∀ p ∈ goodIds m, p.2.1 ≤ I.int p.1 ∧ I.int p.1 ≤ p.2.2 := by
  intro p hp
  simp only [goodIds, List.mem_map, List.mem_range] at hp
  obtain ⟨j, hj, rfl⟩ := hp
  have := h j hj
  show 1 ≤ I.int j ∧ I.int j ≤ 1099511627776 - 1
  rw [int_lt9 (by omega)]
  omega
theorem ctx_rng {n u : Nat} (hn : n ≤ 9) (h : ∀ j, j < n → j < u → (I.strs.getD j .empty).size ≤ 100) (h0 : ∀ j, j < n → u ≤ j → (I.strs.getD j .empty).size = 0) : ∀ p ∈ ctxLens n u, p.2.1 ≤ I.int p.1 ∧ I.int p.1 ≤ p.2.2 := by
  intro p hp
  simp only [ctxLens, List.mem_map, List.mem_range] at hp
  obtain ⟨j, hj, rfl⟩ := hp
  show 0 ≤ I.int (500 + j) ∧ I.int (500 + j) ≤ if j < u then 100 else 0
  rw [int_len, str_lt9 (by omega)]
  split
  · have := h j hj (by assumption); omega
  · have := h0 j hj (by omega); omega
theorem dat_rng {m : Nat} (hm : m ≤ 9) (h : Good I m) : ∀ p ∈ datLens m, p.2.1 ≤ I.int p.1 ∧ I.int p.1 ≤ p.2.2 := by
  intro p hp
  simp only [datLens, List.mem_map, List.mem_range] at hp
  obtain ⟨j, hj, rfl⟩ := hp
  obtain ⟨⟨h0, h1⟩, h2⟩ := h j hj
  show 1 ≤ I.int (520 + j) ∧ I.int (520 + j) ≤ 120
  rw [show 520 + j = 500 + (20 + j) by omega, int_len, Inp.str, if_neg (by omega), if_neg (by omega), if_pos (by omega), show 20 + j - 20 = j by omega, if_pos ⟨h2, h1⟩, bytes_size]
  have := changeB_len (id := (I.ids.getD j 0).toNat) (tx := nats (I.strs.getD j .empty)) (by omega) (by rw [nats_len]; exact h2)
  omega
theorem draw_rng (h : I.Rd) : ∀ p ∈ ((List.range 20).map fun i => (300 + i, ((0 : Int), (29 : Int)))), p.2.1 ≤ I.int p.1 ∧ I.int p.1 ≤ p.2.2 := by
  intro p hp
  simp only [List.mem_map, List.mem_range] at hp
  obtain ⟨j, hj, rfl⟩ := hp
  have h1 := h.1.fhb
  have h2 := h.1.fel
  have h3 := h.1.fel1
  show 0 ≤ I.int (300 + j) ∧ I.int (300 + j) ≤ 29
  rw [int_draw (by omega)]
  unfold Inp.draw
  split
  · omega
  · split
    · split
      · rename_i x _
        have a1 := Int.emod_nonneg (IntKind.u64.wrap x) (show I.el ≠ 0 by omega)
        have a2 := Int.emod_lt_of_pos (IntKind.u64.wrap x) (show 0 < I.el by omega)
        omega
      · omega
    · omega
theorem strs_nil (hI : I.OK) (hp : I.ctx.p = none) (j : Nat) : (I.strs.getD j .empty).size = 0 := by
  have h1 := (hI.ctx.nil hp).1
  have : I.strs = [] := List.eq_nil_of_length_eq_zero (by rw [hI.xn, h1])
  rw [this]; rfl
theorem bo4 (h1 : I.F1) (h8 : I.F8) (hr : I.Rd) (hd : I.ids.Nodup) : ∀ p ∈ bo 4, (I.ρ u1 u2).bool p.1 = p.2 := by
  intro p hp
  simp only [bo, List.mem_map, List.mem_range] at hp
  obtain ⟨j, hj, rfl⟩ := hp
  match j, hj with
  | 0, _ => exact b40 h1
  | 1, _ => exact b41 h8
  | 2, _ => exact b42 hr
  | 3, _ => exact b43 hd
  | n + 4, h => omega
theorem b1_in (hI : I.OK) {i : Nat} {b low : Bool} (h1 : I.F1) (h8 : I.F8) (hr : I.Rd) (hd : I.ids.Nodup) (hn : I.ids.length ≤ 9) (hx : I.ctx.n ≤ 9) (hi : i < I.ids.length) (hg : Good I i) (hb1 : b = true → I.ctx.p ≠ none) (hb2 : b = false → I.ctx.p = none)
    (hbad : if low then I.ids.getD i 0 = 0 else 1099511627776 ≤ I.ids.getD i 0) : InCls (kB1 i b low) I true b := by
  have hpn := hI.pn
  have hpp : I.peers.p ≠ none := fun e => by have := (hI.peers.nil e).1; omega
  have hel : I.hb < I.el := hr.1.fel
  have hF : FactsOK (I.ρ true b) (factsOf (kB1 i b low)) := by
    refine facts_of ?_ (bo4 h1 h8 hr hd) ⟨by show 0 ≤ 9; omega, by show 0 ≤ _; omega, fun h => absurd rfl h⟩ (fun _ => hel)
    intro p hp
    simp only [kB1, List.mem_append, List.mem_cons] at hp
    rcases hp with ((hp | hp | hp | hp) | hp) | hp
    · subst hp
      have hr2 := hI.pR (I.ids.getD i 0) (by rw [List.getD_eq_getElem?_getD, List.getElem?_eq_getElem hi]; exact List.getElem_mem hi)
      cases low with
      | true =>
        rw [if_pos rfl] at hbad
        show 0 ≤ I.int i ∧ I.int i ≤ 0
        rw [int_lt9 (by omega)]
        omega
      | false =>
        rw [if_neg (by simp)] at hbad
        show 1099511627776 ≤ I.int i ∧ I.int i ≤ 18446744073709551615
        rw [int_lt9 (by omega)]
        omega
    · subst hp
      show ((i : Int) + 1) ≤ I.int 63 ∧ I.int 63 ≤ 9
      rw [int63]; omega
    · subst hp
      show 0 ≤ I.int 62 ∧ I.int 62 ≤ 9
      rw [int62]; omega
    · exact good_rng (by omega) (fun j hj => (hg j hj).1) p hp
    · refine ctx_rng (by omega) (fun j hj _ => (hg j hj).2) (fun j hj hu => ?_) p hp
      cases b with
      | true => simp at hu; omega
      | false => exact strs_nil hI (hb2 rfl) j
    · exact dat_rng (by omega) hg p hp
  refine ⟨int26, (p_any (b := true) hI (fun _ => hpp) (fun h => by cases h)).1, (c_any hI hb1 hb2).1, (p_any (b := true) hI (fun _ => hpp) (fun h => by cases h)).2, (c_any hI hb1 hb2).2,
    start_rel hI rfl (by cases b <;> rfl) (fun _ => hpp) hb1 (by show i + 1 ≤ 9; omega) (by show i + 1 ≤ _; omega) (by show 0 ≤ 9; omega) (by show 0 ≤ _; omega), hF,
    fun _ => I.mar_ok hI (by show i ≤ 9; omega) (fun j hj => (hg j hj).1) (fun j hj => (hg j hj).2), fun _ => rand_of hI hr, fun _ => facts_self hF (by show i + 1 ≤ 9; omega) (by show i + 1 ≤ _; omega) hd hel, fun _ hu => ?_⟩
  cases b with
  | true => exact ctx_of hI (hb1 rfl) rfl
  | false => cases hu
theorem b2_in (hI : I.OK) {i : Nat} (h1 : I.F1) (h8 : I.F8) (hr : I.Rd) (hd : I.ids.Nodup) (hn : I.ids.length ≤ 9) (hx : I.ctx.n ≤ 9) (hi : i < I.ids.length) (hg : Good I i) (hid : 0 < I.ids.getD i 0 ∧ I.ids.getD i 0 < 1099511627776)
    (hbad : 100 < (I.strs.getD i .empty).size) : InCls (kB2 i) I true true := by
  have hpn := hI.pn
  have hxn := hI.xn
  have hpp : I.peers.p ≠ none := fun e => by have := (hI.peers.nil e).1; omega
  have hix : i < I.strs.length := by
    by_cases h : i < I.strs.length
    · exact h
    · rw [List.getD_eq_getElem?_getD, List.getElem?_eq_none (by omega)] at hbad
      simp at hbad
  have hcp : I.ctx.p ≠ none := fun e => by have := (hI.ctx.nil e).1; omega
  have hel : I.hb < I.el := hr.1.fel
  have hF : FactsOK (I.ρ true true) (factsOf (kB2 i)) := by
    refine facts_of ?_ (bo4 h1 h8 hr hd) ⟨by show 0 ≤ 9; omega, by show 0 ≤ _; omega, fun h => absurd rfl h⟩ (fun _ => hel)
    intro p hp
    simp only [kB2, List.mem_append, List.mem_cons] at hp
    rcases hp with ((hp | hp | hp | hp) | hp) | hp
    · subst hp
      show 101 ≤ I.int (500 + i) ∧ I.int (500 + i) ≤ maxI
      rw [int_len, str_lt9 (by omega)]
      have := getD_size hI.xR i
      unfold maxLen at this
      unfold maxI
      omega
    · subst hp
      show ((i : Int) + 1) ≤ I.int 63 ∧ I.int 63 ≤ 9
      rw [int63]; omega
    · subst hp
      show ((i : Int) + 1) ≤ I.int 62 ∧ I.int 62 ≤ 9
      rw [int62]; omega
    · refine good_rng (by omega) (fun j hj => ?_) p hp
      by_cases e : j = i
      · subst e; exact hid
      · exact (hg j (by omega)).1
    · exact ctx_rng (by omega) (fun j hj _ => (hg j hj).2) (fun j hj hu => by omega) p hp
    · exact dat_rng (by omega) hg p hp
  exact ⟨int26, (p_any (b := true) hI (fun _ => hpp) (fun h => by cases h)).1, (c_any (b := true) hI (fun _ => hcp) (fun h => by cases h)).1, (p_any (b := true) hI (fun _ => hpp) (fun h => by cases h)).2, (c_any (b := true) hI (fun _ => hcp) (fun h => by cases h)).2,
    start_rel hI rfl rfl (fun _ => hpp) (fun _ => hcp) (by show i + 1 ≤ 9; omega) (by show i + 1 ≤ _; omega) (by show i + 1 ≤ 9; omega) (by show i + 1 ≤ _; omega), hF,
    fun _ => I.mar_ok hI (by show i ≤ 9; omega) (fun j hj => (hg j hj).1) (fun j hj => (hg j hj).2), fun _ => rand_of hI hr, fun _ => facts_self hF (by show i + 1 ≤ 9; omega) (by show i + 1 ≤ _; omega) hd hel, fun _ hu => ctx_of hI hcp rfl⟩
theorem m_in (hI : I.OK) {b pn : Bool} (h1 : I.F1) (h8 : I.F8) (hr : I.Rd) (hd : I.ids.Nodup) (hn : I.ids.length ≤ 9) (hx : I.ctx.n ≤ 9) (hg : Good I I.ids.length) (hb1 : b = true → I.ctx.p ≠ none) (hb2 : b = false → I.ctx.p = none)
    (hp1 : pn = false → I.peers.p ≠ none) (hp2 : pn = true → I.peers.p = none) : InCls (kM I.ids.length b I.ls pn) I (!pn) b := by
  have hpn := hI.pn
  have hel : I.hb < I.el := hr.1.fel
  have hF : FactsOK (I.ρ (!pn) b) (factsOf (kM I.ids.length b I.ls pn)) := by
    refine facts_of ?_ ?_ ⟨hn, Nat.le_refl _, fun _ => hd⟩ (fun _ => hel)
    · intro p hp
      have hr' := hr
      obtain ⟨⟨f0, f1, f2, f3, f4, f5, f6, f7, f8, f9, f10⟩, _⟩ := hr'
      simp only [kM, List.mem_append, List.mem_cons, List.not_mem_nil, or_false] at hp
      rcases hp with (((hp | hp) | hp) | hp) | hp
      · rcases hp with hp | hp | hp | hp | hp | hp | hp
        · subst hp; show 1 ≤ I.int 20 ∧ I.int 20 ≤ 1099511627776 - 1; rw [int20]; omega
        · subst hp; show 2 ≤ I.int 21 ∧ I.int 21 ≤ 30; rw [int21]; omega
        · subst hp; show 1 ≤ I.int 22 ∧ I.int 22 ≤ 29; rw [int22]; omega
        · subst hp; show 1048576 ≤ I.int 23 ∧ I.int 23 ≤ 18446744073709551615; rw [int23]; have := hI.ms; omega
        · subst hp; show 1048576 ≤ I.int 24 ∧ I.int 24 ≤ 18446744073709551615; rw [int24]; have := hI.mc; omega
        · subst hp; show 1 ≤ I.int 25 ∧ I.int 25 ≤ 100; rw [int25]; omega
        · subst hp; show 0 ≤ I.int 62 ∧ I.int 62 ≤ 9; rw [int62]; omega
      · exact good_rng hn (fun j hj => (hg j hj).1) p hp
      · refine ctx_rng hn (fun j hj _ => (hg j hj).2) (fun j hj hu => ?_) p hp
        cases b with
        | true => simp at hu; omega
        | false => exact strs_nil hI (hb2 rfl) j
      · exact dat_rng hn hg p hp
      · exact draw_rng hr p hp
    · intro p hp
      simp only [kM, List.mem_cons, List.mem_append] at hp
      rcases hp with hp | hp | hp
      · subst hp; rfl
      · exact bo4 h1 h8 hr hd p hp
      · split at hp
        · rename_i hl
          simp only [List.mem_cons, List.not_mem_nil, or_false] at hp
          subst hp
          exact hr.1.fls hl
        · simp at hp
  have hmu : (kM I.ids.length b I.ls pn).mu.den (I.ρ (!pn) b) = I.mu := hr.1.fmu.symm
  have hpv : (∀ s α w v, Rel Tryz.prog (I.ρ (!pn) b) α s w → VR (I.ρ (!pn) b) α (kM I.ids.length b I.ls pn).pv v → PV I.peers v) ∧ VR (I.ρ (!pn) b) (I.al (!pn) b) (kM I.ids.length b I.ls pn).pv I.peers.val := by
    cases pn with
    | true => exact p_any (b := false) hI (fun h => by cases h) (fun _ => hp2 rfl)
    | false => exact p_lit hI hpn.symm (hp1 rfl)
  refine ⟨hmu, hpv.1, (c_any hI hb1 hb2).1, hpv.2, (c_any hI hb1 hb2).2,
    start_rel hI (by cases pn <;> rfl) (by cases b <;> rfl) (fun h => hp1 (by cases pn; rfl; cases h)) hb1 hn (Nat.le_refl _) (by show 0 ≤ 9; omega) (by show 0 ≤ _; omega), hF,
    fun _ => I.mar_ok hI hn (fun j hj => (hg j hj).1) (fun j hj => (hg j hj).2), fun _ => rand_of hI hr, fun _ => facts_self hF hn (Nat.le_refl _) hd hel, fun _ hu => ?_⟩
  cases b with
  | true => exact ctx_of hI (hb1 rfl) rfl
  | false => cases hu
end
/-- ████ FnBoot ANSWERS true ████ -/
theorem boot_true {I : Inp} (hI : I.OK) : Calls Tryz.prog 3 #[I.setup, I.peers.val, I.ctx.val] I.W fun e w' => e = .returned (.bool true) ∧ Below I.W.heap.size I.W w' := by
  have hpn := hI.pn
  have hxn := hI.xn
  by_cases h1 : I.F1
  rotate_left
  · exact class_ok hI (guard_in (u1 := false) (u2 := false) hI (k := kG1) rfl rfl rfl rfl rfl rfl rfl (fun h => by cases h) (fun h => by cases h) p_ov c_ov (fun p hp => by simp [kG1] at hp) (fun p hp => by simp [kG1] at hp; subst hp; exact b40n h1)) run_G1
  by_cases hbig : 2147483647 < I.peers.n
  · have hpp : I.peers.p ≠ none := fun e => by have := (hI.peers.nil e).1; omega
    have hm := hI.peers.le
    have hm2 := hI.peers.max
    exact class_ok hI (guard_in (u1 := true) (u2 := false) hI (k := kG2) rfl rfl rfl rfl rfl rfl rfl (fun _ => hpp) (fun h => by cases h) (p_any (b := true) hI (fun _ => hpp) (fun h => by cases h)) c_ov
      (fun p hp => by simp [kG2] at hp; subst hp; show 2147483648 ≤ I.int 63 ∧ I.int 63 ≤ maxI; rw [int63]; unfold maxI; omega) (fun p hp => by simp [kG2, bo] at hp; subst hp; exact b40 h1)) run_G2
  obtain ⟨bp, hp1, hp2⟩ : ∃ b : Bool, (b = true → I.peers.p ≠ none) ∧ (b = false → I.peers.p = none) := by
    cases hp : I.peers.p with
    | none => exact ⟨false, (fun h => by cases h), (fun _ => rfl)⟩
    | some a => exact ⟨true, (fun _ => by simp), (fun h => by cases h)⟩
  have hp : (∀ s α w v, Rel Tryz.prog (I.ρ bp false) α s w → VR (I.ρ bp false) α (pAny bp) v → PV I.peers v) ∧ VR (I.ρ bp false) (I.al bp false) (pAny bp) I.peers.val := p_any hI hp1 hp2
  have hu : usesName 1 (pAny bp) = bp := by cases bp <;> rfl
  by_cases h8 : I.F8
  rotate_left
  · exact class_ok hI (guard_in (u1 := bp) (u2 := false) hI (k := kG3 bp) rfl rfl rfl rfl rfl hu rfl hp1 (fun h => by cases h) hp c_ov
      (fun p hp => by simp [kG3] at hp; subst hp; show 0 ≤ I.int 63 ∧ I.int 63 ≤ 2147483647; rw [int63]; omega) (fun p hp => by
        simp [kG3, bo] at hp
        rcases hp with hp | hp
        · subst hp; exact b41n h8
        · subst hp; exact b40 h1)) (run_G3 bp)
  by_cases hr : I.Rd
  rotate_left
  · exact class_ok hI (guard_in (u1 := bp) (u2 := false) hI (k := kG4 bp) rfl rfl rfl rfl rfl hu rfl hp1 (fun h => by cases h) hp c_ov
      (fun p hp => by simp [kG4] at hp; subst hp; show 0 ≤ I.int 63 ∧ I.int 63 ≤ 2147483647; rw [int63]; omega) (fun p hp => by
        simp only [kG4, bo, List.mem_cons, List.mem_map, List.mem_range] at hp
        rcases hp with hp | ⟨j, hj, hp⟩
        · subst hp; exact b42n hr
        · subst hp
          match j, hj with
          | 0, _ => exact b40 h1
          | 1, _ => exact b41 h8
          | n + 2, h => omega)) (run_G4 bp)
  have bo3 : ∀ u1 u2, ∀ p ∈ bo 3, (I.ρ u1 u2).bool p.1 = p.2 := by
    intro u1 u2 p hp
    simp only [bo, List.mem_map, List.mem_range] at hp
    obtain ⟨j, hj, rfl⟩ := hp
    match j, hj with
    | 0, _ => exact b40 h1
    | 1, _ => exact b41 h8
    | 2, _ => exact b42 hr
    | n + 3, h => omega
  by_cases h9 : 9 < I.peers.n
  · have hpp : I.peers.p ≠ none := fun e => by have := (hI.peers.nil e).1; omega
    exact class_ok hI (guard_in (u1 := true) (u2 := false) hI (k := kG5) rfl rfl rfl rfl rfl rfl rfl (fun _ => hpp) (fun h => by cases h) (p_any (b := true) hI (fun _ => hpp) (fun h => by cases h)) c_ov
      (fun p hp => by simp [kG5] at hp; subst hp; show 10 ≤ I.int 63 ∧ I.int 63 ≤ 2147483647; rw [int63]; omega) (bo3 _ _)) run_G5
  by_cases hd : I.ids.Nodup
  rotate_left
  · have hpp : I.peers.p ≠ none := fun e => by
      have := (hI.peers.nil e).1
      have : I.ids = [] := List.eq_nil_of_length_eq_zero (by omega)
      rw [this] at hd
      simp at hd
    exact class_ok hI (guard_in (u1 := true) (u2 := false) hI (k := kG6) rfl rfl rfl rfl rfl rfl rfl (fun _ => hpp) (fun h => by cases h) (p_any (b := true) hI (fun _ => hpp) (fun h => by cases h)) c_ov
      (fun p hp => by simp [kG6] at hp; subst hp; show 0 ≤ I.int 63 ∧ I.int 63 ≤ 9; rw [int63]; omega) (fun p hp => by
        rcases List.mem_cons.1 hp with hp | hp
        · subst hp; exact b43n hd
        · exact bo3 _ _ p hp)) run_G6
  by_cases hx9 : 9 < I.ctx.n
  · have hcp : I.ctx.p ≠ none := fun e => by have := (hI.ctx.nil e).1; omega
    have hm := hI.ctx.le
    have hm2 := hI.ctx.max
    exact class_ok hI (guard_in (u1 := bp) (u2 := true) hI (k := kG7 bp) rfl rfl rfl rfl rfl hu rfl hp1 (fun _ => hcp) (p_any hI hp1 hp2) (c_any (b := true) hI (fun _ => hcp) (fun h => by cases h))
      (fun p hp => by
        simp [kG7] at hp
        rcases hp with hp | hp
        · subst hp; show 0 ≤ I.int 63 ∧ I.int 63 ≤ 9; rw [int63]; omega
        · subst hp; show 10 ≤ I.int 62 ∧ I.int 62 ≤ maxI; rw [int62]; unfold maxI; omega) (bo4 h1 h8 hr hd)) (run_G7 bp)
  obtain ⟨bc, hc1, hc2⟩ : ∃ b : Bool, (b = true → I.ctx.p ≠ none) ∧ (b = false → I.ctx.p = none) := by
    cases hp : I.ctx.p with
    | none => exact ⟨false, (fun h => by cases h), (fun _ => rfl)⟩
    | some a => exact ⟨true, (fun _ => by simp), (fun h => by cases h)⟩
  have hstep : ∀ m, m ≤ I.ids.length → (Calls Tryz.prog 3 #[I.setup, I.peers.val, I.ctx.val] I.W fun e w' => e = .returned (.bool true) ∧ Below I.W.heap.size I.W w') ∨ Good I m := by
    intro m
    induction m with
    | zero => intro _; exact .inr (fun j hj => by omega)
    | succ m ih =>
      intro hm
      rcases ih (by omega) with hdone | hg
      · exact .inl hdone
      · by_cases hid : 0 < I.ids.getD m 0 ∧ I.ids.getD m 0 < 1099511627776
        · by_cases hsz : (I.strs.getD m .empty).size ≤ 100
          · right
            intro j hj
            by_cases e : j = m
            · subst e; exact ⟨hid, hsz⟩
            · exact hg j (by omega)
          · left
            exact class_ok hI (b2_in hI h1 h8 hr hd (by omega) (by omega) (by omega) hg hid (by omega)) (run_B2 m (by omega))
        · left
          have hrg := hI.pR (I.ids.getD m 0) (by rw [List.getD_eq_getElem?_getD, List.getElem?_eq_getElem (by omega)]; exact List.getElem_mem (by omega))
          by_cases h0 : I.ids.getD m 0 = 0
          · exact class_ok hI (b1_in (b := bc) (low := true) hI h1 h8 hr hd (by omega) (by omega) (by omega) hg hc1 hc2 (by rw [if_pos rfl]; exact h0)) (run_B1 m (by omega) bc true)
          · exact class_ok hI (b1_in (b := bc) (low := false) hI h1 h8 hr hd (by omega) (by omega) (by omega) hg hc1 hc2 (by rw [if_neg (by simp)]; omega)) (run_B1 m (by omega) bc false)
  rcases hstep I.ids.length (Nat.le_refl _) with hdone | hg
  · exact hdone
  · cases hpp : I.peers.p with
    | none =>
      have h0 : I.ids.length = 0 := by have := (hI.peers.nil hpp).1; omega
      have hin := m_in (b := bc) (pn := true) hI h1 h8 hr hd (by omega) (by omega) hg hc1 hc2 (fun h => by cases h) (fun _ => hpp)
      rw [h0] at hin
      exact class_ok hI hin (run_M0 bc I.ls true)
    | some a =>
      have hin := m_in (b := bc) (pn := false) hI h1 h8 hr hd (by omega) (by omega) hg hc1 hc2 (fun _ => by rw [hpp]; simp) (fun h => by cases h)
      by_cases h0 : I.ids.length = 0
      · rw [h0] at hin
        exact class_ok hI hin (run_M0 bc I.ls false)
      · exact class_ok hI hin (run_M I.ids.length h0 (by omega) bc I.ls)
end Go.Sx
end
