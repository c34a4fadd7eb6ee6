/-
  Contracts that hold: bytesOf, ZzMarshal, ZzUnmarshal.
-/
import Derived.Test.YtaenfbadkcfdaaaGreatSd
import Derived.Test.YtaenfbadkcfdaaaGreatSk
import Derived.Test.YtaenfbadkcfdaaaGreatBe
noncomputable section
namespace Go.Sx
open Go.RowKit (Below)
open Go.Proofs
set_option linter.unusedVariables false
set_option linter.unusedSimpArgs false

section
variable {ρ : Env} {c : Cfg} {α : Al} {P : Program} {s s' : St} {w w' : World}

theorem newO_eq {s s' : St} {o : Obj} {n : Nat} (h : newO s o = some (n, s')) : n = s.ctr ∧ s.mem.get n = none ∧ s' = ⟨s.mem.put n o, s.ctr + 1⟩ := by
  cases s with
  | mk m k =>
    simp only [newO, force_eq] at h
    split at h
    · rename_i s2 hs2
      simp at h
      obtain ⟨rfl, rfl⟩ := h
      obtain ⟨h1, h2⟩ := alloc_eq hs2
      exact ⟨rfl, h1, h2⟩
    · cases h

/-- a world that has grown -/
theorem Post.grow {v : V} {x : Value} (hR : Rel P ρ α s w) (hB : Below w.heap.size w w') (hv : VR ρ α v x) : Post P ρ α s w v s x w' := ⟨α, hR.grow hB, Fr.grow _ _ hB, hv⟩

/-- a name more, that is not written, where another one lies -/
theorem Rel.ghost (h : Rel P ρ α s w) {n k : Nat} {o ok : Obj} {l lk : Loc} (hn : s.mem.get n = none) (hk : s.mem.get k = some ok) (hkl : ok.live = true) (hko : ok.own = false) (hkα : α k = some lk) (hl : l.block = lk.block)
    (hown : o.own = false) (ho : OR P ρ (α.with n l) w l o) (c : Nat) : Rel P ρ (α.with n l) ⟨s.mem.put n o, c⟩ w ∧ Fr α s w (α.with n l) ⟨s.mem.put n o, c⟩ w := by
  have hα : α n = none := (h.dom n).2 hn
  have hle := Al.le_with (l := l) hα
  refine ⟨⟨?_, ?_, ?_, ?_, h.below, h.init.trans hle⟩, ⟨hle, Nat.le_refl _, fun _ _ _ => rfl, ?_, ?_⟩⟩
  · intro m
    simp only [Al.with, PT.get_put]
    split
    · simp
    · exact h.dom m
  · intro m o' l' hm hl'
    simp only [Al.with, PT.get_put] at hm hl'
    split at hm
    · rename_i e
      subst e
      simp only [if_true] at hl'
      cases hm; cases hl'; exact ho
    · rename_i e
      rw [if_neg e] at hl'
      exact (h.obj m o' l' hm hl').mono _ _ _ _ _ hle
  · intro m m' o1 o2 l1 l2 h1 h2 how hlv hne ha1 ha2
    simp only [Al.with, PT.get_put] at h1 h2 ha1 ha2
    split at h1
    · cases h1; rw [hown] at how; cases how
    · rename_i e
      rw [if_neg e] at ha1
      split at h2
      · rename_i e'
        subst e'
        simp only [if_true] at ha2
        cases ha2
        rw [hl]
        refine h.apart m k o1 ok l1 lk h1 hk how hkl ?_ ha1 hkα
        intro e2; subst e2
        rw [hk] at h1; cases h1; rw [hko] at how; cases how
      · rename_i e'
        rw [if_neg e'] at ha2
        exact h.apart m m' o1 o2 l1 l2 h1 h2 how hlv hne ha1 ha2
  · intro m o' l' hm how hl'
    simp only [Al.with, PT.get_put] at hm hl'
    split at hm
    · cases hm; rw [hown] at how; cases how
    · rename_i e
      rw [if_neg e] at hl'
      exact h.fresh m o' l' hm how hl'
  · rintro b ⟨m, o', l', hm, how, hl', rfl⟩
    simp only [Al.with, PT.get_put] at hm hl'
    split at hm
    · cases hm; rw [hown] at how; cases how
    · rename_i e
      rw [if_neg e] at hl'
      exact .inl ⟨m, o', l', hm, how, hl', rfl⟩
  · rintro b ⟨m, o', l', hm, how, hl', rfl⟩
    simp only [Al.with, PT.get_put] at hm hl'
    split at hm
    · rename_i e
      subst e
      simp only [if_true] at hl'
      cases hl'
      exact .inl ⟨k, ok, lk, hk, hkl, hkα, hl.symm⟩
    · rename_i e
      rw [if_neg e] at hl'
      exact .inl ⟨m, o', l', hm, how, hl', rfl⟩

theorem Fr.add {α1 : Al} {s1 : St} {w1 : World} (hF : Fr α s w α1 s1 w1) {n : Nat} {o : Obj} {l : Loc} (hα : α1 n = none) (hl : w.heap.size ≤ l.block) (c : Nat) : Fr α s w (α1.with n l) ⟨s1.mem.put n o, c⟩ w1 := by
  refine ⟨hF.le.trans (Al.le_with hα), hF.size, hF.kept, ?_, ?_⟩
  · rintro b ⟨m, o', l', hm, how, hl', rfl⟩
    simp only [Al.with, PT.get_put] at hm hl'
    split at hm
    · rename_i e
      subst e
      simp only [if_true] at hl'
      cases hl'
      exact .inr hl
    · rename_i e
      rw [if_neg e] at hl'
      exact hF.mine _ ⟨m, o', l', hm, how, hl', rfl⟩
  · rintro b ⟨m, o', l', hm, how, hl', rfl⟩
    simp only [Al.with, PT.get_put] at hm hl'
    split at hm
    · rename_i e
      subst e
      simp only [if_true] at hl'
      cases hl'
      exact .inr hl
    · rename_i e
      rw [if_neg e] at hl'
      exact hF.used _ ⟨m, o', l', hm, how, hl', rfl⟩

/-- a world that has grown, and one block of which is written: ahead of that -/
theorem grown_but {b : Nat} (hb : b < w.heap.size) (hg : w.grownBy w' (some b)) : ∃ w1, Below w.heap.size w w1 ∧ w1.heap.size = w'.heap.size ∧ (∀ k, k ≠ b → w'.heap[k]? = w1.heap[k]?) ∧ w'.os = w1.os ∧ w'.tape = w1.tape ∧ w'.output = w1.output := by
  have hlt : b < w'.heap.size := Nat.lt_of_lt_of_le hb hg.size
  refine ⟨{ w' with heap := w'.heap.setIfInBounds b w.heap[b] }, ⟨hg.os, hg.tape, hg.output, by simpa using hg.size, ?_⟩, by simp, ?_, rfl, rfl, rfl⟩
  · intro k hk
    by_cases e : k = b
    · subst e
      simp [Array.getElem?_setIfInBounds, hlt, Array.getElem?_eq_getElem hb]
    · simp only [Array.getElem?_setIfInBounds]
      rw [if_neg (Ne.symm e)]
      exact hg.block k hk (by simp; exact fun h => e h)
  · intro k hk
    simp only [Array.getElem?_setIfInBounds]
    rw [if_neg (Ne.symm hk)]

/-- strings are no longer than Go's -/
def StrsOK (ρ : Env) : Prop := ∀ i, (ρ.str i).size ≤ maxLen

theorem con_bytesOf (hS : StrsOK ρ) : ConOK Tryz.prog ρ 27 cBytesOf := by
  intro call hcall args s v s' h α w vals hR hv
  unfold cBytesOf at h
  split at h
  · simp at h
    obtain ⟨rfl, rfl⟩ := h
    obtain ⟨u, hu, hx⟩ := hv.one
    have hvals : vals = #[u] := by apply Array.ext'; simpa using hu
    have hue : u = .string ⟨#[]⟩ := hx
    subst hvals hue
    refine (bytesOf_any ⟨#[]⟩ (by decide) w).mono ?_
    rintro e w' (⟨_, rfl, rfl⟩ | ⟨h0, _⟩)
    · exact ⟨_, rfl, Post.here hR ⟨rfl, rfl, fun e he => by cases he; rfl⟩⟩
    · exact absurd rfl h0
  · rename_i i
    split at h
    · rename_i cs0 e0 hm1
      split at h
      · rename_i n s1 hno
        simp at h
        obtain ⟨rfl, rfl⟩ := h
        obtain ⟨hn, hfree, rfl⟩ := newO_eq hno
        obtain ⟨u, hu, hx⟩ := hv.one
        have hvals : vals = #[u] := by apply Array.ext'; simpa using hu
        have hue : u = .string (ρ.str i) := hx
        subst hvals hue
        refine (bytesOf_any (ρ.str i) (hS i) w).mono ?_
        rintro e w' (⟨h0, rfl, rfl⟩ | ⟨h0, c, xs, fz, rfl, hc, hB, hblk, hcells⟩)
        · -- nothing is made: a ghost at name 1's block
          obtain ⟨l1, hl1⟩ : ∃ l1, α 1 = some l1 := by
            cases h1 : α 1 with
            | none => rw [(hR.dom 1).1 h1] at hm1; cases hm1
            | some l => exact ⟨l, rfl⟩
          have hlt := (hR.obj 1 _ l1 hm1 hl1).lt rfl
          have := Rel.ghost (o := .bytes (.var i)) (l := ⟨l1.block, 0, 1, 0⟩) hR hfree hm1 rfl rfl hl1 rfl rfl ⟨rfl, .inr ⟨h0, by simp [Array.getElem?_eq_getElem hlt]⟩⟩ (s.ctr + 1)
          exact ⟨_, rfl, _, this.1, this.2, ⟨⟨l1.block, 0, 1, 0⟩, by simp [Al.with], fun _ => rfl, fun hne => absurd h0 hne⟩⟩
        · have := Rel.new (o := .bytes (.var i)) (l := ⟨w.heap.size, 0, 1, c⟩) hR hfree hB (Nat.le_refl _) ⟨rfl, .inl ⟨xs, 5, fz, hblk, fun j b hj => by simpa using hcells j b hj⟩⟩ (s.ctr + 1)
          exact ⟨_, rfl, _, this.1, this.2, ⟨⟨w.heap.size, 0, 1, c⟩, by simp [Al.with], fun hz => absurd hz h0, fun _ => ⟨c, rfl⟩⟩⟩
      · cases h
    · cases h
  · cases h

/-- a string's bytes, as numbers -/
def nats (s : ByteArray) : List Nat := s.data.toList.map UInt8.toNat
/-- the marshalled changes: of i's number and i's context -/
def MarOK (ρ : Env) (K : Nat) : Prop := ∀ i, i < K → ∃ id : Nat, ρ.int i = id ∧ id < 1099511627776 ∧ (ρ.str i).size ≤ 100 ∧ nats (ρ.str (20 + i)) = changeB id (nats (ρ.str i))
theorem nats_get {s : ByteArray} {j : Nat} {b : UInt8} (h : s.data[j]? = some b) : (nats s)[j]? = some b.toNat := by simp [nats, h]
theorem nats_len (s : ByteArray) : (nats s).length = s.size := by simp [nats]
theorem cells_nats {w : World} {b : Nat} {cs : Array Value} {e : TypeId} {fz : Nat × Nat} (h : w.heap[b]? = some (.cells cs e fz)) (k : Nat) : w.cell? ⟨b, k, none⟩ = cs[k]? := by
  unfold World.cell?; rw [h]; rfl

theorem con_marshal {f : Facts} {K : Nat} (hf : FactsOK ρ f) (hL : LensOK ρ) (hM : MarOK ρ K) : ConOK Tryz.prog ρ 47 (cMarshal f K) := by
  intro call hcall args s v s' h α w vals hR hv
  unfold cMarshal at h
  split at h
  · rename_i n
    split at h
    · rename_i tp nn ctx e0 hn
      split at h
      · rename_i e1 i e2 htp hnn
        split at h
        · rename_i hctx
          split at h
          · rename_i r s1 hno
            simp at h
            obtain ⟨rfl, rfl⟩ := h
            obtain ⟨hr, hfree, rfl⟩ := newO_eq hno
            rw [Bool.and_eq_true] at hctx
            obtain ⟨hi8, hctx⟩ := hctx
            have hi8 : i < K := Nat.le_of_ble_eq_true hi8
            obtain ⟨id, hid, hidlt, hsz, hmar⟩ := hM i hi8
            obtain ⟨u, hu, hx⟩ := hv.one
            have hvals : vals = #[u] := by apply Array.ext'; simpa using hu
            subst hvals
            obtain ⟨l, hl, hue⟩ : ∃ l, α n = some l ∧ u = .pointer (some ⟨l.block, l.base + 0, none⟩) := hx
            obtain ⟨xs, hb, hxs, hbase, _, _⟩ := hR.obj _ _ _ hn hl
            rw [hbase] at hue
            subst hue
            -- its cells
            obtain ⟨x0, h0, hx0⟩ := hxs.get 0 _ rfl
            obtain ⟨x1, h1, hx1⟩ := hxs.get 1 _ rfl
            obtain ⟨x2, h2, hx2⟩ := hxs.get 2 _ rfl
            obtain ⟨x3, h3, hx3⟩ := hxs.get 3 _ rfl
            obtain ⟨lt, hlt, ht⟩ : ∃ l, α tp = some l ∧ x0 = .pointer (some ⟨l.block, l.base + 0, none⟩) := hx0
            obtain ⟨ln, hln, hnp⟩ : ∃ l, α nn = some l ∧ x1 = .pointer (some ⟨l.block, l.base + 0, none⟩) := hx1
            have hx3e : x3 = .pointer none := hx3
            obtain ⟨ts, htb, hts, htbase, _⟩ := hR.obj _ _ _ htp hlt
            obtain ⟨ns, hnb, hns, hnbase, _⟩ := hR.obj _ _ _ hnn hln
            obtain ⟨t0, ht0, hct⟩ := hts.get 0 _ rfl
            obtain ⟨n0, hn0, hcn⟩ := hns.get 0 _ rfl
            have hcte : t0 = .int .i32 0 := hct
            have hcne : n0 = .int .u64 (ρ.int i) := hcn
            rw [htbase] at ht
            rw [hnbase] at hnp
            subst ht hnp hx3e hcte hcne
            have hplt := (hR.obj _ _ _ hn hl).lt rfl
            have htlt := (hR.obj _ _ _ htp hlt).lt rfl
            have hnlt := (hR.obj _ _ _ hnn hln).lt rfl
            have hcv : CtxV w (nats (ρ.str i)) x2 := by
              split at hctx
              · rename_i m j
                rw [Bool.and_eq_true] at hctx
                obtain ⟨hij, hctx⟩ := hctx
                have hij : i = j := Nat.eq_of_beq_eq_true hij
                subst hij
                split at hctx
                · rename_i k hm
                  have hki : k = i := Nat.eq_of_beq_eq_true hctx
                  subst hki
                  obtain ⟨lm, hlm, hz, hnz⟩ := hx2
                  obtain ⟨_, hbm⟩ := hR.obj _ _ _ hm hlm
                  by_cases h0 : (ρ.str k).size = 0
                  · left
                    refine ⟨List.eq_nil_of_length_eq_zero ((nats_len _).trans h0), hz h0⟩
                  · right
                    obtain ⟨c, hcv⟩ := hnz h0
                    rcases hbm with ⟨xs2, e2, fz2, hb2, hxs2⟩ | ⟨h1, _⟩
                    · have hlt2 : lm.block < w.heap.size := (Array.getElem?_eq_some_iff.1 hb2).1
                      refine ⟨fun h => h0 ((nats_len _).symm.trans (by rw [h]; rfl)), lm.block, lm.base, c, ?_, hlt2, ?_⟩
                      · rw [hcv, nats_len]
                      · intro j u hj
                        rw [cells_nats hb2]
                        simp only [u8s, nats, List.map_map, List.getElem?_map, Option.map_eq_some_iff, Array.getElem?_toList] at hj
                        obtain ⟨b, hb3, rfl⟩ := hj
                        exact hxs2 j b hb3
                    · exact absurd h1 h0
                · cases hctx
              · rename_i a b
                split at hctx
                · rename_i hrng
                  have h5 := hf.rng _ _ _ hrng
                  have h6 := hL i
                  have hz : (ρ.str i).size = 0 := by omega
                  left
                  refine ⟨?_, hx2.1⟩
                  have := nats_len (ρ.str i)
                  rw [hz] at this
                  exact List.eq_nil_of_length_eq_zero this
                · cases hctx
              · cases hctx
            have hcall := marshal_any l.block lt.block ln.block id (nats (ρ.str i)) x2 (by rw [nats_len]; exact hsz) (by unfold U64; omega) w hplt htlt hnlt
              (by rw [cells_nats hb]; simpa using h0) (by rw [cells_nats hb]; simpa using h1) (by rw [cells_nats hb]; simpa using h2) (by rw [cells_nats hb]; simpa using h3)
              (by rw [cells_nats htb]; simpa using ht0) (by rw [cells_nats hnb, ← hid]; simpa using hn0) hcv
            refine hcall.mono ?_
            rintro e w' ⟨rv, rfl, hown, hB, hne⟩
            rw [← hmar] at hown
            rcases hown.2 with ⟨h0, _⟩ | ⟨g, cap, cur, hrv, hgb, hg, hnc, _, hcs, htake⟩
            · exact absurd h0 hne
            · subst hrv
              have := Rel.new (o := .bytes (.var (20 + i))) (l := ⟨g, 0, 1, cap⟩) hR hfree hB hgb ⟨rfl, .inl ⟨cur, 5, _, hg, fun j b hj => by
                have h7 : (nats (ρ.str (20 + i)))[j]? = some b.toNat := nats_get hj
                have h8 : (u8s (nats (ρ.str (20 + i))))[j]? = some (.int .u8 b.toNat) := by simp [u8s, h7]
                rw [← htake, List.getElem?_take] at h8
                split at h8
                · simpa using h8
                · cases h8⟩⟩ (s.ctr + 1)
              refine ⟨_, rfl, _, this.1, this.2, ⟨⟨g, 0, 1, cap⟩, ⟨g, 0, none⟩, _, cap, by simp [Al.with], rfl, ?_, hnc, by simp, .inr rfl, by simp⟩⟩
              have h9 := hL (20 + i)
              rw [nats_len]
              show ((ρ.str (20 + i)).size : Int) = ρ.int (520 + i)
              have e : 520 + i = 500 + (20 + i) := by omega
              rw [e, h9]
          · cases h
        · cases h
      · cases h
    · cases h
  · cases h

theorem con_unmarshal {K : Nat} (hL : LensOK ρ) (hM : MarOK ρ K) {tyI tyU : TypeId} : ConOK Tryz.prog ρ 130 (cUnmarshal K tyI tyU) := by
  intro call hcall args s v s' h α w vals hR hv
  unfold cUnmarshal at h
  split at h
  · rename_i n b z zc
    split at h
    · rename_i j e1 e2 e hb hn
      split at h
      · rename_i hz
        split at h
        · rename_i a s1 hno1
          split at h
          · rename_i d s2 hno2
            simp only [Bool.and_eq_true] at hz
            obtain ⟨⟨⟨⟨⟨hz1, h20⟩, h28⟩, he93⟩, ht1⟩, ht2⟩ := hz
            have hz1 := Nat.eq_of_beq_eq_true hz1
            have he93 := Nat.eq_of_beq_eq_true he93
            have ht1 := Nat.eq_of_beq_eq_true ht1
            have ht2 := Nat.eq_of_beq_eq_true ht2
            have h20 := Nat.le_of_ble_eq_true h20
            have h28 := Nat.le_of_ble_eq_true h28
            subst hz1 he93 ht1 ht2
            obtain ⟨ha, hfree1, rfl⟩ := newO_eq hno1
            obtain ⟨hd, hfree2, rfl⟩ := newO_eq hno2
            simp only [mk, St.set, PT.putK_k, Option.map_some, Option.some.injEq, Prod.mk.injEq] at h
            obtain ⟨rfl, rfl⟩ := h
            obtain ⟨i, rfl⟩ : ∃ i, j = 20 + i := ⟨j - 20, by omega⟩
            have hi8 : i < K := by omega
            have hji : 20 + i - 20 = i := by omega
            obtain ⟨id, hid, hidlt, hsz, hmar⟩ := hM i hi8
            obtain ⟨u0, u1, hvals, hx0, hx1⟩ : ∃ u0 u1, vals = #[u0, u1] ∧ VR ρ α (.sc (.a (.ptr (some (n, 0))))) u0 ∧ VR ρ α (.sc (.a (.slice (some (b, 0)) (.var (500 + (20 + i))) zc))) u1 := by
              obtain ⟨u0, h0, hx0⟩ := hv.get 0 _ rfl
              obtain ⟨u1, h1, hx1⟩ := hv.get 1 _ rfl
              have hlen := hv.length
              refine ⟨u0, u1, ?_, hx0, hx1⟩
              apply Array.ext'
              apply List.ext_getElem?
              intro k
              match k with
              | 0 => simpa using h0
              | 1 => simpa using h1
              | k + 2 =>
                rw [List.getElem?_eq_none (by simp at hlen ⊢; omega)]
                simp
            subst hvals
            obtain ⟨l, hl, hu0⟩ : ∃ l, α n = some l ∧ u0 = .pointer (some ⟨l.block, l.base + 0, none⟩) := hx0
            obtain ⟨lb, ad, ln, cc, hlb, hu1, hln, hlc, hcap, had, _⟩ := hx1
            obtain ⟨xs, hpb, hxs, hbase, _, _⟩ := hR.obj _ _ _ hn hl
            rw [hbase] at hu0
            subst hu0 hu1
            have hplt := (hR.obj _ _ _ hn hl).lt rfl
            have hblt := (hR.obj _ _ _ hb hlb).lt rfl
            have hxse : xs = #[.pointer none, .pointer none, .slice none 0 0, .pointer none] := by
              obtain ⟨x0, h0, hy0⟩ := hxs.get 0 _ rfl
              obtain ⟨x1, h1, hy1⟩ := hxs.get 1 _ rfl
              obtain ⟨x2, h2, hy2⟩ := hxs.get 2 _ rfl
              obtain ⟨x3, h3, hy3⟩ := hxs.get 3 _ rfl
              have hlen := hxs.length
              have hy0 : x0 = .pointer none := hy0
              have hy1 : x1 = .pointer none := hy1
              have hy2 : x2 = .slice none 0 0 := hy2.1
              have hy3 : x3 = .pointer none := hy3
              subst hy0 hy1 hy2 hy3
              apply Array.ext'
              apply List.ext_getElem?
              intro k
              match k with
              | 0 => simpa using h0
              | 1 => simpa using h1
              | 2 => simpa using h2
              | 3 => simpa using h3
              | k + 4 =>
                rw [List.getElem?_eq_none (by simp at hlen ⊢; omega)]
                simp
            subst hxse
            have hsl := hL (20 + i)
            have hnl := nats_len (ρ.str (20 + i))
            have hlnn : ln = (changeB id (nats (ρ.str i))).length := by
              rw [← hmar, hnl]
              have : (ln : Int) = ρ.int (500 + (20 + i)) := hln
              omega
            have hpos : 0 < (changeB id (nats (ρ.str i))).length := by simp [changeB]
            have hade : ad = ⟨lb.block, lb.base, none⟩ := by
              rcases had with h0 | h0
              · omega
              · simpa using h0
            subst hade hlnn
            obtain ⟨_, hbb⟩ := hR.obj _ _ _ hb hlb
            have hbytes : BytesAt w lb.block lb.base (changeB id (nats (ρ.str i))) := by
              rcases hbb with ⟨ys, ey, fy, hbk, hys⟩ | ⟨h0, _⟩
              · intro j u hj
                rw [cells_nats hbk]
                rw [← hmar] at hj
                simp only [u8s, nats, List.map_map, List.getElem?_map, Option.map_eq_some_iff, Array.getElem?_toList] at hj
                obtain ⟨y, hy, rfl⟩ := hj
                exact hys j y hy
              · have : (ρ.str (20 + i)).size = 0 := h0
                rw [hmar] at hnl
                omega
            have hcall : Calls Tryz.prog 130 #[.pointer (some ⟨l.block, 0, none⟩), .slice (some ⟨lb.block, lb.base, none⟩) (changeB id (nats (ρ.str i))).length cc] w (UnEnd w l.block id) := by
              by_cases h0 : nats (ρ.str i) = []
              · rw [h0] at hbytes hlc ⊢
                exact unmarshal2 l.block lb.block lb.base cc id (by omega) w hplt hblt hpb hlc hbytes
              · have hp1 : 1 ≤ (nats (ρ.str i)).length := List.length_pos_iff.2 h0
                exact unmarshal3 l.block lb.block lb.base cc id _ hp1 (by rw [nats_len]; exact hsz) (by omega) w hplt hblt hpb hlc hbytes
            refine hcall.mono ?_
            rintro e w' ⟨pa, pb, xc, rfl, hne, hpa, hpb', hpc, ⟨q, qn, qc, rfl⟩, hca, hcb, hg⟩
            obtain ⟨w1, hB1, hs1, hk1, ho1, ht1, hout1⟩ := grown_but hplt hg
            have hna : n ≠ a := by rintro rfl; rw [hfree1] at hn; cases hn
            have hfd : (s.mem.put a (.blk [.a (.int .i32 (.lit 0))] 89)).get d = none := hfree2
            have hda : d ≠ a := by rw [hd, ha]; exact Nat.succ_ne_self _
            have hnd : n ≠ d := by
              rintro rfl
              rw [PT.get_put, if_neg hna, hn] at hfd
              cases hfd
            have hR1 := hR.grow hB1
            have hF1 := Fr.grow α s hB1
            have hαa : α a = none := (hR.dom a).2 hfree1
            have hR2 := Rel.add (o := .blk [.a (.int .i32 (.lit 0))] 89) (l := ⟨pa, 0, 1, 1⟩) hR1 hfree1 ⟨#[.int .i32 0], by rw [← hk1 pa (by omega)]; exact hca, ⟨rfl, trivial⟩, rfl, rfl, rfl⟩ (Nat.le_trans hR.size hpa)
              (fun m o' l' hm hl' hlv => by have := (hR.obj m o' l' hm hl').lt hlv; show l'.block ≠ pa; omega) (s.ctr + 1)
            have hF2 := Fr.add (o := .blk [.a (.int .i32 (.lit 0))] 89) (l := ⟨pa, 0, 1, 1⟩) hF1 hαa hpa (s.ctr + 1)
            have hαd : (α.with a ⟨pa, 0, 1, 1⟩) d = none := (hR2.dom d).2 hfd
            have hR3 := Rel.add (o := .blk [.a (.int .u64 (.var (20 + i - 20)))] 22) (l := ⟨pb, 0, 1, 1⟩) hR2 hfd ⟨#[.int .u64 id], by rw [← hk1 pb (by omega)]; exact hcb, ⟨by rw [hji]; show _ = Value.int .u64 (ρ.int i); rw [hid], trivial⟩, rfl, rfl, rfl⟩ (Nat.le_trans hR.size hpb')
              (fun m o' l' hm hl' hlv => by
                simp only [PT.get_put, Al.with] at hm hl'
                split at hm
                · rename_i e
                  rw [if_pos e] at hl'
                  cases hl'
                  exact hne
                · rename_i e
                  rw [if_neg e] at hl'
                  have := (hR.obj m o' l' hm hl').lt hlv
                  show l'.block ≠ pb
                  omega) (s.ctr + 1 + 1)
            have hF3 := Fr.add (o := .blk [.a (.int .u64 (.var (20 + i - 20)))] 22) (l := ⟨pb, 0, 1, 1⟩) hF2 hαd hpb' (s.ctr + 1 + 1)
            have hgn : ((s.mem.put a (.blk [.a (.int .i32 (.lit 0))] 89)).put d (.blk [.a (.int .u64 (.var (20 + i - 20)))] 22)).get n = some (.blk [.a (.ptr none), .a (.ptr none), .a (.slice none e1 e2), .a (.ptr none)] 93) := by
              rw [PT.get_put, if_neg hnd, PT.get_put, if_neg hna, hn]
            have hle3 := hF3.le
            have hl3 := hle3 _ _ hl
            have hup := Rel.upd (o' := .blk [.a (.ptr (some (a, 0))), .a (.ptr (some (d, 0))), .a .any, .a (.ptr none)] 93) hR3 hgn rfl hl3 hk1 hs1.symm ho1 ht1 hout1
              ⟨_, hpc, ⟨⟨⟨pa, 0, 1, 1⟩, by simp [Al.with, Ne.symm hda], rfl⟩, ⟨⟨pb, 0, 1, 1⟩, by simp [Al.with], rfl⟩, trivial, rfl, trivial⟩, hbase, by assumption, by assumption⟩ (.inl rfl) (s.ctr + 1 + 1)
            exact ⟨_, rfl, _, hup.1, hF3.trans hup.2, rfl⟩
          · cases h
        · cases h
      · cases h
    · cases h
  · cases h
end
end Go.Sx
end
