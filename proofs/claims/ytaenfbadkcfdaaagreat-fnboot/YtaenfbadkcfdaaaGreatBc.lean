/-
  Reading the fields of a written form.
-/
import Derived.Test.YtaenfbadkcfdaaaGreatBb
import Derived.Lib.FrozenHead
import Derived.Deep.RegionWith
namespace Go.Proofs
open Go.RowKit
set_option linter.unusedVariables false
theorem Tryz.info351 : (Tryz.prog.info? 351).map (fun i => (i.zero, i.size, i.bytes)) = some (some (.agg #[.int .i64 0, .bool false, .int .u64 0, .slice none 0 0]), 4, 48) := by kernel_rfl
theorem uv_to {g o n cap N L R : Nat} {bs rest : List Nat} {w : World} (HN : Hid (N = bs.length)) (HBS : Hid (bs = vb n ++ rest)) (HL : Hid (L = (vb n).length)) (HR : Hid (R = rest.length)) (hn : n < 4398046511104) (hb : BytesAt w g o bs) (hlen : N ≤ 1000) (hcap : N ≤ cap) :
    Calls Tryz.prog 296 #[.slice (some ⟨g, o, none⟩) N cap] w (UvEnd w n g (o + L) R (cap - L)) := by
  have h1 := HN.out
  have h2 := HL.out
  have h3 := HR.out
  subst h1 h2 h3
  exact uvarint_any g o n cap bs rest hn w hb HBS.out hlen hcap
def UvEndI (w : World) (n : Int) (g o len cap : Nat) (e : Ending) (w' : World) : Prop := ∃ v, e = .returned (.tuple #[.int .u64 n, v, .bool true]) ∧ Rest g o len cap v ∧ ∃ k, w' = w.drewN k
theorem uv_tag {g o n cap N R : Nat} {z : Int} {bs rest : List Nat} {w : World} (hz : Hid (z = (n : Int))) (HN : Hid (N = bs.length)) (HBS : Hid (bs = n :: rest)) (hn : n < 128) (HR : Hid (R = rest.length)) (hb : BytesAt w g o bs) (hlen : N ≤ 1000) (hcap : N ≤ cap) :
    Calls Tryz.prog 296 #[.slice (some ⟨g, o, none⟩) N cap] w (UvEndI w z g (o + 1) R (cap - 1)) := by
  have h := uv_to (n := n) (L := 1) HN (Lib.hid (by rw [HBS.out, vb_small hn]; rfl)) (Lib.hid (by rw [vb_small hn]; rfl)) HR (by omega) hb hlen hcap
  rw [hz.out]
  exact h
theorem below_drewN {B : Nat} {w w1 : World} (h : Below B w w1) (k : Nat) : Below B w (w1.drewN k) := ⟨h.os, h.tape, h.output, h.size, h.block⟩
theorem cell_new (w : World) (xs : List Value) (e : TypeId) : ∀ j u, xs[j]? = some u → (w.alloc (.cells xs.toArray e)).cell? ((⟨w.heap.size, 0, none⟩ : Addr).add j) = some u := by
  intro j u hj
  have : (w.alloc (.cells xs.toArray e)).heap[w.heap.size]? = some (.cells xs.toArray e (0, 0)) := by show (w.heap.push _)[_]? = _; simp
  rw [add_none, Nat.zero_add]
  unfold World.cell?
  rw [this]
  simpa using hj
theorem cell_new_at {w : World} {b : Nat} {xs : List Value} {ys : Array Value} {e : TypeId} (hb : b = w.heap.size) (hy : ys = xs.toArray) : ∀ j u, xs[j]? = some u → (w.alloc (.cells ys e)).cell? ((⟨b, 0, none⟩ : Addr).add j) = some u := by
  subst hb hy
  exact cell_new w xs e
inductive Fld where
  | f2 (id : Nat)
  | f3 (id : Nat)
  | f4 (tx : List Nat)
def Fld.enc : Fld → List Nat
  | .f2 id => 16 :: vb id
  | .f3 id => 24 :: vb id
  | .f4 tx => 34 :: tx.length :: tx
def Fld.ok : Fld → Prop
  | .f2 id => id < 4398046511104
  | .f3 id => id < 4398046511104
  | .f4 tx => 1 ≤ tx.length ∧ tx.length ≤ 100
def FC (w0 : World) (g : Nat) : Fld → List Value → Prop
  | .f2 id, cs => cs = [.int .i64 2, .bool false, .int .u64 id, .slice none 0 0]
  | .f3 id, cs => cs = [.int .i64 3, .bool false, .int .u64 id, .slice none 0 0]
  | .f4 tx, cs => ∃ o cp, cs = [.int .i64 4, .bool true, .int .u64 tx.length, .slice (some ⟨g, o, none⟩) tx.length cp] ∧ BytesAt w0 g o tx
def FCs (w0 : World) (g : Nat) : List Fld → List Value → Prop
  | [], cs => cs = []
  | f :: fs, cs => ∃ c0 rest, cs = c0 ++ rest ∧ FC w0 g f c0 ∧ FCs w0 g fs rest
theorem FC.len {w0 : World} {g : Nat} {f : Fld} {cs : List Value} (h : FC w0 g f cs) : cs.length = 4 := by
  cases f with
  | f2 id => rw [show cs = _ from h]; rfl
  | f3 id => rw [show cs = _ from h]; rfl
  | f4 tx => obtain ⟨o, cp, e, _⟩ := h; rw [e]; rfl
theorem FCs.snoc {w0 : World} {g : Nat} : ∀ {fs : List Fld} {cs : List Value} {f : Fld} {c : List Value}, FCs w0 g fs cs → FC w0 g f c → FCs w0 g (fs ++ [f]) (cs ++ c)
  | [], cs, f, c, h, hf => by
    rw [show cs = [] from h]
    exact ⟨c, [], by simp, hf, rfl⟩
  | g :: fs, cs, f, c, h, hf => by
    obtain ⟨c0, r, rfl, h1, h2⟩ := h
    exact ⟨c0, r ++ c, by simp, h1, FCs.snoc h2 hf⟩
def encs : List Fld → List Nat
  | [] => []
  | f :: fs => f.enc ++ encs fs
theorem encs_append (a b : List Fld) : encs (a ++ b) = encs a ++ encs b := by
  induction a with
  | nil => rfl
  | cons f a ih => simp [encs, ih]
theorem encs_len {a b fs : List Fld} (h : a ++ b = fs) : (encs b).length ≤ (encs fs).length := by
  rw [← h, encs_append]; simp
/-- what the loop over fields keeps -/
def FRel (w0 : World) (fs : List Fld) (g : Nat) (bv ov : Value) (wr : World) : Prop :=
  ∃ (done rem : List Fld) (o cap : Nat) (css : List Value), Hid (done ++ rem = fs) ∧ Rest g o (encs rem).length cap bv ∧ (encs rem).length ≤ cap ∧ BytesAt wr g o (encs rem) ∧ wr.ownsRow w0.heap.size 351 4 ov done.length css ∧ Hid (FCs w0 g done css) ∧ Below w0.heap.size w0 wr
def FEnd (w0 : World) (g : Nat) (fs : List Fld) (e : Ending) (w' : World) : Prop :=
  ∃ ov css, e = .returned (.tuple #[ov, .nilIface]) ∧ w'.ownsRow w0.heap.size 351 4 ov fs.length css ∧ FCs w0 g fs css ∧ Below w0.heap.size w0 w'
def lenS : Value → Nat
  | .slice _ n _ => n
  | _ => 0
set_option maxRecDepth 100000 in
set_option maxHeartbeats 4000000 in
theorem fields_any (g o cap : Nat) (fs : List Fld) (hfs : fs.length ≤ 3) (hok : ∀ f ∈ fs, f.ok) (hlen : (encs fs).length ≤ 1000) (hcap : (encs fs).length ≤ cap) (w : World) (hg : g < w.heap.size) (hb : BytesAt w g o (encs fs)) :
    Calls Tryz.prog 219 #[.slice (some ⟨g, o, none⟩) (encs fs).length cap] w (FEnd w g fs) := by
  obtain ⟨i0, hi, hz0, hz1, hz2⟩ := info_parts Tryz.info351
  have hR : FRel w fs g (.slice (some ⟨g, o, none⟩) (encs fs).length cap) (.slice none 0 0) w := ⟨[], fs, o, cap, [], Lib.hid rfl, ⟨_, rfl, fun _ => rfl⟩, hcap, hb, World.ownsRow_nil _ _ _ _, Lib.hid rfl, Below.refl _ _⟩
  go_enter Tryz.func219, Tryz.ntmps219
  go_wp2
  go_loopw [0, 4] (fun bv ov wr => FRel w fs g bv ov wr) (fun bv ov wr => lenS bv)
  case atStart => exact hR
  case round =>
    clear hR hb
    obtain ⟨done, rem, o, cap, css, HD, hrest, hcap, hb, hown, HC, hB⟩ := hrel
    obtain ⟨ad, rfl, had⟩ := hrest
    have hsz := hB.size
    cases rem with
    | nil =>
      go_wp2
      have hfs' : done = fs := by simpa using HD.out
      subst hfs'
      exact bodyPost_ret (v := .tuple #[u4, .nilIface]) (by simp [results, Tryz.results219, go_sem]) rfl ⟨u4, css, rfl, hown, HC.out, hB⟩
    | cons f rem =>
      cases f with
      | f2 id =>
        obtain ⟨N, hN⟩ : ∃ N, N = (encs (.f2 id :: rem)).length := ⟨_, rfl⟩
        have hNl : N = 1 + (vb id).length + (encs rem).length := by rw [hN]; simp [encs, Fld.enc]; omega
        have hv1 := vb_pos id
        have hidok : id < 4398046511104 := hok (.f2 id) (by rw [← HD.out]; simp)
        have hNle : N ≤ 1000 := by rw [hN]; exact Nat.le_trans (encs_len HD.out) hlen
        rw [← hN] at hcap had
        obtain rfl := had (by omega)
        have HN : Hid (N = (encs (.f2 id :: rem)).length) := Lib.hid hN
        have HB : Hid (encs (.f2 id :: rem) = 16 :: (vb id ++ encs rem)) := Lib.hid (by simp [encs, Fld.enc])
        obtain ⟨R1, hR1⟩ : ∃ R1, R1 = (vb id ++ encs rem).length := ⟨_, rfl⟩
        have HR1 : Hid (R1 = (vb id ++ encs rem).length) := Lib.hid hR1
        have hR1N : N = 1 + R1 := by rw [hR1, hNl]; simp; omega
        obtain ⟨L1, hL1⟩ : ∃ L1, L1 = (vb id).length := ⟨_, rfl⟩
        have HL1 : Hid (L1 = (vb id).length) := Lib.hid hL1
        obtain ⟨R2, hR2⟩ : ∃ R2, R2 = (encs rem).length := ⟨_, rfl⟩
        have HR2 : Hid (R2 = (encs rem).length) := Lib.hid hR2
        rw [← hN]
        have hR1pos : 0 < R1 := by rw [hR1]; simp; omega
        have hR1le : R1 ≤ 1000 := by omega
        have hR1cap : R1 ≤ cap - 1 := by omega
        have hNpos : 0 < N := by omega
        have hR12 : R1 = L1 + R2 := by rw [hR1, hL1, hR2]; simp
        have HN1 : Hid (N = 1 + R1 ∧ R1 = L1 + R2) := Lib.hid ⟨hR1N, hR12⟩
        clear hN hNl hv1 hR1 hL1 hR2 hR1N had hR12
        have hb1 : BytesAt wr g (o + 1) (vb id ++ encs rem) := by have := hb.drop 1; rw [HB.out] at this; exact this
        have hdl : done.length ≤ 3 := by have := congrArg List.length HD.out; simp at this; omega
        go_wp2_with (first
          | (go_at_call 296; ((with_reducible refine (uv_tag (n := 16) (z := 16) (Lib.hid rfl) HN HB (by omega) HR1 hb hNle hcap).mono ?_); rintro e w1 ⟨v1, rfl, ⟨ad1, rfl, had1⟩, k1, hw1⟩)
             obtain rfl := had1 hR1pos
             have hb2 : BytesAt w1 g (o + 1) (vb id ++ encs rem) := by rw [hw1]; exact hb1
             have hown1 : w1.ownsRow w.heap.size 351 4 u4 done.length css := by rw [hw1]; exact hown
             have hB1 : Below w.heap.size w w1 := by rw [hw1]; exact below_drewN hB _
             clear had1 hw1)
          | (go_at_call 296; ((with_reducible refine (uv_to HR1 (Lib.hid rfl) HL1 HR2 hidok hb2 hR1le hR1cap).mono ?_); rintro e w2 ⟨v2, rfl, ⟨ad2, rfl, had2⟩, k2, hw2⟩)
             have HAD2 := Lib.hid had2
             have hb3 : BytesAt w2 g (o + 1) (vb id ++ encs rem) := by rw [hw2]; exact hb2
             have hown2 : w2.ownsRow w.heap.size 351 4 u4 done.length css := by rw [hw2]; exact hown1
             have hB2 : Below w.heap.size w w2 := by rw [hw2]; exact below_drewN hB1 _
             have hsz2 := hB2.size
             clear had2 hw2)
          | (at_builtin; refine wpList_append_own _ rfl (.tmp 82) (.tmp 84) 347 rfl w.heap.size 351 i0 (.agg #[.int .i64 0, .bool false, .int .u64 0, .slice none 0 0]) 4 48 Tryz.underlying347 hi hz0 hz1 hz2 rfl (by decide) _ _ _ rfl ((hown2.alloc _).alloc _) ⟨w2.heap.size + 1, 0, none⟩ 1 1 [.int .i64 2, .bool false, .int .u64 id, .slice none 0 0] rfl rfl (cell_new_at (by simp) rfl) (by intro x hx; simp at hx; rcases hx with rfl | rfl | rfl | rfl <;> rfl) (by unfold maxLen; omega) (by omega) (by simp; omega) ?_; intro v' w3 hown' hgrow3 hnil3))
        have hB23 : Below w.heap.size w2 w3 := (((Below.refl _ w2).alloc hsz2 _).alloc (by simp; omega) _).grown hgrow3 (by simp; omega) (fun k hk => (hown2.lt k hk).1)
        have hB3 : Below w.heap.size w w3 := hB2.trans hB23
        have hRn : FRel w fs g (.slice (some ad2) R2 (cap - 1 - L1)) v' w3 := by
          refine ⟨done ++ [.f2 id], rem, o + 1 + L1, cap - 1 - L1, _, Lib.hid (by rw [← HD.out]; simp), ⟨ad2, by rw [← HR2.out], fun h => HAD2.out (by rw [HR2.out]; exact h)⟩, ?_, ?_, by simpa using hown', Lib.hid (HC.out.snoc (f := .f2 id) (c := [.int .i64 2, .bool false, .int .u64 id, .slice none 0 0]) rfl), hB3⟩
          · have := HN1.out; have := HR2.out; omega
          · have h1 := (hb3.below hB23 hg).drop L1
            rw [HL1.out, List.drop_left] at h1
            rw [HL1.out]
            exact h1
        clear hgrow3 hnil3 hown'
        go_roundw
        case rel => exact hRn
        case measure => have := HN1.out; simp [lenS]; omega
      | f3 id =>
        obtain ⟨N, hN⟩ : ∃ N, N = (encs (.f3 id :: rem)).length := ⟨_, rfl⟩
        have hNl : N = 1 + (vb id).length + (encs rem).length := by rw [hN]; simp [encs, Fld.enc]; omega
        have hv1 := vb_pos id
        have hidok : id < 4398046511104 := hok (.f3 id) (by rw [← HD.out]; simp)
        have hNle : N ≤ 1000 := by rw [hN]; exact Nat.le_trans (encs_len HD.out) hlen
        rw [← hN] at hcap had
        obtain rfl := had (by omega)
        have HN : Hid (N = (encs (.f3 id :: rem)).length) := Lib.hid hN
        have HB : Hid (encs (.f3 id :: rem) = 24 :: (vb id ++ encs rem)) := Lib.hid (by simp [encs, Fld.enc])
        obtain ⟨R1, hR1⟩ : ∃ R1, R1 = (vb id ++ encs rem).length := ⟨_, rfl⟩
        have HR1 : Hid (R1 = (vb id ++ encs rem).length) := Lib.hid hR1
        have hR1N : N = 1 + R1 := by rw [hR1, hNl]; simp; omega
        obtain ⟨L1, hL1⟩ : ∃ L1, L1 = (vb id).length := ⟨_, rfl⟩
        have HL1 : Hid (L1 = (vb id).length) := Lib.hid hL1
        obtain ⟨R2, hR2⟩ : ∃ R2, R2 = (encs rem).length := ⟨_, rfl⟩
        have HR2 : Hid (R2 = (encs rem).length) := Lib.hid hR2
        rw [← hN]
        have hR1pos : 0 < R1 := by rw [hR1]; simp; omega
        have hR1le : R1 ≤ 1000 := by omega
        have hR1cap : R1 ≤ cap - 1 := by omega
        have hNpos : 0 < N := by omega
        have hR12 : R1 = L1 + R2 := by rw [hR1, hL1, hR2]; simp
        have HN1 : Hid (N = 1 + R1 ∧ R1 = L1 + R2) := Lib.hid ⟨hR1N, hR12⟩
        clear hN hNl hv1 hR1 hL1 hR2 hR1N had hR12
        have hb1 : BytesAt wr g (o + 1) (vb id ++ encs rem) := by have := hb.drop 1; rw [HB.out] at this; exact this
        have hdl : done.length ≤ 3 := by have := congrArg List.length HD.out; simp at this; omega
        go_wp2_with (first
          | (go_at_call 296; ((with_reducible refine (uv_tag (n := 24) (z := 24) (Lib.hid rfl) HN HB (by omega) HR1 hb hNle hcap).mono ?_); rintro e w1 ⟨v1, rfl, ⟨ad1, rfl, had1⟩, k1, hw1⟩)
             obtain rfl := had1 hR1pos
             have hb2 : BytesAt w1 g (o + 1) (vb id ++ encs rem) := by rw [hw1]; exact hb1
             have hown1 : w1.ownsRow w.heap.size 351 4 u4 done.length css := by rw [hw1]; exact hown
             have hB1 : Below w.heap.size w w1 := by rw [hw1]; exact below_drewN hB _
             clear had1 hw1)
          | (go_at_call 296; ((with_reducible refine (uv_to HR1 (Lib.hid rfl) HL1 HR2 hidok hb2 hR1le hR1cap).mono ?_); rintro e w2 ⟨v2, rfl, ⟨ad2, rfl, had2⟩, k2, hw2⟩)
             have HAD2 := Lib.hid had2
             have hb3 : BytesAt w2 g (o + 1) (vb id ++ encs rem) := by rw [hw2]; exact hb2
             have hown2 : w2.ownsRow w.heap.size 351 4 u4 done.length css := by rw [hw2]; exact hown1
             have hB2 : Below w.heap.size w w2 := by rw [hw2]; exact below_drewN hB1 _
             have hsz2 := hB2.size
             clear had2 hw2)
          | (at_builtin; refine wpList_append_own _ rfl (.tmp 82) (.tmp 84) 347 rfl w.heap.size 351 i0 (.agg #[.int .i64 0, .bool false, .int .u64 0, .slice none 0 0]) 4 48 Tryz.underlying347 hi hz0 hz1 hz2 rfl (by decide) _ _ _ rfl ((hown2.alloc _).alloc _) ⟨w2.heap.size + 1, 0, none⟩ 1 1 [.int .i64 3, .bool false, .int .u64 id, .slice none 0 0] rfl rfl (cell_new_at (by simp) rfl) (by intro x hx; simp at hx; rcases hx with rfl | rfl | rfl | rfl <;> rfl) (by unfold maxLen; omega) (by omega) (by simp; omega) ?_; intro v' w3 hown' hgrow3 hnil3))
        have hB23 : Below w.heap.size w2 w3 := (((Below.refl _ w2).alloc hsz2 _).alloc (by simp; omega) _).grown hgrow3 (by simp; omega) (fun k hk => (hown2.lt k hk).1)
        have hB3 : Below w.heap.size w w3 := hB2.trans hB23
        have hRn : FRel w fs g (.slice (some ad2) R2 (cap - 1 - L1)) v' w3 := by
          refine ⟨done ++ [.f3 id], rem, o + 1 + L1, cap - 1 - L1, _, Lib.hid (by rw [← HD.out]; simp), ⟨ad2, by rw [← HR2.out], fun h => HAD2.out (by rw [HR2.out]; exact h)⟩, ?_, ?_, by simpa using hown', Lib.hid (HC.out.snoc (f := .f3 id) (c := [.int .i64 3, .bool false, .int .u64 id, .slice none 0 0]) rfl), hB3⟩
          · have := HN1.out; have := HR2.out; omega
          · have h1 := (hb3.below hB23 hg).drop L1
            rw [HL1.out, List.drop_left] at h1
            rw [HL1.out]
            exact h1
        clear hgrow3 hnil3 hown'
        go_roundw
        case rel => exact hRn
        case measure => have := HN1.out; simp [lenS]; omega
      | f4 tx =>
        obtain ⟨N, hN⟩ : ∃ N, N = (encs (.f4 tx :: rem)).length := ⟨_, rfl⟩
        have hNl : N = 2 + tx.length + (encs rem).length := by rw [hN]; simp [encs, Fld.enc]; omega
        obtain ⟨htx0, htx⟩ : 1 ≤ tx.length ∧ tx.length ≤ 100 := hok (.f4 tx) (by rw [← HD.out]; simp)
        have hNle : N ≤ 1000 := by rw [hN]; exact Nat.le_trans (encs_len HD.out) hlen
        rw [← hN] at hcap had
        obtain rfl := had (by omega)
        have HN : Hid (N = (encs (.f4 tx :: rem)).length) := Lib.hid hN
        obtain ⟨L, hL⟩ : ∃ L, L = tx.length := ⟨_, rfl⟩
        have HL : Hid (L = tx.length) := Lib.hid hL
        have HB : Hid (encs (.f4 tx :: rem) = 34 :: (L :: (tx ++ encs rem))) := Lib.hid (by simp [encs, Fld.enc, hL])
        obtain ⟨R1, hR1⟩ : ∃ R1, R1 = (L :: (tx ++ encs rem)).length := ⟨_, rfl⟩
        have HR1 : Hid (R1 = (L :: (tx ++ encs rem)).length) := Lib.hid hR1
        have hR1N : N = 1 + R1 := by rw [hR1, hNl]; simp; omega
        obtain ⟨R2, hR2⟩ : ∃ R2, R2 = (tx ++ encs rem).length := ⟨_, rfl⟩
        have HR2 : Hid (R2 = (tx ++ encs rem).length) := Lib.hid hR2
        rw [← hN]
        have hR1pos : 0 < R1 := by rw [hR1]; simp
        have hR1le : R1 ≤ 1000 := by omega
        have hR1cap : R1 ≤ cap - 1 := by omega
        have hNpos : 0 < N := by omega
        have hR12 : R1 = 1 + R2 := by rw [hR1, hR2]; simp; omega
        have hLR2 : L ≤ R2 := by rw [hR2, hL]; simp
        have hL100 : L ≤ 100 := by omega
        have hL1 : 1 ≤ L := by omega
        have hR2e : R2 = L + (encs rem).length := by rw [hR2, hL]; simp
        have HN1 : Hid (N = 1 + R1 ∧ R1 = 1 + R2 ∧ R2 = L + (encs rem).length) := Lib.hid ⟨hR1N, hR12, hR2e⟩
        have hR2cap : R2 ≤ cap - 1 - 1 := by omega
        have hb34 : bits BinOp.and IntKind.u64 34 7 = 2 := by decide +kernel
        have hwR2 : IntKind.u64.wrap (R2 : Int) = (R2 : Int) := by rw [IntKind.wrap_u64]; omega
        have hLR2' : ¬ ((R2 : Int) < (L : Int)) := by omega
        clear hN hNl hR1 hL hR2 hR1N had hR12 htx htx0 hR2e
        have hb1 : BytesAt wr g (o + 1) (L :: (tx ++ encs rem)) := by have := hb.drop 1; rw [HB.out] at this; exact this
        have hdl : done.length ≤ 3 := by have := congrArg List.length HD.out; simp at this; omega
        go_wp2_with (first
          | (go_at_call 296; ((with_reducible refine (uv_tag (n := 34) (z := 34) (Lib.hid rfl) HN HB (by omega) HR1 hb hNle hcap).mono ?_); rintro e w1 ⟨v1, rfl, ⟨ad1, rfl, had1⟩, k1, hw1⟩)
             obtain rfl := had1 hR1pos
             have hb2 : BytesAt w1 g (o + 1) (L :: (tx ++ encs rem)) := by rw [hw1]; exact hb1
             have hown1 : w1.ownsRow w.heap.size 351 4 u4 done.length css := by rw [hw1]; exact hown
             have hB1 : Below w.heap.size w w1 := by rw [hw1]; exact below_drewN hB _
             clear had1 hw1)
          | (go_at_call 296; ((with_reducible refine (uv_tag (n := L) (z := (L : Int)) (Lib.hid rfl) HR1 (Lib.hid rfl) (by omega) HR2 hb2 hR1le hR1cap).mono ?_); rintro e w2 ⟨v2, rfl, ⟨ad2, rfl, had2⟩, k2, hw2⟩)
             have HAD2 := Lib.hid had2
             have hb3 : BytesAt w2 g (o + 1) (L :: (tx ++ encs rem)) := by rw [hw2]; exact hb2
             have hown2 : w2.ownsRow w.heap.size 351 4 u4 done.length css := by rw [hw2]; exact hown1
             have hB2 : Below w.heap.size w w2 := by rw [hw2]; exact below_drewN hB1 _
             have hsz2 := hB2.size
             clear had2 hw2))
        go_region
        obtain ⟨ad3, hA⟩ : ∃ ad3 : Addr, (if cap - 1 - 1 = L then some ad2 else some (ad2.add L)) = some ad3 := by split <;> exact ⟨_, rfl⟩
        rw [hA]
        have HA := Lib.hid hA
        clear hA
        go_wp2_with (first
          | (at_builtin; refine wpList_append_own _ rfl (.tmp 82) (.tmp 84) 347 rfl w.heap.size 351 i0 (.agg #[.int .i64 0, .bool false, .int .u64 0, .slice none 0 0]) 4 48 Tryz.underlying347 hi hz0 hz1 hz2 rfl (by decide) _ _ _ rfl ((World.ownsRow.drew (hown2.alloc _)).alloc _) ⟨w2.heap.size + 1, 0, none⟩ 1 1 [.int .i64 4, .bool true, .int .u64 L, .slice (some ad2) L (cap - 1 - 1)] rfl rfl (cell_new_at (by simp) rfl) (by intro x hx; simp at hx; rcases hx with rfl | rfl | rfl | rfl <;> rfl) (by unfold maxLen; omega) (by omega) (by simp; omega) ?_; intro v' w3 hown' hgrow3 hnil3))
        have hB23 : Below w.heap.size w2 w3 := ((((Below.refl _ w2).alloc hsz2 _).drew).alloc (by simp; omega) _).grown hgrow3 (by simp; omega) (fun k hk => (hown2.lt k hk).1)
        have hB3 : Below w.heap.size w w3 := hB2.trans hB23
        have hRn : FRel w fs g (.slice (some ad3) (R2 - L) (cap - 1 - 1 - L)) v' w3 := by
          obtain ⟨h1, h2, h3⟩ := HN1.out
          have htext : BytesAt w g (o + 1 + 1) tx := by
            have h5 : BytesAt w2 g (o + 1 + 1) (tx ++ encs rem) := hb3.drop 1
            intro j u hj
            rw [← hB2.cell (p := ⟨g, o + 1 + 1 + j, none⟩) hg]
            refine h5 j u ?_
            have hlt := (List.getElem?_eq_some_iff.1 hj).1
            simp only [u8s, List.map_append] at hj ⊢
            rw [List.getElem?_append_left (by simpa [u8s] using hlt)]
            exact hj
          refine ⟨done ++ [.f4 tx], rem, o + 1 + 1 + L, cap - 1 - 1 - L, _, Lib.hid (by rw [← HD.out]; simp), ⟨ad3, ?_, fun h => ?_⟩, ?_, ?_, by simpa using hown', Lib.hid (HC.out.snoc (f := .f4 tx) (c := [.int .i64 4, .bool true, .int .u64 L, .slice (some ad2) L (cap - 1 - 1)]) ⟨o + 1 + 1, cap - 1 - 1, by rw [HL.out, HAD2.out (by omega)], htext⟩), hB3⟩
          · have e : R2 - L = (encs rem).length := by omega
            rw [e]
          · have hA := HA.out
            rw [if_neg (by omega), HAD2.out (by omega), add_none] at hA
            simpa using hA.symm
          · omega
          · have h4 := (hb3.below hB23 hg).drop (1 + L)
            have e1 : (L :: (tx ++ encs rem)).drop (1 + L) = encs rem := by
              rw [Nat.add_comm, List.drop_succ_cons, HL.out, List.drop_left]
            have e2 : o + 1 + (1 + L) = o + 1 + 1 + L := by omega
            rw [e1, e2] at h4
            exact h4
        clear hgrow3 hnil3 hown'
        go_roundw
        case rel => exact hRn
        case measure => have := HN1.out; simp [lenS]; omega
end Go.Proofs
