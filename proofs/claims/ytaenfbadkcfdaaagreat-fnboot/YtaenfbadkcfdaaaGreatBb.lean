/-
  Reading a number's bytes.
-/
import Derived.Test.YtaenfbadkcfdaaaGreatBa
import Derived.Deep.QuietTactic
import Derived.BigQuiet
import Derived.Laws.Bits64b
import Derived.IntWalk
namespace Go.Proofs
open Go.RowKit
set_option linter.unusedVariables false
theorem and127 : ∀ x : Fin 256, bits BinOp.and IntKind.u8 ((x.val : Nat) : Int) 127 = ((x.val % 128 : Nat) : Int) := by decide +kernel
theorem uv_step {n i c : Nat} (hi : i ≤ 5) (hc : c < 256) (hx : c % 128 = n / 128 ^ i % 128) :
    bits BinOp.or IntKind.u64 ((n : Int) % 128 ^ i) (IntKind.u64.wrap (IntKind.u64.wrap (bits BinOp.and IntKind.u8 (c : Int) 127) * 2 ^ (7 * i))) = ((n % 128 ^ (i + 1) : Nat) : Int) := by
  have h1 : bits BinOp.and IntKind.u8 (c : Int) 127 = ((c % 128 : Nat) : Int) := and127 ⟨c, hc⟩
  have hp : (128 : Nat) ^ i = 2 ^ (7 * i) := by rw [Nat.pow_mul]
  have hle : 2 ^ (7 * i) ≤ 2 ^ 35 := Nat.pow_le_pow_right (by decide) (by omega)
  have hx2 : n / 128 ^ i % 128 < 128 := Nat.mod_lt _ (by decide)
  obtain ⟨x, hxx⟩ : ∃ x, x = n / 128 ^ i % 128 := ⟨_, rfl⟩
  rw [← hxx] at hx hx2
  obtain ⟨p, hpp⟩ : ∃ p, p = 2 ^ (7 * i) := ⟨_, rfl⟩
  have hple : p ≤ 34359738368 := by rw [hpp]; exact hle
  have hmul : x * p ≤ 127 * 34359738368 := Nat.mul_le_mul (by omega) hple
  have h2 : IntKind.u64.wrap ((x : Nat) : Int) = (x : Int) := by rw [IntKind.wrap_u64]; omega
  have h3 : IntKind.u64.wrap ((x : Int) * 2 ^ (7 * i)) = ((x * p : Nat) : Int) := by
    have e : ((x : Int) * 2 ^ (7 * i)) = ((x * p : Nat) : Int) := by rw [hpp]; push_cast; rfl
    rw [e, IntKind.wrap_u64]; omega
  have ha : ((n : Int) % 128 ^ i) = ((n % 128 ^ i : Nat) : Int) := by push_cast; rfl
  have hlt : n % 128 ^ i < p := by rw [hpp, ← hp]; exact Nat.mod_lt _ (Nat.pow_pos (by decide))
  rw [h1, hx, h2, h3, ha, bits_or_u64_nat _ _ (by omega) (by omega)]
  congr 1
  have e1 : x * p = x <<< (7 * i) := by rw [Nat.shiftLeft_eq, hpp]
  rw [Nat.or_comm, e1, ← Nat.shiftLeft_add_eq_or_of_lt (by rw [← hpp]; exact hlt), Nat.pow_succ, Nat.mod_mul, Nat.shiftLeft_eq, ← hxx, hp]
  rw [Nat.mul_comm x]; omega
/-- bytes that lie in memory -/
def BytesAt (w : World) (g o : Nat) (l : List Nat) : Prop := ∀ j u, (u8s l)[j]? = some u → w.cell? ⟨g, o + j, none⟩ = some u
theorem BytesAt.get {w : World} {g o : Nat} {l : List Nat} (h : BytesAt w g o l) {j c : Nat} (hj : l[j]? = some c) : w.cell? ⟨g, o + j, none⟩ = some (.int .u8 c) :=
  h j _ (by simp [u8s, hj])
theorem BytesAt.below {B : Nat} {w w' : World} {g o : Nat} {l : List Nat} (h : BytesAt w g o l) (hB : Below B w w') (hg : g < B) : BytesAt w' g o l := fun j u hj => by
  rw [hB.cell (p := ⟨g, o + j, none⟩) hg]; exact h j u hj
theorem BytesAt.drop {w : World} {g o : Nat} {l : List Nat} (h : BytesAt w g o l) (k : Nat) : BytesAt w g (o + k) (l.drop k) := fun j u hj => by
  have := h (k + j) u (by simpa [u8s, List.map_drop] using hj)
  rwa [Nat.add_assoc]
/-- what is left of a slice -/
def Rest (g o len cap : Nat) (v : Value) : Prop := ∃ ad, v = .slice (some ad) len cap ∧ (0 < len → ad = ⟨g, o, none⟩)
def UvEnd (w : World) (n g o len cap : Nat) (e : Ending) (w' : World) : Prop := ∃ v, e = .returned (.tuple #[.int .u64 n, v, .bool true]) ∧ Rest g o len cap v ∧ ∃ k, w' = w.drewN k
def URel (n : Nat) (rest : List Nat) (bs : List Nat) (acc sh ix : Value) : Prop :=
  ∃ i m : Nat, ix = .int .i64 i ∧ sh = .int .i64 (7 * i : Nat) ∧ acc = .int .u64 (n % 128 ^ i : Nat) ∧ Hid (m = n / 128 ^ i) ∧ i + (vb m).length ≤ 6 ∧ Hid (bs.drop i = vb m ++ rest)
theorem vb_pos (m : Nat) : 1 ≤ (vb m).length := by
  by_cases h : m < 128
  · rw [vb_small h]; simp
  · rw [vb_big h]; simp
theorem drop_get {l : List Nat} {i c : Nat} {r : List Nat} (h : l.drop i = c :: r) : l[i]? = some c ∧ l.drop (i + 1) = r ∧ l.length = i + 1 + r.length := by
  have h1 : i < l.length := by
    rcases Nat.lt_or_ge i l.length with h1 | h1
    · exact h1
    · rw [List.drop_eq_nil_of_le h1] at h; cases h
  have h2 := List.drop_eq_getElem_cons h1
  rw [h2] at h
  simp only [List.cons.injEq] at h
  refine ⟨by rw [List.getElem?_eq_getElem h1, h.1], h.2, ?_⟩
  have := congrArg List.length h.2
  simp at this
  omega
set_option maxRecDepth 100000 in
set_option maxHeartbeats 2000000 in
theorem uvarint_any (g o n cap : Nat) (bs rest : List Nat) (hn : n < 4398046511104) (w : World) (hb : BytesAt w g o bs) (hbs : bs = vb n ++ rest) (hlen : bs.length ≤ 1000) (hcap : bs.length ≤ cap) :
    Calls Tryz.prog 296 #[.slice (some ⟨g, o, none⟩) bs.length cap] w (UvEnd w n g (o + (vb n).length) rest.length (cap - (vb n).length)) := by
  have hvl6 : (vb n).length ≤ 6 := vb_len 5 n (by exact Nat.lt_of_lt_of_le hn (by decide))
  have hR : URel n rest bs (.int .u64 0) (.int .i64 0) (.int .i64 0) := ⟨0, n, rfl, rfl, by simp [Nat.mod_one], Lib.hid (by simp), by omega, Lib.hid (by simpa using hbs)⟩
  obtain ⟨N, hN⟩ : ∃ N, N = bs.length := ⟨_, rfl⟩
  rw [← hN] at hlen hcap ⊢
  have HN : Hid (N = bs.length) := Lib.hid hN
  have HBS : Hid (bs = vb n ++ rest) := Lib.hid hbs
  clear hN hbs
  go_enter Tryz.func296, Tryz.ntmps296
  go_wp2
  go_loop [5, 6, 11] (fun acc sh ix => URel n rest bs acc sh ix) (fun acc sh ix => N - (intOf ix).toNat)
  case atStart => exact hR
  case round =>
    clear hR
    obtain ⟨i, m, rfl, rfl, rfl, HM, hvl, HD⟩ := hrel
    have hi6 : i ≤ 5 := by have := vb_pos m; omega
    by_cases hlt : m < 128
    · obtain ⟨hg0, hd1, hl1⟩ := drop_get (c := m) (r := rest) (by rw [HD.out, vb_small hlt]; rfl)
      have hc2 := hb.get hg0
      have hi : i < N := by have := HN.out; omega
      have hmod : m % 128 = n / 128 ^ i % 128 := by rw [HM.out]
      have hst := uv_step (n := n) (c := m) hi6 (by omega) hmod
      have hfull : n % 128 ^ (i + 1) = n := by
        apply Nat.mod_eq_of_lt
        rw [Nat.pow_succ]
        have := HM.out
        rw [this] at hlt
        exact (Nat.div_lt_iff_lt_mul (Nat.pow_pos (by decide))).1 hlt |> fun h => by rw [Nat.mul_comm]; exact h
      rw [hfull] at hst
      have hkl : (vb n).length = i + 1 := by
        have h1 := congrArg List.length HBS.out
        simp at h1
        omega
      have hNr : N = i + 1 + rest.length := by rw [HN.out]; exact hl1
      have HKL : Hid ((vb n).length = i + 1) := Lib.hid hkl
      have HNR : Hid (N = i + 1 + rest.length) := Lib.hid hNr
      have hw1 : IntKind.i64.wrap ((i : Int) + 1) = (i : Int) + 1 := IntWalk.i64_in _ (by omega)
      have hw2 : (0 : Int) ≤ (i : Int) + 1 := by omega
      have hw3 : ((i : Int) + 1).toNat = i + 1 := by omega
      have hw4 : (i : Int) + 1 ≤ (N : Int) := by omega
      clear hg0 hd1 hl1 hmod hfull hkl hNr
      go_wp2
      clear hw1
      go_quiet (fail)
      obtain ⟨ad, hA⟩ : ∃ ad : Addr, (if cap = i + 1 then some (⟨g, o, none⟩ : Addr) else some ⟨g, o + (i + 1), none⟩) = some ad := by split <;> exact ⟨_, rfl⟩
      rw [hA]
      have HA : Hid ((if cap = i + 1 then some (⟨g, o, none⟩ : Addr) else some ⟨g, o + (i + 1), none⟩) = some ad) := Lib.hid hA
      clear hA
      go_wp2
      have hrest : UvEnd w n g (o + (vb n).length) rest.length (cap - (vb n).length) (.returned (.tuple #[.int .u64 n, .slice (some ad) (N - (i + 1)) (cap - (i + 1)), .bool true])) (w.drewN nq) := by
        have h1 := HKL.out
        have h2 := HNR.out
        have h3 := HA.out
        rw [h1]
        refine ⟨_, rfl, ⟨ad, ?_, fun hr => ?_⟩, nq, rfl⟩
        · have e : N - (i + 1) = rest.length := by omega
          rw [e]
        · rw [if_neg (by omega)] at h3
          simpa using h3.symm
      exact bodyPost_ret (v := .tuple #[.int .u64 n, .slice (some ad) (N - (i + 1)) (cap - (i + 1)), .bool true]) (by simp [results, Tryz.results296, go_sem]) rfl hrest
    · obtain ⟨hg0, hd1, hl1⟩ := drop_get (c := m % 128 + 128) (r := vb (m / 128) ++ rest) (by rw [HD.out, vb_big hlt]; rfl)
      have hc2 := hb.get hg0
      have hi : i < N := by have := HN.out; omega
      have hmod : (m % 128 + 128) % 128 = n / 128 ^ i % 128 := by rw [HM.out]; omega
      have hst := uv_step (n := n) (c := m % 128 + 128) hi6 (by omega) hmod
      have hvb : (vb m).length = (vb (m / 128)).length + 1 := by rw [vb_big hlt]; simp
      have HD1 : Hid (bs.drop (i + 1) = vb (m / 128) ++ rest) := Lib.hid hd1
      have HM1 : Hid (m / 128 = n / 128 ^ (i + 1)) := Lib.hid (by rw [HM.out, Nat.pow_succ, Nat.div_div_eq_div_mul])
      have hR1 : URel n rest bs (.int .u64 (n % 128 ^ (i + 1) : Nat)) (.int .i64 (7 * (i + 1) : Nat)) (.int .i64 (i + 1 : Nat)) := ⟨i + 1, m / 128, rfl, rfl, rfl, HM1, by omega, HD1⟩
      clear hg0 hd1 hl1 hmod hvb HD1 HM1
      obtain ⟨c, hc⟩ : ∃ c, c = m % 128 + 128 := ⟨_, rfl⟩
      rw [← hc] at hc2 hst
      have hc128 : 128 ≤ c := by omega
      have hc256 : c < 256 := by omega
      clear hc
      go_wp2
      go_round
      case rel =>
        have e1 : ((n : Int) % 128 ^ (i + 1)) = ((n % 128 ^ (i + 1) : Nat) : Int) := by push_cast; rfl
        have e2 : (7 * (i : Int) + 7) = ((7 * (i + 1) : Nat) : Int) := by push_cast; omega
        have e3 : ((i : Int) + 1) = ((i + 1 : Nat) : Int) := by push_cast; rfl
        rw [e1, e2, e3]
        exact hR1
      case measure => simp [intOf]; omega
end Go.Proofs
