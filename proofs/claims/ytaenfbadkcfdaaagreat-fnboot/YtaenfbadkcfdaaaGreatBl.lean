/-
  spec.SameSet of two rows that hold the same numbers, different ones.
-/
import Derived.Test.YtaenfbadkcfdaaaGreatBi
import Derived.Lib.Hide
namespace Go.Proofs
open Go.RowKit
set_option linter.unusedVariables false
def XsAt (w : World) (b o : Nat) (xs : List Int) : Prop := b < w.heap.size ∧ ∀ j x, xs[j]? = some x → w.cell? ⟨b, o + j, none⟩ = some (.int .u64 x)
theorem XsAt.below {B : Nat} {w w' : World} {b o : Nat} {xs : List Int} (h : XsAt w b o xs) (hB : Below B w w') (hb : b < B) : XsAt w' b o xs := ⟨Nat.lt_of_lt_of_le h.1 hB.size, fun j x hj => by rw [hB.cell (p := ⟨b, o + j, none⟩) hb]; exact h.2 j x hj⟩
/-- the least of those that are to come, among the first j -/
def Found (S xs : List Int) (k j : Nat) (g : Bool) (v : Int) : Prop :=
  (g = false ∧ ∀ x ∈ xs.take j, x ∉ S.drop k) ∨ (g = true ∧ v ∈ S.drop k ∧ ∀ x ∈ xs.take j, x ∈ S.drop k → v ≤ x)
theorem Found.start (S xs : List Int) (k : Nat) : Found S xs k 0 false 0 := .inl ⟨rfl, by simp⟩
theorem take_snoc {xs : List Int} {j : Nat} {x : Int} (h : xs[j]? = some x) : xs.take (j + 1) = xs.take j ++ [x] := by
  rw [List.take_add_one, h]; rfl
theorem Found.skip {S xs : List Int} {k j : Nat} {g : Bool} {v x : Int} (h : Found S xs k j g v) (hx : xs[j]? = some x) (hn : x ∉ S.drop k ∨ (g = true ∧ v ≤ x)) : Found S xs k (j + 1) g v := by
  rw [Found, take_snoc hx]
  rcases h with ⟨hg, h⟩ | ⟨hg, hv, h⟩
  · rcases hn with hn | ⟨hn, _⟩
    · refine .inl ⟨hg, fun y hy => ?_⟩
      rcases List.mem_append.1 hy with hy | hy
      · exact h y hy
      · simp at hy; subst hy; exact hn
    · rw [hg] at hn; cases hn
  · refine .inr ⟨hg, hv, fun y hy hyS => ?_⟩
    rcases List.mem_append.1 hy with hy | hy
    · exact h y hy hyS
    · simp at hy
      subst hy
      rcases hn with hn | ⟨_, hn⟩
      · exact absurd hyS hn
      · exact hn
theorem Found.take {S xs : List Int} {k j : Nat} {g : Bool} {v x : Int} (h : Found S xs k j g v) (hx : xs[j]? = some x) (hi : x ∈ S.drop k) (hl : g = false ∨ x < v) : Found S xs k (j + 1) true x := by
  rw [Found, take_snoc hx]
  refine .inr ⟨rfl, hi, fun y hy hyS => ?_⟩
  rcases List.mem_append.1 hy with hy | hy
  · rcases h with ⟨hg, h⟩ | ⟨hg, hv, h⟩
    · exact absurd hyS (h y hy)
    · rcases hl with hl | hl
      · rw [hg] at hl; cases hl
      · have := h y hy hyS
        omega
  · simp at hy
    subst hy
    exact Int.le_refl _
/-- who is to come: those above the last -/
theorem drop_iff {S : List Int} (hS : S.Pairwise (· < ·)) {k : Nat} {l x : Int} (hl : S[k]? = some l) (hx : x ∈ S) : x ∈ S.drop (k + 1) ↔ l < x := by
  have hsp : S = S.take k ++ l :: S.drop (k + 1) := by
    have h1 := (List.getElem?_eq_some_iff.1 hl)
    obtain ⟨hk, he⟩ := h1
    rw [← he]
    exact (List.take_append_drop k S).symm.trans (by rw [List.drop_eq_getElem_cons hk])
  rw [hsp] at hS hx
  rw [List.pairwise_append] at hS
  obtain ⟨_, h2, h3⟩ := hS
  rw [List.pairwise_cons] at h2
  constructor
  · exact fun h => h2.1 x h
  · intro h
    rcases List.mem_append.1 hx with hx | hx
    · have := h3 x hx l (by simp); omega
    · rcases List.mem_cons.1 hx with rfl | hx
      · omega
      · exact hx
theorem Found.done {S xs : List Int} (hS : S.Pairwise (· < ·)) (hp : S.Perm xs) {k : Nat} {g : Bool} {v s : Int} (h : Found S xs k xs.length g v) (hs : S[k]? = some s) : g = true ∧ v = s := by
  have hk := (List.getElem?_eq_some_iff.1 hs)
  obtain ⟨hlt, he⟩ := hk
  have hsd : s ∈ S.drop k := by rw [List.drop_eq_getElem_cons hlt, he]; simp
  have hsx : s ∈ xs := hp.subset (List.mem_of_getElem? hs)
  rcases h with ⟨hg, h⟩ | ⟨hg, hv, h⟩
  · exact absurd hsd (h s (by simpa using hsx))
  · refine ⟨hg, ?_⟩
    have h1 := h s (by simpa using hsx) hsd
    have h2 : s ≤ v := by
      rw [List.drop_eq_getElem_cons hlt, he] at hv
      rcases List.mem_cons.1 hv with rfl | hv
      · exact Int.le_refl _
      · have := (drop_iff hS hs (List.mem_of_mem_drop hv)).1 hv
        omega
    omega
def lenOf : Value → Nat | .slice _ n _ => n | _ => 0
def U64v (x : Int) : Value := .int .u64 x
set_option maxRecDepth 100000 in
set_option maxHeartbeats 3200000 in
theorem set_any (b o cap : Nat) (xs S : List Int) (hp : S.Perm xs) (hS : S.Pairwise (· < ·)) (hlen : xs.length ≤ 9) (w : World) (hX : XsAt w b o xs) :
    Calls Tryz.prog 81 #[.slice (some ⟨b, o, none⟩) xs.length cap] w fun e w' => ∃ v, e = .returned v ∧ w'.ownsRow w.heap.size 22 1 v S.length (S.map U64v) ∧ Below w.heap.size w w' := by
  have hblt := hX.1
  obtain ⟨i0, hi, hz0, hz1, hz2⟩ := info_parts info22
  have hSl : S.length = xs.length := hp.length_eq
  obtain ⟨N, hN⟩ : ∃ N, N = xs.length := ⟨_, rfl⟩
  have HN : Hid (N = xs.length) := Lib.hid hN
  rw [← hN] at hlen hSl ⊢
  clear hN
  go_enter Tryz.func81, Tryz.ntmps81
  go_wp2
  go_loopw [3] (fun v wr => ∃ k, k ≤ N ∧ wr.ownsRow w.heap.size 22 1 v k ((S.take k).map U64v) ∧ Below w.heap.size w wr) (fun v wr => N - lenOf v)
  case atStart => exact ⟨0, by omega, ⟨rfl, .inl ⟨rfl, rfl⟩⟩, Below.refl _ _⟩
  case round =>
    obtain ⟨k, hk, hrow, hB⟩ := hrel
    obtain ⟨ad, cp, hv⟩ : ∃ ad cp, u3 = .slice ad k cp := by
      rcases hrow.2 with ⟨h, h0⟩ | ⟨g, cp, cur, h, _⟩
      · exact ⟨none, 0, by rw [h, h0]⟩
      · exact ⟨_, cp, h⟩
    subst hv
    by_cases hkn : k < N
    · obtain ⟨s, hs⟩ : ∃ s, S[k]? = some s := ⟨S[k], List.getElem?_eq_getElem (by omega)⟩
      have hblt2 : b < wr.heap.size := Nat.lt_of_lt_of_le hblt hB.size
      have hX2 := hX.below hB hblt
      go_wp2
      go_loopw [4, 5, 15] (fun g m i wq => ∃ (j : Nat) (gb : Bool) (mv : Int), g = .bool gb ∧ m = .int .u64 mv ∧ i = .int .i64 j ∧ j ≤ N ∧ Found S xs k j gb mv ∧ wq = wr) (fun g m i wq => N - (intOf i).toNat)
      case atStart => exact ⟨0, false, 0, rfl, rfl, rfl, by omega, Found.start S xs k, rfl⟩
      case round =>
        obtain ⟨j, gb, mv, rfl, rfl, rfl, hj, hF, hwq⟩ := hrel
        subst hwq
        by_cases hjn : j < N
        · obtain ⟨x, hx⟩ : ∃ x, xs[j]? = some x := ⟨xs[j]'(by have := HN.out; omega), List.getElem?_eq_getElem _⟩
          have hcx := hX2.2 j x hx
          have hxS : x ∈ S := hp.symm.subset (List.mem_of_getElem? hx)
          have hnot : ∀ (x : Bool) (w : World), (Op.unary .not (.bool x)).run Tryz.prog w = .ok (.bool (!x)) w := fun _ _ => rfl
          rcases Nat.eq_zero_or_pos k with hk0 | hk0
          · subst hk0
            have hxd : x ∈ S.drop 0 := by simpa using hxS
            cases gb with
            | false =>
              have hF2 := hF.take hx hxd (.inl rfl)
              go_wp2
              go_roundw
              case rel => exact ⟨j + 1, _, _, rfl, rfl, by go_num, by omega, hF2, by first | rfl | trivial⟩
              case measure => simp [intOf]; omega
            | true =>
              by_cases hlt : x < mv
              · have hF2 := hF.take hx hxd (.inr hlt)
                go_wp2
                go_roundw
                case rel => exact ⟨j + 1, _, _, rfl, rfl, by go_num, by omega, hF2, by first | rfl | trivial⟩
                case measure => simp [intOf]; omega
              · have hF2 := hF.skip hx (.inr ⟨rfl, by omega⟩)
                go_wp2
                go_roundw
                case rel => exact ⟨j + 1, _, _, rfl, rfl, by go_num, by omega, hF2, by first | rfl | trivial⟩
                case measure => simp [intOf]; omega
          · obtain ⟨k', hkk⟩ : ∃ k', k' + 1 = k := ⟨k - 1, by omega⟩
            have hk1 : ¬ k = 0 := by omega
            have hwk : IntKind.i64.wrap ((k : Int) - 1) = (k' : Int) := by rw [show (k : Int) - 1 = (k' : Int) by omega]; exact IntWalk.i64_in _ (by omega)
            have hk'0 : (0 : Int) ≤ (k' : Int) := by omega
            have hk'k : (k' : Int) < (k : Int) := by omega
            have hpk : (k : Int) - 1 = (k' : Int) := by omega
            obtain ⟨l, hl⟩ : ∃ l, S[k']? = some l := ⟨S[k'], List.getElem?_eq_getElem (by omega)⟩
            have hdi := drop_iff hS hl hxS
            rw [hkk] at hdi
            have hrow2 := hrow
            rcases hrow2.2 with ⟨hv0, h0⟩ | ⟨g, cp', cur, hv0, hbase, hgb, h1, h2, h3, h4⟩
            · omega
            · cases hv0
              have hlc := cell_of hgb k'
              have h6 : cur[k']? = some (.int .u64 l) := by
                have h5 : (cur.toList.take (k * 1))[k']? = ((S.take k).map U64v)[k']? := by rw [h4]
                rw [List.getElem?_take_of_lt (by omega), List.getElem?_map, List.getElem?_take_of_lt (by omega), hl] at h5
                simpa [U64v] using h5
              rw [h6] at hlc
              clear hgb h3 h4 hrow2 hkk
              by_cases hlx : l < x
              · have hxd := hdi.2 hlx
                cases gb with
                | false =>
                  have hF2 := hF.take hx hxd (.inl rfl)
                  clear hdi
                  go_wp2
                  go_roundw
                  case rel => exact ⟨j + 1, _, _, rfl, rfl, by go_num, by omega, hF2, by first | rfl | trivial⟩
                  case measure => simp [intOf]; omega
                | true =>
                  by_cases hlt : x < mv
                  · have hF2 := hF.take hx hxd (.inr hlt)
                    clear hdi
                    go_wp2
                    go_roundw
                    case rel => exact ⟨j + 1, _, _, rfl, rfl, by go_num, by omega, hF2, by first | rfl | trivial⟩
                    case measure => simp [intOf]; omega
                  · have hF2 := hF.skip hx (.inr ⟨rfl, by omega⟩)
                    clear hdi
                    go_wp2
                    go_roundw
                    case rel => exact ⟨j + 1, _, _, rfl, rfl, by go_num, by omega, hF2, by first | rfl | trivial⟩
                    case measure => simp [intOf]; omega
              · have hF2 := hF.skip hx (.inl (fun h => hlx (hdi.1 h)))
                clear hdi
                go_wp2
                go_roundw
                case rel => exact ⟨j + 1, _, _, rfl, rfl, by go_num, by omega, hF2, by first | rfl | trivial⟩
                case measure => simp [intOf]; omega
        · have hje : j = xs.length := by have := HN.out; omega
          rw [hje] at hF
          obtain ⟨rfl, rfl⟩ := hF.done hS hp hs
          have hkl : (List.map U64v (List.take k S)).length = k := by simp; omega
          have hsa : (wr.alloc (.cells #[.int .u64 mv] 22)).heap.size = wr.heap.size + 1 := by show (wr.heap.push _).size = _; simp
          have hB2 := hB.size
          clear hX2 hX hF
          go_wp2_with (first
            | (at_builtin; refine wpList_append_own_at _ rfl _ _ 24 rfl w.heap.size 22 i0 (.int .u64 0) 1 8 Tryz.underlying24 hi hz0 hz1 hz2 rfl (by decide) _ _ _ rfl (hrow.alloc _) ⟨wr.heap.size, 0, none⟩ 1 1 [.int .u64 mv] rfl rfl (cell_one_new _ _ _) (fun x hx => by simp at hx; subst hx; rfl) (by unfold maxLen; omega) (by omega) (by simp; omega) ?_; intro v' w3 hown' hgrow hnil hloc))
          go_roundw
          case rel =>
            refine ⟨k + 1, by omega, ?_, ?_⟩
            · have : List.take (k + 1) S = List.take k S ++ [mv] := by rw [List.take_add_one, hs]; rfl
              rw [this]
              simpa [U64v] using hown'
            · exact (hB.alloc hB.size _).grown hgrow (by rw [hsa]; have := hB.size; omega) (fun k hk => (hrow.lt k hk).1)
          case measure =>
            have hl : lenOf v' = k + 1 := by
              rcases hown'.2 with ⟨_, h0⟩ | ⟨g, c, cur, h, _⟩
              · omega
              · rw [h]; rfl
            show N - lenOf v' < N - k
            omega
    · have : k = N := by omega
      subst this
      go_wp2
      go_ret
      have : S.take k = S := by rw [List.take_of_length_le (by omega)]
      rw [this] at hrow
      exact ⟨_, rfl, by rw [hSl]; exact hrow, hB⟩
end Go.Proofs
