/-
  ready: what it tells of a set-up that FnBoot hands it. (Printed by gen_ready4.py.)
-/
import Derived.Test.YtaenfbadkcfdaaaGreatRe
import Derived.Test.YtaenfbadkcfdaaaGreatRb
import Derived.Test.YtaenfbadkcfdaaaGreatRc
namespace Go.Proofs
open Go.RowKit
set_option linter.unusedVariables false
set_option linter.unusedSimpArgs false

theorem ready_none_tt (id el hb ms mc mu inf : Int) (pv nf sd : Bool) (rp : Option Addr) (rc vb vo vc rb ro : Nat) (w : World) (hyes : Fine id el hb ms mc mu inf true true → RandFit w rb ro 0 el → Calls Tryz.prog 7 #[.agg #[.int .u64 id, .int .i64 el, .int .i64 hb, .slice rp 0 rc, .bool pv, .bool true, .bool true, .bool nf, .bool sd, .int .u64 ms, .int .u64 mc, .int .u64 mu, .int .i64 inf, .string .empty, .int .u64 1, .int .u64 1, .slice (some ⟨vb, vo, none⟩) 1 vc, .slice none 0 0, .slice none 0 0, .slice none 0 0, .bool false, .slice none 0 0, .int .u64 1, .int .u64 0, .int .u64 1, .int .u64 0]] w fun e w' => e = .returned (.bool true) ∧ Below w.heap.size w w') :
    Calls Tryz.prog 7 #[.agg #[.int .u64 id, .int .i64 el, .int .i64 hb, .slice rp 0 rc, .bool pv, .bool true, .bool true, .bool nf, .bool sd, .int .u64 ms, .int .u64 mc, .int .u64 mu, .int .i64 inf, .string .empty, .int .u64 1, .int .u64 1, .slice (some ⟨vb, vo, none⟩) 1 vc, .slice none 0 0, .slice none 0 0, .slice none 0 0, .bool false, .slice none 0 0, .int .u64 1, .int .u64 0, .int .u64 1, .int .u64 0]] w (TellsB (Fine id el hb ms mc mu inf true true ∧ RandFit w rb ro 0 el) w) := by
  by_cases c01 : 0 < id ∧ id < 1099511627776
  rotate_left
  · exact ready_c1 id el hb ms mc mu inf pv true true nf sd rp 0 rc vb vo vc rb ro w c01
  obtain ⟨c0, c1⟩ := c01
  by_cases c2 : 1 ≤ hb
  rotate_left
  · exact ready_c2 id el hb ms mc mu inf pv true true nf sd rp 0 rc vb vo vc rb ro w c0 c1 c2
  by_cases c3 : hb < el
  rotate_left
  · exact ready_c3 id el hb ms mc mu inf pv true true nf sd rp 0 rc vb vo vc rb ro w c0 c1 c2 c3
  by_cases c4 : el ≤ 30
  rotate_left
  · exact ready_c4 id el hb ms mc mu inf pv true true nf sd rp 0 rc vb vo vc rb ro w c0 c1 c2 c3 c4
  by_cases hd : 1 ≤ inf ∧ inf ≤ 100 ∧ 1048576 ≤ ms ∧ 1048576 ≤ mc ∧ mu = 0
  rotate_left
  · exact ready_none_tt_d id el hb ms mc mu inf pv nf sd rp rc vb vo vc rb ro w c0 c1 c2 c3 c4 (Lib.hid hd)
  obtain ⟨d1, d2, d3, d4, d5⟩ := hd
  have hF : Fine id el hb ms mc mu inf true true := ⟨c0, c1, c2, c3, c4, (by intro h; first | rfl | cases h), d1, d2, d3, d4, d5⟩
  refine (hyes hF (show RandFit w rb ro 0 el from ⟨by omega, fun j hj => by omega⟩)).mono ?_
  rintro e w' ⟨rfl, hB⟩
  exact ⟨_, rfl, ⟨fun _ => ⟨hF, (show RandFit w rb ro 0 el from ⟨by omega, fun j hj => by omega⟩)⟩, fun _ => rfl⟩, hB⟩

theorem ready_some_tt (id el hb ms mc mu inf : Int) (pv nf sd : Bool) (rn : Nat) (rc vb vo vc rb ro : Nat) (w : World) (hrb : rb < w.heap.size) (hrc : ∀ j, j < rn → ∃ x, w.cell? ⟨rb, ro + j, none⟩ = some (.int .i64 x)) (hyes : Fine id el hb ms mc mu inf true true → RandFit w rb ro rn el → Calls Tryz.prog 7 #[.agg #[.int .u64 id, .int .i64 el, .int .i64 hb, .slice (some ⟨rb, ro, none⟩) rn rc, .bool pv, .bool true, .bool true, .bool nf, .bool sd, .int .u64 ms, .int .u64 mc, .int .u64 mu, .int .i64 inf, .string .empty, .int .u64 1, .int .u64 1, .slice (some ⟨vb, vo, none⟩) 1 vc, .slice none 0 0, .slice none 0 0, .slice none 0 0, .bool false, .slice none 0 0, .int .u64 1, .int .u64 0, .int .u64 1, .int .u64 0]] w fun e w' => e = .returned (.bool true) ∧ Below w.heap.size w w') :
    Calls Tryz.prog 7 #[.agg #[.int .u64 id, .int .i64 el, .int .i64 hb, .slice (some ⟨rb, ro, none⟩) rn rc, .bool pv, .bool true, .bool true, .bool nf, .bool sd, .int .u64 ms, .int .u64 mc, .int .u64 mu, .int .i64 inf, .string .empty, .int .u64 1, .int .u64 1, .slice (some ⟨vb, vo, none⟩) 1 vc, .slice none 0 0, .slice none 0 0, .slice none 0 0, .bool false, .slice none 0 0, .int .u64 1, .int .u64 0, .int .u64 1, .int .u64 0]] w (TellsB (Fine id el hb ms mc mu inf true true ∧ RandFit w rb ro rn el) w) := by
  by_cases c01 : 0 < id ∧ id < 1099511627776
  rotate_left
  · exact ready_c1 id el hb ms mc mu inf pv true true nf sd (some ⟨rb, ro, none⟩) rn rc vb vo vc rb ro w c01
  obtain ⟨c0, c1⟩ := c01
  by_cases c2 : 1 ≤ hb
  rotate_left
  · exact ready_c2 id el hb ms mc mu inf pv true true nf sd (some ⟨rb, ro, none⟩) rn rc vb vo vc rb ro w c0 c1 c2
  by_cases c3 : hb < el
  rotate_left
  · exact ready_c3 id el hb ms mc mu inf pv true true nf sd (some ⟨rb, ro, none⟩) rn rc vb vo vc rb ro w c0 c1 c2 c3
  by_cases c4 : el ≤ 30
  rotate_left
  · exact ready_c4 id el hb ms mc mu inf pv true true nf sd (some ⟨rb, ro, none⟩) rn rc vb vo vc rb ro w c0 c1 c2 c3 c4
  by_cases c5 : rn ≤ 10
  rotate_left
  · exact ready_c5 id el hb ms mc mu inf pv true true nf sd (some ⟨rb, ro, none⟩) rn rc vb vo vc rb ro w c0 c1 c2 c3 c4 c5
  by_cases hnr : RandFit w rb ro rn el
  rotate_left
  · exact ready_some_tt_rf id el hb ms mc mu inf pv nf sd rn rc vb vo vc rb ro w c0 c1 c2 c3 c4 c5 hrb hrc (Lib.hid hnr)
  by_cases hd : 1 ≤ inf ∧ inf ≤ 100 ∧ 1048576 ≤ ms ∧ 1048576 ≤ mc ∧ mu = 0
  rotate_left
  · exact ready_some_tt_d id el hb ms mc mu inf pv nf sd rn rc vb vo vc rb ro w c0 c1 c2 c3 c4 c5 hrb hrc (Lib.hid hnr) (Lib.hid hd)
  obtain ⟨d1, d2, d3, d4, d5⟩ := hd
  have hF : Fine id el hb ms mc mu inf true true := ⟨c0, c1, c2, c3, c4, (by intro h; first | rfl | cases h), d1, d2, d3, d4, d5⟩
  refine (hyes hF hnr).mono ?_
  rintro e w' ⟨rfl, hB⟩
  exact ⟨_, rfl, ⟨fun _ => ⟨hF, hnr⟩, fun _ => rfl⟩, hB⟩

theorem ready_none_ft (id el hb ms mc mu inf : Int) (pv nf sd : Bool) (rp : Option Addr) (rc vb vo vc rb ro : Nat) (w : World) (hyes : Fine id el hb ms mc mu inf true false → RandFit w rb ro 0 el → Calls Tryz.prog 7 #[.agg #[.int .u64 id, .int .i64 el, .int .i64 hb, .slice rp 0 rc, .bool pv, .bool true, .bool false, .bool nf, .bool sd, .int .u64 ms, .int .u64 mc, .int .u64 mu, .int .i64 inf, .string .empty, .int .u64 1, .int .u64 1, .slice (some ⟨vb, vo, none⟩) 1 vc, .slice none 0 0, .slice none 0 0, .slice none 0 0, .bool false, .slice none 0 0, .int .u64 1, .int .u64 0, .int .u64 1, .int .u64 0]] w fun e w' => e = .returned (.bool true) ∧ Below w.heap.size w w') :
    Calls Tryz.prog 7 #[.agg #[.int .u64 id, .int .i64 el, .int .i64 hb, .slice rp 0 rc, .bool pv, .bool true, .bool false, .bool nf, .bool sd, .int .u64 ms, .int .u64 mc, .int .u64 mu, .int .i64 inf, .string .empty, .int .u64 1, .int .u64 1, .slice (some ⟨vb, vo, none⟩) 1 vc, .slice none 0 0, .slice none 0 0, .slice none 0 0, .bool false, .slice none 0 0, .int .u64 1, .int .u64 0, .int .u64 1, .int .u64 0]] w (TellsB (Fine id el hb ms mc mu inf true false ∧ RandFit w rb ro 0 el) w) := by
  by_cases c01 : 0 < id ∧ id < 1099511627776
  rotate_left
  · exact ready_c1 id el hb ms mc mu inf pv true false nf sd rp 0 rc vb vo vc rb ro w c01
  obtain ⟨c0, c1⟩ := c01
  by_cases c2 : 1 ≤ hb
  rotate_left
  · exact ready_c2 id el hb ms mc mu inf pv true false nf sd rp 0 rc vb vo vc rb ro w c0 c1 c2
  by_cases c3 : hb < el
  rotate_left
  · exact ready_c3 id el hb ms mc mu inf pv true false nf sd rp 0 rc vb vo vc rb ro w c0 c1 c2 c3
  by_cases c4 : el ≤ 30
  rotate_left
  · exact ready_c4 id el hb ms mc mu inf pv true false nf sd rp 0 rc vb vo vc rb ro w c0 c1 c2 c3 c4
  by_cases hd : 1 ≤ inf ∧ inf ≤ 100 ∧ 1048576 ≤ ms ∧ 1048576 ≤ mc ∧ mu = 0
  rotate_left
  · exact ready_none_f_d id el hb ms mc mu inf pv nf sd true rp rc vb vo vc rb ro w c0 c1 c2 c3 c4 (Lib.hid hd)
  obtain ⟨d1, d2, d3, d4, d5⟩ := hd
  have hF : Fine id el hb ms mc mu inf true false := ⟨c0, c1, c2, c3, c4, (by intro h; first | rfl | cases h), d1, d2, d3, d4, d5⟩
  refine (hyes hF (show RandFit w rb ro 0 el from ⟨by omega, fun j hj => by omega⟩)).mono ?_
  rintro e w' ⟨rfl, hB⟩
  exact ⟨_, rfl, ⟨fun _ => ⟨hF, (show RandFit w rb ro 0 el from ⟨by omega, fun j hj => by omega⟩)⟩, fun _ => rfl⟩, hB⟩

theorem ready_some_ft (id el hb ms mc mu inf : Int) (pv nf sd : Bool) (rn : Nat) (rc vb vo vc rb ro : Nat) (w : World) (hrb : rb < w.heap.size) (hrc : ∀ j, j < rn → ∃ x, w.cell? ⟨rb, ro + j, none⟩ = some (.int .i64 x)) (hyes : Fine id el hb ms mc mu inf true false → RandFit w rb ro rn el → Calls Tryz.prog 7 #[.agg #[.int .u64 id, .int .i64 el, .int .i64 hb, .slice (some ⟨rb, ro, none⟩) rn rc, .bool pv, .bool true, .bool false, .bool nf, .bool sd, .int .u64 ms, .int .u64 mc, .int .u64 mu, .int .i64 inf, .string .empty, .int .u64 1, .int .u64 1, .slice (some ⟨vb, vo, none⟩) 1 vc, .slice none 0 0, .slice none 0 0, .slice none 0 0, .bool false, .slice none 0 0, .int .u64 1, .int .u64 0, .int .u64 1, .int .u64 0]] w fun e w' => e = .returned (.bool true) ∧ Below w.heap.size w w') :
    Calls Tryz.prog 7 #[.agg #[.int .u64 id, .int .i64 el, .int .i64 hb, .slice (some ⟨rb, ro, none⟩) rn rc, .bool pv, .bool true, .bool false, .bool nf, .bool sd, .int .u64 ms, .int .u64 mc, .int .u64 mu, .int .i64 inf, .string .empty, .int .u64 1, .int .u64 1, .slice (some ⟨vb, vo, none⟩) 1 vc, .slice none 0 0, .slice none 0 0, .slice none 0 0, .bool false, .slice none 0 0, .int .u64 1, .int .u64 0, .int .u64 1, .int .u64 0]] w (TellsB (Fine id el hb ms mc mu inf true false ∧ RandFit w rb ro rn el) w) := by
  by_cases c01 : 0 < id ∧ id < 1099511627776
  rotate_left
  · exact ready_c1 id el hb ms mc mu inf pv true false nf sd (some ⟨rb, ro, none⟩) rn rc vb vo vc rb ro w c01
  obtain ⟨c0, c1⟩ := c01
  by_cases c2 : 1 ≤ hb
  rotate_left
  · exact ready_c2 id el hb ms mc mu inf pv true false nf sd (some ⟨rb, ro, none⟩) rn rc vb vo vc rb ro w c0 c1 c2
  by_cases c3 : hb < el
  rotate_left
  · exact ready_c3 id el hb ms mc mu inf pv true false nf sd (some ⟨rb, ro, none⟩) rn rc vb vo vc rb ro w c0 c1 c2 c3
  by_cases c4 : el ≤ 30
  rotate_left
  · exact ready_c4 id el hb ms mc mu inf pv true false nf sd (some ⟨rb, ro, none⟩) rn rc vb vo vc rb ro w c0 c1 c2 c3 c4
  by_cases c5 : rn ≤ 10
  rotate_left
  · exact ready_c5 id el hb ms mc mu inf pv true false nf sd (some ⟨rb, ro, none⟩) rn rc vb vo vc rb ro w c0 c1 c2 c3 c4 c5
  by_cases hnr : RandFit w rb ro rn el
  rotate_left
  · exact ready_some_f_rf id el hb ms mc mu inf pv nf sd true rn rc vb vo vc rb ro w c0 c1 c2 c3 c4 c5 hrb hrc (Lib.hid hnr)
  by_cases hd : 1 ≤ inf ∧ inf ≤ 100 ∧ 1048576 ≤ ms ∧ 1048576 ≤ mc ∧ mu = 0
  rotate_left
  · exact ready_some_f_d id el hb ms mc mu inf pv nf sd true rn rc vb vo vc rb ro w c0 c1 c2 c3 c4 c5 hrb hrc (Lib.hid hnr) (Lib.hid hd)
  obtain ⟨d1, d2, d3, d4, d5⟩ := hd
  have hF : Fine id el hb ms mc mu inf true false := ⟨c0, c1, c2, c3, c4, (by intro h; first | rfl | cases h), d1, d2, d3, d4, d5⟩
  refine (hyes hF hnr).mono ?_
  rintro e w' ⟨rfl, hB⟩
  exact ⟨_, rfl, ⟨fun _ => ⟨hF, hnr⟩, fun _ => rfl⟩, hB⟩

theorem ready_none_ff (id el hb ms mc mu inf : Int) (pv nf sd : Bool) (rp : Option Addr) (rc vb vo vc rb ro : Nat) (w : World) (hyes : Fine id el hb ms mc mu inf false false → RandFit w rb ro 0 el → Calls Tryz.prog 7 #[.agg #[.int .u64 id, .int .i64 el, .int .i64 hb, .slice rp 0 rc, .bool pv, .bool false, .bool false, .bool nf, .bool sd, .int .u64 ms, .int .u64 mc, .int .u64 mu, .int .i64 inf, .string .empty, .int .u64 1, .int .u64 1, .slice (some ⟨vb, vo, none⟩) 1 vc, .slice none 0 0, .slice none 0 0, .slice none 0 0, .bool false, .slice none 0 0, .int .u64 1, .int .u64 0, .int .u64 1, .int .u64 0]] w fun e w' => e = .returned (.bool true) ∧ Below w.heap.size w w') :
    Calls Tryz.prog 7 #[.agg #[.int .u64 id, .int .i64 el, .int .i64 hb, .slice rp 0 rc, .bool pv, .bool false, .bool false, .bool nf, .bool sd, .int .u64 ms, .int .u64 mc, .int .u64 mu, .int .i64 inf, .string .empty, .int .u64 1, .int .u64 1, .slice (some ⟨vb, vo, none⟩) 1 vc, .slice none 0 0, .slice none 0 0, .slice none 0 0, .bool false, .slice none 0 0, .int .u64 1, .int .u64 0, .int .u64 1, .int .u64 0]] w (TellsB (Fine id el hb ms mc mu inf false false ∧ RandFit w rb ro 0 el) w) := by
  by_cases c01 : 0 < id ∧ id < 1099511627776
  rotate_left
  · exact ready_c1 id el hb ms mc mu inf pv false false nf sd rp 0 rc vb vo vc rb ro w c01
  obtain ⟨c0, c1⟩ := c01
  by_cases c2 : 1 ≤ hb
  rotate_left
  · exact ready_c2 id el hb ms mc mu inf pv false false nf sd rp 0 rc vb vo vc rb ro w c0 c1 c2
  by_cases c3 : hb < el
  rotate_left
  · exact ready_c3 id el hb ms mc mu inf pv false false nf sd rp 0 rc vb vo vc rb ro w c0 c1 c2 c3
  by_cases c4 : el ≤ 30
  rotate_left
  · exact ready_c4 id el hb ms mc mu inf pv false false nf sd rp 0 rc vb vo vc rb ro w c0 c1 c2 c3 c4
  by_cases hd : 1 ≤ inf ∧ inf ≤ 100 ∧ 1048576 ≤ ms ∧ 1048576 ≤ mc ∧ mu = 0
  rotate_left
  · exact ready_none_f_d id el hb ms mc mu inf pv nf sd false rp rc vb vo vc rb ro w c0 c1 c2 c3 c4 (Lib.hid hd)
  obtain ⟨d1, d2, d3, d4, d5⟩ := hd
  have hF : Fine id el hb ms mc mu inf false false := ⟨c0, c1, c2, c3, c4, (by intro h; first | rfl | cases h), d1, d2, d3, d4, d5⟩
  refine (hyes hF (show RandFit w rb ro 0 el from ⟨by omega, fun j hj => by omega⟩)).mono ?_
  rintro e w' ⟨rfl, hB⟩
  exact ⟨_, rfl, ⟨fun _ => ⟨hF, (show RandFit w rb ro 0 el from ⟨by omega, fun j hj => by omega⟩)⟩, fun _ => rfl⟩, hB⟩

theorem ready_some_ff (id el hb ms mc mu inf : Int) (pv nf sd : Bool) (rn : Nat) (rc vb vo vc rb ro : Nat) (w : World) (hrb : rb < w.heap.size) (hrc : ∀ j, j < rn → ∃ x, w.cell? ⟨rb, ro + j, none⟩ = some (.int .i64 x)) (hyes : Fine id el hb ms mc mu inf false false → RandFit w rb ro rn el → Calls Tryz.prog 7 #[.agg #[.int .u64 id, .int .i64 el, .int .i64 hb, .slice (some ⟨rb, ro, none⟩) rn rc, .bool pv, .bool false, .bool false, .bool nf, .bool sd, .int .u64 ms, .int .u64 mc, .int .u64 mu, .int .i64 inf, .string .empty, .int .u64 1, .int .u64 1, .slice (some ⟨vb, vo, none⟩) 1 vc, .slice none 0 0, .slice none 0 0, .slice none 0 0, .bool false, .slice none 0 0, .int .u64 1, .int .u64 0, .int .u64 1, .int .u64 0]] w fun e w' => e = .returned (.bool true) ∧ Below w.heap.size w w') :
    Calls Tryz.prog 7 #[.agg #[.int .u64 id, .int .i64 el, .int .i64 hb, .slice (some ⟨rb, ro, none⟩) rn rc, .bool pv, .bool false, .bool false, .bool nf, .bool sd, .int .u64 ms, .int .u64 mc, .int .u64 mu, .int .i64 inf, .string .empty, .int .u64 1, .int .u64 1, .slice (some ⟨vb, vo, none⟩) 1 vc, .slice none 0 0, .slice none 0 0, .slice none 0 0, .bool false, .slice none 0 0, .int .u64 1, .int .u64 0, .int .u64 1, .int .u64 0]] w (TellsB (Fine id el hb ms mc mu inf false false ∧ RandFit w rb ro rn el) w) := by
  by_cases c01 : 0 < id ∧ id < 1099511627776
  rotate_left
  · exact ready_c1 id el hb ms mc mu inf pv false false nf sd (some ⟨rb, ro, none⟩) rn rc vb vo vc rb ro w c01
  obtain ⟨c0, c1⟩ := c01
  by_cases c2 : 1 ≤ hb
  rotate_left
  · exact ready_c2 id el hb ms mc mu inf pv false false nf sd (some ⟨rb, ro, none⟩) rn rc vb vo vc rb ro w c0 c1 c2
  by_cases c3 : hb < el
  rotate_left
  · exact ready_c3 id el hb ms mc mu inf pv false false nf sd (some ⟨rb, ro, none⟩) rn rc vb vo vc rb ro w c0 c1 c2 c3
  by_cases c4 : el ≤ 30
  rotate_left
  · exact ready_c4 id el hb ms mc mu inf pv false false nf sd (some ⟨rb, ro, none⟩) rn rc vb vo vc rb ro w c0 c1 c2 c3 c4
  by_cases c5 : rn ≤ 10
  rotate_left
  · exact ready_c5 id el hb ms mc mu inf pv false false nf sd (some ⟨rb, ro, none⟩) rn rc vb vo vc rb ro w c0 c1 c2 c3 c4 c5
  by_cases hnr : RandFit w rb ro rn el
  rotate_left
  · exact ready_some_f_rf id el hb ms mc mu inf pv nf sd false rn rc vb vo vc rb ro w c0 c1 c2 c3 c4 c5 hrb hrc (Lib.hid hnr)
  by_cases hd : 1 ≤ inf ∧ inf ≤ 100 ∧ 1048576 ≤ ms ∧ 1048576 ≤ mc ∧ mu = 0
  rotate_left
  · exact ready_some_f_d id el hb ms mc mu inf pv nf sd false rn rc vb vo vc rb ro w c0 c1 c2 c3 c4 c5 hrb hrc (Lib.hid hnr) (Lib.hid hd)
  obtain ⟨d1, d2, d3, d4, d5⟩ := hd
  have hF : Fine id el hb ms mc mu inf false false := ⟨c0, c1, c2, c3, c4, (by intro h; first | rfl | cases h), d1, d2, d3, d4, d5⟩
  refine (hyes hF hnr).mono ?_
  rintro e w' ⟨rfl, hB⟩
  exact ⟨_, rfl, ⟨fun _ => ⟨hF, hnr⟩, fun _ => rfl⟩, hB⟩

theorem ready_none_tf (id el hb ms mc mu inf : Int) (pv nf sd : Bool) (rp : Option Addr) (rc vb vo vc rb ro : Nat) (w : World) :
    Calls Tryz.prog 7 #[.agg #[.int .u64 id, .int .i64 el, .int .i64 hb, .slice rp 0 rc, .bool pv, .bool false, .bool true, .bool nf, .bool sd, .int .u64 ms, .int .u64 mc, .int .u64 mu, .int .i64 inf, .string .empty, .int .u64 1, .int .u64 1, .slice (some ⟨vb, vo, none⟩) 1 vc, .slice none 0 0, .slice none 0 0, .slice none 0 0, .bool false, .slice none 0 0, .int .u64 1, .int .u64 0, .int .u64 1, .int .u64 0]] w (TellsB (Fine id el hb ms mc mu inf false true ∧ RandFit w rb ro 0 el) w) := by
  by_cases c01 : 0 < id ∧ id < 1099511627776
  rotate_left
  · exact ready_c1 id el hb ms mc mu inf pv false true nf sd rp 0 rc vb vo vc rb ro w c01
  obtain ⟨c0, c1⟩ := c01
  by_cases c2 : 1 ≤ hb
  rotate_left
  · exact ready_c2 id el hb ms mc mu inf pv false true nf sd rp 0 rc vb vo vc rb ro w c0 c1 c2
  by_cases c3 : hb < el
  rotate_left
  · exact ready_c3 id el hb ms mc mu inf pv false true nf sd rp 0 rc vb vo vc rb ro w c0 c1 c2 c3
  by_cases c4 : el ≤ 30
  rotate_left
  · exact ready_c4 id el hb ms mc mu inf pv false true nf sd rp 0 rc vb vo vc rb ro w c0 c1 c2 c3 c4
  exact ready_c6 id el hb ms mc mu inf pv false true nf sd rp 0 rc vb vo vc rb ro w c0 c1 c2 c3 c4 (Nat.zero_le _)

theorem ready_some_tf (id el hb ms mc mu inf : Int) (pv nf sd : Bool) (rn : Nat) (rc vb vo vc rb ro : Nat) (w : World) (hrb : rb < w.heap.size) (hrc : ∀ j, j < rn → ∃ x, w.cell? ⟨rb, ro + j, none⟩ = some (.int .i64 x)) :
    Calls Tryz.prog 7 #[.agg #[.int .u64 id, .int .i64 el, .int .i64 hb, .slice (some ⟨rb, ro, none⟩) rn rc, .bool pv, .bool false, .bool true, .bool nf, .bool sd, .int .u64 ms, .int .u64 mc, .int .u64 mu, .int .i64 inf, .string .empty, .int .u64 1, .int .u64 1, .slice (some ⟨vb, vo, none⟩) 1 vc, .slice none 0 0, .slice none 0 0, .slice none 0 0, .bool false, .slice none 0 0, .int .u64 1, .int .u64 0, .int .u64 1, .int .u64 0]] w (TellsB (Fine id el hb ms mc mu inf false true ∧ RandFit w rb ro rn el) w) := by
  by_cases c01 : 0 < id ∧ id < 1099511627776
  rotate_left
  · exact ready_c1 id el hb ms mc mu inf pv false true nf sd (some ⟨rb, ro, none⟩) rn rc vb vo vc rb ro w c01
  obtain ⟨c0, c1⟩ := c01
  by_cases c2 : 1 ≤ hb
  rotate_left
  · exact ready_c2 id el hb ms mc mu inf pv false true nf sd (some ⟨rb, ro, none⟩) rn rc vb vo vc rb ro w c0 c1 c2
  by_cases c3 : hb < el
  rotate_left
  · exact ready_c3 id el hb ms mc mu inf pv false true nf sd (some ⟨rb, ro, none⟩) rn rc vb vo vc rb ro w c0 c1 c2 c3
  by_cases c4 : el ≤ 30
  rotate_left
  · exact ready_c4 id el hb ms mc mu inf pv false true nf sd (some ⟨rb, ro, none⟩) rn rc vb vo vc rb ro w c0 c1 c2 c3 c4
  by_cases c5 : rn ≤ 10
  rotate_left
  · exact ready_c5 id el hb ms mc mu inf pv false true nf sd (some ⟨rb, ro, none⟩) rn rc vb vo vc rb ro w c0 c1 c2 c3 c4 c5
  exact ready_c6 id el hb ms mc mu inf pv false true nf sd (some ⟨rb, ro, none⟩) rn rc vb vo vc rb ro w c0 c1 c2 c3 c4 c5

end Go.Proofs
