import Derived.Test.YbulkcghmTime2
import Derived.Deep.OwnRows
import Derived.Deep.RegionWith
import Derived.Deep.Cut
import Derived.Deep.DeepCutAuto
namespace Go.Proofs.Ybulkcghm.Tm
open Go.RowKit Go.Deep
set_option linter.unusedVariables false

theorem al {w w' : World} (h : Below w.heap.size w w') (o : Obj) : Below w.heap.size w (w'.alloc o) := h.alloc h.size o

set_option maxHeartbeats 4000000 in
set_option maxRecDepth 100000 in
theorem sub_core (a b c d m D : Int) (w : World) (ha0 : 0 ≤ a) (ha1 : a < 1073741824) (hc0 : 0 ≤ c) (hc1 : c < 1073741824) (hb0 : -10000000000 ≤ b) (hb1 : b ≤ 10000000000) (hd0 : -10000000000 ≤ d) (hd1 : d ≤ 10000000000)
    (hm : IntKind.i64.wrap ((b - d) * 1000000000) = m) (hD : IntKind.i64.wrap (m + (a - c)) = D) (x y : Int) (q p : Bool) (A1 A2 E1 E2 B1 B2 : Obj)
    (HA : Hid (∀ w, Calls Yba.prog 11 #[.agg #[.int .u64 c, .int .i64 d, .pointer none], .int .i64 D] w fun e w' => e = .returned (.agg #[.int .u64 x, .int .i64 y, .pointer none]) ∧ w' = (w.alloc A1).alloc A2))
    (HE : Hid (∀ w, Calls Yba.prog 19 #[.agg #[.int .u64 x, .int .i64 y, .pointer none], .agg #[.int .u64 a, .int .i64 b, .pointer none]] w fun e w' => e = .returned (.bool q) ∧ w' = (w.alloc E1).alloc E2))
    (HB : Hid (∀ w, Calls Yba.prog 75 #[.agg #[.int .u64 a, .int .i64 b, .pointer none], .agg #[.int .u64 c, .int .i64 d, .pointer none]] w fun e w' => e = .returned (.bool p) ∧ w' = (w.alloc B1).alloc B2)) :
    Calls Yba.prog 106 #[.agg #[.int .u64 a, .int .i64 b, .pointer none], .agg #[.int .u64 c, .int .i64 d, .pointer none]] w fun e w' => e = .returned (.int .i64 (if q then D else if p then -9223372036854775808 else 9223372036854775807)) ∧ Below w.heap.size w w' := by
  obtain ⟨z, hz, hz0, hz1⟩ := and_small a c ha0 ha1 hc0 hc1
  have hmz := mask63 z hz0 hz1
  have hma := mask63 a ha0 ha1
  have hmc := mask63 c hc0 hc1
  have hna := mask30 a ha0 ha1
  have hnc := mask30 c hc0 hc1
  cases q
  · cases p
    all_goals
      go_enter Yba.func106, Yba.ntmps106
      go_upto_region 5 with (go_in)
      go_region_with (first | (go_at_call 11; refine (HA.out _).mono ?_; rintro e w5 ⟨rfl, rfl⟩) | (go_at_call 19; refine (HE.out _).mono ?_; rintro e w6 ⟨rfl, rfl⟩))
      all_goals
        go_wp2_with (go_at_call 75; refine (HB.out _).mono ?_; rintro e w5 ⟨rfl, rfl⟩)
        go_ret
        exact ⟨rfl, (al (al (al (al (al (al (al (al (Below.refl _ w) _) _) _) _) _) _) _) _).drew⟩
  · go_enter Yba.func106, Yba.ntmps106
    go_upto_region 5 with (go_in)
    go_region_with (first | (go_at_call 11; refine (HA.out _).mono ?_; rintro e w5 ⟨rfl, rfl⟩) | (go_at_call 19; refine (HE.out _).mono ?_; rintro e w6 ⟨rfl, rfl⟩))
    all_goals
      go_wp2_with fail
      go_ret
      exact ⟨rfl, (al (al (al (al (al (al (Below.refl _ w) _) _) _) _) _) _).drew⟩

/-- Time.Sub: the difference, held within an int64. -/
theorem sub_any (z1 z0 : Int) (w : World) (h10 : -9223372036854775808 ≤ z1) (h11 : z1 ≤ 9223372036854775807) (h00 : -9223372036854775808 ≤ z0) (h01 : z0 ≤ 9223372036854775807) :
    Calls Yba.prog 106 #[tv z1, tv z0] w fun e w' => e = .returned (.int .i64 (if z1 - z0 < -9223372036854775808 then -9223372036854775808 else if z1 - z0 ≤ 9223372036854775807 then z1 - z0 else 9223372036854775807)) ∧ Below w.heap.size w w' := by
  obtain ⟨D, hD⟩ : ∃ D, IntKind.i64.wrap (IntKind.i64.wrap ((z1 / 1000000000 - z0 / 1000000000) * 1000000000) + (z1 % 1000000000 - z0 % 1000000000)) = D := ⟨_, rfl⟩
  have hD' := hD
  rw [IntKind.wrap_i64, IntKind.wrap_i64] at hD'
  have hd0 : -9223372036854775808 ≤ D := by omega
  have hd1 : D ≤ 9223372036854775807 := by omega
  have key : (if z1 - z0 < -9223372036854775808 then -9223372036854775808 else if z1 - z0 ≤ 9223372036854775807 then z1 - z0 else 9223372036854775807) = (if (z0 + D == z1) then D else if decide (z1 < z0) then -9223372036854775808 else 9223372036854775807) := by
    by_cases hc : z0 + D = z1
    · rw [if_pos (show (z0 + D == z1) = true by simp [hc])]
      rw [if_neg (by omega), if_pos (by omega)]; omega
    · rw [if_neg (show ¬ (z0 + D == z1) = true by simp [hc])]
      have hcase : z1 - z0 < -9223372036854775808 ∨ 9223372036854775807 < z1 - z0 := by omega
      rcases hcase with h | h
      · rw [if_pos h, if_pos (by simp; omega)]
      · rw [if_neg (by omega), if_neg (by omega), if_neg (by simp; omega)]
  rw [key]
  have HA := fun w => add_gen z0 D w hd0 hd1 h00 h01
  have HE := fun w => equal_any (z0 + D) z1 w
  have HB := fun w => before_any z1 z0 w
  unfold tv tc at HA HE HB
  unfold tv
  exact sub_core _ _ _ _ _ D w (by omega) (by omega) (by omega) (by omega) (by omega) (by omega) (by omega) (by omega) rfl hD _ _ _ _ _ _ _ _ _ _ HA HE HB

end Go.Proofs.Ybulkcghm.Tm
