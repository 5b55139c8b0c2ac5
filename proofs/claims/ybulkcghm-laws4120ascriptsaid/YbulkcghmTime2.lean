import Derived.Test.YbulkcghmTime
namespace Go.Proofs.Ybulkcghm.Tm
open Go.RowKit
set_option linter.unusedVariables false

theorem andNot30 (x : Int) (h0 : 0 ≤ x) (h1 : x < 1073741824) : bits .andNot .u64 x 1073741823 = 0 := by
  rw [u64_andNot x 1073741823 h0 (by omega) (by omega) (by omega)]
  have e : x.toNat &&& (18446744073709551615 - (1073741823 : Int).toNat) = 0 := by
    show x.toNat &&& 18446744072635809792 = 0
    rw [show (18446744072635809792 : Nat) = 17179869183 <<< 30 by decide]
    apply Nat.eq_of_testBit_eq
    intro j
    rw [Nat.testBit_and, Nat.testBit_shiftLeft, Nat.zero_testBit]
    by_cases hj : 30 ≤ j
    · rw [Nat.testBit_lt_two_pow (Nat.lt_of_lt_of_le (show x.toNat < 2 ^ 30 by omega) (Nat.pow_le_pow_right (by decide) hj))]
      rfl
    · simp [hj]
  rw [e]; rfl

set_option maxHeartbeats 1000000 in
set_option maxRecDepth 100000 in
theorem addSec_gen (b : Nat) (x s d : Int) (w : World) (hx0 : 0 ≤ x) (hx : x < 1073741824) (hs0 : -40000000000 ≤ s) (hs1 : s ≤ 40000000000) (hd0 : -10000000000 ≤ d) (hd1 : d ≤ 10000000000)
    (h0 : w.cell? ⟨b, 0, none⟩ = some (.int .u64 x)) (h1 : w.cell? ⟨b, 1, none⟩ = some (.int .i64 s)) (h1f : w.frozen? ⟨b, 1, none⟩ = false) :
    Calls Yba.prog 29 #[.pointer (some ⟨b, 0, none⟩), .int .i64 d] w fun e w' => e = .returned (.tuple #[]) ∧ w' = w.setCell ⟨b, 1, none⟩ (.int .i64 (s + d)) := by
  have hm := mask63 x hx0 hx
  by_cases hp : 0 < d
  · have t1 : decide (s < s + d) = true := by simp; omega
    have t2 : decide (0 < d) = true := by simp; omega
    go_enter Yba.func29, Yba.ntmps29
    go_wp2
    go_end0
    exact ⟨rfl, rfl⟩
  · have t1 : decide (s < s + d) = false := by simp; omega
    have t2 : decide (0 < d) = false := by simp; omega
    go_enter Yba.func29, Yba.ntmps29
    go_wp2
    go_end0
    exact ⟨rfl, rfl⟩

set_option maxHeartbeats 1000000 in
set_option maxRecDepth 100000 in
theorem add_core (a s d q r q' r' : Int) (w : World) (h0 : -9223372036854775808 ≤ d) (h1 : d ≤ 9223372036854775807) (ha0 : 0 ≤ a) (ha1 : a < 1000000000) (hs0 : -20000000000 ≤ s) (hs1 : s ≤ 20000000000)
    (hq : d.tdiv 1000000000 = q) (hr : d.tmod 1000000000 = r) (hr1 : -1000000000 < r) (hr2 : r < 1000000000) (hq1 : -9223372038 ≤ q) (hq2 : q ≤ 9223372038)
    (hc : (1000000000 ≤ a + r ∧ r' = a + r - 1000000000 ∧ q' = q + 1) ∨ (a + r < 0 ∧ r' = a + r + 1000000000 ∧ q' = q - 1) ∨ (0 ≤ a + r ∧ a + r < 1000000000 ∧ r' = a + r ∧ q' = q)) :
    Calls Yba.prog 11 #[.agg #[.int .u64 a, .int .i64 s, .pointer none], .int .i64 d] w fun e w' => e = .returned (.agg #[.int .u64 r', .int .i64 (s + q'), .pointer none]) ∧
      w' = (w.alloc (.cells #[.int .u64 r', .int .i64 (s + q'), .pointer none] 31)).alloc (.cells #[.int .u64 r', .int .i64 (s + q'), .pointer none] 31) := by
  have hn := andNot30 a ha0 (by omega)
  have hm30 := mask30 a ha0 (by omega)
  have hr'0 : 0 ≤ r' := by omega
  have hr'1 : r' < 1000000000 := by omega
  have ho := or_zero r' (by omega) (by omega)
  have hm := mask63 r' (by omega) (by omega)
  rcases hc with ⟨c, rfl, rfl⟩ | ⟨c, rfl, rfl⟩ | ⟨c, c2, rfl, rfl⟩
  · have t1 : decide (a + r < 1000000000) = false := by simp; omega
    have t2 : decide (1000000000 ≤ a + r) = true := by simp; omega
    have t3 : decide (a + r - 1000000000 < 0) = false := by simp; omega
    go_enter Yba.func11, Yba.ntmps11
    go_wp2_with (first | (go_at_call 29; go_must (refine (addSec_gen _ (a + r - 1000000000) s (q + 1) _ (by omega) (by omega) (by omega) (by omega) (by omega) (by omega) (by simp) (by simp) (by simp)).mono ?_); rintro e w' ⟨rfl, rfl⟩) | (go_at_call 28; refine (nsec_any _ a _ (by omega) (by omega) (by simp)).mono ?_; rintro e w' ⟨rfl, rfl⟩))
    exact bodyPost_ret (v := .agg #[.int .u64 (a + r - 1000000000), .int .i64 (s + (q + 1)), .pointer none]) (by simp [results, Yba.results11, go_sem]) rfl ⟨rfl, rfl⟩
  · have t1 : decide (a + r < 0) = true := by simp; omega
    have t2 : decide (1000000000 ≤ a + r) = false := by simp; omega
    go_enter Yba.func11, Yba.ntmps11
    go_wp2_with (first | (go_at_call 29; go_must (refine (addSec_gen _ (a + r + 1000000000) s (q - 1) _ (by omega) (by omega) (by omega) (by omega) (by omega) (by omega) (by simp) (by simp) (by simp)).mono ?_); rintro e w' ⟨rfl, rfl⟩) | (go_at_call 28; refine (nsec_any _ a _ (by omega) (by omega) (by simp)).mono ?_; rintro e w' ⟨rfl, rfl⟩))
    exact bodyPost_ret (v := .agg #[.int .u64 (a + r + 1000000000), .int .i64 (s + (q - 1)), .pointer none]) (by simp [results, Yba.results11, go_sem]) rfl ⟨rfl, rfl⟩
  · have t1 : decide (a + r < 0) = false := by simp; omega
    have t2 : decide (1000000000 ≤ a + r) = false := by simp; omega
    go_enter Yba.func11, Yba.ntmps11
    go_wp2_with (first | (go_at_call 29; go_must (refine (addSec_gen _ (a + r) s q' _ (by omega) (by omega) (by omega) (by omega) (by omega) (by omega) (by simp) (by simp) (by simp)).mono ?_); rintro e w' ⟨rfl, rfl⟩) | (go_at_call 28; refine (nsec_any _ a _ (by omega) (by omega) (by simp)).mono ?_; rintro e w' ⟨rfl, rfl⟩))
    exact bodyPost_ret (v := .agg #[.int .u64 (a + r), .int .i64 (s + q'), .pointer none]) (by simp [results, Yba.results11, go_sem]) rfl ⟨rfl, rfl⟩

/-- Time.Add, at a time of the range. -/
theorem add_gen (z d : Int) (w : World) (h0 : -9223372036854775808 ≤ d) (h1 : d ≤ 9223372036854775807) (hz0 : -9223372036854775808 ≤ z) (hz1 : z ≤ 9223372036854775807) :
    Calls Yba.prog 11 #[tv z, .int .i64 d] w fun e w' => e = .returned (tv (z + d)) ∧ w' = (w.alloc (.cells (tc (z + d)) 31)).alloc (.cells (tc (z + d)) 31) := by
  have hqr := quoRem d
  obtain ⟨q, hq⟩ : ∃ q, d.tdiv 1000000000 = q := ⟨_, rfl⟩
  obtain ⟨r, hr⟩ : ∃ q, d.tmod 1000000000 = q := ⟨_, rfl⟩
  rw [hq, hr] at hqr
  obtain ⟨hd, hcase⟩ := hqr
  have key : ∃ q' r', (z + d) % 1000000000 = r' ∧ (z + d) / 1000000000 = z / 1000000000 + q' ∧ ((1000000000 ≤ z % 1000000000 + r ∧ r' = z % 1000000000 + r - 1000000000 ∧ q' = q + 1) ∨ (z % 1000000000 + r < 0 ∧ r' = z % 1000000000 + r + 1000000000 ∧ q' = q - 1) ∨ (0 ≤ z % 1000000000 + r ∧ z % 1000000000 + r < 1000000000 ∧ r' = z % 1000000000 + r ∧ q' = q)) := by
    refine ⟨(z + d) / 1000000000 - z / 1000000000, _, rfl, by omega, ?_⟩
    omega
  obtain ⟨q', r', e1, e2, hc⟩ := key
  have := add_core (z % 1000000000) (z / 1000000000) d q r q' r' w h0 h1 (by omega) (by omega) (by omega) (by omega) hq hr (by omega) (by omega) (by omega) (by omega) hc
  unfold tv tc
  rw [e1, e2]
  exact this
end Go.Proofs.Ybulkcghm.Tm
