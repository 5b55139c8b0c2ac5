import Derived.Test.YbulkcghmProg
import Derived.WalkKit
import Derived.Below
import Derived.BigQuiet
import Derived.Deep.QuietTactic
import Derived.WalkSpells
import Derived.WalkSmall
namespace Go.Proofs.Ybulkcghm.Tm
open Go.RowKit
set_option linter.unusedVariables false

/-- A time: its seconds and nanoseconds out of the nanoseconds since year one. -/
def tv (t : Int) : Value := .agg #[.int .u64 (t % 1000000000), .int .i64 (t / 1000000000), .pointer none]

/-- The cells of a time. -/
def tc (t : Int) : Array Value := #[.int .u64 (t % 1000000000), .int .i64 (t / 1000000000), .pointer none]

theorem mask63 (x : Int) (h0 : 0 ≤ x) (h1 : x < 1073741824) : bits .and .u64 x 9223372036854775808 = 0 := by
  rw [u64_and x 9223372036854775808 h0 (by omega) (by omega) (by omega)]
  have e : x.toNat &&& (9223372036854775808 : Int).toNat = 0 := by
    show x.toNat &&& 2 ^ 63 = 0
    apply Nat.eq_of_testBit_eq
    intro j
    rw [Nat.testBit_and, Nat.testBit_two_pow, Nat.zero_testBit]
    by_cases hj : 63 = j
    · subst hj
      rw [Nat.testBit_lt_two_pow (Nat.lt_of_lt_of_le (show x.toNat < 2 ^ 30 by omega) (by decide))]
      rfl
    · simp [hj]
  rw [e]; rfl

theorem mask30 (x : Int) (h0 : 0 ≤ x) (h1 : x < 1073741824) : bits .and .u64 x 1073741823 = x := by
  rw [u64_and x 1073741823 h0 (by omega) (by omega) (by omega)]
  have e : x.toNat &&& (1073741823 : Int).toNat = x.toNat := by
    show x.toNat &&& (2 ^ 30 - 1) = _
    rw [Nat.and_two_pow_sub_one_eq_mod, Nat.mod_eq_of_lt (by omega)]
  rw [e]; omega

theorem and_small (x y : Int) (h0 : 0 ≤ x) (h1 : x < 1073741824) (h2 : 0 ≤ y) (h3 : y < 1073741824) : ∃ z, bits .and .u64 x y = z ∧ 0 ≤ z ∧ z < 1073741824 := by
  refine ⟨_, u64_and x y h0 (by omega) h2 (by omega), by omega, ?_⟩
  have : x.toNat &&& y.toNat ≤ x.toNat := Nat.and_le_left
  omega

set_option maxHeartbeats 400000 in
set_option maxRecDepth 100000 in
theorem sec_any (b : Nat) (x s : Int) (w : World) (hx0 : 0 ≤ x) (hx : x < 1073741824) (h0 : w.cell? ⟨b, 0, none⟩ = some (.int .u64 x)) (h1 : w.cell? ⟨b, 1, none⟩ = some (.int .i64 s)) :
    Calls Yba.prog 41 #[.pointer (some ⟨b, 0, none⟩)] w fun e w' => e = .returned (.int .i64 s) ∧ w' = w := by
  have hm := mask63 x hx0 hx
  go_enter Yba.func41, Yba.ntmps41
  go_wp2
  go_ret
  exact ⟨rfl, rfl⟩

set_option maxHeartbeats 400000 in
set_option maxRecDepth 100000 in
theorem nsec_any (b : Nat) (x : Int) (w : World) (hx0 : 0 ≤ x) (hx : x < 1073741824) (h0 : w.cell? ⟨b, 0, none⟩ = some (.int .u64 x)) :
    Calls Yba.prog 28 #[.pointer (some ⟨b, 0, none⟩)] w fun e w' => e = .returned (.int .i32 x) ∧ w' = w := by
  have hm := mask30 x hx0 hx
  go_enter Yba.func28, Yba.ntmps28
  go_wp2
  go_ret
  exact ⟨rfl, rfl⟩

set_option maxHeartbeats 1000000 in
set_option maxRecDepth 100000 in
theorem before_any (t u : Int) (w : World) :
    Calls Yba.prog 75 #[tv t, tv u] w fun e w' => e = .returned (.bool (decide (t < u))) ∧
      w' = (w.alloc (.cells (tc t) 31)).alloc (.cells (tc u) 31) := by
  unfold tv tc
  obtain ⟨a, ha⟩ : ∃ a, t % 1000000000 = a := ⟨_, rfl⟩
  obtain ⟨b, hb⟩ : ∃ b, t / 1000000000 = b := ⟨_, rfl⟩
  obtain ⟨c, hc⟩ : ∃ a, u % 1000000000 = a := ⟨_, rfl⟩
  obtain ⟨d, hd⟩ : ∃ b, u / 1000000000 = b := ⟨_, rfl⟩
  have hlt : (t < u) = (b < d ∨ (b = d ∧ a < c)) := propext (by omega)
  have ha1 : 0 ≤ a := by omega
  have ha2 : a < 1073741824 := by omega
  have hc1 : 0 ≤ c := by omega
  have hc2 : c < 1073741824 := by omega
  simp only [ha, hb, hc, hd, hlt]
  clear ha hb hc hd hlt
  obtain ⟨z, hz, hz0, hz1⟩ := and_small a c ha1 ha2 hc1 hc2
  have hm := mask63 z hz0 hz1
  have hma := mask63 a ha1 ha2
  have hmc := mask63 c hc1 hc2
  have hna := mask30 a ha1 ha2
  have hnc := mask30 c hc1 hc2
  by_cases h1 : b < d
  · have e1 : decide (b < d ∨ b = d ∧ a < c) = true := by simp [h1]
    rw [e1]
    go_enter Yba.func75, Yba.ntmps75
    go_wp2
    go_ret
    exact ⟨rfl, rfl⟩
  · have e0 : decide (b < d) = false := by simpa using h1
    by_cases h2 : b = d
    · subst h2
      have e1 : decide (b < b ∨ b = b ∧ a < c) = decide (a < c) := by simp
      rw [e1]
      go_enter Yba.func75, Yba.ntmps75
      go_wp2
      go_ret
      exact ⟨rfl, rfl⟩
    · have e1 : decide (b < d ∨ b = d ∧ a < c) = false := by simp [h1, h2]
      have e2 : (b == d) = false := by simp [h2]
      rw [e1]
      go_enter Yba.func75, Yba.ntmps75
      go_wp2
      go_ret
      exact ⟨rfl, rfl⟩

set_option maxHeartbeats 1000000 in
set_option maxRecDepth 100000 in
theorem equal_any (t u : Int) (w : World) :
    Calls Yba.prog 19 #[tv t, tv u] w fun e w' => e = .returned (.bool (t == u)) ∧
      w' = (w.alloc (.cells (tc t) 31)).alloc (.cells (tc u) 31) := by
  unfold tv tc
  obtain ⟨a, ha⟩ : ∃ a, t % 1000000000 = a := ⟨_, rfl⟩
  obtain ⟨b, hb⟩ : ∃ b, t / 1000000000 = b := ⟨_, rfl⟩
  obtain ⟨c, hc⟩ : ∃ a, u % 1000000000 = a := ⟨_, rfl⟩
  obtain ⟨d, hd⟩ : ∃ b, u / 1000000000 = b := ⟨_, rfl⟩
  have hlt : (t == u) = (b == d && a == c) := by
    rw [Bool.eq_iff_iff]; simp; omega
  have ha1 : 0 ≤ a := by omega
  have ha2 : a < 1073741824 := by omega
  have hc1 : 0 ≤ c := by omega
  have hc2 : c < 1073741824 := by omega
  simp only [ha, hb, hc, hd, hlt]
  clear ha hb hc hd hlt
  obtain ⟨z, hz, hz0, hz1⟩ := and_small a c ha1 ha2 hc1 hc2
  have hm := mask63 z hz0 hz1
  have hma := mask63 a ha1 ha2
  have hmc := mask63 c hc1 hc2
  have hna := mask30 a ha1 ha2
  have hnc := mask30 c hc1 hc2
  by_cases h2 : b = d
  · subst h2
    have e1 : (b == b && a == c) = (a == c) := by simp
    rw [e1]
    go_enter Yba.func19, Yba.ntmps19
    go_wp2
    go_ret
    exact ⟨rfl, rfl⟩
  · have e2 : (b == d) = false := by simp [h2]
    rw [e2, Bool.false_and]
    go_enter Yba.func19, Yba.ntmps19
    go_wp2
    go_ret
    exact ⟨rfl, rfl⟩

theorem or_zero (n : Int) (h0 : 0 ≤ n) (h1 : n < 1073741824) : bits .or .u64 0 n = n := by
  rw [u64_or 0 n (by omega) (by omega) h0 (by omega)]
  simp; omega

theorem and0 : bits .and .u64 0 1073741823 = 0 := by decide +kernel
theorem andNot0 : bits .andNot .u64 0 1073741823 = 0 := by decide +kernel

set_option maxHeartbeats 1000000 in
set_option maxRecDepth 100000 in
theorem addSec_any (b : Nat) (x d : Int) (w : World) (hx0 : 0 ≤ x) (hx : x < 1073741824) (hd0 : -10000000000 ≤ d) (hd1 : d ≤ 10000000000)
    (h0 : w.cell? ⟨b, 0, none⟩ = some (.int .u64 x)) (h1 : w.cell? ⟨b, 1, none⟩ = some (.int .i64 0)) (h1f : w.frozen? ⟨b, 1, none⟩ = false) :
    Calls Yba.prog 29 #[.pointer (some ⟨b, 0, none⟩), .int .i64 d] w fun e w' => e = .returned (.tuple #[]) ∧ w' = w.setCell ⟨b, 1, none⟩ (.int .i64 d) := by
  have hm := mask63 x hx0 hx
  by_cases hp : 0 < d
  all_goals
    go_enter Yba.func29, Yba.ntmps29
    go_wp2
    go_end0
    exact ⟨rfl, rfl⟩

theorem quoRem (d : Int) : d = 1000000000 * d.tdiv 1000000000 + d.tmod 1000000000 ∧ ((0 ≤ d ∧ 0 ≤ d.tmod 1000000000 ∧ d.tmod 1000000000 < 1000000000) ∨ (d < 0 ∧ -1000000000 < d.tmod 1000000000 ∧ d.tmod 1000000000 ≤ 0)) := by
  refine ⟨(Int.mul_tdiv_add_tmod d 1000000000).symm, ?_⟩
  rcases Int.lt_or_le d 0 with h | h
  · right
    obtain ⟨m, rfl⟩ : ∃ m, d = -m := ⟨-d, by omega⟩
    rw [Int.neg_tmod, Int.tmod_eq_emod_of_nonneg (by omega)]
    omega
  · left
    rw [Int.tmod_eq_emod_of_nonneg h]
    omega

set_option maxHeartbeats 1000000 in
set_option maxRecDepth 100000 in
theorem add_any (d : Int) (w : World) (h0 : -9223372036854775808 ≤ d) (h1 : d ≤ 9223372036854775807) :
    Calls Yba.prog 11 #[.agg #[.int .u64 0, .int .i64 0, .pointer none], .int .i64 d] w fun e w' => e = .returned (tv d) ∧ w' = (w.alloc (.cells (tc d) 31)).alloc (.cells (tc d) 31) := by
  have ha := and0
  have hn := andNot0
  have hqr := quoRem d
  obtain ⟨q, hq⟩ : ∃ q, d.tdiv 1000000000 = q := ⟨_, rfl⟩
  obtain ⟨r, hr⟩ : ∃ q, d.tmod 1000000000 = q := ⟨_, rfl⟩
  rw [hq, hr] at hqr
  obtain ⟨hd, hcase⟩ := hqr
  have hr1 : -1000000000 < r := by omega
  have hr2 : r < 1000000000 := by omega
  have hq1 : -9223372038 ≤ q := by omega
  have hq2 : q ≤ 9223372038 := by omega
  by_cases hneg : r < 0
  · have e1 : d % 1000000000 = r + 1000000000 := by omega
    have e2 : d / 1000000000 = q - 1 := by omega
    have ho := or_zero (r + 1000000000) (by omega) (by omega)
    have HE : Hid (tv d = .agg #[.int .u64 (r + 1000000000), .int .i64 (q - 1), .pointer none]) := by unfold Hid tv; rw [e1, e2]
    have HC : Hid (tc d = #[.int .u64 (r + 1000000000), .int .i64 (q - 1), .pointer none]) := by unfold Hid tc; rw [e1, e2]
    have hm := mask63 (r + 1000000000) (by omega) (by omega)
    clear hd e1 e2 hcase
    go_enter Yba.func11, Yba.ntmps11
    go_wp2_with (first | (go_at_call 29; go_must (refine (addSec_any _ (r + 1000000000) (q - 1) _ (by omega) (by omega) (by omega) (by omega) (by simp) (by simp) (by simp)).mono ?_); rintro e w' ⟨rfl, rfl⟩) | go_in)
    rw [HE.out, HC.out]
    exact bodyPost_ret (v := .agg #[.int .u64 (r + 1000000000), .int .i64 (q - 1), .pointer none]) (by simp [results, Yba.results11, go_sem]) rfl ⟨rfl, rfl⟩
  · have e1 : d % 1000000000 = r := by omega
    have e2 : d / 1000000000 = q := by omega
    have ho := or_zero r (by omega) (by omega)
    have HE : Hid (tv d = .agg #[.int .u64 r, .int .i64 q, .pointer none]) := by unfold Hid tv; rw [e1, e2]
    have HC : Hid (tc d = #[.int .u64 r, .int .i64 q, .pointer none]) := by unfold Hid tc; rw [e1, e2]
    have hm := mask63 r (by omega) (by omega)
    clear hd e1 e2 hcase
    go_enter Yba.func11, Yba.ntmps11
    go_wp2_with (first | (go_at_call 29; go_must (refine (addSec_any _ r q _ (by omega) (by omega) (by omega) (by omega) (by simp) (by simp) (by simp)).mono ?_); rintro e w' ⟨rfl, rfl⟩) | go_in)
    rw [HE.out, HC.out]
    exact bodyPost_ret (v := .agg #[.int .u64 r, .int .i64 q, .pointer none]) (by simp [results, Yba.results11, go_sem]) rfl ⟨rfl, rfl⟩

end Go.Proofs.Ybulkcghm.Tm
